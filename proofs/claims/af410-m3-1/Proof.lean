import JvmDerived
import JvmDerived.Pilot.@@N@@Statement
import JvmDerived.Pilot.@@N@@Code
set_option linter.unusedVariables false
set_option linter.unusedSimpArgs false
namespace Jvm.RoadKit
open Sem ClassFile Op Lib Jvm.Stand Jvm.Free Jvm.LawKit
section OwnFlow
variable {p : Program} {l : Launch} {e : Env} {R : Room} {s : State} {m : MethodId} {args : Array Value} {below : List Frame} {meth : Method} {c : Code} {T : State} {locs : List Loc} {cells slots : Nat} {P : State → Outcome → Prop} {Q : Option Value → Heap → List Loc → Prop} {C S : Nat}
/-- from t the run comes to an end at which P holds -/
def OGo (p : Program) (e : Env) (below : List Frame) (P : State → Outcome → Prop) (t : State) : Prop := ∃ s₂ o, Steps p.tables e below t s₂ ∧ s₂.status = .running ∧ Ended s₂ below o ∧ P s₂ o
/-- it returned; Q of the value, the heap and the places written; the frame -/
def OPost (s : State) (Q : Option Value → Heap → List Loc → Prop) (C S : Nat) (s₂ : State) (o : Outcome) : Prop := ∃ v L, o = .returned v ∧ Q v s₂.heap L ∧ FrameEnd s o s₂ L C S
theorem OGo.step {t t' : State} (h : ∀ u, Steps p.tables e below t' u → Steps p.tables e below t u) (g : OGo p e below P t') : OGo p e below P t := by
  obtain ⟨s2, o, h1, h2⟩ := g
  exact ⟨s2, o, h _ h1, h2⟩
theorem OGo.steps {t t' : State} (h : Steps p.tables e below t t') (g : OGo p e below P t') : OGo p e below P t := OGo.step (fun _ k => h.trans k) g
theorem OGo.retI (X : Stand p l e R s m args below meth c T locs cells slots) (hx : p.tables.exec = Jvm.exec) (hk : meth.locks = false) {pc : Nat} {Ls : Array Slot} {z : Int32} {rest : List Value} (hret : meth.sig.returnType = some .int) (hd : decode c.code pc = .ok (.ireturn, 1))
    (hc : cells ≤ C) (hs : slots ≤ S) (q : Q (some (.int z)) T.heap locs) : OGo p e below (OPost s Q C S) (T.setTop (mkF m pc Ls (.int z :: rest))) := by
  obtain ⟨fs, hr, hrun, hended, hW, hsame⟩ := X.leave (v := some (.int z)) (fun h => by rw [hret] at h; cases h) hk
  exact ⟨_, _, retOut X hx hret rfl (Or.inl ⟨rfl, Or.inl rfl, _, rfl⟩) hd hr, hrun, hended, _, _, rfl, q, ⟨_, rfl⟩, hW, hsame.mono hc hs⟩
theorem OGo.retN (X : Stand p l e R s m args below meth c T locs cells slots) (hx : p.tables.exec = Jvm.exec) (hk : meth.locks = false) {pc : Nat} {Ls : Array Slot} {z : Int32} {t : FieldType} {rest : List Value} (hret : meth.sig.returnType = some t) (ht : t = .boolean ∨ t = .byte ∨ t = .char ∨ t = .short) (hd : decode c.code pc = .ok (.ireturn, 1))
    (hc : cells ≤ C) (hs : slots ≤ S) (q : Q (some (.int (nar t z))) T.heap locs) : OGo p e below (OPost s Q C S) (T.setTop (mkF m pc Ls (.int z :: rest))) := by
  obtain ⟨fs, hr, hrun, hended, hW, hsame⟩ := X.leave (v := some (.int (nar t z))) (fun h => by rw [hret] at h; cases h) hk
  exact ⟨_, _, Jvm.RoadKit.retN X hx hret ht hd hr, hrun, hended, _, _, rfl, q, ⟨_, rfl⟩, hW, hsame.mono hc hs⟩
theorem OGo.retJ (X : Stand p l e R s m args below meth c T locs cells slots) (hx : p.tables.exec = Jvm.exec) (hk : meth.locks = false) {pc : Nat} {Ls : Array Slot} {z : Int64} {rest : List Value} (hret : meth.sig.returnType = some .long) (hd : decode c.code pc = .ok (.lreturn, 1))
    (hc : cells ≤ C) (hs : slots ≤ S) (q : Q (some (.long z)) T.heap locs) : OGo p e below (OPost s Q C S) (T.setTop (mkF m pc Ls (.long z :: rest))) := by
  obtain ⟨fs, hr, hrun, hended, hW, hsame⟩ := X.leave (v := some (.long z)) (fun h => by rw [hret] at h; cases h) hk
  exact ⟨_, _, retOut X hx hret rfl (Or.inr (Or.inl ⟨rfl, rfl, _, rfl⟩)) hd hr, hrun, hended, _, _, rfl, q, ⟨_, rfl⟩, hW, hsame.mono hc hs⟩
theorem OGo.retR (X : Stand p l e R s m args below meth c T locs cells slots) (hx : p.tables.exec = Jvm.exec) (hk : meth.locks = false) {pc : Nat} {Ls : Array Slot} {w : Value} {t : FieldType} {rest : List Value} (hret : meth.sig.returnType = some t) (ht : t.isReference = true) (hw : w.isRef = true) (hd : decode c.code pc = .ok (.areturn, 1))
    (hc : cells ≤ C) (hs : slots ≤ S) (q : Q (some w) T.heap locs) : OGo p e below (OPost s Q C S) (T.setTop (mkF m pc Ls (w :: rest))) := by
  obtain ⟨fs, hr, hrun, hended, hW, hsame⟩ := X.leave (v := some w) (fun h => by rw [hret] at h; cases h) hk
  have hn : narrow t w = w := by rcases ref_cases hw with rfl | ⟨a, rfl⟩ <;> cases t <;> first | rfl | (simp [FieldType.isReference] at ht)
  exact ⟨_, _, retOut X hx hret hn (Or.inr (Or.inr (Or.inr (Or.inr ⟨rfl, ht, hw⟩)))) hd hr, hrun, hended, _, _, rfl, q, ⟨_, rfl⟩, hW, hsame.mono hc hs⟩
theorem OGo.retV (X : Stand p l e R s m args below meth c T locs cells slots) (hx : p.tables.exec = Jvm.exec) (hk : meth.locks = false) {pc : Nat} {Ls : Array Slot} (hret : meth.sig.returnType = none) (hd : decode c.code pc = .ok (.return_, 1))
    (hc : cells ≤ C) (hs : slots ≤ S) (q : Q none T.heap locs) : OGo p e below (OPost s Q C S) (T.setTop (mkF m pc Ls [])) := by
  obtain ⟨fs, hr, hrun, hended, hW, hsame⟩ := X.leave (v := none) (fun _ => rfl) hk
  exact ⟨_, _, X.returnOut hx hret hd hr, hrun, hended, _, _, rfl, q, ⟨_, rfl⟩, hW, hsame.mono hc hs⟩
end OwnFlow
end Jvm.RoadKit
namespace Jvm.Pilot.@@N@@
open Jvm Jvm.ClassFile Sem Op Lib Jvm.Free Jvm.Stand Jvm.LawKit Jvm.RoadKit Bundle Jvm.Pilot.@@N@@.Jvm.D
abbrev jx (w r f : Int32) : Int32 := (((r &&& (4095 : Int32)) * w) + f)
def gv (j2 v2 j1 v1 j : Int32) : Int32 := if j = j2 then v2 else if j = j1 then v1 else 0
theorem own_getH {j1 j2 j v1 v2 : Int32} (hj : ¬ j < 0) : getH ((j2, Value.int v2) :: ((j1, Value.int v1) :: [])) [] (.int (0 : Int32)) j.toNatClampNeg = .int (gv j2 v2 j1 v1 j) := by
  unfold gv
  by_cases a : j = j2
  · rw [if_pos a]; exact getH_hit hj a
  · rw [if_neg a]
    by_cases b : j = j1
    · rw [if_pos b]; exact getH_miss hj a (getH_hit hj b)
    · rw [if_neg b]; exact getH_miss hj a (getH_miss hj b rfl)
theorem own_jx (w r f : Int32) (hW : 1 ≤ w.toInt ∧ w.toInt ≤ 4) (hr : 0 ≤ r.toInt ∧ r.toInt ≤ 2) (hf : 0 ≤ f.toInt ∧ f.toInt < w.toInt) : (jx w r f).toInt = r.toInt * w.toInt + f.toInt ∧ ¬ jx w r f < 0 ∧ jx w r f < (8 : Int32) * w := by
  have a := c_mask r 4095 12 (by decide) (by decide)
  have b := c_imul (r &&& 4095) w
  have c := c_iadd ((r &&& 4095) * w) f
  have d := c_imul 8 w
  have e8 : (8 : Int32).toInt = 8 := by decide
  have e0 : (0 : Int32).toInt = 0 := by decide
  have r1 := rng32 ((r &&& 4095) * w)
  have r2 := rng32 ((r &&& 4095) * w + f)
  have r3 := rng32 ((8 : Int32) * w)
  have ee : (r &&& 4095).toInt = r.toInt := by omega
  rw [ee] at b
  rw [e8] at d
  have hw : w.toInt = 1 ∨ w.toInt = 2 ∨ w.toInt = 3 ∨ w.toInt = 4 := by omega
  show ((r &&& 4095) * w + f).toInt = _ ∧ ¬ ((r &&& 4095) * w + f) < 0 ∧ ((r &&& 4095) * w + f) < 8 * w
  rw [Int32.lt_iff_toInt_lt, Int32.lt_iff_toInt_lt, e0]
  rcases hw with h | h | h | h
  · rw [h] at b d hf ⊢
    have m1 : ((r &&& 4095) * w).toInt = r.toInt * 1 := by omega
    have m2 : ((r &&& 4095) * w + f).toInt = r.toInt * 1 + f.toInt := by omega
    have m3 : ((8 : Int32) * w).toInt = 8 * 1 := by omega
    omega
  · rw [h] at b d hf ⊢
    have m1 : ((r &&& 4095) * w).toInt = r.toInt * 2 := by omega
    have m2 : ((r &&& 4095) * w + f).toInt = r.toInt * 2 + f.toInt := by omega
    have m3 : ((8 : Int32) * w).toInt = 8 * 2 := by omega
    omega
  · rw [h] at b d hf ⊢
    have m1 : ((r &&& 4095) * w).toInt = r.toInt * 3 := by omega
    have m2 : ((r &&& 4095) * w + f).toInt = r.toInt * 3 + f.toInt := by omega
    have m3 : ((8 : Int32) * w).toInt = 8 * 3 := by omega
    omega
  · rw [h] at b d hf ⊢
    have m1 : ((r &&& 4095) * w).toInt = r.toInt * 4 := by omega
    have m2 : ((r &&& 4095) * w + f).toInt = r.toInt * 4 + f.toInt := by omega
    have m3 : ((8 : Int32) * w).toInt = 8 * 4 := by omega
    omega
theorem own_hz (r : Int32) (hr : 0 ≤ r.toInt ∧ r.toInt ≤ 2) : ((r.toUInt32 >>> ((12 : Int32) &&& 31).toUInt32).toInt32) = (0 : Int32) := by
  have a := c_iushr r 12 12 (by decide) (by decide)
  have e0 : (0 : Int32).toInt = 0 := by decide
  apply Int32.toInt_inj.mp
  rw [a, e0]; omega
theorem own_inj (w r f r' f' : Int32) (hW : 1 ≤ w.toInt ∧ w.toInt ≤ 4) (hr : 0 ≤ r.toInt ∧ r.toInt ≤ 2) (hf : 0 ≤ f.toInt ∧ f.toInt < w.toInt) (hr' : 0 ≤ r'.toInt ∧ r'.toInt ≤ 2) (hf' : 0 ≤ f'.toInt ∧ f'.toInt < w.toInt) : jx w r f = jx w r' f' ↔ r = r' ∧ f = f' := by
  constructor
  · intro h
    have a := (own_jx w r f hW hr hf).1
    have b := (own_jx w r' f' hW hr' hf').1
    rw [h, b] at a
    have hw : w.toInt = 1 ∨ w.toInt = 2 ∨ w.toInt = 3 ∨ w.toInt = 4 := by omega
    have : r.toInt = r'.toInt ∧ f.toInt = f'.toInt := by
      rcases hw with h | h | h | h <;> rw [h] at a hf hf' <;> omega
    exact ⟨Int32.toInt_inj.mp this.1, Int32.toInt_inj.mp this.2⟩
  · rintro ⟨rfl, rfl⟩; rfl
theorem own_e1 (w r1 f1 r2 f2 v1 v2 s12 : Int32) (hW : 1 ≤ w.toInt ∧ w.toInt ≤ 4) (hr1 : 0 ≤ r1.toInt ∧ r1.toInt ≤ 2) (hf1 : 0 ≤ f1.toInt ∧ f1.toInt < w.toInt) (hr2 : 0 ≤ r2.toInt ∧ r2.toInt ≤ 2) (hf2 : 0 ≤ f2.toInt ∧ f2.toInt < w.toInt)
    (hs : s12 = (if r1 = r2 then (if f1 = f2 then (1 : Int32) else (0 : Int32)) else (0 : Int32))) : gv (jx w r2 f2) v2 (jx w r1 f1) v1 (jx w r1 f1) = (if s12 = (0 : Int32) then v1 else v2) := by
  have q := own_inj w r1 f1 r2 f2 hW hr1 hf1 hr2 hf2
  unfold gv
  by_cases a : r1 = r2 ∧ f1 = f2
  · rw [if_pos (q.mpr a), hs, if_pos a.1, if_pos a.2, if_neg (by decide)]
  · rw [if_neg (fun z => a (q.mp z)), if_pos rfl]
    have : s12 = 0 := by
      rw [hs]
      by_cases b : r1 = r2
      · rw [if_pos b, if_neg (fun z => a ⟨b, z⟩)]
      · rw [if_neg b]
    rw [if_pos this]
theorem own_e3 (w r1 f1 r2 f2 r3 f3 v1 v2 : Int32) (hW : 1 ≤ w.toInt ∧ w.toInt ≤ 4) (hr1 : 0 ≤ r1.toInt ∧ r1.toInt ≤ 2) (hf1 : 0 ≤ f1.toInt ∧ f1.toInt < w.toInt) (hr2 : 0 ≤ r2.toInt ∧ r2.toInt ≤ 2) (hf2 : 0 ≤ f2.toInt ∧ f2.toInt < w.toInt) (hr3 : 0 ≤ r3.toInt ∧ r3.toInt ≤ 2) (hf3 : 0 ≤ f3.toInt ∧ f3.toInt < w.toInt) :
    gv (jx w r2 f2) v2 (jx w r1 f1) v1 (jx w r3 f3) = (if r3 = r2 then (if f3 = f2 then v2 else (if r3 = r1 then (if f3 = f1 then v1 else (0 : Int32)) else (0 : Int32))) else (if r3 = r1 then (if f3 = f1 then v1 else (0 : Int32)) else (0 : Int32))) := by
  have q2 := own_inj w r3 f3 r2 f2 hW hr3 hf3 hr2 hf2
  have q1 := own_inj w r3 f3 r1 f1 hW hr3 hf3 hr1 hf1
  have t : (if jx w r3 f3 = jx w r1 f1 then v1 else (0 : Int32)) = (if r3 = r1 then (if f3 = f1 then v1 else (0 : Int32)) else (0 : Int32)) := by
    by_cases a : r3 = r1 ∧ f3 = f1
    · rw [if_pos (q1.mpr a), if_pos a.1, if_pos a.2]
    · rw [if_neg (fun z => a (q1.mp z))]
      by_cases b : r3 = r1
      · rw [if_pos b, if_neg (fun z => a ⟨b, z⟩)]
      · rw [if_neg b]
  unfold gv
  rw [t]
  by_cases a : r3 = r2 ∧ f3 = f2
  · rw [if_pos (q2.mpr a), if_pos a.1, if_pos a.2]
  · rw [if_neg (fun z => a (q2.mp z))]
    by_cases b : r3 = r2
    · rw [if_pos b, if_neg (fun z => a ⟨b, z⟩)]
    · rw [if_neg b]
theorem own_w (z w : Int32) (h : w = ((1 : Int32) + (z &&& (3 : Int32)))) : 1 ≤ w.toInt ∧ w.toInt ≤ 4 := by
  have a := c_mask z 3 2 (by decide) (by decide)
  have b := c_iadd 1 (z &&& 3)
  have e1 : (1 : Int32).toInt = 1 := by decide
  rw [← h, e1] at b
  have := rng32 w
  omega
theorem own_rec (z m r : Int32) (hm : 0 ≤ m.toInt) (h : r = ((z &&& m) % (3 : Int32))) : 0 ≤ r.toInt ∧ r.toInt ≤ 2 := by
  have a := c_and z m hm
  have b := (c_irem (z &&& m) 3 3 (by decide)).1 a.1
  rw [← h] at b
  omega
theorem own_fld (z w f : Int32) (hW : 1 ≤ w.toInt ∧ w.toInt ≤ 4) (h : f = (((z.toUInt32 >>> ((8 : Int32) &&& 31).toUInt32).toInt32) % w)) : 0 ≤ f.toInt ∧ f.toInt < w.toInt := by
  have a := c_iushr z 8 8 (by decide) (by decide)
  have b := (c_iremV ((z.toUInt32 >>> ((8 : Int32) &&& 31).toUInt32).toInt32) w).1 (by omega) (by omega)
  rw [← h] at b
  omega
theorem own_w0 (w : Int32) (hW : 1 ≤ w.toInt ∧ w.toInt ≤ 4) : w ≠ 0 := fun q => by
  rw [q] at hW
  have e0 : (0 : Int32).toInt = 0 := by decide
  omega
theorem own_len (w : Int32) (hW : 1 ≤ w.toInt ∧ w.toInt ≤ 4) : ¬ ((8 : Int32) * w < 0) ∧ ((8 : Int32) * w).toNatClampNeg ≤ 32 := by
  have d := c_imul 8 w
  have e8 : (8 : Int32).toInt = 8 := by decide
  have e0 : (0 : Int32).toInt = 0 := by decide
  have r3 := rng32 ((8 : Int32) * w)
  rw [e8] at d
  refine ⟨by rw [Int32.lt_iff_toInt_lt, e0]; omega, ?_⟩
  show ((8 : Int32) * w).toInt.toNat ≤ 32
  omega
theorem own_ne8 (n w i : Int32) (hW : 1 ≤ w.toInt ∧ w.toInt ≤ 4) (hn : n = (1 : Int32) ∨ n = (2 : Int32)) (h : i = ((n &&& (4095 : Int32)) * w)) : ¬ (((8 : Int32) * w) = i) := fun q => by
  have d := c_imul 8 w
  have e8 : (8 : Int32).toInt = 8 := by decide
  have b := c_imul (n &&& 4095) w
  have r3 := rng32 ((8 : Int32) * w)
  rw [← h] at b
  rw [q] at d r3
  have e : (n &&& (4095 : Int32)).toInt = 1 ∨ (n &&& (4095 : Int32)).toInt = 2 := by
    rcases hn with h | h
    · left; rw [h]; decide
    · right; rw [h]; decide
  rw [e8] at d
  rcases e with h | h <;> rw [h] at b <;> omega
theorem d1_0 : decode prog_34_method_1_code 0 = .ok (.aload_n 0, 1) := by decide +kernel
theorem d1_1 : decode prog_34_method_1_code 1 = .ok (.invokespecial 3, 3) := by decide +kernel
theorem d1_4 : decode prog_34_method_1_code 4 = .ok (.aload_n 0, 1) := by decide +kernel
theorem d1_5 : decode prog_34_method_1_code 5 = .ok (.iconst 1, 1) := by decide +kernel
theorem d1_6 : decode prog_34_method_1_code 6 = .ok (.anewarray 9, 3) := by decide +kernel
theorem d1_9 : decode prog_34_method_1_code 9 = .ok (.putfield 11, 3) := by decide +kernel
theorem d1_12 : decode prog_34_method_1_code 12 = .ok (.aload_n 0, 1) := by decide +kernel
theorem d1_13 : decode prog_34_method_1_code 13 = .ok (.iload_n 1, 1) := by decide +kernel
theorem d1_14 : decode prog_34_method_1_code 14 = .ok (.putfield 15, 3) := by decide +kernel
theorem d1_17 : decode prog_34_method_1_code 17 = .ok (.return_, 1) := by decide +kernel
theorem pni : plainName "com/example/hitung/hitung/IntChunks" = true := by first | (simp [plainName, overriddenIn]; done) | decide +kernel
theorem efi (m : MethodId) (x0 : Addr) (x1 : Int32) : entryFrame m #[(.ref x0), (.int x1)] 2 = mkF m 0 #[.val (.ref x0), .val (.int x1)] [] := by first | (simp [entryFrame, mkF, argsToLocals, Value.category]; done) | rfl
def Qi (Z : State) (a : Addr) (w : Int32) (h0 : Heap) (n0 : Nat) (v : Option Value) (h : Heap) (L : List Loc) : Prop := v = none ∧ Fr n0 L ∧ Keep h0 h [a] ∧ ∃ (aC : Addr) (kc : ClassId), n0 ≤ aC ∧ h0.size ≤ aC ∧ Fld Z h a "com/example/hitung/hitung/IntChunks" "chunks" "[[I" (.ref aC) ∧ Fld Z h a "com/example/hitung/hitung/IntChunks" "width" "I" (.int w) ∧ Fld Z h a "com/example/hitung/hitung/IntChunks" "size" "I" (.int (0 : Int32)) ∧ Arv Z h aC kc (.array .int) (1 : Int32) [.null] .null ∧ OvrA Z kc .int "[I"
set_option maxRecDepth 65536 in
set_option maxHeartbeats 40000000 in
theorem rmi (l : Launch) (Z : State) (a0 : Array Value) (hw : ∀ d ∈ tables_1, d.before a0 Z = true) (ws : List Jvm.Cond) (a : Addr) (w : Int32) (h0 : Heap) (n0 : Nat) (Z0 : n0 ≤ h0.size) (Fc : Fld Z h0 a "com/example/hitung/hitung/IntChunks" "chunks" "[[I" .null) (Fw : Fld Z h0 a "com/example/hitung/hitung/IntChunks" "width" "I" (.int (0 : Int32))) (Fs : Fld Z h0 a "com/example/hitung/hitung/IntChunks" "size" "I" (.int (0 : Int32))) (Ex : Exa Z h0 a "com/example/hitung/hitung/IntChunks") (ga : n0 ≤ a) :
    MetFree l (⟨"com/example/hitung/hitung/IntChunks", "<init>", "(I)V"⟩ : MethodName) (head1 (Jvm.Cond.code (⟨"com/example/hitung/hitung/IntChunks", "<init>", "(I)V"⟩ : MethodName) prog_34_method_1_code 2 none :: ws) ({ frames := 1, cells := 1, slots := 1, locals := 12 } : Room)) (fun aQ UQ => aQ = #[(.ref a), (.int w)] ∧ Z.Warmed39 UQ.vm ∧ UQ.heap = h0) (fun _ _ _ _ _ => True) (fun _ U o U' => ∃ v L, o = .returned v ∧ Qi Z a w h0 n0 v U'.heap L ∧ FrameEnd U o U' L ({ frames := 1, cells := 1, slots := 1, locals := 12 } : Room).cells ({ frames := 1, cells := 1, slots := 1, locals := 12 } : Room).slots) := by
  refine MetFree.of_bodySF (plainFor_of_name pni) hisR ?_
  intro p e s m args below meth c s₁ Bd hml0 hP hK
  obtain ⟨rfl, hZ, hh⟩ := hP
  have hx := Bd.exec
  have hby := Bd.bytes
  have hml : c.maxLocals = 2 := hml0
  have hown : s.vm.findClass "com/example/hitung/hitung/IntChunks" = some m.cls := findClass_of_methodNamed Bd.named
  have hnm := (name_of_methodNamed Bd.named Bd.method).1
  have X0 : Stand p l e ({ frames := 1, cells := 1, slots := 1, locals := 12 } : Room) s m #[(.ref a), (.int w)] below meth c s₁ [] 0 0 := Stand.of_body Bd
  have e0 : s₁.heap = h0 := by rw [← hh, Bd.state]; rfl
  have N0 := Fr.nil n0
  show OGo p e below (OPost s (Qi Z a w h0 n0) ({ frames := 1, cells := 1, slots := 1, locals := 12 } : Room).cells ({ frames := 1, cells := 1, slots := 1, locals := 12 } : Room).slots) (s₁.setTop (entryFrame m #[(.ref a), (.int w)] 2))
  refine OGo.step (fun uK kK => castTop (efi m a w) kK) ?_
  show OGo p e below _ (s₁.setTop (mkF m 0 #[.val (.ref a), .val (.int w)] []))
  refine OGo.step (fun uK kK => XS.aloadN X0.here hx rfl (hb hby d1_0) rfl rfl kK) ?_
  show OGo p e below _ (s₁.setTop (mkF m 1 #[.val (.ref a), .val (.int w)] [(.ref a)]))
  obtain ⟨T1, X1, e1, st1⟩ := initO X0 hx hZ hown (hw _ (List.mem_of_getElem? (i := 6) rfl)) (hw _ (List.mem_of_getElem? (i := 7) rfl)) (hw _ (List.mem_of_getElem? (i := 8) rfl)) e0 (g := (mkF m 1 #[.val (.ref a), .val (.int w)] [(.ref a)])) rfl (by rw [hml]; rfl) rfl (hb hby d1_1) (by decide) (W := 0) (by show 2 * 0 + _ ≤ _; exact Nat.le_of_eq rfl) (by decide)
  refine OGo.step (fun uK kK => st1 uK kK) ?_
  show OGo p e below _ (T1.setTop (mkF m 4 #[.val (.ref a), .val (.int w)] []))
  refine OGo.step (fun uK kK => XS.aloadN X1.here hx rfl (hb hby d1_4) rfl rfl kK) ?_
  show OGo p e below _ (T1.setTop (mkF m 5 #[.val (.ref a), .val (.int w)] [(.ref a)]))
  refine OGo.step (fun uK kK => XS.iconst X1.here hx rfl (hb hby d1_5) kK) ?_
  show OGo p e below _ (T1.setTop (mkF m 6 #[.val (.ref a), .val (.int w)] [(.int (1 : Int32)), (.ref a)]))
  obtain ⟨T2, h2, ki2, X2, e2, E2, A2, Ea2, O2, st2⟩ := newRA X1 hx hZ (ty := .int) hown (by decide) (hw _ (List.mem_of_getElem? (i := 9) rfl)) (hw _ (List.mem_of_getElem? (i := 10) rfl)) e1 (g := (mkF m 6 #[.val (.ref a), .val (.int w)] [(.int (1 : Int32)), (.ref a)])) rfl (hb hby d1_6) rfl (by decide) (cap := 1) (by decide) (by decide) (by decide) (by decide) (ad := "[[I") (by decide)
  obtain ⟨b2, g2⟩ : ∃ z, z = h0.size := ⟨_, rfl⟩
  rw [← g2] at A2 Ea2 st2
  have ne_a_b2 : a ≠ b2 := Nat.ne_of_lt (Nat.lt_of_lt_of_le Fc.lt (Nat.le_of_eq g2.symm))
  have gn_b2 : n0 ≤ b2 := Nat.le_trans Z0 (Nat.le_of_eq g2.symm)
  have sz_b2 : h0.size ≤ b2 := Nat.le_trans (Keep.refl h0 [a]).1 (Nat.le_of_eq g2.symm)
  have Fc_3 := (Fc.ext E2)
  have Fw_4 := (Fw.ext E2)
  have Fs_5 := (Fs.ext E2)
  have Ex_6 := (Ex.ext E2)
  have ZS2 : n0 ≤ h2.size := Nat.le_trans Z0 E2.1
  have KC2 : Keep h0 h2 [a] := (Keep.refl h0 [a]).ext E2
  have V_b2 : Arv Z h2 b2 ki2 (.array .int) (1 : Int32) [.null] .null := (Arv.new A2 (by decide)).pad (pad_rep [] .null 1)
  refine OGo.step (fun uK kK => st2 uK kK) ?_
  show OGo p e below _ (T2.setTop (mkF m 9 #[.val (.ref a), .val (.int w)] [(.ref b2), (.ref a)]))
  obtain ⟨T7, h7, X7, e7, W7, st7⟩ := putF X2 hx hZ hown (host := "") (Or.inl (hw _ (List.mem_of_getElem? (i := 11) rfl))) Via.refl e2 Fc_3 Ex_6 (Or.inl (hw _ (List.mem_of_getElem? (i := 12) rfl))) (hw _ (List.mem_of_getElem? (i := 1) rfl)) (ty := (.array (.array .int))) (by decide) rfl rfl (g := (mkF m 9 #[.val (.ref a), .val (.int w)] [(.ref b2), (.ref a)])) rfl rfl (hb hby d1_9)
  have Fw7 := Fc_3.same W7
  have Fw_9 := (Fw_4.other W7 (Or.inr (slot_ne (Or.inr (hw _ (List.mem_of_getElem? (i := 14) rfl))) (Or.inl (hw _ (List.mem_of_getElem? (i := 12) rfl))) (by decide) (t := .int) (t' := (.array (.array .int))) (by decide) (by decide))))
  have Fs_10 := (Fs_5.other W7 (Or.inr (slot_ne (Or.inl (hw _ (List.mem_of_getElem? (i := 21) rfl))) (Or.inl (hw _ (List.mem_of_getElem? (i := 12) rfl))) (by decide) (t := .int) (t' := (.array (.array .int))) (by decide) (by decide))))
  have Ex_11 := (Ex_6.wr W7)
  have V_b2_12 := (V_b2.other W7 (Ne.symm ne_a_b2))
  have ZS7 : n0 ≤ h7.size := Nat.le_trans ZS2 (Keep.of_wr W7).1
  have KC7 : Keep h0 h7 [a] := KC2.wr W7 (Or.inl (List.mem_of_getElem? (i := 0) rfl))
  have N7 := Fr.snoc X7 N0 ga
  refine OGo.step (fun uK kK => st7 uK kK) ?_
  show OGo p e below _ (T7.setTop (mkF m 12 #[.val (.ref a), .val (.int w)] []))
  refine OGo.step (fun uK kK => XS.aloadN X7.here hx rfl (hb hby d1_12) rfl rfl kK) ?_
  show OGo p e below _ (T7.setTop (mkF m 13 #[.val (.ref a), .val (.int w)] [(.ref a)]))
  refine OGo.step (fun uK kK => XS.iloadN X7.here hx rfl (hb hby d1_13) rfl kK) ?_
  show OGo p e below _ (T7.setTop (mkF m 14 #[.val (.ref a), .val (.int w)] [(.int w), (.ref a)]))
  obtain ⟨T13, h13, X13, e13, W13, st13⟩ := putF X7 hx hZ hown (host := "") (Or.inl (hw _ (List.mem_of_getElem? (i := 13) rfl))) Via.refl e7 Fw_9 Ex_11 (Or.inr ⟨(hw _ (List.mem_of_getElem? (i := 14) rfl)), rfl, hnm⟩) (hw _ (List.mem_of_getElem? (i := 1) rfl)) (ty := .int) (by decide) rfl rfl (g := (mkF m 14 #[.val (.ref a), .val (.int w)] [(.int w), (.ref a)])) rfl rfl (hb hby d1_14)
  have Fw13 := Fw_9.same W13
  have Fs_15 := (Fs_10.other W13 (Or.inr (slot_ne (Or.inl (hw _ (List.mem_of_getElem? (i := 21) rfl))) (Or.inr (hw _ (List.mem_of_getElem? (i := 14) rfl))) (by decide) (t := .int) (t' := .int) (by decide) (by decide))))
  have Ex_16 := (Ex_11.wr W13)
  have V_b2_17 := (V_b2_12.other W13 (Ne.symm ne_a_b2))
  have Fw7_18 := (Fw7.other W13 (Or.inr (slot_ne (Or.inl (hw _ (List.mem_of_getElem? (i := 12) rfl))) (Or.inr (hw _ (List.mem_of_getElem? (i := 14) rfl))) (by decide) (t := (.array (.array .int))) (t' := .int) (by decide) (by decide))))
  have ZS13 : n0 ≤ h13.size := Nat.le_trans ZS7 (Keep.of_wr W13).1
  have KC13 : Keep h0 h13 [a] := KC7.wr W13 (Or.inl (List.mem_of_getElem? (i := 0) rfl))
  have N13 := Fr.snoc X13 N7 ga
  refine OGo.step (fun uK kK => st13 uK kK) ?_
  show OGo p e below _ (T13.setTop (mkF m 17 #[.val (.ref a), .val (.int w)] []))
  exact OGo.retV X13 hx Bd.notSynchronized Bd.returns (hb hby d1_17) (by decide) (by decide) (by show Qi Z a w h0 n0 _ T13.heap _; rw [e13]; exact ⟨rfl, N13, KC13, b2, _, gn_b2, sz_b2, Fw7_18, Fw13, Fs_15, V_b2_17, O2⟩)
theorem d3_0 : decode prog_34_method_6_code 0 = .ok (.aload_n 0, 1) := by decide +kernel
theorem d3_1 : decode prog_34_method_6_code 1 = .ok (.getfield 33, 3) := by decide +kernel
theorem d3_4 : decode prog_34_method_6_code 4 = .ok (.ldc 38, 2) := by decide +kernel
theorem d3_6 : decode prog_34_method_6_code 6 = .ok (.if_icmp .ne 20, 3) := by decide +kernel
theorem d3_26 : decode prog_34_method_6_code 26 = .ok (.aload_n 0, 1) := by decide +kernel
theorem d3_27 : decode prog_34_method_6_code 27 = .ok (.getfield 33, 3) := by decide +kernel
theorem d3_30 : decode prog_34_method_6_code 30 = .ok (.bipush 12, 2) := by decide +kernel
theorem d3_32 : decode prog_34_method_6_code 32 = .ok (.iushr, 1) := by decide +kernel
theorem d3_33 : decode prog_34_method_6_code 33 = .ok (.istore_n 1, 1) := by decide +kernel
theorem d3_34 : decode prog_34_method_6_code 34 = .ok (.iload_n 1, 1) := by decide +kernel
theorem d3_35 : decode prog_34_method_6_code 35 = .ok (.aload_n 0, 1) := by decide +kernel
theorem d3_36 : decode prog_34_method_6_code 36 = .ok (.getfield 11, 3) := by decide +kernel
theorem d3_39 : decode prog_34_method_6_code 39 = .ok (.arraylength, 1) := by decide +kernel
theorem d3_40 : decode prog_34_method_6_code 40 = .ok (.if_icmp .ne 24, 3) := by decide +kernel
theorem d3_64 : decode prog_34_method_6_code 64 = .ok (.aload_n 0, 1) := by decide +kernel
theorem d3_65 : decode prog_34_method_6_code 65 = .ok (.getfield 33, 3) := by decide +kernel
theorem d3_68 : decode prog_34_method_6_code 68 = .ok (.sipush 4095, 3) := by decide +kernel
theorem d3_71 : decode prog_34_method_6_code 71 = .ok (.iand, 1) := by decide +kernel
theorem d3_72 : decode prog_34_method_6_code 72 = .ok (.aload_n 0, 1) := by decide +kernel
theorem d3_73 : decode prog_34_method_6_code 73 = .ok (.getfield 15, 3) := by decide +kernel
theorem d3_76 : decode prog_34_method_6_code 76 = .ok (.imul, 1) := by decide +kernel
theorem d3_77 : decode prog_34_method_6_code 77 = .ok (.istore_n 2, 1) := by decide +kernel
theorem d3_78 : decode prog_34_method_6_code 78 = .ok (.aload_n 0, 1) := by decide +kernel
theorem d3_79 : decode prog_34_method_6_code 79 = .ok (.getfield 11, 3) := by decide +kernel
theorem d3_82 : decode prog_34_method_6_code 82 = .ok (.iload_n 1, 1) := by decide +kernel
theorem d3_83 : decode prog_34_method_6_code 83 = .ok (.aaload, 1) := by decide +kernel
theorem d3_84 : decode prog_34_method_6_code 84 = .ok (.ifnonnull 31, 3) := by decide +kernel
theorem d3_87 : decode prog_34_method_6_code 87 = .ok (.aload_n 0, 1) := by decide +kernel
theorem d3_88 : decode prog_34_method_6_code 88 = .ok (.getfield 11, 3) := by decide +kernel
theorem d3_91 : decode prog_34_method_6_code 91 = .ok (.iload_n 1, 1) := by decide +kernel
theorem d3_92 : decode prog_34_method_6_code 92 = .ok (.iload_n 1, 1) := by decide +kernel
theorem d3_93 : decode prog_34_method_6_code 93 = .ok (.ifCond .ne 8, 3) := by decide +kernel
theorem d3_96 : decode prog_34_method_6_code 96 = .ok (.bipush 8, 2) := by decide +kernel
theorem d3_98 : decode prog_34_method_6_code 98 = .ok (.goto 6, 3) := by decide +kernel
theorem d3_104 : decode prog_34_method_6_code 104 = .ok (.aload_n 0, 1) := by decide +kernel
theorem d3_105 : decode prog_34_method_6_code 105 = .ok (.getfield 15, 3) := by decide +kernel
theorem d3_108 : decode prog_34_method_6_code 108 = .ok (.imul, 1) := by decide +kernel
theorem d3_109 : decode prog_34_method_6_code 109 = .ok (.newarray .int, 2) := by decide +kernel
theorem d3_111 : decode prog_34_method_6_code 111 = .ok (.aastore, 1) := by decide +kernel
theorem d3_112 : decode prog_34_method_6_code 112 = .ok (.goto 53, 3) := by decide +kernel
theorem d3_165 : decode prog_34_method_6_code 165 = .ok (.aload_n 0, 1) := by decide +kernel
theorem d3_166 : decode prog_34_method_6_code 166 = .ok (.dup, 1) := by decide +kernel
theorem d3_167 : decode prog_34_method_6_code 167 = .ok (.getfield 33, 3) := by decide +kernel
theorem d3_170 : decode prog_34_method_6_code 170 = .ok (.dup_x1, 1) := by decide +kernel
theorem d3_171 : decode prog_34_method_6_code 171 = .ok (.iconst 1, 1) := by decide +kernel
theorem d3_172 : decode prog_34_method_6_code 172 = .ok (.iadd, 1) := by decide +kernel
theorem d3_173 : decode prog_34_method_6_code 173 = .ok (.putfield 33, 3) := by decide +kernel
theorem d3_176 : decode prog_34_method_6_code 176 = .ok (.ireturn, 1) := by decide +kernel
theorem pna0 : plainName "com/example/hitung/hitung/IntChunks" = true := by first | (simp [plainName, overriddenIn]; done) | decide +kernel
theorem efa0 (m : MethodId) (x0 : Addr) : entryFrame m #[(.ref x0)] 3 = mkF m 0 #[.val (.ref x0), .unset, .unset] [] := by first | (simp [entryFrame, mkF, argsToLocals, Value.category]; done) | rfl
def Qa0 (Z : State) (a : Addr) (w : Int32) (aC : Addr) (kc : ClassId) (h0 : Heap) (n0 : Nat) (v : Option Value) (h : Heap) (L : List Loc) : Prop := v = some (.int (0 : Int32)) ∧ Fr n0 L ∧ Keep h0 h [a, aC] ∧ ∃ (aI : Addr) (kI : ClassId), n0 ≤ aI ∧ h0.size ≤ aI ∧ Fld Z h a "com/example/hitung/hitung/IntChunks" "chunks" "[[I" (.ref aC) ∧ Fld Z h a "com/example/hitung/hitung/IntChunks" "width" "I" (.int w) ∧ Fld Z h a "com/example/hitung/hitung/IntChunks" "size" "I" (.int (1 : Int32)) ∧ Arv Z h aC kc (.array .int) (1 : Int32) [(.ref aI)] .null ∧ Arh Z h aI kI .int ((8 : Int32) * w) [] [] (.int (0 : Int32))
set_option maxRecDepth 65536 in
set_option maxHeartbeats 40000000 in
theorem rma0 (l : Launch) (Z : State) (a0 : Array Value) (hw : ∀ d ∈ tables_1, d.before a0 Z = true) (ws : List Jvm.Cond) (a : Addr) (w : Int32) (aC : Addr) (kc : ClassId) (h0 : Heap) (n0 : Nat) (Z0 : n0 ≤ h0.size) (Fc : Fld Z h0 a "com/example/hitung/hitung/IntChunks" "chunks" "[[I" (.ref aC)) (Fw : Fld Z h0 a "com/example/hitung/hitung/IntChunks" "width" "I" (.int w)) (Fs : Fld Z h0 a "com/example/hitung/hitung/IntChunks" "size" "I" (.int (0 : Int32))) (Vc : Arv Z h0 aC kc (.array .int) (1 : Int32) [.null] .null) (Oc : OvrA Z kc .int "[I") (Ex : Exa Z h0 a "com/example/hitung/hitung/IntChunks") (ga : n0 ≤ a) (gC : n0 ≤ aC) (neC : a ≠ aC) (hW : 1 ≤ w.toInt ∧ w.toInt ≤ 4) :
    MetFree l (⟨"com/example/hitung/hitung/IntChunks", "add", "()I"⟩ : MethodName) (head1 (Jvm.Cond.code (⟨"com/example/hitung/hitung/IntChunks", "add", "()I"⟩ : MethodName) prog_34_method_6_code 3 (some .int) :: ws) ({ frames := 0, cells := 1, slots := 32, locals := 0 } : Room)) (fun aQ UQ => aQ = #[(.ref a)] ∧ Z.Warmed39 UQ.vm ∧ UQ.heap = h0) (fun _ _ _ _ _ => True) (fun _ U o U' => ∃ v L, o = .returned v ∧ Qa0 Z a w aC kc h0 n0 v U'.heap L ∧ FrameEnd U o U' L ({ frames := 0, cells := 1, slots := 32, locals := 0 } : Room).cells ({ frames := 0, cells := 1, slots := 32, locals := 0 } : Room).slots) := by
  refine MetFree.of_bodySF (plainFor_of_name pna0) hisR ?_
  intro p e s m args below meth c s₁ Bd hml0 hP hK
  obtain ⟨rfl, hZ, hh⟩ := hP
  have hx := Bd.exec
  have hby := Bd.bytes
  have hml : c.maxLocals = 3 := hml0
  have hown : s.vm.findClass "com/example/hitung/hitung/IntChunks" = some m.cls := findClass_of_methodNamed Bd.named
  have hnm := (name_of_methodNamed Bd.named Bd.method).1
  have X0 : Stand p l e ({ frames := 0, cells := 1, slots := 32, locals := 0 } : Room) s m #[(.ref a)] below meth c s₁ [] 0 0 := Stand.of_body Bd
  have e0 : s₁.heap = h0 := by rw [← hh, Bd.state]; rfl
  have N0 := Fr.nil n0
  show OGo p e below (OPost s (Qa0 Z a w aC kc h0 n0) ({ frames := 0, cells := 1, slots := 32, locals := 0 } : Room).cells ({ frames := 0, cells := 1, slots := 32, locals := 0 } : Room).slots) (s₁.setTop (entryFrame m #[(.ref a)] 3))
  refine OGo.step (fun uK kK => castTop (efa0 m a) kK) ?_
  show OGo p e below _ (s₁.setTop (mkF m 0 #[.val (.ref a), .unset, .unset] []))
  refine OGo.step (fun uK kK => XS.aloadN X0.here hx rfl (hb hby d3_0) rfl rfl kK) ?_
  show OGo p e below _ (s₁.setTop (mkF m 1 #[.val (.ref a), .unset, .unset] [(.ref a)]))
  obtain ⟨T1, X1, e1, st1⟩ := getF X0 hx hZ hown (host := "") (Or.inl (hw _ (List.mem_of_getElem? (i := 20) rfl))) Via.refl e0 Fs (g := (mkF m 1 #[.val (.ref a), .unset, .unset] [(.ref a)])) rfl rfl (hb hby d3_1)
  refine OGo.step (fun uK kK => st1 uK kK) ?_
  show OGo p e below _ (T1.setTop (mkF m 4 #[.val (.ref a), .unset, .unset] [(.int (0 : Int32))]))
  refine OGo.step (fun uK kK => X1.ldcI hx hown (mvT hZ (hw _ (List.mem_of_getElem? (i := 22) rfl))) rfl (hb hby d3_4) kK) ?_
  show OGo p e below _ (T1.setTop (mkF m 6 #[.val (.ref a), .unset, .unset] [(.int (2147483647 : Int32)), (.int (0 : Int32))]))
  have hc6 : ¬ ((0 : Int32) = (2147483647 : Int32)) := by decide
  refine OGo.step (fun uK kK => XS.icmpYes X1.here hx rfl (pc0 := 6) (pc' := 26) rfl (hb hby d3_6) rfl (feq hc6).2 (by decide) (by decide) kK) ?_
  show OGo p e below _ (T1.setTop (mkF m 26 #[.val (.ref a), .unset, .unset] []))
  refine OGo.step (fun uK kK => XS.aloadN X1.here hx rfl (hb hby d3_26) rfl rfl kK) ?_
  show OGo p e below _ (T1.setTop (mkF m 27 #[.val (.ref a), .unset, .unset] [(.ref a)]))
  obtain ⟨T2, X2, e2, st2⟩ := getF X1 hx hZ hown (host := "") (Or.inl (hw _ (List.mem_of_getElem? (i := 20) rfl))) Via.refl e1 Fs (g := (mkF m 27 #[.val (.ref a), .unset, .unset] [(.ref a)])) rfl rfl (hb hby d3_27)
  refine OGo.step (fun uK kK => st2 uK kK) ?_
  show OGo p e below _ (T2.setTop (mkF m 30 #[.val (.ref a), .unset, .unset] [(.int (0 : Int32))]))
  refine OGo.step (fun uK kK => XS.bipush X2.here hx rfl (hb hby d3_30) kK) ?_
  show OGo p e below _ (T2.setTop (mkF m 32 #[.val (.ref a), .unset, .unset] [(.int (12 : Int32)), (.int (0 : Int32))]))
  refine OGo.step (fun uK kK => XS.iushr X2.here hx rfl (hb hby d3_32) rfl kK) ?_
  show OGo p e below _ (T2.setTop (mkF m 33 #[.val (.ref a), .unset, .unset] [(.int (((0 : Int32).toUInt32 >>> ((12 : Int32) &&& 31).toUInt32).toInt32))]))
  have ez3 : (((0 : Int32).toUInt32 >>> ((12 : Int32) &&& 31).toUInt32).toInt32) = (0 : Int32) := by decide
  rw [ez3]
  show OGo p e below _ (T2.setTop (mkF m 33 #[.val (.ref a), .unset, .unset] [(.int (0 : Int32))]))
  refine OGo.step (fun uK kK => XS.istoreN X2.here hx rfl (hb hby d3_33) rfl (l' := #[.val (.ref a), .val (.int (0 : Int32)), .unset]) rfl kK) ?_
  show OGo p e below _ (T2.setTop (mkF m 34 #[.val (.ref a), .val (.int (0 : Int32)), .unset] []))
  refine OGo.step (fun uK kK => XS.iloadN X2.here hx rfl (hb hby d3_34) rfl kK) ?_
  show OGo p e below _ (T2.setTop (mkF m 35 #[.val (.ref a), .val (.int (0 : Int32)), .unset] [(.int (0 : Int32))]))
  refine OGo.step (fun uK kK => XS.aloadN X2.here hx rfl (hb hby d3_35) rfl rfl kK) ?_
  show OGo p e below _ (T2.setTop (mkF m 36 #[.val (.ref a), .val (.int (0 : Int32)), .unset] [(.ref a), (.int (0 : Int32))]))
  obtain ⟨T4, X4, e4, st4⟩ := getF X2 hx hZ hown (host := "") (Or.inl (hw _ (List.mem_of_getElem? (i := 11) rfl))) Via.refl e2 Fc (g := (mkF m 36 #[.val (.ref a), .val (.int (0 : Int32)), .unset] [(.ref a), (.int (0 : Int32))])) rfl rfl (hb hby d3_36)
  refine OGo.step (fun uK kK => st4 uK kK) ?_
  show OGo p e below _ (T4.setTop (mkF m 39 #[.val (.ref a), .val (.int (0 : Int32)), .unset] [(.ref aC), (.int (0 : Int32))]))
  obtain ⟨cl5, Ar5, -, S5, M5, -, -⟩ := id Vc
  refine OGo.step (fun uK kK => X4.arraylength hx (by rw [e4]; exact Ar5.1) (State.isArrayOf_alike hZ.alike Ar5.2.1) (g := (mkF m 39 #[.val (.ref a), .val (.int (0 : Int32)), .unset] [(.ref aC), (.int (0 : Int32))])) rfl rfl (hb hby d3_39) uK kK) ?_
  rw [len_of S5 M5]
  show OGo p e below _ (T4.setTop (mkF m 40 #[.val (.ref a), .val (.int (0 : Int32)), .unset] [(.int (1 : Int32)), (.int (0 : Int32))]))
  have hc40 : ¬ ((0 : Int32) = (1 : Int32)) := by decide
  refine OGo.step (fun uK kK => XS.icmpYes X4.here hx rfl (pc0 := 40) (pc' := 64) rfl (hb hby d3_40) rfl (feq hc40).2 (by decide) (by decide) kK) ?_
  show OGo p e below _ (T4.setTop (mkF m 64 #[.val (.ref a), .val (.int (0 : Int32)), .unset] []))
  refine OGo.step (fun uK kK => XS.aloadN X4.here hx rfl (hb hby d3_64) rfl rfl kK) ?_
  show OGo p e below _ (T4.setTop (mkF m 65 #[.val (.ref a), .val (.int (0 : Int32)), .unset] [(.ref a)]))
  obtain ⟨T6, X6, e6, st6⟩ := getF X4 hx hZ hown (host := "") (Or.inl (hw _ (List.mem_of_getElem? (i := 20) rfl))) Via.refl e4 Fs (g := (mkF m 65 #[.val (.ref a), .val (.int (0 : Int32)), .unset] [(.ref a)])) rfl rfl (hb hby d3_65)
  refine OGo.step (fun uK kK => st6 uK kK) ?_
  show OGo p e below _ (T6.setTop (mkF m 68 #[.val (.ref a), .val (.int (0 : Int32)), .unset] [(.int (0 : Int32))]))
  refine OGo.step (fun uK kK => XS.sipush X6.here hx rfl (hb hby d3_68) kK) ?_
  show OGo p e below _ (T6.setTop (mkF m 71 #[.val (.ref a), .val (.int (0 : Int32)), .unset] [(.int (4095 : Int32)), (.int (0 : Int32))]))
  refine OGo.step (fun uK kK => XS.iand X6.here hx rfl (hb hby d3_71) rfl kK) ?_
  show OGo p e below _ (T6.setTop (mkF m 72 #[.val (.ref a), .val (.int (0 : Int32)), .unset] [(.int ((0 : Int32) &&& (4095 : Int32)))]))
  refine OGo.step (fun uK kK => XS.aloadN X6.here hx rfl (hb hby d3_72) rfl rfl kK) ?_
  show OGo p e below _ (T6.setTop (mkF m 73 #[.val (.ref a), .val (.int (0 : Int32)), .unset] [(.ref a), (.int ((0 : Int32) &&& (4095 : Int32)))]))
  obtain ⟨T7, X7, e7, st7⟩ := getF X6 hx hZ hown (host := "") (Or.inl (hw _ (List.mem_of_getElem? (i := 13) rfl))) Via.refl e6 Fw (g := (mkF m 73 #[.val (.ref a), .val (.int (0 : Int32)), .unset] [(.ref a), (.int ((0 : Int32) &&& (4095 : Int32)))])) rfl rfl (hb hby d3_73)
  refine OGo.step (fun uK kK => st7 uK kK) ?_
  show OGo p e below _ (T7.setTop (mkF m 76 #[.val (.ref a), .val (.int (0 : Int32)), .unset] [(.int w), (.int ((0 : Int32) &&& (4095 : Int32)))]))
  refine OGo.step (fun uK kK => XS.imul X7.here hx rfl (hb hby d3_76) rfl kK) ?_
  show OGo p e below _ (T7.setTop (mkF m 77 #[.val (.ref a), .val (.int (0 : Int32)), .unset] [(.int (((0 : Int32) &&& (4095 : Int32)) * w))]))
  refine OGo.step (fun uK kK => XS.istoreN X7.here hx rfl (hb hby d3_77) rfl (l' := #[.val (.ref a), .val (.int (0 : Int32)), .val (.int (((0 : Int32) &&& (4095 : Int32)) * w))]) rfl kK) ?_
  show OGo p e below _ (T7.setTop (mkF m 78 #[.val (.ref a), .val (.int (0 : Int32)), .val (.int (((0 : Int32) &&& (4095 : Int32)) * w))] []))
  refine OGo.step (fun uK kK => XS.aloadN X7.here hx rfl (hb hby d3_78) rfl rfl kK) ?_
  show OGo p e below _ (T7.setTop (mkF m 79 #[.val (.ref a), .val (.int (0 : Int32)), .val (.int (((0 : Int32) &&& (4095 : Int32)) * w))] [(.ref a)]))
  obtain ⟨T8, X8, e8, st8⟩ := getF X7 hx hZ hown (host := "") (Or.inl (hw _ (List.mem_of_getElem? (i := 11) rfl))) Via.refl e7 Fc (g := (mkF m 79 #[.val (.ref a), .val (.int (0 : Int32)), .val (.int (((0 : Int32) &&& (4095 : Int32)) * w))] [(.ref a)])) rfl rfl (hb hby d3_79)
  refine OGo.step (fun uK kK => st8 uK kK) ?_
  show OGo p e below _ (T8.setTop (mkF m 82 #[.val (.ref a), .val (.int (0 : Int32)), .val (.int (((0 : Int32) &&& (4095 : Int32)) * w))] [(.ref aC)]))
  refine OGo.step (fun uK kK => XS.iloadN X8.here hx rfl (hb hby d3_82) rfl kK) ?_
  show OGo p e below _ (T8.setTop (mkF m 83 #[.val (.ref a), .val (.int (0 : Int32)), .val (.int (((0 : Int32) &&& (4095 : Int32)) * w))] [(.int (0 : Int32)), (.ref aC)]))
  obtain ⟨cl9, Ar9, q9, S9, M9, H9, G9⟩ := id Vc
  have hin9 : ¬ ((0 : Int32) < 0 ∨ cl9.slots.size ≤ ((0 : Int32)).toNatClampNeg) := inb_of S9 ⟨by decide, by decide⟩
  have hat9 : cl9.slots[((0 : Int32)).toNatClampNeg]? = some .null := H9.at hin9 rfl
  refine OGo.step (fun uK kK => X8.aaload hx (j := (0 : Int32)) (v := .null) (by rw [e8]; exact Ar9.1) (State.isArrayOf_alike hZ.alike Ar9.2.1) rfl Ar9.2.2 hin9 hat9 (g := (mkF m 83 #[.val (.ref a), .val (.int (0 : Int32)), .val (.int (((0 : Int32) &&& (4095 : Int32)) * w))] [(.int (0 : Int32)), (.ref aC)])) rfl rfl (hb hby d3_83) uK kK) ?_
  show OGo p e below _ (T8.setTop (mkF m 84 #[.val (.ref a), .val (.int (0 : Int32)), .val (.int (((0 : Int32) &&& (4095 : Int32)) * w))] [.null]))
  refine OGo.step (fun uK kK => XS.ifnonnullNo X8.here hx rfl (hb hby d3_84) rfl kK) ?_
  show OGo p e below _ (T8.setTop (mkF m 87 #[.val (.ref a), .val (.int (0 : Int32)), .val (.int (((0 : Int32) &&& (4095 : Int32)) * w))] []))
  refine OGo.step (fun uK kK => XS.aloadN X8.here hx rfl (hb hby d3_87) rfl rfl kK) ?_
  show OGo p e below _ (T8.setTop (mkF m 88 #[.val (.ref a), .val (.int (0 : Int32)), .val (.int (((0 : Int32) &&& (4095 : Int32)) * w))] [(.ref a)]))
  obtain ⟨T10, X10, e10, st10⟩ := getF X8 hx hZ hown (host := "") (Or.inl (hw _ (List.mem_of_getElem? (i := 11) rfl))) Via.refl e8 Fc (g := (mkF m 88 #[.val (.ref a), .val (.int (0 : Int32)), .val (.int (((0 : Int32) &&& (4095 : Int32)) * w))] [(.ref a)])) rfl rfl (hb hby d3_88)
  refine OGo.step (fun uK kK => st10 uK kK) ?_
  show OGo p e below _ (T10.setTop (mkF m 91 #[.val (.ref a), .val (.int (0 : Int32)), .val (.int (((0 : Int32) &&& (4095 : Int32)) * w))] [(.ref aC)]))
  refine OGo.step (fun uK kK => XS.iloadN X10.here hx rfl (hb hby d3_91) rfl kK) ?_
  show OGo p e below _ (T10.setTop (mkF m 92 #[.val (.ref a), .val (.int (0 : Int32)), .val (.int (((0 : Int32) &&& (4095 : Int32)) * w))] [(.int (0 : Int32)), (.ref aC)]))
  refine OGo.step (fun uK kK => XS.iloadN X10.here hx rfl (hb hby d3_92) rfl kK) ?_
  show OGo p e below _ (T10.setTop (mkF m 93 #[.val (.ref a), .val (.int (0 : Int32)), .val (.int (((0 : Int32) &&& (4095 : Int32)) * w))] [(.int (0 : Int32)), (.int (0 : Int32)), (.ref aC)]))
  have hc93 : (0 : Int32) = (0 : Int32) := by decide
  refine OGo.step (fun uK kK => XS.ifNo X10.here hx rfl (hb hby d3_93) rfl ((if0 _ _).trans (teq hc93).2) kK) ?_
  show OGo p e below _ (T10.setTop (mkF m 96 #[.val (.ref a), .val (.int (0 : Int32)), .val (.int (((0 : Int32) &&& (4095 : Int32)) * w))] [(.int (0 : Int32)), (.ref aC)]))
  refine OGo.step (fun uK kK => XS.bipush X10.here hx rfl (hb hby d3_96) kK) ?_
  show OGo p e below _ (T10.setTop (mkF m 98 #[.val (.ref a), .val (.int (0 : Int32)), .val (.int (((0 : Int32) &&& (4095 : Int32)) * w))] [(.int (8 : Int32)), (.int (0 : Int32)), (.ref aC)]))
  refine OGo.step (fun uK kK => XS.goto X10.here hx rfl (pc0 := 98) (pc' := 104) rfl (hb hby d3_98) (by decide) (by decide) kK) ?_
  show OGo p e below _ (T10.setTop (mkF m 104 #[.val (.ref a), .val (.int (0 : Int32)), .val (.int (((0 : Int32) &&& (4095 : Int32)) * w))] [(.int (8 : Int32)), (.int (0 : Int32)), (.ref aC)]))
  refine OGo.step (fun uK kK => XS.aloadN X10.here hx rfl (hb hby d3_104) rfl rfl kK) ?_
  show OGo p e below _ (T10.setTop (mkF m 105 #[.val (.ref a), .val (.int (0 : Int32)), .val (.int (((0 : Int32) &&& (4095 : Int32)) * w))] [(.ref a), (.int (8 : Int32)), (.int (0 : Int32)), (.ref aC)]))
  obtain ⟨T11, X11, e11, st11⟩ := getF X10 hx hZ hown (host := "") (Or.inl (hw _ (List.mem_of_getElem? (i := 13) rfl))) Via.refl e10 Fw (g := (mkF m 105 #[.val (.ref a), .val (.int (0 : Int32)), .val (.int (((0 : Int32) &&& (4095 : Int32)) * w))] [(.ref a), (.int (8 : Int32)), (.int (0 : Int32)), (.ref aC)])) rfl rfl (hb hby d3_105)
  refine OGo.step (fun uK kK => st11 uK kK) ?_
  show OGo p e below _ (T11.setTop (mkF m 108 #[.val (.ref a), .val (.int (0 : Int32)), .val (.int (((0 : Int32) &&& (4095 : Int32)) * w))] [(.int w), (.int (8 : Int32)), (.int (0 : Int32)), (.ref aC)]))
  refine OGo.step (fun uK kK => XS.imul X11.here hx rfl (hb hby d3_108) rfl kK) ?_
  show OGo p e below _ (T11.setTop (mkF m 109 #[.val (.ref a), .val (.int (0 : Int32)), .val (.int (((0 : Int32) &&& (4095 : Int32)) * w))] [(.int ((8 : Int32) * w)), (.int (0 : Int32)), (.ref aC)]))
  obtain ⟨T12, h12, ki12, X12, e12, E12, A12, Ea12, st12⟩ := newPE X11 hx hZ (hw _ (List.mem_of_getElem? (i := 23) rfl)) e11 (g := (mkF m 109 #[.val (.ref a), .val (.int (0 : Int32)), .val (.int (((0 : Int32) &&& (4095 : Int32)) * w))] [(.int ((8 : Int32) * w)), (.int (0 : Int32)), (.ref aC)])) rfl (hb hby d3_109) rfl (own_len w hW).1 (cap := 32) (own_len w hW).2 (by decide) (by decide) (by decide) (ad := "[I") (by decide)
  obtain ⟨b12, g12⟩ : ∃ z, z = h0.size := ⟨_, rfl⟩
  rw [← g12] at A12 Ea12 st12
  have ne_a_b12 : a ≠ b12 := Nat.ne_of_lt (Nat.lt_of_lt_of_le Fc.lt (Nat.le_of_eq g12.symm))
  have ne_aC_b12 : aC ≠ b12 := Nat.ne_of_lt (Nat.lt_of_lt_of_le Vc.lt (Nat.le_of_eq g12.symm))
  have gn_b12 : n0 ≤ b12 := Nat.le_trans Z0 (Nat.le_of_eq g12.symm)
  have sz_b12 : h0.size ≤ b12 := Nat.le_trans (Keep.refl h0 [a, aC]).1 (Nat.le_of_eq g12.symm)
  have Fc_13 := (Fc.ext E12)
  have Fw_14 := (Fw.ext E12)
  have Fs_15 := (Fs.ext E12)
  have Ex_16 := (Ex.ext E12)
  have Vc_17 := (Vc.ext E12)
  have ZS12 : n0 ≤ h12.size := Nat.le_trans Z0 E12.1
  have KC12 : Keep h0 h12 [a, aC] := (Keep.refl h0 [a, aC]).ext E12
  have V_b12 : Arh Z h12 b12 ki12 .int ((8 : Int32) * w) [] [] (.int (0 : Int32)) := (Arv.new A12 (own_len w hW).1).arh
  refine OGo.step (fun uK kK => st12 uK kK) ?_
  show OGo p e below _ (T12.setTop (mkF m 111 #[.val (.ref a), .val (.int (0 : Int32)), .val (.int (((0 : Int32) &&& (4095 : Int32)) * w))] [(.ref b12), (.int (0 : Int32)), (.ref aC)]))
  obtain ⟨cl18, Ar18, q18, S18, M18, H18, G18⟩ := id Vc_17
  have hin18 : ¬ ((0 : Int32) < 0 ∨ cl18.slots.size ≤ ((0 : Int32)).toNatClampNeg) := inb_of S18 ⟨by decide, by decide⟩
  obtain ⟨T18, h18, X18, e18, W18, st18⟩ := stR X12 hx hZ e12 Ar18 (j := (0 : Int32)) hin18 rfl (Sto.ofVA Ar18 q18 Oc (Ins.self Ea12)) (g := (mkF m 111 #[.val (.ref a), .val (.int (0 : Int32)), .val (.int (((0 : Int32) &&& (4095 : Int32)) * w))] [(.ref b12), (.int (0 : Int32)), (.ref aC)])) rfl rfl (hb hby d3_111)
  have V_aC_18 : Arv Z h18 aC kc (.array .int) (1 : Int32) [(.ref b12)] .null := Arv.set Ar18 q18 S18 M18 H18 G18 rfl W18 0 rfl (Nat.le_of_ble_eq_true rfl)
  have Fc_19 := (Fc_13.other W18 (Or.inl neC))
  have Fw_20 := (Fw_14.other W18 (Or.inl neC))
  have Fs_21 := (Fs_15.other W18 (Or.inl neC))
  have Ex_22 := (Ex_16.wr W18)
  have V_b12_24 := (V_b12.other W18 (Ne.symm ne_aC_b12))
  have Ea12_25 := (Ea12.wr W18)
  have ZS18 : n0 ≤ h18.size := Nat.le_trans ZS12 (Keep.of_wr W18).1
  have KC18 : Keep h0 h18 [a, aC] := KC12.wr W18 (Or.inl (List.mem_of_getElem? (i := 1) rfl))
  have N18 := Fr.snoc X18 N0 gC
  refine OGo.step (fun uK kK => st18 uK kK) ?_
  show OGo p e below _ (T18.setTop (mkF m 112 #[.val (.ref a), .val (.int (0 : Int32)), .val (.int (((0 : Int32) &&& (4095 : Int32)) * w))] []))
  refine OGo.step (fun uK kK => XS.goto X18.here hx rfl (pc0 := 112) (pc' := 165) rfl (hb hby d3_112) (by decide) (by decide) kK) ?_
  show OGo p e below _ (T18.setTop (mkF m 165 #[.val (.ref a), .val (.int (0 : Int32)), .val (.int (((0 : Int32) &&& (4095 : Int32)) * w))] []))
  refine OGo.step (fun uK kK => XS.aloadN X18.here hx rfl (hb hby d3_165) rfl rfl kK) ?_
  show OGo p e below _ (T18.setTop (mkF m 166 #[.val (.ref a), .val (.int (0 : Int32)), .val (.int (((0 : Int32) &&& (4095 : Int32)) * w))] [(.ref a)]))
  refine OGo.step (fun uK kK => XS.dup X18.here hx rfl (hb hby d3_166) rfl rfl kK) ?_
  show OGo p e below _ (T18.setTop (mkF m 167 #[.val (.ref a), .val (.int (0 : Int32)), .val (.int (((0 : Int32) &&& (4095 : Int32)) * w))] [(.ref a), (.ref a)]))
  obtain ⟨T26, X26, e26, st26⟩ := getF X18 hx hZ hown (host := "") (Or.inl (hw _ (List.mem_of_getElem? (i := 20) rfl))) Via.refl e18 Fs_21 (g := (mkF m 167 #[.val (.ref a), .val (.int (0 : Int32)), .val (.int (((0 : Int32) &&& (4095 : Int32)) * w))] [(.ref a), (.ref a)])) rfl rfl (hb hby d3_167)
  refine OGo.step (fun uK kK => st26 uK kK) ?_
  show OGo p e below _ (T26.setTop (mkF m 170 #[.val (.ref a), .val (.int (0 : Int32)), .val (.int (((0 : Int32) &&& (4095 : Int32)) * w))] [(.int (0 : Int32)), (.ref a)]))
  refine OGo.step (fun uK kK => XS.dupX1 X26.here hx rfl (hb hby d3_170) rfl rfl rfl kK) ?_
  show OGo p e below _ (T26.setTop (mkF m 171 #[.val (.ref a), .val (.int (0 : Int32)), .val (.int (((0 : Int32) &&& (4095 : Int32)) * w))] [(.int (0 : Int32)), (.ref a), (.int (0 : Int32))]))
  refine OGo.step (fun uK kK => XS.iconst X26.here hx rfl (hb hby d3_171) kK) ?_
  show OGo p e below _ (T26.setTop (mkF m 172 #[.val (.ref a), .val (.int (0 : Int32)), .val (.int (((0 : Int32) &&& (4095 : Int32)) * w))] [(.int (1 : Int32)), (.int (0 : Int32)), (.ref a), (.int (0 : Int32))]))
  refine OGo.step (fun uK kK => XS.iadd X26.here hx rfl (hb hby d3_172) rfl kK) ?_
  show OGo p e below _ (T26.setTop (mkF m 173 #[.val (.ref a), .val (.int (0 : Int32)), .val (.int (((0 : Int32) &&& (4095 : Int32)) * w))] [(.int ((0 : Int32) + (1 : Int32))), (.ref a), (.int (0 : Int32))]))
  have ez27 : ((0 : Int32) + (1 : Int32)) = (1 : Int32) := by decide
  rw [ez27]
  show OGo p e below _ (T26.setTop (mkF m 173 #[.val (.ref a), .val (.int (0 : Int32)), .val (.int (((0 : Int32) &&& (4095 : Int32)) * w))] [(.int (1 : Int32)), (.ref a), (.int (0 : Int32))]))
  obtain ⟨T28, h28, X28, e28, W28, st28⟩ := putF X26 hx hZ hown (host := "") (Or.inl (hw _ (List.mem_of_getElem? (i := 20) rfl))) Via.refl e26 Fs_21 Ex_22 (Or.inl (hw _ (List.mem_of_getElem? (i := 21) rfl))) (hw _ (List.mem_of_getElem? (i := 1) rfl)) (ty := .int) (by decide) rfl rfl (g := (mkF m 173 #[.val (.ref a), .val (.int (0 : Int32)), .val (.int (((0 : Int32) &&& (4095 : Int32)) * w))] [(.int (1 : Int32)), (.ref a), (.int (0 : Int32))])) rfl rfl (hb hby d3_173)
  have Fw28 := Fs_21.same W28
  have Fc_29 := (Fc_19.other W28 (Or.inr (slot_ne (Or.inl (hw _ (List.mem_of_getElem? (i := 12) rfl))) (Or.inl (hw _ (List.mem_of_getElem? (i := 21) rfl))) (by decide) (t := (.array (.array .int))) (t' := .int) (by decide) (by decide))))
  have Fw_30 := (Fw_20.other W28 (Or.inr (slot_ne (Or.inr (hw _ (List.mem_of_getElem? (i := 14) rfl))) (Or.inl (hw _ (List.mem_of_getElem? (i := 21) rfl))) (by decide) (t := .int) (t' := .int) (by decide) (by decide))))
  have Ex_32 := (Ex_22.wr W28)
  have V_b12_33 := (V_b12_24.other W28 (Ne.symm ne_a_b12))
  have Ea12_34 := (Ea12_25.wr W28)
  have V_aC_35 := (V_aC_18.other W28 (Ne.symm neC))
  have ZS28 : n0 ≤ h28.size := Nat.le_trans ZS18 (Keep.of_wr W28).1
  have KC28 : Keep h0 h28 [a, aC] := KC18.wr W28 (Or.inl (List.mem_of_getElem? (i := 0) rfl))
  have N28 := Fr.snoc X28 N18 ga
  refine OGo.step (fun uK kK => st28 uK kK) ?_
  show OGo p e below _ (T28.setTop (mkF m 176 #[.val (.ref a), .val (.int (0 : Int32)), .val (.int (((0 : Int32) &&& (4095 : Int32)) * w))] [(.int (0 : Int32))]))
  exact OGo.retI X28 hx Bd.notSynchronized Bd.returns (hb hby d3_176) (by decide) (by decide) (by show Qa0 Z a w aC kc h0 n0 _ T28.heap _; rw [e28]; exact ⟨rfl, N28, KC28, b12, _, gn_b12, sz_b12, Fc_29, Fw_30, Fw28, V_aC_35, V_b12_33⟩)
theorem d3_115 : decode prog_34_method_6_code 115 = .ok (.aload_n 0, 1) := by decide +kernel
theorem d3_116 : decode prog_34_method_6_code 116 = .ok (.getfield 11, 3) := by decide +kernel
theorem d3_119 : decode prog_34_method_6_code 119 = .ok (.iload_n 1, 1) := by decide +kernel
theorem d3_120 : decode prog_34_method_6_code 120 = .ok (.aaload, 1) := by decide +kernel
theorem d3_121 : decode prog_34_method_6_code 121 = .ok (.arraylength, 1) := by decide +kernel
theorem d3_122 : decode prog_34_method_6_code 122 = .ok (.iload_n 2, 1) := by decide +kernel
theorem d3_123 : decode prog_34_method_6_code 123 = .ok (.if_icmp .ne 42, 3) := by decide +kernel
theorem pna1 : plainName "com/example/hitung/hitung/IntChunks" = true := by first | (simp [plainName, overriddenIn]; done) | decide +kernel
theorem efa1 (m : MethodId) (x0 : Addr) : entryFrame m #[(.ref x0)] 3 = mkF m 0 #[.val (.ref x0), .unset, .unset] [] := by first | (simp [entryFrame, mkF, argsToLocals, Value.category]; done) | rfl
def Qa1 (Z : State) (a : Addr) (n : Int32) (w : Int32) (aC : Addr) (kc : ClassId) (aI : Addr) (kI : ClassId) (h0 : Heap) (n0 : Nat) (v : Option Value) (h : Heap) (L : List Loc) : Prop := v = some (.int n) ∧ Fr n0 L ∧ Keep h0 h [a] ∧ Fld Z h a "com/example/hitung/hitung/IntChunks" "chunks" "[[I" (.ref aC) ∧ Fld Z h a "com/example/hitung/hitung/IntChunks" "width" "I" (.int w) ∧ Fld Z h a "com/example/hitung/hitung/IntChunks" "size" "I" (.int (n + (1 : Int32)))
set_option maxRecDepth 65536 in
set_option maxHeartbeats 40000000 in
theorem rma1 (l : Launch) (Z : State) (a0 : Array Value) (hw : ∀ d ∈ tables_1, d.before a0 Z = true) (ws : List Jvm.Cond) (a : Addr) (n : Int32) (w : Int32) (aC : Addr) (kc : ClassId) (aI : Addr) (kI : ClassId) (h0 : Heap) (n0 : Nat) (Z0 : n0 ≤ h0.size) (Fc : Fld Z h0 a "com/example/hitung/hitung/IntChunks" "chunks" "[[I" (.ref aC)) (Fw : Fld Z h0 a "com/example/hitung/hitung/IntChunks" "width" "I" (.int w)) (Fs : Fld Z h0 a "com/example/hitung/hitung/IntChunks" "size" "I" (.int n)) (Vc : Arv Z h0 aC kc (.array .int) (1 : Int32) [(.ref aI)] .null) (Vi : Arh Z h0 aI kI .int ((8 : Int32) * w) [] [] (.int (0 : Int32))) (Ex : Exa Z h0 a "com/example/hitung/hitung/IntChunks") (ga : n0 ≤ a) (neC : a ≠ aC) (neI : a ≠ aI) (hW : 1 ≤ w.toInt ∧ w.toInt ≤ 4) (hn : n = (1 : Int32) ∨ n = (2 : Int32)) :
    MetFree l (⟨"com/example/hitung/hitung/IntChunks", "add", "()I"⟩ : MethodName) (head1 (Jvm.Cond.code (⟨"com/example/hitung/hitung/IntChunks", "add", "()I"⟩ : MethodName) prog_34_method_6_code 3 (some .int) :: ws) ({ frames := 0, cells := 0, slots := 0, locals := 0 } : Room)) (fun aQ UQ => aQ = #[(.ref a)] ∧ Z.Warmed39 UQ.vm ∧ UQ.heap = h0) (fun _ _ _ _ _ => True) (fun _ U o U' => ∃ v L, o = .returned v ∧ Qa1 Z a n w aC kc aI kI h0 n0 v U'.heap L ∧ FrameEnd U o U' L ({ frames := 0, cells := 0, slots := 0, locals := 0 } : Room).cells ({ frames := 0, cells := 0, slots := 0, locals := 0 } : Room).slots) := by
  refine MetFree.of_bodySF (plainFor_of_name pna1) hisR ?_
  intro p e s m args below meth c s₁ Bd hml0 hP hK
  obtain ⟨rfl, hZ, hh⟩ := hP
  have hx := Bd.exec
  have hby := Bd.bytes
  have hml : c.maxLocals = 3 := hml0
  have hown : s.vm.findClass "com/example/hitung/hitung/IntChunks" = some m.cls := findClass_of_methodNamed Bd.named
  have hnm := (name_of_methodNamed Bd.named Bd.method).1
  have X0 : Stand p l e ({ frames := 0, cells := 0, slots := 0, locals := 0 } : Room) s m #[(.ref a)] below meth c s₁ [] 0 0 := Stand.of_body Bd
  have e0 : s₁.heap = h0 := by rw [← hh, Bd.state]; rfl
  have N0 := Fr.nil n0
  show OGo p e below (OPost s (Qa1 Z a n w aC kc aI kI h0 n0) ({ frames := 0, cells := 0, slots := 0, locals := 0 } : Room).cells ({ frames := 0, cells := 0, slots := 0, locals := 0 } : Room).slots) (s₁.setTop (entryFrame m #[(.ref a)] 3))
  refine OGo.step (fun uK kK => castTop (efa1 m a) kK) ?_
  show OGo p e below _ (s₁.setTop (mkF m 0 #[.val (.ref a), .unset, .unset] []))
  refine OGo.step (fun uK kK => XS.aloadN X0.here hx rfl (hb hby d3_0) rfl rfl kK) ?_
  show OGo p e below _ (s₁.setTop (mkF m 1 #[.val (.ref a), .unset, .unset] [(.ref a)]))
  obtain ⟨T1, X1, e1, st1⟩ := getF X0 hx hZ hown (host := "") (Or.inl (hw _ (List.mem_of_getElem? (i := 20) rfl))) Via.refl e0 Fs (g := (mkF m 1 #[.val (.ref a), .unset, .unset] [(.ref a)])) rfl rfl (hb hby d3_1)
  refine OGo.step (fun uK kK => st1 uK kK) ?_
  show OGo p e below _ (T1.setTop (mkF m 4 #[.val (.ref a), .unset, .unset] [(.int n)]))
  refine OGo.step (fun uK kK => X1.ldcI hx hown (mvT hZ (hw _ (List.mem_of_getElem? (i := 22) rfl))) rfl (hb hby d3_4) kK) ?_
  show OGo p e below _ (T1.setTop (mkF m 6 #[.val (.ref a), .unset, .unset] [(.int (2147483647 : Int32)), (.int n)]))
  have hc6 : ¬ (n = (2147483647 : Int32)) := by rcases hn with h | h <;> rw [h] <;> decide
  refine OGo.step (fun uK kK => XS.icmpYes X1.here hx rfl (pc0 := 6) (pc' := 26) rfl (hb hby d3_6) rfl (feq hc6).2 (by decide) (by decide) kK) ?_
  show OGo p e below _ (T1.setTop (mkF m 26 #[.val (.ref a), .unset, .unset] []))
  refine OGo.step (fun uK kK => XS.aloadN X1.here hx rfl (hb hby d3_26) rfl rfl kK) ?_
  show OGo p e below _ (T1.setTop (mkF m 27 #[.val (.ref a), .unset, .unset] [(.ref a)]))
  obtain ⟨T2, X2, e2, st2⟩ := getF X1 hx hZ hown (host := "") (Or.inl (hw _ (List.mem_of_getElem? (i := 20) rfl))) Via.refl e1 Fs (g := (mkF m 27 #[.val (.ref a), .unset, .unset] [(.ref a)])) rfl rfl (hb hby d3_27)
  refine OGo.step (fun uK kK => st2 uK kK) ?_
  show OGo p e below _ (T2.setTop (mkF m 30 #[.val (.ref a), .unset, .unset] [(.int n)]))
  refine OGo.step (fun uK kK => XS.bipush X2.here hx rfl (hb hby d3_30) kK) ?_
  show OGo p e below _ (T2.setTop (mkF m 32 #[.val (.ref a), .unset, .unset] [(.int (12 : Int32)), (.int n)]))
  refine OGo.step (fun uK kK => XS.iushr X2.here hx rfl (hb hby d3_32) rfl kK) ?_
  show OGo p e below _ (T2.setTop (mkF m 33 #[.val (.ref a), .unset, .unset] [(.int ((n.toUInt32 >>> ((12 : Int32) &&& 31).toUInt32).toInt32))]))
  have ez3 : ((n.toUInt32 >>> ((12 : Int32) &&& 31).toUInt32).toInt32) = (0 : Int32) := by rcases hn with h | h <;> rw [h] <;> decide
  rw [ez3]
  show OGo p e below _ (T2.setTop (mkF m 33 #[.val (.ref a), .unset, .unset] [(.int (0 : Int32))]))
  refine OGo.step (fun uK kK => XS.istoreN X2.here hx rfl (hb hby d3_33) rfl (l' := #[.val (.ref a), .val (.int (0 : Int32)), .unset]) rfl kK) ?_
  show OGo p e below _ (T2.setTop (mkF m 34 #[.val (.ref a), .val (.int (0 : Int32)), .unset] []))
  refine OGo.step (fun uK kK => XS.iloadN X2.here hx rfl (hb hby d3_34) rfl kK) ?_
  show OGo p e below _ (T2.setTop (mkF m 35 #[.val (.ref a), .val (.int (0 : Int32)), .unset] [(.int (0 : Int32))]))
  refine OGo.step (fun uK kK => XS.aloadN X2.here hx rfl (hb hby d3_35) rfl rfl kK) ?_
  show OGo p e below _ (T2.setTop (mkF m 36 #[.val (.ref a), .val (.int (0 : Int32)), .unset] [(.ref a), (.int (0 : Int32))]))
  obtain ⟨T4, X4, e4, st4⟩ := getF X2 hx hZ hown (host := "") (Or.inl (hw _ (List.mem_of_getElem? (i := 11) rfl))) Via.refl e2 Fc (g := (mkF m 36 #[.val (.ref a), .val (.int (0 : Int32)), .unset] [(.ref a), (.int (0 : Int32))])) rfl rfl (hb hby d3_36)
  refine OGo.step (fun uK kK => st4 uK kK) ?_
  show OGo p e below _ (T4.setTop (mkF m 39 #[.val (.ref a), .val (.int (0 : Int32)), .unset] [(.ref aC), (.int (0 : Int32))]))
  obtain ⟨cl5, Ar5, -, S5, M5, -, -⟩ := id Vc
  refine OGo.step (fun uK kK => X4.arraylength hx (by rw [e4]; exact Ar5.1) (State.isArrayOf_alike hZ.alike Ar5.2.1) (g := (mkF m 39 #[.val (.ref a), .val (.int (0 : Int32)), .unset] [(.ref aC), (.int (0 : Int32))])) rfl rfl (hb hby d3_39) uK kK) ?_
  rw [len_of S5 M5]
  show OGo p e below _ (T4.setTop (mkF m 40 #[.val (.ref a), .val (.int (0 : Int32)), .unset] [(.int (1 : Int32)), (.int (0 : Int32))]))
  have hc40 : ¬ ((0 : Int32) = (1 : Int32)) := by decide
  refine OGo.step (fun uK kK => XS.icmpYes X4.here hx rfl (pc0 := 40) (pc' := 64) rfl (hb hby d3_40) rfl (feq hc40).2 (by decide) (by decide) kK) ?_
  show OGo p e below _ (T4.setTop (mkF m 64 #[.val (.ref a), .val (.int (0 : Int32)), .unset] []))
  refine OGo.step (fun uK kK => XS.aloadN X4.here hx rfl (hb hby d3_64) rfl rfl kK) ?_
  show OGo p e below _ (T4.setTop (mkF m 65 #[.val (.ref a), .val (.int (0 : Int32)), .unset] [(.ref a)]))
  obtain ⟨T6, X6, e6, st6⟩ := getF X4 hx hZ hown (host := "") (Or.inl (hw _ (List.mem_of_getElem? (i := 20) rfl))) Via.refl e4 Fs (g := (mkF m 65 #[.val (.ref a), .val (.int (0 : Int32)), .unset] [(.ref a)])) rfl rfl (hb hby d3_65)
  refine OGo.step (fun uK kK => st6 uK kK) ?_
  show OGo p e below _ (T6.setTop (mkF m 68 #[.val (.ref a), .val (.int (0 : Int32)), .unset] [(.int n)]))
  refine OGo.step (fun uK kK => XS.sipush X6.here hx rfl (hb hby d3_68) kK) ?_
  show OGo p e below _ (T6.setTop (mkF m 71 #[.val (.ref a), .val (.int (0 : Int32)), .unset] [(.int (4095 : Int32)), (.int n)]))
  refine OGo.step (fun uK kK => XS.iand X6.here hx rfl (hb hby d3_71) rfl kK) ?_
  show OGo p e below _ (T6.setTop (mkF m 72 #[.val (.ref a), .val (.int (0 : Int32)), .unset] [(.int (n &&& (4095 : Int32)))]))
  refine OGo.step (fun uK kK => XS.aloadN X6.here hx rfl (hb hby d3_72) rfl rfl kK) ?_
  show OGo p e below _ (T6.setTop (mkF m 73 #[.val (.ref a), .val (.int (0 : Int32)), .unset] [(.ref a), (.int (n &&& (4095 : Int32)))]))
  obtain ⟨T7, X7, e7, st7⟩ := getF X6 hx hZ hown (host := "") (Or.inl (hw _ (List.mem_of_getElem? (i := 13) rfl))) Via.refl e6 Fw (g := (mkF m 73 #[.val (.ref a), .val (.int (0 : Int32)), .unset] [(.ref a), (.int (n &&& (4095 : Int32)))])) rfl rfl (hb hby d3_73)
  refine OGo.step (fun uK kK => st7 uK kK) ?_
  show OGo p e below _ (T7.setTop (mkF m 76 #[.val (.ref a), .val (.int (0 : Int32)), .unset] [(.int w), (.int (n &&& (4095 : Int32)))]))
  refine OGo.step (fun uK kK => XS.imul X7.here hx rfl (hb hby d3_76) rfl kK) ?_
  show OGo p e below _ (T7.setTop (mkF m 77 #[.val (.ref a), .val (.int (0 : Int32)), .unset] [(.int ((n &&& (4095 : Int32)) * w))]))
  obtain ⟨ix, ev_ix⟩ : ∃ z : Int32, z = ((n &&& (4095 : Int32)) * w) := ⟨_, rfl⟩
  rw [← ev_ix]
  show OGo p e below _ (T7.setTop (mkF m 77 #[.val (.ref a), .val (.int (0 : Int32)), .unset] [(.int ix)]))
  refine OGo.step (fun uK kK => XS.istoreN X7.here hx rfl (hb hby d3_77) rfl (l' := #[.val (.ref a), .val (.int (0 : Int32)), .val (.int ix)]) rfl kK) ?_
  show OGo p e below _ (T7.setTop (mkF m 78 #[.val (.ref a), .val (.int (0 : Int32)), .val (.int ix)] []))
  refine OGo.step (fun uK kK => XS.aloadN X7.here hx rfl (hb hby d3_78) rfl rfl kK) ?_
  show OGo p e below _ (T7.setTop (mkF m 79 #[.val (.ref a), .val (.int (0 : Int32)), .val (.int ix)] [(.ref a)]))
  obtain ⟨T8, X8, e8, st8⟩ := getF X7 hx hZ hown (host := "") (Or.inl (hw _ (List.mem_of_getElem? (i := 11) rfl))) Via.refl e7 Fc (g := (mkF m 79 #[.val (.ref a), .val (.int (0 : Int32)), .val (.int ix)] [(.ref a)])) rfl rfl (hb hby d3_79)
  refine OGo.step (fun uK kK => st8 uK kK) ?_
  show OGo p e below _ (T8.setTop (mkF m 82 #[.val (.ref a), .val (.int (0 : Int32)), .val (.int ix)] [(.ref aC)]))
  refine OGo.step (fun uK kK => XS.iloadN X8.here hx rfl (hb hby d3_82) rfl kK) ?_
  show OGo p e below _ (T8.setTop (mkF m 83 #[.val (.ref a), .val (.int (0 : Int32)), .val (.int ix)] [(.int (0 : Int32)), (.ref aC)]))
  obtain ⟨cl9, Ar9, q9, S9, M9, H9, G9⟩ := id Vc
  have hin9 : ¬ ((0 : Int32) < 0 ∨ cl9.slots.size ≤ ((0 : Int32)).toNatClampNeg) := inb_of S9 ⟨by decide, by decide⟩
  have hat9 : cl9.slots[((0 : Int32)).toNatClampNeg]? = some (.ref aI) := H9.at hin9 rfl
  refine OGo.step (fun uK kK => X8.aaload hx (j := (0 : Int32)) (v := (.ref aI)) (by rw [e8]; exact Ar9.1) (State.isArrayOf_alike hZ.alike Ar9.2.1) rfl Ar9.2.2 hin9 hat9 (g := (mkF m 83 #[.val (.ref a), .val (.int (0 : Int32)), .val (.int ix)] [(.int (0 : Int32)), (.ref aC)])) rfl rfl (hb hby d3_83) uK kK) ?_
  show OGo p e below _ (T8.setTop (mkF m 84 #[.val (.ref a), .val (.int (0 : Int32)), .val (.int ix)] [(.ref aI)]))
  refine OGo.step (fun uK kK => XS.ifnonnullYes X8.here hx rfl (pc0 := 84) (pc' := 115) rfl (hb hby d3_84) rfl (by decide) (by decide) kK) ?_
  show OGo p e below _ (T8.setTop (mkF m 115 #[.val (.ref a), .val (.int (0 : Int32)), .val (.int ix)] []))
  refine OGo.step (fun uK kK => XS.aloadN X8.here hx rfl (hb hby d3_115) rfl rfl kK) ?_
  show OGo p e below _ (T8.setTop (mkF m 116 #[.val (.ref a), .val (.int (0 : Int32)), .val (.int ix)] [(.ref a)]))
  obtain ⟨T10, X10, e10, st10⟩ := getF X8 hx hZ hown (host := "") (Or.inl (hw _ (List.mem_of_getElem? (i := 11) rfl))) Via.refl e8 Fc (g := (mkF m 116 #[.val (.ref a), .val (.int (0 : Int32)), .val (.int ix)] [(.ref a)])) rfl rfl (hb hby d3_116)
  refine OGo.step (fun uK kK => st10 uK kK) ?_
  show OGo p e below _ (T10.setTop (mkF m 119 #[.val (.ref a), .val (.int (0 : Int32)), .val (.int ix)] [(.ref aC)]))
  refine OGo.step (fun uK kK => XS.iloadN X10.here hx rfl (hb hby d3_119) rfl kK) ?_
  show OGo p e below _ (T10.setTop (mkF m 120 #[.val (.ref a), .val (.int (0 : Int32)), .val (.int ix)] [(.int (0 : Int32)), (.ref aC)]))
  obtain ⟨cl11, Ar11, q11, S11, M11, H11, G11⟩ := id Vc
  have hin11 : ¬ ((0 : Int32) < 0 ∨ cl11.slots.size ≤ ((0 : Int32)).toNatClampNeg) := inb_of S11 ⟨by decide, by decide⟩
  have hat11 : cl11.slots[((0 : Int32)).toNatClampNeg]? = some (.ref aI) := H11.at hin11 rfl
  refine OGo.step (fun uK kK => X10.aaload hx (j := (0 : Int32)) (v := (.ref aI)) (by rw [e10]; exact Ar11.1) (State.isArrayOf_alike hZ.alike Ar11.2.1) rfl Ar11.2.2 hin11 hat11 (g := (mkF m 120 #[.val (.ref a), .val (.int (0 : Int32)), .val (.int ix)] [(.int (0 : Int32)), (.ref aC)])) rfl rfl (hb hby d3_120) uK kK) ?_
  show OGo p e below _ (T10.setTop (mkF m 121 #[.val (.ref a), .val (.int (0 : Int32)), .val (.int ix)] [(.ref aI)]))
  obtain ⟨cl12, Ar12, -, S12, M12, -, -⟩ := id Vi
  refine OGo.step (fun uK kK => X10.arraylength hx (by rw [e10]; exact Ar12.1) (State.isArrayOf_alike hZ.alike Ar12.2.1) (g := (mkF m 121 #[.val (.ref a), .val (.int (0 : Int32)), .val (.int ix)] [(.ref aI)])) rfl rfl (hb hby d3_121) uK kK) ?_
  rw [len_of S12 M12]
  show OGo p e below _ (T10.setTop (mkF m 122 #[.val (.ref a), .val (.int (0 : Int32)), .val (.int ix)] [(.int ((8 : Int32) * w))]))
  refine OGo.step (fun uK kK => XS.iloadN X10.here hx rfl (hb hby d3_122) rfl kK) ?_
  show OGo p e below _ (T10.setTop (mkF m 123 #[.val (.ref a), .val (.int (0 : Int32)), .val (.int ix)] [(.int ix), (.int ((8 : Int32) * w))]))
  have hc123 : ¬ (((8 : Int32) * w) = ix) := own_ne8 n w ix hW hn ev_ix
  refine OGo.step (fun uK kK => XS.icmpYes X10.here hx rfl (pc0 := 123) (pc' := 165) rfl (hb hby d3_123) rfl (feq hc123).2 (by decide) (by decide) kK) ?_
  show OGo p e below _ (T10.setTop (mkF m 165 #[.val (.ref a), .val (.int (0 : Int32)), .val (.int ix)] []))
  refine OGo.step (fun uK kK => XS.aloadN X10.here hx rfl (hb hby d3_165) rfl rfl kK) ?_
  show OGo p e below _ (T10.setTop (mkF m 166 #[.val (.ref a), .val (.int (0 : Int32)), .val (.int ix)] [(.ref a)]))
  refine OGo.step (fun uK kK => XS.dup X10.here hx rfl (hb hby d3_166) rfl rfl kK) ?_
  show OGo p e below _ (T10.setTop (mkF m 167 #[.val (.ref a), .val (.int (0 : Int32)), .val (.int ix)] [(.ref a), (.ref a)]))
  obtain ⟨T13, X13, e13, st13⟩ := getF X10 hx hZ hown (host := "") (Or.inl (hw _ (List.mem_of_getElem? (i := 20) rfl))) Via.refl e10 Fs (g := (mkF m 167 #[.val (.ref a), .val (.int (0 : Int32)), .val (.int ix)] [(.ref a), (.ref a)])) rfl rfl (hb hby d3_167)
  refine OGo.step (fun uK kK => st13 uK kK) ?_
  show OGo p e below _ (T13.setTop (mkF m 170 #[.val (.ref a), .val (.int (0 : Int32)), .val (.int ix)] [(.int n), (.ref a)]))
  refine OGo.step (fun uK kK => XS.dupX1 X13.here hx rfl (hb hby d3_170) rfl rfl rfl kK) ?_
  show OGo p e below _ (T13.setTop (mkF m 171 #[.val (.ref a), .val (.int (0 : Int32)), .val (.int ix)] [(.int n), (.ref a), (.int n)]))
  refine OGo.step (fun uK kK => XS.iconst X13.here hx rfl (hb hby d3_171) kK) ?_
  show OGo p e below _ (T13.setTop (mkF m 172 #[.val (.ref a), .val (.int (0 : Int32)), .val (.int ix)] [(.int (1 : Int32)), (.int n), (.ref a), (.int n)]))
  refine OGo.step (fun uK kK => XS.iadd X13.here hx rfl (hb hby d3_172) rfl kK) ?_
  show OGo p e below _ (T13.setTop (mkF m 173 #[.val (.ref a), .val (.int (0 : Int32)), .val (.int ix)] [(.int (n + (1 : Int32))), (.ref a), (.int n)]))
  obtain ⟨T14, h14, X14, e14, W14, st14⟩ := putF X13 hx hZ hown (host := "") (Or.inl (hw _ (List.mem_of_getElem? (i := 20) rfl))) Via.refl e13 Fs Ex (Or.inl (hw _ (List.mem_of_getElem? (i := 21) rfl))) (hw _ (List.mem_of_getElem? (i := 1) rfl)) (ty := .int) (by decide) rfl rfl (g := (mkF m 173 #[.val (.ref a), .val (.int (0 : Int32)), .val (.int ix)] [(.int (n + (1 : Int32))), (.ref a), (.int n)])) rfl rfl (hb hby d3_173)
  have Fw14 := Fs.same W14
  have Fc_15 := (Fc.other W14 (Or.inr (slot_ne (Or.inl (hw _ (List.mem_of_getElem? (i := 12) rfl))) (Or.inl (hw _ (List.mem_of_getElem? (i := 21) rfl))) (by decide) (t := (.array (.array .int))) (t' := .int) (by decide) (by decide))))
  have Fw_16 := (Fw.other W14 (Or.inr (slot_ne (Or.inr (hw _ (List.mem_of_getElem? (i := 14) rfl))) (Or.inl (hw _ (List.mem_of_getElem? (i := 21) rfl))) (by decide) (t := .int) (t' := .int) (by decide) (by decide))))
  have Ex_18 := (Ex.wr W14)
  have Vc_19 := (Vc.other W14 (Ne.symm neC))
  have Vi_20 := (Vi.other W14 (Ne.symm neI))
  have ZS14 : n0 ≤ h14.size := Nat.le_trans Z0 (Keep.of_wr W14).1
  have KC14 : Keep h0 h14 [a] := (Keep.refl h0 [a]).wr W14 (Or.inl (List.mem_of_getElem? (i := 0) rfl))
  have N14 := Fr.snoc X14 N0 ga
  refine OGo.step (fun uK kK => st14 uK kK) ?_
  show OGo p e below _ (T14.setTop (mkF m 176 #[.val (.ref a), .val (.int (0 : Int32)), .val (.int ix)] [(.int n)]))
  exact OGo.retI X14 hx Bd.notSynchronized Bd.returns (hb hby d3_176) (by decide) (by decide) (by show Qa1 Z a n w aC kc aI kI h0 n0 _ T14.heap _; rw [e14]; exact ⟨rfl, N14, KC14, Fc_15, Fw_16, Fw14⟩)
theorem d6_0 : decode prog_34_method_5_code 0 = .ok (.aload_n 0, 1) := by decide +kernel
theorem d6_1 : decode prog_34_method_5_code 1 = .ok (.getfield 11, 3) := by decide +kernel
theorem d6_4 : decode prog_34_method_5_code 4 = .ok (.iload_n 1, 1) := by decide +kernel
theorem d6_5 : decode prog_34_method_5_code 5 = .ok (.bipush 12, 2) := by decide +kernel
theorem d6_7 : decode prog_34_method_5_code 7 = .ok (.iushr, 1) := by decide +kernel
theorem d6_8 : decode prog_34_method_5_code 8 = .ok (.aaload, 1) := by decide +kernel
theorem d6_9 : decode prog_34_method_5_code 9 = .ok (.iload_n 1, 1) := by decide +kernel
theorem d6_10 : decode prog_34_method_5_code 10 = .ok (.sipush 4095, 3) := by decide +kernel
theorem d6_13 : decode prog_34_method_5_code 13 = .ok (.iand, 1) := by decide +kernel
theorem d6_14 : decode prog_34_method_5_code 14 = .ok (.aload_n 0, 1) := by decide +kernel
theorem d6_15 : decode prog_34_method_5_code 15 = .ok (.getfield 15, 3) := by decide +kernel
theorem d6_18 : decode prog_34_method_5_code 18 = .ok (.imul, 1) := by decide +kernel
theorem d6_19 : decode prog_34_method_5_code 19 = .ok (.iload_n 2, 1) := by decide +kernel
theorem d6_20 : decode prog_34_method_5_code 20 = .ok (.iadd, 1) := by decide +kernel
theorem d6_21 : decode prog_34_method_5_code 21 = .ok (.iload_n 3, 1) := by decide +kernel
theorem d6_22 : decode prog_34_method_5_code 22 = .ok (.iastore, 1) := by decide +kernel
theorem d6_23 : decode prog_34_method_5_code 23 = .ok (.return_, 1) := by decide +kernel
theorem pns : plainName "com/example/hitung/hitung/IntChunks" = true := by first | (simp [plainName, overriddenIn]; done) | decide +kernel
theorem efs (m : MethodId) (x0 : Addr) (x1 : Int32) (x2 : Int32) (x3 : Int32) : entryFrame m #[(.ref x0), (.int x1), (.int x2), (.int x3)] 4 = mkF m 0 #[.val (.ref x0), .val (.int x1), .val (.int x2), .val (.int x3)] [] := by first | (simp [entryFrame, mkF, argsToLocals, Value.category]; done) | rfl
def Qs (Z : State) (a : Addr) (r : Int32) (f : Int32) (vv : Int32) (w : Int32) (aC : Addr) (kc : ClassId) (aI : Addr) (kI : ClassId) (hs : List (Int32 × Value)) (h0 : Heap) (n0 : Nat) (v : Option Value) (h : Heap) (L : List Loc) : Prop := v = none ∧ Fr n0 L ∧ Keep h0 h [aI] ∧ Arh Z h aI kI .int ((8 : Int32) * w) (((((r &&& (4095 : Int32)) * w) + f), .int vv) :: hs) [] (.int (0 : Int32))
set_option maxRecDepth 65536 in
set_option maxHeartbeats 40000000 in
theorem rms (l : Launch) (Z : State) (a0 : Array Value) (hw : ∀ d ∈ tables_1, d.before a0 Z = true) (ws : List Jvm.Cond) (a : Addr) (r : Int32) (f : Int32) (vv : Int32) (w : Int32) (aC : Addr) (kc : ClassId) (aI : Addr) (kI : ClassId) (hs : List (Int32 × Value)) (h0 : Heap) (n0 : Nat) (Z0 : n0 ≤ h0.size) (Fc : Fld Z h0 a "com/example/hitung/hitung/IntChunks" "chunks" "[[I" (.ref aC)) (Fw : Fld Z h0 a "com/example/hitung/hitung/IntChunks" "width" "I" (.int w)) (Vc : Arv Z h0 aC kc (.array .int) (1 : Int32) [(.ref aI)] .null) (Vi : Arh Z h0 aI kI .int ((8 : Int32) * w) hs [] (.int (0 : Int32))) (hz : ((r.toUInt32 >>> ((12 : Int32) &&& 31).toUInt32).toInt32) = (0 : Int32)) (hin : ¬ (((r &&& (4095 : Int32)) * w) + f) < 0 ∧ (((r &&& (4095 : Int32)) * w) + f) < ((8 : Int32) * w)) (gI : n0 ≤ aI) :
    MetFree l (⟨"com/example/hitung/hitung/IntChunks", "set", "(III)V"⟩ : MethodName) (head1 (Jvm.Cond.code (⟨"com/example/hitung/hitung/IntChunks", "set", "(III)V"⟩ : MethodName) prog_34_method_5_code 4 none :: ws) ({ frames := 0, cells := 0, slots := 0, locals := 0 } : Room)) (fun aQ UQ => aQ = #[(.ref a), (.int r), (.int f), (.int vv)] ∧ Z.Warmed39 UQ.vm ∧ UQ.heap = h0) (fun _ _ _ _ _ => True) (fun _ U o U' => ∃ v L, o = .returned v ∧ Qs Z a r f vv w aC kc aI kI hs h0 n0 v U'.heap L ∧ FrameEnd U o U' L ({ frames := 0, cells := 0, slots := 0, locals := 0 } : Room).cells ({ frames := 0, cells := 0, slots := 0, locals := 0 } : Room).slots) := by
  refine MetFree.of_bodySF (plainFor_of_name pns) hisR ?_
  intro p e s m args below meth c s₁ Bd hml0 hP hK
  obtain ⟨rfl, hZ, hh⟩ := hP
  have hx := Bd.exec
  have hby := Bd.bytes
  have hml : c.maxLocals = 4 := hml0
  have hown : s.vm.findClass "com/example/hitung/hitung/IntChunks" = some m.cls := findClass_of_methodNamed Bd.named
  have hnm := (name_of_methodNamed Bd.named Bd.method).1
  have X0 : Stand p l e ({ frames := 0, cells := 0, slots := 0, locals := 0 } : Room) s m #[(.ref a), (.int r), (.int f), (.int vv)] below meth c s₁ [] 0 0 := Stand.of_body Bd
  have e0 : s₁.heap = h0 := by rw [← hh, Bd.state]; rfl
  have N0 := Fr.nil n0
  show OGo p e below (OPost s (Qs Z a r f vv w aC kc aI kI hs h0 n0) ({ frames := 0, cells := 0, slots := 0, locals := 0 } : Room).cells ({ frames := 0, cells := 0, slots := 0, locals := 0 } : Room).slots) (s₁.setTop (entryFrame m #[(.ref a), (.int r), (.int f), (.int vv)] 4))
  refine OGo.step (fun uK kK => castTop (efs m a r f vv) kK) ?_
  show OGo p e below _ (s₁.setTop (mkF m 0 #[.val (.ref a), .val (.int r), .val (.int f), .val (.int vv)] []))
  refine OGo.step (fun uK kK => XS.aloadN X0.here hx rfl (hb hby d6_0) rfl rfl kK) ?_
  show OGo p e below _ (s₁.setTop (mkF m 1 #[.val (.ref a), .val (.int r), .val (.int f), .val (.int vv)] [(.ref a)]))
  obtain ⟨T1, X1, e1, st1⟩ := getF X0 hx hZ hown (host := "") (Or.inl (hw _ (List.mem_of_getElem? (i := 11) rfl))) Via.refl e0 Fc (g := (mkF m 1 #[.val (.ref a), .val (.int r), .val (.int f), .val (.int vv)] [(.ref a)])) rfl rfl (hb hby d6_1)
  refine OGo.step (fun uK kK => st1 uK kK) ?_
  show OGo p e below _ (T1.setTop (mkF m 4 #[.val (.ref a), .val (.int r), .val (.int f), .val (.int vv)] [(.ref aC)]))
  refine OGo.step (fun uK kK => XS.iloadN X1.here hx rfl (hb hby d6_4) rfl kK) ?_
  show OGo p e below _ (T1.setTop (mkF m 5 #[.val (.ref a), .val (.int r), .val (.int f), .val (.int vv)] [(.int r), (.ref aC)]))
  refine OGo.step (fun uK kK => XS.bipush X1.here hx rfl (hb hby d6_5) kK) ?_
  show OGo p e below _ (T1.setTop (mkF m 7 #[.val (.ref a), .val (.int r), .val (.int f), .val (.int vv)] [(.int (12 : Int32)), (.int r), (.ref aC)]))
  refine OGo.step (fun uK kK => XS.iushr X1.here hx rfl (hb hby d6_7) rfl kK) ?_
  show OGo p e below _ (T1.setTop (mkF m 8 #[.val (.ref a), .val (.int r), .val (.int f), .val (.int vv)] [(.int ((r.toUInt32 >>> ((12 : Int32) &&& 31).toUInt32).toInt32)), (.ref aC)]))
  have ez2 : ((r.toUInt32 >>> ((12 : Int32) &&& 31).toUInt32).toInt32) = (0 : Int32) := hz
  rw [ez2]
  show OGo p e below _ (T1.setTop (mkF m 8 #[.val (.ref a), .val (.int r), .val (.int f), .val (.int vv)] [(.int (0 : Int32)), (.ref aC)]))
  obtain ⟨cl3, Ar3, q3, S3, M3, H3, G3⟩ := id Vc
  have hin3 : ¬ ((0 : Int32) < 0 ∨ cl3.slots.size ≤ ((0 : Int32)).toNatClampNeg) := inb_of S3 ⟨by decide, by decide⟩
  have hat3 : cl3.slots[((0 : Int32)).toNatClampNeg]? = some (.ref aI) := H3.at hin3 rfl
  refine OGo.step (fun uK kK => X1.aaload hx (j := (0 : Int32)) (v := (.ref aI)) (by rw [e1]; exact Ar3.1) (State.isArrayOf_alike hZ.alike Ar3.2.1) rfl Ar3.2.2 hin3 hat3 (g := (mkF m 8 #[.val (.ref a), .val (.int r), .val (.int f), .val (.int vv)] [(.int (0 : Int32)), (.ref aC)])) rfl rfl (hb hby d6_8) uK kK) ?_
  show OGo p e below _ (T1.setTop (mkF m 9 #[.val (.ref a), .val (.int r), .val (.int f), .val (.int vv)] [(.ref aI)]))
  refine OGo.step (fun uK kK => XS.iloadN X1.here hx rfl (hb hby d6_9) rfl kK) ?_
  show OGo p e below _ (T1.setTop (mkF m 10 #[.val (.ref a), .val (.int r), .val (.int f), .val (.int vv)] [(.int r), (.ref aI)]))
  refine OGo.step (fun uK kK => XS.sipush X1.here hx rfl (hb hby d6_10) kK) ?_
  show OGo p e below _ (T1.setTop (mkF m 13 #[.val (.ref a), .val (.int r), .val (.int f), .val (.int vv)] [(.int (4095 : Int32)), (.int r), (.ref aI)]))
  refine OGo.step (fun uK kK => XS.iand X1.here hx rfl (hb hby d6_13) rfl kK) ?_
  show OGo p e below _ (T1.setTop (mkF m 14 #[.val (.ref a), .val (.int r), .val (.int f), .val (.int vv)] [(.int (r &&& (4095 : Int32))), (.ref aI)]))
  refine OGo.step (fun uK kK => XS.aloadN X1.here hx rfl (hb hby d6_14) rfl rfl kK) ?_
  show OGo p e below _ (T1.setTop (mkF m 15 #[.val (.ref a), .val (.int r), .val (.int f), .val (.int vv)] [(.ref a), (.int (r &&& (4095 : Int32))), (.ref aI)]))
  obtain ⟨T4, X4, e4, st4⟩ := getF X1 hx hZ hown (host := "") (Or.inl (hw _ (List.mem_of_getElem? (i := 13) rfl))) Via.refl e1 Fw (g := (mkF m 15 #[.val (.ref a), .val (.int r), .val (.int f), .val (.int vv)] [(.ref a), (.int (r &&& (4095 : Int32))), (.ref aI)])) rfl rfl (hb hby d6_15)
  refine OGo.step (fun uK kK => st4 uK kK) ?_
  show OGo p e below _ (T4.setTop (mkF m 18 #[.val (.ref a), .val (.int r), .val (.int f), .val (.int vv)] [(.int w), (.int (r &&& (4095 : Int32))), (.ref aI)]))
  refine OGo.step (fun uK kK => XS.imul X4.here hx rfl (hb hby d6_18) rfl kK) ?_
  show OGo p e below _ (T4.setTop (mkF m 19 #[.val (.ref a), .val (.int r), .val (.int f), .val (.int vv)] [(.int ((r &&& (4095 : Int32)) * w)), (.ref aI)]))
  refine OGo.step (fun uK kK => XS.iloadN X4.here hx rfl (hb hby d6_19) rfl kK) ?_
  show OGo p e below _ (T4.setTop (mkF m 20 #[.val (.ref a), .val (.int r), .val (.int f), .val (.int vv)] [(.int f), (.int ((r &&& (4095 : Int32)) * w)), (.ref aI)]))
  refine OGo.step (fun uK kK => XS.iadd X4.here hx rfl (hb hby d6_20) rfl kK) ?_
  show OGo p e below _ (T4.setTop (mkF m 21 #[.val (.ref a), .val (.int r), .val (.int f), .val (.int vv)] [(.int (((r &&& (4095 : Int32)) * w) + f)), (.ref aI)]))
  refine OGo.step (fun uK kK => XS.iloadN X4.here hx rfl (hb hby d6_21) rfl kK) ?_
  show OGo p e below _ (T4.setTop (mkF m 22 #[.val (.ref a), .val (.int r), .val (.int f), .val (.int vv)] [(.int vv), (.int (((r &&& (4095 : Int32)) * w) + f)), (.ref aI)]))
  obtain ⟨cl5, Ar5, q5, S5, M5, H5, G5⟩ := id Vi
  have hin5 : ¬ ((((r &&& (4095 : Int32)) * w) + f) < 0 ∨ cl5.slots.size ≤ ((((r &&& (4095 : Int32)) * w) + f)).toNatClampNeg) := inb_of S5 hin
  obtain ⟨T5, h5, X5, e5, W5, st5⟩ := stI X4 hx hZ e4 Ar5 (j := (((r &&& (4095 : Int32)) * w) + f)) hin5 (g := (mkF m 22 #[.val (.ref a), .val (.int r), .val (.int f), .val (.int vv)] [(.int vv), (.int (((r &&& (4095 : Int32)) * w) + f)), (.ref aI)])) rfl rfl (hb hby d6_22)
  have V_aI_5 : Arh Z h5 aI kI .int ((8 : Int32) * w) (((((r &&& (4095 : Int32)) * w) + f), (.int vv)) :: hs) [] (.int (0 : Int32)) := Arh.push Ar5 q5 S5 M5 H5 G5 rfl W5 hin5
  have ZS5 : n0 ≤ h5.size := Nat.le_trans Z0 (Keep.of_wr W5).1
  have KC5 : Keep h0 h5 [aI] := (Keep.refl h0 [aI]).wr W5 (Or.inl (List.mem_of_getElem? (i := 0) rfl))
  have N5 := Fr.snoc X5 N0 gI
  refine OGo.step (fun uK kK => st5 uK kK) ?_
  show OGo p e below _ (T5.setTop (mkF m 23 #[.val (.ref a), .val (.int r), .val (.int f), .val (.int vv)] []))
  exact OGo.retV X5 hx Bd.notSynchronized Bd.returns (hb hby d6_23) (by decide) (by decide) (by show Qs Z a r f vv w aC kc aI kI hs h0 n0 _ T5.heap _; rw [e5]; exact ⟨rfl, N5, KC5, V_aI_5⟩)
theorem d7_0 : decode prog_34_method_4_code 0 = .ok (.aload_n 0, 1) := by decide +kernel
theorem d7_1 : decode prog_34_method_4_code 1 = .ok (.getfield 11, 3) := by decide +kernel
theorem d7_4 : decode prog_34_method_4_code 4 = .ok (.iload_n 1, 1) := by decide +kernel
theorem d7_5 : decode prog_34_method_4_code 5 = .ok (.bipush 12, 2) := by decide +kernel
theorem d7_7 : decode prog_34_method_4_code 7 = .ok (.iushr, 1) := by decide +kernel
theorem d7_8 : decode prog_34_method_4_code 8 = .ok (.aaload, 1) := by decide +kernel
theorem d7_9 : decode prog_34_method_4_code 9 = .ok (.iload_n 1, 1) := by decide +kernel
theorem d7_10 : decode prog_34_method_4_code 10 = .ok (.sipush 4095, 3) := by decide +kernel
theorem d7_13 : decode prog_34_method_4_code 13 = .ok (.iand, 1) := by decide +kernel
theorem d7_14 : decode prog_34_method_4_code 14 = .ok (.aload_n 0, 1) := by decide +kernel
theorem d7_15 : decode prog_34_method_4_code 15 = .ok (.getfield 15, 3) := by decide +kernel
theorem d7_18 : decode prog_34_method_4_code 18 = .ok (.imul, 1) := by decide +kernel
theorem d7_19 : decode prog_34_method_4_code 19 = .ok (.iload_n 2, 1) := by decide +kernel
theorem d7_20 : decode prog_34_method_4_code 20 = .ok (.iadd, 1) := by decide +kernel
theorem d7_21 : decode prog_34_method_4_code 21 = .ok (.iaload, 1) := by decide +kernel
theorem d7_22 : decode prog_34_method_4_code 22 = .ok (.ireturn, 1) := by decide +kernel
theorem png : plainName "com/example/hitung/hitung/IntChunks" = true := by first | (simp [plainName, overriddenIn]; done) | decide +kernel
theorem efg (m : MethodId) (x0 : Addr) (x1 : Int32) (x2 : Int32) : entryFrame m #[(.ref x0), (.int x1), (.int x2)] 3 = mkF m 0 #[.val (.ref x0), .val (.int x1), .val (.int x2)] [] := by first | (simp [entryFrame, mkF, argsToLocals, Value.category]; done) | rfl
def Qg (Z : State) (a : Addr) (r : Int32) (f : Int32) (w : Int32) (aC : Addr) (kc : ClassId) (aI : Addr) (kI : ClassId) (hs : List (Int32 × Value)) (val : Int32) (h0 : Heap) (n0 : Nat) (v : Option Value) (h : Heap) (L : List Loc) : Prop := v = some (.int val) ∧ Fr n0 L ∧ h = h0
set_option maxRecDepth 65536 in
set_option maxHeartbeats 40000000 in
theorem rmg (l : Launch) (Z : State) (a0 : Array Value) (hw : ∀ d ∈ tables_1, d.before a0 Z = true) (ws : List Jvm.Cond) (a : Addr) (r : Int32) (f : Int32) (w : Int32) (aC : Addr) (kc : ClassId) (aI : Addr) (kI : ClassId) (hs : List (Int32 × Value)) (val : Int32) (h0 : Heap) (n0 : Nat) (Z0 : n0 ≤ h0.size) (Fc : Fld Z h0 a "com/example/hitung/hitung/IntChunks" "chunks" "[[I" (.ref aC)) (Fw : Fld Z h0 a "com/example/hitung/hitung/IntChunks" "width" "I" (.int w)) (Vc : Arv Z h0 aC kc (.array .int) (1 : Int32) [(.ref aI)] .null) (Vi : Arh Z h0 aI kI .int ((8 : Int32) * w) hs [] (.int (0 : Int32))) (hz : ((r.toUInt32 >>> ((12 : Int32) &&& 31).toUInt32).toInt32) = (0 : Int32)) (hin : ¬ (((r &&& (4095 : Int32)) * w) + f) < 0 ∧ (((r &&& (4095 : Int32)) * w) + f) < ((8 : Int32) * w)) (hget : getH hs [] (.int (0 : Int32)) ((((r &&& (4095 : Int32)) * w) + f)).toNatClampNeg = .int val) :
    MetFree l (⟨"com/example/hitung/hitung/IntChunks", "get", "(II)I"⟩ : MethodName) (head1 (Jvm.Cond.code (⟨"com/example/hitung/hitung/IntChunks", "get", "(II)I"⟩ : MethodName) prog_34_method_4_code 3 (some .int) :: ws) ({ frames := 0, cells := 0, slots := 0, locals := 0 } : Room)) (fun aQ UQ => aQ = #[(.ref a), (.int r), (.int f)] ∧ Z.Warmed39 UQ.vm ∧ UQ.heap = h0) (fun _ _ _ _ _ => True) (fun _ U o U' => ∃ v L, o = .returned v ∧ Qg Z a r f w aC kc aI kI hs val h0 n0 v U'.heap L ∧ FrameEnd U o U' L ({ frames := 0, cells := 0, slots := 0, locals := 0 } : Room).cells ({ frames := 0, cells := 0, slots := 0, locals := 0 } : Room).slots) := by
  refine MetFree.of_bodySF (plainFor_of_name png) hisR ?_
  intro p e s m args below meth c s₁ Bd hml0 hP hK
  obtain ⟨rfl, hZ, hh⟩ := hP
  have hx := Bd.exec
  have hby := Bd.bytes
  have hml : c.maxLocals = 3 := hml0
  have hown : s.vm.findClass "com/example/hitung/hitung/IntChunks" = some m.cls := findClass_of_methodNamed Bd.named
  have hnm := (name_of_methodNamed Bd.named Bd.method).1
  have X0 : Stand p l e ({ frames := 0, cells := 0, slots := 0, locals := 0 } : Room) s m #[(.ref a), (.int r), (.int f)] below meth c s₁ [] 0 0 := Stand.of_body Bd
  have e0 : s₁.heap = h0 := by rw [← hh, Bd.state]; rfl
  have N0 := Fr.nil n0
  show OGo p e below (OPost s (Qg Z a r f w aC kc aI kI hs val h0 n0) ({ frames := 0, cells := 0, slots := 0, locals := 0 } : Room).cells ({ frames := 0, cells := 0, slots := 0, locals := 0 } : Room).slots) (s₁.setTop (entryFrame m #[(.ref a), (.int r), (.int f)] 3))
  refine OGo.step (fun uK kK => castTop (efg m a r f) kK) ?_
  show OGo p e below _ (s₁.setTop (mkF m 0 #[.val (.ref a), .val (.int r), .val (.int f)] []))
  refine OGo.step (fun uK kK => XS.aloadN X0.here hx rfl (hb hby d7_0) rfl rfl kK) ?_
  show OGo p e below _ (s₁.setTop (mkF m 1 #[.val (.ref a), .val (.int r), .val (.int f)] [(.ref a)]))
  obtain ⟨T1, X1, e1, st1⟩ := getF X0 hx hZ hown (host := "") (Or.inl (hw _ (List.mem_of_getElem? (i := 11) rfl))) Via.refl e0 Fc (g := (mkF m 1 #[.val (.ref a), .val (.int r), .val (.int f)] [(.ref a)])) rfl rfl (hb hby d7_1)
  refine OGo.step (fun uK kK => st1 uK kK) ?_
  show OGo p e below _ (T1.setTop (mkF m 4 #[.val (.ref a), .val (.int r), .val (.int f)] [(.ref aC)]))
  refine OGo.step (fun uK kK => XS.iloadN X1.here hx rfl (hb hby d7_4) rfl kK) ?_
  show OGo p e below _ (T1.setTop (mkF m 5 #[.val (.ref a), .val (.int r), .val (.int f)] [(.int r), (.ref aC)]))
  refine OGo.step (fun uK kK => XS.bipush X1.here hx rfl (hb hby d7_5) kK) ?_
  show OGo p e below _ (T1.setTop (mkF m 7 #[.val (.ref a), .val (.int r), .val (.int f)] [(.int (12 : Int32)), (.int r), (.ref aC)]))
  refine OGo.step (fun uK kK => XS.iushr X1.here hx rfl (hb hby d7_7) rfl kK) ?_
  show OGo p e below _ (T1.setTop (mkF m 8 #[.val (.ref a), .val (.int r), .val (.int f)] [(.int ((r.toUInt32 >>> ((12 : Int32) &&& 31).toUInt32).toInt32)), (.ref aC)]))
  have ez2 : ((r.toUInt32 >>> ((12 : Int32) &&& 31).toUInt32).toInt32) = (0 : Int32) := hz
  rw [ez2]
  show OGo p e below _ (T1.setTop (mkF m 8 #[.val (.ref a), .val (.int r), .val (.int f)] [(.int (0 : Int32)), (.ref aC)]))
  obtain ⟨cl3, Ar3, q3, S3, M3, H3, G3⟩ := id Vc
  have hin3 : ¬ ((0 : Int32) < 0 ∨ cl3.slots.size ≤ ((0 : Int32)).toNatClampNeg) := inb_of S3 ⟨by decide, by decide⟩
  have hat3 : cl3.slots[((0 : Int32)).toNatClampNeg]? = some (.ref aI) := H3.at hin3 rfl
  refine OGo.step (fun uK kK => X1.aaload hx (j := (0 : Int32)) (v := (.ref aI)) (by rw [e1]; exact Ar3.1) (State.isArrayOf_alike hZ.alike Ar3.2.1) rfl Ar3.2.2 hin3 hat3 (g := (mkF m 8 #[.val (.ref a), .val (.int r), .val (.int f)] [(.int (0 : Int32)), (.ref aC)])) rfl rfl (hb hby d7_8) uK kK) ?_
  show OGo p e below _ (T1.setTop (mkF m 9 #[.val (.ref a), .val (.int r), .val (.int f)] [(.ref aI)]))
  refine OGo.step (fun uK kK => XS.iloadN X1.here hx rfl (hb hby d7_9) rfl kK) ?_
  show OGo p e below _ (T1.setTop (mkF m 10 #[.val (.ref a), .val (.int r), .val (.int f)] [(.int r), (.ref aI)]))
  refine OGo.step (fun uK kK => XS.sipush X1.here hx rfl (hb hby d7_10) kK) ?_
  show OGo p e below _ (T1.setTop (mkF m 13 #[.val (.ref a), .val (.int r), .val (.int f)] [(.int (4095 : Int32)), (.int r), (.ref aI)]))
  refine OGo.step (fun uK kK => XS.iand X1.here hx rfl (hb hby d7_13) rfl kK) ?_
  show OGo p e below _ (T1.setTop (mkF m 14 #[.val (.ref a), .val (.int r), .val (.int f)] [(.int (r &&& (4095 : Int32))), (.ref aI)]))
  refine OGo.step (fun uK kK => XS.aloadN X1.here hx rfl (hb hby d7_14) rfl rfl kK) ?_
  show OGo p e below _ (T1.setTop (mkF m 15 #[.val (.ref a), .val (.int r), .val (.int f)] [(.ref a), (.int (r &&& (4095 : Int32))), (.ref aI)]))
  obtain ⟨T4, X4, e4, st4⟩ := getF X1 hx hZ hown (host := "") (Or.inl (hw _ (List.mem_of_getElem? (i := 13) rfl))) Via.refl e1 Fw (g := (mkF m 15 #[.val (.ref a), .val (.int r), .val (.int f)] [(.ref a), (.int (r &&& (4095 : Int32))), (.ref aI)])) rfl rfl (hb hby d7_15)
  refine OGo.step (fun uK kK => st4 uK kK) ?_
  show OGo p e below _ (T4.setTop (mkF m 18 #[.val (.ref a), .val (.int r), .val (.int f)] [(.int w), (.int (r &&& (4095 : Int32))), (.ref aI)]))
  refine OGo.step (fun uK kK => XS.imul X4.here hx rfl (hb hby d7_18) rfl kK) ?_
  show OGo p e below _ (T4.setTop (mkF m 19 #[.val (.ref a), .val (.int r), .val (.int f)] [(.int ((r &&& (4095 : Int32)) * w)), (.ref aI)]))
  refine OGo.step (fun uK kK => XS.iloadN X4.here hx rfl (hb hby d7_19) rfl kK) ?_
  show OGo p e below _ (T4.setTop (mkF m 20 #[.val (.ref a), .val (.int r), .val (.int f)] [(.int f), (.int ((r &&& (4095 : Int32)) * w)), (.ref aI)]))
  refine OGo.step (fun uK kK => XS.iadd X4.here hx rfl (hb hby d7_20) rfl kK) ?_
  show OGo p e below _ (T4.setTop (mkF m 21 #[.val (.ref a), .val (.int r), .val (.int f)] [(.int (((r &&& (4095 : Int32)) * w) + f)), (.ref aI)]))
  obtain ⟨cl5, Ar5, q5, S5, M5, H5, G5⟩ := id Vi
  have hin5 : ¬ ((((r &&& (4095 : Int32)) * w) + f) < 0 ∨ cl5.slots.size ≤ ((((r &&& (4095 : Int32)) * w) + f)).toNatClampNeg) := inb_of S5 hin
  have hat5 : cl5.slots[((((r &&& (4095 : Int32)) * w) + f)).toNatClampNeg]? = some (.int val) := atH H5 hin5 hget
  refine OGo.step (fun uK kK => X4.iaload hx (j := (((r &&& (4095 : Int32)) * w) + f)) (v := (.int val)) (by rw [e4]; exact Ar5.1) (State.isArrayOf_alike hZ.alike Ar5.2.1) Ar5.2.2 hin5 hat5 (g := (mkF m 21 #[.val (.ref a), .val (.int r), .val (.int f)] [(.int (((r &&& (4095 : Int32)) * w) + f)), (.ref aI)])) rfl rfl (hb hby d7_21) uK kK) ?_
  show OGo p e below _ (T4.setTop (mkF m 22 #[.val (.ref a), .val (.int r), .val (.int f)] [(.int val)]))
  exact OGo.retI X4 hx Bd.notSynchronized Bd.returns (hb hby d7_22) (by decide) (by decide) (by show Qg Z a r f w aC kc aI kI hs val h0 n0 _ T4.heap _; rw [e4]; exact ⟨rfl, N0, rfl⟩)
theorem d4_0 : decode method_2_code 0 = .ok (.iload_n 0, 1) := by decide +kernel
theorem d4_1 : decode method_2_code 1 = .ok (.ldc 7, 2) := by decide +kernel
theorem d4_3 : decode method_2_code 3 = .ok (.iand, 1) := by decide +kernel
theorem d4_4 : decode method_2_code 4 = .ok (.iconst 3, 1) := by decide +kernel
theorem d4_5 : decode method_2_code 5 = .ok (.irem, 1) := by decide +kernel
theorem d4_6 : decode method_2_code 6 = .ok (.ireturn, 1) := by decide +kernel
theorem pnrec : plainName "com/example/hitung/hitung/IntChunksGetPinLaw" = true := by first | (simp [plainName, overriddenIn]; done) | decide +kernel
theorem efrec (m : MethodId) (x0 : Int32) : entryFrame m #[(.int x0)] 1 = mkF m 0 #[.val (.int x0)] [] := by first | (simp [entryFrame, mkF, argsToLocals, Value.category]; done) | rfl
def Qrec (Z : State) (p1 : Int32) (h0 : Heap) (n0 : Nat) (v : Option Value) (h : Heap) (L : List Loc) : Prop := v = some (.int ((p1 &&& (2147483647 : Int32)) % (3 : Int32))) ∧ Fr n0 L ∧ h = h0
set_option maxRecDepth 65536 in
set_option maxHeartbeats 40000000 in
theorem rmrec (l : Launch) (Z : State) (a0 : Array Value) (hw : ∀ d ∈ tables_1, d.before a0 Z = true) (ws : List Jvm.Cond) (p1 : Int32) (h0 : Heap) (n0 : Nat) (Z0 : n0 ≤ h0.size) :
    MetFree l (⟨"com/example/hitung/hitung/IntChunksGetPinLaw", "rec", "(I)I"⟩ : MethodName) (head1 (Jvm.Cond.code (⟨"com/example/hitung/hitung/IntChunksGetPinLaw", "rec", "(I)I"⟩ : MethodName) method_2_code 1 (some .int) :: ws) ({ frames := 0, cells := 0, slots := 0, locals := 0 } : Room)) (fun aQ UQ => aQ = #[(.int p1)] ∧ Z.Warmed39 UQ.vm ∧ UQ.heap = h0) (fun _ _ _ _ _ => True) (fun _ U o U' => ∃ v L, o = .returned v ∧ Qrec Z p1 h0 n0 v U'.heap L ∧ FrameEnd U o U' L ({ frames := 0, cells := 0, slots := 0, locals := 0 } : Room).cells ({ frames := 0, cells := 0, slots := 0, locals := 0 } : Room).slots) := by
  refine MetFree.of_bodySF (plainFor_of_name pnrec) hisR ?_
  intro p e s m args below meth c s₁ Bd hml0 hP hK
  obtain ⟨rfl, hZ, hh⟩ := hP
  have hx := Bd.exec
  have hby := Bd.bytes
  have hml : c.maxLocals = 1 := hml0
  have hown : s.vm.findClass "com/example/hitung/hitung/IntChunksGetPinLaw" = some m.cls := findClass_of_methodNamed Bd.named
  have hnm := (name_of_methodNamed Bd.named Bd.method).1
  have X0 : Stand p l e ({ frames := 0, cells := 0, slots := 0, locals := 0 } : Room) s m #[(.int p1)] below meth c s₁ [] 0 0 := Stand.of_body Bd
  have e0 : s₁.heap = h0 := by rw [← hh, Bd.state]; rfl
  have N0 := Fr.nil n0
  show OGo p e below (OPost s (Qrec Z p1 h0 n0) ({ frames := 0, cells := 0, slots := 0, locals := 0 } : Room).cells ({ frames := 0, cells := 0, slots := 0, locals := 0 } : Room).slots) (s₁.setTop (entryFrame m #[(.int p1)] 1))
  refine OGo.step (fun uK kK => castTop (efrec m p1) kK) ?_
  show OGo p e below _ (s₁.setTop (mkF m 0 #[.val (.int p1)] []))
  refine OGo.step (fun uK kK => XS.iloadN X0.here hx rfl (hb hby d4_0) rfl kK) ?_
  show OGo p e below _ (s₁.setTop (mkF m 1 #[.val (.int p1)] [(.int p1)]))
  refine OGo.step (fun uK kK => X0.ldcI hx hown (mvT hZ (hw _ (List.mem_of_getElem? (i := 29) rfl))) rfl (hb hby d4_1) kK) ?_
  show OGo p e below _ (s₁.setTop (mkF m 3 #[.val (.int p1)] [(.int (2147483647 : Int32)), (.int p1)]))
  refine OGo.step (fun uK kK => XS.iand X0.here hx rfl (hb hby d4_3) rfl kK) ?_
  show OGo p e below _ (s₁.setTop (mkF m 4 #[.val (.int p1)] [(.int (p1 &&& (2147483647 : Int32)))]))
  refine OGo.step (fun uK kK => XS.iconst X0.here hx rfl (hb hby d4_4) kK) ?_
  show OGo p e below _ (s₁.setTop (mkF m 5 #[.val (.int p1)] [(.int (3 : Int32)), (.int (p1 &&& (2147483647 : Int32)))]))
  have hnz5 : (3 : Int32) ≠ 0 := by decide
  refine OGo.step (fun uK kK => iremM X0 hx rfl (hb hby d4_5) rfl hnz5 kK) ?_
  show OGo p e below _ (s₁.setTop (mkF m 6 #[.val (.int p1)] [(.int ((p1 &&& (2147483647 : Int32)) % (3 : Int32)))]))
  exact OGo.retI X0 hx Bd.notSynchronized Bd.returns (hb hby d4_6) (by decide) (by decide) (by show Qrec Z p1 h0 n0 _ s₁.heap _; rw [e0]; exact ⟨rfl, N0, rfl⟩)
theorem d5_0 : decode method_3_code 0 = .ok (.iload_n 0, 1) := by decide +kernel
theorem d5_1 : decode method_3_code 1 = .ok (.bipush 8, 2) := by decide +kernel
theorem d5_3 : decode method_3_code 3 = .ok (.iushr, 1) := by decide +kernel
theorem d5_4 : decode method_3_code 4 = .ok (.iload_n 1, 1) := by decide +kernel
theorem d5_5 : decode method_3_code 5 = .ok (.irem, 1) := by decide +kernel
theorem d5_6 : decode method_3_code 6 = .ok (.ireturn, 1) := by decide +kernel
theorem pnfld : plainName "com/example/hitung/hitung/IntChunksGetPinLaw" = true := by first | (simp [plainName, overriddenIn]; done) | decide +kernel
theorem effld (m : MethodId) (x0 : Int32) (x1 : Int32) : entryFrame m #[(.int x0), (.int x1)] 2 = mkF m 0 #[.val (.int x0), .val (.int x1)] [] := by first | (simp [entryFrame, mkF, argsToLocals, Value.category]; done) | rfl
def Qfld (Z : State) (p1 : Int32) (w : Int32) (h0 : Heap) (n0 : Nat) (v : Option Value) (h : Heap) (L : List Loc) : Prop := v = some (.int (((p1.toUInt32 >>> ((8 : Int32) &&& 31).toUInt32).toInt32) % w)) ∧ Fr n0 L ∧ h = h0
set_option maxRecDepth 65536 in
set_option maxHeartbeats 40000000 in
theorem rmfld (l : Launch) (Z : State) (a0 : Array Value) (hw : ∀ d ∈ tables_1, d.before a0 Z = true) (ws : List Jvm.Cond) (p1 : Int32) (w : Int32) (h0 : Heap) (n0 : Nat) (Z0 : n0 ≤ h0.size) (hw0 : w ≠ 0) :
    MetFree l (⟨"com/example/hitung/hitung/IntChunksGetPinLaw", "fld", "(II)I"⟩ : MethodName) (head1 (Jvm.Cond.code (⟨"com/example/hitung/hitung/IntChunksGetPinLaw", "fld", "(II)I"⟩ : MethodName) method_3_code 2 (some .int) :: ws) ({ frames := 0, cells := 0, slots := 0, locals := 0 } : Room)) (fun aQ UQ => aQ = #[(.int p1), (.int w)] ∧ Z.Warmed39 UQ.vm ∧ UQ.heap = h0) (fun _ _ _ _ _ => True) (fun _ U o U' => ∃ v L, o = .returned v ∧ Qfld Z p1 w h0 n0 v U'.heap L ∧ FrameEnd U o U' L ({ frames := 0, cells := 0, slots := 0, locals := 0 } : Room).cells ({ frames := 0, cells := 0, slots := 0, locals := 0 } : Room).slots) := by
  refine MetFree.of_bodySF (plainFor_of_name pnfld) hisR ?_
  intro p e s m args below meth c s₁ Bd hml0 hP hK
  obtain ⟨rfl, hZ, hh⟩ := hP
  have hx := Bd.exec
  have hby := Bd.bytes
  have hml : c.maxLocals = 2 := hml0
  have hown : s.vm.findClass "com/example/hitung/hitung/IntChunksGetPinLaw" = some m.cls := findClass_of_methodNamed Bd.named
  have hnm := (name_of_methodNamed Bd.named Bd.method).1
  have X0 : Stand p l e ({ frames := 0, cells := 0, slots := 0, locals := 0 } : Room) s m #[(.int p1), (.int w)] below meth c s₁ [] 0 0 := Stand.of_body Bd
  have e0 : s₁.heap = h0 := by rw [← hh, Bd.state]; rfl
  have N0 := Fr.nil n0
  show OGo p e below (OPost s (Qfld Z p1 w h0 n0) ({ frames := 0, cells := 0, slots := 0, locals := 0 } : Room).cells ({ frames := 0, cells := 0, slots := 0, locals := 0 } : Room).slots) (s₁.setTop (entryFrame m #[(.int p1), (.int w)] 2))
  refine OGo.step (fun uK kK => castTop (effld m p1 w) kK) ?_
  show OGo p e below _ (s₁.setTop (mkF m 0 #[.val (.int p1), .val (.int w)] []))
  refine OGo.step (fun uK kK => XS.iloadN X0.here hx rfl (hb hby d5_0) rfl kK) ?_
  show OGo p e below _ (s₁.setTop (mkF m 1 #[.val (.int p1), .val (.int w)] [(.int p1)]))
  refine OGo.step (fun uK kK => XS.bipush X0.here hx rfl (hb hby d5_1) kK) ?_
  show OGo p e below _ (s₁.setTop (mkF m 3 #[.val (.int p1), .val (.int w)] [(.int (8 : Int32)), (.int p1)]))
  refine OGo.step (fun uK kK => XS.iushr X0.here hx rfl (hb hby d5_3) rfl kK) ?_
  show OGo p e below _ (s₁.setTop (mkF m 4 #[.val (.int p1), .val (.int w)] [(.int ((p1.toUInt32 >>> ((8 : Int32) &&& 31).toUInt32).toInt32))]))
  refine OGo.step (fun uK kK => XS.iloadN X0.here hx rfl (hb hby d5_4) rfl kK) ?_
  show OGo p e below _ (s₁.setTop (mkF m 5 #[.val (.int p1), .val (.int w)] [(.int w), (.int ((p1.toUInt32 >>> ((8 : Int32) &&& 31).toUInt32).toInt32))]))
  have hnz5 : w ≠ 0 := hw0
  refine OGo.step (fun uK kK => iremM X0 hx rfl (hb hby d5_5) rfl hnz5 kK) ?_
  show OGo p e below _ (s₁.setTop (mkF m 6 #[.val (.int p1), .val (.int w)] [(.int (((p1.toUInt32 >>> ((8 : Int32) &&& 31).toUInt32).toInt32) % w))]))
  exact OGo.retI X0 hx Bd.notSynchronized Bd.returns (hb hby d5_6) (by decide) (by decide) (by show Qfld Z p1 w h0 n0 _ s₁.heap _; rw [e0]; exact ⟨rfl, N0, rfl⟩)
theorem pn0 : plainName "com/example/hitung/hitung/IntChunksGetPinLaw" = true := by first | (simp [plainName, overriddenIn]; done) | decide +kernel
theorem pd0_0 : parseMethodDescriptor "(I)V" = some ⟨[.int], none⟩ := by decide +kernel
theorem pd0_1 : parseMethodDescriptor "()I" = some ⟨[], some .int⟩ := by decide +kernel
theorem pd0_2 : parseMethodDescriptor "(I)I" = some ⟨[.int], some .int⟩ := by decide +kernel
theorem pd0_3 : parseMethodDescriptor "(II)I" = some ⟨[.int, .int], some .int⟩ := by decide +kernel
theorem pd0_4 : parseMethodDescriptor "(III)V" = some ⟨[.int, .int, .int], none⟩ := by decide +kernel
theorem ef0 (m : MethodId) (x0 : Int32) (x1 : Int32) (x2 : Int32) (x3 : Int32) (x4 : Int32) (x5 : Int32) : entryFrame m #[(.int x0), (.int x1), (.int x2), (.int x3), (.int x4), (.int x5)] maxLocals = mkF m 0 #[.val (.int x0), .val (.int x1), .val (.int x2), .val (.int x3), .val (.int x4), .val (.int x5), .unset, .unset, .unset, .unset, .unset, .unset, .unset, .unset, .unset, .unset, .unset, .unset, .unset, .unset, .unset, .unset] [] := by first | (simp [entryFrame, mkF, argsToLocals, Value.category, maxLocals]; done) | rfl
def Q0 (Z : State) (z0 : Int32) (c1 : Int32) (c2 : Int32) (c3 : Int32) (v1 : Int32) (v2 : Int32) (h0 : Heap) (n0 : Nat) (v : Option Value) (h : Heap) (L : List Loc) : Prop := v = some (.int 1) ∧ Fr n0 L
set_option maxRecDepth 65536 in
set_option maxHeartbeats 40000000 in
theorem rm0 (l : Launch) (Z : State) (a0 : Array Value) (hw : ∀ d ∈ tables_1, d.before a0 Z = true) (ws : List Jvm.Cond) (z0 : Int32) (c1 : Int32) (c2 : Int32) (c3 : Int32) (v1 : Int32) (v2 : Int32) (h0 : Heap) (n0 : Nat) (Z0 : n0 ≤ h0.size) :
    MetFree l x (head1 (Jvm.Cond.code x code maxLocals ret :: ws) room_1) (fun aQ UQ => aQ = #[(.int z0), (.int c1), (.int c2), (.int c3), (.int v1), (.int v2)] ∧ Z.Warmed39 UQ.vm ∧ UQ.heap = h0) (fun _ _ _ _ _ => True) (fun _ U o U' => ∃ v L, o = .returned v ∧ Q0 Z z0 c1 c2 c3 v1 v2 h0 n0 v U'.heap L ∧ FrameEnd U o U' L room_1.cells room_1.slots) := by
  refine MetFree.of_bodySF (plainFor_of_name pn0) hisR ?_
  intro p e s m args below meth c s₁ Bd hml0 hP hK
  obtain ⟨rfl, hZ, hh⟩ := hP
  have hx := Bd.exec
  have hby := Bd.bytes
  have hml : c.maxLocals = 22 := hml0
  have hown : s.vm.findClass "com/example/hitung/hitung/IntChunksGetPinLaw" = some m.cls := findClass_of_methodNamed Bd.named
  have hnm := (name_of_methodNamed Bd.named Bd.method).1
  have X0 : Stand p l e room_1 s m #[(.int z0), (.int c1), (.int c2), (.int c3), (.int v1), (.int v2)] below meth c s₁ [] 0 0 := Stand.of_body Bd
  have e0 : s₁.heap = h0 := by rw [← hh, Bd.state]; rfl
  have N0 := Fr.nil n0
  show OGo p e below (OPost s (Q0 Z z0 c1 c2 c3 v1 v2 h0 n0) room_1.cells room_1.slots) (s₁.setTop (entryFrame m #[(.int z0), (.int c1), (.int c2), (.int c3), (.int v1), (.int v2)] maxLocals))
  refine OGo.step (fun uK kK => castTop (ef0 m z0 c1 c2 c3 v1 v2) kK) ?_
  show OGo p e below _ (s₁.setTop (mkF m 0 #[.val (.int z0), .val (.int c1), .val (.int c2), .val (.int c3), .val (.int v1), .val (.int v2), .unset, .unset, .unset, .unset, .unset, .unset, .unset, .unset, .unset, .unset, .unset, .unset, .unset, .unset, .unset, .unset] []))
  refine OGo.step (fun uK kK => XS.iconst X0.here hx rfl (hb hby at_0) kK) ?_
  show OGo p e below _ (s₁.setTop (mkF m 1 #[.val (.int z0), .val (.int c1), .val (.int c2), .val (.int c3), .val (.int v1), .val (.int v2), .unset, .unset, .unset, .unset, .unset, .unset, .unset, .unset, .unset, .unset, .unset, .unset, .unset, .unset, .unset, .unset] [(.int (1 : Int32))]))
  refine OGo.step (fun uK kK => XS.iloadN X0.here hx rfl (hb hby at_1) rfl kK) ?_
  show OGo p e below _ (s₁.setTop (mkF m 2 #[.val (.int z0), .val (.int c1), .val (.int c2), .val (.int c3), .val (.int v1), .val (.int v2), .unset, .unset, .unset, .unset, .unset, .unset, .unset, .unset, .unset, .unset, .unset, .unset, .unset, .unset, .unset, .unset] [(.int z0), (.int (1 : Int32))]))
  refine OGo.step (fun uK kK => XS.iconst X0.here hx rfl (hb hby at_2) kK) ?_
  show OGo p e below _ (s₁.setTop (mkF m 3 #[.val (.int z0), .val (.int c1), .val (.int c2), .val (.int c3), .val (.int v1), .val (.int v2), .unset, .unset, .unset, .unset, .unset, .unset, .unset, .unset, .unset, .unset, .unset, .unset, .unset, .unset, .unset, .unset] [(.int (3 : Int32)), (.int z0), (.int (1 : Int32))]))
  refine OGo.step (fun uK kK => XS.iand X0.here hx rfl (hb hby at_3) rfl kK) ?_
  show OGo p e below _ (s₁.setTop (mkF m 4 #[.val (.int z0), .val (.int c1), .val (.int c2), .val (.int c3), .val (.int v1), .val (.int v2), .unset, .unset, .unset, .unset, .unset, .unset, .unset, .unset, .unset, .unset, .unset, .unset, .unset, .unset, .unset, .unset] [(.int (z0 &&& (3 : Int32))), (.int (1 : Int32))]))
  refine OGo.step (fun uK kK => XS.iadd X0.here hx rfl (hb hby at_4) rfl kK) ?_
  show OGo p e below _ (s₁.setTop (mkF m 5 #[.val (.int z0), .val (.int c1), .val (.int c2), .val (.int c3), .val (.int v1), .val (.int v2), .unset, .unset, .unset, .unset, .unset, .unset, .unset, .unset, .unset, .unset, .unset, .unset, .unset, .unset, .unset, .unset] [(.int ((1 : Int32) + (z0 &&& (3 : Int32))))]))
  obtain ⟨w_, ev_w_⟩ : ∃ z : Int32, z = ((1 : Int32) + (z0 &&& (3 : Int32))) := ⟨_, rfl⟩
  rw [← ev_w_]
  show OGo p e below _ (s₁.setTop (mkF m 5 #[.val (.int z0), .val (.int c1), .val (.int c2), .val (.int c3), .val (.int v1), .val (.int v2), .unset, .unset, .unset, .unset, .unset, .unset, .unset, .unset, .unset, .unset, .unset, .unset, .unset, .unset, .unset, .unset] [(.int w_)]))
  refine OGo.step (fun uK kK => XS.istore X0.here hx rfl (hb hby at_5) rfl (l' := #[.val (.int z0), .val (.int c1), .val (.int c2), .val (.int c3), .val (.int v1), .val (.int v2), .val (.int w_), .unset, .unset, .unset, .unset, .unset, .unset, .unset, .unset, .unset, .unset, .unset, .unset, .unset, .unset, .unset]) rfl kK) ?_
  show OGo p e below _ (s₁.setTop (mkF m 7 #[.val (.int z0), .val (.int c1), .val (.int c2), .val (.int c3), .val (.int v1), .val (.int v2), .val (.int w_), .unset, .unset, .unset, .unset, .unset, .unset, .unset, .unset, .unset, .unset, .unset, .unset, .unset, .unset, .unset] []))
  have hW := own_w z0 w_ ev_w_
  have hw0 := own_w0 w_ hW
  obtain ⟨T1, h1, X1, e1, E1, A1, D1, -, st1⟩ := newO X0 hx hZ hown (hw _ (List.mem_of_getElem? (i := 0) rfl)) (hw _ (List.mem_of_getElem? (i := 1) rfl)) (hw _ (List.mem_of_getElem? (i := 2) rfl)) e0 (g := (mkF m 7 #[.val (.int z0), .val (.int c1), .val (.int c2), .val (.int c3), .val (.int v1), .val (.int v2), .val (.int w_), .unset, .unset, .unset, .unset, .unset, .unset, .unset, .unset, .unset, .unset, .unset, .unset, .unset, .unset, .unset] [])) rfl (hb hby at_7) (by decide) (by decide)
  obtain ⟨b1, g1⟩ : ∃ z, z = h0.size := ⟨_, rfl⟩
  rw [← g1] at A1 D1 st1
  have gn_b1 : n0 ≤ b1 := Nat.le_trans Z0 (Nat.le_of_eq g1.symm)
  have sz_b1 : h0.size ≤ b1 := Nat.le_trans (Keep.refl h0 []).1 (Nat.le_of_eq g1.symm)
  have ZS1 : n0 ≤ h1.size := Nat.le_trans Z0 E1.1
  have KC1 : Keep h0 h1 [] := (Keep.refl h0 []).ext E1
  have Fchunks_b1 : Fld Z h1 b1 "com/example/hitung/hitung/IntChunks" "chunks" "[[I" .null := D1 (Or.inl (hw _ (List.mem_of_getElem? (i := 12) rfl))) (ty := (.array (.array .int))) (by decide)
  have Fwidth_b1 : Fld Z h1 b1 "com/example/hitung/hitung/IntChunks" "width" "I" (.int (0 : Int32)) := D1 (Or.inr (hw _ (List.mem_of_getElem? (i := 14) rfl))) (ty := .int) (by decide)
  have Fsize_b1 : Fld Z h1 b1 "com/example/hitung/hitung/IntChunks" "size" "I" (.int (0 : Int32)) := D1 (Or.inl (hw _ (List.mem_of_getElem? (i := 21) rfl))) (ty := .int) (by decide)
  refine OGo.step (fun uK kK => st1 uK kK) ?_
  show OGo p e below _ (T1.setTop (mkF m 10 #[.val (.int z0), .val (.int c1), .val (.int c2), .val (.int c3), .val (.int v1), .val (.int v2), .val (.int w_), .unset, .unset, .unset, .unset, .unset, .unset, .unset, .unset, .unset, .unset, .unset, .unset, .unset, .unset, .unset] [(.ref b1)]))
  refine OGo.step (fun uK kK => XS.dup X1.here hx rfl (hb hby at_10) rfl rfl kK) ?_
  show OGo p e below _ (T1.setTop (mkF m 11 #[.val (.int z0), .val (.int c1), .val (.int c2), .val (.int c3), .val (.int v1), .val (.int v2), .val (.int w_), .unset, .unset, .unset, .unset, .unset, .unset, .unset, .unset, .unset, .unset, .unset, .unset, .unset, .unset, .unset] [(.ref b1), (.ref b1)]))
  refine OGo.step (fun uK kK => XS.iload X1.here hx rfl (hb hby at_11) rfl kK) ?_
  show OGo p e below _ (T1.setTop (mkF m 13 #[.val (.int z0), .val (.int c1), .val (.int c2), .val (.int c3), .val (.int v1), .val (.int v2), .val (.int w_), .unset, .unset, .unset, .unset, .unset, .unset, .unset, .unset, .unset, .unset, .unset, .unset, .unset, .unset, .unset] [(.int w_), (.ref b1), (.ref b1)]))
  obtain ⟨_, _, ⟨T2, Lq2, kq_2, nq_2⟩, -, X2, ⟨Lc2, hQ2, lq2, yq2, zq2⟩, st2⟩ := X1.specialBack hx (y := (⟨"com/example/hitung/hitung/IntChunks", "<init>", "(I)V"⟩ : MethodName)) rfl hown (mvT hZ (hw _ (List.mem_of_getElem? (i := 3) rfl))) (mvT hZ (hw _ (List.mem_of_getElem? (i := 4) rfl))) (mvT hZ (hw _ (List.mem_of_getElem? (i := 5) rfl))) (by decide) (backOf (W := 1) (rmi l Z a0 hw [] b1 w_  h1 n0 ZS1 Fchunks_b1 Fwidth_b1 Fsize_b1 A1 gn_b1) hZ (hw _ (List.mem_of_getElem? (i := 5) rfl)) (hw _ (List.mem_of_getElem? (i := 2) rfl)) (by decide) (by decide)) (g := (mkF m 13 #[.val (.int z0), .val (.int c1), .val (.int c2), .val (.int c3), .val (.int v1), .val (.int v2), .val (.int w_), .unset, .unset, .unset, .unset, .unset, .unset, .unset, .unset, .unset, .unset, .unset, .unset, .unset, .unset, .unset] [(.int w_), (.ref b1), (.ref b1)])) rfl (by rw [hml]; rfl) (Steps.refl _) (a := b1) (argsL := [(.int w_)]) (rest := [(.ref b1)]) (lenOf pd0_0 rfl) rfl (by show 2 * 0 + _ ≤ _; exact Nat.le_of_eq rfl) (hb hby at_13) (fun _ _ => ⟨rfl, e1, (by decide : 1 + 1 ≤ _), (by decide : 3 + 1 ≤ _)⟩)
  dsimp only [Pt.U, Pt.locs, Pt.cells, Pt.slots] at X2 lq2 yq2 zq2 st2 hQ2
  subst lq2 yq2 zq2
  obtain ⟨rfl, Nq2, K2, aC, kc, gC, zC, Fc2, Fw2, Fs2, Vc2, Oc⟩ := hQ2
  have A1_3 := (A1.keep K2)
  have ZS2 : n0 ≤ T2.heap.size := Nat.le_trans ZS1 K2.1
  have KC2 : Keep h0 T2.heap [] := KC1.trans K2 (allS (Or.inr sz_b1) all0)
  have N2 := Fr.app N0 Nq2
  refine OGo.steps st2 ?_
  show OGo p e below _ (T2.setTop (mkF m 16 #[.val (.int z0), .val (.int c1), .val (.int c2), .val (.int c3), .val (.int v1), .val (.int v2), .val (.int w_), .unset, .unset, .unset, .unset, .unset, .unset, .unset, .unset, .unset, .unset, .unset, .unset, .unset, .unset, .unset] [(.ref b1)]))
  have sz_aC : h0.size ≤ aC := Nat.le_trans KC1.1 zC
  have ne_b1_aC : b1 ≠ aC := Nat.ne_of_lt (Nat.lt_of_lt_of_le A1.lt zC)
  refine OGo.step (fun uK kK => XS.astore X2.here hx rfl (hb hby at_16) rfl rfl (l' := #[.val (.int z0), .val (.int c1), .val (.int c2), .val (.int c3), .val (.int v1), .val (.int v2), .val (.int w_), .val (.ref b1), .unset, .unset, .unset, .unset, .unset, .unset, .unset, .unset, .unset, .unset, .unset, .unset, .unset, .unset]) rfl kK) ?_
  show OGo p e below _ (T2.setTop (mkF m 18 #[.val (.int z0), .val (.int c1), .val (.int c2), .val (.int c3), .val (.int v1), .val (.int v2), .val (.int w_), .val (.ref b1), .unset, .unset, .unset, .unset, .unset, .unset, .unset, .unset, .unset, .unset, .unset, .unset, .unset, .unset] []))
  refine OGo.step (fun uK kK => XS.aload X2.here hx rfl (hb hby at_18) rfl rfl kK) ?_
  show OGo p e below _ (T2.setTop (mkF m 20 #[.val (.int z0), .val (.int c1), .val (.int c2), .val (.int c3), .val (.int v1), .val (.int v2), .val (.int w_), .val (.ref b1), .unset, .unset, .unset, .unset, .unset, .unset, .unset, .unset, .unset, .unset, .unset, .unset, .unset, .unset] [(.ref b1)]))
  obtain ⟨cq7, kq7, q7a, q7b, q7c⟩ := isOf hZ rfl A1_3
  obtain ⟨_, _, ⟨T7, Lq7, kq_7, nq_7⟩, -, X7, ⟨Lc7, hQ7, lq7, yq7, zq7⟩, st7⟩ := X2.virtualBack hx (y := (⟨"com/example/hitung/hitung/IntChunks", "add", "()I"⟩ : MethodName)) (z := (⟨"com/example/hitung/hitung/IntChunks", "add", "()I"⟩ : MethodName)) hown (mvT hZ (hw _ (List.mem_of_getElem? (i := 15) rfl))) (mvT hZ (hw _ (List.mem_of_getElem? (i := 16) rfl))) (notFace_of_selects (args := #[]) (mvT hZ (hw _ (List.mem_of_getElem? (i := 18) rfl)))) (mvT hZ (hw _ (List.mem_of_getElem? (i := 18) rfl))) (mvT hZ (hw _ (List.mem_of_getElem? (i := 17) rfl))) (by decide) (backOf (W := 0) (rma0 l Z a0 hw [] b1 w_ aC kc T2.heap n0 ZS2 Fc2 Fw2 Fs2 Vc2 Oc A1_3 gn_b1 gC ne_b1_aC hW) hZ (hw _ (List.mem_of_getElem? (i := 19) rfl)) (hw _ (List.mem_of_getElem? (i := 2) rfl)) (by decide) (by decide)) q7a q7c (g := (mkF m 20 #[.val (.int z0), .val (.int c1), .val (.int c2), .val (.int c3), .val (.int v1), .val (.int v2), .val (.int w_), .val (.ref b1), .unset, .unset, .unset, .unset, .unset, .unset, .unset, .unset, .unset, .unset, .unset, .unset, .unset, .unset] [(.ref b1)])) rfl (by rw [hml]; rfl) (Steps.refl _) (argsL := []) (rest := []) (lenOf pd0_1 rfl) rfl (by show 2 * 0 + _ ≤ _; exact Nat.le_of_eq rfl) (hb hby at_20) (fun _ _ => ⟨rfl, rfl, (by decide : 2 + 1 ≤ _), (by decide : 4 + 32 ≤ _)⟩)
  dsimp only [Pt.U, Pt.locs, Pt.cells, Pt.slots] at X7 lq7 yq7 zq7 st7 hQ7
  subst lq7 yq7 zq7
  obtain ⟨rfl, Nq7, K7, aI, kI, gI, zI, Fc7, Fw7, Fs7, Vc7, Vi7⟩ := hQ7
  have A1_8 := (A1_3.keep K7)
  have ZS7 : n0 ≤ T7.heap.size := Nat.le_trans ZS2 K7.1
  have KC7 : Keep h0 T7.heap [] := KC2.trans K7 (allS (Or.inr sz_b1) (allS (Or.inr sz_aC) all0))
  have N7 := Fr.app N2 Nq7
  refine OGo.steps st7 ?_
  show OGo p e below _ (T7.setTop (mkF m 23 #[.val (.int z0), .val (.int c1), .val (.int c2), .val (.int c3), .val (.int v1), .val (.int v2), .val (.int w_), .val (.ref b1), .unset, .unset, .unset, .unset, .unset, .unset, .unset, .unset, .unset, .unset, .unset, .unset, .unset, .unset] [(.int (0 : Int32))]))
  have sz_aI : h0.size ≤ aI := Nat.le_trans KC2.1 zI
  have ne_b1_aI : b1 ≠ aI := Nat.ne_of_lt (Nat.lt_of_lt_of_le A1_3.lt zI)
  have ne_aC_aI : aC ≠ aI := Nat.ne_of_lt (Nat.lt_of_lt_of_le Vc2.lt zI)
  refine OGo.step (fun uK kK => XS.istore X7.here hx rfl (hb hby at_23) rfl (l' := #[.val (.int z0), .val (.int c1), .val (.int c2), .val (.int c3), .val (.int v1), .val (.int v2), .val (.int w_), .val (.ref b1), .val (.int (0 : Int32)), .unset, .unset, .unset, .unset, .unset, .unset, .unset, .unset, .unset, .unset, .unset, .unset, .unset]) rfl kK) ?_
  show OGo p e below _ (T7.setTop (mkF m 25 #[.val (.int z0), .val (.int c1), .val (.int c2), .val (.int c3), .val (.int v1), .val (.int v2), .val (.int w_), .val (.ref b1), .val (.int (0 : Int32)), .unset, .unset, .unset, .unset, .unset, .unset, .unset, .unset, .unset, .unset, .unset, .unset, .unset] []))
  refine OGo.step (fun uK kK => XS.aload X7.here hx rfl (hb hby at_25) rfl rfl kK) ?_
  show OGo p e below _ (T7.setTop (mkF m 27 #[.val (.int z0), .val (.int c1), .val (.int c2), .val (.int c3), .val (.int v1), .val (.int v2), .val (.int w_), .val (.ref b1), .val (.int (0 : Int32)), .unset, .unset, .unset, .unset, .unset, .unset, .unset, .unset, .unset, .unset, .unset, .unset, .unset] [(.ref b1)]))
  obtain ⟨cq13, kq13, q13a, q13b, q13c⟩ := isOf hZ rfl A1_8
  obtain ⟨_, _, ⟨T13, Lq13, kq_13, nq_13⟩, -, X13, ⟨Lc13, hQ13, lq13, yq13, zq13⟩, st13⟩ := X7.virtualBack hx (y := (⟨"com/example/hitung/hitung/IntChunks", "add", "()I"⟩ : MethodName)) (z := (⟨"com/example/hitung/hitung/IntChunks", "add", "()I"⟩ : MethodName)) hown (mvT hZ (hw _ (List.mem_of_getElem? (i := 15) rfl))) (mvT hZ (hw _ (List.mem_of_getElem? (i := 16) rfl))) (notFace_of_selects (args := #[]) (mvT hZ (hw _ (List.mem_of_getElem? (i := 18) rfl)))) (mvT hZ (hw _ (List.mem_of_getElem? (i := 18) rfl))) (mvT hZ (hw _ (List.mem_of_getElem? (i := 17) rfl))) (by decide) (backOf (W := 0) (rma1 l Z a0 hw [] b1 (1 : Int32) w_ aC kc aI kI T7.heap n0 ZS7 Fc7 Fw7 Fs7 Vc7 Vi7 A1_8 gn_b1 ne_b1_aC ne_b1_aI hW (Or.inl rfl)) hZ (hw _ (List.mem_of_getElem? (i := 19) rfl)) (hw _ (List.mem_of_getElem? (i := 2) rfl)) (by decide) (by decide)) q13a q13c (g := (mkF m 27 #[.val (.int z0), .val (.int c1), .val (.int c2), .val (.int c3), .val (.int v1), .val (.int v2), .val (.int w_), .val (.ref b1), .val (.int (0 : Int32)), .unset, .unset, .unset, .unset, .unset, .unset, .unset, .unset, .unset, .unset, .unset, .unset, .unset] [(.ref b1)])) rfl (by rw [hml]; rfl) (Steps.refl _) (argsL := []) (rest := []) (lenOf pd0_1 rfl) rfl (by show 2 * 0 + _ ≤ _; exact Nat.le_of_eq rfl) (hb hby at_27) (fun _ _ => ⟨rfl, rfl, (by decide : 3 + 0 ≤ _), (by decide : 36 + 0 ≤ _)⟩)
  dsimp only [Pt.U, Pt.locs, Pt.cells, Pt.slots] at X13 lq13 yq13 zq13 st13 hQ13
  subst lq13 yq13 zq13
  obtain ⟨rfl, Nq13, K13, Fc13, Fw13, Fs13⟩ := hQ13
  have A1_14 := (A1_8.keep K13)
  have Vc7_18 := (Vc7.keep K13 (ninS (Ne.symm ne_b1_aC) nin0))
  have Vi7_19 := (Vi7.keep K13 (ninS (Ne.symm ne_b1_aI) nin0))
  have ZS13 : n0 ≤ T13.heap.size := Nat.le_trans ZS7 K13.1
  have KC13 : Keep h0 T13.heap [] := KC7.trans K13 (allS (Or.inr sz_b1) all0)
  have N13 := Fr.app N7 Nq13
  refine OGo.steps st13 ?_
  show OGo p e below _ (T13.setTop (mkF m 30 #[.val (.int z0), .val (.int c1), .val (.int c2), .val (.int c3), .val (.int v1), .val (.int v2), .val (.int w_), .val (.ref b1), .val (.int (0 : Int32)), .unset, .unset, .unset, .unset, .unset, .unset, .unset, .unset, .unset, .unset, .unset, .unset, .unset] [(.int (1 : Int32))]))
  refine OGo.step (fun uK kK => XS.istore X13.here hx rfl (hb hby at_30) rfl (l' := #[.val (.int z0), .val (.int c1), .val (.int c2), .val (.int c3), .val (.int v1), .val (.int v2), .val (.int w_), .val (.ref b1), .val (.int (0 : Int32)), .val (.int (1 : Int32)), .unset, .unset, .unset, .unset, .unset, .unset, .unset, .unset, .unset, .unset, .unset, .unset]) rfl kK) ?_
  show OGo p e below _ (T13.setTop (mkF m 32 #[.val (.int z0), .val (.int c1), .val (.int c2), .val (.int c3), .val (.int v1), .val (.int v2), .val (.int w_), .val (.ref b1), .val (.int (0 : Int32)), .val (.int (1 : Int32)), .unset, .unset, .unset, .unset, .unset, .unset, .unset, .unset, .unset, .unset, .unset, .unset] []))
  refine OGo.step (fun uK kK => XS.aload X13.here hx rfl (hb hby at_32) rfl rfl kK) ?_
  show OGo p e below _ (T13.setTop (mkF m 34 #[.val (.int z0), .val (.int c1), .val (.int c2), .val (.int c3), .val (.int v1), .val (.int v2), .val (.int w_), .val (.ref b1), .val (.int (0 : Int32)), .val (.int (1 : Int32)), .unset, .unset, .unset, .unset, .unset, .unset, .unset, .unset, .unset, .unset, .unset, .unset] [(.ref b1)]))
  obtain ⟨cq20, kq20, q20a, q20b, q20c⟩ := isOf hZ rfl A1_14
  obtain ⟨_, _, ⟨T20, Lq20, kq_20, nq_20⟩, -, X20, ⟨Lc20, hQ20, lq20, yq20, zq20⟩, st20⟩ := X13.virtualBack hx (y := (⟨"com/example/hitung/hitung/IntChunks", "add", "()I"⟩ : MethodName)) (z := (⟨"com/example/hitung/hitung/IntChunks", "add", "()I"⟩ : MethodName)) hown (mvT hZ (hw _ (List.mem_of_getElem? (i := 15) rfl))) (mvT hZ (hw _ (List.mem_of_getElem? (i := 16) rfl))) (notFace_of_selects (args := #[]) (mvT hZ (hw _ (List.mem_of_getElem? (i := 18) rfl)))) (mvT hZ (hw _ (List.mem_of_getElem? (i := 18) rfl))) (mvT hZ (hw _ (List.mem_of_getElem? (i := 17) rfl))) (by decide) (backOf (W := 0) (rma1 l Z a0 hw [] b1 ((1 : Int32) + (1 : Int32)) w_ aC kc aI kI T13.heap n0 ZS13 Fc13 Fw13 Fs13 Vc7_18 Vi7_19 A1_14 gn_b1 ne_b1_aC ne_b1_aI hW (Or.inr (by decide))) hZ (hw _ (List.mem_of_getElem? (i := 19) rfl)) (hw _ (List.mem_of_getElem? (i := 2) rfl)) (by decide) (by decide)) q20a q20c (g := (mkF m 34 #[.val (.int z0), .val (.int c1), .val (.int c2), .val (.int c3), .val (.int v1), .val (.int v2), .val (.int w_), .val (.ref b1), .val (.int (0 : Int32)), .val (.int (1 : Int32)), .unset, .unset, .unset, .unset, .unset, .unset, .unset, .unset, .unset, .unset, .unset, .unset] [(.ref b1)])) rfl (by rw [hml]; rfl) (Steps.refl _) (argsL := []) (rest := []) (lenOf pd0_1 rfl) rfl (by show 2 * 0 + _ ≤ _; exact Nat.le_of_eq rfl) (hb hby at_34) (fun _ _ => ⟨rfl, rfl, (by decide : 3 + 0 ≤ _), (by decide : 36 + 0 ≤ _)⟩)
  dsimp only [Pt.U, Pt.locs, Pt.cells, Pt.slots] at X20 lq20 yq20 zq20 st20 hQ20
  subst lq20 yq20 zq20
  obtain ⟨rfl, Nq20, K20, Fc20, Fw20, Fs20⟩ := hQ20
  have A1_21 := (A1_14.keep K20)
  have Vc7_22 := (Vc7_18.keep K20 (ninS (Ne.symm ne_b1_aC) nin0))
  have Vi7_23 := (Vi7_19.keep K20 (ninS (Ne.symm ne_b1_aI) nin0))
  have ZS20 : n0 ≤ T20.heap.size := Nat.le_trans ZS13 K20.1
  have KC20 : Keep h0 T20.heap [] := KC13.trans K20 (allS (Or.inr sz_b1) all0)
  have N20 := Fr.app N13 Nq20
  refine OGo.steps st20 ?_
  show OGo p e below _ (T20.setTop (mkF m 37 #[.val (.int z0), .val (.int c1), .val (.int c2), .val (.int c3), .val (.int v1), .val (.int v2), .val (.int w_), .val (.ref b1), .val (.int (0 : Int32)), .val (.int (1 : Int32)), .unset, .unset, .unset, .unset, .unset, .unset, .unset, .unset, .unset, .unset, .unset, .unset] [(.int ((1 : Int32) + (1 : Int32)))]))
  refine OGo.step (fun uK kK => XS.istore X20.here hx rfl (hb hby at_37) rfl (l' := #[.val (.int z0), .val (.int c1), .val (.int c2), .val (.int c3), .val (.int v1), .val (.int v2), .val (.int w_), .val (.ref b1), .val (.int (0 : Int32)), .val (.int (1 : Int32)), .val (.int ((1 : Int32) + (1 : Int32))), .unset, .unset, .unset, .unset, .unset, .unset, .unset, .unset, .unset, .unset, .unset]) rfl kK) ?_
  show OGo p e below _ (T20.setTop (mkF m 39 #[.val (.int z0), .val (.int c1), .val (.int c2), .val (.int c3), .val (.int v1), .val (.int v2), .val (.int w_), .val (.ref b1), .val (.int (0 : Int32)), .val (.int (1 : Int32)), .val (.int ((1 : Int32) + (1 : Int32))), .unset, .unset, .unset, .unset, .unset, .unset, .unset, .unset, .unset, .unset, .unset] []))
  refine OGo.step (fun uK kK => XS.iload X20.here hx rfl (hb hby at_39) rfl kK) ?_
  show OGo p e below _ (T20.setTop (mkF m 41 #[.val (.int z0), .val (.int c1), .val (.int c2), .val (.int c3), .val (.int v1), .val (.int v2), .val (.int w_), .val (.ref b1), .val (.int (0 : Int32)), .val (.int (1 : Int32)), .val (.int ((1 : Int32) + (1 : Int32))), .unset, .unset, .unset, .unset, .unset, .unset, .unset, .unset, .unset, .unset, .unset] [(.int (0 : Int32))]))
  have hc41 : (0 : Int32) = (0 : Int32) := by decide
  refine OGo.step (fun uK kK => XS.ifNo X20.here hx rfl (hb hby at_41) rfl ((if0 _ _).trans (teq hc41).2) kK) ?_
  show OGo p e below _ (T20.setTop (mkF m 44 #[.val (.int z0), .val (.int c1), .val (.int c2), .val (.int c3), .val (.int v1), .val (.int v2), .val (.int w_), .val (.ref b1), .val (.int (0 : Int32)), .val (.int (1 : Int32)), .val (.int ((1 : Int32) + (1 : Int32))), .unset, .unset, .unset, .unset, .unset, .unset, .unset, .unset, .unset, .unset, .unset] []))
  refine OGo.step (fun uK kK => XS.iload X20.here hx rfl (hb hby at_44) rfl kK) ?_
  show OGo p e below _ (T20.setTop (mkF m 46 #[.val (.int z0), .val (.int c1), .val (.int c2), .val (.int c3), .val (.int v1), .val (.int v2), .val (.int w_), .val (.ref b1), .val (.int (0 : Int32)), .val (.int (1 : Int32)), .val (.int ((1 : Int32) + (1 : Int32))), .unset, .unset, .unset, .unset, .unset, .unset, .unset, .unset, .unset, .unset, .unset] [(.int (1 : Int32))]))
  refine OGo.step (fun uK kK => XS.iconst X20.here hx rfl (hb hby at_46) kK) ?_
  show OGo p e below _ (T20.setTop (mkF m 47 #[.val (.int z0), .val (.int c1), .val (.int c2), .val (.int c3), .val (.int v1), .val (.int v2), .val (.int w_), .val (.ref b1), .val (.int (0 : Int32)), .val (.int (1 : Int32)), .val (.int ((1 : Int32) + (1 : Int32))), .unset, .unset, .unset, .unset, .unset, .unset, .unset, .unset, .unset, .unset, .unset] [(.int (1 : Int32)), (.int (1 : Int32))]))
  have hc47 : (1 : Int32) = (1 : Int32) := by decide
  refine OGo.step (fun uK kK => XS.icmpNo X20.here hx rfl (hb hby at_47) rfl (teq hc47).2 kK) ?_
  show OGo p e below _ (T20.setTop (mkF m 50 #[.val (.int z0), .val (.int c1), .val (.int c2), .val (.int c3), .val (.int v1), .val (.int v2), .val (.int w_), .val (.ref b1), .val (.int (0 : Int32)), .val (.int (1 : Int32)), .val (.int ((1 : Int32) + (1 : Int32))), .unset, .unset, .unset, .unset, .unset, .unset, .unset, .unset, .unset, .unset, .unset] []))
  refine OGo.step (fun uK kK => XS.iload X20.here hx rfl (hb hby at_50) rfl kK) ?_
  show OGo p e below _ (T20.setTop (mkF m 52 #[.val (.int z0), .val (.int c1), .val (.int c2), .val (.int c3), .val (.int v1), .val (.int v2), .val (.int w_), .val (.ref b1), .val (.int (0 : Int32)), .val (.int (1 : Int32)), .val (.int ((1 : Int32) + (1 : Int32))), .unset, .unset, .unset, .unset, .unset, .unset, .unset, .unset, .unset, .unset, .unset] [(.int ((1 : Int32) + (1 : Int32)))]))
  refine OGo.step (fun uK kK => XS.iconst X20.here hx rfl (hb hby at_52) kK) ?_
  show OGo p e below _ (T20.setTop (mkF m 53 #[.val (.int z0), .val (.int c1), .val (.int c2), .val (.int c3), .val (.int v1), .val (.int v2), .val (.int w_), .val (.ref b1), .val (.int (0 : Int32)), .val (.int (1 : Int32)), .val (.int ((1 : Int32) + (1 : Int32))), .unset, .unset, .unset, .unset, .unset, .unset, .unset, .unset, .unset, .unset, .unset] [(.int (2 : Int32)), (.int ((1 : Int32) + (1 : Int32)))]))
  have hc53 : ((1 : Int32) + (1 : Int32)) = (2 : Int32) := by decide
  refine OGo.step (fun uK kK => XS.icmpYes X20.here hx rfl (pc0 := 53) (pc' := 58) rfl (hb hby at_53) rfl (teq hc53).1 (by decide) (by decide) kK) ?_
  show OGo p e below _ (T20.setTop (mkF m 58 #[.val (.int z0), .val (.int c1), .val (.int c2), .val (.int c3), .val (.int v1), .val (.int v2), .val (.int w_), .val (.ref b1), .val (.int (0 : Int32)), .val (.int (1 : Int32)), .val (.int ((1 : Int32) + (1 : Int32))), .unset, .unset, .unset, .unset, .unset, .unset, .unset, .unset, .unset, .unset, .unset] []))
  refine OGo.step (fun uK kK => XS.iloadN X20.here hx rfl (hb hby at_58) rfl kK) ?_
  show OGo p e below _ (T20.setTop (mkF m 59 #[.val (.int z0), .val (.int c1), .val (.int c2), .val (.int c3), .val (.int v1), .val (.int v2), .val (.int w_), .val (.ref b1), .val (.int (0 : Int32)), .val (.int (1 : Int32)), .val (.int ((1 : Int32) + (1 : Int32))), .unset, .unset, .unset, .unset, .unset, .unset, .unset, .unset, .unset, .unset, .unset] [(.int c1)]))
  obtain ⟨_, _, ⟨T27, Lq27, kq_27, nq_27⟩, -, X27, ⟨Lc27, hQ27, lq27, yq27, zq27⟩, st27⟩ := Jvm.LawKit.callS X20 hx (y := (⟨"com/example/hitung/hitung/IntChunksGetPinLaw", "rec", "(I)I"⟩ : MethodName)) hown (mvT hZ (hw _ (List.mem_of_getElem? (i := 25) rfl))) (mvT hZ (hw _ (List.mem_of_getElem? (i := 26) rfl))) (mvT hZ (hw _ (List.mem_of_getElem? (i := 27) rfl))) (mvT hZ (hw _ (List.mem_of_getElem? (i := 28) rfl))) (by decide) (backOf (W := 0) (rmrec l Z a0 hw [] c1  T20.heap n0 ZS20 ) hZ (hw _ (List.mem_of_getElem? (i := 28) rfl)) (hw _ (List.mem_of_getElem? (i := 27) rfl)) (by decide) (by decide)) (g := (mkF m 59 #[.val (.int z0), .val (.int c1), .val (.int c2), .val (.int c3), .val (.int v1), .val (.int v2), .val (.int w_), .val (.ref b1), .val (.int (0 : Int32)), .val (.int (1 : Int32)), .val (.int ((1 : Int32) + (1 : Int32))), .unset, .unset, .unset, .unset, .unset, .unset, .unset, .unset, .unset, .unset, .unset] [(.int c1)])) rfl (by rw [hml]; rfl) (argsL := [(.int c1)]) (rest := []) (lenOf pd0_2 rfl) rfl (by show 2 * 0 + _ ≤ _; exact Nat.le_of_eq rfl) (hb hby at_59) (fun _ _ => ⟨rfl, rfl, (by decide : 3 + 0 ≤ _), (by decide : 36 + 0 ≤ _)⟩)
  dsimp only [Pt.U, Pt.locs, Pt.cells, Pt.slots] at X27 lq27 yq27 zq27 st27 hQ27
  subst lq27 yq27 zq27
  obtain ⟨rfl, Nq27, e27⟩ := hQ27
  have N27 := Fr.app N20 Nq27
  refine OGo.step (fun uK kK => st27 uK kK) ?_
  show OGo p e below _ (T27.setTop (mkF m 62 #[.val (.int z0), .val (.int c1), .val (.int c2), .val (.int c3), .val (.int v1), .val (.int v2), .val (.int w_), .val (.ref b1), .val (.int (0 : Int32)), .val (.int (1 : Int32)), .val (.int ((1 : Int32) + (1 : Int32))), .unset, .unset, .unset, .unset, .unset, .unset, .unset, .unset, .unset, .unset, .unset] [(.int ((c1 &&& (2147483647 : Int32)) % (3 : Int32)))]))
  obtain ⟨r1, ev_r1⟩ : ∃ z : Int32, z = ((c1 &&& (2147483647 : Int32)) % (3 : Int32)) := ⟨_, rfl⟩
  rw [← ev_r1]
  show OGo p e below _ (T27.setTop (mkF m 62 #[.val (.int z0), .val (.int c1), .val (.int c2), .val (.int c3), .val (.int v1), .val (.int v2), .val (.int w_), .val (.ref b1), .val (.int (0 : Int32)), .val (.int (1 : Int32)), .val (.int ((1 : Int32) + (1 : Int32))), .unset, .unset, .unset, .unset, .unset, .unset, .unset, .unset, .unset, .unset, .unset] [(.int r1)]))
  refine OGo.step (fun uK kK => XS.istore X27.here hx rfl (hb hby at_62) rfl (l' := #[.val (.int z0), .val (.int c1), .val (.int c2), .val (.int c3), .val (.int v1), .val (.int v2), .val (.int w_), .val (.ref b1), .val (.int (0 : Int32)), .val (.int (1 : Int32)), .val (.int ((1 : Int32) + (1 : Int32))), .val (.int r1), .unset, .unset, .unset, .unset, .unset, .unset, .unset, .unset, .unset, .unset]) rfl kK) ?_
  show OGo p e below _ (T27.setTop (mkF m 64 #[.val (.int z0), .val (.int c1), .val (.int c2), .val (.int c3), .val (.int v1), .val (.int v2), .val (.int w_), .val (.ref b1), .val (.int (0 : Int32)), .val (.int (1 : Int32)), .val (.int ((1 : Int32) + (1 : Int32))), .val (.int r1), .unset, .unset, .unset, .unset, .unset, .unset, .unset, .unset, .unset, .unset] []))
  have hr1 := own_rec c1 _ r1 (by decide) ev_r1
  refine OGo.step (fun uK kK => XS.iloadN X27.here hx rfl (hb hby at_64) rfl kK) ?_
  show OGo p e below _ (T27.setTop (mkF m 65 #[.val (.int z0), .val (.int c1), .val (.int c2), .val (.int c3), .val (.int v1), .val (.int v2), .val (.int w_), .val (.ref b1), .val (.int (0 : Int32)), .val (.int (1 : Int32)), .val (.int ((1 : Int32) + (1 : Int32))), .val (.int r1), .unset, .unset, .unset, .unset, .unset, .unset, .unset, .unset, .unset, .unset] [(.int c1)]))
  refine OGo.step (fun uK kK => XS.iload X27.here hx rfl (hb hby at_65) rfl kK) ?_
  show OGo p e below _ (T27.setTop (mkF m 67 #[.val (.int z0), .val (.int c1), .val (.int c2), .val (.int c3), .val (.int v1), .val (.int v2), .val (.int w_), .val (.ref b1), .val (.int (0 : Int32)), .val (.int (1 : Int32)), .val (.int ((1 : Int32) + (1 : Int32))), .val (.int r1), .unset, .unset, .unset, .unset, .unset, .unset, .unset, .unset, .unset, .unset] [(.int w_), (.int c1)]))
  obtain ⟨_, _, ⟨T28, Lq28, kq_28, nq_28⟩, -, X28, ⟨Lc28, hQ28, lq28, yq28, zq28⟩, st28⟩ := Jvm.LawKit.callS X27 hx (y := (⟨"com/example/hitung/hitung/IntChunksGetPinLaw", "fld", "(II)I"⟩ : MethodName)) hown (mvT hZ (hw _ (List.mem_of_getElem? (i := 30) rfl))) (mvT hZ (hw _ (List.mem_of_getElem? (i := 31) rfl))) (mvT hZ (hw _ (List.mem_of_getElem? (i := 27) rfl))) (mvT hZ (hw _ (List.mem_of_getElem? (i := 32) rfl))) (by decide) (backOf (W := 0) (rmfld l Z a0 hw [] c1 w_  T20.heap n0 ZS20 hw0) hZ (hw _ (List.mem_of_getElem? (i := 32) rfl)) (hw _ (List.mem_of_getElem? (i := 27) rfl)) (by decide) (by decide)) (g := (mkF m 67 #[.val (.int z0), .val (.int c1), .val (.int c2), .val (.int c3), .val (.int v1), .val (.int v2), .val (.int w_), .val (.ref b1), .val (.int (0 : Int32)), .val (.int (1 : Int32)), .val (.int ((1 : Int32) + (1 : Int32))), .val (.int r1), .unset, .unset, .unset, .unset, .unset, .unset, .unset, .unset, .unset, .unset] [(.int w_), (.int c1)])) rfl (by rw [hml]; rfl) (argsL := [(.int c1), (.int w_)]) (rest := []) (lenOf pd0_3 rfl) rfl (by show 2 * 0 + _ ≤ _; exact Nat.le_of_eq rfl) (hb hby at_67) (fun _ _ => ⟨rfl, e27, (by decide : 3 + 0 ≤ _), (by decide : 36 + 0 ≤ _)⟩)
  dsimp only [Pt.U, Pt.locs, Pt.cells, Pt.slots] at X28 lq28 yq28 zq28 st28 hQ28
  subst lq28 yq28 zq28
  obtain ⟨rfl, Nq28, e28⟩ := hQ28
  have N28 := Fr.app N27 Nq28
  refine OGo.step (fun uK kK => st28 uK kK) ?_
  show OGo p e below _ (T28.setTop (mkF m 70 #[.val (.int z0), .val (.int c1), .val (.int c2), .val (.int c3), .val (.int v1), .val (.int v2), .val (.int w_), .val (.ref b1), .val (.int (0 : Int32)), .val (.int (1 : Int32)), .val (.int ((1 : Int32) + (1 : Int32))), .val (.int r1), .unset, .unset, .unset, .unset, .unset, .unset, .unset, .unset, .unset, .unset] [(.int (((c1.toUInt32 >>> ((8 : Int32) &&& 31).toUInt32).toInt32) % w_))]))
  obtain ⟨f1, ev_f1⟩ : ∃ z : Int32, z = (((c1.toUInt32 >>> ((8 : Int32) &&& 31).toUInt32).toInt32) % w_) := ⟨_, rfl⟩
  rw [← ev_f1]
  show OGo p e below _ (T28.setTop (mkF m 70 #[.val (.int z0), .val (.int c1), .val (.int c2), .val (.int c3), .val (.int v1), .val (.int v2), .val (.int w_), .val (.ref b1), .val (.int (0 : Int32)), .val (.int (1 : Int32)), .val (.int ((1 : Int32) + (1 : Int32))), .val (.int r1), .unset, .unset, .unset, .unset, .unset, .unset, .unset, .unset, .unset, .unset] [(.int f1)]))
  refine OGo.step (fun uK kK => XS.istore X28.here hx rfl (hb hby at_70) rfl (l' := #[.val (.int z0), .val (.int c1), .val (.int c2), .val (.int c3), .val (.int v1), .val (.int v2), .val (.int w_), .val (.ref b1), .val (.int (0 : Int32)), .val (.int (1 : Int32)), .val (.int ((1 : Int32) + (1 : Int32))), .val (.int r1), .val (.int f1), .unset, .unset, .unset, .unset, .unset, .unset, .unset, .unset, .unset]) rfl kK) ?_
  show OGo p e below _ (T28.setTop (mkF m 72 #[.val (.int z0), .val (.int c1), .val (.int c2), .val (.int c3), .val (.int v1), .val (.int v2), .val (.int w_), .val (.ref b1), .val (.int (0 : Int32)), .val (.int (1 : Int32)), .val (.int ((1 : Int32) + (1 : Int32))), .val (.int r1), .val (.int f1), .unset, .unset, .unset, .unset, .unset, .unset, .unset, .unset, .unset] []))
  have hf1 := own_fld c1 w_ f1 hW ev_f1
  refine OGo.step (fun uK kK => XS.iloadN X28.here hx rfl (hb hby at_72) rfl kK) ?_
  show OGo p e below _ (T28.setTop (mkF m 73 #[.val (.int z0), .val (.int c1), .val (.int c2), .val (.int c3), .val (.int v1), .val (.int v2), .val (.int w_), .val (.ref b1), .val (.int (0 : Int32)), .val (.int (1 : Int32)), .val (.int ((1 : Int32) + (1 : Int32))), .val (.int r1), .val (.int f1), .unset, .unset, .unset, .unset, .unset, .unset, .unset, .unset, .unset] [(.int c2)]))
  obtain ⟨_, _, ⟨T29, Lq29, kq_29, nq_29⟩, -, X29, ⟨Lc29, hQ29, lq29, yq29, zq29⟩, st29⟩ := Jvm.LawKit.callS X28 hx (y := (⟨"com/example/hitung/hitung/IntChunksGetPinLaw", "rec", "(I)I"⟩ : MethodName)) hown (mvT hZ (hw _ (List.mem_of_getElem? (i := 25) rfl))) (mvT hZ (hw _ (List.mem_of_getElem? (i := 26) rfl))) (mvT hZ (hw _ (List.mem_of_getElem? (i := 27) rfl))) (mvT hZ (hw _ (List.mem_of_getElem? (i := 28) rfl))) (by decide) (backOf (W := 0) (rmrec l Z a0 hw [] c2  T20.heap n0 ZS20 ) hZ (hw _ (List.mem_of_getElem? (i := 28) rfl)) (hw _ (List.mem_of_getElem? (i := 27) rfl)) (by decide) (by decide)) (g := (mkF m 73 #[.val (.int z0), .val (.int c1), .val (.int c2), .val (.int c3), .val (.int v1), .val (.int v2), .val (.int w_), .val (.ref b1), .val (.int (0 : Int32)), .val (.int (1 : Int32)), .val (.int ((1 : Int32) + (1 : Int32))), .val (.int r1), .val (.int f1), .unset, .unset, .unset, .unset, .unset, .unset, .unset, .unset, .unset] [(.int c2)])) rfl (by rw [hml]; rfl) (argsL := [(.int c2)]) (rest := []) (lenOf pd0_2 rfl) rfl (by show 2 * 0 + _ ≤ _; exact Nat.le_of_eq rfl) (hb hby at_73) (fun _ _ => ⟨rfl, e28, (by decide : 3 + 0 ≤ _), (by decide : 36 + 0 ≤ _)⟩)
  dsimp only [Pt.U, Pt.locs, Pt.cells, Pt.slots] at X29 lq29 yq29 zq29 st29 hQ29
  subst lq29 yq29 zq29
  obtain ⟨rfl, Nq29, e29⟩ := hQ29
  have N29 := Fr.app N28 Nq29
  refine OGo.step (fun uK kK => st29 uK kK) ?_
  show OGo p e below _ (T29.setTop (mkF m 76 #[.val (.int z0), .val (.int c1), .val (.int c2), .val (.int c3), .val (.int v1), .val (.int v2), .val (.int w_), .val (.ref b1), .val (.int (0 : Int32)), .val (.int (1 : Int32)), .val (.int ((1 : Int32) + (1 : Int32))), .val (.int r1), .val (.int f1), .unset, .unset, .unset, .unset, .unset, .unset, .unset, .unset, .unset] [(.int ((c2 &&& (2147483647 : Int32)) % (3 : Int32)))]))
  obtain ⟨r2, ev_r2⟩ : ∃ z : Int32, z = ((c2 &&& (2147483647 : Int32)) % (3 : Int32)) := ⟨_, rfl⟩
  rw [← ev_r2]
  show OGo p e below _ (T29.setTop (mkF m 76 #[.val (.int z0), .val (.int c1), .val (.int c2), .val (.int c3), .val (.int v1), .val (.int v2), .val (.int w_), .val (.ref b1), .val (.int (0 : Int32)), .val (.int (1 : Int32)), .val (.int ((1 : Int32) + (1 : Int32))), .val (.int r1), .val (.int f1), .unset, .unset, .unset, .unset, .unset, .unset, .unset, .unset, .unset] [(.int r2)]))
  refine OGo.step (fun uK kK => XS.istore X29.here hx rfl (hb hby at_76) rfl (l' := #[.val (.int z0), .val (.int c1), .val (.int c2), .val (.int c3), .val (.int v1), .val (.int v2), .val (.int w_), .val (.ref b1), .val (.int (0 : Int32)), .val (.int (1 : Int32)), .val (.int ((1 : Int32) + (1 : Int32))), .val (.int r1), .val (.int f1), .val (.int r2), .unset, .unset, .unset, .unset, .unset, .unset, .unset, .unset]) rfl kK) ?_
  show OGo p e below _ (T29.setTop (mkF m 78 #[.val (.int z0), .val (.int c1), .val (.int c2), .val (.int c3), .val (.int v1), .val (.int v2), .val (.int w_), .val (.ref b1), .val (.int (0 : Int32)), .val (.int (1 : Int32)), .val (.int ((1 : Int32) + (1 : Int32))), .val (.int r1), .val (.int f1), .val (.int r2), .unset, .unset, .unset, .unset, .unset, .unset, .unset, .unset] []))
  have hr2 := own_rec c2 _ r2 (by decide) ev_r2
  refine OGo.step (fun uK kK => XS.iloadN X29.here hx rfl (hb hby at_78) rfl kK) ?_
  show OGo p e below _ (T29.setTop (mkF m 79 #[.val (.int z0), .val (.int c1), .val (.int c2), .val (.int c3), .val (.int v1), .val (.int v2), .val (.int w_), .val (.ref b1), .val (.int (0 : Int32)), .val (.int (1 : Int32)), .val (.int ((1 : Int32) + (1 : Int32))), .val (.int r1), .val (.int f1), .val (.int r2), .unset, .unset, .unset, .unset, .unset, .unset, .unset, .unset] [(.int c2)]))
  refine OGo.step (fun uK kK => XS.iload X29.here hx rfl (hb hby at_79) rfl kK) ?_
  show OGo p e below _ (T29.setTop (mkF m 81 #[.val (.int z0), .val (.int c1), .val (.int c2), .val (.int c3), .val (.int v1), .val (.int v2), .val (.int w_), .val (.ref b1), .val (.int (0 : Int32)), .val (.int (1 : Int32)), .val (.int ((1 : Int32) + (1 : Int32))), .val (.int r1), .val (.int f1), .val (.int r2), .unset, .unset, .unset, .unset, .unset, .unset, .unset, .unset] [(.int w_), (.int c2)]))
  obtain ⟨_, _, ⟨T30, Lq30, kq_30, nq_30⟩, -, X30, ⟨Lc30, hQ30, lq30, yq30, zq30⟩, st30⟩ := Jvm.LawKit.callS X29 hx (y := (⟨"com/example/hitung/hitung/IntChunksGetPinLaw", "fld", "(II)I"⟩ : MethodName)) hown (mvT hZ (hw _ (List.mem_of_getElem? (i := 30) rfl))) (mvT hZ (hw _ (List.mem_of_getElem? (i := 31) rfl))) (mvT hZ (hw _ (List.mem_of_getElem? (i := 27) rfl))) (mvT hZ (hw _ (List.mem_of_getElem? (i := 32) rfl))) (by decide) (backOf (W := 0) (rmfld l Z a0 hw [] c2 w_  T20.heap n0 ZS20 hw0) hZ (hw _ (List.mem_of_getElem? (i := 32) rfl)) (hw _ (List.mem_of_getElem? (i := 27) rfl)) (by decide) (by decide)) (g := (mkF m 81 #[.val (.int z0), .val (.int c1), .val (.int c2), .val (.int c3), .val (.int v1), .val (.int v2), .val (.int w_), .val (.ref b1), .val (.int (0 : Int32)), .val (.int (1 : Int32)), .val (.int ((1 : Int32) + (1 : Int32))), .val (.int r1), .val (.int f1), .val (.int r2), .unset, .unset, .unset, .unset, .unset, .unset, .unset, .unset] [(.int w_), (.int c2)])) rfl (by rw [hml]; rfl) (argsL := [(.int c2), (.int w_)]) (rest := []) (lenOf pd0_3 rfl) rfl (by show 2 * 0 + _ ≤ _; exact Nat.le_of_eq rfl) (hb hby at_81) (fun _ _ => ⟨rfl, e29, (by decide : 3 + 0 ≤ _), (by decide : 36 + 0 ≤ _)⟩)
  dsimp only [Pt.U, Pt.locs, Pt.cells, Pt.slots] at X30 lq30 yq30 zq30 st30 hQ30
  subst lq30 yq30 zq30
  obtain ⟨rfl, Nq30, e30⟩ := hQ30
  have N30 := Fr.app N29 Nq30
  refine OGo.step (fun uK kK => st30 uK kK) ?_
  show OGo p e below _ (T30.setTop (mkF m 84 #[.val (.int z0), .val (.int c1), .val (.int c2), .val (.int c3), .val (.int v1), .val (.int v2), .val (.int w_), .val (.ref b1), .val (.int (0 : Int32)), .val (.int (1 : Int32)), .val (.int ((1 : Int32) + (1 : Int32))), .val (.int r1), .val (.int f1), .val (.int r2), .unset, .unset, .unset, .unset, .unset, .unset, .unset, .unset] [(.int (((c2.toUInt32 >>> ((8 : Int32) &&& 31).toUInt32).toInt32) % w_))]))
  obtain ⟨f2, ev_f2⟩ : ∃ z : Int32, z = (((c2.toUInt32 >>> ((8 : Int32) &&& 31).toUInt32).toInt32) % w_) := ⟨_, rfl⟩
  rw [← ev_f2]
  show OGo p e below _ (T30.setTop (mkF m 84 #[.val (.int z0), .val (.int c1), .val (.int c2), .val (.int c3), .val (.int v1), .val (.int v2), .val (.int w_), .val (.ref b1), .val (.int (0 : Int32)), .val (.int (1 : Int32)), .val (.int ((1 : Int32) + (1 : Int32))), .val (.int r1), .val (.int f1), .val (.int r2), .unset, .unset, .unset, .unset, .unset, .unset, .unset, .unset] [(.int f2)]))
  refine OGo.step (fun uK kK => XS.istore X30.here hx rfl (hb hby at_84) rfl (l' := #[.val (.int z0), .val (.int c1), .val (.int c2), .val (.int c3), .val (.int v1), .val (.int v2), .val (.int w_), .val (.ref b1), .val (.int (0 : Int32)), .val (.int (1 : Int32)), .val (.int ((1 : Int32) + (1 : Int32))), .val (.int r1), .val (.int f1), .val (.int r2), .val (.int f2), .unset, .unset, .unset, .unset, .unset, .unset, .unset]) rfl kK) ?_
  show OGo p e below _ (T30.setTop (mkF m 86 #[.val (.int z0), .val (.int c1), .val (.int c2), .val (.int c3), .val (.int v1), .val (.int v2), .val (.int w_), .val (.ref b1), .val (.int (0 : Int32)), .val (.int (1 : Int32)), .val (.int ((1 : Int32) + (1 : Int32))), .val (.int r1), .val (.int f1), .val (.int r2), .val (.int f2), .unset, .unset, .unset, .unset, .unset, .unset, .unset] []))
  have hf2 := own_fld c2 w_ f2 hW ev_f2
  refine OGo.step (fun uK kK => XS.iloadN X30.here hx rfl (hb hby at_86) rfl kK) ?_
  show OGo p e below _ (T30.setTop (mkF m 87 #[.val (.int z0), .val (.int c1), .val (.int c2), .val (.int c3), .val (.int v1), .val (.int v2), .val (.int w_), .val (.ref b1), .val (.int (0 : Int32)), .val (.int (1 : Int32)), .val (.int ((1 : Int32) + (1 : Int32))), .val (.int r1), .val (.int f1), .val (.int r2), .val (.int f2), .unset, .unset, .unset, .unset, .unset, .unset, .unset] [(.int c3)]))
  obtain ⟨_, _, ⟨T31, Lq31, kq_31, nq_31⟩, -, X31, ⟨Lc31, hQ31, lq31, yq31, zq31⟩, st31⟩ := Jvm.LawKit.callS X30 hx (y := (⟨"com/example/hitung/hitung/IntChunksGetPinLaw", "rec", "(I)I"⟩ : MethodName)) hown (mvT hZ (hw _ (List.mem_of_getElem? (i := 25) rfl))) (mvT hZ (hw _ (List.mem_of_getElem? (i := 26) rfl))) (mvT hZ (hw _ (List.mem_of_getElem? (i := 27) rfl))) (mvT hZ (hw _ (List.mem_of_getElem? (i := 28) rfl))) (by decide) (backOf (W := 0) (rmrec l Z a0 hw [] c3  T20.heap n0 ZS20 ) hZ (hw _ (List.mem_of_getElem? (i := 28) rfl)) (hw _ (List.mem_of_getElem? (i := 27) rfl)) (by decide) (by decide)) (g := (mkF m 87 #[.val (.int z0), .val (.int c1), .val (.int c2), .val (.int c3), .val (.int v1), .val (.int v2), .val (.int w_), .val (.ref b1), .val (.int (0 : Int32)), .val (.int (1 : Int32)), .val (.int ((1 : Int32) + (1 : Int32))), .val (.int r1), .val (.int f1), .val (.int r2), .val (.int f2), .unset, .unset, .unset, .unset, .unset, .unset, .unset] [(.int c3)])) rfl (by rw [hml]; rfl) (argsL := [(.int c3)]) (rest := []) (lenOf pd0_2 rfl) rfl (by show 2 * 0 + _ ≤ _; exact Nat.le_of_eq rfl) (hb hby at_87) (fun _ _ => ⟨rfl, e30, (by decide : 3 + 0 ≤ _), (by decide : 36 + 0 ≤ _)⟩)
  dsimp only [Pt.U, Pt.locs, Pt.cells, Pt.slots] at X31 lq31 yq31 zq31 st31 hQ31
  subst lq31 yq31 zq31
  obtain ⟨rfl, Nq31, e31⟩ := hQ31
  have N31 := Fr.app N30 Nq31
  refine OGo.step (fun uK kK => st31 uK kK) ?_
  show OGo p e below _ (T31.setTop (mkF m 90 #[.val (.int z0), .val (.int c1), .val (.int c2), .val (.int c3), .val (.int v1), .val (.int v2), .val (.int w_), .val (.ref b1), .val (.int (0 : Int32)), .val (.int (1 : Int32)), .val (.int ((1 : Int32) + (1 : Int32))), .val (.int r1), .val (.int f1), .val (.int r2), .val (.int f2), .unset, .unset, .unset, .unset, .unset, .unset, .unset] [(.int ((c3 &&& (2147483647 : Int32)) % (3 : Int32)))]))
  obtain ⟨r3, ev_r3⟩ : ∃ z : Int32, z = ((c3 &&& (2147483647 : Int32)) % (3 : Int32)) := ⟨_, rfl⟩
  rw [← ev_r3]
  show OGo p e below _ (T31.setTop (mkF m 90 #[.val (.int z0), .val (.int c1), .val (.int c2), .val (.int c3), .val (.int v1), .val (.int v2), .val (.int w_), .val (.ref b1), .val (.int (0 : Int32)), .val (.int (1 : Int32)), .val (.int ((1 : Int32) + (1 : Int32))), .val (.int r1), .val (.int f1), .val (.int r2), .val (.int f2), .unset, .unset, .unset, .unset, .unset, .unset, .unset] [(.int r3)]))
  refine OGo.step (fun uK kK => XS.istore X31.here hx rfl (hb hby at_90) rfl (l' := #[.val (.int z0), .val (.int c1), .val (.int c2), .val (.int c3), .val (.int v1), .val (.int v2), .val (.int w_), .val (.ref b1), .val (.int (0 : Int32)), .val (.int (1 : Int32)), .val (.int ((1 : Int32) + (1 : Int32))), .val (.int r1), .val (.int f1), .val (.int r2), .val (.int f2), .val (.int r3), .unset, .unset, .unset, .unset, .unset, .unset]) rfl kK) ?_
  show OGo p e below _ (T31.setTop (mkF m 92 #[.val (.int z0), .val (.int c1), .val (.int c2), .val (.int c3), .val (.int v1), .val (.int v2), .val (.int w_), .val (.ref b1), .val (.int (0 : Int32)), .val (.int (1 : Int32)), .val (.int ((1 : Int32) + (1 : Int32))), .val (.int r1), .val (.int f1), .val (.int r2), .val (.int f2), .val (.int r3), .unset, .unset, .unset, .unset, .unset, .unset] []))
  have hr3 := own_rec c3 _ r3 (by decide) ev_r3
  refine OGo.step (fun uK kK => XS.iloadN X31.here hx rfl (hb hby at_92) rfl kK) ?_
  show OGo p e below _ (T31.setTop (mkF m 93 #[.val (.int z0), .val (.int c1), .val (.int c2), .val (.int c3), .val (.int v1), .val (.int v2), .val (.int w_), .val (.ref b1), .val (.int (0 : Int32)), .val (.int (1 : Int32)), .val (.int ((1 : Int32) + (1 : Int32))), .val (.int r1), .val (.int f1), .val (.int r2), .val (.int f2), .val (.int r3), .unset, .unset, .unset, .unset, .unset, .unset] [(.int c3)]))
  refine OGo.step (fun uK kK => XS.iload X31.here hx rfl (hb hby at_93) rfl kK) ?_
  show OGo p e below _ (T31.setTop (mkF m 95 #[.val (.int z0), .val (.int c1), .val (.int c2), .val (.int c3), .val (.int v1), .val (.int v2), .val (.int w_), .val (.ref b1), .val (.int (0 : Int32)), .val (.int (1 : Int32)), .val (.int ((1 : Int32) + (1 : Int32))), .val (.int r1), .val (.int f1), .val (.int r2), .val (.int f2), .val (.int r3), .unset, .unset, .unset, .unset, .unset, .unset] [(.int w_), (.int c3)]))
  obtain ⟨_, _, ⟨T32, Lq32, kq_32, nq_32⟩, -, X32, ⟨Lc32, hQ32, lq32, yq32, zq32⟩, st32⟩ := Jvm.LawKit.callS X31 hx (y := (⟨"com/example/hitung/hitung/IntChunksGetPinLaw", "fld", "(II)I"⟩ : MethodName)) hown (mvT hZ (hw _ (List.mem_of_getElem? (i := 30) rfl))) (mvT hZ (hw _ (List.mem_of_getElem? (i := 31) rfl))) (mvT hZ (hw _ (List.mem_of_getElem? (i := 27) rfl))) (mvT hZ (hw _ (List.mem_of_getElem? (i := 32) rfl))) (by decide) (backOf (W := 0) (rmfld l Z a0 hw [] c3 w_  T20.heap n0 ZS20 hw0) hZ (hw _ (List.mem_of_getElem? (i := 32) rfl)) (hw _ (List.mem_of_getElem? (i := 27) rfl)) (by decide) (by decide)) (g := (mkF m 95 #[.val (.int z0), .val (.int c1), .val (.int c2), .val (.int c3), .val (.int v1), .val (.int v2), .val (.int w_), .val (.ref b1), .val (.int (0 : Int32)), .val (.int (1 : Int32)), .val (.int ((1 : Int32) + (1 : Int32))), .val (.int r1), .val (.int f1), .val (.int r2), .val (.int f2), .val (.int r3), .unset, .unset, .unset, .unset, .unset, .unset] [(.int w_), (.int c3)])) rfl (by rw [hml]; rfl) (argsL := [(.int c3), (.int w_)]) (rest := []) (lenOf pd0_3 rfl) rfl (by show 2 * 0 + _ ≤ _; exact Nat.le_of_eq rfl) (hb hby at_95) (fun _ _ => ⟨rfl, e31, (by decide : 3 + 0 ≤ _), (by decide : 36 + 0 ≤ _)⟩)
  dsimp only [Pt.U, Pt.locs, Pt.cells, Pt.slots] at X32 lq32 yq32 zq32 st32 hQ32
  subst lq32 yq32 zq32
  obtain ⟨rfl, Nq32, e32⟩ := hQ32
  have N32 := Fr.app N31 Nq32
  refine OGo.step (fun uK kK => st32 uK kK) ?_
  show OGo p e below _ (T32.setTop (mkF m 98 #[.val (.int z0), .val (.int c1), .val (.int c2), .val (.int c3), .val (.int v1), .val (.int v2), .val (.int w_), .val (.ref b1), .val (.int (0 : Int32)), .val (.int (1 : Int32)), .val (.int ((1 : Int32) + (1 : Int32))), .val (.int r1), .val (.int f1), .val (.int r2), .val (.int f2), .val (.int r3), .unset, .unset, .unset, .unset, .unset, .unset] [(.int (((c3.toUInt32 >>> ((8 : Int32) &&& 31).toUInt32).toInt32) % w_))]))
  obtain ⟨f3, ev_f3⟩ : ∃ z : Int32, z = (((c3.toUInt32 >>> ((8 : Int32) &&& 31).toUInt32).toInt32) % w_) := ⟨_, rfl⟩
  rw [← ev_f3]
  show OGo p e below _ (T32.setTop (mkF m 98 #[.val (.int z0), .val (.int c1), .val (.int c2), .val (.int c3), .val (.int v1), .val (.int v2), .val (.int w_), .val (.ref b1), .val (.int (0 : Int32)), .val (.int (1 : Int32)), .val (.int ((1 : Int32) + (1 : Int32))), .val (.int r1), .val (.int f1), .val (.int r2), .val (.int f2), .val (.int r3), .unset, .unset, .unset, .unset, .unset, .unset] [(.int f3)]))
  refine OGo.step (fun uK kK => XS.istore X32.here hx rfl (hb hby at_98) rfl (l' := #[.val (.int z0), .val (.int c1), .val (.int c2), .val (.int c3), .val (.int v1), .val (.int v2), .val (.int w_), .val (.ref b1), .val (.int (0 : Int32)), .val (.int (1 : Int32)), .val (.int ((1 : Int32) + (1 : Int32))), .val (.int r1), .val (.int f1), .val (.int r2), .val (.int f2), .val (.int r3), .val (.int f3), .unset, .unset, .unset, .unset, .unset]) rfl kK) ?_
  show OGo p e below _ (T32.setTop (mkF m 100 #[.val (.int z0), .val (.int c1), .val (.int c2), .val (.int c3), .val (.int v1), .val (.int v2), .val (.int w_), .val (.ref b1), .val (.int (0 : Int32)), .val (.int (1 : Int32)), .val (.int ((1 : Int32) + (1 : Int32))), .val (.int r1), .val (.int f1), .val (.int r2), .val (.int f2), .val (.int r3), .val (.int f3), .unset, .unset, .unset, .unset, .unset] []))
  have hf3 := own_fld c3 w_ f3 hW ev_f3
  refine OGo.step (fun uK kK => XS.aload X32.here hx rfl (hb hby at_100) rfl rfl kK) ?_
  show OGo p e below _ (T32.setTop (mkF m 102 #[.val (.int z0), .val (.int c1), .val (.int c2), .val (.int c3), .val (.int v1), .val (.int v2), .val (.int w_), .val (.ref b1), .val (.int (0 : Int32)), .val (.int (1 : Int32)), .val (.int ((1 : Int32) + (1 : Int32))), .val (.int r1), .val (.int f1), .val (.int r2), .val (.int f2), .val (.int r3), .val (.int f3), .unset, .unset, .unset, .unset, .unset] [(.ref b1)]))
  refine OGo.step (fun uK kK => XS.iload X32.here hx rfl (hb hby at_102) rfl kK) ?_
  show OGo p e below _ (T32.setTop (mkF m 104 #[.val (.int z0), .val (.int c1), .val (.int c2), .val (.int c3), .val (.int v1), .val (.int v2), .val (.int w_), .val (.ref b1), .val (.int (0 : Int32)), .val (.int (1 : Int32)), .val (.int ((1 : Int32) + (1 : Int32))), .val (.int r1), .val (.int f1), .val (.int r2), .val (.int f2), .val (.int r3), .val (.int f3), .unset, .unset, .unset, .unset, .unset] [(.int r1), (.ref b1)]))
  refine OGo.step (fun uK kK => XS.iload X32.here hx rfl (hb hby at_104) rfl kK) ?_
  show OGo p e below _ (T32.setTop (mkF m 106 #[.val (.int z0), .val (.int c1), .val (.int c2), .val (.int c3), .val (.int v1), .val (.int v2), .val (.int w_), .val (.ref b1), .val (.int (0 : Int32)), .val (.int (1 : Int32)), .val (.int ((1 : Int32) + (1 : Int32))), .val (.int r1), .val (.int f1), .val (.int r2), .val (.int f2), .val (.int r3), .val (.int f3), .unset, .unset, .unset, .unset, .unset] [(.int f1), (.int r1), (.ref b1)]))
  refine OGo.step (fun uK kK => XS.iload X32.here hx rfl (hb hby at_106) rfl kK) ?_
  show OGo p e below _ (T32.setTop (mkF m 108 #[.val (.int z0), .val (.int c1), .val (.int c2), .val (.int c3), .val (.int v1), .val (.int v2), .val (.int w_), .val (.ref b1), .val (.int (0 : Int32)), .val (.int (1 : Int32)), .val (.int ((1 : Int32) + (1 : Int32))), .val (.int r1), .val (.int f1), .val (.int r2), .val (.int f2), .val (.int r3), .val (.int f3), .unset, .unset, .unset, .unset, .unset] [(.int v1), (.int f1), (.int r1), (.ref b1)]))
  obtain ⟨cq33, kq33, q33a, q33b, q33c⟩ := isOf hZ e32 A1_21
  obtain ⟨_, _, ⟨T33, Lq33, kq_33, nq_33⟩, -, X33, ⟨Lc33, hQ33, lq33, yq33, zq33⟩, st33⟩ := X32.virtualBack hx (y := (⟨"com/example/hitung/hitung/IntChunks", "set", "(III)V"⟩ : MethodName)) (z := (⟨"com/example/hitung/hitung/IntChunks", "set", "(III)V"⟩ : MethodName)) hown (mvT hZ (hw _ (List.mem_of_getElem? (i := 33) rfl))) (mvT hZ (hw _ (List.mem_of_getElem? (i := 34) rfl))) (notFace_of_selects (args := #[]) (mvT hZ (hw _ (List.mem_of_getElem? (i := 36) rfl)))) (mvT hZ (hw _ (List.mem_of_getElem? (i := 36) rfl))) (mvT hZ (hw _ (List.mem_of_getElem? (i := 35) rfl))) (by decide) (backOf (W := 0) (rms l Z a0 hw [] b1 r1 f1 v1 w_ aC kc aI kI [] T20.heap n0 ZS20 Fc20 Fw20 Vc7_22 Vi7_23 (own_hz r1 hr1) (own_jx w_ r1 f1 hW hr1 hf1).2 gI) hZ (hw _ (List.mem_of_getElem? (i := 37) rfl)) (hw _ (List.mem_of_getElem? (i := 2) rfl)) (by decide) (by decide)) q33a q33c (g := (mkF m 108 #[.val (.int z0), .val (.int c1), .val (.int c2), .val (.int c3), .val (.int v1), .val (.int v2), .val (.int w_), .val (.ref b1), .val (.int (0 : Int32)), .val (.int (1 : Int32)), .val (.int ((1 : Int32) + (1 : Int32))), .val (.int r1), .val (.int f1), .val (.int r2), .val (.int f2), .val (.int r3), .val (.int f3), .unset, .unset, .unset, .unset, .unset] [(.int v1), (.int f1), (.int r1), (.ref b1)])) rfl (by rw [hml]; rfl) (Steps.refl _) (argsL := [(.int r1), (.int f1), (.int v1)]) (rest := []) (lenOf pd0_4 rfl) rfl (by show 2 * 0 + _ ≤ _; exact Nat.le_of_eq rfl) (hb hby at_108) (fun _ _ => ⟨rfl, e32, (by decide : 3 + 0 ≤ _), (by decide : 36 + 0 ≤ _)⟩)
  dsimp only [Pt.U, Pt.locs, Pt.cells, Pt.slots] at X33 lq33 yq33 zq33 st33 hQ33
  subst lq33 yq33 zq33
  obtain ⟨rfl, Nq33, K33, Vi33⟩ := hQ33
  have A1_34 := (A1_21.keep K33)
  have Vc7_35 := (Vc7_22.keep K33 (ninS ne_aC_aI nin0))
  have Fc20_37 := (Fc20.keep K33 (ninS ne_b1_aI nin0))
  have Fw20_38 := (Fw20.keep K33 (ninS ne_b1_aI nin0))
  have Fs20_39 := (Fs20.keep K33 (ninS ne_b1_aI nin0))
  have ZS33 : n0 ≤ T33.heap.size := Nat.le_trans ZS20 K33.1
  have KC33 : Keep h0 T33.heap [] := KC20.trans K33 (allS (Or.inr sz_aI) all0)
  have N33 := Fr.app N32 Nq33
  refine OGo.steps st33 ?_
  show OGo p e below _ (T33.setTop (mkF m 111 #[.val (.int z0), .val (.int c1), .val (.int c2), .val (.int c3), .val (.int v1), .val (.int v2), .val (.int w_), .val (.ref b1), .val (.int (0 : Int32)), .val (.int (1 : Int32)), .val (.int ((1 : Int32) + (1 : Int32))), .val (.int r1), .val (.int f1), .val (.int r2), .val (.int f2), .val (.int r3), .val (.int f3), .unset, .unset, .unset, .unset, .unset] []))
  refine OGo.step (fun uK kK => XS.aload X33.here hx rfl (hb hby at_111) rfl rfl kK) ?_
  show OGo p e below _ (T33.setTop (mkF m 113 #[.val (.int z0), .val (.int c1), .val (.int c2), .val (.int c3), .val (.int v1), .val (.int v2), .val (.int w_), .val (.ref b1), .val (.int (0 : Int32)), .val (.int (1 : Int32)), .val (.int ((1 : Int32) + (1 : Int32))), .val (.int r1), .val (.int f1), .val (.int r2), .val (.int f2), .val (.int r3), .val (.int f3), .unset, .unset, .unset, .unset, .unset] [(.ref b1)]))
  refine OGo.step (fun uK kK => XS.iload X33.here hx rfl (hb hby at_113) rfl kK) ?_
  show OGo p e below _ (T33.setTop (mkF m 115 #[.val (.int z0), .val (.int c1), .val (.int c2), .val (.int c3), .val (.int v1), .val (.int v2), .val (.int w_), .val (.ref b1), .val (.int (0 : Int32)), .val (.int (1 : Int32)), .val (.int ((1 : Int32) + (1 : Int32))), .val (.int r1), .val (.int f1), .val (.int r2), .val (.int f2), .val (.int r3), .val (.int f3), .unset, .unset, .unset, .unset, .unset] [(.int r2), (.ref b1)]))
  refine OGo.step (fun uK kK => XS.iload X33.here hx rfl (hb hby at_115) rfl kK) ?_
  show OGo p e below _ (T33.setTop (mkF m 117 #[.val (.int z0), .val (.int c1), .val (.int c2), .val (.int c3), .val (.int v1), .val (.int v2), .val (.int w_), .val (.ref b1), .val (.int (0 : Int32)), .val (.int (1 : Int32)), .val (.int ((1 : Int32) + (1 : Int32))), .val (.int r1), .val (.int f1), .val (.int r2), .val (.int f2), .val (.int r3), .val (.int f3), .unset, .unset, .unset, .unset, .unset] [(.int f2), (.int r2), (.ref b1)]))
  refine OGo.step (fun uK kK => XS.iload X33.here hx rfl (hb hby at_117) rfl kK) ?_
  show OGo p e below _ (T33.setTop (mkF m 119 #[.val (.int z0), .val (.int c1), .val (.int c2), .val (.int c3), .val (.int v1), .val (.int v2), .val (.int w_), .val (.ref b1), .val (.int (0 : Int32)), .val (.int (1 : Int32)), .val (.int ((1 : Int32) + (1 : Int32))), .val (.int r1), .val (.int f1), .val (.int r2), .val (.int f2), .val (.int r3), .val (.int f3), .unset, .unset, .unset, .unset, .unset] [(.int v2), (.int f2), (.int r2), (.ref b1)]))
  obtain ⟨cq40, kq40, q40a, q40b, q40c⟩ := isOf hZ rfl A1_34
  obtain ⟨_, _, ⟨T40, Lq40, kq_40, nq_40⟩, -, X40, ⟨Lc40, hQ40, lq40, yq40, zq40⟩, st40⟩ := X33.virtualBack hx (y := (⟨"com/example/hitung/hitung/IntChunks", "set", "(III)V"⟩ : MethodName)) (z := (⟨"com/example/hitung/hitung/IntChunks", "set", "(III)V"⟩ : MethodName)) hown (mvT hZ (hw _ (List.mem_of_getElem? (i := 33) rfl))) (mvT hZ (hw _ (List.mem_of_getElem? (i := 34) rfl))) (notFace_of_selects (args := #[]) (mvT hZ (hw _ (List.mem_of_getElem? (i := 36) rfl)))) (mvT hZ (hw _ (List.mem_of_getElem? (i := 36) rfl))) (mvT hZ (hw _ (List.mem_of_getElem? (i := 35) rfl))) (by decide) (backOf (W := 0) (rms l Z a0 hw [] b1 r2 f2 v2 w_ aC kc aI kI (((((r1 &&& (4095 : Int32)) * w_) + f1), .int v1) :: []) T33.heap n0 ZS33 Fc20_37 Fw20_38 Vc7_35 Vi33 (own_hz r2 hr2) (own_jx w_ r2 f2 hW hr2 hf2).2 gI) hZ (hw _ (List.mem_of_getElem? (i := 37) rfl)) (hw _ (List.mem_of_getElem? (i := 2) rfl)) (by decide) (by decide)) q40a q40c (g := (mkF m 119 #[.val (.int z0), .val (.int c1), .val (.int c2), .val (.int c3), .val (.int v1), .val (.int v2), .val (.int w_), .val (.ref b1), .val (.int (0 : Int32)), .val (.int (1 : Int32)), .val (.int ((1 : Int32) + (1 : Int32))), .val (.int r1), .val (.int f1), .val (.int r2), .val (.int f2), .val (.int r3), .val (.int f3), .unset, .unset, .unset, .unset, .unset] [(.int v2), (.int f2), (.int r2), (.ref b1)])) rfl (by rw [hml]; rfl) (Steps.refl _) (argsL := [(.int r2), (.int f2), (.int v2)]) (rest := []) (lenOf pd0_4 rfl) rfl (by show 2 * 0 + _ ≤ _; exact Nat.le_of_eq rfl) (hb hby at_119) (fun _ _ => ⟨rfl, rfl, (by decide : 3 + 0 ≤ _), (by decide : 36 + 0 ≤ _)⟩)
  dsimp only [Pt.U, Pt.locs, Pt.cells, Pt.slots] at X40 lq40 yq40 zq40 st40 hQ40
  subst lq40 yq40 zq40
  obtain ⟨rfl, Nq40, K40, Vi40⟩ := hQ40
  have A1_41 := (A1_34.keep K40)
  have Vc7_42 := (Vc7_35.keep K40 (ninS ne_aC_aI nin0))
  have Fc20_43 := (Fc20_37.keep K40 (ninS ne_b1_aI nin0))
  have Fw20_44 := (Fw20_38.keep K40 (ninS ne_b1_aI nin0))
  have Fs20_45 := (Fs20_39.keep K40 (ninS ne_b1_aI nin0))
  have ZS40 : n0 ≤ T40.heap.size := Nat.le_trans ZS33 K40.1
  have KC40 : Keep h0 T40.heap [] := KC33.trans K40 (allS (Or.inr sz_aI) all0)
  have N40 := Fr.app N33 Nq40
  refine OGo.steps st40 ?_
  show OGo p e below _ (T40.setTop (mkF m 122 #[.val (.int z0), .val (.int c1), .val (.int c2), .val (.int c3), .val (.int v1), .val (.int v2), .val (.int w_), .val (.ref b1), .val (.int (0 : Int32)), .val (.int (1 : Int32)), .val (.int ((1 : Int32) + (1 : Int32))), .val (.int r1), .val (.int f1), .val (.int r2), .val (.int f2), .val (.int r3), .val (.int f3), .unset, .unset, .unset, .unset, .unset] []))
  refine OGo.step (fun uK kK => XS.iload X40.here hx rfl (hb hby at_122) rfl kK) ?_
  show OGo p e below _ (T40.setTop (mkF m 124 #[.val (.int z0), .val (.int c1), .val (.int c2), .val (.int c3), .val (.int v1), .val (.int v2), .val (.int w_), .val (.ref b1), .val (.int (0 : Int32)), .val (.int (1 : Int32)), .val (.int ((1 : Int32) + (1 : Int32))), .val (.int r1), .val (.int f1), .val (.int r2), .val (.int f2), .val (.int r3), .val (.int f3), .unset, .unset, .unset, .unset, .unset] [(.int r1)]))
  refine OGo.step (fun uK kK => XS.iload X40.here hx rfl (hb hby at_124) rfl kK) ?_
  show OGo p e below _ (T40.setTop (mkF m 126 #[.val (.int z0), .val (.int c1), .val (.int c2), .val (.int c3), .val (.int v1), .val (.int v2), .val (.int w_), .val (.ref b1), .val (.int (0 : Int32)), .val (.int (1 : Int32)), .val (.int ((1 : Int32) + (1 : Int32))), .val (.int r1), .val (.int f1), .val (.int r2), .val (.int f2), .val (.int r3), .val (.int f3), .unset, .unset, .unset, .unset, .unset] [(.int r2), (.int r1)]))
  refine OGo.step (t' := T40.setTop (mkF m 141 #[.val (.int z0), .val (.int c1), .val (.int c2), .val (.int c3), .val (.int v1), .val (.int v2), .val (.int w_), .val (.ref b1), .val (.int (0 : Int32)), .val (.int (1 : Int32)), .val (.int ((1 : Int32) + (1 : Int32))), .val (.int r1), .val (.int f1), .val (.int r2), .val (.int f2), .val (.int r3), .val (.int f3), .unset, .unset, .unset, .unset, .unset] [(.int (if r1 = r2 then (if f1 = f2 then (1 : Int32) else (0 : Int32)) else (0 : Int32)))])) (fun uK kK => ?_) ?_
  · show Steps p.tables e below (T40.setTop (mkF m 126 #[.val (.int z0), .val (.int c1), .val (.int c2), .val (.int c3), .val (.int v1), .val (.int v2), .val (.int w_), .val (.ref b1), .val (.int (0 : Int32)), .val (.int (1 : Int32)), .val (.int ((1 : Int32) + (1 : Int32))), .val (.int r1), .val (.int f1), .val (.int r2), .val (.int f2), .val (.int r3), .val (.int f3), .unset, .unset, .unset, .unset, .unset] [(.int r2), (.int r1)])) _
    by_cases hm126_47 : r1 = r2
    · try rw [if_pos hm126_47] at kK
      refine XS.icmpNo X40.here hx rfl (hb hby at_126) rfl (teq hm126_47).2 ?_
      refine XS.iload X40.here hx rfl (hb hby at_129) rfl ?_
      show Steps p.tables e below (T40.setTop (mkF m 131 #[.val (.int z0), .val (.int c1), .val (.int c2), .val (.int c3), .val (.int v1), .val (.int v2), .val (.int w_), .val (.ref b1), .val (.int (0 : Int32)), .val (.int (1 : Int32)), .val (.int ((1 : Int32) + (1 : Int32))), .val (.int r1), .val (.int f1), .val (.int r2), .val (.int f2), .val (.int r3), .val (.int f3), .unset, .unset, .unset, .unset, .unset] [(.int f1)])) _
      refine XS.iload X40.here hx rfl (hb hby at_131) rfl ?_
      show Steps p.tables e below (T40.setTop (mkF m 133 #[.val (.int z0), .val (.int c1), .val (.int c2), .val (.int c3), .val (.int v1), .val (.int v2), .val (.int w_), .val (.ref b1), .val (.int (0 : Int32)), .val (.int (1 : Int32)), .val (.int ((1 : Int32) + (1 : Int32))), .val (.int r1), .val (.int f1), .val (.int r2), .val (.int f2), .val (.int r3), .val (.int f3), .unset, .unset, .unset, .unset, .unset] [(.int f2), (.int f1)])) _
      by_cases hm133_48 : f1 = f2
      · try rw [if_pos hm133_48] at kK
        refine XS.icmpNo X40.here hx rfl (hb hby at_133) rfl (teq hm133_48).2 ?_
        refine XS.iconst X40.here hx rfl (hb hby at_136) ?_
        show Steps p.tables e below (T40.setTop (mkF m 137 #[.val (.int z0), .val (.int c1), .val (.int c2), .val (.int c3), .val (.int v1), .val (.int v2), .val (.int w_), .val (.ref b1), .val (.int (0 : Int32)), .val (.int (1 : Int32)), .val (.int ((1 : Int32) + (1 : Int32))), .val (.int r1), .val (.int f1), .val (.int r2), .val (.int f2), .val (.int r3), .val (.int f3), .unset, .unset, .unset, .unset, .unset] [(.int (1 : Int32))])) _
        refine XS.goto X40.here hx rfl (pc0 := 137) (pc' := 141) rfl (hb hby at_137) (by decide) (by decide) ?_
        show Steps p.tables e below (T40.setTop (mkF m 141 #[.val (.int z0), .val (.int c1), .val (.int c2), .val (.int c3), .val (.int v1), .val (.int v2), .val (.int w_), .val (.ref b1), .val (.int (0 : Int32)), .val (.int (1 : Int32)), .val (.int ((1 : Int32) + (1 : Int32))), .val (.int r1), .val (.int f1), .val (.int r2), .val (.int f2), .val (.int r3), .val (.int f3), .unset, .unset, .unset, .unset, .unset] [(.int (1 : Int32))])) _
        exact kK
      · try rw [if_neg hm133_48] at kK
        refine XS.icmpYes X40.here hx rfl (pc0 := 133) (pc' := 140) rfl (hb hby at_133) rfl (feq hm133_48).2 (by decide) (by decide) ?_
        refine XS.iconst X40.here hx rfl (hb hby at_140) ?_
        show Steps p.tables e below (T40.setTop (mkF m 141 #[.val (.int z0), .val (.int c1), .val (.int c2), .val (.int c3), .val (.int v1), .val (.int v2), .val (.int w_), .val (.ref b1), .val (.int (0 : Int32)), .val (.int (1 : Int32)), .val (.int ((1 : Int32) + (1 : Int32))), .val (.int r1), .val (.int f1), .val (.int r2), .val (.int f2), .val (.int r3), .val (.int f3), .unset, .unset, .unset, .unset, .unset] [(.int (0 : Int32))])) _
        exact kK
    · try rw [if_neg hm126_47] at kK
      refine XS.icmpYes X40.here hx rfl (pc0 := 126) (pc' := 140) rfl (hb hby at_126) rfl (feq hm126_47).2 (by decide) (by decide) ?_
      refine XS.iconst X40.here hx rfl (hb hby at_140) ?_
      show Steps p.tables e below (T40.setTop (mkF m 141 #[.val (.int z0), .val (.int c1), .val (.int c2), .val (.int c3), .val (.int v1), .val (.int v2), .val (.int w_), .val (.ref b1), .val (.int (0 : Int32)), .val (.int (1 : Int32)), .val (.int ((1 : Int32) + (1 : Int32))), .val (.int r1), .val (.int f1), .val (.int r2), .val (.int f2), .val (.int r3), .val (.int f3), .unset, .unset, .unset, .unset, .unset] [(.int (0 : Int32))])) _
      exact kK
  show OGo p e below _ (T40.setTop (mkF m 141 #[.val (.int z0), .val (.int c1), .val (.int c2), .val (.int c3), .val (.int v1), .val (.int v2), .val (.int w_), .val (.ref b1), .val (.int (0 : Int32)), .val (.int (1 : Int32)), .val (.int ((1 : Int32) + (1 : Int32))), .val (.int r1), .val (.int f1), .val (.int r2), .val (.int f2), .val (.int r3), .val (.int f3), .unset, .unset, .unset, .unset, .unset] [(.int (if r1 = r2 then (if f1 = f2 then (1 : Int32) else (0 : Int32)) else (0 : Int32)))]))
  obtain ⟨s12, ev_s12⟩ : ∃ z : Int32, z = (if r1 = r2 then (if f1 = f2 then (1 : Int32) else (0 : Int32)) else (0 : Int32)) := ⟨_, rfl⟩
  rw [← ev_s12]
  show OGo p e below _ (T40.setTop (mkF m 141 #[.val (.int z0), .val (.int c1), .val (.int c2), .val (.int c3), .val (.int v1), .val (.int v2), .val (.int w_), .val (.ref b1), .val (.int (0 : Int32)), .val (.int (1 : Int32)), .val (.int ((1 : Int32) + (1 : Int32))), .val (.int r1), .val (.int f1), .val (.int r2), .val (.int f2), .val (.int r3), .val (.int f3), .unset, .unset, .unset, .unset, .unset] [(.int s12)]))
  refine OGo.step (fun uK kK => XS.istore X40.here hx rfl (hb hby at_141) rfl (l' := #[.val (.int z0), .val (.int c1), .val (.int c2), .val (.int c3), .val (.int v1), .val (.int v2), .val (.int w_), .val (.ref b1), .val (.int (0 : Int32)), .val (.int (1 : Int32)), .val (.int ((1 : Int32) + (1 : Int32))), .val (.int r1), .val (.int f1), .val (.int r2), .val (.int f2), .val (.int r3), .val (.int f3), .val (.int s12), .unset, .unset, .unset, .unset]) rfl kK) ?_
  show OGo p e below _ (T40.setTop (mkF m 143 #[.val (.int z0), .val (.int c1), .val (.int c2), .val (.int c3), .val (.int v1), .val (.int v2), .val (.int w_), .val (.ref b1), .val (.int (0 : Int32)), .val (.int (1 : Int32)), .val (.int ((1 : Int32) + (1 : Int32))), .val (.int r1), .val (.int f1), .val (.int r2), .val (.int f2), .val (.int r3), .val (.int f3), .val (.int s12), .unset, .unset, .unset, .unset] []))
  refine OGo.step (fun uK kK => XS.iload X40.here hx rfl (hb hby at_143) rfl kK) ?_
  show OGo p e below _ (T40.setTop (mkF m 145 #[.val (.int z0), .val (.int c1), .val (.int c2), .val (.int c3), .val (.int v1), .val (.int v2), .val (.int w_), .val (.ref b1), .val (.int (0 : Int32)), .val (.int (1 : Int32)), .val (.int ((1 : Int32) + (1 : Int32))), .val (.int r1), .val (.int f1), .val (.int r2), .val (.int f2), .val (.int r3), .val (.int f3), .val (.int s12), .unset, .unset, .unset, .unset] [(.int s12)]))
  refine OGo.step (t' := T40.setTop (mkF m 155 #[.val (.int z0), .val (.int c1), .val (.int c2), .val (.int c3), .val (.int v1), .val (.int v2), .val (.int w_), .val (.ref b1), .val (.int (0 : Int32)), .val (.int (1 : Int32)), .val (.int ((1 : Int32) + (1 : Int32))), .val (.int r1), .val (.int f1), .val (.int r2), .val (.int f2), .val (.int r3), .val (.int f3), .val (.int s12), .unset, .unset, .unset, .unset] [(.int (if s12 = (0 : Int32) then v1 else v2))])) (fun uK kK => ?_) ?_
  · show Steps p.tables e below (T40.setTop (mkF m 145 #[.val (.int z0), .val (.int c1), .val (.int c2), .val (.int c3), .val (.int v1), .val (.int v2), .val (.int w_), .val (.ref b1), .val (.int (0 : Int32)), .val (.int (1 : Int32)), .val (.int ((1 : Int32) + (1 : Int32))), .val (.int r1), .val (.int f1), .val (.int r2), .val (.int f2), .val (.int r3), .val (.int f3), .val (.int s12), .unset, .unset, .unset, .unset] [(.int s12)])) _
    by_cases hm145_49 : s12 = (0 : Int32)
    · try rw [if_pos hm145_49] at kK
      refine XS.ifYes X40.here hx rfl (pc0 := 145) (pc' := 153) rfl (hb hby at_145) rfl ((if0 _ _).trans (teq hm145_49).1) (by decide) (by decide) ?_
      refine XS.iload X40.here hx rfl (hb hby at_153) rfl ?_
      show Steps p.tables e below (T40.setTop (mkF m 155 #[.val (.int z0), .val (.int c1), .val (.int c2), .val (.int c3), .val (.int v1), .val (.int v2), .val (.int w_), .val (.ref b1), .val (.int (0 : Int32)), .val (.int (1 : Int32)), .val (.int ((1 : Int32) + (1 : Int32))), .val (.int r1), .val (.int f1), .val (.int r2), .val (.int f2), .val (.int r3), .val (.int f3), .val (.int s12), .unset, .unset, .unset, .unset] [(.int v1)])) _
      exact kK
    · try rw [if_neg hm145_49] at kK
      refine XS.ifNo X40.here hx rfl (hb hby at_145) rfl ((if0 _ _).trans (feq hm145_49).1) ?_
      refine XS.iload X40.here hx rfl (hb hby at_148) rfl ?_
      show Steps p.tables e below (T40.setTop (mkF m 150 #[.val (.int z0), .val (.int c1), .val (.int c2), .val (.int c3), .val (.int v1), .val (.int v2), .val (.int w_), .val (.ref b1), .val (.int (0 : Int32)), .val (.int (1 : Int32)), .val (.int ((1 : Int32) + (1 : Int32))), .val (.int r1), .val (.int f1), .val (.int r2), .val (.int f2), .val (.int r3), .val (.int f3), .val (.int s12), .unset, .unset, .unset, .unset] [(.int v2)])) _
      refine XS.goto X40.here hx rfl (pc0 := 150) (pc' := 155) rfl (hb hby at_150) (by decide) (by decide) ?_
      show Steps p.tables e below (T40.setTop (mkF m 155 #[.val (.int z0), .val (.int c1), .val (.int c2), .val (.int c3), .val (.int v1), .val (.int v2), .val (.int w_), .val (.ref b1), .val (.int (0 : Int32)), .val (.int (1 : Int32)), .val (.int ((1 : Int32) + (1 : Int32))), .val (.int r1), .val (.int f1), .val (.int r2), .val (.int f2), .val (.int r3), .val (.int f3), .val (.int s12), .unset, .unset, .unset, .unset] [(.int v2)])) _
      exact kK
  show OGo p e below _ (T40.setTop (mkF m 155 #[.val (.int z0), .val (.int c1), .val (.int c2), .val (.int c3), .val (.int v1), .val (.int v2), .val (.int w_), .val (.ref b1), .val (.int (0 : Int32)), .val (.int (1 : Int32)), .val (.int ((1 : Int32) + (1 : Int32))), .val (.int r1), .val (.int f1), .val (.int r2), .val (.int f2), .val (.int r3), .val (.int f3), .val (.int s12), .unset, .unset, .unset, .unset] [(.int (if s12 = (0 : Int32) then v1 else v2))]))
  obtain ⟨e1, ev_e1⟩ : ∃ z : Int32, z = (if s12 = (0 : Int32) then v1 else v2) := ⟨_, rfl⟩
  rw [← ev_e1]
  show OGo p e below _ (T40.setTop (mkF m 155 #[.val (.int z0), .val (.int c1), .val (.int c2), .val (.int c3), .val (.int v1), .val (.int v2), .val (.int w_), .val (.ref b1), .val (.int (0 : Int32)), .val (.int (1 : Int32)), .val (.int ((1 : Int32) + (1 : Int32))), .val (.int r1), .val (.int f1), .val (.int r2), .val (.int f2), .val (.int r3), .val (.int f3), .val (.int s12), .unset, .unset, .unset, .unset] [(.int e1)]))
  refine OGo.step (fun uK kK => XS.istore X40.here hx rfl (hb hby at_155) rfl (l' := #[.val (.int z0), .val (.int c1), .val (.int c2), .val (.int c3), .val (.int v1), .val (.int v2), .val (.int w_), .val (.ref b1), .val (.int (0 : Int32)), .val (.int (1 : Int32)), .val (.int ((1 : Int32) + (1 : Int32))), .val (.int r1), .val (.int f1), .val (.int r2), .val (.int f2), .val (.int r3), .val (.int f3), .val (.int s12), .val (.int e1), .unset, .unset, .unset]) rfl kK) ?_
  show OGo p e below _ (T40.setTop (mkF m 157 #[.val (.int z0), .val (.int c1), .val (.int c2), .val (.int c3), .val (.int v1), .val (.int v2), .val (.int w_), .val (.ref b1), .val (.int (0 : Int32)), .val (.int (1 : Int32)), .val (.int ((1 : Int32) + (1 : Int32))), .val (.int r1), .val (.int f1), .val (.int r2), .val (.int f2), .val (.int r3), .val (.int f3), .val (.int s12), .val (.int e1), .unset, .unset, .unset] []))
  refine OGo.step (fun uK kK => XS.iload X40.here hx rfl (hb hby at_157) rfl kK) ?_
  show OGo p e below _ (T40.setTop (mkF m 159 #[.val (.int z0), .val (.int c1), .val (.int c2), .val (.int c3), .val (.int v1), .val (.int v2), .val (.int w_), .val (.ref b1), .val (.int (0 : Int32)), .val (.int (1 : Int32)), .val (.int ((1 : Int32) + (1 : Int32))), .val (.int r1), .val (.int f1), .val (.int r2), .val (.int f2), .val (.int r3), .val (.int f3), .val (.int s12), .val (.int e1), .unset, .unset, .unset] [(.int r3)]))
  refine OGo.step (fun uK kK => XS.iload X40.here hx rfl (hb hby at_159) rfl kK) ?_
  show OGo p e below _ (T40.setTop (mkF m 161 #[.val (.int z0), .val (.int c1), .val (.int c2), .val (.int c3), .val (.int v1), .val (.int v2), .val (.int w_), .val (.ref b1), .val (.int (0 : Int32)), .val (.int (1 : Int32)), .val (.int ((1 : Int32) + (1 : Int32))), .val (.int r1), .val (.int f1), .val (.int r2), .val (.int f2), .val (.int r3), .val (.int f3), .val (.int s12), .val (.int e1), .unset, .unset, .unset] [(.int r2), (.int r3)]))
  refine OGo.step (t' := T40.setTop (mkF m 202 #[.val (.int z0), .val (.int c1), .val (.int c2), .val (.int c3), .val (.int v1), .val (.int v2), .val (.int w_), .val (.ref b1), .val (.int (0 : Int32)), .val (.int (1 : Int32)), .val (.int ((1 : Int32) + (1 : Int32))), .val (.int r1), .val (.int f1), .val (.int r2), .val (.int f2), .val (.int r3), .val (.int f3), .val (.int s12), .val (.int e1), .val (.int (if r3 = r2 then (if f3 = f2 then v2 else (if r3 = r1 then (if f3 = f1 then v1 else (0 : Int32)) else (0 : Int32))) else (if r3 = r1 then (if f3 = f1 then v1 else (0 : Int32)) else (0 : Int32)))), .unset, .unset] [])) (fun uK kK => ?_) ?_
  · show Steps p.tables e below (T40.setTop (mkF m 161 #[.val (.int z0), .val (.int c1), .val (.int c2), .val (.int c3), .val (.int v1), .val (.int v2), .val (.int w_), .val (.ref b1), .val (.int (0 : Int32)), .val (.int (1 : Int32)), .val (.int ((1 : Int32) + (1 : Int32))), .val (.int r1), .val (.int f1), .val (.int r2), .val (.int f2), .val (.int r3), .val (.int f3), .val (.int s12), .val (.int e1), .unset, .unset, .unset] [(.int r2), (.int r3)])) _
    by_cases hm161_50 : r3 = r2
    · try rw [if_pos hm161_50] at kK
      refine XS.icmpNo X40.here hx rfl (hb hby at_161) rfl (teq hm161_50).2 ?_
      refine XS.iload X40.here hx rfl (hb hby at_164) rfl ?_
      show Steps p.tables e below (T40.setTop (mkF m 166 #[.val (.int z0), .val (.int c1), .val (.int c2), .val (.int c3), .val (.int v1), .val (.int v2), .val (.int w_), .val (.ref b1), .val (.int (0 : Int32)), .val (.int (1 : Int32)), .val (.int ((1 : Int32) + (1 : Int32))), .val (.int r1), .val (.int f1), .val (.int r2), .val (.int f2), .val (.int r3), .val (.int f3), .val (.int s12), .val (.int e1), .unset, .unset, .unset] [(.int f3)])) _
      refine XS.iload X40.here hx rfl (hb hby at_166) rfl ?_
      show Steps p.tables e below (T40.setTop (mkF m 168 #[.val (.int z0), .val (.int c1), .val (.int c2), .val (.int c3), .val (.int v1), .val (.int v2), .val (.int w_), .val (.ref b1), .val (.int (0 : Int32)), .val (.int (1 : Int32)), .val (.int ((1 : Int32) + (1 : Int32))), .val (.int r1), .val (.int f1), .val (.int r2), .val (.int f2), .val (.int r3), .val (.int f3), .val (.int s12), .val (.int e1), .unset, .unset, .unset] [(.int f2), (.int f3)])) _
      by_cases hm168_51 : f3 = f2
      · try rw [if_pos hm168_51] at kK
        refine XS.icmpNo X40.here hx rfl (hb hby at_168) rfl (teq hm168_51).2 ?_
        refine XS.iload X40.here hx rfl (hb hby at_171) rfl ?_
        show Steps p.tables e below (T40.setTop (mkF m 173 #[.val (.int z0), .val (.int c1), .val (.int c2), .val (.int c3), .val (.int v1), .val (.int v2), .val (.int w_), .val (.ref b1), .val (.int (0 : Int32)), .val (.int (1 : Int32)), .val (.int ((1 : Int32) + (1 : Int32))), .val (.int r1), .val (.int f1), .val (.int r2), .val (.int f2), .val (.int r3), .val (.int f3), .val (.int s12), .val (.int e1), .unset, .unset, .unset] [(.int v2)])) _
        refine XS.istore X40.here hx rfl (hb hby at_173) rfl (l' := #[.val (.int z0), .val (.int c1), .val (.int c2), .val (.int c3), .val (.int v1), .val (.int v2), .val (.int w_), .val (.ref b1), .val (.int (0 : Int32)), .val (.int (1 : Int32)), .val (.int ((1 : Int32) + (1 : Int32))), .val (.int r1), .val (.int f1), .val (.int r2), .val (.int f2), .val (.int r3), .val (.int f3), .val (.int s12), .val (.int e1), .val (.int v2), .unset, .unset]) rfl ?_
        show Steps p.tables e below (T40.setTop (mkF m 175 #[.val (.int z0), .val (.int c1), .val (.int c2), .val (.int c3), .val (.int v1), .val (.int v2), .val (.int w_), .val (.ref b1), .val (.int (0 : Int32)), .val (.int (1 : Int32)), .val (.int ((1 : Int32) + (1 : Int32))), .val (.int r1), .val (.int f1), .val (.int r2), .val (.int f2), .val (.int r3), .val (.int f3), .val (.int s12), .val (.int e1), .val (.int v2), .unset, .unset] [])) _
        refine XS.goto X40.here hx rfl (pc0 := 175) (pc' := 202) rfl (hb hby at_175) (by decide) (by decide) ?_
        show Steps p.tables e below (T40.setTop (mkF m 202 #[.val (.int z0), .val (.int c1), .val (.int c2), .val (.int c3), .val (.int v1), .val (.int v2), .val (.int w_), .val (.ref b1), .val (.int (0 : Int32)), .val (.int (1 : Int32)), .val (.int ((1 : Int32) + (1 : Int32))), .val (.int r1), .val (.int f1), .val (.int r2), .val (.int f2), .val (.int r3), .val (.int f3), .val (.int s12), .val (.int e1), .val (.int v2), .unset, .unset] [])) _
        exact kK
      · try rw [if_neg hm168_51] at kK
        refine XS.icmpYes X40.here hx rfl (pc0 := 168) (pc' := 178) rfl (hb hby at_168) rfl (feq hm168_51).2 (by decide) (by decide) ?_
        refine XS.iload X40.here hx rfl (hb hby at_178) rfl ?_
        show Steps p.tables e below (T40.setTop (mkF m 180 #[.val (.int z0), .val (.int c1), .val (.int c2), .val (.int c3), .val (.int v1), .val (.int v2), .val (.int w_), .val (.ref b1), .val (.int (0 : Int32)), .val (.int (1 : Int32)), .val (.int ((1 : Int32) + (1 : Int32))), .val (.int r1), .val (.int f1), .val (.int r2), .val (.int f2), .val (.int r3), .val (.int f3), .val (.int s12), .val (.int e1), .unset, .unset, .unset] [(.int r3)])) _
        refine XS.iload X40.here hx rfl (hb hby at_180) rfl ?_
        show Steps p.tables e below (T40.setTop (mkF m 182 #[.val (.int z0), .val (.int c1), .val (.int c2), .val (.int c3), .val (.int v1), .val (.int v2), .val (.int w_), .val (.ref b1), .val (.int (0 : Int32)), .val (.int (1 : Int32)), .val (.int ((1 : Int32) + (1 : Int32))), .val (.int r1), .val (.int f1), .val (.int r2), .val (.int f2), .val (.int r3), .val (.int f3), .val (.int s12), .val (.int e1), .unset, .unset, .unset] [(.int r1), (.int r3)])) _
        by_cases hm182_52 : r3 = r1
        · try rw [if_pos hm182_52] at kK
          refine XS.icmpNo X40.here hx rfl (hb hby at_182) rfl (teq hm182_52).2 ?_
          refine XS.iload X40.here hx rfl (hb hby at_185) rfl ?_
          show Steps p.tables e below (T40.setTop (mkF m 187 #[.val (.int z0), .val (.int c1), .val (.int c2), .val (.int c3), .val (.int v1), .val (.int v2), .val (.int w_), .val (.ref b1), .val (.int (0 : Int32)), .val (.int (1 : Int32)), .val (.int ((1 : Int32) + (1 : Int32))), .val (.int r1), .val (.int f1), .val (.int r2), .val (.int f2), .val (.int r3), .val (.int f3), .val (.int s12), .val (.int e1), .unset, .unset, .unset] [(.int f3)])) _
          refine XS.iload X40.here hx rfl (hb hby at_187) rfl ?_
          show Steps p.tables e below (T40.setTop (mkF m 189 #[.val (.int z0), .val (.int c1), .val (.int c2), .val (.int c3), .val (.int v1), .val (.int v2), .val (.int w_), .val (.ref b1), .val (.int (0 : Int32)), .val (.int (1 : Int32)), .val (.int ((1 : Int32) + (1 : Int32))), .val (.int r1), .val (.int f1), .val (.int r2), .val (.int f2), .val (.int r3), .val (.int f3), .val (.int s12), .val (.int e1), .unset, .unset, .unset] [(.int f1), (.int f3)])) _
          by_cases hm189_53 : f3 = f1
          · try rw [if_pos hm189_53] at kK
            refine XS.icmpNo X40.here hx rfl (hb hby at_189) rfl (teq hm189_53).2 ?_
            refine XS.iload X40.here hx rfl (hb hby at_192) rfl ?_
            show Steps p.tables e below (T40.setTop (mkF m 194 #[.val (.int z0), .val (.int c1), .val (.int c2), .val (.int c3), .val (.int v1), .val (.int v2), .val (.int w_), .val (.ref b1), .val (.int (0 : Int32)), .val (.int (1 : Int32)), .val (.int ((1 : Int32) + (1 : Int32))), .val (.int r1), .val (.int f1), .val (.int r2), .val (.int f2), .val (.int r3), .val (.int f3), .val (.int s12), .val (.int e1), .unset, .unset, .unset] [(.int v1)])) _
            refine XS.istore X40.here hx rfl (hb hby at_194) rfl (l' := #[.val (.int z0), .val (.int c1), .val (.int c2), .val (.int c3), .val (.int v1), .val (.int v2), .val (.int w_), .val (.ref b1), .val (.int (0 : Int32)), .val (.int (1 : Int32)), .val (.int ((1 : Int32) + (1 : Int32))), .val (.int r1), .val (.int f1), .val (.int r2), .val (.int f2), .val (.int r3), .val (.int f3), .val (.int s12), .val (.int e1), .val (.int v1), .unset, .unset]) rfl ?_
            show Steps p.tables e below (T40.setTop (mkF m 196 #[.val (.int z0), .val (.int c1), .val (.int c2), .val (.int c3), .val (.int v1), .val (.int v2), .val (.int w_), .val (.ref b1), .val (.int (0 : Int32)), .val (.int (1 : Int32)), .val (.int ((1 : Int32) + (1 : Int32))), .val (.int r1), .val (.int f1), .val (.int r2), .val (.int f2), .val (.int r3), .val (.int f3), .val (.int s12), .val (.int e1), .val (.int v1), .unset, .unset] [])) _
            refine XS.goto X40.here hx rfl (pc0 := 196) (pc' := 202) rfl (hb hby at_196) (by decide) (by decide) ?_
            show Steps p.tables e below (T40.setTop (mkF m 202 #[.val (.int z0), .val (.int c1), .val (.int c2), .val (.int c3), .val (.int v1), .val (.int v2), .val (.int w_), .val (.ref b1), .val (.int (0 : Int32)), .val (.int (1 : Int32)), .val (.int ((1 : Int32) + (1 : Int32))), .val (.int r1), .val (.int f1), .val (.int r2), .val (.int f2), .val (.int r3), .val (.int f3), .val (.int s12), .val (.int e1), .val (.int v1), .unset, .unset] [])) _
            exact kK
          · try rw [if_neg hm189_53] at kK
            refine XS.icmpYes X40.here hx rfl (pc0 := 189) (pc' := 199) rfl (hb hby at_189) rfl (feq hm189_53).2 (by decide) (by decide) ?_
            refine XS.iconst X40.here hx rfl (hb hby at_199) ?_
            show Steps p.tables e below (T40.setTop (mkF m 200 #[.val (.int z0), .val (.int c1), .val (.int c2), .val (.int c3), .val (.int v1), .val (.int v2), .val (.int w_), .val (.ref b1), .val (.int (0 : Int32)), .val (.int (1 : Int32)), .val (.int ((1 : Int32) + (1 : Int32))), .val (.int r1), .val (.int f1), .val (.int r2), .val (.int f2), .val (.int r3), .val (.int f3), .val (.int s12), .val (.int e1), .unset, .unset, .unset] [(.int (0 : Int32))])) _
            refine XS.istore X40.here hx rfl (hb hby at_200) rfl (l' := #[.val (.int z0), .val (.int c1), .val (.int c2), .val (.int c3), .val (.int v1), .val (.int v2), .val (.int w_), .val (.ref b1), .val (.int (0 : Int32)), .val (.int (1 : Int32)), .val (.int ((1 : Int32) + (1 : Int32))), .val (.int r1), .val (.int f1), .val (.int r2), .val (.int f2), .val (.int r3), .val (.int f3), .val (.int s12), .val (.int e1), .val (.int (0 : Int32)), .unset, .unset]) rfl ?_
            show Steps p.tables e below (T40.setTop (mkF m 202 #[.val (.int z0), .val (.int c1), .val (.int c2), .val (.int c3), .val (.int v1), .val (.int v2), .val (.int w_), .val (.ref b1), .val (.int (0 : Int32)), .val (.int (1 : Int32)), .val (.int ((1 : Int32) + (1 : Int32))), .val (.int r1), .val (.int f1), .val (.int r2), .val (.int f2), .val (.int r3), .val (.int f3), .val (.int s12), .val (.int e1), .val (.int (0 : Int32)), .unset, .unset] [])) _
            exact kK
        · try rw [if_neg hm182_52] at kK
          refine XS.icmpYes X40.here hx rfl (pc0 := 182) (pc' := 199) rfl (hb hby at_182) rfl (feq hm182_52).2 (by decide) (by decide) ?_
          refine XS.iconst X40.here hx rfl (hb hby at_199) ?_
          show Steps p.tables e below (T40.setTop (mkF m 200 #[.val (.int z0), .val (.int c1), .val (.int c2), .val (.int c3), .val (.int v1), .val (.int v2), .val (.int w_), .val (.ref b1), .val (.int (0 : Int32)), .val (.int (1 : Int32)), .val (.int ((1 : Int32) + (1 : Int32))), .val (.int r1), .val (.int f1), .val (.int r2), .val (.int f2), .val (.int r3), .val (.int f3), .val (.int s12), .val (.int e1), .unset, .unset, .unset] [(.int (0 : Int32))])) _
          refine XS.istore X40.here hx rfl (hb hby at_200) rfl (l' := #[.val (.int z0), .val (.int c1), .val (.int c2), .val (.int c3), .val (.int v1), .val (.int v2), .val (.int w_), .val (.ref b1), .val (.int (0 : Int32)), .val (.int (1 : Int32)), .val (.int ((1 : Int32) + (1 : Int32))), .val (.int r1), .val (.int f1), .val (.int r2), .val (.int f2), .val (.int r3), .val (.int f3), .val (.int s12), .val (.int e1), .val (.int (0 : Int32)), .unset, .unset]) rfl ?_
          show Steps p.tables e below (T40.setTop (mkF m 202 #[.val (.int z0), .val (.int c1), .val (.int c2), .val (.int c3), .val (.int v1), .val (.int v2), .val (.int w_), .val (.ref b1), .val (.int (0 : Int32)), .val (.int (1 : Int32)), .val (.int ((1 : Int32) + (1 : Int32))), .val (.int r1), .val (.int f1), .val (.int r2), .val (.int f2), .val (.int r3), .val (.int f3), .val (.int s12), .val (.int e1), .val (.int (0 : Int32)), .unset, .unset] [])) _
          exact kK
    · try rw [if_neg hm161_50] at kK
      refine XS.icmpYes X40.here hx rfl (pc0 := 161) (pc' := 178) rfl (hb hby at_161) rfl (feq hm161_50).2 (by decide) (by decide) ?_
      refine XS.iload X40.here hx rfl (hb hby at_178) rfl ?_
      show Steps p.tables e below (T40.setTop (mkF m 180 #[.val (.int z0), .val (.int c1), .val (.int c2), .val (.int c3), .val (.int v1), .val (.int v2), .val (.int w_), .val (.ref b1), .val (.int (0 : Int32)), .val (.int (1 : Int32)), .val (.int ((1 : Int32) + (1 : Int32))), .val (.int r1), .val (.int f1), .val (.int r2), .val (.int f2), .val (.int r3), .val (.int f3), .val (.int s12), .val (.int e1), .unset, .unset, .unset] [(.int r3)])) _
      refine XS.iload X40.here hx rfl (hb hby at_180) rfl ?_
      show Steps p.tables e below (T40.setTop (mkF m 182 #[.val (.int z0), .val (.int c1), .val (.int c2), .val (.int c3), .val (.int v1), .val (.int v2), .val (.int w_), .val (.ref b1), .val (.int (0 : Int32)), .val (.int (1 : Int32)), .val (.int ((1 : Int32) + (1 : Int32))), .val (.int r1), .val (.int f1), .val (.int r2), .val (.int f2), .val (.int r3), .val (.int f3), .val (.int s12), .val (.int e1), .unset, .unset, .unset] [(.int r1), (.int r3)])) _
      by_cases hm182_54 : r3 = r1
      · try rw [if_pos hm182_54] at kK
        refine XS.icmpNo X40.here hx rfl (hb hby at_182) rfl (teq hm182_54).2 ?_
        refine XS.iload X40.here hx rfl (hb hby at_185) rfl ?_
        show Steps p.tables e below (T40.setTop (mkF m 187 #[.val (.int z0), .val (.int c1), .val (.int c2), .val (.int c3), .val (.int v1), .val (.int v2), .val (.int w_), .val (.ref b1), .val (.int (0 : Int32)), .val (.int (1 : Int32)), .val (.int ((1 : Int32) + (1 : Int32))), .val (.int r1), .val (.int f1), .val (.int r2), .val (.int f2), .val (.int r3), .val (.int f3), .val (.int s12), .val (.int e1), .unset, .unset, .unset] [(.int f3)])) _
        refine XS.iload X40.here hx rfl (hb hby at_187) rfl ?_
        show Steps p.tables e below (T40.setTop (mkF m 189 #[.val (.int z0), .val (.int c1), .val (.int c2), .val (.int c3), .val (.int v1), .val (.int v2), .val (.int w_), .val (.ref b1), .val (.int (0 : Int32)), .val (.int (1 : Int32)), .val (.int ((1 : Int32) + (1 : Int32))), .val (.int r1), .val (.int f1), .val (.int r2), .val (.int f2), .val (.int r3), .val (.int f3), .val (.int s12), .val (.int e1), .unset, .unset, .unset] [(.int f1), (.int f3)])) _
        by_cases hm189_55 : f3 = f1
        · try rw [if_pos hm189_55] at kK
          refine XS.icmpNo X40.here hx rfl (hb hby at_189) rfl (teq hm189_55).2 ?_
          refine XS.iload X40.here hx rfl (hb hby at_192) rfl ?_
          show Steps p.tables e below (T40.setTop (mkF m 194 #[.val (.int z0), .val (.int c1), .val (.int c2), .val (.int c3), .val (.int v1), .val (.int v2), .val (.int w_), .val (.ref b1), .val (.int (0 : Int32)), .val (.int (1 : Int32)), .val (.int ((1 : Int32) + (1 : Int32))), .val (.int r1), .val (.int f1), .val (.int r2), .val (.int f2), .val (.int r3), .val (.int f3), .val (.int s12), .val (.int e1), .unset, .unset, .unset] [(.int v1)])) _
          refine XS.istore X40.here hx rfl (hb hby at_194) rfl (l' := #[.val (.int z0), .val (.int c1), .val (.int c2), .val (.int c3), .val (.int v1), .val (.int v2), .val (.int w_), .val (.ref b1), .val (.int (0 : Int32)), .val (.int (1 : Int32)), .val (.int ((1 : Int32) + (1 : Int32))), .val (.int r1), .val (.int f1), .val (.int r2), .val (.int f2), .val (.int r3), .val (.int f3), .val (.int s12), .val (.int e1), .val (.int v1), .unset, .unset]) rfl ?_
          show Steps p.tables e below (T40.setTop (mkF m 196 #[.val (.int z0), .val (.int c1), .val (.int c2), .val (.int c3), .val (.int v1), .val (.int v2), .val (.int w_), .val (.ref b1), .val (.int (0 : Int32)), .val (.int (1 : Int32)), .val (.int ((1 : Int32) + (1 : Int32))), .val (.int r1), .val (.int f1), .val (.int r2), .val (.int f2), .val (.int r3), .val (.int f3), .val (.int s12), .val (.int e1), .val (.int v1), .unset, .unset] [])) _
          refine XS.goto X40.here hx rfl (pc0 := 196) (pc' := 202) rfl (hb hby at_196) (by decide) (by decide) ?_
          show Steps p.tables e below (T40.setTop (mkF m 202 #[.val (.int z0), .val (.int c1), .val (.int c2), .val (.int c3), .val (.int v1), .val (.int v2), .val (.int w_), .val (.ref b1), .val (.int (0 : Int32)), .val (.int (1 : Int32)), .val (.int ((1 : Int32) + (1 : Int32))), .val (.int r1), .val (.int f1), .val (.int r2), .val (.int f2), .val (.int r3), .val (.int f3), .val (.int s12), .val (.int e1), .val (.int v1), .unset, .unset] [])) _
          exact kK
        · try rw [if_neg hm189_55] at kK
          refine XS.icmpYes X40.here hx rfl (pc0 := 189) (pc' := 199) rfl (hb hby at_189) rfl (feq hm189_55).2 (by decide) (by decide) ?_
          refine XS.iconst X40.here hx rfl (hb hby at_199) ?_
          show Steps p.tables e below (T40.setTop (mkF m 200 #[.val (.int z0), .val (.int c1), .val (.int c2), .val (.int c3), .val (.int v1), .val (.int v2), .val (.int w_), .val (.ref b1), .val (.int (0 : Int32)), .val (.int (1 : Int32)), .val (.int ((1 : Int32) + (1 : Int32))), .val (.int r1), .val (.int f1), .val (.int r2), .val (.int f2), .val (.int r3), .val (.int f3), .val (.int s12), .val (.int e1), .unset, .unset, .unset] [(.int (0 : Int32))])) _
          refine XS.istore X40.here hx rfl (hb hby at_200) rfl (l' := #[.val (.int z0), .val (.int c1), .val (.int c2), .val (.int c3), .val (.int v1), .val (.int v2), .val (.int w_), .val (.ref b1), .val (.int (0 : Int32)), .val (.int (1 : Int32)), .val (.int ((1 : Int32) + (1 : Int32))), .val (.int r1), .val (.int f1), .val (.int r2), .val (.int f2), .val (.int r3), .val (.int f3), .val (.int s12), .val (.int e1), .val (.int (0 : Int32)), .unset, .unset]) rfl ?_
          show Steps p.tables e below (T40.setTop (mkF m 202 #[.val (.int z0), .val (.int c1), .val (.int c2), .val (.int c3), .val (.int v1), .val (.int v2), .val (.int w_), .val (.ref b1), .val (.int (0 : Int32)), .val (.int (1 : Int32)), .val (.int ((1 : Int32) + (1 : Int32))), .val (.int r1), .val (.int f1), .val (.int r2), .val (.int f2), .val (.int r3), .val (.int f3), .val (.int s12), .val (.int e1), .val (.int (0 : Int32)), .unset, .unset] [])) _
          exact kK
      · try rw [if_neg hm182_54] at kK
        refine XS.icmpYes X40.here hx rfl (pc0 := 182) (pc' := 199) rfl (hb hby at_182) rfl (feq hm182_54).2 (by decide) (by decide) ?_
        refine XS.iconst X40.here hx rfl (hb hby at_199) ?_
        show Steps p.tables e below (T40.setTop (mkF m 200 #[.val (.int z0), .val (.int c1), .val (.int c2), .val (.int c3), .val (.int v1), .val (.int v2), .val (.int w_), .val (.ref b1), .val (.int (0 : Int32)), .val (.int (1 : Int32)), .val (.int ((1 : Int32) + (1 : Int32))), .val (.int r1), .val (.int f1), .val (.int r2), .val (.int f2), .val (.int r3), .val (.int f3), .val (.int s12), .val (.int e1), .unset, .unset, .unset] [(.int (0 : Int32))])) _
        refine XS.istore X40.here hx rfl (hb hby at_200) rfl (l' := #[.val (.int z0), .val (.int c1), .val (.int c2), .val (.int c3), .val (.int v1), .val (.int v2), .val (.int w_), .val (.ref b1), .val (.int (0 : Int32)), .val (.int (1 : Int32)), .val (.int ((1 : Int32) + (1 : Int32))), .val (.int r1), .val (.int f1), .val (.int r2), .val (.int f2), .val (.int r3), .val (.int f3), .val (.int s12), .val (.int e1), .val (.int (0 : Int32)), .unset, .unset]) rfl ?_
        show Steps p.tables e below (T40.setTop (mkF m 202 #[.val (.int z0), .val (.int c1), .val (.int c2), .val (.int c3), .val (.int v1), .val (.int v2), .val (.int w_), .val (.ref b1), .val (.int (0 : Int32)), .val (.int (1 : Int32)), .val (.int ((1 : Int32) + (1 : Int32))), .val (.int r1), .val (.int f1), .val (.int r2), .val (.int f2), .val (.int r3), .val (.int f3), .val (.int s12), .val (.int e1), .val (.int (0 : Int32)), .unset, .unset] [])) _
        exact kK
  show OGo p e below _ (T40.setTop (mkF m 202 #[.val (.int z0), .val (.int c1), .val (.int c2), .val (.int c3), .val (.int v1), .val (.int v2), .val (.int w_), .val (.ref b1), .val (.int (0 : Int32)), .val (.int (1 : Int32)), .val (.int ((1 : Int32) + (1 : Int32))), .val (.int r1), .val (.int f1), .val (.int r2), .val (.int f2), .val (.int r3), .val (.int f3), .val (.int s12), .val (.int e1), .val (.int (if r3 = r2 then (if f3 = f2 then v2 else (if r3 = r1 then (if f3 = f1 then v1 else (0 : Int32)) else (0 : Int32))) else (if r3 = r1 then (if f3 = f1 then v1 else (0 : Int32)) else (0 : Int32)))), .unset, .unset] []))
  obtain ⟨e3, ev_e3⟩ : ∃ z : Int32, z = (if r3 = r2 then (if f3 = f2 then v2 else (if r3 = r1 then (if f3 = f1 then v1 else (0 : Int32)) else (0 : Int32))) else (if r3 = r1 then (if f3 = f1 then v1 else (0 : Int32)) else (0 : Int32))) := ⟨_, rfl⟩
  rw [← ev_e3]
  show OGo p e below _ (T40.setTop (mkF m 202 #[.val (.int z0), .val (.int c1), .val (.int c2), .val (.int c3), .val (.int v1), .val (.int v2), .val (.int w_), .val (.ref b1), .val (.int (0 : Int32)), .val (.int (1 : Int32)), .val (.int ((1 : Int32) + (1 : Int32))), .val (.int r1), .val (.int f1), .val (.int r2), .val (.int f2), .val (.int r3), .val (.int f3), .val (.int s12), .val (.int e1), .val (.int e3), .unset, .unset] []))
  refine OGo.step (fun uK kK => XS.aload X40.here hx rfl (hb hby at_202) rfl rfl kK) ?_
  show OGo p e below _ (T40.setTop (mkF m 204 #[.val (.int z0), .val (.int c1), .val (.int c2), .val (.int c3), .val (.int v1), .val (.int v2), .val (.int w_), .val (.ref b1), .val (.int (0 : Int32)), .val (.int (1 : Int32)), .val (.int ((1 : Int32) + (1 : Int32))), .val (.int r1), .val (.int f1), .val (.int r2), .val (.int f2), .val (.int r3), .val (.int f3), .val (.int s12), .val (.int e1), .val (.int e3), .unset, .unset] [(.ref b1)]))
  refine OGo.step (fun uK kK => XS.iload X40.here hx rfl (hb hby at_204) rfl kK) ?_
  show OGo p e below _ (T40.setTop (mkF m 206 #[.val (.int z0), .val (.int c1), .val (.int c2), .val (.int c3), .val (.int v1), .val (.int v2), .val (.int w_), .val (.ref b1), .val (.int (0 : Int32)), .val (.int (1 : Int32)), .val (.int ((1 : Int32) + (1 : Int32))), .val (.int r1), .val (.int f1), .val (.int r2), .val (.int f2), .val (.int r3), .val (.int f3), .val (.int s12), .val (.int e1), .val (.int e3), .unset, .unset] [(.int r1), (.ref b1)]))
  refine OGo.step (fun uK kK => XS.iload X40.here hx rfl (hb hby at_206) rfl kK) ?_
  show OGo p e below _ (T40.setTop (mkF m 208 #[.val (.int z0), .val (.int c1), .val (.int c2), .val (.int c3), .val (.int v1), .val (.int v2), .val (.int w_), .val (.ref b1), .val (.int (0 : Int32)), .val (.int (1 : Int32)), .val (.int ((1 : Int32) + (1 : Int32))), .val (.int r1), .val (.int f1), .val (.int r2), .val (.int f2), .val (.int r3), .val (.int f3), .val (.int s12), .val (.int e1), .val (.int e3), .unset, .unset] [(.int f1), (.int r1), (.ref b1)]))
  obtain ⟨cq56, kq56, q56a, q56b, q56c⟩ := isOf hZ rfl A1_41
  obtain ⟨_, _, ⟨T56, Lq56, kq_56, nq_56⟩, -, X56, ⟨Lc56, hQ56, lq56, yq56, zq56⟩, st56⟩ := X40.virtualBack hx (y := (⟨"com/example/hitung/hitung/IntChunks", "get", "(II)I"⟩ : MethodName)) (z := (⟨"com/example/hitung/hitung/IntChunks", "get", "(II)I"⟩ : MethodName)) hown (mvT hZ (hw _ (List.mem_of_getElem? (i := 38) rfl))) (mvT hZ (hw _ (List.mem_of_getElem? (i := 39) rfl))) (notFace_of_selects (args := #[]) (mvT hZ (hw _ (List.mem_of_getElem? (i := 41) rfl)))) (mvT hZ (hw _ (List.mem_of_getElem? (i := 41) rfl))) (mvT hZ (hw _ (List.mem_of_getElem? (i := 40) rfl))) (by decide) (backOf (W := 0) (rmg l Z a0 hw [] b1 r1 f1 w_ aC kc aI kI (((((r2 &&& (4095 : Int32)) * w_) + f2), .int v2) :: (((((r1 &&& (4095 : Int32)) * w_) + f1), .int v1) :: [])) (gv (((r2 &&& (4095 : Int32)) * w_) + f2) v2 (((r1 &&& (4095 : Int32)) * w_) + f1) v1 (((r1 &&& (4095 : Int32)) * w_) + f1)) T40.heap n0 ZS40 Fc20_43 Fw20_44 Vc7_42 Vi40 (own_hz r1 hr1) (own_jx w_ r1 f1 hW hr1 hf1).2 (own_getH (own_jx w_ r1 f1 hW hr1 hf1).2.1)) hZ (hw _ (List.mem_of_getElem? (i := 42) rfl)) (hw _ (List.mem_of_getElem? (i := 2) rfl)) (by decide) (by decide)) q56a q56c (g := (mkF m 208 #[.val (.int z0), .val (.int c1), .val (.int c2), .val (.int c3), .val (.int v1), .val (.int v2), .val (.int w_), .val (.ref b1), .val (.int (0 : Int32)), .val (.int (1 : Int32)), .val (.int ((1 : Int32) + (1 : Int32))), .val (.int r1), .val (.int f1), .val (.int r2), .val (.int f2), .val (.int r3), .val (.int f3), .val (.int s12), .val (.int e1), .val (.int e3), .unset, .unset] [(.int f1), (.int r1), (.ref b1)])) rfl (by rw [hml]; rfl) (Steps.refl _) (argsL := [(.int r1), (.int f1)]) (rest := []) (lenOf pd0_3 rfl) rfl (by show 2 * 0 + _ ≤ _; exact Nat.le_of_eq rfl) (hb hby at_208) (fun _ _ => ⟨rfl, rfl, (by decide : 3 + 0 ≤ _), (by decide : 36 + 0 ≤ _)⟩)
  dsimp only [Pt.U, Pt.locs, Pt.cells, Pt.slots] at X56 lq56 yq56 zq56 st56 hQ56
  subst lq56 yq56 zq56
  obtain ⟨rfl, Nq56, e56⟩ := hQ56
  have N56 := Fr.app N40 Nq56
  refine OGo.steps st56 ?_
  show OGo p e below _ (T56.setTop (mkF m 211 #[.val (.int z0), .val (.int c1), .val (.int c2), .val (.int c3), .val (.int v1), .val (.int v2), .val (.int w_), .val (.ref b1), .val (.int (0 : Int32)), .val (.int (1 : Int32)), .val (.int ((1 : Int32) + (1 : Int32))), .val (.int r1), .val (.int f1), .val (.int r2), .val (.int f2), .val (.int r3), .val (.int f3), .val (.int s12), .val (.int e1), .val (.int e3), .unset, .unset] [(.int (gv (((r2 &&& (4095 : Int32)) * w_) + f2) v2 (((r1 &&& (4095 : Int32)) * w_) + f1) v1 (((r1 &&& (4095 : Int32)) * w_) + f1)))]))
  refine OGo.step (fun uK kK => XS.istore X56.here hx rfl (hb hby at_211) rfl (l' := #[.val (.int z0), .val (.int c1), .val (.int c2), .val (.int c3), .val (.int v1), .val (.int v2), .val (.int w_), .val (.ref b1), .val (.int (0 : Int32)), .val (.int (1 : Int32)), .val (.int ((1 : Int32) + (1 : Int32))), .val (.int r1), .val (.int f1), .val (.int r2), .val (.int f2), .val (.int r3), .val (.int f3), .val (.int s12), .val (.int e1), .val (.int e3), .val (.int (gv (((r2 &&& (4095 : Int32)) * w_) + f2) v2 (((r1 &&& (4095 : Int32)) * w_) + f1) v1 (((r1 &&& (4095 : Int32)) * w_) + f1))), .unset]) rfl kK) ?_
  show OGo p e below _ (T56.setTop (mkF m 213 #[.val (.int z0), .val (.int c1), .val (.int c2), .val (.int c3), .val (.int v1), .val (.int v2), .val (.int w_), .val (.ref b1), .val (.int (0 : Int32)), .val (.int (1 : Int32)), .val (.int ((1 : Int32) + (1 : Int32))), .val (.int r1), .val (.int f1), .val (.int r2), .val (.int f2), .val (.int r3), .val (.int f3), .val (.int s12), .val (.int e1), .val (.int e3), .val (.int (gv (((r2 &&& (4095 : Int32)) * w_) + f2) v2 (((r1 &&& (4095 : Int32)) * w_) + f1) v1 (((r1 &&& (4095 : Int32)) * w_) + f1))), .unset] []))
  refine OGo.step (fun uK kK => XS.aload X56.here hx rfl (hb hby at_213) rfl rfl kK) ?_
  show OGo p e below _ (T56.setTop (mkF m 215 #[.val (.int z0), .val (.int c1), .val (.int c2), .val (.int c3), .val (.int v1), .val (.int v2), .val (.int w_), .val (.ref b1), .val (.int (0 : Int32)), .val (.int (1 : Int32)), .val (.int ((1 : Int32) + (1 : Int32))), .val (.int r1), .val (.int f1), .val (.int r2), .val (.int f2), .val (.int r3), .val (.int f3), .val (.int s12), .val (.int e1), .val (.int e3), .val (.int (gv (((r2 &&& (4095 : Int32)) * w_) + f2) v2 (((r1 &&& (4095 : Int32)) * w_) + f1) v1 (((r1 &&& (4095 : Int32)) * w_) + f1))), .unset] [(.ref b1)]))
  refine OGo.step (fun uK kK => XS.iload X56.here hx rfl (hb hby at_215) rfl kK) ?_
  show OGo p e below _ (T56.setTop (mkF m 217 #[.val (.int z0), .val (.int c1), .val (.int c2), .val (.int c3), .val (.int v1), .val (.int v2), .val (.int w_), .val (.ref b1), .val (.int (0 : Int32)), .val (.int (1 : Int32)), .val (.int ((1 : Int32) + (1 : Int32))), .val (.int r1), .val (.int f1), .val (.int r2), .val (.int f2), .val (.int r3), .val (.int f3), .val (.int s12), .val (.int e1), .val (.int e3), .val (.int (gv (((r2 &&& (4095 : Int32)) * w_) + f2) v2 (((r1 &&& (4095 : Int32)) * w_) + f1) v1 (((r1 &&& (4095 : Int32)) * w_) + f1))), .unset] [(.int r3), (.ref b1)]))
  refine OGo.step (fun uK kK => XS.iload X56.here hx rfl (hb hby at_217) rfl kK) ?_
  show OGo p e below _ (T56.setTop (mkF m 219 #[.val (.int z0), .val (.int c1), .val (.int c2), .val (.int c3), .val (.int v1), .val (.int v2), .val (.int w_), .val (.ref b1), .val (.int (0 : Int32)), .val (.int (1 : Int32)), .val (.int ((1 : Int32) + (1 : Int32))), .val (.int r1), .val (.int f1), .val (.int r2), .val (.int f2), .val (.int r3), .val (.int f3), .val (.int s12), .val (.int e1), .val (.int e3), .val (.int (gv (((r2 &&& (4095 : Int32)) * w_) + f2) v2 (((r1 &&& (4095 : Int32)) * w_) + f1) v1 (((r1 &&& (4095 : Int32)) * w_) + f1))), .unset] [(.int f3), (.int r3), (.ref b1)]))
  obtain ⟨cq57, kq57, q57a, q57b, q57c⟩ := isOf hZ e56 A1_41
  obtain ⟨_, _, ⟨T57, Lq57, kq_57, nq_57⟩, -, X57, ⟨Lc57, hQ57, lq57, yq57, zq57⟩, st57⟩ := X56.virtualBack hx (y := (⟨"com/example/hitung/hitung/IntChunks", "get", "(II)I"⟩ : MethodName)) (z := (⟨"com/example/hitung/hitung/IntChunks", "get", "(II)I"⟩ : MethodName)) hown (mvT hZ (hw _ (List.mem_of_getElem? (i := 38) rfl))) (mvT hZ (hw _ (List.mem_of_getElem? (i := 39) rfl))) (notFace_of_selects (args := #[]) (mvT hZ (hw _ (List.mem_of_getElem? (i := 41) rfl)))) (mvT hZ (hw _ (List.mem_of_getElem? (i := 41) rfl))) (mvT hZ (hw _ (List.mem_of_getElem? (i := 40) rfl))) (by decide) (backOf (W := 0) (rmg l Z a0 hw [] b1 r3 f3 w_ aC kc aI kI (((((r2 &&& (4095 : Int32)) * w_) + f2), .int v2) :: (((((r1 &&& (4095 : Int32)) * w_) + f1), .int v1) :: [])) (gv (((r2 &&& (4095 : Int32)) * w_) + f2) v2 (((r1 &&& (4095 : Int32)) * w_) + f1) v1 (((r3 &&& (4095 : Int32)) * w_) + f3)) T40.heap n0 ZS40 Fc20_43 Fw20_44 Vc7_42 Vi40 (own_hz r3 hr3) (own_jx w_ r3 f3 hW hr3 hf3).2 (own_getH (own_jx w_ r3 f3 hW hr3 hf3).2.1)) hZ (hw _ (List.mem_of_getElem? (i := 42) rfl)) (hw _ (List.mem_of_getElem? (i := 2) rfl)) (by decide) (by decide)) q57a q57c (g := (mkF m 219 #[.val (.int z0), .val (.int c1), .val (.int c2), .val (.int c3), .val (.int v1), .val (.int v2), .val (.int w_), .val (.ref b1), .val (.int (0 : Int32)), .val (.int (1 : Int32)), .val (.int ((1 : Int32) + (1 : Int32))), .val (.int r1), .val (.int f1), .val (.int r2), .val (.int f2), .val (.int r3), .val (.int f3), .val (.int s12), .val (.int e1), .val (.int e3), .val (.int (gv (((r2 &&& (4095 : Int32)) * w_) + f2) v2 (((r1 &&& (4095 : Int32)) * w_) + f1) v1 (((r1 &&& (4095 : Int32)) * w_) + f1))), .unset] [(.int f3), (.int r3), (.ref b1)])) rfl (by rw [hml]; rfl) (Steps.refl _) (argsL := [(.int r3), (.int f3)]) (rest := []) (lenOf pd0_3 rfl) rfl (by show 2 * 0 + _ ≤ _; exact Nat.le_of_eq rfl) (hb hby at_219) (fun _ _ => ⟨rfl, e56, (by decide : 3 + 0 ≤ _), (by decide : 36 + 0 ≤ _)⟩)
  dsimp only [Pt.U, Pt.locs, Pt.cells, Pt.slots] at X57 lq57 yq57 zq57 st57 hQ57
  subst lq57 yq57 zq57
  obtain ⟨rfl, Nq57, e57⟩ := hQ57
  have N57 := Fr.app N56 Nq57
  refine OGo.steps st57 ?_
  show OGo p e below _ (T57.setTop (mkF m 222 #[.val (.int z0), .val (.int c1), .val (.int c2), .val (.int c3), .val (.int v1), .val (.int v2), .val (.int w_), .val (.ref b1), .val (.int (0 : Int32)), .val (.int (1 : Int32)), .val (.int ((1 : Int32) + (1 : Int32))), .val (.int r1), .val (.int f1), .val (.int r2), .val (.int f2), .val (.int r3), .val (.int f3), .val (.int s12), .val (.int e1), .val (.int e3), .val (.int (gv (((r2 &&& (4095 : Int32)) * w_) + f2) v2 (((r1 &&& (4095 : Int32)) * w_) + f1) v1 (((r1 &&& (4095 : Int32)) * w_) + f1))), .unset] [(.int (gv (((r2 &&& (4095 : Int32)) * w_) + f2) v2 (((r1 &&& (4095 : Int32)) * w_) + f1) v1 (((r3 &&& (4095 : Int32)) * w_) + f3)))]))
  refine OGo.step (fun uK kK => XS.istore X57.here hx rfl (hb hby at_222) rfl (l' := #[.val (.int z0), .val (.int c1), .val (.int c2), .val (.int c3), .val (.int v1), .val (.int v2), .val (.int w_), .val (.ref b1), .val (.int (0 : Int32)), .val (.int (1 : Int32)), .val (.int ((1 : Int32) + (1 : Int32))), .val (.int r1), .val (.int f1), .val (.int r2), .val (.int f2), .val (.int r3), .val (.int f3), .val (.int s12), .val (.int e1), .val (.int e3), .val (.int (gv (((r2 &&& (4095 : Int32)) * w_) + f2) v2 (((r1 &&& (4095 : Int32)) * w_) + f1) v1 (((r1 &&& (4095 : Int32)) * w_) + f1))), .val (.int (gv (((r2 &&& (4095 : Int32)) * w_) + f2) v2 (((r1 &&& (4095 : Int32)) * w_) + f1) v1 (((r3 &&& (4095 : Int32)) * w_) + f3)))]) rfl kK) ?_
  show OGo p e below _ (T57.setTop (mkF m 224 #[.val (.int z0), .val (.int c1), .val (.int c2), .val (.int c3), .val (.int v1), .val (.int v2), .val (.int w_), .val (.ref b1), .val (.int (0 : Int32)), .val (.int (1 : Int32)), .val (.int ((1 : Int32) + (1 : Int32))), .val (.int r1), .val (.int f1), .val (.int r2), .val (.int f2), .val (.int r3), .val (.int f3), .val (.int s12), .val (.int e1), .val (.int e3), .val (.int (gv (((r2 &&& (4095 : Int32)) * w_) + f2) v2 (((r1 &&& (4095 : Int32)) * w_) + f1) v1 (((r1 &&& (4095 : Int32)) * w_) + f1))), .val (.int (gv (((r2 &&& (4095 : Int32)) * w_) + f2) v2 (((r1 &&& (4095 : Int32)) * w_) + f1) v1 (((r3 &&& (4095 : Int32)) * w_) + f3)))] []))
  refine OGo.step (fun uK kK => XS.iload X57.here hx rfl (hb hby at_224) rfl kK) ?_
  show OGo p e below _ (T57.setTop (mkF m 226 #[.val (.int z0), .val (.int c1), .val (.int c2), .val (.int c3), .val (.int v1), .val (.int v2), .val (.int w_), .val (.ref b1), .val (.int (0 : Int32)), .val (.int (1 : Int32)), .val (.int ((1 : Int32) + (1 : Int32))), .val (.int r1), .val (.int f1), .val (.int r2), .val (.int f2), .val (.int r3), .val (.int f3), .val (.int s12), .val (.int e1), .val (.int e3), .val (.int (gv (((r2 &&& (4095 : Int32)) * w_) + f2) v2 (((r1 &&& (4095 : Int32)) * w_) + f1) v1 (((r1 &&& (4095 : Int32)) * w_) + f1))), .val (.int (gv (((r2 &&& (4095 : Int32)) * w_) + f2) v2 (((r1 &&& (4095 : Int32)) * w_) + f1) v1 (((r3 &&& (4095 : Int32)) * w_) + f3)))] [(.int (gv (((r2 &&& (4095 : Int32)) * w_) + f2) v2 (((r1 &&& (4095 : Int32)) * w_) + f1) v1 (((r1 &&& (4095 : Int32)) * w_) + f1)))]))
  refine OGo.step (fun uK kK => XS.iload X57.here hx rfl (hb hby at_226) rfl kK) ?_
  show OGo p e below _ (T57.setTop (mkF m 228 #[.val (.int z0), .val (.int c1), .val (.int c2), .val (.int c3), .val (.int v1), .val (.int v2), .val (.int w_), .val (.ref b1), .val (.int (0 : Int32)), .val (.int (1 : Int32)), .val (.int ((1 : Int32) + (1 : Int32))), .val (.int r1), .val (.int f1), .val (.int r2), .val (.int f2), .val (.int r3), .val (.int f3), .val (.int s12), .val (.int e1), .val (.int e3), .val (.int (gv (((r2 &&& (4095 : Int32)) * w_) + f2) v2 (((r1 &&& (4095 : Int32)) * w_) + f1) v1 (((r1 &&& (4095 : Int32)) * w_) + f1))), .val (.int (gv (((r2 &&& (4095 : Int32)) * w_) + f2) v2 (((r1 &&& (4095 : Int32)) * w_) + f1) v1 (((r3 &&& (4095 : Int32)) * w_) + f3)))] [(.int e1), (.int (gv (((r2 &&& (4095 : Int32)) * w_) + f2) v2 (((r1 &&& (4095 : Int32)) * w_) + f1) v1 (((r1 &&& (4095 : Int32)) * w_) + f1)))]))
  have hc228 : (gv (((r2 &&& (4095 : Int32)) * w_) + f2) v2 (((r1 &&& (4095 : Int32)) * w_) + f1) v1 (((r1 &&& (4095 : Int32)) * w_) + f1)) = e1 := by rw [ev_e1]; exact own_e1 w_ r1 f1 r2 f2 v1 v2 s12 hW hr1 hf1 hr2 hf2 ev_s12
  refine OGo.step (fun uK kK => XS.icmpNo X57.here hx rfl (hb hby at_228) rfl (teq hc228).2 kK) ?_
  show OGo p e below _ (T57.setTop (mkF m 231 #[.val (.int z0), .val (.int c1), .val (.int c2), .val (.int c3), .val (.int v1), .val (.int v2), .val (.int w_), .val (.ref b1), .val (.int (0 : Int32)), .val (.int (1 : Int32)), .val (.int ((1 : Int32) + (1 : Int32))), .val (.int r1), .val (.int f1), .val (.int r2), .val (.int f2), .val (.int r3), .val (.int f3), .val (.int s12), .val (.int e1), .val (.int e3), .val (.int (gv (((r2 &&& (4095 : Int32)) * w_) + f2) v2 (((r1 &&& (4095 : Int32)) * w_) + f1) v1 (((r1 &&& (4095 : Int32)) * w_) + f1))), .val (.int (gv (((r2 &&& (4095 : Int32)) * w_) + f2) v2 (((r1 &&& (4095 : Int32)) * w_) + f1) v1 (((r3 &&& (4095 : Int32)) * w_) + f3)))] []))
  refine OGo.step (fun uK kK => XS.iload X57.here hx rfl (hb hby at_231) rfl kK) ?_
  show OGo p e below _ (T57.setTop (mkF m 233 #[.val (.int z0), .val (.int c1), .val (.int c2), .val (.int c3), .val (.int v1), .val (.int v2), .val (.int w_), .val (.ref b1), .val (.int (0 : Int32)), .val (.int (1 : Int32)), .val (.int ((1 : Int32) + (1 : Int32))), .val (.int r1), .val (.int f1), .val (.int r2), .val (.int f2), .val (.int r3), .val (.int f3), .val (.int s12), .val (.int e1), .val (.int e3), .val (.int (gv (((r2 &&& (4095 : Int32)) * w_) + f2) v2 (((r1 &&& (4095 : Int32)) * w_) + f1) v1 (((r1 &&& (4095 : Int32)) * w_) + f1))), .val (.int (gv (((r2 &&& (4095 : Int32)) * w_) + f2) v2 (((r1 &&& (4095 : Int32)) * w_) + f1) v1 (((r3 &&& (4095 : Int32)) * w_) + f3)))] [(.int (gv (((r2 &&& (4095 : Int32)) * w_) + f2) v2 (((r1 &&& (4095 : Int32)) * w_) + f1) v1 (((r3 &&& (4095 : Int32)) * w_) + f3)))]))
  refine OGo.step (fun uK kK => XS.iload X57.here hx rfl (hb hby at_233) rfl kK) ?_
  show OGo p e below _ (T57.setTop (mkF m 235 #[.val (.int z0), .val (.int c1), .val (.int c2), .val (.int c3), .val (.int v1), .val (.int v2), .val (.int w_), .val (.ref b1), .val (.int (0 : Int32)), .val (.int (1 : Int32)), .val (.int ((1 : Int32) + (1 : Int32))), .val (.int r1), .val (.int f1), .val (.int r2), .val (.int f2), .val (.int r3), .val (.int f3), .val (.int s12), .val (.int e1), .val (.int e3), .val (.int (gv (((r2 &&& (4095 : Int32)) * w_) + f2) v2 (((r1 &&& (4095 : Int32)) * w_) + f1) v1 (((r1 &&& (4095 : Int32)) * w_) + f1))), .val (.int (gv (((r2 &&& (4095 : Int32)) * w_) + f2) v2 (((r1 &&& (4095 : Int32)) * w_) + f1) v1 (((r3 &&& (4095 : Int32)) * w_) + f3)))] [(.int e3), (.int (gv (((r2 &&& (4095 : Int32)) * w_) + f2) v2 (((r1 &&& (4095 : Int32)) * w_) + f1) v1 (((r3 &&& (4095 : Int32)) * w_) + f3)))]))
  have hc235 : (gv (((r2 &&& (4095 : Int32)) * w_) + f2) v2 (((r1 &&& (4095 : Int32)) * w_) + f1) v1 (((r3 &&& (4095 : Int32)) * w_) + f3)) = e3 := by rw [ev_e3]; exact own_e3 w_ r1 f1 r2 f2 r3 f3 v1 v2 hW hr1 hf1 hr2 hf2 hr3 hf3
  refine OGo.step (fun uK kK => XS.icmpNo X57.here hx rfl (hb hby at_235) rfl (teq hc235).2 kK) ?_
  show OGo p e below _ (T57.setTop (mkF m 238 #[.val (.int z0), .val (.int c1), .val (.int c2), .val (.int c3), .val (.int v1), .val (.int v2), .val (.int w_), .val (.ref b1), .val (.int (0 : Int32)), .val (.int (1 : Int32)), .val (.int ((1 : Int32) + (1 : Int32))), .val (.int r1), .val (.int f1), .val (.int r2), .val (.int f2), .val (.int r3), .val (.int f3), .val (.int s12), .val (.int e1), .val (.int e3), .val (.int (gv (((r2 &&& (4095 : Int32)) * w_) + f2) v2 (((r1 &&& (4095 : Int32)) * w_) + f1) v1 (((r1 &&& (4095 : Int32)) * w_) + f1))), .val (.int (gv (((r2 &&& (4095 : Int32)) * w_) + f2) v2 (((r1 &&& (4095 : Int32)) * w_) + f1) v1 (((r3 &&& (4095 : Int32)) * w_) + f3)))] []))
  refine OGo.step (fun uK kK => XS.iconst X57.here hx rfl (hb hby at_238) kK) ?_
  show OGo p e below _ (T57.setTop (mkF m 239 #[.val (.int z0), .val (.int c1), .val (.int c2), .val (.int c3), .val (.int v1), .val (.int v2), .val (.int w_), .val (.ref b1), .val (.int (0 : Int32)), .val (.int (1 : Int32)), .val (.int ((1 : Int32) + (1 : Int32))), .val (.int r1), .val (.int f1), .val (.int r2), .val (.int f2), .val (.int r3), .val (.int f3), .val (.int s12), .val (.int e1), .val (.int e3), .val (.int (gv (((r2 &&& (4095 : Int32)) * w_) + f2) v2 (((r1 &&& (4095 : Int32)) * w_) + f1) v1 (((r1 &&& (4095 : Int32)) * w_) + f1))), .val (.int (gv (((r2 &&& (4095 : Int32)) * w_) + f2) v2 (((r1 &&& (4095 : Int32)) * w_) + f1) v1 (((r3 &&& (4095 : Int32)) * w_) + f3)))] [(.int (1 : Int32))]))
  refine OGo.step (fun uK kK => XS.goto X57.here hx rfl (pc0 := 239) (pc' := 243) rfl (hb hby at_239) (by decide) (by decide) kK) ?_
  show OGo p e below _ (T57.setTop (mkF m 243 #[.val (.int z0), .val (.int c1), .val (.int c2), .val (.int c3), .val (.int v1), .val (.int v2), .val (.int w_), .val (.ref b1), .val (.int (0 : Int32)), .val (.int (1 : Int32)), .val (.int ((1 : Int32) + (1 : Int32))), .val (.int r1), .val (.int f1), .val (.int r2), .val (.int f2), .val (.int r3), .val (.int f3), .val (.int s12), .val (.int e1), .val (.int e3), .val (.int (gv (((r2 &&& (4095 : Int32)) * w_) + f2) v2 (((r1 &&& (4095 : Int32)) * w_) + f1) v1 (((r1 &&& (4095 : Int32)) * w_) + f1))), .val (.int (gv (((r2 &&& (4095 : Int32)) * w_) + f2) v2 (((r1 &&& (4095 : Int32)) * w_) + f1) v1 (((r3 &&& (4095 : Int32)) * w_) + f3)))] [(.int (1 : Int32))]))
  exact OGo.retN X57 hx Bd.notSynchronized (t := .boolean) Bd.returns (by simp) (hb hby at_243) (by decide) (by decide) (by show Q0 Z z0 c1 c2 c3 v1 v2 h0 n0 _ T57.heap _; rw [e57]; exact ⟨rfl, N57⟩)
set_option maxRecDepth 65536 in
set_option maxHeartbeats 40000000 in
theorem comes_1 {Post : Tables → Env → Array Value → State → Outcome → State → Prop} (hpost : ∀ tb e args s v u, (limb_1_1.after args s (.returned v) u = true ∧ limb_1_2.after args s (.returned v) u = true ∧ True) → FrameEnd s (.returned v) u (Jvm.fieldLocs frame_1_writes args s ++ Jvm.arrayLocs frame_1_arrays args s ++ Jvm.staticLocs frame_1_statics s) 16 192 → Post tb e args s (.returned v) u) :
    ArmFor flags0 classFile x code maxLocals ret World_1 tables_1 room_1 Calls_1 rest_1 Pre_1 Post := by
  intro l hfl _ _ p e ha hc hk s m args below hf hA hF happ hP
  obtain ⟨hcalls, hrest, hpre⟩ := hP
  obtain ⟨-, -, -, hnamed, -, -, -, hat⟩ := (Spec.applies_iff hf).mp happ
  obtain ⟨hg, hn⟩ := and_e (Cond.before_iff.mp (show (Jvm.Cond.and given_1 narrow_1).before args s = true from hpre))
  obtain ⟨hcount, hg0⟩ := and_e hg
  obtain ⟨ga0, hg1⟩ := and_e hg0
  obtain ⟨ga1, hg2⟩ := and_e hg1
  obtain ⟨ga2, hg3⟩ := and_e hg2
  obtain ⟨ga3, hg4⟩ := and_e hg3
  obtain ⟨ga4, hg5⟩ := and_e hg4
  have ga5 := hg5
  obtain ⟨w0, w1, w2, w3, w4, w5, rfl⟩ : ∃ w0 w1 w2 w3 w4 w5 : Value, args = #[w0, w1, w2, w3, w4, w5] := by
    have hs : args.size = 6 := by simpa [Cond.value, given_1] using hcount
    obtain ⟨L⟩ := args
    match L, hs with
    | [w0, w1, w2, w3, w4, w5], _ => exact ⟨w0, w1, w2, w3, w4, w5, rfl⟩
  have hw := fun d (hd : d ∈ tables_1) => atoms_spec (ws := Jvm.Cond.code x code maxLocals ret :: tables_1) hat d (List.mem_cons_of_mem _ hd)
  have hfit : Fit s := fun {y c} hc i hi => by
    obtain ⟨ha, rfl⟩ := Array.getElem?_eq_some_iff.mp hc
    have q := List.all_eq_true.mp ((Array.all_eq_true_iff_forall_mem.mp hF) _ (Array.getElem_mem ha)) i (List.mem_range.mpr hi)
    simpa [Array.getElem?_eq_getElem hi] using q
  obtain ⟨i0, ei0⟩ := is_v ga0
  obtain rfl : w0 = (.int i0) := Option.some.inj ei0
  obtain ⟨i1, ei1⟩ := is_v ga1
  obtain rfl : w1 = (.int i1) := Option.some.inj ei1
  obtain ⟨i2, ei2⟩ := is_v ga2
  obtain rfl : w2 = (.int i2) := Option.some.inj ei2
  obtain ⟨i3, ei3⟩ := is_v ga3
  obtain rfl : w3 = (.int i3) := Option.some.inj ei3
  obtain ⟨i4, ei4⟩ := is_v ga4
  obtain rfl : w4 = (.int i4) := Option.some.inj ei4
  obtain ⟨i5, ei5⟩ := is_v ga5
  obtain rfl : w5 = (.int i5) := Option.some.inj ei5
  obtain ⟨n, o, h1, h2, h3, _, L, rfl, ⟨rfl, N⟩, hq⟩ := rm0 l s _ hw tables_1 i0 i1 i2 i3 i4 i5  s.heap s.heap.size (Nat.le_refl _)  p e ha hc hk s m _ below hf ((Spec.applies_iff_loose hf).mp happ).1 ⟨rfl, State.Warmed39.refl s, rfl⟩ trivial
  refine ⟨n, _, h1, h2, h3, hpost _ _ _ _ _ _ ⟨Cond.after_iff.mpr rfl, Cond.after_iff.mpr (eq_i res_at (Term.int_eval (1)) rfl), trivial⟩ ⟨hq.1, hq.2.1, (hq.2.2.sift fun y hy => Or.inr (N y hy)).mono (by decide) (by decide)⟩⟩
theorem main_1_1 : Claimed_1_1 := comes_1 fun _ _ _ _ _ _ h hF => ⟨h.1, hF⟩
theorem main_1_2 : Claimed_1_2 := comes_1 fun _ _ _ _ _ _ h hF => ⟨h.2.1, hF⟩
end Jvm.Pilot.@@N@@
namespace Jvm.Pilot.@@N@@
open Jvm Jvm.ClassFile Sem Op Lib Jvm.Free Jvm.Stand Jvm.Pilot.@@N@@.Jvm.D
/-! MADE BY PROGRAM (witnessworld.py) out of the Statement's table words and the real class files: 10 classes; the members and pool entries that the words name. The judged class is class 1, her method 3. -/
namespace start1
open Jvm.ClassFile
def u (s : String) : CpInfo := .utf8 (stringToUtf16 s)
/-- a pool by its gaps: so many unusable entries, then the entry; so many at the end -/
def gap : Nat → List CpInfo → List CpInfo
  | 0, r => r
  | n + 1, r => .unusable :: gap n r
def poolList (es : List (Nat × CpInfo)) (last : Nat) : List CpInfo := es.foldr (fun e r => gap e.1 (e.2 :: r)) (gap last [])
def pool (es : List (Nat × CpInfo)) (last : Nat) : Array CpInfo := ⟨poolList es last⟩
def fileOf (pool : Array CpInfo) (this : Nat) (attrs : Array Attribute := #[]) (ms : Array MethodInfo := #[]) (fl : Nat := 33) (sup : Nat := 0) (ifs : Array Nat := #[]) (fds : Array FieldInfo := #[]) : ClassFile where
  minorVersion := 0
  majorVersion := 65
  constantPool := pool
  accessFlags := fl
  thisClass := this
  superClass := sup
  interfaces := ifs
  fields := fds
  methods := ms
  attributes := attrs
def plain (name : String) (sup : Option ClassId) : Class where
  name := name
  kind := .ordinary
  loader := none
  accessFlags := 33
  super := sup
  interfaces := #[]
  cf := none
  fields := #[]
  methods := #[]
  instanceTypes := #[]
  staticTypes := #[]
  resolved := #[]
  callSites := []
  init := .initialized
  statics := none
  mirror := none

def pool0 : Array CpInfo := pool [(5, u "<init>"), (0, u "()V"), (1, .class_ 10), (1, u "java/lang/Object")] 113

def k0c0 : Code := { maxStack := 0, maxLocals := 1, code := object_method_1_code, exceptionTable := #[], attributes := #[] }
def k0m0 : Method := { name := "<init>", desc := "()V", sig := { parameters := [], returnType := none }, accessFlags := 1, code := some k0c0 }
/-- java/lang/Object -/
def k0 : Class := { plain "java/lang/Object" none with
  accessFlags := 33
  interfaces := #[]
  cf := some (fileOf pool0 8 #[] #[{ accessFlags := 1, nameIndex := 5, descriptorIndex := 6, attributes := #[] }] 33 0 #[] #[])
  fields := #[]
  methods := #[k0m0]
  instanceTypes := #[]
  staticTypes := #[]
  resolved := Array.replicate 124 none
  statics := none }

def pool1 : Array CpInfo := pool [(2, .class_ 4), (1, u "java/lang/Object"), (0, u "<init>"), (0, u "()V"), (0, .integer 2147483647), (0, .class_ 9), (0, u "com/example/hitung/hitung/IntChunks"), (0, .methodref 8 11), (0, .nameAndType 5 12), (0, u "(I)V"), (0, .methodref 8 14), (0, .nameAndType 15 16), (0, u "add"), (0, u "()I"), (0, .methodref 18 19), (0, .class_ 20), (0, .nameAndType 21 22), (0, u "com/example/hitung/hitung/IntChunksGetPinLaw"), (0, u "rec"), (0, u "(I)I"), (0, .methodref 18 24), (0, .nameAndType 25 26), (0, u "fld"), (0, u "(II)I"), (0, .methodref 8 28), (0, .nameAndType 29 30), (0, u "set"), (0, u "(III)V"), (0, .methodref 8 32), (0, .nameAndType 33 26), (0, u "get"), (2, u "law"), (0, u "(IIIIII)Z")] 3

def k1m0 : Method := { name := "<init>", desc := "()V", sig := { parameters := [], returnType := none }, accessFlags := 2, code := none }
def k1c1 : Code := { maxStack := 2, maxLocals := 1, code := method_2_code, exceptionTable := #[], attributes := #[] }
def k1m1 : Method := { name := "rec", desc := "(I)I", sig := { parameters := [.int], returnType := some .int }, accessFlags := 10, code := some k1c1 }
def k1c2 : Code := { maxStack := 2, maxLocals := 2, code := method_3_code, exceptionTable := #[], attributes := #[] }
def k1m2 : Method := { name := "fld", desc := "(II)I", sig := { parameters := [.int, .int], returnType := some .int }, accessFlags := 10, code := some k1c2 }
def k1c3 : Code := { maxStack := 4, maxLocals := 22, code := code, exceptionTable := #[], attributes := #[] }
def k1m3 : Method := { name := "law", desc := "(IIIIII)Z", sig := { parameters := [.int, .int, .int, .int, .int, .int], returnType := some .boolean }, accessFlags := 9, code := some k1c3 }
/-- com/example/hitung/hitung/IntChunksGetPinLaw -/
def k1 : Class := { plain "com/example/hitung/hitung/IntChunksGetPinLaw" (some 0) with
  accessFlags := 49
  interfaces := #[]
  cf := some (fileOf pool1 18 #[] #[{ accessFlags := 2, nameIndex := 5, descriptorIndex := 6, attributes := #[] }, { accessFlags := 10, nameIndex := 21, descriptorIndex := 22, attributes := #[] }, { accessFlags := 10, nameIndex := 25, descriptorIndex := 26, attributes := #[] }, { accessFlags := 9, nameIndex := 36, descriptorIndex := 37, attributes := #[] }] 49 2 #[] #[])
  fields := #[]
  methods := #[k1m0, k1m1, k1m2, k1m3]
  instanceTypes := #[]
  staticTypes := #[]
  resolved := Array.replicate 41 none
  statics := none }

def pool2 : Array CpInfo := pool [(1, .class_ 2), (0, u "com/example/hitung/hitung/IntChunks"), (0, .methodref 4 5), (0, .class_ 6), (0, .nameAndType 7 8), (0, u "java/lang/Object"), (0, u "<init>"), (0, u "()V"), (0, .class_ 10), (0, u "[I"), (0, .fieldref 1 12), (0, .nameAndType 13 14), (0, u "chunks"), (0, u "[[I"), (0, .fieldref 1 16), (0, .nameAndType 17 18), (0, u "width"), (0, u "I"), (2, u "(I)V"), (7, u "(II)I"), (3, .fieldref 1 34), (0, .nameAndType 35 18), (0, u "size"), (2, .integer 2147483647), (19, u "CHUNK_BITS"), (2, u "CHUNK"), (1, u "MASK"), (1, u "FIRST"), (5, u "()I"), (0, u "get"), (0, u "set"), (0, u "(III)V"), (0, u "add")] 17

def k2c0 : Code := { maxStack := 2, maxLocals := 2, code := prog_34_method_1_code, exceptionTable := #[], attributes := #[] }
def k2m0 : Method := { name := "<init>", desc := "(I)V", sig := { parameters := [.int], returnType := none }, accessFlags := 0, code := some k2c0 }
def k2c1 : Code := { maxStack := 3, maxLocals := 3, code := prog_34_method_4_code, exceptionTable := #[], attributes := #[] }
def k2m1 : Method := { name := "get", desc := "(II)I", sig := { parameters := [.int, .int], returnType := some .int }, accessFlags := 0, code := some k2c1 }
def k2c2 : Code := { maxStack := 3, maxLocals := 4, code := prog_34_method_5_code, exceptionTable := #[], attributes := #[] }
def k2m2 : Method := { name := "set", desc := "(III)V", sig := { parameters := [.int, .int, .int], returnType := none }, accessFlags := 0, code := some k2c2 }
def k2c3 : Code := { maxStack := 7, maxLocals := 3, code := prog_34_method_6_code, exceptionTable := #[], attributes := #[] }
def k2m3 : Method := { name := "add", desc := "()I", sig := { parameters := [], returnType := some .int }, accessFlags := 0, code := some k2c3 }
/-- com/example/hitung/hitung/IntChunks -/
def k2 : Class := { plain "com/example/hitung/hitung/IntChunks" (some 0) with
  accessFlags := 48
  interfaces := #[]
  cf := some (fileOf pool2 1 #[] #[{ accessFlags := 0, nameIndex := 7, descriptorIndex := 21, attributes := #[] }, { accessFlags := 0, nameIndex := 72, descriptorIndex := 29, attributes := #[] }, { accessFlags := 0, nameIndex := 73, descriptorIndex := 74, attributes := #[] }, { accessFlags := 0, nameIndex := 75, descriptorIndex := 71, attributes := #[] }] 48 4 #[] #[{ accessFlags := 26, nameIndex := 58, descriptorIndex := 18, attributes := #[] }, { accessFlags := 26, nameIndex := 61, descriptorIndex := 18, attributes := #[] }, { accessFlags := 26, nameIndex := 63, descriptorIndex := 18, attributes := #[] }, { accessFlags := 26, nameIndex := 65, descriptorIndex := 18, attributes := #[] }, { accessFlags := 18, nameIndex := 17, descriptorIndex := 18, attributes := #[] }, { accessFlags := 2, nameIndex := 13, descriptorIndex := 14, attributes := #[] }, { accessFlags := 2, nameIndex := 35, descriptorIndex := 18, attributes := #[] }])
  fields := #[{ name := "CHUNK_BITS", type := .int, accessFlags := 26, slot := 0, constantValue := 0 }, { name := "CHUNK", type := .int, accessFlags := 26, slot := 1, constantValue := 0 }, { name := "MASK", type := .int, accessFlags := 26, slot := 2, constantValue := 0 }, { name := "FIRST", type := .int, accessFlags := 26, slot := 3, constantValue := 0 }, { name := "width", type := .int, accessFlags := 18, slot := 0, constantValue := 0 }, { name := "chunks", type := (.array (.array .int)), accessFlags := 2, slot := 1, constantValue := 0 }, { name := "size", type := .int, accessFlags := 2, slot := 2, constantValue := 0 }]
  methods := #[k2m0, k2m1, k2m2, k2m3]
  instanceTypes := #[.int, (.array (.array .int)), .int]
  staticTypes := #[.int, .int, .int, .int]
  resolved := Array.replicate 93 none
  statics := none }

def pool3 : Array CpInfo := pool [(1, u "java/lang/Cloneable"), (0, .class_ 1), (0, u "java/lang/Object"), (0, .class_ 3)] 3

/-- java/lang/Cloneable -/
def k3 : Class := { plain "java/lang/Cloneable" (some 0) with
  accessFlags := 1537
  interfaces := #[]
  cf := some (fileOf pool3 2 #[] #[] 1537 4 #[] #[])
  fields := #[]
  methods := #[]
  instanceTypes := #[]
  staticTypes := #[]
  resolved := Array.replicate 8 none
  statics := none }

def pool4 : Array CpInfo := pool [(1, u "java/io/Serializable"), (0, .class_ 1), (0, u "java/lang/Object"), (0, .class_ 3)] 3

/-- java/io/Serializable -/
def k4 : Class := { plain "java/io/Serializable" (some 0) with
  accessFlags := 1537
  interfaces := #[]
  cf := some (fileOf pool4 2 #[] #[] 1537 4 #[] #[])
  fields := #[]
  methods := #[]
  instanceTypes := #[]
  staticTypes := #[]
  resolved := Array.replicate 8 none
  statics := none }

/-- the primitive byte -/
def k5 : Class := { plain "byte" none with kind := .primitive 'B', accessFlags := 0x411 }
/-- [B -/
def k6 : Class := { plain "[B" (some 0) with kind := .array 5 .byte, interfaces := #[3, 4], accessFlags := 1041 }

/-- the primitive int -/
def k7 : Class := { plain "int" none with kind := .primitive 'I', accessFlags := 0x411 }
/-- [I -/
def k8 : Class := { plain "[I" (some 0) with kind := .array 7 .int, interfaces := #[3, 4], accessFlags := 1041 }

/-- [[I -/
def k9 : Class := { plain "[[I" (some 0) with kind := .array 8 (.array .int), interfaces := #[3, 4], accessFlags := 1041 }

def heap : Heap := #[{ cls := 9, slots := #[.null], vm := .none }]
def classes : Array Class := #[k0, k1, k2, k3, k4, k5, k6, k7, k8, k9]
def interned : List (Array UInt16 × Addr) := []
def slotsUsed : Nat := 1
def theMethod : MethodId := ⟨1, 3⟩
def args0 : Array Value := #[.int 5, .int 5, .int 5, .int 5, .int 5, .int 5]
def aboutOver (below : List Frame) : State where
  vm := { classes := classes, interned := interned.toArray }
  heap := heap
  slotsUsed := slotsUsed
  threads := #[{ frames := .invoking theMethod args0 :: below }]
def below0 : List Frame := [.native { method := ⟨0, 0⟩, args := #[] }]
def about1 : State := aboutOver below0
def p0 : Program := .bare "" "" ""
def e0 : Env := launch0.env 0 0 0
theorem w_frames : about1.frames = Frame.invoking theMethod args0 :: below0 := rfl
set_option maxRecDepth 65536 in
theorem w_args : argsFit about1.vm theMethod args0 = true := by decide +kernel
set_option maxRecDepth 65536 in
theorem w_heap : heapFits about1 = true := by decide +kernel
set_option maxRecDepth 65536 in
theorem w_runnable : about1.curStatus? = some .runnable := by decide +kernel
set_option maxRecDepth 65536 in
theorem w_alone : about1.alone = true := by decide +kernel
set_option maxRecDepth 65536 in
theorem w_named : about1.methodNamed? x = some theMethod := by decide +kernel
set_option maxRecDepth 65536 in
theorem w_hears : about1.hears theMethod below0 = true := by decide +kernel
set_option maxRecDepth 65536 in
theorem w_ripe : about1.ripe theMethod args0 below0 = true := by decide +kernel
theorem w_running : about1.status = .running := rfl
set_option maxRecDepth 65536 in
theorem w_room : about1.hasRoom e0.platform room_1 = true :=
  launch0.hasRoom_least _ room_1 (by decide +kernel) (by decide +kernel) (by decide +kernel) (by decide +kernel) (by decide +kernel) (by decide +kernel)
theorem allAtoms_all (ts : List Jvm.Cond) (a : Array Jvm.Value) (st : Jvm.State) : (allAtoms ts).before a st = ts.all (fun c => c.before a st) := by
  induction ts with
  | nil => rfl
  | cons c t ih =>
    show (Jvm.Cond.and c (allAtoms t)).before a st = _
    rw [Jvm.Cond.before_and, ih, List.all_cons]
def words1 : List Jvm.Cond := Jvm.Cond.code x code maxLocals ret :: tables_1
/-- a 'code' word, met by the world's own term for the bytes: nothing is compared byte by byte -/
theorem code_word {y : MethodName} {bytes : ByteArray} {mx : Nat} {rt : Option FieldType} {a : Array Value} {s : State} {m : MethodId} {meth : Method} {c : Code} (h1 : s.methodNamed? y = some m) (h2 : s.vm.method? m = some meth) (h3 : meth.code = some c) (h4 : c.code = bytes)
    (h5 : (c.maxLocals == mx && c.exceptionTable.isEmpty && decide (c.maxStack ≤ mostOperands) && decide (meth.sig.returnType = rt) && !meth.locks && decide (parseMethodDescriptor y.desc = some meth.sig)) = true) : (Jvm.Cond.code y bytes mx rt).before a s = true := by
  simp only [Bool.and_eq_true, beq_iff_eq, Bool.not_eq_true', decide_eq_true_eq] at h5
  obtain ⟨⟨⟨⟨⟨g1, g2⟩, g3⟩, g4⟩, g5⟩, g6⟩ := h5
  simp [Cond.before, Cond.holds, Cond.value, h1, h2, h3, h4, g1, g2, g3, g4, g5, g6]
def isCode : Jvm.Cond → Bool
  | .code _ _ _ _ => true
  | _ => false
theorem all_split {L : List Jvm.Cond} {P : Jvm.Cond → Bool} (h1 : L.all (fun c => isCode c || P c) = true) (h2 : ∀ c ∈ L.filter isCode, P c = true) : L.all P = true := by
  refine List.all_eq_true.mpr fun c hc => ?_
  have h := List.all_eq_true.mp h1 c hc
  rcases Bool.eq_false_or_eq_true (isCode c) with hi | hi
  · exact h2 c (List.mem_filter.mpr ⟨hc, hi⟩)
  · simpa [hi] using h
set_option maxRecDepth 65536 in
theorem w_c0 : (Jvm.Cond.code x code maxLocals ret).before args0 about1 = true := code_word (m := ⟨1, 3⟩) (meth := k1m3) (c := k1c3) (by decide +kernel) rfl rfl rfl (by decide +kernel)
set_option maxRecDepth 65536 in
theorem w_c1 : (Jvm.Cond.code ({ cls := "com/example/hitung/hitung/IntChunks", name := "<init>", desc := "(I)V" } : Jvm.MethodName) prog_34_method_1_code (2 : Nat) (Option.none : Option Jvm.ClassFile.FieldType)).before args0 about1 = true := code_word (m := ⟨2, 0⟩) (meth := k2m0) (c := k2c0) (by decide +kernel) rfl rfl rfl (by decide +kernel)
set_option maxRecDepth 65536 in
theorem w_c2 : (Jvm.Cond.code ({ cls := "java/lang/Object", name := "<init>", desc := "()V" } : Jvm.MethodName) object_method_1_code (1 : Nat) (Option.none : Option Jvm.ClassFile.FieldType)).before args0 about1 = true := code_word (m := ⟨0, 0⟩) (meth := k0m0) (c := k0c0) (by decide +kernel) rfl rfl rfl (by decide +kernel)
set_option maxRecDepth 65536 in
theorem w_c3 : (Jvm.Cond.code ({ cls := "com/example/hitung/hitung/IntChunks", name := "add", desc := "()I" } : Jvm.MethodName) prog_34_method_6_code (3 : Nat) (Option.some Jvm.ClassFile.FieldType.int)).before args0 about1 = true := code_word (m := ⟨2, 3⟩) (meth := k2m3) (c := k2c3) (by decide +kernel) rfl rfl rfl (by decide +kernel)
set_option maxRecDepth 65536 in
theorem w_c4 : (Jvm.Cond.code ({ cls := "com/example/hitung/hitung/IntChunksGetPinLaw", name := "rec", desc := "(I)I" } : Jvm.MethodName) method_2_code (1 : Nat) (Option.some Jvm.ClassFile.FieldType.int)).before args0 about1 = true := code_word (m := ⟨1, 1⟩) (meth := k1m1) (c := k1c1) (by decide +kernel) rfl rfl rfl (by decide +kernel)
set_option maxRecDepth 65536 in
theorem w_c5 : (Jvm.Cond.code ({ cls := "com/example/hitung/hitung/IntChunksGetPinLaw", name := "fld", desc := "(II)I" } : Jvm.MethodName) method_3_code (2 : Nat) (Option.some Jvm.ClassFile.FieldType.int)).before args0 about1 = true := code_word (m := ⟨1, 2⟩) (meth := k1m2) (c := k1c2) (by decide +kernel) rfl rfl rfl (by decide +kernel)
set_option maxRecDepth 65536 in
theorem w_c6 : (Jvm.Cond.code ({ cls := "com/example/hitung/hitung/IntChunks", name := "set", desc := "(III)V" } : Jvm.MethodName) prog_34_method_5_code (4 : Nat) (Option.none : Option Jvm.ClassFile.FieldType)).before args0 about1 = true := code_word (m := ⟨2, 2⟩) (meth := k2m2) (c := k2c2) (by decide +kernel) rfl rfl rfl (by decide +kernel)
set_option maxRecDepth 65536 in
theorem w_c7 : (Jvm.Cond.code ({ cls := "com/example/hitung/hitung/IntChunks", name := "get", desc := "(II)I" } : Jvm.MethodName) prog_34_method_4_code (3 : Nat) (Option.some Jvm.ClassFile.FieldType.int)).before args0 about1 = true := code_word (m := ⟨2, 1⟩) (meth := k2m1) (c := k2c1) (by decide +kernel) rfl rfl rfl (by decide +kernel)
def codes1 : List Jvm.Cond := [Jvm.Cond.code x code maxLocals ret, Jvm.Cond.code ({ cls := "com/example/hitung/hitung/IntChunks", name := "<init>", desc := "(I)V" } : Jvm.MethodName) prog_34_method_1_code (2 : Nat) (Option.none : Option Jvm.ClassFile.FieldType), Jvm.Cond.code ({ cls := "java/lang/Object", name := "<init>", desc := "()V" } : Jvm.MethodName) object_method_1_code (1 : Nat) (Option.none : Option Jvm.ClassFile.FieldType), Jvm.Cond.code ({ cls := "com/example/hitung/hitung/IntChunks", name := "add", desc := "()I" } : Jvm.MethodName) prog_34_method_6_code (3 : Nat) (Option.some Jvm.ClassFile.FieldType.int), Jvm.Cond.code ({ cls := "com/example/hitung/hitung/IntChunksGetPinLaw", name := "rec", desc := "(I)I" } : Jvm.MethodName) method_2_code (1 : Nat) (Option.some Jvm.ClassFile.FieldType.int), Jvm.Cond.code ({ cls := "com/example/hitung/hitung/IntChunksGetPinLaw", name := "fld", desc := "(II)I" } : Jvm.MethodName) method_3_code (2 : Nat) (Option.some Jvm.ClassFile.FieldType.int), Jvm.Cond.code ({ cls := "com/example/hitung/hitung/IntChunks", name := "set", desc := "(III)V" } : Jvm.MethodName) prog_34_method_5_code (4 : Nat) (Option.none : Option Jvm.ClassFile.FieldType), Jvm.Cond.code ({ cls := "com/example/hitung/hitung/IntChunks", name := "get", desc := "(II)I" } : Jvm.MethodName) prog_34_method_4_code (3 : Nat) (Option.some Jvm.ClassFile.FieldType.int)]
set_option maxRecDepth 65536 in
theorem codes_eq : words1.filter isCode = codes1 := rfl
theorem w_codes : ∀ c ∈ words1.filter isCode, c.before args0 about1 = true := by
  rw [codes_eq]
  intro c hc
  simp only [codes1, List.mem_cons, List.not_mem_nil, or_false] at hc
  rcases hc with rfl | rfl | rfl | rfl | rfl | rfl | rfl | rfl
  · exact w_c0
  · exact w_c1
  · exact w_c2
  · exact w_c3
  · exact w_c4
  · exact w_c5
  · exact w_c6
  · exact w_c7
set_option maxRecDepth 65536 in
theorem w_t1 : (words1.take 24).all (fun c => isCode c || c.before args0 about1) = true := by decide +kernel
set_option maxRecDepth 65536 in
theorem w_t2 : (words1.drop 24).all (fun c => isCode c || c.before args0 about1) = true := by decide +kernel
theorem w_tables : (allAtoms (Jvm.Cond.code x code maxLocals ret :: tables_1)).before args0 about1 = true := by
  rw [allAtoms_all]
  show words1.all (fun c => c.before args0 about1) = true
  refine all_split ?_ w_codes
  rw [← List.take_append_drop 24 words1, List.all_append, w_t1, w_t2]
  rfl
set_option maxRecDepth 65536 in
theorem w_case : (Jvm.Cond.and given_1 narrow_1).before args0 about1 = true := by decide +kernel
theorem w_applies : (headSpec (Jvm.Cond.code x code maxLocals ret :: tables_1) room_1).applies x e0.platform about1 = true :=
  (Spec.applies_iff w_frames).mpr ⟨w_running, w_runnable, w_alone, w_named, w_hears, w_ripe, w_room, w_tables⟩
theorem atStart : AtStart classFile x code maxLocals ret World_1 tables_1 room_1 Calls_1 rest_1 Pre_1 launch0 p0 e0 about1 theMethod args0 below0 :=
  ⟨lists_1, trivial, launch0.admits_env _ _ _, launch0.least_env, fairChoices_fair.cas, fairChoices_fair.clock, w_frames, w_args, w_heap, w_applies, trivial, trivial, w_case⟩
end start1
theorem witness_1 : WitnessClaimed_1 := ⟨start1.p0, start1.e0, start1.about1, start1.theMethod, start1.args0, start1.below0, start1.atStart⟩
end Jvm.Pilot.@@N@@
