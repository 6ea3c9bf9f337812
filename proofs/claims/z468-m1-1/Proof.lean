import JvmDerived
import JvmDerived.Pilot.@@N@@Statement
import JvmDerived.Pilot.@@N@@Code
set_option linter.unusedVariables false
set_option linter.unusedSimpArgs false
namespace Jvm.Pilot.@@N@@
open Jvm Jvm.ClassFile Sem Op Lib Jvm.Free Jvm.Stand Jvm.LawKit Jvm.RoadKit Bundle Jvm.Pilot.@@N@@.Jvm.D
/-- from the state σ the run comes to an end that Q allows -/
def OwnG (rc rs : Nat) (Q : Option Value → Heap → List Loc → Prop) (p : Program) (e : Env) (below : List Frame) (s σ : State) : Prop :=
  ∃ s₂ o, Steps p.tables e below σ s₂ ∧ s₂.status = .running ∧ Ended s₂ below o ∧ ∃ v L, o = .returned v ∧ Q v s₂.heap L ∧ FrameEnd s o s₂ L rc rs
section Own
variable {p : Program} {l : Launch} {e : Env} {R : Room} {s : State} {m : MethodId} {args : Array Value} {below : List Frame} {meth : Method} {c : Code} {T σ σ' : State} {locs : List Loc} {cells slots rc rs : Nat} {Q : Option Value → Heap → List Loc → Prop}
theorem own_st (h : ∀ target, Steps p.tables e below σ' target → Steps p.tables e below σ target) (g : OwnG rc rs Q p e below s σ') : OwnG rc rs Q p e below s σ := by
  obtain ⟨s₂, o, h1, r⟩ := g; exact ⟨s₂, o, h _ h1, r⟩
theorem own_go (h : Steps p.tables e below σ σ') (g : OwnG rc rs Q p e below s σ') : OwnG rc rs Q p e below s σ := by
  obtain ⟨s₂, o, h1, r⟩ := g; exact ⟨s₂, o, h.trans h1, r⟩
theorem own_retN (X : Stand p l e R s m args below meth c T locs cells slots) (hx : p.tables.exec = Jvm.exec) {pc : Nat} {Ls : Array Slot} {z : Int32} {rest : List Value} {t : FieldType} (hret : meth.sig.returnType = some t) (hlk : meth.locks = false) (ht : t = .boolean ∨ t = .byte ∨ t = .char ∨ t = .short)
    (hd : decode c.code pc = .ok (.ireturn, 1)) (hc : cells ≤ rc) (hs : slots ≤ rs) (hQ : Q (some (.int (nar t z))) T.heap locs) : OwnG rc rs Q p e below s (T.setTop (mkF m pc Ls (.int z :: rest))) := by
  obtain ⟨fs, hr, hrun, hended, hW, hsame⟩ := X.leave (v := some (.int (nar t z))) (fun h => by rw [hret] at h; cases h) hlk
  exact ⟨_, _, retN X hx hret ht hd hr, hrun, hended, _, _, rfl, hQ, ⟨_, rfl⟩, hW, hsame.mono hc hs⟩
theorem own_retI (X : Stand p l e R s m args below meth c T locs cells slots) (hx : p.tables.exec = Jvm.exec) {pc : Nat} {Ls : Array Slot} {z : Int32} {rest : List Value} (hret : meth.sig.returnType = some .int) (hlk : meth.locks = false)
    (hd : decode c.code pc = .ok (.ireturn, 1)) (hc : cells ≤ rc) (hs : slots ≤ rs) (hQ : Q (some (.int z)) T.heap locs) : OwnG rc rs Q p e below s (T.setTop (mkF m pc Ls (.int z :: rest))) := by
  obtain ⟨fs, hr, hrun, hended, hW, hsame⟩ := X.leave (v := some (.int z)) (fun h => by rw [hret] at h; cases h) hlk
  exact ⟨_, _, retOut X hx hret rfl (Or.inl ⟨rfl, Or.inl rfl, _, rfl⟩) hd hr, hrun, hended, _, _, rfl, hQ, ⟨_, rfl⟩, hW, hsame.mono hc hs⟩
theorem own_retJ (X : Stand p l e R s m args below meth c T locs cells slots) (hx : p.tables.exec = Jvm.exec) {pc : Nat} {Ls : Array Slot} {z : Int64} {rest : List Value} (hret : meth.sig.returnType = some .long) (hlk : meth.locks = false)
    (hd : decode c.code pc = .ok (.lreturn, 1)) (hc : cells ≤ rc) (hs : slots ≤ rs) (hQ : Q (some (.long z)) T.heap locs) : OwnG rc rs Q p e below s (T.setTop (mkF m pc Ls (.long z :: rest))) := by
  obtain ⟨fs, hr, hrun, hended, hW, hsame⟩ := X.leave (v := some (.long z)) (fun h => by rw [hret] at h; cases h) hlk
  exact ⟨_, _, retOut X hx hret rfl (Or.inr (Or.inl ⟨rfl, rfl, _, rfl⟩)) hd hr, hrun, hended, _, _, rfl, hQ, ⟨_, rfl⟩, hW, hsame.mono hc hs⟩
theorem own_retA (X : Stand p l e R s m args below meth c T locs cells slots) (hx : p.tables.exec = Jvm.exec) {pc : Nat} {Ls : Array Slot} {a : Addr} {rest : List Value} {t : FieldType} (hret : meth.sig.returnType = some t) (hlk : meth.locks = false) (ht : t.isReference = true)
    (hd : decode c.code pc = .ok (.areturn, 1)) (hc : cells ≤ rc) (hs : slots ≤ rs) (hQ : Q (some (.ref a)) T.heap locs) : OwnG rc rs Q p e below s (T.setTop (mkF m pc Ls (.ref a :: rest))) := by
  obtain ⟨fs, hr, hrun, hended, hW, hsame⟩ := X.leave (v := some (.ref a)) (fun h => by rw [hret] at h; cases h) hlk
  exact ⟨_, _, retOut X hx hret (by cases t <;> first | rfl | cases ht) (Or.inr (Or.inr (Or.inr (Or.inr ⟨rfl, ht, rfl⟩)))) hd hr, hrun, hended, _, _, rfl, hQ, ⟨_, rfl⟩, hW, hsame.mono hc hs⟩
theorem own_retV (X : Stand p l e R s m args below meth c T locs cells slots) (hx : p.tables.exec = Jvm.exec) {pc : Nat} {Ls : Array Slot} (hret : meth.sig.returnType = none) (hlk : meth.locks = false)
    (hd : decode c.code pc = .ok (.return_, 1)) (hc : cells ≤ rc) (hs : slots ≤ rs) (hQ : Q none T.heap locs) : OwnG rc rs Q p e below s (T.setTop (mkF m pc Ls [])) := by
  obtain ⟨fs, hr, hrun, hended, hW, hsame⟩ := X.leave (v := none) (fun _ => rfl) hlk
  exact ⟨_, _, X.returnOut hx hret hd hr, hrun, hended, _, _, rfl, hQ, ⟨_, rfl⟩, hW, hsame.mono hc hs⟩
end Own
def own_c (i b : Int32) : Int32 := if i = 0 then (if b &&& 31 = 31 then 1 else 0) else (if b &&& 128 = 0 then 0 else 1)
theorem own_lo (x : Int32) : x &&& 255 = Int32.ofBitVec (x.toInt8.toBitVec.setWidth 32) := by
  apply Int32.toBitVec_inj.mp
  show x.toBitVec &&& 255#32 = (x.toBitVec.signExtend 8).setWidth 32
  have hb : ∀ i : Fin 32, (255#32).getLsbD i.val = decide (i.val < 8) := by decide
  apply BitVec.eq_of_getLsbD_eq
  intro i hi
  have := hb ⟨i, hi⟩
  simp only at this
  rw [BitVec.getLsbD_and, this, BitVec.getLsbD_setWidth, BitVec.signExtend_eq_setWidth_of_le _ (by decide : 8 ≤ 32), BitVec.getLsbD_setWidth]
  generalize x.toBitVec.getLsbD i = q
  cases q <;> by_cases h8 : i < 8 <;> simp [h8, hi]
theorem own_hi (x : Int32) : x.toInt8.toInt32 = Int32.ofBitVec (x.toInt8.toBitVec.signExtend 32) := rfl
theorem own_all : ∀ v : BitVec 8, ((Int32.ofBitVec (v.setWidth 32) % 32 = 31) ↔ (Int32.ofBitVec (v.signExtend 32) &&& 31 = 31)) ∧ (Int32.ofBitVec (v.signExtend 32) < 0 ↔ ¬ (Int32.ofBitVec (v.signExtend 32) &&& 128 = 0)) := by decide +kernel
theorem own_n1 (x : Int32) : ((x &&& 255) % 32 = 31) ↔ (x.toInt8.toInt32 &&& 31 = 31) := by rw [own_lo, own_hi]; exact (own_all _).1
theorem own_n2 (x : Int32) : (x.toInt8.toInt32 < 0) ↔ ¬ (x.toInt8.toInt32 &&& 128 = 0) := by rw [own_hi]; exact (own_all _).2
theorem d1_0 : decode prog_45_method_13_code 0 = .ok (.iload_n 0, 1) := by decide +kernel
theorem d1_1 : decode prog_45_method_13_code 1 = .ok (.ifCond .ne 20, 3) := by decide +kernel
theorem d1_4 : decode prog_45_method_13_code 4 = .ok (.iload_n 1, 1) := by decide +kernel
theorem d1_5 : decode prog_45_method_13_code 5 = .ok (.bipush 31, 2) := by decide +kernel
theorem d1_7 : decode prog_45_method_13_code 7 = .ok (.iand, 1) := by decide +kernel
theorem d1_8 : decode prog_45_method_13_code 8 = .ok (.bipush 31, 2) := by decide +kernel
theorem d1_10 : decode prog_45_method_13_code 10 = .ok (.if_icmp .ne 7, 3) := by decide +kernel
theorem d1_13 : decode prog_45_method_13_code 13 = .ok (.iconst 1, 1) := by decide +kernel
theorem d1_14 : decode prog_45_method_13_code 14 = .ok (.goto 20, 3) := by decide +kernel
theorem d1_17 : decode prog_45_method_13_code 17 = .ok (.iconst 0, 1) := by decide +kernel
theorem d1_18 : decode prog_45_method_13_code 18 = .ok (.goto 16, 3) := by decide +kernel
theorem d1_21 : decode prog_45_method_13_code 21 = .ok (.iload_n 1, 1) := by decide +kernel
theorem d1_22 : decode prog_45_method_13_code 22 = .ok (.sipush 128, 3) := by decide +kernel
theorem d1_25 : decode prog_45_method_13_code 25 = .ok (.iand, 1) := by decide +kernel
theorem d1_26 : decode prog_45_method_13_code 26 = .ok (.ifCond .eq 7, 3) := by decide +kernel
theorem d1_29 : decode prog_45_method_13_code 29 = .ok (.iconst 1, 1) := by decide +kernel
theorem d1_30 : decode prog_45_method_13_code 30 = .ok (.goto 4, 3) := by decide +kernel
theorem d1_33 : decode prog_45_method_13_code 33 = .ok (.iconst 0, 1) := by decide +kernel
theorem d1_34 : decode prog_45_method_13_code 34 = .ok (.ireturn, 1) := by decide +kernel
theorem pn_1 : plainName "com/example/quetma/quetma/TlvObject" = true := by first | (simp [plainName, overriddenIn]; done) | decide +kernel
theorem ef_1 (m : MethodId) (x0 : Int32) (x1 : Int32) : entryFrame m #[(.int x0), (.int x1)] 2 = mkF m 0 #[.val (.int x0), .val (.int x1)] [] := by first | (simp [entryFrame, mkF, argsToLocals, Value.category]; done) | rfl
def Q1 (Z : State) (i1 : Int32) (i2 : Int32) (h0 : Heap) (n0 : Nat) (v : Option Value) (h : Heap) (L : List Loc) : Prop := v = some (.int (own_c i1 i2)) ∧ Fr n0 L ∧ h = h0
set_option maxRecDepth 65536 in
set_option maxHeartbeats 40000000 in
theorem rm1 (l : Launch) (Z : State) (a0 : Array Value) (hw : ∀ d ∈ tables_1, d.before a0 Z = true) (ws : List Jvm.Cond) (i1 : Int32) (i2 : Int32) (h0 : Heap) (n0 : Nat) (Z0 : n0 ≤ h0.size)  :
    MetFree l (⟨"com/example/quetma/quetma/TlvObject", "continues", "(IB)Z"⟩ : MethodName) (head1 (Jvm.Cond.code (⟨"com/example/quetma/quetma/TlvObject", "continues", "(IB)Z"⟩ : MethodName) prog_45_method_13_code 2 (some .boolean) :: ws) ({ frames := 0, cells := 0, slots := 0, locals := 0 } : Room)) (fun a U => a = #[(.int i1), (.int i2)] ∧ Z.Warmed39 U.vm ∧ U.heap = h0) (fun _ _ _ _ _ => True) (fun _ U o U' => ∃ v L, o = .returned v ∧ Q1 Z i1 i2 h0 n0 v U'.heap L ∧ FrameEnd U o U' L ({ frames := 0, cells := 0, slots := 0, locals := 0 } : Room).cells ({ frames := 0, cells := 0, slots := 0, locals := 0 } : Room).slots) := by
  refine MetFree.of_bodySF (plainFor_of_name pn_1) hisR ?_
  intro p e s m args below meth c s₁ Bd hml0 hP hK
  obtain ⟨rfl, hZ, hh⟩ := hP
  have hx := Bd.exec
  have hby := Bd.bytes
  have hml : c.maxLocals = 2 := hml0
  have hown : s.vm.findClass "com/example/quetma/quetma/TlvObject" = some m.cls := findClass_of_methodNamed Bd.named
  have hnm := (name_of_methodNamed Bd.named Bd.method).1
  have hrt := Bd.returns
  have hlk : meth.locks = false := BodyLoose.notSynchronized Bd
  have X0 : Stand p l e ({ frames := 0, cells := 0, slots := 0, locals := 0 } : Room) s m #[(.int i1), (.int i2)] below meth c s₁ [] 0 0 := Stand.of_body Bd
  have e0 : s₁.heap = h0 := by rw [← hh, Bd.state]; rfl
  have N0 := Fr.nil n0
  show OwnG ({ frames := 0, cells := 0, slots := 0, locals := 0 } : Room).cells ({ frames := 0, cells := 0, slots := 0, locals := 0 } : Room).slots (Q1 Z i1 i2 h0 n0) p e below s (s₁.setTop (entryFrame m #[(.int i1), (.int i2)] 2))
  refine own_st (σ' := s₁.setTop (mkF m 0 #[.val (.int i1), .val (.int i2)] [])) (fun t k => castTop (ef_1 m i1 i2) k) ?_
  show OwnG _ _ _ _ _ _ _ (s₁.setTop (mkF m 0 #[.val (.int i1), .val (.int i2)] []))
  refine own_st (fun _ kk => XS.iloadN X0.here hx rfl (hb hby d1_0) rfl kk) ?_
  show OwnG _ _ _ _ _ _ _ (s₁.setTop (mkF m 1 #[.val (.int i1), .val (.int i2)] [(.int i1)]))
  by_cases h1 : i1 = (0 : Int32)
  · skip
    refine own_st (fun _ kk => XS.ifNo X0.here hx rfl (hb hby d1_1) rfl ((if0 _ _).trans (teq h1).2) kk) ?_
    show OwnG _ _ _ _ _ _ _ (s₁.setTop (mkF m 4 #[.val (.int i1), .val (.int i2)] []))
    refine own_st (fun _ kk => XS.iloadN X0.here hx rfl (hb hby d1_4) rfl kk) ?_
    show OwnG _ _ _ _ _ _ _ (s₁.setTop (mkF m 5 #[.val (.int i1), .val (.int i2)] [(.int i2)]))
    refine own_st (fun _ kk => XS.bipush X0.here hx rfl (hb hby d1_5) kk) ?_
    show OwnG _ _ _ _ _ _ _ (s₁.setTop (mkF m 7 #[.val (.int i1), .val (.int i2)] [(.int (31 : Int32)), (.int i2)]))
    refine own_st (fun _ kk => XS.iand X0.here hx rfl (hb hby d1_7) rfl kk) ?_
    show OwnG _ _ _ _ _ _ _ (s₁.setTop (mkF m 8 #[.val (.int i1), .val (.int i2)] [(.int (i2 &&& (31 : Int32)))]))
    refine own_st (fun _ kk => XS.bipush X0.here hx rfl (hb hby d1_8) kk) ?_
    show OwnG _ _ _ _ _ _ _ (s₁.setTop (mkF m 10 #[.val (.int i1), .val (.int i2)] [(.int (31 : Int32)), (.int (i2 &&& (31 : Int32)))]))
    by_cases h10 : (i2 &&& (31 : Int32)) = (31 : Int32)
    · skip
      refine own_st (fun _ kk => XS.icmpNo X0.here hx rfl (hb hby d1_10) rfl (teq h10).2 kk) ?_
      show OwnG _ _ _ _ _ _ _ (s₁.setTop (mkF m 13 #[.val (.int i1), .val (.int i2)] []))
      refine own_st (fun _ kk => XS.iconst X0.here hx rfl (hb hby d1_13) kk) ?_
      show OwnG _ _ _ _ _ _ _ (s₁.setTop (mkF m 14 #[.val (.int i1), .val (.int i2)] [(.int (1 : Int32))]))
      refine own_st (fun _ kk => XS.goto X0.here hx rfl (pc0 := 14) (pc' := 34) rfl (hb hby d1_14) (by decide) (by decide) kk) ?_
      show OwnG _ _ _ _ _ _ _ (s₁.setTop (mkF m 34 #[.val (.int i1), .val (.int i2)] [(.int (1 : Int32))]))
      exact own_retN X0 hx hrt hlk (t := .boolean) (by simp) (hb hby d1_34) (by decide) (by decide) (by show _ ∧ _; first | (rw [e0]; exact ⟨by simp only [own_c, if_pos h1, if_pos h10]; rfl, N0, rfl⟩) | exact ⟨by simp only [own_c, if_pos h1, if_pos h10]; rfl, N0, rfl⟩)
    · skip
      refine own_st (fun _ kk => XS.icmpYes X0.here hx rfl (pc0 := 10) (pc' := 17) rfl (hb hby d1_10) rfl (feq h10).2 (by decide) (by decide) kk) ?_
      show OwnG _ _ _ _ _ _ _ (s₁.setTop (mkF m 17 #[.val (.int i1), .val (.int i2)] []))
      refine own_st (fun _ kk => XS.iconst X0.here hx rfl (hb hby d1_17) kk) ?_
      show OwnG _ _ _ _ _ _ _ (s₁.setTop (mkF m 18 #[.val (.int i1), .val (.int i2)] [(.int (0 : Int32))]))
      refine own_st (fun _ kk => XS.goto X0.here hx rfl (pc0 := 18) (pc' := 34) rfl (hb hby d1_18) (by decide) (by decide) kk) ?_
      show OwnG _ _ _ _ _ _ _ (s₁.setTop (mkF m 34 #[.val (.int i1), .val (.int i2)] [(.int (0 : Int32))]))
      exact own_retN X0 hx hrt hlk (t := .boolean) (by simp) (hb hby d1_34) (by decide) (by decide) (by show _ ∧ _; first | (rw [e0]; exact ⟨by simp only [own_c, if_pos h1, if_neg h10]; rfl, N0, rfl⟩) | exact ⟨by simp only [own_c, if_pos h1, if_neg h10]; rfl, N0, rfl⟩)
  · skip
    refine own_st (fun _ kk => XS.ifYes X0.here hx rfl (pc0 := 1) (pc' := 21) rfl (hb hby d1_1) rfl ((if0 _ _).trans (feq h1).2) (by decide) (by decide) kk) ?_
    show OwnG _ _ _ _ _ _ _ (s₁.setTop (mkF m 21 #[.val (.int i1), .val (.int i2)] []))
    refine own_st (fun _ kk => XS.iloadN X0.here hx rfl (hb hby d1_21) rfl kk) ?_
    show OwnG _ _ _ _ _ _ _ (s₁.setTop (mkF m 22 #[.val (.int i1), .val (.int i2)] [(.int i2)]))
    refine own_st (fun _ kk => XS.sipush X0.here hx rfl (hb hby d1_22) kk) ?_
    show OwnG _ _ _ _ _ _ _ (s₁.setTop (mkF m 25 #[.val (.int i1), .val (.int i2)] [(.int (128 : Int32)), (.int i2)]))
    refine own_st (fun _ kk => XS.iand X0.here hx rfl (hb hby d1_25) rfl kk) ?_
    show OwnG _ _ _ _ _ _ _ (s₁.setTop (mkF m 26 #[.val (.int i1), .val (.int i2)] [(.int (i2 &&& (128 : Int32)))]))
    by_cases h26 : (i2 &&& (128 : Int32)) = (0 : Int32)
    · skip
      refine own_st (fun _ kk => XS.ifYes X0.here hx rfl (pc0 := 26) (pc' := 33) rfl (hb hby d1_26) rfl ((if0 _ _).trans (teq h26).1) (by decide) (by decide) kk) ?_
      show OwnG _ _ _ _ _ _ _ (s₁.setTop (mkF m 33 #[.val (.int i1), .val (.int i2)] []))
      refine own_st (fun _ kk => XS.iconst X0.here hx rfl (hb hby d1_33) kk) ?_
      show OwnG _ _ _ _ _ _ _ (s₁.setTop (mkF m 34 #[.val (.int i1), .val (.int i2)] [(.int (0 : Int32))]))
      exact own_retN X0 hx hrt hlk (t := .boolean) (by simp) (hb hby d1_34) (by decide) (by decide) (by show _ ∧ _; first | (rw [e0]; exact ⟨by simp only [own_c, if_neg h1, if_pos h26]; rfl, N0, rfl⟩) | exact ⟨by simp only [own_c, if_neg h1, if_pos h26]; rfl, N0, rfl⟩)
    · skip
      refine own_st (fun _ kk => XS.ifNo X0.here hx rfl (hb hby d1_26) rfl ((if0 _ _).trans (feq h26).1) kk) ?_
      show OwnG _ _ _ _ _ _ _ (s₁.setTop (mkF m 29 #[.val (.int i1), .val (.int i2)] []))
      refine own_st (fun _ kk => XS.iconst X0.here hx rfl (hb hby d1_29) kk) ?_
      show OwnG _ _ _ _ _ _ _ (s₁.setTop (mkF m 30 #[.val (.int i1), .val (.int i2)] [(.int (1 : Int32))]))
      refine own_st (fun _ kk => XS.goto X0.here hx rfl (pc0 := 30) (pc' := 34) rfl (hb hby d1_30) (by decide) (by decide) kk) ?_
      show OwnG _ _ _ _ _ _ _ (s₁.setTop (mkF m 34 #[.val (.int i1), .val (.int i2)] [(.int (1 : Int32))]))
      exact own_retN X0 hx hrt hlk (t := .boolean) (by simp) (hb hby d1_34) (by decide) (by decide) (by show _ ∧ _; first | (rw [e0]; exact ⟨by simp only [own_c, if_neg h1, if_neg h26]; rfl, N0, rfl⟩) | exact ⟨by simp only [own_c, if_neg h1, if_neg h26]; rfl, N0, rfl⟩)
def Q0 (Z : State) (mo : Int32) (i : Int32) (xx : Int32) (h0 : Heap) (n0 : Nat) (v : Option Value) (h : Heap) (L : List Loc) : Prop := v = some (.int 1) ∧ Fr n0 L
set_option maxRecDepth 65536 in
set_option maxHeartbeats 40000000 in
theorem own_b11 {p : Program} {l : Launch} {e : Env} {s : State} {m : MethodId} {args : Array Value} {below : List Frame} {meth : Method} {c : Code} {Z : State} {a0 : Array Value} (hx : p.tables.exec = Jvm.exec) (hZ : Z.Warmed39 s.vm) (hw : ∀ d ∈ tables_1, d.before a0 Z = true) (hby : c.code = code) (hml : c.maxLocals = 7) (hown : s.vm.findClass "com/example/quetma/quetma/TlvObjectContinuesPinLaw" = some m.cls) (hrt : meth.sig.returnType = ret) (hlk : meth.locks = false) (mo i xx j : Int32) (n0 : Nat) {hs0 : Heap} {T0 : State} {h0 : Heap} {locs : List Loc} (X0 : Stand p l e room_1 s m args below meth c T0 locs 0 0) (e0 : T0.heap = h0) (N0 : Fr n0 locs) (Z0 : n0 ≤ h0.size) : OwnG 0 0 (Q0 Z mo i xx hs0 n0) p e below s (T0.setTop (mkF m 11 #[.val (.int mo), .val (.int i), .val (.int xx), .unset, .unset, .unset, .unset] [(.int j)])) := by
  refine own_st (fun _ kk => XS.istoreN X0.here hx rfl (hb hby at_11) rfl (l' := #[.val (.int mo), .val (.int i), .val (.int xx), .val (.int j), .unset, .unset, .unset]) rfl kk) ?_
  show OwnG _ _ _ _ _ _ _ (T0.setTop (mkF m 12 #[.val (.int mo), .val (.int i), .val (.int xx), .val (.int j), .unset, .unset, .unset] []))
  refine own_st (fun _ kk => XS.iloadN X0.here hx rfl (hb hby at_12) rfl kk) ?_
  show OwnG _ _ _ _ _ _ _ (T0.setTop (mkF m 13 #[.val (.int mo), .val (.int i), .val (.int xx), .val (.int j), .unset, .unset, .unset] [(.int xx)]))
  refine own_st (fun _ kk => XS.i2b X0.here hx rfl (hb hby at_13) rfl kk) ?_
  show OwnG _ _ _ _ _ _ _ (T0.setTop (mkF m 14 #[.val (.int mo), .val (.int i), .val (.int xx), .val (.int j), .unset, .unset, .unset] [(.int (xx.toInt8.toInt32))]))
  refine own_st (fun _ kk => XS.istore X0.here hx rfl (hb hby at_14) rfl (l' := #[.val (.int mo), .val (.int i), .val (.int xx), .val (.int j), .val (.int (xx.toInt8.toInt32)), .unset, .unset]) rfl kk) ?_
  show OwnG _ _ _ _ _ _ _ (T0.setTop (mkF m 16 #[.val (.int mo), .val (.int i), .val (.int xx), .val (.int j), .val (.int (xx.toInt8.toInt32)), .unset, .unset] []))
  refine own_st (fun _ kk => XS.iloadN X0.here hx rfl (hb hby at_16) rfl kk) ?_
  show OwnG _ _ _ _ _ _ _ (T0.setTop (mkF m 17 #[.val (.int mo), .val (.int i), .val (.int xx), .val (.int j), .val (.int (xx.toInt8.toInt32)), .unset, .unset] [(.int xx)]))
  refine own_st (fun _ kk => XS.sipush X0.here hx rfl (hb hby at_17) kk) ?_
  show OwnG _ _ _ _ _ _ _ (T0.setTop (mkF m 20 #[.val (.int mo), .val (.int i), .val (.int xx), .val (.int j), .val (.int (xx.toInt8.toInt32)), .unset, .unset] [(.int (255 : Int32)), (.int xx)]))
  refine own_st (fun _ kk => XS.iand X0.here hx rfl (hb hby at_20) rfl kk) ?_
  show OwnG _ _ _ _ _ _ _ (T0.setTop (mkF m 21 #[.val (.int mo), .val (.int i), .val (.int xx), .val (.int j), .val (.int (xx.toInt8.toInt32)), .unset, .unset] [(.int (xx &&& (255 : Int32)))]))
  refine own_st (fun _ kk => XS.istore X0.here hx rfl (hb hby at_21) rfl (l' := #[.val (.int mo), .val (.int i), .val (.int xx), .val (.int j), .val (.int (xx.toInt8.toInt32)), .val (.int (xx &&& (255 : Int32))), .unset]) rfl kk) ?_
  show OwnG _ _ _ _ _ _ _ (T0.setTop (mkF m 23 #[.val (.int mo), .val (.int i), .val (.int xx), .val (.int j), .val (.int (xx.toInt8.toInt32)), .val (.int (xx &&& (255 : Int32))), .unset] []))
  refine own_st (fun _ kk => XS.iloadN X0.here hx rfl (hb hby at_23) rfl kk) ?_
  show OwnG _ _ _ _ _ _ _ (T0.setTop (mkF m 24 #[.val (.int mo), .val (.int i), .val (.int xx), .val (.int j), .val (.int (xx.toInt8.toInt32)), .val (.int (xx &&& (255 : Int32))), .unset] [(.int j)]))
  by_cases h24 : j = (0 : Int32)
  · skip
    refine own_st (fun _ kk => XS.ifNo X0.here hx rfl (hb hby at_24) rfl ((if0 _ _).trans (teq h24).2) kk) ?_
    show OwnG _ _ _ _ _ _ _ (T0.setTop (mkF m 27 #[.val (.int mo), .val (.int i), .val (.int xx), .val (.int j), .val (.int (xx.toInt8.toInt32)), .val (.int (xx &&& (255 : Int32))), .unset] []))
    refine own_st (fun _ kk => XS.iload X0.here hx rfl (hb hby at_27) rfl kk) ?_
    show OwnG _ _ _ _ _ _ _ (T0.setTop (mkF m 29 #[.val (.int mo), .val (.int i), .val (.int xx), .val (.int j), .val (.int (xx.toInt8.toInt32)), .val (.int (xx &&& (255 : Int32))), .unset] [(.int (xx &&& (255 : Int32)))]))
    refine own_st (fun _ kk => XS.bipush X0.here hx rfl (hb hby at_29) kk) ?_
    show OwnG _ _ _ _ _ _ _ (T0.setTop (mkF m 31 #[.val (.int mo), .val (.int i), .val (.int xx), .val (.int j), .val (.int (xx.toInt8.toInt32)), .val (.int (xx &&& (255 : Int32))), .unset] [(.int (32 : Int32)), (.int (xx &&& (255 : Int32)))]))
    refine own_st (fun _ kk => iremM X0 hx rfl (hb hby at_31) rfl (by decide) kk) ?_
    show OwnG _ _ _ _ _ _ _ (T0.setTop (mkF m 32 #[.val (.int mo), .val (.int i), .val (.int xx), .val (.int j), .val (.int (xx.toInt8.toInt32)), .val (.int (xx &&& (255 : Int32))), .unset] [(.int ((xx &&& (255 : Int32)) % (32 : Int32)))]))
    refine own_st (fun _ kk => XS.bipush X0.here hx rfl (hb hby at_32) kk) ?_
    show OwnG _ _ _ _ _ _ _ (T0.setTop (mkF m 34 #[.val (.int mo), .val (.int i), .val (.int xx), .val (.int j), .val (.int (xx.toInt8.toInt32)), .val (.int (xx &&& (255 : Int32))), .unset] [(.int (31 : Int32)), (.int ((xx &&& (255 : Int32)) % (32 : Int32)))]))
    by_cases h34 : ((xx &&& (255 : Int32)) % (32 : Int32)) = (31 : Int32)
    · skip
      refine own_st (fun _ kk => XS.icmpNo X0.here hx rfl (hb hby at_34) rfl (teq h34).2 kk) ?_
      show OwnG _ _ _ _ _ _ _ (T0.setTop (mkF m 37 #[.val (.int mo), .val (.int i), .val (.int xx), .val (.int j), .val (.int (xx.toInt8.toInt32)), .val (.int (xx &&& (255 : Int32))), .unset] []))
      refine own_st (fun _ kk => XS.iconst X0.here hx rfl (hb hby at_37) kk) ?_
      show OwnG _ _ _ _ _ _ _ (T0.setTop (mkF m 38 #[.val (.int mo), .val (.int i), .val (.int xx), .val (.int j), .val (.int (xx.toInt8.toInt32)), .val (.int (xx &&& (255 : Int32))), .unset] [(.int (1 : Int32))]))
      refine own_st (fun _ kk => XS.goto X0.here hx rfl (pc0 := 38) (pc' := 42) rfl (hb hby at_38) (by decide) (by decide) kk) ?_
      show OwnG _ _ _ _ _ _ _ (T0.setTop (mkF m 42 #[.val (.int mo), .val (.int i), .val (.int xx), .val (.int j), .val (.int (xx.toInt8.toInt32)), .val (.int (xx &&& (255 : Int32))), .unset] [(.int (1 : Int32))]))
      refine own_st (fun _ kk => XS.istore X0.here hx rfl (hb hby at_42) rfl (l' := #[.val (.int mo), .val (.int i), .val (.int xx), .val (.int j), .val (.int (xx.toInt8.toInt32)), .val (.int (xx &&& (255 : Int32))), .val (.int (1 : Int32))]) rfl kk) ?_
      show OwnG _ _ _ _ _ _ _ (T0.setTop (mkF m 44 #[.val (.int mo), .val (.int i), .val (.int xx), .val (.int j), .val (.int (xx.toInt8.toInt32)), .val (.int (xx &&& (255 : Int32))), .val (.int (1 : Int32))] []))
      refine own_st (fun _ kk => XS.goto X0.here hx rfl (pc0 := 44) (pc' := 59) rfl (hb hby at_44) (by decide) (by decide) kk) ?_
      show OwnG _ _ _ _ _ _ _ (T0.setTop (mkF m 59 #[.val (.int mo), .val (.int i), .val (.int xx), .val (.int j), .val (.int (xx.toInt8.toInt32)), .val (.int (xx &&& (255 : Int32))), .val (.int (1 : Int32))] []))
      refine own_st (fun _ kk => XS.iloadN X0.here hx rfl (hb hby at_59) rfl kk) ?_
      show OwnG _ _ _ _ _ _ _ (T0.setTop (mkF m 60 #[.val (.int mo), .val (.int i), .val (.int xx), .val (.int j), .val (.int (xx.toInt8.toInt32)), .val (.int (xx &&& (255 : Int32))), .val (.int (1 : Int32))] [(.int j)]))
      refine own_st (fun _ kk => XS.iload X0.here hx rfl (hb hby at_60) rfl kk) ?_
      show OwnG _ _ _ _ _ _ _ (T0.setTop (mkF m 62 #[.val (.int mo), .val (.int i), .val (.int xx), .val (.int j), .val (.int (xx.toInt8.toInt32)), .val (.int (xx &&& (255 : Int32))), .val (.int (1 : Int32))] [(.int (xx.toInt8.toInt32)), (.int j)]))
      obtain ⟨_, _, ⟨T1, L1, k1, n1⟩, -, X1, ⟨Lc1, hQ1, l1, y1, z1⟩, st1⟩ := Jvm.LawKit.callS X0 hx (y := (⟨"com/example/quetma/quetma/TlvObject", "continues", "(IB)Z"⟩ : MethodName)) hown (mvT hZ (hw _ (List.mem_of_getElem? (i := 0) rfl))) (mvT hZ (hw _ (List.mem_of_getElem? (i := 1) rfl))) (mvT hZ (hw _ (List.mem_of_getElem? (i := 2) rfl))) (mvT hZ (hw _ (List.mem_of_getElem? (i := 3) rfl))) (by decide) (backOf (W := 0) (rm1 l Z a0 hw [] j (xx.toInt8.toInt32) h0 n0 Z0) hZ (hw _ (List.mem_of_getElem? (i := 3) rfl)) (hw _ (List.mem_of_getElem? (i := 2) rfl)) (by decide) (by decide)) (g := (mkF m 62 #[.val (.int mo), .val (.int i), .val (.int xx), .val (.int j), .val (.int (xx.toInt8.toInt32)), .val (.int (xx &&& (255 : Int32))), .val (.int (1 : Int32))] [(.int (xx.toInt8.toInt32)), (.int j)])) rfl (by rw [hml]; rfl) (argsL := [(.int j), (.int (xx.toInt8.toInt32))]) (rest := []) (lenOf (by decide +kernel : parseMethodDescriptor "(IB)Z" = some ⟨[.int, .byte], some .boolean⟩) rfl) rfl (by show 2 * 0 + _ ≤ _; exact Nat.le_of_eq rfl) (hb hby at_62) (fun _ _ => ⟨rfl, e0, (by dsimp only [Pt.cells]; decide), (by dsimp only [Pt.slots]; decide)⟩)
      dsimp only [Pt.U, Pt.locs, Pt.cells, Pt.slots] at X1 l1 y1 z1 st1 hQ1
      subst l1 y1 z1
      obtain ⟨rfl, N1q, E1⟩ := hQ1
      have N1 := Fr.app N0 N1q
      refine own_st st1 ?_
      show OwnG _ _ _ _ _ _ _ (T1.setTop (mkF m 65 #[.val (.int mo), .val (.int i), .val (.int xx), .val (.int j), .val (.int (xx.toInt8.toInt32)), .val (.int (xx &&& (255 : Int32))), .val (.int (1 : Int32))] [(.int (own_c j (xx.toInt8.toInt32)))]))
      refine own_st (fun _ kk => XS.iload X1.here hx rfl (hb hby at_65) rfl kk) ?_
      show OwnG _ _ _ _ _ _ _ (T1.setTop (mkF m 67 #[.val (.int mo), .val (.int i), .val (.int xx), .val (.int j), .val (.int (xx.toInt8.toInt32)), .val (.int (xx &&& (255 : Int32))), .val (.int (1 : Int32))] [(.int (1 : Int32)), (.int (own_c j (xx.toInt8.toInt32)))]))
      refine own_st (fun _ kk => XS.icmpNo X1.here hx rfl (hb hby at_67) rfl (teq (by simp only [own_c, if_pos h24, if_pos ((own_n1 xx).mp h34)])).2 kk) ?_
      show OwnG _ _ _ _ _ _ _ (T1.setTop (mkF m 70 #[.val (.int mo), .val (.int i), .val (.int xx), .val (.int j), .val (.int (xx.toInt8.toInt32)), .val (.int (xx &&& (255 : Int32))), .val (.int (1 : Int32))] []))
      refine own_st (fun _ kk => XS.iconst X1.here hx rfl (hb hby at_70) kk) ?_
      show OwnG _ _ _ _ _ _ _ (T1.setTop (mkF m 71 #[.val (.int mo), .val (.int i), .val (.int xx), .val (.int j), .val (.int (xx.toInt8.toInt32)), .val (.int (xx &&& (255 : Int32))), .val (.int (1 : Int32))] [(.int (1 : Int32))]))
      refine own_st (fun _ kk => XS.goto X1.here hx rfl (pc0 := 71) (pc' := 75) rfl (hb hby at_71) (by decide) (by decide) kk) ?_
      show OwnG _ _ _ _ _ _ _ (T1.setTop (mkF m 75 #[.val (.int mo), .val (.int i), .val (.int xx), .val (.int j), .val (.int (xx.toInt8.toInt32)), .val (.int (xx &&& (255 : Int32))), .val (.int (1 : Int32))] [(.int (1 : Int32))]))
      exact own_retN X1 hx hrt hlk (t := .boolean) (by simp) (hb hby at_75) (by decide) (by decide) (by show _ ∧ _; exact ⟨rfl, N1⟩)
    · skip
      refine own_st (fun _ kk => XS.icmpYes X0.here hx rfl (pc0 := 34) (pc' := 41) rfl (hb hby at_34) rfl (feq h34).2 (by decide) (by decide) kk) ?_
      show OwnG _ _ _ _ _ _ _ (T0.setTop (mkF m 41 #[.val (.int mo), .val (.int i), .val (.int xx), .val (.int j), .val (.int (xx.toInt8.toInt32)), .val (.int (xx &&& (255 : Int32))), .unset] []))
      refine own_st (fun _ kk => XS.iconst X0.here hx rfl (hb hby at_41) kk) ?_
      show OwnG _ _ _ _ _ _ _ (T0.setTop (mkF m 42 #[.val (.int mo), .val (.int i), .val (.int xx), .val (.int j), .val (.int (xx.toInt8.toInt32)), .val (.int (xx &&& (255 : Int32))), .unset] [(.int (0 : Int32))]))
      refine own_st (fun _ kk => XS.istore X0.here hx rfl (hb hby at_42) rfl (l' := #[.val (.int mo), .val (.int i), .val (.int xx), .val (.int j), .val (.int (xx.toInt8.toInt32)), .val (.int (xx &&& (255 : Int32))), .val (.int (0 : Int32))]) rfl kk) ?_
      show OwnG _ _ _ _ _ _ _ (T0.setTop (mkF m 44 #[.val (.int mo), .val (.int i), .val (.int xx), .val (.int j), .val (.int (xx.toInt8.toInt32)), .val (.int (xx &&& (255 : Int32))), .val (.int (0 : Int32))] []))
      refine own_st (fun _ kk => XS.goto X0.here hx rfl (pc0 := 44) (pc' := 59) rfl (hb hby at_44) (by decide) (by decide) kk) ?_
      show OwnG _ _ _ _ _ _ _ (T0.setTop (mkF m 59 #[.val (.int mo), .val (.int i), .val (.int xx), .val (.int j), .val (.int (xx.toInt8.toInt32)), .val (.int (xx &&& (255 : Int32))), .val (.int (0 : Int32))] []))
      refine own_st (fun _ kk => XS.iloadN X0.here hx rfl (hb hby at_59) rfl kk) ?_
      show OwnG _ _ _ _ _ _ _ (T0.setTop (mkF m 60 #[.val (.int mo), .val (.int i), .val (.int xx), .val (.int j), .val (.int (xx.toInt8.toInt32)), .val (.int (xx &&& (255 : Int32))), .val (.int (0 : Int32))] [(.int j)]))
      refine own_st (fun _ kk => XS.iload X0.here hx rfl (hb hby at_60) rfl kk) ?_
      show OwnG _ _ _ _ _ _ _ (T0.setTop (mkF m 62 #[.val (.int mo), .val (.int i), .val (.int xx), .val (.int j), .val (.int (xx.toInt8.toInt32)), .val (.int (xx &&& (255 : Int32))), .val (.int (0 : Int32))] [(.int (xx.toInt8.toInt32)), (.int j)]))
      obtain ⟨_, _, ⟨T2, L2, k2, n2⟩, -, X2, ⟨Lc2, hQ2, l2, y2, z2⟩, st2⟩ := Jvm.LawKit.callS X0 hx (y := (⟨"com/example/quetma/quetma/TlvObject", "continues", "(IB)Z"⟩ : MethodName)) hown (mvT hZ (hw _ (List.mem_of_getElem? (i := 0) rfl))) (mvT hZ (hw _ (List.mem_of_getElem? (i := 1) rfl))) (mvT hZ (hw _ (List.mem_of_getElem? (i := 2) rfl))) (mvT hZ (hw _ (List.mem_of_getElem? (i := 3) rfl))) (by decide) (backOf (W := 0) (rm1 l Z a0 hw [] j (xx.toInt8.toInt32) h0 n0 Z0) hZ (hw _ (List.mem_of_getElem? (i := 3) rfl)) (hw _ (List.mem_of_getElem? (i := 2) rfl)) (by decide) (by decide)) (g := (mkF m 62 #[.val (.int mo), .val (.int i), .val (.int xx), .val (.int j), .val (.int (xx.toInt8.toInt32)), .val (.int (xx &&& (255 : Int32))), .val (.int (0 : Int32))] [(.int (xx.toInt8.toInt32)), (.int j)])) rfl (by rw [hml]; rfl) (argsL := [(.int j), (.int (xx.toInt8.toInt32))]) (rest := []) (lenOf (by decide +kernel : parseMethodDescriptor "(IB)Z" = some ⟨[.int, .byte], some .boolean⟩) rfl) rfl (by show 2 * 0 + _ ≤ _; exact Nat.le_of_eq rfl) (hb hby at_62) (fun _ _ => ⟨rfl, e0, (by dsimp only [Pt.cells]; decide), (by dsimp only [Pt.slots]; decide)⟩)
      dsimp only [Pt.U, Pt.locs, Pt.cells, Pt.slots] at X2 l2 y2 z2 st2 hQ2
      subst l2 y2 z2
      obtain ⟨rfl, N2q, E2⟩ := hQ2
      have N2 := Fr.app N0 N2q
      refine own_st st2 ?_
      show OwnG _ _ _ _ _ _ _ (T2.setTop (mkF m 65 #[.val (.int mo), .val (.int i), .val (.int xx), .val (.int j), .val (.int (xx.toInt8.toInt32)), .val (.int (xx &&& (255 : Int32))), .val (.int (0 : Int32))] [(.int (own_c j (xx.toInt8.toInt32)))]))
      refine own_st (fun _ kk => XS.iload X2.here hx rfl (hb hby at_65) rfl kk) ?_
      show OwnG _ _ _ _ _ _ _ (T2.setTop (mkF m 67 #[.val (.int mo), .val (.int i), .val (.int xx), .val (.int j), .val (.int (xx.toInt8.toInt32)), .val (.int (xx &&& (255 : Int32))), .val (.int (0 : Int32))] [(.int (0 : Int32)), (.int (own_c j (xx.toInt8.toInt32)))]))
      refine own_st (fun _ kk => XS.icmpNo X2.here hx rfl (hb hby at_67) rfl (teq (by simp only [own_c, if_pos h24, if_neg (fun q => h34 ((own_n1 xx).mpr q))])).2 kk) ?_
      show OwnG _ _ _ _ _ _ _ (T2.setTop (mkF m 70 #[.val (.int mo), .val (.int i), .val (.int xx), .val (.int j), .val (.int (xx.toInt8.toInt32)), .val (.int (xx &&& (255 : Int32))), .val (.int (0 : Int32))] []))
      refine own_st (fun _ kk => XS.iconst X2.here hx rfl (hb hby at_70) kk) ?_
      show OwnG _ _ _ _ _ _ _ (T2.setTop (mkF m 71 #[.val (.int mo), .val (.int i), .val (.int xx), .val (.int j), .val (.int (xx.toInt8.toInt32)), .val (.int (xx &&& (255 : Int32))), .val (.int (0 : Int32))] [(.int (1 : Int32))]))
      refine own_st (fun _ kk => XS.goto X2.here hx rfl (pc0 := 71) (pc' := 75) rfl (hb hby at_71) (by decide) (by decide) kk) ?_
      show OwnG _ _ _ _ _ _ _ (T2.setTop (mkF m 75 #[.val (.int mo), .val (.int i), .val (.int xx), .val (.int j), .val (.int (xx.toInt8.toInt32)), .val (.int (xx &&& (255 : Int32))), .val (.int (0 : Int32))] [(.int (1 : Int32))]))
      exact own_retN X2 hx hrt hlk (t := .boolean) (by simp) (hb hby at_75) (by decide) (by decide) (by show _ ∧ _; exact ⟨rfl, N2⟩)
  · skip
    refine own_st (fun _ kk => XS.ifYes X0.here hx rfl (pc0 := 24) (pc' := 47) rfl (hb hby at_24) rfl ((if0 _ _).trans (feq h24).2) (by decide) (by decide) kk) ?_
    show OwnG _ _ _ _ _ _ _ (T0.setTop (mkF m 47 #[.val (.int mo), .val (.int i), .val (.int xx), .val (.int j), .val (.int (xx.toInt8.toInt32)), .val (.int (xx &&& (255 : Int32))), .unset] []))
    refine own_st (fun _ kk => XS.iload X0.here hx rfl (hb hby at_47) rfl kk) ?_
    show OwnG _ _ _ _ _ _ _ (T0.setTop (mkF m 49 #[.val (.int mo), .val (.int i), .val (.int xx), .val (.int j), .val (.int (xx.toInt8.toInt32)), .val (.int (xx &&& (255 : Int32))), .unset] [(.int (xx.toInt8.toInt32))]))
    by_cases h49 : (xx.toInt8.toInt32) < (0 : Int32)
    · skip
      refine own_st (fun _ kk => XS.ifNo X0.here hx rfl (hb hby at_49) rfl ((if0 _ _).trans (tlt h49).2.1) kk) ?_
      show OwnG _ _ _ _ _ _ _ (T0.setTop (mkF m 52 #[.val (.int mo), .val (.int i), .val (.int xx), .val (.int j), .val (.int (xx.toInt8.toInt32)), .val (.int (xx &&& (255 : Int32))), .unset] []))
      refine own_st (fun _ kk => XS.iconst X0.here hx rfl (hb hby at_52) kk) ?_
      show OwnG _ _ _ _ _ _ _ (T0.setTop (mkF m 53 #[.val (.int mo), .val (.int i), .val (.int xx), .val (.int j), .val (.int (xx.toInt8.toInt32)), .val (.int (xx &&& (255 : Int32))), .unset] [(.int (1 : Int32))]))
      refine own_st (fun _ kk => XS.goto X0.here hx rfl (pc0 := 53) (pc' := 57) rfl (hb hby at_53) (by decide) (by decide) kk) ?_
      show OwnG _ _ _ _ _ _ _ (T0.setTop (mkF m 57 #[.val (.int mo), .val (.int i), .val (.int xx), .val (.int j), .val (.int (xx.toInt8.toInt32)), .val (.int (xx &&& (255 : Int32))), .unset] [(.int (1 : Int32))]))
      refine own_st (fun _ kk => XS.istore X0.here hx rfl (hb hby at_57) rfl (l' := #[.val (.int mo), .val (.int i), .val (.int xx), .val (.int j), .val (.int (xx.toInt8.toInt32)), .val (.int (xx &&& (255 : Int32))), .val (.int (1 : Int32))]) rfl kk) ?_
      show OwnG _ _ _ _ _ _ _ (T0.setTop (mkF m 59 #[.val (.int mo), .val (.int i), .val (.int xx), .val (.int j), .val (.int (xx.toInt8.toInt32)), .val (.int (xx &&& (255 : Int32))), .val (.int (1 : Int32))] []))
      refine own_st (fun _ kk => XS.iloadN X0.here hx rfl (hb hby at_59) rfl kk) ?_
      show OwnG _ _ _ _ _ _ _ (T0.setTop (mkF m 60 #[.val (.int mo), .val (.int i), .val (.int xx), .val (.int j), .val (.int (xx.toInt8.toInt32)), .val (.int (xx &&& (255 : Int32))), .val (.int (1 : Int32))] [(.int j)]))
      refine own_st (fun _ kk => XS.iload X0.here hx rfl (hb hby at_60) rfl kk) ?_
      show OwnG _ _ _ _ _ _ _ (T0.setTop (mkF m 62 #[.val (.int mo), .val (.int i), .val (.int xx), .val (.int j), .val (.int (xx.toInt8.toInt32)), .val (.int (xx &&& (255 : Int32))), .val (.int (1 : Int32))] [(.int (xx.toInt8.toInt32)), (.int j)]))
      obtain ⟨_, _, ⟨T3, L3, k3, n3⟩, -, X3, ⟨Lc3, hQ3, l3, y3, z3⟩, st3⟩ := Jvm.LawKit.callS X0 hx (y := (⟨"com/example/quetma/quetma/TlvObject", "continues", "(IB)Z"⟩ : MethodName)) hown (mvT hZ (hw _ (List.mem_of_getElem? (i := 0) rfl))) (mvT hZ (hw _ (List.mem_of_getElem? (i := 1) rfl))) (mvT hZ (hw _ (List.mem_of_getElem? (i := 2) rfl))) (mvT hZ (hw _ (List.mem_of_getElem? (i := 3) rfl))) (by decide) (backOf (W := 0) (rm1 l Z a0 hw [] j (xx.toInt8.toInt32) h0 n0 Z0) hZ (hw _ (List.mem_of_getElem? (i := 3) rfl)) (hw _ (List.mem_of_getElem? (i := 2) rfl)) (by decide) (by decide)) (g := (mkF m 62 #[.val (.int mo), .val (.int i), .val (.int xx), .val (.int j), .val (.int (xx.toInt8.toInt32)), .val (.int (xx &&& (255 : Int32))), .val (.int (1 : Int32))] [(.int (xx.toInt8.toInt32)), (.int j)])) rfl (by rw [hml]; rfl) (argsL := [(.int j), (.int (xx.toInt8.toInt32))]) (rest := []) (lenOf (by decide +kernel : parseMethodDescriptor "(IB)Z" = some ⟨[.int, .byte], some .boolean⟩) rfl) rfl (by show 2 * 0 + _ ≤ _; exact Nat.le_of_eq rfl) (hb hby at_62) (fun _ _ => ⟨rfl, e0, (by dsimp only [Pt.cells]; decide), (by dsimp only [Pt.slots]; decide)⟩)
      dsimp only [Pt.U, Pt.locs, Pt.cells, Pt.slots] at X3 l3 y3 z3 st3 hQ3
      subst l3 y3 z3
      obtain ⟨rfl, N3q, E3⟩ := hQ3
      have N3 := Fr.app N0 N3q
      refine own_st st3 ?_
      show OwnG _ _ _ _ _ _ _ (T3.setTop (mkF m 65 #[.val (.int mo), .val (.int i), .val (.int xx), .val (.int j), .val (.int (xx.toInt8.toInt32)), .val (.int (xx &&& (255 : Int32))), .val (.int (1 : Int32))] [(.int (own_c j (xx.toInt8.toInt32)))]))
      refine own_st (fun _ kk => XS.iload X3.here hx rfl (hb hby at_65) rfl kk) ?_
      show OwnG _ _ _ _ _ _ _ (T3.setTop (mkF m 67 #[.val (.int mo), .val (.int i), .val (.int xx), .val (.int j), .val (.int (xx.toInt8.toInt32)), .val (.int (xx &&& (255 : Int32))), .val (.int (1 : Int32))] [(.int (1 : Int32)), (.int (own_c j (xx.toInt8.toInt32)))]))
      refine own_st (fun _ kk => XS.icmpNo X3.here hx rfl (hb hby at_67) rfl (teq (by simp only [own_c, if_neg h24, if_neg ((own_n2 xx).mp h49)])).2 kk) ?_
      show OwnG _ _ _ _ _ _ _ (T3.setTop (mkF m 70 #[.val (.int mo), .val (.int i), .val (.int xx), .val (.int j), .val (.int (xx.toInt8.toInt32)), .val (.int (xx &&& (255 : Int32))), .val (.int (1 : Int32))] []))
      refine own_st (fun _ kk => XS.iconst X3.here hx rfl (hb hby at_70) kk) ?_
      show OwnG _ _ _ _ _ _ _ (T3.setTop (mkF m 71 #[.val (.int mo), .val (.int i), .val (.int xx), .val (.int j), .val (.int (xx.toInt8.toInt32)), .val (.int (xx &&& (255 : Int32))), .val (.int (1 : Int32))] [(.int (1 : Int32))]))
      refine own_st (fun _ kk => XS.goto X3.here hx rfl (pc0 := 71) (pc' := 75) rfl (hb hby at_71) (by decide) (by decide) kk) ?_
      show OwnG _ _ _ _ _ _ _ (T3.setTop (mkF m 75 #[.val (.int mo), .val (.int i), .val (.int xx), .val (.int j), .val (.int (xx.toInt8.toInt32)), .val (.int (xx &&& (255 : Int32))), .val (.int (1 : Int32))] [(.int (1 : Int32))]))
      exact own_retN X3 hx hrt hlk (t := .boolean) (by simp) (hb hby at_75) (by decide) (by decide) (by show _ ∧ _; exact ⟨rfl, N3⟩)
    · skip
      refine own_st (fun _ kk => XS.ifYes X0.here hx rfl (pc0 := 49) (pc' := 56) rfl (hb hby at_49) rfl ((if0 _ _).trans (flt h49).2.1) (by decide) (by decide) kk) ?_
      show OwnG _ _ _ _ _ _ _ (T0.setTop (mkF m 56 #[.val (.int mo), .val (.int i), .val (.int xx), .val (.int j), .val (.int (xx.toInt8.toInt32)), .val (.int (xx &&& (255 : Int32))), .unset] []))
      refine own_st (fun _ kk => XS.iconst X0.here hx rfl (hb hby at_56) kk) ?_
      show OwnG _ _ _ _ _ _ _ (T0.setTop (mkF m 57 #[.val (.int mo), .val (.int i), .val (.int xx), .val (.int j), .val (.int (xx.toInt8.toInt32)), .val (.int (xx &&& (255 : Int32))), .unset] [(.int (0 : Int32))]))
      refine own_st (fun _ kk => XS.istore X0.here hx rfl (hb hby at_57) rfl (l' := #[.val (.int mo), .val (.int i), .val (.int xx), .val (.int j), .val (.int (xx.toInt8.toInt32)), .val (.int (xx &&& (255 : Int32))), .val (.int (0 : Int32))]) rfl kk) ?_
      show OwnG _ _ _ _ _ _ _ (T0.setTop (mkF m 59 #[.val (.int mo), .val (.int i), .val (.int xx), .val (.int j), .val (.int (xx.toInt8.toInt32)), .val (.int (xx &&& (255 : Int32))), .val (.int (0 : Int32))] []))
      refine own_st (fun _ kk => XS.iloadN X0.here hx rfl (hb hby at_59) rfl kk) ?_
      show OwnG _ _ _ _ _ _ _ (T0.setTop (mkF m 60 #[.val (.int mo), .val (.int i), .val (.int xx), .val (.int j), .val (.int (xx.toInt8.toInt32)), .val (.int (xx &&& (255 : Int32))), .val (.int (0 : Int32))] [(.int j)]))
      refine own_st (fun _ kk => XS.iload X0.here hx rfl (hb hby at_60) rfl kk) ?_
      show OwnG _ _ _ _ _ _ _ (T0.setTop (mkF m 62 #[.val (.int mo), .val (.int i), .val (.int xx), .val (.int j), .val (.int (xx.toInt8.toInt32)), .val (.int (xx &&& (255 : Int32))), .val (.int (0 : Int32))] [(.int (xx.toInt8.toInt32)), (.int j)]))
      obtain ⟨_, _, ⟨T4, L4, k4, n4⟩, -, X4, ⟨Lc4, hQ4, l4, y4, z4⟩, st4⟩ := Jvm.LawKit.callS X0 hx (y := (⟨"com/example/quetma/quetma/TlvObject", "continues", "(IB)Z"⟩ : MethodName)) hown (mvT hZ (hw _ (List.mem_of_getElem? (i := 0) rfl))) (mvT hZ (hw _ (List.mem_of_getElem? (i := 1) rfl))) (mvT hZ (hw _ (List.mem_of_getElem? (i := 2) rfl))) (mvT hZ (hw _ (List.mem_of_getElem? (i := 3) rfl))) (by decide) (backOf (W := 0) (rm1 l Z a0 hw [] j (xx.toInt8.toInt32) h0 n0 Z0) hZ (hw _ (List.mem_of_getElem? (i := 3) rfl)) (hw _ (List.mem_of_getElem? (i := 2) rfl)) (by decide) (by decide)) (g := (mkF m 62 #[.val (.int mo), .val (.int i), .val (.int xx), .val (.int j), .val (.int (xx.toInt8.toInt32)), .val (.int (xx &&& (255 : Int32))), .val (.int (0 : Int32))] [(.int (xx.toInt8.toInt32)), (.int j)])) rfl (by rw [hml]; rfl) (argsL := [(.int j), (.int (xx.toInt8.toInt32))]) (rest := []) (lenOf (by decide +kernel : parseMethodDescriptor "(IB)Z" = some ⟨[.int, .byte], some .boolean⟩) rfl) rfl (by show 2 * 0 + _ ≤ _; exact Nat.le_of_eq rfl) (hb hby at_62) (fun _ _ => ⟨rfl, e0, (by dsimp only [Pt.cells]; decide), (by dsimp only [Pt.slots]; decide)⟩)
      dsimp only [Pt.U, Pt.locs, Pt.cells, Pt.slots] at X4 l4 y4 z4 st4 hQ4
      subst l4 y4 z4
      obtain ⟨rfl, N4q, E4⟩ := hQ4
      have N4 := Fr.app N0 N4q
      refine own_st st4 ?_
      show OwnG _ _ _ _ _ _ _ (T4.setTop (mkF m 65 #[.val (.int mo), .val (.int i), .val (.int xx), .val (.int j), .val (.int (xx.toInt8.toInt32)), .val (.int (xx &&& (255 : Int32))), .val (.int (0 : Int32))] [(.int (own_c j (xx.toInt8.toInt32)))]))
      refine own_st (fun _ kk => XS.iload X4.here hx rfl (hb hby at_65) rfl kk) ?_
      show OwnG _ _ _ _ _ _ _ (T4.setTop (mkF m 67 #[.val (.int mo), .val (.int i), .val (.int xx), .val (.int j), .val (.int (xx.toInt8.toInt32)), .val (.int (xx &&& (255 : Int32))), .val (.int (0 : Int32))] [(.int (0 : Int32)), (.int (own_c j (xx.toInt8.toInt32)))]))
      refine own_st (fun _ kk => XS.icmpNo X4.here hx rfl (hb hby at_67) rfl (teq (by simp only [own_c, if_neg h24, if_pos (Classical.byContradiction fun q => h49 ((own_n2 xx).mpr q))])).2 kk) ?_
      show OwnG _ _ _ _ _ _ _ (T4.setTop (mkF m 70 #[.val (.int mo), .val (.int i), .val (.int xx), .val (.int j), .val (.int (xx.toInt8.toInt32)), .val (.int (xx &&& (255 : Int32))), .val (.int (0 : Int32))] []))
      refine own_st (fun _ kk => XS.iconst X4.here hx rfl (hb hby at_70) kk) ?_
      show OwnG _ _ _ _ _ _ _ (T4.setTop (mkF m 71 #[.val (.int mo), .val (.int i), .val (.int xx), .val (.int j), .val (.int (xx.toInt8.toInt32)), .val (.int (xx &&& (255 : Int32))), .val (.int (0 : Int32))] [(.int (1 : Int32))]))
      refine own_st (fun _ kk => XS.goto X4.here hx rfl (pc0 := 71) (pc' := 75) rfl (hb hby at_71) (by decide) (by decide) kk) ?_
      show OwnG _ _ _ _ _ _ _ (T4.setTop (mkF m 75 #[.val (.int mo), .val (.int i), .val (.int xx), .val (.int j), .val (.int (xx.toInt8.toInt32)), .val (.int (xx &&& (255 : Int32))), .val (.int (0 : Int32))] [(.int (1 : Int32))]))
      exact own_retN X4 hx hrt hlk (t := .boolean) (by simp) (hb hby at_75) (by decide) (by decide) (by show _ ∧ _; exact ⟨rfl, N4⟩)
theorem pn_0 : plainName "com/example/quetma/quetma/TlvObjectContinuesPinLaw" = true := by first | (simp [plainName, overriddenIn]; done) | decide +kernel
theorem ef_0 (m : MethodId) (x0 : Int32) (x1 : Int32) (x2 : Int32) : entryFrame m #[(.int x0), (.int x1), (.int x2)] maxLocals = mkF m 0 #[.val (.int x0), .val (.int x1), .val (.int x2), .unset, .unset, .unset, .unset] [] := by first | (simp [entryFrame, mkF, argsToLocals, Value.category, maxLocals]; done) | rfl
set_option maxRecDepth 65536 in
set_option maxHeartbeats 40000000 in
theorem rm0 (l : Launch) (Z : State) (a0 : Array Value) (hw : ∀ d ∈ tables_1, d.before a0 Z = true) (ws : List Jvm.Cond) (mo : Int32) (i : Int32) (xx : Int32) (h0 : Heap) (n0 : Nat) (Z0 : n0 ≤ h0.size)  :
    MetFree l x (head1 (Jvm.Cond.code x code maxLocals ret :: ws) room_1) (fun a U => a = #[(.int mo), (.int i), (.int xx)] ∧ Z.Warmed39 U.vm ∧ U.heap = h0) (fun _ _ _ _ _ => True) (fun _ U o U' => ∃ v L, o = .returned v ∧ Q0 Z mo i xx h0 n0 v U'.heap L ∧ FrameEnd U o U' L 0 0) := by
  refine MetFree.of_bodySF (plainFor_of_name pn_0) hisR ?_
  intro p e s m args below meth c s₁ Bd hml0 hP hK
  obtain ⟨rfl, hZ, hh⟩ := hP
  have hx := Bd.exec
  have hby := Bd.bytes
  have hml : c.maxLocals = 7 := hml0
  have hown : s.vm.findClass "com/example/quetma/quetma/TlvObjectContinuesPinLaw" = some m.cls := findClass_of_methodNamed Bd.named
  have hnm := (name_of_methodNamed Bd.named Bd.method).1
  have hrt := Bd.returns
  have hlk : meth.locks = false := BodyLoose.notSynchronized Bd
  have X0 : Stand p l e room_1 s m #[(.int mo), (.int i), (.int xx)] below meth c s₁ [] 0 0 := Stand.of_body Bd
  have e0 : s₁.heap = h0 := by rw [← hh, Bd.state]; rfl
  have N0 := Fr.nil n0
  show OwnG 0 0 (Q0 Z mo i xx h0 n0) p e below s (s₁.setTop (entryFrame m #[(.int mo), (.int i), (.int xx)] maxLocals))
  refine own_st (σ' := s₁.setTop (mkF m 0 #[.val (.int mo), .val (.int i), .val (.int xx), .unset, .unset, .unset, .unset] [])) (fun t k => castTop (ef_0 m mo i xx) k) ?_
  show OwnG _ _ _ _ _ _ _ (s₁.setTop (mkF m 0 #[.val (.int mo), .val (.int i), .val (.int xx), .unset, .unset, .unset, .unset] []))
  refine own_st (fun _ kk => XS.iloadN X0.here hx rfl (hb hby at_0) rfl kk) ?_
  show OwnG _ _ _ _ _ _ _ (s₁.setTop (mkF m 1 #[.val (.int mo), .val (.int i), .val (.int xx), .unset, .unset, .unset, .unset] [(.int mo)]))
  refine own_st (fun _ kk => XS.iconst X0.here hx rfl (hb hby at_1) kk) ?_
  show OwnG _ _ _ _ _ _ _ (s₁.setTop (mkF m 2 #[.val (.int mo), .val (.int i), .val (.int xx), .unset, .unset, .unset, .unset] [(.int (1 : Int32)), (.int mo)]))
  refine own_st (fun _ kk => XS.iand X0.here hx rfl (hb hby at_2) rfl kk) ?_
  show OwnG _ _ _ _ _ _ _ (s₁.setTop (mkF m 3 #[.val (.int mo), .val (.int i), .val (.int xx), .unset, .unset, .unset, .unset] [(.int (mo &&& (1 : Int32)))]))
  by_cases h3 : (mo &&& (1 : Int32)) = (0 : Int32)
  · skip
    refine own_st (fun _ kk => XS.ifYes X0.here hx rfl (pc0 := 3) (pc' := 10) rfl (hb hby at_3) rfl ((if0 _ _).trans (teq h3).1) (by decide) (by decide) kk) ?_
    show OwnG _ _ _ _ _ _ _ (s₁.setTop (mkF m 10 #[.val (.int mo), .val (.int i), .val (.int xx), .unset, .unset, .unset, .unset] []))
    refine own_st (fun _ kk => XS.iloadN X0.here hx rfl (hb hby at_10) rfl kk) ?_
    show OwnG _ _ _ _ _ _ _ (s₁.setTop (mkF m 11 #[.val (.int mo), .val (.int i), .val (.int xx), .unset, .unset, .unset, .unset] [(.int i)]))
    exact own_b11 hx hZ hw hby hml hown hrt hlk mo i xx i n0 X0 e0 N0 Z0
  · skip
    refine own_st (fun _ kk => XS.ifNo X0.here hx rfl (hb hby at_3) rfl ((if0 _ _).trans (feq h3).1) kk) ?_
    show OwnG _ _ _ _ _ _ _ (s₁.setTop (mkF m 6 #[.val (.int mo), .val (.int i), .val (.int xx), .unset, .unset, .unset, .unset] []))
    refine own_st (fun _ kk => XS.iconst X0.here hx rfl (hb hby at_6) kk) ?_
    show OwnG _ _ _ _ _ _ _ (s₁.setTop (mkF m 7 #[.val (.int mo), .val (.int i), .val (.int xx), .unset, .unset, .unset, .unset] [(.int (0 : Int32))]))
    refine own_st (fun _ kk => XS.goto X0.here hx rfl (pc0 := 7) (pc' := 11) rfl (hb hby at_7) (by decide) (by decide) kk) ?_
    show OwnG _ _ _ _ _ _ _ (s₁.setTop (mkF m 11 #[.val (.int mo), .val (.int i), .val (.int xx), .unset, .unset, .unset, .unset] [(.int (0 : Int32))]))
    exact own_b11 hx hZ hw hby hml hown hrt hlk mo i xx (0 : Int32) n0 X0 e0 N0 Z0
set_option maxRecDepth 65536 in
set_option maxHeartbeats 40000000 in
theorem comes_1 {Post : Tables → Env → Array Value → State → Outcome → State → Prop} (hpost : ∀ tb e args s v u, (limb_1_1.after args s (.returned v) u = true ∧ limb_1_2.after args s (.returned v) u = true ∧ True) → FrameEnd s (.returned v) u (Jvm.fieldLocs frame_1_writes args s ++ Jvm.arrayLocs frame_1_arrays args s ++ Jvm.staticLocs frame_1_statics s) 0 0 → Post tb e args s (.returned v) u) :
    ArmFor flags0 classFile x code maxLocals ret World_1 tables_1 room_1 Calls_1 rest_1 Pre_1 Post := by
  intro l hfl _ _ p e ha hc hk s m args below hf hA hF happ hP
  obtain ⟨hcalls, hrest, hpre⟩ := hP
  obtain ⟨-, -, -, hnamed, -, -, -, hat⟩ := (Spec.applies_iff hf).mp happ
  obtain ⟨hg, hn⟩ := and_e (Cond.before_iff.mp (show (Jvm.Cond.and given_1 narrow_1).before args s = true from hpre))
  obtain ⟨gc, r0⟩ := and_e hg
  obtain ⟨g0, r1⟩ := and_e r0
  obtain ⟨g1, r2⟩ := and_e r1
  obtain ⟨w0, w1, w2, rfl⟩ : ∃ w0 w1 w2 : Value, args = #[w0, w1, w2] := by
    have hs : args.size = 3 := by simpa [Cond.value, given_1] using gc
    obtain ⟨L⟩ := args
    match L, hs with
    | [w0, w1, w2], _ => exact ⟨w0, w1, w2, rfl⟩
  have hw := fun d (hd : d ∈ tables_1) => atoms_spec (ws := Jvm.Cond.code x code maxLocals ret :: tables_1) hat d (List.mem_cons_of_mem _ hd)
  obtain ⟨i0, ei0⟩ := is_v g0
  obtain rfl : w0 = (.int i0) := Option.some.inj ei0
  obtain ⟨i1, ei1⟩ := is_v g1
  obtain rfl : w1 = (.int i1) := Option.some.inj ei1
  obtain ⟨i2, ei2⟩ := is_v r2
  obtain rfl : w2 = (.int i2) := Option.some.inj ei2
  obtain ⟨n, o, h1, h2, h3, _, L, rfl, ⟨rfl, N⟩, hq⟩ := rm0 l s _ hw tables_1 i0 i1 i2 s.heap s.heap.size (Nat.le_refl _) p e ha hc hk s m _ below hf ((Spec.applies_iff_loose hf).mp happ).1 ⟨rfl, State.Warmed39.refl s, rfl⟩ trivial
  refine ⟨n, _, h1, h2, h3, hpost _ _ _ _ _ _ ⟨Cond.after_iff.mpr rfl, Cond.after_iff.mpr (eq_i res_at (Term.int_eval (1)) rfl), trivial⟩ ⟨hq.1, hq.2.1, (hq.2.2.sift fun y hy => Or.inr (N y hy)).mono (by decide) (by decide)⟩⟩
theorem main_1_1 : Claimed_1_1 := comes_1 fun _ _ _ _ _ _ h hF => ⟨h.1, hF⟩
theorem main_1_2 : Claimed_1_2 := comes_1 fun _ _ _ _ _ _ h hF => ⟨h.2.1, hF⟩
end Jvm.Pilot.@@N@@
namespace Jvm.Pilot.@@N@@
open Jvm Jvm.ClassFile Sem Op Lib Jvm.Free Jvm.Stand Jvm.Pilot.@@N@@.Jvm.D
/-! MADE BY PROGRAM (witnessworld.py) out of the Statement's table words and the real class files: 9 classes; the members and pool entries that the words name. The judged class is class 1, her method 1. -/
namespace start1
open Jvm.ClassFile
def u (s : String) : CpInfo := .utf8 (stringToUtf16 s)
/-- a pool by its gaps: so many unusable entries, then the entry; so many at the end -/
def gap : Nat → List CpInfo → List CpInfo
  | 0, r => r
  | n + 1, r => .unusable :: gap n r
def poolList (es : List (Nat × CpInfo)) (last : Nat) : List CpInfo := es.foldr (fun e r => gap e.1 (e.2 :: r)) (gap last [])
def pool (es : List (Nat × CpInfo)) (last : Nat) : Array CpInfo := ⟨poolList es last⟩
def fileOf (pool : Array CpInfo) (this : Nat) (attrs : Array Attribute := #[]) (ms : Array MethodInfo := #[]) (fl : Nat := 33) (sup : Nat := 0) (ifs : Array Nat := #[]) (fds : Array FieldInfo := #[]) : ClassFile where
  minorVersion := 0
  majorVersion := 65
  constantPool := pool
  accessFlags := fl
  thisClass := this
  superClass := sup
  interfaces := ifs
  fields := fds
  methods := ms
  attributes := attrs
def plain (name : String) (sup : Option ClassId) : Class where
  name := name
  kind := .ordinary
  loader := none
  accessFlags := 33
  super := sup
  interfaces := #[]
  cf := none
  fields := #[]
  methods := #[]
  instanceTypes := #[]
  staticTypes := #[]
  resolved := #[]
  callSites := []
  init := .initialized
  statics := none
  mirror := none

def pool0 : Array CpInfo := pool [(5, u "<init>"), (0, u "()V"), (1, .class_ 10), (1, u "java/lang/Object")] 113

def k0m0 : Method := { name := "<init>", desc := "()V", sig := { parameters := [], returnType := none }, accessFlags := 1, code := none }
/-- java/lang/Object -/
def k0 : Class := { plain "java/lang/Object" none with
  accessFlags := 33
  interfaces := #[]
  cf := some (fileOf pool0 8 #[] #[{ accessFlags := 1, nameIndex := 5, descriptorIndex := 6, attributes := #[] }] 33 0 #[] #[])
  fields := #[]
  methods := #[k0m0]
  instanceTypes := #[]
  staticTypes := #[]
  resolved := Array.replicate 124 none
  statics := none }

def pool1 : Array CpInfo := pool [(2, .class_ 4), (1, u "java/lang/Object"), (0, u "<init>"), (0, u "()V"), (0, .methodref 8 9), (0, .class_ 10), (0, .nameAndType 11 12), (0, u "com/example/quetma/quetma/TlvObject"), (0, u "continues"), (0, u "(IB)Z"), (0, .class_ 14), (0, u "com/example/quetma/quetma/TlvObjectContinuesPinLaw"), (2, u "law"), (0, u "(III)Z")] 3

def k1m0 : Method := { name := "<init>", desc := "()V", sig := { parameters := [], returnType := none }, accessFlags := 1, code := none }
def k1c1 : Code := { maxStack := 2, maxLocals := 7, code := code, exceptionTable := #[], attributes := #[] }
def k1m1 : Method := { name := "law", desc := "(III)Z", sig := { parameters := [.int, .int, .int], returnType := some .boolean }, accessFlags := 9, code := some k1c1 }
/-- com/example/quetma/quetma/TlvObjectContinuesPinLaw -/
def k1 : Class := { plain "com/example/quetma/quetma/TlvObjectContinuesPinLaw" (some 0) with
  accessFlags := 49
  interfaces := #[]
  cf := some (fileOf pool1 13 #[] #[{ accessFlags := 1, nameIndex := 5, descriptorIndex := 6, attributes := #[] }, { accessFlags := 9, nameIndex := 17, descriptorIndex := 18, attributes := #[] }] 49 2 #[] #[])
  fields := #[]
  methods := #[k1m0, k1m1]
  instanceTypes := #[]
  staticTypes := #[]
  resolved := Array.replicate 22 none
  statics := none }

def pool2 : Array CpInfo := pool [(2, .class_ 4), (1, u "com/example/quetma/quetma/TlvObject"), (7, .class_ 14), (1, u "java/lang/Object"), (3, u "tag"), (0, u "I"), (2, u "value"), (0, u "[B"), (8, u "objects"), (0, u "Ljava/util/List;"), (2, u "lengthBytes"), (16, u "nesting"), (59, .class_ 114), (0, u "com/example/quetma/quetma/TlvObject$Located"), (13, u "HEX"), (0, u "Ljava/util/HexFormat;"), (31, u "continues"), (0, u "(IB)Z"), (34, u "MAX_TAG_BYTES"), (2, u "MAX_LENGTH"), (0, u "MAX_NESTING")] 48

def k2c0 : Code := { maxStack := 2, maxLocals := 2, code := prog_45_method_13_code, exceptionTable := #[], attributes := #[] }
def k2m0 : Method := { name := "continues", desc := "(IB)Z", sig := { parameters := [.int, .byte], returnType := some .boolean }, accessFlags := 8, code := some k2c0 }
/-- com/example/quetma/quetma/TlvObject -/
def k2 : Class := { plain "com/example/quetma/quetma/TlvObject" (some 0) with
  accessFlags := 49
  interfaces := #[]
  cf := some (fileOf pool2 2 #[.nestMembers #[113]] #[{ accessFlags := 8, nameIndex := 161, descriptorIndex := 162, attributes := #[] }] 49 12 #[] #[{ accessFlags := 24, nameIndex := 197, descriptorIndex := 19, attributes := #[] }, { accessFlags := 24, nameIndex := 200, descriptorIndex := 19, attributes := #[] }, { accessFlags := 24, nameIndex := 201, descriptorIndex := 19, attributes := #[] }, { accessFlags := 24, nameIndex := 128, descriptorIndex := 129, attributes := #[] }, { accessFlags := 18, nameIndex := 18, descriptorIndex := 19, attributes := #[] }, { accessFlags := 18, nameIndex := 22, descriptorIndex := 23, attributes := #[] }, { accessFlags := 18, nameIndex := 32, descriptorIndex := 33, attributes := #[] }, { accessFlags := 18, nameIndex := 53, descriptorIndex := 19, attributes := #[] }, { accessFlags := 18, nameIndex := 36, descriptorIndex := 19, attributes := #[] }])
  fields := #[{ name := "MAX_TAG_BYTES", type := .int, accessFlags := 24, slot := 0, constantValue := 0 }, { name := "MAX_LENGTH", type := .int, accessFlags := 24, slot := 1, constantValue := 0 }, { name := "MAX_NESTING", type := .int, accessFlags := 24, slot := 2, constantValue := 0 }, { name := "HEX", type := (.object "java/util/HexFormat"), accessFlags := 24, slot := 3, constantValue := 0 }, { name := "tag", type := .int, accessFlags := 18, slot := 0, constantValue := 0 }, { name := "value", type := (.array .byte), accessFlags := 18, slot := 1, constantValue := 0 }, { name := "objects", type := (.object "java/util/List"), accessFlags := 18, slot := 2, constantValue := 0 }, { name := "nesting", type := .int, accessFlags := 18, slot := 3, constantValue := 0 }, { name := "lengthBytes", type := .int, accessFlags := 18, slot := 4, constantValue := 0 }]
  methods := #[k2m0]
  instanceTypes := #[.int, (.array .byte), (.object "java/util/List"), .int, .int]
  staticTypes := #[.int, .int, .int, (.object "java/util/HexFormat")]
  resolved := Array.replicate 250 none
  statics := none }

def pool3 : Array CpInfo := pool [(1, u "java/lang/Cloneable"), (0, .class_ 1), (0, u "java/lang/Object"), (0, .class_ 3)] 3

/-- java/lang/Cloneable -/
def k3 : Class := { plain "java/lang/Cloneable" (some 0) with
  accessFlags := 1537
  interfaces := #[]
  cf := some (fileOf pool3 2 #[] #[] 1537 4 #[] #[])
  fields := #[]
  methods := #[]
  instanceTypes := #[]
  staticTypes := #[]
  resolved := Array.replicate 8 none
  statics := none }

def pool4 : Array CpInfo := pool [(1, u "java/io/Serializable"), (0, .class_ 1), (0, u "java/lang/Object"), (0, .class_ 3)] 3

/-- java/io/Serializable -/
def k4 : Class := { plain "java/io/Serializable" (some 0) with
  accessFlags := 1537
  interfaces := #[]
  cf := some (fileOf pool4 2 #[] #[] 1537 4 #[] #[])
  fields := #[]
  methods := #[]
  instanceTypes := #[]
  staticTypes := #[]
  resolved := Array.replicate 8 none
  statics := none }

/-- the primitive byte -/
def k5 : Class := { plain "byte" none with kind := .primitive 'B', accessFlags := 0x411 }
/-- [B -/
def k6 : Class := { plain "[B" (some 0) with kind := .array 5 .byte, interfaces := #[3, 4], accessFlags := 1041 }

/-- the primitive int -/
def k7 : Class := { plain "int" none with kind := .primitive 'I', accessFlags := 0x411 }
/-- [I -/
def k8 : Class := { plain "[I" (some 0) with kind := .array 7 .int, interfaces := #[3, 4], accessFlags := 1041 }

def heap : Heap := #[]
def classes : Array Class := #[k0, k1, k2, k3, k4, k5, k6, k7, k8]
def interned : List (Array UInt16 × Addr) := []
def slotsUsed : Nat := 0
def theMethod : MethodId := ⟨1, 1⟩
def args0 : Array Value := #[.int 1, .int 5, .int 31]
def aboutOver (below : List Frame) : State where
  vm := { classes := classes, interned := interned.toArray }
  heap := heap
  slotsUsed := slotsUsed
  threads := #[{ frames := .invoking theMethod args0 :: below }]
def below0 : List Frame := [.native { method := ⟨0, 0⟩, args := #[] }]
def about1 : State := aboutOver below0
def p0 : Program := .bare "" "" ""
def e0 : Env := launch0.env 0 0 0
theorem w_frames : about1.frames = Frame.invoking theMethod args0 :: below0 := rfl
set_option maxRecDepth 65536 in
theorem w_args : argsFit about1.vm theMethod args0 = true := by decide +kernel
set_option maxRecDepth 65536 in
theorem w_heap : heapFits about1 = true := by decide +kernel
set_option maxRecDepth 65536 in
theorem w_runnable : about1.curStatus? = some .runnable := by decide +kernel
set_option maxRecDepth 65536 in
theorem w_alone : about1.alone = true := by decide +kernel
set_option maxRecDepth 65536 in
theorem w_named : about1.methodNamed? x = some theMethod := by decide +kernel
set_option maxRecDepth 65536 in
theorem w_hears : about1.hears theMethod below0 = true := by decide +kernel
set_option maxRecDepth 65536 in
theorem w_ripe : about1.ripe theMethod args0 below0 = true := by decide +kernel
theorem w_running : about1.status = .running := rfl
set_option maxRecDepth 65536 in
theorem w_room : about1.hasRoom e0.platform room_1 = true :=
  launch0.hasRoom_least _ room_1 (by decide +kernel) (by decide +kernel) (by decide +kernel) (by decide +kernel) (by decide +kernel) (by decide +kernel)
theorem allAtoms_all (ts : List Jvm.Cond) (a : Array Jvm.Value) (st : Jvm.State) : (allAtoms ts).before a st = ts.all (fun c => c.before a st) := by
  induction ts with
  | nil => rfl
  | cons c t ih =>
    show (Jvm.Cond.and c (allAtoms t)).before a st = _
    rw [Jvm.Cond.before_and, ih, List.all_cons]
def words1 : List Jvm.Cond := Jvm.Cond.code x code maxLocals ret :: tables_1
/-- a 'code' word, met by the world's own term for the bytes: nothing is compared byte by byte -/
theorem code_word {y : MethodName} {bytes : ByteArray} {mx : Nat} {rt : Option FieldType} {a : Array Value} {s : State} {m : MethodId} {meth : Method} {c : Code} (h1 : s.methodNamed? y = some m) (h2 : s.vm.method? m = some meth) (h3 : meth.code = some c) (h4 : c.code = bytes)
    (h5 : (c.maxLocals == mx && c.exceptionTable.isEmpty && decide (c.maxStack ≤ mostOperands) && decide (meth.sig.returnType = rt) && !meth.locks && decide (parseMethodDescriptor y.desc = some meth.sig)) = true) : (Jvm.Cond.code y bytes mx rt).before a s = true := by
  simp only [Bool.and_eq_true, beq_iff_eq, Bool.not_eq_true', decide_eq_true_eq] at h5
  obtain ⟨⟨⟨⟨⟨g1, g2⟩, g3⟩, g4⟩, g5⟩, g6⟩ := h5
  simp [Cond.before, Cond.holds, Cond.value, h1, h2, h3, h4, g1, g2, g3, g4, g5, g6]
def isCode : Jvm.Cond → Bool
  | .code _ _ _ _ => true
  | _ => false
theorem all_split {L : List Jvm.Cond} {P : Jvm.Cond → Bool} (h1 : L.all (fun c => isCode c || P c) = true) (h2 : ∀ c ∈ L.filter isCode, P c = true) : L.all P = true := by
  refine List.all_eq_true.mpr fun c hc => ?_
  have h := List.all_eq_true.mp h1 c hc
  rcases Bool.eq_false_or_eq_true (isCode c) with hi | hi
  · exact h2 c (List.mem_filter.mpr ⟨hc, hi⟩)
  · simpa [hi] using h
set_option maxRecDepth 65536 in
theorem w_c0 : (Jvm.Cond.code x code maxLocals ret).before args0 about1 = true := code_word (m := ⟨1, 1⟩) (meth := k1m1) (c := k1c1) (by decide +kernel) rfl rfl rfl (by decide +kernel)
set_option maxRecDepth 65536 in
theorem w_c1 : (Jvm.Cond.code ({ cls := "com/example/quetma/quetma/TlvObject", name := "continues", desc := "(IB)Z" } : Jvm.MethodName) prog_45_method_13_code (2 : Nat) (Option.some Jvm.ClassFile.FieldType.boolean)).before args0 about1 = true := code_word (m := ⟨2, 0⟩) (meth := k2m0) (c := k2c0) (by decide +kernel) rfl rfl rfl (by decide +kernel)
def codes1 : List Jvm.Cond := [Jvm.Cond.code x code maxLocals ret, Jvm.Cond.code ({ cls := "com/example/quetma/quetma/TlvObject", name := "continues", desc := "(IB)Z" } : Jvm.MethodName) prog_45_method_13_code (2 : Nat) (Option.some Jvm.ClassFile.FieldType.boolean)]
set_option maxRecDepth 65536 in
theorem codes_eq : words1.filter isCode = codes1 := rfl
theorem w_codes : ∀ c ∈ words1.filter isCode, c.before args0 about1 = true := by
  rw [codes_eq]
  intro c hc
  simp only [codes1, List.mem_cons, List.not_mem_nil, or_false] at hc
  rcases hc with rfl | rfl
  · exact w_c0
  · exact w_c1
set_option maxRecDepth 65536 in
theorem w_t1 : words1.all (fun c => isCode c || c.before args0 about1) = true := by decide +kernel
theorem w_tables : (allAtoms (Jvm.Cond.code x code maxLocals ret :: tables_1)).before args0 about1 = true := by
  rw [allAtoms_all]
  show words1.all (fun c => c.before args0 about1) = true
  refine all_split ?_ w_codes
  rw [w_t1]
set_option maxRecDepth 65536 in
theorem w_case : (Jvm.Cond.and given_1 narrow_1).before args0 about1 = true := by decide +kernel
theorem w_applies : (headSpec (Jvm.Cond.code x code maxLocals ret :: tables_1) room_1).applies x e0.platform about1 = true :=
  (Spec.applies_iff w_frames).mpr ⟨w_running, w_runnable, w_alone, w_named, w_hears, w_ripe, w_room, w_tables⟩
theorem atStart : AtStart classFile x code maxLocals ret World_1 tables_1 room_1 Calls_1 rest_1 Pre_1 launch0 p0 e0 about1 theMethod args0 below0 :=
  ⟨lists_1, trivial, launch0.admits_env _ _ _, launch0.least_env, fairChoices_fair.cas, fairChoices_fair.clock, w_frames, w_args, w_heap, w_applies, trivial, trivial, w_case⟩
end start1
theorem witness_1 : WitnessClaimed_1 := ⟨start1.p0, start1.e0, start1.about1, start1.theMethod, start1.args0, start1.below0, start1.atStart⟩
end Jvm.Pilot.@@N@@
