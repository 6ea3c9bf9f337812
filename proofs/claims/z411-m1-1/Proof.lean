import JvmDerived
import JvmDerived.Pilot.@@N@@Statement
import JvmDerived.Pilot.@@N@@Code
set_option linter.unusedVariables false
set_option linter.unusedSimpArgs false
namespace Jvm.Pilot.@@N@@
open Jvm Jvm.ClassFile Sem Op Lib Jvm.Free Jvm.Stand Jvm.LawKit Jvm.RoadKit Bundle Jvm.Pilot.@@N@@.Jvm.D
/-- from the state σ the run comes to an end that Q allows -/
def OwnG (rc rs : Nat) (Q : Option Value → Heap → List Loc → Prop) (p : Program) (e : Env) (below : List Frame) (s σ : State) : Prop :=
  ∃ s₂ o, Steps p.tables e below σ s₂ ∧ s₂.status = .running ∧ Ended s₂ below o ∧ ∃ v L, o = .returned v ∧ Q v s₂.heap L ∧ FrameEnd s o s₂ L rc rs
section Own
variable {p : Program} {l : Launch} {e : Env} {R : Room} {s : State} {m : MethodId} {args : Array Value} {below : List Frame} {meth : Method} {c : Code} {T σ σ' : State} {locs : List Loc} {cells slots rc rs : Nat} {Q : Option Value → Heap → List Loc → Prop}
theorem own_st (h : ∀ target, Steps p.tables e below σ' target → Steps p.tables e below σ target) (g : OwnG rc rs Q p e below s σ') : OwnG rc rs Q p e below s σ := by
  obtain ⟨s₂, o, h1, r⟩ := g; exact ⟨s₂, o, h _ h1, r⟩
theorem own_go (h : Steps p.tables e below σ σ') (g : OwnG rc rs Q p e below s σ') : OwnG rc rs Q p e below s σ := by
  obtain ⟨s₂, o, h1, r⟩ := g; exact ⟨s₂, o, h.trans h1, r⟩
theorem own_retN (X : Stand p l e R s m args below meth c T locs cells slots) (hx : p.tables.exec = Jvm.exec) {pc : Nat} {Ls : Array Slot} {z : Int32} {rest : List Value} {t : FieldType} (hret : meth.sig.returnType = some t) (hlk : meth.locks = false) (ht : t = .boolean ∨ t = .byte ∨ t = .char ∨ t = .short)
    (hd : decode c.code pc = .ok (.ireturn, 1)) (hc : cells ≤ rc) (hs : slots ≤ rs) (hQ : Q (some (.int (nar t z))) T.heap locs) : OwnG rc rs Q p e below s (T.setTop (mkF m pc Ls (.int z :: rest))) := by
  obtain ⟨fs, hr, hrun, hended, hW, hsame⟩ := X.leave (v := some (.int (nar t z))) (fun h => by rw [hret] at h; cases h) hlk
  exact ⟨_, _, retN X hx hret ht hd hr, hrun, hended, _, _, rfl, hQ, ⟨_, rfl⟩, hW, hsame.mono hc hs⟩
theorem own_retI (X : Stand p l e R s m args below meth c T locs cells slots) (hx : p.tables.exec = Jvm.exec) {pc : Nat} {Ls : Array Slot} {z : Int32} {rest : List Value} (hret : meth.sig.returnType = some .int) (hlk : meth.locks = false)
    (hd : decode c.code pc = .ok (.ireturn, 1)) (hc : cells ≤ rc) (hs : slots ≤ rs) (hQ : Q (some (.int z)) T.heap locs) : OwnG rc rs Q p e below s (T.setTop (mkF m pc Ls (.int z :: rest))) := by
  obtain ⟨fs, hr, hrun, hended, hW, hsame⟩ := X.leave (v := some (.int z)) (fun h => by rw [hret] at h; cases h) hlk
  exact ⟨_, _, retOut X hx hret rfl (Or.inl ⟨rfl, Or.inl rfl, _, rfl⟩) hd hr, hrun, hended, _, _, rfl, hQ, ⟨_, rfl⟩, hW, hsame.mono hc hs⟩
theorem own_retJ (X : Stand p l e R s m args below meth c T locs cells slots) (hx : p.tables.exec = Jvm.exec) {pc : Nat} {Ls : Array Slot} {z : Int64} {rest : List Value} (hret : meth.sig.returnType = some .long) (hlk : meth.locks = false)
    (hd : decode c.code pc = .ok (.lreturn, 1)) (hc : cells ≤ rc) (hs : slots ≤ rs) (hQ : Q (some (.long z)) T.heap locs) : OwnG rc rs Q p e below s (T.setTop (mkF m pc Ls (.long z :: rest))) := by
  obtain ⟨fs, hr, hrun, hended, hW, hsame⟩ := X.leave (v := some (.long z)) (fun h => by rw [hret] at h; cases h) hlk
  exact ⟨_, _, retOut X hx hret rfl (Or.inr (Or.inl ⟨rfl, rfl, _, rfl⟩)) hd hr, hrun, hended, _, _, rfl, hQ, ⟨_, rfl⟩, hW, hsame.mono hc hs⟩
theorem own_retA (X : Stand p l e R s m args below meth c T locs cells slots) (hx : p.tables.exec = Jvm.exec) {pc : Nat} {Ls : Array Slot} {a : Addr} {rest : List Value} {t : FieldType} (hret : meth.sig.returnType = some t) (hlk : meth.locks = false) (ht : t.isReference = true)
    (hd : decode c.code pc = .ok (.areturn, 1)) (hc : cells ≤ rc) (hs : slots ≤ rs) (hQ : Q (some (.ref a)) T.heap locs) : OwnG rc rs Q p e below s (T.setTop (mkF m pc Ls (.ref a :: rest))) := by
  obtain ⟨fs, hr, hrun, hended, hW, hsame⟩ := X.leave (v := some (.ref a)) (fun h => by rw [hret] at h; cases h) hlk
  exact ⟨_, _, retOut X hx hret (by cases t <;> first | rfl | cases ht) (Or.inr (Or.inr (Or.inr (Or.inr ⟨rfl, ht, rfl⟩)))) hd hr, hrun, hended, _, _, rfl, hQ, ⟨_, rfl⟩, hW, hsame.mono hc hs⟩
theorem own_retV (X : Stand p l e R s m args below meth c T locs cells slots) (hx : p.tables.exec = Jvm.exec) {pc : Nat} {Ls : Array Slot} (hret : meth.sig.returnType = none) (hlk : meth.locks = false)
    (hd : decode c.code pc = .ok (.return_, 1)) (hc : cells ≤ rc) (hs : slots ≤ rs) (hQ : Q none T.heap locs) : OwnG rc rs Q p e below s (T.setTop (mkF m pc Ls [])) := by
  obtain ⟨fs, hr, hrun, hended, hW, hsame⟩ := X.leave (v := none) (fun _ => rfl) hlk
  exact ⟨_, _, X.returnOut hx hret hd hr, hrun, hended, _, _, rfl, hQ, ⟨_, rfl⟩, hW, hsame.mono hc hs⟩
end Own
def own_s (z : Int32) : Int32 := if z = 32 then 1 else if z = 9 then 1 else if z = 13 then 1 else if z = 10 then 1 else 0
def own_r (z : Int32) : Int32 := if 32 < z then 0 else if lcmpW ((((4294977024 : Int64).toUInt64 >>> (z &&& 0x3f).toInt64.toUInt64).toInt64) &&& (1 : Int64)) (0 : Int64) = 0 then 0 else 1
theorem own_small : ∀ i : Fin 33, own_s (Int32.ofNat i.val) = own_r (Int32.ofNat i.val) := by decide +kernel
theorem own_eq (z : Int32) (h0 : 0 ≤ z.toInt) : own_s z = own_r z := by
  by_cases h : 32 < z
  · have hz : ∀ k : Int32, k.toInt ≤ 32 → ¬ z = k := fun k hk q => by
      rw [Int32.lt_iff_toInt_lt] at h; have : (32 : Int32).toInt = 32 := rfl
      subst q; omega
    simp only [own_s, own_r, if_pos h, if_neg (hz 32 (by decide)), if_neg (hz 9 (by decide)), if_neg (hz 13 (by decide)), if_neg (hz 10 (by decide))]
  · have hl : z.toInt ≤ 32 := by rw [Int32.lt_iff_toInt_lt] at h; have : (32 : Int32).toInt = 32 := rfl; omega
    have e : z = Int32.ofNat z.toInt.toNat := by
      have : (Int32.ofNat z.toInt.toNat).toInt = z.toInt := by rw [Int32.toInt_ofNat_of_lt (by omega)]; omega
      exact (Int32.toInt_inj.mp this).symm
    rw [e]
    exact own_small ⟨z.toInt.toNat, by omega⟩
theorem own_ch (x : Int32) : 0 ≤ (x.toUInt32.toUInt16.toUInt32.toInt32).toInt := by
  have h := fits_nar_char x
  obtain ⟨h1, -⟩ := rng_char h
  rw [Int32.lt_iff_toInt_lt] at h1
  have : (0 : Int32).toInt = 0 := rfl
  show 0 ≤ (nar .char x).toInt
  omega
theorem d1_0 : decode prog_40_method_9_code 0 = .ok (.iload_n 0, 1) := by decide +kernel
theorem d1_1 : decode prog_40_method_9_code 1 = .ok (.bipush 32, 2) := by decide +kernel
theorem d1_3 : decode prog_40_method_9_code 3 = .ok (.if_icmp .eq 21, 3) := by decide +kernel
theorem d1_6 : decode prog_40_method_9_code 6 = .ok (.iload_n 0, 1) := by decide +kernel
theorem d1_7 : decode prog_40_method_9_code 7 = .ok (.bipush 9, 2) := by decide +kernel
theorem d1_9 : decode prog_40_method_9_code 9 = .ok (.if_icmp .eq 15, 3) := by decide +kernel
theorem d1_12 : decode prog_40_method_9_code 12 = .ok (.iload_n 0, 1) := by decide +kernel
theorem d1_13 : decode prog_40_method_9_code 13 = .ok (.bipush 13, 2) := by decide +kernel
theorem d1_15 : decode prog_40_method_9_code 15 = .ok (.if_icmp .eq 9, 3) := by decide +kernel
theorem d1_18 : decode prog_40_method_9_code 18 = .ok (.iload_n 0, 1) := by decide +kernel
theorem d1_19 : decode prog_40_method_9_code 19 = .ok (.bipush 10, 2) := by decide +kernel
theorem d1_21 : decode prog_40_method_9_code 21 = .ok (.if_icmp .ne 7, 3) := by decide +kernel
theorem d1_24 : decode prog_40_method_9_code 24 = .ok (.iconst 1, 1) := by decide +kernel
theorem d1_25 : decode prog_40_method_9_code 25 = .ok (.goto 4, 3) := by decide +kernel
theorem d1_28 : decode prog_40_method_9_code 28 = .ok (.iconst 0, 1) := by decide +kernel
theorem d1_29 : decode prog_40_method_9_code 29 = .ok (.ireturn, 1) := by decide +kernel
theorem pn_1 : plainName "com/example/mapwarden/mapwarden/ows/TagScanner" = true := by first | (simp [plainName, overriddenIn]; done) | decide +kernel
theorem ef_1 (m : MethodId) (x0 : Int32) : entryFrame m #[(.int x0)] 1 = mkF m 0 #[.val (.int x0)] [] := by first | (simp [entryFrame, mkF, argsToLocals, Value.category]; done) | rfl
def Q1 (Z : State) (z : Int32) (h0 : Heap) (n0 : Nat) (v : Option Value) (h : Heap) (L : List Loc) : Prop := v = some (.int (own_s z)) ∧ Fr n0 L ∧ h = h0
set_option maxRecDepth 65536 in
set_option maxHeartbeats 40000000 in
theorem rm1 (l : Launch) (Z : State) (a0 : Array Value) (hw : ∀ d ∈ tables_1, d.before a0 Z = true) (ws : List Jvm.Cond) (z : Int32) (h0 : Heap) (n0 : Nat) (Z0 : n0 ≤ h0.size)  :
    MetFree l (⟨"com/example/mapwarden/mapwarden/ows/TagScanner", "isSpace", "(C)Z"⟩ : MethodName) (head1 (Jvm.Cond.code (⟨"com/example/mapwarden/mapwarden/ows/TagScanner", "isSpace", "(C)Z"⟩ : MethodName) prog_40_method_9_code 1 (some .boolean) :: ws) ({ frames := 0, cells := 0, slots := 0, locals := 0 } : Room)) (fun a U => a = #[(.int z)] ∧ Z.Warmed39 U.vm ∧ U.heap = h0) (fun _ _ _ _ _ => True) (fun _ U o U' => ∃ v L, o = .returned v ∧ Q1 Z z h0 n0 v U'.heap L ∧ FrameEnd U o U' L ({ frames := 0, cells := 0, slots := 0, locals := 0 } : Room).cells ({ frames := 0, cells := 0, slots := 0, locals := 0 } : Room).slots) := by
  refine MetFree.of_bodySF (plainFor_of_name pn_1) hisR ?_
  intro p e s m args below meth c s₁ Bd hml0 hP hK
  obtain ⟨rfl, hZ, hh⟩ := hP
  have hx := Bd.exec
  have hby := Bd.bytes
  have hml : c.maxLocals = 1 := hml0
  have hown : s.vm.findClass "com/example/mapwarden/mapwarden/ows/TagScanner" = some m.cls := findClass_of_methodNamed Bd.named
  have hnm := (name_of_methodNamed Bd.named Bd.method).1
  have hrt := Bd.returns
  have hlk : meth.locks = false := BodyLoose.notSynchronized Bd
  have X0 : Stand p l e ({ frames := 0, cells := 0, slots := 0, locals := 0 } : Room) s m #[(.int z)] below meth c s₁ [] 0 0 := Stand.of_body Bd
  have e0 : s₁.heap = h0 := by rw [← hh, Bd.state]; rfl
  have N0 := Fr.nil n0
  show OwnG ({ frames := 0, cells := 0, slots := 0, locals := 0 } : Room).cells ({ frames := 0, cells := 0, slots := 0, locals := 0 } : Room).slots (Q1 Z z h0 n0) p e below s (s₁.setTop (entryFrame m #[(.int z)] 1))
  refine own_st (σ' := s₁.setTop (mkF m 0 #[.val (.int z)] [])) (fun t k => castTop (ef_1 m z) k) ?_
  show OwnG _ _ _ _ _ _ _ (s₁.setTop (mkF m 0 #[.val (.int z)] []))
  refine own_st (fun _ kk => XS.iloadN X0.here hx rfl (hb hby d1_0) rfl kk) ?_
  show OwnG _ _ _ _ _ _ _ (s₁.setTop (mkF m 1 #[.val (.int z)] [(.int z)]))
  refine own_st (fun _ kk => XS.bipush X0.here hx rfl (hb hby d1_1) kk) ?_
  show OwnG _ _ _ _ _ _ _ (s₁.setTop (mkF m 3 #[.val (.int z)] [(.int (32 : Int32)), (.int z)]))
  by_cases h3 : z = (32 : Int32)
  · skip
    refine own_st (fun _ kk => XS.icmpYes X0.here hx rfl (pc0 := 3) (pc' := 24) rfl (hb hby d1_3) rfl (teq h3).1 (by decide) (by decide) kk) ?_
    show OwnG _ _ _ _ _ _ _ (s₁.setTop (mkF m 24 #[.val (.int z)] []))
    refine own_st (fun _ kk => XS.iconst X0.here hx rfl (hb hby d1_24) kk) ?_
    show OwnG _ _ _ _ _ _ _ (s₁.setTop (mkF m 25 #[.val (.int z)] [(.int (1 : Int32))]))
    refine own_st (fun _ kk => XS.goto X0.here hx rfl (pc0 := 25) (pc' := 29) rfl (hb hby d1_25) (by decide) (by decide) kk) ?_
    show OwnG _ _ _ _ _ _ _ (s₁.setTop (mkF m 29 #[.val (.int z)] [(.int (1 : Int32))]))
    exact own_retN X0 hx hrt hlk (t := .boolean) (by simp) (hb hby d1_29) (by decide) (by decide) (by show _ ∧ _; first | (rw [e0]; exact ⟨by simp only [own_s, if_pos h3]; rfl, N0, rfl⟩) | exact ⟨by simp only [own_s, if_pos h3]; rfl, N0, rfl⟩)
  · skip
    refine own_st (fun _ kk => XS.icmpNo X0.here hx rfl (hb hby d1_3) rfl (feq h3).1 kk) ?_
    show OwnG _ _ _ _ _ _ _ (s₁.setTop (mkF m 6 #[.val (.int z)] []))
    refine own_st (fun _ kk => XS.iloadN X0.here hx rfl (hb hby d1_6) rfl kk) ?_
    show OwnG _ _ _ _ _ _ _ (s₁.setTop (mkF m 7 #[.val (.int z)] [(.int z)]))
    refine own_st (fun _ kk => XS.bipush X0.here hx rfl (hb hby d1_7) kk) ?_
    show OwnG _ _ _ _ _ _ _ (s₁.setTop (mkF m 9 #[.val (.int z)] [(.int (9 : Int32)), (.int z)]))
    by_cases h9 : z = (9 : Int32)
    · skip
      refine own_st (fun _ kk => XS.icmpYes X0.here hx rfl (pc0 := 9) (pc' := 24) rfl (hb hby d1_9) rfl (teq h9).1 (by decide) (by decide) kk) ?_
      show OwnG _ _ _ _ _ _ _ (s₁.setTop (mkF m 24 #[.val (.int z)] []))
      refine own_st (fun _ kk => XS.iconst X0.here hx rfl (hb hby d1_24) kk) ?_
      show OwnG _ _ _ _ _ _ _ (s₁.setTop (mkF m 25 #[.val (.int z)] [(.int (1 : Int32))]))
      refine own_st (fun _ kk => XS.goto X0.here hx rfl (pc0 := 25) (pc' := 29) rfl (hb hby d1_25) (by decide) (by decide) kk) ?_
      show OwnG _ _ _ _ _ _ _ (s₁.setTop (mkF m 29 #[.val (.int z)] [(.int (1 : Int32))]))
      exact own_retN X0 hx hrt hlk (t := .boolean) (by simp) (hb hby d1_29) (by decide) (by decide) (by show _ ∧ _; first | (rw [e0]; exact ⟨by simp only [own_s, if_neg h3, if_pos h9]; rfl, N0, rfl⟩) | exact ⟨by simp only [own_s, if_neg h3, if_pos h9]; rfl, N0, rfl⟩)
    · skip
      refine own_st (fun _ kk => XS.icmpNo X0.here hx rfl (hb hby d1_9) rfl (feq h9).1 kk) ?_
      show OwnG _ _ _ _ _ _ _ (s₁.setTop (mkF m 12 #[.val (.int z)] []))
      refine own_st (fun _ kk => XS.iloadN X0.here hx rfl (hb hby d1_12) rfl kk) ?_
      show OwnG _ _ _ _ _ _ _ (s₁.setTop (mkF m 13 #[.val (.int z)] [(.int z)]))
      refine own_st (fun _ kk => XS.bipush X0.here hx rfl (hb hby d1_13) kk) ?_
      show OwnG _ _ _ _ _ _ _ (s₁.setTop (mkF m 15 #[.val (.int z)] [(.int (13 : Int32)), (.int z)]))
      by_cases h15 : z = (13 : Int32)
      · skip
        refine own_st (fun _ kk => XS.icmpYes X0.here hx rfl (pc0 := 15) (pc' := 24) rfl (hb hby d1_15) rfl (teq h15).1 (by decide) (by decide) kk) ?_
        show OwnG _ _ _ _ _ _ _ (s₁.setTop (mkF m 24 #[.val (.int z)] []))
        refine own_st (fun _ kk => XS.iconst X0.here hx rfl (hb hby d1_24) kk) ?_
        show OwnG _ _ _ _ _ _ _ (s₁.setTop (mkF m 25 #[.val (.int z)] [(.int (1 : Int32))]))
        refine own_st (fun _ kk => XS.goto X0.here hx rfl (pc0 := 25) (pc' := 29) rfl (hb hby d1_25) (by decide) (by decide) kk) ?_
        show OwnG _ _ _ _ _ _ _ (s₁.setTop (mkF m 29 #[.val (.int z)] [(.int (1 : Int32))]))
        exact own_retN X0 hx hrt hlk (t := .boolean) (by simp) (hb hby d1_29) (by decide) (by decide) (by show _ ∧ _; first | (rw [e0]; exact ⟨by simp only [own_s, if_neg h3, if_neg h9, if_pos h15]; rfl, N0, rfl⟩) | exact ⟨by simp only [own_s, if_neg h3, if_neg h9, if_pos h15]; rfl, N0, rfl⟩)
      · skip
        refine own_st (fun _ kk => XS.icmpNo X0.here hx rfl (hb hby d1_15) rfl (feq h15).1 kk) ?_
        show OwnG _ _ _ _ _ _ _ (s₁.setTop (mkF m 18 #[.val (.int z)] []))
        refine own_st (fun _ kk => XS.iloadN X0.here hx rfl (hb hby d1_18) rfl kk) ?_
        show OwnG _ _ _ _ _ _ _ (s₁.setTop (mkF m 19 #[.val (.int z)] [(.int z)]))
        refine own_st (fun _ kk => XS.bipush X0.here hx rfl (hb hby d1_19) kk) ?_
        show OwnG _ _ _ _ _ _ _ (s₁.setTop (mkF m 21 #[.val (.int z)] [(.int (10 : Int32)), (.int z)]))
        by_cases h21 : z = (10 : Int32)
        · skip
          refine own_st (fun _ kk => XS.icmpNo X0.here hx rfl (hb hby d1_21) rfl (teq h21).2 kk) ?_
          show OwnG _ _ _ _ _ _ _ (s₁.setTop (mkF m 24 #[.val (.int z)] []))
          refine own_st (fun _ kk => XS.iconst X0.here hx rfl (hb hby d1_24) kk) ?_
          show OwnG _ _ _ _ _ _ _ (s₁.setTop (mkF m 25 #[.val (.int z)] [(.int (1 : Int32))]))
          refine own_st (fun _ kk => XS.goto X0.here hx rfl (pc0 := 25) (pc' := 29) rfl (hb hby d1_25) (by decide) (by decide) kk) ?_
          show OwnG _ _ _ _ _ _ _ (s₁.setTop (mkF m 29 #[.val (.int z)] [(.int (1 : Int32))]))
          exact own_retN X0 hx hrt hlk (t := .boolean) (by simp) (hb hby d1_29) (by decide) (by decide) (by show _ ∧ _; first | (rw [e0]; exact ⟨by simp only [own_s, if_neg h3, if_neg h9, if_neg h15, if_pos h21]; rfl, N0, rfl⟩) | exact ⟨by simp only [own_s, if_neg h3, if_neg h9, if_neg h15, if_pos h21]; rfl, N0, rfl⟩)
        · skip
          refine own_st (fun _ kk => XS.icmpYes X0.here hx rfl (pc0 := 21) (pc' := 28) rfl (hb hby d1_21) rfl (feq h21).2 (by decide) (by decide) kk) ?_
          show OwnG _ _ _ _ _ _ _ (s₁.setTop (mkF m 28 #[.val (.int z)] []))
          refine own_st (fun _ kk => XS.iconst X0.here hx rfl (hb hby d1_28) kk) ?_
          show OwnG _ _ _ _ _ _ _ (s₁.setTop (mkF m 29 #[.val (.int z)] [(.int (0 : Int32))]))
          exact own_retN X0 hx hrt hlk (t := .boolean) (by simp) (hb hby d1_29) (by decide) (by decide) (by show _ ∧ _; first | (rw [e0]; exact ⟨by simp only [own_s, if_neg h3, if_neg h9, if_neg h15, if_neg h21]; rfl, N0, rfl⟩) | exact ⟨by simp only [own_s, if_neg h3, if_neg h9, if_neg h15, if_neg h21]; rfl, N0, rfl⟩)
theorem d2_0 : decode method_2_code 0 = .ok (.iload_n 0, 1) := by decide +kernel
theorem d2_1 : decode method_2_code 1 = .ok (.istore_n 1, 1) := by decide +kernel
theorem d2_2 : decode method_2_code 2 = .ok (.iload_n 1, 1) := by decide +kernel
theorem d2_3 : decode method_2_code 3 = .ok (.bipush 32, 2) := by decide +kernel
theorem d2_5 : decode method_2_code 5 = .ok (.if_icmp .le 5, 3) := by decide +kernel
theorem d2_8 : decode method_2_code 8 = .ok (.iconst 0, 1) := by decide +kernel
theorem d2_9 : decode method_2_code 9 = .ok (.ireturn, 1) := by decide +kernel
theorem d2_10 : decode method_2_code 10 = .ok (.ldc2_w 9, 3) := by decide +kernel
theorem d2_13 : decode method_2_code 13 = .ok (.iload_n 1, 1) := by decide +kernel
theorem d2_14 : decode method_2_code 14 = .ok (.lushr, 1) := by decide +kernel
theorem d2_15 : decode method_2_code 15 = .ok (.lconst 1, 1) := by decide +kernel
theorem d2_16 : decode method_2_code 16 = .ok (.land, 1) := by decide +kernel
theorem d2_17 : decode method_2_code 17 = .ok (.lconst 0, 1) := by decide +kernel
theorem d2_18 : decode method_2_code 18 = .ok (.lcmp, 1) := by decide +kernel
theorem d2_19 : decode method_2_code 19 = .ok (.ifCond .eq 7, 3) := by decide +kernel
theorem d2_22 : decode method_2_code 22 = .ok (.iconst 1, 1) := by decide +kernel
theorem d2_23 : decode method_2_code 23 = .ok (.goto 4, 3) := by decide +kernel
theorem d2_26 : decode method_2_code 26 = .ok (.iconst 0, 1) := by decide +kernel
theorem d2_27 : decode method_2_code 27 = .ok (.ireturn, 1) := by decide +kernel
theorem pn_2 : plainName "com/example/mapwarden/mapwarden/ows/TagScannerIsSpacePinLaw" = true := by first | (simp [plainName, overriddenIn]; done) | decide +kernel
theorem ef_2 (m : MethodId) (x0 : Int32) : entryFrame m #[(.int x0)] 2 = mkF m 0 #[.val (.int x0), .unset] [] := by first | (simp [entryFrame, mkF, argsToLocals, Value.category]; done) | rfl
def Q2 (Z : State) (z : Int32) (h0 : Heap) (n0 : Nat) (v : Option Value) (h : Heap) (L : List Loc) : Prop := v = some (.int (own_r z)) ∧ Fr n0 L ∧ h = h0
set_option maxRecDepth 65536 in
set_option maxHeartbeats 40000000 in
theorem rm2 (l : Launch) (Z : State) (a0 : Array Value) (hw : ∀ d ∈ tables_1, d.before a0 Z = true) (ws : List Jvm.Cond) (z : Int32) (h0 : Heap) (n0 : Nat) (Z0 : n0 ≤ h0.size)  :
    MetFree l (⟨"com/example/mapwarden/mapwarden/ows/TagScannerIsSpacePinLaw", "reference", "(C)Z"⟩ : MethodName) (head1 (Jvm.Cond.code (⟨"com/example/mapwarden/mapwarden/ows/TagScannerIsSpacePinLaw", "reference", "(C)Z"⟩ : MethodName) method_2_code 2 (some .boolean) :: ws) ({ frames := 0, cells := 0, slots := 0, locals := 0 } : Room)) (fun a U => a = #[(.int z)] ∧ Z.Warmed39 U.vm ∧ U.heap = h0) (fun _ _ _ _ _ => True) (fun _ U o U' => ∃ v L, o = .returned v ∧ Q2 Z z h0 n0 v U'.heap L ∧ FrameEnd U o U' L ({ frames := 0, cells := 0, slots := 0, locals := 0 } : Room).cells ({ frames := 0, cells := 0, slots := 0, locals := 0 } : Room).slots) := by
  refine MetFree.of_bodySF (plainFor_of_name pn_2) hisR ?_
  intro p e s m args below meth c s₁ Bd hml0 hP hK
  obtain ⟨rfl, hZ, hh⟩ := hP
  have hx := Bd.exec
  have hby := Bd.bytes
  have hml : c.maxLocals = 2 := hml0
  have hown : s.vm.findClass "com/example/mapwarden/mapwarden/ows/TagScannerIsSpacePinLaw" = some m.cls := findClass_of_methodNamed Bd.named
  have hnm := (name_of_methodNamed Bd.named Bd.method).1
  have hrt := Bd.returns
  have hlk : meth.locks = false := BodyLoose.notSynchronized Bd
  have X0 : Stand p l e ({ frames := 0, cells := 0, slots := 0, locals := 0 } : Room) s m #[(.int z)] below meth c s₁ [] 0 0 := Stand.of_body Bd
  have e0 : s₁.heap = h0 := by rw [← hh, Bd.state]; rfl
  have N0 := Fr.nil n0
  show OwnG ({ frames := 0, cells := 0, slots := 0, locals := 0 } : Room).cells ({ frames := 0, cells := 0, slots := 0, locals := 0 } : Room).slots (Q2 Z z h0 n0) p e below s (s₁.setTop (entryFrame m #[(.int z)] 2))
  refine own_st (σ' := s₁.setTop (mkF m 0 #[.val (.int z), .unset] [])) (fun t k => castTop (ef_2 m z) k) ?_
  show OwnG _ _ _ _ _ _ _ (s₁.setTop (mkF m 0 #[.val (.int z), .unset] []))
  refine own_st (fun _ kk => XS.iloadN X0.here hx rfl (hb hby d2_0) rfl kk) ?_
  show OwnG _ _ _ _ _ _ _ (s₁.setTop (mkF m 1 #[.val (.int z), .unset] [(.int z)]))
  refine own_st (fun _ kk => XS.istoreN X0.here hx rfl (hb hby d2_1) rfl (l' := #[.val (.int z), .val (.int z)]) rfl kk) ?_
  show OwnG _ _ _ _ _ _ _ (s₁.setTop (mkF m 2 #[.val (.int z), .val (.int z)] []))
  refine own_st (fun _ kk => XS.iloadN X0.here hx rfl (hb hby d2_2) rfl kk) ?_
  show OwnG _ _ _ _ _ _ _ (s₁.setTop (mkF m 3 #[.val (.int z), .val (.int z)] [(.int z)]))
  refine own_st (fun _ kk => XS.bipush X0.here hx rfl (hb hby d2_3) kk) ?_
  show OwnG _ _ _ _ _ _ _ (s₁.setTop (mkF m 5 #[.val (.int z), .val (.int z)] [(.int (32 : Int32)), (.int z)]))
  by_cases h5 : (32 : Int32) < z
  · skip
    refine own_st (fun _ kk => XS.icmpNo X0.here hx rfl (hb hby d2_5) rfl (tlt h5).2.2.2 kk) ?_
    show OwnG _ _ _ _ _ _ _ (s₁.setTop (mkF m 8 #[.val (.int z), .val (.int z)] []))
    refine own_st (fun _ kk => XS.iconst X0.here hx rfl (hb hby d2_8) kk) ?_
    show OwnG _ _ _ _ _ _ _ (s₁.setTop (mkF m 9 #[.val (.int z), .val (.int z)] [(.int (0 : Int32))]))
    exact own_retN X0 hx hrt hlk (t := .boolean) (by simp) (hb hby d2_9) (by decide) (by decide) (by show _ ∧ _; first | (rw [e0]; exact ⟨by simp only [own_r, if_pos h5]; rfl, N0, rfl⟩) | exact ⟨by simp only [own_r, if_pos h5]; rfl, N0, rfl⟩)
  · skip
    refine own_st (fun _ kk => XS.icmpYes X0.here hx rfl (pc0 := 5) (pc' := 10) rfl (hb hby d2_5) rfl (flt h5).2.2.2 (by decide) (by decide) kk) ?_
    show OwnG _ _ _ _ _ _ _ (s₁.setTop (mkF m 10 #[.val (.int z), .val (.int z)] []))
    refine own_st (X0.ldc2Long hx hown (mvT hZ (hw _ (List.mem_of_getElem? (i := 8) rfl))) (g := (mkF m 10 #[.val (.int z), .val (.int z)] [])) rfl (hb hby d2_10)) ?_
    show OwnG _ _ _ _ _ _ _ (s₁.setTop (mkF m 13 #[.val (.int z), .val (.int z)] [(.long (4294977024 : Int64))]))
    refine own_st (fun _ kk => XS.iloadN X0.here hx rfl (hb hby d2_13) rfl kk) ?_
    show OwnG _ _ _ _ _ _ _ (s₁.setTop (mkF m 14 #[.val (.int z), .val (.int z)] [(.int z), (.long (4294977024 : Int64))]))
    refine own_st (fun _ kk => XS.lushr X0.here hx rfl (hb hby d2_14) rfl kk) ?_
    show OwnG _ _ _ _ _ _ _ (s₁.setTop (mkF m 15 #[.val (.int z), .val (.int z)] [(.long (((4294977024 : Int64).toUInt64 >>> (z &&& 0x3f).toInt64.toUInt64).toInt64))]))
    refine own_st (fun _ kk => XS.lconst X0.here hx rfl (hb hby d2_15) kk) ?_
    show OwnG _ _ _ _ _ _ _ (s₁.setTop (mkF m 16 #[.val (.int z), .val (.int z)] [(.long (1 : Int64)), (.long (((4294977024 : Int64).toUInt64 >>> (z &&& 0x3f).toInt64.toUInt64).toInt64))]))
    refine own_st (fun _ kk => XS.land X0.here hx rfl (hb hby d2_16) rfl kk) ?_
    show OwnG _ _ _ _ _ _ _ (s₁.setTop (mkF m 17 #[.val (.int z), .val (.int z)] [(.long ((((4294977024 : Int64).toUInt64 >>> (z &&& 0x3f).toInt64.toUInt64).toInt64) &&& (1 : Int64)))]))
    refine own_st (fun _ kk => XS.lconst X0.here hx rfl (hb hby d2_17) kk) ?_
    show OwnG _ _ _ _ _ _ _ (s₁.setTop (mkF m 18 #[.val (.int z), .val (.int z)] [(.long (0 : Int64)), (.long ((((4294977024 : Int64).toUInt64 >>> (z &&& 0x3f).toInt64.toUInt64).toInt64) &&& (1 : Int64)))]))
    refine own_st (fun _ kk => XS.lcmp X0.here hx rfl (hb hby d2_18) rfl kk) ?_
    show OwnG _ _ _ _ _ _ _ (s₁.setTop (mkF m 19 #[.val (.int z), .val (.int z)] [(.int (lcmpW ((((4294977024 : Int64).toUInt64 >>> (z &&& 0x3f).toInt64.toUInt64).toInt64) &&& (1 : Int64)) (0 : Int64)))]))
    by_cases h19 : (lcmpW ((((4294977024 : Int64).toUInt64 >>> (z &&& 0x3f).toInt64.toUInt64).toInt64) &&& (1 : Int64)) (0 : Int64)) = (0 : Int32)
    · skip
      refine own_st (fun _ kk => XS.ifYes X0.here hx rfl (pc0 := 19) (pc' := 26) rfl (hb hby d2_19) rfl ((if0 _ _).trans (teq h19).1) (by decide) (by decide) kk) ?_
      show OwnG _ _ _ _ _ _ _ (s₁.setTop (mkF m 26 #[.val (.int z), .val (.int z)] []))
      refine own_st (fun _ kk => XS.iconst X0.here hx rfl (hb hby d2_26) kk) ?_
      show OwnG _ _ _ _ _ _ _ (s₁.setTop (mkF m 27 #[.val (.int z), .val (.int z)] [(.int (0 : Int32))]))
      exact own_retN X0 hx hrt hlk (t := .boolean) (by simp) (hb hby d2_27) (by decide) (by decide) (by show _ ∧ _; first | (rw [e0]; exact ⟨by simp only [own_r, if_neg h5, if_pos h19]; rfl, N0, rfl⟩) | exact ⟨by simp only [own_r, if_neg h5, if_pos h19]; rfl, N0, rfl⟩)
    · skip
      refine own_st (fun _ kk => XS.ifNo X0.here hx rfl (hb hby d2_19) rfl ((if0 _ _).trans (feq h19).1) kk) ?_
      show OwnG _ _ _ _ _ _ _ (s₁.setTop (mkF m 22 #[.val (.int z), .val (.int z)] []))
      refine own_st (fun _ kk => XS.iconst X0.here hx rfl (hb hby d2_22) kk) ?_
      show OwnG _ _ _ _ _ _ _ (s₁.setTop (mkF m 23 #[.val (.int z), .val (.int z)] [(.int (1 : Int32))]))
      refine own_st (fun _ kk => XS.goto X0.here hx rfl (pc0 := 23) (pc' := 27) rfl (hb hby d2_23) (by decide) (by decide) kk) ?_
      show OwnG _ _ _ _ _ _ _ (s₁.setTop (mkF m 27 #[.val (.int z), .val (.int z)] [(.int (1 : Int32))]))
      exact own_retN X0 hx hrt hlk (t := .boolean) (by simp) (hb hby d2_27) (by decide) (by decide) (by show _ ∧ _; first | (rw [e0]; exact ⟨by simp only [own_r, if_neg h5, if_neg h19]; rfl, N0, rfl⟩) | exact ⟨by simp only [own_r, if_neg h5, if_neg h19]; rfl, N0, rfl⟩)
theorem pn_0 : plainName "com/example/mapwarden/mapwarden/ows/TagScannerIsSpacePinLaw" = true := by first | (simp [plainName, overriddenIn]; done) | decide +kernel
theorem ef_0 (m : MethodId) (x0 : Int32) : entryFrame m #[(.int x0)] maxLocals = mkF m 0 #[.val (.int x0), .unset] [] := by first | (simp [entryFrame, mkF, argsToLocals, Value.category, maxLocals]; done) | rfl
def Q0 (Z : State) (xx : Int32) (h0 : Heap) (n0 : Nat) (v : Option Value) (h : Heap) (L : List Loc) : Prop := v = some (.int 1) ∧ Fr n0 L
set_option maxRecDepth 65536 in
set_option maxHeartbeats 40000000 in
theorem rm0 (l : Launch) (Z : State) (a0 : Array Value) (hw : ∀ d ∈ tables_1, d.before a0 Z = true) (ws : List Jvm.Cond) (xx : Int32) (h0 : Heap) (n0 : Nat) (Z0 : n0 ≤ h0.size)  :
    MetFree l x (head1 (Jvm.Cond.code x code maxLocals ret :: ws) room_1) (fun a U => a = #[(.int xx)] ∧ Z.Warmed39 U.vm ∧ U.heap = h0) (fun _ _ _ _ _ => True) (fun _ U o U' => ∃ v L, o = .returned v ∧ Q0 Z xx h0 n0 v U'.heap L ∧ FrameEnd U o U' L 0 0) := by
  refine MetFree.of_bodySF (plainFor_of_name pn_0) hisR ?_
  intro p e s m args below meth c s₁ Bd hml0 hP hK
  obtain ⟨rfl, hZ, hh⟩ := hP
  have hx := Bd.exec
  have hby := Bd.bytes
  have hml : c.maxLocals = 2 := hml0
  have hown : s.vm.findClass "com/example/mapwarden/mapwarden/ows/TagScannerIsSpacePinLaw" = some m.cls := findClass_of_methodNamed Bd.named
  have hnm := (name_of_methodNamed Bd.named Bd.method).1
  have hrt := Bd.returns
  have hlk : meth.locks = false := BodyLoose.notSynchronized Bd
  have X0 : Stand p l e room_1 s m #[(.int xx)] below meth c s₁ [] 0 0 := Stand.of_body Bd
  have e0 : s₁.heap = h0 := by rw [← hh, Bd.state]; rfl
  have N0 := Fr.nil n0
  show OwnG 0 0 (Q0 Z xx h0 n0) p e below s (s₁.setTop (entryFrame m #[(.int xx)] maxLocals))
  refine own_st (σ' := s₁.setTop (mkF m 0 #[.val (.int xx), .unset] [])) (fun t k => castTop (ef_0 m xx) k) ?_
  show OwnG _ _ _ _ _ _ _ (s₁.setTop (mkF m 0 #[.val (.int xx), .unset] []))
  refine own_st (fun _ kk => XS.iloadN X0.here hx rfl (hb hby at_0) rfl kk) ?_
  show OwnG _ _ _ _ _ _ _ (s₁.setTop (mkF m 1 #[.val (.int xx), .unset] [(.int xx)]))
  refine own_st (fun _ kk => XS.i2c X0.here hx rfl (hb hby at_1) rfl kk) ?_
  show OwnG _ _ _ _ _ _ _ (s₁.setTop (mkF m 2 #[.val (.int xx), .unset] [(.int (xx.toUInt32.toUInt16.toUInt32.toInt32))]))
  refine own_st (fun _ kk => XS.istoreN X0.here hx rfl (hb hby at_2) rfl (l' := #[.val (.int xx), .val (.int (xx.toUInt32.toUInt16.toUInt32.toInt32))]) rfl kk) ?_
  show OwnG _ _ _ _ _ _ _ (s₁.setTop (mkF m 3 #[.val (.int xx), .val (.int (xx.toUInt32.toUInt16.toUInt32.toInt32))] []))
  refine own_st (fun _ kk => XS.iloadN X0.here hx rfl (hb hby at_3) rfl kk) ?_
  show OwnG _ _ _ _ _ _ _ (s₁.setTop (mkF m 4 #[.val (.int xx), .val (.int (xx.toUInt32.toUInt16.toUInt32.toInt32))] [(.int (xx.toUInt32.toUInt16.toUInt32.toInt32))]))
  obtain ⟨_, _, ⟨T1, L1, k1, n1⟩, -, X1, ⟨Lc1, hQ1, l1, y1, z1⟩, st1⟩ := Jvm.LawKit.callS X0 hx (y := (⟨"com/example/mapwarden/mapwarden/ows/TagScanner", "isSpace", "(C)Z"⟩ : MethodName)) hown (mvT hZ (hw _ (List.mem_of_getElem? (i := 0) rfl))) (mvT hZ (hw _ (List.mem_of_getElem? (i := 1) rfl))) (mvT hZ (hw _ (List.mem_of_getElem? (i := 2) rfl))) (mvT hZ (hw _ (List.mem_of_getElem? (i := 3) rfl))) (by decide) (backOf (W := 0) (rm1 l Z a0 hw [] (xx.toUInt32.toUInt16.toUInt32.toInt32) h0 n0 Z0) hZ (hw _ (List.mem_of_getElem? (i := 3) rfl)) (hw _ (List.mem_of_getElem? (i := 2) rfl)) (by decide) (by decide)) (g := (mkF m 4 #[.val (.int xx), .val (.int (xx.toUInt32.toUInt16.toUInt32.toInt32))] [(.int (xx.toUInt32.toUInt16.toUInt32.toInt32))])) rfl (by rw [hml]; rfl) (argsL := [(.int (xx.toUInt32.toUInt16.toUInt32.toInt32))]) (rest := []) (lenOf (by decide +kernel : parseMethodDescriptor "(C)Z" = some ⟨[.char], some .boolean⟩) rfl) rfl (by show 2 * 0 + _ ≤ _; exact Nat.le_of_eq rfl) (hb hby at_4) (fun _ _ => ⟨rfl, e0, (by dsimp only [Pt.cells]; decide), (by dsimp only [Pt.slots]; decide)⟩)
  dsimp only [Pt.U, Pt.locs, Pt.cells, Pt.slots] at X1 l1 y1 z1 st1 hQ1
  subst l1 y1 z1
  obtain ⟨rfl, N1q, E1⟩ := hQ1
  have N1 := Fr.app N0 N1q
  refine own_st st1 ?_
  show OwnG _ _ _ _ _ _ _ (T1.setTop (mkF m 7 #[.val (.int xx), .val (.int (xx.toUInt32.toUInt16.toUInt32.toInt32))] [(.int (own_s (xx.toUInt32.toUInt16.toUInt32.toInt32)))]))
  refine own_st (fun _ kk => XS.iloadN X1.here hx rfl (hb hby at_7) rfl kk) ?_
  show OwnG _ _ _ _ _ _ _ (T1.setTop (mkF m 8 #[.val (.int xx), .val (.int (xx.toUInt32.toUInt16.toUInt32.toInt32))] [(.int (xx.toUInt32.toUInt16.toUInt32.toInt32)), (.int (own_s (xx.toUInt32.toUInt16.toUInt32.toInt32)))]))
  obtain ⟨_, _, ⟨T2, L2, k2, n2⟩, -, X2, ⟨Lc2, hQ2, l2, y2, z2⟩, st2⟩ := Jvm.LawKit.callS X1 hx (y := (⟨"com/example/mapwarden/mapwarden/ows/TagScannerIsSpacePinLaw", "reference", "(C)Z"⟩ : MethodName)) hown (mvT hZ (hw _ (List.mem_of_getElem? (i := 4) rfl))) (mvT hZ (hw _ (List.mem_of_getElem? (i := 5) rfl))) (mvT hZ (hw _ (List.mem_of_getElem? (i := 6) rfl))) (mvT hZ (hw _ (List.mem_of_getElem? (i := 7) rfl))) (by decide) (backOf (W := 1) (rm2 l Z a0 hw [] (xx.toUInt32.toUInt16.toUInt32.toInt32) h0 n0 Z0) hZ (hw _ (List.mem_of_getElem? (i := 7) rfl)) (hw _ (List.mem_of_getElem? (i := 6) rfl)) (by decide) (by decide)) (g := (mkF m 8 #[.val (.int xx), .val (.int (xx.toUInt32.toUInt16.toUInt32.toInt32))] [(.int (xx.toUInt32.toUInt16.toUInt32.toInt32)), (.int (own_s (xx.toUInt32.toUInt16.toUInt32.toInt32)))])) rfl (by rw [hml]; rfl) (argsL := [(.int (xx.toUInt32.toUInt16.toUInt32.toInt32))]) (rest := [(.int (own_s (xx.toUInt32.toUInt16.toUInt32.toInt32)))]) (lenOf (by decide +kernel : parseMethodDescriptor "(C)Z" = some ⟨[.char], some .boolean⟩) rfl) rfl (by show 2 * 0 + _ ≤ _; exact Nat.le_of_eq rfl) (hb hby at_8) (fun _ _ => ⟨rfl, E1, (by dsimp only [Pt.cells]; decide), (by dsimp only [Pt.slots]; decide)⟩)
  dsimp only [Pt.U, Pt.locs, Pt.cells, Pt.slots] at X2 l2 y2 z2 st2 hQ2
  subst l2 y2 z2
  obtain ⟨rfl, N2q, E2⟩ := hQ2
  have N2 := Fr.app N1 N2q
  refine own_st st2 ?_
  show OwnG _ _ _ _ _ _ _ (T2.setTop (mkF m 11 #[.val (.int xx), .val (.int (xx.toUInt32.toUInt16.toUInt32.toInt32))] [(.int (own_r (xx.toUInt32.toUInt16.toUInt32.toInt32))), (.int (own_s (xx.toUInt32.toUInt16.toUInt32.toInt32)))]))
  refine own_st (fun _ kk => XS.icmpNo X2.here hx rfl (hb hby at_11) rfl (teq (own_eq _ (own_ch xx))).2 kk) ?_
  show OwnG _ _ _ _ _ _ _ (T2.setTop (mkF m 14 #[.val (.int xx), .val (.int (xx.toUInt32.toUInt16.toUInt32.toInt32))] []))
  refine own_st (fun _ kk => XS.iconst X2.here hx rfl (hb hby at_14) kk) ?_
  show OwnG _ _ _ _ _ _ _ (T2.setTop (mkF m 15 #[.val (.int xx), .val (.int (xx.toUInt32.toUInt16.toUInt32.toInt32))] [(.int (1 : Int32))]))
  refine own_st (fun _ kk => XS.goto X2.here hx rfl (pc0 := 15) (pc' := 19) rfl (hb hby at_15) (by decide) (by decide) kk) ?_
  show OwnG _ _ _ _ _ _ _ (T2.setTop (mkF m 19 #[.val (.int xx), .val (.int (xx.toUInt32.toUInt16.toUInt32.toInt32))] [(.int (1 : Int32))]))
  exact own_retN X2 hx hrt hlk (t := .boolean) (by simp) (hb hby at_19) (by decide) (by decide) (by show _ ∧ _; first | (rw [E2]; exact ⟨rfl, N2⟩) | exact ⟨rfl, N2⟩)
set_option maxRecDepth 65536 in
set_option maxHeartbeats 40000000 in
theorem comes_1 {Post : Tables → Env → Array Value → State → Outcome → State → Prop} (hpost : ∀ tb e args s v u, (limb_1_1.after args s (.returned v) u = true ∧ limb_1_2.after args s (.returned v) u = true ∧ True) → FrameEnd s (.returned v) u (Jvm.fieldLocs frame_1_writes args s ++ Jvm.arrayLocs frame_1_arrays args s ++ Jvm.staticLocs frame_1_statics s) 0 0 → Post tb e args s (.returned v) u) :
    ArmFor flags0 classFile x code maxLocals ret World_1 tables_1 room_1 Calls_1 rest_1 Pre_1 Post := by
  intro l hfl _ _ p e ha hc hk s m args below hf hA hF happ hP
  obtain ⟨hcalls, hrest, hpre⟩ := hP
  obtain ⟨-, -, -, hnamed, -, -, -, hat⟩ := (Spec.applies_iff hf).mp happ
  obtain ⟨hg, hn⟩ := and_e (Cond.before_iff.mp (show (Jvm.Cond.and given_1 narrow_1).before args s = true from hpre))
  obtain ⟨gc, r0⟩ := and_e hg
  obtain ⟨w0, rfl⟩ : ∃ w0 : Value, args = #[w0] := by
    have hs : args.size = 1 := by simpa [Cond.value, given_1] using gc
    obtain ⟨L⟩ := args
    match L, hs with
    | [w0], _ => exact ⟨w0, rfl⟩
  have hw := fun d (hd : d ∈ tables_1) => atoms_spec (ws := Jvm.Cond.code x code maxLocals ret :: tables_1) hat d (List.mem_cons_of_mem _ hd)
  obtain ⟨i0, ei0⟩ := is_v r0
  obtain rfl : w0 = (.int i0) := Option.some.inj ei0
  obtain ⟨n, o, h1, h2, h3, _, L, rfl, ⟨rfl, N⟩, hq⟩ := rm0 l s _ hw tables_1 i0 s.heap s.heap.size (Nat.le_refl _) p e ha hc hk s m _ below hf ((Spec.applies_iff_loose hf).mp happ).1 ⟨rfl, State.Warmed39.refl s, rfl⟩ trivial
  refine ⟨n, _, h1, h2, h3, hpost _ _ _ _ _ _ ⟨Cond.after_iff.mpr rfl, Cond.after_iff.mpr (eq_i res_at (Term.int_eval (1)) rfl), trivial⟩ ⟨hq.1, hq.2.1, (hq.2.2.sift fun y hy => Or.inr (N y hy)).mono (by decide) (by decide)⟩⟩
theorem main_1_1 : Claimed_1_1 := comes_1 fun _ _ _ _ _ _ h hF => ⟨h.1, hF⟩
theorem main_1_2 : Claimed_1_2 := comes_1 fun _ _ _ _ _ _ h hF => ⟨h.2.1, hF⟩
end Jvm.Pilot.@@N@@
namespace Jvm.Pilot.@@N@@
open Jvm Jvm.ClassFile Sem Op Lib Jvm.Free Jvm.Stand Jvm.Pilot.@@N@@.Jvm.D
/-! MADE BY PROGRAM (witnessworld.py) out of the Statement's table words and the real class files: 9 classes; the members and pool entries that the words name. The judged class is class 1, her method 2. -/
namespace start1
open Jvm.ClassFile
def u (s : String) : CpInfo := .utf8 (stringToUtf16 s)
/-- a pool by its gaps: so many unusable entries, then the entry; so many at the end -/
def gap : Nat → List CpInfo → List CpInfo
  | 0, r => r
  | n + 1, r => .unusable :: gap n r
def poolList (es : List (Nat × CpInfo)) (last : Nat) : List CpInfo := es.foldr (fun e r => gap e.1 (e.2 :: r)) (gap last [])
def pool (es : List (Nat × CpInfo)) (last : Nat) : Array CpInfo := ⟨poolList es last⟩
def fileOf (pool : Array CpInfo) (this : Nat) (attrs : Array Attribute := #[]) (ms : Array MethodInfo := #[]) (fl : Nat := 33) (sup : Nat := 0) (ifs : Array Nat := #[]) (fds : Array FieldInfo := #[]) : ClassFile where
  minorVersion := 0
  majorVersion := 65
  constantPool := pool
  accessFlags := fl
  thisClass := this
  superClass := sup
  interfaces := ifs
  fields := fds
  methods := ms
  attributes := attrs
def plain (name : String) (sup : Option ClassId) : Class where
  name := name
  kind := .ordinary
  loader := none
  accessFlags := 33
  super := sup
  interfaces := #[]
  cf := none
  fields := #[]
  methods := #[]
  instanceTypes := #[]
  staticTypes := #[]
  resolved := #[]
  callSites := []
  init := .initialized
  statics := none
  mirror := none

def pool0 : Array CpInfo := pool [(5, u "<init>"), (0, u "()V"), (1, .class_ 10), (1, u "java/lang/Object")] 113

def k0m0 : Method := { name := "<init>", desc := "()V", sig := { parameters := [], returnType := none }, accessFlags := 1, code := none }
/-- java/lang/Object -/
def k0 : Class := { plain "java/lang/Object" none with
  accessFlags := 33
  interfaces := #[]
  cf := some (fileOf pool0 8 #[] #[{ accessFlags := 1, nameIndex := 5, descriptorIndex := 6, attributes := #[] }] 33 0 #[] #[])
  fields := #[]
  methods := #[k0m0]
  instanceTypes := #[]
  staticTypes := #[]
  resolved := Array.replicate 124 none
  statics := none }

def pool1 : Array CpInfo := pool [(2, .class_ 4), (1, u "java/lang/Object"), (0, u "<init>"), (0, u "()V"), (0, .class_ 8), (0, u "com/example/mapwarden/mapwarden/ows/TagScannerIsSpacePinLaw"), (0, .long 4294977024), (1, .methodref 12 13), (0, .class_ 14), (0, .nameAndType 15 16), (0, u "com/example/mapwarden/mapwarden/ows/TagScanner"), (0, u "isSpace"), (0, u "(C)Z"), (0, .methodref 7 18), (0, .nameAndType 19 16), (0, u "reference"), (0, u "XML_SPACE_MASK"), (0, u "J"), (4, u "law"), (0, u "(I)Z")] 2

def k1m0 : Method := { name := "<init>", desc := "()V", sig := { parameters := [], returnType := none }, accessFlags := 2, code := none }
def k1c1 : Code := { maxStack := 4, maxLocals := 2, code := method_2_code, exceptionTable := #[], attributes := #[] }
def k1m1 : Method := { name := "reference", desc := "(C)Z", sig := { parameters := [.char], returnType := some .boolean }, accessFlags := 10, code := some k1c1 }
def k1c2 : Code := { maxStack := 2, maxLocals := 2, code := code, exceptionTable := #[], attributes := #[] }
def k1m2 : Method := { name := "law", desc := "(I)Z", sig := { parameters := [.int], returnType := some .boolean }, accessFlags := 9, code := some k1c2 }
/-- com/example/mapwarden/mapwarden/ows/TagScannerIsSpacePinLaw -/
def k1 : Class := { plain "com/example/mapwarden/mapwarden/ows/TagScannerIsSpacePinLaw" (some 0) with
  accessFlags := 49
  interfaces := #[]
  cf := some (fileOf pool1 7 #[] #[{ accessFlags := 2, nameIndex := 5, descriptorIndex := 6, attributes := #[] }, { accessFlags := 10, nameIndex := 19, descriptorIndex := 16, attributes := #[] }, { accessFlags := 9, nameIndex := 26, descriptorIndex := 27, attributes := #[] }] 49 2 #[] #[{ accessFlags := 26, nameIndex := 20, descriptorIndex := 21, attributes := #[] }])
  fields := #[{ name := "XML_SPACE_MASK", type := .long, accessFlags := 26, slot := 0, constantValue := 0 }]
  methods := #[k1m0, k1m1, k1m2]
  instanceTypes := #[]
  staticTypes := #[.long]
  resolved := Array.replicate 30 none
  statics := none }

def pool2 : Array CpInfo := pool [(2, .class_ 4), (1, u "java/lang/Object"), (3, .class_ 10), (1, u "com/example/mapwarden/mapwarden/ows/TagScanner"), (0, u "text"), (0, u "Ljava/lang/String;"), (2, u "position"), (0, u "I"), (43, .class_ 61), (0, u "com/example/mapwarden/mapwarden/ows/TagScanner$Tag"), (1, .class_ 65), (1, u "com/example/mapwarden/mapwarden/ows/TagScanner$Kind"), (34, u "isSpace"), (0, u "(C)Z"), (3, .class_ 106), (0, u "com/example/mapwarden/mapwarden/ows/TagScanner$Value")] 31

def k2c0 : Code := { maxStack := 2, maxLocals := 1, code := prog_40_method_9_code, exceptionTable := #[], attributes := #[] }
def k2m0 : Method := { name := "isSpace", desc := "(C)Z", sig := { parameters := [.char], returnType := some .boolean }, accessFlags := 8, code := some k2c0 }
/-- com/example/mapwarden/mapwarden/ows/TagScanner -/
def k2 : Class := { plain "com/example/mapwarden/mapwarden/ows/TagScanner" (some 0) with
  accessFlags := 48
  interfaces := #[]
  cf := some (fileOf pool2 8 #[.nestMembers #[105, 60, 63]] #[{ accessFlags := 8, nameIndex := 100, descriptorIndex := 101, attributes := #[] }] 48 2 #[] #[{ accessFlags := 18, nameIndex := 11, descriptorIndex := 12, attributes := #[] }, { accessFlags := 2, nameIndex := 15, descriptorIndex := 16, attributes := #[] }])
  fields := #[{ name := "text", type := (.object "java/lang/String"), accessFlags := 18, slot := 0, constantValue := 0 }, { name := "position", type := .int, accessFlags := 2, slot := 1, constantValue := 0 }]
  methods := #[k2m0]
  instanceTypes := #[(.object "java/lang/String"), .int]
  staticTypes := #[]
  resolved := Array.replicate 138 none
  statics := none }

def pool3 : Array CpInfo := pool [(1, u "java/lang/Cloneable"), (0, .class_ 1), (0, u "java/lang/Object"), (0, .class_ 3)] 3

/-- java/lang/Cloneable -/
def k3 : Class := { plain "java/lang/Cloneable" (some 0) with
  accessFlags := 1537
  interfaces := #[]
  cf := some (fileOf pool3 2 #[] #[] 1537 4 #[] #[])
  fields := #[]
  methods := #[]
  instanceTypes := #[]
  staticTypes := #[]
  resolved := Array.replicate 8 none
  statics := none }

def pool4 : Array CpInfo := pool [(1, u "java/io/Serializable"), (0, .class_ 1), (0, u "java/lang/Object"), (0, .class_ 3)] 3

/-- java/io/Serializable -/
def k4 : Class := { plain "java/io/Serializable" (some 0) with
  accessFlags := 1537
  interfaces := #[]
  cf := some (fileOf pool4 2 #[] #[] 1537 4 #[] #[])
  fields := #[]
  methods := #[]
  instanceTypes := #[]
  staticTypes := #[]
  resolved := Array.replicate 8 none
  statics := none }

/-- the primitive byte -/
def k5 : Class := { plain "byte" none with kind := .primitive 'B', accessFlags := 0x411 }
/-- [B -/
def k6 : Class := { plain "[B" (some 0) with kind := .array 5 .byte, interfaces := #[3, 4], accessFlags := 1041 }

/-- the primitive int -/
def k7 : Class := { plain "int" none with kind := .primitive 'I', accessFlags := 0x411 }
/-- [I -/
def k8 : Class := { plain "[I" (some 0) with kind := .array 7 .int, interfaces := #[3, 4], accessFlags := 1041 }

def heap : Heap := #[]
def classes : Array Class := #[k0, k1, k2, k3, k4, k5, k6, k7, k8]
def interned : List (Array UInt16 × Addr) := []
def slotsUsed : Nat := 0
def theMethod : MethodId := ⟨1, 2⟩
def args0 : Array Value := #[.int 32]
def aboutOver (below : List Frame) : State where
  vm := { classes := classes, interned := interned.toArray }
  heap := heap
  slotsUsed := slotsUsed
  threads := #[{ frames := .invoking theMethod args0 :: below }]
def below0 : List Frame := [.native { method := ⟨0, 0⟩, args := #[] }]
def about1 : State := aboutOver below0
def p0 : Program := .bare "" "" ""
def e0 : Env := launch0.env 0 0 0
theorem w_frames : about1.frames = Frame.invoking theMethod args0 :: below0 := rfl
set_option maxRecDepth 65536 in
theorem w_args : argsFit about1.vm theMethod args0 = true := by decide +kernel
set_option maxRecDepth 65536 in
theorem w_heap : heapFits about1 = true := by decide +kernel
set_option maxRecDepth 65536 in
theorem w_runnable : about1.curStatus? = some .runnable := by decide +kernel
set_option maxRecDepth 65536 in
theorem w_alone : about1.alone = true := by decide +kernel
set_option maxRecDepth 65536 in
theorem w_named : about1.methodNamed? x = some theMethod := by decide +kernel
set_option maxRecDepth 65536 in
theorem w_hears : about1.hears theMethod below0 = true := by decide +kernel
set_option maxRecDepth 65536 in
theorem w_ripe : about1.ripe theMethod args0 below0 = true := by decide +kernel
theorem w_running : about1.status = .running := rfl
set_option maxRecDepth 65536 in
theorem w_room : about1.hasRoom e0.platform room_1 = true :=
  launch0.hasRoom_least _ room_1 (by decide +kernel) (by decide +kernel) (by decide +kernel) (by decide +kernel) (by decide +kernel) (by decide +kernel)
theorem allAtoms_all (ts : List Jvm.Cond) (a : Array Jvm.Value) (st : Jvm.State) : (allAtoms ts).before a st = ts.all (fun c => c.before a st) := by
  induction ts with
  | nil => rfl
  | cons c t ih =>
    show (Jvm.Cond.and c (allAtoms t)).before a st = _
    rw [Jvm.Cond.before_and, ih, List.all_cons]
def words1 : List Jvm.Cond := Jvm.Cond.code x code maxLocals ret :: tables_1
/-- a 'code' word, met by the world's own term for the bytes: nothing is compared byte by byte -/
theorem code_word {y : MethodName} {bytes : ByteArray} {mx : Nat} {rt : Option FieldType} {a : Array Value} {s : State} {m : MethodId} {meth : Method} {c : Code} (h1 : s.methodNamed? y = some m) (h2 : s.vm.method? m = some meth) (h3 : meth.code = some c) (h4 : c.code = bytes)
    (h5 : (c.maxLocals == mx && c.exceptionTable.isEmpty && decide (c.maxStack ≤ mostOperands) && decide (meth.sig.returnType = rt) && !meth.locks && decide (parseMethodDescriptor y.desc = some meth.sig)) = true) : (Jvm.Cond.code y bytes mx rt).before a s = true := by
  simp only [Bool.and_eq_true, beq_iff_eq, Bool.not_eq_true', decide_eq_true_eq] at h5
  obtain ⟨⟨⟨⟨⟨g1, g2⟩, g3⟩, g4⟩, g5⟩, g6⟩ := h5
  simp [Cond.before, Cond.holds, Cond.value, h1, h2, h3, h4, g1, g2, g3, g4, g5, g6]
def isCode : Jvm.Cond → Bool
  | .code _ _ _ _ => true
  | _ => false
theorem all_split {L : List Jvm.Cond} {P : Jvm.Cond → Bool} (h1 : L.all (fun c => isCode c || P c) = true) (h2 : ∀ c ∈ L.filter isCode, P c = true) : L.all P = true := by
  refine List.all_eq_true.mpr fun c hc => ?_
  have h := List.all_eq_true.mp h1 c hc
  rcases Bool.eq_false_or_eq_true (isCode c) with hi | hi
  · exact h2 c (List.mem_filter.mpr ⟨hc, hi⟩)
  · simpa [hi] using h
set_option maxRecDepth 65536 in
theorem w_c0 : (Jvm.Cond.code x code maxLocals ret).before args0 about1 = true := code_word (m := ⟨1, 2⟩) (meth := k1m2) (c := k1c2) (by decide +kernel) rfl rfl rfl (by decide +kernel)
set_option maxRecDepth 65536 in
theorem w_c1 : (Jvm.Cond.code ({ cls := "com/example/mapwarden/mapwarden/ows/TagScanner", name := "isSpace", desc := "(C)Z" } : Jvm.MethodName) prog_40_method_9_code (1 : Nat) (Option.some Jvm.ClassFile.FieldType.boolean)).before args0 about1 = true := code_word (m := ⟨2, 0⟩) (meth := k2m0) (c := k2c0) (by decide +kernel) rfl rfl rfl (by decide +kernel)
set_option maxRecDepth 65536 in
theorem w_c2 : (Jvm.Cond.code ({ cls := "com/example/mapwarden/mapwarden/ows/TagScannerIsSpacePinLaw", name := "reference", desc := "(C)Z" } : Jvm.MethodName) method_2_code (2 : Nat) (Option.some Jvm.ClassFile.FieldType.boolean)).before args0 about1 = true := code_word (m := ⟨1, 1⟩) (meth := k1m1) (c := k1c1) (by decide +kernel) rfl rfl rfl (by decide +kernel)
def codes1 : List Jvm.Cond := [Jvm.Cond.code x code maxLocals ret, Jvm.Cond.code ({ cls := "com/example/mapwarden/mapwarden/ows/TagScanner", name := "isSpace", desc := "(C)Z" } : Jvm.MethodName) prog_40_method_9_code (1 : Nat) (Option.some Jvm.ClassFile.FieldType.boolean), Jvm.Cond.code ({ cls := "com/example/mapwarden/mapwarden/ows/TagScannerIsSpacePinLaw", name := "reference", desc := "(C)Z" } : Jvm.MethodName) method_2_code (2 : Nat) (Option.some Jvm.ClassFile.FieldType.boolean)]
set_option maxRecDepth 65536 in
theorem codes_eq : words1.filter isCode = codes1 := rfl
theorem w_codes : ∀ c ∈ words1.filter isCode, c.before args0 about1 = true := by
  rw [codes_eq]
  intro c hc
  simp only [codes1, List.mem_cons, List.not_mem_nil, or_false] at hc
  rcases hc with rfl | rfl | rfl
  · exact w_c0
  · exact w_c1
  · exact w_c2
set_option maxRecDepth 65536 in
theorem w_t1 : words1.all (fun c => isCode c || c.before args0 about1) = true := by decide +kernel
theorem w_tables : (allAtoms (Jvm.Cond.code x code maxLocals ret :: tables_1)).before args0 about1 = true := by
  rw [allAtoms_all]
  show words1.all (fun c => c.before args0 about1) = true
  refine all_split ?_ w_codes
  rw [w_t1]
set_option maxRecDepth 65536 in
theorem w_case : (Jvm.Cond.and given_1 narrow_1).before args0 about1 = true := by decide +kernel
theorem w_applies : (headSpec (Jvm.Cond.code x code maxLocals ret :: tables_1) room_1).applies x e0.platform about1 = true :=
  (Spec.applies_iff w_frames).mpr ⟨w_running, w_runnable, w_alone, w_named, w_hears, w_ripe, w_room, w_tables⟩
theorem atStart : AtStart classFile x code maxLocals ret World_1 tables_1 room_1 Calls_1 rest_1 Pre_1 launch0 p0 e0 about1 theMethod args0 below0 :=
  ⟨lists_1, trivial, launch0.admits_env _ _ _, launch0.least_env, fairChoices_fair.cas, fairChoices_fair.clock, w_frames, w_args, w_heap, w_applies, trivial, trivial, w_case⟩
end start1
theorem witness_1 : WitnessClaimed_1 := ⟨start1.p0, start1.e0, start1.about1, start1.theMethod, start1.args0, start1.below0, start1.atStart⟩
end Jvm.Pilot.@@N@@
