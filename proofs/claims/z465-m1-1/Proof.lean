import JvmDerived
import JvmDerived.Pilot.@@N@@Statement
import JvmDerived.Pilot.@@N@@Code
set_option linter.unusedVariables false
set_option linter.unusedSimpArgs false
namespace Jvm.Pilot.@@N@@
open Jvm Jvm.ClassFile Sem Op Lib Jvm.Free Jvm.Stand Jvm.LawKit Jvm.RoadKit Bundle Jvm.Pilot.@@N@@.Jvm.D
/-- from the state σ the run comes to an end that Q allows -/
def OwnG (rc rs : Nat) (Q : Option Value → Heap → List Loc → Prop) (p : Program) (e : Env) (below : List Frame) (s σ : State) : Prop :=
  ∃ s₂ o, Steps p.tables e below σ s₂ ∧ s₂.status = .running ∧ Ended s₂ below o ∧ ∃ v L, o = .returned v ∧ Q v s₂.heap L ∧ FrameEnd s o s₂ L rc rs
section Own
variable {p : Program} {l : Launch} {e : Env} {R : Room} {s : State} {m : MethodId} {args : Array Value} {below : List Frame} {meth : Method} {c : Code} {T σ σ' : State} {locs : List Loc} {cells slots rc rs : Nat} {Q : Option Value → Heap → List Loc → Prop}
theorem own_st (h : ∀ target, Steps p.tables e below σ' target → Steps p.tables e below σ target) (g : OwnG rc rs Q p e below s σ') : OwnG rc rs Q p e below s σ := by
  obtain ⟨s₂, o, h1, r⟩ := g; exact ⟨s₂, o, h _ h1, r⟩
theorem own_go (h : Steps p.tables e below σ σ') (g : OwnG rc rs Q p e below s σ') : OwnG rc rs Q p e below s σ := by
  obtain ⟨s₂, o, h1, r⟩ := g; exact ⟨s₂, o, h.trans h1, r⟩
theorem own_retN (X : Stand p l e R s m args below meth c T locs cells slots) (hx : p.tables.exec = Jvm.exec) {pc : Nat} {Ls : Array Slot} {z : Int32} {rest : List Value} {t : FieldType} (hret : meth.sig.returnType = some t) (hlk : meth.locks = false) (ht : t = .boolean ∨ t = .byte ∨ t = .char ∨ t = .short)
    (hd : decode c.code pc = .ok (.ireturn, 1)) (hc : cells ≤ rc) (hs : slots ≤ rs) (hQ : Q (some (.int (nar t z))) T.heap locs) : OwnG rc rs Q p e below s (T.setTop (mkF m pc Ls (.int z :: rest))) := by
  obtain ⟨fs, hr, hrun, hended, hW, hsame⟩ := X.leave (v := some (.int (nar t z))) (fun h => by rw [hret] at h; cases h) hlk
  exact ⟨_, _, retN X hx hret ht hd hr, hrun, hended, _, _, rfl, hQ, ⟨_, rfl⟩, hW, hsame.mono hc hs⟩
theorem own_retI (X : Stand p l e R s m args below meth c T locs cells slots) (hx : p.tables.exec = Jvm.exec) {pc : Nat} {Ls : Array Slot} {z : Int32} {rest : List Value} (hret : meth.sig.returnType = some .int) (hlk : meth.locks = false)
    (hd : decode c.code pc = .ok (.ireturn, 1)) (hc : cells ≤ rc) (hs : slots ≤ rs) (hQ : Q (some (.int z)) T.heap locs) : OwnG rc rs Q p e below s (T.setTop (mkF m pc Ls (.int z :: rest))) := by
  obtain ⟨fs, hr, hrun, hended, hW, hsame⟩ := X.leave (v := some (.int z)) (fun h => by rw [hret] at h; cases h) hlk
  exact ⟨_, _, retOut X hx hret rfl (Or.inl ⟨rfl, Or.inl rfl, _, rfl⟩) hd hr, hrun, hended, _, _, rfl, hQ, ⟨_, rfl⟩, hW, hsame.mono hc hs⟩
theorem own_retJ (X : Stand p l e R s m args below meth c T locs cells slots) (hx : p.tables.exec = Jvm.exec) {pc : Nat} {Ls : Array Slot} {z : Int64} {rest : List Value} (hret : meth.sig.returnType = some .long) (hlk : meth.locks = false)
    (hd : decode c.code pc = .ok (.lreturn, 1)) (hc : cells ≤ rc) (hs : slots ≤ rs) (hQ : Q (some (.long z)) T.heap locs) : OwnG rc rs Q p e below s (T.setTop (mkF m pc Ls (.long z :: rest))) := by
  obtain ⟨fs, hr, hrun, hended, hW, hsame⟩ := X.leave (v := some (.long z)) (fun h => by rw [hret] at h; cases h) hlk
  exact ⟨_, _, retOut X hx hret rfl (Or.inr (Or.inl ⟨rfl, rfl, _, rfl⟩)) hd hr, hrun, hended, _, _, rfl, hQ, ⟨_, rfl⟩, hW, hsame.mono hc hs⟩
theorem own_retA (X : Stand p l e R s m args below meth c T locs cells slots) (hx : p.tables.exec = Jvm.exec) {pc : Nat} {Ls : Array Slot} {a : Addr} {rest : List Value} {t : FieldType} (hret : meth.sig.returnType = some t) (hlk : meth.locks = false) (ht : t.isReference = true)
    (hd : decode c.code pc = .ok (.areturn, 1)) (hc : cells ≤ rc) (hs : slots ≤ rs) (hQ : Q (some (.ref a)) T.heap locs) : OwnG rc rs Q p e below s (T.setTop (mkF m pc Ls (.ref a :: rest))) := by
  obtain ⟨fs, hr, hrun, hended, hW, hsame⟩ := X.leave (v := some (.ref a)) (fun h => by rw [hret] at h; cases h) hlk
  exact ⟨_, _, retOut X hx hret (by cases t <;> first | rfl | cases ht) (Or.inr (Or.inr (Or.inr (Or.inr ⟨rfl, ht, rfl⟩)))) hd hr, hrun, hended, _, _, rfl, hQ, ⟨_, rfl⟩, hW, hsame.mono hc hs⟩
theorem own_retV (X : Stand p l e R s m args below meth c T locs cells slots) (hx : p.tables.exec = Jvm.exec) {pc : Nat} {Ls : Array Slot} (hret : meth.sig.returnType = none) (hlk : meth.locks = false)
    (hd : decode c.code pc = .ok (.return_, 1)) (hc : cells ≤ rc) (hs : slots ≤ rs) (hQ : Q none T.heap locs) : OwnG rc rs Q p e below s (T.setTop (mkF m pc Ls [])) := by
  obtain ⟨fs, hr, hrun, hended, hW, hsame⟩ := X.leave (v := none) (fun _ => rfl) hlk
  exact ⟨_, _, X.returnOut hx hret hd hr, hrun, hended, _, _, rfl, hQ, ⟨_, rfl⟩, hW, hsame.mono hc hs⟩
end Own
def Bud (Z : State) (h : Heap) (a : Addr) (pl cl pr co : Int64) : Prop := Exa Z h a "com/example/reasoning_service_planner/reasoningserviceplanner/SolverBudget" ∧ Fld Z h a "com/example/reasoning_service_planner/reasoningserviceplanner/SolverBudget" "propagationLimit" "J" (.long pl) ∧ Fld Z h a "com/example/reasoning_service_planner/reasoningserviceplanner/SolverBudget" "conflictLimit" "J" (.long cl) ∧ Fld Z h a "com/example/reasoning_service_planner/reasoningserviceplanner/SolverBudget" "propagations" "J" (.long pr) ∧ Fld Z h a "com/example/reasoning_service_planner/reasoningserviceplanner/SolverBudget" "conflicts" "J" (.long co)
theorem d1_0 : decode prog_30_method_1_code 0 = .ok (.aload_n 0, 1) := by decide +kernel
theorem d1_1 : decode prog_30_method_1_code 1 = .ok (.invokespecial 1, 3) := by decide +kernel
theorem d1_4 : decode prog_30_method_1_code 4 = .ok (.aload_n 0, 1) := by decide +kernel
theorem d1_5 : decode prog_30_method_1_code 5 = .ok (.lload_n 1, 1) := by decide +kernel
theorem d1_6 : decode prog_30_method_1_code 6 = .ok (.putfield 7, 3) := by decide +kernel
theorem d1_9 : decode prog_30_method_1_code 9 = .ok (.aload_n 0, 1) := by decide +kernel
theorem d1_10 : decode prog_30_method_1_code 10 = .ok (.lload_n 3, 1) := by decide +kernel
theorem d1_11 : decode prog_30_method_1_code 11 = .ok (.putfield 13, 3) := by decide +kernel
theorem d1_14 : decode prog_30_method_1_code 14 = .ok (.return_, 1) := by decide +kernel
theorem pn_1 : plainName "com/example/reasoning_service_planner/reasoningserviceplanner/SolverBudget" = true := by first | (simp [plainName, overriddenIn]; done) | decide +kernel
theorem ef_1 (m : MethodId) (x0 : Addr) (x1 : Int64) (x2 : Int64) : entryFrame m #[(.ref x0), (.long x1), (.long x2)] 5 = mkF m 0 #[.val (.ref x0), .val (.long x1), .second, .val (.long x2), .second] [] := by first | (simp [entryFrame, mkF, argsToLocals, Value.category]; done) | rfl
def Q1 (Z : State) (a1 : Addr) (pl : Int64) (cl : Int64) (h0 : Heap) (n0 : Nat) (v : Option Value) (h : Heap) (L : List Loc) : Prop := v = none ∧ Fr n0 L ∧ n0 ≤ h.size ∧ Bud Z h a1 pl cl 0 0
set_option maxRecDepth 65536 in
set_option maxHeartbeats 40000000 in
theorem rm1 (l : Launch) (Z : State) (a0 : Array Value) (hw : ∀ d ∈ tables_1, d.before a0 Z = true) (ws : List Jvm.Cond) (a1 : Addr) (pl : Int64) (cl : Int64) (h0 : Heap) (n0 : Nat) (Z0 : n0 ≤ h0.size) (B0 : Bud Z h0 a1 0 0 0 0) (g1 : n0 ≤ a1) :
    MetFree l (⟨"com/example/reasoning_service_planner/reasoningserviceplanner/SolverBudget", "<init>", "(JJ)V"⟩ : MethodName) (head1 (Jvm.Cond.code (⟨"com/example/reasoning_service_planner/reasoningserviceplanner/SolverBudget", "<init>", "(JJ)V"⟩ : MethodName) prog_30_method_1_code 5 none :: ws) ({ frames := 1, cells := 0, slots := 0, locals := 12 } : Room)) (fun a U => a = #[(.ref a1), (.long pl), (.long cl)] ∧ Z.Warmed39 U.vm ∧ U.heap = h0) (fun _ _ _ _ _ => True) (fun _ U o U' => ∃ v L, o = .returned v ∧ Q1 Z a1 pl cl h0 n0 v U'.heap L ∧ FrameEnd U o U' L ({ frames := 1, cells := 0, slots := 0, locals := 12 } : Room).cells ({ frames := 1, cells := 0, slots := 0, locals := 12 } : Room).slots) := by
  refine MetFree.of_bodySF (plainFor_of_name pn_1) hisR ?_
  intro p e s m args below meth c s₁ Bd hml0 hP hK
  obtain ⟨rfl, hZ, hh⟩ := hP
  have hx := Bd.exec
  have hby := Bd.bytes
  have hml : c.maxLocals = 5 := hml0
  have hown : s.vm.findClass "com/example/reasoning_service_planner/reasoningserviceplanner/SolverBudget" = some m.cls := findClass_of_methodNamed Bd.named
  have hnm := (name_of_methodNamed Bd.named Bd.method).1
  have hrt := Bd.returns
  have hlk : meth.locks = false := BodyLoose.notSynchronized Bd
  have X0 : Stand p l e ({ frames := 1, cells := 0, slots := 0, locals := 12 } : Room) s m #[(.ref a1), (.long pl), (.long cl)] below meth c s₁ [] 0 0 := Stand.of_body Bd
  have e0 : s₁.heap = h0 := by rw [← hh, Bd.state]; rfl
  have N0 := Fr.nil n0
  show OwnG ({ frames := 1, cells := 0, slots := 0, locals := 12 } : Room).cells ({ frames := 1, cells := 0, slots := 0, locals := 12 } : Room).slots (Q1 Z a1 pl cl h0 n0) p e below s (s₁.setTop (entryFrame m #[(.ref a1), (.long pl), (.long cl)] 5))
  refine own_st (σ' := s₁.setTop (mkF m 0 #[.val (.ref a1), .val (.long pl), .second, .val (.long cl), .second] [])) (fun _ kq_ => castTop (ef_1 m a1 pl cl) kq_) ?_
  show OwnG _ _ _ _ _ _ _ (s₁.setTop (mkF m 0 #[.val (.ref a1), .val (.long pl), .second, .val (.long cl), .second] []))
  obtain ⟨E_a, F_pl, F_cl, F_pr, F_co⟩ := B0
  refine own_st (fun _ kk => XS.aloadN X0.here hx rfl (hb hby d1_0) rfl rfl kk) ?_
  show OwnG _ _ _ _ _ _ _ (s₁.setTop (mkF m 1 #[.val (.ref a1), .val (.long pl), .second, .val (.long cl), .second] [(.ref a1)]))
  obtain ⟨T1, X1, e1, st1⟩ := initO X0 hx hZ hown (hw _ (List.mem_of_getElem? (i := 6) rfl)) (hw _ (List.mem_of_getElem? (i := 7) rfl)) (hw _ (List.mem_of_getElem? (i := 8) rfl)) e0 (g := (mkF m 1 #[.val (.ref a1), .val (.long pl), .second, .val (.long cl), .second] [(.ref a1)])) rfl (by rw [hml]; rfl) rfl (hb hby d1_1) (by decide) (W := 0) (by show 2 * 0 + _ ≤ _; exact Nat.le_of_eq rfl) (by decide)
  refine own_st st1 ?_
  show OwnG _ _ _ _ _ _ _ (T1.setTop (mkF m 4 #[.val (.ref a1), .val (.long pl), .second, .val (.long cl), .second] []))
  refine own_st (fun _ kk => XS.aloadN X1.here hx rfl (hb hby d1_4) rfl rfl kk) ?_
  show OwnG _ _ _ _ _ _ _ (T1.setTop (mkF m 5 #[.val (.ref a1), .val (.long pl), .second, .val (.long cl), .second] [(.ref a1)]))
  refine own_st (fun _ kk => XS.lloadN X1.here hx rfl (hb hby d1_5) rfl kk) ?_
  show OwnG _ _ _ _ _ _ _ (T1.setTop (mkF m 6 #[.val (.ref a1), .val (.long pl), .second, .val (.long cl), .second] [(.long pl), (.ref a1)]))
  obtain ⟨T2, h2, X2, e2, W2, st2⟩ := putF X1 hx hZ hown (host := "") (Or.inl (hw _ (List.mem_of_getElem? (i := 9) rfl))) Via.refl e1 F_pl E_a (Or.inr ⟨(hw _ (List.mem_of_getElem? (i := 10) rfl)), rfl, hnm⟩) (hw _ (List.mem_of_getElem? (i := 1) rfl)) (ty := .long) (by decide) rfl rfl (g := (mkF m 6 #[.val (.ref a1), .val (.long pl), .second, .val (.long cl), .second] [(.long pl), (.ref a1)])) rfl rfl (hb hby d1_6)
  have N2 := Fr.snoc X2 N0 g1
  refine own_st st2 ?_
  show OwnG _ _ _ _ _ _ _ (T2.setTop (mkF m 9 #[.val (.ref a1), .val (.long pl), .second, .val (.long cl), .second] []))
  have F2_propagationLimit := (F_pl.same W2)
  have F2_conflictLimit := (F_cl.other W2 (Or.inr (slot_ne (Or.inr (hw _ (List.mem_of_getElem? (i := 12) rfl))) (Or.inr (hw _ (List.mem_of_getElem? (i := 10) rfl))) (by decide) (t := .long) (t' := .long) (by decide) (by decide))))
  have F2_propagations := (F_pr.other W2 (Or.inr (slot_ne (Or.inl (hw _ (List.mem_of_getElem? (i := 19) rfl))) (Or.inr (hw _ (List.mem_of_getElem? (i := 10) rfl))) (by decide) (t := .long) (t' := .long) (by decide) (by decide))))
  have F2_conflicts := (F_co.other W2 (Or.inr (slot_ne (Or.inl (hw _ (List.mem_of_getElem? (i := 21) rfl))) (Or.inr (hw _ (List.mem_of_getElem? (i := 10) rfl))) (by decide) (t := .long) (t' := .long) (by decide) (by decide))))
  have F2_E := (E_a.wr W2)
  refine own_st (fun _ kk => XS.aloadN X2.here hx rfl (hb hby d1_9) rfl rfl kk) ?_
  show OwnG _ _ _ _ _ _ _ (T2.setTop (mkF m 10 #[.val (.ref a1), .val (.long pl), .second, .val (.long cl), .second] [(.ref a1)]))
  refine own_st (fun _ kk => XS.lloadN X2.here hx rfl (hb hby d1_10) rfl kk) ?_
  show OwnG _ _ _ _ _ _ _ (T2.setTop (mkF m 11 #[.val (.ref a1), .val (.long pl), .second, .val (.long cl), .second] [(.long cl), (.ref a1)]))
  obtain ⟨T3, h3, X3, e3, W3, st3⟩ := putF X2 hx hZ hown (host := "") (Or.inl (hw _ (List.mem_of_getElem? (i := 11) rfl))) Via.refl e2 F2_conflictLimit F2_E (Or.inr ⟨(hw _ (List.mem_of_getElem? (i := 12) rfl)), rfl, hnm⟩) (hw _ (List.mem_of_getElem? (i := 1) rfl)) (ty := .long) (by decide) rfl rfl (g := (mkF m 11 #[.val (.ref a1), .val (.long pl), .second, .val (.long cl), .second] [(.long cl), (.ref a1)])) rfl rfl (hb hby d1_11)
  have N3 := Fr.snoc X3 N2 g1
  refine own_st st3 ?_
  show OwnG _ _ _ _ _ _ _ (T3.setTop (mkF m 14 #[.val (.ref a1), .val (.long pl), .second, .val (.long cl), .second] []))
  have F3_propagationLimit := (F2_propagationLimit.other W3 (Or.inr (slot_ne (Or.inr (hw _ (List.mem_of_getElem? (i := 10) rfl))) (Or.inr (hw _ (List.mem_of_getElem? (i := 12) rfl))) (by decide) (t := .long) (t' := .long) (by decide) (by decide))))
  have F3_conflictLimit := (F2_conflictLimit.same W3)
  have F3_propagations := (F2_propagations.other W3 (Or.inr (slot_ne (Or.inl (hw _ (List.mem_of_getElem? (i := 19) rfl))) (Or.inr (hw _ (List.mem_of_getElem? (i := 12) rfl))) (by decide) (t := .long) (t' := .long) (by decide) (by decide))))
  have F3_conflicts := (F2_conflicts.other W3 (Or.inr (slot_ne (Or.inl (hw _ (List.mem_of_getElem? (i := 21) rfl))) (Or.inr (hw _ (List.mem_of_getElem? (i := 12) rfl))) (by decide) (t := .long) (t' := .long) (by decide) (by decide))))
  have F3_E := (F2_E.wr W3)
  exact own_retV X3 hx hrt hlk (hb hby d1_14) (by decide) (by decide) (by show _ ∧ _; first | (rw [e3]; exact ⟨rfl, N3, by rw [W3.size, W2.size]; exact Z0, ⟨F3_E, F3_propagationLimit, F3_conflictLimit, F3_propagations, F3_conflicts⟩⟩) | exact ⟨rfl, N3, by rw [W3.size, W2.size]; exact Z0, ⟨F3_E, F3_propagationLimit, F3_conflictLimit, F3_propagations, F3_conflicts⟩⟩)
theorem d3_0 : decode prog_30_method_3_code 0 = .ok (.aload_n 0, 1) := by decide +kernel
theorem d3_1 : decode prog_30_method_3_code 1 = .ok (.dup, 1) := by decide +kernel
theorem d3_2 : decode prog_30_method_3_code 2 = .ok (.getfield 23, 3) := by decide +kernel
theorem d3_5 : decode prog_30_method_3_code 5 = .ok (.lconst 1, 1) := by decide +kernel
theorem d3_6 : decode prog_30_method_3_code 6 = .ok (.ladd, 1) := by decide +kernel
theorem d3_7 : decode prog_30_method_3_code 7 = .ok (.putfield 23, 3) := by decide +kernel
theorem d3_10 : decode prog_30_method_3_code 10 = .ok (.aload_n 0, 1) := by decide +kernel
theorem d3_11 : decode prog_30_method_3_code 11 = .ok (.getfield 23, 3) := by decide +kernel
theorem d3_14 : decode prog_30_method_3_code 14 = .ok (.aload_n 0, 1) := by decide +kernel
theorem d3_15 : decode prog_30_method_3_code 15 = .ok (.getfield 7, 3) := by decide +kernel
theorem d3_18 : decode prog_30_method_3_code 18 = .ok (.lcmp, 1) := by decide +kernel
theorem d3_19 : decode prog_30_method_3_code 19 = .ok (.ifCond .gt 19, 3) := by decide +kernel
theorem d3_22 : decode prog_30_method_3_code 22 = .ok (.aload_n 0, 1) := by decide +kernel
theorem d3_23 : decode prog_30_method_3_code 23 = .ok (.getfield 26, 3) := by decide +kernel
theorem d3_26 : decode prog_30_method_3_code 26 = .ok (.aload_n 0, 1) := by decide +kernel
theorem d3_27 : decode prog_30_method_3_code 27 = .ok (.getfield 13, 3) := by decide +kernel
theorem d3_30 : decode prog_30_method_3_code 30 = .ok (.lcmp, 1) := by decide +kernel
theorem d3_31 : decode prog_30_method_3_code 31 = .ok (.ifCond .gt 7, 3) := by decide +kernel
theorem d3_34 : decode prog_30_method_3_code 34 = .ok (.iconst 1, 1) := by decide +kernel
theorem d3_35 : decode prog_30_method_3_code 35 = .ok (.goto 4, 3) := by decide +kernel
theorem d3_38 : decode prog_30_method_3_code 38 = .ok (.iconst 0, 1) := by decide +kernel
theorem d3_39 : decode prog_30_method_3_code 39 = .ok (.ireturn, 1) := by decide +kernel
theorem pn_3 : plainName "com/example/reasoning_service_planner/reasoningserviceplanner/SolverBudget" = true := by first | (simp [plainName, overriddenIn]; done) | decide +kernel
theorem ef_3 (m : MethodId) (x0 : Addr) : entryFrame m #[(.ref x0)] 1 = mkF m 0 #[.val (.ref x0)] [] := by first | (simp [entryFrame, mkF, argsToLocals, Value.category]; done) | rfl
def Q3 (Z : State) (a1 : Addr) (pl : Int64) (cl : Int64) (pr : Int64) (co : Int64) (pr' : Int64) (h0 : Heap) (n0 : Nat) (v : Option Value) (h : Heap) (L : List Loc) : Prop := v = some (.int (if pr' ≤ pl ∧ co ≤ cl then (1 : Int32) else 0)) ∧ Fr n0 L ∧ n0 ≤ h.size ∧ Bud Z h a1 pl cl pr' co
set_option maxRecDepth 65536 in
set_option maxHeartbeats 40000000 in
theorem rm3 (l : Launch) (Z : State) (a0 : Array Value) (hw : ∀ d ∈ tables_1, d.before a0 Z = true) (ws : List Jvm.Cond) (a1 : Addr) (pl : Int64) (cl : Int64) (pr : Int64) (co : Int64) (pr' : Int64) (h0 : Heap) (n0 : Nat) (Z0 : n0 ≤ h0.size) (hp : pr + 1 = pr') (B0 : Bud Z h0 a1 pl cl pr co) (g1 : n0 ≤ a1) :
    MetFree l (⟨"com/example/reasoning_service_planner/reasoningserviceplanner/SolverBudget", "propagate", "()Z"⟩ : MethodName) (head1 (Jvm.Cond.code (⟨"com/example/reasoning_service_planner/reasoningserviceplanner/SolverBudget", "propagate", "()Z"⟩ : MethodName) prog_30_method_3_code 1 (some .boolean) :: ws) ({ frames := 0, cells := 0, slots := 0, locals := 0 } : Room)) (fun a U => a = #[(.ref a1)] ∧ Z.Warmed39 U.vm ∧ U.heap = h0) (fun _ _ _ _ _ => True) (fun _ U o U' => ∃ v L, o = .returned v ∧ Q3 Z a1 pl cl pr co pr' h0 n0 v U'.heap L ∧ FrameEnd U o U' L ({ frames := 0, cells := 0, slots := 0, locals := 0 } : Room).cells ({ frames := 0, cells := 0, slots := 0, locals := 0 } : Room).slots) := by
  refine MetFree.of_bodySF (plainFor_of_name pn_3) hisR ?_
  intro p e s m args below meth c s₁ Bd hml0 hP hK
  obtain ⟨rfl, hZ, hh⟩ := hP
  have hx := Bd.exec
  have hby := Bd.bytes
  have hml : c.maxLocals = 1 := hml0
  have hown : s.vm.findClass "com/example/reasoning_service_planner/reasoningserviceplanner/SolverBudget" = some m.cls := findClass_of_methodNamed Bd.named
  have hnm := (name_of_methodNamed Bd.named Bd.method).1
  have hrt := Bd.returns
  have hlk : meth.locks = false := BodyLoose.notSynchronized Bd
  have X0 : Stand p l e ({ frames := 0, cells := 0, slots := 0, locals := 0 } : Room) s m #[(.ref a1)] below meth c s₁ [] 0 0 := Stand.of_body Bd
  have e0 : s₁.heap = h0 := by rw [← hh, Bd.state]; rfl
  have N0 := Fr.nil n0
  show OwnG ({ frames := 0, cells := 0, slots := 0, locals := 0 } : Room).cells ({ frames := 0, cells := 0, slots := 0, locals := 0 } : Room).slots (Q3 Z a1 pl cl pr co pr' h0 n0) p e below s (s₁.setTop (entryFrame m #[(.ref a1)] 1))
  refine own_st (σ' := s₁.setTop (mkF m 0 #[.val (.ref a1)] [])) (fun _ kq_ => castTop (ef_3 m a1) kq_) ?_
  show OwnG _ _ _ _ _ _ _ (s₁.setTop (mkF m 0 #[.val (.ref a1)] []))
  obtain ⟨E_a, F_pl, F_cl, F_pr, F_co⟩ := B0
  refine own_st (fun _ kk => XS.aloadN X0.here hx rfl (hb hby d3_0) rfl rfl kk) ?_
  show OwnG _ _ _ _ _ _ _ (s₁.setTop (mkF m 1 #[.val (.ref a1)] [(.ref a1)]))
  refine own_st (fun _ kk => XS.dup X0.here hx rfl (hb hby d3_1) rfl rfl kk) ?_
  show OwnG _ _ _ _ _ _ _ (s₁.setTop (mkF m 2 #[.val (.ref a1)] [(.ref a1), (.ref a1)]))
  obtain ⟨T4, X4, e4, st4⟩ := getF X0 hx hZ hown (host := "") (Or.inl (hw _ (List.mem_of_getElem? (i := 18) rfl))) Via.refl e0 F_pr (g := (mkF m 2 #[.val (.ref a1)] [(.ref a1), (.ref a1)])) rfl rfl (hb hby d3_2)
  refine own_st st4 ?_
  show OwnG _ _ _ _ _ _ _ (T4.setTop (mkF m 5 #[.val (.ref a1)] [(.long pr), (.ref a1)]))
  refine own_st (fun _ kk => XS.lconst X4.here hx rfl (hb hby d3_5) kk) ?_
  show OwnG _ _ _ _ _ _ _ (T4.setTop (mkF m 6 #[.val (.ref a1)] [(.long (1 : Int64)), (.long pr), (.ref a1)]))
  refine own_st (fun _ kk => XS.ladd X4.here hx rfl (hb hby d3_6) rfl kk) ?_
  show OwnG _ _ _ _ _ _ _ (T4.setTop (mkF m 7 #[.val (.ref a1)] [(.long (pr + (1 : Int64))), (.ref a1)]))
  rw [hp]
  show OwnG _ _ _ _ _ _ _ (T4.setTop (mkF m 7 #[.val (.ref a1)] [(.long pr'), (.ref a1)]))
  obtain ⟨T5, h5, X5, e5, W5, st5⟩ := putF X4 hx hZ hown (host := "") (Or.inl (hw _ (List.mem_of_getElem? (i := 18) rfl))) Via.refl e4 F_pr E_a (Or.inl (hw _ (List.mem_of_getElem? (i := 19) rfl))) (hw _ (List.mem_of_getElem? (i := 1) rfl)) (ty := .long) (by decide) rfl rfl (g := (mkF m 7 #[.val (.ref a1)] [(.long pr'), (.ref a1)])) rfl rfl (hb hby d3_7)
  have N5 := Fr.snoc X5 N0 g1
  refine own_st st5 ?_
  show OwnG _ _ _ _ _ _ _ (T5.setTop (mkF m 10 #[.val (.ref a1)] []))
  have F5_propagationLimit := (F_pl.other W5 (Or.inr (slot_ne (Or.inr (hw _ (List.mem_of_getElem? (i := 10) rfl))) (Or.inl (hw _ (List.mem_of_getElem? (i := 19) rfl))) (by decide) (t := .long) (t' := .long) (by decide) (by decide))))
  have F5_conflictLimit := (F_cl.other W5 (Or.inr (slot_ne (Or.inr (hw _ (List.mem_of_getElem? (i := 12) rfl))) (Or.inl (hw _ (List.mem_of_getElem? (i := 19) rfl))) (by decide) (t := .long) (t' := .long) (by decide) (by decide))))
  have F5_propagations := (F_pr.same W5)
  have F5_conflicts := (F_co.other W5 (Or.inr (slot_ne (Or.inl (hw _ (List.mem_of_getElem? (i := 21) rfl))) (Or.inl (hw _ (List.mem_of_getElem? (i := 19) rfl))) (by decide) (t := .long) (t' := .long) (by decide) (by decide))))
  have F5_E := (E_a.wr W5)
  refine own_st (fun _ kk => XS.aloadN X5.here hx rfl (hb hby d3_10) rfl rfl kk) ?_
  show OwnG _ _ _ _ _ _ _ (T5.setTop (mkF m 11 #[.val (.ref a1)] [(.ref a1)]))
  obtain ⟨T6, X6, e6, st6⟩ := getF X5 hx hZ hown (host := "") (Or.inl (hw _ (List.mem_of_getElem? (i := 18) rfl))) Via.refl e5 F5_propagations (g := (mkF m 11 #[.val (.ref a1)] [(.ref a1)])) rfl rfl (hb hby d3_11)
  refine own_st st6 ?_
  show OwnG _ _ _ _ _ _ _ (T6.setTop (mkF m 14 #[.val (.ref a1)] [(.long pr')]))
  refine own_st (fun _ kk => XS.aloadN X6.here hx rfl (hb hby d3_14) rfl rfl kk) ?_
  show OwnG _ _ _ _ _ _ _ (T6.setTop (mkF m 15 #[.val (.ref a1)] [(.ref a1), (.long pr')]))
  obtain ⟨T7, X7, e7, st7⟩ := getF X6 hx hZ hown (host := "") (Or.inl (hw _ (List.mem_of_getElem? (i := 9) rfl))) Via.refl e6 F5_propagationLimit (g := (mkF m 15 #[.val (.ref a1)] [(.ref a1), (.long pr')])) rfl rfl (hb hby d3_15)
  refine own_st st7 ?_
  show OwnG _ _ _ _ _ _ _ (T7.setTop (mkF m 18 #[.val (.ref a1)] [(.long pl), (.long pr')]))
  refine own_st (fun _ kk => XS.lcmp X7.here hx rfl (hb hby d3_18) rfl kk) ?_
  show OwnG _ _ _ _ _ _ _ (T7.setTop (mkF m 19 #[.val (.ref a1)] [(.int (lcmpW pr' pl))]))
  by_cases h19 : (0 : Int32) < (lcmpW pr' pl)
  · have hq : ¬ (pr' ≤ pl ∧ co ≤ cl) := fun q => absurd ((lw_gt _ _).mp h19) (Int64.not_lt.mpr q.1)
    refine own_st (fun _ kk => XS.ifYes X7.here hx rfl (pc0 := 19) (pc' := 38) rfl (hb hby d3_19) rfl ((if0 _ _).trans (tlt h19).2.2.1) (by decide) (by decide) kk) ?_
    show OwnG _ _ _ _ _ _ _ (T7.setTop (mkF m 38 #[.val (.ref a1)] []))
    refine own_st (fun _ kk => XS.iconst X7.here hx rfl (hb hby d3_38) kk) ?_
    show OwnG _ _ _ _ _ _ _ (T7.setTop (mkF m 39 #[.val (.ref a1)] [(.int (0 : Int32))]))
    exact own_retN X7 hx hrt hlk (t := .boolean) (by simp) (hb hby d3_39) (by decide) (by decide) (by show _ ∧ _; first | (rw [e7]; exact ⟨by rw [if_neg hq]; rfl, N5, by rw [W5.size]; exact Z0, ⟨F5_E, F5_propagationLimit, F5_conflictLimit, F5_propagations, F5_conflicts⟩⟩) | exact ⟨by rw [if_neg hq]; rfl, N5, by rw [W5.size]; exact Z0, ⟨F5_E, F5_propagationLimit, F5_conflictLimit, F5_propagations, F5_conflicts⟩⟩)
  · skip
    refine own_st (fun _ kk => XS.ifNo X7.here hx rfl (hb hby d3_19) rfl ((if0 _ _).trans (flt h19).2.2.1) kk) ?_
    show OwnG _ _ _ _ _ _ _ (T7.setTop (mkF m 22 #[.val (.ref a1)] []))
    refine own_st (fun _ kk => XS.aloadN X7.here hx rfl (hb hby d3_22) rfl rfl kk) ?_
    show OwnG _ _ _ _ _ _ _ (T7.setTop (mkF m 23 #[.val (.ref a1)] [(.ref a1)]))
    obtain ⟨T8, X8, e8, st8⟩ := getF X7 hx hZ hown (host := "") (Or.inl (hw _ (List.mem_of_getElem? (i := 20) rfl))) Via.refl e7 F5_conflicts (g := (mkF m 23 #[.val (.ref a1)] [(.ref a1)])) rfl rfl (hb hby d3_23)
    refine own_st st8 ?_
    show OwnG _ _ _ _ _ _ _ (T8.setTop (mkF m 26 #[.val (.ref a1)] [(.long co)]))
    refine own_st (fun _ kk => XS.aloadN X8.here hx rfl (hb hby d3_26) rfl rfl kk) ?_
    show OwnG _ _ _ _ _ _ _ (T8.setTop (mkF m 27 #[.val (.ref a1)] [(.ref a1), (.long co)]))
    obtain ⟨T9, X9, e9, st9⟩ := getF X8 hx hZ hown (host := "") (Or.inl (hw _ (List.mem_of_getElem? (i := 11) rfl))) Via.refl e8 F5_conflictLimit (g := (mkF m 27 #[.val (.ref a1)] [(.ref a1), (.long co)])) rfl rfl (hb hby d3_27)
    refine own_st st9 ?_
    show OwnG _ _ _ _ _ _ _ (T9.setTop (mkF m 30 #[.val (.ref a1)] [(.long cl), (.long co)]))
    refine own_st (fun _ kk => XS.lcmp X9.here hx rfl (hb hby d3_30) rfl kk) ?_
    show OwnG _ _ _ _ _ _ _ (T9.setTop (mkF m 31 #[.val (.ref a1)] [(.int (lcmpW co cl))]))
    by_cases h31 : (0 : Int32) < (lcmpW co cl)
    · have hq : ¬ (pr' ≤ pl ∧ co ≤ cl) := fun q => absurd ((lw_gt _ _).mp h31) (Int64.not_lt.mpr q.2)
      refine own_st (fun _ kk => XS.ifYes X9.here hx rfl (pc0 := 31) (pc' := 38) rfl (hb hby d3_31) rfl ((if0 _ _).trans (tlt h31).2.2.1) (by decide) (by decide) kk) ?_
      show OwnG _ _ _ _ _ _ _ (T9.setTop (mkF m 38 #[.val (.ref a1)] []))
      refine own_st (fun _ kk => XS.iconst X9.here hx rfl (hb hby d3_38) kk) ?_
      show OwnG _ _ _ _ _ _ _ (T9.setTop (mkF m 39 #[.val (.ref a1)] [(.int (0 : Int32))]))
      exact own_retN X9 hx hrt hlk (t := .boolean) (by simp) (hb hby d3_39) (by decide) (by decide) (by show _ ∧ _; first | (rw [e9]; exact ⟨by rw [if_neg hq]; rfl, N5, by rw [W5.size]; exact Z0, ⟨F5_E, F5_propagationLimit, F5_conflictLimit, F5_propagations, F5_conflicts⟩⟩) | exact ⟨by rw [if_neg hq]; rfl, N5, by rw [W5.size]; exact Z0, ⟨F5_E, F5_propagationLimit, F5_conflictLimit, F5_propagations, F5_conflicts⟩⟩)
    · have hq : pr' ≤ pl ∧ co ≤ cl := ⟨Int64.not_lt.mp fun q => h19 ((lw_gt _ _).mpr q), Int64.not_lt.mp fun q => h31 ((lw_gt _ _).mpr q)⟩
      refine own_st (fun _ kk => XS.ifNo X9.here hx rfl (hb hby d3_31) rfl ((if0 _ _).trans (flt h31).2.2.1) kk) ?_
      show OwnG _ _ _ _ _ _ _ (T9.setTop (mkF m 34 #[.val (.ref a1)] []))
      refine own_st (fun _ kk => XS.iconst X9.here hx rfl (hb hby d3_34) kk) ?_
      show OwnG _ _ _ _ _ _ _ (T9.setTop (mkF m 35 #[.val (.ref a1)] [(.int (1 : Int32))]))
      refine own_st (fun _ kk => XS.goto X9.here hx rfl (pc0 := 35) (pc' := 39) rfl (hb hby d3_35) (by decide) (by decide) kk) ?_
      show OwnG _ _ _ _ _ _ _ (T9.setTop (mkF m 39 #[.val (.ref a1)] [(.int (1 : Int32))]))
      exact own_retN X9 hx hrt hlk (t := .boolean) (by simp) (hb hby d3_39) (by decide) (by decide) (by show _ ∧ _; first | (rw [e9]; exact ⟨by rw [if_pos hq]; rfl, N5, by rw [W5.size]; exact Z0, ⟨F5_E, F5_propagationLimit, F5_conflictLimit, F5_propagations, F5_conflicts⟩⟩) | exact ⟨by rw [if_pos hq]; rfl, N5, by rw [W5.size]; exact Z0, ⟨F5_E, F5_propagationLimit, F5_conflictLimit, F5_propagations, F5_conflicts⟩⟩)
theorem d4_0 : decode prog_30_method_5_code 0 = .ok (.aload_n 0, 1) := by decide +kernel
theorem d4_1 : decode prog_30_method_5_code 1 = .ok (.getfield 23, 3) := by decide +kernel
theorem d4_4 : decode prog_30_method_5_code 4 = .ok (.lreturn, 1) := by decide +kernel
theorem pn_4 : plainName "com/example/reasoning_service_planner/reasoningserviceplanner/SolverBudget" = true := by first | (simp [plainName, overriddenIn]; done) | decide +kernel
theorem ef_4 (m : MethodId) (x0 : Addr) : entryFrame m #[(.ref x0)] 1 = mkF m 0 #[.val (.ref x0)] [] := by first | (simp [entryFrame, mkF, argsToLocals, Value.category]; done) | rfl
def Q4 (Z : State) (a1 : Addr) (pl : Int64) (cl : Int64) (pr : Int64) (co : Int64) (h0 : Heap) (n0 : Nat) (v : Option Value) (h : Heap) (L : List Loc) : Prop := v = some (.long pr) ∧ Fr n0 L ∧ h = h0
set_option maxRecDepth 65536 in
set_option maxHeartbeats 40000000 in
theorem rm4 (l : Launch) (Z : State) (a0 : Array Value) (hw : ∀ d ∈ tables_1, d.before a0 Z = true) (ws : List Jvm.Cond) (a1 : Addr) (pl : Int64) (cl : Int64) (pr : Int64) (co : Int64) (h0 : Heap) (n0 : Nat) (Z0 : n0 ≤ h0.size) (B0 : Bud Z h0 a1 pl cl pr co) :
    MetFree l (⟨"com/example/reasoning_service_planner/reasoningserviceplanner/SolverBudget", "propagations", "()J"⟩ : MethodName) (head1 (Jvm.Cond.code (⟨"com/example/reasoning_service_planner/reasoningserviceplanner/SolverBudget", "propagations", "()J"⟩ : MethodName) prog_30_method_5_code 1 (some .long) :: ws) ({ frames := 0, cells := 0, slots := 0, locals := 0 } : Room)) (fun a U => a = #[(.ref a1)] ∧ Z.Warmed39 U.vm ∧ U.heap = h0) (fun _ _ _ _ _ => True) (fun _ U o U' => ∃ v L, o = .returned v ∧ Q4 Z a1 pl cl pr co h0 n0 v U'.heap L ∧ FrameEnd U o U' L ({ frames := 0, cells := 0, slots := 0, locals := 0 } : Room).cells ({ frames := 0, cells := 0, slots := 0, locals := 0 } : Room).slots) := by
  refine MetFree.of_bodySF (plainFor_of_name pn_4) hisR ?_
  intro p e s m args below meth c s₁ Bd hml0 hP hK
  obtain ⟨rfl, hZ, hh⟩ := hP
  have hx := Bd.exec
  have hby := Bd.bytes
  have hml : c.maxLocals = 1 := hml0
  have hown : s.vm.findClass "com/example/reasoning_service_planner/reasoningserviceplanner/SolverBudget" = some m.cls := findClass_of_methodNamed Bd.named
  have hnm := (name_of_methodNamed Bd.named Bd.method).1
  have hrt := Bd.returns
  have hlk : meth.locks = false := BodyLoose.notSynchronized Bd
  have X0 : Stand p l e ({ frames := 0, cells := 0, slots := 0, locals := 0 } : Room) s m #[(.ref a1)] below meth c s₁ [] 0 0 := Stand.of_body Bd
  have e0 : s₁.heap = h0 := by rw [← hh, Bd.state]; rfl
  have N0 := Fr.nil n0
  show OwnG ({ frames := 0, cells := 0, slots := 0, locals := 0 } : Room).cells ({ frames := 0, cells := 0, slots := 0, locals := 0 } : Room).slots (Q4 Z a1 pl cl pr co h0 n0) p e below s (s₁.setTop (entryFrame m #[(.ref a1)] 1))
  refine own_st (σ' := s₁.setTop (mkF m 0 #[.val (.ref a1)] [])) (fun _ kq_ => castTop (ef_4 m a1) kq_) ?_
  show OwnG _ _ _ _ _ _ _ (s₁.setTop (mkF m 0 #[.val (.ref a1)] []))
  obtain ⟨E_a, F_pl, F_cl, F_pr, F_co⟩ := B0
  refine own_st (fun _ kk => XS.aloadN X0.here hx rfl (hb hby d4_0) rfl rfl kk) ?_
  show OwnG _ _ _ _ _ _ _ (s₁.setTop (mkF m 1 #[.val (.ref a1)] [(.ref a1)]))
  obtain ⟨T10, X10, e10, st10⟩ := getF X0 hx hZ hown (host := "") (Or.inl (hw _ (List.mem_of_getElem? (i := 18) rfl))) Via.refl e0 F_pr (g := (mkF m 1 #[.val (.ref a1)] [(.ref a1)])) rfl rfl (hb hby d4_1)
  refine own_st st10 ?_
  show OwnG _ _ _ _ _ _ _ (T10.setTop (mkF m 4 #[.val (.ref a1)] [(.long pr)]))
  exact own_retJ X10 hx hrt hlk (hb hby d4_4) (by decide) (by decide) (by show _ ∧ _; first | (rw [e10]; exact ⟨rfl, N0, rfl⟩) | exact ⟨rfl, N0, rfl⟩)
theorem d5_0 : decode prog_30_method_6_code 0 = .ok (.aload_n 0, 1) := by decide +kernel
theorem d5_1 : decode prog_30_method_6_code 1 = .ok (.getfield 26, 3) := by decide +kernel
theorem d5_4 : decode prog_30_method_6_code 4 = .ok (.lreturn, 1) := by decide +kernel
theorem pn_5 : plainName "com/example/reasoning_service_planner/reasoningserviceplanner/SolverBudget" = true := by first | (simp [plainName, overriddenIn]; done) | decide +kernel
theorem ef_5 (m : MethodId) (x0 : Addr) : entryFrame m #[(.ref x0)] 1 = mkF m 0 #[.val (.ref x0)] [] := by first | (simp [entryFrame, mkF, argsToLocals, Value.category]; done) | rfl
def Q5 (Z : State) (a1 : Addr) (pl : Int64) (cl : Int64) (pr : Int64) (co : Int64) (h0 : Heap) (n0 : Nat) (v : Option Value) (h : Heap) (L : List Loc) : Prop := v = some (.long co) ∧ Fr n0 L ∧ h = h0
set_option maxRecDepth 65536 in
set_option maxHeartbeats 40000000 in
theorem rm5 (l : Launch) (Z : State) (a0 : Array Value) (hw : ∀ d ∈ tables_1, d.before a0 Z = true) (ws : List Jvm.Cond) (a1 : Addr) (pl : Int64) (cl : Int64) (pr : Int64) (co : Int64) (h0 : Heap) (n0 : Nat) (Z0 : n0 ≤ h0.size) (B0 : Bud Z h0 a1 pl cl pr co) :
    MetFree l (⟨"com/example/reasoning_service_planner/reasoningserviceplanner/SolverBudget", "conflicts", "()J"⟩ : MethodName) (head1 (Jvm.Cond.code (⟨"com/example/reasoning_service_planner/reasoningserviceplanner/SolverBudget", "conflicts", "()J"⟩ : MethodName) prog_30_method_6_code 1 (some .long) :: ws) ({ frames := 0, cells := 0, slots := 0, locals := 0 } : Room)) (fun a U => a = #[(.ref a1)] ∧ Z.Warmed39 U.vm ∧ U.heap = h0) (fun _ _ _ _ _ => True) (fun _ U o U' => ∃ v L, o = .returned v ∧ Q5 Z a1 pl cl pr co h0 n0 v U'.heap L ∧ FrameEnd U o U' L ({ frames := 0, cells := 0, slots := 0, locals := 0 } : Room).cells ({ frames := 0, cells := 0, slots := 0, locals := 0 } : Room).slots) := by
  refine MetFree.of_bodySF (plainFor_of_name pn_5) hisR ?_
  intro p e s m args below meth c s₁ Bd hml0 hP hK
  obtain ⟨rfl, hZ, hh⟩ := hP
  have hx := Bd.exec
  have hby := Bd.bytes
  have hml : c.maxLocals = 1 := hml0
  have hown : s.vm.findClass "com/example/reasoning_service_planner/reasoningserviceplanner/SolverBudget" = some m.cls := findClass_of_methodNamed Bd.named
  have hnm := (name_of_methodNamed Bd.named Bd.method).1
  have hrt := Bd.returns
  have hlk : meth.locks = false := BodyLoose.notSynchronized Bd
  have X0 : Stand p l e ({ frames := 0, cells := 0, slots := 0, locals := 0 } : Room) s m #[(.ref a1)] below meth c s₁ [] 0 0 := Stand.of_body Bd
  have e0 : s₁.heap = h0 := by rw [← hh, Bd.state]; rfl
  have N0 := Fr.nil n0
  show OwnG ({ frames := 0, cells := 0, slots := 0, locals := 0 } : Room).cells ({ frames := 0, cells := 0, slots := 0, locals := 0 } : Room).slots (Q5 Z a1 pl cl pr co h0 n0) p e below s (s₁.setTop (entryFrame m #[(.ref a1)] 1))
  refine own_st (σ' := s₁.setTop (mkF m 0 #[.val (.ref a1)] [])) (fun _ kq_ => castTop (ef_5 m a1) kq_) ?_
  show OwnG _ _ _ _ _ _ _ (s₁.setTop (mkF m 0 #[.val (.ref a1)] []))
  obtain ⟨E_a, F_pl, F_cl, F_pr, F_co⟩ := B0
  refine own_st (fun _ kk => XS.aloadN X0.here hx rfl (hb hby d5_0) rfl rfl kk) ?_
  show OwnG _ _ _ _ _ _ _ (s₁.setTop (mkF m 1 #[.val (.ref a1)] [(.ref a1)]))
  obtain ⟨T11, X11, e11, st11⟩ := getF X0 hx hZ hown (host := "") (Or.inl (hw _ (List.mem_of_getElem? (i := 20) rfl))) Via.refl e0 F_co (g := (mkF m 1 #[.val (.ref a1)] [(.ref a1)])) rfl rfl (hb hby d5_1)
  refine own_st st11 ?_
  show OwnG _ _ _ _ _ _ _ (T11.setTop (mkF m 4 #[.val (.ref a1)] [(.long co)]))
  exact own_retJ X11 hx hrt hlk (hb hby d5_4) (by decide) (by decide) (by show _ ∧ _; first | (rw [e11]; exact ⟨rfl, N0, rfl⟩) | exact ⟨rfl, N0, rfl⟩)
theorem d6_0 : decode prog_30_method_4_code 0 = .ok (.aload_n 0, 1) := by decide +kernel
theorem d6_1 : decode prog_30_method_4_code 1 = .ok (.dup, 1) := by decide +kernel
theorem d6_2 : decode prog_30_method_4_code 2 = .ok (.getfield 26, 3) := by decide +kernel
theorem d6_5 : decode prog_30_method_4_code 5 = .ok (.lconst 1, 1) := by decide +kernel
theorem d6_6 : decode prog_30_method_4_code 6 = .ok (.ladd, 1) := by decide +kernel
theorem d6_7 : decode prog_30_method_4_code 7 = .ok (.putfield 26, 3) := by decide +kernel
theorem d6_10 : decode prog_30_method_4_code 10 = .ok (.return_, 1) := by decide +kernel
theorem pn_6 : plainName "com/example/reasoning_service_planner/reasoningserviceplanner/SolverBudget" = true := by first | (simp [plainName, overriddenIn]; done) | decide +kernel
theorem ef_6 (m : MethodId) (x0 : Addr) : entryFrame m #[(.ref x0)] 1 = mkF m 0 #[.val (.ref x0)] [] := by first | (simp [entryFrame, mkF, argsToLocals, Value.category]; done) | rfl
def Q6 (Z : State) (a1 : Addr) (pl : Int64) (cl : Int64) (pr : Int64) (co : Int64) (co' : Int64) (h0 : Heap) (n0 : Nat) (v : Option Value) (h : Heap) (L : List Loc) : Prop := v = none ∧ Fr n0 L ∧ n0 ≤ h.size ∧ Bud Z h a1 pl cl pr co'
set_option maxRecDepth 65536 in
set_option maxHeartbeats 40000000 in
theorem rm6 (l : Launch) (Z : State) (a0 : Array Value) (hw : ∀ d ∈ tables_1, d.before a0 Z = true) (ws : List Jvm.Cond) (a1 : Addr) (pl : Int64) (cl : Int64) (pr : Int64) (co : Int64) (co' : Int64) (h0 : Heap) (n0 : Nat) (Z0 : n0 ≤ h0.size) (hp : co + 1 = co') (B0 : Bud Z h0 a1 pl cl pr co) (g1 : n0 ≤ a1) :
    MetFree l (⟨"com/example/reasoning_service_planner/reasoningserviceplanner/SolverBudget", "conflict", "()V"⟩ : MethodName) (head1 (Jvm.Cond.code (⟨"com/example/reasoning_service_planner/reasoningserviceplanner/SolverBudget", "conflict", "()V"⟩ : MethodName) prog_30_method_4_code 1 none :: ws) ({ frames := 0, cells := 0, slots := 0, locals := 0 } : Room)) (fun a U => a = #[(.ref a1)] ∧ Z.Warmed39 U.vm ∧ U.heap = h0) (fun _ _ _ _ _ => True) (fun _ U o U' => ∃ v L, o = .returned v ∧ Q6 Z a1 pl cl pr co co' h0 n0 v U'.heap L ∧ FrameEnd U o U' L ({ frames := 0, cells := 0, slots := 0, locals := 0 } : Room).cells ({ frames := 0, cells := 0, slots := 0, locals := 0 } : Room).slots) := by
  refine MetFree.of_bodySF (plainFor_of_name pn_6) hisR ?_
  intro p e s m args below meth c s₁ Bd hml0 hP hK
  obtain ⟨rfl, hZ, hh⟩ := hP
  have hx := Bd.exec
  have hby := Bd.bytes
  have hml : c.maxLocals = 1 := hml0
  have hown : s.vm.findClass "com/example/reasoning_service_planner/reasoningserviceplanner/SolverBudget" = some m.cls := findClass_of_methodNamed Bd.named
  have hnm := (name_of_methodNamed Bd.named Bd.method).1
  have hrt := Bd.returns
  have hlk : meth.locks = false := BodyLoose.notSynchronized Bd
  have X0 : Stand p l e ({ frames := 0, cells := 0, slots := 0, locals := 0 } : Room) s m #[(.ref a1)] below meth c s₁ [] 0 0 := Stand.of_body Bd
  have e0 : s₁.heap = h0 := by rw [← hh, Bd.state]; rfl
  have N0 := Fr.nil n0
  show OwnG ({ frames := 0, cells := 0, slots := 0, locals := 0 } : Room).cells ({ frames := 0, cells := 0, slots := 0, locals := 0 } : Room).slots (Q6 Z a1 pl cl pr co co' h0 n0) p e below s (s₁.setTop (entryFrame m #[(.ref a1)] 1))
  refine own_st (σ' := s₁.setTop (mkF m 0 #[.val (.ref a1)] [])) (fun _ kq_ => castTop (ef_6 m a1) kq_) ?_
  show OwnG _ _ _ _ _ _ _ (s₁.setTop (mkF m 0 #[.val (.ref a1)] []))
  obtain ⟨E_a, F_pl, F_cl, F_pr, F_co⟩ := B0
  refine own_st (fun _ kk => XS.aloadN X0.here hx rfl (hb hby d6_0) rfl rfl kk) ?_
  show OwnG _ _ _ _ _ _ _ (s₁.setTop (mkF m 1 #[.val (.ref a1)] [(.ref a1)]))
  refine own_st (fun _ kk => XS.dup X0.here hx rfl (hb hby d6_1) rfl rfl kk) ?_
  show OwnG _ _ _ _ _ _ _ (s₁.setTop (mkF m 2 #[.val (.ref a1)] [(.ref a1), (.ref a1)]))
  obtain ⟨T12, X12, e12, st12⟩ := getF X0 hx hZ hown (host := "") (Or.inl (hw _ (List.mem_of_getElem? (i := 20) rfl))) Via.refl e0 F_co (g := (mkF m 2 #[.val (.ref a1)] [(.ref a1), (.ref a1)])) rfl rfl (hb hby d6_2)
  refine own_st st12 ?_
  show OwnG _ _ _ _ _ _ _ (T12.setTop (mkF m 5 #[.val (.ref a1)] [(.long co), (.ref a1)]))
  refine own_st (fun _ kk => XS.lconst X12.here hx rfl (hb hby d6_5) kk) ?_
  show OwnG _ _ _ _ _ _ _ (T12.setTop (mkF m 6 #[.val (.ref a1)] [(.long (1 : Int64)), (.long co), (.ref a1)]))
  refine own_st (fun _ kk => XS.ladd X12.here hx rfl (hb hby d6_6) rfl kk) ?_
  show OwnG _ _ _ _ _ _ _ (T12.setTop (mkF m 7 #[.val (.ref a1)] [(.long (co + (1 : Int64))), (.ref a1)]))
  rw [hp]
  show OwnG _ _ _ _ _ _ _ (T12.setTop (mkF m 7 #[.val (.ref a1)] [(.long co'), (.ref a1)]))
  obtain ⟨T13, h13, X13, e13, W13, st13⟩ := putF X12 hx hZ hown (host := "") (Or.inl (hw _ (List.mem_of_getElem? (i := 20) rfl))) Via.refl e12 F_co E_a (Or.inl (hw _ (List.mem_of_getElem? (i := 21) rfl))) (hw _ (List.mem_of_getElem? (i := 1) rfl)) (ty := .long) (by decide) rfl rfl (g := (mkF m 7 #[.val (.ref a1)] [(.long co'), (.ref a1)])) rfl rfl (hb hby d6_7)
  have N13 := Fr.snoc X13 N0 g1
  refine own_st st13 ?_
  show OwnG _ _ _ _ _ _ _ (T13.setTop (mkF m 10 #[.val (.ref a1)] []))
  have F13_propagationLimit := (F_pl.other W13 (Or.inr (slot_ne (Or.inr (hw _ (List.mem_of_getElem? (i := 10) rfl))) (Or.inl (hw _ (List.mem_of_getElem? (i := 21) rfl))) (by decide) (t := .long) (t' := .long) (by decide) (by decide))))
  have F13_conflictLimit := (F_cl.other W13 (Or.inr (slot_ne (Or.inr (hw _ (List.mem_of_getElem? (i := 12) rfl))) (Or.inl (hw _ (List.mem_of_getElem? (i := 21) rfl))) (by decide) (t := .long) (t' := .long) (by decide) (by decide))))
  have F13_propagations := (F_pr.other W13 (Or.inr (slot_ne (Or.inl (hw _ (List.mem_of_getElem? (i := 19) rfl))) (Or.inl (hw _ (List.mem_of_getElem? (i := 21) rfl))) (by decide) (t := .long) (t' := .long) (by decide) (by decide))))
  have F13_conflicts := (F_co.same W13)
  have F13_E := (E_a.wr W13)
  exact own_retV X13 hx hrt hlk (hb hby d6_10) (by decide) (by decide) (by show _ ∧ _; first | (rw [e13]; exact ⟨rfl, N13, by rw [W13.size]; exact Z0, ⟨F13_E, F13_propagationLimit, F13_conflictLimit, F13_propagations, F13_conflicts⟩⟩) | exact ⟨rfl, N13, by rw [W13.size]; exact Z0, ⟨F13_E, F13_propagationLimit, F13_conflictLimit, F13_propagations, F13_conflicts⟩⟩)
def Q0 (Z : State) (pl : Int64) (cl : Int64) (k : Int32) (h0 : Heap) (n0 : Nat) (v : Option Value) (h : Heap) (L : List Loc) : Prop := v = some (.int 1) ∧ Fr n0 L
theorem own_up (z : Int32) (h : z = 0 ∨ z = 1 ∨ z = 2 ∨ z = 3) : (¬ z < 1 → (1 : Int64) = if z < 2 then z.toInt64 else 1) ∧ (¬ z < 2 → (2 : Int64) = if z < 3 then z.toInt64 else 2) ∧ (¬ z < 3 → (3 : Int64) = z.toInt64) ∧ (0 : Int64) = (if z < 1 then z.toInt64 else 0) ∧ (z < 1 → (if z < 1 then z.toInt64 else (0 : Int64)) = if z < 2 then z.toInt64 else 1) ∧ (z < 2 → (if z < 2 then z.toInt64 else (1 : Int64)) = if z < 3 then z.toInt64 else 2) ∧ (z < 3 → (if z < 3 then z.toInt64 else (2 : Int64)) = z.toInt64) := by
  rcases h with rfl | rfl | rfl | rfl <;> decide
theorem own_four (x : Int32) : (x &&& 3) = 0 ∨ (x &&& 3) = 1 ∨ (x &&& 3) = 2 ∨ (x &&& 3) = 3 := by
  have h1 : (x &&& 3).toBitVec.toNat ≤ 3 := by
    simp only [Int32.toBitVec_and, BitVec.toNat_and]; exact Nat.and_le_right
  have h2 : (x &&& 3) = Int32.ofNat (x &&& 3).toBitVec.toNat := by
    apply Int32.toBitVec_inj.mp
    show _ = BitVec.ofNat 32 _
    rw [BitVec.ofNat_toNat]; simp
  generalize (x &&& 3).toBitVec.toNat = n at h1 h2
  rw [h2]
  have : n = 0 ∨ n = 1 ∨ n = 2 ∨ n = 3 := by omega
  rcases this with rfl | rfl | rfl | rfl <;> decide
set_option maxRecDepth 65536 in
set_option maxHeartbeats 40000000 in
theorem own_b200 {p : Program} {l : Launch} {e : Env} {s : State} {m : MethodId} {args : Array Value} {below : List Frame} {meth : Method} {c : Code} {Z : State} {a0 : Array Value} (hx : p.tables.exec = Jvm.exec) (hZ : Z.Warmed39 s.vm) (hw : ∀ d ∈ tables_1, d.before a0 Z = true) (hby : c.code = code) (hml : c.maxLocals = 13) (hown : s.vm.findClass "com/example/reasoning_service_planner/reasoningserviceplanner/SolverBudgetPropagatePinLaw" = some m.cls) (hrt : meth.sig.returnType = ret) (hlk : meth.locks = false) (pl cl : Int64) (k ci qi : Int32) (hci : ci = 0 ∨ ci = 1 ∨ ci = 2 ∨ ci = 3) (hqi : qi = 0 ∨ qi = 1 ∨ qi = 2 ∨ qi = 3) (b : Addr) (n0 : Nat) (gb : n0 ≤ b) {hs0 : Heap} {T0 : State} {h0 : Heap} {locs : List Loc} (X0 : Stand p l e room_1 s m args below meth c T0 locs 1 4) (e0 : T0.heap = h0) (N0 : Fr n0 locs) (Z0 : n0 ≤ h0.size) (B0 : Bud Z h0 b pl cl qi.toInt64 ci.toInt64) : OwnG 1 4 (Q0 Z pl cl k hs0 n0) p e below s (T0.setTop (mkF m 200 #[.val (.long pl), .second, .val (.long cl), .second, .val (.int k), .val (.int ci), .val (.int qi), .val (.ref b), .val (.int (1 : Int32)), .unset, .unset, .unset, .unset] [])) := by
  refine own_st (fun _ kk => XS.iload X0.here hx rfl (hb hby at_200) rfl kk) ?_
  show OwnG _ _ _ _ _ _ _ (T0.setTop (mkF m 202 #[.val (.long pl), .second, .val (.long cl), .second, .val (.int k), .val (.int ci), .val (.int qi), .val (.ref b), .val (.int (1 : Int32)), .unset, .unset, .unset, .unset] [(.int qi)]))
  refine own_st (fun _ kk => XS.i2l X0.here hx rfl (hb hby at_202) rfl kk) ?_
  show OwnG _ _ _ _ _ _ _ (T0.setTop (mkF m 203 #[.val (.long pl), .second, .val (.long cl), .second, .val (.int k), .val (.int ci), .val (.int qi), .val (.ref b), .val (.int (1 : Int32)), .unset, .unset, .unset, .unset] [(.long (qi.toInt64))]))
  refine own_st (fun _ kk => XS.lconst X0.here hx rfl (hb hby at_203) kk) ?_
  show OwnG _ _ _ _ _ _ _ (T0.setTop (mkF m 204 #[.val (.long pl), .second, .val (.long cl), .second, .val (.int k), .val (.int ci), .val (.int qi), .val (.ref b), .val (.int (1 : Int32)), .unset, .unset, .unset, .unset] [(.long (1 : Int64)), (.long (qi.toInt64))]))
  refine own_st (fun _ kk => XS.ladd X0.here hx rfl (hb hby at_204) rfl kk) ?_
  show OwnG _ _ _ _ _ _ _ (T0.setTop (mkF m 205 #[.val (.long pl), .second, .val (.long cl), .second, .val (.int k), .val (.int ci), .val (.int qi), .val (.ref b), .val (.int (1 : Int32)), .unset, .unset, .unset, .unset] [(.long ((qi.toInt64) + (1 : Int64)))]))
  refine own_st (fun _ kk => XS.lstore X0.here hx rfl (hb hby at_205) rfl (l' := #[.val (.long pl), .second, .val (.long cl), .second, .val (.int k), .val (.int ci), .val (.int qi), .val (.ref b), .val (.int (1 : Int32)), .val (.long ((qi.toInt64) + (1 : Int64))), .second, .unset, .unset]) rfl kk) ?_
  show OwnG _ _ _ _ _ _ _ (T0.setTop (mkF m 207 #[.val (.long pl), .second, .val (.long cl), .second, .val (.int k), .val (.int ci), .val (.int qi), .val (.ref b), .val (.int (1 : Int32)), .val (.long ((qi.toInt64) + (1 : Int64))), .second, .unset, .unset] []))
  refine own_st (fun _ kk => XS.aload X0.here hx rfl (hb hby at_207) rfl rfl kk) ?_
  show OwnG _ _ _ _ _ _ _ (T0.setTop (mkF m 209 #[.val (.long pl), .second, .val (.long cl), .second, .val (.int k), .val (.int ci), .val (.int qi), .val (.ref b), .val (.int (1 : Int32)), .val (.long ((qi.toInt64) + (1 : Int64))), .second, .unset, .unset] [(.ref b)]))
  obtain ⟨cq14, kq14, q14a, q14b, q14c⟩ := isOf hZ e0 B0.1
  obtain ⟨_, _, ⟨T14, L14, k14, n14⟩, -, X14, ⟨Lc14, hQ14, l14, y14, z14⟩, st14⟩ := X0.virtualBack hx (y := (⟨"com/example/reasoning_service_planner/reasoningserviceplanner/SolverBudget", "propagate", "()Z"⟩ : MethodName)) (z := (⟨"com/example/reasoning_service_planner/reasoningserviceplanner/SolverBudget", "propagate", "()Z"⟩ : MethodName)) hown (mvT hZ (hw _ (List.mem_of_getElem? (i := 13) rfl))) (mvT hZ (hw _ (List.mem_of_getElem? (i := 14) rfl))) (notFace_of_selects (args := #[]) (mvT hZ (hw _ (List.mem_of_getElem? (i := 16) rfl)))) (mvT hZ (hw _ (List.mem_of_getElem? (i := 16) rfl))) (mvT hZ (hw _ (List.mem_of_getElem? (i := 15) rfl))) (by decide) (backOf (W := 0) (rm3 l Z a0 hw [] b pl cl qi.toInt64 ci.toInt64 (qi.toInt64 + 1) h0 n0 Z0 rfl B0 gb) hZ (hw _ (List.mem_of_getElem? (i := 17) rfl)) (hw _ (List.mem_of_getElem? (i := 2) rfl)) (by decide) (by decide)) q14a q14c (g := (mkF m 209 #[.val (.long pl), .second, .val (.long cl), .second, .val (.int k), .val (.int ci), .val (.int qi), .val (.ref b), .val (.int (1 : Int32)), .val (.long ((qi.toInt64) + (1 : Int64))), .second, .unset, .unset] [(.ref b)])) rfl (by rw [hml]; rfl) (Steps.refl _) (argsL := []) (rest := []) (lenOf (by decide +kernel : parseMethodDescriptor "()Z" = some ⟨[], some .boolean⟩) rfl) rfl (by show 2 * 0 + _ ≤ _; exact Nat.le_of_eq rfl) (hb hby at_209) (fun _ _ => ⟨rfl, e0, (by dsimp only [Pt.cells]; decide), (by dsimp only [Pt.slots]; decide)⟩)
  dsimp only [Pt.U, Pt.locs, Pt.cells, Pt.slots] at X14 l14 y14 z14 st14 hQ14
  subst l14 y14 z14
  obtain ⟨rfl, N14q, Z14, B14⟩ := hQ14
  have N14 := Fr.app N0 N14q
  refine own_go st14 ?_
  show OwnG _ _ _ _ _ _ _ (T14.setTop (mkF m 212 #[.val (.long pl), .second, .val (.long cl), .second, .val (.int k), .val (.int ci), .val (.int qi), .val (.ref b), .val (.int (1 : Int32)), .val (.long ((qi.toInt64) + (1 : Int64))), .second, .unset, .unset] [(.int (if (qi.toInt64 + 1) ≤ pl ∧ ci.toInt64 ≤ cl then (1 : Int32) else 0))]))
  refine own_st (fun _ kk => XS.istore X14.here hx rfl (hb hby at_212) rfl (l' := #[.val (.long pl), .second, .val (.long cl), .second, .val (.int k), .val (.int ci), .val (.int qi), .val (.ref b), .val (.int (1 : Int32)), .val (.long ((qi.toInt64) + (1 : Int64))), .second, .val (.int (if (qi.toInt64 + 1) ≤ pl ∧ ci.toInt64 ≤ cl then (1 : Int32) else 0)), .unset]) rfl kk) ?_
  show OwnG _ _ _ _ _ _ _ (T14.setTop (mkF m 214 #[.val (.long pl), .second, .val (.long cl), .second, .val (.int k), .val (.int ci), .val (.int qi), .val (.ref b), .val (.int (1 : Int32)), .val (.long ((qi.toInt64) + (1 : Int64))), .second, .val (.int (if (qi.toInt64 + 1) ≤ pl ∧ ci.toInt64 ≤ cl then (1 : Int32) else 0)), .unset] []))
  refine own_st (fun _ kk => XS.lload X14.here hx rfl (hb hby at_214) rfl kk) ?_
  show OwnG _ _ _ _ _ _ _ (T14.setTop (mkF m 216 #[.val (.long pl), .second, .val (.long cl), .second, .val (.int k), .val (.int ci), .val (.int qi), .val (.ref b), .val (.int (1 : Int32)), .val (.long ((qi.toInt64) + (1 : Int64))), .second, .val (.int (if (qi.toInt64 + 1) ≤ pl ∧ ci.toInt64 ≤ cl then (1 : Int32) else 0)), .unset] [(.long ((qi.toInt64) + (1 : Int64)))]))
  refine own_st (fun _ kk => XS.lloadN X14.here hx rfl (hb hby at_216) rfl kk) ?_
  show OwnG _ _ _ _ _ _ _ (T14.setTop (mkF m 217 #[.val (.long pl), .second, .val (.long cl), .second, .val (.int k), .val (.int ci), .val (.int qi), .val (.ref b), .val (.int (1 : Int32)), .val (.long ((qi.toInt64) + (1 : Int64))), .second, .val (.int (if (qi.toInt64 + 1) ≤ pl ∧ ci.toInt64 ≤ cl then (1 : Int32) else 0)), .unset] [(.long pl), (.long ((qi.toInt64) + (1 : Int64)))]))
  refine own_st (fun _ kk => XS.lcmp X14.here hx rfl (hb hby at_217) rfl kk) ?_
  show OwnG _ _ _ _ _ _ _ (T14.setTop (mkF m 218 #[.val (.long pl), .second, .val (.long cl), .second, .val (.int k), .val (.int ci), .val (.int qi), .val (.ref b), .val (.int (1 : Int32)), .val (.long ((qi.toInt64) + (1 : Int64))), .second, .val (.int (if (qi.toInt64 + 1) ≤ pl ∧ ci.toInt64 ≤ cl then (1 : Int32) else 0)), .unset] [(.int (lcmpW ((qi.toInt64) + (1 : Int64)) pl))]))
  by_cases hA218 : (0 : Int32) < (lcmpW ((qi.toInt64) + (1 : Int64)) pl)
  · skip
    refine own_st (fun _ kk => XS.ifYes X14.here hx rfl (pc0 := 218) (pc' := 233) rfl (hb hby at_218) rfl ((if0 _ _).trans (tlt hA218).2.2.1) (by decide) (by decide) kk) ?_
    show OwnG _ _ _ _ _ _ _ (T14.setTop (mkF m 233 #[.val (.long pl), .second, .val (.long cl), .second, .val (.int k), .val (.int ci), .val (.int qi), .val (.ref b), .val (.int (1 : Int32)), .val (.long ((qi.toInt64) + (1 : Int64))), .second, .val (.int (if (qi.toInt64 + 1) ≤ pl ∧ ci.toInt64 ≤ cl then (1 : Int32) else 0)), .unset] []))
    refine own_st (fun _ kk => XS.iconst X14.here hx rfl (hb hby at_233) kk) ?_
    show OwnG _ _ _ _ _ _ _ (T14.setTop (mkF m 234 #[.val (.long pl), .second, .val (.long cl), .second, .val (.int k), .val (.int ci), .val (.int qi), .val (.ref b), .val (.int (1 : Int32)), .val (.long ((qi.toInt64) + (1 : Int64))), .second, .val (.int (if (qi.toInt64 + 1) ≤ pl ∧ ci.toInt64 ≤ cl then (1 : Int32) else 0)), .unset] [(.int (0 : Int32))]))
    refine own_st (fun _ kk => XS.istore X14.here hx rfl (hb hby at_234) rfl (l' := #[.val (.long pl), .second, .val (.long cl), .second, .val (.int k), .val (.int ci), .val (.int qi), .val (.ref b), .val (.int (1 : Int32)), .val (.long ((qi.toInt64) + (1 : Int64))), .second, .val (.int (if (qi.toInt64 + 1) ≤ pl ∧ ci.toInt64 ≤ cl then (1 : Int32) else 0)), .val (.int (0 : Int32))]) rfl kk) ?_
    show OwnG _ _ _ _ _ _ _ (T14.setTop (mkF m 236 #[.val (.long pl), .second, .val (.long cl), .second, .val (.int k), .val (.int ci), .val (.int qi), .val (.ref b), .val (.int (1 : Int32)), .val (.long ((qi.toInt64) + (1 : Int64))), .second, .val (.int (if (qi.toInt64 + 1) ≤ pl ∧ ci.toInt64 ≤ cl then (1 : Int32) else 0)), .val (.int (0 : Int32))] []))
    refine own_st (fun _ kk => XS.iload X14.here hx rfl (hb hby at_236) rfl kk) ?_
    show OwnG _ _ _ _ _ _ _ (T14.setTop (mkF m 238 #[.val (.long pl), .second, .val (.long cl), .second, .val (.int k), .val (.int ci), .val (.int qi), .val (.ref b), .val (.int (1 : Int32)), .val (.long ((qi.toInt64) + (1 : Int64))), .second, .val (.int (if (qi.toInt64 + 1) ≤ pl ∧ ci.toInt64 ≤ cl then (1 : Int32) else 0)), .val (.int (0 : Int32))] [(.int (1 : Int32))]))
    refine own_st (fun _ kk => XS.ifNo X14.here hx rfl (hb hby at_238) rfl ((if0 _ _).trans (feq (by decide : ¬ ((1 : Int32) = (0 : Int32)))).1) kk) ?_
    show OwnG _ _ _ _ _ _ _ (T14.setTop (mkF m 241 #[.val (.long pl), .second, .val (.long cl), .second, .val (.int k), .val (.int ci), .val (.int qi), .val (.ref b), .val (.int (1 : Int32)), .val (.long ((qi.toInt64) + (1 : Int64))), .second, .val (.int (if (qi.toInt64 + 1) ≤ pl ∧ ci.toInt64 ≤ cl then (1 : Int32) else 0)), .val (.int (0 : Int32))] []))
    refine own_st (fun _ kk => XS.iload X14.here hx rfl (hb hby at_241) rfl kk) ?_
    show OwnG _ _ _ _ _ _ _ (T14.setTop (mkF m 243 #[.val (.long pl), .second, .val (.long cl), .second, .val (.int k), .val (.int ci), .val (.int qi), .val (.ref b), .val (.int (1 : Int32)), .val (.long ((qi.toInt64) + (1 : Int64))), .second, .val (.int (if (qi.toInt64 + 1) ≤ pl ∧ ci.toInt64 ≤ cl then (1 : Int32) else 0)), .val (.int (0 : Int32))] [(.int (if (qi.toInt64 + 1) ≤ pl ∧ ci.toInt64 ≤ cl then (1 : Int32) else 0))]))
    refine own_st (fun _ kk => XS.iload X14.here hx rfl (hb hby at_243) rfl kk) ?_
    show OwnG _ _ _ _ _ _ _ (T14.setTop (mkF m 245 #[.val (.long pl), .second, .val (.long cl), .second, .val (.int k), .val (.int ci), .val (.int qi), .val (.ref b), .val (.int (1 : Int32)), .val (.long ((qi.toInt64) + (1 : Int64))), .second, .val (.int (if (qi.toInt64 + 1) ≤ pl ∧ ci.toInt64 ≤ cl then (1 : Int32) else 0)), .val (.int (0 : Int32))] [(.int (0 : Int32)), (.int (if (qi.toInt64 + 1) ≤ pl ∧ ci.toInt64 ≤ cl then (1 : Int32) else 0))]))
    refine own_st (fun _ kk => XS.icmpNo X14.here hx rfl (hb hby at_245) rfl (teq (if_neg fun q => absurd ((lw_gt _ _).mp hA218) (Int64.not_lt.mpr q.1))).2 kk) ?_
    show OwnG _ _ _ _ _ _ _ (T14.setTop (mkF m 248 #[.val (.long pl), .second, .val (.long cl), .second, .val (.int k), .val (.int ci), .val (.int qi), .val (.ref b), .val (.int (1 : Int32)), .val (.long ((qi.toInt64) + (1 : Int64))), .second, .val (.int (if (qi.toInt64 + 1) ≤ pl ∧ ci.toInt64 ≤ cl then (1 : Int32) else 0)), .val (.int (0 : Int32))] []))
    refine own_st (fun _ kk => XS.aload X14.here hx rfl (hb hby at_248) rfl rfl kk) ?_
    show OwnG _ _ _ _ _ _ _ (T14.setTop (mkF m 250 #[.val (.long pl), .second, .val (.long cl), .second, .val (.int k), .val (.int ci), .val (.int qi), .val (.ref b), .val (.int (1 : Int32)), .val (.long ((qi.toInt64) + (1 : Int64))), .second, .val (.int (if (qi.toInt64 + 1) ≤ pl ∧ ci.toInt64 ≤ cl then (1 : Int32) else 0)), .val (.int (0 : Int32))] [(.ref b)]))
    obtain ⟨cq15, kq15, q15a, q15b, q15c⟩ := isOf hZ rfl B14.1
    obtain ⟨_, _, ⟨T15, L15, k15, n15⟩, -, X15, ⟨Lc15, hQ15, l15, y15, z15⟩, st15⟩ := X14.virtualBack hx (y := (⟨"com/example/reasoning_service_planner/reasoningserviceplanner/SolverBudget", "propagations", "()J"⟩ : MethodName)) (z := (⟨"com/example/reasoning_service_planner/reasoningserviceplanner/SolverBudget", "propagations", "()J"⟩ : MethodName)) hown (mvT hZ (hw _ (List.mem_of_getElem? (i := 22) rfl))) (mvT hZ (hw _ (List.mem_of_getElem? (i := 23) rfl))) (notFace_of_selects (args := #[]) (mvT hZ (hw _ (List.mem_of_getElem? (i := 25) rfl)))) (mvT hZ (hw _ (List.mem_of_getElem? (i := 25) rfl))) (mvT hZ (hw _ (List.mem_of_getElem? (i := 24) rfl))) (by decide) (backOf (W := 0) (rm4 l Z a0 hw [] b pl cl (qi.toInt64 + 1) ci.toInt64 T14.heap n0 Z14 B14) hZ (hw _ (List.mem_of_getElem? (i := 26) rfl)) (hw _ (List.mem_of_getElem? (i := 2) rfl)) (by decide) (by decide)) q15a q15c (g := (mkF m 250 #[.val (.long pl), .second, .val (.long cl), .second, .val (.int k), .val (.int ci), .val (.int qi), .val (.ref b), .val (.int (1 : Int32)), .val (.long ((qi.toInt64) + (1 : Int64))), .second, .val (.int (if (qi.toInt64 + 1) ≤ pl ∧ ci.toInt64 ≤ cl then (1 : Int32) else 0)), .val (.int (0 : Int32))] [(.ref b)])) rfl (by rw [hml]; rfl) (Steps.refl _) (argsL := []) (rest := []) (lenOf (by decide +kernel : parseMethodDescriptor "()J" = some ⟨[], some .long⟩) rfl) rfl (by show 2 * 0 + _ ≤ _; exact Nat.le_of_eq rfl) (hb hby at_250) (fun _ _ => ⟨rfl, rfl, (by dsimp only [Pt.cells]; decide), (by dsimp only [Pt.slots]; decide)⟩)
    dsimp only [Pt.U, Pt.locs, Pt.cells, Pt.slots] at X15 l15 y15 z15 st15 hQ15
    subst l15 y15 z15
    obtain ⟨rfl, N15q, E15⟩ := hQ15
    have N15 := Fr.app N14 N15q
    refine own_go st15 ?_
    show OwnG _ _ _ _ _ _ _ (T15.setTop (mkF m 253 #[.val (.long pl), .second, .val (.long cl), .second, .val (.int k), .val (.int ci), .val (.int qi), .val (.ref b), .val (.int (1 : Int32)), .val (.long ((qi.toInt64) + (1 : Int64))), .second, .val (.int (if (qi.toInt64 + 1) ≤ pl ∧ ci.toInt64 ≤ cl then (1 : Int32) else 0)), .val (.int (0 : Int32))] [(.long (qi.toInt64 + 1))]))
    refine own_st (fun _ kk => XS.lload X15.here hx rfl (hb hby at_253) rfl kk) ?_
    show OwnG _ _ _ _ _ _ _ (T15.setTop (mkF m 255 #[.val (.long pl), .second, .val (.long cl), .second, .val (.int k), .val (.int ci), .val (.int qi), .val (.ref b), .val (.int (1 : Int32)), .val (.long ((qi.toInt64) + (1 : Int64))), .second, .val (.int (if (qi.toInt64 + 1) ≤ pl ∧ ci.toInt64 ≤ cl then (1 : Int32) else 0)), .val (.int (0 : Int32))] [(.long ((qi.toInt64) + (1 : Int64))), (.long (qi.toInt64 + 1))]))
    refine own_st (fun _ kk => XS.lcmp X15.here hx rfl (hb hby at_255) rfl kk) ?_
    show OwnG _ _ _ _ _ _ _ (T15.setTop (mkF m 256 #[.val (.long pl), .second, .val (.long cl), .second, .val (.int k), .val (.int ci), .val (.int qi), .val (.ref b), .val (.int (1 : Int32)), .val (.long ((qi.toInt64) + (1 : Int64))), .second, .val (.int (if (qi.toInt64 + 1) ≤ pl ∧ ci.toInt64 ≤ cl then (1 : Int32) else 0)), .val (.int (0 : Int32))] [(.int (lcmpW (qi.toInt64 + 1) ((qi.toInt64) + (1 : Int64))))]))
    refine own_st (fun _ kk => XS.ifNo X15.here hx rfl (hb hby at_256) rfl ((if0 _ _).trans (teq ((lw_eq _ _).mpr rfl)).2) kk) ?_
    show OwnG _ _ _ _ _ _ _ (T15.setTop (mkF m 259 #[.val (.long pl), .second, .val (.long cl), .second, .val (.int k), .val (.int ci), .val (.int qi), .val (.ref b), .val (.int (1 : Int32)), .val (.long ((qi.toInt64) + (1 : Int64))), .second, .val (.int (if (qi.toInt64 + 1) ≤ pl ∧ ci.toInt64 ≤ cl then (1 : Int32) else 0)), .val (.int (0 : Int32))] []))
    refine own_st (fun _ kk => XS.aload X15.here hx rfl (hb hby at_259) rfl rfl kk) ?_
    show OwnG _ _ _ _ _ _ _ (T15.setTop (mkF m 261 #[.val (.long pl), .second, .val (.long cl), .second, .val (.int k), .val (.int ci), .val (.int qi), .val (.ref b), .val (.int (1 : Int32)), .val (.long ((qi.toInt64) + (1 : Int64))), .second, .val (.int (if (qi.toInt64 + 1) ≤ pl ∧ ci.toInt64 ≤ cl then (1 : Int32) else 0)), .val (.int (0 : Int32))] [(.ref b)]))
    obtain ⟨cq16, kq16, q16a, q16b, q16c⟩ := isOf hZ E15 B14.1
    obtain ⟨_, _, ⟨T16, L16, k16, n16⟩, -, X16, ⟨Lc16, hQ16, l16, y16, z16⟩, st16⟩ := X15.virtualBack hx (y := (⟨"com/example/reasoning_service_planner/reasoningserviceplanner/SolverBudget", "conflicts", "()J"⟩ : MethodName)) (z := (⟨"com/example/reasoning_service_planner/reasoningserviceplanner/SolverBudget", "conflicts", "()J"⟩ : MethodName)) hown (mvT hZ (hw _ (List.mem_of_getElem? (i := 27) rfl))) (mvT hZ (hw _ (List.mem_of_getElem? (i := 28) rfl))) (notFace_of_selects (args := #[]) (mvT hZ (hw _ (List.mem_of_getElem? (i := 30) rfl)))) (mvT hZ (hw _ (List.mem_of_getElem? (i := 30) rfl))) (mvT hZ (hw _ (List.mem_of_getElem? (i := 29) rfl))) (by decide) (backOf (W := 0) (rm5 l Z a0 hw [] b pl cl (qi.toInt64 + 1) ci.toInt64 T14.heap n0 Z14 B14) hZ (hw _ (List.mem_of_getElem? (i := 31) rfl)) (hw _ (List.mem_of_getElem? (i := 2) rfl)) (by decide) (by decide)) q16a q16c (g := (mkF m 261 #[.val (.long pl), .second, .val (.long cl), .second, .val (.int k), .val (.int ci), .val (.int qi), .val (.ref b), .val (.int (1 : Int32)), .val (.long ((qi.toInt64) + (1 : Int64))), .second, .val (.int (if (qi.toInt64 + 1) ≤ pl ∧ ci.toInt64 ≤ cl then (1 : Int32) else 0)), .val (.int (0 : Int32))] [(.ref b)])) rfl (by rw [hml]; rfl) (Steps.refl _) (argsL := []) (rest := []) (lenOf (by decide +kernel : parseMethodDescriptor "()J" = some ⟨[], some .long⟩) rfl) rfl (by show 2 * 0 + _ ≤ _; exact Nat.le_of_eq rfl) (hb hby at_261) (fun _ _ => ⟨rfl, E15, (by dsimp only [Pt.cells]; decide), (by dsimp only [Pt.slots]; decide)⟩)
    dsimp only [Pt.U, Pt.locs, Pt.cells, Pt.slots] at X16 l16 y16 z16 st16 hQ16
    subst l16 y16 z16
    obtain ⟨rfl, N16q, E16⟩ := hQ16
    have N16 := Fr.app N15 N16q
    refine own_go st16 ?_
    show OwnG _ _ _ _ _ _ _ (T16.setTop (mkF m 264 #[.val (.long pl), .second, .val (.long cl), .second, .val (.int k), .val (.int ci), .val (.int qi), .val (.ref b), .val (.int (1 : Int32)), .val (.long ((qi.toInt64) + (1 : Int64))), .second, .val (.int (if (qi.toInt64 + 1) ≤ pl ∧ ci.toInt64 ≤ cl then (1 : Int32) else 0)), .val (.int (0 : Int32))] [(.long ci.toInt64)]))
    refine own_st (fun _ kk => XS.iload X16.here hx rfl (hb hby at_264) rfl kk) ?_
    show OwnG _ _ _ _ _ _ _ (T16.setTop (mkF m 266 #[.val (.long pl), .second, .val (.long cl), .second, .val (.int k), .val (.int ci), .val (.int qi), .val (.ref b), .val (.int (1 : Int32)), .val (.long ((qi.toInt64) + (1 : Int64))), .second, .val (.int (if (qi.toInt64 + 1) ≤ pl ∧ ci.toInt64 ≤ cl then (1 : Int32) else 0)), .val (.int (0 : Int32))] [(.int ci), (.long ci.toInt64)]))
    refine own_st (fun _ kk => XS.i2l X16.here hx rfl (hb hby at_266) rfl kk) ?_
    show OwnG _ _ _ _ _ _ _ (T16.setTop (mkF m 267 #[.val (.long pl), .second, .val (.long cl), .second, .val (.int k), .val (.int ci), .val (.int qi), .val (.ref b), .val (.int (1 : Int32)), .val (.long ((qi.toInt64) + (1 : Int64))), .second, .val (.int (if (qi.toInt64 + 1) ≤ pl ∧ ci.toInt64 ≤ cl then (1 : Int32) else 0)), .val (.int (0 : Int32))] [(.long (ci.toInt64)), (.long ci.toInt64)]))
    refine own_st (fun _ kk => XS.lcmp X16.here hx rfl (hb hby at_267) rfl kk) ?_
    show OwnG _ _ _ _ _ _ _ (T16.setTop (mkF m 268 #[.val (.long pl), .second, .val (.long cl), .second, .val (.int k), .val (.int ci), .val (.int qi), .val (.ref b), .val (.int (1 : Int32)), .val (.long ((qi.toInt64) + (1 : Int64))), .second, .val (.int (if (qi.toInt64 + 1) ≤ pl ∧ ci.toInt64 ≤ cl then (1 : Int32) else 0)), .val (.int (0 : Int32))] [(.int (lcmpW ci.toInt64 (ci.toInt64)))]))
    refine own_st (fun _ kk => XS.ifNo X16.here hx rfl (hb hby at_268) rfl ((if0 _ _).trans (teq ((lw_eq _ _).mpr rfl)).2) kk) ?_
    show OwnG _ _ _ _ _ _ _ (T16.setTop (mkF m 271 #[.val (.long pl), .second, .val (.long cl), .second, .val (.int k), .val (.int ci), .val (.int qi), .val (.ref b), .val (.int (1 : Int32)), .val (.long ((qi.toInt64) + (1 : Int64))), .second, .val (.int (if (qi.toInt64 + 1) ≤ pl ∧ ci.toInt64 ≤ cl then (1 : Int32) else 0)), .val (.int (0 : Int32))] []))
    refine own_st (fun _ kk => XS.iconst X16.here hx rfl (hb hby at_271) kk) ?_
    show OwnG _ _ _ _ _ _ _ (T16.setTop (mkF m 272 #[.val (.long pl), .second, .val (.long cl), .second, .val (.int k), .val (.int ci), .val (.int qi), .val (.ref b), .val (.int (1 : Int32)), .val (.long ((qi.toInt64) + (1 : Int64))), .second, .val (.int (if (qi.toInt64 + 1) ≤ pl ∧ ci.toInt64 ≤ cl then (1 : Int32) else 0)), .val (.int (0 : Int32))] [(.int (1 : Int32))]))
    refine own_st (fun _ kk => XS.goto X16.here hx rfl (pc0 := 272) (pc' := 276) rfl (hb hby at_272) (by decide) (by decide) kk) ?_
    show OwnG _ _ _ _ _ _ _ (T16.setTop (mkF m 276 #[.val (.long pl), .second, .val (.long cl), .second, .val (.int k), .val (.int ci), .val (.int qi), .val (.ref b), .val (.int (1 : Int32)), .val (.long ((qi.toInt64) + (1 : Int64))), .second, .val (.int (if (qi.toInt64 + 1) ≤ pl ∧ ci.toInt64 ≤ cl then (1 : Int32) else 0)), .val (.int (0 : Int32))] [(.int (1 : Int32))]))
    exact own_retN X16 hx hrt hlk (t := .boolean) (by simp) (hb hby at_276) (by decide) (by decide) (by show _ ∧ _; exact ⟨rfl, N16⟩)
  · skip
    refine own_st (fun _ kk => XS.ifNo X14.here hx rfl (hb hby at_218) rfl ((if0 _ _).trans (flt hA218).2.2.1) kk) ?_
    show OwnG _ _ _ _ _ _ _ (T14.setTop (mkF m 221 #[.val (.long pl), .second, .val (.long cl), .second, .val (.int k), .val (.int ci), .val (.int qi), .val (.ref b), .val (.int (1 : Int32)), .val (.long ((qi.toInt64) + (1 : Int64))), .second, .val (.int (if (qi.toInt64 + 1) ≤ pl ∧ ci.toInt64 ≤ cl then (1 : Int32) else 0)), .unset] []))
    refine own_st (fun _ kk => XS.iload X14.here hx rfl (hb hby at_221) rfl kk) ?_
    show OwnG _ _ _ _ _ _ _ (T14.setTop (mkF m 223 #[.val (.long pl), .second, .val (.long cl), .second, .val (.int k), .val (.int ci), .val (.int qi), .val (.ref b), .val (.int (1 : Int32)), .val (.long ((qi.toInt64) + (1 : Int64))), .second, .val (.int (if (qi.toInt64 + 1) ≤ pl ∧ ci.toInt64 ≤ cl then (1 : Int32) else 0)), .unset] [(.int ci)]))
    refine own_st (fun _ kk => XS.i2l X14.here hx rfl (hb hby at_223) rfl kk) ?_
    show OwnG _ _ _ _ _ _ _ (T14.setTop (mkF m 224 #[.val (.long pl), .second, .val (.long cl), .second, .val (.int k), .val (.int ci), .val (.int qi), .val (.ref b), .val (.int (1 : Int32)), .val (.long ((qi.toInt64) + (1 : Int64))), .second, .val (.int (if (qi.toInt64 + 1) ≤ pl ∧ ci.toInt64 ≤ cl then (1 : Int32) else 0)), .unset] [(.long (ci.toInt64))]))
    refine own_st (fun _ kk => XS.lloadN X14.here hx rfl (hb hby at_224) rfl kk) ?_
    show OwnG _ _ _ _ _ _ _ (T14.setTop (mkF m 225 #[.val (.long pl), .second, .val (.long cl), .second, .val (.int k), .val (.int ci), .val (.int qi), .val (.ref b), .val (.int (1 : Int32)), .val (.long ((qi.toInt64) + (1 : Int64))), .second, .val (.int (if (qi.toInt64 + 1) ≤ pl ∧ ci.toInt64 ≤ cl then (1 : Int32) else 0)), .unset] [(.long cl), (.long (ci.toInt64))]))
    refine own_st (fun _ kk => XS.lcmp X14.here hx rfl (hb hby at_225) rfl kk) ?_
    show OwnG _ _ _ _ _ _ _ (T14.setTop (mkF m 226 #[.val (.long pl), .second, .val (.long cl), .second, .val (.int k), .val (.int ci), .val (.int qi), .val (.ref b), .val (.int (1 : Int32)), .val (.long ((qi.toInt64) + (1 : Int64))), .second, .val (.int (if (qi.toInt64 + 1) ≤ pl ∧ ci.toInt64 ≤ cl then (1 : Int32) else 0)), .unset] [(.int (lcmpW (ci.toInt64) cl))]))
    by_cases hB218 : (0 : Int32) < (lcmpW (ci.toInt64) cl)
    · skip
      refine own_st (fun _ kk => XS.ifYes X14.here hx rfl (pc0 := 226) (pc' := 233) rfl (hb hby at_226) rfl ((if0 _ _).trans (tlt hB218).2.2.1) (by decide) (by decide) kk) ?_
      show OwnG _ _ _ _ _ _ _ (T14.setTop (mkF m 233 #[.val (.long pl), .second, .val (.long cl), .second, .val (.int k), .val (.int ci), .val (.int qi), .val (.ref b), .val (.int (1 : Int32)), .val (.long ((qi.toInt64) + (1 : Int64))), .second, .val (.int (if (qi.toInt64 + 1) ≤ pl ∧ ci.toInt64 ≤ cl then (1 : Int32) else 0)), .unset] []))
      refine own_st (fun _ kk => XS.iconst X14.here hx rfl (hb hby at_233) kk) ?_
      show OwnG _ _ _ _ _ _ _ (T14.setTop (mkF m 234 #[.val (.long pl), .second, .val (.long cl), .second, .val (.int k), .val (.int ci), .val (.int qi), .val (.ref b), .val (.int (1 : Int32)), .val (.long ((qi.toInt64) + (1 : Int64))), .second, .val (.int (if (qi.toInt64 + 1) ≤ pl ∧ ci.toInt64 ≤ cl then (1 : Int32) else 0)), .unset] [(.int (0 : Int32))]))
      refine own_st (fun _ kk => XS.istore X14.here hx rfl (hb hby at_234) rfl (l' := #[.val (.long pl), .second, .val (.long cl), .second, .val (.int k), .val (.int ci), .val (.int qi), .val (.ref b), .val (.int (1 : Int32)), .val (.long ((qi.toInt64) + (1 : Int64))), .second, .val (.int (if (qi.toInt64 + 1) ≤ pl ∧ ci.toInt64 ≤ cl then (1 : Int32) else 0)), .val (.int (0 : Int32))]) rfl kk) ?_
      show OwnG _ _ _ _ _ _ _ (T14.setTop (mkF m 236 #[.val (.long pl), .second, .val (.long cl), .second, .val (.int k), .val (.int ci), .val (.int qi), .val (.ref b), .val (.int (1 : Int32)), .val (.long ((qi.toInt64) + (1 : Int64))), .second, .val (.int (if (qi.toInt64 + 1) ≤ pl ∧ ci.toInt64 ≤ cl then (1 : Int32) else 0)), .val (.int (0 : Int32))] []))
      refine own_st (fun _ kk => XS.iload X14.here hx rfl (hb hby at_236) rfl kk) ?_
      show OwnG _ _ _ _ _ _ _ (T14.setTop (mkF m 238 #[.val (.long pl), .second, .val (.long cl), .second, .val (.int k), .val (.int ci), .val (.int qi), .val (.ref b), .val (.int (1 : Int32)), .val (.long ((qi.toInt64) + (1 : Int64))), .second, .val (.int (if (qi.toInt64 + 1) ≤ pl ∧ ci.toInt64 ≤ cl then (1 : Int32) else 0)), .val (.int (0 : Int32))] [(.int (1 : Int32))]))
      refine own_st (fun _ kk => XS.ifNo X14.here hx rfl (hb hby at_238) rfl ((if0 _ _).trans (feq (by decide : ¬ ((1 : Int32) = (0 : Int32)))).1) kk) ?_
      show OwnG _ _ _ _ _ _ _ (T14.setTop (mkF m 241 #[.val (.long pl), .second, .val (.long cl), .second, .val (.int k), .val (.int ci), .val (.int qi), .val (.ref b), .val (.int (1 : Int32)), .val (.long ((qi.toInt64) + (1 : Int64))), .second, .val (.int (if (qi.toInt64 + 1) ≤ pl ∧ ci.toInt64 ≤ cl then (1 : Int32) else 0)), .val (.int (0 : Int32))] []))
      refine own_st (fun _ kk => XS.iload X14.here hx rfl (hb hby at_241) rfl kk) ?_
      show OwnG _ _ _ _ _ _ _ (T14.setTop (mkF m 243 #[.val (.long pl), .second, .val (.long cl), .second, .val (.int k), .val (.int ci), .val (.int qi), .val (.ref b), .val (.int (1 : Int32)), .val (.long ((qi.toInt64) + (1 : Int64))), .second, .val (.int (if (qi.toInt64 + 1) ≤ pl ∧ ci.toInt64 ≤ cl then (1 : Int32) else 0)), .val (.int (0 : Int32))] [(.int (if (qi.toInt64 + 1) ≤ pl ∧ ci.toInt64 ≤ cl then (1 : Int32) else 0))]))
      refine own_st (fun _ kk => XS.iload X14.here hx rfl (hb hby at_243) rfl kk) ?_
      show OwnG _ _ _ _ _ _ _ (T14.setTop (mkF m 245 #[.val (.long pl), .second, .val (.long cl), .second, .val (.int k), .val (.int ci), .val (.int qi), .val (.ref b), .val (.int (1 : Int32)), .val (.long ((qi.toInt64) + (1 : Int64))), .second, .val (.int (if (qi.toInt64 + 1) ≤ pl ∧ ci.toInt64 ≤ cl then (1 : Int32) else 0)), .val (.int (0 : Int32))] [(.int (0 : Int32)), (.int (if (qi.toInt64 + 1) ≤ pl ∧ ci.toInt64 ≤ cl then (1 : Int32) else 0))]))
      refine own_st (fun _ kk => XS.icmpNo X14.here hx rfl (hb hby at_245) rfl (teq (if_neg fun q => absurd ((lw_gt _ _).mp hB218) (Int64.not_lt.mpr q.2))).2 kk) ?_
      show OwnG _ _ _ _ _ _ _ (T14.setTop (mkF m 248 #[.val (.long pl), .second, .val (.long cl), .second, .val (.int k), .val (.int ci), .val (.int qi), .val (.ref b), .val (.int (1 : Int32)), .val (.long ((qi.toInt64) + (1 : Int64))), .second, .val (.int (if (qi.toInt64 + 1) ≤ pl ∧ ci.toInt64 ≤ cl then (1 : Int32) else 0)), .val (.int (0 : Int32))] []))
      refine own_st (fun _ kk => XS.aload X14.here hx rfl (hb hby at_248) rfl rfl kk) ?_
      show OwnG _ _ _ _ _ _ _ (T14.setTop (mkF m 250 #[.val (.long pl), .second, .val (.long cl), .second, .val (.int k), .val (.int ci), .val (.int qi), .val (.ref b), .val (.int (1 : Int32)), .val (.long ((qi.toInt64) + (1 : Int64))), .second, .val (.int (if (qi.toInt64 + 1) ≤ pl ∧ ci.toInt64 ≤ cl then (1 : Int32) else 0)), .val (.int (0 : Int32))] [(.ref b)]))
      obtain ⟨cq17, kq17, q17a, q17b, q17c⟩ := isOf hZ rfl B14.1
      obtain ⟨_, _, ⟨T17, L17, k17, n17⟩, -, X17, ⟨Lc17, hQ17, l17, y17, z17⟩, st17⟩ := X14.virtualBack hx (y := (⟨"com/example/reasoning_service_planner/reasoningserviceplanner/SolverBudget", "propagations", "()J"⟩ : MethodName)) (z := (⟨"com/example/reasoning_service_planner/reasoningserviceplanner/SolverBudget", "propagations", "()J"⟩ : MethodName)) hown (mvT hZ (hw _ (List.mem_of_getElem? (i := 22) rfl))) (mvT hZ (hw _ (List.mem_of_getElem? (i := 23) rfl))) (notFace_of_selects (args := #[]) (mvT hZ (hw _ (List.mem_of_getElem? (i := 25) rfl)))) (mvT hZ (hw _ (List.mem_of_getElem? (i := 25) rfl))) (mvT hZ (hw _ (List.mem_of_getElem? (i := 24) rfl))) (by decide) (backOf (W := 0) (rm4 l Z a0 hw [] b pl cl (qi.toInt64 + 1) ci.toInt64 T14.heap n0 Z14 B14) hZ (hw _ (List.mem_of_getElem? (i := 26) rfl)) (hw _ (List.mem_of_getElem? (i := 2) rfl)) (by decide) (by decide)) q17a q17c (g := (mkF m 250 #[.val (.long pl), .second, .val (.long cl), .second, .val (.int k), .val (.int ci), .val (.int qi), .val (.ref b), .val (.int (1 : Int32)), .val (.long ((qi.toInt64) + (1 : Int64))), .second, .val (.int (if (qi.toInt64 + 1) ≤ pl ∧ ci.toInt64 ≤ cl then (1 : Int32) else 0)), .val (.int (0 : Int32))] [(.ref b)])) rfl (by rw [hml]; rfl) (Steps.refl _) (argsL := []) (rest := []) (lenOf (by decide +kernel : parseMethodDescriptor "()J" = some ⟨[], some .long⟩) rfl) rfl (by show 2 * 0 + _ ≤ _; exact Nat.le_of_eq rfl) (hb hby at_250) (fun _ _ => ⟨rfl, rfl, (by dsimp only [Pt.cells]; decide), (by dsimp only [Pt.slots]; decide)⟩)
      dsimp only [Pt.U, Pt.locs, Pt.cells, Pt.slots] at X17 l17 y17 z17 st17 hQ17
      subst l17 y17 z17
      obtain ⟨rfl, N17q, E17⟩ := hQ17
      have N17 := Fr.app N14 N17q
      refine own_go st17 ?_
      show OwnG _ _ _ _ _ _ _ (T17.setTop (mkF m 253 #[.val (.long pl), .second, .val (.long cl), .second, .val (.int k), .val (.int ci), .val (.int qi), .val (.ref b), .val (.int (1 : Int32)), .val (.long ((qi.toInt64) + (1 : Int64))), .second, .val (.int (if (qi.toInt64 + 1) ≤ pl ∧ ci.toInt64 ≤ cl then (1 : Int32) else 0)), .val (.int (0 : Int32))] [(.long (qi.toInt64 + 1))]))
      refine own_st (fun _ kk => XS.lload X17.here hx rfl (hb hby at_253) rfl kk) ?_
      show OwnG _ _ _ _ _ _ _ (T17.setTop (mkF m 255 #[.val (.long pl), .second, .val (.long cl), .second, .val (.int k), .val (.int ci), .val (.int qi), .val (.ref b), .val (.int (1 : Int32)), .val (.long ((qi.toInt64) + (1 : Int64))), .second, .val (.int (if (qi.toInt64 + 1) ≤ pl ∧ ci.toInt64 ≤ cl then (1 : Int32) else 0)), .val (.int (0 : Int32))] [(.long ((qi.toInt64) + (1 : Int64))), (.long (qi.toInt64 + 1))]))
      refine own_st (fun _ kk => XS.lcmp X17.here hx rfl (hb hby at_255) rfl kk) ?_
      show OwnG _ _ _ _ _ _ _ (T17.setTop (mkF m 256 #[.val (.long pl), .second, .val (.long cl), .second, .val (.int k), .val (.int ci), .val (.int qi), .val (.ref b), .val (.int (1 : Int32)), .val (.long ((qi.toInt64) + (1 : Int64))), .second, .val (.int (if (qi.toInt64 + 1) ≤ pl ∧ ci.toInt64 ≤ cl then (1 : Int32) else 0)), .val (.int (0 : Int32))] [(.int (lcmpW (qi.toInt64 + 1) ((qi.toInt64) + (1 : Int64))))]))
      refine own_st (fun _ kk => XS.ifNo X17.here hx rfl (hb hby at_256) rfl ((if0 _ _).trans (teq ((lw_eq _ _).mpr rfl)).2) kk) ?_
      show OwnG _ _ _ _ _ _ _ (T17.setTop (mkF m 259 #[.val (.long pl), .second, .val (.long cl), .second, .val (.int k), .val (.int ci), .val (.int qi), .val (.ref b), .val (.int (1 : Int32)), .val (.long ((qi.toInt64) + (1 : Int64))), .second, .val (.int (if (qi.toInt64 + 1) ≤ pl ∧ ci.toInt64 ≤ cl then (1 : Int32) else 0)), .val (.int (0 : Int32))] []))
      refine own_st (fun _ kk => XS.aload X17.here hx rfl (hb hby at_259) rfl rfl kk) ?_
      show OwnG _ _ _ _ _ _ _ (T17.setTop (mkF m 261 #[.val (.long pl), .second, .val (.long cl), .second, .val (.int k), .val (.int ci), .val (.int qi), .val (.ref b), .val (.int (1 : Int32)), .val (.long ((qi.toInt64) + (1 : Int64))), .second, .val (.int (if (qi.toInt64 + 1) ≤ pl ∧ ci.toInt64 ≤ cl then (1 : Int32) else 0)), .val (.int (0 : Int32))] [(.ref b)]))
      obtain ⟨cq18, kq18, q18a, q18b, q18c⟩ := isOf hZ E17 B14.1
      obtain ⟨_, _, ⟨T18, L18, k18, n18⟩, -, X18, ⟨Lc18, hQ18, l18, y18, z18⟩, st18⟩ := X17.virtualBack hx (y := (⟨"com/example/reasoning_service_planner/reasoningserviceplanner/SolverBudget", "conflicts", "()J"⟩ : MethodName)) (z := (⟨"com/example/reasoning_service_planner/reasoningserviceplanner/SolverBudget", "conflicts", "()J"⟩ : MethodName)) hown (mvT hZ (hw _ (List.mem_of_getElem? (i := 27) rfl))) (mvT hZ (hw _ (List.mem_of_getElem? (i := 28) rfl))) (notFace_of_selects (args := #[]) (mvT hZ (hw _ (List.mem_of_getElem? (i := 30) rfl)))) (mvT hZ (hw _ (List.mem_of_getElem? (i := 30) rfl))) (mvT hZ (hw _ (List.mem_of_getElem? (i := 29) rfl))) (by decide) (backOf (W := 0) (rm5 l Z a0 hw [] b pl cl (qi.toInt64 + 1) ci.toInt64 T14.heap n0 Z14 B14) hZ (hw _ (List.mem_of_getElem? (i := 31) rfl)) (hw _ (List.mem_of_getElem? (i := 2) rfl)) (by decide) (by decide)) q18a q18c (g := (mkF m 261 #[.val (.long pl), .second, .val (.long cl), .second, .val (.int k), .val (.int ci), .val (.int qi), .val (.ref b), .val (.int (1 : Int32)), .val (.long ((qi.toInt64) + (1 : Int64))), .second, .val (.int (if (qi.toInt64 + 1) ≤ pl ∧ ci.toInt64 ≤ cl then (1 : Int32) else 0)), .val (.int (0 : Int32))] [(.ref b)])) rfl (by rw [hml]; rfl) (Steps.refl _) (argsL := []) (rest := []) (lenOf (by decide +kernel : parseMethodDescriptor "()J" = some ⟨[], some .long⟩) rfl) rfl (by show 2 * 0 + _ ≤ _; exact Nat.le_of_eq rfl) (hb hby at_261) (fun _ _ => ⟨rfl, E17, (by dsimp only [Pt.cells]; decide), (by dsimp only [Pt.slots]; decide)⟩)
      dsimp only [Pt.U, Pt.locs, Pt.cells, Pt.slots] at X18 l18 y18 z18 st18 hQ18
      subst l18 y18 z18
      obtain ⟨rfl, N18q, E18⟩ := hQ18
      have N18 := Fr.app N17 N18q
      refine own_go st18 ?_
      show OwnG _ _ _ _ _ _ _ (T18.setTop (mkF m 264 #[.val (.long pl), .second, .val (.long cl), .second, .val (.int k), .val (.int ci), .val (.int qi), .val (.ref b), .val (.int (1 : Int32)), .val (.long ((qi.toInt64) + (1 : Int64))), .second, .val (.int (if (qi.toInt64 + 1) ≤ pl ∧ ci.toInt64 ≤ cl then (1 : Int32) else 0)), .val (.int (0 : Int32))] [(.long ci.toInt64)]))
      refine own_st (fun _ kk => XS.iload X18.here hx rfl (hb hby at_264) rfl kk) ?_
      show OwnG _ _ _ _ _ _ _ (T18.setTop (mkF m 266 #[.val (.long pl), .second, .val (.long cl), .second, .val (.int k), .val (.int ci), .val (.int qi), .val (.ref b), .val (.int (1 : Int32)), .val (.long ((qi.toInt64) + (1 : Int64))), .second, .val (.int (if (qi.toInt64 + 1) ≤ pl ∧ ci.toInt64 ≤ cl then (1 : Int32) else 0)), .val (.int (0 : Int32))] [(.int ci), (.long ci.toInt64)]))
      refine own_st (fun _ kk => XS.i2l X18.here hx rfl (hb hby at_266) rfl kk) ?_
      show OwnG _ _ _ _ _ _ _ (T18.setTop (mkF m 267 #[.val (.long pl), .second, .val (.long cl), .second, .val (.int k), .val (.int ci), .val (.int qi), .val (.ref b), .val (.int (1 : Int32)), .val (.long ((qi.toInt64) + (1 : Int64))), .second, .val (.int (if (qi.toInt64 + 1) ≤ pl ∧ ci.toInt64 ≤ cl then (1 : Int32) else 0)), .val (.int (0 : Int32))] [(.long (ci.toInt64)), (.long ci.toInt64)]))
      refine own_st (fun _ kk => XS.lcmp X18.here hx rfl (hb hby at_267) rfl kk) ?_
      show OwnG _ _ _ _ _ _ _ (T18.setTop (mkF m 268 #[.val (.long pl), .second, .val (.long cl), .second, .val (.int k), .val (.int ci), .val (.int qi), .val (.ref b), .val (.int (1 : Int32)), .val (.long ((qi.toInt64) + (1 : Int64))), .second, .val (.int (if (qi.toInt64 + 1) ≤ pl ∧ ci.toInt64 ≤ cl then (1 : Int32) else 0)), .val (.int (0 : Int32))] [(.int (lcmpW ci.toInt64 (ci.toInt64)))]))
      refine own_st (fun _ kk => XS.ifNo X18.here hx rfl (hb hby at_268) rfl ((if0 _ _).trans (teq ((lw_eq _ _).mpr rfl)).2) kk) ?_
      show OwnG _ _ _ _ _ _ _ (T18.setTop (mkF m 271 #[.val (.long pl), .second, .val (.long cl), .second, .val (.int k), .val (.int ci), .val (.int qi), .val (.ref b), .val (.int (1 : Int32)), .val (.long ((qi.toInt64) + (1 : Int64))), .second, .val (.int (if (qi.toInt64 + 1) ≤ pl ∧ ci.toInt64 ≤ cl then (1 : Int32) else 0)), .val (.int (0 : Int32))] []))
      refine own_st (fun _ kk => XS.iconst X18.here hx rfl (hb hby at_271) kk) ?_
      show OwnG _ _ _ _ _ _ _ (T18.setTop (mkF m 272 #[.val (.long pl), .second, .val (.long cl), .second, .val (.int k), .val (.int ci), .val (.int qi), .val (.ref b), .val (.int (1 : Int32)), .val (.long ((qi.toInt64) + (1 : Int64))), .second, .val (.int (if (qi.toInt64 + 1) ≤ pl ∧ ci.toInt64 ≤ cl then (1 : Int32) else 0)), .val (.int (0 : Int32))] [(.int (1 : Int32))]))
      refine own_st (fun _ kk => XS.goto X18.here hx rfl (pc0 := 272) (pc' := 276) rfl (hb hby at_272) (by decide) (by decide) kk) ?_
      show OwnG _ _ _ _ _ _ _ (T18.setTop (mkF m 276 #[.val (.long pl), .second, .val (.long cl), .second, .val (.int k), .val (.int ci), .val (.int qi), .val (.ref b), .val (.int (1 : Int32)), .val (.long ((qi.toInt64) + (1 : Int64))), .second, .val (.int (if (qi.toInt64 + 1) ≤ pl ∧ ci.toInt64 ≤ cl then (1 : Int32) else 0)), .val (.int (0 : Int32))] [(.int (1 : Int32))]))
      exact own_retN X18 hx hrt hlk (t := .boolean) (by simp) (hb hby at_276) (by decide) (by decide) (by show _ ∧ _; exact ⟨rfl, N18⟩)
    · skip
      refine own_st (fun _ kk => XS.ifNo X14.here hx rfl (hb hby at_226) rfl ((if0 _ _).trans (flt hB218).2.2.1) kk) ?_
      show OwnG _ _ _ _ _ _ _ (T14.setTop (mkF m 229 #[.val (.long pl), .second, .val (.long cl), .second, .val (.int k), .val (.int ci), .val (.int qi), .val (.ref b), .val (.int (1 : Int32)), .val (.long ((qi.toInt64) + (1 : Int64))), .second, .val (.int (if (qi.toInt64 + 1) ≤ pl ∧ ci.toInt64 ≤ cl then (1 : Int32) else 0)), .unset] []))
      refine own_st (fun _ kk => XS.iconst X14.here hx rfl (hb hby at_229) kk) ?_
      show OwnG _ _ _ _ _ _ _ (T14.setTop (mkF m 230 #[.val (.long pl), .second, .val (.long cl), .second, .val (.int k), .val (.int ci), .val (.int qi), .val (.ref b), .val (.int (1 : Int32)), .val (.long ((qi.toInt64) + (1 : Int64))), .second, .val (.int (if (qi.toInt64 + 1) ≤ pl ∧ ci.toInt64 ≤ cl then (1 : Int32) else 0)), .unset] [(.int (1 : Int32))]))
      refine own_st (fun _ kk => XS.goto X14.here hx rfl (pc0 := 230) (pc' := 234) rfl (hb hby at_230) (by decide) (by decide) kk) ?_
      show OwnG _ _ _ _ _ _ _ (T14.setTop (mkF m 234 #[.val (.long pl), .second, .val (.long cl), .second, .val (.int k), .val (.int ci), .val (.int qi), .val (.ref b), .val (.int (1 : Int32)), .val (.long ((qi.toInt64) + (1 : Int64))), .second, .val (.int (if (qi.toInt64 + 1) ≤ pl ∧ ci.toInt64 ≤ cl then (1 : Int32) else 0)), .unset] [(.int (1 : Int32))]))
      refine own_st (fun _ kk => XS.istore X14.here hx rfl (hb hby at_234) rfl (l' := #[.val (.long pl), .second, .val (.long cl), .second, .val (.int k), .val (.int ci), .val (.int qi), .val (.ref b), .val (.int (1 : Int32)), .val (.long ((qi.toInt64) + (1 : Int64))), .second, .val (.int (if (qi.toInt64 + 1) ≤ pl ∧ ci.toInt64 ≤ cl then (1 : Int32) else 0)), .val (.int (1 : Int32))]) rfl kk) ?_
      show OwnG _ _ _ _ _ _ _ (T14.setTop (mkF m 236 #[.val (.long pl), .second, .val (.long cl), .second, .val (.int k), .val (.int ci), .val (.int qi), .val (.ref b), .val (.int (1 : Int32)), .val (.long ((qi.toInt64) + (1 : Int64))), .second, .val (.int (if (qi.toInt64 + 1) ≤ pl ∧ ci.toInt64 ≤ cl then (1 : Int32) else 0)), .val (.int (1 : Int32))] []))
      refine own_st (fun _ kk => XS.iload X14.here hx rfl (hb hby at_236) rfl kk) ?_
      show OwnG _ _ _ _ _ _ _ (T14.setTop (mkF m 238 #[.val (.long pl), .second, .val (.long cl), .second, .val (.int k), .val (.int ci), .val (.int qi), .val (.ref b), .val (.int (1 : Int32)), .val (.long ((qi.toInt64) + (1 : Int64))), .second, .val (.int (if (qi.toInt64 + 1) ≤ pl ∧ ci.toInt64 ≤ cl then (1 : Int32) else 0)), .val (.int (1 : Int32))] [(.int (1 : Int32))]))
      refine own_st (fun _ kk => XS.ifNo X14.here hx rfl (hb hby at_238) rfl ((if0 _ _).trans (feq (by decide : ¬ ((1 : Int32) = (0 : Int32)))).1) kk) ?_
      show OwnG _ _ _ _ _ _ _ (T14.setTop (mkF m 241 #[.val (.long pl), .second, .val (.long cl), .second, .val (.int k), .val (.int ci), .val (.int qi), .val (.ref b), .val (.int (1 : Int32)), .val (.long ((qi.toInt64) + (1 : Int64))), .second, .val (.int (if (qi.toInt64 + 1) ≤ pl ∧ ci.toInt64 ≤ cl then (1 : Int32) else 0)), .val (.int (1 : Int32))] []))
      refine own_st (fun _ kk => XS.iload X14.here hx rfl (hb hby at_241) rfl kk) ?_
      show OwnG _ _ _ _ _ _ _ (T14.setTop (mkF m 243 #[.val (.long pl), .second, .val (.long cl), .second, .val (.int k), .val (.int ci), .val (.int qi), .val (.ref b), .val (.int (1 : Int32)), .val (.long ((qi.toInt64) + (1 : Int64))), .second, .val (.int (if (qi.toInt64 + 1) ≤ pl ∧ ci.toInt64 ≤ cl then (1 : Int32) else 0)), .val (.int (1 : Int32))] [(.int (if (qi.toInt64 + 1) ≤ pl ∧ ci.toInt64 ≤ cl then (1 : Int32) else 0))]))
      refine own_st (fun _ kk => XS.iload X14.here hx rfl (hb hby at_243) rfl kk) ?_
      show OwnG _ _ _ _ _ _ _ (T14.setTop (mkF m 245 #[.val (.long pl), .second, .val (.long cl), .second, .val (.int k), .val (.int ci), .val (.int qi), .val (.ref b), .val (.int (1 : Int32)), .val (.long ((qi.toInt64) + (1 : Int64))), .second, .val (.int (if (qi.toInt64 + 1) ≤ pl ∧ ci.toInt64 ≤ cl then (1 : Int32) else 0)), .val (.int (1 : Int32))] [(.int (1 : Int32)), (.int (if (qi.toInt64 + 1) ≤ pl ∧ ci.toInt64 ≤ cl then (1 : Int32) else 0))]))
      refine own_st (fun _ kk => XS.icmpNo X14.here hx rfl (hb hby at_245) rfl (teq (if_pos ⟨Int64.not_lt.mp fun q => hA218 ((lw_gt _ _).mpr q), Int64.not_lt.mp fun q => hB218 ((lw_gt _ _).mpr q)⟩)).2 kk) ?_
      show OwnG _ _ _ _ _ _ _ (T14.setTop (mkF m 248 #[.val (.long pl), .second, .val (.long cl), .second, .val (.int k), .val (.int ci), .val (.int qi), .val (.ref b), .val (.int (1 : Int32)), .val (.long ((qi.toInt64) + (1 : Int64))), .second, .val (.int (if (qi.toInt64 + 1) ≤ pl ∧ ci.toInt64 ≤ cl then (1 : Int32) else 0)), .val (.int (1 : Int32))] []))
      refine own_st (fun _ kk => XS.aload X14.here hx rfl (hb hby at_248) rfl rfl kk) ?_
      show OwnG _ _ _ _ _ _ _ (T14.setTop (mkF m 250 #[.val (.long pl), .second, .val (.long cl), .second, .val (.int k), .val (.int ci), .val (.int qi), .val (.ref b), .val (.int (1 : Int32)), .val (.long ((qi.toInt64) + (1 : Int64))), .second, .val (.int (if (qi.toInt64 + 1) ≤ pl ∧ ci.toInt64 ≤ cl then (1 : Int32) else 0)), .val (.int (1 : Int32))] [(.ref b)]))
      obtain ⟨cq19, kq19, q19a, q19b, q19c⟩ := isOf hZ rfl B14.1
      obtain ⟨_, _, ⟨T19, L19, k19, n19⟩, -, X19, ⟨Lc19, hQ19, l19, y19, z19⟩, st19⟩ := X14.virtualBack hx (y := (⟨"com/example/reasoning_service_planner/reasoningserviceplanner/SolverBudget", "propagations", "()J"⟩ : MethodName)) (z := (⟨"com/example/reasoning_service_planner/reasoningserviceplanner/SolverBudget", "propagations", "()J"⟩ : MethodName)) hown (mvT hZ (hw _ (List.mem_of_getElem? (i := 22) rfl))) (mvT hZ (hw _ (List.mem_of_getElem? (i := 23) rfl))) (notFace_of_selects (args := #[]) (mvT hZ (hw _ (List.mem_of_getElem? (i := 25) rfl)))) (mvT hZ (hw _ (List.mem_of_getElem? (i := 25) rfl))) (mvT hZ (hw _ (List.mem_of_getElem? (i := 24) rfl))) (by decide) (backOf (W := 0) (rm4 l Z a0 hw [] b pl cl (qi.toInt64 + 1) ci.toInt64 T14.heap n0 Z14 B14) hZ (hw _ (List.mem_of_getElem? (i := 26) rfl)) (hw _ (List.mem_of_getElem? (i := 2) rfl)) (by decide) (by decide)) q19a q19c (g := (mkF m 250 #[.val (.long pl), .second, .val (.long cl), .second, .val (.int k), .val (.int ci), .val (.int qi), .val (.ref b), .val (.int (1 : Int32)), .val (.long ((qi.toInt64) + (1 : Int64))), .second, .val (.int (if (qi.toInt64 + 1) ≤ pl ∧ ci.toInt64 ≤ cl then (1 : Int32) else 0)), .val (.int (1 : Int32))] [(.ref b)])) rfl (by rw [hml]; rfl) (Steps.refl _) (argsL := []) (rest := []) (lenOf (by decide +kernel : parseMethodDescriptor "()J" = some ⟨[], some .long⟩) rfl) rfl (by show 2 * 0 + _ ≤ _; exact Nat.le_of_eq rfl) (hb hby at_250) (fun _ _ => ⟨rfl, rfl, (by dsimp only [Pt.cells]; decide), (by dsimp only [Pt.slots]; decide)⟩)
      dsimp only [Pt.U, Pt.locs, Pt.cells, Pt.slots] at X19 l19 y19 z19 st19 hQ19
      subst l19 y19 z19
      obtain ⟨rfl, N19q, E19⟩ := hQ19
      have N19 := Fr.app N14 N19q
      refine own_go st19 ?_
      show OwnG _ _ _ _ _ _ _ (T19.setTop (mkF m 253 #[.val (.long pl), .second, .val (.long cl), .second, .val (.int k), .val (.int ci), .val (.int qi), .val (.ref b), .val (.int (1 : Int32)), .val (.long ((qi.toInt64) + (1 : Int64))), .second, .val (.int (if (qi.toInt64 + 1) ≤ pl ∧ ci.toInt64 ≤ cl then (1 : Int32) else 0)), .val (.int (1 : Int32))] [(.long (qi.toInt64 + 1))]))
      refine own_st (fun _ kk => XS.lload X19.here hx rfl (hb hby at_253) rfl kk) ?_
      show OwnG _ _ _ _ _ _ _ (T19.setTop (mkF m 255 #[.val (.long pl), .second, .val (.long cl), .second, .val (.int k), .val (.int ci), .val (.int qi), .val (.ref b), .val (.int (1 : Int32)), .val (.long ((qi.toInt64) + (1 : Int64))), .second, .val (.int (if (qi.toInt64 + 1) ≤ pl ∧ ci.toInt64 ≤ cl then (1 : Int32) else 0)), .val (.int (1 : Int32))] [(.long ((qi.toInt64) + (1 : Int64))), (.long (qi.toInt64 + 1))]))
      refine own_st (fun _ kk => XS.lcmp X19.here hx rfl (hb hby at_255) rfl kk) ?_
      show OwnG _ _ _ _ _ _ _ (T19.setTop (mkF m 256 #[.val (.long pl), .second, .val (.long cl), .second, .val (.int k), .val (.int ci), .val (.int qi), .val (.ref b), .val (.int (1 : Int32)), .val (.long ((qi.toInt64) + (1 : Int64))), .second, .val (.int (if (qi.toInt64 + 1) ≤ pl ∧ ci.toInt64 ≤ cl then (1 : Int32) else 0)), .val (.int (1 : Int32))] [(.int (lcmpW (qi.toInt64 + 1) ((qi.toInt64) + (1 : Int64))))]))
      refine own_st (fun _ kk => XS.ifNo X19.here hx rfl (hb hby at_256) rfl ((if0 _ _).trans (teq ((lw_eq _ _).mpr rfl)).2) kk) ?_
      show OwnG _ _ _ _ _ _ _ (T19.setTop (mkF m 259 #[.val (.long pl), .second, .val (.long cl), .second, .val (.int k), .val (.int ci), .val (.int qi), .val (.ref b), .val (.int (1 : Int32)), .val (.long ((qi.toInt64) + (1 : Int64))), .second, .val (.int (if (qi.toInt64 + 1) ≤ pl ∧ ci.toInt64 ≤ cl then (1 : Int32) else 0)), .val (.int (1 : Int32))] []))
      refine own_st (fun _ kk => XS.aload X19.here hx rfl (hb hby at_259) rfl rfl kk) ?_
      show OwnG _ _ _ _ _ _ _ (T19.setTop (mkF m 261 #[.val (.long pl), .second, .val (.long cl), .second, .val (.int k), .val (.int ci), .val (.int qi), .val (.ref b), .val (.int (1 : Int32)), .val (.long ((qi.toInt64) + (1 : Int64))), .second, .val (.int (if (qi.toInt64 + 1) ≤ pl ∧ ci.toInt64 ≤ cl then (1 : Int32) else 0)), .val (.int (1 : Int32))] [(.ref b)]))
      obtain ⟨cq20, kq20, q20a, q20b, q20c⟩ := isOf hZ E19 B14.1
      obtain ⟨_, _, ⟨T20, L20, k20, n20⟩, -, X20, ⟨Lc20, hQ20, l20, y20, z20⟩, st20⟩ := X19.virtualBack hx (y := (⟨"com/example/reasoning_service_planner/reasoningserviceplanner/SolverBudget", "conflicts", "()J"⟩ : MethodName)) (z := (⟨"com/example/reasoning_service_planner/reasoningserviceplanner/SolverBudget", "conflicts", "()J"⟩ : MethodName)) hown (mvT hZ (hw _ (List.mem_of_getElem? (i := 27) rfl))) (mvT hZ (hw _ (List.mem_of_getElem? (i := 28) rfl))) (notFace_of_selects (args := #[]) (mvT hZ (hw _ (List.mem_of_getElem? (i := 30) rfl)))) (mvT hZ (hw _ (List.mem_of_getElem? (i := 30) rfl))) (mvT hZ (hw _ (List.mem_of_getElem? (i := 29) rfl))) (by decide) (backOf (W := 0) (rm5 l Z a0 hw [] b pl cl (qi.toInt64 + 1) ci.toInt64 T14.heap n0 Z14 B14) hZ (hw _ (List.mem_of_getElem? (i := 31) rfl)) (hw _ (List.mem_of_getElem? (i := 2) rfl)) (by decide) (by decide)) q20a q20c (g := (mkF m 261 #[.val (.long pl), .second, .val (.long cl), .second, .val (.int k), .val (.int ci), .val (.int qi), .val (.ref b), .val (.int (1 : Int32)), .val (.long ((qi.toInt64) + (1 : Int64))), .second, .val (.int (if (qi.toInt64 + 1) ≤ pl ∧ ci.toInt64 ≤ cl then (1 : Int32) else 0)), .val (.int (1 : Int32))] [(.ref b)])) rfl (by rw [hml]; rfl) (Steps.refl _) (argsL := []) (rest := []) (lenOf (by decide +kernel : parseMethodDescriptor "()J" = some ⟨[], some .long⟩) rfl) rfl (by show 2 * 0 + _ ≤ _; exact Nat.le_of_eq rfl) (hb hby at_261) (fun _ _ => ⟨rfl, E19, (by dsimp only [Pt.cells]; decide), (by dsimp only [Pt.slots]; decide)⟩)
      dsimp only [Pt.U, Pt.locs, Pt.cells, Pt.slots] at X20 l20 y20 z20 st20 hQ20
      subst l20 y20 z20
      obtain ⟨rfl, N20q, E20⟩ := hQ20
      have N20 := Fr.app N19 N20q
      refine own_go st20 ?_
      show OwnG _ _ _ _ _ _ _ (T20.setTop (mkF m 264 #[.val (.long pl), .second, .val (.long cl), .second, .val (.int k), .val (.int ci), .val (.int qi), .val (.ref b), .val (.int (1 : Int32)), .val (.long ((qi.toInt64) + (1 : Int64))), .second, .val (.int (if (qi.toInt64 + 1) ≤ pl ∧ ci.toInt64 ≤ cl then (1 : Int32) else 0)), .val (.int (1 : Int32))] [(.long ci.toInt64)]))
      refine own_st (fun _ kk => XS.iload X20.here hx rfl (hb hby at_264) rfl kk) ?_
      show OwnG _ _ _ _ _ _ _ (T20.setTop (mkF m 266 #[.val (.long pl), .second, .val (.long cl), .second, .val (.int k), .val (.int ci), .val (.int qi), .val (.ref b), .val (.int (1 : Int32)), .val (.long ((qi.toInt64) + (1 : Int64))), .second, .val (.int (if (qi.toInt64 + 1) ≤ pl ∧ ci.toInt64 ≤ cl then (1 : Int32) else 0)), .val (.int (1 : Int32))] [(.int ci), (.long ci.toInt64)]))
      refine own_st (fun _ kk => XS.i2l X20.here hx rfl (hb hby at_266) rfl kk) ?_
      show OwnG _ _ _ _ _ _ _ (T20.setTop (mkF m 267 #[.val (.long pl), .second, .val (.long cl), .second, .val (.int k), .val (.int ci), .val (.int qi), .val (.ref b), .val (.int (1 : Int32)), .val (.long ((qi.toInt64) + (1 : Int64))), .second, .val (.int (if (qi.toInt64 + 1) ≤ pl ∧ ci.toInt64 ≤ cl then (1 : Int32) else 0)), .val (.int (1 : Int32))] [(.long (ci.toInt64)), (.long ci.toInt64)]))
      refine own_st (fun _ kk => XS.lcmp X20.here hx rfl (hb hby at_267) rfl kk) ?_
      show OwnG _ _ _ _ _ _ _ (T20.setTop (mkF m 268 #[.val (.long pl), .second, .val (.long cl), .second, .val (.int k), .val (.int ci), .val (.int qi), .val (.ref b), .val (.int (1 : Int32)), .val (.long ((qi.toInt64) + (1 : Int64))), .second, .val (.int (if (qi.toInt64 + 1) ≤ pl ∧ ci.toInt64 ≤ cl then (1 : Int32) else 0)), .val (.int (1 : Int32))] [(.int (lcmpW ci.toInt64 (ci.toInt64)))]))
      refine own_st (fun _ kk => XS.ifNo X20.here hx rfl (hb hby at_268) rfl ((if0 _ _).trans (teq ((lw_eq _ _).mpr rfl)).2) kk) ?_
      show OwnG _ _ _ _ _ _ _ (T20.setTop (mkF m 271 #[.val (.long pl), .second, .val (.long cl), .second, .val (.int k), .val (.int ci), .val (.int qi), .val (.ref b), .val (.int (1 : Int32)), .val (.long ((qi.toInt64) + (1 : Int64))), .second, .val (.int (if (qi.toInt64 + 1) ≤ pl ∧ ci.toInt64 ≤ cl then (1 : Int32) else 0)), .val (.int (1 : Int32))] []))
      refine own_st (fun _ kk => XS.iconst X20.here hx rfl (hb hby at_271) kk) ?_
      show OwnG _ _ _ _ _ _ _ (T20.setTop (mkF m 272 #[.val (.long pl), .second, .val (.long cl), .second, .val (.int k), .val (.int ci), .val (.int qi), .val (.ref b), .val (.int (1 : Int32)), .val (.long ((qi.toInt64) + (1 : Int64))), .second, .val (.int (if (qi.toInt64 + 1) ≤ pl ∧ ci.toInt64 ≤ cl then (1 : Int32) else 0)), .val (.int (1 : Int32))] [(.int (1 : Int32))]))
      refine own_st (fun _ kk => XS.goto X20.here hx rfl (pc0 := 272) (pc' := 276) rfl (hb hby at_272) (by decide) (by decide) kk) ?_
      show OwnG _ _ _ _ _ _ _ (T20.setTop (mkF m 276 #[.val (.long pl), .second, .val (.long cl), .second, .val (.int k), .val (.int ci), .val (.int qi), .val (.ref b), .val (.int (1 : Int32)), .val (.long ((qi.toInt64) + (1 : Int64))), .second, .val (.int (if (qi.toInt64 + 1) ≤ pl ∧ ci.toInt64 ≤ cl then (1 : Int32) else 0)), .val (.int (1 : Int32))] [(.int (1 : Int32))]))
      exact own_retN X20 hx hrt hlk (t := .boolean) (by simp) (hb hby at_276) (by decide) (by decide) (by show _ ∧ _; exact ⟨rfl, N20⟩)
set_option maxRecDepth 65536 in
set_option maxHeartbeats 40000000 in
theorem own_b153 {p : Program} {l : Launch} {e : Env} {s : State} {m : MethodId} {args : Array Value} {below : List Frame} {meth : Method} {c : Code} {Z : State} {a0 : Array Value} (hx : p.tables.exec = Jvm.exec) (hZ : Z.Warmed39 s.vm) (hw : ∀ d ∈ tables_1, d.before a0 Z = true) (hby : c.code = code) (hml : c.maxLocals = 13) (hown : s.vm.findClass "com/example/reasoning_service_planner/reasoningserviceplanner/SolverBudgetPropagatePinLaw" = some m.cls) (hrt : meth.sig.returnType = ret) (hlk : meth.locks = false) (pl cl : Int64) (k ci qi : Int32) (hci : ci = 0 ∨ ci = 1 ∨ ci = 2 ∨ ci = 3) (hqi : qi = 0 ∨ qi = 1 ∨ qi = 2 ∨ qi = 3) (b : Addr) (n0 : Nat) (gb : n0 ≤ b) {hs0 : Heap} {T0 : State} {h0 : Heap} {locs : List Loc} (X0 : Stand p l e room_1 s m args below meth c T0 locs 1 4) (e0 : T0.heap = h0) (N0 : Fr n0 locs) (Z0 : n0 ≤ h0.size) (B0 : Bud Z h0 b pl cl (if qi < 3 then qi.toInt64 else 2) ci.toInt64) : OwnG 1 4 (Q0 Z pl cl k hs0 n0) p e below s (T0.setTop (mkF m 153 #[.val (.long pl), .second, .val (.long cl), .second, .val (.int k), .val (.int ci), .val (.int qi), .val (.ref b), .val (.int (1 : Int32)), .unset, .unset, .unset, .unset] [])) := by
  refine own_st (fun _ kk => XS.iload X0.here hx rfl (hb hby at_153) rfl kk) ?_
  show OwnG _ _ _ _ _ _ _ (T0.setTop (mkF m 155 #[.val (.long pl), .second, .val (.long cl), .second, .val (.int k), .val (.int ci), .val (.int qi), .val (.ref b), .val (.int (1 : Int32)), .unset, .unset, .unset, .unset] [(.int qi)]))
  refine own_st (fun _ kk => XS.iconst X0.here hx rfl (hb hby at_155) kk) ?_
  show OwnG _ _ _ _ _ _ _ (T0.setTop (mkF m 156 #[.val (.long pl), .second, .val (.long cl), .second, .val (.int k), .val (.int ci), .val (.int qi), .val (.ref b), .val (.int (1 : Int32)), .unset, .unset, .unset, .unset] [(.int (3 : Int32)), (.int qi)]))
  by_cases hq3 : qi < (3 : Int32)
  · have hu := own_up qi hqi
    rw [hu.2.2.2.2.2.2 hq3] at B0
    refine own_st (fun _ kk => XS.icmpYes X0.here hx rfl (pc0 := 156) (pc' := 200) rfl (hb hby at_156) rfl (tlt hq3).1 (by decide) (by decide) kk) ?_
    show OwnG _ _ _ _ _ _ _ (T0.setTop (mkF m 200 #[.val (.long pl), .second, .val (.long cl), .second, .val (.int k), .val (.int ci), .val (.int qi), .val (.ref b), .val (.int (1 : Int32)), .unset, .unset, .unset, .unset] []))
    exact own_b200 hx hZ hw hby hml hown hrt hlk pl cl k ci qi hci hqi b n0 gb X0 e0 N0 Z0 B0
  · have hu := own_up qi hqi
    rw [if_neg hq3] at B0
    refine own_st (fun _ kk => XS.icmpNo X0.here hx rfl (hb hby at_156) rfl (flt hq3).1 kk) ?_
    show OwnG _ _ _ _ _ _ _ (T0.setTop (mkF m 159 #[.val (.long pl), .second, .val (.long cl), .second, .val (.int k), .val (.int ci), .val (.int qi), .val (.ref b), .val (.int (1 : Int32)), .unset, .unset, .unset, .unset] []))
    refine own_st (fun _ kk => XS.iload X0.here hx rfl (hb hby at_159) rfl kk) ?_
    show OwnG _ _ _ _ _ _ _ (T0.setTop (mkF m 161 #[.val (.long pl), .second, .val (.long cl), .second, .val (.int k), .val (.int ci), .val (.int qi), .val (.ref b), .val (.int (1 : Int32)), .unset, .unset, .unset, .unset] [(.int (1 : Int32))]))
    refine own_st (fun _ kk => XS.ifNo X0.here hx rfl (hb hby at_161) rfl ((if0 _ _).trans (feq (by decide : ¬ ((1 : Int32) = (0 : Int32)))).1) kk) ?_
    show OwnG _ _ _ _ _ _ _ (T0.setTop (mkF m 164 #[.val (.long pl), .second, .val (.long cl), .second, .val (.int k), .val (.int ci), .val (.int qi), .val (.ref b), .val (.int (1 : Int32)), .unset, .unset, .unset, .unset] []))
    refine own_st (fun _ kk => XS.aload X0.here hx rfl (hb hby at_164) rfl rfl kk) ?_
    show OwnG _ _ _ _ _ _ _ (T0.setTop (mkF m 166 #[.val (.long pl), .second, .val (.long cl), .second, .val (.int k), .val (.int ci), .val (.int qi), .val (.ref b), .val (.int (1 : Int32)), .unset, .unset, .unset, .unset] [(.ref b)]))
    obtain ⟨cq21, kq21, q21a, q21b, q21c⟩ := isOf hZ e0 B0.1
    obtain ⟨_, _, ⟨T21, L21, k21, n21⟩, -, X21, ⟨Lc21, hQ21, l21, y21, z21⟩, st21⟩ := X0.virtualBack hx (y := (⟨"com/example/reasoning_service_planner/reasoningserviceplanner/SolverBudget", "propagate", "()Z"⟩ : MethodName)) (z := (⟨"com/example/reasoning_service_planner/reasoningserviceplanner/SolverBudget", "propagate", "()Z"⟩ : MethodName)) hown (mvT hZ (hw _ (List.mem_of_getElem? (i := 13) rfl))) (mvT hZ (hw _ (List.mem_of_getElem? (i := 14) rfl))) (notFace_of_selects (args := #[]) (mvT hZ (hw _ (List.mem_of_getElem? (i := 16) rfl)))) (mvT hZ (hw _ (List.mem_of_getElem? (i := 16) rfl))) (mvT hZ (hw _ (List.mem_of_getElem? (i := 15) rfl))) (by decide) (backOf (W := 0) (rm3 l Z a0 hw [] b pl cl 2 ci.toInt64 3 h0 n0 Z0 (by decide) B0 gb) hZ (hw _ (List.mem_of_getElem? (i := 17) rfl)) (hw _ (List.mem_of_getElem? (i := 2) rfl)) (by decide) (by decide)) q21a q21c (g := (mkF m 166 #[.val (.long pl), .second, .val (.long cl), .second, .val (.int k), .val (.int ci), .val (.int qi), .val (.ref b), .val (.int (1 : Int32)), .unset, .unset, .unset, .unset] [(.ref b)])) rfl (by rw [hml]; rfl) (Steps.refl _) (argsL := []) (rest := []) (lenOf (by decide +kernel : parseMethodDescriptor "()Z" = some ⟨[], some .boolean⟩) rfl) rfl (by show 2 * 0 + _ ≤ _; exact Nat.le_of_eq rfl) (hb hby at_166) (fun _ _ => ⟨rfl, e0, (by dsimp only [Pt.cells]; decide), (by dsimp only [Pt.slots]; decide)⟩)
    dsimp only [Pt.U, Pt.locs, Pt.cells, Pt.slots] at X21 l21 y21 z21 st21 hQ21
    subst l21 y21 z21
    obtain ⟨rfl, N21q, Z21, B21⟩ := hQ21
    have N21 := Fr.app N0 N21q
    refine own_go st21 ?_
    show OwnG _ _ _ _ _ _ _ (T21.setTop (mkF m 169 #[.val (.long pl), .second, .val (.long cl), .second, .val (.int k), .val (.int ci), .val (.int qi), .val (.ref b), .val (.int (1 : Int32)), .unset, .unset, .unset, .unset] [(.int (if (3 : Int64) ≤ pl ∧ ci.toInt64 ≤ cl then (1 : Int32) else 0))]))
    rw [hu.2.2.1 hq3] at B21
    refine own_st (X21.ldc2Long hx hown (mvT hZ (hw _ (List.mem_of_getElem? (i := 38) rfl))) (g := (mkF m 169 #[.val (.long pl), .second, .val (.long cl), .second, .val (.int k), .val (.int ci), .val (.int qi), .val (.ref b), .val (.int (1 : Int32)), .unset, .unset, .unset, .unset] [(.int (if (3 : Int64) ≤ pl ∧ ci.toInt64 ≤ cl then (1 : Int32) else 0))])) rfl (hb hby at_169)) ?_
    show OwnG _ _ _ _ _ _ _ (T21.setTop (mkF m 172 #[.val (.long pl), .second, .val (.long cl), .second, .val (.int k), .val (.int ci), .val (.int qi), .val (.ref b), .val (.int (1 : Int32)), .unset, .unset, .unset, .unset] [(.long (3 : Int64)), (.int (if (3 : Int64) ≤ pl ∧ ci.toInt64 ≤ cl then (1 : Int32) else 0))]))
    refine own_st (fun _ kk => XS.lloadN X21.here hx rfl (hb hby at_172) rfl kk) ?_
    show OwnG _ _ _ _ _ _ _ (T21.setTop (mkF m 173 #[.val (.long pl), .second, .val (.long cl), .second, .val (.int k), .val (.int ci), .val (.int qi), .val (.ref b), .val (.int (1 : Int32)), .unset, .unset, .unset, .unset] [(.long pl), (.long (3 : Int64)), (.int (if (3 : Int64) ≤ pl ∧ ci.toInt64 ≤ cl then (1 : Int32) else 0))]))
    refine own_st (fun _ kk => XS.lcmp X21.here hx rfl (hb hby at_173) rfl kk) ?_
    show OwnG _ _ _ _ _ _ _ (T21.setTop (mkF m 174 #[.val (.long pl), .second, .val (.long cl), .second, .val (.int k), .val (.int ci), .val (.int qi), .val (.ref b), .val (.int (1 : Int32)), .unset, .unset, .unset, .unset] [(.int (lcmpW (3 : Int64) pl)), (.int (if (3 : Int64) ≤ pl ∧ ci.toInt64 ≤ cl then (1 : Int32) else 0))]))
    by_cases hA174 : (0 : Int32) < (lcmpW (3 : Int64) pl)
    · skip
      refine own_st (fun _ kk => XS.ifYes X21.here hx rfl (pc0 := 174) (pc' := 189) rfl (hb hby at_174) rfl ((if0 _ _).trans (tlt hA174).2.2.1) (by decide) (by decide) kk) ?_
      show OwnG _ _ _ _ _ _ _ (T21.setTop (mkF m 189 #[.val (.long pl), .second, .val (.long cl), .second, .val (.int k), .val (.int ci), .val (.int qi), .val (.ref b), .val (.int (1 : Int32)), .unset, .unset, .unset, .unset] [(.int (if (3 : Int64) ≤ pl ∧ ci.toInt64 ≤ cl then (1 : Int32) else 0))]))
      refine own_st (fun _ kk => XS.iconst X21.here hx rfl (hb hby at_189) kk) ?_
      show OwnG _ _ _ _ _ _ _ (T21.setTop (mkF m 190 #[.val (.long pl), .second, .val (.long cl), .second, .val (.int k), .val (.int ci), .val (.int qi), .val (.ref b), .val (.int (1 : Int32)), .unset, .unset, .unset, .unset] [(.int (0 : Int32)), (.int (if (3 : Int64) ≤ pl ∧ ci.toInt64 ≤ cl then (1 : Int32) else 0))]))
      refine own_st (fun _ kk => XS.icmpNo X21.here hx rfl (hb hby at_190) rfl (teq (if_neg fun q => absurd ((lw_gt _ _).mp hA174) (Int64.not_lt.mpr q.1))).2 kk) ?_
      show OwnG _ _ _ _ _ _ _ (T21.setTop (mkF m 193 #[.val (.long pl), .second, .val (.long cl), .second, .val (.int k), .val (.int ci), .val (.int qi), .val (.ref b), .val (.int (1 : Int32)), .unset, .unset, .unset, .unset] []))
      refine own_st (fun _ kk => XS.iconst X21.here hx rfl (hb hby at_193) kk) ?_
      show OwnG _ _ _ _ _ _ _ (T21.setTop (mkF m 194 #[.val (.long pl), .second, .val (.long cl), .second, .val (.int k), .val (.int ci), .val (.int qi), .val (.ref b), .val (.int (1 : Int32)), .unset, .unset, .unset, .unset] [(.int (1 : Int32))]))
      refine own_st (fun _ kk => XS.goto X21.here hx rfl (pc0 := 194) (pc' := 198) rfl (hb hby at_194) (by decide) (by decide) kk) ?_
      show OwnG _ _ _ _ _ _ _ (T21.setTop (mkF m 198 #[.val (.long pl), .second, .val (.long cl), .second, .val (.int k), .val (.int ci), .val (.int qi), .val (.ref b), .val (.int (1 : Int32)), .unset, .unset, .unset, .unset] [(.int (1 : Int32))]))
      refine own_st (fun _ kk => XS.istore X21.here hx rfl (hb hby at_198) rfl (l' := #[.val (.long pl), .second, .val (.long cl), .second, .val (.int k), .val (.int ci), .val (.int qi), .val (.ref b), .val (.int (1 : Int32)), .unset, .unset, .unset, .unset]) rfl kk) ?_
      show OwnG _ _ _ _ _ _ _ (T21.setTop (mkF m 200 #[.val (.long pl), .second, .val (.long cl), .second, .val (.int k), .val (.int ci), .val (.int qi), .val (.ref b), .val (.int (1 : Int32)), .unset, .unset, .unset, .unset] []))
      exact own_b200 hx hZ hw hby hml hown hrt hlk pl cl k ci qi hci hqi b n0 gb X21 rfl N21 Z21 B21
    · skip
      refine own_st (fun _ kk => XS.ifNo X21.here hx rfl (hb hby at_174) rfl ((if0 _ _).trans (flt hA174).2.2.1) kk) ?_
      show OwnG _ _ _ _ _ _ _ (T21.setTop (mkF m 177 #[.val (.long pl), .second, .val (.long cl), .second, .val (.int k), .val (.int ci), .val (.int qi), .val (.ref b), .val (.int (1 : Int32)), .unset, .unset, .unset, .unset] [(.int (if (3 : Int64) ≤ pl ∧ ci.toInt64 ≤ cl then (1 : Int32) else 0))]))
      refine own_st (fun _ kk => XS.iload X21.here hx rfl (hb hby at_177) rfl kk) ?_
      show OwnG _ _ _ _ _ _ _ (T21.setTop (mkF m 179 #[.val (.long pl), .second, .val (.long cl), .second, .val (.int k), .val (.int ci), .val (.int qi), .val (.ref b), .val (.int (1 : Int32)), .unset, .unset, .unset, .unset] [(.int ci), (.int (if (3 : Int64) ≤ pl ∧ ci.toInt64 ≤ cl then (1 : Int32) else 0))]))
      refine own_st (fun _ kk => XS.i2l X21.here hx rfl (hb hby at_179) rfl kk) ?_
      show OwnG _ _ _ _ _ _ _ (T21.setTop (mkF m 180 #[.val (.long pl), .second, .val (.long cl), .second, .val (.int k), .val (.int ci), .val (.int qi), .val (.ref b), .val (.int (1 : Int32)), .unset, .unset, .unset, .unset] [(.long (ci.toInt64)), (.int (if (3 : Int64) ≤ pl ∧ ci.toInt64 ≤ cl then (1 : Int32) else 0))]))
      refine own_st (fun _ kk => XS.lloadN X21.here hx rfl (hb hby at_180) rfl kk) ?_
      show OwnG _ _ _ _ _ _ _ (T21.setTop (mkF m 181 #[.val (.long pl), .second, .val (.long cl), .second, .val (.int k), .val (.int ci), .val (.int qi), .val (.ref b), .val (.int (1 : Int32)), .unset, .unset, .unset, .unset] [(.long cl), (.long (ci.toInt64)), (.int (if (3 : Int64) ≤ pl ∧ ci.toInt64 ≤ cl then (1 : Int32) else 0))]))
      refine own_st (fun _ kk => XS.lcmp X21.here hx rfl (hb hby at_181) rfl kk) ?_
      show OwnG _ _ _ _ _ _ _ (T21.setTop (mkF m 182 #[.val (.long pl), .second, .val (.long cl), .second, .val (.int k), .val (.int ci), .val (.int qi), .val (.ref b), .val (.int (1 : Int32)), .unset, .unset, .unset, .unset] [(.int (lcmpW (ci.toInt64) cl)), (.int (if (3 : Int64) ≤ pl ∧ ci.toInt64 ≤ cl then (1 : Int32) else 0))]))
      by_cases hB174 : (0 : Int32) < (lcmpW (ci.toInt64) cl)
      · skip
        refine own_st (fun _ kk => XS.ifYes X21.here hx rfl (pc0 := 182) (pc' := 189) rfl (hb hby at_182) rfl ((if0 _ _).trans (tlt hB174).2.2.1) (by decide) (by decide) kk) ?_
        show OwnG _ _ _ _ _ _ _ (T21.setTop (mkF m 189 #[.val (.long pl), .second, .val (.long cl), .second, .val (.int k), .val (.int ci), .val (.int qi), .val (.ref b), .val (.int (1 : Int32)), .unset, .unset, .unset, .unset] [(.int (if (3 : Int64) ≤ pl ∧ ci.toInt64 ≤ cl then (1 : Int32) else 0))]))
        refine own_st (fun _ kk => XS.iconst X21.here hx rfl (hb hby at_189) kk) ?_
        show OwnG _ _ _ _ _ _ _ (T21.setTop (mkF m 190 #[.val (.long pl), .second, .val (.long cl), .second, .val (.int k), .val (.int ci), .val (.int qi), .val (.ref b), .val (.int (1 : Int32)), .unset, .unset, .unset, .unset] [(.int (0 : Int32)), (.int (if (3 : Int64) ≤ pl ∧ ci.toInt64 ≤ cl then (1 : Int32) else 0))]))
        refine own_st (fun _ kk => XS.icmpNo X21.here hx rfl (hb hby at_190) rfl (teq (if_neg fun q => absurd ((lw_gt _ _).mp hB174) (Int64.not_lt.mpr q.2))).2 kk) ?_
        show OwnG _ _ _ _ _ _ _ (T21.setTop (mkF m 193 #[.val (.long pl), .second, .val (.long cl), .second, .val (.int k), .val (.int ci), .val (.int qi), .val (.ref b), .val (.int (1 : Int32)), .unset, .unset, .unset, .unset] []))
        refine own_st (fun _ kk => XS.iconst X21.here hx rfl (hb hby at_193) kk) ?_
        show OwnG _ _ _ _ _ _ _ (T21.setTop (mkF m 194 #[.val (.long pl), .second, .val (.long cl), .second, .val (.int k), .val (.int ci), .val (.int qi), .val (.ref b), .val (.int (1 : Int32)), .unset, .unset, .unset, .unset] [(.int (1 : Int32))]))
        refine own_st (fun _ kk => XS.goto X21.here hx rfl (pc0 := 194) (pc' := 198) rfl (hb hby at_194) (by decide) (by decide) kk) ?_
        show OwnG _ _ _ _ _ _ _ (T21.setTop (mkF m 198 #[.val (.long pl), .second, .val (.long cl), .second, .val (.int k), .val (.int ci), .val (.int qi), .val (.ref b), .val (.int (1 : Int32)), .unset, .unset, .unset, .unset] [(.int (1 : Int32))]))
        refine own_st (fun _ kk => XS.istore X21.here hx rfl (hb hby at_198) rfl (l' := #[.val (.long pl), .second, .val (.long cl), .second, .val (.int k), .val (.int ci), .val (.int qi), .val (.ref b), .val (.int (1 : Int32)), .unset, .unset, .unset, .unset]) rfl kk) ?_
        show OwnG _ _ _ _ _ _ _ (T21.setTop (mkF m 200 #[.val (.long pl), .second, .val (.long cl), .second, .val (.int k), .val (.int ci), .val (.int qi), .val (.ref b), .val (.int (1 : Int32)), .unset, .unset, .unset, .unset] []))
        exact own_b200 hx hZ hw hby hml hown hrt hlk pl cl k ci qi hci hqi b n0 gb X21 rfl N21 Z21 B21
      · skip
        refine own_st (fun _ kk => XS.ifNo X21.here hx rfl (hb hby at_182) rfl ((if0 _ _).trans (flt hB174).2.2.1) kk) ?_
        show OwnG _ _ _ _ _ _ _ (T21.setTop (mkF m 185 #[.val (.long pl), .second, .val (.long cl), .second, .val (.int k), .val (.int ci), .val (.int qi), .val (.ref b), .val (.int (1 : Int32)), .unset, .unset, .unset, .unset] [(.int (if (3 : Int64) ≤ pl ∧ ci.toInt64 ≤ cl then (1 : Int32) else 0))]))
        refine own_st (fun _ kk => XS.iconst X21.here hx rfl (hb hby at_185) kk) ?_
        show OwnG _ _ _ _ _ _ _ (T21.setTop (mkF m 186 #[.val (.long pl), .second, .val (.long cl), .second, .val (.int k), .val (.int ci), .val (.int qi), .val (.ref b), .val (.int (1 : Int32)), .unset, .unset, .unset, .unset] [(.int (1 : Int32)), (.int (if (3 : Int64) ≤ pl ∧ ci.toInt64 ≤ cl then (1 : Int32) else 0))]))
        refine own_st (fun _ kk => XS.goto X21.here hx rfl (pc0 := 186) (pc' := 190) rfl (hb hby at_186) (by decide) (by decide) kk) ?_
        show OwnG _ _ _ _ _ _ _ (T21.setTop (mkF m 190 #[.val (.long pl), .second, .val (.long cl), .second, .val (.int k), .val (.int ci), .val (.int qi), .val (.ref b), .val (.int (1 : Int32)), .unset, .unset, .unset, .unset] [(.int (1 : Int32)), (.int (if (3 : Int64) ≤ pl ∧ ci.toInt64 ≤ cl then (1 : Int32) else 0))]))
        refine own_st (fun _ kk => XS.icmpNo X21.here hx rfl (hb hby at_190) rfl (teq (if_pos ⟨Int64.not_lt.mp fun q => hA174 ((lw_gt _ _).mpr q), Int64.not_lt.mp fun q => hB174 ((lw_gt _ _).mpr q)⟩)).2 kk) ?_
        show OwnG _ _ _ _ _ _ _ (T21.setTop (mkF m 193 #[.val (.long pl), .second, .val (.long cl), .second, .val (.int k), .val (.int ci), .val (.int qi), .val (.ref b), .val (.int (1 : Int32)), .unset, .unset, .unset, .unset] []))
        refine own_st (fun _ kk => XS.iconst X21.here hx rfl (hb hby at_193) kk) ?_
        show OwnG _ _ _ _ _ _ _ (T21.setTop (mkF m 194 #[.val (.long pl), .second, .val (.long cl), .second, .val (.int k), .val (.int ci), .val (.int qi), .val (.ref b), .val (.int (1 : Int32)), .unset, .unset, .unset, .unset] [(.int (1 : Int32))]))
        refine own_st (fun _ kk => XS.goto X21.here hx rfl (pc0 := 194) (pc' := 198) rfl (hb hby at_194) (by decide) (by decide) kk) ?_
        show OwnG _ _ _ _ _ _ _ (T21.setTop (mkF m 198 #[.val (.long pl), .second, .val (.long cl), .second, .val (.int k), .val (.int ci), .val (.int qi), .val (.ref b), .val (.int (1 : Int32)), .unset, .unset, .unset, .unset] [(.int (1 : Int32))]))
        refine own_st (fun _ kk => XS.istore X21.here hx rfl (hb hby at_198) rfl (l' := #[.val (.long pl), .second, .val (.long cl), .second, .val (.int k), .val (.int ci), .val (.int qi), .val (.ref b), .val (.int (1 : Int32)), .unset, .unset, .unset, .unset]) rfl kk) ?_
        show OwnG _ _ _ _ _ _ _ (T21.setTop (mkF m 200 #[.val (.long pl), .second, .val (.long cl), .second, .val (.int k), .val (.int ci), .val (.int qi), .val (.ref b), .val (.int (1 : Int32)), .unset, .unset, .unset, .unset] []))
        exact own_b200 hx hZ hw hby hml hown hrt hlk pl cl k ci qi hci hqi b n0 gb X21 rfl N21 Z21 B21
set_option maxRecDepth 65536 in
set_option maxHeartbeats 40000000 in
theorem own_b106 {p : Program} {l : Launch} {e : Env} {s : State} {m : MethodId} {args : Array Value} {below : List Frame} {meth : Method} {c : Code} {Z : State} {a0 : Array Value} (hx : p.tables.exec = Jvm.exec) (hZ : Z.Warmed39 s.vm) (hw : ∀ d ∈ tables_1, d.before a0 Z = true) (hby : c.code = code) (hml : c.maxLocals = 13) (hown : s.vm.findClass "com/example/reasoning_service_planner/reasoningserviceplanner/SolverBudgetPropagatePinLaw" = some m.cls) (hrt : meth.sig.returnType = ret) (hlk : meth.locks = false) (pl cl : Int64) (k ci qi : Int32) (hci : ci = 0 ∨ ci = 1 ∨ ci = 2 ∨ ci = 3) (hqi : qi = 0 ∨ qi = 1 ∨ qi = 2 ∨ qi = 3) (b : Addr) (n0 : Nat) (gb : n0 ≤ b) {hs0 : Heap} {T0 : State} {h0 : Heap} {locs : List Loc} (X0 : Stand p l e room_1 s m args below meth c T0 locs 1 4) (e0 : T0.heap = h0) (N0 : Fr n0 locs) (Z0 : n0 ≤ h0.size) (B0 : Bud Z h0 b pl cl (if qi < 2 then qi.toInt64 else 1) ci.toInt64) : OwnG 1 4 (Q0 Z pl cl k hs0 n0) p e below s (T0.setTop (mkF m 106 #[.val (.long pl), .second, .val (.long cl), .second, .val (.int k), .val (.int ci), .val (.int qi), .val (.ref b), .val (.int (1 : Int32)), .unset, .unset, .unset, .unset] [])) := by
  refine own_st (fun _ kk => XS.iload X0.here hx rfl (hb hby at_106) rfl kk) ?_
  show OwnG _ _ _ _ _ _ _ (T0.setTop (mkF m 108 #[.val (.long pl), .second, .val (.long cl), .second, .val (.int k), .val (.int ci), .val (.int qi), .val (.ref b), .val (.int (1 : Int32)), .unset, .unset, .unset, .unset] [(.int qi)]))
  refine own_st (fun _ kk => XS.iconst X0.here hx rfl (hb hby at_108) kk) ?_
  show OwnG _ _ _ _ _ _ _ (T0.setTop (mkF m 109 #[.val (.long pl), .second, .val (.long cl), .second, .val (.int k), .val (.int ci), .val (.int qi), .val (.ref b), .val (.int (1 : Int32)), .unset, .unset, .unset, .unset] [(.int (2 : Int32)), (.int qi)]))
  by_cases hq2 : qi < (2 : Int32)
  · have hu := own_up qi hqi
    rw [hu.2.2.2.2.2.1 hq2] at B0
    refine own_st (fun _ kk => XS.icmpYes X0.here hx rfl (pc0 := 109) (pc' := 153) rfl (hb hby at_109) rfl (tlt hq2).1 (by decide) (by decide) kk) ?_
    show OwnG _ _ _ _ _ _ _ (T0.setTop (mkF m 153 #[.val (.long pl), .second, .val (.long cl), .second, .val (.int k), .val (.int ci), .val (.int qi), .val (.ref b), .val (.int (1 : Int32)), .unset, .unset, .unset, .unset] []))
    exact own_b153 hx hZ hw hby hml hown hrt hlk pl cl k ci qi hci hqi b n0 gb X0 e0 N0 Z0 B0
  · have hu := own_up qi hqi
    rw [if_neg hq2] at B0
    refine own_st (fun _ kk => XS.icmpNo X0.here hx rfl (hb hby at_109) rfl (flt hq2).1 kk) ?_
    show OwnG _ _ _ _ _ _ _ (T0.setTop (mkF m 112 #[.val (.long pl), .second, .val (.long cl), .second, .val (.int k), .val (.int ci), .val (.int qi), .val (.ref b), .val (.int (1 : Int32)), .unset, .unset, .unset, .unset] []))
    refine own_st (fun _ kk => XS.iload X0.here hx rfl (hb hby at_112) rfl kk) ?_
    show OwnG _ _ _ _ _ _ _ (T0.setTop (mkF m 114 #[.val (.long pl), .second, .val (.long cl), .second, .val (.int k), .val (.int ci), .val (.int qi), .val (.ref b), .val (.int (1 : Int32)), .unset, .unset, .unset, .unset] [(.int (1 : Int32))]))
    refine own_st (fun _ kk => XS.ifNo X0.here hx rfl (hb hby at_114) rfl ((if0 _ _).trans (feq (by decide : ¬ ((1 : Int32) = (0 : Int32)))).1) kk) ?_
    show OwnG _ _ _ _ _ _ _ (T0.setTop (mkF m 117 #[.val (.long pl), .second, .val (.long cl), .second, .val (.int k), .val (.int ci), .val (.int qi), .val (.ref b), .val (.int (1 : Int32)), .unset, .unset, .unset, .unset] []))
    refine own_st (fun _ kk => XS.aload X0.here hx rfl (hb hby at_117) rfl rfl kk) ?_
    show OwnG _ _ _ _ _ _ _ (T0.setTop (mkF m 119 #[.val (.long pl), .second, .val (.long cl), .second, .val (.int k), .val (.int ci), .val (.int qi), .val (.ref b), .val (.int (1 : Int32)), .unset, .unset, .unset, .unset] [(.ref b)]))
    obtain ⟨cq22, kq22, q22a, q22b, q22c⟩ := isOf hZ e0 B0.1
    obtain ⟨_, _, ⟨T22, L22, k22, n22⟩, -, X22, ⟨Lc22, hQ22, l22, y22, z22⟩, st22⟩ := X0.virtualBack hx (y := (⟨"com/example/reasoning_service_planner/reasoningserviceplanner/SolverBudget", "propagate", "()Z"⟩ : MethodName)) (z := (⟨"com/example/reasoning_service_planner/reasoningserviceplanner/SolverBudget", "propagate", "()Z"⟩ : MethodName)) hown (mvT hZ (hw _ (List.mem_of_getElem? (i := 13) rfl))) (mvT hZ (hw _ (List.mem_of_getElem? (i := 14) rfl))) (notFace_of_selects (args := #[]) (mvT hZ (hw _ (List.mem_of_getElem? (i := 16) rfl)))) (mvT hZ (hw _ (List.mem_of_getElem? (i := 16) rfl))) (mvT hZ (hw _ (List.mem_of_getElem? (i := 15) rfl))) (by decide) (backOf (W := 0) (rm3 l Z a0 hw [] b pl cl 1 ci.toInt64 2 h0 n0 Z0 (by decide) B0 gb) hZ (hw _ (List.mem_of_getElem? (i := 17) rfl)) (hw _ (List.mem_of_getElem? (i := 2) rfl)) (by decide) (by decide)) q22a q22c (g := (mkF m 119 #[.val (.long pl), .second, .val (.long cl), .second, .val (.int k), .val (.int ci), .val (.int qi), .val (.ref b), .val (.int (1 : Int32)), .unset, .unset, .unset, .unset] [(.ref b)])) rfl (by rw [hml]; rfl) (Steps.refl _) (argsL := []) (rest := []) (lenOf (by decide +kernel : parseMethodDescriptor "()Z" = some ⟨[], some .boolean⟩) rfl) rfl (by show 2 * 0 + _ ≤ _; exact Nat.le_of_eq rfl) (hb hby at_119) (fun _ _ => ⟨rfl, e0, (by dsimp only [Pt.cells]; decide), (by dsimp only [Pt.slots]; decide)⟩)
    dsimp only [Pt.U, Pt.locs, Pt.cells, Pt.slots] at X22 l22 y22 z22 st22 hQ22
    subst l22 y22 z22
    obtain ⟨rfl, N22q, Z22, B22⟩ := hQ22
    have N22 := Fr.app N0 N22q
    refine own_go st22 ?_
    show OwnG _ _ _ _ _ _ _ (T22.setTop (mkF m 122 #[.val (.long pl), .second, .val (.long cl), .second, .val (.int k), .val (.int ci), .val (.int qi), .val (.ref b), .val (.int (1 : Int32)), .unset, .unset, .unset, .unset] [(.int (if (2 : Int64) ≤ pl ∧ ci.toInt64 ≤ cl then (1 : Int32) else 0))]))
    rw [hu.2.1 hq2] at B22
    refine own_st (X22.ldc2Long hx hown (mvT hZ (hw _ (List.mem_of_getElem? (i := 37) rfl))) (g := (mkF m 122 #[.val (.long pl), .second, .val (.long cl), .second, .val (.int k), .val (.int ci), .val (.int qi), .val (.ref b), .val (.int (1 : Int32)), .unset, .unset, .unset, .unset] [(.int (if (2 : Int64) ≤ pl ∧ ci.toInt64 ≤ cl then (1 : Int32) else 0))])) rfl (hb hby at_122)) ?_
    show OwnG _ _ _ _ _ _ _ (T22.setTop (mkF m 125 #[.val (.long pl), .second, .val (.long cl), .second, .val (.int k), .val (.int ci), .val (.int qi), .val (.ref b), .val (.int (1 : Int32)), .unset, .unset, .unset, .unset] [(.long (2 : Int64)), (.int (if (2 : Int64) ≤ pl ∧ ci.toInt64 ≤ cl then (1 : Int32) else 0))]))
    refine own_st (fun _ kk => XS.lloadN X22.here hx rfl (hb hby at_125) rfl kk) ?_
    show OwnG _ _ _ _ _ _ _ (T22.setTop (mkF m 126 #[.val (.long pl), .second, .val (.long cl), .second, .val (.int k), .val (.int ci), .val (.int qi), .val (.ref b), .val (.int (1 : Int32)), .unset, .unset, .unset, .unset] [(.long pl), (.long (2 : Int64)), (.int (if (2 : Int64) ≤ pl ∧ ci.toInt64 ≤ cl then (1 : Int32) else 0))]))
    refine own_st (fun _ kk => XS.lcmp X22.here hx rfl (hb hby at_126) rfl kk) ?_
    show OwnG _ _ _ _ _ _ _ (T22.setTop (mkF m 127 #[.val (.long pl), .second, .val (.long cl), .second, .val (.int k), .val (.int ci), .val (.int qi), .val (.ref b), .val (.int (1 : Int32)), .unset, .unset, .unset, .unset] [(.int (lcmpW (2 : Int64) pl)), (.int (if (2 : Int64) ≤ pl ∧ ci.toInt64 ≤ cl then (1 : Int32) else 0))]))
    by_cases hA127 : (0 : Int32) < (lcmpW (2 : Int64) pl)
    · skip
      refine own_st (fun _ kk => XS.ifYes X22.here hx rfl (pc0 := 127) (pc' := 142) rfl (hb hby at_127) rfl ((if0 _ _).trans (tlt hA127).2.2.1) (by decide) (by decide) kk) ?_
      show OwnG _ _ _ _ _ _ _ (T22.setTop (mkF m 142 #[.val (.long pl), .second, .val (.long cl), .second, .val (.int k), .val (.int ci), .val (.int qi), .val (.ref b), .val (.int (1 : Int32)), .unset, .unset, .unset, .unset] [(.int (if (2 : Int64) ≤ pl ∧ ci.toInt64 ≤ cl then (1 : Int32) else 0))]))
      refine own_st (fun _ kk => XS.iconst X22.here hx rfl (hb hby at_142) kk) ?_
      show OwnG _ _ _ _ _ _ _ (T22.setTop (mkF m 143 #[.val (.long pl), .second, .val (.long cl), .second, .val (.int k), .val (.int ci), .val (.int qi), .val (.ref b), .val (.int (1 : Int32)), .unset, .unset, .unset, .unset] [(.int (0 : Int32)), (.int (if (2 : Int64) ≤ pl ∧ ci.toInt64 ≤ cl then (1 : Int32) else 0))]))
      refine own_st (fun _ kk => XS.icmpNo X22.here hx rfl (hb hby at_143) rfl (teq (if_neg fun q => absurd ((lw_gt _ _).mp hA127) (Int64.not_lt.mpr q.1))).2 kk) ?_
      show OwnG _ _ _ _ _ _ _ (T22.setTop (mkF m 146 #[.val (.long pl), .second, .val (.long cl), .second, .val (.int k), .val (.int ci), .val (.int qi), .val (.ref b), .val (.int (1 : Int32)), .unset, .unset, .unset, .unset] []))
      refine own_st (fun _ kk => XS.iconst X22.here hx rfl (hb hby at_146) kk) ?_
      show OwnG _ _ _ _ _ _ _ (T22.setTop (mkF m 147 #[.val (.long pl), .second, .val (.long cl), .second, .val (.int k), .val (.int ci), .val (.int qi), .val (.ref b), .val (.int (1 : Int32)), .unset, .unset, .unset, .unset] [(.int (1 : Int32))]))
      refine own_st (fun _ kk => XS.goto X22.here hx rfl (pc0 := 147) (pc' := 151) rfl (hb hby at_147) (by decide) (by decide) kk) ?_
      show OwnG _ _ _ _ _ _ _ (T22.setTop (mkF m 151 #[.val (.long pl), .second, .val (.long cl), .second, .val (.int k), .val (.int ci), .val (.int qi), .val (.ref b), .val (.int (1 : Int32)), .unset, .unset, .unset, .unset] [(.int (1 : Int32))]))
      refine own_st (fun _ kk => XS.istore X22.here hx rfl (hb hby at_151) rfl (l' := #[.val (.long pl), .second, .val (.long cl), .second, .val (.int k), .val (.int ci), .val (.int qi), .val (.ref b), .val (.int (1 : Int32)), .unset, .unset, .unset, .unset]) rfl kk) ?_
      show OwnG _ _ _ _ _ _ _ (T22.setTop (mkF m 153 #[.val (.long pl), .second, .val (.long cl), .second, .val (.int k), .val (.int ci), .val (.int qi), .val (.ref b), .val (.int (1 : Int32)), .unset, .unset, .unset, .unset] []))
      exact own_b153 hx hZ hw hby hml hown hrt hlk pl cl k ci qi hci hqi b n0 gb X22 rfl N22 Z22 B22
    · skip
      refine own_st (fun _ kk => XS.ifNo X22.here hx rfl (hb hby at_127) rfl ((if0 _ _).trans (flt hA127).2.2.1) kk) ?_
      show OwnG _ _ _ _ _ _ _ (T22.setTop (mkF m 130 #[.val (.long pl), .second, .val (.long cl), .second, .val (.int k), .val (.int ci), .val (.int qi), .val (.ref b), .val (.int (1 : Int32)), .unset, .unset, .unset, .unset] [(.int (if (2 : Int64) ≤ pl ∧ ci.toInt64 ≤ cl then (1 : Int32) else 0))]))
      refine own_st (fun _ kk => XS.iload X22.here hx rfl (hb hby at_130) rfl kk) ?_
      show OwnG _ _ _ _ _ _ _ (T22.setTop (mkF m 132 #[.val (.long pl), .second, .val (.long cl), .second, .val (.int k), .val (.int ci), .val (.int qi), .val (.ref b), .val (.int (1 : Int32)), .unset, .unset, .unset, .unset] [(.int ci), (.int (if (2 : Int64) ≤ pl ∧ ci.toInt64 ≤ cl then (1 : Int32) else 0))]))
      refine own_st (fun _ kk => XS.i2l X22.here hx rfl (hb hby at_132) rfl kk) ?_
      show OwnG _ _ _ _ _ _ _ (T22.setTop (mkF m 133 #[.val (.long pl), .second, .val (.long cl), .second, .val (.int k), .val (.int ci), .val (.int qi), .val (.ref b), .val (.int (1 : Int32)), .unset, .unset, .unset, .unset] [(.long (ci.toInt64)), (.int (if (2 : Int64) ≤ pl ∧ ci.toInt64 ≤ cl then (1 : Int32) else 0))]))
      refine own_st (fun _ kk => XS.lloadN X22.here hx rfl (hb hby at_133) rfl kk) ?_
      show OwnG _ _ _ _ _ _ _ (T22.setTop (mkF m 134 #[.val (.long pl), .second, .val (.long cl), .second, .val (.int k), .val (.int ci), .val (.int qi), .val (.ref b), .val (.int (1 : Int32)), .unset, .unset, .unset, .unset] [(.long cl), (.long (ci.toInt64)), (.int (if (2 : Int64) ≤ pl ∧ ci.toInt64 ≤ cl then (1 : Int32) else 0))]))
      refine own_st (fun _ kk => XS.lcmp X22.here hx rfl (hb hby at_134) rfl kk) ?_
      show OwnG _ _ _ _ _ _ _ (T22.setTop (mkF m 135 #[.val (.long pl), .second, .val (.long cl), .second, .val (.int k), .val (.int ci), .val (.int qi), .val (.ref b), .val (.int (1 : Int32)), .unset, .unset, .unset, .unset] [(.int (lcmpW (ci.toInt64) cl)), (.int (if (2 : Int64) ≤ pl ∧ ci.toInt64 ≤ cl then (1 : Int32) else 0))]))
      by_cases hB127 : (0 : Int32) < (lcmpW (ci.toInt64) cl)
      · skip
        refine own_st (fun _ kk => XS.ifYes X22.here hx rfl (pc0 := 135) (pc' := 142) rfl (hb hby at_135) rfl ((if0 _ _).trans (tlt hB127).2.2.1) (by decide) (by decide) kk) ?_
        show OwnG _ _ _ _ _ _ _ (T22.setTop (mkF m 142 #[.val (.long pl), .second, .val (.long cl), .second, .val (.int k), .val (.int ci), .val (.int qi), .val (.ref b), .val (.int (1 : Int32)), .unset, .unset, .unset, .unset] [(.int (if (2 : Int64) ≤ pl ∧ ci.toInt64 ≤ cl then (1 : Int32) else 0))]))
        refine own_st (fun _ kk => XS.iconst X22.here hx rfl (hb hby at_142) kk) ?_
        show OwnG _ _ _ _ _ _ _ (T22.setTop (mkF m 143 #[.val (.long pl), .second, .val (.long cl), .second, .val (.int k), .val (.int ci), .val (.int qi), .val (.ref b), .val (.int (1 : Int32)), .unset, .unset, .unset, .unset] [(.int (0 : Int32)), (.int (if (2 : Int64) ≤ pl ∧ ci.toInt64 ≤ cl then (1 : Int32) else 0))]))
        refine own_st (fun _ kk => XS.icmpNo X22.here hx rfl (hb hby at_143) rfl (teq (if_neg fun q => absurd ((lw_gt _ _).mp hB127) (Int64.not_lt.mpr q.2))).2 kk) ?_
        show OwnG _ _ _ _ _ _ _ (T22.setTop (mkF m 146 #[.val (.long pl), .second, .val (.long cl), .second, .val (.int k), .val (.int ci), .val (.int qi), .val (.ref b), .val (.int (1 : Int32)), .unset, .unset, .unset, .unset] []))
        refine own_st (fun _ kk => XS.iconst X22.here hx rfl (hb hby at_146) kk) ?_
        show OwnG _ _ _ _ _ _ _ (T22.setTop (mkF m 147 #[.val (.long pl), .second, .val (.long cl), .second, .val (.int k), .val (.int ci), .val (.int qi), .val (.ref b), .val (.int (1 : Int32)), .unset, .unset, .unset, .unset] [(.int (1 : Int32))]))
        refine own_st (fun _ kk => XS.goto X22.here hx rfl (pc0 := 147) (pc' := 151) rfl (hb hby at_147) (by decide) (by decide) kk) ?_
        show OwnG _ _ _ _ _ _ _ (T22.setTop (mkF m 151 #[.val (.long pl), .second, .val (.long cl), .second, .val (.int k), .val (.int ci), .val (.int qi), .val (.ref b), .val (.int (1 : Int32)), .unset, .unset, .unset, .unset] [(.int (1 : Int32))]))
        refine own_st (fun _ kk => XS.istore X22.here hx rfl (hb hby at_151) rfl (l' := #[.val (.long pl), .second, .val (.long cl), .second, .val (.int k), .val (.int ci), .val (.int qi), .val (.ref b), .val (.int (1 : Int32)), .unset, .unset, .unset, .unset]) rfl kk) ?_
        show OwnG _ _ _ _ _ _ _ (T22.setTop (mkF m 153 #[.val (.long pl), .second, .val (.long cl), .second, .val (.int k), .val (.int ci), .val (.int qi), .val (.ref b), .val (.int (1 : Int32)), .unset, .unset, .unset, .unset] []))
        exact own_b153 hx hZ hw hby hml hown hrt hlk pl cl k ci qi hci hqi b n0 gb X22 rfl N22 Z22 B22
      · skip
        refine own_st (fun _ kk => XS.ifNo X22.here hx rfl (hb hby at_135) rfl ((if0 _ _).trans (flt hB127).2.2.1) kk) ?_
        show OwnG _ _ _ _ _ _ _ (T22.setTop (mkF m 138 #[.val (.long pl), .second, .val (.long cl), .second, .val (.int k), .val (.int ci), .val (.int qi), .val (.ref b), .val (.int (1 : Int32)), .unset, .unset, .unset, .unset] [(.int (if (2 : Int64) ≤ pl ∧ ci.toInt64 ≤ cl then (1 : Int32) else 0))]))
        refine own_st (fun _ kk => XS.iconst X22.here hx rfl (hb hby at_138) kk) ?_
        show OwnG _ _ _ _ _ _ _ (T22.setTop (mkF m 139 #[.val (.long pl), .second, .val (.long cl), .second, .val (.int k), .val (.int ci), .val (.int qi), .val (.ref b), .val (.int (1 : Int32)), .unset, .unset, .unset, .unset] [(.int (1 : Int32)), (.int (if (2 : Int64) ≤ pl ∧ ci.toInt64 ≤ cl then (1 : Int32) else 0))]))
        refine own_st (fun _ kk => XS.goto X22.here hx rfl (pc0 := 139) (pc' := 143) rfl (hb hby at_139) (by decide) (by decide) kk) ?_
        show OwnG _ _ _ _ _ _ _ (T22.setTop (mkF m 143 #[.val (.long pl), .second, .val (.long cl), .second, .val (.int k), .val (.int ci), .val (.int qi), .val (.ref b), .val (.int (1 : Int32)), .unset, .unset, .unset, .unset] [(.int (1 : Int32)), (.int (if (2 : Int64) ≤ pl ∧ ci.toInt64 ≤ cl then (1 : Int32) else 0))]))
        refine own_st (fun _ kk => XS.icmpNo X22.here hx rfl (hb hby at_143) rfl (teq (if_pos ⟨Int64.not_lt.mp fun q => hA127 ((lw_gt _ _).mpr q), Int64.not_lt.mp fun q => hB127 ((lw_gt _ _).mpr q)⟩)).2 kk) ?_
        show OwnG _ _ _ _ _ _ _ (T22.setTop (mkF m 146 #[.val (.long pl), .second, .val (.long cl), .second, .val (.int k), .val (.int ci), .val (.int qi), .val (.ref b), .val (.int (1 : Int32)), .unset, .unset, .unset, .unset] []))
        refine own_st (fun _ kk => XS.iconst X22.here hx rfl (hb hby at_146) kk) ?_
        show OwnG _ _ _ _ _ _ _ (T22.setTop (mkF m 147 #[.val (.long pl), .second, .val (.long cl), .second, .val (.int k), .val (.int ci), .val (.int qi), .val (.ref b), .val (.int (1 : Int32)), .unset, .unset, .unset, .unset] [(.int (1 : Int32))]))
        refine own_st (fun _ kk => XS.goto X22.here hx rfl (pc0 := 147) (pc' := 151) rfl (hb hby at_147) (by decide) (by decide) kk) ?_
        show OwnG _ _ _ _ _ _ _ (T22.setTop (mkF m 151 #[.val (.long pl), .second, .val (.long cl), .second, .val (.int k), .val (.int ci), .val (.int qi), .val (.ref b), .val (.int (1 : Int32)), .unset, .unset, .unset, .unset] [(.int (1 : Int32))]))
        refine own_st (fun _ kk => XS.istore X22.here hx rfl (hb hby at_151) rfl (l' := #[.val (.long pl), .second, .val (.long cl), .second, .val (.int k), .val (.int ci), .val (.int qi), .val (.ref b), .val (.int (1 : Int32)), .unset, .unset, .unset, .unset]) rfl kk) ?_
        show OwnG _ _ _ _ _ _ _ (T22.setTop (mkF m 153 #[.val (.long pl), .second, .val (.long cl), .second, .val (.int k), .val (.int ci), .val (.int qi), .val (.ref b), .val (.int (1 : Int32)), .unset, .unset, .unset, .unset] []))
        exact own_b153 hx hZ hw hby hml hown hrt hlk pl cl k ci qi hci hqi b n0 gb X22 rfl N22 Z22 B22
set_option maxRecDepth 65536 in
set_option maxHeartbeats 40000000 in
theorem own_b61 {p : Program} {l : Launch} {e : Env} {s : State} {m : MethodId} {args : Array Value} {below : List Frame} {meth : Method} {c : Code} {Z : State} {a0 : Array Value} (hx : p.tables.exec = Jvm.exec) (hZ : Z.Warmed39 s.vm) (hw : ∀ d ∈ tables_1, d.before a0 Z = true) (hby : c.code = code) (hml : c.maxLocals = 13) (hown : s.vm.findClass "com/example/reasoning_service_planner/reasoningserviceplanner/SolverBudgetPropagatePinLaw" = some m.cls) (hrt : meth.sig.returnType = ret) (hlk : meth.locks = false) (pl cl : Int64) (k ci qi : Int32) (hci : ci = 0 ∨ ci = 1 ∨ ci = 2 ∨ ci = 3) (hqi : qi = 0 ∨ qi = 1 ∨ qi = 2 ∨ qi = 3) (b : Addr) (n0 : Nat) (gb : n0 ≤ b) {hs0 : Heap} {T0 : State} {h0 : Heap} {locs : List Loc} (X0 : Stand p l e room_1 s m args below meth c T0 locs 1 4) (e0 : T0.heap = h0) (N0 : Fr n0 locs) (Z0 : n0 ≤ h0.size) (B0 : Bud Z h0 b pl cl (if qi < 1 then qi.toInt64 else 0) ci.toInt64) : OwnG 1 4 (Q0 Z pl cl k hs0 n0) p e below s (T0.setTop (mkF m 61 #[.val (.long pl), .second, .val (.long cl), .second, .val (.int k), .val (.int ci), .val (.int qi), .val (.ref b), .val (.int (1 : Int32)), .unset, .unset, .unset, .unset] [])) := by
  refine own_st (fun _ kk => XS.iload X0.here hx rfl (hb hby at_61) rfl kk) ?_
  show OwnG _ _ _ _ _ _ _ (T0.setTop (mkF m 63 #[.val (.long pl), .second, .val (.long cl), .second, .val (.int k), .val (.int ci), .val (.int qi), .val (.ref b), .val (.int (1 : Int32)), .unset, .unset, .unset, .unset] [(.int qi)]))
  refine own_st (fun _ kk => XS.iconst X0.here hx rfl (hb hby at_63) kk) ?_
  show OwnG _ _ _ _ _ _ _ (T0.setTop (mkF m 64 #[.val (.long pl), .second, .val (.long cl), .second, .val (.int k), .val (.int ci), .val (.int qi), .val (.ref b), .val (.int (1 : Int32)), .unset, .unset, .unset, .unset] [(.int (1 : Int32)), (.int qi)]))
  by_cases hq1 : qi < (1 : Int32)
  · have hu := own_up qi hqi
    rw [hu.2.2.2.2.1 hq1] at B0
    refine own_st (fun _ kk => XS.icmpYes X0.here hx rfl (pc0 := 64) (pc' := 106) rfl (hb hby at_64) rfl (tlt hq1).1 (by decide) (by decide) kk) ?_
    show OwnG _ _ _ _ _ _ _ (T0.setTop (mkF m 106 #[.val (.long pl), .second, .val (.long cl), .second, .val (.int k), .val (.int ci), .val (.int qi), .val (.ref b), .val (.int (1 : Int32)), .unset, .unset, .unset, .unset] []))
    exact own_b106 hx hZ hw hby hml hown hrt hlk pl cl k ci qi hci hqi b n0 gb X0 e0 N0 Z0 B0
  · have hu := own_up qi hqi
    rw [if_neg hq1] at B0
    refine own_st (fun _ kk => XS.icmpNo X0.here hx rfl (hb hby at_64) rfl (flt hq1).1 kk) ?_
    show OwnG _ _ _ _ _ _ _ (T0.setTop (mkF m 67 #[.val (.long pl), .second, .val (.long cl), .second, .val (.int k), .val (.int ci), .val (.int qi), .val (.ref b), .val (.int (1 : Int32)), .unset, .unset, .unset, .unset] []))
    refine own_st (fun _ kk => XS.iload X0.here hx rfl (hb hby at_67) rfl kk) ?_
    show OwnG _ _ _ _ _ _ _ (T0.setTop (mkF m 69 #[.val (.long pl), .second, .val (.long cl), .second, .val (.int k), .val (.int ci), .val (.int qi), .val (.ref b), .val (.int (1 : Int32)), .unset, .unset, .unset, .unset] [(.int (1 : Int32))]))
    refine own_st (fun _ kk => XS.ifNo X0.here hx rfl (hb hby at_69) rfl ((if0 _ _).trans (feq (by decide : ¬ ((1 : Int32) = (0 : Int32)))).1) kk) ?_
    show OwnG _ _ _ _ _ _ _ (T0.setTop (mkF m 72 #[.val (.long pl), .second, .val (.long cl), .second, .val (.int k), .val (.int ci), .val (.int qi), .val (.ref b), .val (.int (1 : Int32)), .unset, .unset, .unset, .unset] []))
    refine own_st (fun _ kk => XS.aload X0.here hx rfl (hb hby at_72) rfl rfl kk) ?_
    show OwnG _ _ _ _ _ _ _ (T0.setTop (mkF m 74 #[.val (.long pl), .second, .val (.long cl), .second, .val (.int k), .val (.int ci), .val (.int qi), .val (.ref b), .val (.int (1 : Int32)), .unset, .unset, .unset, .unset] [(.ref b)]))
    obtain ⟨cq23, kq23, q23a, q23b, q23c⟩ := isOf hZ e0 B0.1
    obtain ⟨_, _, ⟨T23, L23, k23, n23⟩, -, X23, ⟨Lc23, hQ23, l23, y23, z23⟩, st23⟩ := X0.virtualBack hx (y := (⟨"com/example/reasoning_service_planner/reasoningserviceplanner/SolverBudget", "propagate", "()Z"⟩ : MethodName)) (z := (⟨"com/example/reasoning_service_planner/reasoningserviceplanner/SolverBudget", "propagate", "()Z"⟩ : MethodName)) hown (mvT hZ (hw _ (List.mem_of_getElem? (i := 13) rfl))) (mvT hZ (hw _ (List.mem_of_getElem? (i := 14) rfl))) (notFace_of_selects (args := #[]) (mvT hZ (hw _ (List.mem_of_getElem? (i := 16) rfl)))) (mvT hZ (hw _ (List.mem_of_getElem? (i := 16) rfl))) (mvT hZ (hw _ (List.mem_of_getElem? (i := 15) rfl))) (by decide) (backOf (W := 0) (rm3 l Z a0 hw [] b pl cl 0 ci.toInt64 1 h0 n0 Z0 (by decide) B0 gb) hZ (hw _ (List.mem_of_getElem? (i := 17) rfl)) (hw _ (List.mem_of_getElem? (i := 2) rfl)) (by decide) (by decide)) q23a q23c (g := (mkF m 74 #[.val (.long pl), .second, .val (.long cl), .second, .val (.int k), .val (.int ci), .val (.int qi), .val (.ref b), .val (.int (1 : Int32)), .unset, .unset, .unset, .unset] [(.ref b)])) rfl (by rw [hml]; rfl) (Steps.refl _) (argsL := []) (rest := []) (lenOf (by decide +kernel : parseMethodDescriptor "()Z" = some ⟨[], some .boolean⟩) rfl) rfl (by show 2 * 0 + _ ≤ _; exact Nat.le_of_eq rfl) (hb hby at_74) (fun _ _ => ⟨rfl, e0, (by dsimp only [Pt.cells]; decide), (by dsimp only [Pt.slots]; decide)⟩)
    dsimp only [Pt.U, Pt.locs, Pt.cells, Pt.slots] at X23 l23 y23 z23 st23 hQ23
    subst l23 y23 z23
    obtain ⟨rfl, N23q, Z23, B23⟩ := hQ23
    have N23 := Fr.app N0 N23q
    refine own_go st23 ?_
    show OwnG _ _ _ _ _ _ _ (T23.setTop (mkF m 77 #[.val (.long pl), .second, .val (.long cl), .second, .val (.int k), .val (.int ci), .val (.int qi), .val (.ref b), .val (.int (1 : Int32)), .unset, .unset, .unset, .unset] [(.int (if (1 : Int64) ≤ pl ∧ ci.toInt64 ≤ cl then (1 : Int32) else 0))]))
    rw [hu.1 hq1] at B23
    refine own_st (fun _ kk => XS.lconst X23.here hx rfl (hb hby at_77) kk) ?_
    show OwnG _ _ _ _ _ _ _ (T23.setTop (mkF m 78 #[.val (.long pl), .second, .val (.long cl), .second, .val (.int k), .val (.int ci), .val (.int qi), .val (.ref b), .val (.int (1 : Int32)), .unset, .unset, .unset, .unset] [(.long (1 : Int64)), (.int (if (1 : Int64) ≤ pl ∧ ci.toInt64 ≤ cl then (1 : Int32) else 0))]))
    refine own_st (fun _ kk => XS.lloadN X23.here hx rfl (hb hby at_78) rfl kk) ?_
    show OwnG _ _ _ _ _ _ _ (T23.setTop (mkF m 79 #[.val (.long pl), .second, .val (.long cl), .second, .val (.int k), .val (.int ci), .val (.int qi), .val (.ref b), .val (.int (1 : Int32)), .unset, .unset, .unset, .unset] [(.long pl), (.long (1 : Int64)), (.int (if (1 : Int64) ≤ pl ∧ ci.toInt64 ≤ cl then (1 : Int32) else 0))]))
    refine own_st (fun _ kk => XS.lcmp X23.here hx rfl (hb hby at_79) rfl kk) ?_
    show OwnG _ _ _ _ _ _ _ (T23.setTop (mkF m 80 #[.val (.long pl), .second, .val (.long cl), .second, .val (.int k), .val (.int ci), .val (.int qi), .val (.ref b), .val (.int (1 : Int32)), .unset, .unset, .unset, .unset] [(.int (lcmpW (1 : Int64) pl)), (.int (if (1 : Int64) ≤ pl ∧ ci.toInt64 ≤ cl then (1 : Int32) else 0))]))
    by_cases hA80 : (0 : Int32) < (lcmpW (1 : Int64) pl)
    · skip
      refine own_st (fun _ kk => XS.ifYes X23.here hx rfl (pc0 := 80) (pc' := 95) rfl (hb hby at_80) rfl ((if0 _ _).trans (tlt hA80).2.2.1) (by decide) (by decide) kk) ?_
      show OwnG _ _ _ _ _ _ _ (T23.setTop (mkF m 95 #[.val (.long pl), .second, .val (.long cl), .second, .val (.int k), .val (.int ci), .val (.int qi), .val (.ref b), .val (.int (1 : Int32)), .unset, .unset, .unset, .unset] [(.int (if (1 : Int64) ≤ pl ∧ ci.toInt64 ≤ cl then (1 : Int32) else 0))]))
      refine own_st (fun _ kk => XS.iconst X23.here hx rfl (hb hby at_95) kk) ?_
      show OwnG _ _ _ _ _ _ _ (T23.setTop (mkF m 96 #[.val (.long pl), .second, .val (.long cl), .second, .val (.int k), .val (.int ci), .val (.int qi), .val (.ref b), .val (.int (1 : Int32)), .unset, .unset, .unset, .unset] [(.int (0 : Int32)), (.int (if (1 : Int64) ≤ pl ∧ ci.toInt64 ≤ cl then (1 : Int32) else 0))]))
      refine own_st (fun _ kk => XS.icmpNo X23.here hx rfl (hb hby at_96) rfl (teq (if_neg fun q => absurd ((lw_gt _ _).mp hA80) (Int64.not_lt.mpr q.1))).2 kk) ?_
      show OwnG _ _ _ _ _ _ _ (T23.setTop (mkF m 99 #[.val (.long pl), .second, .val (.long cl), .second, .val (.int k), .val (.int ci), .val (.int qi), .val (.ref b), .val (.int (1 : Int32)), .unset, .unset, .unset, .unset] []))
      refine own_st (fun _ kk => XS.iconst X23.here hx rfl (hb hby at_99) kk) ?_
      show OwnG _ _ _ _ _ _ _ (T23.setTop (mkF m 100 #[.val (.long pl), .second, .val (.long cl), .second, .val (.int k), .val (.int ci), .val (.int qi), .val (.ref b), .val (.int (1 : Int32)), .unset, .unset, .unset, .unset] [(.int (1 : Int32))]))
      refine own_st (fun _ kk => XS.goto X23.here hx rfl (pc0 := 100) (pc' := 104) rfl (hb hby at_100) (by decide) (by decide) kk) ?_
      show OwnG _ _ _ _ _ _ _ (T23.setTop (mkF m 104 #[.val (.long pl), .second, .val (.long cl), .second, .val (.int k), .val (.int ci), .val (.int qi), .val (.ref b), .val (.int (1 : Int32)), .unset, .unset, .unset, .unset] [(.int (1 : Int32))]))
      refine own_st (fun _ kk => XS.istore X23.here hx rfl (hb hby at_104) rfl (l' := #[.val (.long pl), .second, .val (.long cl), .second, .val (.int k), .val (.int ci), .val (.int qi), .val (.ref b), .val (.int (1 : Int32)), .unset, .unset, .unset, .unset]) rfl kk) ?_
      show OwnG _ _ _ _ _ _ _ (T23.setTop (mkF m 106 #[.val (.long pl), .second, .val (.long cl), .second, .val (.int k), .val (.int ci), .val (.int qi), .val (.ref b), .val (.int (1 : Int32)), .unset, .unset, .unset, .unset] []))
      exact own_b106 hx hZ hw hby hml hown hrt hlk pl cl k ci qi hci hqi b n0 gb X23 rfl N23 Z23 B23
    · skip
      refine own_st (fun _ kk => XS.ifNo X23.here hx rfl (hb hby at_80) rfl ((if0 _ _).trans (flt hA80).2.2.1) kk) ?_
      show OwnG _ _ _ _ _ _ _ (T23.setTop (mkF m 83 #[.val (.long pl), .second, .val (.long cl), .second, .val (.int k), .val (.int ci), .val (.int qi), .val (.ref b), .val (.int (1 : Int32)), .unset, .unset, .unset, .unset] [(.int (if (1 : Int64) ≤ pl ∧ ci.toInt64 ≤ cl then (1 : Int32) else 0))]))
      refine own_st (fun _ kk => XS.iload X23.here hx rfl (hb hby at_83) rfl kk) ?_
      show OwnG _ _ _ _ _ _ _ (T23.setTop (mkF m 85 #[.val (.long pl), .second, .val (.long cl), .second, .val (.int k), .val (.int ci), .val (.int qi), .val (.ref b), .val (.int (1 : Int32)), .unset, .unset, .unset, .unset] [(.int ci), (.int (if (1 : Int64) ≤ pl ∧ ci.toInt64 ≤ cl then (1 : Int32) else 0))]))
      refine own_st (fun _ kk => XS.i2l X23.here hx rfl (hb hby at_85) rfl kk) ?_
      show OwnG _ _ _ _ _ _ _ (T23.setTop (mkF m 86 #[.val (.long pl), .second, .val (.long cl), .second, .val (.int k), .val (.int ci), .val (.int qi), .val (.ref b), .val (.int (1 : Int32)), .unset, .unset, .unset, .unset] [(.long (ci.toInt64)), (.int (if (1 : Int64) ≤ pl ∧ ci.toInt64 ≤ cl then (1 : Int32) else 0))]))
      refine own_st (fun _ kk => XS.lloadN X23.here hx rfl (hb hby at_86) rfl kk) ?_
      show OwnG _ _ _ _ _ _ _ (T23.setTop (mkF m 87 #[.val (.long pl), .second, .val (.long cl), .second, .val (.int k), .val (.int ci), .val (.int qi), .val (.ref b), .val (.int (1 : Int32)), .unset, .unset, .unset, .unset] [(.long cl), (.long (ci.toInt64)), (.int (if (1 : Int64) ≤ pl ∧ ci.toInt64 ≤ cl then (1 : Int32) else 0))]))
      refine own_st (fun _ kk => XS.lcmp X23.here hx rfl (hb hby at_87) rfl kk) ?_
      show OwnG _ _ _ _ _ _ _ (T23.setTop (mkF m 88 #[.val (.long pl), .second, .val (.long cl), .second, .val (.int k), .val (.int ci), .val (.int qi), .val (.ref b), .val (.int (1 : Int32)), .unset, .unset, .unset, .unset] [(.int (lcmpW (ci.toInt64) cl)), (.int (if (1 : Int64) ≤ pl ∧ ci.toInt64 ≤ cl then (1 : Int32) else 0))]))
      by_cases hB80 : (0 : Int32) < (lcmpW (ci.toInt64) cl)
      · skip
        refine own_st (fun _ kk => XS.ifYes X23.here hx rfl (pc0 := 88) (pc' := 95) rfl (hb hby at_88) rfl ((if0 _ _).trans (tlt hB80).2.2.1) (by decide) (by decide) kk) ?_
        show OwnG _ _ _ _ _ _ _ (T23.setTop (mkF m 95 #[.val (.long pl), .second, .val (.long cl), .second, .val (.int k), .val (.int ci), .val (.int qi), .val (.ref b), .val (.int (1 : Int32)), .unset, .unset, .unset, .unset] [(.int (if (1 : Int64) ≤ pl ∧ ci.toInt64 ≤ cl then (1 : Int32) else 0))]))
        refine own_st (fun _ kk => XS.iconst X23.here hx rfl (hb hby at_95) kk) ?_
        show OwnG _ _ _ _ _ _ _ (T23.setTop (mkF m 96 #[.val (.long pl), .second, .val (.long cl), .second, .val (.int k), .val (.int ci), .val (.int qi), .val (.ref b), .val (.int (1 : Int32)), .unset, .unset, .unset, .unset] [(.int (0 : Int32)), (.int (if (1 : Int64) ≤ pl ∧ ci.toInt64 ≤ cl then (1 : Int32) else 0))]))
        refine own_st (fun _ kk => XS.icmpNo X23.here hx rfl (hb hby at_96) rfl (teq (if_neg fun q => absurd ((lw_gt _ _).mp hB80) (Int64.not_lt.mpr q.2))).2 kk) ?_
        show OwnG _ _ _ _ _ _ _ (T23.setTop (mkF m 99 #[.val (.long pl), .second, .val (.long cl), .second, .val (.int k), .val (.int ci), .val (.int qi), .val (.ref b), .val (.int (1 : Int32)), .unset, .unset, .unset, .unset] []))
        refine own_st (fun _ kk => XS.iconst X23.here hx rfl (hb hby at_99) kk) ?_
        show OwnG _ _ _ _ _ _ _ (T23.setTop (mkF m 100 #[.val (.long pl), .second, .val (.long cl), .second, .val (.int k), .val (.int ci), .val (.int qi), .val (.ref b), .val (.int (1 : Int32)), .unset, .unset, .unset, .unset] [(.int (1 : Int32))]))
        refine own_st (fun _ kk => XS.goto X23.here hx rfl (pc0 := 100) (pc' := 104) rfl (hb hby at_100) (by decide) (by decide) kk) ?_
        show OwnG _ _ _ _ _ _ _ (T23.setTop (mkF m 104 #[.val (.long pl), .second, .val (.long cl), .second, .val (.int k), .val (.int ci), .val (.int qi), .val (.ref b), .val (.int (1 : Int32)), .unset, .unset, .unset, .unset] [(.int (1 : Int32))]))
        refine own_st (fun _ kk => XS.istore X23.here hx rfl (hb hby at_104) rfl (l' := #[.val (.long pl), .second, .val (.long cl), .second, .val (.int k), .val (.int ci), .val (.int qi), .val (.ref b), .val (.int (1 : Int32)), .unset, .unset, .unset, .unset]) rfl kk) ?_
        show OwnG _ _ _ _ _ _ _ (T23.setTop (mkF m 106 #[.val (.long pl), .second, .val (.long cl), .second, .val (.int k), .val (.int ci), .val (.int qi), .val (.ref b), .val (.int (1 : Int32)), .unset, .unset, .unset, .unset] []))
        exact own_b106 hx hZ hw hby hml hown hrt hlk pl cl k ci qi hci hqi b n0 gb X23 rfl N23 Z23 B23
      · skip
        refine own_st (fun _ kk => XS.ifNo X23.here hx rfl (hb hby at_88) rfl ((if0 _ _).trans (flt hB80).2.2.1) kk) ?_
        show OwnG _ _ _ _ _ _ _ (T23.setTop (mkF m 91 #[.val (.long pl), .second, .val (.long cl), .second, .val (.int k), .val (.int ci), .val (.int qi), .val (.ref b), .val (.int (1 : Int32)), .unset, .unset, .unset, .unset] [(.int (if (1 : Int64) ≤ pl ∧ ci.toInt64 ≤ cl then (1 : Int32) else 0))]))
        refine own_st (fun _ kk => XS.iconst X23.here hx rfl (hb hby at_91) kk) ?_
        show OwnG _ _ _ _ _ _ _ (T23.setTop (mkF m 92 #[.val (.long pl), .second, .val (.long cl), .second, .val (.int k), .val (.int ci), .val (.int qi), .val (.ref b), .val (.int (1 : Int32)), .unset, .unset, .unset, .unset] [(.int (1 : Int32)), (.int (if (1 : Int64) ≤ pl ∧ ci.toInt64 ≤ cl then (1 : Int32) else 0))]))
        refine own_st (fun _ kk => XS.goto X23.here hx rfl (pc0 := 92) (pc' := 96) rfl (hb hby at_92) (by decide) (by decide) kk) ?_
        show OwnG _ _ _ _ _ _ _ (T23.setTop (mkF m 96 #[.val (.long pl), .second, .val (.long cl), .second, .val (.int k), .val (.int ci), .val (.int qi), .val (.ref b), .val (.int (1 : Int32)), .unset, .unset, .unset, .unset] [(.int (1 : Int32)), (.int (if (1 : Int64) ≤ pl ∧ ci.toInt64 ≤ cl then (1 : Int32) else 0))]))
        refine own_st (fun _ kk => XS.icmpNo X23.here hx rfl (hb hby at_96) rfl (teq (if_pos ⟨Int64.not_lt.mp fun q => hA80 ((lw_gt _ _).mpr q), Int64.not_lt.mp fun q => hB80 ((lw_gt _ _).mpr q)⟩)).2 kk) ?_
        show OwnG _ _ _ _ _ _ _ (T23.setTop (mkF m 99 #[.val (.long pl), .second, .val (.long cl), .second, .val (.int k), .val (.int ci), .val (.int qi), .val (.ref b), .val (.int (1 : Int32)), .unset, .unset, .unset, .unset] []))
        refine own_st (fun _ kk => XS.iconst X23.here hx rfl (hb hby at_99) kk) ?_
        show OwnG _ _ _ _ _ _ _ (T23.setTop (mkF m 100 #[.val (.long pl), .second, .val (.long cl), .second, .val (.int k), .val (.int ci), .val (.int qi), .val (.ref b), .val (.int (1 : Int32)), .unset, .unset, .unset, .unset] [(.int (1 : Int32))]))
        refine own_st (fun _ kk => XS.goto X23.here hx rfl (pc0 := 100) (pc' := 104) rfl (hb hby at_100) (by decide) (by decide) kk) ?_
        show OwnG _ _ _ _ _ _ _ (T23.setTop (mkF m 104 #[.val (.long pl), .second, .val (.long cl), .second, .val (.int k), .val (.int ci), .val (.int qi), .val (.ref b), .val (.int (1 : Int32)), .unset, .unset, .unset, .unset] [(.int (1 : Int32))]))
        refine own_st (fun _ kk => XS.istore X23.here hx rfl (hb hby at_104) rfl (l' := #[.val (.long pl), .second, .val (.long cl), .second, .val (.int k), .val (.int ci), .val (.int qi), .val (.ref b), .val (.int (1 : Int32)), .unset, .unset, .unset, .unset]) rfl kk) ?_
        show OwnG _ _ _ _ _ _ _ (T23.setTop (mkF m 106 #[.val (.long pl), .second, .val (.long cl), .second, .val (.int k), .val (.int ci), .val (.int qi), .val (.ref b), .val (.int (1 : Int32)), .unset, .unset, .unset, .unset] []))
        exact own_b106 hx hZ hw hby hml hown hrt hlk pl cl k ci qi hci hqi b n0 gb X23 rfl N23 Z23 B23
set_option maxRecDepth 65536 in
set_option maxHeartbeats 40000000 in
theorem own_b47 {p : Program} {l : Launch} {e : Env} {s : State} {m : MethodId} {args : Array Value} {below : List Frame} {meth : Method} {c : Code} {Z : State} {a0 : Array Value} (hx : p.tables.exec = Jvm.exec) (hZ : Z.Warmed39 s.vm) (hw : ∀ d ∈ tables_1, d.before a0 Z = true) (hby : c.code = code) (hml : c.maxLocals = 13) (hown : s.vm.findClass "com/example/reasoning_service_planner/reasoningserviceplanner/SolverBudgetPropagatePinLaw" = some m.cls) (hrt : meth.sig.returnType = ret) (hlk : meth.locks = false) (pl cl : Int64) (k ci qi : Int32) (hci : ci = 0 ∨ ci = 1 ∨ ci = 2 ∨ ci = 3) (hqi : qi = 0 ∨ qi = 1 ∨ qi = 2 ∨ qi = 3) (b : Addr) (n0 : Nat) (gb : n0 ≤ b) {hs0 : Heap} {T0 : State} {h0 : Heap} {locs : List Loc} (X0 : Stand p l e room_1 s m args below meth c T0 locs 1 4) (e0 : T0.heap = h0) (N0 : Fr n0 locs) (Z0 : n0 ≤ h0.size) (B0 : Bud Z h0 b pl cl 0 (if ci < 3 then ci.toInt64 else 2)) : OwnG 1 4 (Q0 Z pl cl k hs0 n0) p e below s (T0.setTop (mkF m 47 #[.val (.long pl), .second, .val (.long cl), .second, .val (.int k), .val (.int ci), .val (.int qi), .val (.ref b), .unset, .unset, .unset, .unset, .unset] [])) := by
  refine own_st (fun _ kk => XS.iload X0.here hx rfl (hb hby at_47) rfl kk) ?_
  show OwnG _ _ _ _ _ _ _ (T0.setTop (mkF m 49 #[.val (.long pl), .second, .val (.long cl), .second, .val (.int k), .val (.int ci), .val (.int qi), .val (.ref b), .unset, .unset, .unset, .unset, .unset] [(.int ci)]))
  refine own_st (fun _ kk => XS.iconst X0.here hx rfl (hb hby at_49) kk) ?_
  show OwnG _ _ _ _ _ _ _ (T0.setTop (mkF m 50 #[.val (.long pl), .second, .val (.long cl), .second, .val (.int k), .val (.int ci), .val (.int qi), .val (.ref b), .unset, .unset, .unset, .unset, .unset] [(.int (3 : Int32)), (.int ci)]))
  by_cases hq3 : ci < (3 : Int32)
  · have hu := own_up ci hci
    rw [hu.2.2.2.2.2.2 hq3] at B0
    refine own_st (fun _ kk => XS.icmpYes X0.here hx rfl (pc0 := 50) (pc' := 58) rfl (hb hby at_50) rfl (tlt hq3).1 (by decide) (by decide) kk) ?_
    show OwnG _ _ _ _ _ _ _ (T0.setTop (mkF m 58 #[.val (.long pl), .second, .val (.long cl), .second, .val (.int k), .val (.int ci), .val (.int qi), .val (.ref b), .unset, .unset, .unset, .unset, .unset] []))
    refine own_st (fun _ kk => XS.iconst X0.here hx rfl (hb hby at_58) kk) ?_
    show OwnG _ _ _ _ _ _ _ (T0.setTop (mkF m 59 #[.val (.long pl), .second, .val (.long cl), .second, .val (.int k), .val (.int ci), .val (.int qi), .val (.ref b), .unset, .unset, .unset, .unset, .unset] [(.int (1 : Int32))]))
    refine own_st (fun _ kk => XS.istore X0.here hx rfl (hb hby at_59) rfl (l' := #[.val (.long pl), .second, .val (.long cl), .second, .val (.int k), .val (.int ci), .val (.int qi), .val (.ref b), .val (.int (1 : Int32)), .unset, .unset, .unset, .unset]) rfl kk) ?_
    show OwnG _ _ _ _ _ _ _ (T0.setTop (mkF m 61 #[.val (.long pl), .second, .val (.long cl), .second, .val (.int k), .val (.int ci), .val (.int qi), .val (.ref b), .val (.int (1 : Int32)), .unset, .unset, .unset, .unset] []))
    have hv := own_up qi hqi
    rw [hv.2.2.2.1] at B0
    exact own_b61 hx hZ hw hby hml hown hrt hlk pl cl k ci qi hci hqi b n0 gb X0 e0 N0 Z0 B0
  · have hu := own_up ci hci
    rw [if_neg hq3] at B0
    refine own_st (fun _ kk => XS.icmpNo X0.here hx rfl (hb hby at_50) rfl (flt hq3).1 kk) ?_
    show OwnG _ _ _ _ _ _ _ (T0.setTop (mkF m 53 #[.val (.long pl), .second, .val (.long cl), .second, .val (.int k), .val (.int ci), .val (.int qi), .val (.ref b), .unset, .unset, .unset, .unset, .unset] []))
    refine own_st (fun _ kk => XS.aload X0.here hx rfl (hb hby at_53) rfl rfl kk) ?_
    show OwnG _ _ _ _ _ _ _ (T0.setTop (mkF m 55 #[.val (.long pl), .second, .val (.long cl), .second, .val (.int k), .val (.int ci), .val (.int qi), .val (.ref b), .unset, .unset, .unset, .unset, .unset] [(.ref b)]))
    obtain ⟨cq24, kq24, q24a, q24b, q24c⟩ := isOf hZ e0 B0.1
    obtain ⟨_, _, ⟨T24, L24, k24, n24⟩, -, X24, ⟨Lc24, hQ24, l24, y24, z24⟩, st24⟩ := X0.virtualBack hx (y := (⟨"com/example/reasoning_service_planner/reasoningserviceplanner/SolverBudget", "conflict", "()V"⟩ : MethodName)) (z := (⟨"com/example/reasoning_service_planner/reasoningserviceplanner/SolverBudget", "conflict", "()V"⟩ : MethodName)) hown (mvT hZ (hw _ (List.mem_of_getElem? (i := 32) rfl))) (mvT hZ (hw _ (List.mem_of_getElem? (i := 33) rfl))) (notFace_of_selects (args := #[]) (mvT hZ (hw _ (List.mem_of_getElem? (i := 35) rfl)))) (mvT hZ (hw _ (List.mem_of_getElem? (i := 35) rfl))) (mvT hZ (hw _ (List.mem_of_getElem? (i := 34) rfl))) (by decide) (backOf (W := 0) (rm6 l Z a0 hw [] b pl cl 0 2 3 h0 n0 Z0 (by decide) B0 gb) hZ (hw _ (List.mem_of_getElem? (i := 36) rfl)) (hw _ (List.mem_of_getElem? (i := 2) rfl)) (by decide) (by decide)) q24a q24c (g := (mkF m 55 #[.val (.long pl), .second, .val (.long cl), .second, .val (.int k), .val (.int ci), .val (.int qi), .val (.ref b), .unset, .unset, .unset, .unset, .unset] [(.ref b)])) rfl (by rw [hml]; rfl) (Steps.refl _) (argsL := []) (rest := []) (lenOf (by decide +kernel : parseMethodDescriptor "()V" = some ⟨[], none⟩) rfl) rfl (by show 2 * 0 + _ ≤ _; exact Nat.le_of_eq rfl) (hb hby at_55) (fun _ _ => ⟨rfl, e0, (by dsimp only [Pt.cells]; decide), (by dsimp only [Pt.slots]; decide)⟩)
    dsimp only [Pt.U, Pt.locs, Pt.cells, Pt.slots] at X24 l24 y24 z24 st24 hQ24
    subst l24 y24 z24
    obtain ⟨rfl, N24q, Z24, B24⟩ := hQ24
    have N24 := Fr.app N0 N24q
    refine own_go st24 ?_
    show OwnG _ _ _ _ _ _ _ (T24.setTop (mkF m 58 #[.val (.long pl), .second, .val (.long cl), .second, .val (.int k), .val (.int ci), .val (.int qi), .val (.ref b), .unset, .unset, .unset, .unset, .unset] []))
    rw [hu.2.2.1 hq3] at B24
    refine own_st (fun _ kk => XS.iconst X24.here hx rfl (hb hby at_58) kk) ?_
    show OwnG _ _ _ _ _ _ _ (T24.setTop (mkF m 59 #[.val (.long pl), .second, .val (.long cl), .second, .val (.int k), .val (.int ci), .val (.int qi), .val (.ref b), .unset, .unset, .unset, .unset, .unset] [(.int (1 : Int32))]))
    refine own_st (fun _ kk => XS.istore X24.here hx rfl (hb hby at_59) rfl (l' := #[.val (.long pl), .second, .val (.long cl), .second, .val (.int k), .val (.int ci), .val (.int qi), .val (.ref b), .val (.int (1 : Int32)), .unset, .unset, .unset, .unset]) rfl kk) ?_
    show OwnG _ _ _ _ _ _ _ (T24.setTop (mkF m 61 #[.val (.long pl), .second, .val (.long cl), .second, .val (.int k), .val (.int ci), .val (.int qi), .val (.ref b), .val (.int (1 : Int32)), .unset, .unset, .unset, .unset] []))
    have hv := own_up qi hqi
    rw [hv.2.2.2.1] at B24
    exact own_b61 hx hZ hw hby hml hown hrt hlk pl cl k ci qi hci hqi b n0 gb X24 rfl N24 Z24 B24
set_option maxRecDepth 65536 in
set_option maxHeartbeats 40000000 in
theorem own_b36 {p : Program} {l : Launch} {e : Env} {s : State} {m : MethodId} {args : Array Value} {below : List Frame} {meth : Method} {c : Code} {Z : State} {a0 : Array Value} (hx : p.tables.exec = Jvm.exec) (hZ : Z.Warmed39 s.vm) (hw : ∀ d ∈ tables_1, d.before a0 Z = true) (hby : c.code = code) (hml : c.maxLocals = 13) (hown : s.vm.findClass "com/example/reasoning_service_planner/reasoningserviceplanner/SolverBudgetPropagatePinLaw" = some m.cls) (hrt : meth.sig.returnType = ret) (hlk : meth.locks = false) (pl cl : Int64) (k ci qi : Int32) (hci : ci = 0 ∨ ci = 1 ∨ ci = 2 ∨ ci = 3) (hqi : qi = 0 ∨ qi = 1 ∨ qi = 2 ∨ qi = 3) (b : Addr) (n0 : Nat) (gb : n0 ≤ b) {hs0 : Heap} {T0 : State} {h0 : Heap} {locs : List Loc} (X0 : Stand p l e room_1 s m args below meth c T0 locs 1 4) (e0 : T0.heap = h0) (N0 : Fr n0 locs) (Z0 : n0 ≤ h0.size) (B0 : Bud Z h0 b pl cl 0 (if ci < 2 then ci.toInt64 else 1)) : OwnG 1 4 (Q0 Z pl cl k hs0 n0) p e below s (T0.setTop (mkF m 36 #[.val (.long pl), .second, .val (.long cl), .second, .val (.int k), .val (.int ci), .val (.int qi), .val (.ref b), .unset, .unset, .unset, .unset, .unset] [])) := by
  refine own_st (fun _ kk => XS.iload X0.here hx rfl (hb hby at_36) rfl kk) ?_
  show OwnG _ _ _ _ _ _ _ (T0.setTop (mkF m 38 #[.val (.long pl), .second, .val (.long cl), .second, .val (.int k), .val (.int ci), .val (.int qi), .val (.ref b), .unset, .unset, .unset, .unset, .unset] [(.int ci)]))
  refine own_st (fun _ kk => XS.iconst X0.here hx rfl (hb hby at_38) kk) ?_
  show OwnG _ _ _ _ _ _ _ (T0.setTop (mkF m 39 #[.val (.long pl), .second, .val (.long cl), .second, .val (.int k), .val (.int ci), .val (.int qi), .val (.ref b), .unset, .unset, .unset, .unset, .unset] [(.int (2 : Int32)), (.int ci)]))
  by_cases hq2 : ci < (2 : Int32)
  · have hu := own_up ci hci
    rw [hu.2.2.2.2.2.1 hq2] at B0
    refine own_st (fun _ kk => XS.icmpYes X0.here hx rfl (pc0 := 39) (pc' := 47) rfl (hb hby at_39) rfl (tlt hq2).1 (by decide) (by decide) kk) ?_
    show OwnG _ _ _ _ _ _ _ (T0.setTop (mkF m 47 #[.val (.long pl), .second, .val (.long cl), .second, .val (.int k), .val (.int ci), .val (.int qi), .val (.ref b), .unset, .unset, .unset, .unset, .unset] []))
    exact own_b47 hx hZ hw hby hml hown hrt hlk pl cl k ci qi hci hqi b n0 gb X0 e0 N0 Z0 B0
  · have hu := own_up ci hci
    rw [if_neg hq2] at B0
    refine own_st (fun _ kk => XS.icmpNo X0.here hx rfl (hb hby at_39) rfl (flt hq2).1 kk) ?_
    show OwnG _ _ _ _ _ _ _ (T0.setTop (mkF m 42 #[.val (.long pl), .second, .val (.long cl), .second, .val (.int k), .val (.int ci), .val (.int qi), .val (.ref b), .unset, .unset, .unset, .unset, .unset] []))
    refine own_st (fun _ kk => XS.aload X0.here hx rfl (hb hby at_42) rfl rfl kk) ?_
    show OwnG _ _ _ _ _ _ _ (T0.setTop (mkF m 44 #[.val (.long pl), .second, .val (.long cl), .second, .val (.int k), .val (.int ci), .val (.int qi), .val (.ref b), .unset, .unset, .unset, .unset, .unset] [(.ref b)]))
    obtain ⟨cq25, kq25, q25a, q25b, q25c⟩ := isOf hZ e0 B0.1
    obtain ⟨_, _, ⟨T25, L25, k25, n25⟩, -, X25, ⟨Lc25, hQ25, l25, y25, z25⟩, st25⟩ := X0.virtualBack hx (y := (⟨"com/example/reasoning_service_planner/reasoningserviceplanner/SolverBudget", "conflict", "()V"⟩ : MethodName)) (z := (⟨"com/example/reasoning_service_planner/reasoningserviceplanner/SolverBudget", "conflict", "()V"⟩ : MethodName)) hown (mvT hZ (hw _ (List.mem_of_getElem? (i := 32) rfl))) (mvT hZ (hw _ (List.mem_of_getElem? (i := 33) rfl))) (notFace_of_selects (args := #[]) (mvT hZ (hw _ (List.mem_of_getElem? (i := 35) rfl)))) (mvT hZ (hw _ (List.mem_of_getElem? (i := 35) rfl))) (mvT hZ (hw _ (List.mem_of_getElem? (i := 34) rfl))) (by decide) (backOf (W := 0) (rm6 l Z a0 hw [] b pl cl 0 1 2 h0 n0 Z0 (by decide) B0 gb) hZ (hw _ (List.mem_of_getElem? (i := 36) rfl)) (hw _ (List.mem_of_getElem? (i := 2) rfl)) (by decide) (by decide)) q25a q25c (g := (mkF m 44 #[.val (.long pl), .second, .val (.long cl), .second, .val (.int k), .val (.int ci), .val (.int qi), .val (.ref b), .unset, .unset, .unset, .unset, .unset] [(.ref b)])) rfl (by rw [hml]; rfl) (Steps.refl _) (argsL := []) (rest := []) (lenOf (by decide +kernel : parseMethodDescriptor "()V" = some ⟨[], none⟩) rfl) rfl (by show 2 * 0 + _ ≤ _; exact Nat.le_of_eq rfl) (hb hby at_44) (fun _ _ => ⟨rfl, e0, (by dsimp only [Pt.cells]; decide), (by dsimp only [Pt.slots]; decide)⟩)
    dsimp only [Pt.U, Pt.locs, Pt.cells, Pt.slots] at X25 l25 y25 z25 st25 hQ25
    subst l25 y25 z25
    obtain ⟨rfl, N25q, Z25, B25⟩ := hQ25
    have N25 := Fr.app N0 N25q
    refine own_go st25 ?_
    show OwnG _ _ _ _ _ _ _ (T25.setTop (mkF m 47 #[.val (.long pl), .second, .val (.long cl), .second, .val (.int k), .val (.int ci), .val (.int qi), .val (.ref b), .unset, .unset, .unset, .unset, .unset] []))
    rw [hu.2.1 hq2] at B25
    exact own_b47 hx hZ hw hby hml hown hrt hlk pl cl k ci qi hci hqi b n0 gb X25 rfl N25 Z25 B25
set_option maxRecDepth 65536 in
set_option maxHeartbeats 40000000 in
theorem own_b25 {p : Program} {l : Launch} {e : Env} {s : State} {m : MethodId} {args : Array Value} {below : List Frame} {meth : Method} {c : Code} {Z : State} {a0 : Array Value} (hx : p.tables.exec = Jvm.exec) (hZ : Z.Warmed39 s.vm) (hw : ∀ d ∈ tables_1, d.before a0 Z = true) (hby : c.code = code) (hml : c.maxLocals = 13) (hown : s.vm.findClass "com/example/reasoning_service_planner/reasoningserviceplanner/SolverBudgetPropagatePinLaw" = some m.cls) (hrt : meth.sig.returnType = ret) (hlk : meth.locks = false) (pl cl : Int64) (k ci qi : Int32) (hci : ci = 0 ∨ ci = 1 ∨ ci = 2 ∨ ci = 3) (hqi : qi = 0 ∨ qi = 1 ∨ qi = 2 ∨ qi = 3) (b : Addr) (n0 : Nat) (gb : n0 ≤ b) {hs0 : Heap} {T0 : State} {h0 : Heap} {locs : List Loc} (X0 : Stand p l e room_1 s m args below meth c T0 locs 1 4) (e0 : T0.heap = h0) (N0 : Fr n0 locs) (Z0 : n0 ≤ h0.size) (B0 : Bud Z h0 b pl cl 0 (if ci < 1 then ci.toInt64 else 0)) : OwnG 1 4 (Q0 Z pl cl k hs0 n0) p e below s (T0.setTop (mkF m 25 #[.val (.long pl), .second, .val (.long cl), .second, .val (.int k), .val (.int ci), .val (.int qi), .val (.ref b), .unset, .unset, .unset, .unset, .unset] [])) := by
  refine own_st (fun _ kk => XS.iload X0.here hx rfl (hb hby at_25) rfl kk) ?_
  show OwnG _ _ _ _ _ _ _ (T0.setTop (mkF m 27 #[.val (.long pl), .second, .val (.long cl), .second, .val (.int k), .val (.int ci), .val (.int qi), .val (.ref b), .unset, .unset, .unset, .unset, .unset] [(.int ci)]))
  refine own_st (fun _ kk => XS.iconst X0.here hx rfl (hb hby at_27) kk) ?_
  show OwnG _ _ _ _ _ _ _ (T0.setTop (mkF m 28 #[.val (.long pl), .second, .val (.long cl), .second, .val (.int k), .val (.int ci), .val (.int qi), .val (.ref b), .unset, .unset, .unset, .unset, .unset] [(.int (1 : Int32)), (.int ci)]))
  by_cases hq1 : ci < (1 : Int32)
  · have hu := own_up ci hci
    rw [hu.2.2.2.2.1 hq1] at B0
    refine own_st (fun _ kk => XS.icmpYes X0.here hx rfl (pc0 := 28) (pc' := 36) rfl (hb hby at_28) rfl (tlt hq1).1 (by decide) (by decide) kk) ?_
    show OwnG _ _ _ _ _ _ _ (T0.setTop (mkF m 36 #[.val (.long pl), .second, .val (.long cl), .second, .val (.int k), .val (.int ci), .val (.int qi), .val (.ref b), .unset, .unset, .unset, .unset, .unset] []))
    exact own_b36 hx hZ hw hby hml hown hrt hlk pl cl k ci qi hci hqi b n0 gb X0 e0 N0 Z0 B0
  · have hu := own_up ci hci
    rw [if_neg hq1] at B0
    refine own_st (fun _ kk => XS.icmpNo X0.here hx rfl (hb hby at_28) rfl (flt hq1).1 kk) ?_
    show OwnG _ _ _ _ _ _ _ (T0.setTop (mkF m 31 #[.val (.long pl), .second, .val (.long cl), .second, .val (.int k), .val (.int ci), .val (.int qi), .val (.ref b), .unset, .unset, .unset, .unset, .unset] []))
    refine own_st (fun _ kk => XS.aload X0.here hx rfl (hb hby at_31) rfl rfl kk) ?_
    show OwnG _ _ _ _ _ _ _ (T0.setTop (mkF m 33 #[.val (.long pl), .second, .val (.long cl), .second, .val (.int k), .val (.int ci), .val (.int qi), .val (.ref b), .unset, .unset, .unset, .unset, .unset] [(.ref b)]))
    obtain ⟨cq26, kq26, q26a, q26b, q26c⟩ := isOf hZ e0 B0.1
    obtain ⟨_, _, ⟨T26, L26, k26, n26⟩, -, X26, ⟨Lc26, hQ26, l26, y26, z26⟩, st26⟩ := X0.virtualBack hx (y := (⟨"com/example/reasoning_service_planner/reasoningserviceplanner/SolverBudget", "conflict", "()V"⟩ : MethodName)) (z := (⟨"com/example/reasoning_service_planner/reasoningserviceplanner/SolverBudget", "conflict", "()V"⟩ : MethodName)) hown (mvT hZ (hw _ (List.mem_of_getElem? (i := 32) rfl))) (mvT hZ (hw _ (List.mem_of_getElem? (i := 33) rfl))) (notFace_of_selects (args := #[]) (mvT hZ (hw _ (List.mem_of_getElem? (i := 35) rfl)))) (mvT hZ (hw _ (List.mem_of_getElem? (i := 35) rfl))) (mvT hZ (hw _ (List.mem_of_getElem? (i := 34) rfl))) (by decide) (backOf (W := 0) (rm6 l Z a0 hw [] b pl cl 0 0 1 h0 n0 Z0 (by decide) B0 gb) hZ (hw _ (List.mem_of_getElem? (i := 36) rfl)) (hw _ (List.mem_of_getElem? (i := 2) rfl)) (by decide) (by decide)) q26a q26c (g := (mkF m 33 #[.val (.long pl), .second, .val (.long cl), .second, .val (.int k), .val (.int ci), .val (.int qi), .val (.ref b), .unset, .unset, .unset, .unset, .unset] [(.ref b)])) rfl (by rw [hml]; rfl) (Steps.refl _) (argsL := []) (rest := []) (lenOf (by decide +kernel : parseMethodDescriptor "()V" = some ⟨[], none⟩) rfl) rfl (by show 2 * 0 + _ ≤ _; exact Nat.le_of_eq rfl) (hb hby at_33) (fun _ _ => ⟨rfl, e0, (by dsimp only [Pt.cells]; decide), (by dsimp only [Pt.slots]; decide)⟩)
    dsimp only [Pt.U, Pt.locs, Pt.cells, Pt.slots] at X26 l26 y26 z26 st26 hQ26
    subst l26 y26 z26
    obtain ⟨rfl, N26q, Z26, B26⟩ := hQ26
    have N26 := Fr.app N0 N26q
    refine own_go st26 ?_
    show OwnG _ _ _ _ _ _ _ (T26.setTop (mkF m 36 #[.val (.long pl), .second, .val (.long cl), .second, .val (.int k), .val (.int ci), .val (.int qi), .val (.ref b), .unset, .unset, .unset, .unset, .unset] []))
    rw [hu.1 hq1] at B26
    exact own_b36 hx hZ hw hby hml hown hrt hlk pl cl k ci qi hci hqi b n0 gb X26 rfl N26 Z26 B26
theorem pn_0 : plainName "com/example/reasoning_service_planner/reasoningserviceplanner/SolverBudgetPropagatePinLaw" = true := by first | (simp [plainName, overriddenIn]; done) | decide +kernel
theorem ef_0 (m : MethodId) (x0 : Int64) (x1 : Int64) (x2 : Int32) : entryFrame m #[(.long x0), (.long x1), (.int x2)] maxLocals = mkF m 0 #[.val (.long x0), .second, .val (.long x1), .second, .val (.int x2), .unset, .unset, .unset, .unset, .unset, .unset, .unset, .unset] [] := by first | (simp [entryFrame, mkF, argsToLocals, Value.category, maxLocals]; done) | rfl
set_option maxRecDepth 65536 in
set_option maxHeartbeats 40000000 in
theorem rm0 (l : Launch) (Z : State) (a0 : Array Value) (hw : ∀ d ∈ tables_1, d.before a0 Z = true) (ws : List Jvm.Cond) (pl : Int64) (cl : Int64) (k : Int32) (h0 : Heap) (n0 : Nat) (Z0 : n0 ≤ h0.size)  :
    MetFree l x (head1 (Jvm.Cond.code x code maxLocals ret :: ws) room_1) (fun a U => a = #[(.long pl), (.long cl), (.int k)] ∧ Z.Warmed39 U.vm ∧ U.heap = h0) (fun _ _ _ _ _ => True) (fun _ U o U' => ∃ v L, o = .returned v ∧ Q0 Z pl cl k h0 n0 v U'.heap L ∧ FrameEnd U o U' L 1 4) := by
  refine MetFree.of_bodySF (plainFor_of_name pn_0) hisR ?_
  intro p e s m args below meth c s₁ Bd hml0 hP hK
  obtain ⟨rfl, hZ, hh⟩ := hP
  have hx := Bd.exec
  have hby := Bd.bytes
  have hml : c.maxLocals = 13 := hml0
  have hown : s.vm.findClass "com/example/reasoning_service_planner/reasoningserviceplanner/SolverBudgetPropagatePinLaw" = some m.cls := findClass_of_methodNamed Bd.named
  have hnm := (name_of_methodNamed Bd.named Bd.method).1
  have hrt := Bd.returns
  have hlk : meth.locks = false := BodyLoose.notSynchronized Bd
  have X0 : Stand p l e room_1 s m #[(.long pl), (.long cl), (.int k)] below meth c s₁ [] 0 0 := Stand.of_body Bd
  have e0 : s₁.heap = h0 := by rw [← hh, Bd.state]; rfl
  have N0 := Fr.nil n0
  show OwnG 1 4 (Q0 Z pl cl k h0 n0) p e below s (s₁.setTop (entryFrame m #[(.long pl), (.long cl), (.int k)] maxLocals))
  refine own_st (σ' := s₁.setTop (mkF m 0 #[.val (.long pl), .second, .val (.long cl), .second, .val (.int k), .unset, .unset, .unset, .unset, .unset, .unset, .unset, .unset] [])) (fun _ kq_ => castTop (ef_0 m pl cl k) kq_) ?_
  show OwnG _ _ _ _ _ _ _ (s₁.setTop (mkF m 0 #[.val (.long pl), .second, .val (.long cl), .second, .val (.int k), .unset, .unset, .unset, .unset, .unset, .unset, .unset, .unset] []))
  refine own_st (fun _ kk => XS.iload X0.here hx rfl (hb hby at_0) rfl kk) ?_
  show OwnG _ _ _ _ _ _ _ (s₁.setTop (mkF m 2 #[.val (.long pl), .second, .val (.long cl), .second, .val (.int k), .unset, .unset, .unset, .unset, .unset, .unset, .unset, .unset] [(.int k)]))
  refine own_st (fun _ kk => XS.iconst X0.here hx rfl (hb hby at_2) kk) ?_
  show OwnG _ _ _ _ _ _ _ (s₁.setTop (mkF m 3 #[.val (.long pl), .second, .val (.long cl), .second, .val (.int k), .unset, .unset, .unset, .unset, .unset, .unset, .unset, .unset] [(.int (3 : Int32)), (.int k)]))
  refine own_st (fun _ kk => XS.iand X0.here hx rfl (hb hby at_3) rfl kk) ?_
  show OwnG _ _ _ _ _ _ _ (s₁.setTop (mkF m 4 #[.val (.long pl), .second, .val (.long cl), .second, .val (.int k), .unset, .unset, .unset, .unset, .unset, .unset, .unset, .unset] [(.int (k &&& (3 : Int32)))]))
  refine own_st (fun _ kk => XS.istore X0.here hx rfl (hb hby at_4) rfl (l' := #[.val (.long pl), .second, .val (.long cl), .second, .val (.int k), .val (.int (k &&& (3 : Int32))), .unset, .unset, .unset, .unset, .unset, .unset, .unset]) rfl kk) ?_
  show OwnG _ _ _ _ _ _ _ (s₁.setTop (mkF m 6 #[.val (.long pl), .second, .val (.long cl), .second, .val (.int k), .val (.int (k &&& (3 : Int32))), .unset, .unset, .unset, .unset, .unset, .unset, .unset] []))
  refine own_st (fun _ kk => XS.iload X0.here hx rfl (hb hby at_6) rfl kk) ?_
  show OwnG _ _ _ _ _ _ _ (s₁.setTop (mkF m 8 #[.val (.long pl), .second, .val (.long cl), .second, .val (.int k), .val (.int (k &&& (3 : Int32))), .unset, .unset, .unset, .unset, .unset, .unset, .unset] [(.int k)]))
  refine own_st (fun _ kk => XS.iconst X0.here hx rfl (hb hby at_8) kk) ?_
  show OwnG _ _ _ _ _ _ _ (s₁.setTop (mkF m 9 #[.val (.long pl), .second, .val (.long cl), .second, .val (.int k), .val (.int (k &&& (3 : Int32))), .unset, .unset, .unset, .unset, .unset, .unset, .unset] [(.int (2 : Int32)), (.int k)]))
  refine own_st (fun _ kk => XS.iushr X0.here hx rfl (hb hby at_9) rfl kk) ?_
  show OwnG _ _ _ _ _ _ _ (s₁.setTop (mkF m 10 #[.val (.long pl), .second, .val (.long cl), .second, .val (.int k), .val (.int (k &&& (3 : Int32))), .unset, .unset, .unset, .unset, .unset, .unset, .unset] [(.int ((k.toUInt32 >>> ((2 : Int32) &&& 31).toUInt32).toInt32))]))
  refine own_st (fun _ kk => XS.iconst X0.here hx rfl (hb hby at_10) kk) ?_
  show OwnG _ _ _ _ _ _ _ (s₁.setTop (mkF m 11 #[.val (.long pl), .second, .val (.long cl), .second, .val (.int k), .val (.int (k &&& (3 : Int32))), .unset, .unset, .unset, .unset, .unset, .unset, .unset] [(.int (3 : Int32)), (.int ((k.toUInt32 >>> ((2 : Int32) &&& 31).toUInt32).toInt32))]))
  refine own_st (fun _ kk => XS.iand X0.here hx rfl (hb hby at_11) rfl kk) ?_
  show OwnG _ _ _ _ _ _ _ (s₁.setTop (mkF m 12 #[.val (.long pl), .second, .val (.long cl), .second, .val (.int k), .val (.int (k &&& (3 : Int32))), .unset, .unset, .unset, .unset, .unset, .unset, .unset] [(.int (((k.toUInt32 >>> ((2 : Int32) &&& 31).toUInt32).toInt32) &&& (3 : Int32)))]))
  refine own_st (fun _ kk => XS.istore X0.here hx rfl (hb hby at_12) rfl (l' := #[.val (.long pl), .second, .val (.long cl), .second, .val (.int k), .val (.int (k &&& (3 : Int32))), .val (.int (((k.toUInt32 >>> ((2 : Int32) &&& 31).toUInt32).toInt32) &&& (3 : Int32))), .unset, .unset, .unset, .unset, .unset, .unset]) rfl kk) ?_
  show OwnG _ _ _ _ _ _ _ (s₁.setTop (mkF m 14 #[.val (.long pl), .second, .val (.long cl), .second, .val (.int k), .val (.int (k &&& (3 : Int32))), .val (.int (((k.toUInt32 >>> ((2 : Int32) &&& 31).toUInt32).toInt32) &&& (3 : Int32))), .unset, .unset, .unset, .unset, .unset, .unset] []))
  obtain ⟨T27, h27, X27, e27, E27, A27, D27, -, st27⟩ := newO X0 hx hZ hown (hw _ (List.mem_of_getElem? (i := 0) rfl)) (hw _ (List.mem_of_getElem? (i := 1) rfl)) (hw _ (List.mem_of_getElem? (i := 2) rfl)) e0 (g := (mkF m 14 #[.val (.long pl), .second, .val (.long cl), .second, .val (.int k), .val (.int (k &&& (3 : Int32))), .val (.int (((k.toUInt32 >>> ((2 : Int32) &&& 31).toUInt32).toInt32) &&& (3 : Int32))), .unset, .unset, .unset, .unset, .unset, .unset] [])) rfl (hb hby at_14) (by decide) (by decide)
  obtain ⟨b27, g27⟩ : ∃ z, z = h0.size := ⟨_, rfl⟩
  rw [← g27] at A27 D27 st27
  refine own_st st27 ?_
  show OwnG _ _ _ _ _ _ _ (T27.setTop (mkF m 17 #[.val (.long pl), .second, .val (.long cl), .second, .val (.int k), .val (.int (k &&& (3 : Int32))), .val (.int (((k.toUInt32 >>> ((2 : Int32) &&& 31).toUInt32).toInt32) &&& (3 : Int32))), .unset, .unset, .unset, .unset, .unset, .unset] [(.ref b27)]))
  have F27_propagationLimit : Fld Z h27 b27 "com/example/reasoning_service_planner/reasoningserviceplanner/SolverBudget" "propagationLimit" "J" (.long (0 : Int64)) := D27 (Or.inr (hw _ (List.mem_of_getElem? (i := 10) rfl))) (ty := .long) (by decide)
  have F27_conflictLimit : Fld Z h27 b27 "com/example/reasoning_service_planner/reasoningserviceplanner/SolverBudget" "conflictLimit" "J" (.long (0 : Int64)) := D27 (Or.inr (hw _ (List.mem_of_getElem? (i := 12) rfl))) (ty := .long) (by decide)
  have F27_propagations : Fld Z h27 b27 "com/example/reasoning_service_planner/reasoningserviceplanner/SolverBudget" "propagations" "J" (.long (0 : Int64)) := D27 (Or.inl (hw _ (List.mem_of_getElem? (i := 19) rfl))) (ty := .long) (by decide)
  have F27_conflicts : Fld Z h27 b27 "com/example/reasoning_service_planner/reasoningserviceplanner/SolverBudget" "conflicts" "J" (.long (0 : Int64)) := D27 (Or.inl (hw _ (List.mem_of_getElem? (i := 21) rfl))) (ty := .long) (by decide)
  have B27 : Bud Z h27 b27 0 0 0 0 := ⟨A27, F27_propagationLimit, F27_conflictLimit, F27_propagations, F27_conflicts⟩
  have Z27 : n0 ≤ h27.size := Nat.le_trans Z0 E27.1
  have gb : n0 ≤ b27 := Nat.le_trans Z0 (Nat.le_of_eq g27.symm)
  refine own_st (fun _ kk => XS.dup X27.here hx rfl (hb hby at_17) rfl rfl kk) ?_
  show OwnG _ _ _ _ _ _ _ (T27.setTop (mkF m 18 #[.val (.long pl), .second, .val (.long cl), .second, .val (.int k), .val (.int (k &&& (3 : Int32))), .val (.int (((k.toUInt32 >>> ((2 : Int32) &&& 31).toUInt32).toInt32) &&& (3 : Int32))), .unset, .unset, .unset, .unset, .unset, .unset] [(.ref b27), (.ref b27)]))
  refine own_st (fun _ kk => XS.lloadN X27.here hx rfl (hb hby at_18) rfl kk) ?_
  show OwnG _ _ _ _ _ _ _ (T27.setTop (mkF m 19 #[.val (.long pl), .second, .val (.long cl), .second, .val (.int k), .val (.int (k &&& (3 : Int32))), .val (.int (((k.toUInt32 >>> ((2 : Int32) &&& 31).toUInt32).toInt32) &&& (3 : Int32))), .unset, .unset, .unset, .unset, .unset, .unset] [(.long pl), (.ref b27), (.ref b27)]))
  refine own_st (fun _ kk => XS.lloadN X27.here hx rfl (hb hby at_19) rfl kk) ?_
  show OwnG _ _ _ _ _ _ _ (T27.setTop (mkF m 20 #[.val (.long pl), .second, .val (.long cl), .second, .val (.int k), .val (.int (k &&& (3 : Int32))), .val (.int (((k.toUInt32 >>> ((2 : Int32) &&& 31).toUInt32).toInt32) &&& (3 : Int32))), .unset, .unset, .unset, .unset, .unset, .unset] [(.long cl), (.long pl), (.ref b27), (.ref b27)]))
  obtain ⟨_, _, ⟨T28, L28, k28, n28⟩, -, X28, ⟨Lc28, hQ28, l28, y28, z28⟩, st28⟩ := X27.specialBack hx (y := (⟨"com/example/reasoning_service_planner/reasoningserviceplanner/SolverBudget", "<init>", "(JJ)V"⟩ : MethodName)) rfl hown (mvT hZ (hw _ (List.mem_of_getElem? (i := 3) rfl))) (mvT hZ (hw _ (List.mem_of_getElem? (i := 4) rfl))) (mvT hZ (hw _ (List.mem_of_getElem? (i := 5) rfl))) (by decide) (backOf (W := 1) (rm1 l Z a0 hw [] b27 pl cl h27 n0 Z27 B27 gb) hZ (hw _ (List.mem_of_getElem? (i := 5) rfl)) (hw _ (List.mem_of_getElem? (i := 2) rfl)) (by decide) (by decide)) (g := (mkF m 20 #[.val (.long pl), .second, .val (.long cl), .second, .val (.int k), .val (.int (k &&& (3 : Int32))), .val (.int (((k.toUInt32 >>> ((2 : Int32) &&& 31).toUInt32).toInt32) &&& (3 : Int32))), .unset, .unset, .unset, .unset, .unset, .unset] [(.long cl), (.long pl), (.ref b27), (.ref b27)])) rfl (by rw [hml]; rfl) (Steps.refl _) (a := b27) (argsL := [(.long pl), (.long cl)]) (rest := [(.ref b27)]) (lenOf (by decide +kernel : parseMethodDescriptor "(JJ)V" = some ⟨[.long, .long], none⟩) rfl) rfl (by show 2 * 0 + _ ≤ _; exact Nat.le_of_eq rfl) (hb hby at_20) (fun _ _ => ⟨rfl, e27, (by dsimp only [Pt.cells]; decide), (by dsimp only [Pt.slots]; decide)⟩)
  dsimp only [Pt.U, Pt.locs, Pt.cells, Pt.slots] at X28 l28 y28 z28 st28 hQ28
  subst l28 y28 z28
  obtain ⟨rfl, N28q, Z28, B28⟩ := hQ28
  have N28 := Fr.app N0 N28q
  refine own_go st28 ?_
  show OwnG _ _ _ _ _ _ _ (T28.setTop (mkF m 23 #[.val (.long pl), .second, .val (.long cl), .second, .val (.int k), .val (.int (k &&& (3 : Int32))), .val (.int (((k.toUInt32 >>> ((2 : Int32) &&& 31).toUInt32).toInt32) &&& (3 : Int32))), .unset, .unset, .unset, .unset, .unset, .unset] [(.ref b27)]))
  refine own_st (fun _ kk => XS.astore X28.here hx rfl (hb hby at_23) rfl rfl (l' := #[.val (.long pl), .second, .val (.long cl), .second, .val (.int k), .val (.int (k &&& (3 : Int32))), .val (.int (((k.toUInt32 >>> ((2 : Int32) &&& 31).toUInt32).toInt32) &&& (3 : Int32))), .val (.ref b27), .unset, .unset, .unset, .unset, .unset]) rfl kk) ?_
  show OwnG _ _ _ _ _ _ _ (T28.setTop (mkF m 25 #[.val (.long pl), .second, .val (.long cl), .second, .val (.int k), .val (.int (k &&& (3 : Int32))), .val (.int (((k.toUInt32 >>> ((2 : Int32) &&& 31).toUInt32).toInt32) &&& (3 : Int32))), .val (.ref b27), .unset, .unset, .unset, .unset, .unset] []))
  have hu := own_up (k &&& (3 : Int32)) (own_four _)
  have B9 : Bud Z T28.heap b27 pl cl 0 (if (k &&& (3 : Int32)) < 1 then ((k &&& (3 : Int32))).toInt64 else 0) := by rw [← hu.2.2.2.1]; exact B28
  exact own_b25 hx hZ hw hby hml hown hrt hlk pl cl k (k &&& (3 : Int32)) (((k.toUInt32 >>> ((2 : Int32) &&& 31).toUInt32).toInt32) &&& (3 : Int32)) (own_four _) (own_four _) b27 n0 gb X28 rfl N28 Z28 B9
set_option maxRecDepth 65536 in
set_option maxHeartbeats 40000000 in
theorem comes_1 {Post : Tables → Env → Array Value → State → Outcome → State → Prop} (hpost : ∀ tb e args s v u, (limb_1_1.after args s (.returned v) u = true ∧ limb_1_2.after args s (.returned v) u = true ∧ True) → FrameEnd s (.returned v) u (Jvm.fieldLocs frame_1_writes args s ++ Jvm.arrayLocs frame_1_arrays args s ++ Jvm.staticLocs frame_1_statics s) 16 128 → Post tb e args s (.returned v) u) :
    ArmFor flags0 classFile x code maxLocals ret World_1 tables_1 room_1 Calls_1 rest_1 Pre_1 Post := by
  intro l hfl _ _ p e ha hc hk s m args below hf hA hF happ hP
  obtain ⟨hcalls, hrest, hpre⟩ := hP
  obtain ⟨-, -, -, hnamed, -, -, -, hat⟩ := (Spec.applies_iff hf).mp happ
  obtain ⟨hg, hn⟩ := and_e (Cond.before_iff.mp (show (Jvm.Cond.and given_1 narrow_1).before args s = true from hpre))
  obtain ⟨gc, r0⟩ := and_e hg
  obtain ⟨g0, r1⟩ := and_e r0
  obtain ⟨g1, r2⟩ := and_e r1
  obtain ⟨w0, w1, w2, rfl⟩ : ∃ w0 w1 w2 : Value, args = #[w0, w1, w2] := by
    have hs : args.size = 3 := by simpa [Cond.value, given_1] using gc
    obtain ⟨L⟩ := args
    match L, hs with
    | [w0, w1, w2], _ => exact ⟨w0, w1, w2, rfl⟩
  have hw := fun d (hd : d ∈ tables_1) => atoms_spec (ws := Jvm.Cond.code x code maxLocals ret :: tables_1) hat d (List.mem_cons_of_mem _ hd)
  obtain ⟨i0, ei0⟩ := isL_v g0
  obtain rfl : w0 = (.long i0) := Option.some.inj ei0
  obtain ⟨i1, ei1⟩ := isL_v g1
  obtain rfl : w1 = (.long i1) := Option.some.inj ei1
  obtain ⟨i2, ei2⟩ := is_v r2
  obtain rfl : w2 = (.int i2) := Option.some.inj ei2
  obtain ⟨n, o, h1, h2, h3, _, L, rfl, ⟨rfl, N⟩, hq⟩ := rm0 l s _ hw tables_1 i0 i1 i2 s.heap s.heap.size (Nat.le_refl _) p e ha hc hk s m _ below hf ((Spec.applies_iff_loose hf).mp happ).1 ⟨rfl, State.Warmed39.refl s, rfl⟩ trivial
  refine ⟨n, _, h1, h2, h3, hpost _ _ _ _ _ _ ⟨Cond.after_iff.mpr rfl, Cond.after_iff.mpr (eq_i res_at (Term.int_eval (1)) rfl), trivial⟩ ⟨hq.1, hq.2.1, (hq.2.2.sift fun y hy => Or.inr (N y hy)).mono (by decide) (by decide)⟩⟩
theorem main_1_1 : Claimed_1_1 := comes_1 fun _ _ _ _ _ _ h hF => ⟨h.1, hF⟩
theorem main_1_2 : Claimed_1_2 := comes_1 fun _ _ _ _ _ _ h hF => ⟨h.2.1, hF⟩
end Jvm.Pilot.@@N@@
namespace Jvm.Pilot.@@N@@
open Jvm Jvm.ClassFile Sem Op Lib Jvm.Free Jvm.Stand Jvm.Pilot.@@N@@.Jvm.D
/-! MADE BY PROGRAM (witnessworld.py) out of the Statement's table words and the real class files: 9 classes; the members and pool entries that the words name. The judged class is class 1, her method 1. -/
namespace start1
open Jvm.ClassFile
def u (s : String) : CpInfo := .utf8 (stringToUtf16 s)
/-- a pool by its gaps: so many unusable entries, then the entry; so many at the end -/
def gap : Nat → List CpInfo → List CpInfo
  | 0, r => r
  | n + 1, r => .unusable :: gap n r
def poolList (es : List (Nat × CpInfo)) (last : Nat) : List CpInfo := es.foldr (fun e r => gap e.1 (e.2 :: r)) (gap last [])
def pool (es : List (Nat × CpInfo)) (last : Nat) : Array CpInfo := ⟨poolList es last⟩
def fileOf (pool : Array CpInfo) (this : Nat) (attrs : Array Attribute := #[]) (ms : Array MethodInfo := #[]) (fl : Nat := 33) (sup : Nat := 0) (ifs : Array Nat := #[]) (fds : Array FieldInfo := #[]) : ClassFile where
  minorVersion := 0
  majorVersion := 65
  constantPool := pool
  accessFlags := fl
  thisClass := this
  superClass := sup
  interfaces := ifs
  fields := fds
  methods := ms
  attributes := attrs
def plain (name : String) (sup : Option ClassId) : Class where
  name := name
  kind := .ordinary
  loader := none
  accessFlags := 33
  super := sup
  interfaces := #[]
  cf := none
  fields := #[]
  methods := #[]
  instanceTypes := #[]
  staticTypes := #[]
  resolved := #[]
  callSites := []
  init := .initialized
  statics := none
  mirror := none

def pool0 : Array CpInfo := pool [(5, u "<init>"), (0, u "()V"), (1, .class_ 10), (1, u "java/lang/Object")] 113

def k0c0 : Code := { maxStack := 0, maxLocals := 1, code := object_method_1_code, exceptionTable := #[], attributes := #[] }
def k0m0 : Method := { name := "<init>", desc := "()V", sig := { parameters := [], returnType := none }, accessFlags := 1, code := some k0c0 }
/-- java/lang/Object -/
def k0 : Class := { plain "java/lang/Object" none with
  accessFlags := 33
  interfaces := #[]
  cf := some (fileOf pool0 8 #[] #[{ accessFlags := 1, nameIndex := 5, descriptorIndex := 6, attributes := #[] }] 33 0 #[] #[])
  fields := #[]
  methods := #[k0m0]
  instanceTypes := #[]
  staticTypes := #[]
  resolved := Array.replicate 124 none
  statics := none }

def pool1 : Array CpInfo := pool [(2, .class_ 4), (1, u "java/lang/Object"), (0, u "<init>"), (0, u "()V"), (0, .class_ 8), (0, u "com/example/reasoning_service_planner/reasoningserviceplanner/SolverBudget"), (0, .methodref 7 10), (0, .nameAndType 5 11), (0, u "(JJ)V"), (0, .methodref 7 13), (0, .nameAndType 14 6), (0, u "conflict"), (0, .methodref 7 16), (0, .nameAndType 17 18), (0, u "propagate"), (0, u "()Z"), (0, .long 2), (1, .long 3), (1, .methodref 7 24), (0, .nameAndType 25 26), (0, u "propagations"), (0, u "()J"), (0, .methodref 7 28), (0, .nameAndType 29 26), (0, u "conflicts"), (0, .class_ 31), (0, u "com/example/reasoning_service_planner/reasoningserviceplanner/SolverBudgetPropagatePinLaw"), (2, u "law"), (0, u "(JJI)Z")] 3

def k1m0 : Method := { name := "<init>", desc := "()V", sig := { parameters := [], returnType := none }, accessFlags := 1, code := none }
def k1c1 : Code := { maxStack := 6, maxLocals := 13, code := code, exceptionTable := #[], attributes := #[] }
def k1m1 : Method := { name := "law", desc := "(JJI)Z", sig := { parameters := [.long, .long, .int], returnType := some .boolean }, accessFlags := 9, code := some k1c1 }
/-- com/example/reasoning_service_planner/reasoningserviceplanner/SolverBudgetPropagatePinLaw -/
def k1 : Class := { plain "com/example/reasoning_service_planner/reasoningserviceplanner/SolverBudgetPropagatePinLaw" (some 0) with
  accessFlags := 49
  interfaces := #[]
  cf := some (fileOf pool1 30 #[] #[{ accessFlags := 1, nameIndex := 5, descriptorIndex := 6, attributes := #[] }, { accessFlags := 9, nameIndex := 34, descriptorIndex := 35, attributes := #[] }] 49 2 #[] #[])
  fields := #[]
  methods := #[k1m0, k1m1]
  instanceTypes := #[]
  staticTypes := #[]
  resolved := Array.replicate 39 none
  statics := none }

def pool2 : Array CpInfo := pool [(1, .methodref 2 3), (0, .class_ 4), (0, .nameAndType 5 6), (0, u "java/lang/Object"), (0, u "<init>"), (0, u "()V"), (0, .fieldref 8 9), (0, .class_ 10), (0, .nameAndType 11 12), (0, u "com/example/reasoning_service_planner/reasoningserviceplanner/SolverBudget"), (0, u "propagationLimit"), (0, u "J"), (0, .fieldref 8 14), (0, .nameAndType 15 12), (0, u "conflictLimit"), (6, u "(JJ)V"), (0, .fieldref 8 24), (0, .nameAndType 25 12), (0, u "propagations"), (0, .fieldref 8 27), (0, .nameAndType 28 12), (0, u "conflicts"), (0, .class_ 30), (0, u "com/example/reasoning_service_planner/reasoningserviceplanner/SolverBudget$Spent"), (21, u "propagate"), (0, u "()Z"), (1, u "conflict"), (0, u "()J")] 6

def k2c0 : Code := { maxStack := 3, maxLocals := 5, code := prog_30_method_1_code, exceptionTable := #[], attributes := #[] }
def k2m0 : Method := { name := "<init>", desc := "(JJ)V", sig := { parameters := [.long, .long], returnType := none }, accessFlags := 0, code := some k2c0 }
def k2c1 : Code := { maxStack := 5, maxLocals := 1, code := prog_30_method_3_code, exceptionTable := #[], attributes := #[] }
def k2m1 : Method := { name := "propagate", desc := "()Z", sig := { parameters := [], returnType := some .boolean }, accessFlags := 0, code := some k2c1 }
def k2c2 : Code := { maxStack := 5, maxLocals := 1, code := prog_30_method_4_code, exceptionTable := #[], attributes := #[] }
def k2m2 : Method := { name := "conflict", desc := "()V", sig := { parameters := [], returnType := none }, accessFlags := 0, code := some k2c2 }
def k2c3 : Code := { maxStack := 2, maxLocals := 1, code := prog_30_method_5_code, exceptionTable := #[], attributes := #[] }
def k2m3 : Method := { name := "propagations", desc := "()J", sig := { parameters := [], returnType := some .long }, accessFlags := 0, code := some k2c3 }
def k2c4 : Code := { maxStack := 2, maxLocals := 1, code := prog_30_method_6_code, exceptionTable := #[], attributes := #[] }
def k2m4 : Method := { name := "conflicts", desc := "()J", sig := { parameters := [], returnType := some .long }, accessFlags := 0, code := some k2c4 }
/-- com/example/reasoning_service_planner/reasoningserviceplanner/SolverBudget -/
def k2 : Class := { plain "com/example/reasoning_service_planner/reasoningserviceplanner/SolverBudget" (some 0) with
  accessFlags := 32
  interfaces := #[]
  cf := some (fileOf pool2 8 #[.nestMembers #[29]] #[{ accessFlags := 0, nameIndex := 5, descriptorIndex := 22, attributes := #[] }, { accessFlags := 0, nameIndex := 52, descriptorIndex := 53, attributes := #[] }, { accessFlags := 0, nameIndex := 55, descriptorIndex := 6, attributes := #[] }, { accessFlags := 0, nameIndex := 25, descriptorIndex := 56, attributes := #[] }, { accessFlags := 0, nameIndex := 28, descriptorIndex := 56, attributes := #[] }] 32 2 #[] #[{ accessFlags := 18, nameIndex := 11, descriptorIndex := 12, attributes := #[] }, { accessFlags := 18, nameIndex := 15, descriptorIndex := 12, attributes := #[] }, { accessFlags := 2, nameIndex := 25, descriptorIndex := 12, attributes := #[] }, { accessFlags := 2, nameIndex := 28, descriptorIndex := 12, attributes := #[] }])
  fields := #[{ name := "propagationLimit", type := .long, accessFlags := 18, slot := 0, constantValue := 0 }, { name := "conflictLimit", type := .long, accessFlags := 18, slot := 1, constantValue := 0 }, { name := "propagations", type := .long, accessFlags := 2, slot := 2, constantValue := 0 }, { name := "conflicts", type := .long, accessFlags := 2, slot := 3, constantValue := 0 }]
  methods := #[k2m0, k2m1, k2m2, k2m3, k2m4]
  instanceTypes := #[.long, .long, .long, .long]
  staticTypes := #[]
  resolved := Array.replicate 63 none
  statics := none }

def pool3 : Array CpInfo := pool [(1, u "java/lang/Cloneable"), (0, .class_ 1), (0, u "java/lang/Object"), (0, .class_ 3)] 3

/-- java/lang/Cloneable -/
def k3 : Class := { plain "java/lang/Cloneable" (some 0) with
  accessFlags := 1537
  interfaces := #[]
  cf := some (fileOf pool3 2 #[] #[] 1537 4 #[] #[])
  fields := #[]
  methods := #[]
  instanceTypes := #[]
  staticTypes := #[]
  resolved := Array.replicate 8 none
  statics := none }

def pool4 : Array CpInfo := pool [(1, u "java/io/Serializable"), (0, .class_ 1), (0, u "java/lang/Object"), (0, .class_ 3)] 3

/-- java/io/Serializable -/
def k4 : Class := { plain "java/io/Serializable" (some 0) with
  accessFlags := 1537
  interfaces := #[]
  cf := some (fileOf pool4 2 #[] #[] 1537 4 #[] #[])
  fields := #[]
  methods := #[]
  instanceTypes := #[]
  staticTypes := #[]
  resolved := Array.replicate 8 none
  statics := none }

/-- the primitive byte -/
def k5 : Class := { plain "byte" none with kind := .primitive 'B', accessFlags := 0x411 }
/-- [B -/
def k6 : Class := { plain "[B" (some 0) with kind := .array 5 .byte, interfaces := #[3, 4], accessFlags := 1041 }

/-- the primitive int -/
def k7 : Class := { plain "int" none with kind := .primitive 'I', accessFlags := 0x411 }
/-- [I -/
def k8 : Class := { plain "[I" (some 0) with kind := .array 7 .int, interfaces := #[3, 4], accessFlags := 1041 }

def heap : Heap := #[]
def classes : Array Class := #[k0, k1, k2, k3, k4, k5, k6, k7, k8]
def interned : List (Array UInt16 × Addr) := []
def slotsUsed : Nat := 0
def theMethod : MethodId := ⟨1, 1⟩
def args0 : Array Value := #[.long 3, .long 2, .int 5]
def aboutOver (below : List Frame) : State where
  vm := { classes := classes, interned := interned.toArray }
  heap := heap
  slotsUsed := slotsUsed
  threads := #[{ frames := .invoking theMethod args0 :: below }]
def below0 : List Frame := [.native { method := ⟨0, 0⟩, args := #[] }]
def about1 : State := aboutOver below0
def p0 : Program := .bare "" "" ""
def e0 : Env := launch0.env 0 0 0
theorem w_frames : about1.frames = Frame.invoking theMethod args0 :: below0 := rfl
set_option maxRecDepth 65536 in
theorem w_args : argsFit about1.vm theMethod args0 = true := by decide +kernel
set_option maxRecDepth 65536 in
theorem w_heap : heapFits about1 = true := by decide +kernel
set_option maxRecDepth 65536 in
theorem w_runnable : about1.curStatus? = some .runnable := by decide +kernel
set_option maxRecDepth 65536 in
theorem w_alone : about1.alone = true := by decide +kernel
set_option maxRecDepth 65536 in
theorem w_named : about1.methodNamed? x = some theMethod := by decide +kernel
set_option maxRecDepth 65536 in
theorem w_hears : about1.hears theMethod below0 = true := by decide +kernel
set_option maxRecDepth 65536 in
theorem w_ripe : about1.ripe theMethod args0 below0 = true := by decide +kernel
theorem w_running : about1.status = .running := rfl
set_option maxRecDepth 65536 in
theorem w_room : about1.hasRoom e0.platform room_1 = true :=
  launch0.hasRoom_least _ room_1 (by decide +kernel) (by decide +kernel) (by decide +kernel) (by decide +kernel) (by decide +kernel) (by decide +kernel)
theorem allAtoms_all (ts : List Jvm.Cond) (a : Array Jvm.Value) (st : Jvm.State) : (allAtoms ts).before a st = ts.all (fun c => c.before a st) := by
  induction ts with
  | nil => rfl
  | cons c t ih =>
    show (Jvm.Cond.and c (allAtoms t)).before a st = _
    rw [Jvm.Cond.before_and, ih, List.all_cons]
def words1 : List Jvm.Cond := Jvm.Cond.code x code maxLocals ret :: tables_1
/-- a 'code' word, met by the world's own term for the bytes: nothing is compared byte by byte -/
theorem code_word {y : MethodName} {bytes : ByteArray} {mx : Nat} {rt : Option FieldType} {a : Array Value} {s : State} {m : MethodId} {meth : Method} {c : Code} (h1 : s.methodNamed? y = some m) (h2 : s.vm.method? m = some meth) (h3 : meth.code = some c) (h4 : c.code = bytes)
    (h5 : (c.maxLocals == mx && c.exceptionTable.isEmpty && decide (c.maxStack ≤ mostOperands) && decide (meth.sig.returnType = rt) && !meth.locks && decide (parseMethodDescriptor y.desc = some meth.sig)) = true) : (Jvm.Cond.code y bytes mx rt).before a s = true := by
  simp only [Bool.and_eq_true, beq_iff_eq, Bool.not_eq_true', decide_eq_true_eq] at h5
  obtain ⟨⟨⟨⟨⟨g1, g2⟩, g3⟩, g4⟩, g5⟩, g6⟩ := h5
  simp [Cond.before, Cond.holds, Cond.value, h1, h2, h3, h4, g1, g2, g3, g4, g5, g6]
def isCode : Jvm.Cond → Bool
  | .code _ _ _ _ => true
  | _ => false
theorem all_split {L : List Jvm.Cond} {P : Jvm.Cond → Bool} (h1 : L.all (fun c => isCode c || P c) = true) (h2 : ∀ c ∈ L.filter isCode, P c = true) : L.all P = true := by
  refine List.all_eq_true.mpr fun c hc => ?_
  have h := List.all_eq_true.mp h1 c hc
  rcases Bool.eq_false_or_eq_true (isCode c) with hi | hi
  · exact h2 c (List.mem_filter.mpr ⟨hc, hi⟩)
  · simpa [hi] using h
set_option maxRecDepth 65536 in
theorem w_c0 : (Jvm.Cond.code x code maxLocals ret).before args0 about1 = true := code_word (m := ⟨1, 1⟩) (meth := k1m1) (c := k1c1) (by decide +kernel) rfl rfl rfl (by decide +kernel)
set_option maxRecDepth 65536 in
theorem w_c1 : (Jvm.Cond.code ({ cls := "com/example/reasoning_service_planner/reasoningserviceplanner/SolverBudget", name := "<init>", desc := "(JJ)V" } : Jvm.MethodName) prog_30_method_1_code (5 : Nat) (Option.none : Option Jvm.ClassFile.FieldType)).before args0 about1 = true := code_word (m := ⟨2, 0⟩) (meth := k2m0) (c := k2c0) (by decide +kernel) rfl rfl rfl (by decide +kernel)
set_option maxRecDepth 65536 in
theorem w_c2 : (Jvm.Cond.code ({ cls := "java/lang/Object", name := "<init>", desc := "()V" } : Jvm.MethodName) object_method_1_code (1 : Nat) (Option.none : Option Jvm.ClassFile.FieldType)).before args0 about1 = true := code_word (m := ⟨0, 0⟩) (meth := k0m0) (c := k0c0) (by decide +kernel) rfl rfl rfl (by decide +kernel)
set_option maxRecDepth 65536 in
theorem w_c3 : (Jvm.Cond.code ({ cls := "com/example/reasoning_service_planner/reasoningserviceplanner/SolverBudget", name := "propagate", desc := "()Z" } : Jvm.MethodName) prog_30_method_3_code (1 : Nat) (Option.some Jvm.ClassFile.FieldType.boolean)).before args0 about1 = true := code_word (m := ⟨2, 1⟩) (meth := k2m1) (c := k2c1) (by decide +kernel) rfl rfl rfl (by decide +kernel)
set_option maxRecDepth 65536 in
theorem w_c4 : (Jvm.Cond.code ({ cls := "com/example/reasoning_service_planner/reasoningserviceplanner/SolverBudget", name := "propagations", desc := "()J" } : Jvm.MethodName) prog_30_method_5_code (1 : Nat) (Option.some Jvm.ClassFile.FieldType.long)).before args0 about1 = true := code_word (m := ⟨2, 3⟩) (meth := k2m3) (c := k2c3) (by decide +kernel) rfl rfl rfl (by decide +kernel)
set_option maxRecDepth 65536 in
theorem w_c5 : (Jvm.Cond.code ({ cls := "com/example/reasoning_service_planner/reasoningserviceplanner/SolverBudget", name := "conflicts", desc := "()J" } : Jvm.MethodName) prog_30_method_6_code (1 : Nat) (Option.some Jvm.ClassFile.FieldType.long)).before args0 about1 = true := code_word (m := ⟨2, 4⟩) (meth := k2m4) (c := k2c4) (by decide +kernel) rfl rfl rfl (by decide +kernel)
set_option maxRecDepth 65536 in
theorem w_c6 : (Jvm.Cond.code ({ cls := "com/example/reasoning_service_planner/reasoningserviceplanner/SolverBudget", name := "conflict", desc := "()V" } : Jvm.MethodName) prog_30_method_4_code (1 : Nat) (Option.none : Option Jvm.ClassFile.FieldType)).before args0 about1 = true := code_word (m := ⟨2, 2⟩) (meth := k2m2) (c := k2c2) (by decide +kernel) rfl rfl rfl (by decide +kernel)
def codes1 : List Jvm.Cond := [Jvm.Cond.code x code maxLocals ret, Jvm.Cond.code ({ cls := "com/example/reasoning_service_planner/reasoningserviceplanner/SolverBudget", name := "<init>", desc := "(JJ)V" } : Jvm.MethodName) prog_30_method_1_code (5 : Nat) (Option.none : Option Jvm.ClassFile.FieldType), Jvm.Cond.code ({ cls := "java/lang/Object", name := "<init>", desc := "()V" } : Jvm.MethodName) object_method_1_code (1 : Nat) (Option.none : Option Jvm.ClassFile.FieldType), Jvm.Cond.code ({ cls := "com/example/reasoning_service_planner/reasoningserviceplanner/SolverBudget", name := "propagate", desc := "()Z" } : Jvm.MethodName) prog_30_method_3_code (1 : Nat) (Option.some Jvm.ClassFile.FieldType.boolean), Jvm.Cond.code ({ cls := "com/example/reasoning_service_planner/reasoningserviceplanner/SolverBudget", name := "propagations", desc := "()J" } : Jvm.MethodName) prog_30_method_5_code (1 : Nat) (Option.some Jvm.ClassFile.FieldType.long), Jvm.Cond.code ({ cls := "com/example/reasoning_service_planner/reasoningserviceplanner/SolverBudget", name := "conflicts", desc := "()J" } : Jvm.MethodName) prog_30_method_6_code (1 : Nat) (Option.some Jvm.ClassFile.FieldType.long), Jvm.Cond.code ({ cls := "com/example/reasoning_service_planner/reasoningserviceplanner/SolverBudget", name := "conflict", desc := "()V" } : Jvm.MethodName) prog_30_method_4_code (1 : Nat) (Option.none : Option Jvm.ClassFile.FieldType)]
set_option maxRecDepth 65536 in
theorem codes_eq : words1.filter isCode = codes1 := rfl
theorem w_codes : ∀ c ∈ words1.filter isCode, c.before args0 about1 = true := by
  rw [codes_eq]
  intro c hc
  simp only [codes1, List.mem_cons, List.not_mem_nil, or_false] at hc
  rcases hc with rfl | rfl | rfl | rfl | rfl | rfl | rfl
  · exact w_c0
  · exact w_c1
  · exact w_c2
  · exact w_c3
  · exact w_c4
  · exact w_c5
  · exact w_c6
set_option maxRecDepth 65536 in
theorem w_t1 : (words1.take 24).all (fun c => isCode c || c.before args0 about1) = true := by decide +kernel
set_option maxRecDepth 65536 in
theorem w_t2 : (words1.drop 24).all (fun c => isCode c || c.before args0 about1) = true := by decide +kernel
theorem w_tables : (allAtoms (Jvm.Cond.code x code maxLocals ret :: tables_1)).before args0 about1 = true := by
  rw [allAtoms_all]
  show words1.all (fun c => c.before args0 about1) = true
  refine all_split ?_ w_codes
  rw [← List.take_append_drop 24 words1, List.all_append, w_t1, w_t2]
  rfl
set_option maxRecDepth 65536 in
theorem w_case : (Jvm.Cond.and given_1 narrow_1).before args0 about1 = true := by decide +kernel
theorem w_applies : (headSpec (Jvm.Cond.code x code maxLocals ret :: tables_1) room_1).applies x e0.platform about1 = true :=
  (Spec.applies_iff w_frames).mpr ⟨w_running, w_runnable, w_alone, w_named, w_hears, w_ripe, w_room, w_tables⟩
theorem atStart : AtStart classFile x code maxLocals ret World_1 tables_1 room_1 Calls_1 rest_1 Pre_1 launch0 p0 e0 about1 theMethod args0 below0 :=
  ⟨lists_1, trivial, launch0.admits_env _ _ _, launch0.least_env, fairChoices_fair.cas, fairChoices_fair.clock, w_frames, w_args, w_heap, w_applies, trivial, trivial, w_case⟩
end start1
theorem witness_1 : WitnessClaimed_1 := ⟨start1.p0, start1.e0, start1.about1, start1.theMethod, start1.args0, start1.below0, start1.atStart⟩
end Jvm.Pilot.@@N@@
