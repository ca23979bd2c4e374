import JvmDerived
import JvmDerived.Pilot.@@N@@Statement
import JvmDerived.Pilot.@@N@@Code
set_option linter.unusedVariables false
set_option linter.unusedSimpArgs false
namespace Jvm.RoadKit
open Sem ClassFile Op Lib Jvm.Stand Jvm.Free Jvm.LawKit
section New
variable {p : Program} {l : Launch} {e : Env} {R : Room} {s : State} {m : MethodId} {args : Array Value} {below : List Frame} {meth : Method} {c : Code} {T : State} {locs : List Loc} {cells slots : Nat}
theorem retI (X : Stand p l e R s m args below meth c T locs cells slots) (hx : p.tables.exec = Jvm.exec) {pc : Nat} {Ls : Array Slot} {z : Int32} {rest : List Value} (hret : meth.sig.returnType = some .int) (hd : decode c.code pc = .ok (.ireturn, 1)) {fs : List Frame}
    (hl : ∀ (f : JFrame) (acts : List Action), f.method = m → f.locked = none → f.entered = [] → (doReturn e (T.setTop f) acts (some (.int z))).1 = T.setFrames fs) : Steps p.tables e below (T.setTop (mkF m pc Ls (.int z :: rest))) (T.setFrames fs) :=
  retOut X hx hret rfl (Or.inl ⟨rfl, Or.inl rfl, z, rfl⟩) hd hl
end New
end Jvm.RoadKit
namespace Jvm.Pilot.@@N@@
open Jvm Jvm.ClassFile Sem Op Lib Jvm.Free Jvm.Stand Jvm.LawKit Jvm.RoadKit Bundle Jvm.Pilot.@@N@@.Jvm.D
def own_Q (Q : Option Value → Heap → List Loc → Prop) (v : Option Value) (h : Heap) (L : List Loc) : Prop := Q v h L
theorem own_sta {s : State} {args : Array Value} {C n d K : String} (h : (Jvm.Cond.exactly (Jvm.Term.static C n d) K).value args s none s [] = some true) (w1 : (Jvm.Cond.initialized C).before args s = true) (w2 : (Jvm.Cond.laysStatic C n d).before args s = true) :
    ∃ a, (Jvm.Term.static C n d).eval args s none [] s = some (.ref a) ∧ Sta s s.heap C n d (.ref a) ∧ Exa s s.heap a K := by
  obtain ⟨a, e⟩ := exa_v h
  exact ⟨a, e, Sta.start e (Or.inr ⟨w1, w2⟩), Exa.start e h⟩
theorem own_fi {s : State} {args : Array Value} {t : Jvm.Term} {a : Addr} {C f d : String} {z : Int32} (ev : t.eval args s none [] s = some (.ref a)) (h : (Jvm.Cond.eq (Jvm.Term.field t C f d) (Jvm.Term.int z)).value args s none s [] = some true) : Fld s s.heap a C f d (.int z) := by
  obtain ⟨x, y, e1, e2, k1, k2⟩ := cmp_v (Or.inl h)
  have ez : (Jvm.Term.int z).eval args s none [] s = some (.int z) := Term.int_eval z
  obtain rfl : y = .int z := Option.some.inj (e2.symm.trans ez)
  obtain ⟨w, rfl⟩ : ∃ w, x = .int w := k2
  have hv : (Jvm.Cond.eq (Jvm.Term.field t C f d) (Jvm.Term.int z)).value args s none s [] = some (decide (w = z)) := by simp [Cond.value, e1, ez]
  obtain rfl := gotT hv h
  rw [fld_at ev] at e1
  exact Fld.start e1
theorem own_fu {Z : State} {h : Heap} {a : Addr} {C f d : String} {x y : Value} (F : Fld Z h a C f d x) (G : Fld Z h a C f d y) : x = y := by
  obtain ⟨c1, cf1, k1, i1, f1, h1, h2, h3, h4, h5, h6, h7⟩ := F
  obtain ⟨c2, cf2, k2, i2, f2, g1, g2, g3, g4, g5, g6, g7⟩ := G
  cases h1.symm.trans g1
  cases h2.symm.trans g2
  exact Option.some.inj (h7.symm.trans g7)
theorem own_fne {Z : State} {h : Heap} {a b : Addr} {C f d : String} {x y : Int32} (F : Fld Z h a C f d (.int x)) (G : Fld Z h b C f d (.int y)) (hn : ¬ x = y) : ¬ a = b := fun e => by
  subst e; exact hn (Value.int.inj (own_fu F G))
def own_hv (c lt eq gt : Int32) : Int32 := if c < (0 : Int32) then lt else if c = (0 : Int32) then eq else gt
theorem own_lt {a b : Int32} : a < b ↔ a.toInt < b.toInt := Int32.lt_iff_toInt_lt
theorem own_eq {a b : Int32} : a = b ↔ a.toInt = b.toInt := Int32.toInt_inj.symm
theorem own_01 {c lt eq gt : Int32} (h1 : lt = 0 ∨ lt = 1) (h2 : eq = 0 ∨ eq = 1) (h3 : gt = 0 ∨ gt = 1) : own_hv c lt eq gt &&& 1 = own_hv c lt eq gt := by
  unfold own_hv
  split
  · rcases h1 with rfl | rfl <;> decide
  · split
    · rcases h2 with rfl | rfl <;> decide
    · rcases h3 with rfl | rfl <;> decide
theorem own_pd0 : parseMethodDescriptor "(I)Z" = some ⟨[.int], some .boolean⟩ := by decide +kernel
theorem own_pn0 : plainName "com/example/nomos/nomos/schema/Comparison$Operator" = true := by first | (simp [plainName, overriddenIn]; done) | decide +kernel
theorem own_pn1 : plainName "com/example/nomos/nomos/schema/OperatorHoldsPinLaw" = true := by first | (simp [plainName, overriddenIn]; done) | decide +kernel
theorem d1_0 : decode prog_88_method_4_code 0 = .ok (.iload_n 1, 1) := by decide +kernel
theorem d1_1 : decode prog_88_method_4_code 1 = .ok (.ifCond .ge 10, 3) := by decide +kernel
theorem d1_4 : decode prog_88_method_4_code 4 = .ok (.aload_n 0, 1) := by decide +kernel
theorem d1_5 : decode prog_88_method_4_code 5 = .ok (.getfield 45, 3) := by decide +kernel
theorem d1_8 : decode prog_88_method_4_code 8 = .ok (.goto 18, 3) := by decide +kernel
theorem d1_11 : decode prog_88_method_4_code 11 = .ok (.iload_n 1, 1) := by decide +kernel
theorem d1_12 : decode prog_88_method_4_code 12 = .ok (.ifCond .ne 10, 3) := by decide +kernel
theorem d1_15 : decode prog_88_method_4_code 15 = .ok (.aload_n 0, 1) := by decide +kernel
theorem d1_16 : decode prog_88_method_4_code 16 = .ok (.getfield 49, 3) := by decide +kernel
theorem d1_19 : decode prog_88_method_4_code 19 = .ok (.goto 7, 3) := by decide +kernel
theorem d1_22 : decode prog_88_method_4_code 22 = .ok (.aload_n 0, 1) := by decide +kernel
theorem d1_23 : decode prog_88_method_4_code 23 = .ok (.getfield 52, 3) := by decide +kernel
theorem d1_26 : decode prog_88_method_4_code 26 = .ok (.ireturn, 1) := by decide +kernel
set_option maxRecDepth 65536 in
set_option maxHeartbeats 40000000 in
theorem rm1 (l : Launch) (Z : State) (a0 : Array Value) (hw : ∀ d ∈ tables_1, d.before a0 Z = true) (ws : List Jvm.Cond) (a1 : Addr) (p1 : Int32) (lt eq gt : Int32) (h0 : Heap) (n0 : Nat) (Z0 : n0 ≤ h0.size) (FL : Fld Z h0 a1 "com/example/nomos/nomos/schema/Comparison$Operator" "less" "Z" (.int lt)) (FE : Fld Z h0 a1 "com/example/nomos/nomos/schema/Comparison$Operator" "equal" "Z" (.int eq)) (FG : Fld Z h0 a1 "com/example/nomos/nomos/schema/Comparison$Operator" "greater" "Z" (.int gt)) :
    MetFree l (⟨"com/example/nomos/nomos/schema/Comparison$Operator", "holds", "(I)Z"⟩ : MethodName) (head1 (Jvm.Cond.code (⟨"com/example/nomos/nomos/schema/Comparison$Operator", "holds", "(I)Z"⟩ : MethodName) prog_88_method_4_code 2 (some .boolean) :: ws) ({ frames := 0, cells := 0, slots := 0, locals := 0 } : Room)) (fun a U => a = #[(.ref a1), (.int p1)] ∧ Z.Warmed39 U.vm ∧ U.heap = h0) (fun _ _ _ _ _ => True) (fun _ U o U' => ∃ v L, o = .returned v ∧ own_Q (fun v h L => (v = some (.int (own_hv p1 lt eq gt &&& 1)) ∧ Fr n0 L ∧ h = h0)) v U'.heap L ∧ FrameEnd U o U' L ({ frames := 0, cells := 0, slots := 0, locals := 0 } : Room).cells ({ frames := 0, cells := 0, slots := 0, locals := 0 } : Room).slots) := by
  refine MetFree.of_bodySF (plainFor_of_name own_pn0) hisR ?_
  intro p e s m args below meth c s₁ Bd hml0 hP hK
  obtain ⟨rfl, hZ, hh⟩ := hP
  have hx := Bd.exec
  have hby := Bd.bytes
  have hml : c.maxLocals = 2 := hml0
  have hown : s.vm.findClass "com/example/nomos/nomos/schema/Comparison$Operator" = some m.cls := findClass_of_methodNamed Bd.named
  have hnm := (name_of_methodNamed Bd.named Bd.method).1
  have X0 : Stand p l e ({ frames := 0, cells := 0, slots := 0, locals := 0 } : Room) s m #[(.ref a1), (.int p1)] below meth c s₁ [] 0 0 := Stand.of_body Bd
  have e0 : s₁.heap = h0 := by rw [← hh, Bd.state]; rfl
  have N0 := Fr.nil n0
  have ef : entryFrame m #[(.ref a1), (.int p1)] 2 = mkF m 0 #[.val (.ref a1), .val (.int p1)] [] := by first | (simp [entryFrame, mkF, argsToLocals, Value.category]; done) | rfl
  have pre0 : ∀ t, Steps p.tables e below (s₁.setTop (mkF m 0 #[.val (.ref a1), .val (.int p1)] [])) t → Steps p.tables e below (s₁.setTop (entryFrame m #[(.ref a1), (.int p1)] 2)) t := fun t k => castTop ef k
  have pre1 : ∀ t, Steps p.tables e below (s₁.setTop (mkF m 1 #[.val (.ref a1), .val (.int p1)] [(.int p1)])) t → Steps p.tables e below (s₁.setTop (entryFrame m #[(.ref a1), (.int p1)] 2)) t := by
    intro t k
    refine pre0 _ ?_
    refine XS.iloadN X0.here hx rfl (hb hby d1_0) rfl ?_
    show Steps p.tables e below (s₁.setTop (mkF m 1 #[.val (.ref a1), .val (.int p1)] [(.int p1)])) _
    exact k
  by_cases hc1 : p1 < (0 : Int32)
  · have pre2 : ∀ t, Steps p.tables e below (s₁.setTop (mkF m 5 #[.val (.ref a1), .val (.int p1)] [(.ref a1)])) t → Steps p.tables e below (s₁.setTop (entryFrame m #[(.ref a1), (.int p1)] 2)) t := by
      intro t k
      refine pre1 _ ?_
      refine XS.ifNo X0.here hx rfl (hb hby d1_1) rfl ((if0 _ _).trans (tlt hc1).2.1) ?_
      show Steps p.tables e below (s₁.setTop (mkF m 4 #[.val (.ref a1), .val (.int p1)] [])) _
      refine XS.aloadN X0.here hx rfl (hb hby d1_4) rfl rfl ?_
      show Steps p.tables e below (s₁.setTop (mkF m 5 #[.val (.ref a1), .val (.int p1)] [(.ref a1)])) _
      exact k
    obtain ⟨T3, X3, e3, st3⟩ := getF X0 hx hZ hown (host := "") (Or.inl (hw _ (List.mem_of_getElem? (i := 13) rfl))) Via.refl e0 FL (g := (mkF m 5 #[.val (.ref a1), .val (.int p1)] [(.ref a1)])) rfl rfl (hb hby d1_5)
    have pre3 : ∀ t, Steps p.tables e below (T3.setTop (mkF m 8 #[.val (.ref a1), .val (.int p1)] [(.int lt)])) t → Steps p.tables e below (s₁.setTop (entryFrame m #[(.ref a1), (.int p1)] 2)) t := fun t k => pre2 t (st3 t k)
    have pre4 : ∀ t, Steps p.tables e below (T3.setTop (mkF m 26 #[.val (.ref a1), .val (.int p1)] [(.int lt)])) t → Steps p.tables e below (s₁.setTop (entryFrame m #[(.ref a1), (.int p1)] 2)) t := by
      intro t k
      refine pre3 _ ?_
      refine XS.goto X3.here hx rfl (pc0 := 8) (pc' := 26) rfl (hb hby d1_8) (by decide) (by decide) ?_
      show Steps p.tables e below (T3.setTop (mkF m 26 #[.val (.ref a1), .val (.int p1)] [(.int lt)])) _
      exact k
    obtain ⟨fs, hr, hrun, hended, hW, hsame⟩ := X3.leave (v := some (.int (lt &&& 1))) (fun h => by rw [Bd.returns] at h; cases h)
    refine ⟨_, _, pre4 _ ?_, hrun, hended, _, _, rfl, ?_, ⟨_, rfl⟩, hW, hsame.mono (by decide) (by decide)⟩
    · exact retN X3 hx (t := .boolean) Bd.returns (by simp) (hb hby d1_26) hr
    · show ((_ : Option Value) = some (.int (own_hv p1 lt eq gt &&& 1)) ∧ Fr n0 _ ∧ T3.heap = h0)
      rw [e3]
      exact ⟨by rw [own_hv, if_pos hc1], N0, rfl⟩
  · have pre5 : ∀ t, Steps p.tables e below (s₁.setTop (mkF m 12 #[.val (.ref a1), .val (.int p1)] [(.int p1)])) t → Steps p.tables e below (s₁.setTop (entryFrame m #[(.ref a1), (.int p1)] 2)) t := by
      intro t k
      refine pre1 _ ?_
      refine XS.ifYes X0.here hx rfl (pc0 := 1) (pc' := 11) rfl (hb hby d1_1) rfl ((if0 _ _).trans (flt hc1).2.1) (by decide) (by decide) ?_
      show Steps p.tables e below (s₁.setTop (mkF m 11 #[.val (.ref a1), .val (.int p1)] [])) _
      refine XS.iloadN X0.here hx rfl (hb hby d1_11) rfl ?_
      show Steps p.tables e below (s₁.setTop (mkF m 12 #[.val (.ref a1), .val (.int p1)] [(.int p1)])) _
      exact k
    by_cases hc2 : p1 = (0 : Int32)
    · have pre6 : ∀ t, Steps p.tables e below (s₁.setTop (mkF m 16 #[.val (.ref a1), .val (.int p1)] [(.ref a1)])) t → Steps p.tables e below (s₁.setTop (entryFrame m #[(.ref a1), (.int p1)] 2)) t := by
        intro t k
        refine pre5 _ ?_
        refine XS.ifNo X0.here hx rfl (hb hby d1_12) rfl ((if0 _ _).trans (teq hc2).2) ?_
        show Steps p.tables e below (s₁.setTop (mkF m 15 #[.val (.ref a1), .val (.int p1)] [])) _
        refine XS.aloadN X0.here hx rfl (hb hby d1_15) rfl rfl ?_
        show Steps p.tables e below (s₁.setTop (mkF m 16 #[.val (.ref a1), .val (.int p1)] [(.ref a1)])) _
        exact k
      obtain ⟨T7, X7, e7, st7⟩ := getF X0 hx hZ hown (host := "") (Or.inl (hw _ (List.mem_of_getElem? (i := 23) rfl))) Via.refl e0 FE (g := (mkF m 16 #[.val (.ref a1), .val (.int p1)] [(.ref a1)])) rfl rfl (hb hby d1_16)
      have pre7 : ∀ t, Steps p.tables e below (T7.setTop (mkF m 19 #[.val (.ref a1), .val (.int p1)] [(.int eq)])) t → Steps p.tables e below (s₁.setTop (entryFrame m #[(.ref a1), (.int p1)] 2)) t := fun t k => pre6 t (st7 t k)
      have pre8 : ∀ t, Steps p.tables e below (T7.setTop (mkF m 26 #[.val (.ref a1), .val (.int p1)] [(.int eq)])) t → Steps p.tables e below (s₁.setTop (entryFrame m #[(.ref a1), (.int p1)] 2)) t := by
        intro t k
        refine pre7 _ ?_
        refine XS.goto X7.here hx rfl (pc0 := 19) (pc' := 26) rfl (hb hby d1_19) (by decide) (by decide) ?_
        show Steps p.tables e below (T7.setTop (mkF m 26 #[.val (.ref a1), .val (.int p1)] [(.int eq)])) _
        exact k
      obtain ⟨fs, hr, hrun, hended, hW, hsame⟩ := X7.leave (v := some (.int (eq &&& 1))) (fun h => by rw [Bd.returns] at h; cases h)
      refine ⟨_, _, pre8 _ ?_, hrun, hended, _, _, rfl, ?_, ⟨_, rfl⟩, hW, hsame.mono (by decide) (by decide)⟩
      · exact retN X7 hx (t := .boolean) Bd.returns (by simp) (hb hby d1_26) hr
      · show ((_ : Option Value) = some (.int (own_hv p1 lt eq gt &&& 1)) ∧ Fr n0 _ ∧ T7.heap = h0)
        rw [e7]
        exact ⟨by rw [own_hv, if_neg hc1, if_pos hc2], N0, rfl⟩
    · have pre9 : ∀ t, Steps p.tables e below (s₁.setTop (mkF m 23 #[.val (.ref a1), .val (.int p1)] [(.ref a1)])) t → Steps p.tables e below (s₁.setTop (entryFrame m #[(.ref a1), (.int p1)] 2)) t := by
        intro t k
        refine pre5 _ ?_
        refine XS.ifYes X0.here hx rfl (pc0 := 12) (pc' := 22) rfl (hb hby d1_12) rfl ((if0 _ _).trans (feq hc2).2) (by decide) (by decide) ?_
        show Steps p.tables e below (s₁.setTop (mkF m 22 #[.val (.ref a1), .val (.int p1)] [])) _
        refine XS.aloadN X0.here hx rfl (hb hby d1_22) rfl rfl ?_
        show Steps p.tables e below (s₁.setTop (mkF m 23 #[.val (.ref a1), .val (.int p1)] [(.ref a1)])) _
        exact k
      obtain ⟨T10, X10, e10, st10⟩ := getF X0 hx hZ hown (host := "") (Or.inl (hw _ (List.mem_of_getElem? (i := 9) rfl))) Via.refl e0 FG (g := (mkF m 23 #[.val (.ref a1), .val (.int p1)] [(.ref a1)])) rfl rfl (hb hby d1_23)
      have pre10 : ∀ t, Steps p.tables e below (T10.setTop (mkF m 26 #[.val (.ref a1), .val (.int p1)] [(.int gt)])) t → Steps p.tables e below (s₁.setTop (entryFrame m #[(.ref a1), (.int p1)] 2)) t := fun t k => pre9 t (st10 t k)
      obtain ⟨fs, hr, hrun, hended, hW, hsame⟩ := X10.leave (v := some (.int (gt &&& 1))) (fun h => by rw [Bd.returns] at h; cases h)
      refine ⟨_, _, pre10 _ ?_, hrun, hended, _, _, rfl, ?_, ⟨_, rfl⟩, hW, hsame.mono (by decide) (by decide)⟩
      · exact retN X10 hx (t := .boolean) Bd.returns (by simp) (hb hby d1_26) hr
      · show ((_ : Option Value) = some (.int (own_hv p1 lt eq gt &&& 1)) ∧ Fr n0 _ ∧ T10.heap = h0)
        rw [e10]
        exact ⟨by rw [own_hv, if_neg hc1, if_neg hc2], N0, rfl⟩
set_option maxRecDepth 65536 in
set_option maxHeartbeats 40000000 in
theorem rm0 (l : Launch) (Z : State) (a0 : Array Value) (hw : ∀ d ∈ tables_1, d.before a0 Z = true) (ws : List Jvm.Cond) (p1 p2 : Int32) (o0 o1 o2 o3 o4 o5 : Addr) (h0 : Heap) (n0 : Nat) (Z0 : n0 ≤ h0.size) (S0 : Sta Z h0 "com/example/nomos/nomos/schema/Comparison$Operator" "EQUAL" "Lcom/example/nomos/nomos/schema/Comparison$Operator;" (.ref o0)) (E0 : Exa Z h0 o0 "com/example/nomos/nomos/schema/Comparison$Operator")(F0l : Fld Z h0 o0 "com/example/nomos/nomos/schema/Comparison$Operator" "less" "Z" (.int (0 : Int32))) (F0e : Fld Z h0 o0 "com/example/nomos/nomos/schema/Comparison$Operator" "equal" "Z" (.int (1 : Int32))) (F0g : Fld Z h0 o0 "com/example/nomos/nomos/schema/Comparison$Operator" "greater" "Z" (.int (0 : Int32))) (S1 : Sta Z h0 "com/example/nomos/nomos/schema/Comparison$Operator" "NOT_EQUAL" "Lcom/example/nomos/nomos/schema/Comparison$Operator;" (.ref o1)) (E1 : Exa Z h0 o1 "com/example/nomos/nomos/schema/Comparison$Operator")(F1l : Fld Z h0 o1 "com/example/nomos/nomos/schema/Comparison$Operator" "less" "Z" (.int (1 : Int32))) (F1e : Fld Z h0 o1 "com/example/nomos/nomos/schema/Comparison$Operator" "equal" "Z" (.int (0 : Int32))) (F1g : Fld Z h0 o1 "com/example/nomos/nomos/schema/Comparison$Operator" "greater" "Z" (.int (1 : Int32))) (S2 : Sta Z h0 "com/example/nomos/nomos/schema/Comparison$Operator" "LESS" "Lcom/example/nomos/nomos/schema/Comparison$Operator;" (.ref o2)) (E2 : Exa Z h0 o2 "com/example/nomos/nomos/schema/Comparison$Operator")(F2l : Fld Z h0 o2 "com/example/nomos/nomos/schema/Comparison$Operator" "less" "Z" (.int (1 : Int32))) (F2e : Fld Z h0 o2 "com/example/nomos/nomos/schema/Comparison$Operator" "equal" "Z" (.int (0 : Int32))) (F2g : Fld Z h0 o2 "com/example/nomos/nomos/schema/Comparison$Operator" "greater" "Z" (.int (0 : Int32))) (S3 : Sta Z h0 "com/example/nomos/nomos/schema/Comparison$Operator" "LESS_OR_EQUAL" "Lcom/example/nomos/nomos/schema/Comparison$Operator;" (.ref o3)) (E3 : Exa Z h0 o3 "com/example/nomos/nomos/schema/Comparison$Operator")(F3l : Fld Z h0 o3 "com/example/nomos/nomos/schema/Comparison$Operator" "less" "Z" (.int (1 : Int32))) (F3e : Fld Z h0 o3 "com/example/nomos/nomos/schema/Comparison$Operator" "equal" "Z" (.int (1 : Int32))) (F3g : Fld Z h0 o3 "com/example/nomos/nomos/schema/Comparison$Operator" "greater" "Z" (.int (0 : Int32))) (S4 : Sta Z h0 "com/example/nomos/nomos/schema/Comparison$Operator" "GREATER" "Lcom/example/nomos/nomos/schema/Comparison$Operator;" (.ref o4)) (E4 : Exa Z h0 o4 "com/example/nomos/nomos/schema/Comparison$Operator")(F4l : Fld Z h0 o4 "com/example/nomos/nomos/schema/Comparison$Operator" "less" "Z" (.int (0 : Int32))) (F4e : Fld Z h0 o4 "com/example/nomos/nomos/schema/Comparison$Operator" "equal" "Z" (.int (0 : Int32))) (F4g : Fld Z h0 o4 "com/example/nomos/nomos/schema/Comparison$Operator" "greater" "Z" (.int (1 : Int32))) (S5 : Sta Z h0 "com/example/nomos/nomos/schema/Comparison$Operator" "GREATER_OR_EQUAL" "Lcom/example/nomos/nomos/schema/Comparison$Operator;" (.ref o5)) (E5 : Exa Z h0 o5 "com/example/nomos/nomos/schema/Comparison$Operator")(F5l : Fld Z h0 o5 "com/example/nomos/nomos/schema/Comparison$Operator" "less" "Z" (.int (0 : Int32))) (F5e : Fld Z h0 o5 "com/example/nomos/nomos/schema/Comparison$Operator" "equal" "Z" (.int (1 : Int32))) (F5g : Fld Z h0 o5 "com/example/nomos/nomos/schema/Comparison$Operator" "greater" "Z" (.int (1 : Int32))) :
    MetFree l x (head1 (Jvm.Cond.code x code maxLocals ret :: ws) room_1) (fun a U => a = #[(.int p1), (.int p2)] ∧ Z.Warmed39 U.vm ∧ U.heap = h0) (fun _ _ _ _ _ => True) (fun _ U o U' => ∃ v L, o = .returned v ∧ own_Q (fun v h L => (v = some (.int 1) ∧ Fr n0 L)) v U'.heap L ∧ FrameEnd U o U' L room_1.cells room_1.slots) := by
  refine MetFree.of_bodySF (plainFor_of_name own_pn1) hisR ?_
  intro p e s m args below meth c s₁ Bd hml0 hP hK
  obtain ⟨rfl, hZ, hh⟩ := hP
  have hx := Bd.exec
  have hby := Bd.bytes
  have hml : c.maxLocals = 5 := hml0
  have hown : s.vm.findClass "com/example/nomos/nomos/schema/OperatorHoldsPinLaw" = some m.cls := findClass_of_methodNamed Bd.named
  have hnm := (name_of_methodNamed Bd.named Bd.method).1
  have X0 : Stand p l e room_1 s m #[(.int p1), (.int p2)] below meth c s₁ [] 0 0 := Stand.of_body Bd
  have e0 : s₁.heap = h0 := by rw [← hh, Bd.state]; rfl
  have N0 := Fr.nil n0
  have ef : entryFrame m #[(.int p1), (.int p2)] maxLocals = mkF m 0 #[.val (.int p1), .val (.int p2), .unset, .unset, .unset] [] := by first | (simp [entryFrame, mkF, argsToLocals, Value.category, maxLocals]; done) | rfl
  have pre0 : ∀ t, Steps p.tables e below (s₁.setTop (mkF m 0 #[.val (.int p1), .val (.int p2), .unset, .unset, .unset] [])) t → Steps p.tables e below (s₁.setTop (entryFrame m #[(.int p1), (.int p2)] maxLocals)) t := fun t k => castTop ef k
  have pre1 : ∀ t, Steps p.tables e below (s₁.setTop (mkF m 9 #[.val (.int p1), .val (.int p2), .val (.int ((p1 &&& (2147483647 : Int32)) % (6 : Int32))), .unset, .unset] [(.int ((p1 &&& (2147483647 : Int32)) % (6 : Int32)))])) t → Steps p.tables e below (s₁.setTop (entryFrame m #[(.int p1), (.int p2)] maxLocals)) t := by
    intro t k
    refine pre0 _ ?_
    refine XS.iloadN X0.here hx rfl (hb hby at_0) rfl ?_
    show Steps p.tables e below (s₁.setTop (mkF m 1 #[.val (.int p1), .val (.int p2), .unset, .unset, .unset] [(.int p1)])) _
    refine X0.ldcInt hx hown (mvT hZ (hw _ (List.mem_of_getElem? (i := 0) rfl))) (g := (mkF m 1 #[.val (.int p1), .val (.int p2), .unset, .unset, .unset] [(.int p1)])) rfl (hb hby at_1) _ ?_
    show Steps p.tables e below (s₁.setTop (mkF m 3 #[.val (.int p1), .val (.int p2), .unset, .unset, .unset] [(.int (2147483647 : Int32)), (.int p1)])) _
    refine XS.iand X0.here hx rfl (hb hby at_3) rfl ?_
    show Steps p.tables e below (s₁.setTop (mkF m 4 #[.val (.int p1), .val (.int p2), .unset, .unset, .unset] [(.int (p1 &&& (2147483647 : Int32)))])) _
    refine XS.bipush X0.here hx rfl (hb hby at_4) ?_
    show Steps p.tables e below (s₁.setTop (mkF m 6 #[.val (.int p1), .val (.int p2), .unset, .unset, .unset] [(.int (6 : Int32)), (.int (p1 &&& (2147483647 : Int32)))])) _
    refine iremM (g := (mkF m 6 #[.val (.int p1), .val (.int p2), .unset, .unset, .unset] [(.int (6 : Int32)), (.int (p1 &&& (2147483647 : Int32)))])) X0 hx rfl (hb hby at_6) rfl (by decide) ?_
    show Steps p.tables e below (s₁.setTop (mkF m 7 #[.val (.int p1), .val (.int p2), .unset, .unset, .unset] [(.int ((p1 &&& (2147483647 : Int32)) % (6 : Int32)))])) _
    refine XS.istoreN X0.here hx rfl (hb hby at_7) rfl (l' := #[.val (.int p1), .val (.int p2), .val (.int ((p1 &&& (2147483647 : Int32)) % (6 : Int32))), .unset, .unset]) rfl ?_
    show Steps p.tables e below (s₁.setTop (mkF m 8 #[.val (.int p1), .val (.int p2), .val (.int ((p1 &&& (2147483647 : Int32)) % (6 : Int32))), .unset, .unset] [])) _
    refine XS.iloadN X0.here hx rfl (hb hby at_8) rfl ?_
    show Steps p.tables e below (s₁.setTop (mkF m 9 #[.val (.int p1), .val (.int p2), .val (.int ((p1 &&& (2147483647 : Int32)) % (6 : Int32))), .unset, .unset] [(.int ((p1 &&& (2147483647 : Int32)) % (6 : Int32)))])) _
    exact k
  obtain ⟨TJ, XJ, eJ, oo, ex, lt, eq, gt, EJ, FJl, FJe, FJg, h01, hex, preJ⟩ : ∃ (TJ : State), Stand p l e room_1 s m #[(.int p1), (.int p2)] below meth c TJ [] 0 0 ∧ TJ.heap = h0 ∧ ∃ (oo : Addr) (ex lt eq gt : Int32), Exa Z h0 oo "com/example/nomos/nomos/schema/Comparison$Operator" ∧ Fld Z h0 oo "com/example/nomos/nomos/schema/Comparison$Operator" "less" "Z" (.int lt) ∧ Fld Z h0 oo "com/example/nomos/nomos/schema/Comparison$Operator" "equal" "Z" (.int eq) ∧ Fld Z h0 oo "com/example/nomos/nomos/schema/Comparison$Operator" "greater" "Z" (.int gt) ∧ ((lt = 0 ∨ lt = 1) ∧ (eq = 0 ∨ eq = 1) ∧ (gt = 0 ∨ gt = 1)) ∧ own_hv p2 lt eq gt = ex ∧ (∀ t, Steps p.tables e below (TJ.setTop (mkF m 137 #[.val (.int p1), .val (.int p2), .val (.int ((p1 &&& (2147483647 : Int32)) % (6 : Int32))), .val (.ref oo), .val (.int ex)] [])) t → Steps p.tables e below (s₁.setTop (entryFrame m #[(.int p1), (.int p2)] maxLocals)) t) := by
    by_cases hk0 : ((p1 &&& (2147483647 : Int32)) % (6 : Int32)) = (0 : Int32)
    · have pre2 : ∀ t, Steps p.tables e below (s₁.setTop (mkF m 12 #[.val (.int p1), .val (.int p2), .val (.int ((p1 &&& (2147483647 : Int32)) % (6 : Int32))), .unset, .unset] [])) t → Steps p.tables e below (s₁.setTop (entryFrame m #[(.int p1), (.int p2)] maxLocals)) t := by
        intro t k
        refine pre1 _ ?_
        refine XS.ifNo X0.here hx rfl (hb hby at_9) rfl ((if0 _ _).trans (teq hk0).2) ?_
        show Steps p.tables e below (s₁.setTop (mkF m 12 #[.val (.int p1), .val (.int p2), .val (.int ((p1 &&& (2147483647 : Int32)) % (6 : Int32))), .unset, .unset] [])) _
        exact k
      obtain ⟨T3, X3, e3, st3⟩ := getS (host := "") X0 hx hZ hown (hw _ (List.mem_of_getElem? (i := 1) rfl)) Via.refl e0 S0 (g := (mkF m 12 #[.val (.int p1), .val (.int p2), .val (.int ((p1 &&& (2147483647 : Int32)) % (6 : Int32))), .unset, .unset] [])) rfl (hb hby at_12)
      have pre3 : ∀ t, Steps p.tables e below (T3.setTop (mkF m 15 #[.val (.int p1), .val (.int p2), .val (.int ((p1 &&& (2147483647 : Int32)) % (6 : Int32))), .unset, .unset] [(.ref o0)])) t → Steps p.tables e below (s₁.setTop (entryFrame m #[(.int p1), (.int p2)] maxLocals)) t := fun t k => pre2 t (st3 t k)
      have pre4 : ∀ t, Steps p.tables e below (T3.setTop (mkF m 17 #[.val (.int p1), .val (.int p2), .val (.int ((p1 &&& (2147483647 : Int32)) % (6 : Int32))), .val (.ref o0), .unset] [(.int p2)])) t → Steps p.tables e below (s₁.setTop (entryFrame m #[(.int p1), (.int p2)] maxLocals)) t := by
        intro t k
        refine pre3 _ ?_
        refine XS.astoreN X3.here hx rfl (hb hby at_15) rfl rfl (l' := #[.val (.int p1), .val (.int p2), .val (.int ((p1 &&& (2147483647 : Int32)) % (6 : Int32))), .val (.ref o0), .unset]) rfl ?_
        show Steps p.tables e below (T3.setTop (mkF m 16 #[.val (.int p1), .val (.int p2), .val (.int ((p1 &&& (2147483647 : Int32)) % (6 : Int32))), .val (.ref o0), .unset] [])) _
        refine XS.iloadN X3.here hx rfl (hb hby at_16) rfl ?_
        show Steps p.tables e below (T3.setTop (mkF m 17 #[.val (.int p1), .val (.int p2), .val (.int ((p1 &&& (2147483647 : Int32)) % (6 : Int32))), .val (.ref o0), .unset] [(.int p2)])) _
        exact k
      by_cases hd : p2 = (0 : Int32)
      · have pre5 : ∀ t, Steps p.tables e below (T3.setTop (mkF m 137 #[.val (.int p1), .val (.int p2), .val (.int ((p1 &&& (2147483647 : Int32)) % (6 : Int32))), .val (.ref o0), .val (.int (1 : Int32))] [])) t → Steps p.tables e below (s₁.setTop (entryFrame m #[(.int p1), (.int p2)] maxLocals)) t := by
          intro t k
          refine pre4 _ ?_
          refine XS.ifNo X3.here hx rfl (hb hby at_17) rfl ((if0 _ _).trans (teq hd).2) ?_
          show Steps p.tables e below (T3.setTop (mkF m 20 #[.val (.int p1), .val (.int p2), .val (.int ((p1 &&& (2147483647 : Int32)) % (6 : Int32))), .val (.ref o0), .unset] [])) _
          refine XS.iconst X3.here hx rfl (hb hby at_20) ?_
          show Steps p.tables e below (T3.setTop (mkF m 21 #[.val (.int p1), .val (.int p2), .val (.int ((p1 &&& (2147483647 : Int32)) % (6 : Int32))), .val (.ref o0), .unset] [(.int (1 : Int32))])) _
          refine XS.goto X3.here hx rfl (pc0 := 21) (pc' := 25) rfl (hb hby at_21) (by decide) (by decide) ?_
          show Steps p.tables e below (T3.setTop (mkF m 25 #[.val (.int p1), .val (.int p2), .val (.int ((p1 &&& (2147483647 : Int32)) % (6 : Int32))), .val (.ref o0), .unset] [(.int (1 : Int32))])) _
          refine XS.istore X3.here hx rfl (hb hby at_25) rfl (l' := #[.val (.int p1), .val (.int p2), .val (.int ((p1 &&& (2147483647 : Int32)) % (6 : Int32))), .val (.ref o0), .val (.int (1 : Int32))]) rfl ?_
          show Steps p.tables e below (T3.setTop (mkF m 27 #[.val (.int p1), .val (.int p2), .val (.int ((p1 &&& (2147483647 : Int32)) % (6 : Int32))), .val (.ref o0), .val (.int (1 : Int32))] [])) _
          refine XS.goto X3.here hx rfl (pc0 := 27) (pc' := 137) rfl (hb hby at_27) (by decide) (by decide) ?_
          show Steps p.tables e below (T3.setTop (mkF m 137 #[.val (.int p1), .val (.int p2), .val (.int ((p1 &&& (2147483647 : Int32)) % (6 : Int32))), .val (.ref o0), .val (.int (1 : Int32))] [])) _
          exact k
        have hv : own_hv p2 (0 : Int32) (1 : Int32) (0 : Int32) = (1 : Int32) := by
          have e0 : (0 : Int32).toInt = 0 := rfl
          simp only [own_lt, own_eq, e0] at hd
          unfold own_hv
          simp only [own_lt, own_eq, e0]
          repeat' split
          all_goals first | rfl | (exfalso; omega)
        exact ⟨_, X3, e3, o0, _, _, _, _, E0, F0l, F0e, F0g, ⟨by decide, by decide, by decide⟩, hv, pre5⟩
      · have pre6 : ∀ t, Steps p.tables e below (T3.setTop (mkF m 137 #[.val (.int p1), .val (.int p2), .val (.int ((p1 &&& (2147483647 : Int32)) % (6 : Int32))), .val (.ref o0), .val (.int (0 : Int32))] [])) t → Steps p.tables e below (s₁.setTop (entryFrame m #[(.int p1), (.int p2)] maxLocals)) t := by
          intro t k
          refine pre4 _ ?_
          refine XS.ifYes X3.here hx rfl (pc0 := 17) (pc' := 24) rfl (hb hby at_17) rfl ((if0 _ _).trans (feq hd).2) (by decide) (by decide) ?_
          show Steps p.tables e below (T3.setTop (mkF m 24 #[.val (.int p1), .val (.int p2), .val (.int ((p1 &&& (2147483647 : Int32)) % (6 : Int32))), .val (.ref o0), .unset] [])) _
          refine XS.iconst X3.here hx rfl (hb hby at_24) ?_
          show Steps p.tables e below (T3.setTop (mkF m 25 #[.val (.int p1), .val (.int p2), .val (.int ((p1 &&& (2147483647 : Int32)) % (6 : Int32))), .val (.ref o0), .unset] [(.int (0 : Int32))])) _
          refine XS.istore X3.here hx rfl (hb hby at_25) rfl (l' := #[.val (.int p1), .val (.int p2), .val (.int ((p1 &&& (2147483647 : Int32)) % (6 : Int32))), .val (.ref o0), .val (.int (0 : Int32))]) rfl ?_
          show Steps p.tables e below (T3.setTop (mkF m 27 #[.val (.int p1), .val (.int p2), .val (.int ((p1 &&& (2147483647 : Int32)) % (6 : Int32))), .val (.ref o0), .val (.int (0 : Int32))] [])) _
          refine XS.goto X3.here hx rfl (pc0 := 27) (pc' := 137) rfl (hb hby at_27) (by decide) (by decide) ?_
          show Steps p.tables e below (T3.setTop (mkF m 137 #[.val (.int p1), .val (.int p2), .val (.int ((p1 &&& (2147483647 : Int32)) % (6 : Int32))), .val (.ref o0), .val (.int (0 : Int32))] [])) _
          exact k
        have hv : own_hv p2 (0 : Int32) (1 : Int32) (0 : Int32) = (0 : Int32) := by
          have e0 : (0 : Int32).toInt = 0 := rfl
          simp only [own_lt, own_eq, e0] at hd
          unfold own_hv
          simp only [own_lt, own_eq, e0]
          repeat' split
          all_goals first | rfl | (exfalso; omega)
        exact ⟨_, X3, e3, o0, _, _, _, _, E0, F0l, F0e, F0g, ⟨by decide, by decide, by decide⟩, hv, pre6⟩
    · have pre7 : ∀ t, Steps p.tables e below (s₁.setTop (mkF m 32 #[.val (.int p1), .val (.int p2), .val (.int ((p1 &&& (2147483647 : Int32)) % (6 : Int32))), .unset, .unset] [(.int (1 : Int32)), (.int ((p1 &&& (2147483647 : Int32)) % (6 : Int32)))])) t → Steps p.tables e below (s₁.setTop (entryFrame m #[(.int p1), (.int p2)] maxLocals)) t := by
        intro t k
        refine pre1 _ ?_
        refine XS.ifYes X0.here hx rfl (pc0 := 9) (pc' := 30) rfl (hb hby at_9) rfl ((if0 _ _).trans (feq hk0).2) (by decide) (by decide) ?_
        show Steps p.tables e below (s₁.setTop (mkF m 30 #[.val (.int p1), .val (.int p2), .val (.int ((p1 &&& (2147483647 : Int32)) % (6 : Int32))), .unset, .unset] [])) _
        refine XS.iloadN X0.here hx rfl (hb hby at_30) rfl ?_
        show Steps p.tables e below (s₁.setTop (mkF m 31 #[.val (.int p1), .val (.int p2), .val (.int ((p1 &&& (2147483647 : Int32)) % (6 : Int32))), .unset, .unset] [(.int ((p1 &&& (2147483647 : Int32)) % (6 : Int32)))])) _
        refine XS.iconst X0.here hx rfl (hb hby at_31) ?_
        show Steps p.tables e below (s₁.setTop (mkF m 32 #[.val (.int p1), .val (.int p2), .val (.int ((p1 &&& (2147483647 : Int32)) % (6 : Int32))), .unset, .unset] [(.int (1 : Int32)), (.int ((p1 &&& (2147483647 : Int32)) % (6 : Int32)))])) _
        exact k
      by_cases hk1 : ((p1 &&& (2147483647 : Int32)) % (6 : Int32)) = (1 : Int32)
      · have pre8 : ∀ t, Steps p.tables e below (s₁.setTop (mkF m 35 #[.val (.int p1), .val (.int p2), .val (.int ((p1 &&& (2147483647 : Int32)) % (6 : Int32))), .unset, .unset] [])) t → Steps p.tables e below (s₁.setTop (entryFrame m #[(.int p1), (.int p2)] maxLocals)) t := by
          intro t k
          refine pre7 _ ?_
          refine XS.icmpNo X0.here hx rfl (hb hby at_32) rfl (teq hk1).2 ?_
          show Steps p.tables e below (s₁.setTop (mkF m 35 #[.val (.int p1), .val (.int p2), .val (.int ((p1 &&& (2147483647 : Int32)) % (6 : Int32))), .unset, .unset] [])) _
          exact k
        obtain ⟨T9, X9, e9, st9⟩ := getS (host := "") X0 hx hZ hown (hw _ (List.mem_of_getElem? (i := 17) rfl)) Via.refl e0 S1 (g := (mkF m 35 #[.val (.int p1), .val (.int p2), .val (.int ((p1 &&& (2147483647 : Int32)) % (6 : Int32))), .unset, .unset] [])) rfl (hb hby at_35)
        have pre9 : ∀ t, Steps p.tables e below (T9.setTop (mkF m 38 #[.val (.int p1), .val (.int p2), .val (.int ((p1 &&& (2147483647 : Int32)) % (6 : Int32))), .unset, .unset] [(.ref o1)])) t → Steps p.tables e below (s₁.setTop (entryFrame m #[(.int p1), (.int p2)] maxLocals)) t := fun t k => pre8 t (st9 t k)
        have pre10 : ∀ t, Steps p.tables e below (T9.setTop (mkF m 40 #[.val (.int p1), .val (.int p2), .val (.int ((p1 &&& (2147483647 : Int32)) % (6 : Int32))), .val (.ref o1), .unset] [(.int p2)])) t → Steps p.tables e below (s₁.setTop (entryFrame m #[(.int p1), (.int p2)] maxLocals)) t := by
          intro t k
          refine pre9 _ ?_
          refine XS.astoreN X9.here hx rfl (hb hby at_38) rfl rfl (l' := #[.val (.int p1), .val (.int p2), .val (.int ((p1 &&& (2147483647 : Int32)) % (6 : Int32))), .val (.ref o1), .unset]) rfl ?_
          show Steps p.tables e below (T9.setTop (mkF m 39 #[.val (.int p1), .val (.int p2), .val (.int ((p1 &&& (2147483647 : Int32)) % (6 : Int32))), .val (.ref o1), .unset] [])) _
          refine XS.iloadN X9.here hx rfl (hb hby at_39) rfl ?_
          show Steps p.tables e below (T9.setTop (mkF m 40 #[.val (.int p1), .val (.int p2), .val (.int ((p1 &&& (2147483647 : Int32)) % (6 : Int32))), .val (.ref o1), .unset] [(.int p2)])) _
          exact k
        by_cases hd : p2 = (0 : Int32)
        · have pre11 : ∀ t, Steps p.tables e below (T9.setTop (mkF m 137 #[.val (.int p1), .val (.int p2), .val (.int ((p1 &&& (2147483647 : Int32)) % (6 : Int32))), .val (.ref o1), .val (.int (0 : Int32))] [])) t → Steps p.tables e below (s₁.setTop (entryFrame m #[(.int p1), (.int p2)] maxLocals)) t := by
            intro t k
            refine pre10 _ ?_
            refine XS.ifYes X9.here hx rfl (pc0 := 40) (pc' := 47) rfl (hb hby at_40) rfl ((if0 _ _).trans (teq hd).1) (by decide) (by decide) ?_
            show Steps p.tables e below (T9.setTop (mkF m 47 #[.val (.int p1), .val (.int p2), .val (.int ((p1 &&& (2147483647 : Int32)) % (6 : Int32))), .val (.ref o1), .unset] [])) _
            refine XS.iconst X9.here hx rfl (hb hby at_47) ?_
            show Steps p.tables e below (T9.setTop (mkF m 48 #[.val (.int p1), .val (.int p2), .val (.int ((p1 &&& (2147483647 : Int32)) % (6 : Int32))), .val (.ref o1), .unset] [(.int (0 : Int32))])) _
            refine XS.istore X9.here hx rfl (hb hby at_48) rfl (l' := #[.val (.int p1), .val (.int p2), .val (.int ((p1 &&& (2147483647 : Int32)) % (6 : Int32))), .val (.ref o1), .val (.int (0 : Int32))]) rfl ?_
            show Steps p.tables e below (T9.setTop (mkF m 50 #[.val (.int p1), .val (.int p2), .val (.int ((p1 &&& (2147483647 : Int32)) % (6 : Int32))), .val (.ref o1), .val (.int (0 : Int32))] [])) _
            refine XS.goto X9.here hx rfl (pc0 := 50) (pc' := 137) rfl (hb hby at_50) (by decide) (by decide) ?_
            show Steps p.tables e below (T9.setTop (mkF m 137 #[.val (.int p1), .val (.int p2), .val (.int ((p1 &&& (2147483647 : Int32)) % (6 : Int32))), .val (.ref o1), .val (.int (0 : Int32))] [])) _
            exact k
          have hv : own_hv p2 (1 : Int32) (0 : Int32) (1 : Int32) = (0 : Int32) := by
            have e0 : (0 : Int32).toInt = 0 := rfl
            simp only [own_lt, own_eq, e0] at hd
            unfold own_hv
            simp only [own_lt, own_eq, e0]
            repeat' split
            all_goals first | rfl | (exfalso; omega)
          exact ⟨_, X9, e9, o1, _, _, _, _, E1, F1l, F1e, F1g, ⟨by decide, by decide, by decide⟩, hv, pre11⟩
        · have pre12 : ∀ t, Steps p.tables e below (T9.setTop (mkF m 137 #[.val (.int p1), .val (.int p2), .val (.int ((p1 &&& (2147483647 : Int32)) % (6 : Int32))), .val (.ref o1), .val (.int (1 : Int32))] [])) t → Steps p.tables e below (s₁.setTop (entryFrame m #[(.int p1), (.int p2)] maxLocals)) t := by
            intro t k
            refine pre10 _ ?_
            refine XS.ifNo X9.here hx rfl (hb hby at_40) rfl ((if0 _ _).trans (feq hd).1) ?_
            show Steps p.tables e below (T9.setTop (mkF m 43 #[.val (.int p1), .val (.int p2), .val (.int ((p1 &&& (2147483647 : Int32)) % (6 : Int32))), .val (.ref o1), .unset] [])) _
            refine XS.iconst X9.here hx rfl (hb hby at_43) ?_
            show Steps p.tables e below (T9.setTop (mkF m 44 #[.val (.int p1), .val (.int p2), .val (.int ((p1 &&& (2147483647 : Int32)) % (6 : Int32))), .val (.ref o1), .unset] [(.int (1 : Int32))])) _
            refine XS.goto X9.here hx rfl (pc0 := 44) (pc' := 48) rfl (hb hby at_44) (by decide) (by decide) ?_
            show Steps p.tables e below (T9.setTop (mkF m 48 #[.val (.int p1), .val (.int p2), .val (.int ((p1 &&& (2147483647 : Int32)) % (6 : Int32))), .val (.ref o1), .unset] [(.int (1 : Int32))])) _
            refine XS.istore X9.here hx rfl (hb hby at_48) rfl (l' := #[.val (.int p1), .val (.int p2), .val (.int ((p1 &&& (2147483647 : Int32)) % (6 : Int32))), .val (.ref o1), .val (.int (1 : Int32))]) rfl ?_
            show Steps p.tables e below (T9.setTop (mkF m 50 #[.val (.int p1), .val (.int p2), .val (.int ((p1 &&& (2147483647 : Int32)) % (6 : Int32))), .val (.ref o1), .val (.int (1 : Int32))] [])) _
            refine XS.goto X9.here hx rfl (pc0 := 50) (pc' := 137) rfl (hb hby at_50) (by decide) (by decide) ?_
            show Steps p.tables e below (T9.setTop (mkF m 137 #[.val (.int p1), .val (.int p2), .val (.int ((p1 &&& (2147483647 : Int32)) % (6 : Int32))), .val (.ref o1), .val (.int (1 : Int32))] [])) _
            exact k
          have hv : own_hv p2 (1 : Int32) (0 : Int32) (1 : Int32) = (1 : Int32) := by
            have e0 : (0 : Int32).toInt = 0 := rfl
            simp only [own_lt, own_eq, e0] at hd
            unfold own_hv
            simp only [own_lt, own_eq, e0]
            repeat' split
            all_goals first | rfl | (exfalso; omega)
          exact ⟨_, X9, e9, o1, _, _, _, _, E1, F1l, F1e, F1g, ⟨by decide, by decide, by decide⟩, hv, pre12⟩
      · have pre13 : ∀ t, Steps p.tables e below (s₁.setTop (mkF m 55 #[.val (.int p1), .val (.int p2), .val (.int ((p1 &&& (2147483647 : Int32)) % (6 : Int32))), .unset, .unset] [(.int (2 : Int32)), (.int ((p1 &&& (2147483647 : Int32)) % (6 : Int32)))])) t → Steps p.tables e below (s₁.setTop (entryFrame m #[(.int p1), (.int p2)] maxLocals)) t := by
          intro t k
          refine pre7 _ ?_
          refine XS.icmpYes X0.here hx rfl (pc0 := 32) (pc' := 53) rfl (hb hby at_32) rfl (feq hk1).2 (by decide) (by decide) ?_
          show Steps p.tables e below (s₁.setTop (mkF m 53 #[.val (.int p1), .val (.int p2), .val (.int ((p1 &&& (2147483647 : Int32)) % (6 : Int32))), .unset, .unset] [])) _
          refine XS.iloadN X0.here hx rfl (hb hby at_53) rfl ?_
          show Steps p.tables e below (s₁.setTop (mkF m 54 #[.val (.int p1), .val (.int p2), .val (.int ((p1 &&& (2147483647 : Int32)) % (6 : Int32))), .unset, .unset] [(.int ((p1 &&& (2147483647 : Int32)) % (6 : Int32)))])) _
          refine XS.iconst X0.here hx rfl (hb hby at_54) ?_
          show Steps p.tables e below (s₁.setTop (mkF m 55 #[.val (.int p1), .val (.int p2), .val (.int ((p1 &&& (2147483647 : Int32)) % (6 : Int32))), .unset, .unset] [(.int (2 : Int32)), (.int ((p1 &&& (2147483647 : Int32)) % (6 : Int32)))])) _
          exact k
        by_cases hk2 : ((p1 &&& (2147483647 : Int32)) % (6 : Int32)) = (2 : Int32)
        · have pre14 : ∀ t, Steps p.tables e below (s₁.setTop (mkF m 58 #[.val (.int p1), .val (.int p2), .val (.int ((p1 &&& (2147483647 : Int32)) % (6 : Int32))), .unset, .unset] [])) t → Steps p.tables e below (s₁.setTop (entryFrame m #[(.int p1), (.int p2)] maxLocals)) t := by
            intro t k
            refine pre13 _ ?_
            refine XS.icmpNo X0.here hx rfl (hb hby at_55) rfl (teq hk2).2 ?_
            show Steps p.tables e below (s₁.setTop (mkF m 58 #[.val (.int p1), .val (.int p2), .val (.int ((p1 &&& (2147483647 : Int32)) % (6 : Int32))), .unset, .unset] [])) _
            exact k
          obtain ⟨T15, X15, e15, st15⟩ := getS (host := "") X0 hx hZ hown (hw _ (List.mem_of_getElem? (i := 11) rfl)) Via.refl e0 S2 (g := (mkF m 58 #[.val (.int p1), .val (.int p2), .val (.int ((p1 &&& (2147483647 : Int32)) % (6 : Int32))), .unset, .unset] [])) rfl (hb hby at_58)
          have pre15 : ∀ t, Steps p.tables e below (T15.setTop (mkF m 61 #[.val (.int p1), .val (.int p2), .val (.int ((p1 &&& (2147483647 : Int32)) % (6 : Int32))), .unset, .unset] [(.ref o2)])) t → Steps p.tables e below (s₁.setTop (entryFrame m #[(.int p1), (.int p2)] maxLocals)) t := fun t k => pre14 t (st15 t k)
          have pre16 : ∀ t, Steps p.tables e below (T15.setTop (mkF m 63 #[.val (.int p1), .val (.int p2), .val (.int ((p1 &&& (2147483647 : Int32)) % (6 : Int32))), .val (.ref o2), .unset] [(.int p2)])) t → Steps p.tables e below (s₁.setTop (entryFrame m #[(.int p1), (.int p2)] maxLocals)) t := by
            intro t k
            refine pre15 _ ?_
            refine XS.astoreN X15.here hx rfl (hb hby at_61) rfl rfl (l' := #[.val (.int p1), .val (.int p2), .val (.int ((p1 &&& (2147483647 : Int32)) % (6 : Int32))), .val (.ref o2), .unset]) rfl ?_
            show Steps p.tables e below (T15.setTop (mkF m 62 #[.val (.int p1), .val (.int p2), .val (.int ((p1 &&& (2147483647 : Int32)) % (6 : Int32))), .val (.ref o2), .unset] [])) _
            refine XS.iloadN X15.here hx rfl (hb hby at_62) rfl ?_
            show Steps p.tables e below (T15.setTop (mkF m 63 #[.val (.int p1), .val (.int p2), .val (.int ((p1 &&& (2147483647 : Int32)) % (6 : Int32))), .val (.ref o2), .unset] [(.int p2)])) _
            exact k
          by_cases hd : p2 < (0 : Int32)
          · have pre17 : ∀ t, Steps p.tables e below (T15.setTop (mkF m 137 #[.val (.int p1), .val (.int p2), .val (.int ((p1 &&& (2147483647 : Int32)) % (6 : Int32))), .val (.ref o2), .val (.int (1 : Int32))] [])) t → Steps p.tables e below (s₁.setTop (entryFrame m #[(.int p1), (.int p2)] maxLocals)) t := by
              intro t k
              refine pre16 _ ?_
              refine XS.ifNo X15.here hx rfl (hb hby at_63) rfl ((if0 _ _).trans (tlt hd).2.1) ?_
              show Steps p.tables e below (T15.setTop (mkF m 66 #[.val (.int p1), .val (.int p2), .val (.int ((p1 &&& (2147483647 : Int32)) % (6 : Int32))), .val (.ref o2), .unset] [])) _
              refine XS.iconst X15.here hx rfl (hb hby at_66) ?_
              show Steps p.tables e below (T15.setTop (mkF m 67 #[.val (.int p1), .val (.int p2), .val (.int ((p1 &&& (2147483647 : Int32)) % (6 : Int32))), .val (.ref o2), .unset] [(.int (1 : Int32))])) _
              refine XS.goto X15.here hx rfl (pc0 := 67) (pc' := 71) rfl (hb hby at_67) (by decide) (by decide) ?_
              show Steps p.tables e below (T15.setTop (mkF m 71 #[.val (.int p1), .val (.int p2), .val (.int ((p1 &&& (2147483647 : Int32)) % (6 : Int32))), .val (.ref o2), .unset] [(.int (1 : Int32))])) _
              refine XS.istore X15.here hx rfl (hb hby at_71) rfl (l' := #[.val (.int p1), .val (.int p2), .val (.int ((p1 &&& (2147483647 : Int32)) % (6 : Int32))), .val (.ref o2), .val (.int (1 : Int32))]) rfl ?_
              show Steps p.tables e below (T15.setTop (mkF m 73 #[.val (.int p1), .val (.int p2), .val (.int ((p1 &&& (2147483647 : Int32)) % (6 : Int32))), .val (.ref o2), .val (.int (1 : Int32))] [])) _
              refine XS.goto X15.here hx rfl (pc0 := 73) (pc' := 137) rfl (hb hby at_73) (by decide) (by decide) ?_
              show Steps p.tables e below (T15.setTop (mkF m 137 #[.val (.int p1), .val (.int p2), .val (.int ((p1 &&& (2147483647 : Int32)) % (6 : Int32))), .val (.ref o2), .val (.int (1 : Int32))] [])) _
              exact k
            have hv : own_hv p2 (1 : Int32) (0 : Int32) (0 : Int32) = (1 : Int32) := by
              have e0 : (0 : Int32).toInt = 0 := rfl
              simp only [own_lt, own_eq, e0] at hd
              unfold own_hv
              simp only [own_lt, own_eq, e0]
              repeat' split
              all_goals first | rfl | (exfalso; omega)
            exact ⟨_, X15, e15, o2, _, _, _, _, E2, F2l, F2e, F2g, ⟨by decide, by decide, by decide⟩, hv, pre17⟩
          · have pre18 : ∀ t, Steps p.tables e below (T15.setTop (mkF m 137 #[.val (.int p1), .val (.int p2), .val (.int ((p1 &&& (2147483647 : Int32)) % (6 : Int32))), .val (.ref o2), .val (.int (0 : Int32))] [])) t → Steps p.tables e below (s₁.setTop (entryFrame m #[(.int p1), (.int p2)] maxLocals)) t := by
              intro t k
              refine pre16 _ ?_
              refine XS.ifYes X15.here hx rfl (pc0 := 63) (pc' := 70) rfl (hb hby at_63) rfl ((if0 _ _).trans (flt hd).2.1) (by decide) (by decide) ?_
              show Steps p.tables e below (T15.setTop (mkF m 70 #[.val (.int p1), .val (.int p2), .val (.int ((p1 &&& (2147483647 : Int32)) % (6 : Int32))), .val (.ref o2), .unset] [])) _
              refine XS.iconst X15.here hx rfl (hb hby at_70) ?_
              show Steps p.tables e below (T15.setTop (mkF m 71 #[.val (.int p1), .val (.int p2), .val (.int ((p1 &&& (2147483647 : Int32)) % (6 : Int32))), .val (.ref o2), .unset] [(.int (0 : Int32))])) _
              refine XS.istore X15.here hx rfl (hb hby at_71) rfl (l' := #[.val (.int p1), .val (.int p2), .val (.int ((p1 &&& (2147483647 : Int32)) % (6 : Int32))), .val (.ref o2), .val (.int (0 : Int32))]) rfl ?_
              show Steps p.tables e below (T15.setTop (mkF m 73 #[.val (.int p1), .val (.int p2), .val (.int ((p1 &&& (2147483647 : Int32)) % (6 : Int32))), .val (.ref o2), .val (.int (0 : Int32))] [])) _
              refine XS.goto X15.here hx rfl (pc0 := 73) (pc' := 137) rfl (hb hby at_73) (by decide) (by decide) ?_
              show Steps p.tables e below (T15.setTop (mkF m 137 #[.val (.int p1), .val (.int p2), .val (.int ((p1 &&& (2147483647 : Int32)) % (6 : Int32))), .val (.ref o2), .val (.int (0 : Int32))] [])) _
              exact k
            have hv : own_hv p2 (1 : Int32) (0 : Int32) (0 : Int32) = (0 : Int32) := by
              have e0 : (0 : Int32).toInt = 0 := rfl
              simp only [own_lt, own_eq, e0] at hd
              unfold own_hv
              simp only [own_lt, own_eq, e0]
              repeat' split
              all_goals first | rfl | (exfalso; omega)
            exact ⟨_, X15, e15, o2, _, _, _, _, E2, F2l, F2e, F2g, ⟨by decide, by decide, by decide⟩, hv, pre18⟩
        · have pre19 : ∀ t, Steps p.tables e below (s₁.setTop (mkF m 78 #[.val (.int p1), .val (.int p2), .val (.int ((p1 &&& (2147483647 : Int32)) % (6 : Int32))), .unset, .unset] [(.int (3 : Int32)), (.int ((p1 &&& (2147483647 : Int32)) % (6 : Int32)))])) t → Steps p.tables e below (s₁.setTop (entryFrame m #[(.int p1), (.int p2)] maxLocals)) t := by
            intro t k
            refine pre13 _ ?_
            refine XS.icmpYes X0.here hx rfl (pc0 := 55) (pc' := 76) rfl (hb hby at_55) rfl (feq hk2).2 (by decide) (by decide) ?_
            show Steps p.tables e below (s₁.setTop (mkF m 76 #[.val (.int p1), .val (.int p2), .val (.int ((p1 &&& (2147483647 : Int32)) % (6 : Int32))), .unset, .unset] [])) _
            refine XS.iloadN X0.here hx rfl (hb hby at_76) rfl ?_
            show Steps p.tables e below (s₁.setTop (mkF m 77 #[.val (.int p1), .val (.int p2), .val (.int ((p1 &&& (2147483647 : Int32)) % (6 : Int32))), .unset, .unset] [(.int ((p1 &&& (2147483647 : Int32)) % (6 : Int32)))])) _
            refine XS.iconst X0.here hx rfl (hb hby at_77) ?_
            show Steps p.tables e below (s₁.setTop (mkF m 78 #[.val (.int p1), .val (.int p2), .val (.int ((p1 &&& (2147483647 : Int32)) % (6 : Int32))), .unset, .unset] [(.int (3 : Int32)), (.int ((p1 &&& (2147483647 : Int32)) % (6 : Int32)))])) _
            exact k
          by_cases hk3 : ((p1 &&& (2147483647 : Int32)) % (6 : Int32)) = (3 : Int32)
          · have pre20 : ∀ t, Steps p.tables e below (s₁.setTop (mkF m 81 #[.val (.int p1), .val (.int p2), .val (.int ((p1 &&& (2147483647 : Int32)) % (6 : Int32))), .unset, .unset] [])) t → Steps p.tables e below (s₁.setTop (entryFrame m #[(.int p1), (.int p2)] maxLocals)) t := by
              intro t k
              refine pre19 _ ?_
              refine XS.icmpNo X0.here hx rfl (hb hby at_78) rfl (teq hk3).2 ?_
              show Steps p.tables e below (s₁.setTop (mkF m 81 #[.val (.int p1), .val (.int p2), .val (.int ((p1 &&& (2147483647 : Int32)) % (6 : Int32))), .unset, .unset] [])) _
              exact k
            obtain ⟨T21, X21, e21, st21⟩ := getS (host := "") X0 hx hZ hown (hw _ (List.mem_of_getElem? (i := 21) rfl)) Via.refl e0 S3 (g := (mkF m 81 #[.val (.int p1), .val (.int p2), .val (.int ((p1 &&& (2147483647 : Int32)) % (6 : Int32))), .unset, .unset] [])) rfl (hb hby at_81)
            have pre21 : ∀ t, Steps p.tables e below (T21.setTop (mkF m 84 #[.val (.int p1), .val (.int p2), .val (.int ((p1 &&& (2147483647 : Int32)) % (6 : Int32))), .unset, .unset] [(.ref o3)])) t → Steps p.tables e below (s₁.setTop (entryFrame m #[(.int p1), (.int p2)] maxLocals)) t := fun t k => pre20 t (st21 t k)
            have pre22 : ∀ t, Steps p.tables e below (T21.setTop (mkF m 86 #[.val (.int p1), .val (.int p2), .val (.int ((p1 &&& (2147483647 : Int32)) % (6 : Int32))), .val (.ref o3), .unset] [(.int p2)])) t → Steps p.tables e below (s₁.setTop (entryFrame m #[(.int p1), (.int p2)] maxLocals)) t := by
              intro t k
              refine pre21 _ ?_
              refine XS.astoreN X21.here hx rfl (hb hby at_84) rfl rfl (l' := #[.val (.int p1), .val (.int p2), .val (.int ((p1 &&& (2147483647 : Int32)) % (6 : Int32))), .val (.ref o3), .unset]) rfl ?_
              show Steps p.tables e below (T21.setTop (mkF m 85 #[.val (.int p1), .val (.int p2), .val (.int ((p1 &&& (2147483647 : Int32)) % (6 : Int32))), .val (.ref o3), .unset] [])) _
              refine XS.iloadN X21.here hx rfl (hb hby at_85) rfl ?_
              show Steps p.tables e below (T21.setTop (mkF m 86 #[.val (.int p1), .val (.int p2), .val (.int ((p1 &&& (2147483647 : Int32)) % (6 : Int32))), .val (.ref o3), .unset] [(.int p2)])) _
              exact k
            by_cases hd : (0 : Int32) < p2
            · have pre23 : ∀ t, Steps p.tables e below (T21.setTop (mkF m 137 #[.val (.int p1), .val (.int p2), .val (.int ((p1 &&& (2147483647 : Int32)) % (6 : Int32))), .val (.ref o3), .val (.int (0 : Int32))] [])) t → Steps p.tables e below (s₁.setTop (entryFrame m #[(.int p1), (.int p2)] maxLocals)) t := by
                intro t k
                refine pre22 _ ?_
                refine XS.ifYes X21.here hx rfl (pc0 := 86) (pc' := 93) rfl (hb hby at_86) rfl ((if0 _ _).trans (tlt hd).2.2.1) (by decide) (by decide) ?_
                show Steps p.tables e below (T21.setTop (mkF m 93 #[.val (.int p1), .val (.int p2), .val (.int ((p1 &&& (2147483647 : Int32)) % (6 : Int32))), .val (.ref o3), .unset] [])) _
                refine XS.iconst X21.here hx rfl (hb hby at_93) ?_
                show Steps p.tables e below (T21.setTop (mkF m 94 #[.val (.int p1), .val (.int p2), .val (.int ((p1 &&& (2147483647 : Int32)) % (6 : Int32))), .val (.ref o3), .unset] [(.int (0 : Int32))])) _
                refine XS.istore X21.here hx rfl (hb hby at_94) rfl (l' := #[.val (.int p1), .val (.int p2), .val (.int ((p1 &&& (2147483647 : Int32)) % (6 : Int32))), .val (.ref o3), .val (.int (0 : Int32))]) rfl ?_
                show Steps p.tables e below (T21.setTop (mkF m 96 #[.val (.int p1), .val (.int p2), .val (.int ((p1 &&& (2147483647 : Int32)) % (6 : Int32))), .val (.ref o3), .val (.int (0 : Int32))] [])) _
                refine XS.goto X21.here hx rfl (pc0 := 96) (pc' := 137) rfl (hb hby at_96) (by decide) (by decide) ?_
                show Steps p.tables e below (T21.setTop (mkF m 137 #[.val (.int p1), .val (.int p2), .val (.int ((p1 &&& (2147483647 : Int32)) % (6 : Int32))), .val (.ref o3), .val (.int (0 : Int32))] [])) _
                exact k
              have hv : own_hv p2 (1 : Int32) (1 : Int32) (0 : Int32) = (0 : Int32) := by
                have e0 : (0 : Int32).toInt = 0 := rfl
                simp only [own_lt, own_eq, e0] at hd
                unfold own_hv
                simp only [own_lt, own_eq, e0]
                repeat' split
                all_goals first | rfl | (exfalso; omega)
              exact ⟨_, X21, e21, o3, _, _, _, _, E3, F3l, F3e, F3g, ⟨by decide, by decide, by decide⟩, hv, pre23⟩
            · have pre24 : ∀ t, Steps p.tables e below (T21.setTop (mkF m 137 #[.val (.int p1), .val (.int p2), .val (.int ((p1 &&& (2147483647 : Int32)) % (6 : Int32))), .val (.ref o3), .val (.int (1 : Int32))] [])) t → Steps p.tables e below (s₁.setTop (entryFrame m #[(.int p1), (.int p2)] maxLocals)) t := by
                intro t k
                refine pre22 _ ?_
                refine XS.ifNo X21.here hx rfl (hb hby at_86) rfl ((if0 _ _).trans (flt hd).2.2.1) ?_
                show Steps p.tables e below (T21.setTop (mkF m 89 #[.val (.int p1), .val (.int p2), .val (.int ((p1 &&& (2147483647 : Int32)) % (6 : Int32))), .val (.ref o3), .unset] [])) _
                refine XS.iconst X21.here hx rfl (hb hby at_89) ?_
                show Steps p.tables e below (T21.setTop (mkF m 90 #[.val (.int p1), .val (.int p2), .val (.int ((p1 &&& (2147483647 : Int32)) % (6 : Int32))), .val (.ref o3), .unset] [(.int (1 : Int32))])) _
                refine XS.goto X21.here hx rfl (pc0 := 90) (pc' := 94) rfl (hb hby at_90) (by decide) (by decide) ?_
                show Steps p.tables e below (T21.setTop (mkF m 94 #[.val (.int p1), .val (.int p2), .val (.int ((p1 &&& (2147483647 : Int32)) % (6 : Int32))), .val (.ref o3), .unset] [(.int (1 : Int32))])) _
                refine XS.istore X21.here hx rfl (hb hby at_94) rfl (l' := #[.val (.int p1), .val (.int p2), .val (.int ((p1 &&& (2147483647 : Int32)) % (6 : Int32))), .val (.ref o3), .val (.int (1 : Int32))]) rfl ?_
                show Steps p.tables e below (T21.setTop (mkF m 96 #[.val (.int p1), .val (.int p2), .val (.int ((p1 &&& (2147483647 : Int32)) % (6 : Int32))), .val (.ref o3), .val (.int (1 : Int32))] [])) _
                refine XS.goto X21.here hx rfl (pc0 := 96) (pc' := 137) rfl (hb hby at_96) (by decide) (by decide) ?_
                show Steps p.tables e below (T21.setTop (mkF m 137 #[.val (.int p1), .val (.int p2), .val (.int ((p1 &&& (2147483647 : Int32)) % (6 : Int32))), .val (.ref o3), .val (.int (1 : Int32))] [])) _
                exact k
              have hv : own_hv p2 (1 : Int32) (1 : Int32) (0 : Int32) = (1 : Int32) := by
                have e0 : (0 : Int32).toInt = 0 := rfl
                simp only [own_lt, own_eq, e0] at hd
                unfold own_hv
                simp only [own_lt, own_eq, e0]
                repeat' split
                all_goals first | rfl | (exfalso; omega)
              exact ⟨_, X21, e21, o3, _, _, _, _, E3, F3l, F3e, F3g, ⟨by decide, by decide, by decide⟩, hv, pre24⟩
          · have pre25 : ∀ t, Steps p.tables e below (s₁.setTop (mkF m 101 #[.val (.int p1), .val (.int p2), .val (.int ((p1 &&& (2147483647 : Int32)) % (6 : Int32))), .unset, .unset] [(.int (4 : Int32)), (.int ((p1 &&& (2147483647 : Int32)) % (6 : Int32)))])) t → Steps p.tables e below (s₁.setTop (entryFrame m #[(.int p1), (.int p2)] maxLocals)) t := by
              intro t k
              refine pre19 _ ?_
              refine XS.icmpYes X0.here hx rfl (pc0 := 78) (pc' := 99) rfl (hb hby at_78) rfl (feq hk3).2 (by decide) (by decide) ?_
              show Steps p.tables e below (s₁.setTop (mkF m 99 #[.val (.int p1), .val (.int p2), .val (.int ((p1 &&& (2147483647 : Int32)) % (6 : Int32))), .unset, .unset] [])) _
              refine XS.iloadN X0.here hx rfl (hb hby at_99) rfl ?_
              show Steps p.tables e below (s₁.setTop (mkF m 100 #[.val (.int p1), .val (.int p2), .val (.int ((p1 &&& (2147483647 : Int32)) % (6 : Int32))), .unset, .unset] [(.int ((p1 &&& (2147483647 : Int32)) % (6 : Int32)))])) _
              refine XS.iconst X0.here hx rfl (hb hby at_100) ?_
              show Steps p.tables e below (s₁.setTop (mkF m 101 #[.val (.int p1), .val (.int p2), .val (.int ((p1 &&& (2147483647 : Int32)) % (6 : Int32))), .unset, .unset] [(.int (4 : Int32)), (.int ((p1 &&& (2147483647 : Int32)) % (6 : Int32)))])) _
              exact k
            by_cases hk4 : ((p1 &&& (2147483647 : Int32)) % (6 : Int32)) = (4 : Int32)
            · have pre26 : ∀ t, Steps p.tables e below (s₁.setTop (mkF m 104 #[.val (.int p1), .val (.int p2), .val (.int ((p1 &&& (2147483647 : Int32)) % (6 : Int32))), .unset, .unset] [])) t → Steps p.tables e below (s₁.setTop (entryFrame m #[(.int p1), (.int p2)] maxLocals)) t := by
                intro t k
                refine pre25 _ ?_
                refine XS.icmpNo X0.here hx rfl (hb hby at_101) rfl (teq hk4).2 ?_
                show Steps p.tables e below (s₁.setTop (mkF m 104 #[.val (.int p1), .val (.int p2), .val (.int ((p1 &&& (2147483647 : Int32)) % (6 : Int32))), .unset, .unset] [])) _
                exact k
              obtain ⟨T27, X27, e27, st27⟩ := getS (host := "") X0 hx hZ hown (hw _ (List.mem_of_getElem? (i := 15) rfl)) Via.refl e0 S4 (g := (mkF m 104 #[.val (.int p1), .val (.int p2), .val (.int ((p1 &&& (2147483647 : Int32)) % (6 : Int32))), .unset, .unset] [])) rfl (hb hby at_104)
              have pre27 : ∀ t, Steps p.tables e below (T27.setTop (mkF m 107 #[.val (.int p1), .val (.int p2), .val (.int ((p1 &&& (2147483647 : Int32)) % (6 : Int32))), .unset, .unset] [(.ref o4)])) t → Steps p.tables e below (s₁.setTop (entryFrame m #[(.int p1), (.int p2)] maxLocals)) t := fun t k => pre26 t (st27 t k)
              have pre28 : ∀ t, Steps p.tables e below (T27.setTop (mkF m 109 #[.val (.int p1), .val (.int p2), .val (.int ((p1 &&& (2147483647 : Int32)) % (6 : Int32))), .val (.ref o4), .unset] [(.int p2)])) t → Steps p.tables e below (s₁.setTop (entryFrame m #[(.int p1), (.int p2)] maxLocals)) t := by
                intro t k
                refine pre27 _ ?_
                refine XS.astoreN X27.here hx rfl (hb hby at_107) rfl rfl (l' := #[.val (.int p1), .val (.int p2), .val (.int ((p1 &&& (2147483647 : Int32)) % (6 : Int32))), .val (.ref o4), .unset]) rfl ?_
                show Steps p.tables e below (T27.setTop (mkF m 108 #[.val (.int p1), .val (.int p2), .val (.int ((p1 &&& (2147483647 : Int32)) % (6 : Int32))), .val (.ref o4), .unset] [])) _
                refine XS.iloadN X27.here hx rfl (hb hby at_108) rfl ?_
                show Steps p.tables e below (T27.setTop (mkF m 109 #[.val (.int p1), .val (.int p2), .val (.int ((p1 &&& (2147483647 : Int32)) % (6 : Int32))), .val (.ref o4), .unset] [(.int p2)])) _
                exact k
              by_cases hd : (0 : Int32) < p2
              · have pre29 : ∀ t, Steps p.tables e below (T27.setTop (mkF m 137 #[.val (.int p1), .val (.int p2), .val (.int ((p1 &&& (2147483647 : Int32)) % (6 : Int32))), .val (.ref o4), .val (.int (1 : Int32))] [])) t → Steps p.tables e below (s₁.setTop (entryFrame m #[(.int p1), (.int p2)] maxLocals)) t := by
                  intro t k
                  refine pre28 _ ?_
                  refine XS.ifNo X27.here hx rfl (hb hby at_109) rfl ((if0 _ _).trans (tlt hd).2.2.2) ?_
                  show Steps p.tables e below (T27.setTop (mkF m 112 #[.val (.int p1), .val (.int p2), .val (.int ((p1 &&& (2147483647 : Int32)) % (6 : Int32))), .val (.ref o4), .unset] [])) _
                  refine XS.iconst X27.here hx rfl (hb hby at_112) ?_
                  show Steps p.tables e below (T27.setTop (mkF m 113 #[.val (.int p1), .val (.int p2), .val (.int ((p1 &&& (2147483647 : Int32)) % (6 : Int32))), .val (.ref o4), .unset] [(.int (1 : Int32))])) _
                  refine XS.goto X27.here hx rfl (pc0 := 113) (pc' := 117) rfl (hb hby at_113) (by decide) (by decide) ?_
                  show Steps p.tables e below (T27.setTop (mkF m 117 #[.val (.int p1), .val (.int p2), .val (.int ((p1 &&& (2147483647 : Int32)) % (6 : Int32))), .val (.ref o4), .unset] [(.int (1 : Int32))])) _
                  refine XS.istore X27.here hx rfl (hb hby at_117) rfl (l' := #[.val (.int p1), .val (.int p2), .val (.int ((p1 &&& (2147483647 : Int32)) % (6 : Int32))), .val (.ref o4), .val (.int (1 : Int32))]) rfl ?_
                  show Steps p.tables e below (T27.setTop (mkF m 119 #[.val (.int p1), .val (.int p2), .val (.int ((p1 &&& (2147483647 : Int32)) % (6 : Int32))), .val (.ref o4), .val (.int (1 : Int32))] [])) _
                  refine XS.goto X27.here hx rfl (pc0 := 119) (pc' := 137) rfl (hb hby at_119) (by decide) (by decide) ?_
                  show Steps p.tables e below (T27.setTop (mkF m 137 #[.val (.int p1), .val (.int p2), .val (.int ((p1 &&& (2147483647 : Int32)) % (6 : Int32))), .val (.ref o4), .val (.int (1 : Int32))] [])) _
                  exact k
                have hv : own_hv p2 (0 : Int32) (0 : Int32) (1 : Int32) = (1 : Int32) := by
                  have e0 : (0 : Int32).toInt = 0 := rfl
                  simp only [own_lt, own_eq, e0] at hd
                  unfold own_hv
                  simp only [own_lt, own_eq, e0]
                  repeat' split
                  all_goals first | rfl | (exfalso; omega)
                exact ⟨_, X27, e27, o4, _, _, _, _, E4, F4l, F4e, F4g, ⟨by decide, by decide, by decide⟩, hv, pre29⟩
              · have pre30 : ∀ t, Steps p.tables e below (T27.setTop (mkF m 137 #[.val (.int p1), .val (.int p2), .val (.int ((p1 &&& (2147483647 : Int32)) % (6 : Int32))), .val (.ref o4), .val (.int (0 : Int32))] [])) t → Steps p.tables e below (s₁.setTop (entryFrame m #[(.int p1), (.int p2)] maxLocals)) t := by
                  intro t k
                  refine pre28 _ ?_
                  refine XS.ifYes X27.here hx rfl (pc0 := 109) (pc' := 116) rfl (hb hby at_109) rfl ((if0 _ _).trans (flt hd).2.2.2) (by decide) (by decide) ?_
                  show Steps p.tables e below (T27.setTop (mkF m 116 #[.val (.int p1), .val (.int p2), .val (.int ((p1 &&& (2147483647 : Int32)) % (6 : Int32))), .val (.ref o4), .unset] [])) _
                  refine XS.iconst X27.here hx rfl (hb hby at_116) ?_
                  show Steps p.tables e below (T27.setTop (mkF m 117 #[.val (.int p1), .val (.int p2), .val (.int ((p1 &&& (2147483647 : Int32)) % (6 : Int32))), .val (.ref o4), .unset] [(.int (0 : Int32))])) _
                  refine XS.istore X27.here hx rfl (hb hby at_117) rfl (l' := #[.val (.int p1), .val (.int p2), .val (.int ((p1 &&& (2147483647 : Int32)) % (6 : Int32))), .val (.ref o4), .val (.int (0 : Int32))]) rfl ?_
                  show Steps p.tables e below (T27.setTop (mkF m 119 #[.val (.int p1), .val (.int p2), .val (.int ((p1 &&& (2147483647 : Int32)) % (6 : Int32))), .val (.ref o4), .val (.int (0 : Int32))] [])) _
                  refine XS.goto X27.here hx rfl (pc0 := 119) (pc' := 137) rfl (hb hby at_119) (by decide) (by decide) ?_
                  show Steps p.tables e below (T27.setTop (mkF m 137 #[.val (.int p1), .val (.int p2), .val (.int ((p1 &&& (2147483647 : Int32)) % (6 : Int32))), .val (.ref o4), .val (.int (0 : Int32))] [])) _
                  exact k
                have hv : own_hv p2 (0 : Int32) (0 : Int32) (1 : Int32) = (0 : Int32) := by
                  have e0 : (0 : Int32).toInt = 0 := rfl
                  simp only [own_lt, own_eq, e0] at hd
                  unfold own_hv
                  simp only [own_lt, own_eq, e0]
                  repeat' split
                  all_goals first | rfl | (exfalso; omega)
                exact ⟨_, X27, e27, o4, _, _, _, _, E4, F4l, F4e, F4g, ⟨by decide, by decide, by decide⟩, hv, pre30⟩
            · have pre31 : ∀ t, Steps p.tables e below (s₁.setTop (mkF m 122 #[.val (.int p1), .val (.int p2), .val (.int ((p1 &&& (2147483647 : Int32)) % (6 : Int32))), .unset, .unset] [])) t → Steps p.tables e below (s₁.setTop (entryFrame m #[(.int p1), (.int p2)] maxLocals)) t := by
                intro t k
                refine pre25 _ ?_
                refine XS.icmpYes X0.here hx rfl (pc0 := 101) (pc' := 122) rfl (hb hby at_101) rfl (feq hk4).2 (by decide) (by decide) ?_
                show Steps p.tables e below (s₁.setTop (mkF m 122 #[.val (.int p1), .val (.int p2), .val (.int ((p1 &&& (2147483647 : Int32)) % (6 : Int32))), .unset, .unset] [])) _
                exact k
              obtain ⟨T32, X32, e32, st32⟩ := getS (host := "") X0 hx hZ hown (hw _ (List.mem_of_getElem? (i := 19) rfl)) Via.refl e0 S5 (g := (mkF m 122 #[.val (.int p1), .val (.int p2), .val (.int ((p1 &&& (2147483647 : Int32)) % (6 : Int32))), .unset, .unset] [])) rfl (hb hby at_122)
              have pre32 : ∀ t, Steps p.tables e below (T32.setTop (mkF m 125 #[.val (.int p1), .val (.int p2), .val (.int ((p1 &&& (2147483647 : Int32)) % (6 : Int32))), .unset, .unset] [(.ref o5)])) t → Steps p.tables e below (s₁.setTop (entryFrame m #[(.int p1), (.int p2)] maxLocals)) t := fun t k => pre31 t (st32 t k)
              have pre33 : ∀ t, Steps p.tables e below (T32.setTop (mkF m 127 #[.val (.int p1), .val (.int p2), .val (.int ((p1 &&& (2147483647 : Int32)) % (6 : Int32))), .val (.ref o5), .unset] [(.int p2)])) t → Steps p.tables e below (s₁.setTop (entryFrame m #[(.int p1), (.int p2)] maxLocals)) t := by
                intro t k
                refine pre32 _ ?_
                refine XS.astoreN X32.here hx rfl (hb hby at_125) rfl rfl (l' := #[.val (.int p1), .val (.int p2), .val (.int ((p1 &&& (2147483647 : Int32)) % (6 : Int32))), .val (.ref o5), .unset]) rfl ?_
                show Steps p.tables e below (T32.setTop (mkF m 126 #[.val (.int p1), .val (.int p2), .val (.int ((p1 &&& (2147483647 : Int32)) % (6 : Int32))), .val (.ref o5), .unset] [])) _
                refine XS.iloadN X32.here hx rfl (hb hby at_126) rfl ?_
                show Steps p.tables e below (T32.setTop (mkF m 127 #[.val (.int p1), .val (.int p2), .val (.int ((p1 &&& (2147483647 : Int32)) % (6 : Int32))), .val (.ref o5), .unset] [(.int p2)])) _
                exact k
              by_cases hd : p2 < (0 : Int32)
              · have pre34 : ∀ t, Steps p.tables e below (T32.setTop (mkF m 137 #[.val (.int p1), .val (.int p2), .val (.int ((p1 &&& (2147483647 : Int32)) % (6 : Int32))), .val (.ref o5), .val (.int (0 : Int32))] [])) t → Steps p.tables e below (s₁.setTop (entryFrame m #[(.int p1), (.int p2)] maxLocals)) t := by
                  intro t k
                  refine pre33 _ ?_
                  refine XS.ifYes X32.here hx rfl (pc0 := 127) (pc' := 134) rfl (hb hby at_127) rfl ((if0 _ _).trans (tlt hd).1) (by decide) (by decide) ?_
                  show Steps p.tables e below (T32.setTop (mkF m 134 #[.val (.int p1), .val (.int p2), .val (.int ((p1 &&& (2147483647 : Int32)) % (6 : Int32))), .val (.ref o5), .unset] [])) _
                  refine XS.iconst X32.here hx rfl (hb hby at_134) ?_
                  show Steps p.tables e below (T32.setTop (mkF m 135 #[.val (.int p1), .val (.int p2), .val (.int ((p1 &&& (2147483647 : Int32)) % (6 : Int32))), .val (.ref o5), .unset] [(.int (0 : Int32))])) _
                  refine XS.istore X32.here hx rfl (hb hby at_135) rfl (l' := #[.val (.int p1), .val (.int p2), .val (.int ((p1 &&& (2147483647 : Int32)) % (6 : Int32))), .val (.ref o5), .val (.int (0 : Int32))]) rfl ?_
                  show Steps p.tables e below (T32.setTop (mkF m 137 #[.val (.int p1), .val (.int p2), .val (.int ((p1 &&& (2147483647 : Int32)) % (6 : Int32))), .val (.ref o5), .val (.int (0 : Int32))] [])) _
                  exact k
                have hv : own_hv p2 (0 : Int32) (1 : Int32) (1 : Int32) = (0 : Int32) := by
                  have e0 : (0 : Int32).toInt = 0 := rfl
                  simp only [own_lt, own_eq, e0] at hd
                  unfold own_hv
                  simp only [own_lt, own_eq, e0]
                  repeat' split
                  all_goals first | rfl | (exfalso; omega)
                exact ⟨_, X32, e32, o5, _, _, _, _, E5, F5l, F5e, F5g, ⟨by decide, by decide, by decide⟩, hv, pre34⟩
              · have pre35 : ∀ t, Steps p.tables e below (T32.setTop (mkF m 137 #[.val (.int p1), .val (.int p2), .val (.int ((p1 &&& (2147483647 : Int32)) % (6 : Int32))), .val (.ref o5), .val (.int (1 : Int32))] [])) t → Steps p.tables e below (s₁.setTop (entryFrame m #[(.int p1), (.int p2)] maxLocals)) t := by
                  intro t k
                  refine pre33 _ ?_
                  refine XS.ifNo X32.here hx rfl (hb hby at_127) rfl ((if0 _ _).trans (flt hd).1) ?_
                  show Steps p.tables e below (T32.setTop (mkF m 130 #[.val (.int p1), .val (.int p2), .val (.int ((p1 &&& (2147483647 : Int32)) % (6 : Int32))), .val (.ref o5), .unset] [])) _
                  refine XS.iconst X32.here hx rfl (hb hby at_130) ?_
                  show Steps p.tables e below (T32.setTop (mkF m 131 #[.val (.int p1), .val (.int p2), .val (.int ((p1 &&& (2147483647 : Int32)) % (6 : Int32))), .val (.ref o5), .unset] [(.int (1 : Int32))])) _
                  refine XS.goto X32.here hx rfl (pc0 := 131) (pc' := 135) rfl (hb hby at_131) (by decide) (by decide) ?_
                  show Steps p.tables e below (T32.setTop (mkF m 135 #[.val (.int p1), .val (.int p2), .val (.int ((p1 &&& (2147483647 : Int32)) % (6 : Int32))), .val (.ref o5), .unset] [(.int (1 : Int32))])) _
                  refine XS.istore X32.here hx rfl (hb hby at_135) rfl (l' := #[.val (.int p1), .val (.int p2), .val (.int ((p1 &&& (2147483647 : Int32)) % (6 : Int32))), .val (.ref o5), .val (.int (1 : Int32))]) rfl ?_
                  show Steps p.tables e below (T32.setTop (mkF m 137 #[.val (.int p1), .val (.int p2), .val (.int ((p1 &&& (2147483647 : Int32)) % (6 : Int32))), .val (.ref o5), .val (.int (1 : Int32))] [])) _
                  exact k
                have hv : own_hv p2 (0 : Int32) (1 : Int32) (1 : Int32) = (1 : Int32) := by
                  have e0 : (0 : Int32).toInt = 0 := rfl
                  simp only [own_lt, own_eq, e0] at hd
                  unfold own_hv
                  simp only [own_lt, own_eq, e0]
                  repeat' split
                  all_goals first | rfl | (exfalso; omega)
                exact ⟨_, X32, e32, o5, _, _, _, _, E5, F5l, F5e, F5g, ⟨by decide, by decide, by decide⟩, hv, pre35⟩
  have pre36 : ∀ t, Steps p.tables e below (TJ.setTop (mkF m 139 #[.val (.int p1), .val (.int p2), .val (.int ((p1 &&& (2147483647 : Int32)) % (6 : Int32))), .val (.ref oo), .val (.int ex)] [(.int p2), (.ref oo)])) t → Steps p.tables e below (s₁.setTop (entryFrame m #[(.int p1), (.int p2)] maxLocals)) t := by
    intro t k
    refine preJ _ ?_
    refine XS.aloadN XJ.here hx rfl (hb hby at_137) rfl rfl ?_
    show Steps p.tables e below (TJ.setTop (mkF m 138 #[.val (.int p1), .val (.int p2), .val (.int ((p1 &&& (2147483647 : Int32)) % (6 : Int32))), .val (.ref oo), .val (.int ex)] [(.ref oo)])) _
    refine XS.iloadN XJ.here hx rfl (hb hby at_138) rfl ?_
    show Steps p.tables e below (TJ.setTop (mkF m 139 #[.val (.int p1), .val (.int p2), .val (.int ((p1 &&& (2147483647 : Int32)) % (6 : Int32))), .val (.ref oo), .val (.int ex)] [(.int p2), (.ref oo)])) _
    exact k
  have rm1' := rm1 l Z a0 hw [] oo p2 lt eq gt h0 n0 Z0 FJl FJe FJg
  rw [own_01 h01.1 h01.2.1 h01.2.2, hex] at rm1'
  obtain ⟨cq37, kq37, q37a, q37b, q37c⟩ := isOf hZ eJ (EJ)
  obtain ⟨_, _, ⟨T37, L37, k37, n37⟩, -, X37, ⟨Lc37, hQ37, l37, y37, z37⟩, st37⟩ := XJ.virtualBack hx (y := (⟨"com/example/nomos/nomos/schema/Comparison$Operator", "holds", "(I)Z"⟩ : MethodName)) (z := (⟨"com/example/nomos/nomos/schema/Comparison$Operator", "holds", "(I)Z"⟩ : MethodName)) hown (mvT hZ (hw _ (List.mem_of_getElem? (i := 4) rfl))) (mvT hZ (hw _ (List.mem_of_getElem? (i := 5) rfl))) (notFace_of_selects (args := #[]) (mvT hZ (hw _ (List.mem_of_getElem? (i := 7) rfl)))) (mvT hZ (hw _ (List.mem_of_getElem? (i := 7) rfl))) (mvT hZ (hw _ (List.mem_of_getElem? (i := 6) rfl))) (by decide) (backOf (W := 0) (rm1') hZ (hw _ (List.mem_of_getElem? (i := 8) rfl)) (hw _ (List.mem_of_getElem? (i := 2) rfl)) (by decide) (by decide)) q37a q37c (g := (mkF m 139 #[.val (.int p1), .val (.int p2), .val (.int ((p1 &&& (2147483647 : Int32)) % (6 : Int32))), .val (.ref oo), .val (.int ex)] [(.int p2), (.ref oo)])) rfl (by rw [hml]; rfl) (Steps.refl _) (argsL := [(.int p2)]) (rest := []) (lenOf own_pd0 rfl) rfl (by show 2 * 0 + _ ≤ _; exact Nat.le_of_eq rfl) (hb hby at_139) (fun _ _ => ⟨rfl, eJ, (by decide : 0 + 0 ≤ _), (by decide : 0 + 0 ≤ _)⟩)
  dsimp only [Pt.U, Pt.locs, Pt.cells, Pt.slots] at X37 l37 y37 z37 st37 hQ37
  subst l37 y37 z37
  obtain ⟨rfl, Nq37, eh1⟩ := hQ37
  have N37 := Fr.app N0 Nq37
  have pre37 : ∀ t, Steps p.tables e below (T37.setTop (mkF m 142 #[.val (.int p1), .val (.int p2), .val (.int ((p1 &&& (2147483647 : Int32)) % (6 : Int32))), .val (.ref oo), .val (.int ex)] [(.int ex)])) t → Steps p.tables e below (s₁.setTop (entryFrame m #[(.int p1), (.int p2)] maxLocals)) t := fun t k => pre36 t (st37.trans k)
  have pre38 : ∀ t, Steps p.tables e below (T37.setTop (mkF m 152 #[.val (.int p1), .val (.int p2), .val (.int ((p1 &&& (2147483647 : Int32)) % (6 : Int32))), .val (.ref oo), .val (.int ex)] [(.int (1 : Int32))])) t → Steps p.tables e below (s₁.setTop (entryFrame m #[(.int p1), (.int p2)] maxLocals)) t := by
    intro t k
    refine pre37 _ ?_
    refine XS.iload X37.here hx rfl (hb hby at_142) rfl ?_
    show Steps p.tables e below (T37.setTop (mkF m 144 #[.val (.int p1), .val (.int p2), .val (.int ((p1 &&& (2147483647 : Int32)) % (6 : Int32))), .val (.ref oo), .val (.int ex)] [(.int ex), (.int ex)])) _
    refine XS.icmpNo X37.here hx rfl (hb hby at_144) rfl (teq rfl).2 ?_
    show Steps p.tables e below (T37.setTop (mkF m 147 #[.val (.int p1), .val (.int p2), .val (.int ((p1 &&& (2147483647 : Int32)) % (6 : Int32))), .val (.ref oo), .val (.int ex)] [])) _
    refine XS.iconst X37.here hx rfl (hb hby at_147) ?_
    show Steps p.tables e below (T37.setTop (mkF m 148 #[.val (.int p1), .val (.int p2), .val (.int ((p1 &&& (2147483647 : Int32)) % (6 : Int32))), .val (.ref oo), .val (.int ex)] [(.int (1 : Int32))])) _
    refine XS.goto X37.here hx rfl (pc0 := 148) (pc' := 152) rfl (hb hby at_148) (by decide) (by decide) ?_
    show Steps p.tables e below (T37.setTop (mkF m 152 #[.val (.int p1), .val (.int p2), .val (.int ((p1 &&& (2147483647 : Int32)) % (6 : Int32))), .val (.ref oo), .val (.int ex)] [(.int (1 : Int32))])) _
    exact k
  obtain ⟨fs, hr, hrun, hended, hW, hsame⟩ := X37.leave (v := some (.int (1 : Int32))) (fun h => by rw [Bd.returns] at h; cases h)
  refine ⟨_, _, pre38 _ ?_, hrun, hended, _, _, rfl, ?_, ⟨_, rfl⟩, hW, hsame.mono (by decide) (by decide)⟩
  · exact retN X37 hx (t := .boolean) Bd.returns (by simp) (hb hby at_152) hr
  · show ((_ : Option Value) = some (.int 1) ∧ Fr n0 _)
    exact ⟨rfl, N37⟩
set_option maxRecDepth 65536 in
set_option maxHeartbeats 40000000 in
theorem comes_1 {Post : Tables → Env → Array Value → State → Outcome → State → Prop} (hpost : ∀ tb e args s v u, (limb_1_1.after args s (.returned v) u = true ∧ limb_1_2.after args s (.returned v) u = true ∧ True) → FrameEnd s (.returned v) u (Jvm.fieldLocs frame_1_writes args s ++ Jvm.arrayLocs frame_1_arrays args s ++ Jvm.staticLocs frame_1_statics s) 0 0 → Post tb e args s (.returned v) u) :
    ArmFor flags0 classFile x code maxLocals ret World_1 tables_1 room_1 Calls_1 rest_1 Pre_1 Post := by
  intro l hfl _ _ p e ha hc hk s m args below hf hA hF happ hP
  obtain ⟨hcalls, hrest, hpre⟩ := hP
  obtain ⟨-, -, -, hnamed, -, -, -, hat⟩ := (Spec.applies_iff hf).mp happ
  obtain ⟨hg, hn⟩ := and_e (Cond.before_iff.mp (show (Jvm.Cond.and given_1 narrow_1).before args s = true from hpre))
  obtain ⟨g1, g2⟩ := and_e hg
  obtain ⟨g3, g4⟩ := and_e g2
  obtain ⟨w0, w1, rfl⟩ : ∃ w0 w1 : Value, args = #[w0, w1] := by
    have hs : args.size = 2 := by simpa [Cond.value, given_1] using g1
    obtain ⟨L⟩ := args
    match L, hs with
    | [w0, w1], _ => exact ⟨w0, w1, rfl⟩
  have hw := fun d (hd : d ∈ tables_1) => atoms_spec (ws := Jvm.Cond.code x code maxLocals ret :: tables_1) hat d (List.mem_cons_of_mem _ hd)
  have hfit : Fit s := fun {y c} hc i hi => by
    obtain ⟨ha, rfl⟩ := Array.getElem?_eq_some_iff.mp hc
    have q := List.all_eq_true.mp ((Array.all_eq_true_iff_forall_mem.mp hF) _ (Array.getElem_mem ha)) i (List.mem_range.mpr hi)
    simpa [Array.getElem?_eq_getElem hi] using q
  obtain ⟨i0, ei0⟩ := is_v g3
  obtain rfl : w0 = (.int i0) := Option.some.inj ei0
  obtain ⟨i1, ei1⟩ := is_v g4
  obtain rfl : w1 = (.int i1) := Option.some.inj ei1
  obtain ⟨hn1a, hn1b⟩ := and_e hn
  obtain ⟨hn2a, hn2b⟩ := and_e hn1b
  obtain ⟨hn3a, hn3b⟩ := and_e hn2b
  obtain ⟨hn4a, hn4b⟩ := and_e hn3b
  obtain ⟨hn5a, hn5b⟩ := and_e hn4b
  obtain ⟨hn6a, hn6b⟩ := and_e hn5b
  obtain ⟨hn7a, hn7b⟩ := and_e hn6b
  obtain ⟨hn8a, hn8b⟩ := and_e hn7b
  obtain ⟨hn9a, hn9b⟩ := and_e hn8b
  obtain ⟨hn10a, hn10b⟩ := and_e hn9b
  obtain ⟨hn11a, hn11b⟩ := and_e hn10b
  obtain ⟨hn12a, hn12b⟩ := and_e hn11b
  obtain ⟨hn13a, hn13b⟩ := and_e hn12b
  obtain ⟨hn14a, hn14b⟩ := and_e hn13b
  obtain ⟨hn15a, hn15b⟩ := and_e hn14b
  obtain ⟨hn16a, hn16b⟩ := and_e hn15b
  obtain ⟨hn17a, hn17b⟩ := and_e hn16b
  obtain ⟨hn18a, hn18b⟩ := and_e hn17b
  obtain ⟨hn19a, hn19b⟩ := and_e hn18b
  obtain ⟨hn20a, hn20b⟩ := and_e hn19b
  obtain ⟨hn21a, hn21b⟩ := and_e hn20b
  obtain ⟨hn22a, hn22b⟩ := and_e hn21b
  obtain ⟨hn23a, hn23b⟩ := and_e hn22b
  obtain ⟨o0, ev0, S0, E0⟩ := own_sta hn1a (hw _ (List.mem_of_getElem? (i := 2) rfl)) (hw _ (List.mem_of_getElem? (i := 3) rfl))
  obtain ⟨o1, ev1, S1, E1⟩ := own_sta hn8a (hw _ (List.mem_of_getElem? (i := 2) rfl)) (hw _ (List.mem_of_getElem? (i := 18) rfl))
  obtain ⟨o2, ev2, S2, E2⟩ := own_sta hn3a (hw _ (List.mem_of_getElem? (i := 2) rfl)) (hw _ (List.mem_of_getElem? (i := 12) rfl))
  obtain ⟨o3, ev3, S3, E3⟩ := own_sta hn13a (hw _ (List.mem_of_getElem? (i := 2) rfl)) (hw _ (List.mem_of_getElem? (i := 22) rfl))
  obtain ⟨o4, ev4, S4, E4⟩ := own_sta hn6a (hw _ (List.mem_of_getElem? (i := 2) rfl)) (hw _ (List.mem_of_getElem? (i := 16) rfl))
  obtain ⟨o5, ev5, S5, E5⟩ := own_sta hn11a (hw _ (List.mem_of_getElem? (i := 2) rfl)) (hw _ (List.mem_of_getElem? (i := 20) rfl))
  obtain ⟨n, o, h1, h2, h3, _, L, rfl, ⟨rfl, N⟩, hq⟩ := rm0 l s _ hw tables_1 i0 i1 o0 o1 o2 o3 o4 o5 s.heap s.heap.size (Nat.le_refl _) S0 E0 (own_fi ev0 hn10a) (own_fi ev0 hn20a) (own_fi ev0 hn2a) S1 E1 (own_fi ev1 hn17a) (own_fi ev1 hn22a) (own_fi ev1 hn9a) S2 E2 (own_fi ev2 hn5a) (own_fi ev2 hn21a) (own_fi ev2 hn4a) S3 E3 (own_fi ev3 hn15a) (own_fi ev3 hn19a) (own_fi ev3 hn14a) S4 E4 (own_fi ev4 hn7a) (own_fi ev4 hn23a) (own_fi ev4 hn16a) S5 E5 (own_fi ev5 hn18a) (own_fi ev5 hn23b) (own_fi ev5 hn12a)  p e ha hc hk s m _ below hf ((Spec.applies_iff_loose hf).mp happ).1 ⟨rfl, State.Warmed39.refl s, rfl⟩ trivial
  refine ⟨n, _, h1, h2, h3, hpost _ _ _ _ _ _ ⟨Cond.after_iff.mpr rfl, Cond.after_iff.mpr (eq_i res_at (Term.int_eval (1)) rfl), trivial⟩ ⟨hq.1, hq.2.1, (hq.2.2.sift fun y hy => Or.inr (N y hy)).mono (by decide) (by decide)⟩⟩
theorem main_1_1 : Claimed_1_1 := comes_1 fun _ _ _ _ _ _ h hF => ⟨h.1, hF⟩
theorem main_1_2 : Claimed_1_2 := comes_1 fun _ _ _ _ _ _ h hF => ⟨h.2.1, hF⟩
end Jvm.Pilot.@@N@@
namespace Jvm.Pilot.@@N@@
open Jvm Jvm.ClassFile Sem Op Lib Jvm.Free Jvm.Stand Jvm.Pilot.@@N@@.Jvm.D
/-! MADE BY PROGRAM (witnessworld.py) out of the Statement's table words and the real class files: 12 classes; the members and pool entries that the words name. The judged class is class 1, her method 1. -/
namespace start1
open Jvm.ClassFile
def u (s : String) : CpInfo := .utf8 (stringToUtf16 s)
/-- a pool by its gaps: so many unusable entries, then the entry; so many at the end -/
def gap : Nat → List CpInfo → List CpInfo
  | 0, r => r
  | n + 1, r => .unusable :: gap n r
def poolList (es : List (Nat × CpInfo)) (last : Nat) : List CpInfo := es.foldr (fun e r => gap e.1 (e.2 :: r)) (gap last [])
def pool (es : List (Nat × CpInfo)) (last : Nat) : Array CpInfo := ⟨poolList es last⟩
def fileOf (pool : Array CpInfo) (this : Nat) (attrs : Array Attribute := #[]) (ms : Array MethodInfo := #[]) (fl : Nat := 33) (sup : Nat := 0) (ifs : Array Nat := #[]) (fds : Array FieldInfo := #[]) : ClassFile where
  minorVersion := 0
  majorVersion := 65
  constantPool := pool
  accessFlags := fl
  thisClass := this
  superClass := sup
  interfaces := ifs
  fields := fds
  methods := ms
  attributes := attrs
def plain (name : String) (sup : Option ClassId) : Class where
  name := name
  kind := .ordinary
  loader := none
  accessFlags := 33
  super := sup
  interfaces := #[]
  cf := none
  fields := #[]
  methods := #[]
  instanceTypes := #[]
  staticTypes := #[]
  resolved := #[]
  callSites := []
  init := .initialized
  statics := none
  mirror := none

def pool0 : Array CpInfo := pool [(5, u "<init>"), (0, u "()V"), (1, .class_ 10), (1, u "java/lang/Object")] 113

def k0m0 : Method := { name := "<init>", desc := "()V", sig := { parameters := [], returnType := none }, accessFlags := 1, code := none }
/-- java/lang/Object -/
def k0 : Class := { plain "java/lang/Object" none with
  accessFlags := 33
  interfaces := #[]
  cf := some (fileOf pool0 8 #[] #[{ accessFlags := 1, nameIndex := 5, descriptorIndex := 6, attributes := #[] }] 33 0 #[] #[])
  fields := #[]
  methods := #[k0m0]
  instanceTypes := #[]
  staticTypes := #[]
  resolved := Array.replicate 124 none
  statics := none }

def pool1 : Array CpInfo := pool [(2, .class_ 4), (1, u "java/lang/Object"), (0, u "<init>"), (0, u "()V"), (0, .integer 2147483647), (0, .fieldref 9 10), (0, .class_ 11), (0, .nameAndType 12 13), (0, u "com/example/nomos/nomos/schema/Comparison$Operator"), (0, u "EQUAL"), (0, u "Lcom/example/nomos/nomos/schema/Comparison$Operator;"), (0, .fieldref 9 15), (0, .nameAndType 16 13), (0, u "NOT_EQUAL"), (0, .fieldref 9 18), (0, .nameAndType 19 13), (0, u "LESS"), (0, .fieldref 9 21), (0, .nameAndType 22 13), (0, u "LESS_OR_EQUAL"), (0, .fieldref 9 24), (0, .nameAndType 25 13), (0, u "GREATER"), (0, .fieldref 9 27), (0, .nameAndType 28 13), (0, u "GREATER_OR_EQUAL"), (0, .methodref 9 30), (0, .nameAndType 31 32), (0, u "holds"), (0, u "(I)Z"), (0, .class_ 34), (0, u "com/example/nomos/nomos/schema/OperatorHoldsPinLaw"), (2, u "law"), (0, u "(II)Z")] 7

def k1m0 : Method := { name := "<init>", desc := "()V", sig := { parameters := [], returnType := none }, accessFlags := 2, code := none }
def k1c1 : Code := { maxStack := 2, maxLocals := 5, code := code, exceptionTable := #[], attributes := #[] }
def k1m1 : Method := { name := "law", desc := "(II)Z", sig := { parameters := [.int, .int], returnType := some .boolean }, accessFlags := 9, code := some k1c1 }
/-- com/example/nomos/nomos/schema/OperatorHoldsPinLaw -/
def k1 : Class := { plain "com/example/nomos/nomos/schema/OperatorHoldsPinLaw" (some 0) with
  accessFlags := 49
  interfaces := #[]
  cf := some (fileOf pool1 33 #[] #[{ accessFlags := 2, nameIndex := 5, descriptorIndex := 6, attributes := #[] }, { accessFlags := 9, nameIndex := 37, descriptorIndex := 38, attributes := #[] }] 49 2 #[] #[])
  fields := #[]
  methods := #[k1m0, k1m1]
  instanceTypes := #[]
  staticTypes := #[]
  resolved := Array.replicate 46 none
  statics := none }

def pool2 : Array CpInfo := pool [(1, .class_ 2), (0, u "java/lang/constant/Constable"), (0, .class_ 4), (0, u "java/lang/Object")] 6

/-- java/lang/constant/Constable -/
def k2 : Class := { plain "java/lang/constant/Constable" (some 0) with
  accessFlags := 1537
  interfaces := #[]
  cf := some (fileOf pool2 1 #[] #[] 1537 3 #[] #[])
  fields := #[]
  methods := #[]
  instanceTypes := #[]
  staticTypes := #[]
  resolved := Array.replicate 11 none
  statics := none }

def pool3 : Array CpInfo := pool [(1, .class_ 2), (0, u "java/lang/Comparable"), (0, .class_ 4), (0, u "java/lang/Object")] 7

/-- java/lang/Comparable -/
def k3 : Class := { plain "java/lang/Comparable" (some 0) with
  accessFlags := 1537
  interfaces := #[]
  cf := some (fileOf pool3 1 #[] #[] 1537 3 #[] #[])
  fields := #[]
  methods := #[]
  instanceTypes := #[]
  staticTypes := #[]
  resolved := Array.replicate 12 none
  statics := none }

def pool4 : Array CpInfo := pool [(1, .class_ 2), (0, u "java/io/Serializable"), (0, .class_ 4), (0, u "java/lang/Object")] 2

/-- java/io/Serializable -/
def k4 : Class := { plain "java/io/Serializable" (some 0) with
  accessFlags := 1537
  interfaces := #[]
  cf := some (fileOf pool4 1 #[] #[] 1537 3 #[] #[])
  fields := #[]
  methods := #[]
  instanceTypes := #[]
  staticTypes := #[]
  resolved := Array.replicate 7 none
  statics := none }

def pool5 : Array CpInfo := pool [(2, .class_ 4), (1, u "java/lang/Enum"), (0, u "name"), (0, u "Ljava/lang/String;"), (2, u "ordinal"), (0, u "I"), (1, .class_ 14), (1, u "java/lang/Object"), (4, u "hash"), (86, .class_ 108), (1, u "java/lang/Enum$EnumDesc"), (2, .class_ 112), (0, u "java/lang/constant/Constable"), (0, .class_ 114), (0, u "java/lang/Comparable"), (0, .class_ 116), (0, u "java/io/Serializable")] 87

/-- java/lang/Enum -/
def k5 : Class := { plain "java/lang/Enum" (some 0) with
  accessFlags := 1057
  interfaces := #[2, 3, 4]
  cf := some (fileOf pool5 2 #[.nestMembers #[106]] #[] 1057 12 #[111, 113, 115] #[{ accessFlags := 18, nameIndex := 5, descriptorIndex := 6, attributes := #[] }, { accessFlags := 18, nameIndex := 9, descriptorIndex := 10, attributes := #[] }, { accessFlags := 2, nameIndex := 19, descriptorIndex := 10, attributes := #[] }])
  fields := #[{ name := "name", type := (.object "java/lang/String"), accessFlags := 18, slot := 0, constantValue := 0 }, { name := "ordinal", type := .int, accessFlags := 18, slot := 1, constantValue := 0 }, { name := "hash", type := .int, accessFlags := 2, slot := 2, constantValue := 0 }]
  methods := #[]
  instanceTypes := #[(.object "java/lang/String"), .int, .int]
  staticTypes := #[]
  resolved := Array.replicate 204 none
  statics := none }

def pool6 : Array CpInfo := pool [(1, .class_ 2), (0, u "com/example/nomos/nomos/schema/Comparison$Operator"), (2, u "EQUAL"), (0, u "Lcom/example/nomos/nomos/schema/Comparison$Operator;"), (2, u "NOT_EQUAL"), (2, u "LESS"), (2, u "LESS_OR_EQUAL"), (2, u "GREATER"), (2, u "GREATER_OR_EQUAL"), (2, u "$VALUES"), (0, u "[Lcom/example/nomos/nomos/schema/Comparison$Operator;"), (6, .class_ 34), (1, u "java/lang/Enum"), (8, u "symbol"), (0, u "Ljava/lang/String;"), (0, .fieldref 1 46), (0, .nameAndType 47 48), (0, u "less"), (0, u "Z"), (0, .fieldref 1 50), (0, .nameAndType 51 48), (0, u "equal"), (0, .fieldref 1 53), (0, .nameAndType 54 48), (0, u "greater"), (32, u "holds"), (0, u "(I)Z"), (9, .class_ 99), (0, u "com/example/nomos/nomos/schema/Comparison")] 2

def k6c0 : Code := { maxStack := 1, maxLocals := 2, code := prog_88_method_4_code, exceptionTable := #[], attributes := #[] }
def k6m0 : Method := { name := "holds", desc := "(I)Z", sig := { parameters := [.int], returnType := some .boolean }, accessFlags := 0, code := some k6c0 }
/-- com/example/nomos/nomos/schema/Comparison$Operator -/
def k6 : Class := { plain "com/example/nomos/nomos/schema/Comparison$Operator" (some 5) with
  accessFlags := 16433
  interfaces := #[]
  cf := some (fileOf pool6 1 #[.nestHost 98] #[{ accessFlags := 0, nameIndex := 87, descriptorIndex := 88, attributes := #[] }] 16433 32 #[] #[{ accessFlags := 16409, nameIndex := 5, descriptorIndex := 6, attributes := #[] }, { accessFlags := 16409, nameIndex := 9, descriptorIndex := 6, attributes := #[] }, { accessFlags := 16409, nameIndex := 12, descriptorIndex := 6, attributes := #[] }, { accessFlags := 16409, nameIndex := 15, descriptorIndex := 6, attributes := #[] }, { accessFlags := 16409, nameIndex := 18, descriptorIndex := 6, attributes := #[] }, { accessFlags := 16409, nameIndex := 21, descriptorIndex := 6, attributes := #[] }, { accessFlags := 18, nameIndex := 43, descriptorIndex := 44, attributes := #[] }, { accessFlags := 18, nameIndex := 47, descriptorIndex := 48, attributes := #[] }, { accessFlags := 18, nameIndex := 51, descriptorIndex := 48, attributes := #[] }, { accessFlags := 18, nameIndex := 54, descriptorIndex := 48, attributes := #[] }, { accessFlags := 4122, nameIndex := 24, descriptorIndex := 25, attributes := #[] }])
  fields := #[{ name := "EQUAL", type := (.object "com/example/nomos/nomos/schema/Comparison$Operator"), accessFlags := 16409, slot := 0, constantValue := 0 }, { name := "NOT_EQUAL", type := (.object "com/example/nomos/nomos/schema/Comparison$Operator"), accessFlags := 16409, slot := 1, constantValue := 0 }, { name := "LESS", type := (.object "com/example/nomos/nomos/schema/Comparison$Operator"), accessFlags := 16409, slot := 2, constantValue := 0 }, { name := "LESS_OR_EQUAL", type := (.object "com/example/nomos/nomos/schema/Comparison$Operator"), accessFlags := 16409, slot := 3, constantValue := 0 }, { name := "GREATER", type := (.object "com/example/nomos/nomos/schema/Comparison$Operator"), accessFlags := 16409, slot := 4, constantValue := 0 }, { name := "GREATER_OR_EQUAL", type := (.object "com/example/nomos/nomos/schema/Comparison$Operator"), accessFlags := 16409, slot := 5, constantValue := 0 }, { name := "symbol", type := (.object "java/lang/String"), accessFlags := 18, slot := 3, constantValue := 0 }, { name := "less", type := .boolean, accessFlags := 18, slot := 4, constantValue := 0 }, { name := "equal", type := .boolean, accessFlags := 18, slot := 5, constantValue := 0 }, { name := "greater", type := .boolean, accessFlags := 18, slot := 6, constantValue := 0 }, { name := "$VALUES", type := (.array (.object "com/example/nomos/nomos/schema/Comparison$Operator")), accessFlags := 4122, slot := 6, constantValue := 0 }]
  methods := #[k6m0]
  instanceTypes := #[(.object "java/lang/String"), .int, .int, (.object "java/lang/String"), .boolean, .boolean, .boolean]
  staticTypes := #[(.object "com/example/nomos/nomos/schema/Comparison$Operator"), (.object "com/example/nomos/nomos/schema/Comparison$Operator"), (.object "com/example/nomos/nomos/schema/Comparison$Operator"), (.object "com/example/nomos/nomos/schema/Comparison$Operator"), (.object "com/example/nomos/nomos/schema/Comparison$Operator"), (.object "com/example/nomos/nomos/schema/Comparison$Operator"), (.array (.object "com/example/nomos/nomos/schema/Comparison$Operator"))]
  resolved := Array.replicate 102 none
  statics := some 0 }

def pool7 : Array CpInfo := pool [(1, u "java/lang/Cloneable"), (0, .class_ 1), (0, u "java/lang/Object"), (0, .class_ 3)] 3

/-- java/lang/Cloneable -/
def k7 : Class := { plain "java/lang/Cloneable" (some 0) with
  accessFlags := 1537
  interfaces := #[]
  cf := some (fileOf pool7 2 #[] #[] 1537 4 #[] #[])
  fields := #[]
  methods := #[]
  instanceTypes := #[]
  staticTypes := #[]
  resolved := Array.replicate 8 none
  statics := none }

/-- the primitive byte -/
def k8 : Class := { plain "byte" none with kind := .primitive 'B', accessFlags := 0x411 }
/-- [B -/
def k9 : Class := { plain "[B" (some 0) with kind := .array 8 .byte, interfaces := #[7, 4], accessFlags := 1041 }

/-- the primitive int -/
def k10 : Class := { plain "int" none with kind := .primitive 'I', accessFlags := 0x411 }
/-- [I -/
def k11 : Class := { plain "[I" (some 0) with kind := .array 10 .int, interfaces := #[7, 4], accessFlags := 1041 }

def heap : Heap := #[{ cls := 6, slots := #[.ref 1, .ref 2, .ref 3, .ref 4, .ref 5, .ref 6, .null], vm := .statics 6 },
  { cls := 6, slots := #[.null, .int 0, .int 0, .null, .int 0, .int 1, .int 0], vm := .none },
  { cls := 6, slots := #[.null, .int 1, .int 0, .null, .int 1, .int 0, .int 1], vm := .none },
  { cls := 6, slots := #[.null, .int 2, .int 0, .null, .int 1, .int 0, .int 0], vm := .none },
  { cls := 6, slots := #[.null, .int 3, .int 0, .null, .int 1, .int 1, .int 0], vm := .none },
  { cls := 6, slots := #[.null, .int 4, .int 0, .null, .int 0, .int 0, .int 1], vm := .none },
  { cls := 6, slots := #[.null, .int 5, .int 0, .null, .int 0, .int 1, .int 1], vm := .none }]
def classes : Array Class := #[k0, k1, k2, k3, k4, k5, k6, k7, k8, k9, k10, k11]
def interned : List (Array UInt16 × Addr) := []
def slotsUsed : Nat := 49
def theMethod : MethodId := ⟨1, 1⟩
def args0 : Array Value := #[.int 5, .int 9]
def aboutOver (below : List Frame) : State where
  vm := { classes := classes, interned := interned.toArray }
  heap := heap
  slotsUsed := slotsUsed
  threads := #[{ frames := .invoking theMethod args0 :: below }]
def below0 : List Frame := [.native { method := ⟨0, 0⟩, args := #[] }]
def about1 : State := aboutOver below0
def p0 : Program := .bare "" "" ""
def e0 : Env := launch0.env 0 0 0
theorem w_frames : about1.frames = Frame.invoking theMethod args0 :: below0 := rfl
set_option maxRecDepth 65536 in
theorem w_args : argsFit about1.vm theMethod args0 = true := by decide +kernel
set_option maxRecDepth 65536 in
theorem w_heap : heapFits about1 = true := by decide +kernel
set_option maxRecDepth 65536 in
theorem w_runnable : about1.curStatus? = some .runnable := by decide +kernel
set_option maxRecDepth 65536 in
theorem w_alone : about1.alone = true := by decide +kernel
set_option maxRecDepth 65536 in
theorem w_named : about1.methodNamed? x = some theMethod := by decide +kernel
set_option maxRecDepth 65536 in
theorem w_hears : about1.hears theMethod below0 = true := by decide +kernel
set_option maxRecDepth 65536 in
theorem w_ripe : about1.ripe theMethod args0 below0 = true := by decide +kernel
theorem w_running : about1.status = .running := rfl
set_option maxRecDepth 65536 in
theorem w_room : about1.hasRoom e0.platform room_1 = true :=
  launch0.hasRoom_least _ room_1 (by decide +kernel) (by decide +kernel) (by decide +kernel) (by decide +kernel) (by decide +kernel) (by decide +kernel)
theorem allAtoms_all (ts : List Jvm.Cond) (a : Array Jvm.Value) (st : Jvm.State) : (allAtoms ts).before a st = ts.all (fun c => c.before a st) := by
  induction ts with
  | nil => rfl
  | cons c t ih =>
    show (Jvm.Cond.and c (allAtoms t)).before a st = _
    rw [Jvm.Cond.before_and, ih, List.all_cons]
def words1 : List Jvm.Cond := Jvm.Cond.code x code maxLocals ret :: tables_1
/-- a 'code' word, met by the world's own term for the bytes: nothing is compared byte by byte -/
theorem code_word {y : MethodName} {bytes : ByteArray} {mx : Nat} {rt : Option FieldType} {a : Array Value} {s : State} {m : MethodId} {meth : Method} {c : Code} (h1 : s.methodNamed? y = some m) (h2 : s.vm.method? m = some meth) (h3 : meth.code = some c) (h4 : c.code = bytes)
    (h5 : (c.maxLocals == mx && c.exceptionTable.isEmpty && decide (c.maxStack ≤ mostOperands) && decide (meth.sig.returnType = rt) && !meth.locks && decide (parseMethodDescriptor y.desc = some meth.sig)) = true) : (Jvm.Cond.code y bytes mx rt).before a s = true := by
  simp only [Bool.and_eq_true, beq_iff_eq, Bool.not_eq_true', decide_eq_true_eq] at h5
  obtain ⟨⟨⟨⟨⟨g1, g2⟩, g3⟩, g4⟩, g5⟩, g6⟩ := h5
  simp [Cond.before, Cond.holds, Cond.value, h1, h2, h3, h4, g1, g2, g3, g4, g5, g6]
def isCode : Jvm.Cond → Bool
  | .code _ _ _ _ => true
  | _ => false
theorem all_split {L : List Jvm.Cond} {P : Jvm.Cond → Bool} (h1 : L.all (fun c => isCode c || P c) = true) (h2 : ∀ c ∈ L.filter isCode, P c = true) : L.all P = true := by
  refine List.all_eq_true.mpr fun c hc => ?_
  have h := List.all_eq_true.mp h1 c hc
  rcases Bool.eq_false_or_eq_true (isCode c) with hi | hi
  · exact h2 c (List.mem_filter.mpr ⟨hc, hi⟩)
  · simpa [hi] using h
set_option maxRecDepth 65536 in
theorem w_c0 : (Jvm.Cond.code x code maxLocals ret).before args0 about1 = true := code_word (m := ⟨1, 1⟩) (meth := k1m1) (c := k1c1) (by decide +kernel) rfl rfl rfl (by decide +kernel)
set_option maxRecDepth 65536 in
theorem w_c1 : (Jvm.Cond.code ({ cls := "com/example/nomos/nomos/schema/Comparison$Operator", name := "holds", desc := "(I)Z" } : Jvm.MethodName) prog_88_method_4_code (2 : Nat) (Option.some Jvm.ClassFile.FieldType.boolean)).before args0 about1 = true := code_word (m := ⟨6, 0⟩) (meth := k6m0) (c := k6c0) (by decide +kernel) rfl rfl rfl (by decide +kernel)
def codes1 : List Jvm.Cond := [Jvm.Cond.code x code maxLocals ret, Jvm.Cond.code ({ cls := "com/example/nomos/nomos/schema/Comparison$Operator", name := "holds", desc := "(I)Z" } : Jvm.MethodName) prog_88_method_4_code (2 : Nat) (Option.some Jvm.ClassFile.FieldType.boolean)]
set_option maxRecDepth 65536 in
theorem codes_eq : words1.filter isCode = codes1 := rfl
theorem w_codes : ∀ c ∈ words1.filter isCode, c.before args0 about1 = true := by
  rw [codes_eq]
  intro c hc
  simp only [codes1, List.mem_cons, List.not_mem_nil, or_false] at hc
  rcases hc with rfl | rfl
  · exact w_c0
  · exact w_c1
set_option maxRecDepth 65536 in
theorem w_t1 : (words1.take 24).all (fun c => isCode c || c.before args0 about1) = true := by decide +kernel
set_option maxRecDepth 65536 in
theorem w_t2 : (words1.drop 24).all (fun c => isCode c || c.before args0 about1) = true := by decide +kernel
theorem w_tables : (allAtoms (Jvm.Cond.code x code maxLocals ret :: tables_1)).before args0 about1 = true := by
  rw [allAtoms_all]
  show words1.all (fun c => c.before args0 about1) = true
  refine all_split ?_ w_codes
  rw [← List.take_append_drop 24 words1, List.all_append, w_t1, w_t2]
  rfl
set_option maxRecDepth 65536 in
theorem w_case : (Jvm.Cond.and given_1 narrow_1).before args0 about1 = true := by decide +kernel
theorem w_applies : (headSpec (Jvm.Cond.code x code maxLocals ret :: tables_1) room_1).applies x e0.platform about1 = true :=
  (Spec.applies_iff w_frames).mpr ⟨w_running, w_runnable, w_alone, w_named, w_hears, w_ripe, w_room, w_tables⟩
theorem atStart : AtStart classFile x code maxLocals ret World_1 tables_1 room_1 Calls_1 rest_1 Pre_1 launch0 p0 e0 about1 theMethod args0 below0 :=
  ⟨lists_1, trivial, launch0.admits_env _ _ _, launch0.least_env, fairChoices_fair.cas, fairChoices_fair.clock, w_frames, w_args, w_heap, w_applies, trivial, trivial, w_case⟩
end start1
theorem witness_1 : WitnessClaimed_1 := ⟨start1.p0, start1.e0, start1.about1, start1.theMethod, start1.args0, start1.below0, start1.atStart⟩
end Jvm.Pilot.@@N@@
