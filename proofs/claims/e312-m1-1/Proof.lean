import JvmDerived
import JvmDerived.Pilot.@@N@@Statement
import JvmDerived.Pilot.@@N@@Code
set_option linter.unusedVariables false
set_option linter.unusedSimpArgs false
namespace Jvm.RoadKit
open Sem ClassFile Op Lib Jvm.Stand Jvm.Free Jvm.LawKit
section New
variable {p : Program} {l : Launch} {e : Env} {R : Room} {s : State} {m : MethodId} {args : Array Value} {below : List Frame} {meth : Method} {c : Code} {T : State} {locs : List Loc} {cells slots : Nat}
theorem retI (X : Stand p l e R s m args below meth c T locs cells slots) (hx : p.tables.exec = Jvm.exec) {pc : Nat} {Ls : Array Slot} {z : Int32} {rest : List Value} (hret : meth.sig.returnType = some .int) (hd : decode c.code pc = .ok (.ireturn, 1)) {fs : List Frame}
    (hl : ∀ (f : JFrame) (acts : List Action), f.method = m → f.locked = none → f.entered = [] → (doReturn e (T.setTop f) acts (some (.int z))).1 = T.setFrames fs) : Steps p.tables e below (T.setTop (mkF m pc Ls (.int z :: rest))) (T.setFrames fs) :=
  retOut X hx hret rfl (Or.inl ⟨rfl, Or.inl rfl, z, rfl⟩) hd hl
end New
end Jvm.RoadKit
namespace Jvm.Pilot.@@N@@
open Jvm Jvm.ClassFile Sem Op Lib Jvm.Free Jvm.Stand Jvm.LawKit Jvm.RoadKit Bundle Jvm.Pilot.@@N@@.Jvm.D
def own_Q (Q : Option Value → Heap → List Loc → Prop) (v : Option Value) (h : Heap) (L : List Loc) : Prop := Q v h L
theorem own_sta {s : State} {args : Array Value} {C n d K : String} (h : (Jvm.Cond.exactly (Jvm.Term.static C n d) K).value args s none s [] = some true) (w1 : (Jvm.Cond.initialized C).before args s = true) (w2 : (Jvm.Cond.laysStatic C n d).before args s = true) :
    ∃ a, (Jvm.Term.static C n d).eval args s none [] s = some (.ref a) ∧ Sta s s.heap C n d (.ref a) ∧ Exa s s.heap a K := by
  obtain ⟨a, e⟩ := exa_v h
  exact ⟨a, e, Sta.start e (Or.inr ⟨w1, w2⟩), Exa.start e h⟩
theorem own_fi {s : State} {args : Array Value} {t : Jvm.Term} {a : Addr} {C f d : String} {z : Int32} (ev : t.eval args s none [] s = some (.ref a)) (h : (Jvm.Cond.eq (Jvm.Term.field t C f d) (Jvm.Term.int z)).value args s none s [] = some true) : Fld s s.heap a C f d (.int z) := by
  obtain ⟨x, y, e1, e2, k1, k2⟩ := cmp_v (Or.inl h)
  have ez : (Jvm.Term.int z).eval args s none [] s = some (.int z) := Term.int_eval z
  obtain rfl : y = .int z := Option.some.inj (e2.symm.trans ez)
  obtain ⟨w, rfl⟩ : ∃ w, x = .int w := k2
  have hv : (Jvm.Cond.eq (Jvm.Term.field t C f d) (Jvm.Term.int z)).value args s none s [] = some (decide (w = z)) := by simp [Cond.value, e1, ez]
  obtain rfl := gotT hv h
  rw [fld_at ev] at e1
  exact Fld.start e1
theorem own_fu {Z : State} {h : Heap} {a : Addr} {C f d : String} {x y : Value} (F : Fld Z h a C f d x) (G : Fld Z h a C f d y) : x = y := by
  obtain ⟨c1, cf1, k1, i1, f1, h1, h2, h3, h4, h5, h6, h7⟩ := F
  obtain ⟨c2, cf2, k2, i2, f2, g1, g2, g3, g4, g5, g6, g7⟩ := G
  cases h1.symm.trans g1
  cases h2.symm.trans g2
  exact Option.some.inj (h7.symm.trans g7)
theorem own_fne {Z : State} {h : Heap} {a b : Addr} {C f d : String} {x y : Int32} (F : Fld Z h a C f d (.int x)) (G : Fld Z h b C f d (.int y)) (hn : ¬ x = y) : ¬ a = b := fun e => by
  subst e; exact hn (Value.int.inj (own_fu F G))
def own_nm : Nat → String
  | 0 => "NULL"
  | 1 => "BOOLEAN"
  | 2 => "INTEGER"
  | 3 => "DECIMAL"
  | 4 => "FLOAT"
  | 5 => "TEXT"
  | 6 => "TIME"
  | 7 => "INSTANT"
  | 8 => "TIME_OF_DAY"
  | 9 => "UUID"
  | 10 => "ENUM"
  | 11 => "BYTES"
  | 12 => "JSON"
  | 13 => "ARRAY"
  | 14 => "OPAQUE"
  | _ => ""
def own_rd (j : Nat) : Int32 := if j = 9 then 0 else if j = 11 then 0 else if j = 12 then 0 else if j = 13 then 0 else if j = 14 then 0 else 1
theorem own_lt {a b : Int32} : a < b ↔ a.toInt < b.toInt := Int32.lt_iff_toInt_lt
theorem own_eq {a b : Int32} : a = b ↔ a.toInt = b.toInt := Int32.toInt_inj.symm
theorem own_rem (x : Int32) : 0 ≤ ((x &&& (2147483647 : Int32)) % (15 : Int32)).toInt ∧ ((x &&& (2147483647 : Int32)) % (15 : Int32)).toInt < 15 := by
  have h1 := c_mask x 2147483647 31 (by decide) (by decide)
  have h2 := (c_irem (x &&& 2147483647) 15 15 rfl).1 (by rw [h1]; omega)
  rw [h2]; omega
theorem own_of (k : Int32) (h0 : 0 ≤ k.toInt) (h1 : k.toInt < 15) : ∃ j : Nat, j < 15 ∧ k = Int32.ofNat j ∧ k.toInt = j := by
  have e : (k.toInt.toNat : Int) = k.toInt := Int.toNat_of_nonneg h0
  refine ⟨k.toInt.toNat, by omega, ?_, e.symm⟩
  apply Int32.toInt_inj.mp
  rw [Int32.toInt_ofNat_of_lt (by omega)]; exact e.symm
theorem own_ne {k : Int32} {j i : Nat} (e : k.toInt = j) (hi : (Int32.ofNat i).toInt = i) (hn : ¬ j = i) : ¬ k = Int32.ofNat i := fun q => hn (by rw [q, hi] at e; omega)
theorem own_pd0 : parseMethodDescriptor "(I)Lcom/example/nomos/nomos/schema/ValueFamily;" = some ⟨[.int], some (.object "com/example/nomos/nomos/schema/ValueFamily")⟩ := by decide +kernel
theorem own_pd1 : parseMethodDescriptor "()Z" = some ⟨[], some .boolean⟩ := by decide +kernel
theorem own_pn0 : plainName "com/example/nomos/nomos/schema/ValueFamilyIsReadByConditionsPinLaw" = true := by first | (simp [plainName, overriddenIn]; done) | decide +kernel
theorem own_pn1 : plainName "com/example/nomos/nomos/schema/ValueFamily" = true := by first | (simp [plainName, overriddenIn]; done) | decide +kernel
theorem d1_0 : decode method_3_code 0 = .ok (.iload_n 0, 1) := by decide +kernel
theorem d1_1 : decode method_3_code 1 = .ok (.ifCond .ne 7, 3) := by decide +kernel
theorem d1_4 : decode method_3_code 4 = .ok (.getstatic 20, 3) := by decide +kernel
theorem d1_7 : decode method_3_code 7 = .ok (.areturn, 1) := by decide +kernel
theorem d1_8 : decode method_3_code 8 = .ok (.iload_n 0, 1) := by decide +kernel
theorem d1_9 : decode method_3_code 9 = .ok (.iconst 1, 1) := by decide +kernel
theorem d1_10 : decode method_3_code 10 = .ok (.if_icmp .ne 7, 3) := by decide +kernel
theorem d1_13 : decode method_3_code 13 = .ok (.getstatic 24, 3) := by decide +kernel
theorem d1_16 : decode method_3_code 16 = .ok (.areturn, 1) := by decide +kernel
theorem d1_17 : decode method_3_code 17 = .ok (.iload_n 0, 1) := by decide +kernel
theorem d1_18 : decode method_3_code 18 = .ok (.iconst 2, 1) := by decide +kernel
theorem d1_19 : decode method_3_code 19 = .ok (.if_icmp .ne 7, 3) := by decide +kernel
theorem d1_22 : decode method_3_code 22 = .ok (.getstatic 27, 3) := by decide +kernel
theorem d1_25 : decode method_3_code 25 = .ok (.areturn, 1) := by decide +kernel
theorem d1_26 : decode method_3_code 26 = .ok (.iload_n 0, 1) := by decide +kernel
theorem d1_27 : decode method_3_code 27 = .ok (.iconst 3, 1) := by decide +kernel
theorem d1_28 : decode method_3_code 28 = .ok (.if_icmp .ne 7, 3) := by decide +kernel
theorem d1_31 : decode method_3_code 31 = .ok (.getstatic 30, 3) := by decide +kernel
theorem d1_34 : decode method_3_code 34 = .ok (.areturn, 1) := by decide +kernel
theorem d1_35 : decode method_3_code 35 = .ok (.iload_n 0, 1) := by decide +kernel
theorem d1_36 : decode method_3_code 36 = .ok (.iconst 4, 1) := by decide +kernel
theorem d1_37 : decode method_3_code 37 = .ok (.if_icmp .ne 7, 3) := by decide +kernel
theorem d1_40 : decode method_3_code 40 = .ok (.getstatic 33, 3) := by decide +kernel
theorem d1_43 : decode method_3_code 43 = .ok (.areturn, 1) := by decide +kernel
theorem d1_44 : decode method_3_code 44 = .ok (.iload_n 0, 1) := by decide +kernel
theorem d1_45 : decode method_3_code 45 = .ok (.iconst 5, 1) := by decide +kernel
theorem d1_46 : decode method_3_code 46 = .ok (.if_icmp .ne 7, 3) := by decide +kernel
theorem d1_49 : decode method_3_code 49 = .ok (.getstatic 36, 3) := by decide +kernel
theorem d1_52 : decode method_3_code 52 = .ok (.areturn, 1) := by decide +kernel
theorem d1_53 : decode method_3_code 53 = .ok (.iload_n 0, 1) := by decide +kernel
theorem d1_54 : decode method_3_code 54 = .ok (.bipush 6, 2) := by decide +kernel
theorem d1_56 : decode method_3_code 56 = .ok (.if_icmp .ne 7, 3) := by decide +kernel
theorem d1_59 : decode method_3_code 59 = .ok (.getstatic 39, 3) := by decide +kernel
theorem d1_62 : decode method_3_code 62 = .ok (.areturn, 1) := by decide +kernel
theorem d1_63 : decode method_3_code 63 = .ok (.iload_n 0, 1) := by decide +kernel
theorem d1_64 : decode method_3_code 64 = .ok (.bipush 7, 2) := by decide +kernel
theorem d1_66 : decode method_3_code 66 = .ok (.if_icmp .ne 7, 3) := by decide +kernel
theorem d1_69 : decode method_3_code 69 = .ok (.getstatic 42, 3) := by decide +kernel
theorem d1_72 : decode method_3_code 72 = .ok (.areturn, 1) := by decide +kernel
theorem d1_73 : decode method_3_code 73 = .ok (.iload_n 0, 1) := by decide +kernel
theorem d1_74 : decode method_3_code 74 = .ok (.bipush 8, 2) := by decide +kernel
theorem d1_76 : decode method_3_code 76 = .ok (.if_icmp .ne 7, 3) := by decide +kernel
theorem d1_79 : decode method_3_code 79 = .ok (.getstatic 45, 3) := by decide +kernel
theorem d1_82 : decode method_3_code 82 = .ok (.areturn, 1) := by decide +kernel
theorem d1_83 : decode method_3_code 83 = .ok (.iload_n 0, 1) := by decide +kernel
theorem d1_84 : decode method_3_code 84 = .ok (.bipush 9, 2) := by decide +kernel
theorem d1_86 : decode method_3_code 86 = .ok (.if_icmp .ne 7, 3) := by decide +kernel
theorem d1_89 : decode method_3_code 89 = .ok (.getstatic 48, 3) := by decide +kernel
theorem d1_92 : decode method_3_code 92 = .ok (.areturn, 1) := by decide +kernel
theorem d1_93 : decode method_3_code 93 = .ok (.iload_n 0, 1) := by decide +kernel
theorem d1_94 : decode method_3_code 94 = .ok (.bipush 10, 2) := by decide +kernel
theorem d1_96 : decode method_3_code 96 = .ok (.if_icmp .ne 7, 3) := by decide +kernel
theorem d1_99 : decode method_3_code 99 = .ok (.getstatic 51, 3) := by decide +kernel
theorem d1_102 : decode method_3_code 102 = .ok (.areturn, 1) := by decide +kernel
theorem d1_103 : decode method_3_code 103 = .ok (.iload_n 0, 1) := by decide +kernel
theorem d1_104 : decode method_3_code 104 = .ok (.bipush 11, 2) := by decide +kernel
theorem d1_106 : decode method_3_code 106 = .ok (.if_icmp .ne 7, 3) := by decide +kernel
theorem d1_109 : decode method_3_code 109 = .ok (.getstatic 54, 3) := by decide +kernel
theorem d1_112 : decode method_3_code 112 = .ok (.areturn, 1) := by decide +kernel
theorem d1_113 : decode method_3_code 113 = .ok (.iload_n 0, 1) := by decide +kernel
theorem d1_114 : decode method_3_code 114 = .ok (.bipush 12, 2) := by decide +kernel
theorem d1_116 : decode method_3_code 116 = .ok (.if_icmp .ne 7, 3) := by decide +kernel
theorem d1_119 : decode method_3_code 119 = .ok (.getstatic 57, 3) := by decide +kernel
theorem d1_122 : decode method_3_code 122 = .ok (.areturn, 1) := by decide +kernel
theorem d1_123 : decode method_3_code 123 = .ok (.iload_n 0, 1) := by decide +kernel
theorem d1_124 : decode method_3_code 124 = .ok (.bipush 13, 2) := by decide +kernel
theorem d1_126 : decode method_3_code 126 = .ok (.if_icmp .ne 7, 3) := by decide +kernel
theorem d1_129 : decode method_3_code 129 = .ok (.getstatic 60, 3) := by decide +kernel
theorem d1_132 : decode method_3_code 132 = .ok (.areturn, 1) := by decide +kernel
theorem d1_133 : decode method_3_code 133 = .ok (.getstatic 63, 3) := by decide +kernel
theorem d1_136 : decode method_3_code 136 = .ok (.areturn, 1) := by decide +kernel
theorem d2_0 : decode prog_141_method_6_code 0 = .ok (.aload_n 0, 1) := by decide +kernel
theorem d2_1 : decode prog_141_method_6_code 1 = .ok (.getstatic 31, 3) := by decide +kernel
theorem d2_4 : decode prog_141_method_6_code 4 = .ok (.if_acmp .eq 35, 3) := by decide +kernel
theorem d2_7 : decode prog_141_method_6_code 7 = .ok (.aload_n 0, 1) := by decide +kernel
theorem d2_8 : decode prog_141_method_6_code 8 = .ok (.getstatic 37, 3) := by decide +kernel
theorem d2_11 : decode prog_141_method_6_code 11 = .ok (.if_acmp .eq 28, 3) := by decide +kernel
theorem d2_14 : decode prog_141_method_6_code 14 = .ok (.aload_n 0, 1) := by decide +kernel
theorem d2_15 : decode prog_141_method_6_code 15 = .ok (.getstatic 40, 3) := by decide +kernel
theorem d2_18 : decode prog_141_method_6_code 18 = .ok (.if_acmp .eq 21, 3) := by decide +kernel
theorem d2_21 : decode prog_141_method_6_code 21 = .ok (.aload_n 0, 1) := by decide +kernel
theorem d2_22 : decode prog_141_method_6_code 22 = .ok (.getstatic 43, 3) := by decide +kernel
theorem d2_25 : decode prog_141_method_6_code 25 = .ok (.if_acmp .eq 14, 3) := by decide +kernel
theorem d2_28 : decode prog_141_method_6_code 28 = .ok (.aload_n 0, 1) := by decide +kernel
theorem d2_29 : decode prog_141_method_6_code 29 = .ok (.getstatic 46, 3) := by decide +kernel
theorem d2_32 : decode prog_141_method_6_code 32 = .ok (.if_acmp .eq 7, 3) := by decide +kernel
theorem d2_35 : decode prog_141_method_6_code 35 = .ok (.iconst 1, 1) := by decide +kernel
theorem d2_36 : decode prog_141_method_6_code 36 = .ok (.goto 4, 3) := by decide +kernel
theorem d2_39 : decode prog_141_method_6_code 39 = .ok (.iconst 0, 1) := by decide +kernel
theorem d2_40 : decode prog_141_method_6_code 40 = .ok (.ireturn, 1) := by decide +kernel
set_option maxRecDepth 65536 in
set_option maxHeartbeats 40000000 in
theorem rm1 (l : Launch) (Z : State) (a0 : Array Value) (hw : ∀ d ∈ tables_1, d.before a0 Z = true) (ws : List Jvm.Cond) (p1 : Int32) (j : Nat) (ad : Nat → Addr) (h0 : Heap) (n0 : Nat) (Z0 : n0 ≤ h0.size) (hj : j < 15) (hp : p1.toInt = j) (hS : ∀ k, k < 15 → Sta Z h0 "com/example/nomos/nomos/schema/ValueFamily" (own_nm k) "Lcom/example/nomos/nomos/schema/ValueFamily;" (.ref (ad k))) :
    MetFree l (⟨"com/example/nomos/nomos/schema/ValueFamilyIsReadByConditionsPinLaw", "pick", "(I)Lcom/example/nomos/nomos/schema/ValueFamily;"⟩ : MethodName) (head1 (Jvm.Cond.code (⟨"com/example/nomos/nomos/schema/ValueFamilyIsReadByConditionsPinLaw", "pick", "(I)Lcom/example/nomos/nomos/schema/ValueFamily;"⟩ : MethodName) method_3_code 1 (some (.object "com/example/nomos/nomos/schema/ValueFamily")) :: ws) ({ frames := 0, cells := 0, slots := 0, locals := 0 } : Room)) (fun a U => a = #[(.int p1)] ∧ Z.Warmed39 U.vm ∧ U.heap = h0) (fun _ _ _ _ _ => True) (fun _ U o U' => ∃ v L, o = .returned v ∧ own_Q (fun v h L => (v = some (.ref (ad j)) ∧ Fr n0 L ∧ h = h0)) v U'.heap L ∧ FrameEnd U o U' L ({ frames := 0, cells := 0, slots := 0, locals := 0 } : Room).cells ({ frames := 0, cells := 0, slots := 0, locals := 0 } : Room).slots) := by
  refine MetFree.of_bodySF (plainFor_of_name own_pn0) hisR ?_
  intro p e s m args below meth c s₁ Bd hml0 hP hK
  obtain ⟨rfl, hZ, hh⟩ := hP
  have hx := Bd.exec
  have hby := Bd.bytes
  have hml : c.maxLocals = 1 := hml0
  have hown : s.vm.findClass "com/example/nomos/nomos/schema/ValueFamilyIsReadByConditionsPinLaw" = some m.cls := findClass_of_methodNamed Bd.named
  have hnm := (name_of_methodNamed Bd.named Bd.method).1
  have X0 : Stand p l e ({ frames := 0, cells := 0, slots := 0, locals := 0 } : Room) s m #[(.int p1)] below meth c s₁ [] 0 0 := Stand.of_body Bd
  have e0 : s₁.heap = h0 := by rw [← hh, Bd.state]; rfl
  have N0 := Fr.nil n0
  have ef : entryFrame m #[(.int p1)] 1 = mkF m 0 #[.val (.int p1)] [] := by first | (simp [entryFrame, mkF, argsToLocals, Value.category]; done) | rfl
  have pre0 : ∀ t, Steps p.tables e below (s₁.setTop (mkF m 0 #[.val (.int p1)] [])) t → Steps p.tables e below (s₁.setTop (entryFrame m #[(.int p1)] 1)) t := fun t k => castTop ef k
  have pre1 : ∀ t, Steps p.tables e below (s₁.setTop (mkF m 1 #[.val (.int p1)] [(.int p1)])) t → Steps p.tables e below (s₁.setTop (entryFrame m #[(.int p1)] 1)) t := by
    intro t k
    refine pre0 _ ?_
    refine XS.iloadN X0.here hx rfl (hb hby d1_0) rfl ?_
    show Steps p.tables e below (s₁.setTop (mkF m 1 #[.val (.int p1)] [(.int p1)])) _
    exact k
  by_cases hk0 : j = 0
  · have hp' : p1 = (0 : Int32) := own_eq.mpr (hp.trans (by rw [hk0]; rfl))
    have pre2 : ∀ t, Steps p.tables e below (s₁.setTop (mkF m 4 #[.val (.int p1)] [])) t → Steps p.tables e below (s₁.setTop (entryFrame m #[(.int p1)] 1)) t := by
      intro t k
      refine pre1 _ ?_
      refine XS.ifNo X0.here hx rfl (hb hby d1_1) rfl ((if0 _ _).trans (teq hp').2) ?_
      show Steps p.tables e below (s₁.setTop (mkF m 4 #[.val (.int p1)] [])) _
      exact k
    obtain ⟨T3, X3, e3, st3⟩ := getS (host := "") X0 hx hZ hown (hw _ (List.mem_of_getElem? (i := 5) rfl)) Via.refl e0 (hS 0 (by decide)) (g := (mkF m 4 #[.val (.int p1)] [])) rfl (hb hby d1_4)
    have pre3 : ∀ t, Steps p.tables e below (T3.setTop (mkF m 7 #[.val (.int p1)] [(.ref (ad 0))])) t → Steps p.tables e below (s₁.setTop (entryFrame m #[(.int p1)] 1)) t := fun t k => pre2 t (st3 t k)
    obtain ⟨fs, hr, hrun, hended, hW, hsame⟩ := X3.leave (v := some (.ref (ad 0))) (fun h => by rw [Bd.returns] at h; cases h)
    refine ⟨_, _, pre3 _ ?_, hrun, hended, _, _, rfl, ?_, ⟨_, rfl⟩, hW, hsame.mono (by decide) (by decide)⟩
    · exact retOut X3 hx Bd.returns rfl (Or.inr (Or.inr (Or.inr (Or.inr ⟨rfl, rfl, rfl⟩)))) (hb hby d1_7) hr
    · show ((_ : Option Value) = some (.ref (ad j)) ∧ Fr n0 _ ∧ T3.heap = h0)
      rw [e3]
      exact ⟨by rw [hk0], N0, rfl⟩
  · have hp' : ¬ p1 = (0 : Int32) := own_ne (i := 0) hp rfl hk0
    have pre4 : ∀ t, Steps p.tables e below (s₁.setTop (mkF m 10 #[.val (.int p1)] [(.int (1 : Int32)), (.int p1)])) t → Steps p.tables e below (s₁.setTop (entryFrame m #[(.int p1)] 1)) t := by
      intro t k
      refine pre1 _ ?_
      refine XS.ifYes X0.here hx rfl (pc0 := 1) (pc' := 8) rfl (hb hby d1_1) rfl ((if0 _ _).trans (feq hp').2) (by decide) (by decide) ?_
      show Steps p.tables e below (s₁.setTop (mkF m 8 #[.val (.int p1)] [])) _
      refine XS.iloadN X0.here hx rfl (hb hby d1_8) rfl ?_
      show Steps p.tables e below (s₁.setTop (mkF m 9 #[.val (.int p1)] [(.int p1)])) _
      refine XS.iconst X0.here hx rfl (hb hby d1_9) ?_
      show Steps p.tables e below (s₁.setTop (mkF m 10 #[.val (.int p1)] [(.int (1 : Int32)), (.int p1)])) _
      exact k
    by_cases hk1 : j = 1
    · have hp' : p1 = (1 : Int32) := own_eq.mpr (hp.trans (by rw [hk1]; rfl))
      have pre5 : ∀ t, Steps p.tables e below (s₁.setTop (mkF m 13 #[.val (.int p1)] [])) t → Steps p.tables e below (s₁.setTop (entryFrame m #[(.int p1)] 1)) t := by
        intro t k
        refine pre4 _ ?_
        refine XS.icmpNo X0.here hx rfl (hb hby d1_10) rfl (teq hp').2 ?_
        show Steps p.tables e below (s₁.setTop (mkF m 13 #[.val (.int p1)] [])) _
        exact k
      obtain ⟨T6, X6, e6, st6⟩ := getS (host := "") X0 hx hZ hown (hw _ (List.mem_of_getElem? (i := 40) rfl)) Via.refl e0 (hS 1 (by decide)) (g := (mkF m 13 #[.val (.int p1)] [])) rfl (hb hby d1_13)
      have pre6 : ∀ t, Steps p.tables e below (T6.setTop (mkF m 16 #[.val (.int p1)] [(.ref (ad 1))])) t → Steps p.tables e below (s₁.setTop (entryFrame m #[(.int p1)] 1)) t := fun t k => pre5 t (st6 t k)
      obtain ⟨fs, hr, hrun, hended, hW, hsame⟩ := X6.leave (v := some (.ref (ad 1))) (fun h => by rw [Bd.returns] at h; cases h)
      refine ⟨_, _, pre6 _ ?_, hrun, hended, _, _, rfl, ?_, ⟨_, rfl⟩, hW, hsame.mono (by decide) (by decide)⟩
      · exact retOut X6 hx Bd.returns rfl (Or.inr (Or.inr (Or.inr (Or.inr ⟨rfl, rfl, rfl⟩)))) (hb hby d1_16) hr
      · show ((_ : Option Value) = some (.ref (ad j)) ∧ Fr n0 _ ∧ T6.heap = h0)
        rw [e6]
        exact ⟨by rw [hk1], N0, rfl⟩
    · have hp' : ¬ p1 = (1 : Int32) := own_ne (i := 1) hp rfl hk1
      have pre7 : ∀ t, Steps p.tables e below (s₁.setTop (mkF m 19 #[.val (.int p1)] [(.int (2 : Int32)), (.int p1)])) t → Steps p.tables e below (s₁.setTop (entryFrame m #[(.int p1)] 1)) t := by
        intro t k
        refine pre4 _ ?_
        refine XS.icmpYes X0.here hx rfl (pc0 := 10) (pc' := 17) rfl (hb hby d1_10) rfl (feq hp').2 (by decide) (by decide) ?_
        show Steps p.tables e below (s₁.setTop (mkF m 17 #[.val (.int p1)] [])) _
        refine XS.iloadN X0.here hx rfl (hb hby d1_17) rfl ?_
        show Steps p.tables e below (s₁.setTop (mkF m 18 #[.val (.int p1)] [(.int p1)])) _
        refine XS.iconst X0.here hx rfl (hb hby d1_18) ?_
        show Steps p.tables e below (s₁.setTop (mkF m 19 #[.val (.int p1)] [(.int (2 : Int32)), (.int p1)])) _
        exact k
      by_cases hk2 : j = 2
      · have hp' : p1 = (2 : Int32) := own_eq.mpr (hp.trans (by rw [hk2]; rfl))
        have pre8 : ∀ t, Steps p.tables e below (s₁.setTop (mkF m 22 #[.val (.int p1)] [])) t → Steps p.tables e below (s₁.setTop (entryFrame m #[(.int p1)] 1)) t := by
          intro t k
          refine pre7 _ ?_
          refine XS.icmpNo X0.here hx rfl (hb hby d1_19) rfl (teq hp').2 ?_
          show Steps p.tables e below (s₁.setTop (mkF m 22 #[.val (.int p1)] [])) _
          exact k
        obtain ⟨T9, X9, e9, st9⟩ := getS (host := "") X0 hx hZ hown (hw _ (List.mem_of_getElem? (i := 33) rfl)) Via.refl e0 (hS 2 (by decide)) (g := (mkF m 22 #[.val (.int p1)] [])) rfl (hb hby d1_22)
        have pre9 : ∀ t, Steps p.tables e below (T9.setTop (mkF m 25 #[.val (.int p1)] [(.ref (ad 2))])) t → Steps p.tables e below (s₁.setTop (entryFrame m #[(.int p1)] 1)) t := fun t k => pre8 t (st9 t k)
        obtain ⟨fs, hr, hrun, hended, hW, hsame⟩ := X9.leave (v := some (.ref (ad 2))) (fun h => by rw [Bd.returns] at h; cases h)
        refine ⟨_, _, pre9 _ ?_, hrun, hended, _, _, rfl, ?_, ⟨_, rfl⟩, hW, hsame.mono (by decide) (by decide)⟩
        · exact retOut X9 hx Bd.returns rfl (Or.inr (Or.inr (Or.inr (Or.inr ⟨rfl, rfl, rfl⟩)))) (hb hby d1_25) hr
        · show ((_ : Option Value) = some (.ref (ad j)) ∧ Fr n0 _ ∧ T9.heap = h0)
          rw [e9]
          exact ⟨by rw [hk2], N0, rfl⟩
      · have hp' : ¬ p1 = (2 : Int32) := own_ne (i := 2) hp rfl hk2
        have pre10 : ∀ t, Steps p.tables e below (s₁.setTop (mkF m 28 #[.val (.int p1)] [(.int (3 : Int32)), (.int p1)])) t → Steps p.tables e below (s₁.setTop (entryFrame m #[(.int p1)] 1)) t := by
          intro t k
          refine pre7 _ ?_
          refine XS.icmpYes X0.here hx rfl (pc0 := 19) (pc' := 26) rfl (hb hby d1_19) rfl (feq hp').2 (by decide) (by decide) ?_
          show Steps p.tables e below (s₁.setTop (mkF m 26 #[.val (.int p1)] [])) _
          refine XS.iloadN X0.here hx rfl (hb hby d1_26) rfl ?_
          show Steps p.tables e below (s₁.setTop (mkF m 27 #[.val (.int p1)] [(.int p1)])) _
          refine XS.iconst X0.here hx rfl (hb hby d1_27) ?_
          show Steps p.tables e below (s₁.setTop (mkF m 28 #[.val (.int p1)] [(.int (3 : Int32)), (.int p1)])) _
          exact k
        by_cases hk3 : j = 3
        · have hp' : p1 = (3 : Int32) := own_eq.mpr (hp.trans (by rw [hk3]; rfl))
          have pre11 : ∀ t, Steps p.tables e below (s₁.setTop (mkF m 31 #[.val (.int p1)] [])) t → Steps p.tables e below (s₁.setTop (entryFrame m #[(.int p1)] 1)) t := by
            intro t k
            refine pre10 _ ?_
            refine XS.icmpNo X0.here hx rfl (hb hby d1_28) rfl (teq hp').2 ?_
            show Steps p.tables e below (s₁.setTop (mkF m 31 #[.val (.int p1)] [])) _
            exact k
          obtain ⟨T12, X12, e12, st12⟩ := getS (host := "") X0 hx hZ hown (hw _ (List.mem_of_getElem? (i := 23) rfl)) Via.refl e0 (hS 3 (by decide)) (g := (mkF m 31 #[.val (.int p1)] [])) rfl (hb hby d1_31)
          have pre12 : ∀ t, Steps p.tables e below (T12.setTop (mkF m 34 #[.val (.int p1)] [(.ref (ad 3))])) t → Steps p.tables e below (s₁.setTop (entryFrame m #[(.int p1)] 1)) t := fun t k => pre11 t (st12 t k)
          obtain ⟨fs, hr, hrun, hended, hW, hsame⟩ := X12.leave (v := some (.ref (ad 3))) (fun h => by rw [Bd.returns] at h; cases h)
          refine ⟨_, _, pre12 _ ?_, hrun, hended, _, _, rfl, ?_, ⟨_, rfl⟩, hW, hsame.mono (by decide) (by decide)⟩
          · exact retOut X12 hx Bd.returns rfl (Or.inr (Or.inr (Or.inr (Or.inr ⟨rfl, rfl, rfl⟩)))) (hb hby d1_34) hr
          · show ((_ : Option Value) = some (.ref (ad j)) ∧ Fr n0 _ ∧ T12.heap = h0)
            rw [e12]
            exact ⟨by rw [hk3], N0, rfl⟩
        · have hp' : ¬ p1 = (3 : Int32) := own_ne (i := 3) hp rfl hk3
          have pre13 : ∀ t, Steps p.tables e below (s₁.setTop (mkF m 37 #[.val (.int p1)] [(.int (4 : Int32)), (.int p1)])) t → Steps p.tables e below (s₁.setTop (entryFrame m #[(.int p1)] 1)) t := by
            intro t k
            refine pre10 _ ?_
            refine XS.icmpYes X0.here hx rfl (pc0 := 28) (pc' := 35) rfl (hb hby d1_28) rfl (feq hp').2 (by decide) (by decide) ?_
            show Steps p.tables e below (s₁.setTop (mkF m 35 #[.val (.int p1)] [])) _
            refine XS.iloadN X0.here hx rfl (hb hby d1_35) rfl ?_
            show Steps p.tables e below (s₁.setTop (mkF m 36 #[.val (.int p1)] [(.int p1)])) _
            refine XS.iconst X0.here hx rfl (hb hby d1_36) ?_
            show Steps p.tables e below (s₁.setTop (mkF m 37 #[.val (.int p1)] [(.int (4 : Int32)), (.int p1)])) _
            exact k
          by_cases hk4 : j = 4
          · have hp' : p1 = (4 : Int32) := own_eq.mpr (hp.trans (by rw [hk4]; rfl))
            have pre14 : ∀ t, Steps p.tables e below (s₁.setTop (mkF m 40 #[.val (.int p1)] [])) t → Steps p.tables e below (s₁.setTop (entryFrame m #[(.int p1)] 1)) t := by
              intro t k
              refine pre13 _ ?_
              refine XS.icmpNo X0.here hx rfl (hb hby d1_37) rfl (teq hp').2 ?_
              show Steps p.tables e below (s₁.setTop (mkF m 40 #[.val (.int p1)] [])) _
              exact k
            obtain ⟨T15, X15, e15, st15⟩ := getS (host := "") X0 hx hZ hown (hw _ (List.mem_of_getElem? (i := 43) rfl)) Via.refl e0 (hS 4 (by decide)) (g := (mkF m 40 #[.val (.int p1)] [])) rfl (hb hby d1_40)
            have pre15 : ∀ t, Steps p.tables e below (T15.setTop (mkF m 43 #[.val (.int p1)] [(.ref (ad 4))])) t → Steps p.tables e below (s₁.setTop (entryFrame m #[(.int p1)] 1)) t := fun t k => pre14 t (st15 t k)
            obtain ⟨fs, hr, hrun, hended, hW, hsame⟩ := X15.leave (v := some (.ref (ad 4))) (fun h => by rw [Bd.returns] at h; cases h)
            refine ⟨_, _, pre15 _ ?_, hrun, hended, _, _, rfl, ?_, ⟨_, rfl⟩, hW, hsame.mono (by decide) (by decide)⟩
            · exact retOut X15 hx Bd.returns rfl (Or.inr (Or.inr (Or.inr (Or.inr ⟨rfl, rfl, rfl⟩)))) (hb hby d1_43) hr
            · show ((_ : Option Value) = some (.ref (ad j)) ∧ Fr n0 _ ∧ T15.heap = h0)
              rw [e15]
              exact ⟨by rw [hk4], N0, rfl⟩
          · have hp' : ¬ p1 = (4 : Int32) := own_ne (i := 4) hp rfl hk4
            have pre16 : ∀ t, Steps p.tables e below (s₁.setTop (mkF m 46 #[.val (.int p1)] [(.int (5 : Int32)), (.int p1)])) t → Steps p.tables e below (s₁.setTop (entryFrame m #[(.int p1)] 1)) t := by
              intro t k
              refine pre13 _ ?_
              refine XS.icmpYes X0.here hx rfl (pc0 := 37) (pc' := 44) rfl (hb hby d1_37) rfl (feq hp').2 (by decide) (by decide) ?_
              show Steps p.tables e below (s₁.setTop (mkF m 44 #[.val (.int p1)] [])) _
              refine XS.iloadN X0.here hx rfl (hb hby d1_44) rfl ?_
              show Steps p.tables e below (s₁.setTop (mkF m 45 #[.val (.int p1)] [(.int p1)])) _
              refine XS.iconst X0.here hx rfl (hb hby d1_45) ?_
              show Steps p.tables e below (s₁.setTop (mkF m 46 #[.val (.int p1)] [(.int (5 : Int32)), (.int p1)])) _
              exact k
            by_cases hk5 : j = 5
            · have hp' : p1 = (5 : Int32) := own_eq.mpr (hp.trans (by rw [hk5]; rfl))
              have pre17 : ∀ t, Steps p.tables e below (s₁.setTop (mkF m 49 #[.val (.int p1)] [])) t → Steps p.tables e below (s₁.setTop (entryFrame m #[(.int p1)] 1)) t := by
                intro t k
                refine pre16 _ ?_
                refine XS.icmpNo X0.here hx rfl (hb hby d1_46) rfl (teq hp').2 ?_
                show Steps p.tables e below (s₁.setTop (mkF m 49 #[.val (.int p1)] [])) _
                exact k
              obtain ⟨T18, X18, e18, st18⟩ := getS (host := "") X0 hx hZ hown (hw _ (List.mem_of_getElem? (i := 25) rfl)) Via.refl e0 (hS 5 (by decide)) (g := (mkF m 49 #[.val (.int p1)] [])) rfl (hb hby d1_49)
              have pre18 : ∀ t, Steps p.tables e below (T18.setTop (mkF m 52 #[.val (.int p1)] [(.ref (ad 5))])) t → Steps p.tables e below (s₁.setTop (entryFrame m #[(.int p1)] 1)) t := fun t k => pre17 t (st18 t k)
              obtain ⟨fs, hr, hrun, hended, hW, hsame⟩ := X18.leave (v := some (.ref (ad 5))) (fun h => by rw [Bd.returns] at h; cases h)
              refine ⟨_, _, pre18 _ ?_, hrun, hended, _, _, rfl, ?_, ⟨_, rfl⟩, hW, hsame.mono (by decide) (by decide)⟩
              · exact retOut X18 hx Bd.returns rfl (Or.inr (Or.inr (Or.inr (Or.inr ⟨rfl, rfl, rfl⟩)))) (hb hby d1_52) hr
              · show ((_ : Option Value) = some (.ref (ad j)) ∧ Fr n0 _ ∧ T18.heap = h0)
                rw [e18]
                exact ⟨by rw [hk5], N0, rfl⟩
            · have hp' : ¬ p1 = (5 : Int32) := own_ne (i := 5) hp rfl hk5
              have pre19 : ∀ t, Steps p.tables e below (s₁.setTop (mkF m 56 #[.val (.int p1)] [(.int (6 : Int32)), (.int p1)])) t → Steps p.tables e below (s₁.setTop (entryFrame m #[(.int p1)] 1)) t := by
                intro t k
                refine pre16 _ ?_
                refine XS.icmpYes X0.here hx rfl (pc0 := 46) (pc' := 53) rfl (hb hby d1_46) rfl (feq hp').2 (by decide) (by decide) ?_
                show Steps p.tables e below (s₁.setTop (mkF m 53 #[.val (.int p1)] [])) _
                refine XS.iloadN X0.here hx rfl (hb hby d1_53) rfl ?_
                show Steps p.tables e below (s₁.setTop (mkF m 54 #[.val (.int p1)] [(.int p1)])) _
                refine XS.bipush X0.here hx rfl (hb hby d1_54) ?_
                show Steps p.tables e below (s₁.setTop (mkF m 56 #[.val (.int p1)] [(.int (6 : Int32)), (.int p1)])) _
                exact k
              by_cases hk6 : j = 6
              · have hp' : p1 = (6 : Int32) := own_eq.mpr (hp.trans (by rw [hk6]; rfl))
                have pre20 : ∀ t, Steps p.tables e below (s₁.setTop (mkF m 59 #[.val (.int p1)] [])) t → Steps p.tables e below (s₁.setTop (entryFrame m #[(.int p1)] 1)) t := by
                  intro t k
                  refine pre19 _ ?_
                  refine XS.icmpNo X0.here hx rfl (hb hby d1_56) rfl (teq hp').2 ?_
                  show Steps p.tables e below (s₁.setTop (mkF m 59 #[.val (.int p1)] [])) _
                  exact k
                obtain ⟨T21, X21, e21, st21⟩ := getS (host := "") X0 hx hZ hown (hw _ (List.mem_of_getElem? (i := 28) rfl)) Via.refl e0 (hS 6 (by decide)) (g := (mkF m 59 #[.val (.int p1)] [])) rfl (hb hby d1_59)
                have pre21 : ∀ t, Steps p.tables e below (T21.setTop (mkF m 62 #[.val (.int p1)] [(.ref (ad 6))])) t → Steps p.tables e below (s₁.setTop (entryFrame m #[(.int p1)] 1)) t := fun t k => pre20 t (st21 t k)
                obtain ⟨fs, hr, hrun, hended, hW, hsame⟩ := X21.leave (v := some (.ref (ad 6))) (fun h => by rw [Bd.returns] at h; cases h)
                refine ⟨_, _, pre21 _ ?_, hrun, hended, _, _, rfl, ?_, ⟨_, rfl⟩, hW, hsame.mono (by decide) (by decide)⟩
                · exact retOut X21 hx Bd.returns rfl (Or.inr (Or.inr (Or.inr (Or.inr ⟨rfl, rfl, rfl⟩)))) (hb hby d1_62) hr
                · show ((_ : Option Value) = some (.ref (ad j)) ∧ Fr n0 _ ∧ T21.heap = h0)
                  rw [e21]
                  exact ⟨by rw [hk6], N0, rfl⟩
              · have hp' : ¬ p1 = (6 : Int32) := own_ne (i := 6) hp rfl hk6
                have pre22 : ∀ t, Steps p.tables e below (s₁.setTop (mkF m 66 #[.val (.int p1)] [(.int (7 : Int32)), (.int p1)])) t → Steps p.tables e below (s₁.setTop (entryFrame m #[(.int p1)] 1)) t := by
                  intro t k
                  refine pre19 _ ?_
                  refine XS.icmpYes X0.here hx rfl (pc0 := 56) (pc' := 63) rfl (hb hby d1_56) rfl (feq hp').2 (by decide) (by decide) ?_
                  show Steps p.tables e below (s₁.setTop (mkF m 63 #[.val (.int p1)] [])) _
                  refine XS.iloadN X0.here hx rfl (hb hby d1_63) rfl ?_
                  show Steps p.tables e below (s₁.setTop (mkF m 64 #[.val (.int p1)] [(.int p1)])) _
                  refine XS.bipush X0.here hx rfl (hb hby d1_64) ?_
                  show Steps p.tables e below (s₁.setTop (mkF m 66 #[.val (.int p1)] [(.int (7 : Int32)), (.int p1)])) _
                  exact k
                by_cases hk7 : j = 7
                · have hp' : p1 = (7 : Int32) := own_eq.mpr (hp.trans (by rw [hk7]; rfl))
                  have pre23 : ∀ t, Steps p.tables e below (s₁.setTop (mkF m 69 #[.val (.int p1)] [])) t → Steps p.tables e below (s₁.setTop (entryFrame m #[(.int p1)] 1)) t := by
                    intro t k
                    refine pre22 _ ?_
                    refine XS.icmpNo X0.here hx rfl (hb hby d1_66) rfl (teq hp').2 ?_
                    show Steps p.tables e below (s₁.setTop (mkF m 69 #[.val (.int p1)] [])) _
                    exact k
                  obtain ⟨T24, X24, e24, st24⟩ := getS (host := "") X0 hx hZ hown (hw _ (List.mem_of_getElem? (i := 31) rfl)) Via.refl e0 (hS 7 (by decide)) (g := (mkF m 69 #[.val (.int p1)] [])) rfl (hb hby d1_69)
                  have pre24 : ∀ t, Steps p.tables e below (T24.setTop (mkF m 72 #[.val (.int p1)] [(.ref (ad 7))])) t → Steps p.tables e below (s₁.setTop (entryFrame m #[(.int p1)] 1)) t := fun t k => pre23 t (st24 t k)
                  obtain ⟨fs, hr, hrun, hended, hW, hsame⟩ := X24.leave (v := some (.ref (ad 7))) (fun h => by rw [Bd.returns] at h; cases h)
                  refine ⟨_, _, pre24 _ ?_, hrun, hended, _, _, rfl, ?_, ⟨_, rfl⟩, hW, hsame.mono (by decide) (by decide)⟩
                  · exact retOut X24 hx Bd.returns rfl (Or.inr (Or.inr (Or.inr (Or.inr ⟨rfl, rfl, rfl⟩)))) (hb hby d1_72) hr
                  · show ((_ : Option Value) = some (.ref (ad j)) ∧ Fr n0 _ ∧ T24.heap = h0)
                    rw [e24]
                    exact ⟨by rw [hk7], N0, rfl⟩
                · have hp' : ¬ p1 = (7 : Int32) := own_ne (i := 7) hp rfl hk7
                  have pre25 : ∀ t, Steps p.tables e below (s₁.setTop (mkF m 76 #[.val (.int p1)] [(.int (8 : Int32)), (.int p1)])) t → Steps p.tables e below (s₁.setTop (entryFrame m #[(.int p1)] 1)) t := by
                    intro t k
                    refine pre22 _ ?_
                    refine XS.icmpYes X0.here hx rfl (pc0 := 66) (pc' := 73) rfl (hb hby d1_66) rfl (feq hp').2 (by decide) (by decide) ?_
                    show Steps p.tables e below (s₁.setTop (mkF m 73 #[.val (.int p1)] [])) _
                    refine XS.iloadN X0.here hx rfl (hb hby d1_73) rfl ?_
                    show Steps p.tables e below (s₁.setTop (mkF m 74 #[.val (.int p1)] [(.int p1)])) _
                    refine XS.bipush X0.here hx rfl (hb hby d1_74) ?_
                    show Steps p.tables e below (s₁.setTop (mkF m 76 #[.val (.int p1)] [(.int (8 : Int32)), (.int p1)])) _
                    exact k
                  by_cases hk8 : j = 8
                  · have hp' : p1 = (8 : Int32) := own_eq.mpr (hp.trans (by rw [hk8]; rfl))
                    have pre26 : ∀ t, Steps p.tables e below (s₁.setTop (mkF m 79 #[.val (.int p1)] [])) t → Steps p.tables e below (s₁.setTop (entryFrame m #[(.int p1)] 1)) t := by
                      intro t k
                      refine pre25 _ ?_
                      refine XS.icmpNo X0.here hx rfl (hb hby d1_76) rfl (teq hp').2 ?_
                      show Steps p.tables e below (s₁.setTop (mkF m 79 #[.val (.int p1)] [])) _
                      exact k
                    obtain ⟨T27, X27, e27, st27⟩ := getS (host := "") X0 hx hZ hown (hw _ (List.mem_of_getElem? (i := 38) rfl)) Via.refl e0 (hS 8 (by decide)) (g := (mkF m 79 #[.val (.int p1)] [])) rfl (hb hby d1_79)
                    have pre27 : ∀ t, Steps p.tables e below (T27.setTop (mkF m 82 #[.val (.int p1)] [(.ref (ad 8))])) t → Steps p.tables e below (s₁.setTop (entryFrame m #[(.int p1)] 1)) t := fun t k => pre26 t (st27 t k)
                    obtain ⟨fs, hr, hrun, hended, hW, hsame⟩ := X27.leave (v := some (.ref (ad 8))) (fun h => by rw [Bd.returns] at h; cases h)
                    refine ⟨_, _, pre27 _ ?_, hrun, hended, _, _, rfl, ?_, ⟨_, rfl⟩, hW, hsame.mono (by decide) (by decide)⟩
                    · exact retOut X27 hx Bd.returns rfl (Or.inr (Or.inr (Or.inr (Or.inr ⟨rfl, rfl, rfl⟩)))) (hb hby d1_82) hr
                    · show ((_ : Option Value) = some (.ref (ad j)) ∧ Fr n0 _ ∧ T27.heap = h0)
                      rw [e27]
                      exact ⟨by rw [hk8], N0, rfl⟩
                  · have hp' : ¬ p1 = (8 : Int32) := own_ne (i := 8) hp rfl hk8
                    have pre28 : ∀ t, Steps p.tables e below (s₁.setTop (mkF m 86 #[.val (.int p1)] [(.int (9 : Int32)), (.int p1)])) t → Steps p.tables e below (s₁.setTop (entryFrame m #[(.int p1)] 1)) t := by
                      intro t k
                      refine pre25 _ ?_
                      refine XS.icmpYes X0.here hx rfl (pc0 := 76) (pc' := 83) rfl (hb hby d1_76) rfl (feq hp').2 (by decide) (by decide) ?_
                      show Steps p.tables e below (s₁.setTop (mkF m 83 #[.val (.int p1)] [])) _
                      refine XS.iloadN X0.here hx rfl (hb hby d1_83) rfl ?_
                      show Steps p.tables e below (s₁.setTop (mkF m 84 #[.val (.int p1)] [(.int p1)])) _
                      refine XS.bipush X0.here hx rfl (hb hby d1_84) ?_
                      show Steps p.tables e below (s₁.setTop (mkF m 86 #[.val (.int p1)] [(.int (9 : Int32)), (.int p1)])) _
                      exact k
                    by_cases hk9 : j = 9
                    · have hp' : p1 = (9 : Int32) := own_eq.mpr (hp.trans (by rw [hk9]; rfl))
                      have pre29 : ∀ t, Steps p.tables e below (s₁.setTop (mkF m 89 #[.val (.int p1)] [])) t → Steps p.tables e below (s₁.setTop (entryFrame m #[(.int p1)] 1)) t := by
                        intro t k
                        refine pre28 _ ?_
                        refine XS.icmpNo X0.here hx rfl (hb hby d1_86) rfl (teq hp').2 ?_
                        show Steps p.tables e below (s₁.setTop (mkF m 89 #[.val (.int p1)] [])) _
                        exact k
                      obtain ⟨T30, X30, e30, st30⟩ := getS (host := "") X0 hx hZ hown (hw _ (List.mem_of_getElem? (i := 45) rfl)) Via.refl e0 (hS 9 (by decide)) (g := (mkF m 89 #[.val (.int p1)] [])) rfl (hb hby d1_89)
                      have pre30 : ∀ t, Steps p.tables e below (T30.setTop (mkF m 92 #[.val (.int p1)] [(.ref (ad 9))])) t → Steps p.tables e below (s₁.setTop (entryFrame m #[(.int p1)] 1)) t := fun t k => pre29 t (st30 t k)
                      obtain ⟨fs, hr, hrun, hended, hW, hsame⟩ := X30.leave (v := some (.ref (ad 9))) (fun h => by rw [Bd.returns] at h; cases h)
                      refine ⟨_, _, pre30 _ ?_, hrun, hended, _, _, rfl, ?_, ⟨_, rfl⟩, hW, hsame.mono (by decide) (by decide)⟩
                      · exact retOut X30 hx Bd.returns rfl (Or.inr (Or.inr (Or.inr (Or.inr ⟨rfl, rfl, rfl⟩)))) (hb hby d1_92) hr
                      · show ((_ : Option Value) = some (.ref (ad j)) ∧ Fr n0 _ ∧ T30.heap = h0)
                        rw [e30]
                        exact ⟨by rw [hk9], N0, rfl⟩
                    · have hp' : ¬ p1 = (9 : Int32) := own_ne (i := 9) hp rfl hk9
                      have pre31 : ∀ t, Steps p.tables e below (s₁.setTop (mkF m 96 #[.val (.int p1)] [(.int (10 : Int32)), (.int p1)])) t → Steps p.tables e below (s₁.setTop (entryFrame m #[(.int p1)] 1)) t := by
                        intro t k
                        refine pre28 _ ?_
                        refine XS.icmpYes X0.here hx rfl (pc0 := 86) (pc' := 93) rfl (hb hby d1_86) rfl (feq hp').2 (by decide) (by decide) ?_
                        show Steps p.tables e below (s₁.setTop (mkF m 93 #[.val (.int p1)] [])) _
                        refine XS.iloadN X0.here hx rfl (hb hby d1_93) rfl ?_
                        show Steps p.tables e below (s₁.setTop (mkF m 94 #[.val (.int p1)] [(.int p1)])) _
                        refine XS.bipush X0.here hx rfl (hb hby d1_94) ?_
                        show Steps p.tables e below (s₁.setTop (mkF m 96 #[.val (.int p1)] [(.int (10 : Int32)), (.int p1)])) _
                        exact k
                      by_cases hk10 : j = 10
                      · have hp' : p1 = (10 : Int32) := own_eq.mpr (hp.trans (by rw [hk10]; rfl))
                        have pre32 : ∀ t, Steps p.tables e below (s₁.setTop (mkF m 99 #[.val (.int p1)] [])) t → Steps p.tables e below (s₁.setTop (entryFrame m #[(.int p1)] 1)) t := by
                          intro t k
                          refine pre31 _ ?_
                          refine XS.icmpNo X0.here hx rfl (hb hby d1_96) rfl (teq hp').2 ?_
                          show Steps p.tables e below (s₁.setTop (mkF m 99 #[.val (.int p1)] [])) _
                          exact k
                        obtain ⟨T33, X33, e33, st33⟩ := getS (host := "") X0 hx hZ hown (hw _ (List.mem_of_getElem? (i := 36) rfl)) Via.refl e0 (hS 10 (by decide)) (g := (mkF m 99 #[.val (.int p1)] [])) rfl (hb hby d1_99)
                        have pre33 : ∀ t, Steps p.tables e below (T33.setTop (mkF m 102 #[.val (.int p1)] [(.ref (ad 10))])) t → Steps p.tables e below (s₁.setTop (entryFrame m #[(.int p1)] 1)) t := fun t k => pre32 t (st33 t k)
                        obtain ⟨fs, hr, hrun, hended, hW, hsame⟩ := X33.leave (v := some (.ref (ad 10))) (fun h => by rw [Bd.returns] at h; cases h)
                        refine ⟨_, _, pre33 _ ?_, hrun, hended, _, _, rfl, ?_, ⟨_, rfl⟩, hW, hsame.mono (by decide) (by decide)⟩
                        · exact retOut X33 hx Bd.returns rfl (Or.inr (Or.inr (Or.inr (Or.inr ⟨rfl, rfl, rfl⟩)))) (hb hby d1_102) hr
                        · show ((_ : Option Value) = some (.ref (ad j)) ∧ Fr n0 _ ∧ T33.heap = h0)
                          rw [e33]
                          exact ⟨by rw [hk10], N0, rfl⟩
                      · have hp' : ¬ p1 = (10 : Int32) := own_ne (i := 10) hp rfl hk10
                        have pre34 : ∀ t, Steps p.tables e below (s₁.setTop (mkF m 106 #[.val (.int p1)] [(.int (11 : Int32)), (.int p1)])) t → Steps p.tables e below (s₁.setTop (entryFrame m #[(.int p1)] 1)) t := by
                          intro t k
                          refine pre31 _ ?_
                          refine XS.icmpYes X0.here hx rfl (pc0 := 96) (pc' := 103) rfl (hb hby d1_96) rfl (feq hp').2 (by decide) (by decide) ?_
                          show Steps p.tables e below (s₁.setTop (mkF m 103 #[.val (.int p1)] [])) _
                          refine XS.iloadN X0.here hx rfl (hb hby d1_103) rfl ?_
                          show Steps p.tables e below (s₁.setTop (mkF m 104 #[.val (.int p1)] [(.int p1)])) _
                          refine XS.bipush X0.here hx rfl (hb hby d1_104) ?_
                          show Steps p.tables e below (s₁.setTop (mkF m 106 #[.val (.int p1)] [(.int (11 : Int32)), (.int p1)])) _
                          exact k
                        by_cases hk11 : j = 11
                        · have hp' : p1 = (11 : Int32) := own_eq.mpr (hp.trans (by rw [hk11]; rfl))
                          have pre35 : ∀ t, Steps p.tables e below (s₁.setTop (mkF m 109 #[.val (.int p1)] [])) t → Steps p.tables e below (s₁.setTop (entryFrame m #[(.int p1)] 1)) t := by
                            intro t k
                            refine pre34 _ ?_
                            refine XS.icmpNo X0.here hx rfl (hb hby d1_106) rfl (teq hp').2 ?_
                            show Steps p.tables e below (s₁.setTop (mkF m 109 #[.val (.int p1)] [])) _
                            exact k
                          obtain ⟨T36, X36, e36, st36⟩ := getS (host := "") X0 hx hZ hown (hw _ (List.mem_of_getElem? (i := 35) rfl)) Via.refl e0 (hS 11 (by decide)) (g := (mkF m 109 #[.val (.int p1)] [])) rfl (hb hby d1_109)
                          have pre36 : ∀ t, Steps p.tables e below (T36.setTop (mkF m 112 #[.val (.int p1)] [(.ref (ad 11))])) t → Steps p.tables e below (s₁.setTop (entryFrame m #[(.int p1)] 1)) t := fun t k => pre35 t (st36 t k)
                          obtain ⟨fs, hr, hrun, hended, hW, hsame⟩ := X36.leave (v := some (.ref (ad 11))) (fun h => by rw [Bd.returns] at h; cases h)
                          refine ⟨_, _, pre36 _ ?_, hrun, hended, _, _, rfl, ?_, ⟨_, rfl⟩, hW, hsame.mono (by decide) (by decide)⟩
                          · exact retOut X36 hx Bd.returns rfl (Or.inr (Or.inr (Or.inr (Or.inr ⟨rfl, rfl, rfl⟩)))) (hb hby d1_112) hr
                          · show ((_ : Option Value) = some (.ref (ad j)) ∧ Fr n0 _ ∧ T36.heap = h0)
                            rw [e36]
                            exact ⟨by rw [hk11], N0, rfl⟩
                        · have hp' : ¬ p1 = (11 : Int32) := own_ne (i := 11) hp rfl hk11
                          have pre37 : ∀ t, Steps p.tables e below (s₁.setTop (mkF m 116 #[.val (.int p1)] [(.int (12 : Int32)), (.int p1)])) t → Steps p.tables e below (s₁.setTop (entryFrame m #[(.int p1)] 1)) t := by
                            intro t k
                            refine pre34 _ ?_
                            refine XS.icmpYes X0.here hx rfl (pc0 := 106) (pc' := 113) rfl (hb hby d1_106) rfl (feq hp').2 (by decide) (by decide) ?_
                            show Steps p.tables e below (s₁.setTop (mkF m 113 #[.val (.int p1)] [])) _
                            refine XS.iloadN X0.here hx rfl (hb hby d1_113) rfl ?_
                            show Steps p.tables e below (s₁.setTop (mkF m 114 #[.val (.int p1)] [(.int p1)])) _
                            refine XS.bipush X0.here hx rfl (hb hby d1_114) ?_
                            show Steps p.tables e below (s₁.setTop (mkF m 116 #[.val (.int p1)] [(.int (12 : Int32)), (.int p1)])) _
                            exact k
                          by_cases hk12 : j = 12
                          · have hp' : p1 = (12 : Int32) := own_eq.mpr (hp.trans (by rw [hk12]; rfl))
                            have pre38 : ∀ t, Steps p.tables e below (s₁.setTop (mkF m 119 #[.val (.int p1)] [])) t → Steps p.tables e below (s₁.setTop (entryFrame m #[(.int p1)] 1)) t := by
                              intro t k
                              refine pre37 _ ?_
                              refine XS.icmpNo X0.here hx rfl (hb hby d1_116) rfl (teq hp').2 ?_
                              show Steps p.tables e below (s₁.setTop (mkF m 119 #[.val (.int p1)] [])) _
                              exact k
                            obtain ⟨T39, X39, e39, st39⟩ := getS (host := "") X0 hx hZ hown (hw _ (List.mem_of_getElem? (i := 42) rfl)) Via.refl e0 (hS 12 (by decide)) (g := (mkF m 119 #[.val (.int p1)] [])) rfl (hb hby d1_119)
                            have pre39 : ∀ t, Steps p.tables e below (T39.setTop (mkF m 122 #[.val (.int p1)] [(.ref (ad 12))])) t → Steps p.tables e below (s₁.setTop (entryFrame m #[(.int p1)] 1)) t := fun t k => pre38 t (st39 t k)
                            obtain ⟨fs, hr, hrun, hended, hW, hsame⟩ := X39.leave (v := some (.ref (ad 12))) (fun h => by rw [Bd.returns] at h; cases h)
                            refine ⟨_, _, pre39 _ ?_, hrun, hended, _, _, rfl, ?_, ⟨_, rfl⟩, hW, hsame.mono (by decide) (by decide)⟩
                            · exact retOut X39 hx Bd.returns rfl (Or.inr (Or.inr (Or.inr (Or.inr ⟨rfl, rfl, rfl⟩)))) (hb hby d1_122) hr
                            · show ((_ : Option Value) = some (.ref (ad j)) ∧ Fr n0 _ ∧ T39.heap = h0)
                              rw [e39]
                              exact ⟨by rw [hk12], N0, rfl⟩
                          · have hp' : ¬ p1 = (12 : Int32) := own_ne (i := 12) hp rfl hk12
                            have pre40 : ∀ t, Steps p.tables e below (s₁.setTop (mkF m 126 #[.val (.int p1)] [(.int (13 : Int32)), (.int p1)])) t → Steps p.tables e below (s₁.setTop (entryFrame m #[(.int p1)] 1)) t := by
                              intro t k
                              refine pre37 _ ?_
                              refine XS.icmpYes X0.here hx rfl (pc0 := 116) (pc' := 123) rfl (hb hby d1_116) rfl (feq hp').2 (by decide) (by decide) ?_
                              show Steps p.tables e below (s₁.setTop (mkF m 123 #[.val (.int p1)] [])) _
                              refine XS.iloadN X0.here hx rfl (hb hby d1_123) rfl ?_
                              show Steps p.tables e below (s₁.setTop (mkF m 124 #[.val (.int p1)] [(.int p1)])) _
                              refine XS.bipush X0.here hx rfl (hb hby d1_124) ?_
                              show Steps p.tables e below (s₁.setTop (mkF m 126 #[.val (.int p1)] [(.int (13 : Int32)), (.int p1)])) _
                              exact k
                            by_cases hk13 : j = 13
                            · have hp' : p1 = (13 : Int32) := own_eq.mpr (hp.trans (by rw [hk13]; rfl))
                              have pre41 : ∀ t, Steps p.tables e below (s₁.setTop (mkF m 129 #[.val (.int p1)] [])) t → Steps p.tables e below (s₁.setTop (entryFrame m #[(.int p1)] 1)) t := by
                                intro t k
                                refine pre40 _ ?_
                                refine XS.icmpNo X0.here hx rfl (hb hby d1_126) rfl (teq hp').2 ?_
                                show Steps p.tables e below (s₁.setTop (mkF m 129 #[.val (.int p1)] [])) _
                                exact k
                              obtain ⟨T42, X42, e42, st42⟩ := getS (host := "") X0 hx hZ hown (hw _ (List.mem_of_getElem? (i := 27) rfl)) Via.refl e0 (hS 13 (by decide)) (g := (mkF m 129 #[.val (.int p1)] [])) rfl (hb hby d1_129)
                              have pre42 : ∀ t, Steps p.tables e below (T42.setTop (mkF m 132 #[.val (.int p1)] [(.ref (ad 13))])) t → Steps p.tables e below (s₁.setTop (entryFrame m #[(.int p1)] 1)) t := fun t k => pre41 t (st42 t k)
                              obtain ⟨fs, hr, hrun, hended, hW, hsame⟩ := X42.leave (v := some (.ref (ad 13))) (fun h => by rw [Bd.returns] at h; cases h)
                              refine ⟨_, _, pre42 _ ?_, hrun, hended, _, _, rfl, ?_, ⟨_, rfl⟩, hW, hsame.mono (by decide) (by decide)⟩
                              · exact retOut X42 hx Bd.returns rfl (Or.inr (Or.inr (Or.inr (Or.inr ⟨rfl, rfl, rfl⟩)))) (hb hby d1_132) hr
                              · show ((_ : Option Value) = some (.ref (ad j)) ∧ Fr n0 _ ∧ T42.heap = h0)
                                rw [e42]
                                exact ⟨by rw [hk13], N0, rfl⟩
                            · have hp' : ¬ p1 = (13 : Int32) := own_ne (i := 13) hp rfl hk13
                              have pre43 : ∀ t, Steps p.tables e below (s₁.setTop (mkF m 133 #[.val (.int p1)] [])) t → Steps p.tables e below (s₁.setTop (entryFrame m #[(.int p1)] 1)) t := by
                                intro t k
                                refine pre40 _ ?_
                                refine XS.icmpYes X0.here hx rfl (pc0 := 126) (pc' := 133) rfl (hb hby d1_126) rfl (feq hp').2 (by decide) (by decide) ?_
                                show Steps p.tables e below (s₁.setTop (mkF m 133 #[.val (.int p1)] [])) _
                                exact k
                              have ej : j = 14 := by omega
                              obtain ⟨T44, X44, e44, st44⟩ := getS (host := "") X0 hx hZ hown (hw _ (List.mem_of_getElem? (i := 30) rfl)) Via.refl e0 (hS 14 (by decide)) (g := (mkF m 133 #[.val (.int p1)] [])) rfl (hb hby d1_133)
                              have pre44 : ∀ t, Steps p.tables e below (T44.setTop (mkF m 136 #[.val (.int p1)] [(.ref (ad 14))])) t → Steps p.tables e below (s₁.setTop (entryFrame m #[(.int p1)] 1)) t := fun t k => pre43 t (st44 t k)
                              obtain ⟨fs, hr, hrun, hended, hW, hsame⟩ := X44.leave (v := some (.ref (ad 14))) (fun h => by rw [Bd.returns] at h; cases h)
                              refine ⟨_, _, pre44 _ ?_, hrun, hended, _, _, rfl, ?_, ⟨_, rfl⟩, hW, hsame.mono (by decide) (by decide)⟩
                              · exact retOut X44 hx Bd.returns rfl (Or.inr (Or.inr (Or.inr (Or.inr ⟨rfl, rfl, rfl⟩)))) (hb hby d1_136) hr
                              · show ((_ : Option Value) = some (.ref (ad j)) ∧ Fr n0 _ ∧ T44.heap = h0)
                                rw [e44]
                                exact ⟨by rw [ej], N0, rfl⟩
set_option maxRecDepth 65536 in
set_option maxHeartbeats 40000000 in
theorem rm2 (l : Launch) (Z : State) (a0 : Array Value) (hw : ∀ d ∈ tables_1, d.before a0 Z = true) (ws : List Jvm.Cond) (j : Nat) (ad : Nat → Addr) (h0 : Heap) (n0 : Nat) (Z0 : n0 ≤ h0.size) (hj : j < 15) (hS : ∀ k, k < 15 → Sta Z h0 "com/example/nomos/nomos/schema/ValueFamily" (own_nm k) "Lcom/example/nomos/nomos/schema/ValueFamily;" (.ref (ad k))) (hA : ∀ i j, i < 15 → j < 15 → ¬ i = j → ¬ ad i = ad j) :
    MetFree l (⟨"com/example/nomos/nomos/schema/ValueFamily", "isReadByConditions", "()Z"⟩ : MethodName) (head1 (Jvm.Cond.code (⟨"com/example/nomos/nomos/schema/ValueFamily", "isReadByConditions", "()Z"⟩ : MethodName) prog_141_method_6_code 1 (some .boolean) :: ws) ({ frames := 0, cells := 0, slots := 0, locals := 0 } : Room)) (fun a U => a = #[(.ref (ad j))] ∧ Z.Warmed39 U.vm ∧ U.heap = h0) (fun _ _ _ _ _ => True) (fun _ U o U' => ∃ v L, o = .returned v ∧ own_Q (fun v h L => (v = some (.int (own_rd j)) ∧ Fr n0 L ∧ h = h0)) v U'.heap L ∧ FrameEnd U o U' L ({ frames := 0, cells := 0, slots := 0, locals := 0 } : Room).cells ({ frames := 0, cells := 0, slots := 0, locals := 0 } : Room).slots) := by
  refine MetFree.of_bodySF (plainFor_of_name own_pn1) hisR ?_
  intro p e s m args below meth c s₁ Bd hml0 hP hK
  obtain ⟨rfl, hZ, hh⟩ := hP
  have hx := Bd.exec
  have hby := Bd.bytes
  have hml : c.maxLocals = 1 := hml0
  have hown : s.vm.findClass "com/example/nomos/nomos/schema/ValueFamily" = some m.cls := findClass_of_methodNamed Bd.named
  have hnm := (name_of_methodNamed Bd.named Bd.method).1
  have X0 : Stand p l e ({ frames := 0, cells := 0, slots := 0, locals := 0 } : Room) s m #[(.ref (ad j))] below meth c s₁ [] 0 0 := Stand.of_body Bd
  have e0 : s₁.heap = h0 := by rw [← hh, Bd.state]; rfl
  have N0 := Fr.nil n0
  have ef : entryFrame m #[(.ref (ad j))] 1 = mkF m 0 #[.val (.ref (ad j))] [] := by first | (simp [entryFrame, mkF, argsToLocals, Value.category]; done) | rfl
  have pre0 : ∀ t, Steps p.tables e below (s₁.setTop (mkF m 0 #[.val (.ref (ad j))] [])) t → Steps p.tables e below (s₁.setTop (entryFrame m #[(.ref (ad j))] 1)) t := fun t k => castTop ef k
  have pre1 : ∀ t, Steps p.tables e below (s₁.setTop (mkF m 1 #[.val (.ref (ad j))] [(.ref (ad j))])) t → Steps p.tables e below (s₁.setTop (entryFrame m #[(.ref (ad j))] 1)) t := by
    intro t k
    refine pre0 _ ?_
    refine XS.aloadN X0.here hx rfl (hb hby d2_0) rfl rfl ?_
    show Steps p.tables e below (s₁.setTop (mkF m 1 #[.val (.ref (ad j))] [(.ref (ad j))])) _
    exact k
  obtain ⟨T2, X2, e2, st2⟩ := getS (host := "") X0 hx hZ hown (hw _ (List.mem_of_getElem? (i := 13) rfl)) Via.refl e0 (hS 9 (by decide)) (g := (mkF m 1 #[.val (.ref (ad j))] [(.ref (ad j))])) rfl (hb hby d2_1)
  have pre2 : ∀ t, Steps p.tables e below (T2.setTop (mkF m 4 #[.val (.ref (ad j))] [(.ref (ad 9)), (.ref (ad j))])) t → Steps p.tables e below (s₁.setTop (entryFrame m #[(.ref (ad j))] 1)) t := fun t k => pre1 t (st2 t k)
  by_cases hk9 : j = 9
  · have pre3 : ∀ t, Steps p.tables e below (T2.setTop (mkF m 40 #[.val (.ref (ad j))] [(.int (0 : Int32))])) t → Steps p.tables e below (s₁.setTop (entryFrame m #[(.ref (ad j))] 1)) t := by
      intro t k
      refine pre2 _ ?_
      refine Jvm.RoadKit.acmp (g := (mkF m 4 #[.val (.ref (ad j))] [(.ref (ad 9)), (.ref (ad j))])) X2 hx rfl rfl rfl (pc0 := 4) (pc' := 39) (same := true) rfl (hb hby d2_4) rfl (decide_eq_true (congrArg (fun z => Value.ref (ad z)) hk9)) (by decide) (by decide) ?_
      show Steps p.tables e below (T2.setTop (mkF m 39 #[.val (.ref (ad j))] [])) _
      refine XS.iconst X2.here hx rfl (hb hby d2_39) ?_
      show Steps p.tables e below (T2.setTop (mkF m 40 #[.val (.ref (ad j))] [(.int (0 : Int32))])) _
      exact k
    obtain ⟨fs, hr, hrun, hended, hW, hsame⟩ := X2.leave (v := some (.int (0 : Int32))) (fun h => by rw [Bd.returns] at h; cases h)
    refine ⟨_, _, pre3 _ ?_, hrun, hended, _, _, rfl, ?_, ⟨_, rfl⟩, hW, hsame.mono (by decide) (by decide)⟩
    · exact retN X2 hx (t := .boolean) Bd.returns (by simp) (hb hby d2_40) hr
    · show ((_ : Option Value) = some (.int (own_rd j)) ∧ Fr n0 _ ∧ T2.heap = h0)
      rw [e2]
      exact ⟨by rw [own_rd, if_pos hk9], N0, rfl⟩
  · have pre4 : ∀ t, Steps p.tables e below (T2.setTop (mkF m 8 #[.val (.ref (ad j))] [(.ref (ad j))])) t → Steps p.tables e below (s₁.setTop (entryFrame m #[(.ref (ad j))] 1)) t := by
      intro t k
      refine pre2 _ ?_
      refine Jvm.RoadKit.acmp (g := (mkF m 4 #[.val (.ref (ad j))] [(.ref (ad 9)), (.ref (ad j))])) X2 hx rfl rfl rfl (pc0 := 4) (pc' := 7) (same := false) rfl (hb hby d2_4) rfl (decide_eq_false (fun q => hA j 9 hj (by decide) hk9 (Value.ref.inj q))) (by decide) (by decide) ?_
      show Steps p.tables e below (T2.setTop (mkF m 7 #[.val (.ref (ad j))] [])) _
      refine XS.aloadN X2.here hx rfl (hb hby d2_7) rfl rfl ?_
      show Steps p.tables e below (T2.setTop (mkF m 8 #[.val (.ref (ad j))] [(.ref (ad j))])) _
      exact k
    obtain ⟨T5, X5, e5, st5⟩ := getS (host := "") X2 hx hZ hown (hw _ (List.mem_of_getElem? (i := 15) rfl)) Via.refl e2 (hS 11 (by decide)) (g := (mkF m 8 #[.val (.ref (ad j))] [(.ref (ad j))])) rfl (hb hby d2_8)
    have pre5 : ∀ t, Steps p.tables e below (T5.setTop (mkF m 11 #[.val (.ref (ad j))] [(.ref (ad 11)), (.ref (ad j))])) t → Steps p.tables e below (s₁.setTop (entryFrame m #[(.ref (ad j))] 1)) t := fun t k => pre4 t (st5 t k)
    by_cases hk11 : j = 11
    · have pre6 : ∀ t, Steps p.tables e below (T5.setTop (mkF m 40 #[.val (.ref (ad j))] [(.int (0 : Int32))])) t → Steps p.tables e below (s₁.setTop (entryFrame m #[(.ref (ad j))] 1)) t := by
        intro t k
        refine pre5 _ ?_
        refine Jvm.RoadKit.acmp (g := (mkF m 11 #[.val (.ref (ad j))] [(.ref (ad 11)), (.ref (ad j))])) X5 hx rfl rfl rfl (pc0 := 11) (pc' := 39) (same := true) rfl (hb hby d2_11) rfl (decide_eq_true (congrArg (fun z => Value.ref (ad z)) hk11)) (by decide) (by decide) ?_
        show Steps p.tables e below (T5.setTop (mkF m 39 #[.val (.ref (ad j))] [])) _
        refine XS.iconst X5.here hx rfl (hb hby d2_39) ?_
        show Steps p.tables e below (T5.setTop (mkF m 40 #[.val (.ref (ad j))] [(.int (0 : Int32))])) _
        exact k
      obtain ⟨fs, hr, hrun, hended, hW, hsame⟩ := X5.leave (v := some (.int (0 : Int32))) (fun h => by rw [Bd.returns] at h; cases h)
      refine ⟨_, _, pre6 _ ?_, hrun, hended, _, _, rfl, ?_, ⟨_, rfl⟩, hW, hsame.mono (by decide) (by decide)⟩
      · exact retN X5 hx (t := .boolean) Bd.returns (by simp) (hb hby d2_40) hr
      · show ((_ : Option Value) = some (.int (own_rd j)) ∧ Fr n0 _ ∧ T5.heap = h0)
        rw [e5]
        exact ⟨by rw [own_rd, if_neg hk9, if_pos hk11], N0, rfl⟩
    · have pre7 : ∀ t, Steps p.tables e below (T5.setTop (mkF m 15 #[.val (.ref (ad j))] [(.ref (ad j))])) t → Steps p.tables e below (s₁.setTop (entryFrame m #[(.ref (ad j))] 1)) t := by
        intro t k
        refine pre5 _ ?_
        refine Jvm.RoadKit.acmp (g := (mkF m 11 #[.val (.ref (ad j))] [(.ref (ad 11)), (.ref (ad j))])) X5 hx rfl rfl rfl (pc0 := 11) (pc' := 14) (same := false) rfl (hb hby d2_11) rfl (decide_eq_false (fun q => hA j 11 hj (by decide) hk11 (Value.ref.inj q))) (by decide) (by decide) ?_
        show Steps p.tables e below (T5.setTop (mkF m 14 #[.val (.ref (ad j))] [])) _
        refine XS.aloadN X5.here hx rfl (hb hby d2_14) rfl rfl ?_
        show Steps p.tables e below (T5.setTop (mkF m 15 #[.val (.ref (ad j))] [(.ref (ad j))])) _
        exact k
      obtain ⟨T8, X8, e8, st8⟩ := getS (host := "") X5 hx hZ hown (hw _ (List.mem_of_getElem? (i := 17) rfl)) Via.refl e5 (hS 12 (by decide)) (g := (mkF m 15 #[.val (.ref (ad j))] [(.ref (ad j))])) rfl (hb hby d2_15)
      have pre8 : ∀ t, Steps p.tables e below (T8.setTop (mkF m 18 #[.val (.ref (ad j))] [(.ref (ad 12)), (.ref (ad j))])) t → Steps p.tables e below (s₁.setTop (entryFrame m #[(.ref (ad j))] 1)) t := fun t k => pre7 t (st8 t k)
      by_cases hk12 : j = 12
      · have pre9 : ∀ t, Steps p.tables e below (T8.setTop (mkF m 40 #[.val (.ref (ad j))] [(.int (0 : Int32))])) t → Steps p.tables e below (s₁.setTop (entryFrame m #[(.ref (ad j))] 1)) t := by
          intro t k
          refine pre8 _ ?_
          refine Jvm.RoadKit.acmp (g := (mkF m 18 #[.val (.ref (ad j))] [(.ref (ad 12)), (.ref (ad j))])) X8 hx rfl rfl rfl (pc0 := 18) (pc' := 39) (same := true) rfl (hb hby d2_18) rfl (decide_eq_true (congrArg (fun z => Value.ref (ad z)) hk12)) (by decide) (by decide) ?_
          show Steps p.tables e below (T8.setTop (mkF m 39 #[.val (.ref (ad j))] [])) _
          refine XS.iconst X8.here hx rfl (hb hby d2_39) ?_
          show Steps p.tables e below (T8.setTop (mkF m 40 #[.val (.ref (ad j))] [(.int (0 : Int32))])) _
          exact k
        obtain ⟨fs, hr, hrun, hended, hW, hsame⟩ := X8.leave (v := some (.int (0 : Int32))) (fun h => by rw [Bd.returns] at h; cases h)
        refine ⟨_, _, pre9 _ ?_, hrun, hended, _, _, rfl, ?_, ⟨_, rfl⟩, hW, hsame.mono (by decide) (by decide)⟩
        · exact retN X8 hx (t := .boolean) Bd.returns (by simp) (hb hby d2_40) hr
        · show ((_ : Option Value) = some (.int (own_rd j)) ∧ Fr n0 _ ∧ T8.heap = h0)
          rw [e8]
          exact ⟨by rw [own_rd, if_neg hk9, if_neg hk11, if_pos hk12], N0, rfl⟩
      · have pre10 : ∀ t, Steps p.tables e below (T8.setTop (mkF m 22 #[.val (.ref (ad j))] [(.ref (ad j))])) t → Steps p.tables e below (s₁.setTop (entryFrame m #[(.ref (ad j))] 1)) t := by
          intro t k
          refine pre8 _ ?_
          refine Jvm.RoadKit.acmp (g := (mkF m 18 #[.val (.ref (ad j))] [(.ref (ad 12)), (.ref (ad j))])) X8 hx rfl rfl rfl (pc0 := 18) (pc' := 21) (same := false) rfl (hb hby d2_18) rfl (decide_eq_false (fun q => hA j 12 hj (by decide) hk12 (Value.ref.inj q))) (by decide) (by decide) ?_
          show Steps p.tables e below (T8.setTop (mkF m 21 #[.val (.ref (ad j))] [])) _
          refine XS.aloadN X8.here hx rfl (hb hby d2_21) rfl rfl ?_
          show Steps p.tables e below (T8.setTop (mkF m 22 #[.val (.ref (ad j))] [(.ref (ad j))])) _
          exact k
        obtain ⟨T11, X11, e11, st11⟩ := getS (host := "") X8 hx hZ hown (hw _ (List.mem_of_getElem? (i := 19) rfl)) Via.refl e8 (hS 13 (by decide)) (g := (mkF m 22 #[.val (.ref (ad j))] [(.ref (ad j))])) rfl (hb hby d2_22)
        have pre11 : ∀ t, Steps p.tables e below (T11.setTop (mkF m 25 #[.val (.ref (ad j))] [(.ref (ad 13)), (.ref (ad j))])) t → Steps p.tables e below (s₁.setTop (entryFrame m #[(.ref (ad j))] 1)) t := fun t k => pre10 t (st11 t k)
        by_cases hk13 : j = 13
        · have pre12 : ∀ t, Steps p.tables e below (T11.setTop (mkF m 40 #[.val (.ref (ad j))] [(.int (0 : Int32))])) t → Steps p.tables e below (s₁.setTop (entryFrame m #[(.ref (ad j))] 1)) t := by
            intro t k
            refine pre11 _ ?_
            refine Jvm.RoadKit.acmp (g := (mkF m 25 #[.val (.ref (ad j))] [(.ref (ad 13)), (.ref (ad j))])) X11 hx rfl rfl rfl (pc0 := 25) (pc' := 39) (same := true) rfl (hb hby d2_25) rfl (decide_eq_true (congrArg (fun z => Value.ref (ad z)) hk13)) (by decide) (by decide) ?_
            show Steps p.tables e below (T11.setTop (mkF m 39 #[.val (.ref (ad j))] [])) _
            refine XS.iconst X11.here hx rfl (hb hby d2_39) ?_
            show Steps p.tables e below (T11.setTop (mkF m 40 #[.val (.ref (ad j))] [(.int (0 : Int32))])) _
            exact k
          obtain ⟨fs, hr, hrun, hended, hW, hsame⟩ := X11.leave (v := some (.int (0 : Int32))) (fun h => by rw [Bd.returns] at h; cases h)
          refine ⟨_, _, pre12 _ ?_, hrun, hended, _, _, rfl, ?_, ⟨_, rfl⟩, hW, hsame.mono (by decide) (by decide)⟩
          · exact retN X11 hx (t := .boolean) Bd.returns (by simp) (hb hby d2_40) hr
          · show ((_ : Option Value) = some (.int (own_rd j)) ∧ Fr n0 _ ∧ T11.heap = h0)
            rw [e11]
            exact ⟨by rw [own_rd, if_neg hk9, if_neg hk11, if_neg hk12, if_pos hk13], N0, rfl⟩
        · have pre13 : ∀ t, Steps p.tables e below (T11.setTop (mkF m 29 #[.val (.ref (ad j))] [(.ref (ad j))])) t → Steps p.tables e below (s₁.setTop (entryFrame m #[(.ref (ad j))] 1)) t := by
            intro t k
            refine pre11 _ ?_
            refine Jvm.RoadKit.acmp (g := (mkF m 25 #[.val (.ref (ad j))] [(.ref (ad 13)), (.ref (ad j))])) X11 hx rfl rfl rfl (pc0 := 25) (pc' := 28) (same := false) rfl (hb hby d2_25) rfl (decide_eq_false (fun q => hA j 13 hj (by decide) hk13 (Value.ref.inj q))) (by decide) (by decide) ?_
            show Steps p.tables e below (T11.setTop (mkF m 28 #[.val (.ref (ad j))] [])) _
            refine XS.aloadN X11.here hx rfl (hb hby d2_28) rfl rfl ?_
            show Steps p.tables e below (T11.setTop (mkF m 29 #[.val (.ref (ad j))] [(.ref (ad j))])) _
            exact k
          obtain ⟨T14, X14, e14, st14⟩ := getS (host := "") X11 hx hZ hown (hw _ (List.mem_of_getElem? (i := 21) rfl)) Via.refl e11 (hS 14 (by decide)) (g := (mkF m 29 #[.val (.ref (ad j))] [(.ref (ad j))])) rfl (hb hby d2_29)
          have pre14 : ∀ t, Steps p.tables e below (T14.setTop (mkF m 32 #[.val (.ref (ad j))] [(.ref (ad 14)), (.ref (ad j))])) t → Steps p.tables e below (s₁.setTop (entryFrame m #[(.ref (ad j))] 1)) t := fun t k => pre13 t (st14 t k)
          by_cases hk14 : j = 14
          · have pre15 : ∀ t, Steps p.tables e below (T14.setTop (mkF m 40 #[.val (.ref (ad j))] [(.int (0 : Int32))])) t → Steps p.tables e below (s₁.setTop (entryFrame m #[(.ref (ad j))] 1)) t := by
              intro t k
              refine pre14 _ ?_
              refine Jvm.RoadKit.acmp (g := (mkF m 32 #[.val (.ref (ad j))] [(.ref (ad 14)), (.ref (ad j))])) X14 hx rfl rfl rfl (pc0 := 32) (pc' := 39) (same := true) rfl (hb hby d2_32) rfl (decide_eq_true (congrArg (fun z => Value.ref (ad z)) hk14)) (by decide) (by decide) ?_
              show Steps p.tables e below (T14.setTop (mkF m 39 #[.val (.ref (ad j))] [])) _
              refine XS.iconst X14.here hx rfl (hb hby d2_39) ?_
              show Steps p.tables e below (T14.setTop (mkF m 40 #[.val (.ref (ad j))] [(.int (0 : Int32))])) _
              exact k
            obtain ⟨fs, hr, hrun, hended, hW, hsame⟩ := X14.leave (v := some (.int (0 : Int32))) (fun h => by rw [Bd.returns] at h; cases h)
            refine ⟨_, _, pre15 _ ?_, hrun, hended, _, _, rfl, ?_, ⟨_, rfl⟩, hW, hsame.mono (by decide) (by decide)⟩
            · exact retN X14 hx (t := .boolean) Bd.returns (by simp) (hb hby d2_40) hr
            · show ((_ : Option Value) = some (.int (own_rd j)) ∧ Fr n0 _ ∧ T14.heap = h0)
              rw [e14]
              exact ⟨by rw [own_rd, if_neg hk9, if_neg hk11, if_neg hk12, if_neg hk13, if_pos hk14], N0, rfl⟩
          · have pre16 : ∀ t, Steps p.tables e below (T14.setTop (mkF m 40 #[.val (.ref (ad j))] [(.int (1 : Int32))])) t → Steps p.tables e below (s₁.setTop (entryFrame m #[(.ref (ad j))] 1)) t := by
              intro t k
              refine pre14 _ ?_
              refine Jvm.RoadKit.acmp (g := (mkF m 32 #[.val (.ref (ad j))] [(.ref (ad 14)), (.ref (ad j))])) X14 hx rfl rfl rfl (pc0 := 32) (pc' := 35) (same := false) rfl (hb hby d2_32) rfl (decide_eq_false (fun q => hA j 14 hj (by decide) hk14 (Value.ref.inj q))) (by decide) (by decide) ?_
              show Steps p.tables e below (T14.setTop (mkF m 35 #[.val (.ref (ad j))] [])) _
              refine XS.iconst X14.here hx rfl (hb hby d2_35) ?_
              show Steps p.tables e below (T14.setTop (mkF m 36 #[.val (.ref (ad j))] [(.int (1 : Int32))])) _
              refine XS.goto X14.here hx rfl (pc0 := 36) (pc' := 40) rfl (hb hby d2_36) (by decide) (by decide) ?_
              show Steps p.tables e below (T14.setTop (mkF m 40 #[.val (.ref (ad j))] [(.int (1 : Int32))])) _
              exact k
            obtain ⟨fs, hr, hrun, hended, hW, hsame⟩ := X14.leave (v := some (.int (1 : Int32))) (fun h => by rw [Bd.returns] at h; cases h)
            refine ⟨_, _, pre16 _ ?_, hrun, hended, _, _, rfl, ?_, ⟨_, rfl⟩, hW, hsame.mono (by decide) (by decide)⟩
            · exact retN X14 hx (t := .boolean) Bd.returns (by simp) (hb hby d2_40) hr
            · show ((_ : Option Value) = some (.int (own_rd j)) ∧ Fr n0 _ ∧ T14.heap = h0)
              rw [e14]
              exact ⟨by rw [own_rd, if_neg hk9, if_neg hk11, if_neg hk12, if_neg hk13, if_neg hk14], N0, rfl⟩
set_option maxRecDepth 65536 in
set_option maxHeartbeats 40000000 in
theorem rm0 (l : Launch) (Z : State) (a0 : Array Value) (hw : ∀ d ∈ tables_1, d.before a0 Z = true) (ws : List Jvm.Cond) (p1 : Int32) (ad : Nat → Addr) (h0 : Heap) (n0 : Nat) (Z0 : n0 ≤ h0.size) (hS : ∀ k, k < 15 → Sta Z h0 "com/example/nomos/nomos/schema/ValueFamily" (own_nm k) "Lcom/example/nomos/nomos/schema/ValueFamily;" (.ref (ad k))) (hA : ∀ i j, i < 15 → j < 15 → ¬ i = j → ¬ ad i = ad j) (hE : ∀ k, k < 15 → Exa Z h0 (ad k) "com/example/nomos/nomos/schema/ValueFamily") :
    MetFree l x (head1 (Jvm.Cond.code x code maxLocals ret :: ws) room_1) (fun a U => a = #[(.int p1)] ∧ Z.Warmed39 U.vm ∧ U.heap = h0) (fun _ _ _ _ _ => True) (fun _ U o U' => ∃ v L, o = .returned v ∧ own_Q (fun v h L => (v = some (.int 1) ∧ Fr n0 L)) v U'.heap L ∧ FrameEnd U o U' L room_1.cells room_1.slots) := by
  refine MetFree.of_bodySF (plainFor_of_name own_pn0) hisR ?_
  intro p e s m args below meth c s₁ Bd hml0 hP hK
  obtain ⟨rfl, hZ, hh⟩ := hP
  have hx := Bd.exec
  have hby := Bd.bytes
  have hml : c.maxLocals = 4 := hml0
  have hown : s.vm.findClass "com/example/nomos/nomos/schema/ValueFamilyIsReadByConditionsPinLaw" = some m.cls := findClass_of_methodNamed Bd.named
  have hnm := (name_of_methodNamed Bd.named Bd.method).1
  have X0 : Stand p l e room_1 s m #[(.int p1)] below meth c s₁ [] 0 0 := Stand.of_body Bd
  have e0 : s₁.heap = h0 := by rw [← hh, Bd.state]; rfl
  have N0 := Fr.nil n0
  have ef : entryFrame m #[(.int p1)] maxLocals = mkF m 0 #[.val (.int p1), .unset, .unset, .unset] [] := by first | (simp [entryFrame, mkF, argsToLocals, Value.category, maxLocals]; done) | rfl
  have pre0 : ∀ t, Steps p.tables e below (s₁.setTop (mkF m 0 #[.val (.int p1), .unset, .unset, .unset] [])) t → Steps p.tables e below (s₁.setTop (entryFrame m #[(.int p1)] maxLocals)) t := fun t k => castTop ef k
  have pre1 : ∀ t, Steps p.tables e below (s₁.setTop (mkF m 9 #[.val (.int p1), .val (.int ((p1 &&& (2147483647 : Int32)) % (15 : Int32))), .unset, .unset] [(.int ((p1 &&& (2147483647 : Int32)) % (15 : Int32)))])) t → Steps p.tables e below (s₁.setTop (entryFrame m #[(.int p1)] maxLocals)) t := by
    intro t k
    refine pre0 _ ?_
    refine XS.iloadN X0.here hx rfl (hb hby at_0) rfl ?_
    show Steps p.tables e below (s₁.setTop (mkF m 1 #[.val (.int p1), .unset, .unset, .unset] [(.int p1)])) _
    refine X0.ldcInt hx hown (mvT hZ (hw _ (List.mem_of_getElem? (i := 0) rfl))) (g := (mkF m 1 #[.val (.int p1), .unset, .unset, .unset] [(.int p1)])) rfl (hb hby at_1) _ ?_
    show Steps p.tables e below (s₁.setTop (mkF m 3 #[.val (.int p1), .unset, .unset, .unset] [(.int (2147483647 : Int32)), (.int p1)])) _
    refine XS.iand X0.here hx rfl (hb hby at_3) rfl ?_
    show Steps p.tables e below (s₁.setTop (mkF m 4 #[.val (.int p1), .unset, .unset, .unset] [(.int (p1 &&& (2147483647 : Int32)))])) _
    refine XS.bipush X0.here hx rfl (hb hby at_4) ?_
    show Steps p.tables e below (s₁.setTop (mkF m 6 #[.val (.int p1), .unset, .unset, .unset] [(.int (15 : Int32)), (.int (p1 &&& (2147483647 : Int32)))])) _
    refine iremM (g := (mkF m 6 #[.val (.int p1), .unset, .unset, .unset] [(.int (15 : Int32)), (.int (p1 &&& (2147483647 : Int32)))])) X0 hx rfl (hb hby at_6) rfl (by decide) ?_
    show Steps p.tables e below (s₁.setTop (mkF m 7 #[.val (.int p1), .unset, .unset, .unset] [(.int ((p1 &&& (2147483647 : Int32)) % (15 : Int32)))])) _
    refine XS.istoreN X0.here hx rfl (hb hby at_7) rfl (l' := #[.val (.int p1), .val (.int ((p1 &&& (2147483647 : Int32)) % (15 : Int32))), .unset, .unset]) rfl ?_
    show Steps p.tables e below (s₁.setTop (mkF m 8 #[.val (.int p1), .val (.int ((p1 &&& (2147483647 : Int32)) % (15 : Int32))), .unset, .unset] [])) _
    refine XS.iloadN X0.here hx rfl (hb hby at_8) rfl ?_
    show Steps p.tables e below (s₁.setTop (mkF m 9 #[.val (.int p1), .val (.int ((p1 &&& (2147483647 : Int32)) % (15 : Int32))), .unset, .unset] [(.int ((p1 &&& (2147483647 : Int32)) % (15 : Int32)))])) _
    exact k
  obtain ⟨kk, hkk⟩ : ∃ z, z = ((p1 &&& (2147483647 : Int32)) % (15 : Int32)) := ⟨_, rfl⟩
  have hr := own_rem p1
  rw [← hkk] at hr pre1
  obtain ⟨j, hj, -, hkj⟩ := own_of kk hr.1 hr.2
  obtain ⟨_, _, ⟨T2, L2, k2, n2⟩, -, X2, ⟨Lc2, hQ2, l2, y2, z2⟩, st2⟩ := Jvm.LawKit.callS X0 hx (y := (⟨"com/example/nomos/nomos/schema/ValueFamilyIsReadByConditionsPinLaw", "pick", "(I)Lcom/example/nomos/nomos/schema/ValueFamily;"⟩ : MethodName)) hown (mvT hZ (hw _ (List.mem_of_getElem? (i := 1) rfl))) (mvT hZ (hw _ (List.mem_of_getElem? (i := 2) rfl))) (mvT hZ (hw _ (List.mem_of_getElem? (i := 3) rfl))) (mvT hZ (hw _ (List.mem_of_getElem? (i := 4) rfl))) (by decide) (backOf (W := 0) (rm1 l Z a0 hw [] kk j ad h0 n0 Z0 hj hkj hS) hZ (hw _ (List.mem_of_getElem? (i := 4) rfl)) (hw _ (List.mem_of_getElem? (i := 3) rfl)) (by decide) (by decide)) (g := (mkF m 9 #[.val (.int p1), .val (.int kk), .unset, .unset] [(.int kk)])) rfl (by rw [hml]; rfl) (argsL := [(.int kk)]) (rest := []) (lenOf own_pd0 rfl) rfl (by show 2 * 0 + _ ≤ _; exact Nat.le_of_eq rfl) (hb hby at_9) (fun _ _ => ⟨rfl, e0, (by decide : 0 + 0 ≤ _), (by decide : 0 + 0 ≤ _)⟩)
  dsimp only [Pt.U, Pt.locs, Pt.cells, Pt.slots] at X2 l2 y2 z2 st2 hQ2
  subst l2 y2 z2
  obtain ⟨rfl, Nq2, eh1⟩ := hQ2
  have N2 := Fr.app N0 Nq2
  have pre2 : ∀ t, Steps p.tables e below (T2.setTop (mkF m 12 #[.val (.int p1), .val (.int kk), .unset, .unset] [(.ref (ad j))])) t → Steps p.tables e below (s₁.setTop (entryFrame m #[(.int p1)] maxLocals)) t := fun t k => pre1 t (st2 t k)
  have pre3 : ∀ t, Steps p.tables e below (T2.setTop (mkF m 16 #[.val (.int p1), .val (.int kk), .val (.ref (ad j)), .unset] [(.int (9 : Int32)), (.int kk)])) t → Steps p.tables e below (s₁.setTop (entryFrame m #[(.int p1)] maxLocals)) t := by
    intro t k
    refine pre2 _ ?_
    refine XS.astoreN X2.here hx rfl (hb hby at_12) rfl rfl (l' := #[.val (.int p1), .val (.int kk), .val (.ref (ad j)), .unset]) rfl ?_
    show Steps p.tables e below (T2.setTop (mkF m 13 #[.val (.int p1), .val (.int kk), .val (.ref (ad j)), .unset] [])) _
    refine XS.iloadN X2.here hx rfl (hb hby at_13) rfl ?_
    show Steps p.tables e below (T2.setTop (mkF m 14 #[.val (.int p1), .val (.int kk), .val (.ref (ad j)), .unset] [(.int kk)])) _
    refine XS.bipush X2.here hx rfl (hb hby at_14) ?_
    show Steps p.tables e below (T2.setTop (mkF m 16 #[.val (.int p1), .val (.int kk), .val (.ref (ad j)), .unset] [(.int (9 : Int32)), (.int kk)])) _
    exact k
  obtain ⟨nr, hnr, preJ⟩ : ∃ nr : Int32, ((nr = 1 ∧ own_rd j = 0) ∨ (nr = 0 ∧ own_rd j = 1)) ∧ (∀ t, Steps p.tables e below (T2.setTop (mkF m 48 #[.val (.int p1), .val (.int kk), .val (.ref (ad j)), .unset] [(.int nr)])) t → Steps p.tables e below (s₁.setTop (entryFrame m #[(.int p1)] maxLocals)) t) := by
    by_cases hk9 : j = 9
    · have hp' : kk = (9 : Int32) := own_eq.mpr (hkj.trans (by rw [hk9]; rfl))
      have pre4 : ∀ t, Steps p.tables e below (T2.setTop (mkF m 48 #[.val (.int p1), .val (.int kk), .val (.ref (ad j)), .unset] [(.int (1 : Int32))])) t → Steps p.tables e below (s₁.setTop (entryFrame m #[(.int p1)] maxLocals)) t := by
        intro t k
        refine pre3 _ ?_
        refine XS.icmpYes X2.here hx rfl (pc0 := 16) (pc' := 43) rfl (hb hby at_16) rfl (teq hp').1 (by decide) (by decide) ?_
        show Steps p.tables e below (T2.setTop (mkF m 43 #[.val (.int p1), .val (.int kk), .val (.ref (ad j)), .unset] [])) _
        refine XS.iconst X2.here hx rfl (hb hby at_43) ?_
        show Steps p.tables e below (T2.setTop (mkF m 44 #[.val (.int p1), .val (.int kk), .val (.ref (ad j)), .unset] [(.int (1 : Int32))])) _
        refine XS.goto X2.here hx rfl (pc0 := 44) (pc' := 48) rfl (hb hby at_44) (by decide) (by decide) ?_
        show Steps p.tables e below (T2.setTop (mkF m 48 #[.val (.int p1), .val (.int kk), .val (.ref (ad j)), .unset] [(.int (1 : Int32))])) _
        exact k
      exact ⟨_, Or.inl ⟨rfl, by rw [own_rd, if_pos hk9]⟩, pre4⟩
    · have hp' : ¬ kk = (9 : Int32) := own_ne (i := 9) hkj rfl hk9
      have pre5 : ∀ t, Steps p.tables e below (T2.setTop (mkF m 22 #[.val (.int p1), .val (.int kk), .val (.ref (ad j)), .unset] [(.int (11 : Int32)), (.int kk)])) t → Steps p.tables e below (s₁.setTop (entryFrame m #[(.int p1)] maxLocals)) t := by
        intro t k
        refine pre3 _ ?_
        refine XS.icmpNo X2.here hx rfl (hb hby at_16) rfl (feq hp').1 ?_
        show Steps p.tables e below (T2.setTop (mkF m 19 #[.val (.int p1), .val (.int kk), .val (.ref (ad j)), .unset] [])) _
        refine XS.iloadN X2.here hx rfl (hb hby at_19) rfl ?_
        show Steps p.tables e below (T2.setTop (mkF m 20 #[.val (.int p1), .val (.int kk), .val (.ref (ad j)), .unset] [(.int kk)])) _
        refine XS.bipush X2.here hx rfl (hb hby at_20) ?_
        show Steps p.tables e below (T2.setTop (mkF m 22 #[.val (.int p1), .val (.int kk), .val (.ref (ad j)), .unset] [(.int (11 : Int32)), (.int kk)])) _
        exact k
      by_cases hk11 : j = 11
      · have hp' : kk = (11 : Int32) := own_eq.mpr (hkj.trans (by rw [hk11]; rfl))
        have pre6 : ∀ t, Steps p.tables e below (T2.setTop (mkF m 48 #[.val (.int p1), .val (.int kk), .val (.ref (ad j)), .unset] [(.int (1 : Int32))])) t → Steps p.tables e below (s₁.setTop (entryFrame m #[(.int p1)] maxLocals)) t := by
          intro t k
          refine pre5 _ ?_
          refine XS.icmpYes X2.here hx rfl (pc0 := 22) (pc' := 43) rfl (hb hby at_22) rfl (teq hp').1 (by decide) (by decide) ?_
          show Steps p.tables e below (T2.setTop (mkF m 43 #[.val (.int p1), .val (.int kk), .val (.ref (ad j)), .unset] [])) _
          refine XS.iconst X2.here hx rfl (hb hby at_43) ?_
          show Steps p.tables e below (T2.setTop (mkF m 44 #[.val (.int p1), .val (.int kk), .val (.ref (ad j)), .unset] [(.int (1 : Int32))])) _
          refine XS.goto X2.here hx rfl (pc0 := 44) (pc' := 48) rfl (hb hby at_44) (by decide) (by decide) ?_
          show Steps p.tables e below (T2.setTop (mkF m 48 #[.val (.int p1), .val (.int kk), .val (.ref (ad j)), .unset] [(.int (1 : Int32))])) _
          exact k
        exact ⟨_, Or.inl ⟨rfl, by rw [own_rd, if_neg hk9, if_pos hk11]⟩, pre6⟩
      · have hp' : ¬ kk = (11 : Int32) := own_ne (i := 11) hkj rfl hk11
        have pre7 : ∀ t, Steps p.tables e below (T2.setTop (mkF m 28 #[.val (.int p1), .val (.int kk), .val (.ref (ad j)), .unset] [(.int (12 : Int32)), (.int kk)])) t → Steps p.tables e below (s₁.setTop (entryFrame m #[(.int p1)] maxLocals)) t := by
          intro t k
          refine pre5 _ ?_
          refine XS.icmpNo X2.here hx rfl (hb hby at_22) rfl (feq hp').1 ?_
          show Steps p.tables e below (T2.setTop (mkF m 25 #[.val (.int p1), .val (.int kk), .val (.ref (ad j)), .unset] [])) _
          refine XS.iloadN X2.here hx rfl (hb hby at_25) rfl ?_
          show Steps p.tables e below (T2.setTop (mkF m 26 #[.val (.int p1), .val (.int kk), .val (.ref (ad j)), .unset] [(.int kk)])) _
          refine XS.bipush X2.here hx rfl (hb hby at_26) ?_
          show Steps p.tables e below (T2.setTop (mkF m 28 #[.val (.int p1), .val (.int kk), .val (.ref (ad j)), .unset] [(.int (12 : Int32)), (.int kk)])) _
          exact k
        by_cases hk12 : j = 12
        · have hp' : kk = (12 : Int32) := own_eq.mpr (hkj.trans (by rw [hk12]; rfl))
          have pre8 : ∀ t, Steps p.tables e below (T2.setTop (mkF m 48 #[.val (.int p1), .val (.int kk), .val (.ref (ad j)), .unset] [(.int (1 : Int32))])) t → Steps p.tables e below (s₁.setTop (entryFrame m #[(.int p1)] maxLocals)) t := by
            intro t k
            refine pre7 _ ?_
            refine XS.icmpYes X2.here hx rfl (pc0 := 28) (pc' := 43) rfl (hb hby at_28) rfl (teq hp').1 (by decide) (by decide) ?_
            show Steps p.tables e below (T2.setTop (mkF m 43 #[.val (.int p1), .val (.int kk), .val (.ref (ad j)), .unset] [])) _
            refine XS.iconst X2.here hx rfl (hb hby at_43) ?_
            show Steps p.tables e below (T2.setTop (mkF m 44 #[.val (.int p1), .val (.int kk), .val (.ref (ad j)), .unset] [(.int (1 : Int32))])) _
            refine XS.goto X2.here hx rfl (pc0 := 44) (pc' := 48) rfl (hb hby at_44) (by decide) (by decide) ?_
            show Steps p.tables e below (T2.setTop (mkF m 48 #[.val (.int p1), .val (.int kk), .val (.ref (ad j)), .unset] [(.int (1 : Int32))])) _
            exact k
          exact ⟨_, Or.inl ⟨rfl, by rw [own_rd, if_neg hk9, if_neg hk11, if_pos hk12]⟩, pre8⟩
        · have hp' : ¬ kk = (12 : Int32) := own_ne (i := 12) hkj rfl hk12
          have pre9 : ∀ t, Steps p.tables e below (T2.setTop (mkF m 34 #[.val (.int p1), .val (.int kk), .val (.ref (ad j)), .unset] [(.int (13 : Int32)), (.int kk)])) t → Steps p.tables e below (s₁.setTop (entryFrame m #[(.int p1)] maxLocals)) t := by
            intro t k
            refine pre7 _ ?_
            refine XS.icmpNo X2.here hx rfl (hb hby at_28) rfl (feq hp').1 ?_
            show Steps p.tables e below (T2.setTop (mkF m 31 #[.val (.int p1), .val (.int kk), .val (.ref (ad j)), .unset] [])) _
            refine XS.iloadN X2.here hx rfl (hb hby at_31) rfl ?_
            show Steps p.tables e below (T2.setTop (mkF m 32 #[.val (.int p1), .val (.int kk), .val (.ref (ad j)), .unset] [(.int kk)])) _
            refine XS.bipush X2.here hx rfl (hb hby at_32) ?_
            show Steps p.tables e below (T2.setTop (mkF m 34 #[.val (.int p1), .val (.int kk), .val (.ref (ad j)), .unset] [(.int (13 : Int32)), (.int kk)])) _
            exact k
          by_cases hk13 : j = 13
          · have hp' : kk = (13 : Int32) := own_eq.mpr (hkj.trans (by rw [hk13]; rfl))
            have pre10 : ∀ t, Steps p.tables e below (T2.setTop (mkF m 48 #[.val (.int p1), .val (.int kk), .val (.ref (ad j)), .unset] [(.int (1 : Int32))])) t → Steps p.tables e below (s₁.setTop (entryFrame m #[(.int p1)] maxLocals)) t := by
              intro t k
              refine pre9 _ ?_
              refine XS.icmpYes X2.here hx rfl (pc0 := 34) (pc' := 43) rfl (hb hby at_34) rfl (teq hp').1 (by decide) (by decide) ?_
              show Steps p.tables e below (T2.setTop (mkF m 43 #[.val (.int p1), .val (.int kk), .val (.ref (ad j)), .unset] [])) _
              refine XS.iconst X2.here hx rfl (hb hby at_43) ?_
              show Steps p.tables e below (T2.setTop (mkF m 44 #[.val (.int p1), .val (.int kk), .val (.ref (ad j)), .unset] [(.int (1 : Int32))])) _
              refine XS.goto X2.here hx rfl (pc0 := 44) (pc' := 48) rfl (hb hby at_44) (by decide) (by decide) ?_
              show Steps p.tables e below (T2.setTop (mkF m 48 #[.val (.int p1), .val (.int kk), .val (.ref (ad j)), .unset] [(.int (1 : Int32))])) _
              exact k
            exact ⟨_, Or.inl ⟨rfl, by rw [own_rd, if_neg hk9, if_neg hk11, if_neg hk12, if_pos hk13]⟩, pre10⟩
          · have hp' : ¬ kk = (13 : Int32) := own_ne (i := 13) hkj rfl hk13
            have pre11 : ∀ t, Steps p.tables e below (T2.setTop (mkF m 40 #[.val (.int p1), .val (.int kk), .val (.ref (ad j)), .unset] [(.int (14 : Int32)), (.int kk)])) t → Steps p.tables e below (s₁.setTop (entryFrame m #[(.int p1)] maxLocals)) t := by
              intro t k
              refine pre9 _ ?_
              refine XS.icmpNo X2.here hx rfl (hb hby at_34) rfl (feq hp').1 ?_
              show Steps p.tables e below (T2.setTop (mkF m 37 #[.val (.int p1), .val (.int kk), .val (.ref (ad j)), .unset] [])) _
              refine XS.iloadN X2.here hx rfl (hb hby at_37) rfl ?_
              show Steps p.tables e below (T2.setTop (mkF m 38 #[.val (.int p1), .val (.int kk), .val (.ref (ad j)), .unset] [(.int kk)])) _
              refine XS.bipush X2.here hx rfl (hb hby at_38) ?_
              show Steps p.tables e below (T2.setTop (mkF m 40 #[.val (.int p1), .val (.int kk), .val (.ref (ad j)), .unset] [(.int (14 : Int32)), (.int kk)])) _
              exact k
            by_cases hk14 : j = 14
            · have hp' : kk = (14 : Int32) := own_eq.mpr (hkj.trans (by rw [hk14]; rfl))
              have pre12 : ∀ t, Steps p.tables e below (T2.setTop (mkF m 48 #[.val (.int p1), .val (.int kk), .val (.ref (ad j)), .unset] [(.int (1 : Int32))])) t → Steps p.tables e below (s₁.setTop (entryFrame m #[(.int p1)] maxLocals)) t := by
                intro t k
                refine pre11 _ ?_
                refine XS.icmpNo X2.here hx rfl (hb hby at_40) rfl (teq hp').2 ?_
                show Steps p.tables e below (T2.setTop (mkF m 43 #[.val (.int p1), .val (.int kk), .val (.ref (ad j)), .unset] [])) _
                refine XS.iconst X2.here hx rfl (hb hby at_43) ?_
                show Steps p.tables e below (T2.setTop (mkF m 44 #[.val (.int p1), .val (.int kk), .val (.ref (ad j)), .unset] [(.int (1 : Int32))])) _
                refine XS.goto X2.here hx rfl (pc0 := 44) (pc' := 48) rfl (hb hby at_44) (by decide) (by decide) ?_
                show Steps p.tables e below (T2.setTop (mkF m 48 #[.val (.int p1), .val (.int kk), .val (.ref (ad j)), .unset] [(.int (1 : Int32))])) _
                exact k
              exact ⟨_, Or.inl ⟨rfl, by rw [own_rd, if_neg hk9, if_neg hk11, if_neg hk12, if_neg hk13, if_pos hk14]⟩, pre12⟩
            · have hp' : ¬ kk = (14 : Int32) := own_ne (i := 14) hkj rfl hk14
              have pre13 : ∀ t, Steps p.tables e below (T2.setTop (mkF m 48 #[.val (.int p1), .val (.int kk), .val (.ref (ad j)), .unset] [(.int (0 : Int32))])) t → Steps p.tables e below (s₁.setTop (entryFrame m #[(.int p1)] maxLocals)) t := by
                intro t k
                refine pre11 _ ?_
                refine XS.icmpYes X2.here hx rfl (pc0 := 40) (pc' := 47) rfl (hb hby at_40) rfl (feq hp').2 (by decide) (by decide) ?_
                show Steps p.tables e below (T2.setTop (mkF m 47 #[.val (.int p1), .val (.int kk), .val (.ref (ad j)), .unset] [])) _
                refine XS.iconst X2.here hx rfl (hb hby at_47) ?_
                show Steps p.tables e below (T2.setTop (mkF m 48 #[.val (.int p1), .val (.int kk), .val (.ref (ad j)), .unset] [(.int (0 : Int32))])) _
                exact k
              exact ⟨_, Or.inr ⟨rfl, by rw [own_rd, if_neg hk9, if_neg hk11, if_neg hk12, if_neg hk13, if_neg hk14]⟩, pre13⟩
  have pre14 : ∀ t, Steps p.tables e below (T2.setTop (mkF m 50 #[.val (.int p1), .val (.int kk), .val (.ref (ad j)), .val (.int nr)] [(.ref (ad j))])) t → Steps p.tables e below (s₁.setTop (entryFrame m #[(.int p1)] maxLocals)) t := by
    intro t k
    refine preJ _ ?_
    refine XS.istoreN X2.here hx rfl (hb hby at_48) rfl (l' := #[.val (.int p1), .val (.int kk), .val (.ref (ad j)), .val (.int nr)]) rfl ?_
    show Steps p.tables e below (T2.setTop (mkF m 49 #[.val (.int p1), .val (.int kk), .val (.ref (ad j)), .val (.int nr)] [])) _
    refine XS.aloadN X2.here hx rfl (hb hby at_49) rfl rfl ?_
    show Steps p.tables e below (T2.setTop (mkF m 50 #[.val (.int p1), .val (.int kk), .val (.ref (ad j)), .val (.int nr)] [(.ref (ad j))])) _
    exact k
  rcases hnr with ⟨rfl, hrd⟩ | ⟨rfl, hrd⟩
  · have rm2' := rm2 l Z a0 hw [] j ad h0 n0 Z0 hj hS hA
    rw [hrd] at rm2'
    obtain ⟨cq15, kq15, q15a, q15b, q15c⟩ := isOf hZ eh1 (hE j hj)
    obtain ⟨_, _, ⟨T15, L15, k15, n15⟩, -, X15, ⟨Lc15, hQ15, l15, y15, z15⟩, st15⟩ := X2.virtualBack hx (y := (⟨"com/example/nomos/nomos/schema/ValueFamily", "isReadByConditions", "()Z"⟩ : MethodName)) (z := (⟨"com/example/nomos/nomos/schema/ValueFamily", "isReadByConditions", "()Z"⟩ : MethodName)) hown (mvT hZ (hw _ (List.mem_of_getElem? (i := 8) rfl))) (mvT hZ (hw _ (List.mem_of_getElem? (i := 9) rfl))) (notFace_of_selects (args := #[]) (mvT hZ (hw _ (List.mem_of_getElem? (i := 11) rfl)))) (mvT hZ (hw _ (List.mem_of_getElem? (i := 11) rfl))) (mvT hZ (hw _ (List.mem_of_getElem? (i := 10) rfl))) (by decide) (backOf (W := 0) (rm2') hZ (hw _ (List.mem_of_getElem? (i := 12) rfl)) (hw _ (List.mem_of_getElem? (i := 6) rfl)) (by decide) (by decide)) q15a q15c (g := (mkF m 50 #[.val (.int p1), .val (.int kk), .val (.ref (ad j)), .val (.int (1 : Int32))] [(.ref (ad j))])) rfl (by rw [hml]; rfl) (Steps.refl _) (argsL := []) (rest := []) (lenOf own_pd1 rfl) rfl (by show 2 * 0 + _ ≤ _; exact Nat.le_of_eq rfl) (hb hby at_50) (fun _ _ => ⟨rfl, eh1, (by decide : 0 + 0 ≤ _), (by decide : 0 + 0 ≤ _)⟩)
    dsimp only [Pt.U, Pt.locs, Pt.cells, Pt.slots] at X15 l15 y15 z15 st15 hQ15
    subst l15 y15 z15
    obtain ⟨rfl, Nq15, eh2⟩ := hQ15
    have N15 := Fr.app N2 Nq15
    have pre15 : ∀ t, Steps p.tables e below (T15.setTop (mkF m 53 #[.val (.int p1), .val (.int kk), .val (.ref (ad j)), .val (.int (1 : Int32))] [(.int (0 : Int32))])) t → Steps p.tables e below (s₁.setTop (entryFrame m #[(.int p1)] maxLocals)) t := fun t k => pre14 t (st15.trans k)
    have pre16 : ∀ t, Steps p.tables e below (T15.setTop (mkF m 70 #[.val (.int p1), .val (.int kk), .val (.ref (ad j)), .val (.int (1 : Int32))] [(.int (1 : Int32))])) t → Steps p.tables e below (s₁.setTop (entryFrame m #[(.int p1)] maxLocals)) t := by
      intro t k
      refine pre15 _ ?_
      refine XS.iloadN X15.here hx rfl (hb hby at_53) rfl ?_
      show Steps p.tables e below (T15.setTop (mkF m 54 #[.val (.int p1), .val (.int kk), .val (.ref (ad j)), .val (.int (1 : Int32))] [(.int (1 : Int32)), (.int (0 : Int32))])) _
      refine XS.ifYes X15.here hx rfl (pc0 := 54) (pc' := 61) rfl (hb hby at_54) rfl ((if0 _ _).trans (feq (by decide)).2) (by decide) (by decide) ?_
      show Steps p.tables e below (T15.setTop (mkF m 61 #[.val (.int p1), .val (.int kk), .val (.ref (ad j)), .val (.int (1 : Int32))] [(.int (0 : Int32))])) _
      refine XS.iconst X15.here hx rfl (hb hby at_61) ?_
      show Steps p.tables e below (T15.setTop (mkF m 62 #[.val (.int p1), .val (.int kk), .val (.ref (ad j)), .val (.int (1 : Int32))] [(.int (0 : Int32)), (.int (0 : Int32))])) _
      refine XS.icmpNo X15.here hx rfl (hb hby at_62) rfl (teq rfl).2 ?_
      show Steps p.tables e below (T15.setTop (mkF m 65 #[.val (.int p1), .val (.int kk), .val (.ref (ad j)), .val (.int (1 : Int32))] [])) _
      refine XS.iconst X15.here hx rfl (hb hby at_65) ?_
      show Steps p.tables e below (T15.setTop (mkF m 66 #[.val (.int p1), .val (.int kk), .val (.ref (ad j)), .val (.int (1 : Int32))] [(.int (1 : Int32))])) _
      refine XS.goto X15.here hx rfl (pc0 := 66) (pc' := 70) rfl (hb hby at_66) (by decide) (by decide) ?_
      show Steps p.tables e below (T15.setTop (mkF m 70 #[.val (.int p1), .val (.int kk), .val (.ref (ad j)), .val (.int (1 : Int32))] [(.int (1 : Int32))])) _
      exact k
    obtain ⟨fs, hr, hrun, hended, hW, hsame⟩ := X15.leave (v := some (.int (1 : Int32))) (fun h => by rw [Bd.returns] at h; cases h)
    refine ⟨_, _, pre16 _ ?_, hrun, hended, _, _, rfl, ?_, ⟨_, rfl⟩, hW, hsame.mono (by decide) (by decide)⟩
    · exact retN X15 hx (t := .boolean) Bd.returns (by simp) (hb hby at_70) hr
    · show ((_ : Option Value) = some (.int 1) ∧ Fr n0 _)
      exact ⟨rfl, N15⟩
  · have rm2' := rm2 l Z a0 hw [] j ad h0 n0 Z0 hj hS hA
    rw [hrd] at rm2'
    obtain ⟨cq17, kq17, q17a, q17b, q17c⟩ := isOf hZ eh1 (hE j hj)
    obtain ⟨_, _, ⟨T17, L17, k17, n17⟩, -, X17, ⟨Lc17, hQ17, l17, y17, z17⟩, st17⟩ := X2.virtualBack hx (y := (⟨"com/example/nomos/nomos/schema/ValueFamily", "isReadByConditions", "()Z"⟩ : MethodName)) (z := (⟨"com/example/nomos/nomos/schema/ValueFamily", "isReadByConditions", "()Z"⟩ : MethodName)) hown (mvT hZ (hw _ (List.mem_of_getElem? (i := 8) rfl))) (mvT hZ (hw _ (List.mem_of_getElem? (i := 9) rfl))) (notFace_of_selects (args := #[]) (mvT hZ (hw _ (List.mem_of_getElem? (i := 11) rfl)))) (mvT hZ (hw _ (List.mem_of_getElem? (i := 11) rfl))) (mvT hZ (hw _ (List.mem_of_getElem? (i := 10) rfl))) (by decide) (backOf (W := 0) (rm2') hZ (hw _ (List.mem_of_getElem? (i := 12) rfl)) (hw _ (List.mem_of_getElem? (i := 6) rfl)) (by decide) (by decide)) q17a q17c (g := (mkF m 50 #[.val (.int p1), .val (.int kk), .val (.ref (ad j)), .val (.int (0 : Int32))] [(.ref (ad j))])) rfl (by rw [hml]; rfl) (Steps.refl _) (argsL := []) (rest := []) (lenOf own_pd1 rfl) rfl (by show 2 * 0 + _ ≤ _; exact Nat.le_of_eq rfl) (hb hby at_50) (fun _ _ => ⟨rfl, eh1, (by decide : 0 + 0 ≤ _), (by decide : 0 + 0 ≤ _)⟩)
    dsimp only [Pt.U, Pt.locs, Pt.cells, Pt.slots] at X17 l17 y17 z17 st17 hQ17
    subst l17 y17 z17
    obtain ⟨rfl, Nq17, eh2⟩ := hQ17
    have N17 := Fr.app N2 Nq17
    have pre17 : ∀ t, Steps p.tables e below (T17.setTop (mkF m 53 #[.val (.int p1), .val (.int kk), .val (.ref (ad j)), .val (.int (0 : Int32))] [(.int (1 : Int32))])) t → Steps p.tables e below (s₁.setTop (entryFrame m #[(.int p1)] maxLocals)) t := fun t k => pre14 t (st17.trans k)
    have pre18 : ∀ t, Steps p.tables e below (T17.setTop (mkF m 70 #[.val (.int p1), .val (.int kk), .val (.ref (ad j)), .val (.int (0 : Int32))] [(.int (1 : Int32))])) t → Steps p.tables e below (s₁.setTop (entryFrame m #[(.int p1)] maxLocals)) t := by
      intro t k
      refine pre17 _ ?_
      refine XS.iloadN X17.here hx rfl (hb hby at_53) rfl ?_
      show Steps p.tables e below (T17.setTop (mkF m 54 #[.val (.int p1), .val (.int kk), .val (.ref (ad j)), .val (.int (0 : Int32))] [(.int (0 : Int32)), (.int (1 : Int32))])) _
      refine XS.ifNo X17.here hx rfl (hb hby at_54) rfl ((if0 _ _).trans (teq (by decide)).2) ?_
      show Steps p.tables e below (T17.setTop (mkF m 57 #[.val (.int p1), .val (.int kk), .val (.ref (ad j)), .val (.int (0 : Int32))] [(.int (1 : Int32))])) _
      refine XS.iconst X17.here hx rfl (hb hby at_57) ?_
      show Steps p.tables e below (T17.setTop (mkF m 58 #[.val (.int p1), .val (.int kk), .val (.ref (ad j)), .val (.int (0 : Int32))] [(.int (1 : Int32)), (.int (1 : Int32))])) _
      refine XS.goto X17.here hx rfl (pc0 := 58) (pc' := 62) rfl (hb hby at_58) (by decide) (by decide) ?_
      show Steps p.tables e below (T17.setTop (mkF m 62 #[.val (.int p1), .val (.int kk), .val (.ref (ad j)), .val (.int (0 : Int32))] [(.int (1 : Int32)), (.int (1 : Int32))])) _
      refine XS.icmpNo X17.here hx rfl (hb hby at_62) rfl (teq rfl).2 ?_
      show Steps p.tables e below (T17.setTop (mkF m 65 #[.val (.int p1), .val (.int kk), .val (.ref (ad j)), .val (.int (0 : Int32))] [])) _
      refine XS.iconst X17.here hx rfl (hb hby at_65) ?_
      show Steps p.tables e below (T17.setTop (mkF m 66 #[.val (.int p1), .val (.int kk), .val (.ref (ad j)), .val (.int (0 : Int32))] [(.int (1 : Int32))])) _
      refine XS.goto X17.here hx rfl (pc0 := 66) (pc' := 70) rfl (hb hby at_66) (by decide) (by decide) ?_
      show Steps p.tables e below (T17.setTop (mkF m 70 #[.val (.int p1), .val (.int kk), .val (.ref (ad j)), .val (.int (0 : Int32))] [(.int (1 : Int32))])) _
      exact k
    obtain ⟨fs, hr, hrun, hended, hW, hsame⟩ := X17.leave (v := some (.int (1 : Int32))) (fun h => by rw [Bd.returns] at h; cases h)
    refine ⟨_, _, pre18 _ ?_, hrun, hended, _, _, rfl, ?_, ⟨_, rfl⟩, hW, hsame.mono (by decide) (by decide)⟩
    · exact retN X17 hx (t := .boolean) Bd.returns (by simp) (hb hby at_70) hr
    · show ((_ : Option Value) = some (.int 1) ∧ Fr n0 _)
      exact ⟨rfl, N17⟩
set_option maxRecDepth 65536 in
set_option maxHeartbeats 40000000 in
theorem comes_1 {Post : Tables → Env → Array Value → State → Outcome → State → Prop} (hpost : ∀ tb e args s v u, (limb_1_1.after args s (.returned v) u = true ∧ limb_1_2.after args s (.returned v) u = true ∧ True) → FrameEnd s (.returned v) u (Jvm.fieldLocs frame_1_writes args s ++ Jvm.arrayLocs frame_1_arrays args s ++ Jvm.staticLocs frame_1_statics s) 0 0 → Post tb e args s (.returned v) u) :
    ArmFor flags0 classFile x code maxLocals ret World_1 tables_1 room_1 Calls_1 rest_1 Pre_1 Post := by
  intro l hfl _ _ p e ha hc hk s m args below hf hA hF happ hP
  obtain ⟨hcalls, hrest, hpre⟩ := hP
  obtain ⟨-, -, -, hnamed, -, -, -, hat⟩ := (Spec.applies_iff hf).mp happ
  obtain ⟨hg, hn⟩ := and_e (Cond.before_iff.mp (show (Jvm.Cond.and given_1 narrow_1).before args s = true from hpre))
  obtain ⟨g1, g2⟩ := and_e hg
  obtain ⟨w0, rfl⟩ : ∃ w0 : Value, args = #[w0] := by
    have hs : args.size = 1 := by simpa [Cond.value, given_1] using g1
    obtain ⟨L⟩ := args
    match L, hs with
    | [w0], _ => exact ⟨w0, rfl⟩
  have hw := fun d (hd : d ∈ tables_1) => atoms_spec (ws := Jvm.Cond.code x code maxLocals ret :: tables_1) hat d (List.mem_cons_of_mem _ hd)
  have hfit : Fit s := fun {y c} hc i hi => by
    obtain ⟨ha, rfl⟩ := Array.getElem?_eq_some_iff.mp hc
    have q := List.all_eq_true.mp ((Array.all_eq_true_iff_forall_mem.mp hF) _ (Array.getElem_mem ha)) i (List.mem_range.mpr hi)
    simpa [Array.getElem?_eq_getElem hi] using q
  obtain ⟨i0, ei0⟩ := is_v g2
  obtain rfl : w0 = (.int i0) := Option.some.inj ei0
  obtain ⟨hn1a, hn1b⟩ := and_e hn
  obtain ⟨hn2a, hn2b⟩ := and_e hn1b
  obtain ⟨hn3a, hn3b⟩ := and_e hn2b
  obtain ⟨hn4a, hn4b⟩ := and_e hn3b
  obtain ⟨hn5a, hn5b⟩ := and_e hn4b
  obtain ⟨hn6a, hn6b⟩ := and_e hn5b
  obtain ⟨hn7a, hn7b⟩ := and_e hn6b
  obtain ⟨hn8a, hn8b⟩ := and_e hn7b
  obtain ⟨hn9a, hn9b⟩ := and_e hn8b
  obtain ⟨hn10a, hn10b⟩ := and_e hn9b
  obtain ⟨hn11a, hn11b⟩ := and_e hn10b
  obtain ⟨hn12a, hn12b⟩ := and_e hn11b
  obtain ⟨hn13a, hn13b⟩ := and_e hn12b
  obtain ⟨hn14a, hn14b⟩ := and_e hn13b
  obtain ⟨hn15a, hn15b⟩ := and_e hn14b
  obtain ⟨hn16a, hn16b⟩ := and_e hn15b
  obtain ⟨hn17a, hn17b⟩ := and_e hn16b
  obtain ⟨hn18a, hn18b⟩ := and_e hn17b
  obtain ⟨hn19a, hn19b⟩ := and_e hn18b
  obtain ⟨hn20a, hn20b⟩ := and_e hn19b
  obtain ⟨hn21a, hn21b⟩ := and_e hn20b
  obtain ⟨hn22a, hn22b⟩ := and_e hn21b
  obtain ⟨hn23a, hn23b⟩ := and_e hn22b
  obtain ⟨hn24a, hn24b⟩ := and_e hn23b
  obtain ⟨hn25a, hn25b⟩ := and_e hn24b
  obtain ⟨hn26a, hn26b⟩ := and_e hn25b
  obtain ⟨hn27a, hn27b⟩ := and_e hn26b
  obtain ⟨hn28a, hn28b⟩ := and_e hn27b
  obtain ⟨hn29a, hn29b⟩ := and_e hn28b
  obtain ⟨o0, ev0, S0, E0⟩ := own_sta hn1a (hw _ (List.mem_of_getElem? (i := 6) rfl)) (hw _ (List.mem_of_getElem? (i := 7) rfl))
  have F0 := own_fi ev0 hn3a
  obtain ⟨o1, ev1, S1, E1⟩ := own_sta hn27a (hw _ (List.mem_of_getElem? (i := 6) rfl)) (hw _ (List.mem_of_getElem? (i := 41) rfl))
  have F1 := own_fi ev1 hn28a
  obtain ⟨o2, ev2, S2, E2⟩ := own_sta hn21a (hw _ (List.mem_of_getElem? (i := 6) rfl)) (hw _ (List.mem_of_getElem? (i := 34) rfl))
  have F2 := own_fi ev2 hn22a
  obtain ⟨o3, ev3, S3, E3⟩ := own_sta hn13a (hw _ (List.mem_of_getElem? (i := 6) rfl)) (hw _ (List.mem_of_getElem? (i := 24) rfl))
  have F3 := own_fi ev3 hn14a
  obtain ⟨o4, ev4, S4, E4⟩ := own_sta hn29a (hw _ (List.mem_of_getElem? (i := 6) rfl)) (hw _ (List.mem_of_getElem? (i := 44) rfl))
  have F4 := own_fi ev4 hn29b
  obtain ⟨o5, ev5, S5, E5⟩ := own_sta hn15a (hw _ (List.mem_of_getElem? (i := 6) rfl)) (hw _ (List.mem_of_getElem? (i := 26) rfl))
  have F5 := own_fi ev5 hn16a
  obtain ⟨o6, ev6, S6, E6⟩ := own_sta hn17a (hw _ (List.mem_of_getElem? (i := 6) rfl)) (hw _ (List.mem_of_getElem? (i := 29) rfl))
  have F6 := own_fi ev6 hn18a
  obtain ⟨o7, ev7, S7, E7⟩ := own_sta hn19a (hw _ (List.mem_of_getElem? (i := 6) rfl)) (hw _ (List.mem_of_getElem? (i := 32) rfl))
  have F7 := own_fi ev7 hn20a
  obtain ⟨o8, ev8, S8, E8⟩ := own_sta hn25a (hw _ (List.mem_of_getElem? (i := 6) rfl)) (hw _ (List.mem_of_getElem? (i := 39) rfl))
  have F8 := own_fi ev8 hn26a
  obtain ⟨o9, ev9, S9, E9⟩ := own_sta hn2a (hw _ (List.mem_of_getElem? (i := 6) rfl)) (hw _ (List.mem_of_getElem? (i := 14) rfl))
  have F9 := own_fi ev9 hn4a
  obtain ⟨o10, ev10, S10, E10⟩ := own_sta hn23a (hw _ (List.mem_of_getElem? (i := 6) rfl)) (hw _ (List.mem_of_getElem? (i := 37) rfl))
  have F10 := own_fi ev10 hn24a
  obtain ⟨o11, ev11, S11, E11⟩ := own_sta hn5a (hw _ (List.mem_of_getElem? (i := 6) rfl)) (hw _ (List.mem_of_getElem? (i := 16) rfl))
  have F11 := own_fi ev11 hn6a
  obtain ⟨o12, ev12, S12, E12⟩ := own_sta hn7a (hw _ (List.mem_of_getElem? (i := 6) rfl)) (hw _ (List.mem_of_getElem? (i := 18) rfl))
  have F12 := own_fi ev12 hn8a
  obtain ⟨o13, ev13, S13, E13⟩ := own_sta hn9a (hw _ (List.mem_of_getElem? (i := 6) rfl)) (hw _ (List.mem_of_getElem? (i := 20) rfl))
  have F13 := own_fi ev13 hn10a
  obtain ⟨o14, ev14, S14, E14⟩ := own_sta hn11a (hw _ (List.mem_of_getElem? (i := 6) rfl)) (hw _ (List.mem_of_getElem? (i := 22) rfl))
  have F14 := own_fi ev14 hn12a
  obtain ⟨ad, hs, hE, hF⟩ : ∃ ad : Nat → Addr, (∀ k, k < 15 → Sta s s.heap "com/example/nomos/nomos/schema/ValueFamily" (own_nm k) "Lcom/example/nomos/nomos/schema/ValueFamily;" (.ref (ad k))) ∧ (∀ k, k < 15 → Exa s s.heap (ad k) "com/example/nomos/nomos/schema/ValueFamily") ∧ (∀ k, k < 15 → Fld s s.heap (ad k) "java/lang/Enum" "ordinal" "I" (.int (Int32.ofNat k))) := by
    refine ⟨fun k => [o0, o1, o2, o3, o4, o5, o6, o7, o8, o9, o10, o11, o12, o13, o14].getD k 0, ?_, ?_, ?_⟩
    · intro k hk
      match k, hk with
      | 0, _ => exact S0
      | 1, _ => exact S1
      | 2, _ => exact S2
      | 3, _ => exact S3
      | 4, _ => exact S4
      | 5, _ => exact S5
      | 6, _ => exact S6
      | 7, _ => exact S7
      | 8, _ => exact S8
      | 9, _ => exact S9
      | 10, _ => exact S10
      | 11, _ => exact S11
      | 12, _ => exact S12
      | 13, _ => exact S13
      | 14, _ => exact S14
      | n + 15, h => exact absurd h (by omega)
    · intro k hk
      match k, hk with
      | 0, _ => exact E0
      | 1, _ => exact E1
      | 2, _ => exact E2
      | 3, _ => exact E3
      | 4, _ => exact E4
      | 5, _ => exact E5
      | 6, _ => exact E6
      | 7, _ => exact E7
      | 8, _ => exact E8
      | 9, _ => exact E9
      | 10, _ => exact E10
      | 11, _ => exact E11
      | 12, _ => exact E12
      | 13, _ => exact E13
      | 14, _ => exact E14
      | n + 15, h => exact absurd h (by omega)
    · intro k hk
      match k, hk with
      | 0, _ => exact F0
      | 1, _ => exact F1
      | 2, _ => exact F2
      | 3, _ => exact F3
      | 4, _ => exact F4
      | 5, _ => exact F5
      | 6, _ => exact F6
      | 7, _ => exact F7
      | 8, _ => exact F8
      | 9, _ => exact F9
      | 10, _ => exact F10
      | 11, _ => exact F11
      | 12, _ => exact F12
      | 13, _ => exact F13
      | 14, _ => exact F14
      | n + 15, h => exact absurd h (by omega)
  have hA : ∀ i j, i < 15 → j < 15 → ¬ i = j → ¬ ad i = ad j := fun i j hi hj hn => own_fne (hF i hi) (hF j hj) fun q => hn (by have q' := congrArg Int32.toInt q; rw [Int32.toInt_ofNat_of_lt (by omega), Int32.toInt_ofNat_of_lt (by omega)] at q'; omega)
  obtain ⟨n, o, h1, h2, h3, _, L, rfl, ⟨rfl, N⟩, hq⟩ := rm0 l s _ hw tables_1 i0 ad s.heap s.heap.size (Nat.le_refl _) hs hA hE p e ha hc hk s m _ below hf ((Spec.applies_iff_loose hf).mp happ).1 ⟨rfl, State.Warmed39.refl s, rfl⟩ trivial
  refine ⟨n, _, h1, h2, h3, hpost _ _ _ _ _ _ ⟨Cond.after_iff.mpr rfl, Cond.after_iff.mpr (eq_i res_at (Term.int_eval (1)) rfl), trivial⟩ ⟨hq.1, hq.2.1, (hq.2.2.sift fun y hy => Or.inr (N y hy)).mono (by decide) (by decide)⟩⟩
theorem main_1_1 : Claimed_1_1 := comes_1 fun _ _ _ _ _ _ h hF => ⟨h.1, hF⟩
theorem main_1_2 : Claimed_1_2 := comes_1 fun _ _ _ _ _ _ h hF => ⟨h.2.1, hF⟩
end Jvm.Pilot.@@N@@
namespace Jvm.Pilot.@@N@@
open Jvm Jvm.ClassFile Sem Op Lib Jvm.Free Jvm.Stand Jvm.Pilot.@@N@@.Jvm.D
/-! MADE BY PROGRAM (witnessworld.py) out of the Statement's table words and the real class files: 12 classes; the members and pool entries that the words name. The judged class is class 1, her method 1. -/
namespace start1
open Jvm.ClassFile
def u (s : String) : CpInfo := .utf8 (stringToUtf16 s)
/-- a pool by its gaps: so many unusable entries, then the entry; so many at the end -/
def gap : Nat → List CpInfo → List CpInfo
  | 0, r => r
  | n + 1, r => .unusable :: gap n r
def poolList (es : List (Nat × CpInfo)) (last : Nat) : List CpInfo := es.foldr (fun e r => gap e.1 (e.2 :: r)) (gap last [])
def pool (es : List (Nat × CpInfo)) (last : Nat) : Array CpInfo := ⟨poolList es last⟩
def fileOf (pool : Array CpInfo) (this : Nat) (attrs : Array Attribute := #[]) (ms : Array MethodInfo := #[]) (fl : Nat := 33) (sup : Nat := 0) (ifs : Array Nat := #[]) (fds : Array FieldInfo := #[]) : ClassFile where
  minorVersion := 0
  majorVersion := 65
  constantPool := pool
  accessFlags := fl
  thisClass := this
  superClass := sup
  interfaces := ifs
  fields := fds
  methods := ms
  attributes := attrs
def plain (name : String) (sup : Option ClassId) : Class where
  name := name
  kind := .ordinary
  loader := none
  accessFlags := 33
  super := sup
  interfaces := #[]
  cf := none
  fields := #[]
  methods := #[]
  instanceTypes := #[]
  staticTypes := #[]
  resolved := #[]
  callSites := []
  init := .initialized
  statics := none
  mirror := none

def pool0 : Array CpInfo := pool [(5, u "<init>"), (0, u "()V"), (1, .class_ 10), (1, u "java/lang/Object")] 113

def k0m0 : Method := { name := "<init>", desc := "()V", sig := { parameters := [], returnType := none }, accessFlags := 1, code := none }
/-- java/lang/Object -/
def k0 : Class := { plain "java/lang/Object" none with
  accessFlags := 33
  interfaces := #[]
  cf := some (fileOf pool0 8 #[] #[{ accessFlags := 1, nameIndex := 5, descriptorIndex := 6, attributes := #[] }] 33 0 #[] #[])
  fields := #[]
  methods := #[k0m0]
  instanceTypes := #[]
  staticTypes := #[]
  resolved := Array.replicate 124 none
  statics := none }

def pool1 : Array CpInfo := pool [(2, .class_ 4), (1, u "java/lang/Object"), (0, u "<init>"), (0, u "()V"), (0, .integer 2147483647), (0, .methodref 9 10), (0, .class_ 11), (0, .nameAndType 12 13), (0, u "com/example/nomos/nomos/schema/ValueFamilyIsReadByConditionsPinLaw"), (0, u "pick"), (0, u "(I)Lcom/example/nomos/nomos/schema/ValueFamily;"), (0, .methodref 15 16), (0, .class_ 17), (0, .nameAndType 18 19), (0, u "com/example/nomos/nomos/schema/ValueFamily"), (0, u "isReadByConditions"), (0, u "()Z"), (0, .fieldref 15 21), (0, .nameAndType 22 23), (0, u "NULL"), (0, u "Lcom/example/nomos/nomos/schema/ValueFamily;"), (0, .fieldref 15 25), (0, .nameAndType 26 23), (0, u "BOOLEAN"), (0, .fieldref 15 28), (0, .nameAndType 29 23), (0, u "INTEGER"), (0, .fieldref 15 31), (0, .nameAndType 32 23), (0, u "DECIMAL"), (0, .fieldref 15 34), (0, .nameAndType 35 23), (0, u "FLOAT"), (0, .fieldref 15 37), (0, .nameAndType 38 23), (0, u "TEXT"), (0, .fieldref 15 40), (0, .nameAndType 41 23), (0, u "TIME"), (0, .fieldref 15 43), (0, .nameAndType 44 23), (0, u "INSTANT"), (0, .fieldref 15 46), (0, .nameAndType 47 23), (0, u "TIME_OF_DAY"), (0, .fieldref 15 49), (0, .nameAndType 50 23), (0, u "UUID"), (0, .fieldref 15 52), (0, .nameAndType 53 23), (0, u "ENUM"), (0, .fieldref 15 55), (0, .nameAndType 56 23), (0, u "BYTES"), (0, .fieldref 15 58), (0, .nameAndType 59 23), (0, u "JSON"), (0, .fieldref 15 61), (0, .nameAndType 62 23), (0, u "ARRAY"), (0, .fieldref 15 64), (0, .nameAndType 65 23), (0, u "OPAQUE"), (2, u "law"), (0, u "(I)Z")] 3

def k1m0 : Method := { name := "<init>", desc := "()V", sig := { parameters := [], returnType := none }, accessFlags := 2, code := none }
def k1c1 : Code := { maxStack := 2, maxLocals := 4, code := code, exceptionTable := #[], attributes := #[] }
def k1m1 : Method := { name := "law", desc := "(I)Z", sig := { parameters := [.int], returnType := some .boolean }, accessFlags := 9, code := some k1c1 }
def k1c2 : Code := { maxStack := 2, maxLocals := 1, code := method_3_code, exceptionTable := #[], attributes := #[] }
def k1m2 : Method := { name := "pick", desc := "(I)Lcom/example/nomos/nomos/schema/ValueFamily;", sig := { parameters := [.int], returnType := some (.object "com/example/nomos/nomos/schema/ValueFamily") }, accessFlags := 10, code := some k1c2 }
/-- com/example/nomos/nomos/schema/ValueFamilyIsReadByConditionsPinLaw -/
def k1 : Class := { plain "com/example/nomos/nomos/schema/ValueFamilyIsReadByConditionsPinLaw" (some 0) with
  accessFlags := 49
  interfaces := #[]
  cf := some (fileOf pool1 9 #[] #[{ accessFlags := 2, nameIndex := 5, descriptorIndex := 6, attributes := #[] }, { accessFlags := 9, nameIndex := 68, descriptorIndex := 69, attributes := #[] }, { accessFlags := 10, nameIndex := 12, descriptorIndex := 13, attributes := #[] }] 49 2 #[] #[])
  fields := #[]
  methods := #[k1m0, k1m1, k1m2]
  instanceTypes := #[]
  staticTypes := #[]
  resolved := Array.replicate 73 none
  statics := none }

def pool2 : Array CpInfo := pool [(1, .class_ 2), (0, u "java/lang/constant/Constable"), (0, .class_ 4), (0, u "java/lang/Object")] 6

/-- java/lang/constant/Constable -/
def k2 : Class := { plain "java/lang/constant/Constable" (some 0) with
  accessFlags := 1537
  interfaces := #[]
  cf := some (fileOf pool2 1 #[] #[] 1537 3 #[] #[])
  fields := #[]
  methods := #[]
  instanceTypes := #[]
  staticTypes := #[]
  resolved := Array.replicate 11 none
  statics := none }

def pool3 : Array CpInfo := pool [(1, .class_ 2), (0, u "java/lang/Comparable"), (0, .class_ 4), (0, u "java/lang/Object")] 7

/-- java/lang/Comparable -/
def k3 : Class := { plain "java/lang/Comparable" (some 0) with
  accessFlags := 1537
  interfaces := #[]
  cf := some (fileOf pool3 1 #[] #[] 1537 3 #[] #[])
  fields := #[]
  methods := #[]
  instanceTypes := #[]
  staticTypes := #[]
  resolved := Array.replicate 12 none
  statics := none }

def pool4 : Array CpInfo := pool [(1, .class_ 2), (0, u "java/io/Serializable"), (0, .class_ 4), (0, u "java/lang/Object")] 2

/-- java/io/Serializable -/
def k4 : Class := { plain "java/io/Serializable" (some 0) with
  accessFlags := 1537
  interfaces := #[]
  cf := some (fileOf pool4 1 #[] #[] 1537 3 #[] #[])
  fields := #[]
  methods := #[]
  instanceTypes := #[]
  staticTypes := #[]
  resolved := Array.replicate 7 none
  statics := none }

def pool5 : Array CpInfo := pool [(2, .class_ 4), (1, u "java/lang/Enum"), (0, u "name"), (0, u "Ljava/lang/String;"), (2, u "ordinal"), (0, u "I"), (1, .class_ 14), (1, u "java/lang/Object"), (4, u "hash"), (86, .class_ 108), (1, u "java/lang/Enum$EnumDesc"), (2, .class_ 112), (0, u "java/lang/constant/Constable"), (0, .class_ 114), (0, u "java/lang/Comparable"), (0, .class_ 116), (0, u "java/io/Serializable")] 87

/-- java/lang/Enum -/
def k5 : Class := { plain "java/lang/Enum" (some 0) with
  accessFlags := 1057
  interfaces := #[2, 3, 4]
  cf := some (fileOf pool5 2 #[.nestMembers #[106]] #[] 1057 12 #[111, 113, 115] #[{ accessFlags := 18, nameIndex := 5, descriptorIndex := 6, attributes := #[] }, { accessFlags := 18, nameIndex := 9, descriptorIndex := 10, attributes := #[] }, { accessFlags := 2, nameIndex := 19, descriptorIndex := 10, attributes := #[] }])
  fields := #[{ name := "name", type := (.object "java/lang/String"), accessFlags := 18, slot := 0, constantValue := 0 }, { name := "ordinal", type := .int, accessFlags := 18, slot := 1, constantValue := 0 }, { name := "hash", type := .int, accessFlags := 2, slot := 2, constantValue := 0 }]
  methods := #[]
  instanceTypes := #[(.object "java/lang/String"), .int, .int]
  staticTypes := #[]
  resolved := Array.replicate 204 none
  statics := none }

def pool6 : Array CpInfo := pool [(1, .class_ 2), (0, u "com/example/nomos/nomos/schema/ValueFamily"), (2, u "NULL"), (0, u "Lcom/example/nomos/nomos/schema/ValueFamily;"), (2, u "BOOLEAN"), (2, u "INTEGER"), (2, u "DECIMAL"), (2, u "FLOAT"), (2, u "TEXT"), (2, u "TIME"), (2, u "INSTANT"), (2, u "TIME_OF_DAY"), (0, .fieldref 1 32), (0, .nameAndType 33 6), (0, u "UUID"), (2, u "ENUM"), (0, .fieldref 1 38), (0, .nameAndType 39 6), (0, u "BYTES"), (0, .fieldref 1 41), (0, .nameAndType 42 6), (0, u "JSON"), (0, .fieldref 1 44), (0, .nameAndType 45 6), (0, u "ARRAY"), (0, .fieldref 1 47), (0, .nameAndType 48 6), (0, u "OPAQUE"), (2, u "$VALUES"), (0, u "[Lcom/example/nomos/nomos/schema/ValueFamily;"), (6, .class_ 61), (1, u "java/lang/Enum"), (81, u "()Z"), (0, u "isReadByConditions")] 19

def k6c0 : Code := { maxStack := 2, maxLocals := 1, code := prog_141_method_6_code, exceptionTable := #[], attributes := #[] }
def k6m0 : Method := { name := "isReadByConditions", desc := "()Z", sig := { parameters := [], returnType := some .boolean }, accessFlags := 1, code := some k6c0 }
/-- com/example/nomos/nomos/schema/ValueFamily -/
def k6 : Class := { plain "com/example/nomos/nomos/schema/ValueFamily" (some 5) with
  accessFlags := 16433
  interfaces := #[]
  cf := some (fileOf pool6 1 #[] #[{ accessFlags := 1, nameIndex := 144, descriptorIndex := 143, attributes := #[] }] 16433 59 #[] #[{ accessFlags := 16409, nameIndex := 5, descriptorIndex := 6, attributes := #[] }, { accessFlags := 16409, nameIndex := 9, descriptorIndex := 6, attributes := #[] }, { accessFlags := 16409, nameIndex := 12, descriptorIndex := 6, attributes := #[] }, { accessFlags := 16409, nameIndex := 15, descriptorIndex := 6, attributes := #[] }, { accessFlags := 16409, nameIndex := 18, descriptorIndex := 6, attributes := #[] }, { accessFlags := 16409, nameIndex := 21, descriptorIndex := 6, attributes := #[] }, { accessFlags := 16409, nameIndex := 24, descriptorIndex := 6, attributes := #[] }, { accessFlags := 16409, nameIndex := 27, descriptorIndex := 6, attributes := #[] }, { accessFlags := 16409, nameIndex := 30, descriptorIndex := 6, attributes := #[] }, { accessFlags := 16409, nameIndex := 33, descriptorIndex := 6, attributes := #[] }, { accessFlags := 16409, nameIndex := 36, descriptorIndex := 6, attributes := #[] }, { accessFlags := 16409, nameIndex := 39, descriptorIndex := 6, attributes := #[] }, { accessFlags := 16409, nameIndex := 42, descriptorIndex := 6, attributes := #[] }, { accessFlags := 16409, nameIndex := 45, descriptorIndex := 6, attributes := #[] }, { accessFlags := 16409, nameIndex := 48, descriptorIndex := 6, attributes := #[] }, { accessFlags := 4122, nameIndex := 51, descriptorIndex := 52, attributes := #[] }])
  fields := #[{ name := "NULL", type := (.object "com/example/nomos/nomos/schema/ValueFamily"), accessFlags := 16409, slot := 0, constantValue := 0 }, { name := "BOOLEAN", type := (.object "com/example/nomos/nomos/schema/ValueFamily"), accessFlags := 16409, slot := 1, constantValue := 0 }, { name := "INTEGER", type := (.object "com/example/nomos/nomos/schema/ValueFamily"), accessFlags := 16409, slot := 2, constantValue := 0 }, { name := "DECIMAL", type := (.object "com/example/nomos/nomos/schema/ValueFamily"), accessFlags := 16409, slot := 3, constantValue := 0 }, { name := "FLOAT", type := (.object "com/example/nomos/nomos/schema/ValueFamily"), accessFlags := 16409, slot := 4, constantValue := 0 }, { name := "TEXT", type := (.object "com/example/nomos/nomos/schema/ValueFamily"), accessFlags := 16409, slot := 5, constantValue := 0 }, { name := "TIME", type := (.object "com/example/nomos/nomos/schema/ValueFamily"), accessFlags := 16409, slot := 6, constantValue := 0 }, { name := "INSTANT", type := (.object "com/example/nomos/nomos/schema/ValueFamily"), accessFlags := 16409, slot := 7, constantValue := 0 }, { name := "TIME_OF_DAY", type := (.object "com/example/nomos/nomos/schema/ValueFamily"), accessFlags := 16409, slot := 8, constantValue := 0 }, { name := "UUID", type := (.object "com/example/nomos/nomos/schema/ValueFamily"), accessFlags := 16409, slot := 9, constantValue := 0 }, { name := "ENUM", type := (.object "com/example/nomos/nomos/schema/ValueFamily"), accessFlags := 16409, slot := 10, constantValue := 0 }, { name := "BYTES", type := (.object "com/example/nomos/nomos/schema/ValueFamily"), accessFlags := 16409, slot := 11, constantValue := 0 }, { name := "JSON", type := (.object "com/example/nomos/nomos/schema/ValueFamily"), accessFlags := 16409, slot := 12, constantValue := 0 }, { name := "ARRAY", type := (.object "com/example/nomos/nomos/schema/ValueFamily"), accessFlags := 16409, slot := 13, constantValue := 0 }, { name := "OPAQUE", type := (.object "com/example/nomos/nomos/schema/ValueFamily"), accessFlags := 16409, slot := 14, constantValue := 0 }, { name := "$VALUES", type := (.array (.object "com/example/nomos/nomos/schema/ValueFamily")), accessFlags := 4122, slot := 15, constantValue := 0 }]
  methods := #[k6m0]
  instanceTypes := #[(.object "java/lang/String"), .int, .int]
  staticTypes := #[(.object "com/example/nomos/nomos/schema/ValueFamily"), (.object "com/example/nomos/nomos/schema/ValueFamily"), (.object "com/example/nomos/nomos/schema/ValueFamily"), (.object "com/example/nomos/nomos/schema/ValueFamily"), (.object "com/example/nomos/nomos/schema/ValueFamily"), (.object "com/example/nomos/nomos/schema/ValueFamily"), (.object "com/example/nomos/nomos/schema/ValueFamily"), (.object "com/example/nomos/nomos/schema/ValueFamily"), (.object "com/example/nomos/nomos/schema/ValueFamily"), (.object "com/example/nomos/nomos/schema/ValueFamily"), (.object "com/example/nomos/nomos/schema/ValueFamily"), (.object "com/example/nomos/nomos/schema/ValueFamily"), (.object "com/example/nomos/nomos/schema/ValueFamily"), (.object "com/example/nomos/nomos/schema/ValueFamily"), (.object "com/example/nomos/nomos/schema/ValueFamily"), (.array (.object "com/example/nomos/nomos/schema/ValueFamily"))]
  resolved := Array.replicate 164 none
  statics := some 0 }

def pool7 : Array CpInfo := pool [(1, u "java/lang/Cloneable"), (0, .class_ 1), (0, u "java/lang/Object"), (0, .class_ 3)] 3

/-- java/lang/Cloneable -/
def k7 : Class := { plain "java/lang/Cloneable" (some 0) with
  accessFlags := 1537
  interfaces := #[]
  cf := some (fileOf pool7 2 #[] #[] 1537 4 #[] #[])
  fields := #[]
  methods := #[]
  instanceTypes := #[]
  staticTypes := #[]
  resolved := Array.replicate 8 none
  statics := none }

/-- the primitive byte -/
def k8 : Class := { plain "byte" none with kind := .primitive 'B', accessFlags := 0x411 }
/-- [B -/
def k9 : Class := { plain "[B" (some 0) with kind := .array 8 .byte, interfaces := #[7, 4], accessFlags := 1041 }

/-- the primitive int -/
def k10 : Class := { plain "int" none with kind := .primitive 'I', accessFlags := 0x411 }
/-- [I -/
def k11 : Class := { plain "[I" (some 0) with kind := .array 10 .int, interfaces := #[7, 4], accessFlags := 1041 }

def heap : Heap := #[{ cls := 6, slots := #[.ref 1, .ref 2, .ref 3, .ref 4, .ref 5, .ref 6, .ref 7, .ref 8, .ref 9, .ref 10, .ref 11, .ref 12, .ref 13, .ref 14, .ref 15, .null], vm := .statics 6 },
  { cls := 6, slots := #[.null, .int 0, .int 0], vm := .none },
  { cls := 6, slots := #[.null, .int 1, .int 0], vm := .none },
  { cls := 6, slots := #[.null, .int 2, .int 0], vm := .none },
  { cls := 6, slots := #[.null, .int 3, .int 0], vm := .none },
  { cls := 6, slots := #[.null, .int 4, .int 0], vm := .none },
  { cls := 6, slots := #[.null, .int 5, .int 0], vm := .none },
  { cls := 6, slots := #[.null, .int 6, .int 0], vm := .none },
  { cls := 6, slots := #[.null, .int 7, .int 0], vm := .none },
  { cls := 6, slots := #[.null, .int 8, .int 0], vm := .none },
  { cls := 6, slots := #[.null, .int 9, .int 0], vm := .none },
  { cls := 6, slots := #[.null, .int 10, .int 0], vm := .none },
  { cls := 6, slots := #[.null, .int 11, .int 0], vm := .none },
  { cls := 6, slots := #[.null, .int 12, .int 0], vm := .none },
  { cls := 6, slots := #[.null, .int 13, .int 0], vm := .none },
  { cls := 6, slots := #[.null, .int 14, .int 0], vm := .none }]
def classes : Array Class := #[k0, k1, k2, k3, k4, k5, k6, k7, k8, k9, k10, k11]
def interned : List (Array UInt16 × Addr) := []
def slotsUsed : Nat := 61
def theMethod : MethodId := ⟨1, 1⟩
def args0 : Array Value := #[.int 5]
def aboutOver (below : List Frame) : State where
  vm := { classes := classes, interned := interned.toArray }
  heap := heap
  slotsUsed := slotsUsed
  threads := #[{ frames := .invoking theMethod args0 :: below }]
def below0 : List Frame := [.native { method := ⟨0, 0⟩, args := #[] }]
def about1 : State := aboutOver below0
def p0 : Program := .bare "" "" ""
def e0 : Env := launch0.env 0 0 0
theorem w_frames : about1.frames = Frame.invoking theMethod args0 :: below0 := rfl
set_option maxRecDepth 65536 in
theorem w_args : argsFit about1.vm theMethod args0 = true := by decide +kernel
set_option maxRecDepth 65536 in
theorem w_heap : heapFits about1 = true := by decide +kernel
set_option maxRecDepth 65536 in
theorem w_runnable : about1.curStatus? = some .runnable := by decide +kernel
set_option maxRecDepth 65536 in
theorem w_alone : about1.alone = true := by decide +kernel
set_option maxRecDepth 65536 in
theorem w_named : about1.methodNamed? x = some theMethod := by decide +kernel
set_option maxRecDepth 65536 in
theorem w_hears : about1.hears theMethod below0 = true := by decide +kernel
set_option maxRecDepth 65536 in
theorem w_ripe : about1.ripe theMethod args0 below0 = true := by decide +kernel
theorem w_running : about1.status = .running := rfl
set_option maxRecDepth 65536 in
theorem w_room : about1.hasRoom e0.platform room_1 = true :=
  launch0.hasRoom_least _ room_1 (by decide +kernel) (by decide +kernel) (by decide +kernel) (by decide +kernel) (by decide +kernel) (by decide +kernel)
theorem allAtoms_all (ts : List Jvm.Cond) (a : Array Jvm.Value) (st : Jvm.State) : (allAtoms ts).before a st = ts.all (fun c => c.before a st) := by
  induction ts with
  | nil => rfl
  | cons c t ih =>
    show (Jvm.Cond.and c (allAtoms t)).before a st = _
    rw [Jvm.Cond.before_and, ih, List.all_cons]
def words1 : List Jvm.Cond := Jvm.Cond.code x code maxLocals ret :: tables_1
/-- a 'code' word, met by the world's own term for the bytes: nothing is compared byte by byte -/
theorem code_word {y : MethodName} {bytes : ByteArray} {mx : Nat} {rt : Option FieldType} {a : Array Value} {s : State} {m : MethodId} {meth : Method} {c : Code} (h1 : s.methodNamed? y = some m) (h2 : s.vm.method? m = some meth) (h3 : meth.code = some c) (h4 : c.code = bytes)
    (h5 : (c.maxLocals == mx && c.exceptionTable.isEmpty && decide (c.maxStack ≤ mostOperands) && decide (meth.sig.returnType = rt) && !meth.locks && decide (parseMethodDescriptor y.desc = some meth.sig)) = true) : (Jvm.Cond.code y bytes mx rt).before a s = true := by
  simp only [Bool.and_eq_true, beq_iff_eq, Bool.not_eq_true', decide_eq_true_eq] at h5
  obtain ⟨⟨⟨⟨⟨g1, g2⟩, g3⟩, g4⟩, g5⟩, g6⟩ := h5
  simp [Cond.before, Cond.holds, Cond.value, h1, h2, h3, h4, g1, g2, g3, g4, g5, g6]
def isCode : Jvm.Cond → Bool
  | .code _ _ _ _ => true
  | _ => false
theorem all_split {L : List Jvm.Cond} {P : Jvm.Cond → Bool} (h1 : L.all (fun c => isCode c || P c) = true) (h2 : ∀ c ∈ L.filter isCode, P c = true) : L.all P = true := by
  refine List.all_eq_true.mpr fun c hc => ?_
  have h := List.all_eq_true.mp h1 c hc
  rcases Bool.eq_false_or_eq_true (isCode c) with hi | hi
  · exact h2 c (List.mem_filter.mpr ⟨hc, hi⟩)
  · simpa [hi] using h
set_option maxRecDepth 65536 in
theorem w_c0 : (Jvm.Cond.code x code maxLocals ret).before args0 about1 = true := code_word (m := ⟨1, 1⟩) (meth := k1m1) (c := k1c1) (by decide +kernel) rfl rfl rfl (by decide +kernel)
set_option maxRecDepth 65536 in
theorem w_c1 : (Jvm.Cond.code ({ cls := "com/example/nomos/nomos/schema/ValueFamilyIsReadByConditionsPinLaw", name := "pick", desc := "(I)Lcom/example/nomos/nomos/schema/ValueFamily;" } : Jvm.MethodName) method_3_code (1 : Nat) (Option.some (Jvm.ClassFile.FieldType.object "com/example/nomos/nomos/schema/ValueFamily"))).before args0 about1 = true := code_word (m := ⟨1, 2⟩) (meth := k1m2) (c := k1c2) (by decide +kernel) rfl rfl rfl (by decide +kernel)
set_option maxRecDepth 65536 in
theorem w_c2 : (Jvm.Cond.code ({ cls := "com/example/nomos/nomos/schema/ValueFamily", name := "isReadByConditions", desc := "()Z" } : Jvm.MethodName) prog_141_method_6_code (1 : Nat) (Option.some Jvm.ClassFile.FieldType.boolean)).before args0 about1 = true := code_word (m := ⟨6, 0⟩) (meth := k6m0) (c := k6c0) (by decide +kernel) rfl rfl rfl (by decide +kernel)
def codes1 : List Jvm.Cond := [Jvm.Cond.code x code maxLocals ret, Jvm.Cond.code ({ cls := "com/example/nomos/nomos/schema/ValueFamilyIsReadByConditionsPinLaw", name := "pick", desc := "(I)Lcom/example/nomos/nomos/schema/ValueFamily;" } : Jvm.MethodName) method_3_code (1 : Nat) (Option.some (Jvm.ClassFile.FieldType.object "com/example/nomos/nomos/schema/ValueFamily")), Jvm.Cond.code ({ cls := "com/example/nomos/nomos/schema/ValueFamily", name := "isReadByConditions", desc := "()Z" } : Jvm.MethodName) prog_141_method_6_code (1 : Nat) (Option.some Jvm.ClassFile.FieldType.boolean)]
set_option maxRecDepth 65536 in
theorem codes_eq : words1.filter isCode = codes1 := rfl
theorem w_codes : ∀ c ∈ words1.filter isCode, c.before args0 about1 = true := by
  rw [codes_eq]
  intro c hc
  simp only [codes1, List.mem_cons, List.not_mem_nil, or_false] at hc
  rcases hc with rfl | rfl | rfl
  · exact w_c0
  · exact w_c1
  · exact w_c2
set_option maxRecDepth 65536 in
theorem w_t1 : (words1.take 24).all (fun c => isCode c || c.before args0 about1) = true := by decide +kernel
set_option maxRecDepth 65536 in
theorem w_t2 : (words1.drop 24).all (fun c => isCode c || c.before args0 about1) = true := by decide +kernel
theorem w_tables : (allAtoms (Jvm.Cond.code x code maxLocals ret :: tables_1)).before args0 about1 = true := by
  rw [allAtoms_all]
  show words1.all (fun c => c.before args0 about1) = true
  refine all_split ?_ w_codes
  rw [← List.take_append_drop 24 words1, List.all_append, w_t1, w_t2]
  rfl
set_option maxRecDepth 65536 in
theorem w_case : (Jvm.Cond.and given_1 narrow_1).before args0 about1 = true := by decide +kernel
theorem w_applies : (headSpec (Jvm.Cond.code x code maxLocals ret :: tables_1) room_1).applies x e0.platform about1 = true :=
  (Spec.applies_iff w_frames).mpr ⟨w_running, w_runnable, w_alone, w_named, w_hears, w_ripe, w_room, w_tables⟩
theorem atStart : AtStart classFile x code maxLocals ret World_1 tables_1 room_1 Calls_1 rest_1 Pre_1 launch0 p0 e0 about1 theMethod args0 below0 :=
  ⟨lists_1, trivial, launch0.admits_env _ _ _, launch0.least_env, fairChoices_fair.cas, fairChoices_fair.clock, w_frames, w_args, w_heap, w_applies, trivial, trivial, w_case⟩
end start1
theorem witness_1 : WitnessClaimed_1 := ⟨start1.p0, start1.e0, start1.about1, start1.theMethod, start1.args0, start1.below0, start1.atStart⟩
end Jvm.Pilot.@@N@@
