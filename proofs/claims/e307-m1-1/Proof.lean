import JvmDerived
import JvmDerived.Pilot.@@N@@Statement
import JvmDerived.Pilot.@@N@@Code
set_option linter.unusedVariables false
set_option linter.unusedSimpArgs false
namespace Jvm.RoadKit
open Sem ClassFile Op Lib Jvm.Stand Jvm.Free Jvm.LawKit
section New
variable {p : Program} {l : Launch} {e : Env} {R : Room} {s : State} {m : MethodId} {args : Array Value} {below : List Frame} {meth : Method} {c : Code} {T : State} {locs : List Loc} {cells slots : Nat}
theorem retI (X : Stand p l e R s m args below meth c T locs cells slots) (hx : p.tables.exec = Jvm.exec) {pc : Nat} {Ls : Array Slot} {z : Int32} {rest : List Value} (hret : meth.sig.returnType = some .int) (hd : decode c.code pc = .ok (.ireturn, 1)) {fs : List Frame}
    (hl : ∀ (f : JFrame) (acts : List Action), f.method = m → f.locked = none → f.entered = [] → (doReturn e (T.setTop f) acts (some (.int z))).1 = T.setFrames fs) : Steps p.tables e below (T.setTop (mkF m pc Ls (.int z :: rest))) (T.setFrames fs) :=
  retOut X hx hret rfl (Or.inl ⟨rfl, Or.inl rfl, z, rfl⟩) hd hl
end New
end Jvm.RoadKit
namespace Jvm.Pilot.@@N@@
open Jvm Jvm.ClassFile Sem Op Lib Jvm.Free Jvm.Stand Jvm.LawKit Jvm.RoadKit Bundle Jvm.Pilot.@@N@@.Jvm.D
def own_Q (Q : Option Value → Heap → List Loc → Prop) (v : Option Value) (h : Heap) (L : List Loc) : Prop := Q v h L
theorem own_sta {s : State} {args : Array Value} {C n d K : String} (h : (Jvm.Cond.exactly (Jvm.Term.static C n d) K).value args s none s [] = some true) (w1 : (Jvm.Cond.initialized C).before args s = true) (w2 : (Jvm.Cond.laysStatic C n d).before args s = true) :
    ∃ a, (Jvm.Term.static C n d).eval args s none [] s = some (.ref a) ∧ Sta s s.heap C n d (.ref a) ∧ Exa s s.heap a K := by
  obtain ⟨a, e⟩ := exa_v h
  exact ⟨a, e, Sta.start e (Or.inr ⟨w1, w2⟩), Exa.start e h⟩
theorem own_fi {s : State} {args : Array Value} {t : Jvm.Term} {a : Addr} {C f d : String} {z : Int32} (ev : t.eval args s none [] s = some (.ref a)) (h : (Jvm.Cond.eq (Jvm.Term.field t C f d) (Jvm.Term.int z)).value args s none s [] = some true) : Fld s s.heap a C f d (.int z) := by
  obtain ⟨x, y, e1, e2, k1, k2⟩ := cmp_v (Or.inl h)
  have ez : (Jvm.Term.int z).eval args s none [] s = some (.int z) := Term.int_eval z
  obtain rfl : y = .int z := Option.some.inj (e2.symm.trans ez)
  obtain ⟨w, rfl⟩ : ∃ w, x = .int w := k2
  have hv : (Jvm.Cond.eq (Jvm.Term.field t C f d) (Jvm.Term.int z)).value args s none s [] = some (decide (w = z)) := by simp [Cond.value, e1, ez]
  obtain rfl := gotT hv h
  rw [fld_at ev] at e1
  exact Fld.start e1
theorem own_fu {Z : State} {h : Heap} {a : Addr} {C f d : String} {x y : Value} (F : Fld Z h a C f d x) (G : Fld Z h a C f d y) : x = y := by
  obtain ⟨c1, cf1, k1, i1, f1, h1, h2, h3, h4, h5, h6, h7⟩ := F
  obtain ⟨c2, cf2, k2, i2, f2, g1, g2, g3, g4, g5, g6, g7⟩ := G
  cases h1.symm.trans g1
  cases h2.symm.trans g2
  exact Option.some.inj (h7.symm.trans g7)
theorem own_fne {Z : State} {h : Heap} {a b : Addr} {C f d : String} {x y : Int32} (F : Fld Z h a C f d (.int x)) (G : Fld Z h b C f d (.int y)) (hn : ¬ x = y) : ¬ a = b := fun e => by
  subst e; exact hn (Value.int.inj (own_fu F G))
theorem own_extw {h0 h h' : Heap} {a : Addr} {sl : Nat} {v : Value} (E : Ext h0 h) (W : Wr h h' a sl v) (q : h0.size ≤ a) : Ext h0 h' := by
  refine ⟨by rw [W.size]; exact E.1, fun x c hc => ?_⟩
  obtain ⟨c', e1, -, -, -, e5, -⟩ := wr_at W (E.2 x c hc)
  have hne : x ≠ a := fun z => by subst z; exact absurd (Array.getElem?_eq_some_iff.mp hc).1 (Nat.not_lt.mpr q)
  rw [← e5 hne]; exact e1
theorem own_extt {h0 h h' : Heap} (E : Ext h0 h) (E' : Ext h h') : Ext h0 h' := ⟨Nat.le_trans E.1 E'.1, fun x c hc => E'.2 x c (E.2 x c hc)⟩
theorem own_lgt {x y : Int64} : (0 : Int32) < lcmpW x y ↔ y < x := by rw [lcW]; exact lc_gt x y
theorem own_llt {x y : Int64} : lcmpW x y < (0 : Int32) ↔ x < y := by rw [lcW]; exact lc_lt x y
theorem own_leq {x y : Int64} : lcmpW x y = (0 : Int32) ↔ x = y := by rw [lcW]; exact lc_eq x y
theorem own_lt {a b : Int32} : a < b ↔ a.toInt < b.toInt := Int32.lt_iff_toInt_lt
theorem own_eq {a b : Int32} : a = b ↔ a.toInt = b.toInt := Int32.toInt_inj.symm
theorem own_ltL {a b : Int64} : a < b ↔ a.toInt < b.toInt := Int64.lt_iff_toInt_lt
theorem own_eqL {a b : Int64} : a = b ↔ a.toInt = b.toInt := Int64.toInt_inj.symm
theorem own_fd {s : State} {args : Array Value} {t : Jvm.Term} {a : Addr} {C f d : String} {z : Int64} {u : UInt64} (hu : z.toUInt64 = u) (ev : t.eval args s none [] s = some (.ref a)) (h : (Jvm.Cond.eq (Jvm.Term.field t C f d) (Jvm.Term.op1 Jvm.Unary.bitsD (Jvm.Term.long z))).value args s none s [] = some true) : Fld s s.heap a C f d (.double u) := by
  obtain ⟨x, y, e1, e2, k1, k2⟩ := cmp_v (Or.inl h)
  have ez : (Jvm.Term.op1 Jvm.Unary.bitsD (Jvm.Term.long z)).eval args s none [] s = some (.double u) := by subst hu; rfl
  obtain rfl : y = .double u := Option.some.inj (e2.symm.trans ez)
  obtain ⟨w, rfl⟩ : ∃ w, x = .double w := k2
  have hv : (Jvm.Cond.eq (Jvm.Term.field t C f d) (Jvm.Term.op1 Jvm.Unary.bitsD (Jvm.Term.long z))).value args s none s [] = some (decide (w = u)) := by simp [Cond.value, e1, ez]
  obtain rfl := gotT hv h
  rw [fld_at ev] at e1
  exact Fld.start e1
theorem own_el {s : State} {args : Array Value} {t : Jvm.Term} {a : Addr} {cl : Cell} {k : Nat} {j : Int32} {z : Int64} (hk : j.toNatClampNeg = k) (ev : t.eval args s none [] s = some (.ref a)) (hc : s.heap[a]? = some cl) (h : (Jvm.Cond.eq (Jvm.Term.elem t (Jvm.Term.int j)) (Jvm.Term.long z)).value args s none s [] = some true) : cl.slots[k]? = some (.long z) := by
  obtain ⟨x, y, e1, e2, k1, k2⟩ := cmp_v (Or.inl h)
  have ez : (Jvm.Term.long z).eval args s none [] s = some (.long z) := rfl
  obtain rfl : y = .long z := Option.some.inj (e2.symm.trans ez)
  obtain ⟨w, rfl⟩ : ∃ w, x = .long w := k2
  have hv := eq_L (a := Jvm.Term.elem t (Jvm.Term.int j)) (b := Jvm.Term.long z) e1 ez
  obtain rfl := gotT hv h
  subst hk; exact (elem_in e1 ev (Term.int_eval j) hc).2
theorem own_er {s : State} {args : Array Value} {t : Jvm.Term} {a : Addr} {cl : Cell} {k : Nat} {j : Int32} {K : String} (hk : j.toNatClampNeg = k) (ev : t.eval args s none [] s = some (.ref a)) (hc : s.heap[a]? = some cl) (h : (Jvm.Cond.exactly (Jvm.Term.elem t (Jvm.Term.int j)) K).value args s none s [] = some true) :
    ∃ x, (Jvm.Term.elem t (Jvm.Term.int j)).eval args s none [] s = some (.ref x) ∧ cl.slots[k]? = some (.ref x) ∧ Exa s s.heap x K := by
  obtain ⟨x, e⟩ := exa_v h
  subst hk; exact ⟨x, e, (elem_in e ev (Term.int_eval j) hc).2, Exa.start e h⟩
theorem own_in {cl : Cell} {k : Nat} {j : Int32} {v : Value} (h : cl.slots[k]? = some v) (hj : ¬ j < 0) (e : j.toNatClampNeg = k) : ¬ (j < 0 ∨ cl.slots.size ≤ j.toNatClampNeg) := by
  rintro (q | q)
  · exact hj q
  · rw [e] at q; exact absurd (Array.getElem?_eq_some_iff.mp h).1 (Nat.not_lt.mpr q)
theorem own_k0 : (60 : Int64).toInt = 60 := rfl
theorem own_k1 : (600 : Int64).toInt = 600 := rfl
theorem own_k2 : (18000 : Int64).toInt = 18000 := rfl
theorem own_k3 : (180000 : Int64).toInt = 180000 := rfl
theorem own_k4 : (720000 : Int64).toInt = 720000 := rfl
theorem own_k5 : (1440000 : Int64).toInt = 1440000 := rfl
theorem own_k6 : (131072 : Int64).toInt = 131072 := rfl
theorem own_k7 : (4194304 : Int64).toInt = 4194304 := rfl
theorem own_k8 : (1 : Int32).toInt = 1 := rfl
theorem own_k9 : (2 : Int32).toInt = 2 := rfl
theorem own_k10 : (4 : Int32).toInt = 4 := rfl
theorem own_k11 : (5 : Int32).toInt = 5 := rfl
theorem own_k12 : (8 : Int32).toInt = 8 := rfl
theorem own_k13 : (9 : Int32).toInt = 9 := rfl
theorem own_k14 : (16 : Int32).toInt = 16 := rfl
theorem own_k15 : (32 : Int32).toInt = 32 := rfl
def own_row (r : Int64) (p : Int32) (m : Int64) : Nat :=
  if r = (60 : Int64) then 0 else if ¬ (600 : Int64) < r then 1
  else if r < (18000 : Int64) then (if p = (1 : Int32) then 3 else if (¬ p < (5 : Int32) ∧ ¬ (8 : Int32) < p) ∨ (32 : Int32) < p then 4 else 2)
  else if r = (18000 : Int64) then (if ¬ (2 : Int32) < p then 5 else if ¬ (8 : Int32) < p then (if m < (131072 : Int64) then 5 else 7) else (if (4194304 : Int64) < m then 6 else 7))
  else if r = (180000 : Int64) ∨ r = (720000 : Int64) ∨ r = (1440000 : Int64) then (if ¬ (16 : Int32) < p then 8 else 9)
  else (if ¬ (32 : Int32) < p then 10 else 11)
theorem own_row_lt (r : Int64) (p : Int32) (m : Int64) : own_row r p m < 12 := by
  unfold own_row; repeat' split
  all_goals decide
def own_sh : Nat → Int32
  | 0 => 294
  | 1 => 80
  | 2 => 53
  | 3 => 97
  | 4 => 80
  | 5 => 29
  | 6 => 17
  | 7 => 44
  | 8 => 42
  | 9 => 87
  | 10 => 84
  | 11 => 105
  | _ => 0
def own_em : Nat → UInt64
  | 0 => 4631538448534790472
  | 1 => 4616200877053826826
  | 2 => 4604480259023595110
  | 3 => 4605020690978879570
  | 4 => 4602318531202457272
  | 5 => 4598535507515466056
  | 6 => 4596734067664517856
  | 7 => 4593851763903000736
  | 8 => 4581421828931458176
  | 9 => 4581421828931458176
  | 10 => 4587366580439587232
  | 11 => 4585925428558828672
  | _ => 0
def own_df : Nat → Int64
  | 0 => 18000
  | 1 => 180000
  | 2 => 720000
  | 3 => 1440000
  | _ => 0
theorem own_cmp (k : Nat) (hk : k < 12) : (k ≤ 1 ∧ cmpValue (FP.dcmp (own_em k) 4611686018427387904) .l = 1) ∨ (¬ k ≤ 1 ∧ cmpValue (FP.dcmp (own_em k) 4611686018427387904) .l = -1) := by
  match k, hk with
  | 0, _ => exact Or.inl ⟨by decide, by decide +kernel⟩
  | 1, _ => exact Or.inl ⟨by decide, by decide +kernel⟩
  | 2, _ => exact Or.inr ⟨by decide, by decide +kernel⟩
  | 3, _ => exact Or.inr ⟨by decide, by decide +kernel⟩
  | 4, _ => exact Or.inr ⟨by decide, by decide +kernel⟩
  | 5, _ => exact Or.inr ⟨by decide, by decide +kernel⟩
  | 6, _ => exact Or.inr ⟨by decide, by decide +kernel⟩
  | 7, _ => exact Or.inr ⟨by decide, by decide +kernel⟩
  | 8, _ => exact Or.inr ⟨by decide, by decide +kernel⟩
  | 9, _ => exact Or.inr ⟨by decide, by decide +kernel⟩
  | 10, _ => exact Or.inr ⟨by decide, by decide +kernel⟩
  | 11, _ => exact Or.inr ⟨by decide, by decide +kernel⟩
  | n + 12, h => exact absurd h (by omega)
theorem own_ofn (j : Nat) (h : j < 12) : (Int32.ofNat j).toInt = j := Int32.toInt_ofNat_of_lt (by omega)
theorem own_ne {k : Int32} {j i : Nat} (e : k.toInt = j) (hi : (Int32.ofNat i).toInt = i) (hn : ¬ j = i) : ¬ k = Int32.ofNat i := fun q => hn (by rw [q, hi] at e; omega)
theorem own_pd0 : parseMethodDescriptor "(IJ)J" = some ⟨[.int, .long], some .long⟩ := by decide +kernel
theorem own_pd1 : parseMethodDescriptor "(JIJ)Lcom/example/jobwright/jobwright/workload/O2kJobs$Ratio;" = some ⟨[.long, .int, .long], some (.object "com/example/jobwright/jobwright/workload/O2kJobs$Ratio")⟩ := by decide +kernel
theorem own_pd2 : parseMethodDescriptor "(JIJ)I" = some ⟨[.long, .int, .long], some .int⟩ := by decide +kernel
theorem own_pd3 : parseMethodDescriptor "()I" = some ⟨[], some .int⟩ := by decide +kernel
theorem own_pd4 : parseMethodDescriptor "(I)I" = some ⟨[.int], some .int⟩ := by decide +kernel
theorem own_pd5 : parseMethodDescriptor "()D" = some ⟨[], some .double⟩ := by decide +kernel
theorem own_pn0 : plainName "com/example/jobwright/jobwright/workload/O2kJobsRatioPinLaw" = true := by first | (simp [plainName, overriddenIn]; done) | decide +kernel
theorem own_pn1 : plainName "com/example/jobwright/jobwright/workload/O2kJobs" = true := by first | (simp [plainName, overriddenIn]; done) | decide +kernel
theorem own_pn2 : plainName "com/example/jobwright/jobwright/workload/O2kJobs$Ratio" = true := by first | (simp [plainName, overriddenIn]; done) | decide +kernel
theorem d1_0 : decode method_3_code 0 = .ok (.lload_n 1, 1) := by decide +kernel
theorem d1_1 : decode method_3_code 1 = .ok (.ldc2_w 42, 3) := by decide +kernel
theorem d1_4 : decode method_3_code 4 = .ok (.land, 1) := by decide +kernel
theorem d1_5 : decode method_3_code 5 = .ok (.lconst 1, 1) := by decide +kernel
theorem d1_6 : decode method_3_code 6 = .ok (.lsub, 1) := by decide +kernel
theorem d1_7 : decode method_3_code 7 = .ok (.lstore_n 3, 1) := by decide +kernel
theorem d1_8 : decode method_3_code 8 = .ok (.iload_n 0, 1) := by decide +kernel
theorem d1_9 : decode method_3_code 9 = .ok (.ifCond .ne 9, 3) := by decide +kernel
theorem d1_12 : decode method_3_code 12 = .ok (.ldc2_w 44, 3) := by decide +kernel
theorem d1_15 : decode method_3_code 15 = .ok (.lload_n 3, 1) := by decide +kernel
theorem d1_16 : decode method_3_code 16 = .ok (.ladd, 1) := by decide +kernel
theorem d1_17 : decode method_3_code 17 = .ok (.lreturn, 1) := by decide +kernel
theorem d1_18 : decode method_3_code 18 = .ok (.iload_n 0, 1) := by decide +kernel
theorem d1_19 : decode method_3_code 19 = .ok (.iconst 1, 1) := by decide +kernel
theorem d1_20 : decode method_3_code 20 = .ok (.if_icmp .ne 9, 3) := by decide +kernel
theorem d1_23 : decode method_3_code 23 = .ok (.ldc2_w 46, 3) := by decide +kernel
theorem d1_26 : decode method_3_code 26 = .ok (.lload_n 3, 1) := by decide +kernel
theorem d1_27 : decode method_3_code 27 = .ok (.ladd, 1) := by decide +kernel
theorem d1_28 : decode method_3_code 28 = .ok (.lreturn, 1) := by decide +kernel
theorem d1_29 : decode method_3_code 29 = .ok (.iload_n 0, 1) := by decide +kernel
theorem d1_30 : decode method_3_code 30 = .ok (.iconst 2, 1) := by decide +kernel
theorem d1_31 : decode method_3_code 31 = .ok (.if_icmp .ne 9, 3) := by decide +kernel
theorem d1_34 : decode method_3_code 34 = .ok (.ldc2_w 48, 3) := by decide +kernel
theorem d1_37 : decode method_3_code 37 = .ok (.lload_n 3, 1) := by decide +kernel
theorem d1_38 : decode method_3_code 38 = .ok (.ladd, 1) := by decide +kernel
theorem d1_39 : decode method_3_code 39 = .ok (.lreturn, 1) := by decide +kernel
theorem d1_40 : decode method_3_code 40 = .ok (.iload_n 0, 1) := by decide +kernel
theorem d1_41 : decode method_3_code 41 = .ok (.iconst 3, 1) := by decide +kernel
theorem d1_42 : decode method_3_code 42 = .ok (.if_icmp .ne 9, 3) := by decide +kernel
theorem d1_45 : decode method_3_code 45 = .ok (.ldc2_w 50, 3) := by decide +kernel
theorem d1_48 : decode method_3_code 48 = .ok (.lload_n 3, 1) := by decide +kernel
theorem d1_49 : decode method_3_code 49 = .ok (.ladd, 1) := by decide +kernel
theorem d1_50 : decode method_3_code 50 = .ok (.lreturn, 1) := by decide +kernel
theorem d1_51 : decode method_3_code 51 = .ok (.iload_n 0, 1) := by decide +kernel
theorem d1_52 : decode method_3_code 52 = .ok (.iconst 4, 1) := by decide +kernel
theorem d1_53 : decode method_3_code 53 = .ok (.if_icmp .ne 9, 3) := by decide +kernel
theorem d1_56 : decode method_3_code 56 = .ok (.ldc2_w 52, 3) := by decide +kernel
theorem d1_59 : decode method_3_code 59 = .ok (.lload_n 3, 1) := by decide +kernel
theorem d1_60 : decode method_3_code 60 = .ok (.ladd, 1) := by decide +kernel
theorem d1_61 : decode method_3_code 61 = .ok (.lreturn, 1) := by decide +kernel
theorem d1_62 : decode method_3_code 62 = .ok (.iload_n 0, 1) := by decide +kernel
theorem d1_63 : decode method_3_code 63 = .ok (.iconst 5, 1) := by decide +kernel
theorem d1_64 : decode method_3_code 64 = .ok (.if_icmp .ne 9, 3) := by decide +kernel
theorem d1_67 : decode method_3_code 67 = .ok (.ldc2_w 54, 3) := by decide +kernel
theorem d1_70 : decode method_3_code 70 = .ok (.lload_n 3, 1) := by decide +kernel
theorem d1_71 : decode method_3_code 71 = .ok (.ladd, 1) := by decide +kernel
theorem d1_72 : decode method_3_code 72 = .ok (.lreturn, 1) := by decide +kernel
theorem d1_73 : decode method_3_code 73 = .ok (.iload_n 0, 1) := by decide +kernel
theorem d1_74 : decode method_3_code 74 = .ok (.bipush 6, 2) := by decide +kernel
theorem d1_76 : decode method_3_code 76 = .ok (.if_icmp .eq 9, 3) := by decide +kernel
theorem d1_79 : decode method_3_code 79 = .ok (.iload_n 0, 1) := by decide +kernel
theorem d1_80 : decode method_3_code 80 = .ok (.bipush 7, 2) := by decide +kernel
theorem d1_82 : decode method_3_code 82 = .ok (.if_icmp .ne 9, 3) := by decide +kernel
theorem d1_85 : decode method_3_code 85 = .ok (.lload_n 1, 1) := by decide +kernel
theorem d1_86 : decode method_3_code 86 = .ok (.ldc2_w 56, 3) := by decide +kernel
theorem d1_89 : decode method_3_code 89 = .ok (.land, 1) := by decide +kernel
theorem d1_90 : decode method_3_code 90 = .ok (.lreturn, 1) := by decide +kernel
theorem d1_91 : decode method_3_code 91 = .ok (.lload_n 1, 1) := by decide +kernel
theorem d1_92 : decode method_3_code 92 = .ok (.lreturn, 1) := by decide +kernel
theorem d2_0 : decode method_4_code 0 = .ok (.lload_n 1, 1) := by decide +kernel
theorem d2_1 : decode method_4_code 1 = .ok (.ldc2_w 42, 3) := by decide +kernel
theorem d2_4 : decode method_4_code 4 = .ok (.land, 1) := by decide +kernel
theorem d2_5 : decode method_4_code 5 = .ok (.lconst 1, 1) := by decide +kernel
theorem d2_6 : decode method_4_code 6 = .ok (.lsub, 1) := by decide +kernel
theorem d2_7 : decode method_4_code 7 = .ok (.lstore_n 3, 1) := by decide +kernel
theorem d2_8 : decode method_4_code 8 = .ok (.iload_n 0, 1) := by decide +kernel
theorem d2_9 : decode method_4_code 9 = .ok (.ifCond .ne 5, 3) := by decide +kernel
theorem d2_12 : decode method_4_code 12 = .ok (.lload_n 1, 1) := by decide +kernel
theorem d2_13 : decode method_4_code 13 = .ok (.lreturn, 1) := by decide +kernel
theorem d2_14 : decode method_4_code 14 = .ok (.iload_n 0, 1) := by decide +kernel
theorem d2_15 : decode method_4_code 15 = .ok (.iconst 1, 1) := by decide +kernel
theorem d2_16 : decode method_4_code 16 = .ok (.if_icmp .ne 9, 3) := by decide +kernel
theorem d2_19 : decode method_4_code 19 = .ok (.ldc2_w 58, 3) := by decide +kernel
theorem d2_22 : decode method_4_code 22 = .ok (.lload_n 3, 1) := by decide +kernel
theorem d2_23 : decode method_4_code 23 = .ok (.ladd, 1) := by decide +kernel
theorem d2_24 : decode method_4_code 24 = .ok (.lreturn, 1) := by decide +kernel
theorem d2_25 : decode method_4_code 25 = .ok (.iload_n 0, 1) := by decide +kernel
theorem d2_26 : decode method_4_code 26 = .ok (.iconst 2, 1) := by decide +kernel
theorem d2_27 : decode method_4_code 27 = .ok (.if_icmp .ne 9, 3) := by decide +kernel
theorem d2_30 : decode method_4_code 30 = .ok (.ldc2_w 60, 3) := by decide +kernel
theorem d2_33 : decode method_4_code 33 = .ok (.lload_n 3, 1) := by decide +kernel
theorem d2_34 : decode method_4_code 34 = .ok (.ladd, 1) := by decide +kernel
theorem d2_35 : decode method_4_code 35 = .ok (.lreturn, 1) := by decide +kernel
theorem d2_36 : decode method_4_code 36 = .ok (.lload_n 1, 1) := by decide +kernel
theorem d2_37 : decode method_4_code 37 = .ok (.ldc2_w 62, 3) := by decide +kernel
theorem d2_40 : decode method_4_code 40 = .ok (.land, 1) := by decide +kernel
theorem d2_41 : decode method_4_code 41 = .ok (.lreturn, 1) := by decide +kernel
theorem d3_0 : decode prog_198_method_8_code 0 = .ok (.lload_n 0, 1) := by decide +kernel
theorem d3_1 : decode prog_198_method_8_code 1 = .ok (.ldc2_w 122, 3) := by decide +kernel
theorem d3_4 : decode prog_198_method_8_code 4 = .ok (.lcmp, 1) := by decide +kernel
theorem d3_5 : decode prog_198_method_8_code 5 = .ok (.ifCond .ne 9, 3) := by decide +kernel
theorem d3_8 : decode prog_198_method_8_code 8 = .ok (.getstatic 124, 3) := by decide +kernel
theorem d3_11 : decode prog_198_method_8_code 11 = .ok (.iconst 0, 1) := by decide +kernel
theorem d3_12 : decode prog_198_method_8_code 12 = .ok (.aaload, 1) := by decide +kernel
theorem d3_13 : decode prog_198_method_8_code 13 = .ok (.areturn, 1) := by decide +kernel
theorem d3_14 : decode prog_198_method_8_code 14 = .ok (.lload_n 0, 1) := by decide +kernel
theorem d3_15 : decode prog_198_method_8_code 15 = .ok (.ldc2_w 128, 3) := by decide +kernel
theorem d3_18 : decode prog_198_method_8_code 18 = .ok (.lcmp, 1) := by decide +kernel
theorem d3_19 : decode prog_198_method_8_code 19 = .ok (.ifCond .gt 9, 3) := by decide +kernel
theorem d3_22 : decode prog_198_method_8_code 22 = .ok (.getstatic 124, 3) := by decide +kernel
theorem d3_25 : decode prog_198_method_8_code 25 = .ok (.iconst 1, 1) := by decide +kernel
theorem d3_26 : decode prog_198_method_8_code 26 = .ok (.aaload, 1) := by decide +kernel
theorem d3_27 : decode prog_198_method_8_code 27 = .ok (.areturn, 1) := by decide +kernel
theorem d3_28 : decode prog_198_method_8_code 28 = .ok (.lload_n 0, 1) := by decide +kernel
theorem d3_29 : decode prog_198_method_8_code 29 = .ok (.getstatic 130, 3) := by decide +kernel
theorem d3_32 : decode prog_198_method_8_code 32 = .ok (.iconst 0, 1) := by decide +kernel
theorem d3_33 : decode prog_198_method_8_code 33 = .ok (.laload, 1) := by decide +kernel
theorem d3_34 : decode prog_198_method_8_code 34 = .ok (.lcmp, 1) := by decide +kernel
theorem d3_35 : decode prog_198_method_8_code 35 = .ok (.ifCond .ge 45, 3) := by decide +kernel
theorem d3_38 : decode prog_198_method_8_code 38 = .ok (.iload_n 2, 1) := by decide +kernel
theorem d3_39 : decode prog_198_method_8_code 39 = .ok (.iconst 1, 1) := by decide +kernel
theorem d3_40 : decode prog_198_method_8_code 40 = .ok (.if_icmp .ne 9, 3) := by decide +kernel
theorem d3_43 : decode prog_198_method_8_code 43 = .ok (.getstatic 124, 3) := by decide +kernel
theorem d3_46 : decode prog_198_method_8_code 46 = .ok (.iconst 3, 1) := by decide +kernel
theorem d3_47 : decode prog_198_method_8_code 47 = .ok (.aaload, 1) := by decide +kernel
theorem d3_48 : decode prog_198_method_8_code 48 = .ok (.areturn, 1) := by decide +kernel
theorem d3_49 : decode prog_198_method_8_code 49 = .ok (.iload_n 2, 1) := by decide +kernel
theorem d3_50 : decode prog_198_method_8_code 50 = .ok (.iconst 4, 1) := by decide +kernel
theorem d3_51 : decode prog_198_method_8_code 51 = .ok (.if_icmp .le 15, 3) := by decide +kernel
theorem d3_54 : decode prog_198_method_8_code 54 = .ok (.iload_n 2, 1) := by decide +kernel
theorem d3_55 : decode prog_198_method_8_code 55 = .ok (.bipush 9, 2) := by decide +kernel
theorem d3_57 : decode prog_198_method_8_code 57 = .ok (.if_icmp .lt 17, 3) := by decide +kernel
theorem d3_60 : decode prog_198_method_8_code 60 = .ok (.iload_n 2, 1) := by decide +kernel
theorem d3_61 : decode prog_198_method_8_code 61 = .ok (.bipush 32, 2) := by decide +kernel
theorem d3_63 : decode prog_198_method_8_code 63 = .ok (.if_icmp .gt 11, 3) := by decide +kernel
theorem d3_66 : decode prog_198_method_8_code 66 = .ok (.getstatic 124, 3) := by decide +kernel
theorem d3_69 : decode prog_198_method_8_code 69 = .ok (.iconst 2, 1) := by decide +kernel
theorem d3_70 : decode prog_198_method_8_code 70 = .ok (.aaload, 1) := by decide +kernel
theorem d3_71 : decode prog_198_method_8_code 71 = .ok (.goto 8, 3) := by decide +kernel
theorem d3_74 : decode prog_198_method_8_code 74 = .ok (.getstatic 124, 3) := by decide +kernel
theorem d3_77 : decode prog_198_method_8_code 77 = .ok (.iconst 4, 1) := by decide +kernel
theorem d3_78 : decode prog_198_method_8_code 78 = .ok (.aaload, 1) := by decide +kernel
theorem d3_79 : decode prog_198_method_8_code 79 = .ok (.areturn, 1) := by decide +kernel
theorem d3_80 : decode prog_198_method_8_code 80 = .ok (.lload_n 0, 1) := by decide +kernel
theorem d3_81 : decode prog_198_method_8_code 81 = .ok (.getstatic 130, 3) := by decide +kernel
theorem d3_84 : decode prog_198_method_8_code 84 = .ok (.iconst 0, 1) := by decide +kernel
theorem d3_85 : decode prog_198_method_8_code 85 = .ok (.laload, 1) := by decide +kernel
theorem d3_86 : decode prog_198_method_8_code 86 = .ok (.lcmp, 1) := by decide +kernel
theorem d3_87 : decode prog_198_method_8_code 87 = .ok (.ifCond .ne 58, 3) := by decide +kernel
theorem d3_90 : decode prog_198_method_8_code 90 = .ok (.iload_n 2, 1) := by decide +kernel
theorem d3_91 : decode prog_198_method_8_code 91 = .ok (.iconst 2, 1) := by decide +kernel
theorem d3_92 : decode prog_198_method_8_code 92 = .ok (.if_icmp .le 17, 3) := by decide +kernel
theorem d3_95 : decode prog_198_method_8_code 95 = .ok (.iload_n 2, 1) := by decide +kernel
theorem d3_96 : decode prog_198_method_8_code 96 = .ok (.bipush 8, 2) := by decide +kernel
theorem d3_98 : decode prog_198_method_8_code 98 = .ok (.if_icmp .gt 17, 3) := by decide +kernel
theorem d3_101 : decode prog_198_method_8_code 101 = .ok (.lload_n 3, 1) := by decide +kernel
theorem d3_102 : decode prog_198_method_8_code 102 = .ok (.ldc2_w 134, 3) := by decide +kernel
theorem d3_105 : decode prog_198_method_8_code 105 = .ok (.lcmp, 1) := by decide +kernel
theorem d3_106 : decode prog_198_method_8_code 106 = .ok (.ifCond .ge 9, 3) := by decide +kernel
theorem d3_109 : decode prog_198_method_8_code 109 = .ok (.getstatic 124, 3) := by decide +kernel
theorem d3_112 : decode prog_198_method_8_code 112 = .ok (.iconst 5, 1) := by decide +kernel
theorem d3_113 : decode prog_198_method_8_code 113 = .ok (.aaload, 1) := by decide +kernel
theorem d3_114 : decode prog_198_method_8_code 114 = .ok (.areturn, 1) := by decide +kernel
theorem d3_115 : decode prog_198_method_8_code 115 = .ok (.iload_n 2, 1) := by decide +kernel
theorem d3_116 : decode prog_198_method_8_code 116 = .ok (.bipush 8, 2) := by decide +kernel
theorem d3_118 : decode prog_198_method_8_code 118 = .ok (.if_icmp .le 20, 3) := by decide +kernel
theorem d3_121 : decode prog_198_method_8_code 121 = .ok (.lload_n 3, 1) := by decide +kernel
theorem d3_122 : decode prog_198_method_8_code 122 = .ok (.ldc2_w 136, 3) := by decide +kernel
theorem d3_125 : decode prog_198_method_8_code 125 = .ok (.lcmp, 1) := by decide +kernel
theorem d3_126 : decode prog_198_method_8_code 126 = .ok (.ifCond .le 12, 3) := by decide +kernel
theorem d3_129 : decode prog_198_method_8_code 129 = .ok (.getstatic 124, 3) := by decide +kernel
theorem d3_132 : decode prog_198_method_8_code 132 = .ok (.bipush 6, 2) := by decide +kernel
theorem d3_134 : decode prog_198_method_8_code 134 = .ok (.aaload, 1) := by decide +kernel
theorem d3_135 : decode prog_198_method_8_code 135 = .ok (.goto 9, 3) := by decide +kernel
theorem d3_138 : decode prog_198_method_8_code 138 = .ok (.getstatic 124, 3) := by decide +kernel
theorem d3_141 : decode prog_198_method_8_code 141 = .ok (.bipush 7, 2) := by decide +kernel
theorem d3_143 : decode prog_198_method_8_code 143 = .ok (.aaload, 1) := by decide +kernel
theorem d3_144 : decode prog_198_method_8_code 144 = .ok (.areturn, 1) := by decide +kernel
theorem d3_145 : decode prog_198_method_8_code 145 = .ok (.lload_n 0, 1) := by decide +kernel
theorem d3_146 : decode prog_198_method_8_code 146 = .ok (.getstatic 130, 3) := by decide +kernel
theorem d3_149 : decode prog_198_method_8_code 149 = .ok (.iconst 1, 1) := by decide +kernel
theorem d3_150 : decode prog_198_method_8_code 150 = .ok (.laload, 1) := by decide +kernel
theorem d3_151 : decode prog_198_method_8_code 151 = .ok (.lcmp, 1) := by decide +kernel
theorem d3_152 : decode prog_198_method_8_code 152 = .ok (.ifCond .eq 23, 3) := by decide +kernel
theorem d3_155 : decode prog_198_method_8_code 155 = .ok (.lload_n 0, 1) := by decide +kernel
theorem d3_156 : decode prog_198_method_8_code 156 = .ok (.getstatic 130, 3) := by decide +kernel
theorem d3_159 : decode prog_198_method_8_code 159 = .ok (.iconst 2, 1) := by decide +kernel
theorem d3_160 : decode prog_198_method_8_code 160 = .ok (.laload, 1) := by decide +kernel
theorem d3_161 : decode prog_198_method_8_code 161 = .ok (.lcmp, 1) := by decide +kernel
theorem d3_162 : decode prog_198_method_8_code 162 = .ok (.ifCond .eq 13, 3) := by decide +kernel
theorem d3_165 : decode prog_198_method_8_code 165 = .ok (.lload_n 0, 1) := by decide +kernel
theorem d3_166 : decode prog_198_method_8_code 166 = .ok (.getstatic 130, 3) := by decide +kernel
theorem d3_169 : decode prog_198_method_8_code 169 = .ok (.iconst 3, 1) := by decide +kernel
theorem d3_170 : decode prog_198_method_8_code 170 = .ok (.laload, 1) := by decide +kernel
theorem d3_171 : decode prog_198_method_8_code 171 = .ok (.lcmp, 1) := by decide +kernel
theorem d3_172 : decode prog_198_method_8_code 172 = .ok (.ifCond .ne 25, 3) := by decide +kernel
theorem d3_175 : decode prog_198_method_8_code 175 = .ok (.iload_n 2, 1) := by decide +kernel
theorem d3_176 : decode prog_198_method_8_code 176 = .ok (.bipush 16, 2) := by decide +kernel
theorem d3_178 : decode prog_198_method_8_code 178 = .ok (.if_icmp .gt 12, 3) := by decide +kernel
theorem d3_181 : decode prog_198_method_8_code 181 = .ok (.getstatic 124, 3) := by decide +kernel
theorem d3_184 : decode prog_198_method_8_code 184 = .ok (.bipush 8, 2) := by decide +kernel
theorem d3_186 : decode prog_198_method_8_code 186 = .ok (.aaload, 1) := by decide +kernel
theorem d3_187 : decode prog_198_method_8_code 187 = .ok (.goto 9, 3) := by decide +kernel
theorem d3_190 : decode prog_198_method_8_code 190 = .ok (.getstatic 124, 3) := by decide +kernel
theorem d3_193 : decode prog_198_method_8_code 193 = .ok (.bipush 9, 2) := by decide +kernel
theorem d3_195 : decode prog_198_method_8_code 195 = .ok (.aaload, 1) := by decide +kernel
theorem d3_196 : decode prog_198_method_8_code 196 = .ok (.areturn, 1) := by decide +kernel
theorem d3_197 : decode prog_198_method_8_code 197 = .ok (.iload_n 2, 1) := by decide +kernel
theorem d3_198 : decode prog_198_method_8_code 198 = .ok (.bipush 32, 2) := by decide +kernel
theorem d3_200 : decode prog_198_method_8_code 200 = .ok (.if_icmp .gt 12, 3) := by decide +kernel
theorem d3_203 : decode prog_198_method_8_code 203 = .ok (.getstatic 124, 3) := by decide +kernel
theorem d3_206 : decode prog_198_method_8_code 206 = .ok (.bipush 10, 2) := by decide +kernel
theorem d3_208 : decode prog_198_method_8_code 208 = .ok (.aaload, 1) := by decide +kernel
theorem d3_209 : decode prog_198_method_8_code 209 = .ok (.goto 9, 3) := by decide +kernel
theorem d3_212 : decode prog_198_method_8_code 212 = .ok (.getstatic 124, 3) := by decide +kernel
theorem d3_215 : decode prog_198_method_8_code 215 = .ok (.bipush 11, 2) := by decide +kernel
theorem d3_217 : decode prog_198_method_8_code 217 = .ok (.aaload, 1) := by decide +kernel
theorem d3_218 : decode prog_198_method_8_code 218 = .ok (.areturn, 1) := by decide +kernel
theorem d4_0 : decode method_5_code 0 = .ok (.lload_n 0, 1) := by decide +kernel
theorem d4_1 : decode method_5_code 1 = .ok (.ldc2_w 44, 3) := by decide +kernel
theorem d4_4 : decode method_5_code 4 = .ok (.lcmp, 1) := by decide +kernel
theorem d4_5 : decode method_5_code 5 = .ok (.ifCond .ne 5, 3) := by decide +kernel
theorem d4_8 : decode method_5_code 8 = .ok (.iconst 0, 1) := by decide +kernel
theorem d4_9 : decode method_5_code 9 = .ok (.ireturn, 1) := by decide +kernel
theorem d4_10 : decode method_5_code 10 = .ok (.lload_n 0, 1) := by decide +kernel
theorem d4_11 : decode method_5_code 11 = .ok (.ldc2_w 46, 3) := by decide +kernel
theorem d4_14 : decode method_5_code 14 = .ok (.lcmp, 1) := by decide +kernel
theorem d4_15 : decode method_5_code 15 = .ok (.ifCond .gt 5, 3) := by decide +kernel
theorem d4_18 : decode method_5_code 18 = .ok (.iconst 1, 1) := by decide +kernel
theorem d4_19 : decode method_5_code 19 = .ok (.ireturn, 1) := by decide +kernel
theorem d4_20 : decode method_5_code 20 = .ok (.lload_n 0, 1) := by decide +kernel
theorem d4_21 : decode method_5_code 21 = .ok (.ldc2_w 48, 3) := by decide +kernel
theorem d4_24 : decode method_5_code 24 = .ok (.lcmp, 1) := by decide +kernel
theorem d4_25 : decode method_5_code 25 = .ok (.ifCond .ge 31, 3) := by decide +kernel
theorem d4_28 : decode method_5_code 28 = .ok (.iload_n 2, 1) := by decide +kernel
theorem d4_29 : decode method_5_code 29 = .ok (.iconst 1, 1) := by decide +kernel
theorem d4_30 : decode method_5_code 30 = .ok (.if_icmp .ne 5, 3) := by decide +kernel
theorem d4_33 : decode method_5_code 33 = .ok (.iconst 3, 1) := by decide +kernel
theorem d4_34 : decode method_5_code 34 = .ok (.ireturn, 1) := by decide +kernel
theorem d4_35 : decode method_5_code 35 = .ok (.iload_n 2, 1) := by decide +kernel
theorem d4_36 : decode method_5_code 36 = .ok (.iconst 5, 1) := by decide +kernel
theorem d4_37 : decode method_5_code 37 = .ok (.if_icmp .lt 9, 3) := by decide +kernel
theorem d4_40 : decode method_5_code 40 = .ok (.iload_n 2, 1) := by decide +kernel
theorem d4_41 : decode method_5_code 41 = .ok (.bipush 8, 2) := by decide +kernel
theorem d4_43 : decode method_5_code 43 = .ok (.if_icmp .le 9, 3) := by decide +kernel
theorem d4_46 : decode method_5_code 46 = .ok (.iload_n 2, 1) := by decide +kernel
theorem d4_47 : decode method_5_code 47 = .ok (.bipush 32, 2) := by decide +kernel
theorem d4_49 : decode method_5_code 49 = .ok (.if_icmp .le 5, 3) := by decide +kernel
theorem d4_52 : decode method_5_code 52 = .ok (.iconst 4, 1) := by decide +kernel
theorem d4_53 : decode method_5_code 53 = .ok (.ireturn, 1) := by decide +kernel
theorem d4_54 : decode method_5_code 54 = .ok (.iconst 2, 1) := by decide +kernel
theorem d4_55 : decode method_5_code 55 = .ok (.ireturn, 1) := by decide +kernel
theorem d4_56 : decode method_5_code 56 = .ok (.lload_n 0, 1) := by decide +kernel
theorem d4_57 : decode method_5_code 57 = .ok (.ldc2_w 48, 3) := by decide +kernel
theorem d4_60 : decode method_5_code 60 = .ok (.lcmp, 1) := by decide +kernel
theorem d4_61 : decode method_5_code 61 = .ok (.ifCond .ne 47, 3) := by decide +kernel
theorem d4_64 : decode method_5_code 64 = .ok (.iload_n 2, 1) := by decide +kernel
theorem d4_65 : decode method_5_code 65 = .ok (.iconst 2, 1) := by decide +kernel
theorem d4_66 : decode method_5_code 66 = .ok (.if_icmp .gt 5, 3) := by decide +kernel
theorem d4_69 : decode method_5_code 69 = .ok (.iconst 5, 1) := by decide +kernel
theorem d4_70 : decode method_5_code 70 = .ok (.ireturn, 1) := by decide +kernel
theorem d4_71 : decode method_5_code 71 = .ok (.iload_n 2, 1) := by decide +kernel
theorem d4_72 : decode method_5_code 72 = .ok (.bipush 8, 2) := by decide +kernel
theorem d4_74 : decode method_5_code 74 = .ok (.if_icmp .gt 18, 3) := by decide +kernel
theorem d4_77 : decode method_5_code 77 = .ok (.lload_n 3, 1) := by decide +kernel
theorem d4_78 : decode method_5_code 78 = .ok (.ldc2_w 58, 3) := by decide +kernel
theorem d4_81 : decode method_5_code 81 = .ok (.lcmp, 1) := by decide +kernel
theorem d4_82 : decode method_5_code 82 = .ok (.ifCond .ge 7, 3) := by decide +kernel
theorem d4_85 : decode method_5_code 85 = .ok (.iconst 5, 1) := by decide +kernel
theorem d4_86 : decode method_5_code 86 = .ok (.goto 5, 3) := by decide +kernel
theorem d4_89 : decode method_5_code 89 = .ok (.bipush 7, 2) := by decide +kernel
theorem d4_91 : decode method_5_code 91 = .ok (.ireturn, 1) := by decide +kernel
theorem d4_92 : decode method_5_code 92 = .ok (.lload_n 3, 1) := by decide +kernel
theorem d4_93 : decode method_5_code 93 = .ok (.ldc2_w 60, 3) := by decide +kernel
theorem d4_96 : decode method_5_code 96 = .ok (.lcmp, 1) := by decide +kernel
theorem d4_97 : decode method_5_code 97 = .ok (.ifCond .le 8, 3) := by decide +kernel
theorem d4_100 : decode method_5_code 100 = .ok (.bipush 6, 2) := by decide +kernel
theorem d4_102 : decode method_5_code 102 = .ok (.goto 5, 3) := by decide +kernel
theorem d4_105 : decode method_5_code 105 = .ok (.bipush 7, 2) := by decide +kernel
theorem d4_107 : decode method_5_code 107 = .ok (.ireturn, 1) := by decide +kernel
theorem d4_108 : decode method_5_code 108 = .ok (.lload_n 0, 1) := by decide +kernel
theorem d4_109 : decode method_5_code 109 = .ok (.ldc2_w 50, 3) := by decide +kernel
theorem d4_112 : decode method_5_code 112 = .ok (.lcmp, 1) := by decide +kernel
theorem d4_113 : decode method_5_code 113 = .ok (.ifCond .eq 19, 3) := by decide +kernel
theorem d4_116 : decode method_5_code 116 = .ok (.lload_n 0, 1) := by decide +kernel
theorem d4_117 : decode method_5_code 117 = .ok (.ldc2_w 52, 3) := by decide +kernel
theorem d4_120 : decode method_5_code 120 = .ok (.lcmp, 1) := by decide +kernel
theorem d4_121 : decode method_5_code 121 = .ok (.ifCond .eq 11, 3) := by decide +kernel
theorem d4_124 : decode method_5_code 124 = .ok (.lload_n 0, 1) := by decide +kernel
theorem d4_125 : decode method_5_code 125 = .ok (.ldc2_w 54, 3) := by decide +kernel
theorem d4_128 : decode method_5_code 128 = .ok (.lcmp, 1) := by decide +kernel
theorem d4_129 : decode method_5_code 129 = .ok (.ifCond .ne 17, 3) := by decide +kernel
theorem d4_132 : decode method_5_code 132 = .ok (.iload_n 2, 1) := by decide +kernel
theorem d4_133 : decode method_5_code 133 = .ok (.bipush 16, 2) := by decide +kernel
theorem d4_135 : decode method_5_code 135 = .ok (.if_icmp .gt 8, 3) := by decide +kernel
theorem d4_138 : decode method_5_code 138 = .ok (.bipush 8, 2) := by decide +kernel
theorem d4_140 : decode method_5_code 140 = .ok (.goto 5, 3) := by decide +kernel
theorem d4_143 : decode method_5_code 143 = .ok (.bipush 9, 2) := by decide +kernel
theorem d4_145 : decode method_5_code 145 = .ok (.ireturn, 1) := by decide +kernel
theorem d4_146 : decode method_5_code 146 = .ok (.iload_n 2, 1) := by decide +kernel
theorem d4_147 : decode method_5_code 147 = .ok (.bipush 32, 2) := by decide +kernel
theorem d4_149 : decode method_5_code 149 = .ok (.if_icmp .gt 8, 3) := by decide +kernel
theorem d4_152 : decode method_5_code 152 = .ok (.bipush 10, 2) := by decide +kernel
theorem d4_154 : decode method_5_code 154 = .ok (.goto 5, 3) := by decide +kernel
theorem d4_157 : decode method_5_code 157 = .ok (.bipush 11, 2) := by decide +kernel
theorem d4_159 : decode method_5_code 159 = .ok (.ireturn, 1) := by decide +kernel
theorem d5_0 : decode prog_199_method_9_code 0 = .ok (.aload_n 0, 1) := by decide +kernel
theorem d5_1 : decode prog_199_method_9_code 1 = .ok (.getfield 7, 3) := by decide +kernel
theorem d5_4 : decode prog_199_method_9_code 4 = .ok (.ireturn, 1) := by decide +kernel
theorem d6_0 : decode method_6_code 0 = .ok (.iload_n 0, 1) := by decide +kernel
theorem d6_1 : decode method_6_code 1 = .ok (.ifCond .ne 7, 3) := by decide +kernel
theorem d6_4 : decode method_6_code 4 = .ok (.sipush 294, 3) := by decide +kernel
theorem d6_7 : decode method_6_code 7 = .ok (.ireturn, 1) := by decide +kernel
theorem d6_8 : decode method_6_code 8 = .ok (.iload_n 0, 1) := by decide +kernel
theorem d6_9 : decode method_6_code 9 = .ok (.iconst 1, 1) := by decide +kernel
theorem d6_10 : decode method_6_code 10 = .ok (.if_icmp .ne 6, 3) := by decide +kernel
theorem d6_13 : decode method_6_code 13 = .ok (.bipush 80, 2) := by decide +kernel
theorem d6_15 : decode method_6_code 15 = .ok (.ireturn, 1) := by decide +kernel
theorem d6_16 : decode method_6_code 16 = .ok (.iload_n 0, 1) := by decide +kernel
theorem d6_17 : decode method_6_code 17 = .ok (.iconst 2, 1) := by decide +kernel
theorem d6_18 : decode method_6_code 18 = .ok (.if_icmp .ne 6, 3) := by decide +kernel
theorem d6_21 : decode method_6_code 21 = .ok (.bipush 53, 2) := by decide +kernel
theorem d6_23 : decode method_6_code 23 = .ok (.ireturn, 1) := by decide +kernel
theorem d6_24 : decode method_6_code 24 = .ok (.iload_n 0, 1) := by decide +kernel
theorem d6_25 : decode method_6_code 25 = .ok (.iconst 3, 1) := by decide +kernel
theorem d6_26 : decode method_6_code 26 = .ok (.if_icmp .ne 6, 3) := by decide +kernel
theorem d6_29 : decode method_6_code 29 = .ok (.bipush 97, 2) := by decide +kernel
theorem d6_31 : decode method_6_code 31 = .ok (.ireturn, 1) := by decide +kernel
theorem d6_32 : decode method_6_code 32 = .ok (.iload_n 0, 1) := by decide +kernel
theorem d6_33 : decode method_6_code 33 = .ok (.iconst 4, 1) := by decide +kernel
theorem d6_34 : decode method_6_code 34 = .ok (.if_icmp .ne 6, 3) := by decide +kernel
theorem d6_37 : decode method_6_code 37 = .ok (.bipush 80, 2) := by decide +kernel
theorem d6_39 : decode method_6_code 39 = .ok (.ireturn, 1) := by decide +kernel
theorem d6_40 : decode method_6_code 40 = .ok (.iload_n 0, 1) := by decide +kernel
theorem d6_41 : decode method_6_code 41 = .ok (.iconst 5, 1) := by decide +kernel
theorem d6_42 : decode method_6_code 42 = .ok (.if_icmp .ne 6, 3) := by decide +kernel
theorem d6_45 : decode method_6_code 45 = .ok (.bipush 29, 2) := by decide +kernel
theorem d6_47 : decode method_6_code 47 = .ok (.ireturn, 1) := by decide +kernel
theorem d6_48 : decode method_6_code 48 = .ok (.iload_n 0, 1) := by decide +kernel
theorem d6_49 : decode method_6_code 49 = .ok (.bipush 6, 2) := by decide +kernel
theorem d6_51 : decode method_6_code 51 = .ok (.if_icmp .ne 6, 3) := by decide +kernel
theorem d6_54 : decode method_6_code 54 = .ok (.bipush 17, 2) := by decide +kernel
theorem d6_56 : decode method_6_code 56 = .ok (.ireturn, 1) := by decide +kernel
theorem d6_57 : decode method_6_code 57 = .ok (.iload_n 0, 1) := by decide +kernel
theorem d6_58 : decode method_6_code 58 = .ok (.bipush 7, 2) := by decide +kernel
theorem d6_60 : decode method_6_code 60 = .ok (.if_icmp .ne 6, 3) := by decide +kernel
theorem d6_63 : decode method_6_code 63 = .ok (.bipush 44, 2) := by decide +kernel
theorem d6_65 : decode method_6_code 65 = .ok (.ireturn, 1) := by decide +kernel
theorem d6_66 : decode method_6_code 66 = .ok (.iload_n 0, 1) := by decide +kernel
theorem d6_67 : decode method_6_code 67 = .ok (.bipush 8, 2) := by decide +kernel
theorem d6_69 : decode method_6_code 69 = .ok (.if_icmp .ne 6, 3) := by decide +kernel
theorem d6_72 : decode method_6_code 72 = .ok (.bipush 42, 2) := by decide +kernel
theorem d6_74 : decode method_6_code 74 = .ok (.ireturn, 1) := by decide +kernel
theorem d6_75 : decode method_6_code 75 = .ok (.iload_n 0, 1) := by decide +kernel
theorem d6_76 : decode method_6_code 76 = .ok (.bipush 9, 2) := by decide +kernel
theorem d6_78 : decode method_6_code 78 = .ok (.if_icmp .ne 6, 3) := by decide +kernel
theorem d6_81 : decode method_6_code 81 = .ok (.bipush 87, 2) := by decide +kernel
theorem d6_83 : decode method_6_code 83 = .ok (.ireturn, 1) := by decide +kernel
theorem d6_84 : decode method_6_code 84 = .ok (.iload_n 0, 1) := by decide +kernel
theorem d6_85 : decode method_6_code 85 = .ok (.bipush 10, 2) := by decide +kernel
theorem d6_87 : decode method_6_code 87 = .ok (.if_icmp .ne 6, 3) := by decide +kernel
theorem d6_90 : decode method_6_code 90 = .ok (.bipush 84, 2) := by decide +kernel
theorem d6_92 : decode method_6_code 92 = .ok (.ireturn, 1) := by decide +kernel
theorem d6_93 : decode method_6_code 93 = .ok (.bipush 105, 2) := by decide +kernel
theorem d6_95 : decode method_6_code 95 = .ok (.ireturn, 1) := by decide +kernel
theorem d7_0 : decode prog_199_method_12_code 0 = .ok (.aload_n 0, 1) := by decide +kernel
theorem d7_1 : decode prog_199_method_12_code 1 = .ok (.getfield 20, 3) := by decide +kernel
theorem d7_4 : decode prog_199_method_12_code 4 = .ok (.dreturn, 1) := by decide +kernel
set_option maxRecDepth 65536 in
set_option maxHeartbeats 40000000 in
theorem rm1 (l : Launch) (Z : State) (a0 : Array Value) (hw : ∀ d ∈ tables_1, d.before a0 Z = true) (ws : List Jvm.Cond) (p1 : Int32) (q2 : Int64) (h0 : Heap) (n0 : Nat) (Z0 : n0 ≤ h0.size)  :
    MetFree l (⟨"com/example/jobwright/jobwright/workload/O2kJobsRatioPinLaw", "pickRequest", "(IJ)J"⟩ : MethodName) (head1 (Jvm.Cond.code (⟨"com/example/jobwright/jobwright/workload/O2kJobsRatioPinLaw", "pickRequest", "(IJ)J"⟩ : MethodName) method_3_code 5 (some .long) :: ws) ({ frames := 0, cells := 0, slots := 0, locals := 0 } : Room)) (fun a U => a = #[(.int p1), (.long q2)] ∧ Z.Warmed39 U.vm ∧ U.heap = h0) (fun _ _ _ _ _ => True) (fun _ U o U' => ∃ v L, o = .returned v ∧ own_Q (fun v h L => (∃ z : Int64, v = some (.long z) ∧ Fr n0 L ∧ h = h0)) v U'.heap L ∧ FrameEnd U o U' L ({ frames := 0, cells := 0, slots := 0, locals := 0 } : Room).cells ({ frames := 0, cells := 0, slots := 0, locals := 0 } : Room).slots) := by
  refine MetFree.of_bodySF (plainFor_of_name own_pn0) hisR ?_
  intro p e s m args below meth c s₁ Bd hml0 hP hK
  obtain ⟨rfl, hZ, hh⟩ := hP
  have hx := Bd.exec
  have hby := Bd.bytes
  have hml : c.maxLocals = 5 := hml0
  have hown : s.vm.findClass "com/example/jobwright/jobwright/workload/O2kJobsRatioPinLaw" = some m.cls := findClass_of_methodNamed Bd.named
  have hnm := (name_of_methodNamed Bd.named Bd.method).1
  have X0 : Stand p l e ({ frames := 0, cells := 0, slots := 0, locals := 0 } : Room) s m #[(.int p1), (.long q2)] below meth c s₁ [] 0 0 := Stand.of_body Bd
  have e0 : s₁.heap = h0 := by rw [← hh, Bd.state]; rfl
  have N0 := Fr.nil n0
  have ef : entryFrame m #[(.int p1), (.long q2)] 5 = mkF m 0 #[.val (.int p1), .val (.long q2), .second, .unset, .unset] [] := by first | (simp [entryFrame, mkF, argsToLocals, Value.category]; done) | rfl
  have pre0 : ∀ t, Steps p.tables e below (s₁.setTop (mkF m 0 #[.val (.int p1), .val (.long q2), .second, .unset, .unset] [])) t → Steps p.tables e below (s₁.setTop (entryFrame m #[(.int p1), (.long q2)] 5)) t := fun t k => castTop ef k
  have pre1 : ∀ t, Steps p.tables e below (s₁.setTop (mkF m 9 #[.val (.int p1), .val (.long q2), .second, .val (.long ((q2 &&& (3 : Int64)) - (1 : Int64))), .second] [(.int p1)])) t → Steps p.tables e below (s₁.setTop (entryFrame m #[(.int p1), (.long q2)] 5)) t := by
    intro t k
    refine pre0 _ ?_
    refine XS.lloadN X0.here hx rfl (hb hby d1_0) rfl ?_
    show Steps p.tables e below (s₁.setTop (mkF m 1 #[.val (.int p1), .val (.long q2), .second, .unset, .unset] [(.long q2)])) _
    refine X0.ldc2Long hx hown (mvT hZ (hw _ (List.mem_of_getElem? (i := 4) rfl))) (g := (mkF m 1 #[.val (.int p1), .val (.long q2), .second, .unset, .unset] [(.long q2)])) rfl (hb hby d1_1) _ ?_
    show Steps p.tables e below (s₁.setTop (mkF m 4 #[.val (.int p1), .val (.long q2), .second, .unset, .unset] [(.long (3 : Int64)), (.long q2)])) _
    refine XS.land X0.here hx rfl (hb hby d1_4) rfl ?_
    show Steps p.tables e below (s₁.setTop (mkF m 5 #[.val (.int p1), .val (.long q2), .second, .unset, .unset] [(.long (q2 &&& (3 : Int64)))])) _
    refine XS.lconst X0.here hx rfl (hb hby d1_5) ?_
    show Steps p.tables e below (s₁.setTop (mkF m 6 #[.val (.int p1), .val (.long q2), .second, .unset, .unset] [(.long (1 : Int64)), (.long (q2 &&& (3 : Int64)))])) _
    refine XS.lsub X0.here hx rfl (hb hby d1_6) rfl ?_
    show Steps p.tables e below (s₁.setTop (mkF m 7 #[.val (.int p1), .val (.long q2), .second, .unset, .unset] [(.long ((q2 &&& (3 : Int64)) - (1 : Int64)))])) _
    refine XS.lstoreN X0.here hx rfl (hb hby d1_7) rfl (l' := #[.val (.int p1), .val (.long q2), .second, .val (.long ((q2 &&& (3 : Int64)) - (1 : Int64))), .second]) rfl ?_
    show Steps p.tables e below (s₁.setTop (mkF m 8 #[.val (.int p1), .val (.long q2), .second, .val (.long ((q2 &&& (3 : Int64)) - (1 : Int64))), .second] [])) _
    refine XS.iloadN X0.here hx rfl (hb hby d1_8) rfl ?_
    show Steps p.tables e below (s₁.setTop (mkF m 9 #[.val (.int p1), .val (.long q2), .second, .val (.long ((q2 &&& (3 : Int64)) - (1 : Int64))), .second] [(.int p1)])) _
    exact k
  by_cases c0 : p1 = (0 : Int32)
  · have pre2 : ∀ t, Steps p.tables e below (s₁.setTop (mkF m 17 #[.val (.int p1), .val (.long q2), .second, .val (.long ((q2 &&& (3 : Int64)) - (1 : Int64))), .second] [(.long ((60 : Int64) + ((q2 &&& (3 : Int64)) - (1 : Int64))))])) t → Steps p.tables e below (s₁.setTop (entryFrame m #[(.int p1), (.long q2)] 5)) t := by
      intro t k
      refine pre1 _ ?_
      refine XS.ifNo X0.here hx rfl (hb hby d1_9) rfl ((if0 _ _).trans (teq c0).2) ?_
      show Steps p.tables e below (s₁.setTop (mkF m 12 #[.val (.int p1), .val (.long q2), .second, .val (.long ((q2 &&& (3 : Int64)) - (1 : Int64))), .second] [])) _
      refine X0.ldc2Long hx hown (mvT hZ (hw _ (List.mem_of_getElem? (i := 5) rfl))) (g := (mkF m 12 #[.val (.int p1), .val (.long q2), .second, .val (.long ((q2 &&& (3 : Int64)) - (1 : Int64))), .second] [])) rfl (hb hby d1_12) _ ?_
      show Steps p.tables e below (s₁.setTop (mkF m 15 #[.val (.int p1), .val (.long q2), .second, .val (.long ((q2 &&& (3 : Int64)) - (1 : Int64))), .second] [(.long (60 : Int64))])) _
      refine XS.lloadN X0.here hx rfl (hb hby d1_15) rfl ?_
      show Steps p.tables e below (s₁.setTop (mkF m 16 #[.val (.int p1), .val (.long q2), .second, .val (.long ((q2 &&& (3 : Int64)) - (1 : Int64))), .second] [(.long ((q2 &&& (3 : Int64)) - (1 : Int64))), (.long (60 : Int64))])) _
      refine XS.ladd X0.here hx rfl (hb hby d1_16) rfl ?_
      show Steps p.tables e below (s₁.setTop (mkF m 17 #[.val (.int p1), .val (.long q2), .second, .val (.long ((q2 &&& (3 : Int64)) - (1 : Int64))), .second] [(.long ((60 : Int64) + ((q2 &&& (3 : Int64)) - (1 : Int64))))])) _
      exact k
    obtain ⟨fs, hr, hrun, hended, hW, hsame⟩ := X0.leave (v := some (.long ((60 : Int64) + ((q2 &&& (3 : Int64)) - (1 : Int64))))) (fun h => by rw [Bd.returns] at h; cases h)
    refine ⟨_, _, pre2 _ ?_, hrun, hended, _, _, rfl, ?_, ⟨_, rfl⟩, hW, hsame.mono (by decide) (by decide)⟩
    · exact retOut X0 hx Bd.returns rfl (Or.inr (Or.inl ⟨rfl, rfl, _, rfl⟩)) (hb hby d1_17) hr
    · show (∃ z : Int64, (_ : Option Value) = some (.long z) ∧ Fr n0 _ ∧ s₁.heap = h0)
      rw [e0]
      exact ⟨_, rfl, N0, rfl⟩
  · have pre3 : ∀ t, Steps p.tables e below (s₁.setTop (mkF m 20 #[.val (.int p1), .val (.long q2), .second, .val (.long ((q2 &&& (3 : Int64)) - (1 : Int64))), .second] [(.int (1 : Int32)), (.int p1)])) t → Steps p.tables e below (s₁.setTop (entryFrame m #[(.int p1), (.long q2)] 5)) t := by
      intro t k
      refine pre1 _ ?_
      refine XS.ifYes X0.here hx rfl (pc0 := 9) (pc' := 18) rfl (hb hby d1_9) rfl ((if0 _ _).trans (feq c0).2) (by decide) (by decide) ?_
      show Steps p.tables e below (s₁.setTop (mkF m 18 #[.val (.int p1), .val (.long q2), .second, .val (.long ((q2 &&& (3 : Int64)) - (1 : Int64))), .second] [])) _
      refine XS.iloadN X0.here hx rfl (hb hby d1_18) rfl ?_
      show Steps p.tables e below (s₁.setTop (mkF m 19 #[.val (.int p1), .val (.long q2), .second, .val (.long ((q2 &&& (3 : Int64)) - (1 : Int64))), .second] [(.int p1)])) _
      refine XS.iconst X0.here hx rfl (hb hby d1_19) ?_
      show Steps p.tables e below (s₁.setTop (mkF m 20 #[.val (.int p1), .val (.long q2), .second, .val (.long ((q2 &&& (3 : Int64)) - (1 : Int64))), .second] [(.int (1 : Int32)), (.int p1)])) _
      exact k
    by_cases c1 : p1 = (1 : Int32)
    · have pre4 : ∀ t, Steps p.tables e below (s₁.setTop (mkF m 28 #[.val (.int p1), .val (.long q2), .second, .val (.long ((q2 &&& (3 : Int64)) - (1 : Int64))), .second] [(.long ((600 : Int64) + ((q2 &&& (3 : Int64)) - (1 : Int64))))])) t → Steps p.tables e below (s₁.setTop (entryFrame m #[(.int p1), (.long q2)] 5)) t := by
        intro t k
        refine pre3 _ ?_
        refine XS.icmpNo X0.here hx rfl (hb hby d1_20) rfl (teq c1).2 ?_
        show Steps p.tables e below (s₁.setTop (mkF m 23 #[.val (.int p1), .val (.long q2), .second, .val (.long ((q2 &&& (3 : Int64)) - (1 : Int64))), .second] [])) _
        refine X0.ldc2Long hx hown (mvT hZ (hw _ (List.mem_of_getElem? (i := 20) rfl))) (g := (mkF m 23 #[.val (.int p1), .val (.long q2), .second, .val (.long ((q2 &&& (3 : Int64)) - (1 : Int64))), .second] [])) rfl (hb hby d1_23) _ ?_
        show Steps p.tables e below (s₁.setTop (mkF m 26 #[.val (.int p1), .val (.long q2), .second, .val (.long ((q2 &&& (3 : Int64)) - (1 : Int64))), .second] [(.long (600 : Int64))])) _
        refine XS.lloadN X0.here hx rfl (hb hby d1_26) rfl ?_
        show Steps p.tables e below (s₁.setTop (mkF m 27 #[.val (.int p1), .val (.long q2), .second, .val (.long ((q2 &&& (3 : Int64)) - (1 : Int64))), .second] [(.long ((q2 &&& (3 : Int64)) - (1 : Int64))), (.long (600 : Int64))])) _
        refine XS.ladd X0.here hx rfl (hb hby d1_27) rfl ?_
        show Steps p.tables e below (s₁.setTop (mkF m 28 #[.val (.int p1), .val (.long q2), .second, .val (.long ((q2 &&& (3 : Int64)) - (1 : Int64))), .second] [(.long ((600 : Int64) + ((q2 &&& (3 : Int64)) - (1 : Int64))))])) _
        exact k
      obtain ⟨fs, hr, hrun, hended, hW, hsame⟩ := X0.leave (v := some (.long ((600 : Int64) + ((q2 &&& (3 : Int64)) - (1 : Int64))))) (fun h => by rw [Bd.returns] at h; cases h)
      refine ⟨_, _, pre4 _ ?_, hrun, hended, _, _, rfl, ?_, ⟨_, rfl⟩, hW, hsame.mono (by decide) (by decide)⟩
      · exact retOut X0 hx Bd.returns rfl (Or.inr (Or.inl ⟨rfl, rfl, _, rfl⟩)) (hb hby d1_28) hr
      · show (∃ z : Int64, (_ : Option Value) = some (.long z) ∧ Fr n0 _ ∧ s₁.heap = h0)
        rw [e0]
        exact ⟨_, rfl, N0, rfl⟩
    · have pre5 : ∀ t, Steps p.tables e below (s₁.setTop (mkF m 31 #[.val (.int p1), .val (.long q2), .second, .val (.long ((q2 &&& (3 : Int64)) - (1 : Int64))), .second] [(.int (2 : Int32)), (.int p1)])) t → Steps p.tables e below (s₁.setTop (entryFrame m #[(.int p1), (.long q2)] 5)) t := by
        intro t k
        refine pre3 _ ?_
        refine XS.icmpYes X0.here hx rfl (pc0 := 20) (pc' := 29) rfl (hb hby d1_20) rfl (feq c1).2 (by decide) (by decide) ?_
        show Steps p.tables e below (s₁.setTop (mkF m 29 #[.val (.int p1), .val (.long q2), .second, .val (.long ((q2 &&& (3 : Int64)) - (1 : Int64))), .second] [])) _
        refine XS.iloadN X0.here hx rfl (hb hby d1_29) rfl ?_
        show Steps p.tables e below (s₁.setTop (mkF m 30 #[.val (.int p1), .val (.long q2), .second, .val (.long ((q2 &&& (3 : Int64)) - (1 : Int64))), .second] [(.int p1)])) _
        refine XS.iconst X0.here hx rfl (hb hby d1_30) ?_
        show Steps p.tables e below (s₁.setTop (mkF m 31 #[.val (.int p1), .val (.long q2), .second, .val (.long ((q2 &&& (3 : Int64)) - (1 : Int64))), .second] [(.int (2 : Int32)), (.int p1)])) _
        exact k
      by_cases c2 : p1 = (2 : Int32)
      · have pre6 : ∀ t, Steps p.tables e below (s₁.setTop (mkF m 39 #[.val (.int p1), .val (.long q2), .second, .val (.long ((q2 &&& (3 : Int64)) - (1 : Int64))), .second] [(.long ((18000 : Int64) + ((q2 &&& (3 : Int64)) - (1 : Int64))))])) t → Steps p.tables e below (s₁.setTop (entryFrame m #[(.int p1), (.long q2)] 5)) t := by
          intro t k
          refine pre5 _ ?_
          refine XS.icmpNo X0.here hx rfl (hb hby d1_31) rfl (teq c2).2 ?_
          show Steps p.tables e below (s₁.setTop (mkF m 34 #[.val (.int p1), .val (.long q2), .second, .val (.long ((q2 &&& (3 : Int64)) - (1 : Int64))), .second] [])) _
          refine X0.ldc2Long hx hown (mvT hZ (hw _ (List.mem_of_getElem? (i := 44) rfl))) (g := (mkF m 34 #[.val (.int p1), .val (.long q2), .second, .val (.long ((q2 &&& (3 : Int64)) - (1 : Int64))), .second] [])) rfl (hb hby d1_34) _ ?_
          show Steps p.tables e below (s₁.setTop (mkF m 37 #[.val (.int p1), .val (.long q2), .second, .val (.long ((q2 &&& (3 : Int64)) - (1 : Int64))), .second] [(.long (18000 : Int64))])) _
          refine XS.lloadN X0.here hx rfl (hb hby d1_37) rfl ?_
          show Steps p.tables e below (s₁.setTop (mkF m 38 #[.val (.int p1), .val (.long q2), .second, .val (.long ((q2 &&& (3 : Int64)) - (1 : Int64))), .second] [(.long ((q2 &&& (3 : Int64)) - (1 : Int64))), (.long (18000 : Int64))])) _
          refine XS.ladd X0.here hx rfl (hb hby d1_38) rfl ?_
          show Steps p.tables e below (s₁.setTop (mkF m 39 #[.val (.int p1), .val (.long q2), .second, .val (.long ((q2 &&& (3 : Int64)) - (1 : Int64))), .second] [(.long ((18000 : Int64) + ((q2 &&& (3 : Int64)) - (1 : Int64))))])) _
          exact k
        obtain ⟨fs, hr, hrun, hended, hW, hsame⟩ := X0.leave (v := some (.long ((18000 : Int64) + ((q2 &&& (3 : Int64)) - (1 : Int64))))) (fun h => by rw [Bd.returns] at h; cases h)
        refine ⟨_, _, pre6 _ ?_, hrun, hended, _, _, rfl, ?_, ⟨_, rfl⟩, hW, hsame.mono (by decide) (by decide)⟩
        · exact retOut X0 hx Bd.returns rfl (Or.inr (Or.inl ⟨rfl, rfl, _, rfl⟩)) (hb hby d1_39) hr
        · show (∃ z : Int64, (_ : Option Value) = some (.long z) ∧ Fr n0 _ ∧ s₁.heap = h0)
          rw [e0]
          exact ⟨_, rfl, N0, rfl⟩
      · have pre7 : ∀ t, Steps p.tables e below (s₁.setTop (mkF m 42 #[.val (.int p1), .val (.long q2), .second, .val (.long ((q2 &&& (3 : Int64)) - (1 : Int64))), .second] [(.int (3 : Int32)), (.int p1)])) t → Steps p.tables e below (s₁.setTop (entryFrame m #[(.int p1), (.long q2)] 5)) t := by
          intro t k
          refine pre5 _ ?_
          refine XS.icmpYes X0.here hx rfl (pc0 := 31) (pc' := 40) rfl (hb hby d1_31) rfl (feq c2).2 (by decide) (by decide) ?_
          show Steps p.tables e below (s₁.setTop (mkF m 40 #[.val (.int p1), .val (.long q2), .second, .val (.long ((q2 &&& (3 : Int64)) - (1 : Int64))), .second] [])) _
          refine XS.iloadN X0.here hx rfl (hb hby d1_40) rfl ?_
          show Steps p.tables e below (s₁.setTop (mkF m 41 #[.val (.int p1), .val (.long q2), .second, .val (.long ((q2 &&& (3 : Int64)) - (1 : Int64))), .second] [(.int p1)])) _
          refine XS.iconst X0.here hx rfl (hb hby d1_41) ?_
          show Steps p.tables e below (s₁.setTop (mkF m 42 #[.val (.int p1), .val (.long q2), .second, .val (.long ((q2 &&& (3 : Int64)) - (1 : Int64))), .second] [(.int (3 : Int32)), (.int p1)])) _
          exact k
        by_cases c3 : p1 = (3 : Int32)
        · have pre8 : ∀ t, Steps p.tables e below (s₁.setTop (mkF m 50 #[.val (.int p1), .val (.long q2), .second, .val (.long ((q2 &&& (3 : Int64)) - (1 : Int64))), .second] [(.long ((180000 : Int64) + ((q2 &&& (3 : Int64)) - (1 : Int64))))])) t → Steps p.tables e below (s₁.setTop (entryFrame m #[(.int p1), (.long q2)] 5)) t := by
            intro t k
            refine pre7 _ ?_
            refine XS.icmpNo X0.here hx rfl (hb hby d1_42) rfl (teq c3).2 ?_
            show Steps p.tables e below (s₁.setTop (mkF m 45 #[.val (.int p1), .val (.long q2), .second, .val (.long ((q2 &&& (3 : Int64)) - (1 : Int64))), .second] [])) _
            refine X0.ldc2Long hx hown (mvT hZ (hw _ (List.mem_of_getElem? (i := 45) rfl))) (g := (mkF m 45 #[.val (.int p1), .val (.long q2), .second, .val (.long ((q2 &&& (3 : Int64)) - (1 : Int64))), .second] [])) rfl (hb hby d1_45) _ ?_
            show Steps p.tables e below (s₁.setTop (mkF m 48 #[.val (.int p1), .val (.long q2), .second, .val (.long ((q2 &&& (3 : Int64)) - (1 : Int64))), .second] [(.long (180000 : Int64))])) _
            refine XS.lloadN X0.here hx rfl (hb hby d1_48) rfl ?_
            show Steps p.tables e below (s₁.setTop (mkF m 49 #[.val (.int p1), .val (.long q2), .second, .val (.long ((q2 &&& (3 : Int64)) - (1 : Int64))), .second] [(.long ((q2 &&& (3 : Int64)) - (1 : Int64))), (.long (180000 : Int64))])) _
            refine XS.ladd X0.here hx rfl (hb hby d1_49) rfl ?_
            show Steps p.tables e below (s₁.setTop (mkF m 50 #[.val (.int p1), .val (.long q2), .second, .val (.long ((q2 &&& (3 : Int64)) - (1 : Int64))), .second] [(.long ((180000 : Int64) + ((q2 &&& (3 : Int64)) - (1 : Int64))))])) _
            exact k
          obtain ⟨fs, hr, hrun, hended, hW, hsame⟩ := X0.leave (v := some (.long ((180000 : Int64) + ((q2 &&& (3 : Int64)) - (1 : Int64))))) (fun h => by rw [Bd.returns] at h; cases h)
          refine ⟨_, _, pre8 _ ?_, hrun, hended, _, _, rfl, ?_, ⟨_, rfl⟩, hW, hsame.mono (by decide) (by decide)⟩
          · exact retOut X0 hx Bd.returns rfl (Or.inr (Or.inl ⟨rfl, rfl, _, rfl⟩)) (hb hby d1_50) hr
          · show (∃ z : Int64, (_ : Option Value) = some (.long z) ∧ Fr n0 _ ∧ s₁.heap = h0)
            rw [e0]
            exact ⟨_, rfl, N0, rfl⟩
        · have pre9 : ∀ t, Steps p.tables e below (s₁.setTop (mkF m 53 #[.val (.int p1), .val (.long q2), .second, .val (.long ((q2 &&& (3 : Int64)) - (1 : Int64))), .second] [(.int (4 : Int32)), (.int p1)])) t → Steps p.tables e below (s₁.setTop (entryFrame m #[(.int p1), (.long q2)] 5)) t := by
            intro t k
            refine pre7 _ ?_
            refine XS.icmpYes X0.here hx rfl (pc0 := 42) (pc' := 51) rfl (hb hby d1_42) rfl (feq c3).2 (by decide) (by decide) ?_
            show Steps p.tables e below (s₁.setTop (mkF m 51 #[.val (.int p1), .val (.long q2), .second, .val (.long ((q2 &&& (3 : Int64)) - (1 : Int64))), .second] [])) _
            refine XS.iloadN X0.here hx rfl (hb hby d1_51) rfl ?_
            show Steps p.tables e below (s₁.setTop (mkF m 52 #[.val (.int p1), .val (.long q2), .second, .val (.long ((q2 &&& (3 : Int64)) - (1 : Int64))), .second] [(.int p1)])) _
            refine XS.iconst X0.here hx rfl (hb hby d1_52) ?_
            show Steps p.tables e below (s₁.setTop (mkF m 53 #[.val (.int p1), .val (.long q2), .second, .val (.long ((q2 &&& (3 : Int64)) - (1 : Int64))), .second] [(.int (4 : Int32)), (.int p1)])) _
            exact k
          by_cases c4 : p1 = (4 : Int32)
          · have pre10 : ∀ t, Steps p.tables e below (s₁.setTop (mkF m 61 #[.val (.int p1), .val (.long q2), .second, .val (.long ((q2 &&& (3 : Int64)) - (1 : Int64))), .second] [(.long ((720000 : Int64) + ((q2 &&& (3 : Int64)) - (1 : Int64))))])) t → Steps p.tables e below (s₁.setTop (entryFrame m #[(.int p1), (.long q2)] 5)) t := by
              intro t k
              refine pre9 _ ?_
              refine XS.icmpNo X0.here hx rfl (hb hby d1_53) rfl (teq c4).2 ?_
              show Steps p.tables e below (s₁.setTop (mkF m 56 #[.val (.int p1), .val (.long q2), .second, .val (.long ((q2 &&& (3 : Int64)) - (1 : Int64))), .second] [])) _
              refine X0.ldc2Long hx hown (mvT hZ (hw _ (List.mem_of_getElem? (i := 46) rfl))) (g := (mkF m 56 #[.val (.int p1), .val (.long q2), .second, .val (.long ((q2 &&& (3 : Int64)) - (1 : Int64))), .second] [])) rfl (hb hby d1_56) _ ?_
              show Steps p.tables e below (s₁.setTop (mkF m 59 #[.val (.int p1), .val (.long q2), .second, .val (.long ((q2 &&& (3 : Int64)) - (1 : Int64))), .second] [(.long (720000 : Int64))])) _
              refine XS.lloadN X0.here hx rfl (hb hby d1_59) rfl ?_
              show Steps p.tables e below (s₁.setTop (mkF m 60 #[.val (.int p1), .val (.long q2), .second, .val (.long ((q2 &&& (3 : Int64)) - (1 : Int64))), .second] [(.long ((q2 &&& (3 : Int64)) - (1 : Int64))), (.long (720000 : Int64))])) _
              refine XS.ladd X0.here hx rfl (hb hby d1_60) rfl ?_
              show Steps p.tables e below (s₁.setTop (mkF m 61 #[.val (.int p1), .val (.long q2), .second, .val (.long ((q2 &&& (3 : Int64)) - (1 : Int64))), .second] [(.long ((720000 : Int64) + ((q2 &&& (3 : Int64)) - (1 : Int64))))])) _
              exact k
            obtain ⟨fs, hr, hrun, hended, hW, hsame⟩ := X0.leave (v := some (.long ((720000 : Int64) + ((q2 &&& (3 : Int64)) - (1 : Int64))))) (fun h => by rw [Bd.returns] at h; cases h)
            refine ⟨_, _, pre10 _ ?_, hrun, hended, _, _, rfl, ?_, ⟨_, rfl⟩, hW, hsame.mono (by decide) (by decide)⟩
            · exact retOut X0 hx Bd.returns rfl (Or.inr (Or.inl ⟨rfl, rfl, _, rfl⟩)) (hb hby d1_61) hr
            · show (∃ z : Int64, (_ : Option Value) = some (.long z) ∧ Fr n0 _ ∧ s₁.heap = h0)
              rw [e0]
              exact ⟨_, rfl, N0, rfl⟩
          · have pre11 : ∀ t, Steps p.tables e below (s₁.setTop (mkF m 64 #[.val (.int p1), .val (.long q2), .second, .val (.long ((q2 &&& (3 : Int64)) - (1 : Int64))), .second] [(.int (5 : Int32)), (.int p1)])) t → Steps p.tables e below (s₁.setTop (entryFrame m #[(.int p1), (.long q2)] 5)) t := by
              intro t k
              refine pre9 _ ?_
              refine XS.icmpYes X0.here hx rfl (pc0 := 53) (pc' := 62) rfl (hb hby d1_53) rfl (feq c4).2 (by decide) (by decide) ?_
              show Steps p.tables e below (s₁.setTop (mkF m 62 #[.val (.int p1), .val (.long q2), .second, .val (.long ((q2 &&& (3 : Int64)) - (1 : Int64))), .second] [])) _
              refine XS.iloadN X0.here hx rfl (hb hby d1_62) rfl ?_
              show Steps p.tables e below (s₁.setTop (mkF m 63 #[.val (.int p1), .val (.long q2), .second, .val (.long ((q2 &&& (3 : Int64)) - (1 : Int64))), .second] [(.int p1)])) _
              refine XS.iconst X0.here hx rfl (hb hby d1_63) ?_
              show Steps p.tables e below (s₁.setTop (mkF m 64 #[.val (.int p1), .val (.long q2), .second, .val (.long ((q2 &&& (3 : Int64)) - (1 : Int64))), .second] [(.int (5 : Int32)), (.int p1)])) _
              exact k
            by_cases c5 : p1 = (5 : Int32)
            · have pre12 : ∀ t, Steps p.tables e below (s₁.setTop (mkF m 72 #[.val (.int p1), .val (.long q2), .second, .val (.long ((q2 &&& (3 : Int64)) - (1 : Int64))), .second] [(.long ((1440000 : Int64) + ((q2 &&& (3 : Int64)) - (1 : Int64))))])) t → Steps p.tables e below (s₁.setTop (entryFrame m #[(.int p1), (.long q2)] 5)) t := by
                intro t k
                refine pre11 _ ?_
                refine XS.icmpNo X0.here hx rfl (hb hby d1_64) rfl (teq c5).2 ?_
                show Steps p.tables e below (s₁.setTop (mkF m 67 #[.val (.int p1), .val (.long q2), .second, .val (.long ((q2 &&& (3 : Int64)) - (1 : Int64))), .second] [])) _
                refine X0.ldc2Long hx hown (mvT hZ (hw _ (List.mem_of_getElem? (i := 47) rfl))) (g := (mkF m 67 #[.val (.int p1), .val (.long q2), .second, .val (.long ((q2 &&& (3 : Int64)) - (1 : Int64))), .second] [])) rfl (hb hby d1_67) _ ?_
                show Steps p.tables e below (s₁.setTop (mkF m 70 #[.val (.int p1), .val (.long q2), .second, .val (.long ((q2 &&& (3 : Int64)) - (1 : Int64))), .second] [(.long (1440000 : Int64))])) _
                refine XS.lloadN X0.here hx rfl (hb hby d1_70) rfl ?_
                show Steps p.tables e below (s₁.setTop (mkF m 71 #[.val (.int p1), .val (.long q2), .second, .val (.long ((q2 &&& (3 : Int64)) - (1 : Int64))), .second] [(.long ((q2 &&& (3 : Int64)) - (1 : Int64))), (.long (1440000 : Int64))])) _
                refine XS.ladd X0.here hx rfl (hb hby d1_71) rfl ?_
                show Steps p.tables e below (s₁.setTop (mkF m 72 #[.val (.int p1), .val (.long q2), .second, .val (.long ((q2 &&& (3 : Int64)) - (1 : Int64))), .second] [(.long ((1440000 : Int64) + ((q2 &&& (3 : Int64)) - (1 : Int64))))])) _
                exact k
              obtain ⟨fs, hr, hrun, hended, hW, hsame⟩ := X0.leave (v := some (.long ((1440000 : Int64) + ((q2 &&& (3 : Int64)) - (1 : Int64))))) (fun h => by rw [Bd.returns] at h; cases h)
              refine ⟨_, _, pre12 _ ?_, hrun, hended, _, _, rfl, ?_, ⟨_, rfl⟩, hW, hsame.mono (by decide) (by decide)⟩
              · exact retOut X0 hx Bd.returns rfl (Or.inr (Or.inl ⟨rfl, rfl, _, rfl⟩)) (hb hby d1_72) hr
              · show (∃ z : Int64, (_ : Option Value) = some (.long z) ∧ Fr n0 _ ∧ s₁.heap = h0)
                rw [e0]
                exact ⟨_, rfl, N0, rfl⟩
            · have pre13 : ∀ t, Steps p.tables e below (s₁.setTop (mkF m 76 #[.val (.int p1), .val (.long q2), .second, .val (.long ((q2 &&& (3 : Int64)) - (1 : Int64))), .second] [(.int (6 : Int32)), (.int p1)])) t → Steps p.tables e below (s₁.setTop (entryFrame m #[(.int p1), (.long q2)] 5)) t := by
                intro t k
                refine pre11 _ ?_
                refine XS.icmpYes X0.here hx rfl (pc0 := 64) (pc' := 73) rfl (hb hby d1_64) rfl (feq c5).2 (by decide) (by decide) ?_
                show Steps p.tables e below (s₁.setTop (mkF m 73 #[.val (.int p1), .val (.long q2), .second, .val (.long ((q2 &&& (3 : Int64)) - (1 : Int64))), .second] [])) _
                refine XS.iloadN X0.here hx rfl (hb hby d1_73) rfl ?_
                show Steps p.tables e below (s₁.setTop (mkF m 74 #[.val (.int p1), .val (.long q2), .second, .val (.long ((q2 &&& (3 : Int64)) - (1 : Int64))), .second] [(.int p1)])) _
                refine XS.bipush X0.here hx rfl (hb hby d1_74) ?_
                show Steps p.tables e below (s₁.setTop (mkF m 76 #[.val (.int p1), .val (.long q2), .second, .val (.long ((q2 &&& (3 : Int64)) - (1 : Int64))), .second] [(.int (6 : Int32)), (.int p1)])) _
                exact k
              by_cases c6 : p1 = (6 : Int32)
              · have pre14 : ∀ t, Steps p.tables e below (s₁.setTop (mkF m 90 #[.val (.int p1), .val (.long q2), .second, .val (.long ((q2 &&& (3 : Int64)) - (1 : Int64))), .second] [(.long (q2 &&& (4194303 : Int64)))])) t → Steps p.tables e below (s₁.setTop (entryFrame m #[(.int p1), (.long q2)] 5)) t := by
                  intro t k
                  refine pre13 _ ?_
                  refine XS.icmpYes X0.here hx rfl (pc0 := 76) (pc' := 85) rfl (hb hby d1_76) rfl (teq c6).1 (by decide) (by decide) ?_
                  show Steps p.tables e below (s₁.setTop (mkF m 85 #[.val (.int p1), .val (.long q2), .second, .val (.long ((q2 &&& (3 : Int64)) - (1 : Int64))), .second] [])) _
                  refine XS.lloadN X0.here hx rfl (hb hby d1_85) rfl ?_
                  show Steps p.tables e below (s₁.setTop (mkF m 86 #[.val (.int p1), .val (.long q2), .second, .val (.long ((q2 &&& (3 : Int64)) - (1 : Int64))), .second] [(.long q2)])) _
                  refine X0.ldc2Long hx hown (mvT hZ (hw _ (List.mem_of_getElem? (i := 49) rfl))) (g := (mkF m 86 #[.val (.int p1), .val (.long q2), .second, .val (.long ((q2 &&& (3 : Int64)) - (1 : Int64))), .second] [(.long q2)])) rfl (hb hby d1_86) _ ?_
                  show Steps p.tables e below (s₁.setTop (mkF m 89 #[.val (.int p1), .val (.long q2), .second, .val (.long ((q2 &&& (3 : Int64)) - (1 : Int64))), .second] [(.long (4194303 : Int64)), (.long q2)])) _
                  refine XS.land X0.here hx rfl (hb hby d1_89) rfl ?_
                  show Steps p.tables e below (s₁.setTop (mkF m 90 #[.val (.int p1), .val (.long q2), .second, .val (.long ((q2 &&& (3 : Int64)) - (1 : Int64))), .second] [(.long (q2 &&& (4194303 : Int64)))])) _
                  exact k
                obtain ⟨fs, hr, hrun, hended, hW, hsame⟩ := X0.leave (v := some (.long (q2 &&& (4194303 : Int64)))) (fun h => by rw [Bd.returns] at h; cases h)
                refine ⟨_, _, pre14 _ ?_, hrun, hended, _, _, rfl, ?_, ⟨_, rfl⟩, hW, hsame.mono (by decide) (by decide)⟩
                · exact retOut X0 hx Bd.returns rfl (Or.inr (Or.inl ⟨rfl, rfl, _, rfl⟩)) (hb hby d1_90) hr
                · show (∃ z : Int64, (_ : Option Value) = some (.long z) ∧ Fr n0 _ ∧ s₁.heap = h0)
                  rw [e0]
                  exact ⟨_, rfl, N0, rfl⟩
              · have pre15 : ∀ t, Steps p.tables e below (s₁.setTop (mkF m 82 #[.val (.int p1), .val (.long q2), .second, .val (.long ((q2 &&& (3 : Int64)) - (1 : Int64))), .second] [(.int (7 : Int32)), (.int p1)])) t → Steps p.tables e below (s₁.setTop (entryFrame m #[(.int p1), (.long q2)] 5)) t := by
                  intro t k
                  refine pre13 _ ?_
                  refine XS.icmpNo X0.here hx rfl (hb hby d1_76) rfl (feq c6).1 ?_
                  show Steps p.tables e below (s₁.setTop (mkF m 79 #[.val (.int p1), .val (.long q2), .second, .val (.long ((q2 &&& (3 : Int64)) - (1 : Int64))), .second] [])) _
                  refine XS.iloadN X0.here hx rfl (hb hby d1_79) rfl ?_
                  show Steps p.tables e below (s₁.setTop (mkF m 80 #[.val (.int p1), .val (.long q2), .second, .val (.long ((q2 &&& (3 : Int64)) - (1 : Int64))), .second] [(.int p1)])) _
                  refine XS.bipush X0.here hx rfl (hb hby d1_80) ?_
                  show Steps p.tables e below (s₁.setTop (mkF m 82 #[.val (.int p1), .val (.long q2), .second, .val (.long ((q2 &&& (3 : Int64)) - (1 : Int64))), .second] [(.int (7 : Int32)), (.int p1)])) _
                  exact k
                by_cases c7 : p1 = (7 : Int32)
                · have pre16 : ∀ t, Steps p.tables e below (s₁.setTop (mkF m 90 #[.val (.int p1), .val (.long q2), .second, .val (.long ((q2 &&& (3 : Int64)) - (1 : Int64))), .second] [(.long (q2 &&& (4194303 : Int64)))])) t → Steps p.tables e below (s₁.setTop (entryFrame m #[(.int p1), (.long q2)] 5)) t := by
                    intro t k
                    refine pre15 _ ?_
                    refine XS.icmpNo X0.here hx rfl (hb hby d1_82) rfl (teq c7).2 ?_
                    show Steps p.tables e below (s₁.setTop (mkF m 85 #[.val (.int p1), .val (.long q2), .second, .val (.long ((q2 &&& (3 : Int64)) - (1 : Int64))), .second] [])) _
                    refine XS.lloadN X0.here hx rfl (hb hby d1_85) rfl ?_
                    show Steps p.tables e below (s₁.setTop (mkF m 86 #[.val (.int p1), .val (.long q2), .second, .val (.long ((q2 &&& (3 : Int64)) - (1 : Int64))), .second] [(.long q2)])) _
                    refine X0.ldc2Long hx hown (mvT hZ (hw _ (List.mem_of_getElem? (i := 49) rfl))) (g := (mkF m 86 #[.val (.int p1), .val (.long q2), .second, .val (.long ((q2 &&& (3 : Int64)) - (1 : Int64))), .second] [(.long q2)])) rfl (hb hby d1_86) _ ?_
                    show Steps p.tables e below (s₁.setTop (mkF m 89 #[.val (.int p1), .val (.long q2), .second, .val (.long ((q2 &&& (3 : Int64)) - (1 : Int64))), .second] [(.long (4194303 : Int64)), (.long q2)])) _
                    refine XS.land X0.here hx rfl (hb hby d1_89) rfl ?_
                    show Steps p.tables e below (s₁.setTop (mkF m 90 #[.val (.int p1), .val (.long q2), .second, .val (.long ((q2 &&& (3 : Int64)) - (1 : Int64))), .second] [(.long (q2 &&& (4194303 : Int64)))])) _
                    exact k
                  obtain ⟨fs, hr, hrun, hended, hW, hsame⟩ := X0.leave (v := some (.long (q2 &&& (4194303 : Int64)))) (fun h => by rw [Bd.returns] at h; cases h)
                  refine ⟨_, _, pre16 _ ?_, hrun, hended, _, _, rfl, ?_, ⟨_, rfl⟩, hW, hsame.mono (by decide) (by decide)⟩
                  · exact retOut X0 hx Bd.returns rfl (Or.inr (Or.inl ⟨rfl, rfl, _, rfl⟩)) (hb hby d1_90) hr
                  · show (∃ z : Int64, (_ : Option Value) = some (.long z) ∧ Fr n0 _ ∧ s₁.heap = h0)
                    rw [e0]
                    exact ⟨_, rfl, N0, rfl⟩
                · have pre17 : ∀ t, Steps p.tables e below (s₁.setTop (mkF m 92 #[.val (.int p1), .val (.long q2), .second, .val (.long ((q2 &&& (3 : Int64)) - (1 : Int64))), .second] [(.long q2)])) t → Steps p.tables e below (s₁.setTop (entryFrame m #[(.int p1), (.long q2)] 5)) t := by
                    intro t k
                    refine pre15 _ ?_
                    refine XS.icmpYes X0.here hx rfl (pc0 := 82) (pc' := 91) rfl (hb hby d1_82) rfl (feq c7).2 (by decide) (by decide) ?_
                    show Steps p.tables e below (s₁.setTop (mkF m 91 #[.val (.int p1), .val (.long q2), .second, .val (.long ((q2 &&& (3 : Int64)) - (1 : Int64))), .second] [])) _
                    refine XS.lloadN X0.here hx rfl (hb hby d1_91) rfl ?_
                    show Steps p.tables e below (s₁.setTop (mkF m 92 #[.val (.int p1), .val (.long q2), .second, .val (.long ((q2 &&& (3 : Int64)) - (1 : Int64))), .second] [(.long q2)])) _
                    exact k
                  obtain ⟨fs, hr, hrun, hended, hW, hsame⟩ := X0.leave (v := some (.long q2)) (fun h => by rw [Bd.returns] at h; cases h)
                  refine ⟨_, _, pre17 _ ?_, hrun, hended, _, _, rfl, ?_, ⟨_, rfl⟩, hW, hsame.mono (by decide) (by decide)⟩
                  · exact retOut X0 hx Bd.returns rfl (Or.inr (Or.inl ⟨rfl, rfl, _, rfl⟩)) (hb hby d1_92) hr
                  · show (∃ z : Int64, (_ : Option Value) = some (.long z) ∧ Fr n0 _ ∧ s₁.heap = h0)
                    rw [e0]
                    exact ⟨_, rfl, N0, rfl⟩
set_option maxRecDepth 65536 in
set_option maxHeartbeats 40000000 in
theorem rm2 (l : Launch) (Z : State) (a0 : Array Value) (hw : ∀ d ∈ tables_1, d.before a0 Z = true) (ws : List Jvm.Cond) (p1 : Int32) (q2 : Int64) (h0 : Heap) (n0 : Nat) (Z0 : n0 ≤ h0.size)  :
    MetFree l (⟨"com/example/jobwright/jobwright/workload/O2kJobsRatioPinLaw", "pickMemory", "(IJ)J"⟩ : MethodName) (head1 (Jvm.Cond.code (⟨"com/example/jobwright/jobwright/workload/O2kJobsRatioPinLaw", "pickMemory", "(IJ)J"⟩ : MethodName) method_4_code 5 (some .long) :: ws) ({ frames := 0, cells := 0, slots := 0, locals := 0 } : Room)) (fun a U => a = #[(.int p1), (.long q2)] ∧ Z.Warmed39 U.vm ∧ U.heap = h0) (fun _ _ _ _ _ => True) (fun _ U o U' => ∃ v L, o = .returned v ∧ own_Q (fun v h L => (∃ z : Int64, v = some (.long z) ∧ Fr n0 L ∧ h = h0)) v U'.heap L ∧ FrameEnd U o U' L ({ frames := 0, cells := 0, slots := 0, locals := 0 } : Room).cells ({ frames := 0, cells := 0, slots := 0, locals := 0 } : Room).slots) := by
  refine MetFree.of_bodySF (plainFor_of_name own_pn0) hisR ?_
  intro p e s m args below meth c s₁ Bd hml0 hP hK
  obtain ⟨rfl, hZ, hh⟩ := hP
  have hx := Bd.exec
  have hby := Bd.bytes
  have hml : c.maxLocals = 5 := hml0
  have hown : s.vm.findClass "com/example/jobwright/jobwright/workload/O2kJobsRatioPinLaw" = some m.cls := findClass_of_methodNamed Bd.named
  have hnm := (name_of_methodNamed Bd.named Bd.method).1
  have X0 : Stand p l e ({ frames := 0, cells := 0, slots := 0, locals := 0 } : Room) s m #[(.int p1), (.long q2)] below meth c s₁ [] 0 0 := Stand.of_body Bd
  have e0 : s₁.heap = h0 := by rw [← hh, Bd.state]; rfl
  have N0 := Fr.nil n0
  have ef : entryFrame m #[(.int p1), (.long q2)] 5 = mkF m 0 #[.val (.int p1), .val (.long q2), .second, .unset, .unset] [] := by first | (simp [entryFrame, mkF, argsToLocals, Value.category]; done) | rfl
  have pre0 : ∀ t, Steps p.tables e below (s₁.setTop (mkF m 0 #[.val (.int p1), .val (.long q2), .second, .unset, .unset] [])) t → Steps p.tables e below (s₁.setTop (entryFrame m #[(.int p1), (.long q2)] 5)) t := fun t k => castTop ef k
  have pre1 : ∀ t, Steps p.tables e below (s₁.setTop (mkF m 9 #[.val (.int p1), .val (.long q2), .second, .val (.long ((q2 &&& (3 : Int64)) - (1 : Int64))), .second] [(.int p1)])) t → Steps p.tables e below (s₁.setTop (entryFrame m #[(.int p1), (.long q2)] 5)) t := by
    intro t k
    refine pre0 _ ?_
    refine XS.lloadN X0.here hx rfl (hb hby d2_0) rfl ?_
    show Steps p.tables e below (s₁.setTop (mkF m 1 #[.val (.int p1), .val (.long q2), .second, .unset, .unset] [(.long q2)])) _
    refine X0.ldc2Long hx hown (mvT hZ (hw _ (List.mem_of_getElem? (i := 4) rfl))) (g := (mkF m 1 #[.val (.int p1), .val (.long q2), .second, .unset, .unset] [(.long q2)])) rfl (hb hby d2_1) _ ?_
    show Steps p.tables e below (s₁.setTop (mkF m 4 #[.val (.int p1), .val (.long q2), .second, .unset, .unset] [(.long (3 : Int64)), (.long q2)])) _
    refine XS.land X0.here hx rfl (hb hby d2_4) rfl ?_
    show Steps p.tables e below (s₁.setTop (mkF m 5 #[.val (.int p1), .val (.long q2), .second, .unset, .unset] [(.long (q2 &&& (3 : Int64)))])) _
    refine XS.lconst X0.here hx rfl (hb hby d2_5) ?_
    show Steps p.tables e below (s₁.setTop (mkF m 6 #[.val (.int p1), .val (.long q2), .second, .unset, .unset] [(.long (1 : Int64)), (.long (q2 &&& (3 : Int64)))])) _
    refine XS.lsub X0.here hx rfl (hb hby d2_6) rfl ?_
    show Steps p.tables e below (s₁.setTop (mkF m 7 #[.val (.int p1), .val (.long q2), .second, .unset, .unset] [(.long ((q2 &&& (3 : Int64)) - (1 : Int64)))])) _
    refine XS.lstoreN X0.here hx rfl (hb hby d2_7) rfl (l' := #[.val (.int p1), .val (.long q2), .second, .val (.long ((q2 &&& (3 : Int64)) - (1 : Int64))), .second]) rfl ?_
    show Steps p.tables e below (s₁.setTop (mkF m 8 #[.val (.int p1), .val (.long q2), .second, .val (.long ((q2 &&& (3 : Int64)) - (1 : Int64))), .second] [])) _
    refine XS.iloadN X0.here hx rfl (hb hby d2_8) rfl ?_
    show Steps p.tables e below (s₁.setTop (mkF m 9 #[.val (.int p1), .val (.long q2), .second, .val (.long ((q2 &&& (3 : Int64)) - (1 : Int64))), .second] [(.int p1)])) _
    exact k
  by_cases c0 : p1 = (0 : Int32)
  · have pre2 : ∀ t, Steps p.tables e below (s₁.setTop (mkF m 13 #[.val (.int p1), .val (.long q2), .second, .val (.long ((q2 &&& (3 : Int64)) - (1 : Int64))), .second] [(.long q2)])) t → Steps p.tables e below (s₁.setTop (entryFrame m #[(.int p1), (.long q2)] 5)) t := by
      intro t k
      refine pre1 _ ?_
      refine XS.ifNo X0.here hx rfl (hb hby d2_9) rfl ((if0 _ _).trans (teq c0).2) ?_
      show Steps p.tables e below (s₁.setTop (mkF m 12 #[.val (.int p1), .val (.long q2), .second, .val (.long ((q2 &&& (3 : Int64)) - (1 : Int64))), .second] [])) _
      refine XS.lloadN X0.here hx rfl (hb hby d2_12) rfl ?_
      show Steps p.tables e below (s₁.setTop (mkF m 13 #[.val (.int p1), .val (.long q2), .second, .val (.long ((q2 &&& (3 : Int64)) - (1 : Int64))), .second] [(.long q2)])) _
      exact k
    obtain ⟨fs, hr, hrun, hended, hW, hsame⟩ := X0.leave (v := some (.long q2)) (fun h => by rw [Bd.returns] at h; cases h)
    refine ⟨_, _, pre2 _ ?_, hrun, hended, _, _, rfl, ?_, ⟨_, rfl⟩, hW, hsame.mono (by decide) (by decide)⟩
    · exact retOut X0 hx Bd.returns rfl (Or.inr (Or.inl ⟨rfl, rfl, _, rfl⟩)) (hb hby d2_13) hr
    · show (∃ z : Int64, (_ : Option Value) = some (.long z) ∧ Fr n0 _ ∧ s₁.heap = h0)
      rw [e0]
      exact ⟨_, rfl, N0, rfl⟩
  · have pre3 : ∀ t, Steps p.tables e below (s₁.setTop (mkF m 16 #[.val (.int p1), .val (.long q2), .second, .val (.long ((q2 &&& (3 : Int64)) - (1 : Int64))), .second] [(.int (1 : Int32)), (.int p1)])) t → Steps p.tables e below (s₁.setTop (entryFrame m #[(.int p1), (.long q2)] 5)) t := by
      intro t k
      refine pre1 _ ?_
      refine XS.ifYes X0.here hx rfl (pc0 := 9) (pc' := 14) rfl (hb hby d2_9) rfl ((if0 _ _).trans (feq c0).2) (by decide) (by decide) ?_
      show Steps p.tables e below (s₁.setTop (mkF m 14 #[.val (.int p1), .val (.long q2), .second, .val (.long ((q2 &&& (3 : Int64)) - (1 : Int64))), .second] [])) _
      refine XS.iloadN X0.here hx rfl (hb hby d2_14) rfl ?_
      show Steps p.tables e below (s₁.setTop (mkF m 15 #[.val (.int p1), .val (.long q2), .second, .val (.long ((q2 &&& (3 : Int64)) - (1 : Int64))), .second] [(.int p1)])) _
      refine XS.iconst X0.here hx rfl (hb hby d2_15) ?_
      show Steps p.tables e below (s₁.setTop (mkF m 16 #[.val (.int p1), .val (.long q2), .second, .val (.long ((q2 &&& (3 : Int64)) - (1 : Int64))), .second] [(.int (1 : Int32)), (.int p1)])) _
      exact k
    by_cases c1 : p1 = (1 : Int32)
    · have pre4 : ∀ t, Steps p.tables e below (s₁.setTop (mkF m 24 #[.val (.int p1), .val (.long q2), .second, .val (.long ((q2 &&& (3 : Int64)) - (1 : Int64))), .second] [(.long ((131072 : Int64) + ((q2 &&& (3 : Int64)) - (1 : Int64))))])) t → Steps p.tables e below (s₁.setTop (entryFrame m #[(.int p1), (.long q2)] 5)) t := by
        intro t k
        refine pre3 _ ?_
        refine XS.icmpNo X0.here hx rfl (hb hby d2_16) rfl (teq c1).2 ?_
        show Steps p.tables e below (s₁.setTop (mkF m 19 #[.val (.int p1), .val (.long q2), .second, .val (.long ((q2 &&& (3 : Int64)) - (1 : Int64))), .second] [])) _
        refine X0.ldc2Long hx hown (mvT hZ (hw _ (List.mem_of_getElem? (i := 48) rfl))) (g := (mkF m 19 #[.val (.int p1), .val (.long q2), .second, .val (.long ((q2 &&& (3 : Int64)) - (1 : Int64))), .second] [])) rfl (hb hby d2_19) _ ?_
        show Steps p.tables e below (s₁.setTop (mkF m 22 #[.val (.int p1), .val (.long q2), .second, .val (.long ((q2 &&& (3 : Int64)) - (1 : Int64))), .second] [(.long (131072 : Int64))])) _
        refine XS.lloadN X0.here hx rfl (hb hby d2_22) rfl ?_
        show Steps p.tables e below (s₁.setTop (mkF m 23 #[.val (.int p1), .val (.long q2), .second, .val (.long ((q2 &&& (3 : Int64)) - (1 : Int64))), .second] [(.long ((q2 &&& (3 : Int64)) - (1 : Int64))), (.long (131072 : Int64))])) _
        refine XS.ladd X0.here hx rfl (hb hby d2_23) rfl ?_
        show Steps p.tables e below (s₁.setTop (mkF m 24 #[.val (.int p1), .val (.long q2), .second, .val (.long ((q2 &&& (3 : Int64)) - (1 : Int64))), .second] [(.long ((131072 : Int64) + ((q2 &&& (3 : Int64)) - (1 : Int64))))])) _
        exact k
      obtain ⟨fs, hr, hrun, hended, hW, hsame⟩ := X0.leave (v := some (.long ((131072 : Int64) + ((q2 &&& (3 : Int64)) - (1 : Int64))))) (fun h => by rw [Bd.returns] at h; cases h)
      refine ⟨_, _, pre4 _ ?_, hrun, hended, _, _, rfl, ?_, ⟨_, rfl⟩, hW, hsame.mono (by decide) (by decide)⟩
      · exact retOut X0 hx Bd.returns rfl (Or.inr (Or.inl ⟨rfl, rfl, _, rfl⟩)) (hb hby d2_24) hr
      · show (∃ z : Int64, (_ : Option Value) = some (.long z) ∧ Fr n0 _ ∧ s₁.heap = h0)
        rw [e0]
        exact ⟨_, rfl, N0, rfl⟩
    · have pre5 : ∀ t, Steps p.tables e below (s₁.setTop (mkF m 27 #[.val (.int p1), .val (.long q2), .second, .val (.long ((q2 &&& (3 : Int64)) - (1 : Int64))), .second] [(.int (2 : Int32)), (.int p1)])) t → Steps p.tables e below (s₁.setTop (entryFrame m #[(.int p1), (.long q2)] 5)) t := by
        intro t k
        refine pre3 _ ?_
        refine XS.icmpYes X0.here hx rfl (pc0 := 16) (pc' := 25) rfl (hb hby d2_16) rfl (feq c1).2 (by decide) (by decide) ?_
        show Steps p.tables e below (s₁.setTop (mkF m 25 #[.val (.int p1), .val (.long q2), .second, .val (.long ((q2 &&& (3 : Int64)) - (1 : Int64))), .second] [])) _
        refine XS.iloadN X0.here hx rfl (hb hby d2_25) rfl ?_
        show Steps p.tables e below (s₁.setTop (mkF m 26 #[.val (.int p1), .val (.long q2), .second, .val (.long ((q2 &&& (3 : Int64)) - (1 : Int64))), .second] [(.int p1)])) _
        refine XS.iconst X0.here hx rfl (hb hby d2_26) ?_
        show Steps p.tables e below (s₁.setTop (mkF m 27 #[.val (.int p1), .val (.long q2), .second, .val (.long ((q2 &&& (3 : Int64)) - (1 : Int64))), .second] [(.int (2 : Int32)), (.int p1)])) _
        exact k
      by_cases c2 : p1 = (2 : Int32)
      · have pre6 : ∀ t, Steps p.tables e below (s₁.setTop (mkF m 35 #[.val (.int p1), .val (.long q2), .second, .val (.long ((q2 &&& (3 : Int64)) - (1 : Int64))), .second] [(.long ((4194304 : Int64) + ((q2 &&& (3 : Int64)) - (1 : Int64))))])) t → Steps p.tables e below (s₁.setTop (entryFrame m #[(.int p1), (.long q2)] 5)) t := by
          intro t k
          refine pre5 _ ?_
          refine XS.icmpNo X0.here hx rfl (hb hby d2_27) rfl (teq c2).2 ?_
          show Steps p.tables e below (s₁.setTop (mkF m 30 #[.val (.int p1), .val (.long q2), .second, .val (.long ((q2 &&& (3 : Int64)) - (1 : Int64))), .second] [])) _
          refine X0.ldc2Long hx hown (mvT hZ (hw _ (List.mem_of_getElem? (i := 40) rfl))) (g := (mkF m 30 #[.val (.int p1), .val (.long q2), .second, .val (.long ((q2 &&& (3 : Int64)) - (1 : Int64))), .second] [])) rfl (hb hby d2_30) _ ?_
          show Steps p.tables e below (s₁.setTop (mkF m 33 #[.val (.int p1), .val (.long q2), .second, .val (.long ((q2 &&& (3 : Int64)) - (1 : Int64))), .second] [(.long (4194304 : Int64))])) _
          refine XS.lloadN X0.here hx rfl (hb hby d2_33) rfl ?_
          show Steps p.tables e below (s₁.setTop (mkF m 34 #[.val (.int p1), .val (.long q2), .second, .val (.long ((q2 &&& (3 : Int64)) - (1 : Int64))), .second] [(.long ((q2 &&& (3 : Int64)) - (1 : Int64))), (.long (4194304 : Int64))])) _
          refine XS.ladd X0.here hx rfl (hb hby d2_34) rfl ?_
          show Steps p.tables e below (s₁.setTop (mkF m 35 #[.val (.int p1), .val (.long q2), .second, .val (.long ((q2 &&& (3 : Int64)) - (1 : Int64))), .second] [(.long ((4194304 : Int64) + ((q2 &&& (3 : Int64)) - (1 : Int64))))])) _
          exact k
        obtain ⟨fs, hr, hrun, hended, hW, hsame⟩ := X0.leave (v := some (.long ((4194304 : Int64) + ((q2 &&& (3 : Int64)) - (1 : Int64))))) (fun h => by rw [Bd.returns] at h; cases h)
        refine ⟨_, _, pre6 _ ?_, hrun, hended, _, _, rfl, ?_, ⟨_, rfl⟩, hW, hsame.mono (by decide) (by decide)⟩
        · exact retOut X0 hx Bd.returns rfl (Or.inr (Or.inl ⟨rfl, rfl, _, rfl⟩)) (hb hby d2_35) hr
        · show (∃ z : Int64, (_ : Option Value) = some (.long z) ∧ Fr n0 _ ∧ s₁.heap = h0)
          rw [e0]
          exact ⟨_, rfl, N0, rfl⟩
      · have pre7 : ∀ t, Steps p.tables e below (s₁.setTop (mkF m 41 #[.val (.int p1), .val (.long q2), .second, .val (.long ((q2 &&& (3 : Int64)) - (1 : Int64))), .second] [(.long (q2 &&& (16777215 : Int64)))])) t → Steps p.tables e below (s₁.setTop (entryFrame m #[(.int p1), (.long q2)] 5)) t := by
          intro t k
          refine pre5 _ ?_
          refine XS.icmpYes X0.here hx rfl (pc0 := 27) (pc' := 36) rfl (hb hby d2_27) rfl (feq c2).2 (by decide) (by decide) ?_
          show Steps p.tables e below (s₁.setTop (mkF m 36 #[.val (.int p1), .val (.long q2), .second, .val (.long ((q2 &&& (3 : Int64)) - (1 : Int64))), .second] [])) _
          refine XS.lloadN X0.here hx rfl (hb hby d2_36) rfl ?_
          show Steps p.tables e below (s₁.setTop (mkF m 37 #[.val (.int p1), .val (.long q2), .second, .val (.long ((q2 &&& (3 : Int64)) - (1 : Int64))), .second] [(.long q2)])) _
          refine X0.ldc2Long hx hown (mvT hZ (hw _ (List.mem_of_getElem? (i := 41) rfl))) (g := (mkF m 37 #[.val (.int p1), .val (.long q2), .second, .val (.long ((q2 &&& (3 : Int64)) - (1 : Int64))), .second] [(.long q2)])) rfl (hb hby d2_37) _ ?_
          show Steps p.tables e below (s₁.setTop (mkF m 40 #[.val (.int p1), .val (.long q2), .second, .val (.long ((q2 &&& (3 : Int64)) - (1 : Int64))), .second] [(.long (16777215 : Int64)), (.long q2)])) _
          refine XS.land X0.here hx rfl (hb hby d2_40) rfl ?_
          show Steps p.tables e below (s₁.setTop (mkF m 41 #[.val (.int p1), .val (.long q2), .second, .val (.long ((q2 &&& (3 : Int64)) - (1 : Int64))), .second] [(.long (q2 &&& (16777215 : Int64)))])) _
          exact k
        obtain ⟨fs, hr, hrun, hended, hW, hsame⟩ := X0.leave (v := some (.long (q2 &&& (16777215 : Int64)))) (fun h => by rw [Bd.returns] at h; cases h)
        refine ⟨_, _, pre7 _ ?_, hrun, hended, _, _, rfl, ?_, ⟨_, rfl⟩, hW, hsame.mono (by decide) (by decide)⟩
        · exact retOut X0 hx Bd.returns rfl (Or.inr (Or.inl ⟨rfl, rfl, _, rfl⟩)) (hb hby d2_41) hr
        · show (∃ z : Int64, (_ : Option Value) = some (.long z) ∧ Fr n0 _ ∧ s₁.heap = h0)
          rw [e0]
          exact ⟨_, rfl, N0, rfl⟩
set_option maxRecDepth 65536 in
set_option maxHeartbeats 40000000 in
theorem rm3 (l : Launch) (Z : State) (a0 : Array Value) (hw : ∀ d ∈ tables_1, d.before a0 Z = true) (ws : List Jvm.Cond) (q1 : Int64) (p2 : Int32) (q3 : Int64) (ra da : Addr) (cr cd : Cell) (ad : Nat → Addr) (h0 : Heap) (n0 : Nat) (Z0 : n0 ≤ h0.size) (sR : Sta Z h0 "com/example/jobwright/jobwright/workload/O2kJobs" "RATIOS" "[Lcom/example/jobwright/jobwright/workload/O2kJobs$Ratio;" (.ref ra)) (sD : Sta Z h0 "com/example/jobwright/jobwright/workload/O2kJobs" "DEFAULTS" "[J" (.ref da)) (aR : Arr Z h0 ra cr (.object "com/example/jobwright/jobwright/workload/O2kJobs$Ratio")) (aD : Arr Z h0 da cd .long) (eR : ∀ k, k < 12 → cr.slots[k]? = some (.ref (ad k))) (eD : ∀ k, k < 4 → cd.slots[k]? = some (.long (own_df k))) :
    MetFree l (⟨"com/example/jobwright/jobwright/workload/O2kJobs", "ratio", "(JIJ)Lcom/example/jobwright/jobwright/workload/O2kJobs$Ratio;"⟩ : MethodName) (head1 (Jvm.Cond.code (⟨"com/example/jobwright/jobwright/workload/O2kJobs", "ratio", "(JIJ)Lcom/example/jobwright/jobwright/workload/O2kJobs$Ratio;"⟩ : MethodName) prog_198_method_8_code 5 (some (.object "com/example/jobwright/jobwright/workload/O2kJobs$Ratio")) :: ws) ({ frames := 0, cells := 0, slots := 0, locals := 0 } : Room)) (fun a U => a = #[(.long q1), (.int p2), (.long q3)] ∧ Z.Warmed39 U.vm ∧ U.heap = h0) (fun _ _ _ _ _ => True) (fun _ U o U' => ∃ v L, o = .returned v ∧ own_Q (fun v h L => (v = some (.ref (ad (own_row q1 p2 q3))) ∧ Fr n0 L ∧ h = h0)) v U'.heap L ∧ FrameEnd U o U' L ({ frames := 0, cells := 0, slots := 0, locals := 0 } : Room).cells ({ frames := 0, cells := 0, slots := 0, locals := 0 } : Room).slots) := by
  refine MetFree.of_bodySF (plainFor_of_name own_pn1) hisR ?_
  intro p e s m args below meth c s₁ Bd hml0 hP hK
  obtain ⟨rfl, hZ, hh⟩ := hP
  have hx := Bd.exec
  have hby := Bd.bytes
  have hml : c.maxLocals = 5 := hml0
  have hown : s.vm.findClass "com/example/jobwright/jobwright/workload/O2kJobs" = some m.cls := findClass_of_methodNamed Bd.named
  have hnm := (name_of_methodNamed Bd.named Bd.method).1
  have X0 : Stand p l e ({ frames := 0, cells := 0, slots := 0, locals := 0 } : Room) s m #[(.long q1), (.int p2), (.long q3)] below meth c s₁ [] 0 0 := Stand.of_body Bd
  have e0 : s₁.heap = h0 := by rw [← hh, Bd.state]; rfl
  have N0 := Fr.nil n0
  have ef : entryFrame m #[(.long q1), (.int p2), (.long q3)] 5 = mkF m 0 #[.val (.long q1), .second, .val (.int p2), .val (.long q3), .second] [] := by first | (simp [entryFrame, mkF, argsToLocals, Value.category]; done) | rfl
  have pre0 : ∀ t, Steps p.tables e below (s₁.setTop (mkF m 0 #[.val (.long q1), .second, .val (.int p2), .val (.long q3), .second] [])) t → Steps p.tables e below (s₁.setTop (entryFrame m #[(.long q1), (.int p2), (.long q3)] 5)) t := fun t k => castTop ef k
  have pre1 : ∀ t, Steps p.tables e below (s₁.setTop (mkF m 5 #[.val (.long q1), .second, .val (.int p2), .val (.long q3), .second] [(.int (lcmpW q1 (60 : Int64)))])) t → Steps p.tables e below (s₁.setTop (entryFrame m #[(.long q1), (.int p2), (.long q3)] 5)) t := by
    intro t k
    refine pre0 _ ?_
    refine XS.lloadN X0.here hx rfl (hb hby d3_0) rfl ?_
    show Steps p.tables e below (s₁.setTop (mkF m 1 #[.val (.long q1), .second, .val (.int p2), .val (.long q3), .second] [(.long q1)])) _
    refine X0.ldc2Long hx hown (mvT hZ (hw _ (List.mem_of_getElem? (i := 13) rfl))) (g := (mkF m 1 #[.val (.long q1), .second, .val (.int p2), .val (.long q3), .second] [(.long q1)])) rfl (hb hby d3_1) _ ?_
    show Steps p.tables e below (s₁.setTop (mkF m 4 #[.val (.long q1), .second, .val (.int p2), .val (.long q3), .second] [(.long (60 : Int64)), (.long q1)])) _
    refine XS.lcmp X0.here hx rfl (hb hby d3_4) rfl ?_
    show Steps p.tables e below (s₁.setTop (mkF m 5 #[.val (.long q1), .second, .val (.int p2), .val (.long q3), .second] [(.int (lcmpW q1 (60 : Int64)))])) _
    exact k
  by_cases c0 : q1 = (60 : Int64)
  · have pre2 : ∀ t, Steps p.tables e below (s₁.setTop (mkF m 8 #[.val (.long q1), .second, .val (.int p2), .val (.long q3), .second] [])) t → Steps p.tables e below (s₁.setTop (entryFrame m #[(.long q1), (.int p2), (.long q3)] 5)) t := by
      intro t k
      refine pre1 _ ?_
      refine XS.ifNo X0.here hx rfl (hb hby d3_5) rfl ((if0 _ _).trans (teq (own_leq.mpr c0)).2) ?_
      show Steps p.tables e below (s₁.setTop (mkF m 8 #[.val (.long q1), .second, .val (.int p2), .val (.long q3), .second] [])) _
      exact k
    obtain ⟨T3, X3, e3, st3⟩ := getS (host := "") X0 hx hZ hown (hw _ (List.mem_of_getElem? (i := 15) rfl)) Via.refl e0 sR (g := (mkF m 8 #[.val (.long q1), .second, .val (.int p2), .val (.long q3), .second] [])) rfl (hb hby d3_8)
    have pre3 : ∀ t, Steps p.tables e below (T3.setTop (mkF m 11 #[.val (.long q1), .second, .val (.int p2), .val (.long q3), .second] [(.ref ra)])) t → Steps p.tables e below (s₁.setTop (entryFrame m #[(.long q1), (.int p2), (.long q3)] 5)) t := fun t k => pre2 t (st3 t k)
    have pre4 : ∀ t, Steps p.tables e below (T3.setTop (mkF m 13 #[.val (.long q1), .second, .val (.int p2), .val (.long q3), .second] [(.ref (ad 0))])) t → Steps p.tables e below (s₁.setTop (entryFrame m #[(.long q1), (.int p2), (.long q3)] 5)) t := by
      intro t k
      refine pre3 _ ?_
      refine XS.iconst X3.here hx rfl (hb hby d3_11) ?_
      show Steps p.tables e below (T3.setTop (mkF m 12 #[.val (.long q1), .second, .val (.int p2), .val (.long q3), .second] [(.int (0 : Int32)), (.ref ra)])) _
      refine X3.aaload hx (j := (0 : Int32)) (v := (.ref (ad 0))) (by rw [e3]; exact aR.1) (State.isArrayOf_alike hZ.alike aR.2.1) rfl aR.2.2 (own_in (eR 0 (by decide)) (by decide) rfl) (eR 0 (by decide)) (g := (mkF m 12 #[.val (.long q1), .second, .val (.int p2), .val (.long q3), .second] [(.int (0 : Int32)), (.ref ra)])) rfl rfl (hb hby d3_12) _ ?_
      show Steps p.tables e below (T3.setTop (mkF m 13 #[.val (.long q1), .second, .val (.int p2), .val (.long q3), .second] [(.ref (ad 0))])) _
      exact k
    have er : own_row q1 p2 q3 = 0 := (by
          simp only [own_lt, own_eq, own_ltL, own_eqL, own_k0, own_k1, own_k2, own_k3, own_k4, own_k5, own_k6, own_k7, own_k8, own_k9, own_k10, own_k11, own_k12, own_k13, own_k14, own_k15] at *
          unfold own_row
          simp only [own_lt, own_eq, own_ltL, own_eqL, own_k0, own_k1, own_k2, own_k3, own_k4, own_k5, own_k6, own_k7, own_k8, own_k9, own_k10, own_k11, own_k12, own_k13, own_k14, own_k15]
          repeat' split
          all_goals first | rfl | (exfalso; omega))
    obtain ⟨fs, hr, hrun, hended, hW, hsame⟩ := X3.leave (v := some (.ref (ad 0))) (fun h => by rw [Bd.returns] at h; cases h)
    refine ⟨_, _, pre4 _ ?_, hrun, hended, _, _, rfl, ?_, ⟨_, rfl⟩, hW, hsame.mono (by decide) (by decide)⟩
    · exact retOut X3 hx Bd.returns rfl (Or.inr (Or.inr (Or.inr (Or.inr ⟨rfl, rfl, rfl⟩)))) (hb hby d3_13) hr
    · show ((_ : Option Value) = some (.ref (ad (own_row q1 p2 q3))) ∧ Fr n0 _ ∧ T3.heap = h0)
      rw [e3]
      exact ⟨by rw [er], N0, rfl⟩
  · have pre5 : ∀ t, Steps p.tables e below (s₁.setTop (mkF m 19 #[.val (.long q1), .second, .val (.int p2), .val (.long q3), .second] [(.int (lcmpW q1 (600 : Int64)))])) t → Steps p.tables e below (s₁.setTop (entryFrame m #[(.long q1), (.int p2), (.long q3)] 5)) t := by
      intro t k
      refine pre1 _ ?_
      refine XS.ifYes X0.here hx rfl (pc0 := 5) (pc' := 14) rfl (hb hby d3_5) rfl ((if0 _ _).trans (feq (mt own_leq.mp c0)).2) (by decide) (by decide) ?_
      show Steps p.tables e below (s₁.setTop (mkF m 14 #[.val (.long q1), .second, .val (.int p2), .val (.long q3), .second] [])) _
      refine XS.lloadN X0.here hx rfl (hb hby d3_14) rfl ?_
      show Steps p.tables e below (s₁.setTop (mkF m 15 #[.val (.long q1), .second, .val (.int p2), .val (.long q3), .second] [(.long q1)])) _
      refine X0.ldc2Long hx hown (mvT hZ (hw _ (List.mem_of_getElem? (i := 14) rfl))) (g := (mkF m 15 #[.val (.long q1), .second, .val (.int p2), .val (.long q3), .second] [(.long q1)])) rfl (hb hby d3_15) _ ?_
      show Steps p.tables e below (s₁.setTop (mkF m 18 #[.val (.long q1), .second, .val (.int p2), .val (.long q3), .second] [(.long (600 : Int64)), (.long q1)])) _
      refine XS.lcmp X0.here hx rfl (hb hby d3_18) rfl ?_
      show Steps p.tables e below (s₁.setTop (mkF m 19 #[.val (.long q1), .second, .val (.int p2), .val (.long q3), .second] [(.int (lcmpW q1 (600 : Int64)))])) _
      exact k
    by_cases c1 : (600 : Int64) < q1
    · have pre6 : ∀ t, Steps p.tables e below (s₁.setTop (mkF m 29 #[.val (.long q1), .second, .val (.int p2), .val (.long q3), .second] [(.long q1)])) t → Steps p.tables e below (s₁.setTop (entryFrame m #[(.long q1), (.int p2), (.long q3)] 5)) t := by
        intro t k
        refine pre5 _ ?_
        refine XS.ifYes X0.here hx rfl (pc0 := 19) (pc' := 28) rfl (hb hby d3_19) rfl ((if0 _ _).trans (tlt (own_lgt.mpr c1)).2.2.1) (by decide) (by decide) ?_
        show Steps p.tables e below (s₁.setTop (mkF m 28 #[.val (.long q1), .second, .val (.int p2), .val (.long q3), .second] [])) _
        refine XS.lloadN X0.here hx rfl (hb hby d3_28) rfl ?_
        show Steps p.tables e below (s₁.setTop (mkF m 29 #[.val (.long q1), .second, .val (.int p2), .val (.long q3), .second] [(.long q1)])) _
        exact k
      obtain ⟨T7, X7, e7, st7⟩ := getS (host := "") X0 hx hZ hown (hw _ (List.mem_of_getElem? (i := 42) rfl)) Via.refl e0 sD (g := (mkF m 29 #[.val (.long q1), .second, .val (.int p2), .val (.long q3), .second] [(.long q1)])) rfl (hb hby d3_29)
      have pre7 : ∀ t, Steps p.tables e below (T7.setTop (mkF m 32 #[.val (.long q1), .second, .val (.int p2), .val (.long q3), .second] [(.ref da), (.long q1)])) t → Steps p.tables e below (s₁.setTop (entryFrame m #[(.long q1), (.int p2), (.long q3)] 5)) t := fun t k => pre6 t (st7 t k)
      have pre8 : ∀ t, Steps p.tables e below (T7.setTop (mkF m 35 #[.val (.long q1), .second, .val (.int p2), .val (.long q3), .second] [(.int (lcmpW q1 (18000 : Int64)))])) t → Steps p.tables e below (s₁.setTop (entryFrame m #[(.long q1), (.int p2), (.long q3)] 5)) t := by
        intro t k
        refine pre7 _ ?_
        refine XS.iconst X7.here hx rfl (hb hby d3_32) ?_
        show Steps p.tables e below (T7.setTop (mkF m 33 #[.val (.long q1), .second, .val (.int p2), .val (.long q3), .second] [(.int (0 : Int32)), (.ref da), (.long q1)])) _
        refine X7.laload hx (j := (0 : Int32)) (v := (.long (18000 : Int64))) (by rw [e7]; exact aD.1) (State.isArrayOf_alike hZ.alike aD.2.1) aD.2.2 (own_in (eD 0 (by decide)) (by decide) rfl) (eD 0 (by decide)) (g := (mkF m 33 #[.val (.long q1), .second, .val (.int p2), .val (.long q3), .second] [(.int (0 : Int32)), (.ref da), (.long q1)])) rfl rfl (hb hby d3_33) _ ?_
        show Steps p.tables e below (T7.setTop (mkF m 34 #[.val (.long q1), .second, .val (.int p2), .val (.long q3), .second] [(.long (18000 : Int64)), (.long q1)])) _
        refine XS.lcmp X7.here hx rfl (hb hby d3_34) rfl ?_
        show Steps p.tables e below (T7.setTop (mkF m 35 #[.val (.long q1), .second, .val (.int p2), .val (.long q3), .second] [(.int (lcmpW q1 (18000 : Int64)))])) _
        exact k
      by_cases c2 : q1 < (18000 : Int64)
      · have pre9 : ∀ t, Steps p.tables e below (T7.setTop (mkF m 40 #[.val (.long q1), .second, .val (.int p2), .val (.long q3), .second] [(.int (1 : Int32)), (.int p2)])) t → Steps p.tables e below (s₁.setTop (entryFrame m #[(.long q1), (.int p2), (.long q3)] 5)) t := by
          intro t k
          refine pre8 _ ?_
          refine XS.ifNo X7.here hx rfl (hb hby d3_35) rfl ((if0 _ _).trans (tlt (own_llt.mpr c2)).2.1) ?_
          show Steps p.tables e below (T7.setTop (mkF m 38 #[.val (.long q1), .second, .val (.int p2), .val (.long q3), .second] [])) _
          refine XS.iloadN X7.here hx rfl (hb hby d3_38) rfl ?_
          show Steps p.tables e below (T7.setTop (mkF m 39 #[.val (.long q1), .second, .val (.int p2), .val (.long q3), .second] [(.int p2)])) _
          refine XS.iconst X7.here hx rfl (hb hby d3_39) ?_
          show Steps p.tables e below (T7.setTop (mkF m 40 #[.val (.long q1), .second, .val (.int p2), .val (.long q3), .second] [(.int (1 : Int32)), (.int p2)])) _
          exact k
        by_cases c3 : p2 = (1 : Int32)
        · have pre10 : ∀ t, Steps p.tables e below (T7.setTop (mkF m 43 #[.val (.long q1), .second, .val (.int p2), .val (.long q3), .second] [])) t → Steps p.tables e below (s₁.setTop (entryFrame m #[(.long q1), (.int p2), (.long q3)] 5)) t := by
            intro t k
            refine pre9 _ ?_
            refine XS.icmpNo X7.here hx rfl (hb hby d3_40) rfl (teq c3).2 ?_
            show Steps p.tables e below (T7.setTop (mkF m 43 #[.val (.long q1), .second, .val (.int p2), .val (.long q3), .second] [])) _
            exact k
          obtain ⟨T11, X11, e11, st11⟩ := getS (host := "") X7 hx hZ hown (hw _ (List.mem_of_getElem? (i := 15) rfl)) Via.refl e7 sR (g := (mkF m 43 #[.val (.long q1), .second, .val (.int p2), .val (.long q3), .second] [])) rfl (hb hby d3_43)
          have pre11 : ∀ t, Steps p.tables e below (T11.setTop (mkF m 46 #[.val (.long q1), .second, .val (.int p2), .val (.long q3), .second] [(.ref ra)])) t → Steps p.tables e below (s₁.setTop (entryFrame m #[(.long q1), (.int p2), (.long q3)] 5)) t := fun t k => pre10 t (st11 t k)
          have pre12 : ∀ t, Steps p.tables e below (T11.setTop (mkF m 48 #[.val (.long q1), .second, .val (.int p2), .val (.long q3), .second] [(.ref (ad 3))])) t → Steps p.tables e below (s₁.setTop (entryFrame m #[(.long q1), (.int p2), (.long q3)] 5)) t := by
            intro t k
            refine pre11 _ ?_
            refine XS.iconst X11.here hx rfl (hb hby d3_46) ?_
            show Steps p.tables e below (T11.setTop (mkF m 47 #[.val (.long q1), .second, .val (.int p2), .val (.long q3), .second] [(.int (3 : Int32)), (.ref ra)])) _
            refine X11.aaload hx (j := (3 : Int32)) (v := (.ref (ad 3))) (by rw [e11]; exact aR.1) (State.isArrayOf_alike hZ.alike aR.2.1) rfl aR.2.2 (own_in (eR 3 (by decide)) (by decide) rfl) (eR 3 (by decide)) (g := (mkF m 47 #[.val (.long q1), .second, .val (.int p2), .val (.long q3), .second] [(.int (3 : Int32)), (.ref ra)])) rfl rfl (hb hby d3_47) _ ?_
            show Steps p.tables e below (T11.setTop (mkF m 48 #[.val (.long q1), .second, .val (.int p2), .val (.long q3), .second] [(.ref (ad 3))])) _
            exact k
          have er : own_row q1 p2 q3 = 3 := (by
          simp only [own_lt, own_eq, own_ltL, own_eqL, own_k0, own_k1, own_k2, own_k3, own_k4, own_k5, own_k6, own_k7, own_k8, own_k9, own_k10, own_k11, own_k12, own_k13, own_k14, own_k15] at *
          unfold own_row
          simp only [own_lt, own_eq, own_ltL, own_eqL, own_k0, own_k1, own_k2, own_k3, own_k4, own_k5, own_k6, own_k7, own_k8, own_k9, own_k10, own_k11, own_k12, own_k13, own_k14, own_k15]
          repeat' split
          all_goals first | rfl | (exfalso; omega))
          obtain ⟨fs, hr, hrun, hended, hW, hsame⟩ := X11.leave (v := some (.ref (ad 3))) (fun h => by rw [Bd.returns] at h; cases h)
          refine ⟨_, _, pre12 _ ?_, hrun, hended, _, _, rfl, ?_, ⟨_, rfl⟩, hW, hsame.mono (by decide) (by decide)⟩
          · exact retOut X11 hx Bd.returns rfl (Or.inr (Or.inr (Or.inr (Or.inr ⟨rfl, rfl, rfl⟩)))) (hb hby d3_48) hr
          · show ((_ : Option Value) = some (.ref (ad (own_row q1 p2 q3))) ∧ Fr n0 _ ∧ T11.heap = h0)
            rw [e11]
            exact ⟨by rw [er], N0, rfl⟩
        · have pre13 : ∀ t, Steps p.tables e below (T7.setTop (mkF m 51 #[.val (.long q1), .second, .val (.int p2), .val (.long q3), .second] [(.int (4 : Int32)), (.int p2)])) t → Steps p.tables e below (s₁.setTop (entryFrame m #[(.long q1), (.int p2), (.long q3)] 5)) t := by
            intro t k
            refine pre9 _ ?_
            refine XS.icmpYes X7.here hx rfl (pc0 := 40) (pc' := 49) rfl (hb hby d3_40) rfl (feq c3).2 (by decide) (by decide) ?_
            show Steps p.tables e below (T7.setTop (mkF m 49 #[.val (.long q1), .second, .val (.int p2), .val (.long q3), .second] [])) _
            refine XS.iloadN X7.here hx rfl (hb hby d3_49) rfl ?_
            show Steps p.tables e below (T7.setTop (mkF m 50 #[.val (.long q1), .second, .val (.int p2), .val (.long q3), .second] [(.int p2)])) _
            refine XS.iconst X7.here hx rfl (hb hby d3_50) ?_
            show Steps p.tables e below (T7.setTop (mkF m 51 #[.val (.long q1), .second, .val (.int p2), .val (.long q3), .second] [(.int (4 : Int32)), (.int p2)])) _
            exact k
          by_cases c4 : (4 : Int32) < p2
          · have pre14 : ∀ t, Steps p.tables e below (T7.setTop (mkF m 57 #[.val (.long q1), .second, .val (.int p2), .val (.long q3), .second] [(.int (9 : Int32)), (.int p2)])) t → Steps p.tables e below (s₁.setTop (entryFrame m #[(.long q1), (.int p2), (.long q3)] 5)) t := by
              intro t k
              refine pre13 _ ?_
              refine XS.icmpNo X7.here hx rfl (hb hby d3_51) rfl (tlt c4).2.2.2 ?_
              show Steps p.tables e below (T7.setTop (mkF m 54 #[.val (.long q1), .second, .val (.int p2), .val (.long q3), .second] [])) _
              refine XS.iloadN X7.here hx rfl (hb hby d3_54) rfl ?_
              show Steps p.tables e below (T7.setTop (mkF m 55 #[.val (.long q1), .second, .val (.int p2), .val (.long q3), .second] [(.int p2)])) _
              refine XS.bipush X7.here hx rfl (hb hby d3_55) ?_
              show Steps p.tables e below (T7.setTop (mkF m 57 #[.val (.long q1), .second, .val (.int p2), .val (.long q3), .second] [(.int (9 : Int32)), (.int p2)])) _
              exact k
            by_cases c5 : p2 < (9 : Int32)
            · have pre15 : ∀ t, Steps p.tables e below (T7.setTop (mkF m 74 #[.val (.long q1), .second, .val (.int p2), .val (.long q3), .second] [])) t → Steps p.tables e below (s₁.setTop (entryFrame m #[(.long q1), (.int p2), (.long q3)] 5)) t := by
                intro t k
                refine pre14 _ ?_
                refine XS.icmpYes X7.here hx rfl (pc0 := 57) (pc' := 74) rfl (hb hby d3_57) rfl (tlt c5).1 (by decide) (by decide) ?_
                show Steps p.tables e below (T7.setTop (mkF m 74 #[.val (.long q1), .second, .val (.int p2), .val (.long q3), .second] [])) _
                exact k
              obtain ⟨T16, X16, e16, st16⟩ := getS (host := "") X7 hx hZ hown (hw _ (List.mem_of_getElem? (i := 15) rfl)) Via.refl e7 sR (g := (mkF m 74 #[.val (.long q1), .second, .val (.int p2), .val (.long q3), .second] [])) rfl (hb hby d3_74)
              have pre16 : ∀ t, Steps p.tables e below (T16.setTop (mkF m 77 #[.val (.long q1), .second, .val (.int p2), .val (.long q3), .second] [(.ref ra)])) t → Steps p.tables e below (s₁.setTop (entryFrame m #[(.long q1), (.int p2), (.long q3)] 5)) t := fun t k => pre15 t (st16 t k)
              have pre17 : ∀ t, Steps p.tables e below (T16.setTop (mkF m 79 #[.val (.long q1), .second, .val (.int p2), .val (.long q3), .second] [(.ref (ad 4))])) t → Steps p.tables e below (s₁.setTop (entryFrame m #[(.long q1), (.int p2), (.long q3)] 5)) t := by
                intro t k
                refine pre16 _ ?_
                refine XS.iconst X16.here hx rfl (hb hby d3_77) ?_
                show Steps p.tables e below (T16.setTop (mkF m 78 #[.val (.long q1), .second, .val (.int p2), .val (.long q3), .second] [(.int (4 : Int32)), (.ref ra)])) _
                refine X16.aaload hx (j := (4 : Int32)) (v := (.ref (ad 4))) (by rw [e16]; exact aR.1) (State.isArrayOf_alike hZ.alike aR.2.1) rfl aR.2.2 (own_in (eR 4 (by decide)) (by decide) rfl) (eR 4 (by decide)) (g := (mkF m 78 #[.val (.long q1), .second, .val (.int p2), .val (.long q3), .second] [(.int (4 : Int32)), (.ref ra)])) rfl rfl (hb hby d3_78) _ ?_
                show Steps p.tables e below (T16.setTop (mkF m 79 #[.val (.long q1), .second, .val (.int p2), .val (.long q3), .second] [(.ref (ad 4))])) _
                exact k
              have er : own_row q1 p2 q3 = 4 := (by
          simp only [own_lt, own_eq, own_ltL, own_eqL, own_k0, own_k1, own_k2, own_k3, own_k4, own_k5, own_k6, own_k7, own_k8, own_k9, own_k10, own_k11, own_k12, own_k13, own_k14, own_k15] at *
          unfold own_row
          simp only [own_lt, own_eq, own_ltL, own_eqL, own_k0, own_k1, own_k2, own_k3, own_k4, own_k5, own_k6, own_k7, own_k8, own_k9, own_k10, own_k11, own_k12, own_k13, own_k14, own_k15]
          repeat' split
          all_goals first | rfl | (exfalso; omega))
              obtain ⟨fs, hr, hrun, hended, hW, hsame⟩ := X16.leave (v := some (.ref (ad 4))) (fun h => by rw [Bd.returns] at h; cases h)
              refine ⟨_, _, pre17 _ ?_, hrun, hended, _, _, rfl, ?_, ⟨_, rfl⟩, hW, hsame.mono (by decide) (by decide)⟩
              · exact retOut X16 hx Bd.returns rfl (Or.inr (Or.inr (Or.inr (Or.inr ⟨rfl, rfl, rfl⟩)))) (hb hby d3_79) hr
              · show ((_ : Option Value) = some (.ref (ad (own_row q1 p2 q3))) ∧ Fr n0 _ ∧ T16.heap = h0)
                rw [e16]
                exact ⟨by rw [er], N0, rfl⟩
            · have pre18 : ∀ t, Steps p.tables e below (T7.setTop (mkF m 63 #[.val (.long q1), .second, .val (.int p2), .val (.long q3), .second] [(.int (32 : Int32)), (.int p2)])) t → Steps p.tables e below (s₁.setTop (entryFrame m #[(.long q1), (.int p2), (.long q3)] 5)) t := by
                intro t k
                refine pre14 _ ?_
                refine XS.icmpNo X7.here hx rfl (hb hby d3_57) rfl (flt c5).1 ?_
                show Steps p.tables e below (T7.setTop (mkF m 60 #[.val (.long q1), .second, .val (.int p2), .val (.long q3), .second] [])) _
                refine XS.iloadN X7.here hx rfl (hb hby d3_60) rfl ?_
                show Steps p.tables e below (T7.setTop (mkF m 61 #[.val (.long q1), .second, .val (.int p2), .val (.long q3), .second] [(.int p2)])) _
                refine XS.bipush X7.here hx rfl (hb hby d3_61) ?_
                show Steps p.tables e below (T7.setTop (mkF m 63 #[.val (.long q1), .second, .val (.int p2), .val (.long q3), .second] [(.int (32 : Int32)), (.int p2)])) _
                exact k
              by_cases c6 : (32 : Int32) < p2
              · have pre19 : ∀ t, Steps p.tables e below (T7.setTop (mkF m 74 #[.val (.long q1), .second, .val (.int p2), .val (.long q3), .second] [])) t → Steps p.tables e below (s₁.setTop (entryFrame m #[(.long q1), (.int p2), (.long q3)] 5)) t := by
                  intro t k
                  refine pre18 _ ?_
                  refine XS.icmpYes X7.here hx rfl (pc0 := 63) (pc' := 74) rfl (hb hby d3_63) rfl (tlt c6).2.2.1 (by decide) (by decide) ?_
                  show Steps p.tables e below (T7.setTop (mkF m 74 #[.val (.long q1), .second, .val (.int p2), .val (.long q3), .second] [])) _
                  exact k
                obtain ⟨T20, X20, e20, st20⟩ := getS (host := "") X7 hx hZ hown (hw _ (List.mem_of_getElem? (i := 15) rfl)) Via.refl e7 sR (g := (mkF m 74 #[.val (.long q1), .second, .val (.int p2), .val (.long q3), .second] [])) rfl (hb hby d3_74)
                have pre20 : ∀ t, Steps p.tables e below (T20.setTop (mkF m 77 #[.val (.long q1), .second, .val (.int p2), .val (.long q3), .second] [(.ref ra)])) t → Steps p.tables e below (s₁.setTop (entryFrame m #[(.long q1), (.int p2), (.long q3)] 5)) t := fun t k => pre19 t (st20 t k)
                have pre21 : ∀ t, Steps p.tables e below (T20.setTop (mkF m 79 #[.val (.long q1), .second, .val (.int p2), .val (.long q3), .second] [(.ref (ad 4))])) t → Steps p.tables e below (s₁.setTop (entryFrame m #[(.long q1), (.int p2), (.long q3)] 5)) t := by
                  intro t k
                  refine pre20 _ ?_
                  refine XS.iconst X20.here hx rfl (hb hby d3_77) ?_
                  show Steps p.tables e below (T20.setTop (mkF m 78 #[.val (.long q1), .second, .val (.int p2), .val (.long q3), .second] [(.int (4 : Int32)), (.ref ra)])) _
                  refine X20.aaload hx (j := (4 : Int32)) (v := (.ref (ad 4))) (by rw [e20]; exact aR.1) (State.isArrayOf_alike hZ.alike aR.2.1) rfl aR.2.2 (own_in (eR 4 (by decide)) (by decide) rfl) (eR 4 (by decide)) (g := (mkF m 78 #[.val (.long q1), .second, .val (.int p2), .val (.long q3), .second] [(.int (4 : Int32)), (.ref ra)])) rfl rfl (hb hby d3_78) _ ?_
                  show Steps p.tables e below (T20.setTop (mkF m 79 #[.val (.long q1), .second, .val (.int p2), .val (.long q3), .second] [(.ref (ad 4))])) _
                  exact k
                have er : own_row q1 p2 q3 = 4 := (by
          simp only [own_lt, own_eq, own_ltL, own_eqL, own_k0, own_k1, own_k2, own_k3, own_k4, own_k5, own_k6, own_k7, own_k8, own_k9, own_k10, own_k11, own_k12, own_k13, own_k14, own_k15] at *
          unfold own_row
          simp only [own_lt, own_eq, own_ltL, own_eqL, own_k0, own_k1, own_k2, own_k3, own_k4, own_k5, own_k6, own_k7, own_k8, own_k9, own_k10, own_k11, own_k12, own_k13, own_k14, own_k15]
          repeat' split
          all_goals first | rfl | (exfalso; omega))
                obtain ⟨fs, hr, hrun, hended, hW, hsame⟩ := X20.leave (v := some (.ref (ad 4))) (fun h => by rw [Bd.returns] at h; cases h)
                refine ⟨_, _, pre21 _ ?_, hrun, hended, _, _, rfl, ?_, ⟨_, rfl⟩, hW, hsame.mono (by decide) (by decide)⟩
                · exact retOut X20 hx Bd.returns rfl (Or.inr (Or.inr (Or.inr (Or.inr ⟨rfl, rfl, rfl⟩)))) (hb hby d3_79) hr
                · show ((_ : Option Value) = some (.ref (ad (own_row q1 p2 q3))) ∧ Fr n0 _ ∧ T20.heap = h0)
                  rw [e20]
                  exact ⟨by rw [er], N0, rfl⟩
              · have pre22 : ∀ t, Steps p.tables e below (T7.setTop (mkF m 66 #[.val (.long q1), .second, .val (.int p2), .val (.long q3), .second] [])) t → Steps p.tables e below (s₁.setTop (entryFrame m #[(.long q1), (.int p2), (.long q3)] 5)) t := by
                  intro t k
                  refine pre18 _ ?_
                  refine XS.icmpNo X7.here hx rfl (hb hby d3_63) rfl (flt c6).2.2.1 ?_
                  show Steps p.tables e below (T7.setTop (mkF m 66 #[.val (.long q1), .second, .val (.int p2), .val (.long q3), .second] [])) _
                  exact k
                obtain ⟨T23, X23, e23, st23⟩ := getS (host := "") X7 hx hZ hown (hw _ (List.mem_of_getElem? (i := 15) rfl)) Via.refl e7 sR (g := (mkF m 66 #[.val (.long q1), .second, .val (.int p2), .val (.long q3), .second] [])) rfl (hb hby d3_66)
                have pre23 : ∀ t, Steps p.tables e below (T23.setTop (mkF m 69 #[.val (.long q1), .second, .val (.int p2), .val (.long q3), .second] [(.ref ra)])) t → Steps p.tables e below (s₁.setTop (entryFrame m #[(.long q1), (.int p2), (.long q3)] 5)) t := fun t k => pre22 t (st23 t k)
                have pre24 : ∀ t, Steps p.tables e below (T23.setTop (mkF m 79 #[.val (.long q1), .second, .val (.int p2), .val (.long q3), .second] [(.ref (ad 2))])) t → Steps p.tables e below (s₁.setTop (entryFrame m #[(.long q1), (.int p2), (.long q3)] 5)) t := by
                  intro t k
                  refine pre23 _ ?_
                  refine XS.iconst X23.here hx rfl (hb hby d3_69) ?_
                  show Steps p.tables e below (T23.setTop (mkF m 70 #[.val (.long q1), .second, .val (.int p2), .val (.long q3), .second] [(.int (2 : Int32)), (.ref ra)])) _
                  refine X23.aaload hx (j := (2 : Int32)) (v := (.ref (ad 2))) (by rw [e23]; exact aR.1) (State.isArrayOf_alike hZ.alike aR.2.1) rfl aR.2.2 (own_in (eR 2 (by decide)) (by decide) rfl) (eR 2 (by decide)) (g := (mkF m 70 #[.val (.long q1), .second, .val (.int p2), .val (.long q3), .second] [(.int (2 : Int32)), (.ref ra)])) rfl rfl (hb hby d3_70) _ ?_
                  show Steps p.tables e below (T23.setTop (mkF m 71 #[.val (.long q1), .second, .val (.int p2), .val (.long q3), .second] [(.ref (ad 2))])) _
                  refine XS.goto X23.here hx rfl (pc0 := 71) (pc' := 79) rfl (hb hby d3_71) (by decide) (by decide) ?_
                  show Steps p.tables e below (T23.setTop (mkF m 79 #[.val (.long q1), .second, .val (.int p2), .val (.long q3), .second] [(.ref (ad 2))])) _
                  exact k
                have er : own_row q1 p2 q3 = 2 := (by
          simp only [own_lt, own_eq, own_ltL, own_eqL, own_k0, own_k1, own_k2, own_k3, own_k4, own_k5, own_k6, own_k7, own_k8, own_k9, own_k10, own_k11, own_k12, own_k13, own_k14, own_k15] at *
          unfold own_row
          simp only [own_lt, own_eq, own_ltL, own_eqL, own_k0, own_k1, own_k2, own_k3, own_k4, own_k5, own_k6, own_k7, own_k8, own_k9, own_k10, own_k11, own_k12, own_k13, own_k14, own_k15]
          repeat' split
          all_goals first | rfl | (exfalso; omega))
                obtain ⟨fs, hr, hrun, hended, hW, hsame⟩ := X23.leave (v := some (.ref (ad 2))) (fun h => by rw [Bd.returns] at h; cases h)
                refine ⟨_, _, pre24 _ ?_, hrun, hended, _, _, rfl, ?_, ⟨_, rfl⟩, hW, hsame.mono (by decide) (by decide)⟩
                · exact retOut X23 hx Bd.returns rfl (Or.inr (Or.inr (Or.inr (Or.inr ⟨rfl, rfl, rfl⟩)))) (hb hby d3_79) hr
                · show ((_ : Option Value) = some (.ref (ad (own_row q1 p2 q3))) ∧ Fr n0 _ ∧ T23.heap = h0)
                  rw [e23]
                  exact ⟨by rw [er], N0, rfl⟩
          · have pre25 : ∀ t, Steps p.tables e below (T7.setTop (mkF m 66 #[.val (.long q1), .second, .val (.int p2), .val (.long q3), .second] [])) t → Steps p.tables e below (s₁.setTop (entryFrame m #[(.long q1), (.int p2), (.long q3)] 5)) t := by
              intro t k
              refine pre13 _ ?_
              refine XS.icmpYes X7.here hx rfl (pc0 := 51) (pc' := 66) rfl (hb hby d3_51) rfl (flt c4).2.2.2 (by decide) (by decide) ?_
              show Steps p.tables e below (T7.setTop (mkF m 66 #[.val (.long q1), .second, .val (.int p2), .val (.long q3), .second] [])) _
              exact k
            obtain ⟨T26, X26, e26, st26⟩ := getS (host := "") X7 hx hZ hown (hw _ (List.mem_of_getElem? (i := 15) rfl)) Via.refl e7 sR (g := (mkF m 66 #[.val (.long q1), .second, .val (.int p2), .val (.long q3), .second] [])) rfl (hb hby d3_66)
            have pre26 : ∀ t, Steps p.tables e below (T26.setTop (mkF m 69 #[.val (.long q1), .second, .val (.int p2), .val (.long q3), .second] [(.ref ra)])) t → Steps p.tables e below (s₁.setTop (entryFrame m #[(.long q1), (.int p2), (.long q3)] 5)) t := fun t k => pre25 t (st26 t k)
            have pre27 : ∀ t, Steps p.tables e below (T26.setTop (mkF m 79 #[.val (.long q1), .second, .val (.int p2), .val (.long q3), .second] [(.ref (ad 2))])) t → Steps p.tables e below (s₁.setTop (entryFrame m #[(.long q1), (.int p2), (.long q3)] 5)) t := by
              intro t k
              refine pre26 _ ?_
              refine XS.iconst X26.here hx rfl (hb hby d3_69) ?_
              show Steps p.tables e below (T26.setTop (mkF m 70 #[.val (.long q1), .second, .val (.int p2), .val (.long q3), .second] [(.int (2 : Int32)), (.ref ra)])) _
              refine X26.aaload hx (j := (2 : Int32)) (v := (.ref (ad 2))) (by rw [e26]; exact aR.1) (State.isArrayOf_alike hZ.alike aR.2.1) rfl aR.2.2 (own_in (eR 2 (by decide)) (by decide) rfl) (eR 2 (by decide)) (g := (mkF m 70 #[.val (.long q1), .second, .val (.int p2), .val (.long q3), .second] [(.int (2 : Int32)), (.ref ra)])) rfl rfl (hb hby d3_70) _ ?_
              show Steps p.tables e below (T26.setTop (mkF m 71 #[.val (.long q1), .second, .val (.int p2), .val (.long q3), .second] [(.ref (ad 2))])) _
              refine XS.goto X26.here hx rfl (pc0 := 71) (pc' := 79) rfl (hb hby d3_71) (by decide) (by decide) ?_
              show Steps p.tables e below (T26.setTop (mkF m 79 #[.val (.long q1), .second, .val (.int p2), .val (.long q3), .second] [(.ref (ad 2))])) _
              exact k
            have er : own_row q1 p2 q3 = 2 := (by
          simp only [own_lt, own_eq, own_ltL, own_eqL, own_k0, own_k1, own_k2, own_k3, own_k4, own_k5, own_k6, own_k7, own_k8, own_k9, own_k10, own_k11, own_k12, own_k13, own_k14, own_k15] at *
          unfold own_row
          simp only [own_lt, own_eq, own_ltL, own_eqL, own_k0, own_k1, own_k2, own_k3, own_k4, own_k5, own_k6, own_k7, own_k8, own_k9, own_k10, own_k11, own_k12, own_k13, own_k14, own_k15]
          repeat' split
          all_goals first | rfl | (exfalso; omega))
            obtain ⟨fs, hr, hrun, hended, hW, hsame⟩ := X26.leave (v := some (.ref (ad 2))) (fun h => by rw [Bd.returns] at h; cases h)
            refine ⟨_, _, pre27 _ ?_, hrun, hended, _, _, rfl, ?_, ⟨_, rfl⟩, hW, hsame.mono (by decide) (by decide)⟩
            · exact retOut X26 hx Bd.returns rfl (Or.inr (Or.inr (Or.inr (Or.inr ⟨rfl, rfl, rfl⟩)))) (hb hby d3_79) hr
            · show ((_ : Option Value) = some (.ref (ad (own_row q1 p2 q3))) ∧ Fr n0 _ ∧ T26.heap = h0)
              rw [e26]
              exact ⟨by rw [er], N0, rfl⟩
      · have pre28 : ∀ t, Steps p.tables e below (T7.setTop (mkF m 81 #[.val (.long q1), .second, .val (.int p2), .val (.long q3), .second] [(.long q1)])) t → Steps p.tables e below (s₁.setTop (entryFrame m #[(.long q1), (.int p2), (.long q3)] 5)) t := by
          intro t k
          refine pre8 _ ?_
          refine XS.ifYes X7.here hx rfl (pc0 := 35) (pc' := 80) rfl (hb hby d3_35) rfl ((if0 _ _).trans (flt (mt own_llt.mp c2)).2.1) (by decide) (by decide) ?_
          show Steps p.tables e below (T7.setTop (mkF m 80 #[.val (.long q1), .second, .val (.int p2), .val (.long q3), .second] [])) _
          refine XS.lloadN X7.here hx rfl (hb hby d3_80) rfl ?_
          show Steps p.tables e below (T7.setTop (mkF m 81 #[.val (.long q1), .second, .val (.int p2), .val (.long q3), .second] [(.long q1)])) _
          exact k
        obtain ⟨T29, X29, e29, st29⟩ := getS (host := "") X7 hx hZ hown (hw _ (List.mem_of_getElem? (i := 42) rfl)) Via.refl e7 sD (g := (mkF m 81 #[.val (.long q1), .second, .val (.int p2), .val (.long q3), .second] [(.long q1)])) rfl (hb hby d3_81)
        have pre29 : ∀ t, Steps p.tables e below (T29.setTop (mkF m 84 #[.val (.long q1), .second, .val (.int p2), .val (.long q3), .second] [(.ref da), (.long q1)])) t → Steps p.tables e below (s₁.setTop (entryFrame m #[(.long q1), (.int p2), (.long q3)] 5)) t := fun t k => pre28 t (st29 t k)
        have pre30 : ∀ t, Steps p.tables e below (T29.setTop (mkF m 87 #[.val (.long q1), .second, .val (.int p2), .val (.long q3), .second] [(.int (lcmpW q1 (18000 : Int64)))])) t → Steps p.tables e below (s₁.setTop (entryFrame m #[(.long q1), (.int p2), (.long q3)] 5)) t := by
          intro t k
          refine pre29 _ ?_
          refine XS.iconst X29.here hx rfl (hb hby d3_84) ?_
          show Steps p.tables e below (T29.setTop (mkF m 85 #[.val (.long q1), .second, .val (.int p2), .val (.long q3), .second] [(.int (0 : Int32)), (.ref da), (.long q1)])) _
          refine X29.laload hx (j := (0 : Int32)) (v := (.long (18000 : Int64))) (by rw [e29]; exact aD.1) (State.isArrayOf_alike hZ.alike aD.2.1) aD.2.2 (own_in (eD 0 (by decide)) (by decide) rfl) (eD 0 (by decide)) (g := (mkF m 85 #[.val (.long q1), .second, .val (.int p2), .val (.long q3), .second] [(.int (0 : Int32)), (.ref da), (.long q1)])) rfl rfl (hb hby d3_85) _ ?_
          show Steps p.tables e below (T29.setTop (mkF m 86 #[.val (.long q1), .second, .val (.int p2), .val (.long q3), .second] [(.long (18000 : Int64)), (.long q1)])) _
          refine XS.lcmp X29.here hx rfl (hb hby d3_86) rfl ?_
          show Steps p.tables e below (T29.setTop (mkF m 87 #[.val (.long q1), .second, .val (.int p2), .val (.long q3), .second] [(.int (lcmpW q1 (18000 : Int64)))])) _
          exact k
        by_cases c3 : q1 = (18000 : Int64)
        · have pre31 : ∀ t, Steps p.tables e below (T29.setTop (mkF m 92 #[.val (.long q1), .second, .val (.int p2), .val (.long q3), .second] [(.int (2 : Int32)), (.int p2)])) t → Steps p.tables e below (s₁.setTop (entryFrame m #[(.long q1), (.int p2), (.long q3)] 5)) t := by
            intro t k
            refine pre30 _ ?_
            refine XS.ifNo X29.here hx rfl (hb hby d3_87) rfl ((if0 _ _).trans (teq (own_leq.mpr c3)).2) ?_
            show Steps p.tables e below (T29.setTop (mkF m 90 #[.val (.long q1), .second, .val (.int p2), .val (.long q3), .second] [])) _
            refine XS.iloadN X29.here hx rfl (hb hby d3_90) rfl ?_
            show Steps p.tables e below (T29.setTop (mkF m 91 #[.val (.long q1), .second, .val (.int p2), .val (.long q3), .second] [(.int p2)])) _
            refine XS.iconst X29.here hx rfl (hb hby d3_91) ?_
            show Steps p.tables e below (T29.setTop (mkF m 92 #[.val (.long q1), .second, .val (.int p2), .val (.long q3), .second] [(.int (2 : Int32)), (.int p2)])) _
            exact k
          by_cases c4 : (2 : Int32) < p2
          · have pre32 : ∀ t, Steps p.tables e below (T29.setTop (mkF m 98 #[.val (.long q1), .second, .val (.int p2), .val (.long q3), .second] [(.int (8 : Int32)), (.int p2)])) t → Steps p.tables e below (s₁.setTop (entryFrame m #[(.long q1), (.int p2), (.long q3)] 5)) t := by
              intro t k
              refine pre31 _ ?_
              refine XS.icmpNo X29.here hx rfl (hb hby d3_92) rfl (tlt c4).2.2.2 ?_
              show Steps p.tables e below (T29.setTop (mkF m 95 #[.val (.long q1), .second, .val (.int p2), .val (.long q3), .second] [])) _
              refine XS.iloadN X29.here hx rfl (hb hby d3_95) rfl ?_
              show Steps p.tables e below (T29.setTop (mkF m 96 #[.val (.long q1), .second, .val (.int p2), .val (.long q3), .second] [(.int p2)])) _
              refine XS.bipush X29.here hx rfl (hb hby d3_96) ?_
              show Steps p.tables e below (T29.setTop (mkF m 98 #[.val (.long q1), .second, .val (.int p2), .val (.long q3), .second] [(.int (8 : Int32)), (.int p2)])) _
              exact k
            by_cases c5 : (8 : Int32) < p2
            · have pre33 : ∀ t, Steps p.tables e below (T29.setTop (mkF m 118 #[.val (.long q1), .second, .val (.int p2), .val (.long q3), .second] [(.int (8 : Int32)), (.int p2)])) t → Steps p.tables e below (s₁.setTop (entryFrame m #[(.long q1), (.int p2), (.long q3)] 5)) t := by
                intro t k
                refine pre32 _ ?_
                refine XS.icmpYes X29.here hx rfl (pc0 := 98) (pc' := 115) rfl (hb hby d3_98) rfl (tlt c5).2.2.1 (by decide) (by decide) ?_
                show Steps p.tables e below (T29.setTop (mkF m 115 #[.val (.long q1), .second, .val (.int p2), .val (.long q3), .second] [])) _
                refine XS.iloadN X29.here hx rfl (hb hby d3_115) rfl ?_
                show Steps p.tables e below (T29.setTop (mkF m 116 #[.val (.long q1), .second, .val (.int p2), .val (.long q3), .second] [(.int p2)])) _
                refine XS.bipush X29.here hx rfl (hb hby d3_116) ?_
                show Steps p.tables e below (T29.setTop (mkF m 118 #[.val (.long q1), .second, .val (.int p2), .val (.long q3), .second] [(.int (8 : Int32)), (.int p2)])) _
                exact k
              by_cases c6 : (8 : Int32) < p2
              · have pre34 : ∀ t, Steps p.tables e below (T29.setTop (mkF m 126 #[.val (.long q1), .second, .val (.int p2), .val (.long q3), .second] [(.int (lcmpW q3 (4194304 : Int64)))])) t → Steps p.tables e below (s₁.setTop (entryFrame m #[(.long q1), (.int p2), (.long q3)] 5)) t := by
                  intro t k
                  refine pre33 _ ?_
                  refine XS.icmpNo X29.here hx rfl (hb hby d3_118) rfl (tlt c6).2.2.2 ?_
                  show Steps p.tables e below (T29.setTop (mkF m 121 #[.val (.long q1), .second, .val (.int p2), .val (.long q3), .second] [])) _
                  refine XS.lloadN X29.here hx rfl (hb hby d3_121) rfl ?_
                  show Steps p.tables e below (T29.setTop (mkF m 122 #[.val (.long q1), .second, .val (.int p2), .val (.long q3), .second] [(.long q3)])) _
                  refine X29.ldc2Long hx hown (mvT hZ (hw _ (List.mem_of_getElem? (i := 50) rfl))) (g := (mkF m 122 #[.val (.long q1), .second, .val (.int p2), .val (.long q3), .second] [(.long q3)])) rfl (hb hby d3_122) _ ?_
                  show Steps p.tables e below (T29.setTop (mkF m 125 #[.val (.long q1), .second, .val (.int p2), .val (.long q3), .second] [(.long (4194304 : Int64)), (.long q3)])) _
                  refine XS.lcmp X29.here hx rfl (hb hby d3_125) rfl ?_
                  show Steps p.tables e below (T29.setTop (mkF m 126 #[.val (.long q1), .second, .val (.int p2), .val (.long q3), .second] [(.int (lcmpW q3 (4194304 : Int64)))])) _
                  exact k
                by_cases c7 : (4194304 : Int64) < q3
                · have pre35 : ∀ t, Steps p.tables e below (T29.setTop (mkF m 129 #[.val (.long q1), .second, .val (.int p2), .val (.long q3), .second] [])) t → Steps p.tables e below (s₁.setTop (entryFrame m #[(.long q1), (.int p2), (.long q3)] 5)) t := by
                    intro t k
                    refine pre34 _ ?_
                    refine XS.ifNo X29.here hx rfl (hb hby d3_126) rfl ((if0 _ _).trans (tlt (own_lgt.mpr c7)).2.2.2) ?_
                    show Steps p.tables e below (T29.setTop (mkF m 129 #[.val (.long q1), .second, .val (.int p2), .val (.long q3), .second] [])) _
                    exact k
                  obtain ⟨T36, X36, e36, st36⟩ := getS (host := "") X29 hx hZ hown (hw _ (List.mem_of_getElem? (i := 15) rfl)) Via.refl e29 sR (g := (mkF m 129 #[.val (.long q1), .second, .val (.int p2), .val (.long q3), .second] [])) rfl (hb hby d3_129)
                  have pre36 : ∀ t, Steps p.tables e below (T36.setTop (mkF m 132 #[.val (.long q1), .second, .val (.int p2), .val (.long q3), .second] [(.ref ra)])) t → Steps p.tables e below (s₁.setTop (entryFrame m #[(.long q1), (.int p2), (.long q3)] 5)) t := fun t k => pre35 t (st36 t k)
                  have pre37 : ∀ t, Steps p.tables e below (T36.setTop (mkF m 144 #[.val (.long q1), .second, .val (.int p2), .val (.long q3), .second] [(.ref (ad 6))])) t → Steps p.tables e below (s₁.setTop (entryFrame m #[(.long q1), (.int p2), (.long q3)] 5)) t := by
                    intro t k
                    refine pre36 _ ?_
                    refine XS.bipush X36.here hx rfl (hb hby d3_132) ?_
                    show Steps p.tables e below (T36.setTop (mkF m 134 #[.val (.long q1), .second, .val (.int p2), .val (.long q3), .second] [(.int (6 : Int32)), (.ref ra)])) _
                    refine X36.aaload hx (j := (6 : Int32)) (v := (.ref (ad 6))) (by rw [e36]; exact aR.1) (State.isArrayOf_alike hZ.alike aR.2.1) rfl aR.2.2 (own_in (eR 6 (by decide)) (by decide) rfl) (eR 6 (by decide)) (g := (mkF m 134 #[.val (.long q1), .second, .val (.int p2), .val (.long q3), .second] [(.int (6 : Int32)), (.ref ra)])) rfl rfl (hb hby d3_134) _ ?_
                    show Steps p.tables e below (T36.setTop (mkF m 135 #[.val (.long q1), .second, .val (.int p2), .val (.long q3), .second] [(.ref (ad 6))])) _
                    refine XS.goto X36.here hx rfl (pc0 := 135) (pc' := 144) rfl (hb hby d3_135) (by decide) (by decide) ?_
                    show Steps p.tables e below (T36.setTop (mkF m 144 #[.val (.long q1), .second, .val (.int p2), .val (.long q3), .second] [(.ref (ad 6))])) _
                    exact k
                  have er : own_row q1 p2 q3 = 6 := (by
          simp only [own_lt, own_eq, own_ltL, own_eqL, own_k0, own_k1, own_k2, own_k3, own_k4, own_k5, own_k6, own_k7, own_k8, own_k9, own_k10, own_k11, own_k12, own_k13, own_k14, own_k15] at *
          unfold own_row
          simp only [own_lt, own_eq, own_ltL, own_eqL, own_k0, own_k1, own_k2, own_k3, own_k4, own_k5, own_k6, own_k7, own_k8, own_k9, own_k10, own_k11, own_k12, own_k13, own_k14, own_k15]
          repeat' split
          all_goals first | rfl | (exfalso; omega))
                  obtain ⟨fs, hr, hrun, hended, hW, hsame⟩ := X36.leave (v := some (.ref (ad 6))) (fun h => by rw [Bd.returns] at h; cases h)
                  refine ⟨_, _, pre37 _ ?_, hrun, hended, _, _, rfl, ?_, ⟨_, rfl⟩, hW, hsame.mono (by decide) (by decide)⟩
                  · exact retOut X36 hx Bd.returns rfl (Or.inr (Or.inr (Or.inr (Or.inr ⟨rfl, rfl, rfl⟩)))) (hb hby d3_144) hr
                  · show ((_ : Option Value) = some (.ref (ad (own_row q1 p2 q3))) ∧ Fr n0 _ ∧ T36.heap = h0)
                    rw [e36]
                    exact ⟨by rw [er], N0, rfl⟩
                · have pre38 : ∀ t, Steps p.tables e below (T29.setTop (mkF m 138 #[.val (.long q1), .second, .val (.int p2), .val (.long q3), .second] [])) t → Steps p.tables e below (s₁.setTop (entryFrame m #[(.long q1), (.int p2), (.long q3)] 5)) t := by
                    intro t k
                    refine pre34 _ ?_
                    refine XS.ifYes X29.here hx rfl (pc0 := 126) (pc' := 138) rfl (hb hby d3_126) rfl ((if0 _ _).trans (flt (mt own_lgt.mp c7)).2.2.2) (by decide) (by decide) ?_
                    show Steps p.tables e below (T29.setTop (mkF m 138 #[.val (.long q1), .second, .val (.int p2), .val (.long q3), .second] [])) _
                    exact k
                  obtain ⟨T39, X39, e39, st39⟩ := getS (host := "") X29 hx hZ hown (hw _ (List.mem_of_getElem? (i := 15) rfl)) Via.refl e29 sR (g := (mkF m 138 #[.val (.long q1), .second, .val (.int p2), .val (.long q3), .second] [])) rfl (hb hby d3_138)
                  have pre39 : ∀ t, Steps p.tables e below (T39.setTop (mkF m 141 #[.val (.long q1), .second, .val (.int p2), .val (.long q3), .second] [(.ref ra)])) t → Steps p.tables e below (s₁.setTop (entryFrame m #[(.long q1), (.int p2), (.long q3)] 5)) t := fun t k => pre38 t (st39 t k)
                  have pre40 : ∀ t, Steps p.tables e below (T39.setTop (mkF m 144 #[.val (.long q1), .second, .val (.int p2), .val (.long q3), .second] [(.ref (ad 7))])) t → Steps p.tables e below (s₁.setTop (entryFrame m #[(.long q1), (.int p2), (.long q3)] 5)) t := by
                    intro t k
                    refine pre39 _ ?_
                    refine XS.bipush X39.here hx rfl (hb hby d3_141) ?_
                    show Steps p.tables e below (T39.setTop (mkF m 143 #[.val (.long q1), .second, .val (.int p2), .val (.long q3), .second] [(.int (7 : Int32)), (.ref ra)])) _
                    refine X39.aaload hx (j := (7 : Int32)) (v := (.ref (ad 7))) (by rw [e39]; exact aR.1) (State.isArrayOf_alike hZ.alike aR.2.1) rfl aR.2.2 (own_in (eR 7 (by decide)) (by decide) rfl) (eR 7 (by decide)) (g := (mkF m 143 #[.val (.long q1), .second, .val (.int p2), .val (.long q3), .second] [(.int (7 : Int32)), (.ref ra)])) rfl rfl (hb hby d3_143) _ ?_
                    show Steps p.tables e below (T39.setTop (mkF m 144 #[.val (.long q1), .second, .val (.int p2), .val (.long q3), .second] [(.ref (ad 7))])) _
                    exact k
                  have er : own_row q1 p2 q3 = 7 := (by
          simp only [own_lt, own_eq, own_ltL, own_eqL, own_k0, own_k1, own_k2, own_k3, own_k4, own_k5, own_k6, own_k7, own_k8, own_k9, own_k10, own_k11, own_k12, own_k13, own_k14, own_k15] at *
          unfold own_row
          simp only [own_lt, own_eq, own_ltL, own_eqL, own_k0, own_k1, own_k2, own_k3, own_k4, own_k5, own_k6, own_k7, own_k8, own_k9, own_k10, own_k11, own_k12, own_k13, own_k14, own_k15]
          repeat' split
          all_goals first | rfl | (exfalso; omega))
                  obtain ⟨fs, hr, hrun, hended, hW, hsame⟩ := X39.leave (v := some (.ref (ad 7))) (fun h => by rw [Bd.returns] at h; cases h)
                  refine ⟨_, _, pre40 _ ?_, hrun, hended, _, _, rfl, ?_, ⟨_, rfl⟩, hW, hsame.mono (by decide) (by decide)⟩
                  · exact retOut X39 hx Bd.returns rfl (Or.inr (Or.inr (Or.inr (Or.inr ⟨rfl, rfl, rfl⟩)))) (hb hby d3_144) hr
                  · show ((_ : Option Value) = some (.ref (ad (own_row q1 p2 q3))) ∧ Fr n0 _ ∧ T39.heap = h0)
                    rw [e39]
                    exact ⟨by rw [er], N0, rfl⟩
              · have pre41 : ∀ t, Steps p.tables e below (T29.setTop (mkF m 138 #[.val (.long q1), .second, .val (.int p2), .val (.long q3), .second] [])) t → Steps p.tables e below (s₁.setTop (entryFrame m #[(.long q1), (.int p2), (.long q3)] 5)) t := by
                  intro t k
                  refine pre33 _ ?_
                  refine XS.icmpYes X29.here hx rfl (pc0 := 118) (pc' := 138) rfl (hb hby d3_118) rfl (flt c6).2.2.2 (by decide) (by decide) ?_
                  show Steps p.tables e below (T29.setTop (mkF m 138 #[.val (.long q1), .second, .val (.int p2), .val (.long q3), .second] [])) _
                  exact k
                obtain ⟨T42, X42, e42, st42⟩ := getS (host := "") X29 hx hZ hown (hw _ (List.mem_of_getElem? (i := 15) rfl)) Via.refl e29 sR (g := (mkF m 138 #[.val (.long q1), .second, .val (.int p2), .val (.long q3), .second] [])) rfl (hb hby d3_138)
                have pre42 : ∀ t, Steps p.tables e below (T42.setTop (mkF m 141 #[.val (.long q1), .second, .val (.int p2), .val (.long q3), .second] [(.ref ra)])) t → Steps p.tables e below (s₁.setTop (entryFrame m #[(.long q1), (.int p2), (.long q3)] 5)) t := fun t k => pre41 t (st42 t k)
                have pre43 : ∀ t, Steps p.tables e below (T42.setTop (mkF m 144 #[.val (.long q1), .second, .val (.int p2), .val (.long q3), .second] [(.ref (ad 7))])) t → Steps p.tables e below (s₁.setTop (entryFrame m #[(.long q1), (.int p2), (.long q3)] 5)) t := by
                  intro t k
                  refine pre42 _ ?_
                  refine XS.bipush X42.here hx rfl (hb hby d3_141) ?_
                  show Steps p.tables e below (T42.setTop (mkF m 143 #[.val (.long q1), .second, .val (.int p2), .val (.long q3), .second] [(.int (7 : Int32)), (.ref ra)])) _
                  refine X42.aaload hx (j := (7 : Int32)) (v := (.ref (ad 7))) (by rw [e42]; exact aR.1) (State.isArrayOf_alike hZ.alike aR.2.1) rfl aR.2.2 (own_in (eR 7 (by decide)) (by decide) rfl) (eR 7 (by decide)) (g := (mkF m 143 #[.val (.long q1), .second, .val (.int p2), .val (.long q3), .second] [(.int (7 : Int32)), (.ref ra)])) rfl rfl (hb hby d3_143) _ ?_
                  show Steps p.tables e below (T42.setTop (mkF m 144 #[.val (.long q1), .second, .val (.int p2), .val (.long q3), .second] [(.ref (ad 7))])) _
                  exact k
                have er : own_row q1 p2 q3 = 7 := (by
          simp only [own_lt, own_eq, own_ltL, own_eqL, own_k0, own_k1, own_k2, own_k3, own_k4, own_k5, own_k6, own_k7, own_k8, own_k9, own_k10, own_k11, own_k12, own_k13, own_k14, own_k15] at *
          unfold own_row
          simp only [own_lt, own_eq, own_ltL, own_eqL, own_k0, own_k1, own_k2, own_k3, own_k4, own_k5, own_k6, own_k7, own_k8, own_k9, own_k10, own_k11, own_k12, own_k13, own_k14, own_k15]
          repeat' split
          all_goals first | rfl | (exfalso; omega))
                obtain ⟨fs, hr, hrun, hended, hW, hsame⟩ := X42.leave (v := some (.ref (ad 7))) (fun h => by rw [Bd.returns] at h; cases h)
                refine ⟨_, _, pre43 _ ?_, hrun, hended, _, _, rfl, ?_, ⟨_, rfl⟩, hW, hsame.mono (by decide) (by decide)⟩
                · exact retOut X42 hx Bd.returns rfl (Or.inr (Or.inr (Or.inr (Or.inr ⟨rfl, rfl, rfl⟩)))) (hb hby d3_144) hr
                · show ((_ : Option Value) = some (.ref (ad (own_row q1 p2 q3))) ∧ Fr n0 _ ∧ T42.heap = h0)
                  rw [e42]
                  exact ⟨by rw [er], N0, rfl⟩
            · have pre44 : ∀ t, Steps p.tables e below (T29.setTop (mkF m 106 #[.val (.long q1), .second, .val (.int p2), .val (.long q3), .second] [(.int (lcmpW q3 (131072 : Int64)))])) t → Steps p.tables e below (s₁.setTop (entryFrame m #[(.long q1), (.int p2), (.long q3)] 5)) t := by
                intro t k
                refine pre32 _ ?_
                refine XS.icmpNo X29.here hx rfl (hb hby d3_98) rfl (flt c5).2.2.1 ?_
                show Steps p.tables e below (T29.setTop (mkF m 101 #[.val (.long q1), .second, .val (.int p2), .val (.long q3), .second] [])) _
                refine XS.lloadN X29.here hx rfl (hb hby d3_101) rfl ?_
                show Steps p.tables e below (T29.setTop (mkF m 102 #[.val (.long q1), .second, .val (.int p2), .val (.long q3), .second] [(.long q3)])) _
                refine X29.ldc2Long hx hown (mvT hZ (hw _ (List.mem_of_getElem? (i := 51) rfl))) (g := (mkF m 102 #[.val (.long q1), .second, .val (.int p2), .val (.long q3), .second] [(.long q3)])) rfl (hb hby d3_102) _ ?_
                show Steps p.tables e below (T29.setTop (mkF m 105 #[.val (.long q1), .second, .val (.int p2), .val (.long q3), .second] [(.long (131072 : Int64)), (.long q3)])) _
                refine XS.lcmp X29.here hx rfl (hb hby d3_105) rfl ?_
                show Steps p.tables e below (T29.setTop (mkF m 106 #[.val (.long q1), .second, .val (.int p2), .val (.long q3), .second] [(.int (lcmpW q3 (131072 : Int64)))])) _
                exact k
              by_cases c6 : q3 < (131072 : Int64)
              · have pre45 : ∀ t, Steps p.tables e below (T29.setTop (mkF m 109 #[.val (.long q1), .second, .val (.int p2), .val (.long q3), .second] [])) t → Steps p.tables e below (s₁.setTop (entryFrame m #[(.long q1), (.int p2), (.long q3)] 5)) t := by
                  intro t k
                  refine pre44 _ ?_
                  refine XS.ifNo X29.here hx rfl (hb hby d3_106) rfl ((if0 _ _).trans (tlt (own_llt.mpr c6)).2.1) ?_
                  show Steps p.tables e below (T29.setTop (mkF m 109 #[.val (.long q1), .second, .val (.int p2), .val (.long q3), .second] [])) _
                  exact k
                obtain ⟨T46, X46, e46, st46⟩ := getS (host := "") X29 hx hZ hown (hw _ (List.mem_of_getElem? (i := 15) rfl)) Via.refl e29 sR (g := (mkF m 109 #[.val (.long q1), .second, .val (.int p2), .val (.long q3), .second] [])) rfl (hb hby d3_109)
                have pre46 : ∀ t, Steps p.tables e below (T46.setTop (mkF m 112 #[.val (.long q1), .second, .val (.int p2), .val (.long q3), .second] [(.ref ra)])) t → Steps p.tables e below (s₁.setTop (entryFrame m #[(.long q1), (.int p2), (.long q3)] 5)) t := fun t k => pre45 t (st46 t k)
                have pre47 : ∀ t, Steps p.tables e below (T46.setTop (mkF m 114 #[.val (.long q1), .second, .val (.int p2), .val (.long q3), .second] [(.ref (ad 5))])) t → Steps p.tables e below (s₁.setTop (entryFrame m #[(.long q1), (.int p2), (.long q3)] 5)) t := by
                  intro t k
                  refine pre46 _ ?_
                  refine XS.iconst X46.here hx rfl (hb hby d3_112) ?_
                  show Steps p.tables e below (T46.setTop (mkF m 113 #[.val (.long q1), .second, .val (.int p2), .val (.long q3), .second] [(.int (5 : Int32)), (.ref ra)])) _
                  refine X46.aaload hx (j := (5 : Int32)) (v := (.ref (ad 5))) (by rw [e46]; exact aR.1) (State.isArrayOf_alike hZ.alike aR.2.1) rfl aR.2.2 (own_in (eR 5 (by decide)) (by decide) rfl) (eR 5 (by decide)) (g := (mkF m 113 #[.val (.long q1), .second, .val (.int p2), .val (.long q3), .second] [(.int (5 : Int32)), (.ref ra)])) rfl rfl (hb hby d3_113) _ ?_
                  show Steps p.tables e below (T46.setTop (mkF m 114 #[.val (.long q1), .second, .val (.int p2), .val (.long q3), .second] [(.ref (ad 5))])) _
                  exact k
                have er : own_row q1 p2 q3 = 5 := (by
          simp only [own_lt, own_eq, own_ltL, own_eqL, own_k0, own_k1, own_k2, own_k3, own_k4, own_k5, own_k6, own_k7, own_k8, own_k9, own_k10, own_k11, own_k12, own_k13, own_k14, own_k15] at *
          unfold own_row
          simp only [own_lt, own_eq, own_ltL, own_eqL, own_k0, own_k1, own_k2, own_k3, own_k4, own_k5, own_k6, own_k7, own_k8, own_k9, own_k10, own_k11, own_k12, own_k13, own_k14, own_k15]
          repeat' split
          all_goals first | rfl | (exfalso; omega))
                obtain ⟨fs, hr, hrun, hended, hW, hsame⟩ := X46.leave (v := some (.ref (ad 5))) (fun h => by rw [Bd.returns] at h; cases h)
                refine ⟨_, _, pre47 _ ?_, hrun, hended, _, _, rfl, ?_, ⟨_, rfl⟩, hW, hsame.mono (by decide) (by decide)⟩
                · exact retOut X46 hx Bd.returns rfl (Or.inr (Or.inr (Or.inr (Or.inr ⟨rfl, rfl, rfl⟩)))) (hb hby d3_114) hr
                · show ((_ : Option Value) = some (.ref (ad (own_row q1 p2 q3))) ∧ Fr n0 _ ∧ T46.heap = h0)
                  rw [e46]
                  exact ⟨by rw [er], N0, rfl⟩
              · have pre48 : ∀ t, Steps p.tables e below (T29.setTop (mkF m 118 #[.val (.long q1), .second, .val (.int p2), .val (.long q3), .second] [(.int (8 : Int32)), (.int p2)])) t → Steps p.tables e below (s₁.setTop (entryFrame m #[(.long q1), (.int p2), (.long q3)] 5)) t := by
                  intro t k
                  refine pre44 _ ?_
                  refine XS.ifYes X29.here hx rfl (pc0 := 106) (pc' := 115) rfl (hb hby d3_106) rfl ((if0 _ _).trans (flt (mt own_llt.mp c6)).2.1) (by decide) (by decide) ?_
                  show Steps p.tables e below (T29.setTop (mkF m 115 #[.val (.long q1), .second, .val (.int p2), .val (.long q3), .second] [])) _
                  refine XS.iloadN X29.here hx rfl (hb hby d3_115) rfl ?_
                  show Steps p.tables e below (T29.setTop (mkF m 116 #[.val (.long q1), .second, .val (.int p2), .val (.long q3), .second] [(.int p2)])) _
                  refine XS.bipush X29.here hx rfl (hb hby d3_116) ?_
                  show Steps p.tables e below (T29.setTop (mkF m 118 #[.val (.long q1), .second, .val (.int p2), .val (.long q3), .second] [(.int (8 : Int32)), (.int p2)])) _
                  exact k
                by_cases c7 : (8 : Int32) < p2
                · have pre49 : ∀ t, Steps p.tables e below (T29.setTop (mkF m 126 #[.val (.long q1), .second, .val (.int p2), .val (.long q3), .second] [(.int (lcmpW q3 (4194304 : Int64)))])) t → Steps p.tables e below (s₁.setTop (entryFrame m #[(.long q1), (.int p2), (.long q3)] 5)) t := by
                    intro t k
                    refine pre48 _ ?_
                    refine XS.icmpNo X29.here hx rfl (hb hby d3_118) rfl (tlt c7).2.2.2 ?_
                    show Steps p.tables e below (T29.setTop (mkF m 121 #[.val (.long q1), .second, .val (.int p2), .val (.long q3), .second] [])) _
                    refine XS.lloadN X29.here hx rfl (hb hby d3_121) rfl ?_
                    show Steps p.tables e below (T29.setTop (mkF m 122 #[.val (.long q1), .second, .val (.int p2), .val (.long q3), .second] [(.long q3)])) _
                    refine X29.ldc2Long hx hown (mvT hZ (hw _ (List.mem_of_getElem? (i := 50) rfl))) (g := (mkF m 122 #[.val (.long q1), .second, .val (.int p2), .val (.long q3), .second] [(.long q3)])) rfl (hb hby d3_122) _ ?_
                    show Steps p.tables e below (T29.setTop (mkF m 125 #[.val (.long q1), .second, .val (.int p2), .val (.long q3), .second] [(.long (4194304 : Int64)), (.long q3)])) _
                    refine XS.lcmp X29.here hx rfl (hb hby d3_125) rfl ?_
                    show Steps p.tables e below (T29.setTop (mkF m 126 #[.val (.long q1), .second, .val (.int p2), .val (.long q3), .second] [(.int (lcmpW q3 (4194304 : Int64)))])) _
                    exact k
                  by_cases c8 : (4194304 : Int64) < q3
                  · have pre50 : ∀ t, Steps p.tables e below (T29.setTop (mkF m 129 #[.val (.long q1), .second, .val (.int p2), .val (.long q3), .second] [])) t → Steps p.tables e below (s₁.setTop (entryFrame m #[(.long q1), (.int p2), (.long q3)] 5)) t := by
                      intro t k
                      refine pre49 _ ?_
                      refine XS.ifNo X29.here hx rfl (hb hby d3_126) rfl ((if0 _ _).trans (tlt (own_lgt.mpr c8)).2.2.2) ?_
                      show Steps p.tables e below (T29.setTop (mkF m 129 #[.val (.long q1), .second, .val (.int p2), .val (.long q3), .second] [])) _
                      exact k
                    obtain ⟨T51, X51, e51, st51⟩ := getS (host := "") X29 hx hZ hown (hw _ (List.mem_of_getElem? (i := 15) rfl)) Via.refl e29 sR (g := (mkF m 129 #[.val (.long q1), .second, .val (.int p2), .val (.long q3), .second] [])) rfl (hb hby d3_129)
                    have pre51 : ∀ t, Steps p.tables e below (T51.setTop (mkF m 132 #[.val (.long q1), .second, .val (.int p2), .val (.long q3), .second] [(.ref ra)])) t → Steps p.tables e below (s₁.setTop (entryFrame m #[(.long q1), (.int p2), (.long q3)] 5)) t := fun t k => pre50 t (st51 t k)
                    have pre52 : ∀ t, Steps p.tables e below (T51.setTop (mkF m 144 #[.val (.long q1), .second, .val (.int p2), .val (.long q3), .second] [(.ref (ad 6))])) t → Steps p.tables e below (s₁.setTop (entryFrame m #[(.long q1), (.int p2), (.long q3)] 5)) t := by
                      intro t k
                      refine pre51 _ ?_
                      refine XS.bipush X51.here hx rfl (hb hby d3_132) ?_
                      show Steps p.tables e below (T51.setTop (mkF m 134 #[.val (.long q1), .second, .val (.int p2), .val (.long q3), .second] [(.int (6 : Int32)), (.ref ra)])) _
                      refine X51.aaload hx (j := (6 : Int32)) (v := (.ref (ad 6))) (by rw [e51]; exact aR.1) (State.isArrayOf_alike hZ.alike aR.2.1) rfl aR.2.2 (own_in (eR 6 (by decide)) (by decide) rfl) (eR 6 (by decide)) (g := (mkF m 134 #[.val (.long q1), .second, .val (.int p2), .val (.long q3), .second] [(.int (6 : Int32)), (.ref ra)])) rfl rfl (hb hby d3_134) _ ?_
                      show Steps p.tables e below (T51.setTop (mkF m 135 #[.val (.long q1), .second, .val (.int p2), .val (.long q3), .second] [(.ref (ad 6))])) _
                      refine XS.goto X51.here hx rfl (pc0 := 135) (pc' := 144) rfl (hb hby d3_135) (by decide) (by decide) ?_
                      show Steps p.tables e below (T51.setTop (mkF m 144 #[.val (.long q1), .second, .val (.int p2), .val (.long q3), .second] [(.ref (ad 6))])) _
                      exact k
                    have er : own_row q1 p2 q3 = 6 := (by
          simp only [own_lt, own_eq, own_ltL, own_eqL, own_k0, own_k1, own_k2, own_k3, own_k4, own_k5, own_k6, own_k7, own_k8, own_k9, own_k10, own_k11, own_k12, own_k13, own_k14, own_k15] at *
          unfold own_row
          simp only [own_lt, own_eq, own_ltL, own_eqL, own_k0, own_k1, own_k2, own_k3, own_k4, own_k5, own_k6, own_k7, own_k8, own_k9, own_k10, own_k11, own_k12, own_k13, own_k14, own_k15]
          repeat' split
          all_goals first | rfl | (exfalso; omega))
                    obtain ⟨fs, hr, hrun, hended, hW, hsame⟩ := X51.leave (v := some (.ref (ad 6))) (fun h => by rw [Bd.returns] at h; cases h)
                    refine ⟨_, _, pre52 _ ?_, hrun, hended, _, _, rfl, ?_, ⟨_, rfl⟩, hW, hsame.mono (by decide) (by decide)⟩
                    · exact retOut X51 hx Bd.returns rfl (Or.inr (Or.inr (Or.inr (Or.inr ⟨rfl, rfl, rfl⟩)))) (hb hby d3_144) hr
                    · show ((_ : Option Value) = some (.ref (ad (own_row q1 p2 q3))) ∧ Fr n0 _ ∧ T51.heap = h0)
                      rw [e51]
                      exact ⟨by rw [er], N0, rfl⟩
                  · have pre53 : ∀ t, Steps p.tables e below (T29.setTop (mkF m 138 #[.val (.long q1), .second, .val (.int p2), .val (.long q3), .second] [])) t → Steps p.tables e below (s₁.setTop (entryFrame m #[(.long q1), (.int p2), (.long q3)] 5)) t := by
                      intro t k
                      refine pre49 _ ?_
                      refine XS.ifYes X29.here hx rfl (pc0 := 126) (pc' := 138) rfl (hb hby d3_126) rfl ((if0 _ _).trans (flt (mt own_lgt.mp c8)).2.2.2) (by decide) (by decide) ?_
                      show Steps p.tables e below (T29.setTop (mkF m 138 #[.val (.long q1), .second, .val (.int p2), .val (.long q3), .second] [])) _
                      exact k
                    obtain ⟨T54, X54, e54, st54⟩ := getS (host := "") X29 hx hZ hown (hw _ (List.mem_of_getElem? (i := 15) rfl)) Via.refl e29 sR (g := (mkF m 138 #[.val (.long q1), .second, .val (.int p2), .val (.long q3), .second] [])) rfl (hb hby d3_138)
                    have pre54 : ∀ t, Steps p.tables e below (T54.setTop (mkF m 141 #[.val (.long q1), .second, .val (.int p2), .val (.long q3), .second] [(.ref ra)])) t → Steps p.tables e below (s₁.setTop (entryFrame m #[(.long q1), (.int p2), (.long q3)] 5)) t := fun t k => pre53 t (st54 t k)
                    have pre55 : ∀ t, Steps p.tables e below (T54.setTop (mkF m 144 #[.val (.long q1), .second, .val (.int p2), .val (.long q3), .second] [(.ref (ad 7))])) t → Steps p.tables e below (s₁.setTop (entryFrame m #[(.long q1), (.int p2), (.long q3)] 5)) t := by
                      intro t k
                      refine pre54 _ ?_
                      refine XS.bipush X54.here hx rfl (hb hby d3_141) ?_
                      show Steps p.tables e below (T54.setTop (mkF m 143 #[.val (.long q1), .second, .val (.int p2), .val (.long q3), .second] [(.int (7 : Int32)), (.ref ra)])) _
                      refine X54.aaload hx (j := (7 : Int32)) (v := (.ref (ad 7))) (by rw [e54]; exact aR.1) (State.isArrayOf_alike hZ.alike aR.2.1) rfl aR.2.2 (own_in (eR 7 (by decide)) (by decide) rfl) (eR 7 (by decide)) (g := (mkF m 143 #[.val (.long q1), .second, .val (.int p2), .val (.long q3), .second] [(.int (7 : Int32)), (.ref ra)])) rfl rfl (hb hby d3_143) _ ?_
                      show Steps p.tables e below (T54.setTop (mkF m 144 #[.val (.long q1), .second, .val (.int p2), .val (.long q3), .second] [(.ref (ad 7))])) _
                      exact k
                    have er : own_row q1 p2 q3 = 7 := (by
          simp only [own_lt, own_eq, own_ltL, own_eqL, own_k0, own_k1, own_k2, own_k3, own_k4, own_k5, own_k6, own_k7, own_k8, own_k9, own_k10, own_k11, own_k12, own_k13, own_k14, own_k15] at *
          unfold own_row
          simp only [own_lt, own_eq, own_ltL, own_eqL, own_k0, own_k1, own_k2, own_k3, own_k4, own_k5, own_k6, own_k7, own_k8, own_k9, own_k10, own_k11, own_k12, own_k13, own_k14, own_k15]
          repeat' split
          all_goals first | rfl | (exfalso; omega))
                    obtain ⟨fs, hr, hrun, hended, hW, hsame⟩ := X54.leave (v := some (.ref (ad 7))) (fun h => by rw [Bd.returns] at h; cases h)
                    refine ⟨_, _, pre55 _ ?_, hrun, hended, _, _, rfl, ?_, ⟨_, rfl⟩, hW, hsame.mono (by decide) (by decide)⟩
                    · exact retOut X54 hx Bd.returns rfl (Or.inr (Or.inr (Or.inr (Or.inr ⟨rfl, rfl, rfl⟩)))) (hb hby d3_144) hr
                    · show ((_ : Option Value) = some (.ref (ad (own_row q1 p2 q3))) ∧ Fr n0 _ ∧ T54.heap = h0)
                      rw [e54]
                      exact ⟨by rw [er], N0, rfl⟩
                · have pre56 : ∀ t, Steps p.tables e below (T29.setTop (mkF m 138 #[.val (.long q1), .second, .val (.int p2), .val (.long q3), .second] [])) t → Steps p.tables e below (s₁.setTop (entryFrame m #[(.long q1), (.int p2), (.long q3)] 5)) t := by
                    intro t k
                    refine pre48 _ ?_
                    refine XS.icmpYes X29.here hx rfl (pc0 := 118) (pc' := 138) rfl (hb hby d3_118) rfl (flt c7).2.2.2 (by decide) (by decide) ?_
                    show Steps p.tables e below (T29.setTop (mkF m 138 #[.val (.long q1), .second, .val (.int p2), .val (.long q3), .second] [])) _
                    exact k
                  obtain ⟨T57, X57, e57, st57⟩ := getS (host := "") X29 hx hZ hown (hw _ (List.mem_of_getElem? (i := 15) rfl)) Via.refl e29 sR (g := (mkF m 138 #[.val (.long q1), .second, .val (.int p2), .val (.long q3), .second] [])) rfl (hb hby d3_138)
                  have pre57 : ∀ t, Steps p.tables e below (T57.setTop (mkF m 141 #[.val (.long q1), .second, .val (.int p2), .val (.long q3), .second] [(.ref ra)])) t → Steps p.tables e below (s₁.setTop (entryFrame m #[(.long q1), (.int p2), (.long q3)] 5)) t := fun t k => pre56 t (st57 t k)
                  have pre58 : ∀ t, Steps p.tables e below (T57.setTop (mkF m 144 #[.val (.long q1), .second, .val (.int p2), .val (.long q3), .second] [(.ref (ad 7))])) t → Steps p.tables e below (s₁.setTop (entryFrame m #[(.long q1), (.int p2), (.long q3)] 5)) t := by
                    intro t k
                    refine pre57 _ ?_
                    refine XS.bipush X57.here hx rfl (hb hby d3_141) ?_
                    show Steps p.tables e below (T57.setTop (mkF m 143 #[.val (.long q1), .second, .val (.int p2), .val (.long q3), .second] [(.int (7 : Int32)), (.ref ra)])) _
                    refine X57.aaload hx (j := (7 : Int32)) (v := (.ref (ad 7))) (by rw [e57]; exact aR.1) (State.isArrayOf_alike hZ.alike aR.2.1) rfl aR.2.2 (own_in (eR 7 (by decide)) (by decide) rfl) (eR 7 (by decide)) (g := (mkF m 143 #[.val (.long q1), .second, .val (.int p2), .val (.long q3), .second] [(.int (7 : Int32)), (.ref ra)])) rfl rfl (hb hby d3_143) _ ?_
                    show Steps p.tables e below (T57.setTop (mkF m 144 #[.val (.long q1), .second, .val (.int p2), .val (.long q3), .second] [(.ref (ad 7))])) _
                    exact k
                  have er : own_row q1 p2 q3 = 7 := (by
          simp only [own_lt, own_eq, own_ltL, own_eqL, own_k0, own_k1, own_k2, own_k3, own_k4, own_k5, own_k6, own_k7, own_k8, own_k9, own_k10, own_k11, own_k12, own_k13, own_k14, own_k15] at *
          unfold own_row
          simp only [own_lt, own_eq, own_ltL, own_eqL, own_k0, own_k1, own_k2, own_k3, own_k4, own_k5, own_k6, own_k7, own_k8, own_k9, own_k10, own_k11, own_k12, own_k13, own_k14, own_k15]
          repeat' split
          all_goals first | rfl | (exfalso; omega))
                  obtain ⟨fs, hr, hrun, hended, hW, hsame⟩ := X57.leave (v := some (.ref (ad 7))) (fun h => by rw [Bd.returns] at h; cases h)
                  refine ⟨_, _, pre58 _ ?_, hrun, hended, _, _, rfl, ?_, ⟨_, rfl⟩, hW, hsame.mono (by decide) (by decide)⟩
                  · exact retOut X57 hx Bd.returns rfl (Or.inr (Or.inr (Or.inr (Or.inr ⟨rfl, rfl, rfl⟩)))) (hb hby d3_144) hr
                  · show ((_ : Option Value) = some (.ref (ad (own_row q1 p2 q3))) ∧ Fr n0 _ ∧ T57.heap = h0)
                    rw [e57]
                    exact ⟨by rw [er], N0, rfl⟩
          · have pre59 : ∀ t, Steps p.tables e below (T29.setTop (mkF m 109 #[.val (.long q1), .second, .val (.int p2), .val (.long q3), .second] [])) t → Steps p.tables e below (s₁.setTop (entryFrame m #[(.long q1), (.int p2), (.long q3)] 5)) t := by
              intro t k
              refine pre31 _ ?_
              refine XS.icmpYes X29.here hx rfl (pc0 := 92) (pc' := 109) rfl (hb hby d3_92) rfl (flt c4).2.2.2 (by decide) (by decide) ?_
              show Steps p.tables e below (T29.setTop (mkF m 109 #[.val (.long q1), .second, .val (.int p2), .val (.long q3), .second] [])) _
              exact k
            obtain ⟨T60, X60, e60, st60⟩ := getS (host := "") X29 hx hZ hown (hw _ (List.mem_of_getElem? (i := 15) rfl)) Via.refl e29 sR (g := (mkF m 109 #[.val (.long q1), .second, .val (.int p2), .val (.long q3), .second] [])) rfl (hb hby d3_109)
            have pre60 : ∀ t, Steps p.tables e below (T60.setTop (mkF m 112 #[.val (.long q1), .second, .val (.int p2), .val (.long q3), .second] [(.ref ra)])) t → Steps p.tables e below (s₁.setTop (entryFrame m #[(.long q1), (.int p2), (.long q3)] 5)) t := fun t k => pre59 t (st60 t k)
            have pre61 : ∀ t, Steps p.tables e below (T60.setTop (mkF m 114 #[.val (.long q1), .second, .val (.int p2), .val (.long q3), .second] [(.ref (ad 5))])) t → Steps p.tables e below (s₁.setTop (entryFrame m #[(.long q1), (.int p2), (.long q3)] 5)) t := by
              intro t k
              refine pre60 _ ?_
              refine XS.iconst X60.here hx rfl (hb hby d3_112) ?_
              show Steps p.tables e below (T60.setTop (mkF m 113 #[.val (.long q1), .second, .val (.int p2), .val (.long q3), .second] [(.int (5 : Int32)), (.ref ra)])) _
              refine X60.aaload hx (j := (5 : Int32)) (v := (.ref (ad 5))) (by rw [e60]; exact aR.1) (State.isArrayOf_alike hZ.alike aR.2.1) rfl aR.2.2 (own_in (eR 5 (by decide)) (by decide) rfl) (eR 5 (by decide)) (g := (mkF m 113 #[.val (.long q1), .second, .val (.int p2), .val (.long q3), .second] [(.int (5 : Int32)), (.ref ra)])) rfl rfl (hb hby d3_113) _ ?_
              show Steps p.tables e below (T60.setTop (mkF m 114 #[.val (.long q1), .second, .val (.int p2), .val (.long q3), .second] [(.ref (ad 5))])) _
              exact k
            have er : own_row q1 p2 q3 = 5 := (by
          simp only [own_lt, own_eq, own_ltL, own_eqL, own_k0, own_k1, own_k2, own_k3, own_k4, own_k5, own_k6, own_k7, own_k8, own_k9, own_k10, own_k11, own_k12, own_k13, own_k14, own_k15] at *
          unfold own_row
          simp only [own_lt, own_eq, own_ltL, own_eqL, own_k0, own_k1, own_k2, own_k3, own_k4, own_k5, own_k6, own_k7, own_k8, own_k9, own_k10, own_k11, own_k12, own_k13, own_k14, own_k15]
          repeat' split
          all_goals first | rfl | (exfalso; omega))
            obtain ⟨fs, hr, hrun, hended, hW, hsame⟩ := X60.leave (v := some (.ref (ad 5))) (fun h => by rw [Bd.returns] at h; cases h)
            refine ⟨_, _, pre61 _ ?_, hrun, hended, _, _, rfl, ?_, ⟨_, rfl⟩, hW, hsame.mono (by decide) (by decide)⟩
            · exact retOut X60 hx Bd.returns rfl (Or.inr (Or.inr (Or.inr (Or.inr ⟨rfl, rfl, rfl⟩)))) (hb hby d3_114) hr
            · show ((_ : Option Value) = some (.ref (ad (own_row q1 p2 q3))) ∧ Fr n0 _ ∧ T60.heap = h0)
              rw [e60]
              exact ⟨by rw [er], N0, rfl⟩
        · have pre62 : ∀ t, Steps p.tables e below (T29.setTop (mkF m 146 #[.val (.long q1), .second, .val (.int p2), .val (.long q3), .second] [(.long q1)])) t → Steps p.tables e below (s₁.setTop (entryFrame m #[(.long q1), (.int p2), (.long q3)] 5)) t := by
            intro t k
            refine pre30 _ ?_
            refine XS.ifYes X29.here hx rfl (pc0 := 87) (pc' := 145) rfl (hb hby d3_87) rfl ((if0 _ _).trans (feq (mt own_leq.mp c3)).2) (by decide) (by decide) ?_
            show Steps p.tables e below (T29.setTop (mkF m 145 #[.val (.long q1), .second, .val (.int p2), .val (.long q3), .second] [])) _
            refine XS.lloadN X29.here hx rfl (hb hby d3_145) rfl ?_
            show Steps p.tables e below (T29.setTop (mkF m 146 #[.val (.long q1), .second, .val (.int p2), .val (.long q3), .second] [(.long q1)])) _
            exact k
          obtain ⟨T63, X63, e63, st63⟩ := getS (host := "") X29 hx hZ hown (hw _ (List.mem_of_getElem? (i := 42) rfl)) Via.refl e29 sD (g := (mkF m 146 #[.val (.long q1), .second, .val (.int p2), .val (.long q3), .second] [(.long q1)])) rfl (hb hby d3_146)
          have pre63 : ∀ t, Steps p.tables e below (T63.setTop (mkF m 149 #[.val (.long q1), .second, .val (.int p2), .val (.long q3), .second] [(.ref da), (.long q1)])) t → Steps p.tables e below (s₁.setTop (entryFrame m #[(.long q1), (.int p2), (.long q3)] 5)) t := fun t k => pre62 t (st63 t k)
          have pre64 : ∀ t, Steps p.tables e below (T63.setTop (mkF m 152 #[.val (.long q1), .second, .val (.int p2), .val (.long q3), .second] [(.int (lcmpW q1 (180000 : Int64)))])) t → Steps p.tables e below (s₁.setTop (entryFrame m #[(.long q1), (.int p2), (.long q3)] 5)) t := by
            intro t k
            refine pre63 _ ?_
            refine XS.iconst X63.here hx rfl (hb hby d3_149) ?_
            show Steps p.tables e below (T63.setTop (mkF m 150 #[.val (.long q1), .second, .val (.int p2), .val (.long q3), .second] [(.int (1 : Int32)), (.ref da), (.long q1)])) _
            refine X63.laload hx (j := (1 : Int32)) (v := (.long (180000 : Int64))) (by rw [e63]; exact aD.1) (State.isArrayOf_alike hZ.alike aD.2.1) aD.2.2 (own_in (eD 1 (by decide)) (by decide) rfl) (eD 1 (by decide)) (g := (mkF m 150 #[.val (.long q1), .second, .val (.int p2), .val (.long q3), .second] [(.int (1 : Int32)), (.ref da), (.long q1)])) rfl rfl (hb hby d3_150) _ ?_
            show Steps p.tables e below (T63.setTop (mkF m 151 #[.val (.long q1), .second, .val (.int p2), .val (.long q3), .second] [(.long (180000 : Int64)), (.long q1)])) _
            refine XS.lcmp X63.here hx rfl (hb hby d3_151) rfl ?_
            show Steps p.tables e below (T63.setTop (mkF m 152 #[.val (.long q1), .second, .val (.int p2), .val (.long q3), .second] [(.int (lcmpW q1 (180000 : Int64)))])) _
            exact k
          by_cases c4 : q1 = (180000 : Int64)
          · have pre65 : ∀ t, Steps p.tables e below (T63.setTop (mkF m 178 #[.val (.long q1), .second, .val (.int p2), .val (.long q3), .second] [(.int (16 : Int32)), (.int p2)])) t → Steps p.tables e below (s₁.setTop (entryFrame m #[(.long q1), (.int p2), (.long q3)] 5)) t := by
              intro t k
              refine pre64 _ ?_
              refine XS.ifYes X63.here hx rfl (pc0 := 152) (pc' := 175) rfl (hb hby d3_152) rfl ((if0 _ _).trans (teq (own_leq.mpr c4)).1) (by decide) (by decide) ?_
              show Steps p.tables e below (T63.setTop (mkF m 175 #[.val (.long q1), .second, .val (.int p2), .val (.long q3), .second] [])) _
              refine XS.iloadN X63.here hx rfl (hb hby d3_175) rfl ?_
              show Steps p.tables e below (T63.setTop (mkF m 176 #[.val (.long q1), .second, .val (.int p2), .val (.long q3), .second] [(.int p2)])) _
              refine XS.bipush X63.here hx rfl (hb hby d3_176) ?_
              show Steps p.tables e below (T63.setTop (mkF m 178 #[.val (.long q1), .second, .val (.int p2), .val (.long q3), .second] [(.int (16 : Int32)), (.int p2)])) _
              exact k
            by_cases c5 : (16 : Int32) < p2
            · have pre66 : ∀ t, Steps p.tables e below (T63.setTop (mkF m 190 #[.val (.long q1), .second, .val (.int p2), .val (.long q3), .second] [])) t → Steps p.tables e below (s₁.setTop (entryFrame m #[(.long q1), (.int p2), (.long q3)] 5)) t := by
                intro t k
                refine pre65 _ ?_
                refine XS.icmpYes X63.here hx rfl (pc0 := 178) (pc' := 190) rfl (hb hby d3_178) rfl (tlt c5).2.2.1 (by decide) (by decide) ?_
                show Steps p.tables e below (T63.setTop (mkF m 190 #[.val (.long q1), .second, .val (.int p2), .val (.long q3), .second] [])) _
                exact k
              obtain ⟨T67, X67, e67, st67⟩ := getS (host := "") X63 hx hZ hown (hw _ (List.mem_of_getElem? (i := 15) rfl)) Via.refl e63 sR (g := (mkF m 190 #[.val (.long q1), .second, .val (.int p2), .val (.long q3), .second] [])) rfl (hb hby d3_190)
              have pre67 : ∀ t, Steps p.tables e below (T67.setTop (mkF m 193 #[.val (.long q1), .second, .val (.int p2), .val (.long q3), .second] [(.ref ra)])) t → Steps p.tables e below (s₁.setTop (entryFrame m #[(.long q1), (.int p2), (.long q3)] 5)) t := fun t k => pre66 t (st67 t k)
              have pre68 : ∀ t, Steps p.tables e below (T67.setTop (mkF m 196 #[.val (.long q1), .second, .val (.int p2), .val (.long q3), .second] [(.ref (ad 9))])) t → Steps p.tables e below (s₁.setTop (entryFrame m #[(.long q1), (.int p2), (.long q3)] 5)) t := by
                intro t k
                refine pre67 _ ?_
                refine XS.bipush X67.here hx rfl (hb hby d3_193) ?_
                show Steps p.tables e below (T67.setTop (mkF m 195 #[.val (.long q1), .second, .val (.int p2), .val (.long q3), .second] [(.int (9 : Int32)), (.ref ra)])) _
                refine X67.aaload hx (j := (9 : Int32)) (v := (.ref (ad 9))) (by rw [e67]; exact aR.1) (State.isArrayOf_alike hZ.alike aR.2.1) rfl aR.2.2 (own_in (eR 9 (by decide)) (by decide) rfl) (eR 9 (by decide)) (g := (mkF m 195 #[.val (.long q1), .second, .val (.int p2), .val (.long q3), .second] [(.int (9 : Int32)), (.ref ra)])) rfl rfl (hb hby d3_195) _ ?_
                show Steps p.tables e below (T67.setTop (mkF m 196 #[.val (.long q1), .second, .val (.int p2), .val (.long q3), .second] [(.ref (ad 9))])) _
                exact k
              have er : own_row q1 p2 q3 = 9 := (by
          simp only [own_lt, own_eq, own_ltL, own_eqL, own_k0, own_k1, own_k2, own_k3, own_k4, own_k5, own_k6, own_k7, own_k8, own_k9, own_k10, own_k11, own_k12, own_k13, own_k14, own_k15] at *
          unfold own_row
          simp only [own_lt, own_eq, own_ltL, own_eqL, own_k0, own_k1, own_k2, own_k3, own_k4, own_k5, own_k6, own_k7, own_k8, own_k9, own_k10, own_k11, own_k12, own_k13, own_k14, own_k15]
          repeat' split
          all_goals first | rfl | (exfalso; omega))
              obtain ⟨fs, hr, hrun, hended, hW, hsame⟩ := X67.leave (v := some (.ref (ad 9))) (fun h => by rw [Bd.returns] at h; cases h)
              refine ⟨_, _, pre68 _ ?_, hrun, hended, _, _, rfl, ?_, ⟨_, rfl⟩, hW, hsame.mono (by decide) (by decide)⟩
              · exact retOut X67 hx Bd.returns rfl (Or.inr (Or.inr (Or.inr (Or.inr ⟨rfl, rfl, rfl⟩)))) (hb hby d3_196) hr
              · show ((_ : Option Value) = some (.ref (ad (own_row q1 p2 q3))) ∧ Fr n0 _ ∧ T67.heap = h0)
                rw [e67]
                exact ⟨by rw [er], N0, rfl⟩
            · have pre69 : ∀ t, Steps p.tables e below (T63.setTop (mkF m 181 #[.val (.long q1), .second, .val (.int p2), .val (.long q3), .second] [])) t → Steps p.tables e below (s₁.setTop (entryFrame m #[(.long q1), (.int p2), (.long q3)] 5)) t := by
                intro t k
                refine pre65 _ ?_
                refine XS.icmpNo X63.here hx rfl (hb hby d3_178) rfl (flt c5).2.2.1 ?_
                show Steps p.tables e below (T63.setTop (mkF m 181 #[.val (.long q1), .second, .val (.int p2), .val (.long q3), .second] [])) _
                exact k
              obtain ⟨T70, X70, e70, st70⟩ := getS (host := "") X63 hx hZ hown (hw _ (List.mem_of_getElem? (i := 15) rfl)) Via.refl e63 sR (g := (mkF m 181 #[.val (.long q1), .second, .val (.int p2), .val (.long q3), .second] [])) rfl (hb hby d3_181)
              have pre70 : ∀ t, Steps p.tables e below (T70.setTop (mkF m 184 #[.val (.long q1), .second, .val (.int p2), .val (.long q3), .second] [(.ref ra)])) t → Steps p.tables e below (s₁.setTop (entryFrame m #[(.long q1), (.int p2), (.long q3)] 5)) t := fun t k => pre69 t (st70 t k)
              have pre71 : ∀ t, Steps p.tables e below (T70.setTop (mkF m 196 #[.val (.long q1), .second, .val (.int p2), .val (.long q3), .second] [(.ref (ad 8))])) t → Steps p.tables e below (s₁.setTop (entryFrame m #[(.long q1), (.int p2), (.long q3)] 5)) t := by
                intro t k
                refine pre70 _ ?_
                refine XS.bipush X70.here hx rfl (hb hby d3_184) ?_
                show Steps p.tables e below (T70.setTop (mkF m 186 #[.val (.long q1), .second, .val (.int p2), .val (.long q3), .second] [(.int (8 : Int32)), (.ref ra)])) _
                refine X70.aaload hx (j := (8 : Int32)) (v := (.ref (ad 8))) (by rw [e70]; exact aR.1) (State.isArrayOf_alike hZ.alike aR.2.1) rfl aR.2.2 (own_in (eR 8 (by decide)) (by decide) rfl) (eR 8 (by decide)) (g := (mkF m 186 #[.val (.long q1), .second, .val (.int p2), .val (.long q3), .second] [(.int (8 : Int32)), (.ref ra)])) rfl rfl (hb hby d3_186) _ ?_
                show Steps p.tables e below (T70.setTop (mkF m 187 #[.val (.long q1), .second, .val (.int p2), .val (.long q3), .second] [(.ref (ad 8))])) _
                refine XS.goto X70.here hx rfl (pc0 := 187) (pc' := 196) rfl (hb hby d3_187) (by decide) (by decide) ?_
                show Steps p.tables e below (T70.setTop (mkF m 196 #[.val (.long q1), .second, .val (.int p2), .val (.long q3), .second] [(.ref (ad 8))])) _
                exact k
              have er : own_row q1 p2 q3 = 8 := (by
          simp only [own_lt, own_eq, own_ltL, own_eqL, own_k0, own_k1, own_k2, own_k3, own_k4, own_k5, own_k6, own_k7, own_k8, own_k9, own_k10, own_k11, own_k12, own_k13, own_k14, own_k15] at *
          unfold own_row
          simp only [own_lt, own_eq, own_ltL, own_eqL, own_k0, own_k1, own_k2, own_k3, own_k4, own_k5, own_k6, own_k7, own_k8, own_k9, own_k10, own_k11, own_k12, own_k13, own_k14, own_k15]
          repeat' split
          all_goals first | rfl | (exfalso; omega))
              obtain ⟨fs, hr, hrun, hended, hW, hsame⟩ := X70.leave (v := some (.ref (ad 8))) (fun h => by rw [Bd.returns] at h; cases h)
              refine ⟨_, _, pre71 _ ?_, hrun, hended, _, _, rfl, ?_, ⟨_, rfl⟩, hW, hsame.mono (by decide) (by decide)⟩
              · exact retOut X70 hx Bd.returns rfl (Or.inr (Or.inr (Or.inr (Or.inr ⟨rfl, rfl, rfl⟩)))) (hb hby d3_196) hr
              · show ((_ : Option Value) = some (.ref (ad (own_row q1 p2 q3))) ∧ Fr n0 _ ∧ T70.heap = h0)
                rw [e70]
                exact ⟨by rw [er], N0, rfl⟩
          · have pre72 : ∀ t, Steps p.tables e below (T63.setTop (mkF m 156 #[.val (.long q1), .second, .val (.int p2), .val (.long q3), .second] [(.long q1)])) t → Steps p.tables e below (s₁.setTop (entryFrame m #[(.long q1), (.int p2), (.long q3)] 5)) t := by
              intro t k
              refine pre64 _ ?_
              refine XS.ifNo X63.here hx rfl (hb hby d3_152) rfl ((if0 _ _).trans (feq (mt own_leq.mp c4)).1) ?_
              show Steps p.tables e below (T63.setTop (mkF m 155 #[.val (.long q1), .second, .val (.int p2), .val (.long q3), .second] [])) _
              refine XS.lloadN X63.here hx rfl (hb hby d3_155) rfl ?_
              show Steps p.tables e below (T63.setTop (mkF m 156 #[.val (.long q1), .second, .val (.int p2), .val (.long q3), .second] [(.long q1)])) _
              exact k
            obtain ⟨T73, X73, e73, st73⟩ := getS (host := "") X63 hx hZ hown (hw _ (List.mem_of_getElem? (i := 42) rfl)) Via.refl e63 sD (g := (mkF m 156 #[.val (.long q1), .second, .val (.int p2), .val (.long q3), .second] [(.long q1)])) rfl (hb hby d3_156)
            have pre73 : ∀ t, Steps p.tables e below (T73.setTop (mkF m 159 #[.val (.long q1), .second, .val (.int p2), .val (.long q3), .second] [(.ref da), (.long q1)])) t → Steps p.tables e below (s₁.setTop (entryFrame m #[(.long q1), (.int p2), (.long q3)] 5)) t := fun t k => pre72 t (st73 t k)
            have pre74 : ∀ t, Steps p.tables e below (T73.setTop (mkF m 162 #[.val (.long q1), .second, .val (.int p2), .val (.long q3), .second] [(.int (lcmpW q1 (720000 : Int64)))])) t → Steps p.tables e below (s₁.setTop (entryFrame m #[(.long q1), (.int p2), (.long q3)] 5)) t := by
              intro t k
              refine pre73 _ ?_
              refine XS.iconst X73.here hx rfl (hb hby d3_159) ?_
              show Steps p.tables e below (T73.setTop (mkF m 160 #[.val (.long q1), .second, .val (.int p2), .val (.long q3), .second] [(.int (2 : Int32)), (.ref da), (.long q1)])) _
              refine X73.laload hx (j := (2 : Int32)) (v := (.long (720000 : Int64))) (by rw [e73]; exact aD.1) (State.isArrayOf_alike hZ.alike aD.2.1) aD.2.2 (own_in (eD 2 (by decide)) (by decide) rfl) (eD 2 (by decide)) (g := (mkF m 160 #[.val (.long q1), .second, .val (.int p2), .val (.long q3), .second] [(.int (2 : Int32)), (.ref da), (.long q1)])) rfl rfl (hb hby d3_160) _ ?_
              show Steps p.tables e below (T73.setTop (mkF m 161 #[.val (.long q1), .second, .val (.int p2), .val (.long q3), .second] [(.long (720000 : Int64)), (.long q1)])) _
              refine XS.lcmp X73.here hx rfl (hb hby d3_161) rfl ?_
              show Steps p.tables e below (T73.setTop (mkF m 162 #[.val (.long q1), .second, .val (.int p2), .val (.long q3), .second] [(.int (lcmpW q1 (720000 : Int64)))])) _
              exact k
            by_cases c5 : q1 = (720000 : Int64)
            · have pre75 : ∀ t, Steps p.tables e below (T73.setTop (mkF m 178 #[.val (.long q1), .second, .val (.int p2), .val (.long q3), .second] [(.int (16 : Int32)), (.int p2)])) t → Steps p.tables e below (s₁.setTop (entryFrame m #[(.long q1), (.int p2), (.long q3)] 5)) t := by
                intro t k
                refine pre74 _ ?_
                refine XS.ifYes X73.here hx rfl (pc0 := 162) (pc' := 175) rfl (hb hby d3_162) rfl ((if0 _ _).trans (teq (own_leq.mpr c5)).1) (by decide) (by decide) ?_
                show Steps p.tables e below (T73.setTop (mkF m 175 #[.val (.long q1), .second, .val (.int p2), .val (.long q3), .second] [])) _
                refine XS.iloadN X73.here hx rfl (hb hby d3_175) rfl ?_
                show Steps p.tables e below (T73.setTop (mkF m 176 #[.val (.long q1), .second, .val (.int p2), .val (.long q3), .second] [(.int p2)])) _
                refine XS.bipush X73.here hx rfl (hb hby d3_176) ?_
                show Steps p.tables e below (T73.setTop (mkF m 178 #[.val (.long q1), .second, .val (.int p2), .val (.long q3), .second] [(.int (16 : Int32)), (.int p2)])) _
                exact k
              by_cases c6 : (16 : Int32) < p2
              · have pre76 : ∀ t, Steps p.tables e below (T73.setTop (mkF m 190 #[.val (.long q1), .second, .val (.int p2), .val (.long q3), .second] [])) t → Steps p.tables e below (s₁.setTop (entryFrame m #[(.long q1), (.int p2), (.long q3)] 5)) t := by
                  intro t k
                  refine pre75 _ ?_
                  refine XS.icmpYes X73.here hx rfl (pc0 := 178) (pc' := 190) rfl (hb hby d3_178) rfl (tlt c6).2.2.1 (by decide) (by decide) ?_
                  show Steps p.tables e below (T73.setTop (mkF m 190 #[.val (.long q1), .second, .val (.int p2), .val (.long q3), .second] [])) _
                  exact k
                obtain ⟨T77, X77, e77, st77⟩ := getS (host := "") X73 hx hZ hown (hw _ (List.mem_of_getElem? (i := 15) rfl)) Via.refl e73 sR (g := (mkF m 190 #[.val (.long q1), .second, .val (.int p2), .val (.long q3), .second] [])) rfl (hb hby d3_190)
                have pre77 : ∀ t, Steps p.tables e below (T77.setTop (mkF m 193 #[.val (.long q1), .second, .val (.int p2), .val (.long q3), .second] [(.ref ra)])) t → Steps p.tables e below (s₁.setTop (entryFrame m #[(.long q1), (.int p2), (.long q3)] 5)) t := fun t k => pre76 t (st77 t k)
                have pre78 : ∀ t, Steps p.tables e below (T77.setTop (mkF m 196 #[.val (.long q1), .second, .val (.int p2), .val (.long q3), .second] [(.ref (ad 9))])) t → Steps p.tables e below (s₁.setTop (entryFrame m #[(.long q1), (.int p2), (.long q3)] 5)) t := by
                  intro t k
                  refine pre77 _ ?_
                  refine XS.bipush X77.here hx rfl (hb hby d3_193) ?_
                  show Steps p.tables e below (T77.setTop (mkF m 195 #[.val (.long q1), .second, .val (.int p2), .val (.long q3), .second] [(.int (9 : Int32)), (.ref ra)])) _
                  refine X77.aaload hx (j := (9 : Int32)) (v := (.ref (ad 9))) (by rw [e77]; exact aR.1) (State.isArrayOf_alike hZ.alike aR.2.1) rfl aR.2.2 (own_in (eR 9 (by decide)) (by decide) rfl) (eR 9 (by decide)) (g := (mkF m 195 #[.val (.long q1), .second, .val (.int p2), .val (.long q3), .second] [(.int (9 : Int32)), (.ref ra)])) rfl rfl (hb hby d3_195) _ ?_
                  show Steps p.tables e below (T77.setTop (mkF m 196 #[.val (.long q1), .second, .val (.int p2), .val (.long q3), .second] [(.ref (ad 9))])) _
                  exact k
                have er : own_row q1 p2 q3 = 9 := (by
          simp only [own_lt, own_eq, own_ltL, own_eqL, own_k0, own_k1, own_k2, own_k3, own_k4, own_k5, own_k6, own_k7, own_k8, own_k9, own_k10, own_k11, own_k12, own_k13, own_k14, own_k15] at *
          unfold own_row
          simp only [own_lt, own_eq, own_ltL, own_eqL, own_k0, own_k1, own_k2, own_k3, own_k4, own_k5, own_k6, own_k7, own_k8, own_k9, own_k10, own_k11, own_k12, own_k13, own_k14, own_k15]
          repeat' split
          all_goals first | rfl | (exfalso; omega))
                obtain ⟨fs, hr, hrun, hended, hW, hsame⟩ := X77.leave (v := some (.ref (ad 9))) (fun h => by rw [Bd.returns] at h; cases h)
                refine ⟨_, _, pre78 _ ?_, hrun, hended, _, _, rfl, ?_, ⟨_, rfl⟩, hW, hsame.mono (by decide) (by decide)⟩
                · exact retOut X77 hx Bd.returns rfl (Or.inr (Or.inr (Or.inr (Or.inr ⟨rfl, rfl, rfl⟩)))) (hb hby d3_196) hr
                · show ((_ : Option Value) = some (.ref (ad (own_row q1 p2 q3))) ∧ Fr n0 _ ∧ T77.heap = h0)
                  rw [e77]
                  exact ⟨by rw [er], N0, rfl⟩
              · have pre79 : ∀ t, Steps p.tables e below (T73.setTop (mkF m 181 #[.val (.long q1), .second, .val (.int p2), .val (.long q3), .second] [])) t → Steps p.tables e below (s₁.setTop (entryFrame m #[(.long q1), (.int p2), (.long q3)] 5)) t := by
                  intro t k
                  refine pre75 _ ?_
                  refine XS.icmpNo X73.here hx rfl (hb hby d3_178) rfl (flt c6).2.2.1 ?_
                  show Steps p.tables e below (T73.setTop (mkF m 181 #[.val (.long q1), .second, .val (.int p2), .val (.long q3), .second] [])) _
                  exact k
                obtain ⟨T80, X80, e80, st80⟩ := getS (host := "") X73 hx hZ hown (hw _ (List.mem_of_getElem? (i := 15) rfl)) Via.refl e73 sR (g := (mkF m 181 #[.val (.long q1), .second, .val (.int p2), .val (.long q3), .second] [])) rfl (hb hby d3_181)
                have pre80 : ∀ t, Steps p.tables e below (T80.setTop (mkF m 184 #[.val (.long q1), .second, .val (.int p2), .val (.long q3), .second] [(.ref ra)])) t → Steps p.tables e below (s₁.setTop (entryFrame m #[(.long q1), (.int p2), (.long q3)] 5)) t := fun t k => pre79 t (st80 t k)
                have pre81 : ∀ t, Steps p.tables e below (T80.setTop (mkF m 196 #[.val (.long q1), .second, .val (.int p2), .val (.long q3), .second] [(.ref (ad 8))])) t → Steps p.tables e below (s₁.setTop (entryFrame m #[(.long q1), (.int p2), (.long q3)] 5)) t := by
                  intro t k
                  refine pre80 _ ?_
                  refine XS.bipush X80.here hx rfl (hb hby d3_184) ?_
                  show Steps p.tables e below (T80.setTop (mkF m 186 #[.val (.long q1), .second, .val (.int p2), .val (.long q3), .second] [(.int (8 : Int32)), (.ref ra)])) _
                  refine X80.aaload hx (j := (8 : Int32)) (v := (.ref (ad 8))) (by rw [e80]; exact aR.1) (State.isArrayOf_alike hZ.alike aR.2.1) rfl aR.2.2 (own_in (eR 8 (by decide)) (by decide) rfl) (eR 8 (by decide)) (g := (mkF m 186 #[.val (.long q1), .second, .val (.int p2), .val (.long q3), .second] [(.int (8 : Int32)), (.ref ra)])) rfl rfl (hb hby d3_186) _ ?_
                  show Steps p.tables e below (T80.setTop (mkF m 187 #[.val (.long q1), .second, .val (.int p2), .val (.long q3), .second] [(.ref (ad 8))])) _
                  refine XS.goto X80.here hx rfl (pc0 := 187) (pc' := 196) rfl (hb hby d3_187) (by decide) (by decide) ?_
                  show Steps p.tables e below (T80.setTop (mkF m 196 #[.val (.long q1), .second, .val (.int p2), .val (.long q3), .second] [(.ref (ad 8))])) _
                  exact k
                have er : own_row q1 p2 q3 = 8 := (by
          simp only [own_lt, own_eq, own_ltL, own_eqL, own_k0, own_k1, own_k2, own_k3, own_k4, own_k5, own_k6, own_k7, own_k8, own_k9, own_k10, own_k11, own_k12, own_k13, own_k14, own_k15] at *
          unfold own_row
          simp only [own_lt, own_eq, own_ltL, own_eqL, own_k0, own_k1, own_k2, own_k3, own_k4, own_k5, own_k6, own_k7, own_k8, own_k9, own_k10, own_k11, own_k12, own_k13, own_k14, own_k15]
          repeat' split
          all_goals first | rfl | (exfalso; omega))
                obtain ⟨fs, hr, hrun, hended, hW, hsame⟩ := X80.leave (v := some (.ref (ad 8))) (fun h => by rw [Bd.returns] at h; cases h)
                refine ⟨_, _, pre81 _ ?_, hrun, hended, _, _, rfl, ?_, ⟨_, rfl⟩, hW, hsame.mono (by decide) (by decide)⟩
                · exact retOut X80 hx Bd.returns rfl (Or.inr (Or.inr (Or.inr (Or.inr ⟨rfl, rfl, rfl⟩)))) (hb hby d3_196) hr
                · show ((_ : Option Value) = some (.ref (ad (own_row q1 p2 q3))) ∧ Fr n0 _ ∧ T80.heap = h0)
                  rw [e80]
                  exact ⟨by rw [er], N0, rfl⟩
            · have pre82 : ∀ t, Steps p.tables e below (T73.setTop (mkF m 166 #[.val (.long q1), .second, .val (.int p2), .val (.long q3), .second] [(.long q1)])) t → Steps p.tables e below (s₁.setTop (entryFrame m #[(.long q1), (.int p2), (.long q3)] 5)) t := by
                intro t k
                refine pre74 _ ?_
                refine XS.ifNo X73.here hx rfl (hb hby d3_162) rfl ((if0 _ _).trans (feq (mt own_leq.mp c5)).1) ?_
                show Steps p.tables e below (T73.setTop (mkF m 165 #[.val (.long q1), .second, .val (.int p2), .val (.long q3), .second] [])) _
                refine XS.lloadN X73.here hx rfl (hb hby d3_165) rfl ?_
                show Steps p.tables e below (T73.setTop (mkF m 166 #[.val (.long q1), .second, .val (.int p2), .val (.long q3), .second] [(.long q1)])) _
                exact k
              obtain ⟨T83, X83, e83, st83⟩ := getS (host := "") X73 hx hZ hown (hw _ (List.mem_of_getElem? (i := 42) rfl)) Via.refl e73 sD (g := (mkF m 166 #[.val (.long q1), .second, .val (.int p2), .val (.long q3), .second] [(.long q1)])) rfl (hb hby d3_166)
              have pre83 : ∀ t, Steps p.tables e below (T83.setTop (mkF m 169 #[.val (.long q1), .second, .val (.int p2), .val (.long q3), .second] [(.ref da), (.long q1)])) t → Steps p.tables e below (s₁.setTop (entryFrame m #[(.long q1), (.int p2), (.long q3)] 5)) t := fun t k => pre82 t (st83 t k)
              have pre84 : ∀ t, Steps p.tables e below (T83.setTop (mkF m 172 #[.val (.long q1), .second, .val (.int p2), .val (.long q3), .second] [(.int (lcmpW q1 (1440000 : Int64)))])) t → Steps p.tables e below (s₁.setTop (entryFrame m #[(.long q1), (.int p2), (.long q3)] 5)) t := by
                intro t k
                refine pre83 _ ?_
                refine XS.iconst X83.here hx rfl (hb hby d3_169) ?_
                show Steps p.tables e below (T83.setTop (mkF m 170 #[.val (.long q1), .second, .val (.int p2), .val (.long q3), .second] [(.int (3 : Int32)), (.ref da), (.long q1)])) _
                refine X83.laload hx (j := (3 : Int32)) (v := (.long (1440000 : Int64))) (by rw [e83]; exact aD.1) (State.isArrayOf_alike hZ.alike aD.2.1) aD.2.2 (own_in (eD 3 (by decide)) (by decide) rfl) (eD 3 (by decide)) (g := (mkF m 170 #[.val (.long q1), .second, .val (.int p2), .val (.long q3), .second] [(.int (3 : Int32)), (.ref da), (.long q1)])) rfl rfl (hb hby d3_170) _ ?_
                show Steps p.tables e below (T83.setTop (mkF m 171 #[.val (.long q1), .second, .val (.int p2), .val (.long q3), .second] [(.long (1440000 : Int64)), (.long q1)])) _
                refine XS.lcmp X83.here hx rfl (hb hby d3_171) rfl ?_
                show Steps p.tables e below (T83.setTop (mkF m 172 #[.val (.long q1), .second, .val (.int p2), .val (.long q3), .second] [(.int (lcmpW q1 (1440000 : Int64)))])) _
                exact k
              by_cases c6 : q1 = (1440000 : Int64)
              · have pre85 : ∀ t, Steps p.tables e below (T83.setTop (mkF m 178 #[.val (.long q1), .second, .val (.int p2), .val (.long q3), .second] [(.int (16 : Int32)), (.int p2)])) t → Steps p.tables e below (s₁.setTop (entryFrame m #[(.long q1), (.int p2), (.long q3)] 5)) t := by
                  intro t k
                  refine pre84 _ ?_
                  refine XS.ifNo X83.here hx rfl (hb hby d3_172) rfl ((if0 _ _).trans (teq (own_leq.mpr c6)).2) ?_
                  show Steps p.tables e below (T83.setTop (mkF m 175 #[.val (.long q1), .second, .val (.int p2), .val (.long q3), .second] [])) _
                  refine XS.iloadN X83.here hx rfl (hb hby d3_175) rfl ?_
                  show Steps p.tables e below (T83.setTop (mkF m 176 #[.val (.long q1), .second, .val (.int p2), .val (.long q3), .second] [(.int p2)])) _
                  refine XS.bipush X83.here hx rfl (hb hby d3_176) ?_
                  show Steps p.tables e below (T83.setTop (mkF m 178 #[.val (.long q1), .second, .val (.int p2), .val (.long q3), .second] [(.int (16 : Int32)), (.int p2)])) _
                  exact k
                by_cases c7 : (16 : Int32) < p2
                · have pre86 : ∀ t, Steps p.tables e below (T83.setTop (mkF m 190 #[.val (.long q1), .second, .val (.int p2), .val (.long q3), .second] [])) t → Steps p.tables e below (s₁.setTop (entryFrame m #[(.long q1), (.int p2), (.long q3)] 5)) t := by
                    intro t k
                    refine pre85 _ ?_
                    refine XS.icmpYes X83.here hx rfl (pc0 := 178) (pc' := 190) rfl (hb hby d3_178) rfl (tlt c7).2.2.1 (by decide) (by decide) ?_
                    show Steps p.tables e below (T83.setTop (mkF m 190 #[.val (.long q1), .second, .val (.int p2), .val (.long q3), .second] [])) _
                    exact k
                  obtain ⟨T87, X87, e87, st87⟩ := getS (host := "") X83 hx hZ hown (hw _ (List.mem_of_getElem? (i := 15) rfl)) Via.refl e83 sR (g := (mkF m 190 #[.val (.long q1), .second, .val (.int p2), .val (.long q3), .second] [])) rfl (hb hby d3_190)
                  have pre87 : ∀ t, Steps p.tables e below (T87.setTop (mkF m 193 #[.val (.long q1), .second, .val (.int p2), .val (.long q3), .second] [(.ref ra)])) t → Steps p.tables e below (s₁.setTop (entryFrame m #[(.long q1), (.int p2), (.long q3)] 5)) t := fun t k => pre86 t (st87 t k)
                  have pre88 : ∀ t, Steps p.tables e below (T87.setTop (mkF m 196 #[.val (.long q1), .second, .val (.int p2), .val (.long q3), .second] [(.ref (ad 9))])) t → Steps p.tables e below (s₁.setTop (entryFrame m #[(.long q1), (.int p2), (.long q3)] 5)) t := by
                    intro t k
                    refine pre87 _ ?_
                    refine XS.bipush X87.here hx rfl (hb hby d3_193) ?_
                    show Steps p.tables e below (T87.setTop (mkF m 195 #[.val (.long q1), .second, .val (.int p2), .val (.long q3), .second] [(.int (9 : Int32)), (.ref ra)])) _
                    refine X87.aaload hx (j := (9 : Int32)) (v := (.ref (ad 9))) (by rw [e87]; exact aR.1) (State.isArrayOf_alike hZ.alike aR.2.1) rfl aR.2.2 (own_in (eR 9 (by decide)) (by decide) rfl) (eR 9 (by decide)) (g := (mkF m 195 #[.val (.long q1), .second, .val (.int p2), .val (.long q3), .second] [(.int (9 : Int32)), (.ref ra)])) rfl rfl (hb hby d3_195) _ ?_
                    show Steps p.tables e below (T87.setTop (mkF m 196 #[.val (.long q1), .second, .val (.int p2), .val (.long q3), .second] [(.ref (ad 9))])) _
                    exact k
                  have er : own_row q1 p2 q3 = 9 := (by
          simp only [own_lt, own_eq, own_ltL, own_eqL, own_k0, own_k1, own_k2, own_k3, own_k4, own_k5, own_k6, own_k7, own_k8, own_k9, own_k10, own_k11, own_k12, own_k13, own_k14, own_k15] at *
          unfold own_row
          simp only [own_lt, own_eq, own_ltL, own_eqL, own_k0, own_k1, own_k2, own_k3, own_k4, own_k5, own_k6, own_k7, own_k8, own_k9, own_k10, own_k11, own_k12, own_k13, own_k14, own_k15]
          repeat' split
          all_goals first | rfl | (exfalso; omega))
                  obtain ⟨fs, hr, hrun, hended, hW, hsame⟩ := X87.leave (v := some (.ref (ad 9))) (fun h => by rw [Bd.returns] at h; cases h)
                  refine ⟨_, _, pre88 _ ?_, hrun, hended, _, _, rfl, ?_, ⟨_, rfl⟩, hW, hsame.mono (by decide) (by decide)⟩
                  · exact retOut X87 hx Bd.returns rfl (Or.inr (Or.inr (Or.inr (Or.inr ⟨rfl, rfl, rfl⟩)))) (hb hby d3_196) hr
                  · show ((_ : Option Value) = some (.ref (ad (own_row q1 p2 q3))) ∧ Fr n0 _ ∧ T87.heap = h0)
                    rw [e87]
                    exact ⟨by rw [er], N0, rfl⟩
                · have pre89 : ∀ t, Steps p.tables e below (T83.setTop (mkF m 181 #[.val (.long q1), .second, .val (.int p2), .val (.long q3), .second] [])) t → Steps p.tables e below (s₁.setTop (entryFrame m #[(.long q1), (.int p2), (.long q3)] 5)) t := by
                    intro t k
                    refine pre85 _ ?_
                    refine XS.icmpNo X83.here hx rfl (hb hby d3_178) rfl (flt c7).2.2.1 ?_
                    show Steps p.tables e below (T83.setTop (mkF m 181 #[.val (.long q1), .second, .val (.int p2), .val (.long q3), .second] [])) _
                    exact k
                  obtain ⟨T90, X90, e90, st90⟩ := getS (host := "") X83 hx hZ hown (hw _ (List.mem_of_getElem? (i := 15) rfl)) Via.refl e83 sR (g := (mkF m 181 #[.val (.long q1), .second, .val (.int p2), .val (.long q3), .second] [])) rfl (hb hby d3_181)
                  have pre90 : ∀ t, Steps p.tables e below (T90.setTop (mkF m 184 #[.val (.long q1), .second, .val (.int p2), .val (.long q3), .second] [(.ref ra)])) t → Steps p.tables e below (s₁.setTop (entryFrame m #[(.long q1), (.int p2), (.long q3)] 5)) t := fun t k => pre89 t (st90 t k)
                  have pre91 : ∀ t, Steps p.tables e below (T90.setTop (mkF m 196 #[.val (.long q1), .second, .val (.int p2), .val (.long q3), .second] [(.ref (ad 8))])) t → Steps p.tables e below (s₁.setTop (entryFrame m #[(.long q1), (.int p2), (.long q3)] 5)) t := by
                    intro t k
                    refine pre90 _ ?_
                    refine XS.bipush X90.here hx rfl (hb hby d3_184) ?_
                    show Steps p.tables e below (T90.setTop (mkF m 186 #[.val (.long q1), .second, .val (.int p2), .val (.long q3), .second] [(.int (8 : Int32)), (.ref ra)])) _
                    refine X90.aaload hx (j := (8 : Int32)) (v := (.ref (ad 8))) (by rw [e90]; exact aR.1) (State.isArrayOf_alike hZ.alike aR.2.1) rfl aR.2.2 (own_in (eR 8 (by decide)) (by decide) rfl) (eR 8 (by decide)) (g := (mkF m 186 #[.val (.long q1), .second, .val (.int p2), .val (.long q3), .second] [(.int (8 : Int32)), (.ref ra)])) rfl rfl (hb hby d3_186) _ ?_
                    show Steps p.tables e below (T90.setTop (mkF m 187 #[.val (.long q1), .second, .val (.int p2), .val (.long q3), .second] [(.ref (ad 8))])) _
                    refine XS.goto X90.here hx rfl (pc0 := 187) (pc' := 196) rfl (hb hby d3_187) (by decide) (by decide) ?_
                    show Steps p.tables e below (T90.setTop (mkF m 196 #[.val (.long q1), .second, .val (.int p2), .val (.long q3), .second] [(.ref (ad 8))])) _
                    exact k
                  have er : own_row q1 p2 q3 = 8 := (by
          simp only [own_lt, own_eq, own_ltL, own_eqL, own_k0, own_k1, own_k2, own_k3, own_k4, own_k5, own_k6, own_k7, own_k8, own_k9, own_k10, own_k11, own_k12, own_k13, own_k14, own_k15] at *
          unfold own_row
          simp only [own_lt, own_eq, own_ltL, own_eqL, own_k0, own_k1, own_k2, own_k3, own_k4, own_k5, own_k6, own_k7, own_k8, own_k9, own_k10, own_k11, own_k12, own_k13, own_k14, own_k15]
          repeat' split
          all_goals first | rfl | (exfalso; omega))
                  obtain ⟨fs, hr, hrun, hended, hW, hsame⟩ := X90.leave (v := some (.ref (ad 8))) (fun h => by rw [Bd.returns] at h; cases h)
                  refine ⟨_, _, pre91 _ ?_, hrun, hended, _, _, rfl, ?_, ⟨_, rfl⟩, hW, hsame.mono (by decide) (by decide)⟩
                  · exact retOut X90 hx Bd.returns rfl (Or.inr (Or.inr (Or.inr (Or.inr ⟨rfl, rfl, rfl⟩)))) (hb hby d3_196) hr
                  · show ((_ : Option Value) = some (.ref (ad (own_row q1 p2 q3))) ∧ Fr n0 _ ∧ T90.heap = h0)
                    rw [e90]
                    exact ⟨by rw [er], N0, rfl⟩
              · have pre92 : ∀ t, Steps p.tables e below (T83.setTop (mkF m 200 #[.val (.long q1), .second, .val (.int p2), .val (.long q3), .second] [(.int (32 : Int32)), (.int p2)])) t → Steps p.tables e below (s₁.setTop (entryFrame m #[(.long q1), (.int p2), (.long q3)] 5)) t := by
                  intro t k
                  refine pre84 _ ?_
                  refine XS.ifYes X83.here hx rfl (pc0 := 172) (pc' := 197) rfl (hb hby d3_172) rfl ((if0 _ _).trans (feq (mt own_leq.mp c6)).2) (by decide) (by decide) ?_
                  show Steps p.tables e below (T83.setTop (mkF m 197 #[.val (.long q1), .second, .val (.int p2), .val (.long q3), .second] [])) _
                  refine XS.iloadN X83.here hx rfl (hb hby d3_197) rfl ?_
                  show Steps p.tables e below (T83.setTop (mkF m 198 #[.val (.long q1), .second, .val (.int p2), .val (.long q3), .second] [(.int p2)])) _
                  refine XS.bipush X83.here hx rfl (hb hby d3_198) ?_
                  show Steps p.tables e below (T83.setTop (mkF m 200 #[.val (.long q1), .second, .val (.int p2), .val (.long q3), .second] [(.int (32 : Int32)), (.int p2)])) _
                  exact k
                by_cases c7 : (32 : Int32) < p2
                · have pre93 : ∀ t, Steps p.tables e below (T83.setTop (mkF m 212 #[.val (.long q1), .second, .val (.int p2), .val (.long q3), .second] [])) t → Steps p.tables e below (s₁.setTop (entryFrame m #[(.long q1), (.int p2), (.long q3)] 5)) t := by
                    intro t k
                    refine pre92 _ ?_
                    refine XS.icmpYes X83.here hx rfl (pc0 := 200) (pc' := 212) rfl (hb hby d3_200) rfl (tlt c7).2.2.1 (by decide) (by decide) ?_
                    show Steps p.tables e below (T83.setTop (mkF m 212 #[.val (.long q1), .second, .val (.int p2), .val (.long q3), .second] [])) _
                    exact k
                  obtain ⟨T94, X94, e94, st94⟩ := getS (host := "") X83 hx hZ hown (hw _ (List.mem_of_getElem? (i := 15) rfl)) Via.refl e83 sR (g := (mkF m 212 #[.val (.long q1), .second, .val (.int p2), .val (.long q3), .second] [])) rfl (hb hby d3_212)
                  have pre94 : ∀ t, Steps p.tables e below (T94.setTop (mkF m 215 #[.val (.long q1), .second, .val (.int p2), .val (.long q3), .second] [(.ref ra)])) t → Steps p.tables e below (s₁.setTop (entryFrame m #[(.long q1), (.int p2), (.long q3)] 5)) t := fun t k => pre93 t (st94 t k)
                  have pre95 : ∀ t, Steps p.tables e below (T94.setTop (mkF m 218 #[.val (.long q1), .second, .val (.int p2), .val (.long q3), .second] [(.ref (ad 11))])) t → Steps p.tables e below (s₁.setTop (entryFrame m #[(.long q1), (.int p2), (.long q3)] 5)) t := by
                    intro t k
                    refine pre94 _ ?_
                    refine XS.bipush X94.here hx rfl (hb hby d3_215) ?_
                    show Steps p.tables e below (T94.setTop (mkF m 217 #[.val (.long q1), .second, .val (.int p2), .val (.long q3), .second] [(.int (11 : Int32)), (.ref ra)])) _
                    refine X94.aaload hx (j := (11 : Int32)) (v := (.ref (ad 11))) (by rw [e94]; exact aR.1) (State.isArrayOf_alike hZ.alike aR.2.1) rfl aR.2.2 (own_in (eR 11 (by decide)) (by decide) rfl) (eR 11 (by decide)) (g := (mkF m 217 #[.val (.long q1), .second, .val (.int p2), .val (.long q3), .second] [(.int (11 : Int32)), (.ref ra)])) rfl rfl (hb hby d3_217) _ ?_
                    show Steps p.tables e below (T94.setTop (mkF m 218 #[.val (.long q1), .second, .val (.int p2), .val (.long q3), .second] [(.ref (ad 11))])) _
                    exact k
                  have er : own_row q1 p2 q3 = 11 := (by
          simp only [own_lt, own_eq, own_ltL, own_eqL, own_k0, own_k1, own_k2, own_k3, own_k4, own_k5, own_k6, own_k7, own_k8, own_k9, own_k10, own_k11, own_k12, own_k13, own_k14, own_k15] at *
          unfold own_row
          simp only [own_lt, own_eq, own_ltL, own_eqL, own_k0, own_k1, own_k2, own_k3, own_k4, own_k5, own_k6, own_k7, own_k8, own_k9, own_k10, own_k11, own_k12, own_k13, own_k14, own_k15]
          repeat' split
          all_goals first | rfl | (exfalso; omega))
                  obtain ⟨fs, hr, hrun, hended, hW, hsame⟩ := X94.leave (v := some (.ref (ad 11))) (fun h => by rw [Bd.returns] at h; cases h)
                  refine ⟨_, _, pre95 _ ?_, hrun, hended, _, _, rfl, ?_, ⟨_, rfl⟩, hW, hsame.mono (by decide) (by decide)⟩
                  · exact retOut X94 hx Bd.returns rfl (Or.inr (Or.inr (Or.inr (Or.inr ⟨rfl, rfl, rfl⟩)))) (hb hby d3_218) hr
                  · show ((_ : Option Value) = some (.ref (ad (own_row q1 p2 q3))) ∧ Fr n0 _ ∧ T94.heap = h0)
                    rw [e94]
                    exact ⟨by rw [er], N0, rfl⟩
                · have pre96 : ∀ t, Steps p.tables e below (T83.setTop (mkF m 203 #[.val (.long q1), .second, .val (.int p2), .val (.long q3), .second] [])) t → Steps p.tables e below (s₁.setTop (entryFrame m #[(.long q1), (.int p2), (.long q3)] 5)) t := by
                    intro t k
                    refine pre92 _ ?_
                    refine XS.icmpNo X83.here hx rfl (hb hby d3_200) rfl (flt c7).2.2.1 ?_
                    show Steps p.tables e below (T83.setTop (mkF m 203 #[.val (.long q1), .second, .val (.int p2), .val (.long q3), .second] [])) _
                    exact k
                  obtain ⟨T97, X97, e97, st97⟩ := getS (host := "") X83 hx hZ hown (hw _ (List.mem_of_getElem? (i := 15) rfl)) Via.refl e83 sR (g := (mkF m 203 #[.val (.long q1), .second, .val (.int p2), .val (.long q3), .second] [])) rfl (hb hby d3_203)
                  have pre97 : ∀ t, Steps p.tables e below (T97.setTop (mkF m 206 #[.val (.long q1), .second, .val (.int p2), .val (.long q3), .second] [(.ref ra)])) t → Steps p.tables e below (s₁.setTop (entryFrame m #[(.long q1), (.int p2), (.long q3)] 5)) t := fun t k => pre96 t (st97 t k)
                  have pre98 : ∀ t, Steps p.tables e below (T97.setTop (mkF m 218 #[.val (.long q1), .second, .val (.int p2), .val (.long q3), .second] [(.ref (ad 10))])) t → Steps p.tables e below (s₁.setTop (entryFrame m #[(.long q1), (.int p2), (.long q3)] 5)) t := by
                    intro t k
                    refine pre97 _ ?_
                    refine XS.bipush X97.here hx rfl (hb hby d3_206) ?_
                    show Steps p.tables e below (T97.setTop (mkF m 208 #[.val (.long q1), .second, .val (.int p2), .val (.long q3), .second] [(.int (10 : Int32)), (.ref ra)])) _
                    refine X97.aaload hx (j := (10 : Int32)) (v := (.ref (ad 10))) (by rw [e97]; exact aR.1) (State.isArrayOf_alike hZ.alike aR.2.1) rfl aR.2.2 (own_in (eR 10 (by decide)) (by decide) rfl) (eR 10 (by decide)) (g := (mkF m 208 #[.val (.long q1), .second, .val (.int p2), .val (.long q3), .second] [(.int (10 : Int32)), (.ref ra)])) rfl rfl (hb hby d3_208) _ ?_
                    show Steps p.tables e below (T97.setTop (mkF m 209 #[.val (.long q1), .second, .val (.int p2), .val (.long q3), .second] [(.ref (ad 10))])) _
                    refine XS.goto X97.here hx rfl (pc0 := 209) (pc' := 218) rfl (hb hby d3_209) (by decide) (by decide) ?_
                    show Steps p.tables e below (T97.setTop (mkF m 218 #[.val (.long q1), .second, .val (.int p2), .val (.long q3), .second] [(.ref (ad 10))])) _
                    exact k
                  have er : own_row q1 p2 q3 = 10 := (by
          simp only [own_lt, own_eq, own_ltL, own_eqL, own_k0, own_k1, own_k2, own_k3, own_k4, own_k5, own_k6, own_k7, own_k8, own_k9, own_k10, own_k11, own_k12, own_k13, own_k14, own_k15] at *
          unfold own_row
          simp only [own_lt, own_eq, own_ltL, own_eqL, own_k0, own_k1, own_k2, own_k3, own_k4, own_k5, own_k6, own_k7, own_k8, own_k9, own_k10, own_k11, own_k12, own_k13, own_k14, own_k15]
          repeat' split
          all_goals first | rfl | (exfalso; omega))
                  obtain ⟨fs, hr, hrun, hended, hW, hsame⟩ := X97.leave (v := some (.ref (ad 10))) (fun h => by rw [Bd.returns] at h; cases h)
                  refine ⟨_, _, pre98 _ ?_, hrun, hended, _, _, rfl, ?_, ⟨_, rfl⟩, hW, hsame.mono (by decide) (by decide)⟩
                  · exact retOut X97 hx Bd.returns rfl (Or.inr (Or.inr (Or.inr (Or.inr ⟨rfl, rfl, rfl⟩)))) (hb hby d3_218) hr
                  · show ((_ : Option Value) = some (.ref (ad (own_row q1 p2 q3))) ∧ Fr n0 _ ∧ T97.heap = h0)
                    rw [e97]
                    exact ⟨by rw [er], N0, rfl⟩
    · have pre99 : ∀ t, Steps p.tables e below (s₁.setTop (mkF m 22 #[.val (.long q1), .second, .val (.int p2), .val (.long q3), .second] [])) t → Steps p.tables e below (s₁.setTop (entryFrame m #[(.long q1), (.int p2), (.long q3)] 5)) t := by
        intro t k
        refine pre5 _ ?_
        refine XS.ifNo X0.here hx rfl (hb hby d3_19) rfl ((if0 _ _).trans (flt (mt own_lgt.mp c1)).2.2.1) ?_
        show Steps p.tables e below (s₁.setTop (mkF m 22 #[.val (.long q1), .second, .val (.int p2), .val (.long q3), .second] [])) _
        exact k
      obtain ⟨T100, X100, e100, st100⟩ := getS (host := "") X0 hx hZ hown (hw _ (List.mem_of_getElem? (i := 15) rfl)) Via.refl e0 sR (g := (mkF m 22 #[.val (.long q1), .second, .val (.int p2), .val (.long q3), .second] [])) rfl (hb hby d3_22)
      have pre100 : ∀ t, Steps p.tables e below (T100.setTop (mkF m 25 #[.val (.long q1), .second, .val (.int p2), .val (.long q3), .second] [(.ref ra)])) t → Steps p.tables e below (s₁.setTop (entryFrame m #[(.long q1), (.int p2), (.long q3)] 5)) t := fun t k => pre99 t (st100 t k)
      have pre101 : ∀ t, Steps p.tables e below (T100.setTop (mkF m 27 #[.val (.long q1), .second, .val (.int p2), .val (.long q3), .second] [(.ref (ad 1))])) t → Steps p.tables e below (s₁.setTop (entryFrame m #[(.long q1), (.int p2), (.long q3)] 5)) t := by
        intro t k
        refine pre100 _ ?_
        refine XS.iconst X100.here hx rfl (hb hby d3_25) ?_
        show Steps p.tables e below (T100.setTop (mkF m 26 #[.val (.long q1), .second, .val (.int p2), .val (.long q3), .second] [(.int (1 : Int32)), (.ref ra)])) _
        refine X100.aaload hx (j := (1 : Int32)) (v := (.ref (ad 1))) (by rw [e100]; exact aR.1) (State.isArrayOf_alike hZ.alike aR.2.1) rfl aR.2.2 (own_in (eR 1 (by decide)) (by decide) rfl) (eR 1 (by decide)) (g := (mkF m 26 #[.val (.long q1), .second, .val (.int p2), .val (.long q3), .second] [(.int (1 : Int32)), (.ref ra)])) rfl rfl (hb hby d3_26) _ ?_
        show Steps p.tables e below (T100.setTop (mkF m 27 #[.val (.long q1), .second, .val (.int p2), .val (.long q3), .second] [(.ref (ad 1))])) _
        exact k
      have er : own_row q1 p2 q3 = 1 := (by
          simp only [own_lt, own_eq, own_ltL, own_eqL, own_k0, own_k1, own_k2, own_k3, own_k4, own_k5, own_k6, own_k7, own_k8, own_k9, own_k10, own_k11, own_k12, own_k13, own_k14, own_k15] at *
          unfold own_row
          simp only [own_lt, own_eq, own_ltL, own_eqL, own_k0, own_k1, own_k2, own_k3, own_k4, own_k5, own_k6, own_k7, own_k8, own_k9, own_k10, own_k11, own_k12, own_k13, own_k14, own_k15]
          repeat' split
          all_goals first | rfl | (exfalso; omega))
      obtain ⟨fs, hr, hrun, hended, hW, hsame⟩ := X100.leave (v := some (.ref (ad 1))) (fun h => by rw [Bd.returns] at h; cases h)
      refine ⟨_, _, pre101 _ ?_, hrun, hended, _, _, rfl, ?_, ⟨_, rfl⟩, hW, hsame.mono (by decide) (by decide)⟩
      · exact retOut X100 hx Bd.returns rfl (Or.inr (Or.inr (Or.inr (Or.inr ⟨rfl, rfl, rfl⟩)))) (hb hby d3_27) hr
      · show ((_ : Option Value) = some (.ref (ad (own_row q1 p2 q3))) ∧ Fr n0 _ ∧ T100.heap = h0)
        rw [e100]
        exact ⟨by rw [er], N0, rfl⟩
set_option maxRecDepth 65536 in
set_option maxHeartbeats 40000000 in
theorem rm4 (l : Launch) (Z : State) (a0 : Array Value) (hw : ∀ d ∈ tables_1, d.before a0 Z = true) (ws : List Jvm.Cond) (q1 : Int64) (p2 : Int32) (q3 : Int64) (h0 : Heap) (n0 : Nat) (Z0 : n0 ≤ h0.size)  :
    MetFree l (⟨"com/example/jobwright/jobwright/workload/O2kJobsRatioPinLaw", "expectedRow", "(JIJ)I"⟩ : MethodName) (head1 (Jvm.Cond.code (⟨"com/example/jobwright/jobwright/workload/O2kJobsRatioPinLaw", "expectedRow", "(JIJ)I"⟩ : MethodName) method_5_code 5 (some .int) :: ws) ({ frames := 0, cells := 0, slots := 0, locals := 0 } : Room)) (fun a U => a = #[(.long q1), (.int p2), (.long q3)] ∧ Z.Warmed39 U.vm ∧ U.heap = h0) (fun _ _ _ _ _ => True) (fun _ U o U' => ∃ v L, o = .returned v ∧ own_Q (fun v h L => (v = some (.int (Int32.ofNat (own_row q1 p2 q3))) ∧ Fr n0 L ∧ h = h0)) v U'.heap L ∧ FrameEnd U o U' L ({ frames := 0, cells := 0, slots := 0, locals := 0 } : Room).cells ({ frames := 0, cells := 0, slots := 0, locals := 0 } : Room).slots) := by
  refine MetFree.of_bodySF (plainFor_of_name own_pn0) hisR ?_
  intro p e s m args below meth c s₁ Bd hml0 hP hK
  obtain ⟨rfl, hZ, hh⟩ := hP
  have hx := Bd.exec
  have hby := Bd.bytes
  have hml : c.maxLocals = 5 := hml0
  have hown : s.vm.findClass "com/example/jobwright/jobwright/workload/O2kJobsRatioPinLaw" = some m.cls := findClass_of_methodNamed Bd.named
  have hnm := (name_of_methodNamed Bd.named Bd.method).1
  have X0 : Stand p l e ({ frames := 0, cells := 0, slots := 0, locals := 0 } : Room) s m #[(.long q1), (.int p2), (.long q3)] below meth c s₁ [] 0 0 := Stand.of_body Bd
  have e0 : s₁.heap = h0 := by rw [← hh, Bd.state]; rfl
  have N0 := Fr.nil n0
  have ef : entryFrame m #[(.long q1), (.int p2), (.long q3)] 5 = mkF m 0 #[.val (.long q1), .second, .val (.int p2), .val (.long q3), .second] [] := by first | (simp [entryFrame, mkF, argsToLocals, Value.category]; done) | rfl
  have pre0 : ∀ t, Steps p.tables e below (s₁.setTop (mkF m 0 #[.val (.long q1), .second, .val (.int p2), .val (.long q3), .second] [])) t → Steps p.tables e below (s₁.setTop (entryFrame m #[(.long q1), (.int p2), (.long q3)] 5)) t := fun t k => castTop ef k
  have pre1 : ∀ t, Steps p.tables e below (s₁.setTop (mkF m 5 #[.val (.long q1), .second, .val (.int p2), .val (.long q3), .second] [(.int (lcmpW q1 (60 : Int64)))])) t → Steps p.tables e below (s₁.setTop (entryFrame m #[(.long q1), (.int p2), (.long q3)] 5)) t := by
    intro t k
    refine pre0 _ ?_
    refine XS.lloadN X0.here hx rfl (hb hby d4_0) rfl ?_
    show Steps p.tables e below (s₁.setTop (mkF m 1 #[.val (.long q1), .second, .val (.int p2), .val (.long q3), .second] [(.long q1)])) _
    refine X0.ldc2Long hx hown (mvT hZ (hw _ (List.mem_of_getElem? (i := 5) rfl))) (g := (mkF m 1 #[.val (.long q1), .second, .val (.int p2), .val (.long q3), .second] [(.long q1)])) rfl (hb hby d4_1) _ ?_
    show Steps p.tables e below (s₁.setTop (mkF m 4 #[.val (.long q1), .second, .val (.int p2), .val (.long q3), .second] [(.long (60 : Int64)), (.long q1)])) _
    refine XS.lcmp X0.here hx rfl (hb hby d4_4) rfl ?_
    show Steps p.tables e below (s₁.setTop (mkF m 5 #[.val (.long q1), .second, .val (.int p2), .val (.long q3), .second] [(.int (lcmpW q1 (60 : Int64)))])) _
    exact k
  by_cases c0 : q1 = (60 : Int64)
  · have pre2 : ∀ t, Steps p.tables e below (s₁.setTop (mkF m 9 #[.val (.long q1), .second, .val (.int p2), .val (.long q3), .second] [(.int (0 : Int32))])) t → Steps p.tables e below (s₁.setTop (entryFrame m #[(.long q1), (.int p2), (.long q3)] 5)) t := by
      intro t k
      refine pre1 _ ?_
      refine XS.ifNo X0.here hx rfl (hb hby d4_5) rfl ((if0 _ _).trans (teq (own_leq.mpr c0)).2) ?_
      show Steps p.tables e below (s₁.setTop (mkF m 8 #[.val (.long q1), .second, .val (.int p2), .val (.long q3), .second] [])) _
      refine XS.iconst X0.here hx rfl (hb hby d4_8) ?_
      show Steps p.tables e below (s₁.setTop (mkF m 9 #[.val (.long q1), .second, .val (.int p2), .val (.long q3), .second] [(.int (0 : Int32))])) _
      exact k
    have er : own_row q1 p2 q3 = 0 := (by
          simp only [own_lt, own_eq, own_ltL, own_eqL, own_k0, own_k1, own_k2, own_k3, own_k4, own_k5, own_k6, own_k7, own_k8, own_k9, own_k10, own_k11, own_k12, own_k13, own_k14, own_k15] at *
          unfold own_row
          simp only [own_lt, own_eq, own_ltL, own_eqL, own_k0, own_k1, own_k2, own_k3, own_k4, own_k5, own_k6, own_k7, own_k8, own_k9, own_k10, own_k11, own_k12, own_k13, own_k14, own_k15]
          repeat' split
          all_goals first | rfl | (exfalso; omega))
    obtain ⟨fs, hr, hrun, hended, hW, hsame⟩ := X0.leave (v := some (.int (0 : Int32))) (fun h => by rw [Bd.returns] at h; cases h)
    refine ⟨_, _, pre2 _ ?_, hrun, hended, _, _, rfl, ?_, ⟨_, rfl⟩, hW, hsame.mono (by decide) (by decide)⟩
    · exact retI X0 hx Bd.returns (hb hby d4_9) hr
    · show ((_ : Option Value) = some (.int (Int32.ofNat (own_row q1 p2 q3))) ∧ Fr n0 _ ∧ s₁.heap = h0)
      rw [e0]
      exact ⟨by rw [er]; rfl, N0, rfl⟩
  · have pre3 : ∀ t, Steps p.tables e below (s₁.setTop (mkF m 15 #[.val (.long q1), .second, .val (.int p2), .val (.long q3), .second] [(.int (lcmpW q1 (600 : Int64)))])) t → Steps p.tables e below (s₁.setTop (entryFrame m #[(.long q1), (.int p2), (.long q3)] 5)) t := by
      intro t k
      refine pre1 _ ?_
      refine XS.ifYes X0.here hx rfl (pc0 := 5) (pc' := 10) rfl (hb hby d4_5) rfl ((if0 _ _).trans (feq (mt own_leq.mp c0)).2) (by decide) (by decide) ?_
      show Steps p.tables e below (s₁.setTop (mkF m 10 #[.val (.long q1), .second, .val (.int p2), .val (.long q3), .second] [])) _
      refine XS.lloadN X0.here hx rfl (hb hby d4_10) rfl ?_
      show Steps p.tables e below (s₁.setTop (mkF m 11 #[.val (.long q1), .second, .val (.int p2), .val (.long q3), .second] [(.long q1)])) _
      refine X0.ldc2Long hx hown (mvT hZ (hw _ (List.mem_of_getElem? (i := 20) rfl))) (g := (mkF m 11 #[.val (.long q1), .second, .val (.int p2), .val (.long q3), .second] [(.long q1)])) rfl (hb hby d4_11) _ ?_
      show Steps p.tables e below (s₁.setTop (mkF m 14 #[.val (.long q1), .second, .val (.int p2), .val (.long q3), .second] [(.long (600 : Int64)), (.long q1)])) _
      refine XS.lcmp X0.here hx rfl (hb hby d4_14) rfl ?_
      show Steps p.tables e below (s₁.setTop (mkF m 15 #[.val (.long q1), .second, .val (.int p2), .val (.long q3), .second] [(.int (lcmpW q1 (600 : Int64)))])) _
      exact k
    by_cases c1 : (600 : Int64) < q1
    · have pre4 : ∀ t, Steps p.tables e below (s₁.setTop (mkF m 25 #[.val (.long q1), .second, .val (.int p2), .val (.long q3), .second] [(.int (lcmpW q1 (18000 : Int64)))])) t → Steps p.tables e below (s₁.setTop (entryFrame m #[(.long q1), (.int p2), (.long q3)] 5)) t := by
        intro t k
        refine pre3 _ ?_
        refine XS.ifYes X0.here hx rfl (pc0 := 15) (pc' := 20) rfl (hb hby d4_15) rfl ((if0 _ _).trans (tlt (own_lgt.mpr c1)).2.2.1) (by decide) (by decide) ?_
        show Steps p.tables e below (s₁.setTop (mkF m 20 #[.val (.long q1), .second, .val (.int p2), .val (.long q3), .second] [])) _
        refine XS.lloadN X0.here hx rfl (hb hby d4_20) rfl ?_
        show Steps p.tables e below (s₁.setTop (mkF m 21 #[.val (.long q1), .second, .val (.int p2), .val (.long q3), .second] [(.long q1)])) _
        refine X0.ldc2Long hx hown (mvT hZ (hw _ (List.mem_of_getElem? (i := 44) rfl))) (g := (mkF m 21 #[.val (.long q1), .second, .val (.int p2), .val (.long q3), .second] [(.long q1)])) rfl (hb hby d4_21) _ ?_
        show Steps p.tables e below (s₁.setTop (mkF m 24 #[.val (.long q1), .second, .val (.int p2), .val (.long q3), .second] [(.long (18000 : Int64)), (.long q1)])) _
        refine XS.lcmp X0.here hx rfl (hb hby d4_24) rfl ?_
        show Steps p.tables e below (s₁.setTop (mkF m 25 #[.val (.long q1), .second, .val (.int p2), .val (.long q3), .second] [(.int (lcmpW q1 (18000 : Int64)))])) _
        exact k
      by_cases c2 : q1 < (18000 : Int64)
      · have pre5 : ∀ t, Steps p.tables e below (s₁.setTop (mkF m 30 #[.val (.long q1), .second, .val (.int p2), .val (.long q3), .second] [(.int (1 : Int32)), (.int p2)])) t → Steps p.tables e below (s₁.setTop (entryFrame m #[(.long q1), (.int p2), (.long q3)] 5)) t := by
          intro t k
          refine pre4 _ ?_
          refine XS.ifNo X0.here hx rfl (hb hby d4_25) rfl ((if0 _ _).trans (tlt (own_llt.mpr c2)).2.1) ?_
          show Steps p.tables e below (s₁.setTop (mkF m 28 #[.val (.long q1), .second, .val (.int p2), .val (.long q3), .second] [])) _
          refine XS.iloadN X0.here hx rfl (hb hby d4_28) rfl ?_
          show Steps p.tables e below (s₁.setTop (mkF m 29 #[.val (.long q1), .second, .val (.int p2), .val (.long q3), .second] [(.int p2)])) _
          refine XS.iconst X0.here hx rfl (hb hby d4_29) ?_
          show Steps p.tables e below (s₁.setTop (mkF m 30 #[.val (.long q1), .second, .val (.int p2), .val (.long q3), .second] [(.int (1 : Int32)), (.int p2)])) _
          exact k
        by_cases c3 : p2 = (1 : Int32)
        · have pre6 : ∀ t, Steps p.tables e below (s₁.setTop (mkF m 34 #[.val (.long q1), .second, .val (.int p2), .val (.long q3), .second] [(.int (3 : Int32))])) t → Steps p.tables e below (s₁.setTop (entryFrame m #[(.long q1), (.int p2), (.long q3)] 5)) t := by
            intro t k
            refine pre5 _ ?_
            refine XS.icmpNo X0.here hx rfl (hb hby d4_30) rfl (teq c3).2 ?_
            show Steps p.tables e below (s₁.setTop (mkF m 33 #[.val (.long q1), .second, .val (.int p2), .val (.long q3), .second] [])) _
            refine XS.iconst X0.here hx rfl (hb hby d4_33) ?_
            show Steps p.tables e below (s₁.setTop (mkF m 34 #[.val (.long q1), .second, .val (.int p2), .val (.long q3), .second] [(.int (3 : Int32))])) _
            exact k
          have er : own_row q1 p2 q3 = 3 := (by
          simp only [own_lt, own_eq, own_ltL, own_eqL, own_k0, own_k1, own_k2, own_k3, own_k4, own_k5, own_k6, own_k7, own_k8, own_k9, own_k10, own_k11, own_k12, own_k13, own_k14, own_k15] at *
          unfold own_row
          simp only [own_lt, own_eq, own_ltL, own_eqL, own_k0, own_k1, own_k2, own_k3, own_k4, own_k5, own_k6, own_k7, own_k8, own_k9, own_k10, own_k11, own_k12, own_k13, own_k14, own_k15]
          repeat' split
          all_goals first | rfl | (exfalso; omega))
          obtain ⟨fs, hr, hrun, hended, hW, hsame⟩ := X0.leave (v := some (.int (3 : Int32))) (fun h => by rw [Bd.returns] at h; cases h)
          refine ⟨_, _, pre6 _ ?_, hrun, hended, _, _, rfl, ?_, ⟨_, rfl⟩, hW, hsame.mono (by decide) (by decide)⟩
          · exact retI X0 hx Bd.returns (hb hby d4_34) hr
          · show ((_ : Option Value) = some (.int (Int32.ofNat (own_row q1 p2 q3))) ∧ Fr n0 _ ∧ s₁.heap = h0)
            rw [e0]
            exact ⟨by rw [er]; rfl, N0, rfl⟩
        · have pre7 : ∀ t, Steps p.tables e below (s₁.setTop (mkF m 37 #[.val (.long q1), .second, .val (.int p2), .val (.long q3), .second] [(.int (5 : Int32)), (.int p2)])) t → Steps p.tables e below (s₁.setTop (entryFrame m #[(.long q1), (.int p2), (.long q3)] 5)) t := by
            intro t k
            refine pre5 _ ?_
            refine XS.icmpYes X0.here hx rfl (pc0 := 30) (pc' := 35) rfl (hb hby d4_30) rfl (feq c3).2 (by decide) (by decide) ?_
            show Steps p.tables e below (s₁.setTop (mkF m 35 #[.val (.long q1), .second, .val (.int p2), .val (.long q3), .second] [])) _
            refine XS.iloadN X0.here hx rfl (hb hby d4_35) rfl ?_
            show Steps p.tables e below (s₁.setTop (mkF m 36 #[.val (.long q1), .second, .val (.int p2), .val (.long q3), .second] [(.int p2)])) _
            refine XS.iconst X0.here hx rfl (hb hby d4_36) ?_
            show Steps p.tables e below (s₁.setTop (mkF m 37 #[.val (.long q1), .second, .val (.int p2), .val (.long q3), .second] [(.int (5 : Int32)), (.int p2)])) _
            exact k
          by_cases c4 : p2 < (5 : Int32)
          · have pre8 : ∀ t, Steps p.tables e below (s₁.setTop (mkF m 49 #[.val (.long q1), .second, .val (.int p2), .val (.long q3), .second] [(.int (32 : Int32)), (.int p2)])) t → Steps p.tables e below (s₁.setTop (entryFrame m #[(.long q1), (.int p2), (.long q3)] 5)) t := by
              intro t k
              refine pre7 _ ?_
              refine XS.icmpYes X0.here hx rfl (pc0 := 37) (pc' := 46) rfl (hb hby d4_37) rfl (tlt c4).1 (by decide) (by decide) ?_
              show Steps p.tables e below (s₁.setTop (mkF m 46 #[.val (.long q1), .second, .val (.int p2), .val (.long q3), .second] [])) _
              refine XS.iloadN X0.here hx rfl (hb hby d4_46) rfl ?_
              show Steps p.tables e below (s₁.setTop (mkF m 47 #[.val (.long q1), .second, .val (.int p2), .val (.long q3), .second] [(.int p2)])) _
              refine XS.bipush X0.here hx rfl (hb hby d4_47) ?_
              show Steps p.tables e below (s₁.setTop (mkF m 49 #[.val (.long q1), .second, .val (.int p2), .val (.long q3), .second] [(.int (32 : Int32)), (.int p2)])) _
              exact k
            by_cases c5 : (32 : Int32) < p2
            · have pre9 : ∀ t, Steps p.tables e below (s₁.setTop (mkF m 53 #[.val (.long q1), .second, .val (.int p2), .val (.long q3), .second] [(.int (4 : Int32))])) t → Steps p.tables e below (s₁.setTop (entryFrame m #[(.long q1), (.int p2), (.long q3)] 5)) t := by
                intro t k
                refine pre8 _ ?_
                refine XS.icmpNo X0.here hx rfl (hb hby d4_49) rfl (tlt c5).2.2.2 ?_
                show Steps p.tables e below (s₁.setTop (mkF m 52 #[.val (.long q1), .second, .val (.int p2), .val (.long q3), .second] [])) _
                refine XS.iconst X0.here hx rfl (hb hby d4_52) ?_
                show Steps p.tables e below (s₁.setTop (mkF m 53 #[.val (.long q1), .second, .val (.int p2), .val (.long q3), .second] [(.int (4 : Int32))])) _
                exact k
              have er : own_row q1 p2 q3 = 4 := (by
          simp only [own_lt, own_eq, own_ltL, own_eqL, own_k0, own_k1, own_k2, own_k3, own_k4, own_k5, own_k6, own_k7, own_k8, own_k9, own_k10, own_k11, own_k12, own_k13, own_k14, own_k15] at *
          unfold own_row
          simp only [own_lt, own_eq, own_ltL, own_eqL, own_k0, own_k1, own_k2, own_k3, own_k4, own_k5, own_k6, own_k7, own_k8, own_k9, own_k10, own_k11, own_k12, own_k13, own_k14, own_k15]
          repeat' split
          all_goals first | rfl | (exfalso; omega))
              obtain ⟨fs, hr, hrun, hended, hW, hsame⟩ := X0.leave (v := some (.int (4 : Int32))) (fun h => by rw [Bd.returns] at h; cases h)
              refine ⟨_, _, pre9 _ ?_, hrun, hended, _, _, rfl, ?_, ⟨_, rfl⟩, hW, hsame.mono (by decide) (by decide)⟩
              · exact retI X0 hx Bd.returns (hb hby d4_53) hr
              · show ((_ : Option Value) = some (.int (Int32.ofNat (own_row q1 p2 q3))) ∧ Fr n0 _ ∧ s₁.heap = h0)
                rw [e0]
                exact ⟨by rw [er]; rfl, N0, rfl⟩
            · have pre10 : ∀ t, Steps p.tables e below (s₁.setTop (mkF m 55 #[.val (.long q1), .second, .val (.int p2), .val (.long q3), .second] [(.int (2 : Int32))])) t → Steps p.tables e below (s₁.setTop (entryFrame m #[(.long q1), (.int p2), (.long q3)] 5)) t := by
                intro t k
                refine pre8 _ ?_
                refine XS.icmpYes X0.here hx rfl (pc0 := 49) (pc' := 54) rfl (hb hby d4_49) rfl (flt c5).2.2.2 (by decide) (by decide) ?_
                show Steps p.tables e below (s₁.setTop (mkF m 54 #[.val (.long q1), .second, .val (.int p2), .val (.long q3), .second] [])) _
                refine XS.iconst X0.here hx rfl (hb hby d4_54) ?_
                show Steps p.tables e below (s₁.setTop (mkF m 55 #[.val (.long q1), .second, .val (.int p2), .val (.long q3), .second] [(.int (2 : Int32))])) _
                exact k
              have er : own_row q1 p2 q3 = 2 := (by
          simp only [own_lt, own_eq, own_ltL, own_eqL, own_k0, own_k1, own_k2, own_k3, own_k4, own_k5, own_k6, own_k7, own_k8, own_k9, own_k10, own_k11, own_k12, own_k13, own_k14, own_k15] at *
          unfold own_row
          simp only [own_lt, own_eq, own_ltL, own_eqL, own_k0, own_k1, own_k2, own_k3, own_k4, own_k5, own_k6, own_k7, own_k8, own_k9, own_k10, own_k11, own_k12, own_k13, own_k14, own_k15]
          repeat' split
          all_goals first | rfl | (exfalso; omega))
              obtain ⟨fs, hr, hrun, hended, hW, hsame⟩ := X0.leave (v := some (.int (2 : Int32))) (fun h => by rw [Bd.returns] at h; cases h)
              refine ⟨_, _, pre10 _ ?_, hrun, hended, _, _, rfl, ?_, ⟨_, rfl⟩, hW, hsame.mono (by decide) (by decide)⟩
              · exact retI X0 hx Bd.returns (hb hby d4_55) hr
              · show ((_ : Option Value) = some (.int (Int32.ofNat (own_row q1 p2 q3))) ∧ Fr n0 _ ∧ s₁.heap = h0)
                rw [e0]
                exact ⟨by rw [er]; rfl, N0, rfl⟩
          · have pre11 : ∀ t, Steps p.tables e below (s₁.setTop (mkF m 43 #[.val (.long q1), .second, .val (.int p2), .val (.long q3), .second] [(.int (8 : Int32)), (.int p2)])) t → Steps p.tables e below (s₁.setTop (entryFrame m #[(.long q1), (.int p2), (.long q3)] 5)) t := by
              intro t k
              refine pre7 _ ?_
              refine XS.icmpNo X0.here hx rfl (hb hby d4_37) rfl (flt c4).1 ?_
              show Steps p.tables e below (s₁.setTop (mkF m 40 #[.val (.long q1), .second, .val (.int p2), .val (.long q3), .second] [])) _
              refine XS.iloadN X0.here hx rfl (hb hby d4_40) rfl ?_
              show Steps p.tables e below (s₁.setTop (mkF m 41 #[.val (.long q1), .second, .val (.int p2), .val (.long q3), .second] [(.int p2)])) _
              refine XS.bipush X0.here hx rfl (hb hby d4_41) ?_
              show Steps p.tables e below (s₁.setTop (mkF m 43 #[.val (.long q1), .second, .val (.int p2), .val (.long q3), .second] [(.int (8 : Int32)), (.int p2)])) _
              exact k
            by_cases c5 : (8 : Int32) < p2
            · have pre12 : ∀ t, Steps p.tables e below (s₁.setTop (mkF m 49 #[.val (.long q1), .second, .val (.int p2), .val (.long q3), .second] [(.int (32 : Int32)), (.int p2)])) t → Steps p.tables e below (s₁.setTop (entryFrame m #[(.long q1), (.int p2), (.long q3)] 5)) t := by
                intro t k
                refine pre11 _ ?_
                refine XS.icmpNo X0.here hx rfl (hb hby d4_43) rfl (tlt c5).2.2.2 ?_
                show Steps p.tables e below (s₁.setTop (mkF m 46 #[.val (.long q1), .second, .val (.int p2), .val (.long q3), .second] [])) _
                refine XS.iloadN X0.here hx rfl (hb hby d4_46) rfl ?_
                show Steps p.tables e below (s₁.setTop (mkF m 47 #[.val (.long q1), .second, .val (.int p2), .val (.long q3), .second] [(.int p2)])) _
                refine XS.bipush X0.here hx rfl (hb hby d4_47) ?_
                show Steps p.tables e below (s₁.setTop (mkF m 49 #[.val (.long q1), .second, .val (.int p2), .val (.long q3), .second] [(.int (32 : Int32)), (.int p2)])) _
                exact k
              by_cases c6 : (32 : Int32) < p2
              · have pre13 : ∀ t, Steps p.tables e below (s₁.setTop (mkF m 53 #[.val (.long q1), .second, .val (.int p2), .val (.long q3), .second] [(.int (4 : Int32))])) t → Steps p.tables e below (s₁.setTop (entryFrame m #[(.long q1), (.int p2), (.long q3)] 5)) t := by
                  intro t k
                  refine pre12 _ ?_
                  refine XS.icmpNo X0.here hx rfl (hb hby d4_49) rfl (tlt c6).2.2.2 ?_
                  show Steps p.tables e below (s₁.setTop (mkF m 52 #[.val (.long q1), .second, .val (.int p2), .val (.long q3), .second] [])) _
                  refine XS.iconst X0.here hx rfl (hb hby d4_52) ?_
                  show Steps p.tables e below (s₁.setTop (mkF m 53 #[.val (.long q1), .second, .val (.int p2), .val (.long q3), .second] [(.int (4 : Int32))])) _
                  exact k
                have er : own_row q1 p2 q3 = 4 := (by
          simp only [own_lt, own_eq, own_ltL, own_eqL, own_k0, own_k1, own_k2, own_k3, own_k4, own_k5, own_k6, own_k7, own_k8, own_k9, own_k10, own_k11, own_k12, own_k13, own_k14, own_k15] at *
          unfold own_row
          simp only [own_lt, own_eq, own_ltL, own_eqL, own_k0, own_k1, own_k2, own_k3, own_k4, own_k5, own_k6, own_k7, own_k8, own_k9, own_k10, own_k11, own_k12, own_k13, own_k14, own_k15]
          repeat' split
          all_goals first | rfl | (exfalso; omega))
                obtain ⟨fs, hr, hrun, hended, hW, hsame⟩ := X0.leave (v := some (.int (4 : Int32))) (fun h => by rw [Bd.returns] at h; cases h)
                refine ⟨_, _, pre13 _ ?_, hrun, hended, _, _, rfl, ?_, ⟨_, rfl⟩, hW, hsame.mono (by decide) (by decide)⟩
                · exact retI X0 hx Bd.returns (hb hby d4_53) hr
                · show ((_ : Option Value) = some (.int (Int32.ofNat (own_row q1 p2 q3))) ∧ Fr n0 _ ∧ s₁.heap = h0)
                  rw [e0]
                  exact ⟨by rw [er]; rfl, N0, rfl⟩
              · have pre14 : ∀ t, Steps p.tables e below (s₁.setTop (mkF m 55 #[.val (.long q1), .second, .val (.int p2), .val (.long q3), .second] [(.int (2 : Int32))])) t → Steps p.tables e below (s₁.setTop (entryFrame m #[(.long q1), (.int p2), (.long q3)] 5)) t := by
                  intro t k
                  refine pre12 _ ?_
                  refine XS.icmpYes X0.here hx rfl (pc0 := 49) (pc' := 54) rfl (hb hby d4_49) rfl (flt c6).2.2.2 (by decide) (by decide) ?_
                  show Steps p.tables e below (s₁.setTop (mkF m 54 #[.val (.long q1), .second, .val (.int p2), .val (.long q3), .second] [])) _
                  refine XS.iconst X0.here hx rfl (hb hby d4_54) ?_
                  show Steps p.tables e below (s₁.setTop (mkF m 55 #[.val (.long q1), .second, .val (.int p2), .val (.long q3), .second] [(.int (2 : Int32))])) _
                  exact k
                have er : own_row q1 p2 q3 = 2 := (by
          simp only [own_lt, own_eq, own_ltL, own_eqL, own_k0, own_k1, own_k2, own_k3, own_k4, own_k5, own_k6, own_k7, own_k8, own_k9, own_k10, own_k11, own_k12, own_k13, own_k14, own_k15] at *
          unfold own_row
          simp only [own_lt, own_eq, own_ltL, own_eqL, own_k0, own_k1, own_k2, own_k3, own_k4, own_k5, own_k6, own_k7, own_k8, own_k9, own_k10, own_k11, own_k12, own_k13, own_k14, own_k15]
          repeat' split
          all_goals first | rfl | (exfalso; omega))
                obtain ⟨fs, hr, hrun, hended, hW, hsame⟩ := X0.leave (v := some (.int (2 : Int32))) (fun h => by rw [Bd.returns] at h; cases h)
                refine ⟨_, _, pre14 _ ?_, hrun, hended, _, _, rfl, ?_, ⟨_, rfl⟩, hW, hsame.mono (by decide) (by decide)⟩
                · exact retI X0 hx Bd.returns (hb hby d4_55) hr
                · show ((_ : Option Value) = some (.int (Int32.ofNat (own_row q1 p2 q3))) ∧ Fr n0 _ ∧ s₁.heap = h0)
                  rw [e0]
                  exact ⟨by rw [er]; rfl, N0, rfl⟩
            · have pre15 : ∀ t, Steps p.tables e below (s₁.setTop (mkF m 53 #[.val (.long q1), .second, .val (.int p2), .val (.long q3), .second] [(.int (4 : Int32))])) t → Steps p.tables e below (s₁.setTop (entryFrame m #[(.long q1), (.int p2), (.long q3)] 5)) t := by
                intro t k
                refine pre11 _ ?_
                refine XS.icmpYes X0.here hx rfl (pc0 := 43) (pc' := 52) rfl (hb hby d4_43) rfl (flt c5).2.2.2 (by decide) (by decide) ?_
                show Steps p.tables e below (s₁.setTop (mkF m 52 #[.val (.long q1), .second, .val (.int p2), .val (.long q3), .second] [])) _
                refine XS.iconst X0.here hx rfl (hb hby d4_52) ?_
                show Steps p.tables e below (s₁.setTop (mkF m 53 #[.val (.long q1), .second, .val (.int p2), .val (.long q3), .second] [(.int (4 : Int32))])) _
                exact k
              have er : own_row q1 p2 q3 = 4 := (by
          simp only [own_lt, own_eq, own_ltL, own_eqL, own_k0, own_k1, own_k2, own_k3, own_k4, own_k5, own_k6, own_k7, own_k8, own_k9, own_k10, own_k11, own_k12, own_k13, own_k14, own_k15] at *
          unfold own_row
          simp only [own_lt, own_eq, own_ltL, own_eqL, own_k0, own_k1, own_k2, own_k3, own_k4, own_k5, own_k6, own_k7, own_k8, own_k9, own_k10, own_k11, own_k12, own_k13, own_k14, own_k15]
          repeat' split
          all_goals first | rfl | (exfalso; omega))
              obtain ⟨fs, hr, hrun, hended, hW, hsame⟩ := X0.leave (v := some (.int (4 : Int32))) (fun h => by rw [Bd.returns] at h; cases h)
              refine ⟨_, _, pre15 _ ?_, hrun, hended, _, _, rfl, ?_, ⟨_, rfl⟩, hW, hsame.mono (by decide) (by decide)⟩
              · exact retI X0 hx Bd.returns (hb hby d4_53) hr
              · show ((_ : Option Value) = some (.int (Int32.ofNat (own_row q1 p2 q3))) ∧ Fr n0 _ ∧ s₁.heap = h0)
                rw [e0]
                exact ⟨by rw [er]; rfl, N0, rfl⟩
      · have pre16 : ∀ t, Steps p.tables e below (s₁.setTop (mkF m 61 #[.val (.long q1), .second, .val (.int p2), .val (.long q3), .second] [(.int (lcmpW q1 (18000 : Int64)))])) t → Steps p.tables e below (s₁.setTop (entryFrame m #[(.long q1), (.int p2), (.long q3)] 5)) t := by
          intro t k
          refine pre4 _ ?_
          refine XS.ifYes X0.here hx rfl (pc0 := 25) (pc' := 56) rfl (hb hby d4_25) rfl ((if0 _ _).trans (flt (mt own_llt.mp c2)).2.1) (by decide) (by decide) ?_
          show Steps p.tables e below (s₁.setTop (mkF m 56 #[.val (.long q1), .second, .val (.int p2), .val (.long q3), .second] [])) _
          refine XS.lloadN X0.here hx rfl (hb hby d4_56) rfl ?_
          show Steps p.tables e below (s₁.setTop (mkF m 57 #[.val (.long q1), .second, .val (.int p2), .val (.long q3), .second] [(.long q1)])) _
          refine X0.ldc2Long hx hown (mvT hZ (hw _ (List.mem_of_getElem? (i := 44) rfl))) (g := (mkF m 57 #[.val (.long q1), .second, .val (.int p2), .val (.long q3), .second] [(.long q1)])) rfl (hb hby d4_57) _ ?_
          show Steps p.tables e below (s₁.setTop (mkF m 60 #[.val (.long q1), .second, .val (.int p2), .val (.long q3), .second] [(.long (18000 : Int64)), (.long q1)])) _
          refine XS.lcmp X0.here hx rfl (hb hby d4_60) rfl ?_
          show Steps p.tables e below (s₁.setTop (mkF m 61 #[.val (.long q1), .second, .val (.int p2), .val (.long q3), .second] [(.int (lcmpW q1 (18000 : Int64)))])) _
          exact k
        by_cases c3 : q1 = (18000 : Int64)
        · have pre17 : ∀ t, Steps p.tables e below (s₁.setTop (mkF m 66 #[.val (.long q1), .second, .val (.int p2), .val (.long q3), .second] [(.int (2 : Int32)), (.int p2)])) t → Steps p.tables e below (s₁.setTop (entryFrame m #[(.long q1), (.int p2), (.long q3)] 5)) t := by
            intro t k
            refine pre16 _ ?_
            refine XS.ifNo X0.here hx rfl (hb hby d4_61) rfl ((if0 _ _).trans (teq (own_leq.mpr c3)).2) ?_
            show Steps p.tables e below (s₁.setTop (mkF m 64 #[.val (.long q1), .second, .val (.int p2), .val (.long q3), .second] [])) _
            refine XS.iloadN X0.here hx rfl (hb hby d4_64) rfl ?_
            show Steps p.tables e below (s₁.setTop (mkF m 65 #[.val (.long q1), .second, .val (.int p2), .val (.long q3), .second] [(.int p2)])) _
            refine XS.iconst X0.here hx rfl (hb hby d4_65) ?_
            show Steps p.tables e below (s₁.setTop (mkF m 66 #[.val (.long q1), .second, .val (.int p2), .val (.long q3), .second] [(.int (2 : Int32)), (.int p2)])) _
            exact k
          by_cases c4 : (2 : Int32) < p2
          · have pre18 : ∀ t, Steps p.tables e below (s₁.setTop (mkF m 74 #[.val (.long q1), .second, .val (.int p2), .val (.long q3), .second] [(.int (8 : Int32)), (.int p2)])) t → Steps p.tables e below (s₁.setTop (entryFrame m #[(.long q1), (.int p2), (.long q3)] 5)) t := by
              intro t k
              refine pre17 _ ?_
              refine XS.icmpYes X0.here hx rfl (pc0 := 66) (pc' := 71) rfl (hb hby d4_66) rfl (tlt c4).2.2.1 (by decide) (by decide) ?_
              show Steps p.tables e below (s₁.setTop (mkF m 71 #[.val (.long q1), .second, .val (.int p2), .val (.long q3), .second] [])) _
              refine XS.iloadN X0.here hx rfl (hb hby d4_71) rfl ?_
              show Steps p.tables e below (s₁.setTop (mkF m 72 #[.val (.long q1), .second, .val (.int p2), .val (.long q3), .second] [(.int p2)])) _
              refine XS.bipush X0.here hx rfl (hb hby d4_72) ?_
              show Steps p.tables e below (s₁.setTop (mkF m 74 #[.val (.long q1), .second, .val (.int p2), .val (.long q3), .second] [(.int (8 : Int32)), (.int p2)])) _
              exact k
            by_cases c5 : (8 : Int32) < p2
            · have pre19 : ∀ t, Steps p.tables e below (s₁.setTop (mkF m 97 #[.val (.long q1), .second, .val (.int p2), .val (.long q3), .second] [(.int (lcmpW q3 (4194304 : Int64)))])) t → Steps p.tables e below (s₁.setTop (entryFrame m #[(.long q1), (.int p2), (.long q3)] 5)) t := by
                intro t k
                refine pre18 _ ?_
                refine XS.icmpYes X0.here hx rfl (pc0 := 74) (pc' := 92) rfl (hb hby d4_74) rfl (tlt c5).2.2.1 (by decide) (by decide) ?_
                show Steps p.tables e below (s₁.setTop (mkF m 92 #[.val (.long q1), .second, .val (.int p2), .val (.long q3), .second] [])) _
                refine XS.lloadN X0.here hx rfl (hb hby d4_92) rfl ?_
                show Steps p.tables e below (s₁.setTop (mkF m 93 #[.val (.long q1), .second, .val (.int p2), .val (.long q3), .second] [(.long q3)])) _
                refine X0.ldc2Long hx hown (mvT hZ (hw _ (List.mem_of_getElem? (i := 40) rfl))) (g := (mkF m 93 #[.val (.long q1), .second, .val (.int p2), .val (.long q3), .second] [(.long q3)])) rfl (hb hby d4_93) _ ?_
                show Steps p.tables e below (s₁.setTop (mkF m 96 #[.val (.long q1), .second, .val (.int p2), .val (.long q3), .second] [(.long (4194304 : Int64)), (.long q3)])) _
                refine XS.lcmp X0.here hx rfl (hb hby d4_96) rfl ?_
                show Steps p.tables e below (s₁.setTop (mkF m 97 #[.val (.long q1), .second, .val (.int p2), .val (.long q3), .second] [(.int (lcmpW q3 (4194304 : Int64)))])) _
                exact k
              by_cases c6 : (4194304 : Int64) < q3
              · have pre20 : ∀ t, Steps p.tables e below (s₁.setTop (mkF m 107 #[.val (.long q1), .second, .val (.int p2), .val (.long q3), .second] [(.int (6 : Int32))])) t → Steps p.tables e below (s₁.setTop (entryFrame m #[(.long q1), (.int p2), (.long q3)] 5)) t := by
                  intro t k
                  refine pre19 _ ?_
                  refine XS.ifNo X0.here hx rfl (hb hby d4_97) rfl ((if0 _ _).trans (tlt (own_lgt.mpr c6)).2.2.2) ?_
                  show Steps p.tables e below (s₁.setTop (mkF m 100 #[.val (.long q1), .second, .val (.int p2), .val (.long q3), .second] [])) _
                  refine XS.bipush X0.here hx rfl (hb hby d4_100) ?_
                  show Steps p.tables e below (s₁.setTop (mkF m 102 #[.val (.long q1), .second, .val (.int p2), .val (.long q3), .second] [(.int (6 : Int32))])) _
                  refine XS.goto X0.here hx rfl (pc0 := 102) (pc' := 107) rfl (hb hby d4_102) (by decide) (by decide) ?_
                  show Steps p.tables e below (s₁.setTop (mkF m 107 #[.val (.long q1), .second, .val (.int p2), .val (.long q3), .second] [(.int (6 : Int32))])) _
                  exact k
                have er : own_row q1 p2 q3 = 6 := (by
          simp only [own_lt, own_eq, own_ltL, own_eqL, own_k0, own_k1, own_k2, own_k3, own_k4, own_k5, own_k6, own_k7, own_k8, own_k9, own_k10, own_k11, own_k12, own_k13, own_k14, own_k15] at *
          unfold own_row
          simp only [own_lt, own_eq, own_ltL, own_eqL, own_k0, own_k1, own_k2, own_k3, own_k4, own_k5, own_k6, own_k7, own_k8, own_k9, own_k10, own_k11, own_k12, own_k13, own_k14, own_k15]
          repeat' split
          all_goals first | rfl | (exfalso; omega))
                obtain ⟨fs, hr, hrun, hended, hW, hsame⟩ := X0.leave (v := some (.int (6 : Int32))) (fun h => by rw [Bd.returns] at h; cases h)
                refine ⟨_, _, pre20 _ ?_, hrun, hended, _, _, rfl, ?_, ⟨_, rfl⟩, hW, hsame.mono (by decide) (by decide)⟩
                · exact retI X0 hx Bd.returns (hb hby d4_107) hr
                · show ((_ : Option Value) = some (.int (Int32.ofNat (own_row q1 p2 q3))) ∧ Fr n0 _ ∧ s₁.heap = h0)
                  rw [e0]
                  exact ⟨by rw [er]; rfl, N0, rfl⟩
              · have pre21 : ∀ t, Steps p.tables e below (s₁.setTop (mkF m 107 #[.val (.long q1), .second, .val (.int p2), .val (.long q3), .second] [(.int (7 : Int32))])) t → Steps p.tables e below (s₁.setTop (entryFrame m #[(.long q1), (.int p2), (.long q3)] 5)) t := by
                  intro t k
                  refine pre19 _ ?_
                  refine XS.ifYes X0.here hx rfl (pc0 := 97) (pc' := 105) rfl (hb hby d4_97) rfl ((if0 _ _).trans (flt (mt own_lgt.mp c6)).2.2.2) (by decide) (by decide) ?_
                  show Steps p.tables e below (s₁.setTop (mkF m 105 #[.val (.long q1), .second, .val (.int p2), .val (.long q3), .second] [])) _
                  refine XS.bipush X0.here hx rfl (hb hby d4_105) ?_
                  show Steps p.tables e below (s₁.setTop (mkF m 107 #[.val (.long q1), .second, .val (.int p2), .val (.long q3), .second] [(.int (7 : Int32))])) _
                  exact k
                have er : own_row q1 p2 q3 = 7 := (by
          simp only [own_lt, own_eq, own_ltL, own_eqL, own_k0, own_k1, own_k2, own_k3, own_k4, own_k5, own_k6, own_k7, own_k8, own_k9, own_k10, own_k11, own_k12, own_k13, own_k14, own_k15] at *
          unfold own_row
          simp only [own_lt, own_eq, own_ltL, own_eqL, own_k0, own_k1, own_k2, own_k3, own_k4, own_k5, own_k6, own_k7, own_k8, own_k9, own_k10, own_k11, own_k12, own_k13, own_k14, own_k15]
          repeat' split
          all_goals first | rfl | (exfalso; omega))
                obtain ⟨fs, hr, hrun, hended, hW, hsame⟩ := X0.leave (v := some (.int (7 : Int32))) (fun h => by rw [Bd.returns] at h; cases h)
                refine ⟨_, _, pre21 _ ?_, hrun, hended, _, _, rfl, ?_, ⟨_, rfl⟩, hW, hsame.mono (by decide) (by decide)⟩
                · exact retI X0 hx Bd.returns (hb hby d4_107) hr
                · show ((_ : Option Value) = some (.int (Int32.ofNat (own_row q1 p2 q3))) ∧ Fr n0 _ ∧ s₁.heap = h0)
                  rw [e0]
                  exact ⟨by rw [er]; rfl, N0, rfl⟩
            · have pre22 : ∀ t, Steps p.tables e below (s₁.setTop (mkF m 82 #[.val (.long q1), .second, .val (.int p2), .val (.long q3), .second] [(.int (lcmpW q3 (131072 : Int64)))])) t → Steps p.tables e below (s₁.setTop (entryFrame m #[(.long q1), (.int p2), (.long q3)] 5)) t := by
                intro t k
                refine pre18 _ ?_
                refine XS.icmpNo X0.here hx rfl (hb hby d4_74) rfl (flt c5).2.2.1 ?_
                show Steps p.tables e below (s₁.setTop (mkF m 77 #[.val (.long q1), .second, .val (.int p2), .val (.long q3), .second] [])) _
                refine XS.lloadN X0.here hx rfl (hb hby d4_77) rfl ?_
                show Steps p.tables e below (s₁.setTop (mkF m 78 #[.val (.long q1), .second, .val (.int p2), .val (.long q3), .second] [(.long q3)])) _
                refine X0.ldc2Long hx hown (mvT hZ (hw _ (List.mem_of_getElem? (i := 48) rfl))) (g := (mkF m 78 #[.val (.long q1), .second, .val (.int p2), .val (.long q3), .second] [(.long q3)])) rfl (hb hby d4_78) _ ?_
                show Steps p.tables e below (s₁.setTop (mkF m 81 #[.val (.long q1), .second, .val (.int p2), .val (.long q3), .second] [(.long (131072 : Int64)), (.long q3)])) _
                refine XS.lcmp X0.here hx rfl (hb hby d4_81) rfl ?_
                show Steps p.tables e below (s₁.setTop (mkF m 82 #[.val (.long q1), .second, .val (.int p2), .val (.long q3), .second] [(.int (lcmpW q3 (131072 : Int64)))])) _
                exact k
              by_cases c6 : q3 < (131072 : Int64)
              · have pre23 : ∀ t, Steps p.tables e below (s₁.setTop (mkF m 91 #[.val (.long q1), .second, .val (.int p2), .val (.long q3), .second] [(.int (5 : Int32))])) t → Steps p.tables e below (s₁.setTop (entryFrame m #[(.long q1), (.int p2), (.long q3)] 5)) t := by
                  intro t k
                  refine pre22 _ ?_
                  refine XS.ifNo X0.here hx rfl (hb hby d4_82) rfl ((if0 _ _).trans (tlt (own_llt.mpr c6)).2.1) ?_
                  show Steps p.tables e below (s₁.setTop (mkF m 85 #[.val (.long q1), .second, .val (.int p2), .val (.long q3), .second] [])) _
                  refine XS.iconst X0.here hx rfl (hb hby d4_85) ?_
                  show Steps p.tables e below (s₁.setTop (mkF m 86 #[.val (.long q1), .second, .val (.int p2), .val (.long q3), .second] [(.int (5 : Int32))])) _
                  refine XS.goto X0.here hx rfl (pc0 := 86) (pc' := 91) rfl (hb hby d4_86) (by decide) (by decide) ?_
                  show Steps p.tables e below (s₁.setTop (mkF m 91 #[.val (.long q1), .second, .val (.int p2), .val (.long q3), .second] [(.int (5 : Int32))])) _
                  exact k
                have er : own_row q1 p2 q3 = 5 := (by
          simp only [own_lt, own_eq, own_ltL, own_eqL, own_k0, own_k1, own_k2, own_k3, own_k4, own_k5, own_k6, own_k7, own_k8, own_k9, own_k10, own_k11, own_k12, own_k13, own_k14, own_k15] at *
          unfold own_row
          simp only [own_lt, own_eq, own_ltL, own_eqL, own_k0, own_k1, own_k2, own_k3, own_k4, own_k5, own_k6, own_k7, own_k8, own_k9, own_k10, own_k11, own_k12, own_k13, own_k14, own_k15]
          repeat' split
          all_goals first | rfl | (exfalso; omega))
                obtain ⟨fs, hr, hrun, hended, hW, hsame⟩ := X0.leave (v := some (.int (5 : Int32))) (fun h => by rw [Bd.returns] at h; cases h)
                refine ⟨_, _, pre23 _ ?_, hrun, hended, _, _, rfl, ?_, ⟨_, rfl⟩, hW, hsame.mono (by decide) (by decide)⟩
                · exact retI X0 hx Bd.returns (hb hby d4_91) hr
                · show ((_ : Option Value) = some (.int (Int32.ofNat (own_row q1 p2 q3))) ∧ Fr n0 _ ∧ s₁.heap = h0)
                  rw [e0]
                  exact ⟨by rw [er]; rfl, N0, rfl⟩
              · have pre24 : ∀ t, Steps p.tables e below (s₁.setTop (mkF m 91 #[.val (.long q1), .second, .val (.int p2), .val (.long q3), .second] [(.int (7 : Int32))])) t → Steps p.tables e below (s₁.setTop (entryFrame m #[(.long q1), (.int p2), (.long q3)] 5)) t := by
                  intro t k
                  refine pre22 _ ?_
                  refine XS.ifYes X0.here hx rfl (pc0 := 82) (pc' := 89) rfl (hb hby d4_82) rfl ((if0 _ _).trans (flt (mt own_llt.mp c6)).2.1) (by decide) (by decide) ?_
                  show Steps p.tables e below (s₁.setTop (mkF m 89 #[.val (.long q1), .second, .val (.int p2), .val (.long q3), .second] [])) _
                  refine XS.bipush X0.here hx rfl (hb hby d4_89) ?_
                  show Steps p.tables e below (s₁.setTop (mkF m 91 #[.val (.long q1), .second, .val (.int p2), .val (.long q3), .second] [(.int (7 : Int32))])) _
                  exact k
                have er : own_row q1 p2 q3 = 7 := (by
          simp only [own_lt, own_eq, own_ltL, own_eqL, own_k0, own_k1, own_k2, own_k3, own_k4, own_k5, own_k6, own_k7, own_k8, own_k9, own_k10, own_k11, own_k12, own_k13, own_k14, own_k15] at *
          unfold own_row
          simp only [own_lt, own_eq, own_ltL, own_eqL, own_k0, own_k1, own_k2, own_k3, own_k4, own_k5, own_k6, own_k7, own_k8, own_k9, own_k10, own_k11, own_k12, own_k13, own_k14, own_k15]
          repeat' split
          all_goals first | rfl | (exfalso; omega))
                obtain ⟨fs, hr, hrun, hended, hW, hsame⟩ := X0.leave (v := some (.int (7 : Int32))) (fun h => by rw [Bd.returns] at h; cases h)
                refine ⟨_, _, pre24 _ ?_, hrun, hended, _, _, rfl, ?_, ⟨_, rfl⟩, hW, hsame.mono (by decide) (by decide)⟩
                · exact retI X0 hx Bd.returns (hb hby d4_91) hr
                · show ((_ : Option Value) = some (.int (Int32.ofNat (own_row q1 p2 q3))) ∧ Fr n0 _ ∧ s₁.heap = h0)
                  rw [e0]
                  exact ⟨by rw [er]; rfl, N0, rfl⟩
          · have pre25 : ∀ t, Steps p.tables e below (s₁.setTop (mkF m 70 #[.val (.long q1), .second, .val (.int p2), .val (.long q3), .second] [(.int (5 : Int32))])) t → Steps p.tables e below (s₁.setTop (entryFrame m #[(.long q1), (.int p2), (.long q3)] 5)) t := by
              intro t k
              refine pre17 _ ?_
              refine XS.icmpNo X0.here hx rfl (hb hby d4_66) rfl (flt c4).2.2.1 ?_
              show Steps p.tables e below (s₁.setTop (mkF m 69 #[.val (.long q1), .second, .val (.int p2), .val (.long q3), .second] [])) _
              refine XS.iconst X0.here hx rfl (hb hby d4_69) ?_
              show Steps p.tables e below (s₁.setTop (mkF m 70 #[.val (.long q1), .second, .val (.int p2), .val (.long q3), .second] [(.int (5 : Int32))])) _
              exact k
            have er : own_row q1 p2 q3 = 5 := (by
          simp only [own_lt, own_eq, own_ltL, own_eqL, own_k0, own_k1, own_k2, own_k3, own_k4, own_k5, own_k6, own_k7, own_k8, own_k9, own_k10, own_k11, own_k12, own_k13, own_k14, own_k15] at *
          unfold own_row
          simp only [own_lt, own_eq, own_ltL, own_eqL, own_k0, own_k1, own_k2, own_k3, own_k4, own_k5, own_k6, own_k7, own_k8, own_k9, own_k10, own_k11, own_k12, own_k13, own_k14, own_k15]
          repeat' split
          all_goals first | rfl | (exfalso; omega))
            obtain ⟨fs, hr, hrun, hended, hW, hsame⟩ := X0.leave (v := some (.int (5 : Int32))) (fun h => by rw [Bd.returns] at h; cases h)
            refine ⟨_, _, pre25 _ ?_, hrun, hended, _, _, rfl, ?_, ⟨_, rfl⟩, hW, hsame.mono (by decide) (by decide)⟩
            · exact retI X0 hx Bd.returns (hb hby d4_70) hr
            · show ((_ : Option Value) = some (.int (Int32.ofNat (own_row q1 p2 q3))) ∧ Fr n0 _ ∧ s₁.heap = h0)
              rw [e0]
              exact ⟨by rw [er]; rfl, N0, rfl⟩
        · have pre26 : ∀ t, Steps p.tables e below (s₁.setTop (mkF m 113 #[.val (.long q1), .second, .val (.int p2), .val (.long q3), .second] [(.int (lcmpW q1 (180000 : Int64)))])) t → Steps p.tables e below (s₁.setTop (entryFrame m #[(.long q1), (.int p2), (.long q3)] 5)) t := by
            intro t k
            refine pre16 _ ?_
            refine XS.ifYes X0.here hx rfl (pc0 := 61) (pc' := 108) rfl (hb hby d4_61) rfl ((if0 _ _).trans (feq (mt own_leq.mp c3)).2) (by decide) (by decide) ?_
            show Steps p.tables e below (s₁.setTop (mkF m 108 #[.val (.long q1), .second, .val (.int p2), .val (.long q3), .second] [])) _
            refine XS.lloadN X0.here hx rfl (hb hby d4_108) rfl ?_
            show Steps p.tables e below (s₁.setTop (mkF m 109 #[.val (.long q1), .second, .val (.int p2), .val (.long q3), .second] [(.long q1)])) _
            refine X0.ldc2Long hx hown (mvT hZ (hw _ (List.mem_of_getElem? (i := 45) rfl))) (g := (mkF m 109 #[.val (.long q1), .second, .val (.int p2), .val (.long q3), .second] [(.long q1)])) rfl (hb hby d4_109) _ ?_
            show Steps p.tables e below (s₁.setTop (mkF m 112 #[.val (.long q1), .second, .val (.int p2), .val (.long q3), .second] [(.long (180000 : Int64)), (.long q1)])) _
            refine XS.lcmp X0.here hx rfl (hb hby d4_112) rfl ?_
            show Steps p.tables e below (s₁.setTop (mkF m 113 #[.val (.long q1), .second, .val (.int p2), .val (.long q3), .second] [(.int (lcmpW q1 (180000 : Int64)))])) _
            exact k
          by_cases c4 : q1 = (180000 : Int64)
          · have pre27 : ∀ t, Steps p.tables e below (s₁.setTop (mkF m 135 #[.val (.long q1), .second, .val (.int p2), .val (.long q3), .second] [(.int (16 : Int32)), (.int p2)])) t → Steps p.tables e below (s₁.setTop (entryFrame m #[(.long q1), (.int p2), (.long q3)] 5)) t := by
              intro t k
              refine pre26 _ ?_
              refine XS.ifYes X0.here hx rfl (pc0 := 113) (pc' := 132) rfl (hb hby d4_113) rfl ((if0 _ _).trans (teq (own_leq.mpr c4)).1) (by decide) (by decide) ?_
              show Steps p.tables e below (s₁.setTop (mkF m 132 #[.val (.long q1), .second, .val (.int p2), .val (.long q3), .second] [])) _
              refine XS.iloadN X0.here hx rfl (hb hby d4_132) rfl ?_
              show Steps p.tables e below (s₁.setTop (mkF m 133 #[.val (.long q1), .second, .val (.int p2), .val (.long q3), .second] [(.int p2)])) _
              refine XS.bipush X0.here hx rfl (hb hby d4_133) ?_
              show Steps p.tables e below (s₁.setTop (mkF m 135 #[.val (.long q1), .second, .val (.int p2), .val (.long q3), .second] [(.int (16 : Int32)), (.int p2)])) _
              exact k
            by_cases c5 : (16 : Int32) < p2
            · have pre28 : ∀ t, Steps p.tables e below (s₁.setTop (mkF m 145 #[.val (.long q1), .second, .val (.int p2), .val (.long q3), .second] [(.int (9 : Int32))])) t → Steps p.tables e below (s₁.setTop (entryFrame m #[(.long q1), (.int p2), (.long q3)] 5)) t := by
                intro t k
                refine pre27 _ ?_
                refine XS.icmpYes X0.here hx rfl (pc0 := 135) (pc' := 143) rfl (hb hby d4_135) rfl (tlt c5).2.2.1 (by decide) (by decide) ?_
                show Steps p.tables e below (s₁.setTop (mkF m 143 #[.val (.long q1), .second, .val (.int p2), .val (.long q3), .second] [])) _
                refine XS.bipush X0.here hx rfl (hb hby d4_143) ?_
                show Steps p.tables e below (s₁.setTop (mkF m 145 #[.val (.long q1), .second, .val (.int p2), .val (.long q3), .second] [(.int (9 : Int32))])) _
                exact k
              have er : own_row q1 p2 q3 = 9 := (by
          simp only [own_lt, own_eq, own_ltL, own_eqL, own_k0, own_k1, own_k2, own_k3, own_k4, own_k5, own_k6, own_k7, own_k8, own_k9, own_k10, own_k11, own_k12, own_k13, own_k14, own_k15] at *
          unfold own_row
          simp only [own_lt, own_eq, own_ltL, own_eqL, own_k0, own_k1, own_k2, own_k3, own_k4, own_k5, own_k6, own_k7, own_k8, own_k9, own_k10, own_k11, own_k12, own_k13, own_k14, own_k15]
          repeat' split
          all_goals first | rfl | (exfalso; omega))
              obtain ⟨fs, hr, hrun, hended, hW, hsame⟩ := X0.leave (v := some (.int (9 : Int32))) (fun h => by rw [Bd.returns] at h; cases h)
              refine ⟨_, _, pre28 _ ?_, hrun, hended, _, _, rfl, ?_, ⟨_, rfl⟩, hW, hsame.mono (by decide) (by decide)⟩
              · exact retI X0 hx Bd.returns (hb hby d4_145) hr
              · show ((_ : Option Value) = some (.int (Int32.ofNat (own_row q1 p2 q3))) ∧ Fr n0 _ ∧ s₁.heap = h0)
                rw [e0]
                exact ⟨by rw [er]; rfl, N0, rfl⟩
            · have pre29 : ∀ t, Steps p.tables e below (s₁.setTop (mkF m 145 #[.val (.long q1), .second, .val (.int p2), .val (.long q3), .second] [(.int (8 : Int32))])) t → Steps p.tables e below (s₁.setTop (entryFrame m #[(.long q1), (.int p2), (.long q3)] 5)) t := by
                intro t k
                refine pre27 _ ?_
                refine XS.icmpNo X0.here hx rfl (hb hby d4_135) rfl (flt c5).2.2.1 ?_
                show Steps p.tables e below (s₁.setTop (mkF m 138 #[.val (.long q1), .second, .val (.int p2), .val (.long q3), .second] [])) _
                refine XS.bipush X0.here hx rfl (hb hby d4_138) ?_
                show Steps p.tables e below (s₁.setTop (mkF m 140 #[.val (.long q1), .second, .val (.int p2), .val (.long q3), .second] [(.int (8 : Int32))])) _
                refine XS.goto X0.here hx rfl (pc0 := 140) (pc' := 145) rfl (hb hby d4_140) (by decide) (by decide) ?_
                show Steps p.tables e below (s₁.setTop (mkF m 145 #[.val (.long q1), .second, .val (.int p2), .val (.long q3), .second] [(.int (8 : Int32))])) _
                exact k
              have er : own_row q1 p2 q3 = 8 := (by
          simp only [own_lt, own_eq, own_ltL, own_eqL, own_k0, own_k1, own_k2, own_k3, own_k4, own_k5, own_k6, own_k7, own_k8, own_k9, own_k10, own_k11, own_k12, own_k13, own_k14, own_k15] at *
          unfold own_row
          simp only [own_lt, own_eq, own_ltL, own_eqL, own_k0, own_k1, own_k2, own_k3, own_k4, own_k5, own_k6, own_k7, own_k8, own_k9, own_k10, own_k11, own_k12, own_k13, own_k14, own_k15]
          repeat' split
          all_goals first | rfl | (exfalso; omega))
              obtain ⟨fs, hr, hrun, hended, hW, hsame⟩ := X0.leave (v := some (.int (8 : Int32))) (fun h => by rw [Bd.returns] at h; cases h)
              refine ⟨_, _, pre29 _ ?_, hrun, hended, _, _, rfl, ?_, ⟨_, rfl⟩, hW, hsame.mono (by decide) (by decide)⟩
              · exact retI X0 hx Bd.returns (hb hby d4_145) hr
              · show ((_ : Option Value) = some (.int (Int32.ofNat (own_row q1 p2 q3))) ∧ Fr n0 _ ∧ s₁.heap = h0)
                rw [e0]
                exact ⟨by rw [er]; rfl, N0, rfl⟩
          · have pre30 : ∀ t, Steps p.tables e below (s₁.setTop (mkF m 121 #[.val (.long q1), .second, .val (.int p2), .val (.long q3), .second] [(.int (lcmpW q1 (720000 : Int64)))])) t → Steps p.tables e below (s₁.setTop (entryFrame m #[(.long q1), (.int p2), (.long q3)] 5)) t := by
              intro t k
              refine pre26 _ ?_
              refine XS.ifNo X0.here hx rfl (hb hby d4_113) rfl ((if0 _ _).trans (feq (mt own_leq.mp c4)).1) ?_
              show Steps p.tables e below (s₁.setTop (mkF m 116 #[.val (.long q1), .second, .val (.int p2), .val (.long q3), .second] [])) _
              refine XS.lloadN X0.here hx rfl (hb hby d4_116) rfl ?_
              show Steps p.tables e below (s₁.setTop (mkF m 117 #[.val (.long q1), .second, .val (.int p2), .val (.long q3), .second] [(.long q1)])) _
              refine X0.ldc2Long hx hown (mvT hZ (hw _ (List.mem_of_getElem? (i := 46) rfl))) (g := (mkF m 117 #[.val (.long q1), .second, .val (.int p2), .val (.long q3), .second] [(.long q1)])) rfl (hb hby d4_117) _ ?_
              show Steps p.tables e below (s₁.setTop (mkF m 120 #[.val (.long q1), .second, .val (.int p2), .val (.long q3), .second] [(.long (720000 : Int64)), (.long q1)])) _
              refine XS.lcmp X0.here hx rfl (hb hby d4_120) rfl ?_
              show Steps p.tables e below (s₁.setTop (mkF m 121 #[.val (.long q1), .second, .val (.int p2), .val (.long q3), .second] [(.int (lcmpW q1 (720000 : Int64)))])) _
              exact k
            by_cases c5 : q1 = (720000 : Int64)
            · have pre31 : ∀ t, Steps p.tables e below (s₁.setTop (mkF m 135 #[.val (.long q1), .second, .val (.int p2), .val (.long q3), .second] [(.int (16 : Int32)), (.int p2)])) t → Steps p.tables e below (s₁.setTop (entryFrame m #[(.long q1), (.int p2), (.long q3)] 5)) t := by
                intro t k
                refine pre30 _ ?_
                refine XS.ifYes X0.here hx rfl (pc0 := 121) (pc' := 132) rfl (hb hby d4_121) rfl ((if0 _ _).trans (teq (own_leq.mpr c5)).1) (by decide) (by decide) ?_
                show Steps p.tables e below (s₁.setTop (mkF m 132 #[.val (.long q1), .second, .val (.int p2), .val (.long q3), .second] [])) _
                refine XS.iloadN X0.here hx rfl (hb hby d4_132) rfl ?_
                show Steps p.tables e below (s₁.setTop (mkF m 133 #[.val (.long q1), .second, .val (.int p2), .val (.long q3), .second] [(.int p2)])) _
                refine XS.bipush X0.here hx rfl (hb hby d4_133) ?_
                show Steps p.tables e below (s₁.setTop (mkF m 135 #[.val (.long q1), .second, .val (.int p2), .val (.long q3), .second] [(.int (16 : Int32)), (.int p2)])) _
                exact k
              by_cases c6 : (16 : Int32) < p2
              · have pre32 : ∀ t, Steps p.tables e below (s₁.setTop (mkF m 145 #[.val (.long q1), .second, .val (.int p2), .val (.long q3), .second] [(.int (9 : Int32))])) t → Steps p.tables e below (s₁.setTop (entryFrame m #[(.long q1), (.int p2), (.long q3)] 5)) t := by
                  intro t k
                  refine pre31 _ ?_
                  refine XS.icmpYes X0.here hx rfl (pc0 := 135) (pc' := 143) rfl (hb hby d4_135) rfl (tlt c6).2.2.1 (by decide) (by decide) ?_
                  show Steps p.tables e below (s₁.setTop (mkF m 143 #[.val (.long q1), .second, .val (.int p2), .val (.long q3), .second] [])) _
                  refine XS.bipush X0.here hx rfl (hb hby d4_143) ?_
                  show Steps p.tables e below (s₁.setTop (mkF m 145 #[.val (.long q1), .second, .val (.int p2), .val (.long q3), .second] [(.int (9 : Int32))])) _
                  exact k
                have er : own_row q1 p2 q3 = 9 := (by
          simp only [own_lt, own_eq, own_ltL, own_eqL, own_k0, own_k1, own_k2, own_k3, own_k4, own_k5, own_k6, own_k7, own_k8, own_k9, own_k10, own_k11, own_k12, own_k13, own_k14, own_k15] at *
          unfold own_row
          simp only [own_lt, own_eq, own_ltL, own_eqL, own_k0, own_k1, own_k2, own_k3, own_k4, own_k5, own_k6, own_k7, own_k8, own_k9, own_k10, own_k11, own_k12, own_k13, own_k14, own_k15]
          repeat' split
          all_goals first | rfl | (exfalso; omega))
                obtain ⟨fs, hr, hrun, hended, hW, hsame⟩ := X0.leave (v := some (.int (9 : Int32))) (fun h => by rw [Bd.returns] at h; cases h)
                refine ⟨_, _, pre32 _ ?_, hrun, hended, _, _, rfl, ?_, ⟨_, rfl⟩, hW, hsame.mono (by decide) (by decide)⟩
                · exact retI X0 hx Bd.returns (hb hby d4_145) hr
                · show ((_ : Option Value) = some (.int (Int32.ofNat (own_row q1 p2 q3))) ∧ Fr n0 _ ∧ s₁.heap = h0)
                  rw [e0]
                  exact ⟨by rw [er]; rfl, N0, rfl⟩
              · have pre33 : ∀ t, Steps p.tables e below (s₁.setTop (mkF m 145 #[.val (.long q1), .second, .val (.int p2), .val (.long q3), .second] [(.int (8 : Int32))])) t → Steps p.tables e below (s₁.setTop (entryFrame m #[(.long q1), (.int p2), (.long q3)] 5)) t := by
                  intro t k
                  refine pre31 _ ?_
                  refine XS.icmpNo X0.here hx rfl (hb hby d4_135) rfl (flt c6).2.2.1 ?_
                  show Steps p.tables e below (s₁.setTop (mkF m 138 #[.val (.long q1), .second, .val (.int p2), .val (.long q3), .second] [])) _
                  refine XS.bipush X0.here hx rfl (hb hby d4_138) ?_
                  show Steps p.tables e below (s₁.setTop (mkF m 140 #[.val (.long q1), .second, .val (.int p2), .val (.long q3), .second] [(.int (8 : Int32))])) _
                  refine XS.goto X0.here hx rfl (pc0 := 140) (pc' := 145) rfl (hb hby d4_140) (by decide) (by decide) ?_
                  show Steps p.tables e below (s₁.setTop (mkF m 145 #[.val (.long q1), .second, .val (.int p2), .val (.long q3), .second] [(.int (8 : Int32))])) _
                  exact k
                have er : own_row q1 p2 q3 = 8 := (by
          simp only [own_lt, own_eq, own_ltL, own_eqL, own_k0, own_k1, own_k2, own_k3, own_k4, own_k5, own_k6, own_k7, own_k8, own_k9, own_k10, own_k11, own_k12, own_k13, own_k14, own_k15] at *
          unfold own_row
          simp only [own_lt, own_eq, own_ltL, own_eqL, own_k0, own_k1, own_k2, own_k3, own_k4, own_k5, own_k6, own_k7, own_k8, own_k9, own_k10, own_k11, own_k12, own_k13, own_k14, own_k15]
          repeat' split
          all_goals first | rfl | (exfalso; omega))
                obtain ⟨fs, hr, hrun, hended, hW, hsame⟩ := X0.leave (v := some (.int (8 : Int32))) (fun h => by rw [Bd.returns] at h; cases h)
                refine ⟨_, _, pre33 _ ?_, hrun, hended, _, _, rfl, ?_, ⟨_, rfl⟩, hW, hsame.mono (by decide) (by decide)⟩
                · exact retI X0 hx Bd.returns (hb hby d4_145) hr
                · show ((_ : Option Value) = some (.int (Int32.ofNat (own_row q1 p2 q3))) ∧ Fr n0 _ ∧ s₁.heap = h0)
                  rw [e0]
                  exact ⟨by rw [er]; rfl, N0, rfl⟩
            · have pre34 : ∀ t, Steps p.tables e below (s₁.setTop (mkF m 129 #[.val (.long q1), .second, .val (.int p2), .val (.long q3), .second] [(.int (lcmpW q1 (1440000 : Int64)))])) t → Steps p.tables e below (s₁.setTop (entryFrame m #[(.long q1), (.int p2), (.long q3)] 5)) t := by
                intro t k
                refine pre30 _ ?_
                refine XS.ifNo X0.here hx rfl (hb hby d4_121) rfl ((if0 _ _).trans (feq (mt own_leq.mp c5)).1) ?_
                show Steps p.tables e below (s₁.setTop (mkF m 124 #[.val (.long q1), .second, .val (.int p2), .val (.long q3), .second] [])) _
                refine XS.lloadN X0.here hx rfl (hb hby d4_124) rfl ?_
                show Steps p.tables e below (s₁.setTop (mkF m 125 #[.val (.long q1), .second, .val (.int p2), .val (.long q3), .second] [(.long q1)])) _
                refine X0.ldc2Long hx hown (mvT hZ (hw _ (List.mem_of_getElem? (i := 47) rfl))) (g := (mkF m 125 #[.val (.long q1), .second, .val (.int p2), .val (.long q3), .second] [(.long q1)])) rfl (hb hby d4_125) _ ?_
                show Steps p.tables e below (s₁.setTop (mkF m 128 #[.val (.long q1), .second, .val (.int p2), .val (.long q3), .second] [(.long (1440000 : Int64)), (.long q1)])) _
                refine XS.lcmp X0.here hx rfl (hb hby d4_128) rfl ?_
                show Steps p.tables e below (s₁.setTop (mkF m 129 #[.val (.long q1), .second, .val (.int p2), .val (.long q3), .second] [(.int (lcmpW q1 (1440000 : Int64)))])) _
                exact k
              by_cases c6 : q1 = (1440000 : Int64)
              · have pre35 : ∀ t, Steps p.tables e below (s₁.setTop (mkF m 135 #[.val (.long q1), .second, .val (.int p2), .val (.long q3), .second] [(.int (16 : Int32)), (.int p2)])) t → Steps p.tables e below (s₁.setTop (entryFrame m #[(.long q1), (.int p2), (.long q3)] 5)) t := by
                  intro t k
                  refine pre34 _ ?_
                  refine XS.ifNo X0.here hx rfl (hb hby d4_129) rfl ((if0 _ _).trans (teq (own_leq.mpr c6)).2) ?_
                  show Steps p.tables e below (s₁.setTop (mkF m 132 #[.val (.long q1), .second, .val (.int p2), .val (.long q3), .second] [])) _
                  refine XS.iloadN X0.here hx rfl (hb hby d4_132) rfl ?_
                  show Steps p.tables e below (s₁.setTop (mkF m 133 #[.val (.long q1), .second, .val (.int p2), .val (.long q3), .second] [(.int p2)])) _
                  refine XS.bipush X0.here hx rfl (hb hby d4_133) ?_
                  show Steps p.tables e below (s₁.setTop (mkF m 135 #[.val (.long q1), .second, .val (.int p2), .val (.long q3), .second] [(.int (16 : Int32)), (.int p2)])) _
                  exact k
                by_cases c7 : (16 : Int32) < p2
                · have pre36 : ∀ t, Steps p.tables e below (s₁.setTop (mkF m 145 #[.val (.long q1), .second, .val (.int p2), .val (.long q3), .second] [(.int (9 : Int32))])) t → Steps p.tables e below (s₁.setTop (entryFrame m #[(.long q1), (.int p2), (.long q3)] 5)) t := by
                    intro t k
                    refine pre35 _ ?_
                    refine XS.icmpYes X0.here hx rfl (pc0 := 135) (pc' := 143) rfl (hb hby d4_135) rfl (tlt c7).2.2.1 (by decide) (by decide) ?_
                    show Steps p.tables e below (s₁.setTop (mkF m 143 #[.val (.long q1), .second, .val (.int p2), .val (.long q3), .second] [])) _
                    refine XS.bipush X0.here hx rfl (hb hby d4_143) ?_
                    show Steps p.tables e below (s₁.setTop (mkF m 145 #[.val (.long q1), .second, .val (.int p2), .val (.long q3), .second] [(.int (9 : Int32))])) _
                    exact k
                  have er : own_row q1 p2 q3 = 9 := (by
          simp only [own_lt, own_eq, own_ltL, own_eqL, own_k0, own_k1, own_k2, own_k3, own_k4, own_k5, own_k6, own_k7, own_k8, own_k9, own_k10, own_k11, own_k12, own_k13, own_k14, own_k15] at *
          unfold own_row
          simp only [own_lt, own_eq, own_ltL, own_eqL, own_k0, own_k1, own_k2, own_k3, own_k4, own_k5, own_k6, own_k7, own_k8, own_k9, own_k10, own_k11, own_k12, own_k13, own_k14, own_k15]
          repeat' split
          all_goals first | rfl | (exfalso; omega))
                  obtain ⟨fs, hr, hrun, hended, hW, hsame⟩ := X0.leave (v := some (.int (9 : Int32))) (fun h => by rw [Bd.returns] at h; cases h)
                  refine ⟨_, _, pre36 _ ?_, hrun, hended, _, _, rfl, ?_, ⟨_, rfl⟩, hW, hsame.mono (by decide) (by decide)⟩
                  · exact retI X0 hx Bd.returns (hb hby d4_145) hr
                  · show ((_ : Option Value) = some (.int (Int32.ofNat (own_row q1 p2 q3))) ∧ Fr n0 _ ∧ s₁.heap = h0)
                    rw [e0]
                    exact ⟨by rw [er]; rfl, N0, rfl⟩
                · have pre37 : ∀ t, Steps p.tables e below (s₁.setTop (mkF m 145 #[.val (.long q1), .second, .val (.int p2), .val (.long q3), .second] [(.int (8 : Int32))])) t → Steps p.tables e below (s₁.setTop (entryFrame m #[(.long q1), (.int p2), (.long q3)] 5)) t := by
                    intro t k
                    refine pre35 _ ?_
                    refine XS.icmpNo X0.here hx rfl (hb hby d4_135) rfl (flt c7).2.2.1 ?_
                    show Steps p.tables e below (s₁.setTop (mkF m 138 #[.val (.long q1), .second, .val (.int p2), .val (.long q3), .second] [])) _
                    refine XS.bipush X0.here hx rfl (hb hby d4_138) ?_
                    show Steps p.tables e below (s₁.setTop (mkF m 140 #[.val (.long q1), .second, .val (.int p2), .val (.long q3), .second] [(.int (8 : Int32))])) _
                    refine XS.goto X0.here hx rfl (pc0 := 140) (pc' := 145) rfl (hb hby d4_140) (by decide) (by decide) ?_
                    show Steps p.tables e below (s₁.setTop (mkF m 145 #[.val (.long q1), .second, .val (.int p2), .val (.long q3), .second] [(.int (8 : Int32))])) _
                    exact k
                  have er : own_row q1 p2 q3 = 8 := (by
          simp only [own_lt, own_eq, own_ltL, own_eqL, own_k0, own_k1, own_k2, own_k3, own_k4, own_k5, own_k6, own_k7, own_k8, own_k9, own_k10, own_k11, own_k12, own_k13, own_k14, own_k15] at *
          unfold own_row
          simp only [own_lt, own_eq, own_ltL, own_eqL, own_k0, own_k1, own_k2, own_k3, own_k4, own_k5, own_k6, own_k7, own_k8, own_k9, own_k10, own_k11, own_k12, own_k13, own_k14, own_k15]
          repeat' split
          all_goals first | rfl | (exfalso; omega))
                  obtain ⟨fs, hr, hrun, hended, hW, hsame⟩ := X0.leave (v := some (.int (8 : Int32))) (fun h => by rw [Bd.returns] at h; cases h)
                  refine ⟨_, _, pre37 _ ?_, hrun, hended, _, _, rfl, ?_, ⟨_, rfl⟩, hW, hsame.mono (by decide) (by decide)⟩
                  · exact retI X0 hx Bd.returns (hb hby d4_145) hr
                  · show ((_ : Option Value) = some (.int (Int32.ofNat (own_row q1 p2 q3))) ∧ Fr n0 _ ∧ s₁.heap = h0)
                    rw [e0]
                    exact ⟨by rw [er]; rfl, N0, rfl⟩
              · have pre38 : ∀ t, Steps p.tables e below (s₁.setTop (mkF m 149 #[.val (.long q1), .second, .val (.int p2), .val (.long q3), .second] [(.int (32 : Int32)), (.int p2)])) t → Steps p.tables e below (s₁.setTop (entryFrame m #[(.long q1), (.int p2), (.long q3)] 5)) t := by
                  intro t k
                  refine pre34 _ ?_
                  refine XS.ifYes X0.here hx rfl (pc0 := 129) (pc' := 146) rfl (hb hby d4_129) rfl ((if0 _ _).trans (feq (mt own_leq.mp c6)).2) (by decide) (by decide) ?_
                  show Steps p.tables e below (s₁.setTop (mkF m 146 #[.val (.long q1), .second, .val (.int p2), .val (.long q3), .second] [])) _
                  refine XS.iloadN X0.here hx rfl (hb hby d4_146) rfl ?_
                  show Steps p.tables e below (s₁.setTop (mkF m 147 #[.val (.long q1), .second, .val (.int p2), .val (.long q3), .second] [(.int p2)])) _
                  refine XS.bipush X0.here hx rfl (hb hby d4_147) ?_
                  show Steps p.tables e below (s₁.setTop (mkF m 149 #[.val (.long q1), .second, .val (.int p2), .val (.long q3), .second] [(.int (32 : Int32)), (.int p2)])) _
                  exact k
                by_cases c7 : (32 : Int32) < p2
                · have pre39 : ∀ t, Steps p.tables e below (s₁.setTop (mkF m 159 #[.val (.long q1), .second, .val (.int p2), .val (.long q3), .second] [(.int (11 : Int32))])) t → Steps p.tables e below (s₁.setTop (entryFrame m #[(.long q1), (.int p2), (.long q3)] 5)) t := by
                    intro t k
                    refine pre38 _ ?_
                    refine XS.icmpYes X0.here hx rfl (pc0 := 149) (pc' := 157) rfl (hb hby d4_149) rfl (tlt c7).2.2.1 (by decide) (by decide) ?_
                    show Steps p.tables e below (s₁.setTop (mkF m 157 #[.val (.long q1), .second, .val (.int p2), .val (.long q3), .second] [])) _
                    refine XS.bipush X0.here hx rfl (hb hby d4_157) ?_
                    show Steps p.tables e below (s₁.setTop (mkF m 159 #[.val (.long q1), .second, .val (.int p2), .val (.long q3), .second] [(.int (11 : Int32))])) _
                    exact k
                  have er : own_row q1 p2 q3 = 11 := (by
          simp only [own_lt, own_eq, own_ltL, own_eqL, own_k0, own_k1, own_k2, own_k3, own_k4, own_k5, own_k6, own_k7, own_k8, own_k9, own_k10, own_k11, own_k12, own_k13, own_k14, own_k15] at *
          unfold own_row
          simp only [own_lt, own_eq, own_ltL, own_eqL, own_k0, own_k1, own_k2, own_k3, own_k4, own_k5, own_k6, own_k7, own_k8, own_k9, own_k10, own_k11, own_k12, own_k13, own_k14, own_k15]
          repeat' split
          all_goals first | rfl | (exfalso; omega))
                  obtain ⟨fs, hr, hrun, hended, hW, hsame⟩ := X0.leave (v := some (.int (11 : Int32))) (fun h => by rw [Bd.returns] at h; cases h)
                  refine ⟨_, _, pre39 _ ?_, hrun, hended, _, _, rfl, ?_, ⟨_, rfl⟩, hW, hsame.mono (by decide) (by decide)⟩
                  · exact retI X0 hx Bd.returns (hb hby d4_159) hr
                  · show ((_ : Option Value) = some (.int (Int32.ofNat (own_row q1 p2 q3))) ∧ Fr n0 _ ∧ s₁.heap = h0)
                    rw [e0]
                    exact ⟨by rw [er]; rfl, N0, rfl⟩
                · have pre40 : ∀ t, Steps p.tables e below (s₁.setTop (mkF m 159 #[.val (.long q1), .second, .val (.int p2), .val (.long q3), .second] [(.int (10 : Int32))])) t → Steps p.tables e below (s₁.setTop (entryFrame m #[(.long q1), (.int p2), (.long q3)] 5)) t := by
                    intro t k
                    refine pre38 _ ?_
                    refine XS.icmpNo X0.here hx rfl (hb hby d4_149) rfl (flt c7).2.2.1 ?_
                    show Steps p.tables e below (s₁.setTop (mkF m 152 #[.val (.long q1), .second, .val (.int p2), .val (.long q3), .second] [])) _
                    refine XS.bipush X0.here hx rfl (hb hby d4_152) ?_
                    show Steps p.tables e below (s₁.setTop (mkF m 154 #[.val (.long q1), .second, .val (.int p2), .val (.long q3), .second] [(.int (10 : Int32))])) _
                    refine XS.goto X0.here hx rfl (pc0 := 154) (pc' := 159) rfl (hb hby d4_154) (by decide) (by decide) ?_
                    show Steps p.tables e below (s₁.setTop (mkF m 159 #[.val (.long q1), .second, .val (.int p2), .val (.long q3), .second] [(.int (10 : Int32))])) _
                    exact k
                  have er : own_row q1 p2 q3 = 10 := (by
          simp only [own_lt, own_eq, own_ltL, own_eqL, own_k0, own_k1, own_k2, own_k3, own_k4, own_k5, own_k6, own_k7, own_k8, own_k9, own_k10, own_k11, own_k12, own_k13, own_k14, own_k15] at *
          unfold own_row
          simp only [own_lt, own_eq, own_ltL, own_eqL, own_k0, own_k1, own_k2, own_k3, own_k4, own_k5, own_k6, own_k7, own_k8, own_k9, own_k10, own_k11, own_k12, own_k13, own_k14, own_k15]
          repeat' split
          all_goals first | rfl | (exfalso; omega))
                  obtain ⟨fs, hr, hrun, hended, hW, hsame⟩ := X0.leave (v := some (.int (10 : Int32))) (fun h => by rw [Bd.returns] at h; cases h)
                  refine ⟨_, _, pre40 _ ?_, hrun, hended, _, _, rfl, ?_, ⟨_, rfl⟩, hW, hsame.mono (by decide) (by decide)⟩
                  · exact retI X0 hx Bd.returns (hb hby d4_159) hr
                  · show ((_ : Option Value) = some (.int (Int32.ofNat (own_row q1 p2 q3))) ∧ Fr n0 _ ∧ s₁.heap = h0)
                    rw [e0]
                    exact ⟨by rw [er]; rfl, N0, rfl⟩
    · have pre41 : ∀ t, Steps p.tables e below (s₁.setTop (mkF m 19 #[.val (.long q1), .second, .val (.int p2), .val (.long q3), .second] [(.int (1 : Int32))])) t → Steps p.tables e below (s₁.setTop (entryFrame m #[(.long q1), (.int p2), (.long q3)] 5)) t := by
        intro t k
        refine pre3 _ ?_
        refine XS.ifNo X0.here hx rfl (hb hby d4_15) rfl ((if0 _ _).trans (flt (mt own_lgt.mp c1)).2.2.1) ?_
        show Steps p.tables e below (s₁.setTop (mkF m 18 #[.val (.long q1), .second, .val (.int p2), .val (.long q3), .second] [])) _
        refine XS.iconst X0.here hx rfl (hb hby d4_18) ?_
        show Steps p.tables e below (s₁.setTop (mkF m 19 #[.val (.long q1), .second, .val (.int p2), .val (.long q3), .second] [(.int (1 : Int32))])) _
        exact k
      have er : own_row q1 p2 q3 = 1 := (by
          simp only [own_lt, own_eq, own_ltL, own_eqL, own_k0, own_k1, own_k2, own_k3, own_k4, own_k5, own_k6, own_k7, own_k8, own_k9, own_k10, own_k11, own_k12, own_k13, own_k14, own_k15] at *
          unfold own_row
          simp only [own_lt, own_eq, own_ltL, own_eqL, own_k0, own_k1, own_k2, own_k3, own_k4, own_k5, own_k6, own_k7, own_k8, own_k9, own_k10, own_k11, own_k12, own_k13, own_k14, own_k15]
          repeat' split
          all_goals first | rfl | (exfalso; omega))
      obtain ⟨fs, hr, hrun, hended, hW, hsame⟩ := X0.leave (v := some (.int (1 : Int32))) (fun h => by rw [Bd.returns] at h; cases h)
      refine ⟨_, _, pre41 _ ?_, hrun, hended, _, _, rfl, ?_, ⟨_, rfl⟩, hW, hsame.mono (by decide) (by decide)⟩
      · exact retI X0 hx Bd.returns (hb hby d4_19) hr
      · show ((_ : Option Value) = some (.int (Int32.ofNat (own_row q1 p2 q3))) ∧ Fr n0 _ ∧ s₁.heap = h0)
        rw [e0]
        exact ⟨by rw [er]; rfl, N0, rfl⟩
set_option maxRecDepth 65536 in
set_option maxHeartbeats 40000000 in
theorem rm5 (l : Launch) (Z : State) (a0 : Array Value) (hw : ∀ d ∈ tables_1, d.before a0 Z = true) (ws : List Jvm.Cond) (a1 : Addr) (z : Int32) (h0 : Heap) (n0 : Nat) (Z0 : n0 ≤ h0.size) (F : Fld Z h0 a1 "com/example/jobwright/jobwright/workload/O2kJobs$Ratio" "aboveShare" "I" (.int z)) :
    MetFree l (⟨"com/example/jobwright/jobwright/workload/O2kJobs$Ratio", "aboveShare", "()I"⟩ : MethodName) (head1 (Jvm.Cond.code (⟨"com/example/jobwright/jobwright/workload/O2kJobs$Ratio", "aboveShare", "()I"⟩ : MethodName) prog_199_method_9_code 1 (some .int) :: ws) ({ frames := 0, cells := 0, slots := 0, locals := 0 } : Room)) (fun a U => a = #[(.ref a1)] ∧ Z.Warmed39 U.vm ∧ U.heap = h0) (fun _ _ _ _ _ => True) (fun _ U o U' => ∃ v L, o = .returned v ∧ own_Q (fun v h L => (v = some (.int z) ∧ Fr n0 L ∧ h = h0)) v U'.heap L ∧ FrameEnd U o U' L ({ frames := 0, cells := 0, slots := 0, locals := 0 } : Room).cells ({ frames := 0, cells := 0, slots := 0, locals := 0 } : Room).slots) := by
  refine MetFree.of_bodySF (plainFor_of_name own_pn2) hisR ?_
  intro p e s m args below meth c s₁ Bd hml0 hP hK
  obtain ⟨rfl, hZ, hh⟩ := hP
  have hx := Bd.exec
  have hby := Bd.bytes
  have hml : c.maxLocals = 1 := hml0
  have hown : s.vm.findClass "com/example/jobwright/jobwright/workload/O2kJobs$Ratio" = some m.cls := findClass_of_methodNamed Bd.named
  have hnm := (name_of_methodNamed Bd.named Bd.method).1
  have X0 : Stand p l e ({ frames := 0, cells := 0, slots := 0, locals := 0 } : Room) s m #[(.ref a1)] below meth c s₁ [] 0 0 := Stand.of_body Bd
  have e0 : s₁.heap = h0 := by rw [← hh, Bd.state]; rfl
  have N0 := Fr.nil n0
  have ef : entryFrame m #[(.ref a1)] 1 = mkF m 0 #[.val (.ref a1)] [] := by first | (simp [entryFrame, mkF, argsToLocals, Value.category]; done) | rfl
  have pre0 : ∀ t, Steps p.tables e below (s₁.setTop (mkF m 0 #[.val (.ref a1)] [])) t → Steps p.tables e below (s₁.setTop (entryFrame m #[(.ref a1)] 1)) t := fun t k => castTop ef k
  have pre1 : ∀ t, Steps p.tables e below (s₁.setTop (mkF m 1 #[.val (.ref a1)] [(.ref a1)])) t → Steps p.tables e below (s₁.setTop (entryFrame m #[(.ref a1)] 1)) t := by
    intro t k
    refine pre0 _ ?_
    refine XS.aloadN X0.here hx rfl (hb hby d5_0) rfl rfl ?_
    show Steps p.tables e below (s₁.setTop (mkF m 1 #[.val (.ref a1)] [(.ref a1)])) _
    exact k
  obtain ⟨T2, X2, e2, st2⟩ := getF X0 hx hZ hown (host := "") (Or.inl (hw _ (List.mem_of_getElem? (i := 27) rfl))) Via.refl e0 F (g := (mkF m 1 #[.val (.ref a1)] [(.ref a1)])) rfl rfl (hb hby d5_1)
  have pre2 : ∀ t, Steps p.tables e below (T2.setTop (mkF m 4 #[.val (.ref a1)] [(.int z)])) t → Steps p.tables e below (s₁.setTop (entryFrame m #[(.ref a1)] 1)) t := fun t k => pre1 t (st2 t k)
  obtain ⟨fs, hr, hrun, hended, hW, hsame⟩ := X2.leave (v := some (.int z)) (fun h => by rw [Bd.returns] at h; cases h)
  refine ⟨_, _, pre2 _ ?_, hrun, hended, _, _, rfl, ?_, ⟨_, rfl⟩, hW, hsame.mono (by decide) (by decide)⟩
  · exact retI X2 hx Bd.returns (hb hby d5_4) hr
  · show ((_ : Option Value) = some (.int z) ∧ Fr n0 _ ∧ T2.heap = h0)
    rw [e2]
    exact ⟨rfl, N0, rfl⟩
set_option maxRecDepth 65536 in
set_option maxHeartbeats 40000000 in
theorem rm6 (l : Launch) (Z : State) (a0 : Array Value) (hw : ∀ d ∈ tables_1, d.before a0 Z = true) (ws : List Jvm.Cond) (p1 : Int32) (j : Nat) (h0 : Heap) (n0 : Nat) (Z0 : n0 ≤ h0.size) (hj : j < 12) (hp : p1.toInt = j) :
    MetFree l (⟨"com/example/jobwright/jobwright/workload/O2kJobsRatioPinLaw", "share", "(I)I"⟩ : MethodName) (head1 (Jvm.Cond.code (⟨"com/example/jobwright/jobwright/workload/O2kJobsRatioPinLaw", "share", "(I)I"⟩ : MethodName) method_6_code 1 (some .int) :: ws) ({ frames := 0, cells := 0, slots := 0, locals := 0 } : Room)) (fun a U => a = #[(.int p1)] ∧ Z.Warmed39 U.vm ∧ U.heap = h0) (fun _ _ _ _ _ => True) (fun _ U o U' => ∃ v L, o = .returned v ∧ own_Q (fun v h L => (v = some (.int (own_sh j)) ∧ Fr n0 L ∧ h = h0)) v U'.heap L ∧ FrameEnd U o U' L ({ frames := 0, cells := 0, slots := 0, locals := 0 } : Room).cells ({ frames := 0, cells := 0, slots := 0, locals := 0 } : Room).slots) := by
  refine MetFree.of_bodySF (plainFor_of_name own_pn0) hisR ?_
  intro p e s m args below meth c s₁ Bd hml0 hP hK
  obtain ⟨rfl, hZ, hh⟩ := hP
  have hx := Bd.exec
  have hby := Bd.bytes
  have hml : c.maxLocals = 1 := hml0
  have hown : s.vm.findClass "com/example/jobwright/jobwright/workload/O2kJobsRatioPinLaw" = some m.cls := findClass_of_methodNamed Bd.named
  have hnm := (name_of_methodNamed Bd.named Bd.method).1
  have X0 : Stand p l e ({ frames := 0, cells := 0, slots := 0, locals := 0 } : Room) s m #[(.int p1)] below meth c s₁ [] 0 0 := Stand.of_body Bd
  have e0 : s₁.heap = h0 := by rw [← hh, Bd.state]; rfl
  have N0 := Fr.nil n0
  have ef : entryFrame m #[(.int p1)] 1 = mkF m 0 #[.val (.int p1)] [] := by first | (simp [entryFrame, mkF, argsToLocals, Value.category]; done) | rfl
  have pre0 : ∀ t, Steps p.tables e below (s₁.setTop (mkF m 0 #[.val (.int p1)] [])) t → Steps p.tables e below (s₁.setTop (entryFrame m #[(.int p1)] 1)) t := fun t k => castTop ef k
  have pre1 : ∀ t, Steps p.tables e below (s₁.setTop (mkF m 1 #[.val (.int p1)] [(.int p1)])) t → Steps p.tables e below (s₁.setTop (entryFrame m #[(.int p1)] 1)) t := by
    intro t k
    refine pre0 _ ?_
    refine XS.iloadN X0.here hx rfl (hb hby d6_0) rfl ?_
    show Steps p.tables e below (s₁.setTop (mkF m 1 #[.val (.int p1)] [(.int p1)])) _
    exact k
  by_cases hk0 : j = 0
  · have hp' : p1 = (0 : Int32) := own_eq.mpr (hp.trans (by rw [hk0]; rfl))
    have pre2 : ∀ t, Steps p.tables e below (s₁.setTop (mkF m 7 #[.val (.int p1)] [(.int (294 : Int32))])) t → Steps p.tables e below (s₁.setTop (entryFrame m #[(.int p1)] 1)) t := by
      intro t k
      refine pre1 _ ?_
      refine XS.ifNo X0.here hx rfl (hb hby d6_1) rfl ((if0 _ _).trans (teq hp').2) ?_
      show Steps p.tables e below (s₁.setTop (mkF m 4 #[.val (.int p1)] [])) _
      refine XS.sipush X0.here hx rfl (hb hby d6_4) ?_
      show Steps p.tables e below (s₁.setTop (mkF m 7 #[.val (.int p1)] [(.int (294 : Int32))])) _
      exact k
    obtain ⟨fs, hr, hrun, hended, hW, hsame⟩ := X0.leave (v := some (.int (294 : Int32))) (fun h => by rw [Bd.returns] at h; cases h)
    refine ⟨_, _, pre2 _ ?_, hrun, hended, _, _, rfl, ?_, ⟨_, rfl⟩, hW, hsame.mono (by decide) (by decide)⟩
    · exact retI X0 hx Bd.returns (hb hby d6_7) hr
    · show ((_ : Option Value) = some (.int (own_sh j)) ∧ Fr n0 _ ∧ s₁.heap = h0)
      rw [e0]
      exact ⟨by rw [hk0]; rfl, N0, rfl⟩
  · have hp' : ¬ p1 = (0 : Int32) := own_ne (i := 0) hp rfl hk0
    have pre3 : ∀ t, Steps p.tables e below (s₁.setTop (mkF m 10 #[.val (.int p1)] [(.int (1 : Int32)), (.int p1)])) t → Steps p.tables e below (s₁.setTop (entryFrame m #[(.int p1)] 1)) t := by
      intro t k
      refine pre1 _ ?_
      refine XS.ifYes X0.here hx rfl (pc0 := 1) (pc' := 8) rfl (hb hby d6_1) rfl ((if0 _ _).trans (feq hp').2) (by decide) (by decide) ?_
      show Steps p.tables e below (s₁.setTop (mkF m 8 #[.val (.int p1)] [])) _
      refine XS.iloadN X0.here hx rfl (hb hby d6_8) rfl ?_
      show Steps p.tables e below (s₁.setTop (mkF m 9 #[.val (.int p1)] [(.int p1)])) _
      refine XS.iconst X0.here hx rfl (hb hby d6_9) ?_
      show Steps p.tables e below (s₁.setTop (mkF m 10 #[.val (.int p1)] [(.int (1 : Int32)), (.int p1)])) _
      exact k
    by_cases hk1 : j = 1
    · have hp' : p1 = (1 : Int32) := own_eq.mpr (hp.trans (by rw [hk1]; rfl))
      have pre4 : ∀ t, Steps p.tables e below (s₁.setTop (mkF m 15 #[.val (.int p1)] [(.int (80 : Int32))])) t → Steps p.tables e below (s₁.setTop (entryFrame m #[(.int p1)] 1)) t := by
        intro t k
        refine pre3 _ ?_
        refine XS.icmpNo X0.here hx rfl (hb hby d6_10) rfl (teq hp').2 ?_
        show Steps p.tables e below (s₁.setTop (mkF m 13 #[.val (.int p1)] [])) _
        refine XS.bipush X0.here hx rfl (hb hby d6_13) ?_
        show Steps p.tables e below (s₁.setTop (mkF m 15 #[.val (.int p1)] [(.int (80 : Int32))])) _
        exact k
      obtain ⟨fs, hr, hrun, hended, hW, hsame⟩ := X0.leave (v := some (.int (80 : Int32))) (fun h => by rw [Bd.returns] at h; cases h)
      refine ⟨_, _, pre4 _ ?_, hrun, hended, _, _, rfl, ?_, ⟨_, rfl⟩, hW, hsame.mono (by decide) (by decide)⟩
      · exact retI X0 hx Bd.returns (hb hby d6_15) hr
      · show ((_ : Option Value) = some (.int (own_sh j)) ∧ Fr n0 _ ∧ s₁.heap = h0)
        rw [e0]
        exact ⟨by rw [hk1]; rfl, N0, rfl⟩
    · have hp' : ¬ p1 = (1 : Int32) := own_ne (i := 1) hp rfl hk1
      have pre5 : ∀ t, Steps p.tables e below (s₁.setTop (mkF m 18 #[.val (.int p1)] [(.int (2 : Int32)), (.int p1)])) t → Steps p.tables e below (s₁.setTop (entryFrame m #[(.int p1)] 1)) t := by
        intro t k
        refine pre3 _ ?_
        refine XS.icmpYes X0.here hx rfl (pc0 := 10) (pc' := 16) rfl (hb hby d6_10) rfl (feq hp').2 (by decide) (by decide) ?_
        show Steps p.tables e below (s₁.setTop (mkF m 16 #[.val (.int p1)] [])) _
        refine XS.iloadN X0.here hx rfl (hb hby d6_16) rfl ?_
        show Steps p.tables e below (s₁.setTop (mkF m 17 #[.val (.int p1)] [(.int p1)])) _
        refine XS.iconst X0.here hx rfl (hb hby d6_17) ?_
        show Steps p.tables e below (s₁.setTop (mkF m 18 #[.val (.int p1)] [(.int (2 : Int32)), (.int p1)])) _
        exact k
      by_cases hk2 : j = 2
      · have hp' : p1 = (2 : Int32) := own_eq.mpr (hp.trans (by rw [hk2]; rfl))
        have pre6 : ∀ t, Steps p.tables e below (s₁.setTop (mkF m 23 #[.val (.int p1)] [(.int (53 : Int32))])) t → Steps p.tables e below (s₁.setTop (entryFrame m #[(.int p1)] 1)) t := by
          intro t k
          refine pre5 _ ?_
          refine XS.icmpNo X0.here hx rfl (hb hby d6_18) rfl (teq hp').2 ?_
          show Steps p.tables e below (s₁.setTop (mkF m 21 #[.val (.int p1)] [])) _
          refine XS.bipush X0.here hx rfl (hb hby d6_21) ?_
          show Steps p.tables e below (s₁.setTop (mkF m 23 #[.val (.int p1)] [(.int (53 : Int32))])) _
          exact k
        obtain ⟨fs, hr, hrun, hended, hW, hsame⟩ := X0.leave (v := some (.int (53 : Int32))) (fun h => by rw [Bd.returns] at h; cases h)
        refine ⟨_, _, pre6 _ ?_, hrun, hended, _, _, rfl, ?_, ⟨_, rfl⟩, hW, hsame.mono (by decide) (by decide)⟩
        · exact retI X0 hx Bd.returns (hb hby d6_23) hr
        · show ((_ : Option Value) = some (.int (own_sh j)) ∧ Fr n0 _ ∧ s₁.heap = h0)
          rw [e0]
          exact ⟨by rw [hk2]; rfl, N0, rfl⟩
      · have hp' : ¬ p1 = (2 : Int32) := own_ne (i := 2) hp rfl hk2
        have pre7 : ∀ t, Steps p.tables e below (s₁.setTop (mkF m 26 #[.val (.int p1)] [(.int (3 : Int32)), (.int p1)])) t → Steps p.tables e below (s₁.setTop (entryFrame m #[(.int p1)] 1)) t := by
          intro t k
          refine pre5 _ ?_
          refine XS.icmpYes X0.here hx rfl (pc0 := 18) (pc' := 24) rfl (hb hby d6_18) rfl (feq hp').2 (by decide) (by decide) ?_
          show Steps p.tables e below (s₁.setTop (mkF m 24 #[.val (.int p1)] [])) _
          refine XS.iloadN X0.here hx rfl (hb hby d6_24) rfl ?_
          show Steps p.tables e below (s₁.setTop (mkF m 25 #[.val (.int p1)] [(.int p1)])) _
          refine XS.iconst X0.here hx rfl (hb hby d6_25) ?_
          show Steps p.tables e below (s₁.setTop (mkF m 26 #[.val (.int p1)] [(.int (3 : Int32)), (.int p1)])) _
          exact k
        by_cases hk3 : j = 3
        · have hp' : p1 = (3 : Int32) := own_eq.mpr (hp.trans (by rw [hk3]; rfl))
          have pre8 : ∀ t, Steps p.tables e below (s₁.setTop (mkF m 31 #[.val (.int p1)] [(.int (97 : Int32))])) t → Steps p.tables e below (s₁.setTop (entryFrame m #[(.int p1)] 1)) t := by
            intro t k
            refine pre7 _ ?_
            refine XS.icmpNo X0.here hx rfl (hb hby d6_26) rfl (teq hp').2 ?_
            show Steps p.tables e below (s₁.setTop (mkF m 29 #[.val (.int p1)] [])) _
            refine XS.bipush X0.here hx rfl (hb hby d6_29) ?_
            show Steps p.tables e below (s₁.setTop (mkF m 31 #[.val (.int p1)] [(.int (97 : Int32))])) _
            exact k
          obtain ⟨fs, hr, hrun, hended, hW, hsame⟩ := X0.leave (v := some (.int (97 : Int32))) (fun h => by rw [Bd.returns] at h; cases h)
          refine ⟨_, _, pre8 _ ?_, hrun, hended, _, _, rfl, ?_, ⟨_, rfl⟩, hW, hsame.mono (by decide) (by decide)⟩
          · exact retI X0 hx Bd.returns (hb hby d6_31) hr
          · show ((_ : Option Value) = some (.int (own_sh j)) ∧ Fr n0 _ ∧ s₁.heap = h0)
            rw [e0]
            exact ⟨by rw [hk3]; rfl, N0, rfl⟩
        · have hp' : ¬ p1 = (3 : Int32) := own_ne (i := 3) hp rfl hk3
          have pre9 : ∀ t, Steps p.tables e below (s₁.setTop (mkF m 34 #[.val (.int p1)] [(.int (4 : Int32)), (.int p1)])) t → Steps p.tables e below (s₁.setTop (entryFrame m #[(.int p1)] 1)) t := by
            intro t k
            refine pre7 _ ?_
            refine XS.icmpYes X0.here hx rfl (pc0 := 26) (pc' := 32) rfl (hb hby d6_26) rfl (feq hp').2 (by decide) (by decide) ?_
            show Steps p.tables e below (s₁.setTop (mkF m 32 #[.val (.int p1)] [])) _
            refine XS.iloadN X0.here hx rfl (hb hby d6_32) rfl ?_
            show Steps p.tables e below (s₁.setTop (mkF m 33 #[.val (.int p1)] [(.int p1)])) _
            refine XS.iconst X0.here hx rfl (hb hby d6_33) ?_
            show Steps p.tables e below (s₁.setTop (mkF m 34 #[.val (.int p1)] [(.int (4 : Int32)), (.int p1)])) _
            exact k
          by_cases hk4 : j = 4
          · have hp' : p1 = (4 : Int32) := own_eq.mpr (hp.trans (by rw [hk4]; rfl))
            have pre10 : ∀ t, Steps p.tables e below (s₁.setTop (mkF m 39 #[.val (.int p1)] [(.int (80 : Int32))])) t → Steps p.tables e below (s₁.setTop (entryFrame m #[(.int p1)] 1)) t := by
              intro t k
              refine pre9 _ ?_
              refine XS.icmpNo X0.here hx rfl (hb hby d6_34) rfl (teq hp').2 ?_
              show Steps p.tables e below (s₁.setTop (mkF m 37 #[.val (.int p1)] [])) _
              refine XS.bipush X0.here hx rfl (hb hby d6_37) ?_
              show Steps p.tables e below (s₁.setTop (mkF m 39 #[.val (.int p1)] [(.int (80 : Int32))])) _
              exact k
            obtain ⟨fs, hr, hrun, hended, hW, hsame⟩ := X0.leave (v := some (.int (80 : Int32))) (fun h => by rw [Bd.returns] at h; cases h)
            refine ⟨_, _, pre10 _ ?_, hrun, hended, _, _, rfl, ?_, ⟨_, rfl⟩, hW, hsame.mono (by decide) (by decide)⟩
            · exact retI X0 hx Bd.returns (hb hby d6_39) hr
            · show ((_ : Option Value) = some (.int (own_sh j)) ∧ Fr n0 _ ∧ s₁.heap = h0)
              rw [e0]
              exact ⟨by rw [hk4]; rfl, N0, rfl⟩
          · have hp' : ¬ p1 = (4 : Int32) := own_ne (i := 4) hp rfl hk4
            have pre11 : ∀ t, Steps p.tables e below (s₁.setTop (mkF m 42 #[.val (.int p1)] [(.int (5 : Int32)), (.int p1)])) t → Steps p.tables e below (s₁.setTop (entryFrame m #[(.int p1)] 1)) t := by
              intro t k
              refine pre9 _ ?_
              refine XS.icmpYes X0.here hx rfl (pc0 := 34) (pc' := 40) rfl (hb hby d6_34) rfl (feq hp').2 (by decide) (by decide) ?_
              show Steps p.tables e below (s₁.setTop (mkF m 40 #[.val (.int p1)] [])) _
              refine XS.iloadN X0.here hx rfl (hb hby d6_40) rfl ?_
              show Steps p.tables e below (s₁.setTop (mkF m 41 #[.val (.int p1)] [(.int p1)])) _
              refine XS.iconst X0.here hx rfl (hb hby d6_41) ?_
              show Steps p.tables e below (s₁.setTop (mkF m 42 #[.val (.int p1)] [(.int (5 : Int32)), (.int p1)])) _
              exact k
            by_cases hk5 : j = 5
            · have hp' : p1 = (5 : Int32) := own_eq.mpr (hp.trans (by rw [hk5]; rfl))
              have pre12 : ∀ t, Steps p.tables e below (s₁.setTop (mkF m 47 #[.val (.int p1)] [(.int (29 : Int32))])) t → Steps p.tables e below (s₁.setTop (entryFrame m #[(.int p1)] 1)) t := by
                intro t k
                refine pre11 _ ?_
                refine XS.icmpNo X0.here hx rfl (hb hby d6_42) rfl (teq hp').2 ?_
                show Steps p.tables e below (s₁.setTop (mkF m 45 #[.val (.int p1)] [])) _
                refine XS.bipush X0.here hx rfl (hb hby d6_45) ?_
                show Steps p.tables e below (s₁.setTop (mkF m 47 #[.val (.int p1)] [(.int (29 : Int32))])) _
                exact k
              obtain ⟨fs, hr, hrun, hended, hW, hsame⟩ := X0.leave (v := some (.int (29 : Int32))) (fun h => by rw [Bd.returns] at h; cases h)
              refine ⟨_, _, pre12 _ ?_, hrun, hended, _, _, rfl, ?_, ⟨_, rfl⟩, hW, hsame.mono (by decide) (by decide)⟩
              · exact retI X0 hx Bd.returns (hb hby d6_47) hr
              · show ((_ : Option Value) = some (.int (own_sh j)) ∧ Fr n0 _ ∧ s₁.heap = h0)
                rw [e0]
                exact ⟨by rw [hk5]; rfl, N0, rfl⟩
            · have hp' : ¬ p1 = (5 : Int32) := own_ne (i := 5) hp rfl hk5
              have pre13 : ∀ t, Steps p.tables e below (s₁.setTop (mkF m 51 #[.val (.int p1)] [(.int (6 : Int32)), (.int p1)])) t → Steps p.tables e below (s₁.setTop (entryFrame m #[(.int p1)] 1)) t := by
                intro t k
                refine pre11 _ ?_
                refine XS.icmpYes X0.here hx rfl (pc0 := 42) (pc' := 48) rfl (hb hby d6_42) rfl (feq hp').2 (by decide) (by decide) ?_
                show Steps p.tables e below (s₁.setTop (mkF m 48 #[.val (.int p1)] [])) _
                refine XS.iloadN X0.here hx rfl (hb hby d6_48) rfl ?_
                show Steps p.tables e below (s₁.setTop (mkF m 49 #[.val (.int p1)] [(.int p1)])) _
                refine XS.bipush X0.here hx rfl (hb hby d6_49) ?_
                show Steps p.tables e below (s₁.setTop (mkF m 51 #[.val (.int p1)] [(.int (6 : Int32)), (.int p1)])) _
                exact k
              by_cases hk6 : j = 6
              · have hp' : p1 = (6 : Int32) := own_eq.mpr (hp.trans (by rw [hk6]; rfl))
                have pre14 : ∀ t, Steps p.tables e below (s₁.setTop (mkF m 56 #[.val (.int p1)] [(.int (17 : Int32))])) t → Steps p.tables e below (s₁.setTop (entryFrame m #[(.int p1)] 1)) t := by
                  intro t k
                  refine pre13 _ ?_
                  refine XS.icmpNo X0.here hx rfl (hb hby d6_51) rfl (teq hp').2 ?_
                  show Steps p.tables e below (s₁.setTop (mkF m 54 #[.val (.int p1)] [])) _
                  refine XS.bipush X0.here hx rfl (hb hby d6_54) ?_
                  show Steps p.tables e below (s₁.setTop (mkF m 56 #[.val (.int p1)] [(.int (17 : Int32))])) _
                  exact k
                obtain ⟨fs, hr, hrun, hended, hW, hsame⟩ := X0.leave (v := some (.int (17 : Int32))) (fun h => by rw [Bd.returns] at h; cases h)
                refine ⟨_, _, pre14 _ ?_, hrun, hended, _, _, rfl, ?_, ⟨_, rfl⟩, hW, hsame.mono (by decide) (by decide)⟩
                · exact retI X0 hx Bd.returns (hb hby d6_56) hr
                · show ((_ : Option Value) = some (.int (own_sh j)) ∧ Fr n0 _ ∧ s₁.heap = h0)
                  rw [e0]
                  exact ⟨by rw [hk6]; rfl, N0, rfl⟩
              · have hp' : ¬ p1 = (6 : Int32) := own_ne (i := 6) hp rfl hk6
                have pre15 : ∀ t, Steps p.tables e below (s₁.setTop (mkF m 60 #[.val (.int p1)] [(.int (7 : Int32)), (.int p1)])) t → Steps p.tables e below (s₁.setTop (entryFrame m #[(.int p1)] 1)) t := by
                  intro t k
                  refine pre13 _ ?_
                  refine XS.icmpYes X0.here hx rfl (pc0 := 51) (pc' := 57) rfl (hb hby d6_51) rfl (feq hp').2 (by decide) (by decide) ?_
                  show Steps p.tables e below (s₁.setTop (mkF m 57 #[.val (.int p1)] [])) _
                  refine XS.iloadN X0.here hx rfl (hb hby d6_57) rfl ?_
                  show Steps p.tables e below (s₁.setTop (mkF m 58 #[.val (.int p1)] [(.int p1)])) _
                  refine XS.bipush X0.here hx rfl (hb hby d6_58) ?_
                  show Steps p.tables e below (s₁.setTop (mkF m 60 #[.val (.int p1)] [(.int (7 : Int32)), (.int p1)])) _
                  exact k
                by_cases hk7 : j = 7
                · have hp' : p1 = (7 : Int32) := own_eq.mpr (hp.trans (by rw [hk7]; rfl))
                  have pre16 : ∀ t, Steps p.tables e below (s₁.setTop (mkF m 65 #[.val (.int p1)] [(.int (44 : Int32))])) t → Steps p.tables e below (s₁.setTop (entryFrame m #[(.int p1)] 1)) t := by
                    intro t k
                    refine pre15 _ ?_
                    refine XS.icmpNo X0.here hx rfl (hb hby d6_60) rfl (teq hp').2 ?_
                    show Steps p.tables e below (s₁.setTop (mkF m 63 #[.val (.int p1)] [])) _
                    refine XS.bipush X0.here hx rfl (hb hby d6_63) ?_
                    show Steps p.tables e below (s₁.setTop (mkF m 65 #[.val (.int p1)] [(.int (44 : Int32))])) _
                    exact k
                  obtain ⟨fs, hr, hrun, hended, hW, hsame⟩ := X0.leave (v := some (.int (44 : Int32))) (fun h => by rw [Bd.returns] at h; cases h)
                  refine ⟨_, _, pre16 _ ?_, hrun, hended, _, _, rfl, ?_, ⟨_, rfl⟩, hW, hsame.mono (by decide) (by decide)⟩
                  · exact retI X0 hx Bd.returns (hb hby d6_65) hr
                  · show ((_ : Option Value) = some (.int (own_sh j)) ∧ Fr n0 _ ∧ s₁.heap = h0)
                    rw [e0]
                    exact ⟨by rw [hk7]; rfl, N0, rfl⟩
                · have hp' : ¬ p1 = (7 : Int32) := own_ne (i := 7) hp rfl hk7
                  have pre17 : ∀ t, Steps p.tables e below (s₁.setTop (mkF m 69 #[.val (.int p1)] [(.int (8 : Int32)), (.int p1)])) t → Steps p.tables e below (s₁.setTop (entryFrame m #[(.int p1)] 1)) t := by
                    intro t k
                    refine pre15 _ ?_
                    refine XS.icmpYes X0.here hx rfl (pc0 := 60) (pc' := 66) rfl (hb hby d6_60) rfl (feq hp').2 (by decide) (by decide) ?_
                    show Steps p.tables e below (s₁.setTop (mkF m 66 #[.val (.int p1)] [])) _
                    refine XS.iloadN X0.here hx rfl (hb hby d6_66) rfl ?_
                    show Steps p.tables e below (s₁.setTop (mkF m 67 #[.val (.int p1)] [(.int p1)])) _
                    refine XS.bipush X0.here hx rfl (hb hby d6_67) ?_
                    show Steps p.tables e below (s₁.setTop (mkF m 69 #[.val (.int p1)] [(.int (8 : Int32)), (.int p1)])) _
                    exact k
                  by_cases hk8 : j = 8
                  · have hp' : p1 = (8 : Int32) := own_eq.mpr (hp.trans (by rw [hk8]; rfl))
                    have pre18 : ∀ t, Steps p.tables e below (s₁.setTop (mkF m 74 #[.val (.int p1)] [(.int (42 : Int32))])) t → Steps p.tables e below (s₁.setTop (entryFrame m #[(.int p1)] 1)) t := by
                      intro t k
                      refine pre17 _ ?_
                      refine XS.icmpNo X0.here hx rfl (hb hby d6_69) rfl (teq hp').2 ?_
                      show Steps p.tables e below (s₁.setTop (mkF m 72 #[.val (.int p1)] [])) _
                      refine XS.bipush X0.here hx rfl (hb hby d6_72) ?_
                      show Steps p.tables e below (s₁.setTop (mkF m 74 #[.val (.int p1)] [(.int (42 : Int32))])) _
                      exact k
                    obtain ⟨fs, hr, hrun, hended, hW, hsame⟩ := X0.leave (v := some (.int (42 : Int32))) (fun h => by rw [Bd.returns] at h; cases h)
                    refine ⟨_, _, pre18 _ ?_, hrun, hended, _, _, rfl, ?_, ⟨_, rfl⟩, hW, hsame.mono (by decide) (by decide)⟩
                    · exact retI X0 hx Bd.returns (hb hby d6_74) hr
                    · show ((_ : Option Value) = some (.int (own_sh j)) ∧ Fr n0 _ ∧ s₁.heap = h0)
                      rw [e0]
                      exact ⟨by rw [hk8]; rfl, N0, rfl⟩
                  · have hp' : ¬ p1 = (8 : Int32) := own_ne (i := 8) hp rfl hk8
                    have pre19 : ∀ t, Steps p.tables e below (s₁.setTop (mkF m 78 #[.val (.int p1)] [(.int (9 : Int32)), (.int p1)])) t → Steps p.tables e below (s₁.setTop (entryFrame m #[(.int p1)] 1)) t := by
                      intro t k
                      refine pre17 _ ?_
                      refine XS.icmpYes X0.here hx rfl (pc0 := 69) (pc' := 75) rfl (hb hby d6_69) rfl (feq hp').2 (by decide) (by decide) ?_
                      show Steps p.tables e below (s₁.setTop (mkF m 75 #[.val (.int p1)] [])) _
                      refine XS.iloadN X0.here hx rfl (hb hby d6_75) rfl ?_
                      show Steps p.tables e below (s₁.setTop (mkF m 76 #[.val (.int p1)] [(.int p1)])) _
                      refine XS.bipush X0.here hx rfl (hb hby d6_76) ?_
                      show Steps p.tables e below (s₁.setTop (mkF m 78 #[.val (.int p1)] [(.int (9 : Int32)), (.int p1)])) _
                      exact k
                    by_cases hk9 : j = 9
                    · have hp' : p1 = (9 : Int32) := own_eq.mpr (hp.trans (by rw [hk9]; rfl))
                      have pre20 : ∀ t, Steps p.tables e below (s₁.setTop (mkF m 83 #[.val (.int p1)] [(.int (87 : Int32))])) t → Steps p.tables e below (s₁.setTop (entryFrame m #[(.int p1)] 1)) t := by
                        intro t k
                        refine pre19 _ ?_
                        refine XS.icmpNo X0.here hx rfl (hb hby d6_78) rfl (teq hp').2 ?_
                        show Steps p.tables e below (s₁.setTop (mkF m 81 #[.val (.int p1)] [])) _
                        refine XS.bipush X0.here hx rfl (hb hby d6_81) ?_
                        show Steps p.tables e below (s₁.setTop (mkF m 83 #[.val (.int p1)] [(.int (87 : Int32))])) _
                        exact k
                      obtain ⟨fs, hr, hrun, hended, hW, hsame⟩ := X0.leave (v := some (.int (87 : Int32))) (fun h => by rw [Bd.returns] at h; cases h)
                      refine ⟨_, _, pre20 _ ?_, hrun, hended, _, _, rfl, ?_, ⟨_, rfl⟩, hW, hsame.mono (by decide) (by decide)⟩
                      · exact retI X0 hx Bd.returns (hb hby d6_83) hr
                      · show ((_ : Option Value) = some (.int (own_sh j)) ∧ Fr n0 _ ∧ s₁.heap = h0)
                        rw [e0]
                        exact ⟨by rw [hk9]; rfl, N0, rfl⟩
                    · have hp' : ¬ p1 = (9 : Int32) := own_ne (i := 9) hp rfl hk9
                      have pre21 : ∀ t, Steps p.tables e below (s₁.setTop (mkF m 87 #[.val (.int p1)] [(.int (10 : Int32)), (.int p1)])) t → Steps p.tables e below (s₁.setTop (entryFrame m #[(.int p1)] 1)) t := by
                        intro t k
                        refine pre19 _ ?_
                        refine XS.icmpYes X0.here hx rfl (pc0 := 78) (pc' := 84) rfl (hb hby d6_78) rfl (feq hp').2 (by decide) (by decide) ?_
                        show Steps p.tables e below (s₁.setTop (mkF m 84 #[.val (.int p1)] [])) _
                        refine XS.iloadN X0.here hx rfl (hb hby d6_84) rfl ?_
                        show Steps p.tables e below (s₁.setTop (mkF m 85 #[.val (.int p1)] [(.int p1)])) _
                        refine XS.bipush X0.here hx rfl (hb hby d6_85) ?_
                        show Steps p.tables e below (s₁.setTop (mkF m 87 #[.val (.int p1)] [(.int (10 : Int32)), (.int p1)])) _
                        exact k
                      by_cases hk10 : j = 10
                      · have hp' : p1 = (10 : Int32) := own_eq.mpr (hp.trans (by rw [hk10]; rfl))
                        have pre22 : ∀ t, Steps p.tables e below (s₁.setTop (mkF m 92 #[.val (.int p1)] [(.int (84 : Int32))])) t → Steps p.tables e below (s₁.setTop (entryFrame m #[(.int p1)] 1)) t := by
                          intro t k
                          refine pre21 _ ?_
                          refine XS.icmpNo X0.here hx rfl (hb hby d6_87) rfl (teq hp').2 ?_
                          show Steps p.tables e below (s₁.setTop (mkF m 90 #[.val (.int p1)] [])) _
                          refine XS.bipush X0.here hx rfl (hb hby d6_90) ?_
                          show Steps p.tables e below (s₁.setTop (mkF m 92 #[.val (.int p1)] [(.int (84 : Int32))])) _
                          exact k
                        obtain ⟨fs, hr, hrun, hended, hW, hsame⟩ := X0.leave (v := some (.int (84 : Int32))) (fun h => by rw [Bd.returns] at h; cases h)
                        refine ⟨_, _, pre22 _ ?_, hrun, hended, _, _, rfl, ?_, ⟨_, rfl⟩, hW, hsame.mono (by decide) (by decide)⟩
                        · exact retI X0 hx Bd.returns (hb hby d6_92) hr
                        · show ((_ : Option Value) = some (.int (own_sh j)) ∧ Fr n0 _ ∧ s₁.heap = h0)
                          rw [e0]
                          exact ⟨by rw [hk10]; rfl, N0, rfl⟩
                      · have hp' : ¬ p1 = (10 : Int32) := own_ne (i := 10) hp rfl hk10
                        have pre23 : ∀ t, Steps p.tables e below (s₁.setTop (mkF m 93 #[.val (.int p1)] [])) t → Steps p.tables e below (s₁.setTop (entryFrame m #[(.int p1)] 1)) t := by
                          intro t k
                          refine pre21 _ ?_
                          refine XS.icmpYes X0.here hx rfl (pc0 := 87) (pc' := 93) rfl (hb hby d6_87) rfl (feq hp').2 (by decide) (by decide) ?_
                          show Steps p.tables e below (s₁.setTop (mkF m 93 #[.val (.int p1)] [])) _
                          exact k
                        have ej : j = 11 := by omega
                        have pre24 : ∀ t, Steps p.tables e below (s₁.setTop (mkF m 95 #[.val (.int p1)] [(.int (105 : Int32))])) t → Steps p.tables e below (s₁.setTop (entryFrame m #[(.int p1)] 1)) t := by
                          intro t k
                          refine pre23 _ ?_
                          refine XS.bipush X0.here hx rfl (hb hby d6_93) ?_
                          show Steps p.tables e below (s₁.setTop (mkF m 95 #[.val (.int p1)] [(.int (105 : Int32))])) _
                          exact k
                        obtain ⟨fs, hr, hrun, hended, hW, hsame⟩ := X0.leave (v := some (.int (105 : Int32))) (fun h => by rw [Bd.returns] at h; cases h)
                        refine ⟨_, _, pre24 _ ?_, hrun, hended, _, _, rfl, ?_, ⟨_, rfl⟩, hW, hsame.mono (by decide) (by decide)⟩
                        · exact retI X0 hx Bd.returns (hb hby d6_95) hr
                        · show ((_ : Option Value) = some (.int (own_sh j)) ∧ Fr n0 _ ∧ s₁.heap = h0)
                          rw [e0]
                          exact ⟨by rw [ej]; rfl, N0, rfl⟩
set_option maxRecDepth 65536 in
set_option maxHeartbeats 40000000 in
theorem rm7 (l : Launch) (Z : State) (a0 : Array Value) (hw : ∀ d ∈ tables_1, d.before a0 Z = true) (ws : List Jvm.Cond) (a1 : Addr) (z : UInt64) (h0 : Heap) (n0 : Nat) (Z0 : n0 ≤ h0.size) (F : Fld Z h0 a1 "com/example/jobwright/jobwright/workload/O2kJobs$Ratio" "excessMean" "D" (.double z)) :
    MetFree l (⟨"com/example/jobwright/jobwright/workload/O2kJobs$Ratio", "excessMean", "()D"⟩ : MethodName) (head1 (Jvm.Cond.code (⟨"com/example/jobwright/jobwright/workload/O2kJobs$Ratio", "excessMean", "()D"⟩ : MethodName) prog_199_method_12_code 1 (some .double) :: ws) ({ frames := 0, cells := 0, slots := 0, locals := 0 } : Room)) (fun a U => a = #[(.ref a1)] ∧ Z.Warmed39 U.vm ∧ U.heap = h0) (fun _ _ _ _ _ => True) (fun _ U o U' => ∃ v L, o = .returned v ∧ own_Q (fun v h L => (v = some (.double z) ∧ Fr n0 L ∧ h = h0)) v U'.heap L ∧ FrameEnd U o U' L ({ frames := 0, cells := 0, slots := 0, locals := 0 } : Room).cells ({ frames := 0, cells := 0, slots := 0, locals := 0 } : Room).slots) := by
  refine MetFree.of_bodySF (plainFor_of_name own_pn2) hisR ?_
  intro p e s m args below meth c s₁ Bd hml0 hP hK
  obtain ⟨rfl, hZ, hh⟩ := hP
  have hx := Bd.exec
  have hby := Bd.bytes
  have hml : c.maxLocals = 1 := hml0
  have hown : s.vm.findClass "com/example/jobwright/jobwright/workload/O2kJobs$Ratio" = some m.cls := findClass_of_methodNamed Bd.named
  have hnm := (name_of_methodNamed Bd.named Bd.method).1
  have X0 : Stand p l e ({ frames := 0, cells := 0, slots := 0, locals := 0 } : Room) s m #[(.ref a1)] below meth c s₁ [] 0 0 := Stand.of_body Bd
  have e0 : s₁.heap = h0 := by rw [← hh, Bd.state]; rfl
  have N0 := Fr.nil n0
  have ef : entryFrame m #[(.ref a1)] 1 = mkF m 0 #[.val (.ref a1)] [] := by first | (simp [entryFrame, mkF, argsToLocals, Value.category]; done) | rfl
  have pre0 : ∀ t, Steps p.tables e below (s₁.setTop (mkF m 0 #[.val (.ref a1)] [])) t → Steps p.tables e below (s₁.setTop (entryFrame m #[(.ref a1)] 1)) t := fun t k => castTop ef k
  have pre1 : ∀ t, Steps p.tables e below (s₁.setTop (mkF m 1 #[.val (.ref a1)] [(.ref a1)])) t → Steps p.tables e below (s₁.setTop (entryFrame m #[(.ref a1)] 1)) t := by
    intro t k
    refine pre0 _ ?_
    refine XS.aloadN X0.here hx rfl (hb hby d7_0) rfl rfl ?_
    show Steps p.tables e below (s₁.setTop (mkF m 1 #[.val (.ref a1)] [(.ref a1)])) _
    exact k
  obtain ⟨T2, X2, e2, st2⟩ := getF X0 hx hZ hown (host := "") (Or.inl (hw _ (List.mem_of_getElem? (i := 37) rfl))) Via.refl e0 F (g := (mkF m 1 #[.val (.ref a1)] [(.ref a1)])) rfl rfl (hb hby d7_1)
  have pre2 : ∀ t, Steps p.tables e below (T2.setTop (mkF m 4 #[.val (.ref a1)] [(.double z)])) t → Steps p.tables e below (s₁.setTop (entryFrame m #[(.ref a1)] 1)) t := fun t k => pre1 t (st2 t k)
  obtain ⟨fs, hr, hrun, hended, hW, hsame⟩ := X2.leave (v := some (.double z)) (fun h => by rw [Bd.returns] at h; cases h)
  refine ⟨_, _, pre2 _ ?_, hrun, hended, _, _, rfl, ?_, ⟨_, rfl⟩, hW, hsame.mono (by decide) (by decide)⟩
  · exact retOut X2 hx Bd.returns rfl (Or.inr (Or.inr (Or.inl ⟨rfl, rfl, _, rfl⟩))) (hb hby d7_4) hr
  · show ((_ : Option Value) = some (.double z) ∧ Fr n0 _ ∧ T2.heap = h0)
    rw [e2]
    exact ⟨rfl, N0, rfl⟩
set_option maxRecDepth 65536 in
set_option maxHeartbeats 40000000 in
theorem rm0 (l : Launch) (Z : State) (a0 : Array Value) (hw : ∀ d ∈ tables_1, d.before a0 Z = true) (ws : List Jvm.Cond) (p1 : Int32) (q2 : Int64) (p3 : Int32) (q4 : Int64) (ra da : Addr) (cr cd : Cell) (ad : Nat → Addr) (h0 : Heap) (n0 : Nat) (Z0 : n0 ≤ h0.size) (sR : Sta Z h0 "com/example/jobwright/jobwright/workload/O2kJobs" "RATIOS" "[Lcom/example/jobwright/jobwright/workload/O2kJobs$Ratio;" (.ref ra)) (sD : Sta Z h0 "com/example/jobwright/jobwright/workload/O2kJobs" "DEFAULTS" "[J" (.ref da)) (aR : Arr Z h0 ra cr (.object "com/example/jobwright/jobwright/workload/O2kJobs$Ratio")) (aD : Arr Z h0 da cd .long) (eR : ∀ k, k < 12 → cr.slots[k]? = some (.ref (ad k))) (eD : ∀ k, k < 4 → cd.slots[k]? = some (.long (own_df k))) (hE : ∀ k, k < 12 → Exa Z h0 (ad k) "com/example/jobwright/jobwright/workload/O2kJobs$Ratio") (hS : ∀ k, k < 12 → Fld Z h0 (ad k) "com/example/jobwright/jobwright/workload/O2kJobs$Ratio" "aboveShare" "I" (.int (own_sh k))) (hM : ∀ k, k < 12 → Fld Z h0 (ad k) "com/example/jobwright/jobwright/workload/O2kJobs$Ratio" "excessMean" "D" (.double (own_em k))) :
    MetFree l x (head1 (Jvm.Cond.code x code maxLocals ret :: ws) room_1) (fun a U => a = #[(.int p1), (.long q2), (.int p3), (.long q4)] ∧ Z.Warmed39 U.vm ∧ U.heap = h0) (fun _ _ _ _ _ => True) (fun _ U o U' => ∃ v L, o = .returned v ∧ own_Q (fun v h L => (v = some (.int 1) ∧ Fr n0 L)) v U'.heap L ∧ FrameEnd U o U' L room_1.cells room_1.slots) := by
  refine MetFree.of_bodySF (plainFor_of_name own_pn0) hisR ?_
  intro p e s m args below meth c s₁ Bd hml0 hP hK
  obtain ⟨rfl, hZ, hh⟩ := hP
  have hx := Bd.exec
  have hby := Bd.bytes
  have hml : c.maxLocals = 13 := hml0
  have hown : s.vm.findClass "com/example/jobwright/jobwright/workload/O2kJobsRatioPinLaw" = some m.cls := findClass_of_methodNamed Bd.named
  have hnm := (name_of_methodNamed Bd.named Bd.method).1
  have X0 : Stand p l e room_1 s m #[(.int p1), (.long q2), (.int p3), (.long q4)] below meth c s₁ [] 0 0 := Stand.of_body Bd
  have e0 : s₁.heap = h0 := by rw [← hh, Bd.state]; rfl
  have N0 := Fr.nil n0
  have ef : entryFrame m #[(.int p1), (.long q2), (.int p3), (.long q4)] maxLocals = mkF m 0 #[.val (.int p1), .val (.long q2), .second, .val (.int p3), .val (.long q4), .second, .unset, .unset, .unset, .unset, .unset, .unset, .unset] [] := by first | (simp [entryFrame, mkF, argsToLocals, Value.category, maxLocals]; done) | rfl
  have pre0 : ∀ t, Steps p.tables e below (s₁.setTop (mkF m 0 #[.val (.int p1), .val (.long q2), .second, .val (.int p3), .val (.long q4), .second, .unset, .unset, .unset, .unset, .unset, .unset, .unset] [])) t → Steps p.tables e below (s₁.setTop (entryFrame m #[(.int p1), (.long q2), (.int p3), (.long q4)] maxLocals)) t := fun t k => castTop ef k
  have pre1 : ∀ t, Steps p.tables e below (s₁.setTop (mkF m 5 #[.val (.int p1), .val (.long q2), .second, .val (.int p3), .val (.long q4), .second, .unset, .unset, .unset, .unset, .unset, .unset, .unset] [(.long q2), (.int (p1 &&& (15 : Int32)))])) t → Steps p.tables e below (s₁.setTop (entryFrame m #[(.int p1), (.long q2), (.int p3), (.long q4)] maxLocals)) t := by
    intro t k
    refine pre0 _ ?_
    refine XS.iloadN X0.here hx rfl (hb hby at_0) rfl ?_
    show Steps p.tables e below (s₁.setTop (mkF m 1 #[.val (.int p1), .val (.long q2), .second, .val (.int p3), .val (.long q4), .second, .unset, .unset, .unset, .unset, .unset, .unset, .unset] [(.int p1)])) _
    refine XS.bipush X0.here hx rfl (hb hby at_1) ?_
    show Steps p.tables e below (s₁.setTop (mkF m 3 #[.val (.int p1), .val (.long q2), .second, .val (.int p3), .val (.long q4), .second, .unset, .unset, .unset, .unset, .unset, .unset, .unset] [(.int (15 : Int32)), (.int p1)])) _
    refine XS.iand X0.here hx rfl (hb hby at_3) rfl ?_
    show Steps p.tables e below (s₁.setTop (mkF m 4 #[.val (.int p1), .val (.long q2), .second, .val (.int p3), .val (.long q4), .second, .unset, .unset, .unset, .unset, .unset, .unset, .unset] [(.int (p1 &&& (15 : Int32)))])) _
    refine XS.lloadN X0.here hx rfl (hb hby at_4) rfl ?_
    show Steps p.tables e below (s₁.setTop (mkF m 5 #[.val (.int p1), .val (.long q2), .second, .val (.int p3), .val (.long q4), .second, .unset, .unset, .unset, .unset, .unset, .unset, .unset] [(.long q2), (.int (p1 &&& (15 : Int32)))])) _
    exact k
  obtain ⟨_, _, ⟨T2, L2, k2, n2⟩, -, X2, ⟨Lc2, hQ2, l2, y2, z2⟩, st2⟩ := Jvm.LawKit.callS X0 hx (y := (⟨"com/example/jobwright/jobwright/workload/O2kJobsRatioPinLaw", "pickRequest", "(IJ)J"⟩ : MethodName)) hown (mvT hZ (hw _ (List.mem_of_getElem? (i := 0) rfl))) (mvT hZ (hw _ (List.mem_of_getElem? (i := 1) rfl))) (mvT hZ (hw _ (List.mem_of_getElem? (i := 2) rfl))) (mvT hZ (hw _ (List.mem_of_getElem? (i := 3) rfl))) (by decide) (backOf (W := 0) (rm1 l Z a0 hw [] (p1 &&& (15 : Int32)) q2 h0 n0 Z0) hZ (hw _ (List.mem_of_getElem? (i := 3) rfl)) (hw _ (List.mem_of_getElem? (i := 2) rfl)) (by decide) (by decide)) (g := (mkF m 5 #[.val (.int p1), .val (.long q2), .second, .val (.int p3), .val (.long q4), .second, .unset, .unset, .unset, .unset, .unset, .unset, .unset] [(.long q2), (.int (p1 &&& (15 : Int32)))])) rfl (by rw [hml]; rfl) (argsL := [(.int (p1 &&& (15 : Int32))), (.long q2)]) (rest := []) (lenOf own_pd0 rfl) rfl (by show 2 * 0 + _ ≤ _; exact Nat.le_of_eq rfl) (hb hby at_5) (fun _ _ => ⟨rfl, e0, (by decide : 0 + 0 ≤ _), (by decide : 0 + 0 ≤ _)⟩)
  dsimp only [Pt.U, Pt.locs, Pt.cells, Pt.slots] at X2 l2 y2 z2 st2 hQ2
  subst l2 y2 z2
  obtain ⟨rq, rfl, Nq2, eh1⟩ := hQ2
  have N2 := Fr.app N0 Nq2
  have pre2 : ∀ t, Steps p.tables e below (T2.setTop (mkF m 8 #[.val (.int p1), .val (.long q2), .second, .val (.int p3), .val (.long q4), .second, .unset, .unset, .unset, .unset, .unset, .unset, .unset] [(.long rq)])) t → Steps p.tables e below (s₁.setTop (entryFrame m #[(.int p1), (.long q2), (.int p3), (.long q4)] maxLocals)) t := fun t k => pre1 t (st2 t k)
  have pre3 : ∀ t, Steps p.tables e below (T2.setTop (mkF m 10 #[.val (.int p1), .val (.long q2), .second, .val (.int p3), .val (.long q4), .second, .val (.long rq), .second, .unset, .unset, .unset, .unset, .unset] [])) t → Steps p.tables e below (s₁.setTop (entryFrame m #[(.int p1), (.long q2), (.int p3), (.long q4)] maxLocals)) t := by
    intro t k
    refine pre2 _ ?_
    refine XS.lstore X2.here hx rfl (hb hby at_8) rfl (l' := #[.val (.int p1), .val (.long q2), .second, .val (.int p3), .val (.long q4), .second, .val (.long rq), .second, .unset, .unset, .unset, .unset, .unset]) rfl ?_
    show Steps p.tables e below (T2.setTop (mkF m 10 #[.val (.int p1), .val (.long q2), .second, .val (.int p3), .val (.long q4), .second, .val (.long rq), .second, .unset, .unset, .unset, .unset, .unset] [])) _
    exact k
  obtain ⟨pp, preP⟩ : ∃ pp : Int32, (∀ t, Steps p.tables e below (T2.setTop (mkF m 29 #[.val (.int p1), .val (.long q2), .second, .val (.int p3), .val (.long q4), .second, .val (.long rq), .second, .unset, .unset, .unset, .unset, .unset] [(.int pp)])) t → Steps p.tables e below (s₁.setTop (entryFrame m #[(.int p1), (.long q2), (.int p3), (.long q4)] maxLocals)) t) := by
    have pre4 : ∀ t, Steps p.tables e below (T2.setTop (mkF m 15 #[.val (.int p1), .val (.long q2), .second, .val (.int p3), .val (.long q4), .second, .val (.long rq), .second, .unset, .unset, .unset, .unset, .unset] [(.int (p3 &&& (256 : Int32)))])) t → Steps p.tables e below (s₁.setTop (entryFrame m #[(.int p1), (.long q2), (.int p3), (.long q4)] maxLocals)) t := by
      intro t k
      refine pre3 _ ?_
      refine XS.iloadN X2.here hx rfl (hb hby at_10) rfl ?_
      show Steps p.tables e below (T2.setTop (mkF m 11 #[.val (.int p1), .val (.long q2), .second, .val (.int p3), .val (.long q4), .second, .val (.long rq), .second, .unset, .unset, .unset, .unset, .unset] [(.int p3)])) _
      refine XS.sipush X2.here hx rfl (hb hby at_11) ?_
      show Steps p.tables e below (T2.setTop (mkF m 14 #[.val (.int p1), .val (.long q2), .second, .val (.int p3), .val (.long q4), .second, .val (.long rq), .second, .unset, .unset, .unset, .unset, .unset] [(.int (256 : Int32)), (.int p3)])) _
      refine XS.iand X2.here hx rfl (hb hby at_14) rfl ?_
      show Steps p.tables e below (T2.setTop (mkF m 15 #[.val (.int p1), .val (.long q2), .second, .val (.int p3), .val (.long q4), .second, .val (.long rq), .second, .unset, .unset, .unset, .unset, .unset] [(.int (p3 &&& (256 : Int32)))])) _
      exact k
    by_cases h1 : (p3 &&& (256 : Int32)) = (0 : Int32)
    · have pre5 : ∀ t, Steps p.tables e below (T2.setTop (mkF m 29 #[.val (.int p1), .val (.long q2), .second, .val (.int p3), .val (.long q4), .second, .val (.long rq), .second, .unset, .unset, .unset, .unset, .unset] [(.int ((p3 &&& (127 : Int32)) - (31 : Int32)))])) t → Steps p.tables e below (s₁.setTop (entryFrame m #[(.int p1), (.long q2), (.int p3), (.long q4)] maxLocals)) t := by
        intro t k
        refine pre4 _ ?_
        refine XS.ifYes X2.here hx rfl (pc0 := 15) (pc' := 22) rfl (hb hby at_15) rfl ((if0 _ _).trans (teq h1).1) (by decide) (by decide) ?_
        show Steps p.tables e below (T2.setTop (mkF m 22 #[.val (.int p1), .val (.long q2), .second, .val (.int p3), .val (.long q4), .second, .val (.long rq), .second, .unset, .unset, .unset, .unset, .unset] [])) _
        refine XS.iloadN X2.here hx rfl (hb hby at_22) rfl ?_
        show Steps p.tables e below (T2.setTop (mkF m 23 #[.val (.int p1), .val (.long q2), .second, .val (.int p3), .val (.long q4), .second, .val (.long rq), .second, .unset, .unset, .unset, .unset, .unset] [(.int p3)])) _
        refine XS.bipush X2.here hx rfl (hb hby at_23) ?_
        show Steps p.tables e below (T2.setTop (mkF m 25 #[.val (.int p1), .val (.long q2), .second, .val (.int p3), .val (.long q4), .second, .val (.long rq), .second, .unset, .unset, .unset, .unset, .unset] [(.int (127 : Int32)), (.int p3)])) _
        refine XS.iand X2.here hx rfl (hb hby at_25) rfl ?_
        show Steps p.tables e below (T2.setTop (mkF m 26 #[.val (.int p1), .val (.long q2), .second, .val (.int p3), .val (.long q4), .second, .val (.long rq), .second, .unset, .unset, .unset, .unset, .unset] [(.int (p3 &&& (127 : Int32)))])) _
        refine XS.bipush X2.here hx rfl (hb hby at_26) ?_
        show Steps p.tables e below (T2.setTop (mkF m 28 #[.val (.int p1), .val (.long q2), .second, .val (.int p3), .val (.long q4), .second, .val (.long rq), .second, .unset, .unset, .unset, .unset, .unset] [(.int (31 : Int32)), (.int (p3 &&& (127 : Int32)))])) _
        refine XS.isub X2.here hx rfl (hb hby at_28) rfl ?_
        show Steps p.tables e below (T2.setTop (mkF m 29 #[.val (.int p1), .val (.long q2), .second, .val (.int p3), .val (.long q4), .second, .val (.long rq), .second, .unset, .unset, .unset, .unset, .unset] [(.int ((p3 &&& (127 : Int32)) - (31 : Int32)))])) _
        exact k
      exact ⟨_, pre5⟩
    · have pre6 : ∀ t, Steps p.tables e below (T2.setTop (mkF m 29 #[.val (.int p1), .val (.long q2), .second, .val (.int p3), .val (.long q4), .second, .val (.long rq), .second, .unset, .unset, .unset, .unset, .unset] [(.int p3)])) t → Steps p.tables e below (s₁.setTop (entryFrame m #[(.int p1), (.long q2), (.int p3), (.long q4)] maxLocals)) t := by
        intro t k
        refine pre4 _ ?_
        refine XS.ifNo X2.here hx rfl (hb hby at_15) rfl ((if0 _ _).trans (feq h1).1) ?_
        show Steps p.tables e below (T2.setTop (mkF m 18 #[.val (.int p1), .val (.long q2), .second, .val (.int p3), .val (.long q4), .second, .val (.long rq), .second, .unset, .unset, .unset, .unset, .unset] [])) _
        refine XS.iloadN X2.here hx rfl (hb hby at_18) rfl ?_
        show Steps p.tables e below (T2.setTop (mkF m 19 #[.val (.int p1), .val (.long q2), .second, .val (.int p3), .val (.long q4), .second, .val (.long rq), .second, .unset, .unset, .unset, .unset, .unset] [(.int p3)])) _
        refine XS.goto X2.here hx rfl (pc0 := 19) (pc' := 29) rfl (hb hby at_19) (by decide) (by decide) ?_
        show Steps p.tables e below (T2.setTop (mkF m 29 #[.val (.int p1), .val (.long q2), .second, .val (.int p3), .val (.long q4), .second, .val (.long rq), .second, .unset, .unset, .unset, .unset, .unset] [(.int p3)])) _
        exact k
      exact ⟨_, pre6⟩
  have pre7 : ∀ t, Steps p.tables e below (T2.setTop (mkF m 38 #[.val (.int p1), .val (.long q2), .second, .val (.int p3), .val (.long q4), .second, .val (.long rq), .second, .val (.int pp), .unset, .unset, .unset, .unset] [(.long q4), (.int (((p1.toUInt32 >>> ((4 : Int32) &&& 31).toUInt32).toInt32) &&& (3 : Int32)))])) t → Steps p.tables e below (s₁.setTop (entryFrame m #[(.int p1), (.long q2), (.int p3), (.long q4)] maxLocals)) t := by
    intro t k
    refine preP _ ?_
    refine XS.istore X2.here hx rfl (hb hby at_29) rfl (l' := #[.val (.int p1), .val (.long q2), .second, .val (.int p3), .val (.long q4), .second, .val (.long rq), .second, .val (.int pp), .unset, .unset, .unset, .unset]) rfl ?_
    show Steps p.tables e below (T2.setTop (mkF m 31 #[.val (.int p1), .val (.long q2), .second, .val (.int p3), .val (.long q4), .second, .val (.long rq), .second, .val (.int pp), .unset, .unset, .unset, .unset] [])) _
    refine XS.iloadN X2.here hx rfl (hb hby at_31) rfl ?_
    show Steps p.tables e below (T2.setTop (mkF m 32 #[.val (.int p1), .val (.long q2), .second, .val (.int p3), .val (.long q4), .second, .val (.long rq), .second, .val (.int pp), .unset, .unset, .unset, .unset] [(.int p1)])) _
    refine XS.iconst X2.here hx rfl (hb hby at_32) ?_
    show Steps p.tables e below (T2.setTop (mkF m 33 #[.val (.int p1), .val (.long q2), .second, .val (.int p3), .val (.long q4), .second, .val (.long rq), .second, .val (.int pp), .unset, .unset, .unset, .unset] [(.int (4 : Int32)), (.int p1)])) _
    refine XS.iushr X2.here hx rfl (hb hby at_33) rfl ?_
    show Steps p.tables e below (T2.setTop (mkF m 34 #[.val (.int p1), .val (.long q2), .second, .val (.int p3), .val (.long q4), .second, .val (.long rq), .second, .val (.int pp), .unset, .unset, .unset, .unset] [(.int ((p1.toUInt32 >>> ((4 : Int32) &&& 31).toUInt32).toInt32))])) _
    refine XS.iconst X2.here hx rfl (hb hby at_34) ?_
    show Steps p.tables e below (T2.setTop (mkF m 35 #[.val (.int p1), .val (.long q2), .second, .val (.int p3), .val (.long q4), .second, .val (.long rq), .second, .val (.int pp), .unset, .unset, .unset, .unset] [(.int (3 : Int32)), (.int ((p1.toUInt32 >>> ((4 : Int32) &&& 31).toUInt32).toInt32))])) _
    refine XS.iand X2.here hx rfl (hb hby at_35) rfl ?_
    show Steps p.tables e below (T2.setTop (mkF m 36 #[.val (.int p1), .val (.long q2), .second, .val (.int p3), .val (.long q4), .second, .val (.long rq), .second, .val (.int pp), .unset, .unset, .unset, .unset] [(.int (((p1.toUInt32 >>> ((4 : Int32) &&& 31).toUInt32).toInt32) &&& (3 : Int32)))])) _
    refine XS.lload X2.here hx rfl (hb hby at_36) rfl ?_
    show Steps p.tables e below (T2.setTop (mkF m 38 #[.val (.int p1), .val (.long q2), .second, .val (.int p3), .val (.long q4), .second, .val (.long rq), .second, .val (.int pp), .unset, .unset, .unset, .unset] [(.long q4), (.int (((p1.toUInt32 >>> ((4 : Int32) &&& 31).toUInt32).toInt32) &&& (3 : Int32)))])) _
    exact k
  obtain ⟨_, _, ⟨T8, L8, k8, n8⟩, -, X8, ⟨Lc8, hQ8, l8, y8, z8⟩, st8⟩ := Jvm.LawKit.callS X2 hx (y := (⟨"com/example/jobwright/jobwright/workload/O2kJobsRatioPinLaw", "pickMemory", "(IJ)J"⟩ : MethodName)) hown (mvT hZ (hw _ (List.mem_of_getElem? (i := 6) rfl))) (mvT hZ (hw _ (List.mem_of_getElem? (i := 7) rfl))) (mvT hZ (hw _ (List.mem_of_getElem? (i := 2) rfl))) (mvT hZ (hw _ (List.mem_of_getElem? (i := 8) rfl))) (by decide) (backOf (W := 0) (rm2 l Z a0 hw [] (((p1.toUInt32 >>> ((4 : Int32) &&& 31).toUInt32).toInt32) &&& (3 : Int32)) q4 h0 n0 Z0) hZ (hw _ (List.mem_of_getElem? (i := 8) rfl)) (hw _ (List.mem_of_getElem? (i := 2) rfl)) (by decide) (by decide)) (g := (mkF m 38 #[.val (.int p1), .val (.long q2), .second, .val (.int p3), .val (.long q4), .second, .val (.long rq), .second, .val (.int pp), .unset, .unset, .unset, .unset] [(.long q4), (.int (((p1.toUInt32 >>> ((4 : Int32) &&& 31).toUInt32).toInt32) &&& (3 : Int32)))])) rfl (by rw [hml]; rfl) (argsL := [(.int (((p1.toUInt32 >>> ((4 : Int32) &&& 31).toUInt32).toInt32) &&& (3 : Int32))), (.long q4)]) (rest := []) (lenOf own_pd0 rfl) rfl (by show 2 * 0 + _ ≤ _; exact Nat.le_of_eq rfl) (hb hby at_38) (fun _ _ => ⟨rfl, eh1, (by decide : 0 + 0 ≤ _), (by decide : 0 + 0 ≤ _)⟩)
  dsimp only [Pt.U, Pt.locs, Pt.cells, Pt.slots] at X8 l8 y8 z8 st8 hQ8
  subst l8 y8 z8
  obtain ⟨mm, rfl, Nq8, eh2⟩ := hQ8
  have N8 := Fr.app N2 Nq8
  have pre8 : ∀ t, Steps p.tables e below (T8.setTop (mkF m 41 #[.val (.int p1), .val (.long q2), .second, .val (.int p3), .val (.long q4), .second, .val (.long rq), .second, .val (.int pp), .unset, .unset, .unset, .unset] [(.long mm)])) t → Steps p.tables e below (s₁.setTop (entryFrame m #[(.int p1), (.long q2), (.int p3), (.long q4)] maxLocals)) t := fun t k => pre7 t (st8 t k)
  have pre9 : ∀ t, Steps p.tables e below (T8.setTop (mkF m 49 #[.val (.int p1), .val (.long q2), .second, .val (.int p3), .val (.long q4), .second, .val (.long rq), .second, .val (.int pp), .val (.long mm), .second, .unset, .unset] [(.long mm), (.int pp), (.long rq)])) t → Steps p.tables e below (s₁.setTop (entryFrame m #[(.int p1), (.long q2), (.int p3), (.long q4)] maxLocals)) t := by
    intro t k
    refine pre8 _ ?_
    refine XS.lstore X8.here hx rfl (hb hby at_41) rfl (l' := #[.val (.int p1), .val (.long q2), .second, .val (.int p3), .val (.long q4), .second, .val (.long rq), .second, .val (.int pp), .val (.long mm), .second, .unset, .unset]) rfl ?_
    show Steps p.tables e below (T8.setTop (mkF m 43 #[.val (.int p1), .val (.long q2), .second, .val (.int p3), .val (.long q4), .second, .val (.long rq), .second, .val (.int pp), .val (.long mm), .second, .unset, .unset] [])) _
    refine XS.lload X8.here hx rfl (hb hby at_43) rfl ?_
    show Steps p.tables e below (T8.setTop (mkF m 45 #[.val (.int p1), .val (.long q2), .second, .val (.int p3), .val (.long q4), .second, .val (.long rq), .second, .val (.int pp), .val (.long mm), .second, .unset, .unset] [(.long rq)])) _
    refine XS.iload X8.here hx rfl (hb hby at_45) rfl ?_
    show Steps p.tables e below (T8.setTop (mkF m 47 #[.val (.int p1), .val (.long q2), .second, .val (.int p3), .val (.long q4), .second, .val (.long rq), .second, .val (.int pp), .val (.long mm), .second, .unset, .unset] [(.int pp), (.long rq)])) _
    refine XS.lload X8.here hx rfl (hb hby at_47) rfl ?_
    show Steps p.tables e below (T8.setTop (mkF m 49 #[.val (.int p1), .val (.long q2), .second, .val (.int p3), .val (.long q4), .second, .val (.long rq), .second, .val (.int pp), .val (.long mm), .second, .unset, .unset] [(.long mm), (.int pp), (.long rq)])) _
    exact k
  obtain ⟨j, ej⟩ : ∃ j, j = own_row rq pp mm := ⟨_, rfl⟩
  have hj : j < 12 := by rw [ej]; exact own_row_lt _ _ _
  have r3 := rm3 l Z a0 hw [] rq pp mm ra da cr cd ad h0 n0 Z0 sR sD aR aD eR eD
  have r4 := rm4 l Z a0 hw [] rq pp mm h0 n0 Z0
  rw [← ej] at r3 r4
  obtain ⟨_, _, ⟨T10, L10, k10, n10⟩, -, X10, ⟨Lc10, hQ10, l10, y10, z10⟩, st10⟩ := Jvm.LawKit.callS X8 hx (y := (⟨"com/example/jobwright/jobwright/workload/O2kJobs", "ratio", "(JIJ)Lcom/example/jobwright/jobwright/workload/O2kJobs$Ratio;"⟩ : MethodName)) hown (mvT hZ (hw _ (List.mem_of_getElem? (i := 9) rfl))) (mvT hZ (hw _ (List.mem_of_getElem? (i := 10) rfl))) (mvT hZ (hw _ (List.mem_of_getElem? (i := 11) rfl))) (mvT hZ (hw _ (List.mem_of_getElem? (i := 12) rfl))) (by decide) (backOf (W := 0) (r3) hZ (hw _ (List.mem_of_getElem? (i := 12) rfl)) (hw _ (List.mem_of_getElem? (i := 11) rfl)) (by decide) (by decide)) (g := (mkF m 49 #[.val (.int p1), .val (.long q2), .second, .val (.int p3), .val (.long q4), .second, .val (.long rq), .second, .val (.int pp), .val (.long mm), .second, .unset, .unset] [(.long mm), (.int pp), (.long rq)])) rfl (by rw [hml]; rfl) (argsL := [(.long rq), (.int pp), (.long mm)]) (rest := []) (lenOf own_pd1 rfl) rfl (by show 2 * 0 + _ ≤ _; exact Nat.le_of_eq rfl) (hb hby at_49) (fun _ _ => ⟨rfl, eh2, (by decide : 0 + 0 ≤ _), (by decide : 0 + 0 ≤ _)⟩)
  dsimp only [Pt.U, Pt.locs, Pt.cells, Pt.slots] at X10 l10 y10 z10 st10 hQ10
  subst l10 y10 z10
  obtain ⟨rfl, Nq10, eh3⟩ := hQ10
  have N10 := Fr.app N8 Nq10
  have pre10 : ∀ t, Steps p.tables e below (T10.setTop (mkF m 52 #[.val (.int p1), .val (.long q2), .second, .val (.int p3), .val (.long q4), .second, .val (.long rq), .second, .val (.int pp), .val (.long mm), .second, .unset, .unset] [(.ref (ad j))])) t → Steps p.tables e below (s₁.setTop (entryFrame m #[(.int p1), (.long q2), (.int p3), (.long q4)] maxLocals)) t := fun t k => pre9 t (st10 t k)
  have pre11 : ∀ t, Steps p.tables e below (T10.setTop (mkF m 67 #[.val (.int p1), .val (.long q2), .second, .val (.int p3), .val (.long q4), .second, .val (.long rq), .second, .val (.int pp), .val (.long mm), .second, .val (.ref (ad j)), .unset] [(.long mm), (.int pp), (.long rq)])) t → Steps p.tables e below (s₁.setTop (entryFrame m #[(.int p1), (.long q2), (.int p3), (.long q4)] maxLocals)) t := by
    intro t k
    refine pre10 _ ?_
    refine XS.astore X10.here hx rfl (hb hby at_52) rfl rfl (l' := #[.val (.int p1), .val (.long q2), .second, .val (.int p3), .val (.long q4), .second, .val (.long rq), .second, .val (.int pp), .val (.long mm), .second, .val (.ref (ad j)), .unset]) rfl ?_
    show Steps p.tables e below (T10.setTop (mkF m 54 #[.val (.int p1), .val (.long q2), .second, .val (.int p3), .val (.long q4), .second, .val (.long rq), .second, .val (.int pp), .val (.long mm), .second, .val (.ref (ad j)), .unset] [])) _
    refine XS.aload X10.here hx rfl (hb hby at_54) rfl rfl ?_
    show Steps p.tables e below (T10.setTop (mkF m 56 #[.val (.int p1), .val (.long q2), .second, .val (.int p3), .val (.long q4), .second, .val (.long rq), .second, .val (.int pp), .val (.long mm), .second, .val (.ref (ad j)), .unset] [(.ref (ad j))])) _
    refine XS.ifnonnullYes X10.here hx rfl (pc0 := 56) (pc' := 61) rfl (hb hby at_56) rfl (by decide) (by decide) ?_
    show Steps p.tables e below (T10.setTop (mkF m 61 #[.val (.int p1), .val (.long q2), .second, .val (.int p3), .val (.long q4), .second, .val (.long rq), .second, .val (.int pp), .val (.long mm), .second, .val (.ref (ad j)), .unset] [])) _
    refine XS.lload X10.here hx rfl (hb hby at_61) rfl ?_
    show Steps p.tables e below (T10.setTop (mkF m 63 #[.val (.int p1), .val (.long q2), .second, .val (.int p3), .val (.long q4), .second, .val (.long rq), .second, .val (.int pp), .val (.long mm), .second, .val (.ref (ad j)), .unset] [(.long rq)])) _
    refine XS.iload X10.here hx rfl (hb hby at_63) rfl ?_
    show Steps p.tables e below (T10.setTop (mkF m 65 #[.val (.int p1), .val (.long q2), .second, .val (.int p3), .val (.long q4), .second, .val (.long rq), .second, .val (.int pp), .val (.long mm), .second, .val (.ref (ad j)), .unset] [(.int pp), (.long rq)])) _
    refine XS.lload X10.here hx rfl (hb hby at_65) rfl ?_
    show Steps p.tables e below (T10.setTop (mkF m 67 #[.val (.int p1), .val (.long q2), .second, .val (.int p3), .val (.long q4), .second, .val (.long rq), .second, .val (.int pp), .val (.long mm), .second, .val (.ref (ad j)), .unset] [(.long mm), (.int pp), (.long rq)])) _
    exact k
  obtain ⟨_, _, ⟨T12, L12, k12, n12⟩, -, X12, ⟨Lc12, hQ12, l12, y12, z12⟩, st12⟩ := Jvm.LawKit.callS X10 hx (y := (⟨"com/example/jobwright/jobwright/workload/O2kJobsRatioPinLaw", "expectedRow", "(JIJ)I"⟩ : MethodName)) hown (mvT hZ (hw _ (List.mem_of_getElem? (i := 17) rfl))) (mvT hZ (hw _ (List.mem_of_getElem? (i := 18) rfl))) (mvT hZ (hw _ (List.mem_of_getElem? (i := 2) rfl))) (mvT hZ (hw _ (List.mem_of_getElem? (i := 19) rfl))) (by decide) (backOf (W := 0) (r4) hZ (hw _ (List.mem_of_getElem? (i := 19) rfl)) (hw _ (List.mem_of_getElem? (i := 2) rfl)) (by decide) (by decide)) (g := (mkF m 67 #[.val (.int p1), .val (.long q2), .second, .val (.int p3), .val (.long q4), .second, .val (.long rq), .second, .val (.int pp), .val (.long mm), .second, .val (.ref (ad j)), .unset] [(.long mm), (.int pp), (.long rq)])) rfl (by rw [hml]; rfl) (argsL := [(.long rq), (.int pp), (.long mm)]) (rest := []) (lenOf own_pd2 rfl) rfl (by show 2 * 0 + _ ≤ _; exact Nat.le_of_eq rfl) (hb hby at_67) (fun _ _ => ⟨rfl, eh3, (by decide : 0 + 0 ≤ _), (by decide : 0 + 0 ≤ _)⟩)
  dsimp only [Pt.U, Pt.locs, Pt.cells, Pt.slots] at X12 l12 y12 z12 st12 hQ12
  subst l12 y12 z12
  obtain ⟨rfl, Nq12, eh4⟩ := hQ12
  have N12 := Fr.app N10 Nq12
  have pre12 : ∀ t, Steps p.tables e below (T12.setTop (mkF m 70 #[.val (.int p1), .val (.long q2), .second, .val (.int p3), .val (.long q4), .second, .val (.long rq), .second, .val (.int pp), .val (.long mm), .second, .val (.ref (ad j)), .unset] [(.int (Int32.ofNat j))])) t → Steps p.tables e below (s₁.setTop (entryFrame m #[(.int p1), (.long q2), (.int p3), (.long q4)] maxLocals)) t := fun t k => pre11 t (st12 t k)
  have pre13 : ∀ t, Steps p.tables e below (T12.setTop (mkF m 74 #[.val (.int p1), .val (.long q2), .second, .val (.int p3), .val (.long q4), .second, .val (.long rq), .second, .val (.int pp), .val (.long mm), .second, .val (.ref (ad j)), .val (.int (Int32.ofNat j))] [(.ref (ad j))])) t → Steps p.tables e below (s₁.setTop (entryFrame m #[(.int p1), (.long q2), (.int p3), (.long q4)] maxLocals)) t := by
    intro t k
    refine pre12 _ ?_
    refine XS.istore X12.here hx rfl (hb hby at_70) rfl (l' := #[.val (.int p1), .val (.long q2), .second, .val (.int p3), .val (.long q4), .second, .val (.long rq), .second, .val (.int pp), .val (.long mm), .second, .val (.ref (ad j)), .val (.int (Int32.ofNat j))]) rfl ?_
    show Steps p.tables e below (T12.setTop (mkF m 72 #[.val (.int p1), .val (.long q2), .second, .val (.int p3), .val (.long q4), .second, .val (.long rq), .second, .val (.int pp), .val (.long mm), .second, .val (.ref (ad j)), .val (.int (Int32.ofNat j))] [])) _
    refine XS.aload X12.here hx rfl (hb hby at_72) rfl rfl ?_
    show Steps p.tables e below (T12.setTop (mkF m 74 #[.val (.int p1), .val (.long q2), .second, .val (.int p3), .val (.long q4), .second, .val (.long rq), .second, .val (.int pp), .val (.long mm), .second, .val (.ref (ad j)), .val (.int (Int32.ofNat j))] [(.ref (ad j))])) _
    exact k
  obtain ⟨cq14, kq14, q14a, q14b, q14c⟩ := isOf hZ eh4 (hE j hj)
  obtain ⟨_, _, ⟨T14, L14, k14, n14⟩, -, X14, ⟨Lc14, hQ14, l14, y14, z14⟩, st14⟩ := X12.virtualBack hx (y := (⟨"com/example/jobwright/jobwright/workload/O2kJobs$Ratio", "aboveShare", "()I"⟩ : MethodName)) (z := (⟨"com/example/jobwright/jobwright/workload/O2kJobs$Ratio", "aboveShare", "()I"⟩ : MethodName)) hown (mvT hZ (hw _ (List.mem_of_getElem? (i := 21) rfl))) (mvT hZ (hw _ (List.mem_of_getElem? (i := 22) rfl))) (notFace_of_selects (args := #[]) (mvT hZ (hw _ (List.mem_of_getElem? (i := 24) rfl)))) (mvT hZ (hw _ (List.mem_of_getElem? (i := 24) rfl))) (mvT hZ (hw _ (List.mem_of_getElem? (i := 23) rfl))) (by decide) (backOf (W := 0) (rm5 l Z a0 hw [] (ad j) (own_sh j) h0 n0 Z0 (hS j hj)) hZ (hw _ (List.mem_of_getElem? (i := 26) rfl)) (hw _ (List.mem_of_getElem? (i := 25) rfl)) (by decide) (by decide)) q14a q14c (g := (mkF m 74 #[.val (.int p1), .val (.long q2), .second, .val (.int p3), .val (.long q4), .second, .val (.long rq), .second, .val (.int pp), .val (.long mm), .second, .val (.ref (ad j)), .val (.int (Int32.ofNat j))] [(.ref (ad j))])) rfl (by rw [hml]; rfl) (Steps.refl _) (argsL := []) (rest := []) (lenOf own_pd3 rfl) rfl (by show 2 * 0 + _ ≤ _; exact Nat.le_of_eq rfl) (hb hby at_74) (fun _ _ => ⟨rfl, eh4, (by decide : 0 + 0 ≤ _), (by decide : 0 + 0 ≤ _)⟩)
  dsimp only [Pt.U, Pt.locs, Pt.cells, Pt.slots] at X14 l14 y14 z14 st14 hQ14
  subst l14 y14 z14
  obtain ⟨rfl, Nq14, eh5⟩ := hQ14
  have N14 := Fr.app N12 Nq14
  have pre14 : ∀ t, Steps p.tables e below (T14.setTop (mkF m 77 #[.val (.int p1), .val (.long q2), .second, .val (.int p3), .val (.long q4), .second, .val (.long rq), .second, .val (.int pp), .val (.long mm), .second, .val (.ref (ad j)), .val (.int (Int32.ofNat j))] [(.int (own_sh j))])) t → Steps p.tables e below (s₁.setTop (entryFrame m #[(.int p1), (.long q2), (.int p3), (.long q4)] maxLocals)) t := fun t k => pre13 t (st14.trans k)
  have pre15 : ∀ t, Steps p.tables e below (T14.setTop (mkF m 79 #[.val (.int p1), .val (.long q2), .second, .val (.int p3), .val (.long q4), .second, .val (.long rq), .second, .val (.int pp), .val (.long mm), .second, .val (.ref (ad j)), .val (.int (Int32.ofNat j))] [(.int (Int32.ofNat j)), (.int (own_sh j))])) t → Steps p.tables e below (s₁.setTop (entryFrame m #[(.int p1), (.long q2), (.int p3), (.long q4)] maxLocals)) t := by
    intro t k
    refine pre14 _ ?_
    refine XS.iload X14.here hx rfl (hb hby at_77) rfl ?_
    show Steps p.tables e below (T14.setTop (mkF m 79 #[.val (.int p1), .val (.long q2), .second, .val (.int p3), .val (.long q4), .second, .val (.long rq), .second, .val (.int pp), .val (.long mm), .second, .val (.ref (ad j)), .val (.int (Int32.ofNat j))] [(.int (Int32.ofNat j)), (.int (own_sh j))])) _
    exact k
  obtain ⟨_, _, ⟨T16, L16, k16, n16⟩, -, X16, ⟨Lc16, hQ16, l16, y16, z16⟩, st16⟩ := Jvm.LawKit.callS X14 hx (y := (⟨"com/example/jobwright/jobwright/workload/O2kJobsRatioPinLaw", "share", "(I)I"⟩ : MethodName)) hown (mvT hZ (hw _ (List.mem_of_getElem? (i := 29) rfl))) (mvT hZ (hw _ (List.mem_of_getElem? (i := 30) rfl))) (mvT hZ (hw _ (List.mem_of_getElem? (i := 2) rfl))) (mvT hZ (hw _ (List.mem_of_getElem? (i := 31) rfl))) (by decide) (backOf (W := 1) (rm6 l Z a0 hw [] (Int32.ofNat j) j h0 n0 Z0 hj (own_ofn j hj)) hZ (hw _ (List.mem_of_getElem? (i := 31) rfl)) (hw _ (List.mem_of_getElem? (i := 2) rfl)) (by decide) (by decide)) (g := (mkF m 79 #[.val (.int p1), .val (.long q2), .second, .val (.int p3), .val (.long q4), .second, .val (.long rq), .second, .val (.int pp), .val (.long mm), .second, .val (.ref (ad j)), .val (.int (Int32.ofNat j))] [(.int (Int32.ofNat j)), (.int (own_sh j))])) rfl (by rw [hml]; rfl) (argsL := [(.int (Int32.ofNat j))]) (rest := [(.int (own_sh j))]) (lenOf own_pd4 rfl) rfl (by show 2 * 0 + _ ≤ _; exact Nat.le_of_eq rfl) (hb hby at_79) (fun _ _ => ⟨rfl, eh5, (by decide : 0 + 0 ≤ _), (by decide : 0 + 0 ≤ _)⟩)
  dsimp only [Pt.U, Pt.locs, Pt.cells, Pt.slots] at X16 l16 y16 z16 st16 hQ16
  subst l16 y16 z16
  obtain ⟨rfl, Nq16, eh6⟩ := hQ16
  have N16 := Fr.app N14 Nq16
  have pre16 : ∀ t, Steps p.tables e below (T16.setTop (mkF m 82 #[.val (.int p1), .val (.long q2), .second, .val (.int p3), .val (.long q4), .second, .val (.long rq), .second, .val (.int pp), .val (.long mm), .second, .val (.ref (ad j)), .val (.int (Int32.ofNat j))] [(.int (own_sh j)), (.int (own_sh j))])) t → Steps p.tables e below (s₁.setTop (entryFrame m #[(.int p1), (.long q2), (.int p3), (.long q4)] maxLocals)) t := fun t k => pre15 t (st16 t k)
  have pre17 : ∀ t, Steps p.tables e below (T16.setTop (mkF m 87 #[.val (.int p1), .val (.long q2), .second, .val (.int p3), .val (.long q4), .second, .val (.long rq), .second, .val (.int pp), .val (.long mm), .second, .val (.ref (ad j)), .val (.int (Int32.ofNat j))] [(.ref (ad j))])) t → Steps p.tables e below (s₁.setTop (entryFrame m #[(.int p1), (.long q2), (.int p3), (.long q4)] maxLocals)) t := by
    intro t k
    refine pre16 _ ?_
    refine XS.icmpNo X16.here hx rfl (hb hby at_82) rfl (teq rfl).2 ?_
    show Steps p.tables e below (T16.setTop (mkF m 85 #[.val (.int p1), .val (.long q2), .second, .val (.int p3), .val (.long q4), .second, .val (.long rq), .second, .val (.int pp), .val (.long mm), .second, .val (.ref (ad j)), .val (.int (Int32.ofNat j))] [])) _
    refine XS.aload X16.here hx rfl (hb hby at_85) rfl rfl ?_
    show Steps p.tables e below (T16.setTop (mkF m 87 #[.val (.int p1), .val (.long q2), .second, .val (.int p3), .val (.long q4), .second, .val (.long rq), .second, .val (.int pp), .val (.long mm), .second, .val (.ref (ad j)), .val (.int (Int32.ofNat j))] [(.ref (ad j))])) _
    exact k
  obtain ⟨cq18, kq18, q18a, q18b, q18c⟩ := isOf hZ eh6 (hE j hj)
  obtain ⟨_, _, ⟨T18, L18, k18, n18⟩, -, X18, ⟨Lc18, hQ18, l18, y18, z18⟩, st18⟩ := X16.virtualBack hx (y := (⟨"com/example/jobwright/jobwright/workload/O2kJobs$Ratio", "excessMean", "()D"⟩ : MethodName)) (z := (⟨"com/example/jobwright/jobwright/workload/O2kJobs$Ratio", "excessMean", "()D"⟩ : MethodName)) hown (mvT hZ (hw _ (List.mem_of_getElem? (i := 32) rfl))) (mvT hZ (hw _ (List.mem_of_getElem? (i := 33) rfl))) (notFace_of_selects (args := #[]) (mvT hZ (hw _ (List.mem_of_getElem? (i := 35) rfl)))) (mvT hZ (hw _ (List.mem_of_getElem? (i := 35) rfl))) (mvT hZ (hw _ (List.mem_of_getElem? (i := 34) rfl))) (by decide) (backOf (W := 0) (rm7 l Z a0 hw [] (ad j) (own_em j) h0 n0 Z0 (hM j hj)) hZ (hw _ (List.mem_of_getElem? (i := 36) rfl)) (hw _ (List.mem_of_getElem? (i := 25) rfl)) (by decide) (by decide)) q18a q18c (g := (mkF m 87 #[.val (.int p1), .val (.long q2), .second, .val (.int p3), .val (.long q4), .second, .val (.long rq), .second, .val (.int pp), .val (.long mm), .second, .val (.ref (ad j)), .val (.int (Int32.ofNat j))] [(.ref (ad j))])) rfl (by rw [hml]; rfl) (Steps.refl _) (argsL := []) (rest := []) (lenOf own_pd5 rfl) rfl (by show 2 * 0 + _ ≤ _; exact Nat.le_of_eq rfl) (hb hby at_87) (fun _ _ => ⟨rfl, eh6, (by decide : 0 + 0 ≤ _), (by decide : 0 + 0 ≤ _)⟩)
  dsimp only [Pt.U, Pt.locs, Pt.cells, Pt.slots] at X18 l18 y18 z18 st18 hQ18
  subst l18 y18 z18
  obtain ⟨rfl, Nq18, eh7⟩ := hQ18
  have N18 := Fr.app N16 Nq18
  have pre18 : ∀ t, Steps p.tables e below (T18.setTop (mkF m 90 #[.val (.int p1), .val (.long q2), .second, .val (.int p3), .val (.long q4), .second, .val (.long rq), .second, .val (.int pp), .val (.long mm), .second, .val (.ref (ad j)), .val (.int (Int32.ofNat j))] [(.double (own_em j))])) t → Steps p.tables e below (s₁.setTop (entryFrame m #[(.int p1), (.long q2), (.int p3), (.long q4)] maxLocals)) t := fun t k => pre17 t (st18.trans k)
  have pre19 : ∀ t, Steps p.tables e below (T18.setTop (mkF m 93 #[.val (.int p1), .val (.long q2), .second, .val (.int p3), .val (.long q4), .second, .val (.long rq), .second, .val (.int pp), .val (.long mm), .second, .val (.ref (ad j)), .val (.int (Int32.ofNat j))] [(.double (4611686018427387904 : UInt64)), (.double (own_em j))])) t → Steps p.tables e below (s₁.setTop (entryFrame m #[(.int p1), (.long q2), (.int p3), (.long q4)] maxLocals)) t := by
    intro t k
    refine pre18 _ ?_
    refine X18.ldc2DoubleC hx hown (mvT hZ (hw _ (List.mem_of_getElem? (i := 39) rfl))) (g := (mkF m 90 #[.val (.int p1), .val (.long q2), .second, .val (.int p3), .val (.long q4), .second, .val (.long rq), .second, .val (.int pp), .val (.long mm), .second, .val (.ref (ad j)), .val (.int (Int32.ofNat j))] [(.double (own_em j))])) rfl (hb hby at_90) _ ?_
    show Steps p.tables e below (T18.setTop (mkF m 93 #[.val (.int p1), .val (.long q2), .second, .val (.int p3), .val (.long q4), .second, .val (.long rq), .second, .val (.int pp), .val (.long mm), .second, .val (.ref (ad j)), .val (.int (Int32.ofNat j))] [(.double (4611686018427387904 : UInt64)), (.double (own_em j))])) _
    exact k
  rcases own_cmp j hj with ⟨hj1, hcv⟩ | ⟨hj1, hcv⟩
  · have pre20 : ∀ t, Steps p.tables e below (T18.setTop (mkF m 105 #[.val (.int p1), .val (.long q2), .second, .val (.int p3), .val (.long q4), .second, .val (.long rq), .second, .val (.int pp), .val (.long mm), .second, .val (.ref (ad j)), .val (.int (Int32.ofNat j))] [(.int (1 : Int32)), (.int (Int32.ofNat j)), (.int (1 : Int32))])) t → Steps p.tables e below (s₁.setTop (entryFrame m #[(.int p1), (.long q2), (.int p3), (.long q4)] maxLocals)) t := by
      intro t k
      refine pre19 _ ?_
      refine XS.dcmpS X18.here hx rfl (hb hby at_93) rfl hcv ?_
      show Steps p.tables e below (T18.setTop (mkF m 94 #[.val (.int p1), .val (.long q2), .second, .val (.int p3), .val (.long q4), .second, .val (.long rq), .second, .val (.int pp), .val (.long mm), .second, .val (.ref (ad j)), .val (.int (Int32.ofNat j))] [(.int (1 : Int32))])) _
      refine XS.ifNo X18.here hx rfl (hb hby at_94) rfl ((if0 _ _).trans (tlt (by decide)).2.2.2) ?_
      show Steps p.tables e below (T18.setTop (mkF m 97 #[.val (.int p1), .val (.long q2), .second, .val (.int p3), .val (.long q4), .second, .val (.long rq), .second, .val (.int pp), .val (.long mm), .second, .val (.ref (ad j)), .val (.int (Int32.ofNat j))] [])) _
      refine XS.iconst X18.here hx rfl (hb hby at_97) ?_
      show Steps p.tables e below (T18.setTop (mkF m 98 #[.val (.int p1), .val (.long q2), .second, .val (.int p3), .val (.long q4), .second, .val (.long rq), .second, .val (.int pp), .val (.long mm), .second, .val (.ref (ad j)), .val (.int (Int32.ofNat j))] [(.int (1 : Int32))])) _
      refine XS.goto X18.here hx rfl (pc0 := 98) (pc' := 102) rfl (hb hby at_98) (by decide) (by decide) ?_
      show Steps p.tables e below (T18.setTop (mkF m 102 #[.val (.int p1), .val (.long q2), .second, .val (.int p3), .val (.long q4), .second, .val (.long rq), .second, .val (.int pp), .val (.long mm), .second, .val (.ref (ad j)), .val (.int (Int32.ofNat j))] [(.int (1 : Int32))])) _
      refine XS.iload X18.here hx rfl (hb hby at_102) rfl ?_
      show Steps p.tables e below (T18.setTop (mkF m 104 #[.val (.int p1), .val (.long q2), .second, .val (.int p3), .val (.long q4), .second, .val (.long rq), .second, .val (.int pp), .val (.long mm), .second, .val (.ref (ad j)), .val (.int (Int32.ofNat j))] [(.int (Int32.ofNat j)), (.int (1 : Int32))])) _
      refine XS.iconst X18.here hx rfl (hb hby at_104) ?_
      show Steps p.tables e below (T18.setTop (mkF m 105 #[.val (.int p1), .val (.long q2), .second, .val (.int p3), .val (.long q4), .second, .val (.long rq), .second, .val (.int pp), .val (.long mm), .second, .val (.ref (ad j)), .val (.int (Int32.ofNat j))] [(.int (1 : Int32)), (.int (Int32.ofNat j)), (.int (1 : Int32))])) _
      exact k
    have hq : ¬ (1 : Int32) < (Int32.ofNat j) := by
      rw [own_lt, own_ofn j hj]; have e1 : (1 : Int32).toInt = 1 := rfl; omega
    have pre21 : ∀ t, Steps p.tables e below (T18.setTop (mkF m 121 #[.val (.int p1), .val (.long q2), .second, .val (.int p3), .val (.long q4), .second, .val (.long rq), .second, .val (.int pp), .val (.long mm), .second, .val (.ref (ad j)), .val (.int (Int32.ofNat j))] [(.int (1 : Int32))])) t → Steps p.tables e below (s₁.setTop (entryFrame m #[(.int p1), (.long q2), (.int p3), (.long q4)] maxLocals)) t := by
      intro t k
      refine pre20 _ ?_
      refine XS.icmpNo X18.here hx rfl (hb hby at_105) rfl (flt hq).2.2.1 ?_
      show Steps p.tables e below (T18.setTop (mkF m 108 #[.val (.int p1), .val (.long q2), .second, .val (.int p3), .val (.long q4), .second, .val (.long rq), .second, .val (.int pp), .val (.long mm), .second, .val (.ref (ad j)), .val (.int (Int32.ofNat j))] [(.int (1 : Int32))])) _
      refine XS.iconst X18.here hx rfl (hb hby at_108) ?_
      show Steps p.tables e below (T18.setTop (mkF m 109 #[.val (.int p1), .val (.long q2), .second, .val (.int p3), .val (.long q4), .second, .val (.long rq), .second, .val (.int pp), .val (.long mm), .second, .val (.ref (ad j)), .val (.int (Int32.ofNat j))] [(.int (1 : Int32)), (.int (1 : Int32))])) _
      refine XS.goto X18.here hx rfl (pc0 := 109) (pc' := 113) rfl (hb hby at_109) (by decide) (by decide) ?_
      show Steps p.tables e below (T18.setTop (mkF m 113 #[.val (.int p1), .val (.long q2), .second, .val (.int p3), .val (.long q4), .second, .val (.long rq), .second, .val (.int pp), .val (.long mm), .second, .val (.ref (ad j)), .val (.int (Int32.ofNat j))] [(.int (1 : Int32)), (.int (1 : Int32))])) _
      refine XS.icmpNo X18.here hx rfl (hb hby at_113) rfl (teq rfl).2 ?_
      show Steps p.tables e below (T18.setTop (mkF m 116 #[.val (.int p1), .val (.long q2), .second, .val (.int p3), .val (.long q4), .second, .val (.long rq), .second, .val (.int pp), .val (.long mm), .second, .val (.ref (ad j)), .val (.int (Int32.ofNat j))] [])) _
      refine XS.iconst X18.here hx rfl (hb hby at_116) ?_
      show Steps p.tables e below (T18.setTop (mkF m 117 #[.val (.int p1), .val (.long q2), .second, .val (.int p3), .val (.long q4), .second, .val (.long rq), .second, .val (.int pp), .val (.long mm), .second, .val (.ref (ad j)), .val (.int (Int32.ofNat j))] [(.int (1 : Int32))])) _
      refine XS.goto X18.here hx rfl (pc0 := 117) (pc' := 121) rfl (hb hby at_117) (by decide) (by decide) ?_
      show Steps p.tables e below (T18.setTop (mkF m 121 #[.val (.int p1), .val (.long q2), .second, .val (.int p3), .val (.long q4), .second, .val (.long rq), .second, .val (.int pp), .val (.long mm), .second, .val (.ref (ad j)), .val (.int (Int32.ofNat j))] [(.int (1 : Int32))])) _
      exact k
    obtain ⟨fs, hr, hrun, hended, hW, hsame⟩ := X18.leave (v := some (.int (1 : Int32))) (fun h => by rw [Bd.returns] at h; cases h)
    refine ⟨_, _, pre21 _ ?_, hrun, hended, _, _, rfl, ?_, ⟨_, rfl⟩, hW, hsame.mono (by decide) (by decide)⟩
    · exact retN X18 hx (t := .boolean) Bd.returns (by simp) (hb hby at_121) hr
    · show ((_ : Option Value) = some (.int 1) ∧ Fr n0 _)
      exact ⟨rfl, N18⟩
  · have pre22 : ∀ t, Steps p.tables e below (T18.setTop (mkF m 105 #[.val (.int p1), .val (.long q2), .second, .val (.int p3), .val (.long q4), .second, .val (.long rq), .second, .val (.int pp), .val (.long mm), .second, .val (.ref (ad j)), .val (.int (Int32.ofNat j))] [(.int (1 : Int32)), (.int (Int32.ofNat j)), (.int (0 : Int32))])) t → Steps p.tables e below (s₁.setTop (entryFrame m #[(.int p1), (.long q2), (.int p3), (.long q4)] maxLocals)) t := by
      intro t k
      refine pre19 _ ?_
      refine XS.dcmpS X18.here hx rfl (hb hby at_93) rfl hcv ?_
      show Steps p.tables e below (T18.setTop (mkF m 94 #[.val (.int p1), .val (.long q2), .second, .val (.int p3), .val (.long q4), .second, .val (.long rq), .second, .val (.int pp), .val (.long mm), .second, .val (.ref (ad j)), .val (.int (Int32.ofNat j))] [(.int (-1 : Int32))])) _
      refine XS.ifYes X18.here hx rfl (pc0 := 94) (pc' := 101) rfl (hb hby at_94) rfl ((if0 _ _).trans (flt (by decide)).2.2.2) (by decide) (by decide) ?_
      show Steps p.tables e below (T18.setTop (mkF m 101 #[.val (.int p1), .val (.long q2), .second, .val (.int p3), .val (.long q4), .second, .val (.long rq), .second, .val (.int pp), .val (.long mm), .second, .val (.ref (ad j)), .val (.int (Int32.ofNat j))] [])) _
      refine XS.iconst X18.here hx rfl (hb hby at_101) ?_
      show Steps p.tables e below (T18.setTop (mkF m 102 #[.val (.int p1), .val (.long q2), .second, .val (.int p3), .val (.long q4), .second, .val (.long rq), .second, .val (.int pp), .val (.long mm), .second, .val (.ref (ad j)), .val (.int (Int32.ofNat j))] [(.int (0 : Int32))])) _
      refine XS.iload X18.here hx rfl (hb hby at_102) rfl ?_
      show Steps p.tables e below (T18.setTop (mkF m 104 #[.val (.int p1), .val (.long q2), .second, .val (.int p3), .val (.long q4), .second, .val (.long rq), .second, .val (.int pp), .val (.long mm), .second, .val (.ref (ad j)), .val (.int (Int32.ofNat j))] [(.int (Int32.ofNat j)), (.int (0 : Int32))])) _
      refine XS.iconst X18.here hx rfl (hb hby at_104) ?_
      show Steps p.tables e below (T18.setTop (mkF m 105 #[.val (.int p1), .val (.long q2), .second, .val (.int p3), .val (.long q4), .second, .val (.long rq), .second, .val (.int pp), .val (.long mm), .second, .val (.ref (ad j)), .val (.int (Int32.ofNat j))] [(.int (1 : Int32)), (.int (Int32.ofNat j)), (.int (0 : Int32))])) _
      exact k
    have hq : (1 : Int32) < (Int32.ofNat j) := by
      rw [own_lt, own_ofn j hj]; have e1 : (1 : Int32).toInt = 1 := rfl; omega
    have pre23 : ∀ t, Steps p.tables e below (T18.setTop (mkF m 121 #[.val (.int p1), .val (.long q2), .second, .val (.int p3), .val (.long q4), .second, .val (.long rq), .second, .val (.int pp), .val (.long mm), .second, .val (.ref (ad j)), .val (.int (Int32.ofNat j))] [(.int (1 : Int32))])) t → Steps p.tables e below (s₁.setTop (entryFrame m #[(.int p1), (.long q2), (.int p3), (.long q4)] maxLocals)) t := by
      intro t k
      refine pre22 _ ?_
      refine XS.icmpYes X18.here hx rfl (pc0 := 105) (pc' := 112) rfl (hb hby at_105) rfl (tlt hq).2.2.1 (by decide) (by decide) ?_
      show Steps p.tables e below (T18.setTop (mkF m 112 #[.val (.int p1), .val (.long q2), .second, .val (.int p3), .val (.long q4), .second, .val (.long rq), .second, .val (.int pp), .val (.long mm), .second, .val (.ref (ad j)), .val (.int (Int32.ofNat j))] [(.int (0 : Int32))])) _
      refine XS.iconst X18.here hx rfl (hb hby at_112) ?_
      show Steps p.tables e below (T18.setTop (mkF m 113 #[.val (.int p1), .val (.long q2), .second, .val (.int p3), .val (.long q4), .second, .val (.long rq), .second, .val (.int pp), .val (.long mm), .second, .val (.ref (ad j)), .val (.int (Int32.ofNat j))] [(.int (0 : Int32)), (.int (0 : Int32))])) _
      refine XS.icmpNo X18.here hx rfl (hb hby at_113) rfl (teq rfl).2 ?_
      show Steps p.tables e below (T18.setTop (mkF m 116 #[.val (.int p1), .val (.long q2), .second, .val (.int p3), .val (.long q4), .second, .val (.long rq), .second, .val (.int pp), .val (.long mm), .second, .val (.ref (ad j)), .val (.int (Int32.ofNat j))] [])) _
      refine XS.iconst X18.here hx rfl (hb hby at_116) ?_
      show Steps p.tables e below (T18.setTop (mkF m 117 #[.val (.int p1), .val (.long q2), .second, .val (.int p3), .val (.long q4), .second, .val (.long rq), .second, .val (.int pp), .val (.long mm), .second, .val (.ref (ad j)), .val (.int (Int32.ofNat j))] [(.int (1 : Int32))])) _
      refine XS.goto X18.here hx rfl (pc0 := 117) (pc' := 121) rfl (hb hby at_117) (by decide) (by decide) ?_
      show Steps p.tables e below (T18.setTop (mkF m 121 #[.val (.int p1), .val (.long q2), .second, .val (.int p3), .val (.long q4), .second, .val (.long rq), .second, .val (.int pp), .val (.long mm), .second, .val (.ref (ad j)), .val (.int (Int32.ofNat j))] [(.int (1 : Int32))])) _
      exact k
    obtain ⟨fs, hr, hrun, hended, hW, hsame⟩ := X18.leave (v := some (.int (1 : Int32))) (fun h => by rw [Bd.returns] at h; cases h)
    refine ⟨_, _, pre23 _ ?_, hrun, hended, _, _, rfl, ?_, ⟨_, rfl⟩, hW, hsame.mono (by decide) (by decide)⟩
    · exact retN X18 hx (t := .boolean) Bd.returns (by simp) (hb hby at_121) hr
    · show ((_ : Option Value) = some (.int 1) ∧ Fr n0 _)
      exact ⟨rfl, N18⟩
set_option maxRecDepth 65536 in
set_option maxHeartbeats 40000000 in
theorem comes_1 {Post : Tables → Env → Array Value → State → Outcome → State → Prop} (hpost : ∀ tb e args s v u, (limb_1_1.after args s (.returned v) u = true ∧ limb_1_2.after args s (.returned v) u = true ∧ True) → FrameEnd s (.returned v) u (Jvm.fieldLocs frame_1_writes args s ++ Jvm.arrayLocs frame_1_arrays args s ++ Jvm.staticLocs frame_1_statics s) 0 0 → Post tb e args s (.returned v) u) :
    ArmFor flags0 classFile x code maxLocals ret World_1 tables_1 room_1 Calls_1 rest_1 Pre_1 Post := by
  intro l hfl _ _ p e ha hc hk s m args below hf hA hF happ hP
  obtain ⟨hcalls, hrest, hpre⟩ := hP
  obtain ⟨-, -, -, hnamed, -, -, -, hat⟩ := (Spec.applies_iff hf).mp happ
  obtain ⟨hg, hn⟩ := and_e (Cond.before_iff.mp (show (Jvm.Cond.and given_1 narrow_1).before args s = true from hpre))
  obtain ⟨g1, g2⟩ := and_e hg
  obtain ⟨g3, g4⟩ := and_e g2
  obtain ⟨g5, g6⟩ := and_e g4
  obtain ⟨g7, g8⟩ := and_e g6
  obtain ⟨w0, w1, w2, w3, rfl⟩ : ∃ w0 w1 w2 w3 : Value, args = #[w0, w1, w2, w3] := by
    have hs : args.size = 4 := by simpa [Cond.value, given_1] using g1
    obtain ⟨L⟩ := args
    match L, hs with
    | [w0, w1, w2, w3], _ => exact ⟨w0, w1, w2, w3, rfl⟩
  have hw := fun d (hd : d ∈ tables_1) => atoms_spec (ws := Jvm.Cond.code x code maxLocals ret :: tables_1) hat d (List.mem_cons_of_mem _ hd)
  have hfit : Fit s := fun {y c} hc i hi => by
    obtain ⟨ha, rfl⟩ := Array.getElem?_eq_some_iff.mp hc
    have q := List.all_eq_true.mp ((Array.all_eq_true_iff_forall_mem.mp hF) _ (Array.getElem_mem ha)) i (List.mem_range.mpr hi)
    simpa [Array.getElem?_eq_getElem hi] using q
  obtain ⟨i0, ei0⟩ := is_v g3
  obtain rfl : w0 = (.int i0) := Option.some.inj ei0
  obtain ⟨i1, ei1⟩ := isL_v g5
  obtain rfl : w1 = (.long i1) := Option.some.inj ei1
  obtain ⟨i2, ei2⟩ := is_v g7
  obtain rfl : w2 = (.int i2) := Option.some.inj ei2
  obtain ⟨i3, ei3⟩ := isL_v g8
  obtain rfl : w3 = (.long i3) := Option.some.inj ei3
  obtain ⟨hn1a, hn1b⟩ := and_e hn
  obtain ⟨hn2a, hn2b⟩ := and_e hn1b
  obtain ⟨hn3a, hn3b⟩ := and_e hn2b
  obtain ⟨hn4a, hn4b⟩ := and_e hn3b
  obtain ⟨hn5a, hn5b⟩ := and_e hn4b
  obtain ⟨hn6a, hn6b⟩ := and_e hn5b
  obtain ⟨hn7a, hn7b⟩ := and_e hn6b
  obtain ⟨hn8a, hn8b⟩ := and_e hn7b
  obtain ⟨hn9a, hn9b⟩ := and_e hn8b
  obtain ⟨hn10a, hn10b⟩ := and_e hn9b
  obtain ⟨hn11a, hn11b⟩ := and_e hn10b
  obtain ⟨hn12a, hn12b⟩ := and_e hn11b
  obtain ⟨hn13a, hn13b⟩ := and_e hn12b
  obtain ⟨hn14a, hn14b⟩ := and_e hn13b
  obtain ⟨hn15a, hn15b⟩ := and_e hn14b
  obtain ⟨hn16a, hn16b⟩ := and_e hn15b
  obtain ⟨hn17a, hn17b⟩ := and_e hn16b
  obtain ⟨hn18a, hn18b⟩ := and_e hn17b
  obtain ⟨hn19a, hn19b⟩ := and_e hn18b
  obtain ⟨hn20a, hn20b⟩ := and_e hn19b
  obtain ⟨hn21a, hn21b⟩ := and_e hn20b
  obtain ⟨hn22a, hn22b⟩ := and_e hn21b
  obtain ⟨hn23a, hn23b⟩ := and_e hn22b
  obtain ⟨hn24a, hn24b⟩ := and_e hn23b
  obtain ⟨hn25a, hn25b⟩ := and_e hn24b
  obtain ⟨hn26a, hn26b⟩ := and_e hn25b
  obtain ⟨hn27a, hn27b⟩ := and_e hn26b
  obtain ⟨hn28a, hn28b⟩ := and_e hn27b
  obtain ⟨hn29a, hn29b⟩ := and_e hn28b
  obtain ⟨hn30a, hn30b⟩ := and_e hn29b
  obtain ⟨hn31a, hn31b⟩ := and_e hn30b
  obtain ⟨hn32a, hn32b⟩ := and_e hn31b
  obtain ⟨hn33a, hn33b⟩ := and_e hn32b
  obtain ⟨hn34a, hn34b⟩ := and_e hn33b
  obtain ⟨hn35a, hn35b⟩ := and_e hn34b
  obtain ⟨hn36a, hn36b⟩ := and_e hn35b
  obtain ⟨hn37a, hn37b⟩ := and_e hn36b
  obtain ⟨hn38a, hn38b⟩ := and_e hn37b
  obtain ⟨hn39a, hn39b⟩ := and_e hn38b
  obtain ⟨hn40a, hn40b⟩ := and_e hn39b
  obtain ⟨hn41a, hn41b⟩ := and_e hn40b
  obtain ⟨hn42a, hn42b⟩ := and_e hn41b
  obtain ⟨hn43a, hn43b⟩ := and_e hn42b
  obtain ⟨ra, evR⟩ := arr_v hn1a
  obtain ⟨cr, aR⟩ := Arr.start evR hn1a
  obtain ⟨da, evD⟩ := arr_v hn6a
  obtain ⟨cd, aD⟩ := Arr.start evD hn6a
  have sR := Sta.start evR (Or.inr ⟨(hw _ (List.mem_of_getElem? (i := 11) rfl)), (hw _ (List.mem_of_getElem? (i := 16) rfl))⟩)
  have sD := Sta.start evD (Or.inr ⟨(hw _ (List.mem_of_getElem? (i := 11) rfl)), (hw _ (List.mem_of_getElem? (i := 43) rfl))⟩)
  obtain ⟨o0, ev0, s0, E0⟩ := own_er (k := 0) rfl evR aR.1 hn27a
  have F0 := own_fi ev0 hn28a
  have G0 := own_fd (u := 4631538448534790472) (by decide) ev0 hn29a
  obtain ⟨o1, ev1, s1, E1⟩ := own_er (k := 1) rfl evR aR.1 hn3a
  have F1 := own_fi ev1 hn4a
  have G1 := own_fd (u := 4616200877053826826) (by decide) ev1 hn5a
  obtain ⟨o2, ev2, s2, E2⟩ := own_er (k := 2) rfl evR aR.1 hn18a
  have F2 := own_fi ev2 hn19a
  have G2 := own_fd (u := 4604480259023595110) (by decide) ev2 hn20a
  obtain ⟨o3, ev3, s3, E3⟩ := own_er (k := 3) rfl evR aR.1 hn39a
  have F3 := own_fi ev3 hn41a
  have G3 := own_fd (u := 4605020690978879570) (by decide) ev3 hn42a
  obtain ⟨o4, ev4, s4, E4⟩ := own_er (k := 4) rfl evR aR.1 hn30a
  have F4 := own_fi ev4 hn31a
  have G4 := own_fd (u := 4602318531202457272) (by decide) ev4 hn32a
  obtain ⟨o5, ev5, s5, E5⟩ := own_er (k := 5) rfl evR aR.1 hn24a
  have F5 := own_fi ev5 hn25a
  have G5 := own_fd (u := 4598535507515466056) (by decide) ev5 hn26a
  obtain ⟨o6, ev6, s6, E6⟩ := own_er (k := 6) rfl evR aR.1 hn40a
  have F6 := own_fi ev6 hn43a
  have G6 := own_fd (u := 4596734067664517856) (by decide) ev6 hn43b
  obtain ⟨o7, ev7, s7, E7⟩ := own_er (k := 7) rfl evR aR.1 hn36a
  have F7 := own_fi ev7 hn37a
  have G7 := own_fd (u := 4593851763903000736) (by decide) ev7 hn38a
  obtain ⟨o8, ev8, s8, E8⟩ := own_er (k := 8) rfl evR aR.1 hn15a
  have F8 := own_fi ev8 hn16a
  have G8 := own_fd (u := 4581421828931458176) (by decide) ev8 hn17a
  obtain ⟨o9, ev9, s9, E9⟩ := own_er (k := 9) rfl evR aR.1 hn33a
  have F9 := own_fi ev9 hn34a
  have G9 := own_fd (u := 4581421828931458176) (by decide) ev9 hn35a
  obtain ⟨o10, ev10, s10, E10⟩ := own_er (k := 10) rfl evR aR.1 hn21a
  have F10 := own_fi ev10 hn22a
  have G10 := own_fd (u := 4587366580439587232) (by decide) ev10 hn23a
  obtain ⟨o11, ev11, s11, E11⟩ := own_er (k := 11) rfl evR aR.1 hn12a
  have F11 := own_fi ev11 hn13a
  have G11 := own_fd (u := 4585925428558828672) (by decide) ev11 hn14a
  have d0 := own_el (k := 0) rfl evD aD.1 hn8a
  have d1 := own_el (k := 1) rfl evD aD.1 hn9a
  have d2 := own_el (k := 2) rfl evD aD.1 hn10a
  have d3 := own_el (k := 3) rfl evD aD.1 hn11a
  obtain ⟨ad, hE, eR, hS, hM⟩ : ∃ ad : Nat → Addr, (∀ k, k < 12 → Exa s s.heap (ad k) "com/example/jobwright/jobwright/workload/O2kJobs$Ratio") ∧ (∀ k, k < 12 → cr.slots[k]? = some (.ref (ad k))) ∧ (∀ k, k < 12 → Fld s s.heap (ad k) "com/example/jobwright/jobwright/workload/O2kJobs$Ratio" "aboveShare" "I" (.int (own_sh k))) ∧ (∀ k, k < 12 → Fld s s.heap (ad k) "com/example/jobwright/jobwright/workload/O2kJobs$Ratio" "excessMean" "D" (.double (own_em k))) := by
    refine ⟨fun k => [o0, o1, o2, o3, o4, o5, o6, o7, o8, o9, o10, o11].getD k 0, ?_, ?_, ?_, ?_⟩
    · intro k hk
      match k, hk with
      | 0, _ => exact E0
      | 1, _ => exact E1
      | 2, _ => exact E2
      | 3, _ => exact E3
      | 4, _ => exact E4
      | 5, _ => exact E5
      | 6, _ => exact E6
      | 7, _ => exact E7
      | 8, _ => exact E8
      | 9, _ => exact E9
      | 10, _ => exact E10
      | 11, _ => exact E11
      | n + 12, h => exact absurd h (by omega)
    · intro k hk
      match k, hk with
      | 0, _ => exact s0
      | 1, _ => exact s1
      | 2, _ => exact s2
      | 3, _ => exact s3
      | 4, _ => exact s4
      | 5, _ => exact s5
      | 6, _ => exact s6
      | 7, _ => exact s7
      | 8, _ => exact s8
      | 9, _ => exact s9
      | 10, _ => exact s10
      | 11, _ => exact s11
      | n + 12, h => exact absurd h (by omega)
    · intro k hk
      match k, hk with
      | 0, _ => exact F0
      | 1, _ => exact F1
      | 2, _ => exact F2
      | 3, _ => exact F3
      | 4, _ => exact F4
      | 5, _ => exact F5
      | 6, _ => exact F6
      | 7, _ => exact F7
      | 8, _ => exact F8
      | 9, _ => exact F9
      | 10, _ => exact F10
      | 11, _ => exact F11
      | n + 12, h => exact absurd h (by omega)
    · intro k hk
      match k, hk with
      | 0, _ => exact G0
      | 1, _ => exact G1
      | 2, _ => exact G2
      | 3, _ => exact G3
      | 4, _ => exact G4
      | 5, _ => exact G5
      | 6, _ => exact G6
      | 7, _ => exact G7
      | 8, _ => exact G8
      | 9, _ => exact G9
      | 10, _ => exact G10
      | 11, _ => exact G11
      | n + 12, h => exact absurd h (by omega)
  have eD : ∀ k, k < 4 → cd.slots[k]? = some (.long (own_df k)) := by
    intro k hk
    match k, hk with
    | 0, _ => exact d0
    | 1, _ => exact d1
    | 2, _ => exact d2
    | 3, _ => exact d3
    | n + 4, h => exact absurd h (by omega)
  obtain ⟨n, o, h1, h2, h3, _, L, rfl, ⟨rfl, N⟩, hq⟩ := rm0 l s _ hw tables_1 i0 i1 i2 i3 ra da cr cd ad s.heap s.heap.size (Nat.le_refl _) sR sD aR aD eR eD hE hS hM p e ha hc hk s m _ below hf ((Spec.applies_iff_loose hf).mp happ).1 ⟨rfl, State.Warmed39.refl s, rfl⟩ trivial
  refine ⟨n, _, h1, h2, h3, hpost _ _ _ _ _ _ ⟨Cond.after_iff.mpr rfl, Cond.after_iff.mpr (eq_i res_at (Term.int_eval (1)) rfl), trivial⟩ ⟨hq.1, hq.2.1, (hq.2.2.sift fun y hy => Or.inr (N y hy)).mono (by decide) (by decide)⟩⟩
theorem main_1_1 : Claimed_1_1 := comes_1 fun _ _ _ _ _ _ h hF => ⟨h.1, hF⟩
theorem main_1_2 : Claimed_1_2 := comes_1 fun _ _ _ _ _ _ h hF => ⟨h.2.1, hF⟩
end Jvm.Pilot.@@N@@
namespace Jvm.Pilot.@@N@@
open Jvm Jvm.ClassFile Sem Op Lib Jvm.Free Jvm.Stand Jvm.Pilot.@@N@@.Jvm.D
/-! MADE BY PROGRAM (witnessworld.py) out of the Statement's table words and the real class files: 14 classes; the members and pool entries that the words name. The judged class is class 1, her method 1. -/
namespace start1
open Jvm.ClassFile
def u (s : String) : CpInfo := .utf8 (stringToUtf16 s)
/-- a pool by its gaps: so many unusable entries, then the entry; so many at the end -/
def gap : Nat → List CpInfo → List CpInfo
  | 0, r => r
  | n + 1, r => .unusable :: gap n r
def poolList (es : List (Nat × CpInfo)) (last : Nat) : List CpInfo := es.foldr (fun e r => gap e.1 (e.2 :: r)) (gap last [])
def pool (es : List (Nat × CpInfo)) (last : Nat) : Array CpInfo := ⟨poolList es last⟩
def fileOf (pool : Array CpInfo) (this : Nat) (attrs : Array Attribute := #[]) (ms : Array MethodInfo := #[]) (fl : Nat := 33) (sup : Nat := 0) (ifs : Array Nat := #[]) (fds : Array FieldInfo := #[]) : ClassFile where
  minorVersion := 0
  majorVersion := 65
  constantPool := pool
  accessFlags := fl
  thisClass := this
  superClass := sup
  interfaces := ifs
  fields := fds
  methods := ms
  attributes := attrs
def plain (name : String) (sup : Option ClassId) : Class where
  name := name
  kind := .ordinary
  loader := none
  accessFlags := 33
  super := sup
  interfaces := #[]
  cf := none
  fields := #[]
  methods := #[]
  instanceTypes := #[]
  staticTypes := #[]
  resolved := #[]
  callSites := []
  init := .initialized
  statics := none
  mirror := none

def pool0 : Array CpInfo := pool [(5, u "<init>"), (0, u "()V"), (1, .class_ 10), (1, u "java/lang/Object")] 113

def k0m0 : Method := { name := "<init>", desc := "()V", sig := { parameters := [], returnType := none }, accessFlags := 1, code := none }
/-- java/lang/Object -/
def k0 : Class := { plain "java/lang/Object" none with
  accessFlags := 33
  interfaces := #[]
  cf := some (fileOf pool0 8 #[] #[{ accessFlags := 1, nameIndex := 5, descriptorIndex := 6, attributes := #[] }] 33 0 #[] #[])
  fields := #[]
  methods := #[k0m0]
  instanceTypes := #[]
  staticTypes := #[]
  resolved := Array.replicate 124 none
  statics := none }

def pool1 : Array CpInfo := pool [(2, .class_ 4), (1, u "java/lang/Object"), (0, u "<init>"), (0, u "()V"), (0, .methodref 8 9), (0, .class_ 10), (0, .nameAndType 11 12), (0, u "com/example/jobwright/jobwright/workload/O2kJobsRatioPinLaw"), (0, u "pickRequest"), (0, u "(IJ)J"), (0, .methodref 8 14), (0, .nameAndType 15 12), (0, u "pickMemory"), (0, .methodref 17 18), (0, .class_ 19), (0, .nameAndType 20 21), (0, u "com/example/jobwright/jobwright/workload/O2kJobs"), (0, u "ratio"), (0, u "(JIJ)Lcom/example/jobwright/jobwright/workload/O2kJobs$Ratio;"), (0, .methodref 8 23), (0, .nameAndType 24 25), (0, u "expectedRow"), (0, u "(JIJ)I"), (0, .methodref 27 28), (0, .class_ 29), (0, .nameAndType 30 31), (0, u "com/example/jobwright/jobwright/workload/O2kJobs$Ratio"), (0, u "aboveShare"), (0, u "()I"), (0, .methodref 8 33), (0, .nameAndType 34 35), (0, u "share"), (0, u "(I)I"), (0, .methodref 27 37), (0, .nameAndType 38 39), (0, u "excessMean"), (0, u "()D"), (0, .double 4611686018427387904), (1, .long 3), (1, .long 60), (1, .long 600), (1, .long 18000), (1, .long 180000), (1, .long 720000), (1, .long 1440000), (1, .long 4194303), (1, .long 131072), (1, .long 4194304), (1, .long 16777215), (3, u "law"), (0, u "(IJIJ)Z")] 5

def k1m0 : Method := { name := "<init>", desc := "()V", sig := { parameters := [], returnType := none }, accessFlags := 1, code := none }
def k1c1 : Code := { maxStack := 5, maxLocals := 13, code := code, exceptionTable := #[], attributes := #[] }
def k1m1 : Method := { name := "law", desc := "(IJIJ)Z", sig := { parameters := [.int, .long, .int, .long], returnType := some .boolean }, accessFlags := 9, code := some k1c1 }
def k1c2 : Code := { maxStack := 4, maxLocals := 5, code := method_3_code, exceptionTable := #[], attributes := #[] }
def k1m2 : Method := { name := "pickRequest", desc := "(IJ)J", sig := { parameters := [.int, .long], returnType := some .long }, accessFlags := 10, code := some k1c2 }
def k1c3 : Code := { maxStack := 4, maxLocals := 5, code := method_4_code, exceptionTable := #[], attributes := #[] }
def k1m3 : Method := { name := "pickMemory", desc := "(IJ)J", sig := { parameters := [.int, .long], returnType := some .long }, accessFlags := 10, code := some k1c3 }
def k1c4 : Code := { maxStack := 4, maxLocals := 5, code := method_5_code, exceptionTable := #[], attributes := #[] }
def k1m4 : Method := { name := "expectedRow", desc := "(JIJ)I", sig := { parameters := [.long, .int, .long], returnType := some .int }, accessFlags := 10, code := some k1c4 }
def k1c5 : Code := { maxStack := 2, maxLocals := 1, code := method_6_code, exceptionTable := #[], attributes := #[] }
def k1m5 : Method := { name := "share", desc := "(I)I", sig := { parameters := [.int], returnType := some .int }, accessFlags := 10, code := some k1c5 }
/-- com/example/jobwright/jobwright/workload/O2kJobsRatioPinLaw -/
def k1 : Class := { plain "com/example/jobwright/jobwright/workload/O2kJobsRatioPinLaw" (some 0) with
  accessFlags := 49
  interfaces := #[]
  cf := some (fileOf pool1 8 #[] #[{ accessFlags := 1, nameIndex := 5, descriptorIndex := 6, attributes := #[] }, { accessFlags := 9, nameIndex := 66, descriptorIndex := 67, attributes := #[] }, { accessFlags := 10, nameIndex := 11, descriptorIndex := 12, attributes := #[] }, { accessFlags := 10, nameIndex := 15, descriptorIndex := 12, attributes := #[] }, { accessFlags := 10, nameIndex := 24, descriptorIndex := 25, attributes := #[] }, { accessFlags := 10, nameIndex := 34, descriptorIndex := 35, attributes := #[] }] 49 2 #[] #[])
  fields := #[]
  methods := #[k1m0, k1m1, k1m2, k1m3, k1m4, k1m5]
  instanceTypes := #[]
  staticTypes := #[]
  resolved := Array.replicate 73 none
  statics := none }

def pool2 : Array CpInfo := pool [(1, .class_ 2), (0, u "com/example/jobwright/jobwright/workload/O2kJobs"), (2, u "PROCESSOR_WEIGHTS"), (0, u "[I"), (2, u "REQUESTS"), (0, u "[Lcom/example/jobwright/jobwright/workload/O2kJobs$Requests;"), (5, .class_ 18), (1, u "java/lang/Object"), (3, u "random"), (0, u "Lcom/example/jobwright/jobwright/workload/SeededRandom;"), (2, u "processorWeights"), (2, u "requests"), (9, .class_ 41), (1, u "com/example/jobwright/jobwright/workload/O2kJobs$RequestClass"), (8, u "ratio"), (0, u "(JIJ)Lcom/example/jobwright/jobwright/workload/O2kJobs$Ratio;"), (1, .class_ 55), (1, u "com/example/jobwright/jobwright/workload/O2kJobs$Ratio"), (16, u "PROCESSORS"), (15, .class_ 90), (1, u "com/example/jobwright/jobwright/workload/O2kJobs$Requests"), (7, u "MEMORY_MU"), (0, u "[D"), (2, u "MEMORY_SIGMA"), (19, .long 60), (1, .fieldref 1 125), (0, .nameAndType 126 127), (0, u "RATIOS"), (0, u "[Lcom/example/jobwright/jobwright/workload/O2kJobs$Ratio;"), (0, .long 600), (1, .fieldref 1 131), (0, .nameAndType 132 133), (0, u "DEFAULTS"), (0, u "[J"), (0, .long 131072), (1, .long 4194304), (57, u "SPANS"), (0, u "[[J"), (97, u "WIDE_LONG_ROWS"), (0, u "Ljava/util/List;"), (0, u "MINUTE"), (0, u "J"), (1, u "HOUR"), (0, u "MB"), (2, u "GB"), (2, u "MOST_MEMORY"), (0, u "D")] 31

def k2c0 : Code := { maxStack := 4, maxLocals := 5, code := prog_198_method_8_code, exceptionTable := #[], attributes := #[] }
def k2m0 : Method := { name := "ratio", desc := "(JIJ)Lcom/example/jobwright/jobwright/workload/O2kJobs$Ratio;", sig := { parameters := [.long, .int, .long], returnType := some (.object "com/example/jobwright/jobwright/workload/O2kJobs$Ratio") }, accessFlags := 8, code := some k2c0 }
/-- com/example/jobwright/jobwright/workload/O2kJobs -/
def k2 : Class := { plain "com/example/jobwright/jobwright/workload/O2kJobs" (some 0) with
  accessFlags := 48
  interfaces := #[]
  cf := some (fileOf pool2 1 #[.nestMembers #[53, 88, 39]] #[{ accessFlags := 8, nameIndex := 50, descriptorIndex := 51, attributes := #[] }] 48 16 #[] #[{ accessFlags := 26, nameIndex := 295, descriptorIndex := 296, attributes := #[] }, { accessFlags := 26, nameIndex := 298, descriptorIndex := 296, attributes := #[] }, { accessFlags := 26, nameIndex := 299, descriptorIndex := 296, attributes := #[] }, { accessFlags := 26, nameIndex := 302, descriptorIndex := 296, attributes := #[] }, { accessFlags := 24, nameIndex := 72, descriptorIndex := 6, attributes := #[] }, { accessFlags := 24, nameIndex := 5, descriptorIndex := 6, attributes := #[] }, { accessFlags := 26, nameIndex := 98, descriptorIndex := 99, attributes := #[] }, { accessFlags := 26, nameIndex := 102, descriptorIndex := 99, attributes := #[] }, { accessFlags := 26, nameIndex := 305, descriptorIndex := 306, attributes := #[] }, { accessFlags := 26, nameIndex := 132, descriptorIndex := 133, attributes := #[] }, { accessFlags := 26, nameIndex := 194, descriptorIndex := 195, attributes := #[] }, { accessFlags := 24, nameIndex := 9, descriptorIndex := 10, attributes := #[] }, { accessFlags := 26, nameIndex := 126, descriptorIndex := 127, attributes := #[] }, { accessFlags := 24, nameIndex := 293, descriptorIndex := 294, attributes := #[] }, { accessFlags := 18, nameIndex := 22, descriptorIndex := 23, attributes := #[] }, { accessFlags := 18, nameIndex := 26, descriptorIndex := 6, attributes := #[] }, { accessFlags := 18, nameIndex := 29, descriptorIndex := 10, attributes := #[] }])
  fields := #[{ name := "MINUTE", type := .long, accessFlags := 26, slot := 0, constantValue := 0 }, { name := "HOUR", type := .long, accessFlags := 26, slot := 1, constantValue := 0 }, { name := "MB", type := .long, accessFlags := 26, slot := 2, constantValue := 0 }, { name := "GB", type := .long, accessFlags := 26, slot := 3, constantValue := 0 }, { name := "PROCESSORS", type := (.array .int), accessFlags := 24, slot := 4, constantValue := 0 }, { name := "PROCESSOR_WEIGHTS", type := (.array .int), accessFlags := 24, slot := 5, constantValue := 0 }, { name := "MEMORY_MU", type := (.array .double), accessFlags := 26, slot := 6, constantValue := 0 }, { name := "MEMORY_SIGMA", type := (.array .double), accessFlags := 26, slot := 7, constantValue := 0 }, { name := "MOST_MEMORY", type := .double, accessFlags := 26, slot := 8, constantValue := 0 }, { name := "DEFAULTS", type := (.array .long), accessFlags := 26, slot := 9, constantValue := 0 }, { name := "SPANS", type := (.array (.array .long)), accessFlags := 26, slot := 10, constantValue := 0 }, { name := "REQUESTS", type := (.array (.object "com/example/jobwright/jobwright/workload/O2kJobs$Requests")), accessFlags := 24, slot := 11, constantValue := 0 }, { name := "RATIOS", type := (.array (.object "com/example/jobwright/jobwright/workload/O2kJobs$Ratio")), accessFlags := 26, slot := 12, constantValue := 0 }, { name := "WIDE_LONG_ROWS", type := (.object "java/util/List"), accessFlags := 24, slot := 13, constantValue := 0 }, { name := "random", type := (.object "com/example/jobwright/jobwright/workload/SeededRandom"), accessFlags := 18, slot := 0, constantValue := 0 }, { name := "processorWeights", type := (.array .int), accessFlags := 18, slot := 1, constantValue := 0 }, { name := "requests", type := (.array (.object "com/example/jobwright/jobwright/workload/O2kJobs$Requests")), accessFlags := 18, slot := 2, constantValue := 0 }]
  methods := #[k2m0]
  instanceTypes := #[(.object "com/example/jobwright/jobwright/workload/SeededRandom"), (.array .int), (.array (.object "com/example/jobwright/jobwright/workload/O2kJobs$Requests"))]
  staticTypes := #[.long, .long, .long, .long, (.array .int), (.array .int), (.array .double), (.array .double), .double, (.array .long), (.array (.array .long)), (.array (.object "com/example/jobwright/jobwright/workload/O2kJobs$Requests")), (.array (.object "com/example/jobwright/jobwright/workload/O2kJobs$Ratio")), (.object "java/util/List")]
  resolved := Array.replicate 338 none
  statics := some 0 }

def pool3 : Array CpInfo := pool [(2, .class_ 4), (1, u "java/lang/Object"), (0, u "<init>"), (0, u "()V"), (0, .class_ 8), (0, u "java/lang/Record")] 13

def k3m0 : Method := { name := "<init>", desc := "()V", sig := { parameters := [], returnType := none }, accessFlags := 4, code := none }
/-- java/lang/Record -/
def k3 : Class := { plain "java/lang/Record" (some 0) with
  accessFlags := 1057
  interfaces := #[]
  cf := some (fileOf pool3 7 #[] #[{ accessFlags := 4, nameIndex := 5, descriptorIndex := 6, attributes := #[] }] 1057 2 #[] #[])
  fields := #[]
  methods := #[k3m0]
  instanceTypes := #[]
  staticTypes := #[]
  resolved := Array.replicate 22 none
  statics := none }

def pool4 : Array CpInfo := pool [(2, .class_ 4), (1, u "java/lang/Record"), (2, .fieldref 8 9), (0, .class_ 10), (0, .nameAndType 11 12), (0, u "com/example/jobwright/jobwright/workload/O2kJobs$Ratio"), (0, u "aboveShare"), (0, u "I"), (2, u "alpha"), (0, u "D"), (2, u "beta"), (0, .fieldref 8 21), (0, .nameAndType 22 16), (0, u "excessMean"), (2, u "excessRange"), (2, u "excessAlpha"), (2, u "excessBeta"), (59, u "()I"), (1, u "()D"), (3, .class_ 98), (0, u "com/example/jobwright/jobwright/workload/O2kJobs")] 25

def k4c0 : Code := { maxStack := 1, maxLocals := 1, code := prog_199_method_9_code, exceptionTable := #[], attributes := #[] }
def k4m0 : Method := { name := "aboveShare", desc := "()I", sig := { parameters := [], returnType := some .int }, accessFlags := 1, code := some k4c0 }
def k4c1 : Code := { maxStack := 2, maxLocals := 1, code := prog_199_method_12_code, exceptionTable := #[], attributes := #[] }
def k4m1 : Method := { name := "excessMean", desc := "()D", sig := { parameters := [], returnType := some .double }, accessFlags := 1, code := some k4c1 }
/-- com/example/jobwright/jobwright/workload/O2kJobs$Ratio -/
def k4 : Class := { plain "com/example/jobwright/jobwright/workload/O2kJobs$Ratio" (some 3) with
  accessFlags := 48
  interfaces := #[]
  cf := some (fileOf pool4 8 #[.nestHost 97] #[{ accessFlags := 1, nameIndex := 11, descriptorIndex := 91, attributes := #[] }, { accessFlags := 1, nameIndex := 22, descriptorIndex := 93, attributes := #[] }] 48 2 #[] #[{ accessFlags := 18, nameIndex := 11, descriptorIndex := 12, attributes := #[] }, { accessFlags := 18, nameIndex := 15, descriptorIndex := 16, attributes := #[] }, { accessFlags := 18, nameIndex := 19, descriptorIndex := 16, attributes := #[] }, { accessFlags := 18, nameIndex := 22, descriptorIndex := 16, attributes := #[] }, { accessFlags := 18, nameIndex := 25, descriptorIndex := 16, attributes := #[] }, { accessFlags := 18, nameIndex := 28, descriptorIndex := 16, attributes := #[] }, { accessFlags := 18, nameIndex := 31, descriptorIndex := 16, attributes := #[] }])
  fields := #[{ name := "aboveShare", type := .int, accessFlags := 18, slot := 0, constantValue := 0 }, { name := "alpha", type := .double, accessFlags := 18, slot := 1, constantValue := 0 }, { name := "beta", type := .double, accessFlags := 18, slot := 2, constantValue := 0 }, { name := "excessMean", type := .double, accessFlags := 18, slot := 3, constantValue := 0 }, { name := "excessRange", type := .double, accessFlags := 18, slot := 4, constantValue := 0 }, { name := "excessAlpha", type := .double, accessFlags := 18, slot := 5, constantValue := 0 }, { name := "excessBeta", type := .double, accessFlags := 18, slot := 6, constantValue := 0 }]
  methods := #[k4m0, k4m1]
  instanceTypes := #[.int, .double, .double, .double, .double, .double, .double]
  staticTypes := #[]
  resolved := Array.replicate 124 none
  statics := none }

def pool5 : Array CpInfo := pool [(1, u "java/lang/Cloneable"), (0, .class_ 1), (0, u "java/lang/Object"), (0, .class_ 3)] 3

/-- java/lang/Cloneable -/
def k5 : Class := { plain "java/lang/Cloneable" (some 0) with
  accessFlags := 1537
  interfaces := #[]
  cf := some (fileOf pool5 2 #[] #[] 1537 4 #[] #[])
  fields := #[]
  methods := #[]
  instanceTypes := #[]
  staticTypes := #[]
  resolved := Array.replicate 8 none
  statics := none }

def pool6 : Array CpInfo := pool [(1, u "java/io/Serializable"), (0, .class_ 1), (0, u "java/lang/Object"), (0, .class_ 3)] 3

/-- java/io/Serializable -/
def k6 : Class := { plain "java/io/Serializable" (some 0) with
  accessFlags := 1537
  interfaces := #[]
  cf := some (fileOf pool6 2 #[] #[] 1537 4 #[] #[])
  fields := #[]
  methods := #[]
  instanceTypes := #[]
  staticTypes := #[]
  resolved := Array.replicate 8 none
  statics := none }

/-- the primitive byte -/
def k7 : Class := { plain "byte" none with kind := .primitive 'B', accessFlags := 0x411 }
/-- [B -/
def k8 : Class := { plain "[B" (some 0) with kind := .array 7 .byte, interfaces := #[5, 6], accessFlags := 1041 }

/-- the primitive int -/
def k9 : Class := { plain "int" none with kind := .primitive 'I', accessFlags := 0x411 }
/-- [I -/
def k10 : Class := { plain "[I" (some 0) with kind := .array 9 .int, interfaces := #[5, 6], accessFlags := 1041 }

/-- the primitive long -/
def k11 : Class := { plain "long" none with kind := .primitive 'J', accessFlags := 0x411 }
/-- [J -/
def k12 : Class := { plain "[J" (some 0) with kind := .array 11 .long, interfaces := #[5, 6], accessFlags := 1041 }

/-- [Lcom/example/jobwright/jobwright/workload/O2kJobs$Ratio; -/
def k13 : Class := { plain "[Lcom/example/jobwright/jobwright/workload/O2kJobs$Ratio;" (some 0) with kind := .array 4 (.object "com/example/jobwright/jobwright/workload/O2kJobs$Ratio"), interfaces := #[5, 6], accessFlags := 1041 }

def heap : Heap := #[{ cls := 2, slots := #[.long 0, .long 0, .long 0, .long 0, .null, .null, .null, .null, .double 0, .ref 14, .null, .null, .ref 1, .null], vm := .statics 2 },
  { cls := 13, slots := #[.ref 2, .ref 3, .ref 4, .ref 5, .ref 6, .ref 7, .ref 8, .ref 9, .ref 10, .ref 11, .ref 12, .ref 13], vm := .none },
  { cls := 4, slots := #[.int 294, .double 0, .double 0, .double 4631538448534790472, .double 0, .double 0, .double 0], vm := .none },
  { cls := 4, slots := #[.int 80, .double 0, .double 0, .double 4616200877053826826, .double 0, .double 0, .double 0], vm := .none },
  { cls := 4, slots := #[.int 53, .double 0, .double 0, .double 4604480259023595110, .double 0, .double 0, .double 0], vm := .none },
  { cls := 4, slots := #[.int 97, .double 0, .double 0, .double 4605020690978879570, .double 0, .double 0, .double 0], vm := .none },
  { cls := 4, slots := #[.int 80, .double 0, .double 0, .double 4602318531202457272, .double 0, .double 0, .double 0], vm := .none },
  { cls := 4, slots := #[.int 29, .double 0, .double 0, .double 4598535507515466056, .double 0, .double 0, .double 0], vm := .none },
  { cls := 4, slots := #[.int 17, .double 0, .double 0, .double 4596734067664517856, .double 0, .double 0, .double 0], vm := .none },
  { cls := 4, slots := #[.int 44, .double 0, .double 0, .double 4593851763903000736, .double 0, .double 0, .double 0], vm := .none },
  { cls := 4, slots := #[.int 42, .double 0, .double 0, .double 4581421828931458176, .double 0, .double 0, .double 0], vm := .none },
  { cls := 4, slots := #[.int 87, .double 0, .double 0, .double 4581421828931458176, .double 0, .double 0, .double 0], vm := .none },
  { cls := 4, slots := #[.int 84, .double 0, .double 0, .double 4587366580439587232, .double 0, .double 0, .double 0], vm := .none },
  { cls := 4, slots := #[.int 105, .double 0, .double 0, .double 4585925428558828672, .double 0, .double 0, .double 0], vm := .none },
  { cls := 12, slots := #[.long 18000, .long 180000, .long 720000, .long 1440000], vm := .none }]
def classes : Array Class := #[k0, k1, k2, k3, k4, k5, k6, k7, k8, k9, k10, k11, k12, k13]
def interned : List (Array UInt16 × Addr) := []
def slotsUsed : Nat := 114
def theMethod : MethodId := ⟨1, 1⟩
def args0 : Array Value := #[.int 5, .long 7, .int 3, .long 9]
def aboutOver (below : List Frame) : State where
  vm := { classes := classes, interned := interned.toArray }
  heap := heap
  slotsUsed := slotsUsed
  threads := #[{ frames := .invoking theMethod args0 :: below }]
def below0 : List Frame := [.native { method := ⟨0, 0⟩, args := #[] }]
def about1 : State := aboutOver below0
def p0 : Program := .bare "" "" ""
def e0 : Env := launch0.env 0 0 0
theorem w_frames : about1.frames = Frame.invoking theMethod args0 :: below0 := rfl
set_option maxRecDepth 65536 in
theorem w_args : argsFit about1.vm theMethod args0 = true := by decide +kernel
set_option maxRecDepth 65536 in
theorem w_heap : heapFits about1 = true := by decide +kernel
set_option maxRecDepth 65536 in
theorem w_runnable : about1.curStatus? = some .runnable := by decide +kernel
set_option maxRecDepth 65536 in
theorem w_alone : about1.alone = true := by decide +kernel
set_option maxRecDepth 65536 in
theorem w_named : about1.methodNamed? x = some theMethod := by decide +kernel
set_option maxRecDepth 65536 in
theorem w_hears : about1.hears theMethod below0 = true := by decide +kernel
set_option maxRecDepth 65536 in
theorem w_ripe : about1.ripe theMethod args0 below0 = true := by decide +kernel
theorem w_running : about1.status = .running := rfl
set_option maxRecDepth 65536 in
theorem w_room : about1.hasRoom e0.platform room_1 = true :=
  launch0.hasRoom_least _ room_1 (by decide +kernel) (by decide +kernel) (by decide +kernel) (by decide +kernel) (by decide +kernel) (by decide +kernel)
theorem allAtoms_all (ts : List Jvm.Cond) (a : Array Jvm.Value) (st : Jvm.State) : (allAtoms ts).before a st = ts.all (fun c => c.before a st) := by
  induction ts with
  | nil => rfl
  | cons c t ih =>
    show (Jvm.Cond.and c (allAtoms t)).before a st = _
    rw [Jvm.Cond.before_and, ih, List.all_cons]
def words1 : List Jvm.Cond := Jvm.Cond.code x code maxLocals ret :: tables_1
/-- a 'code' word, met by the world's own term for the bytes: nothing is compared byte by byte -/
theorem code_word {y : MethodName} {bytes : ByteArray} {mx : Nat} {rt : Option FieldType} {a : Array Value} {s : State} {m : MethodId} {meth : Method} {c : Code} (h1 : s.methodNamed? y = some m) (h2 : s.vm.method? m = some meth) (h3 : meth.code = some c) (h4 : c.code = bytes)
    (h5 : (c.maxLocals == mx && c.exceptionTable.isEmpty && decide (c.maxStack ≤ mostOperands) && decide (meth.sig.returnType = rt) && !meth.locks && decide (parseMethodDescriptor y.desc = some meth.sig)) = true) : (Jvm.Cond.code y bytes mx rt).before a s = true := by
  simp only [Bool.and_eq_true, beq_iff_eq, Bool.not_eq_true', decide_eq_true_eq] at h5
  obtain ⟨⟨⟨⟨⟨g1, g2⟩, g3⟩, g4⟩, g5⟩, g6⟩ := h5
  simp [Cond.before, Cond.holds, Cond.value, h1, h2, h3, h4, g1, g2, g3, g4, g5, g6]
def isCode : Jvm.Cond → Bool
  | .code _ _ _ _ => true
  | _ => false
theorem all_split {L : List Jvm.Cond} {P : Jvm.Cond → Bool} (h1 : L.all (fun c => isCode c || P c) = true) (h2 : ∀ c ∈ L.filter isCode, P c = true) : L.all P = true := by
  refine List.all_eq_true.mpr fun c hc => ?_
  have h := List.all_eq_true.mp h1 c hc
  rcases Bool.eq_false_or_eq_true (isCode c) with hi | hi
  · exact h2 c (List.mem_filter.mpr ⟨hc, hi⟩)
  · simpa [hi] using h
set_option maxRecDepth 65536 in
theorem w_c0 : (Jvm.Cond.code x code maxLocals ret).before args0 about1 = true := code_word (m := ⟨1, 1⟩) (meth := k1m1) (c := k1c1) (by decide +kernel) rfl rfl rfl (by decide +kernel)
set_option maxRecDepth 65536 in
theorem w_c1 : (Jvm.Cond.code ({ cls := "com/example/jobwright/jobwright/workload/O2kJobsRatioPinLaw", name := "pickRequest", desc := "(IJ)J" } : Jvm.MethodName) method_3_code (5 : Nat) (Option.some Jvm.ClassFile.FieldType.long)).before args0 about1 = true := code_word (m := ⟨1, 2⟩) (meth := k1m2) (c := k1c2) (by decide +kernel) rfl rfl rfl (by decide +kernel)
set_option maxRecDepth 65536 in
theorem w_c2 : (Jvm.Cond.code ({ cls := "com/example/jobwright/jobwright/workload/O2kJobsRatioPinLaw", name := "pickMemory", desc := "(IJ)J" } : Jvm.MethodName) method_4_code (5 : Nat) (Option.some Jvm.ClassFile.FieldType.long)).before args0 about1 = true := code_word (m := ⟨1, 3⟩) (meth := k1m3) (c := k1c3) (by decide +kernel) rfl rfl rfl (by decide +kernel)
set_option maxRecDepth 65536 in
theorem w_c3 : (Jvm.Cond.code ({ cls := "com/example/jobwright/jobwright/workload/O2kJobs", name := "ratio", desc := "(JIJ)Lcom/example/jobwright/jobwright/workload/O2kJobs$Ratio;" } : Jvm.MethodName) prog_198_method_8_code (5 : Nat) (Option.some (Jvm.ClassFile.FieldType.object "com/example/jobwright/jobwright/workload/O2kJobs$Ratio"))).before args0 about1 = true := code_word (m := ⟨2, 0⟩) (meth := k2m0) (c := k2c0) (by decide +kernel) rfl rfl rfl (by decide +kernel)
set_option maxRecDepth 65536 in
theorem w_c4 : (Jvm.Cond.code ({ cls := "com/example/jobwright/jobwright/workload/O2kJobsRatioPinLaw", name := "expectedRow", desc := "(JIJ)I" } : Jvm.MethodName) method_5_code (5 : Nat) (Option.some Jvm.ClassFile.FieldType.int)).before args0 about1 = true := code_word (m := ⟨1, 4⟩) (meth := k1m4) (c := k1c4) (by decide +kernel) rfl rfl rfl (by decide +kernel)
set_option maxRecDepth 65536 in
theorem w_c5 : (Jvm.Cond.code ({ cls := "com/example/jobwright/jobwright/workload/O2kJobs$Ratio", name := "aboveShare", desc := "()I" } : Jvm.MethodName) prog_199_method_9_code (1 : Nat) (Option.some Jvm.ClassFile.FieldType.int)).before args0 about1 = true := code_word (m := ⟨4, 0⟩) (meth := k4m0) (c := k4c0) (by decide +kernel) rfl rfl rfl (by decide +kernel)
set_option maxRecDepth 65536 in
theorem w_c6 : (Jvm.Cond.code ({ cls := "com/example/jobwright/jobwright/workload/O2kJobsRatioPinLaw", name := "share", desc := "(I)I" } : Jvm.MethodName) method_6_code (1 : Nat) (Option.some Jvm.ClassFile.FieldType.int)).before args0 about1 = true := code_word (m := ⟨1, 5⟩) (meth := k1m5) (c := k1c5) (by decide +kernel) rfl rfl rfl (by decide +kernel)
set_option maxRecDepth 65536 in
theorem w_c7 : (Jvm.Cond.code ({ cls := "com/example/jobwright/jobwright/workload/O2kJobs$Ratio", name := "excessMean", desc := "()D" } : Jvm.MethodName) prog_199_method_12_code (1 : Nat) (Option.some Jvm.ClassFile.FieldType.double)).before args0 about1 = true := code_word (m := ⟨4, 1⟩) (meth := k4m1) (c := k4c1) (by decide +kernel) rfl rfl rfl (by decide +kernel)
def codes1 : List Jvm.Cond := [Jvm.Cond.code x code maxLocals ret, Jvm.Cond.code ({ cls := "com/example/jobwright/jobwright/workload/O2kJobsRatioPinLaw", name := "pickRequest", desc := "(IJ)J" } : Jvm.MethodName) method_3_code (5 : Nat) (Option.some Jvm.ClassFile.FieldType.long), Jvm.Cond.code ({ cls := "com/example/jobwright/jobwright/workload/O2kJobsRatioPinLaw", name := "pickMemory", desc := "(IJ)J" } : Jvm.MethodName) method_4_code (5 : Nat) (Option.some Jvm.ClassFile.FieldType.long), Jvm.Cond.code ({ cls := "com/example/jobwright/jobwright/workload/O2kJobs", name := "ratio", desc := "(JIJ)Lcom/example/jobwright/jobwright/workload/O2kJobs$Ratio;" } : Jvm.MethodName) prog_198_method_8_code (5 : Nat) (Option.some (Jvm.ClassFile.FieldType.object "com/example/jobwright/jobwright/workload/O2kJobs$Ratio")), Jvm.Cond.code ({ cls := "com/example/jobwright/jobwright/workload/O2kJobsRatioPinLaw", name := "expectedRow", desc := "(JIJ)I" } : Jvm.MethodName) method_5_code (5 : Nat) (Option.some Jvm.ClassFile.FieldType.int), Jvm.Cond.code ({ cls := "com/example/jobwright/jobwright/workload/O2kJobs$Ratio", name := "aboveShare", desc := "()I" } : Jvm.MethodName) prog_199_method_9_code (1 : Nat) (Option.some Jvm.ClassFile.FieldType.int), Jvm.Cond.code ({ cls := "com/example/jobwright/jobwright/workload/O2kJobsRatioPinLaw", name := "share", desc := "(I)I" } : Jvm.MethodName) method_6_code (1 : Nat) (Option.some Jvm.ClassFile.FieldType.int), Jvm.Cond.code ({ cls := "com/example/jobwright/jobwright/workload/O2kJobs$Ratio", name := "excessMean", desc := "()D" } : Jvm.MethodName) prog_199_method_12_code (1 : Nat) (Option.some Jvm.ClassFile.FieldType.double)]
set_option maxRecDepth 65536 in
theorem codes_eq : words1.filter isCode = codes1 := rfl
theorem w_codes : ∀ c ∈ words1.filter isCode, c.before args0 about1 = true := by
  rw [codes_eq]
  intro c hc
  simp only [codes1, List.mem_cons, List.not_mem_nil, or_false] at hc
  rcases hc with rfl | rfl | rfl | rfl | rfl | rfl | rfl | rfl
  · exact w_c0
  · exact w_c1
  · exact w_c2
  · exact w_c3
  · exact w_c4
  · exact w_c5
  · exact w_c6
  · exact w_c7
set_option maxRecDepth 65536 in
theorem w_t1 : (words1.take 24).all (fun c => isCode c || c.before args0 about1) = true := by decide +kernel
set_option maxRecDepth 65536 in
theorem w_t2 : ((words1.drop 24).take 24).all (fun c => isCode c || c.before args0 about1) = true := by decide +kernel
set_option maxRecDepth 65536 in
theorem w_t3 : ((words1.drop 24).drop 24).all (fun c => isCode c || c.before args0 about1) = true := by decide +kernel
theorem w_tables : (allAtoms (Jvm.Cond.code x code maxLocals ret :: tables_1)).before args0 about1 = true := by
  rw [allAtoms_all]
  show words1.all (fun c => c.before args0 about1) = true
  refine all_split ?_ w_codes
  rw [← List.take_append_drop 24 words1, List.all_append, w_t1, ← List.take_append_drop 24 (words1.drop 24), List.all_append, w_t2, w_t3]
  rfl
set_option maxRecDepth 65536 in
theorem w_case : (Jvm.Cond.and given_1 narrow_1).before args0 about1 = true := by decide +kernel
theorem w_applies : (headSpec (Jvm.Cond.code x code maxLocals ret :: tables_1) room_1).applies x e0.platform about1 = true :=
  (Spec.applies_iff w_frames).mpr ⟨w_running, w_runnable, w_alone, w_named, w_hears, w_ripe, w_room, w_tables⟩
theorem atStart : AtStart classFile x code maxLocals ret World_1 tables_1 room_1 Calls_1 rest_1 Pre_1 launch0 p0 e0 about1 theMethod args0 below0 :=
  ⟨lists_1, trivial, launch0.admits_env _ _ _, launch0.least_env, fairChoices_fair.cas, fairChoices_fair.clock, w_frames, w_args, w_heap, w_applies, trivial, trivial, w_case⟩
end start1
theorem witness_1 : WitnessClaimed_1 := ⟨start1.p0, start1.e0, start1.about1, start1.theMethod, start1.args0, start1.below0, start1.atStart⟩
end Jvm.Pilot.@@N@@
