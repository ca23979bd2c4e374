import JvmDerived
import JvmDerived.Pilot.@@N@@Statement
import JvmDerived.Pilot.@@N@@Code
set_option linter.unusedVariables false
set_option linter.unusedSimpArgs false
namespace Jvm.RoadKit
open Sem ClassFile Op Lib Jvm.Stand Jvm.Free Jvm.LawKit
section New
variable {p : Program} {l : Launch} {e : Env} {R : Room} {s : State} {m : MethodId} {args : Array Value} {below : List Frame} {meth : Method} {c : Code} {T : State} {locs : List Loc} {cells slots : Nat}
theorem retI (X : Stand p l e R s m args below meth c T locs cells slots) (hx : p.tables.exec = Jvm.exec) {pc : Nat} {Ls : Array Slot} {z : Int32} {rest : List Value} (hret : meth.sig.returnType = some .int) (hd : decode c.code pc = .ok (.ireturn, 1)) {fs : List Frame}
    (hl : ∀ (f : JFrame) (acts : List Action), f.method = m → f.locked = none → f.entered = [] → (doReturn e (T.setTop f) acts (some (.int z))).1 = T.setFrames fs) : Steps p.tables e below (T.setTop (mkF m pc Ls (.int z :: rest))) (T.setFrames fs) :=
  retOut X hx hret rfl (Or.inl ⟨rfl, Or.inl rfl, z, rfl⟩) hd hl
end New
end Jvm.RoadKit
namespace Jvm.Pilot.@@N@@
open Jvm Jvm.ClassFile Sem Op Lib Jvm.Free Jvm.Stand Jvm.LawKit Jvm.RoadKit Bundle Jvm.Pilot.@@N@@.Jvm.D
def own_Q (Q : Option Value → Heap → List Loc → Prop) (v : Option Value) (h : Heap) (L : List Loc) : Prop := Q v h L
theorem own_sta {s : State} {args : Array Value} {C n d K : String} (h : (Jvm.Cond.exactly (Jvm.Term.static C n d) K).value args s none s [] = some true) (w1 : (Jvm.Cond.initialized C).before args s = true) (w2 : (Jvm.Cond.laysStatic C n d).before args s = true) :
    ∃ a, (Jvm.Term.static C n d).eval args s none [] s = some (.ref a) ∧ Sta s s.heap C n d (.ref a) ∧ Exa s s.heap a K := by
  obtain ⟨a, e⟩ := exa_v h
  exact ⟨a, e, Sta.start e (Or.inr ⟨w1, w2⟩), Exa.start e h⟩
theorem own_fi {s : State} {args : Array Value} {t : Jvm.Term} {a : Addr} {C f d : String} {z : Int32} (ev : t.eval args s none [] s = some (.ref a)) (h : (Jvm.Cond.eq (Jvm.Term.field t C f d) (Jvm.Term.int z)).value args s none s [] = some true) : Fld s s.heap a C f d (.int z) := by
  obtain ⟨x, y, e1, e2, k1, k2⟩ := cmp_v (Or.inl h)
  have ez : (Jvm.Term.int z).eval args s none [] s = some (.int z) := Term.int_eval z
  obtain rfl : y = .int z := Option.some.inj (e2.symm.trans ez)
  obtain ⟨w, rfl⟩ : ∃ w, x = .int w := k2
  have hv : (Jvm.Cond.eq (Jvm.Term.field t C f d) (Jvm.Term.int z)).value args s none s [] = some (decide (w = z)) := by simp [Cond.value, e1, ez]
  obtain rfl := gotT hv h
  rw [fld_at ev] at e1
  exact Fld.start e1
theorem own_fu {Z : State} {h : Heap} {a : Addr} {C f d : String} {x y : Value} (F : Fld Z h a C f d x) (G : Fld Z h a C f d y) : x = y := by
  obtain ⟨c1, cf1, k1, i1, f1, h1, h2, h3, h4, h5, h6, h7⟩ := F
  obtain ⟨c2, cf2, k2, i2, f2, g1, g2, g3, g4, g5, g6, g7⟩ := G
  cases h1.symm.trans g1
  cases h2.symm.trans g2
  exact Option.some.inj (h7.symm.trans g7)
theorem own_fne {Z : State} {h : Heap} {a b : Addr} {C f d : String} {x y : Int32} (F : Fld Z h a C f d (.int x)) (G : Fld Z h b C f d (.int y)) (hn : ¬ x = y) : ¬ a = b := fun e => by
  subst e; exact hn (Value.int.inj (own_fu F G))
theorem own_extw {h0 h h' : Heap} {a : Addr} {sl : Nat} {v : Value} (E : Ext h0 h) (W : Wr h h' a sl v) (q : h0.size ≤ a) : Ext h0 h' := by
  refine ⟨by rw [W.size]; exact E.1, fun x c hc => ?_⟩
  obtain ⟨c', e1, -, -, -, e5, -⟩ := wr_at W (E.2 x c hc)
  have hne : x ≠ a := fun z => by subst z; exact absurd (Array.getElem?_eq_some_iff.mp hc).1 (Nat.not_lt.mpr q)
  rw [← e5 hne]; exact e1
theorem own_extt {h0 h h' : Heap} (E : Ext h0 h) (E' : Ext h h') : Ext h0 h' := ⟨Nat.le_trans E.1 E'.1, fun x c hc => E'.2 x c (E.2 x c hc)⟩
theorem own_lgt {x y : Int64} : (0 : Int32) < lcmpW x y ↔ y < x := by rw [lcW]; exact lc_gt x y
theorem own_llt {x y : Int64} : lcmpW x y < (0 : Int32) ↔ x < y := by rw [lcW]; exact lc_lt x y
theorem own_leq {x y : Int64} : lcmpW x y = (0 : Int32) ↔ x = y := by rw [lcW]; exact lc_eq x y
def own_nm : Nat → String
  | 0 => "A"
  | 1 => "B"
  | 2 => "C"
  | 3 => "D"
  | _ => ""
def own_cls (p : Int32) (m : Int64) : Nat :=
  if (32 : Int32) < p then (if (8388608 : Int64) < m then 3 else 0)
  else if (8 : Int32) < p then (if m < (1048576 : Int64) then 0 else if (16777216 : Int64) < m then 2 else 1)
  else if (2 : Int32) < p then (if m < (131072 : Int64) then 0 else if (8388608 : Int64) < m then 2 else 1)
  else (if (1048576 : Int64) < m then 2 else 1)
def own_tab (ad : Nat → Addr) : List Value := [.ref (ad 1), .ref (ad 1), .ref (ad 1), .ref (ad 2), .ref (ad 2), .ref (ad 2), .ref (ad 0), .ref (ad 1), .ref (ad 1), .ref (ad 1), .ref (ad 2), .ref (ad 2), .ref (ad 0), .ref (ad 0), .ref (ad 1), .ref (ad 1), .ref (ad 1), .ref (ad 2), .ref (ad 0), .ref (ad 0), .ref (ad 0), .ref (ad 0), .ref (ad 3), .ref (ad 3)]
def own_bases : List Value := [.long (0 : Int64), .long (131072 : Int64), .long (1048576 : Int64), .long (8388608 : Int64), .long (16777216 : Int64)]
theorem own_base (k : Nat) (hk : k < 5) : ∃ z : Int64, own_bases.getD k (.long (0 : Int64)) = .long z := by
  match k, hk with
  | 0, _ => exact ⟨_, rfl⟩
  | 1, _ => exact ⟨_, rfl⟩
  | 2, _ => exact ⟨_, rfl⟩
  | 3, _ => exact ⟨_, rfl⟩
  | 4, _ => exact ⟨_, rfl⟩
  | n + 5, h => exact absurd h (by omega)
theorem own_lt {a b : Int32} : a < b ↔ a.toInt < b.toInt := Int32.lt_iff_toInt_lt
theorem own_ltL {a b : Int64} : a < b ↔ a.toInt < b.toInt := Int64.lt_iff_toInt_lt
theorem own_eqL {a b : Int64} : a = b ↔ a.toInt = b.toInt := Int64.toInt_inj.symm
theorem own_sel (x : Int32) : 0 ≤ ((x &&& (7 : Int32)) % (5 : Int32)).toInt ∧ ((x &&& (7 : Int32)) % (5 : Int32)).toInt < 5 := by
  have h1 := c_mask x 7 3 (by decide) (by decide)
  have h2 := (c_irem (x &&& 7) 5 5 rfl).1 (by rw [h1]; omega)
  rw [h2]; omega
def own_G (p g : Int32) : Prop := (g = 0 ∧ ¬ (2 : Int32) < p) ∨ (g = 1 ∧ (2 : Int32) < p ∧ ¬ (8 : Int32) < p) ∨ (g = 2 ∧ (8 : Int32) < p ∧ ¬ (32 : Int32) < p) ∨ (g = 3 ∧ (32 : Int32) < p)
def own_B (m : Int64) (b : Int32) : Prop := (b = 0 ∧ m < (131072 : Int64)) ∨ (b = 1 ∧ ¬ m < (131072 : Int64) ∧ m < (1048576 : Int64)) ∨ (b = 2 ∧ m = (1048576 : Int64)) ∨ (b = 3 ∧ ¬ m < (1048576 : Int64) ∧ ¬ m = (1048576 : Int64) ∧ ¬ (8388608 : Int64) < m) ∨ (b = 4 ∧ (8388608 : Int64) < m ∧ ¬ (16777216 : Int64) < m) ∨ (b = 5 ∧ (16777216 : Int64) < m)
theorem own_c1 : (2 : Int32).toInt = 2 := rfl
theorem own_c2 : (8 : Int32).toInt = 8 := rfl
theorem own_c3 : (32 : Int32).toInt = 32 := rfl
theorem own_c4 : (131072 : Int64).toInt = 131072 := rfl
theorem own_c5 : (1048576 : Int64).toInt = 1048576 := rfl
theorem own_c6 : (8388608 : Int64).toInt = 8388608 := rfl
theorem own_c7 : (16777216 : Int64).toInt = 16777216 := rfl
theorem own_ix {p : Int32} {m : Int64} {g b : Int32} (ad : Nat → Addr) (hG : own_G p g) (hB : own_B m b) : ∃ k : Nat, k < 24 ∧ g * (6 : Int32) + b = Int32.ofNat k ∧ (own_tab ad).getD k .null = .ref (ad (own_cls p m)) := by
  rcases hG with ⟨rfl, h1⟩ | ⟨rfl, h1, h2⟩ | ⟨rfl, h1, h2⟩ | ⟨rfl, h1⟩ <;> rcases hB with ⟨rfl, k1⟩ | ⟨rfl, k1, k2⟩ | ⟨rfl, k1⟩ | ⟨rfl, k1, k2, k3⟩ | ⟨rfl, k1, k2⟩ | ⟨rfl, k1⟩
  · have e : own_cls p m = 1 := by
      simp only [own_lt, own_ltL, own_eqL, own_c1, own_c2, own_c3, own_c4, own_c5, own_c6, own_c7] at *
      unfold own_cls
      simp only [own_lt, own_ltL, own_c1, own_c2, own_c3, own_c4, own_c5, own_c6, own_c7]
      repeat' split
      all_goals first | rfl | (exfalso; omega)
    exact ⟨0, by decide, rfl, by rw [e]; rfl⟩
  · have e : own_cls p m = 1 := by
      simp only [own_lt, own_ltL, own_eqL, own_c1, own_c2, own_c3, own_c4, own_c5, own_c6, own_c7] at *
      unfold own_cls
      simp only [own_lt, own_ltL, own_c1, own_c2, own_c3, own_c4, own_c5, own_c6, own_c7]
      repeat' split
      all_goals first | rfl | (exfalso; omega)
    exact ⟨1, by decide, rfl, by rw [e]; rfl⟩
  · have e : own_cls p m = 1 := by
      simp only [own_lt, own_ltL, own_eqL, own_c1, own_c2, own_c3, own_c4, own_c5, own_c6, own_c7] at *
      unfold own_cls
      simp only [own_lt, own_ltL, own_c1, own_c2, own_c3, own_c4, own_c5, own_c6, own_c7]
      repeat' split
      all_goals first | rfl | (exfalso; omega)
    exact ⟨2, by decide, rfl, by rw [e]; rfl⟩
  · have e : own_cls p m = 2 := by
      simp only [own_lt, own_ltL, own_eqL, own_c1, own_c2, own_c3, own_c4, own_c5, own_c6, own_c7] at *
      unfold own_cls
      simp only [own_lt, own_ltL, own_c1, own_c2, own_c3, own_c4, own_c5, own_c6, own_c7]
      repeat' split
      all_goals first | rfl | (exfalso; omega)
    exact ⟨3, by decide, rfl, by rw [e]; rfl⟩
  · have e : own_cls p m = 2 := by
      simp only [own_lt, own_ltL, own_eqL, own_c1, own_c2, own_c3, own_c4, own_c5, own_c6, own_c7] at *
      unfold own_cls
      simp only [own_lt, own_ltL, own_c1, own_c2, own_c3, own_c4, own_c5, own_c6, own_c7]
      repeat' split
      all_goals first | rfl | (exfalso; omega)
    exact ⟨4, by decide, rfl, by rw [e]; rfl⟩
  · have e : own_cls p m = 2 := by
      simp only [own_lt, own_ltL, own_eqL, own_c1, own_c2, own_c3, own_c4, own_c5, own_c6, own_c7] at *
      unfold own_cls
      simp only [own_lt, own_ltL, own_c1, own_c2, own_c3, own_c4, own_c5, own_c6, own_c7]
      repeat' split
      all_goals first | rfl | (exfalso; omega)
    exact ⟨5, by decide, rfl, by rw [e]; rfl⟩
  · have e : own_cls p m = 0 := by
      simp only [own_lt, own_ltL, own_eqL, own_c1, own_c2, own_c3, own_c4, own_c5, own_c6, own_c7] at *
      unfold own_cls
      simp only [own_lt, own_ltL, own_c1, own_c2, own_c3, own_c4, own_c5, own_c6, own_c7]
      repeat' split
      all_goals first | rfl | (exfalso; omega)
    exact ⟨6, by decide, rfl, by rw [e]; rfl⟩
  · have e : own_cls p m = 1 := by
      simp only [own_lt, own_ltL, own_eqL, own_c1, own_c2, own_c3, own_c4, own_c5, own_c6, own_c7] at *
      unfold own_cls
      simp only [own_lt, own_ltL, own_c1, own_c2, own_c3, own_c4, own_c5, own_c6, own_c7]
      repeat' split
      all_goals first | rfl | (exfalso; omega)
    exact ⟨7, by decide, rfl, by rw [e]; rfl⟩
  · have e : own_cls p m = 1 := by
      simp only [own_lt, own_ltL, own_eqL, own_c1, own_c2, own_c3, own_c4, own_c5, own_c6, own_c7] at *
      unfold own_cls
      simp only [own_lt, own_ltL, own_c1, own_c2, own_c3, own_c4, own_c5, own_c6, own_c7]
      repeat' split
      all_goals first | rfl | (exfalso; omega)
    exact ⟨8, by decide, rfl, by rw [e]; rfl⟩
  · have e : own_cls p m = 1 := by
      simp only [own_lt, own_ltL, own_eqL, own_c1, own_c2, own_c3, own_c4, own_c5, own_c6, own_c7] at *
      unfold own_cls
      simp only [own_lt, own_ltL, own_c1, own_c2, own_c3, own_c4, own_c5, own_c6, own_c7]
      repeat' split
      all_goals first | rfl | (exfalso; omega)
    exact ⟨9, by decide, rfl, by rw [e]; rfl⟩
  · have e : own_cls p m = 2 := by
      simp only [own_lt, own_ltL, own_eqL, own_c1, own_c2, own_c3, own_c4, own_c5, own_c6, own_c7] at *
      unfold own_cls
      simp only [own_lt, own_ltL, own_c1, own_c2, own_c3, own_c4, own_c5, own_c6, own_c7]
      repeat' split
      all_goals first | rfl | (exfalso; omega)
    exact ⟨10, by decide, rfl, by rw [e]; rfl⟩
  · have e : own_cls p m = 2 := by
      simp only [own_lt, own_ltL, own_eqL, own_c1, own_c2, own_c3, own_c4, own_c5, own_c6, own_c7] at *
      unfold own_cls
      simp only [own_lt, own_ltL, own_c1, own_c2, own_c3, own_c4, own_c5, own_c6, own_c7]
      repeat' split
      all_goals first | rfl | (exfalso; omega)
    exact ⟨11, by decide, rfl, by rw [e]; rfl⟩
  · have e : own_cls p m = 0 := by
      simp only [own_lt, own_ltL, own_eqL, own_c1, own_c2, own_c3, own_c4, own_c5, own_c6, own_c7] at *
      unfold own_cls
      simp only [own_lt, own_ltL, own_c1, own_c2, own_c3, own_c4, own_c5, own_c6, own_c7]
      repeat' split
      all_goals first | rfl | (exfalso; omega)
    exact ⟨12, by decide, rfl, by rw [e]; rfl⟩
  · have e : own_cls p m = 0 := by
      simp only [own_lt, own_ltL, own_eqL, own_c1, own_c2, own_c3, own_c4, own_c5, own_c6, own_c7] at *
      unfold own_cls
      simp only [own_lt, own_ltL, own_c1, own_c2, own_c3, own_c4, own_c5, own_c6, own_c7]
      repeat' split
      all_goals first | rfl | (exfalso; omega)
    exact ⟨13, by decide, rfl, by rw [e]; rfl⟩
  · have e : own_cls p m = 1 := by
      simp only [own_lt, own_ltL, own_eqL, own_c1, own_c2, own_c3, own_c4, own_c5, own_c6, own_c7] at *
      unfold own_cls
      simp only [own_lt, own_ltL, own_c1, own_c2, own_c3, own_c4, own_c5, own_c6, own_c7]
      repeat' split
      all_goals first | rfl | (exfalso; omega)
    exact ⟨14, by decide, rfl, by rw [e]; rfl⟩
  · have e : own_cls p m = 1 := by
      simp only [own_lt, own_ltL, own_eqL, own_c1, own_c2, own_c3, own_c4, own_c5, own_c6, own_c7] at *
      unfold own_cls
      simp only [own_lt, own_ltL, own_c1, own_c2, own_c3, own_c4, own_c5, own_c6, own_c7]
      repeat' split
      all_goals first | rfl | (exfalso; omega)
    exact ⟨15, by decide, rfl, by rw [e]; rfl⟩
  · have e : own_cls p m = 1 := by
      simp only [own_lt, own_ltL, own_eqL, own_c1, own_c2, own_c3, own_c4, own_c5, own_c6, own_c7] at *
      unfold own_cls
      simp only [own_lt, own_ltL, own_c1, own_c2, own_c3, own_c4, own_c5, own_c6, own_c7]
      repeat' split
      all_goals first | rfl | (exfalso; omega)
    exact ⟨16, by decide, rfl, by rw [e]; rfl⟩
  · have e : own_cls p m = 2 := by
      simp only [own_lt, own_ltL, own_eqL, own_c1, own_c2, own_c3, own_c4, own_c5, own_c6, own_c7] at *
      unfold own_cls
      simp only [own_lt, own_ltL, own_c1, own_c2, own_c3, own_c4, own_c5, own_c6, own_c7]
      repeat' split
      all_goals first | rfl | (exfalso; omega)
    exact ⟨17, by decide, rfl, by rw [e]; rfl⟩
  · have e : own_cls p m = 0 := by
      simp only [own_lt, own_ltL, own_eqL, own_c1, own_c2, own_c3, own_c4, own_c5, own_c6, own_c7] at *
      unfold own_cls
      simp only [own_lt, own_ltL, own_c1, own_c2, own_c3, own_c4, own_c5, own_c6, own_c7]
      repeat' split
      all_goals first | rfl | (exfalso; omega)
    exact ⟨18, by decide, rfl, by rw [e]; rfl⟩
  · have e : own_cls p m = 0 := by
      simp only [own_lt, own_ltL, own_eqL, own_c1, own_c2, own_c3, own_c4, own_c5, own_c6, own_c7] at *
      unfold own_cls
      simp only [own_lt, own_ltL, own_c1, own_c2, own_c3, own_c4, own_c5, own_c6, own_c7]
      repeat' split
      all_goals first | rfl | (exfalso; omega)
    exact ⟨19, by decide, rfl, by rw [e]; rfl⟩
  · have e : own_cls p m = 0 := by
      simp only [own_lt, own_ltL, own_eqL, own_c1, own_c2, own_c3, own_c4, own_c5, own_c6, own_c7] at *
      unfold own_cls
      simp only [own_lt, own_ltL, own_c1, own_c2, own_c3, own_c4, own_c5, own_c6, own_c7]
      repeat' split
      all_goals first | rfl | (exfalso; omega)
    exact ⟨20, by decide, rfl, by rw [e]; rfl⟩
  · have e : own_cls p m = 0 := by
      simp only [own_lt, own_ltL, own_eqL, own_c1, own_c2, own_c3, own_c4, own_c5, own_c6, own_c7] at *
      unfold own_cls
      simp only [own_lt, own_ltL, own_c1, own_c2, own_c3, own_c4, own_c5, own_c6, own_c7]
      repeat' split
      all_goals first | rfl | (exfalso; omega)
    exact ⟨21, by decide, rfl, by rw [e]; rfl⟩
  · have e : own_cls p m = 3 := by
      simp only [own_lt, own_ltL, own_eqL, own_c1, own_c2, own_c3, own_c4, own_c5, own_c6, own_c7] at *
      unfold own_cls
      simp only [own_lt, own_ltL, own_c1, own_c2, own_c3, own_c4, own_c5, own_c6, own_c7]
      repeat' split
      all_goals first | rfl | (exfalso; omega)
    exact ⟨22, by decide, rfl, by rw [e]; rfl⟩
  · have e : own_cls p m = 3 := by
      simp only [own_lt, own_ltL, own_eqL, own_c1, own_c2, own_c3, own_c4, own_c5, own_c6, own_c7] at *
      unfold own_cls
      simp only [own_lt, own_ltL, own_c1, own_c2, own_c3, own_c4, own_c5, own_c6, own_c7]
      repeat' split
      all_goals first | rfl | (exfalso; omega)
    exact ⟨23, by decide, rfl, by rw [e]; rfl⟩
theorem own_pd0 : parseMethodDescriptor "(IJ)Lcom/example/jobwright/jobwright/workload/O2kJobs$RequestClass;" = some ⟨[.int, .long], some (.object "com/example/jobwright/jobwright/workload/O2kJobs$RequestClass")⟩ := by decide +kernel
theorem own_pn0 : plainName "com/example/jobwright/jobwright/workload/RequestClassOfPinLaw" = true := by first | (simp [plainName, overriddenIn]; done) | decide +kernel
theorem own_pn1 : plainName "com/example/jobwright/jobwright/workload/O2kJobs$RequestClass" = true := by first | (simp [plainName, overriddenIn]; done) | decide +kernel
theorem d1_0 : decode method_3_code 0 = .ok (.iload_n 0, 1) := by decide +kernel
theorem d1_1 : decode method_3_code 1 = .ok (.iconst 2, 1) := by decide +kernel
theorem d1_2 : decode method_3_code 2 = .ok (.if_icmp .gt 7, 3) := by decide +kernel
theorem d1_5 : decode method_3_code 5 = .ok (.iconst 0, 1) := by decide +kernel
theorem d1_6 : decode method_3_code 6 = .ok (.goto 24, 3) := by decide +kernel
theorem d1_9 : decode method_3_code 9 = .ok (.iload_n 0, 1) := by decide +kernel
theorem d1_10 : decode method_3_code 10 = .ok (.bipush 8, 2) := by decide +kernel
theorem d1_12 : decode method_3_code 12 = .ok (.if_icmp .gt 7, 3) := by decide +kernel
theorem d1_15 : decode method_3_code 15 = .ok (.iconst 1, 1) := by decide +kernel
theorem d1_16 : decode method_3_code 16 = .ok (.goto 14, 3) := by decide +kernel
theorem d1_19 : decode method_3_code 19 = .ok (.iload_n 0, 1) := by decide +kernel
theorem d1_20 : decode method_3_code 20 = .ok (.bipush 32, 2) := by decide +kernel
theorem d1_22 : decode method_3_code 22 = .ok (.if_icmp .gt 7, 3) := by decide +kernel
theorem d1_25 : decode method_3_code 25 = .ok (.iconst 2, 1) := by decide +kernel
theorem d1_26 : decode method_3_code 26 = .ok (.goto 4, 3) := by decide +kernel
theorem d1_29 : decode method_3_code 29 = .ok (.iconst 3, 1) := by decide +kernel
theorem d1_30 : decode method_3_code 30 = .ok (.istore_n 3, 1) := by decide +kernel
theorem d1_31 : decode method_3_code 31 = .ok (.lload_n 1, 1) := by decide +kernel
theorem d1_32 : decode method_3_code 32 = .ok (.ldc2_w 7, 3) := by decide +kernel
theorem d1_35 : decode method_3_code 35 = .ok (.lcmp, 1) := by decide +kernel
theorem d1_36 : decode method_3_code 36 = .ok (.ifCond .ge 9, 3) := by decide +kernel
theorem d1_39 : decode method_3_code 39 = .ok (.iconst 0, 1) := by decide +kernel
theorem d1_40 : decode method_3_code 40 = .ok (.istore 4, 2) := by decide +kernel
theorem d1_42 : decode method_3_code 42 = .ok (.goto 62, 3) := by decide +kernel
theorem d1_45 : decode method_3_code 45 = .ok (.lload_n 1, 1) := by decide +kernel
theorem d1_46 : decode method_3_code 46 = .ok (.ldc2_w 9, 3) := by decide +kernel
theorem d1_49 : decode method_3_code 49 = .ok (.lcmp, 1) := by decide +kernel
theorem d1_50 : decode method_3_code 50 = .ok (.ifCond .ge 9, 3) := by decide +kernel
theorem d1_53 : decode method_3_code 53 = .ok (.iconst 1, 1) := by decide +kernel
theorem d1_54 : decode method_3_code 54 = .ok (.istore 4, 2) := by decide +kernel
theorem d1_56 : decode method_3_code 56 = .ok (.goto 48, 3) := by decide +kernel
theorem d1_59 : decode method_3_code 59 = .ok (.lload_n 1, 1) := by decide +kernel
theorem d1_60 : decode method_3_code 60 = .ok (.ldc2_w 9, 3) := by decide +kernel
theorem d1_63 : decode method_3_code 63 = .ok (.lcmp, 1) := by decide +kernel
theorem d1_64 : decode method_3_code 64 = .ok (.ifCond .ne 9, 3) := by decide +kernel
theorem d1_67 : decode method_3_code 67 = .ok (.iconst 2, 1) := by decide +kernel
theorem d1_68 : decode method_3_code 68 = .ok (.istore 4, 2) := by decide +kernel
theorem d1_70 : decode method_3_code 70 = .ok (.goto 34, 3) := by decide +kernel
theorem d1_73 : decode method_3_code 73 = .ok (.lload_n 1, 1) := by decide +kernel
theorem d1_74 : decode method_3_code 74 = .ok (.ldc2_w 11, 3) := by decide +kernel
theorem d1_77 : decode method_3_code 77 = .ok (.lcmp, 1) := by decide +kernel
theorem d1_78 : decode method_3_code 78 = .ok (.ifCond .gt 9, 3) := by decide +kernel
theorem d1_81 : decode method_3_code 81 = .ok (.iconst 3, 1) := by decide +kernel
theorem d1_82 : decode method_3_code 82 = .ok (.istore 4, 2) := by decide +kernel
theorem d1_84 : decode method_3_code 84 = .ok (.goto 20, 3) := by decide +kernel
theorem d1_87 : decode method_3_code 87 = .ok (.lload_n 1, 1) := by decide +kernel
theorem d1_88 : decode method_3_code 88 = .ok (.ldc2_w 13, 3) := by decide +kernel
theorem d1_91 : decode method_3_code 91 = .ok (.lcmp, 1) := by decide +kernel
theorem d1_92 : decode method_3_code 92 = .ok (.ifCond .gt 9, 3) := by decide +kernel
theorem d1_95 : decode method_3_code 95 = .ok (.iconst 4, 1) := by decide +kernel
theorem d1_96 : decode method_3_code 96 = .ok (.istore 4, 2) := by decide +kernel
theorem d1_98 : decode method_3_code 98 = .ok (.goto 6, 3) := by decide +kernel
theorem d1_101 : decode method_3_code 101 = .ok (.iconst 5, 1) := by decide +kernel
theorem d1_102 : decode method_3_code 102 = .ok (.istore 4, 2) := by decide +kernel
theorem d1_104 : decode method_3_code 104 = .ok (.getstatic 28, 3) := by decide +kernel
theorem d1_107 : decode method_3_code 107 = .ok (.astore 5, 2) := by decide +kernel
theorem d1_109 : decode method_3_code 109 = .ok (.getstatic 32, 3) := by decide +kernel
theorem d1_112 : decode method_3_code 112 = .ok (.astore 6, 2) := by decide +kernel
theorem d1_114 : decode method_3_code 114 = .ok (.getstatic 35, 3) := by decide +kernel
theorem d1_117 : decode method_3_code 117 = .ok (.astore 7, 2) := by decide +kernel
theorem d1_119 : decode method_3_code 119 = .ok (.getstatic 38, 3) := by decide +kernel
theorem d1_122 : decode method_3_code 122 = .ok (.astore 8, 2) := by decide +kernel
theorem d1_124 : decode method_3_code 124 = .ok (.bipush 24, 2) := by decide +kernel
theorem d1_126 : decode method_3_code 126 = .ok (.anewarray 24, 3) := by decide +kernel
theorem d1_129 : decode method_3_code 129 = .ok (.dup, 1) := by decide +kernel
theorem d1_130 : decode method_3_code 130 = .ok (.iconst 0, 1) := by decide +kernel
theorem d1_131 : decode method_3_code 131 = .ok (.aload 6, 2) := by decide +kernel
theorem d1_133 : decode method_3_code 133 = .ok (.aastore, 1) := by decide +kernel
theorem d1_134 : decode method_3_code 134 = .ok (.dup, 1) := by decide +kernel
theorem d1_135 : decode method_3_code 135 = .ok (.iconst 1, 1) := by decide +kernel
theorem d1_136 : decode method_3_code 136 = .ok (.aload 6, 2) := by decide +kernel
theorem d1_138 : decode method_3_code 138 = .ok (.aastore, 1) := by decide +kernel
theorem d1_139 : decode method_3_code 139 = .ok (.dup, 1) := by decide +kernel
theorem d1_140 : decode method_3_code 140 = .ok (.iconst 2, 1) := by decide +kernel
theorem d1_141 : decode method_3_code 141 = .ok (.aload 6, 2) := by decide +kernel
theorem d1_143 : decode method_3_code 143 = .ok (.aastore, 1) := by decide +kernel
theorem d1_144 : decode method_3_code 144 = .ok (.dup, 1) := by decide +kernel
theorem d1_145 : decode method_3_code 145 = .ok (.iconst 3, 1) := by decide +kernel
theorem d1_146 : decode method_3_code 146 = .ok (.aload 7, 2) := by decide +kernel
theorem d1_148 : decode method_3_code 148 = .ok (.aastore, 1) := by decide +kernel
theorem d1_149 : decode method_3_code 149 = .ok (.dup, 1) := by decide +kernel
theorem d1_150 : decode method_3_code 150 = .ok (.iconst 4, 1) := by decide +kernel
theorem d1_151 : decode method_3_code 151 = .ok (.aload 7, 2) := by decide +kernel
theorem d1_153 : decode method_3_code 153 = .ok (.aastore, 1) := by decide +kernel
theorem d1_154 : decode method_3_code 154 = .ok (.dup, 1) := by decide +kernel
theorem d1_155 : decode method_3_code 155 = .ok (.iconst 5, 1) := by decide +kernel
theorem d1_156 : decode method_3_code 156 = .ok (.aload 7, 2) := by decide +kernel
theorem d1_158 : decode method_3_code 158 = .ok (.aastore, 1) := by decide +kernel
theorem d1_159 : decode method_3_code 159 = .ok (.dup, 1) := by decide +kernel
theorem d1_160 : decode method_3_code 160 = .ok (.bipush 6, 2) := by decide +kernel
theorem d1_162 : decode method_3_code 162 = .ok (.aload 5, 2) := by decide +kernel
theorem d1_164 : decode method_3_code 164 = .ok (.aastore, 1) := by decide +kernel
theorem d1_165 : decode method_3_code 165 = .ok (.dup, 1) := by decide +kernel
theorem d1_166 : decode method_3_code 166 = .ok (.bipush 7, 2) := by decide +kernel
theorem d1_168 : decode method_3_code 168 = .ok (.aload 6, 2) := by decide +kernel
theorem d1_170 : decode method_3_code 170 = .ok (.aastore, 1) := by decide +kernel
theorem d1_171 : decode method_3_code 171 = .ok (.dup, 1) := by decide +kernel
theorem d1_172 : decode method_3_code 172 = .ok (.bipush 8, 2) := by decide +kernel
theorem d1_174 : decode method_3_code 174 = .ok (.aload 6, 2) := by decide +kernel
theorem d1_176 : decode method_3_code 176 = .ok (.aastore, 1) := by decide +kernel
theorem d1_177 : decode method_3_code 177 = .ok (.dup, 1) := by decide +kernel
theorem d1_178 : decode method_3_code 178 = .ok (.bipush 9, 2) := by decide +kernel
theorem d1_180 : decode method_3_code 180 = .ok (.aload 6, 2) := by decide +kernel
theorem d1_182 : decode method_3_code 182 = .ok (.aastore, 1) := by decide +kernel
theorem d1_183 : decode method_3_code 183 = .ok (.dup, 1) := by decide +kernel
theorem d1_184 : decode method_3_code 184 = .ok (.bipush 10, 2) := by decide +kernel
theorem d1_186 : decode method_3_code 186 = .ok (.aload 7, 2) := by decide +kernel
theorem d1_188 : decode method_3_code 188 = .ok (.aastore, 1) := by decide +kernel
theorem d1_189 : decode method_3_code 189 = .ok (.dup, 1) := by decide +kernel
theorem d1_190 : decode method_3_code 190 = .ok (.bipush 11, 2) := by decide +kernel
theorem d1_192 : decode method_3_code 192 = .ok (.aload 7, 2) := by decide +kernel
theorem d1_194 : decode method_3_code 194 = .ok (.aastore, 1) := by decide +kernel
theorem d1_195 : decode method_3_code 195 = .ok (.dup, 1) := by decide +kernel
theorem d1_196 : decode method_3_code 196 = .ok (.bipush 12, 2) := by decide +kernel
theorem d1_198 : decode method_3_code 198 = .ok (.aload 5, 2) := by decide +kernel
theorem d1_200 : decode method_3_code 200 = .ok (.aastore, 1) := by decide +kernel
theorem d1_201 : decode method_3_code 201 = .ok (.dup, 1) := by decide +kernel
theorem d1_202 : decode method_3_code 202 = .ok (.bipush 13, 2) := by decide +kernel
theorem d1_204 : decode method_3_code 204 = .ok (.aload 5, 2) := by decide +kernel
theorem d1_206 : decode method_3_code 206 = .ok (.aastore, 1) := by decide +kernel
theorem d1_207 : decode method_3_code 207 = .ok (.dup, 1) := by decide +kernel
theorem d1_208 : decode method_3_code 208 = .ok (.bipush 14, 2) := by decide +kernel
theorem d1_210 : decode method_3_code 210 = .ok (.aload 6, 2) := by decide +kernel
theorem d1_212 : decode method_3_code 212 = .ok (.aastore, 1) := by decide +kernel
theorem d1_213 : decode method_3_code 213 = .ok (.dup, 1) := by decide +kernel
theorem d1_214 : decode method_3_code 214 = .ok (.bipush 15, 2) := by decide +kernel
theorem d1_216 : decode method_3_code 216 = .ok (.aload 6, 2) := by decide +kernel
theorem d1_218 : decode method_3_code 218 = .ok (.aastore, 1) := by decide +kernel
theorem d1_219 : decode method_3_code 219 = .ok (.dup, 1) := by decide +kernel
theorem d1_220 : decode method_3_code 220 = .ok (.bipush 16, 2) := by decide +kernel
theorem d1_222 : decode method_3_code 222 = .ok (.aload 6, 2) := by decide +kernel
theorem d1_224 : decode method_3_code 224 = .ok (.aastore, 1) := by decide +kernel
theorem d1_225 : decode method_3_code 225 = .ok (.dup, 1) := by decide +kernel
theorem d1_226 : decode method_3_code 226 = .ok (.bipush 17, 2) := by decide +kernel
theorem d1_228 : decode method_3_code 228 = .ok (.aload 7, 2) := by decide +kernel
theorem d1_230 : decode method_3_code 230 = .ok (.aastore, 1) := by decide +kernel
theorem d1_231 : decode method_3_code 231 = .ok (.dup, 1) := by decide +kernel
theorem d1_232 : decode method_3_code 232 = .ok (.bipush 18, 2) := by decide +kernel
theorem d1_234 : decode method_3_code 234 = .ok (.aload 5, 2) := by decide +kernel
theorem d1_236 : decode method_3_code 236 = .ok (.aastore, 1) := by decide +kernel
theorem d1_237 : decode method_3_code 237 = .ok (.dup, 1) := by decide +kernel
theorem d1_238 : decode method_3_code 238 = .ok (.bipush 19, 2) := by decide +kernel
theorem d1_240 : decode method_3_code 240 = .ok (.aload 5, 2) := by decide +kernel
theorem d1_242 : decode method_3_code 242 = .ok (.aastore, 1) := by decide +kernel
theorem d1_243 : decode method_3_code 243 = .ok (.dup, 1) := by decide +kernel
theorem d1_244 : decode method_3_code 244 = .ok (.bipush 20, 2) := by decide +kernel
theorem d1_246 : decode method_3_code 246 = .ok (.aload 5, 2) := by decide +kernel
theorem d1_248 : decode method_3_code 248 = .ok (.aastore, 1) := by decide +kernel
theorem d1_249 : decode method_3_code 249 = .ok (.dup, 1) := by decide +kernel
theorem d1_250 : decode method_3_code 250 = .ok (.bipush 21, 2) := by decide +kernel
theorem d1_252 : decode method_3_code 252 = .ok (.aload 5, 2) := by decide +kernel
theorem d1_254 : decode method_3_code 254 = .ok (.aastore, 1) := by decide +kernel
theorem d1_255 : decode method_3_code 255 = .ok (.dup, 1) := by decide +kernel
theorem d1_256 : decode method_3_code 256 = .ok (.bipush 22, 2) := by decide +kernel
theorem d1_258 : decode method_3_code 258 = .ok (.aload 8, 2) := by decide +kernel
theorem d1_260 : decode method_3_code 260 = .ok (.aastore, 1) := by decide +kernel
theorem d1_261 : decode method_3_code 261 = .ok (.dup, 1) := by decide +kernel
theorem d1_262 : decode method_3_code 262 = .ok (.bipush 23, 2) := by decide +kernel
theorem d1_264 : decode method_3_code 264 = .ok (.aload 8, 2) := by decide +kernel
theorem d1_266 : decode method_3_code 266 = .ok (.aastore, 1) := by decide +kernel
theorem d1_267 : decode method_3_code 267 = .ok (.astore 9, 2) := by decide +kernel
theorem d1_269 : decode method_3_code 269 = .ok (.aload 9, 2) := by decide +kernel
theorem d1_271 : decode method_3_code 271 = .ok (.iload_n 3, 1) := by decide +kernel
theorem d1_272 : decode method_3_code 272 = .ok (.bipush 6, 2) := by decide +kernel
theorem d1_274 : decode method_3_code 274 = .ok (.imul, 1) := by decide +kernel
theorem d1_275 : decode method_3_code 275 = .ok (.iload 4, 2) := by decide +kernel
theorem d1_277 : decode method_3_code 277 = .ok (.iadd, 1) := by decide +kernel
theorem d1_278 : decode method_3_code 278 = .ok (.aaload, 1) := by decide +kernel
theorem d1_279 : decode method_3_code 279 = .ok (.areturn, 1) := by decide +kernel
theorem d2_0 : decode prog_200_method_4_code 0 = .ok (.iload_n 0, 1) := by decide +kernel
theorem d2_1 : decode prog_200_method_4_code 1 = .ok (.bipush 32, 2) := by decide +kernel
theorem d2_3 : decode prog_200_method_4_code 3 = .ok (.if_icmp .le 21, 3) := by decide +kernel
theorem d2_6 : decode prog_200_method_4_code 6 = .ok (.lload_n 1, 1) := by decide +kernel
theorem d2_7 : decode prog_200_method_4_code 7 = .ok (.ldc2_w 37, 3) := by decide +kernel
theorem d2_10 : decode prog_200_method_4_code 10 = .ok (.lcmp, 1) := by decide +kernel
theorem d2_11 : decode prog_200_method_4_code 11 = .ok (.ifCond .le 9, 3) := by decide +kernel
theorem d2_14 : decode prog_200_method_4_code 14 = .ok (.getstatic 15, 3) := by decide +kernel
theorem d2_17 : decode prog_200_method_4_code 17 = .ok (.goto 6, 3) := by decide +kernel
theorem d2_20 : decode prog_200_method_4_code 20 = .ok (.getstatic 5, 3) := by decide +kernel
theorem d2_23 : decode prog_200_method_4_code 23 = .ok (.areturn, 1) := by decide +kernel
theorem d2_24 : decode prog_200_method_4_code 24 = .ok (.iload_n 0, 1) := by decide +kernel
theorem d2_25 : decode prog_200_method_4_code 25 = .ok (.bipush 8, 2) := by decide +kernel
theorem d2_27 : decode prog_200_method_4_code 27 = .ok (.if_icmp .le 35, 3) := by decide +kernel
theorem d2_30 : decode prog_200_method_4_code 30 = .ok (.lload_n 1, 1) := by decide +kernel
theorem d2_31 : decode prog_200_method_4_code 31 = .ok (.ldc2_w 39, 3) := by decide +kernel
theorem d2_34 : decode prog_200_method_4_code 34 = .ok (.lcmp, 1) := by decide +kernel
theorem d2_35 : decode prog_200_method_4_code 35 = .ok (.ifCond .ge 9, 3) := by decide +kernel
theorem d2_38 : decode prog_200_method_4_code 38 = .ok (.getstatic 5, 3) := by decide +kernel
theorem d2_41 : decode prog_200_method_4_code 41 = .ok (.goto 20, 3) := by decide +kernel
theorem d2_44 : decode prog_200_method_4_code 44 = .ok (.lload_n 1, 1) := by decide +kernel
theorem d2_45 : decode prog_200_method_4_code 45 = .ok (.ldc2_w 41, 3) := by decide +kernel
theorem d2_48 : decode prog_200_method_4_code 48 = .ok (.lcmp, 1) := by decide +kernel
theorem d2_49 : decode prog_200_method_4_code 49 = .ok (.ifCond .le 9, 3) := by decide +kernel
theorem d2_52 : decode prog_200_method_4_code 52 = .ok (.getstatic 12, 3) := by decide +kernel
theorem d2_55 : decode prog_200_method_4_code 55 = .ok (.goto 6, 3) := by decide +kernel
theorem d2_58 : decode prog_200_method_4_code 58 = .ok (.getstatic 9, 3) := by decide +kernel
theorem d2_61 : decode prog_200_method_4_code 61 = .ok (.areturn, 1) := by decide +kernel
theorem d2_62 : decode prog_200_method_4_code 62 = .ok (.iload_n 0, 1) := by decide +kernel
theorem d2_63 : decode prog_200_method_4_code 63 = .ok (.iconst 2, 1) := by decide +kernel
theorem d2_64 : decode prog_200_method_4_code 64 = .ok (.if_icmp .le 35, 3) := by decide +kernel
theorem d2_67 : decode prog_200_method_4_code 67 = .ok (.lload_n 1, 1) := by decide +kernel
theorem d2_68 : decode prog_200_method_4_code 68 = .ok (.ldc2_w 43, 3) := by decide +kernel
theorem d2_71 : decode prog_200_method_4_code 71 = .ok (.lcmp, 1) := by decide +kernel
theorem d2_72 : decode prog_200_method_4_code 72 = .ok (.ifCond .ge 9, 3) := by decide +kernel
theorem d2_75 : decode prog_200_method_4_code 75 = .ok (.getstatic 5, 3) := by decide +kernel
theorem d2_78 : decode prog_200_method_4_code 78 = .ok (.goto 20, 3) := by decide +kernel
theorem d2_81 : decode prog_200_method_4_code 81 = .ok (.lload_n 1, 1) := by decide +kernel
theorem d2_82 : decode prog_200_method_4_code 82 = .ok (.ldc2_w 37, 3) := by decide +kernel
theorem d2_85 : decode prog_200_method_4_code 85 = .ok (.lcmp, 1) := by decide +kernel
theorem d2_86 : decode prog_200_method_4_code 86 = .ok (.ifCond .le 9, 3) := by decide +kernel
theorem d2_89 : decode prog_200_method_4_code 89 = .ok (.getstatic 12, 3) := by decide +kernel
theorem d2_92 : decode prog_200_method_4_code 92 = .ok (.goto 6, 3) := by decide +kernel
theorem d2_95 : decode prog_200_method_4_code 95 = .ok (.getstatic 9, 3) := by decide +kernel
theorem d2_98 : decode prog_200_method_4_code 98 = .ok (.areturn, 1) := by decide +kernel
theorem d2_99 : decode prog_200_method_4_code 99 = .ok (.lload_n 1, 1) := by decide +kernel
theorem d2_100 : decode prog_200_method_4_code 100 = .ok (.ldc2_w 39, 3) := by decide +kernel
theorem d2_103 : decode prog_200_method_4_code 103 = .ok (.lcmp, 1) := by decide +kernel
theorem d2_104 : decode prog_200_method_4_code 104 = .ok (.ifCond .le 9, 3) := by decide +kernel
theorem d2_107 : decode prog_200_method_4_code 107 = .ok (.getstatic 12, 3) := by decide +kernel
theorem d2_110 : decode prog_200_method_4_code 110 = .ok (.goto 6, 3) := by decide +kernel
theorem d2_113 : decode prog_200_method_4_code 113 = .ok (.getstatic 9, 3) := by decide +kernel
theorem d2_116 : decode prog_200_method_4_code 116 = .ok (.areturn, 1) := by decide +kernel
set_option maxRecDepth 65536 in
set_option maxHeartbeats 40000000 in
theorem rm1 (l : Launch) (Z : State) (a0 : Array Value) (hw : ∀ d ∈ tables_1, d.before a0 Z = true) (ws : List Jvm.Cond) (p1 : Int32) (q2 : Int64) (ad : Nat → Addr) (h0 : Heap) (n0 : Nat) (Z0 : n0 ≤ h0.size) (hS : ∀ k, k < 4 → Sta Z h0 "com/example/jobwright/jobwright/workload/O2kJobs$RequestClass" (own_nm k) "Lcom/example/jobwright/jobwright/workload/O2kJobs$RequestClass;" (.ref (ad k))) (hE : ∀ k, k < 4 → Exa Z h0 (ad k) "com/example/jobwright/jobwright/workload/O2kJobs$RequestClass") :
    MetFree l (⟨"com/example/jobwright/jobwright/workload/RequestClassOfPinLaw", "expected", "(IJ)Lcom/example/jobwright/jobwright/workload/O2kJobs$RequestClass;"⟩ : MethodName) (head1 (Jvm.Cond.code (⟨"com/example/jobwright/jobwright/workload/RequestClassOfPinLaw", "expected", "(IJ)Lcom/example/jobwright/jobwright/workload/O2kJobs$RequestClass;"⟩ : MethodName) method_3_code 10 (some (.object "com/example/jobwright/jobwright/workload/O2kJobs$RequestClass")) :: ws) ({ frames := 0, cells := 1, slots := 24, locals := 0 } : Room)) (fun a U => a = #[(.int p1), (.long q2)] ∧ Z.Warmed39 U.vm ∧ U.heap = h0) (fun _ _ _ _ _ => True) (fun _ U o U' => ∃ v L, o = .returned v ∧ own_Q (fun v h L => (v = some (.ref (ad (own_cls p1 q2))) ∧ Fr n0 L ∧ Ext h0 h)) v U'.heap L ∧ FrameEnd U o U' L ({ frames := 0, cells := 1, slots := 24, locals := 0 } : Room).cells ({ frames := 0, cells := 1, slots := 24, locals := 0 } : Room).slots) := by
  refine MetFree.of_bodySF (plainFor_of_name own_pn0) hisR ?_
  intro p e s m args below meth c s₁ Bd hml0 hP hK
  obtain ⟨rfl, hZ, hh⟩ := hP
  have hx := Bd.exec
  have hby := Bd.bytes
  have hml : c.maxLocals = 10 := hml0
  have hown : s.vm.findClass "com/example/jobwright/jobwright/workload/RequestClassOfPinLaw" = some m.cls := findClass_of_methodNamed Bd.named
  have hnm := (name_of_methodNamed Bd.named Bd.method).1
  have X0 : Stand p l e ({ frames := 0, cells := 1, slots := 24, locals := 0 } : Room) s m #[(.int p1), (.long q2)] below meth c s₁ [] 0 0 := Stand.of_body Bd
  have e0 : s₁.heap = h0 := by rw [← hh, Bd.state]; rfl
  have N0 := Fr.nil n0
  have ef : entryFrame m #[(.int p1), (.long q2)] 10 = mkF m 0 #[.val (.int p1), .val (.long q2), .second, .unset, .unset, .unset, .unset, .unset, .unset, .unset] [] := by first | (simp [entryFrame, mkF, argsToLocals, Value.category]; done) | rfl
  have pre0 : ∀ t, Steps p.tables e below (s₁.setTop (mkF m 0 #[.val (.int p1), .val (.long q2), .second, .unset, .unset, .unset, .unset, .unset, .unset, .unset] [])) t → Steps p.tables e below (s₁.setTop (entryFrame m #[(.int p1), (.long q2)] 10)) t := fun t k => castTop ef k
  obtain ⟨g, hG, preG⟩ : ∃ g : Int32, own_G p1 g ∧ (∀ t, Steps p.tables e below (s₁.setTop (mkF m 30 #[.val (.int p1), .val (.long q2), .second, .unset, .unset, .unset, .unset, .unset, .unset, .unset] [(.int g)])) t → Steps p.tables e below (s₁.setTop (entryFrame m #[(.int p1), (.long q2)] 10)) t) := by
    have pre1 : ∀ t, Steps p.tables e below (s₁.setTop (mkF m 2 #[.val (.int p1), .val (.long q2), .second, .unset, .unset, .unset, .unset, .unset, .unset, .unset] [(.int (2 : Int32)), (.int p1)])) t → Steps p.tables e below (s₁.setTop (entryFrame m #[(.int p1), (.long q2)] 10)) t := by
      intro t k
      refine pre0 _ ?_
      refine XS.iloadN X0.here hx rfl (hb hby d1_0) rfl ?_
      show Steps p.tables e below (s₁.setTop (mkF m 1 #[.val (.int p1), .val (.long q2), .second, .unset, .unset, .unset, .unset, .unset, .unset, .unset] [(.int p1)])) _
      refine XS.iconst X0.here hx rfl (hb hby d1_1) ?_
      show Steps p.tables e below (s₁.setTop (mkF m 2 #[.val (.int p1), .val (.long q2), .second, .unset, .unset, .unset, .unset, .unset, .unset, .unset] [(.int (2 : Int32)), (.int p1)])) _
      exact k
    by_cases h2 : (2 : Int32) < p1
    · have pre2 : ∀ t, Steps p.tables e below (s₁.setTop (mkF m 12 #[.val (.int p1), .val (.long q2), .second, .unset, .unset, .unset, .unset, .unset, .unset, .unset] [(.int (8 : Int32)), (.int p1)])) t → Steps p.tables e below (s₁.setTop (entryFrame m #[(.int p1), (.long q2)] 10)) t := by
        intro t k
        refine pre1 _ ?_
        refine XS.icmpYes X0.here hx rfl (pc0 := 2) (pc' := 9) rfl (hb hby d1_2) rfl (tlt h2).2.2.1 (by decide) (by decide) ?_
        show Steps p.tables e below (s₁.setTop (mkF m 9 #[.val (.int p1), .val (.long q2), .second, .unset, .unset, .unset, .unset, .unset, .unset, .unset] [])) _
        refine XS.iloadN X0.here hx rfl (hb hby d1_9) rfl ?_
        show Steps p.tables e below (s₁.setTop (mkF m 10 #[.val (.int p1), .val (.long q2), .second, .unset, .unset, .unset, .unset, .unset, .unset, .unset] [(.int p1)])) _
        refine XS.bipush X0.here hx rfl (hb hby d1_10) ?_
        show Steps p.tables e below (s₁.setTop (mkF m 12 #[.val (.int p1), .val (.long q2), .second, .unset, .unset, .unset, .unset, .unset, .unset, .unset] [(.int (8 : Int32)), (.int p1)])) _
        exact k
      by_cases h8 : (8 : Int32) < p1
      · have pre3 : ∀ t, Steps p.tables e below (s₁.setTop (mkF m 22 #[.val (.int p1), .val (.long q2), .second, .unset, .unset, .unset, .unset, .unset, .unset, .unset] [(.int (32 : Int32)), (.int p1)])) t → Steps p.tables e below (s₁.setTop (entryFrame m #[(.int p1), (.long q2)] 10)) t := by
          intro t k
          refine pre2 _ ?_
          refine XS.icmpYes X0.here hx rfl (pc0 := 12) (pc' := 19) rfl (hb hby d1_12) rfl (tlt h8).2.2.1 (by decide) (by decide) ?_
          show Steps p.tables e below (s₁.setTop (mkF m 19 #[.val (.int p1), .val (.long q2), .second, .unset, .unset, .unset, .unset, .unset, .unset, .unset] [])) _
          refine XS.iloadN X0.here hx rfl (hb hby d1_19) rfl ?_
          show Steps p.tables e below (s₁.setTop (mkF m 20 #[.val (.int p1), .val (.long q2), .second, .unset, .unset, .unset, .unset, .unset, .unset, .unset] [(.int p1)])) _
          refine XS.bipush X0.here hx rfl (hb hby d1_20) ?_
          show Steps p.tables e below (s₁.setTop (mkF m 22 #[.val (.int p1), .val (.long q2), .second, .unset, .unset, .unset, .unset, .unset, .unset, .unset] [(.int (32 : Int32)), (.int p1)])) _
          exact k
        by_cases h32 : (32 : Int32) < p1
        · have pre4 : ∀ t, Steps p.tables e below (s₁.setTop (mkF m 30 #[.val (.int p1), .val (.long q2), .second, .unset, .unset, .unset, .unset, .unset, .unset, .unset] [(.int (3 : Int32))])) t → Steps p.tables e below (s₁.setTop (entryFrame m #[(.int p1), (.long q2)] 10)) t := by
            intro t k
            refine pre3 _ ?_
            refine XS.icmpYes X0.here hx rfl (pc0 := 22) (pc' := 29) rfl (hb hby d1_22) rfl (tlt h32).2.2.1 (by decide) (by decide) ?_
            show Steps p.tables e below (s₁.setTop (mkF m 29 #[.val (.int p1), .val (.long q2), .second, .unset, .unset, .unset, .unset, .unset, .unset, .unset] [])) _
            refine XS.iconst X0.here hx rfl (hb hby d1_29) ?_
            show Steps p.tables e below (s₁.setTop (mkF m 30 #[.val (.int p1), .val (.long q2), .second, .unset, .unset, .unset, .unset, .unset, .unset, .unset] [(.int (3 : Int32))])) _
            exact k
          exact ⟨_, Or.inr (Or.inr (Or.inr ⟨rfl, h32⟩)), pre4⟩
        · have pre5 : ∀ t, Steps p.tables e below (s₁.setTop (mkF m 30 #[.val (.int p1), .val (.long q2), .second, .unset, .unset, .unset, .unset, .unset, .unset, .unset] [(.int (2 : Int32))])) t → Steps p.tables e below (s₁.setTop (entryFrame m #[(.int p1), (.long q2)] 10)) t := by
            intro t k
            refine pre3 _ ?_
            refine XS.icmpNo X0.here hx rfl (hb hby d1_22) rfl (flt h32).2.2.1 ?_
            show Steps p.tables e below (s₁.setTop (mkF m 25 #[.val (.int p1), .val (.long q2), .second, .unset, .unset, .unset, .unset, .unset, .unset, .unset] [])) _
            refine XS.iconst X0.here hx rfl (hb hby d1_25) ?_
            show Steps p.tables e below (s₁.setTop (mkF m 26 #[.val (.int p1), .val (.long q2), .second, .unset, .unset, .unset, .unset, .unset, .unset, .unset] [(.int (2 : Int32))])) _
            refine XS.goto X0.here hx rfl (pc0 := 26) (pc' := 30) rfl (hb hby d1_26) (by decide) (by decide) ?_
            show Steps p.tables e below (s₁.setTop (mkF m 30 #[.val (.int p1), .val (.long q2), .second, .unset, .unset, .unset, .unset, .unset, .unset, .unset] [(.int (2 : Int32))])) _
            exact k
          exact ⟨_, Or.inr (Or.inr (Or.inl ⟨rfl, h8, h32⟩)), pre5⟩
      · have pre6 : ∀ t, Steps p.tables e below (s₁.setTop (mkF m 30 #[.val (.int p1), .val (.long q2), .second, .unset, .unset, .unset, .unset, .unset, .unset, .unset] [(.int (1 : Int32))])) t → Steps p.tables e below (s₁.setTop (entryFrame m #[(.int p1), (.long q2)] 10)) t := by
          intro t k
          refine pre2 _ ?_
          refine XS.icmpNo X0.here hx rfl (hb hby d1_12) rfl (flt h8).2.2.1 ?_
          show Steps p.tables e below (s₁.setTop (mkF m 15 #[.val (.int p1), .val (.long q2), .second, .unset, .unset, .unset, .unset, .unset, .unset, .unset] [])) _
          refine XS.iconst X0.here hx rfl (hb hby d1_15) ?_
          show Steps p.tables e below (s₁.setTop (mkF m 16 #[.val (.int p1), .val (.long q2), .second, .unset, .unset, .unset, .unset, .unset, .unset, .unset] [(.int (1 : Int32))])) _
          refine XS.goto X0.here hx rfl (pc0 := 16) (pc' := 30) rfl (hb hby d1_16) (by decide) (by decide) ?_
          show Steps p.tables e below (s₁.setTop (mkF m 30 #[.val (.int p1), .val (.long q2), .second, .unset, .unset, .unset, .unset, .unset, .unset, .unset] [(.int (1 : Int32))])) _
          exact k
        exact ⟨_, Or.inr (Or.inl ⟨rfl, h2, h8⟩), pre6⟩
    · have pre7 : ∀ t, Steps p.tables e below (s₁.setTop (mkF m 30 #[.val (.int p1), .val (.long q2), .second, .unset, .unset, .unset, .unset, .unset, .unset, .unset] [(.int (0 : Int32))])) t → Steps p.tables e below (s₁.setTop (entryFrame m #[(.int p1), (.long q2)] 10)) t := by
        intro t k
        refine pre1 _ ?_
        refine XS.icmpNo X0.here hx rfl (hb hby d1_2) rfl (flt h2).2.2.1 ?_
        show Steps p.tables e below (s₁.setTop (mkF m 5 #[.val (.int p1), .val (.long q2), .second, .unset, .unset, .unset, .unset, .unset, .unset, .unset] [])) _
        refine XS.iconst X0.here hx rfl (hb hby d1_5) ?_
        show Steps p.tables e below (s₁.setTop (mkF m 6 #[.val (.int p1), .val (.long q2), .second, .unset, .unset, .unset, .unset, .unset, .unset, .unset] [(.int (0 : Int32))])) _
        refine XS.goto X0.here hx rfl (pc0 := 6) (pc' := 30) rfl (hb hby d1_6) (by decide) (by decide) ?_
        show Steps p.tables e below (s₁.setTop (mkF m 30 #[.val (.int p1), .val (.long q2), .second, .unset, .unset, .unset, .unset, .unset, .unset, .unset] [(.int (0 : Int32))])) _
        exact k
      exact ⟨_, Or.inl ⟨rfl, h2⟩, pre7⟩
  have pre8 : ∀ t, Steps p.tables e below (s₁.setTop (mkF m 31 #[.val (.int p1), .val (.long q2), .second, .val (.int g), .unset, .unset, .unset, .unset, .unset, .unset] [])) t → Steps p.tables e below (s₁.setTop (entryFrame m #[(.int p1), (.long q2)] 10)) t := by
    intro t k
    refine preG _ ?_
    refine XS.istoreN X0.here hx rfl (hb hby d1_30) rfl (l' := #[.val (.int p1), .val (.long q2), .second, .val (.int g), .unset, .unset, .unset, .unset, .unset, .unset]) rfl ?_
    show Steps p.tables e below (s₁.setTop (mkF m 31 #[.val (.int p1), .val (.long q2), .second, .val (.int g), .unset, .unset, .unset, .unset, .unset, .unset] [])) _
    exact k
  obtain ⟨bb, hB, preB⟩ : ∃ bb : Int32, own_B q2 bb ∧ (∀ t, Steps p.tables e below (s₁.setTop (mkF m 104 #[.val (.int p1), .val (.long q2), .second, .val (.int g), .val (.int bb), .unset, .unset, .unset, .unset, .unset] [])) t → Steps p.tables e below (s₁.setTop (entryFrame m #[(.int p1), (.long q2)] 10)) t) := by
    have pre9 : ∀ t, Steps p.tables e below (s₁.setTop (mkF m 36 #[.val (.int p1), .val (.long q2), .second, .val (.int g), .unset, .unset, .unset, .unset, .unset, .unset] [(.int (lcmpW q2 (131072 : Int64)))])) t → Steps p.tables e below (s₁.setTop (entryFrame m #[(.int p1), (.long q2)] 10)) t := by
      intro t k
      refine pre8 _ ?_
      refine XS.lloadN X0.here hx rfl (hb hby d1_31) rfl ?_
      show Steps p.tables e below (s₁.setTop (mkF m 32 #[.val (.int p1), .val (.long q2), .second, .val (.int g), .unset, .unset, .unset, .unset, .unset, .unset] [(.long q2)])) _
      refine X0.ldc2Long hx hown (mvT hZ (hw _ (List.mem_of_getElem? (i := 1) rfl))) (g := (mkF m 32 #[.val (.int p1), .val (.long q2), .second, .val (.int g), .unset, .unset, .unset, .unset, .unset, .unset] [(.long q2)])) rfl (hb hby d1_32) _ ?_
      show Steps p.tables e below (s₁.setTop (mkF m 35 #[.val (.int p1), .val (.long q2), .second, .val (.int g), .unset, .unset, .unset, .unset, .unset, .unset] [(.long (131072 : Int64)), (.long q2)])) _
      refine XS.lcmp X0.here hx rfl (hb hby d1_35) rfl ?_
      show Steps p.tables e below (s₁.setTop (mkF m 36 #[.val (.int p1), .val (.long q2), .second, .val (.int g), .unset, .unset, .unset, .unset, .unset, .unset] [(.int (lcmpW q2 (131072 : Int64)))])) _
      exact k
    by_cases h1 : q2 < (131072 : Int64)
    · have pre10 : ∀ t, Steps p.tables e below (s₁.setTop (mkF m 104 #[.val (.int p1), .val (.long q2), .second, .val (.int g), .val (.int (0 : Int32)), .unset, .unset, .unset, .unset, .unset] [])) t → Steps p.tables e below (s₁.setTop (entryFrame m #[(.int p1), (.long q2)] 10)) t := by
        intro t k
        refine pre9 _ ?_
        refine XS.ifNo X0.here hx rfl (hb hby d1_36) rfl ((if0 _ _).trans (tlt (own_llt.mpr h1)).2.1) ?_
        show Steps p.tables e below (s₁.setTop (mkF m 39 #[.val (.int p1), .val (.long q2), .second, .val (.int g), .unset, .unset, .unset, .unset, .unset, .unset] [])) _
        refine XS.iconst X0.here hx rfl (hb hby d1_39) ?_
        show Steps p.tables e below (s₁.setTop (mkF m 40 #[.val (.int p1), .val (.long q2), .second, .val (.int g), .unset, .unset, .unset, .unset, .unset, .unset] [(.int (0 : Int32))])) _
        refine XS.istore X0.here hx rfl (hb hby d1_40) rfl (l' := #[.val (.int p1), .val (.long q2), .second, .val (.int g), .val (.int (0 : Int32)), .unset, .unset, .unset, .unset, .unset]) rfl ?_
        show Steps p.tables e below (s₁.setTop (mkF m 42 #[.val (.int p1), .val (.long q2), .second, .val (.int g), .val (.int (0 : Int32)), .unset, .unset, .unset, .unset, .unset] [])) _
        refine XS.goto X0.here hx rfl (pc0 := 42) (pc' := 104) rfl (hb hby d1_42) (by decide) (by decide) ?_
        show Steps p.tables e below (s₁.setTop (mkF m 104 #[.val (.int p1), .val (.long q2), .second, .val (.int g), .val (.int (0 : Int32)), .unset, .unset, .unset, .unset, .unset] [])) _
        exact k
      exact ⟨_, Or.inl ⟨rfl, h1⟩, pre10⟩
    · have pre11 : ∀ t, Steps p.tables e below (s₁.setTop (mkF m 50 #[.val (.int p1), .val (.long q2), .second, .val (.int g), .unset, .unset, .unset, .unset, .unset, .unset] [(.int (lcmpW q2 (1048576 : Int64)))])) t → Steps p.tables e below (s₁.setTop (entryFrame m #[(.int p1), (.long q2)] 10)) t := by
        intro t k
        refine pre9 _ ?_
        refine XS.ifYes X0.here hx rfl (pc0 := 36) (pc' := 45) rfl (hb hby d1_36) rfl ((if0 _ _).trans (flt (mt own_llt.mp h1)).2.1) (by decide) (by decide) ?_
        show Steps p.tables e below (s₁.setTop (mkF m 45 #[.val (.int p1), .val (.long q2), .second, .val (.int g), .unset, .unset, .unset, .unset, .unset, .unset] [])) _
        refine XS.lloadN X0.here hx rfl (hb hby d1_45) rfl ?_
        show Steps p.tables e below (s₁.setTop (mkF m 46 #[.val (.int p1), .val (.long q2), .second, .val (.int g), .unset, .unset, .unset, .unset, .unset, .unset] [(.long q2)])) _
        refine X0.ldc2Long hx hown (mvT hZ (hw _ (List.mem_of_getElem? (i := 2) rfl))) (g := (mkF m 46 #[.val (.int p1), .val (.long q2), .second, .val (.int g), .unset, .unset, .unset, .unset, .unset, .unset] [(.long q2)])) rfl (hb hby d1_46) _ ?_
        show Steps p.tables e below (s₁.setTop (mkF m 49 #[.val (.int p1), .val (.long q2), .second, .val (.int g), .unset, .unset, .unset, .unset, .unset, .unset] [(.long (1048576 : Int64)), (.long q2)])) _
        refine XS.lcmp X0.here hx rfl (hb hby d1_49) rfl ?_
        show Steps p.tables e below (s₁.setTop (mkF m 50 #[.val (.int p1), .val (.long q2), .second, .val (.int g), .unset, .unset, .unset, .unset, .unset, .unset] [(.int (lcmpW q2 (1048576 : Int64)))])) _
        exact k
      by_cases h2 : q2 < (1048576 : Int64)
      · have pre12 : ∀ t, Steps p.tables e below (s₁.setTop (mkF m 104 #[.val (.int p1), .val (.long q2), .second, .val (.int g), .val (.int (1 : Int32)), .unset, .unset, .unset, .unset, .unset] [])) t → Steps p.tables e below (s₁.setTop (entryFrame m #[(.int p1), (.long q2)] 10)) t := by
          intro t k
          refine pre11 _ ?_
          refine XS.ifNo X0.here hx rfl (hb hby d1_50) rfl ((if0 _ _).trans (tlt (own_llt.mpr h2)).2.1) ?_
          show Steps p.tables e below (s₁.setTop (mkF m 53 #[.val (.int p1), .val (.long q2), .second, .val (.int g), .unset, .unset, .unset, .unset, .unset, .unset] [])) _
          refine XS.iconst X0.here hx rfl (hb hby d1_53) ?_
          show Steps p.tables e below (s₁.setTop (mkF m 54 #[.val (.int p1), .val (.long q2), .second, .val (.int g), .unset, .unset, .unset, .unset, .unset, .unset] [(.int (1 : Int32))])) _
          refine XS.istore X0.here hx rfl (hb hby d1_54) rfl (l' := #[.val (.int p1), .val (.long q2), .second, .val (.int g), .val (.int (1 : Int32)), .unset, .unset, .unset, .unset, .unset]) rfl ?_
          show Steps p.tables e below (s₁.setTop (mkF m 56 #[.val (.int p1), .val (.long q2), .second, .val (.int g), .val (.int (1 : Int32)), .unset, .unset, .unset, .unset, .unset] [])) _
          refine XS.goto X0.here hx rfl (pc0 := 56) (pc' := 104) rfl (hb hby d1_56) (by decide) (by decide) ?_
          show Steps p.tables e below (s₁.setTop (mkF m 104 #[.val (.int p1), .val (.long q2), .second, .val (.int g), .val (.int (1 : Int32)), .unset, .unset, .unset, .unset, .unset] [])) _
          exact k
        exact ⟨_, Or.inr (Or.inl ⟨rfl, h1, h2⟩), pre12⟩
      · have pre13 : ∀ t, Steps p.tables e below (s₁.setTop (mkF m 64 #[.val (.int p1), .val (.long q2), .second, .val (.int g), .unset, .unset, .unset, .unset, .unset, .unset] [(.int (lcmpW q2 (1048576 : Int64)))])) t → Steps p.tables e below (s₁.setTop (entryFrame m #[(.int p1), (.long q2)] 10)) t := by
          intro t k
          refine pre11 _ ?_
          refine XS.ifYes X0.here hx rfl (pc0 := 50) (pc' := 59) rfl (hb hby d1_50) rfl ((if0 _ _).trans (flt (mt own_llt.mp h2)).2.1) (by decide) (by decide) ?_
          show Steps p.tables e below (s₁.setTop (mkF m 59 #[.val (.int p1), .val (.long q2), .second, .val (.int g), .unset, .unset, .unset, .unset, .unset, .unset] [])) _
          refine XS.lloadN X0.here hx rfl (hb hby d1_59) rfl ?_
          show Steps p.tables e below (s₁.setTop (mkF m 60 #[.val (.int p1), .val (.long q2), .second, .val (.int g), .unset, .unset, .unset, .unset, .unset, .unset] [(.long q2)])) _
          refine X0.ldc2Long hx hown (mvT hZ (hw _ (List.mem_of_getElem? (i := 2) rfl))) (g := (mkF m 60 #[.val (.int p1), .val (.long q2), .second, .val (.int g), .unset, .unset, .unset, .unset, .unset, .unset] [(.long q2)])) rfl (hb hby d1_60) _ ?_
          show Steps p.tables e below (s₁.setTop (mkF m 63 #[.val (.int p1), .val (.long q2), .second, .val (.int g), .unset, .unset, .unset, .unset, .unset, .unset] [(.long (1048576 : Int64)), (.long q2)])) _
          refine XS.lcmp X0.here hx rfl (hb hby d1_63) rfl ?_
          show Steps p.tables e below (s₁.setTop (mkF m 64 #[.val (.int p1), .val (.long q2), .second, .val (.int g), .unset, .unset, .unset, .unset, .unset, .unset] [(.int (lcmpW q2 (1048576 : Int64)))])) _
          exact k
        by_cases h3 : q2 = (1048576 : Int64)
        · have pre14 : ∀ t, Steps p.tables e below (s₁.setTop (mkF m 104 #[.val (.int p1), .val (.long q2), .second, .val (.int g), .val (.int (2 : Int32)), .unset, .unset, .unset, .unset, .unset] [])) t → Steps p.tables e below (s₁.setTop (entryFrame m #[(.int p1), (.long q2)] 10)) t := by
            intro t k
            refine pre13 _ ?_
            refine XS.ifNo X0.here hx rfl (hb hby d1_64) rfl ((if0 _ _).trans (teq (own_leq.mpr h3)).2) ?_
            show Steps p.tables e below (s₁.setTop (mkF m 67 #[.val (.int p1), .val (.long q2), .second, .val (.int g), .unset, .unset, .unset, .unset, .unset, .unset] [])) _
            refine XS.iconst X0.here hx rfl (hb hby d1_67) ?_
            show Steps p.tables e below (s₁.setTop (mkF m 68 #[.val (.int p1), .val (.long q2), .second, .val (.int g), .unset, .unset, .unset, .unset, .unset, .unset] [(.int (2 : Int32))])) _
            refine XS.istore X0.here hx rfl (hb hby d1_68) rfl (l' := #[.val (.int p1), .val (.long q2), .second, .val (.int g), .val (.int (2 : Int32)), .unset, .unset, .unset, .unset, .unset]) rfl ?_
            show Steps p.tables e below (s₁.setTop (mkF m 70 #[.val (.int p1), .val (.long q2), .second, .val (.int g), .val (.int (2 : Int32)), .unset, .unset, .unset, .unset, .unset] [])) _
            refine XS.goto X0.here hx rfl (pc0 := 70) (pc' := 104) rfl (hb hby d1_70) (by decide) (by decide) ?_
            show Steps p.tables e below (s₁.setTop (mkF m 104 #[.val (.int p1), .val (.long q2), .second, .val (.int g), .val (.int (2 : Int32)), .unset, .unset, .unset, .unset, .unset] [])) _
            exact k
          exact ⟨_, Or.inr (Or.inr (Or.inl ⟨rfl, h3⟩)), pre14⟩
        · have pre15 : ∀ t, Steps p.tables e below (s₁.setTop (mkF m 78 #[.val (.int p1), .val (.long q2), .second, .val (.int g), .unset, .unset, .unset, .unset, .unset, .unset] [(.int (lcmpW q2 (8388608 : Int64)))])) t → Steps p.tables e below (s₁.setTop (entryFrame m #[(.int p1), (.long q2)] 10)) t := by
            intro t k
            refine pre13 _ ?_
            refine XS.ifYes X0.here hx rfl (pc0 := 64) (pc' := 73) rfl (hb hby d1_64) rfl ((if0 _ _).trans (feq (mt own_leq.mp h3)).2) (by decide) (by decide) ?_
            show Steps p.tables e below (s₁.setTop (mkF m 73 #[.val (.int p1), .val (.long q2), .second, .val (.int g), .unset, .unset, .unset, .unset, .unset, .unset] [])) _
            refine XS.lloadN X0.here hx rfl (hb hby d1_73) rfl ?_
            show Steps p.tables e below (s₁.setTop (mkF m 74 #[.val (.int p1), .val (.long q2), .second, .val (.int g), .unset, .unset, .unset, .unset, .unset, .unset] [(.long q2)])) _
            refine X0.ldc2Long hx hown (mvT hZ (hw _ (List.mem_of_getElem? (i := 3) rfl))) (g := (mkF m 74 #[.val (.int p1), .val (.long q2), .second, .val (.int g), .unset, .unset, .unset, .unset, .unset, .unset] [(.long q2)])) rfl (hb hby d1_74) _ ?_
            show Steps p.tables e below (s₁.setTop (mkF m 77 #[.val (.int p1), .val (.long q2), .second, .val (.int g), .unset, .unset, .unset, .unset, .unset, .unset] [(.long (8388608 : Int64)), (.long q2)])) _
            refine XS.lcmp X0.here hx rfl (hb hby d1_77) rfl ?_
            show Steps p.tables e below (s₁.setTop (mkF m 78 #[.val (.int p1), .val (.long q2), .second, .val (.int g), .unset, .unset, .unset, .unset, .unset, .unset] [(.int (lcmpW q2 (8388608 : Int64)))])) _
            exact k
          by_cases h4 : (8388608 : Int64) < q2
          · have pre16 : ∀ t, Steps p.tables e below (s₁.setTop (mkF m 92 #[.val (.int p1), .val (.long q2), .second, .val (.int g), .unset, .unset, .unset, .unset, .unset, .unset] [(.int (lcmpW q2 (16777216 : Int64)))])) t → Steps p.tables e below (s₁.setTop (entryFrame m #[(.int p1), (.long q2)] 10)) t := by
              intro t k
              refine pre15 _ ?_
              refine XS.ifYes X0.here hx rfl (pc0 := 78) (pc' := 87) rfl (hb hby d1_78) rfl ((if0 _ _).trans (tlt (own_lgt.mpr h4)).2.2.1) (by decide) (by decide) ?_
              show Steps p.tables e below (s₁.setTop (mkF m 87 #[.val (.int p1), .val (.long q2), .second, .val (.int g), .unset, .unset, .unset, .unset, .unset, .unset] [])) _
              refine XS.lloadN X0.here hx rfl (hb hby d1_87) rfl ?_
              show Steps p.tables e below (s₁.setTop (mkF m 88 #[.val (.int p1), .val (.long q2), .second, .val (.int g), .unset, .unset, .unset, .unset, .unset, .unset] [(.long q2)])) _
              refine X0.ldc2Long hx hown (mvT hZ (hw _ (List.mem_of_getElem? (i := 4) rfl))) (g := (mkF m 88 #[.val (.int p1), .val (.long q2), .second, .val (.int g), .unset, .unset, .unset, .unset, .unset, .unset] [(.long q2)])) rfl (hb hby d1_88) _ ?_
              show Steps p.tables e below (s₁.setTop (mkF m 91 #[.val (.int p1), .val (.long q2), .second, .val (.int g), .unset, .unset, .unset, .unset, .unset, .unset] [(.long (16777216 : Int64)), (.long q2)])) _
              refine XS.lcmp X0.here hx rfl (hb hby d1_91) rfl ?_
              show Steps p.tables e below (s₁.setTop (mkF m 92 #[.val (.int p1), .val (.long q2), .second, .val (.int g), .unset, .unset, .unset, .unset, .unset, .unset] [(.int (lcmpW q2 (16777216 : Int64)))])) _
              exact k
            by_cases h5 : (16777216 : Int64) < q2
            · have pre17 : ∀ t, Steps p.tables e below (s₁.setTop (mkF m 104 #[.val (.int p1), .val (.long q2), .second, .val (.int g), .val (.int (5 : Int32)), .unset, .unset, .unset, .unset, .unset] [])) t → Steps p.tables e below (s₁.setTop (entryFrame m #[(.int p1), (.long q2)] 10)) t := by
                intro t k
                refine pre16 _ ?_
                refine XS.ifYes X0.here hx rfl (pc0 := 92) (pc' := 101) rfl (hb hby d1_92) rfl ((if0 _ _).trans (tlt (own_lgt.mpr h5)).2.2.1) (by decide) (by decide) ?_
                show Steps p.tables e below (s₁.setTop (mkF m 101 #[.val (.int p1), .val (.long q2), .second, .val (.int g), .unset, .unset, .unset, .unset, .unset, .unset] [])) _
                refine XS.iconst X0.here hx rfl (hb hby d1_101) ?_
                show Steps p.tables e below (s₁.setTop (mkF m 102 #[.val (.int p1), .val (.long q2), .second, .val (.int g), .unset, .unset, .unset, .unset, .unset, .unset] [(.int (5 : Int32))])) _
                refine XS.istore X0.here hx rfl (hb hby d1_102) rfl (l' := #[.val (.int p1), .val (.long q2), .second, .val (.int g), .val (.int (5 : Int32)), .unset, .unset, .unset, .unset, .unset]) rfl ?_
                show Steps p.tables e below (s₁.setTop (mkF m 104 #[.val (.int p1), .val (.long q2), .second, .val (.int g), .val (.int (5 : Int32)), .unset, .unset, .unset, .unset, .unset] [])) _
                exact k
              exact ⟨_, Or.inr (Or.inr (Or.inr (Or.inr (Or.inr ⟨rfl, h5⟩)))), pre17⟩
            · have pre18 : ∀ t, Steps p.tables e below (s₁.setTop (mkF m 104 #[.val (.int p1), .val (.long q2), .second, .val (.int g), .val (.int (4 : Int32)), .unset, .unset, .unset, .unset, .unset] [])) t → Steps p.tables e below (s₁.setTop (entryFrame m #[(.int p1), (.long q2)] 10)) t := by
                intro t k
                refine pre16 _ ?_
                refine XS.ifNo X0.here hx rfl (hb hby d1_92) rfl ((if0 _ _).trans (flt (mt own_lgt.mp h5)).2.2.1) ?_
                show Steps p.tables e below (s₁.setTop (mkF m 95 #[.val (.int p1), .val (.long q2), .second, .val (.int g), .unset, .unset, .unset, .unset, .unset, .unset] [])) _
                refine XS.iconst X0.here hx rfl (hb hby d1_95) ?_
                show Steps p.tables e below (s₁.setTop (mkF m 96 #[.val (.int p1), .val (.long q2), .second, .val (.int g), .unset, .unset, .unset, .unset, .unset, .unset] [(.int (4 : Int32))])) _
                refine XS.istore X0.here hx rfl (hb hby d1_96) rfl (l' := #[.val (.int p1), .val (.long q2), .second, .val (.int g), .val (.int (4 : Int32)), .unset, .unset, .unset, .unset, .unset]) rfl ?_
                show Steps p.tables e below (s₁.setTop (mkF m 98 #[.val (.int p1), .val (.long q2), .second, .val (.int g), .val (.int (4 : Int32)), .unset, .unset, .unset, .unset, .unset] [])) _
                refine XS.goto X0.here hx rfl (pc0 := 98) (pc' := 104) rfl (hb hby d1_98) (by decide) (by decide) ?_
                show Steps p.tables e below (s₁.setTop (mkF m 104 #[.val (.int p1), .val (.long q2), .second, .val (.int g), .val (.int (4 : Int32)), .unset, .unset, .unset, .unset, .unset] [])) _
                exact k
              exact ⟨_, Or.inr (Or.inr (Or.inr (Or.inr (Or.inl ⟨rfl, h4, h5⟩)))), pre18⟩
          · have pre19 : ∀ t, Steps p.tables e below (s₁.setTop (mkF m 104 #[.val (.int p1), .val (.long q2), .second, .val (.int g), .val (.int (3 : Int32)), .unset, .unset, .unset, .unset, .unset] [])) t → Steps p.tables e below (s₁.setTop (entryFrame m #[(.int p1), (.long q2)] 10)) t := by
              intro t k
              refine pre15 _ ?_
              refine XS.ifNo X0.here hx rfl (hb hby d1_78) rfl ((if0 _ _).trans (flt (mt own_lgt.mp h4)).2.2.1) ?_
              show Steps p.tables e below (s₁.setTop (mkF m 81 #[.val (.int p1), .val (.long q2), .second, .val (.int g), .unset, .unset, .unset, .unset, .unset, .unset] [])) _
              refine XS.iconst X0.here hx rfl (hb hby d1_81) ?_
              show Steps p.tables e below (s₁.setTop (mkF m 82 #[.val (.int p1), .val (.long q2), .second, .val (.int g), .unset, .unset, .unset, .unset, .unset, .unset] [(.int (3 : Int32))])) _
              refine XS.istore X0.here hx rfl (hb hby d1_82) rfl (l' := #[.val (.int p1), .val (.long q2), .second, .val (.int g), .val (.int (3 : Int32)), .unset, .unset, .unset, .unset, .unset]) rfl ?_
              show Steps p.tables e below (s₁.setTop (mkF m 84 #[.val (.int p1), .val (.long q2), .second, .val (.int g), .val (.int (3 : Int32)), .unset, .unset, .unset, .unset, .unset] [])) _
              refine XS.goto X0.here hx rfl (pc0 := 84) (pc' := 104) rfl (hb hby d1_84) (by decide) (by decide) ?_
              show Steps p.tables e below (s₁.setTop (mkF m 104 #[.val (.int p1), .val (.long q2), .second, .val (.int g), .val (.int (3 : Int32)), .unset, .unset, .unset, .unset, .unset] [])) _
              exact k
            exact ⟨_, Or.inr (Or.inr (Or.inr (Or.inl ⟨rfl, h2, h3, h4⟩))), pre19⟩
  obtain ⟨T20, X20, e20, st20⟩ := getS (host := "") X0 hx hZ hown (hw _ (List.mem_of_getElem? (i := 9) rfl)) Via.refl e0 (hS 0 (by decide)) (g := (mkF m 104 #[.val (.int p1), .val (.long q2), .second, .val (.int g), .val (.int bb), .unset, .unset, .unset, .unset, .unset] [])) rfl (hb hby d1_104)
  have pre20 : ∀ t, Steps p.tables e below (T20.setTop (mkF m 107 #[.val (.int p1), .val (.long q2), .second, .val (.int g), .val (.int bb), .unset, .unset, .unset, .unset, .unset] [(.ref (ad 0))])) t → Steps p.tables e below (s₁.setTop (entryFrame m #[(.int p1), (.long q2)] 10)) t := fun t k => preB t (st20 t k)
  have pre21 : ∀ t, Steps p.tables e below (T20.setTop (mkF m 109 #[.val (.int p1), .val (.long q2), .second, .val (.int g), .val (.int bb), .val (.ref (ad 0)), .unset, .unset, .unset, .unset] [])) t → Steps p.tables e below (s₁.setTop (entryFrame m #[(.int p1), (.long q2)] 10)) t := by
    intro t k
    refine pre20 _ ?_
    refine XS.astore X20.here hx rfl (hb hby d1_107) rfl rfl (l' := #[.val (.int p1), .val (.long q2), .second, .val (.int g), .val (.int bb), .val (.ref (ad 0)), .unset, .unset, .unset, .unset]) rfl ?_
    show Steps p.tables e below (T20.setTop (mkF m 109 #[.val (.int p1), .val (.long q2), .second, .val (.int g), .val (.int bb), .val (.ref (ad 0)), .unset, .unset, .unset, .unset] [])) _
    exact k
  obtain ⟨T22, X22, e22, st22⟩ := getS (host := "") X20 hx hZ hown (hw _ (List.mem_of_getElem? (i := 12) rfl)) Via.refl e20 (hS 1 (by decide)) (g := (mkF m 109 #[.val (.int p1), .val (.long q2), .second, .val (.int g), .val (.int bb), .val (.ref (ad 0)), .unset, .unset, .unset, .unset] [])) rfl (hb hby d1_109)
  have pre22 : ∀ t, Steps p.tables e below (T22.setTop (mkF m 112 #[.val (.int p1), .val (.long q2), .second, .val (.int g), .val (.int bb), .val (.ref (ad 0)), .unset, .unset, .unset, .unset] [(.ref (ad 1))])) t → Steps p.tables e below (s₁.setTop (entryFrame m #[(.int p1), (.long q2)] 10)) t := fun t k => pre21 t (st22 t k)
  have pre23 : ∀ t, Steps p.tables e below (T22.setTop (mkF m 114 #[.val (.int p1), .val (.long q2), .second, .val (.int g), .val (.int bb), .val (.ref (ad 0)), .val (.ref (ad 1)), .unset, .unset, .unset] [])) t → Steps p.tables e below (s₁.setTop (entryFrame m #[(.int p1), (.long q2)] 10)) t := by
    intro t k
    refine pre22 _ ?_
    refine XS.astore X22.here hx rfl (hb hby d1_112) rfl rfl (l' := #[.val (.int p1), .val (.long q2), .second, .val (.int g), .val (.int bb), .val (.ref (ad 0)), .val (.ref (ad 1)), .unset, .unset, .unset]) rfl ?_
    show Steps p.tables e below (T22.setTop (mkF m 114 #[.val (.int p1), .val (.long q2), .second, .val (.int g), .val (.int bb), .val (.ref (ad 0)), .val (.ref (ad 1)), .unset, .unset, .unset] [])) _
    exact k
  obtain ⟨T24, X24, e24, st24⟩ := getS (host := "") X22 hx hZ hown (hw _ (List.mem_of_getElem? (i := 14) rfl)) Via.refl e22 (hS 2 (by decide)) (g := (mkF m 114 #[.val (.int p1), .val (.long q2), .second, .val (.int g), .val (.int bb), .val (.ref (ad 0)), .val (.ref (ad 1)), .unset, .unset, .unset] [])) rfl (hb hby d1_114)
  have pre24 : ∀ t, Steps p.tables e below (T24.setTop (mkF m 117 #[.val (.int p1), .val (.long q2), .second, .val (.int g), .val (.int bb), .val (.ref (ad 0)), .val (.ref (ad 1)), .unset, .unset, .unset] [(.ref (ad 2))])) t → Steps p.tables e below (s₁.setTop (entryFrame m #[(.int p1), (.long q2)] 10)) t := fun t k => pre23 t (st24 t k)
  have pre25 : ∀ t, Steps p.tables e below (T24.setTop (mkF m 119 #[.val (.int p1), .val (.long q2), .second, .val (.int g), .val (.int bb), .val (.ref (ad 0)), .val (.ref (ad 1)), .val (.ref (ad 2)), .unset, .unset] [])) t → Steps p.tables e below (s₁.setTop (entryFrame m #[(.int p1), (.long q2)] 10)) t := by
    intro t k
    refine pre24 _ ?_
    refine XS.astore X24.here hx rfl (hb hby d1_117) rfl rfl (l' := #[.val (.int p1), .val (.long q2), .second, .val (.int g), .val (.int bb), .val (.ref (ad 0)), .val (.ref (ad 1)), .val (.ref (ad 2)), .unset, .unset]) rfl ?_
    show Steps p.tables e below (T24.setTop (mkF m 119 #[.val (.int p1), .val (.long q2), .second, .val (.int g), .val (.int bb), .val (.ref (ad 0)), .val (.ref (ad 1)), .val (.ref (ad 2)), .unset, .unset] [])) _
    exact k
  obtain ⟨T26, X26, e26, st26⟩ := getS (host := "") X24 hx hZ hown (hw _ (List.mem_of_getElem? (i := 16) rfl)) Via.refl e24 (hS 3 (by decide)) (g := (mkF m 119 #[.val (.int p1), .val (.long q2), .second, .val (.int g), .val (.int bb), .val (.ref (ad 0)), .val (.ref (ad 1)), .val (.ref (ad 2)), .unset, .unset] [])) rfl (hb hby d1_119)
  have pre26 : ∀ t, Steps p.tables e below (T26.setTop (mkF m 122 #[.val (.int p1), .val (.long q2), .second, .val (.int g), .val (.int bb), .val (.ref (ad 0)), .val (.ref (ad 1)), .val (.ref (ad 2)), .unset, .unset] [(.ref (ad 3))])) t → Steps p.tables e below (s₁.setTop (entryFrame m #[(.int p1), (.long q2)] 10)) t := fun t k => pre25 t (st26 t k)
  have pre27 : ∀ t, Steps p.tables e below (T26.setTop (mkF m 126 #[.val (.int p1), .val (.long q2), .second, .val (.int g), .val (.int bb), .val (.ref (ad 0)), .val (.ref (ad 1)), .val (.ref (ad 2)), .val (.ref (ad 3)), .unset] [(.int (24 : Int32))])) t → Steps p.tables e below (s₁.setTop (entryFrame m #[(.int p1), (.long q2)] 10)) t := by
    intro t k
    refine pre26 _ ?_
    refine XS.astore X26.here hx rfl (hb hby d1_122) rfl rfl (l' := #[.val (.int p1), .val (.long q2), .second, .val (.int g), .val (.int bb), .val (.ref (ad 0)), .val (.ref (ad 1)), .val (.ref (ad 2)), .val (.ref (ad 3)), .unset]) rfl ?_
    show Steps p.tables e below (T26.setTop (mkF m 124 #[.val (.int p1), .val (.long q2), .second, .val (.int g), .val (.int bb), .val (.ref (ad 0)), .val (.ref (ad 1)), .val (.ref (ad 2)), .val (.ref (ad 3)), .unset] [])) _
    refine XS.bipush X26.here hx rfl (hb hby d1_124) ?_
    show Steps p.tables e below (T26.setTop (mkF m 126 #[.val (.int p1), .val (.long q2), .second, .val (.int g), .val (.int bb), .val (.ref (ad 0)), .val (.ref (ad 1)), .val (.ref (ad 2)), .val (.ref (ad 3)), .unset] [(.int (24 : Int32))])) _
    exact k
  obtain ⟨T28, h28, k28, X28, e28, EX28, A28, O28, st28⟩ := newR X26 hx hZ hown (hw _ (List.mem_of_getElem? (i := 18) rfl)) (hw _ (List.mem_of_getElem? (i := 19) rfl)) e26 (g := (mkF m 126 #[.val (.int p1), .val (.long q2), .second, .val (.int g), .val (.int bb), .val (.ref (ad 0)), .val (.ref (ad 1)), .val (.ref (ad 2)), .val (.ref (ad 3)), .unset] [(.int (24 : Int32))])) rfl (hb hby d1_126) rfl (by decide) (cap := 24) (by decide) (by decide) (by decide) (by decide)
  obtain ⟨b, gb⟩ : ∃ z, z = h0.size := ⟨_, rfl⟩
  rw [← gb] at A28 st28
  have V28 : Arv Z h28 b k28 (.object "com/example/jobwright/jobwright/workload/O2kJobs$RequestClass") (24 : Int32) [.null, .null, .null, .null, .null, .null, .null, .null, .null, .null, .null, .null, .null, .null, .null, .null, .null, .null, .null, .null, .null, .null, .null, .null] .null := (Arv.new A28 (by decide)).pad (pad_rep [] .null 24)
  have gbn : n0 ≤ b := Nat.le_trans Z0 (Nat.le_of_eq gb.symm)
  have gbh : h0.size ≤ b := Nat.le_of_eq gb.symm
  have hE28 : ∀ k, k < 4 → Exa Z h28 (ad k) "com/example/jobwright/jobwright/workload/O2kJobs$RequestClass" := fun k hk => (hE k hk).ext EX28
  have pre28 : ∀ t, Steps p.tables e below (T28.setTop (mkF m 129 #[.val (.int p1), .val (.long q2), .second, .val (.int g), .val (.int bb), .val (.ref (ad 0)), .val (.ref (ad 1)), .val (.ref (ad 2)), .val (.ref (ad 3)), .unset] [(.ref b)])) t → Steps p.tables e below (s₁.setTop (entryFrame m #[(.int p1), (.long q2)] 10)) t := fun t k => pre27 t (st28 t k)
  have pre29 : ∀ t, Steps p.tables e below (T28.setTop (mkF m 133 #[.val (.int p1), .val (.long q2), .second, .val (.int g), .val (.int bb), .val (.ref (ad 0)), .val (.ref (ad 1)), .val (.ref (ad 2)), .val (.ref (ad 3)), .unset] [(.ref (ad 1)), (.int (0 : Int32)), (.ref b), (.ref b)])) t → Steps p.tables e below (s₁.setTop (entryFrame m #[(.int p1), (.long q2)] 10)) t := by
    intro t k
    refine pre28 _ ?_
    refine XS.dup X28.here hx rfl (hb hby d1_129) rfl rfl ?_
    show Steps p.tables e below (T28.setTop (mkF m 130 #[.val (.int p1), .val (.long q2), .second, .val (.int g), .val (.int bb), .val (.ref (ad 0)), .val (.ref (ad 1)), .val (.ref (ad 2)), .val (.ref (ad 3)), .unset] [(.ref b), (.ref b)])) _
    refine XS.iconst X28.here hx rfl (hb hby d1_130) ?_
    show Steps p.tables e below (T28.setTop (mkF m 131 #[.val (.int p1), .val (.long q2), .second, .val (.int g), .val (.int bb), .val (.ref (ad 0)), .val (.ref (ad 1)), .val (.ref (ad 2)), .val (.ref (ad 3)), .unset] [(.int (0 : Int32)), (.ref b), (.ref b)])) _
    refine XS.aload X28.here hx rfl (hb hby d1_131) rfl rfl ?_
    show Steps p.tables e below (T28.setTop (mkF m 133 #[.val (.int p1), .val (.long q2), .second, .val (.int g), .val (.int bb), .val (.ref (ad 0)), .val (.ref (ad 1)), .val (.ref (ad 2)), .val (.ref (ad 3)), .unset] [(.ref (ad 1)), (.int (0 : Int32)), (.ref b), (.ref b)])) _
    exact k
  obtain ⟨cl30, Ar30, q30, S30, M30, Ha30, G30⟩ := V28
  have hin30 : ¬ ((0 : Int32) < 0 ∨ cl30.slots.size ≤ ((0 : Int32)).toNatClampNeg) := inb_of S30 ⟨by decide, by decide⟩
  obtain ⟨T30, h30, X30, e30, W30, st30⟩ := stR X28 hx hZ e28 Ar30 (j := (0 : Int32)) hin30 rfl (Sto.of Ar30 (by rw [q30]; exact O28) (Ins.self (hE28 1 (by decide)))) (g := (mkF m 133 #[.val (.int p1), .val (.long q2), .second, .val (.int g), .val (.int bb), .val (.ref (ad 0)), .val (.ref (ad 1)), .val (.ref (ad 2)), .val (.ref (ad 3)), .unset] [(.ref (ad 1)), (.int (0 : Int32)), (.ref b), (.ref b)])) rfl rfl (hb hby d1_133)
  have V30 : Arv Z h30 b k28 (.object "com/example/jobwright/jobwright/workload/O2kJobs$RequestClass") (24 : Int32) [.ref (ad 1), .null, .null, .null, .null, .null, .null, .null, .null, .null, .null, .null, .null, .null, .null, .null, .null, .null, .null, .null, .null, .null, .null, .null] .null := Arv.set Ar30 q30 S30 M30 Ha30 G30 rfl W30 0 rfl (Nat.le_of_ble_eq_true rfl)
  have N30 := Fr.snoc X30 N0 gbn
  have hE30 : ∀ k, k < 4 → Exa Z h30 (ad k) "com/example/jobwright/jobwright/workload/O2kJobs$RequestClass" := fun k hk => (hE28 k hk).wr W30
  have EX30 := own_extw EX28 W30 gbh
  have pre30 : ∀ t, Steps p.tables e below (T30.setTop (mkF m 134 #[.val (.int p1), .val (.long q2), .second, .val (.int g), .val (.int bb), .val (.ref (ad 0)), .val (.ref (ad 1)), .val (.ref (ad 2)), .val (.ref (ad 3)), .unset] [(.ref b)])) t → Steps p.tables e below (s₁.setTop (entryFrame m #[(.int p1), (.long q2)] 10)) t := fun t k => pre29 t (st30 t k)
  have pre31 : ∀ t, Steps p.tables e below (T30.setTop (mkF m 138 #[.val (.int p1), .val (.long q2), .second, .val (.int g), .val (.int bb), .val (.ref (ad 0)), .val (.ref (ad 1)), .val (.ref (ad 2)), .val (.ref (ad 3)), .unset] [(.ref (ad 1)), (.int (1 : Int32)), (.ref b), (.ref b)])) t → Steps p.tables e below (s₁.setTop (entryFrame m #[(.int p1), (.long q2)] 10)) t := by
    intro t k
    refine pre30 _ ?_
    refine XS.dup X30.here hx rfl (hb hby d1_134) rfl rfl ?_
    show Steps p.tables e below (T30.setTop (mkF m 135 #[.val (.int p1), .val (.long q2), .second, .val (.int g), .val (.int bb), .val (.ref (ad 0)), .val (.ref (ad 1)), .val (.ref (ad 2)), .val (.ref (ad 3)), .unset] [(.ref b), (.ref b)])) _
    refine XS.iconst X30.here hx rfl (hb hby d1_135) ?_
    show Steps p.tables e below (T30.setTop (mkF m 136 #[.val (.int p1), .val (.long q2), .second, .val (.int g), .val (.int bb), .val (.ref (ad 0)), .val (.ref (ad 1)), .val (.ref (ad 2)), .val (.ref (ad 3)), .unset] [(.int (1 : Int32)), (.ref b), (.ref b)])) _
    refine XS.aload X30.here hx rfl (hb hby d1_136) rfl rfl ?_
    show Steps p.tables e below (T30.setTop (mkF m 138 #[.val (.int p1), .val (.long q2), .second, .val (.int g), .val (.int bb), .val (.ref (ad 0)), .val (.ref (ad 1)), .val (.ref (ad 2)), .val (.ref (ad 3)), .unset] [(.ref (ad 1)), (.int (1 : Int32)), (.ref b), (.ref b)])) _
    exact k
  obtain ⟨cl32, Ar32, q32, S32, M32, Ha32, G32⟩ := V30
  have hin32 : ¬ ((1 : Int32) < 0 ∨ cl32.slots.size ≤ ((1 : Int32)).toNatClampNeg) := inb_of S32 ⟨by decide, by decide⟩
  obtain ⟨T32, h32, X32, e32, W32, st32⟩ := stR X30 hx hZ e30 Ar32 (j := (1 : Int32)) hin32 rfl (Sto.of Ar32 (by rw [q32]; exact O28) (Ins.self (hE30 1 (by decide)))) (g := (mkF m 138 #[.val (.int p1), .val (.long q2), .second, .val (.int g), .val (.int bb), .val (.ref (ad 0)), .val (.ref (ad 1)), .val (.ref (ad 2)), .val (.ref (ad 3)), .unset] [(.ref (ad 1)), (.int (1 : Int32)), (.ref b), (.ref b)])) rfl rfl (hb hby d1_138)
  have V32 : Arv Z h32 b k28 (.object "com/example/jobwright/jobwright/workload/O2kJobs$RequestClass") (24 : Int32) [.ref (ad 1), .ref (ad 1), .null, .null, .null, .null, .null, .null, .null, .null, .null, .null, .null, .null, .null, .null, .null, .null, .null, .null, .null, .null, .null, .null] .null := Arv.set Ar32 q32 S32 M32 Ha32 G32 rfl W32 1 rfl (Nat.le_of_ble_eq_true rfl)
  have N32 := Fr.snoc X32 N30 gbn
  have hE32 : ∀ k, k < 4 → Exa Z h32 (ad k) "com/example/jobwright/jobwright/workload/O2kJobs$RequestClass" := fun k hk => (hE30 k hk).wr W32
  have EX32 := own_extw EX30 W32 gbh
  have pre32 : ∀ t, Steps p.tables e below (T32.setTop (mkF m 139 #[.val (.int p1), .val (.long q2), .second, .val (.int g), .val (.int bb), .val (.ref (ad 0)), .val (.ref (ad 1)), .val (.ref (ad 2)), .val (.ref (ad 3)), .unset] [(.ref b)])) t → Steps p.tables e below (s₁.setTop (entryFrame m #[(.int p1), (.long q2)] 10)) t := fun t k => pre31 t (st32 t k)
  have pre33 : ∀ t, Steps p.tables e below (T32.setTop (mkF m 143 #[.val (.int p1), .val (.long q2), .second, .val (.int g), .val (.int bb), .val (.ref (ad 0)), .val (.ref (ad 1)), .val (.ref (ad 2)), .val (.ref (ad 3)), .unset] [(.ref (ad 1)), (.int (2 : Int32)), (.ref b), (.ref b)])) t → Steps p.tables e below (s₁.setTop (entryFrame m #[(.int p1), (.long q2)] 10)) t := by
    intro t k
    refine pre32 _ ?_
    refine XS.dup X32.here hx rfl (hb hby d1_139) rfl rfl ?_
    show Steps p.tables e below (T32.setTop (mkF m 140 #[.val (.int p1), .val (.long q2), .second, .val (.int g), .val (.int bb), .val (.ref (ad 0)), .val (.ref (ad 1)), .val (.ref (ad 2)), .val (.ref (ad 3)), .unset] [(.ref b), (.ref b)])) _
    refine XS.iconst X32.here hx rfl (hb hby d1_140) ?_
    show Steps p.tables e below (T32.setTop (mkF m 141 #[.val (.int p1), .val (.long q2), .second, .val (.int g), .val (.int bb), .val (.ref (ad 0)), .val (.ref (ad 1)), .val (.ref (ad 2)), .val (.ref (ad 3)), .unset] [(.int (2 : Int32)), (.ref b), (.ref b)])) _
    refine XS.aload X32.here hx rfl (hb hby d1_141) rfl rfl ?_
    show Steps p.tables e below (T32.setTop (mkF m 143 #[.val (.int p1), .val (.long q2), .second, .val (.int g), .val (.int bb), .val (.ref (ad 0)), .val (.ref (ad 1)), .val (.ref (ad 2)), .val (.ref (ad 3)), .unset] [(.ref (ad 1)), (.int (2 : Int32)), (.ref b), (.ref b)])) _
    exact k
  obtain ⟨cl34, Ar34, q34, S34, M34, Ha34, G34⟩ := V32
  have hin34 : ¬ ((2 : Int32) < 0 ∨ cl34.slots.size ≤ ((2 : Int32)).toNatClampNeg) := inb_of S34 ⟨by decide, by decide⟩
  obtain ⟨T34, h34, X34, e34, W34, st34⟩ := stR X32 hx hZ e32 Ar34 (j := (2 : Int32)) hin34 rfl (Sto.of Ar34 (by rw [q34]; exact O28) (Ins.self (hE32 1 (by decide)))) (g := (mkF m 143 #[.val (.int p1), .val (.long q2), .second, .val (.int g), .val (.int bb), .val (.ref (ad 0)), .val (.ref (ad 1)), .val (.ref (ad 2)), .val (.ref (ad 3)), .unset] [(.ref (ad 1)), (.int (2 : Int32)), (.ref b), (.ref b)])) rfl rfl (hb hby d1_143)
  have V34 : Arv Z h34 b k28 (.object "com/example/jobwright/jobwright/workload/O2kJobs$RequestClass") (24 : Int32) [.ref (ad 1), .ref (ad 1), .ref (ad 1), .null, .null, .null, .null, .null, .null, .null, .null, .null, .null, .null, .null, .null, .null, .null, .null, .null, .null, .null, .null, .null] .null := Arv.set Ar34 q34 S34 M34 Ha34 G34 rfl W34 2 rfl (Nat.le_of_ble_eq_true rfl)
  have N34 := Fr.snoc X34 N32 gbn
  have hE34 : ∀ k, k < 4 → Exa Z h34 (ad k) "com/example/jobwright/jobwright/workload/O2kJobs$RequestClass" := fun k hk => (hE32 k hk).wr W34
  have EX34 := own_extw EX32 W34 gbh
  have pre34 : ∀ t, Steps p.tables e below (T34.setTop (mkF m 144 #[.val (.int p1), .val (.long q2), .second, .val (.int g), .val (.int bb), .val (.ref (ad 0)), .val (.ref (ad 1)), .val (.ref (ad 2)), .val (.ref (ad 3)), .unset] [(.ref b)])) t → Steps p.tables e below (s₁.setTop (entryFrame m #[(.int p1), (.long q2)] 10)) t := fun t k => pre33 t (st34 t k)
  have pre35 : ∀ t, Steps p.tables e below (T34.setTop (mkF m 148 #[.val (.int p1), .val (.long q2), .second, .val (.int g), .val (.int bb), .val (.ref (ad 0)), .val (.ref (ad 1)), .val (.ref (ad 2)), .val (.ref (ad 3)), .unset] [(.ref (ad 2)), (.int (3 : Int32)), (.ref b), (.ref b)])) t → Steps p.tables e below (s₁.setTop (entryFrame m #[(.int p1), (.long q2)] 10)) t := by
    intro t k
    refine pre34 _ ?_
    refine XS.dup X34.here hx rfl (hb hby d1_144) rfl rfl ?_
    show Steps p.tables e below (T34.setTop (mkF m 145 #[.val (.int p1), .val (.long q2), .second, .val (.int g), .val (.int bb), .val (.ref (ad 0)), .val (.ref (ad 1)), .val (.ref (ad 2)), .val (.ref (ad 3)), .unset] [(.ref b), (.ref b)])) _
    refine XS.iconst X34.here hx rfl (hb hby d1_145) ?_
    show Steps p.tables e below (T34.setTop (mkF m 146 #[.val (.int p1), .val (.long q2), .second, .val (.int g), .val (.int bb), .val (.ref (ad 0)), .val (.ref (ad 1)), .val (.ref (ad 2)), .val (.ref (ad 3)), .unset] [(.int (3 : Int32)), (.ref b), (.ref b)])) _
    refine XS.aload X34.here hx rfl (hb hby d1_146) rfl rfl ?_
    show Steps p.tables e below (T34.setTop (mkF m 148 #[.val (.int p1), .val (.long q2), .second, .val (.int g), .val (.int bb), .val (.ref (ad 0)), .val (.ref (ad 1)), .val (.ref (ad 2)), .val (.ref (ad 3)), .unset] [(.ref (ad 2)), (.int (3 : Int32)), (.ref b), (.ref b)])) _
    exact k
  obtain ⟨cl36, Ar36, q36, S36, M36, Ha36, G36⟩ := V34
  have hin36 : ¬ ((3 : Int32) < 0 ∨ cl36.slots.size ≤ ((3 : Int32)).toNatClampNeg) := inb_of S36 ⟨by decide, by decide⟩
  obtain ⟨T36, h36, X36, e36, W36, st36⟩ := stR X34 hx hZ e34 Ar36 (j := (3 : Int32)) hin36 rfl (Sto.of Ar36 (by rw [q36]; exact O28) (Ins.self (hE34 2 (by decide)))) (g := (mkF m 148 #[.val (.int p1), .val (.long q2), .second, .val (.int g), .val (.int bb), .val (.ref (ad 0)), .val (.ref (ad 1)), .val (.ref (ad 2)), .val (.ref (ad 3)), .unset] [(.ref (ad 2)), (.int (3 : Int32)), (.ref b), (.ref b)])) rfl rfl (hb hby d1_148)
  have V36 : Arv Z h36 b k28 (.object "com/example/jobwright/jobwright/workload/O2kJobs$RequestClass") (24 : Int32) [.ref (ad 1), .ref (ad 1), .ref (ad 1), .ref (ad 2), .null, .null, .null, .null, .null, .null, .null, .null, .null, .null, .null, .null, .null, .null, .null, .null, .null, .null, .null, .null] .null := Arv.set Ar36 q36 S36 M36 Ha36 G36 rfl W36 3 rfl (Nat.le_of_ble_eq_true rfl)
  have N36 := Fr.snoc X36 N34 gbn
  have hE36 : ∀ k, k < 4 → Exa Z h36 (ad k) "com/example/jobwright/jobwright/workload/O2kJobs$RequestClass" := fun k hk => (hE34 k hk).wr W36
  have EX36 := own_extw EX34 W36 gbh
  have pre36 : ∀ t, Steps p.tables e below (T36.setTop (mkF m 149 #[.val (.int p1), .val (.long q2), .second, .val (.int g), .val (.int bb), .val (.ref (ad 0)), .val (.ref (ad 1)), .val (.ref (ad 2)), .val (.ref (ad 3)), .unset] [(.ref b)])) t → Steps p.tables e below (s₁.setTop (entryFrame m #[(.int p1), (.long q2)] 10)) t := fun t k => pre35 t (st36 t k)
  have pre37 : ∀ t, Steps p.tables e below (T36.setTop (mkF m 153 #[.val (.int p1), .val (.long q2), .second, .val (.int g), .val (.int bb), .val (.ref (ad 0)), .val (.ref (ad 1)), .val (.ref (ad 2)), .val (.ref (ad 3)), .unset] [(.ref (ad 2)), (.int (4 : Int32)), (.ref b), (.ref b)])) t → Steps p.tables e below (s₁.setTop (entryFrame m #[(.int p1), (.long q2)] 10)) t := by
    intro t k
    refine pre36 _ ?_
    refine XS.dup X36.here hx rfl (hb hby d1_149) rfl rfl ?_
    show Steps p.tables e below (T36.setTop (mkF m 150 #[.val (.int p1), .val (.long q2), .second, .val (.int g), .val (.int bb), .val (.ref (ad 0)), .val (.ref (ad 1)), .val (.ref (ad 2)), .val (.ref (ad 3)), .unset] [(.ref b), (.ref b)])) _
    refine XS.iconst X36.here hx rfl (hb hby d1_150) ?_
    show Steps p.tables e below (T36.setTop (mkF m 151 #[.val (.int p1), .val (.long q2), .second, .val (.int g), .val (.int bb), .val (.ref (ad 0)), .val (.ref (ad 1)), .val (.ref (ad 2)), .val (.ref (ad 3)), .unset] [(.int (4 : Int32)), (.ref b), (.ref b)])) _
    refine XS.aload X36.here hx rfl (hb hby d1_151) rfl rfl ?_
    show Steps p.tables e below (T36.setTop (mkF m 153 #[.val (.int p1), .val (.long q2), .second, .val (.int g), .val (.int bb), .val (.ref (ad 0)), .val (.ref (ad 1)), .val (.ref (ad 2)), .val (.ref (ad 3)), .unset] [(.ref (ad 2)), (.int (4 : Int32)), (.ref b), (.ref b)])) _
    exact k
  obtain ⟨cl38, Ar38, q38, S38, M38, Ha38, G38⟩ := V36
  have hin38 : ¬ ((4 : Int32) < 0 ∨ cl38.slots.size ≤ ((4 : Int32)).toNatClampNeg) := inb_of S38 ⟨by decide, by decide⟩
  obtain ⟨T38, h38, X38, e38, W38, st38⟩ := stR X36 hx hZ e36 Ar38 (j := (4 : Int32)) hin38 rfl (Sto.of Ar38 (by rw [q38]; exact O28) (Ins.self (hE36 2 (by decide)))) (g := (mkF m 153 #[.val (.int p1), .val (.long q2), .second, .val (.int g), .val (.int bb), .val (.ref (ad 0)), .val (.ref (ad 1)), .val (.ref (ad 2)), .val (.ref (ad 3)), .unset] [(.ref (ad 2)), (.int (4 : Int32)), (.ref b), (.ref b)])) rfl rfl (hb hby d1_153)
  have V38 : Arv Z h38 b k28 (.object "com/example/jobwright/jobwright/workload/O2kJobs$RequestClass") (24 : Int32) [.ref (ad 1), .ref (ad 1), .ref (ad 1), .ref (ad 2), .ref (ad 2), .null, .null, .null, .null, .null, .null, .null, .null, .null, .null, .null, .null, .null, .null, .null, .null, .null, .null, .null] .null := Arv.set Ar38 q38 S38 M38 Ha38 G38 rfl W38 4 rfl (Nat.le_of_ble_eq_true rfl)
  have N38 := Fr.snoc X38 N36 gbn
  have hE38 : ∀ k, k < 4 → Exa Z h38 (ad k) "com/example/jobwright/jobwright/workload/O2kJobs$RequestClass" := fun k hk => (hE36 k hk).wr W38
  have EX38 := own_extw EX36 W38 gbh
  have pre38 : ∀ t, Steps p.tables e below (T38.setTop (mkF m 154 #[.val (.int p1), .val (.long q2), .second, .val (.int g), .val (.int bb), .val (.ref (ad 0)), .val (.ref (ad 1)), .val (.ref (ad 2)), .val (.ref (ad 3)), .unset] [(.ref b)])) t → Steps p.tables e below (s₁.setTop (entryFrame m #[(.int p1), (.long q2)] 10)) t := fun t k => pre37 t (st38 t k)
  have pre39 : ∀ t, Steps p.tables e below (T38.setTop (mkF m 158 #[.val (.int p1), .val (.long q2), .second, .val (.int g), .val (.int bb), .val (.ref (ad 0)), .val (.ref (ad 1)), .val (.ref (ad 2)), .val (.ref (ad 3)), .unset] [(.ref (ad 2)), (.int (5 : Int32)), (.ref b), (.ref b)])) t → Steps p.tables e below (s₁.setTop (entryFrame m #[(.int p1), (.long q2)] 10)) t := by
    intro t k
    refine pre38 _ ?_
    refine XS.dup X38.here hx rfl (hb hby d1_154) rfl rfl ?_
    show Steps p.tables e below (T38.setTop (mkF m 155 #[.val (.int p1), .val (.long q2), .second, .val (.int g), .val (.int bb), .val (.ref (ad 0)), .val (.ref (ad 1)), .val (.ref (ad 2)), .val (.ref (ad 3)), .unset] [(.ref b), (.ref b)])) _
    refine XS.iconst X38.here hx rfl (hb hby d1_155) ?_
    show Steps p.tables e below (T38.setTop (mkF m 156 #[.val (.int p1), .val (.long q2), .second, .val (.int g), .val (.int bb), .val (.ref (ad 0)), .val (.ref (ad 1)), .val (.ref (ad 2)), .val (.ref (ad 3)), .unset] [(.int (5 : Int32)), (.ref b), (.ref b)])) _
    refine XS.aload X38.here hx rfl (hb hby d1_156) rfl rfl ?_
    show Steps p.tables e below (T38.setTop (mkF m 158 #[.val (.int p1), .val (.long q2), .second, .val (.int g), .val (.int bb), .val (.ref (ad 0)), .val (.ref (ad 1)), .val (.ref (ad 2)), .val (.ref (ad 3)), .unset] [(.ref (ad 2)), (.int (5 : Int32)), (.ref b), (.ref b)])) _
    exact k
  obtain ⟨cl40, Ar40, q40, S40, M40, Ha40, G40⟩ := V38
  have hin40 : ¬ ((5 : Int32) < 0 ∨ cl40.slots.size ≤ ((5 : Int32)).toNatClampNeg) := inb_of S40 ⟨by decide, by decide⟩
  obtain ⟨T40, h40, X40, e40, W40, st40⟩ := stR X38 hx hZ e38 Ar40 (j := (5 : Int32)) hin40 rfl (Sto.of Ar40 (by rw [q40]; exact O28) (Ins.self (hE38 2 (by decide)))) (g := (mkF m 158 #[.val (.int p1), .val (.long q2), .second, .val (.int g), .val (.int bb), .val (.ref (ad 0)), .val (.ref (ad 1)), .val (.ref (ad 2)), .val (.ref (ad 3)), .unset] [(.ref (ad 2)), (.int (5 : Int32)), (.ref b), (.ref b)])) rfl rfl (hb hby d1_158)
  have V40 : Arv Z h40 b k28 (.object "com/example/jobwright/jobwright/workload/O2kJobs$RequestClass") (24 : Int32) [.ref (ad 1), .ref (ad 1), .ref (ad 1), .ref (ad 2), .ref (ad 2), .ref (ad 2), .null, .null, .null, .null, .null, .null, .null, .null, .null, .null, .null, .null, .null, .null, .null, .null, .null, .null] .null := Arv.set Ar40 q40 S40 M40 Ha40 G40 rfl W40 5 rfl (Nat.le_of_ble_eq_true rfl)
  have N40 := Fr.snoc X40 N38 gbn
  have hE40 : ∀ k, k < 4 → Exa Z h40 (ad k) "com/example/jobwright/jobwright/workload/O2kJobs$RequestClass" := fun k hk => (hE38 k hk).wr W40
  have EX40 := own_extw EX38 W40 gbh
  have pre40 : ∀ t, Steps p.tables e below (T40.setTop (mkF m 159 #[.val (.int p1), .val (.long q2), .second, .val (.int g), .val (.int bb), .val (.ref (ad 0)), .val (.ref (ad 1)), .val (.ref (ad 2)), .val (.ref (ad 3)), .unset] [(.ref b)])) t → Steps p.tables e below (s₁.setTop (entryFrame m #[(.int p1), (.long q2)] 10)) t := fun t k => pre39 t (st40 t k)
  have pre41 : ∀ t, Steps p.tables e below (T40.setTop (mkF m 164 #[.val (.int p1), .val (.long q2), .second, .val (.int g), .val (.int bb), .val (.ref (ad 0)), .val (.ref (ad 1)), .val (.ref (ad 2)), .val (.ref (ad 3)), .unset] [(.ref (ad 0)), (.int (6 : Int32)), (.ref b), (.ref b)])) t → Steps p.tables e below (s₁.setTop (entryFrame m #[(.int p1), (.long q2)] 10)) t := by
    intro t k
    refine pre40 _ ?_
    refine XS.dup X40.here hx rfl (hb hby d1_159) rfl rfl ?_
    show Steps p.tables e below (T40.setTop (mkF m 160 #[.val (.int p1), .val (.long q2), .second, .val (.int g), .val (.int bb), .val (.ref (ad 0)), .val (.ref (ad 1)), .val (.ref (ad 2)), .val (.ref (ad 3)), .unset] [(.ref b), (.ref b)])) _
    refine XS.bipush X40.here hx rfl (hb hby d1_160) ?_
    show Steps p.tables e below (T40.setTop (mkF m 162 #[.val (.int p1), .val (.long q2), .second, .val (.int g), .val (.int bb), .val (.ref (ad 0)), .val (.ref (ad 1)), .val (.ref (ad 2)), .val (.ref (ad 3)), .unset] [(.int (6 : Int32)), (.ref b), (.ref b)])) _
    refine XS.aload X40.here hx rfl (hb hby d1_162) rfl rfl ?_
    show Steps p.tables e below (T40.setTop (mkF m 164 #[.val (.int p1), .val (.long q2), .second, .val (.int g), .val (.int bb), .val (.ref (ad 0)), .val (.ref (ad 1)), .val (.ref (ad 2)), .val (.ref (ad 3)), .unset] [(.ref (ad 0)), (.int (6 : Int32)), (.ref b), (.ref b)])) _
    exact k
  obtain ⟨cl42, Ar42, q42, S42, M42, Ha42, G42⟩ := V40
  have hin42 : ¬ ((6 : Int32) < 0 ∨ cl42.slots.size ≤ ((6 : Int32)).toNatClampNeg) := inb_of S42 ⟨by decide, by decide⟩
  obtain ⟨T42, h42, X42, e42, W42, st42⟩ := stR X40 hx hZ e40 Ar42 (j := (6 : Int32)) hin42 rfl (Sto.of Ar42 (by rw [q42]; exact O28) (Ins.self (hE40 0 (by decide)))) (g := (mkF m 164 #[.val (.int p1), .val (.long q2), .second, .val (.int g), .val (.int bb), .val (.ref (ad 0)), .val (.ref (ad 1)), .val (.ref (ad 2)), .val (.ref (ad 3)), .unset] [(.ref (ad 0)), (.int (6 : Int32)), (.ref b), (.ref b)])) rfl rfl (hb hby d1_164)
  have V42 : Arv Z h42 b k28 (.object "com/example/jobwright/jobwright/workload/O2kJobs$RequestClass") (24 : Int32) [.ref (ad 1), .ref (ad 1), .ref (ad 1), .ref (ad 2), .ref (ad 2), .ref (ad 2), .ref (ad 0), .null, .null, .null, .null, .null, .null, .null, .null, .null, .null, .null, .null, .null, .null, .null, .null, .null] .null := Arv.set Ar42 q42 S42 M42 Ha42 G42 rfl W42 6 rfl (Nat.le_of_ble_eq_true rfl)
  have N42 := Fr.snoc X42 N40 gbn
  have hE42 : ∀ k, k < 4 → Exa Z h42 (ad k) "com/example/jobwright/jobwright/workload/O2kJobs$RequestClass" := fun k hk => (hE40 k hk).wr W42
  have EX42 := own_extw EX40 W42 gbh
  have pre42 : ∀ t, Steps p.tables e below (T42.setTop (mkF m 165 #[.val (.int p1), .val (.long q2), .second, .val (.int g), .val (.int bb), .val (.ref (ad 0)), .val (.ref (ad 1)), .val (.ref (ad 2)), .val (.ref (ad 3)), .unset] [(.ref b)])) t → Steps p.tables e below (s₁.setTop (entryFrame m #[(.int p1), (.long q2)] 10)) t := fun t k => pre41 t (st42 t k)
  have pre43 : ∀ t, Steps p.tables e below (T42.setTop (mkF m 170 #[.val (.int p1), .val (.long q2), .second, .val (.int g), .val (.int bb), .val (.ref (ad 0)), .val (.ref (ad 1)), .val (.ref (ad 2)), .val (.ref (ad 3)), .unset] [(.ref (ad 1)), (.int (7 : Int32)), (.ref b), (.ref b)])) t → Steps p.tables e below (s₁.setTop (entryFrame m #[(.int p1), (.long q2)] 10)) t := by
    intro t k
    refine pre42 _ ?_
    refine XS.dup X42.here hx rfl (hb hby d1_165) rfl rfl ?_
    show Steps p.tables e below (T42.setTop (mkF m 166 #[.val (.int p1), .val (.long q2), .second, .val (.int g), .val (.int bb), .val (.ref (ad 0)), .val (.ref (ad 1)), .val (.ref (ad 2)), .val (.ref (ad 3)), .unset] [(.ref b), (.ref b)])) _
    refine XS.bipush X42.here hx rfl (hb hby d1_166) ?_
    show Steps p.tables e below (T42.setTop (mkF m 168 #[.val (.int p1), .val (.long q2), .second, .val (.int g), .val (.int bb), .val (.ref (ad 0)), .val (.ref (ad 1)), .val (.ref (ad 2)), .val (.ref (ad 3)), .unset] [(.int (7 : Int32)), (.ref b), (.ref b)])) _
    refine XS.aload X42.here hx rfl (hb hby d1_168) rfl rfl ?_
    show Steps p.tables e below (T42.setTop (mkF m 170 #[.val (.int p1), .val (.long q2), .second, .val (.int g), .val (.int bb), .val (.ref (ad 0)), .val (.ref (ad 1)), .val (.ref (ad 2)), .val (.ref (ad 3)), .unset] [(.ref (ad 1)), (.int (7 : Int32)), (.ref b), (.ref b)])) _
    exact k
  obtain ⟨cl44, Ar44, q44, S44, M44, Ha44, G44⟩ := V42
  have hin44 : ¬ ((7 : Int32) < 0 ∨ cl44.slots.size ≤ ((7 : Int32)).toNatClampNeg) := inb_of S44 ⟨by decide, by decide⟩
  obtain ⟨T44, h44, X44, e44, W44, st44⟩ := stR X42 hx hZ e42 Ar44 (j := (7 : Int32)) hin44 rfl (Sto.of Ar44 (by rw [q44]; exact O28) (Ins.self (hE42 1 (by decide)))) (g := (mkF m 170 #[.val (.int p1), .val (.long q2), .second, .val (.int g), .val (.int bb), .val (.ref (ad 0)), .val (.ref (ad 1)), .val (.ref (ad 2)), .val (.ref (ad 3)), .unset] [(.ref (ad 1)), (.int (7 : Int32)), (.ref b), (.ref b)])) rfl rfl (hb hby d1_170)
  have V44 : Arv Z h44 b k28 (.object "com/example/jobwright/jobwright/workload/O2kJobs$RequestClass") (24 : Int32) [.ref (ad 1), .ref (ad 1), .ref (ad 1), .ref (ad 2), .ref (ad 2), .ref (ad 2), .ref (ad 0), .ref (ad 1), .null, .null, .null, .null, .null, .null, .null, .null, .null, .null, .null, .null, .null, .null, .null, .null] .null := Arv.set Ar44 q44 S44 M44 Ha44 G44 rfl W44 7 rfl (Nat.le_of_ble_eq_true rfl)
  have N44 := Fr.snoc X44 N42 gbn
  have hE44 : ∀ k, k < 4 → Exa Z h44 (ad k) "com/example/jobwright/jobwright/workload/O2kJobs$RequestClass" := fun k hk => (hE42 k hk).wr W44
  have EX44 := own_extw EX42 W44 gbh
  have pre44 : ∀ t, Steps p.tables e below (T44.setTop (mkF m 171 #[.val (.int p1), .val (.long q2), .second, .val (.int g), .val (.int bb), .val (.ref (ad 0)), .val (.ref (ad 1)), .val (.ref (ad 2)), .val (.ref (ad 3)), .unset] [(.ref b)])) t → Steps p.tables e below (s₁.setTop (entryFrame m #[(.int p1), (.long q2)] 10)) t := fun t k => pre43 t (st44 t k)
  have pre45 : ∀ t, Steps p.tables e below (T44.setTop (mkF m 176 #[.val (.int p1), .val (.long q2), .second, .val (.int g), .val (.int bb), .val (.ref (ad 0)), .val (.ref (ad 1)), .val (.ref (ad 2)), .val (.ref (ad 3)), .unset] [(.ref (ad 1)), (.int (8 : Int32)), (.ref b), (.ref b)])) t → Steps p.tables e below (s₁.setTop (entryFrame m #[(.int p1), (.long q2)] 10)) t := by
    intro t k
    refine pre44 _ ?_
    refine XS.dup X44.here hx rfl (hb hby d1_171) rfl rfl ?_
    show Steps p.tables e below (T44.setTop (mkF m 172 #[.val (.int p1), .val (.long q2), .second, .val (.int g), .val (.int bb), .val (.ref (ad 0)), .val (.ref (ad 1)), .val (.ref (ad 2)), .val (.ref (ad 3)), .unset] [(.ref b), (.ref b)])) _
    refine XS.bipush X44.here hx rfl (hb hby d1_172) ?_
    show Steps p.tables e below (T44.setTop (mkF m 174 #[.val (.int p1), .val (.long q2), .second, .val (.int g), .val (.int bb), .val (.ref (ad 0)), .val (.ref (ad 1)), .val (.ref (ad 2)), .val (.ref (ad 3)), .unset] [(.int (8 : Int32)), (.ref b), (.ref b)])) _
    refine XS.aload X44.here hx rfl (hb hby d1_174) rfl rfl ?_
    show Steps p.tables e below (T44.setTop (mkF m 176 #[.val (.int p1), .val (.long q2), .second, .val (.int g), .val (.int bb), .val (.ref (ad 0)), .val (.ref (ad 1)), .val (.ref (ad 2)), .val (.ref (ad 3)), .unset] [(.ref (ad 1)), (.int (8 : Int32)), (.ref b), (.ref b)])) _
    exact k
  obtain ⟨cl46, Ar46, q46, S46, M46, Ha46, G46⟩ := V44
  have hin46 : ¬ ((8 : Int32) < 0 ∨ cl46.slots.size ≤ ((8 : Int32)).toNatClampNeg) := inb_of S46 ⟨by decide, by decide⟩
  obtain ⟨T46, h46, X46, e46, W46, st46⟩ := stR X44 hx hZ e44 Ar46 (j := (8 : Int32)) hin46 rfl (Sto.of Ar46 (by rw [q46]; exact O28) (Ins.self (hE44 1 (by decide)))) (g := (mkF m 176 #[.val (.int p1), .val (.long q2), .second, .val (.int g), .val (.int bb), .val (.ref (ad 0)), .val (.ref (ad 1)), .val (.ref (ad 2)), .val (.ref (ad 3)), .unset] [(.ref (ad 1)), (.int (8 : Int32)), (.ref b), (.ref b)])) rfl rfl (hb hby d1_176)
  have V46 : Arv Z h46 b k28 (.object "com/example/jobwright/jobwright/workload/O2kJobs$RequestClass") (24 : Int32) [.ref (ad 1), .ref (ad 1), .ref (ad 1), .ref (ad 2), .ref (ad 2), .ref (ad 2), .ref (ad 0), .ref (ad 1), .ref (ad 1), .null, .null, .null, .null, .null, .null, .null, .null, .null, .null, .null, .null, .null, .null, .null] .null := Arv.set Ar46 q46 S46 M46 Ha46 G46 rfl W46 8 rfl (Nat.le_of_ble_eq_true rfl)
  have N46 := Fr.snoc X46 N44 gbn
  have hE46 : ∀ k, k < 4 → Exa Z h46 (ad k) "com/example/jobwright/jobwright/workload/O2kJobs$RequestClass" := fun k hk => (hE44 k hk).wr W46
  have EX46 := own_extw EX44 W46 gbh
  have pre46 : ∀ t, Steps p.tables e below (T46.setTop (mkF m 177 #[.val (.int p1), .val (.long q2), .second, .val (.int g), .val (.int bb), .val (.ref (ad 0)), .val (.ref (ad 1)), .val (.ref (ad 2)), .val (.ref (ad 3)), .unset] [(.ref b)])) t → Steps p.tables e below (s₁.setTop (entryFrame m #[(.int p1), (.long q2)] 10)) t := fun t k => pre45 t (st46 t k)
  have pre47 : ∀ t, Steps p.tables e below (T46.setTop (mkF m 182 #[.val (.int p1), .val (.long q2), .second, .val (.int g), .val (.int bb), .val (.ref (ad 0)), .val (.ref (ad 1)), .val (.ref (ad 2)), .val (.ref (ad 3)), .unset] [(.ref (ad 1)), (.int (9 : Int32)), (.ref b), (.ref b)])) t → Steps p.tables e below (s₁.setTop (entryFrame m #[(.int p1), (.long q2)] 10)) t := by
    intro t k
    refine pre46 _ ?_
    refine XS.dup X46.here hx rfl (hb hby d1_177) rfl rfl ?_
    show Steps p.tables e below (T46.setTop (mkF m 178 #[.val (.int p1), .val (.long q2), .second, .val (.int g), .val (.int bb), .val (.ref (ad 0)), .val (.ref (ad 1)), .val (.ref (ad 2)), .val (.ref (ad 3)), .unset] [(.ref b), (.ref b)])) _
    refine XS.bipush X46.here hx rfl (hb hby d1_178) ?_
    show Steps p.tables e below (T46.setTop (mkF m 180 #[.val (.int p1), .val (.long q2), .second, .val (.int g), .val (.int bb), .val (.ref (ad 0)), .val (.ref (ad 1)), .val (.ref (ad 2)), .val (.ref (ad 3)), .unset] [(.int (9 : Int32)), (.ref b), (.ref b)])) _
    refine XS.aload X46.here hx rfl (hb hby d1_180) rfl rfl ?_
    show Steps p.tables e below (T46.setTop (mkF m 182 #[.val (.int p1), .val (.long q2), .second, .val (.int g), .val (.int bb), .val (.ref (ad 0)), .val (.ref (ad 1)), .val (.ref (ad 2)), .val (.ref (ad 3)), .unset] [(.ref (ad 1)), (.int (9 : Int32)), (.ref b), (.ref b)])) _
    exact k
  obtain ⟨cl48, Ar48, q48, S48, M48, Ha48, G48⟩ := V46
  have hin48 : ¬ ((9 : Int32) < 0 ∨ cl48.slots.size ≤ ((9 : Int32)).toNatClampNeg) := inb_of S48 ⟨by decide, by decide⟩
  obtain ⟨T48, h48, X48, e48, W48, st48⟩ := stR X46 hx hZ e46 Ar48 (j := (9 : Int32)) hin48 rfl (Sto.of Ar48 (by rw [q48]; exact O28) (Ins.self (hE46 1 (by decide)))) (g := (mkF m 182 #[.val (.int p1), .val (.long q2), .second, .val (.int g), .val (.int bb), .val (.ref (ad 0)), .val (.ref (ad 1)), .val (.ref (ad 2)), .val (.ref (ad 3)), .unset] [(.ref (ad 1)), (.int (9 : Int32)), (.ref b), (.ref b)])) rfl rfl (hb hby d1_182)
  have V48 : Arv Z h48 b k28 (.object "com/example/jobwright/jobwright/workload/O2kJobs$RequestClass") (24 : Int32) [.ref (ad 1), .ref (ad 1), .ref (ad 1), .ref (ad 2), .ref (ad 2), .ref (ad 2), .ref (ad 0), .ref (ad 1), .ref (ad 1), .ref (ad 1), .null, .null, .null, .null, .null, .null, .null, .null, .null, .null, .null, .null, .null, .null] .null := Arv.set Ar48 q48 S48 M48 Ha48 G48 rfl W48 9 rfl (Nat.le_of_ble_eq_true rfl)
  have N48 := Fr.snoc X48 N46 gbn
  have hE48 : ∀ k, k < 4 → Exa Z h48 (ad k) "com/example/jobwright/jobwright/workload/O2kJobs$RequestClass" := fun k hk => (hE46 k hk).wr W48
  have EX48 := own_extw EX46 W48 gbh
  have pre48 : ∀ t, Steps p.tables e below (T48.setTop (mkF m 183 #[.val (.int p1), .val (.long q2), .second, .val (.int g), .val (.int bb), .val (.ref (ad 0)), .val (.ref (ad 1)), .val (.ref (ad 2)), .val (.ref (ad 3)), .unset] [(.ref b)])) t → Steps p.tables e below (s₁.setTop (entryFrame m #[(.int p1), (.long q2)] 10)) t := fun t k => pre47 t (st48 t k)
  have pre49 : ∀ t, Steps p.tables e below (T48.setTop (mkF m 188 #[.val (.int p1), .val (.long q2), .second, .val (.int g), .val (.int bb), .val (.ref (ad 0)), .val (.ref (ad 1)), .val (.ref (ad 2)), .val (.ref (ad 3)), .unset] [(.ref (ad 2)), (.int (10 : Int32)), (.ref b), (.ref b)])) t → Steps p.tables e below (s₁.setTop (entryFrame m #[(.int p1), (.long q2)] 10)) t := by
    intro t k
    refine pre48 _ ?_
    refine XS.dup X48.here hx rfl (hb hby d1_183) rfl rfl ?_
    show Steps p.tables e below (T48.setTop (mkF m 184 #[.val (.int p1), .val (.long q2), .second, .val (.int g), .val (.int bb), .val (.ref (ad 0)), .val (.ref (ad 1)), .val (.ref (ad 2)), .val (.ref (ad 3)), .unset] [(.ref b), (.ref b)])) _
    refine XS.bipush X48.here hx rfl (hb hby d1_184) ?_
    show Steps p.tables e below (T48.setTop (mkF m 186 #[.val (.int p1), .val (.long q2), .second, .val (.int g), .val (.int bb), .val (.ref (ad 0)), .val (.ref (ad 1)), .val (.ref (ad 2)), .val (.ref (ad 3)), .unset] [(.int (10 : Int32)), (.ref b), (.ref b)])) _
    refine XS.aload X48.here hx rfl (hb hby d1_186) rfl rfl ?_
    show Steps p.tables e below (T48.setTop (mkF m 188 #[.val (.int p1), .val (.long q2), .second, .val (.int g), .val (.int bb), .val (.ref (ad 0)), .val (.ref (ad 1)), .val (.ref (ad 2)), .val (.ref (ad 3)), .unset] [(.ref (ad 2)), (.int (10 : Int32)), (.ref b), (.ref b)])) _
    exact k
  obtain ⟨cl50, Ar50, q50, S50, M50, Ha50, G50⟩ := V48
  have hin50 : ¬ ((10 : Int32) < 0 ∨ cl50.slots.size ≤ ((10 : Int32)).toNatClampNeg) := inb_of S50 ⟨by decide, by decide⟩
  obtain ⟨T50, h50, X50, e50, W50, st50⟩ := stR X48 hx hZ e48 Ar50 (j := (10 : Int32)) hin50 rfl (Sto.of Ar50 (by rw [q50]; exact O28) (Ins.self (hE48 2 (by decide)))) (g := (mkF m 188 #[.val (.int p1), .val (.long q2), .second, .val (.int g), .val (.int bb), .val (.ref (ad 0)), .val (.ref (ad 1)), .val (.ref (ad 2)), .val (.ref (ad 3)), .unset] [(.ref (ad 2)), (.int (10 : Int32)), (.ref b), (.ref b)])) rfl rfl (hb hby d1_188)
  have V50 : Arv Z h50 b k28 (.object "com/example/jobwright/jobwright/workload/O2kJobs$RequestClass") (24 : Int32) [.ref (ad 1), .ref (ad 1), .ref (ad 1), .ref (ad 2), .ref (ad 2), .ref (ad 2), .ref (ad 0), .ref (ad 1), .ref (ad 1), .ref (ad 1), .ref (ad 2), .null, .null, .null, .null, .null, .null, .null, .null, .null, .null, .null, .null, .null] .null := Arv.set Ar50 q50 S50 M50 Ha50 G50 rfl W50 10 rfl (Nat.le_of_ble_eq_true rfl)
  have N50 := Fr.snoc X50 N48 gbn
  have hE50 : ∀ k, k < 4 → Exa Z h50 (ad k) "com/example/jobwright/jobwright/workload/O2kJobs$RequestClass" := fun k hk => (hE48 k hk).wr W50
  have EX50 := own_extw EX48 W50 gbh
  have pre50 : ∀ t, Steps p.tables e below (T50.setTop (mkF m 189 #[.val (.int p1), .val (.long q2), .second, .val (.int g), .val (.int bb), .val (.ref (ad 0)), .val (.ref (ad 1)), .val (.ref (ad 2)), .val (.ref (ad 3)), .unset] [(.ref b)])) t → Steps p.tables e below (s₁.setTop (entryFrame m #[(.int p1), (.long q2)] 10)) t := fun t k => pre49 t (st50 t k)
  have pre51 : ∀ t, Steps p.tables e below (T50.setTop (mkF m 194 #[.val (.int p1), .val (.long q2), .second, .val (.int g), .val (.int bb), .val (.ref (ad 0)), .val (.ref (ad 1)), .val (.ref (ad 2)), .val (.ref (ad 3)), .unset] [(.ref (ad 2)), (.int (11 : Int32)), (.ref b), (.ref b)])) t → Steps p.tables e below (s₁.setTop (entryFrame m #[(.int p1), (.long q2)] 10)) t := by
    intro t k
    refine pre50 _ ?_
    refine XS.dup X50.here hx rfl (hb hby d1_189) rfl rfl ?_
    show Steps p.tables e below (T50.setTop (mkF m 190 #[.val (.int p1), .val (.long q2), .second, .val (.int g), .val (.int bb), .val (.ref (ad 0)), .val (.ref (ad 1)), .val (.ref (ad 2)), .val (.ref (ad 3)), .unset] [(.ref b), (.ref b)])) _
    refine XS.bipush X50.here hx rfl (hb hby d1_190) ?_
    show Steps p.tables e below (T50.setTop (mkF m 192 #[.val (.int p1), .val (.long q2), .second, .val (.int g), .val (.int bb), .val (.ref (ad 0)), .val (.ref (ad 1)), .val (.ref (ad 2)), .val (.ref (ad 3)), .unset] [(.int (11 : Int32)), (.ref b), (.ref b)])) _
    refine XS.aload X50.here hx rfl (hb hby d1_192) rfl rfl ?_
    show Steps p.tables e below (T50.setTop (mkF m 194 #[.val (.int p1), .val (.long q2), .second, .val (.int g), .val (.int bb), .val (.ref (ad 0)), .val (.ref (ad 1)), .val (.ref (ad 2)), .val (.ref (ad 3)), .unset] [(.ref (ad 2)), (.int (11 : Int32)), (.ref b), (.ref b)])) _
    exact k
  obtain ⟨cl52, Ar52, q52, S52, M52, Ha52, G52⟩ := V50
  have hin52 : ¬ ((11 : Int32) < 0 ∨ cl52.slots.size ≤ ((11 : Int32)).toNatClampNeg) := inb_of S52 ⟨by decide, by decide⟩
  obtain ⟨T52, h52, X52, e52, W52, st52⟩ := stR X50 hx hZ e50 Ar52 (j := (11 : Int32)) hin52 rfl (Sto.of Ar52 (by rw [q52]; exact O28) (Ins.self (hE50 2 (by decide)))) (g := (mkF m 194 #[.val (.int p1), .val (.long q2), .second, .val (.int g), .val (.int bb), .val (.ref (ad 0)), .val (.ref (ad 1)), .val (.ref (ad 2)), .val (.ref (ad 3)), .unset] [(.ref (ad 2)), (.int (11 : Int32)), (.ref b), (.ref b)])) rfl rfl (hb hby d1_194)
  have V52 : Arv Z h52 b k28 (.object "com/example/jobwright/jobwright/workload/O2kJobs$RequestClass") (24 : Int32) [.ref (ad 1), .ref (ad 1), .ref (ad 1), .ref (ad 2), .ref (ad 2), .ref (ad 2), .ref (ad 0), .ref (ad 1), .ref (ad 1), .ref (ad 1), .ref (ad 2), .ref (ad 2), .null, .null, .null, .null, .null, .null, .null, .null, .null, .null, .null, .null] .null := Arv.set Ar52 q52 S52 M52 Ha52 G52 rfl W52 11 rfl (Nat.le_of_ble_eq_true rfl)
  have N52 := Fr.snoc X52 N50 gbn
  have hE52 : ∀ k, k < 4 → Exa Z h52 (ad k) "com/example/jobwright/jobwright/workload/O2kJobs$RequestClass" := fun k hk => (hE50 k hk).wr W52
  have EX52 := own_extw EX50 W52 gbh
  have pre52 : ∀ t, Steps p.tables e below (T52.setTop (mkF m 195 #[.val (.int p1), .val (.long q2), .second, .val (.int g), .val (.int bb), .val (.ref (ad 0)), .val (.ref (ad 1)), .val (.ref (ad 2)), .val (.ref (ad 3)), .unset] [(.ref b)])) t → Steps p.tables e below (s₁.setTop (entryFrame m #[(.int p1), (.long q2)] 10)) t := fun t k => pre51 t (st52 t k)
  have pre53 : ∀ t, Steps p.tables e below (T52.setTop (mkF m 200 #[.val (.int p1), .val (.long q2), .second, .val (.int g), .val (.int bb), .val (.ref (ad 0)), .val (.ref (ad 1)), .val (.ref (ad 2)), .val (.ref (ad 3)), .unset] [(.ref (ad 0)), (.int (12 : Int32)), (.ref b), (.ref b)])) t → Steps p.tables e below (s₁.setTop (entryFrame m #[(.int p1), (.long q2)] 10)) t := by
    intro t k
    refine pre52 _ ?_
    refine XS.dup X52.here hx rfl (hb hby d1_195) rfl rfl ?_
    show Steps p.tables e below (T52.setTop (mkF m 196 #[.val (.int p1), .val (.long q2), .second, .val (.int g), .val (.int bb), .val (.ref (ad 0)), .val (.ref (ad 1)), .val (.ref (ad 2)), .val (.ref (ad 3)), .unset] [(.ref b), (.ref b)])) _
    refine XS.bipush X52.here hx rfl (hb hby d1_196) ?_
    show Steps p.tables e below (T52.setTop (mkF m 198 #[.val (.int p1), .val (.long q2), .second, .val (.int g), .val (.int bb), .val (.ref (ad 0)), .val (.ref (ad 1)), .val (.ref (ad 2)), .val (.ref (ad 3)), .unset] [(.int (12 : Int32)), (.ref b), (.ref b)])) _
    refine XS.aload X52.here hx rfl (hb hby d1_198) rfl rfl ?_
    show Steps p.tables e below (T52.setTop (mkF m 200 #[.val (.int p1), .val (.long q2), .second, .val (.int g), .val (.int bb), .val (.ref (ad 0)), .val (.ref (ad 1)), .val (.ref (ad 2)), .val (.ref (ad 3)), .unset] [(.ref (ad 0)), (.int (12 : Int32)), (.ref b), (.ref b)])) _
    exact k
  obtain ⟨cl54, Ar54, q54, S54, M54, Ha54, G54⟩ := V52
  have hin54 : ¬ ((12 : Int32) < 0 ∨ cl54.slots.size ≤ ((12 : Int32)).toNatClampNeg) := inb_of S54 ⟨by decide, by decide⟩
  obtain ⟨T54, h54, X54, e54, W54, st54⟩ := stR X52 hx hZ e52 Ar54 (j := (12 : Int32)) hin54 rfl (Sto.of Ar54 (by rw [q54]; exact O28) (Ins.self (hE52 0 (by decide)))) (g := (mkF m 200 #[.val (.int p1), .val (.long q2), .second, .val (.int g), .val (.int bb), .val (.ref (ad 0)), .val (.ref (ad 1)), .val (.ref (ad 2)), .val (.ref (ad 3)), .unset] [(.ref (ad 0)), (.int (12 : Int32)), (.ref b), (.ref b)])) rfl rfl (hb hby d1_200)
  have V54 : Arv Z h54 b k28 (.object "com/example/jobwright/jobwright/workload/O2kJobs$RequestClass") (24 : Int32) [.ref (ad 1), .ref (ad 1), .ref (ad 1), .ref (ad 2), .ref (ad 2), .ref (ad 2), .ref (ad 0), .ref (ad 1), .ref (ad 1), .ref (ad 1), .ref (ad 2), .ref (ad 2), .ref (ad 0), .null, .null, .null, .null, .null, .null, .null, .null, .null, .null, .null] .null := Arv.set Ar54 q54 S54 M54 Ha54 G54 rfl W54 12 rfl (Nat.le_of_ble_eq_true rfl)
  have N54 := Fr.snoc X54 N52 gbn
  have hE54 : ∀ k, k < 4 → Exa Z h54 (ad k) "com/example/jobwright/jobwright/workload/O2kJobs$RequestClass" := fun k hk => (hE52 k hk).wr W54
  have EX54 := own_extw EX52 W54 gbh
  have pre54 : ∀ t, Steps p.tables e below (T54.setTop (mkF m 201 #[.val (.int p1), .val (.long q2), .second, .val (.int g), .val (.int bb), .val (.ref (ad 0)), .val (.ref (ad 1)), .val (.ref (ad 2)), .val (.ref (ad 3)), .unset] [(.ref b)])) t → Steps p.tables e below (s₁.setTop (entryFrame m #[(.int p1), (.long q2)] 10)) t := fun t k => pre53 t (st54 t k)
  have pre55 : ∀ t, Steps p.tables e below (T54.setTop (mkF m 206 #[.val (.int p1), .val (.long q2), .second, .val (.int g), .val (.int bb), .val (.ref (ad 0)), .val (.ref (ad 1)), .val (.ref (ad 2)), .val (.ref (ad 3)), .unset] [(.ref (ad 0)), (.int (13 : Int32)), (.ref b), (.ref b)])) t → Steps p.tables e below (s₁.setTop (entryFrame m #[(.int p1), (.long q2)] 10)) t := by
    intro t k
    refine pre54 _ ?_
    refine XS.dup X54.here hx rfl (hb hby d1_201) rfl rfl ?_
    show Steps p.tables e below (T54.setTop (mkF m 202 #[.val (.int p1), .val (.long q2), .second, .val (.int g), .val (.int bb), .val (.ref (ad 0)), .val (.ref (ad 1)), .val (.ref (ad 2)), .val (.ref (ad 3)), .unset] [(.ref b), (.ref b)])) _
    refine XS.bipush X54.here hx rfl (hb hby d1_202) ?_
    show Steps p.tables e below (T54.setTop (mkF m 204 #[.val (.int p1), .val (.long q2), .second, .val (.int g), .val (.int bb), .val (.ref (ad 0)), .val (.ref (ad 1)), .val (.ref (ad 2)), .val (.ref (ad 3)), .unset] [(.int (13 : Int32)), (.ref b), (.ref b)])) _
    refine XS.aload X54.here hx rfl (hb hby d1_204) rfl rfl ?_
    show Steps p.tables e below (T54.setTop (mkF m 206 #[.val (.int p1), .val (.long q2), .second, .val (.int g), .val (.int bb), .val (.ref (ad 0)), .val (.ref (ad 1)), .val (.ref (ad 2)), .val (.ref (ad 3)), .unset] [(.ref (ad 0)), (.int (13 : Int32)), (.ref b), (.ref b)])) _
    exact k
  obtain ⟨cl56, Ar56, q56, S56, M56, Ha56, G56⟩ := V54
  have hin56 : ¬ ((13 : Int32) < 0 ∨ cl56.slots.size ≤ ((13 : Int32)).toNatClampNeg) := inb_of S56 ⟨by decide, by decide⟩
  obtain ⟨T56, h56, X56, e56, W56, st56⟩ := stR X54 hx hZ e54 Ar56 (j := (13 : Int32)) hin56 rfl (Sto.of Ar56 (by rw [q56]; exact O28) (Ins.self (hE54 0 (by decide)))) (g := (mkF m 206 #[.val (.int p1), .val (.long q2), .second, .val (.int g), .val (.int bb), .val (.ref (ad 0)), .val (.ref (ad 1)), .val (.ref (ad 2)), .val (.ref (ad 3)), .unset] [(.ref (ad 0)), (.int (13 : Int32)), (.ref b), (.ref b)])) rfl rfl (hb hby d1_206)
  have V56 : Arv Z h56 b k28 (.object "com/example/jobwright/jobwright/workload/O2kJobs$RequestClass") (24 : Int32) [.ref (ad 1), .ref (ad 1), .ref (ad 1), .ref (ad 2), .ref (ad 2), .ref (ad 2), .ref (ad 0), .ref (ad 1), .ref (ad 1), .ref (ad 1), .ref (ad 2), .ref (ad 2), .ref (ad 0), .ref (ad 0), .null, .null, .null, .null, .null, .null, .null, .null, .null, .null] .null := Arv.set Ar56 q56 S56 M56 Ha56 G56 rfl W56 13 rfl (Nat.le_of_ble_eq_true rfl)
  have N56 := Fr.snoc X56 N54 gbn
  have hE56 : ∀ k, k < 4 → Exa Z h56 (ad k) "com/example/jobwright/jobwright/workload/O2kJobs$RequestClass" := fun k hk => (hE54 k hk).wr W56
  have EX56 := own_extw EX54 W56 gbh
  have pre56 : ∀ t, Steps p.tables e below (T56.setTop (mkF m 207 #[.val (.int p1), .val (.long q2), .second, .val (.int g), .val (.int bb), .val (.ref (ad 0)), .val (.ref (ad 1)), .val (.ref (ad 2)), .val (.ref (ad 3)), .unset] [(.ref b)])) t → Steps p.tables e below (s₁.setTop (entryFrame m #[(.int p1), (.long q2)] 10)) t := fun t k => pre55 t (st56 t k)
  have pre57 : ∀ t, Steps p.tables e below (T56.setTop (mkF m 212 #[.val (.int p1), .val (.long q2), .second, .val (.int g), .val (.int bb), .val (.ref (ad 0)), .val (.ref (ad 1)), .val (.ref (ad 2)), .val (.ref (ad 3)), .unset] [(.ref (ad 1)), (.int (14 : Int32)), (.ref b), (.ref b)])) t → Steps p.tables e below (s₁.setTop (entryFrame m #[(.int p1), (.long q2)] 10)) t := by
    intro t k
    refine pre56 _ ?_
    refine XS.dup X56.here hx rfl (hb hby d1_207) rfl rfl ?_
    show Steps p.tables e below (T56.setTop (mkF m 208 #[.val (.int p1), .val (.long q2), .second, .val (.int g), .val (.int bb), .val (.ref (ad 0)), .val (.ref (ad 1)), .val (.ref (ad 2)), .val (.ref (ad 3)), .unset] [(.ref b), (.ref b)])) _
    refine XS.bipush X56.here hx rfl (hb hby d1_208) ?_
    show Steps p.tables e below (T56.setTop (mkF m 210 #[.val (.int p1), .val (.long q2), .second, .val (.int g), .val (.int bb), .val (.ref (ad 0)), .val (.ref (ad 1)), .val (.ref (ad 2)), .val (.ref (ad 3)), .unset] [(.int (14 : Int32)), (.ref b), (.ref b)])) _
    refine XS.aload X56.here hx rfl (hb hby d1_210) rfl rfl ?_
    show Steps p.tables e below (T56.setTop (mkF m 212 #[.val (.int p1), .val (.long q2), .second, .val (.int g), .val (.int bb), .val (.ref (ad 0)), .val (.ref (ad 1)), .val (.ref (ad 2)), .val (.ref (ad 3)), .unset] [(.ref (ad 1)), (.int (14 : Int32)), (.ref b), (.ref b)])) _
    exact k
  obtain ⟨cl58, Ar58, q58, S58, M58, Ha58, G58⟩ := V56
  have hin58 : ¬ ((14 : Int32) < 0 ∨ cl58.slots.size ≤ ((14 : Int32)).toNatClampNeg) := inb_of S58 ⟨by decide, by decide⟩
  obtain ⟨T58, h58, X58, e58, W58, st58⟩ := stR X56 hx hZ e56 Ar58 (j := (14 : Int32)) hin58 rfl (Sto.of Ar58 (by rw [q58]; exact O28) (Ins.self (hE56 1 (by decide)))) (g := (mkF m 212 #[.val (.int p1), .val (.long q2), .second, .val (.int g), .val (.int bb), .val (.ref (ad 0)), .val (.ref (ad 1)), .val (.ref (ad 2)), .val (.ref (ad 3)), .unset] [(.ref (ad 1)), (.int (14 : Int32)), (.ref b), (.ref b)])) rfl rfl (hb hby d1_212)
  have V58 : Arv Z h58 b k28 (.object "com/example/jobwright/jobwright/workload/O2kJobs$RequestClass") (24 : Int32) [.ref (ad 1), .ref (ad 1), .ref (ad 1), .ref (ad 2), .ref (ad 2), .ref (ad 2), .ref (ad 0), .ref (ad 1), .ref (ad 1), .ref (ad 1), .ref (ad 2), .ref (ad 2), .ref (ad 0), .ref (ad 0), .ref (ad 1), .null, .null, .null, .null, .null, .null, .null, .null, .null] .null := Arv.set Ar58 q58 S58 M58 Ha58 G58 rfl W58 14 rfl (Nat.le_of_ble_eq_true rfl)
  have N58 := Fr.snoc X58 N56 gbn
  have hE58 : ∀ k, k < 4 → Exa Z h58 (ad k) "com/example/jobwright/jobwright/workload/O2kJobs$RequestClass" := fun k hk => (hE56 k hk).wr W58
  have EX58 := own_extw EX56 W58 gbh
  have pre58 : ∀ t, Steps p.tables e below (T58.setTop (mkF m 213 #[.val (.int p1), .val (.long q2), .second, .val (.int g), .val (.int bb), .val (.ref (ad 0)), .val (.ref (ad 1)), .val (.ref (ad 2)), .val (.ref (ad 3)), .unset] [(.ref b)])) t → Steps p.tables e below (s₁.setTop (entryFrame m #[(.int p1), (.long q2)] 10)) t := fun t k => pre57 t (st58 t k)
  have pre59 : ∀ t, Steps p.tables e below (T58.setTop (mkF m 218 #[.val (.int p1), .val (.long q2), .second, .val (.int g), .val (.int bb), .val (.ref (ad 0)), .val (.ref (ad 1)), .val (.ref (ad 2)), .val (.ref (ad 3)), .unset] [(.ref (ad 1)), (.int (15 : Int32)), (.ref b), (.ref b)])) t → Steps p.tables e below (s₁.setTop (entryFrame m #[(.int p1), (.long q2)] 10)) t := by
    intro t k
    refine pre58 _ ?_
    refine XS.dup X58.here hx rfl (hb hby d1_213) rfl rfl ?_
    show Steps p.tables e below (T58.setTop (mkF m 214 #[.val (.int p1), .val (.long q2), .second, .val (.int g), .val (.int bb), .val (.ref (ad 0)), .val (.ref (ad 1)), .val (.ref (ad 2)), .val (.ref (ad 3)), .unset] [(.ref b), (.ref b)])) _
    refine XS.bipush X58.here hx rfl (hb hby d1_214) ?_
    show Steps p.tables e below (T58.setTop (mkF m 216 #[.val (.int p1), .val (.long q2), .second, .val (.int g), .val (.int bb), .val (.ref (ad 0)), .val (.ref (ad 1)), .val (.ref (ad 2)), .val (.ref (ad 3)), .unset] [(.int (15 : Int32)), (.ref b), (.ref b)])) _
    refine XS.aload X58.here hx rfl (hb hby d1_216) rfl rfl ?_
    show Steps p.tables e below (T58.setTop (mkF m 218 #[.val (.int p1), .val (.long q2), .second, .val (.int g), .val (.int bb), .val (.ref (ad 0)), .val (.ref (ad 1)), .val (.ref (ad 2)), .val (.ref (ad 3)), .unset] [(.ref (ad 1)), (.int (15 : Int32)), (.ref b), (.ref b)])) _
    exact k
  obtain ⟨cl60, Ar60, q60, S60, M60, Ha60, G60⟩ := V58
  have hin60 : ¬ ((15 : Int32) < 0 ∨ cl60.slots.size ≤ ((15 : Int32)).toNatClampNeg) := inb_of S60 ⟨by decide, by decide⟩
  obtain ⟨T60, h60, X60, e60, W60, st60⟩ := stR X58 hx hZ e58 Ar60 (j := (15 : Int32)) hin60 rfl (Sto.of Ar60 (by rw [q60]; exact O28) (Ins.self (hE58 1 (by decide)))) (g := (mkF m 218 #[.val (.int p1), .val (.long q2), .second, .val (.int g), .val (.int bb), .val (.ref (ad 0)), .val (.ref (ad 1)), .val (.ref (ad 2)), .val (.ref (ad 3)), .unset] [(.ref (ad 1)), (.int (15 : Int32)), (.ref b), (.ref b)])) rfl rfl (hb hby d1_218)
  have V60 : Arv Z h60 b k28 (.object "com/example/jobwright/jobwright/workload/O2kJobs$RequestClass") (24 : Int32) [.ref (ad 1), .ref (ad 1), .ref (ad 1), .ref (ad 2), .ref (ad 2), .ref (ad 2), .ref (ad 0), .ref (ad 1), .ref (ad 1), .ref (ad 1), .ref (ad 2), .ref (ad 2), .ref (ad 0), .ref (ad 0), .ref (ad 1), .ref (ad 1), .null, .null, .null, .null, .null, .null, .null, .null] .null := Arv.set Ar60 q60 S60 M60 Ha60 G60 rfl W60 15 rfl (Nat.le_of_ble_eq_true rfl)
  have N60 := Fr.snoc X60 N58 gbn
  have hE60 : ∀ k, k < 4 → Exa Z h60 (ad k) "com/example/jobwright/jobwright/workload/O2kJobs$RequestClass" := fun k hk => (hE58 k hk).wr W60
  have EX60 := own_extw EX58 W60 gbh
  have pre60 : ∀ t, Steps p.tables e below (T60.setTop (mkF m 219 #[.val (.int p1), .val (.long q2), .second, .val (.int g), .val (.int bb), .val (.ref (ad 0)), .val (.ref (ad 1)), .val (.ref (ad 2)), .val (.ref (ad 3)), .unset] [(.ref b)])) t → Steps p.tables e below (s₁.setTop (entryFrame m #[(.int p1), (.long q2)] 10)) t := fun t k => pre59 t (st60 t k)
  have pre61 : ∀ t, Steps p.tables e below (T60.setTop (mkF m 224 #[.val (.int p1), .val (.long q2), .second, .val (.int g), .val (.int bb), .val (.ref (ad 0)), .val (.ref (ad 1)), .val (.ref (ad 2)), .val (.ref (ad 3)), .unset] [(.ref (ad 1)), (.int (16 : Int32)), (.ref b), (.ref b)])) t → Steps p.tables e below (s₁.setTop (entryFrame m #[(.int p1), (.long q2)] 10)) t := by
    intro t k
    refine pre60 _ ?_
    refine XS.dup X60.here hx rfl (hb hby d1_219) rfl rfl ?_
    show Steps p.tables e below (T60.setTop (mkF m 220 #[.val (.int p1), .val (.long q2), .second, .val (.int g), .val (.int bb), .val (.ref (ad 0)), .val (.ref (ad 1)), .val (.ref (ad 2)), .val (.ref (ad 3)), .unset] [(.ref b), (.ref b)])) _
    refine XS.bipush X60.here hx rfl (hb hby d1_220) ?_
    show Steps p.tables e below (T60.setTop (mkF m 222 #[.val (.int p1), .val (.long q2), .second, .val (.int g), .val (.int bb), .val (.ref (ad 0)), .val (.ref (ad 1)), .val (.ref (ad 2)), .val (.ref (ad 3)), .unset] [(.int (16 : Int32)), (.ref b), (.ref b)])) _
    refine XS.aload X60.here hx rfl (hb hby d1_222) rfl rfl ?_
    show Steps p.tables e below (T60.setTop (mkF m 224 #[.val (.int p1), .val (.long q2), .second, .val (.int g), .val (.int bb), .val (.ref (ad 0)), .val (.ref (ad 1)), .val (.ref (ad 2)), .val (.ref (ad 3)), .unset] [(.ref (ad 1)), (.int (16 : Int32)), (.ref b), (.ref b)])) _
    exact k
  obtain ⟨cl62, Ar62, q62, S62, M62, Ha62, G62⟩ := V60
  have hin62 : ¬ ((16 : Int32) < 0 ∨ cl62.slots.size ≤ ((16 : Int32)).toNatClampNeg) := inb_of S62 ⟨by decide, by decide⟩
  obtain ⟨T62, h62, X62, e62, W62, st62⟩ := stR X60 hx hZ e60 Ar62 (j := (16 : Int32)) hin62 rfl (Sto.of Ar62 (by rw [q62]; exact O28) (Ins.self (hE60 1 (by decide)))) (g := (mkF m 224 #[.val (.int p1), .val (.long q2), .second, .val (.int g), .val (.int bb), .val (.ref (ad 0)), .val (.ref (ad 1)), .val (.ref (ad 2)), .val (.ref (ad 3)), .unset] [(.ref (ad 1)), (.int (16 : Int32)), (.ref b), (.ref b)])) rfl rfl (hb hby d1_224)
  have V62 : Arv Z h62 b k28 (.object "com/example/jobwright/jobwright/workload/O2kJobs$RequestClass") (24 : Int32) [.ref (ad 1), .ref (ad 1), .ref (ad 1), .ref (ad 2), .ref (ad 2), .ref (ad 2), .ref (ad 0), .ref (ad 1), .ref (ad 1), .ref (ad 1), .ref (ad 2), .ref (ad 2), .ref (ad 0), .ref (ad 0), .ref (ad 1), .ref (ad 1), .ref (ad 1), .null, .null, .null, .null, .null, .null, .null] .null := Arv.set Ar62 q62 S62 M62 Ha62 G62 rfl W62 16 rfl (Nat.le_of_ble_eq_true rfl)
  have N62 := Fr.snoc X62 N60 gbn
  have hE62 : ∀ k, k < 4 → Exa Z h62 (ad k) "com/example/jobwright/jobwright/workload/O2kJobs$RequestClass" := fun k hk => (hE60 k hk).wr W62
  have EX62 := own_extw EX60 W62 gbh
  have pre62 : ∀ t, Steps p.tables e below (T62.setTop (mkF m 225 #[.val (.int p1), .val (.long q2), .second, .val (.int g), .val (.int bb), .val (.ref (ad 0)), .val (.ref (ad 1)), .val (.ref (ad 2)), .val (.ref (ad 3)), .unset] [(.ref b)])) t → Steps p.tables e below (s₁.setTop (entryFrame m #[(.int p1), (.long q2)] 10)) t := fun t k => pre61 t (st62 t k)
  have pre63 : ∀ t, Steps p.tables e below (T62.setTop (mkF m 230 #[.val (.int p1), .val (.long q2), .second, .val (.int g), .val (.int bb), .val (.ref (ad 0)), .val (.ref (ad 1)), .val (.ref (ad 2)), .val (.ref (ad 3)), .unset] [(.ref (ad 2)), (.int (17 : Int32)), (.ref b), (.ref b)])) t → Steps p.tables e below (s₁.setTop (entryFrame m #[(.int p1), (.long q2)] 10)) t := by
    intro t k
    refine pre62 _ ?_
    refine XS.dup X62.here hx rfl (hb hby d1_225) rfl rfl ?_
    show Steps p.tables e below (T62.setTop (mkF m 226 #[.val (.int p1), .val (.long q2), .second, .val (.int g), .val (.int bb), .val (.ref (ad 0)), .val (.ref (ad 1)), .val (.ref (ad 2)), .val (.ref (ad 3)), .unset] [(.ref b), (.ref b)])) _
    refine XS.bipush X62.here hx rfl (hb hby d1_226) ?_
    show Steps p.tables e below (T62.setTop (mkF m 228 #[.val (.int p1), .val (.long q2), .second, .val (.int g), .val (.int bb), .val (.ref (ad 0)), .val (.ref (ad 1)), .val (.ref (ad 2)), .val (.ref (ad 3)), .unset] [(.int (17 : Int32)), (.ref b), (.ref b)])) _
    refine XS.aload X62.here hx rfl (hb hby d1_228) rfl rfl ?_
    show Steps p.tables e below (T62.setTop (mkF m 230 #[.val (.int p1), .val (.long q2), .second, .val (.int g), .val (.int bb), .val (.ref (ad 0)), .val (.ref (ad 1)), .val (.ref (ad 2)), .val (.ref (ad 3)), .unset] [(.ref (ad 2)), (.int (17 : Int32)), (.ref b), (.ref b)])) _
    exact k
  obtain ⟨cl64, Ar64, q64, S64, M64, Ha64, G64⟩ := V62
  have hin64 : ¬ ((17 : Int32) < 0 ∨ cl64.slots.size ≤ ((17 : Int32)).toNatClampNeg) := inb_of S64 ⟨by decide, by decide⟩
  obtain ⟨T64, h64, X64, e64, W64, st64⟩ := stR X62 hx hZ e62 Ar64 (j := (17 : Int32)) hin64 rfl (Sto.of Ar64 (by rw [q64]; exact O28) (Ins.self (hE62 2 (by decide)))) (g := (mkF m 230 #[.val (.int p1), .val (.long q2), .second, .val (.int g), .val (.int bb), .val (.ref (ad 0)), .val (.ref (ad 1)), .val (.ref (ad 2)), .val (.ref (ad 3)), .unset] [(.ref (ad 2)), (.int (17 : Int32)), (.ref b), (.ref b)])) rfl rfl (hb hby d1_230)
  have V64 : Arv Z h64 b k28 (.object "com/example/jobwright/jobwright/workload/O2kJobs$RequestClass") (24 : Int32) [.ref (ad 1), .ref (ad 1), .ref (ad 1), .ref (ad 2), .ref (ad 2), .ref (ad 2), .ref (ad 0), .ref (ad 1), .ref (ad 1), .ref (ad 1), .ref (ad 2), .ref (ad 2), .ref (ad 0), .ref (ad 0), .ref (ad 1), .ref (ad 1), .ref (ad 1), .ref (ad 2), .null, .null, .null, .null, .null, .null] .null := Arv.set Ar64 q64 S64 M64 Ha64 G64 rfl W64 17 rfl (Nat.le_of_ble_eq_true rfl)
  have N64 := Fr.snoc X64 N62 gbn
  have hE64 : ∀ k, k < 4 → Exa Z h64 (ad k) "com/example/jobwright/jobwright/workload/O2kJobs$RequestClass" := fun k hk => (hE62 k hk).wr W64
  have EX64 := own_extw EX62 W64 gbh
  have pre64 : ∀ t, Steps p.tables e below (T64.setTop (mkF m 231 #[.val (.int p1), .val (.long q2), .second, .val (.int g), .val (.int bb), .val (.ref (ad 0)), .val (.ref (ad 1)), .val (.ref (ad 2)), .val (.ref (ad 3)), .unset] [(.ref b)])) t → Steps p.tables e below (s₁.setTop (entryFrame m #[(.int p1), (.long q2)] 10)) t := fun t k => pre63 t (st64 t k)
  have pre65 : ∀ t, Steps p.tables e below (T64.setTop (mkF m 236 #[.val (.int p1), .val (.long q2), .second, .val (.int g), .val (.int bb), .val (.ref (ad 0)), .val (.ref (ad 1)), .val (.ref (ad 2)), .val (.ref (ad 3)), .unset] [(.ref (ad 0)), (.int (18 : Int32)), (.ref b), (.ref b)])) t → Steps p.tables e below (s₁.setTop (entryFrame m #[(.int p1), (.long q2)] 10)) t := by
    intro t k
    refine pre64 _ ?_
    refine XS.dup X64.here hx rfl (hb hby d1_231) rfl rfl ?_
    show Steps p.tables e below (T64.setTop (mkF m 232 #[.val (.int p1), .val (.long q2), .second, .val (.int g), .val (.int bb), .val (.ref (ad 0)), .val (.ref (ad 1)), .val (.ref (ad 2)), .val (.ref (ad 3)), .unset] [(.ref b), (.ref b)])) _
    refine XS.bipush X64.here hx rfl (hb hby d1_232) ?_
    show Steps p.tables e below (T64.setTop (mkF m 234 #[.val (.int p1), .val (.long q2), .second, .val (.int g), .val (.int bb), .val (.ref (ad 0)), .val (.ref (ad 1)), .val (.ref (ad 2)), .val (.ref (ad 3)), .unset] [(.int (18 : Int32)), (.ref b), (.ref b)])) _
    refine XS.aload X64.here hx rfl (hb hby d1_234) rfl rfl ?_
    show Steps p.tables e below (T64.setTop (mkF m 236 #[.val (.int p1), .val (.long q2), .second, .val (.int g), .val (.int bb), .val (.ref (ad 0)), .val (.ref (ad 1)), .val (.ref (ad 2)), .val (.ref (ad 3)), .unset] [(.ref (ad 0)), (.int (18 : Int32)), (.ref b), (.ref b)])) _
    exact k
  obtain ⟨cl66, Ar66, q66, S66, M66, Ha66, G66⟩ := V64
  have hin66 : ¬ ((18 : Int32) < 0 ∨ cl66.slots.size ≤ ((18 : Int32)).toNatClampNeg) := inb_of S66 ⟨by decide, by decide⟩
  obtain ⟨T66, h66, X66, e66, W66, st66⟩ := stR X64 hx hZ e64 Ar66 (j := (18 : Int32)) hin66 rfl (Sto.of Ar66 (by rw [q66]; exact O28) (Ins.self (hE64 0 (by decide)))) (g := (mkF m 236 #[.val (.int p1), .val (.long q2), .second, .val (.int g), .val (.int bb), .val (.ref (ad 0)), .val (.ref (ad 1)), .val (.ref (ad 2)), .val (.ref (ad 3)), .unset] [(.ref (ad 0)), (.int (18 : Int32)), (.ref b), (.ref b)])) rfl rfl (hb hby d1_236)
  have V66 : Arv Z h66 b k28 (.object "com/example/jobwright/jobwright/workload/O2kJobs$RequestClass") (24 : Int32) [.ref (ad 1), .ref (ad 1), .ref (ad 1), .ref (ad 2), .ref (ad 2), .ref (ad 2), .ref (ad 0), .ref (ad 1), .ref (ad 1), .ref (ad 1), .ref (ad 2), .ref (ad 2), .ref (ad 0), .ref (ad 0), .ref (ad 1), .ref (ad 1), .ref (ad 1), .ref (ad 2), .ref (ad 0), .null, .null, .null, .null, .null] .null := Arv.set Ar66 q66 S66 M66 Ha66 G66 rfl W66 18 rfl (Nat.le_of_ble_eq_true rfl)
  have N66 := Fr.snoc X66 N64 gbn
  have hE66 : ∀ k, k < 4 → Exa Z h66 (ad k) "com/example/jobwright/jobwright/workload/O2kJobs$RequestClass" := fun k hk => (hE64 k hk).wr W66
  have EX66 := own_extw EX64 W66 gbh
  have pre66 : ∀ t, Steps p.tables e below (T66.setTop (mkF m 237 #[.val (.int p1), .val (.long q2), .second, .val (.int g), .val (.int bb), .val (.ref (ad 0)), .val (.ref (ad 1)), .val (.ref (ad 2)), .val (.ref (ad 3)), .unset] [(.ref b)])) t → Steps p.tables e below (s₁.setTop (entryFrame m #[(.int p1), (.long q2)] 10)) t := fun t k => pre65 t (st66 t k)
  have pre67 : ∀ t, Steps p.tables e below (T66.setTop (mkF m 242 #[.val (.int p1), .val (.long q2), .second, .val (.int g), .val (.int bb), .val (.ref (ad 0)), .val (.ref (ad 1)), .val (.ref (ad 2)), .val (.ref (ad 3)), .unset] [(.ref (ad 0)), (.int (19 : Int32)), (.ref b), (.ref b)])) t → Steps p.tables e below (s₁.setTop (entryFrame m #[(.int p1), (.long q2)] 10)) t := by
    intro t k
    refine pre66 _ ?_
    refine XS.dup X66.here hx rfl (hb hby d1_237) rfl rfl ?_
    show Steps p.tables e below (T66.setTop (mkF m 238 #[.val (.int p1), .val (.long q2), .second, .val (.int g), .val (.int bb), .val (.ref (ad 0)), .val (.ref (ad 1)), .val (.ref (ad 2)), .val (.ref (ad 3)), .unset] [(.ref b), (.ref b)])) _
    refine XS.bipush X66.here hx rfl (hb hby d1_238) ?_
    show Steps p.tables e below (T66.setTop (mkF m 240 #[.val (.int p1), .val (.long q2), .second, .val (.int g), .val (.int bb), .val (.ref (ad 0)), .val (.ref (ad 1)), .val (.ref (ad 2)), .val (.ref (ad 3)), .unset] [(.int (19 : Int32)), (.ref b), (.ref b)])) _
    refine XS.aload X66.here hx rfl (hb hby d1_240) rfl rfl ?_
    show Steps p.tables e below (T66.setTop (mkF m 242 #[.val (.int p1), .val (.long q2), .second, .val (.int g), .val (.int bb), .val (.ref (ad 0)), .val (.ref (ad 1)), .val (.ref (ad 2)), .val (.ref (ad 3)), .unset] [(.ref (ad 0)), (.int (19 : Int32)), (.ref b), (.ref b)])) _
    exact k
  obtain ⟨cl68, Ar68, q68, S68, M68, Ha68, G68⟩ := V66
  have hin68 : ¬ ((19 : Int32) < 0 ∨ cl68.slots.size ≤ ((19 : Int32)).toNatClampNeg) := inb_of S68 ⟨by decide, by decide⟩
  obtain ⟨T68, h68, X68, e68, W68, st68⟩ := stR X66 hx hZ e66 Ar68 (j := (19 : Int32)) hin68 rfl (Sto.of Ar68 (by rw [q68]; exact O28) (Ins.self (hE66 0 (by decide)))) (g := (mkF m 242 #[.val (.int p1), .val (.long q2), .second, .val (.int g), .val (.int bb), .val (.ref (ad 0)), .val (.ref (ad 1)), .val (.ref (ad 2)), .val (.ref (ad 3)), .unset] [(.ref (ad 0)), (.int (19 : Int32)), (.ref b), (.ref b)])) rfl rfl (hb hby d1_242)
  have V68 : Arv Z h68 b k28 (.object "com/example/jobwright/jobwright/workload/O2kJobs$RequestClass") (24 : Int32) [.ref (ad 1), .ref (ad 1), .ref (ad 1), .ref (ad 2), .ref (ad 2), .ref (ad 2), .ref (ad 0), .ref (ad 1), .ref (ad 1), .ref (ad 1), .ref (ad 2), .ref (ad 2), .ref (ad 0), .ref (ad 0), .ref (ad 1), .ref (ad 1), .ref (ad 1), .ref (ad 2), .ref (ad 0), .ref (ad 0), .null, .null, .null, .null] .null := Arv.set Ar68 q68 S68 M68 Ha68 G68 rfl W68 19 rfl (Nat.le_of_ble_eq_true rfl)
  have N68 := Fr.snoc X68 N66 gbn
  have hE68 : ∀ k, k < 4 → Exa Z h68 (ad k) "com/example/jobwright/jobwright/workload/O2kJobs$RequestClass" := fun k hk => (hE66 k hk).wr W68
  have EX68 := own_extw EX66 W68 gbh
  have pre68 : ∀ t, Steps p.tables e below (T68.setTop (mkF m 243 #[.val (.int p1), .val (.long q2), .second, .val (.int g), .val (.int bb), .val (.ref (ad 0)), .val (.ref (ad 1)), .val (.ref (ad 2)), .val (.ref (ad 3)), .unset] [(.ref b)])) t → Steps p.tables e below (s₁.setTop (entryFrame m #[(.int p1), (.long q2)] 10)) t := fun t k => pre67 t (st68 t k)
  have pre69 : ∀ t, Steps p.tables e below (T68.setTop (mkF m 248 #[.val (.int p1), .val (.long q2), .second, .val (.int g), .val (.int bb), .val (.ref (ad 0)), .val (.ref (ad 1)), .val (.ref (ad 2)), .val (.ref (ad 3)), .unset] [(.ref (ad 0)), (.int (20 : Int32)), (.ref b), (.ref b)])) t → Steps p.tables e below (s₁.setTop (entryFrame m #[(.int p1), (.long q2)] 10)) t := by
    intro t k
    refine pre68 _ ?_
    refine XS.dup X68.here hx rfl (hb hby d1_243) rfl rfl ?_
    show Steps p.tables e below (T68.setTop (mkF m 244 #[.val (.int p1), .val (.long q2), .second, .val (.int g), .val (.int bb), .val (.ref (ad 0)), .val (.ref (ad 1)), .val (.ref (ad 2)), .val (.ref (ad 3)), .unset] [(.ref b), (.ref b)])) _
    refine XS.bipush X68.here hx rfl (hb hby d1_244) ?_
    show Steps p.tables e below (T68.setTop (mkF m 246 #[.val (.int p1), .val (.long q2), .second, .val (.int g), .val (.int bb), .val (.ref (ad 0)), .val (.ref (ad 1)), .val (.ref (ad 2)), .val (.ref (ad 3)), .unset] [(.int (20 : Int32)), (.ref b), (.ref b)])) _
    refine XS.aload X68.here hx rfl (hb hby d1_246) rfl rfl ?_
    show Steps p.tables e below (T68.setTop (mkF m 248 #[.val (.int p1), .val (.long q2), .second, .val (.int g), .val (.int bb), .val (.ref (ad 0)), .val (.ref (ad 1)), .val (.ref (ad 2)), .val (.ref (ad 3)), .unset] [(.ref (ad 0)), (.int (20 : Int32)), (.ref b), (.ref b)])) _
    exact k
  obtain ⟨cl70, Ar70, q70, S70, M70, Ha70, G70⟩ := V68
  have hin70 : ¬ ((20 : Int32) < 0 ∨ cl70.slots.size ≤ ((20 : Int32)).toNatClampNeg) := inb_of S70 ⟨by decide, by decide⟩
  obtain ⟨T70, h70, X70, e70, W70, st70⟩ := stR X68 hx hZ e68 Ar70 (j := (20 : Int32)) hin70 rfl (Sto.of Ar70 (by rw [q70]; exact O28) (Ins.self (hE68 0 (by decide)))) (g := (mkF m 248 #[.val (.int p1), .val (.long q2), .second, .val (.int g), .val (.int bb), .val (.ref (ad 0)), .val (.ref (ad 1)), .val (.ref (ad 2)), .val (.ref (ad 3)), .unset] [(.ref (ad 0)), (.int (20 : Int32)), (.ref b), (.ref b)])) rfl rfl (hb hby d1_248)
  have V70 : Arv Z h70 b k28 (.object "com/example/jobwright/jobwright/workload/O2kJobs$RequestClass") (24 : Int32) [.ref (ad 1), .ref (ad 1), .ref (ad 1), .ref (ad 2), .ref (ad 2), .ref (ad 2), .ref (ad 0), .ref (ad 1), .ref (ad 1), .ref (ad 1), .ref (ad 2), .ref (ad 2), .ref (ad 0), .ref (ad 0), .ref (ad 1), .ref (ad 1), .ref (ad 1), .ref (ad 2), .ref (ad 0), .ref (ad 0), .ref (ad 0), .null, .null, .null] .null := Arv.set Ar70 q70 S70 M70 Ha70 G70 rfl W70 20 rfl (Nat.le_of_ble_eq_true rfl)
  have N70 := Fr.snoc X70 N68 gbn
  have hE70 : ∀ k, k < 4 → Exa Z h70 (ad k) "com/example/jobwright/jobwright/workload/O2kJobs$RequestClass" := fun k hk => (hE68 k hk).wr W70
  have EX70 := own_extw EX68 W70 gbh
  have pre70 : ∀ t, Steps p.tables e below (T70.setTop (mkF m 249 #[.val (.int p1), .val (.long q2), .second, .val (.int g), .val (.int bb), .val (.ref (ad 0)), .val (.ref (ad 1)), .val (.ref (ad 2)), .val (.ref (ad 3)), .unset] [(.ref b)])) t → Steps p.tables e below (s₁.setTop (entryFrame m #[(.int p1), (.long q2)] 10)) t := fun t k => pre69 t (st70 t k)
  have pre71 : ∀ t, Steps p.tables e below (T70.setTop (mkF m 254 #[.val (.int p1), .val (.long q2), .second, .val (.int g), .val (.int bb), .val (.ref (ad 0)), .val (.ref (ad 1)), .val (.ref (ad 2)), .val (.ref (ad 3)), .unset] [(.ref (ad 0)), (.int (21 : Int32)), (.ref b), (.ref b)])) t → Steps p.tables e below (s₁.setTop (entryFrame m #[(.int p1), (.long q2)] 10)) t := by
    intro t k
    refine pre70 _ ?_
    refine XS.dup X70.here hx rfl (hb hby d1_249) rfl rfl ?_
    show Steps p.tables e below (T70.setTop (mkF m 250 #[.val (.int p1), .val (.long q2), .second, .val (.int g), .val (.int bb), .val (.ref (ad 0)), .val (.ref (ad 1)), .val (.ref (ad 2)), .val (.ref (ad 3)), .unset] [(.ref b), (.ref b)])) _
    refine XS.bipush X70.here hx rfl (hb hby d1_250) ?_
    show Steps p.tables e below (T70.setTop (mkF m 252 #[.val (.int p1), .val (.long q2), .second, .val (.int g), .val (.int bb), .val (.ref (ad 0)), .val (.ref (ad 1)), .val (.ref (ad 2)), .val (.ref (ad 3)), .unset] [(.int (21 : Int32)), (.ref b), (.ref b)])) _
    refine XS.aload X70.here hx rfl (hb hby d1_252) rfl rfl ?_
    show Steps p.tables e below (T70.setTop (mkF m 254 #[.val (.int p1), .val (.long q2), .second, .val (.int g), .val (.int bb), .val (.ref (ad 0)), .val (.ref (ad 1)), .val (.ref (ad 2)), .val (.ref (ad 3)), .unset] [(.ref (ad 0)), (.int (21 : Int32)), (.ref b), (.ref b)])) _
    exact k
  obtain ⟨cl72, Ar72, q72, S72, M72, Ha72, G72⟩ := V70
  have hin72 : ¬ ((21 : Int32) < 0 ∨ cl72.slots.size ≤ ((21 : Int32)).toNatClampNeg) := inb_of S72 ⟨by decide, by decide⟩
  obtain ⟨T72, h72, X72, e72, W72, st72⟩ := stR X70 hx hZ e70 Ar72 (j := (21 : Int32)) hin72 rfl (Sto.of Ar72 (by rw [q72]; exact O28) (Ins.self (hE70 0 (by decide)))) (g := (mkF m 254 #[.val (.int p1), .val (.long q2), .second, .val (.int g), .val (.int bb), .val (.ref (ad 0)), .val (.ref (ad 1)), .val (.ref (ad 2)), .val (.ref (ad 3)), .unset] [(.ref (ad 0)), (.int (21 : Int32)), (.ref b), (.ref b)])) rfl rfl (hb hby d1_254)
  have V72 : Arv Z h72 b k28 (.object "com/example/jobwright/jobwright/workload/O2kJobs$RequestClass") (24 : Int32) [.ref (ad 1), .ref (ad 1), .ref (ad 1), .ref (ad 2), .ref (ad 2), .ref (ad 2), .ref (ad 0), .ref (ad 1), .ref (ad 1), .ref (ad 1), .ref (ad 2), .ref (ad 2), .ref (ad 0), .ref (ad 0), .ref (ad 1), .ref (ad 1), .ref (ad 1), .ref (ad 2), .ref (ad 0), .ref (ad 0), .ref (ad 0), .ref (ad 0), .null, .null] .null := Arv.set Ar72 q72 S72 M72 Ha72 G72 rfl W72 21 rfl (Nat.le_of_ble_eq_true rfl)
  have N72 := Fr.snoc X72 N70 gbn
  have hE72 : ∀ k, k < 4 → Exa Z h72 (ad k) "com/example/jobwright/jobwright/workload/O2kJobs$RequestClass" := fun k hk => (hE70 k hk).wr W72
  have EX72 := own_extw EX70 W72 gbh
  have pre72 : ∀ t, Steps p.tables e below (T72.setTop (mkF m 255 #[.val (.int p1), .val (.long q2), .second, .val (.int g), .val (.int bb), .val (.ref (ad 0)), .val (.ref (ad 1)), .val (.ref (ad 2)), .val (.ref (ad 3)), .unset] [(.ref b)])) t → Steps p.tables e below (s₁.setTop (entryFrame m #[(.int p1), (.long q2)] 10)) t := fun t k => pre71 t (st72 t k)
  have pre73 : ∀ t, Steps p.tables e below (T72.setTop (mkF m 260 #[.val (.int p1), .val (.long q2), .second, .val (.int g), .val (.int bb), .val (.ref (ad 0)), .val (.ref (ad 1)), .val (.ref (ad 2)), .val (.ref (ad 3)), .unset] [(.ref (ad 3)), (.int (22 : Int32)), (.ref b), (.ref b)])) t → Steps p.tables e below (s₁.setTop (entryFrame m #[(.int p1), (.long q2)] 10)) t := by
    intro t k
    refine pre72 _ ?_
    refine XS.dup X72.here hx rfl (hb hby d1_255) rfl rfl ?_
    show Steps p.tables e below (T72.setTop (mkF m 256 #[.val (.int p1), .val (.long q2), .second, .val (.int g), .val (.int bb), .val (.ref (ad 0)), .val (.ref (ad 1)), .val (.ref (ad 2)), .val (.ref (ad 3)), .unset] [(.ref b), (.ref b)])) _
    refine XS.bipush X72.here hx rfl (hb hby d1_256) ?_
    show Steps p.tables e below (T72.setTop (mkF m 258 #[.val (.int p1), .val (.long q2), .second, .val (.int g), .val (.int bb), .val (.ref (ad 0)), .val (.ref (ad 1)), .val (.ref (ad 2)), .val (.ref (ad 3)), .unset] [(.int (22 : Int32)), (.ref b), (.ref b)])) _
    refine XS.aload X72.here hx rfl (hb hby d1_258) rfl rfl ?_
    show Steps p.tables e below (T72.setTop (mkF m 260 #[.val (.int p1), .val (.long q2), .second, .val (.int g), .val (.int bb), .val (.ref (ad 0)), .val (.ref (ad 1)), .val (.ref (ad 2)), .val (.ref (ad 3)), .unset] [(.ref (ad 3)), (.int (22 : Int32)), (.ref b), (.ref b)])) _
    exact k
  obtain ⟨cl74, Ar74, q74, S74, M74, Ha74, G74⟩ := V72
  have hin74 : ¬ ((22 : Int32) < 0 ∨ cl74.slots.size ≤ ((22 : Int32)).toNatClampNeg) := inb_of S74 ⟨by decide, by decide⟩
  obtain ⟨T74, h74, X74, e74, W74, st74⟩ := stR X72 hx hZ e72 Ar74 (j := (22 : Int32)) hin74 rfl (Sto.of Ar74 (by rw [q74]; exact O28) (Ins.self (hE72 3 (by decide)))) (g := (mkF m 260 #[.val (.int p1), .val (.long q2), .second, .val (.int g), .val (.int bb), .val (.ref (ad 0)), .val (.ref (ad 1)), .val (.ref (ad 2)), .val (.ref (ad 3)), .unset] [(.ref (ad 3)), (.int (22 : Int32)), (.ref b), (.ref b)])) rfl rfl (hb hby d1_260)
  have V74 : Arv Z h74 b k28 (.object "com/example/jobwright/jobwright/workload/O2kJobs$RequestClass") (24 : Int32) [.ref (ad 1), .ref (ad 1), .ref (ad 1), .ref (ad 2), .ref (ad 2), .ref (ad 2), .ref (ad 0), .ref (ad 1), .ref (ad 1), .ref (ad 1), .ref (ad 2), .ref (ad 2), .ref (ad 0), .ref (ad 0), .ref (ad 1), .ref (ad 1), .ref (ad 1), .ref (ad 2), .ref (ad 0), .ref (ad 0), .ref (ad 0), .ref (ad 0), .ref (ad 3), .null] .null := Arv.set Ar74 q74 S74 M74 Ha74 G74 rfl W74 22 rfl (Nat.le_of_ble_eq_true rfl)
  have N74 := Fr.snoc X74 N72 gbn
  have hE74 : ∀ k, k < 4 → Exa Z h74 (ad k) "com/example/jobwright/jobwright/workload/O2kJobs$RequestClass" := fun k hk => (hE72 k hk).wr W74
  have EX74 := own_extw EX72 W74 gbh
  have pre74 : ∀ t, Steps p.tables e below (T74.setTop (mkF m 261 #[.val (.int p1), .val (.long q2), .second, .val (.int g), .val (.int bb), .val (.ref (ad 0)), .val (.ref (ad 1)), .val (.ref (ad 2)), .val (.ref (ad 3)), .unset] [(.ref b)])) t → Steps p.tables e below (s₁.setTop (entryFrame m #[(.int p1), (.long q2)] 10)) t := fun t k => pre73 t (st74 t k)
  have pre75 : ∀ t, Steps p.tables e below (T74.setTop (mkF m 266 #[.val (.int p1), .val (.long q2), .second, .val (.int g), .val (.int bb), .val (.ref (ad 0)), .val (.ref (ad 1)), .val (.ref (ad 2)), .val (.ref (ad 3)), .unset] [(.ref (ad 3)), (.int (23 : Int32)), (.ref b), (.ref b)])) t → Steps p.tables e below (s₁.setTop (entryFrame m #[(.int p1), (.long q2)] 10)) t := by
    intro t k
    refine pre74 _ ?_
    refine XS.dup X74.here hx rfl (hb hby d1_261) rfl rfl ?_
    show Steps p.tables e below (T74.setTop (mkF m 262 #[.val (.int p1), .val (.long q2), .second, .val (.int g), .val (.int bb), .val (.ref (ad 0)), .val (.ref (ad 1)), .val (.ref (ad 2)), .val (.ref (ad 3)), .unset] [(.ref b), (.ref b)])) _
    refine XS.bipush X74.here hx rfl (hb hby d1_262) ?_
    show Steps p.tables e below (T74.setTop (mkF m 264 #[.val (.int p1), .val (.long q2), .second, .val (.int g), .val (.int bb), .val (.ref (ad 0)), .val (.ref (ad 1)), .val (.ref (ad 2)), .val (.ref (ad 3)), .unset] [(.int (23 : Int32)), (.ref b), (.ref b)])) _
    refine XS.aload X74.here hx rfl (hb hby d1_264) rfl rfl ?_
    show Steps p.tables e below (T74.setTop (mkF m 266 #[.val (.int p1), .val (.long q2), .second, .val (.int g), .val (.int bb), .val (.ref (ad 0)), .val (.ref (ad 1)), .val (.ref (ad 2)), .val (.ref (ad 3)), .unset] [(.ref (ad 3)), (.int (23 : Int32)), (.ref b), (.ref b)])) _
    exact k
  obtain ⟨cl76, Ar76, q76, S76, M76, Ha76, G76⟩ := V74
  have hin76 : ¬ ((23 : Int32) < 0 ∨ cl76.slots.size ≤ ((23 : Int32)).toNatClampNeg) := inb_of S76 ⟨by decide, by decide⟩
  obtain ⟨T76, h76, X76, e76, W76, st76⟩ := stR X74 hx hZ e74 Ar76 (j := (23 : Int32)) hin76 rfl (Sto.of Ar76 (by rw [q76]; exact O28) (Ins.self (hE74 3 (by decide)))) (g := (mkF m 266 #[.val (.int p1), .val (.long q2), .second, .val (.int g), .val (.int bb), .val (.ref (ad 0)), .val (.ref (ad 1)), .val (.ref (ad 2)), .val (.ref (ad 3)), .unset] [(.ref (ad 3)), (.int (23 : Int32)), (.ref b), (.ref b)])) rfl rfl (hb hby d1_266)
  have V76 : Arv Z h76 b k28 (.object "com/example/jobwright/jobwright/workload/O2kJobs$RequestClass") (24 : Int32) [.ref (ad 1), .ref (ad 1), .ref (ad 1), .ref (ad 2), .ref (ad 2), .ref (ad 2), .ref (ad 0), .ref (ad 1), .ref (ad 1), .ref (ad 1), .ref (ad 2), .ref (ad 2), .ref (ad 0), .ref (ad 0), .ref (ad 1), .ref (ad 1), .ref (ad 1), .ref (ad 2), .ref (ad 0), .ref (ad 0), .ref (ad 0), .ref (ad 0), .ref (ad 3), .ref (ad 3)] .null := Arv.set Ar76 q76 S76 M76 Ha76 G76 rfl W76 23 rfl (Nat.le_of_ble_eq_true rfl)
  have N76 := Fr.snoc X76 N74 gbn
  have hE76 : ∀ k, k < 4 → Exa Z h76 (ad k) "com/example/jobwright/jobwright/workload/O2kJobs$RequestClass" := fun k hk => (hE74 k hk).wr W76
  have EX76 := own_extw EX74 W76 gbh
  have pre76 : ∀ t, Steps p.tables e below (T76.setTop (mkF m 267 #[.val (.int p1), .val (.long q2), .second, .val (.int g), .val (.int bb), .val (.ref (ad 0)), .val (.ref (ad 1)), .val (.ref (ad 2)), .val (.ref (ad 3)), .unset] [(.ref b)])) t → Steps p.tables e below (s₁.setTop (entryFrame m #[(.int p1), (.long q2)] 10)) t := fun t k => pre75 t (st76 t k)
  have VE : Arv Z h76 b k28 (.object "com/example/jobwright/jobwright/workload/O2kJobs$RequestClass") (24 : Int32) (own_tab ad) .null := V76
  have pre77 : ∀ t, Steps p.tables e below (T76.setTop (mkF m 278 #[.val (.int p1), .val (.long q2), .second, .val (.int g), .val (.int bb), .val (.ref (ad 0)), .val (.ref (ad 1)), .val (.ref (ad 2)), .val (.ref (ad 3)), .val (.ref b)] [(.int ((g * (6 : Int32)) + bb)), (.ref b)])) t → Steps p.tables e below (s₁.setTop (entryFrame m #[(.int p1), (.long q2)] 10)) t := by
    intro t k
    refine pre76 _ ?_
    refine XS.astore X76.here hx rfl (hb hby d1_267) rfl rfl (l' := #[.val (.int p1), .val (.long q2), .second, .val (.int g), .val (.int bb), .val (.ref (ad 0)), .val (.ref (ad 1)), .val (.ref (ad 2)), .val (.ref (ad 3)), .val (.ref b)]) rfl ?_
    show Steps p.tables e below (T76.setTop (mkF m 269 #[.val (.int p1), .val (.long q2), .second, .val (.int g), .val (.int bb), .val (.ref (ad 0)), .val (.ref (ad 1)), .val (.ref (ad 2)), .val (.ref (ad 3)), .val (.ref b)] [])) _
    refine XS.aload X76.here hx rfl (hb hby d1_269) rfl rfl ?_
    show Steps p.tables e below (T76.setTop (mkF m 271 #[.val (.int p1), .val (.long q2), .second, .val (.int g), .val (.int bb), .val (.ref (ad 0)), .val (.ref (ad 1)), .val (.ref (ad 2)), .val (.ref (ad 3)), .val (.ref b)] [(.ref b)])) _
    refine XS.iloadN X76.here hx rfl (hb hby d1_271) rfl ?_
    show Steps p.tables e below (T76.setTop (mkF m 272 #[.val (.int p1), .val (.long q2), .second, .val (.int g), .val (.int bb), .val (.ref (ad 0)), .val (.ref (ad 1)), .val (.ref (ad 2)), .val (.ref (ad 3)), .val (.ref b)] [(.int g), (.ref b)])) _
    refine XS.bipush X76.here hx rfl (hb hby d1_272) ?_
    show Steps p.tables e below (T76.setTop (mkF m 274 #[.val (.int p1), .val (.long q2), .second, .val (.int g), .val (.int bb), .val (.ref (ad 0)), .val (.ref (ad 1)), .val (.ref (ad 2)), .val (.ref (ad 3)), .val (.ref b)] [(.int (6 : Int32)), (.int g), (.ref b)])) _
    refine XS.imul X76.here hx rfl (hb hby d1_274) rfl ?_
    show Steps p.tables e below (T76.setTop (mkF m 275 #[.val (.int p1), .val (.long q2), .second, .val (.int g), .val (.int bb), .val (.ref (ad 0)), .val (.ref (ad 1)), .val (.ref (ad 2)), .val (.ref (ad 3)), .val (.ref b)] [(.int (g * (6 : Int32))), (.ref b)])) _
    refine XS.iload X76.here hx rfl (hb hby d1_275) rfl ?_
    show Steps p.tables e below (T76.setTop (mkF m 277 #[.val (.int p1), .val (.long q2), .second, .val (.int g), .val (.int bb), .val (.ref (ad 0)), .val (.ref (ad 1)), .val (.ref (ad 2)), .val (.ref (ad 3)), .val (.ref b)] [(.int bb), (.int (g * (6 : Int32))), (.ref b)])) _
    refine XS.iadd X76.here hx rfl (hb hby d1_277) rfl ?_
    show Steps p.tables e below (T76.setTop (mkF m 278 #[.val (.int p1), .val (.long q2), .second, .val (.int g), .val (.int bb), .val (.ref (ad 0)), .val (.ref (ad 1)), .val (.ref (ad 2)), .val (.ref (ad 3)), .val (.ref b)] [(.int ((g * (6 : Int32)) + bb)), (.ref b)])) _
    exact k
  obtain ⟨cl, Ar, -, Sz, Mz, Ha, -⟩ := VE
  obtain ⟨kx, hkx, ekx, vkx⟩ := own_ix ad hG hB
  rw [ekx] at pre77
  have tkx : (Int32.ofNat kx).toInt = kx := Int32.toInt_ofNat_of_lt (by omega)
  have hin : ¬ ((Int32.ofNat kx) < 0 ∨ cl.slots.size ≤ (Int32.ofNat kx).toNatClampNeg) := inb_of Sz ⟨fun q => by have := own_lt.mp q; have e0 : (0 : Int32).toInt = 0 := rfl; omega, own_lt.mpr (by have e0 : (24 : Int32).toInt = 24 := rfl; omega)⟩
  have nkx : (Int32.ofNat kx).toNatClampNeg = kx := by simp only [Int32.toNatClampNeg]; omega
  have hat : cl.slots[(Int32.ofNat kx).toNatClampNeg]? = some (.ref (ad (own_cls p1 q2))) := by rw [← vkx, nkx]; exact Ha _ (by rw [Sz]; exact hkx)
  have pre78 : ∀ t, Steps p.tables e below (T76.setTop (mkF m 279 #[.val (.int p1), .val (.long q2), .second, .val (.int g), .val (.int bb), .val (.ref (ad 0)), .val (.ref (ad 1)), .val (.ref (ad 2)), .val (.ref (ad 3)), .val (.ref b)] [(.ref (ad (own_cls p1 q2)))])) t → Steps p.tables e below (s₁.setTop (entryFrame m #[(.int p1), (.long q2)] 10)) t := by
    intro t k
    refine pre77 _ ?_
    refine X76.aaload hx (j := (Int32.ofNat kx)) (v := (.ref (ad (own_cls p1 q2)))) (by rw [e76]; exact Ar.1) (State.isArrayOf_alike hZ.alike Ar.2.1) rfl Ar.2.2 hin hat (g := (mkF m 278 #[.val (.int p1), .val (.long q2), .second, .val (.int g), .val (.int bb), .val (.ref (ad 0)), .val (.ref (ad 1)), .val (.ref (ad 2)), .val (.ref (ad 3)), .val (.ref b)] [(.int (Int32.ofNat kx)), (.ref b)])) rfl rfl (hb hby d1_278) _ ?_
    show Steps p.tables e below (T76.setTop (mkF m 279 #[.val (.int p1), .val (.long q2), .second, .val (.int g), .val (.int bb), .val (.ref (ad 0)), .val (.ref (ad 1)), .val (.ref (ad 2)), .val (.ref (ad 3)), .val (.ref b)] [(.ref (ad (own_cls p1 q2)))])) _
    exact k
  obtain ⟨fs, hr, hrun, hended, hW, hsame⟩ := X76.leave (v := some (.ref (ad (own_cls p1 q2)))) (fun h => by rw [Bd.returns] at h; cases h)
  refine ⟨_, _, pre78 _ ?_, hrun, hended, _, _, rfl, ?_, ⟨_, rfl⟩, hW, hsame.mono (by decide) (by decide)⟩
  · exact retOut X76 hx Bd.returns rfl (Or.inr (Or.inr (Or.inr (Or.inr ⟨rfl, rfl, rfl⟩)))) (hb hby d1_279) hr
  · show ((_ : Option Value) = some (.ref (ad (own_cls p1 q2))) ∧ Fr n0 _ ∧ Ext h0 T76.heap)
    rw [e76]
    exact ⟨rfl, N76, EX76⟩
set_option maxRecDepth 65536 in
set_option maxHeartbeats 40000000 in
theorem rm2 (l : Launch) (Z : State) (a0 : Array Value) (hw : ∀ d ∈ tables_1, d.before a0 Z = true) (ws : List Jvm.Cond) (p1 : Int32) (q2 : Int64) (ad : Nat → Addr) (h0 : Heap) (n0 : Nat) (Z0 : n0 ≤ h0.size) (hS : ∀ k, k < 4 → Sta Z h0 "com/example/jobwright/jobwright/workload/O2kJobs$RequestClass" (own_nm k) "Lcom/example/jobwright/jobwright/workload/O2kJobs$RequestClass;" (.ref (ad k))) :
    MetFree l (⟨"com/example/jobwright/jobwright/workload/O2kJobs$RequestClass", "of", "(IJ)Lcom/example/jobwright/jobwright/workload/O2kJobs$RequestClass;"⟩ : MethodName) (head1 (Jvm.Cond.code (⟨"com/example/jobwright/jobwright/workload/O2kJobs$RequestClass", "of", "(IJ)Lcom/example/jobwright/jobwright/workload/O2kJobs$RequestClass;"⟩ : MethodName) prog_200_method_4_code 3 (some (.object "com/example/jobwright/jobwright/workload/O2kJobs$RequestClass")) :: ws) ({ frames := 0, cells := 0, slots := 0, locals := 0 } : Room)) (fun a U => a = #[(.int p1), (.long q2)] ∧ Z.Warmed39 U.vm ∧ U.heap = h0) (fun _ _ _ _ _ => True) (fun _ U o U' => ∃ v L, o = .returned v ∧ own_Q (fun v h L => (v = some (.ref (ad (own_cls p1 q2))) ∧ Fr n0 L ∧ h = h0)) v U'.heap L ∧ FrameEnd U o U' L ({ frames := 0, cells := 0, slots := 0, locals := 0 } : Room).cells ({ frames := 0, cells := 0, slots := 0, locals := 0 } : Room).slots) := by
  refine MetFree.of_bodySF (plainFor_of_name own_pn1) hisR ?_
  intro p e s m args below meth c s₁ Bd hml0 hP hK
  obtain ⟨rfl, hZ, hh⟩ := hP
  have hx := Bd.exec
  have hby := Bd.bytes
  have hml : c.maxLocals = 3 := hml0
  have hown : s.vm.findClass "com/example/jobwright/jobwright/workload/O2kJobs$RequestClass" = some m.cls := findClass_of_methodNamed Bd.named
  have hnm := (name_of_methodNamed Bd.named Bd.method).1
  have X0 : Stand p l e ({ frames := 0, cells := 0, slots := 0, locals := 0 } : Room) s m #[(.int p1), (.long q2)] below meth c s₁ [] 0 0 := Stand.of_body Bd
  have e0 : s₁.heap = h0 := by rw [← hh, Bd.state]; rfl
  have N0 := Fr.nil n0
  have ef : entryFrame m #[(.int p1), (.long q2)] 3 = mkF m 0 #[.val (.int p1), .val (.long q2), .second] [] := by first | (simp [entryFrame, mkF, argsToLocals, Value.category]; done) | rfl
  have pre0 : ∀ t, Steps p.tables e below (s₁.setTop (mkF m 0 #[.val (.int p1), .val (.long q2), .second] [])) t → Steps p.tables e below (s₁.setTop (entryFrame m #[(.int p1), (.long q2)] 3)) t := fun t k => castTop ef k
  have pre1 : ∀ t, Steps p.tables e below (s₁.setTop (mkF m 3 #[.val (.int p1), .val (.long q2), .second] [(.int (32 : Int32)), (.int p1)])) t → Steps p.tables e below (s₁.setTop (entryFrame m #[(.int p1), (.long q2)] 3)) t := by
    intro t k
    refine pre0 _ ?_
    refine XS.iloadN X0.here hx rfl (hb hby d2_0) rfl ?_
    show Steps p.tables e below (s₁.setTop (mkF m 1 #[.val (.int p1), .val (.long q2), .second] [(.int p1)])) _
    refine XS.bipush X0.here hx rfl (hb hby d2_1) ?_
    show Steps p.tables e below (s₁.setTop (mkF m 3 #[.val (.int p1), .val (.long q2), .second] [(.int (32 : Int32)), (.int p1)])) _
    exact k
  by_cases a32 : (32 : Int32) < p1
  · have pre2 : ∀ t, Steps p.tables e below (s₁.setTop (mkF m 11 #[.val (.int p1), .val (.long q2), .second] [(.int (lcmpW q2 (8388608 : Int64)))])) t → Steps p.tables e below (s₁.setTop (entryFrame m #[(.int p1), (.long q2)] 3)) t := by
      intro t k
      refine pre1 _ ?_
      refine XS.icmpNo X0.here hx rfl (hb hby d2_3) rfl (tlt a32).2.2.2 ?_
      show Steps p.tables e below (s₁.setTop (mkF m 6 #[.val (.int p1), .val (.long q2), .second] [])) _
      refine XS.lloadN X0.here hx rfl (hb hby d2_6) rfl ?_
      show Steps p.tables e below (s₁.setTop (mkF m 7 #[.val (.int p1), .val (.long q2), .second] [(.long q2)])) _
      refine X0.ldc2Long hx hown (mvT hZ (hw _ (List.mem_of_getElem? (i := 28) rfl))) (g := (mkF m 7 #[.val (.int p1), .val (.long q2), .second] [(.long q2)])) rfl (hb hby d2_7) _ ?_
      show Steps p.tables e below (s₁.setTop (mkF m 10 #[.val (.int p1), .val (.long q2), .second] [(.long (8388608 : Int64)), (.long q2)])) _
      refine XS.lcmp X0.here hx rfl (hb hby d2_10) rfl ?_
      show Steps p.tables e below (s₁.setTop (mkF m 11 #[.val (.int p1), .val (.long q2), .second] [(.int (lcmpW q2 (8388608 : Int64)))])) _
      exact k
    by_cases h1 : (8388608 : Int64) < q2
    · have pre3 : ∀ t, Steps p.tables e below (s₁.setTop (mkF m 14 #[.val (.int p1), .val (.long q2), .second] [])) t → Steps p.tables e below (s₁.setTop (entryFrame m #[(.int p1), (.long q2)] 3)) t := by
        intro t k
        refine pre2 _ ?_
        refine XS.ifNo X0.here hx rfl (hb hby d2_11) rfl ((if0 _ _).trans (tlt (own_lgt.mpr h1)).2.2.2) ?_
        show Steps p.tables e below (s₁.setTop (mkF m 14 #[.val (.int p1), .val (.long q2), .second] [])) _
        exact k
      obtain ⟨T4, X4, e4, st4⟩ := getS (host := "") X0 hx hZ hown (hw _ (List.mem_of_getElem? (i := 31) rfl)) Via.refl e0 (hS 3 (by decide)) (g := (mkF m 14 #[.val (.int p1), .val (.long q2), .second] [])) rfl (hb hby d2_14)
      have pre4 : ∀ t, Steps p.tables e below (T4.setTop (mkF m 17 #[.val (.int p1), .val (.long q2), .second] [(.ref (ad 3))])) t → Steps p.tables e below (s₁.setTop (entryFrame m #[(.int p1), (.long q2)] 3)) t := fun t k => pre3 t (st4 t k)
      have pre5 : ∀ t, Steps p.tables e below (T4.setTop (mkF m 23 #[.val (.int p1), .val (.long q2), .second] [(.ref (ad 3))])) t → Steps p.tables e below (s₁.setTop (entryFrame m #[(.int p1), (.long q2)] 3)) t := by
        intro t k
        refine pre4 _ ?_
        refine XS.goto X4.here hx rfl (pc0 := 17) (pc' := 23) rfl (hb hby d2_17) (by decide) (by decide) ?_
        show Steps p.tables e below (T4.setTop (mkF m 23 #[.val (.int p1), .val (.long q2), .second] [(.ref (ad 3))])) _
        exact k
      obtain ⟨fs, hr, hrun, hended, hW, hsame⟩ := X4.leave (v := some (.ref (ad 3))) (fun h => by rw [Bd.returns] at h; cases h)
      refine ⟨_, _, pre5 _ ?_, hrun, hended, _, _, rfl, ?_, ⟨_, rfl⟩, hW, hsame.mono (by decide) (by decide)⟩
      · exact retOut X4 hx Bd.returns rfl (Or.inr (Or.inr (Or.inr (Or.inr ⟨rfl, rfl, rfl⟩)))) (hb hby d2_23) hr
      · show ((_ : Option Value) = some (.ref (ad (own_cls p1 q2))) ∧ Fr n0 _ ∧ T4.heap = h0)
        rw [e4]
        exact ⟨by rw [own_cls, if_pos a32, if_pos h1], N0, rfl⟩
    · have pre6 : ∀ t, Steps p.tables e below (s₁.setTop (mkF m 20 #[.val (.int p1), .val (.long q2), .second] [])) t → Steps p.tables e below (s₁.setTop (entryFrame m #[(.int p1), (.long q2)] 3)) t := by
        intro t k
        refine pre2 _ ?_
        refine XS.ifYes X0.here hx rfl (pc0 := 11) (pc' := 20) rfl (hb hby d2_11) rfl ((if0 _ _).trans (flt (mt own_lgt.mp h1)).2.2.2) (by decide) (by decide) ?_
        show Steps p.tables e below (s₁.setTop (mkF m 20 #[.val (.int p1), .val (.long q2), .second] [])) _
        exact k
      obtain ⟨T7, X7, e7, st7⟩ := getS (host := "") X0 hx hZ hown (hw _ (List.mem_of_getElem? (i := 27) rfl)) Via.refl e0 (hS 0 (by decide)) (g := (mkF m 20 #[.val (.int p1), .val (.long q2), .second] [])) rfl (hb hby d2_20)
      have pre7 : ∀ t, Steps p.tables e below (T7.setTop (mkF m 23 #[.val (.int p1), .val (.long q2), .second] [(.ref (ad 0))])) t → Steps p.tables e below (s₁.setTop (entryFrame m #[(.int p1), (.long q2)] 3)) t := fun t k => pre6 t (st7 t k)
      obtain ⟨fs, hr, hrun, hended, hW, hsame⟩ := X7.leave (v := some (.ref (ad 0))) (fun h => by rw [Bd.returns] at h; cases h)
      refine ⟨_, _, pre7 _ ?_, hrun, hended, _, _, rfl, ?_, ⟨_, rfl⟩, hW, hsame.mono (by decide) (by decide)⟩
      · exact retOut X7 hx Bd.returns rfl (Or.inr (Or.inr (Or.inr (Or.inr ⟨rfl, rfl, rfl⟩)))) (hb hby d2_23) hr
      · show ((_ : Option Value) = some (.ref (ad (own_cls p1 q2))) ∧ Fr n0 _ ∧ T7.heap = h0)
        rw [e7]
        exact ⟨by rw [own_cls, if_pos a32, if_neg h1], N0, rfl⟩
  · have pre8 : ∀ t, Steps p.tables e below (s₁.setTop (mkF m 27 #[.val (.int p1), .val (.long q2), .second] [(.int (8 : Int32)), (.int p1)])) t → Steps p.tables e below (s₁.setTop (entryFrame m #[(.int p1), (.long q2)] 3)) t := by
      intro t k
      refine pre1 _ ?_
      refine XS.icmpYes X0.here hx rfl (pc0 := 3) (pc' := 24) rfl (hb hby d2_3) rfl (flt a32).2.2.2 (by decide) (by decide) ?_
      show Steps p.tables e below (s₁.setTop (mkF m 24 #[.val (.int p1), .val (.long q2), .second] [])) _
      refine XS.iloadN X0.here hx rfl (hb hby d2_24) rfl ?_
      show Steps p.tables e below (s₁.setTop (mkF m 25 #[.val (.int p1), .val (.long q2), .second] [(.int p1)])) _
      refine XS.bipush X0.here hx rfl (hb hby d2_25) ?_
      show Steps p.tables e below (s₁.setTop (mkF m 27 #[.val (.int p1), .val (.long q2), .second] [(.int (8 : Int32)), (.int p1)])) _
      exact k
    by_cases a8 : (8 : Int32) < p1
    · have pre9 : ∀ t, Steps p.tables e below (s₁.setTop (mkF m 35 #[.val (.int p1), .val (.long q2), .second] [(.int (lcmpW q2 (1048576 : Int64)))])) t → Steps p.tables e below (s₁.setTop (entryFrame m #[(.int p1), (.long q2)] 3)) t := by
        intro t k
        refine pre8 _ ?_
        refine XS.icmpNo X0.here hx rfl (hb hby d2_27) rfl (tlt a8).2.2.2 ?_
        show Steps p.tables e below (s₁.setTop (mkF m 30 #[.val (.int p1), .val (.long q2), .second] [])) _
        refine XS.lloadN X0.here hx rfl (hb hby d2_30) rfl ?_
        show Steps p.tables e below (s₁.setTop (mkF m 31 #[.val (.int p1), .val (.long q2), .second] [(.long q2)])) _
        refine X0.ldc2Long hx hown (mvT hZ (hw _ (List.mem_of_getElem? (i := 24) rfl))) (g := (mkF m 31 #[.val (.int p1), .val (.long q2), .second] [(.long q2)])) rfl (hb hby d2_31) _ ?_
        show Steps p.tables e below (s₁.setTop (mkF m 34 #[.val (.int p1), .val (.long q2), .second] [(.long (1048576 : Int64)), (.long q2)])) _
        refine XS.lcmp X0.here hx rfl (hb hby d2_34) rfl ?_
        show Steps p.tables e below (s₁.setTop (mkF m 35 #[.val (.int p1), .val (.long q2), .second] [(.int (lcmpW q2 (1048576 : Int64)))])) _
        exact k
      by_cases h1 : q2 < (1048576 : Int64)
      · have pre10 : ∀ t, Steps p.tables e below (s₁.setTop (mkF m 38 #[.val (.int p1), .val (.long q2), .second] [])) t → Steps p.tables e below (s₁.setTop (entryFrame m #[(.int p1), (.long q2)] 3)) t := by
          intro t k
          refine pre9 _ ?_
          refine XS.ifNo X0.here hx rfl (hb hby d2_35) rfl ((if0 _ _).trans (tlt (own_llt.mpr h1)).2.1) ?_
          show Steps p.tables e below (s₁.setTop (mkF m 38 #[.val (.int p1), .val (.long q2), .second] [])) _
          exact k
        obtain ⟨T11, X11, e11, st11⟩ := getS (host := "") X0 hx hZ hown (hw _ (List.mem_of_getElem? (i := 27) rfl)) Via.refl e0 (hS 0 (by decide)) (g := (mkF m 38 #[.val (.int p1), .val (.long q2), .second] [])) rfl (hb hby d2_38)
        have pre11 : ∀ t, Steps p.tables e below (T11.setTop (mkF m 41 #[.val (.int p1), .val (.long q2), .second] [(.ref (ad 0))])) t → Steps p.tables e below (s₁.setTop (entryFrame m #[(.int p1), (.long q2)] 3)) t := fun t k => pre10 t (st11 t k)
        have pre12 : ∀ t, Steps p.tables e below (T11.setTop (mkF m 61 #[.val (.int p1), .val (.long q2), .second] [(.ref (ad 0))])) t → Steps p.tables e below (s₁.setTop (entryFrame m #[(.int p1), (.long q2)] 3)) t := by
          intro t k
          refine pre11 _ ?_
          refine XS.goto X11.here hx rfl (pc0 := 41) (pc' := 61) rfl (hb hby d2_41) (by decide) (by decide) ?_
          show Steps p.tables e below (T11.setTop (mkF m 61 #[.val (.int p1), .val (.long q2), .second] [(.ref (ad 0))])) _
          exact k
        obtain ⟨fs, hr, hrun, hended, hW, hsame⟩ := X11.leave (v := some (.ref (ad 0))) (fun h => by rw [Bd.returns] at h; cases h)
        refine ⟨_, _, pre12 _ ?_, hrun, hended, _, _, rfl, ?_, ⟨_, rfl⟩, hW, hsame.mono (by decide) (by decide)⟩
        · exact retOut X11 hx Bd.returns rfl (Or.inr (Or.inr (Or.inr (Or.inr ⟨rfl, rfl, rfl⟩)))) (hb hby d2_61) hr
        · show ((_ : Option Value) = some (.ref (ad (own_cls p1 q2))) ∧ Fr n0 _ ∧ T11.heap = h0)
          rw [e11]
          exact ⟨by rw [own_cls, if_neg a32, if_pos a8, if_pos h1], N0, rfl⟩
      · have pre13 : ∀ t, Steps p.tables e below (s₁.setTop (mkF m 49 #[.val (.int p1), .val (.long q2), .second] [(.int (lcmpW q2 (16777216 : Int64)))])) t → Steps p.tables e below (s₁.setTop (entryFrame m #[(.int p1), (.long q2)] 3)) t := by
          intro t k
          refine pre9 _ ?_
          refine XS.ifYes X0.here hx rfl (pc0 := 35) (pc' := 44) rfl (hb hby d2_35) rfl ((if0 _ _).trans (flt (mt own_llt.mp h1)).2.1) (by decide) (by decide) ?_
          show Steps p.tables e below (s₁.setTop (mkF m 44 #[.val (.int p1), .val (.long q2), .second] [])) _
          refine XS.lloadN X0.here hx rfl (hb hby d2_44) rfl ?_
          show Steps p.tables e below (s₁.setTop (mkF m 45 #[.val (.int p1), .val (.long q2), .second] [(.long q2)])) _
          refine X0.ldc2Long hx hown (mvT hZ (hw _ (List.mem_of_getElem? (i := 30) rfl))) (g := (mkF m 45 #[.val (.int p1), .val (.long q2), .second] [(.long q2)])) rfl (hb hby d2_45) _ ?_
          show Steps p.tables e below (s₁.setTop (mkF m 48 #[.val (.int p1), .val (.long q2), .second] [(.long (16777216 : Int64)), (.long q2)])) _
          refine XS.lcmp X0.here hx rfl (hb hby d2_48) rfl ?_
          show Steps p.tables e below (s₁.setTop (mkF m 49 #[.val (.int p1), .val (.long q2), .second] [(.int (lcmpW q2 (16777216 : Int64)))])) _
          exact k
        by_cases h2 : (16777216 : Int64) < q2
        · have pre14 : ∀ t, Steps p.tables e below (s₁.setTop (mkF m 52 #[.val (.int p1), .val (.long q2), .second] [])) t → Steps p.tables e below (s₁.setTop (entryFrame m #[(.int p1), (.long q2)] 3)) t := by
            intro t k
            refine pre13 _ ?_
            refine XS.ifNo X0.here hx rfl (hb hby d2_49) rfl ((if0 _ _).trans (tlt (own_lgt.mpr h2)).2.2.2) ?_
            show Steps p.tables e below (s₁.setTop (mkF m 52 #[.val (.int p1), .val (.long q2), .second] [])) _
            exact k
          obtain ⟨T15, X15, e15, st15⟩ := getS (host := "") X0 hx hZ hown (hw _ (List.mem_of_getElem? (i := 29) rfl)) Via.refl e0 (hS 2 (by decide)) (g := (mkF m 52 #[.val (.int p1), .val (.long q2), .second] [])) rfl (hb hby d2_52)
          have pre15 : ∀ t, Steps p.tables e below (T15.setTop (mkF m 55 #[.val (.int p1), .val (.long q2), .second] [(.ref (ad 2))])) t → Steps p.tables e below (s₁.setTop (entryFrame m #[(.int p1), (.long q2)] 3)) t := fun t k => pre14 t (st15 t k)
          have pre16 : ∀ t, Steps p.tables e below (T15.setTop (mkF m 61 #[.val (.int p1), .val (.long q2), .second] [(.ref (ad 2))])) t → Steps p.tables e below (s₁.setTop (entryFrame m #[(.int p1), (.long q2)] 3)) t := by
            intro t k
            refine pre15 _ ?_
            refine XS.goto X15.here hx rfl (pc0 := 55) (pc' := 61) rfl (hb hby d2_55) (by decide) (by decide) ?_
            show Steps p.tables e below (T15.setTop (mkF m 61 #[.val (.int p1), .val (.long q2), .second] [(.ref (ad 2))])) _
            exact k
          obtain ⟨fs, hr, hrun, hended, hW, hsame⟩ := X15.leave (v := some (.ref (ad 2))) (fun h => by rw [Bd.returns] at h; cases h)
          refine ⟨_, _, pre16 _ ?_, hrun, hended, _, _, rfl, ?_, ⟨_, rfl⟩, hW, hsame.mono (by decide) (by decide)⟩
          · exact retOut X15 hx Bd.returns rfl (Or.inr (Or.inr (Or.inr (Or.inr ⟨rfl, rfl, rfl⟩)))) (hb hby d2_61) hr
          · show ((_ : Option Value) = some (.ref (ad (own_cls p1 q2))) ∧ Fr n0 _ ∧ T15.heap = h0)
            rw [e15]
            exact ⟨by rw [own_cls, if_neg a32, if_pos a8, if_neg h1, if_pos h2], N0, rfl⟩
        · have pre17 : ∀ t, Steps p.tables e below (s₁.setTop (mkF m 58 #[.val (.int p1), .val (.long q2), .second] [])) t → Steps p.tables e below (s₁.setTop (entryFrame m #[(.int p1), (.long q2)] 3)) t := by
            intro t k
            refine pre13 _ ?_
            refine XS.ifYes X0.here hx rfl (pc0 := 49) (pc' := 58) rfl (hb hby d2_49) rfl ((if0 _ _).trans (flt (mt own_lgt.mp h2)).2.2.2) (by decide) (by decide) ?_
            show Steps p.tables e below (s₁.setTop (mkF m 58 #[.val (.int p1), .val (.long q2), .second] [])) _
            exact k
          obtain ⟨T18, X18, e18, st18⟩ := getS (host := "") X0 hx hZ hown (hw _ (List.mem_of_getElem? (i := 25) rfl)) Via.refl e0 (hS 1 (by decide)) (g := (mkF m 58 #[.val (.int p1), .val (.long q2), .second] [])) rfl (hb hby d2_58)
          have pre18 : ∀ t, Steps p.tables e below (T18.setTop (mkF m 61 #[.val (.int p1), .val (.long q2), .second] [(.ref (ad 1))])) t → Steps p.tables e below (s₁.setTop (entryFrame m #[(.int p1), (.long q2)] 3)) t := fun t k => pre17 t (st18 t k)
          obtain ⟨fs, hr, hrun, hended, hW, hsame⟩ := X18.leave (v := some (.ref (ad 1))) (fun h => by rw [Bd.returns] at h; cases h)
          refine ⟨_, _, pre18 _ ?_, hrun, hended, _, _, rfl, ?_, ⟨_, rfl⟩, hW, hsame.mono (by decide) (by decide)⟩
          · exact retOut X18 hx Bd.returns rfl (Or.inr (Or.inr (Or.inr (Or.inr ⟨rfl, rfl, rfl⟩)))) (hb hby d2_61) hr
          · show ((_ : Option Value) = some (.ref (ad (own_cls p1 q2))) ∧ Fr n0 _ ∧ T18.heap = h0)
            rw [e18]
            exact ⟨by rw [own_cls, if_neg a32, if_pos a8, if_neg h1, if_neg h2], N0, rfl⟩
    · have pre19 : ∀ t, Steps p.tables e below (s₁.setTop (mkF m 64 #[.val (.int p1), .val (.long q2), .second] [(.int (2 : Int32)), (.int p1)])) t → Steps p.tables e below (s₁.setTop (entryFrame m #[(.int p1), (.long q2)] 3)) t := by
        intro t k
        refine pre8 _ ?_
        refine XS.icmpYes X0.here hx rfl (pc0 := 27) (pc' := 62) rfl (hb hby d2_27) rfl (flt a8).2.2.2 (by decide) (by decide) ?_
        show Steps p.tables e below (s₁.setTop (mkF m 62 #[.val (.int p1), .val (.long q2), .second] [])) _
        refine XS.iloadN X0.here hx rfl (hb hby d2_62) rfl ?_
        show Steps p.tables e below (s₁.setTop (mkF m 63 #[.val (.int p1), .val (.long q2), .second] [(.int p1)])) _
        refine XS.iconst X0.here hx rfl (hb hby d2_63) ?_
        show Steps p.tables e below (s₁.setTop (mkF m 64 #[.val (.int p1), .val (.long q2), .second] [(.int (2 : Int32)), (.int p1)])) _
        exact k
      by_cases a2 : (2 : Int32) < p1
      · have pre20 : ∀ t, Steps p.tables e below (s₁.setTop (mkF m 72 #[.val (.int p1), .val (.long q2), .second] [(.int (lcmpW q2 (131072 : Int64)))])) t → Steps p.tables e below (s₁.setTop (entryFrame m #[(.int p1), (.long q2)] 3)) t := by
          intro t k
          refine pre19 _ ?_
          refine XS.icmpNo X0.here hx rfl (hb hby d2_64) rfl (tlt a2).2.2.2 ?_
          show Steps p.tables e below (s₁.setTop (mkF m 67 #[.val (.int p1), .val (.long q2), .second] [])) _
          refine XS.lloadN X0.here hx rfl (hb hby d2_67) rfl ?_
          show Steps p.tables e below (s₁.setTop (mkF m 68 #[.val (.int p1), .val (.long q2), .second] [(.long q2)])) _
          refine X0.ldc2Long hx hown (mvT hZ (hw _ (List.mem_of_getElem? (i := 32) rfl))) (g := (mkF m 68 #[.val (.int p1), .val (.long q2), .second] [(.long q2)])) rfl (hb hby d2_68) _ ?_
          show Steps p.tables e below (s₁.setTop (mkF m 71 #[.val (.int p1), .val (.long q2), .second] [(.long (131072 : Int64)), (.long q2)])) _
          refine XS.lcmp X0.here hx rfl (hb hby d2_71) rfl ?_
          show Steps p.tables e below (s₁.setTop (mkF m 72 #[.val (.int p1), .val (.long q2), .second] [(.int (lcmpW q2 (131072 : Int64)))])) _
          exact k
        by_cases h1 : q2 < (131072 : Int64)
        · have pre21 : ∀ t, Steps p.tables e below (s₁.setTop (mkF m 75 #[.val (.int p1), .val (.long q2), .second] [])) t → Steps p.tables e below (s₁.setTop (entryFrame m #[(.int p1), (.long q2)] 3)) t := by
            intro t k
            refine pre20 _ ?_
            refine XS.ifNo X0.here hx rfl (hb hby d2_72) rfl ((if0 _ _).trans (tlt (own_llt.mpr h1)).2.1) ?_
            show Steps p.tables e below (s₁.setTop (mkF m 75 #[.val (.int p1), .val (.long q2), .second] [])) _
            exact k
          obtain ⟨T22, X22, e22, st22⟩ := getS (host := "") X0 hx hZ hown (hw _ (List.mem_of_getElem? (i := 27) rfl)) Via.refl e0 (hS 0 (by decide)) (g := (mkF m 75 #[.val (.int p1), .val (.long q2), .second] [])) rfl (hb hby d2_75)
          have pre22 : ∀ t, Steps p.tables e below (T22.setTop (mkF m 78 #[.val (.int p1), .val (.long q2), .second] [(.ref (ad 0))])) t → Steps p.tables e below (s₁.setTop (entryFrame m #[(.int p1), (.long q2)] 3)) t := fun t k => pre21 t (st22 t k)
          have pre23 : ∀ t, Steps p.tables e below (T22.setTop (mkF m 98 #[.val (.int p1), .val (.long q2), .second] [(.ref (ad 0))])) t → Steps p.tables e below (s₁.setTop (entryFrame m #[(.int p1), (.long q2)] 3)) t := by
            intro t k
            refine pre22 _ ?_
            refine XS.goto X22.here hx rfl (pc0 := 78) (pc' := 98) rfl (hb hby d2_78) (by decide) (by decide) ?_
            show Steps p.tables e below (T22.setTop (mkF m 98 #[.val (.int p1), .val (.long q2), .second] [(.ref (ad 0))])) _
            exact k
          obtain ⟨fs, hr, hrun, hended, hW, hsame⟩ := X22.leave (v := some (.ref (ad 0))) (fun h => by rw [Bd.returns] at h; cases h)
          refine ⟨_, _, pre23 _ ?_, hrun, hended, _, _, rfl, ?_, ⟨_, rfl⟩, hW, hsame.mono (by decide) (by decide)⟩
          · exact retOut X22 hx Bd.returns rfl (Or.inr (Or.inr (Or.inr (Or.inr ⟨rfl, rfl, rfl⟩)))) (hb hby d2_98) hr
          · show ((_ : Option Value) = some (.ref (ad (own_cls p1 q2))) ∧ Fr n0 _ ∧ T22.heap = h0)
            rw [e22]
            exact ⟨by rw [own_cls, if_neg a32, if_neg a8, if_pos a2, if_pos h1], N0, rfl⟩
        · have pre24 : ∀ t, Steps p.tables e below (s₁.setTop (mkF m 86 #[.val (.int p1), .val (.long q2), .second] [(.int (lcmpW q2 (8388608 : Int64)))])) t → Steps p.tables e below (s₁.setTop (entryFrame m #[(.int p1), (.long q2)] 3)) t := by
            intro t k
            refine pre20 _ ?_
            refine XS.ifYes X0.here hx rfl (pc0 := 72) (pc' := 81) rfl (hb hby d2_72) rfl ((if0 _ _).trans (flt (mt own_llt.mp h1)).2.1) (by decide) (by decide) ?_
            show Steps p.tables e below (s₁.setTop (mkF m 81 #[.val (.int p1), .val (.long q2), .second] [])) _
            refine XS.lloadN X0.here hx rfl (hb hby d2_81) rfl ?_
            show Steps p.tables e below (s₁.setTop (mkF m 82 #[.val (.int p1), .val (.long q2), .second] [(.long q2)])) _
            refine X0.ldc2Long hx hown (mvT hZ (hw _ (List.mem_of_getElem? (i := 28) rfl))) (g := (mkF m 82 #[.val (.int p1), .val (.long q2), .second] [(.long q2)])) rfl (hb hby d2_82) _ ?_
            show Steps p.tables e below (s₁.setTop (mkF m 85 #[.val (.int p1), .val (.long q2), .second] [(.long (8388608 : Int64)), (.long q2)])) _
            refine XS.lcmp X0.here hx rfl (hb hby d2_85) rfl ?_
            show Steps p.tables e below (s₁.setTop (mkF m 86 #[.val (.int p1), .val (.long q2), .second] [(.int (lcmpW q2 (8388608 : Int64)))])) _
            exact k
          by_cases h2 : (8388608 : Int64) < q2
          · have pre25 : ∀ t, Steps p.tables e below (s₁.setTop (mkF m 89 #[.val (.int p1), .val (.long q2), .second] [])) t → Steps p.tables e below (s₁.setTop (entryFrame m #[(.int p1), (.long q2)] 3)) t := by
              intro t k
              refine pre24 _ ?_
              refine XS.ifNo X0.here hx rfl (hb hby d2_86) rfl ((if0 _ _).trans (tlt (own_lgt.mpr h2)).2.2.2) ?_
              show Steps p.tables e below (s₁.setTop (mkF m 89 #[.val (.int p1), .val (.long q2), .second] [])) _
              exact k
            obtain ⟨T26, X26, e26, st26⟩ := getS (host := "") X0 hx hZ hown (hw _ (List.mem_of_getElem? (i := 29) rfl)) Via.refl e0 (hS 2 (by decide)) (g := (mkF m 89 #[.val (.int p1), .val (.long q2), .second] [])) rfl (hb hby d2_89)
            have pre26 : ∀ t, Steps p.tables e below (T26.setTop (mkF m 92 #[.val (.int p1), .val (.long q2), .second] [(.ref (ad 2))])) t → Steps p.tables e below (s₁.setTop (entryFrame m #[(.int p1), (.long q2)] 3)) t := fun t k => pre25 t (st26 t k)
            have pre27 : ∀ t, Steps p.tables e below (T26.setTop (mkF m 98 #[.val (.int p1), .val (.long q2), .second] [(.ref (ad 2))])) t → Steps p.tables e below (s₁.setTop (entryFrame m #[(.int p1), (.long q2)] 3)) t := by
              intro t k
              refine pre26 _ ?_
              refine XS.goto X26.here hx rfl (pc0 := 92) (pc' := 98) rfl (hb hby d2_92) (by decide) (by decide) ?_
              show Steps p.tables e below (T26.setTop (mkF m 98 #[.val (.int p1), .val (.long q2), .second] [(.ref (ad 2))])) _
              exact k
            obtain ⟨fs, hr, hrun, hended, hW, hsame⟩ := X26.leave (v := some (.ref (ad 2))) (fun h => by rw [Bd.returns] at h; cases h)
            refine ⟨_, _, pre27 _ ?_, hrun, hended, _, _, rfl, ?_, ⟨_, rfl⟩, hW, hsame.mono (by decide) (by decide)⟩
            · exact retOut X26 hx Bd.returns rfl (Or.inr (Or.inr (Or.inr (Or.inr ⟨rfl, rfl, rfl⟩)))) (hb hby d2_98) hr
            · show ((_ : Option Value) = some (.ref (ad (own_cls p1 q2))) ∧ Fr n0 _ ∧ T26.heap = h0)
              rw [e26]
              exact ⟨by rw [own_cls, if_neg a32, if_neg a8, if_pos a2, if_neg h1, if_pos h2], N0, rfl⟩
          · have pre28 : ∀ t, Steps p.tables e below (s₁.setTop (mkF m 95 #[.val (.int p1), .val (.long q2), .second] [])) t → Steps p.tables e below (s₁.setTop (entryFrame m #[(.int p1), (.long q2)] 3)) t := by
              intro t k
              refine pre24 _ ?_
              refine XS.ifYes X0.here hx rfl (pc0 := 86) (pc' := 95) rfl (hb hby d2_86) rfl ((if0 _ _).trans (flt (mt own_lgt.mp h2)).2.2.2) (by decide) (by decide) ?_
              show Steps p.tables e below (s₁.setTop (mkF m 95 #[.val (.int p1), .val (.long q2), .second] [])) _
              exact k
            obtain ⟨T29, X29, e29, st29⟩ := getS (host := "") X0 hx hZ hown (hw _ (List.mem_of_getElem? (i := 25) rfl)) Via.refl e0 (hS 1 (by decide)) (g := (mkF m 95 #[.val (.int p1), .val (.long q2), .second] [])) rfl (hb hby d2_95)
            have pre29 : ∀ t, Steps p.tables e below (T29.setTop (mkF m 98 #[.val (.int p1), .val (.long q2), .second] [(.ref (ad 1))])) t → Steps p.tables e below (s₁.setTop (entryFrame m #[(.int p1), (.long q2)] 3)) t := fun t k => pre28 t (st29 t k)
            obtain ⟨fs, hr, hrun, hended, hW, hsame⟩ := X29.leave (v := some (.ref (ad 1))) (fun h => by rw [Bd.returns] at h; cases h)
            refine ⟨_, _, pre29 _ ?_, hrun, hended, _, _, rfl, ?_, ⟨_, rfl⟩, hW, hsame.mono (by decide) (by decide)⟩
            · exact retOut X29 hx Bd.returns rfl (Or.inr (Or.inr (Or.inr (Or.inr ⟨rfl, rfl, rfl⟩)))) (hb hby d2_98) hr
            · show ((_ : Option Value) = some (.ref (ad (own_cls p1 q2))) ∧ Fr n0 _ ∧ T29.heap = h0)
              rw [e29]
              exact ⟨by rw [own_cls, if_neg a32, if_neg a8, if_pos a2, if_neg h1, if_neg h2], N0, rfl⟩
      · have pre30 : ∀ t, Steps p.tables e below (s₁.setTop (mkF m 104 #[.val (.int p1), .val (.long q2), .second] [(.int (lcmpW q2 (1048576 : Int64)))])) t → Steps p.tables e below (s₁.setTop (entryFrame m #[(.int p1), (.long q2)] 3)) t := by
          intro t k
          refine pre19 _ ?_
          refine XS.icmpYes X0.here hx rfl (pc0 := 64) (pc' := 99) rfl (hb hby d2_64) rfl (flt a2).2.2.2 (by decide) (by decide) ?_
          show Steps p.tables e below (s₁.setTop (mkF m 99 #[.val (.int p1), .val (.long q2), .second] [])) _
          refine XS.lloadN X0.here hx rfl (hb hby d2_99) rfl ?_
          show Steps p.tables e below (s₁.setTop (mkF m 100 #[.val (.int p1), .val (.long q2), .second] [(.long q2)])) _
          refine X0.ldc2Long hx hown (mvT hZ (hw _ (List.mem_of_getElem? (i := 24) rfl))) (g := (mkF m 100 #[.val (.int p1), .val (.long q2), .second] [(.long q2)])) rfl (hb hby d2_100) _ ?_
          show Steps p.tables e below (s₁.setTop (mkF m 103 #[.val (.int p1), .val (.long q2), .second] [(.long (1048576 : Int64)), (.long q2)])) _
          refine XS.lcmp X0.here hx rfl (hb hby d2_103) rfl ?_
          show Steps p.tables e below (s₁.setTop (mkF m 104 #[.val (.int p1), .val (.long q2), .second] [(.int (lcmpW q2 (1048576 : Int64)))])) _
          exact k
        by_cases h1 : (1048576 : Int64) < q2
        · have pre31 : ∀ t, Steps p.tables e below (s₁.setTop (mkF m 107 #[.val (.int p1), .val (.long q2), .second] [])) t → Steps p.tables e below (s₁.setTop (entryFrame m #[(.int p1), (.long q2)] 3)) t := by
            intro t k
            refine pre30 _ ?_
            refine XS.ifNo X0.here hx rfl (hb hby d2_104) rfl ((if0 _ _).trans (tlt (own_lgt.mpr h1)).2.2.2) ?_
            show Steps p.tables e below (s₁.setTop (mkF m 107 #[.val (.int p1), .val (.long q2), .second] [])) _
            exact k
          obtain ⟨T32, X32, e32, st32⟩ := getS (host := "") X0 hx hZ hown (hw _ (List.mem_of_getElem? (i := 29) rfl)) Via.refl e0 (hS 2 (by decide)) (g := (mkF m 107 #[.val (.int p1), .val (.long q2), .second] [])) rfl (hb hby d2_107)
          have pre32 : ∀ t, Steps p.tables e below (T32.setTop (mkF m 110 #[.val (.int p1), .val (.long q2), .second] [(.ref (ad 2))])) t → Steps p.tables e below (s₁.setTop (entryFrame m #[(.int p1), (.long q2)] 3)) t := fun t k => pre31 t (st32 t k)
          have pre33 : ∀ t, Steps p.tables e below (T32.setTop (mkF m 116 #[.val (.int p1), .val (.long q2), .second] [(.ref (ad 2))])) t → Steps p.tables e below (s₁.setTop (entryFrame m #[(.int p1), (.long q2)] 3)) t := by
            intro t k
            refine pre32 _ ?_
            refine XS.goto X32.here hx rfl (pc0 := 110) (pc' := 116) rfl (hb hby d2_110) (by decide) (by decide) ?_
            show Steps p.tables e below (T32.setTop (mkF m 116 #[.val (.int p1), .val (.long q2), .second] [(.ref (ad 2))])) _
            exact k
          obtain ⟨fs, hr, hrun, hended, hW, hsame⟩ := X32.leave (v := some (.ref (ad 2))) (fun h => by rw [Bd.returns] at h; cases h)
          refine ⟨_, _, pre33 _ ?_, hrun, hended, _, _, rfl, ?_, ⟨_, rfl⟩, hW, hsame.mono (by decide) (by decide)⟩
          · exact retOut X32 hx Bd.returns rfl (Or.inr (Or.inr (Or.inr (Or.inr ⟨rfl, rfl, rfl⟩)))) (hb hby d2_116) hr
          · show ((_ : Option Value) = some (.ref (ad (own_cls p1 q2))) ∧ Fr n0 _ ∧ T32.heap = h0)
            rw [e32]
            exact ⟨by rw [own_cls, if_neg a32, if_neg a8, if_neg a2, if_pos h1], N0, rfl⟩
        · have pre34 : ∀ t, Steps p.tables e below (s₁.setTop (mkF m 113 #[.val (.int p1), .val (.long q2), .second] [])) t → Steps p.tables e below (s₁.setTop (entryFrame m #[(.int p1), (.long q2)] 3)) t := by
            intro t k
            refine pre30 _ ?_
            refine XS.ifYes X0.here hx rfl (pc0 := 104) (pc' := 113) rfl (hb hby d2_104) rfl ((if0 _ _).trans (flt (mt own_lgt.mp h1)).2.2.2) (by decide) (by decide) ?_
            show Steps p.tables e below (s₁.setTop (mkF m 113 #[.val (.int p1), .val (.long q2), .second] [])) _
            exact k
          obtain ⟨T35, X35, e35, st35⟩ := getS (host := "") X0 hx hZ hown (hw _ (List.mem_of_getElem? (i := 25) rfl)) Via.refl e0 (hS 1 (by decide)) (g := (mkF m 113 #[.val (.int p1), .val (.long q2), .second] [])) rfl (hb hby d2_113)
          have pre35 : ∀ t, Steps p.tables e below (T35.setTop (mkF m 116 #[.val (.int p1), .val (.long q2), .second] [(.ref (ad 1))])) t → Steps p.tables e below (s₁.setTop (entryFrame m #[(.int p1), (.long q2)] 3)) t := fun t k => pre34 t (st35 t k)
          obtain ⟨fs, hr, hrun, hended, hW, hsame⟩ := X35.leave (v := some (.ref (ad 1))) (fun h => by rw [Bd.returns] at h; cases h)
          refine ⟨_, _, pre35 _ ?_, hrun, hended, _, _, rfl, ?_, ⟨_, rfl⟩, hW, hsame.mono (by decide) (by decide)⟩
          · exact retOut X35 hx Bd.returns rfl (Or.inr (Or.inr (Or.inr (Or.inr ⟨rfl, rfl, rfl⟩)))) (hb hby d2_116) hr
          · show ((_ : Option Value) = some (.ref (ad (own_cls p1 q2))) ∧ Fr n0 _ ∧ T35.heap = h0)
            rw [e35]
            exact ⟨by rw [own_cls, if_neg a32, if_neg a8, if_neg a2, if_neg h1], N0, rfl⟩
set_option maxRecDepth 65536 in
set_option maxHeartbeats 40000000 in
theorem rm0 (l : Launch) (Z : State) (a0 : Array Value) (hw : ∀ d ∈ tables_1, d.before a0 Z = true) (ws : List Jvm.Cond) (p1 : Int32) (q2 : Int64) (p3 : Int32) (ad : Nat → Addr) (h0 : Heap) (n0 : Nat) (Z0 : n0 ≤ h0.size) (hS : ∀ k, k < 4 → Sta Z h0 "com/example/jobwright/jobwright/workload/O2kJobs$RequestClass" (own_nm k) "Lcom/example/jobwright/jobwright/workload/O2kJobs$RequestClass;" (.ref (ad k))) (hE : ∀ k, k < 4 → Exa Z h0 (ad k) "com/example/jobwright/jobwright/workload/O2kJobs$RequestClass") :
    MetFree l x (head1 (Jvm.Cond.code x code maxLocals ret :: ws) room_1) (fun a U => a = #[(.int p1), (.long q2), (.int p3)] ∧ Z.Warmed39 U.vm ∧ U.heap = h0) (fun _ _ _ _ _ => True) (fun _ U o U' => ∃ v L, o = .returned v ∧ own_Q (fun v h L => (v = some (.int 1) ∧ Fr n0 L)) v U'.heap L ∧ FrameEnd U o U' L room_1.cells room_1.slots) := by
  refine MetFree.of_bodySF (plainFor_of_name own_pn0) hisR ?_
  intro p e s m args below meth c s₁ Bd hml0 hP hK
  obtain ⟨rfl, hZ, hh⟩ := hP
  have hx := Bd.exec
  have hby := Bd.bytes
  have hml : c.maxLocals = 10 := hml0
  have hown : s.vm.findClass "com/example/jobwright/jobwright/workload/RequestClassOfPinLaw" = some m.cls := findClass_of_methodNamed Bd.named
  have hnm := (name_of_methodNamed Bd.named Bd.method).1
  have X0 : Stand p l e room_1 s m #[(.int p1), (.long q2), (.int p3)] below meth c s₁ [] 0 0 := Stand.of_body Bd
  have e0 : s₁.heap = h0 := by rw [← hh, Bd.state]; rfl
  have N0 := Fr.nil n0
  have ef : entryFrame m #[(.int p1), (.long q2), (.int p3)] maxLocals = mkF m 0 #[.val (.int p1), .val (.long q2), .second, .val (.int p3), .unset, .unset, .unset, .unset, .unset, .unset] [] := by first | (simp [entryFrame, mkF, argsToLocals, Value.category, maxLocals]; done) | rfl
  have pre0 : ∀ t, Steps p.tables e below (s₁.setTop (mkF m 0 #[.val (.int p1), .val (.long q2), .second, .val (.int p3), .unset, .unset, .unset, .unset, .unset, .unset] [])) t → Steps p.tables e below (s₁.setTop (entryFrame m #[(.int p1), (.long q2), (.int p3)] maxLocals)) t := fun t k => castTop ef k
  obtain ⟨pp, preP⟩ : ∃ pp : Int32, (∀ t, Steps p.tables e below (s₁.setTop (mkF m 17 #[.val (.int p1), .val (.long q2), .second, .val (.int p3), .unset, .unset, .unset, .unset, .unset, .unset] [(.int pp)])) t → Steps p.tables e below (s₁.setTop (entryFrame m #[(.int p1), (.long q2), (.int p3)] maxLocals)) t) := by
    have pre1 : ∀ t, Steps p.tables e below (s₁.setTop (mkF m 3 #[.val (.int p1), .val (.long q2), .second, .val (.int p3), .unset, .unset, .unset, .unset, .unset, .unset] [(.int (p3 &&& (1 : Int32)))])) t → Steps p.tables e below (s₁.setTop (entryFrame m #[(.int p1), (.long q2), (.int p3)] maxLocals)) t := by
      intro t k
      refine pre0 _ ?_
      refine XS.iloadN X0.here hx rfl (hb hby at_0) rfl ?_
      show Steps p.tables e below (s₁.setTop (mkF m 1 #[.val (.int p1), .val (.long q2), .second, .val (.int p3), .unset, .unset, .unset, .unset, .unset, .unset] [(.int p3)])) _
      refine XS.iconst X0.here hx rfl (hb hby at_1) ?_
      show Steps p.tables e below (s₁.setTop (mkF m 2 #[.val (.int p1), .val (.long q2), .second, .val (.int p3), .unset, .unset, .unset, .unset, .unset, .unset] [(.int (1 : Int32)), (.int p3)])) _
      refine XS.iand X0.here hx rfl (hb hby at_2) rfl ?_
      show Steps p.tables e below (s₁.setTop (mkF m 3 #[.val (.int p1), .val (.long q2), .second, .val (.int p3), .unset, .unset, .unset, .unset, .unset, .unset] [(.int (p3 &&& (1 : Int32)))])) _
      exact k
    by_cases h1 : (p3 &&& (1 : Int32)) = (0 : Int32)
    · have pre2 : ∀ t, Steps p.tables e below (s₁.setTop (mkF m 17 #[.val (.int p1), .val (.long q2), .second, .val (.int p3), .unset, .unset, .unset, .unset, .unset, .unset] [(.int p1)])) t → Steps p.tables e below (s₁.setTop (entryFrame m #[(.int p1), (.long q2), (.int p3)] maxLocals)) t := by
        intro t k
        refine pre1 _ ?_
        refine XS.ifNo X0.here hx rfl (hb hby at_3) rfl ((if0 _ _).trans (teq h1).2) ?_
        show Steps p.tables e below (s₁.setTop (mkF m 6 #[.val (.int p1), .val (.long q2), .second, .val (.int p3), .unset, .unset, .unset, .unset, .unset, .unset] [])) _
        refine XS.iloadN X0.here hx rfl (hb hby at_6) rfl ?_
        show Steps p.tables e below (s₁.setTop (mkF m 7 #[.val (.int p1), .val (.long q2), .second, .val (.int p3), .unset, .unset, .unset, .unset, .unset, .unset] [(.int p1)])) _
        refine XS.goto X0.here hx rfl (pc0 := 7) (pc' := 17) rfl (hb hby at_7) (by decide) (by decide) ?_
        show Steps p.tables e below (s₁.setTop (mkF m 17 #[.val (.int p1), .val (.long q2), .second, .val (.int p3), .unset, .unset, .unset, .unset, .unset, .unset] [(.int p1)])) _
        exact k
      exact ⟨_, pre2⟩
    · have pre3 : ∀ t, Steps p.tables e below (s₁.setTop (mkF m 17 #[.val (.int p1), .val (.long q2), .second, .val (.int p3), .unset, .unset, .unset, .unset, .unset, .unset] [(.int ((p1 &&& (127 : Int32)) - (32 : Int32)))])) t → Steps p.tables e below (s₁.setTop (entryFrame m #[(.int p1), (.long q2), (.int p3)] maxLocals)) t := by
        intro t k
        refine pre1 _ ?_
        refine XS.ifYes X0.here hx rfl (pc0 := 3) (pc' := 10) rfl (hb hby at_3) rfl ((if0 _ _).trans (feq h1).2) (by decide) (by decide) ?_
        show Steps p.tables e below (s₁.setTop (mkF m 10 #[.val (.int p1), .val (.long q2), .second, .val (.int p3), .unset, .unset, .unset, .unset, .unset, .unset] [])) _
        refine XS.iloadN X0.here hx rfl (hb hby at_10) rfl ?_
        show Steps p.tables e below (s₁.setTop (mkF m 11 #[.val (.int p1), .val (.long q2), .second, .val (.int p3), .unset, .unset, .unset, .unset, .unset, .unset] [(.int p1)])) _
        refine XS.bipush X0.here hx rfl (hb hby at_11) ?_
        show Steps p.tables e below (s₁.setTop (mkF m 13 #[.val (.int p1), .val (.long q2), .second, .val (.int p3), .unset, .unset, .unset, .unset, .unset, .unset] [(.int (127 : Int32)), (.int p1)])) _
        refine XS.iand X0.here hx rfl (hb hby at_13) rfl ?_
        show Steps p.tables e below (s₁.setTop (mkF m 14 #[.val (.int p1), .val (.long q2), .second, .val (.int p3), .unset, .unset, .unset, .unset, .unset, .unset] [(.int (p1 &&& (127 : Int32)))])) _
        refine XS.bipush X0.here hx rfl (hb hby at_14) ?_
        show Steps p.tables e below (s₁.setTop (mkF m 16 #[.val (.int p1), .val (.long q2), .second, .val (.int p3), .unset, .unset, .unset, .unset, .unset, .unset] [(.int (32 : Int32)), (.int (p1 &&& (127 : Int32)))])) _
        refine XS.isub X0.here hx rfl (hb hby at_16) rfl ?_
        show Steps p.tables e below (s₁.setTop (mkF m 17 #[.val (.int p1), .val (.long q2), .second, .val (.int p3), .unset, .unset, .unset, .unset, .unset, .unset] [(.int ((p1 &&& (127 : Int32)) - (32 : Int32)))])) _
        exact k
      exact ⟨_, pre3⟩
  have pre4 : ∀ t, Steps p.tables e below (s₁.setTop (mkF m 20 #[.val (.int p1), .val (.long q2), .second, .val (.int p3), .val (.int pp), .unset, .unset, .unset, .unset, .unset] [(.int (5 : Int32))])) t → Steps p.tables e below (s₁.setTop (entryFrame m #[(.int p1), (.long q2), (.int p3)] maxLocals)) t := by
    intro t k
    refine preP _ ?_
    refine XS.istore X0.here hx rfl (hb hby at_17) rfl (l' := #[.val (.int p1), .val (.long q2), .second, .val (.int p3), .val (.int pp), .unset, .unset, .unset, .unset, .unset]) rfl ?_
    show Steps p.tables e below (s₁.setTop (mkF m 19 #[.val (.int p1), .val (.long q2), .second, .val (.int p3), .val (.int pp), .unset, .unset, .unset, .unset, .unset] [])) _
    refine XS.iconst X0.here hx rfl (hb hby at_19) ?_
    show Steps p.tables e below (s₁.setTop (mkF m 20 #[.val (.int p1), .val (.long q2), .second, .val (.int p3), .val (.int pp), .unset, .unset, .unset, .unset, .unset] [(.int (5 : Int32))])) _
    exact k
  obtain ⟨T5, h5, k5, X5, e5, E5, A5, st5⟩ := newP X0 hx hZ (hw _ (List.mem_of_getElem? (i := 0) rfl)) e0 (g := (mkF m 20 #[.val (.int p1), .val (.long q2), .second, .val (.int p3), .val (.int pp), .unset, .unset, .unset, .unset, .unset] [(.int (5 : Int32))])) rfl (hb hby at_20) rfl (by decide) (cap := 5) (by decide) (by decide) (by decide) (by decide)
  obtain ⟨b5, g5⟩ : ∃ z, z = h0.size := ⟨_, rfl⟩
  rw [← g5] at A5 st5
  have V5 : Arv Z h5 b5 k5 .long (5 : Int32) [(.long (0 : Int64)), (.long (0 : Int64)), (.long (0 : Int64)), (.long (0 : Int64)), (.long (0 : Int64))] (.long (0 : Int64)) := (Arv.new A5 (by decide)).pad (pad_rep [] (.long (0 : Int64)) 5)
  have pre5 : ∀ t, Steps p.tables e below (T5.setTop (mkF m 22 #[.val (.int p1), .val (.long q2), .second, .val (.int p3), .val (.int pp), .unset, .unset, .unset, .unset, .unset] [(.ref b5)])) t → Steps p.tables e below (s₁.setTop (entryFrame m #[(.int p1), (.long q2), (.int p3)] maxLocals)) t := fun t k => pre4 t (st5 t k)
  have gb : n0 ≤ b5 := Nat.le_trans Z0 (Nat.le_of_eq g5.symm)
  have gbh : h0.size ≤ b5 := Nat.le_of_eq g5.symm
  have pre6 : ∀ t, Steps p.tables e below (T5.setTop (mkF m 25 #[.val (.int p1), .val (.long q2), .second, .val (.int p3), .val (.int pp), .unset, .unset, .unset, .unset, .unset] [(.long (0 : Int64)), (.int (0 : Int32)), (.ref b5), (.ref b5)])) t → Steps p.tables e below (s₁.setTop (entryFrame m #[(.int p1), (.long q2), (.int p3)] maxLocals)) t := by
    intro t k
    refine pre5 _ ?_
    refine XS.dup X5.here hx rfl (hb hby at_22) rfl rfl ?_
    show Steps p.tables e below (T5.setTop (mkF m 23 #[.val (.int p1), .val (.long q2), .second, .val (.int p3), .val (.int pp), .unset, .unset, .unset, .unset, .unset] [(.ref b5), (.ref b5)])) _
    refine XS.iconst X5.here hx rfl (hb hby at_23) ?_
    show Steps p.tables e below (T5.setTop (mkF m 24 #[.val (.int p1), .val (.long q2), .second, .val (.int p3), .val (.int pp), .unset, .unset, .unset, .unset, .unset] [(.int (0 : Int32)), (.ref b5), (.ref b5)])) _
    refine XS.lconst X5.here hx rfl (hb hby at_24) ?_
    show Steps p.tables e below (T5.setTop (mkF m 25 #[.val (.int p1), .val (.long q2), .second, .val (.int p3), .val (.int pp), .unset, .unset, .unset, .unset, .unset] [(.long (0 : Int64)), (.int (0 : Int32)), (.ref b5), (.ref b5)])) _
    exact k
  obtain ⟨cl7, Ar7, q7, S7, M7, Ha7, G7⟩ := V5
  have hin7 : ¬ ((0 : Int32) < 0 ∨ cl7.slots.size ≤ ((0 : Int32)).toNatClampNeg) := inb_of S7 ⟨by decide, by decide⟩
  obtain ⟨T7, h7, X7, e7, W7, st7⟩ := stJ X5 hx hZ e5 Ar7 (j := (0 : Int32)) hin7 (g := (mkF m 25 #[.val (.int p1), .val (.long q2), .second, .val (.int p3), .val (.int pp), .unset, .unset, .unset, .unset, .unset] [(.long (0 : Int64)), (.int (0 : Int32)), (.ref b5), (.ref b5)])) rfl rfl (hb hby at_25)
  have V7 := Arv.set Ar7 q7 S7 M7 Ha7 G7 rfl W7 0 rfl (Nat.le_of_ble_eq_true rfl)
  have N7 := Fr.snoc X7 N0 gb
  have pre7 : ∀ t, Steps p.tables e below (T7.setTop (mkF m 26 #[.val (.int p1), .val (.long q2), .second, .val (.int p3), .val (.int pp), .unset, .unset, .unset, .unset, .unset] [(.ref b5)])) t → Steps p.tables e below (s₁.setTop (entryFrame m #[(.int p1), (.long q2), (.int p3)] maxLocals)) t := fun t k => pre6 t (st7 t k)
  have EX7 := own_extw E5 W7 gbh
  have pre8 : ∀ t, Steps p.tables e below (T7.setTop (mkF m 31 #[.val (.int p1), .val (.long q2), .second, .val (.int p3), .val (.int pp), .unset, .unset, .unset, .unset, .unset] [(.long (131072 : Int64)), (.int (1 : Int32)), (.ref b5), (.ref b5)])) t → Steps p.tables e below (s₁.setTop (entryFrame m #[(.int p1), (.long q2), (.int p3)] maxLocals)) t := by
    intro t k
    refine pre7 _ ?_
    refine XS.dup X7.here hx rfl (hb hby at_26) rfl rfl ?_
    show Steps p.tables e below (T7.setTop (mkF m 27 #[.val (.int p1), .val (.long q2), .second, .val (.int p3), .val (.int pp), .unset, .unset, .unset, .unset, .unset] [(.ref b5), (.ref b5)])) _
    refine XS.iconst X7.here hx rfl (hb hby at_27) ?_
    show Steps p.tables e below (T7.setTop (mkF m 28 #[.val (.int p1), .val (.long q2), .second, .val (.int p3), .val (.int pp), .unset, .unset, .unset, .unset, .unset] [(.int (1 : Int32)), (.ref b5), (.ref b5)])) _
    refine X7.ldc2Long hx hown (mvT hZ (hw _ (List.mem_of_getElem? (i := 1) rfl))) (g := (mkF m 28 #[.val (.int p1), .val (.long q2), .second, .val (.int p3), .val (.int pp), .unset, .unset, .unset, .unset, .unset] [(.int (1 : Int32)), (.ref b5), (.ref b5)])) rfl (hb hby at_28) _ ?_
    show Steps p.tables e below (T7.setTop (mkF m 31 #[.val (.int p1), .val (.long q2), .second, .val (.int p3), .val (.int pp), .unset, .unset, .unset, .unset, .unset] [(.long (131072 : Int64)), (.int (1 : Int32)), (.ref b5), (.ref b5)])) _
    exact k
  obtain ⟨cl9, Ar9, q9, S9, M9, Ha9, G9⟩ := V7
  have hin9 : ¬ ((1 : Int32) < 0 ∨ cl9.slots.size ≤ ((1 : Int32)).toNatClampNeg) := inb_of S9 ⟨by decide, by decide⟩
  obtain ⟨T9, h9, X9, e9, W9, st9⟩ := stJ X7 hx hZ e7 Ar9 (j := (1 : Int32)) hin9 (g := (mkF m 31 #[.val (.int p1), .val (.long q2), .second, .val (.int p3), .val (.int pp), .unset, .unset, .unset, .unset, .unset] [(.long (131072 : Int64)), (.int (1 : Int32)), (.ref b5), (.ref b5)])) rfl rfl (hb hby at_31)
  have V9 := Arv.set Ar9 q9 S9 M9 Ha9 G9 rfl W9 1 rfl (Nat.le_of_ble_eq_true rfl)
  have N9 := Fr.snoc X9 N7 gb
  have pre9 : ∀ t, Steps p.tables e below (T9.setTop (mkF m 32 #[.val (.int p1), .val (.long q2), .second, .val (.int p3), .val (.int pp), .unset, .unset, .unset, .unset, .unset] [(.ref b5)])) t → Steps p.tables e below (s₁.setTop (entryFrame m #[(.int p1), (.long q2), (.int p3)] maxLocals)) t := fun t k => pre8 t (st9 t k)
  have EX9 := own_extw EX7 W9 gbh
  have pre10 : ∀ t, Steps p.tables e below (T9.setTop (mkF m 37 #[.val (.int p1), .val (.long q2), .second, .val (.int p3), .val (.int pp), .unset, .unset, .unset, .unset, .unset] [(.long (1048576 : Int64)), (.int (2 : Int32)), (.ref b5), (.ref b5)])) t → Steps p.tables e below (s₁.setTop (entryFrame m #[(.int p1), (.long q2), (.int p3)] maxLocals)) t := by
    intro t k
    refine pre9 _ ?_
    refine XS.dup X9.here hx rfl (hb hby at_32) rfl rfl ?_
    show Steps p.tables e below (T9.setTop (mkF m 33 #[.val (.int p1), .val (.long q2), .second, .val (.int p3), .val (.int pp), .unset, .unset, .unset, .unset, .unset] [(.ref b5), (.ref b5)])) _
    refine XS.iconst X9.here hx rfl (hb hby at_33) ?_
    show Steps p.tables e below (T9.setTop (mkF m 34 #[.val (.int p1), .val (.long q2), .second, .val (.int p3), .val (.int pp), .unset, .unset, .unset, .unset, .unset] [(.int (2 : Int32)), (.ref b5), (.ref b5)])) _
    refine X9.ldc2Long hx hown (mvT hZ (hw _ (List.mem_of_getElem? (i := 2) rfl))) (g := (mkF m 34 #[.val (.int p1), .val (.long q2), .second, .val (.int p3), .val (.int pp), .unset, .unset, .unset, .unset, .unset] [(.int (2 : Int32)), (.ref b5), (.ref b5)])) rfl (hb hby at_34) _ ?_
    show Steps p.tables e below (T9.setTop (mkF m 37 #[.val (.int p1), .val (.long q2), .second, .val (.int p3), .val (.int pp), .unset, .unset, .unset, .unset, .unset] [(.long (1048576 : Int64)), (.int (2 : Int32)), (.ref b5), (.ref b5)])) _
    exact k
  obtain ⟨cl11, Ar11, q11, S11, M11, Ha11, G11⟩ := V9
  have hin11 : ¬ ((2 : Int32) < 0 ∨ cl11.slots.size ≤ ((2 : Int32)).toNatClampNeg) := inb_of S11 ⟨by decide, by decide⟩
  obtain ⟨T11, h11, X11, e11, W11, st11⟩ := stJ X9 hx hZ e9 Ar11 (j := (2 : Int32)) hin11 (g := (mkF m 37 #[.val (.int p1), .val (.long q2), .second, .val (.int p3), .val (.int pp), .unset, .unset, .unset, .unset, .unset] [(.long (1048576 : Int64)), (.int (2 : Int32)), (.ref b5), (.ref b5)])) rfl rfl (hb hby at_37)
  have V11 := Arv.set Ar11 q11 S11 M11 Ha11 G11 rfl W11 2 rfl (Nat.le_of_ble_eq_true rfl)
  have N11 := Fr.snoc X11 N9 gb
  have pre11 : ∀ t, Steps p.tables e below (T11.setTop (mkF m 38 #[.val (.int p1), .val (.long q2), .second, .val (.int p3), .val (.int pp), .unset, .unset, .unset, .unset, .unset] [(.ref b5)])) t → Steps p.tables e below (s₁.setTop (entryFrame m #[(.int p1), (.long q2), (.int p3)] maxLocals)) t := fun t k => pre10 t (st11 t k)
  have EX11 := own_extw EX9 W11 gbh
  have pre12 : ∀ t, Steps p.tables e below (T11.setTop (mkF m 43 #[.val (.int p1), .val (.long q2), .second, .val (.int p3), .val (.int pp), .unset, .unset, .unset, .unset, .unset] [(.long (8388608 : Int64)), (.int (3 : Int32)), (.ref b5), (.ref b5)])) t → Steps p.tables e below (s₁.setTop (entryFrame m #[(.int p1), (.long q2), (.int p3)] maxLocals)) t := by
    intro t k
    refine pre11 _ ?_
    refine XS.dup X11.here hx rfl (hb hby at_38) rfl rfl ?_
    show Steps p.tables e below (T11.setTop (mkF m 39 #[.val (.int p1), .val (.long q2), .second, .val (.int p3), .val (.int pp), .unset, .unset, .unset, .unset, .unset] [(.ref b5), (.ref b5)])) _
    refine XS.iconst X11.here hx rfl (hb hby at_39) ?_
    show Steps p.tables e below (T11.setTop (mkF m 40 #[.val (.int p1), .val (.long q2), .second, .val (.int p3), .val (.int pp), .unset, .unset, .unset, .unset, .unset] [(.int (3 : Int32)), (.ref b5), (.ref b5)])) _
    refine X11.ldc2Long hx hown (mvT hZ (hw _ (List.mem_of_getElem? (i := 3) rfl))) (g := (mkF m 40 #[.val (.int p1), .val (.long q2), .second, .val (.int p3), .val (.int pp), .unset, .unset, .unset, .unset, .unset] [(.int (3 : Int32)), (.ref b5), (.ref b5)])) rfl (hb hby at_40) _ ?_
    show Steps p.tables e below (T11.setTop (mkF m 43 #[.val (.int p1), .val (.long q2), .second, .val (.int p3), .val (.int pp), .unset, .unset, .unset, .unset, .unset] [(.long (8388608 : Int64)), (.int (3 : Int32)), (.ref b5), (.ref b5)])) _
    exact k
  obtain ⟨cl13, Ar13, q13, S13, M13, Ha13, G13⟩ := V11
  have hin13 : ¬ ((3 : Int32) < 0 ∨ cl13.slots.size ≤ ((3 : Int32)).toNatClampNeg) := inb_of S13 ⟨by decide, by decide⟩
  obtain ⟨T13, h13, X13, e13, W13, st13⟩ := stJ X11 hx hZ e11 Ar13 (j := (3 : Int32)) hin13 (g := (mkF m 43 #[.val (.int p1), .val (.long q2), .second, .val (.int p3), .val (.int pp), .unset, .unset, .unset, .unset, .unset] [(.long (8388608 : Int64)), (.int (3 : Int32)), (.ref b5), (.ref b5)])) rfl rfl (hb hby at_43)
  have V13 := Arv.set Ar13 q13 S13 M13 Ha13 G13 rfl W13 3 rfl (Nat.le_of_ble_eq_true rfl)
  have N13 := Fr.snoc X13 N11 gb
  have pre13 : ∀ t, Steps p.tables e below (T13.setTop (mkF m 44 #[.val (.int p1), .val (.long q2), .second, .val (.int p3), .val (.int pp), .unset, .unset, .unset, .unset, .unset] [(.ref b5)])) t → Steps p.tables e below (s₁.setTop (entryFrame m #[(.int p1), (.long q2), (.int p3)] maxLocals)) t := fun t k => pre12 t (st13 t k)
  have EX13 := own_extw EX11 W13 gbh
  have pre14 : ∀ t, Steps p.tables e below (T13.setTop (mkF m 49 #[.val (.int p1), .val (.long q2), .second, .val (.int p3), .val (.int pp), .unset, .unset, .unset, .unset, .unset] [(.long (16777216 : Int64)), (.int (4 : Int32)), (.ref b5), (.ref b5)])) t → Steps p.tables e below (s₁.setTop (entryFrame m #[(.int p1), (.long q2), (.int p3)] maxLocals)) t := by
    intro t k
    refine pre13 _ ?_
    refine XS.dup X13.here hx rfl (hb hby at_44) rfl rfl ?_
    show Steps p.tables e below (T13.setTop (mkF m 45 #[.val (.int p1), .val (.long q2), .second, .val (.int p3), .val (.int pp), .unset, .unset, .unset, .unset, .unset] [(.ref b5), (.ref b5)])) _
    refine XS.iconst X13.here hx rfl (hb hby at_45) ?_
    show Steps p.tables e below (T13.setTop (mkF m 46 #[.val (.int p1), .val (.long q2), .second, .val (.int p3), .val (.int pp), .unset, .unset, .unset, .unset, .unset] [(.int (4 : Int32)), (.ref b5), (.ref b5)])) _
    refine X13.ldc2Long hx hown (mvT hZ (hw _ (List.mem_of_getElem? (i := 4) rfl))) (g := (mkF m 46 #[.val (.int p1), .val (.long q2), .second, .val (.int p3), .val (.int pp), .unset, .unset, .unset, .unset, .unset] [(.int (4 : Int32)), (.ref b5), (.ref b5)])) rfl (hb hby at_46) _ ?_
    show Steps p.tables e below (T13.setTop (mkF m 49 #[.val (.int p1), .val (.long q2), .second, .val (.int p3), .val (.int pp), .unset, .unset, .unset, .unset, .unset] [(.long (16777216 : Int64)), (.int (4 : Int32)), (.ref b5), (.ref b5)])) _
    exact k
  obtain ⟨cl15, Ar15, q15, S15, M15, Ha15, G15⟩ := V13
  have hin15 : ¬ ((4 : Int32) < 0 ∨ cl15.slots.size ≤ ((4 : Int32)).toNatClampNeg) := inb_of S15 ⟨by decide, by decide⟩
  obtain ⟨T15, h15, X15, e15, W15, st15⟩ := stJ X13 hx hZ e13 Ar15 (j := (4 : Int32)) hin15 (g := (mkF m 49 #[.val (.int p1), .val (.long q2), .second, .val (.int p3), .val (.int pp), .unset, .unset, .unset, .unset, .unset] [(.long (16777216 : Int64)), (.int (4 : Int32)), (.ref b5), (.ref b5)])) rfl rfl (hb hby at_49)
  have V15 := Arv.set Ar15 q15 S15 M15 Ha15 G15 rfl W15 4 rfl (Nat.le_of_ble_eq_true rfl)
  have N15 := Fr.snoc X15 N13 gb
  have pre15 : ∀ t, Steps p.tables e below (T15.setTop (mkF m 50 #[.val (.int p1), .val (.long q2), .second, .val (.int p3), .val (.int pp), .unset, .unset, .unset, .unset, .unset] [(.ref b5)])) t → Steps p.tables e below (s₁.setTop (entryFrame m #[(.int p1), (.long q2), (.int p3)] maxLocals)) t := fun t k => pre14 t (st15 t k)
  have EX15 := own_extw EX13 W15 gbh
  have VE : Arv Z h15 b5 k5 .long (5 : Int32) own_bases (.long (0 : Int64)) := V15
  have pre16 : ∀ t, Steps p.tables e below (T15.setTop (mkF m 55 #[.val (.int p1), .val (.long q2), .second, .val (.int p3), .val (.int pp), .val (.ref b5), .unset, .unset, .unset, .unset] [(.int (p3 &&& (2 : Int32)))])) t → Steps p.tables e below (s₁.setTop (entryFrame m #[(.int p1), (.long q2), (.int p3)] maxLocals)) t := by
    intro t k
    refine pre15 _ ?_
    refine XS.astore X15.here hx rfl (hb hby at_50) rfl rfl (l' := #[.val (.int p1), .val (.long q2), .second, .val (.int p3), .val (.int pp), .val (.ref b5), .unset, .unset, .unset, .unset]) rfl ?_
    show Steps p.tables e below (T15.setTop (mkF m 52 #[.val (.int p1), .val (.long q2), .second, .val (.int p3), .val (.int pp), .val (.ref b5), .unset, .unset, .unset, .unset] [])) _
    refine XS.iloadN X15.here hx rfl (hb hby at_52) rfl ?_
    show Steps p.tables e below (T15.setTop (mkF m 53 #[.val (.int p1), .val (.long q2), .second, .val (.int p3), .val (.int pp), .val (.ref b5), .unset, .unset, .unset, .unset] [(.int p3)])) _
    refine XS.iconst X15.here hx rfl (hb hby at_53) ?_
    show Steps p.tables e below (T15.setTop (mkF m 54 #[.val (.int p1), .val (.long q2), .second, .val (.int p3), .val (.int pp), .val (.ref b5), .unset, .unset, .unset, .unset] [(.int (2 : Int32)), (.int p3)])) _
    refine XS.iand X15.here hx rfl (hb hby at_54) rfl ?_
    show Steps p.tables e below (T15.setTop (mkF m 55 #[.val (.int p1), .val (.long q2), .second, .val (.int p3), .val (.int pp), .val (.ref b5), .unset, .unset, .unset, .unset] [(.int (p3 &&& (2 : Int32)))])) _
    exact k
  by_cases h1 : (p3 &&& (2 : Int32)) = (0 : Int32)
  · have pre17 : ∀ t, Steps p.tables e below (T15.setTop (mkF m 93 #[.val (.int p1), .val (.long q2), .second, .val (.int p3), .val (.int pp), .val (.ref b5), .val (.long q2), .second, .unset, .unset] [(.long q2), (.int pp)])) t → Steps p.tables e below (s₁.setTop (entryFrame m #[(.int p1), (.long q2), (.int p3)] maxLocals)) t := by
      intro t k
      refine pre16 _ ?_
      refine XS.ifNo X15.here hx rfl (hb hby at_55) rfl ((if0 _ _).trans (teq h1).2) ?_
      show Steps p.tables e below (T15.setTop (mkF m 58 #[.val (.int p1), .val (.long q2), .second, .val (.int p3), .val (.int pp), .val (.ref b5), .unset, .unset, .unset, .unset] [])) _
      refine XS.lloadN X15.here hx rfl (hb hby at_58) rfl ?_
      show Steps p.tables e below (T15.setTop (mkF m 59 #[.val (.int p1), .val (.long q2), .second, .val (.int p3), .val (.int pp), .val (.ref b5), .unset, .unset, .unset, .unset] [(.long q2)])) _
      refine XS.lstore X15.here hx rfl (hb hby at_59) rfl (l' := #[.val (.int p1), .val (.long q2), .second, .val (.int p3), .val (.int pp), .val (.ref b5), .val (.long q2), .second, .unset, .unset]) rfl ?_
      show Steps p.tables e below (T15.setTop (mkF m 61 #[.val (.int p1), .val (.long q2), .second, .val (.int p3), .val (.int pp), .val (.ref b5), .val (.long q2), .second, .unset, .unset] [])) _
      refine XS.goto X15.here hx rfl (pc0 := 61) (pc' := 89) rfl (hb hby at_61) (by decide) (by decide) ?_
      show Steps p.tables e below (T15.setTop (mkF m 89 #[.val (.int p1), .val (.long q2), .second, .val (.int p3), .val (.int pp), .val (.ref b5), .val (.long q2), .second, .unset, .unset] [])) _
      refine XS.iload X15.here hx rfl (hb hby at_89) rfl ?_
      show Steps p.tables e below (T15.setTop (mkF m 91 #[.val (.int p1), .val (.long q2), .second, .val (.int p3), .val (.int pp), .val (.ref b5), .val (.long q2), .second, .unset, .unset] [(.int pp)])) _
      refine XS.lload X15.here hx rfl (hb hby at_91) rfl ?_
      show Steps p.tables e below (T15.setTop (mkF m 93 #[.val (.int p1), .val (.long q2), .second, .val (.int p3), .val (.int pp), .val (.ref b5), .val (.long q2), .second, .unset, .unset] [(.long q2), (.int pp)])) _
      exact k
    obtain ⟨_, _, ⟨T18, L18, k18, n18⟩, -, X18, ⟨Lc18, hQ18, l18, y18, z18⟩, st18⟩ := Jvm.LawKit.callS X15 hx (y := (⟨"com/example/jobwright/jobwright/workload/RequestClassOfPinLaw", "expected", "(IJ)Lcom/example/jobwright/jobwright/workload/O2kJobs$RequestClass;"⟩ : MethodName)) hown (mvT hZ (hw _ (List.mem_of_getElem? (i := 5) rfl))) (mvT hZ (hw _ (List.mem_of_getElem? (i := 6) rfl))) (mvT hZ (hw _ (List.mem_of_getElem? (i := 7) rfl))) (mvT hZ (hw _ (List.mem_of_getElem? (i := 8) rfl))) (by decide) (backOf (W := 0) (rm1 l Z a0 hw [] pp q2 ad h15 n0 (Nat.le_trans Z0 EX15.1) (fun k hk => (hS k hk).ext EX15) (fun k hk => (hE k hk).ext EX15)) hZ (hw _ (List.mem_of_getElem? (i := 8) rfl)) (hw _ (List.mem_of_getElem? (i := 7) rfl)) (by decide) (by decide)) (g := (mkF m 93 #[.val (.int p1), .val (.long q2), .second, .val (.int p3), .val (.int pp), .val (.ref b5), .val (.long q2), .second, .unset, .unset] [(.long q2), (.int pp)])) rfl (by rw [hml]; rfl) (argsL := [(.int pp), (.long q2)]) (rest := []) (lenOf own_pd0 rfl) rfl (by show 2 * 0 + _ ≤ _; exact Nat.le_of_eq rfl) (hb hby at_93) (fun _ _ => ⟨rfl, e15, (by decide : 1 + 1 ≤ _), (by decide : 5 + 24 ≤ _)⟩)
    dsimp only [Pt.U, Pt.locs, Pt.cells, Pt.slots] at X18 l18 y18 z18 st18 hQ18
    subst l18 y18 z18
    obtain ⟨rfl, Nq18, EXc⟩ := hQ18
    have N18 := Fr.app N15 Nq18
    have pre18 : ∀ t, Steps p.tables e below (T18.setTop (mkF m 96 #[.val (.int p1), .val (.long q2), .second, .val (.int p3), .val (.int pp), .val (.ref b5), .val (.long q2), .second, .unset, .unset] [(.ref (ad (own_cls pp q2)))])) t → Steps p.tables e below (s₁.setTop (entryFrame m #[(.int p1), (.long q2), (.int p3)] maxLocals)) t := fun t k => pre17 t (st18 t k)
    have EXd := own_extt EX15 EXc
    have pre19 : ∀ t, Steps p.tables e below (T18.setTop (mkF m 102 #[.val (.int p1), .val (.long q2), .second, .val (.int p3), .val (.int pp), .val (.ref b5), .val (.long q2), .second, .val (.ref (ad (own_cls pp q2))), .unset] [(.long q2), (.int pp)])) t → Steps p.tables e below (s₁.setTop (entryFrame m #[(.int p1), (.long q2), (.int p3)] maxLocals)) t := by
      intro t k
      refine pre18 _ ?_
      refine XS.astore X18.here hx rfl (hb hby at_96) rfl rfl (l' := #[.val (.int p1), .val (.long q2), .second, .val (.int p3), .val (.int pp), .val (.ref b5), .val (.long q2), .second, .val (.ref (ad (own_cls pp q2))), .unset]) rfl ?_
      show Steps p.tables e below (T18.setTop (mkF m 98 #[.val (.int p1), .val (.long q2), .second, .val (.int p3), .val (.int pp), .val (.ref b5), .val (.long q2), .second, .val (.ref (ad (own_cls pp q2))), .unset] [])) _
      refine XS.iload X18.here hx rfl (hb hby at_98) rfl ?_
      show Steps p.tables e below (T18.setTop (mkF m 100 #[.val (.int p1), .val (.long q2), .second, .val (.int p3), .val (.int pp), .val (.ref b5), .val (.long q2), .second, .val (.ref (ad (own_cls pp q2))), .unset] [(.int pp)])) _
      refine XS.lload X18.here hx rfl (hb hby at_100) rfl ?_
      show Steps p.tables e below (T18.setTop (mkF m 102 #[.val (.int p1), .val (.long q2), .second, .val (.int p3), .val (.int pp), .val (.ref b5), .val (.long q2), .second, .val (.ref (ad (own_cls pp q2))), .unset] [(.long q2), (.int pp)])) _
      exact k
    obtain ⟨_, _, ⟨T20, L20, k20, n20⟩, -, X20, ⟨Lc20, hQ20, l20, y20, z20⟩, st20⟩ := Jvm.LawKit.callS X18 hx (y := (⟨"com/example/jobwright/jobwright/workload/O2kJobs$RequestClass", "of", "(IJ)Lcom/example/jobwright/jobwright/workload/O2kJobs$RequestClass;"⟩ : MethodName)) hown (mvT hZ (hw _ (List.mem_of_getElem? (i := 21) rfl))) (mvT hZ (hw _ (List.mem_of_getElem? (i := 22) rfl))) (mvT hZ (hw _ (List.mem_of_getElem? (i := 10) rfl))) (mvT hZ (hw _ (List.mem_of_getElem? (i := 23) rfl))) (by decide) (backOf (W := 0) (rm2 l Z a0 hw [] pp q2 ad T18.heap n0 (Nat.le_trans Z0 EXd.1) (fun k hk => (hS k hk).ext EXd)) hZ (hw _ (List.mem_of_getElem? (i := 23) rfl)) (hw _ (List.mem_of_getElem? (i := 10) rfl)) (by decide) (by decide)) (g := (mkF m 102 #[.val (.int p1), .val (.long q2), .second, .val (.int p3), .val (.int pp), .val (.ref b5), .val (.long q2), .second, .val (.ref (ad (own_cls pp q2))), .unset] [(.long q2), (.int pp)])) rfl (by rw [hml]; rfl) (argsL := [(.int pp), (.long q2)]) (rest := []) (lenOf own_pd0 rfl) rfl (by show 2 * 0 + _ ≤ _; exact Nat.le_of_eq rfl) (hb hby at_102) (fun _ _ => ⟨rfl, rfl, (by decide : 2 + 0 ≤ _), (by decide : 29 + 0 ≤ _)⟩)
    dsimp only [Pt.U, Pt.locs, Pt.cells, Pt.slots] at X20 l20 y20 z20 st20 hQ20
    subst l20 y20 z20
    obtain ⟨rfl, Nq20, eh2⟩ := hQ20
    have N20 := Fr.app N18 Nq20
    have pre20 : ∀ t, Steps p.tables e below (T20.setTop (mkF m 105 #[.val (.int p1), .val (.long q2), .second, .val (.int p3), .val (.int pp), .val (.ref b5), .val (.long q2), .second, .val (.ref (ad (own_cls pp q2))), .unset] [(.ref (ad (own_cls pp q2)))])) t → Steps p.tables e below (s₁.setTop (entryFrame m #[(.int p1), (.long q2), (.int p3)] maxLocals)) t := fun t k => pre19 t (st20 t k)
    have pre21 : ∀ t, Steps p.tables e below (T20.setTop (mkF m 119 #[.val (.int p1), .val (.long q2), .second, .val (.int p3), .val (.int pp), .val (.ref b5), .val (.long q2), .second, .val (.ref (ad (own_cls pp q2))), .val (.ref (ad (own_cls pp q2)))] [(.int (1 : Int32))])) t → Steps p.tables e below (s₁.setTop (entryFrame m #[(.int p1), (.long q2), (.int p3)] maxLocals)) t := by
      intro t k
      refine pre20 _ ?_
      refine XS.astore X20.here hx rfl (hb hby at_105) rfl rfl (l' := #[.val (.int p1), .val (.long q2), .second, .val (.int p3), .val (.int pp), .val (.ref b5), .val (.long q2), .second, .val (.ref (ad (own_cls pp q2))), .val (.ref (ad (own_cls pp q2)))]) rfl ?_
      show Steps p.tables e below (T20.setTop (mkF m 107 #[.val (.int p1), .val (.long q2), .second, .val (.int p3), .val (.int pp), .val (.ref b5), .val (.long q2), .second, .val (.ref (ad (own_cls pp q2))), .val (.ref (ad (own_cls pp q2)))] [])) _
      refine XS.aload X20.here hx rfl (hb hby at_107) rfl rfl ?_
      show Steps p.tables e below (T20.setTop (mkF m 109 #[.val (.int p1), .val (.long q2), .second, .val (.int p3), .val (.int pp), .val (.ref b5), .val (.long q2), .second, .val (.ref (ad (own_cls pp q2))), .val (.ref (ad (own_cls pp q2)))] [(.ref (ad (own_cls pp q2)))])) _
      refine XS.aload X20.here hx rfl (hb hby at_109) rfl rfl ?_
      show Steps p.tables e below (T20.setTop (mkF m 111 #[.val (.int p1), .val (.long q2), .second, .val (.int p3), .val (.int pp), .val (.ref b5), .val (.long q2), .second, .val (.ref (ad (own_cls pp q2))), .val (.ref (ad (own_cls pp q2)))] [(.ref (ad (own_cls pp q2))), (.ref (ad (own_cls pp q2)))])) _
      refine Jvm.RoadKit.acmp (g := (mkF m 111 #[.val (.int p1), .val (.long q2), .second, .val (.int p3), .val (.int pp), .val (.ref b5), .val (.long q2), .second, .val (.ref (ad (own_cls pp q2))), .val (.ref (ad (own_cls pp q2)))] [(.ref (ad (own_cls pp q2))), (.ref (ad (own_cls pp q2)))])) X20 hx rfl rfl rfl (pc0 := 111) (pc' := 114) (same := true) rfl (hb hby at_111) rfl (decide_eq_true rfl) (by decide) (by decide) ?_
      show Steps p.tables e below (T20.setTop (mkF m 114 #[.val (.int p1), .val (.long q2), .second, .val (.int p3), .val (.int pp), .val (.ref b5), .val (.long q2), .second, .val (.ref (ad (own_cls pp q2))), .val (.ref (ad (own_cls pp q2)))] [])) _
      refine XS.iconst X20.here hx rfl (hb hby at_114) ?_
      show Steps p.tables e below (T20.setTop (mkF m 115 #[.val (.int p1), .val (.long q2), .second, .val (.int p3), .val (.int pp), .val (.ref b5), .val (.long q2), .second, .val (.ref (ad (own_cls pp q2))), .val (.ref (ad (own_cls pp q2)))] [(.int (1 : Int32))])) _
      refine XS.goto X20.here hx rfl (pc0 := 115) (pc' := 119) rfl (hb hby at_115) (by decide) (by decide) ?_
      show Steps p.tables e below (T20.setTop (mkF m 119 #[.val (.int p1), .val (.long q2), .second, .val (.int p3), .val (.int pp), .val (.ref b5), .val (.long q2), .second, .val (.ref (ad (own_cls pp q2))), .val (.ref (ad (own_cls pp q2)))] [(.int (1 : Int32))])) _
      exact k
    obtain ⟨fs, hr, hrun, hended, hW, hsame⟩ := X20.leave (v := some (.int (1 : Int32))) (fun h => by rw [Bd.returns] at h; cases h)
    refine ⟨_, _, pre21 _ ?_, hrun, hended, _, _, rfl, ?_, ⟨_, rfl⟩, hW, hsame.mono (by decide) (by decide)⟩
    · exact retN X20 hx (t := .boolean) Bd.returns (by simp) (hb hby at_119) hr
    · show ((_ : Option Value) = some (.int 1) ∧ Fr n0 _)
      exact ⟨rfl, N20⟩
  · have pre22 : ∀ t, Steps p.tables e below (T15.setTop (mkF m 78 #[.val (.int p1), .val (.long q2), .second, .val (.int p3), .val (.int pp), .val (.ref b5), .unset, .unset, .val (.int ((((p3.toUInt32 >>> ((2 : Int32) &&& 31).toUInt32).toInt32) &&& (7 : Int32)) % (5 : Int32))), .unset] [(.int ((((p3.toUInt32 >>> ((2 : Int32) &&& 31).toUInt32).toInt32) &&& (7 : Int32)) % (5 : Int32))), (.ref b5)])) t → Steps p.tables e below (s₁.setTop (entryFrame m #[(.int p1), (.long q2), (.int p3)] maxLocals)) t := by
      intro t k
      refine pre16 _ ?_
      refine XS.ifYes X15.here hx rfl (pc0 := 55) (pc' := 64) rfl (hb hby at_55) rfl ((if0 _ _).trans (feq h1).2) (by decide) (by decide) ?_
      show Steps p.tables e below (T15.setTop (mkF m 64 #[.val (.int p1), .val (.long q2), .second, .val (.int p3), .val (.int pp), .val (.ref b5), .unset, .unset, .unset, .unset] [])) _
      refine XS.iloadN X15.here hx rfl (hb hby at_64) rfl ?_
      show Steps p.tables e below (T15.setTop (mkF m 65 #[.val (.int p1), .val (.long q2), .second, .val (.int p3), .val (.int pp), .val (.ref b5), .unset, .unset, .unset, .unset] [(.int p3)])) _
      refine XS.iconst X15.here hx rfl (hb hby at_65) ?_
      show Steps p.tables e below (T15.setTop (mkF m 66 #[.val (.int p1), .val (.long q2), .second, .val (.int p3), .val (.int pp), .val (.ref b5), .unset, .unset, .unset, .unset] [(.int (2 : Int32)), (.int p3)])) _
      refine XS.iushr X15.here hx rfl (hb hby at_66) rfl ?_
      show Steps p.tables e below (T15.setTop (mkF m 67 #[.val (.int p1), .val (.long q2), .second, .val (.int p3), .val (.int pp), .val (.ref b5), .unset, .unset, .unset, .unset] [(.int ((p3.toUInt32 >>> ((2 : Int32) &&& 31).toUInt32).toInt32))])) _
      refine XS.bipush X15.here hx rfl (hb hby at_67) ?_
      show Steps p.tables e below (T15.setTop (mkF m 69 #[.val (.int p1), .val (.long q2), .second, .val (.int p3), .val (.int pp), .val (.ref b5), .unset, .unset, .unset, .unset] [(.int (7 : Int32)), (.int ((p3.toUInt32 >>> ((2 : Int32) &&& 31).toUInt32).toInt32))])) _
      refine XS.iand X15.here hx rfl (hb hby at_69) rfl ?_
      show Steps p.tables e below (T15.setTop (mkF m 70 #[.val (.int p1), .val (.long q2), .second, .val (.int p3), .val (.int pp), .val (.ref b5), .unset, .unset, .unset, .unset] [(.int (((p3.toUInt32 >>> ((2 : Int32) &&& 31).toUInt32).toInt32) &&& (7 : Int32)))])) _
      refine XS.iconst X15.here hx rfl (hb hby at_70) ?_
      show Steps p.tables e below (T15.setTop (mkF m 71 #[.val (.int p1), .val (.long q2), .second, .val (.int p3), .val (.int pp), .val (.ref b5), .unset, .unset, .unset, .unset] [(.int (5 : Int32)), (.int (((p3.toUInt32 >>> ((2 : Int32) &&& 31).toUInt32).toInt32) &&& (7 : Int32)))])) _
      refine iremM (g := (mkF m 71 #[.val (.int p1), .val (.long q2), .second, .val (.int p3), .val (.int pp), .val (.ref b5), .unset, .unset, .unset, .unset] [(.int (5 : Int32)), (.int (((p3.toUInt32 >>> ((2 : Int32) &&& 31).toUInt32).toInt32) &&& (7 : Int32)))])) X15 hx rfl (hb hby at_71) rfl (by decide) ?_
      show Steps p.tables e below (T15.setTop (mkF m 72 #[.val (.int p1), .val (.long q2), .second, .val (.int p3), .val (.int pp), .val (.ref b5), .unset, .unset, .unset, .unset] [(.int ((((p3.toUInt32 >>> ((2 : Int32) &&& 31).toUInt32).toInt32) &&& (7 : Int32)) % (5 : Int32)))])) _
      refine XS.istore X15.here hx rfl (hb hby at_72) rfl (l' := #[.val (.int p1), .val (.long q2), .second, .val (.int p3), .val (.int pp), .val (.ref b5), .unset, .unset, .val (.int ((((p3.toUInt32 >>> ((2 : Int32) &&& 31).toUInt32).toInt32) &&& (7 : Int32)) % (5 : Int32))), .unset]) rfl ?_
      show Steps p.tables e below (T15.setTop (mkF m 74 #[.val (.int p1), .val (.long q2), .second, .val (.int p3), .val (.int pp), .val (.ref b5), .unset, .unset, .val (.int ((((p3.toUInt32 >>> ((2 : Int32) &&& 31).toUInt32).toInt32) &&& (7 : Int32)) % (5 : Int32))), .unset] [])) _
      refine XS.aload X15.here hx rfl (hb hby at_74) rfl rfl ?_
      show Steps p.tables e below (T15.setTop (mkF m 76 #[.val (.int p1), .val (.long q2), .second, .val (.int p3), .val (.int pp), .val (.ref b5), .unset, .unset, .val (.int ((((p3.toUInt32 >>> ((2 : Int32) &&& 31).toUInt32).toInt32) &&& (7 : Int32)) % (5 : Int32))), .unset] [(.ref b5)])) _
      refine XS.iload X15.here hx rfl (hb hby at_76) rfl ?_
      show Steps p.tables e below (T15.setTop (mkF m 78 #[.val (.int p1), .val (.long q2), .second, .val (.int p3), .val (.int pp), .val (.ref b5), .unset, .unset, .val (.int ((((p3.toUInt32 >>> ((2 : Int32) &&& 31).toUInt32).toInt32) &&& (7 : Int32)) % (5 : Int32))), .unset] [(.int ((((p3.toUInt32 >>> ((2 : Int32) &&& 31).toUInt32).toInt32) &&& (7 : Int32)) % (5 : Int32))), (.ref b5)])) _
      exact k
    obtain ⟨cl, Ar, -, Sz, Mz, Ha, -⟩ := VE
    obtain ⟨sl, hsl⟩ : ∃ z, z = ((((p3.toUInt32 >>> ((2 : Int32) &&& 31).toUInt32).toInt32) &&& (7 : Int32)) % (5 : Int32)) := ⟨_, rfl⟩
    have hs := own_sel ((p3.toUInt32 >>> ((2 : Int32) &&& 31).toUInt32).toInt32)
    rw [← hsl] at hs pre22
    have hin : ¬ (sl < 0 ∨ cl.slots.size ≤ sl.toNatClampNeg) := inb_of Sz ⟨fun q => by have := own_lt.mp q; have e0 : (0 : Int32).toInt = 0 := rfl; omega, own_lt.mpr (by have e0 : (5 : Int32).toInt = 5 := rfl; omega)⟩
    obtain ⟨bv, ebv⟩ := own_base sl.toNatClampNeg (by simp only [Int32.toNatClampNeg]; omega)
    have hat : cl.slots[sl.toNatClampNeg]? = some (.long bv) := by rw [← ebv]; exact Ha _ (Nat.lt_of_not_le fun q => hin (Or.inr q))
    have pre23 : ∀ t, Steps p.tables e below (T15.setTop (mkF m 93 #[.val (.int p1), .val (.long q2), .second, .val (.int p3), .val (.int pp), .val (.ref b5), .val (.long (bv + ((q2 &&& (3 : Int64)) - (1 : Int64)))), .second, .val (.int sl), .unset] [(.long (bv + ((q2 &&& (3 : Int64)) - (1 : Int64)))), (.int pp)])) t → Steps p.tables e below (s₁.setTop (entryFrame m #[(.int p1), (.long q2), (.int p3)] maxLocals)) t := by
      intro t k
      refine pre22 _ ?_
      refine X15.laload hx (j := sl) (v := (.long bv)) (by rw [e15]; exact Ar.1) (State.isArrayOf_alike hZ.alike Ar.2.1) Ar.2.2 hin hat (g := (mkF m 78 #[.val (.int p1), .val (.long q2), .second, .val (.int p3), .val (.int pp), .val (.ref b5), .unset, .unset, .val (.int sl), .unset] [(.int sl), (.ref b5)])) rfl rfl (hb hby at_78) _ ?_
      show Steps p.tables e below (T15.setTop (mkF m 79 #[.val (.int p1), .val (.long q2), .second, .val (.int p3), .val (.int pp), .val (.ref b5), .unset, .unset, .val (.int sl), .unset] [(.long bv)])) _
      refine XS.lloadN X15.here hx rfl (hb hby at_79) rfl ?_
      show Steps p.tables e below (T15.setTop (mkF m 80 #[.val (.int p1), .val (.long q2), .second, .val (.int p3), .val (.int pp), .val (.ref b5), .unset, .unset, .val (.int sl), .unset] [(.long q2), (.long bv)])) _
      refine X15.ldc2Long hx hown (mvT hZ (hw _ (List.mem_of_getElem? (i := 26) rfl))) (g := (mkF m 80 #[.val (.int p1), .val (.long q2), .second, .val (.int p3), .val (.int pp), .val (.ref b5), .unset, .unset, .val (.int sl), .unset] [(.long q2), (.long bv)])) rfl (hb hby at_80) _ ?_
      show Steps p.tables e below (T15.setTop (mkF m 83 #[.val (.int p1), .val (.long q2), .second, .val (.int p3), .val (.int pp), .val (.ref b5), .unset, .unset, .val (.int sl), .unset] [(.long (3 : Int64)), (.long q2), (.long bv)])) _
      refine XS.land X15.here hx rfl (hb hby at_83) rfl ?_
      show Steps p.tables e below (T15.setTop (mkF m 84 #[.val (.int p1), .val (.long q2), .second, .val (.int p3), .val (.int pp), .val (.ref b5), .unset, .unset, .val (.int sl), .unset] [(.long (q2 &&& (3 : Int64))), (.long bv)])) _
      refine XS.lconst X15.here hx rfl (hb hby at_84) ?_
      show Steps p.tables e below (T15.setTop (mkF m 85 #[.val (.int p1), .val (.long q2), .second, .val (.int p3), .val (.int pp), .val (.ref b5), .unset, .unset, .val (.int sl), .unset] [(.long (1 : Int64)), (.long (q2 &&& (3 : Int64))), (.long bv)])) _
      refine XS.lsub X15.here hx rfl (hb hby at_85) rfl ?_
      show Steps p.tables e below (T15.setTop (mkF m 86 #[.val (.int p1), .val (.long q2), .second, .val (.int p3), .val (.int pp), .val (.ref b5), .unset, .unset, .val (.int sl), .unset] [(.long ((q2 &&& (3 : Int64)) - (1 : Int64))), (.long bv)])) _
      refine XS.ladd X15.here hx rfl (hb hby at_86) rfl ?_
      show Steps p.tables e below (T15.setTop (mkF m 87 #[.val (.int p1), .val (.long q2), .second, .val (.int p3), .val (.int pp), .val (.ref b5), .unset, .unset, .val (.int sl), .unset] [(.long (bv + ((q2 &&& (3 : Int64)) - (1 : Int64))))])) _
      refine XS.lstore X15.here hx rfl (hb hby at_87) rfl (l' := #[.val (.int p1), .val (.long q2), .second, .val (.int p3), .val (.int pp), .val (.ref b5), .val (.long (bv + ((q2 &&& (3 : Int64)) - (1 : Int64)))), .second, .val (.int sl), .unset]) rfl ?_
      show Steps p.tables e below (T15.setTop (mkF m 89 #[.val (.int p1), .val (.long q2), .second, .val (.int p3), .val (.int pp), .val (.ref b5), .val (.long (bv + ((q2 &&& (3 : Int64)) - (1 : Int64)))), .second, .val (.int sl), .unset] [])) _
      refine XS.iload X15.here hx rfl (hb hby at_89) rfl ?_
      show Steps p.tables e below (T15.setTop (mkF m 91 #[.val (.int p1), .val (.long q2), .second, .val (.int p3), .val (.int pp), .val (.ref b5), .val (.long (bv + ((q2 &&& (3 : Int64)) - (1 : Int64)))), .second, .val (.int sl), .unset] [(.int pp)])) _
      refine XS.lload X15.here hx rfl (hb hby at_91) rfl ?_
      show Steps p.tables e below (T15.setTop (mkF m 93 #[.val (.int p1), .val (.long q2), .second, .val (.int p3), .val (.int pp), .val (.ref b5), .val (.long (bv + ((q2 &&& (3 : Int64)) - (1 : Int64)))), .second, .val (.int sl), .unset] [(.long (bv + ((q2 &&& (3 : Int64)) - (1 : Int64)))), (.int pp)])) _
      exact k
    obtain ⟨_, _, ⟨T24, L24, k24, n24⟩, -, X24, ⟨Lc24, hQ24, l24, y24, z24⟩, st24⟩ := Jvm.LawKit.callS X15 hx (y := (⟨"com/example/jobwright/jobwright/workload/RequestClassOfPinLaw", "expected", "(IJ)Lcom/example/jobwright/jobwright/workload/O2kJobs$RequestClass;"⟩ : MethodName)) hown (mvT hZ (hw _ (List.mem_of_getElem? (i := 5) rfl))) (mvT hZ (hw _ (List.mem_of_getElem? (i := 6) rfl))) (mvT hZ (hw _ (List.mem_of_getElem? (i := 7) rfl))) (mvT hZ (hw _ (List.mem_of_getElem? (i := 8) rfl))) (by decide) (backOf (W := 0) (rm1 l Z a0 hw [] pp (bv + ((q2 &&& (3 : Int64)) - (1 : Int64))) ad h15 n0 (Nat.le_trans Z0 EX15.1) (fun k hk => (hS k hk).ext EX15) (fun k hk => (hE k hk).ext EX15)) hZ (hw _ (List.mem_of_getElem? (i := 8) rfl)) (hw _ (List.mem_of_getElem? (i := 7) rfl)) (by decide) (by decide)) (g := (mkF m 93 #[.val (.int p1), .val (.long q2), .second, .val (.int p3), .val (.int pp), .val (.ref b5), .val (.long (bv + ((q2 &&& (3 : Int64)) - (1 : Int64)))), .second, .val (.int sl), .unset] [(.long (bv + ((q2 &&& (3 : Int64)) - (1 : Int64)))), (.int pp)])) rfl (by rw [hml]; rfl) (argsL := [(.int pp), (.long (bv + ((q2 &&& (3 : Int64)) - (1 : Int64))))]) (rest := []) (lenOf own_pd0 rfl) rfl (by show 2 * 0 + _ ≤ _; exact Nat.le_of_eq rfl) (hb hby at_93) (fun _ _ => ⟨rfl, e15, (by decide : 1 + 1 ≤ _), (by decide : 5 + 24 ≤ _)⟩)
    dsimp only [Pt.U, Pt.locs, Pt.cells, Pt.slots] at X24 l24 y24 z24 st24 hQ24
    subst l24 y24 z24
    obtain ⟨rfl, Nq24, EXc⟩ := hQ24
    have N24 := Fr.app N15 Nq24
    have pre24 : ∀ t, Steps p.tables e below (T24.setTop (mkF m 96 #[.val (.int p1), .val (.long q2), .second, .val (.int p3), .val (.int pp), .val (.ref b5), .val (.long (bv + ((q2 &&& (3 : Int64)) - (1 : Int64)))), .second, .val (.int sl), .unset] [(.ref (ad (own_cls pp (bv + ((q2 &&& (3 : Int64)) - (1 : Int64))))))])) t → Steps p.tables e below (s₁.setTop (entryFrame m #[(.int p1), (.long q2), (.int p3)] maxLocals)) t := fun t k => pre23 t (st24 t k)
    have EXd := own_extt EX15 EXc
    have pre25 : ∀ t, Steps p.tables e below (T24.setTop (mkF m 102 #[.val (.int p1), .val (.long q2), .second, .val (.int p3), .val (.int pp), .val (.ref b5), .val (.long (bv + ((q2 &&& (3 : Int64)) - (1 : Int64)))), .second, .val (.ref (ad (own_cls pp (bv + ((q2 &&& (3 : Int64)) - (1 : Int64)))))), .unset] [(.long (bv + ((q2 &&& (3 : Int64)) - (1 : Int64)))), (.int pp)])) t → Steps p.tables e below (s₁.setTop (entryFrame m #[(.int p1), (.long q2), (.int p3)] maxLocals)) t := by
      intro t k
      refine pre24 _ ?_
      refine XS.astore X24.here hx rfl (hb hby at_96) rfl rfl (l' := #[.val (.int p1), .val (.long q2), .second, .val (.int p3), .val (.int pp), .val (.ref b5), .val (.long (bv + ((q2 &&& (3 : Int64)) - (1 : Int64)))), .second, .val (.ref (ad (own_cls pp (bv + ((q2 &&& (3 : Int64)) - (1 : Int64)))))), .unset]) rfl ?_
      show Steps p.tables e below (T24.setTop (mkF m 98 #[.val (.int p1), .val (.long q2), .second, .val (.int p3), .val (.int pp), .val (.ref b5), .val (.long (bv + ((q2 &&& (3 : Int64)) - (1 : Int64)))), .second, .val (.ref (ad (own_cls pp (bv + ((q2 &&& (3 : Int64)) - (1 : Int64)))))), .unset] [])) _
      refine XS.iload X24.here hx rfl (hb hby at_98) rfl ?_
      show Steps p.tables e below (T24.setTop (mkF m 100 #[.val (.int p1), .val (.long q2), .second, .val (.int p3), .val (.int pp), .val (.ref b5), .val (.long (bv + ((q2 &&& (3 : Int64)) - (1 : Int64)))), .second, .val (.ref (ad (own_cls pp (bv + ((q2 &&& (3 : Int64)) - (1 : Int64)))))), .unset] [(.int pp)])) _
      refine XS.lload X24.here hx rfl (hb hby at_100) rfl ?_
      show Steps p.tables e below (T24.setTop (mkF m 102 #[.val (.int p1), .val (.long q2), .second, .val (.int p3), .val (.int pp), .val (.ref b5), .val (.long (bv + ((q2 &&& (3 : Int64)) - (1 : Int64)))), .second, .val (.ref (ad (own_cls pp (bv + ((q2 &&& (3 : Int64)) - (1 : Int64)))))), .unset] [(.long (bv + ((q2 &&& (3 : Int64)) - (1 : Int64)))), (.int pp)])) _
      exact k
    obtain ⟨_, _, ⟨T26, L26, k26, n26⟩, -, X26, ⟨Lc26, hQ26, l26, y26, z26⟩, st26⟩ := Jvm.LawKit.callS X24 hx (y := (⟨"com/example/jobwright/jobwright/workload/O2kJobs$RequestClass", "of", "(IJ)Lcom/example/jobwright/jobwright/workload/O2kJobs$RequestClass;"⟩ : MethodName)) hown (mvT hZ (hw _ (List.mem_of_getElem? (i := 21) rfl))) (mvT hZ (hw _ (List.mem_of_getElem? (i := 22) rfl))) (mvT hZ (hw _ (List.mem_of_getElem? (i := 10) rfl))) (mvT hZ (hw _ (List.mem_of_getElem? (i := 23) rfl))) (by decide) (backOf (W := 0) (rm2 l Z a0 hw [] pp (bv + ((q2 &&& (3 : Int64)) - (1 : Int64))) ad T24.heap n0 (Nat.le_trans Z0 EXd.1) (fun k hk => (hS k hk).ext EXd)) hZ (hw _ (List.mem_of_getElem? (i := 23) rfl)) (hw _ (List.mem_of_getElem? (i := 10) rfl)) (by decide) (by decide)) (g := (mkF m 102 #[.val (.int p1), .val (.long q2), .second, .val (.int p3), .val (.int pp), .val (.ref b5), .val (.long (bv + ((q2 &&& (3 : Int64)) - (1 : Int64)))), .second, .val (.ref (ad (own_cls pp (bv + ((q2 &&& (3 : Int64)) - (1 : Int64)))))), .unset] [(.long (bv + ((q2 &&& (3 : Int64)) - (1 : Int64)))), (.int pp)])) rfl (by rw [hml]; rfl) (argsL := [(.int pp), (.long (bv + ((q2 &&& (3 : Int64)) - (1 : Int64))))]) (rest := []) (lenOf own_pd0 rfl) rfl (by show 2 * 0 + _ ≤ _; exact Nat.le_of_eq rfl) (hb hby at_102) (fun _ _ => ⟨rfl, rfl, (by decide : 2 + 0 ≤ _), (by decide : 29 + 0 ≤ _)⟩)
    dsimp only [Pt.U, Pt.locs, Pt.cells, Pt.slots] at X26 l26 y26 z26 st26 hQ26
    subst l26 y26 z26
    obtain ⟨rfl, Nq26, eh2⟩ := hQ26
    have N26 := Fr.app N24 Nq26
    have pre26 : ∀ t, Steps p.tables e below (T26.setTop (mkF m 105 #[.val (.int p1), .val (.long q2), .second, .val (.int p3), .val (.int pp), .val (.ref b5), .val (.long (bv + ((q2 &&& (3 : Int64)) - (1 : Int64)))), .second, .val (.ref (ad (own_cls pp (bv + ((q2 &&& (3 : Int64)) - (1 : Int64)))))), .unset] [(.ref (ad (own_cls pp (bv + ((q2 &&& (3 : Int64)) - (1 : Int64))))))])) t → Steps p.tables e below (s₁.setTop (entryFrame m #[(.int p1), (.long q2), (.int p3)] maxLocals)) t := fun t k => pre25 t (st26 t k)
    have pre27 : ∀ t, Steps p.tables e below (T26.setTop (mkF m 119 #[.val (.int p1), .val (.long q2), .second, .val (.int p3), .val (.int pp), .val (.ref b5), .val (.long (bv + ((q2 &&& (3 : Int64)) - (1 : Int64)))), .second, .val (.ref (ad (own_cls pp (bv + ((q2 &&& (3 : Int64)) - (1 : Int64)))))), .val (.ref (ad (own_cls pp (bv + ((q2 &&& (3 : Int64)) - (1 : Int64))))))] [(.int (1 : Int32))])) t → Steps p.tables e below (s₁.setTop (entryFrame m #[(.int p1), (.long q2), (.int p3)] maxLocals)) t := by
      intro t k
      refine pre26 _ ?_
      refine XS.astore X26.here hx rfl (hb hby at_105) rfl rfl (l' := #[.val (.int p1), .val (.long q2), .second, .val (.int p3), .val (.int pp), .val (.ref b5), .val (.long (bv + ((q2 &&& (3 : Int64)) - (1 : Int64)))), .second, .val (.ref (ad (own_cls pp (bv + ((q2 &&& (3 : Int64)) - (1 : Int64)))))), .val (.ref (ad (own_cls pp (bv + ((q2 &&& (3 : Int64)) - (1 : Int64))))))]) rfl ?_
      show Steps p.tables e below (T26.setTop (mkF m 107 #[.val (.int p1), .val (.long q2), .second, .val (.int p3), .val (.int pp), .val (.ref b5), .val (.long (bv + ((q2 &&& (3 : Int64)) - (1 : Int64)))), .second, .val (.ref (ad (own_cls pp (bv + ((q2 &&& (3 : Int64)) - (1 : Int64)))))), .val (.ref (ad (own_cls pp (bv + ((q2 &&& (3 : Int64)) - (1 : Int64))))))] [])) _
      refine XS.aload X26.here hx rfl (hb hby at_107) rfl rfl ?_
      show Steps p.tables e below (T26.setTop (mkF m 109 #[.val (.int p1), .val (.long q2), .second, .val (.int p3), .val (.int pp), .val (.ref b5), .val (.long (bv + ((q2 &&& (3 : Int64)) - (1 : Int64)))), .second, .val (.ref (ad (own_cls pp (bv + ((q2 &&& (3 : Int64)) - (1 : Int64)))))), .val (.ref (ad (own_cls pp (bv + ((q2 &&& (3 : Int64)) - (1 : Int64))))))] [(.ref (ad (own_cls pp (bv + ((q2 &&& (3 : Int64)) - (1 : Int64))))))])) _
      refine XS.aload X26.here hx rfl (hb hby at_109) rfl rfl ?_
      show Steps p.tables e below (T26.setTop (mkF m 111 #[.val (.int p1), .val (.long q2), .second, .val (.int p3), .val (.int pp), .val (.ref b5), .val (.long (bv + ((q2 &&& (3 : Int64)) - (1 : Int64)))), .second, .val (.ref (ad (own_cls pp (bv + ((q2 &&& (3 : Int64)) - (1 : Int64)))))), .val (.ref (ad (own_cls pp (bv + ((q2 &&& (3 : Int64)) - (1 : Int64))))))] [(.ref (ad (own_cls pp (bv + ((q2 &&& (3 : Int64)) - (1 : Int64)))))), (.ref (ad (own_cls pp (bv + ((q2 &&& (3 : Int64)) - (1 : Int64))))))])) _
      refine Jvm.RoadKit.acmp (g := (mkF m 111 #[.val (.int p1), .val (.long q2), .second, .val (.int p3), .val (.int pp), .val (.ref b5), .val (.long (bv + ((q2 &&& (3 : Int64)) - (1 : Int64)))), .second, .val (.ref (ad (own_cls pp (bv + ((q2 &&& (3 : Int64)) - (1 : Int64)))))), .val (.ref (ad (own_cls pp (bv + ((q2 &&& (3 : Int64)) - (1 : Int64))))))] [(.ref (ad (own_cls pp (bv + ((q2 &&& (3 : Int64)) - (1 : Int64)))))), (.ref (ad (own_cls pp (bv + ((q2 &&& (3 : Int64)) - (1 : Int64))))))])) X26 hx rfl rfl rfl (pc0 := 111) (pc' := 114) (same := true) rfl (hb hby at_111) rfl (decide_eq_true rfl) (by decide) (by decide) ?_
      show Steps p.tables e below (T26.setTop (mkF m 114 #[.val (.int p1), .val (.long q2), .second, .val (.int p3), .val (.int pp), .val (.ref b5), .val (.long (bv + ((q2 &&& (3 : Int64)) - (1 : Int64)))), .second, .val (.ref (ad (own_cls pp (bv + ((q2 &&& (3 : Int64)) - (1 : Int64)))))), .val (.ref (ad (own_cls pp (bv + ((q2 &&& (3 : Int64)) - (1 : Int64))))))] [])) _
      refine XS.iconst X26.here hx rfl (hb hby at_114) ?_
      show Steps p.tables e below (T26.setTop (mkF m 115 #[.val (.int p1), .val (.long q2), .second, .val (.int p3), .val (.int pp), .val (.ref b5), .val (.long (bv + ((q2 &&& (3 : Int64)) - (1 : Int64)))), .second, .val (.ref (ad (own_cls pp (bv + ((q2 &&& (3 : Int64)) - (1 : Int64)))))), .val (.ref (ad (own_cls pp (bv + ((q2 &&& (3 : Int64)) - (1 : Int64))))))] [(.int (1 : Int32))])) _
      refine XS.goto X26.here hx rfl (pc0 := 115) (pc' := 119) rfl (hb hby at_115) (by decide) (by decide) ?_
      show Steps p.tables e below (T26.setTop (mkF m 119 #[.val (.int p1), .val (.long q2), .second, .val (.int p3), .val (.int pp), .val (.ref b5), .val (.long (bv + ((q2 &&& (3 : Int64)) - (1 : Int64)))), .second, .val (.ref (ad (own_cls pp (bv + ((q2 &&& (3 : Int64)) - (1 : Int64)))))), .val (.ref (ad (own_cls pp (bv + ((q2 &&& (3 : Int64)) - (1 : Int64))))))] [(.int (1 : Int32))])) _
      exact k
    obtain ⟨fs, hr, hrun, hended, hW, hsame⟩ := X26.leave (v := some (.int (1 : Int32))) (fun h => by rw [Bd.returns] at h; cases h)
    refine ⟨_, _, pre27 _ ?_, hrun, hended, _, _, rfl, ?_, ⟨_, rfl⟩, hW, hsame.mono (by decide) (by decide)⟩
    · exact retN X26 hx (t := .boolean) Bd.returns (by simp) (hb hby at_119) hr
    · show ((_ : Option Value) = some (.int 1) ∧ Fr n0 _)
      exact ⟨rfl, N26⟩
set_option maxRecDepth 65536 in
set_option maxHeartbeats 40000000 in
theorem comes_1 {Post : Tables → Env → Array Value → State → Outcome → State → Prop} (hpost : ∀ tb e args s v u, (limb_1_1.after args s (.returned v) u = true ∧ limb_1_2.after args s (.returned v) u = true ∧ True) → FrameEnd s (.returned v) u (Jvm.fieldLocs frame_1_writes args s ++ Jvm.arrayLocs frame_1_arrays args s ++ Jvm.staticLocs frame_1_statics s) 16 128 → Post tb e args s (.returned v) u) :
    ArmFor flags0 classFile x code maxLocals ret World_1 tables_1 room_1 Calls_1 rest_1 Pre_1 Post := by
  intro l hfl _ _ p e ha hc hk s m args below hf hA hF happ hP
  obtain ⟨hcalls, hrest, hpre⟩ := hP
  obtain ⟨-, -, -, hnamed, -, -, -, hat⟩ := (Spec.applies_iff hf).mp happ
  obtain ⟨hg, hn⟩ := and_e (Cond.before_iff.mp (show (Jvm.Cond.and given_1 narrow_1).before args s = true from hpre))
  obtain ⟨g1, g2⟩ := and_e hg
  obtain ⟨g3, g4⟩ := and_e g2
  obtain ⟨g5, g6⟩ := and_e g4
  obtain ⟨w0, w1, w2, rfl⟩ : ∃ w0 w1 w2 : Value, args = #[w0, w1, w2] := by
    have hs : args.size = 3 := by simpa [Cond.value, given_1] using g1
    obtain ⟨L⟩ := args
    match L, hs with
    | [w0, w1, w2], _ => exact ⟨w0, w1, w2, rfl⟩
  have hw := fun d (hd : d ∈ tables_1) => atoms_spec (ws := Jvm.Cond.code x code maxLocals ret :: tables_1) hat d (List.mem_cons_of_mem _ hd)
  have hfit : Fit s := fun {y c} hc i hi => by
    obtain ⟨ha, rfl⟩ := Array.getElem?_eq_some_iff.mp hc
    have q := List.all_eq_true.mp ((Array.all_eq_true_iff_forall_mem.mp hF) _ (Array.getElem_mem ha)) i (List.mem_range.mpr hi)
    simpa [Array.getElem?_eq_getElem hi] using q
  obtain ⟨i0, ei0⟩ := is_v g3
  obtain rfl : w0 = (.int i0) := Option.some.inj ei0
  obtain ⟨i1, ei1⟩ := isL_v g5
  obtain rfl : w1 = (.long i1) := Option.some.inj ei1
  obtain ⟨i2, ei2⟩ := is_v g6
  obtain rfl : w2 = (.int i2) := Option.some.inj ei2
  obtain ⟨hn1a, hn1b⟩ := and_e hn
  obtain ⟨hn2a, hn2b⟩ := and_e hn1b
  obtain ⟨hn3a, hn3b⟩ := and_e hn2b
  obtain ⟨o0, ev0, S0, E0⟩ := own_sta hn1a (hw _ (List.mem_of_getElem? (i := 10) rfl)) (hw _ (List.mem_of_getElem? (i := 11) rfl))
  obtain ⟨o1, ev1, S1, E1⟩ := own_sta hn2a (hw _ (List.mem_of_getElem? (i := 10) rfl)) (hw _ (List.mem_of_getElem? (i := 13) rfl))
  obtain ⟨o2, ev2, S2, E2⟩ := own_sta hn3a (hw _ (List.mem_of_getElem? (i := 10) rfl)) (hw _ (List.mem_of_getElem? (i := 15) rfl))
  obtain ⟨o3, ev3, S3, E3⟩ := own_sta hn3b (hw _ (List.mem_of_getElem? (i := 10) rfl)) (hw _ (List.mem_of_getElem? (i := 17) rfl))
  obtain ⟨ad, hs, hE⟩ : ∃ ad : Nat → Addr, (∀ k, k < 4 → Sta s s.heap "com/example/jobwright/jobwright/workload/O2kJobs$RequestClass" (own_nm k) "Lcom/example/jobwright/jobwright/workload/O2kJobs$RequestClass;" (.ref (ad k))) ∧ (∀ k, k < 4 → Exa s s.heap (ad k) "com/example/jobwright/jobwright/workload/O2kJobs$RequestClass") := by
    refine ⟨fun k => [o0, o1, o2, o3].getD k 0, ?_, ?_⟩
    · intro k hk
      match k, hk with
      | 0, _ => exact S0
      | 1, _ => exact S1
      | 2, _ => exact S2
      | 3, _ => exact S3
      | n + 4, h => exact absurd h (by omega)
    · intro k hk
      match k, hk with
      | 0, _ => exact E0
      | 1, _ => exact E1
      | 2, _ => exact E2
      | 3, _ => exact E3
      | n + 4, h => exact absurd h (by omega)
  obtain ⟨n, o, h1, h2, h3, _, L, rfl, ⟨rfl, N⟩, hq⟩ := rm0 l s _ hw tables_1 i0 i1 i2 ad s.heap s.heap.size (Nat.le_refl _) hs hE p e ha hc hk s m _ below hf ((Spec.applies_iff_loose hf).mp happ).1 ⟨rfl, State.Warmed39.refl s, rfl⟩ trivial
  refine ⟨n, _, h1, h2, h3, hpost _ _ _ _ _ _ ⟨Cond.after_iff.mpr rfl, Cond.after_iff.mpr (eq_i res_at (Term.int_eval (1)) rfl), trivial⟩ ⟨hq.1, hq.2.1, (hq.2.2.sift fun y hy => Or.inr (N y hy)).mono (by decide) (by decide)⟩⟩
theorem main_1_1 : Claimed_1_1 := comes_1 fun _ _ _ _ _ _ h hF => ⟨h.1, hF⟩
theorem main_1_2 : Claimed_1_2 := comes_1 fun _ _ _ _ _ _ h hF => ⟨h.2.1, hF⟩
end Jvm.Pilot.@@N@@
namespace Jvm.Pilot.@@N@@
open Jvm Jvm.ClassFile Sem Op Lib Jvm.Free Jvm.Stand Jvm.Pilot.@@N@@.Jvm.D
/-! MADE BY PROGRAM (witnessworld.py) out of the Statement's table words and the real class files: 15 classes; the members and pool entries that the words name. The judged class is class 1, her method 1. -/
namespace start1
open Jvm.ClassFile
def u (s : String) : CpInfo := .utf8 (stringToUtf16 s)
/-- a pool by its gaps: so many unusable entries, then the entry; so many at the end -/
def gap : Nat → List CpInfo → List CpInfo
  | 0, r => r
  | n + 1, r => .unusable :: gap n r
def poolList (es : List (Nat × CpInfo)) (last : Nat) : List CpInfo := es.foldr (fun e r => gap e.1 (e.2 :: r)) (gap last [])
def pool (es : List (Nat × CpInfo)) (last : Nat) : Array CpInfo := ⟨poolList es last⟩
def fileOf (pool : Array CpInfo) (this : Nat) (attrs : Array Attribute := #[]) (ms : Array MethodInfo := #[]) (fl : Nat := 33) (sup : Nat := 0) (ifs : Array Nat := #[]) (fds : Array FieldInfo := #[]) : ClassFile where
  minorVersion := 0
  majorVersion := 65
  constantPool := pool
  accessFlags := fl
  thisClass := this
  superClass := sup
  interfaces := ifs
  fields := fds
  methods := ms
  attributes := attrs
def plain (name : String) (sup : Option ClassId) : Class where
  name := name
  kind := .ordinary
  loader := none
  accessFlags := 33
  super := sup
  interfaces := #[]
  cf := none
  fields := #[]
  methods := #[]
  instanceTypes := #[]
  staticTypes := #[]
  resolved := #[]
  callSites := []
  init := .initialized
  statics := none
  mirror := none

def pool0 : Array CpInfo := pool [(5, u "<init>"), (0, u "()V"), (1, .class_ 10), (1, u "java/lang/Object")] 113

def k0m0 : Method := { name := "<init>", desc := "()V", sig := { parameters := [], returnType := none }, accessFlags := 1, code := none }
/-- java/lang/Object -/
def k0 : Class := { plain "java/lang/Object" none with
  accessFlags := 33
  interfaces := #[]
  cf := some (fileOf pool0 8 #[] #[{ accessFlags := 1, nameIndex := 5, descriptorIndex := 6, attributes := #[] }] 33 0 #[] #[])
  fields := #[]
  methods := #[k0m0]
  instanceTypes := #[]
  staticTypes := #[]
  resolved := Array.replicate 124 none
  statics := none }

def pool1 : Array CpInfo := pool [(2, .class_ 4), (1, u "java/lang/Object"), (0, u "<init>"), (0, u "()V"), (0, .long 131072), (1, .long 1048576), (1, .long 8388608), (1, .long 16777216), (1, .long 3), (1, .methodref 18 19), (0, .class_ 20), (0, .nameAndType 21 22), (0, u "com/example/jobwright/jobwright/workload/RequestClassOfPinLaw"), (0, u "expected"), (0, u "(IJ)Lcom/example/jobwright/jobwright/workload/O2kJobs$RequestClass;"), (0, .methodref 24 25), (0, .class_ 26), (0, .nameAndType 27 22), (0, u "com/example/jobwright/jobwright/workload/O2kJobs$RequestClass"), (0, u "of"), (0, .fieldref 24 29), (0, .nameAndType 30 31), (0, u "A"), (0, u "Lcom/example/jobwright/jobwright/workload/O2kJobs$RequestClass;"), (0, .fieldref 24 33), (0, .nameAndType 34 31), (0, u "B"), (0, .fieldref 24 36), (0, .nameAndType 37 31), (0, u "C"), (0, .fieldref 24 39), (0, .nameAndType 40 31), (0, u "D"), (2, u "law"), (0, u "(IJI)Z")] 9

def k1m0 : Method := { name := "<init>", desc := "()V", sig := { parameters := [], returnType := none }, accessFlags := 2, code := none }
def k1c1 : Code := { maxStack := 6, maxLocals := 10, code := code, exceptionTable := #[], attributes := #[] }
def k1m1 : Method := { name := "law", desc := "(IJI)Z", sig := { parameters := [.int, .long, .int], returnType := some .boolean }, accessFlags := 9, code := some k1c1 }
def k1c2 : Code := { maxStack := 4, maxLocals := 10, code := method_3_code, exceptionTable := #[], attributes := #[] }
def k1m2 : Method := { name := "expected", desc := "(IJ)Lcom/example/jobwright/jobwright/workload/O2kJobs$RequestClass;", sig := { parameters := [.int, .long], returnType := some (.object "com/example/jobwright/jobwright/workload/O2kJobs$RequestClass") }, accessFlags := 10, code := some k1c2 }
/-- com/example/jobwright/jobwright/workload/RequestClassOfPinLaw -/
def k1 : Class := { plain "com/example/jobwright/jobwright/workload/RequestClassOfPinLaw" (some 0) with
  accessFlags := 49
  interfaces := #[]
  cf := some (fileOf pool1 18 #[] #[{ accessFlags := 2, nameIndex := 5, descriptorIndex := 6, attributes := #[] }, { accessFlags := 9, nameIndex := 43, descriptorIndex := 44, attributes := #[] }, { accessFlags := 10, nameIndex := 21, descriptorIndex := 22, attributes := #[] }] 49 2 #[] #[])
  fields := #[]
  methods := #[k1m0, k1m1, k1m2]
  instanceTypes := #[]
  staticTypes := #[]
  resolved := Array.replicate 54 none
  statics := none }

def pool2 : Array CpInfo := pool [(1, .class_ 2), (0, u "java/lang/constant/Constable"), (0, .class_ 4), (0, u "java/lang/Object")] 6

/-- java/lang/constant/Constable -/
def k2 : Class := { plain "java/lang/constant/Constable" (some 0) with
  accessFlags := 1537
  interfaces := #[]
  cf := some (fileOf pool2 1 #[] #[] 1537 3 #[] #[])
  fields := #[]
  methods := #[]
  instanceTypes := #[]
  staticTypes := #[]
  resolved := Array.replicate 11 none
  statics := none }

def pool3 : Array CpInfo := pool [(1, .class_ 2), (0, u "java/lang/Comparable"), (0, .class_ 4), (0, u "java/lang/Object")] 7

/-- java/lang/Comparable -/
def k3 : Class := { plain "java/lang/Comparable" (some 0) with
  accessFlags := 1537
  interfaces := #[]
  cf := some (fileOf pool3 1 #[] #[] 1537 3 #[] #[])
  fields := #[]
  methods := #[]
  instanceTypes := #[]
  staticTypes := #[]
  resolved := Array.replicate 12 none
  statics := none }

def pool4 : Array CpInfo := pool [(1, .class_ 2), (0, u "java/io/Serializable"), (0, .class_ 4), (0, u "java/lang/Object")] 2

/-- java/io/Serializable -/
def k4 : Class := { plain "java/io/Serializable" (some 0) with
  accessFlags := 1537
  interfaces := #[]
  cf := some (fileOf pool4 1 #[] #[] 1537 3 #[] #[])
  fields := #[]
  methods := #[]
  instanceTypes := #[]
  staticTypes := #[]
  resolved := Array.replicate 7 none
  statics := none }

def pool5 : Array CpInfo := pool [(2, .class_ 4), (1, u "java/lang/Enum"), (0, u "name"), (0, u "Ljava/lang/String;"), (2, u "ordinal"), (0, u "I"), (1, .class_ 14), (1, u "java/lang/Object"), (4, u "hash"), (86, .class_ 108), (1, u "java/lang/Enum$EnumDesc"), (2, .class_ 112), (0, u "java/lang/constant/Constable"), (0, .class_ 114), (0, u "java/lang/Comparable"), (0, .class_ 116), (0, u "java/io/Serializable")] 87

/-- java/lang/Enum -/
def k5 : Class := { plain "java/lang/Enum" (some 0) with
  accessFlags := 1057
  interfaces := #[2, 3, 4]
  cf := some (fileOf pool5 2 #[.nestMembers #[106]] #[] 1057 12 #[111, 113, 115] #[{ accessFlags := 18, nameIndex := 5, descriptorIndex := 6, attributes := #[] }, { accessFlags := 18, nameIndex := 9, descriptorIndex := 10, attributes := #[] }, { accessFlags := 2, nameIndex := 19, descriptorIndex := 10, attributes := #[] }])
  fields := #[{ name := "name", type := (.object "java/lang/String"), accessFlags := 18, slot := 0, constantValue := 0 }, { name := "ordinal", type := .int, accessFlags := 18, slot := 1, constantValue := 0 }, { name := "hash", type := .int, accessFlags := 2, slot := 2, constantValue := 0 }]
  methods := #[]
  instanceTypes := #[(.object "java/lang/String"), .int, .int]
  staticTypes := #[]
  resolved := Array.replicate 204 none
  statics := none }

def pool6 : Array CpInfo := pool [(1, .class_ 2), (0, u "com/example/jobwright/jobwright/workload/O2kJobs"), (0, .class_ 4), (0, u "com/example/jobwright/jobwright/workload/O2kJobs$RequestClass"), (0, .fieldref 3 6), (0, .nameAndType 7 8), (0, u "A"), (0, u "Lcom/example/jobwright/jobwright/workload/O2kJobs$RequestClass;"), (0, .fieldref 3 10), (0, .nameAndType 11 8), (0, u "B"), (0, .fieldref 3 13), (0, .nameAndType 14 8), (0, u "C"), (0, .fieldref 3 16), (0, .nameAndType 17 8), (0, u "D"), (2, u "$VALUES"), (0, u "[Lcom/example/jobwright/jobwright/workload/O2kJobs$RequestClass;"), (6, .class_ 30), (1, u "java/lang/Enum"), (6, .long 8388608), (1, .long 1048576), (1, .long 16777216), (1, .long 131072), (17, u "of"), (0, u "(IJ)Lcom/example/jobwright/jobwright/workload/O2kJobs$RequestClass;")] 8

def k6c0 : Code := { maxStack := 4, maxLocals := 3, code := prog_200_method_4_code, exceptionTable := #[], attributes := #[] }
def k6m0 : Method := { name := "of", desc := "(IJ)Lcom/example/jobwright/jobwright/workload/O2kJobs$RequestClass;", sig := { parameters := [.int, .long], returnType := some (.object "com/example/jobwright/jobwright/workload/O2kJobs$RequestClass") }, accessFlags := 8, code := some k6c0 }
/-- com/example/jobwright/jobwright/workload/O2kJobs$RequestClass -/
def k6 : Class := { plain "com/example/jobwright/jobwright/workload/O2kJobs$RequestClass" (some 5) with
  accessFlags := 16432
  interfaces := #[]
  cf := some (fileOf pool6 3 #[.nestHost 1] #[{ accessFlags := 8, nameIndex := 61, descriptorIndex := 62, attributes := #[] }] 16432 28 #[] #[{ accessFlags := 16409, nameIndex := 7, descriptorIndex := 8, attributes := #[] }, { accessFlags := 16409, nameIndex := 11, descriptorIndex := 8, attributes := #[] }, { accessFlags := 16409, nameIndex := 14, descriptorIndex := 8, attributes := #[] }, { accessFlags := 16409, nameIndex := 17, descriptorIndex := 8, attributes := #[] }, { accessFlags := 4122, nameIndex := 20, descriptorIndex := 21, attributes := #[] }])
  fields := #[{ name := "A", type := (.object "com/example/jobwright/jobwright/workload/O2kJobs$RequestClass"), accessFlags := 16409, slot := 0, constantValue := 0 }, { name := "B", type := (.object "com/example/jobwright/jobwright/workload/O2kJobs$RequestClass"), accessFlags := 16409, slot := 1, constantValue := 0 }, { name := "C", type := (.object "com/example/jobwright/jobwright/workload/O2kJobs$RequestClass"), accessFlags := 16409, slot := 2, constantValue := 0 }, { name := "D", type := (.object "com/example/jobwright/jobwright/workload/O2kJobs$RequestClass"), accessFlags := 16409, slot := 3, constantValue := 0 }, { name := "$VALUES", type := (.array (.object "com/example/jobwright/jobwright/workload/O2kJobs$RequestClass")), accessFlags := 4122, slot := 4, constantValue := 0 }]
  methods := #[k6m0]
  instanceTypes := #[(.object "java/lang/String"), .int, .int]
  staticTypes := #[(.object "com/example/jobwright/jobwright/workload/O2kJobs$RequestClass"), (.object "com/example/jobwright/jobwright/workload/O2kJobs$RequestClass"), (.object "com/example/jobwright/jobwright/workload/O2kJobs$RequestClass"), (.object "com/example/jobwright/jobwright/workload/O2kJobs$RequestClass"), (.array (.object "com/example/jobwright/jobwright/workload/O2kJobs$RequestClass"))]
  resolved := Array.replicate 71 none
  statics := some 0 }

def pool7 : Array CpInfo := pool [(1, u "java/lang/Cloneable"), (0, .class_ 1), (0, u "java/lang/Object"), (0, .class_ 3)] 3

/-- java/lang/Cloneable -/
def k7 : Class := { plain "java/lang/Cloneable" (some 0) with
  accessFlags := 1537
  interfaces := #[]
  cf := some (fileOf pool7 2 #[] #[] 1537 4 #[] #[])
  fields := #[]
  methods := #[]
  instanceTypes := #[]
  staticTypes := #[]
  resolved := Array.replicate 8 none
  statics := none }

/-- the primitive byte -/
def k8 : Class := { plain "byte" none with kind := .primitive 'B', accessFlags := 0x411 }
/-- [B -/
def k9 : Class := { plain "[B" (some 0) with kind := .array 8 .byte, interfaces := #[7, 4], accessFlags := 1041 }

/-- the primitive int -/
def k10 : Class := { plain "int" none with kind := .primitive 'I', accessFlags := 0x411 }
/-- [I -/
def k11 : Class := { plain "[I" (some 0) with kind := .array 10 .int, interfaces := #[7, 4], accessFlags := 1041 }

/-- the primitive long -/
def k12 : Class := { plain "long" none with kind := .primitive 'J', accessFlags := 0x411 }
/-- [J -/
def k13 : Class := { plain "[J" (some 0) with kind := .array 12 .long, interfaces := #[7, 4], accessFlags := 1041 }

/-- [Lcom/example/jobwright/jobwright/workload/O2kJobs$RequestClass; -/
def k14 : Class := { plain "[Lcom/example/jobwright/jobwright/workload/O2kJobs$RequestClass;" (some 0) with kind := .array 6 (.object "com/example/jobwright/jobwright/workload/O2kJobs$RequestClass"), interfaces := #[7, 4], accessFlags := 1041 }

def heap : Heap := #[{ cls := 6, slots := #[.ref 1, .ref 2, .ref 3, .ref 4, .null], vm := .statics 6 },
  { cls := 6, slots := #[.null, .int 0, .int 0], vm := .none },
  { cls := 6, slots := #[.null, .int 1, .int 0], vm := .none },
  { cls := 6, slots := #[.null, .int 2, .int 0], vm := .none },
  { cls := 6, slots := #[.null, .int 3, .int 0], vm := .none }]
def classes : Array Class := #[k0, k1, k2, k3, k4, k5, k6, k7, k8, k9, k10, k11, k12, k13, k14]
def interned : List (Array UInt16 × Addr) := []
def slotsUsed : Nat := 17
def theMethod : MethodId := ⟨1, 1⟩
def args0 : Array Value := #[.int 5, .long 7, .int 3]
def aboutOver (below : List Frame) : State where
  vm := { classes := classes, interned := interned.toArray }
  heap := heap
  slotsUsed := slotsUsed
  threads := #[{ frames := .invoking theMethod args0 :: below }]
def below0 : List Frame := [.native { method := ⟨0, 0⟩, args := #[] }]
def about1 : State := aboutOver below0
def p0 : Program := .bare "" "" ""
def e0 : Env := launch0.env 0 0 0
theorem w_frames : about1.frames = Frame.invoking theMethod args0 :: below0 := rfl
set_option maxRecDepth 65536 in
theorem w_args : argsFit about1.vm theMethod args0 = true := by decide +kernel
set_option maxRecDepth 65536 in
theorem w_heap : heapFits about1 = true := by decide +kernel
set_option maxRecDepth 65536 in
theorem w_runnable : about1.curStatus? = some .runnable := by decide +kernel
set_option maxRecDepth 65536 in
theorem w_alone : about1.alone = true := by decide +kernel
set_option maxRecDepth 65536 in
theorem w_named : about1.methodNamed? x = some theMethod := by decide +kernel
set_option maxRecDepth 65536 in
theorem w_hears : about1.hears theMethod below0 = true := by decide +kernel
set_option maxRecDepth 65536 in
theorem w_ripe : about1.ripe theMethod args0 below0 = true := by decide +kernel
theorem w_running : about1.status = .running := rfl
set_option maxRecDepth 65536 in
theorem w_room : about1.hasRoom e0.platform room_1 = true :=
  launch0.hasRoom_least _ room_1 (by decide +kernel) (by decide +kernel) (by decide +kernel) (by decide +kernel) (by decide +kernel) (by decide +kernel)
theorem allAtoms_all (ts : List Jvm.Cond) (a : Array Jvm.Value) (st : Jvm.State) : (allAtoms ts).before a st = ts.all (fun c => c.before a st) := by
  induction ts with
  | nil => rfl
  | cons c t ih =>
    show (Jvm.Cond.and c (allAtoms t)).before a st = _
    rw [Jvm.Cond.before_and, ih, List.all_cons]
def words1 : List Jvm.Cond := Jvm.Cond.code x code maxLocals ret :: tables_1
/-- a 'code' word, met by the world's own term for the bytes: nothing is compared byte by byte -/
theorem code_word {y : MethodName} {bytes : ByteArray} {mx : Nat} {rt : Option FieldType} {a : Array Value} {s : State} {m : MethodId} {meth : Method} {c : Code} (h1 : s.methodNamed? y = some m) (h2 : s.vm.method? m = some meth) (h3 : meth.code = some c) (h4 : c.code = bytes)
    (h5 : (c.maxLocals == mx && c.exceptionTable.isEmpty && decide (c.maxStack ≤ mostOperands) && decide (meth.sig.returnType = rt) && !meth.locks && decide (parseMethodDescriptor y.desc = some meth.sig)) = true) : (Jvm.Cond.code y bytes mx rt).before a s = true := by
  simp only [Bool.and_eq_true, beq_iff_eq, Bool.not_eq_true', decide_eq_true_eq] at h5
  obtain ⟨⟨⟨⟨⟨g1, g2⟩, g3⟩, g4⟩, g5⟩, g6⟩ := h5
  simp [Cond.before, Cond.holds, Cond.value, h1, h2, h3, h4, g1, g2, g3, g4, g5, g6]
def isCode : Jvm.Cond → Bool
  | .code _ _ _ _ => true
  | _ => false
theorem all_split {L : List Jvm.Cond} {P : Jvm.Cond → Bool} (h1 : L.all (fun c => isCode c || P c) = true) (h2 : ∀ c ∈ L.filter isCode, P c = true) : L.all P = true := by
  refine List.all_eq_true.mpr fun c hc => ?_
  have h := List.all_eq_true.mp h1 c hc
  rcases Bool.eq_false_or_eq_true (isCode c) with hi | hi
  · exact h2 c (List.mem_filter.mpr ⟨hc, hi⟩)
  · simpa [hi] using h
set_option maxRecDepth 65536 in
theorem w_c0 : (Jvm.Cond.code x code maxLocals ret).before args0 about1 = true := code_word (m := ⟨1, 1⟩) (meth := k1m1) (c := k1c1) (by decide +kernel) rfl rfl rfl (by decide +kernel)
set_option maxRecDepth 65536 in
theorem w_c1 : (Jvm.Cond.code ({ cls := "com/example/jobwright/jobwright/workload/RequestClassOfPinLaw", name := "expected", desc := "(IJ)Lcom/example/jobwright/jobwright/workload/O2kJobs$RequestClass;" } : Jvm.MethodName) method_3_code (10 : Nat) (Option.some (Jvm.ClassFile.FieldType.object "com/example/jobwright/jobwright/workload/O2kJobs$RequestClass"))).before args0 about1 = true := code_word (m := ⟨1, 2⟩) (meth := k1m2) (c := k1c2) (by decide +kernel) rfl rfl rfl (by decide +kernel)
set_option maxRecDepth 65536 in
theorem w_c2 : (Jvm.Cond.code ({ cls := "com/example/jobwright/jobwright/workload/O2kJobs$RequestClass", name := "of", desc := "(IJ)Lcom/example/jobwright/jobwright/workload/O2kJobs$RequestClass;" } : Jvm.MethodName) prog_200_method_4_code (3 : Nat) (Option.some (Jvm.ClassFile.FieldType.object "com/example/jobwright/jobwright/workload/O2kJobs$RequestClass"))).before args0 about1 = true := code_word (m := ⟨6, 0⟩) (meth := k6m0) (c := k6c0) (by decide +kernel) rfl rfl rfl (by decide +kernel)
def codes1 : List Jvm.Cond := [Jvm.Cond.code x code maxLocals ret, Jvm.Cond.code ({ cls := "com/example/jobwright/jobwright/workload/RequestClassOfPinLaw", name := "expected", desc := "(IJ)Lcom/example/jobwright/jobwright/workload/O2kJobs$RequestClass;" } : Jvm.MethodName) method_3_code (10 : Nat) (Option.some (Jvm.ClassFile.FieldType.object "com/example/jobwright/jobwright/workload/O2kJobs$RequestClass")), Jvm.Cond.code ({ cls := "com/example/jobwright/jobwright/workload/O2kJobs$RequestClass", name := "of", desc := "(IJ)Lcom/example/jobwright/jobwright/workload/O2kJobs$RequestClass;" } : Jvm.MethodName) prog_200_method_4_code (3 : Nat) (Option.some (Jvm.ClassFile.FieldType.object "com/example/jobwright/jobwright/workload/O2kJobs$RequestClass"))]
set_option maxRecDepth 65536 in
theorem codes_eq : words1.filter isCode = codes1 := rfl
theorem w_codes : ∀ c ∈ words1.filter isCode, c.before args0 about1 = true := by
  rw [codes_eq]
  intro c hc
  simp only [codes1, List.mem_cons, List.not_mem_nil, or_false] at hc
  rcases hc with rfl | rfl | rfl
  · exact w_c0
  · exact w_c1
  · exact w_c2
set_option maxRecDepth 65536 in
theorem w_t1 : (words1.take 24).all (fun c => isCode c || c.before args0 about1) = true := by decide +kernel
set_option maxRecDepth 65536 in
theorem w_t2 : (words1.drop 24).all (fun c => isCode c || c.before args0 about1) = true := by decide +kernel
theorem w_tables : (allAtoms (Jvm.Cond.code x code maxLocals ret :: tables_1)).before args0 about1 = true := by
  rw [allAtoms_all]
  show words1.all (fun c => c.before args0 about1) = true
  refine all_split ?_ w_codes
  rw [← List.take_append_drop 24 words1, List.all_append, w_t1, w_t2]
  rfl
set_option maxRecDepth 65536 in
theorem w_case : (Jvm.Cond.and given_1 narrow_1).before args0 about1 = true := by decide +kernel
theorem w_applies : (headSpec (Jvm.Cond.code x code maxLocals ret :: tables_1) room_1).applies x e0.platform about1 = true :=
  (Spec.applies_iff w_frames).mpr ⟨w_running, w_runnable, w_alone, w_named, w_hears, w_ripe, w_room, w_tables⟩
theorem atStart : AtStart classFile x code maxLocals ret World_1 tables_1 room_1 Calls_1 rest_1 Pre_1 launch0 p0 e0 about1 theMethod args0 below0 :=
  ⟨lists_1, trivial, launch0.admits_env _ _ _, launch0.least_env, fairChoices_fair.cas, fairChoices_fair.clock, w_frames, w_args, w_heap, w_applies, trivial, trivial, w_case⟩
end start1
theorem witness_1 : WitnessClaimed_1 := ⟨start1.p0, start1.e0, start1.about1, start1.theMethod, start1.args0, start1.below0, start1.atStart⟩
end Jvm.Pilot.@@N@@
