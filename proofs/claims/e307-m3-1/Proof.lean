import JvmDerived
import JvmDerived.Pilot.@@N@@Statement
import JvmDerived.Pilot.@@N@@Code
set_option linter.unusedVariables false
set_option linter.unusedSimpArgs false
namespace Jvm.RoadKit
open Sem ClassFile Op Lib Jvm.Stand Jvm.Free Jvm.LawKit
section New
variable {p : Program} {l : Launch} {e : Env} {R : Room} {s : State} {m : MethodId} {args : Array Value} {below : List Frame} {meth : Method} {c : Code} {T : State} {locs : List Loc} {cells slots : Nat}
theorem retI (X : Stand p l e R s m args below meth c T locs cells slots) (hx : p.tables.exec = Jvm.exec) {pc : Nat} {Ls : Array Slot} {z : Int32} {rest : List Value} (hret : meth.sig.returnType = some .int) (hd : decode c.code pc = .ok (.ireturn, 1)) {fs : List Frame}
    (hl : ∀ (f : JFrame) (acts : List Action), f.method = m → f.locked = none → f.entered = [] → (doReturn e (T.setTop f) acts (some (.int z))).1 = T.setFrames fs) : Steps p.tables e below (T.setTop (mkF m pc Ls (.int z :: rest))) (T.setFrames fs) :=
  retOut X hx hret rfl (Or.inl ⟨rfl, Or.inl rfl, z, rfl⟩) hd hl
end New
end Jvm.RoadKit
namespace Jvm.Pilot.@@N@@
open Jvm Jvm.ClassFile Sem Op Lib Jvm.Free Jvm.Stand Jvm.LawKit Jvm.RoadKit Bundle Jvm.Pilot.@@N@@.Jvm.D
def own_Q (Q : Option Value → Heap → List Loc → Prop) (v : Option Value) (h : Heap) (L : List Loc) : Prop := Q v h L
abbrev own_HW (Z : State) (a0 : Array Value) : Prop := ∀ d ∈ tables_1, d.before a0 Z = true
abbrev own_C (l : Launch) (Z : State) (y : MethodName) (bytes : ByteArray) (maxL : Nat) (ret : Option FieldType) (ws : List Jvm.Cond) (fr lo : Nat) (as : Array Value) (h0 : Heap) (Q : Option Value → Heap → List Loc → Prop) : Prop :=
  MetFree l y (head1 (Jvm.Cond.code y bytes maxL ret :: ws) ({ frames := fr, cells := 0, slots := 0, locals := lo } : Room)) (fun a U => a = as ∧ Z.Warmed39 U.vm ∧ U.heap = h0) (fun _ _ _ _ _ => True) (fun _ U o U' => ∃ v L, o = .returned v ∧ own_Q Q v U'.heap L ∧ FrameEnd U o U' L ({ frames := fr, cells := 0, slots := 0, locals := lo } : Room).cells ({ frames := fr, cells := 0, slots := 0, locals := lo } : Room).slots)
def own_up {α : Type} (f : Nat → α) (k : Nat) (v : α) : Nat → α := fun i => if i = k then v else f i
theorem own_up_eq {α : Type} (f : Nat → α) (k : Nat) (v : α) : own_up f k v k = v := by simp [own_up]
theorem own_up_ne {α : Type} (f : Nat → α) {k i : Nat} (v : α) (h : i ≠ k) : own_up f k v i = f i := by simp [own_up, h]
def own_vs (V : Nat → List Value) (k i : Nat) (x : Value) : Nat → List Value := own_up V k ((V k).set i x)
theorem own_fn {F : Nat → Value} {k j : Nat} {x v : Value} (h : F k = v) (hn : k ≠ j := by decide) : own_up F j x k = v := by rw [own_up_ne F x hn]; exact h
theorem own_w {P : Jvm.Cond → Prop} (hw : ∀ d ∈ tables_1, P d) (i : Nat) {d : Jvm.Cond} (h : tables_1[i]? = some d := by rfl) : P d := hw d (List.mem_of_getElem? h)
theorem own_vi {V : Nat → List Value} {k i j : Nat} {x d v : Value} (h : (V k).getD i d = v) (hn : j ≠ i := by decide) : (own_vs V k j x k).getD i d = v := by
  rw [← h, own_vs, own_up_eq]; simp only [List.getD_eq_getElem?_getD, List.getElem?_set_ne hn]
theorem own_vn {V : Nat → List Value} {k k' i j : Nat} {x d v : Value} (h : (V k).getD i d = v) (hn : k ≠ k' := by decide) : (own_vs V k' j x k).getD i d = v := by
  rw [← h, own_vs, own_up_ne V _ hn]
theorem own_ve {V : Nat → List Value} {k i : Nat} {x d : Value} (h : i < (V k).length) : (own_vs V k i x k).getD i d = x := by
  rw [own_vs, own_up_eq]; simp [List.getD_eq_getElem?_getD, List.getElem?_set_self h]
theorem own_vl {V : Nat → List Value} {k k' i j : Nat} {x : Value} (h : i < (V k).length) : i < (own_vs V k' j x k).length := by
  by_cases e : k = k'
  · subst e; rw [own_vs, own_up_eq, List.length_set]; exact h
  · rw [own_vs, own_up_ne V _ e]; exact h
abbrev own_K : String := "com/example/jobwright/jobwright/policies/ProfileSteps"
def own_fC (k : Nat) : String := ["com/example/jobwright/jobwright/policies/Treap", "com/example/jobwright/jobwright/policies/ProfileSteps", "com/example/jobwright/jobwright/policies/ProfileSteps", "com/example/jobwright/jobwright/policies/ProfileSteps", "com/example/jobwright/jobwright/policies/ProfileSteps", "com/example/jobwright/jobwright/policies/ProfileSteps", "com/example/jobwright/jobwright/policies/ProfileSteps", "com/example/jobwright/jobwright/policies/ProfileSteps", "com/example/jobwright/jobwright/policies/ProfileSteps", "com/example/jobwright/jobwright/policies/ProfileSteps", "com/example/jobwright/jobwright/policies/ProfileSteps", "com/example/jobwright/jobwright/policies/ProfileSteps", "com/example/jobwright/jobwright/policies/ProfileSteps", "com/example/jobwright/jobwright/policies/ProfileSteps", "com/example/jobwright/jobwright/policies/Treap", "com/example/jobwright/jobwright/policies/Treap", "com/example/jobwright/jobwright/policies/Treap", "com/example/jobwright/jobwright/policies/Treap", "com/example/jobwright/jobwright/policies/Treap", "com/example/jobwright/jobwright/policies/ProfileSteps", "com/example/jobwright/jobwright/policies/ProfileSteps", "com/example/jobwright/jobwright/policies/ProfileSteps", "com/example/jobwright/jobwright/policies/ProfileSteps", "com/example/jobwright/jobwright/policies/ProfileSteps", "com/example/jobwright/jobwright/policies/ProfileSteps", "com/example/jobwright/jobwright/policies/ProfileSteps", "com/example/jobwright/jobwright/policies/ProfileSteps", "com/example/jobwright/jobwright/policies/Treap", "com/example/jobwright/jobwright/policies/Treap", "com/example/jobwright/jobwright/policies/ProfileSteps", "com/example/jobwright/jobwright/policies/ProfileSteps", "com/example/jobwright/jobwright/policies/ProfileSteps", "com/example/jobwright/jobwright/policies/ProfileSteps", "com/example/jobwright/jobwright/policies/ProfileSteps", "com/example/jobwright/jobwright/policies/ProfileSteps", "com/example/jobwright/jobwright/policies/ProfileSteps", "com/example/jobwright/jobwright/policies/ProfileSteps", "com/example/jobwright/jobwright/policies/ProfileSteps", "com/example/jobwright/jobwright/policies/ProfileSteps"].getD k ""
def own_fN (k : Nat) : String := ["links", "counts", "previousBlocks", "nextBlocks", "firstBlocks", "subtreeRises", "subtreeMemoryRises", "ownStale", "wholeStale", "blockFloorStale", "subtreeFloorStale", "times", "free", "memory", "root", "size", "unusedCount", "used", "seed", "shift", "stepsPerBlock", "readBlock", "moved", "firstBlock", "lastBlock", "lastFound", "lastSlot", "settled", "unused", "joined", "unfloored", "after", "own", "whole", "blockFewest", "blockLeast", "subtreeFewest", "subtreeLeast", "stack"].getD k ""
def own_fD (k : Nat) : String := ["[I", "[I", "[I", "[I", "[I", "[I", "[J", "[Z", "[Z", "[Z", "[Z", "[J", "[I", "[J", "I", "I", "I", "I", "J", "I", "I", "I", "J", "I", "I", "I", "I", "Z", "[I", "Lcom/example/jobwright/jobwright/policies/StepSummary;", "[I", "[I", "[Lcom/example/jobwright/jobwright/policies/StepSummary;", "[Lcom/example/jobwright/jobwright/policies/StepSummary;", "[I", "[J", "[I", "[J", "[I"].getD k ""
def own_aT (k : Nat) : FieldType := [.int, .int, .int, .int, .int, .int, .long, .boolean, .boolean, .boolean, .boolean, .long, .int, .long].getD k .int
def own_aL (k : Nat) : Int32 := [16, 4, 4, 4, 4, 4, 4, 4, 4, 4, 4, 8, 8, 8].getD k 0
def own_aZ (k : Nat) : Value := if own_aT k = .long then .long (0 : Int64) else .int (0 : Int32)
def own_FT (k : Nat) : FieldType := [(.array .int), (.array .int), (.array .int), (.array .int), (.array .int), (.array .int), (.array .long), (.array .boolean), (.array .boolean), (.array .boolean), (.array .boolean), (.array .long), (.array .int), (.array .long), .int, .int, .int, .int, .long, .int, .int, .int, .long, .int, .int, .int, .int, .boolean, (.array .int), (.object "com/example/jobwright/jobwright/policies/StepSummary"), (.array .int), (.array .int), (.array (.object "com/example/jobwright/jobwright/policies/StepSummary")), (.array (.object "com/example/jobwright/jobwright/policies/StepSummary")), (.array .int), (.array .long), (.array .int), (.array .long), (.array .int)].getD k .int
theorem own_nd : ∀ i : Fin 39, ∀ j : Fin 39, own_fN i.1 = own_fN j.1 → i = j := by decide +kernel
theorem own_fdp : ∀ i : Fin 39, parseFieldDescriptor (own_fD i.1) = some (own_FT i.1) := by decide +kernel
theorem own_laid {Z : State} {a0 : Array Value} (hw : ∀ d ∈ tables_1, d.before a0 Z = true) (k : Nat) (hk : k < 39) : Laid Z a0 own_K (own_fC k) (own_fN k) (own_fD k) := by
  match k, hk with
  | 0, _ => exact Or.inl (own_w hw 23)
  | 1, _ => exact Or.inl (own_w hw 59)
  | 2, _ => exact Or.inl (own_w hw 61)
  | 3, _ => exact Or.inl (own_w hw 63)
  | 4, _ => exact Or.inl (own_w hw 65)
  | 5, _ => exact Or.inl (own_w hw 67)
  | 6, _ => exact Or.inl (own_w hw 69)
  | 7, _ => exact Or.inl (own_w hw 77)
  | 8, _ => exact Or.inl (own_w hw 79)
  | 9, _ => exact Or.inl (own_w hw 85)
  | 10, _ => exact Or.inl (own_w hw 91)
  | 11, _ => exact Or.inl (own_w hw 93)
  | 12, _ => exact Or.inl (own_w hw 95)
  | 13, _ => exact Or.inl (own_w hw 97)
  | 14, _ => exact Or.inl (own_w hw 15)
  | 15, _ => exact Or.inl (own_w hw 112)
  | 16, _ => exact Or.inl (own_w hw 114)
  | 17, _ => exact Or.inl (own_w hw 17)
  | 18, _ => exact Or.inl (own_w hw 20)
  | 19, _ => exact Or.inr (own_w hw 55)
  | 20, _ => exact Or.inr (own_w hw 57)
  | 21, _ => exact Or.inl (own_w hw 27)
  | 22, _ => exact Or.inl (own_w hw 139)
  | 23, _ => exact Or.inl (own_w hw 141)
  | 24, _ => exact Or.inl (own_w hw 143)
  | 25, _ => exact Or.inl (own_w hw 145)
  | 26, _ => exact Or.inl (own_w hw 147)
  | 27, _ => exact Or.inl (own_w hw 184)
  | 28, _ => exact Or.inl (own_w hw 25)
  | 29, _ => exact Or.inr (own_w hw 49)
  | 30, _ => exact Or.inl (own_w hw 51)
  | 31, _ => exact Or.inl (own_w hw 53)
  | 32, _ => exact Or.inl (own_w hw 72)
  | 33, _ => exact Or.inl (own_w hw 74)
  | 34, _ => exact Or.inl (own_w hw 81)
  | 35, _ => exact Or.inl (own_w hw 83)
  | 36, _ => exact Or.inl (own_w hw 87)
  | 37, _ => exact Or.inl (own_w hw 89)
  | 38, _ => exact Or.inr (own_w hw 99)
  | n + 39, h => exact absurd h (by omega)
theorem own_slot {Z : State} {a0 : Array Value} (hw : ∀ d ∈ tables_1, d.before a0 Z = true) {i j : Nat} (hi : i < 39) (hj : j < 39) (hn : i ≠ j) : Jvm.RoadKit.slotOf Z (own_fC i) (own_fN i) (own_fD i) ≠ Jvm.RoadKit.slotOf Z (own_fC j) (own_fN j) (own_fD j) :=
  slot_ne (own_laid hw i hi) (own_laid hw j hj) (fun e => hn (congrArg Fin.val (own_nd ⟨i, hi⟩ ⟨j, hj⟩ e))) (own_fdp ⟨i, hi⟩) (own_fdp ⟨j, hj⟩)
def own_PS (Z : State) (h : Heap) (n0 : Nat) (o : Addr) (nA : Nat) (A : Nat → Addr) (F : Nat → Value) (V : Nat → List Value) : Prop :=
  Exa Z h o own_K ∧ n0 ≤ o ∧ (∀ k, k < 39 → Fld Z h o (own_fC k) (own_fN k) (own_fD k) (F k)) ∧ (∀ k, k < nA → F k = .ref (A k)) ∧
  (∀ k, k < nA → (V k).length = (own_aL k).toNatClampNeg ∧ ∃ c, Arv Z h (A k) c (own_aT k) (own_aL k) (V k) (own_aZ k)) ∧
  (∀ k, k < nA → n0 ≤ A k ∧ o ≠ A k) ∧ (∀ i j, i < nA → j < nA → i ≠ j → A i ≠ A j)
section PS
variable {Z : State} {a0 : Array Value} {h h' : Heap} {n0 : Nat} {o : Addr} {nA : Nat} {A : Nat → Addr} {F : Nat → Value} {V : Nat → List Value}
theorem own_px (P : own_PS Z h n0 o nA A F V) (E : Ext h h') : own_PS Z h' n0 o nA A F V := by
  obtain ⟨p1, p2, p3, p4, p5, p6, p7⟩ := P
  exact ⟨p1.ext E, p2, fun k hk => (p3 k hk).ext E, p4, fun k hk => ⟨(p5 k hk).1, (p5 k hk).2.imp fun c q => q.ext E⟩, p6, p7⟩
theorem own_pk {ws : List Addr} (P : own_PS Z h n0 o nA A F V) (K : Keep h h' ws) (q : o ∉ ws) (q' : ∀ k, k < nA → A k ∉ ws) : own_PS Z h' n0 o nA A F V := by
  obtain ⟨p1, p2, p3, p4, p5, p6, p7⟩ := P
  exact ⟨p1.keep K, p2, fun k hk => (p3 k hk).keep K q, p4, fun k hk => ⟨(p5 k hk).1, (p5 k hk).2.imp fun c r => r.keep K (q' k hk)⟩, p6, p7⟩
theorem own_pf (hw : ∀ d ∈ tables_1, d.before a0 Z = true) (P : own_PS Z h n0 o nA A F V) (k : Nat) {v : Value} (W : Wr h h' o (Jvm.RoadKit.slotOf Z (own_fC k) (own_fN k) (own_fD k)) v) (hk : k < 39 := by decide) (hn : nA ≤ k := by decide) : own_PS Z h' n0 o nA A (own_up F k v) V := by
  obtain ⟨p1, p2, p3, p4, p5, p6, p7⟩ := P
  refine ⟨p1.wr W, p2, fun i hi => ?_, fun i hi => ?_, fun i hi => ⟨(p5 i hi).1, (p5 i hi).2.imp fun c r => r.other W (p6 i hi).2.symm⟩, p6, p7⟩
  · by_cases e : i = k
    · subst e; rw [own_up_eq]; exact (p3 i hi).same W
    · rw [own_up_ne F v e]; exact (p3 i hi).other W (Or.inr (own_slot hw hi hk e))
  · rw [own_up_ne F v (by omega)]; exact p4 i hi
theorem own_pa (P : own_PS Z h n0 o nA A F V) (k : Nat) (i : Nat) {j : Int32} {v : Value} (W : Wr h h' (A k) j.toNatClampNeg v) (hf : fits (own_aT k) v = true) (hj : j.toNatClampNeg = i) (hi : i < (own_aL k).toNatClampNeg) (hk : k < nA) : own_PS Z h' n0 o nA A F (own_vs V k i v) := by
  unfold own_vs
  obtain ⟨p1, p2, p3, p4, p5, p6, p7⟩ := P
  refine ⟨p1.wr W, p2, fun x hx => (p3 x hx).other W (Or.inl (p6 k hk).2), p4, fun x hx => ?_, p6, p7⟩
  obtain ⟨e1, c, e2⟩ := p5 x hx
  by_cases e : x = k
  · subst e
    rw [own_up_eq]
    obtain ⟨cl, Ar, q, S, M, Ha, G⟩ := e2
    exact ⟨by rw [List.length_set]; exact e1, c, Arv.set Ar q S M Ha G hf W i hj (by rw [e1]; exact hi)⟩
  · rw [own_up_ne V _ e]; exact ⟨e1, c, e2.other W (p7 x k hx hk e)⟩
theorem own_pn (hw : ∀ d ∈ tables_1, d.before a0 Z = true) {h1 : Heap} (P : own_PS Z h n0 o nA A F V) (Z0 : n0 ≤ h.size) {b : Addr} (gb : b = h.size) (E : Ext h h1) {c : ClassId} {vs : List Value} (hA : Arv Z h1 b c (own_aT nA) (own_aL nA) vs (own_aZ nA)) (hl : vs.length = (own_aL nA).toNatClampNeg) (hn : nA < 39)
    (W : Wr h1 h' o (Jvm.RoadKit.slotOf Z (own_fC nA) (own_fN nA) (own_fD nA)) (.ref b)) : own_PS Z h' n0 o (nA + 1) (own_up A nA b) (own_up F nA (.ref b)) (own_up V nA vs) := by
  have hlt : o < h.size := P.1.lt
  have hne : o ≠ b := by rw [gb]; exact Nat.ne_of_lt hlt
  have hAlt : ∀ k, k < nA → A k < h.size := fun k hk => by obtain ⟨-, c, q⟩ := P.2.2.2.2.1 k hk; exact q.lt
  have P1 := own_px P E
  obtain ⟨p1, p2, p3, p4, p5, p6, p7⟩ := P1
  refine ⟨p1.wr W, p2, fun i hi => ?_, fun i hi => ?_, fun i hi => ?_, fun i hi => ?_, fun i j hi hj hij => ?_⟩
  · by_cases e : i = nA
    · subst e; rw [own_up_eq]; exact (p3 i hi).same W
    · rw [own_up_ne F _ e]; exact (p3 i hi).other W (Or.inr (own_slot hw hi hn e))
  · by_cases e : i = nA
    · subst e; rw [own_up_eq, own_up_eq]
    · rw [own_up_ne F _ e, own_up_ne A _ e]; exact p4 i (by omega)
  · by_cases e : i = nA
    · subst e; rw [own_up_eq, own_up_eq]; exact ⟨hl, c, hA.other W hne.symm⟩
    · rw [own_up_ne V _ e, own_up_ne A _ e]; exact ⟨(p5 i (by omega)).1, (p5 i (by omega)).2.imp fun c r => r.other W (p6 i (by omega)).2.symm⟩
  · by_cases e : i = nA
    · subst e; rw [own_up_eq]; exact ⟨by rw [gb]; exact Z0, hne⟩
    · rw [own_up_ne A _ e]; exact p6 i (by omega)
  · by_cases e : i = nA
    · subst e
      rw [own_up_eq, own_up_ne A _ (Ne.symm hij), gb]; exact Ne.symm (Nat.ne_of_lt (hAlt j (by omega)))
    · by_cases e' : j = nA
      · subst e'; rw [own_up_eq, own_up_ne A _ e, gb]; exact Nat.ne_of_lt (hAlt i (by omega))
      · rw [own_up_ne A _ e, own_up_ne A _ e']; exact p7 i j (by omega) (by omega) hij
theorem own_f (P : own_PS Z h n0 o nA A F V) (k : Nat) {v : Value} (hv : F k = v) (hk : k < 39 := by decide) : Fld Z h o (own_fC k) (own_fN k) (own_fD k) v := hv ▸ P.2.2.1 k hk
theorem own_l (P : own_PS Z h n0 o nA A F V) (k : Nat) (hk : k < nA) (i : Nat) {j : Int32} {v : Value} (hv : (V k).getD i (own_aZ k) = v) (hj : j.toNatClampNeg = i) (h0 : ¬ j < 0) (hi : i < (own_aL k).toNatClampNeg) :
    ∃ cl, Arr Z h (A k) cl (own_aT k) ∧ ¬ (j < 0 ∨ cl.slots.size ≤ j.toNatClampNeg) ∧ cl.slots[j.toNatClampNeg]? = some v := by
  obtain ⟨e1, c, cl, Ar, q, S, M, Ha, G⟩ := P.2.2.2.2.1 k hk
  refine ⟨cl, Ar, ?_, ?_⟩
  · rintro (r | r)
    · exact h0 r
    · rw [hj, S] at r; omega
  · rw [hj, Ha i (by rw [S]; exact hi), hv]
theorem own_sz (P : own_PS Z h n0 o nA A F V) : n0 ≤ h.size := Nat.le_trans P.2.1 (Nat.le_of_lt P.1.lt)
theorem own_len (P : own_PS Z h n0 o nA A F V) (k : Nat) (hk : k < nA) (i : Nat) (hi : i < (own_aL k).toNatClampNeg) : i < (V k).length := by rw [(P.2.2.2.2.1 k hk).1]; exact hi
end PS
section Step
variable {p : Program} {l : Launch} {e : Env} {R : Room} {s : State} {m : MethodId} {args : Array Value} {below : List Frame} {meth : Method} {c : Code} {T t : State} {locs : List Loc} {cells slots : Nat} {pc : Nat} {L : Array Slot} {S : List Value}
theorem s_aloadN (X : Stand p l e R s m args below meth c T locs cells slots) (hx : p.tables.exec = Jvm.exec) {k : Fin 4} {v : Value} (hd : decode c.code pc = .ok (.aload_n k, 1)) (hl : L[k.val]? = some (.val v)) (hv : v.isRef = true) (hr : Steps p.tables e below (T.setTop (mkF m (pc + 1) L (v :: S))) t) : Steps p.tables e below (T.setTop (mkF m pc L S)) t := XS.aloadN X.here hx rfl hd hl hv hr
theorem s_aload (X : Stand p l e R s m args below meth c T locs cells slots) (hx : p.tables.exec = Jvm.exec) {k : Nat} {v : Value} (hd : decode c.code pc = .ok (.aload k, 2)) (hl : L[k]? = some (.val v)) (hv : v.isRef = true) (hr : Steps p.tables e below (T.setTop (mkF m (pc + 2) L (v :: S))) t) : Steps p.tables e below (T.setTop (mkF m pc L S)) t := XS.aload X.here hx rfl hd hl hv hr
theorem s_iloadN (X : Stand p l e R s m args below meth c T locs cells slots) (hx : p.tables.exec = Jvm.exec) {k : Fin 4} {v : Int32} (hd : decode c.code pc = .ok (.iload_n k, 1)) (hl : L[k.val]? = some (.val (.int v))) (hr : Steps p.tables e below (T.setTop (mkF m (pc + 1) L (.int v :: S))) t) : Steps p.tables e below (T.setTop (mkF m pc L S)) t := XS.iloadN X.here hx rfl hd hl hr
theorem s_iload (X : Stand p l e R s m args below meth c T locs cells slots) (hx : p.tables.exec = Jvm.exec) {k : Nat} {v : Int32} (hd : decode c.code pc = .ok (.iload k, 2)) (hl : L[k]? = some (.val (.int v))) (hr : Steps p.tables e below (T.setTop (mkF m (pc + 2) L (.int v :: S))) t) : Steps p.tables e below (T.setTop (mkF m pc L S)) t := XS.iload X.here hx rfl hd hl hr
theorem s_lloadN (X : Stand p l e R s m args below meth c T locs cells slots) (hx : p.tables.exec = Jvm.exec) {k : Fin 4} {v : Int64} (hd : decode c.code pc = .ok (.lload_n k, 1)) (hl : L[k.val]? = some (.val (.long v))) (hr : Steps p.tables e below (T.setTop (mkF m (pc + 1) L (.long v :: S))) t) : Steps p.tables e below (T.setTop (mkF m pc L S)) t := XS.lloadN X.here hx rfl hd hl hr
theorem s_lload (X : Stand p l e R s m args below meth c T locs cells slots) (hx : p.tables.exec = Jvm.exec) {k : Nat} {v : Int64} (hd : decode c.code pc = .ok (.lload k, 2)) (hl : L[k]? = some (.val (.long v))) (hr : Steps p.tables e below (T.setTop (mkF m (pc + 2) L (.long v :: S))) t) : Steps p.tables e below (T.setTop (mkF m pc L S)) t := XS.lload X.here hx rfl hd hl hr
theorem s_iconst (X : Stand p l e R s m args below meth c T locs cells slots) (hx : p.tables.exec = Jvm.exec) {i : Int} (v : Int32) (hd : decode c.code pc = .ok (.iconst i, 1)) (hv : Int32.ofInt i = v) (hr : Steps p.tables e below (T.setTop (mkF m (pc + 1) L (.int v :: S))) t) : Steps p.tables e below (T.setTop (mkF m pc L S)) t := by subst hv; exact XS.iconst X.here hx rfl hd hr
theorem s_bipush (X : Stand p l e R s m args below meth c T locs cells slots) (hx : p.tables.exec = Jvm.exec) {i : Int} (v : Int32) (hd : decode c.code pc = .ok (.bipush i, 2)) (hv : (Int8.ofInt i).toInt32 = v) (hr : Steps p.tables e below (T.setTop (mkF m (pc + 2) L (.int v :: S))) t) : Steps p.tables e below (T.setTop (mkF m pc L S)) t := by subst hv; exact XS.bipush X.here hx rfl hd hr
theorem s_aconst (X : Stand p l e R s m args below meth c T locs cells slots) (hx : p.tables.exec = Jvm.exec) (hd : decode c.code pc = .ok (.aconst_null, 1)) (hr : Steps p.tables e below (T.setTop (mkF m (pc + 1) L (.null :: S))) t) : Steps p.tables e below (T.setTop (mkF m pc L S)) t := XS.aconstNull X.here hx rfl hd hr
theorem s_dup (X : Stand p l e R s m args below meth c T locs cells slots) (hx : p.tables.exec = Jvm.exec) {v : Value} (hd : decode c.code pc = .ok (.dup, 1)) (hv : v.category = 1) (hr : Steps p.tables e below (T.setTop (mkF m (pc + 1) L (v :: v :: S))) t) : Steps p.tables e below (T.setTop (mkF m pc L (v :: S))) t := XS.dup X.here hx rfl hd rfl hv hr
theorem s_dup2 (X : Stand p l e R s m args below meth c T locs cells slots) (hx : p.tables.exec = Jvm.exec) {v w : Value} (hd : decode c.code pc = .ok (.dup2, 1)) (hv : v.category = 1) (hw : w.category = 1) (hr : Steps p.tables e below (T.setTop (mkF m (pc + 1) L (v :: w :: v :: w :: S))) t) : Steps p.tables e below (T.setTop (mkF m pc L (v :: w :: S))) t := XT.dup2 X.here hx rfl hd rfl hv hw hr
theorem s_pop (X : Stand p l e R s m args below meth c T locs cells slots) (hx : p.tables.exec = Jvm.exec) {v : Value} (hd : decode c.code pc = .ok (.pop, 1)) (hv : v.category = 1) (hr : Steps p.tables e below (T.setTop (mkF m (pc + 1) L S)) t) : Steps p.tables e below (T.setTop (mkF m pc L (v :: S))) t := XS.pop X.here hx rfl hd rfl hv hr
theorem s_istoreN (X : Stand p l e R s m args below meth c T locs cells slots) (hx : p.tables.exec = Jvm.exec) {k : Fin 4} {v : Int32} (l' : Array Slot) (hd : decode c.code pc = .ok (.istore_n k, 1)) (hl : storeLocals L k.val (.int v) = some l') (hr : Steps p.tables e below (T.setTop (mkF m (pc + 1) l' S)) t) : Steps p.tables e below (T.setTop (mkF m pc L (.int v :: S))) t := XS.istoreN X.here hx rfl hd rfl hl hr
theorem s_istore (X : Stand p l e R s m args below meth c T locs cells slots) (hx : p.tables.exec = Jvm.exec) {k : Nat} {v : Int32} (l' : Array Slot) (hd : decode c.code pc = .ok (.istore k, 2)) (hl : storeLocals L k (.int v) = some l') (hr : Steps p.tables e below (T.setTop (mkF m (pc + 2) l' S)) t) : Steps p.tables e below (T.setTop (mkF m pc L (.int v :: S))) t := XS.istore X.here hx rfl hd rfl hl hr
theorem s_lstoreN (X : Stand p l e R s m args below meth c T locs cells slots) (hx : p.tables.exec = Jvm.exec) {k : Fin 4} {v : Int64} (l' : Array Slot) (hd : decode c.code pc = .ok (.lstore_n k, 1)) (hl : storeLocals L k.val (.long v) = some l') (hr : Steps p.tables e below (T.setTop (mkF m (pc + 1) l' S)) t) : Steps p.tables e below (T.setTop (mkF m pc L (.long v :: S))) t := XS.lstoreN X.here hx rfl hd rfl hl hr
theorem s_lstore (X : Stand p l e R s m args below meth c T locs cells slots) (hx : p.tables.exec = Jvm.exec) {k : Nat} {v : Int64} (l' : Array Slot) (hd : decode c.code pc = .ok (.lstore k, 2)) (hl : storeLocals L k (.long v) = some l') (hr : Steps p.tables e below (T.setTop (mkF m (pc + 2) l' S)) t) : Steps p.tables e below (T.setTop (mkF m pc L (.long v :: S))) t := XS.lstore X.here hx rfl hd rfl hl hr
theorem s_astore (X : Stand p l e R s m args below meth c T locs cells slots) (hx : p.tables.exec = Jvm.exec) {k : Nat} {v : Value} (l' : Array Slot) (hd : decode c.code pc = .ok (.astore k, 2)) (hv : v.isRef = true) (hl : storeLocals L k v = some l') (hr : Steps p.tables e below (T.setTop (mkF m (pc + 2) l' S)) t) : Steps p.tables e below (T.setTop (mkF m pc L (v :: S))) t := XS.astore X.here hx rfl hd rfl hv hl hr
theorem s_iadd (X : Stand p l e R s m args below meth c T locs cells slots) (hx : p.tables.exec = Jvm.exec) {x y : Int32} (v : Int32) (hd : decode c.code pc = .ok (.iadd, 1)) (hv : x + y = v) (hr : Steps p.tables e below (T.setTop (mkF m (pc + 1) L (.int v :: S))) t) : Steps p.tables e below (T.setTop (mkF m pc L (.int y :: .int x :: S))) t := by subst hv; exact XS.iadd X.here hx rfl hd rfl hr
theorem s_isub (X : Stand p l e R s m args below meth c T locs cells slots) (hx : p.tables.exec = Jvm.exec) {x y : Int32} (v : Int32) (hd : decode c.code pc = .ok (.isub, 1)) (hv : x - y = v) (hr : Steps p.tables e below (T.setTop (mkF m (pc + 1) L (.int v :: S))) t) : Steps p.tables e below (T.setTop (mkF m pc L (.int y :: .int x :: S))) t := by subst hv; exact XS.isub X.here hx rfl hd rfl hr
theorem s_iand (X : Stand p l e R s m args below meth c T locs cells slots) (hx : p.tables.exec = Jvm.exec) {x y : Int32} (v : Int32) (hd : decode c.code pc = .ok (.iand, 1)) (hv : x &&& y = v) (hr : Steps p.tables e below (T.setTop (mkF m (pc + 1) L (.int v :: S))) t) : Steps p.tables e below (T.setTop (mkF m pc L (.int y :: .int x :: S))) t := by subst hv; exact XS.iand X.here hx rfl hd rfl hr
theorem s_ishl (X : Stand p l e R s m args below meth c T locs cells slots) (hx : p.tables.exec = Jvm.exec) {x y : Int32} (v : Int32) (hd : decode c.code pc = .ok (.ishl, 1)) (hv : x <<< (y &&& 31) = v) (hr : Steps p.tables e below (T.setTop (mkF m (pc + 1) L (.int v :: S))) t) : Steps p.tables e below (T.setTop (mkF m pc L (.int y :: .int x :: S))) t := by subst hv; exact XS.ishl X.here hx rfl hd rfl hr
theorem s_ishr (X : Stand p l e R s m args below meth c T locs cells slots) (hx : p.tables.exec = Jvm.exec) {x y : Int32} (v : Int32) (hd : decode c.code pc = .ok (.ishr, 1)) (hv : x >>> (y &&& 31) = v) (hr : Steps p.tables e below (T.setTop (mkF m (pc + 1) L (.int v :: S))) t) : Steps p.tables e below (T.setTop (mkF m pc L (.int y :: .int x :: S))) t := by subst hv; exact XS.ishr X.here hx rfl hd rfl hr
theorem s_ladd (X : Stand p l e R s m args below meth c T locs cells slots) (hx : p.tables.exec = Jvm.exec) {x y : Int64} (v : Int64) (hd : decode c.code pc = .ok (.ladd, 1)) (hv : x + y = v) (hr : Steps p.tables e below (T.setTop (mkF m (pc + 1) L (.long v :: S))) t) : Steps p.tables e below (T.setTop (mkF m pc L (.long y :: .long x :: S))) t := by subst hv; exact XS.ladd X.here hx rfl hd rfl hr
theorem s_lsub (X : Stand p l e R s m args below meth c T locs cells slots) (hx : p.tables.exec = Jvm.exec) {x y : Int64} (v : Int64) (hd : decode c.code pc = .ok (.lsub, 1)) (hv : x - y = v) (hr : Steps p.tables e below (T.setTop (mkF m (pc + 1) L (.long v :: S))) t) : Steps p.tables e below (T.setTop (mkF m pc L (.long y :: .long x :: S))) t := by subst hv; exact XS.lsub X.here hx rfl hd rfl hr
theorem s_lxor (X : Stand p l e R s m args below meth c T locs cells slots) (hx : p.tables.exec = Jvm.exec) {x y : Int64} (v : Int64) (hd : decode c.code pc = .ok (.lxor, 1)) (hv : x ^^^ y = v) (hr : Steps p.tables e below (T.setTop (mkF m (pc + 1) L (.long v :: S))) t) : Steps p.tables e below (T.setTop (mkF m pc L (.long y :: .long x :: S))) t := by subst hv; exact XS.lxor X.here hx rfl hd rfl hr
theorem s_lshl (X : Stand p l e R s m args below meth c T locs cells slots) (hx : p.tables.exec = Jvm.exec) {x : Int64} {y : Int32} (v : Int64) (hd : decode c.code pc = .ok (.lshl, 1)) (hv : x <<< (y &&& 0x3f).toInt64 = v) (hr : Steps p.tables e below (T.setTop (mkF m (pc + 1) L (.long v :: S))) t) : Steps p.tables e below (T.setTop (mkF m pc L (.int y :: .long x :: S))) t := by subst hv; exact XS.lshl X.here hx rfl hd rfl hr
theorem s_lushr (X : Stand p l e R s m args below meth c T locs cells slots) (hx : p.tables.exec = Jvm.exec) {x : Int64} {y : Int32} (v : Int64) (hd : decode c.code pc = .ok (.lushr, 1)) (hv : (x.toUInt64 >>> (y &&& 0x3f).toInt64.toUInt64).toInt64 = v) (hr : Steps p.tables e below (T.setTop (mkF m (pc + 1) L (.long v :: S))) t) : Steps p.tables e below (T.setTop (mkF m pc L (.int y :: .long x :: S))) t := by subst hv; exact XS.lushr X.here hx rfl hd rfl hr
theorem s_l2i (X : Stand p l e R s m args below meth c T locs cells slots) (hx : p.tables.exec = Jvm.exec) {x : Int64} (v : Int32) (hd : decode c.code pc = .ok (.l2i, 1)) (hv : x.toInt32 = v) (hr : Steps p.tables e below (T.setTop (mkF m (pc + 1) L (.int v :: S))) t) : Steps p.tables e below (T.setTop (mkF m pc L (.long x :: S))) t := by subst hv; exact XS.l2i X.here hx rfl hd rfl hr
theorem s_lcmp (X : Stand p l e R s m args below meth c T locs cells slots) (hx : p.tables.exec = Jvm.exec) {x y : Int64} (v : Int32) (hd : decode c.code pc = .ok (.lcmp, 1)) (hv : lcmpW x y = v) (hr : Steps p.tables e below (T.setTop (mkF m (pc + 1) L (.int v :: S))) t) : Steps p.tables e below (T.setTop (mkF m pc L (.long y :: .long x :: S))) t := by subst hv; exact XS.lcmp X.here hx rfl hd rfl hr
theorem s_lconst (X : Stand p l e R s m args below meth c T locs cells slots) (hx : p.tables.exec = Jvm.exec) {k : Fin 2} (v : Int64) (hd : decode c.code pc = .ok (.lconst k, 1)) (hr : Steps p.tables e below (T.setTop (mkF m (pc + 1) L (.long v :: S))) t) (hv : k = 0 ∧ v = 0 ∨ k = 1 ∧ v = 1) : Steps p.tables e below (T.setTop (mkF m pc L S)) t := by
  rcases hv with ⟨rfl, rfl⟩ | ⟨rfl, rfl⟩
  · exact XS.lconst X.here hx rfl hd hr
  · exact XS.lconst X.here hx rfl hd hr
theorem s_iinc (X : Stand p l e R s m args below meth c T locs cells slots) (hx : p.tables.exec = Jvm.exec) {k : Nat} {cst : Int} {x : Int32} (v : Int32) (l' : Array Slot) (hd : decode c.code pc = .ok (.iinc k cst, 3)) (hl : L[k]? = some (.val (.int x))) (hv : x + Int32.ofInt cst = v) (hl' : storeLocals L k (.int v) = some l') (hr : Steps p.tables e below (T.setTop (mkF m (pc + 3) l' S)) t) : Steps p.tables e below (T.setTop (mkF m pc L S)) t := by subst hv; exact XS.iinc X.here hx rfl hd hl hl' hr
theorem s_goto (X : Stand p l e R s m args below meth c T locs cells slots) (hx : p.tables.exec = Jvm.exec) {o : Int} (pc' : Nat) (hd : decode c.code pc = .ok (.goto o, 3)) (ho : 0 ≤ (pc : Int) + o) (hp : ((pc : Int) + o).toNat = pc') (hr : Steps p.tables e below (T.setTop (mkF m pc' L S)) t) : Steps p.tables e below (T.setTop (mkF m pc L S)) t := XS.goto X.here hx rfl rfl hd ho hp hr
theorem s_ifY (X : Stand p l e R s m args below meth c T locs cells slots) (hx : p.tables.exec = Jvm.exec) {cd : ClassFile.Cond} {x : Int32} {o : Int} (pc' : Nat) (hd : decode c.code pc = .ok (.ifCond cd o, 3)) (hc : ifCond.holds cd x = true) (ho : 0 ≤ (pc : Int) + o) (hp : ((pc : Int) + o).toNat = pc') (hr : Steps p.tables e below (T.setTop (mkF m pc' L S)) t) : Steps p.tables e below (T.setTop (mkF m pc L (.int x :: S))) t := XS.ifYes X.here hx rfl rfl hd rfl hc ho hp hr
theorem s_ifN (X : Stand p l e R s m args below meth c T locs cells slots) (hx : p.tables.exec = Jvm.exec) {cd : ClassFile.Cond} {x : Int32} {o : Int} (hd : decode c.code pc = .ok (.ifCond cd o, 3)) (hc : ifCond.holds cd x = false) (hr : Steps p.tables e below (T.setTop (mkF m (pc + 3) L S)) t) : Steps p.tables e below (T.setTop (mkF m pc L (.int x :: S))) t := XS.ifNo X.here hx rfl hd rfl hc hr
theorem s_icmpY (X : Stand p l e R s m args below meth c T locs cells slots) (hx : p.tables.exec = Jvm.exec) {cd : ClassFile.Cond} {x y : Int32} {o : Int} (pc' : Nat) (hd : decode c.code pc = .ok (.if_icmp cd o, 3)) (hc : if_icmp.holds cd x y = true) (ho : 0 ≤ (pc : Int) + o) (hp : ((pc : Int) + o).toNat = pc') (hr : Steps p.tables e below (T.setTop (mkF m pc' L S)) t) : Steps p.tables e below (T.setTop (mkF m pc L (.int y :: .int x :: S))) t := XS.icmpYes X.here hx rfl rfl hd rfl hc ho hp hr
theorem s_icmpN (X : Stand p l e R s m args below meth c T locs cells slots) (hx : p.tables.exec = Jvm.exec) {cd : ClassFile.Cond} {x y : Int32} {o : Int} (hd : decode c.code pc = .ok (.if_icmp cd o, 3)) (hc : if_icmp.holds cd x y = false) (hr : Steps p.tables e below (T.setTop (mkF m (pc + 3) L S)) t) : Steps p.tables e below (T.setTop (mkF m pc L (.int y :: .int x :: S))) t := XS.icmpNo X.here hx rfl hd rfl hc hr
theorem s_nullY (X : Stand p l e R s m args below meth c T locs cells slots) (hx : p.tables.exec = Jvm.exec) {o : Int} (pc' : Nat) (hd : decode c.code pc = .ok (.ifnull o, 3)) (ho : 0 ≤ (pc : Int) + o) (hp : ((pc : Int) + o).toNat = pc') (hr : Steps p.tables e below (T.setTop (mkF m pc' L S)) t) : Steps p.tables e below (T.setTop (mkF m pc L (.null :: S))) t := XS.ifnullYes X.here hx rfl rfl hd rfl ho hp hr
theorem s_nullN (X : Stand p l e R s m args below meth c T locs cells slots) (hx : p.tables.exec = Jvm.exec) {o : Int} {b : Addr} (hd : decode c.code pc = .ok (.ifnull o, 3)) (hr : Steps p.tables e below (T.setTop (mkF m (pc + 3) L S)) t) : Steps p.tables e below (T.setTop (mkF m pc L (.ref b :: S))) t := XS.ifnullNo X.here hx rfl hd rfl hr
theorem s_nnullY (X : Stand p l e R s m args below meth c T locs cells slots) (hx : p.tables.exec = Jvm.exec) {o : Int} {b : Addr} (pc' : Nat) (hd : decode c.code pc = .ok (.ifnonnull o, 3)) (ho : 0 ≤ (pc : Int) + o) (hp : ((pc : Int) + o).toNat = pc') (hr : Steps p.tables e below (T.setTop (mkF m pc' L S)) t) : Steps p.tables e below (T.setTop (mkF m pc L (.ref b :: S))) t := XS.ifnonnullYes X.here hx rfl rfl hd rfl ho hp hr
theorem s_nnullN (X : Stand p l e R s m args below meth c T locs cells slots) (hx : p.tables.exec = Jvm.exec) {o : Int} (hd : decode c.code pc = .ok (.ifnonnull o, 3)) (hr : Steps p.tables e below (T.setTop (mkF m (pc + 3) L S)) t) : Steps p.tables e below (T.setTop (mkF m pc L (.null :: S))) t := XS.ifnonnullNo X.here hx rfl hd rfl hr
end Step
section Law
variable {p : Program} {l : Launch} {e : Env} {R : Room} {s : State} {m : MethodId} {args : Array Value} {below : List Frame} {meth : Method} {c : Code} {T t : State} {locs : List Loc} {cells slots : Nat} {pc : Nat} {Z : State} {a0 : Array Value} {h : Heap} {n0 : Nat} {o : Addr} {nA : Nat} {A : Nat → Addr} {F : Nat → Value} {V : Nat → List Value}
theorem own_gf (X : Stand p l e R s m args below meth c T locs cells slots) (hx : p.tables.exec = Jvm.exec) (hZ : Z.Warmed39 s.vm) {own : String} {index : Nat} (hown : s.vm.findClass own = some m.cls) (eT : T.heap = h) (P : own_PS Z h n0 o nA A F V) (k : Nat)
    (w : (Jvm.Cond.fieldLink own index (own_fC k) (own_fN k) (own_fD k)).before a0 Z = true) {v : Value} (hv : F k = v) (hd : decode c.code pc = .ok (.getfield index, 3)) (L : Array Slot) (S : List Value) (hk : k < 39 := by decide) :
    ∃ T', Stand p l e R s m args below meth c T' locs cells slots ∧ T'.heap = h ∧ ∀ t, Steps p.tables e below (T'.setTop (mkF m (pc + 3) L (v :: S))) t → Steps p.tables e below (T.setTop (mkF m pc L (.ref o :: S))) t :=
  getF X hx hZ hown (host := "") (Or.inl w) Via.refl eT (own_f P k hv hk) (g := mkF m pc L (.ref o :: S)) rfl rfl hd
theorem own_put (X : Stand p l e R s m args below meth c T locs cells slots) (hx : p.tables.exec = Jvm.exec) (hZ : Z.Warmed39 s.vm) (hw : ∀ d ∈ tables_1, d.before a0 Z = true) {own : String} {index : Nat} (hown : s.vm.findClass own = some m.cls) (eT : T.heap = h) (N : Fr n0 locs) (P : own_PS Z h n0 o nA A F V) (k : Nat)
    (w : (Jvm.Cond.fieldLink own index (own_fC k) (own_fN k) (own_fD k)).before a0 Z = true) (hl : (Jvm.Cond.lays own_K (own_fC k) (own_fN k) (own_fD k)).before a0 Z = true ∨ ((Jvm.Cond.laysFinal own_K (own_fC k) (own_fN k) (own_fD k)).before a0 Z = true ∧ own = own_fC k ∧ meth.name = "<init>"))
    {v : Value} (hd : decode c.code pc = .ok (.putfield index, 3)) (L : Array Slot) (S : List Value) (hn : narrow (own_FT k) v = v) (hf : fits (own_FT k) v = true) (hk : k < 39) :
    ∃ T' h' locs', Stand p l e R s m args below meth c T' locs' cells slots ∧ T'.heap = h' ∧ Fr n0 locs' ∧ Wr h h' o (Jvm.RoadKit.slotOf Z (own_fC k) (own_fN k) (own_fD k)) v ∧ ∀ t, Steps p.tables e below (T'.setTop (mkF m (pc + 3) L S)) t → Steps p.tables e below (T.setTop (mkF m pc L (v :: .ref o :: S))) t := by
  obtain ⟨T', h', X', e', W, st⟩ := putF X hx hZ hown (host := "") (Or.inl w) Via.refl eT (own_f P k rfl hk) P.1 hl (own_w hw 1) (own_fdp ⟨k, hk⟩) hn hf (g := mkF m pc L (v :: .ref o :: S)) rfl rfl hd
  exact ⟨T', h', _, X', e', Fr.snoc X' N P.2.1, W, st⟩
theorem own_pp (X : Stand p l e R s m args below meth c T locs cells slots) (hx : p.tables.exec = Jvm.exec) (hZ : Z.Warmed39 s.vm) (hw : ∀ d ∈ tables_1, d.before a0 Z = true) {own : String} {index : Nat} (hown : s.vm.findClass own = some m.cls) (eT : T.heap = h) (N : Fr n0 locs) (P : own_PS Z h n0 o nA A F V) (k : Nat)
    (w : (Jvm.Cond.fieldLink own index (own_fC k) (own_fN k) (own_fD k)).before a0 Z = true) (hl : (Jvm.Cond.lays own_K (own_fC k) (own_fN k) (own_fD k)).before a0 Z = true ∨ ((Jvm.Cond.laysFinal own_K (own_fC k) (own_fN k) (own_fD k)).before a0 Z = true ∧ own = own_fC k ∧ meth.name = "<init>"))
    {v : Value} (hd : decode c.code pc = .ok (.putfield index, 3)) (L : Array Slot) (S : List Value) (hn : narrow (own_FT k) v = v) (hf : fits (own_FT k) v = true) (hA : nA ≤ k) (hk : k < 39 := by decide) :
    ∃ T' h' locs', Stand p l e R s m args below meth c T' locs' cells slots ∧ T'.heap = h' ∧ Fr n0 locs' ∧ own_PS Z h' n0 o nA A (own_up F k v) V ∧ ∀ t, Steps p.tables e below (T'.setTop (mkF m (pc + 3) L S)) t → Steps p.tables e below (T.setTop (mkF m pc L (v :: .ref o :: S))) t := by
  obtain ⟨T', h', l', X', e', N', W, st⟩ := own_put X hx hZ hw hown eT N P k w hl hd L S hn hf hk
  exact ⟨T', h', l', X', e', N', own_pf hw P k W hk hA, st⟩
theorem own_ial (X : Stand p l e R s m args below meth c T locs cells slots) (hx : p.tables.exec = Jvm.exec) (hZ : Z.Warmed39 s.vm) (eT : T.heap = h) (P : own_PS Z h n0 o nA A F V) (k i : Nat) {j : Int32} {v : Value} {L : Array Slot} {S : List Value} (hv : (V k).getD i (own_aZ k) = v) (hd : decode c.code pc = .ok (.iaload, 1)) (hk : k < nA)
    (hr : Steps p.tables e below (T.setTop (mkF m (pc + 1) L (v :: S))) t) (hT : own_aT k = .int := by rfl) (hj : j.toNatClampNeg = i := by decide) (h0 : ¬ j < 0 := by decide) (hi : i < (own_aL k).toNatClampNeg := by decide) : Steps p.tables e below (T.setTop (mkF m pc L (.int j :: .ref (A k) :: S))) t := by
  obtain ⟨cl, Ar, hin, hat⟩ := own_l P k hk i hv hj h0 hi
  rw [hT] at Ar
  exact X.iaload hx (by rw [eT]; exact Ar.1) (State.isArrayOf_alike hZ.alike Ar.2.1) Ar.2.2 hin hat (g := mkF m pc L (.int j :: .ref (A k) :: S)) rfl rfl hd _ hr
theorem own_lal (X : Stand p l e R s m args below meth c T locs cells slots) (hx : p.tables.exec = Jvm.exec) (hZ : Z.Warmed39 s.vm) (eT : T.heap = h) (P : own_PS Z h n0 o nA A F V) (k i : Nat) {j : Int32} {v : Value} {L : Array Slot} {S : List Value} (hv : (V k).getD i (own_aZ k) = v) (hd : decode c.code pc = .ok (.laload, 1)) (hk : k < nA)
    (hr : Steps p.tables e below (T.setTop (mkF m (pc + 1) L (v :: S))) t) (hT : own_aT k = .long := by rfl) (hj : j.toNatClampNeg = i := by decide) (h0 : ¬ j < 0 := by decide) (hi : i < (own_aL k).toNatClampNeg := by decide) : Steps p.tables e below (T.setTop (mkF m pc L (.int j :: .ref (A k) :: S))) t := by
  obtain ⟨cl, Ar, hin, hat⟩ := own_l P k hk i hv hj h0 hi
  rw [hT] at Ar
  exact X.laload hx (by rw [eT]; exact Ar.1) (State.isArrayOf_alike hZ.alike Ar.2.1) Ar.2.2 hin hat (g := mkF m pc L (.int j :: .ref (A k) :: S)) rfl rfl hd _ hr
theorem own_zal (X : Stand p l e R s m args below meth c T locs cells slots) (hx : p.tables.exec = Jvm.exec) (hZ : Z.Warmed39 s.vm) (eT : T.heap = h) (P : own_PS Z h n0 o nA A F V) (k i : Nat) {j : Int32} {v : Value} {L : Array Slot} {S : List Value} (hv : (V k).getD i (own_aZ k) = v) (hd : decode c.code pc = .ok (.baload, 1)) (hk : k < nA)
    (hr : Steps p.tables e below (T.setTop (mkF m (pc + 1) L (v :: S))) t) (hT : own_aT k = .boolean := by rfl) (hj : j.toNatClampNeg = i := by decide) (h0 : ¬ j < 0 := by decide) (hi : i < (own_aL k).toNatClampNeg := by decide) : Steps p.tables e below (T.setTop (mkF m pc L (.int j :: .ref (A k) :: S))) t := by
  obtain ⟨cl, Ar, hin, hat⟩ := own_l P k hk i hv hj h0 hi
  rw [hT] at Ar
  exact X.baloadBooleans hx (by rw [eT]; exact Ar.1) (State.isArrayOf_alike hZ.alike Ar.2.1) Ar.2.2 hin hat (g := mkF m pc L (.int j :: .ref (A k) :: S)) rfl rfl hd _ hr
theorem own_al (X : Stand p l e R s m args below meth c T locs cells slots) (hx : p.tables.exec = Jvm.exec) (hZ : Z.Warmed39 s.vm) (eT : T.heap = h) (P : own_PS Z h n0 o nA A F V) (k : Nat) (z : Int32) {L : Array Slot} {S : List Value} (hd : decode c.code pc = .ok (.arraylength, 1)) (hk : k < nA) (hz : own_aL k = z)
    (hr : Steps p.tables e below (T.setTop (mkF m (pc + 1) L (.int z :: S))) t) : Steps p.tables e below (T.setTop (mkF m pc L (.ref (A k) :: S))) t := by
  obtain ⟨e1, c1, cl, Ar, q, S1, M, Ha, G⟩ := P.2.2.2.2.1 k hk
  refine X.arraylength hx (by rw [eT]; exact Ar.1) (State.isArrayOf_alike hZ.alike Ar.2.1) (g := mkF m pc L (.ref (A k) :: S)) rfl rfl hd _ ?_
  rw [len_of S1 M, hz]; exact hr
theorem own_ist (X : Stand p l e R s m args below meth c T locs cells slots) (hx : p.tables.exec = Jvm.exec) (hZ : Z.Warmed39 s.vm) (eT : T.heap = h) (N : Fr n0 locs) (P : own_PS Z h n0 o nA A F V) (k i : Nat) {j x : Int32} (hd : decode c.code pc = .ok (.iastore, 1)) (L : Array Slot) (S : List Value) (hk : k < nA)
    (hT : own_aT k = .int := by rfl) (hj : j.toNatClampNeg = i := by decide) (h0 : ¬ j < 0 := by decide) (hi : i < (own_aL k).toNatClampNeg := by decide) :
    ∃ T' h' locs', Stand p l e R s m args below meth c T' locs' cells slots ∧ T'.heap = h' ∧ Fr n0 locs' ∧ own_PS Z h' n0 o nA A F (own_vs V k i (.int x)) ∧ ∀ t, Steps p.tables e below (T'.setTop (mkF m (pc + 1) L S)) t → Steps p.tables e below (T.setTop (mkF m pc L (.int x :: .int j :: .ref (A k) :: S))) t := by
  obtain ⟨cl, Ar, hin, hat⟩ := own_l P k hk i rfl hj h0 hi
  rw [hT] at Ar
  obtain ⟨T', h', X', e', W, st⟩ := stI X hx hZ eT Ar hin (g := mkF m pc L (.int x :: .int j :: .ref (A k) :: S)) rfl rfl hd
  exact ⟨T', h', _, X', e', Fr.snoc X' N (P.2.2.2.2.2.1 k hk).1, own_pa P k i W (by rw [hT]; rfl) hj hi hk, st⟩
theorem own_lst (X : Stand p l e R s m args below meth c T locs cells slots) (hx : p.tables.exec = Jvm.exec) (hZ : Z.Warmed39 s.vm) (eT : T.heap = h) (N : Fr n0 locs) (P : own_PS Z h n0 o nA A F V) (k i : Nat) {j : Int32} {x : Int64} (hd : decode c.code pc = .ok (.lastore, 1)) (L : Array Slot) (S : List Value) (hk : k < nA)
    (hT : own_aT k = .long := by rfl) (hj : j.toNatClampNeg = i := by decide) (h0 : ¬ j < 0 := by decide) (hi : i < (own_aL k).toNatClampNeg := by decide) :
    ∃ T' h' locs', Stand p l e R s m args below meth c T' locs' cells slots ∧ T'.heap = h' ∧ Fr n0 locs' ∧ own_PS Z h' n0 o nA A F (own_vs V k i (.long x)) ∧ ∀ t, Steps p.tables e below (T'.setTop (mkF m (pc + 1) L S)) t → Steps p.tables e below (T.setTop (mkF m pc L (.long x :: .int j :: .ref (A k) :: S))) t := by
  obtain ⟨cl, Ar, hin, hat⟩ := own_l P k hk i rfl hj h0 hi
  rw [hT] at Ar
  obtain ⟨T', h', X', e', W, st⟩ := stJ X hx hZ eT Ar hin (g := mkF m pc L (.long x :: .int j :: .ref (A k) :: S)) rfl rfl hd
  exact ⟨T', h', _, X', e', Fr.snoc X' N (P.2.2.2.2.2.1 k hk).1, own_pa P k i W (by rw [hT]; rfl) hj hi hk, st⟩
theorem own_zst (X : Stand p l e R s m args below meth c T locs cells slots) (hx : p.tables.exec = Jvm.exec) (hZ : Z.Warmed39 s.vm) (eT : T.heap = h) (N : Fr n0 locs) (P : own_PS Z h n0 o nA A F V) (k i : Nat) {j : Int32} (hd : decode c.code pc = .ok (.bastore, 1)) (L : Array Slot) (S : List Value) (hk : k < nA)
    (hT : own_aT k = .boolean := by rfl) (hj : j.toNatClampNeg = i := by decide) (h0 : ¬ j < 0 := by decide) (hi : i < (own_aL k).toNatClampNeg := by decide) :
    ∃ T' h' locs', Stand p l e R s m args below meth c T' locs' cells slots ∧ T'.heap = h' ∧ Fr n0 locs' ∧ own_PS Z h' n0 o nA A F (own_vs V k i (.int (1 : Int32))) ∧ ∀ t, Steps p.tables e below (T'.setTop (mkF m (pc + 1) L S)) t → Steps p.tables e below (T.setTop (mkF m pc L (.int (1 : Int32) :: .int j :: .ref (A k) :: S))) t := by
  obtain ⟨cl, Ar, hin, hat⟩ := own_l P k hk i rfl hj h0 hi
  rw [hT] at Ar
  obtain ⟨T', h', X', e', W, st⟩ := stZ X hx hZ eT Ar hin (g := mkF m pc L (.int (1 : Int32) :: .int j :: .ref (A k) :: S)) rfl rfl hd
  have W' : Wr h h' (A k) j.toNatClampNeg (.int (1 : Int32)) := W
  exact ⟨T', h', _, X', e', Fr.snoc X' N (P.2.2.2.2.2.1 k hk).1, own_pa P k i W' (by rw [hT]; rfl) hj hi hk, st⟩
theorem own_cp (X : Stand p l e R s m args below meth c T locs cells slots) (hx : p.tables.exec = Jvm.exec) (hZ : Z.Warmed39 s.vm) (hw : ∀ d ∈ tables_1, d.before a0 Z = true) (hown : s.vm.findClass own_K = some m.cls) (eT : T.heap = h) (N : Fr n0 locs) (P : own_PS Z h n0 o nA A F V) (k : Nat) {sp dp : Int32} (hd : decode c.code pc = .ok (.invokestatic 178, 3)) (L : Array Slot) (S : List Value) (hk : k < nA)
    (hT : refKind (own_aT k) = false) (h1 : ¬ sp < 0) (h2 : ¬ dp < 0) (h4 : sp.toNatClampNeg ≤ (own_aL k).toNatClampNeg) (h5 : dp.toNatClampNeg ≤ (own_aL k).toNatClampNeg) (hsize : L.size = c.maxLocals) (hS : S = []) (hf : 1 ≤ R.frames) (hlo : 0 + (nativeFrameWords "java/lang/System" "arraycopy" 5 + 11) ≤ R.locals) :
    ∃ T' h' locs', Stand p l e R s m args below meth c T' locs' cells slots ∧ T'.heap = h' ∧ Fr n0 locs' ∧ own_PS Z h' n0 o nA A F V ∧ ∀ t, Steps p.tables e below (T'.setTop (mkF m (pc + 3) L S)) t → Steps p.tables e below (T.setTop (mkF m pc L (.int (0 : Int32) :: .int dp :: .ref (A k) :: .int sp :: .ref (A k) :: S))) t := by
  subst hS
  obtain ⟨e1, c1, Av⟩ := P.2.2.2.2.1 k hk
  obtain ⟨T', h', L', X', e', N', K, Av', st⟩ := cpA X hx hZ hown (own_w hw 200) (own_w hw 203) (own_w hw 201) (own_w hw 202) eT (sp := sp) (dp := dp) (nn := 0) (us := []) Av Av (Or.inl ⟨rfl, hT⟩) h1 h2 (by decide) h4 h5 rfl (by rw [e1]; exact h5) N (P.2.2.2.2.2.1 k hk).1 (g := mkF m pc L (.int (0 : Int32) :: .int dp :: .ref (A k) :: .int sp :: .ref (A k) :: [])) rfl hsize rfl hd hf (W := 0) (by show 2 * 0 + _ ≤ _; exact Nat.le_of_eq rfl) hlo
  have ez : (0 : Int32).toNatClampNeg = 0 := rfl
  rw [ez, Nat.add_zero, List.append_nil, List.take_append_drop] at Av'
  obtain ⟨p1, p2, p3, p4, p5, p6, p7⟩ := P
  refine ⟨T', h', L', X', e', N', ⟨p1.keep K, p2, fun i hi => (p3 i hi).keep K (ninS (p6 k hk).2 nin0), p4, fun i hi => ?_, p6, p7⟩, st⟩
  by_cases q : i = k
  · subst q; exact ⟨e1, c1, Av'⟩
  · exact ⟨(p5 i hi).1, (p5 i hi).2.imp fun c r => r.keep K (ninS (p7 i k hi hk q) nin0)⟩
end Law
theorem own_psel {s : State} {args : Array Value} {C : String} {y z : MethodName} (hs : (Jvm.Cond.selects C z z).before args s = true) (hp : (Jvm.Cond.privateMethod y).before args s = true) (hi : (Jvm.Cond.instanceMethod y).before args s = true) (e : y.cls = z.cls) (hy : y.cls ≠ "java/lang/invoke/MethodHandle" ∧ y.cls ≠ "java/lang/invoke/VarHandle") : (Jvm.Cond.selects y.cls y y).before args s = true := by
  obtain ⟨c2, r2, m2, q1, q2, q3, q4, kP, hkP, hkPi⟩ := Cond.selects_spec hs
  exact selects_self_of_private (by rw [e]; exact findClass_of_methodNamed q3) hkP hkPi (Cond.privateMethod_at hp) hi hy
theorem own_nf {s : State} {args : Array Value} {C : String} {y z : MethodName} (hs : (Jvm.Cond.selects C z z).before args s = true) (e : y.cls = z.cls) : NotFace s y := fun r0 h0 => by
  obtain ⟨c2, r2, m2, q1, q2, q3, q4, kP, hkP, hkPi⟩ := Cond.selects_spec hs
  have h1 := findClass_of_methodNamed h0
  rw [e] at h1
  have h2 : r0.cls = m2.cls := Option.some.inj (h1.symm.trans (findClass_of_methodNamed q3))
  exact ⟨kP, by rw [h2]; exact hkP, hkPi⟩
def own_F0 (k : Nat) : Value := defaultValue (own_FT k)
def own_V0 (k : Nat) : List Value := List.replicate (own_aL k).toNatClampNeg (own_aZ k)
theorem own_v0 (k i : Nat) : (own_V0 k).getD i (own_aZ k) = own_aZ k := by
  simp only [own_V0, List.getD_eq_getElem?_getD, List.getElem?_replicate]; split <;> rfl
def own_Ini (F : Nat → Value) : Prop := F 14 = (.int (0 : Int32)) ∧ F 15 = (.int (0 : Int32)) ∧ F 16 = (.int (0 : Int32)) ∧ F 17 = (.int (1 : Int32)) ∧ F 18 = (.long (-7046029254386353131 : Int64)) ∧ F 19 = (.int (1 : Int32)) ∧ F 20 = (.int (2 : Int32)) ∧ F 21 = (.int (0 : Int32)) ∧ F 22 = (.long (0 : Int64)) ∧ F 23 = (.int (0 : Int32)) ∧ F 24 = (.int (0 : Int32)) ∧ F 25 = (.int (0 : Int32)) ∧ F 26 = (.int (0 : Int32)) ∧ F 27 = (.int (0 : Int32))
theorem own_pcg {Z : State} {h : Heap} {n0 : Nat} {o : Addr} {nA : Nat} {A : Nat → Addr} {F : Nat → Value} {V V' : Nat → List Value} (P : own_PS Z h n0 o nA A F V) (e : ∀ k, k < nA → V k = V' k) : own_PS Z h n0 o nA A F V' := by
  obtain ⟨p1, p2, p3, p4, p5, p6, p7⟩ := P
  exact ⟨p1, p2, p3, p4, fun k hk => by rw [← e k hk]; exact p5 k hk, p6, p7⟩
theorem own_pk1 {Z : State} {h h1 h2 : Heap} {n0 : Nat} {o : Addr} {nA : Nat} {A : Nat → Addr} {F : Nat → Value} {V : Nat → List Value} (P : own_PS Z h n0 o nA A F V) {x : Addr} (gx : x = h.size) (E : Ext h h1) (K : Keep h1 h2 [x]) : own_PS Z h2 n0 o nA A F V := by
  refine own_pk (own_px P E) K (ninS (by rw [gx]; exact Nat.ne_of_lt P.1.lt) nin0) fun k hk => ninS ?_ nin0
  obtain ⟨-, c, q⟩ := P.2.2.2.2.1 k hk
  rw [gx]; exact Nat.ne_of_lt q.lt
section Make
variable {p : Program} {l : Launch} {e : Env} {R : Room} {s : State} {m : MethodId} {args : Array Value} {below : List Frame} {meth : Method} {c : Code} {T t : State} {locs : List Loc} {cells slots : Nat} {pc : Nat} {Z : State} {a0 : Array Value} {h : Heap}
theorem own_na (X : Stand p l e R s m args below meth c T locs cells slots) (hx : p.tables.exec = Jvm.exec) (hZ : Z.Warmed39 s.vm) (eT : T.heap = h) {aty : ArrayType} (w : (Jvm.Cond.arrayClass (newarray.typeOf aty)).before a0 Z = true) (n : Int32) (cap : Nat) (hd : decode c.code pc = .ok (.newarray aty, 2)) (L : Array Slot) (S : List Value)
    (hn : ¬ n < 0) (hcap : n.toNatClampNeg = cap) (hb : cap * 8 ≤ 536870912) (hc : cells + 1 ≤ R.cells) (hl : slots + cap ≤ R.slots) :
    ∃ T' h' b cA, Stand p l e R s m args below meth c T' locs (cells + 1) (slots + cap) ∧ T'.heap = h' ∧ Ext h h' ∧ b = h.size ∧ Arv Z h' b cA (newarray.typeOf aty) n (List.replicate cap (defaultValue (newarray.typeOf aty))) (defaultValue (newarray.typeOf aty)) ∧
      ∀ t, Steps p.tables e below (T'.setTop (mkF m (pc + 2) L (.ref b :: S))) t → Steps p.tables e below (T.setTop (mkF m pc L (.int n :: S))) t := by
  obtain ⟨T', h', k, X', e', E, A, st⟩ := newP X hx hZ w eT (g := mkF m pc L (.int n :: S)) rfl hd rfl hn (Nat.le_of_eq hcap) hb hc hl
  exact ⟨T', h', _, k, X', e', E, rfl, (Arv.new A hn).pad (pad_rep [] _ cap), st⟩
theorem own_nr (X : Stand p l e R s m args below meth c T locs cells slots) (hx : p.tables.exec = Jvm.exec) (hZ : Z.Warmed39 s.vm) {own C : String} {index : Nat} (hown : s.vm.findClass own = some m.cls) (eT : T.heap = h) (w1 : (Jvm.Cond.classLink own index C).before a0 Z = true) (w2 : (Jvm.Cond.arrayOver (.object C)).before a0 Z = true) (n : Int32) (cap : Nat) (hd : decode c.code pc = .ok (.anewarray index, 3)) (L : Array Slot) (S : List Value)
    (hn : ¬ n < 0) (hcap : n.toNatClampNeg ≤ cap) (hb : cap * 8 ≤ 536870912) (hc : cells + 1 ≤ R.cells) (hl : slots + cap ≤ R.slots) :
    ∃ T' h' b, Stand p l e R s m args below meth c T' locs (cells + 1) (slots + cap) ∧ T'.heap = h' ∧ Ext h h' ∧ b = h.size ∧
      ∀ t, Steps p.tables e below (T'.setTop (mkF m (pc + 3) L (.ref b :: S))) t → Steps p.tables e below (T.setTop (mkF m pc L (.int n :: S))) t := by
  obtain ⟨T', h', k, X', e', E, A, O, st⟩ := newR X hx hZ hown w1 w2 eT (g := mkF m pc L (.int n :: S)) rfl hd rfl hn hcap hb hc hl
  exact ⟨T', h', _, X', e', E, rfl, st⟩
end Make
def own_sN (k : Nat) : String := ["prefixLevels", "prefixEnds", "suffixLevels", "suffixStarts", "innerLevels", "innerLengths"].getD k ""
def own_sD (k : Nat) : String := ["[I", "[J", "[I", "[J", "[I", "[J"].getD k ""
abbrev own_SS : String := "com/example/jobwright/jobwright/policies/StepSummary"
def own_SF (Z : State) (h : Heap) (x : Addr) : Prop := Exa Z h x own_SS ∧ ∀ k, k < 6 → ∃ v, Fld Z h x own_SS (own_sN k) (own_sD k) v
theorem own_sx {Z : State} {h h' : Heap} {x : Addr} (P : own_SF Z h x) (E : Ext h h') : own_SF Z h' x := ⟨P.1.ext E, fun k hk => (P.2 k hk).imp fun v q => q.ext E⟩
theorem own_sw {Z : State} {h h' : Heap} {x : Addr} {sl : Nat} {w : Value} (P : own_SF Z h x) (W : Wr h h' x sl w) : own_SF Z h' x := by
  refine ⟨P.1.wr W, fun k hk => ?_⟩
  obtain ⟨v, q⟩ := P.2 k hk
  by_cases e : Jvm.RoadKit.slotOf Z own_SS (own_sN k) (own_sD k) = sl
  · subst e; exact ⟨_, q.same W⟩
  · exact ⟨_, q.other W (Or.inr e)⟩
theorem own_leq {x y : Int64} : lcmpW x y = (0 : Int32) ↔ x = y := by rw [lcW]; exact lc_eq x y
theorem own_ad {a b : Int32} : a + b = a ↔ b = (0 : Int32) := by
  constructor
  · intro q
    have h1 := c_iadd a b
    rw [q] at h1
    apply Int32.toInt_inj.mp
    have := b.toInt_lt; have := b.le_toInt; have e0 : (0 : Int32).toInt = 0 := rfl
    omega
  · rintro rfl; exact Int32.add_zero a
theorem own_adL {a b : Int64} : a + b = a ↔ b = (0 : Int64) := by
  constructor
  · intro q
    have h1 := c_ladd a b
    rw [q] at h1
    apply Int64.toInt_inj.mp
    have := b.toInt_lt; have := b.le_toInt; have e0 : (0 : Int64).toInt = 0 := rfl
    omega
  · rintro rfl; exact Int64.add_zero a
theorem own_az {b : Int32} : (0 : Int32) + b = (0 : Int32) ↔ b = (0 : Int32) := by rw [Int32.zero_add]
theorem own_azL {b : Int64} : (0 : Int64) + b = (0 : Int64) ↔ b = (0 : Int64) := by rw [Int64.zero_add]
theorem own_pd0 : parseMethodDescriptor "(I)V" = some ⟨[.int], none⟩ := by decide +kernel
theorem own_pd1 : parseMethodDescriptor "()V" = some ⟨[], none⟩ := by decide +kernel
theorem own_pd2 : parseMethodDescriptor "(IIZ)V" = some ⟨[.int, .int, .boolean], none⟩ := by decide +kernel
theorem own_pd3 : parseMethodDescriptor "(II)V" = some ⟨[.int, .int], none⟩ := by decide +kernel
theorem own_pd4 : parseMethodDescriptor "()I" = some ⟨[], some .int⟩ := by decide +kernel
theorem own_pd5 : parseMethodDescriptor "(I)I" = some ⟨[.int], some .int⟩ := by decide +kernel
theorem own_pd6 : parseMethodDescriptor "(I)J" = some ⟨[.int], some .long⟩ := by decide +kernel
theorem own_pd7 : parseMethodDescriptor "(I)Z" = some ⟨[.int], some .boolean⟩ := by decide +kernel
theorem own_pd8 : parseMethodDescriptor "(II)I" = some ⟨[.int, .int], some .int⟩ := by decide +kernel
theorem own_pd9 : parseMethodDescriptor "(JIJ)V" = some ⟨[.long, .int, .long], none⟩ := by decide +kernel
theorem own_pd10 : parseMethodDescriptor "(IJ)I" = some ⟨[.int, .long], some .int⟩ := by decide +kernel
theorem own_pd11 : parseMethodDescriptor "(II)Z" = some ⟨[.int, .int], some .boolean⟩ := by decide +kernel
theorem own_pd12 : parseMethodDescriptor "(IIIJ)V" = some ⟨[.int, .int, .int, .long], none⟩ := by decide +kernel
theorem own_pd13 : parseMethodDescriptor "(IIJ)V" = some ⟨[.int, .int, .long], none⟩ := by decide +kernel
theorem own_pn0 : plainName "com/example/jobwright/jobwright/policies/StepSummary" = true := by first | (simp [plainName, overriddenIn]; done) | decide +kernel
theorem own_pn1 : plainName "com/example/jobwright/jobwright/policies/Treap" = true := by first | (simp [plainName, overriddenIn]; done) | decide +kernel
theorem own_pn2 : plainName "com/example/jobwright/jobwright/policies/ProfileSteps" = true := by first | (simp [plainName, overriddenIn]; done) | decide +kernel
theorem own_pn3 : plainName "com/example/jobwright/jobwright/policies/ProfileStepsSameAsBeforePinLaw" = true := by first | (simp [plainName, overriddenIn]; done) | decide +kernel
abbrev own_y0 : MethodName := ⟨"com/example/jobwright/jobwright/policies/StepSummary", "<init>", "()V"⟩
abbrev own_y1 : MethodName := ⟨"com/example/jobwright/jobwright/policies/Treap", "<init>", "(I)V"⟩
abbrev own_y2 : MethodName := ⟨"com/example/jobwright/jobwright/policies/ProfileSteps", "<init>", "(IIZ)V"⟩
abbrev own_y3 : MethodName := ⟨"com/example/jobwright/jobwright/policies/Treap", "clearNodes", "()V"⟩
abbrev own_y4 : MethodName := ⟨"com/example/jobwright/jobwright/policies/Treap", "right", "(I)I"⟩
abbrev own_y5 : MethodName := ⟨"com/example/jobwright/jobwright/policies/ProfileSteps", "clearNodes", "()V"⟩
abbrev own_y6 : MethodName := ⟨"com/example/jobwright/jobwright/policies/ProfileSteps", "ensureCapacity", "(I)V"⟩
abbrev own_y7 : MethodName := ⟨"com/example/jobwright/jobwright/policies/Treap", "ensureCapacity", "(I)V"⟩
abbrev own_y8 : MethodName := ⟨"com/example/jobwright/jobwright/policies/Treap", "setLeft", "(II)V"⟩
abbrev own_y9 : MethodName := ⟨"com/example/jobwright/jobwright/policies/Treap", "setRight", "(II)V"⟩
abbrev own_y10 : MethodName := ⟨"com/example/jobwright/jobwright/policies/Treap", "nextWeight", "()I"⟩
abbrev own_y11 : MethodName := ⟨"com/example/jobwright/jobwright/policies/Treap", "newNode", "()I"⟩
abbrev own_y12 : MethodName := ⟨"com/example/jobwright/jobwright/policies/ProfileSteps", "newNode", "()I"⟩
abbrev own_y13 : MethodName := ⟨"com/example/jobwright/jobwright/policies/Treap", "left", "(I)I"⟩
abbrev own_y14 : MethodName := ⟨"com/example/jobwright/jobwright/policies/ProfileSteps", "left", "(I)I"⟩
abbrev own_y15 : MethodName := ⟨"com/example/jobwright/jobwright/policies/ProfileSteps", "right", "(I)I"⟩
abbrev own_y16 : MethodName := ⟨"com/example/jobwright/jobwright/policies/ProfileSteps", "rise", "(I)I"⟩
abbrev own_y17 : MethodName := ⟨"com/example/jobwright/jobwright/policies/ProfileSteps", "clear", "(JIJ)V"⟩
abbrev own_y18 : MethodName := ⟨"com/example/jobwright/jobwright/policies/ProfileSteps", "memoryRise", "(I)J"⟩
abbrev own_y19 : MethodName := ⟨"com/example/jobwright/jobwright/policies/ProfileSteps", "markSubtreeStale", "(I)V"⟩
abbrev own_y20 : MethodName := ⟨"com/example/jobwright/jobwright/policies/ProfileSteps", "pull", "(I)Z"⟩
abbrev own_y21 : MethodName := ⟨"com/example/jobwright/jobwright/policies/Treap", "pull", "(I)Z"⟩
abbrev own_y22 : MethodName := ⟨"com/example/jobwright/jobwright/policies/Treap", "insert", "(II)I"⟩
abbrev own_y23 : MethodName := ⟨"com/example/jobwright/jobwright/policies/Treap", "insertNode", "(I)V"⟩
abbrev own_y24 : MethodName := ⟨"com/example/jobwright/jobwright/policies/ProfileSteps", "insertNode", "(I)V"⟩
abbrev own_y25 : MethodName := ⟨"com/example/jobwright/jobwright/policies/ProfileSteps", "first", "()I"⟩
abbrev own_y26 : MethodName := ⟨"com/example/jobwright/jobwright/policies/ProfileSteps", "changed", "(I)V"⟩
abbrev own_y27 : MethodName := ⟨"com/example/jobwright/jobwright/policies/ProfileSteps", "split", "(IJ)I"⟩
abbrev own_y28 : MethodName := ⟨"com/example/jobwright/jobwright/policies/ProfileSteps", "newBlockAfter", "(I)I"⟩
abbrev own_y29 : MethodName := ⟨"com/example/jobwright/jobwright/policies/ProfileSteps", "time", "(I)J"⟩
abbrev own_y30 : MethodName := ⟨"com/example/jobwright/jobwright/policies/ProfileSteps", "precedes", "(II)Z"⟩
abbrev own_y31 : MethodName := ⟨"com/example/jobwright/jobwright/policies/Treap", "precedes", "(II)Z"⟩
abbrev own_y32 : MethodName := ⟨"com/example/jobwright/jobwright/policies/Treap", "weight", "(I)I"⟩
abbrev own_y33 : MethodName := ⟨"com/example/jobwright/jobwright/policies/Treap", "pullOnPath", "(I)V"⟩
abbrev own_y34 : MethodName := ⟨"com/example/jobwright/jobwright/policies/ProfileSteps", "addWithin", "(IIIJ)V"⟩
abbrev own_y35 : MethodName := ⟨"com/example/jobwright/jobwright/policies/Treap", "root", "()I"⟩
abbrev own_y36 : MethodName := ⟨"com/example/jobwright/jobwright/policies/ProfileSteps", "root", "()I"⟩
abbrev own_y37 : MethodName := ⟨"com/example/jobwright/jobwright/policies/ProfileSteps", "raiseRise", "(IIJ)V"⟩
abbrev own_y38 : MethodName := ⟨"com/example/jobwright/jobwright/policies/ProfileSteps", "raiseBasesAfter", "(IIJ)V"⟩
abbrev own_y39 : MethodName := ⟨"com/example/jobwright/jobwright/policies/ProfileSteps", "add", "(IIIJ)V"⟩
abbrev own_y40 : MethodName := ⟨"com/example/jobwright/jobwright/policies/ProfileSteps", "sameAsBefore", "(I)Z"⟩
abbrev bc1 := prog_152_method_1_code
theorem d1_0 : decode bc1 0 = .ok (.aload_n 0, 1) := by decide +kernel
theorem d1_1 : decode bc1 1 = .ok (.iload_n 2, 1) := by decide +kernel
theorem d1_2 : decode bc1 2 = .ok (.iconst 1, 1) := by decide +kernel
theorem d1_3 : decode bc1 3 = .ok (.iadd, 1) := by decide +kernel
theorem d1_4 : decode bc1 4 = .ok (.invokespecial 3, 3) := by decide +kernel
theorem d1_7 : decode bc1 7 = .ok (.aload_n 0, 1) := by decide +kernel
theorem d1_8 : decode bc1 8 = .ok (.iconst 0, 1) := by decide +kernel
theorem d1_9 : decode bc1 9 = .ok (.putfield 9, 3) := by decide +kernel
theorem d1_12 : decode bc1 12 = .ok (.aload_n 0, 1) := by decide +kernel
theorem d1_13 : decode bc1 13 = .ok (.new 15, 3) := by decide +kernel
theorem d1_16 : decode bc1 16 = .ok (.dup, 1) := by decide +kernel
theorem d1_17 : decode bc1 17 = .ok (.invokespecial 17, 3) := by decide +kernel
theorem d1_20 : decode bc1 20 = .ok (.putfield 20, 3) := by decide +kernel
theorem d1_23 : decode bc1 23 = .ok (.aload_n 0, 1) := by decide +kernel
theorem d1_24 : decode bc1 24 = .ok (.bipush 16, 2) := by decide +kernel
theorem d1_26 : decode bc1 26 = .ok (.newarray .int, 2) := by decide +kernel
theorem d1_28 : decode bc1 28 = .ok (.putfield 24, 3) := by decide +kernel
theorem d1_31 : decode bc1 31 = .ok (.aload_n 0, 1) := by decide +kernel
theorem d1_32 : decode bc1 32 = .ok (.bipush 16, 2) := by decide +kernel
theorem d1_34 : decode bc1 34 = .ok (.newarray .int, 2) := by decide +kernel
theorem d1_36 : decode bc1 36 = .ok (.putfield 28, 3) := by decide +kernel
theorem d1_39 : decode bc1 39 = .ok (.aload_n 0, 1) := by decide +kernel
theorem d1_40 : decode bc1 40 = .ok (.iload_n 1, 1) := by decide +kernel
theorem d1_41 : decode bc1 41 = .ok (.putfield 31, 3) := by decide +kernel
theorem d1_44 : decode bc1 44 = .ok (.aload_n 0, 1) := by decide +kernel
theorem d1_45 : decode bc1 45 = .ok (.iconst 1, 1) := by decide +kernel
theorem d1_46 : decode bc1 46 = .ok (.iload_n 1, 1) := by decide +kernel
theorem d1_47 : decode bc1 47 = .ok (.ishl, 1) := by decide +kernel
theorem d1_48 : decode bc1 48 = .ok (.putfield 34, 3) := by decide +kernel
theorem d1_51 : decode bc1 51 = .ok (.iload_n 2, 1) := by decide +kernel
theorem d1_52 : decode bc1 52 = .ok (.iconst 1, 1) := by decide +kernel
theorem d1_53 : decode bc1 53 = .ok (.iadd, 1) := by decide +kernel
theorem d1_54 : decode bc1 54 = .ok (.istore 4, 2) := by decide +kernel
theorem d1_56 : decode bc1 56 = .ok (.aload_n 0, 1) := by decide +kernel
theorem d1_57 : decode bc1 57 = .ok (.iload 4, 2) := by decide +kernel
theorem d1_59 : decode bc1 59 = .ok (.newarray .int, 2) := by decide +kernel
theorem d1_61 : decode bc1 61 = .ok (.putfield 37, 3) := by decide +kernel
theorem d1_64 : decode bc1 64 = .ok (.aload_n 0, 1) := by decide +kernel
theorem d1_65 : decode bc1 65 = .ok (.iload 4, 2) := by decide +kernel
theorem d1_67 : decode bc1 67 = .ok (.newarray .int, 2) := by decide +kernel
theorem d1_69 : decode bc1 69 = .ok (.putfield 40, 3) := by decide +kernel
theorem d1_72 : decode bc1 72 = .ok (.aload_n 0, 1) := by decide +kernel
theorem d1_73 : decode bc1 73 = .ok (.iload 4, 2) := by decide +kernel
theorem d1_75 : decode bc1 75 = .ok (.newarray .int, 2) := by decide +kernel
theorem d1_77 : decode bc1 77 = .ok (.putfield 43, 3) := by decide +kernel
theorem d1_80 : decode bc1 80 = .ok (.aload_n 0, 1) := by decide +kernel
theorem d1_81 : decode bc1 81 = .ok (.iload 4, 2) := by decide +kernel
theorem d1_83 : decode bc1 83 = .ok (.newarray .int, 2) := by decide +kernel
theorem d1_85 : decode bc1 85 = .ok (.putfield 46, 3) := by decide +kernel
theorem d1_88 : decode bc1 88 = .ok (.aload_n 0, 1) := by decide +kernel
theorem d1_89 : decode bc1 89 = .ok (.iload 4, 2) := by decide +kernel
theorem d1_91 : decode bc1 91 = .ok (.newarray .int, 2) := by decide +kernel
theorem d1_93 : decode bc1 93 = .ok (.putfield 49, 3) := by decide +kernel
theorem d1_96 : decode bc1 96 = .ok (.aload_n 0, 1) := by decide +kernel
theorem d1_97 : decode bc1 97 = .ok (.iload 4, 2) := by decide +kernel
theorem d1_99 : decode bc1 99 = .ok (.newarray .long, 2) := by decide +kernel
theorem d1_101 : decode bc1 101 = .ok (.putfield 52, 3) := by decide +kernel
theorem d1_104 : decode bc1 104 = .ok (.aload_n 0, 1) := by decide +kernel
theorem d1_105 : decode bc1 105 = .ok (.iload 4, 2) := by decide +kernel
theorem d1_107 : decode bc1 107 = .ok (.anewarray 15, 3) := by decide +kernel
theorem d1_110 : decode bc1 110 = .ok (.putfield 56, 3) := by decide +kernel
theorem d1_113 : decode bc1 113 = .ok (.aload_n 0, 1) := by decide +kernel
theorem d1_114 : decode bc1 114 = .ok (.iload 4, 2) := by decide +kernel
theorem d1_116 : decode bc1 116 = .ok (.anewarray 15, 3) := by decide +kernel
theorem d1_119 : decode bc1 119 = .ok (.putfield 60, 3) := by decide +kernel
theorem d1_122 : decode bc1 122 = .ok (.aload_n 0, 1) := by decide +kernel
theorem d1_123 : decode bc1 123 = .ok (.iload 4, 2) := by decide +kernel
theorem d1_125 : decode bc1 125 = .ok (.newarray .boolean, 2) := by decide +kernel
theorem d1_127 : decode bc1 127 = .ok (.putfield 63, 3) := by decide +kernel
theorem d1_130 : decode bc1 130 = .ok (.aload_n 0, 1) := by decide +kernel
theorem d1_131 : decode bc1 131 = .ok (.iload 4, 2) := by decide +kernel
theorem d1_133 : decode bc1 133 = .ok (.newarray .boolean, 2) := by decide +kernel
theorem d1_135 : decode bc1 135 = .ok (.putfield 67, 3) := by decide +kernel
theorem d1_138 : decode bc1 138 = .ok (.aload_n 0, 1) := by decide +kernel
theorem d1_139 : decode bc1 139 = .ok (.iload 4, 2) := by decide +kernel
theorem d1_141 : decode bc1 141 = .ok (.newarray .int, 2) := by decide +kernel
theorem d1_143 : decode bc1 143 = .ok (.putfield 70, 3) := by decide +kernel
theorem d1_146 : decode bc1 146 = .ok (.aload_n 0, 1) := by decide +kernel
theorem d1_147 : decode bc1 147 = .ok (.iload 4, 2) := by decide +kernel
theorem d1_149 : decode bc1 149 = .ok (.newarray .long, 2) := by decide +kernel
theorem d1_151 : decode bc1 151 = .ok (.putfield 73, 3) := by decide +kernel
theorem d1_154 : decode bc1 154 = .ok (.aload_n 0, 1) := by decide +kernel
theorem d1_155 : decode bc1 155 = .ok (.iload 4, 2) := by decide +kernel
theorem d1_157 : decode bc1 157 = .ok (.newarray .boolean, 2) := by decide +kernel
theorem d1_159 : decode bc1 159 = .ok (.putfield 76, 3) := by decide +kernel
theorem d1_162 : decode bc1 162 = .ok (.aload_n 0, 1) := by decide +kernel
theorem d1_163 : decode bc1 163 = .ok (.iload 4, 2) := by decide +kernel
theorem d1_165 : decode bc1 165 = .ok (.newarray .int, 2) := by decide +kernel
theorem d1_167 : decode bc1 167 = .ok (.putfield 79, 3) := by decide +kernel
theorem d1_170 : decode bc1 170 = .ok (.aload_n 0, 1) := by decide +kernel
theorem d1_171 : decode bc1 171 = .ok (.iload 4, 2) := by decide +kernel
theorem d1_173 : decode bc1 173 = .ok (.newarray .long, 2) := by decide +kernel
theorem d1_175 : decode bc1 175 = .ok (.putfield 82, 3) := by decide +kernel
theorem d1_178 : decode bc1 178 = .ok (.aload_n 0, 1) := by decide +kernel
theorem d1_179 : decode bc1 179 = .ok (.iload 4, 2) := by decide +kernel
theorem d1_181 : decode bc1 181 = .ok (.newarray .boolean, 2) := by decide +kernel
theorem d1_183 : decode bc1 183 = .ok (.putfield 85, 3) := by decide +kernel
theorem d1_186 : decode bc1 186 = .ok (.aload_n 0, 1) := by decide +kernel
theorem d1_187 : decode bc1 187 = .ok (.iload 4, 2) := by decide +kernel
theorem d1_189 : decode bc1 189 = .ok (.iload_n 1, 1) := by decide +kernel
theorem d1_190 : decode bc1 190 = .ok (.ishl, 1) := by decide +kernel
theorem d1_191 : decode bc1 191 = .ok (.newarray .long, 2) := by decide +kernel
theorem d1_193 : decode bc1 193 = .ok (.putfield 88, 3) := by decide +kernel
theorem d1_196 : decode bc1 196 = .ok (.aload_n 0, 1) := by decide +kernel
theorem d1_197 : decode bc1 197 = .ok (.iload 4, 2) := by decide +kernel
theorem d1_199 : decode bc1 199 = .ok (.iload_n 1, 1) := by decide +kernel
theorem d1_200 : decode bc1 200 = .ok (.ishl, 1) := by decide +kernel
theorem d1_201 : decode bc1 201 = .ok (.newarray .int, 2) := by decide +kernel
theorem d1_203 : decode bc1 203 = .ok (.putfield 91, 3) := by decide +kernel
theorem d1_206 : decode bc1 206 = .ok (.aload_n 0, 1) := by decide +kernel
theorem d1_207 : decode bc1 207 = .ok (.iload_n 3, 1) := by decide +kernel
theorem d1_208 : decode bc1 208 = .ok (.ifCond .eq 12, 3) := by decide +kernel
theorem d1_211 : decode bc1 211 = .ok (.iload 4, 2) := by decide +kernel
theorem d1_213 : decode bc1 213 = .ok (.iload_n 1, 1) := by decide +kernel
theorem d1_214 : decode bc1 214 = .ok (.ishl, 1) := by decide +kernel
theorem d1_215 : decode bc1 215 = .ok (.newarray .long, 2) := by decide +kernel
theorem d1_217 : decode bc1 217 = .ok (.goto 4, 3) := by decide +kernel
theorem d1_220 : decode bc1 220 = .ok (.aconst_null, 1) := by decide +kernel
theorem d1_221 : decode bc1 221 = .ok (.putfield 94, 3) := by decide +kernel
theorem d1_224 : decode bc1 224 = .ok (.aload_n 0, 1) := by decide +kernel
theorem d1_225 : decode bc1 225 = .ok (.aload_n 0, 1) := by decide +kernel
theorem d1_226 : decode bc1 226 = .ok (.getfield 34, 3) := by decide +kernel
theorem d1_229 : decode bc1 229 = .ok (.newarray .int, 2) := by decide +kernel
theorem d1_231 : decode bc1 231 = .ok (.putfield 97, 3) := by decide +kernel
theorem d1_234 : decode bc1 234 = .ok (.return_, 1) := by decide +kernel
abbrev bc2 := prog_174_method_2_code
theorem d2_0 : decode bc2 0 = .ok (.aload_n 0, 1) := by decide +kernel
theorem d2_1 : decode bc2 1 = .ok (.invokespecial 7, 3) := by decide +kernel
theorem d2_4 : decode bc2 4 = .ok (.aload_n 0, 1) := by decide +kernel
theorem d2_5 : decode bc2 5 = .ok (.iconst 0, 1) := by decide +kernel
theorem d2_6 : decode bc2 6 = .ok (.putfield 12, 3) := by decide +kernel
theorem d2_9 : decode bc2 9 = .ok (.aload_n 0, 1) := by decide +kernel
theorem d2_10 : decode bc2 10 = .ok (.iconst 1, 1) := by decide +kernel
theorem d2_11 : decode bc2 11 = .ok (.putfield 16, 3) := by decide +kernel
theorem d2_14 : decode bc2 14 = .ok (.aload_n 0, 1) := by decide +kernel
theorem d2_15 : decode bc2 15 = .ok (.ldc2_w 19, 3) := by decide +kernel
theorem d2_18 : decode bc2 18 = .ok (.putfield 21, 3) := by decide +kernel
theorem d2_21 : decode bc2 21 = .ok (.aload_n 0, 1) := by decide +kernel
theorem d2_22 : decode bc2 22 = .ok (.iload_n 1, 1) := by decide +kernel
theorem d2_23 : decode bc2 23 = .ok (.iconst 2, 1) := by decide +kernel
theorem d2_24 : decode bc2 24 = .ok (.ishl, 1) := by decide +kernel
theorem d2_25 : decode bc2 25 = .ok (.newarray .int, 2) := by decide +kernel
theorem d2_27 : decode bc2 27 = .ok (.putfield 25, 3) := by decide +kernel
theorem d2_30 : decode bc2 30 = .ok (.aload_n 0, 1) := by decide +kernel
theorem d2_31 : decode bc2 31 = .ok (.iload_n 1, 1) := by decide +kernel
theorem d2_32 : decode bc2 32 = .ok (.newarray .int, 2) := by decide +kernel
theorem d2_34 : decode bc2 34 = .ok (.putfield 29, 3) := by decide +kernel
theorem d2_37 : decode bc2 37 = .ok (.return_, 1) := by decide +kernel
abbrev bc4 := prog_171_method_1_code
theorem d4_0 : decode bc4 0 = .ok (.aload_n 0, 1) := by decide +kernel
theorem d4_1 : decode bc4 1 = .ok (.invokespecial 3, 3) := by decide +kernel
theorem d4_4 : decode bc4 4 = .ok (.aload_n 0, 1) := by decide +kernel
theorem d4_5 : decode bc4 5 = .ok (.iconst 4, 1) := by decide +kernel
theorem d4_6 : decode bc4 6 = .ok (.newarray .int, 2) := by decide +kernel
theorem d4_8 : decode bc4 8 = .ok (.putfield 9, 3) := by decide +kernel
theorem d4_11 : decode bc4 11 = .ok (.aload_n 0, 1) := by decide +kernel
theorem d4_12 : decode bc4 12 = .ok (.iconst 4, 1) := by decide +kernel
theorem d4_13 : decode bc4 13 = .ok (.newarray .long, 2) := by decide +kernel
theorem d4_15 : decode bc4 15 = .ok (.putfield 15, 3) := by decide +kernel
theorem d4_18 : decode bc4 18 = .ok (.aload_n 0, 1) := by decide +kernel
theorem d4_19 : decode bc4 19 = .ok (.iconst 4, 1) := by decide +kernel
theorem d4_20 : decode bc4 20 = .ok (.newarray .int, 2) := by decide +kernel
theorem d4_22 : decode bc4 22 = .ok (.putfield 19, 3) := by decide +kernel
theorem d4_25 : decode bc4 25 = .ok (.aload_n 0, 1) := by decide +kernel
theorem d4_26 : decode bc4 26 = .ok (.iconst 4, 1) := by decide +kernel
theorem d4_27 : decode bc4 27 = .ok (.newarray .long, 2) := by decide +kernel
theorem d4_29 : decode bc4 29 = .ok (.putfield 22, 3) := by decide +kernel
theorem d4_32 : decode bc4 32 = .ok (.aload_n 0, 1) := by decide +kernel
theorem d4_33 : decode bc4 33 = .ok (.iconst 4, 1) := by decide +kernel
theorem d4_34 : decode bc4 34 = .ok (.newarray .int, 2) := by decide +kernel
theorem d4_36 : decode bc4 36 = .ok (.putfield 25, 3) := by decide +kernel
theorem d4_39 : decode bc4 39 = .ok (.aload_n 0, 1) := by decide +kernel
theorem d4_40 : decode bc4 40 = .ok (.iconst 4, 1) := by decide +kernel
theorem d4_41 : decode bc4 41 = .ok (.newarray .long, 2) := by decide +kernel
theorem d4_43 : decode bc4 43 = .ok (.putfield 28, 3) := by decide +kernel
theorem d4_46 : decode bc4 46 = .ok (.return_, 1) := by decide +kernel
abbrev bc5 := prog_152_method_2_code
theorem d5_0 : decode bc5 0 = .ok (.aload_n 0, 1) := by decide +kernel
theorem d5_1 : decode bc5 1 = .ok (.invokevirtual 100, 3) := by decide +kernel
theorem d5_4 : decode bc5 4 = .ok (.aload_n 0, 1) := by decide +kernel
theorem d5_5 : decode bc5 5 = .ok (.iconst 0, 1) := by decide +kernel
theorem d5_6 : decode bc5 6 = .ok (.putfield 9, 3) := by decide +kernel
theorem d5_9 : decode bc5 9 = .ok (.aload_n 0, 1) := by decide +kernel
theorem d5_10 : decode bc5 10 = .ok (.invokevirtual 103, 3) := by decide +kernel
theorem d5_13 : decode bc5 13 = .ok (.istore 6, 2) := by decide +kernel
theorem d5_15 : decode bc5 15 = .ok (.aload_n 0, 1) := by decide +kernel
theorem d5_16 : decode bc5 16 = .ok (.getfield 37, 3) := by decide +kernel
theorem d5_19 : decode bc5 19 = .ok (.iload 6, 2) := by decide +kernel
theorem d5_21 : decode bc5 21 = .ok (.iconst 1, 1) := by decide +kernel
theorem d5_22 : decode bc5 22 = .ok (.iastore, 1) := by decide +kernel
theorem d5_23 : decode bc5 23 = .ok (.aload_n 0, 1) := by decide +kernel
theorem d5_24 : decode bc5 24 = .ok (.getfield 88, 3) := by decide +kernel
theorem d5_27 : decode bc5 27 = .ok (.iload 6, 2) := by decide +kernel
theorem d5_29 : decode bc5 29 = .ok (.aload_n 0, 1) := by decide +kernel
theorem d5_30 : decode bc5 30 = .ok (.getfield 31, 3) := by decide +kernel
theorem d5_33 : decode bc5 33 = .ok (.ishl, 1) := by decide +kernel
theorem d5_34 : decode bc5 34 = .ok (.lload_n 1, 1) := by decide +kernel
theorem d5_35 : decode bc5 35 = .ok (.aload_n 0, 1) := by decide +kernel
theorem d5_36 : decode bc5 36 = .ok (.getfield 107, 3) := by decide +kernel
theorem d5_39 : decode bc5 39 = .ok (.lsub, 1) := by decide +kernel
theorem d5_40 : decode bc5 40 = .ok (.lastore, 1) := by decide +kernel
theorem d5_41 : decode bc5 41 = .ok (.aload_n 0, 1) := by decide +kernel
theorem d5_42 : decode bc5 42 = .ok (.getfield 91, 3) := by decide +kernel
theorem d5_45 : decode bc5 45 = .ok (.iload 6, 2) := by decide +kernel
theorem d5_47 : decode bc5 47 = .ok (.aload_n 0, 1) := by decide +kernel
theorem d5_48 : decode bc5 48 = .ok (.getfield 31, 3) := by decide +kernel
theorem d5_51 : decode bc5 51 = .ok (.ishl, 1) := by decide +kernel
theorem d5_52 : decode bc5 52 = .ok (.iload_n 3, 1) := by decide +kernel
theorem d5_53 : decode bc5 53 = .ok (.iastore, 1) := by decide +kernel
theorem d5_54 : decode bc5 54 = .ok (.aload_n 0, 1) := by decide +kernel
theorem d5_55 : decode bc5 55 = .ok (.getfield 94, 3) := by decide +kernel
theorem d5_58 : decode bc5 58 = .ok (.ifnull 17, 3) := by decide +kernel
theorem d5_61 : decode bc5 61 = .ok (.aload_n 0, 1) := by decide +kernel
theorem d5_62 : decode bc5 62 = .ok (.getfield 94, 3) := by decide +kernel
theorem d5_65 : decode bc5 65 = .ok (.iload 6, 2) := by decide +kernel
theorem d5_67 : decode bc5 67 = .ok (.aload_n 0, 1) := by decide +kernel
theorem d5_68 : decode bc5 68 = .ok (.getfield 31, 3) := by decide +kernel
theorem d5_71 : decode bc5 71 = .ok (.ishl, 1) := by decide +kernel
theorem d5_72 : decode bc5 72 = .ok (.lload 4, 2) := by decide +kernel
theorem d5_74 : decode bc5 74 = .ok (.lastore, 1) := by decide +kernel
theorem d5_75 : decode bc5 75 = .ok (.aload_n 0, 1) := by decide +kernel
theorem d5_76 : decode bc5 76 = .ok (.getfield 40, 3) := by decide +kernel
theorem d5_79 : decode bc5 79 = .ok (.iload 6, 2) := by decide +kernel
theorem d5_81 : decode bc5 81 = .ok (.iconst 0, 1) := by decide +kernel
theorem d5_82 : decode bc5 82 = .ok (.iastore, 1) := by decide +kernel
theorem d5_83 : decode bc5 83 = .ok (.aload_n 0, 1) := by decide +kernel
theorem d5_84 : decode bc5 84 = .ok (.getfield 43, 3) := by decide +kernel
theorem d5_87 : decode bc5 87 = .ok (.iload 6, 2) := by decide +kernel
theorem d5_89 : decode bc5 89 = .ok (.iconst 0, 1) := by decide +kernel
theorem d5_90 : decode bc5 90 = .ok (.iastore, 1) := by decide +kernel
theorem d5_91 : decode bc5 91 = .ok (.aload_n 0, 1) := by decide +kernel
theorem d5_92 : decode bc5 92 = .ok (.iload 6, 2) := by decide +kernel
theorem d5_94 : decode bc5 94 = .ok (.putfield 111, 3) := by decide +kernel
theorem d5_97 : decode bc5 97 = .ok (.aload_n 0, 1) := by decide +kernel
theorem d5_98 : decode bc5 98 = .ok (.iload 6, 2) := by decide +kernel
theorem d5_100 : decode bc5 100 = .ok (.putfield 114, 3) := by decide +kernel
theorem d5_103 : decode bc5 103 = .ok (.aload_n 0, 1) := by decide +kernel
theorem d5_104 : decode bc5 104 = .ok (.iload 6, 2) := by decide +kernel
theorem d5_106 : decode bc5 106 = .ok (.putfield 117, 3) := by decide +kernel
theorem d5_109 : decode bc5 109 = .ok (.aload_n 0, 1) := by decide +kernel
theorem d5_110 : decode bc5 110 = .ok (.iload 6, 2) := by decide +kernel
theorem d5_112 : decode bc5 112 = .ok (.aload_n 0, 1) := by decide +kernel
theorem d5_113 : decode bc5 113 = .ok (.getfield 31, 3) := by decide +kernel
theorem d5_116 : decode bc5 116 = .ok (.ishl, 1) := by decide +kernel
theorem d5_117 : decode bc5 117 = .ok (.putfield 120, 3) := by decide +kernel
theorem d5_120 : decode bc5 120 = .ok (.aload_n 0, 1) := by decide +kernel
theorem d5_121 : decode bc5 121 = .ok (.getfield 63, 3) := by decide +kernel
theorem d5_124 : decode bc5 124 = .ok (.iload 6, 2) := by decide +kernel
theorem d5_126 : decode bc5 126 = .ok (.iconst 1, 1) := by decide +kernel
theorem d5_127 : decode bc5 127 = .ok (.bastore, 1) := by decide +kernel
theorem d5_128 : decode bc5 128 = .ok (.aload_n 0, 1) := by decide +kernel
theorem d5_129 : decode bc5 129 = .ok (.getfield 76, 3) := by decide +kernel
theorem d5_132 : decode bc5 132 = .ok (.iload 6, 2) := by decide +kernel
theorem d5_134 : decode bc5 134 = .ok (.iconst 1, 1) := by decide +kernel
theorem d5_135 : decode bc5 135 = .ok (.bastore, 1) := by decide +kernel
theorem d5_136 : decode bc5 136 = .ok (.aload_n 0, 1) := by decide +kernel
theorem d5_137 : decode bc5 137 = .ok (.iload 6, 2) := by decide +kernel
theorem d5_139 : decode bc5 139 = .ok (.invokevirtual 123, 3) := by decide +kernel
theorem d5_142 : decode bc5 142 = .ok (.return_, 1) := by decide +kernel
abbrev bc6 := prog_174_method_17_code
theorem d6_0 : decode bc6 0 = .ok (.aload_n 0, 1) := by decide +kernel
theorem d6_1 : decode bc6 1 = .ok (.iconst 0, 1) := by decide +kernel
theorem d6_2 : decode bc6 2 = .ok (.putfield 12, 3) := by decide +kernel
theorem d6_5 : decode bc6 5 = .ok (.aload_n 0, 1) := by decide +kernel
theorem d6_6 : decode bc6 6 = .ok (.iconst 0, 1) := by decide +kernel
theorem d6_7 : decode bc6 7 = .ok (.putfield 32, 3) := by decide +kernel
theorem d6_10 : decode bc6 10 = .ok (.aload_n 0, 1) := by decide +kernel
theorem d6_11 : decode bc6 11 = .ok (.iconst 0, 1) := by decide +kernel
theorem d6_12 : decode bc6 12 = .ok (.putfield 35, 3) := by decide +kernel
theorem d6_15 : decode bc6 15 = .ok (.aload_n 0, 1) := by decide +kernel
theorem d6_16 : decode bc6 16 = .ok (.iconst 1, 1) := by decide +kernel
theorem d6_17 : decode bc6 17 = .ok (.putfield 16, 3) := by decide +kernel
theorem d6_20 : decode bc6 20 = .ok (.return_, 1) := by decide +kernel
abbrev bc7 := prog_174_method_13_code
theorem d7_0 : decode bc7 0 = .ok (.aload_n 0, 1) := by decide +kernel
theorem d7_1 : decode bc7 1 = .ok (.getfield 35, 3) := by decide +kernel
theorem d7_4 : decode bc7 4 = .ok (.ifCond .le 26, 3) := by decide +kernel
theorem d7_30 : decode bc7 30 = .ok (.aload_n 0, 1) := by decide +kernel
theorem d7_31 : decode bc7 31 = .ok (.getfield 16, 3) := by decide +kernel
theorem d7_34 : decode bc7 34 = .ok (.istore_n 1, 1) := by decide +kernel
theorem d7_35 : decode bc7 35 = .ok (.aload_n 0, 1) := by decide +kernel
theorem d7_36 : decode bc7 36 = .ok (.dup, 1) := by decide +kernel
theorem d7_37 : decode bc7 37 = .ok (.getfield 16, 3) := by decide +kernel
theorem d7_40 : decode bc7 40 = .ok (.iconst 1, 1) := by decide +kernel
theorem d7_41 : decode bc7 41 = .ok (.iadd, 1) := by decide +kernel
theorem d7_42 : decode bc7 42 = .ok (.putfield 16, 3) := by decide +kernel
theorem d7_45 : decode bc7 45 = .ok (.iload_n 1, 1) := by decide +kernel
theorem d7_46 : decode bc7 46 = .ok (.iconst 2, 1) := by decide +kernel
theorem d7_47 : decode bc7 47 = .ok (.ishl, 1) := by decide +kernel
theorem d7_48 : decode bc7 48 = .ok (.aload_n 0, 1) := by decide +kernel
theorem d7_49 : decode bc7 49 = .ok (.getfield 25, 3) := by decide +kernel
theorem d7_52 : decode bc7 52 = .ok (.arraylength, 1) := by decide +kernel
theorem d7_53 : decode bc7 53 = .ok (.if_icmp .ne 39, 3) := by decide +kernel
theorem d7_92 : decode bc7 92 = .ok (.aload_n 0, 1) := by decide +kernel
theorem d7_93 : decode bc7 93 = .ok (.aload_n 0, 1) := by decide +kernel
theorem d7_94 : decode bc7 94 = .ok (.getfield 25, 3) := by decide +kernel
theorem d7_97 : decode bc7 97 = .ok (.arraylength, 1) := by decide +kernel
theorem d7_98 : decode bc7 98 = .ok (.iconst 2, 1) := by decide +kernel
theorem d7_99 : decode bc7 99 = .ok (.ishr, 1) := by decide +kernel
theorem d7_100 : decode bc7 100 = .ok (.invokevirtual 44, 3) := by decide +kernel
theorem d7_103 : decode bc7 103 = .ok (.aload_n 0, 1) := by decide +kernel
theorem d7_104 : decode bc7 104 = .ok (.iload_n 1, 1) := by decide +kernel
theorem d7_105 : decode bc7 105 = .ok (.iconst 0, 1) := by decide +kernel
theorem d7_106 : decode bc7 106 = .ok (.invokevirtual 47, 3) := by decide +kernel
theorem d7_109 : decode bc7 109 = .ok (.aload_n 0, 1) := by decide +kernel
theorem d7_110 : decode bc7 110 = .ok (.iload_n 1, 1) := by decide +kernel
theorem d7_111 : decode bc7 111 = .ok (.iconst 0, 1) := by decide +kernel
theorem d7_112 : decode bc7 112 = .ok (.invokevirtual 51, 3) := by decide +kernel
theorem d7_115 : decode bc7 115 = .ok (.aload_n 0, 1) := by decide +kernel
theorem d7_116 : decode bc7 116 = .ok (.getfield 25, 3) := by decide +kernel
theorem d7_119 : decode bc7 119 = .ok (.iload_n 1, 1) := by decide +kernel
theorem d7_120 : decode bc7 120 = .ok (.iconst 2, 1) := by decide +kernel
theorem d7_121 : decode bc7 121 = .ok (.ishl, 1) := by decide +kernel
theorem d7_122 : decode bc7 122 = .ok (.iconst 2, 1) := by decide +kernel
theorem d7_123 : decode bc7 123 = .ok (.iadd, 1) := by decide +kernel
theorem d7_124 : decode bc7 124 = .ok (.aload_n 0, 1) := by decide +kernel
theorem d7_125 : decode bc7 125 = .ok (.invokevirtual 54, 3) := by decide +kernel
theorem d7_128 : decode bc7 128 = .ok (.iastore, 1) := by decide +kernel
theorem d7_129 : decode bc7 129 = .ok (.iload_n 1, 1) := by decide +kernel
theorem d7_130 : decode bc7 130 = .ok (.ireturn, 1) := by decide +kernel
abbrev bc8 := prog_152_method_56_code
theorem d8_0 : decode bc8 0 = .ok (.iload_n 1, 1) := by decide +kernel
theorem d8_1 : decode bc8 1 = .ok (.aload_n 0, 1) := by decide +kernel
theorem d8_2 : decode bc8 2 = .ok (.getfield 37, 3) := by decide +kernel
theorem d8_5 : decode bc8 5 = .ok (.arraylength, 1) := by decide +kernel
theorem d8_6 : decode bc8 6 = .ok (.if_icmp .le 259, 3) := by decide +kernel
theorem d8_265 : decode bc8 265 = .ok (.return_, 1) := by decide +kernel
abbrev bc9 := prog_174_method_11_code
theorem d9_0 : decode bc9 0 = .ok (.aload_n 0, 1) := by decide +kernel
theorem d9_1 : decode bc9 1 = .ok (.getfield 25, 3) := by decide +kernel
theorem d9_4 : decode bc9 4 = .ok (.iload_n 1, 1) := by decide +kernel
theorem d9_5 : decode bc9 5 = .ok (.iconst 2, 1) := by decide +kernel
theorem d9_6 : decode bc9 6 = .ok (.ishl, 1) := by decide +kernel
theorem d9_7 : decode bc9 7 = .ok (.iload_n 2, 1) := by decide +kernel
theorem d9_8 : decode bc9 8 = .ok (.iastore, 1) := by decide +kernel
theorem d9_9 : decode bc9 9 = .ok (.return_, 1) := by decide +kernel
abbrev bc10 := prog_174_method_12_code
theorem d10_0 : decode bc10 0 = .ok (.aload_n 0, 1) := by decide +kernel
theorem d10_1 : decode bc10 1 = .ok (.getfield 25, 3) := by decide +kernel
theorem d10_4 : decode bc10 4 = .ok (.iload_n 1, 1) := by decide +kernel
theorem d10_5 : decode bc10 5 = .ok (.iconst 2, 1) := by decide +kernel
theorem d10_6 : decode bc10 6 = .ok (.ishl, 1) := by decide +kernel
theorem d10_7 : decode bc10 7 = .ok (.iconst 1, 1) := by decide +kernel
theorem d10_8 : decode bc10 8 = .ok (.iadd, 1) := by decide +kernel
theorem d10_9 : decode bc10 9 = .ok (.iload_n 2, 1) := by decide +kernel
theorem d10_10 : decode bc10 10 = .ok (.iastore, 1) := by decide +kernel
theorem d10_11 : decode bc10 11 = .ok (.return_, 1) := by decide +kernel
abbrev bc11 := prog_174_method_18_code
theorem d11_0 : decode bc11 0 = .ok (.aload_n 0, 1) := by decide +kernel
theorem d11_1 : decode bc11 1 = .ok (.dup, 1) := by decide +kernel
theorem d11_2 : decode bc11 2 = .ok (.getfield 21, 3) := by decide +kernel
theorem d11_5 : decode bc11 5 = .ok (.aload_n 0, 1) := by decide +kernel
theorem d11_6 : decode bc11 6 = .ok (.getfield 21, 3) := by decide +kernel
theorem d11_9 : decode bc11 9 = .ok (.bipush 13, 2) := by decide +kernel
theorem d11_11 : decode bc11 11 = .ok (.lshl, 1) := by decide +kernel
theorem d11_12 : decode bc11 12 = .ok (.lxor, 1) := by decide +kernel
theorem d11_13 : decode bc11 13 = .ok (.putfield 21, 3) := by decide +kernel
theorem d11_16 : decode bc11 16 = .ok (.aload_n 0, 1) := by decide +kernel
theorem d11_17 : decode bc11 17 = .ok (.dup, 1) := by decide +kernel
theorem d11_18 : decode bc11 18 = .ok (.getfield 21, 3) := by decide +kernel
theorem d11_21 : decode bc11 21 = .ok (.aload_n 0, 1) := by decide +kernel
theorem d11_22 : decode bc11 22 = .ok (.getfield 21, 3) := by decide +kernel
theorem d11_25 : decode bc11 25 = .ok (.bipush 7, 2) := by decide +kernel
theorem d11_27 : decode bc11 27 = .ok (.lushr, 1) := by decide +kernel
theorem d11_28 : decode bc11 28 = .ok (.lxor, 1) := by decide +kernel
theorem d11_29 : decode bc11 29 = .ok (.putfield 21, 3) := by decide +kernel
theorem d11_32 : decode bc11 32 = .ok (.aload_n 0, 1) := by decide +kernel
theorem d11_33 : decode bc11 33 = .ok (.dup, 1) := by decide +kernel
theorem d11_34 : decode bc11 34 = .ok (.getfield 21, 3) := by decide +kernel
theorem d11_37 : decode bc11 37 = .ok (.aload_n 0, 1) := by decide +kernel
theorem d11_38 : decode bc11 38 = .ok (.getfield 21, 3) := by decide +kernel
theorem d11_41 : decode bc11 41 = .ok (.bipush 17, 2) := by decide +kernel
theorem d11_43 : decode bc11 43 = .ok (.lshl, 1) := by decide +kernel
theorem d11_44 : decode bc11 44 = .ok (.lxor, 1) := by decide +kernel
theorem d11_45 : decode bc11 45 = .ok (.putfield 21, 3) := by decide +kernel
theorem d11_48 : decode bc11 48 = .ok (.aload_n 0, 1) := by decide +kernel
theorem d11_49 : decode bc11 49 = .ok (.getfield 21, 3) := by decide +kernel
theorem d11_52 : decode bc11 52 = .ok (.bipush 33, 2) := by decide +kernel
theorem d11_54 : decode bc11 54 = .ok (.lushr, 1) := by decide +kernel
theorem d11_55 : decode bc11 55 = .ok (.l2i, 1) := by decide +kernel
theorem d11_56 : decode bc11 56 = .ok (.ireturn, 1) := by decide +kernel
abbrev bc12 := prog_174_method_14_code
theorem d12_0 : decode bc12 0 = .ok (.aload_n 0, 1) := by decide +kernel
theorem d12_1 : decode bc12 1 = .ok (.iload_n 1, 1) := by decide +kernel
theorem d12_2 : decode bc12 2 = .ok (.invokevirtual 58, 3) := by decide +kernel
theorem d12_5 : decode bc12 5 = .ok (.pop, 1) := by decide +kernel
theorem d12_6 : decode bc12 6 = .ok (.aload_n 0, 1) := by decide +kernel
theorem d12_7 : decode bc12 7 = .ok (.iconst 0, 1) := by decide +kernel
theorem d12_8 : decode bc12 8 = .ok (.putfield 62, 3) := by decide +kernel
theorem d12_11 : decode bc12 11 = .ok (.aload_n 0, 1) := by decide +kernel
theorem d12_12 : decode bc12 12 = .ok (.aload_n 0, 1) := by decide +kernel
theorem d12_13 : decode bc12 13 = .ok (.aload_n 0, 1) := by decide +kernel
theorem d12_14 : decode bc12 14 = .ok (.getfield 12, 3) := by decide +kernel
theorem d12_17 : decode bc12 17 = .ok (.iload_n 1, 1) := by decide +kernel
theorem d12_18 : decode bc12 18 = .ok (.invokevirtual 66, 3) := by decide +kernel
theorem d12_21 : decode bc12 21 = .ok (.putfield 12, 3) := by decide +kernel
theorem d12_24 : decode bc12 24 = .ok (.aload_n 0, 1) := by decide +kernel
theorem d12_25 : decode bc12 25 = .ok (.dup, 1) := by decide +kernel
theorem d12_26 : decode bc12 26 = .ok (.getfield 32, 3) := by decide +kernel
theorem d12_29 : decode bc12 29 = .ok (.iconst 1, 1) := by decide +kernel
theorem d12_30 : decode bc12 30 = .ok (.iadd, 1) := by decide +kernel
theorem d12_31 : decode bc12 31 = .ok (.putfield 32, 3) := by decide +kernel
theorem d12_34 : decode bc12 34 = .ok (.return_, 1) := by decide +kernel
abbrev bc13 := prog_152_method_55_code
theorem d13_0 : decode bc13 0 = .ok (.aload_n 0, 1) := by decide +kernel
theorem d13_1 : decode bc13 1 = .ok (.iload_n 1, 1) := by decide +kernel
theorem d13_2 : decode bc13 2 = .ok (.invokevirtual 152, 3) := by decide +kernel
theorem d13_5 : decode bc13 5 = .ok (.istore_n 2, 1) := by decide +kernel
theorem d13_6 : decode bc13 6 = .ok (.aload_n 0, 1) := by decide +kernel
theorem d13_7 : decode bc13 7 = .ok (.iload_n 1, 1) := by decide +kernel
theorem d13_8 : decode bc13 8 = .ok (.invokevirtual 148, 3) := by decide +kernel
theorem d13_11 : decode bc13 11 = .ok (.istore_n 3, 1) := by decide +kernel
theorem d13_12 : decode bc13 12 = .ok (.aload_n 0, 1) := by decide +kernel
theorem d13_13 : decode bc13 13 = .ok (.getfield 49, 3) := by decide +kernel
theorem d13_16 : decode bc13 16 = .ok (.iload_n 1, 1) := by decide +kernel
theorem d13_17 : decode bc13 17 = .ok (.aload_n 0, 1) := by decide +kernel
theorem d13_18 : decode bc13 18 = .ok (.getfield 49, 3) := by decide +kernel
theorem d13_21 : decode bc13 21 = .ok (.iload_n 2, 1) := by decide +kernel
theorem d13_22 : decode bc13 22 = .ok (.iaload, 1) := by decide +kernel
theorem d13_23 : decode bc13 23 = .ok (.aload_n 0, 1) := by decide +kernel
theorem d13_24 : decode bc13 24 = .ok (.iload_n 1, 1) := by decide +kernel
theorem d13_25 : decode bc13 25 = .ok (.invokevirtual 224, 3) := by decide +kernel
theorem d13_28 : decode bc13 28 = .ok (.iadd, 1) := by decide +kernel
theorem d13_29 : decode bc13 29 = .ok (.aload_n 0, 1) := by decide +kernel
theorem d13_30 : decode bc13 30 = .ok (.getfield 49, 3) := by decide +kernel
theorem d13_33 : decode bc13 33 = .ok (.iload_n 3, 1) := by decide +kernel
theorem d13_34 : decode bc13 34 = .ok (.iaload, 1) := by decide +kernel
theorem d13_35 : decode bc13 35 = .ok (.iadd, 1) := by decide +kernel
theorem d13_36 : decode bc13 36 = .ok (.iastore, 1) := by decide +kernel
theorem d13_37 : decode bc13 37 = .ok (.aload_n 0, 1) := by decide +kernel
theorem d13_38 : decode bc13 38 = .ok (.getfield 52, 3) := by decide +kernel
theorem d13_41 : decode bc13 41 = .ok (.iload_n 1, 1) := by decide +kernel
theorem d13_42 : decode bc13 42 = .ok (.aload_n 0, 1) := by decide +kernel
theorem d13_43 : decode bc13 43 = .ok (.getfield 52, 3) := by decide +kernel
theorem d13_46 : decode bc13 46 = .ok (.iload_n 2, 1) := by decide +kernel
theorem d13_47 : decode bc13 47 = .ok (.laload, 1) := by decide +kernel
theorem d13_48 : decode bc13 48 = .ok (.aload_n 0, 1) := by decide +kernel
theorem d13_49 : decode bc13 49 = .ok (.iload_n 1, 1) := by decide +kernel
theorem d13_50 : decode bc13 50 = .ok (.invokevirtual 227, 3) := by decide +kernel
theorem d13_53 : decode bc13 53 = .ok (.ladd, 1) := by decide +kernel
theorem d13_54 : decode bc13 54 = .ok (.aload_n 0, 1) := by decide +kernel
theorem d13_55 : decode bc13 55 = .ok (.getfield 52, 3) := by decide +kernel
theorem d13_58 : decode bc13 58 = .ok (.iload_n 3, 1) := by decide +kernel
theorem d13_59 : decode bc13 59 = .ok (.laload, 1) := by decide +kernel
theorem d13_60 : decode bc13 60 = .ok (.ladd, 1) := by decide +kernel
theorem d13_61 : decode bc13 61 = .ok (.lastore, 1) := by decide +kernel
theorem d13_62 : decode bc13 62 = .ok (.aload_n 0, 1) := by decide +kernel
theorem d13_63 : decode bc13 63 = .ok (.getfield 46, 3) := by decide +kernel
theorem d13_66 : decode bc13 66 = .ok (.iload_n 1, 1) := by decide +kernel
theorem d13_67 : decode bc13 67 = .ok (.iload_n 2, 1) := by decide +kernel
theorem d13_68 : decode bc13 68 = .ok (.ifCond .ne 7, 3) := by decide +kernel
theorem d13_71 : decode bc13 71 = .ok (.iload_n 1, 1) := by decide +kernel
theorem d13_72 : decode bc13 72 = .ok (.goto 9, 3) := by decide +kernel
theorem d13_81 : decode bc13 81 = .ok (.iastore, 1) := by decide +kernel
theorem d13_82 : decode bc13 82 = .ok (.aload_n 0, 1) := by decide +kernel
theorem d13_83 : decode bc13 83 = .ok (.iload_n 1, 1) := by decide +kernel
theorem d13_84 : decode bc13 84 = .ok (.invokevirtual 336, 3) := by decide +kernel
theorem d13_87 : decode bc13 87 = .ok (.iconst 1, 1) := by decide +kernel
theorem d13_88 : decode bc13 88 = .ok (.ireturn, 1) := by decide +kernel
abbrev bc14 := prog_174_method_8_code
theorem d14_0 : decode bc14 0 = .ok (.aload_n 0, 1) := by decide +kernel
theorem d14_1 : decode bc14 1 = .ok (.getfield 25, 3) := by decide +kernel
theorem d14_4 : decode bc14 4 = .ok (.iload_n 1, 1) := by decide +kernel
theorem d14_5 : decode bc14 5 = .ok (.iconst 2, 1) := by decide +kernel
theorem d14_6 : decode bc14 6 = .ok (.ishl, 1) := by decide +kernel
theorem d14_7 : decode bc14 7 = .ok (.iaload, 1) := by decide +kernel
theorem d14_8 : decode bc14 8 = .ok (.ireturn, 1) := by decide +kernel
abbrev bc15 := prog_174_method_9_code
theorem d15_0 : decode bc15 0 = .ok (.aload_n 0, 1) := by decide +kernel
theorem d15_1 : decode bc15 1 = .ok (.getfield 25, 3) := by decide +kernel
theorem d15_4 : decode bc15 4 = .ok (.iload_n 1, 1) := by decide +kernel
theorem d15_5 : decode bc15 5 = .ok (.iconst 2, 1) := by decide +kernel
theorem d15_6 : decode bc15 6 = .ok (.ishl, 1) := by decide +kernel
theorem d15_7 : decode bc15 7 = .ok (.iconst 1, 1) := by decide +kernel
theorem d15_8 : decode bc15 8 = .ok (.iadd, 1) := by decide +kernel
theorem d15_9 : decode bc15 9 = .ok (.iaload, 1) := by decide +kernel
theorem d15_10 : decode bc15 10 = .ok (.ireturn, 1) := by decide +kernel
abbrev bc16 := prog_152_method_46_code
theorem d16_0 : decode bc16 0 = .ok (.aload_n 0, 1) := by decide +kernel
theorem d16_1 : decode bc16 1 = .ok (.getfield 91, 3) := by decide +kernel
theorem d16_4 : decode bc16 4 = .ok (.iload_n 1, 1) := by decide +kernel
theorem d16_5 : decode bc16 5 = .ok (.aload_n 0, 1) := by decide +kernel
theorem d16_6 : decode bc16 6 = .ok (.getfield 31, 3) := by decide +kernel
theorem d16_9 : decode bc16 9 = .ok (.ishl, 1) := by decide +kernel
theorem d16_10 : decode bc16 10 = .ok (.aload_n 0, 1) := by decide +kernel
theorem d16_11 : decode bc16 11 = .ok (.getfield 37, 3) := by decide +kernel
theorem d16_14 : decode bc16 14 = .ok (.iload_n 1, 1) := by decide +kernel
theorem d16_15 : decode bc16 15 = .ok (.iaload, 1) := by decide +kernel
theorem d16_16 : decode bc16 16 = .ok (.iadd, 1) := by decide +kernel
theorem d16_17 : decode bc16 17 = .ok (.iconst 1, 1) := by decide +kernel
theorem d16_18 : decode bc16 18 = .ok (.isub, 1) := by decide +kernel
theorem d16_19 : decode bc16 19 = .ok (.iaload, 1) := by decide +kernel
theorem d16_20 : decode bc16 20 = .ok (.ireturn, 1) := by decide +kernel
abbrev bc17 := prog_152_method_47_code
theorem d17_0 : decode bc17 0 = .ok (.aload_n 0, 1) := by decide +kernel
theorem d17_1 : decode bc17 1 = .ok (.getfield 94, 3) := by decide +kernel
theorem d17_4 : decode bc17 4 = .ok (.ifnonnull 7, 3) := by decide +kernel
theorem d17_7 : decode bc17 7 = .ok (.lconst 0, 1) := by decide +kernel
theorem d17_8 : decode bc17 8 = .ok (.goto 23, 3) := by decide +kernel
theorem d17_11 : decode bc17 11 = .ok (.aload_n 0, 1) := by decide +kernel
theorem d17_12 : decode bc17 12 = .ok (.getfield 94, 3) := by decide +kernel
theorem d17_15 : decode bc17 15 = .ok (.iload_n 1, 1) := by decide +kernel
theorem d17_16 : decode bc17 16 = .ok (.aload_n 0, 1) := by decide +kernel
theorem d17_17 : decode bc17 17 = .ok (.getfield 31, 3) := by decide +kernel
theorem d17_20 : decode bc17 20 = .ok (.ishl, 1) := by decide +kernel
theorem d17_21 : decode bc17 21 = .ok (.aload_n 0, 1) := by decide +kernel
theorem d17_22 : decode bc17 22 = .ok (.getfield 37, 3) := by decide +kernel
theorem d17_25 : decode bc17 25 = .ok (.iload_n 1, 1) := by decide +kernel
theorem d17_26 : decode bc17 26 = .ok (.iaload, 1) := by decide +kernel
theorem d17_27 : decode bc17 27 = .ok (.iadd, 1) := by decide +kernel
theorem d17_28 : decode bc17 28 = .ok (.iconst 1, 1) := by decide +kernel
theorem d17_29 : decode bc17 29 = .ok (.isub, 1) := by decide +kernel
theorem d17_30 : decode bc17 30 = .ok (.laload, 1) := by decide +kernel
theorem d17_31 : decode bc17 31 = .ok (.lreturn, 1) := by decide +kernel
abbrev bc18 := prog_152_method_49_code
theorem d18_0 : decode bc18 0 = .ok (.aload_n 0, 1) := by decide +kernel
theorem d18_1 : decode bc18 1 = .ok (.getfield 67, 3) := by decide +kernel
theorem d18_4 : decode bc18 4 = .ok (.iload_n 1, 1) := by decide +kernel
theorem d18_5 : decode bc18 5 = .ok (.iconst 1, 1) := by decide +kernel
theorem d18_6 : decode bc18 6 = .ok (.bastore, 1) := by decide +kernel
theorem d18_7 : decode bc18 7 = .ok (.aload_n 0, 1) := by decide +kernel
theorem d18_8 : decode bc18 8 = .ok (.getfield 85, 3) := by decide +kernel
theorem d18_11 : decode bc18 11 = .ok (.iload_n 1, 1) := by decide +kernel
theorem d18_12 : decode bc18 12 = .ok (.iconst 1, 1) := by decide +kernel
theorem d18_13 : decode bc18 13 = .ok (.bastore, 1) := by decide +kernel
theorem d18_14 : decode bc18 14 = .ok (.return_, 1) := by decide +kernel
abbrev bc19 := prog_174_method_19_code
theorem d19_0 : decode bc19 0 = .ok (.iload_n 1, 1) := by decide +kernel
theorem d19_1 : decode bc19 1 = .ok (.ifCond .ne 5, 3) := by decide +kernel
theorem d19_4 : decode bc19 4 = .ok (.iload_n 2, 1) := by decide +kernel
theorem d19_5 : decode bc19 5 = .ok (.ireturn, 1) := by decide +kernel
theorem d19_6 : decode bc19 6 = .ok (.aload_n 0, 1) := by decide +kernel
theorem d19_7 : decode bc19 7 = .ok (.iload_n 2, 1) := by decide +kernel
theorem d19_8 : decode bc19 8 = .ok (.iload_n 1, 1) := by decide +kernel
theorem d19_9 : decode bc19 9 = .ok (.invokevirtual 76, 3) := by decide +kernel
theorem d19_12 : decode bc19 12 = .ok (.ifCond .eq 41, 3) := by decide +kernel
theorem d19_53 : decode bc19 53 = .ok (.aload_n 0, 1) := by decide +kernel
theorem d19_54 : decode bc19 54 = .ok (.iload_n 1, 1) := by decide +kernel
theorem d19_55 : decode bc19 55 = .ok (.aload_n 0, 1) := by decide +kernel
theorem d19_56 : decode bc19 56 = .ok (.aload_n 0, 1) := by decide +kernel
theorem d19_57 : decode bc19 57 = .ok (.iload_n 1, 1) := by decide +kernel
theorem d19_58 : decode bc19 58 = .ok (.invokevirtual 90, 3) := by decide +kernel
theorem d19_61 : decode bc19 61 = .ok (.iload_n 2, 1) := by decide +kernel
theorem d19_62 : decode bc19 62 = .ok (.invokevirtual 66, 3) := by decide +kernel
theorem d19_65 : decode bc19 65 = .ok (.invokevirtual 51, 3) := by decide +kernel
theorem d19_68 : decode bc19 68 = .ok (.aload_n 0, 1) := by decide +kernel
theorem d19_69 : decode bc19 69 = .ok (.aload_n 0, 1) := by decide +kernel
theorem d19_70 : decode bc19 70 = .ok (.iload_n 1, 1) := by decide +kernel
theorem d19_71 : decode bc19 71 = .ok (.invokevirtual 90, 3) := by decide +kernel
theorem d19_74 : decode bc19 74 = .ok (.invokevirtual 84, 3) := by decide +kernel
theorem d19_77 : decode bc19 77 = .ok (.aload_n 0, 1) := by decide +kernel
theorem d19_78 : decode bc19 78 = .ok (.iload_n 1, 1) := by decide +kernel
theorem d19_79 : decode bc19 79 = .ok (.invokevirtual 84, 3) := by decide +kernel
theorem d19_82 : decode bc19 82 = .ok (.if_icmp .le 9, 3) := by decide +kernel
theorem d19_91 : decode bc19 91 = .ok (.aload_n 0, 1) := by decide +kernel
theorem d19_92 : decode bc19 92 = .ok (.iload_n 1, 1) := by decide +kernel
theorem d19_93 : decode bc19 93 = .ok (.invokevirtual 96, 3) := by decide +kernel
theorem d19_96 : decode bc19 96 = .ok (.iload_n 1, 1) := by decide +kernel
theorem d19_97 : decode bc19 97 = .ok (.ireturn, 1) := by decide +kernel
abbrev bc20 := prog_152_method_3_code
theorem d20_0 : decode bc20 0 = .ok (.aload_n 0, 1) := by decide +kernel
theorem d20_1 : decode bc20 1 = .ok (.getfield 111, 3) := by decide +kernel
theorem d20_4 : decode bc20 4 = .ok (.aload_n 0, 1) := by decide +kernel
theorem d20_5 : decode bc20 5 = .ok (.getfield 31, 3) := by decide +kernel
theorem d20_8 : decode bc20 8 = .ok (.ishl, 1) := by decide +kernel
theorem d20_9 : decode bc20 9 = .ok (.ireturn, 1) := by decide +kernel
abbrev bc21 := prog_152_method_17_code
theorem d21_0 : decode bc21 0 = .ok (.iload_n 1, 1) := by decide +kernel
theorem d21_1 : decode bc21 1 = .ok (.aload_n 0, 1) := by decide +kernel
theorem d21_2 : decode bc21 2 = .ok (.getfield 31, 3) := by decide +kernel
theorem d21_5 : decode bc21 5 = .ok (.ishr, 1) := by decide +kernel
theorem d21_6 : decode bc21 6 = .ok (.istore 4, 2) := by decide +kernel
theorem d21_8 : decode bc21 8 = .ok (.iload_n 1, 1) := by decide +kernel
theorem d21_9 : decode bc21 9 = .ok (.iload 4, 2) := by decide +kernel
theorem d21_11 : decode bc21 11 = .ok (.aload_n 0, 1) := by decide +kernel
theorem d21_12 : decode bc21 12 = .ok (.getfield 31, 3) := by decide +kernel
theorem d21_15 : decode bc21 15 = .ok (.ishl, 1) := by decide +kernel
theorem d21_16 : decode bc21 16 = .ok (.isub, 1) := by decide +kernel
theorem d21_17 : decode bc21 17 = .ok (.iconst 1, 1) := by decide +kernel
theorem d21_18 : decode bc21 18 = .ok (.iadd, 1) := by decide +kernel
theorem d21_19 : decode bc21 19 = .ok (.istore 5, 2) := by decide +kernel
theorem d21_21 : decode bc21 21 = .ok (.iload 5, 2) := by decide +kernel
theorem d21_23 : decode bc21 23 = .ok (.aload_n 0, 1) := by decide +kernel
theorem d21_24 : decode bc21 24 = .ok (.getfield 34, 3) := by decide +kernel
theorem d21_27 : decode bc21 27 = .ok (.if_icmp .ne 93, 3) := by decide +kernel
theorem d21_30 : decode bc21 30 = .ok (.iload 4, 2) := by decide +kernel
theorem d21_32 : decode bc21 32 = .ok (.aload_n 0, 1) := by decide +kernel
theorem d21_33 : decode bc21 33 = .ok (.getfield 114, 3) := by decide +kernel
theorem d21_36 : decode bc21 36 = .ok (.if_icmp .ne 84, 3) := by decide +kernel
theorem d21_39 : decode bc21 39 = .ok (.aload_n 0, 1) := by decide +kernel
theorem d21_40 : decode bc21 40 = .ok (.iload 4, 2) := by decide +kernel
theorem d21_42 : decode bc21 42 = .ok (.invokevirtual 175, 3) := by decide +kernel
theorem d21_45 : decode bc21 45 = .ok (.istore 6, 2) := by decide +kernel
theorem d21_47 : decode bc21 47 = .ok (.aload_n 0, 1) := by decide +kernel
theorem d21_48 : decode bc21 48 = .ok (.getfield 88, 3) := by decide +kernel
theorem d21_51 : decode bc21 51 = .ok (.iload 6, 2) := by decide +kernel
theorem d21_53 : decode bc21 53 = .ok (.aload_n 0, 1) := by decide +kernel
theorem d21_54 : decode bc21 54 = .ok (.getfield 31, 3) := by decide +kernel
theorem d21_57 : decode bc21 57 = .ok (.ishl, 1) := by decide +kernel
theorem d21_58 : decode bc21 58 = .ok (.lload_n 2, 1) := by decide +kernel
theorem d21_59 : decode bc21 59 = .ok (.aload_n 0, 1) := by decide +kernel
theorem d21_60 : decode bc21 60 = .ok (.getfield 107, 3) := by decide +kernel
theorem d21_63 : decode bc21 63 = .ok (.lsub, 1) := by decide +kernel
theorem d21_64 : decode bc21 64 = .ok (.lastore, 1) := by decide +kernel
theorem d21_65 : decode bc21 65 = .ok (.aload_n 0, 1) := by decide +kernel
theorem d21_66 : decode bc21 66 = .ok (.getfield 91, 3) := by decide +kernel
theorem d21_69 : decode bc21 69 = .ok (.iload 6, 2) := by decide +kernel
theorem d21_71 : decode bc21 71 = .ok (.aload_n 0, 1) := by decide +kernel
theorem d21_72 : decode bc21 72 = .ok (.getfield 31, 3) := by decide +kernel
theorem d21_75 : decode bc21 75 = .ok (.ishl, 1) := by decide +kernel
theorem d21_76 : decode bc21 76 = .ok (.iconst 0, 1) := by decide +kernel
theorem d21_77 : decode bc21 77 = .ok (.iastore, 1) := by decide +kernel
theorem d21_78 : decode bc21 78 = .ok (.aload_n 0, 1) := by decide +kernel
theorem d21_79 : decode bc21 79 = .ok (.getfield 94, 3) := by decide +kernel
theorem d21_82 : decode bc21 82 = .ok (.ifnull 16, 3) := by decide +kernel
theorem d21_85 : decode bc21 85 = .ok (.aload_n 0, 1) := by decide +kernel
theorem d21_86 : decode bc21 86 = .ok (.getfield 94, 3) := by decide +kernel
theorem d21_89 : decode bc21 89 = .ok (.iload 6, 2) := by decide +kernel
theorem d21_91 : decode bc21 91 = .ok (.aload_n 0, 1) := by decide +kernel
theorem d21_92 : decode bc21 92 = .ok (.getfield 31, 3) := by decide +kernel
theorem d21_95 : decode bc21 95 = .ok (.ishl, 1) := by decide +kernel
theorem d21_96 : decode bc21 96 = .ok (.lconst 0, 1) := by decide +kernel
theorem d21_97 : decode bc21 97 = .ok (.lastore, 1) := by decide +kernel
theorem d21_98 : decode bc21 98 = .ok (.aload_n 0, 1) := by decide +kernel
theorem d21_99 : decode bc21 99 = .ok (.getfield 37, 3) := by decide +kernel
theorem d21_102 : decode bc21 102 = .ok (.iload 6, 2) := by decide +kernel
theorem d21_104 : decode bc21 104 = .ok (.iconst 1, 1) := by decide +kernel
theorem d21_105 : decode bc21 105 = .ok (.iastore, 1) := by decide +kernel
theorem d21_106 : decode bc21 106 = .ok (.aload_n 0, 1) := by decide +kernel
theorem d21_107 : decode bc21 107 = .ok (.iload 6, 2) := by decide +kernel
theorem d21_109 : decode bc21 109 = .ok (.invokevirtual 123, 3) := by decide +kernel
theorem d21_112 : decode bc21 112 = .ok (.iload 6, 2) := by decide +kernel
theorem d21_114 : decode bc21 114 = .ok (.aload_n 0, 1) := by decide +kernel
theorem d21_115 : decode bc21 115 = .ok (.getfield 31, 3) := by decide +kernel
theorem d21_118 : decode bc21 118 = .ok (.ishl, 1) := by decide +kernel
theorem d21_119 : decode bc21 119 = .ok (.ireturn, 1) := by decide +kernel
theorem d21_120 : decode bc21 120 = .ok (.aload_n 0, 1) := by decide +kernel
theorem d21_121 : decode bc21 121 = .ok (.getfield 37, 3) := by decide +kernel
theorem d21_124 : decode bc21 124 = .ok (.iload 4, 2) := by decide +kernel
theorem d21_126 : decode bc21 126 = .ok (.iaload, 1) := by decide +kernel
theorem d21_127 : decode bc21 127 = .ok (.aload_n 0, 1) := by decide +kernel
theorem d21_128 : decode bc21 128 = .ok (.getfield 34, 3) := by decide +kernel
theorem d21_131 : decode bc21 131 = .ok (.if_icmp .ne 155, 3) := by decide +kernel
theorem d21_286 : decode bc21 286 = .ok (.iload 4, 2) := by decide +kernel
theorem d21_288 : decode bc21 288 = .ok (.aload_n 0, 1) := by decide +kernel
theorem d21_289 : decode bc21 289 = .ok (.getfield 31, 3) := by decide +kernel
theorem d21_292 : decode bc21 292 = .ok (.ishl, 1) := by decide +kernel
theorem d21_293 : decode bc21 293 = .ok (.istore 6, 2) := by decide +kernel
theorem d21_295 : decode bc21 295 = .ok (.aload_n 0, 1) := by decide +kernel
theorem d21_296 : decode bc21 296 = .ok (.getfield 88, 3) := by decide +kernel
theorem d21_299 : decode bc21 299 = .ok (.iload 6, 2) := by decide +kernel
theorem d21_301 : decode bc21 301 = .ok (.iload 5, 2) := by decide +kernel
theorem d21_303 : decode bc21 303 = .ok (.iadd, 1) := by decide +kernel
theorem d21_304 : decode bc21 304 = .ok (.aload_n 0, 1) := by decide +kernel
theorem d21_305 : decode bc21 305 = .ok (.getfield 88, 3) := by decide +kernel
theorem d21_308 : decode bc21 308 = .ok (.iload 6, 2) := by decide +kernel
theorem d21_310 : decode bc21 310 = .ok (.iload 5, 2) := by decide +kernel
theorem d21_312 : decode bc21 312 = .ok (.iadd, 1) := by decide +kernel
theorem d21_313 : decode bc21 313 = .ok (.iconst 1, 1) := by decide +kernel
theorem d21_314 : decode bc21 314 = .ok (.iadd, 1) := by decide +kernel
theorem d21_315 : decode bc21 315 = .ok (.aload_n 0, 1) := by decide +kernel
theorem d21_316 : decode bc21 316 = .ok (.getfield 37, 3) := by decide +kernel
theorem d21_319 : decode bc21 319 = .ok (.iload 4, 2) := by decide +kernel
theorem d21_321 : decode bc21 321 = .ok (.iaload, 1) := by decide +kernel
theorem d21_322 : decode bc21 322 = .ok (.iload 5, 2) := by decide +kernel
theorem d21_324 : decode bc21 324 = .ok (.isub, 1) := by decide +kernel
theorem d21_325 : decode bc21 325 = .ok (.invokestatic 178, 3) := by decide +kernel
theorem d21_328 : decode bc21 328 = .ok (.aload_n 0, 1) := by decide +kernel
theorem d21_329 : decode bc21 329 = .ok (.getfield 91, 3) := by decide +kernel
theorem d21_332 : decode bc21 332 = .ok (.iload 6, 2) := by decide +kernel
theorem d21_334 : decode bc21 334 = .ok (.iload 5, 2) := by decide +kernel
theorem d21_336 : decode bc21 336 = .ok (.iadd, 1) := by decide +kernel
theorem d21_337 : decode bc21 337 = .ok (.aload_n 0, 1) := by decide +kernel
theorem d21_338 : decode bc21 338 = .ok (.getfield 91, 3) := by decide +kernel
theorem d21_341 : decode bc21 341 = .ok (.iload 6, 2) := by decide +kernel
theorem d21_343 : decode bc21 343 = .ok (.iload 5, 2) := by decide +kernel
theorem d21_345 : decode bc21 345 = .ok (.iadd, 1) := by decide +kernel
theorem d21_346 : decode bc21 346 = .ok (.iconst 1, 1) := by decide +kernel
theorem d21_347 : decode bc21 347 = .ok (.iadd, 1) := by decide +kernel
theorem d21_348 : decode bc21 348 = .ok (.aload_n 0, 1) := by decide +kernel
theorem d21_349 : decode bc21 349 = .ok (.getfield 37, 3) := by decide +kernel
theorem d21_352 : decode bc21 352 = .ok (.iload 4, 2) := by decide +kernel
theorem d21_354 : decode bc21 354 = .ok (.iaload, 1) := by decide +kernel
theorem d21_355 : decode bc21 355 = .ok (.iload 5, 2) := by decide +kernel
theorem d21_357 : decode bc21 357 = .ok (.isub, 1) := by decide +kernel
theorem d21_358 : decode bc21 358 = .ok (.invokestatic 178, 3) := by decide +kernel
theorem d21_361 : decode bc21 361 = .ok (.aload_n 0, 1) := by decide +kernel
theorem d21_362 : decode bc21 362 = .ok (.getfield 88, 3) := by decide +kernel
theorem d21_365 : decode bc21 365 = .ok (.iload 6, 2) := by decide +kernel
theorem d21_367 : decode bc21 367 = .ok (.iload 5, 2) := by decide +kernel
theorem d21_369 : decode bc21 369 = .ok (.iadd, 1) := by decide +kernel
theorem d21_370 : decode bc21 370 = .ok (.lload_n 2, 1) := by decide +kernel
theorem d21_371 : decode bc21 371 = .ok (.aload_n 0, 1) := by decide +kernel
theorem d21_372 : decode bc21 372 = .ok (.getfield 107, 3) := by decide +kernel
theorem d21_375 : decode bc21 375 = .ok (.lsub, 1) := by decide +kernel
theorem d21_376 : decode bc21 376 = .ok (.lastore, 1) := by decide +kernel
theorem d21_377 : decode bc21 377 = .ok (.aload_n 0, 1) := by decide +kernel
theorem d21_378 : decode bc21 378 = .ok (.getfield 91, 3) := by decide +kernel
theorem d21_381 : decode bc21 381 = .ok (.iload 6, 2) := by decide +kernel
theorem d21_383 : decode bc21 383 = .ok (.iload 5, 2) := by decide +kernel
theorem d21_385 : decode bc21 385 = .ok (.iadd, 1) := by decide +kernel
theorem d21_386 : decode bc21 386 = .ok (.aload_n 0, 1) := by decide +kernel
theorem d21_387 : decode bc21 387 = .ok (.getfield 91, 3) := by decide +kernel
theorem d21_390 : decode bc21 390 = .ok (.iload 6, 2) := by decide +kernel
theorem d21_392 : decode bc21 392 = .ok (.iload 5, 2) := by decide +kernel
theorem d21_394 : decode bc21 394 = .ok (.iadd, 1) := by decide +kernel
theorem d21_395 : decode bc21 395 = .ok (.iconst 1, 1) := by decide +kernel
theorem d21_396 : decode bc21 396 = .ok (.isub, 1) := by decide +kernel
theorem d21_397 : decode bc21 397 = .ok (.iaload, 1) := by decide +kernel
theorem d21_398 : decode bc21 398 = .ok (.iastore, 1) := by decide +kernel
theorem d21_399 : decode bc21 399 = .ok (.aload_n 0, 1) := by decide +kernel
theorem d21_400 : decode bc21 400 = .ok (.getfield 94, 3) := by decide +kernel
theorem d21_403 : decode bc21 403 = .ok (.ifnull 58, 3) := by decide +kernel
theorem d21_406 : decode bc21 406 = .ok (.aload_n 0, 1) := by decide +kernel
theorem d21_407 : decode bc21 407 = .ok (.getfield 94, 3) := by decide +kernel
theorem d21_410 : decode bc21 410 = .ok (.iload 6, 2) := by decide +kernel
theorem d21_412 : decode bc21 412 = .ok (.iload 5, 2) := by decide +kernel
theorem d21_414 : decode bc21 414 = .ok (.iadd, 1) := by decide +kernel
theorem d21_415 : decode bc21 415 = .ok (.aload_n 0, 1) := by decide +kernel
theorem d21_416 : decode bc21 416 = .ok (.getfield 94, 3) := by decide +kernel
theorem d21_419 : decode bc21 419 = .ok (.iload 6, 2) := by decide +kernel
theorem d21_421 : decode bc21 421 = .ok (.iload 5, 2) := by decide +kernel
theorem d21_423 : decode bc21 423 = .ok (.iadd, 1) := by decide +kernel
theorem d21_424 : decode bc21 424 = .ok (.iconst 1, 1) := by decide +kernel
theorem d21_425 : decode bc21 425 = .ok (.iadd, 1) := by decide +kernel
theorem d21_426 : decode bc21 426 = .ok (.aload_n 0, 1) := by decide +kernel
theorem d21_427 : decode bc21 427 = .ok (.getfield 37, 3) := by decide +kernel
theorem d21_430 : decode bc21 430 = .ok (.iload 4, 2) := by decide +kernel
theorem d21_432 : decode bc21 432 = .ok (.iaload, 1) := by decide +kernel
theorem d21_433 : decode bc21 433 = .ok (.iload 5, 2) := by decide +kernel
theorem d21_435 : decode bc21 435 = .ok (.isub, 1) := by decide +kernel
theorem d21_436 : decode bc21 436 = .ok (.invokestatic 178, 3) := by decide +kernel
theorem d21_439 : decode bc21 439 = .ok (.aload_n 0, 1) := by decide +kernel
theorem d21_440 : decode bc21 440 = .ok (.getfield 94, 3) := by decide +kernel
theorem d21_443 : decode bc21 443 = .ok (.iload 6, 2) := by decide +kernel
theorem d21_445 : decode bc21 445 = .ok (.iload 5, 2) := by decide +kernel
theorem d21_447 : decode bc21 447 = .ok (.iadd, 1) := by decide +kernel
theorem d21_448 : decode bc21 448 = .ok (.aload_n 0, 1) := by decide +kernel
theorem d21_449 : decode bc21 449 = .ok (.getfield 94, 3) := by decide +kernel
theorem d21_452 : decode bc21 452 = .ok (.iload 6, 2) := by decide +kernel
theorem d21_454 : decode bc21 454 = .ok (.iload 5, 2) := by decide +kernel
theorem d21_456 : decode bc21 456 = .ok (.iadd, 1) := by decide +kernel
theorem d21_457 : decode bc21 457 = .ok (.iconst 1, 1) := by decide +kernel
theorem d21_458 : decode bc21 458 = .ok (.isub, 1) := by decide +kernel
theorem d21_459 : decode bc21 459 = .ok (.laload, 1) := by decide +kernel
theorem d21_460 : decode bc21 460 = .ok (.lastore, 1) := by decide +kernel
theorem d21_461 : decode bc21 461 = .ok (.aload_n 0, 1) := by decide +kernel
theorem d21_462 : decode bc21 462 = .ok (.getfield 37, 3) := by decide +kernel
theorem d21_465 : decode bc21 465 = .ok (.iload 4, 2) := by decide +kernel
theorem d21_467 : decode bc21 467 = .ok (.dup2, 1) := by decide +kernel
theorem d21_468 : decode bc21 468 = .ok (.iaload, 1) := by decide +kernel
theorem d21_469 : decode bc21 469 = .ok (.iconst 1, 1) := by decide +kernel
theorem d21_470 : decode bc21 470 = .ok (.iadd, 1) := by decide +kernel
theorem d21_471 : decode bc21 471 = .ok (.iastore, 1) := by decide +kernel
theorem d21_472 : decode bc21 472 = .ok (.aload_n 0, 1) := by decide +kernel
theorem d21_473 : decode bc21 473 = .ok (.iload 4, 2) := by decide +kernel
theorem d21_475 : decode bc21 475 = .ok (.invokevirtual 165, 3) := by decide +kernel
theorem d21_478 : decode bc21 478 = .ok (.iload 6, 2) := by decide +kernel
theorem d21_480 : decode bc21 480 = .ok (.iload 5, 2) := by decide +kernel
theorem d21_482 : decode bc21 482 = .ok (.iadd, 1) := by decide +kernel
theorem d21_483 : decode bc21 483 = .ok (.ireturn, 1) := by decide +kernel
abbrev bc22 := prog_152_method_48_code
theorem d22_0 : decode bc22 0 = .ok (.aload_n 0, 1) := by decide +kernel
theorem d22_1 : decode bc22 1 = .ok (.getfield 63, 3) := by decide +kernel
theorem d22_4 : decode bc22 4 = .ok (.iload_n 1, 1) := by decide +kernel
theorem d22_5 : decode bc22 5 = .ok (.baload, 1) := by decide +kernel
theorem d22_6 : decode bc22 6 = .ok (.ifCond .eq 13, 3) := by decide +kernel
theorem d22_9 : decode bc22 9 = .ok (.aload_n 0, 1) := by decide +kernel
theorem d22_10 : decode bc22 10 = .ok (.getfield 76, 3) := by decide +kernel
theorem d22_13 : decode bc22 13 = .ok (.iload_n 1, 1) := by decide +kernel
theorem d22_14 : decode bc22 14 = .ok (.baload, 1) := by decide +kernel
theorem d22_15 : decode bc22 15 = .ok (.ifCond .eq 4, 3) := by decide +kernel
theorem d22_18 : decode bc22 18 = .ok (.return_, 1) := by decide +kernel
abbrev bc23 := prog_152_method_50_code
theorem d23_0 : decode bc23 0 = .ok (.aload_n 0, 1) := by decide +kernel
theorem d23_1 : decode bc23 1 = .ok (.invokevirtual 103, 3) := by decide +kernel
theorem d23_4 : decode bc23 4 = .ok (.istore_n 2, 1) := by decide +kernel
theorem d23_5 : decode bc23 5 = .ok (.aload_n 0, 1) := by decide +kernel
theorem d23_6 : decode bc23 6 = .ok (.getfield 43, 3) := by decide +kernel
theorem d23_9 : decode bc23 9 = .ok (.iload_n 1, 1) := by decide +kernel
theorem d23_10 : decode bc23 10 = .ok (.iaload, 1) := by decide +kernel
theorem d23_11 : decode bc23 11 = .ok (.istore_n 3, 1) := by decide +kernel
theorem d23_12 : decode bc23 12 = .ok (.aload_n 0, 1) := by decide +kernel
theorem d23_13 : decode bc23 13 = .ok (.getfield 40, 3) := by decide +kernel
theorem d23_16 : decode bc23 16 = .ok (.iload_n 2, 1) := by decide +kernel
theorem d23_17 : decode bc23 17 = .ok (.iload_n 1, 1) := by decide +kernel
theorem d23_18 : decode bc23 18 = .ok (.iastore, 1) := by decide +kernel
theorem d23_19 : decode bc23 19 = .ok (.aload_n 0, 1) := by decide +kernel
theorem d23_20 : decode bc23 20 = .ok (.getfield 43, 3) := by decide +kernel
theorem d23_23 : decode bc23 23 = .ok (.iload_n 2, 1) := by decide +kernel
theorem d23_24 : decode bc23 24 = .ok (.iload_n 3, 1) := by decide +kernel
theorem d23_25 : decode bc23 25 = .ok (.iastore, 1) := by decide +kernel
theorem d23_26 : decode bc23 26 = .ok (.aload_n 0, 1) := by decide +kernel
theorem d23_27 : decode bc23 27 = .ok (.getfield 43, 3) := by decide +kernel
theorem d23_30 : decode bc23 30 = .ok (.iload_n 1, 1) := by decide +kernel
theorem d23_31 : decode bc23 31 = .ok (.iload_n 2, 1) := by decide +kernel
theorem d23_32 : decode bc23 32 = .ok (.iastore, 1) := by decide +kernel
theorem d23_33 : decode bc23 33 = .ok (.iload_n 3, 1) := by decide +kernel
theorem d23_34 : decode bc23 34 = .ok (.ifCond .ne 11, 3) := by decide +kernel
theorem d23_37 : decode bc23 37 = .ok (.aload_n 0, 1) := by decide +kernel
theorem d23_38 : decode bc23 38 = .ok (.iload_n 2, 1) := by decide +kernel
theorem d23_39 : decode bc23 39 = .ok (.putfield 114, 3) := by decide +kernel
theorem d23_42 : decode bc23 42 = .ok (.goto 10, 3) := by decide +kernel
theorem d23_52 : decode bc23 52 = .ok (.aload_n 0, 1) := by decide +kernel
theorem d23_53 : decode bc23 53 = .ok (.getfield 63, 3) := by decide +kernel
theorem d23_56 : decode bc23 56 = .ok (.iload_n 2, 1) := by decide +kernel
theorem d23_57 : decode bc23 57 = .ok (.iconst 1, 1) := by decide +kernel
theorem d23_58 : decode bc23 58 = .ok (.bastore, 1) := by decide +kernel
theorem d23_59 : decode bc23 59 = .ok (.aload_n 0, 1) := by decide +kernel
theorem d23_60 : decode bc23 60 = .ok (.getfield 76, 3) := by decide +kernel
theorem d23_63 : decode bc23 63 = .ok (.iload_n 2, 1) := by decide +kernel
theorem d23_64 : decode bc23 64 = .ok (.iconst 1, 1) := by decide +kernel
theorem d23_65 : decode bc23 65 = .ok (.bastore, 1) := by decide +kernel
theorem d23_66 : decode bc23 66 = .ok (.iload_n 2, 1) := by decide +kernel
theorem d23_67 : decode bc23 67 = .ok (.ireturn, 1) := by decide +kernel
abbrev bc24 := prog_152_method_54_code
theorem d24_0 : decode bc24 0 = .ok (.aload_n 0, 1) := by decide +kernel
theorem d24_1 : decode bc24 1 = .ok (.iload_n 1, 1) := by decide +kernel
theorem d24_2 : decode bc24 2 = .ok (.aload_n 0, 1) := by decide +kernel
theorem d24_3 : decode bc24 3 = .ok (.getfield 31, 3) := by decide +kernel
theorem d24_6 : decode bc24 6 = .ok (.ishl, 1) := by decide +kernel
theorem d24_7 : decode bc24 7 = .ok (.invokevirtual 137, 3) := by decide +kernel
theorem d24_10 : decode bc24 10 = .ok (.aload_n 0, 1) := by decide +kernel
theorem d24_11 : decode bc24 11 = .ok (.iload_n 2, 1) := by decide +kernel
theorem d24_12 : decode bc24 12 = .ok (.aload_n 0, 1) := by decide +kernel
theorem d24_13 : decode bc24 13 = .ok (.getfield 31, 3) := by decide +kernel
theorem d24_16 : decode bc24 16 = .ok (.ishl, 1) := by decide +kernel
theorem d24_17 : decode bc24 17 = .ok (.invokevirtual 137, 3) := by decide +kernel
theorem d24_20 : decode bc24 20 = .ok (.lcmp, 1) := by decide +kernel
theorem d24_21 : decode bc24 21 = .ok (.ifCond .ge 7, 3) := by decide +kernel
theorem d24_28 : decode bc24 28 = .ok (.iconst 0, 1) := by decide +kernel
theorem d24_29 : decode bc24 29 = .ok (.ireturn, 1) := by decide +kernel
abbrev bc25 := prog_152_method_5_code
theorem d25_0 : decode bc25 0 = .ok (.aload_n 0, 1) := by decide +kernel
theorem d25_1 : decode bc25 1 = .ok (.getfield 88, 3) := by decide +kernel
theorem d25_4 : decode bc25 4 = .ok (.iload_n 1, 1) := by decide +kernel
theorem d25_5 : decode bc25 5 = .ok (.laload, 1) := by decide +kernel
theorem d25_6 : decode bc25 6 = .ok (.aload_n 0, 1) := by decide +kernel
theorem d25_7 : decode bc25 7 = .ok (.getfield 107, 3) := by decide +kernel
theorem d25_10 : decode bc25 10 = .ok (.ladd, 1) := by decide +kernel
theorem d25_11 : decode bc25 11 = .ok (.lreturn, 1) := by decide +kernel
abbrev bc26 := prog_174_method_10_code
theorem d26_0 : decode bc26 0 = .ok (.aload_n 0, 1) := by decide +kernel
theorem d26_1 : decode bc26 1 = .ok (.getfield 25, 3) := by decide +kernel
theorem d26_4 : decode bc26 4 = .ok (.iload_n 1, 1) := by decide +kernel
theorem d26_5 : decode bc26 5 = .ok (.iconst 2, 1) := by decide +kernel
theorem d26_6 : decode bc26 6 = .ok (.ishl, 1) := by decide +kernel
theorem d26_7 : decode bc26 7 = .ok (.iconst 2, 1) := by decide +kernel
theorem d26_8 : decode bc26 8 = .ok (.iadd, 1) := by decide +kernel
theorem d26_9 : decode bc26 9 = .ok (.iaload, 1) := by decide +kernel
theorem d26_10 : decode bc26 10 = .ok (.ireturn, 1) := by decide +kernel
abbrev bc27 := prog_174_method_22_code
theorem d27_0 : decode bc27 0 = .ok (.aload_n 0, 1) := by decide +kernel
theorem d27_1 : decode bc27 1 = .ok (.getfield 62, 3) := by decide +kernel
theorem d27_4 : decode bc27 4 = .ok (.ifCond .ne 20, 3) := by decide +kernel
theorem d27_7 : decode bc27 7 = .ok (.aload_n 0, 1) := by decide +kernel
theorem d27_8 : decode bc27 8 = .ok (.aload_n 0, 1) := by decide +kernel
theorem d27_9 : decode bc27 9 = .ok (.iload_n 1, 1) := by decide +kernel
theorem d27_10 : decode bc27 10 = .ok (.invokevirtual 58, 3) := by decide +kernel
theorem d27_13 : decode bc27 13 = .ok (.ifCond .ne 7, 3) := by decide +kernel
theorem d27_20 : decode bc27 20 = .ok (.iconst 0, 1) := by decide +kernel
theorem d27_21 : decode bc27 21 = .ok (.putfield 62, 3) := by decide +kernel
theorem d27_24 : decode bc27 24 = .ok (.return_, 1) := by decide +kernel
abbrev bc28 := prog_152_method_14_code
theorem d28_0 : decode bc28 0 = .ok (.iload_n 1, 1) := by decide +kernel
theorem d28_1 : decode bc28 1 = .ok (.aload_n 0, 1) := by decide +kernel
theorem d28_2 : decode bc28 2 = .ok (.getfield 31, 3) := by decide +kernel
theorem d28_5 : decode bc28 5 = .ok (.ishr, 1) := by decide +kernel
theorem d28_6 : decode bc28 6 = .ok (.istore 6, 2) := by decide +kernel
theorem d28_8 : decode bc28 8 = .ok (.iload_n 2, 1) := by decide +kernel
theorem d28_9 : decode bc28 9 = .ok (.iconst (-1), 1) := by decide +kernel
theorem d28_10 : decode bc28 10 = .ok (.if_icmp .eq 30, 3) := by decide +kernel
theorem d28_40 : decode bc28 40 = .ok (.aload_n 0, 1) := by decide +kernel
theorem d28_41 : decode bc28 41 = .ok (.iload_n 1, 1) := by decide +kernel
theorem d28_42 : decode bc28 42 = .ok (.iload 6, 2) := by decide +kernel
theorem d28_44 : decode bc28 44 = .ok (.aload_n 0, 1) := by decide +kernel
theorem d28_45 : decode bc28 45 = .ok (.getfield 31, 3) := by decide +kernel
theorem d28_48 : decode bc28 48 = .ok (.ishl, 1) := by decide +kernel
theorem d28_49 : decode bc28 49 = .ok (.aload_n 0, 1) := by decide +kernel
theorem d28_50 : decode bc28 50 = .ok (.getfield 37, 3) := by decide +kernel
theorem d28_53 : decode bc28 53 = .ok (.iload 6, 2) := by decide +kernel
theorem d28_55 : decode bc28 55 = .ok (.iaload, 1) := by decide +kernel
theorem d28_56 : decode bc28 56 = .ok (.iadd, 1) := by decide +kernel
theorem d28_57 : decode bc28 57 = .ok (.iload_n 3, 1) := by decide +kernel
theorem d28_58 : decode bc28 58 = .ok (.lload 4, 2) := by decide +kernel
theorem d28_60 : decode bc28 60 = .ok (.invokevirtual 161, 3) := by decide +kernel
theorem d28_63 : decode bc28 63 = .ok (.aload_n 0, 1) := by decide +kernel
theorem d28_64 : decode bc28 64 = .ok (.iload 6, 2) := by decide +kernel
theorem d28_66 : decode bc28 66 = .ok (.invokevirtual 165, 3) := by decide +kernel
theorem d28_69 : decode bc28 69 = .ok (.aload_n 0, 1) := by decide +kernel
theorem d28_70 : decode bc28 70 = .ok (.iload 6, 2) := by decide +kernel
theorem d28_72 : decode bc28 72 = .ok (.iload_n 3, 1) := by decide +kernel
theorem d28_73 : decode bc28 73 = .ok (.lload 4, 2) := by decide +kernel
theorem d28_75 : decode bc28 75 = .ok (.invokevirtual 168, 3) := by decide +kernel
theorem d28_78 : decode bc28 78 = .ok (.aload_n 0, 1) := by decide +kernel
theorem d28_79 : decode bc28 79 = .ok (.iload 6, 2) := by decide +kernel
theorem d28_81 : decode bc28 81 = .ok (.iload_n 3, 1) := by decide +kernel
theorem d28_82 : decode bc28 82 = .ok (.lload 4, 2) := by decide +kernel
theorem d28_84 : decode bc28 84 = .ok (.invokevirtual 172, 3) := by decide +kernel
theorem d28_87 : decode bc28 87 = .ok (.iload_n 2, 1) := by decide +kernel
theorem d28_88 : decode bc28 88 = .ok (.iconst (-1), 1) := by decide +kernel
theorem d28_89 : decode bc28 89 = .ok (.if_icmp .eq 64, 3) := by decide +kernel
theorem d28_153 : decode bc28 153 = .ok (.return_, 1) := by decide +kernel
abbrev bc29 := prog_152_method_16_code
theorem d29_0 : decode bc29 0 = .ok (.iload_n 1, 1) := by decide +kernel
theorem d29_1 : decode bc29 1 = .ok (.istore 6, 2) := by decide +kernel
theorem d29_3 : decode bc29 3 = .ok (.iload 6, 2) := by decide +kernel
theorem d29_5 : decode bc29 5 = .ok (.iload_n 2, 1) := by decide +kernel
theorem d29_6 : decode bc29 6 = .ok (.if_icmp .ge 20, 3) := by decide +kernel
theorem d29_9 : decode bc29 9 = .ok (.aload_n 0, 1) := by decide +kernel
theorem d29_10 : decode bc29 10 = .ok (.getfield 91, 3) := by decide +kernel
theorem d29_13 : decode bc29 13 = .ok (.iload 6, 2) := by decide +kernel
theorem d29_15 : decode bc29 15 = .ok (.dup2, 1) := by decide +kernel
theorem d29_16 : decode bc29 16 = .ok (.iaload, 1) := by decide +kernel
theorem d29_17 : decode bc29 17 = .ok (.iload_n 3, 1) := by decide +kernel
theorem d29_18 : decode bc29 18 = .ok (.iadd, 1) := by decide +kernel
theorem d29_19 : decode bc29 19 = .ok (.iastore, 1) := by decide +kernel
theorem d29_20 : decode bc29 20 = .ok (.iinc 6 1, 3) := by decide +kernel
theorem d29_23 : decode bc29 23 = .ok (.goto (-20), 3) := by decide +kernel
theorem d29_26 : decode bc29 26 = .ok (.aload_n 0, 1) := by decide +kernel
theorem d29_27 : decode bc29 27 = .ok (.getfield 94, 3) := by decide +kernel
theorem d29_30 : decode bc29 30 = .ok (.ifnull 30, 3) := by decide +kernel
theorem d29_33 : decode bc29 33 = .ok (.iload_n 1, 1) := by decide +kernel
theorem d29_34 : decode bc29 34 = .ok (.istore 6, 2) := by decide +kernel
theorem d29_36 : decode bc29 36 = .ok (.iload 6, 2) := by decide +kernel
theorem d29_38 : decode bc29 38 = .ok (.iload_n 2, 1) := by decide +kernel
theorem d29_39 : decode bc29 39 = .ok (.if_icmp .ge 21, 3) := by decide +kernel
theorem d29_42 : decode bc29 42 = .ok (.aload_n 0, 1) := by decide +kernel
theorem d29_43 : decode bc29 43 = .ok (.getfield 94, 3) := by decide +kernel
theorem d29_46 : decode bc29 46 = .ok (.iload 6, 2) := by decide +kernel
theorem d29_48 : decode bc29 48 = .ok (.dup2, 1) := by decide +kernel
theorem d29_49 : decode bc29 49 = .ok (.laload, 1) := by decide +kernel
theorem d29_50 : decode bc29 50 = .ok (.lload 4, 2) := by decide +kernel
theorem d29_52 : decode bc29 52 = .ok (.ladd, 1) := by decide +kernel
theorem d29_53 : decode bc29 53 = .ok (.lastore, 1) := by decide +kernel
theorem d29_54 : decode bc29 54 = .ok (.iinc 6 1, 3) := by decide +kernel
theorem d29_57 : decode bc29 57 = .ok (.goto (-21), 3) := by decide +kernel
theorem d29_60 : decode bc29 60 = .ok (.return_, 1) := by decide +kernel
abbrev bc30 := prog_152_method_45_code
theorem d30_0 : decode bc30 0 = .ok (.iload_n 1, 1) := by decide +kernel
theorem d30_1 : decode bc30 1 = .ok (.aload_n 0, 1) := by decide +kernel
theorem d30_2 : decode bc30 2 = .ok (.getfield 114, 3) := by decide +kernel
theorem d30_5 : decode bc30 5 = .ok (.if_icmp .ne 4, 3) := by decide +kernel
theorem d30_8 : decode bc30 8 = .ok (.return_, 1) := by decide +kernel
theorem d30_9 : decode bc30 9 = .ok (.aload_n 0, 1) := by decide +kernel
theorem d30_10 : decode bc30 10 = .ok (.iload_n 1, 1) := by decide +kernel
theorem d30_11 : decode bc30 11 = .ok (.aload_n 0, 1) := by decide +kernel
theorem d30_12 : decode bc30 12 = .ok (.getfield 31, 3) := by decide +kernel
theorem d30_15 : decode bc30 15 = .ok (.ishl, 1) := by decide +kernel
theorem d30_16 : decode bc30 16 = .ok (.invokevirtual 137, 3) := by decide +kernel
theorem d30_19 : decode bc30 19 = .ok (.lstore 5, 2) := by decide +kernel
theorem d30_21 : decode bc30 21 = .ok (.aload_n 0, 1) := by decide +kernel
theorem d30_22 : decode bc30 22 = .ok (.invokevirtual 145, 3) := by decide +kernel
theorem d30_25 : decode bc30 25 = .ok (.istore 7, 2) := by decide +kernel
theorem d30_27 : decode bc30 27 = .ok (.iload 7, 2) := by decide +kernel
theorem d30_29 : decode bc30 29 = .ok (.iload_n 1, 1) := by decide +kernel
theorem d30_30 : decode bc30 30 = .ok (.if_icmp .eq 62, 3) := by decide +kernel
theorem d30_92 : decode bc30 92 = .ok (.aload_n 0, 1) := by decide +kernel
theorem d30_93 : decode bc30 93 = .ok (.getfield 49, 3) := by decide +kernel
theorem d30_96 : decode bc30 96 = .ok (.iload_n 1, 1) := by decide +kernel
theorem d30_97 : decode bc30 97 = .ok (.dup2, 1) := by decide +kernel
theorem d30_98 : decode bc30 98 = .ok (.iaload, 1) := by decide +kernel
theorem d30_99 : decode bc30 99 = .ok (.iload_n 2, 1) := by decide +kernel
theorem d30_100 : decode bc30 100 = .ok (.iadd, 1) := by decide +kernel
theorem d30_101 : decode bc30 101 = .ok (.iastore, 1) := by decide +kernel
theorem d30_102 : decode bc30 102 = .ok (.aload_n 0, 1) := by decide +kernel
theorem d30_103 : decode bc30 103 = .ok (.getfield 52, 3) := by decide +kernel
theorem d30_106 : decode bc30 106 = .ok (.iload_n 1, 1) := by decide +kernel
theorem d30_107 : decode bc30 107 = .ok (.dup2, 1) := by decide +kernel
theorem d30_108 : decode bc30 108 = .ok (.laload, 1) := by decide +kernel
theorem d30_109 : decode bc30 109 = .ok (.lload_n 3, 1) := by decide +kernel
theorem d30_110 : decode bc30 110 = .ok (.ladd, 1) := by decide +kernel
theorem d30_111 : decode bc30 111 = .ok (.lastore, 1) := by decide +kernel
theorem d30_112 : decode bc30 112 = .ok (.return_, 1) := by decide +kernel
abbrev bc31 := prog_174_method_6_code
theorem d31_0 : decode bc31 0 = .ok (.aload_n 0, 1) := by decide +kernel
theorem d31_1 : decode bc31 1 = .ok (.getfield 12, 3) := by decide +kernel
theorem d31_4 : decode bc31 4 = .ok (.ireturn, 1) := by decide +kernel
abbrev bc32 := prog_152_method_15_code
theorem d32_0 : decode bc32 0 = .ok (.aload_n 0, 1) := by decide +kernel
theorem d32_1 : decode bc32 1 = .ok (.getfield 9, 3) := by decide +kernel
theorem d32_4 : decode bc32 4 = .ok (.ifCond .eq 50, 3) := by decide +kernel
theorem d32_54 : decode bc32 54 = .ok (.return_, 1) := by decide +kernel
abbrev bc33 := prog_152_method_8_code
theorem d33_0 : decode bc33 0 = .ok (.iload_n 1, 1) := by decide +kernel
theorem d33_1 : decode bc33 1 = .ok (.iload_n 1, 1) := by decide +kernel
theorem d33_2 : decode bc33 2 = .ok (.aload_n 0, 1) := by decide +kernel
theorem d33_3 : decode bc33 3 = .ok (.getfield 31, 3) := by decide +kernel
theorem d33_6 : decode bc33 6 = .ok (.ishr, 1) := by decide +kernel
theorem d33_7 : decode bc33 7 = .ok (.aload_n 0, 1) := by decide +kernel
theorem d33_8 : decode bc33 8 = .ok (.getfield 31, 3) := by decide +kernel
theorem d33_11 : decode bc33 11 = .ok (.ishl, 1) := by decide +kernel
theorem d33_12 : decode bc33 12 = .ok (.if_icmp .le 51, 3) := by decide +kernel
theorem d33_15 : decode bc33 15 = .ok (.aload_n 0, 1) := by decide +kernel
theorem d33_16 : decode bc33 16 = .ok (.getfield 91, 3) := by decide +kernel
theorem d33_19 : decode bc33 19 = .ok (.iload_n 1, 1) := by decide +kernel
theorem d33_20 : decode bc33 20 = .ok (.iaload, 1) := by decide +kernel
theorem d33_21 : decode bc33 21 = .ok (.aload_n 0, 1) := by decide +kernel
theorem d33_22 : decode bc33 22 = .ok (.getfield 91, 3) := by decide +kernel
theorem d33_25 : decode bc33 25 = .ok (.iload_n 1, 1) := by decide +kernel
theorem d33_26 : decode bc33 26 = .ok (.iconst 1, 1) := by decide +kernel
theorem d33_27 : decode bc33 27 = .ok (.isub, 1) := by decide +kernel
theorem d33_28 : decode bc33 28 = .ok (.iaload, 1) := by decide +kernel
theorem d33_29 : decode bc33 29 = .ok (.if_icmp .ne 32, 3) := by decide +kernel
theorem d33_32 : decode bc33 32 = .ok (.aload_n 0, 1) := by decide +kernel
theorem d33_33 : decode bc33 33 = .ok (.getfield 94, 3) := by decide +kernel
theorem d33_36 : decode bc33 36 = .ok (.ifnull 21, 3) := by decide +kernel
theorem d33_39 : decode bc33 39 = .ok (.aload_n 0, 1) := by decide +kernel
theorem d33_40 : decode bc33 40 = .ok (.getfield 94, 3) := by decide +kernel
theorem d33_43 : decode bc33 43 = .ok (.iload_n 1, 1) := by decide +kernel
theorem d33_44 : decode bc33 44 = .ok (.laload, 1) := by decide +kernel
theorem d33_45 : decode bc33 45 = .ok (.aload_n 0, 1) := by decide +kernel
theorem d33_46 : decode bc33 46 = .ok (.getfield 94, 3) := by decide +kernel
theorem d33_49 : decode bc33 49 = .ok (.iload_n 1, 1) := by decide +kernel
theorem d33_50 : decode bc33 50 = .ok (.iconst 1, 1) := by decide +kernel
theorem d33_51 : decode bc33 51 = .ok (.isub, 1) := by decide +kernel
theorem d33_52 : decode bc33 52 = .ok (.laload, 1) := by decide +kernel
theorem d33_53 : decode bc33 53 = .ok (.lcmp, 1) := by decide +kernel
theorem d33_54 : decode bc33 54 = .ok (.ifCond .ne 7, 3) := by decide +kernel
theorem d33_57 : decode bc33 57 = .ok (.iconst 1, 1) := by decide +kernel
theorem d33_58 : decode bc33 58 = .ok (.goto 4, 3) := by decide +kernel
theorem d33_61 : decode bc33 61 = .ok (.iconst 0, 1) := by decide +kernel
theorem d33_62 : decode bc33 62 = .ok (.ireturn, 1) := by decide +kernel
theorem d33_63 : decode bc33 63 = .ok (.aload_n 0, 1) := by decide +kernel
theorem d33_64 : decode bc33 64 = .ok (.getfield 91, 3) := by decide +kernel
theorem d33_67 : decode bc33 67 = .ok (.iload_n 1, 1) := by decide +kernel
theorem d33_68 : decode bc33 68 = .ok (.iaload, 1) := by decide +kernel
theorem d33_69 : decode bc33 69 = .ok (.ifCond .ne 25, 3) := by decide +kernel
theorem d33_72 : decode bc33 72 = .ok (.aload_n 0, 1) := by decide +kernel
theorem d33_73 : decode bc33 73 = .ok (.getfield 94, 3) := by decide +kernel
theorem d33_76 : decode bc33 76 = .ok (.ifnull 14, 3) := by decide +kernel
theorem d33_79 : decode bc33 79 = .ok (.aload_n 0, 1) := by decide +kernel
theorem d33_80 : decode bc33 80 = .ok (.getfield 94, 3) := by decide +kernel
theorem d33_83 : decode bc33 83 = .ok (.iload_n 1, 1) := by decide +kernel
theorem d33_84 : decode bc33 84 = .ok (.laload, 1) := by decide +kernel
theorem d33_85 : decode bc33 85 = .ok (.lconst 0, 1) := by decide +kernel
theorem d33_86 : decode bc33 86 = .ok (.lcmp, 1) := by decide +kernel
theorem d33_87 : decode bc33 87 = .ok (.ifCond .ne 7, 3) := by decide +kernel
theorem d33_90 : decode bc33 90 = .ok (.iconst 1, 1) := by decide +kernel
theorem d33_91 : decode bc33 91 = .ok (.goto 4, 3) := by decide +kernel
theorem d33_94 : decode bc33 94 = .ok (.iconst 0, 1) := by decide +kernel
theorem d33_95 : decode bc33 95 = .ok (.ireturn, 1) := by decide +kernel
set_option maxRecDepth 65536 in
set_option maxHeartbeats 40000000 in
theorem rm6_1 (l : Launch) (Z : State) (a0 : Array Value) (hw : own_HW Z a0) (ws : List Jvm.Cond) {nA : Nat} {A : Nat → Addr} {F : Nat → Value} {V : Nat → List Value} (ob : Addr)  (h0 : Heap) (n0 : Nat) (P : own_PS Z h0 n0 ob nA A F V) (hA : 13 ≤ nA) (hB : nA ≤ 14)  :
    own_C l Z own_y3 bc6 1 none ws 0 0 #[(.ref ob)] h0 (fun v h L => (v = none ∧ Fr n0 L ∧ own_PS Z h n0 ob nA A (own_up (own_up (own_up (own_up F 14 (.int (0 : Int32))) 15 (.int (0 : Int32))) 16 (.int (0 : Int32))) 17 (.int (1 : Int32))) V)) := by
  refine MetFree.of_bodySF (plainFor_of_name own_pn1) hisR ?_
  intro p e s m args below meth c s₁ Bd hml0 hP hK
  obtain ⟨rfl, hZ, hh⟩ := hP
  have hx := Bd.exec
  have hby := Bd.bytes
  have hml : c.maxLocals = 1 := hml0
  have hown : s.vm.findClass "com/example/jobwright/jobwright/policies/Treap" = some m.cls := findClass_of_methodNamed Bd.named
  have X0 : Stand p l e ({ frames := 0, cells := 0, slots := 0, locals := 0 } : Room) s m #[(.ref ob)] below meth c s₁ [] 0 0 := Stand.of_body Bd
  have e0 : s₁.heap = h0 := by rw [← hh, Bd.state]; rfl
  have N0 := Fr.nil n0
  have ef : entryFrame m #[(.ref ob)] 1 = mkF m 0 #[.val (.ref ob)] [] := by first | (simp [entryFrame, mkF, argsToLocals, Value.category]; done) | rfl
  obtain ⟨T1, h1, l1, X1, e1, N1, P1, st1⟩ := own_pp X0 hx hZ hw hown e0 N0 P 14 (own_w hw 14) (Or.inl (own_w hw 15)) (v := (.int (0 : Int32))) (hb hby d6_2) #[.val (.ref ob)] [] rfl rfl (by omega)
  obtain ⟨T2, h2, l2, X2, e2, N2, P2, st2⟩ := own_pp X1 hx hZ hw hown e1 N1 P1 15 (own_w hw 111) (Or.inl (own_w hw 112)) (v := (.int (0 : Int32))) (hb hby d6_7) #[.val (.ref ob)] [] rfl rfl (by omega)
  obtain ⟨T3, h3, l3, X3, e3, N3, P3, st3⟩ := own_pp X2 hx hZ hw hown e2 N2 P2 16 (own_w hw 113) (Or.inl (own_w hw 114)) (v := (.int (0 : Int32))) (hb hby d6_12) #[.val (.ref ob)] [] rfl rfl (by omega)
  obtain ⟨T4, h4, l4, X4, e4, N4, P4, st4⟩ := own_pp X3 hx hZ hw hown e3 N3 P3 17 (own_w hw 16) (Or.inl (own_w hw 17)) (v := (.int (1 : Int32))) (hb hby d6_17) #[.val (.ref ob)] [] rfl rfl (by omega)
  obtain ⟨fs, hr, hrun, hended, hW, hsame⟩ := X4.leave (v := none) (fun _ => rfl)
  refine ⟨_, _, castTop ef ?_, hrun, hended, _, _, rfl, ?_, ⟨_, rfl⟩, hW, hsame.mono (by decide) (by decide)⟩
  · refine s_aloadN X0 hx (hb hby d6_0) rfl rfl ?_
    refine s_iconst X0 hx (0 : Int32) (hb hby d6_1) rfl ?_
    refine st1 _ ?_
    refine s_aloadN X1 hx (hb hby d6_5) rfl rfl ?_
    refine s_iconst X1 hx (0 : Int32) (hb hby d6_6) rfl ?_
    refine st2 _ ?_
    refine s_aloadN X2 hx (hb hby d6_10) rfl rfl ?_
    refine s_iconst X2 hx (0 : Int32) (hb hby d6_11) rfl ?_
    refine st3 _ ?_
    refine s_aloadN X3 hx (hb hby d6_15) rfl rfl ?_
    refine s_iconst X3 hx (1 : Int32) (hb hby d6_16) rfl ?_
    refine st4 _ ?_
    exact X4.returnOut hx Bd.returns (hb hby d6_20) hr
  · show ((_ : Option Value) = none ∧ Fr n0 _ ∧ own_PS Z T4.heap n0 ob nA A (own_up (own_up (own_up (own_up F 14 (.int (0 : Int32))) 15 (.int (0 : Int32))) 16 (.int (0 : Int32))) 17 (.int (1 : Int32))) V)
    rw [e4]
    exact ⟨rfl, N4, P4⟩
set_option maxRecDepth 65536 in
set_option maxHeartbeats 40000000 in
theorem rm8_1 (l : Launch) (Z : State) (a0 : Array Value) (hw : own_HW Z a0) (ws : List Jvm.Cond) {nA : Nat} {A : Nat → Addr} {F : Nat → Value} {V : Nat → List Value} (ob : Addr)  (h0 : Heap) (n0 : Nat) (P : own_PS Z h0 n0 ob nA A F V) (hA : 13 ≤ nA) (hB : nA ≤ 14)  :
    own_C l Z own_y6 bc8 2 none ws 0 0 #[(.ref ob), (.int (4 : Int32))] h0 (fun v h L => (v = none ∧ Fr n0 L ∧ h = h0)) := by
  refine MetFree.of_bodySF (plainFor_of_name own_pn2) hisR ?_
  intro p e s m args below meth c s₁ Bd hml0 hP hK
  obtain ⟨rfl, hZ, hh⟩ := hP
  have hx := Bd.exec
  have hby := Bd.bytes
  have hml : c.maxLocals = 2 := hml0
  have hown : s.vm.findClass "com/example/jobwright/jobwright/policies/ProfileSteps" = some m.cls := findClass_of_methodNamed Bd.named
  have X0 : Stand p l e ({ frames := 0, cells := 0, slots := 0, locals := 0 } : Room) s m #[(.ref ob), (.int (4 : Int32))] below meth c s₁ [] 0 0 := Stand.of_body Bd
  have e0 : s₁.heap = h0 := by rw [← hh, Bd.state]; rfl
  have N0 := Fr.nil n0
  have ef : entryFrame m #[(.ref ob), (.int (4 : Int32))] 2 = mkF m 0 #[.val (.ref ob), .val (.int (4 : Int32))] [] := by first | (simp [entryFrame, mkF, argsToLocals, Value.category]; done) | rfl
  obtain ⟨T1, X1, e1, st1⟩ := own_gf X0 hx hZ hown e0 P 1 (own_w hw 58) (v := (.ref (A 1))) (P.2.2.2.1 1 (by omega)) (hb hby d8_2) #[.val (.ref ob), .val (.int (4 : Int32))] [(.int (4 : Int32))]
  obtain ⟨fs, hr, hrun, hended, hW, hsame⟩ := X1.leave (v := none) (fun _ => rfl)
  refine ⟨_, _, castTop ef ?_, hrun, hended, _, _, rfl, ?_, ⟨_, rfl⟩, hW, hsame.mono (by decide) (by decide)⟩
  · refine s_iloadN X0 hx (hb hby d8_0) rfl ?_
    refine s_aloadN X0 hx (hb hby d8_1) rfl rfl ?_
    refine st1 _ ?_
    refine own_al X1 hx hZ e1 P 1 (4 : Int32) (hb hby d8_5) (by omega) rfl ?_
    refine s_icmpY X1 hx 265 (hb hby d8_6) (by decide) (by decide) (by decide) ?_
    exact X1.returnOut hx Bd.returns (hb hby d8_265) hr
  · show ((_ : Option Value) = none ∧ Fr n0 _ ∧ T1.heap = h0)
    rw [e1]
    exact ⟨rfl, N0, rfl⟩
set_option maxRecDepth 65536 in
set_option maxHeartbeats 40000000 in
theorem rm9_1 (l : Launch) (Z : State) (a0 : Array Value) (hw : own_HW Z a0) (ws : List Jvm.Cond) {nA : Nat} {A : Nat → Addr} {F : Nat → Value} {V : Nat → List Value} (ob : Addr)  (h0 : Heap) (n0 : Nat) (P : own_PS Z h0 n0 ob nA A F V) (hA : 13 ≤ nA) (hB : nA ≤ 14)  :
    own_C l Z own_y8 bc9 3 none ws 0 0 #[(.ref ob), (.int (1 : Int32)), (.int (0 : Int32))] h0 (fun v h L => (v = none ∧ Fr n0 L ∧ own_PS Z h n0 ob nA A F (own_vs V 0 4 (.int (0 : Int32))))) := by
  refine MetFree.of_bodySF (plainFor_of_name own_pn1) hisR ?_
  intro p e s m args below meth c s₁ Bd hml0 hP hK
  obtain ⟨rfl, hZ, hh⟩ := hP
  have hx := Bd.exec
  have hby := Bd.bytes
  have hml : c.maxLocals = 3 := hml0
  have hown : s.vm.findClass "com/example/jobwright/jobwright/policies/Treap" = some m.cls := findClass_of_methodNamed Bd.named
  have X0 : Stand p l e ({ frames := 0, cells := 0, slots := 0, locals := 0 } : Room) s m #[(.ref ob), (.int (1 : Int32)), (.int (0 : Int32))] below meth c s₁ [] 0 0 := Stand.of_body Bd
  have e0 : s₁.heap = h0 := by rw [← hh, Bd.state]; rfl
  have N0 := Fr.nil n0
  have ef : entryFrame m #[(.ref ob), (.int (1 : Int32)), (.int (0 : Int32))] 3 = mkF m 0 #[.val (.ref ob), .val (.int (1 : Int32)), .val (.int (0 : Int32))] [] := by first | (simp [entryFrame, mkF, argsToLocals, Value.category]; done) | rfl
  obtain ⟨T1, X1, e1, st1⟩ := own_gf X0 hx hZ hown e0 P 0 (own_w hw 22) (v := (.ref (A 0))) (P.2.2.2.1 0 (by omega)) (hb hby d9_1) #[.val (.ref ob), .val (.int (1 : Int32)), .val (.int (0 : Int32))] []
  obtain ⟨T2, h2, l2, X2, e2, N2, P2, st2⟩ := own_ist X1 hx hZ e1 N0 P 0 4 (j := (4 : Int32)) (x := (0 : Int32)) (hb hby d9_8) #[.val (.ref ob), .val (.int (1 : Int32)), .val (.int (0 : Int32))] [] (by omega)
  obtain ⟨fs, hr, hrun, hended, hW, hsame⟩ := X2.leave (v := none) (fun _ => rfl)
  refine ⟨_, _, castTop ef ?_, hrun, hended, _, _, rfl, ?_, ⟨_, rfl⟩, hW, hsame.mono (by decide) (by decide)⟩
  · refine s_aloadN X0 hx (hb hby d9_0) rfl rfl ?_
    refine st1 _ ?_
    refine s_iloadN X1 hx (hb hby d9_4) rfl ?_
    refine s_iconst X1 hx (2 : Int32) (hb hby d9_5) rfl ?_
    refine s_ishl X1 hx (4 : Int32) (hb hby d9_6) (by decide) ?_
    refine s_iloadN X1 hx (hb hby d9_7) rfl ?_
    refine st2 _ ?_
    exact X2.returnOut hx Bd.returns (hb hby d9_9) hr
  · show ((_ : Option Value) = none ∧ Fr n0 _ ∧ own_PS Z T2.heap n0 ob nA A F (own_vs V 0 4 (.int (0 : Int32))))
    rw [e2]
    exact ⟨rfl, N2, P2⟩
set_option maxRecDepth 65536 in
set_option maxHeartbeats 40000000 in
theorem rm10_1 (l : Launch) (Z : State) (a0 : Array Value) (hw : own_HW Z a0) (ws : List Jvm.Cond) {nA : Nat} {A : Nat → Addr} {F : Nat → Value} {V : Nat → List Value} (ob : Addr)  (h0 : Heap) (n0 : Nat) (P : own_PS Z h0 n0 ob nA A F V) (hA : 13 ≤ nA) (hB : nA ≤ 14)  :
    own_C l Z own_y9 bc10 3 none ws 0 0 #[(.ref ob), (.int (1 : Int32)), (.int (0 : Int32))] h0 (fun v h L => (v = none ∧ Fr n0 L ∧ own_PS Z h n0 ob nA A F (own_vs V 0 5 (.int (0 : Int32))))) := by
  refine MetFree.of_bodySF (plainFor_of_name own_pn1) hisR ?_
  intro p e s m args below meth c s₁ Bd hml0 hP hK
  obtain ⟨rfl, hZ, hh⟩ := hP
  have hx := Bd.exec
  have hby := Bd.bytes
  have hml : c.maxLocals = 3 := hml0
  have hown : s.vm.findClass "com/example/jobwright/jobwright/policies/Treap" = some m.cls := findClass_of_methodNamed Bd.named
  have X0 : Stand p l e ({ frames := 0, cells := 0, slots := 0, locals := 0 } : Room) s m #[(.ref ob), (.int (1 : Int32)), (.int (0 : Int32))] below meth c s₁ [] 0 0 := Stand.of_body Bd
  have e0 : s₁.heap = h0 := by rw [← hh, Bd.state]; rfl
  have N0 := Fr.nil n0
  have ef : entryFrame m #[(.ref ob), (.int (1 : Int32)), (.int (0 : Int32))] 3 = mkF m 0 #[.val (.ref ob), .val (.int (1 : Int32)), .val (.int (0 : Int32))] [] := by first | (simp [entryFrame, mkF, argsToLocals, Value.category]; done) | rfl
  obtain ⟨T1, X1, e1, st1⟩ := own_gf X0 hx hZ hown e0 P 0 (own_w hw 22) (v := (.ref (A 0))) (P.2.2.2.1 0 (by omega)) (hb hby d10_1) #[.val (.ref ob), .val (.int (1 : Int32)), .val (.int (0 : Int32))] []
  obtain ⟨T2, h2, l2, X2, e2, N2, P2, st2⟩ := own_ist X1 hx hZ e1 N0 P 0 5 (j := (5 : Int32)) (x := (0 : Int32)) (hb hby d10_10) #[.val (.ref ob), .val (.int (1 : Int32)), .val (.int (0 : Int32))] [] (by omega)
  obtain ⟨fs, hr, hrun, hended, hW, hsame⟩ := X2.leave (v := none) (fun _ => rfl)
  refine ⟨_, _, castTop ef ?_, hrun, hended, _, _, rfl, ?_, ⟨_, rfl⟩, hW, hsame.mono (by decide) (by decide)⟩
  · refine s_aloadN X0 hx (hb hby d10_0) rfl rfl ?_
    refine st1 _ ?_
    refine s_iloadN X1 hx (hb hby d10_4) rfl ?_
    refine s_iconst X1 hx (2 : Int32) (hb hby d10_5) rfl ?_
    refine s_ishl X1 hx (4 : Int32) (hb hby d10_6) (by decide) ?_
    refine s_iconst X1 hx (1 : Int32) (hb hby d10_7) rfl ?_
    refine s_iadd X1 hx (5 : Int32) (hb hby d10_8) (by decide) ?_
    refine s_iloadN X1 hx (hb hby d10_9) rfl ?_
    refine st2 _ ?_
    exact X2.returnOut hx Bd.returns (hb hby d10_11) hr
  · show ((_ : Option Value) = none ∧ Fr n0 _ ∧ own_PS Z T2.heap n0 ob nA A F (own_vs V 0 5 (.int (0 : Int32))))
    rw [e2]
    exact ⟨rfl, N2, P2⟩
set_option maxRecDepth 65536 in
set_option maxHeartbeats 40000000 in
theorem rm11_1 (l : Launch) (Z : State) (a0 : Array Value) (hw : own_HW Z a0) (ws : List Jvm.Cond) {nA : Nat} {A : Nat → Addr} {F : Nat → Value} {V : Nat → List Value} (ob : Addr)  (h0 : Heap) (n0 : Nat) (P : own_PS Z h0 n0 ob nA A F V) (hA : 13 ≤ nA) (hB : nA ≤ 14) (hF18 : F 18 = (.long (-7046029254386353131 : Int64))) :
    own_C l Z own_y10 bc11 1 (some .int) ws 0 0 #[(.ref ob)] h0 (fun v h L => (v = some (.int (1846393815 : Int32)) ∧ Fr n0 L ∧ own_PS Z h n0 ob nA A (own_up (own_up (own_up F 18 (.long (8142603028701699093 : Int64))) 18 (.long (8206217113781226925 : Int64))) 18 (.long (-2586341971585708627 : Int64))) V)) := by
  refine MetFree.of_bodySF (plainFor_of_name own_pn1) hisR ?_
  intro p e s m args below meth c s₁ Bd hml0 hP hK
  obtain ⟨rfl, hZ, hh⟩ := hP
  have hx := Bd.exec
  have hby := Bd.bytes
  have hml : c.maxLocals = 1 := hml0
  have hown : s.vm.findClass "com/example/jobwright/jobwright/policies/Treap" = some m.cls := findClass_of_methodNamed Bd.named
  have X0 : Stand p l e ({ frames := 0, cells := 0, slots := 0, locals := 0 } : Room) s m #[(.ref ob)] below meth c s₁ [] 0 0 := Stand.of_body Bd
  have e0 : s₁.heap = h0 := by rw [← hh, Bd.state]; rfl
  have N0 := Fr.nil n0
  have ef : entryFrame m #[(.ref ob)] 1 = mkF m 0 #[.val (.ref ob)] [] := by first | (simp [entryFrame, mkF, argsToLocals, Value.category]; done) | rfl
  obtain ⟨T1, X1, e1, st1⟩ := own_gf X0 hx hZ hown e0 P 18 (own_w hw 19) (v := (.long (-7046029254386353131 : Int64))) hF18 (hb hby d11_2) #[.val (.ref ob)] [(.ref ob)]
  obtain ⟨T2, X2, e2, st2⟩ := own_gf X1 hx hZ hown e1 P 18 (own_w hw 19) (v := (.long (-7046029254386353131 : Int64))) hF18 (hb hby d11_6) #[.val (.ref ob)] [(.long (-7046029254386353131 : Int64)), (.ref ob)]
  obtain ⟨T3, h3, l3, X3, e3, N3, P3, st3⟩ := own_pp X2 hx hZ hw hown e2 N0 P 18 (own_w hw 19) (Or.inl (own_w hw 20)) (v := (.long (8142603028701699093 : Int64))) (hb hby d11_13) #[.val (.ref ob)] [] rfl rfl (by omega)
  obtain ⟨T4, X4, e4, st4⟩ := own_gf X3 hx hZ hown e3 P3 18 (own_w hw 19) (v := (.long (8142603028701699093 : Int64))) (own_up_eq _ _ _) (hb hby d11_18) #[.val (.ref ob)] [(.ref ob)]
  obtain ⟨T5, X5, e5, st5⟩ := own_gf X4 hx hZ hown e4 P3 18 (own_w hw 19) (v := (.long (8142603028701699093 : Int64))) (own_up_eq _ _ _) (hb hby d11_22) #[.val (.ref ob)] [(.long (8142603028701699093 : Int64)), (.ref ob)]
  obtain ⟨T6, h6, l6, X6, e6, N6, P6, st6⟩ := own_pp X5 hx hZ hw hown e5 N3 P3 18 (own_w hw 19) (Or.inl (own_w hw 20)) (v := (.long (8206217113781226925 : Int64))) (hb hby d11_29) #[.val (.ref ob)] [] rfl rfl (by omega)
  obtain ⟨T7, X7, e7, st7⟩ := own_gf X6 hx hZ hown e6 P6 18 (own_w hw 19) (v := (.long (8206217113781226925 : Int64))) (own_up_eq _ _ _) (hb hby d11_34) #[.val (.ref ob)] [(.ref ob)]
  obtain ⟨T8, X8, e8, st8⟩ := own_gf X7 hx hZ hown e7 P6 18 (own_w hw 19) (v := (.long (8206217113781226925 : Int64))) (own_up_eq _ _ _) (hb hby d11_38) #[.val (.ref ob)] [(.long (8206217113781226925 : Int64)), (.ref ob)]
  obtain ⟨T9, h9, l9, X9, e9, N9, P9, st9⟩ := own_pp X8 hx hZ hw hown e8 N6 P6 18 (own_w hw 19) (Or.inl (own_w hw 20)) (v := (.long (-2586341971585708627 : Int64))) (hb hby d11_45) #[.val (.ref ob)] [] rfl rfl (by omega)
  obtain ⟨T10, X10, e10, st10⟩ := own_gf X9 hx hZ hown e9 P9 18 (own_w hw 19) (v := (.long (-2586341971585708627 : Int64))) (own_up_eq _ _ _) (hb hby d11_49) #[.val (.ref ob)] []
  obtain ⟨fs, hr, hrun, hended, hW, hsame⟩ := X10.leave (v := some (.int (1846393815 : Int32))) (fun h => by rw [Bd.returns] at h; cases h)
  refine ⟨_, _, castTop ef ?_, hrun, hended, _, _, rfl, ?_, ⟨_, rfl⟩, hW, hsame.mono (by decide) (by decide)⟩
  · refine s_aloadN X0 hx (hb hby d11_0) rfl rfl ?_
    refine s_dup X0 hx (hb hby d11_1) rfl ?_
    refine st1 _ ?_
    refine s_aloadN X1 hx (hb hby d11_5) rfl rfl ?_
    refine st2 _ ?_
    refine s_bipush X2 hx (13 : Int32) (hb hby d11_9) rfl ?_
    refine s_lshl X2 hx (-1209445295817842688 : Int64) (hb hby d11_11) (by decide) ?_
    refine s_lxor X2 hx (8142603028701699093 : Int64) (hb hby d11_12) (by decide) ?_
    refine st3 _ ?_
    refine s_aloadN X3 hx (hb hby d11_16) rfl rfl ?_
    refine s_dup X3 hx (hb hby d11_17) rfl ?_
    refine st4 _ ?_
    refine s_aloadN X4 hx (hb hby d11_21) rfl rfl ?_
    refine st5 _ ?_
    refine s_bipush X5 hx (7 : Int32) (hb hby d11_25) rfl ?_
    refine s_lushr X5 hx (63614086161732024 : Int64) (hb hby d11_27) (by decide) ?_
    refine s_lxor X5 hx (8206217113781226925 : Int64) (hb hby d11_28) (by decide) ?_
    refine st6 _ ?_
    refine s_aloadN X6 hx (hb hby d11_32) rfl rfl ?_
    refine s_dup X6 hx (hb hby d11_33) rfl ?_
    refine st7 _ ?_
    refine s_aloadN X7 hx (hb hby d11_37) rfl rfl ?_
    refine st8 _ ?_
    refine s_bipush X8 hx (17 : Int32) (hb hby d11_41) rfl ?_
    refine s_lshl X8 hx (-5910656397269663744 : Int64) (hb hby d11_43) (by decide) ?_
    refine s_lxor X8 hx (-2586341971585708627 : Int64) (hb hby d11_44) (by decide) ?_
    refine st9 _ ?_
    refine s_aloadN X9 hx (hb hby d11_48) rfl rfl ?_
    refine st10 _ ?_
    refine s_bipush X10 hx (33 : Int32) (hb hby d11_52) rfl ?_
    refine s_lushr X10 hx (1846393815 : Int64) (hb hby d11_54) (by decide) ?_
    refine s_l2i X10 hx (1846393815 : Int32) (hb hby d11_55) (by decide) ?_
    exact retI X10 hx Bd.returns (hb hby d11_56) hr
  · show ((_ : Option Value) = some (.int (1846393815 : Int32)) ∧ Fr n0 _ ∧ own_PS Z T10.heap n0 ob nA A (own_up (own_up (own_up F 18 (.long (8142603028701699093 : Int64))) 18 (.long (8206217113781226925 : Int64))) 18 (.long (-2586341971585708627 : Int64))) V)
    rw [e10]
    exact ⟨rfl, N9, P9⟩
set_option maxRecDepth 65536 in
set_option maxHeartbeats 40000000 in
theorem rm7_1 (l : Launch) (Z : State) (a0 : Array Value) (hw : own_HW Z a0) (ws : List Jvm.Cond) {nA : Nat} {A : Nat → Addr} {F : Nat → Value} {V : Nat → List Value} (ob : Addr)  (h0 : Heap) (n0 : Nat) (P : own_PS Z h0 n0 ob nA A F V) (hA : 13 ≤ nA) (hB : nA ≤ 14) (hF16 : F 16 = (.int (0 : Int32))) (hF17 : F 17 = (.int (1 : Int32))) (hF18 : F 18 = (.long (-7046029254386353131 : Int64))) :
    own_C l Z own_y11 bc7 2 (some .int) ws 1 14 #[(.ref ob)] h0 (fun v h L => (v = some (.int (1 : Int32)) ∧ Fr n0 L ∧ own_PS Z h n0 ob nA A (own_up (own_up (own_up (own_up F 17 (.int (2 : Int32))) 18 (.long (8142603028701699093 : Int64))) 18 (.long (8206217113781226925 : Int64))) 18 (.long (-2586341971585708627 : Int64))) (own_vs (own_vs (own_vs V 0 4 (.int (0 : Int32))) 0 5 (.int (0 : Int32))) 0 6 (.int (1846393815 : Int32))))) := by
  refine MetFree.of_bodySF (plainFor_of_name own_pn1) hisR ?_
  intro p e s m args below meth c s₁ Bd hml0 hP hK
  obtain ⟨rfl, hZ, hh⟩ := hP
  have hx := Bd.exec
  have hby := Bd.bytes
  have hml : c.maxLocals = 2 := hml0
  have hown : s.vm.findClass "com/example/jobwright/jobwright/policies/Treap" = some m.cls := findClass_of_methodNamed Bd.named
  have X0 : Stand p l e ({ frames := 1, cells := 0, slots := 0, locals := 14 } : Room) s m #[(.ref ob)] below meth c s₁ [] 0 0 := Stand.of_body Bd
  have e0 : s₁.heap = h0 := by rw [← hh, Bd.state]; rfl
  have N0 := Fr.nil n0
  have ef : entryFrame m #[(.ref ob)] 2 = mkF m 0 #[.val (.ref ob), .unset] [] := by first | (simp [entryFrame, mkF, argsToLocals, Value.category]; done) | rfl
  obtain ⟨T1, X1, e1, st1⟩ := own_gf X0 hx hZ hown e0 P 16 (own_w hw 113) (v := (.int (0 : Int32))) hF16 (hb hby d7_1) #[.val (.ref ob), .unset] []
  obtain ⟨T2, X2, e2, st2⟩ := own_gf X1 hx hZ hown e1 P 17 (own_w hw 16) (v := (.int (1 : Int32))) hF17 (hb hby d7_31) #[.val (.ref ob), .unset] []
  obtain ⟨T3, X3, e3, st3⟩ := own_gf X2 hx hZ hown e2 P 17 (own_w hw 16) (v := (.int (1 : Int32))) hF17 (hb hby d7_37) #[.val (.ref ob), .val (.int (1 : Int32))] [(.ref ob)]
  obtain ⟨T4, h4, l4, X4, e4, N4, P4, st4⟩ := own_pp X3 hx hZ hw hown e3 N0 P 17 (own_w hw 16) (Or.inl (own_w hw 17)) (v := (.int (2 : Int32))) (hb hby d7_42) #[.val (.ref ob), .val (.int (1 : Int32))] [] rfl rfl (by omega)
  obtain ⟨T5, X5, e5, st5⟩ := own_gf X4 hx hZ hown e4 P4 0 (own_w hw 22) (v := (.ref (A 0))) (P4.2.2.2.1 0 (by omega)) (hb hby d7_49) #[.val (.ref ob), .val (.int (1 : Int32))] [(.int (4 : Int32))]
  obtain ⟨T6, X6, e6, st6⟩ := own_gf X5 hx hZ hown e5 P4 0 (own_w hw 22) (v := (.ref (A 0))) (P4.2.2.2.1 0 (by omega)) (hb hby d7_94) #[.val (.ref ob), .val (.int (1 : Int32))] [(.ref ob)]
  obtain ⟨cq7, kq7, q7a, q7b, q7c⟩ := isOf hZ e6 P4.1
  obtain ⟨_, _, ⟨T7, L7, k7, n7⟩, -, X7, ⟨Lc7, hQ7, l7, y7, z7⟩, st7⟩ := X6.virtualBack hx (y := own_y7) (z := own_y6) hown (mvT hZ (own_w hw 121)) (mvT hZ (own_w hw 122)) (own_nf (args := #[]) (z := own_y4) (mvT hZ (own_w hw 224)) rfl) (mvT hZ (own_w hw 123)) (mvT hZ (own_w hw 124)) (by decide) (backOf (W := 0) (rm8_1 l Z a0 hw [] ob  h4 n0 P4 hA hB   ) hZ (own_w hw 125) (own_w hw 2) (by decide) (by decide)) q7a q7c (g := (mkF m 100 #[.val (.ref ob), .val (.int (1 : Int32))] [(.int (4 : Int32)), (.ref ob)])) rfl (by rw [hml]; rfl) (Steps.refl _) (argsL := [(.int (4 : Int32))]) (rest := []) (lenOf own_pd0 rfl) rfl (by show 2 * 0 + _ ≤ _; exact Nat.le_of_eq rfl) (hb hby d7_100) (fun _ _ => ⟨rfl, e6, (by decide : 0 + 0 ≤ _), (by decide : 0 + 0 ≤ _)⟩)
  dsimp only [Pt.U, Pt.locs, Pt.cells, Pt.slots] at X7 l7 y7 z7 st7 hQ7
  subst l7 y7 z7
  obtain ⟨rfl, Nq7, eh7⟩ := hQ7
  have N7 := Fr.app N4 Nq7
  obtain ⟨cq8, q8, q8'⟩ := P4.1.cell
  obtain ⟨_, _, ⟨T8, L8, k8, n8⟩, -, X8, ⟨Lc8, hQ8, l8, y8, z8⟩, st8⟩ := X7.privateBack hx (y := own_y8) hown (mvT hZ (own_w hw 126)) (mvT hZ (own_w hw 127)) (own_psel (z := own_y4) (mvT hZ (own_w hw 224)) (mvP hZ (own_w hw 128)) (mvT hZ (own_w hw 127)) rfl (by decide)) (Cond.privateMethod_at (mvP hZ (own_w hw 128) (args := #[]))) (mvT hZ (own_w hw 129)) (by decide) (backOf (W := 0) (rm9_1 l Z a0 hw [] ob  h4 n0 P4 hA hB   ) hZ (own_w hw 129) (own_w hw 9) (by decide) (by decide)) (g := (mkF m 106 #[.val (.ref ob), .val (.int (1 : Int32))] [(.int (0 : Int32)), (.int (1 : Int32)), (.ref ob)])) rfl (by rw [hml]; rfl) (Steps.refl _) (a := ob) (by rw [eh7]; exact q8) q8' (argsL := [(.int (1 : Int32)), (.int (0 : Int32))]) (rest := []) (lenOf own_pd3 rfl) rfl (by show 2 * 0 + _ ≤ _; exact Nat.le_of_eq rfl) (hb hby d7_106) (fun _ _ => ⟨rfl, eh7, (by decide : 0 + 0 ≤ _), (by decide : 0 + 0 ≤ _)⟩)
  dsimp only [Pt.U, Pt.locs, Pt.cells, Pt.slots] at X8 l8 y8 z8 st8 hQ8
  subst l8 y8 z8
  obtain ⟨rfl, Nq8, P8⟩ := hQ8
  have N8 := Fr.app N7 Nq8
  obtain ⟨cq9, q9, q9'⟩ := P8.1.cell
  obtain ⟨_, _, ⟨T9, L9, k9, n9⟩, -, X9, ⟨Lc9, hQ9, l9, y9, z9⟩, st9⟩ := X8.privateBack hx (y := own_y9) hown (mvT hZ (own_w hw 130)) (mvT hZ (own_w hw 131)) (own_psel (z := own_y4) (mvT hZ (own_w hw 224)) (mvP hZ (own_w hw 132)) (mvT hZ (own_w hw 131)) rfl (by decide)) (Cond.privateMethod_at (mvP hZ (own_w hw 132) (args := #[]))) (mvT hZ (own_w hw 133)) (by decide) (backOf (W := 0) (rm10_1 l Z a0 hw [] ob  T8.heap n0 P8 hA hB   ) hZ (own_w hw 133) (own_w hw 9) (by decide) (by decide)) (g := (mkF m 112 #[.val (.ref ob), .val (.int (1 : Int32))] [(.int (0 : Int32)), (.int (1 : Int32)), (.ref ob)])) rfl (by rw [hml]; rfl) (Steps.refl _) (a := ob) q9 q9' (argsL := [(.int (1 : Int32)), (.int (0 : Int32))]) (rest := []) (lenOf own_pd3 rfl) rfl (by show 2 * 0 + _ ≤ _; exact Nat.le_of_eq rfl) (hb hby d7_112) (fun _ _ => ⟨rfl, rfl, (by decide : 0 + 0 ≤ _), (by decide : 0 + 0 ≤ _)⟩)
  dsimp only [Pt.U, Pt.locs, Pt.cells, Pt.slots] at X9 l9 y9 z9 st9 hQ9
  subst l9 y9 z9
  obtain ⟨rfl, Nq9, P9⟩ := hQ9
  have N9 := Fr.app N8 Nq9
  obtain ⟨T10, X10, e10, st10⟩ := own_gf X9 hx hZ hown rfl P9 0 (own_w hw 22) (v := (.ref (A 0))) (P9.2.2.2.1 0 (by omega)) (hb hby d7_116) #[.val (.ref ob), .val (.int (1 : Int32))] []
  obtain ⟨cq11, q11, q11'⟩ := P9.1.cell
  obtain ⟨_, _, ⟨T11, L11, k11, n11⟩, -, X11, ⟨Lc11, hQ11, l11, y11, z11⟩, st11⟩ := X10.privateBack hx (y := own_y10) hown (mvT hZ (own_w hw 134)) (mvT hZ (own_w hw 135)) (own_psel (z := own_y4) (mvT hZ (own_w hw 224)) (mvP hZ (own_w hw 136)) (mvT hZ (own_w hw 135)) rfl (by decide)) (Cond.privateMethod_at (mvP hZ (own_w hw 136) (args := #[]))) (mvT hZ (own_w hw 137)) (by decide) (backOf (W := 2) (rm11_1 l Z a0 hw [] ob  T9.heap n0 P9 hA hB (own_fn hF18)  ) hZ (own_w hw 137) (own_w hw 9) (by decide) (by decide)) (g := (mkF m 125 #[.val (.ref ob), .val (.int (1 : Int32))] [(.ref ob), (.int (6 : Int32)), (.ref (A 0))])) rfl (by rw [hml]; rfl) (Steps.refl _) (a := ob) (by rw [e10]; exact q11) q11' (argsL := []) (rest := [(.int (6 : Int32)), (.ref (A 0))]) (lenOf own_pd4 rfl) rfl (by show 2 * 0 + _ ≤ _; exact Nat.le_of_eq rfl) (hb hby d7_125) (fun _ _ => ⟨rfl, e10, (by decide : 0 + 0 ≤ _), (by decide : 0 + 0 ≤ _)⟩)
  dsimp only [Pt.U, Pt.locs, Pt.cells, Pt.slots] at X11 l11 y11 z11 st11 hQ11
  subst l11 y11 z11
  obtain ⟨rfl, Nq11, P11⟩ := hQ11
  have N11 := Fr.app N9 Nq11
  obtain ⟨T12, h12, l12, X12, e12, N12, P12, st12⟩ := own_ist X11 hx hZ rfl N11 P11 0 6 (j := (6 : Int32)) (x := (1846393815 : Int32)) (hb hby d7_128) #[.val (.ref ob), .val (.int (1 : Int32))] [] (by omega)
  obtain ⟨fs, hr, hrun, hended, hW, hsame⟩ := X12.leave (v := some (.int (1 : Int32))) (fun h => by rw [Bd.returns] at h; cases h)
  refine ⟨_, _, castTop ef ?_, hrun, hended, _, _, rfl, ?_, ⟨_, rfl⟩, hW, hsame.mono (by decide) (by decide)⟩
  · refine s_aloadN X0 hx (hb hby d7_0) rfl rfl ?_
    refine st1 _ ?_
    refine s_ifY X1 hx 30 (hb hby d7_4) (by decide) (by decide) (by decide) ?_
    refine s_aloadN X1 hx (hb hby d7_30) rfl rfl ?_
    refine st2 _ ?_
    refine s_istoreN X2 hx #[.val (.ref ob), .val (.int (1 : Int32))] (hb hby d7_34) rfl ?_
    refine s_aloadN X2 hx (hb hby d7_35) rfl rfl ?_
    refine s_dup X2 hx (hb hby d7_36) rfl ?_
    refine st3 _ ?_
    refine s_iconst X3 hx (1 : Int32) (hb hby d7_40) rfl ?_
    refine s_iadd X3 hx (2 : Int32) (hb hby d7_41) (by decide) ?_
    refine st4 _ ?_
    refine s_iloadN X4 hx (hb hby d7_45) rfl ?_
    refine s_iconst X4 hx (2 : Int32) (hb hby d7_46) rfl ?_
    refine s_ishl X4 hx (4 : Int32) (hb hby d7_47) (by decide) ?_
    refine s_aloadN X4 hx (hb hby d7_48) rfl rfl ?_
    refine st5 _ ?_
    refine own_al X5 hx hZ e5 P4 0 (16 : Int32) (hb hby d7_52) (by omega) rfl ?_
    refine s_icmpY X5 hx 92 (hb hby d7_53) (by decide) (by decide) (by decide) ?_
    refine s_aloadN X5 hx (hb hby d7_92) rfl rfl ?_
    refine s_aloadN X5 hx (hb hby d7_93) rfl rfl ?_
    refine st6 _ ?_
    refine own_al X6 hx hZ e6 P4 0 (16 : Int32) (hb hby d7_97) (by omega) rfl ?_
    refine s_iconst X6 hx (2 : Int32) (hb hby d7_98) rfl ?_
    refine s_ishr X6 hx (4 : Int32) (hb hby d7_99) (by decide) ?_
    refine st7.trans ?_
    refine s_aloadN X7 hx (hb hby d7_103) rfl rfl ?_
    refine s_iloadN X7 hx (hb hby d7_104) rfl ?_
    refine s_iconst X7 hx (0 : Int32) (hb hby d7_105) rfl ?_
    refine st8.trans ?_
    refine s_aloadN X8 hx (hb hby d7_109) rfl rfl ?_
    refine s_iloadN X8 hx (hb hby d7_110) rfl ?_
    refine s_iconst X8 hx (0 : Int32) (hb hby d7_111) rfl ?_
    refine st9.trans ?_
    refine s_aloadN X9 hx (hb hby d7_115) rfl rfl ?_
    refine st10 _ ?_
    refine s_iloadN X10 hx (hb hby d7_119) rfl ?_
    refine s_iconst X10 hx (2 : Int32) (hb hby d7_120) rfl ?_
    refine s_ishl X10 hx (4 : Int32) (hb hby d7_121) (by decide) ?_
    refine s_iconst X10 hx (2 : Int32) (hb hby d7_122) rfl ?_
    refine s_iadd X10 hx (6 : Int32) (hb hby d7_123) (by decide) ?_
    refine s_aloadN X10 hx (hb hby d7_124) rfl rfl ?_
    refine st11.trans ?_
    refine st12 _ ?_
    refine s_iloadN X12 hx (hb hby d7_129) rfl ?_
    exact retI X12 hx Bd.returns (hb hby d7_130) hr
  · show ((_ : Option Value) = some (.int (1 : Int32)) ∧ Fr n0 _ ∧ own_PS Z T12.heap n0 ob nA A (own_up (own_up (own_up (own_up F 17 (.int (2 : Int32))) 18 (.long (8142603028701699093 : Int64))) 18 (.long (8206217113781226925 : Int64))) 18 (.long (-2586341971585708627 : Int64))) (own_vs (own_vs (own_vs V 0 4 (.int (0 : Int32))) 0 5 (.int (0 : Int32))) 0 6 (.int (1846393815 : Int32))))
    rw [e12]
    exact ⟨rfl, N12, P12⟩
set_option maxRecDepth 65536 in
set_option maxHeartbeats 40000000 in
theorem rm14_1 (l : Launch) (Z : State) (a0 : Array Value) (hw : own_HW Z a0) (ws : List Jvm.Cond) {nA : Nat} {A : Nat → Addr} {F : Nat → Value} {V : Nat → List Value} (ob : Addr)  (h0 : Heap) (n0 : Nat) (P : own_PS Z h0 n0 ob nA A F V) (hA : 13 ≤ nA) (hB : nA ≤ 14) (hV0_4 : (V 0).getD 4 (own_aZ 0) = (.int (0 : Int32))) :
    own_C l Z own_y13 bc14 2 (some .int) ws 0 0 #[(.ref ob), (.int (1 : Int32))] h0 (fun v h L => (v = some (.int (0 : Int32)) ∧ Fr n0 L ∧ h = h0)) := by
  refine MetFree.of_bodySF (plainFor_of_name own_pn1) hisR ?_
  intro p e s m args below meth c s₁ Bd hml0 hP hK
  obtain ⟨rfl, hZ, hh⟩ := hP
  have hx := Bd.exec
  have hby := Bd.bytes
  have hml : c.maxLocals = 2 := hml0
  have hown : s.vm.findClass "com/example/jobwright/jobwright/policies/Treap" = some m.cls := findClass_of_methodNamed Bd.named
  have X0 : Stand p l e ({ frames := 0, cells := 0, slots := 0, locals := 0 } : Room) s m #[(.ref ob), (.int (1 : Int32))] below meth c s₁ [] 0 0 := Stand.of_body Bd
  have e0 : s₁.heap = h0 := by rw [← hh, Bd.state]; rfl
  have N0 := Fr.nil n0
  have ef : entryFrame m #[(.ref ob), (.int (1 : Int32))] 2 = mkF m 0 #[.val (.ref ob), .val (.int (1 : Int32))] [] := by first | (simp [entryFrame, mkF, argsToLocals, Value.category]; done) | rfl
  obtain ⟨T1, X1, e1, st1⟩ := own_gf X0 hx hZ hown e0 P 0 (own_w hw 22) (v := (.ref (A 0))) (P.2.2.2.1 0 (by omega)) (hb hby d14_1) #[.val (.ref ob), .val (.int (1 : Int32))] []
  obtain ⟨fs, hr, hrun, hended, hW, hsame⟩ := X1.leave (v := some (.int (0 : Int32))) (fun h => by rw [Bd.returns] at h; cases h)
  refine ⟨_, _, castTop ef ?_, hrun, hended, _, _, rfl, ?_, ⟨_, rfl⟩, hW, hsame.mono (by decide) (by decide)⟩
  · refine s_aloadN X0 hx (hb hby d14_0) rfl rfl ?_
    refine st1 _ ?_
    refine s_iloadN X1 hx (hb hby d14_4) rfl ?_
    refine s_iconst X1 hx (2 : Int32) (hb hby d14_5) rfl ?_
    refine s_ishl X1 hx (4 : Int32) (hb hby d14_6) (by decide) ?_
    refine own_ial X1 hx hZ e1 P 0 4 (v := (.int (0 : Int32))) hV0_4 (hb hby d14_7) (by omega) ?_
    exact retI X1 hx Bd.returns (hb hby d14_8) hr
  · show ((_ : Option Value) = some (.int (0 : Int32)) ∧ Fr n0 _ ∧ T1.heap = h0)
    rw [e1]
    exact ⟨rfl, N0, rfl⟩
set_option maxRecDepth 65536 in
set_option maxHeartbeats 40000000 in
theorem rm15_1 (l : Launch) (Z : State) (a0 : Array Value) (hw : own_HW Z a0) (ws : List Jvm.Cond) {nA : Nat} {A : Nat → Addr} {F : Nat → Value} {V : Nat → List Value} (ob : Addr)  (h0 : Heap) (n0 : Nat) (P : own_PS Z h0 n0 ob nA A F V) (hA : 13 ≤ nA) (hB : nA ≤ 14) (hV0_5 : (V 0).getD 5 (own_aZ 0) = (.int (0 : Int32))) :
    own_C l Z own_y4 bc15 2 (some .int) ws 0 0 #[(.ref ob), (.int (1 : Int32))] h0 (fun v h L => (v = some (.int (0 : Int32)) ∧ Fr n0 L ∧ h = h0)) := by
  refine MetFree.of_bodySF (plainFor_of_name own_pn1) hisR ?_
  intro p e s m args below meth c s₁ Bd hml0 hP hK
  obtain ⟨rfl, hZ, hh⟩ := hP
  have hx := Bd.exec
  have hby := Bd.bytes
  have hml : c.maxLocals = 2 := hml0
  have hown : s.vm.findClass "com/example/jobwright/jobwright/policies/Treap" = some m.cls := findClass_of_methodNamed Bd.named
  have X0 : Stand p l e ({ frames := 0, cells := 0, slots := 0, locals := 0 } : Room) s m #[(.ref ob), (.int (1 : Int32))] below meth c s₁ [] 0 0 := Stand.of_body Bd
  have e0 : s₁.heap = h0 := by rw [← hh, Bd.state]; rfl
  have N0 := Fr.nil n0
  have ef : entryFrame m #[(.ref ob), (.int (1 : Int32))] 2 = mkF m 0 #[.val (.ref ob), .val (.int (1 : Int32))] [] := by first | (simp [entryFrame, mkF, argsToLocals, Value.category]; done) | rfl
  obtain ⟨T1, X1, e1, st1⟩ := own_gf X0 hx hZ hown e0 P 0 (own_w hw 22) (v := (.ref (A 0))) (P.2.2.2.1 0 (by omega)) (hb hby d15_1) #[.val (.ref ob), .val (.int (1 : Int32))] []
  obtain ⟨fs, hr, hrun, hended, hW, hsame⟩ := X1.leave (v := some (.int (0 : Int32))) (fun h => by rw [Bd.returns] at h; cases h)
  refine ⟨_, _, castTop ef ?_, hrun, hended, _, _, rfl, ?_, ⟨_, rfl⟩, hW, hsame.mono (by decide) (by decide)⟩
  · refine s_aloadN X0 hx (hb hby d15_0) rfl rfl ?_
    refine st1 _ ?_
    refine s_iloadN X1 hx (hb hby d15_4) rfl ?_
    refine s_iconst X1 hx (2 : Int32) (hb hby d15_5) rfl ?_
    refine s_ishl X1 hx (4 : Int32) (hb hby d15_6) (by decide) ?_
    refine s_iconst X1 hx (1 : Int32) (hb hby d15_7) rfl ?_
    refine s_iadd X1 hx (5 : Int32) (hb hby d15_8) (by decide) ?_
    refine own_ial X1 hx hZ e1 P 0 5 (v := (.int (0 : Int32))) hV0_5 (hb hby d15_9) (by omega) ?_
    exact retI X1 hx Bd.returns (hb hby d15_10) hr
  · show ((_ : Option Value) = some (.int (0 : Int32)) ∧ Fr n0 _ ∧ T1.heap = h0)
    rw [e1]
    exact ⟨rfl, N0, rfl⟩
set_option maxRecDepth 65536 in
set_option maxHeartbeats 40000000 in
theorem rm16_1 (l : Launch) (Z : State) (a0 : Array Value) (hw : own_HW Z a0) (ws : List Jvm.Cond) {nA : Nat} {A : Nat → Addr} {F : Nat → Value} {V : Nat → List Value} (ob : Addr) (va : Int32) (h0 : Heap) (n0 : Nat) (P : own_PS Z h0 n0 ob nA A F V) (hA : 13 ≤ nA) (hB : nA ≤ 14) (hF19 : F 19 = (.int (1 : Int32))) (hV1_1 : (V 1).getD 1 (own_aZ 1) = (.int (1 : Int32))) (hV12_2 : (V 12).getD 2 (own_aZ 12) = (.int va)) :
    own_C l Z own_y16 bc16 2 (some .int) ws 0 0 #[(.ref ob), (.int (1 : Int32))] h0 (fun v h L => (v = some (.int va) ∧ Fr n0 L ∧ h = h0)) := by
  refine MetFree.of_bodySF (plainFor_of_name own_pn2) hisR ?_
  intro p e s m args below meth c s₁ Bd hml0 hP hK
  obtain ⟨rfl, hZ, hh⟩ := hP
  have hx := Bd.exec
  have hby := Bd.bytes
  have hml : c.maxLocals = 2 := hml0
  have hown : s.vm.findClass "com/example/jobwright/jobwright/policies/ProfileSteps" = some m.cls := findClass_of_methodNamed Bd.named
  have X0 : Stand p l e ({ frames := 0, cells := 0, slots := 0, locals := 0 } : Room) s m #[(.ref ob), (.int (1 : Int32))] below meth c s₁ [] 0 0 := Stand.of_body Bd
  have e0 : s₁.heap = h0 := by rw [← hh, Bd.state]; rfl
  have N0 := Fr.nil n0
  have ef : entryFrame m #[(.ref ob), (.int (1 : Int32))] 2 = mkF m 0 #[.val (.ref ob), .val (.int (1 : Int32))] [] := by first | (simp [entryFrame, mkF, argsToLocals, Value.category]; done) | rfl
  obtain ⟨T1, X1, e1, st1⟩ := own_gf X0 hx hZ hown e0 P 12 (own_w hw 94) (v := (.ref (A 12))) (P.2.2.2.1 12 (by omega)) (hb hby d16_1) #[.val (.ref ob), .val (.int (1 : Int32))] []
  obtain ⟨T2, X2, e2, st2⟩ := own_gf X1 hx hZ hown e1 P 19 (own_w hw 54) (v := (.int (1 : Int32))) hF19 (hb hby d16_6) #[.val (.ref ob), .val (.int (1 : Int32))] [(.int (1 : Int32)), (.ref (A 12))]
  obtain ⟨T3, X3, e3, st3⟩ := own_gf X2 hx hZ hown e2 P 1 (own_w hw 58) (v := (.ref (A 1))) (P.2.2.2.1 1 (by omega)) (hb hby d16_11) #[.val (.ref ob), .val (.int (1 : Int32))] [(.int (2 : Int32)), (.ref (A 12))]
  obtain ⟨fs, hr, hrun, hended, hW, hsame⟩ := X3.leave (v := some (.int va)) (fun h => by rw [Bd.returns] at h; cases h)
  refine ⟨_, _, castTop ef ?_, hrun, hended, _, _, rfl, ?_, ⟨_, rfl⟩, hW, hsame.mono (by decide) (by decide)⟩
  · refine s_aloadN X0 hx (hb hby d16_0) rfl rfl ?_
    refine st1 _ ?_
    refine s_iloadN X1 hx (hb hby d16_4) rfl ?_
    refine s_aloadN X1 hx (hb hby d16_5) rfl rfl ?_
    refine st2 _ ?_
    refine s_ishl X2 hx (2 : Int32) (hb hby d16_9) (by decide) ?_
    refine s_aloadN X2 hx (hb hby d16_10) rfl rfl ?_
    refine st3 _ ?_
    refine s_iloadN X3 hx (hb hby d16_14) rfl ?_
    refine own_ial X3 hx hZ e3 P 1 1 (v := (.int (1 : Int32))) hV1_1 (hb hby d16_15) (by omega) ?_
    refine s_iadd X3 hx (3 : Int32) (hb hby d16_16) (by decide) ?_
    refine s_iconst X3 hx (1 : Int32) (hb hby d16_17) rfl ?_
    refine s_isub X3 hx (2 : Int32) (hb hby d16_18) (by decide) ?_
    refine own_ial X3 hx hZ e3 P 12 2 (v := (.int va)) hV12_2 (hb hby d16_19) (by omega) ?_
    exact retI X3 hx Bd.returns (hb hby d16_20) hr
  · show ((_ : Option Value) = some (.int va) ∧ Fr n0 _ ∧ T3.heap = h0)
    rw [e3]
    exact ⟨rfl, N0, rfl⟩
set_option maxRecDepth 65536 in
set_option maxHeartbeats 40000000 in
theorem rm17_1 (l : Launch) (Z : State) (a0 : Array Value) (hw : own_HW Z a0) (ws : List Jvm.Cond) {nA : Nat} {A : Nat → Addr} {F : Nat → Value} {V : Nat → List Value} (ob : Addr) (vk : Int64) (h0 : Heap) (n0 : Nat) (P : own_PS Z h0 n0 ob nA A F V) (hA : 13 ≤ nA) (hB : nA ≤ 14) (hM : nA = 14) (hF19 : F 19 = (.int (1 : Int32))) (hV1_1 : (V 1).getD 1 (own_aZ 1) = (.int (1 : Int32))) (hV13_2 : (V 13).getD 2 (own_aZ 13) = (.long vk)) :
    own_C l Z own_y18 bc17 2 (some .long) ws 0 0 #[(.ref ob), (.int (1 : Int32))] h0 (fun v h L => (v = some (.long vk) ∧ Fr n0 L ∧ h = h0)) := by
  refine MetFree.of_bodySF (plainFor_of_name own_pn2) hisR ?_
  intro p e s m args below meth c s₁ Bd hml0 hP hK
  obtain ⟨rfl, hZ, hh⟩ := hP
  have hx := Bd.exec
  have hby := Bd.bytes
  have hml : c.maxLocals = 2 := hml0
  have hown : s.vm.findClass "com/example/jobwright/jobwright/policies/ProfileSteps" = some m.cls := findClass_of_methodNamed Bd.named
  have X0 : Stand p l e ({ frames := 0, cells := 0, slots := 0, locals := 0 } : Room) s m #[(.ref ob), (.int (1 : Int32))] below meth c s₁ [] 0 0 := Stand.of_body Bd
  have e0 : s₁.heap = h0 := by rw [← hh, Bd.state]; rfl
  have N0 := Fr.nil n0
  have ef : entryFrame m #[(.ref ob), (.int (1 : Int32))] 2 = mkF m 0 #[.val (.ref ob), .val (.int (1 : Int32))] [] := by first | (simp [entryFrame, mkF, argsToLocals, Value.category]; done) | rfl
  obtain ⟨T1, X1, e1, st1⟩ := own_gf X0 hx hZ hown e0 P 13 (own_w hw 96) (v := (.ref (A 13))) (P.2.2.2.1 13 (by omega)) (hb hby d17_1) #[.val (.ref ob), .val (.int (1 : Int32))] []
  obtain ⟨T2, X2, e2, st2⟩ := own_gf X1 hx hZ hown e1 P 13 (own_w hw 96) (v := (.ref (A 13))) (P.2.2.2.1 13 (by omega)) (hb hby d17_12) #[.val (.ref ob), .val (.int (1 : Int32))] []
  obtain ⟨T3, X3, e3, st3⟩ := own_gf X2 hx hZ hown e2 P 19 (own_w hw 54) (v := (.int (1 : Int32))) hF19 (hb hby d17_17) #[.val (.ref ob), .val (.int (1 : Int32))] [(.int (1 : Int32)), (.ref (A 13))]
  obtain ⟨T4, X4, e4, st4⟩ := own_gf X3 hx hZ hown e3 P 1 (own_w hw 58) (v := (.ref (A 1))) (P.2.2.2.1 1 (by omega)) (hb hby d17_22) #[.val (.ref ob), .val (.int (1 : Int32))] [(.int (2 : Int32)), (.ref (A 13))]
  obtain ⟨fs, hr, hrun, hended, hW, hsame⟩ := X4.leave (v := some (.long vk)) (fun h => by rw [Bd.returns] at h; cases h)
  refine ⟨_, _, castTop ef ?_, hrun, hended, _, _, rfl, ?_, ⟨_, rfl⟩, hW, hsame.mono (by decide) (by decide)⟩
  · refine s_aloadN X0 hx (hb hby d17_0) rfl rfl ?_
    refine st1 _ ?_
    refine s_nnullY X1 hx 11 (hb hby d17_4) (by decide) (by decide) ?_
    refine s_aloadN X1 hx (hb hby d17_11) rfl rfl ?_
    refine st2 _ ?_
    refine s_iloadN X2 hx (hb hby d17_15) rfl ?_
    refine s_aloadN X2 hx (hb hby d17_16) rfl rfl ?_
    refine st3 _ ?_
    refine s_ishl X3 hx (2 : Int32) (hb hby d17_20) (by decide) ?_
    refine s_aloadN X3 hx (hb hby d17_21) rfl rfl ?_
    refine st4 _ ?_
    refine s_iloadN X4 hx (hb hby d17_25) rfl ?_
    refine own_ial X4 hx hZ e4 P 1 1 (v := (.int (1 : Int32))) hV1_1 (hb hby d17_26) (by omega) ?_
    refine s_iadd X4 hx (3 : Int32) (hb hby d17_27) (by decide) ?_
    refine s_iconst X4 hx (1 : Int32) (hb hby d17_28) rfl ?_
    refine s_isub X4 hx (2 : Int32) (hb hby d17_29) (by decide) ?_
    refine own_lal X4 hx hZ e4 P 13 2 (v := (.long vk)) hV13_2 (hb hby d17_30) (by omega) ?_
    exact retOut X4 hx Bd.returns rfl (Or.inr (Or.inl ⟨rfl, rfl, _, rfl⟩)) (hb hby d17_31) hr
  · show ((_ : Option Value) = some (.long vk) ∧ Fr n0 _ ∧ T4.heap = h0)
    rw [e4]
    exact ⟨rfl, N0, rfl⟩
set_option maxRecDepth 65536 in
set_option maxHeartbeats 40000000 in
theorem rm18_1 (l : Launch) (Z : State) (a0 : Array Value) (hw : own_HW Z a0) (ws : List Jvm.Cond) {nA : Nat} {A : Nat → Addr} {F : Nat → Value} {V : Nat → List Value} (ob : Addr)  (h0 : Heap) (n0 : Nat) (P : own_PS Z h0 n0 ob nA A F V) (hA : 13 ≤ nA) (hB : nA ≤ 14)  :
    own_C l Z own_y19 bc18 2 none ws 0 0 #[(.ref ob), (.int (1 : Int32))] h0 (fun v h L => (v = none ∧ Fr n0 L ∧ own_PS Z h n0 ob nA A F (own_vs (own_vs V 8 1 (.int (1 : Int32))) 10 1 (.int (1 : Int32))))) := by
  refine MetFree.of_bodySF (plainFor_of_name own_pn2) hisR ?_
  intro p e s m args below meth c s₁ Bd hml0 hP hK
  obtain ⟨rfl, hZ, hh⟩ := hP
  have hx := Bd.exec
  have hby := Bd.bytes
  have hml : c.maxLocals = 2 := hml0
  have hown : s.vm.findClass "com/example/jobwright/jobwright/policies/ProfileSteps" = some m.cls := findClass_of_methodNamed Bd.named
  have X0 : Stand p l e ({ frames := 0, cells := 0, slots := 0, locals := 0 } : Room) s m #[(.ref ob), (.int (1 : Int32))] below meth c s₁ [] 0 0 := Stand.of_body Bd
  have e0 : s₁.heap = h0 := by rw [← hh, Bd.state]; rfl
  have N0 := Fr.nil n0
  have ef : entryFrame m #[(.ref ob), (.int (1 : Int32))] 2 = mkF m 0 #[.val (.ref ob), .val (.int (1 : Int32))] [] := by first | (simp [entryFrame, mkF, argsToLocals, Value.category]; done) | rfl
  obtain ⟨T1, X1, e1, st1⟩ := own_gf X0 hx hZ hown e0 P 8 (own_w hw 78) (v := (.ref (A 8))) (P.2.2.2.1 8 (by omega)) (hb hby d18_1) #[.val (.ref ob), .val (.int (1 : Int32))] []
  obtain ⟨T2, h2, l2, X2, e2, N2, P2, st2⟩ := own_zst X1 hx hZ e1 N0 P 8 1 (j := (1 : Int32)) (hb hby d18_6) #[.val (.ref ob), .val (.int (1 : Int32))] [] (by omega)
  obtain ⟨T3, X3, e3, st3⟩ := own_gf X2 hx hZ hown e2 P2 10 (own_w hw 90) (v := (.ref (A 10))) (P2.2.2.2.1 10 (by omega)) (hb hby d18_8) #[.val (.ref ob), .val (.int (1 : Int32))] []
  obtain ⟨T4, h4, l4, X4, e4, N4, P4, st4⟩ := own_zst X3 hx hZ e3 N2 P2 10 1 (j := (1 : Int32)) (hb hby d18_13) #[.val (.ref ob), .val (.int (1 : Int32))] [] (by omega)
  obtain ⟨fs, hr, hrun, hended, hW, hsame⟩ := X4.leave (v := none) (fun _ => rfl)
  refine ⟨_, _, castTop ef ?_, hrun, hended, _, _, rfl, ?_, ⟨_, rfl⟩, hW, hsame.mono (by decide) (by decide)⟩
  · refine s_aloadN X0 hx (hb hby d18_0) rfl rfl ?_
    refine st1 _ ?_
    refine s_iloadN X1 hx (hb hby d18_4) rfl ?_
    refine s_iconst X1 hx (1 : Int32) (hb hby d18_5) rfl ?_
    refine st2 _ ?_
    refine s_aloadN X2 hx (hb hby d18_7) rfl rfl ?_
    refine st3 _ ?_
    refine s_iloadN X3 hx (hb hby d18_11) rfl ?_
    refine s_iconst X3 hx (1 : Int32) (hb hby d18_12) rfl ?_
    refine st4 _ ?_
    exact X4.returnOut hx Bd.returns (hb hby d18_14) hr
  · show ((_ : Option Value) = none ∧ Fr n0 _ ∧ own_PS Z T4.heap n0 ob nA A F (own_vs (own_vs V 8 1 (.int (1 : Int32))) 10 1 (.int (1 : Int32))))
    rw [e4]
    exact ⟨rfl, N4, P4⟩
set_option maxRecDepth 65536 in
set_option maxHeartbeats 40000000 in
theorem rm13_1 (l : Launch) (Z : State) (a0 : Array Value) (hw : own_HW Z a0) (ws : List Jvm.Cond) {nA : Nat} {A : Nat → Addr} {F : Nat → Value} {V : Nat → List Value} (ob : Addr) (va : Int32) (vk : Int64) (h0 : Heap) (n0 : Nat) (P : own_PS Z h0 n0 ob nA A F V) (hA : 13 ≤ nA) (hB : nA ≤ 14) (hM : nA = 14) (hF19 : F 19 = (.int (1 : Int32))) (hV0_4 : (V 0).getD 4 (own_aZ 0) = (.int (0 : Int32))) (hV0_5 : (V 0).getD 5 (own_aZ 0) = (.int (0 : Int32))) (hV5_0 : (V 5).getD 0 (own_aZ 5) = (.int (0 : Int32))) (hV1_1 : (V 1).getD 1 (own_aZ 1) = (.int (1 : Int32))) (hV12_2 : (V 12).getD 2 (own_aZ 12) = (.int va)) (hV6_0 : (V 6).getD 0 (own_aZ 6) = (.long (0 : Int64))) (hV13_2 : (V 13).getD 2 (own_aZ 13) = (.long vk)) :
    own_C l Z own_y20 bc13 4 (some .boolean) ws 1 17 #[(.ref ob), (.int (1 : Int32))] h0 (fun v h L => (v = some (.int (1 : Int32)) ∧ Fr n0 L ∧ own_PS Z h n0 ob nA A F (own_vs (own_vs (own_vs (own_vs (own_vs V 5 1 (.int (((0 : Int32) + va) + (0 : Int32)))) 6 1 (.long (((0 : Int64) + vk) + (0 : Int64)))) 4 1 (.int (1 : Int32))) 8 1 (.int (1 : Int32))) 10 1 (.int (1 : Int32))))) := by
  refine MetFree.of_bodySF (plainFor_of_name own_pn2) hisR ?_
  intro p e s m args below meth c s₁ Bd hml0 hP hK
  obtain ⟨rfl, hZ, hh⟩ := hP
  have hx := Bd.exec
  have hby := Bd.bytes
  have hml : c.maxLocals = 4 := hml0
  have hown : s.vm.findClass "com/example/jobwright/jobwright/policies/ProfileSteps" = some m.cls := findClass_of_methodNamed Bd.named
  have X0 : Stand p l e ({ frames := 1, cells := 0, slots := 0, locals := 17 } : Room) s m #[(.ref ob), (.int (1 : Int32))] below meth c s₁ [] 0 0 := Stand.of_body Bd
  have e0 : s₁.heap = h0 := by rw [← hh, Bd.state]; rfl
  have N0 := Fr.nil n0
  have ef : entryFrame m #[(.ref ob), (.int (1 : Int32))] 4 = mkF m 0 #[.val (.ref ob), .val (.int (1 : Int32)), .unset, .unset] [] := by first | (simp [entryFrame, mkF, argsToLocals, Value.category]; done) | rfl
  obtain ⟨cq1, kq1, q1a, q1b, q1c⟩ := isOf hZ e0 P.1
  obtain ⟨_, _, ⟨T1, L1, k1, n1⟩, -, X1, ⟨Lc1, hQ1, l1, y1, z1⟩, st1⟩ := X0.virtualBackUp hx (x := own_y14) (y := own_y13) (owner := "com/example/jobwright/jobwright/policies/Treap") hown (mvT hZ (own_w hw 159)) (mvT hZ (own_w hw 160)) (mvT hZ (own_w hw 161)) (by decide) (mvT hZ (own_w hw 163)) (mvT hZ (own_w hw 162)) (backOf (W := 0) (rm14_1 l Z a0 hw [] ob  h0 n0 P hA hB  hV0_4 ) hZ (own_w hw 164) (own_w hw 9) (by decide) (by decide)) q1a q1c (g := (mkF m 2 #[.val (.ref ob), .val (.int (1 : Int32)), .unset, .unset] [(.int (1 : Int32)), (.ref ob)])) rfl (by rw [hml]; rfl) (Steps.refl _) (argsL := [(.int (1 : Int32))]) (rest := []) (lenOf own_pd5 rfl) rfl (by show 2 * 0 + _ ≤ _; exact Nat.le_of_eq rfl) (hb hby d13_2) (fun _ _ => ⟨rfl, e0, (by decide : 0 + 0 ≤ _), (by decide : 0 + 0 ≤ _)⟩)
  dsimp only [Pt.U, Pt.locs, Pt.cells, Pt.slots] at X1 l1 y1 z1 st1 hQ1
  subst l1 y1 z1
  obtain ⟨rfl, Nq1, eh1⟩ := hQ1
  have N1 := Fr.app N0 Nq1
  obtain ⟨cq2, kq2, q2a, q2b, q2c⟩ := isOf hZ eh1 P.1
  obtain ⟨_, _, ⟨T2, L2, k2, n2⟩, -, X2, ⟨Lc2, hQ2, l2, y2, z2⟩, st2⟩ := X1.virtualBackUp hx (x := own_y15) (y := own_y4) (owner := "com/example/jobwright/jobwright/policies/Treap") hown (mvT hZ (own_w hw 165)) (mvT hZ (own_w hw 166)) (mvT hZ (own_w hw 167)) (by decide) (mvT hZ (own_w hw 169)) (mvT hZ (own_w hw 168)) (backOf (W := 0) (rm15_1 l Z a0 hw [] ob  h0 n0 P hA hB  hV0_5 ) hZ (own_w hw 170) (own_w hw 9) (by decide) (by decide)) q2a q2c (g := (mkF m 8 #[.val (.ref ob), .val (.int (1 : Int32)), .val (.int (0 : Int32)), .unset] [(.int (1 : Int32)), (.ref ob)])) rfl (by rw [hml]; rfl) (Steps.refl _) (argsL := [(.int (1 : Int32))]) (rest := []) (lenOf own_pd5 rfl) rfl (by show 2 * 0 + _ ≤ _; exact Nat.le_of_eq rfl) (hb hby d13_8) (fun _ _ => ⟨rfl, eh1, (by decide : 0 + 0 ≤ _), (by decide : 0 + 0 ≤ _)⟩)
  dsimp only [Pt.U, Pt.locs, Pt.cells, Pt.slots] at X2 l2 y2 z2 st2 hQ2
  subst l2 y2 z2
  obtain ⟨rfl, Nq2, eh2⟩ := hQ2
  have N2 := Fr.app N1 Nq2
  obtain ⟨T3, X3, e3, st3⟩ := own_gf X2 hx hZ hown eh2 P 5 (own_w hw 66) (v := (.ref (A 5))) (P.2.2.2.1 5 (by omega)) (hb hby d13_13) #[.val (.ref ob), .val (.int (1 : Int32)), .val (.int (0 : Int32)), .val (.int (0 : Int32))] []
  obtain ⟨T4, X4, e4, st4⟩ := own_gf X3 hx hZ hown e3 P 5 (own_w hw 66) (v := (.ref (A 5))) (P.2.2.2.1 5 (by omega)) (hb hby d13_18) #[.val (.ref ob), .val (.int (1 : Int32)), .val (.int (0 : Int32)), .val (.int (0 : Int32))] [(.int (1 : Int32)), (.ref (A 5))]
  obtain ⟨cq5, q5, q5'⟩ := P.1.cell
  obtain ⟨_, _, ⟨T5, L5, k5, n5⟩, -, X5, ⟨Lc5, hQ5, l5, y5, z5⟩, st5⟩ := X4.privateBack hx (y := own_y16) hown (mvT hZ (own_w hw 171)) (mvT hZ (own_w hw 172)) (own_psel (z := own_y17) (mvT hZ (own_w hw 103)) (mvP hZ (own_w hw 173)) (mvT hZ (own_w hw 172)) rfl (by decide)) (Cond.privateMethod_at (mvP hZ (own_w hw 173) (args := #[]))) (mvT hZ (own_w hw 174)) (by decide) (backOf (W := 3) (rm16_1 l Z a0 hw [] ob va h0 n0 P hA hB hF19 hV1_1 hV12_2 ) hZ (own_w hw 174) (own_w hw 2) (by decide) (by decide)) (g := (mkF m 25 #[.val (.ref ob), .val (.int (1 : Int32)), .val (.int (0 : Int32)), .val (.int (0 : Int32))] [(.int (1 : Int32)), (.ref ob), (.int (0 : Int32)), (.int (1 : Int32)), (.ref (A 5))])) rfl (by rw [hml]; rfl) (Steps.refl _) (a := ob) (by rw [e4]; exact q5) q5' (argsL := [(.int (1 : Int32))]) (rest := [(.int (0 : Int32)), (.int (1 : Int32)), (.ref (A 5))]) (lenOf own_pd5 rfl) rfl (by show 2 * 0 + _ ≤ _; exact Nat.le_of_eq rfl) (hb hby d13_25) (fun _ _ => ⟨rfl, e4, (by decide : 0 + 0 ≤ _), (by decide : 0 + 0 ≤ _)⟩)
  dsimp only [Pt.U, Pt.locs, Pt.cells, Pt.slots] at X5 l5 y5 z5 st5 hQ5
  subst l5 y5 z5
  obtain ⟨rfl, Nq5, eh5⟩ := hQ5
  have N5 := Fr.app N2 Nq5
  obtain ⟨T6, X6, e6, st6⟩ := own_gf X5 hx hZ hown eh5 P 5 (own_w hw 66) (v := (.ref (A 5))) (P.2.2.2.1 5 (by omega)) (hb hby d13_30) #[.val (.ref ob), .val (.int (1 : Int32)), .val (.int (0 : Int32)), .val (.int (0 : Int32))] [(.int ((0 : Int32) + va)), (.int (1 : Int32)), (.ref (A 5))]
  obtain ⟨T7, h7, l7, X7, e7, N7, P7, st7⟩ := own_ist X6 hx hZ e6 N5 P 5 1 (j := (1 : Int32)) (x := (((0 : Int32) + va) + (0 : Int32))) (hb hby d13_36) #[.val (.ref ob), .val (.int (1 : Int32)), .val (.int (0 : Int32)), .val (.int (0 : Int32))] [] (by omega)
  obtain ⟨T8, X8, e8, st8⟩ := own_gf X7 hx hZ hown e7 P7 6 (own_w hw 68) (v := (.ref (A 6))) (P7.2.2.2.1 6 (by omega)) (hb hby d13_38) #[.val (.ref ob), .val (.int (1 : Int32)), .val (.int (0 : Int32)), .val (.int (0 : Int32))] []
  obtain ⟨T9, X9, e9, st9⟩ := own_gf X8 hx hZ hown e8 P7 6 (own_w hw 68) (v := (.ref (A 6))) (P7.2.2.2.1 6 (by omega)) (hb hby d13_43) #[.val (.ref ob), .val (.int (1 : Int32)), .val (.int (0 : Int32)), .val (.int (0 : Int32))] [(.int (1 : Int32)), (.ref (A 6))]
  obtain ⟨cq10, q10, q10'⟩ := P7.1.cell
  obtain ⟨_, _, ⟨T10, L10, k10, n10⟩, -, X10, ⟨Lc10, hQ10, l10, y10, z10⟩, st10⟩ := X9.privateBack hx (y := own_y18) hown (mvT hZ (own_w hw 175)) (mvT hZ (own_w hw 176)) (own_psel (z := own_y17) (mvT hZ (own_w hw 103)) (mvP hZ (own_w hw 177)) (mvT hZ (own_w hw 176)) rfl (by decide)) (Cond.privateMethod_at (mvP hZ (own_w hw 177) (args := #[]))) (mvT hZ (own_w hw 178)) (by decide) (backOf (W := 4) (rm17_1 l Z a0 hw [] ob vk h7 n0 P7 hA hB hM hF19 (own_vn hV1_1) (own_vn hV13_2) ) hZ (own_w hw 178) (own_w hw 2) (by decide) (by decide)) (g := (mkF m 50 #[.val (.ref ob), .val (.int (1 : Int32)), .val (.int (0 : Int32)), .val (.int (0 : Int32))] [(.int (1 : Int32)), (.ref ob), (.long (0 : Int64)), (.int (1 : Int32)), (.ref (A 6))])) rfl (by rw [hml]; rfl) (Steps.refl _) (a := ob) (by rw [e9]; exact q10) q10' (argsL := [(.int (1 : Int32))]) (rest := [(.long (0 : Int64)), (.int (1 : Int32)), (.ref (A 6))]) (lenOf own_pd6 rfl) rfl (by show 2 * 0 + _ ≤ _; exact Nat.le_of_eq rfl) (hb hby d13_50) (fun _ _ => ⟨rfl, e9, (by decide : 0 + 0 ≤ _), (by decide : 0 + 0 ≤ _)⟩)
  dsimp only [Pt.U, Pt.locs, Pt.cells, Pt.slots] at X10 l10 y10 z10 st10 hQ10
  subst l10 y10 z10
  obtain ⟨rfl, Nq10, eh10⟩ := hQ10
  have N10 := Fr.app N7 Nq10
  obtain ⟨T11, X11, e11, st11⟩ := own_gf X10 hx hZ hown eh10 P7 6 (own_w hw 68) (v := (.ref (A 6))) (P7.2.2.2.1 6 (by omega)) (hb hby d13_55) #[.val (.ref ob), .val (.int (1 : Int32)), .val (.int (0 : Int32)), .val (.int (0 : Int32))] [(.long ((0 : Int64) + vk)), (.int (1 : Int32)), (.ref (A 6))]
  obtain ⟨T12, h12, l12, X12, e12, N12, P12, st12⟩ := own_lst X11 hx hZ e11 N10 P7 6 1 (j := (1 : Int32)) (x := (((0 : Int64) + vk) + (0 : Int64))) (hb hby d13_61) #[.val (.ref ob), .val (.int (1 : Int32)), .val (.int (0 : Int32)), .val (.int (0 : Int32))] [] (by omega)
  obtain ⟨T13, X13, e13, st13⟩ := own_gf X12 hx hZ hown e12 P12 4 (own_w hw 64) (v := (.ref (A 4))) (P12.2.2.2.1 4 (by omega)) (hb hby d13_63) #[.val (.ref ob), .val (.int (1 : Int32)), .val (.int (0 : Int32)), .val (.int (0 : Int32))] []
  obtain ⟨T14, h14, l14, X14, e14, N14, P14, st14⟩ := own_ist X13 hx hZ e13 N12 P12 4 1 (j := (1 : Int32)) (x := (1 : Int32)) (hb hby d13_81) #[.val (.ref ob), .val (.int (1 : Int32)), .val (.int (0 : Int32)), .val (.int (0 : Int32))] [] (by omega)
  obtain ⟨cq15, q15, q15'⟩ := P14.1.cell
  obtain ⟨_, _, ⟨T15, L15, k15, n15⟩, -, X15, ⟨Lc15, hQ15, l15, y15, z15⟩, st15⟩ := X14.privateBack hx (y := own_y19) hown (mvT hZ (own_w hw 179)) (mvT hZ (own_w hw 180)) (own_psel (z := own_y17) (mvT hZ (own_w hw 103)) (mvP hZ (own_w hw 181)) (mvT hZ (own_w hw 180)) rfl (by decide)) (Cond.privateMethod_at (mvP hZ (own_w hw 181) (args := #[]))) (mvT hZ (own_w hw 182)) (by decide) (backOf (W := 0) (rm18_1 l Z a0 hw [] ob  h14 n0 P14 hA hB   ) hZ (own_w hw 182) (own_w hw 2) (by decide) (by decide)) (g := (mkF m 84 #[.val (.ref ob), .val (.int (1 : Int32)), .val (.int (0 : Int32)), .val (.int (0 : Int32))] [(.int (1 : Int32)), (.ref ob)])) rfl (by rw [hml]; rfl) (Steps.refl _) (a := ob) (by rw [e14]; exact q15) q15' (argsL := [(.int (1 : Int32))]) (rest := []) (lenOf own_pd0 rfl) rfl (by show 2 * 0 + _ ≤ _; exact Nat.le_of_eq rfl) (hb hby d13_84) (fun _ _ => ⟨rfl, e14, (by decide : 0 + 0 ≤ _), (by decide : 0 + 0 ≤ _)⟩)
  dsimp only [Pt.U, Pt.locs, Pt.cells, Pt.slots] at X15 l15 y15 z15 st15 hQ15
  subst l15 y15 z15
  obtain ⟨rfl, Nq15, P15⟩ := hQ15
  have N15 := Fr.app N14 Nq15
  obtain ⟨fs, hr, hrun, hended, hW, hsame⟩ := X15.leave (v := some (.int (1 : Int32))) (fun h => by rw [Bd.returns] at h; cases h)
  refine ⟨_, _, castTop ef ?_, hrun, hended, _, _, rfl, ?_, ⟨_, rfl⟩, hW, hsame.mono (by decide) (by decide)⟩
  · refine s_aloadN X0 hx (hb hby d13_0) rfl rfl ?_
    refine s_iloadN X0 hx (hb hby d13_1) rfl ?_
    refine st1.trans ?_
    refine s_istoreN X1 hx #[.val (.ref ob), .val (.int (1 : Int32)), .val (.int (0 : Int32)), .unset] (hb hby d13_5) rfl ?_
    refine s_aloadN X1 hx (hb hby d13_6) rfl rfl ?_
    refine s_iloadN X1 hx (hb hby d13_7) rfl ?_
    refine st2.trans ?_
    refine s_istoreN X2 hx #[.val (.ref ob), .val (.int (1 : Int32)), .val (.int (0 : Int32)), .val (.int (0 : Int32))] (hb hby d13_11) rfl ?_
    refine s_aloadN X2 hx (hb hby d13_12) rfl rfl ?_
    refine st3 _ ?_
    refine s_iloadN X3 hx (hb hby d13_16) rfl ?_
    refine s_aloadN X3 hx (hb hby d13_17) rfl rfl ?_
    refine st4 _ ?_
    refine s_iloadN X4 hx (hb hby d13_21) rfl ?_
    refine own_ial X4 hx hZ e4 P 5 0 (v := (.int (0 : Int32))) hV5_0 (hb hby d13_22) (by omega) ?_
    refine s_aloadN X4 hx (hb hby d13_23) rfl rfl ?_
    refine s_iloadN X4 hx (hb hby d13_24) rfl ?_
    refine st5.trans ?_
    refine s_iadd X5 hx ((0 : Int32) + va) (hb hby d13_28) rfl ?_
    refine s_aloadN X5 hx (hb hby d13_29) rfl rfl ?_
    refine st6 _ ?_
    refine s_iloadN X6 hx (hb hby d13_33) rfl ?_
    refine own_ial X6 hx hZ e6 P 5 0 (v := (.int (0 : Int32))) hV5_0 (hb hby d13_34) (by omega) ?_
    refine s_iadd X6 hx (((0 : Int32) + va) + (0 : Int32)) (hb hby d13_35) rfl ?_
    refine st7 _ ?_
    refine s_aloadN X7 hx (hb hby d13_37) rfl rfl ?_
    refine st8 _ ?_
    refine s_iloadN X8 hx (hb hby d13_41) rfl ?_
    refine s_aloadN X8 hx (hb hby d13_42) rfl rfl ?_
    refine st9 _ ?_
    refine s_iloadN X9 hx (hb hby d13_46) rfl ?_
    refine own_lal X9 hx hZ e9 P7 6 0 (v := (.long (0 : Int64))) (own_vn hV6_0) (hb hby d13_47) (by omega) ?_
    refine s_aloadN X9 hx (hb hby d13_48) rfl rfl ?_
    refine s_iloadN X9 hx (hb hby d13_49) rfl ?_
    refine st10.trans ?_
    refine s_ladd X10 hx ((0 : Int64) + vk) (hb hby d13_53) rfl ?_
    refine s_aloadN X10 hx (hb hby d13_54) rfl rfl ?_
    refine st11 _ ?_
    refine s_iloadN X11 hx (hb hby d13_58) rfl ?_
    refine own_lal X11 hx hZ e11 P7 6 0 (v := (.long (0 : Int64))) (own_vn hV6_0) (hb hby d13_59) (by omega) ?_
    refine s_ladd X11 hx (((0 : Int64) + vk) + (0 : Int64)) (hb hby d13_60) rfl ?_
    refine st12 _ ?_
    refine s_aloadN X12 hx (hb hby d13_62) rfl rfl ?_
    refine st13 _ ?_
    refine s_iloadN X13 hx (hb hby d13_66) rfl ?_
    refine s_iloadN X13 hx (hb hby d13_67) rfl ?_
    refine s_ifN X13 hx (hb hby d13_68) (by decide) ?_
    refine s_iloadN X13 hx (hb hby d13_71) rfl ?_
    refine s_goto X13 hx 81 (hb hby d13_72) (by decide) (by decide) ?_
    refine st14 _ ?_
    refine s_aloadN X14 hx (hb hby d13_82) rfl rfl ?_
    refine s_iloadN X14 hx (hb hby d13_83) rfl ?_
    refine st15.trans ?_
    refine s_iconst X15 hx (1 : Int32) (hb hby d13_87) rfl ?_
    exact retN X15 hx (t := .boolean) Bd.returns (by simp) (hb hby d13_88) hr
  · show ((_ : Option Value) = some (.int (1 : Int32)) ∧ Fr n0 _ ∧ own_PS Z T15.heap n0 ob nA A F (own_vs (own_vs (own_vs (own_vs (own_vs V 5 1 (.int (((0 : Int32) + va) + (0 : Int32)))) 6 1 (.long (((0 : Int64) + vk) + (0 : Int64)))) 4 1 (.int (1 : Int32))) 8 1 (.int (1 : Int32))) 10 1 (.int (1 : Int32))))
    exact ⟨rfl, N15, P15⟩
set_option maxRecDepth 65536 in
set_option maxHeartbeats 40000000 in
theorem rm19_1 (l : Launch) (Z : State) (a0 : Array Value) (hw : own_HW Z a0) (ws : List Jvm.Cond) {nA : Nat} {A : Nat → Addr} {F : Nat → Value} {V : Nat → List Value} (ob : Addr)  (h0 : Heap) (n0 : Nat) (P : own_PS Z h0 n0 ob nA A F V) (hA : 13 ≤ nA) (hB : nA ≤ 14)  :
    own_C l Z own_y22 bc19 3 (some .int) ws 0 0 #[(.ref ob), (.int (0 : Int32)), (.int (1 : Int32))] h0 (fun v h L => (v = some (.int (1 : Int32)) ∧ Fr n0 L ∧ h = h0)) := by
  refine MetFree.of_bodySF (plainFor_of_name own_pn1) hisR ?_
  intro p e s m args below meth c s₁ Bd hml0 hP hK
  obtain ⟨rfl, hZ, hh⟩ := hP
  have hx := Bd.exec
  have hby := Bd.bytes
  have hml : c.maxLocals = 3 := hml0
  have hown : s.vm.findClass "com/example/jobwright/jobwright/policies/Treap" = some m.cls := findClass_of_methodNamed Bd.named
  have X0 : Stand p l e ({ frames := 0, cells := 0, slots := 0, locals := 0 } : Room) s m #[(.ref ob), (.int (0 : Int32)), (.int (1 : Int32))] below meth c s₁ [] 0 0 := Stand.of_body Bd
  have e0 : s₁.heap = h0 := by rw [← hh, Bd.state]; rfl
  have N0 := Fr.nil n0
  have ef : entryFrame m #[(.ref ob), (.int (0 : Int32)), (.int (1 : Int32))] 3 = mkF m 0 #[.val (.ref ob), .val (.int (0 : Int32)), .val (.int (1 : Int32))] [] := by first | (simp [entryFrame, mkF, argsToLocals, Value.category]; done) | rfl
  obtain ⟨fs, hr, hrun, hended, hW, hsame⟩ := X0.leave (v := some (.int (1 : Int32))) (fun h => by rw [Bd.returns] at h; cases h)
  refine ⟨_, _, castTop ef ?_, hrun, hended, _, _, rfl, ?_, ⟨_, rfl⟩, hW, hsame.mono (by decide) (by decide)⟩
  · refine s_iloadN X0 hx (hb hby d19_0) rfl ?_
    refine s_ifN X0 hx (hb hby d19_1) (by decide) ?_
    refine s_iloadN X0 hx (hb hby d19_4) rfl ?_
    exact retI X0 hx Bd.returns (hb hby d19_5) hr
  · show ((_ : Option Value) = some (.int (1 : Int32)) ∧ Fr n0 _ ∧ s₁.heap = h0)
    rw [e0]
    exact ⟨rfl, N0, rfl⟩
set_option maxRecDepth 65536 in
set_option maxHeartbeats 40000000 in
theorem rm12_1 (l : Launch) (Z : State) (a0 : Array Value) (hw : own_HW Z a0) (ws : List Jvm.Cond) {nA : Nat} {A : Nat → Addr} {F : Nat → Value} {V : Nat → List Value} (ob : Addr) (va : Int32) (vk : Int64) (h0 : Heap) (n0 : Nat) (P : own_PS Z h0 n0 ob nA A F V) (hA : 13 ≤ nA) (hB : nA ≤ 14) (hM : nA = 14) (hF19 : F 19 = (.int (1 : Int32))) (hF14 : F 14 = (.int (0 : Int32))) (hF15 : F 15 = (.int (0 : Int32))) (hV0_4 : (V 0).getD 4 (own_aZ 0) = (.int (0 : Int32))) (hV0_5 : (V 0).getD 5 (own_aZ 0) = (.int (0 : Int32))) (hV5_0 : (V 5).getD 0 (own_aZ 5) = (.int (0 : Int32))) (hV1_1 : (V 1).getD 1 (own_aZ 1) = (.int (1 : Int32))) (hV12_2 : (V 12).getD 2 (own_aZ 12) = (.int va)) (hV6_0 : (V 6).getD 0 (own_aZ 6) = (.long (0 : Int64))) (hV13_2 : (V 13).getD 2 (own_aZ 13) = (.long vk)) :
    own_C l Z own_y23 bc12 2 none ws 2 32 #[(.ref ob), (.int (1 : Int32))] h0 (fun v h L => (v = none ∧ Fr n0 L ∧ own_PS Z h n0 ob nA A (own_up (own_up (own_up F 27 (.int (0 : Int32))) 14 (.int (1 : Int32))) 15 (.int (1 : Int32))) (own_vs (own_vs (own_vs (own_vs (own_vs V 5 1 (.int (((0 : Int32) + va) + (0 : Int32)))) 6 1 (.long (((0 : Int64) + vk) + (0 : Int64)))) 4 1 (.int (1 : Int32))) 8 1 (.int (1 : Int32))) 10 1 (.int (1 : Int32))))) := by
  refine MetFree.of_bodySF (plainFor_of_name own_pn1) hisR ?_
  intro p e s m args below meth c s₁ Bd hml0 hP hK
  obtain ⟨rfl, hZ, hh⟩ := hP
  have hx := Bd.exec
  have hby := Bd.bytes
  have hml : c.maxLocals = 2 := hml0
  have hown : s.vm.findClass "com/example/jobwright/jobwright/policies/Treap" = some m.cls := findClass_of_methodNamed Bd.named
  have X0 : Stand p l e ({ frames := 2, cells := 0, slots := 0, locals := 32 } : Room) s m #[(.ref ob), (.int (1 : Int32))] below meth c s₁ [] 0 0 := Stand.of_body Bd
  have e0 : s₁.heap = h0 := by rw [← hh, Bd.state]; rfl
  have N0 := Fr.nil n0
  have ef : entryFrame m #[(.ref ob), (.int (1 : Int32))] 2 = mkF m 0 #[.val (.ref ob), .val (.int (1 : Int32))] [] := by first | (simp [entryFrame, mkF, argsToLocals, Value.category]; done) | rfl
  obtain ⟨cq1, kq1, q1a, q1b, q1c⟩ := isOf hZ e0 P.1
  obtain ⟨_, _, ⟨T1, L1, k1, n1⟩, -, X1, ⟨Lc1, hQ1, l1, y1, z1⟩, st1⟩ := X0.virtualBack hx (y := own_y21) (z := own_y20) hown (mvT hZ (own_w hw 154)) (mvT hZ (own_w hw 155)) (own_nf (args := #[]) (z := own_y4) (mvT hZ (own_w hw 224)) rfl) (mvT hZ (own_w hw 156)) (mvT hZ (own_w hw 157)) (by decide) (backOf (W := 0) (rm13_1 l Z a0 hw [] ob va vk h0 n0 P hA hB hM hF19 hV0_4 hV0_5 hV5_0 hV1_1 hV12_2 hV6_0 hV13_2 ) hZ (own_w hw 158) (own_w hw 2) (by decide) (by decide)) q1a q1c (g := (mkF m 2 #[.val (.ref ob), .val (.int (1 : Int32))] [(.int (1 : Int32)), (.ref ob)])) rfl (by rw [hml]; rfl) (Steps.refl _) (argsL := [(.int (1 : Int32))]) (rest := []) (lenOf own_pd7 rfl) rfl (by show 2 * 0 + _ ≤ _; exact Nat.le_of_eq rfl) (hb hby d12_2) (fun _ _ => ⟨rfl, e0, (by decide : 0 + 0 ≤ _), (by decide : 0 + 0 ≤ _)⟩)
  dsimp only [Pt.U, Pt.locs, Pt.cells, Pt.slots] at X1 l1 y1 z1 st1 hQ1
  subst l1 y1 z1
  obtain ⟨rfl, Nq1, P1⟩ := hQ1
  have N1 := Fr.app N0 Nq1
  obtain ⟨T2, h2, l2, X2, e2, N2, P2, st2⟩ := own_pp X1 hx hZ hw hown rfl N1 P1 27 (own_w hw 183) (Or.inl (own_w hw 184)) (v := (.int (0 : Int32))) (hb hby d12_8) #[.val (.ref ob), .val (.int (1 : Int32))] [] rfl rfl (by omega)
  obtain ⟨T3, X3, e3, st3⟩ := own_gf X2 hx hZ hown e2 P2 14 (own_w hw 14) (v := (.int (0 : Int32))) (own_fn hF14) (hb hby d12_14) #[.val (.ref ob), .val (.int (1 : Int32))] [(.ref ob), (.ref ob)]
  obtain ⟨cq4, q4, q4'⟩ := P2.1.cell
  obtain ⟨_, _, ⟨T4, L4, k4, n4⟩, -, X4, ⟨Lc4, hQ4, l4, y4, z4⟩, st4⟩ := X3.privateBack hx (y := own_y22) hown (mvT hZ (own_w hw 185)) (mvT hZ (own_w hw 186)) (own_psel (z := own_y4) (mvT hZ (own_w hw 224)) (mvP hZ (own_w hw 187)) (mvT hZ (own_w hw 186)) rfl (by decide)) (Cond.privateMethod_at (mvP hZ (own_w hw 187) (args := #[]))) (mvT hZ (own_w hw 188)) (by decide) (backOf (W := 1) (rm19_1 l Z a0 hw [] ob  h2 n0 P2 hA hB   ) hZ (own_w hw 188) (own_w hw 9) (by decide) (by decide)) (g := (mkF m 18 #[.val (.ref ob), .val (.int (1 : Int32))] [(.int (1 : Int32)), (.int (0 : Int32)), (.ref ob), (.ref ob)])) rfl (by rw [hml]; rfl) (Steps.refl _) (a := ob) (by rw [e3]; exact q4) q4' (argsL := [(.int (0 : Int32)), (.int (1 : Int32))]) (rest := [(.ref ob)]) (lenOf own_pd8 rfl) rfl (by show 2 * 0 + _ ≤ _; exact Nat.le_of_eq rfl) (hb hby d12_18) (fun _ _ => ⟨rfl, e3, (by decide : 0 + 0 ≤ _), (by decide : 0 + 0 ≤ _)⟩)
  dsimp only [Pt.U, Pt.locs, Pt.cells, Pt.slots] at X4 l4 y4 z4 st4 hQ4
  subst l4 y4 z4
  obtain ⟨rfl, Nq4, eh4⟩ := hQ4
  have N4 := Fr.app N2 Nq4
  obtain ⟨T5, h5, l5, X5, e5, N5, P5, st5⟩ := own_pp X4 hx hZ hw hown eh4 N4 P2 14 (own_w hw 14) (Or.inl (own_w hw 15)) (v := (.int (1 : Int32))) (hb hby d12_21) #[.val (.ref ob), .val (.int (1 : Int32))] [] rfl rfl (by omega)
  obtain ⟨T6, X6, e6, st6⟩ := own_gf X5 hx hZ hown e5 P5 15 (own_w hw 111) (v := (.int (0 : Int32))) (own_fn (own_fn hF15)) (hb hby d12_26) #[.val (.ref ob), .val (.int (1 : Int32))] [(.ref ob)]
  obtain ⟨T7, h7, l7, X7, e7, N7, P7, st7⟩ := own_pp X6 hx hZ hw hown e6 N5 P5 15 (own_w hw 111) (Or.inl (own_w hw 112)) (v := (.int (1 : Int32))) (hb hby d12_31) #[.val (.ref ob), .val (.int (1 : Int32))] [] rfl rfl (by omega)
  obtain ⟨fs, hr, hrun, hended, hW, hsame⟩ := X7.leave (v := none) (fun _ => rfl)
  refine ⟨_, _, castTop ef ?_, hrun, hended, _, _, rfl, ?_, ⟨_, rfl⟩, hW, hsame.mono (by decide) (by decide)⟩
  · refine s_aloadN X0 hx (hb hby d12_0) rfl rfl ?_
    refine s_iloadN X0 hx (hb hby d12_1) rfl ?_
    refine st1.trans ?_
    refine s_pop X1 hx (hb hby d12_5) rfl ?_
    refine s_aloadN X1 hx (hb hby d12_6) rfl rfl ?_
    refine s_iconst X1 hx (0 : Int32) (hb hby d12_7) rfl ?_
    refine st2 _ ?_
    refine s_aloadN X2 hx (hb hby d12_11) rfl rfl ?_
    refine s_aloadN X2 hx (hb hby d12_12) rfl rfl ?_
    refine s_aloadN X2 hx (hb hby d12_13) rfl rfl ?_
    refine st3 _ ?_
    refine s_iloadN X3 hx (hb hby d12_17) rfl ?_
    refine st4.trans ?_
    refine st5 _ ?_
    refine s_aloadN X5 hx (hb hby d12_24) rfl rfl ?_
    refine s_dup X5 hx (hb hby d12_25) rfl ?_
    refine st6 _ ?_
    refine s_iconst X6 hx (1 : Int32) (hb hby d12_29) rfl ?_
    refine s_iadd X6 hx (1 : Int32) (hb hby d12_30) (by decide) ?_
    refine st7 _ ?_
    exact X7.returnOut hx Bd.returns (hb hby d12_34) hr
  · show ((_ : Option Value) = none ∧ Fr n0 _ ∧ own_PS Z T7.heap n0 ob nA A (own_up (own_up (own_up F 27 (.int (0 : Int32))) 14 (.int (1 : Int32))) 15 (.int (1 : Int32))) (own_vs (own_vs (own_vs (own_vs (own_vs V 5 1 (.int (((0 : Int32) + va) + (0 : Int32)))) 6 1 (.long (((0 : Int64) + vk) + (0 : Int64)))) 4 1 (.int (1 : Int32))) 8 1 (.int (1 : Int32))) 10 1 (.int (1 : Int32))))
    rw [e7]
    exact ⟨rfl, N7, P7⟩
set_option maxRecDepth 65536 in
set_option maxHeartbeats 40000000 in
theorem rm5_1 (l : Launch) (Z : State) (a0 : Array Value) (hw : own_HW Z a0) (ws : List Jvm.Cond) {nA : Nat} {A : Nat → Addr} {F : Nat → Value} {V : Nat → List Value} (ob : Addr) (va : Int32) (vk : Int64) (h0 : Heap) (n0 : Nat) (P : own_PS Z h0 n0 ob nA A F V) (hA : 13 ≤ nA) (hB : nA ≤ 14) (hM : nA = 14) (hF18 : F 18 = (.long (-7046029254386353131 : Int64))) (hF19 : F 19 = (.int (1 : Int32))) (hF22 : F 22 = (.long (0 : Int64))) (hV5_0 : (V 5).getD 0 (own_aZ 5) = (.int (0 : Int32))) (hV6_0 : (V 6).getD 0 (own_aZ 6) = (.long (0 : Int64))) :
    own_C l Z own_y17 bc5 7 none ws 3 45 #[(.ref ob), (.long (0 : Int64)), (.int va), (.long vk)] h0 (fun v h L => (v = none ∧ Fr n0 L ∧ own_PS Z h n0 ob nA A (own_up (own_up (own_up (own_up (own_up (own_up (own_up (own_up (own_up (own_up (own_up (own_up (own_up (own_up (own_up (own_up F 14 (.int (0 : Int32))) 15 (.int (0 : Int32))) 16 (.int (0 : Int32))) 17 (.int (1 : Int32))) 21 (.int (0 : Int32))) 17 (.int (2 : Int32))) 18 (.long (8142603028701699093 : Int64))) 18 (.long (8206217113781226925 : Int64))) 18 (.long (-2586341971585708627 : Int64))) 23 (.int (1 : Int32))) 24 (.int (1 : Int32))) 25 (.int (1 : Int32))) 26 (.int (2 : Int32))) 27 (.int (0 : Int32))) 14 (.int (1 : Int32))) 15 (.int (1 : Int32))) (own_vs (own_vs (own_vs (own_vs (own_vs (own_vs (own_vs (own_vs (own_vs (own_vs (own_vs (own_vs (own_vs (own_vs (own_vs (own_vs V 0 4 (.int (0 : Int32))) 0 5 (.int (0 : Int32))) 0 6 (.int (1846393815 : Int32))) 1 1 (.int (1 : Int32))) 11 2 (.long (0 : Int64))) 12 2 (.int va)) 13 2 (.long vk)) 2 1 (.int (0 : Int32))) 3 1 (.int (0 : Int32))) 7 1 (.int (1 : Int32))) 9 1 (.int (1 : Int32))) 5 1 (.int (((0 : Int32) + va) + (0 : Int32)))) 6 1 (.long (((0 : Int64) + vk) + (0 : Int64)))) 4 1 (.int (1 : Int32))) 8 1 (.int (1 : Int32))) 10 1 (.int (1 : Int32))))) := by
  refine MetFree.of_bodySF (plainFor_of_name own_pn2) hisR ?_
  intro p e s m args below meth c s₁ Bd hml0 hP hK
  obtain ⟨rfl, hZ, hh⟩ := hP
  have hx := Bd.exec
  have hby := Bd.bytes
  have hml : c.maxLocals = 7 := hml0
  have hown : s.vm.findClass "com/example/jobwright/jobwright/policies/ProfileSteps" = some m.cls := findClass_of_methodNamed Bd.named
  have X0 : Stand p l e ({ frames := 3, cells := 0, slots := 0, locals := 45 } : Room) s m #[(.ref ob), (.long (0 : Int64)), (.int va), (.long vk)] below meth c s₁ [] 0 0 := Stand.of_body Bd
  have e0 : s₁.heap = h0 := by rw [← hh, Bd.state]; rfl
  have N0 := Fr.nil n0
  have ef : entryFrame m #[(.ref ob), (.long (0 : Int64)), (.int va), (.long vk)] 7 = mkF m 0 #[.val (.ref ob), .val (.long (0 : Int64)), .second, .val (.int va), .val (.long vk), .second, .unset] [] := by first | (simp [entryFrame, mkF, argsToLocals, Value.category]; done) | rfl
  obtain ⟨cq1, kq1, q1a, q1b, q1c⟩ := isOf hZ e0 P.1
  obtain ⟨_, _, ⟨T1, L1, k1, n1⟩, -, X1, ⟨Lc1, hQ1, l1, y1, z1⟩, st1⟩ := X0.virtualBackUp hx (x := own_y5) (y := own_y3) (owner := "com/example/jobwright/jobwright/policies/Treap") hown (mvT hZ (own_w hw 105)) (mvT hZ (own_w hw 106)) (mvT hZ (own_w hw 107)) (by decide) (mvT hZ (own_w hw 109)) (mvT hZ (own_w hw 108)) (backOf (W := 0) (rm6_1 l Z a0 hw [] ob  h0 n0 P hA hB   ) hZ (own_w hw 110) (own_w hw 9) (by decide) (by decide)) q1a q1c (g := (mkF m 1 #[.val (.ref ob), .val (.long (0 : Int64)), .second, .val (.int va), .val (.long vk), .second, .unset] [(.ref ob)])) rfl (by rw [hml]; rfl) (Steps.refl _) (argsL := []) (rest := []) (lenOf own_pd1 rfl) rfl (by show 2 * 0 + _ ≤ _; exact Nat.le_of_eq rfl) (hb hby d5_1) (fun _ _ => ⟨rfl, e0, (by decide : 0 + 0 ≤ _), (by decide : 0 + 0 ≤ _)⟩)
  dsimp only [Pt.U, Pt.locs, Pt.cells, Pt.slots] at X1 l1 y1 z1 st1 hQ1
  subst l1 y1 z1
  obtain ⟨rfl, Nq1, P1⟩ := hQ1
  have N1 := Fr.app N0 Nq1
  obtain ⟨T2, h2, l2, X2, e2, N2, P2, st2⟩ := own_pp X1 hx hZ hw hown rfl N1 P1 21 (own_w hw 26) (Or.inl (own_w hw 27)) (v := (.int (0 : Int32))) (hb hby d5_6) #[.val (.ref ob), .val (.long (0 : Int64)), .second, .val (.int va), .val (.long vk), .second, .unset] [] rfl rfl (by omega)
  obtain ⟨cq3, kq3, q3a, q3b, q3c⟩ := isOf hZ e2 P2.1
  obtain ⟨_, _, ⟨T3, L3, k3, n3⟩, -, X3, ⟨Lc3, hQ3, l3, y3, z3⟩, st3⟩ := X2.virtualBackUp hx (x := own_y12) (y := own_y11) (owner := "com/example/jobwright/jobwright/policies/Treap") hown (mvT hZ (own_w hw 115)) (mvT hZ (own_w hw 116)) (mvT hZ (own_w hw 117)) (by decide) (mvT hZ (own_w hw 119)) (mvT hZ (own_w hw 118)) (backOf (W := 0) (rm7_1 l Z a0 hw [] ob  h2 n0 P2 hA hB (own_fn (own_fn (own_up_eq _ _ _))) (own_fn (own_up_eq _ _ _)) (own_fn (own_fn (own_fn (own_fn (own_fn hF18)))))  ) hZ (own_w hw 120) (own_w hw 9) (by decide) (by decide)) q3a q3c (g := (mkF m 10 #[.val (.ref ob), .val (.long (0 : Int64)), .second, .val (.int va), .val (.long vk), .second, .unset] [(.ref ob)])) rfl (by rw [hml]; rfl) (Steps.refl _) (argsL := []) (rest := []) (lenOf own_pd4 rfl) rfl (by show 2 * 0 + _ ≤ _; exact Nat.le_of_eq rfl) (hb hby d5_10) (fun _ _ => ⟨rfl, e2, (by decide : 0 + 0 ≤ _), (by decide : 0 + 0 ≤ _)⟩)
  dsimp only [Pt.U, Pt.locs, Pt.cells, Pt.slots] at X3 l3 y3 z3 st3 hQ3
  subst l3 y3 z3
  obtain ⟨rfl, Nq3, P3⟩ := hQ3
  have N3 := Fr.app N2 Nq3
  obtain ⟨T4, X4, e4, st4⟩ := own_gf X3 hx hZ hown rfl P3 1 (own_w hw 58) (v := (.ref (A 1))) (P3.2.2.2.1 1 (by omega)) (hb hby d5_16) #[.val (.ref ob), .val (.long (0 : Int64)), .second, .val (.int va), .val (.long vk), .second, .val (.int (1 : Int32))] []
  obtain ⟨T5, h5, l5, X5, e5, N5, P5, st5⟩ := own_ist X4 hx hZ e4 N3 P3 1 1 (j := (1 : Int32)) (x := (1 : Int32)) (hb hby d5_22) #[.val (.ref ob), .val (.long (0 : Int64)), .second, .val (.int va), .val (.long vk), .second, .val (.int (1 : Int32))] [] (by omega)
  obtain ⟨T6, X6, e6, st6⟩ := own_gf X5 hx hZ hown e5 P5 11 (own_w hw 92) (v := (.ref (A 11))) (P5.2.2.2.1 11 (by omega)) (hb hby d5_24) #[.val (.ref ob), .val (.long (0 : Int64)), .second, .val (.int va), .val (.long vk), .second, .val (.int (1 : Int32))] []
  obtain ⟨T7, X7, e7, st7⟩ := own_gf X6 hx hZ hown e6 P5 19 (own_w hw 54) (v := (.int (1 : Int32))) (own_fn (own_fn (own_fn (own_fn (own_fn (own_fn (own_fn (own_fn (own_fn hF19))))))))) (hb hby d5_30) #[.val (.ref ob), .val (.long (0 : Int64)), .second, .val (.int va), .val (.long vk), .second, .val (.int (1 : Int32))] [(.int (1 : Int32)), (.ref (A 11))]
  obtain ⟨T8, X8, e8, st8⟩ := own_gf X7 hx hZ hown e7 P5 22 (own_w hw 138) (v := (.long (0 : Int64))) (own_fn (own_fn (own_fn (own_fn (own_fn (own_fn (own_fn (own_fn (own_fn hF22))))))))) (hb hby d5_36) #[.val (.ref ob), .val (.long (0 : Int64)), .second, .val (.int va), .val (.long vk), .second, .val (.int (1 : Int32))] [(.long (0 : Int64)), (.int (2 : Int32)), (.ref (A 11))]
  obtain ⟨T9, h9, l9, X9, e9, N9, P9, st9⟩ := own_lst X8 hx hZ e8 N5 P5 11 2 (j := (2 : Int32)) (x := (0 : Int64)) (hb hby d5_40) #[.val (.ref ob), .val (.long (0 : Int64)), .second, .val (.int va), .val (.long vk), .second, .val (.int (1 : Int32))] [] (by omega)
  obtain ⟨T10, X10, e10, st10⟩ := own_gf X9 hx hZ hown e9 P9 12 (own_w hw 94) (v := (.ref (A 12))) (P9.2.2.2.1 12 (by omega)) (hb hby d5_42) #[.val (.ref ob), .val (.long (0 : Int64)), .second, .val (.int va), .val (.long vk), .second, .val (.int (1 : Int32))] []
  obtain ⟨T11, X11, e11, st11⟩ := own_gf X10 hx hZ hown e10 P9 19 (own_w hw 54) (v := (.int (1 : Int32))) (own_fn (own_fn (own_fn (own_fn (own_fn (own_fn (own_fn (own_fn (own_fn hF19))))))))) (hb hby d5_48) #[.val (.ref ob), .val (.long (0 : Int64)), .second, .val (.int va), .val (.long vk), .second, .val (.int (1 : Int32))] [(.int (1 : Int32)), (.ref (A 12))]
  obtain ⟨T12, h12, l12, X12, e12, N12, P12, st12⟩ := own_ist X11 hx hZ e11 N9 P9 12 2 (j := (2 : Int32)) (x := va) (hb hby d5_53) #[.val (.ref ob), .val (.long (0 : Int64)), .second, .val (.int va), .val (.long vk), .second, .val (.int (1 : Int32))] [] (by omega)
  obtain ⟨T13, X13, e13, st13⟩ := own_gf X12 hx hZ hown e12 P12 13 (own_w hw 96) (v := (.ref (A 13))) (P12.2.2.2.1 13 (by omega)) (hb hby d5_55) #[.val (.ref ob), .val (.long (0 : Int64)), .second, .val (.int va), .val (.long vk), .second, .val (.int (1 : Int32))] []
  obtain ⟨T14, X14, e14, st14⟩ := own_gf X13 hx hZ hown e13 P12 13 (own_w hw 96) (v := (.ref (A 13))) (P12.2.2.2.1 13 (by omega)) (hb hby d5_62) #[.val (.ref ob), .val (.long (0 : Int64)), .second, .val (.int va), .val (.long vk), .second, .val (.int (1 : Int32))] []
  obtain ⟨T15, X15, e15, st15⟩ := own_gf X14 hx hZ hown e14 P12 19 (own_w hw 54) (v := (.int (1 : Int32))) (own_fn (own_fn (own_fn (own_fn (own_fn (own_fn (own_fn (own_fn (own_fn hF19))))))))) (hb hby d5_68) #[.val (.ref ob), .val (.long (0 : Int64)), .second, .val (.int va), .val (.long vk), .second, .val (.int (1 : Int32))] [(.int (1 : Int32)), (.ref (A 13))]
  obtain ⟨T16, h16, l16, X16, e16, N16, P16, st16⟩ := own_lst X15 hx hZ e15 N12 P12 13 2 (j := (2 : Int32)) (x := vk) (hb hby d5_74) #[.val (.ref ob), .val (.long (0 : Int64)), .second, .val (.int va), .val (.long vk), .second, .val (.int (1 : Int32))] [] (by omega)
  obtain ⟨T17, X17, e17, st17⟩ := own_gf X16 hx hZ hown e16 P16 2 (own_w hw 60) (v := (.ref (A 2))) (P16.2.2.2.1 2 (by omega)) (hb hby d5_76) #[.val (.ref ob), .val (.long (0 : Int64)), .second, .val (.int va), .val (.long vk), .second, .val (.int (1 : Int32))] []
  obtain ⟨T18, h18, l18, X18, e18, N18, P18, st18⟩ := own_ist X17 hx hZ e17 N16 P16 2 1 (j := (1 : Int32)) (x := (0 : Int32)) (hb hby d5_82) #[.val (.ref ob), .val (.long (0 : Int64)), .second, .val (.int va), .val (.long vk), .second, .val (.int (1 : Int32))] [] (by omega)
  obtain ⟨T19, X19, e19, st19⟩ := own_gf X18 hx hZ hown e18 P18 3 (own_w hw 62) (v := (.ref (A 3))) (P18.2.2.2.1 3 (by omega)) (hb hby d5_84) #[.val (.ref ob), .val (.long (0 : Int64)), .second, .val (.int va), .val (.long vk), .second, .val (.int (1 : Int32))] []
  obtain ⟨T20, h20, l20, X20, e20, N20, P20, st20⟩ := own_ist X19 hx hZ e19 N18 P18 3 1 (j := (1 : Int32)) (x := (0 : Int32)) (hb hby d5_90) #[.val (.ref ob), .val (.long (0 : Int64)), .second, .val (.int va), .val (.long vk), .second, .val (.int (1 : Int32))] [] (by omega)
  obtain ⟨T21, h21, l21, X21, e21, N21, P21, st21⟩ := own_pp X20 hx hZ hw hown e20 N20 P20 23 (own_w hw 140) (Or.inl (own_w hw 141)) (v := (.int (1 : Int32))) (hb hby d5_94) #[.val (.ref ob), .val (.long (0 : Int64)), .second, .val (.int va), .val (.long vk), .second, .val (.int (1 : Int32))] [] rfl rfl (by omega)
  obtain ⟨T22, h22, l22, X22, e22, N22, P22, st22⟩ := own_pp X21 hx hZ hw hown e21 N21 P21 24 (own_w hw 142) (Or.inl (own_w hw 143)) (v := (.int (1 : Int32))) (hb hby d5_100) #[.val (.ref ob), .val (.long (0 : Int64)), .second, .val (.int va), .val (.long vk), .second, .val (.int (1 : Int32))] [] rfl rfl (by omega)
  obtain ⟨T23, h23, l23, X23, e23, N23, P23, st23⟩ := own_pp X22 hx hZ hw hown e22 N22 P22 25 (own_w hw 144) (Or.inl (own_w hw 145)) (v := (.int (1 : Int32))) (hb hby d5_106) #[.val (.ref ob), .val (.long (0 : Int64)), .second, .val (.int va), .val (.long vk), .second, .val (.int (1 : Int32))] [] rfl rfl (by omega)
  obtain ⟨T24, X24, e24, st24⟩ := own_gf X23 hx hZ hown e23 P23 19 (own_w hw 54) (v := (.int (1 : Int32))) (own_fn (own_fn (own_fn (own_fn (own_fn (own_fn (own_fn (own_fn (own_fn (own_fn (own_fn (own_fn hF19)))))))))))) (hb hby d5_113) #[.val (.ref ob), .val (.long (0 : Int64)), .second, .val (.int va), .val (.long vk), .second, .val (.int (1 : Int32))] [(.int (1 : Int32)), (.ref ob)]
  obtain ⟨T25, h25, l25, X25, e25, N25, P25, st25⟩ := own_pp X24 hx hZ hw hown e24 N23 P23 26 (own_w hw 146) (Or.inl (own_w hw 147)) (v := (.int (2 : Int32))) (hb hby d5_117) #[.val (.ref ob), .val (.long (0 : Int64)), .second, .val (.int va), .val (.long vk), .second, .val (.int (1 : Int32))] [] rfl rfl (by omega)
  obtain ⟨T26, X26, e26, st26⟩ := own_gf X25 hx hZ hown e25 P25 7 (own_w hw 76) (v := (.ref (A 7))) (P25.2.2.2.1 7 (by omega)) (hb hby d5_121) #[.val (.ref ob), .val (.long (0 : Int64)), .second, .val (.int va), .val (.long vk), .second, .val (.int (1 : Int32))] []
  obtain ⟨T27, h27, l27, X27, e27, N27, P27, st27⟩ := own_zst X26 hx hZ e26 N25 P25 7 1 (j := (1 : Int32)) (hb hby d5_127) #[.val (.ref ob), .val (.long (0 : Int64)), .second, .val (.int va), .val (.long vk), .second, .val (.int (1 : Int32))] [] (by omega)
  obtain ⟨T28, X28, e28, st28⟩ := own_gf X27 hx hZ hown e27 P27 9 (own_w hw 84) (v := (.ref (A 9))) (P27.2.2.2.1 9 (by omega)) (hb hby d5_129) #[.val (.ref ob), .val (.long (0 : Int64)), .second, .val (.int va), .val (.long vk), .second, .val (.int (1 : Int32))] []
  obtain ⟨T29, h29, l29, X29, e29, N29, P29, st29⟩ := own_zst X28 hx hZ e28 N27 P27 9 1 (j := (1 : Int32)) (hb hby d5_135) #[.val (.ref ob), .val (.long (0 : Int64)), .second, .val (.int va), .val (.long vk), .second, .val (.int (1 : Int32))] [] (by omega)
  obtain ⟨cq30, kq30, q30a, q30b, q30c⟩ := isOf hZ e29 P29.1
  obtain ⟨_, _, ⟨T30, L30, k30, n30⟩, -, X30, ⟨Lc30, hQ30, l30, y30, z30⟩, st30⟩ := X29.virtualBackUp hx (x := own_y24) (y := own_y23) (owner := "com/example/jobwright/jobwright/policies/Treap") hown (mvT hZ (own_w hw 148)) (mvT hZ (own_w hw 149)) (mvT hZ (own_w hw 150)) (by decide) (mvT hZ (own_w hw 152)) (mvT hZ (own_w hw 151)) (backOf (W := 0) (rm12_1 l Z a0 hw [] ob va vk h29 n0 P29 hA hB hM (own_fn (own_fn (own_fn (own_fn (own_fn (own_fn (own_fn (own_fn (own_fn (own_fn (own_fn (own_fn (own_fn hF19))))))))))))) (own_fn (own_fn (own_fn (own_fn (own_fn (own_fn (own_fn (own_fn (own_fn (own_fn (own_fn (own_fn (own_up_eq _ _ _))))))))))))) (own_fn (own_fn (own_fn (own_fn (own_fn (own_fn (own_fn (own_fn (own_fn (own_fn (own_fn (own_up_eq _ _ _)))))))))))) (own_vn (own_vn (own_vn (own_vn (own_vn (own_vn (own_vn (own_vn (own_vi (own_vi (own_ve (own_len P 0 (by omega) 4 (by decide))))))))))))) (own_vn (own_vn (own_vn (own_vn (own_vn (own_vn (own_vn (own_vn (own_vi (own_ve (own_vl (own_len P 0 (by omega) 5 (by decide))))))))))))) (own_vn (own_vn (own_vn (own_vn (own_vn (own_vn (own_vn (own_vn (own_vn (own_vn (own_vn hV5_0))))))))))) (own_vn (own_vn (own_vn (own_vn (own_vn (own_vn (own_vn (own_ve (own_vl (own_vl (own_vl (own_len P 1 (by omega) 1 (by decide))))))))))))) (own_vn (own_vn (own_vn (own_vn (own_vn (own_ve (own_vl (own_vl (own_vl (own_vl (own_vl (own_len P 12 (by omega) 2 (by decide))))))))))))) (own_vn (own_vn (own_vn (own_vn (own_vn (own_vn (own_vn (own_vn (own_vn (own_vn (own_vn hV6_0))))))))))) (own_vn (own_vn (own_vn (own_vn (own_ve (own_vl (own_vl (own_vl (own_vl (own_vl (own_vl (own_len P 13 (by omega) 2 (by decide))))))))))))) ) hZ (own_w hw 153) (own_w hw 9) (by decide) (by decide)) q30a q30c (g := (mkF m 139 #[.val (.ref ob), .val (.long (0 : Int64)), .second, .val (.int va), .val (.long vk), .second, .val (.int (1 : Int32))] [(.int (1 : Int32)), (.ref ob)])) rfl (by rw [hml]; rfl) (Steps.refl _) (argsL := [(.int (1 : Int32))]) (rest := []) (lenOf own_pd0 rfl) rfl (by show 2 * 0 + _ ≤ _; exact Nat.le_of_eq rfl) (hb hby d5_139) (fun _ _ => ⟨rfl, e29, (by decide : 0 + 0 ≤ _), (by decide : 0 + 0 ≤ _)⟩)
  dsimp only [Pt.U, Pt.locs, Pt.cells, Pt.slots] at X30 l30 y30 z30 st30 hQ30
  subst l30 y30 z30
  obtain ⟨rfl, Nq30, P30⟩ := hQ30
  have N30 := Fr.app N29 Nq30
  obtain ⟨fs, hr, hrun, hended, hW, hsame⟩ := X30.leave (v := none) (fun _ => rfl)
  refine ⟨_, _, castTop ef ?_, hrun, hended, _, _, rfl, ?_, ⟨_, rfl⟩, hW, hsame.mono (by decide) (by decide)⟩
  · refine s_aloadN X0 hx (hb hby d5_0) rfl rfl ?_
    refine st1.trans ?_
    refine s_aloadN X1 hx (hb hby d5_4) rfl rfl ?_
    refine s_iconst X1 hx (0 : Int32) (hb hby d5_5) rfl ?_
    refine st2 _ ?_
    refine s_aloadN X2 hx (hb hby d5_9) rfl rfl ?_
    refine st3.trans ?_
    refine s_istore X3 hx #[.val (.ref ob), .val (.long (0 : Int64)), .second, .val (.int va), .val (.long vk), .second, .val (.int (1 : Int32))] (hb hby d5_13) rfl ?_
    refine s_aloadN X3 hx (hb hby d5_15) rfl rfl ?_
    refine st4 _ ?_
    refine s_iload X4 hx (hb hby d5_19) rfl ?_
    refine s_iconst X4 hx (1 : Int32) (hb hby d5_21) rfl ?_
    refine st5 _ ?_
    refine s_aloadN X5 hx (hb hby d5_23) rfl rfl ?_
    refine st6 _ ?_
    refine s_iload X6 hx (hb hby d5_27) rfl ?_
    refine s_aloadN X6 hx (hb hby d5_29) rfl rfl ?_
    refine st7 _ ?_
    refine s_ishl X7 hx (2 : Int32) (hb hby d5_33) (by decide) ?_
    refine s_lloadN X7 hx (hb hby d5_34) rfl ?_
    refine s_aloadN X7 hx (hb hby d5_35) rfl rfl ?_
    refine st8 _ ?_
    refine s_lsub X8 hx (0 : Int64) (hb hby d5_39) (by decide) ?_
    refine st9 _ ?_
    refine s_aloadN X9 hx (hb hby d5_41) rfl rfl ?_
    refine st10 _ ?_
    refine s_iload X10 hx (hb hby d5_45) rfl ?_
    refine s_aloadN X10 hx (hb hby d5_47) rfl rfl ?_
    refine st11 _ ?_
    refine s_ishl X11 hx (2 : Int32) (hb hby d5_51) (by decide) ?_
    refine s_iloadN X11 hx (hb hby d5_52) rfl ?_
    refine st12 _ ?_
    refine s_aloadN X12 hx (hb hby d5_54) rfl rfl ?_
    refine st13 _ ?_
    refine s_nullN X13 hx (hb hby d5_58) ?_
    refine s_aloadN X13 hx (hb hby d5_61) rfl rfl ?_
    refine st14 _ ?_
    refine s_iload X14 hx (hb hby d5_65) rfl ?_
    refine s_aloadN X14 hx (hb hby d5_67) rfl rfl ?_
    refine st15 _ ?_
    refine s_ishl X15 hx (2 : Int32) (hb hby d5_71) (by decide) ?_
    refine s_lload X15 hx (hb hby d5_72) rfl ?_
    refine st16 _ ?_
    refine s_aloadN X16 hx (hb hby d5_75) rfl rfl ?_
    refine st17 _ ?_
    refine s_iload X17 hx (hb hby d5_79) rfl ?_
    refine s_iconst X17 hx (0 : Int32) (hb hby d5_81) rfl ?_
    refine st18 _ ?_
    refine s_aloadN X18 hx (hb hby d5_83) rfl rfl ?_
    refine st19 _ ?_
    refine s_iload X19 hx (hb hby d5_87) rfl ?_
    refine s_iconst X19 hx (0 : Int32) (hb hby d5_89) rfl ?_
    refine st20 _ ?_
    refine s_aloadN X20 hx (hb hby d5_91) rfl rfl ?_
    refine s_iload X20 hx (hb hby d5_92) rfl ?_
    refine st21 _ ?_
    refine s_aloadN X21 hx (hb hby d5_97) rfl rfl ?_
    refine s_iload X21 hx (hb hby d5_98) rfl ?_
    refine st22 _ ?_
    refine s_aloadN X22 hx (hb hby d5_103) rfl rfl ?_
    refine s_iload X22 hx (hb hby d5_104) rfl ?_
    refine st23 _ ?_
    refine s_aloadN X23 hx (hb hby d5_109) rfl rfl ?_
    refine s_iload X23 hx (hb hby d5_110) rfl ?_
    refine s_aloadN X23 hx (hb hby d5_112) rfl rfl ?_
    refine st24 _ ?_
    refine s_ishl X24 hx (2 : Int32) (hb hby d5_116) (by decide) ?_
    refine st25 _ ?_
    refine s_aloadN X25 hx (hb hby d5_120) rfl rfl ?_
    refine st26 _ ?_
    refine s_iload X26 hx (hb hby d5_124) rfl ?_
    refine s_iconst X26 hx (1 : Int32) (hb hby d5_126) rfl ?_
    refine st27 _ ?_
    refine s_aloadN X27 hx (hb hby d5_128) rfl rfl ?_
    refine st28 _ ?_
    refine s_iload X28 hx (hb hby d5_132) rfl ?_
    refine s_iconst X28 hx (1 : Int32) (hb hby d5_134) rfl ?_
    refine st29 _ ?_
    refine s_aloadN X29 hx (hb hby d5_136) rfl rfl ?_
    refine s_iload X29 hx (hb hby d5_137) rfl ?_
    refine st30.trans ?_
    exact X30.returnOut hx Bd.returns (hb hby d5_142) hr
  · show ((_ : Option Value) = none ∧ Fr n0 _ ∧ own_PS Z T30.heap n0 ob nA A (own_up (own_up (own_up (own_up (own_up (own_up (own_up (own_up (own_up (own_up (own_up (own_up (own_up (own_up (own_up (own_up F 14 (.int (0 : Int32))) 15 (.int (0 : Int32))) 16 (.int (0 : Int32))) 17 (.int (1 : Int32))) 21 (.int (0 : Int32))) 17 (.int (2 : Int32))) 18 (.long (8142603028701699093 : Int64))) 18 (.long (8206217113781226925 : Int64))) 18 (.long (-2586341971585708627 : Int64))) 23 (.int (1 : Int32))) 24 (.int (1 : Int32))) 25 (.int (1 : Int32))) 26 (.int (2 : Int32))) 27 (.int (0 : Int32))) 14 (.int (1 : Int32))) 15 (.int (1 : Int32))) (own_vs (own_vs (own_vs (own_vs (own_vs (own_vs (own_vs (own_vs (own_vs (own_vs (own_vs (own_vs (own_vs (own_vs (own_vs (own_vs V 0 4 (.int (0 : Int32))) 0 5 (.int (0 : Int32))) 0 6 (.int (1846393815 : Int32))) 1 1 (.int (1 : Int32))) 11 2 (.long (0 : Int64))) 12 2 (.int va)) 13 2 (.long vk)) 2 1 (.int (0 : Int32))) 3 1 (.int (0 : Int32))) 7 1 (.int (1 : Int32))) 9 1 (.int (1 : Int32))) 5 1 (.int (((0 : Int32) + va) + (0 : Int32)))) 6 1 (.long (((0 : Int64) + vk) + (0 : Int64)))) 4 1 (.int (1 : Int32))) 8 1 (.int (1 : Int32))) 10 1 (.int (1 : Int32))))
    exact ⟨rfl, N30, P30⟩
set_option maxRecDepth 65536 in
set_option maxHeartbeats 40000000 in
theorem rm20_1 (l : Launch) (Z : State) (a0 : Array Value) (hw : own_HW Z a0) (ws : List Jvm.Cond) {nA : Nat} {A : Nat → Addr} {F : Nat → Value} {V : Nat → List Value} (ob : Addr)  (h0 : Heap) (n0 : Nat) (P : own_PS Z h0 n0 ob nA A F V) (hA : 13 ≤ nA) (hB : nA ≤ 14) (hF23 : F 23 = (.int (1 : Int32))) (hF19 : F 19 = (.int (1 : Int32))) :
    own_C l Z own_y25 bc20 1 (some .int) ws 0 0 #[(.ref ob)] h0 (fun v h L => (v = some (.int (2 : Int32)) ∧ Fr n0 L ∧ h = h0)) := by
  refine MetFree.of_bodySF (plainFor_of_name own_pn2) hisR ?_
  intro p e s m args below meth c s₁ Bd hml0 hP hK
  obtain ⟨rfl, hZ, hh⟩ := hP
  have hx := Bd.exec
  have hby := Bd.bytes
  have hml : c.maxLocals = 1 := hml0
  have hown : s.vm.findClass "com/example/jobwright/jobwright/policies/ProfileSteps" = some m.cls := findClass_of_methodNamed Bd.named
  have X0 : Stand p l e ({ frames := 0, cells := 0, slots := 0, locals := 0 } : Room) s m #[(.ref ob)] below meth c s₁ [] 0 0 := Stand.of_body Bd
  have e0 : s₁.heap = h0 := by rw [← hh, Bd.state]; rfl
  have N0 := Fr.nil n0
  have ef : entryFrame m #[(.ref ob)] 1 = mkF m 0 #[.val (.ref ob)] [] := by first | (simp [entryFrame, mkF, argsToLocals, Value.category]; done) | rfl
  obtain ⟨T1, X1, e1, st1⟩ := own_gf X0 hx hZ hown e0 P 23 (own_w hw 140) (v := (.int (1 : Int32))) hF23 (hb hby d20_1) #[.val (.ref ob)] []
  obtain ⟨T2, X2, e2, st2⟩ := own_gf X1 hx hZ hown e1 P 19 (own_w hw 54) (v := (.int (1 : Int32))) hF19 (hb hby d20_5) #[.val (.ref ob)] [(.int (1 : Int32))]
  obtain ⟨fs, hr, hrun, hended, hW, hsame⟩ := X2.leave (v := some (.int (2 : Int32))) (fun h => by rw [Bd.returns] at h; cases h)
  refine ⟨_, _, castTop ef ?_, hrun, hended, _, _, rfl, ?_, ⟨_, rfl⟩, hW, hsame.mono (by decide) (by decide)⟩
  · refine s_aloadN X0 hx (hb hby d20_0) rfl rfl ?_
    refine st1 _ ?_
    refine s_aloadN X1 hx (hb hby d20_4) rfl rfl ?_
    refine st2 _ ?_
    refine s_ishl X2 hx (2 : Int32) (hb hby d20_8) (by decide) ?_
    exact retI X2 hx Bd.returns (hb hby d20_9) hr
  · show ((_ : Option Value) = some (.int (2 : Int32)) ∧ Fr n0 _ ∧ T2.heap = h0)
    rw [e2]
    exact ⟨rfl, N0, rfl⟩
set_option maxRecDepth 65536 in
set_option maxHeartbeats 40000000 in
theorem rm22_1 (l : Launch) (Z : State) (a0 : Array Value) (hw : own_HW Z a0) (ws : List Jvm.Cond) {nA : Nat} {A : Nat → Addr} {F : Nat → Value} {V : Nat → List Value} (ob : Addr)  (h0 : Heap) (n0 : Nat) (P : own_PS Z h0 n0 ob nA A F V) (hA : 13 ≤ nA) (hB : nA ≤ 14) (hV7_1 : (V 7).getD 1 (own_aZ 7) = (.int (1 : Int32))) (hV9_1 : (V 9).getD 1 (own_aZ 9) = (.int (1 : Int32))) :
    own_C l Z own_y26 bc22 5 none ws 0 0 #[(.ref ob), (.int (1 : Int32))] h0 (fun v h L => (v = none ∧ Fr n0 L ∧ h = h0)) := by
  refine MetFree.of_bodySF (plainFor_of_name own_pn2) hisR ?_
  intro p e s m args below meth c s₁ Bd hml0 hP hK
  obtain ⟨rfl, hZ, hh⟩ := hP
  have hx := Bd.exec
  have hby := Bd.bytes
  have hml : c.maxLocals = 5 := hml0
  have hown : s.vm.findClass "com/example/jobwright/jobwright/policies/ProfileSteps" = some m.cls := findClass_of_methodNamed Bd.named
  have X0 : Stand p l e ({ frames := 0, cells := 0, slots := 0, locals := 0 } : Room) s m #[(.ref ob), (.int (1 : Int32))] below meth c s₁ [] 0 0 := Stand.of_body Bd
  have e0 : s₁.heap = h0 := by rw [← hh, Bd.state]; rfl
  have N0 := Fr.nil n0
  have ef : entryFrame m #[(.ref ob), (.int (1 : Int32))] 5 = mkF m 0 #[.val (.ref ob), .val (.int (1 : Int32)), .unset, .unset, .unset] [] := by first | (simp [entryFrame, mkF, argsToLocals, Value.category]; done) | rfl
  obtain ⟨T1, X1, e1, st1⟩ := own_gf X0 hx hZ hown e0 P 7 (own_w hw 76) (v := (.ref (A 7))) (P.2.2.2.1 7 (by omega)) (hb hby d22_1) #[.val (.ref ob), .val (.int (1 : Int32)), .unset, .unset, .unset] []
  obtain ⟨T2, X2, e2, st2⟩ := own_gf X1 hx hZ hown e1 P 9 (own_w hw 84) (v := (.ref (A 9))) (P.2.2.2.1 9 (by omega)) (hb hby d22_10) #[.val (.ref ob), .val (.int (1 : Int32)), .unset, .unset, .unset] []
  obtain ⟨fs, hr, hrun, hended, hW, hsame⟩ := X2.leave (v := none) (fun _ => rfl)
  refine ⟨_, _, castTop ef ?_, hrun, hended, _, _, rfl, ?_, ⟨_, rfl⟩, hW, hsame.mono (by decide) (by decide)⟩
  · refine s_aloadN X0 hx (hb hby d22_0) rfl rfl ?_
    refine st1 _ ?_
    refine s_iloadN X1 hx (hb hby d22_4) rfl ?_
    refine own_zal X1 hx hZ e1 P 7 1 (v := (.int (1 : Int32))) hV7_1 (hb hby d22_5) (by omega) ?_
    refine s_ifN X1 hx (hb hby d22_6) (by decide) ?_
    refine s_aloadN X1 hx (hb hby d22_9) rfl rfl ?_
    refine st2 _ ?_
    refine s_iloadN X2 hx (hb hby d22_13) rfl ?_
    refine own_zal X2 hx hZ e2 P 9 1 (v := (.int (1 : Int32))) hV9_1 (hb hby d22_14) (by omega) ?_
    refine s_ifN X2 hx (hb hby d22_15) (by decide) ?_
    exact X2.returnOut hx Bd.returns (hb hby d22_18) hr
  · show ((_ : Option Value) = none ∧ Fr n0 _ ∧ T2.heap = h0)
    rw [e2]
    exact ⟨rfl, N0, rfl⟩
set_option maxRecDepth 65536 in
set_option maxHeartbeats 40000000 in
theorem rm21_1 (l : Launch) (Z : State) (a0 : Array Value) (hw : own_HW Z a0) (ws : List Jvm.Cond) {nA : Nat} {A : Nat → Addr} {F : Nat → Value} {V : Nat → List Value} (ob : Addr) (va : Int32) (vk : Int64) (h0 : Heap) (n0 : Nat) (P : own_PS Z h0 n0 ob nA A F V) (hA : 13 ≤ nA) (hB : nA ≤ 14) (hM : nA = 14) (hF19 : F 19 = (.int (1 : Int32))) (hF20 : F 20 = (.int (2 : Int32))) (hF22 : F 22 = (.long (0 : Int64))) (hV1_1 : (V 1).getD 1 (own_aZ 1) = (.int (1 : Int32))) (hV12_2 : (V 12).getD 2 (own_aZ 12) = (.int va)) (hV13_2 : (V 13).getD 2 (own_aZ 13) = (.long vk)) (hV7_1 : (V 7).getD 1 (own_aZ 7) = (.int (1 : Int32))) (hV9_1 : (V 9).getD 1 (own_aZ 9) = (.int (1 : Int32))) :
    own_C l Z own_y27 bc21 11 (some .int) ws 1 31 #[(.ref ob), (.int (2 : Int32)), (.long (10 : Int64))] h0 (fun v h L => (v = some (.int (3 : Int32)) ∧ Fr n0 L ∧ own_PS Z h n0 ob nA A F (own_vs (own_vs (own_vs (own_vs V 11 3 (.long (10 : Int64))) 12 3 (.int va)) 13 3 (.long vk)) 1 1 (.int (2 : Int32))))) := by
  refine MetFree.of_bodySF (plainFor_of_name own_pn2) hisR ?_
  intro p e s m args below meth c s₁ Bd hml0 hP hK
  obtain ⟨rfl, hZ, hh⟩ := hP
  have hx := Bd.exec
  have hby := Bd.bytes
  have hml : c.maxLocals = 11 := hml0
  have hown : s.vm.findClass "com/example/jobwright/jobwright/policies/ProfileSteps" = some m.cls := findClass_of_methodNamed Bd.named
  have X0 : Stand p l e ({ frames := 1, cells := 0, slots := 0, locals := 31 } : Room) s m #[(.ref ob), (.int (2 : Int32)), (.long (10 : Int64))] below meth c s₁ [] 0 0 := Stand.of_body Bd
  have e0 : s₁.heap = h0 := by rw [← hh, Bd.state]; rfl
  have N0 := Fr.nil n0
  have ef : entryFrame m #[(.ref ob), (.int (2 : Int32)), (.long (10 : Int64))] 11 = mkF m 0 #[.val (.ref ob), .val (.int (2 : Int32)), .val (.long (10 : Int64)), .second, .unset, .unset, .unset, .unset, .unset, .unset, .unset] [] := by first | (simp [entryFrame, mkF, argsToLocals, Value.category]; done) | rfl
  obtain ⟨T1, X1, e1, st1⟩ := own_gf X0 hx hZ hown e0 P 19 (own_w hw 54) (v := (.int (1 : Int32))) hF19 (hb hby d21_2) #[.val (.ref ob), .val (.int (2 : Int32)), .val (.long (10 : Int64)), .second, .unset, .unset, .unset, .unset, .unset, .unset, .unset] [(.int (2 : Int32))]
  obtain ⟨T2, X2, e2, st2⟩ := own_gf X1 hx hZ hown e1 P 19 (own_w hw 54) (v := (.int (1 : Int32))) hF19 (hb hby d21_12) #[.val (.ref ob), .val (.int (2 : Int32)), .val (.long (10 : Int64)), .second, .val (.int (1 : Int32)), .unset, .unset, .unset, .unset, .unset, .unset] [(.int (1 : Int32)), (.int (2 : Int32))]
  obtain ⟨T3, X3, e3, st3⟩ := own_gf X2 hx hZ hown e2 P 20 (own_w hw 56) (v := (.int (2 : Int32))) hF20 (hb hby d21_24) #[.val (.ref ob), .val (.int (2 : Int32)), .val (.long (10 : Int64)), .second, .val (.int (1 : Int32)), .val (.int (1 : Int32)), .unset, .unset, .unset, .unset, .unset] [(.int (1 : Int32))]
  obtain ⟨T4, X4, e4, st4⟩ := own_gf X3 hx hZ hown e3 P 1 (own_w hw 58) (v := (.ref (A 1))) (P.2.2.2.1 1 (by omega)) (hb hby d21_121) #[.val (.ref ob), .val (.int (2 : Int32)), .val (.long (10 : Int64)), .second, .val (.int (1 : Int32)), .val (.int (1 : Int32)), .unset, .unset, .unset, .unset, .unset] []
  obtain ⟨T5, X5, e5, st5⟩ := own_gf X4 hx hZ hown e4 P 20 (own_w hw 56) (v := (.int (2 : Int32))) hF20 (hb hby d21_128) #[.val (.ref ob), .val (.int (2 : Int32)), .val (.long (10 : Int64)), .second, .val (.int (1 : Int32)), .val (.int (1 : Int32)), .unset, .unset, .unset, .unset, .unset] [(.int (1 : Int32))]
  obtain ⟨T6, X6, e6, st6⟩ := own_gf X5 hx hZ hown e5 P 19 (own_w hw 54) (v := (.int (1 : Int32))) hF19 (hb hby d21_289) #[.val (.ref ob), .val (.int (2 : Int32)), .val (.long (10 : Int64)), .second, .val (.int (1 : Int32)), .val (.int (1 : Int32)), .unset, .unset, .unset, .unset, .unset] [(.int (1 : Int32))]
  obtain ⟨T7, X7, e7, st7⟩ := own_gf X6 hx hZ hown e6 P 11 (own_w hw 92) (v := (.ref (A 11))) (P.2.2.2.1 11 (by omega)) (hb hby d21_296) #[.val (.ref ob), .val (.int (2 : Int32)), .val (.long (10 : Int64)), .second, .val (.int (1 : Int32)), .val (.int (1 : Int32)), .val (.int (2 : Int32)), .unset, .unset, .unset, .unset] []
  obtain ⟨T8, X8, e8, st8⟩ := own_gf X7 hx hZ hown e7 P 11 (own_w hw 92) (v := (.ref (A 11))) (P.2.2.2.1 11 (by omega)) (hb hby d21_305) #[.val (.ref ob), .val (.int (2 : Int32)), .val (.long (10 : Int64)), .second, .val (.int (1 : Int32)), .val (.int (1 : Int32)), .val (.int (2 : Int32)), .unset, .unset, .unset, .unset] [(.int (3 : Int32)), (.ref (A 11))]
  obtain ⟨T9, X9, e9, st9⟩ := own_gf X8 hx hZ hown e8 P 1 (own_w hw 58) (v := (.ref (A 1))) (P.2.2.2.1 1 (by omega)) (hb hby d21_316) #[.val (.ref ob), .val (.int (2 : Int32)), .val (.long (10 : Int64)), .second, .val (.int (1 : Int32)), .val (.int (1 : Int32)), .val (.int (2 : Int32)), .unset, .unset, .unset, .unset] [(.int (4 : Int32)), (.ref (A 11)), (.int (3 : Int32)), (.ref (A 11))]
  obtain ⟨T10, h10, l10, X10, e10, N10, P10, st10⟩ := own_cp X9 hx hZ hw hown e9 N0 P 11 (sp := (3 : Int32)) (dp := (4 : Int32)) (hb hby d21_325) #[.val (.ref ob), .val (.int (2 : Int32)), .val (.long (10 : Int64)), .second, .val (.int (1 : Int32)), .val (.int (1 : Int32)), .val (.int (2 : Int32)), .unset, .unset, .unset, .unset] [] (by omega) rfl (by decide) (by decide) (by decide) (by decide) (by rw [hml]; rfl) rfl (by decide) (by decide)
  obtain ⟨T11, X11, e11, st11⟩ := own_gf X10 hx hZ hown e10 P10 12 (own_w hw 94) (v := (.ref (A 12))) (P10.2.2.2.1 12 (by omega)) (hb hby d21_329) #[.val (.ref ob), .val (.int (2 : Int32)), .val (.long (10 : Int64)), .second, .val (.int (1 : Int32)), .val (.int (1 : Int32)), .val (.int (2 : Int32)), .unset, .unset, .unset, .unset] []
  obtain ⟨T12, X12, e12, st12⟩ := own_gf X11 hx hZ hown e11 P10 12 (own_w hw 94) (v := (.ref (A 12))) (P10.2.2.2.1 12 (by omega)) (hb hby d21_338) #[.val (.ref ob), .val (.int (2 : Int32)), .val (.long (10 : Int64)), .second, .val (.int (1 : Int32)), .val (.int (1 : Int32)), .val (.int (2 : Int32)), .unset, .unset, .unset, .unset] [(.int (3 : Int32)), (.ref (A 12))]
  obtain ⟨T13, X13, e13, st13⟩ := own_gf X12 hx hZ hown e12 P10 1 (own_w hw 58) (v := (.ref (A 1))) (P10.2.2.2.1 1 (by omega)) (hb hby d21_349) #[.val (.ref ob), .val (.int (2 : Int32)), .val (.long (10 : Int64)), .second, .val (.int (1 : Int32)), .val (.int (1 : Int32)), .val (.int (2 : Int32)), .unset, .unset, .unset, .unset] [(.int (4 : Int32)), (.ref (A 12)), (.int (3 : Int32)), (.ref (A 12))]
  obtain ⟨T14, h14, l14, X14, e14, N14, P14, st14⟩ := own_cp X13 hx hZ hw hown e13 N10 P10 12 (sp := (3 : Int32)) (dp := (4 : Int32)) (hb hby d21_358) #[.val (.ref ob), .val (.int (2 : Int32)), .val (.long (10 : Int64)), .second, .val (.int (1 : Int32)), .val (.int (1 : Int32)), .val (.int (2 : Int32)), .unset, .unset, .unset, .unset] [] (by omega) rfl (by decide) (by decide) (by decide) (by decide) (by rw [hml]; rfl) rfl (by decide) (by decide)
  obtain ⟨T15, X15, e15, st15⟩ := own_gf X14 hx hZ hown e14 P14 11 (own_w hw 92) (v := (.ref (A 11))) (P14.2.2.2.1 11 (by omega)) (hb hby d21_362) #[.val (.ref ob), .val (.int (2 : Int32)), .val (.long (10 : Int64)), .second, .val (.int (1 : Int32)), .val (.int (1 : Int32)), .val (.int (2 : Int32)), .unset, .unset, .unset, .unset] []
  obtain ⟨T16, X16, e16, st16⟩ := own_gf X15 hx hZ hown e15 P14 22 (own_w hw 138) (v := (.long (0 : Int64))) hF22 (hb hby d21_372) #[.val (.ref ob), .val (.int (2 : Int32)), .val (.long (10 : Int64)), .second, .val (.int (1 : Int32)), .val (.int (1 : Int32)), .val (.int (2 : Int32)), .unset, .unset, .unset, .unset] [(.long (10 : Int64)), (.int (3 : Int32)), (.ref (A 11))]
  obtain ⟨T17, h17, l17, X17, e17, N17, P17, st17⟩ := own_lst X16 hx hZ e16 N14 P14 11 3 (j := (3 : Int32)) (x := (10 : Int64)) (hb hby d21_376) #[.val (.ref ob), .val (.int (2 : Int32)), .val (.long (10 : Int64)), .second, .val (.int (1 : Int32)), .val (.int (1 : Int32)), .val (.int (2 : Int32)), .unset, .unset, .unset, .unset] [] (by omega)
  obtain ⟨T18, X18, e18, st18⟩ := own_gf X17 hx hZ hown e17 P17 12 (own_w hw 94) (v := (.ref (A 12))) (P17.2.2.2.1 12 (by omega)) (hb hby d21_378) #[.val (.ref ob), .val (.int (2 : Int32)), .val (.long (10 : Int64)), .second, .val (.int (1 : Int32)), .val (.int (1 : Int32)), .val (.int (2 : Int32)), .unset, .unset, .unset, .unset] []
  obtain ⟨T19, X19, e19, st19⟩ := own_gf X18 hx hZ hown e18 P17 12 (own_w hw 94) (v := (.ref (A 12))) (P17.2.2.2.1 12 (by omega)) (hb hby d21_387) #[.val (.ref ob), .val (.int (2 : Int32)), .val (.long (10 : Int64)), .second, .val (.int (1 : Int32)), .val (.int (1 : Int32)), .val (.int (2 : Int32)), .unset, .unset, .unset, .unset] [(.int (3 : Int32)), (.ref (A 12))]
  obtain ⟨T20, h20, l20, X20, e20, N20, P20, st20⟩ := own_ist X19 hx hZ e19 N17 P17 12 3 (j := (3 : Int32)) (x := va) (hb hby d21_398) #[.val (.ref ob), .val (.int (2 : Int32)), .val (.long (10 : Int64)), .second, .val (.int (1 : Int32)), .val (.int (1 : Int32)), .val (.int (2 : Int32)), .unset, .unset, .unset, .unset] [] (by omega)
  obtain ⟨T21, X21, e21, st21⟩ := own_gf X20 hx hZ hown e20 P20 13 (own_w hw 96) (v := (.ref (A 13))) (P20.2.2.2.1 13 (by omega)) (hb hby d21_400) #[.val (.ref ob), .val (.int (2 : Int32)), .val (.long (10 : Int64)), .second, .val (.int (1 : Int32)), .val (.int (1 : Int32)), .val (.int (2 : Int32)), .unset, .unset, .unset, .unset] []
  obtain ⟨T22, X22, e22, st22⟩ := own_gf X21 hx hZ hown e21 P20 13 (own_w hw 96) (v := (.ref (A 13))) (P20.2.2.2.1 13 (by omega)) (hb hby d21_407) #[.val (.ref ob), .val (.int (2 : Int32)), .val (.long (10 : Int64)), .second, .val (.int (1 : Int32)), .val (.int (1 : Int32)), .val (.int (2 : Int32)), .unset, .unset, .unset, .unset] []
  obtain ⟨T23, X23, e23, st23⟩ := own_gf X22 hx hZ hown e22 P20 13 (own_w hw 96) (v := (.ref (A 13))) (P20.2.2.2.1 13 (by omega)) (hb hby d21_416) #[.val (.ref ob), .val (.int (2 : Int32)), .val (.long (10 : Int64)), .second, .val (.int (1 : Int32)), .val (.int (1 : Int32)), .val (.int (2 : Int32)), .unset, .unset, .unset, .unset] [(.int (3 : Int32)), (.ref (A 13))]
  obtain ⟨T24, X24, e24, st24⟩ := own_gf X23 hx hZ hown e23 P20 1 (own_w hw 58) (v := (.ref (A 1))) (P20.2.2.2.1 1 (by omega)) (hb hby d21_427) #[.val (.ref ob), .val (.int (2 : Int32)), .val (.long (10 : Int64)), .second, .val (.int (1 : Int32)), .val (.int (1 : Int32)), .val (.int (2 : Int32)), .unset, .unset, .unset, .unset] [(.int (4 : Int32)), (.ref (A 13)), (.int (3 : Int32)), (.ref (A 13))]
  obtain ⟨T25, h25, l25, X25, e25, N25, P25, st25⟩ := own_cp X24 hx hZ hw hown e24 N20 P20 13 (sp := (3 : Int32)) (dp := (4 : Int32)) (hb hby d21_436) #[.val (.ref ob), .val (.int (2 : Int32)), .val (.long (10 : Int64)), .second, .val (.int (1 : Int32)), .val (.int (1 : Int32)), .val (.int (2 : Int32)), .unset, .unset, .unset, .unset] [] (by omega) rfl (by decide) (by decide) (by decide) (by decide) (by rw [hml]; rfl) rfl (by decide) (by decide)
  obtain ⟨T26, X26, e26, st26⟩ := own_gf X25 hx hZ hown e25 P25 13 (own_w hw 96) (v := (.ref (A 13))) (P25.2.2.2.1 13 (by omega)) (hb hby d21_440) #[.val (.ref ob), .val (.int (2 : Int32)), .val (.long (10 : Int64)), .second, .val (.int (1 : Int32)), .val (.int (1 : Int32)), .val (.int (2 : Int32)), .unset, .unset, .unset, .unset] []
  obtain ⟨T27, X27, e27, st27⟩ := own_gf X26 hx hZ hown e26 P25 13 (own_w hw 96) (v := (.ref (A 13))) (P25.2.2.2.1 13 (by omega)) (hb hby d21_449) #[.val (.ref ob), .val (.int (2 : Int32)), .val (.long (10 : Int64)), .second, .val (.int (1 : Int32)), .val (.int (1 : Int32)), .val (.int (2 : Int32)), .unset, .unset, .unset, .unset] [(.int (3 : Int32)), (.ref (A 13))]
  obtain ⟨T28, h28, l28, X28, e28, N28, P28, st28⟩ := own_lst X27 hx hZ e27 N25 P25 13 3 (j := (3 : Int32)) (x := vk) (hb hby d21_460) #[.val (.ref ob), .val (.int (2 : Int32)), .val (.long (10 : Int64)), .second, .val (.int (1 : Int32)), .val (.int (1 : Int32)), .val (.int (2 : Int32)), .unset, .unset, .unset, .unset] [] (by omega)
  obtain ⟨T29, X29, e29, st29⟩ := own_gf X28 hx hZ hown e28 P28 1 (own_w hw 58) (v := (.ref (A 1))) (P28.2.2.2.1 1 (by omega)) (hb hby d21_462) #[.val (.ref ob), .val (.int (2 : Int32)), .val (.long (10 : Int64)), .second, .val (.int (1 : Int32)), .val (.int (1 : Int32)), .val (.int (2 : Int32)), .unset, .unset, .unset, .unset] []
  obtain ⟨T30, h30, l30, X30, e30, N30, P30, st30⟩ := own_ist X29 hx hZ e29 N28 P28 1 1 (j := (1 : Int32)) (x := (2 : Int32)) (hb hby d21_471) #[.val (.ref ob), .val (.int (2 : Int32)), .val (.long (10 : Int64)), .second, .val (.int (1 : Int32)), .val (.int (1 : Int32)), .val (.int (2 : Int32)), .unset, .unset, .unset, .unset] [] (by omega)
  obtain ⟨cq31, q31, q31'⟩ := P30.1.cell
  obtain ⟨_, _, ⟨T31, L31, k31, n31⟩, -, X31, ⟨Lc31, hQ31, l31, y31, z31⟩, st31⟩ := X30.privateBack hx (y := own_y26) hown (mvT hZ (own_w hw 204)) (mvT hZ (own_w hw 205)) (own_psel (z := own_y17) (mvT hZ (own_w hw 103)) (mvP hZ (own_w hw 206)) (mvT hZ (own_w hw 205)) rfl (by decide)) (Cond.privateMethod_at (mvP hZ (own_w hw 206) (args := #[]))) (mvT hZ (own_w hw 207)) (by decide) (backOf (W := 0) (rm22_1 l Z a0 hw [] ob  h30 n0 P30 hA hB  (own_vn (own_vn (own_vn (own_vn hV7_1)))) (own_vn (own_vn (own_vn (own_vn hV9_1)))) ) hZ (own_w hw 207) (own_w hw 2) (by decide) (by decide)) (g := (mkF m 475 #[.val (.ref ob), .val (.int (2 : Int32)), .val (.long (10 : Int64)), .second, .val (.int (1 : Int32)), .val (.int (1 : Int32)), .val (.int (2 : Int32)), .unset, .unset, .unset, .unset] [(.int (1 : Int32)), (.ref ob)])) rfl (by rw [hml]; rfl) (Steps.refl _) (a := ob) (by rw [e30]; exact q31) q31' (argsL := [(.int (1 : Int32))]) (rest := []) (lenOf own_pd0 rfl) rfl (by show 2 * 0 + _ ≤ _; exact Nat.le_of_eq rfl) (hb hby d21_475) (fun _ _ => ⟨rfl, e30, (by decide : 0 + 0 ≤ _), (by decide : 0 + 0 ≤ _)⟩)
  dsimp only [Pt.U, Pt.locs, Pt.cells, Pt.slots] at X31 l31 y31 z31 st31 hQ31
  subst l31 y31 z31
  obtain ⟨rfl, Nq31, eh31⟩ := hQ31
  have N31 := Fr.app N30 Nq31
  obtain ⟨fs, hr, hrun, hended, hW, hsame⟩ := X31.leave (v := some (.int (3 : Int32))) (fun h => by rw [Bd.returns] at h; cases h)
  refine ⟨_, _, castTop ef ?_, hrun, hended, _, _, rfl, ?_, ⟨_, rfl⟩, hW, hsame.mono (by decide) (by decide)⟩
  · refine s_iloadN X0 hx (hb hby d21_0) rfl ?_
    refine s_aloadN X0 hx (hb hby d21_1) rfl rfl ?_
    refine st1 _ ?_
    refine s_ishr X1 hx (1 : Int32) (hb hby d21_5) (by decide) ?_
    refine s_istore X1 hx #[.val (.ref ob), .val (.int (2 : Int32)), .val (.long (10 : Int64)), .second, .val (.int (1 : Int32)), .unset, .unset, .unset, .unset, .unset, .unset] (hb hby d21_6) rfl ?_
    refine s_iloadN X1 hx (hb hby d21_8) rfl ?_
    refine s_iload X1 hx (hb hby d21_9) rfl ?_
    refine s_aloadN X1 hx (hb hby d21_11) rfl rfl ?_
    refine st2 _ ?_
    refine s_ishl X2 hx (2 : Int32) (hb hby d21_15) (by decide) ?_
    refine s_isub X2 hx (0 : Int32) (hb hby d21_16) (by decide) ?_
    refine s_iconst X2 hx (1 : Int32) (hb hby d21_17) rfl ?_
    refine s_iadd X2 hx (1 : Int32) (hb hby d21_18) (by decide) ?_
    refine s_istore X2 hx #[.val (.ref ob), .val (.int (2 : Int32)), .val (.long (10 : Int64)), .second, .val (.int (1 : Int32)), .val (.int (1 : Int32)), .unset, .unset, .unset, .unset, .unset] (hb hby d21_19) rfl ?_
    refine s_iload X2 hx (hb hby d21_21) rfl ?_
    refine s_aloadN X2 hx (hb hby d21_23) rfl rfl ?_
    refine st3 _ ?_
    refine s_icmpY X3 hx 120 (hb hby d21_27) (by decide) (by decide) (by decide) ?_
    refine s_aloadN X3 hx (hb hby d21_120) rfl rfl ?_
    refine st4 _ ?_
    refine s_iload X4 hx (hb hby d21_124) rfl ?_
    refine own_ial X4 hx hZ e4 P 1 1 (v := (.int (1 : Int32))) hV1_1 (hb hby d21_126) (by omega) ?_
    refine s_aloadN X4 hx (hb hby d21_127) rfl rfl ?_
    refine st5 _ ?_
    refine s_icmpY X5 hx 286 (hb hby d21_131) (by decide) (by decide) (by decide) ?_
    refine s_iload X5 hx (hb hby d21_286) rfl ?_
    refine s_aloadN X5 hx (hb hby d21_288) rfl rfl ?_
    refine st6 _ ?_
    refine s_ishl X6 hx (2 : Int32) (hb hby d21_292) (by decide) ?_
    refine s_istore X6 hx #[.val (.ref ob), .val (.int (2 : Int32)), .val (.long (10 : Int64)), .second, .val (.int (1 : Int32)), .val (.int (1 : Int32)), .val (.int (2 : Int32)), .unset, .unset, .unset, .unset] (hb hby d21_293) rfl ?_
    refine s_aloadN X6 hx (hb hby d21_295) rfl rfl ?_
    refine st7 _ ?_
    refine s_iload X7 hx (hb hby d21_299) rfl ?_
    refine s_iload X7 hx (hb hby d21_301) rfl ?_
    refine s_iadd X7 hx (3 : Int32) (hb hby d21_303) (by decide) ?_
    refine s_aloadN X7 hx (hb hby d21_304) rfl rfl ?_
    refine st8 _ ?_
    refine s_iload X8 hx (hb hby d21_308) rfl ?_
    refine s_iload X8 hx (hb hby d21_310) rfl ?_
    refine s_iadd X8 hx (3 : Int32) (hb hby d21_312) (by decide) ?_
    refine s_iconst X8 hx (1 : Int32) (hb hby d21_313) rfl ?_
    refine s_iadd X8 hx (4 : Int32) (hb hby d21_314) (by decide) ?_
    refine s_aloadN X8 hx (hb hby d21_315) rfl rfl ?_
    refine st9 _ ?_
    refine s_iload X9 hx (hb hby d21_319) rfl ?_
    refine own_ial X9 hx hZ e9 P 1 1 (v := (.int (1 : Int32))) hV1_1 (hb hby d21_321) (by omega) ?_
    refine s_iload X9 hx (hb hby d21_322) rfl ?_
    refine s_isub X9 hx (0 : Int32) (hb hby d21_324) (by decide) ?_
    refine st10 _ ?_
    refine s_aloadN X10 hx (hb hby d21_328) rfl rfl ?_
    refine st11 _ ?_
    refine s_iload X11 hx (hb hby d21_332) rfl ?_
    refine s_iload X11 hx (hb hby d21_334) rfl ?_
    refine s_iadd X11 hx (3 : Int32) (hb hby d21_336) (by decide) ?_
    refine s_aloadN X11 hx (hb hby d21_337) rfl rfl ?_
    refine st12 _ ?_
    refine s_iload X12 hx (hb hby d21_341) rfl ?_
    refine s_iload X12 hx (hb hby d21_343) rfl ?_
    refine s_iadd X12 hx (3 : Int32) (hb hby d21_345) (by decide) ?_
    refine s_iconst X12 hx (1 : Int32) (hb hby d21_346) rfl ?_
    refine s_iadd X12 hx (4 : Int32) (hb hby d21_347) (by decide) ?_
    refine s_aloadN X12 hx (hb hby d21_348) rfl rfl ?_
    refine st13 _ ?_
    refine s_iload X13 hx (hb hby d21_352) rfl ?_
    refine own_ial X13 hx hZ e13 P10 1 1 (v := (.int (1 : Int32))) hV1_1 (hb hby d21_354) (by omega) ?_
    refine s_iload X13 hx (hb hby d21_355) rfl ?_
    refine s_isub X13 hx (0 : Int32) (hb hby d21_357) (by decide) ?_
    refine st14 _ ?_
    refine s_aloadN X14 hx (hb hby d21_361) rfl rfl ?_
    refine st15 _ ?_
    refine s_iload X15 hx (hb hby d21_365) rfl ?_
    refine s_iload X15 hx (hb hby d21_367) rfl ?_
    refine s_iadd X15 hx (3 : Int32) (hb hby d21_369) (by decide) ?_
    refine s_lloadN X15 hx (hb hby d21_370) rfl ?_
    refine s_aloadN X15 hx (hb hby d21_371) rfl rfl ?_
    refine st16 _ ?_
    refine s_lsub X16 hx (10 : Int64) (hb hby d21_375) (by decide) ?_
    refine st17 _ ?_
    refine s_aloadN X17 hx (hb hby d21_377) rfl rfl ?_
    refine st18 _ ?_
    refine s_iload X18 hx (hb hby d21_381) rfl ?_
    refine s_iload X18 hx (hb hby d21_383) rfl ?_
    refine s_iadd X18 hx (3 : Int32) (hb hby d21_385) (by decide) ?_
    refine s_aloadN X18 hx (hb hby d21_386) rfl rfl ?_
    refine st19 _ ?_
    refine s_iload X19 hx (hb hby d21_390) rfl ?_
    refine s_iload X19 hx (hb hby d21_392) rfl ?_
    refine s_iadd X19 hx (3 : Int32) (hb hby d21_394) (by decide) ?_
    refine s_iconst X19 hx (1 : Int32) (hb hby d21_395) rfl ?_
    refine s_isub X19 hx (2 : Int32) (hb hby d21_396) (by decide) ?_
    refine own_ial X19 hx hZ e19 P17 12 2 (v := (.int va)) (own_vn hV12_2) (hb hby d21_397) (by omega) ?_
    refine st20 _ ?_
    refine s_aloadN X20 hx (hb hby d21_399) rfl rfl ?_
    refine st21 _ ?_
    refine s_nullN X21 hx (hb hby d21_403) ?_
    refine s_aloadN X21 hx (hb hby d21_406) rfl rfl ?_
    refine st22 _ ?_
    refine s_iload X22 hx (hb hby d21_410) rfl ?_
    refine s_iload X22 hx (hb hby d21_412) rfl ?_
    refine s_iadd X22 hx (3 : Int32) (hb hby d21_414) (by decide) ?_
    refine s_aloadN X22 hx (hb hby d21_415) rfl rfl ?_
    refine st23 _ ?_
    refine s_iload X23 hx (hb hby d21_419) rfl ?_
    refine s_iload X23 hx (hb hby d21_421) rfl ?_
    refine s_iadd X23 hx (3 : Int32) (hb hby d21_423) (by decide) ?_
    refine s_iconst X23 hx (1 : Int32) (hb hby d21_424) rfl ?_
    refine s_iadd X23 hx (4 : Int32) (hb hby d21_425) (by decide) ?_
    refine s_aloadN X23 hx (hb hby d21_426) rfl rfl ?_
    refine st24 _ ?_
    refine s_iload X24 hx (hb hby d21_430) rfl ?_
    refine own_ial X24 hx hZ e24 P20 1 1 (v := (.int (1 : Int32))) (own_vn (own_vn hV1_1)) (hb hby d21_432) (by omega) ?_
    refine s_iload X24 hx (hb hby d21_433) rfl ?_
    refine s_isub X24 hx (0 : Int32) (hb hby d21_435) (by decide) ?_
    refine st25 _ ?_
    refine s_aloadN X25 hx (hb hby d21_439) rfl rfl ?_
    refine st26 _ ?_
    refine s_iload X26 hx (hb hby d21_443) rfl ?_
    refine s_iload X26 hx (hb hby d21_445) rfl ?_
    refine s_iadd X26 hx (3 : Int32) (hb hby d21_447) (by decide) ?_
    refine s_aloadN X26 hx (hb hby d21_448) rfl rfl ?_
    refine st27 _ ?_
    refine s_iload X27 hx (hb hby d21_452) rfl ?_
    refine s_iload X27 hx (hb hby d21_454) rfl ?_
    refine s_iadd X27 hx (3 : Int32) (hb hby d21_456) (by decide) ?_
    refine s_iconst X27 hx (1 : Int32) (hb hby d21_457) rfl ?_
    refine s_isub X27 hx (2 : Int32) (hb hby d21_458) (by decide) ?_
    refine own_lal X27 hx hZ e27 P25 13 2 (v := (.long vk)) (own_vn (own_vn hV13_2)) (hb hby d21_459) (by omega) ?_
    refine st28 _ ?_
    refine s_aloadN X28 hx (hb hby d21_461) rfl rfl ?_
    refine st29 _ ?_
    refine s_iload X29 hx (hb hby d21_465) rfl ?_
    refine s_dup2 X29 hx (hb hby d21_467) rfl rfl ?_
    refine own_ial X29 hx hZ e29 P28 1 1 (v := (.int (1 : Int32))) (own_vn (own_vn (own_vn hV1_1))) (hb hby d21_468) (by omega) ?_
    refine s_iconst X29 hx (1 : Int32) (hb hby d21_469) rfl ?_
    refine s_iadd X29 hx (2 : Int32) (hb hby d21_470) (by decide) ?_
    refine st30 _ ?_
    refine s_aloadN X30 hx (hb hby d21_472) rfl rfl ?_
    refine s_iload X30 hx (hb hby d21_473) rfl ?_
    refine st31.trans ?_
    refine s_iload X31 hx (hb hby d21_478) rfl ?_
    refine s_iload X31 hx (hb hby d21_480) rfl ?_
    refine s_iadd X31 hx (3 : Int32) (hb hby d21_482) (by decide) ?_
    exact retI X31 hx Bd.returns (hb hby d21_483) hr
  · show ((_ : Option Value) = some (.int (3 : Int32)) ∧ Fr n0 _ ∧ own_PS Z T31.heap n0 ob nA A F (own_vs (own_vs (own_vs (own_vs V 11 3 (.long (10 : Int64))) 12 3 (.int va)) 13 3 (.long vk)) 1 1 (.int (2 : Int32))))
    rw [eh31]
    exact ⟨rfl, N31, P30⟩
set_option maxRecDepth 65536 in
set_option maxHeartbeats 40000000 in
theorem rm9_2 (l : Launch) (Z : State) (a0 : Array Value) (hw : own_HW Z a0) (ws : List Jvm.Cond) {nA : Nat} {A : Nat → Addr} {F : Nat → Value} {V : Nat → List Value} (ob : Addr)  (h0 : Heap) (n0 : Nat) (P : own_PS Z h0 n0 ob nA A F V) (hA : 13 ≤ nA) (hB : nA ≤ 14)  :
    own_C l Z own_y8 bc9 3 none ws 0 0 #[(.ref ob), (.int (2 : Int32)), (.int (0 : Int32))] h0 (fun v h L => (v = none ∧ Fr n0 L ∧ own_PS Z h n0 ob nA A F (own_vs V 0 8 (.int (0 : Int32))))) := by
  refine MetFree.of_bodySF (plainFor_of_name own_pn1) hisR ?_
  intro p e s m args below meth c s₁ Bd hml0 hP hK
  obtain ⟨rfl, hZ, hh⟩ := hP
  have hx := Bd.exec
  have hby := Bd.bytes
  have hml : c.maxLocals = 3 := hml0
  have hown : s.vm.findClass "com/example/jobwright/jobwright/policies/Treap" = some m.cls := findClass_of_methodNamed Bd.named
  have X0 : Stand p l e ({ frames := 0, cells := 0, slots := 0, locals := 0 } : Room) s m #[(.ref ob), (.int (2 : Int32)), (.int (0 : Int32))] below meth c s₁ [] 0 0 := Stand.of_body Bd
  have e0 : s₁.heap = h0 := by rw [← hh, Bd.state]; rfl
  have N0 := Fr.nil n0
  have ef : entryFrame m #[(.ref ob), (.int (2 : Int32)), (.int (0 : Int32))] 3 = mkF m 0 #[.val (.ref ob), .val (.int (2 : Int32)), .val (.int (0 : Int32))] [] := by first | (simp [entryFrame, mkF, argsToLocals, Value.category]; done) | rfl
  obtain ⟨T1, X1, e1, st1⟩ := own_gf X0 hx hZ hown e0 P 0 (own_w hw 22) (v := (.ref (A 0))) (P.2.2.2.1 0 (by omega)) (hb hby d9_1) #[.val (.ref ob), .val (.int (2 : Int32)), .val (.int (0 : Int32))] []
  obtain ⟨T2, h2, l2, X2, e2, N2, P2, st2⟩ := own_ist X1 hx hZ e1 N0 P 0 8 (j := (8 : Int32)) (x := (0 : Int32)) (hb hby d9_8) #[.val (.ref ob), .val (.int (2 : Int32)), .val (.int (0 : Int32))] [] (by omega)
  obtain ⟨fs, hr, hrun, hended, hW, hsame⟩ := X2.leave (v := none) (fun _ => rfl)
  refine ⟨_, _, castTop ef ?_, hrun, hended, _, _, rfl, ?_, ⟨_, rfl⟩, hW, hsame.mono (by decide) (by decide)⟩
  · refine s_aloadN X0 hx (hb hby d9_0) rfl rfl ?_
    refine st1 _ ?_
    refine s_iloadN X1 hx (hb hby d9_4) rfl ?_
    refine s_iconst X1 hx (2 : Int32) (hb hby d9_5) rfl ?_
    refine s_ishl X1 hx (8 : Int32) (hb hby d9_6) (by decide) ?_
    refine s_iloadN X1 hx (hb hby d9_7) rfl ?_
    refine st2 _ ?_
    exact X2.returnOut hx Bd.returns (hb hby d9_9) hr
  · show ((_ : Option Value) = none ∧ Fr n0 _ ∧ own_PS Z T2.heap n0 ob nA A F (own_vs V 0 8 (.int (0 : Int32))))
    rw [e2]
    exact ⟨rfl, N2, P2⟩
set_option maxRecDepth 65536 in
set_option maxHeartbeats 40000000 in
theorem rm10_2 (l : Launch) (Z : State) (a0 : Array Value) (hw : own_HW Z a0) (ws : List Jvm.Cond) {nA : Nat} {A : Nat → Addr} {F : Nat → Value} {V : Nat → List Value} (ob : Addr)  (h0 : Heap) (n0 : Nat) (P : own_PS Z h0 n0 ob nA A F V) (hA : 13 ≤ nA) (hB : nA ≤ 14)  :
    own_C l Z own_y9 bc10 3 none ws 0 0 #[(.ref ob), (.int (2 : Int32)), (.int (0 : Int32))] h0 (fun v h L => (v = none ∧ Fr n0 L ∧ own_PS Z h n0 ob nA A F (own_vs V 0 9 (.int (0 : Int32))))) := by
  refine MetFree.of_bodySF (plainFor_of_name own_pn1) hisR ?_
  intro p e s m args below meth c s₁ Bd hml0 hP hK
  obtain ⟨rfl, hZ, hh⟩ := hP
  have hx := Bd.exec
  have hby := Bd.bytes
  have hml : c.maxLocals = 3 := hml0
  have hown : s.vm.findClass "com/example/jobwright/jobwright/policies/Treap" = some m.cls := findClass_of_methodNamed Bd.named
  have X0 : Stand p l e ({ frames := 0, cells := 0, slots := 0, locals := 0 } : Room) s m #[(.ref ob), (.int (2 : Int32)), (.int (0 : Int32))] below meth c s₁ [] 0 0 := Stand.of_body Bd
  have e0 : s₁.heap = h0 := by rw [← hh, Bd.state]; rfl
  have N0 := Fr.nil n0
  have ef : entryFrame m #[(.ref ob), (.int (2 : Int32)), (.int (0 : Int32))] 3 = mkF m 0 #[.val (.ref ob), .val (.int (2 : Int32)), .val (.int (0 : Int32))] [] := by first | (simp [entryFrame, mkF, argsToLocals, Value.category]; done) | rfl
  obtain ⟨T1, X1, e1, st1⟩ := own_gf X0 hx hZ hown e0 P 0 (own_w hw 22) (v := (.ref (A 0))) (P.2.2.2.1 0 (by omega)) (hb hby d10_1) #[.val (.ref ob), .val (.int (2 : Int32)), .val (.int (0 : Int32))] []
  obtain ⟨T2, h2, l2, X2, e2, N2, P2, st2⟩ := own_ist X1 hx hZ e1 N0 P 0 9 (j := (9 : Int32)) (x := (0 : Int32)) (hb hby d10_10) #[.val (.ref ob), .val (.int (2 : Int32)), .val (.int (0 : Int32))] [] (by omega)
  obtain ⟨fs, hr, hrun, hended, hW, hsame⟩ := X2.leave (v := none) (fun _ => rfl)
  refine ⟨_, _, castTop ef ?_, hrun, hended, _, _, rfl, ?_, ⟨_, rfl⟩, hW, hsame.mono (by decide) (by decide)⟩
  · refine s_aloadN X0 hx (hb hby d10_0) rfl rfl ?_
    refine st1 _ ?_
    refine s_iloadN X1 hx (hb hby d10_4) rfl ?_
    refine s_iconst X1 hx (2 : Int32) (hb hby d10_5) rfl ?_
    refine s_ishl X1 hx (8 : Int32) (hb hby d10_6) (by decide) ?_
    refine s_iconst X1 hx (1 : Int32) (hb hby d10_7) rfl ?_
    refine s_iadd X1 hx (9 : Int32) (hb hby d10_8) (by decide) ?_
    refine s_iloadN X1 hx (hb hby d10_9) rfl ?_
    refine st2 _ ?_
    exact X2.returnOut hx Bd.returns (hb hby d10_11) hr
  · show ((_ : Option Value) = none ∧ Fr n0 _ ∧ own_PS Z T2.heap n0 ob nA A F (own_vs V 0 9 (.int (0 : Int32))))
    rw [e2]
    exact ⟨rfl, N2, P2⟩
set_option maxRecDepth 65536 in
set_option maxHeartbeats 40000000 in
theorem rm11_2 (l : Launch) (Z : State) (a0 : Array Value) (hw : own_HW Z a0) (ws : List Jvm.Cond) {nA : Nat} {A : Nat → Addr} {F : Nat → Value} {V : Nat → List Value} (ob : Addr)  (h0 : Heap) (n0 : Nat) (P : own_PS Z h0 n0 ob nA A F V) (hA : 13 ≤ nA) (hB : nA ≤ 14) (hF18 : F 18 = (.long (-2586341971585708627 : Int64))) :
    own_C l Z own_y10 bc11 1 (some .int) ws 0 0 #[(.ref ob)] h0 (fun v h L => (v = some (.int (846755676 : Int32)) ∧ Fr n0 L ∧ own_PS Z h n0 ob nA A (own_up (own_up (own_up F 18 (.long (-5553300284382974547 : Int64))) 18 (.long (-5509191256401354634 : Int64))) 18 (.long (7273575876580499574 : Int64))) V)) := by
  refine MetFree.of_bodySF (plainFor_of_name own_pn1) hisR ?_
  intro p e s m args below meth c s₁ Bd hml0 hP hK
  obtain ⟨rfl, hZ, hh⟩ := hP
  have hx := Bd.exec
  have hby := Bd.bytes
  have hml : c.maxLocals = 1 := hml0
  have hown : s.vm.findClass "com/example/jobwright/jobwright/policies/Treap" = some m.cls := findClass_of_methodNamed Bd.named
  have X0 : Stand p l e ({ frames := 0, cells := 0, slots := 0, locals := 0 } : Room) s m #[(.ref ob)] below meth c s₁ [] 0 0 := Stand.of_body Bd
  have e0 : s₁.heap = h0 := by rw [← hh, Bd.state]; rfl
  have N0 := Fr.nil n0
  have ef : entryFrame m #[(.ref ob)] 1 = mkF m 0 #[.val (.ref ob)] [] := by first | (simp [entryFrame, mkF, argsToLocals, Value.category]; done) | rfl
  obtain ⟨T1, X1, e1, st1⟩ := own_gf X0 hx hZ hown e0 P 18 (own_w hw 19) (v := (.long (-2586341971585708627 : Int64))) hF18 (hb hby d11_2) #[.val (.ref ob)] [(.ref ob)]
  obtain ⟨T2, X2, e2, st2⟩ := own_gf X1 hx hZ hown e1 P 18 (own_w hw 19) (v := (.long (-2586341971585708627 : Int64))) hF18 (hb hby d11_6) #[.val (.ref ob)] [(.long (-2586341971585708627 : Int64)), (.ref ob)]
  obtain ⟨T3, h3, l3, X3, e3, N3, P3, st3⟩ := own_pp X2 hx hZ hw hown e2 N0 P 18 (own_w hw 19) (Or.inl (own_w hw 20)) (v := (.long (-5553300284382974547 : Int64))) (hb hby d11_13) #[.val (.ref ob)] [] rfl rfl (by omega)
  obtain ⟨T4, X4, e4, st4⟩ := own_gf X3 hx hZ hown e3 P3 18 (own_w hw 19) (v := (.long (-5553300284382974547 : Int64))) (own_up_eq _ _ _) (hb hby d11_18) #[.val (.ref ob)] [(.ref ob)]
  obtain ⟨T5, X5, e5, st5⟩ := own_gf X4 hx hZ hown e4 P3 18 (own_w hw 19) (v := (.long (-5553300284382974547 : Int64))) (own_up_eq _ _ _) (hb hby d11_22) #[.val (.ref ob)] [(.long (-5553300284382974547 : Int64)), (.ref ob)]
  obtain ⟨T6, h6, l6, X6, e6, N6, P6, st6⟩ := own_pp X5 hx hZ hw hown e5 N3 P3 18 (own_w hw 19) (Or.inl (own_w hw 20)) (v := (.long (-5509191256401354634 : Int64))) (hb hby d11_29) #[.val (.ref ob)] [] rfl rfl (by omega)
  obtain ⟨T7, X7, e7, st7⟩ := own_gf X6 hx hZ hown e6 P6 18 (own_w hw 19) (v := (.long (-5509191256401354634 : Int64))) (own_up_eq _ _ _) (hb hby d11_34) #[.val (.ref ob)] [(.ref ob)]
  obtain ⟨T8, X8, e8, st8⟩ := own_gf X7 hx hZ hown e7 P6 18 (own_w hw 19) (v := (.long (-5509191256401354634 : Int64))) (own_up_eq _ _ _) (hb hby d11_38) #[.val (.ref ob)] [(.long (-5509191256401354634 : Int64)), (.ref ob)]
  obtain ⟨T9, h9, l9, X9, e9, N9, P9, st9⟩ := own_pp X8 hx hZ hw hown e8 N6 P6 18 (own_w hw 19) (Or.inl (own_w hw 20)) (v := (.long (7273575876580499574 : Int64))) (hb hby d11_45) #[.val (.ref ob)] [] rfl rfl (by omega)
  obtain ⟨T10, X10, e10, st10⟩ := own_gf X9 hx hZ hown e9 P9 18 (own_w hw 19) (v := (.long (7273575876580499574 : Int64))) (own_up_eq _ _ _) (hb hby d11_49) #[.val (.ref ob)] []
  obtain ⟨fs, hr, hrun, hended, hW, hsame⟩ := X10.leave (v := some (.int (846755676 : Int32))) (fun h => by rw [Bd.returns] at h; cases h)
  refine ⟨_, _, castTop ef ?_, hrun, hended, _, _, rfl, ?_, ⟨_, rfl⟩, hW, hsame.mono (by decide) (by decide)⟩
  · refine s_aloadN X0 hx (hb hby d11_0) rfl rfl ?_
    refine s_dup X0 hx (hb hby d11_1) rfl ?_
    refine st1 _ ?_
    refine s_aloadN X1 hx (hb hby d11_5) rfl rfl ?_
    refine st2 _ ?_
    refine s_bipush X2 hx (13 : Int32) (hb hby d11_9) rfl ?_
    refine s_lshl X2 hx (7995509462149734400 : Int64) (hb hby d11_11) (by decide) ?_
    refine s_lxor X2 hx (-5553300284382974547 : Int64) (hb hby d11_12) (by decide) ?_
    refine st3 _ ?_
    refine s_aloadN X3 hx (hb hby d11_16) rfl rfl ?_
    refine s_dup X3 hx (hb hby d11_17) rfl ?_
    refine st4 _ ?_
    refine s_aloadN X4 hx (hb hby d11_21) rfl rfl ?_
    refine st5 _ ?_
    refine s_bipush X5 hx (7 : Int32) (hb hby d11_25) rfl ?_
    refine s_lushr X5 hx (100730029604113883 : Int64) (hb hby d11_27) (by decide) ?_
    refine s_lxor X5 hx (-5509191256401354634 : Int64) (hb hby d11_28) (by decide) ?_
    refine st6 _ ?_
    refine s_aloadN X6 hx (hb hby d11_32) rfl rfl ?_
    refine s_dup X6 hx (hb hby d11_33) rfl ?_
    refine st7 _ ?_
    refine s_aloadN X7 hx (hb hby d11_37) rfl rfl ?_
    refine st8 _ ?_
    refine s_bipush X8 hx (17 : Int32) (hb hby d11_41) rfl ?_
    refine s_lshl X8 hx (-2919593677956579328 : Int64) (hb hby d11_43) (by decide) ?_
    refine s_lxor X8 hx (7273575876580499574 : Int64) (hb hby d11_44) (by decide) ?_
    refine st9 _ ?_
    refine s_aloadN X9 hx (hb hby d11_48) rfl rfl ?_
    refine st10 _ ?_
    refine s_bipush X10 hx (33 : Int32) (hb hby d11_52) rfl ?_
    refine s_lushr X10 hx (846755676 : Int64) (hb hby d11_54) (by decide) ?_
    refine s_l2i X10 hx (846755676 : Int32) (hb hby d11_55) (by decide) ?_
    exact retI X10 hx Bd.returns (hb hby d11_56) hr
  · show ((_ : Option Value) = some (.int (846755676 : Int32)) ∧ Fr n0 _ ∧ own_PS Z T10.heap n0 ob nA A (own_up (own_up (own_up F 18 (.long (-5553300284382974547 : Int64))) 18 (.long (-5509191256401354634 : Int64))) 18 (.long (7273575876580499574 : Int64))) V)
    rw [e10]
    exact ⟨rfl, N9, P9⟩
set_option maxRecDepth 65536 in
set_option maxHeartbeats 40000000 in
theorem rm7_2 (l : Launch) (Z : State) (a0 : Array Value) (hw : own_HW Z a0) (ws : List Jvm.Cond) {nA : Nat} {A : Nat → Addr} {F : Nat → Value} {V : Nat → List Value} (ob : Addr)  (h0 : Heap) (n0 : Nat) (P : own_PS Z h0 n0 ob nA A F V) (hA : 13 ≤ nA) (hB : nA ≤ 14) (hF16 : F 16 = (.int (0 : Int32))) (hF17 : F 17 = (.int (2 : Int32))) (hF18 : F 18 = (.long (-2586341971585708627 : Int64))) :
    own_C l Z own_y11 bc7 2 (some .int) ws 1 14 #[(.ref ob)] h0 (fun v h L => (v = some (.int (2 : Int32)) ∧ Fr n0 L ∧ own_PS Z h n0 ob nA A (own_up (own_up (own_up (own_up F 17 (.int (3 : Int32))) 18 (.long (-5553300284382974547 : Int64))) 18 (.long (-5509191256401354634 : Int64))) 18 (.long (7273575876580499574 : Int64))) (own_vs (own_vs (own_vs V 0 8 (.int (0 : Int32))) 0 9 (.int (0 : Int32))) 0 10 (.int (846755676 : Int32))))) := by
  refine MetFree.of_bodySF (plainFor_of_name own_pn1) hisR ?_
  intro p e s m args below meth c s₁ Bd hml0 hP hK
  obtain ⟨rfl, hZ, hh⟩ := hP
  have hx := Bd.exec
  have hby := Bd.bytes
  have hml : c.maxLocals = 2 := hml0
  have hown : s.vm.findClass "com/example/jobwright/jobwright/policies/Treap" = some m.cls := findClass_of_methodNamed Bd.named
  have X0 : Stand p l e ({ frames := 1, cells := 0, slots := 0, locals := 14 } : Room) s m #[(.ref ob)] below meth c s₁ [] 0 0 := Stand.of_body Bd
  have e0 : s₁.heap = h0 := by rw [← hh, Bd.state]; rfl
  have N0 := Fr.nil n0
  have ef : entryFrame m #[(.ref ob)] 2 = mkF m 0 #[.val (.ref ob), .unset] [] := by first | (simp [entryFrame, mkF, argsToLocals, Value.category]; done) | rfl
  obtain ⟨T1, X1, e1, st1⟩ := own_gf X0 hx hZ hown e0 P 16 (own_w hw 113) (v := (.int (0 : Int32))) hF16 (hb hby d7_1) #[.val (.ref ob), .unset] []
  obtain ⟨T2, X2, e2, st2⟩ := own_gf X1 hx hZ hown e1 P 17 (own_w hw 16) (v := (.int (2 : Int32))) hF17 (hb hby d7_31) #[.val (.ref ob), .unset] []
  obtain ⟨T3, X3, e3, st3⟩ := own_gf X2 hx hZ hown e2 P 17 (own_w hw 16) (v := (.int (2 : Int32))) hF17 (hb hby d7_37) #[.val (.ref ob), .val (.int (2 : Int32))] [(.ref ob)]
  obtain ⟨T4, h4, l4, X4, e4, N4, P4, st4⟩ := own_pp X3 hx hZ hw hown e3 N0 P 17 (own_w hw 16) (Or.inl (own_w hw 17)) (v := (.int (3 : Int32))) (hb hby d7_42) #[.val (.ref ob), .val (.int (2 : Int32))] [] rfl rfl (by omega)
  obtain ⟨T5, X5, e5, st5⟩ := own_gf X4 hx hZ hown e4 P4 0 (own_w hw 22) (v := (.ref (A 0))) (P4.2.2.2.1 0 (by omega)) (hb hby d7_49) #[.val (.ref ob), .val (.int (2 : Int32))] [(.int (8 : Int32))]
  obtain ⟨T6, X6, e6, st6⟩ := own_gf X5 hx hZ hown e5 P4 0 (own_w hw 22) (v := (.ref (A 0))) (P4.2.2.2.1 0 (by omega)) (hb hby d7_94) #[.val (.ref ob), .val (.int (2 : Int32))] [(.ref ob)]
  obtain ⟨cq7, kq7, q7a, q7b, q7c⟩ := isOf hZ e6 P4.1
  obtain ⟨_, _, ⟨T7, L7, k7, n7⟩, -, X7, ⟨Lc7, hQ7, l7, y7, z7⟩, st7⟩ := X6.virtualBack hx (y := own_y7) (z := own_y6) hown (mvT hZ (own_w hw 121)) (mvT hZ (own_w hw 122)) (own_nf (args := #[]) (z := own_y4) (mvT hZ (own_w hw 224)) rfl) (mvT hZ (own_w hw 123)) (mvT hZ (own_w hw 124)) (by decide) (backOf (W := 0) (rm8_1 l Z a0 hw [] ob  h4 n0 P4 hA hB   ) hZ (own_w hw 125) (own_w hw 2) (by decide) (by decide)) q7a q7c (g := (mkF m 100 #[.val (.ref ob), .val (.int (2 : Int32))] [(.int (4 : Int32)), (.ref ob)])) rfl (by rw [hml]; rfl) (Steps.refl _) (argsL := [(.int (4 : Int32))]) (rest := []) (lenOf own_pd0 rfl) rfl (by show 2 * 0 + _ ≤ _; exact Nat.le_of_eq rfl) (hb hby d7_100) (fun _ _ => ⟨rfl, e6, (by decide : 0 + 0 ≤ _), (by decide : 0 + 0 ≤ _)⟩)
  dsimp only [Pt.U, Pt.locs, Pt.cells, Pt.slots] at X7 l7 y7 z7 st7 hQ7
  subst l7 y7 z7
  obtain ⟨rfl, Nq7, eh7⟩ := hQ7
  have N7 := Fr.app N4 Nq7
  obtain ⟨cq8, q8, q8'⟩ := P4.1.cell
  obtain ⟨_, _, ⟨T8, L8, k8, n8⟩, -, X8, ⟨Lc8, hQ8, l8, y8, z8⟩, st8⟩ := X7.privateBack hx (y := own_y8) hown (mvT hZ (own_w hw 126)) (mvT hZ (own_w hw 127)) (own_psel (z := own_y4) (mvT hZ (own_w hw 224)) (mvP hZ (own_w hw 128)) (mvT hZ (own_w hw 127)) rfl (by decide)) (Cond.privateMethod_at (mvP hZ (own_w hw 128) (args := #[]))) (mvT hZ (own_w hw 129)) (by decide) (backOf (W := 0) (rm9_2 l Z a0 hw [] ob  h4 n0 P4 hA hB   ) hZ (own_w hw 129) (own_w hw 9) (by decide) (by decide)) (g := (mkF m 106 #[.val (.ref ob), .val (.int (2 : Int32))] [(.int (0 : Int32)), (.int (2 : Int32)), (.ref ob)])) rfl (by rw [hml]; rfl) (Steps.refl _) (a := ob) (by rw [eh7]; exact q8) q8' (argsL := [(.int (2 : Int32)), (.int (0 : Int32))]) (rest := []) (lenOf own_pd3 rfl) rfl (by show 2 * 0 + _ ≤ _; exact Nat.le_of_eq rfl) (hb hby d7_106) (fun _ _ => ⟨rfl, eh7, (by decide : 0 + 0 ≤ _), (by decide : 0 + 0 ≤ _)⟩)
  dsimp only [Pt.U, Pt.locs, Pt.cells, Pt.slots] at X8 l8 y8 z8 st8 hQ8
  subst l8 y8 z8
  obtain ⟨rfl, Nq8, P8⟩ := hQ8
  have N8 := Fr.app N7 Nq8
  obtain ⟨cq9, q9, q9'⟩ := P8.1.cell
  obtain ⟨_, _, ⟨T9, L9, k9, n9⟩, -, X9, ⟨Lc9, hQ9, l9, y9, z9⟩, st9⟩ := X8.privateBack hx (y := own_y9) hown (mvT hZ (own_w hw 130)) (mvT hZ (own_w hw 131)) (own_psel (z := own_y4) (mvT hZ (own_w hw 224)) (mvP hZ (own_w hw 132)) (mvT hZ (own_w hw 131)) rfl (by decide)) (Cond.privateMethod_at (mvP hZ (own_w hw 132) (args := #[]))) (mvT hZ (own_w hw 133)) (by decide) (backOf (W := 0) (rm10_2 l Z a0 hw [] ob  T8.heap n0 P8 hA hB   ) hZ (own_w hw 133) (own_w hw 9) (by decide) (by decide)) (g := (mkF m 112 #[.val (.ref ob), .val (.int (2 : Int32))] [(.int (0 : Int32)), (.int (2 : Int32)), (.ref ob)])) rfl (by rw [hml]; rfl) (Steps.refl _) (a := ob) q9 q9' (argsL := [(.int (2 : Int32)), (.int (0 : Int32))]) (rest := []) (lenOf own_pd3 rfl) rfl (by show 2 * 0 + _ ≤ _; exact Nat.le_of_eq rfl) (hb hby d7_112) (fun _ _ => ⟨rfl, rfl, (by decide : 0 + 0 ≤ _), (by decide : 0 + 0 ≤ _)⟩)
  dsimp only [Pt.U, Pt.locs, Pt.cells, Pt.slots] at X9 l9 y9 z9 st9 hQ9
  subst l9 y9 z9
  obtain ⟨rfl, Nq9, P9⟩ := hQ9
  have N9 := Fr.app N8 Nq9
  obtain ⟨T10, X10, e10, st10⟩ := own_gf X9 hx hZ hown rfl P9 0 (own_w hw 22) (v := (.ref (A 0))) (P9.2.2.2.1 0 (by omega)) (hb hby d7_116) #[.val (.ref ob), .val (.int (2 : Int32))] []
  obtain ⟨cq11, q11, q11'⟩ := P9.1.cell
  obtain ⟨_, _, ⟨T11, L11, k11, n11⟩, -, X11, ⟨Lc11, hQ11, l11, y11, z11⟩, st11⟩ := X10.privateBack hx (y := own_y10) hown (mvT hZ (own_w hw 134)) (mvT hZ (own_w hw 135)) (own_psel (z := own_y4) (mvT hZ (own_w hw 224)) (mvP hZ (own_w hw 136)) (mvT hZ (own_w hw 135)) rfl (by decide)) (Cond.privateMethod_at (mvP hZ (own_w hw 136) (args := #[]))) (mvT hZ (own_w hw 137)) (by decide) (backOf (W := 2) (rm11_2 l Z a0 hw [] ob  T9.heap n0 P9 hA hB (own_fn hF18)  ) hZ (own_w hw 137) (own_w hw 9) (by decide) (by decide)) (g := (mkF m 125 #[.val (.ref ob), .val (.int (2 : Int32))] [(.ref ob), (.int (10 : Int32)), (.ref (A 0))])) rfl (by rw [hml]; rfl) (Steps.refl _) (a := ob) (by rw [e10]; exact q11) q11' (argsL := []) (rest := [(.int (10 : Int32)), (.ref (A 0))]) (lenOf own_pd4 rfl) rfl (by show 2 * 0 + _ ≤ _; exact Nat.le_of_eq rfl) (hb hby d7_125) (fun _ _ => ⟨rfl, e10, (by decide : 0 + 0 ≤ _), (by decide : 0 + 0 ≤ _)⟩)
  dsimp only [Pt.U, Pt.locs, Pt.cells, Pt.slots] at X11 l11 y11 z11 st11 hQ11
  subst l11 y11 z11
  obtain ⟨rfl, Nq11, P11⟩ := hQ11
  have N11 := Fr.app N9 Nq11
  obtain ⟨T12, h12, l12, X12, e12, N12, P12, st12⟩ := own_ist X11 hx hZ rfl N11 P11 0 10 (j := (10 : Int32)) (x := (846755676 : Int32)) (hb hby d7_128) #[.val (.ref ob), .val (.int (2 : Int32))] [] (by omega)
  obtain ⟨fs, hr, hrun, hended, hW, hsame⟩ := X12.leave (v := some (.int (2 : Int32))) (fun h => by rw [Bd.returns] at h; cases h)
  refine ⟨_, _, castTop ef ?_, hrun, hended, _, _, rfl, ?_, ⟨_, rfl⟩, hW, hsame.mono (by decide) (by decide)⟩
  · refine s_aloadN X0 hx (hb hby d7_0) rfl rfl ?_
    refine st1 _ ?_
    refine s_ifY X1 hx 30 (hb hby d7_4) (by decide) (by decide) (by decide) ?_
    refine s_aloadN X1 hx (hb hby d7_30) rfl rfl ?_
    refine st2 _ ?_
    refine s_istoreN X2 hx #[.val (.ref ob), .val (.int (2 : Int32))] (hb hby d7_34) rfl ?_
    refine s_aloadN X2 hx (hb hby d7_35) rfl rfl ?_
    refine s_dup X2 hx (hb hby d7_36) rfl ?_
    refine st3 _ ?_
    refine s_iconst X3 hx (1 : Int32) (hb hby d7_40) rfl ?_
    refine s_iadd X3 hx (3 : Int32) (hb hby d7_41) (by decide) ?_
    refine st4 _ ?_
    refine s_iloadN X4 hx (hb hby d7_45) rfl ?_
    refine s_iconst X4 hx (2 : Int32) (hb hby d7_46) rfl ?_
    refine s_ishl X4 hx (8 : Int32) (hb hby d7_47) (by decide) ?_
    refine s_aloadN X4 hx (hb hby d7_48) rfl rfl ?_
    refine st5 _ ?_
    refine own_al X5 hx hZ e5 P4 0 (16 : Int32) (hb hby d7_52) (by omega) rfl ?_
    refine s_icmpY X5 hx 92 (hb hby d7_53) (by decide) (by decide) (by decide) ?_
    refine s_aloadN X5 hx (hb hby d7_92) rfl rfl ?_
    refine s_aloadN X5 hx (hb hby d7_93) rfl rfl ?_
    refine st6 _ ?_
    refine own_al X6 hx hZ e6 P4 0 (16 : Int32) (hb hby d7_97) (by omega) rfl ?_
    refine s_iconst X6 hx (2 : Int32) (hb hby d7_98) rfl ?_
    refine s_ishr X6 hx (4 : Int32) (hb hby d7_99) (by decide) ?_
    refine st7.trans ?_
    refine s_aloadN X7 hx (hb hby d7_103) rfl rfl ?_
    refine s_iloadN X7 hx (hb hby d7_104) rfl ?_
    refine s_iconst X7 hx (0 : Int32) (hb hby d7_105) rfl ?_
    refine st8.trans ?_
    refine s_aloadN X8 hx (hb hby d7_109) rfl rfl ?_
    refine s_iloadN X8 hx (hb hby d7_110) rfl ?_
    refine s_iconst X8 hx (0 : Int32) (hb hby d7_111) rfl ?_
    refine st9.trans ?_
    refine s_aloadN X9 hx (hb hby d7_115) rfl rfl ?_
    refine st10 _ ?_
    refine s_iloadN X10 hx (hb hby d7_119) rfl ?_
    refine s_iconst X10 hx (2 : Int32) (hb hby d7_120) rfl ?_
    refine s_ishl X10 hx (8 : Int32) (hb hby d7_121) (by decide) ?_
    refine s_iconst X10 hx (2 : Int32) (hb hby d7_122) rfl ?_
    refine s_iadd X10 hx (10 : Int32) (hb hby d7_123) (by decide) ?_
    refine s_aloadN X10 hx (hb hby d7_124) rfl rfl ?_
    refine st11.trans ?_
    refine st12 _ ?_
    refine s_iloadN X12 hx (hb hby d7_129) rfl ?_
    exact retI X12 hx Bd.returns (hb hby d7_130) hr
  · show ((_ : Option Value) = some (.int (2 : Int32)) ∧ Fr n0 _ ∧ own_PS Z T12.heap n0 ob nA A (own_up (own_up (own_up (own_up F 17 (.int (3 : Int32))) 18 (.long (-5553300284382974547 : Int64))) 18 (.long (-5509191256401354634 : Int64))) 18 (.long (7273575876580499574 : Int64))) (own_vs (own_vs (own_vs V 0 8 (.int (0 : Int32))) 0 9 (.int (0 : Int32))) 0 10 (.int (846755676 : Int32))))
    rw [e12]
    exact ⟨rfl, N12, P12⟩
set_option maxRecDepth 65536 in
set_option maxHeartbeats 40000000 in
theorem rm23_1 (l : Launch) (Z : State) (a0 : Array Value) (hw : own_HW Z a0) (ws : List Jvm.Cond) {nA : Nat} {A : Nat → Addr} {F : Nat → Value} {V : Nat → List Value} (ob : Addr)  (h0 : Heap) (n0 : Nat) (P : own_PS Z h0 n0 ob nA A F V) (hA : 13 ≤ nA) (hB : nA ≤ 14) (hF16 : F 16 = (.int (0 : Int32))) (hF17 : F 17 = (.int (2 : Int32))) (hF18 : F 18 = (.long (-2586341971585708627 : Int64))) (hV3_1 : (V 3).getD 1 (own_aZ 3) = (.int (0 : Int32))) :
    own_C l Z own_y28 bc23 4 (some .int) ws 2 27 #[(.ref ob), (.int (1 : Int32))] h0 (fun v h L => (v = some (.int (2 : Int32)) ∧ Fr n0 L ∧ own_PS Z h n0 ob nA A (own_up (own_up (own_up (own_up (own_up F 17 (.int (3 : Int32))) 18 (.long (-5553300284382974547 : Int64))) 18 (.long (-5509191256401354634 : Int64))) 18 (.long (7273575876580499574 : Int64))) 24 (.int (2 : Int32))) (own_vs (own_vs (own_vs (own_vs (own_vs (own_vs (own_vs (own_vs V 0 8 (.int (0 : Int32))) 0 9 (.int (0 : Int32))) 0 10 (.int (846755676 : Int32))) 2 2 (.int (1 : Int32))) 3 2 (.int (0 : Int32))) 3 1 (.int (2 : Int32))) 7 2 (.int (1 : Int32))) 9 2 (.int (1 : Int32))))) := by
  refine MetFree.of_bodySF (plainFor_of_name own_pn2) hisR ?_
  intro p e s m args below meth c s₁ Bd hml0 hP hK
  obtain ⟨rfl, hZ, hh⟩ := hP
  have hx := Bd.exec
  have hby := Bd.bytes
  have hml : c.maxLocals = 4 := hml0
  have hown : s.vm.findClass "com/example/jobwright/jobwright/policies/ProfileSteps" = some m.cls := findClass_of_methodNamed Bd.named
  have X0 : Stand p l e ({ frames := 2, cells := 0, slots := 0, locals := 27 } : Room) s m #[(.ref ob), (.int (1 : Int32))] below meth c s₁ [] 0 0 := Stand.of_body Bd
  have e0 : s₁.heap = h0 := by rw [← hh, Bd.state]; rfl
  have N0 := Fr.nil n0
  have ef : entryFrame m #[(.ref ob), (.int (1 : Int32))] 4 = mkF m 0 #[.val (.ref ob), .val (.int (1 : Int32)), .unset, .unset] [] := by first | (simp [entryFrame, mkF, argsToLocals, Value.category]; done) | rfl
  obtain ⟨cq1, kq1, q1a, q1b, q1c⟩ := isOf hZ e0 P.1
  obtain ⟨_, _, ⟨T1, L1, k1, n1⟩, -, X1, ⟨Lc1, hQ1, l1, y1, z1⟩, st1⟩ := X0.virtualBackUp hx (x := own_y12) (y := own_y11) (owner := "com/example/jobwright/jobwright/policies/Treap") hown (mvT hZ (own_w hw 115)) (mvT hZ (own_w hw 116)) (mvT hZ (own_w hw 117)) (by decide) (mvT hZ (own_w hw 119)) (mvT hZ (own_w hw 118)) (backOf (W := 0) (rm7_2 l Z a0 hw [] ob  h0 n0 P hA hB hF16 hF17 hF18  ) hZ (own_w hw 120) (own_w hw 9) (by decide) (by decide)) q1a q1c (g := (mkF m 1 #[.val (.ref ob), .val (.int (1 : Int32)), .unset, .unset] [(.ref ob)])) rfl (by rw [hml]; rfl) (Steps.refl _) (argsL := []) (rest := []) (lenOf own_pd4 rfl) rfl (by show 2 * 0 + _ ≤ _; exact Nat.le_of_eq rfl) (hb hby d23_1) (fun _ _ => ⟨rfl, e0, (by decide : 0 + 0 ≤ _), (by decide : 0 + 0 ≤ _)⟩)
  dsimp only [Pt.U, Pt.locs, Pt.cells, Pt.slots] at X1 l1 y1 z1 st1 hQ1
  subst l1 y1 z1
  obtain ⟨rfl, Nq1, P1⟩ := hQ1
  have N1 := Fr.app N0 Nq1
  obtain ⟨T2, X2, e2, st2⟩ := own_gf X1 hx hZ hown rfl P1 3 (own_w hw 62) (v := (.ref (A 3))) (P1.2.2.2.1 3 (by omega)) (hb hby d23_6) #[.val (.ref ob), .val (.int (1 : Int32)), .val (.int (2 : Int32)), .unset] []
  obtain ⟨T3, X3, e3, st3⟩ := own_gf X2 hx hZ hown e2 P1 2 (own_w hw 60) (v := (.ref (A 2))) (P1.2.2.2.1 2 (by omega)) (hb hby d23_13) #[.val (.ref ob), .val (.int (1 : Int32)), .val (.int (2 : Int32)), .val (.int (0 : Int32))] []
  obtain ⟨T4, h4, l4, X4, e4, N4, P4, st4⟩ := own_ist X3 hx hZ e3 N1 P1 2 2 (j := (2 : Int32)) (x := (1 : Int32)) (hb hby d23_18) #[.val (.ref ob), .val (.int (1 : Int32)), .val (.int (2 : Int32)), .val (.int (0 : Int32))] [] (by omega)
  obtain ⟨T5, X5, e5, st5⟩ := own_gf X4 hx hZ hown e4 P4 3 (own_w hw 62) (v := (.ref (A 3))) (P4.2.2.2.1 3 (by omega)) (hb hby d23_20) #[.val (.ref ob), .val (.int (1 : Int32)), .val (.int (2 : Int32)), .val (.int (0 : Int32))] []
  obtain ⟨T6, h6, l6, X6, e6, N6, P6, st6⟩ := own_ist X5 hx hZ e5 N4 P4 3 2 (j := (2 : Int32)) (x := (0 : Int32)) (hb hby d23_25) #[.val (.ref ob), .val (.int (1 : Int32)), .val (.int (2 : Int32)), .val (.int (0 : Int32))] [] (by omega)
  obtain ⟨T7, X7, e7, st7⟩ := own_gf X6 hx hZ hown e6 P6 3 (own_w hw 62) (v := (.ref (A 3))) (P6.2.2.2.1 3 (by omega)) (hb hby d23_27) #[.val (.ref ob), .val (.int (1 : Int32)), .val (.int (2 : Int32)), .val (.int (0 : Int32))] []
  obtain ⟨T8, h8, l8, X8, e8, N8, P8, st8⟩ := own_ist X7 hx hZ e7 N6 P6 3 1 (j := (1 : Int32)) (x := (2 : Int32)) (hb hby d23_32) #[.val (.ref ob), .val (.int (1 : Int32)), .val (.int (2 : Int32)), .val (.int (0 : Int32))] [] (by omega)
  obtain ⟨T9, h9, l9, X9, e9, N9, P9, st9⟩ := own_pp X8 hx hZ hw hown e8 N8 P8 24 (own_w hw 142) (Or.inl (own_w hw 143)) (v := (.int (2 : Int32))) (hb hby d23_39) #[.val (.ref ob), .val (.int (1 : Int32)), .val (.int (2 : Int32)), .val (.int (0 : Int32))] [] rfl rfl (by omega)
  obtain ⟨T10, X10, e10, st10⟩ := own_gf X9 hx hZ hown e9 P9 7 (own_w hw 76) (v := (.ref (A 7))) (P9.2.2.2.1 7 (by omega)) (hb hby d23_53) #[.val (.ref ob), .val (.int (1 : Int32)), .val (.int (2 : Int32)), .val (.int (0 : Int32))] []
  obtain ⟨T11, h11, l11, X11, e11, N11, P11, st11⟩ := own_zst X10 hx hZ e10 N9 P9 7 2 (j := (2 : Int32)) (hb hby d23_58) #[.val (.ref ob), .val (.int (1 : Int32)), .val (.int (2 : Int32)), .val (.int (0 : Int32))] [] (by omega)
  obtain ⟨T12, X12, e12, st12⟩ := own_gf X11 hx hZ hown e11 P11 9 (own_w hw 84) (v := (.ref (A 9))) (P11.2.2.2.1 9 (by omega)) (hb hby d23_60) #[.val (.ref ob), .val (.int (1 : Int32)), .val (.int (2 : Int32)), .val (.int (0 : Int32))] []
  obtain ⟨T13, h13, l13, X13, e13, N13, P13, st13⟩ := own_zst X12 hx hZ e12 N11 P11 9 2 (j := (2 : Int32)) (hb hby d23_65) #[.val (.ref ob), .val (.int (1 : Int32)), .val (.int (2 : Int32)), .val (.int (0 : Int32))] [] (by omega)
  obtain ⟨fs, hr, hrun, hended, hW, hsame⟩ := X13.leave (v := some (.int (2 : Int32))) (fun h => by rw [Bd.returns] at h; cases h)
  refine ⟨_, _, castTop ef ?_, hrun, hended, _, _, rfl, ?_, ⟨_, rfl⟩, hW, hsame.mono (by decide) (by decide)⟩
  · refine s_aloadN X0 hx (hb hby d23_0) rfl rfl ?_
    refine st1.trans ?_
    refine s_istoreN X1 hx #[.val (.ref ob), .val (.int (1 : Int32)), .val (.int (2 : Int32)), .unset] (hb hby d23_4) rfl ?_
    refine s_aloadN X1 hx (hb hby d23_5) rfl rfl ?_
    refine st2 _ ?_
    refine s_iloadN X2 hx (hb hby d23_9) rfl ?_
    refine own_ial X2 hx hZ e2 P1 3 1 (v := (.int (0 : Int32))) (own_vn (own_vn (own_vn hV3_1))) (hb hby d23_10) (by omega) ?_
    refine s_istoreN X2 hx #[.val (.ref ob), .val (.int (1 : Int32)), .val (.int (2 : Int32)), .val (.int (0 : Int32))] (hb hby d23_11) rfl ?_
    refine s_aloadN X2 hx (hb hby d23_12) rfl rfl ?_
    refine st3 _ ?_
    refine s_iloadN X3 hx (hb hby d23_16) rfl ?_
    refine s_iloadN X3 hx (hb hby d23_17) rfl ?_
    refine st4 _ ?_
    refine s_aloadN X4 hx (hb hby d23_19) rfl rfl ?_
    refine st5 _ ?_
    refine s_iloadN X5 hx (hb hby d23_23) rfl ?_
    refine s_iloadN X5 hx (hb hby d23_24) rfl ?_
    refine st6 _ ?_
    refine s_aloadN X6 hx (hb hby d23_26) rfl rfl ?_
    refine st7 _ ?_
    refine s_iloadN X7 hx (hb hby d23_30) rfl ?_
    refine s_iloadN X7 hx (hb hby d23_31) rfl ?_
    refine st8 _ ?_
    refine s_iloadN X8 hx (hb hby d23_33) rfl ?_
    refine s_ifN X8 hx (hb hby d23_34) (by decide) ?_
    refine s_aloadN X8 hx (hb hby d23_37) rfl rfl ?_
    refine s_iloadN X8 hx (hb hby d23_38) rfl ?_
    refine st9 _ ?_
    refine s_goto X9 hx 52 (hb hby d23_42) (by decide) (by decide) ?_
    refine s_aloadN X9 hx (hb hby d23_52) rfl rfl ?_
    refine st10 _ ?_
    refine s_iloadN X10 hx (hb hby d23_56) rfl ?_
    refine s_iconst X10 hx (1 : Int32) (hb hby d23_57) rfl ?_
    refine st11 _ ?_
    refine s_aloadN X11 hx (hb hby d23_59) rfl rfl ?_
    refine st12 _ ?_
    refine s_iloadN X12 hx (hb hby d23_63) rfl ?_
    refine s_iconst X12 hx (1 : Int32) (hb hby d23_64) rfl ?_
    refine st13 _ ?_
    refine s_iloadN X13 hx (hb hby d23_66) rfl ?_
    exact retI X13 hx Bd.returns (hb hby d23_67) hr
  · show ((_ : Option Value) = some (.int (2 : Int32)) ∧ Fr n0 _ ∧ own_PS Z T13.heap n0 ob nA A (own_up (own_up (own_up (own_up (own_up F 17 (.int (3 : Int32))) 18 (.long (-5553300284382974547 : Int64))) 18 (.long (-5509191256401354634 : Int64))) 18 (.long (7273575876580499574 : Int64))) 24 (.int (2 : Int32))) (own_vs (own_vs (own_vs (own_vs (own_vs (own_vs (own_vs (own_vs V 0 8 (.int (0 : Int32))) 0 9 (.int (0 : Int32))) 0 10 (.int (846755676 : Int32))) 2 2 (.int (1 : Int32))) 3 2 (.int (0 : Int32))) 3 1 (.int (2 : Int32))) 7 2 (.int (1 : Int32))) 9 2 (.int (1 : Int32))))
    rw [e13]
    exact ⟨rfl, N13, P13⟩
set_option maxRecDepth 65536 in
set_option maxHeartbeats 40000000 in
theorem rm14_2 (l : Launch) (Z : State) (a0 : Array Value) (hw : own_HW Z a0) (ws : List Jvm.Cond) {nA : Nat} {A : Nat → Addr} {F : Nat → Value} {V : Nat → List Value} (ob : Addr)  (h0 : Heap) (n0 : Nat) (P : own_PS Z h0 n0 ob nA A F V) (hA : 13 ≤ nA) (hB : nA ≤ 14) (hV0_8 : (V 0).getD 8 (own_aZ 0) = (.int (0 : Int32))) :
    own_C l Z own_y13 bc14 2 (some .int) ws 0 0 #[(.ref ob), (.int (2 : Int32))] h0 (fun v h L => (v = some (.int (0 : Int32)) ∧ Fr n0 L ∧ h = h0)) := by
  refine MetFree.of_bodySF (plainFor_of_name own_pn1) hisR ?_
  intro p e s m args below meth c s₁ Bd hml0 hP hK
  obtain ⟨rfl, hZ, hh⟩ := hP
  have hx := Bd.exec
  have hby := Bd.bytes
  have hml : c.maxLocals = 2 := hml0
  have hown : s.vm.findClass "com/example/jobwright/jobwright/policies/Treap" = some m.cls := findClass_of_methodNamed Bd.named
  have X0 : Stand p l e ({ frames := 0, cells := 0, slots := 0, locals := 0 } : Room) s m #[(.ref ob), (.int (2 : Int32))] below meth c s₁ [] 0 0 := Stand.of_body Bd
  have e0 : s₁.heap = h0 := by rw [← hh, Bd.state]; rfl
  have N0 := Fr.nil n0
  have ef : entryFrame m #[(.ref ob), (.int (2 : Int32))] 2 = mkF m 0 #[.val (.ref ob), .val (.int (2 : Int32))] [] := by first | (simp [entryFrame, mkF, argsToLocals, Value.category]; done) | rfl
  obtain ⟨T1, X1, e1, st1⟩ := own_gf X0 hx hZ hown e0 P 0 (own_w hw 22) (v := (.ref (A 0))) (P.2.2.2.1 0 (by omega)) (hb hby d14_1) #[.val (.ref ob), .val (.int (2 : Int32))] []
  obtain ⟨fs, hr, hrun, hended, hW, hsame⟩ := X1.leave (v := some (.int (0 : Int32))) (fun h => by rw [Bd.returns] at h; cases h)
  refine ⟨_, _, castTop ef ?_, hrun, hended, _, _, rfl, ?_, ⟨_, rfl⟩, hW, hsame.mono (by decide) (by decide)⟩
  · refine s_aloadN X0 hx (hb hby d14_0) rfl rfl ?_
    refine st1 _ ?_
    refine s_iloadN X1 hx (hb hby d14_4) rfl ?_
    refine s_iconst X1 hx (2 : Int32) (hb hby d14_5) rfl ?_
    refine s_ishl X1 hx (8 : Int32) (hb hby d14_6) (by decide) ?_
    refine own_ial X1 hx hZ e1 P 0 8 (v := (.int (0 : Int32))) hV0_8 (hb hby d14_7) (by omega) ?_
    exact retI X1 hx Bd.returns (hb hby d14_8) hr
  · show ((_ : Option Value) = some (.int (0 : Int32)) ∧ Fr n0 _ ∧ T1.heap = h0)
    rw [e1]
    exact ⟨rfl, N0, rfl⟩
set_option maxRecDepth 65536 in
set_option maxHeartbeats 40000000 in
theorem rm15_2 (l : Launch) (Z : State) (a0 : Array Value) (hw : own_HW Z a0) (ws : List Jvm.Cond) {nA : Nat} {A : Nat → Addr} {F : Nat → Value} {V : Nat → List Value} (ob : Addr)  (h0 : Heap) (n0 : Nat) (P : own_PS Z h0 n0 ob nA A F V) (hA : 13 ≤ nA) (hB : nA ≤ 14) (hV0_9 : (V 0).getD 9 (own_aZ 0) = (.int (0 : Int32))) :
    own_C l Z own_y4 bc15 2 (some .int) ws 0 0 #[(.ref ob), (.int (2 : Int32))] h0 (fun v h L => (v = some (.int (0 : Int32)) ∧ Fr n0 L ∧ h = h0)) := by
  refine MetFree.of_bodySF (plainFor_of_name own_pn1) hisR ?_
  intro p e s m args below meth c s₁ Bd hml0 hP hK
  obtain ⟨rfl, hZ, hh⟩ := hP
  have hx := Bd.exec
  have hby := Bd.bytes
  have hml : c.maxLocals = 2 := hml0
  have hown : s.vm.findClass "com/example/jobwright/jobwright/policies/Treap" = some m.cls := findClass_of_methodNamed Bd.named
  have X0 : Stand p l e ({ frames := 0, cells := 0, slots := 0, locals := 0 } : Room) s m #[(.ref ob), (.int (2 : Int32))] below meth c s₁ [] 0 0 := Stand.of_body Bd
  have e0 : s₁.heap = h0 := by rw [← hh, Bd.state]; rfl
  have N0 := Fr.nil n0
  have ef : entryFrame m #[(.ref ob), (.int (2 : Int32))] 2 = mkF m 0 #[.val (.ref ob), .val (.int (2 : Int32))] [] := by first | (simp [entryFrame, mkF, argsToLocals, Value.category]; done) | rfl
  obtain ⟨T1, X1, e1, st1⟩ := own_gf X0 hx hZ hown e0 P 0 (own_w hw 22) (v := (.ref (A 0))) (P.2.2.2.1 0 (by omega)) (hb hby d15_1) #[.val (.ref ob), .val (.int (2 : Int32))] []
  obtain ⟨fs, hr, hrun, hended, hW, hsame⟩ := X1.leave (v := some (.int (0 : Int32))) (fun h => by rw [Bd.returns] at h; cases h)
  refine ⟨_, _, castTop ef ?_, hrun, hended, _, _, rfl, ?_, ⟨_, rfl⟩, hW, hsame.mono (by decide) (by decide)⟩
  · refine s_aloadN X0 hx (hb hby d15_0) rfl rfl ?_
    refine st1 _ ?_
    refine s_iloadN X1 hx (hb hby d15_4) rfl ?_
    refine s_iconst X1 hx (2 : Int32) (hb hby d15_5) rfl ?_
    refine s_ishl X1 hx (8 : Int32) (hb hby d15_6) (by decide) ?_
    refine s_iconst X1 hx (1 : Int32) (hb hby d15_7) rfl ?_
    refine s_iadd X1 hx (9 : Int32) (hb hby d15_8) (by decide) ?_
    refine own_ial X1 hx hZ e1 P 0 9 (v := (.int (0 : Int32))) hV0_9 (hb hby d15_9) (by omega) ?_
    exact retI X1 hx Bd.returns (hb hby d15_10) hr
  · show ((_ : Option Value) = some (.int (0 : Int32)) ∧ Fr n0 _ ∧ T1.heap = h0)
    rw [e1]
    exact ⟨rfl, N0, rfl⟩
set_option maxRecDepth 65536 in
set_option maxHeartbeats 40000000 in
theorem rm16_2 (l : Launch) (Z : State) (a0 : Array Value) (hw : own_HW Z a0) (ws : List Jvm.Cond) {nA : Nat} {A : Nat → Addr} {F : Nat → Value} {V : Nat → List Value} (ob : Addr)  (h0 : Heap) (n0 : Nat) (P : own_PS Z h0 n0 ob nA A F V) (hA : 13 ≤ nA) (hB : nA ≤ 14) (hF19 : F 19 = (.int (1 : Int32))) (hV1_2 : (V 1).getD 2 (own_aZ 1) = (.int (1 : Int32))) (hV12_4 : (V 12).getD 4 (own_aZ 12) = (.int (0 : Int32))) :
    own_C l Z own_y16 bc16 2 (some .int) ws 0 0 #[(.ref ob), (.int (2 : Int32))] h0 (fun v h L => (v = some (.int (0 : Int32)) ∧ Fr n0 L ∧ h = h0)) := by
  refine MetFree.of_bodySF (plainFor_of_name own_pn2) hisR ?_
  intro p e s m args below meth c s₁ Bd hml0 hP hK
  obtain ⟨rfl, hZ, hh⟩ := hP
  have hx := Bd.exec
  have hby := Bd.bytes
  have hml : c.maxLocals = 2 := hml0
  have hown : s.vm.findClass "com/example/jobwright/jobwright/policies/ProfileSteps" = some m.cls := findClass_of_methodNamed Bd.named
  have X0 : Stand p l e ({ frames := 0, cells := 0, slots := 0, locals := 0 } : Room) s m #[(.ref ob), (.int (2 : Int32))] below meth c s₁ [] 0 0 := Stand.of_body Bd
  have e0 : s₁.heap = h0 := by rw [← hh, Bd.state]; rfl
  have N0 := Fr.nil n0
  have ef : entryFrame m #[(.ref ob), (.int (2 : Int32))] 2 = mkF m 0 #[.val (.ref ob), .val (.int (2 : Int32))] [] := by first | (simp [entryFrame, mkF, argsToLocals, Value.category]; done) | rfl
  obtain ⟨T1, X1, e1, st1⟩ := own_gf X0 hx hZ hown e0 P 12 (own_w hw 94) (v := (.ref (A 12))) (P.2.2.2.1 12 (by omega)) (hb hby d16_1) #[.val (.ref ob), .val (.int (2 : Int32))] []
  obtain ⟨T2, X2, e2, st2⟩ := own_gf X1 hx hZ hown e1 P 19 (own_w hw 54) (v := (.int (1 : Int32))) hF19 (hb hby d16_6) #[.val (.ref ob), .val (.int (2 : Int32))] [(.int (2 : Int32)), (.ref (A 12))]
  obtain ⟨T3, X3, e3, st3⟩ := own_gf X2 hx hZ hown e2 P 1 (own_w hw 58) (v := (.ref (A 1))) (P.2.2.2.1 1 (by omega)) (hb hby d16_11) #[.val (.ref ob), .val (.int (2 : Int32))] [(.int (4 : Int32)), (.ref (A 12))]
  obtain ⟨fs, hr, hrun, hended, hW, hsame⟩ := X3.leave (v := some (.int (0 : Int32))) (fun h => by rw [Bd.returns] at h; cases h)
  refine ⟨_, _, castTop ef ?_, hrun, hended, _, _, rfl, ?_, ⟨_, rfl⟩, hW, hsame.mono (by decide) (by decide)⟩
  · refine s_aloadN X0 hx (hb hby d16_0) rfl rfl ?_
    refine st1 _ ?_
    refine s_iloadN X1 hx (hb hby d16_4) rfl ?_
    refine s_aloadN X1 hx (hb hby d16_5) rfl rfl ?_
    refine st2 _ ?_
    refine s_ishl X2 hx (4 : Int32) (hb hby d16_9) (by decide) ?_
    refine s_aloadN X2 hx (hb hby d16_10) rfl rfl ?_
    refine st3 _ ?_
    refine s_iloadN X3 hx (hb hby d16_14) rfl ?_
    refine own_ial X3 hx hZ e3 P 1 2 (v := (.int (1 : Int32))) hV1_2 (hb hby d16_15) (by omega) ?_
    refine s_iadd X3 hx (5 : Int32) (hb hby d16_16) (by decide) ?_
    refine s_iconst X3 hx (1 : Int32) (hb hby d16_17) rfl ?_
    refine s_isub X3 hx (4 : Int32) (hb hby d16_18) (by decide) ?_
    refine own_ial X3 hx hZ e3 P 12 4 (v := (.int (0 : Int32))) hV12_4 (hb hby d16_19) (by omega) ?_
    exact retI X3 hx Bd.returns (hb hby d16_20) hr
  · show ((_ : Option Value) = some (.int (0 : Int32)) ∧ Fr n0 _ ∧ T3.heap = h0)
    rw [e3]
    exact ⟨rfl, N0, rfl⟩
set_option maxRecDepth 65536 in
set_option maxHeartbeats 40000000 in
theorem rm17_2 (l : Launch) (Z : State) (a0 : Array Value) (hw : own_HW Z a0) (ws : List Jvm.Cond) {nA : Nat} {A : Nat → Addr} {F : Nat → Value} {V : Nat → List Value} (ob : Addr)  (h0 : Heap) (n0 : Nat) (P : own_PS Z h0 n0 ob nA A F V) (hA : 13 ≤ nA) (hB : nA ≤ 14) (hM : nA = 14) (hF19 : F 19 = (.int (1 : Int32))) (hV1_2 : (V 1).getD 2 (own_aZ 1) = (.int (1 : Int32))) (hV13_4 : (V 13).getD 4 (own_aZ 13) = (.long (0 : Int64))) :
    own_C l Z own_y18 bc17 2 (some .long) ws 0 0 #[(.ref ob), (.int (2 : Int32))] h0 (fun v h L => (v = some (.long (0 : Int64)) ∧ Fr n0 L ∧ h = h0)) := by
  refine MetFree.of_bodySF (plainFor_of_name own_pn2) hisR ?_
  intro p e s m args below meth c s₁ Bd hml0 hP hK
  obtain ⟨rfl, hZ, hh⟩ := hP
  have hx := Bd.exec
  have hby := Bd.bytes
  have hml : c.maxLocals = 2 := hml0
  have hown : s.vm.findClass "com/example/jobwright/jobwright/policies/ProfileSteps" = some m.cls := findClass_of_methodNamed Bd.named
  have X0 : Stand p l e ({ frames := 0, cells := 0, slots := 0, locals := 0 } : Room) s m #[(.ref ob), (.int (2 : Int32))] below meth c s₁ [] 0 0 := Stand.of_body Bd
  have e0 : s₁.heap = h0 := by rw [← hh, Bd.state]; rfl
  have N0 := Fr.nil n0
  have ef : entryFrame m #[(.ref ob), (.int (2 : Int32))] 2 = mkF m 0 #[.val (.ref ob), .val (.int (2 : Int32))] [] := by first | (simp [entryFrame, mkF, argsToLocals, Value.category]; done) | rfl
  obtain ⟨T1, X1, e1, st1⟩ := own_gf X0 hx hZ hown e0 P 13 (own_w hw 96) (v := (.ref (A 13))) (P.2.2.2.1 13 (by omega)) (hb hby d17_1) #[.val (.ref ob), .val (.int (2 : Int32))] []
  obtain ⟨T2, X2, e2, st2⟩ := own_gf X1 hx hZ hown e1 P 13 (own_w hw 96) (v := (.ref (A 13))) (P.2.2.2.1 13 (by omega)) (hb hby d17_12) #[.val (.ref ob), .val (.int (2 : Int32))] []
  obtain ⟨T3, X3, e3, st3⟩ := own_gf X2 hx hZ hown e2 P 19 (own_w hw 54) (v := (.int (1 : Int32))) hF19 (hb hby d17_17) #[.val (.ref ob), .val (.int (2 : Int32))] [(.int (2 : Int32)), (.ref (A 13))]
  obtain ⟨T4, X4, e4, st4⟩ := own_gf X3 hx hZ hown e3 P 1 (own_w hw 58) (v := (.ref (A 1))) (P.2.2.2.1 1 (by omega)) (hb hby d17_22) #[.val (.ref ob), .val (.int (2 : Int32))] [(.int (4 : Int32)), (.ref (A 13))]
  obtain ⟨fs, hr, hrun, hended, hW, hsame⟩ := X4.leave (v := some (.long (0 : Int64))) (fun h => by rw [Bd.returns] at h; cases h)
  refine ⟨_, _, castTop ef ?_, hrun, hended, _, _, rfl, ?_, ⟨_, rfl⟩, hW, hsame.mono (by decide) (by decide)⟩
  · refine s_aloadN X0 hx (hb hby d17_0) rfl rfl ?_
    refine st1 _ ?_
    refine s_nnullY X1 hx 11 (hb hby d17_4) (by decide) (by decide) ?_
    refine s_aloadN X1 hx (hb hby d17_11) rfl rfl ?_
    refine st2 _ ?_
    refine s_iloadN X2 hx (hb hby d17_15) rfl ?_
    refine s_aloadN X2 hx (hb hby d17_16) rfl rfl ?_
    refine st3 _ ?_
    refine s_ishl X3 hx (4 : Int32) (hb hby d17_20) (by decide) ?_
    refine s_aloadN X3 hx (hb hby d17_21) rfl rfl ?_
    refine st4 _ ?_
    refine s_iloadN X4 hx (hb hby d17_25) rfl ?_
    refine own_ial X4 hx hZ e4 P 1 2 (v := (.int (1 : Int32))) hV1_2 (hb hby d17_26) (by omega) ?_
    refine s_iadd X4 hx (5 : Int32) (hb hby d17_27) (by decide) ?_
    refine s_iconst X4 hx (1 : Int32) (hb hby d17_28) rfl ?_
    refine s_isub X4 hx (4 : Int32) (hb hby d17_29) (by decide) ?_
    refine own_lal X4 hx hZ e4 P 13 4 (v := (.long (0 : Int64))) hV13_4 (hb hby d17_30) (by omega) ?_
    exact retOut X4 hx Bd.returns rfl (Or.inr (Or.inl ⟨rfl, rfl, _, rfl⟩)) (hb hby d17_31) hr
  · show ((_ : Option Value) = some (.long (0 : Int64)) ∧ Fr n0 _ ∧ T4.heap = h0)
    rw [e4]
    exact ⟨rfl, N0, rfl⟩
set_option maxRecDepth 65536 in
set_option maxHeartbeats 40000000 in
theorem rm18_2 (l : Launch) (Z : State) (a0 : Array Value) (hw : own_HW Z a0) (ws : List Jvm.Cond) {nA : Nat} {A : Nat → Addr} {F : Nat → Value} {V : Nat → List Value} (ob : Addr)  (h0 : Heap) (n0 : Nat) (P : own_PS Z h0 n0 ob nA A F V) (hA : 13 ≤ nA) (hB : nA ≤ 14)  :
    own_C l Z own_y19 bc18 2 none ws 0 0 #[(.ref ob), (.int (2 : Int32))] h0 (fun v h L => (v = none ∧ Fr n0 L ∧ own_PS Z h n0 ob nA A F (own_vs (own_vs V 8 2 (.int (1 : Int32))) 10 2 (.int (1 : Int32))))) := by
  refine MetFree.of_bodySF (plainFor_of_name own_pn2) hisR ?_
  intro p e s m args below meth c s₁ Bd hml0 hP hK
  obtain ⟨rfl, hZ, hh⟩ := hP
  have hx := Bd.exec
  have hby := Bd.bytes
  have hml : c.maxLocals = 2 := hml0
  have hown : s.vm.findClass "com/example/jobwright/jobwright/policies/ProfileSteps" = some m.cls := findClass_of_methodNamed Bd.named
  have X0 : Stand p l e ({ frames := 0, cells := 0, slots := 0, locals := 0 } : Room) s m #[(.ref ob), (.int (2 : Int32))] below meth c s₁ [] 0 0 := Stand.of_body Bd
  have e0 : s₁.heap = h0 := by rw [← hh, Bd.state]; rfl
  have N0 := Fr.nil n0
  have ef : entryFrame m #[(.ref ob), (.int (2 : Int32))] 2 = mkF m 0 #[.val (.ref ob), .val (.int (2 : Int32))] [] := by first | (simp [entryFrame, mkF, argsToLocals, Value.category]; done) | rfl
  obtain ⟨T1, X1, e1, st1⟩ := own_gf X0 hx hZ hown e0 P 8 (own_w hw 78) (v := (.ref (A 8))) (P.2.2.2.1 8 (by omega)) (hb hby d18_1) #[.val (.ref ob), .val (.int (2 : Int32))] []
  obtain ⟨T2, h2, l2, X2, e2, N2, P2, st2⟩ := own_zst X1 hx hZ e1 N0 P 8 2 (j := (2 : Int32)) (hb hby d18_6) #[.val (.ref ob), .val (.int (2 : Int32))] [] (by omega)
  obtain ⟨T3, X3, e3, st3⟩ := own_gf X2 hx hZ hown e2 P2 10 (own_w hw 90) (v := (.ref (A 10))) (P2.2.2.2.1 10 (by omega)) (hb hby d18_8) #[.val (.ref ob), .val (.int (2 : Int32))] []
  obtain ⟨T4, h4, l4, X4, e4, N4, P4, st4⟩ := own_zst X3 hx hZ e3 N2 P2 10 2 (j := (2 : Int32)) (hb hby d18_13) #[.val (.ref ob), .val (.int (2 : Int32))] [] (by omega)
  obtain ⟨fs, hr, hrun, hended, hW, hsame⟩ := X4.leave (v := none) (fun _ => rfl)
  refine ⟨_, _, castTop ef ?_, hrun, hended, _, _, rfl, ?_, ⟨_, rfl⟩, hW, hsame.mono (by decide) (by decide)⟩
  · refine s_aloadN X0 hx (hb hby d18_0) rfl rfl ?_
    refine st1 _ ?_
    refine s_iloadN X1 hx (hb hby d18_4) rfl ?_
    refine s_iconst X1 hx (1 : Int32) (hb hby d18_5) rfl ?_
    refine st2 _ ?_
    refine s_aloadN X2 hx (hb hby d18_7) rfl rfl ?_
    refine st3 _ ?_
    refine s_iloadN X3 hx (hb hby d18_11) rfl ?_
    refine s_iconst X3 hx (1 : Int32) (hb hby d18_12) rfl ?_
    refine st4 _ ?_
    exact X4.returnOut hx Bd.returns (hb hby d18_14) hr
  · show ((_ : Option Value) = none ∧ Fr n0 _ ∧ own_PS Z T4.heap n0 ob nA A F (own_vs (own_vs V 8 2 (.int (1 : Int32))) 10 2 (.int (1 : Int32))))
    rw [e4]
    exact ⟨rfl, N4, P4⟩
set_option maxRecDepth 65536 in
set_option maxHeartbeats 40000000 in
theorem rm13_2 (l : Launch) (Z : State) (a0 : Array Value) (hw : own_HW Z a0) (ws : List Jvm.Cond) {nA : Nat} {A : Nat → Addr} {F : Nat → Value} {V : Nat → List Value} (ob : Addr)  (h0 : Heap) (n0 : Nat) (P : own_PS Z h0 n0 ob nA A F V) (hA : 13 ≤ nA) (hB : nA ≤ 14) (hM : nA = 14) (hF19 : F 19 = (.int (1 : Int32))) (hV0_8 : (V 0).getD 8 (own_aZ 0) = (.int (0 : Int32))) (hV0_9 : (V 0).getD 9 (own_aZ 0) = (.int (0 : Int32))) (hV5_0 : (V 5).getD 0 (own_aZ 5) = (.int (0 : Int32))) (hV1_2 : (V 1).getD 2 (own_aZ 1) = (.int (1 : Int32))) (hV12_4 : (V 12).getD 4 (own_aZ 12) = (.int (0 : Int32))) (hV6_0 : (V 6).getD 0 (own_aZ 6) = (.long (0 : Int64))) (hV13_4 : (V 13).getD 4 (own_aZ 13) = (.long (0 : Int64))) :
    own_C l Z own_y20 bc13 4 (some .boolean) ws 1 17 #[(.ref ob), (.int (2 : Int32))] h0 (fun v h L => (v = some (.int (1 : Int32)) ∧ Fr n0 L ∧ own_PS Z h n0 ob nA A F (own_vs (own_vs (own_vs (own_vs (own_vs V 5 2 (.int (0 : Int32))) 6 2 (.long (0 : Int64))) 4 2 (.int (2 : Int32))) 8 2 (.int (1 : Int32))) 10 2 (.int (1 : Int32))))) := by
  refine MetFree.of_bodySF (plainFor_of_name own_pn2) hisR ?_
  intro p e s m args below meth c s₁ Bd hml0 hP hK
  obtain ⟨rfl, hZ, hh⟩ := hP
  have hx := Bd.exec
  have hby := Bd.bytes
  have hml : c.maxLocals = 4 := hml0
  have hown : s.vm.findClass "com/example/jobwright/jobwright/policies/ProfileSteps" = some m.cls := findClass_of_methodNamed Bd.named
  have X0 : Stand p l e ({ frames := 1, cells := 0, slots := 0, locals := 17 } : Room) s m #[(.ref ob), (.int (2 : Int32))] below meth c s₁ [] 0 0 := Stand.of_body Bd
  have e0 : s₁.heap = h0 := by rw [← hh, Bd.state]; rfl
  have N0 := Fr.nil n0
  have ef : entryFrame m #[(.ref ob), (.int (2 : Int32))] 4 = mkF m 0 #[.val (.ref ob), .val (.int (2 : Int32)), .unset, .unset] [] := by first | (simp [entryFrame, mkF, argsToLocals, Value.category]; done) | rfl
  obtain ⟨cq1, kq1, q1a, q1b, q1c⟩ := isOf hZ e0 P.1
  obtain ⟨_, _, ⟨T1, L1, k1, n1⟩, -, X1, ⟨Lc1, hQ1, l1, y1, z1⟩, st1⟩ := X0.virtualBackUp hx (x := own_y14) (y := own_y13) (owner := "com/example/jobwright/jobwright/policies/Treap") hown (mvT hZ (own_w hw 159)) (mvT hZ (own_w hw 160)) (mvT hZ (own_w hw 161)) (by decide) (mvT hZ (own_w hw 163)) (mvT hZ (own_w hw 162)) (backOf (W := 0) (rm14_2 l Z a0 hw [] ob  h0 n0 P hA hB  hV0_8 ) hZ (own_w hw 164) (own_w hw 9) (by decide) (by decide)) q1a q1c (g := (mkF m 2 #[.val (.ref ob), .val (.int (2 : Int32)), .unset, .unset] [(.int (2 : Int32)), (.ref ob)])) rfl (by rw [hml]; rfl) (Steps.refl _) (argsL := [(.int (2 : Int32))]) (rest := []) (lenOf own_pd5 rfl) rfl (by show 2 * 0 + _ ≤ _; exact Nat.le_of_eq rfl) (hb hby d13_2) (fun _ _ => ⟨rfl, e0, (by decide : 0 + 0 ≤ _), (by decide : 0 + 0 ≤ _)⟩)
  dsimp only [Pt.U, Pt.locs, Pt.cells, Pt.slots] at X1 l1 y1 z1 st1 hQ1
  subst l1 y1 z1
  obtain ⟨rfl, Nq1, eh1⟩ := hQ1
  have N1 := Fr.app N0 Nq1
  obtain ⟨cq2, kq2, q2a, q2b, q2c⟩ := isOf hZ eh1 P.1
  obtain ⟨_, _, ⟨T2, L2, k2, n2⟩, -, X2, ⟨Lc2, hQ2, l2, y2, z2⟩, st2⟩ := X1.virtualBackUp hx (x := own_y15) (y := own_y4) (owner := "com/example/jobwright/jobwright/policies/Treap") hown (mvT hZ (own_w hw 165)) (mvT hZ (own_w hw 166)) (mvT hZ (own_w hw 167)) (by decide) (mvT hZ (own_w hw 169)) (mvT hZ (own_w hw 168)) (backOf (W := 0) (rm15_2 l Z a0 hw [] ob  h0 n0 P hA hB  hV0_9 ) hZ (own_w hw 170) (own_w hw 9) (by decide) (by decide)) q2a q2c (g := (mkF m 8 #[.val (.ref ob), .val (.int (2 : Int32)), .val (.int (0 : Int32)), .unset] [(.int (2 : Int32)), (.ref ob)])) rfl (by rw [hml]; rfl) (Steps.refl _) (argsL := [(.int (2 : Int32))]) (rest := []) (lenOf own_pd5 rfl) rfl (by show 2 * 0 + _ ≤ _; exact Nat.le_of_eq rfl) (hb hby d13_8) (fun _ _ => ⟨rfl, eh1, (by decide : 0 + 0 ≤ _), (by decide : 0 + 0 ≤ _)⟩)
  dsimp only [Pt.U, Pt.locs, Pt.cells, Pt.slots] at X2 l2 y2 z2 st2 hQ2
  subst l2 y2 z2
  obtain ⟨rfl, Nq2, eh2⟩ := hQ2
  have N2 := Fr.app N1 Nq2
  obtain ⟨T3, X3, e3, st3⟩ := own_gf X2 hx hZ hown eh2 P 5 (own_w hw 66) (v := (.ref (A 5))) (P.2.2.2.1 5 (by omega)) (hb hby d13_13) #[.val (.ref ob), .val (.int (2 : Int32)), .val (.int (0 : Int32)), .val (.int (0 : Int32))] []
  obtain ⟨T4, X4, e4, st4⟩ := own_gf X3 hx hZ hown e3 P 5 (own_w hw 66) (v := (.ref (A 5))) (P.2.2.2.1 5 (by omega)) (hb hby d13_18) #[.val (.ref ob), .val (.int (2 : Int32)), .val (.int (0 : Int32)), .val (.int (0 : Int32))] [(.int (2 : Int32)), (.ref (A 5))]
  obtain ⟨cq5, q5, q5'⟩ := P.1.cell
  obtain ⟨_, _, ⟨T5, L5, k5, n5⟩, -, X5, ⟨Lc5, hQ5, l5, y5, z5⟩, st5⟩ := X4.privateBack hx (y := own_y16) hown (mvT hZ (own_w hw 171)) (mvT hZ (own_w hw 172)) (own_psel (z := own_y17) (mvT hZ (own_w hw 103)) (mvP hZ (own_w hw 173)) (mvT hZ (own_w hw 172)) rfl (by decide)) (Cond.privateMethod_at (mvP hZ (own_w hw 173) (args := #[]))) (mvT hZ (own_w hw 174)) (by decide) (backOf (W := 3) (rm16_2 l Z a0 hw [] ob  h0 n0 P hA hB hF19 hV1_2 hV12_4 ) hZ (own_w hw 174) (own_w hw 2) (by decide) (by decide)) (g := (mkF m 25 #[.val (.ref ob), .val (.int (2 : Int32)), .val (.int (0 : Int32)), .val (.int (0 : Int32))] [(.int (2 : Int32)), (.ref ob), (.int (0 : Int32)), (.int (2 : Int32)), (.ref (A 5))])) rfl (by rw [hml]; rfl) (Steps.refl _) (a := ob) (by rw [e4]; exact q5) q5' (argsL := [(.int (2 : Int32))]) (rest := [(.int (0 : Int32)), (.int (2 : Int32)), (.ref (A 5))]) (lenOf own_pd5 rfl) rfl (by show 2 * 0 + _ ≤ _; exact Nat.le_of_eq rfl) (hb hby d13_25) (fun _ _ => ⟨rfl, e4, (by decide : 0 + 0 ≤ _), (by decide : 0 + 0 ≤ _)⟩)
  dsimp only [Pt.U, Pt.locs, Pt.cells, Pt.slots] at X5 l5 y5 z5 st5 hQ5
  subst l5 y5 z5
  obtain ⟨rfl, Nq5, eh5⟩ := hQ5
  have N5 := Fr.app N2 Nq5
  obtain ⟨T6, X6, e6, st6⟩ := own_gf X5 hx hZ hown eh5 P 5 (own_w hw 66) (v := (.ref (A 5))) (P.2.2.2.1 5 (by omega)) (hb hby d13_30) #[.val (.ref ob), .val (.int (2 : Int32)), .val (.int (0 : Int32)), .val (.int (0 : Int32))] [(.int (0 : Int32)), (.int (2 : Int32)), (.ref (A 5))]
  obtain ⟨T7, h7, l7, X7, e7, N7, P7, st7⟩ := own_ist X6 hx hZ e6 N5 P 5 2 (j := (2 : Int32)) (x := (0 : Int32)) (hb hby d13_36) #[.val (.ref ob), .val (.int (2 : Int32)), .val (.int (0 : Int32)), .val (.int (0 : Int32))] [] (by omega)
  obtain ⟨T8, X8, e8, st8⟩ := own_gf X7 hx hZ hown e7 P7 6 (own_w hw 68) (v := (.ref (A 6))) (P7.2.2.2.1 6 (by omega)) (hb hby d13_38) #[.val (.ref ob), .val (.int (2 : Int32)), .val (.int (0 : Int32)), .val (.int (0 : Int32))] []
  obtain ⟨T9, X9, e9, st9⟩ := own_gf X8 hx hZ hown e8 P7 6 (own_w hw 68) (v := (.ref (A 6))) (P7.2.2.2.1 6 (by omega)) (hb hby d13_43) #[.val (.ref ob), .val (.int (2 : Int32)), .val (.int (0 : Int32)), .val (.int (0 : Int32))] [(.int (2 : Int32)), (.ref (A 6))]
  obtain ⟨cq10, q10, q10'⟩ := P7.1.cell
  obtain ⟨_, _, ⟨T10, L10, k10, n10⟩, -, X10, ⟨Lc10, hQ10, l10, y10, z10⟩, st10⟩ := X9.privateBack hx (y := own_y18) hown (mvT hZ (own_w hw 175)) (mvT hZ (own_w hw 176)) (own_psel (z := own_y17) (mvT hZ (own_w hw 103)) (mvP hZ (own_w hw 177)) (mvT hZ (own_w hw 176)) rfl (by decide)) (Cond.privateMethod_at (mvP hZ (own_w hw 177) (args := #[]))) (mvT hZ (own_w hw 178)) (by decide) (backOf (W := 4) (rm17_2 l Z a0 hw [] ob  h7 n0 P7 hA hB hM hF19 (own_vn hV1_2) (own_vn hV13_4) ) hZ (own_w hw 178) (own_w hw 2) (by decide) (by decide)) (g := (mkF m 50 #[.val (.ref ob), .val (.int (2 : Int32)), .val (.int (0 : Int32)), .val (.int (0 : Int32))] [(.int (2 : Int32)), (.ref ob), (.long (0 : Int64)), (.int (2 : Int32)), (.ref (A 6))])) rfl (by rw [hml]; rfl) (Steps.refl _) (a := ob) (by rw [e9]; exact q10) q10' (argsL := [(.int (2 : Int32))]) (rest := [(.long (0 : Int64)), (.int (2 : Int32)), (.ref (A 6))]) (lenOf own_pd6 rfl) rfl (by show 2 * 0 + _ ≤ _; exact Nat.le_of_eq rfl) (hb hby d13_50) (fun _ _ => ⟨rfl, e9, (by decide : 0 + 0 ≤ _), (by decide : 0 + 0 ≤ _)⟩)
  dsimp only [Pt.U, Pt.locs, Pt.cells, Pt.slots] at X10 l10 y10 z10 st10 hQ10
  subst l10 y10 z10
  obtain ⟨rfl, Nq10, eh10⟩ := hQ10
  have N10 := Fr.app N7 Nq10
  obtain ⟨T11, X11, e11, st11⟩ := own_gf X10 hx hZ hown eh10 P7 6 (own_w hw 68) (v := (.ref (A 6))) (P7.2.2.2.1 6 (by omega)) (hb hby d13_55) #[.val (.ref ob), .val (.int (2 : Int32)), .val (.int (0 : Int32)), .val (.int (0 : Int32))] [(.long (0 : Int64)), (.int (2 : Int32)), (.ref (A 6))]
  obtain ⟨T12, h12, l12, X12, e12, N12, P12, st12⟩ := own_lst X11 hx hZ e11 N10 P7 6 2 (j := (2 : Int32)) (x := (0 : Int64)) (hb hby d13_61) #[.val (.ref ob), .val (.int (2 : Int32)), .val (.int (0 : Int32)), .val (.int (0 : Int32))] [] (by omega)
  obtain ⟨T13, X13, e13, st13⟩ := own_gf X12 hx hZ hown e12 P12 4 (own_w hw 64) (v := (.ref (A 4))) (P12.2.2.2.1 4 (by omega)) (hb hby d13_63) #[.val (.ref ob), .val (.int (2 : Int32)), .val (.int (0 : Int32)), .val (.int (0 : Int32))] []
  obtain ⟨T14, h14, l14, X14, e14, N14, P14, st14⟩ := own_ist X13 hx hZ e13 N12 P12 4 2 (j := (2 : Int32)) (x := (2 : Int32)) (hb hby d13_81) #[.val (.ref ob), .val (.int (2 : Int32)), .val (.int (0 : Int32)), .val (.int (0 : Int32))] [] (by omega)
  obtain ⟨cq15, q15, q15'⟩ := P14.1.cell
  obtain ⟨_, _, ⟨T15, L15, k15, n15⟩, -, X15, ⟨Lc15, hQ15, l15, y15, z15⟩, st15⟩ := X14.privateBack hx (y := own_y19) hown (mvT hZ (own_w hw 179)) (mvT hZ (own_w hw 180)) (own_psel (z := own_y17) (mvT hZ (own_w hw 103)) (mvP hZ (own_w hw 181)) (mvT hZ (own_w hw 180)) rfl (by decide)) (Cond.privateMethod_at (mvP hZ (own_w hw 181) (args := #[]))) (mvT hZ (own_w hw 182)) (by decide) (backOf (W := 0) (rm18_2 l Z a0 hw [] ob  h14 n0 P14 hA hB   ) hZ (own_w hw 182) (own_w hw 2) (by decide) (by decide)) (g := (mkF m 84 #[.val (.ref ob), .val (.int (2 : Int32)), .val (.int (0 : Int32)), .val (.int (0 : Int32))] [(.int (2 : Int32)), (.ref ob)])) rfl (by rw [hml]; rfl) (Steps.refl _) (a := ob) (by rw [e14]; exact q15) q15' (argsL := [(.int (2 : Int32))]) (rest := []) (lenOf own_pd0 rfl) rfl (by show 2 * 0 + _ ≤ _; exact Nat.le_of_eq rfl) (hb hby d13_84) (fun _ _ => ⟨rfl, e14, (by decide : 0 + 0 ≤ _), (by decide : 0 + 0 ≤ _)⟩)
  dsimp only [Pt.U, Pt.locs, Pt.cells, Pt.slots] at X15 l15 y15 z15 st15 hQ15
  subst l15 y15 z15
  obtain ⟨rfl, Nq15, P15⟩ := hQ15
  have N15 := Fr.app N14 Nq15
  obtain ⟨fs, hr, hrun, hended, hW, hsame⟩ := X15.leave (v := some (.int (1 : Int32))) (fun h => by rw [Bd.returns] at h; cases h)
  refine ⟨_, _, castTop ef ?_, hrun, hended, _, _, rfl, ?_, ⟨_, rfl⟩, hW, hsame.mono (by decide) (by decide)⟩
  · refine s_aloadN X0 hx (hb hby d13_0) rfl rfl ?_
    refine s_iloadN X0 hx (hb hby d13_1) rfl ?_
    refine st1.trans ?_
    refine s_istoreN X1 hx #[.val (.ref ob), .val (.int (2 : Int32)), .val (.int (0 : Int32)), .unset] (hb hby d13_5) rfl ?_
    refine s_aloadN X1 hx (hb hby d13_6) rfl rfl ?_
    refine s_iloadN X1 hx (hb hby d13_7) rfl ?_
    refine st2.trans ?_
    refine s_istoreN X2 hx #[.val (.ref ob), .val (.int (2 : Int32)), .val (.int (0 : Int32)), .val (.int (0 : Int32))] (hb hby d13_11) rfl ?_
    refine s_aloadN X2 hx (hb hby d13_12) rfl rfl ?_
    refine st3 _ ?_
    refine s_iloadN X3 hx (hb hby d13_16) rfl ?_
    refine s_aloadN X3 hx (hb hby d13_17) rfl rfl ?_
    refine st4 _ ?_
    refine s_iloadN X4 hx (hb hby d13_21) rfl ?_
    refine own_ial X4 hx hZ e4 P 5 0 (v := (.int (0 : Int32))) hV5_0 (hb hby d13_22) (by omega) ?_
    refine s_aloadN X4 hx (hb hby d13_23) rfl rfl ?_
    refine s_iloadN X4 hx (hb hby d13_24) rfl ?_
    refine st5.trans ?_
    refine s_iadd X5 hx (0 : Int32) (hb hby d13_28) (by decide) ?_
    refine s_aloadN X5 hx (hb hby d13_29) rfl rfl ?_
    refine st6 _ ?_
    refine s_iloadN X6 hx (hb hby d13_33) rfl ?_
    refine own_ial X6 hx hZ e6 P 5 0 (v := (.int (0 : Int32))) hV5_0 (hb hby d13_34) (by omega) ?_
    refine s_iadd X6 hx (0 : Int32) (hb hby d13_35) (by decide) ?_
    refine st7 _ ?_
    refine s_aloadN X7 hx (hb hby d13_37) rfl rfl ?_
    refine st8 _ ?_
    refine s_iloadN X8 hx (hb hby d13_41) rfl ?_
    refine s_aloadN X8 hx (hb hby d13_42) rfl rfl ?_
    refine st9 _ ?_
    refine s_iloadN X9 hx (hb hby d13_46) rfl ?_
    refine own_lal X9 hx hZ e9 P7 6 0 (v := (.long (0 : Int64))) (own_vn hV6_0) (hb hby d13_47) (by omega) ?_
    refine s_aloadN X9 hx (hb hby d13_48) rfl rfl ?_
    refine s_iloadN X9 hx (hb hby d13_49) rfl ?_
    refine st10.trans ?_
    refine s_ladd X10 hx (0 : Int64) (hb hby d13_53) (by decide) ?_
    refine s_aloadN X10 hx (hb hby d13_54) rfl rfl ?_
    refine st11 _ ?_
    refine s_iloadN X11 hx (hb hby d13_58) rfl ?_
    refine own_lal X11 hx hZ e11 P7 6 0 (v := (.long (0 : Int64))) (own_vn hV6_0) (hb hby d13_59) (by omega) ?_
    refine s_ladd X11 hx (0 : Int64) (hb hby d13_60) (by decide) ?_
    refine st12 _ ?_
    refine s_aloadN X12 hx (hb hby d13_62) rfl rfl ?_
    refine st13 _ ?_
    refine s_iloadN X13 hx (hb hby d13_66) rfl ?_
    refine s_iloadN X13 hx (hb hby d13_67) rfl ?_
    refine s_ifN X13 hx (hb hby d13_68) (by decide) ?_
    refine s_iloadN X13 hx (hb hby d13_71) rfl ?_
    refine s_goto X13 hx 81 (hb hby d13_72) (by decide) (by decide) ?_
    refine st14 _ ?_
    refine s_aloadN X14 hx (hb hby d13_82) rfl rfl ?_
    refine s_iloadN X14 hx (hb hby d13_83) rfl ?_
    refine st15.trans ?_
    refine s_iconst X15 hx (1 : Int32) (hb hby d13_87) rfl ?_
    exact retN X15 hx (t := .boolean) Bd.returns (by simp) (hb hby d13_88) hr
  · show ((_ : Option Value) = some (.int (1 : Int32)) ∧ Fr n0 _ ∧ own_PS Z T15.heap n0 ob nA A F (own_vs (own_vs (own_vs (own_vs (own_vs V 5 2 (.int (0 : Int32))) 6 2 (.long (0 : Int64))) 4 2 (.int (2 : Int32))) 8 2 (.int (1 : Int32))) 10 2 (.int (1 : Int32))))
    exact ⟨rfl, N15, P15⟩
set_option maxRecDepth 65536 in
set_option maxHeartbeats 40000000 in
theorem rm25_1 (l : Launch) (Z : State) (a0 : Array Value) (hw : own_HW Z a0) (ws : List Jvm.Cond) {nA : Nat} {A : Nat → Addr} {F : Nat → Value} {V : Nat → List Value} (ob : Addr)  (h0 : Heap) (n0 : Nat) (P : own_PS Z h0 n0 ob nA A F V) (hA : 13 ≤ nA) (hB : nA ≤ 14) (hF22 : F 22 = (.long (0 : Int64))) (hV11_4 : (V 11).getD 4 (own_aZ 11) = (.long (20 : Int64))) :
    own_C l Z own_y29 bc25 2 (some .long) ws 0 0 #[(.ref ob), (.int (4 : Int32))] h0 (fun v h L => (v = some (.long (20 : Int64)) ∧ Fr n0 L ∧ h = h0)) := by
  refine MetFree.of_bodySF (plainFor_of_name own_pn2) hisR ?_
  intro p e s m args below meth c s₁ Bd hml0 hP hK
  obtain ⟨rfl, hZ, hh⟩ := hP
  have hx := Bd.exec
  have hby := Bd.bytes
  have hml : c.maxLocals = 2 := hml0
  have hown : s.vm.findClass "com/example/jobwright/jobwright/policies/ProfileSteps" = some m.cls := findClass_of_methodNamed Bd.named
  have X0 : Stand p l e ({ frames := 0, cells := 0, slots := 0, locals := 0 } : Room) s m #[(.ref ob), (.int (4 : Int32))] below meth c s₁ [] 0 0 := Stand.of_body Bd
  have e0 : s₁.heap = h0 := by rw [← hh, Bd.state]; rfl
  have N0 := Fr.nil n0
  have ef : entryFrame m #[(.ref ob), (.int (4 : Int32))] 2 = mkF m 0 #[.val (.ref ob), .val (.int (4 : Int32))] [] := by first | (simp [entryFrame, mkF, argsToLocals, Value.category]; done) | rfl
  obtain ⟨T1, X1, e1, st1⟩ := own_gf X0 hx hZ hown e0 P 11 (own_w hw 92) (v := (.ref (A 11))) (P.2.2.2.1 11 (by omega)) (hb hby d25_1) #[.val (.ref ob), .val (.int (4 : Int32))] []
  obtain ⟨T2, X2, e2, st2⟩ := own_gf X1 hx hZ hown e1 P 22 (own_w hw 138) (v := (.long (0 : Int64))) hF22 (hb hby d25_7) #[.val (.ref ob), .val (.int (4 : Int32))] [(.long (20 : Int64))]
  obtain ⟨fs, hr, hrun, hended, hW, hsame⟩ := X2.leave (v := some (.long (20 : Int64))) (fun h => by rw [Bd.returns] at h; cases h)
  refine ⟨_, _, castTop ef ?_, hrun, hended, _, _, rfl, ?_, ⟨_, rfl⟩, hW, hsame.mono (by decide) (by decide)⟩
  · refine s_aloadN X0 hx (hb hby d25_0) rfl rfl ?_
    refine st1 _ ?_
    refine s_iloadN X1 hx (hb hby d25_4) rfl ?_
    refine own_lal X1 hx hZ e1 P 11 4 (v := (.long (20 : Int64))) hV11_4 (hb hby d25_5) (by omega) ?_
    refine s_aloadN X1 hx (hb hby d25_6) rfl rfl ?_
    refine st2 _ ?_
    refine s_ladd X2 hx (20 : Int64) (hb hby d25_10) (by decide) ?_
    exact retOut X2 hx Bd.returns rfl (Or.inr (Or.inl ⟨rfl, rfl, _, rfl⟩)) (hb hby d25_11) hr
  · show ((_ : Option Value) = some (.long (20 : Int64)) ∧ Fr n0 _ ∧ T2.heap = h0)
    rw [e2]
    exact ⟨rfl, N0, rfl⟩
set_option maxRecDepth 65536 in
set_option maxHeartbeats 40000000 in
theorem rm25_2 (l : Launch) (Z : State) (a0 : Array Value) (hw : own_HW Z a0) (ws : List Jvm.Cond) {nA : Nat} {A : Nat → Addr} {F : Nat → Value} {V : Nat → List Value} (ob : Addr)  (h0 : Heap) (n0 : Nat) (P : own_PS Z h0 n0 ob nA A F V) (hA : 13 ≤ nA) (hB : nA ≤ 14) (hF22 : F 22 = (.long (0 : Int64))) (hV11_2 : (V 11).getD 2 (own_aZ 11) = (.long (0 : Int64))) :
    own_C l Z own_y29 bc25 2 (some .long) ws 0 0 #[(.ref ob), (.int (2 : Int32))] h0 (fun v h L => (v = some (.long (0 : Int64)) ∧ Fr n0 L ∧ h = h0)) := by
  refine MetFree.of_bodySF (plainFor_of_name own_pn2) hisR ?_
  intro p e s m args below meth c s₁ Bd hml0 hP hK
  obtain ⟨rfl, hZ, hh⟩ := hP
  have hx := Bd.exec
  have hby := Bd.bytes
  have hml : c.maxLocals = 2 := hml0
  have hown : s.vm.findClass "com/example/jobwright/jobwright/policies/ProfileSteps" = some m.cls := findClass_of_methodNamed Bd.named
  have X0 : Stand p l e ({ frames := 0, cells := 0, slots := 0, locals := 0 } : Room) s m #[(.ref ob), (.int (2 : Int32))] below meth c s₁ [] 0 0 := Stand.of_body Bd
  have e0 : s₁.heap = h0 := by rw [← hh, Bd.state]; rfl
  have N0 := Fr.nil n0
  have ef : entryFrame m #[(.ref ob), (.int (2 : Int32))] 2 = mkF m 0 #[.val (.ref ob), .val (.int (2 : Int32))] [] := by first | (simp [entryFrame, mkF, argsToLocals, Value.category]; done) | rfl
  obtain ⟨T1, X1, e1, st1⟩ := own_gf X0 hx hZ hown e0 P 11 (own_w hw 92) (v := (.ref (A 11))) (P.2.2.2.1 11 (by omega)) (hb hby d25_1) #[.val (.ref ob), .val (.int (2 : Int32))] []
  obtain ⟨T2, X2, e2, st2⟩ := own_gf X1 hx hZ hown e1 P 22 (own_w hw 138) (v := (.long (0 : Int64))) hF22 (hb hby d25_7) #[.val (.ref ob), .val (.int (2 : Int32))] [(.long (0 : Int64))]
  obtain ⟨fs, hr, hrun, hended, hW, hsame⟩ := X2.leave (v := some (.long (0 : Int64))) (fun h => by rw [Bd.returns] at h; cases h)
  refine ⟨_, _, castTop ef ?_, hrun, hended, _, _, rfl, ?_, ⟨_, rfl⟩, hW, hsame.mono (by decide) (by decide)⟩
  · refine s_aloadN X0 hx (hb hby d25_0) rfl rfl ?_
    refine st1 _ ?_
    refine s_iloadN X1 hx (hb hby d25_4) rfl ?_
    refine own_lal X1 hx hZ e1 P 11 2 (v := (.long (0 : Int64))) hV11_2 (hb hby d25_5) (by omega) ?_
    refine s_aloadN X1 hx (hb hby d25_6) rfl rfl ?_
    refine st2 _ ?_
    refine s_ladd X2 hx (0 : Int64) (hb hby d25_10) (by decide) ?_
    exact retOut X2 hx Bd.returns rfl (Or.inr (Or.inl ⟨rfl, rfl, _, rfl⟩)) (hb hby d25_11) hr
  · show ((_ : Option Value) = some (.long (0 : Int64)) ∧ Fr n0 _ ∧ T2.heap = h0)
    rw [e2]
    exact ⟨rfl, N0, rfl⟩
set_option maxRecDepth 65536 in
set_option maxHeartbeats 40000000 in
theorem rm24_1 (l : Launch) (Z : State) (a0 : Array Value) (hw : own_HW Z a0) (ws : List Jvm.Cond) {nA : Nat} {A : Nat → Addr} {F : Nat → Value} {V : Nat → List Value} (ob : Addr)  (h0 : Heap) (n0 : Nat) (P : own_PS Z h0 n0 ob nA A F V) (hA : 13 ≤ nA) (hB : nA ≤ 14) (hF19 : F 19 = (.int (1 : Int32))) (hF22 : F 22 = (.long (0 : Int64))) (hV11_4 : (V 11).getD 4 (own_aZ 11) = (.long (20 : Int64))) (hV11_2 : (V 11).getD 2 (own_aZ 11) = (.long (0 : Int64))) :
    own_C l Z own_y30 bc24 3 (some .boolean) ws 1 15 #[(.ref ob), (.int (2 : Int32)), (.int (1 : Int32))] h0 (fun v h L => (v = some (.int (0 : Int32)) ∧ Fr n0 L ∧ h = h0)) := by
  refine MetFree.of_bodySF (plainFor_of_name own_pn2) hisR ?_
  intro p e s m args below meth c s₁ Bd hml0 hP hK
  obtain ⟨rfl, hZ, hh⟩ := hP
  have hx := Bd.exec
  have hby := Bd.bytes
  have hml : c.maxLocals = 3 := hml0
  have hown : s.vm.findClass "com/example/jobwright/jobwright/policies/ProfileSteps" = some m.cls := findClass_of_methodNamed Bd.named
  have X0 : Stand p l e ({ frames := 1, cells := 0, slots := 0, locals := 15 } : Room) s m #[(.ref ob), (.int (2 : Int32)), (.int (1 : Int32))] below meth c s₁ [] 0 0 := Stand.of_body Bd
  have e0 : s₁.heap = h0 := by rw [← hh, Bd.state]; rfl
  have N0 := Fr.nil n0
  have ef : entryFrame m #[(.ref ob), (.int (2 : Int32)), (.int (1 : Int32))] 3 = mkF m 0 #[.val (.ref ob), .val (.int (2 : Int32)), .val (.int (1 : Int32))] [] := by first | (simp [entryFrame, mkF, argsToLocals, Value.category]; done) | rfl
  obtain ⟨T1, X1, e1, st1⟩ := own_gf X0 hx hZ hown e0 P 19 (own_w hw 54) (v := (.int (1 : Int32))) hF19 (hb hby d24_3) #[.val (.ref ob), .val (.int (2 : Int32)), .val (.int (1 : Int32))] [(.int (2 : Int32)), (.ref ob)]
  obtain ⟨cq2, kq2, q2a, q2b, q2c⟩ := isOf hZ e1 P.1
  obtain ⟨_, _, ⟨T2, L2, k2, n2⟩, -, X2, ⟨Lc2, hQ2, l2, y2, z2⟩, st2⟩ := X1.virtualBack hx (y := own_y29) (z := own_y29) hown (mvT hZ (own_w hw 218)) (mvT hZ (own_w hw 219)) (own_nf (args := #[]) (z := own_y17) (mvT hZ (own_w hw 103)) rfl) (mvT hZ (own_w hw 221)) (mvT hZ (own_w hw 220)) (by decide) (backOf (W := 0) (rm25_1 l Z a0 hw [] ob  h0 n0 P hA hB hF22 hV11_4 ) hZ (own_w hw 222) (own_w hw 2) (by decide) (by decide)) q2a q2c (g := (mkF m 7 #[.val (.ref ob), .val (.int (2 : Int32)), .val (.int (1 : Int32))] [(.int (4 : Int32)), (.ref ob)])) rfl (by rw [hml]; rfl) (Steps.refl _) (argsL := [(.int (4 : Int32))]) (rest := []) (lenOf own_pd6 rfl) rfl (by show 2 * 0 + _ ≤ _; exact Nat.le_of_eq rfl) (hb hby d24_7) (fun _ _ => ⟨rfl, e1, (by decide : 0 + 0 ≤ _), (by decide : 0 + 0 ≤ _)⟩)
  dsimp only [Pt.U, Pt.locs, Pt.cells, Pt.slots] at X2 l2 y2 z2 st2 hQ2
  subst l2 y2 z2
  obtain ⟨rfl, Nq2, eh2⟩ := hQ2
  have N2 := Fr.app N0 Nq2
  obtain ⟨T3, X3, e3, st3⟩ := own_gf X2 hx hZ hown eh2 P 19 (own_w hw 54) (v := (.int (1 : Int32))) hF19 (hb hby d24_13) #[.val (.ref ob), .val (.int (2 : Int32)), .val (.int (1 : Int32))] [(.int (1 : Int32)), (.ref ob), (.long (20 : Int64))]
  obtain ⟨cq4, kq4, q4a, q4b, q4c⟩ := isOf hZ e3 P.1
  obtain ⟨_, _, ⟨T4, L4, k4, n4⟩, -, X4, ⟨Lc4, hQ4, l4, y4, z4⟩, st4⟩ := X3.virtualBack hx (y := own_y29) (z := own_y29) hown (mvT hZ (own_w hw 218)) (mvT hZ (own_w hw 219)) (own_nf (args := #[]) (z := own_y17) (mvT hZ (own_w hw 103)) rfl) (mvT hZ (own_w hw 221)) (mvT hZ (own_w hw 220)) (by decide) (backOf (W := 2) (rm25_2 l Z a0 hw [] ob  h0 n0 P hA hB hF22 hV11_2 ) hZ (own_w hw 222) (own_w hw 2) (by decide) (by decide)) q4a q4c (g := (mkF m 17 #[.val (.ref ob), .val (.int (2 : Int32)), .val (.int (1 : Int32))] [(.int (2 : Int32)), (.ref ob), (.long (20 : Int64))])) rfl (by rw [hml]; rfl) (Steps.refl _) (argsL := [(.int (2 : Int32))]) (rest := [(.long (20 : Int64))]) (lenOf own_pd6 rfl) rfl (by show 2 * 0 + _ ≤ _; exact Nat.le_of_eq rfl) (hb hby d24_17) (fun _ _ => ⟨rfl, e3, (by decide : 0 + 0 ≤ _), (by decide : 0 + 0 ≤ _)⟩)
  dsimp only [Pt.U, Pt.locs, Pt.cells, Pt.slots] at X4 l4 y4 z4 st4 hQ4
  subst l4 y4 z4
  obtain ⟨rfl, Nq4, eh4⟩ := hQ4
  have N4 := Fr.app N2 Nq4
  obtain ⟨fs, hr, hrun, hended, hW, hsame⟩ := X4.leave (v := some (.int (0 : Int32))) (fun h => by rw [Bd.returns] at h; cases h)
  refine ⟨_, _, castTop ef ?_, hrun, hended, _, _, rfl, ?_, ⟨_, rfl⟩, hW, hsame.mono (by decide) (by decide)⟩
  · refine s_aloadN X0 hx (hb hby d24_0) rfl rfl ?_
    refine s_iloadN X0 hx (hb hby d24_1) rfl ?_
    refine s_aloadN X0 hx (hb hby d24_2) rfl rfl ?_
    refine st1 _ ?_
    refine s_ishl X1 hx (4 : Int32) (hb hby d24_6) (by decide) ?_
    refine st2.trans ?_
    refine s_aloadN X2 hx (hb hby d24_10) rfl rfl ?_
    refine s_iloadN X2 hx (hb hby d24_11) rfl ?_
    refine s_aloadN X2 hx (hb hby d24_12) rfl rfl ?_
    refine st3 _ ?_
    refine s_ishl X3 hx (2 : Int32) (hb hby d24_16) (by decide) ?_
    refine st4.trans ?_
    refine s_lcmp X4 hx (1 : Int32) (hb hby d24_20) (by decide) ?_
    refine s_ifY X4 hx 28 (hb hby d24_21) (by decide) (by decide) (by decide) ?_
    refine s_iconst X4 hx (0 : Int32) (hb hby d24_28) rfl ?_
    exact retN X4 hx (t := .boolean) Bd.returns (by simp) (hb hby d24_29) hr
  · show ((_ : Option Value) = some (.int (0 : Int32)) ∧ Fr n0 _ ∧ T4.heap = h0)
    rw [eh4]
    exact ⟨rfl, N4, rfl⟩
set_option maxRecDepth 65536 in
set_option maxHeartbeats 40000000 in
theorem rm19_2 (l : Launch) (Z : State) (a0 : Array Value) (hw : own_HW Z a0) (ws : List Jvm.Cond) {nA : Nat} {A : Nat → Addr} {F : Nat → Value} {V : Nat → List Value} (ob : Addr)  (h0 : Heap) (n0 : Nat) (P : own_PS Z h0 n0 ob nA A F V) (hA : 13 ≤ nA) (hB : nA ≤ 14)  :
    own_C l Z own_y22 bc19 3 (some .int) ws 0 0 #[(.ref ob), (.int (0 : Int32)), (.int (2 : Int32))] h0 (fun v h L => (v = some (.int (2 : Int32)) ∧ Fr n0 L ∧ h = h0)) := by
  refine MetFree.of_bodySF (plainFor_of_name own_pn1) hisR ?_
  intro p e s m args below meth c s₁ Bd hml0 hP hK
  obtain ⟨rfl, hZ, hh⟩ := hP
  have hx := Bd.exec
  have hby := Bd.bytes
  have hml : c.maxLocals = 3 := hml0
  have hown : s.vm.findClass "com/example/jobwright/jobwright/policies/Treap" = some m.cls := findClass_of_methodNamed Bd.named
  have X0 : Stand p l e ({ frames := 0, cells := 0, slots := 0, locals := 0 } : Room) s m #[(.ref ob), (.int (0 : Int32)), (.int (2 : Int32))] below meth c s₁ [] 0 0 := Stand.of_body Bd
  have e0 : s₁.heap = h0 := by rw [← hh, Bd.state]; rfl
  have N0 := Fr.nil n0
  have ef : entryFrame m #[(.ref ob), (.int (0 : Int32)), (.int (2 : Int32))] 3 = mkF m 0 #[.val (.ref ob), .val (.int (0 : Int32)), .val (.int (2 : Int32))] [] := by first | (simp [entryFrame, mkF, argsToLocals, Value.category]; done) | rfl
  obtain ⟨fs, hr, hrun, hended, hW, hsame⟩ := X0.leave (v := some (.int (2 : Int32))) (fun h => by rw [Bd.returns] at h; cases h)
  refine ⟨_, _, castTop ef ?_, hrun, hended, _, _, rfl, ?_, ⟨_, rfl⟩, hW, hsame.mono (by decide) (by decide)⟩
  · refine s_iloadN X0 hx (hb hby d19_0) rfl ?_
    refine s_ifN X0 hx (hb hby d19_1) (by decide) ?_
    refine s_iloadN X0 hx (hb hby d19_4) rfl ?_
    exact retI X0 hx Bd.returns (hb hby d19_5) hr
  · show ((_ : Option Value) = some (.int (2 : Int32)) ∧ Fr n0 _ ∧ s₁.heap = h0)
    rw [e0]
    exact ⟨rfl, N0, rfl⟩
set_option maxRecDepth 65536 in
set_option maxHeartbeats 40000000 in
theorem rm10_3 (l : Launch) (Z : State) (a0 : Array Value) (hw : own_HW Z a0) (ws : List Jvm.Cond) {nA : Nat} {A : Nat → Addr} {F : Nat → Value} {V : Nat → List Value} (ob : Addr)  (h0 : Heap) (n0 : Nat) (P : own_PS Z h0 n0 ob nA A F V) (hA : 13 ≤ nA) (hB : nA ≤ 14)  :
    own_C l Z own_y9 bc10 3 none ws 0 0 #[(.ref ob), (.int (1 : Int32)), (.int (2 : Int32))] h0 (fun v h L => (v = none ∧ Fr n0 L ∧ own_PS Z h n0 ob nA A F (own_vs V 0 5 (.int (2 : Int32))))) := by
  refine MetFree.of_bodySF (plainFor_of_name own_pn1) hisR ?_
  intro p e s m args below meth c s₁ Bd hml0 hP hK
  obtain ⟨rfl, hZ, hh⟩ := hP
  have hx := Bd.exec
  have hby := Bd.bytes
  have hml : c.maxLocals = 3 := hml0
  have hown : s.vm.findClass "com/example/jobwright/jobwright/policies/Treap" = some m.cls := findClass_of_methodNamed Bd.named
  have X0 : Stand p l e ({ frames := 0, cells := 0, slots := 0, locals := 0 } : Room) s m #[(.ref ob), (.int (1 : Int32)), (.int (2 : Int32))] below meth c s₁ [] 0 0 := Stand.of_body Bd
  have e0 : s₁.heap = h0 := by rw [← hh, Bd.state]; rfl
  have N0 := Fr.nil n0
  have ef : entryFrame m #[(.ref ob), (.int (1 : Int32)), (.int (2 : Int32))] 3 = mkF m 0 #[.val (.ref ob), .val (.int (1 : Int32)), .val (.int (2 : Int32))] [] := by first | (simp [entryFrame, mkF, argsToLocals, Value.category]; done) | rfl
  obtain ⟨T1, X1, e1, st1⟩ := own_gf X0 hx hZ hown e0 P 0 (own_w hw 22) (v := (.ref (A 0))) (P.2.2.2.1 0 (by omega)) (hb hby d10_1) #[.val (.ref ob), .val (.int (1 : Int32)), .val (.int (2 : Int32))] []
  obtain ⟨T2, h2, l2, X2, e2, N2, P2, st2⟩ := own_ist X1 hx hZ e1 N0 P 0 5 (j := (5 : Int32)) (x := (2 : Int32)) (hb hby d10_10) #[.val (.ref ob), .val (.int (1 : Int32)), .val (.int (2 : Int32))] [] (by omega)
  obtain ⟨fs, hr, hrun, hended, hW, hsame⟩ := X2.leave (v := none) (fun _ => rfl)
  refine ⟨_, _, castTop ef ?_, hrun, hended, _, _, rfl, ?_, ⟨_, rfl⟩, hW, hsame.mono (by decide) (by decide)⟩
  · refine s_aloadN X0 hx (hb hby d10_0) rfl rfl ?_
    refine st1 _ ?_
    refine s_iloadN X1 hx (hb hby d10_4) rfl ?_
    refine s_iconst X1 hx (2 : Int32) (hb hby d10_5) rfl ?_
    refine s_ishl X1 hx (4 : Int32) (hb hby d10_6) (by decide) ?_
    refine s_iconst X1 hx (1 : Int32) (hb hby d10_7) rfl ?_
    refine s_iadd X1 hx (5 : Int32) (hb hby d10_8) (by decide) ?_
    refine s_iloadN X1 hx (hb hby d10_9) rfl ?_
    refine st2 _ ?_
    exact X2.returnOut hx Bd.returns (hb hby d10_11) hr
  · show ((_ : Option Value) = none ∧ Fr n0 _ ∧ own_PS Z T2.heap n0 ob nA A F (own_vs V 0 5 (.int (2 : Int32))))
    rw [e2]
    exact ⟨rfl, N2, P2⟩
set_option maxRecDepth 65536 in
set_option maxHeartbeats 40000000 in
theorem rm15_3 (l : Launch) (Z : State) (a0 : Array Value) (hw : own_HW Z a0) (ws : List Jvm.Cond) {nA : Nat} {A : Nat → Addr} {F : Nat → Value} {V : Nat → List Value} (ob : Addr)  (h0 : Heap) (n0 : Nat) (P : own_PS Z h0 n0 ob nA A F V) (hA : 13 ≤ nA) (hB : nA ≤ 14) (hV0_5 : (V 0).getD 5 (own_aZ 0) = (.int (2 : Int32))) :
    own_C l Z own_y4 bc15 2 (some .int) ws 0 0 #[(.ref ob), (.int (1 : Int32))] h0 (fun v h L => (v = some (.int (2 : Int32)) ∧ Fr n0 L ∧ h = h0)) := by
  refine MetFree.of_bodySF (plainFor_of_name own_pn1) hisR ?_
  intro p e s m args below meth c s₁ Bd hml0 hP hK
  obtain ⟨rfl, hZ, hh⟩ := hP
  have hx := Bd.exec
  have hby := Bd.bytes
  have hml : c.maxLocals = 2 := hml0
  have hown : s.vm.findClass "com/example/jobwright/jobwright/policies/Treap" = some m.cls := findClass_of_methodNamed Bd.named
  have X0 : Stand p l e ({ frames := 0, cells := 0, slots := 0, locals := 0 } : Room) s m #[(.ref ob), (.int (1 : Int32))] below meth c s₁ [] 0 0 := Stand.of_body Bd
  have e0 : s₁.heap = h0 := by rw [← hh, Bd.state]; rfl
  have N0 := Fr.nil n0
  have ef : entryFrame m #[(.ref ob), (.int (1 : Int32))] 2 = mkF m 0 #[.val (.ref ob), .val (.int (1 : Int32))] [] := by first | (simp [entryFrame, mkF, argsToLocals, Value.category]; done) | rfl
  obtain ⟨T1, X1, e1, st1⟩ := own_gf X0 hx hZ hown e0 P 0 (own_w hw 22) (v := (.ref (A 0))) (P.2.2.2.1 0 (by omega)) (hb hby d15_1) #[.val (.ref ob), .val (.int (1 : Int32))] []
  obtain ⟨fs, hr, hrun, hended, hW, hsame⟩ := X1.leave (v := some (.int (2 : Int32))) (fun h => by rw [Bd.returns] at h; cases h)
  refine ⟨_, _, castTop ef ?_, hrun, hended, _, _, rfl, ?_, ⟨_, rfl⟩, hW, hsame.mono (by decide) (by decide)⟩
  · refine s_aloadN X0 hx (hb hby d15_0) rfl rfl ?_
    refine st1 _ ?_
    refine s_iloadN X1 hx (hb hby d15_4) rfl ?_
    refine s_iconst X1 hx (2 : Int32) (hb hby d15_5) rfl ?_
    refine s_ishl X1 hx (4 : Int32) (hb hby d15_6) (by decide) ?_
    refine s_iconst X1 hx (1 : Int32) (hb hby d15_7) rfl ?_
    refine s_iadd X1 hx (5 : Int32) (hb hby d15_8) (by decide) ?_
    refine own_ial X1 hx hZ e1 P 0 5 (v := (.int (2 : Int32))) hV0_5 (hb hby d15_9) (by omega) ?_
    exact retI X1 hx Bd.returns (hb hby d15_10) hr
  · show ((_ : Option Value) = some (.int (2 : Int32)) ∧ Fr n0 _ ∧ T1.heap = h0)
    rw [e1]
    exact ⟨rfl, N0, rfl⟩
set_option maxRecDepth 65536 in
set_option maxHeartbeats 40000000 in
theorem rm26_1 (l : Launch) (Z : State) (a0 : Array Value) (hw : own_HW Z a0) (ws : List Jvm.Cond) {nA : Nat} {A : Nat → Addr} {F : Nat → Value} {V : Nat → List Value} (ob : Addr)  (h0 : Heap) (n0 : Nat) (P : own_PS Z h0 n0 ob nA A F V) (hA : 13 ≤ nA) (hB : nA ≤ 14) (hV0_10 : (V 0).getD 10 (own_aZ 0) = (.int (846755676 : Int32))) :
    own_C l Z own_y32 bc26 2 (some .int) ws 0 0 #[(.ref ob), (.int (2 : Int32))] h0 (fun v h L => (v = some (.int (846755676 : Int32)) ∧ Fr n0 L ∧ h = h0)) := by
  refine MetFree.of_bodySF (plainFor_of_name own_pn1) hisR ?_
  intro p e s m args below meth c s₁ Bd hml0 hP hK
  obtain ⟨rfl, hZ, hh⟩ := hP
  have hx := Bd.exec
  have hby := Bd.bytes
  have hml : c.maxLocals = 2 := hml0
  have hown : s.vm.findClass "com/example/jobwright/jobwright/policies/Treap" = some m.cls := findClass_of_methodNamed Bd.named
  have X0 : Stand p l e ({ frames := 0, cells := 0, slots := 0, locals := 0 } : Room) s m #[(.ref ob), (.int (2 : Int32))] below meth c s₁ [] 0 0 := Stand.of_body Bd
  have e0 : s₁.heap = h0 := by rw [← hh, Bd.state]; rfl
  have N0 := Fr.nil n0
  have ef : entryFrame m #[(.ref ob), (.int (2 : Int32))] 2 = mkF m 0 #[.val (.ref ob), .val (.int (2 : Int32))] [] := by first | (simp [entryFrame, mkF, argsToLocals, Value.category]; done) | rfl
  obtain ⟨T1, X1, e1, st1⟩ := own_gf X0 hx hZ hown e0 P 0 (own_w hw 22) (v := (.ref (A 0))) (P.2.2.2.1 0 (by omega)) (hb hby d26_1) #[.val (.ref ob), .val (.int (2 : Int32))] []
  obtain ⟨fs, hr, hrun, hended, hW, hsame⟩ := X1.leave (v := some (.int (846755676 : Int32))) (fun h => by rw [Bd.returns] at h; cases h)
  refine ⟨_, _, castTop ef ?_, hrun, hended, _, _, rfl, ?_, ⟨_, rfl⟩, hW, hsame.mono (by decide) (by decide)⟩
  · refine s_aloadN X0 hx (hb hby d26_0) rfl rfl ?_
    refine st1 _ ?_
    refine s_iloadN X1 hx (hb hby d26_4) rfl ?_
    refine s_iconst X1 hx (2 : Int32) (hb hby d26_5) rfl ?_
    refine s_ishl X1 hx (8 : Int32) (hb hby d26_6) (by decide) ?_
    refine s_iconst X1 hx (2 : Int32) (hb hby d26_7) rfl ?_
    refine s_iadd X1 hx (10 : Int32) (hb hby d26_8) (by decide) ?_
    refine own_ial X1 hx hZ e1 P 0 10 (v := (.int (846755676 : Int32))) hV0_10 (hb hby d26_9) (by omega) ?_
    exact retI X1 hx Bd.returns (hb hby d26_10) hr
  · show ((_ : Option Value) = some (.int (846755676 : Int32)) ∧ Fr n0 _ ∧ T1.heap = h0)
    rw [e1]
    exact ⟨rfl, N0, rfl⟩
set_option maxRecDepth 65536 in
set_option maxHeartbeats 40000000 in
theorem rm26_2 (l : Launch) (Z : State) (a0 : Array Value) (hw : own_HW Z a0) (ws : List Jvm.Cond) {nA : Nat} {A : Nat → Addr} {F : Nat → Value} {V : Nat → List Value} (ob : Addr)  (h0 : Heap) (n0 : Nat) (P : own_PS Z h0 n0 ob nA A F V) (hA : 13 ≤ nA) (hB : nA ≤ 14) (hV0_6 : (V 0).getD 6 (own_aZ 0) = (.int (1846393815 : Int32))) :
    own_C l Z own_y32 bc26 2 (some .int) ws 0 0 #[(.ref ob), (.int (1 : Int32))] h0 (fun v h L => (v = some (.int (1846393815 : Int32)) ∧ Fr n0 L ∧ h = h0)) := by
  refine MetFree.of_bodySF (plainFor_of_name own_pn1) hisR ?_
  intro p e s m args below meth c s₁ Bd hml0 hP hK
  obtain ⟨rfl, hZ, hh⟩ := hP
  have hx := Bd.exec
  have hby := Bd.bytes
  have hml : c.maxLocals = 2 := hml0
  have hown : s.vm.findClass "com/example/jobwright/jobwright/policies/Treap" = some m.cls := findClass_of_methodNamed Bd.named
  have X0 : Stand p l e ({ frames := 0, cells := 0, slots := 0, locals := 0 } : Room) s m #[(.ref ob), (.int (1 : Int32))] below meth c s₁ [] 0 0 := Stand.of_body Bd
  have e0 : s₁.heap = h0 := by rw [← hh, Bd.state]; rfl
  have N0 := Fr.nil n0
  have ef : entryFrame m #[(.ref ob), (.int (1 : Int32))] 2 = mkF m 0 #[.val (.ref ob), .val (.int (1 : Int32))] [] := by first | (simp [entryFrame, mkF, argsToLocals, Value.category]; done) | rfl
  obtain ⟨T1, X1, e1, st1⟩ := own_gf X0 hx hZ hown e0 P 0 (own_w hw 22) (v := (.ref (A 0))) (P.2.2.2.1 0 (by omega)) (hb hby d26_1) #[.val (.ref ob), .val (.int (1 : Int32))] []
  obtain ⟨fs, hr, hrun, hended, hW, hsame⟩ := X1.leave (v := some (.int (1846393815 : Int32))) (fun h => by rw [Bd.returns] at h; cases h)
  refine ⟨_, _, castTop ef ?_, hrun, hended, _, _, rfl, ?_, ⟨_, rfl⟩, hW, hsame.mono (by decide) (by decide)⟩
  · refine s_aloadN X0 hx (hb hby d26_0) rfl rfl ?_
    refine st1 _ ?_
    refine s_iloadN X1 hx (hb hby d26_4) rfl ?_
    refine s_iconst X1 hx (2 : Int32) (hb hby d26_5) rfl ?_
    refine s_ishl X1 hx (4 : Int32) (hb hby d26_6) (by decide) ?_
    refine s_iconst X1 hx (2 : Int32) (hb hby d26_7) rfl ?_
    refine s_iadd X1 hx (6 : Int32) (hb hby d26_8) (by decide) ?_
    refine own_ial X1 hx hZ e1 P 0 6 (v := (.int (1846393815 : Int32))) hV0_6 (hb hby d26_9) (by omega) ?_
    exact retI X1 hx Bd.returns (hb hby d26_10) hr
  · show ((_ : Option Value) = some (.int (1846393815 : Int32)) ∧ Fr n0 _ ∧ T1.heap = h0)
    rw [e1]
    exact ⟨rfl, N0, rfl⟩
set_option maxRecDepth 65536 in
set_option maxHeartbeats 40000000 in
theorem rm16_3 (l : Launch) (Z : State) (a0 : Array Value) (hw : own_HW Z a0) (ws : List Jvm.Cond) {nA : Nat} {A : Nat → Addr} {F : Nat → Value} {V : Nat → List Value} (ob : Addr) (va : Int32) (h0 : Heap) (n0 : Nat) (P : own_PS Z h0 n0 ob nA A F V) (hA : 13 ≤ nA) (hB : nA ≤ 14) (hF19 : F 19 = (.int (1 : Int32))) (hV1_1 : (V 1).getD 1 (own_aZ 1) = (.int (2 : Int32))) (hV12_3 : (V 12).getD 3 (own_aZ 12) = (.int va)) :
    own_C l Z own_y16 bc16 2 (some .int) ws 0 0 #[(.ref ob), (.int (1 : Int32))] h0 (fun v h L => (v = some (.int va) ∧ Fr n0 L ∧ h = h0)) := by
  refine MetFree.of_bodySF (plainFor_of_name own_pn2) hisR ?_
  intro p e s m args below meth c s₁ Bd hml0 hP hK
  obtain ⟨rfl, hZ, hh⟩ := hP
  have hx := Bd.exec
  have hby := Bd.bytes
  have hml : c.maxLocals = 2 := hml0
  have hown : s.vm.findClass "com/example/jobwright/jobwright/policies/ProfileSteps" = some m.cls := findClass_of_methodNamed Bd.named
  have X0 : Stand p l e ({ frames := 0, cells := 0, slots := 0, locals := 0 } : Room) s m #[(.ref ob), (.int (1 : Int32))] below meth c s₁ [] 0 0 := Stand.of_body Bd
  have e0 : s₁.heap = h0 := by rw [← hh, Bd.state]; rfl
  have N0 := Fr.nil n0
  have ef : entryFrame m #[(.ref ob), (.int (1 : Int32))] 2 = mkF m 0 #[.val (.ref ob), .val (.int (1 : Int32))] [] := by first | (simp [entryFrame, mkF, argsToLocals, Value.category]; done) | rfl
  obtain ⟨T1, X1, e1, st1⟩ := own_gf X0 hx hZ hown e0 P 12 (own_w hw 94) (v := (.ref (A 12))) (P.2.2.2.1 12 (by omega)) (hb hby d16_1) #[.val (.ref ob), .val (.int (1 : Int32))] []
  obtain ⟨T2, X2, e2, st2⟩ := own_gf X1 hx hZ hown e1 P 19 (own_w hw 54) (v := (.int (1 : Int32))) hF19 (hb hby d16_6) #[.val (.ref ob), .val (.int (1 : Int32))] [(.int (1 : Int32)), (.ref (A 12))]
  obtain ⟨T3, X3, e3, st3⟩ := own_gf X2 hx hZ hown e2 P 1 (own_w hw 58) (v := (.ref (A 1))) (P.2.2.2.1 1 (by omega)) (hb hby d16_11) #[.val (.ref ob), .val (.int (1 : Int32))] [(.int (2 : Int32)), (.ref (A 12))]
  obtain ⟨fs, hr, hrun, hended, hW, hsame⟩ := X3.leave (v := some (.int va)) (fun h => by rw [Bd.returns] at h; cases h)
  refine ⟨_, _, castTop ef ?_, hrun, hended, _, _, rfl, ?_, ⟨_, rfl⟩, hW, hsame.mono (by decide) (by decide)⟩
  · refine s_aloadN X0 hx (hb hby d16_0) rfl rfl ?_
    refine st1 _ ?_
    refine s_iloadN X1 hx (hb hby d16_4) rfl ?_
    refine s_aloadN X1 hx (hb hby d16_5) rfl rfl ?_
    refine st2 _ ?_
    refine s_ishl X2 hx (2 : Int32) (hb hby d16_9) (by decide) ?_
    refine s_aloadN X2 hx (hb hby d16_10) rfl rfl ?_
    refine st3 _ ?_
    refine s_iloadN X3 hx (hb hby d16_14) rfl ?_
    refine own_ial X3 hx hZ e3 P 1 1 (v := (.int (2 : Int32))) hV1_1 (hb hby d16_15) (by omega) ?_
    refine s_iadd X3 hx (4 : Int32) (hb hby d16_16) (by decide) ?_
    refine s_iconst X3 hx (1 : Int32) (hb hby d16_17) rfl ?_
    refine s_isub X3 hx (3 : Int32) (hb hby d16_18) (by decide) ?_
    refine own_ial X3 hx hZ e3 P 12 3 (v := (.int va)) hV12_3 (hb hby d16_19) (by omega) ?_
    exact retI X3 hx Bd.returns (hb hby d16_20) hr
  · show ((_ : Option Value) = some (.int va) ∧ Fr n0 _ ∧ T3.heap = h0)
    rw [e3]
    exact ⟨rfl, N0, rfl⟩
set_option maxRecDepth 65536 in
set_option maxHeartbeats 40000000 in
theorem rm17_3 (l : Launch) (Z : State) (a0 : Array Value) (hw : own_HW Z a0) (ws : List Jvm.Cond) {nA : Nat} {A : Nat → Addr} {F : Nat → Value} {V : Nat → List Value} (ob : Addr) (vk : Int64) (h0 : Heap) (n0 : Nat) (P : own_PS Z h0 n0 ob nA A F V) (hA : 13 ≤ nA) (hB : nA ≤ 14) (hM : nA = 14) (hF19 : F 19 = (.int (1 : Int32))) (hV1_1 : (V 1).getD 1 (own_aZ 1) = (.int (2 : Int32))) (hV13_3 : (V 13).getD 3 (own_aZ 13) = (.long vk)) :
    own_C l Z own_y18 bc17 2 (some .long) ws 0 0 #[(.ref ob), (.int (1 : Int32))] h0 (fun v h L => (v = some (.long vk) ∧ Fr n0 L ∧ h = h0)) := by
  refine MetFree.of_bodySF (plainFor_of_name own_pn2) hisR ?_
  intro p e s m args below meth c s₁ Bd hml0 hP hK
  obtain ⟨rfl, hZ, hh⟩ := hP
  have hx := Bd.exec
  have hby := Bd.bytes
  have hml : c.maxLocals = 2 := hml0
  have hown : s.vm.findClass "com/example/jobwright/jobwright/policies/ProfileSteps" = some m.cls := findClass_of_methodNamed Bd.named
  have X0 : Stand p l e ({ frames := 0, cells := 0, slots := 0, locals := 0 } : Room) s m #[(.ref ob), (.int (1 : Int32))] below meth c s₁ [] 0 0 := Stand.of_body Bd
  have e0 : s₁.heap = h0 := by rw [← hh, Bd.state]; rfl
  have N0 := Fr.nil n0
  have ef : entryFrame m #[(.ref ob), (.int (1 : Int32))] 2 = mkF m 0 #[.val (.ref ob), .val (.int (1 : Int32))] [] := by first | (simp [entryFrame, mkF, argsToLocals, Value.category]; done) | rfl
  obtain ⟨T1, X1, e1, st1⟩ := own_gf X0 hx hZ hown e0 P 13 (own_w hw 96) (v := (.ref (A 13))) (P.2.2.2.1 13 (by omega)) (hb hby d17_1) #[.val (.ref ob), .val (.int (1 : Int32))] []
  obtain ⟨T2, X2, e2, st2⟩ := own_gf X1 hx hZ hown e1 P 13 (own_w hw 96) (v := (.ref (A 13))) (P.2.2.2.1 13 (by omega)) (hb hby d17_12) #[.val (.ref ob), .val (.int (1 : Int32))] []
  obtain ⟨T3, X3, e3, st3⟩ := own_gf X2 hx hZ hown e2 P 19 (own_w hw 54) (v := (.int (1 : Int32))) hF19 (hb hby d17_17) #[.val (.ref ob), .val (.int (1 : Int32))] [(.int (1 : Int32)), (.ref (A 13))]
  obtain ⟨T4, X4, e4, st4⟩ := own_gf X3 hx hZ hown e3 P 1 (own_w hw 58) (v := (.ref (A 1))) (P.2.2.2.1 1 (by omega)) (hb hby d17_22) #[.val (.ref ob), .val (.int (1 : Int32))] [(.int (2 : Int32)), (.ref (A 13))]
  obtain ⟨fs, hr, hrun, hended, hW, hsame⟩ := X4.leave (v := some (.long vk)) (fun h => by rw [Bd.returns] at h; cases h)
  refine ⟨_, _, castTop ef ?_, hrun, hended, _, _, rfl, ?_, ⟨_, rfl⟩, hW, hsame.mono (by decide) (by decide)⟩
  · refine s_aloadN X0 hx (hb hby d17_0) rfl rfl ?_
    refine st1 _ ?_
    refine s_nnullY X1 hx 11 (hb hby d17_4) (by decide) (by decide) ?_
    refine s_aloadN X1 hx (hb hby d17_11) rfl rfl ?_
    refine st2 _ ?_
    refine s_iloadN X2 hx (hb hby d17_15) rfl ?_
    refine s_aloadN X2 hx (hb hby d17_16) rfl rfl ?_
    refine st3 _ ?_
    refine s_ishl X3 hx (2 : Int32) (hb hby d17_20) (by decide) ?_
    refine s_aloadN X3 hx (hb hby d17_21) rfl rfl ?_
    refine st4 _ ?_
    refine s_iloadN X4 hx (hb hby d17_25) rfl ?_
    refine own_ial X4 hx hZ e4 P 1 1 (v := (.int (2 : Int32))) hV1_1 (hb hby d17_26) (by omega) ?_
    refine s_iadd X4 hx (4 : Int32) (hb hby d17_27) (by decide) ?_
    refine s_iconst X4 hx (1 : Int32) (hb hby d17_28) rfl ?_
    refine s_isub X4 hx (3 : Int32) (hb hby d17_29) (by decide) ?_
    refine own_lal X4 hx hZ e4 P 13 3 (v := (.long vk)) hV13_3 (hb hby d17_30) (by omega) ?_
    exact retOut X4 hx Bd.returns rfl (Or.inr (Or.inl ⟨rfl, rfl, _, rfl⟩)) (hb hby d17_31) hr
  · show ((_ : Option Value) = some (.long vk) ∧ Fr n0 _ ∧ T4.heap = h0)
    rw [e4]
    exact ⟨rfl, N0, rfl⟩
set_option maxRecDepth 65536 in
set_option maxHeartbeats 40000000 in
theorem rm13_3 (l : Launch) (Z : State) (a0 : Array Value) (hw : own_HW Z a0) (ws : List Jvm.Cond) {nA : Nat} {A : Nat → Addr} {F : Nat → Value} {V : Nat → List Value} (ob : Addr) (va : Int32) (vk : Int64) (h0 : Heap) (n0 : Nat) (P : own_PS Z h0 n0 ob nA A F V) (hA : 13 ≤ nA) (hB : nA ≤ 14) (hM : nA = 14) (hF19 : F 19 = (.int (1 : Int32))) (hV0_4 : (V 0).getD 4 (own_aZ 0) = (.int (0 : Int32))) (hV0_5 : (V 0).getD 5 (own_aZ 0) = (.int (2 : Int32))) (hV5_0 : (V 5).getD 0 (own_aZ 5) = (.int (0 : Int32))) (hV1_1 : (V 1).getD 1 (own_aZ 1) = (.int (2 : Int32))) (hV12_3 : (V 12).getD 3 (own_aZ 12) = (.int va)) (hV5_2 : (V 5).getD 2 (own_aZ 5) = (.int (0 : Int32))) (hV6_0 : (V 6).getD 0 (own_aZ 6) = (.long (0 : Int64))) (hV13_3 : (V 13).getD 3 (own_aZ 13) = (.long vk)) (hV6_2 : (V 6).getD 2 (own_aZ 6) = (.long (0 : Int64))) :
    own_C l Z own_y20 bc13 4 (some .boolean) ws 1 17 #[(.ref ob), (.int (1 : Int32))] h0 (fun v h L => (v = some (.int (1 : Int32)) ∧ Fr n0 L ∧ own_PS Z h n0 ob nA A F (own_vs (own_vs (own_vs (own_vs (own_vs V 5 1 (.int (((0 : Int32) + va) + (0 : Int32)))) 6 1 (.long (((0 : Int64) + vk) + (0 : Int64)))) 4 1 (.int (1 : Int32))) 8 1 (.int (1 : Int32))) 10 1 (.int (1 : Int32))))) := by
  refine MetFree.of_bodySF (plainFor_of_name own_pn2) hisR ?_
  intro p e s m args below meth c s₁ Bd hml0 hP hK
  obtain ⟨rfl, hZ, hh⟩ := hP
  have hx := Bd.exec
  have hby := Bd.bytes
  have hml : c.maxLocals = 4 := hml0
  have hown : s.vm.findClass "com/example/jobwright/jobwright/policies/ProfileSteps" = some m.cls := findClass_of_methodNamed Bd.named
  have X0 : Stand p l e ({ frames := 1, cells := 0, slots := 0, locals := 17 } : Room) s m #[(.ref ob), (.int (1 : Int32))] below meth c s₁ [] 0 0 := Stand.of_body Bd
  have e0 : s₁.heap = h0 := by rw [← hh, Bd.state]; rfl
  have N0 := Fr.nil n0
  have ef : entryFrame m #[(.ref ob), (.int (1 : Int32))] 4 = mkF m 0 #[.val (.ref ob), .val (.int (1 : Int32)), .unset, .unset] [] := by first | (simp [entryFrame, mkF, argsToLocals, Value.category]; done) | rfl
  obtain ⟨cq1, kq1, q1a, q1b, q1c⟩ := isOf hZ e0 P.1
  obtain ⟨_, _, ⟨T1, L1, k1, n1⟩, -, X1, ⟨Lc1, hQ1, l1, y1, z1⟩, st1⟩ := X0.virtualBackUp hx (x := own_y14) (y := own_y13) (owner := "com/example/jobwright/jobwright/policies/Treap") hown (mvT hZ (own_w hw 159)) (mvT hZ (own_w hw 160)) (mvT hZ (own_w hw 161)) (by decide) (mvT hZ (own_w hw 163)) (mvT hZ (own_w hw 162)) (backOf (W := 0) (rm14_1 l Z a0 hw [] ob  h0 n0 P hA hB  hV0_4 ) hZ (own_w hw 164) (own_w hw 9) (by decide) (by decide)) q1a q1c (g := (mkF m 2 #[.val (.ref ob), .val (.int (1 : Int32)), .unset, .unset] [(.int (1 : Int32)), (.ref ob)])) rfl (by rw [hml]; rfl) (Steps.refl _) (argsL := [(.int (1 : Int32))]) (rest := []) (lenOf own_pd5 rfl) rfl (by show 2 * 0 + _ ≤ _; exact Nat.le_of_eq rfl) (hb hby d13_2) (fun _ _ => ⟨rfl, e0, (by decide : 0 + 0 ≤ _), (by decide : 0 + 0 ≤ _)⟩)
  dsimp only [Pt.U, Pt.locs, Pt.cells, Pt.slots] at X1 l1 y1 z1 st1 hQ1
  subst l1 y1 z1
  obtain ⟨rfl, Nq1, eh1⟩ := hQ1
  have N1 := Fr.app N0 Nq1
  obtain ⟨cq2, kq2, q2a, q2b, q2c⟩ := isOf hZ eh1 P.1
  obtain ⟨_, _, ⟨T2, L2, k2, n2⟩, -, X2, ⟨Lc2, hQ2, l2, y2, z2⟩, st2⟩ := X1.virtualBackUp hx (x := own_y15) (y := own_y4) (owner := "com/example/jobwright/jobwright/policies/Treap") hown (mvT hZ (own_w hw 165)) (mvT hZ (own_w hw 166)) (mvT hZ (own_w hw 167)) (by decide) (mvT hZ (own_w hw 169)) (mvT hZ (own_w hw 168)) (backOf (W := 0) (rm15_3 l Z a0 hw [] ob  h0 n0 P hA hB  hV0_5 ) hZ (own_w hw 170) (own_w hw 9) (by decide) (by decide)) q2a q2c (g := (mkF m 8 #[.val (.ref ob), .val (.int (1 : Int32)), .val (.int (0 : Int32)), .unset] [(.int (1 : Int32)), (.ref ob)])) rfl (by rw [hml]; rfl) (Steps.refl _) (argsL := [(.int (1 : Int32))]) (rest := []) (lenOf own_pd5 rfl) rfl (by show 2 * 0 + _ ≤ _; exact Nat.le_of_eq rfl) (hb hby d13_8) (fun _ _ => ⟨rfl, eh1, (by decide : 0 + 0 ≤ _), (by decide : 0 + 0 ≤ _)⟩)
  dsimp only [Pt.U, Pt.locs, Pt.cells, Pt.slots] at X2 l2 y2 z2 st2 hQ2
  subst l2 y2 z2
  obtain ⟨rfl, Nq2, eh2⟩ := hQ2
  have N2 := Fr.app N1 Nq2
  obtain ⟨T3, X3, e3, st3⟩ := own_gf X2 hx hZ hown eh2 P 5 (own_w hw 66) (v := (.ref (A 5))) (P.2.2.2.1 5 (by omega)) (hb hby d13_13) #[.val (.ref ob), .val (.int (1 : Int32)), .val (.int (0 : Int32)), .val (.int (2 : Int32))] []
  obtain ⟨T4, X4, e4, st4⟩ := own_gf X3 hx hZ hown e3 P 5 (own_w hw 66) (v := (.ref (A 5))) (P.2.2.2.1 5 (by omega)) (hb hby d13_18) #[.val (.ref ob), .val (.int (1 : Int32)), .val (.int (0 : Int32)), .val (.int (2 : Int32))] [(.int (1 : Int32)), (.ref (A 5))]
  obtain ⟨cq5, q5, q5'⟩ := P.1.cell
  obtain ⟨_, _, ⟨T5, L5, k5, n5⟩, -, X5, ⟨Lc5, hQ5, l5, y5, z5⟩, st5⟩ := X4.privateBack hx (y := own_y16) hown (mvT hZ (own_w hw 171)) (mvT hZ (own_w hw 172)) (own_psel (z := own_y17) (mvT hZ (own_w hw 103)) (mvP hZ (own_w hw 173)) (mvT hZ (own_w hw 172)) rfl (by decide)) (Cond.privateMethod_at (mvP hZ (own_w hw 173) (args := #[]))) (mvT hZ (own_w hw 174)) (by decide) (backOf (W := 3) (rm16_3 l Z a0 hw [] ob va h0 n0 P hA hB hF19 hV1_1 hV12_3 ) hZ (own_w hw 174) (own_w hw 2) (by decide) (by decide)) (g := (mkF m 25 #[.val (.ref ob), .val (.int (1 : Int32)), .val (.int (0 : Int32)), .val (.int (2 : Int32))] [(.int (1 : Int32)), (.ref ob), (.int (0 : Int32)), (.int (1 : Int32)), (.ref (A 5))])) rfl (by rw [hml]; rfl) (Steps.refl _) (a := ob) (by rw [e4]; exact q5) q5' (argsL := [(.int (1 : Int32))]) (rest := [(.int (0 : Int32)), (.int (1 : Int32)), (.ref (A 5))]) (lenOf own_pd5 rfl) rfl (by show 2 * 0 + _ ≤ _; exact Nat.le_of_eq rfl) (hb hby d13_25) (fun _ _ => ⟨rfl, e4, (by decide : 0 + 0 ≤ _), (by decide : 0 + 0 ≤ _)⟩)
  dsimp only [Pt.U, Pt.locs, Pt.cells, Pt.slots] at X5 l5 y5 z5 st5 hQ5
  subst l5 y5 z5
  obtain ⟨rfl, Nq5, eh5⟩ := hQ5
  have N5 := Fr.app N2 Nq5
  obtain ⟨T6, X6, e6, st6⟩ := own_gf X5 hx hZ hown eh5 P 5 (own_w hw 66) (v := (.ref (A 5))) (P.2.2.2.1 5 (by omega)) (hb hby d13_30) #[.val (.ref ob), .val (.int (1 : Int32)), .val (.int (0 : Int32)), .val (.int (2 : Int32))] [(.int ((0 : Int32) + va)), (.int (1 : Int32)), (.ref (A 5))]
  obtain ⟨T7, h7, l7, X7, e7, N7, P7, st7⟩ := own_ist X6 hx hZ e6 N5 P 5 1 (j := (1 : Int32)) (x := (((0 : Int32) + va) + (0 : Int32))) (hb hby d13_36) #[.val (.ref ob), .val (.int (1 : Int32)), .val (.int (0 : Int32)), .val (.int (2 : Int32))] [] (by omega)
  obtain ⟨T8, X8, e8, st8⟩ := own_gf X7 hx hZ hown e7 P7 6 (own_w hw 68) (v := (.ref (A 6))) (P7.2.2.2.1 6 (by omega)) (hb hby d13_38) #[.val (.ref ob), .val (.int (1 : Int32)), .val (.int (0 : Int32)), .val (.int (2 : Int32))] []
  obtain ⟨T9, X9, e9, st9⟩ := own_gf X8 hx hZ hown e8 P7 6 (own_w hw 68) (v := (.ref (A 6))) (P7.2.2.2.1 6 (by omega)) (hb hby d13_43) #[.val (.ref ob), .val (.int (1 : Int32)), .val (.int (0 : Int32)), .val (.int (2 : Int32))] [(.int (1 : Int32)), (.ref (A 6))]
  obtain ⟨cq10, q10, q10'⟩ := P7.1.cell
  obtain ⟨_, _, ⟨T10, L10, k10, n10⟩, -, X10, ⟨Lc10, hQ10, l10, y10, z10⟩, st10⟩ := X9.privateBack hx (y := own_y18) hown (mvT hZ (own_w hw 175)) (mvT hZ (own_w hw 176)) (own_psel (z := own_y17) (mvT hZ (own_w hw 103)) (mvP hZ (own_w hw 177)) (mvT hZ (own_w hw 176)) rfl (by decide)) (Cond.privateMethod_at (mvP hZ (own_w hw 177) (args := #[]))) (mvT hZ (own_w hw 178)) (by decide) (backOf (W := 4) (rm17_3 l Z a0 hw [] ob vk h7 n0 P7 hA hB hM hF19 (own_vn hV1_1) (own_vn hV13_3) ) hZ (own_w hw 178) (own_w hw 2) (by decide) (by decide)) (g := (mkF m 50 #[.val (.ref ob), .val (.int (1 : Int32)), .val (.int (0 : Int32)), .val (.int (2 : Int32))] [(.int (1 : Int32)), (.ref ob), (.long (0 : Int64)), (.int (1 : Int32)), (.ref (A 6))])) rfl (by rw [hml]; rfl) (Steps.refl _) (a := ob) (by rw [e9]; exact q10) q10' (argsL := [(.int (1 : Int32))]) (rest := [(.long (0 : Int64)), (.int (1 : Int32)), (.ref (A 6))]) (lenOf own_pd6 rfl) rfl (by show 2 * 0 + _ ≤ _; exact Nat.le_of_eq rfl) (hb hby d13_50) (fun _ _ => ⟨rfl, e9, (by decide : 0 + 0 ≤ _), (by decide : 0 + 0 ≤ _)⟩)
  dsimp only [Pt.U, Pt.locs, Pt.cells, Pt.slots] at X10 l10 y10 z10 st10 hQ10
  subst l10 y10 z10
  obtain ⟨rfl, Nq10, eh10⟩ := hQ10
  have N10 := Fr.app N7 Nq10
  obtain ⟨T11, X11, e11, st11⟩ := own_gf X10 hx hZ hown eh10 P7 6 (own_w hw 68) (v := (.ref (A 6))) (P7.2.2.2.1 6 (by omega)) (hb hby d13_55) #[.val (.ref ob), .val (.int (1 : Int32)), .val (.int (0 : Int32)), .val (.int (2 : Int32))] [(.long ((0 : Int64) + vk)), (.int (1 : Int32)), (.ref (A 6))]
  obtain ⟨T12, h12, l12, X12, e12, N12, P12, st12⟩ := own_lst X11 hx hZ e11 N10 P7 6 1 (j := (1 : Int32)) (x := (((0 : Int64) + vk) + (0 : Int64))) (hb hby d13_61) #[.val (.ref ob), .val (.int (1 : Int32)), .val (.int (0 : Int32)), .val (.int (2 : Int32))] [] (by omega)
  obtain ⟨T13, X13, e13, st13⟩ := own_gf X12 hx hZ hown e12 P12 4 (own_w hw 64) (v := (.ref (A 4))) (P12.2.2.2.1 4 (by omega)) (hb hby d13_63) #[.val (.ref ob), .val (.int (1 : Int32)), .val (.int (0 : Int32)), .val (.int (2 : Int32))] []
  obtain ⟨T14, h14, l14, X14, e14, N14, P14, st14⟩ := own_ist X13 hx hZ e13 N12 P12 4 1 (j := (1 : Int32)) (x := (1 : Int32)) (hb hby d13_81) #[.val (.ref ob), .val (.int (1 : Int32)), .val (.int (0 : Int32)), .val (.int (2 : Int32))] [] (by omega)
  obtain ⟨cq15, q15, q15'⟩ := P14.1.cell
  obtain ⟨_, _, ⟨T15, L15, k15, n15⟩, -, X15, ⟨Lc15, hQ15, l15, y15, z15⟩, st15⟩ := X14.privateBack hx (y := own_y19) hown (mvT hZ (own_w hw 179)) (mvT hZ (own_w hw 180)) (own_psel (z := own_y17) (mvT hZ (own_w hw 103)) (mvP hZ (own_w hw 181)) (mvT hZ (own_w hw 180)) rfl (by decide)) (Cond.privateMethod_at (mvP hZ (own_w hw 181) (args := #[]))) (mvT hZ (own_w hw 182)) (by decide) (backOf (W := 0) (rm18_1 l Z a0 hw [] ob  h14 n0 P14 hA hB   ) hZ (own_w hw 182) (own_w hw 2) (by decide) (by decide)) (g := (mkF m 84 #[.val (.ref ob), .val (.int (1 : Int32)), .val (.int (0 : Int32)), .val (.int (2 : Int32))] [(.int (1 : Int32)), (.ref ob)])) rfl (by rw [hml]; rfl) (Steps.refl _) (a := ob) (by rw [e14]; exact q15) q15' (argsL := [(.int (1 : Int32))]) (rest := []) (lenOf own_pd0 rfl) rfl (by show 2 * 0 + _ ≤ _; exact Nat.le_of_eq rfl) (hb hby d13_84) (fun _ _ => ⟨rfl, e14, (by decide : 0 + 0 ≤ _), (by decide : 0 + 0 ≤ _)⟩)
  dsimp only [Pt.U, Pt.locs, Pt.cells, Pt.slots] at X15 l15 y15 z15 st15 hQ15
  subst l15 y15 z15
  obtain ⟨rfl, Nq15, P15⟩ := hQ15
  have N15 := Fr.app N14 Nq15
  obtain ⟨fs, hr, hrun, hended, hW, hsame⟩ := X15.leave (v := some (.int (1 : Int32))) (fun h => by rw [Bd.returns] at h; cases h)
  refine ⟨_, _, castTop ef ?_, hrun, hended, _, _, rfl, ?_, ⟨_, rfl⟩, hW, hsame.mono (by decide) (by decide)⟩
  · refine s_aloadN X0 hx (hb hby d13_0) rfl rfl ?_
    refine s_iloadN X0 hx (hb hby d13_1) rfl ?_
    refine st1.trans ?_
    refine s_istoreN X1 hx #[.val (.ref ob), .val (.int (1 : Int32)), .val (.int (0 : Int32)), .unset] (hb hby d13_5) rfl ?_
    refine s_aloadN X1 hx (hb hby d13_6) rfl rfl ?_
    refine s_iloadN X1 hx (hb hby d13_7) rfl ?_
    refine st2.trans ?_
    refine s_istoreN X2 hx #[.val (.ref ob), .val (.int (1 : Int32)), .val (.int (0 : Int32)), .val (.int (2 : Int32))] (hb hby d13_11) rfl ?_
    refine s_aloadN X2 hx (hb hby d13_12) rfl rfl ?_
    refine st3 _ ?_
    refine s_iloadN X3 hx (hb hby d13_16) rfl ?_
    refine s_aloadN X3 hx (hb hby d13_17) rfl rfl ?_
    refine st4 _ ?_
    refine s_iloadN X4 hx (hb hby d13_21) rfl ?_
    refine own_ial X4 hx hZ e4 P 5 0 (v := (.int (0 : Int32))) hV5_0 (hb hby d13_22) (by omega) ?_
    refine s_aloadN X4 hx (hb hby d13_23) rfl rfl ?_
    refine s_iloadN X4 hx (hb hby d13_24) rfl ?_
    refine st5.trans ?_
    refine s_iadd X5 hx ((0 : Int32) + va) (hb hby d13_28) rfl ?_
    refine s_aloadN X5 hx (hb hby d13_29) rfl rfl ?_
    refine st6 _ ?_
    refine s_iloadN X6 hx (hb hby d13_33) rfl ?_
    refine own_ial X6 hx hZ e6 P 5 2 (v := (.int (0 : Int32))) hV5_2 (hb hby d13_34) (by omega) ?_
    refine s_iadd X6 hx (((0 : Int32) + va) + (0 : Int32)) (hb hby d13_35) rfl ?_
    refine st7 _ ?_
    refine s_aloadN X7 hx (hb hby d13_37) rfl rfl ?_
    refine st8 _ ?_
    refine s_iloadN X8 hx (hb hby d13_41) rfl ?_
    refine s_aloadN X8 hx (hb hby d13_42) rfl rfl ?_
    refine st9 _ ?_
    refine s_iloadN X9 hx (hb hby d13_46) rfl ?_
    refine own_lal X9 hx hZ e9 P7 6 0 (v := (.long (0 : Int64))) (own_vn hV6_0) (hb hby d13_47) (by omega) ?_
    refine s_aloadN X9 hx (hb hby d13_48) rfl rfl ?_
    refine s_iloadN X9 hx (hb hby d13_49) rfl ?_
    refine st10.trans ?_
    refine s_ladd X10 hx ((0 : Int64) + vk) (hb hby d13_53) rfl ?_
    refine s_aloadN X10 hx (hb hby d13_54) rfl rfl ?_
    refine st11 _ ?_
    refine s_iloadN X11 hx (hb hby d13_58) rfl ?_
    refine own_lal X11 hx hZ e11 P7 6 2 (v := (.long (0 : Int64))) (own_vn hV6_2) (hb hby d13_59) (by omega) ?_
    refine s_ladd X11 hx (((0 : Int64) + vk) + (0 : Int64)) (hb hby d13_60) rfl ?_
    refine st12 _ ?_
    refine s_aloadN X12 hx (hb hby d13_62) rfl rfl ?_
    refine st13 _ ?_
    refine s_iloadN X13 hx (hb hby d13_66) rfl ?_
    refine s_iloadN X13 hx (hb hby d13_67) rfl ?_
    refine s_ifN X13 hx (hb hby d13_68) (by decide) ?_
    refine s_iloadN X13 hx (hb hby d13_71) rfl ?_
    refine s_goto X13 hx 81 (hb hby d13_72) (by decide) (by decide) ?_
    refine st14 _ ?_
    refine s_aloadN X14 hx (hb hby d13_82) rfl rfl ?_
    refine s_iloadN X14 hx (hb hby d13_83) rfl ?_
    refine st15.trans ?_
    refine s_iconst X15 hx (1 : Int32) (hb hby d13_87) rfl ?_
    exact retN X15 hx (t := .boolean) Bd.returns (by simp) (hb hby d13_88) hr
  · show ((_ : Option Value) = some (.int (1 : Int32)) ∧ Fr n0 _ ∧ own_PS Z T15.heap n0 ob nA A F (own_vs (own_vs (own_vs (own_vs (own_vs V 5 1 (.int (((0 : Int32) + va) + (0 : Int32)))) 6 1 (.long (((0 : Int64) + vk) + (0 : Int64)))) 4 1 (.int (1 : Int32))) 8 1 (.int (1 : Int32))) 10 1 (.int (1 : Int32))))
    exact ⟨rfl, N15, P15⟩
set_option maxRecDepth 65536 in
set_option maxHeartbeats 40000000 in
theorem rm27_1 (l : Launch) (Z : State) (a0 : Array Value) (hw : own_HW Z a0) (ws : List Jvm.Cond) {nA : Nat} {A : Nat → Addr} {F : Nat → Value} {V : Nat → List Value} (ob : Addr) (va : Int32) (vk : Int64) (h0 : Heap) (n0 : Nat) (P : own_PS Z h0 n0 ob nA A F V) (hA : 13 ≤ nA) (hB : nA ≤ 14) (hM : nA = 14) (hF27 : F 27 = (.int (0 : Int32))) (hF19 : F 19 = (.int (1 : Int32))) (hV0_4 : (V 0).getD 4 (own_aZ 0) = (.int (0 : Int32))) (hV0_5 : (V 0).getD 5 (own_aZ 0) = (.int (2 : Int32))) (hV5_0 : (V 5).getD 0 (own_aZ 5) = (.int (0 : Int32))) (hV1_1 : (V 1).getD 1 (own_aZ 1) = (.int (2 : Int32))) (hV12_3 : (V 12).getD 3 (own_aZ 12) = (.int va)) (hV5_2 : (V 5).getD 2 (own_aZ 5) = (.int (0 : Int32))) (hV6_0 : (V 6).getD 0 (own_aZ 6) = (.long (0 : Int64))) (hV13_3 : (V 13).getD 3 (own_aZ 13) = (.long vk)) (hV6_2 : (V 6).getD 2 (own_aZ 6) = (.long (0 : Int64))) :
    own_C l Z own_y33 bc27 2 none ws 2 33 #[(.ref ob), (.int (1 : Int32))] h0 (fun v h L => (v = none ∧ Fr n0 L ∧ own_PS Z h n0 ob nA A (own_up F 27 (.int (0 : Int32))) (own_vs (own_vs (own_vs (own_vs (own_vs V 5 1 (.int (((0 : Int32) + va) + (0 : Int32)))) 6 1 (.long (((0 : Int64) + vk) + (0 : Int64)))) 4 1 (.int (1 : Int32))) 8 1 (.int (1 : Int32))) 10 1 (.int (1 : Int32))))) := by
  refine MetFree.of_bodySF (plainFor_of_name own_pn1) hisR ?_
  intro p e s m args below meth c s₁ Bd hml0 hP hK
  obtain ⟨rfl, hZ, hh⟩ := hP
  have hx := Bd.exec
  have hby := Bd.bytes
  have hml : c.maxLocals = 2 := hml0
  have hown : s.vm.findClass "com/example/jobwright/jobwright/policies/Treap" = some m.cls := findClass_of_methodNamed Bd.named
  have X0 : Stand p l e ({ frames := 2, cells := 0, slots := 0, locals := 33 } : Room) s m #[(.ref ob), (.int (1 : Int32))] below meth c s₁ [] 0 0 := Stand.of_body Bd
  have e0 : s₁.heap = h0 := by rw [← hh, Bd.state]; rfl
  have N0 := Fr.nil n0
  have ef : entryFrame m #[(.ref ob), (.int (1 : Int32))] 2 = mkF m 0 #[.val (.ref ob), .val (.int (1 : Int32))] [] := by first | (simp [entryFrame, mkF, argsToLocals, Value.category]; done) | rfl
  obtain ⟨T1, X1, e1, st1⟩ := own_gf X0 hx hZ hown e0 P 27 (own_w hw 183) (v := (.int (0 : Int32))) hF27 (hb hby d27_1) #[.val (.ref ob), .val (.int (1 : Int32))] []
  obtain ⟨cq2, kq2, q2a, q2b, q2c⟩ := isOf hZ e1 P.1
  obtain ⟨_, _, ⟨T2, L2, k2, n2⟩, -, X2, ⟨Lc2, hQ2, l2, y2, z2⟩, st2⟩ := X1.virtualBack hx (y := own_y21) (z := own_y20) hown (mvT hZ (own_w hw 154)) (mvT hZ (own_w hw 155)) (own_nf (args := #[]) (z := own_y4) (mvT hZ (own_w hw 224)) rfl) (mvT hZ (own_w hw 156)) (mvT hZ (own_w hw 157)) (by decide) (backOf (W := 1) (rm13_3 l Z a0 hw [] ob va vk h0 n0 P hA hB hM hF19 hV0_4 hV0_5 hV5_0 hV1_1 hV12_3 hV5_2 hV6_0 hV13_3 hV6_2 ) hZ (own_w hw 158) (own_w hw 2) (by decide) (by decide)) q2a q2c (g := (mkF m 10 #[.val (.ref ob), .val (.int (1 : Int32))] [(.int (1 : Int32)), (.ref ob), (.ref ob)])) rfl (by rw [hml]; rfl) (Steps.refl _) (argsL := [(.int (1 : Int32))]) (rest := [(.ref ob)]) (lenOf own_pd7 rfl) rfl (by show 2 * 0 + _ ≤ _; exact Nat.le_of_eq rfl) (hb hby d27_10) (fun _ _ => ⟨rfl, e1, (by decide : 0 + 0 ≤ _), (by decide : 0 + 0 ≤ _)⟩)
  dsimp only [Pt.U, Pt.locs, Pt.cells, Pt.slots] at X2 l2 y2 z2 st2 hQ2
  subst l2 y2 z2
  obtain ⟨rfl, Nq2, P2⟩ := hQ2
  have N2 := Fr.app N0 Nq2
  obtain ⟨T3, h3, l3, X3, e3, N3, P3, st3⟩ := own_pp X2 hx hZ hw hown rfl N2 P2 27 (own_w hw 183) (Or.inl (own_w hw 184)) (v := (.int (0 : Int32))) (hb hby d27_21) #[.val (.ref ob), .val (.int (1 : Int32))] [] rfl rfl (by omega)
  obtain ⟨fs, hr, hrun, hended, hW, hsame⟩ := X3.leave (v := none) (fun _ => rfl)
  refine ⟨_, _, castTop ef ?_, hrun, hended, _, _, rfl, ?_, ⟨_, rfl⟩, hW, hsame.mono (by decide) (by decide)⟩
  · refine s_aloadN X0 hx (hb hby d27_0) rfl rfl ?_
    refine st1 _ ?_
    refine s_ifN X1 hx (hb hby d27_4) (by decide) ?_
    refine s_aloadN X1 hx (hb hby d27_7) rfl rfl ?_
    refine s_aloadN X1 hx (hb hby d27_8) rfl rfl ?_
    refine s_iloadN X1 hx (hb hby d27_9) rfl ?_
    refine st2.trans ?_
    refine s_ifY X2 hx 20 (hb hby d27_13) (by decide) (by decide) (by decide) ?_
    refine s_iconst X2 hx (0 : Int32) (hb hby d27_20) rfl ?_
    refine st3 _ ?_
    exact X3.returnOut hx Bd.returns (hb hby d27_24) hr
  · show ((_ : Option Value) = none ∧ Fr n0 _ ∧ own_PS Z T3.heap n0 ob nA A (own_up F 27 (.int (0 : Int32))) (own_vs (own_vs (own_vs (own_vs (own_vs V 5 1 (.int (((0 : Int32) + va) + (0 : Int32)))) 6 1 (.long (((0 : Int64) + vk) + (0 : Int64)))) 4 1 (.int (1 : Int32))) 8 1 (.int (1 : Int32))) 10 1 (.int (1 : Int32))))
    rw [e3]
    exact ⟨rfl, N3, P3⟩
set_option maxRecDepth 65536 in
set_option maxHeartbeats 40000000 in
theorem rm19_3 (l : Launch) (Z : State) (a0 : Array Value) (hw : own_HW Z a0) (ws : List Jvm.Cond) {nA : Nat} {A : Nat → Addr} {F : Nat → Value} {V : Nat → List Value} (ob : Addr) (va : Int32) (vk : Int64) (h0 : Heap) (n0 : Nat) (P : own_PS Z h0 n0 ob nA A F V) (hA : 13 ≤ nA) (hB : nA ≤ 14) (hM : nA = 14) (hF19 : F 19 = (.int (1 : Int32))) (hF22 : F 22 = (.long (0 : Int64))) (hF27 : F 27 = (.int (0 : Int32))) (hV11_4 : (V 11).getD 4 (own_aZ 11) = (.long (20 : Int64))) (hV11_2 : (V 11).getD 2 (own_aZ 11) = (.long (0 : Int64))) (hV0_5 : (V 0).getD 5 (own_aZ 0) = (.int (0 : Int32))) (hV0_10 : (V 0).getD 10 (own_aZ 0) = (.int (846755676 : Int32))) (hV0_6 : (V 0).getD 6 (own_aZ 0) = (.int (1846393815 : Int32))) (hV0_4 : (V 0).getD 4 (own_aZ 0) = (.int (0 : Int32))) (hV5_0 : (V 5).getD 0 (own_aZ 5) = (.int (0 : Int32))) (hV1_1 : (V 1).getD 1 (own_aZ 1) = (.int (2 : Int32))) (hV12_3 : (V 12).getD 3 (own_aZ 12) = (.int va)) (hV5_2 : (V 5).getD 2 (own_aZ 5) = (.int (0 : Int32))) (hV6_0 : (V 6).getD 0 (own_aZ 6) = (.long (0 : Int64))) (hV13_3 : (V 13).getD 3 (own_aZ 13) = (.long vk)) (hV6_2 : (V 6).getD 2 (own_aZ 6) = (.long (0 : Int64))) :
    own_C l Z own_y22 bc19 3 (some .int) ws 3 46 #[(.ref ob), (.int (1 : Int32)), (.int (2 : Int32))] h0 (fun v h L => (v = some (.int (1 : Int32)) ∧ Fr n0 L ∧ own_PS Z h n0 ob nA A (own_up F 27 (.int (0 : Int32))) (own_vs (own_vs (own_vs (own_vs (own_vs (own_vs V 0 5 (.int (2 : Int32))) 5 1 (.int (((0 : Int32) + va) + (0 : Int32)))) 6 1 (.long (((0 : Int64) + vk) + (0 : Int64)))) 4 1 (.int (1 : Int32))) 8 1 (.int (1 : Int32))) 10 1 (.int (1 : Int32))))) := by
  refine MetFree.of_bodySF (plainFor_of_name own_pn1) hisR ?_
  intro p e s m args below meth c s₁ Bd hml0 hP hK
  obtain ⟨rfl, hZ, hh⟩ := hP
  have hx := Bd.exec
  have hby := Bd.bytes
  have hml : c.maxLocals = 3 := hml0
  have hown : s.vm.findClass "com/example/jobwright/jobwright/policies/Treap" = some m.cls := findClass_of_methodNamed Bd.named
  have X0 : Stand p l e ({ frames := 3, cells := 0, slots := 0, locals := 46 } : Room) s m #[(.ref ob), (.int (1 : Int32)), (.int (2 : Int32))] below meth c s₁ [] 0 0 := Stand.of_body Bd
  have e0 : s₁.heap = h0 := by rw [← hh, Bd.state]; rfl
  have N0 := Fr.nil n0
  have ef : entryFrame m #[(.ref ob), (.int (1 : Int32)), (.int (2 : Int32))] 3 = mkF m 0 #[.val (.ref ob), .val (.int (1 : Int32)), .val (.int (2 : Int32))] [] := by first | (simp [entryFrame, mkF, argsToLocals, Value.category]; done) | rfl
  obtain ⟨cq1, kq1, q1a, q1b, q1c⟩ := isOf hZ e0 P.1
  obtain ⟨_, _, ⟨T1, L1, k1, n1⟩, -, X1, ⟨Lc1, hQ1, l1, y1, z1⟩, st1⟩ := X0.virtualBack hx (y := own_y31) (z := own_y30) hown (mvT hZ (own_w hw 213)) (mvT hZ (own_w hw 214)) (own_nf (args := #[]) (z := own_y4) (mvT hZ (own_w hw 224)) rfl) (mvT hZ (own_w hw 215)) (mvT hZ (own_w hw 216)) (by decide) (backOf (W := 0) (rm24_1 l Z a0 hw [] ob  h0 n0 P hA hB hF19 hF22 hV11_4 hV11_2 ) hZ (own_w hw 217) (own_w hw 2) (by decide) (by decide)) q1a q1c (g := (mkF m 9 #[.val (.ref ob), .val (.int (1 : Int32)), .val (.int (2 : Int32))] [(.int (1 : Int32)), (.int (2 : Int32)), (.ref ob)])) rfl (by rw [hml]; rfl) (Steps.refl _) (argsL := [(.int (2 : Int32)), (.int (1 : Int32))]) (rest := []) (lenOf own_pd11 rfl) rfl (by show 2 * 0 + _ ≤ _; exact Nat.le_of_eq rfl) (hb hby d19_9) (fun _ _ => ⟨rfl, e0, (by decide : 0 + 0 ≤ _), (by decide : 0 + 0 ≤ _)⟩)
  dsimp only [Pt.U, Pt.locs, Pt.cells, Pt.slots] at X1 l1 y1 z1 st1 hQ1
  subst l1 y1 z1
  obtain ⟨rfl, Nq1, eh1⟩ := hQ1
  have N1 := Fr.app N0 Nq1
  obtain ⟨cq2, kq2, q2a, q2b, q2c⟩ := isOf hZ eh1 P.1
  obtain ⟨_, _, ⟨T2, L2, k2, n2⟩, -, X2, ⟨Lc2, hQ2, l2, y2, z2⟩, st2⟩ := X1.virtualBack hx (y := own_y4) (z := own_y4) hown (mvT hZ (own_w hw 223)) (mvT hZ (own_w hw 167)) (own_nf (args := #[]) (z := own_y4) (mvT hZ (own_w hw 224)) rfl) (mvT hZ (own_w hw 224)) (mvT hZ (own_w hw 168)) (by decide) (backOf (W := 3) (rm15_1 l Z a0 hw [] ob  h0 n0 P hA hB  hV0_5 ) hZ (own_w hw 170) (own_w hw 9) (by decide) (by decide)) q2a q2c (g := (mkF m 58 #[.val (.ref ob), .val (.int (1 : Int32)), .val (.int (2 : Int32))] [(.int (1 : Int32)), (.ref ob), (.ref ob), (.int (1 : Int32)), (.ref ob)])) rfl (by rw [hml]; rfl) (Steps.refl _) (argsL := [(.int (1 : Int32))]) (rest := [(.ref ob), (.int (1 : Int32)), (.ref ob)]) (lenOf own_pd5 rfl) rfl (by show 2 * 0 + _ ≤ _; exact Nat.le_of_eq rfl) (hb hby d19_58) (fun _ _ => ⟨rfl, eh1, (by decide : 0 + 0 ≤ _), (by decide : 0 + 0 ≤ _)⟩)
  dsimp only [Pt.U, Pt.locs, Pt.cells, Pt.slots] at X2 l2 y2 z2 st2 hQ2
  subst l2 y2 z2
  obtain ⟨rfl, Nq2, eh2⟩ := hQ2
  have N2 := Fr.app N1 Nq2
  obtain ⟨cq3, q3, q3'⟩ := P.1.cell
  obtain ⟨_, _, ⟨T3, L3, k3, n3⟩, -, X3, ⟨Lc3, hQ3, l3, y3, z3⟩, st3⟩ := X2.privateBack hx (y := own_y22) hown (mvT hZ (own_w hw 185)) (mvT hZ (own_w hw 186)) (own_psel (z := own_y4) (mvT hZ (own_w hw 224)) (mvP hZ (own_w hw 187)) (mvT hZ (own_w hw 186)) rfl (by decide)) (Cond.privateMethod_at (mvP hZ (own_w hw 187) (args := #[]))) (mvT hZ (own_w hw 188)) (by decide) (backOf (W := 2) (rm19_2 l Z a0 hw [] ob  h0 n0 P hA hB   ) hZ (own_w hw 188) (own_w hw 9) (by decide) (by decide)) (g := (mkF m 62 #[.val (.ref ob), .val (.int (1 : Int32)), .val (.int (2 : Int32))] [(.int (2 : Int32)), (.int (0 : Int32)), (.ref ob), (.int (1 : Int32)), (.ref ob)])) rfl (by rw [hml]; rfl) (Steps.refl _) (a := ob) (by rw [eh2]; exact q3) q3' (argsL := [(.int (0 : Int32)), (.int (2 : Int32))]) (rest := [(.int (1 : Int32)), (.ref ob)]) (lenOf own_pd8 rfl) rfl (by show 2 * 0 + _ ≤ _; exact Nat.le_of_eq rfl) (hb hby d19_62) (fun _ _ => ⟨rfl, eh2, (by decide : 0 + 0 ≤ _), (by decide : 0 + 0 ≤ _)⟩)
  dsimp only [Pt.U, Pt.locs, Pt.cells, Pt.slots] at X3 l3 y3 z3 st3 hQ3
  subst l3 y3 z3
  obtain ⟨rfl, Nq3, eh3⟩ := hQ3
  have N3 := Fr.app N2 Nq3
  obtain ⟨cq4, q4, q4'⟩ := P.1.cell
  obtain ⟨_, _, ⟨T4, L4, k4, n4⟩, -, X4, ⟨Lc4, hQ4, l4, y4, z4⟩, st4⟩ := X3.privateBack hx (y := own_y9) hown (mvT hZ (own_w hw 130)) (mvT hZ (own_w hw 131)) (own_psel (z := own_y4) (mvT hZ (own_w hw 224)) (mvP hZ (own_w hw 132)) (mvT hZ (own_w hw 131)) rfl (by decide)) (Cond.privateMethod_at (mvP hZ (own_w hw 132) (args := #[]))) (mvT hZ (own_w hw 133)) (by decide) (backOf (W := 0) (rm10_3 l Z a0 hw [] ob  h0 n0 P hA hB   ) hZ (own_w hw 133) (own_w hw 9) (by decide) (by decide)) (g := (mkF m 65 #[.val (.ref ob), .val (.int (1 : Int32)), .val (.int (2 : Int32))] [(.int (2 : Int32)), (.int (1 : Int32)), (.ref ob)])) rfl (by rw [hml]; rfl) (Steps.refl _) (a := ob) (by rw [eh3]; exact q4) q4' (argsL := [(.int (1 : Int32)), (.int (2 : Int32))]) (rest := []) (lenOf own_pd3 rfl) rfl (by show 2 * 0 + _ ≤ _; exact Nat.le_of_eq rfl) (hb hby d19_65) (fun _ _ => ⟨rfl, eh3, (by decide : 0 + 0 ≤ _), (by decide : 0 + 0 ≤ _)⟩)
  dsimp only [Pt.U, Pt.locs, Pt.cells, Pt.slots] at X4 l4 y4 z4 st4 hQ4
  subst l4 y4 z4
  obtain ⟨rfl, Nq4, P4⟩ := hQ4
  have N4 := Fr.app N3 Nq4
  obtain ⟨cq5, kq5, q5a, q5b, q5c⟩ := isOf hZ rfl P4.1
  obtain ⟨_, _, ⟨T5, L5, k5, n5⟩, -, X5, ⟨Lc5, hQ5, l5, y5, z5⟩, st5⟩ := X4.virtualBack hx (y := own_y4) (z := own_y4) hown (mvT hZ (own_w hw 223)) (mvT hZ (own_w hw 167)) (own_nf (args := #[]) (z := own_y4) (mvT hZ (own_w hw 224)) rfl) (mvT hZ (own_w hw 224)) (mvT hZ (own_w hw 168)) (by decide) (backOf (W := 1) (rm15_3 l Z a0 hw [] ob  T4.heap n0 P4 hA hB  (own_ve (own_len P 0 (by omega) 5 (by decide))) ) hZ (own_w hw 170) (own_w hw 9) (by decide) (by decide)) q5a q5c (g := (mkF m 71 #[.val (.ref ob), .val (.int (1 : Int32)), .val (.int (2 : Int32))] [(.int (1 : Int32)), (.ref ob), (.ref ob)])) rfl (by rw [hml]; rfl) (Steps.refl _) (argsL := [(.int (1 : Int32))]) (rest := [(.ref ob)]) (lenOf own_pd5 rfl) rfl (by show 2 * 0 + _ ≤ _; exact Nat.le_of_eq rfl) (hb hby d19_71) (fun _ _ => ⟨rfl, rfl, (by decide : 0 + 0 ≤ _), (by decide : 0 + 0 ≤ _)⟩)
  dsimp only [Pt.U, Pt.locs, Pt.cells, Pt.slots] at X5 l5 y5 z5 st5 hQ5
  subst l5 y5 z5
  obtain ⟨rfl, Nq5, eh5⟩ := hQ5
  have N5 := Fr.app N4 Nq5
  obtain ⟨cq6, q6, q6'⟩ := P4.1.cell
  obtain ⟨_, _, ⟨T6, L6, k6, n6⟩, -, X6, ⟨Lc6, hQ6, l6, y6, z6⟩, st6⟩ := X5.privateBack hx (y := own_y32) hown (mvT hZ (own_w hw 225)) (mvT hZ (own_w hw 226)) (own_psel (z := own_y4) (mvT hZ (own_w hw 224)) (mvP hZ (own_w hw 227)) (mvT hZ (own_w hw 226)) rfl (by decide)) (Cond.privateMethod_at (mvP hZ (own_w hw 227) (args := #[]))) (mvT hZ (own_w hw 228)) (by decide) (backOf (W := 0) (rm26_1 l Z a0 hw [] ob  T4.heap n0 P4 hA hB  (own_vi hV0_10) ) hZ (own_w hw 228) (own_w hw 9) (by decide) (by decide)) (g := (mkF m 74 #[.val (.ref ob), .val (.int (1 : Int32)), .val (.int (2 : Int32))] [(.int (2 : Int32)), (.ref ob)])) rfl (by rw [hml]; rfl) (Steps.refl _) (a := ob) (by rw [eh5]; exact q6) q6' (argsL := [(.int (2 : Int32))]) (rest := []) (lenOf own_pd5 rfl) rfl (by show 2 * 0 + _ ≤ _; exact Nat.le_of_eq rfl) (hb hby d19_74) (fun _ _ => ⟨rfl, eh5, (by decide : 0 + 0 ≤ _), (by decide : 0 + 0 ≤ _)⟩)
  dsimp only [Pt.U, Pt.locs, Pt.cells, Pt.slots] at X6 l6 y6 z6 st6 hQ6
  subst l6 y6 z6
  obtain ⟨rfl, Nq6, eh6⟩ := hQ6
  have N6 := Fr.app N5 Nq6
  obtain ⟨cq7, q7, q7'⟩ := P4.1.cell
  obtain ⟨_, _, ⟨T7, L7, k7, n7⟩, -, X7, ⟨Lc7, hQ7, l7, y7, z7⟩, st7⟩ := X6.privateBack hx (y := own_y32) hown (mvT hZ (own_w hw 225)) (mvT hZ (own_w hw 226)) (own_psel (z := own_y4) (mvT hZ (own_w hw 224)) (mvP hZ (own_w hw 227)) (mvT hZ (own_w hw 226)) rfl (by decide)) (Cond.privateMethod_at (mvP hZ (own_w hw 227) (args := #[]))) (mvT hZ (own_w hw 228)) (by decide) (backOf (W := 1) (rm26_2 l Z a0 hw [] ob  T4.heap n0 P4 hA hB  (own_vi hV0_6) ) hZ (own_w hw 228) (own_w hw 9) (by decide) (by decide)) (g := (mkF m 79 #[.val (.ref ob), .val (.int (1 : Int32)), .val (.int (2 : Int32))] [(.int (1 : Int32)), (.ref ob), (.int (846755676 : Int32))])) rfl (by rw [hml]; rfl) (Steps.refl _) (a := ob) (by rw [eh6]; exact q7) q7' (argsL := [(.int (1 : Int32))]) (rest := [(.int (846755676 : Int32))]) (lenOf own_pd5 rfl) rfl (by show 2 * 0 + _ ≤ _; exact Nat.le_of_eq rfl) (hb hby d19_79) (fun _ _ => ⟨rfl, eh6, (by decide : 0 + 0 ≤ _), (by decide : 0 + 0 ≤ _)⟩)
  dsimp only [Pt.U, Pt.locs, Pt.cells, Pt.slots] at X7 l7 y7 z7 st7 hQ7
  subst l7 y7 z7
  obtain ⟨rfl, Nq7, eh7⟩ := hQ7
  have N7 := Fr.app N6 Nq7
  obtain ⟨cq8, q8, q8'⟩ := P4.1.cell
  obtain ⟨_, _, ⟨T8, L8, k8, n8⟩, -, X8, ⟨Lc8, hQ8, l8, y8, z8⟩, st8⟩ := X7.privateBack hx (y := own_y33) hown (mvT hZ (own_w hw 229)) (mvT hZ (own_w hw 230)) (own_psel (z := own_y4) (mvT hZ (own_w hw 224)) (mvP hZ (own_w hw 231)) (mvT hZ (own_w hw 230)) rfl (by decide)) (Cond.privateMethod_at (mvP hZ (own_w hw 231) (args := #[]))) (mvT hZ (own_w hw 232)) (by decide) (backOf (W := 0) (rm27_1 l Z a0 hw [] ob va vk T4.heap n0 P4 hA hB hM hF27 hF19 (own_vi hV0_4) (own_ve (own_len P 0 (by omega) 5 (by decide))) (own_vn hV5_0) (own_vn hV1_1) (own_vn hV12_3) (own_vn hV5_2) (own_vn hV6_0) (own_vn hV13_3) (own_vn hV6_2) ) hZ (own_w hw 232) (own_w hw 9) (by decide) (by decide)) (g := (mkF m 93 #[.val (.ref ob), .val (.int (1 : Int32)), .val (.int (2 : Int32))] [(.int (1 : Int32)), (.ref ob)])) rfl (by rw [hml]; rfl) (Steps.refl _) (a := ob) (by rw [eh7]; exact q8) q8' (argsL := [(.int (1 : Int32))]) (rest := []) (lenOf own_pd0 rfl) rfl (by show 2 * 0 + _ ≤ _; exact Nat.le_of_eq rfl) (hb hby d19_93) (fun _ _ => ⟨rfl, eh7, (by decide : 0 + 0 ≤ _), (by decide : 0 + 0 ≤ _)⟩)
  dsimp only [Pt.U, Pt.locs, Pt.cells, Pt.slots] at X8 l8 y8 z8 st8 hQ8
  subst l8 y8 z8
  obtain ⟨rfl, Nq8, P8⟩ := hQ8
  have N8 := Fr.app N7 Nq8
  obtain ⟨fs, hr, hrun, hended, hW, hsame⟩ := X8.leave (v := some (.int (1 : Int32))) (fun h => by rw [Bd.returns] at h; cases h)
  refine ⟨_, _, castTop ef ?_, hrun, hended, _, _, rfl, ?_, ⟨_, rfl⟩, hW, hsame.mono (by decide) (by decide)⟩
  · refine s_iloadN X0 hx (hb hby d19_0) rfl ?_
    refine s_ifY X0 hx 6 (hb hby d19_1) (by decide) (by decide) (by decide) ?_
    refine s_aloadN X0 hx (hb hby d19_6) rfl rfl ?_
    refine s_iloadN X0 hx (hb hby d19_7) rfl ?_
    refine s_iloadN X0 hx (hb hby d19_8) rfl ?_
    refine st1.trans ?_
    refine s_ifY X1 hx 53 (hb hby d19_12) (by decide) (by decide) (by decide) ?_
    refine s_aloadN X1 hx (hb hby d19_53) rfl rfl ?_
    refine s_iloadN X1 hx (hb hby d19_54) rfl ?_
    refine s_aloadN X1 hx (hb hby d19_55) rfl rfl ?_
    refine s_aloadN X1 hx (hb hby d19_56) rfl rfl ?_
    refine s_iloadN X1 hx (hb hby d19_57) rfl ?_
    refine st2.trans ?_
    refine s_iloadN X2 hx (hb hby d19_61) rfl ?_
    refine st3.trans ?_
    refine st4.trans ?_
    refine s_aloadN X4 hx (hb hby d19_68) rfl rfl ?_
    refine s_aloadN X4 hx (hb hby d19_69) rfl rfl ?_
    refine s_iloadN X4 hx (hb hby d19_70) rfl ?_
    refine st5.trans ?_
    refine st6.trans ?_
    refine s_aloadN X6 hx (hb hby d19_77) rfl rfl ?_
    refine s_iloadN X6 hx (hb hby d19_78) rfl ?_
    refine st7.trans ?_
    refine s_icmpY X7 hx 91 (hb hby d19_82) (by decide) (by decide) (by decide) ?_
    refine s_aloadN X7 hx (hb hby d19_91) rfl rfl ?_
    refine s_iloadN X7 hx (hb hby d19_92) rfl ?_
    refine st8.trans ?_
    refine s_iloadN X8 hx (hb hby d19_96) rfl ?_
    exact retI X8 hx Bd.returns (hb hby d19_97) hr
  · show ((_ : Option Value) = some (.int (1 : Int32)) ∧ Fr n0 _ ∧ own_PS Z T8.heap n0 ob nA A (own_up F 27 (.int (0 : Int32))) (own_vs (own_vs (own_vs (own_vs (own_vs (own_vs V 0 5 (.int (2 : Int32))) 5 1 (.int (((0 : Int32) + va) + (0 : Int32)))) 6 1 (.long (((0 : Int64) + vk) + (0 : Int64)))) 4 1 (.int (1 : Int32))) 8 1 (.int (1 : Int32))) 10 1 (.int (1 : Int32))))
    exact ⟨rfl, N8, P8⟩
set_option maxRecDepth 65536 in
set_option maxHeartbeats 40000000 in
theorem rm12_2 (l : Launch) (Z : State) (a0 : Array Value) (hw : own_HW Z a0) (ws : List Jvm.Cond) {nA : Nat} {A : Nat → Addr} {F : Nat → Value} {V : Nat → List Value} (ob : Addr) (va : Int32) (vk : Int64) (h0 : Heap) (n0 : Nat) (P : own_PS Z h0 n0 ob nA A F V) (hA : 13 ≤ nA) (hB : nA ≤ 14) (hM : nA = 14) (hF19 : F 19 = (.int (1 : Int32))) (hF14 : F 14 = (.int (1 : Int32))) (hF22 : F 22 = (.long (0 : Int64))) (hF15 : F 15 = (.int (1 : Int32))) (hV0_8 : (V 0).getD 8 (own_aZ 0) = (.int (0 : Int32))) (hV0_9 : (V 0).getD 9 (own_aZ 0) = (.int (0 : Int32))) (hV5_0 : (V 5).getD 0 (own_aZ 5) = (.int (0 : Int32))) (hV1_2 : (V 1).getD 2 (own_aZ 1) = (.int (1 : Int32))) (hV12_4 : (V 12).getD 4 (own_aZ 12) = (.int (0 : Int32))) (hV6_0 : (V 6).getD 0 (own_aZ 6) = (.long (0 : Int64))) (hV13_4 : (V 13).getD 4 (own_aZ 13) = (.long (0 : Int64))) (hV11_4 : (V 11).getD 4 (own_aZ 11) = (.long (20 : Int64))) (hV11_2 : (V 11).getD 2 (own_aZ 11) = (.long (0 : Int64))) (hV0_5 : (V 0).getD 5 (own_aZ 0) = (.int (0 : Int32))) (hV0_10 : (V 0).getD 10 (own_aZ 0) = (.int (846755676 : Int32))) (hV0_6 : (V 0).getD 6 (own_aZ 0) = (.int (1846393815 : Int32))) (hV0_4 : (V 0).getD 4 (own_aZ 0) = (.int (0 : Int32))) (hV1_1 : (V 1).getD 1 (own_aZ 1) = (.int (2 : Int32))) (hV12_3 : (V 12).getD 3 (own_aZ 12) = (.int va)) (hV13_3 : (V 13).getD 3 (own_aZ 13) = (.long vk)) :
    own_C l Z own_y23 bc12 2 none ws 4 61 #[(.ref ob), (.int (2 : Int32))] h0 (fun v h L => (v = none ∧ Fr n0 L ∧ own_PS Z h n0 ob nA A (own_up (own_up (own_up (own_up F 27 (.int (0 : Int32))) 27 (.int (0 : Int32))) 14 (.int (1 : Int32))) 15 (.int (2 : Int32))) (own_vs (own_vs (own_vs (own_vs (own_vs (own_vs (own_vs (own_vs (own_vs (own_vs (own_vs V 5 2 (.int (0 : Int32))) 6 2 (.long (0 : Int64))) 4 2 (.int (2 : Int32))) 8 2 (.int (1 : Int32))) 10 2 (.int (1 : Int32))) 0 5 (.int (2 : Int32))) 5 1 (.int (((0 : Int32) + va) + (0 : Int32)))) 6 1 (.long (((0 : Int64) + vk) + (0 : Int64)))) 4 1 (.int (1 : Int32))) 8 1 (.int (1 : Int32))) 10 1 (.int (1 : Int32))))) := by
  refine MetFree.of_bodySF (plainFor_of_name own_pn1) hisR ?_
  intro p e s m args below meth c s₁ Bd hml0 hP hK
  obtain ⟨rfl, hZ, hh⟩ := hP
  have hx := Bd.exec
  have hby := Bd.bytes
  have hml : c.maxLocals = 2 := hml0
  have hown : s.vm.findClass "com/example/jobwright/jobwright/policies/Treap" = some m.cls := findClass_of_methodNamed Bd.named
  have X0 : Stand p l e ({ frames := 4, cells := 0, slots := 0, locals := 61 } : Room) s m #[(.ref ob), (.int (2 : Int32))] below meth c s₁ [] 0 0 := Stand.of_body Bd
  have e0 : s₁.heap = h0 := by rw [← hh, Bd.state]; rfl
  have N0 := Fr.nil n0
  have ef : entryFrame m #[(.ref ob), (.int (2 : Int32))] 2 = mkF m 0 #[.val (.ref ob), .val (.int (2 : Int32))] [] := by first | (simp [entryFrame, mkF, argsToLocals, Value.category]; done) | rfl
  obtain ⟨cq1, kq1, q1a, q1b, q1c⟩ := isOf hZ e0 P.1
  obtain ⟨_, _, ⟨T1, L1, k1, n1⟩, -, X1, ⟨Lc1, hQ1, l1, y1, z1⟩, st1⟩ := X0.virtualBack hx (y := own_y21) (z := own_y20) hown (mvT hZ (own_w hw 154)) (mvT hZ (own_w hw 155)) (own_nf (args := #[]) (z := own_y4) (mvT hZ (own_w hw 224)) rfl) (mvT hZ (own_w hw 156)) (mvT hZ (own_w hw 157)) (by decide) (backOf (W := 0) (rm13_2 l Z a0 hw [] ob  h0 n0 P hA hB hM hF19 hV0_8 hV0_9 hV5_0 hV1_2 hV12_4 hV6_0 hV13_4 ) hZ (own_w hw 158) (own_w hw 2) (by decide) (by decide)) q1a q1c (g := (mkF m 2 #[.val (.ref ob), .val (.int (2 : Int32))] [(.int (2 : Int32)), (.ref ob)])) rfl (by rw [hml]; rfl) (Steps.refl _) (argsL := [(.int (2 : Int32))]) (rest := []) (lenOf own_pd7 rfl) rfl (by show 2 * 0 + _ ≤ _; exact Nat.le_of_eq rfl) (hb hby d12_2) (fun _ _ => ⟨rfl, e0, (by decide : 0 + 0 ≤ _), (by decide : 0 + 0 ≤ _)⟩)
  dsimp only [Pt.U, Pt.locs, Pt.cells, Pt.slots] at X1 l1 y1 z1 st1 hQ1
  subst l1 y1 z1
  obtain ⟨rfl, Nq1, P1⟩ := hQ1
  have N1 := Fr.app N0 Nq1
  obtain ⟨T2, h2, l2, X2, e2, N2, P2, st2⟩ := own_pp X1 hx hZ hw hown rfl N1 P1 27 (own_w hw 183) (Or.inl (own_w hw 184)) (v := (.int (0 : Int32))) (hb hby d12_8) #[.val (.ref ob), .val (.int (2 : Int32))] [] rfl rfl (by omega)
  obtain ⟨T3, X3, e3, st3⟩ := own_gf X2 hx hZ hown e2 P2 14 (own_w hw 14) (v := (.int (1 : Int32))) (own_fn hF14) (hb hby d12_14) #[.val (.ref ob), .val (.int (2 : Int32))] [(.ref ob), (.ref ob)]
  obtain ⟨cq4, q4, q4'⟩ := P2.1.cell
  obtain ⟨_, _, ⟨T4, L4, k4, n4⟩, -, X4, ⟨Lc4, hQ4, l4, y4, z4⟩, st4⟩ := X3.privateBack hx (y := own_y22) hown (mvT hZ (own_w hw 185)) (mvT hZ (own_w hw 186)) (own_psel (z := own_y4) (mvT hZ (own_w hw 224)) (mvP hZ (own_w hw 187)) (mvT hZ (own_w hw 186)) rfl (by decide)) (Cond.privateMethod_at (mvP hZ (own_w hw 187) (args := #[]))) (mvT hZ (own_w hw 188)) (by decide) (backOf (W := 1) (rm19_3 l Z a0 hw [] ob va vk h2 n0 P2 hA hB hM (own_fn hF19) (own_fn hF22) (own_up_eq _ _ _) (own_vn (own_vn (own_vn (own_vn (own_vn hV11_4))))) (own_vn (own_vn (own_vn (own_vn (own_vn hV11_2))))) (own_vn (own_vn (own_vn (own_vn (own_vn hV0_5))))) (own_vn (own_vn (own_vn (own_vn (own_vn hV0_10))))) (own_vn (own_vn (own_vn (own_vn (own_vn hV0_6))))) (own_vn (own_vn (own_vn (own_vn (own_vn hV0_4))))) (own_vn (own_vn (own_vn (own_vn (own_vi hV5_0))))) (own_vn (own_vn (own_vn (own_vn (own_vn hV1_1))))) (own_vn (own_vn (own_vn (own_vn (own_vn hV12_3))))) (own_vn (own_vn (own_vn (own_vn (own_ve (own_len P 5 (by omega) 2 (by decide))))))) (own_vn (own_vn (own_vn (own_vi (own_vn hV6_0))))) (own_vn (own_vn (own_vn (own_vn (own_vn hV13_3))))) (own_vn (own_vn (own_vn (own_ve (own_vl (own_len P 6 (by omega) 2 (by decide))))))) ) hZ (own_w hw 188) (own_w hw 9) (by decide) (by decide)) (g := (mkF m 18 #[.val (.ref ob), .val (.int (2 : Int32))] [(.int (2 : Int32)), (.int (1 : Int32)), (.ref ob), (.ref ob)])) rfl (by rw [hml]; rfl) (Steps.refl _) (a := ob) (by rw [e3]; exact q4) q4' (argsL := [(.int (1 : Int32)), (.int (2 : Int32))]) (rest := [(.ref ob)]) (lenOf own_pd8 rfl) rfl (by show 2 * 0 + _ ≤ _; exact Nat.le_of_eq rfl) (hb hby d12_18) (fun _ _ => ⟨rfl, e3, (by decide : 0 + 0 ≤ _), (by decide : 0 + 0 ≤ _)⟩)
  dsimp only [Pt.U, Pt.locs, Pt.cells, Pt.slots] at X4 l4 y4 z4 st4 hQ4
  subst l4 y4 z4
  obtain ⟨rfl, Nq4, P4⟩ := hQ4
  have N4 := Fr.app N2 Nq4
  obtain ⟨T5, h5, l5, X5, e5, N5, P5, st5⟩ := own_pp X4 hx hZ hw hown rfl N4 P4 14 (own_w hw 14) (Or.inl (own_w hw 15)) (v := (.int (1 : Int32))) (hb hby d12_21) #[.val (.ref ob), .val (.int (2 : Int32))] [] rfl rfl (by omega)
  obtain ⟨T6, X6, e6, st6⟩ := own_gf X5 hx hZ hown e5 P5 15 (own_w hw 111) (v := (.int (1 : Int32))) (own_fn (own_fn (own_fn hF15))) (hb hby d12_26) #[.val (.ref ob), .val (.int (2 : Int32))] [(.ref ob)]
  obtain ⟨T7, h7, l7, X7, e7, N7, P7, st7⟩ := own_pp X6 hx hZ hw hown e6 N5 P5 15 (own_w hw 111) (Or.inl (own_w hw 112)) (v := (.int (2 : Int32))) (hb hby d12_31) #[.val (.ref ob), .val (.int (2 : Int32))] [] rfl rfl (by omega)
  obtain ⟨fs, hr, hrun, hended, hW, hsame⟩ := X7.leave (v := none) (fun _ => rfl)
  refine ⟨_, _, castTop ef ?_, hrun, hended, _, _, rfl, ?_, ⟨_, rfl⟩, hW, hsame.mono (by decide) (by decide)⟩
  · refine s_aloadN X0 hx (hb hby d12_0) rfl rfl ?_
    refine s_iloadN X0 hx (hb hby d12_1) rfl ?_
    refine st1.trans ?_
    refine s_pop X1 hx (hb hby d12_5) rfl ?_
    refine s_aloadN X1 hx (hb hby d12_6) rfl rfl ?_
    refine s_iconst X1 hx (0 : Int32) (hb hby d12_7) rfl ?_
    refine st2 _ ?_
    refine s_aloadN X2 hx (hb hby d12_11) rfl rfl ?_
    refine s_aloadN X2 hx (hb hby d12_12) rfl rfl ?_
    refine s_aloadN X2 hx (hb hby d12_13) rfl rfl ?_
    refine st3 _ ?_
    refine s_iloadN X3 hx (hb hby d12_17) rfl ?_
    refine st4.trans ?_
    refine st5 _ ?_
    refine s_aloadN X5 hx (hb hby d12_24) rfl rfl ?_
    refine s_dup X5 hx (hb hby d12_25) rfl ?_
    refine st6 _ ?_
    refine s_iconst X6 hx (1 : Int32) (hb hby d12_29) rfl ?_
    refine s_iadd X6 hx (2 : Int32) (hb hby d12_30) (by decide) ?_
    refine st7 _ ?_
    exact X7.returnOut hx Bd.returns (hb hby d12_34) hr
  · show ((_ : Option Value) = none ∧ Fr n0 _ ∧ own_PS Z T7.heap n0 ob nA A (own_up (own_up (own_up (own_up F 27 (.int (0 : Int32))) 27 (.int (0 : Int32))) 14 (.int (1 : Int32))) 15 (.int (2 : Int32))) (own_vs (own_vs (own_vs (own_vs (own_vs (own_vs (own_vs (own_vs (own_vs (own_vs (own_vs V 5 2 (.int (0 : Int32))) 6 2 (.long (0 : Int64))) 4 2 (.int (2 : Int32))) 8 2 (.int (1 : Int32))) 10 2 (.int (1 : Int32))) 0 5 (.int (2 : Int32))) 5 1 (.int (((0 : Int32) + va) + (0 : Int32)))) 6 1 (.long (((0 : Int64) + vk) + (0 : Int64)))) 4 1 (.int (1 : Int32))) 8 1 (.int (1 : Int32))) 10 1 (.int (1 : Int32))))
    rw [e7]
    exact ⟨rfl, N7, P7⟩
set_option maxRecDepth 65536 in
set_option maxHeartbeats 40000000 in
theorem rm21_2 (l : Launch) (Z : State) (a0 : Array Value) (hw : own_HW Z a0) (ws : List Jvm.Cond) {nA : Nat} {A : Nat → Addr} {F : Nat → Value} {V : Nat → List Value} (ob : Addr) (va : Int32) (vk : Int64) (h0 : Heap) (n0 : Nat) (P : own_PS Z h0 n0 ob nA A F V) (hA : 13 ≤ nA) (hB : nA ≤ 14) (hM : nA = 14) (hF19 : F 19 = (.int (1 : Int32))) (hF20 : F 20 = (.int (2 : Int32))) (hF24 : F 24 = (.int (1 : Int32))) (hF16 : F 16 = (.int (0 : Int32))) (hF17 : F 17 = (.int (2 : Int32))) (hF18 : F 18 = (.long (-2586341971585708627 : Int64))) (hF22 : F 22 = (.long (0 : Int64))) (hF14 : F 14 = (.int (1 : Int32))) (hF15 : F 15 = (.int (1 : Int32))) (hV3_1 : (V 3).getD 1 (own_aZ 3) = (.int (0 : Int32))) (hV5_0 : (V 5).getD 0 (own_aZ 5) = (.int (0 : Int32))) (hV6_0 : (V 6).getD 0 (own_aZ 6) = (.long (0 : Int64))) (hV11_2 : (V 11).getD 2 (own_aZ 11) = (.long (0 : Int64))) (hV0_5 : (V 0).getD 5 (own_aZ 0) = (.int (0 : Int32))) (hV0_6 : (V 0).getD 6 (own_aZ 0) = (.int (1846393815 : Int32))) (hV0_4 : (V 0).getD 4 (own_aZ 0) = (.int (0 : Int32))) (hV1_1 : (V 1).getD 1 (own_aZ 1) = (.int (2 : Int32))) (hV12_3 : (V 12).getD 3 (own_aZ 12) = (.int va)) (hV13_3 : (V 13).getD 3 (own_aZ 13) = (.long vk)) :
    own_C l Z own_y27 bc21 11 (some .int) ws 5 74 #[(.ref ob), (.int (3 : Int32)), (.long (20 : Int64))] h0 (fun v h L => (v = some (.int (4 : Int32)) ∧ Fr n0 L ∧ own_PS Z h n0 ob nA A (own_up (own_up (own_up (own_up (own_up (own_up (own_up (own_up (own_up F 17 (.int (3 : Int32))) 18 (.long (-5553300284382974547 : Int64))) 18 (.long (-5509191256401354634 : Int64))) 18 (.long (7273575876580499574 : Int64))) 24 (.int (2 : Int32))) 27 (.int (0 : Int32))) 27 (.int (0 : Int32))) 14 (.int (1 : Int32))) 15 (.int (2 : Int32))) (own_vs (own_vs (own_vs (own_vs (own_vs (own_vs (own_vs (own_vs (own_vs (own_vs (own_vs (own_vs (own_vs (own_vs (own_vs (own_vs (own_vs (own_vs (own_vs (own_vs (own_vs (own_vs (own_vs V 0 8 (.int (0 : Int32))) 0 9 (.int (0 : Int32))) 0 10 (.int (846755676 : Int32))) 2 2 (.int (1 : Int32))) 3 2 (.int (0 : Int32))) 3 1 (.int (2 : Int32))) 7 2 (.int (1 : Int32))) 9 2 (.int (1 : Int32))) 11 4 (.long (20 : Int64))) 12 4 (.int (0 : Int32))) 13 4 (.long (0 : Int64))) 1 2 (.int (1 : Int32))) 5 2 (.int (0 : Int32))) 6 2 (.long (0 : Int64))) 4 2 (.int (2 : Int32))) 8 2 (.int (1 : Int32))) 10 2 (.int (1 : Int32))) 0 5 (.int (2 : Int32))) 5 1 (.int (((0 : Int32) + va) + (0 : Int32)))) 6 1 (.long (((0 : Int64) + vk) + (0 : Int64)))) 4 1 (.int (1 : Int32))) 8 1 (.int (1 : Int32))) 10 1 (.int (1 : Int32))))) := by
  refine MetFree.of_bodySF (plainFor_of_name own_pn2) hisR ?_
  intro p e s m args below meth c s₁ Bd hml0 hP hK
  obtain ⟨rfl, hZ, hh⟩ := hP
  have hx := Bd.exec
  have hby := Bd.bytes
  have hml : c.maxLocals = 11 := hml0
  have hown : s.vm.findClass "com/example/jobwright/jobwright/policies/ProfileSteps" = some m.cls := findClass_of_methodNamed Bd.named
  have X0 : Stand p l e ({ frames := 5, cells := 0, slots := 0, locals := 74 } : Room) s m #[(.ref ob), (.int (3 : Int32)), (.long (20 : Int64))] below meth c s₁ [] 0 0 := Stand.of_body Bd
  have e0 : s₁.heap = h0 := by rw [← hh, Bd.state]; rfl
  have N0 := Fr.nil n0
  have ef : entryFrame m #[(.ref ob), (.int (3 : Int32)), (.long (20 : Int64))] 11 = mkF m 0 #[.val (.ref ob), .val (.int (3 : Int32)), .val (.long (20 : Int64)), .second, .unset, .unset, .unset, .unset, .unset, .unset, .unset] [] := by first | (simp [entryFrame, mkF, argsToLocals, Value.category]; done) | rfl
  obtain ⟨T1, X1, e1, st1⟩ := own_gf X0 hx hZ hown e0 P 19 (own_w hw 54) (v := (.int (1 : Int32))) hF19 (hb hby d21_2) #[.val (.ref ob), .val (.int (3 : Int32)), .val (.long (20 : Int64)), .second, .unset, .unset, .unset, .unset, .unset, .unset, .unset] [(.int (3 : Int32))]
  obtain ⟨T2, X2, e2, st2⟩ := own_gf X1 hx hZ hown e1 P 19 (own_w hw 54) (v := (.int (1 : Int32))) hF19 (hb hby d21_12) #[.val (.ref ob), .val (.int (3 : Int32)), .val (.long (20 : Int64)), .second, .val (.int (1 : Int32)), .unset, .unset, .unset, .unset, .unset, .unset] [(.int (1 : Int32)), (.int (3 : Int32))]
  obtain ⟨T3, X3, e3, st3⟩ := own_gf X2 hx hZ hown e2 P 20 (own_w hw 56) (v := (.int (2 : Int32))) hF20 (hb hby d21_24) #[.val (.ref ob), .val (.int (3 : Int32)), .val (.long (20 : Int64)), .second, .val (.int (1 : Int32)), .val (.int (2 : Int32)), .unset, .unset, .unset, .unset, .unset] [(.int (2 : Int32))]
  obtain ⟨T4, X4, e4, st4⟩ := own_gf X3 hx hZ hown e3 P 24 (own_w hw 142) (v := (.int (1 : Int32))) hF24 (hb hby d21_33) #[.val (.ref ob), .val (.int (3 : Int32)), .val (.long (20 : Int64)), .second, .val (.int (1 : Int32)), .val (.int (2 : Int32)), .unset, .unset, .unset, .unset, .unset] [(.int (1 : Int32))]
  obtain ⟨cq5, q5, q5'⟩ := P.1.cell
  obtain ⟨_, _, ⟨T5, L5, k5, n5⟩, -, X5, ⟨Lc5, hQ5, l5, y5, z5⟩, st5⟩ := X4.privateBack hx (y := own_y28) hown (mvT hZ (own_w hw 209)) (mvT hZ (own_w hw 210)) (own_psel (z := own_y17) (mvT hZ (own_w hw 103)) (mvP hZ (own_w hw 211)) (mvT hZ (own_w hw 210)) rfl (by decide)) (Cond.privateMethod_at (mvP hZ (own_w hw 211) (args := #[]))) (mvT hZ (own_w hw 212)) (by decide) (backOf (W := 0) (rm23_1 l Z a0 hw [] ob  h0 n0 P hA hB hF16 hF17 hF18 hV3_1 ) hZ (own_w hw 212) (own_w hw 2) (by decide) (by decide)) (g := (mkF m 42 #[.val (.ref ob), .val (.int (3 : Int32)), .val (.long (20 : Int64)), .second, .val (.int (1 : Int32)), .val (.int (2 : Int32)), .unset, .unset, .unset, .unset, .unset] [(.int (1 : Int32)), (.ref ob)])) rfl (by rw [hml]; rfl) (Steps.refl _) (a := ob) (by rw [e4]; exact q5) q5' (argsL := [(.int (1 : Int32))]) (rest := []) (lenOf own_pd5 rfl) rfl (by show 2 * 0 + _ ≤ _; exact Nat.le_of_eq rfl) (hb hby d21_42) (fun _ _ => ⟨rfl, e4, (by decide : 0 + 0 ≤ _), (by decide : 0 + 0 ≤ _)⟩)
  dsimp only [Pt.U, Pt.locs, Pt.cells, Pt.slots] at X5 l5 y5 z5 st5 hQ5
  subst l5 y5 z5
  obtain ⟨rfl, Nq5, P5⟩ := hQ5
  have N5 := Fr.app N0 Nq5
  obtain ⟨T6, X6, e6, st6⟩ := own_gf X5 hx hZ hown rfl P5 11 (own_w hw 92) (v := (.ref (A 11))) (P5.2.2.2.1 11 (by omega)) (hb hby d21_48) #[.val (.ref ob), .val (.int (3 : Int32)), .val (.long (20 : Int64)), .second, .val (.int (1 : Int32)), .val (.int (2 : Int32)), .val (.int (2 : Int32)), .unset, .unset, .unset, .unset] []
  obtain ⟨T7, X7, e7, st7⟩ := own_gf X6 hx hZ hown e6 P5 19 (own_w hw 54) (v := (.int (1 : Int32))) (own_fn (own_fn (own_fn (own_fn (own_fn hF19))))) (hb hby d21_54) #[.val (.ref ob), .val (.int (3 : Int32)), .val (.long (20 : Int64)), .second, .val (.int (1 : Int32)), .val (.int (2 : Int32)), .val (.int (2 : Int32)), .unset, .unset, .unset, .unset] [(.int (2 : Int32)), (.ref (A 11))]
  obtain ⟨T8, X8, e8, st8⟩ := own_gf X7 hx hZ hown e7 P5 22 (own_w hw 138) (v := (.long (0 : Int64))) (own_fn (own_fn (own_fn (own_fn (own_fn hF22))))) (hb hby d21_60) #[.val (.ref ob), .val (.int (3 : Int32)), .val (.long (20 : Int64)), .second, .val (.int (1 : Int32)), .val (.int (2 : Int32)), .val (.int (2 : Int32)), .unset, .unset, .unset, .unset] [(.long (20 : Int64)), (.int (4 : Int32)), (.ref (A 11))]
  obtain ⟨T9, h9, l9, X9, e9, N9, P9, st9⟩ := own_lst X8 hx hZ e8 N5 P5 11 4 (j := (4 : Int32)) (x := (20 : Int64)) (hb hby d21_64) #[.val (.ref ob), .val (.int (3 : Int32)), .val (.long (20 : Int64)), .second, .val (.int (1 : Int32)), .val (.int (2 : Int32)), .val (.int (2 : Int32)), .unset, .unset, .unset, .unset] [] (by omega)
  obtain ⟨T10, X10, e10, st10⟩ := own_gf X9 hx hZ hown e9 P9 12 (own_w hw 94) (v := (.ref (A 12))) (P9.2.2.2.1 12 (by omega)) (hb hby d21_66) #[.val (.ref ob), .val (.int (3 : Int32)), .val (.long (20 : Int64)), .second, .val (.int (1 : Int32)), .val (.int (2 : Int32)), .val (.int (2 : Int32)), .unset, .unset, .unset, .unset] []
  obtain ⟨T11, X11, e11, st11⟩ := own_gf X10 hx hZ hown e10 P9 19 (own_w hw 54) (v := (.int (1 : Int32))) (own_fn (own_fn (own_fn (own_fn (own_fn hF19))))) (hb hby d21_72) #[.val (.ref ob), .val (.int (3 : Int32)), .val (.long (20 : Int64)), .second, .val (.int (1 : Int32)), .val (.int (2 : Int32)), .val (.int (2 : Int32)), .unset, .unset, .unset, .unset] [(.int (2 : Int32)), (.ref (A 12))]
  obtain ⟨T12, h12, l12, X12, e12, N12, P12, st12⟩ := own_ist X11 hx hZ e11 N9 P9 12 4 (j := (4 : Int32)) (x := (0 : Int32)) (hb hby d21_77) #[.val (.ref ob), .val (.int (3 : Int32)), .val (.long (20 : Int64)), .second, .val (.int (1 : Int32)), .val (.int (2 : Int32)), .val (.int (2 : Int32)), .unset, .unset, .unset, .unset] [] (by omega)
  obtain ⟨T13, X13, e13, st13⟩ := own_gf X12 hx hZ hown e12 P12 13 (own_w hw 96) (v := (.ref (A 13))) (P12.2.2.2.1 13 (by omega)) (hb hby d21_79) #[.val (.ref ob), .val (.int (3 : Int32)), .val (.long (20 : Int64)), .second, .val (.int (1 : Int32)), .val (.int (2 : Int32)), .val (.int (2 : Int32)), .unset, .unset, .unset, .unset] []
  obtain ⟨T14, X14, e14, st14⟩ := own_gf X13 hx hZ hown e13 P12 13 (own_w hw 96) (v := (.ref (A 13))) (P12.2.2.2.1 13 (by omega)) (hb hby d21_86) #[.val (.ref ob), .val (.int (3 : Int32)), .val (.long (20 : Int64)), .second, .val (.int (1 : Int32)), .val (.int (2 : Int32)), .val (.int (2 : Int32)), .unset, .unset, .unset, .unset] []
  obtain ⟨T15, X15, e15, st15⟩ := own_gf X14 hx hZ hown e14 P12 19 (own_w hw 54) (v := (.int (1 : Int32))) (own_fn (own_fn (own_fn (own_fn (own_fn hF19))))) (hb hby d21_92) #[.val (.ref ob), .val (.int (3 : Int32)), .val (.long (20 : Int64)), .second, .val (.int (1 : Int32)), .val (.int (2 : Int32)), .val (.int (2 : Int32)), .unset, .unset, .unset, .unset] [(.int (2 : Int32)), (.ref (A 13))]
  obtain ⟨T16, h16, l16, X16, e16, N16, P16, st16⟩ := own_lst X15 hx hZ e15 N12 P12 13 4 (j := (4 : Int32)) (x := (0 : Int64)) (hb hby d21_97) #[.val (.ref ob), .val (.int (3 : Int32)), .val (.long (20 : Int64)), .second, .val (.int (1 : Int32)), .val (.int (2 : Int32)), .val (.int (2 : Int32)), .unset, .unset, .unset, .unset] [] (by omega)
  obtain ⟨T17, X17, e17, st17⟩ := own_gf X16 hx hZ hown e16 P16 1 (own_w hw 58) (v := (.ref (A 1))) (P16.2.2.2.1 1 (by omega)) (hb hby d21_99) #[.val (.ref ob), .val (.int (3 : Int32)), .val (.long (20 : Int64)), .second, .val (.int (1 : Int32)), .val (.int (2 : Int32)), .val (.int (2 : Int32)), .unset, .unset, .unset, .unset] []
  obtain ⟨T18, h18, l18, X18, e18, N18, P18, st18⟩ := own_ist X17 hx hZ e17 N16 P16 1 2 (j := (2 : Int32)) (x := (1 : Int32)) (hb hby d21_105) #[.val (.ref ob), .val (.int (3 : Int32)), .val (.long (20 : Int64)), .second, .val (.int (1 : Int32)), .val (.int (2 : Int32)), .val (.int (2 : Int32)), .unset, .unset, .unset, .unset] [] (by omega)
  obtain ⟨cq19, kq19, q19a, q19b, q19c⟩ := isOf hZ e18 P18.1
  obtain ⟨_, _, ⟨T19, L19, k19, n19⟩, -, X19, ⟨Lc19, hQ19, l19, y19, z19⟩, st19⟩ := X18.virtualBackUp hx (x := own_y24) (y := own_y23) (owner := "com/example/jobwright/jobwright/policies/Treap") hown (mvT hZ (own_w hw 148)) (mvT hZ (own_w hw 149)) (mvT hZ (own_w hw 150)) (by decide) (mvT hZ (own_w hw 152)) (mvT hZ (own_w hw 151)) (backOf (W := 0) (rm12_2 l Z a0 hw [] ob va vk h18 n0 P18 hA hB hM (own_fn (own_fn (own_fn (own_fn (own_fn hF19))))) (own_fn (own_fn (own_fn (own_fn (own_fn hF14))))) (own_fn (own_fn (own_fn (own_fn (own_fn hF22))))) (own_fn (own_fn (own_fn (own_fn (own_fn hF15))))) (own_vn (own_vn (own_vn (own_vn (own_vn (own_vn (own_vn (own_vn (own_vn (own_vi (own_vi (own_ve (own_len P 0 (by omega) 8 (by decide)))))))))))))) (own_vn (own_vn (own_vn (own_vn (own_vn (own_vn (own_vn (own_vn (own_vn (own_vi (own_ve (own_vl (own_len P 0 (by omega) 9 (by decide)))))))))))))) (own_vn (own_vn (own_vn (own_vn (own_vn (own_vn (own_vn (own_vn (own_vn (own_vn (own_vn (own_vn hV5_0)))))))))))) (own_ve (own_vl (own_vl (own_vl (own_vl (own_vl (own_vl (own_vl (own_vl (own_vl (own_vl (own_vl (own_len P 1 (by omega) 2 (by decide)))))))))))))) (own_vn (own_vn (own_ve (own_vl (own_vl (own_vl (own_vl (own_vl (own_vl (own_vl (own_vl (own_vl (own_len P 12 (by omega) 4 (by decide)))))))))))))) (own_vn (own_vn (own_vn (own_vn (own_vn (own_vn (own_vn (own_vn (own_vn (own_vn (own_vn (own_vn hV6_0)))))))))))) (own_vn (own_ve (own_vl (own_vl (own_vl (own_vl (own_vl (own_vl (own_vl (own_vl (own_vl (own_vl (own_len P 13 (by omega) 4 (by decide)))))))))))))) (own_vn (own_vn (own_vn (own_ve (own_vl (own_vl (own_vl (own_vl (own_vl (own_vl (own_vl (own_vl (own_len P 11 (by omega) 4 (by decide)))))))))))))) (own_vn (own_vn (own_vn (own_vi (own_vn (own_vn (own_vn (own_vn (own_vn (own_vn (own_vn (own_vn hV11_2)))))))))))) (own_vn (own_vn (own_vn (own_vn (own_vn (own_vn (own_vn (own_vn (own_vn (own_vi (own_vi (own_vi hV0_5)))))))))))) (own_vn (own_vn (own_vn (own_vn (own_vn (own_vn (own_vn (own_vn (own_vn (own_ve (own_vl (own_vl (own_len P 0 (by omega) 10 (by decide)))))))))))))) (own_vn (own_vn (own_vn (own_vn (own_vn (own_vn (own_vn (own_vn (own_vn (own_vi (own_vi (own_vi hV0_6)))))))))))) (own_vn (own_vn (own_vn (own_vn (own_vn (own_vn (own_vn (own_vn (own_vn (own_vi (own_vi (own_vi hV0_4)))))))))))) (own_vi (own_vn (own_vn (own_vn (own_vn (own_vn (own_vn (own_vn (own_vn (own_vn (own_vn (own_vn hV1_1)))))))))))) (own_vn (own_vn (own_vi (own_vn (own_vn (own_vn (own_vn (own_vn (own_vn (own_vn (own_vn (own_vn hV12_3)))))))))))) (own_vn (own_vi (own_vn (own_vn (own_vn (own_vn (own_vn (own_vn (own_vn (own_vn (own_vn (own_vn hV13_3)))))))))))) ) hZ (own_w hw 153) (own_w hw 9) (by decide) (by decide)) q19a q19c (g := (mkF m 109 #[.val (.ref ob), .val (.int (3 : Int32)), .val (.long (20 : Int64)), .second, .val (.int (1 : Int32)), .val (.int (2 : Int32)), .val (.int (2 : Int32)), .unset, .unset, .unset, .unset] [(.int (2 : Int32)), (.ref ob)])) rfl (by rw [hml]; rfl) (Steps.refl _) (argsL := [(.int (2 : Int32))]) (rest := []) (lenOf own_pd0 rfl) rfl (by show 2 * 0 + _ ≤ _; exact Nat.le_of_eq rfl) (hb hby d21_109) (fun _ _ => ⟨rfl, e18, (by decide : 0 + 0 ≤ _), (by decide : 0 + 0 ≤ _)⟩)
  dsimp only [Pt.U, Pt.locs, Pt.cells, Pt.slots] at X19 l19 y19 z19 st19 hQ19
  subst l19 y19 z19
  obtain ⟨rfl, Nq19, P19⟩ := hQ19
  have N19 := Fr.app N18 Nq19
  obtain ⟨T20, X20, e20, st20⟩ := own_gf X19 hx hZ hown rfl P19 19 (own_w hw 54) (v := (.int (1 : Int32))) (own_fn (own_fn (own_fn (own_fn (own_fn (own_fn (own_fn (own_fn (own_fn hF19))))))))) (hb hby d21_115) #[.val (.ref ob), .val (.int (3 : Int32)), .val (.long (20 : Int64)), .second, .val (.int (1 : Int32)), .val (.int (2 : Int32)), .val (.int (2 : Int32)), .unset, .unset, .unset, .unset] [(.int (2 : Int32))]
  obtain ⟨fs, hr, hrun, hended, hW, hsame⟩ := X20.leave (v := some (.int (4 : Int32))) (fun h => by rw [Bd.returns] at h; cases h)
  refine ⟨_, _, castTop ef ?_, hrun, hended, _, _, rfl, ?_, ⟨_, rfl⟩, hW, hsame.mono (by decide) (by decide)⟩
  · refine s_iloadN X0 hx (hb hby d21_0) rfl ?_
    refine s_aloadN X0 hx (hb hby d21_1) rfl rfl ?_
    refine st1 _ ?_
    refine s_ishr X1 hx (1 : Int32) (hb hby d21_5) (by decide) ?_
    refine s_istore X1 hx #[.val (.ref ob), .val (.int (3 : Int32)), .val (.long (20 : Int64)), .second, .val (.int (1 : Int32)), .unset, .unset, .unset, .unset, .unset, .unset] (hb hby d21_6) rfl ?_
    refine s_iloadN X1 hx (hb hby d21_8) rfl ?_
    refine s_iload X1 hx (hb hby d21_9) rfl ?_
    refine s_aloadN X1 hx (hb hby d21_11) rfl rfl ?_
    refine st2 _ ?_
    refine s_ishl X2 hx (2 : Int32) (hb hby d21_15) (by decide) ?_
    refine s_isub X2 hx (1 : Int32) (hb hby d21_16) (by decide) ?_
    refine s_iconst X2 hx (1 : Int32) (hb hby d21_17) rfl ?_
    refine s_iadd X2 hx (2 : Int32) (hb hby d21_18) (by decide) ?_
    refine s_istore X2 hx #[.val (.ref ob), .val (.int (3 : Int32)), .val (.long (20 : Int64)), .second, .val (.int (1 : Int32)), .val (.int (2 : Int32)), .unset, .unset, .unset, .unset, .unset] (hb hby d21_19) rfl ?_
    refine s_iload X2 hx (hb hby d21_21) rfl ?_
    refine s_aloadN X2 hx (hb hby d21_23) rfl rfl ?_
    refine st3 _ ?_
    refine s_icmpN X3 hx (hb hby d21_27) (by decide) ?_
    refine s_iload X3 hx (hb hby d21_30) rfl ?_
    refine s_aloadN X3 hx (hb hby d21_32) rfl rfl ?_
    refine st4 _ ?_
    refine s_icmpN X4 hx (hb hby d21_36) (by decide) ?_
    refine s_aloadN X4 hx (hb hby d21_39) rfl rfl ?_
    refine s_iload X4 hx (hb hby d21_40) rfl ?_
    refine st5.trans ?_
    refine s_istore X5 hx #[.val (.ref ob), .val (.int (3 : Int32)), .val (.long (20 : Int64)), .second, .val (.int (1 : Int32)), .val (.int (2 : Int32)), .val (.int (2 : Int32)), .unset, .unset, .unset, .unset] (hb hby d21_45) rfl ?_
    refine s_aloadN X5 hx (hb hby d21_47) rfl rfl ?_
    refine st6 _ ?_
    refine s_iload X6 hx (hb hby d21_51) rfl ?_
    refine s_aloadN X6 hx (hb hby d21_53) rfl rfl ?_
    refine st7 _ ?_
    refine s_ishl X7 hx (4 : Int32) (hb hby d21_57) (by decide) ?_
    refine s_lloadN X7 hx (hb hby d21_58) rfl ?_
    refine s_aloadN X7 hx (hb hby d21_59) rfl rfl ?_
    refine st8 _ ?_
    refine s_lsub X8 hx (20 : Int64) (hb hby d21_63) (by decide) ?_
    refine st9 _ ?_
    refine s_aloadN X9 hx (hb hby d21_65) rfl rfl ?_
    refine st10 _ ?_
    refine s_iload X10 hx (hb hby d21_69) rfl ?_
    refine s_aloadN X10 hx (hb hby d21_71) rfl rfl ?_
    refine st11 _ ?_
    refine s_ishl X11 hx (4 : Int32) (hb hby d21_75) (by decide) ?_
    refine s_iconst X11 hx (0 : Int32) (hb hby d21_76) rfl ?_
    refine st12 _ ?_
    refine s_aloadN X12 hx (hb hby d21_78) rfl rfl ?_
    refine st13 _ ?_
    refine s_nullN X13 hx (hb hby d21_82) ?_
    refine s_aloadN X13 hx (hb hby d21_85) rfl rfl ?_
    refine st14 _ ?_
    refine s_iload X14 hx (hb hby d21_89) rfl ?_
    refine s_aloadN X14 hx (hb hby d21_91) rfl rfl ?_
    refine st15 _ ?_
    refine s_ishl X15 hx (4 : Int32) (hb hby d21_95) (by decide) ?_
    refine s_lconst X15 hx (0 : Int64) (hb hby d21_96) ?_ (by decide)
    refine st16 _ ?_
    refine s_aloadN X16 hx (hb hby d21_98) rfl rfl ?_
    refine st17 _ ?_
    refine s_iload X17 hx (hb hby d21_102) rfl ?_
    refine s_iconst X17 hx (1 : Int32) (hb hby d21_104) rfl ?_
    refine st18 _ ?_
    refine s_aloadN X18 hx (hb hby d21_106) rfl rfl ?_
    refine s_iload X18 hx (hb hby d21_107) rfl ?_
    refine st19.trans ?_
    refine s_iload X19 hx (hb hby d21_112) rfl ?_
    refine s_aloadN X19 hx (hb hby d21_114) rfl rfl ?_
    refine st20 _ ?_
    refine s_ishl X20 hx (4 : Int32) (hb hby d21_118) (by decide) ?_
    exact retI X20 hx Bd.returns (hb hby d21_119) hr
  · show ((_ : Option Value) = some (.int (4 : Int32)) ∧ Fr n0 _ ∧ own_PS Z T20.heap n0 ob nA A (own_up (own_up (own_up (own_up (own_up (own_up (own_up (own_up (own_up F 17 (.int (3 : Int32))) 18 (.long (-5553300284382974547 : Int64))) 18 (.long (-5509191256401354634 : Int64))) 18 (.long (7273575876580499574 : Int64))) 24 (.int (2 : Int32))) 27 (.int (0 : Int32))) 27 (.int (0 : Int32))) 14 (.int (1 : Int32))) 15 (.int (2 : Int32))) (own_vs (own_vs (own_vs (own_vs (own_vs (own_vs (own_vs (own_vs (own_vs (own_vs (own_vs (own_vs (own_vs (own_vs (own_vs (own_vs (own_vs (own_vs (own_vs (own_vs (own_vs (own_vs (own_vs V 0 8 (.int (0 : Int32))) 0 9 (.int (0 : Int32))) 0 10 (.int (846755676 : Int32))) 2 2 (.int (1 : Int32))) 3 2 (.int (0 : Int32))) 3 1 (.int (2 : Int32))) 7 2 (.int (1 : Int32))) 9 2 (.int (1 : Int32))) 11 4 (.long (20 : Int64))) 12 4 (.int (0 : Int32))) 13 4 (.long (0 : Int64))) 1 2 (.int (1 : Int32))) 5 2 (.int (0 : Int32))) 6 2 (.long (0 : Int64))) 4 2 (.int (2 : Int32))) 8 2 (.int (1 : Int32))) 10 2 (.int (1 : Int32))) 0 5 (.int (2 : Int32))) 5 1 (.int (((0 : Int32) + va) + (0 : Int32)))) 6 1 (.long (((0 : Int64) + vk) + (0 : Int64)))) 4 1 (.int (1 : Int32))) 8 1 (.int (1 : Int32))) 10 1 (.int (1 : Int32))))
    rw [e20]
    exact ⟨rfl, N19, P19⟩
set_option maxRecDepth 65536 in
set_option maxHeartbeats 40000000 in
theorem rm29_1 (l : Launch) (Z : State) (a0 : Array Value) (hw : own_HW Z a0) (ws : List Jvm.Cond) {nA : Nat} {A : Nat → Addr} {F : Nat → Value} {V : Nat → List Value} (ob : Addr) (va : Int32) (vk : Int64) (vb : Int32) (vkb : Int64) (h0 : Heap) (n0 : Nat) (P : own_PS Z h0 n0 ob nA A F V) (hA : 13 ≤ nA) (hB : nA ≤ 14) (hM : nA = 14) (hV12_3 : (V 12).getD 3 (own_aZ 12) = (.int va)) (hV13_3 : (V 13).getD 3 (own_aZ 13) = (.long vk)) :
    own_C l Z own_y34 bc29 7 none ws 0 0 #[(.ref ob), (.int (3 : Int32)), (.int (4 : Int32)), (.int vb), (.long vkb)] h0 (fun v h L => (v = none ∧ Fr n0 L ∧ own_PS Z h n0 ob nA A F (own_vs (own_vs V 12 3 (.int (va + vb))) 13 3 (.long (vk + vkb))))) := by
  refine MetFree.of_bodySF (plainFor_of_name own_pn2) hisR ?_
  intro p e s m args below meth c s₁ Bd hml0 hP hK
  obtain ⟨rfl, hZ, hh⟩ := hP
  have hx := Bd.exec
  have hby := Bd.bytes
  have hml : c.maxLocals = 7 := hml0
  have hown : s.vm.findClass "com/example/jobwright/jobwright/policies/ProfileSteps" = some m.cls := findClass_of_methodNamed Bd.named
  have X0 : Stand p l e ({ frames := 0, cells := 0, slots := 0, locals := 0 } : Room) s m #[(.ref ob), (.int (3 : Int32)), (.int (4 : Int32)), (.int vb), (.long vkb)] below meth c s₁ [] 0 0 := Stand.of_body Bd
  have e0 : s₁.heap = h0 := by rw [← hh, Bd.state]; rfl
  have N0 := Fr.nil n0
  have ef : entryFrame m #[(.ref ob), (.int (3 : Int32)), (.int (4 : Int32)), (.int vb), (.long vkb)] 7 = mkF m 0 #[.val (.ref ob), .val (.int (3 : Int32)), .val (.int (4 : Int32)), .val (.int vb), .val (.long vkb), .second, .unset] [] := by first | (simp [entryFrame, mkF, argsToLocals, Value.category]; done) | rfl
  obtain ⟨T1, X1, e1, st1⟩ := own_gf X0 hx hZ hown e0 P 12 (own_w hw 94) (v := (.ref (A 12))) (P.2.2.2.1 12 (by omega)) (hb hby d29_10) #[.val (.ref ob), .val (.int (3 : Int32)), .val (.int (4 : Int32)), .val (.int vb), .val (.long vkb), .second, .val (.int (3 : Int32))] []
  obtain ⟨T2, h2, l2, X2, e2, N2, P2, st2⟩ := own_ist X1 hx hZ e1 N0 P 12 3 (j := (3 : Int32)) (x := (va + vb)) (hb hby d29_19) #[.val (.ref ob), .val (.int (3 : Int32)), .val (.int (4 : Int32)), .val (.int vb), .val (.long vkb), .second, .val (.int (3 : Int32))] [] (by omega)
  obtain ⟨T3, X3, e3, st3⟩ := own_gf X2 hx hZ hown e2 P2 13 (own_w hw 96) (v := (.ref (A 13))) (P2.2.2.2.1 13 (by omega)) (hb hby d29_27) #[.val (.ref ob), .val (.int (3 : Int32)), .val (.int (4 : Int32)), .val (.int vb), .val (.long vkb), .second, .val (.int (4 : Int32))] []
  obtain ⟨T4, X4, e4, st4⟩ := own_gf X3 hx hZ hown e3 P2 13 (own_w hw 96) (v := (.ref (A 13))) (P2.2.2.2.1 13 (by omega)) (hb hby d29_43) #[.val (.ref ob), .val (.int (3 : Int32)), .val (.int (4 : Int32)), .val (.int vb), .val (.long vkb), .second, .val (.int (3 : Int32))] []
  obtain ⟨T5, h5, l5, X5, e5, N5, P5, st5⟩ := own_lst X4 hx hZ e4 N2 P2 13 3 (j := (3 : Int32)) (x := (vk + vkb)) (hb hby d29_53) #[.val (.ref ob), .val (.int (3 : Int32)), .val (.int (4 : Int32)), .val (.int vb), .val (.long vkb), .second, .val (.int (3 : Int32))] [] (by omega)
  obtain ⟨fs, hr, hrun, hended, hW, hsame⟩ := X5.leave (v := none) (fun _ => rfl)
  refine ⟨_, _, castTop ef ?_, hrun, hended, _, _, rfl, ?_, ⟨_, rfl⟩, hW, hsame.mono (by decide) (by decide)⟩
  · refine s_iloadN X0 hx (hb hby d29_0) rfl ?_
    refine s_istore X0 hx #[.val (.ref ob), .val (.int (3 : Int32)), .val (.int (4 : Int32)), .val (.int vb), .val (.long vkb), .second, .val (.int (3 : Int32))] (hb hby d29_1) rfl ?_
    refine s_iload X0 hx (hb hby d29_3) rfl ?_
    refine s_iloadN X0 hx (hb hby d29_5) rfl ?_
    refine s_icmpN X0 hx (hb hby d29_6) (by decide) ?_
    refine s_aloadN X0 hx (hb hby d29_9) rfl rfl ?_
    refine st1 _ ?_
    refine s_iload X1 hx (hb hby d29_13) rfl ?_
    refine s_dup2 X1 hx (hb hby d29_15) rfl rfl ?_
    refine own_ial X1 hx hZ e1 P 12 3 (v := (.int va)) hV12_3 (hb hby d29_16) (by omega) ?_
    refine s_iloadN X1 hx (hb hby d29_17) rfl ?_
    refine s_iadd X1 hx (va + vb) (hb hby d29_18) rfl ?_
    refine st2 _ ?_
    refine s_iinc X2 hx (4 : Int32) #[.val (.ref ob), .val (.int (3 : Int32)), .val (.int (4 : Int32)), .val (.int vb), .val (.long vkb), .second, .val (.int (4 : Int32))] (hb hby d29_20) rfl (by decide) rfl ?_
    refine s_goto X2 hx 3 (hb hby d29_23) (by decide) (by decide) ?_
    refine s_iload X2 hx (hb hby d29_3) rfl ?_
    refine s_iloadN X2 hx (hb hby d29_5) rfl ?_
    refine s_icmpY X2 hx 26 (hb hby d29_6) (by decide) (by decide) (by decide) ?_
    refine s_aloadN X2 hx (hb hby d29_26) rfl rfl ?_
    refine st3 _ ?_
    refine s_nullN X3 hx (hb hby d29_30) ?_
    refine s_iloadN X3 hx (hb hby d29_33) rfl ?_
    refine s_istore X3 hx #[.val (.ref ob), .val (.int (3 : Int32)), .val (.int (4 : Int32)), .val (.int vb), .val (.long vkb), .second, .val (.int (3 : Int32))] (hb hby d29_34) rfl ?_
    refine s_iload X3 hx (hb hby d29_36) rfl ?_
    refine s_iloadN X3 hx (hb hby d29_38) rfl ?_
    refine s_icmpN X3 hx (hb hby d29_39) (by decide) ?_
    refine s_aloadN X3 hx (hb hby d29_42) rfl rfl ?_
    refine st4 _ ?_
    refine s_iload X4 hx (hb hby d29_46) rfl ?_
    refine s_dup2 X4 hx (hb hby d29_48) rfl rfl ?_
    refine own_lal X4 hx hZ e4 P2 13 3 (v := (.long vk)) (own_vn hV13_3) (hb hby d29_49) (by omega) ?_
    refine s_lload X4 hx (hb hby d29_50) rfl ?_
    refine s_ladd X4 hx (vk + vkb) (hb hby d29_52) rfl ?_
    refine st5 _ ?_
    refine s_iinc X5 hx (4 : Int32) #[.val (.ref ob), .val (.int (3 : Int32)), .val (.int (4 : Int32)), .val (.int vb), .val (.long vkb), .second, .val (.int (4 : Int32))] (hb hby d29_54) rfl (by decide) rfl ?_
    refine s_goto X5 hx 36 (hb hby d29_57) (by decide) (by decide) ?_
    refine s_iload X5 hx (hb hby d29_36) rfl ?_
    refine s_iloadN X5 hx (hb hby d29_38) rfl ?_
    refine s_icmpY X5 hx 60 (hb hby d29_39) (by decide) (by decide) (by decide) ?_
    exact X5.returnOut hx Bd.returns (hb hby d29_60) hr
  · show ((_ : Option Value) = none ∧ Fr n0 _ ∧ own_PS Z T5.heap n0 ob nA A F (own_vs (own_vs V 12 3 (.int (va + vb))) 13 3 (.long (vk + vkb))))
    rw [e5]
    exact ⟨rfl, N5, P5⟩
set_option maxRecDepth 65536 in
set_option maxHeartbeats 40000000 in
theorem rm31_1 (l : Launch) (Z : State) (a0 : Array Value) (hw : own_HW Z a0) (ws : List Jvm.Cond) {nA : Nat} {A : Nat → Addr} {F : Nat → Value} {V : Nat → List Value} (ob : Addr)  (h0 : Heap) (n0 : Nat) (P : own_PS Z h0 n0 ob nA A F V) (hA : 13 ≤ nA) (hB : nA ≤ 14) (hF14 : F 14 = (.int (1 : Int32))) :
    own_C l Z own_y35 bc31 1 (some .int) ws 0 0 #[(.ref ob)] h0 (fun v h L => (v = some (.int (1 : Int32)) ∧ Fr n0 L ∧ h = h0)) := by
  refine MetFree.of_bodySF (plainFor_of_name own_pn1) hisR ?_
  intro p e s m args below meth c s₁ Bd hml0 hP hK
  obtain ⟨rfl, hZ, hh⟩ := hP
  have hx := Bd.exec
  have hby := Bd.bytes
  have hml : c.maxLocals = 1 := hml0
  have hown : s.vm.findClass "com/example/jobwright/jobwright/policies/Treap" = some m.cls := findClass_of_methodNamed Bd.named
  have X0 : Stand p l e ({ frames := 0, cells := 0, slots := 0, locals := 0 } : Room) s m #[(.ref ob)] below meth c s₁ [] 0 0 := Stand.of_body Bd
  have e0 : s₁.heap = h0 := by rw [← hh, Bd.state]; rfl
  have N0 := Fr.nil n0
  have ef : entryFrame m #[(.ref ob)] 1 = mkF m 0 #[.val (.ref ob)] [] := by first | (simp [entryFrame, mkF, argsToLocals, Value.category]; done) | rfl
  obtain ⟨T1, X1, e1, st1⟩ := own_gf X0 hx hZ hown e0 P 14 (own_w hw 14) (v := (.int (1 : Int32))) hF14 (hb hby d31_1) #[.val (.ref ob)] []
  obtain ⟨fs, hr, hrun, hended, hW, hsame⟩ := X1.leave (v := some (.int (1 : Int32))) (fun h => by rw [Bd.returns] at h; cases h)
  refine ⟨_, _, castTop ef ?_, hrun, hended, _, _, rfl, ?_, ⟨_, rfl⟩, hW, hsame.mono (by decide) (by decide)⟩
  · refine s_aloadN X0 hx (hb hby d31_0) rfl rfl ?_
    refine st1 _ ?_
    exact retI X1 hx Bd.returns (hb hby d31_4) hr
  · show ((_ : Option Value) = some (.int (1 : Int32)) ∧ Fr n0 _ ∧ T1.heap = h0)
    rw [e1]
    exact ⟨rfl, N0, rfl⟩
set_option maxRecDepth 65536 in
set_option maxHeartbeats 40000000 in
theorem rm30_1 (l : Launch) (Z : State) (a0 : Array Value) (hw : own_HW Z a0) (ws : List Jvm.Cond) {nA : Nat} {A : Nat → Addr} {F : Nat → Value} {V : Nat → List Value} (ob : Addr) (va : Int32) (vk : Int64) (vb : Int32) (vkb : Int64) (h0 : Heap) (n0 : Nat) (P : own_PS Z h0 n0 ob nA A F V) (hA : 13 ≤ nA) (hB : nA ≤ 14) (hF24 : F 24 = (.int (2 : Int32))) (hF19 : F 19 = (.int (1 : Int32))) (hF22 : F 22 = (.long (0 : Int64))) (hF14 : F 14 = (.int (1 : Int32))) (hV11_2 : (V 11).getD 2 (own_aZ 11) = (.long (0 : Int64))) (hV5_1 : (V 5).getD 1 (own_aZ 5) = (.int (((0 : Int32) + va) + (0 : Int32)))) (hV6_1 : (V 6).getD 1 (own_aZ 6) = (.long (((0 : Int64) + vk) + (0 : Int64)))) :
    own_C l Z own_y37 bc30 8 none ws 1 13 #[(.ref ob), (.int (1 : Int32)), (.int vb), (.long vkb)] h0 (fun v h L => (v = none ∧ Fr n0 L ∧ own_PS Z h n0 ob nA A F (own_vs (own_vs V 5 1 (.int ((((0 : Int32) + va) + (0 : Int32)) + vb))) 6 1 (.long ((((0 : Int64) + vk) + (0 : Int64)) + vkb))))) := by
  refine MetFree.of_bodySF (plainFor_of_name own_pn2) hisR ?_
  intro p e s m args below meth c s₁ Bd hml0 hP hK
  obtain ⟨rfl, hZ, hh⟩ := hP
  have hx := Bd.exec
  have hby := Bd.bytes
  have hml : c.maxLocals = 8 := hml0
  have hown : s.vm.findClass "com/example/jobwright/jobwright/policies/ProfileSteps" = some m.cls := findClass_of_methodNamed Bd.named
  have X0 : Stand p l e ({ frames := 1, cells := 0, slots := 0, locals := 13 } : Room) s m #[(.ref ob), (.int (1 : Int32)), (.int vb), (.long vkb)] below meth c s₁ [] 0 0 := Stand.of_body Bd
  have e0 : s₁.heap = h0 := by rw [← hh, Bd.state]; rfl
  have N0 := Fr.nil n0
  have ef : entryFrame m #[(.ref ob), (.int (1 : Int32)), (.int vb), (.long vkb)] 8 = mkF m 0 #[.val (.ref ob), .val (.int (1 : Int32)), .val (.int vb), .val (.long vkb), .second, .unset, .unset, .unset] [] := by first | (simp [entryFrame, mkF, argsToLocals, Value.category]; done) | rfl
  obtain ⟨T1, X1, e1, st1⟩ := own_gf X0 hx hZ hown e0 P 24 (own_w hw 142) (v := (.int (2 : Int32))) hF24 (hb hby d30_2) #[.val (.ref ob), .val (.int (1 : Int32)), .val (.int vb), .val (.long vkb), .second, .unset, .unset, .unset] [(.int (1 : Int32))]
  obtain ⟨T2, X2, e2, st2⟩ := own_gf X1 hx hZ hown e1 P 19 (own_w hw 54) (v := (.int (1 : Int32))) hF19 (hb hby d30_12) #[.val (.ref ob), .val (.int (1 : Int32)), .val (.int vb), .val (.long vkb), .second, .unset, .unset, .unset] [(.int (1 : Int32)), (.ref ob)]
  obtain ⟨cq3, kq3, q3a, q3b, q3c⟩ := isOf hZ e2 P.1
  obtain ⟨_, _, ⟨T3, L3, k3, n3⟩, -, X3, ⟨Lc3, hQ3, l3, y3, z3⟩, st3⟩ := X2.virtualBack hx (y := own_y29) (z := own_y29) hown (mvT hZ (own_w hw 218)) (mvT hZ (own_w hw 219)) (own_nf (args := #[]) (z := own_y17) (mvT hZ (own_w hw 103)) rfl) (mvT hZ (own_w hw 221)) (mvT hZ (own_w hw 220)) (by decide) (backOf (W := 0) (rm25_2 l Z a0 hw [] ob  h0 n0 P hA hB hF22 hV11_2 ) hZ (own_w hw 222) (own_w hw 2) (by decide) (by decide)) q3a q3c (g := (mkF m 16 #[.val (.ref ob), .val (.int (1 : Int32)), .val (.int vb), .val (.long vkb), .second, .unset, .unset, .unset] [(.int (2 : Int32)), (.ref ob)])) rfl (by rw [hml]; rfl) (Steps.refl _) (argsL := [(.int (2 : Int32))]) (rest := []) (lenOf own_pd6 rfl) rfl (by show 2 * 0 + _ ≤ _; exact Nat.le_of_eq rfl) (hb hby d30_16) (fun _ _ => ⟨rfl, e2, (by decide : 0 + 0 ≤ _), (by decide : 0 + 0 ≤ _)⟩)
  dsimp only [Pt.U, Pt.locs, Pt.cells, Pt.slots] at X3 l3 y3 z3 st3 hQ3
  subst l3 y3 z3
  obtain ⟨rfl, Nq3, eh3⟩ := hQ3
  have N3 := Fr.app N0 Nq3
  obtain ⟨cq4, kq4, q4a, q4b, q4c⟩ := isOf hZ eh3 P.1
  obtain ⟨_, _, ⟨T4, L4, k4, n4⟩, -, X4, ⟨Lc4, hQ4, l4, y4, z4⟩, st4⟩ := X3.virtualBackUp hx (x := own_y36) (y := own_y35) (owner := "com/example/jobwright/jobwright/policies/Treap") hown (mvT hZ (own_w hw 246)) (mvT hZ (own_w hw 247)) (mvT hZ (own_w hw 248)) (by decide) (mvT hZ (own_w hw 250)) (mvT hZ (own_w hw 249)) (backOf (W := 0) (rm31_1 l Z a0 hw [] ob  h0 n0 P hA hB hF14  ) hZ (own_w hw 251) (own_w hw 9) (by decide) (by decide)) q4a q4c (g := (mkF m 22 #[.val (.ref ob), .val (.int (1 : Int32)), .val (.int vb), .val (.long vkb), .second, .val (.long (0 : Int64)), .second, .unset] [(.ref ob)])) rfl (by rw [hml]; rfl) (Steps.refl _) (argsL := []) (rest := []) (lenOf own_pd4 rfl) rfl (by show 2 * 0 + _ ≤ _; exact Nat.le_of_eq rfl) (hb hby d30_22) (fun _ _ => ⟨rfl, eh3, (by decide : 0 + 0 ≤ _), (by decide : 0 + 0 ≤ _)⟩)
  dsimp only [Pt.U, Pt.locs, Pt.cells, Pt.slots] at X4 l4 y4 z4 st4 hQ4
  subst l4 y4 z4
  obtain ⟨rfl, Nq4, eh4⟩ := hQ4
  have N4 := Fr.app N3 Nq4
  obtain ⟨T5, X5, e5, st5⟩ := own_gf X4 hx hZ hown eh4 P 5 (own_w hw 66) (v := (.ref (A 5))) (P.2.2.2.1 5 (by omega)) (hb hby d30_93) #[.val (.ref ob), .val (.int (1 : Int32)), .val (.int vb), .val (.long vkb), .second, .val (.long (0 : Int64)), .second, .val (.int (1 : Int32))] []
  obtain ⟨T6, h6, l6, X6, e6, N6, P6, st6⟩ := own_ist X5 hx hZ e5 N4 P 5 1 (j := (1 : Int32)) (x := ((((0 : Int32) + va) + (0 : Int32)) + vb)) (hb hby d30_101) #[.val (.ref ob), .val (.int (1 : Int32)), .val (.int vb), .val (.long vkb), .second, .val (.long (0 : Int64)), .second, .val (.int (1 : Int32))] [] (by omega)
  obtain ⟨T7, X7, e7, st7⟩ := own_gf X6 hx hZ hown e6 P6 6 (own_w hw 68) (v := (.ref (A 6))) (P6.2.2.2.1 6 (by omega)) (hb hby d30_103) #[.val (.ref ob), .val (.int (1 : Int32)), .val (.int vb), .val (.long vkb), .second, .val (.long (0 : Int64)), .second, .val (.int (1 : Int32))] []
  obtain ⟨T8, h8, l8, X8, e8, N8, P8, st8⟩ := own_lst X7 hx hZ e7 N6 P6 6 1 (j := (1 : Int32)) (x := ((((0 : Int64) + vk) + (0 : Int64)) + vkb)) (hb hby d30_111) #[.val (.ref ob), .val (.int (1 : Int32)), .val (.int vb), .val (.long vkb), .second, .val (.long (0 : Int64)), .second, .val (.int (1 : Int32))] [] (by omega)
  obtain ⟨fs, hr, hrun, hended, hW, hsame⟩ := X8.leave (v := none) (fun _ => rfl)
  refine ⟨_, _, castTop ef ?_, hrun, hended, _, _, rfl, ?_, ⟨_, rfl⟩, hW, hsame.mono (by decide) (by decide)⟩
  · refine s_iloadN X0 hx (hb hby d30_0) rfl ?_
    refine s_aloadN X0 hx (hb hby d30_1) rfl rfl ?_
    refine st1 _ ?_
    refine s_icmpY X1 hx 9 (hb hby d30_5) (by decide) (by decide) (by decide) ?_
    refine s_aloadN X1 hx (hb hby d30_9) rfl rfl ?_
    refine s_iloadN X1 hx (hb hby d30_10) rfl ?_
    refine s_aloadN X1 hx (hb hby d30_11) rfl rfl ?_
    refine st2 _ ?_
    refine s_ishl X2 hx (2 : Int32) (hb hby d30_15) (by decide) ?_
    refine st3.trans ?_
    refine s_lstore X3 hx #[.val (.ref ob), .val (.int (1 : Int32)), .val (.int vb), .val (.long vkb), .second, .val (.long (0 : Int64)), .second, .unset] (hb hby d30_19) rfl ?_
    refine s_aloadN X3 hx (hb hby d30_21) rfl rfl ?_
    refine st4.trans ?_
    refine s_istore X4 hx #[.val (.ref ob), .val (.int (1 : Int32)), .val (.int vb), .val (.long vkb), .second, .val (.long (0 : Int64)), .second, .val (.int (1 : Int32))] (hb hby d30_25) rfl ?_
    refine s_iload X4 hx (hb hby d30_27) rfl ?_
    refine s_iloadN X4 hx (hb hby d30_29) rfl ?_
    refine s_icmpY X4 hx 92 (hb hby d30_30) (by decide) (by decide) (by decide) ?_
    refine s_aloadN X4 hx (hb hby d30_92) rfl rfl ?_
    refine st5 _ ?_
    refine s_iloadN X5 hx (hb hby d30_96) rfl ?_
    refine s_dup2 X5 hx (hb hby d30_97) rfl rfl ?_
    refine own_ial X5 hx hZ e5 P 5 1 (v := (.int (((0 : Int32) + va) + (0 : Int32)))) hV5_1 (hb hby d30_98) (by omega) ?_
    refine s_iloadN X5 hx (hb hby d30_99) rfl ?_
    refine s_iadd X5 hx ((((0 : Int32) + va) + (0 : Int32)) + vb) (hb hby d30_100) rfl ?_
    refine st6 _ ?_
    refine s_aloadN X6 hx (hb hby d30_102) rfl rfl ?_
    refine st7 _ ?_
    refine s_iloadN X7 hx (hb hby d30_106) rfl ?_
    refine s_dup2 X7 hx (hb hby d30_107) rfl rfl ?_
    refine own_lal X7 hx hZ e7 P6 6 1 (v := (.long (((0 : Int64) + vk) + (0 : Int64)))) (own_vn hV6_1) (hb hby d30_108) (by omega) ?_
    refine s_lloadN X7 hx (hb hby d30_109) rfl ?_
    refine s_ladd X7 hx ((((0 : Int64) + vk) + (0 : Int64)) + vkb) (hb hby d30_110) rfl ?_
    refine st8 _ ?_
    exact X8.returnOut hx Bd.returns (hb hby d30_112) hr
  · show ((_ : Option Value) = none ∧ Fr n0 _ ∧ own_PS Z T8.heap n0 ob nA A F (own_vs (own_vs V 5 1 (.int ((((0 : Int32) + va) + (0 : Int32)) + vb))) 6 1 (.long ((((0 : Int64) + vk) + (0 : Int64)) + vkb))))
    rw [e8]
    exact ⟨rfl, N8, P8⟩
set_option maxRecDepth 65536 in
set_option maxHeartbeats 40000000 in
theorem rm32_1 (l : Launch) (Z : State) (a0 : Array Value) (hw : own_HW Z a0) (ws : List Jvm.Cond) {nA : Nat} {A : Nat → Addr} {F : Nat → Value} {V : Nat → List Value} (ob : Addr) (vb : Int32) (vkb : Int64) (h0 : Heap) (n0 : Nat) (P : own_PS Z h0 n0 ob nA A F V) (hA : 13 ≤ nA) (hB : nA ≤ 14) (hF21 : F 21 = (.int (0 : Int32))) :
    own_C l Z own_y38 bc32 5 none ws 0 0 #[(.ref ob), (.int (1 : Int32)), (.int vb), (.long vkb)] h0 (fun v h L => (v = none ∧ Fr n0 L ∧ h = h0)) := by
  refine MetFree.of_bodySF (plainFor_of_name own_pn2) hisR ?_
  intro p e s m args below meth c s₁ Bd hml0 hP hK
  obtain ⟨rfl, hZ, hh⟩ := hP
  have hx := Bd.exec
  have hby := Bd.bytes
  have hml : c.maxLocals = 5 := hml0
  have hown : s.vm.findClass "com/example/jobwright/jobwright/policies/ProfileSteps" = some m.cls := findClass_of_methodNamed Bd.named
  have X0 : Stand p l e ({ frames := 0, cells := 0, slots := 0, locals := 0 } : Room) s m #[(.ref ob), (.int (1 : Int32)), (.int vb), (.long vkb)] below meth c s₁ [] 0 0 := Stand.of_body Bd
  have e0 : s₁.heap = h0 := by rw [← hh, Bd.state]; rfl
  have N0 := Fr.nil n0
  have ef : entryFrame m #[(.ref ob), (.int (1 : Int32)), (.int vb), (.long vkb)] 5 = mkF m 0 #[.val (.ref ob), .val (.int (1 : Int32)), .val (.int vb), .val (.long vkb), .second] [] := by first | (simp [entryFrame, mkF, argsToLocals, Value.category]; done) | rfl
  obtain ⟨T1, X1, e1, st1⟩ := own_gf X0 hx hZ hown e0 P 21 (own_w hw 26) (v := (.int (0 : Int32))) hF21 (hb hby d32_1) #[.val (.ref ob), .val (.int (1 : Int32)), .val (.int vb), .val (.long vkb), .second] []
  obtain ⟨fs, hr, hrun, hended, hW, hsame⟩ := X1.leave (v := none) (fun _ => rfl)
  refine ⟨_, _, castTop ef ?_, hrun, hended, _, _, rfl, ?_, ⟨_, rfl⟩, hW, hsame.mono (by decide) (by decide)⟩
  · refine s_aloadN X0 hx (hb hby d32_0) rfl rfl ?_
    refine st1 _ ?_
    refine s_ifY X1 hx 54 (hb hby d32_4) (by decide) (by decide) (by decide) ?_
    exact X1.returnOut hx Bd.returns (hb hby d32_54) hr
  · show ((_ : Option Value) = none ∧ Fr n0 _ ∧ T1.heap = h0)
    rw [e1]
    exact ⟨rfl, N0, rfl⟩
set_option maxRecDepth 65536 in
set_option maxHeartbeats 40000000 in
theorem rm28_1 (l : Launch) (Z : State) (a0 : Array Value) (hw : own_HW Z a0) (ws : List Jvm.Cond) {nA : Nat} {A : Nat → Addr} {F : Nat → Value} {V : Nat → List Value} (ob : Addr) (va : Int32) (vk : Int64) (vb : Int32) (vkb : Int64) (h0 : Heap) (n0 : Nat) (P : own_PS Z h0 n0 ob nA A F V) (hA : 13 ≤ nA) (hB : nA ≤ 14) (hM : nA = 14) (hF19 : F 19 = (.int (1 : Int32))) (hF24 : F 24 = (.int (2 : Int32))) (hF22 : F 22 = (.long (0 : Int64))) (hF14 : F 14 = (.int (1 : Int32))) (hF21 : F 21 = (.int (0 : Int32))) (hV1_1 : (V 1).getD 1 (own_aZ 1) = (.int (2 : Int32))) (hV12_3 : (V 12).getD 3 (own_aZ 12) = (.int va)) (hV13_3 : (V 13).getD 3 (own_aZ 13) = (.long vk)) (hV7_1 : (V 7).getD 1 (own_aZ 7) = (.int (1 : Int32))) (hV9_1 : (V 9).getD 1 (own_aZ 9) = (.int (1 : Int32))) (hV11_2 : (V 11).getD 2 (own_aZ 11) = (.long (0 : Int64))) (hV5_1 : (V 5).getD 1 (own_aZ 5) = (.int (((0 : Int32) + va) + (0 : Int32)))) (hV6_1 : (V 6).getD 1 (own_aZ 6) = (.long (((0 : Int64) + vk) + (0 : Int64)))) :
    own_C l Z own_y39 bc28 8 none ws 2 32 #[(.ref ob), (.int (3 : Int32)), (.int (-1 : Int32)), (.int vb), (.long vkb)] h0 (fun v h L => (v = none ∧ Fr n0 L ∧ own_PS Z h n0 ob nA A F (own_vs (own_vs (own_vs (own_vs V 12 3 (.int (va + vb))) 13 3 (.long (vk + vkb))) 5 1 (.int ((((0 : Int32) + va) + (0 : Int32)) + vb))) 6 1 (.long ((((0 : Int64) + vk) + (0 : Int64)) + vkb))))) := by
  refine MetFree.of_bodySF (plainFor_of_name own_pn2) hisR ?_
  intro p e s m args below meth c s₁ Bd hml0 hP hK
  obtain ⟨rfl, hZ, hh⟩ := hP
  have hx := Bd.exec
  have hby := Bd.bytes
  have hml : c.maxLocals = 8 := hml0
  have hown : s.vm.findClass "com/example/jobwright/jobwright/policies/ProfileSteps" = some m.cls := findClass_of_methodNamed Bd.named
  have X0 : Stand p l e ({ frames := 2, cells := 0, slots := 0, locals := 32 } : Room) s m #[(.ref ob), (.int (3 : Int32)), (.int (-1 : Int32)), (.int vb), (.long vkb)] below meth c s₁ [] 0 0 := Stand.of_body Bd
  have e0 : s₁.heap = h0 := by rw [← hh, Bd.state]; rfl
  have N0 := Fr.nil n0
  have ef : entryFrame m #[(.ref ob), (.int (3 : Int32)), (.int (-1 : Int32)), (.int vb), (.long vkb)] 8 = mkF m 0 #[.val (.ref ob), .val (.int (3 : Int32)), .val (.int (-1 : Int32)), .val (.int vb), .val (.long vkb), .second, .unset, .unset] [] := by first | (simp [entryFrame, mkF, argsToLocals, Value.category]; done) | rfl
  obtain ⟨T1, X1, e1, st1⟩ := own_gf X0 hx hZ hown e0 P 19 (own_w hw 54) (v := (.int (1 : Int32))) hF19 (hb hby d28_2) #[.val (.ref ob), .val (.int (3 : Int32)), .val (.int (-1 : Int32)), .val (.int vb), .val (.long vkb), .second, .unset, .unset] [(.int (3 : Int32))]
  obtain ⟨T2, X2, e2, st2⟩ := own_gf X1 hx hZ hown e1 P 19 (own_w hw 54) (v := (.int (1 : Int32))) hF19 (hb hby d28_45) #[.val (.ref ob), .val (.int (3 : Int32)), .val (.int (-1 : Int32)), .val (.int vb), .val (.long vkb), .second, .val (.int (1 : Int32)), .unset] [(.int (1 : Int32)), (.int (3 : Int32)), (.ref ob)]
  obtain ⟨T3, X3, e3, st3⟩ := own_gf X2 hx hZ hown e2 P 1 (own_w hw 58) (v := (.ref (A 1))) (P.2.2.2.1 1 (by omega)) (hb hby d28_50) #[.val (.ref ob), .val (.int (3 : Int32)), .val (.int (-1 : Int32)), .val (.int vb), .val (.long vkb), .second, .val (.int (1 : Int32)), .unset] [(.int (2 : Int32)), (.int (3 : Int32)), (.ref ob)]
  obtain ⟨cq4, q4, q4'⟩ := P.1.cell
  obtain ⟨_, _, ⟨T4, L4, k4, n4⟩, -, X4, ⟨Lc4, hQ4, l4, y4, z4⟩, st4⟩ := X3.privateBack hx (y := own_y34) hown (mvT hZ (own_w hw 238)) (mvT hZ (own_w hw 239)) (own_psel (z := own_y17) (mvT hZ (own_w hw 103)) (mvP hZ (own_w hw 240)) (mvT hZ (own_w hw 239)) rfl (by decide)) (Cond.privateMethod_at (mvP hZ (own_w hw 240) (args := #[]))) (mvT hZ (own_w hw 241)) (by decide) (backOf (W := 0) (rm29_1 l Z a0 hw [] ob va vk vb vkb h0 n0 P hA hB hM  hV12_3 hV13_3 ) hZ (own_w hw 241) (own_w hw 2) (by decide) (by decide)) (g := (mkF m 60 #[.val (.ref ob), .val (.int (3 : Int32)), .val (.int (-1 : Int32)), .val (.int vb), .val (.long vkb), .second, .val (.int (1 : Int32)), .unset] [(.long vkb), (.int vb), (.int (4 : Int32)), (.int (3 : Int32)), (.ref ob)])) rfl (by rw [hml]; rfl) (Steps.refl _) (a := ob) (by rw [e3]; exact q4) q4' (argsL := [(.int (3 : Int32)), (.int (4 : Int32)), (.int vb), (.long vkb)]) (rest := []) (lenOf own_pd12 rfl) rfl (by show 2 * 0 + _ ≤ _; exact Nat.le_of_eq rfl) (hb hby d28_60) (fun _ _ => ⟨rfl, e3, (by decide : 0 + 0 ≤ _), (by decide : 0 + 0 ≤ _)⟩)
  dsimp only [Pt.U, Pt.locs, Pt.cells, Pt.slots] at X4 l4 y4 z4 st4 hQ4
  subst l4 y4 z4
  obtain ⟨rfl, Nq4, P4⟩ := hQ4
  have N4 := Fr.app N0 Nq4
  obtain ⟨cq5, q5, q5'⟩ := P4.1.cell
  obtain ⟨_, _, ⟨T5, L5, k5, n5⟩, -, X5, ⟨Lc5, hQ5, l5, y5, z5⟩, st5⟩ := X4.privateBack hx (y := own_y26) hown (mvT hZ (own_w hw 204)) (mvT hZ (own_w hw 205)) (own_psel (z := own_y17) (mvT hZ (own_w hw 103)) (mvP hZ (own_w hw 206)) (mvT hZ (own_w hw 205)) rfl (by decide)) (Cond.privateMethod_at (mvP hZ (own_w hw 206) (args := #[]))) (mvT hZ (own_w hw 207)) (by decide) (backOf (W := 0) (rm22_1 l Z a0 hw [] ob  T4.heap n0 P4 hA hB  (own_vn (own_vn hV7_1)) (own_vn (own_vn hV9_1)) ) hZ (own_w hw 207) (own_w hw 2) (by decide) (by decide)) (g := (mkF m 66 #[.val (.ref ob), .val (.int (3 : Int32)), .val (.int (-1 : Int32)), .val (.int vb), .val (.long vkb), .second, .val (.int (1 : Int32)), .unset] [(.int (1 : Int32)), (.ref ob)])) rfl (by rw [hml]; rfl) (Steps.refl _) (a := ob) q5 q5' (argsL := [(.int (1 : Int32))]) (rest := []) (lenOf own_pd0 rfl) rfl (by show 2 * 0 + _ ≤ _; exact Nat.le_of_eq rfl) (hb hby d28_66) (fun _ _ => ⟨rfl, rfl, (by decide : 0 + 0 ≤ _), (by decide : 0 + 0 ≤ _)⟩)
  dsimp only [Pt.U, Pt.locs, Pt.cells, Pt.slots] at X5 l5 y5 z5 st5 hQ5
  subst l5 y5 z5
  obtain ⟨rfl, Nq5, eh5⟩ := hQ5
  have N5 := Fr.app N4 Nq5
  obtain ⟨cq6, q6, q6'⟩ := P4.1.cell
  obtain ⟨_, _, ⟨T6, L6, k6, n6⟩, -, X6, ⟨Lc6, hQ6, l6, y6, z6⟩, st6⟩ := X5.privateBack hx (y := own_y37) hown (mvT hZ (own_w hw 242)) (mvT hZ (own_w hw 243)) (own_psel (z := own_y17) (mvT hZ (own_w hw 103)) (mvP hZ (own_w hw 244)) (mvT hZ (own_w hw 243)) rfl (by decide)) (Cond.privateMethod_at (mvP hZ (own_w hw 244) (args := #[]))) (mvT hZ (own_w hw 245)) (by decide) (backOf (W := 0) (rm30_1 l Z a0 hw [] ob va vk vb vkb T4.heap n0 P4 hA hB hF24 hF19 hF22 hF14 (own_vn (own_vn hV11_2)) (own_vn (own_vn hV5_1)) (own_vn (own_vn hV6_1)) ) hZ (own_w hw 245) (own_w hw 2) (by decide) (by decide)) (g := (mkF m 75 #[.val (.ref ob), .val (.int (3 : Int32)), .val (.int (-1 : Int32)), .val (.int vb), .val (.long vkb), .second, .val (.int (1 : Int32)), .unset] [(.long vkb), (.int vb), (.int (1 : Int32)), (.ref ob)])) rfl (by rw [hml]; rfl) (Steps.refl _) (a := ob) (by rw [eh5]; exact q6) q6' (argsL := [(.int (1 : Int32)), (.int vb), (.long vkb)]) (rest := []) (lenOf own_pd13 rfl) rfl (by show 2 * 0 + _ ≤ _; exact Nat.le_of_eq rfl) (hb hby d28_75) (fun _ _ => ⟨rfl, eh5, (by decide : 0 + 0 ≤ _), (by decide : 0 + 0 ≤ _)⟩)
  dsimp only [Pt.U, Pt.locs, Pt.cells, Pt.slots] at X6 l6 y6 z6 st6 hQ6
  subst l6 y6 z6
  obtain ⟨rfl, Nq6, P6⟩ := hQ6
  have N6 := Fr.app N5 Nq6
  obtain ⟨cq7, q7, q7'⟩ := P6.1.cell
  obtain ⟨_, _, ⟨T7, L7, k7, n7⟩, -, X7, ⟨Lc7, hQ7, l7, y7, z7⟩, st7⟩ := X6.privateBack hx (y := own_y38) hown (mvT hZ (own_w hw 252)) (mvT hZ (own_w hw 253)) (own_psel (z := own_y17) (mvT hZ (own_w hw 103)) (mvP hZ (own_w hw 254)) (mvT hZ (own_w hw 253)) rfl (by decide)) (Cond.privateMethod_at (mvP hZ (own_w hw 254) (args := #[]))) (mvT hZ (own_w hw 255)) (by decide) (backOf (W := 0) (rm32_1 l Z a0 hw [] ob vb vkb T6.heap n0 P6 hA hB hF21  ) hZ (own_w hw 255) (own_w hw 2) (by decide) (by decide)) (g := (mkF m 84 #[.val (.ref ob), .val (.int (3 : Int32)), .val (.int (-1 : Int32)), .val (.int vb), .val (.long vkb), .second, .val (.int (1 : Int32)), .unset] [(.long vkb), (.int vb), (.int (1 : Int32)), (.ref ob)])) rfl (by rw [hml]; rfl) (Steps.refl _) (a := ob) q7 q7' (argsL := [(.int (1 : Int32)), (.int vb), (.long vkb)]) (rest := []) (lenOf own_pd13 rfl) rfl (by show 2 * 0 + _ ≤ _; exact Nat.le_of_eq rfl) (hb hby d28_84) (fun _ _ => ⟨rfl, rfl, (by decide : 0 + 0 ≤ _), (by decide : 0 + 0 ≤ _)⟩)
  dsimp only [Pt.U, Pt.locs, Pt.cells, Pt.slots] at X7 l7 y7 z7 st7 hQ7
  subst l7 y7 z7
  obtain ⟨rfl, Nq7, eh7⟩ := hQ7
  have N7 := Fr.app N6 Nq7
  obtain ⟨fs, hr, hrun, hended, hW, hsame⟩ := X7.leave (v := none) (fun _ => rfl)
  refine ⟨_, _, castTop ef ?_, hrun, hended, _, _, rfl, ?_, ⟨_, rfl⟩, hW, hsame.mono (by decide) (by decide)⟩
  · refine s_iloadN X0 hx (hb hby d28_0) rfl ?_
    refine s_aloadN X0 hx (hb hby d28_1) rfl rfl ?_
    refine st1 _ ?_
    refine s_ishr X1 hx (1 : Int32) (hb hby d28_5) (by decide) ?_
    refine s_istore X1 hx #[.val (.ref ob), .val (.int (3 : Int32)), .val (.int (-1 : Int32)), .val (.int vb), .val (.long vkb), .second, .val (.int (1 : Int32)), .unset] (hb hby d28_6) rfl ?_
    refine s_iloadN X1 hx (hb hby d28_8) rfl ?_
    refine s_iconst X1 hx (-1 : Int32) (hb hby d28_9) rfl ?_
    refine s_icmpY X1 hx 40 (hb hby d28_10) (by decide) (by decide) (by decide) ?_
    refine s_aloadN X1 hx (hb hby d28_40) rfl rfl ?_
    refine s_iloadN X1 hx (hb hby d28_41) rfl ?_
    refine s_iload X1 hx (hb hby d28_42) rfl ?_
    refine s_aloadN X1 hx (hb hby d28_44) rfl rfl ?_
    refine st2 _ ?_
    refine s_ishl X2 hx (2 : Int32) (hb hby d28_48) (by decide) ?_
    refine s_aloadN X2 hx (hb hby d28_49) rfl rfl ?_
    refine st3 _ ?_
    refine s_iload X3 hx (hb hby d28_53) rfl ?_
    refine own_ial X3 hx hZ e3 P 1 1 (v := (.int (2 : Int32))) hV1_1 (hb hby d28_55) (by omega) ?_
    refine s_iadd X3 hx (4 : Int32) (hb hby d28_56) (by decide) ?_
    refine s_iloadN X3 hx (hb hby d28_57) rfl ?_
    refine s_lload X3 hx (hb hby d28_58) rfl ?_
    refine st4.trans ?_
    refine s_aloadN X4 hx (hb hby d28_63) rfl rfl ?_
    refine s_iload X4 hx (hb hby d28_64) rfl ?_
    refine st5.trans ?_
    refine s_aloadN X5 hx (hb hby d28_69) rfl rfl ?_
    refine s_iload X5 hx (hb hby d28_70) rfl ?_
    refine s_iloadN X5 hx (hb hby d28_72) rfl ?_
    refine s_lload X5 hx (hb hby d28_73) rfl ?_
    refine st6.trans ?_
    refine s_aloadN X6 hx (hb hby d28_78) rfl rfl ?_
    refine s_iload X6 hx (hb hby d28_79) rfl ?_
    refine s_iloadN X6 hx (hb hby d28_81) rfl ?_
    refine s_lload X6 hx (hb hby d28_82) rfl ?_
    refine st7.trans ?_
    refine s_iloadN X7 hx (hb hby d28_87) rfl ?_
    refine s_iconst X7 hx (-1 : Int32) (hb hby d28_88) rfl ?_
    refine s_icmpY X7 hx 153 (hb hby d28_89) (by decide) (by decide) (by decide) ?_
    exact X7.returnOut hx Bd.returns (hb hby d28_153) hr
  · show ((_ : Option Value) = none ∧ Fr n0 _ ∧ own_PS Z T7.heap n0 ob nA A F (own_vs (own_vs (own_vs (own_vs V 12 3 (.int (va + vb))) 13 3 (.long (vk + vkb))) 5 1 (.int ((((0 : Int32) + va) + (0 : Int32)) + vb))) 6 1 (.long ((((0 : Int64) + vk) + (0 : Int64)) + vkb))))
    rw [eh7]
    exact ⟨rfl, N7, P6⟩
set_option maxRecDepth 65536 in
set_option maxHeartbeats 40000000 in
theorem rm29_2 (l : Launch) (Z : State) (a0 : Array Value) (hw : own_HW Z a0) (ws : List Jvm.Cond) {nA : Nat} {A : Nat → Addr} {F : Nat → Value} {V : Nat → List Value} (ob : Addr) (vc : Int32) (vkc : Int64) (h0 : Heap) (n0 : Nat) (P : own_PS Z h0 n0 ob nA A F V) (hA : 13 ≤ nA) (hB : nA ≤ 14) (hM : nA = 14) (hV12_4 : (V 12).getD 4 (own_aZ 12) = (.int (0 : Int32))) (hV13_4 : (V 13).getD 4 (own_aZ 13) = (.long (0 : Int64))) :
    own_C l Z own_y34 bc29 7 none ws 0 0 #[(.ref ob), (.int (4 : Int32)), (.int (5 : Int32)), (.int vc), (.long vkc)] h0 (fun v h L => (v = none ∧ Fr n0 L ∧ own_PS Z h n0 ob nA A F (own_vs (own_vs V 12 4 (.int ((0 : Int32) + vc))) 13 4 (.long ((0 : Int64) + vkc))))) := by
  refine MetFree.of_bodySF (plainFor_of_name own_pn2) hisR ?_
  intro p e s m args below meth c s₁ Bd hml0 hP hK
  obtain ⟨rfl, hZ, hh⟩ := hP
  have hx := Bd.exec
  have hby := Bd.bytes
  have hml : c.maxLocals = 7 := hml0
  have hown : s.vm.findClass "com/example/jobwright/jobwright/policies/ProfileSteps" = some m.cls := findClass_of_methodNamed Bd.named
  have X0 : Stand p l e ({ frames := 0, cells := 0, slots := 0, locals := 0 } : Room) s m #[(.ref ob), (.int (4 : Int32)), (.int (5 : Int32)), (.int vc), (.long vkc)] below meth c s₁ [] 0 0 := Stand.of_body Bd
  have e0 : s₁.heap = h0 := by rw [← hh, Bd.state]; rfl
  have N0 := Fr.nil n0
  have ef : entryFrame m #[(.ref ob), (.int (4 : Int32)), (.int (5 : Int32)), (.int vc), (.long vkc)] 7 = mkF m 0 #[.val (.ref ob), .val (.int (4 : Int32)), .val (.int (5 : Int32)), .val (.int vc), .val (.long vkc), .second, .unset] [] := by first | (simp [entryFrame, mkF, argsToLocals, Value.category]; done) | rfl
  obtain ⟨T1, X1, e1, st1⟩ := own_gf X0 hx hZ hown e0 P 12 (own_w hw 94) (v := (.ref (A 12))) (P.2.2.2.1 12 (by omega)) (hb hby d29_10) #[.val (.ref ob), .val (.int (4 : Int32)), .val (.int (5 : Int32)), .val (.int vc), .val (.long vkc), .second, .val (.int (4 : Int32))] []
  obtain ⟨T2, h2, l2, X2, e2, N2, P2, st2⟩ := own_ist X1 hx hZ e1 N0 P 12 4 (j := (4 : Int32)) (x := ((0 : Int32) + vc)) (hb hby d29_19) #[.val (.ref ob), .val (.int (4 : Int32)), .val (.int (5 : Int32)), .val (.int vc), .val (.long vkc), .second, .val (.int (4 : Int32))] [] (by omega)
  obtain ⟨T3, X3, e3, st3⟩ := own_gf X2 hx hZ hown e2 P2 13 (own_w hw 96) (v := (.ref (A 13))) (P2.2.2.2.1 13 (by omega)) (hb hby d29_27) #[.val (.ref ob), .val (.int (4 : Int32)), .val (.int (5 : Int32)), .val (.int vc), .val (.long vkc), .second, .val (.int (5 : Int32))] []
  obtain ⟨T4, X4, e4, st4⟩ := own_gf X3 hx hZ hown e3 P2 13 (own_w hw 96) (v := (.ref (A 13))) (P2.2.2.2.1 13 (by omega)) (hb hby d29_43) #[.val (.ref ob), .val (.int (4 : Int32)), .val (.int (5 : Int32)), .val (.int vc), .val (.long vkc), .second, .val (.int (4 : Int32))] []
  obtain ⟨T5, h5, l5, X5, e5, N5, P5, st5⟩ := own_lst X4 hx hZ e4 N2 P2 13 4 (j := (4 : Int32)) (x := ((0 : Int64) + vkc)) (hb hby d29_53) #[.val (.ref ob), .val (.int (4 : Int32)), .val (.int (5 : Int32)), .val (.int vc), .val (.long vkc), .second, .val (.int (4 : Int32))] [] (by omega)
  obtain ⟨fs, hr, hrun, hended, hW, hsame⟩ := X5.leave (v := none) (fun _ => rfl)
  refine ⟨_, _, castTop ef ?_, hrun, hended, _, _, rfl, ?_, ⟨_, rfl⟩, hW, hsame.mono (by decide) (by decide)⟩
  · refine s_iloadN X0 hx (hb hby d29_0) rfl ?_
    refine s_istore X0 hx #[.val (.ref ob), .val (.int (4 : Int32)), .val (.int (5 : Int32)), .val (.int vc), .val (.long vkc), .second, .val (.int (4 : Int32))] (hb hby d29_1) rfl ?_
    refine s_iload X0 hx (hb hby d29_3) rfl ?_
    refine s_iloadN X0 hx (hb hby d29_5) rfl ?_
    refine s_icmpN X0 hx (hb hby d29_6) (by decide) ?_
    refine s_aloadN X0 hx (hb hby d29_9) rfl rfl ?_
    refine st1 _ ?_
    refine s_iload X1 hx (hb hby d29_13) rfl ?_
    refine s_dup2 X1 hx (hb hby d29_15) rfl rfl ?_
    refine own_ial X1 hx hZ e1 P 12 4 (v := (.int (0 : Int32))) hV12_4 (hb hby d29_16) (by omega) ?_
    refine s_iloadN X1 hx (hb hby d29_17) rfl ?_
    refine s_iadd X1 hx ((0 : Int32) + vc) (hb hby d29_18) rfl ?_
    refine st2 _ ?_
    refine s_iinc X2 hx (5 : Int32) #[.val (.ref ob), .val (.int (4 : Int32)), .val (.int (5 : Int32)), .val (.int vc), .val (.long vkc), .second, .val (.int (5 : Int32))] (hb hby d29_20) rfl (by decide) rfl ?_
    refine s_goto X2 hx 3 (hb hby d29_23) (by decide) (by decide) ?_
    refine s_iload X2 hx (hb hby d29_3) rfl ?_
    refine s_iloadN X2 hx (hb hby d29_5) rfl ?_
    refine s_icmpY X2 hx 26 (hb hby d29_6) (by decide) (by decide) (by decide) ?_
    refine s_aloadN X2 hx (hb hby d29_26) rfl rfl ?_
    refine st3 _ ?_
    refine s_nullN X3 hx (hb hby d29_30) ?_
    refine s_iloadN X3 hx (hb hby d29_33) rfl ?_
    refine s_istore X3 hx #[.val (.ref ob), .val (.int (4 : Int32)), .val (.int (5 : Int32)), .val (.int vc), .val (.long vkc), .second, .val (.int (4 : Int32))] (hb hby d29_34) rfl ?_
    refine s_iload X3 hx (hb hby d29_36) rfl ?_
    refine s_iloadN X3 hx (hb hby d29_38) rfl ?_
    refine s_icmpN X3 hx (hb hby d29_39) (by decide) ?_
    refine s_aloadN X3 hx (hb hby d29_42) rfl rfl ?_
    refine st4 _ ?_
    refine s_iload X4 hx (hb hby d29_46) rfl ?_
    refine s_dup2 X4 hx (hb hby d29_48) rfl rfl ?_
    refine own_lal X4 hx hZ e4 P2 13 4 (v := (.long (0 : Int64))) (own_vn hV13_4) (hb hby d29_49) (by omega) ?_
    refine s_lload X4 hx (hb hby d29_50) rfl ?_
    refine s_ladd X4 hx ((0 : Int64) + vkc) (hb hby d29_52) rfl ?_
    refine st5 _ ?_
    refine s_iinc X5 hx (5 : Int32) #[.val (.ref ob), .val (.int (4 : Int32)), .val (.int (5 : Int32)), .val (.int vc), .val (.long vkc), .second, .val (.int (5 : Int32))] (hb hby d29_54) rfl (by decide) rfl ?_
    refine s_goto X5 hx 36 (hb hby d29_57) (by decide) (by decide) ?_
    refine s_iload X5 hx (hb hby d29_36) rfl ?_
    refine s_iloadN X5 hx (hb hby d29_38) rfl ?_
    refine s_icmpY X5 hx 60 (hb hby d29_39) (by decide) (by decide) (by decide) ?_
    exact X5.returnOut hx Bd.returns (hb hby d29_60) hr
  · show ((_ : Option Value) = none ∧ Fr n0 _ ∧ own_PS Z T5.heap n0 ob nA A F (own_vs (own_vs V 12 4 (.int ((0 : Int32) + vc))) 13 4 (.long ((0 : Int64) + vkc))))
    rw [e5]
    exact ⟨rfl, N5, P5⟩
set_option maxRecDepth 65536 in
set_option maxHeartbeats 40000000 in
theorem rm22_2 (l : Launch) (Z : State) (a0 : Array Value) (hw : own_HW Z a0) (ws : List Jvm.Cond) {nA : Nat} {A : Nat → Addr} {F : Nat → Value} {V : Nat → List Value} (ob : Addr)  (h0 : Heap) (n0 : Nat) (P : own_PS Z h0 n0 ob nA A F V) (hA : 13 ≤ nA) (hB : nA ≤ 14) (hV7_2 : (V 7).getD 2 (own_aZ 7) = (.int (1 : Int32))) (hV9_2 : (V 9).getD 2 (own_aZ 9) = (.int (1 : Int32))) :
    own_C l Z own_y26 bc22 5 none ws 0 0 #[(.ref ob), (.int (2 : Int32))] h0 (fun v h L => (v = none ∧ Fr n0 L ∧ h = h0)) := by
  refine MetFree.of_bodySF (plainFor_of_name own_pn2) hisR ?_
  intro p e s m args below meth c s₁ Bd hml0 hP hK
  obtain ⟨rfl, hZ, hh⟩ := hP
  have hx := Bd.exec
  have hby := Bd.bytes
  have hml : c.maxLocals = 5 := hml0
  have hown : s.vm.findClass "com/example/jobwright/jobwright/policies/ProfileSteps" = some m.cls := findClass_of_methodNamed Bd.named
  have X0 : Stand p l e ({ frames := 0, cells := 0, slots := 0, locals := 0 } : Room) s m #[(.ref ob), (.int (2 : Int32))] below meth c s₁ [] 0 0 := Stand.of_body Bd
  have e0 : s₁.heap = h0 := by rw [← hh, Bd.state]; rfl
  have N0 := Fr.nil n0
  have ef : entryFrame m #[(.ref ob), (.int (2 : Int32))] 5 = mkF m 0 #[.val (.ref ob), .val (.int (2 : Int32)), .unset, .unset, .unset] [] := by first | (simp [entryFrame, mkF, argsToLocals, Value.category]; done) | rfl
  obtain ⟨T1, X1, e1, st1⟩ := own_gf X0 hx hZ hown e0 P 7 (own_w hw 76) (v := (.ref (A 7))) (P.2.2.2.1 7 (by omega)) (hb hby d22_1) #[.val (.ref ob), .val (.int (2 : Int32)), .unset, .unset, .unset] []
  obtain ⟨T2, X2, e2, st2⟩ := own_gf X1 hx hZ hown e1 P 9 (own_w hw 84) (v := (.ref (A 9))) (P.2.2.2.1 9 (by omega)) (hb hby d22_10) #[.val (.ref ob), .val (.int (2 : Int32)), .unset, .unset, .unset] []
  obtain ⟨fs, hr, hrun, hended, hW, hsame⟩ := X2.leave (v := none) (fun _ => rfl)
  refine ⟨_, _, castTop ef ?_, hrun, hended, _, _, rfl, ?_, ⟨_, rfl⟩, hW, hsame.mono (by decide) (by decide)⟩
  · refine s_aloadN X0 hx (hb hby d22_0) rfl rfl ?_
    refine st1 _ ?_
    refine s_iloadN X1 hx (hb hby d22_4) rfl ?_
    refine own_zal X1 hx hZ e1 P 7 2 (v := (.int (1 : Int32))) hV7_2 (hb hby d22_5) (by omega) ?_
    refine s_ifN X1 hx (hb hby d22_6) (by decide) ?_
    refine s_aloadN X1 hx (hb hby d22_9) rfl rfl ?_
    refine st2 _ ?_
    refine s_iloadN X2 hx (hb hby d22_13) rfl ?_
    refine own_zal X2 hx hZ e2 P 9 2 (v := (.int (1 : Int32))) hV9_2 (hb hby d22_14) (by omega) ?_
    refine s_ifN X2 hx (hb hby d22_15) (by decide) ?_
    exact X2.returnOut hx Bd.returns (hb hby d22_18) hr
  · show ((_ : Option Value) = none ∧ Fr n0 _ ∧ T2.heap = h0)
    rw [e2]
    exact ⟨rfl, N0, rfl⟩
set_option maxRecDepth 65536 in
set_option maxHeartbeats 40000000 in
theorem rm30_2 (l : Launch) (Z : State) (a0 : Array Value) (hw : own_HW Z a0) (ws : List Jvm.Cond) {nA : Nat} {A : Nat → Addr} {F : Nat → Value} {V : Nat → List Value} (ob : Addr) (vc : Int32) (vkc : Int64) (h0 : Heap) (n0 : Nat) (P : own_PS Z h0 n0 ob nA A F V) (hA : 13 ≤ nA) (hB : nA ≤ 14) (hF24 : F 24 = (.int (2 : Int32))) :
    own_C l Z own_y37 bc30 8 none ws 0 0 #[(.ref ob), (.int (2 : Int32)), (.int vc), (.long vkc)] h0 (fun v h L => (v = none ∧ Fr n0 L ∧ h = h0)) := by
  refine MetFree.of_bodySF (plainFor_of_name own_pn2) hisR ?_
  intro p e s m args below meth c s₁ Bd hml0 hP hK
  obtain ⟨rfl, hZ, hh⟩ := hP
  have hx := Bd.exec
  have hby := Bd.bytes
  have hml : c.maxLocals = 8 := hml0
  have hown : s.vm.findClass "com/example/jobwright/jobwright/policies/ProfileSteps" = some m.cls := findClass_of_methodNamed Bd.named
  have X0 : Stand p l e ({ frames := 0, cells := 0, slots := 0, locals := 0 } : Room) s m #[(.ref ob), (.int (2 : Int32)), (.int vc), (.long vkc)] below meth c s₁ [] 0 0 := Stand.of_body Bd
  have e0 : s₁.heap = h0 := by rw [← hh, Bd.state]; rfl
  have N0 := Fr.nil n0
  have ef : entryFrame m #[(.ref ob), (.int (2 : Int32)), (.int vc), (.long vkc)] 8 = mkF m 0 #[.val (.ref ob), .val (.int (2 : Int32)), .val (.int vc), .val (.long vkc), .second, .unset, .unset, .unset] [] := by first | (simp [entryFrame, mkF, argsToLocals, Value.category]; done) | rfl
  obtain ⟨T1, X1, e1, st1⟩ := own_gf X0 hx hZ hown e0 P 24 (own_w hw 142) (v := (.int (2 : Int32))) hF24 (hb hby d30_2) #[.val (.ref ob), .val (.int (2 : Int32)), .val (.int vc), .val (.long vkc), .second, .unset, .unset, .unset] [(.int (2 : Int32))]
  obtain ⟨fs, hr, hrun, hended, hW, hsame⟩ := X1.leave (v := none) (fun _ => rfl)
  refine ⟨_, _, castTop ef ?_, hrun, hended, _, _, rfl, ?_, ⟨_, rfl⟩, hW, hsame.mono (by decide) (by decide)⟩
  · refine s_iloadN X0 hx (hb hby d30_0) rfl ?_
    refine s_aloadN X0 hx (hb hby d30_1) rfl rfl ?_
    refine st1 _ ?_
    refine s_icmpN X1 hx (hb hby d30_5) (by decide) ?_
    exact X1.returnOut hx Bd.returns (hb hby d30_8) hr
  · show ((_ : Option Value) = none ∧ Fr n0 _ ∧ T1.heap = h0)
    rw [e1]
    exact ⟨rfl, N0, rfl⟩
set_option maxRecDepth 65536 in
set_option maxHeartbeats 40000000 in
theorem rm32_2 (l : Launch) (Z : State) (a0 : Array Value) (hw : own_HW Z a0) (ws : List Jvm.Cond) {nA : Nat} {A : Nat → Addr} {F : Nat → Value} {V : Nat → List Value} (ob : Addr) (vc : Int32) (vkc : Int64) (h0 : Heap) (n0 : Nat) (P : own_PS Z h0 n0 ob nA A F V) (hA : 13 ≤ nA) (hB : nA ≤ 14) (hF21 : F 21 = (.int (0 : Int32))) :
    own_C l Z own_y38 bc32 5 none ws 0 0 #[(.ref ob), (.int (2 : Int32)), (.int vc), (.long vkc)] h0 (fun v h L => (v = none ∧ Fr n0 L ∧ h = h0)) := by
  refine MetFree.of_bodySF (plainFor_of_name own_pn2) hisR ?_
  intro p e s m args below meth c s₁ Bd hml0 hP hK
  obtain ⟨rfl, hZ, hh⟩ := hP
  have hx := Bd.exec
  have hby := Bd.bytes
  have hml : c.maxLocals = 5 := hml0
  have hown : s.vm.findClass "com/example/jobwright/jobwright/policies/ProfileSteps" = some m.cls := findClass_of_methodNamed Bd.named
  have X0 : Stand p l e ({ frames := 0, cells := 0, slots := 0, locals := 0 } : Room) s m #[(.ref ob), (.int (2 : Int32)), (.int vc), (.long vkc)] below meth c s₁ [] 0 0 := Stand.of_body Bd
  have e0 : s₁.heap = h0 := by rw [← hh, Bd.state]; rfl
  have N0 := Fr.nil n0
  have ef : entryFrame m #[(.ref ob), (.int (2 : Int32)), (.int vc), (.long vkc)] 5 = mkF m 0 #[.val (.ref ob), .val (.int (2 : Int32)), .val (.int vc), .val (.long vkc), .second] [] := by first | (simp [entryFrame, mkF, argsToLocals, Value.category]; done) | rfl
  obtain ⟨T1, X1, e1, st1⟩ := own_gf X0 hx hZ hown e0 P 21 (own_w hw 26) (v := (.int (0 : Int32))) hF21 (hb hby d32_1) #[.val (.ref ob), .val (.int (2 : Int32)), .val (.int vc), .val (.long vkc), .second] []
  obtain ⟨fs, hr, hrun, hended, hW, hsame⟩ := X1.leave (v := none) (fun _ => rfl)
  refine ⟨_, _, castTop ef ?_, hrun, hended, _, _, rfl, ?_, ⟨_, rfl⟩, hW, hsame.mono (by decide) (by decide)⟩
  · refine s_aloadN X0 hx (hb hby d32_0) rfl rfl ?_
    refine st1 _ ?_
    refine s_ifY X1 hx 54 (hb hby d32_4) (by decide) (by decide) (by decide) ?_
    exact X1.returnOut hx Bd.returns (hb hby d32_54) hr
  · show ((_ : Option Value) = none ∧ Fr n0 _ ∧ T1.heap = h0)
    rw [e1]
    exact ⟨rfl, N0, rfl⟩
set_option maxRecDepth 65536 in
set_option maxHeartbeats 40000000 in
theorem rm28_2 (l : Launch) (Z : State) (a0 : Array Value) (hw : own_HW Z a0) (ws : List Jvm.Cond) {nA : Nat} {A : Nat → Addr} {F : Nat → Value} {V : Nat → List Value} (ob : Addr) (vc : Int32) (vkc : Int64) (h0 : Heap) (n0 : Nat) (P : own_PS Z h0 n0 ob nA A F V) (hA : 13 ≤ nA) (hB : nA ≤ 14) (hM : nA = 14) (hF19 : F 19 = (.int (1 : Int32))) (hF24 : F 24 = (.int (2 : Int32))) (hF21 : F 21 = (.int (0 : Int32))) (hV1_2 : (V 1).getD 2 (own_aZ 1) = (.int (1 : Int32))) (hV12_4 : (V 12).getD 4 (own_aZ 12) = (.int (0 : Int32))) (hV13_4 : (V 13).getD 4 (own_aZ 13) = (.long (0 : Int64))) (hV7_2 : (V 7).getD 2 (own_aZ 7) = (.int (1 : Int32))) (hV9_2 : (V 9).getD 2 (own_aZ 9) = (.int (1 : Int32))) :
    own_C l Z own_y39 bc28 8 none ws 1 19 #[(.ref ob), (.int (4 : Int32)), (.int (-1 : Int32)), (.int vc), (.long vkc)] h0 (fun v h L => (v = none ∧ Fr n0 L ∧ own_PS Z h n0 ob nA A F (own_vs (own_vs V 12 4 (.int ((0 : Int32) + vc))) 13 4 (.long ((0 : Int64) + vkc))))) := by
  refine MetFree.of_bodySF (plainFor_of_name own_pn2) hisR ?_
  intro p e s m args below meth c s₁ Bd hml0 hP hK
  obtain ⟨rfl, hZ, hh⟩ := hP
  have hx := Bd.exec
  have hby := Bd.bytes
  have hml : c.maxLocals = 8 := hml0
  have hown : s.vm.findClass "com/example/jobwright/jobwright/policies/ProfileSteps" = some m.cls := findClass_of_methodNamed Bd.named
  have X0 : Stand p l e ({ frames := 1, cells := 0, slots := 0, locals := 19 } : Room) s m #[(.ref ob), (.int (4 : Int32)), (.int (-1 : Int32)), (.int vc), (.long vkc)] below meth c s₁ [] 0 0 := Stand.of_body Bd
  have e0 : s₁.heap = h0 := by rw [← hh, Bd.state]; rfl
  have N0 := Fr.nil n0
  have ef : entryFrame m #[(.ref ob), (.int (4 : Int32)), (.int (-1 : Int32)), (.int vc), (.long vkc)] 8 = mkF m 0 #[.val (.ref ob), .val (.int (4 : Int32)), .val (.int (-1 : Int32)), .val (.int vc), .val (.long vkc), .second, .unset, .unset] [] := by first | (simp [entryFrame, mkF, argsToLocals, Value.category]; done) | rfl
  obtain ⟨T1, X1, e1, st1⟩ := own_gf X0 hx hZ hown e0 P 19 (own_w hw 54) (v := (.int (1 : Int32))) hF19 (hb hby d28_2) #[.val (.ref ob), .val (.int (4 : Int32)), .val (.int (-1 : Int32)), .val (.int vc), .val (.long vkc), .second, .unset, .unset] [(.int (4 : Int32))]
  obtain ⟨T2, X2, e2, st2⟩ := own_gf X1 hx hZ hown e1 P 19 (own_w hw 54) (v := (.int (1 : Int32))) hF19 (hb hby d28_45) #[.val (.ref ob), .val (.int (4 : Int32)), .val (.int (-1 : Int32)), .val (.int vc), .val (.long vkc), .second, .val (.int (2 : Int32)), .unset] [(.int (2 : Int32)), (.int (4 : Int32)), (.ref ob)]
  obtain ⟨T3, X3, e3, st3⟩ := own_gf X2 hx hZ hown e2 P 1 (own_w hw 58) (v := (.ref (A 1))) (P.2.2.2.1 1 (by omega)) (hb hby d28_50) #[.val (.ref ob), .val (.int (4 : Int32)), .val (.int (-1 : Int32)), .val (.int vc), .val (.long vkc), .second, .val (.int (2 : Int32)), .unset] [(.int (4 : Int32)), (.int (4 : Int32)), (.ref ob)]
  obtain ⟨cq4, q4, q4'⟩ := P.1.cell
  obtain ⟨_, _, ⟨T4, L4, k4, n4⟩, -, X4, ⟨Lc4, hQ4, l4, y4, z4⟩, st4⟩ := X3.privateBack hx (y := own_y34) hown (mvT hZ (own_w hw 238)) (mvT hZ (own_w hw 239)) (own_psel (z := own_y17) (mvT hZ (own_w hw 103)) (mvP hZ (own_w hw 240)) (mvT hZ (own_w hw 239)) rfl (by decide)) (Cond.privateMethod_at (mvP hZ (own_w hw 240) (args := #[]))) (mvT hZ (own_w hw 241)) (by decide) (backOf (W := 0) (rm29_2 l Z a0 hw [] ob vc vkc h0 n0 P hA hB hM  hV12_4 hV13_4 ) hZ (own_w hw 241) (own_w hw 2) (by decide) (by decide)) (g := (mkF m 60 #[.val (.ref ob), .val (.int (4 : Int32)), .val (.int (-1 : Int32)), .val (.int vc), .val (.long vkc), .second, .val (.int (2 : Int32)), .unset] [(.long vkc), (.int vc), (.int (5 : Int32)), (.int (4 : Int32)), (.ref ob)])) rfl (by rw [hml]; rfl) (Steps.refl _) (a := ob) (by rw [e3]; exact q4) q4' (argsL := [(.int (4 : Int32)), (.int (5 : Int32)), (.int vc), (.long vkc)]) (rest := []) (lenOf own_pd12 rfl) rfl (by show 2 * 0 + _ ≤ _; exact Nat.le_of_eq rfl) (hb hby d28_60) (fun _ _ => ⟨rfl, e3, (by decide : 0 + 0 ≤ _), (by decide : 0 + 0 ≤ _)⟩)
  dsimp only [Pt.U, Pt.locs, Pt.cells, Pt.slots] at X4 l4 y4 z4 st4 hQ4
  subst l4 y4 z4
  obtain ⟨rfl, Nq4, P4⟩ := hQ4
  have N4 := Fr.app N0 Nq4
  obtain ⟨cq5, q5, q5'⟩ := P4.1.cell
  obtain ⟨_, _, ⟨T5, L5, k5, n5⟩, -, X5, ⟨Lc5, hQ5, l5, y5, z5⟩, st5⟩ := X4.privateBack hx (y := own_y26) hown (mvT hZ (own_w hw 204)) (mvT hZ (own_w hw 205)) (own_psel (z := own_y17) (mvT hZ (own_w hw 103)) (mvP hZ (own_w hw 206)) (mvT hZ (own_w hw 205)) rfl (by decide)) (Cond.privateMethod_at (mvP hZ (own_w hw 206) (args := #[]))) (mvT hZ (own_w hw 207)) (by decide) (backOf (W := 0) (rm22_2 l Z a0 hw [] ob  T4.heap n0 P4 hA hB  (own_vn (own_vn hV7_2)) (own_vn (own_vn hV9_2)) ) hZ (own_w hw 207) (own_w hw 2) (by decide) (by decide)) (g := (mkF m 66 #[.val (.ref ob), .val (.int (4 : Int32)), .val (.int (-1 : Int32)), .val (.int vc), .val (.long vkc), .second, .val (.int (2 : Int32)), .unset] [(.int (2 : Int32)), (.ref ob)])) rfl (by rw [hml]; rfl) (Steps.refl _) (a := ob) q5 q5' (argsL := [(.int (2 : Int32))]) (rest := []) (lenOf own_pd0 rfl) rfl (by show 2 * 0 + _ ≤ _; exact Nat.le_of_eq rfl) (hb hby d28_66) (fun _ _ => ⟨rfl, rfl, (by decide : 0 + 0 ≤ _), (by decide : 0 + 0 ≤ _)⟩)
  dsimp only [Pt.U, Pt.locs, Pt.cells, Pt.slots] at X5 l5 y5 z5 st5 hQ5
  subst l5 y5 z5
  obtain ⟨rfl, Nq5, eh5⟩ := hQ5
  have N5 := Fr.app N4 Nq5
  obtain ⟨cq6, q6, q6'⟩ := P4.1.cell
  obtain ⟨_, _, ⟨T6, L6, k6, n6⟩, -, X6, ⟨Lc6, hQ6, l6, y6, z6⟩, st6⟩ := X5.privateBack hx (y := own_y37) hown (mvT hZ (own_w hw 242)) (mvT hZ (own_w hw 243)) (own_psel (z := own_y17) (mvT hZ (own_w hw 103)) (mvP hZ (own_w hw 244)) (mvT hZ (own_w hw 243)) rfl (by decide)) (Cond.privateMethod_at (mvP hZ (own_w hw 244) (args := #[]))) (mvT hZ (own_w hw 245)) (by decide) (backOf (W := 0) (rm30_2 l Z a0 hw [] ob vc vkc T4.heap n0 P4 hA hB hF24  ) hZ (own_w hw 245) (own_w hw 2) (by decide) (by decide)) (g := (mkF m 75 #[.val (.ref ob), .val (.int (4 : Int32)), .val (.int (-1 : Int32)), .val (.int vc), .val (.long vkc), .second, .val (.int (2 : Int32)), .unset] [(.long vkc), (.int vc), (.int (2 : Int32)), (.ref ob)])) rfl (by rw [hml]; rfl) (Steps.refl _) (a := ob) (by rw [eh5]; exact q6) q6' (argsL := [(.int (2 : Int32)), (.int vc), (.long vkc)]) (rest := []) (lenOf own_pd13 rfl) rfl (by show 2 * 0 + _ ≤ _; exact Nat.le_of_eq rfl) (hb hby d28_75) (fun _ _ => ⟨rfl, eh5, (by decide : 0 + 0 ≤ _), (by decide : 0 + 0 ≤ _)⟩)
  dsimp only [Pt.U, Pt.locs, Pt.cells, Pt.slots] at X6 l6 y6 z6 st6 hQ6
  subst l6 y6 z6
  obtain ⟨rfl, Nq6, eh6⟩ := hQ6
  have N6 := Fr.app N5 Nq6
  obtain ⟨cq7, q7, q7'⟩ := P4.1.cell
  obtain ⟨_, _, ⟨T7, L7, k7, n7⟩, -, X7, ⟨Lc7, hQ7, l7, y7, z7⟩, st7⟩ := X6.privateBack hx (y := own_y38) hown (mvT hZ (own_w hw 252)) (mvT hZ (own_w hw 253)) (own_psel (z := own_y17) (mvT hZ (own_w hw 103)) (mvP hZ (own_w hw 254)) (mvT hZ (own_w hw 253)) rfl (by decide)) (Cond.privateMethod_at (mvP hZ (own_w hw 254) (args := #[]))) (mvT hZ (own_w hw 255)) (by decide) (backOf (W := 0) (rm32_2 l Z a0 hw [] ob vc vkc T4.heap n0 P4 hA hB hF21  ) hZ (own_w hw 255) (own_w hw 2) (by decide) (by decide)) (g := (mkF m 84 #[.val (.ref ob), .val (.int (4 : Int32)), .val (.int (-1 : Int32)), .val (.int vc), .val (.long vkc), .second, .val (.int (2 : Int32)), .unset] [(.long vkc), (.int vc), (.int (2 : Int32)), (.ref ob)])) rfl (by rw [hml]; rfl) (Steps.refl _) (a := ob) (by rw [eh6]; exact q7) q7' (argsL := [(.int (2 : Int32)), (.int vc), (.long vkc)]) (rest := []) (lenOf own_pd13 rfl) rfl (by show 2 * 0 + _ ≤ _; exact Nat.le_of_eq rfl) (hb hby d28_84) (fun _ _ => ⟨rfl, eh6, (by decide : 0 + 0 ≤ _), (by decide : 0 + 0 ≤ _)⟩)
  dsimp only [Pt.U, Pt.locs, Pt.cells, Pt.slots] at X7 l7 y7 z7 st7 hQ7
  subst l7 y7 z7
  obtain ⟨rfl, Nq7, eh7⟩ := hQ7
  have N7 := Fr.app N6 Nq7
  obtain ⟨fs, hr, hrun, hended, hW, hsame⟩ := X7.leave (v := none) (fun _ => rfl)
  refine ⟨_, _, castTop ef ?_, hrun, hended, _, _, rfl, ?_, ⟨_, rfl⟩, hW, hsame.mono (by decide) (by decide)⟩
  · refine s_iloadN X0 hx (hb hby d28_0) rfl ?_
    refine s_aloadN X0 hx (hb hby d28_1) rfl rfl ?_
    refine st1 _ ?_
    refine s_ishr X1 hx (2 : Int32) (hb hby d28_5) (by decide) ?_
    refine s_istore X1 hx #[.val (.ref ob), .val (.int (4 : Int32)), .val (.int (-1 : Int32)), .val (.int vc), .val (.long vkc), .second, .val (.int (2 : Int32)), .unset] (hb hby d28_6) rfl ?_
    refine s_iloadN X1 hx (hb hby d28_8) rfl ?_
    refine s_iconst X1 hx (-1 : Int32) (hb hby d28_9) rfl ?_
    refine s_icmpY X1 hx 40 (hb hby d28_10) (by decide) (by decide) (by decide) ?_
    refine s_aloadN X1 hx (hb hby d28_40) rfl rfl ?_
    refine s_iloadN X1 hx (hb hby d28_41) rfl ?_
    refine s_iload X1 hx (hb hby d28_42) rfl ?_
    refine s_aloadN X1 hx (hb hby d28_44) rfl rfl ?_
    refine st2 _ ?_
    refine s_ishl X2 hx (4 : Int32) (hb hby d28_48) (by decide) ?_
    refine s_aloadN X2 hx (hb hby d28_49) rfl rfl ?_
    refine st3 _ ?_
    refine s_iload X3 hx (hb hby d28_53) rfl ?_
    refine own_ial X3 hx hZ e3 P 1 2 (v := (.int (1 : Int32))) hV1_2 (hb hby d28_55) (by omega) ?_
    refine s_iadd X3 hx (5 : Int32) (hb hby d28_56) (by decide) ?_
    refine s_iloadN X3 hx (hb hby d28_57) rfl ?_
    refine s_lload X3 hx (hb hby d28_58) rfl ?_
    refine st4.trans ?_
    refine s_aloadN X4 hx (hb hby d28_63) rfl rfl ?_
    refine s_iload X4 hx (hb hby d28_64) rfl ?_
    refine st5.trans ?_
    refine s_aloadN X5 hx (hb hby d28_69) rfl rfl ?_
    refine s_iload X5 hx (hb hby d28_70) rfl ?_
    refine s_iloadN X5 hx (hb hby d28_72) rfl ?_
    refine s_lload X5 hx (hb hby d28_73) rfl ?_
    refine st6.trans ?_
    refine s_aloadN X6 hx (hb hby d28_78) rfl rfl ?_
    refine s_iload X6 hx (hb hby d28_79) rfl ?_
    refine s_iloadN X6 hx (hb hby d28_81) rfl ?_
    refine s_lload X6 hx (hb hby d28_82) rfl ?_
    refine st7.trans ?_
    refine s_iloadN X7 hx (hb hby d28_87) rfl ?_
    refine s_iconst X7 hx (-1 : Int32) (hb hby d28_88) rfl ?_
    refine s_icmpY X7 hx 153 (hb hby d28_89) (by decide) (by decide) (by decide) ?_
    exact X7.returnOut hx Bd.returns (hb hby d28_153) hr
  · show ((_ : Option Value) = none ∧ Fr n0 _ ∧ own_PS Z T7.heap n0 ob nA A F (own_vs (own_vs V 12 4 (.int ((0 : Int32) + vc))) 13 4 (.long ((0 : Int64) + vkc))))
    rw [eh7]
    exact ⟨rfl, N7, P4⟩
set_option maxRecDepth 65536 in
set_option maxHeartbeats 40000000 in
theorem rm33_1 (l : Launch) (Z : State) (a0 : Array Value) (hw : own_HW Z a0) (ws : List Jvm.Cond) {nA : Nat} {A : Nat → Addr} {F : Nat → Value} {V : Nat → List Value} (ob : Addr) (va : Int32) (vk : Int64) (vb : Int32) (vkb : Int64) (h0 : Heap) (n0 : Nat) (P : own_PS Z h0 n0 ob nA A F V) (hA : 13 ≤ nA) (hB : nA ≤ 14) (hM : nA = 14) (hF19 : F 19 = (.int (1 : Int32))) (hV12_3 : (V 12).getD 3 (own_aZ 12) = (.int (va + vb))) (hV12_2 : (V 12).getD 2 (own_aZ 12) = (.int va)) (hV13_3 : (V 13).getD 3 (own_aZ 13) = (.long (vk + vkb))) (hV13_2 : (V 13).getD 2 (own_aZ 13) = (.long vk)) (hs1 : (va + vb) = va) (hs2 : (vk + vkb) = vk) :
    own_C l Z own_y40 bc33 2 (some .boolean) ws 0 0 #[(.ref ob), (.int (3 : Int32))] h0 (fun v h L => (v = some (.int (1 : Int32)) ∧ Fr n0 L ∧ h = h0)) := by
  refine MetFree.of_bodySF (plainFor_of_name own_pn2) hisR ?_
  intro p e s m args below meth c s₁ Bd hml0 hP hK
  obtain ⟨rfl, hZ, hh⟩ := hP
  have hx := Bd.exec
  have hby := Bd.bytes
  have hml : c.maxLocals = 2 := hml0
  have hown : s.vm.findClass "com/example/jobwright/jobwright/policies/ProfileSteps" = some m.cls := findClass_of_methodNamed Bd.named
  have X0 : Stand p l e ({ frames := 0, cells := 0, slots := 0, locals := 0 } : Room) s m #[(.ref ob), (.int (3 : Int32))] below meth c s₁ [] 0 0 := Stand.of_body Bd
  have e0 : s₁.heap = h0 := by rw [← hh, Bd.state]; rfl
  have N0 := Fr.nil n0
  have ef : entryFrame m #[(.ref ob), (.int (3 : Int32))] 2 = mkF m 0 #[.val (.ref ob), .val (.int (3 : Int32))] [] := by first | (simp [entryFrame, mkF, argsToLocals, Value.category]; done) | rfl
  obtain ⟨T1, X1, e1, st1⟩ := own_gf X0 hx hZ hown e0 P 19 (own_w hw 54) (v := (.int (1 : Int32))) hF19 (hb hby d33_3) #[.val (.ref ob), .val (.int (3 : Int32))] [(.int (3 : Int32)), (.int (3 : Int32))]
  obtain ⟨T2, X2, e2, st2⟩ := own_gf X1 hx hZ hown e1 P 19 (own_w hw 54) (v := (.int (1 : Int32))) hF19 (hb hby d33_8) #[.val (.ref ob), .val (.int (3 : Int32))] [(.int (1 : Int32)), (.int (3 : Int32))]
  obtain ⟨T3, X3, e3, st3⟩ := own_gf X2 hx hZ hown e2 P 12 (own_w hw 94) (v := (.ref (A 12))) (P.2.2.2.1 12 (by omega)) (hb hby d33_16) #[.val (.ref ob), .val (.int (3 : Int32))] []
  obtain ⟨T4, X4, e4, st4⟩ := own_gf X3 hx hZ hown e3 P 12 (own_w hw 94) (v := (.ref (A 12))) (P.2.2.2.1 12 (by omega)) (hb hby d33_22) #[.val (.ref ob), .val (.int (3 : Int32))] [(.int (va + vb))]
  obtain ⟨T5, X5, e5, st5⟩ := own_gf X4 hx hZ hown e4 P 13 (own_w hw 96) (v := (.ref (A 13))) (P.2.2.2.1 13 (by omega)) (hb hby d33_33) #[.val (.ref ob), .val (.int (3 : Int32))] []
  obtain ⟨T6, X6, e6, st6⟩ := own_gf X5 hx hZ hown e5 P 13 (own_w hw 96) (v := (.ref (A 13))) (P.2.2.2.1 13 (by omega)) (hb hby d33_40) #[.val (.ref ob), .val (.int (3 : Int32))] []
  obtain ⟨T7, X7, e7, st7⟩ := own_gf X6 hx hZ hown e6 P 13 (own_w hw 96) (v := (.ref (A 13))) (P.2.2.2.1 13 (by omega)) (hb hby d33_46) #[.val (.ref ob), .val (.int (3 : Int32))] [(.long (vk + vkb))]
  obtain ⟨fs, hr, hrun, hended, hW, hsame⟩ := X7.leave (v := some (.int (1 : Int32))) (fun h => by rw [Bd.returns] at h; cases h)
  refine ⟨_, _, castTop ef ?_, hrun, hended, _, _, rfl, ?_, ⟨_, rfl⟩, hW, hsame.mono (by decide) (by decide)⟩
  · refine s_iloadN X0 hx (hb hby d33_0) rfl ?_
    refine s_iloadN X0 hx (hb hby d33_1) rfl ?_
    refine s_aloadN X0 hx (hb hby d33_2) rfl rfl ?_
    refine st1 _ ?_
    refine s_ishr X1 hx (1 : Int32) (hb hby d33_6) (by decide) ?_
    refine s_aloadN X1 hx (hb hby d33_7) rfl rfl ?_
    refine st2 _ ?_
    refine s_ishl X2 hx (2 : Int32) (hb hby d33_11) (by decide) ?_
    refine s_icmpN X2 hx (hb hby d33_12) (by decide) ?_
    refine s_aloadN X2 hx (hb hby d33_15) rfl rfl ?_
    refine st3 _ ?_
    refine s_iloadN X3 hx (hb hby d33_19) rfl ?_
    refine own_ial X3 hx hZ e3 P 12 3 (v := (.int (va + vb))) hV12_3 (hb hby d33_20) (by omega) ?_
    refine s_aloadN X3 hx (hb hby d33_21) rfl rfl ?_
    refine st4 _ ?_
    refine s_iloadN X4 hx (hb hby d33_25) rfl ?_
    refine s_iconst X4 hx (1 : Int32) (hb hby d33_26) rfl ?_
    refine s_isub X4 hx (2 : Int32) (hb hby d33_27) (by decide) ?_
    refine own_ial X4 hx hZ e4 P 12 2 (v := (.int va)) hV12_2 (hb hby d33_28) (by omega) ?_
    refine s_icmpN X4 hx (hb hby d33_29) (teq hs1).2 ?_
    refine s_aloadN X4 hx (hb hby d33_32) rfl rfl ?_
    refine st5 _ ?_
    refine s_nullN X5 hx (hb hby d33_36) ?_
    refine s_aloadN X5 hx (hb hby d33_39) rfl rfl ?_
    refine st6 _ ?_
    refine s_iloadN X6 hx (hb hby d33_43) rfl ?_
    refine own_lal X6 hx hZ e6 P 13 3 (v := (.long (vk + vkb))) hV13_3 (hb hby d33_44) (by omega) ?_
    refine s_aloadN X6 hx (hb hby d33_45) rfl rfl ?_
    refine st7 _ ?_
    refine s_iloadN X7 hx (hb hby d33_49) rfl ?_
    refine s_iconst X7 hx (1 : Int32) (hb hby d33_50) rfl ?_
    refine s_isub X7 hx (2 : Int32) (hb hby d33_51) (by decide) ?_
    refine own_lal X7 hx hZ e7 P 13 2 (v := (.long vk)) hV13_2 (hb hby d33_52) (by omega) ?_
    refine s_lcmp X7 hx (lcmpW (vk + vkb) vk) (hb hby d33_53) rfl ?_
    refine s_ifN X7 hx (hb hby d33_54) ((if0 _ _).trans (teq (own_leq.mpr hs2)).2) ?_
    refine s_iconst X7 hx (1 : Int32) (hb hby d33_57) rfl ?_
    refine s_goto X7 hx 62 (hb hby d33_58) (by decide) (by decide) ?_
    exact retN X7 hx (t := .boolean) Bd.returns (by simp) (hb hby d33_62) hr
  · show ((_ : Option Value) = some (.int (1 : Int32)) ∧ Fr n0 _ ∧ T7.heap = h0)
    rw [e7]
    exact ⟨rfl, N0, rfl⟩
set_option maxRecDepth 65536 in
set_option maxHeartbeats 40000000 in
theorem rm33_2 (l : Launch) (Z : State) (a0 : Array Value) (hw : own_HW Z a0) (ws : List Jvm.Cond) {nA : Nat} {A : Nat → Addr} {F : Nat → Value} {V : Nat → List Value} (ob : Addr) (vc : Int32) (vkc : Int64) (h0 : Heap) (n0 : Nat) (P : own_PS Z h0 n0 ob nA A F V) (hA : 13 ≤ nA) (hB : nA ≤ 14) (hM : nA = 14) (hF19 : F 19 = (.int (1 : Int32))) (hV12_4 : (V 12).getD 4 (own_aZ 12) = (.int ((0 : Int32) + vc))) (hV13_4 : (V 13).getD 4 (own_aZ 13) = (.long ((0 : Int64) + vkc))) (hs3 : ((0 : Int32) + vc) = (0 : Int32)) (hs4 : ((0 : Int64) + vkc) = (0 : Int64)) :
    own_C l Z own_y40 bc33 2 (some .boolean) ws 0 0 #[(.ref ob), (.int (4 : Int32))] h0 (fun v h L => (v = some (.int (1 : Int32)) ∧ Fr n0 L ∧ h = h0)) := by
  refine MetFree.of_bodySF (plainFor_of_name own_pn2) hisR ?_
  intro p e s m args below meth c s₁ Bd hml0 hP hK
  obtain ⟨rfl, hZ, hh⟩ := hP
  have hx := Bd.exec
  have hby := Bd.bytes
  have hml : c.maxLocals = 2 := hml0
  have hown : s.vm.findClass "com/example/jobwright/jobwright/policies/ProfileSteps" = some m.cls := findClass_of_methodNamed Bd.named
  have X0 : Stand p l e ({ frames := 0, cells := 0, slots := 0, locals := 0 } : Room) s m #[(.ref ob), (.int (4 : Int32))] below meth c s₁ [] 0 0 := Stand.of_body Bd
  have e0 : s₁.heap = h0 := by rw [← hh, Bd.state]; rfl
  have N0 := Fr.nil n0
  have ef : entryFrame m #[(.ref ob), (.int (4 : Int32))] 2 = mkF m 0 #[.val (.ref ob), .val (.int (4 : Int32))] [] := by first | (simp [entryFrame, mkF, argsToLocals, Value.category]; done) | rfl
  obtain ⟨T1, X1, e1, st1⟩ := own_gf X0 hx hZ hown e0 P 19 (own_w hw 54) (v := (.int (1 : Int32))) hF19 (hb hby d33_3) #[.val (.ref ob), .val (.int (4 : Int32))] [(.int (4 : Int32)), (.int (4 : Int32))]
  obtain ⟨T2, X2, e2, st2⟩ := own_gf X1 hx hZ hown e1 P 19 (own_w hw 54) (v := (.int (1 : Int32))) hF19 (hb hby d33_8) #[.val (.ref ob), .val (.int (4 : Int32))] [(.int (2 : Int32)), (.int (4 : Int32))]
  obtain ⟨T3, X3, e3, st3⟩ := own_gf X2 hx hZ hown e2 P 12 (own_w hw 94) (v := (.ref (A 12))) (P.2.2.2.1 12 (by omega)) (hb hby d33_64) #[.val (.ref ob), .val (.int (4 : Int32))] []
  obtain ⟨T4, X4, e4, st4⟩ := own_gf X3 hx hZ hown e3 P 13 (own_w hw 96) (v := (.ref (A 13))) (P.2.2.2.1 13 (by omega)) (hb hby d33_73) #[.val (.ref ob), .val (.int (4 : Int32))] []
  obtain ⟨T5, X5, e5, st5⟩ := own_gf X4 hx hZ hown e4 P 13 (own_w hw 96) (v := (.ref (A 13))) (P.2.2.2.1 13 (by omega)) (hb hby d33_80) #[.val (.ref ob), .val (.int (4 : Int32))] []
  obtain ⟨fs, hr, hrun, hended, hW, hsame⟩ := X5.leave (v := some (.int (1 : Int32))) (fun h => by rw [Bd.returns] at h; cases h)
  refine ⟨_, _, castTop ef ?_, hrun, hended, _, _, rfl, ?_, ⟨_, rfl⟩, hW, hsame.mono (by decide) (by decide)⟩
  · refine s_iloadN X0 hx (hb hby d33_0) rfl ?_
    refine s_iloadN X0 hx (hb hby d33_1) rfl ?_
    refine s_aloadN X0 hx (hb hby d33_2) rfl rfl ?_
    refine st1 _ ?_
    refine s_ishr X1 hx (2 : Int32) (hb hby d33_6) (by decide) ?_
    refine s_aloadN X1 hx (hb hby d33_7) rfl rfl ?_
    refine st2 _ ?_
    refine s_ishl X2 hx (4 : Int32) (hb hby d33_11) (by decide) ?_
    refine s_icmpY X2 hx 63 (hb hby d33_12) (by decide) (by decide) (by decide) ?_
    refine s_aloadN X2 hx (hb hby d33_63) rfl rfl ?_
    refine st3 _ ?_
    refine s_iloadN X3 hx (hb hby d33_67) rfl ?_
    refine own_ial X3 hx hZ e3 P 12 4 (v := (.int ((0 : Int32) + vc))) hV12_4 (hb hby d33_68) (by omega) ?_
    refine s_ifN X3 hx (hb hby d33_69) ((if0 _ _).trans (teq hs3).2) ?_
    refine s_aloadN X3 hx (hb hby d33_72) rfl rfl ?_
    refine st4 _ ?_
    refine s_nullN X4 hx (hb hby d33_76) ?_
    refine s_aloadN X4 hx (hb hby d33_79) rfl rfl ?_
    refine st5 _ ?_
    refine s_iloadN X5 hx (hb hby d33_83) rfl ?_
    refine own_lal X5 hx hZ e5 P 13 4 (v := (.long ((0 : Int64) + vkc))) hV13_4 (hb hby d33_84) (by omega) ?_
    refine s_lconst X5 hx (0 : Int64) (hb hby d33_85) ?_ (by decide)
    refine s_lcmp X5 hx (lcmpW ((0 : Int64) + vkc) (0 : Int64)) (hb hby d33_86) rfl ?_
    refine s_ifN X5 hx (hb hby d33_87) ((if0 _ _).trans (teq (own_leq.mpr hs4)).2) ?_
    refine s_iconst X5 hx (1 : Int32) (hb hby d33_90) rfl ?_
    refine s_goto X5 hx 95 (hb hby d33_91) (by decide) (by decide) ?_
    exact retN X5 hx (t := .boolean) Bd.returns (by simp) (hb hby d33_95) hr
  · show ((_ : Option Value) = some (.int (1 : Int32)) ∧ Fr n0 _ ∧ T5.heap = h0)
    rw [e5]
    exact ⟨rfl, N0, rfl⟩
set_option maxRecDepth 65536 in
set_option maxHeartbeats 40000000 in
theorem rm33_3 (l : Launch) (Z : State) (a0 : Array Value) (hw : own_HW Z a0) (ws : List Jvm.Cond) {nA : Nat} {A : Nat → Addr} {F : Nat → Value} {V : Nat → List Value} (ob : Addr) (vc : Int32) (vkc : Int64) (h0 : Heap) (n0 : Nat) (P : own_PS Z h0 n0 ob nA A F V) (hA : 13 ≤ nA) (hB : nA ≤ 14) (hM : nA = 14) (hF19 : F 19 = (.int (1 : Int32))) (hV12_4 : (V 12).getD 4 (own_aZ 12) = (.int ((0 : Int32) + vc))) (hV13_4 : (V 13).getD 4 (own_aZ 13) = (.long ((0 : Int64) + vkc))) (hs3 : ((0 : Int32) + vc) = (0 : Int32)) (hs4 : ¬ ((0 : Int64) + vkc) = (0 : Int64)) :
    own_C l Z own_y40 bc33 2 (some .boolean) ws 0 0 #[(.ref ob), (.int (4 : Int32))] h0 (fun v h L => (v = some (.int (0 : Int32)) ∧ Fr n0 L ∧ h = h0)) := by
  refine MetFree.of_bodySF (plainFor_of_name own_pn2) hisR ?_
  intro p e s m args below meth c s₁ Bd hml0 hP hK
  obtain ⟨rfl, hZ, hh⟩ := hP
  have hx := Bd.exec
  have hby := Bd.bytes
  have hml : c.maxLocals = 2 := hml0
  have hown : s.vm.findClass "com/example/jobwright/jobwright/policies/ProfileSteps" = some m.cls := findClass_of_methodNamed Bd.named
  have X0 : Stand p l e ({ frames := 0, cells := 0, slots := 0, locals := 0 } : Room) s m #[(.ref ob), (.int (4 : Int32))] below meth c s₁ [] 0 0 := Stand.of_body Bd
  have e0 : s₁.heap = h0 := by rw [← hh, Bd.state]; rfl
  have N0 := Fr.nil n0
  have ef : entryFrame m #[(.ref ob), (.int (4 : Int32))] 2 = mkF m 0 #[.val (.ref ob), .val (.int (4 : Int32))] [] := by first | (simp [entryFrame, mkF, argsToLocals, Value.category]; done) | rfl
  obtain ⟨T1, X1, e1, st1⟩ := own_gf X0 hx hZ hown e0 P 19 (own_w hw 54) (v := (.int (1 : Int32))) hF19 (hb hby d33_3) #[.val (.ref ob), .val (.int (4 : Int32))] [(.int (4 : Int32)), (.int (4 : Int32))]
  obtain ⟨T2, X2, e2, st2⟩ := own_gf X1 hx hZ hown e1 P 19 (own_w hw 54) (v := (.int (1 : Int32))) hF19 (hb hby d33_8) #[.val (.ref ob), .val (.int (4 : Int32))] [(.int (2 : Int32)), (.int (4 : Int32))]
  obtain ⟨T3, X3, e3, st3⟩ := own_gf X2 hx hZ hown e2 P 12 (own_w hw 94) (v := (.ref (A 12))) (P.2.2.2.1 12 (by omega)) (hb hby d33_64) #[.val (.ref ob), .val (.int (4 : Int32))] []
  obtain ⟨T4, X4, e4, st4⟩ := own_gf X3 hx hZ hown e3 P 13 (own_w hw 96) (v := (.ref (A 13))) (P.2.2.2.1 13 (by omega)) (hb hby d33_73) #[.val (.ref ob), .val (.int (4 : Int32))] []
  obtain ⟨T5, X5, e5, st5⟩ := own_gf X4 hx hZ hown e4 P 13 (own_w hw 96) (v := (.ref (A 13))) (P.2.2.2.1 13 (by omega)) (hb hby d33_80) #[.val (.ref ob), .val (.int (4 : Int32))] []
  obtain ⟨fs, hr, hrun, hended, hW, hsame⟩ := X5.leave (v := some (.int (0 : Int32))) (fun h => by rw [Bd.returns] at h; cases h)
  refine ⟨_, _, castTop ef ?_, hrun, hended, _, _, rfl, ?_, ⟨_, rfl⟩, hW, hsame.mono (by decide) (by decide)⟩
  · refine s_iloadN X0 hx (hb hby d33_0) rfl ?_
    refine s_iloadN X0 hx (hb hby d33_1) rfl ?_
    refine s_aloadN X0 hx (hb hby d33_2) rfl rfl ?_
    refine st1 _ ?_
    refine s_ishr X1 hx (2 : Int32) (hb hby d33_6) (by decide) ?_
    refine s_aloadN X1 hx (hb hby d33_7) rfl rfl ?_
    refine st2 _ ?_
    refine s_ishl X2 hx (4 : Int32) (hb hby d33_11) (by decide) ?_
    refine s_icmpY X2 hx 63 (hb hby d33_12) (by decide) (by decide) (by decide) ?_
    refine s_aloadN X2 hx (hb hby d33_63) rfl rfl ?_
    refine st3 _ ?_
    refine s_iloadN X3 hx (hb hby d33_67) rfl ?_
    refine own_ial X3 hx hZ e3 P 12 4 (v := (.int ((0 : Int32) + vc))) hV12_4 (hb hby d33_68) (by omega) ?_
    refine s_ifN X3 hx (hb hby d33_69) ((if0 _ _).trans (teq hs3).2) ?_
    refine s_aloadN X3 hx (hb hby d33_72) rfl rfl ?_
    refine st4 _ ?_
    refine s_nullN X4 hx (hb hby d33_76) ?_
    refine s_aloadN X4 hx (hb hby d33_79) rfl rfl ?_
    refine st5 _ ?_
    refine s_iloadN X5 hx (hb hby d33_83) rfl ?_
    refine own_lal X5 hx hZ e5 P 13 4 (v := (.long ((0 : Int64) + vkc))) hV13_4 (hb hby d33_84) (by omega) ?_
    refine s_lconst X5 hx (0 : Int64) (hb hby d33_85) ?_ (by decide)
    refine s_lcmp X5 hx (lcmpW ((0 : Int64) + vkc) (0 : Int64)) (hb hby d33_86) rfl ?_
    refine s_ifY X5 hx 94 (hb hby d33_87) ((if0 _ _).trans (feq (mt own_leq.mp hs4)).2) (by decide) (by decide) ?_
    refine s_iconst X5 hx (0 : Int32) (hb hby d33_94) rfl ?_
    exact retN X5 hx (t := .boolean) Bd.returns (by simp) (hb hby d33_95) hr
  · show ((_ : Option Value) = some (.int (0 : Int32)) ∧ Fr n0 _ ∧ T5.heap = h0)
    rw [e5]
    exact ⟨rfl, N0, rfl⟩
set_option maxRecDepth 65536 in
set_option maxHeartbeats 40000000 in
theorem rm33_4 (l : Launch) (Z : State) (a0 : Array Value) (hw : own_HW Z a0) (ws : List Jvm.Cond) {nA : Nat} {A : Nat → Addr} {F : Nat → Value} {V : Nat → List Value} (ob : Addr) (vc : Int32) (h0 : Heap) (n0 : Nat) (P : own_PS Z h0 n0 ob nA A F V) (hA : 13 ≤ nA) (hB : nA ≤ 14) (hF19 : F 19 = (.int (1 : Int32))) (hV12_4 : (V 12).getD 4 (own_aZ 12) = (.int ((0 : Int32) + vc))) (hs3 : ¬ ((0 : Int32) + vc) = (0 : Int32)) :
    own_C l Z own_y40 bc33 2 (some .boolean) ws 0 0 #[(.ref ob), (.int (4 : Int32))] h0 (fun v h L => (v = some (.int (0 : Int32)) ∧ Fr n0 L ∧ h = h0)) := by
  refine MetFree.of_bodySF (plainFor_of_name own_pn2) hisR ?_
  intro p e s m args below meth c s₁ Bd hml0 hP hK
  obtain ⟨rfl, hZ, hh⟩ := hP
  have hx := Bd.exec
  have hby := Bd.bytes
  have hml : c.maxLocals = 2 := hml0
  have hown : s.vm.findClass "com/example/jobwright/jobwright/policies/ProfileSteps" = some m.cls := findClass_of_methodNamed Bd.named
  have X0 : Stand p l e ({ frames := 0, cells := 0, slots := 0, locals := 0 } : Room) s m #[(.ref ob), (.int (4 : Int32))] below meth c s₁ [] 0 0 := Stand.of_body Bd
  have e0 : s₁.heap = h0 := by rw [← hh, Bd.state]; rfl
  have N0 := Fr.nil n0
  have ef : entryFrame m #[(.ref ob), (.int (4 : Int32))] 2 = mkF m 0 #[.val (.ref ob), .val (.int (4 : Int32))] [] := by first | (simp [entryFrame, mkF, argsToLocals, Value.category]; done) | rfl
  obtain ⟨T1, X1, e1, st1⟩ := own_gf X0 hx hZ hown e0 P 19 (own_w hw 54) (v := (.int (1 : Int32))) hF19 (hb hby d33_3) #[.val (.ref ob), .val (.int (4 : Int32))] [(.int (4 : Int32)), (.int (4 : Int32))]
  obtain ⟨T2, X2, e2, st2⟩ := own_gf X1 hx hZ hown e1 P 19 (own_w hw 54) (v := (.int (1 : Int32))) hF19 (hb hby d33_8) #[.val (.ref ob), .val (.int (4 : Int32))] [(.int (2 : Int32)), (.int (4 : Int32))]
  obtain ⟨T3, X3, e3, st3⟩ := own_gf X2 hx hZ hown e2 P 12 (own_w hw 94) (v := (.ref (A 12))) (P.2.2.2.1 12 (by omega)) (hb hby d33_64) #[.val (.ref ob), .val (.int (4 : Int32))] []
  obtain ⟨fs, hr, hrun, hended, hW, hsame⟩ := X3.leave (v := some (.int (0 : Int32))) (fun h => by rw [Bd.returns] at h; cases h)
  refine ⟨_, _, castTop ef ?_, hrun, hended, _, _, rfl, ?_, ⟨_, rfl⟩, hW, hsame.mono (by decide) (by decide)⟩
  · refine s_iloadN X0 hx (hb hby d33_0) rfl ?_
    refine s_iloadN X0 hx (hb hby d33_1) rfl ?_
    refine s_aloadN X0 hx (hb hby d33_2) rfl rfl ?_
    refine st1 _ ?_
    refine s_ishr X1 hx (2 : Int32) (hb hby d33_6) (by decide) ?_
    refine s_aloadN X1 hx (hb hby d33_7) rfl rfl ?_
    refine st2 _ ?_
    refine s_ishl X2 hx (4 : Int32) (hb hby d33_11) (by decide) ?_
    refine s_icmpY X2 hx 63 (hb hby d33_12) (by decide) (by decide) (by decide) ?_
    refine s_aloadN X2 hx (hb hby d33_63) rfl rfl ?_
    refine st3 _ ?_
    refine s_iloadN X3 hx (hb hby d33_67) rfl ?_
    refine own_ial X3 hx hZ e3 P 12 4 (v := (.int ((0 : Int32) + vc))) hV12_4 (hb hby d33_68) (by omega) ?_
    refine s_ifY X3 hx 94 (hb hby d33_69) ((if0 _ _).trans (feq hs3).2) (by decide) (by decide) ?_
    refine s_iconst X3 hx (0 : Int32) (hb hby d33_94) rfl ?_
    exact retN X3 hx (t := .boolean) Bd.returns (by simp) (hb hby d33_95) hr
  · show ((_ : Option Value) = some (.int (0 : Int32)) ∧ Fr n0 _ ∧ T3.heap = h0)
    rw [e3]
    exact ⟨rfl, N0, rfl⟩
set_option maxRecDepth 65536 in
set_option maxHeartbeats 40000000 in
theorem rm33_5 (l : Launch) (Z : State) (a0 : Array Value) (hw : own_HW Z a0) (ws : List Jvm.Cond) {nA : Nat} {A : Nat → Addr} {F : Nat → Value} {V : Nat → List Value} (ob : Addr) (va : Int32) (vk : Int64) (vb : Int32) (vkb : Int64) (h0 : Heap) (n0 : Nat) (P : own_PS Z h0 n0 ob nA A F V) (hA : 13 ≤ nA) (hB : nA ≤ 14) (hM : nA = 14) (hF19 : F 19 = (.int (1 : Int32))) (hV12_3 : (V 12).getD 3 (own_aZ 12) = (.int (va + vb))) (hV12_2 : (V 12).getD 2 (own_aZ 12) = (.int va)) (hV13_3 : (V 13).getD 3 (own_aZ 13) = (.long (vk + vkb))) (hV13_2 : (V 13).getD 2 (own_aZ 13) = (.long vk)) (hs1 : (va + vb) = va) (hs2 : ¬ (vk + vkb) = vk) :
    own_C l Z own_y40 bc33 2 (some .boolean) ws 0 0 #[(.ref ob), (.int (3 : Int32))] h0 (fun v h L => (v = some (.int (0 : Int32)) ∧ Fr n0 L ∧ h = h0)) := by
  refine MetFree.of_bodySF (plainFor_of_name own_pn2) hisR ?_
  intro p e s m args below meth c s₁ Bd hml0 hP hK
  obtain ⟨rfl, hZ, hh⟩ := hP
  have hx := Bd.exec
  have hby := Bd.bytes
  have hml : c.maxLocals = 2 := hml0
  have hown : s.vm.findClass "com/example/jobwright/jobwright/policies/ProfileSteps" = some m.cls := findClass_of_methodNamed Bd.named
  have X0 : Stand p l e ({ frames := 0, cells := 0, slots := 0, locals := 0 } : Room) s m #[(.ref ob), (.int (3 : Int32))] below meth c s₁ [] 0 0 := Stand.of_body Bd
  have e0 : s₁.heap = h0 := by rw [← hh, Bd.state]; rfl
  have N0 := Fr.nil n0
  have ef : entryFrame m #[(.ref ob), (.int (3 : Int32))] 2 = mkF m 0 #[.val (.ref ob), .val (.int (3 : Int32))] [] := by first | (simp [entryFrame, mkF, argsToLocals, Value.category]; done) | rfl
  obtain ⟨T1, X1, e1, st1⟩ := own_gf X0 hx hZ hown e0 P 19 (own_w hw 54) (v := (.int (1 : Int32))) hF19 (hb hby d33_3) #[.val (.ref ob), .val (.int (3 : Int32))] [(.int (3 : Int32)), (.int (3 : Int32))]
  obtain ⟨T2, X2, e2, st2⟩ := own_gf X1 hx hZ hown e1 P 19 (own_w hw 54) (v := (.int (1 : Int32))) hF19 (hb hby d33_8) #[.val (.ref ob), .val (.int (3 : Int32))] [(.int (1 : Int32)), (.int (3 : Int32))]
  obtain ⟨T3, X3, e3, st3⟩ := own_gf X2 hx hZ hown e2 P 12 (own_w hw 94) (v := (.ref (A 12))) (P.2.2.2.1 12 (by omega)) (hb hby d33_16) #[.val (.ref ob), .val (.int (3 : Int32))] []
  obtain ⟨T4, X4, e4, st4⟩ := own_gf X3 hx hZ hown e3 P 12 (own_w hw 94) (v := (.ref (A 12))) (P.2.2.2.1 12 (by omega)) (hb hby d33_22) #[.val (.ref ob), .val (.int (3 : Int32))] [(.int (va + vb))]
  obtain ⟨T5, X5, e5, st5⟩ := own_gf X4 hx hZ hown e4 P 13 (own_w hw 96) (v := (.ref (A 13))) (P.2.2.2.1 13 (by omega)) (hb hby d33_33) #[.val (.ref ob), .val (.int (3 : Int32))] []
  obtain ⟨T6, X6, e6, st6⟩ := own_gf X5 hx hZ hown e5 P 13 (own_w hw 96) (v := (.ref (A 13))) (P.2.2.2.1 13 (by omega)) (hb hby d33_40) #[.val (.ref ob), .val (.int (3 : Int32))] []
  obtain ⟨T7, X7, e7, st7⟩ := own_gf X6 hx hZ hown e6 P 13 (own_w hw 96) (v := (.ref (A 13))) (P.2.2.2.1 13 (by omega)) (hb hby d33_46) #[.val (.ref ob), .val (.int (3 : Int32))] [(.long (vk + vkb))]
  obtain ⟨fs, hr, hrun, hended, hW, hsame⟩ := X7.leave (v := some (.int (0 : Int32))) (fun h => by rw [Bd.returns] at h; cases h)
  refine ⟨_, _, castTop ef ?_, hrun, hended, _, _, rfl, ?_, ⟨_, rfl⟩, hW, hsame.mono (by decide) (by decide)⟩
  · refine s_iloadN X0 hx (hb hby d33_0) rfl ?_
    refine s_iloadN X0 hx (hb hby d33_1) rfl ?_
    refine s_aloadN X0 hx (hb hby d33_2) rfl rfl ?_
    refine st1 _ ?_
    refine s_ishr X1 hx (1 : Int32) (hb hby d33_6) (by decide) ?_
    refine s_aloadN X1 hx (hb hby d33_7) rfl rfl ?_
    refine st2 _ ?_
    refine s_ishl X2 hx (2 : Int32) (hb hby d33_11) (by decide) ?_
    refine s_icmpN X2 hx (hb hby d33_12) (by decide) ?_
    refine s_aloadN X2 hx (hb hby d33_15) rfl rfl ?_
    refine st3 _ ?_
    refine s_iloadN X3 hx (hb hby d33_19) rfl ?_
    refine own_ial X3 hx hZ e3 P 12 3 (v := (.int (va + vb))) hV12_3 (hb hby d33_20) (by omega) ?_
    refine s_aloadN X3 hx (hb hby d33_21) rfl rfl ?_
    refine st4 _ ?_
    refine s_iloadN X4 hx (hb hby d33_25) rfl ?_
    refine s_iconst X4 hx (1 : Int32) (hb hby d33_26) rfl ?_
    refine s_isub X4 hx (2 : Int32) (hb hby d33_27) (by decide) ?_
    refine own_ial X4 hx hZ e4 P 12 2 (v := (.int va)) hV12_2 (hb hby d33_28) (by omega) ?_
    refine s_icmpN X4 hx (hb hby d33_29) (teq hs1).2 ?_
    refine s_aloadN X4 hx (hb hby d33_32) rfl rfl ?_
    refine st5 _ ?_
    refine s_nullN X5 hx (hb hby d33_36) ?_
    refine s_aloadN X5 hx (hb hby d33_39) rfl rfl ?_
    refine st6 _ ?_
    refine s_iloadN X6 hx (hb hby d33_43) rfl ?_
    refine own_lal X6 hx hZ e6 P 13 3 (v := (.long (vk + vkb))) hV13_3 (hb hby d33_44) (by omega) ?_
    refine s_aloadN X6 hx (hb hby d33_45) rfl rfl ?_
    refine st7 _ ?_
    refine s_iloadN X7 hx (hb hby d33_49) rfl ?_
    refine s_iconst X7 hx (1 : Int32) (hb hby d33_50) rfl ?_
    refine s_isub X7 hx (2 : Int32) (hb hby d33_51) (by decide) ?_
    refine own_lal X7 hx hZ e7 P 13 2 (v := (.long vk)) hV13_2 (hb hby d33_52) (by omega) ?_
    refine s_lcmp X7 hx (lcmpW (vk + vkb) vk) (hb hby d33_53) rfl ?_
    refine s_ifY X7 hx 61 (hb hby d33_54) ((if0 _ _).trans (feq (mt own_leq.mp hs2)).2) (by decide) (by decide) ?_
    refine s_iconst X7 hx (0 : Int32) (hb hby d33_61) rfl ?_
    exact retN X7 hx (t := .boolean) Bd.returns (by simp) (hb hby d33_62) hr
  · show ((_ : Option Value) = some (.int (0 : Int32)) ∧ Fr n0 _ ∧ T7.heap = h0)
    rw [e7]
    exact ⟨rfl, N0, rfl⟩
set_option maxRecDepth 65536 in
set_option maxHeartbeats 40000000 in
theorem rm33_6 (l : Launch) (Z : State) (a0 : Array Value) (hw : own_HW Z a0) (ws : List Jvm.Cond) {nA : Nat} {A : Nat → Addr} {F : Nat → Value} {V : Nat → List Value} (ob : Addr) (va : Int32) (vb : Int32) (h0 : Heap) (n0 : Nat) (P : own_PS Z h0 n0 ob nA A F V) (hA : 13 ≤ nA) (hB : nA ≤ 14) (hF19 : F 19 = (.int (1 : Int32))) (hV12_3 : (V 12).getD 3 (own_aZ 12) = (.int (va + vb))) (hV12_2 : (V 12).getD 2 (own_aZ 12) = (.int va)) (hs1 : ¬ (va + vb) = va) :
    own_C l Z own_y40 bc33 2 (some .boolean) ws 0 0 #[(.ref ob), (.int (3 : Int32))] h0 (fun v h L => (v = some (.int (0 : Int32)) ∧ Fr n0 L ∧ h = h0)) := by
  refine MetFree.of_bodySF (plainFor_of_name own_pn2) hisR ?_
  intro p e s m args below meth c s₁ Bd hml0 hP hK
  obtain ⟨rfl, hZ, hh⟩ := hP
  have hx := Bd.exec
  have hby := Bd.bytes
  have hml : c.maxLocals = 2 := hml0
  have hown : s.vm.findClass "com/example/jobwright/jobwright/policies/ProfileSteps" = some m.cls := findClass_of_methodNamed Bd.named
  have X0 : Stand p l e ({ frames := 0, cells := 0, slots := 0, locals := 0 } : Room) s m #[(.ref ob), (.int (3 : Int32))] below meth c s₁ [] 0 0 := Stand.of_body Bd
  have e0 : s₁.heap = h0 := by rw [← hh, Bd.state]; rfl
  have N0 := Fr.nil n0
  have ef : entryFrame m #[(.ref ob), (.int (3 : Int32))] 2 = mkF m 0 #[.val (.ref ob), .val (.int (3 : Int32))] [] := by first | (simp [entryFrame, mkF, argsToLocals, Value.category]; done) | rfl
  obtain ⟨T1, X1, e1, st1⟩ := own_gf X0 hx hZ hown e0 P 19 (own_w hw 54) (v := (.int (1 : Int32))) hF19 (hb hby d33_3) #[.val (.ref ob), .val (.int (3 : Int32))] [(.int (3 : Int32)), (.int (3 : Int32))]
  obtain ⟨T2, X2, e2, st2⟩ := own_gf X1 hx hZ hown e1 P 19 (own_w hw 54) (v := (.int (1 : Int32))) hF19 (hb hby d33_8) #[.val (.ref ob), .val (.int (3 : Int32))] [(.int (1 : Int32)), (.int (3 : Int32))]
  obtain ⟨T3, X3, e3, st3⟩ := own_gf X2 hx hZ hown e2 P 12 (own_w hw 94) (v := (.ref (A 12))) (P.2.2.2.1 12 (by omega)) (hb hby d33_16) #[.val (.ref ob), .val (.int (3 : Int32))] []
  obtain ⟨T4, X4, e4, st4⟩ := own_gf X3 hx hZ hown e3 P 12 (own_w hw 94) (v := (.ref (A 12))) (P.2.2.2.1 12 (by omega)) (hb hby d33_22) #[.val (.ref ob), .val (.int (3 : Int32))] [(.int (va + vb))]
  obtain ⟨fs, hr, hrun, hended, hW, hsame⟩ := X4.leave (v := some (.int (0 : Int32))) (fun h => by rw [Bd.returns] at h; cases h)
  refine ⟨_, _, castTop ef ?_, hrun, hended, _, _, rfl, ?_, ⟨_, rfl⟩, hW, hsame.mono (by decide) (by decide)⟩
  · refine s_iloadN X0 hx (hb hby d33_0) rfl ?_
    refine s_iloadN X0 hx (hb hby d33_1) rfl ?_
    refine s_aloadN X0 hx (hb hby d33_2) rfl rfl ?_
    refine st1 _ ?_
    refine s_ishr X1 hx (1 : Int32) (hb hby d33_6) (by decide) ?_
    refine s_aloadN X1 hx (hb hby d33_7) rfl rfl ?_
    refine st2 _ ?_
    refine s_ishl X2 hx (2 : Int32) (hb hby d33_11) (by decide) ?_
    refine s_icmpN X2 hx (hb hby d33_12) (by decide) ?_
    refine s_aloadN X2 hx (hb hby d33_15) rfl rfl ?_
    refine st3 _ ?_
    refine s_iloadN X3 hx (hb hby d33_19) rfl ?_
    refine own_ial X3 hx hZ e3 P 12 3 (v := (.int (va + vb))) hV12_3 (hb hby d33_20) (by omega) ?_
    refine s_aloadN X3 hx (hb hby d33_21) rfl rfl ?_
    refine st4 _ ?_
    refine s_iloadN X4 hx (hb hby d33_25) rfl ?_
    refine s_iconst X4 hx (1 : Int32) (hb hby d33_26) rfl ?_
    refine s_isub X4 hx (2 : Int32) (hb hby d33_27) (by decide) ?_
    refine own_ial X4 hx hZ e4 P 12 2 (v := (.int va)) hV12_2 (hb hby d33_28) (by omega) ?_
    refine s_icmpY X4 hx 61 (hb hby d33_29) (feq hs1).2 (by decide) (by decide) ?_
    refine s_iconst X4 hx (0 : Int32) (hb hby d33_61) rfl ?_
    exact retN X4 hx (t := .boolean) Bd.returns (by simp) (hb hby d33_62) hr
  · show ((_ : Option Value) = some (.int (0 : Int32)) ∧ Fr n0 _ ∧ T4.heap = h0)
    rw [e4]
    exact ⟨rfl, N0, rfl⟩
set_option maxRecDepth 65536 in
set_option maxHeartbeats 40000000 in
theorem rm17_4 (l : Launch) (Z : State) (a0 : Array Value) (hw : own_HW Z a0) (ws : List Jvm.Cond) {nA : Nat} {A : Nat → Addr} {F : Nat → Value} {V : Nat → List Value} (ob : Addr)  (h0 : Heap) (n0 : Nat) (P : own_PS Z h0 n0 ob nA A F V) (hA : 13 ≤ nA) (hB : nA ≤ 14) (hF13 : F 13 = .null) :
    own_C l Z own_y18 bc17 2 (some .long) ws 0 0 #[(.ref ob), (.int (1 : Int32))] h0 (fun v h L => (v = some (.long (0 : Int64)) ∧ Fr n0 L ∧ h = h0)) := by
  refine MetFree.of_bodySF (plainFor_of_name own_pn2) hisR ?_
  intro p e s m args below meth c s₁ Bd hml0 hP hK
  obtain ⟨rfl, hZ, hh⟩ := hP
  have hx := Bd.exec
  have hby := Bd.bytes
  have hml : c.maxLocals = 2 := hml0
  have hown : s.vm.findClass "com/example/jobwright/jobwright/policies/ProfileSteps" = some m.cls := findClass_of_methodNamed Bd.named
  have X0 : Stand p l e ({ frames := 0, cells := 0, slots := 0, locals := 0 } : Room) s m #[(.ref ob), (.int (1 : Int32))] below meth c s₁ [] 0 0 := Stand.of_body Bd
  have e0 : s₁.heap = h0 := by rw [← hh, Bd.state]; rfl
  have N0 := Fr.nil n0
  have ef : entryFrame m #[(.ref ob), (.int (1 : Int32))] 2 = mkF m 0 #[.val (.ref ob), .val (.int (1 : Int32))] [] := by first | (simp [entryFrame, mkF, argsToLocals, Value.category]; done) | rfl
  obtain ⟨T1, X1, e1, st1⟩ := own_gf X0 hx hZ hown e0 P 13 (own_w hw 96) (v := .null) hF13 (hb hby d17_1) #[.val (.ref ob), .val (.int (1 : Int32))] []
  obtain ⟨fs, hr, hrun, hended, hW, hsame⟩ := X1.leave (v := some (.long (0 : Int64))) (fun h => by rw [Bd.returns] at h; cases h)
  refine ⟨_, _, castTop ef ?_, hrun, hended, _, _, rfl, ?_, ⟨_, rfl⟩, hW, hsame.mono (by decide) (by decide)⟩
  · refine s_aloadN X0 hx (hb hby d17_0) rfl rfl ?_
    refine st1 _ ?_
    refine s_nnullN X1 hx (hb hby d17_4) ?_
    refine s_lconst X1 hx (0 : Int64) (hb hby d17_7) ?_ (by decide)
    refine s_goto X1 hx 31 (hb hby d17_8) (by decide) (by decide) ?_
    exact retOut X1 hx Bd.returns rfl (Or.inr (Or.inl ⟨rfl, rfl, _, rfl⟩)) (hb hby d17_31) hr
  · show ((_ : Option Value) = some (.long (0 : Int64)) ∧ Fr n0 _ ∧ T1.heap = h0)
    rw [e1]
    exact ⟨rfl, N0, rfl⟩
set_option maxRecDepth 65536 in
set_option maxHeartbeats 40000000 in
theorem rm13_4 (l : Launch) (Z : State) (a0 : Array Value) (hw : own_HW Z a0) (ws : List Jvm.Cond) {nA : Nat} {A : Nat → Addr} {F : Nat → Value} {V : Nat → List Value} (ob : Addr) (va : Int32) (h0 : Heap) (n0 : Nat) (P : own_PS Z h0 n0 ob nA A F V) (hA : 13 ≤ nA) (hB : nA ≤ 14) (hF19 : F 19 = (.int (1 : Int32))) (hF13 : F 13 = .null) (hV0_4 : (V 0).getD 4 (own_aZ 0) = (.int (0 : Int32))) (hV0_5 : (V 0).getD 5 (own_aZ 0) = (.int (0 : Int32))) (hV5_0 : (V 5).getD 0 (own_aZ 5) = (.int (0 : Int32))) (hV1_1 : (V 1).getD 1 (own_aZ 1) = (.int (1 : Int32))) (hV12_2 : (V 12).getD 2 (own_aZ 12) = (.int va)) (hV6_0 : (V 6).getD 0 (own_aZ 6) = (.long (0 : Int64))) :
    own_C l Z own_y20 bc13 4 (some .boolean) ws 1 17 #[(.ref ob), (.int (1 : Int32))] h0 (fun v h L => (v = some (.int (1 : Int32)) ∧ Fr n0 L ∧ own_PS Z h n0 ob nA A F (own_vs (own_vs (own_vs (own_vs (own_vs V 5 1 (.int (((0 : Int32) + va) + (0 : Int32)))) 6 1 (.long (0 : Int64))) 4 1 (.int (1 : Int32))) 8 1 (.int (1 : Int32))) 10 1 (.int (1 : Int32))))) := by
  refine MetFree.of_bodySF (plainFor_of_name own_pn2) hisR ?_
  intro p e s m args below meth c s₁ Bd hml0 hP hK
  obtain ⟨rfl, hZ, hh⟩ := hP
  have hx := Bd.exec
  have hby := Bd.bytes
  have hml : c.maxLocals = 4 := hml0
  have hown : s.vm.findClass "com/example/jobwright/jobwright/policies/ProfileSteps" = some m.cls := findClass_of_methodNamed Bd.named
  have X0 : Stand p l e ({ frames := 1, cells := 0, slots := 0, locals := 17 } : Room) s m #[(.ref ob), (.int (1 : Int32))] below meth c s₁ [] 0 0 := Stand.of_body Bd
  have e0 : s₁.heap = h0 := by rw [← hh, Bd.state]; rfl
  have N0 := Fr.nil n0
  have ef : entryFrame m #[(.ref ob), (.int (1 : Int32))] 4 = mkF m 0 #[.val (.ref ob), .val (.int (1 : Int32)), .unset, .unset] [] := by first | (simp [entryFrame, mkF, argsToLocals, Value.category]; done) | rfl
  obtain ⟨cq1, kq1, q1a, q1b, q1c⟩ := isOf hZ e0 P.1
  obtain ⟨_, _, ⟨T1, L1, k1, n1⟩, -, X1, ⟨Lc1, hQ1, l1, y1, z1⟩, st1⟩ := X0.virtualBackUp hx (x := own_y14) (y := own_y13) (owner := "com/example/jobwright/jobwright/policies/Treap") hown (mvT hZ (own_w hw 159)) (mvT hZ (own_w hw 160)) (mvT hZ (own_w hw 161)) (by decide) (mvT hZ (own_w hw 163)) (mvT hZ (own_w hw 162)) (backOf (W := 0) (rm14_1 l Z a0 hw [] ob  h0 n0 P hA hB  hV0_4 ) hZ (own_w hw 164) (own_w hw 9) (by decide) (by decide)) q1a q1c (g := (mkF m 2 #[.val (.ref ob), .val (.int (1 : Int32)), .unset, .unset] [(.int (1 : Int32)), (.ref ob)])) rfl (by rw [hml]; rfl) (Steps.refl _) (argsL := [(.int (1 : Int32))]) (rest := []) (lenOf own_pd5 rfl) rfl (by show 2 * 0 + _ ≤ _; exact Nat.le_of_eq rfl) (hb hby d13_2) (fun _ _ => ⟨rfl, e0, (by decide : 0 + 0 ≤ _), (by decide : 0 + 0 ≤ _)⟩)
  dsimp only [Pt.U, Pt.locs, Pt.cells, Pt.slots] at X1 l1 y1 z1 st1 hQ1
  subst l1 y1 z1
  obtain ⟨rfl, Nq1, eh1⟩ := hQ1
  have N1 := Fr.app N0 Nq1
  obtain ⟨cq2, kq2, q2a, q2b, q2c⟩ := isOf hZ eh1 P.1
  obtain ⟨_, _, ⟨T2, L2, k2, n2⟩, -, X2, ⟨Lc2, hQ2, l2, y2, z2⟩, st2⟩ := X1.virtualBackUp hx (x := own_y15) (y := own_y4) (owner := "com/example/jobwright/jobwright/policies/Treap") hown (mvT hZ (own_w hw 165)) (mvT hZ (own_w hw 166)) (mvT hZ (own_w hw 167)) (by decide) (mvT hZ (own_w hw 169)) (mvT hZ (own_w hw 168)) (backOf (W := 0) (rm15_1 l Z a0 hw [] ob  h0 n0 P hA hB  hV0_5 ) hZ (own_w hw 170) (own_w hw 9) (by decide) (by decide)) q2a q2c (g := (mkF m 8 #[.val (.ref ob), .val (.int (1 : Int32)), .val (.int (0 : Int32)), .unset] [(.int (1 : Int32)), (.ref ob)])) rfl (by rw [hml]; rfl) (Steps.refl _) (argsL := [(.int (1 : Int32))]) (rest := []) (lenOf own_pd5 rfl) rfl (by show 2 * 0 + _ ≤ _; exact Nat.le_of_eq rfl) (hb hby d13_8) (fun _ _ => ⟨rfl, eh1, (by decide : 0 + 0 ≤ _), (by decide : 0 + 0 ≤ _)⟩)
  dsimp only [Pt.U, Pt.locs, Pt.cells, Pt.slots] at X2 l2 y2 z2 st2 hQ2
  subst l2 y2 z2
  obtain ⟨rfl, Nq2, eh2⟩ := hQ2
  have N2 := Fr.app N1 Nq2
  obtain ⟨T3, X3, e3, st3⟩ := own_gf X2 hx hZ hown eh2 P 5 (own_w hw 66) (v := (.ref (A 5))) (P.2.2.2.1 5 (by omega)) (hb hby d13_13) #[.val (.ref ob), .val (.int (1 : Int32)), .val (.int (0 : Int32)), .val (.int (0 : Int32))] []
  obtain ⟨T4, X4, e4, st4⟩ := own_gf X3 hx hZ hown e3 P 5 (own_w hw 66) (v := (.ref (A 5))) (P.2.2.2.1 5 (by omega)) (hb hby d13_18) #[.val (.ref ob), .val (.int (1 : Int32)), .val (.int (0 : Int32)), .val (.int (0 : Int32))] [(.int (1 : Int32)), (.ref (A 5))]
  obtain ⟨cq5, q5, q5'⟩ := P.1.cell
  obtain ⟨_, _, ⟨T5, L5, k5, n5⟩, -, X5, ⟨Lc5, hQ5, l5, y5, z5⟩, st5⟩ := X4.privateBack hx (y := own_y16) hown (mvT hZ (own_w hw 171)) (mvT hZ (own_w hw 172)) (own_psel (z := own_y17) (mvT hZ (own_w hw 103)) (mvP hZ (own_w hw 173)) (mvT hZ (own_w hw 172)) rfl (by decide)) (Cond.privateMethod_at (mvP hZ (own_w hw 173) (args := #[]))) (mvT hZ (own_w hw 174)) (by decide) (backOf (W := 3) (rm16_1 l Z a0 hw [] ob va h0 n0 P hA hB hF19 hV1_1 hV12_2 ) hZ (own_w hw 174) (own_w hw 2) (by decide) (by decide)) (g := (mkF m 25 #[.val (.ref ob), .val (.int (1 : Int32)), .val (.int (0 : Int32)), .val (.int (0 : Int32))] [(.int (1 : Int32)), (.ref ob), (.int (0 : Int32)), (.int (1 : Int32)), (.ref (A 5))])) rfl (by rw [hml]; rfl) (Steps.refl _) (a := ob) (by rw [e4]; exact q5) q5' (argsL := [(.int (1 : Int32))]) (rest := [(.int (0 : Int32)), (.int (1 : Int32)), (.ref (A 5))]) (lenOf own_pd5 rfl) rfl (by show 2 * 0 + _ ≤ _; exact Nat.le_of_eq rfl) (hb hby d13_25) (fun _ _ => ⟨rfl, e4, (by decide : 0 + 0 ≤ _), (by decide : 0 + 0 ≤ _)⟩)
  dsimp only [Pt.U, Pt.locs, Pt.cells, Pt.slots] at X5 l5 y5 z5 st5 hQ5
  subst l5 y5 z5
  obtain ⟨rfl, Nq5, eh5⟩ := hQ5
  have N5 := Fr.app N2 Nq5
  obtain ⟨T6, X6, e6, st6⟩ := own_gf X5 hx hZ hown eh5 P 5 (own_w hw 66) (v := (.ref (A 5))) (P.2.2.2.1 5 (by omega)) (hb hby d13_30) #[.val (.ref ob), .val (.int (1 : Int32)), .val (.int (0 : Int32)), .val (.int (0 : Int32))] [(.int ((0 : Int32) + va)), (.int (1 : Int32)), (.ref (A 5))]
  obtain ⟨T7, h7, l7, X7, e7, N7, P7, st7⟩ := own_ist X6 hx hZ e6 N5 P 5 1 (j := (1 : Int32)) (x := (((0 : Int32) + va) + (0 : Int32))) (hb hby d13_36) #[.val (.ref ob), .val (.int (1 : Int32)), .val (.int (0 : Int32)), .val (.int (0 : Int32))] [] (by omega)
  obtain ⟨T8, X8, e8, st8⟩ := own_gf X7 hx hZ hown e7 P7 6 (own_w hw 68) (v := (.ref (A 6))) (P7.2.2.2.1 6 (by omega)) (hb hby d13_38) #[.val (.ref ob), .val (.int (1 : Int32)), .val (.int (0 : Int32)), .val (.int (0 : Int32))] []
  obtain ⟨T9, X9, e9, st9⟩ := own_gf X8 hx hZ hown e8 P7 6 (own_w hw 68) (v := (.ref (A 6))) (P7.2.2.2.1 6 (by omega)) (hb hby d13_43) #[.val (.ref ob), .val (.int (1 : Int32)), .val (.int (0 : Int32)), .val (.int (0 : Int32))] [(.int (1 : Int32)), (.ref (A 6))]
  obtain ⟨cq10, q10, q10'⟩ := P7.1.cell
  obtain ⟨_, _, ⟨T10, L10, k10, n10⟩, -, X10, ⟨Lc10, hQ10, l10, y10, z10⟩, st10⟩ := X9.privateBack hx (y := own_y18) hown (mvT hZ (own_w hw 175)) (mvT hZ (own_w hw 176)) (own_psel (z := own_y17) (mvT hZ (own_w hw 103)) (mvP hZ (own_w hw 177)) (mvT hZ (own_w hw 176)) rfl (by decide)) (Cond.privateMethod_at (mvP hZ (own_w hw 177) (args := #[]))) (mvT hZ (own_w hw 178)) (by decide) (backOf (W := 4) (rm17_4 l Z a0 hw [] ob  h7 n0 P7 hA hB hF13  ) hZ (own_w hw 178) (own_w hw 2) (by decide) (by decide)) (g := (mkF m 50 #[.val (.ref ob), .val (.int (1 : Int32)), .val (.int (0 : Int32)), .val (.int (0 : Int32))] [(.int (1 : Int32)), (.ref ob), (.long (0 : Int64)), (.int (1 : Int32)), (.ref (A 6))])) rfl (by rw [hml]; rfl) (Steps.refl _) (a := ob) (by rw [e9]; exact q10) q10' (argsL := [(.int (1 : Int32))]) (rest := [(.long (0 : Int64)), (.int (1 : Int32)), (.ref (A 6))]) (lenOf own_pd6 rfl) rfl (by show 2 * 0 + _ ≤ _; exact Nat.le_of_eq rfl) (hb hby d13_50) (fun _ _ => ⟨rfl, e9, (by decide : 0 + 0 ≤ _), (by decide : 0 + 0 ≤ _)⟩)
  dsimp only [Pt.U, Pt.locs, Pt.cells, Pt.slots] at X10 l10 y10 z10 st10 hQ10
  subst l10 y10 z10
  obtain ⟨rfl, Nq10, eh10⟩ := hQ10
  have N10 := Fr.app N7 Nq10
  obtain ⟨T11, X11, e11, st11⟩ := own_gf X10 hx hZ hown eh10 P7 6 (own_w hw 68) (v := (.ref (A 6))) (P7.2.2.2.1 6 (by omega)) (hb hby d13_55) #[.val (.ref ob), .val (.int (1 : Int32)), .val (.int (0 : Int32)), .val (.int (0 : Int32))] [(.long (0 : Int64)), (.int (1 : Int32)), (.ref (A 6))]
  obtain ⟨T12, h12, l12, X12, e12, N12, P12, st12⟩ := own_lst X11 hx hZ e11 N10 P7 6 1 (j := (1 : Int32)) (x := (0 : Int64)) (hb hby d13_61) #[.val (.ref ob), .val (.int (1 : Int32)), .val (.int (0 : Int32)), .val (.int (0 : Int32))] [] (by omega)
  obtain ⟨T13, X13, e13, st13⟩ := own_gf X12 hx hZ hown e12 P12 4 (own_w hw 64) (v := (.ref (A 4))) (P12.2.2.2.1 4 (by omega)) (hb hby d13_63) #[.val (.ref ob), .val (.int (1 : Int32)), .val (.int (0 : Int32)), .val (.int (0 : Int32))] []
  obtain ⟨T14, h14, l14, X14, e14, N14, P14, st14⟩ := own_ist X13 hx hZ e13 N12 P12 4 1 (j := (1 : Int32)) (x := (1 : Int32)) (hb hby d13_81) #[.val (.ref ob), .val (.int (1 : Int32)), .val (.int (0 : Int32)), .val (.int (0 : Int32))] [] (by omega)
  obtain ⟨cq15, q15, q15'⟩ := P14.1.cell
  obtain ⟨_, _, ⟨T15, L15, k15, n15⟩, -, X15, ⟨Lc15, hQ15, l15, y15, z15⟩, st15⟩ := X14.privateBack hx (y := own_y19) hown (mvT hZ (own_w hw 179)) (mvT hZ (own_w hw 180)) (own_psel (z := own_y17) (mvT hZ (own_w hw 103)) (mvP hZ (own_w hw 181)) (mvT hZ (own_w hw 180)) rfl (by decide)) (Cond.privateMethod_at (mvP hZ (own_w hw 181) (args := #[]))) (mvT hZ (own_w hw 182)) (by decide) (backOf (W := 0) (rm18_1 l Z a0 hw [] ob  h14 n0 P14 hA hB   ) hZ (own_w hw 182) (own_w hw 2) (by decide) (by decide)) (g := (mkF m 84 #[.val (.ref ob), .val (.int (1 : Int32)), .val (.int (0 : Int32)), .val (.int (0 : Int32))] [(.int (1 : Int32)), (.ref ob)])) rfl (by rw [hml]; rfl) (Steps.refl _) (a := ob) (by rw [e14]; exact q15) q15' (argsL := [(.int (1 : Int32))]) (rest := []) (lenOf own_pd0 rfl) rfl (by show 2 * 0 + _ ≤ _; exact Nat.le_of_eq rfl) (hb hby d13_84) (fun _ _ => ⟨rfl, e14, (by decide : 0 + 0 ≤ _), (by decide : 0 + 0 ≤ _)⟩)
  dsimp only [Pt.U, Pt.locs, Pt.cells, Pt.slots] at X15 l15 y15 z15 st15 hQ15
  subst l15 y15 z15
  obtain ⟨rfl, Nq15, P15⟩ := hQ15
  have N15 := Fr.app N14 Nq15
  obtain ⟨fs, hr, hrun, hended, hW, hsame⟩ := X15.leave (v := some (.int (1 : Int32))) (fun h => by rw [Bd.returns] at h; cases h)
  refine ⟨_, _, castTop ef ?_, hrun, hended, _, _, rfl, ?_, ⟨_, rfl⟩, hW, hsame.mono (by decide) (by decide)⟩
  · refine s_aloadN X0 hx (hb hby d13_0) rfl rfl ?_
    refine s_iloadN X0 hx (hb hby d13_1) rfl ?_
    refine st1.trans ?_
    refine s_istoreN X1 hx #[.val (.ref ob), .val (.int (1 : Int32)), .val (.int (0 : Int32)), .unset] (hb hby d13_5) rfl ?_
    refine s_aloadN X1 hx (hb hby d13_6) rfl rfl ?_
    refine s_iloadN X1 hx (hb hby d13_7) rfl ?_
    refine st2.trans ?_
    refine s_istoreN X2 hx #[.val (.ref ob), .val (.int (1 : Int32)), .val (.int (0 : Int32)), .val (.int (0 : Int32))] (hb hby d13_11) rfl ?_
    refine s_aloadN X2 hx (hb hby d13_12) rfl rfl ?_
    refine st3 _ ?_
    refine s_iloadN X3 hx (hb hby d13_16) rfl ?_
    refine s_aloadN X3 hx (hb hby d13_17) rfl rfl ?_
    refine st4 _ ?_
    refine s_iloadN X4 hx (hb hby d13_21) rfl ?_
    refine own_ial X4 hx hZ e4 P 5 0 (v := (.int (0 : Int32))) hV5_0 (hb hby d13_22) (by omega) ?_
    refine s_aloadN X4 hx (hb hby d13_23) rfl rfl ?_
    refine s_iloadN X4 hx (hb hby d13_24) rfl ?_
    refine st5.trans ?_
    refine s_iadd X5 hx ((0 : Int32) + va) (hb hby d13_28) rfl ?_
    refine s_aloadN X5 hx (hb hby d13_29) rfl rfl ?_
    refine st6 _ ?_
    refine s_iloadN X6 hx (hb hby d13_33) rfl ?_
    refine own_ial X6 hx hZ e6 P 5 0 (v := (.int (0 : Int32))) hV5_0 (hb hby d13_34) (by omega) ?_
    refine s_iadd X6 hx (((0 : Int32) + va) + (0 : Int32)) (hb hby d13_35) rfl ?_
    refine st7 _ ?_
    refine s_aloadN X7 hx (hb hby d13_37) rfl rfl ?_
    refine st8 _ ?_
    refine s_iloadN X8 hx (hb hby d13_41) rfl ?_
    refine s_aloadN X8 hx (hb hby d13_42) rfl rfl ?_
    refine st9 _ ?_
    refine s_iloadN X9 hx (hb hby d13_46) rfl ?_
    refine own_lal X9 hx hZ e9 P7 6 0 (v := (.long (0 : Int64))) (own_vn hV6_0) (hb hby d13_47) (by omega) ?_
    refine s_aloadN X9 hx (hb hby d13_48) rfl rfl ?_
    refine s_iloadN X9 hx (hb hby d13_49) rfl ?_
    refine st10.trans ?_
    refine s_ladd X10 hx (0 : Int64) (hb hby d13_53) (by decide) ?_
    refine s_aloadN X10 hx (hb hby d13_54) rfl rfl ?_
    refine st11 _ ?_
    refine s_iloadN X11 hx (hb hby d13_58) rfl ?_
    refine own_lal X11 hx hZ e11 P7 6 0 (v := (.long (0 : Int64))) (own_vn hV6_0) (hb hby d13_59) (by omega) ?_
    refine s_ladd X11 hx (0 : Int64) (hb hby d13_60) (by decide) ?_
    refine st12 _ ?_
    refine s_aloadN X12 hx (hb hby d13_62) rfl rfl ?_
    refine st13 _ ?_
    refine s_iloadN X13 hx (hb hby d13_66) rfl ?_
    refine s_iloadN X13 hx (hb hby d13_67) rfl ?_
    refine s_ifN X13 hx (hb hby d13_68) (by decide) ?_
    refine s_iloadN X13 hx (hb hby d13_71) rfl ?_
    refine s_goto X13 hx 81 (hb hby d13_72) (by decide) (by decide) ?_
    refine st14 _ ?_
    refine s_aloadN X14 hx (hb hby d13_82) rfl rfl ?_
    refine s_iloadN X14 hx (hb hby d13_83) rfl ?_
    refine st15.trans ?_
    refine s_iconst X15 hx (1 : Int32) (hb hby d13_87) rfl ?_
    exact retN X15 hx (t := .boolean) Bd.returns (by simp) (hb hby d13_88) hr
  · show ((_ : Option Value) = some (.int (1 : Int32)) ∧ Fr n0 _ ∧ own_PS Z T15.heap n0 ob nA A F (own_vs (own_vs (own_vs (own_vs (own_vs V 5 1 (.int (((0 : Int32) + va) + (0 : Int32)))) 6 1 (.long (0 : Int64))) 4 1 (.int (1 : Int32))) 8 1 (.int (1 : Int32))) 10 1 (.int (1 : Int32))))
    exact ⟨rfl, N15, P15⟩
set_option maxRecDepth 65536 in
set_option maxHeartbeats 40000000 in
theorem rm12_3 (l : Launch) (Z : State) (a0 : Array Value) (hw : own_HW Z a0) (ws : List Jvm.Cond) {nA : Nat} {A : Nat → Addr} {F : Nat → Value} {V : Nat → List Value} (ob : Addr) (va : Int32) (h0 : Heap) (n0 : Nat) (P : own_PS Z h0 n0 ob nA A F V) (hA : 13 ≤ nA) (hB : nA ≤ 14) (hF19 : F 19 = (.int (1 : Int32))) (hF13 : F 13 = .null) (hF14 : F 14 = (.int (0 : Int32))) (hF15 : F 15 = (.int (0 : Int32))) (hV0_4 : (V 0).getD 4 (own_aZ 0) = (.int (0 : Int32))) (hV0_5 : (V 0).getD 5 (own_aZ 0) = (.int (0 : Int32))) (hV5_0 : (V 5).getD 0 (own_aZ 5) = (.int (0 : Int32))) (hV1_1 : (V 1).getD 1 (own_aZ 1) = (.int (1 : Int32))) (hV12_2 : (V 12).getD 2 (own_aZ 12) = (.int va)) (hV6_0 : (V 6).getD 0 (own_aZ 6) = (.long (0 : Int64))) :
    own_C l Z own_y23 bc12 2 none ws 2 32 #[(.ref ob), (.int (1 : Int32))] h0 (fun v h L => (v = none ∧ Fr n0 L ∧ own_PS Z h n0 ob nA A (own_up (own_up (own_up F 27 (.int (0 : Int32))) 14 (.int (1 : Int32))) 15 (.int (1 : Int32))) (own_vs (own_vs (own_vs (own_vs (own_vs V 5 1 (.int (((0 : Int32) + va) + (0 : Int32)))) 6 1 (.long (0 : Int64))) 4 1 (.int (1 : Int32))) 8 1 (.int (1 : Int32))) 10 1 (.int (1 : Int32))))) := by
  refine MetFree.of_bodySF (plainFor_of_name own_pn1) hisR ?_
  intro p e s m args below meth c s₁ Bd hml0 hP hK
  obtain ⟨rfl, hZ, hh⟩ := hP
  have hx := Bd.exec
  have hby := Bd.bytes
  have hml : c.maxLocals = 2 := hml0
  have hown : s.vm.findClass "com/example/jobwright/jobwright/policies/Treap" = some m.cls := findClass_of_methodNamed Bd.named
  have X0 : Stand p l e ({ frames := 2, cells := 0, slots := 0, locals := 32 } : Room) s m #[(.ref ob), (.int (1 : Int32))] below meth c s₁ [] 0 0 := Stand.of_body Bd
  have e0 : s₁.heap = h0 := by rw [← hh, Bd.state]; rfl
  have N0 := Fr.nil n0
  have ef : entryFrame m #[(.ref ob), (.int (1 : Int32))] 2 = mkF m 0 #[.val (.ref ob), .val (.int (1 : Int32))] [] := by first | (simp [entryFrame, mkF, argsToLocals, Value.category]; done) | rfl
  obtain ⟨cq1, kq1, q1a, q1b, q1c⟩ := isOf hZ e0 P.1
  obtain ⟨_, _, ⟨T1, L1, k1, n1⟩, -, X1, ⟨Lc1, hQ1, l1, y1, z1⟩, st1⟩ := X0.virtualBack hx (y := own_y21) (z := own_y20) hown (mvT hZ (own_w hw 154)) (mvT hZ (own_w hw 155)) (own_nf (args := #[]) (z := own_y4) (mvT hZ (own_w hw 224)) rfl) (mvT hZ (own_w hw 156)) (mvT hZ (own_w hw 157)) (by decide) (backOf (W := 0) (rm13_4 l Z a0 hw [] ob va h0 n0 P hA hB hF19 hF13 hV0_4 hV0_5 hV5_0 hV1_1 hV12_2 hV6_0 ) hZ (own_w hw 158) (own_w hw 2) (by decide) (by decide)) q1a q1c (g := (mkF m 2 #[.val (.ref ob), .val (.int (1 : Int32))] [(.int (1 : Int32)), (.ref ob)])) rfl (by rw [hml]; rfl) (Steps.refl _) (argsL := [(.int (1 : Int32))]) (rest := []) (lenOf own_pd7 rfl) rfl (by show 2 * 0 + _ ≤ _; exact Nat.le_of_eq rfl) (hb hby d12_2) (fun _ _ => ⟨rfl, e0, (by decide : 0 + 0 ≤ _), (by decide : 0 + 0 ≤ _)⟩)
  dsimp only [Pt.U, Pt.locs, Pt.cells, Pt.slots] at X1 l1 y1 z1 st1 hQ1
  subst l1 y1 z1
  obtain ⟨rfl, Nq1, P1⟩ := hQ1
  have N1 := Fr.app N0 Nq1
  obtain ⟨T2, h2, l2, X2, e2, N2, P2, st2⟩ := own_pp X1 hx hZ hw hown rfl N1 P1 27 (own_w hw 183) (Or.inl (own_w hw 184)) (v := (.int (0 : Int32))) (hb hby d12_8) #[.val (.ref ob), .val (.int (1 : Int32))] [] rfl rfl (by omega)
  obtain ⟨T3, X3, e3, st3⟩ := own_gf X2 hx hZ hown e2 P2 14 (own_w hw 14) (v := (.int (0 : Int32))) (own_fn hF14) (hb hby d12_14) #[.val (.ref ob), .val (.int (1 : Int32))] [(.ref ob), (.ref ob)]
  obtain ⟨cq4, q4, q4'⟩ := P2.1.cell
  obtain ⟨_, _, ⟨T4, L4, k4, n4⟩, -, X4, ⟨Lc4, hQ4, l4, y4, z4⟩, st4⟩ := X3.privateBack hx (y := own_y22) hown (mvT hZ (own_w hw 185)) (mvT hZ (own_w hw 186)) (own_psel (z := own_y4) (mvT hZ (own_w hw 224)) (mvP hZ (own_w hw 187)) (mvT hZ (own_w hw 186)) rfl (by decide)) (Cond.privateMethod_at (mvP hZ (own_w hw 187) (args := #[]))) (mvT hZ (own_w hw 188)) (by decide) (backOf (W := 1) (rm19_1 l Z a0 hw [] ob  h2 n0 P2 hA hB   ) hZ (own_w hw 188) (own_w hw 9) (by decide) (by decide)) (g := (mkF m 18 #[.val (.ref ob), .val (.int (1 : Int32))] [(.int (1 : Int32)), (.int (0 : Int32)), (.ref ob), (.ref ob)])) rfl (by rw [hml]; rfl) (Steps.refl _) (a := ob) (by rw [e3]; exact q4) q4' (argsL := [(.int (0 : Int32)), (.int (1 : Int32))]) (rest := [(.ref ob)]) (lenOf own_pd8 rfl) rfl (by show 2 * 0 + _ ≤ _; exact Nat.le_of_eq rfl) (hb hby d12_18) (fun _ _ => ⟨rfl, e3, (by decide : 0 + 0 ≤ _), (by decide : 0 + 0 ≤ _)⟩)
  dsimp only [Pt.U, Pt.locs, Pt.cells, Pt.slots] at X4 l4 y4 z4 st4 hQ4
  subst l4 y4 z4
  obtain ⟨rfl, Nq4, eh4⟩ := hQ4
  have N4 := Fr.app N2 Nq4
  obtain ⟨T5, h5, l5, X5, e5, N5, P5, st5⟩ := own_pp X4 hx hZ hw hown eh4 N4 P2 14 (own_w hw 14) (Or.inl (own_w hw 15)) (v := (.int (1 : Int32))) (hb hby d12_21) #[.val (.ref ob), .val (.int (1 : Int32))] [] rfl rfl (by omega)
  obtain ⟨T6, X6, e6, st6⟩ := own_gf X5 hx hZ hown e5 P5 15 (own_w hw 111) (v := (.int (0 : Int32))) (own_fn (own_fn hF15)) (hb hby d12_26) #[.val (.ref ob), .val (.int (1 : Int32))] [(.ref ob)]
  obtain ⟨T7, h7, l7, X7, e7, N7, P7, st7⟩ := own_pp X6 hx hZ hw hown e6 N5 P5 15 (own_w hw 111) (Or.inl (own_w hw 112)) (v := (.int (1 : Int32))) (hb hby d12_31) #[.val (.ref ob), .val (.int (1 : Int32))] [] rfl rfl (by omega)
  obtain ⟨fs, hr, hrun, hended, hW, hsame⟩ := X7.leave (v := none) (fun _ => rfl)
  refine ⟨_, _, castTop ef ?_, hrun, hended, _, _, rfl, ?_, ⟨_, rfl⟩, hW, hsame.mono (by decide) (by decide)⟩
  · refine s_aloadN X0 hx (hb hby d12_0) rfl rfl ?_
    refine s_iloadN X0 hx (hb hby d12_1) rfl ?_
    refine st1.trans ?_
    refine s_pop X1 hx (hb hby d12_5) rfl ?_
    refine s_aloadN X1 hx (hb hby d12_6) rfl rfl ?_
    refine s_iconst X1 hx (0 : Int32) (hb hby d12_7) rfl ?_
    refine st2 _ ?_
    refine s_aloadN X2 hx (hb hby d12_11) rfl rfl ?_
    refine s_aloadN X2 hx (hb hby d12_12) rfl rfl ?_
    refine s_aloadN X2 hx (hb hby d12_13) rfl rfl ?_
    refine st3 _ ?_
    refine s_iloadN X3 hx (hb hby d12_17) rfl ?_
    refine st4.trans ?_
    refine st5 _ ?_
    refine s_aloadN X5 hx (hb hby d12_24) rfl rfl ?_
    refine s_dup X5 hx (hb hby d12_25) rfl ?_
    refine st6 _ ?_
    refine s_iconst X6 hx (1 : Int32) (hb hby d12_29) rfl ?_
    refine s_iadd X6 hx (1 : Int32) (hb hby d12_30) (by decide) ?_
    refine st7 _ ?_
    exact X7.returnOut hx Bd.returns (hb hby d12_34) hr
  · show ((_ : Option Value) = none ∧ Fr n0 _ ∧ own_PS Z T7.heap n0 ob nA A (own_up (own_up (own_up F 27 (.int (0 : Int32))) 14 (.int (1 : Int32))) 15 (.int (1 : Int32))) (own_vs (own_vs (own_vs (own_vs (own_vs V 5 1 (.int (((0 : Int32) + va) + (0 : Int32)))) 6 1 (.long (0 : Int64))) 4 1 (.int (1 : Int32))) 8 1 (.int (1 : Int32))) 10 1 (.int (1 : Int32))))
    rw [e7]
    exact ⟨rfl, N7, P7⟩
set_option maxRecDepth 65536 in
set_option maxHeartbeats 40000000 in
theorem rm5_2 (l : Launch) (Z : State) (a0 : Array Value) (hw : own_HW Z a0) (ws : List Jvm.Cond) {nA : Nat} {A : Nat → Addr} {F : Nat → Value} {V : Nat → List Value} (ob : Addr) (va : Int32) (vk : Int64) (h0 : Heap) (n0 : Nat) (P : own_PS Z h0 n0 ob nA A F V) (hA : 13 ≤ nA) (hB : nA ≤ 14) (hF18 : F 18 = (.long (-7046029254386353131 : Int64))) (hF19 : F 19 = (.int (1 : Int32))) (hF22 : F 22 = (.long (0 : Int64))) (hF13 : F 13 = .null) (hV5_0 : (V 5).getD 0 (own_aZ 5) = (.int (0 : Int32))) (hV6_0 : (V 6).getD 0 (own_aZ 6) = (.long (0 : Int64))) :
    own_C l Z own_y17 bc5 7 none ws 3 45 #[(.ref ob), (.long (0 : Int64)), (.int va), (.long vk)] h0 (fun v h L => (v = none ∧ Fr n0 L ∧ own_PS Z h n0 ob nA A (own_up (own_up (own_up (own_up (own_up (own_up (own_up (own_up (own_up (own_up (own_up (own_up (own_up (own_up (own_up (own_up F 14 (.int (0 : Int32))) 15 (.int (0 : Int32))) 16 (.int (0 : Int32))) 17 (.int (1 : Int32))) 21 (.int (0 : Int32))) 17 (.int (2 : Int32))) 18 (.long (8142603028701699093 : Int64))) 18 (.long (8206217113781226925 : Int64))) 18 (.long (-2586341971585708627 : Int64))) 23 (.int (1 : Int32))) 24 (.int (1 : Int32))) 25 (.int (1 : Int32))) 26 (.int (2 : Int32))) 27 (.int (0 : Int32))) 14 (.int (1 : Int32))) 15 (.int (1 : Int32))) (own_vs (own_vs (own_vs (own_vs (own_vs (own_vs (own_vs (own_vs (own_vs (own_vs (own_vs (own_vs (own_vs (own_vs (own_vs V 0 4 (.int (0 : Int32))) 0 5 (.int (0 : Int32))) 0 6 (.int (1846393815 : Int32))) 1 1 (.int (1 : Int32))) 11 2 (.long (0 : Int64))) 12 2 (.int va)) 2 1 (.int (0 : Int32))) 3 1 (.int (0 : Int32))) 7 1 (.int (1 : Int32))) 9 1 (.int (1 : Int32))) 5 1 (.int (((0 : Int32) + va) + (0 : Int32)))) 6 1 (.long (0 : Int64))) 4 1 (.int (1 : Int32))) 8 1 (.int (1 : Int32))) 10 1 (.int (1 : Int32))))) := by
  refine MetFree.of_bodySF (plainFor_of_name own_pn2) hisR ?_
  intro p e s m args below meth c s₁ Bd hml0 hP hK
  obtain ⟨rfl, hZ, hh⟩ := hP
  have hx := Bd.exec
  have hby := Bd.bytes
  have hml : c.maxLocals = 7 := hml0
  have hown : s.vm.findClass "com/example/jobwright/jobwright/policies/ProfileSteps" = some m.cls := findClass_of_methodNamed Bd.named
  have X0 : Stand p l e ({ frames := 3, cells := 0, slots := 0, locals := 45 } : Room) s m #[(.ref ob), (.long (0 : Int64)), (.int va), (.long vk)] below meth c s₁ [] 0 0 := Stand.of_body Bd
  have e0 : s₁.heap = h0 := by rw [← hh, Bd.state]; rfl
  have N0 := Fr.nil n0
  have ef : entryFrame m #[(.ref ob), (.long (0 : Int64)), (.int va), (.long vk)] 7 = mkF m 0 #[.val (.ref ob), .val (.long (0 : Int64)), .second, .val (.int va), .val (.long vk), .second, .unset] [] := by first | (simp [entryFrame, mkF, argsToLocals, Value.category]; done) | rfl
  obtain ⟨cq1, kq1, q1a, q1b, q1c⟩ := isOf hZ e0 P.1
  obtain ⟨_, _, ⟨T1, L1, k1, n1⟩, -, X1, ⟨Lc1, hQ1, l1, y1, z1⟩, st1⟩ := X0.virtualBackUp hx (x := own_y5) (y := own_y3) (owner := "com/example/jobwright/jobwright/policies/Treap") hown (mvT hZ (own_w hw 105)) (mvT hZ (own_w hw 106)) (mvT hZ (own_w hw 107)) (by decide) (mvT hZ (own_w hw 109)) (mvT hZ (own_w hw 108)) (backOf (W := 0) (rm6_1 l Z a0 hw [] ob  h0 n0 P hA hB   ) hZ (own_w hw 110) (own_w hw 9) (by decide) (by decide)) q1a q1c (g := (mkF m 1 #[.val (.ref ob), .val (.long (0 : Int64)), .second, .val (.int va), .val (.long vk), .second, .unset] [(.ref ob)])) rfl (by rw [hml]; rfl) (Steps.refl _) (argsL := []) (rest := []) (lenOf own_pd1 rfl) rfl (by show 2 * 0 + _ ≤ _; exact Nat.le_of_eq rfl) (hb hby d5_1) (fun _ _ => ⟨rfl, e0, (by decide : 0 + 0 ≤ _), (by decide : 0 + 0 ≤ _)⟩)
  dsimp only [Pt.U, Pt.locs, Pt.cells, Pt.slots] at X1 l1 y1 z1 st1 hQ1
  subst l1 y1 z1
  obtain ⟨rfl, Nq1, P1⟩ := hQ1
  have N1 := Fr.app N0 Nq1
  obtain ⟨T2, h2, l2, X2, e2, N2, P2, st2⟩ := own_pp X1 hx hZ hw hown rfl N1 P1 21 (own_w hw 26) (Or.inl (own_w hw 27)) (v := (.int (0 : Int32))) (hb hby d5_6) #[.val (.ref ob), .val (.long (0 : Int64)), .second, .val (.int va), .val (.long vk), .second, .unset] [] rfl rfl (by omega)
  obtain ⟨cq3, kq3, q3a, q3b, q3c⟩ := isOf hZ e2 P2.1
  obtain ⟨_, _, ⟨T3, L3, k3, n3⟩, -, X3, ⟨Lc3, hQ3, l3, y3, z3⟩, st3⟩ := X2.virtualBackUp hx (x := own_y12) (y := own_y11) (owner := "com/example/jobwright/jobwright/policies/Treap") hown (mvT hZ (own_w hw 115)) (mvT hZ (own_w hw 116)) (mvT hZ (own_w hw 117)) (by decide) (mvT hZ (own_w hw 119)) (mvT hZ (own_w hw 118)) (backOf (W := 0) (rm7_1 l Z a0 hw [] ob  h2 n0 P2 hA hB (own_fn (own_fn (own_up_eq _ _ _))) (own_fn (own_up_eq _ _ _)) (own_fn (own_fn (own_fn (own_fn (own_fn hF18)))))  ) hZ (own_w hw 120) (own_w hw 9) (by decide) (by decide)) q3a q3c (g := (mkF m 10 #[.val (.ref ob), .val (.long (0 : Int64)), .second, .val (.int va), .val (.long vk), .second, .unset] [(.ref ob)])) rfl (by rw [hml]; rfl) (Steps.refl _) (argsL := []) (rest := []) (lenOf own_pd4 rfl) rfl (by show 2 * 0 + _ ≤ _; exact Nat.le_of_eq rfl) (hb hby d5_10) (fun _ _ => ⟨rfl, e2, (by decide : 0 + 0 ≤ _), (by decide : 0 + 0 ≤ _)⟩)
  dsimp only [Pt.U, Pt.locs, Pt.cells, Pt.slots] at X3 l3 y3 z3 st3 hQ3
  subst l3 y3 z3
  obtain ⟨rfl, Nq3, P3⟩ := hQ3
  have N3 := Fr.app N2 Nq3
  obtain ⟨T4, X4, e4, st4⟩ := own_gf X3 hx hZ hown rfl P3 1 (own_w hw 58) (v := (.ref (A 1))) (P3.2.2.2.1 1 (by omega)) (hb hby d5_16) #[.val (.ref ob), .val (.long (0 : Int64)), .second, .val (.int va), .val (.long vk), .second, .val (.int (1 : Int32))] []
  obtain ⟨T5, h5, l5, X5, e5, N5, P5, st5⟩ := own_ist X4 hx hZ e4 N3 P3 1 1 (j := (1 : Int32)) (x := (1 : Int32)) (hb hby d5_22) #[.val (.ref ob), .val (.long (0 : Int64)), .second, .val (.int va), .val (.long vk), .second, .val (.int (1 : Int32))] [] (by omega)
  obtain ⟨T6, X6, e6, st6⟩ := own_gf X5 hx hZ hown e5 P5 11 (own_w hw 92) (v := (.ref (A 11))) (P5.2.2.2.1 11 (by omega)) (hb hby d5_24) #[.val (.ref ob), .val (.long (0 : Int64)), .second, .val (.int va), .val (.long vk), .second, .val (.int (1 : Int32))] []
  obtain ⟨T7, X7, e7, st7⟩ := own_gf X6 hx hZ hown e6 P5 19 (own_w hw 54) (v := (.int (1 : Int32))) (own_fn (own_fn (own_fn (own_fn (own_fn (own_fn (own_fn (own_fn (own_fn hF19))))))))) (hb hby d5_30) #[.val (.ref ob), .val (.long (0 : Int64)), .second, .val (.int va), .val (.long vk), .second, .val (.int (1 : Int32))] [(.int (1 : Int32)), (.ref (A 11))]
  obtain ⟨T8, X8, e8, st8⟩ := own_gf X7 hx hZ hown e7 P5 22 (own_w hw 138) (v := (.long (0 : Int64))) (own_fn (own_fn (own_fn (own_fn (own_fn (own_fn (own_fn (own_fn (own_fn hF22))))))))) (hb hby d5_36) #[.val (.ref ob), .val (.long (0 : Int64)), .second, .val (.int va), .val (.long vk), .second, .val (.int (1 : Int32))] [(.long (0 : Int64)), (.int (2 : Int32)), (.ref (A 11))]
  obtain ⟨T9, h9, l9, X9, e9, N9, P9, st9⟩ := own_lst X8 hx hZ e8 N5 P5 11 2 (j := (2 : Int32)) (x := (0 : Int64)) (hb hby d5_40) #[.val (.ref ob), .val (.long (0 : Int64)), .second, .val (.int va), .val (.long vk), .second, .val (.int (1 : Int32))] [] (by omega)
  obtain ⟨T10, X10, e10, st10⟩ := own_gf X9 hx hZ hown e9 P9 12 (own_w hw 94) (v := (.ref (A 12))) (P9.2.2.2.1 12 (by omega)) (hb hby d5_42) #[.val (.ref ob), .val (.long (0 : Int64)), .second, .val (.int va), .val (.long vk), .second, .val (.int (1 : Int32))] []
  obtain ⟨T11, X11, e11, st11⟩ := own_gf X10 hx hZ hown e10 P9 19 (own_w hw 54) (v := (.int (1 : Int32))) (own_fn (own_fn (own_fn (own_fn (own_fn (own_fn (own_fn (own_fn (own_fn hF19))))))))) (hb hby d5_48) #[.val (.ref ob), .val (.long (0 : Int64)), .second, .val (.int va), .val (.long vk), .second, .val (.int (1 : Int32))] [(.int (1 : Int32)), (.ref (A 12))]
  obtain ⟨T12, h12, l12, X12, e12, N12, P12, st12⟩ := own_ist X11 hx hZ e11 N9 P9 12 2 (j := (2 : Int32)) (x := va) (hb hby d5_53) #[.val (.ref ob), .val (.long (0 : Int64)), .second, .val (.int va), .val (.long vk), .second, .val (.int (1 : Int32))] [] (by omega)
  obtain ⟨T13, X13, e13, st13⟩ := own_gf X12 hx hZ hown e12 P12 13 (own_w hw 96) (v := .null) (own_fn (own_fn (own_fn (own_fn (own_fn (own_fn (own_fn (own_fn (own_fn hF13))))))))) (hb hby d5_55) #[.val (.ref ob), .val (.long (0 : Int64)), .second, .val (.int va), .val (.long vk), .second, .val (.int (1 : Int32))] []
  obtain ⟨T14, X14, e14, st14⟩ := own_gf X13 hx hZ hown e13 P12 2 (own_w hw 60) (v := (.ref (A 2))) (P12.2.2.2.1 2 (by omega)) (hb hby d5_76) #[.val (.ref ob), .val (.long (0 : Int64)), .second, .val (.int va), .val (.long vk), .second, .val (.int (1 : Int32))] []
  obtain ⟨T15, h15, l15, X15, e15, N15, P15, st15⟩ := own_ist X14 hx hZ e14 N12 P12 2 1 (j := (1 : Int32)) (x := (0 : Int32)) (hb hby d5_82) #[.val (.ref ob), .val (.long (0 : Int64)), .second, .val (.int va), .val (.long vk), .second, .val (.int (1 : Int32))] [] (by omega)
  obtain ⟨T16, X16, e16, st16⟩ := own_gf X15 hx hZ hown e15 P15 3 (own_w hw 62) (v := (.ref (A 3))) (P15.2.2.2.1 3 (by omega)) (hb hby d5_84) #[.val (.ref ob), .val (.long (0 : Int64)), .second, .val (.int va), .val (.long vk), .second, .val (.int (1 : Int32))] []
  obtain ⟨T17, h17, l17, X17, e17, N17, P17, st17⟩ := own_ist X16 hx hZ e16 N15 P15 3 1 (j := (1 : Int32)) (x := (0 : Int32)) (hb hby d5_90) #[.val (.ref ob), .val (.long (0 : Int64)), .second, .val (.int va), .val (.long vk), .second, .val (.int (1 : Int32))] [] (by omega)
  obtain ⟨T18, h18, l18, X18, e18, N18, P18, st18⟩ := own_pp X17 hx hZ hw hown e17 N17 P17 23 (own_w hw 140) (Or.inl (own_w hw 141)) (v := (.int (1 : Int32))) (hb hby d5_94) #[.val (.ref ob), .val (.long (0 : Int64)), .second, .val (.int va), .val (.long vk), .second, .val (.int (1 : Int32))] [] rfl rfl (by omega)
  obtain ⟨T19, h19, l19, X19, e19, N19, P19, st19⟩ := own_pp X18 hx hZ hw hown e18 N18 P18 24 (own_w hw 142) (Or.inl (own_w hw 143)) (v := (.int (1 : Int32))) (hb hby d5_100) #[.val (.ref ob), .val (.long (0 : Int64)), .second, .val (.int va), .val (.long vk), .second, .val (.int (1 : Int32))] [] rfl rfl (by omega)
  obtain ⟨T20, h20, l20, X20, e20, N20, P20, st20⟩ := own_pp X19 hx hZ hw hown e19 N19 P19 25 (own_w hw 144) (Or.inl (own_w hw 145)) (v := (.int (1 : Int32))) (hb hby d5_106) #[.val (.ref ob), .val (.long (0 : Int64)), .second, .val (.int va), .val (.long vk), .second, .val (.int (1 : Int32))] [] rfl rfl (by omega)
  obtain ⟨T21, X21, e21, st21⟩ := own_gf X20 hx hZ hown e20 P20 19 (own_w hw 54) (v := (.int (1 : Int32))) (own_fn (own_fn (own_fn (own_fn (own_fn (own_fn (own_fn (own_fn (own_fn (own_fn (own_fn (own_fn hF19)))))))))))) (hb hby d5_113) #[.val (.ref ob), .val (.long (0 : Int64)), .second, .val (.int va), .val (.long vk), .second, .val (.int (1 : Int32))] [(.int (1 : Int32)), (.ref ob)]
  obtain ⟨T22, h22, l22, X22, e22, N22, P22, st22⟩ := own_pp X21 hx hZ hw hown e21 N20 P20 26 (own_w hw 146) (Or.inl (own_w hw 147)) (v := (.int (2 : Int32))) (hb hby d5_117) #[.val (.ref ob), .val (.long (0 : Int64)), .second, .val (.int va), .val (.long vk), .second, .val (.int (1 : Int32))] [] rfl rfl (by omega)
  obtain ⟨T23, X23, e23, st23⟩ := own_gf X22 hx hZ hown e22 P22 7 (own_w hw 76) (v := (.ref (A 7))) (P22.2.2.2.1 7 (by omega)) (hb hby d5_121) #[.val (.ref ob), .val (.long (0 : Int64)), .second, .val (.int va), .val (.long vk), .second, .val (.int (1 : Int32))] []
  obtain ⟨T24, h24, l24, X24, e24, N24, P24, st24⟩ := own_zst X23 hx hZ e23 N22 P22 7 1 (j := (1 : Int32)) (hb hby d5_127) #[.val (.ref ob), .val (.long (0 : Int64)), .second, .val (.int va), .val (.long vk), .second, .val (.int (1 : Int32))] [] (by omega)
  obtain ⟨T25, X25, e25, st25⟩ := own_gf X24 hx hZ hown e24 P24 9 (own_w hw 84) (v := (.ref (A 9))) (P24.2.2.2.1 9 (by omega)) (hb hby d5_129) #[.val (.ref ob), .val (.long (0 : Int64)), .second, .val (.int va), .val (.long vk), .second, .val (.int (1 : Int32))] []
  obtain ⟨T26, h26, l26, X26, e26, N26, P26, st26⟩ := own_zst X25 hx hZ e25 N24 P24 9 1 (j := (1 : Int32)) (hb hby d5_135) #[.val (.ref ob), .val (.long (0 : Int64)), .second, .val (.int va), .val (.long vk), .second, .val (.int (1 : Int32))] [] (by omega)
  obtain ⟨cq27, kq27, q27a, q27b, q27c⟩ := isOf hZ e26 P26.1
  obtain ⟨_, _, ⟨T27, L27, k27, n27⟩, -, X27, ⟨Lc27, hQ27, l27, y27, z27⟩, st27⟩ := X26.virtualBackUp hx (x := own_y24) (y := own_y23) (owner := "com/example/jobwright/jobwright/policies/Treap") hown (mvT hZ (own_w hw 148)) (mvT hZ (own_w hw 149)) (mvT hZ (own_w hw 150)) (by decide) (mvT hZ (own_w hw 152)) (mvT hZ (own_w hw 151)) (backOf (W := 0) (rm12_3 l Z a0 hw [] ob va h26 n0 P26 hA hB (own_fn (own_fn (own_fn (own_fn (own_fn (own_fn (own_fn (own_fn (own_fn (own_fn (own_fn (own_fn (own_fn hF19))))))))))))) (own_fn (own_fn (own_fn (own_fn (own_fn (own_fn (own_fn (own_fn (own_fn (own_fn (own_fn (own_fn (own_fn hF13))))))))))))) (own_fn (own_fn (own_fn (own_fn (own_fn (own_fn (own_fn (own_fn (own_fn (own_fn (own_fn (own_fn (own_up_eq _ _ _))))))))))))) (own_fn (own_fn (own_fn (own_fn (own_fn (own_fn (own_fn (own_fn (own_fn (own_fn (own_fn (own_up_eq _ _ _)))))))))))) (own_vn (own_vn (own_vn (own_vn (own_vn (own_vn (own_vn (own_vi (own_vi (own_ve (own_len P 0 (by omega) 4 (by decide)))))))))))) (own_vn (own_vn (own_vn (own_vn (own_vn (own_vn (own_vn (own_vi (own_ve (own_vl (own_len P 0 (by omega) 5 (by decide)))))))))))) (own_vn (own_vn (own_vn (own_vn (own_vn (own_vn (own_vn (own_vn (own_vn (own_vn hV5_0)))))))))) (own_vn (own_vn (own_vn (own_vn (own_vn (own_vn (own_ve (own_vl (own_vl (own_vl (own_len P 1 (by omega) 1 (by decide)))))))))))) (own_vn (own_vn (own_vn (own_vn (own_ve (own_vl (own_vl (own_vl (own_vl (own_vl (own_len P 12 (by omega) 2 (by decide)))))))))))) (own_vn (own_vn (own_vn (own_vn (own_vn (own_vn (own_vn (own_vn (own_vn (own_vn hV6_0)))))))))) ) hZ (own_w hw 153) (own_w hw 9) (by decide) (by decide)) q27a q27c (g := (mkF m 139 #[.val (.ref ob), .val (.long (0 : Int64)), .second, .val (.int va), .val (.long vk), .second, .val (.int (1 : Int32))] [(.int (1 : Int32)), (.ref ob)])) rfl (by rw [hml]; rfl) (Steps.refl _) (argsL := [(.int (1 : Int32))]) (rest := []) (lenOf own_pd0 rfl) rfl (by show 2 * 0 + _ ≤ _; exact Nat.le_of_eq rfl) (hb hby d5_139) (fun _ _ => ⟨rfl, e26, (by decide : 0 + 0 ≤ _), (by decide : 0 + 0 ≤ _)⟩)
  dsimp only [Pt.U, Pt.locs, Pt.cells, Pt.slots] at X27 l27 y27 z27 st27 hQ27
  subst l27 y27 z27
  obtain ⟨rfl, Nq27, P27⟩ := hQ27
  have N27 := Fr.app N26 Nq27
  obtain ⟨fs, hr, hrun, hended, hW, hsame⟩ := X27.leave (v := none) (fun _ => rfl)
  refine ⟨_, _, castTop ef ?_, hrun, hended, _, _, rfl, ?_, ⟨_, rfl⟩, hW, hsame.mono (by decide) (by decide)⟩
  · refine s_aloadN X0 hx (hb hby d5_0) rfl rfl ?_
    refine st1.trans ?_
    refine s_aloadN X1 hx (hb hby d5_4) rfl rfl ?_
    refine s_iconst X1 hx (0 : Int32) (hb hby d5_5) rfl ?_
    refine st2 _ ?_
    refine s_aloadN X2 hx (hb hby d5_9) rfl rfl ?_
    refine st3.trans ?_
    refine s_istore X3 hx #[.val (.ref ob), .val (.long (0 : Int64)), .second, .val (.int va), .val (.long vk), .second, .val (.int (1 : Int32))] (hb hby d5_13) rfl ?_
    refine s_aloadN X3 hx (hb hby d5_15) rfl rfl ?_
    refine st4 _ ?_
    refine s_iload X4 hx (hb hby d5_19) rfl ?_
    refine s_iconst X4 hx (1 : Int32) (hb hby d5_21) rfl ?_
    refine st5 _ ?_
    refine s_aloadN X5 hx (hb hby d5_23) rfl rfl ?_
    refine st6 _ ?_
    refine s_iload X6 hx (hb hby d5_27) rfl ?_
    refine s_aloadN X6 hx (hb hby d5_29) rfl rfl ?_
    refine st7 _ ?_
    refine s_ishl X7 hx (2 : Int32) (hb hby d5_33) (by decide) ?_
    refine s_lloadN X7 hx (hb hby d5_34) rfl ?_
    refine s_aloadN X7 hx (hb hby d5_35) rfl rfl ?_
    refine st8 _ ?_
    refine s_lsub X8 hx (0 : Int64) (hb hby d5_39) (by decide) ?_
    refine st9 _ ?_
    refine s_aloadN X9 hx (hb hby d5_41) rfl rfl ?_
    refine st10 _ ?_
    refine s_iload X10 hx (hb hby d5_45) rfl ?_
    refine s_aloadN X10 hx (hb hby d5_47) rfl rfl ?_
    refine st11 _ ?_
    refine s_ishl X11 hx (2 : Int32) (hb hby d5_51) (by decide) ?_
    refine s_iloadN X11 hx (hb hby d5_52) rfl ?_
    refine st12 _ ?_
    refine s_aloadN X12 hx (hb hby d5_54) rfl rfl ?_
    refine st13 _ ?_
    refine s_nullY X13 hx 75 (hb hby d5_58) (by decide) (by decide) ?_
    refine s_aloadN X13 hx (hb hby d5_75) rfl rfl ?_
    refine st14 _ ?_
    refine s_iload X14 hx (hb hby d5_79) rfl ?_
    refine s_iconst X14 hx (0 : Int32) (hb hby d5_81) rfl ?_
    refine st15 _ ?_
    refine s_aloadN X15 hx (hb hby d5_83) rfl rfl ?_
    refine st16 _ ?_
    refine s_iload X16 hx (hb hby d5_87) rfl ?_
    refine s_iconst X16 hx (0 : Int32) (hb hby d5_89) rfl ?_
    refine st17 _ ?_
    refine s_aloadN X17 hx (hb hby d5_91) rfl rfl ?_
    refine s_iload X17 hx (hb hby d5_92) rfl ?_
    refine st18 _ ?_
    refine s_aloadN X18 hx (hb hby d5_97) rfl rfl ?_
    refine s_iload X18 hx (hb hby d5_98) rfl ?_
    refine st19 _ ?_
    refine s_aloadN X19 hx (hb hby d5_103) rfl rfl ?_
    refine s_iload X19 hx (hb hby d5_104) rfl ?_
    refine st20 _ ?_
    refine s_aloadN X20 hx (hb hby d5_109) rfl rfl ?_
    refine s_iload X20 hx (hb hby d5_110) rfl ?_
    refine s_aloadN X20 hx (hb hby d5_112) rfl rfl ?_
    refine st21 _ ?_
    refine s_ishl X21 hx (2 : Int32) (hb hby d5_116) (by decide) ?_
    refine st22 _ ?_
    refine s_aloadN X22 hx (hb hby d5_120) rfl rfl ?_
    refine st23 _ ?_
    refine s_iload X23 hx (hb hby d5_124) rfl ?_
    refine s_iconst X23 hx (1 : Int32) (hb hby d5_126) rfl ?_
    refine st24 _ ?_
    refine s_aloadN X24 hx (hb hby d5_128) rfl rfl ?_
    refine st25 _ ?_
    refine s_iload X25 hx (hb hby d5_132) rfl ?_
    refine s_iconst X25 hx (1 : Int32) (hb hby d5_134) rfl ?_
    refine st26 _ ?_
    refine s_aloadN X26 hx (hb hby d5_136) rfl rfl ?_
    refine s_iload X26 hx (hb hby d5_137) rfl ?_
    refine st27.trans ?_
    exact X27.returnOut hx Bd.returns (hb hby d5_142) hr
  · show ((_ : Option Value) = none ∧ Fr n0 _ ∧ own_PS Z T27.heap n0 ob nA A (own_up (own_up (own_up (own_up (own_up (own_up (own_up (own_up (own_up (own_up (own_up (own_up (own_up (own_up (own_up (own_up F 14 (.int (0 : Int32))) 15 (.int (0 : Int32))) 16 (.int (0 : Int32))) 17 (.int (1 : Int32))) 21 (.int (0 : Int32))) 17 (.int (2 : Int32))) 18 (.long (8142603028701699093 : Int64))) 18 (.long (8206217113781226925 : Int64))) 18 (.long (-2586341971585708627 : Int64))) 23 (.int (1 : Int32))) 24 (.int (1 : Int32))) 25 (.int (1 : Int32))) 26 (.int (2 : Int32))) 27 (.int (0 : Int32))) 14 (.int (1 : Int32))) 15 (.int (1 : Int32))) (own_vs (own_vs (own_vs (own_vs (own_vs (own_vs (own_vs (own_vs (own_vs (own_vs (own_vs (own_vs (own_vs (own_vs (own_vs V 0 4 (.int (0 : Int32))) 0 5 (.int (0 : Int32))) 0 6 (.int (1846393815 : Int32))) 1 1 (.int (1 : Int32))) 11 2 (.long (0 : Int64))) 12 2 (.int va)) 2 1 (.int (0 : Int32))) 3 1 (.int (0 : Int32))) 7 1 (.int (1 : Int32))) 9 1 (.int (1 : Int32))) 5 1 (.int (((0 : Int32) + va) + (0 : Int32)))) 6 1 (.long (0 : Int64))) 4 1 (.int (1 : Int32))) 8 1 (.int (1 : Int32))) 10 1 (.int (1 : Int32))))
    exact ⟨rfl, N27, P27⟩
set_option maxRecDepth 65536 in
set_option maxHeartbeats 40000000 in
theorem rm21_3 (l : Launch) (Z : State) (a0 : Array Value) (hw : own_HW Z a0) (ws : List Jvm.Cond) {nA : Nat} {A : Nat → Addr} {F : Nat → Value} {V : Nat → List Value} (ob : Addr) (va : Int32) (h0 : Heap) (n0 : Nat) (P : own_PS Z h0 n0 ob nA A F V) (hA : 13 ≤ nA) (hB : nA ≤ 14) (hF19 : F 19 = (.int (1 : Int32))) (hF20 : F 20 = (.int (2 : Int32))) (hF22 : F 22 = (.long (0 : Int64))) (hF13 : F 13 = .null) (hV1_1 : (V 1).getD 1 (own_aZ 1) = (.int (1 : Int32))) (hV12_2 : (V 12).getD 2 (own_aZ 12) = (.int va)) (hV7_1 : (V 7).getD 1 (own_aZ 7) = (.int (1 : Int32))) (hV9_1 : (V 9).getD 1 (own_aZ 9) = (.int (1 : Int32))) :
    own_C l Z own_y27 bc21 11 (some .int) ws 1 31 #[(.ref ob), (.int (2 : Int32)), (.long (10 : Int64))] h0 (fun v h L => (v = some (.int (3 : Int32)) ∧ Fr n0 L ∧ own_PS Z h n0 ob nA A F (own_vs (own_vs (own_vs V 11 3 (.long (10 : Int64))) 12 3 (.int va)) 1 1 (.int (2 : Int32))))) := by
  refine MetFree.of_bodySF (plainFor_of_name own_pn2) hisR ?_
  intro p e s m args below meth c s₁ Bd hml0 hP hK
  obtain ⟨rfl, hZ, hh⟩ := hP
  have hx := Bd.exec
  have hby := Bd.bytes
  have hml : c.maxLocals = 11 := hml0
  have hown : s.vm.findClass "com/example/jobwright/jobwright/policies/ProfileSteps" = some m.cls := findClass_of_methodNamed Bd.named
  have X0 : Stand p l e ({ frames := 1, cells := 0, slots := 0, locals := 31 } : Room) s m #[(.ref ob), (.int (2 : Int32)), (.long (10 : Int64))] below meth c s₁ [] 0 0 := Stand.of_body Bd
  have e0 : s₁.heap = h0 := by rw [← hh, Bd.state]; rfl
  have N0 := Fr.nil n0
  have ef : entryFrame m #[(.ref ob), (.int (2 : Int32)), (.long (10 : Int64))] 11 = mkF m 0 #[.val (.ref ob), .val (.int (2 : Int32)), .val (.long (10 : Int64)), .second, .unset, .unset, .unset, .unset, .unset, .unset, .unset] [] := by first | (simp [entryFrame, mkF, argsToLocals, Value.category]; done) | rfl
  obtain ⟨T1, X1, e1, st1⟩ := own_gf X0 hx hZ hown e0 P 19 (own_w hw 54) (v := (.int (1 : Int32))) hF19 (hb hby d21_2) #[.val (.ref ob), .val (.int (2 : Int32)), .val (.long (10 : Int64)), .second, .unset, .unset, .unset, .unset, .unset, .unset, .unset] [(.int (2 : Int32))]
  obtain ⟨T2, X2, e2, st2⟩ := own_gf X1 hx hZ hown e1 P 19 (own_w hw 54) (v := (.int (1 : Int32))) hF19 (hb hby d21_12) #[.val (.ref ob), .val (.int (2 : Int32)), .val (.long (10 : Int64)), .second, .val (.int (1 : Int32)), .unset, .unset, .unset, .unset, .unset, .unset] [(.int (1 : Int32)), (.int (2 : Int32))]
  obtain ⟨T3, X3, e3, st3⟩ := own_gf X2 hx hZ hown e2 P 20 (own_w hw 56) (v := (.int (2 : Int32))) hF20 (hb hby d21_24) #[.val (.ref ob), .val (.int (2 : Int32)), .val (.long (10 : Int64)), .second, .val (.int (1 : Int32)), .val (.int (1 : Int32)), .unset, .unset, .unset, .unset, .unset] [(.int (1 : Int32))]
  obtain ⟨T4, X4, e4, st4⟩ := own_gf X3 hx hZ hown e3 P 1 (own_w hw 58) (v := (.ref (A 1))) (P.2.2.2.1 1 (by omega)) (hb hby d21_121) #[.val (.ref ob), .val (.int (2 : Int32)), .val (.long (10 : Int64)), .second, .val (.int (1 : Int32)), .val (.int (1 : Int32)), .unset, .unset, .unset, .unset, .unset] []
  obtain ⟨T5, X5, e5, st5⟩ := own_gf X4 hx hZ hown e4 P 20 (own_w hw 56) (v := (.int (2 : Int32))) hF20 (hb hby d21_128) #[.val (.ref ob), .val (.int (2 : Int32)), .val (.long (10 : Int64)), .second, .val (.int (1 : Int32)), .val (.int (1 : Int32)), .unset, .unset, .unset, .unset, .unset] [(.int (1 : Int32))]
  obtain ⟨T6, X6, e6, st6⟩ := own_gf X5 hx hZ hown e5 P 19 (own_w hw 54) (v := (.int (1 : Int32))) hF19 (hb hby d21_289) #[.val (.ref ob), .val (.int (2 : Int32)), .val (.long (10 : Int64)), .second, .val (.int (1 : Int32)), .val (.int (1 : Int32)), .unset, .unset, .unset, .unset, .unset] [(.int (1 : Int32))]
  obtain ⟨T7, X7, e7, st7⟩ := own_gf X6 hx hZ hown e6 P 11 (own_w hw 92) (v := (.ref (A 11))) (P.2.2.2.1 11 (by omega)) (hb hby d21_296) #[.val (.ref ob), .val (.int (2 : Int32)), .val (.long (10 : Int64)), .second, .val (.int (1 : Int32)), .val (.int (1 : Int32)), .val (.int (2 : Int32)), .unset, .unset, .unset, .unset] []
  obtain ⟨T8, X8, e8, st8⟩ := own_gf X7 hx hZ hown e7 P 11 (own_w hw 92) (v := (.ref (A 11))) (P.2.2.2.1 11 (by omega)) (hb hby d21_305) #[.val (.ref ob), .val (.int (2 : Int32)), .val (.long (10 : Int64)), .second, .val (.int (1 : Int32)), .val (.int (1 : Int32)), .val (.int (2 : Int32)), .unset, .unset, .unset, .unset] [(.int (3 : Int32)), (.ref (A 11))]
  obtain ⟨T9, X9, e9, st9⟩ := own_gf X8 hx hZ hown e8 P 1 (own_w hw 58) (v := (.ref (A 1))) (P.2.2.2.1 1 (by omega)) (hb hby d21_316) #[.val (.ref ob), .val (.int (2 : Int32)), .val (.long (10 : Int64)), .second, .val (.int (1 : Int32)), .val (.int (1 : Int32)), .val (.int (2 : Int32)), .unset, .unset, .unset, .unset] [(.int (4 : Int32)), (.ref (A 11)), (.int (3 : Int32)), (.ref (A 11))]
  obtain ⟨T10, h10, l10, X10, e10, N10, P10, st10⟩ := own_cp X9 hx hZ hw hown e9 N0 P 11 (sp := (3 : Int32)) (dp := (4 : Int32)) (hb hby d21_325) #[.val (.ref ob), .val (.int (2 : Int32)), .val (.long (10 : Int64)), .second, .val (.int (1 : Int32)), .val (.int (1 : Int32)), .val (.int (2 : Int32)), .unset, .unset, .unset, .unset] [] (by omega) rfl (by decide) (by decide) (by decide) (by decide) (by rw [hml]; rfl) rfl (by decide) (by decide)
  obtain ⟨T11, X11, e11, st11⟩ := own_gf X10 hx hZ hown e10 P10 12 (own_w hw 94) (v := (.ref (A 12))) (P10.2.2.2.1 12 (by omega)) (hb hby d21_329) #[.val (.ref ob), .val (.int (2 : Int32)), .val (.long (10 : Int64)), .second, .val (.int (1 : Int32)), .val (.int (1 : Int32)), .val (.int (2 : Int32)), .unset, .unset, .unset, .unset] []
  obtain ⟨T12, X12, e12, st12⟩ := own_gf X11 hx hZ hown e11 P10 12 (own_w hw 94) (v := (.ref (A 12))) (P10.2.2.2.1 12 (by omega)) (hb hby d21_338) #[.val (.ref ob), .val (.int (2 : Int32)), .val (.long (10 : Int64)), .second, .val (.int (1 : Int32)), .val (.int (1 : Int32)), .val (.int (2 : Int32)), .unset, .unset, .unset, .unset] [(.int (3 : Int32)), (.ref (A 12))]
  obtain ⟨T13, X13, e13, st13⟩ := own_gf X12 hx hZ hown e12 P10 1 (own_w hw 58) (v := (.ref (A 1))) (P10.2.2.2.1 1 (by omega)) (hb hby d21_349) #[.val (.ref ob), .val (.int (2 : Int32)), .val (.long (10 : Int64)), .second, .val (.int (1 : Int32)), .val (.int (1 : Int32)), .val (.int (2 : Int32)), .unset, .unset, .unset, .unset] [(.int (4 : Int32)), (.ref (A 12)), (.int (3 : Int32)), (.ref (A 12))]
  obtain ⟨T14, h14, l14, X14, e14, N14, P14, st14⟩ := own_cp X13 hx hZ hw hown e13 N10 P10 12 (sp := (3 : Int32)) (dp := (4 : Int32)) (hb hby d21_358) #[.val (.ref ob), .val (.int (2 : Int32)), .val (.long (10 : Int64)), .second, .val (.int (1 : Int32)), .val (.int (1 : Int32)), .val (.int (2 : Int32)), .unset, .unset, .unset, .unset] [] (by omega) rfl (by decide) (by decide) (by decide) (by decide) (by rw [hml]; rfl) rfl (by decide) (by decide)
  obtain ⟨T15, X15, e15, st15⟩ := own_gf X14 hx hZ hown e14 P14 11 (own_w hw 92) (v := (.ref (A 11))) (P14.2.2.2.1 11 (by omega)) (hb hby d21_362) #[.val (.ref ob), .val (.int (2 : Int32)), .val (.long (10 : Int64)), .second, .val (.int (1 : Int32)), .val (.int (1 : Int32)), .val (.int (2 : Int32)), .unset, .unset, .unset, .unset] []
  obtain ⟨T16, X16, e16, st16⟩ := own_gf X15 hx hZ hown e15 P14 22 (own_w hw 138) (v := (.long (0 : Int64))) hF22 (hb hby d21_372) #[.val (.ref ob), .val (.int (2 : Int32)), .val (.long (10 : Int64)), .second, .val (.int (1 : Int32)), .val (.int (1 : Int32)), .val (.int (2 : Int32)), .unset, .unset, .unset, .unset] [(.long (10 : Int64)), (.int (3 : Int32)), (.ref (A 11))]
  obtain ⟨T17, h17, l17, X17, e17, N17, P17, st17⟩ := own_lst X16 hx hZ e16 N14 P14 11 3 (j := (3 : Int32)) (x := (10 : Int64)) (hb hby d21_376) #[.val (.ref ob), .val (.int (2 : Int32)), .val (.long (10 : Int64)), .second, .val (.int (1 : Int32)), .val (.int (1 : Int32)), .val (.int (2 : Int32)), .unset, .unset, .unset, .unset] [] (by omega)
  obtain ⟨T18, X18, e18, st18⟩ := own_gf X17 hx hZ hown e17 P17 12 (own_w hw 94) (v := (.ref (A 12))) (P17.2.2.2.1 12 (by omega)) (hb hby d21_378) #[.val (.ref ob), .val (.int (2 : Int32)), .val (.long (10 : Int64)), .second, .val (.int (1 : Int32)), .val (.int (1 : Int32)), .val (.int (2 : Int32)), .unset, .unset, .unset, .unset] []
  obtain ⟨T19, X19, e19, st19⟩ := own_gf X18 hx hZ hown e18 P17 12 (own_w hw 94) (v := (.ref (A 12))) (P17.2.2.2.1 12 (by omega)) (hb hby d21_387) #[.val (.ref ob), .val (.int (2 : Int32)), .val (.long (10 : Int64)), .second, .val (.int (1 : Int32)), .val (.int (1 : Int32)), .val (.int (2 : Int32)), .unset, .unset, .unset, .unset] [(.int (3 : Int32)), (.ref (A 12))]
  obtain ⟨T20, h20, l20, X20, e20, N20, P20, st20⟩ := own_ist X19 hx hZ e19 N17 P17 12 3 (j := (3 : Int32)) (x := va) (hb hby d21_398) #[.val (.ref ob), .val (.int (2 : Int32)), .val (.long (10 : Int64)), .second, .val (.int (1 : Int32)), .val (.int (1 : Int32)), .val (.int (2 : Int32)), .unset, .unset, .unset, .unset] [] (by omega)
  obtain ⟨T21, X21, e21, st21⟩ := own_gf X20 hx hZ hown e20 P20 13 (own_w hw 96) (v := .null) hF13 (hb hby d21_400) #[.val (.ref ob), .val (.int (2 : Int32)), .val (.long (10 : Int64)), .second, .val (.int (1 : Int32)), .val (.int (1 : Int32)), .val (.int (2 : Int32)), .unset, .unset, .unset, .unset] []
  obtain ⟨T22, X22, e22, st22⟩ := own_gf X21 hx hZ hown e21 P20 1 (own_w hw 58) (v := (.ref (A 1))) (P20.2.2.2.1 1 (by omega)) (hb hby d21_462) #[.val (.ref ob), .val (.int (2 : Int32)), .val (.long (10 : Int64)), .second, .val (.int (1 : Int32)), .val (.int (1 : Int32)), .val (.int (2 : Int32)), .unset, .unset, .unset, .unset] []
  obtain ⟨T23, h23, l23, X23, e23, N23, P23, st23⟩ := own_ist X22 hx hZ e22 N20 P20 1 1 (j := (1 : Int32)) (x := (2 : Int32)) (hb hby d21_471) #[.val (.ref ob), .val (.int (2 : Int32)), .val (.long (10 : Int64)), .second, .val (.int (1 : Int32)), .val (.int (1 : Int32)), .val (.int (2 : Int32)), .unset, .unset, .unset, .unset] [] (by omega)
  obtain ⟨cq24, q24, q24'⟩ := P23.1.cell
  obtain ⟨_, _, ⟨T24, L24, k24, n24⟩, -, X24, ⟨Lc24, hQ24, l24, y24, z24⟩, st24⟩ := X23.privateBack hx (y := own_y26) hown (mvT hZ (own_w hw 204)) (mvT hZ (own_w hw 205)) (own_psel (z := own_y17) (mvT hZ (own_w hw 103)) (mvP hZ (own_w hw 206)) (mvT hZ (own_w hw 205)) rfl (by decide)) (Cond.privateMethod_at (mvP hZ (own_w hw 206) (args := #[]))) (mvT hZ (own_w hw 207)) (by decide) (backOf (W := 0) (rm22_1 l Z a0 hw [] ob  h23 n0 P23 hA hB  (own_vn (own_vn (own_vn hV7_1))) (own_vn (own_vn (own_vn hV9_1))) ) hZ (own_w hw 207) (own_w hw 2) (by decide) (by decide)) (g := (mkF m 475 #[.val (.ref ob), .val (.int (2 : Int32)), .val (.long (10 : Int64)), .second, .val (.int (1 : Int32)), .val (.int (1 : Int32)), .val (.int (2 : Int32)), .unset, .unset, .unset, .unset] [(.int (1 : Int32)), (.ref ob)])) rfl (by rw [hml]; rfl) (Steps.refl _) (a := ob) (by rw [e23]; exact q24) q24' (argsL := [(.int (1 : Int32))]) (rest := []) (lenOf own_pd0 rfl) rfl (by show 2 * 0 + _ ≤ _; exact Nat.le_of_eq rfl) (hb hby d21_475) (fun _ _ => ⟨rfl, e23, (by decide : 0 + 0 ≤ _), (by decide : 0 + 0 ≤ _)⟩)
  dsimp only [Pt.U, Pt.locs, Pt.cells, Pt.slots] at X24 l24 y24 z24 st24 hQ24
  subst l24 y24 z24
  obtain ⟨rfl, Nq24, eh24⟩ := hQ24
  have N24 := Fr.app N23 Nq24
  obtain ⟨fs, hr, hrun, hended, hW, hsame⟩ := X24.leave (v := some (.int (3 : Int32))) (fun h => by rw [Bd.returns] at h; cases h)
  refine ⟨_, _, castTop ef ?_, hrun, hended, _, _, rfl, ?_, ⟨_, rfl⟩, hW, hsame.mono (by decide) (by decide)⟩
  · refine s_iloadN X0 hx (hb hby d21_0) rfl ?_
    refine s_aloadN X0 hx (hb hby d21_1) rfl rfl ?_
    refine st1 _ ?_
    refine s_ishr X1 hx (1 : Int32) (hb hby d21_5) (by decide) ?_
    refine s_istore X1 hx #[.val (.ref ob), .val (.int (2 : Int32)), .val (.long (10 : Int64)), .second, .val (.int (1 : Int32)), .unset, .unset, .unset, .unset, .unset, .unset] (hb hby d21_6) rfl ?_
    refine s_iloadN X1 hx (hb hby d21_8) rfl ?_
    refine s_iload X1 hx (hb hby d21_9) rfl ?_
    refine s_aloadN X1 hx (hb hby d21_11) rfl rfl ?_
    refine st2 _ ?_
    refine s_ishl X2 hx (2 : Int32) (hb hby d21_15) (by decide) ?_
    refine s_isub X2 hx (0 : Int32) (hb hby d21_16) (by decide) ?_
    refine s_iconst X2 hx (1 : Int32) (hb hby d21_17) rfl ?_
    refine s_iadd X2 hx (1 : Int32) (hb hby d21_18) (by decide) ?_
    refine s_istore X2 hx #[.val (.ref ob), .val (.int (2 : Int32)), .val (.long (10 : Int64)), .second, .val (.int (1 : Int32)), .val (.int (1 : Int32)), .unset, .unset, .unset, .unset, .unset] (hb hby d21_19) rfl ?_
    refine s_iload X2 hx (hb hby d21_21) rfl ?_
    refine s_aloadN X2 hx (hb hby d21_23) rfl rfl ?_
    refine st3 _ ?_
    refine s_icmpY X3 hx 120 (hb hby d21_27) (by decide) (by decide) (by decide) ?_
    refine s_aloadN X3 hx (hb hby d21_120) rfl rfl ?_
    refine st4 _ ?_
    refine s_iload X4 hx (hb hby d21_124) rfl ?_
    refine own_ial X4 hx hZ e4 P 1 1 (v := (.int (1 : Int32))) hV1_1 (hb hby d21_126) (by omega) ?_
    refine s_aloadN X4 hx (hb hby d21_127) rfl rfl ?_
    refine st5 _ ?_
    refine s_icmpY X5 hx 286 (hb hby d21_131) (by decide) (by decide) (by decide) ?_
    refine s_iload X5 hx (hb hby d21_286) rfl ?_
    refine s_aloadN X5 hx (hb hby d21_288) rfl rfl ?_
    refine st6 _ ?_
    refine s_ishl X6 hx (2 : Int32) (hb hby d21_292) (by decide) ?_
    refine s_istore X6 hx #[.val (.ref ob), .val (.int (2 : Int32)), .val (.long (10 : Int64)), .second, .val (.int (1 : Int32)), .val (.int (1 : Int32)), .val (.int (2 : Int32)), .unset, .unset, .unset, .unset] (hb hby d21_293) rfl ?_
    refine s_aloadN X6 hx (hb hby d21_295) rfl rfl ?_
    refine st7 _ ?_
    refine s_iload X7 hx (hb hby d21_299) rfl ?_
    refine s_iload X7 hx (hb hby d21_301) rfl ?_
    refine s_iadd X7 hx (3 : Int32) (hb hby d21_303) (by decide) ?_
    refine s_aloadN X7 hx (hb hby d21_304) rfl rfl ?_
    refine st8 _ ?_
    refine s_iload X8 hx (hb hby d21_308) rfl ?_
    refine s_iload X8 hx (hb hby d21_310) rfl ?_
    refine s_iadd X8 hx (3 : Int32) (hb hby d21_312) (by decide) ?_
    refine s_iconst X8 hx (1 : Int32) (hb hby d21_313) rfl ?_
    refine s_iadd X8 hx (4 : Int32) (hb hby d21_314) (by decide) ?_
    refine s_aloadN X8 hx (hb hby d21_315) rfl rfl ?_
    refine st9 _ ?_
    refine s_iload X9 hx (hb hby d21_319) rfl ?_
    refine own_ial X9 hx hZ e9 P 1 1 (v := (.int (1 : Int32))) hV1_1 (hb hby d21_321) (by omega) ?_
    refine s_iload X9 hx (hb hby d21_322) rfl ?_
    refine s_isub X9 hx (0 : Int32) (hb hby d21_324) (by decide) ?_
    refine st10 _ ?_
    refine s_aloadN X10 hx (hb hby d21_328) rfl rfl ?_
    refine st11 _ ?_
    refine s_iload X11 hx (hb hby d21_332) rfl ?_
    refine s_iload X11 hx (hb hby d21_334) rfl ?_
    refine s_iadd X11 hx (3 : Int32) (hb hby d21_336) (by decide) ?_
    refine s_aloadN X11 hx (hb hby d21_337) rfl rfl ?_
    refine st12 _ ?_
    refine s_iload X12 hx (hb hby d21_341) rfl ?_
    refine s_iload X12 hx (hb hby d21_343) rfl ?_
    refine s_iadd X12 hx (3 : Int32) (hb hby d21_345) (by decide) ?_
    refine s_iconst X12 hx (1 : Int32) (hb hby d21_346) rfl ?_
    refine s_iadd X12 hx (4 : Int32) (hb hby d21_347) (by decide) ?_
    refine s_aloadN X12 hx (hb hby d21_348) rfl rfl ?_
    refine st13 _ ?_
    refine s_iload X13 hx (hb hby d21_352) rfl ?_
    refine own_ial X13 hx hZ e13 P10 1 1 (v := (.int (1 : Int32))) hV1_1 (hb hby d21_354) (by omega) ?_
    refine s_iload X13 hx (hb hby d21_355) rfl ?_
    refine s_isub X13 hx (0 : Int32) (hb hby d21_357) (by decide) ?_
    refine st14 _ ?_
    refine s_aloadN X14 hx (hb hby d21_361) rfl rfl ?_
    refine st15 _ ?_
    refine s_iload X15 hx (hb hby d21_365) rfl ?_
    refine s_iload X15 hx (hb hby d21_367) rfl ?_
    refine s_iadd X15 hx (3 : Int32) (hb hby d21_369) (by decide) ?_
    refine s_lloadN X15 hx (hb hby d21_370) rfl ?_
    refine s_aloadN X15 hx (hb hby d21_371) rfl rfl ?_
    refine st16 _ ?_
    refine s_lsub X16 hx (10 : Int64) (hb hby d21_375) (by decide) ?_
    refine st17 _ ?_
    refine s_aloadN X17 hx (hb hby d21_377) rfl rfl ?_
    refine st18 _ ?_
    refine s_iload X18 hx (hb hby d21_381) rfl ?_
    refine s_iload X18 hx (hb hby d21_383) rfl ?_
    refine s_iadd X18 hx (3 : Int32) (hb hby d21_385) (by decide) ?_
    refine s_aloadN X18 hx (hb hby d21_386) rfl rfl ?_
    refine st19 _ ?_
    refine s_iload X19 hx (hb hby d21_390) rfl ?_
    refine s_iload X19 hx (hb hby d21_392) rfl ?_
    refine s_iadd X19 hx (3 : Int32) (hb hby d21_394) (by decide) ?_
    refine s_iconst X19 hx (1 : Int32) (hb hby d21_395) rfl ?_
    refine s_isub X19 hx (2 : Int32) (hb hby d21_396) (by decide) ?_
    refine own_ial X19 hx hZ e19 P17 12 2 (v := (.int va)) (own_vn hV12_2) (hb hby d21_397) (by omega) ?_
    refine st20 _ ?_
    refine s_aloadN X20 hx (hb hby d21_399) rfl rfl ?_
    refine st21 _ ?_
    refine s_nullY X21 hx 461 (hb hby d21_403) (by decide) (by decide) ?_
    refine s_aloadN X21 hx (hb hby d21_461) rfl rfl ?_
    refine st22 _ ?_
    refine s_iload X22 hx (hb hby d21_465) rfl ?_
    refine s_dup2 X22 hx (hb hby d21_467) rfl rfl ?_
    refine own_ial X22 hx hZ e22 P20 1 1 (v := (.int (1 : Int32))) (own_vn (own_vn hV1_1)) (hb hby d21_468) (by omega) ?_
    refine s_iconst X22 hx (1 : Int32) (hb hby d21_469) rfl ?_
    refine s_iadd X22 hx (2 : Int32) (hb hby d21_470) (by decide) ?_
    refine st23 _ ?_
    refine s_aloadN X23 hx (hb hby d21_472) rfl rfl ?_
    refine s_iload X23 hx (hb hby d21_473) rfl ?_
    refine st24.trans ?_
    refine s_iload X24 hx (hb hby d21_478) rfl ?_
    refine s_iload X24 hx (hb hby d21_480) rfl ?_
    refine s_iadd X24 hx (3 : Int32) (hb hby d21_482) (by decide) ?_
    exact retI X24 hx Bd.returns (hb hby d21_483) hr
  · show ((_ : Option Value) = some (.int (3 : Int32)) ∧ Fr n0 _ ∧ own_PS Z T24.heap n0 ob nA A F (own_vs (own_vs (own_vs V 11 3 (.long (10 : Int64))) 12 3 (.int va)) 1 1 (.int (2 : Int32))))
    rw [eh24]
    exact ⟨rfl, N24, P23⟩
set_option maxRecDepth 65536 in
set_option maxHeartbeats 40000000 in
theorem rm17_5 (l : Launch) (Z : State) (a0 : Array Value) (hw : own_HW Z a0) (ws : List Jvm.Cond) {nA : Nat} {A : Nat → Addr} {F : Nat → Value} {V : Nat → List Value} (ob : Addr)  (h0 : Heap) (n0 : Nat) (P : own_PS Z h0 n0 ob nA A F V) (hA : 13 ≤ nA) (hB : nA ≤ 14) (hF13 : F 13 = .null) :
    own_C l Z own_y18 bc17 2 (some .long) ws 0 0 #[(.ref ob), (.int (2 : Int32))] h0 (fun v h L => (v = some (.long (0 : Int64)) ∧ Fr n0 L ∧ h = h0)) := by
  refine MetFree.of_bodySF (plainFor_of_name own_pn2) hisR ?_
  intro p e s m args below meth c s₁ Bd hml0 hP hK
  obtain ⟨rfl, hZ, hh⟩ := hP
  have hx := Bd.exec
  have hby := Bd.bytes
  have hml : c.maxLocals = 2 := hml0
  have hown : s.vm.findClass "com/example/jobwright/jobwright/policies/ProfileSteps" = some m.cls := findClass_of_methodNamed Bd.named
  have X0 : Stand p l e ({ frames := 0, cells := 0, slots := 0, locals := 0 } : Room) s m #[(.ref ob), (.int (2 : Int32))] below meth c s₁ [] 0 0 := Stand.of_body Bd
  have e0 : s₁.heap = h0 := by rw [← hh, Bd.state]; rfl
  have N0 := Fr.nil n0
  have ef : entryFrame m #[(.ref ob), (.int (2 : Int32))] 2 = mkF m 0 #[.val (.ref ob), .val (.int (2 : Int32))] [] := by first | (simp [entryFrame, mkF, argsToLocals, Value.category]; done) | rfl
  obtain ⟨T1, X1, e1, st1⟩ := own_gf X0 hx hZ hown e0 P 13 (own_w hw 96) (v := .null) hF13 (hb hby d17_1) #[.val (.ref ob), .val (.int (2 : Int32))] []
  obtain ⟨fs, hr, hrun, hended, hW, hsame⟩ := X1.leave (v := some (.long (0 : Int64))) (fun h => by rw [Bd.returns] at h; cases h)
  refine ⟨_, _, castTop ef ?_, hrun, hended, _, _, rfl, ?_, ⟨_, rfl⟩, hW, hsame.mono (by decide) (by decide)⟩
  · refine s_aloadN X0 hx (hb hby d17_0) rfl rfl ?_
    refine st1 _ ?_
    refine s_nnullN X1 hx (hb hby d17_4) ?_
    refine s_lconst X1 hx (0 : Int64) (hb hby d17_7) ?_ (by decide)
    refine s_goto X1 hx 31 (hb hby d17_8) (by decide) (by decide) ?_
    exact retOut X1 hx Bd.returns rfl (Or.inr (Or.inl ⟨rfl, rfl, _, rfl⟩)) (hb hby d17_31) hr
  · show ((_ : Option Value) = some (.long (0 : Int64)) ∧ Fr n0 _ ∧ T1.heap = h0)
    rw [e1]
    exact ⟨rfl, N0, rfl⟩
set_option maxRecDepth 65536 in
set_option maxHeartbeats 40000000 in
theorem rm13_5 (l : Launch) (Z : State) (a0 : Array Value) (hw : own_HW Z a0) (ws : List Jvm.Cond) {nA : Nat} {A : Nat → Addr} {F : Nat → Value} {V : Nat → List Value} (ob : Addr)  (h0 : Heap) (n0 : Nat) (P : own_PS Z h0 n0 ob nA A F V) (hA : 13 ≤ nA) (hB : nA ≤ 14) (hF19 : F 19 = (.int (1 : Int32))) (hF13 : F 13 = .null) (hV0_8 : (V 0).getD 8 (own_aZ 0) = (.int (0 : Int32))) (hV0_9 : (V 0).getD 9 (own_aZ 0) = (.int (0 : Int32))) (hV5_0 : (V 5).getD 0 (own_aZ 5) = (.int (0 : Int32))) (hV1_2 : (V 1).getD 2 (own_aZ 1) = (.int (1 : Int32))) (hV12_4 : (V 12).getD 4 (own_aZ 12) = (.int (0 : Int32))) (hV6_0 : (V 6).getD 0 (own_aZ 6) = (.long (0 : Int64))) :
    own_C l Z own_y20 bc13 4 (some .boolean) ws 1 17 #[(.ref ob), (.int (2 : Int32))] h0 (fun v h L => (v = some (.int (1 : Int32)) ∧ Fr n0 L ∧ own_PS Z h n0 ob nA A F (own_vs (own_vs (own_vs (own_vs (own_vs V 5 2 (.int (0 : Int32))) 6 2 (.long (0 : Int64))) 4 2 (.int (2 : Int32))) 8 2 (.int (1 : Int32))) 10 2 (.int (1 : Int32))))) := by
  refine MetFree.of_bodySF (plainFor_of_name own_pn2) hisR ?_
  intro p e s m args below meth c s₁ Bd hml0 hP hK
  obtain ⟨rfl, hZ, hh⟩ := hP
  have hx := Bd.exec
  have hby := Bd.bytes
  have hml : c.maxLocals = 4 := hml0
  have hown : s.vm.findClass "com/example/jobwright/jobwright/policies/ProfileSteps" = some m.cls := findClass_of_methodNamed Bd.named
  have X0 : Stand p l e ({ frames := 1, cells := 0, slots := 0, locals := 17 } : Room) s m #[(.ref ob), (.int (2 : Int32))] below meth c s₁ [] 0 0 := Stand.of_body Bd
  have e0 : s₁.heap = h0 := by rw [← hh, Bd.state]; rfl
  have N0 := Fr.nil n0
  have ef : entryFrame m #[(.ref ob), (.int (2 : Int32))] 4 = mkF m 0 #[.val (.ref ob), .val (.int (2 : Int32)), .unset, .unset] [] := by first | (simp [entryFrame, mkF, argsToLocals, Value.category]; done) | rfl
  obtain ⟨cq1, kq1, q1a, q1b, q1c⟩ := isOf hZ e0 P.1
  obtain ⟨_, _, ⟨T1, L1, k1, n1⟩, -, X1, ⟨Lc1, hQ1, l1, y1, z1⟩, st1⟩ := X0.virtualBackUp hx (x := own_y14) (y := own_y13) (owner := "com/example/jobwright/jobwright/policies/Treap") hown (mvT hZ (own_w hw 159)) (mvT hZ (own_w hw 160)) (mvT hZ (own_w hw 161)) (by decide) (mvT hZ (own_w hw 163)) (mvT hZ (own_w hw 162)) (backOf (W := 0) (rm14_2 l Z a0 hw [] ob  h0 n0 P hA hB  hV0_8 ) hZ (own_w hw 164) (own_w hw 9) (by decide) (by decide)) q1a q1c (g := (mkF m 2 #[.val (.ref ob), .val (.int (2 : Int32)), .unset, .unset] [(.int (2 : Int32)), (.ref ob)])) rfl (by rw [hml]; rfl) (Steps.refl _) (argsL := [(.int (2 : Int32))]) (rest := []) (lenOf own_pd5 rfl) rfl (by show 2 * 0 + _ ≤ _; exact Nat.le_of_eq rfl) (hb hby d13_2) (fun _ _ => ⟨rfl, e0, (by decide : 0 + 0 ≤ _), (by decide : 0 + 0 ≤ _)⟩)
  dsimp only [Pt.U, Pt.locs, Pt.cells, Pt.slots] at X1 l1 y1 z1 st1 hQ1
  subst l1 y1 z1
  obtain ⟨rfl, Nq1, eh1⟩ := hQ1
  have N1 := Fr.app N0 Nq1
  obtain ⟨cq2, kq2, q2a, q2b, q2c⟩ := isOf hZ eh1 P.1
  obtain ⟨_, _, ⟨T2, L2, k2, n2⟩, -, X2, ⟨Lc2, hQ2, l2, y2, z2⟩, st2⟩ := X1.virtualBackUp hx (x := own_y15) (y := own_y4) (owner := "com/example/jobwright/jobwright/policies/Treap") hown (mvT hZ (own_w hw 165)) (mvT hZ (own_w hw 166)) (mvT hZ (own_w hw 167)) (by decide) (mvT hZ (own_w hw 169)) (mvT hZ (own_w hw 168)) (backOf (W := 0) (rm15_2 l Z a0 hw [] ob  h0 n0 P hA hB  hV0_9 ) hZ (own_w hw 170) (own_w hw 9) (by decide) (by decide)) q2a q2c (g := (mkF m 8 #[.val (.ref ob), .val (.int (2 : Int32)), .val (.int (0 : Int32)), .unset] [(.int (2 : Int32)), (.ref ob)])) rfl (by rw [hml]; rfl) (Steps.refl _) (argsL := [(.int (2 : Int32))]) (rest := []) (lenOf own_pd5 rfl) rfl (by show 2 * 0 + _ ≤ _; exact Nat.le_of_eq rfl) (hb hby d13_8) (fun _ _ => ⟨rfl, eh1, (by decide : 0 + 0 ≤ _), (by decide : 0 + 0 ≤ _)⟩)
  dsimp only [Pt.U, Pt.locs, Pt.cells, Pt.slots] at X2 l2 y2 z2 st2 hQ2
  subst l2 y2 z2
  obtain ⟨rfl, Nq2, eh2⟩ := hQ2
  have N2 := Fr.app N1 Nq2
  obtain ⟨T3, X3, e3, st3⟩ := own_gf X2 hx hZ hown eh2 P 5 (own_w hw 66) (v := (.ref (A 5))) (P.2.2.2.1 5 (by omega)) (hb hby d13_13) #[.val (.ref ob), .val (.int (2 : Int32)), .val (.int (0 : Int32)), .val (.int (0 : Int32))] []
  obtain ⟨T4, X4, e4, st4⟩ := own_gf X3 hx hZ hown e3 P 5 (own_w hw 66) (v := (.ref (A 5))) (P.2.2.2.1 5 (by omega)) (hb hby d13_18) #[.val (.ref ob), .val (.int (2 : Int32)), .val (.int (0 : Int32)), .val (.int (0 : Int32))] [(.int (2 : Int32)), (.ref (A 5))]
  obtain ⟨cq5, q5, q5'⟩ := P.1.cell
  obtain ⟨_, _, ⟨T5, L5, k5, n5⟩, -, X5, ⟨Lc5, hQ5, l5, y5, z5⟩, st5⟩ := X4.privateBack hx (y := own_y16) hown (mvT hZ (own_w hw 171)) (mvT hZ (own_w hw 172)) (own_psel (z := own_y17) (mvT hZ (own_w hw 103)) (mvP hZ (own_w hw 173)) (mvT hZ (own_w hw 172)) rfl (by decide)) (Cond.privateMethod_at (mvP hZ (own_w hw 173) (args := #[]))) (mvT hZ (own_w hw 174)) (by decide) (backOf (W := 3) (rm16_2 l Z a0 hw [] ob  h0 n0 P hA hB hF19 hV1_2 hV12_4 ) hZ (own_w hw 174) (own_w hw 2) (by decide) (by decide)) (g := (mkF m 25 #[.val (.ref ob), .val (.int (2 : Int32)), .val (.int (0 : Int32)), .val (.int (0 : Int32))] [(.int (2 : Int32)), (.ref ob), (.int (0 : Int32)), (.int (2 : Int32)), (.ref (A 5))])) rfl (by rw [hml]; rfl) (Steps.refl _) (a := ob) (by rw [e4]; exact q5) q5' (argsL := [(.int (2 : Int32))]) (rest := [(.int (0 : Int32)), (.int (2 : Int32)), (.ref (A 5))]) (lenOf own_pd5 rfl) rfl (by show 2 * 0 + _ ≤ _; exact Nat.le_of_eq rfl) (hb hby d13_25) (fun _ _ => ⟨rfl, e4, (by decide : 0 + 0 ≤ _), (by decide : 0 + 0 ≤ _)⟩)
  dsimp only [Pt.U, Pt.locs, Pt.cells, Pt.slots] at X5 l5 y5 z5 st5 hQ5
  subst l5 y5 z5
  obtain ⟨rfl, Nq5, eh5⟩ := hQ5
  have N5 := Fr.app N2 Nq5
  obtain ⟨T6, X6, e6, st6⟩ := own_gf X5 hx hZ hown eh5 P 5 (own_w hw 66) (v := (.ref (A 5))) (P.2.2.2.1 5 (by omega)) (hb hby d13_30) #[.val (.ref ob), .val (.int (2 : Int32)), .val (.int (0 : Int32)), .val (.int (0 : Int32))] [(.int (0 : Int32)), (.int (2 : Int32)), (.ref (A 5))]
  obtain ⟨T7, h7, l7, X7, e7, N7, P7, st7⟩ := own_ist X6 hx hZ e6 N5 P 5 2 (j := (2 : Int32)) (x := (0 : Int32)) (hb hby d13_36) #[.val (.ref ob), .val (.int (2 : Int32)), .val (.int (0 : Int32)), .val (.int (0 : Int32))] [] (by omega)
  obtain ⟨T8, X8, e8, st8⟩ := own_gf X7 hx hZ hown e7 P7 6 (own_w hw 68) (v := (.ref (A 6))) (P7.2.2.2.1 6 (by omega)) (hb hby d13_38) #[.val (.ref ob), .val (.int (2 : Int32)), .val (.int (0 : Int32)), .val (.int (0 : Int32))] []
  obtain ⟨T9, X9, e9, st9⟩ := own_gf X8 hx hZ hown e8 P7 6 (own_w hw 68) (v := (.ref (A 6))) (P7.2.2.2.1 6 (by omega)) (hb hby d13_43) #[.val (.ref ob), .val (.int (2 : Int32)), .val (.int (0 : Int32)), .val (.int (0 : Int32))] [(.int (2 : Int32)), (.ref (A 6))]
  obtain ⟨cq10, q10, q10'⟩ := P7.1.cell
  obtain ⟨_, _, ⟨T10, L10, k10, n10⟩, -, X10, ⟨Lc10, hQ10, l10, y10, z10⟩, st10⟩ := X9.privateBack hx (y := own_y18) hown (mvT hZ (own_w hw 175)) (mvT hZ (own_w hw 176)) (own_psel (z := own_y17) (mvT hZ (own_w hw 103)) (mvP hZ (own_w hw 177)) (mvT hZ (own_w hw 176)) rfl (by decide)) (Cond.privateMethod_at (mvP hZ (own_w hw 177) (args := #[]))) (mvT hZ (own_w hw 178)) (by decide) (backOf (W := 4) (rm17_5 l Z a0 hw [] ob  h7 n0 P7 hA hB hF13  ) hZ (own_w hw 178) (own_w hw 2) (by decide) (by decide)) (g := (mkF m 50 #[.val (.ref ob), .val (.int (2 : Int32)), .val (.int (0 : Int32)), .val (.int (0 : Int32))] [(.int (2 : Int32)), (.ref ob), (.long (0 : Int64)), (.int (2 : Int32)), (.ref (A 6))])) rfl (by rw [hml]; rfl) (Steps.refl _) (a := ob) (by rw [e9]; exact q10) q10' (argsL := [(.int (2 : Int32))]) (rest := [(.long (0 : Int64)), (.int (2 : Int32)), (.ref (A 6))]) (lenOf own_pd6 rfl) rfl (by show 2 * 0 + _ ≤ _; exact Nat.le_of_eq rfl) (hb hby d13_50) (fun _ _ => ⟨rfl, e9, (by decide : 0 + 0 ≤ _), (by decide : 0 + 0 ≤ _)⟩)
  dsimp only [Pt.U, Pt.locs, Pt.cells, Pt.slots] at X10 l10 y10 z10 st10 hQ10
  subst l10 y10 z10
  obtain ⟨rfl, Nq10, eh10⟩ := hQ10
  have N10 := Fr.app N7 Nq10
  obtain ⟨T11, X11, e11, st11⟩ := own_gf X10 hx hZ hown eh10 P7 6 (own_w hw 68) (v := (.ref (A 6))) (P7.2.2.2.1 6 (by omega)) (hb hby d13_55) #[.val (.ref ob), .val (.int (2 : Int32)), .val (.int (0 : Int32)), .val (.int (0 : Int32))] [(.long (0 : Int64)), (.int (2 : Int32)), (.ref (A 6))]
  obtain ⟨T12, h12, l12, X12, e12, N12, P12, st12⟩ := own_lst X11 hx hZ e11 N10 P7 6 2 (j := (2 : Int32)) (x := (0 : Int64)) (hb hby d13_61) #[.val (.ref ob), .val (.int (2 : Int32)), .val (.int (0 : Int32)), .val (.int (0 : Int32))] [] (by omega)
  obtain ⟨T13, X13, e13, st13⟩ := own_gf X12 hx hZ hown e12 P12 4 (own_w hw 64) (v := (.ref (A 4))) (P12.2.2.2.1 4 (by omega)) (hb hby d13_63) #[.val (.ref ob), .val (.int (2 : Int32)), .val (.int (0 : Int32)), .val (.int (0 : Int32))] []
  obtain ⟨T14, h14, l14, X14, e14, N14, P14, st14⟩ := own_ist X13 hx hZ e13 N12 P12 4 2 (j := (2 : Int32)) (x := (2 : Int32)) (hb hby d13_81) #[.val (.ref ob), .val (.int (2 : Int32)), .val (.int (0 : Int32)), .val (.int (0 : Int32))] [] (by omega)
  obtain ⟨cq15, q15, q15'⟩ := P14.1.cell
  obtain ⟨_, _, ⟨T15, L15, k15, n15⟩, -, X15, ⟨Lc15, hQ15, l15, y15, z15⟩, st15⟩ := X14.privateBack hx (y := own_y19) hown (mvT hZ (own_w hw 179)) (mvT hZ (own_w hw 180)) (own_psel (z := own_y17) (mvT hZ (own_w hw 103)) (mvP hZ (own_w hw 181)) (mvT hZ (own_w hw 180)) rfl (by decide)) (Cond.privateMethod_at (mvP hZ (own_w hw 181) (args := #[]))) (mvT hZ (own_w hw 182)) (by decide) (backOf (W := 0) (rm18_2 l Z a0 hw [] ob  h14 n0 P14 hA hB   ) hZ (own_w hw 182) (own_w hw 2) (by decide) (by decide)) (g := (mkF m 84 #[.val (.ref ob), .val (.int (2 : Int32)), .val (.int (0 : Int32)), .val (.int (0 : Int32))] [(.int (2 : Int32)), (.ref ob)])) rfl (by rw [hml]; rfl) (Steps.refl _) (a := ob) (by rw [e14]; exact q15) q15' (argsL := [(.int (2 : Int32))]) (rest := []) (lenOf own_pd0 rfl) rfl (by show 2 * 0 + _ ≤ _; exact Nat.le_of_eq rfl) (hb hby d13_84) (fun _ _ => ⟨rfl, e14, (by decide : 0 + 0 ≤ _), (by decide : 0 + 0 ≤ _)⟩)
  dsimp only [Pt.U, Pt.locs, Pt.cells, Pt.slots] at X15 l15 y15 z15 st15 hQ15
  subst l15 y15 z15
  obtain ⟨rfl, Nq15, P15⟩ := hQ15
  have N15 := Fr.app N14 Nq15
  obtain ⟨fs, hr, hrun, hended, hW, hsame⟩ := X15.leave (v := some (.int (1 : Int32))) (fun h => by rw [Bd.returns] at h; cases h)
  refine ⟨_, _, castTop ef ?_, hrun, hended, _, _, rfl, ?_, ⟨_, rfl⟩, hW, hsame.mono (by decide) (by decide)⟩
  · refine s_aloadN X0 hx (hb hby d13_0) rfl rfl ?_
    refine s_iloadN X0 hx (hb hby d13_1) rfl ?_
    refine st1.trans ?_
    refine s_istoreN X1 hx #[.val (.ref ob), .val (.int (2 : Int32)), .val (.int (0 : Int32)), .unset] (hb hby d13_5) rfl ?_
    refine s_aloadN X1 hx (hb hby d13_6) rfl rfl ?_
    refine s_iloadN X1 hx (hb hby d13_7) rfl ?_
    refine st2.trans ?_
    refine s_istoreN X2 hx #[.val (.ref ob), .val (.int (2 : Int32)), .val (.int (0 : Int32)), .val (.int (0 : Int32))] (hb hby d13_11) rfl ?_
    refine s_aloadN X2 hx (hb hby d13_12) rfl rfl ?_
    refine st3 _ ?_
    refine s_iloadN X3 hx (hb hby d13_16) rfl ?_
    refine s_aloadN X3 hx (hb hby d13_17) rfl rfl ?_
    refine st4 _ ?_
    refine s_iloadN X4 hx (hb hby d13_21) rfl ?_
    refine own_ial X4 hx hZ e4 P 5 0 (v := (.int (0 : Int32))) hV5_0 (hb hby d13_22) (by omega) ?_
    refine s_aloadN X4 hx (hb hby d13_23) rfl rfl ?_
    refine s_iloadN X4 hx (hb hby d13_24) rfl ?_
    refine st5.trans ?_
    refine s_iadd X5 hx (0 : Int32) (hb hby d13_28) (by decide) ?_
    refine s_aloadN X5 hx (hb hby d13_29) rfl rfl ?_
    refine st6 _ ?_
    refine s_iloadN X6 hx (hb hby d13_33) rfl ?_
    refine own_ial X6 hx hZ e6 P 5 0 (v := (.int (0 : Int32))) hV5_0 (hb hby d13_34) (by omega) ?_
    refine s_iadd X6 hx (0 : Int32) (hb hby d13_35) (by decide) ?_
    refine st7 _ ?_
    refine s_aloadN X7 hx (hb hby d13_37) rfl rfl ?_
    refine st8 _ ?_
    refine s_iloadN X8 hx (hb hby d13_41) rfl ?_
    refine s_aloadN X8 hx (hb hby d13_42) rfl rfl ?_
    refine st9 _ ?_
    refine s_iloadN X9 hx (hb hby d13_46) rfl ?_
    refine own_lal X9 hx hZ e9 P7 6 0 (v := (.long (0 : Int64))) (own_vn hV6_0) (hb hby d13_47) (by omega) ?_
    refine s_aloadN X9 hx (hb hby d13_48) rfl rfl ?_
    refine s_iloadN X9 hx (hb hby d13_49) rfl ?_
    refine st10.trans ?_
    refine s_ladd X10 hx (0 : Int64) (hb hby d13_53) (by decide) ?_
    refine s_aloadN X10 hx (hb hby d13_54) rfl rfl ?_
    refine st11 _ ?_
    refine s_iloadN X11 hx (hb hby d13_58) rfl ?_
    refine own_lal X11 hx hZ e11 P7 6 0 (v := (.long (0 : Int64))) (own_vn hV6_0) (hb hby d13_59) (by omega) ?_
    refine s_ladd X11 hx (0 : Int64) (hb hby d13_60) (by decide) ?_
    refine st12 _ ?_
    refine s_aloadN X12 hx (hb hby d13_62) rfl rfl ?_
    refine st13 _ ?_
    refine s_iloadN X13 hx (hb hby d13_66) rfl ?_
    refine s_iloadN X13 hx (hb hby d13_67) rfl ?_
    refine s_ifN X13 hx (hb hby d13_68) (by decide) ?_
    refine s_iloadN X13 hx (hb hby d13_71) rfl ?_
    refine s_goto X13 hx 81 (hb hby d13_72) (by decide) (by decide) ?_
    refine st14 _ ?_
    refine s_aloadN X14 hx (hb hby d13_82) rfl rfl ?_
    refine s_iloadN X14 hx (hb hby d13_83) rfl ?_
    refine st15.trans ?_
    refine s_iconst X15 hx (1 : Int32) (hb hby d13_87) rfl ?_
    exact retN X15 hx (t := .boolean) Bd.returns (by simp) (hb hby d13_88) hr
  · show ((_ : Option Value) = some (.int (1 : Int32)) ∧ Fr n0 _ ∧ own_PS Z T15.heap n0 ob nA A F (own_vs (own_vs (own_vs (own_vs (own_vs V 5 2 (.int (0 : Int32))) 6 2 (.long (0 : Int64))) 4 2 (.int (2 : Int32))) 8 2 (.int (1 : Int32))) 10 2 (.int (1 : Int32))))
    exact ⟨rfl, N15, P15⟩
set_option maxRecDepth 65536 in
set_option maxHeartbeats 40000000 in
theorem rm13_6 (l : Launch) (Z : State) (a0 : Array Value) (hw : own_HW Z a0) (ws : List Jvm.Cond) {nA : Nat} {A : Nat → Addr} {F : Nat → Value} {V : Nat → List Value} (ob : Addr) (va : Int32) (h0 : Heap) (n0 : Nat) (P : own_PS Z h0 n0 ob nA A F V) (hA : 13 ≤ nA) (hB : nA ≤ 14) (hF19 : F 19 = (.int (1 : Int32))) (hF13 : F 13 = .null) (hV0_4 : (V 0).getD 4 (own_aZ 0) = (.int (0 : Int32))) (hV0_5 : (V 0).getD 5 (own_aZ 0) = (.int (2 : Int32))) (hV5_0 : (V 5).getD 0 (own_aZ 5) = (.int (0 : Int32))) (hV1_1 : (V 1).getD 1 (own_aZ 1) = (.int (2 : Int32))) (hV12_3 : (V 12).getD 3 (own_aZ 12) = (.int va)) (hV5_2 : (V 5).getD 2 (own_aZ 5) = (.int (0 : Int32))) (hV6_0 : (V 6).getD 0 (own_aZ 6) = (.long (0 : Int64))) (hV6_2 : (V 6).getD 2 (own_aZ 6) = (.long (0 : Int64))) :
    own_C l Z own_y20 bc13 4 (some .boolean) ws 1 17 #[(.ref ob), (.int (1 : Int32))] h0 (fun v h L => (v = some (.int (1 : Int32)) ∧ Fr n0 L ∧ own_PS Z h n0 ob nA A F (own_vs (own_vs (own_vs (own_vs (own_vs V 5 1 (.int (((0 : Int32) + va) + (0 : Int32)))) 6 1 (.long (0 : Int64))) 4 1 (.int (1 : Int32))) 8 1 (.int (1 : Int32))) 10 1 (.int (1 : Int32))))) := by
  refine MetFree.of_bodySF (plainFor_of_name own_pn2) hisR ?_
  intro p e s m args below meth c s₁ Bd hml0 hP hK
  obtain ⟨rfl, hZ, hh⟩ := hP
  have hx := Bd.exec
  have hby := Bd.bytes
  have hml : c.maxLocals = 4 := hml0
  have hown : s.vm.findClass "com/example/jobwright/jobwright/policies/ProfileSteps" = some m.cls := findClass_of_methodNamed Bd.named
  have X0 : Stand p l e ({ frames := 1, cells := 0, slots := 0, locals := 17 } : Room) s m #[(.ref ob), (.int (1 : Int32))] below meth c s₁ [] 0 0 := Stand.of_body Bd
  have e0 : s₁.heap = h0 := by rw [← hh, Bd.state]; rfl
  have N0 := Fr.nil n0
  have ef : entryFrame m #[(.ref ob), (.int (1 : Int32))] 4 = mkF m 0 #[.val (.ref ob), .val (.int (1 : Int32)), .unset, .unset] [] := by first | (simp [entryFrame, mkF, argsToLocals, Value.category]; done) | rfl
  obtain ⟨cq1, kq1, q1a, q1b, q1c⟩ := isOf hZ e0 P.1
  obtain ⟨_, _, ⟨T1, L1, k1, n1⟩, -, X1, ⟨Lc1, hQ1, l1, y1, z1⟩, st1⟩ := X0.virtualBackUp hx (x := own_y14) (y := own_y13) (owner := "com/example/jobwright/jobwright/policies/Treap") hown (mvT hZ (own_w hw 159)) (mvT hZ (own_w hw 160)) (mvT hZ (own_w hw 161)) (by decide) (mvT hZ (own_w hw 163)) (mvT hZ (own_w hw 162)) (backOf (W := 0) (rm14_1 l Z a0 hw [] ob  h0 n0 P hA hB  hV0_4 ) hZ (own_w hw 164) (own_w hw 9) (by decide) (by decide)) q1a q1c (g := (mkF m 2 #[.val (.ref ob), .val (.int (1 : Int32)), .unset, .unset] [(.int (1 : Int32)), (.ref ob)])) rfl (by rw [hml]; rfl) (Steps.refl _) (argsL := [(.int (1 : Int32))]) (rest := []) (lenOf own_pd5 rfl) rfl (by show 2 * 0 + _ ≤ _; exact Nat.le_of_eq rfl) (hb hby d13_2) (fun _ _ => ⟨rfl, e0, (by decide : 0 + 0 ≤ _), (by decide : 0 + 0 ≤ _)⟩)
  dsimp only [Pt.U, Pt.locs, Pt.cells, Pt.slots] at X1 l1 y1 z1 st1 hQ1
  subst l1 y1 z1
  obtain ⟨rfl, Nq1, eh1⟩ := hQ1
  have N1 := Fr.app N0 Nq1
  obtain ⟨cq2, kq2, q2a, q2b, q2c⟩ := isOf hZ eh1 P.1
  obtain ⟨_, _, ⟨T2, L2, k2, n2⟩, -, X2, ⟨Lc2, hQ2, l2, y2, z2⟩, st2⟩ := X1.virtualBackUp hx (x := own_y15) (y := own_y4) (owner := "com/example/jobwright/jobwright/policies/Treap") hown (mvT hZ (own_w hw 165)) (mvT hZ (own_w hw 166)) (mvT hZ (own_w hw 167)) (by decide) (mvT hZ (own_w hw 169)) (mvT hZ (own_w hw 168)) (backOf (W := 0) (rm15_3 l Z a0 hw [] ob  h0 n0 P hA hB  hV0_5 ) hZ (own_w hw 170) (own_w hw 9) (by decide) (by decide)) q2a q2c (g := (mkF m 8 #[.val (.ref ob), .val (.int (1 : Int32)), .val (.int (0 : Int32)), .unset] [(.int (1 : Int32)), (.ref ob)])) rfl (by rw [hml]; rfl) (Steps.refl _) (argsL := [(.int (1 : Int32))]) (rest := []) (lenOf own_pd5 rfl) rfl (by show 2 * 0 + _ ≤ _; exact Nat.le_of_eq rfl) (hb hby d13_8) (fun _ _ => ⟨rfl, eh1, (by decide : 0 + 0 ≤ _), (by decide : 0 + 0 ≤ _)⟩)
  dsimp only [Pt.U, Pt.locs, Pt.cells, Pt.slots] at X2 l2 y2 z2 st2 hQ2
  subst l2 y2 z2
  obtain ⟨rfl, Nq2, eh2⟩ := hQ2
  have N2 := Fr.app N1 Nq2
  obtain ⟨T3, X3, e3, st3⟩ := own_gf X2 hx hZ hown eh2 P 5 (own_w hw 66) (v := (.ref (A 5))) (P.2.2.2.1 5 (by omega)) (hb hby d13_13) #[.val (.ref ob), .val (.int (1 : Int32)), .val (.int (0 : Int32)), .val (.int (2 : Int32))] []
  obtain ⟨T4, X4, e4, st4⟩ := own_gf X3 hx hZ hown e3 P 5 (own_w hw 66) (v := (.ref (A 5))) (P.2.2.2.1 5 (by omega)) (hb hby d13_18) #[.val (.ref ob), .val (.int (1 : Int32)), .val (.int (0 : Int32)), .val (.int (2 : Int32))] [(.int (1 : Int32)), (.ref (A 5))]
  obtain ⟨cq5, q5, q5'⟩ := P.1.cell
  obtain ⟨_, _, ⟨T5, L5, k5, n5⟩, -, X5, ⟨Lc5, hQ5, l5, y5, z5⟩, st5⟩ := X4.privateBack hx (y := own_y16) hown (mvT hZ (own_w hw 171)) (mvT hZ (own_w hw 172)) (own_psel (z := own_y17) (mvT hZ (own_w hw 103)) (mvP hZ (own_w hw 173)) (mvT hZ (own_w hw 172)) rfl (by decide)) (Cond.privateMethod_at (mvP hZ (own_w hw 173) (args := #[]))) (mvT hZ (own_w hw 174)) (by decide) (backOf (W := 3) (rm16_3 l Z a0 hw [] ob va h0 n0 P hA hB hF19 hV1_1 hV12_3 ) hZ (own_w hw 174) (own_w hw 2) (by decide) (by decide)) (g := (mkF m 25 #[.val (.ref ob), .val (.int (1 : Int32)), .val (.int (0 : Int32)), .val (.int (2 : Int32))] [(.int (1 : Int32)), (.ref ob), (.int (0 : Int32)), (.int (1 : Int32)), (.ref (A 5))])) rfl (by rw [hml]; rfl) (Steps.refl _) (a := ob) (by rw [e4]; exact q5) q5' (argsL := [(.int (1 : Int32))]) (rest := [(.int (0 : Int32)), (.int (1 : Int32)), (.ref (A 5))]) (lenOf own_pd5 rfl) rfl (by show 2 * 0 + _ ≤ _; exact Nat.le_of_eq rfl) (hb hby d13_25) (fun _ _ => ⟨rfl, e4, (by decide : 0 + 0 ≤ _), (by decide : 0 + 0 ≤ _)⟩)
  dsimp only [Pt.U, Pt.locs, Pt.cells, Pt.slots] at X5 l5 y5 z5 st5 hQ5
  subst l5 y5 z5
  obtain ⟨rfl, Nq5, eh5⟩ := hQ5
  have N5 := Fr.app N2 Nq5
  obtain ⟨T6, X6, e6, st6⟩ := own_gf X5 hx hZ hown eh5 P 5 (own_w hw 66) (v := (.ref (A 5))) (P.2.2.2.1 5 (by omega)) (hb hby d13_30) #[.val (.ref ob), .val (.int (1 : Int32)), .val (.int (0 : Int32)), .val (.int (2 : Int32))] [(.int ((0 : Int32) + va)), (.int (1 : Int32)), (.ref (A 5))]
  obtain ⟨T7, h7, l7, X7, e7, N7, P7, st7⟩ := own_ist X6 hx hZ e6 N5 P 5 1 (j := (1 : Int32)) (x := (((0 : Int32) + va) + (0 : Int32))) (hb hby d13_36) #[.val (.ref ob), .val (.int (1 : Int32)), .val (.int (0 : Int32)), .val (.int (2 : Int32))] [] (by omega)
  obtain ⟨T8, X8, e8, st8⟩ := own_gf X7 hx hZ hown e7 P7 6 (own_w hw 68) (v := (.ref (A 6))) (P7.2.2.2.1 6 (by omega)) (hb hby d13_38) #[.val (.ref ob), .val (.int (1 : Int32)), .val (.int (0 : Int32)), .val (.int (2 : Int32))] []
  obtain ⟨T9, X9, e9, st9⟩ := own_gf X8 hx hZ hown e8 P7 6 (own_w hw 68) (v := (.ref (A 6))) (P7.2.2.2.1 6 (by omega)) (hb hby d13_43) #[.val (.ref ob), .val (.int (1 : Int32)), .val (.int (0 : Int32)), .val (.int (2 : Int32))] [(.int (1 : Int32)), (.ref (A 6))]
  obtain ⟨cq10, q10, q10'⟩ := P7.1.cell
  obtain ⟨_, _, ⟨T10, L10, k10, n10⟩, -, X10, ⟨Lc10, hQ10, l10, y10, z10⟩, st10⟩ := X9.privateBack hx (y := own_y18) hown (mvT hZ (own_w hw 175)) (mvT hZ (own_w hw 176)) (own_psel (z := own_y17) (mvT hZ (own_w hw 103)) (mvP hZ (own_w hw 177)) (mvT hZ (own_w hw 176)) rfl (by decide)) (Cond.privateMethod_at (mvP hZ (own_w hw 177) (args := #[]))) (mvT hZ (own_w hw 178)) (by decide) (backOf (W := 4) (rm17_4 l Z a0 hw [] ob  h7 n0 P7 hA hB hF13  ) hZ (own_w hw 178) (own_w hw 2) (by decide) (by decide)) (g := (mkF m 50 #[.val (.ref ob), .val (.int (1 : Int32)), .val (.int (0 : Int32)), .val (.int (2 : Int32))] [(.int (1 : Int32)), (.ref ob), (.long (0 : Int64)), (.int (1 : Int32)), (.ref (A 6))])) rfl (by rw [hml]; rfl) (Steps.refl _) (a := ob) (by rw [e9]; exact q10) q10' (argsL := [(.int (1 : Int32))]) (rest := [(.long (0 : Int64)), (.int (1 : Int32)), (.ref (A 6))]) (lenOf own_pd6 rfl) rfl (by show 2 * 0 + _ ≤ _; exact Nat.le_of_eq rfl) (hb hby d13_50) (fun _ _ => ⟨rfl, e9, (by decide : 0 + 0 ≤ _), (by decide : 0 + 0 ≤ _)⟩)
  dsimp only [Pt.U, Pt.locs, Pt.cells, Pt.slots] at X10 l10 y10 z10 st10 hQ10
  subst l10 y10 z10
  obtain ⟨rfl, Nq10, eh10⟩ := hQ10
  have N10 := Fr.app N7 Nq10
  obtain ⟨T11, X11, e11, st11⟩ := own_gf X10 hx hZ hown eh10 P7 6 (own_w hw 68) (v := (.ref (A 6))) (P7.2.2.2.1 6 (by omega)) (hb hby d13_55) #[.val (.ref ob), .val (.int (1 : Int32)), .val (.int (0 : Int32)), .val (.int (2 : Int32))] [(.long (0 : Int64)), (.int (1 : Int32)), (.ref (A 6))]
  obtain ⟨T12, h12, l12, X12, e12, N12, P12, st12⟩ := own_lst X11 hx hZ e11 N10 P7 6 1 (j := (1 : Int32)) (x := (0 : Int64)) (hb hby d13_61) #[.val (.ref ob), .val (.int (1 : Int32)), .val (.int (0 : Int32)), .val (.int (2 : Int32))] [] (by omega)
  obtain ⟨T13, X13, e13, st13⟩ := own_gf X12 hx hZ hown e12 P12 4 (own_w hw 64) (v := (.ref (A 4))) (P12.2.2.2.1 4 (by omega)) (hb hby d13_63) #[.val (.ref ob), .val (.int (1 : Int32)), .val (.int (0 : Int32)), .val (.int (2 : Int32))] []
  obtain ⟨T14, h14, l14, X14, e14, N14, P14, st14⟩ := own_ist X13 hx hZ e13 N12 P12 4 1 (j := (1 : Int32)) (x := (1 : Int32)) (hb hby d13_81) #[.val (.ref ob), .val (.int (1 : Int32)), .val (.int (0 : Int32)), .val (.int (2 : Int32))] [] (by omega)
  obtain ⟨cq15, q15, q15'⟩ := P14.1.cell
  obtain ⟨_, _, ⟨T15, L15, k15, n15⟩, -, X15, ⟨Lc15, hQ15, l15, y15, z15⟩, st15⟩ := X14.privateBack hx (y := own_y19) hown (mvT hZ (own_w hw 179)) (mvT hZ (own_w hw 180)) (own_psel (z := own_y17) (mvT hZ (own_w hw 103)) (mvP hZ (own_w hw 181)) (mvT hZ (own_w hw 180)) rfl (by decide)) (Cond.privateMethod_at (mvP hZ (own_w hw 181) (args := #[]))) (mvT hZ (own_w hw 182)) (by decide) (backOf (W := 0) (rm18_1 l Z a0 hw [] ob  h14 n0 P14 hA hB   ) hZ (own_w hw 182) (own_w hw 2) (by decide) (by decide)) (g := (mkF m 84 #[.val (.ref ob), .val (.int (1 : Int32)), .val (.int (0 : Int32)), .val (.int (2 : Int32))] [(.int (1 : Int32)), (.ref ob)])) rfl (by rw [hml]; rfl) (Steps.refl _) (a := ob) (by rw [e14]; exact q15) q15' (argsL := [(.int (1 : Int32))]) (rest := []) (lenOf own_pd0 rfl) rfl (by show 2 * 0 + _ ≤ _; exact Nat.le_of_eq rfl) (hb hby d13_84) (fun _ _ => ⟨rfl, e14, (by decide : 0 + 0 ≤ _), (by decide : 0 + 0 ≤ _)⟩)
  dsimp only [Pt.U, Pt.locs, Pt.cells, Pt.slots] at X15 l15 y15 z15 st15 hQ15
  subst l15 y15 z15
  obtain ⟨rfl, Nq15, P15⟩ := hQ15
  have N15 := Fr.app N14 Nq15
  obtain ⟨fs, hr, hrun, hended, hW, hsame⟩ := X15.leave (v := some (.int (1 : Int32))) (fun h => by rw [Bd.returns] at h; cases h)
  refine ⟨_, _, castTop ef ?_, hrun, hended, _, _, rfl, ?_, ⟨_, rfl⟩, hW, hsame.mono (by decide) (by decide)⟩
  · refine s_aloadN X0 hx (hb hby d13_0) rfl rfl ?_
    refine s_iloadN X0 hx (hb hby d13_1) rfl ?_
    refine st1.trans ?_
    refine s_istoreN X1 hx #[.val (.ref ob), .val (.int (1 : Int32)), .val (.int (0 : Int32)), .unset] (hb hby d13_5) rfl ?_
    refine s_aloadN X1 hx (hb hby d13_6) rfl rfl ?_
    refine s_iloadN X1 hx (hb hby d13_7) rfl ?_
    refine st2.trans ?_
    refine s_istoreN X2 hx #[.val (.ref ob), .val (.int (1 : Int32)), .val (.int (0 : Int32)), .val (.int (2 : Int32))] (hb hby d13_11) rfl ?_
    refine s_aloadN X2 hx (hb hby d13_12) rfl rfl ?_
    refine st3 _ ?_
    refine s_iloadN X3 hx (hb hby d13_16) rfl ?_
    refine s_aloadN X3 hx (hb hby d13_17) rfl rfl ?_
    refine st4 _ ?_
    refine s_iloadN X4 hx (hb hby d13_21) rfl ?_
    refine own_ial X4 hx hZ e4 P 5 0 (v := (.int (0 : Int32))) hV5_0 (hb hby d13_22) (by omega) ?_
    refine s_aloadN X4 hx (hb hby d13_23) rfl rfl ?_
    refine s_iloadN X4 hx (hb hby d13_24) rfl ?_
    refine st5.trans ?_
    refine s_iadd X5 hx ((0 : Int32) + va) (hb hby d13_28) rfl ?_
    refine s_aloadN X5 hx (hb hby d13_29) rfl rfl ?_
    refine st6 _ ?_
    refine s_iloadN X6 hx (hb hby d13_33) rfl ?_
    refine own_ial X6 hx hZ e6 P 5 2 (v := (.int (0 : Int32))) hV5_2 (hb hby d13_34) (by omega) ?_
    refine s_iadd X6 hx (((0 : Int32) + va) + (0 : Int32)) (hb hby d13_35) rfl ?_
    refine st7 _ ?_
    refine s_aloadN X7 hx (hb hby d13_37) rfl rfl ?_
    refine st8 _ ?_
    refine s_iloadN X8 hx (hb hby d13_41) rfl ?_
    refine s_aloadN X8 hx (hb hby d13_42) rfl rfl ?_
    refine st9 _ ?_
    refine s_iloadN X9 hx (hb hby d13_46) rfl ?_
    refine own_lal X9 hx hZ e9 P7 6 0 (v := (.long (0 : Int64))) (own_vn hV6_0) (hb hby d13_47) (by omega) ?_
    refine s_aloadN X9 hx (hb hby d13_48) rfl rfl ?_
    refine s_iloadN X9 hx (hb hby d13_49) rfl ?_
    refine st10.trans ?_
    refine s_ladd X10 hx (0 : Int64) (hb hby d13_53) (by decide) ?_
    refine s_aloadN X10 hx (hb hby d13_54) rfl rfl ?_
    refine st11 _ ?_
    refine s_iloadN X11 hx (hb hby d13_58) rfl ?_
    refine own_lal X11 hx hZ e11 P7 6 2 (v := (.long (0 : Int64))) (own_vn hV6_2) (hb hby d13_59) (by omega) ?_
    refine s_ladd X11 hx (0 : Int64) (hb hby d13_60) (by decide) ?_
    refine st12 _ ?_
    refine s_aloadN X12 hx (hb hby d13_62) rfl rfl ?_
    refine st13 _ ?_
    refine s_iloadN X13 hx (hb hby d13_66) rfl ?_
    refine s_iloadN X13 hx (hb hby d13_67) rfl ?_
    refine s_ifN X13 hx (hb hby d13_68) (by decide) ?_
    refine s_iloadN X13 hx (hb hby d13_71) rfl ?_
    refine s_goto X13 hx 81 (hb hby d13_72) (by decide) (by decide) ?_
    refine st14 _ ?_
    refine s_aloadN X14 hx (hb hby d13_82) rfl rfl ?_
    refine s_iloadN X14 hx (hb hby d13_83) rfl ?_
    refine st15.trans ?_
    refine s_iconst X15 hx (1 : Int32) (hb hby d13_87) rfl ?_
    exact retN X15 hx (t := .boolean) Bd.returns (by simp) (hb hby d13_88) hr
  · show ((_ : Option Value) = some (.int (1 : Int32)) ∧ Fr n0 _ ∧ own_PS Z T15.heap n0 ob nA A F (own_vs (own_vs (own_vs (own_vs (own_vs V 5 1 (.int (((0 : Int32) + va) + (0 : Int32)))) 6 1 (.long (0 : Int64))) 4 1 (.int (1 : Int32))) 8 1 (.int (1 : Int32))) 10 1 (.int (1 : Int32))))
    exact ⟨rfl, N15, P15⟩
set_option maxRecDepth 65536 in
set_option maxHeartbeats 40000000 in
theorem rm27_2 (l : Launch) (Z : State) (a0 : Array Value) (hw : own_HW Z a0) (ws : List Jvm.Cond) {nA : Nat} {A : Nat → Addr} {F : Nat → Value} {V : Nat → List Value} (ob : Addr) (va : Int32) (h0 : Heap) (n0 : Nat) (P : own_PS Z h0 n0 ob nA A F V) (hA : 13 ≤ nA) (hB : nA ≤ 14) (hF27 : F 27 = (.int (0 : Int32))) (hF19 : F 19 = (.int (1 : Int32))) (hF13 : F 13 = .null) (hV0_4 : (V 0).getD 4 (own_aZ 0) = (.int (0 : Int32))) (hV0_5 : (V 0).getD 5 (own_aZ 0) = (.int (2 : Int32))) (hV5_0 : (V 5).getD 0 (own_aZ 5) = (.int (0 : Int32))) (hV1_1 : (V 1).getD 1 (own_aZ 1) = (.int (2 : Int32))) (hV12_3 : (V 12).getD 3 (own_aZ 12) = (.int va)) (hV5_2 : (V 5).getD 2 (own_aZ 5) = (.int (0 : Int32))) (hV6_0 : (V 6).getD 0 (own_aZ 6) = (.long (0 : Int64))) (hV6_2 : (V 6).getD 2 (own_aZ 6) = (.long (0 : Int64))) :
    own_C l Z own_y33 bc27 2 none ws 2 33 #[(.ref ob), (.int (1 : Int32))] h0 (fun v h L => (v = none ∧ Fr n0 L ∧ own_PS Z h n0 ob nA A (own_up F 27 (.int (0 : Int32))) (own_vs (own_vs (own_vs (own_vs (own_vs V 5 1 (.int (((0 : Int32) + va) + (0 : Int32)))) 6 1 (.long (0 : Int64))) 4 1 (.int (1 : Int32))) 8 1 (.int (1 : Int32))) 10 1 (.int (1 : Int32))))) := by
  refine MetFree.of_bodySF (plainFor_of_name own_pn1) hisR ?_
  intro p e s m args below meth c s₁ Bd hml0 hP hK
  obtain ⟨rfl, hZ, hh⟩ := hP
  have hx := Bd.exec
  have hby := Bd.bytes
  have hml : c.maxLocals = 2 := hml0
  have hown : s.vm.findClass "com/example/jobwright/jobwright/policies/Treap" = some m.cls := findClass_of_methodNamed Bd.named
  have X0 : Stand p l e ({ frames := 2, cells := 0, slots := 0, locals := 33 } : Room) s m #[(.ref ob), (.int (1 : Int32))] below meth c s₁ [] 0 0 := Stand.of_body Bd
  have e0 : s₁.heap = h0 := by rw [← hh, Bd.state]; rfl
  have N0 := Fr.nil n0
  have ef : entryFrame m #[(.ref ob), (.int (1 : Int32))] 2 = mkF m 0 #[.val (.ref ob), .val (.int (1 : Int32))] [] := by first | (simp [entryFrame, mkF, argsToLocals, Value.category]; done) | rfl
  obtain ⟨T1, X1, e1, st1⟩ := own_gf X0 hx hZ hown e0 P 27 (own_w hw 183) (v := (.int (0 : Int32))) hF27 (hb hby d27_1) #[.val (.ref ob), .val (.int (1 : Int32))] []
  obtain ⟨cq2, kq2, q2a, q2b, q2c⟩ := isOf hZ e1 P.1
  obtain ⟨_, _, ⟨T2, L2, k2, n2⟩, -, X2, ⟨Lc2, hQ2, l2, y2, z2⟩, st2⟩ := X1.virtualBack hx (y := own_y21) (z := own_y20) hown (mvT hZ (own_w hw 154)) (mvT hZ (own_w hw 155)) (own_nf (args := #[]) (z := own_y4) (mvT hZ (own_w hw 224)) rfl) (mvT hZ (own_w hw 156)) (mvT hZ (own_w hw 157)) (by decide) (backOf (W := 1) (rm13_6 l Z a0 hw [] ob va h0 n0 P hA hB hF19 hF13 hV0_4 hV0_5 hV5_0 hV1_1 hV12_3 hV5_2 hV6_0 hV6_2 ) hZ (own_w hw 158) (own_w hw 2) (by decide) (by decide)) q2a q2c (g := (mkF m 10 #[.val (.ref ob), .val (.int (1 : Int32))] [(.int (1 : Int32)), (.ref ob), (.ref ob)])) rfl (by rw [hml]; rfl) (Steps.refl _) (argsL := [(.int (1 : Int32))]) (rest := [(.ref ob)]) (lenOf own_pd7 rfl) rfl (by show 2 * 0 + _ ≤ _; exact Nat.le_of_eq rfl) (hb hby d27_10) (fun _ _ => ⟨rfl, e1, (by decide : 0 + 0 ≤ _), (by decide : 0 + 0 ≤ _)⟩)
  dsimp only [Pt.U, Pt.locs, Pt.cells, Pt.slots] at X2 l2 y2 z2 st2 hQ2
  subst l2 y2 z2
  obtain ⟨rfl, Nq2, P2⟩ := hQ2
  have N2 := Fr.app N0 Nq2
  obtain ⟨T3, h3, l3, X3, e3, N3, P3, st3⟩ := own_pp X2 hx hZ hw hown rfl N2 P2 27 (own_w hw 183) (Or.inl (own_w hw 184)) (v := (.int (0 : Int32))) (hb hby d27_21) #[.val (.ref ob), .val (.int (1 : Int32))] [] rfl rfl (by omega)
  obtain ⟨fs, hr, hrun, hended, hW, hsame⟩ := X3.leave (v := none) (fun _ => rfl)
  refine ⟨_, _, castTop ef ?_, hrun, hended, _, _, rfl, ?_, ⟨_, rfl⟩, hW, hsame.mono (by decide) (by decide)⟩
  · refine s_aloadN X0 hx (hb hby d27_0) rfl rfl ?_
    refine st1 _ ?_
    refine s_ifN X1 hx (hb hby d27_4) (by decide) ?_
    refine s_aloadN X1 hx (hb hby d27_7) rfl rfl ?_
    refine s_aloadN X1 hx (hb hby d27_8) rfl rfl ?_
    refine s_iloadN X1 hx (hb hby d27_9) rfl ?_
    refine st2.trans ?_
    refine s_ifY X2 hx 20 (hb hby d27_13) (by decide) (by decide) (by decide) ?_
    refine s_iconst X2 hx (0 : Int32) (hb hby d27_20) rfl ?_
    refine st3 _ ?_
    exact X3.returnOut hx Bd.returns (hb hby d27_24) hr
  · show ((_ : Option Value) = none ∧ Fr n0 _ ∧ own_PS Z T3.heap n0 ob nA A (own_up F 27 (.int (0 : Int32))) (own_vs (own_vs (own_vs (own_vs (own_vs V 5 1 (.int (((0 : Int32) + va) + (0 : Int32)))) 6 1 (.long (0 : Int64))) 4 1 (.int (1 : Int32))) 8 1 (.int (1 : Int32))) 10 1 (.int (1 : Int32))))
    rw [e3]
    exact ⟨rfl, N3, P3⟩
set_option maxRecDepth 65536 in
set_option maxHeartbeats 40000000 in
theorem rm19_4 (l : Launch) (Z : State) (a0 : Array Value) (hw : own_HW Z a0) (ws : List Jvm.Cond) {nA : Nat} {A : Nat → Addr} {F : Nat → Value} {V : Nat → List Value} (ob : Addr) (va : Int32) (h0 : Heap) (n0 : Nat) (P : own_PS Z h0 n0 ob nA A F V) (hA : 13 ≤ nA) (hB : nA ≤ 14) (hF19 : F 19 = (.int (1 : Int32))) (hF22 : F 22 = (.long (0 : Int64))) (hF27 : F 27 = (.int (0 : Int32))) (hF13 : F 13 = .null) (hV11_4 : (V 11).getD 4 (own_aZ 11) = (.long (20 : Int64))) (hV11_2 : (V 11).getD 2 (own_aZ 11) = (.long (0 : Int64))) (hV0_5 : (V 0).getD 5 (own_aZ 0) = (.int (0 : Int32))) (hV0_10 : (V 0).getD 10 (own_aZ 0) = (.int (846755676 : Int32))) (hV0_6 : (V 0).getD 6 (own_aZ 0) = (.int (1846393815 : Int32))) (hV0_4 : (V 0).getD 4 (own_aZ 0) = (.int (0 : Int32))) (hV5_0 : (V 5).getD 0 (own_aZ 5) = (.int (0 : Int32))) (hV1_1 : (V 1).getD 1 (own_aZ 1) = (.int (2 : Int32))) (hV12_3 : (V 12).getD 3 (own_aZ 12) = (.int va)) (hV5_2 : (V 5).getD 2 (own_aZ 5) = (.int (0 : Int32))) (hV6_0 : (V 6).getD 0 (own_aZ 6) = (.long (0 : Int64))) (hV6_2 : (V 6).getD 2 (own_aZ 6) = (.long (0 : Int64))) :
    own_C l Z own_y22 bc19 3 (some .int) ws 3 46 #[(.ref ob), (.int (1 : Int32)), (.int (2 : Int32))] h0 (fun v h L => (v = some (.int (1 : Int32)) ∧ Fr n0 L ∧ own_PS Z h n0 ob nA A (own_up F 27 (.int (0 : Int32))) (own_vs (own_vs (own_vs (own_vs (own_vs (own_vs V 0 5 (.int (2 : Int32))) 5 1 (.int (((0 : Int32) + va) + (0 : Int32)))) 6 1 (.long (0 : Int64))) 4 1 (.int (1 : Int32))) 8 1 (.int (1 : Int32))) 10 1 (.int (1 : Int32))))) := by
  refine MetFree.of_bodySF (plainFor_of_name own_pn1) hisR ?_
  intro p e s m args below meth c s₁ Bd hml0 hP hK
  obtain ⟨rfl, hZ, hh⟩ := hP
  have hx := Bd.exec
  have hby := Bd.bytes
  have hml : c.maxLocals = 3 := hml0
  have hown : s.vm.findClass "com/example/jobwright/jobwright/policies/Treap" = some m.cls := findClass_of_methodNamed Bd.named
  have X0 : Stand p l e ({ frames := 3, cells := 0, slots := 0, locals := 46 } : Room) s m #[(.ref ob), (.int (1 : Int32)), (.int (2 : Int32))] below meth c s₁ [] 0 0 := Stand.of_body Bd
  have e0 : s₁.heap = h0 := by rw [← hh, Bd.state]; rfl
  have N0 := Fr.nil n0
  have ef : entryFrame m #[(.ref ob), (.int (1 : Int32)), (.int (2 : Int32))] 3 = mkF m 0 #[.val (.ref ob), .val (.int (1 : Int32)), .val (.int (2 : Int32))] [] := by first | (simp [entryFrame, mkF, argsToLocals, Value.category]; done) | rfl
  obtain ⟨cq1, kq1, q1a, q1b, q1c⟩ := isOf hZ e0 P.1
  obtain ⟨_, _, ⟨T1, L1, k1, n1⟩, -, X1, ⟨Lc1, hQ1, l1, y1, z1⟩, st1⟩ := X0.virtualBack hx (y := own_y31) (z := own_y30) hown (mvT hZ (own_w hw 213)) (mvT hZ (own_w hw 214)) (own_nf (args := #[]) (z := own_y4) (mvT hZ (own_w hw 224)) rfl) (mvT hZ (own_w hw 215)) (mvT hZ (own_w hw 216)) (by decide) (backOf (W := 0) (rm24_1 l Z a0 hw [] ob  h0 n0 P hA hB hF19 hF22 hV11_4 hV11_2 ) hZ (own_w hw 217) (own_w hw 2) (by decide) (by decide)) q1a q1c (g := (mkF m 9 #[.val (.ref ob), .val (.int (1 : Int32)), .val (.int (2 : Int32))] [(.int (1 : Int32)), (.int (2 : Int32)), (.ref ob)])) rfl (by rw [hml]; rfl) (Steps.refl _) (argsL := [(.int (2 : Int32)), (.int (1 : Int32))]) (rest := []) (lenOf own_pd11 rfl) rfl (by show 2 * 0 + _ ≤ _; exact Nat.le_of_eq rfl) (hb hby d19_9) (fun _ _ => ⟨rfl, e0, (by decide : 0 + 0 ≤ _), (by decide : 0 + 0 ≤ _)⟩)
  dsimp only [Pt.U, Pt.locs, Pt.cells, Pt.slots] at X1 l1 y1 z1 st1 hQ1
  subst l1 y1 z1
  obtain ⟨rfl, Nq1, eh1⟩ := hQ1
  have N1 := Fr.app N0 Nq1
  obtain ⟨cq2, kq2, q2a, q2b, q2c⟩ := isOf hZ eh1 P.1
  obtain ⟨_, _, ⟨T2, L2, k2, n2⟩, -, X2, ⟨Lc2, hQ2, l2, y2, z2⟩, st2⟩ := X1.virtualBack hx (y := own_y4) (z := own_y4) hown (mvT hZ (own_w hw 223)) (mvT hZ (own_w hw 167)) (own_nf (args := #[]) (z := own_y4) (mvT hZ (own_w hw 224)) rfl) (mvT hZ (own_w hw 224)) (mvT hZ (own_w hw 168)) (by decide) (backOf (W := 3) (rm15_1 l Z a0 hw [] ob  h0 n0 P hA hB  hV0_5 ) hZ (own_w hw 170) (own_w hw 9) (by decide) (by decide)) q2a q2c (g := (mkF m 58 #[.val (.ref ob), .val (.int (1 : Int32)), .val (.int (2 : Int32))] [(.int (1 : Int32)), (.ref ob), (.ref ob), (.int (1 : Int32)), (.ref ob)])) rfl (by rw [hml]; rfl) (Steps.refl _) (argsL := [(.int (1 : Int32))]) (rest := [(.ref ob), (.int (1 : Int32)), (.ref ob)]) (lenOf own_pd5 rfl) rfl (by show 2 * 0 + _ ≤ _; exact Nat.le_of_eq rfl) (hb hby d19_58) (fun _ _ => ⟨rfl, eh1, (by decide : 0 + 0 ≤ _), (by decide : 0 + 0 ≤ _)⟩)
  dsimp only [Pt.U, Pt.locs, Pt.cells, Pt.slots] at X2 l2 y2 z2 st2 hQ2
  subst l2 y2 z2
  obtain ⟨rfl, Nq2, eh2⟩ := hQ2
  have N2 := Fr.app N1 Nq2
  obtain ⟨cq3, q3, q3'⟩ := P.1.cell
  obtain ⟨_, _, ⟨T3, L3, k3, n3⟩, -, X3, ⟨Lc3, hQ3, l3, y3, z3⟩, st3⟩ := X2.privateBack hx (y := own_y22) hown (mvT hZ (own_w hw 185)) (mvT hZ (own_w hw 186)) (own_psel (z := own_y4) (mvT hZ (own_w hw 224)) (mvP hZ (own_w hw 187)) (mvT hZ (own_w hw 186)) rfl (by decide)) (Cond.privateMethod_at (mvP hZ (own_w hw 187) (args := #[]))) (mvT hZ (own_w hw 188)) (by decide) (backOf (W := 2) (rm19_2 l Z a0 hw [] ob  h0 n0 P hA hB   ) hZ (own_w hw 188) (own_w hw 9) (by decide) (by decide)) (g := (mkF m 62 #[.val (.ref ob), .val (.int (1 : Int32)), .val (.int (2 : Int32))] [(.int (2 : Int32)), (.int (0 : Int32)), (.ref ob), (.int (1 : Int32)), (.ref ob)])) rfl (by rw [hml]; rfl) (Steps.refl _) (a := ob) (by rw [eh2]; exact q3) q3' (argsL := [(.int (0 : Int32)), (.int (2 : Int32))]) (rest := [(.int (1 : Int32)), (.ref ob)]) (lenOf own_pd8 rfl) rfl (by show 2 * 0 + _ ≤ _; exact Nat.le_of_eq rfl) (hb hby d19_62) (fun _ _ => ⟨rfl, eh2, (by decide : 0 + 0 ≤ _), (by decide : 0 + 0 ≤ _)⟩)
  dsimp only [Pt.U, Pt.locs, Pt.cells, Pt.slots] at X3 l3 y3 z3 st3 hQ3
  subst l3 y3 z3
  obtain ⟨rfl, Nq3, eh3⟩ := hQ3
  have N3 := Fr.app N2 Nq3
  obtain ⟨cq4, q4, q4'⟩ := P.1.cell
  obtain ⟨_, _, ⟨T4, L4, k4, n4⟩, -, X4, ⟨Lc4, hQ4, l4, y4, z4⟩, st4⟩ := X3.privateBack hx (y := own_y9) hown (mvT hZ (own_w hw 130)) (mvT hZ (own_w hw 131)) (own_psel (z := own_y4) (mvT hZ (own_w hw 224)) (mvP hZ (own_w hw 132)) (mvT hZ (own_w hw 131)) rfl (by decide)) (Cond.privateMethod_at (mvP hZ (own_w hw 132) (args := #[]))) (mvT hZ (own_w hw 133)) (by decide) (backOf (W := 0) (rm10_3 l Z a0 hw [] ob  h0 n0 P hA hB   ) hZ (own_w hw 133) (own_w hw 9) (by decide) (by decide)) (g := (mkF m 65 #[.val (.ref ob), .val (.int (1 : Int32)), .val (.int (2 : Int32))] [(.int (2 : Int32)), (.int (1 : Int32)), (.ref ob)])) rfl (by rw [hml]; rfl) (Steps.refl _) (a := ob) (by rw [eh3]; exact q4) q4' (argsL := [(.int (1 : Int32)), (.int (2 : Int32))]) (rest := []) (lenOf own_pd3 rfl) rfl (by show 2 * 0 + _ ≤ _; exact Nat.le_of_eq rfl) (hb hby d19_65) (fun _ _ => ⟨rfl, eh3, (by decide : 0 + 0 ≤ _), (by decide : 0 + 0 ≤ _)⟩)
  dsimp only [Pt.U, Pt.locs, Pt.cells, Pt.slots] at X4 l4 y4 z4 st4 hQ4
  subst l4 y4 z4
  obtain ⟨rfl, Nq4, P4⟩ := hQ4
  have N4 := Fr.app N3 Nq4
  obtain ⟨cq5, kq5, q5a, q5b, q5c⟩ := isOf hZ rfl P4.1
  obtain ⟨_, _, ⟨T5, L5, k5, n5⟩, -, X5, ⟨Lc5, hQ5, l5, y5, z5⟩, st5⟩ := X4.virtualBack hx (y := own_y4) (z := own_y4) hown (mvT hZ (own_w hw 223)) (mvT hZ (own_w hw 167)) (own_nf (args := #[]) (z := own_y4) (mvT hZ (own_w hw 224)) rfl) (mvT hZ (own_w hw 224)) (mvT hZ (own_w hw 168)) (by decide) (backOf (W := 1) (rm15_3 l Z a0 hw [] ob  T4.heap n0 P4 hA hB  (own_ve (own_len P 0 (by omega) 5 (by decide))) ) hZ (own_w hw 170) (own_w hw 9) (by decide) (by decide)) q5a q5c (g := (mkF m 71 #[.val (.ref ob), .val (.int (1 : Int32)), .val (.int (2 : Int32))] [(.int (1 : Int32)), (.ref ob), (.ref ob)])) rfl (by rw [hml]; rfl) (Steps.refl _) (argsL := [(.int (1 : Int32))]) (rest := [(.ref ob)]) (lenOf own_pd5 rfl) rfl (by show 2 * 0 + _ ≤ _; exact Nat.le_of_eq rfl) (hb hby d19_71) (fun _ _ => ⟨rfl, rfl, (by decide : 0 + 0 ≤ _), (by decide : 0 + 0 ≤ _)⟩)
  dsimp only [Pt.U, Pt.locs, Pt.cells, Pt.slots] at X5 l5 y5 z5 st5 hQ5
  subst l5 y5 z5
  obtain ⟨rfl, Nq5, eh5⟩ := hQ5
  have N5 := Fr.app N4 Nq5
  obtain ⟨cq6, q6, q6'⟩ := P4.1.cell
  obtain ⟨_, _, ⟨T6, L6, k6, n6⟩, -, X6, ⟨Lc6, hQ6, l6, y6, z6⟩, st6⟩ := X5.privateBack hx (y := own_y32) hown (mvT hZ (own_w hw 225)) (mvT hZ (own_w hw 226)) (own_psel (z := own_y4) (mvT hZ (own_w hw 224)) (mvP hZ (own_w hw 227)) (mvT hZ (own_w hw 226)) rfl (by decide)) (Cond.privateMethod_at (mvP hZ (own_w hw 227) (args := #[]))) (mvT hZ (own_w hw 228)) (by decide) (backOf (W := 0) (rm26_1 l Z a0 hw [] ob  T4.heap n0 P4 hA hB  (own_vi hV0_10) ) hZ (own_w hw 228) (own_w hw 9) (by decide) (by decide)) (g := (mkF m 74 #[.val (.ref ob), .val (.int (1 : Int32)), .val (.int (2 : Int32))] [(.int (2 : Int32)), (.ref ob)])) rfl (by rw [hml]; rfl) (Steps.refl _) (a := ob) (by rw [eh5]; exact q6) q6' (argsL := [(.int (2 : Int32))]) (rest := []) (lenOf own_pd5 rfl) rfl (by show 2 * 0 + _ ≤ _; exact Nat.le_of_eq rfl) (hb hby d19_74) (fun _ _ => ⟨rfl, eh5, (by decide : 0 + 0 ≤ _), (by decide : 0 + 0 ≤ _)⟩)
  dsimp only [Pt.U, Pt.locs, Pt.cells, Pt.slots] at X6 l6 y6 z6 st6 hQ6
  subst l6 y6 z6
  obtain ⟨rfl, Nq6, eh6⟩ := hQ6
  have N6 := Fr.app N5 Nq6
  obtain ⟨cq7, q7, q7'⟩ := P4.1.cell
  obtain ⟨_, _, ⟨T7, L7, k7, n7⟩, -, X7, ⟨Lc7, hQ7, l7, y7, z7⟩, st7⟩ := X6.privateBack hx (y := own_y32) hown (mvT hZ (own_w hw 225)) (mvT hZ (own_w hw 226)) (own_psel (z := own_y4) (mvT hZ (own_w hw 224)) (mvP hZ (own_w hw 227)) (mvT hZ (own_w hw 226)) rfl (by decide)) (Cond.privateMethod_at (mvP hZ (own_w hw 227) (args := #[]))) (mvT hZ (own_w hw 228)) (by decide) (backOf (W := 1) (rm26_2 l Z a0 hw [] ob  T4.heap n0 P4 hA hB  (own_vi hV0_6) ) hZ (own_w hw 228) (own_w hw 9) (by decide) (by decide)) (g := (mkF m 79 #[.val (.ref ob), .val (.int (1 : Int32)), .val (.int (2 : Int32))] [(.int (1 : Int32)), (.ref ob), (.int (846755676 : Int32))])) rfl (by rw [hml]; rfl) (Steps.refl _) (a := ob) (by rw [eh6]; exact q7) q7' (argsL := [(.int (1 : Int32))]) (rest := [(.int (846755676 : Int32))]) (lenOf own_pd5 rfl) rfl (by show 2 * 0 + _ ≤ _; exact Nat.le_of_eq rfl) (hb hby d19_79) (fun _ _ => ⟨rfl, eh6, (by decide : 0 + 0 ≤ _), (by decide : 0 + 0 ≤ _)⟩)
  dsimp only [Pt.U, Pt.locs, Pt.cells, Pt.slots] at X7 l7 y7 z7 st7 hQ7
  subst l7 y7 z7
  obtain ⟨rfl, Nq7, eh7⟩ := hQ7
  have N7 := Fr.app N6 Nq7
  obtain ⟨cq8, q8, q8'⟩ := P4.1.cell
  obtain ⟨_, _, ⟨T8, L8, k8, n8⟩, -, X8, ⟨Lc8, hQ8, l8, y8, z8⟩, st8⟩ := X7.privateBack hx (y := own_y33) hown (mvT hZ (own_w hw 229)) (mvT hZ (own_w hw 230)) (own_psel (z := own_y4) (mvT hZ (own_w hw 224)) (mvP hZ (own_w hw 231)) (mvT hZ (own_w hw 230)) rfl (by decide)) (Cond.privateMethod_at (mvP hZ (own_w hw 231) (args := #[]))) (mvT hZ (own_w hw 232)) (by decide) (backOf (W := 0) (rm27_2 l Z a0 hw [] ob va T4.heap n0 P4 hA hB hF27 hF19 hF13 (own_vi hV0_4) (own_ve (own_len P 0 (by omega) 5 (by decide))) (own_vn hV5_0) (own_vn hV1_1) (own_vn hV12_3) (own_vn hV5_2) (own_vn hV6_0) (own_vn hV6_2) ) hZ (own_w hw 232) (own_w hw 9) (by decide) (by decide)) (g := (mkF m 93 #[.val (.ref ob), .val (.int (1 : Int32)), .val (.int (2 : Int32))] [(.int (1 : Int32)), (.ref ob)])) rfl (by rw [hml]; rfl) (Steps.refl _) (a := ob) (by rw [eh7]; exact q8) q8' (argsL := [(.int (1 : Int32))]) (rest := []) (lenOf own_pd0 rfl) rfl (by show 2 * 0 + _ ≤ _; exact Nat.le_of_eq rfl) (hb hby d19_93) (fun _ _ => ⟨rfl, eh7, (by decide : 0 + 0 ≤ _), (by decide : 0 + 0 ≤ _)⟩)
  dsimp only [Pt.U, Pt.locs, Pt.cells, Pt.slots] at X8 l8 y8 z8 st8 hQ8
  subst l8 y8 z8
  obtain ⟨rfl, Nq8, P8⟩ := hQ8
  have N8 := Fr.app N7 Nq8
  obtain ⟨fs, hr, hrun, hended, hW, hsame⟩ := X8.leave (v := some (.int (1 : Int32))) (fun h => by rw [Bd.returns] at h; cases h)
  refine ⟨_, _, castTop ef ?_, hrun, hended, _, _, rfl, ?_, ⟨_, rfl⟩, hW, hsame.mono (by decide) (by decide)⟩
  · refine s_iloadN X0 hx (hb hby d19_0) rfl ?_
    refine s_ifY X0 hx 6 (hb hby d19_1) (by decide) (by decide) (by decide) ?_
    refine s_aloadN X0 hx (hb hby d19_6) rfl rfl ?_
    refine s_iloadN X0 hx (hb hby d19_7) rfl ?_
    refine s_iloadN X0 hx (hb hby d19_8) rfl ?_
    refine st1.trans ?_
    refine s_ifY X1 hx 53 (hb hby d19_12) (by decide) (by decide) (by decide) ?_
    refine s_aloadN X1 hx (hb hby d19_53) rfl rfl ?_
    refine s_iloadN X1 hx (hb hby d19_54) rfl ?_
    refine s_aloadN X1 hx (hb hby d19_55) rfl rfl ?_
    refine s_aloadN X1 hx (hb hby d19_56) rfl rfl ?_
    refine s_iloadN X1 hx (hb hby d19_57) rfl ?_
    refine st2.trans ?_
    refine s_iloadN X2 hx (hb hby d19_61) rfl ?_
    refine st3.trans ?_
    refine st4.trans ?_
    refine s_aloadN X4 hx (hb hby d19_68) rfl rfl ?_
    refine s_aloadN X4 hx (hb hby d19_69) rfl rfl ?_
    refine s_iloadN X4 hx (hb hby d19_70) rfl ?_
    refine st5.trans ?_
    refine st6.trans ?_
    refine s_aloadN X6 hx (hb hby d19_77) rfl rfl ?_
    refine s_iloadN X6 hx (hb hby d19_78) rfl ?_
    refine st7.trans ?_
    refine s_icmpY X7 hx 91 (hb hby d19_82) (by decide) (by decide) (by decide) ?_
    refine s_aloadN X7 hx (hb hby d19_91) rfl rfl ?_
    refine s_iloadN X7 hx (hb hby d19_92) rfl ?_
    refine st8.trans ?_
    refine s_iloadN X8 hx (hb hby d19_96) rfl ?_
    exact retI X8 hx Bd.returns (hb hby d19_97) hr
  · show ((_ : Option Value) = some (.int (1 : Int32)) ∧ Fr n0 _ ∧ own_PS Z T8.heap n0 ob nA A (own_up F 27 (.int (0 : Int32))) (own_vs (own_vs (own_vs (own_vs (own_vs (own_vs V 0 5 (.int (2 : Int32))) 5 1 (.int (((0 : Int32) + va) + (0 : Int32)))) 6 1 (.long (0 : Int64))) 4 1 (.int (1 : Int32))) 8 1 (.int (1 : Int32))) 10 1 (.int (1 : Int32))))
    exact ⟨rfl, N8, P8⟩
set_option maxRecDepth 65536 in
set_option maxHeartbeats 40000000 in
theorem rm12_4 (l : Launch) (Z : State) (a0 : Array Value) (hw : own_HW Z a0) (ws : List Jvm.Cond) {nA : Nat} {A : Nat → Addr} {F : Nat → Value} {V : Nat → List Value} (ob : Addr) (va : Int32) (h0 : Heap) (n0 : Nat) (P : own_PS Z h0 n0 ob nA A F V) (hA : 13 ≤ nA) (hB : nA ≤ 14) (hF19 : F 19 = (.int (1 : Int32))) (hF13 : F 13 = .null) (hF14 : F 14 = (.int (1 : Int32))) (hF22 : F 22 = (.long (0 : Int64))) (hF15 : F 15 = (.int (1 : Int32))) (hV0_8 : (V 0).getD 8 (own_aZ 0) = (.int (0 : Int32))) (hV0_9 : (V 0).getD 9 (own_aZ 0) = (.int (0 : Int32))) (hV5_0 : (V 5).getD 0 (own_aZ 5) = (.int (0 : Int32))) (hV1_2 : (V 1).getD 2 (own_aZ 1) = (.int (1 : Int32))) (hV12_4 : (V 12).getD 4 (own_aZ 12) = (.int (0 : Int32))) (hV6_0 : (V 6).getD 0 (own_aZ 6) = (.long (0 : Int64))) (hV11_4 : (V 11).getD 4 (own_aZ 11) = (.long (20 : Int64))) (hV11_2 : (V 11).getD 2 (own_aZ 11) = (.long (0 : Int64))) (hV0_5 : (V 0).getD 5 (own_aZ 0) = (.int (0 : Int32))) (hV0_10 : (V 0).getD 10 (own_aZ 0) = (.int (846755676 : Int32))) (hV0_6 : (V 0).getD 6 (own_aZ 0) = (.int (1846393815 : Int32))) (hV0_4 : (V 0).getD 4 (own_aZ 0) = (.int (0 : Int32))) (hV1_1 : (V 1).getD 1 (own_aZ 1) = (.int (2 : Int32))) (hV12_3 : (V 12).getD 3 (own_aZ 12) = (.int va)) :
    own_C l Z own_y23 bc12 2 none ws 4 61 #[(.ref ob), (.int (2 : Int32))] h0 (fun v h L => (v = none ∧ Fr n0 L ∧ own_PS Z h n0 ob nA A (own_up (own_up (own_up (own_up F 27 (.int (0 : Int32))) 27 (.int (0 : Int32))) 14 (.int (1 : Int32))) 15 (.int (2 : Int32))) (own_vs (own_vs (own_vs (own_vs (own_vs (own_vs (own_vs (own_vs (own_vs (own_vs (own_vs V 5 2 (.int (0 : Int32))) 6 2 (.long (0 : Int64))) 4 2 (.int (2 : Int32))) 8 2 (.int (1 : Int32))) 10 2 (.int (1 : Int32))) 0 5 (.int (2 : Int32))) 5 1 (.int (((0 : Int32) + va) + (0 : Int32)))) 6 1 (.long (0 : Int64))) 4 1 (.int (1 : Int32))) 8 1 (.int (1 : Int32))) 10 1 (.int (1 : Int32))))) := by
  refine MetFree.of_bodySF (plainFor_of_name own_pn1) hisR ?_
  intro p e s m args below meth c s₁ Bd hml0 hP hK
  obtain ⟨rfl, hZ, hh⟩ := hP
  have hx := Bd.exec
  have hby := Bd.bytes
  have hml : c.maxLocals = 2 := hml0
  have hown : s.vm.findClass "com/example/jobwright/jobwright/policies/Treap" = some m.cls := findClass_of_methodNamed Bd.named
  have X0 : Stand p l e ({ frames := 4, cells := 0, slots := 0, locals := 61 } : Room) s m #[(.ref ob), (.int (2 : Int32))] below meth c s₁ [] 0 0 := Stand.of_body Bd
  have e0 : s₁.heap = h0 := by rw [← hh, Bd.state]; rfl
  have N0 := Fr.nil n0
  have ef : entryFrame m #[(.ref ob), (.int (2 : Int32))] 2 = mkF m 0 #[.val (.ref ob), .val (.int (2 : Int32))] [] := by first | (simp [entryFrame, mkF, argsToLocals, Value.category]; done) | rfl
  obtain ⟨cq1, kq1, q1a, q1b, q1c⟩ := isOf hZ e0 P.1
  obtain ⟨_, _, ⟨T1, L1, k1, n1⟩, -, X1, ⟨Lc1, hQ1, l1, y1, z1⟩, st1⟩ := X0.virtualBack hx (y := own_y21) (z := own_y20) hown (mvT hZ (own_w hw 154)) (mvT hZ (own_w hw 155)) (own_nf (args := #[]) (z := own_y4) (mvT hZ (own_w hw 224)) rfl) (mvT hZ (own_w hw 156)) (mvT hZ (own_w hw 157)) (by decide) (backOf (W := 0) (rm13_5 l Z a0 hw [] ob  h0 n0 P hA hB hF19 hF13 hV0_8 hV0_9 hV5_0 hV1_2 hV12_4 hV6_0 ) hZ (own_w hw 158) (own_w hw 2) (by decide) (by decide)) q1a q1c (g := (mkF m 2 #[.val (.ref ob), .val (.int (2 : Int32))] [(.int (2 : Int32)), (.ref ob)])) rfl (by rw [hml]; rfl) (Steps.refl _) (argsL := [(.int (2 : Int32))]) (rest := []) (lenOf own_pd7 rfl) rfl (by show 2 * 0 + _ ≤ _; exact Nat.le_of_eq rfl) (hb hby d12_2) (fun _ _ => ⟨rfl, e0, (by decide : 0 + 0 ≤ _), (by decide : 0 + 0 ≤ _)⟩)
  dsimp only [Pt.U, Pt.locs, Pt.cells, Pt.slots] at X1 l1 y1 z1 st1 hQ1
  subst l1 y1 z1
  obtain ⟨rfl, Nq1, P1⟩ := hQ1
  have N1 := Fr.app N0 Nq1
  obtain ⟨T2, h2, l2, X2, e2, N2, P2, st2⟩ := own_pp X1 hx hZ hw hown rfl N1 P1 27 (own_w hw 183) (Or.inl (own_w hw 184)) (v := (.int (0 : Int32))) (hb hby d12_8) #[.val (.ref ob), .val (.int (2 : Int32))] [] rfl rfl (by omega)
  obtain ⟨T3, X3, e3, st3⟩ := own_gf X2 hx hZ hown e2 P2 14 (own_w hw 14) (v := (.int (1 : Int32))) (own_fn hF14) (hb hby d12_14) #[.val (.ref ob), .val (.int (2 : Int32))] [(.ref ob), (.ref ob)]
  obtain ⟨cq4, q4, q4'⟩ := P2.1.cell
  obtain ⟨_, _, ⟨T4, L4, k4, n4⟩, -, X4, ⟨Lc4, hQ4, l4, y4, z4⟩, st4⟩ := X3.privateBack hx (y := own_y22) hown (mvT hZ (own_w hw 185)) (mvT hZ (own_w hw 186)) (own_psel (z := own_y4) (mvT hZ (own_w hw 224)) (mvP hZ (own_w hw 187)) (mvT hZ (own_w hw 186)) rfl (by decide)) (Cond.privateMethod_at (mvP hZ (own_w hw 187) (args := #[]))) (mvT hZ (own_w hw 188)) (by decide) (backOf (W := 1) (rm19_4 l Z a0 hw [] ob va h2 n0 P2 hA hB (own_fn hF19) (own_fn hF22) (own_up_eq _ _ _) (own_fn hF13) (own_vn (own_vn (own_vn (own_vn (own_vn hV11_4))))) (own_vn (own_vn (own_vn (own_vn (own_vn hV11_2))))) (own_vn (own_vn (own_vn (own_vn (own_vn hV0_5))))) (own_vn (own_vn (own_vn (own_vn (own_vn hV0_10))))) (own_vn (own_vn (own_vn (own_vn (own_vn hV0_6))))) (own_vn (own_vn (own_vn (own_vn (own_vn hV0_4))))) (own_vn (own_vn (own_vn (own_vn (own_vi hV5_0))))) (own_vn (own_vn (own_vn (own_vn (own_vn hV1_1))))) (own_vn (own_vn (own_vn (own_vn (own_vn hV12_3))))) (own_vn (own_vn (own_vn (own_vn (own_ve (own_len P 5 (by omega) 2 (by decide))))))) (own_vn (own_vn (own_vn (own_vi (own_vn hV6_0))))) (own_vn (own_vn (own_vn (own_ve (own_vl (own_len P 6 (by omega) 2 (by decide))))))) ) hZ (own_w hw 188) (own_w hw 9) (by decide) (by decide)) (g := (mkF m 18 #[.val (.ref ob), .val (.int (2 : Int32))] [(.int (2 : Int32)), (.int (1 : Int32)), (.ref ob), (.ref ob)])) rfl (by rw [hml]; rfl) (Steps.refl _) (a := ob) (by rw [e3]; exact q4) q4' (argsL := [(.int (1 : Int32)), (.int (2 : Int32))]) (rest := [(.ref ob)]) (lenOf own_pd8 rfl) rfl (by show 2 * 0 + _ ≤ _; exact Nat.le_of_eq rfl) (hb hby d12_18) (fun _ _ => ⟨rfl, e3, (by decide : 0 + 0 ≤ _), (by decide : 0 + 0 ≤ _)⟩)
  dsimp only [Pt.U, Pt.locs, Pt.cells, Pt.slots] at X4 l4 y4 z4 st4 hQ4
  subst l4 y4 z4
  obtain ⟨rfl, Nq4, P4⟩ := hQ4
  have N4 := Fr.app N2 Nq4
  obtain ⟨T5, h5, l5, X5, e5, N5, P5, st5⟩ := own_pp X4 hx hZ hw hown rfl N4 P4 14 (own_w hw 14) (Or.inl (own_w hw 15)) (v := (.int (1 : Int32))) (hb hby d12_21) #[.val (.ref ob), .val (.int (2 : Int32))] [] rfl rfl (by omega)
  obtain ⟨T6, X6, e6, st6⟩ := own_gf X5 hx hZ hown e5 P5 15 (own_w hw 111) (v := (.int (1 : Int32))) (own_fn (own_fn (own_fn hF15))) (hb hby d12_26) #[.val (.ref ob), .val (.int (2 : Int32))] [(.ref ob)]
  obtain ⟨T7, h7, l7, X7, e7, N7, P7, st7⟩ := own_pp X6 hx hZ hw hown e6 N5 P5 15 (own_w hw 111) (Or.inl (own_w hw 112)) (v := (.int (2 : Int32))) (hb hby d12_31) #[.val (.ref ob), .val (.int (2 : Int32))] [] rfl rfl (by omega)
  obtain ⟨fs, hr, hrun, hended, hW, hsame⟩ := X7.leave (v := none) (fun _ => rfl)
  refine ⟨_, _, castTop ef ?_, hrun, hended, _, _, rfl, ?_, ⟨_, rfl⟩, hW, hsame.mono (by decide) (by decide)⟩
  · refine s_aloadN X0 hx (hb hby d12_0) rfl rfl ?_
    refine s_iloadN X0 hx (hb hby d12_1) rfl ?_
    refine st1.trans ?_
    refine s_pop X1 hx (hb hby d12_5) rfl ?_
    refine s_aloadN X1 hx (hb hby d12_6) rfl rfl ?_
    refine s_iconst X1 hx (0 : Int32) (hb hby d12_7) rfl ?_
    refine st2 _ ?_
    refine s_aloadN X2 hx (hb hby d12_11) rfl rfl ?_
    refine s_aloadN X2 hx (hb hby d12_12) rfl rfl ?_
    refine s_aloadN X2 hx (hb hby d12_13) rfl rfl ?_
    refine st3 _ ?_
    refine s_iloadN X3 hx (hb hby d12_17) rfl ?_
    refine st4.trans ?_
    refine st5 _ ?_
    refine s_aloadN X5 hx (hb hby d12_24) rfl rfl ?_
    refine s_dup X5 hx (hb hby d12_25) rfl ?_
    refine st6 _ ?_
    refine s_iconst X6 hx (1 : Int32) (hb hby d12_29) rfl ?_
    refine s_iadd X6 hx (2 : Int32) (hb hby d12_30) (by decide) ?_
    refine st7 _ ?_
    exact X7.returnOut hx Bd.returns (hb hby d12_34) hr
  · show ((_ : Option Value) = none ∧ Fr n0 _ ∧ own_PS Z T7.heap n0 ob nA A (own_up (own_up (own_up (own_up F 27 (.int (0 : Int32))) 27 (.int (0 : Int32))) 14 (.int (1 : Int32))) 15 (.int (2 : Int32))) (own_vs (own_vs (own_vs (own_vs (own_vs (own_vs (own_vs (own_vs (own_vs (own_vs (own_vs V 5 2 (.int (0 : Int32))) 6 2 (.long (0 : Int64))) 4 2 (.int (2 : Int32))) 8 2 (.int (1 : Int32))) 10 2 (.int (1 : Int32))) 0 5 (.int (2 : Int32))) 5 1 (.int (((0 : Int32) + va) + (0 : Int32)))) 6 1 (.long (0 : Int64))) 4 1 (.int (1 : Int32))) 8 1 (.int (1 : Int32))) 10 1 (.int (1 : Int32))))
    rw [e7]
    exact ⟨rfl, N7, P7⟩
set_option maxRecDepth 65536 in
set_option maxHeartbeats 40000000 in
theorem rm21_4 (l : Launch) (Z : State) (a0 : Array Value) (hw : own_HW Z a0) (ws : List Jvm.Cond) {nA : Nat} {A : Nat → Addr} {F : Nat → Value} {V : Nat → List Value} (ob : Addr) (va : Int32) (h0 : Heap) (n0 : Nat) (P : own_PS Z h0 n0 ob nA A F V) (hA : 13 ≤ nA) (hB : nA ≤ 14) (hF19 : F 19 = (.int (1 : Int32))) (hF20 : F 20 = (.int (2 : Int32))) (hF24 : F 24 = (.int (1 : Int32))) (hF16 : F 16 = (.int (0 : Int32))) (hF17 : F 17 = (.int (2 : Int32))) (hF18 : F 18 = (.long (-2586341971585708627 : Int64))) (hF22 : F 22 = (.long (0 : Int64))) (hF13 : F 13 = .null) (hF14 : F 14 = (.int (1 : Int32))) (hF15 : F 15 = (.int (1 : Int32))) (hV3_1 : (V 3).getD 1 (own_aZ 3) = (.int (0 : Int32))) (hV5_0 : (V 5).getD 0 (own_aZ 5) = (.int (0 : Int32))) (hV6_0 : (V 6).getD 0 (own_aZ 6) = (.long (0 : Int64))) (hV11_2 : (V 11).getD 2 (own_aZ 11) = (.long (0 : Int64))) (hV0_5 : (V 0).getD 5 (own_aZ 0) = (.int (0 : Int32))) (hV0_6 : (V 0).getD 6 (own_aZ 0) = (.int (1846393815 : Int32))) (hV0_4 : (V 0).getD 4 (own_aZ 0) = (.int (0 : Int32))) (hV1_1 : (V 1).getD 1 (own_aZ 1) = (.int (2 : Int32))) (hV12_3 : (V 12).getD 3 (own_aZ 12) = (.int va)) :
    own_C l Z own_y27 bc21 11 (some .int) ws 5 74 #[(.ref ob), (.int (3 : Int32)), (.long (20 : Int64))] h0 (fun v h L => (v = some (.int (4 : Int32)) ∧ Fr n0 L ∧ own_PS Z h n0 ob nA A (own_up (own_up (own_up (own_up (own_up (own_up (own_up (own_up (own_up F 17 (.int (3 : Int32))) 18 (.long (-5553300284382974547 : Int64))) 18 (.long (-5509191256401354634 : Int64))) 18 (.long (7273575876580499574 : Int64))) 24 (.int (2 : Int32))) 27 (.int (0 : Int32))) 27 (.int (0 : Int32))) 14 (.int (1 : Int32))) 15 (.int (2 : Int32))) (own_vs (own_vs (own_vs (own_vs (own_vs (own_vs (own_vs (own_vs (own_vs (own_vs (own_vs (own_vs (own_vs (own_vs (own_vs (own_vs (own_vs (own_vs (own_vs (own_vs (own_vs (own_vs V 0 8 (.int (0 : Int32))) 0 9 (.int (0 : Int32))) 0 10 (.int (846755676 : Int32))) 2 2 (.int (1 : Int32))) 3 2 (.int (0 : Int32))) 3 1 (.int (2 : Int32))) 7 2 (.int (1 : Int32))) 9 2 (.int (1 : Int32))) 11 4 (.long (20 : Int64))) 12 4 (.int (0 : Int32))) 1 2 (.int (1 : Int32))) 5 2 (.int (0 : Int32))) 6 2 (.long (0 : Int64))) 4 2 (.int (2 : Int32))) 8 2 (.int (1 : Int32))) 10 2 (.int (1 : Int32))) 0 5 (.int (2 : Int32))) 5 1 (.int (((0 : Int32) + va) + (0 : Int32)))) 6 1 (.long (0 : Int64))) 4 1 (.int (1 : Int32))) 8 1 (.int (1 : Int32))) 10 1 (.int (1 : Int32))))) := by
  refine MetFree.of_bodySF (plainFor_of_name own_pn2) hisR ?_
  intro p e s m args below meth c s₁ Bd hml0 hP hK
  obtain ⟨rfl, hZ, hh⟩ := hP
  have hx := Bd.exec
  have hby := Bd.bytes
  have hml : c.maxLocals = 11 := hml0
  have hown : s.vm.findClass "com/example/jobwright/jobwright/policies/ProfileSteps" = some m.cls := findClass_of_methodNamed Bd.named
  have X0 : Stand p l e ({ frames := 5, cells := 0, slots := 0, locals := 74 } : Room) s m #[(.ref ob), (.int (3 : Int32)), (.long (20 : Int64))] below meth c s₁ [] 0 0 := Stand.of_body Bd
  have e0 : s₁.heap = h0 := by rw [← hh, Bd.state]; rfl
  have N0 := Fr.nil n0
  have ef : entryFrame m #[(.ref ob), (.int (3 : Int32)), (.long (20 : Int64))] 11 = mkF m 0 #[.val (.ref ob), .val (.int (3 : Int32)), .val (.long (20 : Int64)), .second, .unset, .unset, .unset, .unset, .unset, .unset, .unset] [] := by first | (simp [entryFrame, mkF, argsToLocals, Value.category]; done) | rfl
  obtain ⟨T1, X1, e1, st1⟩ := own_gf X0 hx hZ hown e0 P 19 (own_w hw 54) (v := (.int (1 : Int32))) hF19 (hb hby d21_2) #[.val (.ref ob), .val (.int (3 : Int32)), .val (.long (20 : Int64)), .second, .unset, .unset, .unset, .unset, .unset, .unset, .unset] [(.int (3 : Int32))]
  obtain ⟨T2, X2, e2, st2⟩ := own_gf X1 hx hZ hown e1 P 19 (own_w hw 54) (v := (.int (1 : Int32))) hF19 (hb hby d21_12) #[.val (.ref ob), .val (.int (3 : Int32)), .val (.long (20 : Int64)), .second, .val (.int (1 : Int32)), .unset, .unset, .unset, .unset, .unset, .unset] [(.int (1 : Int32)), (.int (3 : Int32))]
  obtain ⟨T3, X3, e3, st3⟩ := own_gf X2 hx hZ hown e2 P 20 (own_w hw 56) (v := (.int (2 : Int32))) hF20 (hb hby d21_24) #[.val (.ref ob), .val (.int (3 : Int32)), .val (.long (20 : Int64)), .second, .val (.int (1 : Int32)), .val (.int (2 : Int32)), .unset, .unset, .unset, .unset, .unset] [(.int (2 : Int32))]
  obtain ⟨T4, X4, e4, st4⟩ := own_gf X3 hx hZ hown e3 P 24 (own_w hw 142) (v := (.int (1 : Int32))) hF24 (hb hby d21_33) #[.val (.ref ob), .val (.int (3 : Int32)), .val (.long (20 : Int64)), .second, .val (.int (1 : Int32)), .val (.int (2 : Int32)), .unset, .unset, .unset, .unset, .unset] [(.int (1 : Int32))]
  obtain ⟨cq5, q5, q5'⟩ := P.1.cell
  obtain ⟨_, _, ⟨T5, L5, k5, n5⟩, -, X5, ⟨Lc5, hQ5, l5, y5, z5⟩, st5⟩ := X4.privateBack hx (y := own_y28) hown (mvT hZ (own_w hw 209)) (mvT hZ (own_w hw 210)) (own_psel (z := own_y17) (mvT hZ (own_w hw 103)) (mvP hZ (own_w hw 211)) (mvT hZ (own_w hw 210)) rfl (by decide)) (Cond.privateMethod_at (mvP hZ (own_w hw 211) (args := #[]))) (mvT hZ (own_w hw 212)) (by decide) (backOf (W := 0) (rm23_1 l Z a0 hw [] ob  h0 n0 P hA hB hF16 hF17 hF18 hV3_1 ) hZ (own_w hw 212) (own_w hw 2) (by decide) (by decide)) (g := (mkF m 42 #[.val (.ref ob), .val (.int (3 : Int32)), .val (.long (20 : Int64)), .second, .val (.int (1 : Int32)), .val (.int (2 : Int32)), .unset, .unset, .unset, .unset, .unset] [(.int (1 : Int32)), (.ref ob)])) rfl (by rw [hml]; rfl) (Steps.refl _) (a := ob) (by rw [e4]; exact q5) q5' (argsL := [(.int (1 : Int32))]) (rest := []) (lenOf own_pd5 rfl) rfl (by show 2 * 0 + _ ≤ _; exact Nat.le_of_eq rfl) (hb hby d21_42) (fun _ _ => ⟨rfl, e4, (by decide : 0 + 0 ≤ _), (by decide : 0 + 0 ≤ _)⟩)
  dsimp only [Pt.U, Pt.locs, Pt.cells, Pt.slots] at X5 l5 y5 z5 st5 hQ5
  subst l5 y5 z5
  obtain ⟨rfl, Nq5, P5⟩ := hQ5
  have N5 := Fr.app N0 Nq5
  obtain ⟨T6, X6, e6, st6⟩ := own_gf X5 hx hZ hown rfl P5 11 (own_w hw 92) (v := (.ref (A 11))) (P5.2.2.2.1 11 (by omega)) (hb hby d21_48) #[.val (.ref ob), .val (.int (3 : Int32)), .val (.long (20 : Int64)), .second, .val (.int (1 : Int32)), .val (.int (2 : Int32)), .val (.int (2 : Int32)), .unset, .unset, .unset, .unset] []
  obtain ⟨T7, X7, e7, st7⟩ := own_gf X6 hx hZ hown e6 P5 19 (own_w hw 54) (v := (.int (1 : Int32))) (own_fn (own_fn (own_fn (own_fn (own_fn hF19))))) (hb hby d21_54) #[.val (.ref ob), .val (.int (3 : Int32)), .val (.long (20 : Int64)), .second, .val (.int (1 : Int32)), .val (.int (2 : Int32)), .val (.int (2 : Int32)), .unset, .unset, .unset, .unset] [(.int (2 : Int32)), (.ref (A 11))]
  obtain ⟨T8, X8, e8, st8⟩ := own_gf X7 hx hZ hown e7 P5 22 (own_w hw 138) (v := (.long (0 : Int64))) (own_fn (own_fn (own_fn (own_fn (own_fn hF22))))) (hb hby d21_60) #[.val (.ref ob), .val (.int (3 : Int32)), .val (.long (20 : Int64)), .second, .val (.int (1 : Int32)), .val (.int (2 : Int32)), .val (.int (2 : Int32)), .unset, .unset, .unset, .unset] [(.long (20 : Int64)), (.int (4 : Int32)), (.ref (A 11))]
  obtain ⟨T9, h9, l9, X9, e9, N9, P9, st9⟩ := own_lst X8 hx hZ e8 N5 P5 11 4 (j := (4 : Int32)) (x := (20 : Int64)) (hb hby d21_64) #[.val (.ref ob), .val (.int (3 : Int32)), .val (.long (20 : Int64)), .second, .val (.int (1 : Int32)), .val (.int (2 : Int32)), .val (.int (2 : Int32)), .unset, .unset, .unset, .unset] [] (by omega)
  obtain ⟨T10, X10, e10, st10⟩ := own_gf X9 hx hZ hown e9 P9 12 (own_w hw 94) (v := (.ref (A 12))) (P9.2.2.2.1 12 (by omega)) (hb hby d21_66) #[.val (.ref ob), .val (.int (3 : Int32)), .val (.long (20 : Int64)), .second, .val (.int (1 : Int32)), .val (.int (2 : Int32)), .val (.int (2 : Int32)), .unset, .unset, .unset, .unset] []
  obtain ⟨T11, X11, e11, st11⟩ := own_gf X10 hx hZ hown e10 P9 19 (own_w hw 54) (v := (.int (1 : Int32))) (own_fn (own_fn (own_fn (own_fn (own_fn hF19))))) (hb hby d21_72) #[.val (.ref ob), .val (.int (3 : Int32)), .val (.long (20 : Int64)), .second, .val (.int (1 : Int32)), .val (.int (2 : Int32)), .val (.int (2 : Int32)), .unset, .unset, .unset, .unset] [(.int (2 : Int32)), (.ref (A 12))]
  obtain ⟨T12, h12, l12, X12, e12, N12, P12, st12⟩ := own_ist X11 hx hZ e11 N9 P9 12 4 (j := (4 : Int32)) (x := (0 : Int32)) (hb hby d21_77) #[.val (.ref ob), .val (.int (3 : Int32)), .val (.long (20 : Int64)), .second, .val (.int (1 : Int32)), .val (.int (2 : Int32)), .val (.int (2 : Int32)), .unset, .unset, .unset, .unset] [] (by omega)
  obtain ⟨T13, X13, e13, st13⟩ := own_gf X12 hx hZ hown e12 P12 13 (own_w hw 96) (v := .null) (own_fn (own_fn (own_fn (own_fn (own_fn hF13))))) (hb hby d21_79) #[.val (.ref ob), .val (.int (3 : Int32)), .val (.long (20 : Int64)), .second, .val (.int (1 : Int32)), .val (.int (2 : Int32)), .val (.int (2 : Int32)), .unset, .unset, .unset, .unset] []
  obtain ⟨T14, X14, e14, st14⟩ := own_gf X13 hx hZ hown e13 P12 1 (own_w hw 58) (v := (.ref (A 1))) (P12.2.2.2.1 1 (by omega)) (hb hby d21_99) #[.val (.ref ob), .val (.int (3 : Int32)), .val (.long (20 : Int64)), .second, .val (.int (1 : Int32)), .val (.int (2 : Int32)), .val (.int (2 : Int32)), .unset, .unset, .unset, .unset] []
  obtain ⟨T15, h15, l15, X15, e15, N15, P15, st15⟩ := own_ist X14 hx hZ e14 N12 P12 1 2 (j := (2 : Int32)) (x := (1 : Int32)) (hb hby d21_105) #[.val (.ref ob), .val (.int (3 : Int32)), .val (.long (20 : Int64)), .second, .val (.int (1 : Int32)), .val (.int (2 : Int32)), .val (.int (2 : Int32)), .unset, .unset, .unset, .unset] [] (by omega)
  obtain ⟨cq16, kq16, q16a, q16b, q16c⟩ := isOf hZ e15 P15.1
  obtain ⟨_, _, ⟨T16, L16, k16, n16⟩, -, X16, ⟨Lc16, hQ16, l16, y16, z16⟩, st16⟩ := X15.virtualBackUp hx (x := own_y24) (y := own_y23) (owner := "com/example/jobwright/jobwright/policies/Treap") hown (mvT hZ (own_w hw 148)) (mvT hZ (own_w hw 149)) (mvT hZ (own_w hw 150)) (by decide) (mvT hZ (own_w hw 152)) (mvT hZ (own_w hw 151)) (backOf (W := 0) (rm12_4 l Z a0 hw [] ob va h15 n0 P15 hA hB (own_fn (own_fn (own_fn (own_fn (own_fn hF19))))) (own_fn (own_fn (own_fn (own_fn (own_fn hF13))))) (own_fn (own_fn (own_fn (own_fn (own_fn hF14))))) (own_fn (own_fn (own_fn (own_fn (own_fn hF22))))) (own_fn (own_fn (own_fn (own_fn (own_fn hF15))))) (own_vn (own_vn (own_vn (own_vn (own_vn (own_vn (own_vn (own_vn (own_vi (own_vi (own_ve (own_len P 0 (by omega) 8 (by decide))))))))))))) (own_vn (own_vn (own_vn (own_vn (own_vn (own_vn (own_vn (own_vn (own_vi (own_ve (own_vl (own_len P 0 (by omega) 9 (by decide))))))))))))) (own_vn (own_vn (own_vn (own_vn (own_vn (own_vn (own_vn (own_vn (own_vn (own_vn (own_vn hV5_0))))))))))) (own_ve (own_vl (own_vl (own_vl (own_vl (own_vl (own_vl (own_vl (own_vl (own_vl (own_vl (own_len P 1 (by omega) 2 (by decide))))))))))))) (own_vn (own_ve (own_vl (own_vl (own_vl (own_vl (own_vl (own_vl (own_vl (own_vl (own_vl (own_len P 12 (by omega) 4 (by decide))))))))))))) (own_vn (own_vn (own_vn (own_vn (own_vn (own_vn (own_vn (own_vn (own_vn (own_vn (own_vn hV6_0))))))))))) (own_vn (own_vn (own_ve (own_vl (own_vl (own_vl (own_vl (own_vl (own_vl (own_vl (own_vl (own_len P 11 (by omega) 4 (by decide))))))))))))) (own_vn (own_vn (own_vi (own_vn (own_vn (own_vn (own_vn (own_vn (own_vn (own_vn (own_vn hV11_2))))))))))) (own_vn (own_vn (own_vn (own_vn (own_vn (own_vn (own_vn (own_vn (own_vi (own_vi (own_vi hV0_5))))))))))) (own_vn (own_vn (own_vn (own_vn (own_vn (own_vn (own_vn (own_vn (own_ve (own_vl (own_vl (own_len P 0 (by omega) 10 (by decide))))))))))))) (own_vn (own_vn (own_vn (own_vn (own_vn (own_vn (own_vn (own_vn (own_vi (own_vi (own_vi hV0_6))))))))))) (own_vn (own_vn (own_vn (own_vn (own_vn (own_vn (own_vn (own_vn (own_vi (own_vi (own_vi hV0_4))))))))))) (own_vi (own_vn (own_vn (own_vn (own_vn (own_vn (own_vn (own_vn (own_vn (own_vn (own_vn hV1_1))))))))))) (own_vn (own_vi (own_vn (own_vn (own_vn (own_vn (own_vn (own_vn (own_vn (own_vn (own_vn hV12_3))))))))))) ) hZ (own_w hw 153) (own_w hw 9) (by decide) (by decide)) q16a q16c (g := (mkF m 109 #[.val (.ref ob), .val (.int (3 : Int32)), .val (.long (20 : Int64)), .second, .val (.int (1 : Int32)), .val (.int (2 : Int32)), .val (.int (2 : Int32)), .unset, .unset, .unset, .unset] [(.int (2 : Int32)), (.ref ob)])) rfl (by rw [hml]; rfl) (Steps.refl _) (argsL := [(.int (2 : Int32))]) (rest := []) (lenOf own_pd0 rfl) rfl (by show 2 * 0 + _ ≤ _; exact Nat.le_of_eq rfl) (hb hby d21_109) (fun _ _ => ⟨rfl, e15, (by decide : 0 + 0 ≤ _), (by decide : 0 + 0 ≤ _)⟩)
  dsimp only [Pt.U, Pt.locs, Pt.cells, Pt.slots] at X16 l16 y16 z16 st16 hQ16
  subst l16 y16 z16
  obtain ⟨rfl, Nq16, P16⟩ := hQ16
  have N16 := Fr.app N15 Nq16
  obtain ⟨T17, X17, e17, st17⟩ := own_gf X16 hx hZ hown rfl P16 19 (own_w hw 54) (v := (.int (1 : Int32))) (own_fn (own_fn (own_fn (own_fn (own_fn (own_fn (own_fn (own_fn (own_fn hF19))))))))) (hb hby d21_115) #[.val (.ref ob), .val (.int (3 : Int32)), .val (.long (20 : Int64)), .second, .val (.int (1 : Int32)), .val (.int (2 : Int32)), .val (.int (2 : Int32)), .unset, .unset, .unset, .unset] [(.int (2 : Int32))]
  obtain ⟨fs, hr, hrun, hended, hW, hsame⟩ := X17.leave (v := some (.int (4 : Int32))) (fun h => by rw [Bd.returns] at h; cases h)
  refine ⟨_, _, castTop ef ?_, hrun, hended, _, _, rfl, ?_, ⟨_, rfl⟩, hW, hsame.mono (by decide) (by decide)⟩
  · refine s_iloadN X0 hx (hb hby d21_0) rfl ?_
    refine s_aloadN X0 hx (hb hby d21_1) rfl rfl ?_
    refine st1 _ ?_
    refine s_ishr X1 hx (1 : Int32) (hb hby d21_5) (by decide) ?_
    refine s_istore X1 hx #[.val (.ref ob), .val (.int (3 : Int32)), .val (.long (20 : Int64)), .second, .val (.int (1 : Int32)), .unset, .unset, .unset, .unset, .unset, .unset] (hb hby d21_6) rfl ?_
    refine s_iloadN X1 hx (hb hby d21_8) rfl ?_
    refine s_iload X1 hx (hb hby d21_9) rfl ?_
    refine s_aloadN X1 hx (hb hby d21_11) rfl rfl ?_
    refine st2 _ ?_
    refine s_ishl X2 hx (2 : Int32) (hb hby d21_15) (by decide) ?_
    refine s_isub X2 hx (1 : Int32) (hb hby d21_16) (by decide) ?_
    refine s_iconst X2 hx (1 : Int32) (hb hby d21_17) rfl ?_
    refine s_iadd X2 hx (2 : Int32) (hb hby d21_18) (by decide) ?_
    refine s_istore X2 hx #[.val (.ref ob), .val (.int (3 : Int32)), .val (.long (20 : Int64)), .second, .val (.int (1 : Int32)), .val (.int (2 : Int32)), .unset, .unset, .unset, .unset, .unset] (hb hby d21_19) rfl ?_
    refine s_iload X2 hx (hb hby d21_21) rfl ?_
    refine s_aloadN X2 hx (hb hby d21_23) rfl rfl ?_
    refine st3 _ ?_
    refine s_icmpN X3 hx (hb hby d21_27) (by decide) ?_
    refine s_iload X3 hx (hb hby d21_30) rfl ?_
    refine s_aloadN X3 hx (hb hby d21_32) rfl rfl ?_
    refine st4 _ ?_
    refine s_icmpN X4 hx (hb hby d21_36) (by decide) ?_
    refine s_aloadN X4 hx (hb hby d21_39) rfl rfl ?_
    refine s_iload X4 hx (hb hby d21_40) rfl ?_
    refine st5.trans ?_
    refine s_istore X5 hx #[.val (.ref ob), .val (.int (3 : Int32)), .val (.long (20 : Int64)), .second, .val (.int (1 : Int32)), .val (.int (2 : Int32)), .val (.int (2 : Int32)), .unset, .unset, .unset, .unset] (hb hby d21_45) rfl ?_
    refine s_aloadN X5 hx (hb hby d21_47) rfl rfl ?_
    refine st6 _ ?_
    refine s_iload X6 hx (hb hby d21_51) rfl ?_
    refine s_aloadN X6 hx (hb hby d21_53) rfl rfl ?_
    refine st7 _ ?_
    refine s_ishl X7 hx (4 : Int32) (hb hby d21_57) (by decide) ?_
    refine s_lloadN X7 hx (hb hby d21_58) rfl ?_
    refine s_aloadN X7 hx (hb hby d21_59) rfl rfl ?_
    refine st8 _ ?_
    refine s_lsub X8 hx (20 : Int64) (hb hby d21_63) (by decide) ?_
    refine st9 _ ?_
    refine s_aloadN X9 hx (hb hby d21_65) rfl rfl ?_
    refine st10 _ ?_
    refine s_iload X10 hx (hb hby d21_69) rfl ?_
    refine s_aloadN X10 hx (hb hby d21_71) rfl rfl ?_
    refine st11 _ ?_
    refine s_ishl X11 hx (4 : Int32) (hb hby d21_75) (by decide) ?_
    refine s_iconst X11 hx (0 : Int32) (hb hby d21_76) rfl ?_
    refine st12 _ ?_
    refine s_aloadN X12 hx (hb hby d21_78) rfl rfl ?_
    refine st13 _ ?_
    refine s_nullY X13 hx 98 (hb hby d21_82) (by decide) (by decide) ?_
    refine s_aloadN X13 hx (hb hby d21_98) rfl rfl ?_
    refine st14 _ ?_
    refine s_iload X14 hx (hb hby d21_102) rfl ?_
    refine s_iconst X14 hx (1 : Int32) (hb hby d21_104) rfl ?_
    refine st15 _ ?_
    refine s_aloadN X15 hx (hb hby d21_106) rfl rfl ?_
    refine s_iload X15 hx (hb hby d21_107) rfl ?_
    refine st16.trans ?_
    refine s_iload X16 hx (hb hby d21_112) rfl ?_
    refine s_aloadN X16 hx (hb hby d21_114) rfl rfl ?_
    refine st17 _ ?_
    refine s_ishl X17 hx (4 : Int32) (hb hby d21_118) (by decide) ?_
    exact retI X17 hx Bd.returns (hb hby d21_119) hr
  · show ((_ : Option Value) = some (.int (4 : Int32)) ∧ Fr n0 _ ∧ own_PS Z T17.heap n0 ob nA A (own_up (own_up (own_up (own_up (own_up (own_up (own_up (own_up (own_up F 17 (.int (3 : Int32))) 18 (.long (-5553300284382974547 : Int64))) 18 (.long (-5509191256401354634 : Int64))) 18 (.long (7273575876580499574 : Int64))) 24 (.int (2 : Int32))) 27 (.int (0 : Int32))) 27 (.int (0 : Int32))) 14 (.int (1 : Int32))) 15 (.int (2 : Int32))) (own_vs (own_vs (own_vs (own_vs (own_vs (own_vs (own_vs (own_vs (own_vs (own_vs (own_vs (own_vs (own_vs (own_vs (own_vs (own_vs (own_vs (own_vs (own_vs (own_vs (own_vs (own_vs V 0 8 (.int (0 : Int32))) 0 9 (.int (0 : Int32))) 0 10 (.int (846755676 : Int32))) 2 2 (.int (1 : Int32))) 3 2 (.int (0 : Int32))) 3 1 (.int (2 : Int32))) 7 2 (.int (1 : Int32))) 9 2 (.int (1 : Int32))) 11 4 (.long (20 : Int64))) 12 4 (.int (0 : Int32))) 1 2 (.int (1 : Int32))) 5 2 (.int (0 : Int32))) 6 2 (.long (0 : Int64))) 4 2 (.int (2 : Int32))) 8 2 (.int (1 : Int32))) 10 2 (.int (1 : Int32))) 0 5 (.int (2 : Int32))) 5 1 (.int (((0 : Int32) + va) + (0 : Int32)))) 6 1 (.long (0 : Int64))) 4 1 (.int (1 : Int32))) 8 1 (.int (1 : Int32))) 10 1 (.int (1 : Int32))))
    rw [e17]
    exact ⟨rfl, N16, P16⟩
set_option maxRecDepth 65536 in
set_option maxHeartbeats 40000000 in
theorem rm29_3 (l : Launch) (Z : State) (a0 : Array Value) (hw : own_HW Z a0) (ws : List Jvm.Cond) {nA : Nat} {A : Nat → Addr} {F : Nat → Value} {V : Nat → List Value} (ob : Addr) (va : Int32) (vb : Int32) (vkb : Int64) (h0 : Heap) (n0 : Nat) (P : own_PS Z h0 n0 ob nA A F V) (hA : 13 ≤ nA) (hB : nA ≤ 14) (hF13 : F 13 = .null) (hV12_3 : (V 12).getD 3 (own_aZ 12) = (.int va)) :
    own_C l Z own_y34 bc29 7 none ws 0 0 #[(.ref ob), (.int (3 : Int32)), (.int (4 : Int32)), (.int vb), (.long vkb)] h0 (fun v h L => (v = none ∧ Fr n0 L ∧ own_PS Z h n0 ob nA A F (own_vs V 12 3 (.int (va + vb))))) := by
  refine MetFree.of_bodySF (plainFor_of_name own_pn2) hisR ?_
  intro p e s m args below meth c s₁ Bd hml0 hP hK
  obtain ⟨rfl, hZ, hh⟩ := hP
  have hx := Bd.exec
  have hby := Bd.bytes
  have hml : c.maxLocals = 7 := hml0
  have hown : s.vm.findClass "com/example/jobwright/jobwright/policies/ProfileSteps" = some m.cls := findClass_of_methodNamed Bd.named
  have X0 : Stand p l e ({ frames := 0, cells := 0, slots := 0, locals := 0 } : Room) s m #[(.ref ob), (.int (3 : Int32)), (.int (4 : Int32)), (.int vb), (.long vkb)] below meth c s₁ [] 0 0 := Stand.of_body Bd
  have e0 : s₁.heap = h0 := by rw [← hh, Bd.state]; rfl
  have N0 := Fr.nil n0
  have ef : entryFrame m #[(.ref ob), (.int (3 : Int32)), (.int (4 : Int32)), (.int vb), (.long vkb)] 7 = mkF m 0 #[.val (.ref ob), .val (.int (3 : Int32)), .val (.int (4 : Int32)), .val (.int vb), .val (.long vkb), .second, .unset] [] := by first | (simp [entryFrame, mkF, argsToLocals, Value.category]; done) | rfl
  obtain ⟨T1, X1, e1, st1⟩ := own_gf X0 hx hZ hown e0 P 12 (own_w hw 94) (v := (.ref (A 12))) (P.2.2.2.1 12 (by omega)) (hb hby d29_10) #[.val (.ref ob), .val (.int (3 : Int32)), .val (.int (4 : Int32)), .val (.int vb), .val (.long vkb), .second, .val (.int (3 : Int32))] []
  obtain ⟨T2, h2, l2, X2, e2, N2, P2, st2⟩ := own_ist X1 hx hZ e1 N0 P 12 3 (j := (3 : Int32)) (x := (va + vb)) (hb hby d29_19) #[.val (.ref ob), .val (.int (3 : Int32)), .val (.int (4 : Int32)), .val (.int vb), .val (.long vkb), .second, .val (.int (3 : Int32))] [] (by omega)
  obtain ⟨T3, X3, e3, st3⟩ := own_gf X2 hx hZ hown e2 P2 13 (own_w hw 96) (v := .null) hF13 (hb hby d29_27) #[.val (.ref ob), .val (.int (3 : Int32)), .val (.int (4 : Int32)), .val (.int vb), .val (.long vkb), .second, .val (.int (4 : Int32))] []
  obtain ⟨fs, hr, hrun, hended, hW, hsame⟩ := X3.leave (v := none) (fun _ => rfl)
  refine ⟨_, _, castTop ef ?_, hrun, hended, _, _, rfl, ?_, ⟨_, rfl⟩, hW, hsame.mono (by decide) (by decide)⟩
  · refine s_iloadN X0 hx (hb hby d29_0) rfl ?_
    refine s_istore X0 hx #[.val (.ref ob), .val (.int (3 : Int32)), .val (.int (4 : Int32)), .val (.int vb), .val (.long vkb), .second, .val (.int (3 : Int32))] (hb hby d29_1) rfl ?_
    refine s_iload X0 hx (hb hby d29_3) rfl ?_
    refine s_iloadN X0 hx (hb hby d29_5) rfl ?_
    refine s_icmpN X0 hx (hb hby d29_6) (by decide) ?_
    refine s_aloadN X0 hx (hb hby d29_9) rfl rfl ?_
    refine st1 _ ?_
    refine s_iload X1 hx (hb hby d29_13) rfl ?_
    refine s_dup2 X1 hx (hb hby d29_15) rfl rfl ?_
    refine own_ial X1 hx hZ e1 P 12 3 (v := (.int va)) hV12_3 (hb hby d29_16) (by omega) ?_
    refine s_iloadN X1 hx (hb hby d29_17) rfl ?_
    refine s_iadd X1 hx (va + vb) (hb hby d29_18) rfl ?_
    refine st2 _ ?_
    refine s_iinc X2 hx (4 : Int32) #[.val (.ref ob), .val (.int (3 : Int32)), .val (.int (4 : Int32)), .val (.int vb), .val (.long vkb), .second, .val (.int (4 : Int32))] (hb hby d29_20) rfl (by decide) rfl ?_
    refine s_goto X2 hx 3 (hb hby d29_23) (by decide) (by decide) ?_
    refine s_iload X2 hx (hb hby d29_3) rfl ?_
    refine s_iloadN X2 hx (hb hby d29_5) rfl ?_
    refine s_icmpY X2 hx 26 (hb hby d29_6) (by decide) (by decide) (by decide) ?_
    refine s_aloadN X2 hx (hb hby d29_26) rfl rfl ?_
    refine st3 _ ?_
    refine s_nullY X3 hx 60 (hb hby d29_30) (by decide) (by decide) ?_
    exact X3.returnOut hx Bd.returns (hb hby d29_60) hr
  · show ((_ : Option Value) = none ∧ Fr n0 _ ∧ own_PS Z T3.heap n0 ob nA A F (own_vs V 12 3 (.int (va + vb))))
    rw [e3]
    exact ⟨rfl, N2, P2⟩
set_option maxRecDepth 65536 in
set_option maxHeartbeats 40000000 in
theorem rm30_3 (l : Launch) (Z : State) (a0 : Array Value) (hw : own_HW Z a0) (ws : List Jvm.Cond) {nA : Nat} {A : Nat → Addr} {F : Nat → Value} {V : Nat → List Value} (ob : Addr) (va : Int32) (vb : Int32) (vkb : Int64) (h0 : Heap) (n0 : Nat) (P : own_PS Z h0 n0 ob nA A F V) (hA : 13 ≤ nA) (hB : nA ≤ 14) (hF24 : F 24 = (.int (2 : Int32))) (hF19 : F 19 = (.int (1 : Int32))) (hF22 : F 22 = (.long (0 : Int64))) (hF14 : F 14 = (.int (1 : Int32))) (hV11_2 : (V 11).getD 2 (own_aZ 11) = (.long (0 : Int64))) (hV5_1 : (V 5).getD 1 (own_aZ 5) = (.int (((0 : Int32) + va) + (0 : Int32)))) (hV6_1 : (V 6).getD 1 (own_aZ 6) = (.long (0 : Int64))) :
    own_C l Z own_y37 bc30 8 none ws 1 13 #[(.ref ob), (.int (1 : Int32)), (.int vb), (.long vkb)] h0 (fun v h L => (v = none ∧ Fr n0 L ∧ own_PS Z h n0 ob nA A F (own_vs (own_vs V 5 1 (.int ((((0 : Int32) + va) + (0 : Int32)) + vb))) 6 1 (.long ((0 : Int64) + vkb))))) := by
  refine MetFree.of_bodySF (plainFor_of_name own_pn2) hisR ?_
  intro p e s m args below meth c s₁ Bd hml0 hP hK
  obtain ⟨rfl, hZ, hh⟩ := hP
  have hx := Bd.exec
  have hby := Bd.bytes
  have hml : c.maxLocals = 8 := hml0
  have hown : s.vm.findClass "com/example/jobwright/jobwright/policies/ProfileSteps" = some m.cls := findClass_of_methodNamed Bd.named
  have X0 : Stand p l e ({ frames := 1, cells := 0, slots := 0, locals := 13 } : Room) s m #[(.ref ob), (.int (1 : Int32)), (.int vb), (.long vkb)] below meth c s₁ [] 0 0 := Stand.of_body Bd
  have e0 : s₁.heap = h0 := by rw [← hh, Bd.state]; rfl
  have N0 := Fr.nil n0
  have ef : entryFrame m #[(.ref ob), (.int (1 : Int32)), (.int vb), (.long vkb)] 8 = mkF m 0 #[.val (.ref ob), .val (.int (1 : Int32)), .val (.int vb), .val (.long vkb), .second, .unset, .unset, .unset] [] := by first | (simp [entryFrame, mkF, argsToLocals, Value.category]; done) | rfl
  obtain ⟨T1, X1, e1, st1⟩ := own_gf X0 hx hZ hown e0 P 24 (own_w hw 142) (v := (.int (2 : Int32))) hF24 (hb hby d30_2) #[.val (.ref ob), .val (.int (1 : Int32)), .val (.int vb), .val (.long vkb), .second, .unset, .unset, .unset] [(.int (1 : Int32))]
  obtain ⟨T2, X2, e2, st2⟩ := own_gf X1 hx hZ hown e1 P 19 (own_w hw 54) (v := (.int (1 : Int32))) hF19 (hb hby d30_12) #[.val (.ref ob), .val (.int (1 : Int32)), .val (.int vb), .val (.long vkb), .second, .unset, .unset, .unset] [(.int (1 : Int32)), (.ref ob)]
  obtain ⟨cq3, kq3, q3a, q3b, q3c⟩ := isOf hZ e2 P.1
  obtain ⟨_, _, ⟨T3, L3, k3, n3⟩, -, X3, ⟨Lc3, hQ3, l3, y3, z3⟩, st3⟩ := X2.virtualBack hx (y := own_y29) (z := own_y29) hown (mvT hZ (own_w hw 218)) (mvT hZ (own_w hw 219)) (own_nf (args := #[]) (z := own_y17) (mvT hZ (own_w hw 103)) rfl) (mvT hZ (own_w hw 221)) (mvT hZ (own_w hw 220)) (by decide) (backOf (W := 0) (rm25_2 l Z a0 hw [] ob  h0 n0 P hA hB hF22 hV11_2 ) hZ (own_w hw 222) (own_w hw 2) (by decide) (by decide)) q3a q3c (g := (mkF m 16 #[.val (.ref ob), .val (.int (1 : Int32)), .val (.int vb), .val (.long vkb), .second, .unset, .unset, .unset] [(.int (2 : Int32)), (.ref ob)])) rfl (by rw [hml]; rfl) (Steps.refl _) (argsL := [(.int (2 : Int32))]) (rest := []) (lenOf own_pd6 rfl) rfl (by show 2 * 0 + _ ≤ _; exact Nat.le_of_eq rfl) (hb hby d30_16) (fun _ _ => ⟨rfl, e2, (by decide : 0 + 0 ≤ _), (by decide : 0 + 0 ≤ _)⟩)
  dsimp only [Pt.U, Pt.locs, Pt.cells, Pt.slots] at X3 l3 y3 z3 st3 hQ3
  subst l3 y3 z3
  obtain ⟨rfl, Nq3, eh3⟩ := hQ3
  have N3 := Fr.app N0 Nq3
  obtain ⟨cq4, kq4, q4a, q4b, q4c⟩ := isOf hZ eh3 P.1
  obtain ⟨_, _, ⟨T4, L4, k4, n4⟩, -, X4, ⟨Lc4, hQ4, l4, y4, z4⟩, st4⟩ := X3.virtualBackUp hx (x := own_y36) (y := own_y35) (owner := "com/example/jobwright/jobwright/policies/Treap") hown (mvT hZ (own_w hw 246)) (mvT hZ (own_w hw 247)) (mvT hZ (own_w hw 248)) (by decide) (mvT hZ (own_w hw 250)) (mvT hZ (own_w hw 249)) (backOf (W := 0) (rm31_1 l Z a0 hw [] ob  h0 n0 P hA hB hF14  ) hZ (own_w hw 251) (own_w hw 9) (by decide) (by decide)) q4a q4c (g := (mkF m 22 #[.val (.ref ob), .val (.int (1 : Int32)), .val (.int vb), .val (.long vkb), .second, .val (.long (0 : Int64)), .second, .unset] [(.ref ob)])) rfl (by rw [hml]; rfl) (Steps.refl _) (argsL := []) (rest := []) (lenOf own_pd4 rfl) rfl (by show 2 * 0 + _ ≤ _; exact Nat.le_of_eq rfl) (hb hby d30_22) (fun _ _ => ⟨rfl, eh3, (by decide : 0 + 0 ≤ _), (by decide : 0 + 0 ≤ _)⟩)
  dsimp only [Pt.U, Pt.locs, Pt.cells, Pt.slots] at X4 l4 y4 z4 st4 hQ4
  subst l4 y4 z4
  obtain ⟨rfl, Nq4, eh4⟩ := hQ4
  have N4 := Fr.app N3 Nq4
  obtain ⟨T5, X5, e5, st5⟩ := own_gf X4 hx hZ hown eh4 P 5 (own_w hw 66) (v := (.ref (A 5))) (P.2.2.2.1 5 (by omega)) (hb hby d30_93) #[.val (.ref ob), .val (.int (1 : Int32)), .val (.int vb), .val (.long vkb), .second, .val (.long (0 : Int64)), .second, .val (.int (1 : Int32))] []
  obtain ⟨T6, h6, l6, X6, e6, N6, P6, st6⟩ := own_ist X5 hx hZ e5 N4 P 5 1 (j := (1 : Int32)) (x := ((((0 : Int32) + va) + (0 : Int32)) + vb)) (hb hby d30_101) #[.val (.ref ob), .val (.int (1 : Int32)), .val (.int vb), .val (.long vkb), .second, .val (.long (0 : Int64)), .second, .val (.int (1 : Int32))] [] (by omega)
  obtain ⟨T7, X7, e7, st7⟩ := own_gf X6 hx hZ hown e6 P6 6 (own_w hw 68) (v := (.ref (A 6))) (P6.2.2.2.1 6 (by omega)) (hb hby d30_103) #[.val (.ref ob), .val (.int (1 : Int32)), .val (.int vb), .val (.long vkb), .second, .val (.long (0 : Int64)), .second, .val (.int (1 : Int32))] []
  obtain ⟨T8, h8, l8, X8, e8, N8, P8, st8⟩ := own_lst X7 hx hZ e7 N6 P6 6 1 (j := (1 : Int32)) (x := ((0 : Int64) + vkb)) (hb hby d30_111) #[.val (.ref ob), .val (.int (1 : Int32)), .val (.int vb), .val (.long vkb), .second, .val (.long (0 : Int64)), .second, .val (.int (1 : Int32))] [] (by omega)
  obtain ⟨fs, hr, hrun, hended, hW, hsame⟩ := X8.leave (v := none) (fun _ => rfl)
  refine ⟨_, _, castTop ef ?_, hrun, hended, _, _, rfl, ?_, ⟨_, rfl⟩, hW, hsame.mono (by decide) (by decide)⟩
  · refine s_iloadN X0 hx (hb hby d30_0) rfl ?_
    refine s_aloadN X0 hx (hb hby d30_1) rfl rfl ?_
    refine st1 _ ?_
    refine s_icmpY X1 hx 9 (hb hby d30_5) (by decide) (by decide) (by decide) ?_
    refine s_aloadN X1 hx (hb hby d30_9) rfl rfl ?_
    refine s_iloadN X1 hx (hb hby d30_10) rfl ?_
    refine s_aloadN X1 hx (hb hby d30_11) rfl rfl ?_
    refine st2 _ ?_
    refine s_ishl X2 hx (2 : Int32) (hb hby d30_15) (by decide) ?_
    refine st3.trans ?_
    refine s_lstore X3 hx #[.val (.ref ob), .val (.int (1 : Int32)), .val (.int vb), .val (.long vkb), .second, .val (.long (0 : Int64)), .second, .unset] (hb hby d30_19) rfl ?_
    refine s_aloadN X3 hx (hb hby d30_21) rfl rfl ?_
    refine st4.trans ?_
    refine s_istore X4 hx #[.val (.ref ob), .val (.int (1 : Int32)), .val (.int vb), .val (.long vkb), .second, .val (.long (0 : Int64)), .second, .val (.int (1 : Int32))] (hb hby d30_25) rfl ?_
    refine s_iload X4 hx (hb hby d30_27) rfl ?_
    refine s_iloadN X4 hx (hb hby d30_29) rfl ?_
    refine s_icmpY X4 hx 92 (hb hby d30_30) (by decide) (by decide) (by decide) ?_
    refine s_aloadN X4 hx (hb hby d30_92) rfl rfl ?_
    refine st5 _ ?_
    refine s_iloadN X5 hx (hb hby d30_96) rfl ?_
    refine s_dup2 X5 hx (hb hby d30_97) rfl rfl ?_
    refine own_ial X5 hx hZ e5 P 5 1 (v := (.int (((0 : Int32) + va) + (0 : Int32)))) hV5_1 (hb hby d30_98) (by omega) ?_
    refine s_iloadN X5 hx (hb hby d30_99) rfl ?_
    refine s_iadd X5 hx ((((0 : Int32) + va) + (0 : Int32)) + vb) (hb hby d30_100) rfl ?_
    refine st6 _ ?_
    refine s_aloadN X6 hx (hb hby d30_102) rfl rfl ?_
    refine st7 _ ?_
    refine s_iloadN X7 hx (hb hby d30_106) rfl ?_
    refine s_dup2 X7 hx (hb hby d30_107) rfl rfl ?_
    refine own_lal X7 hx hZ e7 P6 6 1 (v := (.long (0 : Int64))) (own_vn hV6_1) (hb hby d30_108) (by omega) ?_
    refine s_lloadN X7 hx (hb hby d30_109) rfl ?_
    refine s_ladd X7 hx ((0 : Int64) + vkb) (hb hby d30_110) rfl ?_
    refine st8 _ ?_
    exact X8.returnOut hx Bd.returns (hb hby d30_112) hr
  · show ((_ : Option Value) = none ∧ Fr n0 _ ∧ own_PS Z T8.heap n0 ob nA A F (own_vs (own_vs V 5 1 (.int ((((0 : Int32) + va) + (0 : Int32)) + vb))) 6 1 (.long ((0 : Int64) + vkb))))
    rw [e8]
    exact ⟨rfl, N8, P8⟩
set_option maxRecDepth 65536 in
set_option maxHeartbeats 40000000 in
theorem rm28_3 (l : Launch) (Z : State) (a0 : Array Value) (hw : own_HW Z a0) (ws : List Jvm.Cond) {nA : Nat} {A : Nat → Addr} {F : Nat → Value} {V : Nat → List Value} (ob : Addr) (va : Int32) (vb : Int32) (vkb : Int64) (h0 : Heap) (n0 : Nat) (P : own_PS Z h0 n0 ob nA A F V) (hA : 13 ≤ nA) (hB : nA ≤ 14) (hF19 : F 19 = (.int (1 : Int32))) (hF13 : F 13 = .null) (hF24 : F 24 = (.int (2 : Int32))) (hF22 : F 22 = (.long (0 : Int64))) (hF14 : F 14 = (.int (1 : Int32))) (hF21 : F 21 = (.int (0 : Int32))) (hV1_1 : (V 1).getD 1 (own_aZ 1) = (.int (2 : Int32))) (hV12_3 : (V 12).getD 3 (own_aZ 12) = (.int va)) (hV7_1 : (V 7).getD 1 (own_aZ 7) = (.int (1 : Int32))) (hV9_1 : (V 9).getD 1 (own_aZ 9) = (.int (1 : Int32))) (hV11_2 : (V 11).getD 2 (own_aZ 11) = (.long (0 : Int64))) (hV5_1 : (V 5).getD 1 (own_aZ 5) = (.int (((0 : Int32) + va) + (0 : Int32)))) (hV6_1 : (V 6).getD 1 (own_aZ 6) = (.long (0 : Int64))) :
    own_C l Z own_y39 bc28 8 none ws 2 32 #[(.ref ob), (.int (3 : Int32)), (.int (-1 : Int32)), (.int vb), (.long vkb)] h0 (fun v h L => (v = none ∧ Fr n0 L ∧ own_PS Z h n0 ob nA A F (own_vs (own_vs (own_vs V 12 3 (.int (va + vb))) 5 1 (.int ((((0 : Int32) + va) + (0 : Int32)) + vb))) 6 1 (.long ((0 : Int64) + vkb))))) := by
  refine MetFree.of_bodySF (plainFor_of_name own_pn2) hisR ?_
  intro p e s m args below meth c s₁ Bd hml0 hP hK
  obtain ⟨rfl, hZ, hh⟩ := hP
  have hx := Bd.exec
  have hby := Bd.bytes
  have hml : c.maxLocals = 8 := hml0
  have hown : s.vm.findClass "com/example/jobwright/jobwright/policies/ProfileSteps" = some m.cls := findClass_of_methodNamed Bd.named
  have X0 : Stand p l e ({ frames := 2, cells := 0, slots := 0, locals := 32 } : Room) s m #[(.ref ob), (.int (3 : Int32)), (.int (-1 : Int32)), (.int vb), (.long vkb)] below meth c s₁ [] 0 0 := Stand.of_body Bd
  have e0 : s₁.heap = h0 := by rw [← hh, Bd.state]; rfl
  have N0 := Fr.nil n0
  have ef : entryFrame m #[(.ref ob), (.int (3 : Int32)), (.int (-1 : Int32)), (.int vb), (.long vkb)] 8 = mkF m 0 #[.val (.ref ob), .val (.int (3 : Int32)), .val (.int (-1 : Int32)), .val (.int vb), .val (.long vkb), .second, .unset, .unset] [] := by first | (simp [entryFrame, mkF, argsToLocals, Value.category]; done) | rfl
  obtain ⟨T1, X1, e1, st1⟩ := own_gf X0 hx hZ hown e0 P 19 (own_w hw 54) (v := (.int (1 : Int32))) hF19 (hb hby d28_2) #[.val (.ref ob), .val (.int (3 : Int32)), .val (.int (-1 : Int32)), .val (.int vb), .val (.long vkb), .second, .unset, .unset] [(.int (3 : Int32))]
  obtain ⟨T2, X2, e2, st2⟩ := own_gf X1 hx hZ hown e1 P 19 (own_w hw 54) (v := (.int (1 : Int32))) hF19 (hb hby d28_45) #[.val (.ref ob), .val (.int (3 : Int32)), .val (.int (-1 : Int32)), .val (.int vb), .val (.long vkb), .second, .val (.int (1 : Int32)), .unset] [(.int (1 : Int32)), (.int (3 : Int32)), (.ref ob)]
  obtain ⟨T3, X3, e3, st3⟩ := own_gf X2 hx hZ hown e2 P 1 (own_w hw 58) (v := (.ref (A 1))) (P.2.2.2.1 1 (by omega)) (hb hby d28_50) #[.val (.ref ob), .val (.int (3 : Int32)), .val (.int (-1 : Int32)), .val (.int vb), .val (.long vkb), .second, .val (.int (1 : Int32)), .unset] [(.int (2 : Int32)), (.int (3 : Int32)), (.ref ob)]
  obtain ⟨cq4, q4, q4'⟩ := P.1.cell
  obtain ⟨_, _, ⟨T4, L4, k4, n4⟩, -, X4, ⟨Lc4, hQ4, l4, y4, z4⟩, st4⟩ := X3.privateBack hx (y := own_y34) hown (mvT hZ (own_w hw 238)) (mvT hZ (own_w hw 239)) (own_psel (z := own_y17) (mvT hZ (own_w hw 103)) (mvP hZ (own_w hw 240)) (mvT hZ (own_w hw 239)) rfl (by decide)) (Cond.privateMethod_at (mvP hZ (own_w hw 240) (args := #[]))) (mvT hZ (own_w hw 241)) (by decide) (backOf (W := 0) (rm29_3 l Z a0 hw [] ob va vb vkb h0 n0 P hA hB hF13 hV12_3 ) hZ (own_w hw 241) (own_w hw 2) (by decide) (by decide)) (g := (mkF m 60 #[.val (.ref ob), .val (.int (3 : Int32)), .val (.int (-1 : Int32)), .val (.int vb), .val (.long vkb), .second, .val (.int (1 : Int32)), .unset] [(.long vkb), (.int vb), (.int (4 : Int32)), (.int (3 : Int32)), (.ref ob)])) rfl (by rw [hml]; rfl) (Steps.refl _) (a := ob) (by rw [e3]; exact q4) q4' (argsL := [(.int (3 : Int32)), (.int (4 : Int32)), (.int vb), (.long vkb)]) (rest := []) (lenOf own_pd12 rfl) rfl (by show 2 * 0 + _ ≤ _; exact Nat.le_of_eq rfl) (hb hby d28_60) (fun _ _ => ⟨rfl, e3, (by decide : 0 + 0 ≤ _), (by decide : 0 + 0 ≤ _)⟩)
  dsimp only [Pt.U, Pt.locs, Pt.cells, Pt.slots] at X4 l4 y4 z4 st4 hQ4
  subst l4 y4 z4
  obtain ⟨rfl, Nq4, P4⟩ := hQ4
  have N4 := Fr.app N0 Nq4
  obtain ⟨cq5, q5, q5'⟩ := P4.1.cell
  obtain ⟨_, _, ⟨T5, L5, k5, n5⟩, -, X5, ⟨Lc5, hQ5, l5, y5, z5⟩, st5⟩ := X4.privateBack hx (y := own_y26) hown (mvT hZ (own_w hw 204)) (mvT hZ (own_w hw 205)) (own_psel (z := own_y17) (mvT hZ (own_w hw 103)) (mvP hZ (own_w hw 206)) (mvT hZ (own_w hw 205)) rfl (by decide)) (Cond.privateMethod_at (mvP hZ (own_w hw 206) (args := #[]))) (mvT hZ (own_w hw 207)) (by decide) (backOf (W := 0) (rm22_1 l Z a0 hw [] ob  T4.heap n0 P4 hA hB  (own_vn hV7_1) (own_vn hV9_1) ) hZ (own_w hw 207) (own_w hw 2) (by decide) (by decide)) (g := (mkF m 66 #[.val (.ref ob), .val (.int (3 : Int32)), .val (.int (-1 : Int32)), .val (.int vb), .val (.long vkb), .second, .val (.int (1 : Int32)), .unset] [(.int (1 : Int32)), (.ref ob)])) rfl (by rw [hml]; rfl) (Steps.refl _) (a := ob) q5 q5' (argsL := [(.int (1 : Int32))]) (rest := []) (lenOf own_pd0 rfl) rfl (by show 2 * 0 + _ ≤ _; exact Nat.le_of_eq rfl) (hb hby d28_66) (fun _ _ => ⟨rfl, rfl, (by decide : 0 + 0 ≤ _), (by decide : 0 + 0 ≤ _)⟩)
  dsimp only [Pt.U, Pt.locs, Pt.cells, Pt.slots] at X5 l5 y5 z5 st5 hQ5
  subst l5 y5 z5
  obtain ⟨rfl, Nq5, eh5⟩ := hQ5
  have N5 := Fr.app N4 Nq5
  obtain ⟨cq6, q6, q6'⟩ := P4.1.cell
  obtain ⟨_, _, ⟨T6, L6, k6, n6⟩, -, X6, ⟨Lc6, hQ6, l6, y6, z6⟩, st6⟩ := X5.privateBack hx (y := own_y37) hown (mvT hZ (own_w hw 242)) (mvT hZ (own_w hw 243)) (own_psel (z := own_y17) (mvT hZ (own_w hw 103)) (mvP hZ (own_w hw 244)) (mvT hZ (own_w hw 243)) rfl (by decide)) (Cond.privateMethod_at (mvP hZ (own_w hw 244) (args := #[]))) (mvT hZ (own_w hw 245)) (by decide) (backOf (W := 0) (rm30_3 l Z a0 hw [] ob va vb vkb T4.heap n0 P4 hA hB hF24 hF19 hF22 hF14 (own_vn hV11_2) (own_vn hV5_1) (own_vn hV6_1) ) hZ (own_w hw 245) (own_w hw 2) (by decide) (by decide)) (g := (mkF m 75 #[.val (.ref ob), .val (.int (3 : Int32)), .val (.int (-1 : Int32)), .val (.int vb), .val (.long vkb), .second, .val (.int (1 : Int32)), .unset] [(.long vkb), (.int vb), (.int (1 : Int32)), (.ref ob)])) rfl (by rw [hml]; rfl) (Steps.refl _) (a := ob) (by rw [eh5]; exact q6) q6' (argsL := [(.int (1 : Int32)), (.int vb), (.long vkb)]) (rest := []) (lenOf own_pd13 rfl) rfl (by show 2 * 0 + _ ≤ _; exact Nat.le_of_eq rfl) (hb hby d28_75) (fun _ _ => ⟨rfl, eh5, (by decide : 0 + 0 ≤ _), (by decide : 0 + 0 ≤ _)⟩)
  dsimp only [Pt.U, Pt.locs, Pt.cells, Pt.slots] at X6 l6 y6 z6 st6 hQ6
  subst l6 y6 z6
  obtain ⟨rfl, Nq6, P6⟩ := hQ6
  have N6 := Fr.app N5 Nq6
  obtain ⟨cq7, q7, q7'⟩ := P6.1.cell
  obtain ⟨_, _, ⟨T7, L7, k7, n7⟩, -, X7, ⟨Lc7, hQ7, l7, y7, z7⟩, st7⟩ := X6.privateBack hx (y := own_y38) hown (mvT hZ (own_w hw 252)) (mvT hZ (own_w hw 253)) (own_psel (z := own_y17) (mvT hZ (own_w hw 103)) (mvP hZ (own_w hw 254)) (mvT hZ (own_w hw 253)) rfl (by decide)) (Cond.privateMethod_at (mvP hZ (own_w hw 254) (args := #[]))) (mvT hZ (own_w hw 255)) (by decide) (backOf (W := 0) (rm32_1 l Z a0 hw [] ob vb vkb T6.heap n0 P6 hA hB hF21  ) hZ (own_w hw 255) (own_w hw 2) (by decide) (by decide)) (g := (mkF m 84 #[.val (.ref ob), .val (.int (3 : Int32)), .val (.int (-1 : Int32)), .val (.int vb), .val (.long vkb), .second, .val (.int (1 : Int32)), .unset] [(.long vkb), (.int vb), (.int (1 : Int32)), (.ref ob)])) rfl (by rw [hml]; rfl) (Steps.refl _) (a := ob) q7 q7' (argsL := [(.int (1 : Int32)), (.int vb), (.long vkb)]) (rest := []) (lenOf own_pd13 rfl) rfl (by show 2 * 0 + _ ≤ _; exact Nat.le_of_eq rfl) (hb hby d28_84) (fun _ _ => ⟨rfl, rfl, (by decide : 0 + 0 ≤ _), (by decide : 0 + 0 ≤ _)⟩)
  dsimp only [Pt.U, Pt.locs, Pt.cells, Pt.slots] at X7 l7 y7 z7 st7 hQ7
  subst l7 y7 z7
  obtain ⟨rfl, Nq7, eh7⟩ := hQ7
  have N7 := Fr.app N6 Nq7
  obtain ⟨fs, hr, hrun, hended, hW, hsame⟩ := X7.leave (v := none) (fun _ => rfl)
  refine ⟨_, _, castTop ef ?_, hrun, hended, _, _, rfl, ?_, ⟨_, rfl⟩, hW, hsame.mono (by decide) (by decide)⟩
  · refine s_iloadN X0 hx (hb hby d28_0) rfl ?_
    refine s_aloadN X0 hx (hb hby d28_1) rfl rfl ?_
    refine st1 _ ?_
    refine s_ishr X1 hx (1 : Int32) (hb hby d28_5) (by decide) ?_
    refine s_istore X1 hx #[.val (.ref ob), .val (.int (3 : Int32)), .val (.int (-1 : Int32)), .val (.int vb), .val (.long vkb), .second, .val (.int (1 : Int32)), .unset] (hb hby d28_6) rfl ?_
    refine s_iloadN X1 hx (hb hby d28_8) rfl ?_
    refine s_iconst X1 hx (-1 : Int32) (hb hby d28_9) rfl ?_
    refine s_icmpY X1 hx 40 (hb hby d28_10) (by decide) (by decide) (by decide) ?_
    refine s_aloadN X1 hx (hb hby d28_40) rfl rfl ?_
    refine s_iloadN X1 hx (hb hby d28_41) rfl ?_
    refine s_iload X1 hx (hb hby d28_42) rfl ?_
    refine s_aloadN X1 hx (hb hby d28_44) rfl rfl ?_
    refine st2 _ ?_
    refine s_ishl X2 hx (2 : Int32) (hb hby d28_48) (by decide) ?_
    refine s_aloadN X2 hx (hb hby d28_49) rfl rfl ?_
    refine st3 _ ?_
    refine s_iload X3 hx (hb hby d28_53) rfl ?_
    refine own_ial X3 hx hZ e3 P 1 1 (v := (.int (2 : Int32))) hV1_1 (hb hby d28_55) (by omega) ?_
    refine s_iadd X3 hx (4 : Int32) (hb hby d28_56) (by decide) ?_
    refine s_iloadN X3 hx (hb hby d28_57) rfl ?_
    refine s_lload X3 hx (hb hby d28_58) rfl ?_
    refine st4.trans ?_
    refine s_aloadN X4 hx (hb hby d28_63) rfl rfl ?_
    refine s_iload X4 hx (hb hby d28_64) rfl ?_
    refine st5.trans ?_
    refine s_aloadN X5 hx (hb hby d28_69) rfl rfl ?_
    refine s_iload X5 hx (hb hby d28_70) rfl ?_
    refine s_iloadN X5 hx (hb hby d28_72) rfl ?_
    refine s_lload X5 hx (hb hby d28_73) rfl ?_
    refine st6.trans ?_
    refine s_aloadN X6 hx (hb hby d28_78) rfl rfl ?_
    refine s_iload X6 hx (hb hby d28_79) rfl ?_
    refine s_iloadN X6 hx (hb hby d28_81) rfl ?_
    refine s_lload X6 hx (hb hby d28_82) rfl ?_
    refine st7.trans ?_
    refine s_iloadN X7 hx (hb hby d28_87) rfl ?_
    refine s_iconst X7 hx (-1 : Int32) (hb hby d28_88) rfl ?_
    refine s_icmpY X7 hx 153 (hb hby d28_89) (by decide) (by decide) (by decide) ?_
    exact X7.returnOut hx Bd.returns (hb hby d28_153) hr
  · show ((_ : Option Value) = none ∧ Fr n0 _ ∧ own_PS Z T7.heap n0 ob nA A F (own_vs (own_vs (own_vs V 12 3 (.int (va + vb))) 5 1 (.int ((((0 : Int32) + va) + (0 : Int32)) + vb))) 6 1 (.long ((0 : Int64) + vkb))))
    rw [eh7]
    exact ⟨rfl, N7, P6⟩
set_option maxRecDepth 65536 in
set_option maxHeartbeats 40000000 in
theorem rm29_4 (l : Launch) (Z : State) (a0 : Array Value) (hw : own_HW Z a0) (ws : List Jvm.Cond) {nA : Nat} {A : Nat → Addr} {F : Nat → Value} {V : Nat → List Value} (ob : Addr) (vc : Int32) (vkc : Int64) (h0 : Heap) (n0 : Nat) (P : own_PS Z h0 n0 ob nA A F V) (hA : 13 ≤ nA) (hB : nA ≤ 14) (hF13 : F 13 = .null) (hV12_4 : (V 12).getD 4 (own_aZ 12) = (.int (0 : Int32))) :
    own_C l Z own_y34 bc29 7 none ws 0 0 #[(.ref ob), (.int (4 : Int32)), (.int (5 : Int32)), (.int vc), (.long vkc)] h0 (fun v h L => (v = none ∧ Fr n0 L ∧ own_PS Z h n0 ob nA A F (own_vs V 12 4 (.int ((0 : Int32) + vc))))) := by
  refine MetFree.of_bodySF (plainFor_of_name own_pn2) hisR ?_
  intro p e s m args below meth c s₁ Bd hml0 hP hK
  obtain ⟨rfl, hZ, hh⟩ := hP
  have hx := Bd.exec
  have hby := Bd.bytes
  have hml : c.maxLocals = 7 := hml0
  have hown : s.vm.findClass "com/example/jobwright/jobwright/policies/ProfileSteps" = some m.cls := findClass_of_methodNamed Bd.named
  have X0 : Stand p l e ({ frames := 0, cells := 0, slots := 0, locals := 0 } : Room) s m #[(.ref ob), (.int (4 : Int32)), (.int (5 : Int32)), (.int vc), (.long vkc)] below meth c s₁ [] 0 0 := Stand.of_body Bd
  have e0 : s₁.heap = h0 := by rw [← hh, Bd.state]; rfl
  have N0 := Fr.nil n0
  have ef : entryFrame m #[(.ref ob), (.int (4 : Int32)), (.int (5 : Int32)), (.int vc), (.long vkc)] 7 = mkF m 0 #[.val (.ref ob), .val (.int (4 : Int32)), .val (.int (5 : Int32)), .val (.int vc), .val (.long vkc), .second, .unset] [] := by first | (simp [entryFrame, mkF, argsToLocals, Value.category]; done) | rfl
  obtain ⟨T1, X1, e1, st1⟩ := own_gf X0 hx hZ hown e0 P 12 (own_w hw 94) (v := (.ref (A 12))) (P.2.2.2.1 12 (by omega)) (hb hby d29_10) #[.val (.ref ob), .val (.int (4 : Int32)), .val (.int (5 : Int32)), .val (.int vc), .val (.long vkc), .second, .val (.int (4 : Int32))] []
  obtain ⟨T2, h2, l2, X2, e2, N2, P2, st2⟩ := own_ist X1 hx hZ e1 N0 P 12 4 (j := (4 : Int32)) (x := ((0 : Int32) + vc)) (hb hby d29_19) #[.val (.ref ob), .val (.int (4 : Int32)), .val (.int (5 : Int32)), .val (.int vc), .val (.long vkc), .second, .val (.int (4 : Int32))] [] (by omega)
  obtain ⟨T3, X3, e3, st3⟩ := own_gf X2 hx hZ hown e2 P2 13 (own_w hw 96) (v := .null) hF13 (hb hby d29_27) #[.val (.ref ob), .val (.int (4 : Int32)), .val (.int (5 : Int32)), .val (.int vc), .val (.long vkc), .second, .val (.int (5 : Int32))] []
  obtain ⟨fs, hr, hrun, hended, hW, hsame⟩ := X3.leave (v := none) (fun _ => rfl)
  refine ⟨_, _, castTop ef ?_, hrun, hended, _, _, rfl, ?_, ⟨_, rfl⟩, hW, hsame.mono (by decide) (by decide)⟩
  · refine s_iloadN X0 hx (hb hby d29_0) rfl ?_
    refine s_istore X0 hx #[.val (.ref ob), .val (.int (4 : Int32)), .val (.int (5 : Int32)), .val (.int vc), .val (.long vkc), .second, .val (.int (4 : Int32))] (hb hby d29_1) rfl ?_
    refine s_iload X0 hx (hb hby d29_3) rfl ?_
    refine s_iloadN X0 hx (hb hby d29_5) rfl ?_
    refine s_icmpN X0 hx (hb hby d29_6) (by decide) ?_
    refine s_aloadN X0 hx (hb hby d29_9) rfl rfl ?_
    refine st1 _ ?_
    refine s_iload X1 hx (hb hby d29_13) rfl ?_
    refine s_dup2 X1 hx (hb hby d29_15) rfl rfl ?_
    refine own_ial X1 hx hZ e1 P 12 4 (v := (.int (0 : Int32))) hV12_4 (hb hby d29_16) (by omega) ?_
    refine s_iloadN X1 hx (hb hby d29_17) rfl ?_
    refine s_iadd X1 hx ((0 : Int32) + vc) (hb hby d29_18) rfl ?_
    refine st2 _ ?_
    refine s_iinc X2 hx (5 : Int32) #[.val (.ref ob), .val (.int (4 : Int32)), .val (.int (5 : Int32)), .val (.int vc), .val (.long vkc), .second, .val (.int (5 : Int32))] (hb hby d29_20) rfl (by decide) rfl ?_
    refine s_goto X2 hx 3 (hb hby d29_23) (by decide) (by decide) ?_
    refine s_iload X2 hx (hb hby d29_3) rfl ?_
    refine s_iloadN X2 hx (hb hby d29_5) rfl ?_
    refine s_icmpY X2 hx 26 (hb hby d29_6) (by decide) (by decide) (by decide) ?_
    refine s_aloadN X2 hx (hb hby d29_26) rfl rfl ?_
    refine st3 _ ?_
    refine s_nullY X3 hx 60 (hb hby d29_30) (by decide) (by decide) ?_
    exact X3.returnOut hx Bd.returns (hb hby d29_60) hr
  · show ((_ : Option Value) = none ∧ Fr n0 _ ∧ own_PS Z T3.heap n0 ob nA A F (own_vs V 12 4 (.int ((0 : Int32) + vc))))
    rw [e3]
    exact ⟨rfl, N2, P2⟩
set_option maxRecDepth 65536 in
set_option maxHeartbeats 40000000 in
theorem rm28_4 (l : Launch) (Z : State) (a0 : Array Value) (hw : own_HW Z a0) (ws : List Jvm.Cond) {nA : Nat} {A : Nat → Addr} {F : Nat → Value} {V : Nat → List Value} (ob : Addr) (vc : Int32) (vkc : Int64) (h0 : Heap) (n0 : Nat) (P : own_PS Z h0 n0 ob nA A F V) (hA : 13 ≤ nA) (hB : nA ≤ 14) (hF19 : F 19 = (.int (1 : Int32))) (hF13 : F 13 = .null) (hF24 : F 24 = (.int (2 : Int32))) (hF21 : F 21 = (.int (0 : Int32))) (hV1_2 : (V 1).getD 2 (own_aZ 1) = (.int (1 : Int32))) (hV12_4 : (V 12).getD 4 (own_aZ 12) = (.int (0 : Int32))) (hV7_2 : (V 7).getD 2 (own_aZ 7) = (.int (1 : Int32))) (hV9_2 : (V 9).getD 2 (own_aZ 9) = (.int (1 : Int32))) :
    own_C l Z own_y39 bc28 8 none ws 1 19 #[(.ref ob), (.int (4 : Int32)), (.int (-1 : Int32)), (.int vc), (.long vkc)] h0 (fun v h L => (v = none ∧ Fr n0 L ∧ own_PS Z h n0 ob nA A F (own_vs V 12 4 (.int ((0 : Int32) + vc))))) := by
  refine MetFree.of_bodySF (plainFor_of_name own_pn2) hisR ?_
  intro p e s m args below meth c s₁ Bd hml0 hP hK
  obtain ⟨rfl, hZ, hh⟩ := hP
  have hx := Bd.exec
  have hby := Bd.bytes
  have hml : c.maxLocals = 8 := hml0
  have hown : s.vm.findClass "com/example/jobwright/jobwright/policies/ProfileSteps" = some m.cls := findClass_of_methodNamed Bd.named
  have X0 : Stand p l e ({ frames := 1, cells := 0, slots := 0, locals := 19 } : Room) s m #[(.ref ob), (.int (4 : Int32)), (.int (-1 : Int32)), (.int vc), (.long vkc)] below meth c s₁ [] 0 0 := Stand.of_body Bd
  have e0 : s₁.heap = h0 := by rw [← hh, Bd.state]; rfl
  have N0 := Fr.nil n0
  have ef : entryFrame m #[(.ref ob), (.int (4 : Int32)), (.int (-1 : Int32)), (.int vc), (.long vkc)] 8 = mkF m 0 #[.val (.ref ob), .val (.int (4 : Int32)), .val (.int (-1 : Int32)), .val (.int vc), .val (.long vkc), .second, .unset, .unset] [] := by first | (simp [entryFrame, mkF, argsToLocals, Value.category]; done) | rfl
  obtain ⟨T1, X1, e1, st1⟩ := own_gf X0 hx hZ hown e0 P 19 (own_w hw 54) (v := (.int (1 : Int32))) hF19 (hb hby d28_2) #[.val (.ref ob), .val (.int (4 : Int32)), .val (.int (-1 : Int32)), .val (.int vc), .val (.long vkc), .second, .unset, .unset] [(.int (4 : Int32))]
  obtain ⟨T2, X2, e2, st2⟩ := own_gf X1 hx hZ hown e1 P 19 (own_w hw 54) (v := (.int (1 : Int32))) hF19 (hb hby d28_45) #[.val (.ref ob), .val (.int (4 : Int32)), .val (.int (-1 : Int32)), .val (.int vc), .val (.long vkc), .second, .val (.int (2 : Int32)), .unset] [(.int (2 : Int32)), (.int (4 : Int32)), (.ref ob)]
  obtain ⟨T3, X3, e3, st3⟩ := own_gf X2 hx hZ hown e2 P 1 (own_w hw 58) (v := (.ref (A 1))) (P.2.2.2.1 1 (by omega)) (hb hby d28_50) #[.val (.ref ob), .val (.int (4 : Int32)), .val (.int (-1 : Int32)), .val (.int vc), .val (.long vkc), .second, .val (.int (2 : Int32)), .unset] [(.int (4 : Int32)), (.int (4 : Int32)), (.ref ob)]
  obtain ⟨cq4, q4, q4'⟩ := P.1.cell
  obtain ⟨_, _, ⟨T4, L4, k4, n4⟩, -, X4, ⟨Lc4, hQ4, l4, y4, z4⟩, st4⟩ := X3.privateBack hx (y := own_y34) hown (mvT hZ (own_w hw 238)) (mvT hZ (own_w hw 239)) (own_psel (z := own_y17) (mvT hZ (own_w hw 103)) (mvP hZ (own_w hw 240)) (mvT hZ (own_w hw 239)) rfl (by decide)) (Cond.privateMethod_at (mvP hZ (own_w hw 240) (args := #[]))) (mvT hZ (own_w hw 241)) (by decide) (backOf (W := 0) (rm29_4 l Z a0 hw [] ob vc vkc h0 n0 P hA hB hF13 hV12_4 ) hZ (own_w hw 241) (own_w hw 2) (by decide) (by decide)) (g := (mkF m 60 #[.val (.ref ob), .val (.int (4 : Int32)), .val (.int (-1 : Int32)), .val (.int vc), .val (.long vkc), .second, .val (.int (2 : Int32)), .unset] [(.long vkc), (.int vc), (.int (5 : Int32)), (.int (4 : Int32)), (.ref ob)])) rfl (by rw [hml]; rfl) (Steps.refl _) (a := ob) (by rw [e3]; exact q4) q4' (argsL := [(.int (4 : Int32)), (.int (5 : Int32)), (.int vc), (.long vkc)]) (rest := []) (lenOf own_pd12 rfl) rfl (by show 2 * 0 + _ ≤ _; exact Nat.le_of_eq rfl) (hb hby d28_60) (fun _ _ => ⟨rfl, e3, (by decide : 0 + 0 ≤ _), (by decide : 0 + 0 ≤ _)⟩)
  dsimp only [Pt.U, Pt.locs, Pt.cells, Pt.slots] at X4 l4 y4 z4 st4 hQ4
  subst l4 y4 z4
  obtain ⟨rfl, Nq4, P4⟩ := hQ4
  have N4 := Fr.app N0 Nq4
  obtain ⟨cq5, q5, q5'⟩ := P4.1.cell
  obtain ⟨_, _, ⟨T5, L5, k5, n5⟩, -, X5, ⟨Lc5, hQ5, l5, y5, z5⟩, st5⟩ := X4.privateBack hx (y := own_y26) hown (mvT hZ (own_w hw 204)) (mvT hZ (own_w hw 205)) (own_psel (z := own_y17) (mvT hZ (own_w hw 103)) (mvP hZ (own_w hw 206)) (mvT hZ (own_w hw 205)) rfl (by decide)) (Cond.privateMethod_at (mvP hZ (own_w hw 206) (args := #[]))) (mvT hZ (own_w hw 207)) (by decide) (backOf (W := 0) (rm22_2 l Z a0 hw [] ob  T4.heap n0 P4 hA hB  (own_vn hV7_2) (own_vn hV9_2) ) hZ (own_w hw 207) (own_w hw 2) (by decide) (by decide)) (g := (mkF m 66 #[.val (.ref ob), .val (.int (4 : Int32)), .val (.int (-1 : Int32)), .val (.int vc), .val (.long vkc), .second, .val (.int (2 : Int32)), .unset] [(.int (2 : Int32)), (.ref ob)])) rfl (by rw [hml]; rfl) (Steps.refl _) (a := ob) q5 q5' (argsL := [(.int (2 : Int32))]) (rest := []) (lenOf own_pd0 rfl) rfl (by show 2 * 0 + _ ≤ _; exact Nat.le_of_eq rfl) (hb hby d28_66) (fun _ _ => ⟨rfl, rfl, (by decide : 0 + 0 ≤ _), (by decide : 0 + 0 ≤ _)⟩)
  dsimp only [Pt.U, Pt.locs, Pt.cells, Pt.slots] at X5 l5 y5 z5 st5 hQ5
  subst l5 y5 z5
  obtain ⟨rfl, Nq5, eh5⟩ := hQ5
  have N5 := Fr.app N4 Nq5
  obtain ⟨cq6, q6, q6'⟩ := P4.1.cell
  obtain ⟨_, _, ⟨T6, L6, k6, n6⟩, -, X6, ⟨Lc6, hQ6, l6, y6, z6⟩, st6⟩ := X5.privateBack hx (y := own_y37) hown (mvT hZ (own_w hw 242)) (mvT hZ (own_w hw 243)) (own_psel (z := own_y17) (mvT hZ (own_w hw 103)) (mvP hZ (own_w hw 244)) (mvT hZ (own_w hw 243)) rfl (by decide)) (Cond.privateMethod_at (mvP hZ (own_w hw 244) (args := #[]))) (mvT hZ (own_w hw 245)) (by decide) (backOf (W := 0) (rm30_2 l Z a0 hw [] ob vc vkc T4.heap n0 P4 hA hB hF24  ) hZ (own_w hw 245) (own_w hw 2) (by decide) (by decide)) (g := (mkF m 75 #[.val (.ref ob), .val (.int (4 : Int32)), .val (.int (-1 : Int32)), .val (.int vc), .val (.long vkc), .second, .val (.int (2 : Int32)), .unset] [(.long vkc), (.int vc), (.int (2 : Int32)), (.ref ob)])) rfl (by rw [hml]; rfl) (Steps.refl _) (a := ob) (by rw [eh5]; exact q6) q6' (argsL := [(.int (2 : Int32)), (.int vc), (.long vkc)]) (rest := []) (lenOf own_pd13 rfl) rfl (by show 2 * 0 + _ ≤ _; exact Nat.le_of_eq rfl) (hb hby d28_75) (fun _ _ => ⟨rfl, eh5, (by decide : 0 + 0 ≤ _), (by decide : 0 + 0 ≤ _)⟩)
  dsimp only [Pt.U, Pt.locs, Pt.cells, Pt.slots] at X6 l6 y6 z6 st6 hQ6
  subst l6 y6 z6
  obtain ⟨rfl, Nq6, eh6⟩ := hQ6
  have N6 := Fr.app N5 Nq6
  obtain ⟨cq7, q7, q7'⟩ := P4.1.cell
  obtain ⟨_, _, ⟨T7, L7, k7, n7⟩, -, X7, ⟨Lc7, hQ7, l7, y7, z7⟩, st7⟩ := X6.privateBack hx (y := own_y38) hown (mvT hZ (own_w hw 252)) (mvT hZ (own_w hw 253)) (own_psel (z := own_y17) (mvT hZ (own_w hw 103)) (mvP hZ (own_w hw 254)) (mvT hZ (own_w hw 253)) rfl (by decide)) (Cond.privateMethod_at (mvP hZ (own_w hw 254) (args := #[]))) (mvT hZ (own_w hw 255)) (by decide) (backOf (W := 0) (rm32_2 l Z a0 hw [] ob vc vkc T4.heap n0 P4 hA hB hF21  ) hZ (own_w hw 255) (own_w hw 2) (by decide) (by decide)) (g := (mkF m 84 #[.val (.ref ob), .val (.int (4 : Int32)), .val (.int (-1 : Int32)), .val (.int vc), .val (.long vkc), .second, .val (.int (2 : Int32)), .unset] [(.long vkc), (.int vc), (.int (2 : Int32)), (.ref ob)])) rfl (by rw [hml]; rfl) (Steps.refl _) (a := ob) (by rw [eh6]; exact q7) q7' (argsL := [(.int (2 : Int32)), (.int vc), (.long vkc)]) (rest := []) (lenOf own_pd13 rfl) rfl (by show 2 * 0 + _ ≤ _; exact Nat.le_of_eq rfl) (hb hby d28_84) (fun _ _ => ⟨rfl, eh6, (by decide : 0 + 0 ≤ _), (by decide : 0 + 0 ≤ _)⟩)
  dsimp only [Pt.U, Pt.locs, Pt.cells, Pt.slots] at X7 l7 y7 z7 st7 hQ7
  subst l7 y7 z7
  obtain ⟨rfl, Nq7, eh7⟩ := hQ7
  have N7 := Fr.app N6 Nq7
  obtain ⟨fs, hr, hrun, hended, hW, hsame⟩ := X7.leave (v := none) (fun _ => rfl)
  refine ⟨_, _, castTop ef ?_, hrun, hended, _, _, rfl, ?_, ⟨_, rfl⟩, hW, hsame.mono (by decide) (by decide)⟩
  · refine s_iloadN X0 hx (hb hby d28_0) rfl ?_
    refine s_aloadN X0 hx (hb hby d28_1) rfl rfl ?_
    refine st1 _ ?_
    refine s_ishr X1 hx (2 : Int32) (hb hby d28_5) (by decide) ?_
    refine s_istore X1 hx #[.val (.ref ob), .val (.int (4 : Int32)), .val (.int (-1 : Int32)), .val (.int vc), .val (.long vkc), .second, .val (.int (2 : Int32)), .unset] (hb hby d28_6) rfl ?_
    refine s_iloadN X1 hx (hb hby d28_8) rfl ?_
    refine s_iconst X1 hx (-1 : Int32) (hb hby d28_9) rfl ?_
    refine s_icmpY X1 hx 40 (hb hby d28_10) (by decide) (by decide) (by decide) ?_
    refine s_aloadN X1 hx (hb hby d28_40) rfl rfl ?_
    refine s_iloadN X1 hx (hb hby d28_41) rfl ?_
    refine s_iload X1 hx (hb hby d28_42) rfl ?_
    refine s_aloadN X1 hx (hb hby d28_44) rfl rfl ?_
    refine st2 _ ?_
    refine s_ishl X2 hx (4 : Int32) (hb hby d28_48) (by decide) ?_
    refine s_aloadN X2 hx (hb hby d28_49) rfl rfl ?_
    refine st3 _ ?_
    refine s_iload X3 hx (hb hby d28_53) rfl ?_
    refine own_ial X3 hx hZ e3 P 1 2 (v := (.int (1 : Int32))) hV1_2 (hb hby d28_55) (by omega) ?_
    refine s_iadd X3 hx (5 : Int32) (hb hby d28_56) (by decide) ?_
    refine s_iloadN X3 hx (hb hby d28_57) rfl ?_
    refine s_lload X3 hx (hb hby d28_58) rfl ?_
    refine st4.trans ?_
    refine s_aloadN X4 hx (hb hby d28_63) rfl rfl ?_
    refine s_iload X4 hx (hb hby d28_64) rfl ?_
    refine st5.trans ?_
    refine s_aloadN X5 hx (hb hby d28_69) rfl rfl ?_
    refine s_iload X5 hx (hb hby d28_70) rfl ?_
    refine s_iloadN X5 hx (hb hby d28_72) rfl ?_
    refine s_lload X5 hx (hb hby d28_73) rfl ?_
    refine st6.trans ?_
    refine s_aloadN X6 hx (hb hby d28_78) rfl rfl ?_
    refine s_iload X6 hx (hb hby d28_79) rfl ?_
    refine s_iloadN X6 hx (hb hby d28_81) rfl ?_
    refine s_lload X6 hx (hb hby d28_82) rfl ?_
    refine st7.trans ?_
    refine s_iloadN X7 hx (hb hby d28_87) rfl ?_
    refine s_iconst X7 hx (-1 : Int32) (hb hby d28_88) rfl ?_
    refine s_icmpY X7 hx 153 (hb hby d28_89) (by decide) (by decide) (by decide) ?_
    exact X7.returnOut hx Bd.returns (hb hby d28_153) hr
  · show ((_ : Option Value) = none ∧ Fr n0 _ ∧ own_PS Z T7.heap n0 ob nA A F (own_vs V 12 4 (.int ((0 : Int32) + vc))))
    rw [eh7]
    exact ⟨rfl, N7, P4⟩
set_option maxRecDepth 65536 in
set_option maxHeartbeats 40000000 in
theorem rm33_7 (l : Launch) (Z : State) (a0 : Array Value) (hw : own_HW Z a0) (ws : List Jvm.Cond) {nA : Nat} {A : Nat → Addr} {F : Nat → Value} {V : Nat → List Value} (ob : Addr) (va : Int32) (vb : Int32) (h0 : Heap) (n0 : Nat) (P : own_PS Z h0 n0 ob nA A F V) (hA : 13 ≤ nA) (hB : nA ≤ 14) (hF19 : F 19 = (.int (1 : Int32))) (hF13 : F 13 = .null) (hV12_3 : (V 12).getD 3 (own_aZ 12) = (.int (va + vb))) (hV12_2 : (V 12).getD 2 (own_aZ 12) = (.int va)) (hs1 : (va + vb) = va) :
    own_C l Z own_y40 bc33 2 (some .boolean) ws 0 0 #[(.ref ob), (.int (3 : Int32))] h0 (fun v h L => (v = some (.int (1 : Int32)) ∧ Fr n0 L ∧ h = h0)) := by
  refine MetFree.of_bodySF (plainFor_of_name own_pn2) hisR ?_
  intro p e s m args below meth c s₁ Bd hml0 hP hK
  obtain ⟨rfl, hZ, hh⟩ := hP
  have hx := Bd.exec
  have hby := Bd.bytes
  have hml : c.maxLocals = 2 := hml0
  have hown : s.vm.findClass "com/example/jobwright/jobwright/policies/ProfileSteps" = some m.cls := findClass_of_methodNamed Bd.named
  have X0 : Stand p l e ({ frames := 0, cells := 0, slots := 0, locals := 0 } : Room) s m #[(.ref ob), (.int (3 : Int32))] below meth c s₁ [] 0 0 := Stand.of_body Bd
  have e0 : s₁.heap = h0 := by rw [← hh, Bd.state]; rfl
  have N0 := Fr.nil n0
  have ef : entryFrame m #[(.ref ob), (.int (3 : Int32))] 2 = mkF m 0 #[.val (.ref ob), .val (.int (3 : Int32))] [] := by first | (simp [entryFrame, mkF, argsToLocals, Value.category]; done) | rfl
  obtain ⟨T1, X1, e1, st1⟩ := own_gf X0 hx hZ hown e0 P 19 (own_w hw 54) (v := (.int (1 : Int32))) hF19 (hb hby d33_3) #[.val (.ref ob), .val (.int (3 : Int32))] [(.int (3 : Int32)), (.int (3 : Int32))]
  obtain ⟨T2, X2, e2, st2⟩ := own_gf X1 hx hZ hown e1 P 19 (own_w hw 54) (v := (.int (1 : Int32))) hF19 (hb hby d33_8) #[.val (.ref ob), .val (.int (3 : Int32))] [(.int (1 : Int32)), (.int (3 : Int32))]
  obtain ⟨T3, X3, e3, st3⟩ := own_gf X2 hx hZ hown e2 P 12 (own_w hw 94) (v := (.ref (A 12))) (P.2.2.2.1 12 (by omega)) (hb hby d33_16) #[.val (.ref ob), .val (.int (3 : Int32))] []
  obtain ⟨T4, X4, e4, st4⟩ := own_gf X3 hx hZ hown e3 P 12 (own_w hw 94) (v := (.ref (A 12))) (P.2.2.2.1 12 (by omega)) (hb hby d33_22) #[.val (.ref ob), .val (.int (3 : Int32))] [(.int (va + vb))]
  obtain ⟨T5, X5, e5, st5⟩ := own_gf X4 hx hZ hown e4 P 13 (own_w hw 96) (v := .null) hF13 (hb hby d33_33) #[.val (.ref ob), .val (.int (3 : Int32))] []
  obtain ⟨fs, hr, hrun, hended, hW, hsame⟩ := X5.leave (v := some (.int (1 : Int32))) (fun h => by rw [Bd.returns] at h; cases h)
  refine ⟨_, _, castTop ef ?_, hrun, hended, _, _, rfl, ?_, ⟨_, rfl⟩, hW, hsame.mono (by decide) (by decide)⟩
  · refine s_iloadN X0 hx (hb hby d33_0) rfl ?_
    refine s_iloadN X0 hx (hb hby d33_1) rfl ?_
    refine s_aloadN X0 hx (hb hby d33_2) rfl rfl ?_
    refine st1 _ ?_
    refine s_ishr X1 hx (1 : Int32) (hb hby d33_6) (by decide) ?_
    refine s_aloadN X1 hx (hb hby d33_7) rfl rfl ?_
    refine st2 _ ?_
    refine s_ishl X2 hx (2 : Int32) (hb hby d33_11) (by decide) ?_
    refine s_icmpN X2 hx (hb hby d33_12) (by decide) ?_
    refine s_aloadN X2 hx (hb hby d33_15) rfl rfl ?_
    refine st3 _ ?_
    refine s_iloadN X3 hx (hb hby d33_19) rfl ?_
    refine own_ial X3 hx hZ e3 P 12 3 (v := (.int (va + vb))) hV12_3 (hb hby d33_20) (by omega) ?_
    refine s_aloadN X3 hx (hb hby d33_21) rfl rfl ?_
    refine st4 _ ?_
    refine s_iloadN X4 hx (hb hby d33_25) rfl ?_
    refine s_iconst X4 hx (1 : Int32) (hb hby d33_26) rfl ?_
    refine s_isub X4 hx (2 : Int32) (hb hby d33_27) (by decide) ?_
    refine own_ial X4 hx hZ e4 P 12 2 (v := (.int va)) hV12_2 (hb hby d33_28) (by omega) ?_
    refine s_icmpN X4 hx (hb hby d33_29) (teq hs1).2 ?_
    refine s_aloadN X4 hx (hb hby d33_32) rfl rfl ?_
    refine st5 _ ?_
    refine s_nullY X5 hx 57 (hb hby d33_36) (by decide) (by decide) ?_
    refine s_iconst X5 hx (1 : Int32) (hb hby d33_57) rfl ?_
    refine s_goto X5 hx 62 (hb hby d33_58) (by decide) (by decide) ?_
    exact retN X5 hx (t := .boolean) Bd.returns (by simp) (hb hby d33_62) hr
  · show ((_ : Option Value) = some (.int (1 : Int32)) ∧ Fr n0 _ ∧ T5.heap = h0)
    rw [e5]
    exact ⟨rfl, N0, rfl⟩
set_option maxRecDepth 65536 in
set_option maxHeartbeats 40000000 in
theorem rm33_8 (l : Launch) (Z : State) (a0 : Array Value) (hw : own_HW Z a0) (ws : List Jvm.Cond) {nA : Nat} {A : Nat → Addr} {F : Nat → Value} {V : Nat → List Value} (ob : Addr) (vc : Int32) (h0 : Heap) (n0 : Nat) (P : own_PS Z h0 n0 ob nA A F V) (hA : 13 ≤ nA) (hB : nA ≤ 14) (hF19 : F 19 = (.int (1 : Int32))) (hF13 : F 13 = .null) (hV12_4 : (V 12).getD 4 (own_aZ 12) = (.int ((0 : Int32) + vc))) (hs3 : ((0 : Int32) + vc) = (0 : Int32)) :
    own_C l Z own_y40 bc33 2 (some .boolean) ws 0 0 #[(.ref ob), (.int (4 : Int32))] h0 (fun v h L => (v = some (.int (1 : Int32)) ∧ Fr n0 L ∧ h = h0)) := by
  refine MetFree.of_bodySF (plainFor_of_name own_pn2) hisR ?_
  intro p e s m args below meth c s₁ Bd hml0 hP hK
  obtain ⟨rfl, hZ, hh⟩ := hP
  have hx := Bd.exec
  have hby := Bd.bytes
  have hml : c.maxLocals = 2 := hml0
  have hown : s.vm.findClass "com/example/jobwright/jobwright/policies/ProfileSteps" = some m.cls := findClass_of_methodNamed Bd.named
  have X0 : Stand p l e ({ frames := 0, cells := 0, slots := 0, locals := 0 } : Room) s m #[(.ref ob), (.int (4 : Int32))] below meth c s₁ [] 0 0 := Stand.of_body Bd
  have e0 : s₁.heap = h0 := by rw [← hh, Bd.state]; rfl
  have N0 := Fr.nil n0
  have ef : entryFrame m #[(.ref ob), (.int (4 : Int32))] 2 = mkF m 0 #[.val (.ref ob), .val (.int (4 : Int32))] [] := by first | (simp [entryFrame, mkF, argsToLocals, Value.category]; done) | rfl
  obtain ⟨T1, X1, e1, st1⟩ := own_gf X0 hx hZ hown e0 P 19 (own_w hw 54) (v := (.int (1 : Int32))) hF19 (hb hby d33_3) #[.val (.ref ob), .val (.int (4 : Int32))] [(.int (4 : Int32)), (.int (4 : Int32))]
  obtain ⟨T2, X2, e2, st2⟩ := own_gf X1 hx hZ hown e1 P 19 (own_w hw 54) (v := (.int (1 : Int32))) hF19 (hb hby d33_8) #[.val (.ref ob), .val (.int (4 : Int32))] [(.int (2 : Int32)), (.int (4 : Int32))]
  obtain ⟨T3, X3, e3, st3⟩ := own_gf X2 hx hZ hown e2 P 12 (own_w hw 94) (v := (.ref (A 12))) (P.2.2.2.1 12 (by omega)) (hb hby d33_64) #[.val (.ref ob), .val (.int (4 : Int32))] []
  obtain ⟨T4, X4, e4, st4⟩ := own_gf X3 hx hZ hown e3 P 13 (own_w hw 96) (v := .null) hF13 (hb hby d33_73) #[.val (.ref ob), .val (.int (4 : Int32))] []
  obtain ⟨fs, hr, hrun, hended, hW, hsame⟩ := X4.leave (v := some (.int (1 : Int32))) (fun h => by rw [Bd.returns] at h; cases h)
  refine ⟨_, _, castTop ef ?_, hrun, hended, _, _, rfl, ?_, ⟨_, rfl⟩, hW, hsame.mono (by decide) (by decide)⟩
  · refine s_iloadN X0 hx (hb hby d33_0) rfl ?_
    refine s_iloadN X0 hx (hb hby d33_1) rfl ?_
    refine s_aloadN X0 hx (hb hby d33_2) rfl rfl ?_
    refine st1 _ ?_
    refine s_ishr X1 hx (2 : Int32) (hb hby d33_6) (by decide) ?_
    refine s_aloadN X1 hx (hb hby d33_7) rfl rfl ?_
    refine st2 _ ?_
    refine s_ishl X2 hx (4 : Int32) (hb hby d33_11) (by decide) ?_
    refine s_icmpY X2 hx 63 (hb hby d33_12) (by decide) (by decide) (by decide) ?_
    refine s_aloadN X2 hx (hb hby d33_63) rfl rfl ?_
    refine st3 _ ?_
    refine s_iloadN X3 hx (hb hby d33_67) rfl ?_
    refine own_ial X3 hx hZ e3 P 12 4 (v := (.int ((0 : Int32) + vc))) hV12_4 (hb hby d33_68) (by omega) ?_
    refine s_ifN X3 hx (hb hby d33_69) ((if0 _ _).trans (teq hs3).2) ?_
    refine s_aloadN X3 hx (hb hby d33_72) rfl rfl ?_
    refine st4 _ ?_
    refine s_nullY X4 hx 90 (hb hby d33_76) (by decide) (by decide) ?_
    refine s_iconst X4 hx (1 : Int32) (hb hby d33_90) rfl ?_
    refine s_goto X4 hx 95 (hb hby d33_91) (by decide) (by decide) ?_
    exact retN X4 hx (t := .boolean) Bd.returns (by simp) (hb hby d33_95) hr
  · show ((_ : Option Value) = some (.int (1 : Int32)) ∧ Fr n0 _ ∧ T4.heap = h0)
    rw [e4]
    exact ⟨rfl, N0, rfl⟩
set_option maxRecDepth 65536 in
set_option maxHeartbeats 40000000 in
theorem rm4 (l : Launch) (Z : State) (a0 : Array Value) (hw : ∀ d ∈ tables_1, d.before a0 Z = true) (ws : List Jvm.Cond) (xs : Addr) (h0 : Heap) (n0 : Nat) (Z0 : n0 ≤ h0.size) (P : own_SF Z h0 xs) (gx : n0 ≤ xs) :
    MetFree l own_y0 (head1 (Jvm.Cond.code own_y0 prog_171_method_1_code 1 none :: ws) ({ frames := 1, cells := 6, slots := 24, locals := 12 } : Room)) (fun a U => a = #[(.ref xs)] ∧ Z.Warmed39 U.vm ∧ U.heap = h0) (fun _ _ _ _ _ => True) (fun _ U o U' => ∃ v L, o = .returned v ∧ own_Q (fun v h L => (v = none ∧ Fr n0 L ∧ Keep h0 h [xs])) v U'.heap L ∧ FrameEnd U o U' L ({ frames := 1, cells := 6, slots := 24, locals := 12 } : Room).cells ({ frames := 1, cells := 6, slots := 24, locals := 12 } : Room).slots) := by
  refine MetFree.of_bodySF (plainFor_of_name own_pn0) hisR ?_
  intro p e s m args below meth c s₁ Bd hml0 hP hK
  obtain ⟨rfl, hZ, hh⟩ := hP
  have hx := Bd.exec
  have hby := Bd.bytes
  have hml : c.maxLocals = 1 := hml0
  have hown : s.vm.findClass "com/example/jobwright/jobwright/policies/StepSummary" = some m.cls := findClass_of_methodNamed Bd.named
  have hnm := (name_of_methodNamed Bd.named Bd.method).1
  have X0 : Stand p l e ({ frames := 1, cells := 6, slots := 24, locals := 12 } : Room) s m #[(.ref xs)] below meth c s₁ [] 0 0 := Stand.of_body Bd
  have e0 : s₁.heap = h0 := by rw [← hh, Bd.state]; rfl
  have N0 := Fr.nil n0
  have ef : entryFrame m #[(.ref xs)] 1 = mkF m 0 #[.val (.ref xs)] [] := by first | (simp [entryFrame, mkF, argsToLocals, Value.category]; done) | rfl
  have KR := Keep.refl h0 [xs]
  obtain ⟨T1, X1, e1, st1⟩ := initO X0 hx hZ hown (own_w hw 34) (own_w hw 12) (own_w hw 13) e0 (g := (mkF m 1 #[.val (.ref xs)] [(.ref xs)])) rfl (by rw [hml]; rfl) rfl (hb hby d4_1) (by decide) (W := 0) (by show 2 * 0 + _ ≤ _; exact Nat.le_of_eq rfl) (by decide)
  obtain ⟨T2, h2, b2, c2, X2, e2, E2, g2, A2, st2⟩ := own_na X1 hx hZ e1 (own_w hw 21) (4 : Int32) 4 (hb hby d4_6) #[.val (.ref xs)] [(.ref xs)] (by decide) (by decide) (by decide) (by decide) (by decide)
  have P2 := own_sx P E2
  have K2 := KR.ext E2
  obtain ⟨v3, F3⟩ := P2.2 0 (by decide)
  obtain ⟨T3, h3, X3, e3, W3, st3⟩ := putF X2 hx hZ hown (host := "") (Or.inl (own_w hw 35)) Via.refl e2 F3 P2.1 (Or.inl (own_w hw 36)) (own_w hw 29) (ty := (.array .int)) (v := (.ref b2)) (by decide) rfl rfl (g := (mkF m 8 #[.val (.ref xs)] [(.ref b2), (.ref xs)])) rfl rfl (hb hby d4_8)
  have P3 := own_sw P2 W3
  have K3 := K2.wr W3 (Or.inl (List.mem_cons_self ..))
  have N3 := Fr.snoc X3 N0 gx
  obtain ⟨T4, h4, b4, c4, X4, e4, E4, g4, A4, st4⟩ := own_na X3 hx hZ e3 (own_w hw 37) (4 : Int32) 4 (hb hby d4_13) #[.val (.ref xs)] [(.ref xs)] (by decide) (by decide) (by decide) (by decide) (by decide)
  have P4 := own_sx P3 E4
  have K4 := K3.ext E4
  obtain ⟨v5, F5⟩ := P4.2 1 (by decide)
  obtain ⟨T5, h5, X5, e5, W5, st5⟩ := putF X4 hx hZ hown (host := "") (Or.inl (own_w hw 38)) Via.refl e4 F5 P4.1 (Or.inl (own_w hw 39)) (own_w hw 29) (ty := (.array .long)) (v := (.ref b4)) (by decide) rfl rfl (g := (mkF m 15 #[.val (.ref xs)] [(.ref b4), (.ref xs)])) rfl rfl (hb hby d4_15)
  have P5 := own_sw P4 W5
  have K5 := K4.wr W5 (Or.inl (List.mem_cons_self ..))
  have N5 := Fr.snoc X5 N3 gx
  obtain ⟨T6, h6, b6, c6, X6, e6, E6, g6, A6, st6⟩ := own_na X5 hx hZ e5 (own_w hw 21) (4 : Int32) 4 (hb hby d4_20) #[.val (.ref xs)] [(.ref xs)] (by decide) (by decide) (by decide) (by decide) (by decide)
  have P6 := own_sx P5 E6
  have K6 := K5.ext E6
  obtain ⟨v7, F7⟩ := P6.2 2 (by decide)
  obtain ⟨T7, h7, X7, e7, W7, st7⟩ := putF X6 hx hZ hown (host := "") (Or.inl (own_w hw 40)) Via.refl e6 F7 P6.1 (Or.inl (own_w hw 41)) (own_w hw 29) (ty := (.array .int)) (v := (.ref b6)) (by decide) rfl rfl (g := (mkF m 22 #[.val (.ref xs)] [(.ref b6), (.ref xs)])) rfl rfl (hb hby d4_22)
  have P7 := own_sw P6 W7
  have K7 := K6.wr W7 (Or.inl (List.mem_cons_self ..))
  have N7 := Fr.snoc X7 N5 gx
  obtain ⟨T8, h8, b8, c8, X8, e8, E8, g8, A8, st8⟩ := own_na X7 hx hZ e7 (own_w hw 37) (4 : Int32) 4 (hb hby d4_27) #[.val (.ref xs)] [(.ref xs)] (by decide) (by decide) (by decide) (by decide) (by decide)
  have P8 := own_sx P7 E8
  have K8 := K7.ext E8
  obtain ⟨v9, F9⟩ := P8.2 3 (by decide)
  obtain ⟨T9, h9, X9, e9, W9, st9⟩ := putF X8 hx hZ hown (host := "") (Or.inl (own_w hw 42)) Via.refl e8 F9 P8.1 (Or.inl (own_w hw 43)) (own_w hw 29) (ty := (.array .long)) (v := (.ref b8)) (by decide) rfl rfl (g := (mkF m 29 #[.val (.ref xs)] [(.ref b8), (.ref xs)])) rfl rfl (hb hby d4_29)
  have P9 := own_sw P8 W9
  have K9 := K8.wr W9 (Or.inl (List.mem_cons_self ..))
  have N9 := Fr.snoc X9 N7 gx
  obtain ⟨T10, h10, b10, c10, X10, e10, E10, g10, A10, st10⟩ := own_na X9 hx hZ e9 (own_w hw 21) (4 : Int32) 4 (hb hby d4_34) #[.val (.ref xs)] [(.ref xs)] (by decide) (by decide) (by decide) (by decide) (by decide)
  have P10 := own_sx P9 E10
  have K10 := K9.ext E10
  obtain ⟨v11, F11⟩ := P10.2 4 (by decide)
  obtain ⟨T11, h11, X11, e11, W11, st11⟩ := putF X10 hx hZ hown (host := "") (Or.inl (own_w hw 44)) Via.refl e10 F11 P10.1 (Or.inl (own_w hw 45)) (own_w hw 29) (ty := (.array .int)) (v := (.ref b10)) (by decide) rfl rfl (g := (mkF m 36 #[.val (.ref xs)] [(.ref b10), (.ref xs)])) rfl rfl (hb hby d4_36)
  have P11 := own_sw P10 W11
  have K11 := K10.wr W11 (Or.inl (List.mem_cons_self ..))
  have N11 := Fr.snoc X11 N9 gx
  obtain ⟨T12, h12, b12, c12, X12, e12, E12, g12, A12, st12⟩ := own_na X11 hx hZ e11 (own_w hw 37) (4 : Int32) 4 (hb hby d4_41) #[.val (.ref xs)] [(.ref xs)] (by decide) (by decide) (by decide) (by decide) (by decide)
  have P12 := own_sx P11 E12
  have K12 := K11.ext E12
  obtain ⟨v13, F13⟩ := P12.2 5 (by decide)
  obtain ⟨T13, h13, X13, e13, W13, st13⟩ := putF X12 hx hZ hown (host := "") (Or.inl (own_w hw 46)) Via.refl e12 F13 P12.1 (Or.inl (own_w hw 47)) (own_w hw 29) (ty := (.array .long)) (v := (.ref b12)) (by decide) rfl rfl (g := (mkF m 43 #[.val (.ref xs)] [(.ref b12), (.ref xs)])) rfl rfl (hb hby d4_43)
  have P13 := own_sw P12 W13
  have K13 := K12.wr W13 (Or.inl (List.mem_cons_self ..))
  have N13 := Fr.snoc X13 N11 gx
  obtain ⟨fs, hr, hrun, hended, hW, hsame⟩ := X13.leave (v := none) (fun _ => rfl)
  refine ⟨_, _, castTop ef ?_, hrun, hended, _, _, rfl, ?_, ⟨_, rfl⟩, hW, hsame.mono (by decide) (by decide)⟩
  · refine s_aloadN X0 hx (hb hby d4_0) rfl rfl ?_
    refine st1 _ ?_
    refine s_aloadN X1 hx (hb hby d4_4) rfl rfl ?_
    refine s_iconst X1 hx (4 : Int32) (hb hby d4_5) rfl ?_
    refine st2 _ ?_
    refine st3 _ ?_
    refine s_aloadN X3 hx (hb hby d4_11) rfl rfl ?_
    refine s_iconst X3 hx (4 : Int32) (hb hby d4_12) rfl ?_
    refine st4 _ ?_
    refine st5 _ ?_
    refine s_aloadN X5 hx (hb hby d4_18) rfl rfl ?_
    refine s_iconst X5 hx (4 : Int32) (hb hby d4_19) rfl ?_
    refine st6 _ ?_
    refine st7 _ ?_
    refine s_aloadN X7 hx (hb hby d4_25) rfl rfl ?_
    refine s_iconst X7 hx (4 : Int32) (hb hby d4_26) rfl ?_
    refine st8 _ ?_
    refine st9 _ ?_
    refine s_aloadN X9 hx (hb hby d4_32) rfl rfl ?_
    refine s_iconst X9 hx (4 : Int32) (hb hby d4_33) rfl ?_
    refine st10 _ ?_
    refine st11 _ ?_
    refine s_aloadN X11 hx (hb hby d4_39) rfl rfl ?_
    refine s_iconst X11 hx (4 : Int32) (hb hby d4_40) rfl ?_
    refine st12 _ ?_
    refine st13 _ ?_
    exact X13.returnOut hx Bd.returns (hb hby d4_46) hr
  · show ((_ : Option Value) = none ∧ Fr n0 _ ∧ Keep h0 T13.heap [xs])
    rw [e13]
    exact ⟨rfl, N13, K13⟩
set_option maxRecDepth 65536 in
set_option maxHeartbeats 40000000 in
theorem rm2 (l : Launch) (Z : State) (a0 : Array Value) (hw : ∀ d ∈ tables_1, d.before a0 Z = true) (ws : List Jvm.Cond) {A : Nat → Addr} {F : Nat → Value} {V : Nat → List Value} (ob : Addr) (h0 : Heap) (n0 : Nat) (P : own_PS Z h0 n0 ob 0 A F V) :
    MetFree l own_y1 (head1 (Jvm.Cond.code own_y1 prog_174_method_2_code 2 none :: ws) ({ frames := 1, cells := 2, slots := 20, locals := 12 } : Room)) (fun a U => a = #[(.ref ob), (.int (4 : Int32))] ∧ Z.Warmed39 U.vm ∧ U.heap = h0) (fun _ _ _ _ _ => True) (fun _ U o U' => ∃ v L, o = .returned v ∧ own_Q (fun v h L => (v = none ∧ Fr n0 L ∧ ∃ B0 B1 : Addr, own_PS Z h n0 ob 1 (own_up A 0 B0) (own_up (own_up (own_up (own_up (own_up F 14 (.int (0 : Int32))) 17 (.int (1 : Int32))) 18 (.long (-7046029254386353131 : Int64))) 0 (.ref B0)) 28 (.ref B1)) (own_up V 0 (List.replicate 16 (own_aZ 0))))) v U'.heap L ∧ FrameEnd U o U' L ({ frames := 1, cells := 2, slots := 20, locals := 12 } : Room).cells ({ frames := 1, cells := 2, slots := 20, locals := 12 } : Room).slots) := by
  refine MetFree.of_bodySF (plainFor_of_name own_pn1) hisR ?_
  intro p e s m args below meth c s₁ Bd hml0 hP hK
  obtain ⟨rfl, hZ, hh⟩ := hP
  have hx := Bd.exec
  have hby := Bd.bytes
  have hml : c.maxLocals = 2 := hml0
  have hown : s.vm.findClass "com/example/jobwright/jobwright/policies/Treap" = some m.cls := findClass_of_methodNamed Bd.named
  have hnm := (name_of_methodNamed Bd.named Bd.method).1
  have X0 : Stand p l e ({ frames := 1, cells := 2, slots := 20, locals := 12 } : Room) s m #[(.ref ob), (.int (4 : Int32))] below meth c s₁ [] 0 0 := Stand.of_body Bd
  have e0 : s₁.heap = h0 := by rw [← hh, Bd.state]; rfl
  have N0 := Fr.nil n0
  have ef : entryFrame m #[(.ref ob), (.int (4 : Int32))] 2 = mkF m 0 #[.val (.ref ob), .val (.int (4 : Int32))] [] := by first | (simp [entryFrame, mkF, argsToLocals, Value.category]; done) | rfl
  obtain ⟨T1, X1, e1, st1⟩ := initO X0 hx hZ hown (own_w hw 11) (own_w hw 12) (own_w hw 13) e0 (g := (mkF m 1 #[.val (.ref ob), .val (.int (4 : Int32))] [(.ref ob)])) rfl (by rw [hml]; rfl) rfl (hb hby d2_1) (by decide) (W := 0) (by show 2 * 0 + _ ≤ _; exact Nat.le_of_eq rfl) (by decide)
  obtain ⟨T2, h2, l2, X2, e2, N2, P2, st2⟩ := own_pp X1 hx hZ hw hown e1 N0 P 14 (own_w hw 14) (Or.inl (own_w hw 15)) (v := (.int (0 : Int32))) (hb hby d2_6) #[.val (.ref ob), .val (.int (4 : Int32))] [] rfl rfl (by decide)
  obtain ⟨T3, h3, l3, X3, e3, N3, P3, st3⟩ := own_pp X2 hx hZ hw hown e2 N2 P2 17 (own_w hw 16) (Or.inl (own_w hw 17)) (v := (.int (1 : Int32))) (hb hby d2_11) #[.val (.ref ob), .val (.int (4 : Int32))] [] rfl rfl (by decide)
  obtain ⟨T4, h4, l4, X4, e4, N4, P4, st4⟩ := own_pp X3 hx hZ hw hown e3 N3 P3 18 (own_w hw 19) (Or.inl (own_w hw 20)) (v := (.long (-7046029254386353131 : Int64))) (hb hby d2_18) #[.val (.ref ob), .val (.int (4 : Int32))] [] rfl rfl (by decide)
  obtain ⟨T5, h5, b5, c5, X5, e5, E5, g5, A5, st5⟩ := own_na X4 hx hZ e4 (own_w hw 21) (16 : Int32) 16 (hb hby d2_25) #[.val (.ref ob), .val (.int (4 : Int32))] [(.ref ob)] (by decide) (by decide) (by decide) (by decide) (by decide)
  obtain ⟨T6, h6, l6, X6, e6, N6, W6, st6⟩ := own_put X5 hx hZ hw hown e5 N4 (own_px P4 E5) 0 (own_w hw 22) (Or.inl (own_w hw 23)) (v := (.ref b5)) (hb hby d2_27) #[.val (.ref ob), .val (.int (4 : Int32))] [] rfl rfl (by decide)
  have P6 := own_pn hw P4 (own_sz P4) g5 E5 (vs := List.replicate 16 (own_aZ 0)) A5 rfl (by decide) W6
  obtain ⟨T7, h7, b7, c7, X7, e7, E7, g7, A7, st7⟩ := own_na X6 hx hZ e6 (own_w hw 21) (4 : Int32) 4 (hb hby d2_32) #[.val (.ref ob), .val (.int (4 : Int32))] [(.ref ob)] (by decide) (by decide) (by decide) (by decide) (by decide)
  obtain ⟨T8, h8, l8, X8, e8, N8, P8, st8⟩ := own_pp X7 hx hZ hw hown e7 N6 (own_px P6 E7) 28 (own_w hw 24) (Or.inl (own_w hw 25)) (v := (.ref b7)) (hb hby d2_34) #[.val (.ref ob), .val (.int (4 : Int32))] [] rfl rfl (by decide)
  obtain ⟨fs, hr, hrun, hended, hW, hsame⟩ := X8.leave (v := none) (fun _ => rfl)
  refine ⟨_, _, castTop ef ?_, hrun, hended, _, _, rfl, ?_, ⟨_, rfl⟩, hW, hsame.mono (by decide) (by decide)⟩
  · refine s_aloadN X0 hx (hb hby d2_0) rfl rfl ?_
    refine st1 _ ?_
    refine s_aloadN X1 hx (hb hby d2_4) rfl rfl ?_
    refine s_iconst X1 hx (0 : Int32) (hb hby d2_5) rfl ?_
    refine st2 _ ?_
    refine s_aloadN X2 hx (hb hby d2_9) rfl rfl ?_
    refine s_iconst X2 hx (1 : Int32) (hb hby d2_10) rfl ?_
    refine st3 _ ?_
    refine s_aloadN X3 hx (hb hby d2_14) rfl rfl ?_
    refine X3.ldc2Long hx hown (mvT hZ (own_w hw 18)) (v := (-7046029254386353131 : Int64)) (g := (mkF m 15 #[.val (.ref ob), .val (.int (4 : Int32))] [(.ref ob)])) rfl (hb hby d2_15) _ ?_
    refine st4 _ ?_
    refine s_aloadN X4 hx (hb hby d2_21) rfl rfl ?_
    refine s_iloadN X4 hx (hb hby d2_22) rfl ?_
    refine s_iconst X4 hx (2 : Int32) (hb hby d2_23) rfl ?_
    refine s_ishl X4 hx (16 : Int32) (hb hby d2_24) (by decide) ?_
    refine st5 _ ?_
    refine st6 _ ?_
    refine s_aloadN X6 hx (hb hby d2_30) rfl rfl ?_
    refine s_iloadN X6 hx (hb hby d2_31) rfl ?_
    refine st7 _ ?_
    refine st8 _ ?_
    exact X8.returnOut hx Bd.returns (hb hby d2_37) hr
  · show ((_ : Option Value) = none ∧ Fr n0 _ ∧ ∃ B0 B1 : Addr, own_PS Z T8.heap n0 ob 1 (own_up A 0 B0) (own_up (own_up (own_up (own_up (own_up F 14 (.int (0 : Int32))) 17 (.int (1 : Int32))) 18 (.long (-7046029254386353131 : Int64))) 0 (.ref B0)) 28 (.ref B1)) (own_up V 0 (List.replicate 16 (own_aZ 0))))
    rw [e8]
    exact ⟨rfl, N8, b5, b7, P8⟩
set_option maxRecDepth 65536 in
set_option maxHeartbeats 40000000 in
theorem rm1_m (l : Launch) (Z : State) (a0 : Array Value) (hw : ∀ d ∈ tables_1, d.before a0 Z = true) (ws : List Jvm.Cond) (ob : Addr) (h0 : Heap) (n0 : Nat) (P : own_PS Z h0 n0 ob 0 (fun _ => 0) own_F0 (fun _ => [])) :
    MetFree l own_y2 (head1 (Jvm.Cond.code own_y2 prog_152_method_1_code 5 none :: ws) ({ frames := 2, cells := 31, slots := 179, locals := 26 } : Room)) (fun a U => a = #[(.ref ob), (.int (1 : Int32)), (.int (3 : Int32)), (.int (1 : Int32))] ∧ Z.Warmed39 U.vm ∧ U.heap = h0) (fun _ _ _ _ _ => True) (fun _ U o U' => ∃ v L, o = .returned v ∧ own_Q (fun v h L => (v = none ∧ Fr n0 L ∧ ∃ (A' : Nat → Addr) (F' : Nat → Value), own_PS Z h n0 ob 14 A' F' own_V0 ∧ own_Ini F')) v U'.heap L ∧ FrameEnd U o U' L ({ frames := 2, cells := 31, slots := 179, locals := 26 } : Room).cells ({ frames := 2, cells := 31, slots := 179, locals := 26 } : Room).slots) := by
  refine MetFree.of_bodySF (plainFor_of_name own_pn2) hisR ?_
  intro p e s m args below meth c s₁ Bd hml0 hP hK
  obtain ⟨rfl, hZ, hh⟩ := hP
  have hx := Bd.exec
  have hby := Bd.bytes
  have hml : c.maxLocals = 5 := hml0
  have hown : s.vm.findClass "com/example/jobwright/jobwright/policies/ProfileSteps" = some m.cls := findClass_of_methodNamed Bd.named
  have hnm := (name_of_methodNamed Bd.named Bd.method).1
  have X0 : Stand p l e ({ frames := 2, cells := 31, slots := 179, locals := 26 } : Room) s m #[(.ref ob), (.int (1 : Int32)), (.int (3 : Int32)), (.int (1 : Int32))] below meth c s₁ [] 0 0 := Stand.of_body Bd
  have e0 : s₁.heap = h0 := by rw [← hh, Bd.state]; rfl
  have N0 := Fr.nil n0
  have ef : entryFrame m #[(.ref ob), (.int (1 : Int32)), (.int (3 : Int32)), (.int (1 : Int32))] 5 = mkF m 0 #[.val (.ref ob), .val (.int (1 : Int32)), .val (.int (3 : Int32)), .val (.int (1 : Int32)), .unset] [] := by first | (simp [entryFrame, mkF, argsToLocals, Value.category]; done) | rfl
  obtain ⟨_, _, ⟨T1, L1, k1, n1⟩, -, X1, ⟨Lc1, hQ1, l1, y1, z1⟩, st1⟩ := X0.specialBack hx (y := own_y1) rfl hown (mvT hZ (own_w hw 6)) (mvT hZ (own_w hw 7)) (mvT hZ (own_w hw 10)) (by decide) (backOf (W := 0) (rm2 l Z a0 hw [] ob h0 n0 P) hZ (own_w hw 10) (own_w hw 9) (by decide) (by decide)) (g := (mkF m 4 #[.val (.ref ob), .val (.int (1 : Int32)), .val (.int (3 : Int32)), .val (.int (1 : Int32)), .unset] [(.int (4 : Int32)), (.ref ob)])) rfl (by rw [hml]; rfl) (Steps.refl _) (a := ob) (argsL := [(.int (4 : Int32))]) (rest := []) (lenOf own_pd0 rfl) rfl (by show 2 * 0 + _ ≤ _; exact Nat.le_of_eq rfl) (hb hby d1_4) (fun _ _ => ⟨rfl, e0, (by decide : 0 + 2 ≤ _), (by decide : 0 + 20 ≤ _)⟩)
  dsimp only [Pt.U, Pt.locs, Pt.cells, Pt.slots] at X1 l1 y1 z1 st1 hQ1
  subst l1 y1 z1
  obtain ⟨rfl, Nq1, b1, b1', P1⟩ := hQ1
  have N1 := Fr.app N0 Nq1
  obtain ⟨T2, h2, l2, X2, e2, N2, P2, st2⟩ := own_pp X1 hx hZ hw hown rfl N1 P1 21 (own_w hw 26) (Or.inl (own_w hw 27)) (v := (.int (0 : Int32))) (hb hby d1_9) #[.val (.ref ob), .val (.int (1 : Int32)), .val (.int (3 : Int32)), .val (.int (1 : Int32)), .unset] [] rfl rfl (by decide)
  obtain ⟨T3, h3, X3, e3, E3, A3, D3, -, st3⟩ := newO X2 hx hZ hown (own_w hw 28) (own_w hw 29) (own_w hw 30) e2 (g := (mkF m 13 #[.val (.ref ob), .val (.int (1 : Int32)), .val (.int (3 : Int32)), .val (.int (1 : Int32)), .unset] [(.ref ob)])) rfl (hb hby d1_13) (by decide) (by decide)
  obtain ⟨b3, gx3⟩ : ∃ z, z = h2.size := ⟨_, rfl⟩
  rw [← gx3] at A3 D3 st3
  have SF3 : own_SF Z h3 b3 := ⟨A3, fun k hk => by
    match k, hk with
    | 0, _ => exact ⟨_, D3 (Or.inl (own_w hw 36)) (ty := (.array .int)) (by decide)⟩
    | 1, _ => exact ⟨_, D3 (Or.inl (own_w hw 39)) (ty := (.array .long)) (by decide)⟩
    | 2, _ => exact ⟨_, D3 (Or.inl (own_w hw 41)) (ty := (.array .int)) (by decide)⟩
    | 3, _ => exact ⟨_, D3 (Or.inl (own_w hw 43)) (ty := (.array .long)) (by decide)⟩
    | 4, _ => exact ⟨_, D3 (Or.inl (own_w hw 45)) (ty := (.array .int)) (by decide)⟩
    | 5, _ => exact ⟨_, D3 (Or.inl (own_w hw 47)) (ty := (.array .long)) (by decide)⟩
    | z + 6, h => exact absurd h (by omega)⟩
  obtain ⟨_, _, ⟨T4, L4, k4, n4⟩, -, X4, ⟨Lc4, hQ4, l4, y4, z4⟩, st4⟩ := X3.specialBack hx (y := own_y0) rfl hown (mvT hZ (own_w hw 31)) (mvT hZ (own_w hw 32)) (mvT hZ (own_w hw 33)) (by decide) (backOf (W := 2) (rm4 l Z a0 hw [] b3 h3 n0 (own_sz (own_px P2 E3)) SF3 (Nat.le_trans (own_sz P2) (Nat.le_of_eq gx3.symm))) hZ (own_w hw 33) (own_w hw 30) (by decide) (by decide)) (g := (mkF m 17 #[.val (.ref ob), .val (.int (1 : Int32)), .val (.int (3 : Int32)), .val (.int (1 : Int32)), .unset] [(.ref b3), (.ref b3), (.ref ob)])) rfl (by rw [hml]; rfl) (Steps.refl _) (a := b3) (argsL := []) (rest := [(.ref b3), (.ref ob)]) (lenOf own_pd1 rfl) rfl (by show 2 * 0 + _ ≤ _; exact Nat.le_of_eq rfl) (hb hby d1_17) (fun _ _ => ⟨rfl, e3, (by decide : 3 + 6 ≤ _), (by decide : 33 + 24 ≤ _)⟩)
  dsimp only [Pt.U, Pt.locs, Pt.cells, Pt.slots] at X4 l4 y4 z4 st4 hQ4
  subst l4 y4 z4
  obtain ⟨rfl, Nq4, K4⟩ := hQ4
  have P4 := own_pk1 P2 gx3 E3 K4
  have N4 := Fr.app N2 Nq4
  obtain ⟨T5, h5, l5, X5, e5, N5, P5, st5⟩ := own_pp X4 hx hZ hw hown rfl N4 P4 29 (own_w hw 48) (Or.inr ⟨(own_w hw 49), rfl, hnm⟩) (v := (.ref b3)) (hb hby d1_20) #[.val (.ref ob), .val (.int (1 : Int32)), .val (.int (3 : Int32)), .val (.int (1 : Int32)), .unset] [] rfl rfl (by decide)
  obtain ⟨T6, h6, b6, c6, X6, e6, E6, g6, A6, st6⟩ := own_na X5 hx hZ e5 (own_w hw 21) (16 : Int32) 16 (hb hby d1_26) #[.val (.ref ob), .val (.int (1 : Int32)), .val (.int (3 : Int32)), .val (.int (1 : Int32)), .unset] [(.ref ob)] (by decide) (by decide) (by decide) (by decide) (by decide)
  obtain ⟨T7, h7, l7, X7, e7, N7, P7, st7⟩ := own_pp X6 hx hZ hw hown e6 N5 (own_px P5 E6) 30 (own_w hw 50) (Or.inl (own_w hw 51)) (v := (.ref b6)) (hb hby d1_28) #[.val (.ref ob), .val (.int (1 : Int32)), .val (.int (3 : Int32)), .val (.int (1 : Int32)), .unset] [] rfl rfl (by decide)
  obtain ⟨T8, h8, b8, c8, X8, e8, E8, g8, A8, st8⟩ := own_na X7 hx hZ e7 (own_w hw 21) (16 : Int32) 16 (hb hby d1_34) #[.val (.ref ob), .val (.int (1 : Int32)), .val (.int (3 : Int32)), .val (.int (1 : Int32)), .unset] [(.ref ob)] (by decide) (by decide) (by decide) (by decide) (by decide)
  obtain ⟨T9, h9, l9, X9, e9, N9, P9, st9⟩ := own_pp X8 hx hZ hw hown e8 N7 (own_px P7 E8) 31 (own_w hw 52) (Or.inl (own_w hw 53)) (v := (.ref b8)) (hb hby d1_36) #[.val (.ref ob), .val (.int (1 : Int32)), .val (.int (3 : Int32)), .val (.int (1 : Int32)), .unset] [] rfl rfl (by decide)
  obtain ⟨T10, h10, l10, X10, e10, N10, P10, st10⟩ := own_pp X9 hx hZ hw hown e9 N9 P9 19 (own_w hw 54) (Or.inr ⟨(own_w hw 55), rfl, hnm⟩) (v := (.int (1 : Int32))) (hb hby d1_41) #[.val (.ref ob), .val (.int (1 : Int32)), .val (.int (3 : Int32)), .val (.int (1 : Int32)), .unset] [] rfl rfl (by decide)
  obtain ⟨T11, h11, l11, X11, e11, N11, P11, st11⟩ := own_pp X10 hx hZ hw hown e10 N10 P10 20 (own_w hw 56) (Or.inr ⟨(own_w hw 57), rfl, hnm⟩) (v := (.int (2 : Int32))) (hb hby d1_48) #[.val (.ref ob), .val (.int (1 : Int32)), .val (.int (3 : Int32)), .val (.int (1 : Int32)), .unset] [] rfl rfl (by decide)
  obtain ⟨T12, h12, b12, c12, X12, e12, E12, g12, A12, st12⟩ := own_na X11 hx hZ e11 (own_w hw 21) (4 : Int32) 4 (hb hby d1_59) #[.val (.ref ob), .val (.int (1 : Int32)), .val (.int (3 : Int32)), .val (.int (1 : Int32)), .val (.int (4 : Int32))] [(.ref ob)] (by decide) (by decide) (by decide) (by decide) (by decide)
  obtain ⟨T13, h13, l13, X13, e13, N13, W13, st13⟩ := own_put X12 hx hZ hw hown e12 N11 (own_px P11 E12) 1 (own_w hw 58) (Or.inl (own_w hw 59)) (v := (.ref b12)) (hb hby d1_61) #[.val (.ref ob), .val (.int (1 : Int32)), .val (.int (3 : Int32)), .val (.int (1 : Int32)), .val (.int (4 : Int32))] [] rfl rfl (by decide)
  have P13 := own_pn hw P11 (own_sz P11) g12 E12 (vs := List.replicate 4 (own_aZ 1)) A12 rfl (by decide) W13
  obtain ⟨T14, h14, b14, c14, X14, e14, E14, g14, A14, st14⟩ := own_na X13 hx hZ e13 (own_w hw 21) (4 : Int32) 4 (hb hby d1_67) #[.val (.ref ob), .val (.int (1 : Int32)), .val (.int (3 : Int32)), .val (.int (1 : Int32)), .val (.int (4 : Int32))] [(.ref ob)] (by decide) (by decide) (by decide) (by decide) (by decide)
  obtain ⟨T15, h15, l15, X15, e15, N15, W15, st15⟩ := own_put X14 hx hZ hw hown e14 N13 (own_px P13 E14) 2 (own_w hw 60) (Or.inl (own_w hw 61)) (v := (.ref b14)) (hb hby d1_69) #[.val (.ref ob), .val (.int (1 : Int32)), .val (.int (3 : Int32)), .val (.int (1 : Int32)), .val (.int (4 : Int32))] [] rfl rfl (by decide)
  have P15 := own_pn hw P13 (own_sz P13) g14 E14 (vs := List.replicate 4 (own_aZ 2)) A14 rfl (by decide) W15
  obtain ⟨T16, h16, b16, c16, X16, e16, E16, g16, A16, st16⟩ := own_na X15 hx hZ e15 (own_w hw 21) (4 : Int32) 4 (hb hby d1_75) #[.val (.ref ob), .val (.int (1 : Int32)), .val (.int (3 : Int32)), .val (.int (1 : Int32)), .val (.int (4 : Int32))] [(.ref ob)] (by decide) (by decide) (by decide) (by decide) (by decide)
  obtain ⟨T17, h17, l17, X17, e17, N17, W17, st17⟩ := own_put X16 hx hZ hw hown e16 N15 (own_px P15 E16) 3 (own_w hw 62) (Or.inl (own_w hw 63)) (v := (.ref b16)) (hb hby d1_77) #[.val (.ref ob), .val (.int (1 : Int32)), .val (.int (3 : Int32)), .val (.int (1 : Int32)), .val (.int (4 : Int32))] [] rfl rfl (by decide)
  have P17 := own_pn hw P15 (own_sz P15) g16 E16 (vs := List.replicate 4 (own_aZ 3)) A16 rfl (by decide) W17
  obtain ⟨T18, h18, b18, c18, X18, e18, E18, g18, A18, st18⟩ := own_na X17 hx hZ e17 (own_w hw 21) (4 : Int32) 4 (hb hby d1_83) #[.val (.ref ob), .val (.int (1 : Int32)), .val (.int (3 : Int32)), .val (.int (1 : Int32)), .val (.int (4 : Int32))] [(.ref ob)] (by decide) (by decide) (by decide) (by decide) (by decide)
  obtain ⟨T19, h19, l19, X19, e19, N19, W19, st19⟩ := own_put X18 hx hZ hw hown e18 N17 (own_px P17 E18) 4 (own_w hw 64) (Or.inl (own_w hw 65)) (v := (.ref b18)) (hb hby d1_85) #[.val (.ref ob), .val (.int (1 : Int32)), .val (.int (3 : Int32)), .val (.int (1 : Int32)), .val (.int (4 : Int32))] [] rfl rfl (by decide)
  have P19 := own_pn hw P17 (own_sz P17) g18 E18 (vs := List.replicate 4 (own_aZ 4)) A18 rfl (by decide) W19
  obtain ⟨T20, h20, b20, c20, X20, e20, E20, g20, A20, st20⟩ := own_na X19 hx hZ e19 (own_w hw 21) (4 : Int32) 4 (hb hby d1_91) #[.val (.ref ob), .val (.int (1 : Int32)), .val (.int (3 : Int32)), .val (.int (1 : Int32)), .val (.int (4 : Int32))] [(.ref ob)] (by decide) (by decide) (by decide) (by decide) (by decide)
  obtain ⟨T21, h21, l21, X21, e21, N21, W21, st21⟩ := own_put X20 hx hZ hw hown e20 N19 (own_px P19 E20) 5 (own_w hw 66) (Or.inl (own_w hw 67)) (v := (.ref b20)) (hb hby d1_93) #[.val (.ref ob), .val (.int (1 : Int32)), .val (.int (3 : Int32)), .val (.int (1 : Int32)), .val (.int (4 : Int32))] [] rfl rfl (by decide)
  have P21 := own_pn hw P19 (own_sz P19) g20 E20 (vs := List.replicate 4 (own_aZ 5)) A20 rfl (by decide) W21
  obtain ⟨T22, h22, b22, c22, X22, e22, E22, g22, A22, st22⟩ := own_na X21 hx hZ e21 (own_w hw 37) (4 : Int32) 4 (hb hby d1_99) #[.val (.ref ob), .val (.int (1 : Int32)), .val (.int (3 : Int32)), .val (.int (1 : Int32)), .val (.int (4 : Int32))] [(.ref ob)] (by decide) (by decide) (by decide) (by decide) (by decide)
  obtain ⟨T23, h23, l23, X23, e23, N23, W23, st23⟩ := own_put X22 hx hZ hw hown e22 N21 (own_px P21 E22) 6 (own_w hw 68) (Or.inl (own_w hw 69)) (v := (.ref b22)) (hb hby d1_101) #[.val (.ref ob), .val (.int (1 : Int32)), .val (.int (3 : Int32)), .val (.int (1 : Int32)), .val (.int (4 : Int32))] [] rfl rfl (by decide)
  have P23 := own_pn hw P21 (own_sz P21) g22 E22 (vs := List.replicate 4 (own_aZ 6)) A22 rfl (by decide) W23
  obtain ⟨T24, h24, b24, X24, e24, E24, g24, st24⟩ := own_nr X23 hx hZ hown e23 (own_w hw 28) (own_w hw 70) (4 : Int32) 4 (hb hby d1_107) #[.val (.ref ob), .val (.int (1 : Int32)), .val (.int (3 : Int32)), .val (.int (1 : Int32)), .val (.int (4 : Int32))] [(.ref ob)] (by decide) (by decide) (by decide) (by decide) (by decide)
  obtain ⟨T25, h25, l25, X25, e25, N25, P25, st25⟩ := own_pp X24 hx hZ hw hown e24 N23 (own_px P23 E24) 32 (own_w hw 71) (Or.inl (own_w hw 72)) (v := (.ref b24)) (hb hby d1_110) #[.val (.ref ob), .val (.int (1 : Int32)), .val (.int (3 : Int32)), .val (.int (1 : Int32)), .val (.int (4 : Int32))] [] rfl rfl (by decide)
  obtain ⟨T26, h26, b26, X26, e26, E26, g26, st26⟩ := own_nr X25 hx hZ hown e25 (own_w hw 28) (own_w hw 70) (4 : Int32) 4 (hb hby d1_116) #[.val (.ref ob), .val (.int (1 : Int32)), .val (.int (3 : Int32)), .val (.int (1 : Int32)), .val (.int (4 : Int32))] [(.ref ob)] (by decide) (by decide) (by decide) (by decide) (by decide)
  obtain ⟨T27, h27, l27, X27, e27, N27, P27, st27⟩ := own_pp X26 hx hZ hw hown e26 N25 (own_px P25 E26) 33 (own_w hw 73) (Or.inl (own_w hw 74)) (v := (.ref b26)) (hb hby d1_119) #[.val (.ref ob), .val (.int (1 : Int32)), .val (.int (3 : Int32)), .val (.int (1 : Int32)), .val (.int (4 : Int32))] [] rfl rfl (by decide)
  obtain ⟨T28, h28, b28, c28, X28, e28, E28, g28, A28, st28⟩ := own_na X27 hx hZ e27 (own_w hw 75) (4 : Int32) 4 (hb hby d1_125) #[.val (.ref ob), .val (.int (1 : Int32)), .val (.int (3 : Int32)), .val (.int (1 : Int32)), .val (.int (4 : Int32))] [(.ref ob)] (by decide) (by decide) (by decide) (by decide) (by decide)
  obtain ⟨T29, h29, l29, X29, e29, N29, W29, st29⟩ := own_put X28 hx hZ hw hown e28 N27 (own_px P27 E28) 7 (own_w hw 76) (Or.inl (own_w hw 77)) (v := (.ref b28)) (hb hby d1_127) #[.val (.ref ob), .val (.int (1 : Int32)), .val (.int (3 : Int32)), .val (.int (1 : Int32)), .val (.int (4 : Int32))] [] rfl rfl (by decide)
  have P29 := own_pn hw P27 (own_sz P27) g28 E28 (vs := List.replicate 4 (own_aZ 7)) A28 rfl (by decide) W29
  obtain ⟨T30, h30, b30, c30, X30, e30, E30, g30, A30, st30⟩ := own_na X29 hx hZ e29 (own_w hw 75) (4 : Int32) 4 (hb hby d1_133) #[.val (.ref ob), .val (.int (1 : Int32)), .val (.int (3 : Int32)), .val (.int (1 : Int32)), .val (.int (4 : Int32))] [(.ref ob)] (by decide) (by decide) (by decide) (by decide) (by decide)
  obtain ⟨T31, h31, l31, X31, e31, N31, W31, st31⟩ := own_put X30 hx hZ hw hown e30 N29 (own_px P29 E30) 8 (own_w hw 78) (Or.inl (own_w hw 79)) (v := (.ref b30)) (hb hby d1_135) #[.val (.ref ob), .val (.int (1 : Int32)), .val (.int (3 : Int32)), .val (.int (1 : Int32)), .val (.int (4 : Int32))] [] rfl rfl (by decide)
  have P31 := own_pn hw P29 (own_sz P29) g30 E30 (vs := List.replicate 4 (own_aZ 8)) A30 rfl (by decide) W31
  obtain ⟨T32, h32, b32, c32, X32, e32, E32, g32, A32, st32⟩ := own_na X31 hx hZ e31 (own_w hw 21) (4 : Int32) 4 (hb hby d1_141) #[.val (.ref ob), .val (.int (1 : Int32)), .val (.int (3 : Int32)), .val (.int (1 : Int32)), .val (.int (4 : Int32))] [(.ref ob)] (by decide) (by decide) (by decide) (by decide) (by decide)
  obtain ⟨T33, h33, l33, X33, e33, N33, P33, st33⟩ := own_pp X32 hx hZ hw hown e32 N31 (own_px P31 E32) 34 (own_w hw 80) (Or.inl (own_w hw 81)) (v := (.ref b32)) (hb hby d1_143) #[.val (.ref ob), .val (.int (1 : Int32)), .val (.int (3 : Int32)), .val (.int (1 : Int32)), .val (.int (4 : Int32))] [] rfl rfl (by decide)
  obtain ⟨T34, h34, b34, c34, X34, e34, E34, g34, A34, st34⟩ := own_na X33 hx hZ e33 (own_w hw 37) (4 : Int32) 4 (hb hby d1_149) #[.val (.ref ob), .val (.int (1 : Int32)), .val (.int (3 : Int32)), .val (.int (1 : Int32)), .val (.int (4 : Int32))] [(.ref ob)] (by decide) (by decide) (by decide) (by decide) (by decide)
  obtain ⟨T35, h35, l35, X35, e35, N35, P35, st35⟩ := own_pp X34 hx hZ hw hown e34 N33 (own_px P33 E34) 35 (own_w hw 82) (Or.inl (own_w hw 83)) (v := (.ref b34)) (hb hby d1_151) #[.val (.ref ob), .val (.int (1 : Int32)), .val (.int (3 : Int32)), .val (.int (1 : Int32)), .val (.int (4 : Int32))] [] rfl rfl (by decide)
  obtain ⟨T36, h36, b36, c36, X36, e36, E36, g36, A36, st36⟩ := own_na X35 hx hZ e35 (own_w hw 75) (4 : Int32) 4 (hb hby d1_157) #[.val (.ref ob), .val (.int (1 : Int32)), .val (.int (3 : Int32)), .val (.int (1 : Int32)), .val (.int (4 : Int32))] [(.ref ob)] (by decide) (by decide) (by decide) (by decide) (by decide)
  obtain ⟨T37, h37, l37, X37, e37, N37, W37, st37⟩ := own_put X36 hx hZ hw hown e36 N35 (own_px P35 E36) 9 (own_w hw 84) (Or.inl (own_w hw 85)) (v := (.ref b36)) (hb hby d1_159) #[.val (.ref ob), .val (.int (1 : Int32)), .val (.int (3 : Int32)), .val (.int (1 : Int32)), .val (.int (4 : Int32))] [] rfl rfl (by decide)
  have P37 := own_pn hw P35 (own_sz P35) g36 E36 (vs := List.replicate 4 (own_aZ 9)) A36 rfl (by decide) W37
  obtain ⟨T38, h38, b38, c38, X38, e38, E38, g38, A38, st38⟩ := own_na X37 hx hZ e37 (own_w hw 21) (4 : Int32) 4 (hb hby d1_165) #[.val (.ref ob), .val (.int (1 : Int32)), .val (.int (3 : Int32)), .val (.int (1 : Int32)), .val (.int (4 : Int32))] [(.ref ob)] (by decide) (by decide) (by decide) (by decide) (by decide)
  obtain ⟨T39, h39, l39, X39, e39, N39, P39, st39⟩ := own_pp X38 hx hZ hw hown e38 N37 (own_px P37 E38) 36 (own_w hw 86) (Or.inl (own_w hw 87)) (v := (.ref b38)) (hb hby d1_167) #[.val (.ref ob), .val (.int (1 : Int32)), .val (.int (3 : Int32)), .val (.int (1 : Int32)), .val (.int (4 : Int32))] [] rfl rfl (by decide)
  obtain ⟨T40, h40, b40, c40, X40, e40, E40, g40, A40, st40⟩ := own_na X39 hx hZ e39 (own_w hw 37) (4 : Int32) 4 (hb hby d1_173) #[.val (.ref ob), .val (.int (1 : Int32)), .val (.int (3 : Int32)), .val (.int (1 : Int32)), .val (.int (4 : Int32))] [(.ref ob)] (by decide) (by decide) (by decide) (by decide) (by decide)
  obtain ⟨T41, h41, l41, X41, e41, N41, P41, st41⟩ := own_pp X40 hx hZ hw hown e40 N39 (own_px P39 E40) 37 (own_w hw 88) (Or.inl (own_w hw 89)) (v := (.ref b40)) (hb hby d1_175) #[.val (.ref ob), .val (.int (1 : Int32)), .val (.int (3 : Int32)), .val (.int (1 : Int32)), .val (.int (4 : Int32))] [] rfl rfl (by decide)
  obtain ⟨T42, h42, b42, c42, X42, e42, E42, g42, A42, st42⟩ := own_na X41 hx hZ e41 (own_w hw 75) (4 : Int32) 4 (hb hby d1_181) #[.val (.ref ob), .val (.int (1 : Int32)), .val (.int (3 : Int32)), .val (.int (1 : Int32)), .val (.int (4 : Int32))] [(.ref ob)] (by decide) (by decide) (by decide) (by decide) (by decide)
  obtain ⟨T43, h43, l43, X43, e43, N43, W43, st43⟩ := own_put X42 hx hZ hw hown e42 N41 (own_px P41 E42) 10 (own_w hw 90) (Or.inl (own_w hw 91)) (v := (.ref b42)) (hb hby d1_183) #[.val (.ref ob), .val (.int (1 : Int32)), .val (.int (3 : Int32)), .val (.int (1 : Int32)), .val (.int (4 : Int32))] [] rfl rfl (by decide)
  have P43 := own_pn hw P41 (own_sz P41) g42 E42 (vs := List.replicate 4 (own_aZ 10)) A42 rfl (by decide) W43
  obtain ⟨T44, h44, b44, c44, X44, e44, E44, g44, A44, st44⟩ := own_na X43 hx hZ e43 (own_w hw 37) (8 : Int32) 8 (hb hby d1_191) #[.val (.ref ob), .val (.int (1 : Int32)), .val (.int (3 : Int32)), .val (.int (1 : Int32)), .val (.int (4 : Int32))] [(.ref ob)] (by decide) (by decide) (by decide) (by decide) (by decide)
  obtain ⟨T45, h45, l45, X45, e45, N45, W45, st45⟩ := own_put X44 hx hZ hw hown e44 N43 (own_px P43 E44) 11 (own_w hw 92) (Or.inl (own_w hw 93)) (v := (.ref b44)) (hb hby d1_193) #[.val (.ref ob), .val (.int (1 : Int32)), .val (.int (3 : Int32)), .val (.int (1 : Int32)), .val (.int (4 : Int32))] [] rfl rfl (by decide)
  have P45 := own_pn hw P43 (own_sz P43) g44 E44 (vs := List.replicate 8 (own_aZ 11)) A44 rfl (by decide) W45
  obtain ⟨T46, h46, b46, c46, X46, e46, E46, g46, A46, st46⟩ := own_na X45 hx hZ e45 (own_w hw 21) (8 : Int32) 8 (hb hby d1_201) #[.val (.ref ob), .val (.int (1 : Int32)), .val (.int (3 : Int32)), .val (.int (1 : Int32)), .val (.int (4 : Int32))] [(.ref ob)] (by decide) (by decide) (by decide) (by decide) (by decide)
  obtain ⟨T47, h47, l47, X47, e47, N47, W47, st47⟩ := own_put X46 hx hZ hw hown e46 N45 (own_px P45 E46) 12 (own_w hw 94) (Or.inl (own_w hw 95)) (v := (.ref b46)) (hb hby d1_203) #[.val (.ref ob), .val (.int (1 : Int32)), .val (.int (3 : Int32)), .val (.int (1 : Int32)), .val (.int (4 : Int32))] [] rfl rfl (by decide)
  have P47 := own_pn hw P45 (own_sz P45) g46 E46 (vs := List.replicate 8 (own_aZ 12)) A46 rfl (by decide) W47
  obtain ⟨T48, h48, b48, c48, X48, e48, E48, g48, A48, st48⟩ := own_na X47 hx hZ e47 (own_w hw 37) (8 : Int32) 8 (hb hby d1_215) #[.val (.ref ob), .val (.int (1 : Int32)), .val (.int (3 : Int32)), .val (.int (1 : Int32)), .val (.int (4 : Int32))] [(.ref ob)] (by decide) (by decide) (by decide) (by decide) (by decide)
  obtain ⟨T49, h49, l49, X49, e49, N49, W49, st49⟩ := own_put X48 hx hZ hw hown e48 N47 (own_px P47 E48) 13 (own_w hw 96) (Or.inl (own_w hw 97)) (v := (.ref b48)) (hb hby d1_221) #[.val (.ref ob), .val (.int (1 : Int32)), .val (.int (3 : Int32)), .val (.int (1 : Int32)), .val (.int (4 : Int32))] [] rfl rfl (by decide)
  have P49 := own_pn hw P47 (own_sz P47) g48 E48 (vs := List.replicate 8 (own_aZ 13)) A48 rfl (by decide) W49
  obtain ⟨T50, X50, e50, st50⟩ := own_gf X49 hx hZ hown e49 P49 20 (own_w hw 56) (v := (.int (2 : Int32))) (own_fn (own_fn (own_fn (own_fn (own_fn (own_fn (own_fn (own_fn (own_fn (own_fn (own_fn (own_fn (own_fn (own_fn (own_fn (own_fn (own_fn (own_fn (own_fn (own_up_eq _ _ _)))))))))))))))))))) (hb hby d1_226) #[.val (.ref ob), .val (.int (1 : Int32)), .val (.int (3 : Int32)), .val (.int (1 : Int32)), .val (.int (4 : Int32))] [(.ref ob)]
  obtain ⟨T51, h51, b51, c51, X51, e51, E51, g51, A51, st51⟩ := own_na X50 hx hZ e50 (own_w hw 21) (2 : Int32) 2 (hb hby d1_229) #[.val (.ref ob), .val (.int (1 : Int32)), .val (.int (3 : Int32)), .val (.int (1 : Int32)), .val (.int (4 : Int32))] [(.ref ob)] (by decide) (by decide) (by decide) (by decide) (by decide)
  obtain ⟨T52, h52, l52, X52, e52, N52, P52, st52⟩ := own_pp X51 hx hZ hw hown e51 N49 (own_px P49 E51) 38 (own_w hw 98) (Or.inr ⟨(own_w hw 99), rfl, hnm⟩) (v := (.ref b51)) (hb hby d1_231) #[.val (.ref ob), .val (.int (1 : Int32)), .val (.int (3 : Int32)), .val (.int (1 : Int32)), .val (.int (4 : Int32))] [] rfl rfl (by decide)
  obtain ⟨fs, hr, hrun, hended, hW, hsame⟩ := X52.leave (v := none) (fun _ => rfl)
  refine ⟨_, _, castTop ef ?_, hrun, hended, _, _, rfl, ?_, ⟨_, rfl⟩, hW, hsame.mono (by decide) (by decide)⟩
  · refine s_aloadN X0 hx (hb hby d1_0) rfl rfl ?_
    refine s_iloadN X0 hx (hb hby d1_1) rfl ?_
    refine s_iconst X0 hx (1 : Int32) (hb hby d1_2) rfl ?_
    refine s_iadd X0 hx (4 : Int32) (hb hby d1_3) (by decide) ?_
    refine st1.trans ?_
    refine s_aloadN X1 hx (hb hby d1_7) rfl rfl ?_
    refine s_iconst X1 hx (0 : Int32) (hb hby d1_8) rfl ?_
    refine st2 _ ?_
    refine s_aloadN X2 hx (hb hby d1_12) rfl rfl ?_
    refine st3 _ ?_
    refine s_dup X3 hx (hb hby d1_16) rfl ?_
    refine st4.trans ?_
    refine st5 _ ?_
    refine s_aloadN X5 hx (hb hby d1_23) rfl rfl ?_
    refine s_bipush X5 hx (16 : Int32) (hb hby d1_24) rfl ?_
    refine st6 _ ?_
    refine st7 _ ?_
    refine s_aloadN X7 hx (hb hby d1_31) rfl rfl ?_
    refine s_bipush X7 hx (16 : Int32) (hb hby d1_32) rfl ?_
    refine st8 _ ?_
    refine st9 _ ?_
    refine s_aloadN X9 hx (hb hby d1_39) rfl rfl ?_
    refine s_iloadN X9 hx (hb hby d1_40) rfl ?_
    refine st10 _ ?_
    refine s_aloadN X10 hx (hb hby d1_44) rfl rfl ?_
    refine s_iconst X10 hx (1 : Int32) (hb hby d1_45) rfl ?_
    refine s_iloadN X10 hx (hb hby d1_46) rfl ?_
    refine s_ishl X10 hx (2 : Int32) (hb hby d1_47) (by decide) ?_
    refine st11 _ ?_
    refine s_iloadN X11 hx (hb hby d1_51) rfl ?_
    refine s_iconst X11 hx (1 : Int32) (hb hby d1_52) rfl ?_
    refine s_iadd X11 hx (4 : Int32) (hb hby d1_53) (by decide) ?_
    refine s_istore X11 hx #[.val (.ref ob), .val (.int (1 : Int32)), .val (.int (3 : Int32)), .val (.int (1 : Int32)), .val (.int (4 : Int32))] (hb hby d1_54) rfl ?_
    refine s_aloadN X11 hx (hb hby d1_56) rfl rfl ?_
    refine s_iload X11 hx (hb hby d1_57) rfl ?_
    refine st12 _ ?_
    refine st13 _ ?_
    refine s_aloadN X13 hx (hb hby d1_64) rfl rfl ?_
    refine s_iload X13 hx (hb hby d1_65) rfl ?_
    refine st14 _ ?_
    refine st15 _ ?_
    refine s_aloadN X15 hx (hb hby d1_72) rfl rfl ?_
    refine s_iload X15 hx (hb hby d1_73) rfl ?_
    refine st16 _ ?_
    refine st17 _ ?_
    refine s_aloadN X17 hx (hb hby d1_80) rfl rfl ?_
    refine s_iload X17 hx (hb hby d1_81) rfl ?_
    refine st18 _ ?_
    refine st19 _ ?_
    refine s_aloadN X19 hx (hb hby d1_88) rfl rfl ?_
    refine s_iload X19 hx (hb hby d1_89) rfl ?_
    refine st20 _ ?_
    refine st21 _ ?_
    refine s_aloadN X21 hx (hb hby d1_96) rfl rfl ?_
    refine s_iload X21 hx (hb hby d1_97) rfl ?_
    refine st22 _ ?_
    refine st23 _ ?_
    refine s_aloadN X23 hx (hb hby d1_104) rfl rfl ?_
    refine s_iload X23 hx (hb hby d1_105) rfl ?_
    refine st24 _ ?_
    refine st25 _ ?_
    refine s_aloadN X25 hx (hb hby d1_113) rfl rfl ?_
    refine s_iload X25 hx (hb hby d1_114) rfl ?_
    refine st26 _ ?_
    refine st27 _ ?_
    refine s_aloadN X27 hx (hb hby d1_122) rfl rfl ?_
    refine s_iload X27 hx (hb hby d1_123) rfl ?_
    refine st28 _ ?_
    refine st29 _ ?_
    refine s_aloadN X29 hx (hb hby d1_130) rfl rfl ?_
    refine s_iload X29 hx (hb hby d1_131) rfl ?_
    refine st30 _ ?_
    refine st31 _ ?_
    refine s_aloadN X31 hx (hb hby d1_138) rfl rfl ?_
    refine s_iload X31 hx (hb hby d1_139) rfl ?_
    refine st32 _ ?_
    refine st33 _ ?_
    refine s_aloadN X33 hx (hb hby d1_146) rfl rfl ?_
    refine s_iload X33 hx (hb hby d1_147) rfl ?_
    refine st34 _ ?_
    refine st35 _ ?_
    refine s_aloadN X35 hx (hb hby d1_154) rfl rfl ?_
    refine s_iload X35 hx (hb hby d1_155) rfl ?_
    refine st36 _ ?_
    refine st37 _ ?_
    refine s_aloadN X37 hx (hb hby d1_162) rfl rfl ?_
    refine s_iload X37 hx (hb hby d1_163) rfl ?_
    refine st38 _ ?_
    refine st39 _ ?_
    refine s_aloadN X39 hx (hb hby d1_170) rfl rfl ?_
    refine s_iload X39 hx (hb hby d1_171) rfl ?_
    refine st40 _ ?_
    refine st41 _ ?_
    refine s_aloadN X41 hx (hb hby d1_178) rfl rfl ?_
    refine s_iload X41 hx (hb hby d1_179) rfl ?_
    refine st42 _ ?_
    refine st43 _ ?_
    refine s_aloadN X43 hx (hb hby d1_186) rfl rfl ?_
    refine s_iload X43 hx (hb hby d1_187) rfl ?_
    refine s_iloadN X43 hx (hb hby d1_189) rfl ?_
    refine s_ishl X43 hx (8 : Int32) (hb hby d1_190) (by decide) ?_
    refine st44 _ ?_
    refine st45 _ ?_
    refine s_aloadN X45 hx (hb hby d1_196) rfl rfl ?_
    refine s_iload X45 hx (hb hby d1_197) rfl ?_
    refine s_iloadN X45 hx (hb hby d1_199) rfl ?_
    refine s_ishl X45 hx (8 : Int32) (hb hby d1_200) (by decide) ?_
    refine st46 _ ?_
    refine st47 _ ?_
    refine s_aloadN X47 hx (hb hby d1_206) rfl rfl ?_
    refine s_iloadN X47 hx (hb hby d1_207) rfl ?_
    refine s_ifN X47 hx (hb hby d1_208) (by decide) ?_
    refine s_iload X47 hx (hb hby d1_211) rfl ?_
    refine s_iloadN X47 hx (hb hby d1_213) rfl ?_
    refine s_ishl X47 hx (8 : Int32) (hb hby d1_214) (by decide) ?_
    refine st48 _ ?_
    refine s_goto X48 hx 221 (hb hby d1_217) (by decide) (by decide) ?_
    refine st49 _ ?_
    refine s_aloadN X49 hx (hb hby d1_224) rfl rfl ?_
    refine s_aloadN X49 hx (hb hby d1_225) rfl rfl ?_
    refine st50 _ ?_
    refine st51 _ ?_
    refine st52 _ ?_
    exact X52.returnOut hx Bd.returns (hb hby d1_234) hr
  · show ((_ : Option Value) = none ∧ Fr n0 _ ∧ ∃ (A' : Nat → Addr) (F' : Nat → Value), own_PS Z T52.heap n0 ob 14 A' F' own_V0 ∧ own_Ini F')
    rw [e52]
    exact ⟨rfl, N52, _, _, (own_pcg P52 fun k hk => by
    match k, hk with
    | 0, _ => rfl
    | 1, _ => rfl
    | 2, _ => rfl
    | 3, _ => rfl
    | 4, _ => rfl
    | 5, _ => rfl
    | 6, _ => rfl
    | 7, _ => rfl
    | 8, _ => rfl
    | 9, _ => rfl
    | 10, _ => rfl
    | 11, _ => rfl
    | 12, _ => rfl
    | 13, _ => rfl
    | z + 14, h => exact absurd h (by omega)), ⟨(own_fn (own_fn (own_fn (own_fn (own_fn (own_fn (own_fn (own_fn (own_fn (own_fn (own_fn (own_fn (own_fn (own_fn (own_fn (own_fn (own_fn (own_fn (own_fn (own_fn (own_fn (own_fn (own_fn (own_fn (own_fn (own_fn (own_fn (own_fn (own_fn (own_fn (own_up_eq _ _ _))))))))))))))))))))))))))))))), (own_fn (own_fn (own_fn (own_fn (own_fn (own_fn (own_fn (own_fn (own_fn (own_fn (own_fn (own_fn (own_fn (own_fn (own_fn (own_fn (own_fn (own_fn (own_fn (own_fn (own_fn (own_fn (own_fn (own_fn (own_fn (own_fn (own_fn (own_fn (own_fn (own_fn (own_fn rfl))))))))))))))))))))))))))))))), (own_fn (own_fn (own_fn (own_fn (own_fn (own_fn (own_fn (own_fn (own_fn (own_fn (own_fn (own_fn (own_fn (own_fn (own_fn (own_fn (own_fn (own_fn (own_fn (own_fn (own_fn (own_fn (own_fn (own_fn (own_fn (own_fn (own_fn (own_fn (own_fn (own_fn (own_fn rfl))))))))))))))))))))))))))))))), (own_fn (own_fn (own_fn (own_fn (own_fn (own_fn (own_fn (own_fn (own_fn (own_fn (own_fn (own_fn (own_fn (own_fn (own_fn (own_fn (own_fn (own_fn (own_fn (own_fn (own_fn (own_fn (own_fn (own_fn (own_fn (own_fn (own_fn (own_fn (own_fn (own_up_eq _ _ _)))))))))))))))))))))))))))))), (own_fn (own_fn (own_fn (own_fn (own_fn (own_fn (own_fn (own_fn (own_fn (own_fn (own_fn (own_fn (own_fn (own_fn (own_fn (own_fn (own_fn (own_fn (own_fn (own_fn (own_fn (own_fn (own_fn (own_fn (own_fn (own_fn (own_fn (own_fn (own_up_eq _ _ _))))))))))))))))))))))))))))), (own_fn (own_fn (own_fn (own_fn (own_fn (own_fn (own_fn (own_fn (own_fn (own_fn (own_fn (own_fn (own_fn (own_fn (own_fn (own_fn (own_fn (own_fn (own_fn (own_fn (own_fn (own_up_eq _ _ _)))))))))))))))))))))), (own_fn (own_fn (own_fn (own_fn (own_fn (own_fn (own_fn (own_fn (own_fn (own_fn (own_fn (own_fn (own_fn (own_fn (own_fn (own_fn (own_fn (own_fn (own_fn (own_fn (own_up_eq _ _ _))))))))))))))))))))), (own_fn (own_fn (own_fn (own_fn (own_fn (own_fn (own_fn (own_fn (own_fn (own_fn (own_fn (own_fn (own_fn (own_fn (own_fn (own_fn (own_fn (own_fn (own_fn (own_fn (own_fn (own_fn (own_fn (own_fn (own_fn (own_up_eq _ _ _)))))))))))))))))))))))))), (own_fn (own_fn (own_fn (own_fn (own_fn (own_fn (own_fn (own_fn (own_fn (own_fn (own_fn (own_fn (own_fn (own_fn (own_fn (own_fn (own_fn (own_fn (own_fn (own_fn (own_fn (own_fn (own_fn (own_fn (own_fn (own_fn (own_fn (own_fn (own_fn (own_fn (own_fn rfl))))))))))))))))))))))))))))))), (own_fn (own_fn (own_fn (own_fn (own_fn (own_fn (own_fn (own_fn (own_fn (own_fn (own_fn (own_fn (own_fn (own_fn (own_fn (own_fn (own_fn (own_fn (own_fn (own_fn (own_fn (own_fn (own_fn (own_fn (own_fn (own_fn (own_fn (own_fn (own_fn (own_fn (own_fn rfl))))))))))))))))))))))))))))))), (own_fn (own_fn (own_fn (own_fn (own_fn (own_fn (own_fn (own_fn (own_fn (own_fn (own_fn (own_fn (own_fn (own_fn (own_fn (own_fn (own_fn (own_fn (own_fn (own_fn (own_fn (own_fn (own_fn (own_fn (own_fn (own_fn (own_fn (own_fn (own_fn (own_fn (own_fn rfl))))))))))))))))))))))))))))))), (own_fn (own_fn (own_fn (own_fn (own_fn (own_fn (own_fn (own_fn (own_fn (own_fn (own_fn (own_fn (own_fn (own_fn (own_fn (own_fn (own_fn (own_fn (own_fn (own_fn (own_fn (own_fn (own_fn (own_fn (own_fn (own_fn (own_fn (own_fn (own_fn (own_fn (own_fn rfl))))))))))))))))))))))))))))))), (own_fn (own_fn (own_fn (own_fn (own_fn (own_fn (own_fn (own_fn (own_fn (own_fn (own_fn (own_fn (own_fn (own_fn (own_fn (own_fn (own_fn (own_fn (own_fn (own_fn (own_fn (own_fn (own_fn (own_fn (own_fn (own_fn (own_fn (own_fn (own_fn (own_fn (own_fn rfl))))))))))))))))))))))))))))))), (own_fn (own_fn (own_fn (own_fn (own_fn (own_fn (own_fn (own_fn (own_fn (own_fn (own_fn (own_fn (own_fn (own_fn (own_fn (own_fn (own_fn (own_fn (own_fn (own_fn (own_fn (own_fn (own_fn (own_fn (own_fn (own_fn (own_fn (own_fn (own_fn (own_fn (own_fn rfl)))))))))))))))))))))))))))))))⟩⟩
set_option maxRecDepth 65536 in
set_option maxHeartbeats 40000000 in
theorem rm1_n (l : Launch) (Z : State) (a0 : Array Value) (hw : ∀ d ∈ tables_1, d.before a0 Z = true) (ws : List Jvm.Cond) (ob : Addr) (h0 : Heap) (n0 : Nat) (P : own_PS Z h0 n0 ob 0 (fun _ => 0) own_F0 (fun _ => [])) :
    MetFree l own_y2 (head1 (Jvm.Cond.code own_y2 prog_152_method_1_code 5 none :: ws) ({ frames := 2, cells := 30, slots := 171, locals := 26 } : Room)) (fun a U => a = #[(.ref ob), (.int (1 : Int32)), (.int (3 : Int32)), (.int (0 : Int32))] ∧ Z.Warmed39 U.vm ∧ U.heap = h0) (fun _ _ _ _ _ => True) (fun _ U o U' => ∃ v L, o = .returned v ∧ own_Q (fun v h L => (v = none ∧ Fr n0 L ∧ ∃ (A' : Nat → Addr) (F' : Nat → Value), own_PS Z h n0 ob 13 A' F' own_V0 ∧ own_Ini F' ∧ F' 13 = .null)) v U'.heap L ∧ FrameEnd U o U' L ({ frames := 2, cells := 30, slots := 171, locals := 26 } : Room).cells ({ frames := 2, cells := 30, slots := 171, locals := 26 } : Room).slots) := by
  refine MetFree.of_bodySF (plainFor_of_name own_pn2) hisR ?_
  intro p e s m args below meth c s₁ Bd hml0 hP hK
  obtain ⟨rfl, hZ, hh⟩ := hP
  have hx := Bd.exec
  have hby := Bd.bytes
  have hml : c.maxLocals = 5 := hml0
  have hown : s.vm.findClass "com/example/jobwright/jobwright/policies/ProfileSteps" = some m.cls := findClass_of_methodNamed Bd.named
  have hnm := (name_of_methodNamed Bd.named Bd.method).1
  have X0 : Stand p l e ({ frames := 2, cells := 30, slots := 171, locals := 26 } : Room) s m #[(.ref ob), (.int (1 : Int32)), (.int (3 : Int32)), (.int (0 : Int32))] below meth c s₁ [] 0 0 := Stand.of_body Bd
  have e0 : s₁.heap = h0 := by rw [← hh, Bd.state]; rfl
  have N0 := Fr.nil n0
  have ef : entryFrame m #[(.ref ob), (.int (1 : Int32)), (.int (3 : Int32)), (.int (0 : Int32))] 5 = mkF m 0 #[.val (.ref ob), .val (.int (1 : Int32)), .val (.int (3 : Int32)), .val (.int (0 : Int32)), .unset] [] := by first | (simp [entryFrame, mkF, argsToLocals, Value.category]; done) | rfl
  obtain ⟨_, _, ⟨T1, L1, k1, n1⟩, -, X1, ⟨Lc1, hQ1, l1, y1, z1⟩, st1⟩ := X0.specialBack hx (y := own_y1) rfl hown (mvT hZ (own_w hw 6)) (mvT hZ (own_w hw 7)) (mvT hZ (own_w hw 10)) (by decide) (backOf (W := 0) (rm2 l Z a0 hw [] ob h0 n0 P) hZ (own_w hw 10) (own_w hw 9) (by decide) (by decide)) (g := (mkF m 4 #[.val (.ref ob), .val (.int (1 : Int32)), .val (.int (3 : Int32)), .val (.int (0 : Int32)), .unset] [(.int (4 : Int32)), (.ref ob)])) rfl (by rw [hml]; rfl) (Steps.refl _) (a := ob) (argsL := [(.int (4 : Int32))]) (rest := []) (lenOf own_pd0 rfl) rfl (by show 2 * 0 + _ ≤ _; exact Nat.le_of_eq rfl) (hb hby d1_4) (fun _ _ => ⟨rfl, e0, (by decide : 0 + 2 ≤ _), (by decide : 0 + 20 ≤ _)⟩)
  dsimp only [Pt.U, Pt.locs, Pt.cells, Pt.slots] at X1 l1 y1 z1 st1 hQ1
  subst l1 y1 z1
  obtain ⟨rfl, Nq1, b1, b1', P1⟩ := hQ1
  have N1 := Fr.app N0 Nq1
  obtain ⟨T2, h2, l2, X2, e2, N2, P2, st2⟩ := own_pp X1 hx hZ hw hown rfl N1 P1 21 (own_w hw 26) (Or.inl (own_w hw 27)) (v := (.int (0 : Int32))) (hb hby d1_9) #[.val (.ref ob), .val (.int (1 : Int32)), .val (.int (3 : Int32)), .val (.int (0 : Int32)), .unset] [] rfl rfl (by decide)
  obtain ⟨T3, h3, X3, e3, E3, A3, D3, -, st3⟩ := newO X2 hx hZ hown (own_w hw 28) (own_w hw 29) (own_w hw 30) e2 (g := (mkF m 13 #[.val (.ref ob), .val (.int (1 : Int32)), .val (.int (3 : Int32)), .val (.int (0 : Int32)), .unset] [(.ref ob)])) rfl (hb hby d1_13) (by decide) (by decide)
  obtain ⟨b3, gx3⟩ : ∃ z, z = h2.size := ⟨_, rfl⟩
  rw [← gx3] at A3 D3 st3
  have SF3 : own_SF Z h3 b3 := ⟨A3, fun k hk => by
    match k, hk with
    | 0, _ => exact ⟨_, D3 (Or.inl (own_w hw 36)) (ty := (.array .int)) (by decide)⟩
    | 1, _ => exact ⟨_, D3 (Or.inl (own_w hw 39)) (ty := (.array .long)) (by decide)⟩
    | 2, _ => exact ⟨_, D3 (Or.inl (own_w hw 41)) (ty := (.array .int)) (by decide)⟩
    | 3, _ => exact ⟨_, D3 (Or.inl (own_w hw 43)) (ty := (.array .long)) (by decide)⟩
    | 4, _ => exact ⟨_, D3 (Or.inl (own_w hw 45)) (ty := (.array .int)) (by decide)⟩
    | 5, _ => exact ⟨_, D3 (Or.inl (own_w hw 47)) (ty := (.array .long)) (by decide)⟩
    | z + 6, h => exact absurd h (by omega)⟩
  obtain ⟨_, _, ⟨T4, L4, k4, n4⟩, -, X4, ⟨Lc4, hQ4, l4, y4, z4⟩, st4⟩ := X3.specialBack hx (y := own_y0) rfl hown (mvT hZ (own_w hw 31)) (mvT hZ (own_w hw 32)) (mvT hZ (own_w hw 33)) (by decide) (backOf (W := 2) (rm4 l Z a0 hw [] b3 h3 n0 (own_sz (own_px P2 E3)) SF3 (Nat.le_trans (own_sz P2) (Nat.le_of_eq gx3.symm))) hZ (own_w hw 33) (own_w hw 30) (by decide) (by decide)) (g := (mkF m 17 #[.val (.ref ob), .val (.int (1 : Int32)), .val (.int (3 : Int32)), .val (.int (0 : Int32)), .unset] [(.ref b3), (.ref b3), (.ref ob)])) rfl (by rw [hml]; rfl) (Steps.refl _) (a := b3) (argsL := []) (rest := [(.ref b3), (.ref ob)]) (lenOf own_pd1 rfl) rfl (by show 2 * 0 + _ ≤ _; exact Nat.le_of_eq rfl) (hb hby d1_17) (fun _ _ => ⟨rfl, e3, (by decide : 3 + 6 ≤ _), (by decide : 33 + 24 ≤ _)⟩)
  dsimp only [Pt.U, Pt.locs, Pt.cells, Pt.slots] at X4 l4 y4 z4 st4 hQ4
  subst l4 y4 z4
  obtain ⟨rfl, Nq4, K4⟩ := hQ4
  have P4 := own_pk1 P2 gx3 E3 K4
  have N4 := Fr.app N2 Nq4
  obtain ⟨T5, h5, l5, X5, e5, N5, P5, st5⟩ := own_pp X4 hx hZ hw hown rfl N4 P4 29 (own_w hw 48) (Or.inr ⟨(own_w hw 49), rfl, hnm⟩) (v := (.ref b3)) (hb hby d1_20) #[.val (.ref ob), .val (.int (1 : Int32)), .val (.int (3 : Int32)), .val (.int (0 : Int32)), .unset] [] rfl rfl (by decide)
  obtain ⟨T6, h6, b6, c6, X6, e6, E6, g6, A6, st6⟩ := own_na X5 hx hZ e5 (own_w hw 21) (16 : Int32) 16 (hb hby d1_26) #[.val (.ref ob), .val (.int (1 : Int32)), .val (.int (3 : Int32)), .val (.int (0 : Int32)), .unset] [(.ref ob)] (by decide) (by decide) (by decide) (by decide) (by decide)
  obtain ⟨T7, h7, l7, X7, e7, N7, P7, st7⟩ := own_pp X6 hx hZ hw hown e6 N5 (own_px P5 E6) 30 (own_w hw 50) (Or.inl (own_w hw 51)) (v := (.ref b6)) (hb hby d1_28) #[.val (.ref ob), .val (.int (1 : Int32)), .val (.int (3 : Int32)), .val (.int (0 : Int32)), .unset] [] rfl rfl (by decide)
  obtain ⟨T8, h8, b8, c8, X8, e8, E8, g8, A8, st8⟩ := own_na X7 hx hZ e7 (own_w hw 21) (16 : Int32) 16 (hb hby d1_34) #[.val (.ref ob), .val (.int (1 : Int32)), .val (.int (3 : Int32)), .val (.int (0 : Int32)), .unset] [(.ref ob)] (by decide) (by decide) (by decide) (by decide) (by decide)
  obtain ⟨T9, h9, l9, X9, e9, N9, P9, st9⟩ := own_pp X8 hx hZ hw hown e8 N7 (own_px P7 E8) 31 (own_w hw 52) (Or.inl (own_w hw 53)) (v := (.ref b8)) (hb hby d1_36) #[.val (.ref ob), .val (.int (1 : Int32)), .val (.int (3 : Int32)), .val (.int (0 : Int32)), .unset] [] rfl rfl (by decide)
  obtain ⟨T10, h10, l10, X10, e10, N10, P10, st10⟩ := own_pp X9 hx hZ hw hown e9 N9 P9 19 (own_w hw 54) (Or.inr ⟨(own_w hw 55), rfl, hnm⟩) (v := (.int (1 : Int32))) (hb hby d1_41) #[.val (.ref ob), .val (.int (1 : Int32)), .val (.int (3 : Int32)), .val (.int (0 : Int32)), .unset] [] rfl rfl (by decide)
  obtain ⟨T11, h11, l11, X11, e11, N11, P11, st11⟩ := own_pp X10 hx hZ hw hown e10 N10 P10 20 (own_w hw 56) (Or.inr ⟨(own_w hw 57), rfl, hnm⟩) (v := (.int (2 : Int32))) (hb hby d1_48) #[.val (.ref ob), .val (.int (1 : Int32)), .val (.int (3 : Int32)), .val (.int (0 : Int32)), .unset] [] rfl rfl (by decide)
  obtain ⟨T12, h12, b12, c12, X12, e12, E12, g12, A12, st12⟩ := own_na X11 hx hZ e11 (own_w hw 21) (4 : Int32) 4 (hb hby d1_59) #[.val (.ref ob), .val (.int (1 : Int32)), .val (.int (3 : Int32)), .val (.int (0 : Int32)), .val (.int (4 : Int32))] [(.ref ob)] (by decide) (by decide) (by decide) (by decide) (by decide)
  obtain ⟨T13, h13, l13, X13, e13, N13, W13, st13⟩ := own_put X12 hx hZ hw hown e12 N11 (own_px P11 E12) 1 (own_w hw 58) (Or.inl (own_w hw 59)) (v := (.ref b12)) (hb hby d1_61) #[.val (.ref ob), .val (.int (1 : Int32)), .val (.int (3 : Int32)), .val (.int (0 : Int32)), .val (.int (4 : Int32))] [] rfl rfl (by decide)
  have P13 := own_pn hw P11 (own_sz P11) g12 E12 (vs := List.replicate 4 (own_aZ 1)) A12 rfl (by decide) W13
  obtain ⟨T14, h14, b14, c14, X14, e14, E14, g14, A14, st14⟩ := own_na X13 hx hZ e13 (own_w hw 21) (4 : Int32) 4 (hb hby d1_67) #[.val (.ref ob), .val (.int (1 : Int32)), .val (.int (3 : Int32)), .val (.int (0 : Int32)), .val (.int (4 : Int32))] [(.ref ob)] (by decide) (by decide) (by decide) (by decide) (by decide)
  obtain ⟨T15, h15, l15, X15, e15, N15, W15, st15⟩ := own_put X14 hx hZ hw hown e14 N13 (own_px P13 E14) 2 (own_w hw 60) (Or.inl (own_w hw 61)) (v := (.ref b14)) (hb hby d1_69) #[.val (.ref ob), .val (.int (1 : Int32)), .val (.int (3 : Int32)), .val (.int (0 : Int32)), .val (.int (4 : Int32))] [] rfl rfl (by decide)
  have P15 := own_pn hw P13 (own_sz P13) g14 E14 (vs := List.replicate 4 (own_aZ 2)) A14 rfl (by decide) W15
  obtain ⟨T16, h16, b16, c16, X16, e16, E16, g16, A16, st16⟩ := own_na X15 hx hZ e15 (own_w hw 21) (4 : Int32) 4 (hb hby d1_75) #[.val (.ref ob), .val (.int (1 : Int32)), .val (.int (3 : Int32)), .val (.int (0 : Int32)), .val (.int (4 : Int32))] [(.ref ob)] (by decide) (by decide) (by decide) (by decide) (by decide)
  obtain ⟨T17, h17, l17, X17, e17, N17, W17, st17⟩ := own_put X16 hx hZ hw hown e16 N15 (own_px P15 E16) 3 (own_w hw 62) (Or.inl (own_w hw 63)) (v := (.ref b16)) (hb hby d1_77) #[.val (.ref ob), .val (.int (1 : Int32)), .val (.int (3 : Int32)), .val (.int (0 : Int32)), .val (.int (4 : Int32))] [] rfl rfl (by decide)
  have P17 := own_pn hw P15 (own_sz P15) g16 E16 (vs := List.replicate 4 (own_aZ 3)) A16 rfl (by decide) W17
  obtain ⟨T18, h18, b18, c18, X18, e18, E18, g18, A18, st18⟩ := own_na X17 hx hZ e17 (own_w hw 21) (4 : Int32) 4 (hb hby d1_83) #[.val (.ref ob), .val (.int (1 : Int32)), .val (.int (3 : Int32)), .val (.int (0 : Int32)), .val (.int (4 : Int32))] [(.ref ob)] (by decide) (by decide) (by decide) (by decide) (by decide)
  obtain ⟨T19, h19, l19, X19, e19, N19, W19, st19⟩ := own_put X18 hx hZ hw hown e18 N17 (own_px P17 E18) 4 (own_w hw 64) (Or.inl (own_w hw 65)) (v := (.ref b18)) (hb hby d1_85) #[.val (.ref ob), .val (.int (1 : Int32)), .val (.int (3 : Int32)), .val (.int (0 : Int32)), .val (.int (4 : Int32))] [] rfl rfl (by decide)
  have P19 := own_pn hw P17 (own_sz P17) g18 E18 (vs := List.replicate 4 (own_aZ 4)) A18 rfl (by decide) W19
  obtain ⟨T20, h20, b20, c20, X20, e20, E20, g20, A20, st20⟩ := own_na X19 hx hZ e19 (own_w hw 21) (4 : Int32) 4 (hb hby d1_91) #[.val (.ref ob), .val (.int (1 : Int32)), .val (.int (3 : Int32)), .val (.int (0 : Int32)), .val (.int (4 : Int32))] [(.ref ob)] (by decide) (by decide) (by decide) (by decide) (by decide)
  obtain ⟨T21, h21, l21, X21, e21, N21, W21, st21⟩ := own_put X20 hx hZ hw hown e20 N19 (own_px P19 E20) 5 (own_w hw 66) (Or.inl (own_w hw 67)) (v := (.ref b20)) (hb hby d1_93) #[.val (.ref ob), .val (.int (1 : Int32)), .val (.int (3 : Int32)), .val (.int (0 : Int32)), .val (.int (4 : Int32))] [] rfl rfl (by decide)
  have P21 := own_pn hw P19 (own_sz P19) g20 E20 (vs := List.replicate 4 (own_aZ 5)) A20 rfl (by decide) W21
  obtain ⟨T22, h22, b22, c22, X22, e22, E22, g22, A22, st22⟩ := own_na X21 hx hZ e21 (own_w hw 37) (4 : Int32) 4 (hb hby d1_99) #[.val (.ref ob), .val (.int (1 : Int32)), .val (.int (3 : Int32)), .val (.int (0 : Int32)), .val (.int (4 : Int32))] [(.ref ob)] (by decide) (by decide) (by decide) (by decide) (by decide)
  obtain ⟨T23, h23, l23, X23, e23, N23, W23, st23⟩ := own_put X22 hx hZ hw hown e22 N21 (own_px P21 E22) 6 (own_w hw 68) (Or.inl (own_w hw 69)) (v := (.ref b22)) (hb hby d1_101) #[.val (.ref ob), .val (.int (1 : Int32)), .val (.int (3 : Int32)), .val (.int (0 : Int32)), .val (.int (4 : Int32))] [] rfl rfl (by decide)
  have P23 := own_pn hw P21 (own_sz P21) g22 E22 (vs := List.replicate 4 (own_aZ 6)) A22 rfl (by decide) W23
  obtain ⟨T24, h24, b24, X24, e24, E24, g24, st24⟩ := own_nr X23 hx hZ hown e23 (own_w hw 28) (own_w hw 70) (4 : Int32) 4 (hb hby d1_107) #[.val (.ref ob), .val (.int (1 : Int32)), .val (.int (3 : Int32)), .val (.int (0 : Int32)), .val (.int (4 : Int32))] [(.ref ob)] (by decide) (by decide) (by decide) (by decide) (by decide)
  obtain ⟨T25, h25, l25, X25, e25, N25, P25, st25⟩ := own_pp X24 hx hZ hw hown e24 N23 (own_px P23 E24) 32 (own_w hw 71) (Or.inl (own_w hw 72)) (v := (.ref b24)) (hb hby d1_110) #[.val (.ref ob), .val (.int (1 : Int32)), .val (.int (3 : Int32)), .val (.int (0 : Int32)), .val (.int (4 : Int32))] [] rfl rfl (by decide)
  obtain ⟨T26, h26, b26, X26, e26, E26, g26, st26⟩ := own_nr X25 hx hZ hown e25 (own_w hw 28) (own_w hw 70) (4 : Int32) 4 (hb hby d1_116) #[.val (.ref ob), .val (.int (1 : Int32)), .val (.int (3 : Int32)), .val (.int (0 : Int32)), .val (.int (4 : Int32))] [(.ref ob)] (by decide) (by decide) (by decide) (by decide) (by decide)
  obtain ⟨T27, h27, l27, X27, e27, N27, P27, st27⟩ := own_pp X26 hx hZ hw hown e26 N25 (own_px P25 E26) 33 (own_w hw 73) (Or.inl (own_w hw 74)) (v := (.ref b26)) (hb hby d1_119) #[.val (.ref ob), .val (.int (1 : Int32)), .val (.int (3 : Int32)), .val (.int (0 : Int32)), .val (.int (4 : Int32))] [] rfl rfl (by decide)
  obtain ⟨T28, h28, b28, c28, X28, e28, E28, g28, A28, st28⟩ := own_na X27 hx hZ e27 (own_w hw 75) (4 : Int32) 4 (hb hby d1_125) #[.val (.ref ob), .val (.int (1 : Int32)), .val (.int (3 : Int32)), .val (.int (0 : Int32)), .val (.int (4 : Int32))] [(.ref ob)] (by decide) (by decide) (by decide) (by decide) (by decide)
  obtain ⟨T29, h29, l29, X29, e29, N29, W29, st29⟩ := own_put X28 hx hZ hw hown e28 N27 (own_px P27 E28) 7 (own_w hw 76) (Or.inl (own_w hw 77)) (v := (.ref b28)) (hb hby d1_127) #[.val (.ref ob), .val (.int (1 : Int32)), .val (.int (3 : Int32)), .val (.int (0 : Int32)), .val (.int (4 : Int32))] [] rfl rfl (by decide)
  have P29 := own_pn hw P27 (own_sz P27) g28 E28 (vs := List.replicate 4 (own_aZ 7)) A28 rfl (by decide) W29
  obtain ⟨T30, h30, b30, c30, X30, e30, E30, g30, A30, st30⟩ := own_na X29 hx hZ e29 (own_w hw 75) (4 : Int32) 4 (hb hby d1_133) #[.val (.ref ob), .val (.int (1 : Int32)), .val (.int (3 : Int32)), .val (.int (0 : Int32)), .val (.int (4 : Int32))] [(.ref ob)] (by decide) (by decide) (by decide) (by decide) (by decide)
  obtain ⟨T31, h31, l31, X31, e31, N31, W31, st31⟩ := own_put X30 hx hZ hw hown e30 N29 (own_px P29 E30) 8 (own_w hw 78) (Or.inl (own_w hw 79)) (v := (.ref b30)) (hb hby d1_135) #[.val (.ref ob), .val (.int (1 : Int32)), .val (.int (3 : Int32)), .val (.int (0 : Int32)), .val (.int (4 : Int32))] [] rfl rfl (by decide)
  have P31 := own_pn hw P29 (own_sz P29) g30 E30 (vs := List.replicate 4 (own_aZ 8)) A30 rfl (by decide) W31
  obtain ⟨T32, h32, b32, c32, X32, e32, E32, g32, A32, st32⟩ := own_na X31 hx hZ e31 (own_w hw 21) (4 : Int32) 4 (hb hby d1_141) #[.val (.ref ob), .val (.int (1 : Int32)), .val (.int (3 : Int32)), .val (.int (0 : Int32)), .val (.int (4 : Int32))] [(.ref ob)] (by decide) (by decide) (by decide) (by decide) (by decide)
  obtain ⟨T33, h33, l33, X33, e33, N33, P33, st33⟩ := own_pp X32 hx hZ hw hown e32 N31 (own_px P31 E32) 34 (own_w hw 80) (Or.inl (own_w hw 81)) (v := (.ref b32)) (hb hby d1_143) #[.val (.ref ob), .val (.int (1 : Int32)), .val (.int (3 : Int32)), .val (.int (0 : Int32)), .val (.int (4 : Int32))] [] rfl rfl (by decide)
  obtain ⟨T34, h34, b34, c34, X34, e34, E34, g34, A34, st34⟩ := own_na X33 hx hZ e33 (own_w hw 37) (4 : Int32) 4 (hb hby d1_149) #[.val (.ref ob), .val (.int (1 : Int32)), .val (.int (3 : Int32)), .val (.int (0 : Int32)), .val (.int (4 : Int32))] [(.ref ob)] (by decide) (by decide) (by decide) (by decide) (by decide)
  obtain ⟨T35, h35, l35, X35, e35, N35, P35, st35⟩ := own_pp X34 hx hZ hw hown e34 N33 (own_px P33 E34) 35 (own_w hw 82) (Or.inl (own_w hw 83)) (v := (.ref b34)) (hb hby d1_151) #[.val (.ref ob), .val (.int (1 : Int32)), .val (.int (3 : Int32)), .val (.int (0 : Int32)), .val (.int (4 : Int32))] [] rfl rfl (by decide)
  obtain ⟨T36, h36, b36, c36, X36, e36, E36, g36, A36, st36⟩ := own_na X35 hx hZ e35 (own_w hw 75) (4 : Int32) 4 (hb hby d1_157) #[.val (.ref ob), .val (.int (1 : Int32)), .val (.int (3 : Int32)), .val (.int (0 : Int32)), .val (.int (4 : Int32))] [(.ref ob)] (by decide) (by decide) (by decide) (by decide) (by decide)
  obtain ⟨T37, h37, l37, X37, e37, N37, W37, st37⟩ := own_put X36 hx hZ hw hown e36 N35 (own_px P35 E36) 9 (own_w hw 84) (Or.inl (own_w hw 85)) (v := (.ref b36)) (hb hby d1_159) #[.val (.ref ob), .val (.int (1 : Int32)), .val (.int (3 : Int32)), .val (.int (0 : Int32)), .val (.int (4 : Int32))] [] rfl rfl (by decide)
  have P37 := own_pn hw P35 (own_sz P35) g36 E36 (vs := List.replicate 4 (own_aZ 9)) A36 rfl (by decide) W37
  obtain ⟨T38, h38, b38, c38, X38, e38, E38, g38, A38, st38⟩ := own_na X37 hx hZ e37 (own_w hw 21) (4 : Int32) 4 (hb hby d1_165) #[.val (.ref ob), .val (.int (1 : Int32)), .val (.int (3 : Int32)), .val (.int (0 : Int32)), .val (.int (4 : Int32))] [(.ref ob)] (by decide) (by decide) (by decide) (by decide) (by decide)
  obtain ⟨T39, h39, l39, X39, e39, N39, P39, st39⟩ := own_pp X38 hx hZ hw hown e38 N37 (own_px P37 E38) 36 (own_w hw 86) (Or.inl (own_w hw 87)) (v := (.ref b38)) (hb hby d1_167) #[.val (.ref ob), .val (.int (1 : Int32)), .val (.int (3 : Int32)), .val (.int (0 : Int32)), .val (.int (4 : Int32))] [] rfl rfl (by decide)
  obtain ⟨T40, h40, b40, c40, X40, e40, E40, g40, A40, st40⟩ := own_na X39 hx hZ e39 (own_w hw 37) (4 : Int32) 4 (hb hby d1_173) #[.val (.ref ob), .val (.int (1 : Int32)), .val (.int (3 : Int32)), .val (.int (0 : Int32)), .val (.int (4 : Int32))] [(.ref ob)] (by decide) (by decide) (by decide) (by decide) (by decide)
  obtain ⟨T41, h41, l41, X41, e41, N41, P41, st41⟩ := own_pp X40 hx hZ hw hown e40 N39 (own_px P39 E40) 37 (own_w hw 88) (Or.inl (own_w hw 89)) (v := (.ref b40)) (hb hby d1_175) #[.val (.ref ob), .val (.int (1 : Int32)), .val (.int (3 : Int32)), .val (.int (0 : Int32)), .val (.int (4 : Int32))] [] rfl rfl (by decide)
  obtain ⟨T42, h42, b42, c42, X42, e42, E42, g42, A42, st42⟩ := own_na X41 hx hZ e41 (own_w hw 75) (4 : Int32) 4 (hb hby d1_181) #[.val (.ref ob), .val (.int (1 : Int32)), .val (.int (3 : Int32)), .val (.int (0 : Int32)), .val (.int (4 : Int32))] [(.ref ob)] (by decide) (by decide) (by decide) (by decide) (by decide)
  obtain ⟨T43, h43, l43, X43, e43, N43, W43, st43⟩ := own_put X42 hx hZ hw hown e42 N41 (own_px P41 E42) 10 (own_w hw 90) (Or.inl (own_w hw 91)) (v := (.ref b42)) (hb hby d1_183) #[.val (.ref ob), .val (.int (1 : Int32)), .val (.int (3 : Int32)), .val (.int (0 : Int32)), .val (.int (4 : Int32))] [] rfl rfl (by decide)
  have P43 := own_pn hw P41 (own_sz P41) g42 E42 (vs := List.replicate 4 (own_aZ 10)) A42 rfl (by decide) W43
  obtain ⟨T44, h44, b44, c44, X44, e44, E44, g44, A44, st44⟩ := own_na X43 hx hZ e43 (own_w hw 37) (8 : Int32) 8 (hb hby d1_191) #[.val (.ref ob), .val (.int (1 : Int32)), .val (.int (3 : Int32)), .val (.int (0 : Int32)), .val (.int (4 : Int32))] [(.ref ob)] (by decide) (by decide) (by decide) (by decide) (by decide)
  obtain ⟨T45, h45, l45, X45, e45, N45, W45, st45⟩ := own_put X44 hx hZ hw hown e44 N43 (own_px P43 E44) 11 (own_w hw 92) (Or.inl (own_w hw 93)) (v := (.ref b44)) (hb hby d1_193) #[.val (.ref ob), .val (.int (1 : Int32)), .val (.int (3 : Int32)), .val (.int (0 : Int32)), .val (.int (4 : Int32))] [] rfl rfl (by decide)
  have P45 := own_pn hw P43 (own_sz P43) g44 E44 (vs := List.replicate 8 (own_aZ 11)) A44 rfl (by decide) W45
  obtain ⟨T46, h46, b46, c46, X46, e46, E46, g46, A46, st46⟩ := own_na X45 hx hZ e45 (own_w hw 21) (8 : Int32) 8 (hb hby d1_201) #[.val (.ref ob), .val (.int (1 : Int32)), .val (.int (3 : Int32)), .val (.int (0 : Int32)), .val (.int (4 : Int32))] [(.ref ob)] (by decide) (by decide) (by decide) (by decide) (by decide)
  obtain ⟨T47, h47, l47, X47, e47, N47, W47, st47⟩ := own_put X46 hx hZ hw hown e46 N45 (own_px P45 E46) 12 (own_w hw 94) (Or.inl (own_w hw 95)) (v := (.ref b46)) (hb hby d1_203) #[.val (.ref ob), .val (.int (1 : Int32)), .val (.int (3 : Int32)), .val (.int (0 : Int32)), .val (.int (4 : Int32))] [] rfl rfl (by decide)
  have P47 := own_pn hw P45 (own_sz P45) g46 E46 (vs := List.replicate 8 (own_aZ 12)) A46 rfl (by decide) W47
  obtain ⟨T48, h48, l48, X48, e48, N48, P48, st48⟩ := own_pp X47 hx hZ hw hown e47 N47 P47 13 (own_w hw 96) (Or.inl (own_w hw 97)) (v := .null) (hb hby d1_221) #[.val (.ref ob), .val (.int (1 : Int32)), .val (.int (3 : Int32)), .val (.int (0 : Int32)), .val (.int (4 : Int32))] [] rfl rfl (by decide)
  obtain ⟨T49, X49, e49, st49⟩ := own_gf X48 hx hZ hown e48 P48 20 (own_w hw 56) (v := (.int (2 : Int32))) (own_fn (own_fn (own_fn (own_fn (own_fn (own_fn (own_fn (own_fn (own_fn (own_fn (own_fn (own_fn (own_fn (own_fn (own_fn (own_fn (own_fn (own_fn (own_fn (own_up_eq _ _ _)))))))))))))))))))) (hb hby d1_226) #[.val (.ref ob), .val (.int (1 : Int32)), .val (.int (3 : Int32)), .val (.int (0 : Int32)), .val (.int (4 : Int32))] [(.ref ob)]
  obtain ⟨T50, h50, b50, c50, X50, e50, E50, g50, A50, st50⟩ := own_na X49 hx hZ e49 (own_w hw 21) (2 : Int32) 2 (hb hby d1_229) #[.val (.ref ob), .val (.int (1 : Int32)), .val (.int (3 : Int32)), .val (.int (0 : Int32)), .val (.int (4 : Int32))] [(.ref ob)] (by decide) (by decide) (by decide) (by decide) (by decide)
  obtain ⟨T51, h51, l51, X51, e51, N51, P51, st51⟩ := own_pp X50 hx hZ hw hown e50 N48 (own_px P48 E50) 38 (own_w hw 98) (Or.inr ⟨(own_w hw 99), rfl, hnm⟩) (v := (.ref b50)) (hb hby d1_231) #[.val (.ref ob), .val (.int (1 : Int32)), .val (.int (3 : Int32)), .val (.int (0 : Int32)), .val (.int (4 : Int32))] [] rfl rfl (by decide)
  obtain ⟨fs, hr, hrun, hended, hW, hsame⟩ := X51.leave (v := none) (fun _ => rfl)
  refine ⟨_, _, castTop ef ?_, hrun, hended, _, _, rfl, ?_, ⟨_, rfl⟩, hW, hsame.mono (by decide) (by decide)⟩
  · refine s_aloadN X0 hx (hb hby d1_0) rfl rfl ?_
    refine s_iloadN X0 hx (hb hby d1_1) rfl ?_
    refine s_iconst X0 hx (1 : Int32) (hb hby d1_2) rfl ?_
    refine s_iadd X0 hx (4 : Int32) (hb hby d1_3) (by decide) ?_
    refine st1.trans ?_
    refine s_aloadN X1 hx (hb hby d1_7) rfl rfl ?_
    refine s_iconst X1 hx (0 : Int32) (hb hby d1_8) rfl ?_
    refine st2 _ ?_
    refine s_aloadN X2 hx (hb hby d1_12) rfl rfl ?_
    refine st3 _ ?_
    refine s_dup X3 hx (hb hby d1_16) rfl ?_
    refine st4.trans ?_
    refine st5 _ ?_
    refine s_aloadN X5 hx (hb hby d1_23) rfl rfl ?_
    refine s_bipush X5 hx (16 : Int32) (hb hby d1_24) rfl ?_
    refine st6 _ ?_
    refine st7 _ ?_
    refine s_aloadN X7 hx (hb hby d1_31) rfl rfl ?_
    refine s_bipush X7 hx (16 : Int32) (hb hby d1_32) rfl ?_
    refine st8 _ ?_
    refine st9 _ ?_
    refine s_aloadN X9 hx (hb hby d1_39) rfl rfl ?_
    refine s_iloadN X9 hx (hb hby d1_40) rfl ?_
    refine st10 _ ?_
    refine s_aloadN X10 hx (hb hby d1_44) rfl rfl ?_
    refine s_iconst X10 hx (1 : Int32) (hb hby d1_45) rfl ?_
    refine s_iloadN X10 hx (hb hby d1_46) rfl ?_
    refine s_ishl X10 hx (2 : Int32) (hb hby d1_47) (by decide) ?_
    refine st11 _ ?_
    refine s_iloadN X11 hx (hb hby d1_51) rfl ?_
    refine s_iconst X11 hx (1 : Int32) (hb hby d1_52) rfl ?_
    refine s_iadd X11 hx (4 : Int32) (hb hby d1_53) (by decide) ?_
    refine s_istore X11 hx #[.val (.ref ob), .val (.int (1 : Int32)), .val (.int (3 : Int32)), .val (.int (0 : Int32)), .val (.int (4 : Int32))] (hb hby d1_54) rfl ?_
    refine s_aloadN X11 hx (hb hby d1_56) rfl rfl ?_
    refine s_iload X11 hx (hb hby d1_57) rfl ?_
    refine st12 _ ?_
    refine st13 _ ?_
    refine s_aloadN X13 hx (hb hby d1_64) rfl rfl ?_
    refine s_iload X13 hx (hb hby d1_65) rfl ?_
    refine st14 _ ?_
    refine st15 _ ?_
    refine s_aloadN X15 hx (hb hby d1_72) rfl rfl ?_
    refine s_iload X15 hx (hb hby d1_73) rfl ?_
    refine st16 _ ?_
    refine st17 _ ?_
    refine s_aloadN X17 hx (hb hby d1_80) rfl rfl ?_
    refine s_iload X17 hx (hb hby d1_81) rfl ?_
    refine st18 _ ?_
    refine st19 _ ?_
    refine s_aloadN X19 hx (hb hby d1_88) rfl rfl ?_
    refine s_iload X19 hx (hb hby d1_89) rfl ?_
    refine st20 _ ?_
    refine st21 _ ?_
    refine s_aloadN X21 hx (hb hby d1_96) rfl rfl ?_
    refine s_iload X21 hx (hb hby d1_97) rfl ?_
    refine st22 _ ?_
    refine st23 _ ?_
    refine s_aloadN X23 hx (hb hby d1_104) rfl rfl ?_
    refine s_iload X23 hx (hb hby d1_105) rfl ?_
    refine st24 _ ?_
    refine st25 _ ?_
    refine s_aloadN X25 hx (hb hby d1_113) rfl rfl ?_
    refine s_iload X25 hx (hb hby d1_114) rfl ?_
    refine st26 _ ?_
    refine st27 _ ?_
    refine s_aloadN X27 hx (hb hby d1_122) rfl rfl ?_
    refine s_iload X27 hx (hb hby d1_123) rfl ?_
    refine st28 _ ?_
    refine st29 _ ?_
    refine s_aloadN X29 hx (hb hby d1_130) rfl rfl ?_
    refine s_iload X29 hx (hb hby d1_131) rfl ?_
    refine st30 _ ?_
    refine st31 _ ?_
    refine s_aloadN X31 hx (hb hby d1_138) rfl rfl ?_
    refine s_iload X31 hx (hb hby d1_139) rfl ?_
    refine st32 _ ?_
    refine st33 _ ?_
    refine s_aloadN X33 hx (hb hby d1_146) rfl rfl ?_
    refine s_iload X33 hx (hb hby d1_147) rfl ?_
    refine st34 _ ?_
    refine st35 _ ?_
    refine s_aloadN X35 hx (hb hby d1_154) rfl rfl ?_
    refine s_iload X35 hx (hb hby d1_155) rfl ?_
    refine st36 _ ?_
    refine st37 _ ?_
    refine s_aloadN X37 hx (hb hby d1_162) rfl rfl ?_
    refine s_iload X37 hx (hb hby d1_163) rfl ?_
    refine st38 _ ?_
    refine st39 _ ?_
    refine s_aloadN X39 hx (hb hby d1_170) rfl rfl ?_
    refine s_iload X39 hx (hb hby d1_171) rfl ?_
    refine st40 _ ?_
    refine st41 _ ?_
    refine s_aloadN X41 hx (hb hby d1_178) rfl rfl ?_
    refine s_iload X41 hx (hb hby d1_179) rfl ?_
    refine st42 _ ?_
    refine st43 _ ?_
    refine s_aloadN X43 hx (hb hby d1_186) rfl rfl ?_
    refine s_iload X43 hx (hb hby d1_187) rfl ?_
    refine s_iloadN X43 hx (hb hby d1_189) rfl ?_
    refine s_ishl X43 hx (8 : Int32) (hb hby d1_190) (by decide) ?_
    refine st44 _ ?_
    refine st45 _ ?_
    refine s_aloadN X45 hx (hb hby d1_196) rfl rfl ?_
    refine s_iload X45 hx (hb hby d1_197) rfl ?_
    refine s_iloadN X45 hx (hb hby d1_199) rfl ?_
    refine s_ishl X45 hx (8 : Int32) (hb hby d1_200) (by decide) ?_
    refine st46 _ ?_
    refine st47 _ ?_
    refine s_aloadN X47 hx (hb hby d1_206) rfl rfl ?_
    refine s_iloadN X47 hx (hb hby d1_207) rfl ?_
    refine s_ifY X47 hx 220 (hb hby d1_208) (by decide) (by decide) (by decide) ?_
    refine s_aconst X47 hx (hb hby d1_220) ?_
    refine st48 _ ?_
    refine s_aloadN X48 hx (hb hby d1_224) rfl rfl ?_
    refine s_aloadN X48 hx (hb hby d1_225) rfl rfl ?_
    refine st49 _ ?_
    refine st50 _ ?_
    refine st51 _ ?_
    exact X51.returnOut hx Bd.returns (hb hby d1_234) hr
  · show ((_ : Option Value) = none ∧ Fr n0 _ ∧ ∃ (A' : Nat → Addr) (F' : Nat → Value), own_PS Z T51.heap n0 ob 13 A' F' own_V0 ∧ own_Ini F' ∧ F' 13 = .null)
    rw [e51]
    exact ⟨rfl, N51, _, _, (own_pcg P51 fun k hk => by
    match k, hk with
    | 0, _ => rfl
    | 1, _ => rfl
    | 2, _ => rfl
    | 3, _ => rfl
    | 4, _ => rfl
    | 5, _ => rfl
    | 6, _ => rfl
    | 7, _ => rfl
    | 8, _ => rfl
    | 9, _ => rfl
    | 10, _ => rfl
    | 11, _ => rfl
    | 12, _ => rfl
    | z + 13, h => exact absurd h (by omega)), ⟨(own_fn (own_fn (own_fn (own_fn (own_fn (own_fn (own_fn (own_fn (own_fn (own_fn (own_fn (own_fn (own_fn (own_fn (own_fn (own_fn (own_fn (own_fn (own_fn (own_fn (own_fn (own_fn (own_fn (own_fn (own_fn (own_fn (own_fn (own_fn (own_fn (own_fn (own_up_eq _ _ _))))))))))))))))))))))))))))))), (own_fn (own_fn (own_fn (own_fn (own_fn (own_fn (own_fn (own_fn (own_fn (own_fn (own_fn (own_fn (own_fn (own_fn (own_fn (own_fn (own_fn (own_fn (own_fn (own_fn (own_fn (own_fn (own_fn (own_fn (own_fn (own_fn (own_fn (own_fn (own_fn (own_fn (own_fn rfl))))))))))))))))))))))))))))))), (own_fn (own_fn (own_fn (own_fn (own_fn (own_fn (own_fn (own_fn (own_fn (own_fn (own_fn (own_fn (own_fn (own_fn (own_fn (own_fn (own_fn (own_fn (own_fn (own_fn (own_fn (own_fn (own_fn (own_fn (own_fn (own_fn (own_fn (own_fn (own_fn (own_fn (own_fn rfl))))))))))))))))))))))))))))))), (own_fn (own_fn (own_fn (own_fn (own_fn (own_fn (own_fn (own_fn (own_fn (own_fn (own_fn (own_fn (own_fn (own_fn (own_fn (own_fn (own_fn (own_fn (own_fn (own_fn (own_fn (own_fn (own_fn (own_fn (own_fn (own_fn (own_fn (own_fn (own_fn (own_up_eq _ _ _)))))))))))))))))))))))))))))), (own_fn (own_fn (own_fn (own_fn (own_fn (own_fn (own_fn (own_fn (own_fn (own_fn (own_fn (own_fn (own_fn (own_fn (own_fn (own_fn (own_fn (own_fn (own_fn (own_fn (own_fn (own_fn (own_fn (own_fn (own_fn (own_fn (own_fn (own_fn (own_up_eq _ _ _))))))))))))))))))))))))))))), (own_fn (own_fn (own_fn (own_fn (own_fn (own_fn (own_fn (own_fn (own_fn (own_fn (own_fn (own_fn (own_fn (own_fn (own_fn (own_fn (own_fn (own_fn (own_fn (own_fn (own_fn (own_up_eq _ _ _)))))))))))))))))))))), (own_fn (own_fn (own_fn (own_fn (own_fn (own_fn (own_fn (own_fn (own_fn (own_fn (own_fn (own_fn (own_fn (own_fn (own_fn (own_fn (own_fn (own_fn (own_fn (own_fn (own_up_eq _ _ _))))))))))))))))))))), (own_fn (own_fn (own_fn (own_fn (own_fn (own_fn (own_fn (own_fn (own_fn (own_fn (own_fn (own_fn (own_fn (own_fn (own_fn (own_fn (own_fn (own_fn (own_fn (own_fn (own_fn (own_fn (own_fn (own_fn (own_fn (own_up_eq _ _ _)))))))))))))))))))))))))), (own_fn (own_fn (own_fn (own_fn (own_fn (own_fn (own_fn (own_fn (own_fn (own_fn (own_fn (own_fn (own_fn (own_fn (own_fn (own_fn (own_fn (own_fn (own_fn (own_fn (own_fn (own_fn (own_fn (own_fn (own_fn (own_fn (own_fn (own_fn (own_fn (own_fn (own_fn rfl))))))))))))))))))))))))))))))), (own_fn (own_fn (own_fn (own_fn (own_fn (own_fn (own_fn (own_fn (own_fn (own_fn (own_fn (own_fn (own_fn (own_fn (own_fn (own_fn (own_fn (own_fn (own_fn (own_fn (own_fn (own_fn (own_fn (own_fn (own_fn (own_fn (own_fn (own_fn (own_fn (own_fn (own_fn rfl))))))))))))))))))))))))))))))), (own_fn (own_fn (own_fn (own_fn (own_fn (own_fn (own_fn (own_fn (own_fn (own_fn (own_fn (own_fn (own_fn (own_fn (own_fn (own_fn (own_fn (own_fn (own_fn (own_fn (own_fn (own_fn (own_fn (own_fn (own_fn (own_fn (own_fn (own_fn (own_fn (own_fn (own_fn rfl))))))))))))))))))))))))))))))), (own_fn (own_fn (own_fn (own_fn (own_fn (own_fn (own_fn (own_fn (own_fn (own_fn (own_fn (own_fn (own_fn (own_fn (own_fn (own_fn (own_fn (own_fn (own_fn (own_fn (own_fn (own_fn (own_fn (own_fn (own_fn (own_fn (own_fn (own_fn (own_fn (own_fn (own_fn rfl))))))))))))))))))))))))))))))), (own_fn (own_fn (own_fn (own_fn (own_fn (own_fn (own_fn (own_fn (own_fn (own_fn (own_fn (own_fn (own_fn (own_fn (own_fn (own_fn (own_fn (own_fn (own_fn (own_fn (own_fn (own_fn (own_fn (own_fn (own_fn (own_fn (own_fn (own_fn (own_fn (own_fn (own_fn rfl))))))))))))))))))))))))))))))), (own_fn (own_fn (own_fn (own_fn (own_fn (own_fn (own_fn (own_fn (own_fn (own_fn (own_fn (own_fn (own_fn (own_fn (own_fn (own_fn (own_fn (own_fn (own_fn (own_fn (own_fn (own_fn (own_fn (own_fn (own_fn (own_fn (own_fn (own_fn (own_fn (own_fn (own_fn rfl)))))))))))))))))))))))))))))))⟩, (own_fn (own_up_eq _ _ _))⟩
set_option maxRecDepth 65536 in
set_option maxHeartbeats 40000000 in
theorem rm0_m (l : Launch) (Z : State) (a0 : Array Value) (hw : ∀ d ∈ tables_1, d.before a0 Z = true) (ws : List Jvm.Cond) (va : Int32) (vk : Int64) (vb : Int32) (vkb : Int64) (vc : Int32) (vkc : Int64) (h0 : Heap) (n0 : Nat) (Z0 : n0 ≤ h0.size) (hm : ¬ (va &&& (1 : Int32)) = (0 : Int32)) :
    MetFree l x (head1 (Jvm.Cond.code x code maxLocals ret :: ws) room_1) (fun a U => a = #[(.int va), (.long vk), (.int vb), (.long vkb), (.int vc), (.long vkc)] ∧ Z.Warmed39 U.vm ∧ U.heap = h0) (fun _ _ _ _ _ => True) (fun _ U o U' => ∃ v L, o = .returned v ∧ own_Q (fun v h L => (v = some (.int 1) ∧ Fr n0 L)) v U'.heap L ∧ FrameEnd U o U' L room_1.cells room_1.slots) := by
  refine MetFree.of_bodySF (plainFor_of_name own_pn3) hisR ?_
  intro p e s m args below meth c s₁ Bd hml0 hP hK
  obtain ⟨rfl, hZ, hh⟩ := hP
  have hx := Bd.exec
  have hby := Bd.bytes
  have hml : c.maxLocals = 18 := hml0
  have hown : s.vm.findClass "com/example/jobwright/jobwright/policies/ProfileStepsSameAsBeforePinLaw" = some m.cls := findClass_of_methodNamed Bd.named
  have X0 : Stand p l e room_1 s m #[(.int va), (.long vk), (.int vb), (.long vkb), (.int vc), (.long vkc)] below meth c s₁ [] 0 0 := Stand.of_body Bd
  have e0 : s₁.heap = h0 := by rw [← hh, Bd.state]; rfl
  have N0 := Fr.nil n0
  have ef : entryFrame m #[(.int va), (.long vk), (.int vb), (.long vkb), (.int vc), (.long vkc)] maxLocals = mkF m 0 #[.val (.int va), .val (.long vk), .second, .val (.int vb), .val (.long vkb), .second, .val (.int vc), .val (.long vkc), .second, .unset, .unset, .unset, .unset, .unset, .unset, .unset, .unset, .unset] [] := by first | (simp [entryFrame, mkF, argsToLocals, Value.category, maxLocals]; done) | rfl
  obtain ⟨T1, h1, X1, e1, E1, A1, D1, -, st1⟩ := newO X0 hx hZ hown (own_w hw 0) (own_w hw 1) (own_w hw 2) e0 (g := (mkF m 13 #[.val (.int va), .val (.long vk), .second, .val (.int vb), .val (.long vkb), .second, .val (.int vc), .val (.long vkc), .second, .val (.int (1 : Int32)), .unset, .unset, .unset, .unset, .unset, .unset, .unset, .unset] [])) rfl (hb hby at_13) (by decide) (by decide)
  obtain ⟨ob, gob⟩ : ∃ z, z = h0.size := ⟨_, rfl⟩
  rw [← gob] at A1 D1 st1
  have P1 : own_PS Z h1 n0 ob 0 (fun _ => 0) own_F0 (fun _ => []) := ⟨A1, Nat.le_trans Z0 (Nat.le_of_eq gob.symm), fun k hk => D1 (own_laid hw k hk) (own_fdp ⟨k, hk⟩), fun k hk => absurd hk (Nat.not_lt_zero k), fun k hk => absurd hk (Nat.not_lt_zero k), fun k hk => absurd hk (Nat.not_lt_zero k), fun i j hi => absurd hi (Nat.not_lt_zero i)⟩
  obtain ⟨_, _, ⟨T2, L2, k2, n2⟩, -, X2, ⟨Lc2, hQ2, l2, y2, z2⟩, st2⟩ := X1.specialBack hx (y := own_y2) rfl hown (mvT hZ (own_w hw 3)) (mvT hZ (own_w hw 4)) (mvT hZ (own_w hw 5)) (by decide) (backOf (W := 1) (rm1_m l Z a0 hw [] ob h1 n0 P1) hZ (own_w hw 5) (own_w hw 2) (by decide) (by decide)) (g := (mkF m 21 #[.val (.int va), .val (.long vk), .second, .val (.int vb), .val (.long vkb), .second, .val (.int vc), .val (.long vkc), .second, .val (.int (1 : Int32)), .unset, .unset, .unset, .unset, .unset, .unset, .unset, .unset] [(.int (1 : Int32)), (.int (3 : Int32)), (.int (1 : Int32)), (.ref ob), (.ref ob)])) rfl (by rw [hml]; rfl) (Steps.refl _) (a := ob) (argsL := [(.int (1 : Int32)), (.int (3 : Int32)), (.int (1 : Int32))]) (rest := [(.ref ob)]) (lenOf own_pd2 rfl) rfl (by show 2 * 0 + _ ≤ _; exact Nat.le_of_eq rfl) (hb hby at_21) (fun _ _ => ⟨rfl, e1, (by decide : 1 + 31 ≤ _), (by decide : 48 + 179 ≤ _)⟩)
  dsimp only [Pt.U, Pt.locs, Pt.cells, Pt.slots] at X2 l2 y2 z2 st2 hQ2
  subst l2 y2 z2
  obtain ⟨rfl, Nq2, A, F, PB, ⟨hF14, hF15, hF16, hF17, hF18, hF19, hF20, hF21, hF22, hF23, hF24, hF25, hF26, hF27⟩⟩ := hQ2
  have N2 := Fr.app N0 Nq2
  obtain ⟨cq3, kq3, q3a, q3b, q3c⟩ := isOf hZ rfl PB.1
  obtain ⟨_, _, ⟨T3, L3, k3, n3⟩, -, X3, ⟨Lc3, hQ3, l3, y3, z3⟩, st3⟩ := X2.virtualBack hx (y := own_y17) (z := own_y17) hown (mvT hZ (own_w hw 100)) (mvT hZ (own_w hw 101)) (own_nf (args := #[]) (z := own_y17) (mvT hZ (own_w hw 103)) rfl) (mvT hZ (own_w hw 103)) (mvT hZ (own_w hw 102)) (by decide) (backOf (W := 0) (rm5_1 l Z a0 hw [] ob va vk T2.heap n0 PB (by decide) (by decide) rfl hF18 hF19 hF22 (own_v0 5 0) (own_v0 6 0) ) hZ (own_w hw 104) (own_w hw 2) (by decide) (by decide)) q3a q3c (g := (mkF m 31 #[.val (.int va), .val (.long vk), .second, .val (.int vb), .val (.long vkb), .second, .val (.int vc), .val (.long vkc), .second, .val (.int (1 : Int32)), .val (.ref ob), .unset, .unset, .unset, .unset, .unset, .unset, .unset] [(.long vk), (.int va), (.long (0 : Int64)), (.ref ob)])) rfl (by rw [hml]; rfl) (Steps.refl _) (argsL := [(.long (0 : Int64)), (.int va), (.long vk)]) (rest := []) (lenOf own_pd9 rfl) rfl (by show 2 * 0 + _ ≤ _; exact Nat.le_of_eq rfl) (hb hby at_31) (fun _ _ => ⟨rfl, rfl, (by decide : 32 + 0 ≤ _), (by decide : 227 + 0 ≤ _)⟩)
  dsimp only [Pt.U, Pt.locs, Pt.cells, Pt.slots] at X3 l3 y3 z3 st3 hQ3
  subst l3 y3 z3
  obtain ⟨rfl, Nq3, P3⟩ := hQ3
  have N3 := Fr.app N2 Nq3
  obtain ⟨cq4, kq4, q4a, q4b, q4c⟩ := isOf hZ rfl P3.1
  obtain ⟨_, _, ⟨T4, L4, k4, n4⟩, -, X4, ⟨Lc4, hQ4, l4, y4, z4⟩, st4⟩ := X3.virtualBack hx (y := own_y25) (z := own_y25) hown (mvT hZ (own_w hw 189)) (mvT hZ (own_w hw 190)) (own_nf (args := #[]) (z := own_y17) (mvT hZ (own_w hw 103)) rfl) (mvT hZ (own_w hw 192)) (mvT hZ (own_w hw 191)) (by decide) (backOf (W := 0) (rm20_1 l Z a0 hw [] ob  T3.heap n0 P3 (by decide) (by decide) (own_fn (own_fn (own_fn (own_fn (own_fn (own_fn (own_up_eq _ _ _))))))) (own_fn (own_fn (own_fn (own_fn (own_fn (own_fn (own_fn (own_fn (own_fn (own_fn (own_fn (own_fn (own_fn (own_fn (own_fn (own_fn hF19))))))))))))))))  ) hZ (own_w hw 193) (own_w hw 2) (by decide) (by decide)) q4a q4c (g := (mkF m 36 #[.val (.int va), .val (.long vk), .second, .val (.int vb), .val (.long vkb), .second, .val (.int vc), .val (.long vkc), .second, .val (.int (1 : Int32)), .val (.ref ob), .unset, .unset, .unset, .unset, .unset, .unset, .unset] [(.ref ob)])) rfl (by rw [hml]; rfl) (Steps.refl _) (argsL := []) (rest := []) (lenOf own_pd4 rfl) rfl (by show 2 * 0 + _ ≤ _; exact Nat.le_of_eq rfl) (hb hby at_36) (fun _ _ => ⟨rfl, rfl, (by decide : 32 + 0 ≤ _), (by decide : 227 + 0 ≤ _)⟩)
  dsimp only [Pt.U, Pt.locs, Pt.cells, Pt.slots] at X4 l4 y4 z4 st4 hQ4
  subst l4 y4 z4
  obtain ⟨rfl, Nq4, eh4⟩ := hQ4
  have N4 := Fr.app N3 Nq4
  obtain ⟨cq5, kq5, q5a, q5b, q5c⟩ := isOf hZ eh4 P3.1
  obtain ⟨_, _, ⟨T5, L5, k5, n5⟩, -, X5, ⟨Lc5, hQ5, l5, y5, z5⟩, st5⟩ := X4.virtualBack hx (y := own_y27) (z := own_y27) hown (mvT hZ (own_w hw 195)) (mvT hZ (own_w hw 196)) (own_nf (args := #[]) (z := own_y17) (mvT hZ (own_w hw 103)) rfl) (mvT hZ (own_w hw 198)) (mvT hZ (own_w hw 197)) (by decide) (backOf (W := 0) (rm21_1 l Z a0 hw [] ob va vk T3.heap n0 P3 (by decide) (by decide) rfl (own_fn (own_fn (own_fn (own_fn (own_fn (own_fn (own_fn (own_fn (own_fn (own_fn (own_fn (own_fn (own_fn (own_fn (own_fn (own_fn hF19)))))))))))))))) (own_fn (own_fn (own_fn (own_fn (own_fn (own_fn (own_fn (own_fn (own_fn (own_fn (own_fn (own_fn (own_fn (own_fn (own_fn (own_fn hF20)))))))))))))))) (own_fn (own_fn (own_fn (own_fn (own_fn (own_fn (own_fn (own_fn (own_fn (own_fn (own_fn (own_fn (own_fn (own_fn (own_fn (own_fn hF22)))))))))))))))) (own_vn (own_vn (own_vn (own_vn (own_vn (own_vn (own_vn (own_vn (own_vn (own_vn (own_vn (own_vn (own_ve (own_vl (own_vl (own_vl (own_len PB 1 (by decide) 1 (by decide)))))))))))))))))) (own_vn (own_vn (own_vn (own_vn (own_vn (own_vn (own_vn (own_vn (own_vn (own_vn (own_ve (own_vl (own_vl (own_vl (own_vl (own_vl (own_len PB 12 (by decide) 2 (by decide)))))))))))))))))) (own_vn (own_vn (own_vn (own_vn (own_vn (own_vn (own_vn (own_vn (own_vn (own_ve (own_vl (own_vl (own_vl (own_vl (own_vl (own_vl (own_len PB 13 (by decide) 2 (by decide)))))))))))))))))) (own_vn (own_vn (own_vn (own_vn (own_vn (own_vn (own_ve (own_vl (own_vl (own_vl (own_vl (own_vl (own_vl (own_vl (own_vl (own_vl (own_len PB 7 (by decide) 1 (by decide)))))))))))))))))) (own_vn (own_vn (own_vn (own_vn (own_vn (own_ve (own_vl (own_vl (own_vl (own_vl (own_vl (own_vl (own_vl (own_vl (own_vl (own_vl (own_len PB 9 (by decide) 1 (by decide)))))))))))))))))) ) hZ (own_w hw 199) (own_w hw 2) (by decide) (by decide)) q5a q5c (g := (mkF m 48 #[.val (.int va), .val (.long vk), .second, .val (.int vb), .val (.long vkb), .second, .val (.int vc), .val (.long vkc), .second, .val (.int (1 : Int32)), .val (.ref ob), .val (.int (2 : Int32)), .unset, .unset, .unset, .unset, .unset, .unset] [(.long (10 : Int64)), (.int (2 : Int32)), (.ref ob)])) rfl (by rw [hml]; rfl) (Steps.refl _) (argsL := [(.int (2 : Int32)), (.long (10 : Int64))]) (rest := []) (lenOf own_pd10 rfl) rfl (by show 2 * 0 + _ ≤ _; exact Nat.le_of_eq rfl) (hb hby at_48) (fun _ _ => ⟨rfl, eh4, (by decide : 32 + 0 ≤ _), (by decide : 227 + 0 ≤ _)⟩)
  dsimp only [Pt.U, Pt.locs, Pt.cells, Pt.slots] at X5 l5 y5 z5 st5 hQ5
  subst l5 y5 z5
  obtain ⟨rfl, Nq5, P5⟩ := hQ5
  have N5 := Fr.app N4 Nq5
  obtain ⟨cq6, kq6, q6a, q6b, q6c⟩ := isOf hZ rfl P5.1
  obtain ⟨_, _, ⟨T6, L6, k6, n6⟩, -, X6, ⟨Lc6, hQ6, l6, y6, z6⟩, st6⟩ := X5.virtualBack hx (y := own_y27) (z := own_y27) hown (mvT hZ (own_w hw 195)) (mvT hZ (own_w hw 196)) (own_nf (args := #[]) (z := own_y17) (mvT hZ (own_w hw 103)) rfl) (mvT hZ (own_w hw 198)) (mvT hZ (own_w hw 197)) (by decide) (backOf (W := 0) (rm21_2 l Z a0 hw [] ob va vk T5.heap n0 P5 (by decide) (by decide) rfl (own_fn (own_fn (own_fn (own_fn (own_fn (own_fn (own_fn (own_fn (own_fn (own_fn (own_fn (own_fn (own_fn (own_fn (own_fn (own_fn hF19)))))))))))))))) (own_fn (own_fn (own_fn (own_fn (own_fn (own_fn (own_fn (own_fn (own_fn (own_fn (own_fn (own_fn (own_fn (own_fn (own_fn (own_fn hF20)))))))))))))))) (own_fn (own_fn (own_fn (own_fn (own_fn (own_up_eq _ _ _)))))) (own_fn (own_fn (own_fn (own_fn (own_fn (own_fn (own_fn (own_fn (own_fn (own_fn (own_fn (own_fn (own_fn (own_up_eq _ _ _)))))))))))))) (own_fn (own_fn (own_fn (own_fn (own_fn (own_fn (own_fn (own_fn (own_fn (own_fn (own_up_eq _ _ _))))))))))) (own_fn (own_fn (own_fn (own_fn (own_fn (own_fn (own_fn (own_up_eq _ _ _)))))))) (own_fn (own_fn (own_fn (own_fn (own_fn (own_fn (own_fn (own_fn (own_fn (own_fn (own_fn (own_fn (own_fn (own_fn (own_fn (own_fn hF22)))))))))))))))) (own_fn (own_up_eq _ _ _)) (own_up_eq _ _ _) (own_vn (own_vn (own_vn (own_vn (own_vn (own_vn (own_vn (own_vn (own_vn (own_vn (own_vn (own_ve (own_vl (own_vl (own_vl (own_vl (own_vl (own_vl (own_vl (own_vl (own_len PB 3 (by decide) 1 (by decide)))))))))))))))))))))) (own_vn (own_vn (own_vn (own_vn (own_vn (own_vn (own_vn (own_vn (own_vi (own_vn (own_vn (own_vn (own_vn (own_vn (own_vn (own_vn (own_vn (own_vn (own_vn (own_vn (own_v0 5 0))))))))))))))))))))) (own_vn (own_vn (own_vn (own_vn (own_vn (own_vn (own_vn (own_vi (own_vn (own_vn (own_vn (own_vn (own_vn (own_vn (own_vn (own_vn (own_vn (own_vn (own_vn (own_vn (own_v0 6 0))))))))))))))))))))) (own_vn (own_vn (own_vn (own_vi (own_vn (own_vn (own_vn (own_vn (own_vn (own_vn (own_vn (own_vn (own_vn (own_vn (own_vn (own_ve (own_vl (own_vl (own_vl (own_vl (own_len PB 11 (by decide) 2 (by decide)))))))))))))))))))))) (own_vn (own_vn (own_vn (own_vn (own_vn (own_vn (own_vn (own_vn (own_vn (own_vn (own_vn (own_vn (own_vn (own_vn (own_vn (own_vn (own_vn (own_vi (own_ve (own_vl (own_len PB 0 (by decide) 5 (by decide)))))))))))))))))))))) (own_vn (own_vn (own_vn (own_vn (own_vn (own_vn (own_vn (own_vn (own_vn (own_vn (own_vn (own_vn (own_vn (own_vn (own_vn (own_vn (own_vn (own_ve (own_vl (own_vl (own_len PB 0 (by decide) 6 (by decide)))))))))))))))))))))) (own_vn (own_vn (own_vn (own_vn (own_vn (own_vn (own_vn (own_vn (own_vn (own_vn (own_vn (own_vn (own_vn (own_vn (own_vn (own_vn (own_vn (own_vi (own_vi (own_ve (own_len PB 0 (by decide) 4 (by decide)))))))))))))))))))))) (own_ve (own_vl (own_vl (own_vl (own_vl (own_vl (own_vl (own_vl (own_vl (own_vl (own_vl (own_vl (own_vl (own_vl (own_vl (own_vl (own_vl (own_vl (own_vl (own_vl (own_len PB 1 (by decide) 1 (by decide)))))))))))))))))))))) (own_vn (own_vn (own_ve (own_vl (own_vl (own_vl (own_vl (own_vl (own_vl (own_vl (own_vl (own_vl (own_vl (own_vl (own_vl (own_vl (own_vl (own_vl (own_vl (own_vl (own_len PB 12 (by decide) 3 (by decide)))))))))))))))))))))) (own_vn (own_ve (own_vl (own_vl (own_vl (own_vl (own_vl (own_vl (own_vl (own_vl (own_vl (own_vl (own_vl (own_vl (own_vl (own_vl (own_vl (own_vl (own_vl (own_vl (own_len PB 13 (by decide) 3 (by decide)))))))))))))))))))))) ) hZ (own_w hw 199) (own_w hw 2) (by decide) (by decide)) q6a q6c (g := (mkF m 60 #[.val (.int va), .val (.long vk), .second, .val (.int vb), .val (.long vkb), .second, .val (.int vc), .val (.long vkc), .second, .val (.int (1 : Int32)), .val (.ref ob), .val (.int (2 : Int32)), .val (.int (3 : Int32)), .unset, .unset, .unset, .unset, .unset] [(.long (20 : Int64)), (.int (3 : Int32)), (.ref ob)])) rfl (by rw [hml]; rfl) (Steps.refl _) (argsL := [(.int (3 : Int32)), (.long (20 : Int64))]) (rest := []) (lenOf own_pd10 rfl) rfl (by show 2 * 0 + _ ≤ _; exact Nat.le_of_eq rfl) (hb hby at_60) (fun _ _ => ⟨rfl, rfl, (by decide : 32 + 0 ≤ _), (by decide : 227 + 0 ≤ _)⟩)
  dsimp only [Pt.U, Pt.locs, Pt.cells, Pt.slots] at X6 l6 y6 z6 st6 hQ6
  subst l6 y6 z6
  obtain ⟨rfl, Nq6, P6⟩ := hQ6
  have N6 := Fr.app N5 Nq6
  obtain ⟨cq7, kq7, q7a, q7b, q7c⟩ := isOf hZ rfl P6.1
  obtain ⟨_, _, ⟨T7, L7, k7, n7⟩, -, X7, ⟨Lc7, hQ7, l7, y7, z7⟩, st7⟩ := X6.virtualBack hx (y := own_y39) (z := own_y39) hown (mvT hZ (own_w hw 233)) (mvT hZ (own_w hw 234)) (own_nf (args := #[]) (z := own_y17) (mvT hZ (own_w hw 103)) rfl) (mvT hZ (own_w hw 236)) (mvT hZ (own_w hw 235)) (by decide) (backOf (W := 0) (rm28_1 l Z a0 hw [] ob va vk vb vkb T6.heap n0 P6 (by decide) (by decide) rfl (own_fn (own_fn (own_fn (own_fn (own_fn (own_fn (own_fn (own_fn (own_fn (own_fn (own_fn (own_fn (own_fn (own_fn (own_fn (own_fn (own_fn (own_fn (own_fn (own_fn (own_fn (own_fn (own_fn (own_fn (own_fn hF19))))))))))))))))))))))))) (own_fn (own_fn (own_fn (own_fn (own_up_eq _ _ _))))) (own_fn (own_fn (own_fn (own_fn (own_fn (own_fn (own_fn (own_fn (own_fn (own_fn (own_fn (own_fn (own_fn (own_fn (own_fn (own_fn (own_fn (own_fn (own_fn (own_fn (own_fn (own_fn (own_fn (own_fn (own_fn hF22))))))))))))))))))))))))) (own_fn (own_up_eq _ _ _)) (own_fn (own_fn (own_fn (own_fn (own_fn (own_fn (own_fn (own_fn (own_fn (own_fn (own_fn (own_fn (own_fn (own_fn (own_fn (own_fn (own_fn (own_fn (own_fn (own_fn (own_up_eq _ _ _))))))))))))))))))))) (own_vn (own_vn (own_vn (own_vn (own_vn (own_vn (own_vn (own_vn (own_vn (own_vn (own_vn (own_vi (own_vn (own_vn (own_vn (own_vn (own_vn (own_vn (own_vn (own_vn (own_vn (own_vn (own_vn (own_ve (own_vl (own_vl (own_vl (own_vl (own_vl (own_vl (own_vl (own_vl (own_vl (own_vl (own_vl (own_vl (own_vl (own_vl (own_vl (own_vl (own_vl (own_vl (own_vl (own_len PB 1 (by decide) 1 (by decide))))))))))))))))))))))))))))))))))))))))))))) (own_vn (own_vn (own_vn (own_vn (own_vn (own_vn (own_vn (own_vn (own_vn (own_vn (own_vn (own_vn (own_vn (own_vi (own_vn (own_vn (own_vn (own_vn (own_vn (own_vn (own_vn (own_vn (own_vn (own_vn (own_vn (own_ve (own_vl (own_vl (own_vl (own_vl (own_vl (own_vl (own_vl (own_vl (own_vl (own_vl (own_vl (own_vl (own_vl (own_vl (own_vl (own_vl (own_vl (own_len PB 12 (by decide) 3 (by decide))))))))))))))))))))))))))))))))))))))))))))) (own_vn (own_vn (own_vn (own_vn (own_vn (own_vn (own_vn (own_vn (own_vn (own_vn (own_vn (own_vn (own_vi (own_vn (own_vn (own_vn (own_vn (own_vn (own_vn (own_vn (own_vn (own_vn (own_vn (own_vn (own_ve (own_vl (own_vl (own_vl (own_vl (own_vl (own_vl (own_vl (own_vl (own_vl (own_vl (own_vl (own_vl (own_vl (own_vl (own_vl (own_vl (own_vl (own_vl (own_len PB 13 (by decide) 3 (by decide))))))))))))))))))))))))))))))))))))))))))))) (own_vn (own_vn (own_vn (own_vn (own_vn (own_vn (own_vn (own_vn (own_vn (own_vn (own_vn (own_vn (own_vn (own_vn (own_vn (own_vn (own_vi (own_vn (own_vn (own_vn (own_vn (own_vn (own_vn (own_vn (own_vn (own_vn (own_vn (own_vn (own_vn (own_vn (own_vn (own_vn (own_vn (own_ve (own_vl (own_vl (own_vl (own_vl (own_vl (own_vl (own_vl (own_vl (own_vl (own_len PB 7 (by decide) 1 (by decide))))))))))))))))))))))))))))))))))))))))))))) (own_vn (own_vn (own_vn (own_vn (own_vn (own_vn (own_vn (own_vn (own_vn (own_vn (own_vn (own_vn (own_vn (own_vn (own_vn (own_vi (own_vn (own_vn (own_vn (own_vn (own_vn (own_vn (own_vn (own_vn (own_vn (own_vn (own_vn (own_vn (own_vn (own_vn (own_vn (own_vn (own_ve (own_vl (own_vl (own_vl (own_vl (own_vl (own_vl (own_vl (own_vl (own_vl (own_vl (own_len PB 9 (by decide) 1 (by decide))))))))))))))))))))))))))))))))))))))))))))) (own_vn (own_vn (own_vn (own_vn (own_vn (own_vn (own_vn (own_vn (own_vn (own_vn (own_vn (own_vn (own_vn (own_vn (own_vi (own_vn (own_vn (own_vn (own_vn (own_vn (own_vn (own_vn (own_vn (own_vn (own_vn (own_vn (own_vi (own_vn (own_vn (own_vn (own_vn (own_vn (own_vn (own_vn (own_vn (own_vn (own_vn (own_vn (own_ve (own_vl (own_vl (own_vl (own_vl (own_len PB 11 (by decide) 2 (by decide))))))))))))))))))))))))))))))))))))))))))))) (own_vn (own_vn (own_vn (own_vn (own_ve (own_vl (own_vl (own_vl (own_vl (own_vl (own_vl (own_vl (own_vl (own_vl (own_vl (own_vl (own_vl (own_vl (own_vl (own_vl (own_vl (own_vl (own_vl (own_vl (own_vl (own_vl (own_vl (own_vl (own_vl (own_vl (own_vl (own_vl (own_vl (own_vl (own_vl (own_vl (own_vl (own_vl (own_vl (own_vl (own_vl (own_vl (own_vl (own_len PB 5 (by decide) 1 (by decide))))))))))))))))))))))))))))))))))))))))))))) (own_vn (own_vn (own_vn (own_ve (own_vl (own_vl (own_vl (own_vl (own_vl (own_vl (own_vl (own_vl (own_vl (own_vl (own_vl (own_vl (own_vl (own_vl (own_vl (own_vl (own_vl (own_vl (own_vl (own_vl (own_vl (own_vl (own_vl (own_vl (own_vl (own_vl (own_vl (own_vl (own_vl (own_vl (own_vl (own_vl (own_vl (own_vl (own_vl (own_vl (own_vl (own_vl (own_vl (own_len PB 6 (by decide) 1 (by decide))))))))))))))))))))))))))))))))))))))))))))) ) hZ (own_w hw 237) (own_w hw 2) (by decide) (by decide)) q7a q7c (g := (mkF m 73 #[.val (.int va), .val (.long vk), .second, .val (.int vb), .val (.long vkb), .second, .val (.int vc), .val (.long vkc), .second, .val (.int (1 : Int32)), .val (.ref ob), .val (.int (2 : Int32)), .val (.int (3 : Int32)), .val (.int (4 : Int32)), .unset, .unset, .unset, .unset] [(.long vkb), (.int vb), (.int (-1 : Int32)), (.int (3 : Int32)), (.ref ob)])) rfl (by rw [hml]; rfl) (Steps.refl _) (argsL := [(.int (3 : Int32)), (.int (-1 : Int32)), (.int vb), (.long vkb)]) (rest := []) (lenOf own_pd12 rfl) rfl (by show 2 * 0 + _ ≤ _; exact Nat.le_of_eq rfl) (hb hby at_73) (fun _ _ => ⟨rfl, rfl, (by decide : 32 + 0 ≤ _), (by decide : 227 + 0 ≤ _)⟩)
  dsimp only [Pt.U, Pt.locs, Pt.cells, Pt.slots] at X7 l7 y7 z7 st7 hQ7
  subst l7 y7 z7
  obtain ⟨rfl, Nq7, P7⟩ := hQ7
  have N7 := Fr.app N6 Nq7
  obtain ⟨cq8, kq8, q8a, q8b, q8c⟩ := isOf hZ rfl P7.1
  obtain ⟨_, _, ⟨T8, L8, k8, n8⟩, -, X8, ⟨Lc8, hQ8, l8, y8, z8⟩, st8⟩ := X7.virtualBack hx (y := own_y39) (z := own_y39) hown (mvT hZ (own_w hw 233)) (mvT hZ (own_w hw 234)) (own_nf (args := #[]) (z := own_y17) (mvT hZ (own_w hw 103)) rfl) (mvT hZ (own_w hw 236)) (mvT hZ (own_w hw 235)) (by decide) (backOf (W := 0) (rm28_2 l Z a0 hw [] ob vc vkc T7.heap n0 P7 (by decide) (by decide) rfl (own_fn (own_fn (own_fn (own_fn (own_fn (own_fn (own_fn (own_fn (own_fn (own_fn (own_fn (own_fn (own_fn (own_fn (own_fn (own_fn (own_fn (own_fn (own_fn (own_fn (own_fn (own_fn (own_fn (own_fn (own_fn hF19))))))))))))))))))))))))) (own_fn (own_fn (own_fn (own_fn (own_up_eq _ _ _))))) (own_fn (own_fn (own_fn (own_fn (own_fn (own_fn (own_fn (own_fn (own_fn (own_fn (own_fn (own_fn (own_fn (own_fn (own_fn (own_fn (own_fn (own_fn (own_fn (own_fn (own_up_eq _ _ _))))))))))))))))))))) (own_vn (own_vn (own_vn (own_vn (own_vn (own_vn (own_vn (own_vn (own_vn (own_vn (own_vn (own_vn (own_vn (own_vn (own_vn (own_ve (own_vl (own_vl (own_vl (own_vl (own_vl (own_vl (own_vl (own_vl (own_vl (own_vl (own_vl (own_vl (own_vl (own_vl (own_vl (own_vl (own_vl (own_vl (own_vl (own_vl (own_vl (own_vl (own_vl (own_vl (own_vl (own_vl (own_vl (own_vl (own_vl (own_vl (own_vl (own_len PB 1 (by decide) 2 (by decide))))))))))))))))))))))))))))))))))))))))))))))))) (own_vn (own_vn (own_vn (own_vi (own_vn (own_vn (own_vn (own_vn (own_vn (own_vn (own_vn (own_vn (own_vn (own_vn (own_vn (own_vn (own_vn (own_ve (own_vl (own_vl (own_vl (own_vl (own_vl (own_vl (own_vl (own_vl (own_vl (own_vl (own_vl (own_vl (own_vl (own_vl (own_vl (own_vl (own_vl (own_vl (own_vl (own_vl (own_vl (own_vl (own_vl (own_vl (own_vl (own_vl (own_vl (own_vl (own_vl (own_len PB 12 (by decide) 4 (by decide))))))))))))))))))))))))))))))))))))))))))))))))) (own_vn (own_vn (own_vi (own_vn (own_vn (own_vn (own_vn (own_vn (own_vn (own_vn (own_vn (own_vn (own_vn (own_vn (own_vn (own_vn (own_ve (own_vl (own_vl (own_vl (own_vl (own_vl (own_vl (own_vl (own_vl (own_vl (own_vl (own_vl (own_vl (own_vl (own_vl (own_vl (own_vl (own_vl (own_vl (own_vl (own_vl (own_vl (own_vl (own_vl (own_vl (own_vl (own_vl (own_vl (own_vl (own_vl (own_vl (own_len PB 13 (by decide) 4 (by decide))))))))))))))))))))))))))))))))))))))))))))))))) (own_vn (own_vn (own_vn (own_vn (own_vn (own_vn (own_vn (own_vn (own_vn (own_vn (own_vn (own_vn (own_vn (own_vn (own_vn (own_vn (own_vn (own_vn (own_vn (own_vn (own_ve (own_vl (own_vl (own_vl (own_vl (own_vl (own_vl (own_vl (own_vl (own_vl (own_vl (own_vl (own_vl (own_vl (own_vl (own_vl (own_vl (own_vl (own_vl (own_vl (own_vl (own_vl (own_vl (own_vl (own_vl (own_vl (own_vl (own_len PB 7 (by decide) 2 (by decide))))))))))))))))))))))))))))))))))))))))))))))))) (own_vn (own_vn (own_vn (own_vn (own_vn (own_vn (own_vn (own_vn (own_vn (own_vn (own_vn (own_vn (own_vn (own_vn (own_vn (own_vn (own_vn (own_vn (own_vn (own_ve (own_vl (own_vl (own_vl (own_vl (own_vl (own_vl (own_vl (own_vl (own_vl (own_vl (own_vl (own_vl (own_vl (own_vl (own_vl (own_vl (own_vl (own_vl (own_vl (own_vl (own_vl (own_vl (own_vl (own_vl (own_vl (own_vl (own_vl (own_len PB 9 (by decide) 2 (by decide))))))))))))))))))))))))))))))))))))))))))))))))) ) hZ (own_w hw 237) (own_w hw 2) (by decide) (by decide)) q8a q8c (g := (mkF m 85 #[.val (.int va), .val (.long vk), .second, .val (.int vb), .val (.long vkb), .second, .val (.int vc), .val (.long vkc), .second, .val (.int (1 : Int32)), .val (.ref ob), .val (.int (2 : Int32)), .val (.int (3 : Int32)), .val (.int (4 : Int32)), .unset, .unset, .unset, .unset] [(.long vkc), (.int vc), (.int (-1 : Int32)), (.int (4 : Int32)), (.ref ob)])) rfl (by rw [hml]; rfl) (Steps.refl _) (argsL := [(.int (4 : Int32)), (.int (-1 : Int32)), (.int vc), (.long vkc)]) (rest := []) (lenOf own_pd12 rfl) rfl (by show 2 * 0 + _ ≤ _; exact Nat.le_of_eq rfl) (hb hby at_85) (fun _ _ => ⟨rfl, rfl, (by decide : 32 + 0 ≤ _), (by decide : 227 + 0 ≤ _)⟩)
  dsimp only [Pt.U, Pt.locs, Pt.cells, Pt.slots] at X8 l8 y8 z8 st8 hQ8
  subst l8 y8 z8
  obtain ⟨rfl, Nq8, P8⟩ := hQ8
  have N8 := Fr.app N7 Nq8
  obtain ⟨F9, V9, P9, hF19, hV12_2, hV12_3, hV12_4, hV13_2, hV13_3, hV13_4⟩ : ∃ (F9 : Nat → Value) (V9 : Nat → List Value), own_PS Z T8.heap n0 ob 14 A F9 V9 ∧ F9 19 = (.int (1 : Int32)) ∧ (V9 12).getD 2 (own_aZ 12) = (.int va) ∧ (V9 12).getD 3 (own_aZ 12) = (.int (va + vb)) ∧ (V9 12).getD 4 (own_aZ 12) = (.int ((0 : Int32) + vc)) ∧ (V9 13).getD 2 (own_aZ 13) = (.long vk) ∧ (V9 13).getD 3 (own_aZ 13) = (.long (vk + vkb)) ∧ (V9 13).getD 4 (own_aZ 13) = (.long ((0 : Int64) + vkc)) := ⟨_, _, P8, (own_fn (own_fn (own_fn (own_fn (own_fn (own_fn (own_fn (own_fn (own_fn (own_fn (own_fn (own_fn (own_fn (own_fn (own_fn (own_fn (own_fn (own_fn (own_fn (own_fn (own_fn (own_fn (own_fn (own_fn (own_fn hF19))))))))))))))))))))))))), (own_vn (own_vi (own_vn (own_vn (own_vn (own_vi (own_vn (own_vn (own_vn (own_vn (own_vn (own_vn (own_vn (own_vn (own_vn (own_vn (own_vn (own_vn (own_vn (own_vi (own_vn (own_vn (own_vn (own_vn (own_vn (own_vn (own_vn (own_vn (own_vn (own_vn (own_vn (own_vi (own_vn (own_vn (own_vn (own_vn (own_vn (own_vn (own_vn (own_vn (own_vn (own_vn (own_vn (own_ve (own_vl (own_vl (own_vl (own_vl (own_vl (own_len PB 12 (by decide) 2 (by decide))))))))))))))))))))))))))))))))))))))))))))))))))), (own_vn (own_vi (own_vn (own_vn (own_vn (own_ve (own_vl (own_vl (own_vl (own_vl (own_vl (own_vl (own_vl (own_vl (own_vl (own_vl (own_vl (own_vl (own_vl (own_vl (own_vl (own_vl (own_vl (own_vl (own_vl (own_vl (own_vl (own_vl (own_vl (own_vl (own_vl (own_vl (own_vl (own_vl (own_vl (own_vl (own_vl (own_vl (own_vl (own_vl (own_vl (own_vl (own_vl (own_vl (own_vl (own_vl (own_vl (own_vl (own_vl (own_len PB 12 (by decide) 3 (by decide))))))))))))))))))))))))))))))))))))))))))))))))))), (own_vn (own_ve (own_vl (own_vl (own_vl (own_vl (own_vl (own_vl (own_vl (own_vl (own_vl (own_vl (own_vl (own_vl (own_vl (own_vl (own_vl (own_vl (own_vl (own_vl (own_vl (own_vl (own_vl (own_vl (own_vl (own_vl (own_vl (own_vl (own_vl (own_vl (own_vl (own_vl (own_vl (own_vl (own_vl (own_vl (own_vl (own_vl (own_vl (own_vl (own_vl (own_vl (own_vl (own_vl (own_vl (own_vl (own_vl (own_vl (own_vl (own_len PB 12 (by decide) 4 (by decide))))))))))))))))))))))))))))))))))))))))))))))))))), (own_vi (own_vn (own_vn (own_vn (own_vi (own_vn (own_vn (own_vn (own_vn (own_vn (own_vn (own_vn (own_vn (own_vn (own_vn (own_vn (own_vn (own_vn (own_vi (own_vn (own_vn (own_vn (own_vn (own_vn (own_vn (own_vn (own_vn (own_vn (own_vn (own_vn (own_vi (own_vn (own_vn (own_vn (own_vn (own_vn (own_vn (own_vn (own_vn (own_vn (own_vn (own_vn (own_ve (own_vl (own_vl (own_vl (own_vl (own_vl (own_vl (own_len PB 13 (by decide) 2 (by decide))))))))))))))))))))))))))))))))))))))))))))))))))), (own_vi (own_vn (own_vn (own_vn (own_ve (own_vl (own_vl (own_vl (own_vl (own_vl (own_vl (own_vl (own_vl (own_vl (own_vl (own_vl (own_vl (own_vl (own_vl (own_vl (own_vl (own_vl (own_vl (own_vl (own_vl (own_vl (own_vl (own_vl (own_vl (own_vl (own_vl (own_vl (own_vl (own_vl (own_vl (own_vl (own_vl (own_vl (own_vl (own_vl (own_vl (own_vl (own_vl (own_vl (own_vl (own_vl (own_vl (own_vl (own_vl (own_len PB 13 (by decide) 3 (by decide))))))))))))))))))))))))))))))))))))))))))))))))))), (own_ve (own_vl (own_vl (own_vl (own_vl (own_vl (own_vl (own_vl (own_vl (own_vl (own_vl (own_vl (own_vl (own_vl (own_vl (own_vl (own_vl (own_vl (own_vl (own_vl (own_vl (own_vl (own_vl (own_vl (own_vl (own_vl (own_vl (own_vl (own_vl (own_vl (own_vl (own_vl (own_vl (own_vl (own_vl (own_vl (own_vl (own_vl (own_vl (own_vl (own_vl (own_vl (own_vl (own_vl (own_vl (own_vl (own_vl (own_vl (own_vl (own_len PB 13 (by decide) 4 (by decide)))))))))))))))))))))))))))))))))))))))))))))))))))⟩
  have preM : ∀ t, Steps p.tables e below (T8.setTop (mkF m 88 #[.val (.int va), .val (.long vk), .second, .val (.int vb), .val (.long vkb), .second, .val (.int vc), .val (.long vkc), .second, .val (.int (1 : Int32)), .val (.ref ob), .val (.int (2 : Int32)), .val (.int (3 : Int32)), .val (.int (4 : Int32)), .unset, .unset, .unset, .unset] [])) t → Steps p.tables e below (s₁.setTop (entryFrame m #[(.int va), (.long vk), (.int vb), (.long vkb), (.int vc), (.long vkc)] maxLocals)) t := by
    intro t k
    refine castTop ef ?_
    refine s_iloadN X0 hx (hb hby at_0) rfl ?_
    refine s_iconst X0 hx (1 : Int32) (hb hby at_1) rfl ?_
    refine s_iand X0 hx (va &&& (1 : Int32)) (hb hby at_2) rfl ?_
    refine s_ifN X0 hx (hb hby at_3) ((if0 _ _).trans (feq hm).1) ?_
    refine s_iconst X0 hx (1 : Int32) (hb hby at_6) rfl ?_
    refine s_goto X0 hx 11 (hb hby at_7) (by decide) (by decide) ?_
    refine s_istore X0 hx #[.val (.int va), .val (.long vk), .second, .val (.int vb), .val (.long vkb), .second, .val (.int vc), .val (.long vkc), .second, .val (.int (1 : Int32)), .unset, .unset, .unset, .unset, .unset, .unset, .unset, .unset] (hb hby at_11) rfl ?_
    refine st1 _ ?_
    refine s_dup X1 hx (hb hby at_16) rfl ?_
    refine s_iconst X1 hx (1 : Int32) (hb hby at_17) rfl ?_
    refine s_iconst X1 hx (3 : Int32) (hb hby at_18) rfl ?_
    refine s_iload X1 hx (hb hby at_19) rfl ?_
    refine st2.trans ?_
    refine s_astore X2 hx #[.val (.int va), .val (.long vk), .second, .val (.int vb), .val (.long vkb), .second, .val (.int vc), .val (.long vkc), .second, .val (.int (1 : Int32)), .val (.ref ob), .unset, .unset, .unset, .unset, .unset, .unset, .unset] (hb hby at_24) rfl rfl ?_
    refine s_aload X2 hx (hb hby at_26) rfl rfl ?_
    refine s_lconst X2 hx (0 : Int64) (hb hby at_28) ?_ (by decide)
    refine s_iloadN X2 hx (hb hby at_29) rfl ?_
    refine s_lloadN X2 hx (hb hby at_30) rfl ?_
    refine st3.trans ?_
    refine s_aload X3 hx (hb hby at_34) rfl rfl ?_
    refine st4.trans ?_
    refine s_istore X4 hx #[.val (.int va), .val (.long vk), .second, .val (.int vb), .val (.long vkb), .second, .val (.int vc), .val (.long vkc), .second, .val (.int (1 : Int32)), .val (.ref ob), .val (.int (2 : Int32)), .unset, .unset, .unset, .unset, .unset, .unset] (hb hby at_39) rfl ?_
    refine s_aload X4 hx (hb hby at_41) rfl rfl ?_
    refine s_iload X4 hx (hb hby at_43) rfl ?_
    refine X4.ldc2Long hx hown (mvT hZ (own_w hw 194)) (v := (10 : Int64)) (g := (mkF m 45 #[.val (.int va), .val (.long vk), .second, .val (.int vb), .val (.long vkb), .second, .val (.int vc), .val (.long vkc), .second, .val (.int (1 : Int32)), .val (.ref ob), .val (.int (2 : Int32)), .unset, .unset, .unset, .unset, .unset, .unset] [(.int (2 : Int32)), (.ref ob)])) rfl (hb hby at_45) _ ?_
    refine st5.trans ?_
    refine s_istore X5 hx #[.val (.int va), .val (.long vk), .second, .val (.int vb), .val (.long vkb), .second, .val (.int vc), .val (.long vkc), .second, .val (.int (1 : Int32)), .val (.ref ob), .val (.int (2 : Int32)), .val (.int (3 : Int32)), .unset, .unset, .unset, .unset, .unset] (hb hby at_51) rfl ?_
    refine s_aload X5 hx (hb hby at_53) rfl rfl ?_
    refine s_iload X5 hx (hb hby at_55) rfl ?_
    refine X5.ldc2Long hx hown (mvT hZ (own_w hw 208)) (v := (20 : Int64)) (g := (mkF m 57 #[.val (.int va), .val (.long vk), .second, .val (.int vb), .val (.long vkb), .second, .val (.int vc), .val (.long vkc), .second, .val (.int (1 : Int32)), .val (.ref ob), .val (.int (2 : Int32)), .val (.int (3 : Int32)), .unset, .unset, .unset, .unset, .unset] [(.int (3 : Int32)), (.ref ob)])) rfl (hb hby at_57) _ ?_
    refine st6.trans ?_
    refine s_istore X6 hx #[.val (.int va), .val (.long vk), .second, .val (.int vb), .val (.long vkb), .second, .val (.int vc), .val (.long vkc), .second, .val (.int (1 : Int32)), .val (.ref ob), .val (.int (2 : Int32)), .val (.int (3 : Int32)), .val (.int (4 : Int32)), .unset, .unset, .unset, .unset] (hb hby at_63) rfl ?_
    refine s_aload X6 hx (hb hby at_65) rfl rfl ?_
    refine s_iload X6 hx (hb hby at_67) rfl ?_
    refine s_iconst X6 hx (-1 : Int32) (hb hby at_69) rfl ?_
    refine s_iloadN X6 hx (hb hby at_70) rfl ?_
    refine s_lload X6 hx (hb hby at_71) rfl ?_
    refine st7.trans ?_
    refine s_aload X7 hx (hb hby at_76) rfl rfl ?_
    refine s_iload X7 hx (hb hby at_78) rfl ?_
    refine s_iconst X7 hx (-1 : Int32) (hb hby at_80) rfl ?_
    refine s_iload X7 hx (hb hby at_81) rfl ?_
    refine s_lload X7 hx (hb hby at_83) rfl ?_
    refine st8.trans ?_
    exact k
  by_cases hb_ : vb = (0 : Int32)
  · by_cases hkb_ : vkb = (0 : Int64)
    · by_cases hc_ : vc = (0 : Int32)
      · by_cases hkc_ : vkc = (0 : Int64)
        · obtain ⟨cq9, kq9, q9a, q9b, q9c⟩ := isOf hZ rfl P9.1
          obtain ⟨_, _, ⟨T9, L9, k9, n9⟩, -, X9, ⟨Lc9, hQ9, l9, y9, z9⟩, st9⟩ := X8.virtualBack hx (y := own_y40) (z := own_y40) hown (mvT hZ (own_w hw 256)) (mvT hZ (own_w hw 257)) (own_nf (args := #[]) (z := own_y17) (mvT hZ (own_w hw 103)) rfl) (mvT hZ (own_w hw 259)) (mvT hZ (own_w hw 258)) (by decide) (backOf (W := 0) (rm33_1 l Z a0 hw [] ob va vk vb vkb T8.heap n0 P9 (by decide) (by decide) rfl hF19 hV12_3 hV12_2 hV13_3 hV13_2 (own_ad.mpr hb_) (own_adL.mpr hkb_)) hZ (own_w hw 260) (own_w hw 2) (by decide) (by decide)) q9a q9c (g := (mkF m 139 #[.val (.int va), .val (.long vk), .second, .val (.int vb), .val (.long vkb), .second, .val (.int vc), .val (.long vkc), .second, .val (.int (1 : Int32)), .val (.ref ob), .val (.int (2 : Int32)), .val (.int (3 : Int32)), .val (.int (4 : Int32)), .val (.int (1 : Int32)), .val (.int (1 : Int32)), .unset, .unset] [(.int (3 : Int32)), (.ref ob)])) rfl (by rw [hml]; rfl) (Steps.refl _) (argsL := [(.int (3 : Int32))]) (rest := []) (lenOf own_pd7 rfl) rfl (by show 2 * 0 + _ ≤ _; exact Nat.le_of_eq rfl) (hb hby at_139) (fun _ _ => ⟨rfl, rfl, (by decide : 32 + 0 ≤ _), (by decide : 227 + 0 ≤ _)⟩)
          dsimp only [Pt.U, Pt.locs, Pt.cells, Pt.slots] at X9 l9 y9 z9 st9 hQ9
          subst l9 y9 z9
          obtain ⟨rfl, Nq9, eh9⟩ := hQ9
          have N9 := Fr.app N8 Nq9
          obtain ⟨cq10, kq10, q10a, q10b, q10c⟩ := isOf hZ eh9 P9.1
          obtain ⟨_, _, ⟨T10, L10, k10, n10⟩, -, X10, ⟨Lc10, hQ10, l10, y10, z10⟩, st10⟩ := X9.virtualBack hx (y := own_y40) (z := own_y40) hown (mvT hZ (own_w hw 256)) (mvT hZ (own_w hw 257)) (own_nf (args := #[]) (z := own_y17) (mvT hZ (own_w hw 103)) rfl) (mvT hZ (own_w hw 259)) (mvT hZ (own_w hw 258)) (by decide) (backOf (W := 0) (rm33_2 l Z a0 hw [] ob vc vkc T8.heap n0 P9 (by decide) (by decide) rfl hF19 hV12_4 hV13_4 (own_az.mpr hc_) (own_azL.mpr hkc_)) hZ (own_w hw 260) (own_w hw 2) (by decide) (by decide)) q10a q10c (g := (mkF m 148 #[.val (.int va), .val (.long vk), .second, .val (.int vb), .val (.long vkb), .second, .val (.int vc), .val (.long vkc), .second, .val (.int (1 : Int32)), .val (.ref ob), .val (.int (2 : Int32)), .val (.int (3 : Int32)), .val (.int (4 : Int32)), .val (.int (1 : Int32)), .val (.int (1 : Int32)), .val (.int (1 : Int32)), .unset] [(.int (4 : Int32)), (.ref ob)])) rfl (by rw [hml]; rfl) (Steps.refl _) (argsL := [(.int (4 : Int32))]) (rest := []) (lenOf own_pd7 rfl) rfl (by show 2 * 0 + _ ≤ _; exact Nat.le_of_eq rfl) (hb hby at_148) (fun _ _ => ⟨rfl, eh9, (by decide : 32 + 0 ≤ _), (by decide : 227 + 0 ≤ _)⟩)
          dsimp only [Pt.U, Pt.locs, Pt.cells, Pt.slots] at X10 l10 y10 z10 st10 hQ10
          subst l10 y10 z10
          obtain ⟨rfl, Nq10, eh10⟩ := hQ10
          have N10 := Fr.app N9 Nq10
          obtain ⟨fs, hr, hrun, hended, hW, hsame⟩ := X10.leave (v := some (.int (1 : Int32))) (fun h => by rw [Bd.returns] at h; cases h)
          refine ⟨_, _, preM _ ?_, hrun, hended, _, _, rfl, ?_, ⟨_, rfl⟩, hW, hsame.mono (by decide) (by decide)⟩
          · refine s_iloadN X8 hx (hb hby at_88) rfl ?_
            refine s_ifN X8 hx (hb hby at_89) ((if0 _ _).trans (teq hb_).2) ?_
            refine s_iload X8 hx (hb hby at_92) rfl ?_
            refine s_ifN X8 hx (hb hby at_94) (by decide) ?_
            refine s_lload X8 hx (hb hby at_97) rfl ?_
            refine s_lconst X8 hx (0 : Int64) (hb hby at_99) ?_ (by decide)
            refine s_lcmp X8 hx (lcmpW vkb (0 : Int64)) (hb hby at_100) rfl ?_
            refine s_ifN X8 hx (hb hby at_101) ((if0 _ _).trans (teq (own_leq.mpr hkb_)).2) ?_
            refine s_iconst X8 hx (1 : Int32) (hb hby at_104) rfl ?_
            refine s_goto X8 hx 109 (hb hby at_105) (by decide) (by decide) ?_
            refine s_istore X8 hx #[.val (.int va), .val (.long vk), .second, .val (.int vb), .val (.long vkb), .second, .val (.int vc), .val (.long vkc), .second, .val (.int (1 : Int32)), .val (.ref ob), .val (.int (2 : Int32)), .val (.int (3 : Int32)), .val (.int (4 : Int32)), .val (.int (1 : Int32)), .unset, .unset, .unset] (hb hby at_109) rfl ?_
            refine s_iload X8 hx (hb hby at_111) rfl ?_
            refine s_ifN X8 hx (hb hby at_113) ((if0 _ _).trans (teq hc_).2) ?_
            refine s_iload X8 hx (hb hby at_116) rfl ?_
            refine s_ifN X8 hx (hb hby at_118) (by decide) ?_
            refine s_lload X8 hx (hb hby at_121) rfl ?_
            refine s_lconst X8 hx (0 : Int64) (hb hby at_123) ?_ (by decide)
            refine s_lcmp X8 hx (lcmpW vkc (0 : Int64)) (hb hby at_124) rfl ?_
            refine s_ifN X8 hx (hb hby at_125) ((if0 _ _).trans (teq (own_leq.mpr hkc_)).2) ?_
            refine s_iconst X8 hx (1 : Int32) (hb hby at_128) rfl ?_
            refine s_goto X8 hx 133 (hb hby at_129) (by decide) (by decide) ?_
            refine s_istore X8 hx #[.val (.int va), .val (.long vk), .second, .val (.int vb), .val (.long vkb), .second, .val (.int vc), .val (.long vkc), .second, .val (.int (1 : Int32)), .val (.ref ob), .val (.int (2 : Int32)), .val (.int (3 : Int32)), .val (.int (4 : Int32)), .val (.int (1 : Int32)), .val (.int (1 : Int32)), .unset, .unset] (hb hby at_133) rfl ?_
            refine s_aload X8 hx (hb hby at_135) rfl rfl ?_
            refine s_iload X8 hx (hb hby at_137) rfl ?_
            refine st9.trans ?_
            refine s_istore X9 hx #[.val (.int va), .val (.long vk), .second, .val (.int vb), .val (.long vkb), .second, .val (.int vc), .val (.long vkc), .second, .val (.int (1 : Int32)), .val (.ref ob), .val (.int (2 : Int32)), .val (.int (3 : Int32)), .val (.int (4 : Int32)), .val (.int (1 : Int32)), .val (.int (1 : Int32)), .val (.int (1 : Int32)), .unset] (hb hby at_142) rfl ?_
            refine s_aload X9 hx (hb hby at_144) rfl rfl ?_
            refine s_iload X9 hx (hb hby at_146) rfl ?_
            refine st10.trans ?_
            refine s_istore X10 hx #[.val (.int va), .val (.long vk), .second, .val (.int vb), .val (.long vkb), .second, .val (.int vc), .val (.long vkc), .second, .val (.int (1 : Int32)), .val (.ref ob), .val (.int (2 : Int32)), .val (.int (3 : Int32)), .val (.int (4 : Int32)), .val (.int (1 : Int32)), .val (.int (1 : Int32)), .val (.int (1 : Int32)), .val (.int (1 : Int32))] (hb hby at_151) rfl ?_
            refine s_iload X10 hx (hb hby at_153) rfl ?_
            refine s_iload X10 hx (hb hby at_155) rfl ?_
            refine s_icmpN X10 hx (hb hby at_157) (by decide) ?_
            refine s_iload X10 hx (hb hby at_160) rfl ?_
            refine s_iload X10 hx (hb hby at_162) rfl ?_
            refine s_icmpN X10 hx (hb hby at_164) (by decide) ?_
            refine s_iconst X10 hx (1 : Int32) (hb hby at_167) rfl ?_
            refine s_goto X10 hx 172 (hb hby at_168) (by decide) (by decide) ?_
            exact retN X10 hx (t := .boolean) Bd.returns (by simp) (hb hby at_172) hr
          · exact ⟨rfl, N10⟩
        · obtain ⟨cq9, kq9, q9a, q9b, q9c⟩ := isOf hZ rfl P9.1
          obtain ⟨_, _, ⟨T9, L9, k9, n9⟩, -, X9, ⟨Lc9, hQ9, l9, y9, z9⟩, st9⟩ := X8.virtualBack hx (y := own_y40) (z := own_y40) hown (mvT hZ (own_w hw 256)) (mvT hZ (own_w hw 257)) (own_nf (args := #[]) (z := own_y17) (mvT hZ (own_w hw 103)) rfl) (mvT hZ (own_w hw 259)) (mvT hZ (own_w hw 258)) (by decide) (backOf (W := 0) (rm33_1 l Z a0 hw [] ob va vk vb vkb T8.heap n0 P9 (by decide) (by decide) rfl hF19 hV12_3 hV12_2 hV13_3 hV13_2 (own_ad.mpr hb_) (own_adL.mpr hkb_)) hZ (own_w hw 260) (own_w hw 2) (by decide) (by decide)) q9a q9c (g := (mkF m 139 #[.val (.int va), .val (.long vk), .second, .val (.int vb), .val (.long vkb), .second, .val (.int vc), .val (.long vkc), .second, .val (.int (1 : Int32)), .val (.ref ob), .val (.int (2 : Int32)), .val (.int (3 : Int32)), .val (.int (4 : Int32)), .val (.int (1 : Int32)), .val (.int (0 : Int32)), .unset, .unset] [(.int (3 : Int32)), (.ref ob)])) rfl (by rw [hml]; rfl) (Steps.refl _) (argsL := [(.int (3 : Int32))]) (rest := []) (lenOf own_pd7 rfl) rfl (by show 2 * 0 + _ ≤ _; exact Nat.le_of_eq rfl) (hb hby at_139) (fun _ _ => ⟨rfl, rfl, (by decide : 32 + 0 ≤ _), (by decide : 227 + 0 ≤ _)⟩)
          dsimp only [Pt.U, Pt.locs, Pt.cells, Pt.slots] at X9 l9 y9 z9 st9 hQ9
          subst l9 y9 z9
          obtain ⟨rfl, Nq9, eh9⟩ := hQ9
          have N9 := Fr.app N8 Nq9
          obtain ⟨cq10, kq10, q10a, q10b, q10c⟩ := isOf hZ eh9 P9.1
          obtain ⟨_, _, ⟨T10, L10, k10, n10⟩, -, X10, ⟨Lc10, hQ10, l10, y10, z10⟩, st10⟩ := X9.virtualBack hx (y := own_y40) (z := own_y40) hown (mvT hZ (own_w hw 256)) (mvT hZ (own_w hw 257)) (own_nf (args := #[]) (z := own_y17) (mvT hZ (own_w hw 103)) rfl) (mvT hZ (own_w hw 259)) (mvT hZ (own_w hw 258)) (by decide) (backOf (W := 0) (rm33_3 l Z a0 hw [] ob vc vkc T8.heap n0 P9 (by decide) (by decide) rfl hF19 hV12_4 hV13_4 (own_az.mpr hc_) (mt own_azL.mp hkc_)) hZ (own_w hw 260) (own_w hw 2) (by decide) (by decide)) q10a q10c (g := (mkF m 148 #[.val (.int va), .val (.long vk), .second, .val (.int vb), .val (.long vkb), .second, .val (.int vc), .val (.long vkc), .second, .val (.int (1 : Int32)), .val (.ref ob), .val (.int (2 : Int32)), .val (.int (3 : Int32)), .val (.int (4 : Int32)), .val (.int (1 : Int32)), .val (.int (0 : Int32)), .val (.int (1 : Int32)), .unset] [(.int (4 : Int32)), (.ref ob)])) rfl (by rw [hml]; rfl) (Steps.refl _) (argsL := [(.int (4 : Int32))]) (rest := []) (lenOf own_pd7 rfl) rfl (by show 2 * 0 + _ ≤ _; exact Nat.le_of_eq rfl) (hb hby at_148) (fun _ _ => ⟨rfl, eh9, (by decide : 32 + 0 ≤ _), (by decide : 227 + 0 ≤ _)⟩)
          dsimp only [Pt.U, Pt.locs, Pt.cells, Pt.slots] at X10 l10 y10 z10 st10 hQ10
          subst l10 y10 z10
          obtain ⟨rfl, Nq10, eh10⟩ := hQ10
          have N10 := Fr.app N9 Nq10
          obtain ⟨fs, hr, hrun, hended, hW, hsame⟩ := X10.leave (v := some (.int (1 : Int32))) (fun h => by rw [Bd.returns] at h; cases h)
          refine ⟨_, _, preM _ ?_, hrun, hended, _, _, rfl, ?_, ⟨_, rfl⟩, hW, hsame.mono (by decide) (by decide)⟩
          · refine s_iloadN X8 hx (hb hby at_88) rfl ?_
            refine s_ifN X8 hx (hb hby at_89) ((if0 _ _).trans (teq hb_).2) ?_
            refine s_iload X8 hx (hb hby at_92) rfl ?_
            refine s_ifN X8 hx (hb hby at_94) (by decide) ?_
            refine s_lload X8 hx (hb hby at_97) rfl ?_
            refine s_lconst X8 hx (0 : Int64) (hb hby at_99) ?_ (by decide)
            refine s_lcmp X8 hx (lcmpW vkb (0 : Int64)) (hb hby at_100) rfl ?_
            refine s_ifN X8 hx (hb hby at_101) ((if0 _ _).trans (teq (own_leq.mpr hkb_)).2) ?_
            refine s_iconst X8 hx (1 : Int32) (hb hby at_104) rfl ?_
            refine s_goto X8 hx 109 (hb hby at_105) (by decide) (by decide) ?_
            refine s_istore X8 hx #[.val (.int va), .val (.long vk), .second, .val (.int vb), .val (.long vkb), .second, .val (.int vc), .val (.long vkc), .second, .val (.int (1 : Int32)), .val (.ref ob), .val (.int (2 : Int32)), .val (.int (3 : Int32)), .val (.int (4 : Int32)), .val (.int (1 : Int32)), .unset, .unset, .unset] (hb hby at_109) rfl ?_
            refine s_iload X8 hx (hb hby at_111) rfl ?_
            refine s_ifN X8 hx (hb hby at_113) ((if0 _ _).trans (teq hc_).2) ?_
            refine s_iload X8 hx (hb hby at_116) rfl ?_
            refine s_ifN X8 hx (hb hby at_118) (by decide) ?_
            refine s_lload X8 hx (hb hby at_121) rfl ?_
            refine s_lconst X8 hx (0 : Int64) (hb hby at_123) ?_ (by decide)
            refine s_lcmp X8 hx (lcmpW vkc (0 : Int64)) (hb hby at_124) rfl ?_
            refine s_ifY X8 hx 132 (hb hby at_125) ((if0 _ _).trans (feq (mt own_leq.mp hkc_)).2) (by decide) (by decide) ?_
            refine s_iconst X8 hx (0 : Int32) (hb hby at_132) rfl ?_
            refine s_istore X8 hx #[.val (.int va), .val (.long vk), .second, .val (.int vb), .val (.long vkb), .second, .val (.int vc), .val (.long vkc), .second, .val (.int (1 : Int32)), .val (.ref ob), .val (.int (2 : Int32)), .val (.int (3 : Int32)), .val (.int (4 : Int32)), .val (.int (1 : Int32)), .val (.int (0 : Int32)), .unset, .unset] (hb hby at_133) rfl ?_
            refine s_aload X8 hx (hb hby at_135) rfl rfl ?_
            refine s_iload X8 hx (hb hby at_137) rfl ?_
            refine st9.trans ?_
            refine s_istore X9 hx #[.val (.int va), .val (.long vk), .second, .val (.int vb), .val (.long vkb), .second, .val (.int vc), .val (.long vkc), .second, .val (.int (1 : Int32)), .val (.ref ob), .val (.int (2 : Int32)), .val (.int (3 : Int32)), .val (.int (4 : Int32)), .val (.int (1 : Int32)), .val (.int (0 : Int32)), .val (.int (1 : Int32)), .unset] (hb hby at_142) rfl ?_
            refine s_aload X9 hx (hb hby at_144) rfl rfl ?_
            refine s_iload X9 hx (hb hby at_146) rfl ?_
            refine st10.trans ?_
            refine s_istore X10 hx #[.val (.int va), .val (.long vk), .second, .val (.int vb), .val (.long vkb), .second, .val (.int vc), .val (.long vkc), .second, .val (.int (1 : Int32)), .val (.ref ob), .val (.int (2 : Int32)), .val (.int (3 : Int32)), .val (.int (4 : Int32)), .val (.int (1 : Int32)), .val (.int (0 : Int32)), .val (.int (1 : Int32)), .val (.int (0 : Int32))] (hb hby at_151) rfl ?_
            refine s_iload X10 hx (hb hby at_153) rfl ?_
            refine s_iload X10 hx (hb hby at_155) rfl ?_
            refine s_icmpN X10 hx (hb hby at_157) (by decide) ?_
            refine s_iload X10 hx (hb hby at_160) rfl ?_
            refine s_iload X10 hx (hb hby at_162) rfl ?_
            refine s_icmpN X10 hx (hb hby at_164) (by decide) ?_
            refine s_iconst X10 hx (1 : Int32) (hb hby at_167) rfl ?_
            refine s_goto X10 hx 172 (hb hby at_168) (by decide) (by decide) ?_
            exact retN X10 hx (t := .boolean) Bd.returns (by simp) (hb hby at_172) hr
          · exact ⟨rfl, N10⟩
      · obtain ⟨cq9, kq9, q9a, q9b, q9c⟩ := isOf hZ rfl P9.1
        obtain ⟨_, _, ⟨T9, L9, k9, n9⟩, -, X9, ⟨Lc9, hQ9, l9, y9, z9⟩, st9⟩ := X8.virtualBack hx (y := own_y40) (z := own_y40) hown (mvT hZ (own_w hw 256)) (mvT hZ (own_w hw 257)) (own_nf (args := #[]) (z := own_y17) (mvT hZ (own_w hw 103)) rfl) (mvT hZ (own_w hw 259)) (mvT hZ (own_w hw 258)) (by decide) (backOf (W := 0) (rm33_1 l Z a0 hw [] ob va vk vb vkb T8.heap n0 P9 (by decide) (by decide) rfl hF19 hV12_3 hV12_2 hV13_3 hV13_2 (own_ad.mpr hb_) (own_adL.mpr hkb_)) hZ (own_w hw 260) (own_w hw 2) (by decide) (by decide)) q9a q9c (g := (mkF m 139 #[.val (.int va), .val (.long vk), .second, .val (.int vb), .val (.long vkb), .second, .val (.int vc), .val (.long vkc), .second, .val (.int (1 : Int32)), .val (.ref ob), .val (.int (2 : Int32)), .val (.int (3 : Int32)), .val (.int (4 : Int32)), .val (.int (1 : Int32)), .val (.int (0 : Int32)), .unset, .unset] [(.int (3 : Int32)), (.ref ob)])) rfl (by rw [hml]; rfl) (Steps.refl _) (argsL := [(.int (3 : Int32))]) (rest := []) (lenOf own_pd7 rfl) rfl (by show 2 * 0 + _ ≤ _; exact Nat.le_of_eq rfl) (hb hby at_139) (fun _ _ => ⟨rfl, rfl, (by decide : 32 + 0 ≤ _), (by decide : 227 + 0 ≤ _)⟩)
        dsimp only [Pt.U, Pt.locs, Pt.cells, Pt.slots] at X9 l9 y9 z9 st9 hQ9
        subst l9 y9 z9
        obtain ⟨rfl, Nq9, eh9⟩ := hQ9
        have N9 := Fr.app N8 Nq9
        obtain ⟨cq10, kq10, q10a, q10b, q10c⟩ := isOf hZ eh9 P9.1
        obtain ⟨_, _, ⟨T10, L10, k10, n10⟩, -, X10, ⟨Lc10, hQ10, l10, y10, z10⟩, st10⟩ := X9.virtualBack hx (y := own_y40) (z := own_y40) hown (mvT hZ (own_w hw 256)) (mvT hZ (own_w hw 257)) (own_nf (args := #[]) (z := own_y17) (mvT hZ (own_w hw 103)) rfl) (mvT hZ (own_w hw 259)) (mvT hZ (own_w hw 258)) (by decide) (backOf (W := 0) (rm33_4 l Z a0 hw [] ob vc T8.heap n0 P9 (by decide) (by decide) hF19 hV12_4 (mt own_az.mp hc_)) hZ (own_w hw 260) (own_w hw 2) (by decide) (by decide)) q10a q10c (g := (mkF m 148 #[.val (.int va), .val (.long vk), .second, .val (.int vb), .val (.long vkb), .second, .val (.int vc), .val (.long vkc), .second, .val (.int (1 : Int32)), .val (.ref ob), .val (.int (2 : Int32)), .val (.int (3 : Int32)), .val (.int (4 : Int32)), .val (.int (1 : Int32)), .val (.int (0 : Int32)), .val (.int (1 : Int32)), .unset] [(.int (4 : Int32)), (.ref ob)])) rfl (by rw [hml]; rfl) (Steps.refl _) (argsL := [(.int (4 : Int32))]) (rest := []) (lenOf own_pd7 rfl) rfl (by show 2 * 0 + _ ≤ _; exact Nat.le_of_eq rfl) (hb hby at_148) (fun _ _ => ⟨rfl, eh9, (by decide : 32 + 0 ≤ _), (by decide : 227 + 0 ≤ _)⟩)
        dsimp only [Pt.U, Pt.locs, Pt.cells, Pt.slots] at X10 l10 y10 z10 st10 hQ10
        subst l10 y10 z10
        obtain ⟨rfl, Nq10, eh10⟩ := hQ10
        have N10 := Fr.app N9 Nq10
        obtain ⟨fs, hr, hrun, hended, hW, hsame⟩ := X10.leave (v := some (.int (1 : Int32))) (fun h => by rw [Bd.returns] at h; cases h)
        refine ⟨_, _, preM _ ?_, hrun, hended, _, _, rfl, ?_, ⟨_, rfl⟩, hW, hsame.mono (by decide) (by decide)⟩
        · refine s_iloadN X8 hx (hb hby at_88) rfl ?_
          refine s_ifN X8 hx (hb hby at_89) ((if0 _ _).trans (teq hb_).2) ?_
          refine s_iload X8 hx (hb hby at_92) rfl ?_
          refine s_ifN X8 hx (hb hby at_94) (by decide) ?_
          refine s_lload X8 hx (hb hby at_97) rfl ?_
          refine s_lconst X8 hx (0 : Int64) (hb hby at_99) ?_ (by decide)
          refine s_lcmp X8 hx (lcmpW vkb (0 : Int64)) (hb hby at_100) rfl ?_
          refine s_ifN X8 hx (hb hby at_101) ((if0 _ _).trans (teq (own_leq.mpr hkb_)).2) ?_
          refine s_iconst X8 hx (1 : Int32) (hb hby at_104) rfl ?_
          refine s_goto X8 hx 109 (hb hby at_105) (by decide) (by decide) ?_
          refine s_istore X8 hx #[.val (.int va), .val (.long vk), .second, .val (.int vb), .val (.long vkb), .second, .val (.int vc), .val (.long vkc), .second, .val (.int (1 : Int32)), .val (.ref ob), .val (.int (2 : Int32)), .val (.int (3 : Int32)), .val (.int (4 : Int32)), .val (.int (1 : Int32)), .unset, .unset, .unset] (hb hby at_109) rfl ?_
          refine s_iload X8 hx (hb hby at_111) rfl ?_
          refine s_ifY X8 hx 132 (hb hby at_113) ((if0 _ _).trans (feq hc_).2) (by decide) (by decide) ?_
          refine s_iconst X8 hx (0 : Int32) (hb hby at_132) rfl ?_
          refine s_istore X8 hx #[.val (.int va), .val (.long vk), .second, .val (.int vb), .val (.long vkb), .second, .val (.int vc), .val (.long vkc), .second, .val (.int (1 : Int32)), .val (.ref ob), .val (.int (2 : Int32)), .val (.int (3 : Int32)), .val (.int (4 : Int32)), .val (.int (1 : Int32)), .val (.int (0 : Int32)), .unset, .unset] (hb hby at_133) rfl ?_
          refine s_aload X8 hx (hb hby at_135) rfl rfl ?_
          refine s_iload X8 hx (hb hby at_137) rfl ?_
          refine st9.trans ?_
          refine s_istore X9 hx #[.val (.int va), .val (.long vk), .second, .val (.int vb), .val (.long vkb), .second, .val (.int vc), .val (.long vkc), .second, .val (.int (1 : Int32)), .val (.ref ob), .val (.int (2 : Int32)), .val (.int (3 : Int32)), .val (.int (4 : Int32)), .val (.int (1 : Int32)), .val (.int (0 : Int32)), .val (.int (1 : Int32)), .unset] (hb hby at_142) rfl ?_
          refine s_aload X9 hx (hb hby at_144) rfl rfl ?_
          refine s_iload X9 hx (hb hby at_146) rfl ?_
          refine st10.trans ?_
          refine s_istore X10 hx #[.val (.int va), .val (.long vk), .second, .val (.int vb), .val (.long vkb), .second, .val (.int vc), .val (.long vkc), .second, .val (.int (1 : Int32)), .val (.ref ob), .val (.int (2 : Int32)), .val (.int (3 : Int32)), .val (.int (4 : Int32)), .val (.int (1 : Int32)), .val (.int (0 : Int32)), .val (.int (1 : Int32)), .val (.int (0 : Int32))] (hb hby at_151) rfl ?_
          refine s_iload X10 hx (hb hby at_153) rfl ?_
          refine s_iload X10 hx (hb hby at_155) rfl ?_
          refine s_icmpN X10 hx (hb hby at_157) (by decide) ?_
          refine s_iload X10 hx (hb hby at_160) rfl ?_
          refine s_iload X10 hx (hb hby at_162) rfl ?_
          refine s_icmpN X10 hx (hb hby at_164) (by decide) ?_
          refine s_iconst X10 hx (1 : Int32) (hb hby at_167) rfl ?_
          refine s_goto X10 hx 172 (hb hby at_168) (by decide) (by decide) ?_
          exact retN X10 hx (t := .boolean) Bd.returns (by simp) (hb hby at_172) hr
        · exact ⟨rfl, N10⟩
    · by_cases hc_ : vc = (0 : Int32)
      · by_cases hkc_ : vkc = (0 : Int64)
        · obtain ⟨cq9, kq9, q9a, q9b, q9c⟩ := isOf hZ rfl P9.1
          obtain ⟨_, _, ⟨T9, L9, k9, n9⟩, -, X9, ⟨Lc9, hQ9, l9, y9, z9⟩, st9⟩ := X8.virtualBack hx (y := own_y40) (z := own_y40) hown (mvT hZ (own_w hw 256)) (mvT hZ (own_w hw 257)) (own_nf (args := #[]) (z := own_y17) (mvT hZ (own_w hw 103)) rfl) (mvT hZ (own_w hw 259)) (mvT hZ (own_w hw 258)) (by decide) (backOf (W := 0) (rm33_5 l Z a0 hw [] ob va vk vb vkb T8.heap n0 P9 (by decide) (by decide) rfl hF19 hV12_3 hV12_2 hV13_3 hV13_2 (own_ad.mpr hb_) (mt own_adL.mp hkb_)) hZ (own_w hw 260) (own_w hw 2) (by decide) (by decide)) q9a q9c (g := (mkF m 139 #[.val (.int va), .val (.long vk), .second, .val (.int vb), .val (.long vkb), .second, .val (.int vc), .val (.long vkc), .second, .val (.int (1 : Int32)), .val (.ref ob), .val (.int (2 : Int32)), .val (.int (3 : Int32)), .val (.int (4 : Int32)), .val (.int (0 : Int32)), .val (.int (1 : Int32)), .unset, .unset] [(.int (3 : Int32)), (.ref ob)])) rfl (by rw [hml]; rfl) (Steps.refl _) (argsL := [(.int (3 : Int32))]) (rest := []) (lenOf own_pd7 rfl) rfl (by show 2 * 0 + _ ≤ _; exact Nat.le_of_eq rfl) (hb hby at_139) (fun _ _ => ⟨rfl, rfl, (by decide : 32 + 0 ≤ _), (by decide : 227 + 0 ≤ _)⟩)
          dsimp only [Pt.U, Pt.locs, Pt.cells, Pt.slots] at X9 l9 y9 z9 st9 hQ9
          subst l9 y9 z9
          obtain ⟨rfl, Nq9, eh9⟩ := hQ9
          have N9 := Fr.app N8 Nq9
          obtain ⟨cq10, kq10, q10a, q10b, q10c⟩ := isOf hZ eh9 P9.1
          obtain ⟨_, _, ⟨T10, L10, k10, n10⟩, -, X10, ⟨Lc10, hQ10, l10, y10, z10⟩, st10⟩ := X9.virtualBack hx (y := own_y40) (z := own_y40) hown (mvT hZ (own_w hw 256)) (mvT hZ (own_w hw 257)) (own_nf (args := #[]) (z := own_y17) (mvT hZ (own_w hw 103)) rfl) (mvT hZ (own_w hw 259)) (mvT hZ (own_w hw 258)) (by decide) (backOf (W := 0) (rm33_2 l Z a0 hw [] ob vc vkc T8.heap n0 P9 (by decide) (by decide) rfl hF19 hV12_4 hV13_4 (own_az.mpr hc_) (own_azL.mpr hkc_)) hZ (own_w hw 260) (own_w hw 2) (by decide) (by decide)) q10a q10c (g := (mkF m 148 #[.val (.int va), .val (.long vk), .second, .val (.int vb), .val (.long vkb), .second, .val (.int vc), .val (.long vkc), .second, .val (.int (1 : Int32)), .val (.ref ob), .val (.int (2 : Int32)), .val (.int (3 : Int32)), .val (.int (4 : Int32)), .val (.int (0 : Int32)), .val (.int (1 : Int32)), .val (.int (0 : Int32)), .unset] [(.int (4 : Int32)), (.ref ob)])) rfl (by rw [hml]; rfl) (Steps.refl _) (argsL := [(.int (4 : Int32))]) (rest := []) (lenOf own_pd7 rfl) rfl (by show 2 * 0 + _ ≤ _; exact Nat.le_of_eq rfl) (hb hby at_148) (fun _ _ => ⟨rfl, eh9, (by decide : 32 + 0 ≤ _), (by decide : 227 + 0 ≤ _)⟩)
          dsimp only [Pt.U, Pt.locs, Pt.cells, Pt.slots] at X10 l10 y10 z10 st10 hQ10
          subst l10 y10 z10
          obtain ⟨rfl, Nq10, eh10⟩ := hQ10
          have N10 := Fr.app N9 Nq10
          obtain ⟨fs, hr, hrun, hended, hW, hsame⟩ := X10.leave (v := some (.int (1 : Int32))) (fun h => by rw [Bd.returns] at h; cases h)
          refine ⟨_, _, preM _ ?_, hrun, hended, _, _, rfl, ?_, ⟨_, rfl⟩, hW, hsame.mono (by decide) (by decide)⟩
          · refine s_iloadN X8 hx (hb hby at_88) rfl ?_
            refine s_ifN X8 hx (hb hby at_89) ((if0 _ _).trans (teq hb_).2) ?_
            refine s_iload X8 hx (hb hby at_92) rfl ?_
            refine s_ifN X8 hx (hb hby at_94) (by decide) ?_
            refine s_lload X8 hx (hb hby at_97) rfl ?_
            refine s_lconst X8 hx (0 : Int64) (hb hby at_99) ?_ (by decide)
            refine s_lcmp X8 hx (lcmpW vkb (0 : Int64)) (hb hby at_100) rfl ?_
            refine s_ifY X8 hx 108 (hb hby at_101) ((if0 _ _).trans (feq (mt own_leq.mp hkb_)).2) (by decide) (by decide) ?_
            refine s_iconst X8 hx (0 : Int32) (hb hby at_108) rfl ?_
            refine s_istore X8 hx #[.val (.int va), .val (.long vk), .second, .val (.int vb), .val (.long vkb), .second, .val (.int vc), .val (.long vkc), .second, .val (.int (1 : Int32)), .val (.ref ob), .val (.int (2 : Int32)), .val (.int (3 : Int32)), .val (.int (4 : Int32)), .val (.int (0 : Int32)), .unset, .unset, .unset] (hb hby at_109) rfl ?_
            refine s_iload X8 hx (hb hby at_111) rfl ?_
            refine s_ifN X8 hx (hb hby at_113) ((if0 _ _).trans (teq hc_).2) ?_
            refine s_iload X8 hx (hb hby at_116) rfl ?_
            refine s_ifN X8 hx (hb hby at_118) (by decide) ?_
            refine s_lload X8 hx (hb hby at_121) rfl ?_
            refine s_lconst X8 hx (0 : Int64) (hb hby at_123) ?_ (by decide)
            refine s_lcmp X8 hx (lcmpW vkc (0 : Int64)) (hb hby at_124) rfl ?_
            refine s_ifN X8 hx (hb hby at_125) ((if0 _ _).trans (teq (own_leq.mpr hkc_)).2) ?_
            refine s_iconst X8 hx (1 : Int32) (hb hby at_128) rfl ?_
            refine s_goto X8 hx 133 (hb hby at_129) (by decide) (by decide) ?_
            refine s_istore X8 hx #[.val (.int va), .val (.long vk), .second, .val (.int vb), .val (.long vkb), .second, .val (.int vc), .val (.long vkc), .second, .val (.int (1 : Int32)), .val (.ref ob), .val (.int (2 : Int32)), .val (.int (3 : Int32)), .val (.int (4 : Int32)), .val (.int (0 : Int32)), .val (.int (1 : Int32)), .unset, .unset] (hb hby at_133) rfl ?_
            refine s_aload X8 hx (hb hby at_135) rfl rfl ?_
            refine s_iload X8 hx (hb hby at_137) rfl ?_
            refine st9.trans ?_
            refine s_istore X9 hx #[.val (.int va), .val (.long vk), .second, .val (.int vb), .val (.long vkb), .second, .val (.int vc), .val (.long vkc), .second, .val (.int (1 : Int32)), .val (.ref ob), .val (.int (2 : Int32)), .val (.int (3 : Int32)), .val (.int (4 : Int32)), .val (.int (0 : Int32)), .val (.int (1 : Int32)), .val (.int (0 : Int32)), .unset] (hb hby at_142) rfl ?_
            refine s_aload X9 hx (hb hby at_144) rfl rfl ?_
            refine s_iload X9 hx (hb hby at_146) rfl ?_
            refine st10.trans ?_
            refine s_istore X10 hx #[.val (.int va), .val (.long vk), .second, .val (.int vb), .val (.long vkb), .second, .val (.int vc), .val (.long vkc), .second, .val (.int (1 : Int32)), .val (.ref ob), .val (.int (2 : Int32)), .val (.int (3 : Int32)), .val (.int (4 : Int32)), .val (.int (0 : Int32)), .val (.int (1 : Int32)), .val (.int (0 : Int32)), .val (.int (1 : Int32))] (hb hby at_151) rfl ?_
            refine s_iload X10 hx (hb hby at_153) rfl ?_
            refine s_iload X10 hx (hb hby at_155) rfl ?_
            refine s_icmpN X10 hx (hb hby at_157) (by decide) ?_
            refine s_iload X10 hx (hb hby at_160) rfl ?_
            refine s_iload X10 hx (hb hby at_162) rfl ?_
            refine s_icmpN X10 hx (hb hby at_164) (by decide) ?_
            refine s_iconst X10 hx (1 : Int32) (hb hby at_167) rfl ?_
            refine s_goto X10 hx 172 (hb hby at_168) (by decide) (by decide) ?_
            exact retN X10 hx (t := .boolean) Bd.returns (by simp) (hb hby at_172) hr
          · exact ⟨rfl, N10⟩
        · obtain ⟨cq9, kq9, q9a, q9b, q9c⟩ := isOf hZ rfl P9.1
          obtain ⟨_, _, ⟨T9, L9, k9, n9⟩, -, X9, ⟨Lc9, hQ9, l9, y9, z9⟩, st9⟩ := X8.virtualBack hx (y := own_y40) (z := own_y40) hown (mvT hZ (own_w hw 256)) (mvT hZ (own_w hw 257)) (own_nf (args := #[]) (z := own_y17) (mvT hZ (own_w hw 103)) rfl) (mvT hZ (own_w hw 259)) (mvT hZ (own_w hw 258)) (by decide) (backOf (W := 0) (rm33_5 l Z a0 hw [] ob va vk vb vkb T8.heap n0 P9 (by decide) (by decide) rfl hF19 hV12_3 hV12_2 hV13_3 hV13_2 (own_ad.mpr hb_) (mt own_adL.mp hkb_)) hZ (own_w hw 260) (own_w hw 2) (by decide) (by decide)) q9a q9c (g := (mkF m 139 #[.val (.int va), .val (.long vk), .second, .val (.int vb), .val (.long vkb), .second, .val (.int vc), .val (.long vkc), .second, .val (.int (1 : Int32)), .val (.ref ob), .val (.int (2 : Int32)), .val (.int (3 : Int32)), .val (.int (4 : Int32)), .val (.int (0 : Int32)), .val (.int (0 : Int32)), .unset, .unset] [(.int (3 : Int32)), (.ref ob)])) rfl (by rw [hml]; rfl) (Steps.refl _) (argsL := [(.int (3 : Int32))]) (rest := []) (lenOf own_pd7 rfl) rfl (by show 2 * 0 + _ ≤ _; exact Nat.le_of_eq rfl) (hb hby at_139) (fun _ _ => ⟨rfl, rfl, (by decide : 32 + 0 ≤ _), (by decide : 227 + 0 ≤ _)⟩)
          dsimp only [Pt.U, Pt.locs, Pt.cells, Pt.slots] at X9 l9 y9 z9 st9 hQ9
          subst l9 y9 z9
          obtain ⟨rfl, Nq9, eh9⟩ := hQ9
          have N9 := Fr.app N8 Nq9
          obtain ⟨cq10, kq10, q10a, q10b, q10c⟩ := isOf hZ eh9 P9.1
          obtain ⟨_, _, ⟨T10, L10, k10, n10⟩, -, X10, ⟨Lc10, hQ10, l10, y10, z10⟩, st10⟩ := X9.virtualBack hx (y := own_y40) (z := own_y40) hown (mvT hZ (own_w hw 256)) (mvT hZ (own_w hw 257)) (own_nf (args := #[]) (z := own_y17) (mvT hZ (own_w hw 103)) rfl) (mvT hZ (own_w hw 259)) (mvT hZ (own_w hw 258)) (by decide) (backOf (W := 0) (rm33_3 l Z a0 hw [] ob vc vkc T8.heap n0 P9 (by decide) (by decide) rfl hF19 hV12_4 hV13_4 (own_az.mpr hc_) (mt own_azL.mp hkc_)) hZ (own_w hw 260) (own_w hw 2) (by decide) (by decide)) q10a q10c (g := (mkF m 148 #[.val (.int va), .val (.long vk), .second, .val (.int vb), .val (.long vkb), .second, .val (.int vc), .val (.long vkc), .second, .val (.int (1 : Int32)), .val (.ref ob), .val (.int (2 : Int32)), .val (.int (3 : Int32)), .val (.int (4 : Int32)), .val (.int (0 : Int32)), .val (.int (0 : Int32)), .val (.int (0 : Int32)), .unset] [(.int (4 : Int32)), (.ref ob)])) rfl (by rw [hml]; rfl) (Steps.refl _) (argsL := [(.int (4 : Int32))]) (rest := []) (lenOf own_pd7 rfl) rfl (by show 2 * 0 + _ ≤ _; exact Nat.le_of_eq rfl) (hb hby at_148) (fun _ _ => ⟨rfl, eh9, (by decide : 32 + 0 ≤ _), (by decide : 227 + 0 ≤ _)⟩)
          dsimp only [Pt.U, Pt.locs, Pt.cells, Pt.slots] at X10 l10 y10 z10 st10 hQ10
          subst l10 y10 z10
          obtain ⟨rfl, Nq10, eh10⟩ := hQ10
          have N10 := Fr.app N9 Nq10
          obtain ⟨fs, hr, hrun, hended, hW, hsame⟩ := X10.leave (v := some (.int (1 : Int32))) (fun h => by rw [Bd.returns] at h; cases h)
          refine ⟨_, _, preM _ ?_, hrun, hended, _, _, rfl, ?_, ⟨_, rfl⟩, hW, hsame.mono (by decide) (by decide)⟩
          · refine s_iloadN X8 hx (hb hby at_88) rfl ?_
            refine s_ifN X8 hx (hb hby at_89) ((if0 _ _).trans (teq hb_).2) ?_
            refine s_iload X8 hx (hb hby at_92) rfl ?_
            refine s_ifN X8 hx (hb hby at_94) (by decide) ?_
            refine s_lload X8 hx (hb hby at_97) rfl ?_
            refine s_lconst X8 hx (0 : Int64) (hb hby at_99) ?_ (by decide)
            refine s_lcmp X8 hx (lcmpW vkb (0 : Int64)) (hb hby at_100) rfl ?_
            refine s_ifY X8 hx 108 (hb hby at_101) ((if0 _ _).trans (feq (mt own_leq.mp hkb_)).2) (by decide) (by decide) ?_
            refine s_iconst X8 hx (0 : Int32) (hb hby at_108) rfl ?_
            refine s_istore X8 hx #[.val (.int va), .val (.long vk), .second, .val (.int vb), .val (.long vkb), .second, .val (.int vc), .val (.long vkc), .second, .val (.int (1 : Int32)), .val (.ref ob), .val (.int (2 : Int32)), .val (.int (3 : Int32)), .val (.int (4 : Int32)), .val (.int (0 : Int32)), .unset, .unset, .unset] (hb hby at_109) rfl ?_
            refine s_iload X8 hx (hb hby at_111) rfl ?_
            refine s_ifN X8 hx (hb hby at_113) ((if0 _ _).trans (teq hc_).2) ?_
            refine s_iload X8 hx (hb hby at_116) rfl ?_
            refine s_ifN X8 hx (hb hby at_118) (by decide) ?_
            refine s_lload X8 hx (hb hby at_121) rfl ?_
            refine s_lconst X8 hx (0 : Int64) (hb hby at_123) ?_ (by decide)
            refine s_lcmp X8 hx (lcmpW vkc (0 : Int64)) (hb hby at_124) rfl ?_
            refine s_ifY X8 hx 132 (hb hby at_125) ((if0 _ _).trans (feq (mt own_leq.mp hkc_)).2) (by decide) (by decide) ?_
            refine s_iconst X8 hx (0 : Int32) (hb hby at_132) rfl ?_
            refine s_istore X8 hx #[.val (.int va), .val (.long vk), .second, .val (.int vb), .val (.long vkb), .second, .val (.int vc), .val (.long vkc), .second, .val (.int (1 : Int32)), .val (.ref ob), .val (.int (2 : Int32)), .val (.int (3 : Int32)), .val (.int (4 : Int32)), .val (.int (0 : Int32)), .val (.int (0 : Int32)), .unset, .unset] (hb hby at_133) rfl ?_
            refine s_aload X8 hx (hb hby at_135) rfl rfl ?_
            refine s_iload X8 hx (hb hby at_137) rfl ?_
            refine st9.trans ?_
            refine s_istore X9 hx #[.val (.int va), .val (.long vk), .second, .val (.int vb), .val (.long vkb), .second, .val (.int vc), .val (.long vkc), .second, .val (.int (1 : Int32)), .val (.ref ob), .val (.int (2 : Int32)), .val (.int (3 : Int32)), .val (.int (4 : Int32)), .val (.int (0 : Int32)), .val (.int (0 : Int32)), .val (.int (0 : Int32)), .unset] (hb hby at_142) rfl ?_
            refine s_aload X9 hx (hb hby at_144) rfl rfl ?_
            refine s_iload X9 hx (hb hby at_146) rfl ?_
            refine st10.trans ?_
            refine s_istore X10 hx #[.val (.int va), .val (.long vk), .second, .val (.int vb), .val (.long vkb), .second, .val (.int vc), .val (.long vkc), .second, .val (.int (1 : Int32)), .val (.ref ob), .val (.int (2 : Int32)), .val (.int (3 : Int32)), .val (.int (4 : Int32)), .val (.int (0 : Int32)), .val (.int (0 : Int32)), .val (.int (0 : Int32)), .val (.int (0 : Int32))] (hb hby at_151) rfl ?_
            refine s_iload X10 hx (hb hby at_153) rfl ?_
            refine s_iload X10 hx (hb hby at_155) rfl ?_
            refine s_icmpN X10 hx (hb hby at_157) (by decide) ?_
            refine s_iload X10 hx (hb hby at_160) rfl ?_
            refine s_iload X10 hx (hb hby at_162) rfl ?_
            refine s_icmpN X10 hx (hb hby at_164) (by decide) ?_
            refine s_iconst X10 hx (1 : Int32) (hb hby at_167) rfl ?_
            refine s_goto X10 hx 172 (hb hby at_168) (by decide) (by decide) ?_
            exact retN X10 hx (t := .boolean) Bd.returns (by simp) (hb hby at_172) hr
          · exact ⟨rfl, N10⟩
      · obtain ⟨cq9, kq9, q9a, q9b, q9c⟩ := isOf hZ rfl P9.1
        obtain ⟨_, _, ⟨T9, L9, k9, n9⟩, -, X9, ⟨Lc9, hQ9, l9, y9, z9⟩, st9⟩ := X8.virtualBack hx (y := own_y40) (z := own_y40) hown (mvT hZ (own_w hw 256)) (mvT hZ (own_w hw 257)) (own_nf (args := #[]) (z := own_y17) (mvT hZ (own_w hw 103)) rfl) (mvT hZ (own_w hw 259)) (mvT hZ (own_w hw 258)) (by decide) (backOf (W := 0) (rm33_5 l Z a0 hw [] ob va vk vb vkb T8.heap n0 P9 (by decide) (by decide) rfl hF19 hV12_3 hV12_2 hV13_3 hV13_2 (own_ad.mpr hb_) (mt own_adL.mp hkb_)) hZ (own_w hw 260) (own_w hw 2) (by decide) (by decide)) q9a q9c (g := (mkF m 139 #[.val (.int va), .val (.long vk), .second, .val (.int vb), .val (.long vkb), .second, .val (.int vc), .val (.long vkc), .second, .val (.int (1 : Int32)), .val (.ref ob), .val (.int (2 : Int32)), .val (.int (3 : Int32)), .val (.int (4 : Int32)), .val (.int (0 : Int32)), .val (.int (0 : Int32)), .unset, .unset] [(.int (3 : Int32)), (.ref ob)])) rfl (by rw [hml]; rfl) (Steps.refl _) (argsL := [(.int (3 : Int32))]) (rest := []) (lenOf own_pd7 rfl) rfl (by show 2 * 0 + _ ≤ _; exact Nat.le_of_eq rfl) (hb hby at_139) (fun _ _ => ⟨rfl, rfl, (by decide : 32 + 0 ≤ _), (by decide : 227 + 0 ≤ _)⟩)
        dsimp only [Pt.U, Pt.locs, Pt.cells, Pt.slots] at X9 l9 y9 z9 st9 hQ9
        subst l9 y9 z9
        obtain ⟨rfl, Nq9, eh9⟩ := hQ9
        have N9 := Fr.app N8 Nq9
        obtain ⟨cq10, kq10, q10a, q10b, q10c⟩ := isOf hZ eh9 P9.1
        obtain ⟨_, _, ⟨T10, L10, k10, n10⟩, -, X10, ⟨Lc10, hQ10, l10, y10, z10⟩, st10⟩ := X9.virtualBack hx (y := own_y40) (z := own_y40) hown (mvT hZ (own_w hw 256)) (mvT hZ (own_w hw 257)) (own_nf (args := #[]) (z := own_y17) (mvT hZ (own_w hw 103)) rfl) (mvT hZ (own_w hw 259)) (mvT hZ (own_w hw 258)) (by decide) (backOf (W := 0) (rm33_4 l Z a0 hw [] ob vc T8.heap n0 P9 (by decide) (by decide) hF19 hV12_4 (mt own_az.mp hc_)) hZ (own_w hw 260) (own_w hw 2) (by decide) (by decide)) q10a q10c (g := (mkF m 148 #[.val (.int va), .val (.long vk), .second, .val (.int vb), .val (.long vkb), .second, .val (.int vc), .val (.long vkc), .second, .val (.int (1 : Int32)), .val (.ref ob), .val (.int (2 : Int32)), .val (.int (3 : Int32)), .val (.int (4 : Int32)), .val (.int (0 : Int32)), .val (.int (0 : Int32)), .val (.int (0 : Int32)), .unset] [(.int (4 : Int32)), (.ref ob)])) rfl (by rw [hml]; rfl) (Steps.refl _) (argsL := [(.int (4 : Int32))]) (rest := []) (lenOf own_pd7 rfl) rfl (by show 2 * 0 + _ ≤ _; exact Nat.le_of_eq rfl) (hb hby at_148) (fun _ _ => ⟨rfl, eh9, (by decide : 32 + 0 ≤ _), (by decide : 227 + 0 ≤ _)⟩)
        dsimp only [Pt.U, Pt.locs, Pt.cells, Pt.slots] at X10 l10 y10 z10 st10 hQ10
        subst l10 y10 z10
        obtain ⟨rfl, Nq10, eh10⟩ := hQ10
        have N10 := Fr.app N9 Nq10
        obtain ⟨fs, hr, hrun, hended, hW, hsame⟩ := X10.leave (v := some (.int (1 : Int32))) (fun h => by rw [Bd.returns] at h; cases h)
        refine ⟨_, _, preM _ ?_, hrun, hended, _, _, rfl, ?_, ⟨_, rfl⟩, hW, hsame.mono (by decide) (by decide)⟩
        · refine s_iloadN X8 hx (hb hby at_88) rfl ?_
          refine s_ifN X8 hx (hb hby at_89) ((if0 _ _).trans (teq hb_).2) ?_
          refine s_iload X8 hx (hb hby at_92) rfl ?_
          refine s_ifN X8 hx (hb hby at_94) (by decide) ?_
          refine s_lload X8 hx (hb hby at_97) rfl ?_
          refine s_lconst X8 hx (0 : Int64) (hb hby at_99) ?_ (by decide)
          refine s_lcmp X8 hx (lcmpW vkb (0 : Int64)) (hb hby at_100) rfl ?_
          refine s_ifY X8 hx 108 (hb hby at_101) ((if0 _ _).trans (feq (mt own_leq.mp hkb_)).2) (by decide) (by decide) ?_
          refine s_iconst X8 hx (0 : Int32) (hb hby at_108) rfl ?_
          refine s_istore X8 hx #[.val (.int va), .val (.long vk), .second, .val (.int vb), .val (.long vkb), .second, .val (.int vc), .val (.long vkc), .second, .val (.int (1 : Int32)), .val (.ref ob), .val (.int (2 : Int32)), .val (.int (3 : Int32)), .val (.int (4 : Int32)), .val (.int (0 : Int32)), .unset, .unset, .unset] (hb hby at_109) rfl ?_
          refine s_iload X8 hx (hb hby at_111) rfl ?_
          refine s_ifY X8 hx 132 (hb hby at_113) ((if0 _ _).trans (feq hc_).2) (by decide) (by decide) ?_
          refine s_iconst X8 hx (0 : Int32) (hb hby at_132) rfl ?_
          refine s_istore X8 hx #[.val (.int va), .val (.long vk), .second, .val (.int vb), .val (.long vkb), .second, .val (.int vc), .val (.long vkc), .second, .val (.int (1 : Int32)), .val (.ref ob), .val (.int (2 : Int32)), .val (.int (3 : Int32)), .val (.int (4 : Int32)), .val (.int (0 : Int32)), .val (.int (0 : Int32)), .unset, .unset] (hb hby at_133) rfl ?_
          refine s_aload X8 hx (hb hby at_135) rfl rfl ?_
          refine s_iload X8 hx (hb hby at_137) rfl ?_
          refine st9.trans ?_
          refine s_istore X9 hx #[.val (.int va), .val (.long vk), .second, .val (.int vb), .val (.long vkb), .second, .val (.int vc), .val (.long vkc), .second, .val (.int (1 : Int32)), .val (.ref ob), .val (.int (2 : Int32)), .val (.int (3 : Int32)), .val (.int (4 : Int32)), .val (.int (0 : Int32)), .val (.int (0 : Int32)), .val (.int (0 : Int32)), .unset] (hb hby at_142) rfl ?_
          refine s_aload X9 hx (hb hby at_144) rfl rfl ?_
          refine s_iload X9 hx (hb hby at_146) rfl ?_
          refine st10.trans ?_
          refine s_istore X10 hx #[.val (.int va), .val (.long vk), .second, .val (.int vb), .val (.long vkb), .second, .val (.int vc), .val (.long vkc), .second, .val (.int (1 : Int32)), .val (.ref ob), .val (.int (2 : Int32)), .val (.int (3 : Int32)), .val (.int (4 : Int32)), .val (.int (0 : Int32)), .val (.int (0 : Int32)), .val (.int (0 : Int32)), .val (.int (0 : Int32))] (hb hby at_151) rfl ?_
          refine s_iload X10 hx (hb hby at_153) rfl ?_
          refine s_iload X10 hx (hb hby at_155) rfl ?_
          refine s_icmpN X10 hx (hb hby at_157) (by decide) ?_
          refine s_iload X10 hx (hb hby at_160) rfl ?_
          refine s_iload X10 hx (hb hby at_162) rfl ?_
          refine s_icmpN X10 hx (hb hby at_164) (by decide) ?_
          refine s_iconst X10 hx (1 : Int32) (hb hby at_167) rfl ?_
          refine s_goto X10 hx 172 (hb hby at_168) (by decide) (by decide) ?_
          exact retN X10 hx (t := .boolean) Bd.returns (by simp) (hb hby at_172) hr
        · exact ⟨rfl, N10⟩
  · by_cases hc_ : vc = (0 : Int32)
    · by_cases hkc_ : vkc = (0 : Int64)
      · obtain ⟨cq9, kq9, q9a, q9b, q9c⟩ := isOf hZ rfl P9.1
        obtain ⟨_, _, ⟨T9, L9, k9, n9⟩, -, X9, ⟨Lc9, hQ9, l9, y9, z9⟩, st9⟩ := X8.virtualBack hx (y := own_y40) (z := own_y40) hown (mvT hZ (own_w hw 256)) (mvT hZ (own_w hw 257)) (own_nf (args := #[]) (z := own_y17) (mvT hZ (own_w hw 103)) rfl) (mvT hZ (own_w hw 259)) (mvT hZ (own_w hw 258)) (by decide) (backOf (W := 0) (rm33_6 l Z a0 hw [] ob va vb T8.heap n0 P9 (by decide) (by decide) hF19 hV12_3 hV12_2 (mt own_ad.mp hb_)) hZ (own_w hw 260) (own_w hw 2) (by decide) (by decide)) q9a q9c (g := (mkF m 139 #[.val (.int va), .val (.long vk), .second, .val (.int vb), .val (.long vkb), .second, .val (.int vc), .val (.long vkc), .second, .val (.int (1 : Int32)), .val (.ref ob), .val (.int (2 : Int32)), .val (.int (3 : Int32)), .val (.int (4 : Int32)), .val (.int (0 : Int32)), .val (.int (1 : Int32)), .unset, .unset] [(.int (3 : Int32)), (.ref ob)])) rfl (by rw [hml]; rfl) (Steps.refl _) (argsL := [(.int (3 : Int32))]) (rest := []) (lenOf own_pd7 rfl) rfl (by show 2 * 0 + _ ≤ _; exact Nat.le_of_eq rfl) (hb hby at_139) (fun _ _ => ⟨rfl, rfl, (by decide : 32 + 0 ≤ _), (by decide : 227 + 0 ≤ _)⟩)
        dsimp only [Pt.U, Pt.locs, Pt.cells, Pt.slots] at X9 l9 y9 z9 st9 hQ9
        subst l9 y9 z9
        obtain ⟨rfl, Nq9, eh9⟩ := hQ9
        have N9 := Fr.app N8 Nq9
        obtain ⟨cq10, kq10, q10a, q10b, q10c⟩ := isOf hZ eh9 P9.1
        obtain ⟨_, _, ⟨T10, L10, k10, n10⟩, -, X10, ⟨Lc10, hQ10, l10, y10, z10⟩, st10⟩ := X9.virtualBack hx (y := own_y40) (z := own_y40) hown (mvT hZ (own_w hw 256)) (mvT hZ (own_w hw 257)) (own_nf (args := #[]) (z := own_y17) (mvT hZ (own_w hw 103)) rfl) (mvT hZ (own_w hw 259)) (mvT hZ (own_w hw 258)) (by decide) (backOf (W := 0) (rm33_2 l Z a0 hw [] ob vc vkc T8.heap n0 P9 (by decide) (by decide) rfl hF19 hV12_4 hV13_4 (own_az.mpr hc_) (own_azL.mpr hkc_)) hZ (own_w hw 260) (own_w hw 2) (by decide) (by decide)) q10a q10c (g := (mkF m 148 #[.val (.int va), .val (.long vk), .second, .val (.int vb), .val (.long vkb), .second, .val (.int vc), .val (.long vkc), .second, .val (.int (1 : Int32)), .val (.ref ob), .val (.int (2 : Int32)), .val (.int (3 : Int32)), .val (.int (4 : Int32)), .val (.int (0 : Int32)), .val (.int (1 : Int32)), .val (.int (0 : Int32)), .unset] [(.int (4 : Int32)), (.ref ob)])) rfl (by rw [hml]; rfl) (Steps.refl _) (argsL := [(.int (4 : Int32))]) (rest := []) (lenOf own_pd7 rfl) rfl (by show 2 * 0 + _ ≤ _; exact Nat.le_of_eq rfl) (hb hby at_148) (fun _ _ => ⟨rfl, eh9, (by decide : 32 + 0 ≤ _), (by decide : 227 + 0 ≤ _)⟩)
        dsimp only [Pt.U, Pt.locs, Pt.cells, Pt.slots] at X10 l10 y10 z10 st10 hQ10
        subst l10 y10 z10
        obtain ⟨rfl, Nq10, eh10⟩ := hQ10
        have N10 := Fr.app N9 Nq10
        obtain ⟨fs, hr, hrun, hended, hW, hsame⟩ := X10.leave (v := some (.int (1 : Int32))) (fun h => by rw [Bd.returns] at h; cases h)
        refine ⟨_, _, preM _ ?_, hrun, hended, _, _, rfl, ?_, ⟨_, rfl⟩, hW, hsame.mono (by decide) (by decide)⟩
        · refine s_iloadN X8 hx (hb hby at_88) rfl ?_
          refine s_ifY X8 hx 108 (hb hby at_89) ((if0 _ _).trans (feq hb_).2) (by decide) (by decide) ?_
          refine s_iconst X8 hx (0 : Int32) (hb hby at_108) rfl ?_
          refine s_istore X8 hx #[.val (.int va), .val (.long vk), .second, .val (.int vb), .val (.long vkb), .second, .val (.int vc), .val (.long vkc), .second, .val (.int (1 : Int32)), .val (.ref ob), .val (.int (2 : Int32)), .val (.int (3 : Int32)), .val (.int (4 : Int32)), .val (.int (0 : Int32)), .unset, .unset, .unset] (hb hby at_109) rfl ?_
          refine s_iload X8 hx (hb hby at_111) rfl ?_
          refine s_ifN X8 hx (hb hby at_113) ((if0 _ _).trans (teq hc_).2) ?_
          refine s_iload X8 hx (hb hby at_116) rfl ?_
          refine s_ifN X8 hx (hb hby at_118) (by decide) ?_
          refine s_lload X8 hx (hb hby at_121) rfl ?_
          refine s_lconst X8 hx (0 : Int64) (hb hby at_123) ?_ (by decide)
          refine s_lcmp X8 hx (lcmpW vkc (0 : Int64)) (hb hby at_124) rfl ?_
          refine s_ifN X8 hx (hb hby at_125) ((if0 _ _).trans (teq (own_leq.mpr hkc_)).2) ?_
          refine s_iconst X8 hx (1 : Int32) (hb hby at_128) rfl ?_
          refine s_goto X8 hx 133 (hb hby at_129) (by decide) (by decide) ?_
          refine s_istore X8 hx #[.val (.int va), .val (.long vk), .second, .val (.int vb), .val (.long vkb), .second, .val (.int vc), .val (.long vkc), .second, .val (.int (1 : Int32)), .val (.ref ob), .val (.int (2 : Int32)), .val (.int (3 : Int32)), .val (.int (4 : Int32)), .val (.int (0 : Int32)), .val (.int (1 : Int32)), .unset, .unset] (hb hby at_133) rfl ?_
          refine s_aload X8 hx (hb hby at_135) rfl rfl ?_
          refine s_iload X8 hx (hb hby at_137) rfl ?_
          refine st9.trans ?_
          refine s_istore X9 hx #[.val (.int va), .val (.long vk), .second, .val (.int vb), .val (.long vkb), .second, .val (.int vc), .val (.long vkc), .second, .val (.int (1 : Int32)), .val (.ref ob), .val (.int (2 : Int32)), .val (.int (3 : Int32)), .val (.int (4 : Int32)), .val (.int (0 : Int32)), .val (.int (1 : Int32)), .val (.int (0 : Int32)), .unset] (hb hby at_142) rfl ?_
          refine s_aload X9 hx (hb hby at_144) rfl rfl ?_
          refine s_iload X9 hx (hb hby at_146) rfl ?_
          refine st10.trans ?_
          refine s_istore X10 hx #[.val (.int va), .val (.long vk), .second, .val (.int vb), .val (.long vkb), .second, .val (.int vc), .val (.long vkc), .second, .val (.int (1 : Int32)), .val (.ref ob), .val (.int (2 : Int32)), .val (.int (3 : Int32)), .val (.int (4 : Int32)), .val (.int (0 : Int32)), .val (.int (1 : Int32)), .val (.int (0 : Int32)), .val (.int (1 : Int32))] (hb hby at_151) rfl ?_
          refine s_iload X10 hx (hb hby at_153) rfl ?_
          refine s_iload X10 hx (hb hby at_155) rfl ?_
          refine s_icmpN X10 hx (hb hby at_157) (by decide) ?_
          refine s_iload X10 hx (hb hby at_160) rfl ?_
          refine s_iload X10 hx (hb hby at_162) rfl ?_
          refine s_icmpN X10 hx (hb hby at_164) (by decide) ?_
          refine s_iconst X10 hx (1 : Int32) (hb hby at_167) rfl ?_
          refine s_goto X10 hx 172 (hb hby at_168) (by decide) (by decide) ?_
          exact retN X10 hx (t := .boolean) Bd.returns (by simp) (hb hby at_172) hr
        · exact ⟨rfl, N10⟩
      · obtain ⟨cq9, kq9, q9a, q9b, q9c⟩ := isOf hZ rfl P9.1
        obtain ⟨_, _, ⟨T9, L9, k9, n9⟩, -, X9, ⟨Lc9, hQ9, l9, y9, z9⟩, st9⟩ := X8.virtualBack hx (y := own_y40) (z := own_y40) hown (mvT hZ (own_w hw 256)) (mvT hZ (own_w hw 257)) (own_nf (args := #[]) (z := own_y17) (mvT hZ (own_w hw 103)) rfl) (mvT hZ (own_w hw 259)) (mvT hZ (own_w hw 258)) (by decide) (backOf (W := 0) (rm33_6 l Z a0 hw [] ob va vb T8.heap n0 P9 (by decide) (by decide) hF19 hV12_3 hV12_2 (mt own_ad.mp hb_)) hZ (own_w hw 260) (own_w hw 2) (by decide) (by decide)) q9a q9c (g := (mkF m 139 #[.val (.int va), .val (.long vk), .second, .val (.int vb), .val (.long vkb), .second, .val (.int vc), .val (.long vkc), .second, .val (.int (1 : Int32)), .val (.ref ob), .val (.int (2 : Int32)), .val (.int (3 : Int32)), .val (.int (4 : Int32)), .val (.int (0 : Int32)), .val (.int (0 : Int32)), .unset, .unset] [(.int (3 : Int32)), (.ref ob)])) rfl (by rw [hml]; rfl) (Steps.refl _) (argsL := [(.int (3 : Int32))]) (rest := []) (lenOf own_pd7 rfl) rfl (by show 2 * 0 + _ ≤ _; exact Nat.le_of_eq rfl) (hb hby at_139) (fun _ _ => ⟨rfl, rfl, (by decide : 32 + 0 ≤ _), (by decide : 227 + 0 ≤ _)⟩)
        dsimp only [Pt.U, Pt.locs, Pt.cells, Pt.slots] at X9 l9 y9 z9 st9 hQ9
        subst l9 y9 z9
        obtain ⟨rfl, Nq9, eh9⟩ := hQ9
        have N9 := Fr.app N8 Nq9
        obtain ⟨cq10, kq10, q10a, q10b, q10c⟩ := isOf hZ eh9 P9.1
        obtain ⟨_, _, ⟨T10, L10, k10, n10⟩, -, X10, ⟨Lc10, hQ10, l10, y10, z10⟩, st10⟩ := X9.virtualBack hx (y := own_y40) (z := own_y40) hown (mvT hZ (own_w hw 256)) (mvT hZ (own_w hw 257)) (own_nf (args := #[]) (z := own_y17) (mvT hZ (own_w hw 103)) rfl) (mvT hZ (own_w hw 259)) (mvT hZ (own_w hw 258)) (by decide) (backOf (W := 0) (rm33_3 l Z a0 hw [] ob vc vkc T8.heap n0 P9 (by decide) (by decide) rfl hF19 hV12_4 hV13_4 (own_az.mpr hc_) (mt own_azL.mp hkc_)) hZ (own_w hw 260) (own_w hw 2) (by decide) (by decide)) q10a q10c (g := (mkF m 148 #[.val (.int va), .val (.long vk), .second, .val (.int vb), .val (.long vkb), .second, .val (.int vc), .val (.long vkc), .second, .val (.int (1 : Int32)), .val (.ref ob), .val (.int (2 : Int32)), .val (.int (3 : Int32)), .val (.int (4 : Int32)), .val (.int (0 : Int32)), .val (.int (0 : Int32)), .val (.int (0 : Int32)), .unset] [(.int (4 : Int32)), (.ref ob)])) rfl (by rw [hml]; rfl) (Steps.refl _) (argsL := [(.int (4 : Int32))]) (rest := []) (lenOf own_pd7 rfl) rfl (by show 2 * 0 + _ ≤ _; exact Nat.le_of_eq rfl) (hb hby at_148) (fun _ _ => ⟨rfl, eh9, (by decide : 32 + 0 ≤ _), (by decide : 227 + 0 ≤ _)⟩)
        dsimp only [Pt.U, Pt.locs, Pt.cells, Pt.slots] at X10 l10 y10 z10 st10 hQ10
        subst l10 y10 z10
        obtain ⟨rfl, Nq10, eh10⟩ := hQ10
        have N10 := Fr.app N9 Nq10
        obtain ⟨fs, hr, hrun, hended, hW, hsame⟩ := X10.leave (v := some (.int (1 : Int32))) (fun h => by rw [Bd.returns] at h; cases h)
        refine ⟨_, _, preM _ ?_, hrun, hended, _, _, rfl, ?_, ⟨_, rfl⟩, hW, hsame.mono (by decide) (by decide)⟩
        · refine s_iloadN X8 hx (hb hby at_88) rfl ?_
          refine s_ifY X8 hx 108 (hb hby at_89) ((if0 _ _).trans (feq hb_).2) (by decide) (by decide) ?_
          refine s_iconst X8 hx (0 : Int32) (hb hby at_108) rfl ?_
          refine s_istore X8 hx #[.val (.int va), .val (.long vk), .second, .val (.int vb), .val (.long vkb), .second, .val (.int vc), .val (.long vkc), .second, .val (.int (1 : Int32)), .val (.ref ob), .val (.int (2 : Int32)), .val (.int (3 : Int32)), .val (.int (4 : Int32)), .val (.int (0 : Int32)), .unset, .unset, .unset] (hb hby at_109) rfl ?_
          refine s_iload X8 hx (hb hby at_111) rfl ?_
          refine s_ifN X8 hx (hb hby at_113) ((if0 _ _).trans (teq hc_).2) ?_
          refine s_iload X8 hx (hb hby at_116) rfl ?_
          refine s_ifN X8 hx (hb hby at_118) (by decide) ?_
          refine s_lload X8 hx (hb hby at_121) rfl ?_
          refine s_lconst X8 hx (0 : Int64) (hb hby at_123) ?_ (by decide)
          refine s_lcmp X8 hx (lcmpW vkc (0 : Int64)) (hb hby at_124) rfl ?_
          refine s_ifY X8 hx 132 (hb hby at_125) ((if0 _ _).trans (feq (mt own_leq.mp hkc_)).2) (by decide) (by decide) ?_
          refine s_iconst X8 hx (0 : Int32) (hb hby at_132) rfl ?_
          refine s_istore X8 hx #[.val (.int va), .val (.long vk), .second, .val (.int vb), .val (.long vkb), .second, .val (.int vc), .val (.long vkc), .second, .val (.int (1 : Int32)), .val (.ref ob), .val (.int (2 : Int32)), .val (.int (3 : Int32)), .val (.int (4 : Int32)), .val (.int (0 : Int32)), .val (.int (0 : Int32)), .unset, .unset] (hb hby at_133) rfl ?_
          refine s_aload X8 hx (hb hby at_135) rfl rfl ?_
          refine s_iload X8 hx (hb hby at_137) rfl ?_
          refine st9.trans ?_
          refine s_istore X9 hx #[.val (.int va), .val (.long vk), .second, .val (.int vb), .val (.long vkb), .second, .val (.int vc), .val (.long vkc), .second, .val (.int (1 : Int32)), .val (.ref ob), .val (.int (2 : Int32)), .val (.int (3 : Int32)), .val (.int (4 : Int32)), .val (.int (0 : Int32)), .val (.int (0 : Int32)), .val (.int (0 : Int32)), .unset] (hb hby at_142) rfl ?_
          refine s_aload X9 hx (hb hby at_144) rfl rfl ?_
          refine s_iload X9 hx (hb hby at_146) rfl ?_
          refine st10.trans ?_
          refine s_istore X10 hx #[.val (.int va), .val (.long vk), .second, .val (.int vb), .val (.long vkb), .second, .val (.int vc), .val (.long vkc), .second, .val (.int (1 : Int32)), .val (.ref ob), .val (.int (2 : Int32)), .val (.int (3 : Int32)), .val (.int (4 : Int32)), .val (.int (0 : Int32)), .val (.int (0 : Int32)), .val (.int (0 : Int32)), .val (.int (0 : Int32))] (hb hby at_151) rfl ?_
          refine s_iload X10 hx (hb hby at_153) rfl ?_
          refine s_iload X10 hx (hb hby at_155) rfl ?_
          refine s_icmpN X10 hx (hb hby at_157) (by decide) ?_
          refine s_iload X10 hx (hb hby at_160) rfl ?_
          refine s_iload X10 hx (hb hby at_162) rfl ?_
          refine s_icmpN X10 hx (hb hby at_164) (by decide) ?_
          refine s_iconst X10 hx (1 : Int32) (hb hby at_167) rfl ?_
          refine s_goto X10 hx 172 (hb hby at_168) (by decide) (by decide) ?_
          exact retN X10 hx (t := .boolean) Bd.returns (by simp) (hb hby at_172) hr
        · exact ⟨rfl, N10⟩
    · obtain ⟨cq9, kq9, q9a, q9b, q9c⟩ := isOf hZ rfl P9.1
      obtain ⟨_, _, ⟨T9, L9, k9, n9⟩, -, X9, ⟨Lc9, hQ9, l9, y9, z9⟩, st9⟩ := X8.virtualBack hx (y := own_y40) (z := own_y40) hown (mvT hZ (own_w hw 256)) (mvT hZ (own_w hw 257)) (own_nf (args := #[]) (z := own_y17) (mvT hZ (own_w hw 103)) rfl) (mvT hZ (own_w hw 259)) (mvT hZ (own_w hw 258)) (by decide) (backOf (W := 0) (rm33_6 l Z a0 hw [] ob va vb T8.heap n0 P9 (by decide) (by decide) hF19 hV12_3 hV12_2 (mt own_ad.mp hb_)) hZ (own_w hw 260) (own_w hw 2) (by decide) (by decide)) q9a q9c (g := (mkF m 139 #[.val (.int va), .val (.long vk), .second, .val (.int vb), .val (.long vkb), .second, .val (.int vc), .val (.long vkc), .second, .val (.int (1 : Int32)), .val (.ref ob), .val (.int (2 : Int32)), .val (.int (3 : Int32)), .val (.int (4 : Int32)), .val (.int (0 : Int32)), .val (.int (0 : Int32)), .unset, .unset] [(.int (3 : Int32)), (.ref ob)])) rfl (by rw [hml]; rfl) (Steps.refl _) (argsL := [(.int (3 : Int32))]) (rest := []) (lenOf own_pd7 rfl) rfl (by show 2 * 0 + _ ≤ _; exact Nat.le_of_eq rfl) (hb hby at_139) (fun _ _ => ⟨rfl, rfl, (by decide : 32 + 0 ≤ _), (by decide : 227 + 0 ≤ _)⟩)
      dsimp only [Pt.U, Pt.locs, Pt.cells, Pt.slots] at X9 l9 y9 z9 st9 hQ9
      subst l9 y9 z9
      obtain ⟨rfl, Nq9, eh9⟩ := hQ9
      have N9 := Fr.app N8 Nq9
      obtain ⟨cq10, kq10, q10a, q10b, q10c⟩ := isOf hZ eh9 P9.1
      obtain ⟨_, _, ⟨T10, L10, k10, n10⟩, -, X10, ⟨Lc10, hQ10, l10, y10, z10⟩, st10⟩ := X9.virtualBack hx (y := own_y40) (z := own_y40) hown (mvT hZ (own_w hw 256)) (mvT hZ (own_w hw 257)) (own_nf (args := #[]) (z := own_y17) (mvT hZ (own_w hw 103)) rfl) (mvT hZ (own_w hw 259)) (mvT hZ (own_w hw 258)) (by decide) (backOf (W := 0) (rm33_4 l Z a0 hw [] ob vc T8.heap n0 P9 (by decide) (by decide) hF19 hV12_4 (mt own_az.mp hc_)) hZ (own_w hw 260) (own_w hw 2) (by decide) (by decide)) q10a q10c (g := (mkF m 148 #[.val (.int va), .val (.long vk), .second, .val (.int vb), .val (.long vkb), .second, .val (.int vc), .val (.long vkc), .second, .val (.int (1 : Int32)), .val (.ref ob), .val (.int (2 : Int32)), .val (.int (3 : Int32)), .val (.int (4 : Int32)), .val (.int (0 : Int32)), .val (.int (0 : Int32)), .val (.int (0 : Int32)), .unset] [(.int (4 : Int32)), (.ref ob)])) rfl (by rw [hml]; rfl) (Steps.refl _) (argsL := [(.int (4 : Int32))]) (rest := []) (lenOf own_pd7 rfl) rfl (by show 2 * 0 + _ ≤ _; exact Nat.le_of_eq rfl) (hb hby at_148) (fun _ _ => ⟨rfl, eh9, (by decide : 32 + 0 ≤ _), (by decide : 227 + 0 ≤ _)⟩)
      dsimp only [Pt.U, Pt.locs, Pt.cells, Pt.slots] at X10 l10 y10 z10 st10 hQ10
      subst l10 y10 z10
      obtain ⟨rfl, Nq10, eh10⟩ := hQ10
      have N10 := Fr.app N9 Nq10
      obtain ⟨fs, hr, hrun, hended, hW, hsame⟩ := X10.leave (v := some (.int (1 : Int32))) (fun h => by rw [Bd.returns] at h; cases h)
      refine ⟨_, _, preM _ ?_, hrun, hended, _, _, rfl, ?_, ⟨_, rfl⟩, hW, hsame.mono (by decide) (by decide)⟩
      · refine s_iloadN X8 hx (hb hby at_88) rfl ?_
        refine s_ifY X8 hx 108 (hb hby at_89) ((if0 _ _).trans (feq hb_).2) (by decide) (by decide) ?_
        refine s_iconst X8 hx (0 : Int32) (hb hby at_108) rfl ?_
        refine s_istore X8 hx #[.val (.int va), .val (.long vk), .second, .val (.int vb), .val (.long vkb), .second, .val (.int vc), .val (.long vkc), .second, .val (.int (1 : Int32)), .val (.ref ob), .val (.int (2 : Int32)), .val (.int (3 : Int32)), .val (.int (4 : Int32)), .val (.int (0 : Int32)), .unset, .unset, .unset] (hb hby at_109) rfl ?_
        refine s_iload X8 hx (hb hby at_111) rfl ?_
        refine s_ifY X8 hx 132 (hb hby at_113) ((if0 _ _).trans (feq hc_).2) (by decide) (by decide) ?_
        refine s_iconst X8 hx (0 : Int32) (hb hby at_132) rfl ?_
        refine s_istore X8 hx #[.val (.int va), .val (.long vk), .second, .val (.int vb), .val (.long vkb), .second, .val (.int vc), .val (.long vkc), .second, .val (.int (1 : Int32)), .val (.ref ob), .val (.int (2 : Int32)), .val (.int (3 : Int32)), .val (.int (4 : Int32)), .val (.int (0 : Int32)), .val (.int (0 : Int32)), .unset, .unset] (hb hby at_133) rfl ?_
        refine s_aload X8 hx (hb hby at_135) rfl rfl ?_
        refine s_iload X8 hx (hb hby at_137) rfl ?_
        refine st9.trans ?_
        refine s_istore X9 hx #[.val (.int va), .val (.long vk), .second, .val (.int vb), .val (.long vkb), .second, .val (.int vc), .val (.long vkc), .second, .val (.int (1 : Int32)), .val (.ref ob), .val (.int (2 : Int32)), .val (.int (3 : Int32)), .val (.int (4 : Int32)), .val (.int (0 : Int32)), .val (.int (0 : Int32)), .val (.int (0 : Int32)), .unset] (hb hby at_142) rfl ?_
        refine s_aload X9 hx (hb hby at_144) rfl rfl ?_
        refine s_iload X9 hx (hb hby at_146) rfl ?_
        refine st10.trans ?_
        refine s_istore X10 hx #[.val (.int va), .val (.long vk), .second, .val (.int vb), .val (.long vkb), .second, .val (.int vc), .val (.long vkc), .second, .val (.int (1 : Int32)), .val (.ref ob), .val (.int (2 : Int32)), .val (.int (3 : Int32)), .val (.int (4 : Int32)), .val (.int (0 : Int32)), .val (.int (0 : Int32)), .val (.int (0 : Int32)), .val (.int (0 : Int32))] (hb hby at_151) rfl ?_
        refine s_iload X10 hx (hb hby at_153) rfl ?_
        refine s_iload X10 hx (hb hby at_155) rfl ?_
        refine s_icmpN X10 hx (hb hby at_157) (by decide) ?_
        refine s_iload X10 hx (hb hby at_160) rfl ?_
        refine s_iload X10 hx (hb hby at_162) rfl ?_
        refine s_icmpN X10 hx (hb hby at_164) (by decide) ?_
        refine s_iconst X10 hx (1 : Int32) (hb hby at_167) rfl ?_
        refine s_goto X10 hx 172 (hb hby at_168) (by decide) (by decide) ?_
        exact retN X10 hx (t := .boolean) Bd.returns (by simp) (hb hby at_172) hr
      · exact ⟨rfl, N10⟩
set_option maxRecDepth 65536 in
set_option maxHeartbeats 40000000 in
theorem rm0_n (l : Launch) (Z : State) (a0 : Array Value) (hw : ∀ d ∈ tables_1, d.before a0 Z = true) (ws : List Jvm.Cond) (va : Int32) (vk : Int64) (vb : Int32) (vkb : Int64) (vc : Int32) (vkc : Int64) (h0 : Heap) (n0 : Nat) (Z0 : n0 ≤ h0.size) (hm : (va &&& (1 : Int32)) = (0 : Int32)) :
    MetFree l x (head1 (Jvm.Cond.code x code maxLocals ret :: ws) room_1) (fun a U => a = #[(.int va), (.long vk), (.int vb), (.long vkb), (.int vc), (.long vkc)] ∧ Z.Warmed39 U.vm ∧ U.heap = h0) (fun _ _ _ _ _ => True) (fun _ U o U' => ∃ v L, o = .returned v ∧ own_Q (fun v h L => (v = some (.int 1) ∧ Fr n0 L)) v U'.heap L ∧ FrameEnd U o U' L room_1.cells room_1.slots) := by
  refine MetFree.of_bodySF (plainFor_of_name own_pn3) hisR ?_
  intro p e s m args below meth c s₁ Bd hml0 hP hK
  obtain ⟨rfl, hZ, hh⟩ := hP
  have hx := Bd.exec
  have hby := Bd.bytes
  have hml : c.maxLocals = 18 := hml0
  have hown : s.vm.findClass "com/example/jobwright/jobwright/policies/ProfileStepsSameAsBeforePinLaw" = some m.cls := findClass_of_methodNamed Bd.named
  have X0 : Stand p l e room_1 s m #[(.int va), (.long vk), (.int vb), (.long vkb), (.int vc), (.long vkc)] below meth c s₁ [] 0 0 := Stand.of_body Bd
  have e0 : s₁.heap = h0 := by rw [← hh, Bd.state]; rfl
  have N0 := Fr.nil n0
  have ef : entryFrame m #[(.int va), (.long vk), (.int vb), (.long vkb), (.int vc), (.long vkc)] maxLocals = mkF m 0 #[.val (.int va), .val (.long vk), .second, .val (.int vb), .val (.long vkb), .second, .val (.int vc), .val (.long vkc), .second, .unset, .unset, .unset, .unset, .unset, .unset, .unset, .unset, .unset] [] := by first | (simp [entryFrame, mkF, argsToLocals, Value.category, maxLocals]; done) | rfl
  obtain ⟨T1, h1, X1, e1, E1, A1, D1, -, st1⟩ := newO X0 hx hZ hown (own_w hw 0) (own_w hw 1) (own_w hw 2) e0 (g := (mkF m 13 #[.val (.int va), .val (.long vk), .second, .val (.int vb), .val (.long vkb), .second, .val (.int vc), .val (.long vkc), .second, .val (.int (0 : Int32)), .unset, .unset, .unset, .unset, .unset, .unset, .unset, .unset] [])) rfl (hb hby at_13) (by decide) (by decide)
  obtain ⟨ob, gob⟩ : ∃ z, z = h0.size := ⟨_, rfl⟩
  rw [← gob] at A1 D1 st1
  have P1 : own_PS Z h1 n0 ob 0 (fun _ => 0) own_F0 (fun _ => []) := ⟨A1, Nat.le_trans Z0 (Nat.le_of_eq gob.symm), fun k hk => D1 (own_laid hw k hk) (own_fdp ⟨k, hk⟩), fun k hk => absurd hk (Nat.not_lt_zero k), fun k hk => absurd hk (Nat.not_lt_zero k), fun k hk => absurd hk (Nat.not_lt_zero k), fun i j hi => absurd hi (Nat.not_lt_zero i)⟩
  obtain ⟨_, _, ⟨T2, L2, k2, n2⟩, -, X2, ⟨Lc2, hQ2, l2, y2, z2⟩, st2⟩ := X1.specialBack hx (y := own_y2) rfl hown (mvT hZ (own_w hw 3)) (mvT hZ (own_w hw 4)) (mvT hZ (own_w hw 5)) (by decide) (backOf (W := 1) (rm1_n l Z a0 hw [] ob h1 n0 P1) hZ (own_w hw 5) (own_w hw 2) (by decide) (by decide)) (g := (mkF m 21 #[.val (.int va), .val (.long vk), .second, .val (.int vb), .val (.long vkb), .second, .val (.int vc), .val (.long vkc), .second, .val (.int (0 : Int32)), .unset, .unset, .unset, .unset, .unset, .unset, .unset, .unset] [(.int (0 : Int32)), (.int (3 : Int32)), (.int (1 : Int32)), (.ref ob), (.ref ob)])) rfl (by rw [hml]; rfl) (Steps.refl _) (a := ob) (argsL := [(.int (1 : Int32)), (.int (3 : Int32)), (.int (0 : Int32))]) (rest := [(.ref ob)]) (lenOf own_pd2 rfl) rfl (by show 2 * 0 + _ ≤ _; exact Nat.le_of_eq rfl) (hb hby at_21) (fun _ _ => ⟨rfl, e1, (by decide : 1 + 30 ≤ _), (by decide : 48 + 171 ≤ _)⟩)
  dsimp only [Pt.U, Pt.locs, Pt.cells, Pt.slots] at X2 l2 y2 z2 st2 hQ2
  subst l2 y2 z2
  obtain ⟨rfl, Nq2, A, F, PB, ⟨hF14, hF15, hF16, hF17, hF18, hF19, hF20, hF21, hF22, hF23, hF24, hF25, hF26, hF27⟩, hF13⟩ := hQ2
  have N2 := Fr.app N0 Nq2
  obtain ⟨cq3, kq3, q3a, q3b, q3c⟩ := isOf hZ rfl PB.1
  obtain ⟨_, _, ⟨T3, L3, k3, n3⟩, -, X3, ⟨Lc3, hQ3, l3, y3, z3⟩, st3⟩ := X2.virtualBack hx (y := own_y17) (z := own_y17) hown (mvT hZ (own_w hw 100)) (mvT hZ (own_w hw 101)) (own_nf (args := #[]) (z := own_y17) (mvT hZ (own_w hw 103)) rfl) (mvT hZ (own_w hw 103)) (mvT hZ (own_w hw 102)) (by decide) (backOf (W := 0) (rm5_2 l Z a0 hw [] ob va vk T2.heap n0 PB (by decide) (by decide) hF18 hF19 hF22 hF13 (own_v0 5 0) (own_v0 6 0) ) hZ (own_w hw 104) (own_w hw 2) (by decide) (by decide)) q3a q3c (g := (mkF m 31 #[.val (.int va), .val (.long vk), .second, .val (.int vb), .val (.long vkb), .second, .val (.int vc), .val (.long vkc), .second, .val (.int (0 : Int32)), .val (.ref ob), .unset, .unset, .unset, .unset, .unset, .unset, .unset] [(.long vk), (.int va), (.long (0 : Int64)), (.ref ob)])) rfl (by rw [hml]; rfl) (Steps.refl _) (argsL := [(.long (0 : Int64)), (.int va), (.long vk)]) (rest := []) (lenOf own_pd9 rfl) rfl (by show 2 * 0 + _ ≤ _; exact Nat.le_of_eq rfl) (hb hby at_31) (fun _ _ => ⟨rfl, rfl, (by decide : 31 + 0 ≤ _), (by decide : 219 + 0 ≤ _)⟩)
  dsimp only [Pt.U, Pt.locs, Pt.cells, Pt.slots] at X3 l3 y3 z3 st3 hQ3
  subst l3 y3 z3
  obtain ⟨rfl, Nq3, P3⟩ := hQ3
  have N3 := Fr.app N2 Nq3
  obtain ⟨cq4, kq4, q4a, q4b, q4c⟩ := isOf hZ rfl P3.1
  obtain ⟨_, _, ⟨T4, L4, k4, n4⟩, -, X4, ⟨Lc4, hQ4, l4, y4, z4⟩, st4⟩ := X3.virtualBack hx (y := own_y25) (z := own_y25) hown (mvT hZ (own_w hw 189)) (mvT hZ (own_w hw 190)) (own_nf (args := #[]) (z := own_y17) (mvT hZ (own_w hw 103)) rfl) (mvT hZ (own_w hw 192)) (mvT hZ (own_w hw 191)) (by decide) (backOf (W := 0) (rm20_1 l Z a0 hw [] ob  T3.heap n0 P3 (by decide) (by decide) (own_fn (own_fn (own_fn (own_fn (own_fn (own_fn (own_up_eq _ _ _))))))) (own_fn (own_fn (own_fn (own_fn (own_fn (own_fn (own_fn (own_fn (own_fn (own_fn (own_fn (own_fn (own_fn (own_fn (own_fn (own_fn hF19))))))))))))))))  ) hZ (own_w hw 193) (own_w hw 2) (by decide) (by decide)) q4a q4c (g := (mkF m 36 #[.val (.int va), .val (.long vk), .second, .val (.int vb), .val (.long vkb), .second, .val (.int vc), .val (.long vkc), .second, .val (.int (0 : Int32)), .val (.ref ob), .unset, .unset, .unset, .unset, .unset, .unset, .unset] [(.ref ob)])) rfl (by rw [hml]; rfl) (Steps.refl _) (argsL := []) (rest := []) (lenOf own_pd4 rfl) rfl (by show 2 * 0 + _ ≤ _; exact Nat.le_of_eq rfl) (hb hby at_36) (fun _ _ => ⟨rfl, rfl, (by decide : 31 + 0 ≤ _), (by decide : 219 + 0 ≤ _)⟩)
  dsimp only [Pt.U, Pt.locs, Pt.cells, Pt.slots] at X4 l4 y4 z4 st4 hQ4
  subst l4 y4 z4
  obtain ⟨rfl, Nq4, eh4⟩ := hQ4
  have N4 := Fr.app N3 Nq4
  obtain ⟨cq5, kq5, q5a, q5b, q5c⟩ := isOf hZ eh4 P3.1
  obtain ⟨_, _, ⟨T5, L5, k5, n5⟩, -, X5, ⟨Lc5, hQ5, l5, y5, z5⟩, st5⟩ := X4.virtualBack hx (y := own_y27) (z := own_y27) hown (mvT hZ (own_w hw 195)) (mvT hZ (own_w hw 196)) (own_nf (args := #[]) (z := own_y17) (mvT hZ (own_w hw 103)) rfl) (mvT hZ (own_w hw 198)) (mvT hZ (own_w hw 197)) (by decide) (backOf (W := 0) (rm21_3 l Z a0 hw [] ob va T3.heap n0 P3 (by decide) (by decide) (own_fn (own_fn (own_fn (own_fn (own_fn (own_fn (own_fn (own_fn (own_fn (own_fn (own_fn (own_fn (own_fn (own_fn (own_fn (own_fn hF19)))))))))))))))) (own_fn (own_fn (own_fn (own_fn (own_fn (own_fn (own_fn (own_fn (own_fn (own_fn (own_fn (own_fn (own_fn (own_fn (own_fn (own_fn hF20)))))))))))))))) (own_fn (own_fn (own_fn (own_fn (own_fn (own_fn (own_fn (own_fn (own_fn (own_fn (own_fn (own_fn (own_fn (own_fn (own_fn (own_fn hF22)))))))))))))))) (own_fn (own_fn (own_fn (own_fn (own_fn (own_fn (own_fn (own_fn (own_fn (own_fn (own_fn (own_fn (own_fn (own_fn (own_fn (own_fn hF13)))))))))))))))) (own_vn (own_vn (own_vn (own_vn (own_vn (own_vn (own_vn (own_vn (own_vn (own_vn (own_vn (own_ve (own_vl (own_vl (own_vl (own_len PB 1 (by decide) 1 (by decide))))))))))))))))) (own_vn (own_vn (own_vn (own_vn (own_vn (own_vn (own_vn (own_vn (own_vn (own_ve (own_vl (own_vl (own_vl (own_vl (own_vl (own_len PB 12 (by decide) 2 (by decide))))))))))))))))) (own_vn (own_vn (own_vn (own_vn (own_vn (own_vn (own_ve (own_vl (own_vl (own_vl (own_vl (own_vl (own_vl (own_vl (own_vl (own_len PB 7 (by decide) 1 (by decide))))))))))))))))) (own_vn (own_vn (own_vn (own_vn (own_vn (own_ve (own_vl (own_vl (own_vl (own_vl (own_vl (own_vl (own_vl (own_vl (own_vl (own_len PB 9 (by decide) 1 (by decide))))))))))))))))) ) hZ (own_w hw 199) (own_w hw 2) (by decide) (by decide)) q5a q5c (g := (mkF m 48 #[.val (.int va), .val (.long vk), .second, .val (.int vb), .val (.long vkb), .second, .val (.int vc), .val (.long vkc), .second, .val (.int (0 : Int32)), .val (.ref ob), .val (.int (2 : Int32)), .unset, .unset, .unset, .unset, .unset, .unset] [(.long (10 : Int64)), (.int (2 : Int32)), (.ref ob)])) rfl (by rw [hml]; rfl) (Steps.refl _) (argsL := [(.int (2 : Int32)), (.long (10 : Int64))]) (rest := []) (lenOf own_pd10 rfl) rfl (by show 2 * 0 + _ ≤ _; exact Nat.le_of_eq rfl) (hb hby at_48) (fun _ _ => ⟨rfl, eh4, (by decide : 31 + 0 ≤ _), (by decide : 219 + 0 ≤ _)⟩)
  dsimp only [Pt.U, Pt.locs, Pt.cells, Pt.slots] at X5 l5 y5 z5 st5 hQ5
  subst l5 y5 z5
  obtain ⟨rfl, Nq5, P5⟩ := hQ5
  have N5 := Fr.app N4 Nq5
  obtain ⟨cq6, kq6, q6a, q6b, q6c⟩ := isOf hZ rfl P5.1
  obtain ⟨_, _, ⟨T6, L6, k6, n6⟩, -, X6, ⟨Lc6, hQ6, l6, y6, z6⟩, st6⟩ := X5.virtualBack hx (y := own_y27) (z := own_y27) hown (mvT hZ (own_w hw 195)) (mvT hZ (own_w hw 196)) (own_nf (args := #[]) (z := own_y17) (mvT hZ (own_w hw 103)) rfl) (mvT hZ (own_w hw 198)) (mvT hZ (own_w hw 197)) (by decide) (backOf (W := 0) (rm21_4 l Z a0 hw [] ob va T5.heap n0 P5 (by decide) (by decide) (own_fn (own_fn (own_fn (own_fn (own_fn (own_fn (own_fn (own_fn (own_fn (own_fn (own_fn (own_fn (own_fn (own_fn (own_fn (own_fn hF19)))))))))))))))) (own_fn (own_fn (own_fn (own_fn (own_fn (own_fn (own_fn (own_fn (own_fn (own_fn (own_fn (own_fn (own_fn (own_fn (own_fn (own_fn hF20)))))))))))))))) (own_fn (own_fn (own_fn (own_fn (own_fn (own_up_eq _ _ _)))))) (own_fn (own_fn (own_fn (own_fn (own_fn (own_fn (own_fn (own_fn (own_fn (own_fn (own_fn (own_fn (own_fn (own_up_eq _ _ _)))))))))))))) (own_fn (own_fn (own_fn (own_fn (own_fn (own_fn (own_fn (own_fn (own_fn (own_fn (own_up_eq _ _ _))))))))))) (own_fn (own_fn (own_fn (own_fn (own_fn (own_fn (own_fn (own_up_eq _ _ _)))))))) (own_fn (own_fn (own_fn (own_fn (own_fn (own_fn (own_fn (own_fn (own_fn (own_fn (own_fn (own_fn (own_fn (own_fn (own_fn (own_fn hF22)))))))))))))))) (own_fn (own_fn (own_fn (own_fn (own_fn (own_fn (own_fn (own_fn (own_fn (own_fn (own_fn (own_fn (own_fn (own_fn (own_fn (own_fn hF13)))))))))))))))) (own_fn (own_up_eq _ _ _)) (own_up_eq _ _ _) (own_vn (own_vn (own_vn (own_vn (own_vn (own_vn (own_vn (own_vn (own_vn (own_vn (own_ve (own_vl (own_vl (own_vl (own_vl (own_vl (own_vl (own_vl (own_len PB 3 (by decide) 1 (by decide)))))))))))))))))))) (own_vn (own_vn (own_vn (own_vn (own_vn (own_vn (own_vn (own_vi (own_vn (own_vn (own_vn (own_vn (own_vn (own_vn (own_vn (own_vn (own_vn (own_vn (own_v0 5 0))))))))))))))))))) (own_vn (own_vn (own_vn (own_vn (own_vn (own_vn (own_vi (own_vn (own_vn (own_vn (own_vn (own_vn (own_vn (own_vn (own_vn (own_vn (own_vn (own_vn (own_v0 6 0))))))))))))))))))) (own_vn (own_vn (own_vi (own_vn (own_vn (own_vn (own_vn (own_vn (own_vn (own_vn (own_vn (own_vn (own_vn (own_ve (own_vl (own_vl (own_vl (own_vl (own_len PB 11 (by decide) 2 (by decide)))))))))))))))))))) (own_vn (own_vn (own_vn (own_vn (own_vn (own_vn (own_vn (own_vn (own_vn (own_vn (own_vn (own_vn (own_vn (own_vn (own_vn (own_vi (own_ve (own_vl (own_len PB 0 (by decide) 5 (by decide)))))))))))))))))))) (own_vn (own_vn (own_vn (own_vn (own_vn (own_vn (own_vn (own_vn (own_vn (own_vn (own_vn (own_vn (own_vn (own_vn (own_vn (own_ve (own_vl (own_vl (own_len PB 0 (by decide) 6 (by decide)))))))))))))))))))) (own_vn (own_vn (own_vn (own_vn (own_vn (own_vn (own_vn (own_vn (own_vn (own_vn (own_vn (own_vn (own_vn (own_vn (own_vn (own_vi (own_vi (own_ve (own_len PB 0 (by decide) 4 (by decide)))))))))))))))))))) (own_ve (own_vl (own_vl (own_vl (own_vl (own_vl (own_vl (own_vl (own_vl (own_vl (own_vl (own_vl (own_vl (own_vl (own_vl (own_vl (own_vl (own_vl (own_len PB 1 (by decide) 1 (by decide)))))))))))))))))))) (own_vn (own_ve (own_vl (own_vl (own_vl (own_vl (own_vl (own_vl (own_vl (own_vl (own_vl (own_vl (own_vl (own_vl (own_vl (own_vl (own_vl (own_vl (own_len PB 12 (by decide) 3 (by decide)))))))))))))))))))) ) hZ (own_w hw 199) (own_w hw 2) (by decide) (by decide)) q6a q6c (g := (mkF m 60 #[.val (.int va), .val (.long vk), .second, .val (.int vb), .val (.long vkb), .second, .val (.int vc), .val (.long vkc), .second, .val (.int (0 : Int32)), .val (.ref ob), .val (.int (2 : Int32)), .val (.int (3 : Int32)), .unset, .unset, .unset, .unset, .unset] [(.long (20 : Int64)), (.int (3 : Int32)), (.ref ob)])) rfl (by rw [hml]; rfl) (Steps.refl _) (argsL := [(.int (3 : Int32)), (.long (20 : Int64))]) (rest := []) (lenOf own_pd10 rfl) rfl (by show 2 * 0 + _ ≤ _; exact Nat.le_of_eq rfl) (hb hby at_60) (fun _ _ => ⟨rfl, rfl, (by decide : 31 + 0 ≤ _), (by decide : 219 + 0 ≤ _)⟩)
  dsimp only [Pt.U, Pt.locs, Pt.cells, Pt.slots] at X6 l6 y6 z6 st6 hQ6
  subst l6 y6 z6
  obtain ⟨rfl, Nq6, P6⟩ := hQ6
  have N6 := Fr.app N5 Nq6
  obtain ⟨cq7, kq7, q7a, q7b, q7c⟩ := isOf hZ rfl P6.1
  obtain ⟨_, _, ⟨T7, L7, k7, n7⟩, -, X7, ⟨Lc7, hQ7, l7, y7, z7⟩, st7⟩ := X6.virtualBack hx (y := own_y39) (z := own_y39) hown (mvT hZ (own_w hw 233)) (mvT hZ (own_w hw 234)) (own_nf (args := #[]) (z := own_y17) (mvT hZ (own_w hw 103)) rfl) (mvT hZ (own_w hw 236)) (mvT hZ (own_w hw 235)) (by decide) (backOf (W := 0) (rm28_3 l Z a0 hw [] ob va vb vkb T6.heap n0 P6 (by decide) (by decide) (own_fn (own_fn (own_fn (own_fn (own_fn (own_fn (own_fn (own_fn (own_fn (own_fn (own_fn (own_fn (own_fn (own_fn (own_fn (own_fn (own_fn (own_fn (own_fn (own_fn (own_fn (own_fn (own_fn (own_fn (own_fn hF19))))))))))))))))))))))))) (own_fn (own_fn (own_fn (own_fn (own_fn (own_fn (own_fn (own_fn (own_fn (own_fn (own_fn (own_fn (own_fn (own_fn (own_fn (own_fn (own_fn (own_fn (own_fn (own_fn (own_fn (own_fn (own_fn (own_fn (own_fn hF13))))))))))))))))))))))))) (own_fn (own_fn (own_fn (own_fn (own_up_eq _ _ _))))) (own_fn (own_fn (own_fn (own_fn (own_fn (own_fn (own_fn (own_fn (own_fn (own_fn (own_fn (own_fn (own_fn (own_fn (own_fn (own_fn (own_fn (own_fn (own_fn (own_fn (own_fn (own_fn (own_fn (own_fn (own_fn hF22))))))))))))))))))))))))) (own_fn (own_up_eq _ _ _)) (own_fn (own_fn (own_fn (own_fn (own_fn (own_fn (own_fn (own_fn (own_fn (own_fn (own_fn (own_fn (own_fn (own_fn (own_fn (own_fn (own_fn (own_fn (own_fn (own_fn (own_up_eq _ _ _))))))))))))))))))))) (own_vn (own_vn (own_vn (own_vn (own_vn (own_vn (own_vn (own_vn (own_vn (own_vn (own_vn (own_vi (own_vn (own_vn (own_vn (own_vn (own_vn (own_vn (own_vn (own_vn (own_vn (own_vn (own_ve (own_vl (own_vl (own_vl (own_vl (own_vl (own_vl (own_vl (own_vl (own_vl (own_vl (own_vl (own_vl (own_vl (own_vl (own_vl (own_vl (own_vl (own_len PB 1 (by decide) 1 (by decide)))))))))))))))))))))))))))))))))))))))))) (own_vn (own_vn (own_vn (own_vn (own_vn (own_vn (own_vn (own_vn (own_vn (own_vn (own_vn (own_vn (own_vi (own_vn (own_vn (own_vn (own_vn (own_vn (own_vn (own_vn (own_vn (own_vn (own_vn (own_ve (own_vl (own_vl (own_vl (own_vl (own_vl (own_vl (own_vl (own_vl (own_vl (own_vl (own_vl (own_vl (own_vl (own_vl (own_vl (own_vl (own_len PB 12 (by decide) 3 (by decide)))))))))))))))))))))))))))))))))))))))))) (own_vn (own_vn (own_vn (own_vn (own_vn (own_vn (own_vn (own_vn (own_vn (own_vn (own_vn (own_vn (own_vn (own_vn (own_vn (own_vi (own_vn (own_vn (own_vn (own_vn (own_vn (own_vn (own_vn (own_vn (own_vn (own_vn (own_vn (own_vn (own_vn (own_vn (own_vn (own_ve (own_vl (own_vl (own_vl (own_vl (own_vl (own_vl (own_vl (own_vl (own_len PB 7 (by decide) 1 (by decide)))))))))))))))))))))))))))))))))))))))))) (own_vn (own_vn (own_vn (own_vn (own_vn (own_vn (own_vn (own_vn (own_vn (own_vn (own_vn (own_vn (own_vn (own_vn (own_vi (own_vn (own_vn (own_vn (own_vn (own_vn (own_vn (own_vn (own_vn (own_vn (own_vn (own_vn (own_vn (own_vn (own_vn (own_vn (own_ve (own_vl (own_vl (own_vl (own_vl (own_vl (own_vl (own_vl (own_vl (own_vl (own_len PB 9 (by decide) 1 (by decide)))))))))))))))))))))))))))))))))))))))))) (own_vn (own_vn (own_vn (own_vn (own_vn (own_vn (own_vn (own_vn (own_vn (own_vn (own_vn (own_vn (own_vn (own_vi (own_vn (own_vn (own_vn (own_vn (own_vn (own_vn (own_vn (own_vn (own_vn (own_vn (own_vi (own_vn (own_vn (own_vn (own_vn (own_vn (own_vn (own_vn (own_vn (own_vn (own_vn (own_ve (own_vl (own_vl (own_vl (own_vl (own_len PB 11 (by decide) 2 (by decide)))))))))))))))))))))))))))))))))))))))))) (own_vn (own_vn (own_vn (own_vn (own_ve (own_vl (own_vl (own_vl (own_vl (own_vl (own_vl (own_vl (own_vl (own_vl (own_vl (own_vl (own_vl (own_vl (own_vl (own_vl (own_vl (own_vl (own_vl (own_vl (own_vl (own_vl (own_vl (own_vl (own_vl (own_vl (own_vl (own_vl (own_vl (own_vl (own_vl (own_vl (own_vl (own_vl (own_vl (own_vl (own_len PB 5 (by decide) 1 (by decide)))))))))))))))))))))))))))))))))))))))))) (own_vn (own_vn (own_vn (own_ve (own_vl (own_vl (own_vl (own_vl (own_vl (own_vl (own_vl (own_vl (own_vl (own_vl (own_vl (own_vl (own_vl (own_vl (own_vl (own_vl (own_vl (own_vl (own_vl (own_vl (own_vl (own_vl (own_vl (own_vl (own_vl (own_vl (own_vl (own_vl (own_vl (own_vl (own_vl (own_vl (own_vl (own_vl (own_vl (own_vl (own_len PB 6 (by decide) 1 (by decide)))))))))))))))))))))))))))))))))))))))))) ) hZ (own_w hw 237) (own_w hw 2) (by decide) (by decide)) q7a q7c (g := (mkF m 73 #[.val (.int va), .val (.long vk), .second, .val (.int vb), .val (.long vkb), .second, .val (.int vc), .val (.long vkc), .second, .val (.int (0 : Int32)), .val (.ref ob), .val (.int (2 : Int32)), .val (.int (3 : Int32)), .val (.int (4 : Int32)), .unset, .unset, .unset, .unset] [(.long vkb), (.int vb), (.int (-1 : Int32)), (.int (3 : Int32)), (.ref ob)])) rfl (by rw [hml]; rfl) (Steps.refl _) (argsL := [(.int (3 : Int32)), (.int (-1 : Int32)), (.int vb), (.long vkb)]) (rest := []) (lenOf own_pd12 rfl) rfl (by show 2 * 0 + _ ≤ _; exact Nat.le_of_eq rfl) (hb hby at_73) (fun _ _ => ⟨rfl, rfl, (by decide : 31 + 0 ≤ _), (by decide : 219 + 0 ≤ _)⟩)
  dsimp only [Pt.U, Pt.locs, Pt.cells, Pt.slots] at X7 l7 y7 z7 st7 hQ7
  subst l7 y7 z7
  obtain ⟨rfl, Nq7, P7⟩ := hQ7
  have N7 := Fr.app N6 Nq7
  obtain ⟨cq8, kq8, q8a, q8b, q8c⟩ := isOf hZ rfl P7.1
  obtain ⟨_, _, ⟨T8, L8, k8, n8⟩, -, X8, ⟨Lc8, hQ8, l8, y8, z8⟩, st8⟩ := X7.virtualBack hx (y := own_y39) (z := own_y39) hown (mvT hZ (own_w hw 233)) (mvT hZ (own_w hw 234)) (own_nf (args := #[]) (z := own_y17) (mvT hZ (own_w hw 103)) rfl) (mvT hZ (own_w hw 236)) (mvT hZ (own_w hw 235)) (by decide) (backOf (W := 0) (rm28_4 l Z a0 hw [] ob vc vkc T7.heap n0 P7 (by decide) (by decide) (own_fn (own_fn (own_fn (own_fn (own_fn (own_fn (own_fn (own_fn (own_fn (own_fn (own_fn (own_fn (own_fn (own_fn (own_fn (own_fn (own_fn (own_fn (own_fn (own_fn (own_fn (own_fn (own_fn (own_fn (own_fn hF19))))))))))))))))))))))))) (own_fn (own_fn (own_fn (own_fn (own_fn (own_fn (own_fn (own_fn (own_fn (own_fn (own_fn (own_fn (own_fn (own_fn (own_fn (own_fn (own_fn (own_fn (own_fn (own_fn (own_fn (own_fn (own_fn (own_fn (own_fn hF13))))))))))))))))))))))))) (own_fn (own_fn (own_fn (own_fn (own_up_eq _ _ _))))) (own_fn (own_fn (own_fn (own_fn (own_fn (own_fn (own_fn (own_fn (own_fn (own_fn (own_fn (own_fn (own_fn (own_fn (own_fn (own_fn (own_fn (own_fn (own_fn (own_fn (own_up_eq _ _ _))))))))))))))))))))) (own_vn (own_vn (own_vn (own_vn (own_vn (own_vn (own_vn (own_vn (own_vn (own_vn (own_vn (own_vn (own_vn (own_vn (own_ve (own_vl (own_vl (own_vl (own_vl (own_vl (own_vl (own_vl (own_vl (own_vl (own_vl (own_vl (own_vl (own_vl (own_vl (own_vl (own_vl (own_vl (own_vl (own_vl (own_vl (own_vl (own_vl (own_vl (own_vl (own_vl (own_vl (own_vl (own_vl (own_len PB 1 (by decide) 2 (by decide))))))))))))))))))))))))))))))))))))))))))))) (own_vn (own_vn (own_vi (own_vn (own_vn (own_vn (own_vn (own_vn (own_vn (own_vn (own_vn (own_vn (own_vn (own_vn (own_vn (own_ve (own_vl (own_vl (own_vl (own_vl (own_vl (own_vl (own_vl (own_vl (own_vl (own_vl (own_vl (own_vl (own_vl (own_vl (own_vl (own_vl (own_vl (own_vl (own_vl (own_vl (own_vl (own_vl (own_vl (own_vl (own_vl (own_vl (own_vl (own_len PB 12 (by decide) 4 (by decide))))))))))))))))))))))))))))))))))))))))))))) (own_vn (own_vn (own_vn (own_vn (own_vn (own_vn (own_vn (own_vn (own_vn (own_vn (own_vn (own_vn (own_vn (own_vn (own_vn (own_vn (own_vn (own_vn (own_ve (own_vl (own_vl (own_vl (own_vl (own_vl (own_vl (own_vl (own_vl (own_vl (own_vl (own_vl (own_vl (own_vl (own_vl (own_vl (own_vl (own_vl (own_vl (own_vl (own_vl (own_vl (own_vl (own_vl (own_vl (own_len PB 7 (by decide) 2 (by decide))))))))))))))))))))))))))))))))))))))))))))) (own_vn (own_vn (own_vn (own_vn (own_vn (own_vn (own_vn (own_vn (own_vn (own_vn (own_vn (own_vn (own_vn (own_vn (own_vn (own_vn (own_vn (own_ve (own_vl (own_vl (own_vl (own_vl (own_vl (own_vl (own_vl (own_vl (own_vl (own_vl (own_vl (own_vl (own_vl (own_vl (own_vl (own_vl (own_vl (own_vl (own_vl (own_vl (own_vl (own_vl (own_vl (own_vl (own_vl (own_len PB 9 (by decide) 2 (by decide))))))))))))))))))))))))))))))))))))))))))))) ) hZ (own_w hw 237) (own_w hw 2) (by decide) (by decide)) q8a q8c (g := (mkF m 85 #[.val (.int va), .val (.long vk), .second, .val (.int vb), .val (.long vkb), .second, .val (.int vc), .val (.long vkc), .second, .val (.int (0 : Int32)), .val (.ref ob), .val (.int (2 : Int32)), .val (.int (3 : Int32)), .val (.int (4 : Int32)), .unset, .unset, .unset, .unset] [(.long vkc), (.int vc), (.int (-1 : Int32)), (.int (4 : Int32)), (.ref ob)])) rfl (by rw [hml]; rfl) (Steps.refl _) (argsL := [(.int (4 : Int32)), (.int (-1 : Int32)), (.int vc), (.long vkc)]) (rest := []) (lenOf own_pd12 rfl) rfl (by show 2 * 0 + _ ≤ _; exact Nat.le_of_eq rfl) (hb hby at_85) (fun _ _ => ⟨rfl, rfl, (by decide : 31 + 0 ≤ _), (by decide : 219 + 0 ≤ _)⟩)
  dsimp only [Pt.U, Pt.locs, Pt.cells, Pt.slots] at X8 l8 y8 z8 st8 hQ8
  subst l8 y8 z8
  obtain ⟨rfl, Nq8, P8⟩ := hQ8
  have N8 := Fr.app N7 Nq8
  obtain ⟨F9, V9, P9, hF19, hF13, hV12_2, hV12_3, hV12_4⟩ : ∃ (F9 : Nat → Value) (V9 : Nat → List Value), own_PS Z T8.heap n0 ob 13 A F9 V9 ∧ F9 19 = (.int (1 : Int32)) ∧ F9 13 = .null ∧ (V9 12).getD 2 (own_aZ 12) = (.int va) ∧ (V9 12).getD 3 (own_aZ 12) = (.int (va + vb)) ∧ (V9 12).getD 4 (own_aZ 12) = (.int ((0 : Int32) + vc)) := ⟨_, _, P8, (own_fn (own_fn (own_fn (own_fn (own_fn (own_fn (own_fn (own_fn (own_fn (own_fn (own_fn (own_fn (own_fn (own_fn (own_fn (own_fn (own_fn (own_fn (own_fn (own_fn (own_fn (own_fn (own_fn (own_fn (own_fn hF19))))))))))))))))))))))))), (own_fn (own_fn (own_fn (own_fn (own_fn (own_fn (own_fn (own_fn (own_fn (own_fn (own_fn (own_fn (own_fn (own_fn (own_fn (own_fn (own_fn (own_fn (own_fn (own_fn (own_fn (own_fn (own_fn (own_fn (own_fn hF13))))))))))))))))))))))))), (own_vi (own_vn (own_vn (own_vi (own_vn (own_vn (own_vn (own_vn (own_vn (own_vn (own_vn (own_vn (own_vn (own_vn (own_vn (own_vn (own_vi (own_vn (own_vn (own_vn (own_vn (own_vn (own_vn (own_vn (own_vn (own_vn (own_vn (own_vi (own_vn (own_vn (own_vn (own_vn (own_vn (own_vn (own_vn (own_vn (own_vn (own_vn (own_ve (own_vl (own_vl (own_vl (own_vl (own_vl (own_len PB 12 (by decide) 2 (by decide)))))))))))))))))))))))))))))))))))))))))))))), (own_vi (own_vn (own_vn (own_ve (own_vl (own_vl (own_vl (own_vl (own_vl (own_vl (own_vl (own_vl (own_vl (own_vl (own_vl (own_vl (own_vl (own_vl (own_vl (own_vl (own_vl (own_vl (own_vl (own_vl (own_vl (own_vl (own_vl (own_vl (own_vl (own_vl (own_vl (own_vl (own_vl (own_vl (own_vl (own_vl (own_vl (own_vl (own_vl (own_vl (own_vl (own_vl (own_vl (own_vl (own_len PB 12 (by decide) 3 (by decide)))))))))))))))))))))))))))))))))))))))))))))), (own_ve (own_vl (own_vl (own_vl (own_vl (own_vl (own_vl (own_vl (own_vl (own_vl (own_vl (own_vl (own_vl (own_vl (own_vl (own_vl (own_vl (own_vl (own_vl (own_vl (own_vl (own_vl (own_vl (own_vl (own_vl (own_vl (own_vl (own_vl (own_vl (own_vl (own_vl (own_vl (own_vl (own_vl (own_vl (own_vl (own_vl (own_vl (own_vl (own_vl (own_vl (own_vl (own_vl (own_vl (own_len PB 12 (by decide) 4 (by decide))))))))))))))))))))))))))))))))))))))))))))))⟩
  have preM : ∀ t, Steps p.tables e below (T8.setTop (mkF m 88 #[.val (.int va), .val (.long vk), .second, .val (.int vb), .val (.long vkb), .second, .val (.int vc), .val (.long vkc), .second, .val (.int (0 : Int32)), .val (.ref ob), .val (.int (2 : Int32)), .val (.int (3 : Int32)), .val (.int (4 : Int32)), .unset, .unset, .unset, .unset] [])) t → Steps p.tables e below (s₁.setTop (entryFrame m #[(.int va), (.long vk), (.int vb), (.long vkb), (.int vc), (.long vkc)] maxLocals)) t := by
    intro t k
    refine castTop ef ?_
    refine s_iloadN X0 hx (hb hby at_0) rfl ?_
    refine s_iconst X0 hx (1 : Int32) (hb hby at_1) rfl ?_
    refine s_iand X0 hx (va &&& (1 : Int32)) (hb hby at_2) rfl ?_
    refine s_ifY X0 hx 10 (hb hby at_3) ((if0 _ _).trans (teq hm).1) (by decide) (by decide) ?_
    refine s_iconst X0 hx (0 : Int32) (hb hby at_10) rfl ?_
    refine s_istore X0 hx #[.val (.int va), .val (.long vk), .second, .val (.int vb), .val (.long vkb), .second, .val (.int vc), .val (.long vkc), .second, .val (.int (0 : Int32)), .unset, .unset, .unset, .unset, .unset, .unset, .unset, .unset] (hb hby at_11) rfl ?_
    refine st1 _ ?_
    refine s_dup X1 hx (hb hby at_16) rfl ?_
    refine s_iconst X1 hx (1 : Int32) (hb hby at_17) rfl ?_
    refine s_iconst X1 hx (3 : Int32) (hb hby at_18) rfl ?_
    refine s_iload X1 hx (hb hby at_19) rfl ?_
    refine st2.trans ?_
    refine s_astore X2 hx #[.val (.int va), .val (.long vk), .second, .val (.int vb), .val (.long vkb), .second, .val (.int vc), .val (.long vkc), .second, .val (.int (0 : Int32)), .val (.ref ob), .unset, .unset, .unset, .unset, .unset, .unset, .unset] (hb hby at_24) rfl rfl ?_
    refine s_aload X2 hx (hb hby at_26) rfl rfl ?_
    refine s_lconst X2 hx (0 : Int64) (hb hby at_28) ?_ (by decide)
    refine s_iloadN X2 hx (hb hby at_29) rfl ?_
    refine s_lloadN X2 hx (hb hby at_30) rfl ?_
    refine st3.trans ?_
    refine s_aload X3 hx (hb hby at_34) rfl rfl ?_
    refine st4.trans ?_
    refine s_istore X4 hx #[.val (.int va), .val (.long vk), .second, .val (.int vb), .val (.long vkb), .second, .val (.int vc), .val (.long vkc), .second, .val (.int (0 : Int32)), .val (.ref ob), .val (.int (2 : Int32)), .unset, .unset, .unset, .unset, .unset, .unset] (hb hby at_39) rfl ?_
    refine s_aload X4 hx (hb hby at_41) rfl rfl ?_
    refine s_iload X4 hx (hb hby at_43) rfl ?_
    refine X4.ldc2Long hx hown (mvT hZ (own_w hw 194)) (v := (10 : Int64)) (g := (mkF m 45 #[.val (.int va), .val (.long vk), .second, .val (.int vb), .val (.long vkb), .second, .val (.int vc), .val (.long vkc), .second, .val (.int (0 : Int32)), .val (.ref ob), .val (.int (2 : Int32)), .unset, .unset, .unset, .unset, .unset, .unset] [(.int (2 : Int32)), (.ref ob)])) rfl (hb hby at_45) _ ?_
    refine st5.trans ?_
    refine s_istore X5 hx #[.val (.int va), .val (.long vk), .second, .val (.int vb), .val (.long vkb), .second, .val (.int vc), .val (.long vkc), .second, .val (.int (0 : Int32)), .val (.ref ob), .val (.int (2 : Int32)), .val (.int (3 : Int32)), .unset, .unset, .unset, .unset, .unset] (hb hby at_51) rfl ?_
    refine s_aload X5 hx (hb hby at_53) rfl rfl ?_
    refine s_iload X5 hx (hb hby at_55) rfl ?_
    refine X5.ldc2Long hx hown (mvT hZ (own_w hw 208)) (v := (20 : Int64)) (g := (mkF m 57 #[.val (.int va), .val (.long vk), .second, .val (.int vb), .val (.long vkb), .second, .val (.int vc), .val (.long vkc), .second, .val (.int (0 : Int32)), .val (.ref ob), .val (.int (2 : Int32)), .val (.int (3 : Int32)), .unset, .unset, .unset, .unset, .unset] [(.int (3 : Int32)), (.ref ob)])) rfl (hb hby at_57) _ ?_
    refine st6.trans ?_
    refine s_istore X6 hx #[.val (.int va), .val (.long vk), .second, .val (.int vb), .val (.long vkb), .second, .val (.int vc), .val (.long vkc), .second, .val (.int (0 : Int32)), .val (.ref ob), .val (.int (2 : Int32)), .val (.int (3 : Int32)), .val (.int (4 : Int32)), .unset, .unset, .unset, .unset] (hb hby at_63) rfl ?_
    refine s_aload X6 hx (hb hby at_65) rfl rfl ?_
    refine s_iload X6 hx (hb hby at_67) rfl ?_
    refine s_iconst X6 hx (-1 : Int32) (hb hby at_69) rfl ?_
    refine s_iloadN X6 hx (hb hby at_70) rfl ?_
    refine s_lload X6 hx (hb hby at_71) rfl ?_
    refine st7.trans ?_
    refine s_aload X7 hx (hb hby at_76) rfl rfl ?_
    refine s_iload X7 hx (hb hby at_78) rfl ?_
    refine s_iconst X7 hx (-1 : Int32) (hb hby at_80) rfl ?_
    refine s_iload X7 hx (hb hby at_81) rfl ?_
    refine s_lload X7 hx (hb hby at_83) rfl ?_
    refine st8.trans ?_
    exact k
  by_cases hb_ : vb = (0 : Int32)
  · by_cases hc_ : vc = (0 : Int32)
    · obtain ⟨cq9, kq9, q9a, q9b, q9c⟩ := isOf hZ rfl P9.1
      obtain ⟨_, _, ⟨T9, L9, k9, n9⟩, -, X9, ⟨Lc9, hQ9, l9, y9, z9⟩, st9⟩ := X8.virtualBack hx (y := own_y40) (z := own_y40) hown (mvT hZ (own_w hw 256)) (mvT hZ (own_w hw 257)) (own_nf (args := #[]) (z := own_y17) (mvT hZ (own_w hw 103)) rfl) (mvT hZ (own_w hw 259)) (mvT hZ (own_w hw 258)) (by decide) (backOf (W := 0) (rm33_7 l Z a0 hw [] ob va vb T8.heap n0 P9 (by decide) (by decide) hF19 hF13 hV12_3 hV12_2 (own_ad.mpr hb_)) hZ (own_w hw 260) (own_w hw 2) (by decide) (by decide)) q9a q9c (g := (mkF m 139 #[.val (.int va), .val (.long vk), .second, .val (.int vb), .val (.long vkb), .second, .val (.int vc), .val (.long vkc), .second, .val (.int (0 : Int32)), .val (.ref ob), .val (.int (2 : Int32)), .val (.int (3 : Int32)), .val (.int (4 : Int32)), .val (.int (1 : Int32)), .val (.int (1 : Int32)), .unset, .unset] [(.int (3 : Int32)), (.ref ob)])) rfl (by rw [hml]; rfl) (Steps.refl _) (argsL := [(.int (3 : Int32))]) (rest := []) (lenOf own_pd7 rfl) rfl (by show 2 * 0 + _ ≤ _; exact Nat.le_of_eq rfl) (hb hby at_139) (fun _ _ => ⟨rfl, rfl, (by decide : 31 + 0 ≤ _), (by decide : 219 + 0 ≤ _)⟩)
      dsimp only [Pt.U, Pt.locs, Pt.cells, Pt.slots] at X9 l9 y9 z9 st9 hQ9
      subst l9 y9 z9
      obtain ⟨rfl, Nq9, eh9⟩ := hQ9
      have N9 := Fr.app N8 Nq9
      obtain ⟨cq10, kq10, q10a, q10b, q10c⟩ := isOf hZ eh9 P9.1
      obtain ⟨_, _, ⟨T10, L10, k10, n10⟩, -, X10, ⟨Lc10, hQ10, l10, y10, z10⟩, st10⟩ := X9.virtualBack hx (y := own_y40) (z := own_y40) hown (mvT hZ (own_w hw 256)) (mvT hZ (own_w hw 257)) (own_nf (args := #[]) (z := own_y17) (mvT hZ (own_w hw 103)) rfl) (mvT hZ (own_w hw 259)) (mvT hZ (own_w hw 258)) (by decide) (backOf (W := 0) (rm33_8 l Z a0 hw [] ob vc T8.heap n0 P9 (by decide) (by decide) hF19 hF13 hV12_4 (own_az.mpr hc_)) hZ (own_w hw 260) (own_w hw 2) (by decide) (by decide)) q10a q10c (g := (mkF m 148 #[.val (.int va), .val (.long vk), .second, .val (.int vb), .val (.long vkb), .second, .val (.int vc), .val (.long vkc), .second, .val (.int (0 : Int32)), .val (.ref ob), .val (.int (2 : Int32)), .val (.int (3 : Int32)), .val (.int (4 : Int32)), .val (.int (1 : Int32)), .val (.int (1 : Int32)), .val (.int (1 : Int32)), .unset] [(.int (4 : Int32)), (.ref ob)])) rfl (by rw [hml]; rfl) (Steps.refl _) (argsL := [(.int (4 : Int32))]) (rest := []) (lenOf own_pd7 rfl) rfl (by show 2 * 0 + _ ≤ _; exact Nat.le_of_eq rfl) (hb hby at_148) (fun _ _ => ⟨rfl, eh9, (by decide : 31 + 0 ≤ _), (by decide : 219 + 0 ≤ _)⟩)
      dsimp only [Pt.U, Pt.locs, Pt.cells, Pt.slots] at X10 l10 y10 z10 st10 hQ10
      subst l10 y10 z10
      obtain ⟨rfl, Nq10, eh10⟩ := hQ10
      have N10 := Fr.app N9 Nq10
      obtain ⟨fs, hr, hrun, hended, hW, hsame⟩ := X10.leave (v := some (.int (1 : Int32))) (fun h => by rw [Bd.returns] at h; cases h)
      refine ⟨_, _, preM _ ?_, hrun, hended, _, _, rfl, ?_, ⟨_, rfl⟩, hW, hsame.mono (by decide) (by decide)⟩
      · refine s_iloadN X8 hx (hb hby at_88) rfl ?_
        refine s_ifN X8 hx (hb hby at_89) ((if0 _ _).trans (teq hb_).2) ?_
        refine s_iload X8 hx (hb hby at_92) rfl ?_
        refine s_ifY X8 hx 104 (hb hby at_94) (by decide) (by decide) (by decide) ?_
        refine s_iconst X8 hx (1 : Int32) (hb hby at_104) rfl ?_
        refine s_goto X8 hx 109 (hb hby at_105) (by decide) (by decide) ?_
        refine s_istore X8 hx #[.val (.int va), .val (.long vk), .second, .val (.int vb), .val (.long vkb), .second, .val (.int vc), .val (.long vkc), .second, .val (.int (0 : Int32)), .val (.ref ob), .val (.int (2 : Int32)), .val (.int (3 : Int32)), .val (.int (4 : Int32)), .val (.int (1 : Int32)), .unset, .unset, .unset] (hb hby at_109) rfl ?_
        refine s_iload X8 hx (hb hby at_111) rfl ?_
        refine s_ifN X8 hx (hb hby at_113) ((if0 _ _).trans (teq hc_).2) ?_
        refine s_iload X8 hx (hb hby at_116) rfl ?_
        refine s_ifY X8 hx 128 (hb hby at_118) (by decide) (by decide) (by decide) ?_
        refine s_iconst X8 hx (1 : Int32) (hb hby at_128) rfl ?_
        refine s_goto X8 hx 133 (hb hby at_129) (by decide) (by decide) ?_
        refine s_istore X8 hx #[.val (.int va), .val (.long vk), .second, .val (.int vb), .val (.long vkb), .second, .val (.int vc), .val (.long vkc), .second, .val (.int (0 : Int32)), .val (.ref ob), .val (.int (2 : Int32)), .val (.int (3 : Int32)), .val (.int (4 : Int32)), .val (.int (1 : Int32)), .val (.int (1 : Int32)), .unset, .unset] (hb hby at_133) rfl ?_
        refine s_aload X8 hx (hb hby at_135) rfl rfl ?_
        refine s_iload X8 hx (hb hby at_137) rfl ?_
        refine st9.trans ?_
        refine s_istore X9 hx #[.val (.int va), .val (.long vk), .second, .val (.int vb), .val (.long vkb), .second, .val (.int vc), .val (.long vkc), .second, .val (.int (0 : Int32)), .val (.ref ob), .val (.int (2 : Int32)), .val (.int (3 : Int32)), .val (.int (4 : Int32)), .val (.int (1 : Int32)), .val (.int (1 : Int32)), .val (.int (1 : Int32)), .unset] (hb hby at_142) rfl ?_
        refine s_aload X9 hx (hb hby at_144) rfl rfl ?_
        refine s_iload X9 hx (hb hby at_146) rfl ?_
        refine st10.trans ?_
        refine s_istore X10 hx #[.val (.int va), .val (.long vk), .second, .val (.int vb), .val (.long vkb), .second, .val (.int vc), .val (.long vkc), .second, .val (.int (0 : Int32)), .val (.ref ob), .val (.int (2 : Int32)), .val (.int (3 : Int32)), .val (.int (4 : Int32)), .val (.int (1 : Int32)), .val (.int (1 : Int32)), .val (.int (1 : Int32)), .val (.int (1 : Int32))] (hb hby at_151) rfl ?_
        refine s_iload X10 hx (hb hby at_153) rfl ?_
        refine s_iload X10 hx (hb hby at_155) rfl ?_
        refine s_icmpN X10 hx (hb hby at_157) (by decide) ?_
        refine s_iload X10 hx (hb hby at_160) rfl ?_
        refine s_iload X10 hx (hb hby at_162) rfl ?_
        refine s_icmpN X10 hx (hb hby at_164) (by decide) ?_
        refine s_iconst X10 hx (1 : Int32) (hb hby at_167) rfl ?_
        refine s_goto X10 hx 172 (hb hby at_168) (by decide) (by decide) ?_
        exact retN X10 hx (t := .boolean) Bd.returns (by simp) (hb hby at_172) hr
      · exact ⟨rfl, N10⟩
    · obtain ⟨cq9, kq9, q9a, q9b, q9c⟩ := isOf hZ rfl P9.1
      obtain ⟨_, _, ⟨T9, L9, k9, n9⟩, -, X9, ⟨Lc9, hQ9, l9, y9, z9⟩, st9⟩ := X8.virtualBack hx (y := own_y40) (z := own_y40) hown (mvT hZ (own_w hw 256)) (mvT hZ (own_w hw 257)) (own_nf (args := #[]) (z := own_y17) (mvT hZ (own_w hw 103)) rfl) (mvT hZ (own_w hw 259)) (mvT hZ (own_w hw 258)) (by decide) (backOf (W := 0) (rm33_7 l Z a0 hw [] ob va vb T8.heap n0 P9 (by decide) (by decide) hF19 hF13 hV12_3 hV12_2 (own_ad.mpr hb_)) hZ (own_w hw 260) (own_w hw 2) (by decide) (by decide)) q9a q9c (g := (mkF m 139 #[.val (.int va), .val (.long vk), .second, .val (.int vb), .val (.long vkb), .second, .val (.int vc), .val (.long vkc), .second, .val (.int (0 : Int32)), .val (.ref ob), .val (.int (2 : Int32)), .val (.int (3 : Int32)), .val (.int (4 : Int32)), .val (.int (1 : Int32)), .val (.int (0 : Int32)), .unset, .unset] [(.int (3 : Int32)), (.ref ob)])) rfl (by rw [hml]; rfl) (Steps.refl _) (argsL := [(.int (3 : Int32))]) (rest := []) (lenOf own_pd7 rfl) rfl (by show 2 * 0 + _ ≤ _; exact Nat.le_of_eq rfl) (hb hby at_139) (fun _ _ => ⟨rfl, rfl, (by decide : 31 + 0 ≤ _), (by decide : 219 + 0 ≤ _)⟩)
      dsimp only [Pt.U, Pt.locs, Pt.cells, Pt.slots] at X9 l9 y9 z9 st9 hQ9
      subst l9 y9 z9
      obtain ⟨rfl, Nq9, eh9⟩ := hQ9
      have N9 := Fr.app N8 Nq9
      obtain ⟨cq10, kq10, q10a, q10b, q10c⟩ := isOf hZ eh9 P9.1
      obtain ⟨_, _, ⟨T10, L10, k10, n10⟩, -, X10, ⟨Lc10, hQ10, l10, y10, z10⟩, st10⟩ := X9.virtualBack hx (y := own_y40) (z := own_y40) hown (mvT hZ (own_w hw 256)) (mvT hZ (own_w hw 257)) (own_nf (args := #[]) (z := own_y17) (mvT hZ (own_w hw 103)) rfl) (mvT hZ (own_w hw 259)) (mvT hZ (own_w hw 258)) (by decide) (backOf (W := 0) (rm33_4 l Z a0 hw [] ob vc T8.heap n0 P9 (by decide) (by decide) hF19 hV12_4 (mt own_az.mp hc_)) hZ (own_w hw 260) (own_w hw 2) (by decide) (by decide)) q10a q10c (g := (mkF m 148 #[.val (.int va), .val (.long vk), .second, .val (.int vb), .val (.long vkb), .second, .val (.int vc), .val (.long vkc), .second, .val (.int (0 : Int32)), .val (.ref ob), .val (.int (2 : Int32)), .val (.int (3 : Int32)), .val (.int (4 : Int32)), .val (.int (1 : Int32)), .val (.int (0 : Int32)), .val (.int (1 : Int32)), .unset] [(.int (4 : Int32)), (.ref ob)])) rfl (by rw [hml]; rfl) (Steps.refl _) (argsL := [(.int (4 : Int32))]) (rest := []) (lenOf own_pd7 rfl) rfl (by show 2 * 0 + _ ≤ _; exact Nat.le_of_eq rfl) (hb hby at_148) (fun _ _ => ⟨rfl, eh9, (by decide : 31 + 0 ≤ _), (by decide : 219 + 0 ≤ _)⟩)
      dsimp only [Pt.U, Pt.locs, Pt.cells, Pt.slots] at X10 l10 y10 z10 st10 hQ10
      subst l10 y10 z10
      obtain ⟨rfl, Nq10, eh10⟩ := hQ10
      have N10 := Fr.app N9 Nq10
      obtain ⟨fs, hr, hrun, hended, hW, hsame⟩ := X10.leave (v := some (.int (1 : Int32))) (fun h => by rw [Bd.returns] at h; cases h)
      refine ⟨_, _, preM _ ?_, hrun, hended, _, _, rfl, ?_, ⟨_, rfl⟩, hW, hsame.mono (by decide) (by decide)⟩
      · refine s_iloadN X8 hx (hb hby at_88) rfl ?_
        refine s_ifN X8 hx (hb hby at_89) ((if0 _ _).trans (teq hb_).2) ?_
        refine s_iload X8 hx (hb hby at_92) rfl ?_
        refine s_ifY X8 hx 104 (hb hby at_94) (by decide) (by decide) (by decide) ?_
        refine s_iconst X8 hx (1 : Int32) (hb hby at_104) rfl ?_
        refine s_goto X8 hx 109 (hb hby at_105) (by decide) (by decide) ?_
        refine s_istore X8 hx #[.val (.int va), .val (.long vk), .second, .val (.int vb), .val (.long vkb), .second, .val (.int vc), .val (.long vkc), .second, .val (.int (0 : Int32)), .val (.ref ob), .val (.int (2 : Int32)), .val (.int (3 : Int32)), .val (.int (4 : Int32)), .val (.int (1 : Int32)), .unset, .unset, .unset] (hb hby at_109) rfl ?_
        refine s_iload X8 hx (hb hby at_111) rfl ?_
        refine s_ifY X8 hx 132 (hb hby at_113) ((if0 _ _).trans (feq hc_).2) (by decide) (by decide) ?_
        refine s_iconst X8 hx (0 : Int32) (hb hby at_132) rfl ?_
        refine s_istore X8 hx #[.val (.int va), .val (.long vk), .second, .val (.int vb), .val (.long vkb), .second, .val (.int vc), .val (.long vkc), .second, .val (.int (0 : Int32)), .val (.ref ob), .val (.int (2 : Int32)), .val (.int (3 : Int32)), .val (.int (4 : Int32)), .val (.int (1 : Int32)), .val (.int (0 : Int32)), .unset, .unset] (hb hby at_133) rfl ?_
        refine s_aload X8 hx (hb hby at_135) rfl rfl ?_
        refine s_iload X8 hx (hb hby at_137) rfl ?_
        refine st9.trans ?_
        refine s_istore X9 hx #[.val (.int va), .val (.long vk), .second, .val (.int vb), .val (.long vkb), .second, .val (.int vc), .val (.long vkc), .second, .val (.int (0 : Int32)), .val (.ref ob), .val (.int (2 : Int32)), .val (.int (3 : Int32)), .val (.int (4 : Int32)), .val (.int (1 : Int32)), .val (.int (0 : Int32)), .val (.int (1 : Int32)), .unset] (hb hby at_142) rfl ?_
        refine s_aload X9 hx (hb hby at_144) rfl rfl ?_
        refine s_iload X9 hx (hb hby at_146) rfl ?_
        refine st10.trans ?_
        refine s_istore X10 hx #[.val (.int va), .val (.long vk), .second, .val (.int vb), .val (.long vkb), .second, .val (.int vc), .val (.long vkc), .second, .val (.int (0 : Int32)), .val (.ref ob), .val (.int (2 : Int32)), .val (.int (3 : Int32)), .val (.int (4 : Int32)), .val (.int (1 : Int32)), .val (.int (0 : Int32)), .val (.int (1 : Int32)), .val (.int (0 : Int32))] (hb hby at_151) rfl ?_
        refine s_iload X10 hx (hb hby at_153) rfl ?_
        refine s_iload X10 hx (hb hby at_155) rfl ?_
        refine s_icmpN X10 hx (hb hby at_157) (by decide) ?_
        refine s_iload X10 hx (hb hby at_160) rfl ?_
        refine s_iload X10 hx (hb hby at_162) rfl ?_
        refine s_icmpN X10 hx (hb hby at_164) (by decide) ?_
        refine s_iconst X10 hx (1 : Int32) (hb hby at_167) rfl ?_
        refine s_goto X10 hx 172 (hb hby at_168) (by decide) (by decide) ?_
        exact retN X10 hx (t := .boolean) Bd.returns (by simp) (hb hby at_172) hr
      · exact ⟨rfl, N10⟩
  · by_cases hc_ : vc = (0 : Int32)
    · obtain ⟨cq9, kq9, q9a, q9b, q9c⟩ := isOf hZ rfl P9.1
      obtain ⟨_, _, ⟨T9, L9, k9, n9⟩, -, X9, ⟨Lc9, hQ9, l9, y9, z9⟩, st9⟩ := X8.virtualBack hx (y := own_y40) (z := own_y40) hown (mvT hZ (own_w hw 256)) (mvT hZ (own_w hw 257)) (own_nf (args := #[]) (z := own_y17) (mvT hZ (own_w hw 103)) rfl) (mvT hZ (own_w hw 259)) (mvT hZ (own_w hw 258)) (by decide) (backOf (W := 0) (rm33_6 l Z a0 hw [] ob va vb T8.heap n0 P9 (by decide) (by decide) hF19 hV12_3 hV12_2 (mt own_ad.mp hb_)) hZ (own_w hw 260) (own_w hw 2) (by decide) (by decide)) q9a q9c (g := (mkF m 139 #[.val (.int va), .val (.long vk), .second, .val (.int vb), .val (.long vkb), .second, .val (.int vc), .val (.long vkc), .second, .val (.int (0 : Int32)), .val (.ref ob), .val (.int (2 : Int32)), .val (.int (3 : Int32)), .val (.int (4 : Int32)), .val (.int (0 : Int32)), .val (.int (1 : Int32)), .unset, .unset] [(.int (3 : Int32)), (.ref ob)])) rfl (by rw [hml]; rfl) (Steps.refl _) (argsL := [(.int (3 : Int32))]) (rest := []) (lenOf own_pd7 rfl) rfl (by show 2 * 0 + _ ≤ _; exact Nat.le_of_eq rfl) (hb hby at_139) (fun _ _ => ⟨rfl, rfl, (by decide : 31 + 0 ≤ _), (by decide : 219 + 0 ≤ _)⟩)
      dsimp only [Pt.U, Pt.locs, Pt.cells, Pt.slots] at X9 l9 y9 z9 st9 hQ9
      subst l9 y9 z9
      obtain ⟨rfl, Nq9, eh9⟩ := hQ9
      have N9 := Fr.app N8 Nq9
      obtain ⟨cq10, kq10, q10a, q10b, q10c⟩ := isOf hZ eh9 P9.1
      obtain ⟨_, _, ⟨T10, L10, k10, n10⟩, -, X10, ⟨Lc10, hQ10, l10, y10, z10⟩, st10⟩ := X9.virtualBack hx (y := own_y40) (z := own_y40) hown (mvT hZ (own_w hw 256)) (mvT hZ (own_w hw 257)) (own_nf (args := #[]) (z := own_y17) (mvT hZ (own_w hw 103)) rfl) (mvT hZ (own_w hw 259)) (mvT hZ (own_w hw 258)) (by decide) (backOf (W := 0) (rm33_8 l Z a0 hw [] ob vc T8.heap n0 P9 (by decide) (by decide) hF19 hF13 hV12_4 (own_az.mpr hc_)) hZ (own_w hw 260) (own_w hw 2) (by decide) (by decide)) q10a q10c (g := (mkF m 148 #[.val (.int va), .val (.long vk), .second, .val (.int vb), .val (.long vkb), .second, .val (.int vc), .val (.long vkc), .second, .val (.int (0 : Int32)), .val (.ref ob), .val (.int (2 : Int32)), .val (.int (3 : Int32)), .val (.int (4 : Int32)), .val (.int (0 : Int32)), .val (.int (1 : Int32)), .val (.int (0 : Int32)), .unset] [(.int (4 : Int32)), (.ref ob)])) rfl (by rw [hml]; rfl) (Steps.refl _) (argsL := [(.int (4 : Int32))]) (rest := []) (lenOf own_pd7 rfl) rfl (by show 2 * 0 + _ ≤ _; exact Nat.le_of_eq rfl) (hb hby at_148) (fun _ _ => ⟨rfl, eh9, (by decide : 31 + 0 ≤ _), (by decide : 219 + 0 ≤ _)⟩)
      dsimp only [Pt.U, Pt.locs, Pt.cells, Pt.slots] at X10 l10 y10 z10 st10 hQ10
      subst l10 y10 z10
      obtain ⟨rfl, Nq10, eh10⟩ := hQ10
      have N10 := Fr.app N9 Nq10
      obtain ⟨fs, hr, hrun, hended, hW, hsame⟩ := X10.leave (v := some (.int (1 : Int32))) (fun h => by rw [Bd.returns] at h; cases h)
      refine ⟨_, _, preM _ ?_, hrun, hended, _, _, rfl, ?_, ⟨_, rfl⟩, hW, hsame.mono (by decide) (by decide)⟩
      · refine s_iloadN X8 hx (hb hby at_88) rfl ?_
        refine s_ifY X8 hx 108 (hb hby at_89) ((if0 _ _).trans (feq hb_).2) (by decide) (by decide) ?_
        refine s_iconst X8 hx (0 : Int32) (hb hby at_108) rfl ?_
        refine s_istore X8 hx #[.val (.int va), .val (.long vk), .second, .val (.int vb), .val (.long vkb), .second, .val (.int vc), .val (.long vkc), .second, .val (.int (0 : Int32)), .val (.ref ob), .val (.int (2 : Int32)), .val (.int (3 : Int32)), .val (.int (4 : Int32)), .val (.int (0 : Int32)), .unset, .unset, .unset] (hb hby at_109) rfl ?_
        refine s_iload X8 hx (hb hby at_111) rfl ?_
        refine s_ifN X8 hx (hb hby at_113) ((if0 _ _).trans (teq hc_).2) ?_
        refine s_iload X8 hx (hb hby at_116) rfl ?_
        refine s_ifY X8 hx 128 (hb hby at_118) (by decide) (by decide) (by decide) ?_
        refine s_iconst X8 hx (1 : Int32) (hb hby at_128) rfl ?_
        refine s_goto X8 hx 133 (hb hby at_129) (by decide) (by decide) ?_
        refine s_istore X8 hx #[.val (.int va), .val (.long vk), .second, .val (.int vb), .val (.long vkb), .second, .val (.int vc), .val (.long vkc), .second, .val (.int (0 : Int32)), .val (.ref ob), .val (.int (2 : Int32)), .val (.int (3 : Int32)), .val (.int (4 : Int32)), .val (.int (0 : Int32)), .val (.int (1 : Int32)), .unset, .unset] (hb hby at_133) rfl ?_
        refine s_aload X8 hx (hb hby at_135) rfl rfl ?_
        refine s_iload X8 hx (hb hby at_137) rfl ?_
        refine st9.trans ?_
        refine s_istore X9 hx #[.val (.int va), .val (.long vk), .second, .val (.int vb), .val (.long vkb), .second, .val (.int vc), .val (.long vkc), .second, .val (.int (0 : Int32)), .val (.ref ob), .val (.int (2 : Int32)), .val (.int (3 : Int32)), .val (.int (4 : Int32)), .val (.int (0 : Int32)), .val (.int (1 : Int32)), .val (.int (0 : Int32)), .unset] (hb hby at_142) rfl ?_
        refine s_aload X9 hx (hb hby at_144) rfl rfl ?_
        refine s_iload X9 hx (hb hby at_146) rfl ?_
        refine st10.trans ?_
        refine s_istore X10 hx #[.val (.int va), .val (.long vk), .second, .val (.int vb), .val (.long vkb), .second, .val (.int vc), .val (.long vkc), .second, .val (.int (0 : Int32)), .val (.ref ob), .val (.int (2 : Int32)), .val (.int (3 : Int32)), .val (.int (4 : Int32)), .val (.int (0 : Int32)), .val (.int (1 : Int32)), .val (.int (0 : Int32)), .val (.int (1 : Int32))] (hb hby at_151) rfl ?_
        refine s_iload X10 hx (hb hby at_153) rfl ?_
        refine s_iload X10 hx (hb hby at_155) rfl ?_
        refine s_icmpN X10 hx (hb hby at_157) (by decide) ?_
        refine s_iload X10 hx (hb hby at_160) rfl ?_
        refine s_iload X10 hx (hb hby at_162) rfl ?_
        refine s_icmpN X10 hx (hb hby at_164) (by decide) ?_
        refine s_iconst X10 hx (1 : Int32) (hb hby at_167) rfl ?_
        refine s_goto X10 hx 172 (hb hby at_168) (by decide) (by decide) ?_
        exact retN X10 hx (t := .boolean) Bd.returns (by simp) (hb hby at_172) hr
      · exact ⟨rfl, N10⟩
    · obtain ⟨cq9, kq9, q9a, q9b, q9c⟩ := isOf hZ rfl P9.1
      obtain ⟨_, _, ⟨T9, L9, k9, n9⟩, -, X9, ⟨Lc9, hQ9, l9, y9, z9⟩, st9⟩ := X8.virtualBack hx (y := own_y40) (z := own_y40) hown (mvT hZ (own_w hw 256)) (mvT hZ (own_w hw 257)) (own_nf (args := #[]) (z := own_y17) (mvT hZ (own_w hw 103)) rfl) (mvT hZ (own_w hw 259)) (mvT hZ (own_w hw 258)) (by decide) (backOf (W := 0) (rm33_6 l Z a0 hw [] ob va vb T8.heap n0 P9 (by decide) (by decide) hF19 hV12_3 hV12_2 (mt own_ad.mp hb_)) hZ (own_w hw 260) (own_w hw 2) (by decide) (by decide)) q9a q9c (g := (mkF m 139 #[.val (.int va), .val (.long vk), .second, .val (.int vb), .val (.long vkb), .second, .val (.int vc), .val (.long vkc), .second, .val (.int (0 : Int32)), .val (.ref ob), .val (.int (2 : Int32)), .val (.int (3 : Int32)), .val (.int (4 : Int32)), .val (.int (0 : Int32)), .val (.int (0 : Int32)), .unset, .unset] [(.int (3 : Int32)), (.ref ob)])) rfl (by rw [hml]; rfl) (Steps.refl _) (argsL := [(.int (3 : Int32))]) (rest := []) (lenOf own_pd7 rfl) rfl (by show 2 * 0 + _ ≤ _; exact Nat.le_of_eq rfl) (hb hby at_139) (fun _ _ => ⟨rfl, rfl, (by decide : 31 + 0 ≤ _), (by decide : 219 + 0 ≤ _)⟩)
      dsimp only [Pt.U, Pt.locs, Pt.cells, Pt.slots] at X9 l9 y9 z9 st9 hQ9
      subst l9 y9 z9
      obtain ⟨rfl, Nq9, eh9⟩ := hQ9
      have N9 := Fr.app N8 Nq9
      obtain ⟨cq10, kq10, q10a, q10b, q10c⟩ := isOf hZ eh9 P9.1
      obtain ⟨_, _, ⟨T10, L10, k10, n10⟩, -, X10, ⟨Lc10, hQ10, l10, y10, z10⟩, st10⟩ := X9.virtualBack hx (y := own_y40) (z := own_y40) hown (mvT hZ (own_w hw 256)) (mvT hZ (own_w hw 257)) (own_nf (args := #[]) (z := own_y17) (mvT hZ (own_w hw 103)) rfl) (mvT hZ (own_w hw 259)) (mvT hZ (own_w hw 258)) (by decide) (backOf (W := 0) (rm33_4 l Z a0 hw [] ob vc T8.heap n0 P9 (by decide) (by decide) hF19 hV12_4 (mt own_az.mp hc_)) hZ (own_w hw 260) (own_w hw 2) (by decide) (by decide)) q10a q10c (g := (mkF m 148 #[.val (.int va), .val (.long vk), .second, .val (.int vb), .val (.long vkb), .second, .val (.int vc), .val (.long vkc), .second, .val (.int (0 : Int32)), .val (.ref ob), .val (.int (2 : Int32)), .val (.int (3 : Int32)), .val (.int (4 : Int32)), .val (.int (0 : Int32)), .val (.int (0 : Int32)), .val (.int (0 : Int32)), .unset] [(.int (4 : Int32)), (.ref ob)])) rfl (by rw [hml]; rfl) (Steps.refl _) (argsL := [(.int (4 : Int32))]) (rest := []) (lenOf own_pd7 rfl) rfl (by show 2 * 0 + _ ≤ _; exact Nat.le_of_eq rfl) (hb hby at_148) (fun _ _ => ⟨rfl, eh9, (by decide : 31 + 0 ≤ _), (by decide : 219 + 0 ≤ _)⟩)
      dsimp only [Pt.U, Pt.locs, Pt.cells, Pt.slots] at X10 l10 y10 z10 st10 hQ10
      subst l10 y10 z10
      obtain ⟨rfl, Nq10, eh10⟩ := hQ10
      have N10 := Fr.app N9 Nq10
      obtain ⟨fs, hr, hrun, hended, hW, hsame⟩ := X10.leave (v := some (.int (1 : Int32))) (fun h => by rw [Bd.returns] at h; cases h)
      refine ⟨_, _, preM _ ?_, hrun, hended, _, _, rfl, ?_, ⟨_, rfl⟩, hW, hsame.mono (by decide) (by decide)⟩
      · refine s_iloadN X8 hx (hb hby at_88) rfl ?_
        refine s_ifY X8 hx 108 (hb hby at_89) ((if0 _ _).trans (feq hb_).2) (by decide) (by decide) ?_
        refine s_iconst X8 hx (0 : Int32) (hb hby at_108) rfl ?_
        refine s_istore X8 hx #[.val (.int va), .val (.long vk), .second, .val (.int vb), .val (.long vkb), .second, .val (.int vc), .val (.long vkc), .second, .val (.int (0 : Int32)), .val (.ref ob), .val (.int (2 : Int32)), .val (.int (3 : Int32)), .val (.int (4 : Int32)), .val (.int (0 : Int32)), .unset, .unset, .unset] (hb hby at_109) rfl ?_
        refine s_iload X8 hx (hb hby at_111) rfl ?_
        refine s_ifY X8 hx 132 (hb hby at_113) ((if0 _ _).trans (feq hc_).2) (by decide) (by decide) ?_
        refine s_iconst X8 hx (0 : Int32) (hb hby at_132) rfl ?_
        refine s_istore X8 hx #[.val (.int va), .val (.long vk), .second, .val (.int vb), .val (.long vkb), .second, .val (.int vc), .val (.long vkc), .second, .val (.int (0 : Int32)), .val (.ref ob), .val (.int (2 : Int32)), .val (.int (3 : Int32)), .val (.int (4 : Int32)), .val (.int (0 : Int32)), .val (.int (0 : Int32)), .unset, .unset] (hb hby at_133) rfl ?_
        refine s_aload X8 hx (hb hby at_135) rfl rfl ?_
        refine s_iload X8 hx (hb hby at_137) rfl ?_
        refine st9.trans ?_
        refine s_istore X9 hx #[.val (.int va), .val (.long vk), .second, .val (.int vb), .val (.long vkb), .second, .val (.int vc), .val (.long vkc), .second, .val (.int (0 : Int32)), .val (.ref ob), .val (.int (2 : Int32)), .val (.int (3 : Int32)), .val (.int (4 : Int32)), .val (.int (0 : Int32)), .val (.int (0 : Int32)), .val (.int (0 : Int32)), .unset] (hb hby at_142) rfl ?_
        refine s_aload X9 hx (hb hby at_144) rfl rfl ?_
        refine s_iload X9 hx (hb hby at_146) rfl ?_
        refine st10.trans ?_
        refine s_istore X10 hx #[.val (.int va), .val (.long vk), .second, .val (.int vb), .val (.long vkb), .second, .val (.int vc), .val (.long vkc), .second, .val (.int (0 : Int32)), .val (.ref ob), .val (.int (2 : Int32)), .val (.int (3 : Int32)), .val (.int (4 : Int32)), .val (.int (0 : Int32)), .val (.int (0 : Int32)), .val (.int (0 : Int32)), .val (.int (0 : Int32))] (hb hby at_151) rfl ?_
        refine s_iload X10 hx (hb hby at_153) rfl ?_
        refine s_iload X10 hx (hb hby at_155) rfl ?_
        refine s_icmpN X10 hx (hb hby at_157) (by decide) ?_
        refine s_iload X10 hx (hb hby at_160) rfl ?_
        refine s_iload X10 hx (hb hby at_162) rfl ?_
        refine s_icmpN X10 hx (hb hby at_164) (by decide) ?_
        refine s_iconst X10 hx (1 : Int32) (hb hby at_167) rfl ?_
        refine s_goto X10 hx 172 (hb hby at_168) (by decide) (by decide) ?_
        exact retN X10 hx (t := .boolean) Bd.returns (by simp) (hb hby at_172) hr
      · exact ⟨rfl, N10⟩
theorem rm0 (l : Launch) (Z : State) (a0 : Array Value) (hw : ∀ d ∈ tables_1, d.before a0 Z = true) (ws : List Jvm.Cond) (va : Int32) (vk : Int64) (vb : Int32) (vkb : Int64) (vc : Int32) (vkc : Int64) (h0 : Heap) (n0 : Nat) (Z0 : n0 ≤ h0.size) :
    MetFree l x (head1 (Jvm.Cond.code x code maxLocals ret :: ws) room_1) (fun a U => a = #[(.int va), (.long vk), (.int vb), (.long vkb), (.int vc), (.long vkc)] ∧ Z.Warmed39 U.vm ∧ U.heap = h0) (fun _ _ _ _ _ => True) (fun _ U o U' => ∃ v L, o = .returned v ∧ own_Q (fun v h L => (v = some (.int 1) ∧ Fr n0 L)) v U'.heap L ∧ FrameEnd U o U' L room_1.cells room_1.slots) := by
  by_cases hm : (va &&& (1 : Int32)) = (0 : Int32)
  · exact rm0_n l Z a0 hw ws va vk vb vkb vc vkc h0 n0 Z0 hm
  · exact rm0_m l Z a0 hw ws va vk vb vkb vc vkc h0 n0 Z0 hm
set_option maxRecDepth 65536 in
set_option maxHeartbeats 40000000 in
theorem comes_1 {Post : Tables → Env → Array Value → State → Outcome → State → Prop} (hpost : ∀ tb e args s v u, (limb_1_1.after args s (.returned v) u = true ∧ limb_1_2.after args s (.returned v) u = true ∧ True) → FrameEnd s (.returned v) u (Jvm.fieldLocs frame_1_writes args s ++ Jvm.arrayLocs frame_1_arrays args s ++ Jvm.staticLocs frame_1_statics s) 72 576 → Post tb e args s (.returned v) u) :
    ArmFor flags0 classFile x code maxLocals ret World_1 tables_1 room_1 Calls_1 rest_1 Pre_1 Post := by
  intro l hfl _ _ p e ha hc hk s m args below hf hA hF happ hP
  obtain ⟨hcalls, hrest, hpre⟩ := hP
  obtain ⟨-, -, -, hnamed, -, -, -, hat⟩ := (Spec.applies_iff hf).mp happ
  obtain ⟨hg, hn⟩ := and_e (Cond.before_iff.mp (show (Jvm.Cond.and given_1 narrow_1).before args s = true from hpre))
  obtain ⟨g1, g2⟩ := and_e hg
  obtain ⟨g3, g4⟩ := and_e g2
  obtain ⟨g5, g6⟩ := and_e g4
  obtain ⟨g7, g8⟩ := and_e g6
  obtain ⟨g9, g10⟩ := and_e g8
  obtain ⟨g11, g12⟩ := and_e g10
  obtain ⟨w0, w1, w2, w3, w4, w5, rfl⟩ : ∃ w0 w1 w2 w3 w4 w5 : Value, args = #[w0, w1, w2, w3, w4, w5] := by
    have hs : args.size = 6 := by simpa [Cond.value, given_1] using g1
    obtain ⟨L⟩ := args
    match L, hs with
    | [w0, w1, w2, w3, w4, w5], _ => exact ⟨w0, w1, w2, w3, w4, w5, rfl⟩
  have hw := fun d (hd : d ∈ tables_1) => atoms_spec (ws := Jvm.Cond.code x code maxLocals ret :: tables_1) hat d (List.mem_cons_of_mem _ hd)
  have hfit : Fit s := fun {y c} hc i hi => by
    obtain ⟨ha, rfl⟩ := Array.getElem?_eq_some_iff.mp hc
    have q := List.all_eq_true.mp ((Array.all_eq_true_iff_forall_mem.mp hF) _ (Array.getElem_mem ha)) i (List.mem_range.mpr hi)
    simpa [Array.getElem?_eq_getElem hi] using q
  obtain ⟨i0, ei0⟩ := is_v g3
  obtain rfl : w0 = (.int i0) := Option.some.inj ei0
  obtain ⟨i1, ei1⟩ := isL_v g5
  obtain rfl : w1 = (.long i1) := Option.some.inj ei1
  obtain ⟨i2, ei2⟩ := is_v g7
  obtain rfl : w2 = (.int i2) := Option.some.inj ei2
  obtain ⟨i3, ei3⟩ := isL_v g9
  obtain rfl : w3 = (.long i3) := Option.some.inj ei3
  obtain ⟨i4, ei4⟩ := is_v g11
  obtain rfl : w4 = (.int i4) := Option.some.inj ei4
  obtain ⟨i5, ei5⟩ := isL_v g12
  obtain rfl : w5 = (.long i5) := Option.some.inj ei5
  obtain ⟨n, o, h1, h2, h3, _, L, rfl, ⟨rfl, N⟩, hq⟩ := rm0 l s _ hw tables_1 i0 i1 i2 i3 i4 i5 s.heap s.heap.size (Nat.le_refl _) p e ha hc hk s m _ below hf ((Spec.applies_iff_loose hf).mp happ).1 ⟨rfl, State.Warmed39.refl s, rfl⟩ trivial
  refine ⟨n, _, h1, h2, h3, hpost _ _ _ _ _ _ ⟨Cond.after_iff.mpr rfl, Cond.after_iff.mpr (eq_i res_at (Term.int_eval (1)) rfl), trivial⟩ ⟨hq.1, hq.2.1, (hq.2.2.sift fun y hy => Or.inr (N y hy)).mono (by decide) (by decide)⟩⟩
theorem main_1_1 : Claimed_1_1 := comes_1 fun _ _ _ _ _ _ h hF => ⟨h.1, hF⟩
theorem main_1_2 : Claimed_1_2 := comes_1 fun _ _ _ _ _ _ h hF => ⟨h.2.1, hF⟩
end Jvm.Pilot.@@N@@
namespace Jvm.Pilot.@@N@@
open Jvm Jvm.ClassFile Sem Op Lib Jvm.Free Jvm.Stand Jvm.Pilot.@@N@@.Jvm.D
/-! MADE BY PROGRAM (witnessworld.py) out of the Statement's table words and the real class files: 17 classes; the members and pool entries that the words name. The judged class is class 1, her method 1. -/
namespace start1
open Jvm.ClassFile
def u (s : String) : CpInfo := .utf8 (stringToUtf16 s)
/-- a pool by its gaps: so many unusable entries, then the entry; so many at the end -/
def gap : Nat → List CpInfo → List CpInfo
  | 0, r => r
  | n + 1, r => .unusable :: gap n r
def poolList (es : List (Nat × CpInfo)) (last : Nat) : List CpInfo := es.foldr (fun e r => gap e.1 (e.2 :: r)) (gap last [])
def pool (es : List (Nat × CpInfo)) (last : Nat) : Array CpInfo := ⟨poolList es last⟩
def fileOf (pool : Array CpInfo) (this : Nat) (attrs : Array Attribute := #[]) (ms : Array MethodInfo := #[]) (fl : Nat := 33) (sup : Nat := 0) (ifs : Array Nat := #[]) (fds : Array FieldInfo := #[]) : ClassFile where
  minorVersion := 0
  majorVersion := 65
  constantPool := pool
  accessFlags := fl
  thisClass := this
  superClass := sup
  interfaces := ifs
  fields := fds
  methods := ms
  attributes := attrs
def plain (name : String) (sup : Option ClassId) : Class where
  name := name
  kind := .ordinary
  loader := none
  accessFlags := 33
  super := sup
  interfaces := #[]
  cf := none
  fields := #[]
  methods := #[]
  instanceTypes := #[]
  staticTypes := #[]
  resolved := #[]
  callSites := []
  init := .initialized
  statics := none
  mirror := none

def pool0 : Array CpInfo := pool [(5, u "<init>"), (0, u "()V"), (1, .class_ 10), (1, u "java/lang/Object")] 113

def k0c0 : Code := { maxStack := 0, maxLocals := 1, code := object_method_1_code, exceptionTable := #[], attributes := #[] }
def k0m0 : Method := { name := "<init>", desc := "()V", sig := { parameters := [], returnType := none }, accessFlags := 1, code := some k0c0 }
/-- java/lang/Object -/
def k0 : Class := { plain "java/lang/Object" none with
  accessFlags := 33
  interfaces := #[]
  cf := some (fileOf pool0 8 #[] #[{ accessFlags := 1, nameIndex := 5, descriptorIndex := 6, attributes := #[] }] 33 0 #[] #[])
  fields := #[]
  methods := #[k0m0]
  instanceTypes := #[]
  staticTypes := #[]
  resolved := Array.replicate 124 none
  statics := none }

def pool1 : Array CpInfo := pool [(2, .class_ 4), (1, u "java/lang/Object"), (0, u "<init>"), (0, u "()V"), (0, .class_ 8), (0, u "com/example/jobwright/jobwright/policies/ProfileSteps"), (0, .methodref 7 10), (0, .nameAndType 5 11), (0, u "(IIZ)V"), (0, .methodref 7 13), (0, .nameAndType 14 15), (0, u "clear"), (0, u "(JIJ)V"), (0, .methodref 7 17), (0, .nameAndType 18 19), (0, u "first"), (0, u "()I"), (0, .long 10), (1, .methodref 7 23), (0, .nameAndType 24 25), (0, u "split"), (0, u "(IJ)I"), (0, .long 20), (1, .methodref 7 29), (0, .nameAndType 30 31), (0, u "add"), (0, u "(IIIJ)V"), (0, .methodref 7 33), (0, .nameAndType 34 35), (0, u "sameAsBefore"), (0, u "(I)Z"), (0, .class_ 37), (0, u "com/example/jobwright/jobwright/policies/ProfileStepsSameAsBeforePinLaw"), (2, u "law"), (0, u "(IJIJIJ)Z")] 3

def k1m0 : Method := { name := "<init>", desc := "()V", sig := { parameters := [], returnType := none }, accessFlags := 2, code := none }
def k1c1 : Code := { maxStack := 6, maxLocals := 18, code := code, exceptionTable := #[], attributes := #[] }
def k1m1 : Method := { name := "law", desc := "(IJIJIJ)Z", sig := { parameters := [.int, .long, .int, .long, .int, .long], returnType := some .boolean }, accessFlags := 9, code := some k1c1 }
/-- com/example/jobwright/jobwright/policies/ProfileStepsSameAsBeforePinLaw -/
def k1 : Class := { plain "com/example/jobwright/jobwright/policies/ProfileStepsSameAsBeforePinLaw" (some 0) with
  accessFlags := 49
  interfaces := #[]
  cf := some (fileOf pool1 36 #[] #[{ accessFlags := 2, nameIndex := 5, descriptorIndex := 6, attributes := #[] }, { accessFlags := 9, nameIndex := 40, descriptorIndex := 41, attributes := #[] }] 49 2 #[] #[])
  fields := #[]
  methods := #[k1m0, k1m1]
  instanceTypes := #[]
  staticTypes := #[]
  resolved := Array.replicate 45 none
  statics := none }

def pool2 : Array CpInfo := pool [(2, .class_ 4), (1, u "com/example/jobwright/jobwright/policies/Treap"), (0, u "<init>"), (0, u "(I)V"), (0, .methodref 8 9), (0, .class_ 10), (0, .nameAndType 5 11), (0, u "java/lang/Object"), (0, u "()V"), (0, .fieldref 2 13), (0, .nameAndType 14 15), (0, u "root"), (0, u "I"), (0, .fieldref 2 17), (0, .nameAndType 18 15), (0, u "used"), (0, .long 11400714819323198485), (1, .fieldref 2 22), (0, .nameAndType 23 24), (0, u "seed"), (0, u "J"), (0, .fieldref 2 26), (0, .nameAndType 27 28), (0, u "links"), (0, u "[I"), (0, .fieldref 2 30), (0, .nameAndType 31 28), (0, u "unused"), (0, .fieldref 2 33), (0, .nameAndType 34 15), (0, u "size"), (0, .fieldref 2 36), (0, .nameAndType 37 15), (0, u "unusedCount"), (6, .methodref 2 45), (0, .nameAndType 46 6), (0, u "ensureCapacity"), (0, .methodref 2 48), (0, .nameAndType 49 50), (0, u "setLeft"), (0, u "(II)V"), (0, .methodref 2 52), (0, .nameAndType 53 50), (0, u "setRight"), (0, .methodref 2 55), (0, .nameAndType 56 57), (0, u "nextWeight"), (0, u "()I"), (0, .methodref 2 59), (0, .nameAndType 60 61), (0, u "pull"), (0, u "(I)Z"), (0, .fieldref 2 63), (0, .nameAndType 64 65), (0, u "settled"), (0, u "Z"), (0, .methodref 2 67), (0, .nameAndType 68 69), (0, u "insert"), (0, u "(II)I"), (6, .methodref 2 77), (0, .nameAndType 78 79), (0, u "precedes"), (0, u "(II)Z"), (0, .methodref 2 81), (0, .nameAndType 82 83), (0, u "left"), (0, u "(I)I"), (0, .methodref 2 85), (0, .nameAndType 86 83), (0, u "weight"), (3, .methodref 2 91), (0, .nameAndType 92 83), (0, u "right"), (3, .methodref 2 97), (0, .nameAndType 98 6), (0, u "pullOnPath"), (3, u "NONE"), (4, u "newNode"), (1, u "insertNode"), (2, u "clearNodes")] 2

def k2m0 : Method := { name := "<init>", desc := "()V", sig := { parameters := [], returnType := none }, accessFlags := 0, code := none }
def k2c1 : Code := { maxStack := 3, maxLocals := 2, code := prog_174_method_2_code, exceptionTable := #[], attributes := #[] }
def k2m1 : Method := { name := "<init>", desc := "(I)V", sig := { parameters := [.int], returnType := none }, accessFlags := 0, code := some k2c1 }
def k2m2 : Method := { name := "precedes", desc := "(II)Z", sig := { parameters := [.int, .int], returnType := some .boolean }, accessFlags := 1024, code := none }
def k2m3 : Method := { name := "pull", desc := "(I)Z", sig := { parameters := [.int], returnType := some .boolean }, accessFlags := 1024, code := none }
def k2m4 : Method := { name := "ensureCapacity", desc := "(I)V", sig := { parameters := [.int], returnType := none }, accessFlags := 1024, code := none }
def k2c5 : Code := { maxStack := 1, maxLocals := 1, code := prog_174_method_6_code, exceptionTable := #[], attributes := #[] }
def k2m5 : Method := { name := "root", desc := "()I", sig := { parameters := [], returnType := some .int }, accessFlags := 16, code := some k2c5 }
def k2c6 : Code := { maxStack := 3, maxLocals := 2, code := prog_174_method_8_code, exceptionTable := #[], attributes := #[] }
def k2m6 : Method := { name := "left", desc := "(I)I", sig := { parameters := [.int], returnType := some .int }, accessFlags := 16, code := some k2c6 }
def k2c7 : Code := { maxStack := 3, maxLocals := 2, code := prog_174_method_9_code, exceptionTable := #[], attributes := #[] }
def k2m7 : Method := { name := "right", desc := "(I)I", sig := { parameters := [.int], returnType := some .int }, accessFlags := 16, code := some k2c7 }
def k2c8 : Code := { maxStack := 3, maxLocals := 2, code := prog_174_method_10_code, exceptionTable := #[], attributes := #[] }
def k2m8 : Method := { name := "weight", desc := "(I)I", sig := { parameters := [.int], returnType := some .int }, accessFlags := 2, code := some k2c8 }
def k2c9 : Code := { maxStack := 3, maxLocals := 3, code := prog_174_method_11_code, exceptionTable := #[], attributes := #[] }
def k2m9 : Method := { name := "setLeft", desc := "(II)V", sig := { parameters := [.int, .int], returnType := none }, accessFlags := 2, code := some k2c9 }
def k2c10 : Code := { maxStack := 3, maxLocals := 3, code := prog_174_method_12_code, exceptionTable := #[], attributes := #[] }
def k2m10 : Method := { name := "setRight", desc := "(II)V", sig := { parameters := [.int, .int], returnType := none }, accessFlags := 2, code := some k2c10 }
def k2c11 : Code := { maxStack := 4, maxLocals := 2, code := prog_174_method_13_code, exceptionTable := #[], attributes := #[] }
def k2m11 : Method := { name := "newNode", desc := "()I", sig := { parameters := [], returnType := some .int }, accessFlags := 16, code := some k2c11 }
def k2c12 : Code := { maxStack := 4, maxLocals := 2, code := prog_174_method_14_code, exceptionTable := #[], attributes := #[] }
def k2m12 : Method := { name := "insertNode", desc := "(I)V", sig := { parameters := [.int], returnType := none }, accessFlags := 16, code := some k2c12 }
def k2c13 : Code := { maxStack := 2, maxLocals := 1, code := prog_174_method_17_code, exceptionTable := #[], attributes := #[] }
def k2m13 : Method := { name := "clearNodes", desc := "()V", sig := { parameters := [], returnType := none }, accessFlags := 16, code := some k2c13 }
def k2c14 : Code := { maxStack := 6, maxLocals := 1, code := prog_174_method_18_code, exceptionTable := #[], attributes := #[] }
def k2m14 : Method := { name := "nextWeight", desc := "()I", sig := { parameters := [], returnType := some .int }, accessFlags := 2, code := some k2c14 }
def k2c15 : Code := { maxStack := 5, maxLocals := 3, code := prog_174_method_19_code, exceptionTable := #[], attributes := #[] }
def k2m15 : Method := { name := "insert", desc := "(II)I", sig := { parameters := [.int, .int], returnType := some .int }, accessFlags := 2, code := some k2c15 }
def k2c16 : Code := { maxStack := 3, maxLocals := 2, code := prog_174_method_22_code, exceptionTable := #[], attributes := #[] }
def k2m16 : Method := { name := "pullOnPath", desc := "(I)V", sig := { parameters := [.int], returnType := none }, accessFlags := 2, code := some k2c16 }
/-- com/example/jobwright/jobwright/policies/Treap -/
def k2 : Class := { plain "com/example/jobwright/jobwright/policies/Treap" (some 0) with
  accessFlags := 1056
  interfaces := #[]
  cf := some (fileOf pool2 2 #[] #[{ accessFlags := 0, nameIndex := 5, descriptorIndex := 11, attributes := #[] }, { accessFlags := 0, nameIndex := 5, descriptorIndex := 6, attributes := #[] }, { accessFlags := 1024, nameIndex := 78, descriptorIndex := 79, attributes := #[] }, { accessFlags := 1024, nameIndex := 60, descriptorIndex := 61, attributes := #[] }, { accessFlags := 1024, nameIndex := 46, descriptorIndex := 6, attributes := #[] }, { accessFlags := 16, nameIndex := 14, descriptorIndex := 57, attributes := #[] }, { accessFlags := 16, nameIndex := 82, descriptorIndex := 83, attributes := #[] }, { accessFlags := 16, nameIndex := 92, descriptorIndex := 83, attributes := #[] }, { accessFlags := 2, nameIndex := 86, descriptorIndex := 83, attributes := #[] }, { accessFlags := 2, nameIndex := 49, descriptorIndex := 50, attributes := #[] }, { accessFlags := 2, nameIndex := 53, descriptorIndex := 50, attributes := #[] }, { accessFlags := 16, nameIndex := 107, descriptorIndex := 57, attributes := #[] }, { accessFlags := 16, nameIndex := 109, descriptorIndex := 6, attributes := #[] }, { accessFlags := 16, nameIndex := 112, descriptorIndex := 11, attributes := #[] }, { accessFlags := 2, nameIndex := 56, descriptorIndex := 57, attributes := #[] }, { accessFlags := 2, nameIndex := 68, descriptorIndex := 69, attributes := #[] }, { accessFlags := 2, nameIndex := 98, descriptorIndex := 6, attributes := #[] }] 1056 8 #[] #[{ accessFlags := 24, nameIndex := 102, descriptorIndex := 15, attributes := #[] }, { accessFlags := 2, nameIndex := 27, descriptorIndex := 28, attributes := #[] }, { accessFlags := 2, nameIndex := 14, descriptorIndex := 15, attributes := #[] }, { accessFlags := 2, nameIndex := 34, descriptorIndex := 15, attributes := #[] }, { accessFlags := 2, nameIndex := 31, descriptorIndex := 28, attributes := #[] }, { accessFlags := 2, nameIndex := 37, descriptorIndex := 15, attributes := #[] }, { accessFlags := 2, nameIndex := 18, descriptorIndex := 15, attributes := #[] }, { accessFlags := 2, nameIndex := 23, descriptorIndex := 24, attributes := #[] }, { accessFlags := 2, nameIndex := 64, descriptorIndex := 65, attributes := #[] }])
  fields := #[{ name := "NONE", type := .int, accessFlags := 24, slot := 0, constantValue := 0 }, { name := "links", type := (.array .int), accessFlags := 2, slot := 0, constantValue := 0 }, { name := "root", type := .int, accessFlags := 2, slot := 1, constantValue := 0 }, { name := "size", type := .int, accessFlags := 2, slot := 2, constantValue := 0 }, { name := "unused", type := (.array .int), accessFlags := 2, slot := 3, constantValue := 0 }, { name := "unusedCount", type := .int, accessFlags := 2, slot := 4, constantValue := 0 }, { name := "used", type := .int, accessFlags := 2, slot := 5, constantValue := 0 }, { name := "seed", type := .long, accessFlags := 2, slot := 6, constantValue := 0 }, { name := "settled", type := .boolean, accessFlags := 2, slot := 7, constantValue := 0 }]
  methods := #[k2m0, k2m1, k2m2, k2m3, k2m4, k2m5, k2m6, k2m7, k2m8, k2m9, k2m10, k2m11, k2m12, k2m13, k2m14, k2m15, k2m16]
  instanceTypes := #[(.array .int), .int, .int, (.array .int), .int, .int, .long, .boolean]
  staticTypes := #[.int]
  resolved := Array.replicate 115 none
  statics := none }

def pool3 : Array CpInfo := pool [(3, .methodref 4 5), (0, .class_ 6), (0, .nameAndType 7 8), (0, u "com/example/jobwright/jobwright/policies/Treap"), (0, u "<init>"), (0, u "(I)V"), (0, .fieldref 10 11), (0, .class_ 12), (0, .nameAndType 13 14), (0, u "com/example/jobwright/jobwright/policies/ProfileSteps"), (0, u "readBlock"), (0, u "I"), (0, .class_ 16), (0, u "com/example/jobwright/jobwright/policies/StepSummary"), (0, .methodref 15 18), (0, .nameAndType 7 19), (0, u "()V"), (0, .fieldref 10 21), (0, .nameAndType 22 23), (0, u "joined"), (0, u "Lcom/example/jobwright/jobwright/policies/StepSummary;"), (0, .fieldref 10 25), (0, .nameAndType 26 27), (0, u "unfloored"), (0, u "[I"), (0, .fieldref 10 29), (0, .nameAndType 30 27), (0, u "after"), (0, .fieldref 10 32), (0, .nameAndType 33 14), (0, u "shift"), (0, .fieldref 10 35), (0, .nameAndType 36 14), (0, u "stepsPerBlock"), (0, .fieldref 10 38), (0, .nameAndType 39 27), (0, u "counts"), (0, .fieldref 10 41), (0, .nameAndType 42 27), (0, u "previousBlocks"), (0, .fieldref 10 44), (0, .nameAndType 45 27), (0, u "nextBlocks"), (0, .fieldref 10 47), (0, .nameAndType 48 27), (0, u "firstBlocks"), (0, .fieldref 10 50), (0, .nameAndType 51 27), (0, u "subtreeRises"), (0, .fieldref 10 53), (0, .nameAndType 54 55), (0, u "subtreeMemoryRises"), (0, u "[J"), (0, .fieldref 10 57), (0, .nameAndType 58 59), (0, u "own"), (0, u "[Lcom/example/jobwright/jobwright/policies/StepSummary;"), (0, .fieldref 10 61), (0, .nameAndType 62 59), (0, u "whole"), (0, .fieldref 10 64), (0, .nameAndType 65 66), (0, u "ownStale"), (0, u "[Z"), (0, .fieldref 10 68), (0, .nameAndType 69 66), (0, u "wholeStale"), (0, .fieldref 10 71), (0, .nameAndType 72 27), (0, u "blockFewest"), (0, .fieldref 10 74), (0, .nameAndType 75 55), (0, u "blockLeast"), (0, .fieldref 10 77), (0, .nameAndType 78 66), (0, u "blockFloorStale"), (0, .fieldref 10 80), (0, .nameAndType 81 27), (0, u "subtreeFewest"), (0, .fieldref 10 83), (0, .nameAndType 84 55), (0, u "subtreeLeast"), (0, .fieldref 10 86), (0, .nameAndType 87 66), (0, u "subtreeFloorStale"), (0, .fieldref 10 89), (0, .nameAndType 90 55), (0, u "times"), (0, .fieldref 10 92), (0, .nameAndType 93 27), (0, u "free"), (0, .fieldref 10 95), (0, .nameAndType 96 55), (0, u "memory"), (0, .fieldref 10 98), (0, .nameAndType 99 27), (0, u "stack"), (0, .methodref 10 101), (0, .nameAndType 102 19), (0, u "clearNodes"), (0, .methodref 10 104), (0, .nameAndType 105 106), (0, u "newNode"), (0, u "()I"), (0, .fieldref 10 108), (0, .nameAndType 109 110), (0, u "moved"), (0, u "J"), (0, .fieldref 10 112), (0, .nameAndType 113 14), (0, u "firstBlock"), (0, .fieldref 10 115), (0, .nameAndType 116 14), (0, u "lastBlock"), (0, .fieldref 10 118), (0, .nameAndType 119 14), (0, u "lastFound"), (0, .fieldref 10 121), (0, .nameAndType 122 14), (0, u "lastSlot"), (0, .methodref 10 124), (0, .nameAndType 125 8), (0, u "insertNode"), (3, .fieldref 10 130), (0, .nameAndType 131 14), (0, u "readBase"), (2, .fieldref 10 135), (0, .nameAndType 136 110), (0, u "readMemoryBase"), (0, .methodref 10 138), (0, .nameAndType 139 140), (0, u "time"), (0, u "(I)J"), (4, .methodref 10 146), (0, .nameAndType 147 106), (0, u "root"), (0, .methodref 10 149), (0, .nameAndType 150 151), (0, u "right"), (0, u "(I)I"), (0, .methodref 10 153), (0, .nameAndType 154 151), (0, u "left"), (6, .methodref 10 162), (0, .nameAndType 163 164), (0, u "addWithin"), (0, u "(IIIJ)V"), (0, .methodref 10 166), (0, .nameAndType 167 8), (0, u "changed"), (0, .methodref 10 169), (0, .nameAndType 170 171), (0, u "raiseRise"), (0, u "(IIJ)V"), (0, .methodref 10 173), (0, .nameAndType 174 171), (0, u "raiseBasesAfter"), (0, .methodref 10 176), (0, .nameAndType 177 151), (0, u "newBlockAfter"), (0, .methodref 179 180), (0, .class_ 181), (0, .nameAndType 182 183), (0, u "java/lang/System"), (0, u "arraycopy"), (0, u "(Ljava/lang/Object;ILjava/lang/Object;II)V"), (15, u "processors"), (2, u "kilobytes"), (2, u "length"), (2, u "latest"), (4, u "runStart"), (2, u "over"), (0, u "Z"), (2, u "found"), (3, .methodref 10 225), (0, .nameAndType 226 151), (0, u "rise"), (0, .methodref 10 228), (0, .nameAndType 229 140), (0, u "memoryRise"), (36, u "(I)Z"), (15, u "first"), (53, .methodref 10 337), (0, .nameAndType 338 8), (0, u "markSubtreeStale"), (17, u "END"), (2, u "NO_TIME"), (0, u "DEFAULT_BLOCK_SHIFT"), (1, u "DEFAULT_BLOCKS"), (1, u "WALKED_BLOCKS"), (1, u "NEAR_STEPS"), (0, u "(IIZ)V"), (4, u "clear"), (0, u "(JIJ)V"), (1, u "sameAsBefore"), (3, u "add"), (0, u "split"), (0, u "(IJ)I"), (7, u "precedes"), (0, u "(II)Z"), (0, u "pull"), (1, u "ensureCapacity")] 2

def k3c0 : Code := { maxStack := 3, maxLocals := 5, code := prog_152_method_1_code, exceptionTable := #[], attributes := #[] }
def k3m0 : Method := { name := "<init>", desc := "(IIZ)V", sig := { parameters := [.int, .int, .boolean], returnType := none }, accessFlags := 0, code := some k3c0 }
def k3c1 : Code := { maxStack := 6, maxLocals := 7, code := prog_152_method_2_code, exceptionTable := #[], attributes := #[] }
def k3m1 : Method := { name := "clear", desc := "(JIJ)V", sig := { parameters := [.long, .int, .long], returnType := none }, accessFlags := 0, code := some k3c1 }
def k3c2 : Code := { maxStack := 2, maxLocals := 1, code := prog_152_method_3_code, exceptionTable := #[], attributes := #[] }
def k3m2 : Method := { name := "first", desc := "()I", sig := { parameters := [], returnType := some .int }, accessFlags := 0, code := some k3c2 }
def k3c3 : Code := { maxStack := 4, maxLocals := 2, code := prog_152_method_5_code, exceptionTable := #[], attributes := #[] }
def k3m3 : Method := { name := "time", desc := "(I)J", sig := { parameters := [.int], returnType := some .long }, accessFlags := 0, code := some k3c3 }
def k3c4 : Code := { maxStack := 5, maxLocals := 2, code := prog_152_method_8_code, exceptionTable := #[], attributes := #[] }
def k3m4 : Method := { name := "sameAsBefore", desc := "(I)Z", sig := { parameters := [.int], returnType := some .boolean }, accessFlags := 0, code := some k3c4 }
def k3c5 : Code := { maxStack := 6, maxLocals := 8, code := prog_152_method_14_code, exceptionTable := #[], attributes := #[] }
def k3m5 : Method := { name := "add", desc := "(IIIJ)V", sig := { parameters := [.int, .int, .int, .long], returnType := none }, accessFlags := 0, code := some k3c5 }
def k3c6 : Code := { maxStack := 5, maxLocals := 5, code := prog_152_method_15_code, exceptionTable := #[], attributes := #[] }
def k3m6 : Method := { name := "raiseBasesAfter", desc := "(IIJ)V", sig := { parameters := [.int, .int, .long], returnType := none }, accessFlags := 2, code := some k3c6 }
def k3c7 : Code := { maxStack := 6, maxLocals := 7, code := prog_152_method_16_code, exceptionTable := #[], attributes := #[] }
def k3m7 : Method := { name := "addWithin", desc := "(IIIJ)V", sig := { parameters := [.int, .int, .int, .long], returnType := none }, accessFlags := 2, code := some k3c7 }
def k3c8 : Code := { maxStack := 8, maxLocals := 11, code := prog_152_method_17_code, exceptionTable := #[], attributes := #[] }
def k3m8 : Method := { name := "split", desc := "(IJ)I", sig := { parameters := [.int, .long], returnType := some .int }, accessFlags := 0, code := some k3c8 }
def k3c9 : Code := { maxStack := 6, maxLocals := 8, code := prog_152_method_45_code, exceptionTable := #[], attributes := #[] }
def k3m9 : Method := { name := "raiseRise", desc := "(IIJ)V", sig := { parameters := [.int, .int, .long], returnType := none }, accessFlags := 2, code := some k3c9 }
def k3c10 : Code := { maxStack := 4, maxLocals := 2, code := prog_152_method_46_code, exceptionTable := #[], attributes := #[] }
def k3m10 : Method := { name := "rise", desc := "(I)I", sig := { parameters := [.int], returnType := some .int }, accessFlags := 2, code := some k3c10 }
def k3c11 : Code := { maxStack := 4, maxLocals := 2, code := prog_152_method_47_code, exceptionTable := #[], attributes := #[] }
def k3m11 : Method := { name := "memoryRise", desc := "(I)J", sig := { parameters := [.int], returnType := some .long }, accessFlags := 2, code := some k3c11 }
def k3c12 : Code := { maxStack := 5, maxLocals := 5, code := prog_152_method_48_code, exceptionTable := #[], attributes := #[] }
def k3m12 : Method := { name := "changed", desc := "(I)V", sig := { parameters := [.int], returnType := none }, accessFlags := 2, code := some k3c12 }
def k3c13 : Code := { maxStack := 3, maxLocals := 2, code := prog_152_method_49_code, exceptionTable := #[], attributes := #[] }
def k3m13 : Method := { name := "markSubtreeStale", desc := "(I)V", sig := { parameters := [.int], returnType := none }, accessFlags := 2, code := some k3c13 }
def k3c14 : Code := { maxStack := 3, maxLocals := 4, code := prog_152_method_50_code, exceptionTable := #[], attributes := #[] }
def k3m14 : Method := { name := "newBlockAfter", desc := "(I)I", sig := { parameters := [.int], returnType := some .int }, accessFlags := 2, code := some k3c14 }
def k3c15 : Code := { maxStack := 5, maxLocals := 3, code := prog_152_method_54_code, exceptionTable := #[], attributes := #[] }
def k3m15 : Method := { name := "precedes", desc := "(II)Z", sig := { parameters := [.int, .int], returnType := some .boolean }, accessFlags := 0, code := some k3c15 }
def k3c16 : Code := { maxStack := 6, maxLocals := 4, code := prog_152_method_55_code, exceptionTable := #[], attributes := #[] }
def k3m16 : Method := { name := "pull", desc := "(I)Z", sig := { parameters := [.int], returnType := some .boolean }, accessFlags := 0, code := some k3c16 }
def k3c17 : Code := { maxStack := 4, maxLocals := 2, code := prog_152_method_56_code, exceptionTable := #[], attributes := #[] }
def k3m17 : Method := { name := "ensureCapacity", desc := "(I)V", sig := { parameters := [.int], returnType := none }, accessFlags := 0, code := some k3c17 }
/-- com/example/jobwright/jobwright/policies/ProfileSteps -/
def k3 : Class := { plain "com/example/jobwright/jobwright/policies/ProfileSteps" (some 2) with
  accessFlags := 48
  interfaces := #[]
  cf := some (fileOf pool3 10 #[] #[{ accessFlags := 0, nameIndex := 7, descriptorIndex := 367, attributes := #[] }, { accessFlags := 0, nameIndex := 372, descriptorIndex := 373, attributes := #[] }, { accessFlags := 0, nameIndex := 282, descriptorIndex := 106, attributes := #[] }, { accessFlags := 0, nameIndex := 139, descriptorIndex := 140, attributes := #[] }, { accessFlags := 0, nameIndex := 375, descriptorIndex := 266, attributes := #[] }, { accessFlags := 0, nameIndex := 379, descriptorIndex := 164, attributes := #[] }, { accessFlags := 2, nameIndex := 174, descriptorIndex := 171, attributes := #[] }, { accessFlags := 2, nameIndex := 163, descriptorIndex := 164, attributes := #[] }, { accessFlags := 0, nameIndex := 380, descriptorIndex := 381, attributes := #[] }, { accessFlags := 2, nameIndex := 170, descriptorIndex := 171, attributes := #[] }, { accessFlags := 2, nameIndex := 226, descriptorIndex := 151, attributes := #[] }, { accessFlags := 2, nameIndex := 229, descriptorIndex := 140, attributes := #[] }, { accessFlags := 2, nameIndex := 167, descriptorIndex := 8, attributes := #[] }, { accessFlags := 2, nameIndex := 338, descriptorIndex := 8, attributes := #[] }, { accessFlags := 2, nameIndex := 177, descriptorIndex := 151, attributes := #[] }, { accessFlags := 0, nameIndex := 389, descriptorIndex := 390, attributes := #[] }, { accessFlags := 0, nameIndex := 391, descriptorIndex := 266, attributes := #[] }, { accessFlags := 0, nameIndex := 393, descriptorIndex := 8, attributes := #[] }] 48 4 #[] #[{ accessFlags := 24, nameIndex := 356, descriptorIndex := 14, attributes := #[] }, { accessFlags := 24, nameIndex := 359, descriptorIndex := 110, attributes := #[] }, { accessFlags := 24, nameIndex := 360, descriptorIndex := 14, attributes := #[] }, { accessFlags := 24, nameIndex := 362, descriptorIndex := 14, attributes := #[] }, { accessFlags := 26, nameIndex := 364, descriptorIndex := 14, attributes := #[] }, { accessFlags := 26, nameIndex := 366, descriptorIndex := 14, attributes := #[] }, { accessFlags := 18, nameIndex := 36, descriptorIndex := 14, attributes := #[] }, { accessFlags := 18, nameIndex := 33, descriptorIndex := 14, attributes := #[] }, { accessFlags := 2, nameIndex := 90, descriptorIndex := 55, attributes := #[] }, { accessFlags := 2, nameIndex := 93, descriptorIndex := 27, attributes := #[] }, { accessFlags := 2, nameIndex := 96, descriptorIndex := 55, attributes := #[] }, { accessFlags := 2, nameIndex := 39, descriptorIndex := 27, attributes := #[] }, { accessFlags := 2, nameIndex := 42, descriptorIndex := 27, attributes := #[] }, { accessFlags := 2, nameIndex := 45, descriptorIndex := 27, attributes := #[] }, { accessFlags := 2, nameIndex := 113, descriptorIndex := 14, attributes := #[] }, { accessFlags := 2, nameIndex := 116, descriptorIndex := 14, attributes := #[] }, { accessFlags := 2, nameIndex := 119, descriptorIndex := 14, attributes := #[] }, { accessFlags := 2, nameIndex := 48, descriptorIndex := 27, attributes := #[] }, { accessFlags := 2, nameIndex := 51, descriptorIndex := 27, attributes := #[] }, { accessFlags := 2, nameIndex := 54, descriptorIndex := 55, attributes := #[] }, { accessFlags := 2, nameIndex := 13, descriptorIndex := 14, attributes := #[] }, { accessFlags := 2, nameIndex := 131, descriptorIndex := 14, attributes := #[] }, { accessFlags := 2, nameIndex := 136, descriptorIndex := 110, attributes := #[] }, { accessFlags := 2, nameIndex := 109, descriptorIndex := 110, attributes := #[] }, { accessFlags := 2, nameIndex := 122, descriptorIndex := 14, attributes := #[] }, { accessFlags := 2, nameIndex := 58, descriptorIndex := 59, attributes := #[] }, { accessFlags := 2, nameIndex := 62, descriptorIndex := 59, attributes := #[] }, { accessFlags := 2, nameIndex := 65, descriptorIndex := 66, attributes := #[] }, { accessFlags := 2, nameIndex := 69, descriptorIndex := 66, attributes := #[] }, { accessFlags := 18, nameIndex := 22, descriptorIndex := 23, attributes := #[] }, { accessFlags := 18, nameIndex := 99, descriptorIndex := 27, attributes := #[] }, { accessFlags := 2, nameIndex := 72, descriptorIndex := 27, attributes := #[] }, { accessFlags := 2, nameIndex := 75, descriptorIndex := 55, attributes := #[] }, { accessFlags := 2, nameIndex := 78, descriptorIndex := 66, attributes := #[] }, { accessFlags := 2, nameIndex := 81, descriptorIndex := 27, attributes := #[] }, { accessFlags := 2, nameIndex := 84, descriptorIndex := 55, attributes := #[] }, { accessFlags := 2, nameIndex := 87, descriptorIndex := 66, attributes := #[] }, { accessFlags := 2, nameIndex := 26, descriptorIndex := 27, attributes := #[] }, { accessFlags := 2, nameIndex := 199, descriptorIndex := 14, attributes := #[] }, { accessFlags := 2, nameIndex := 202, descriptorIndex := 110, attributes := #[] }, { accessFlags := 2, nameIndex := 205, descriptorIndex := 110, attributes := #[] }, { accessFlags := 2, nameIndex := 208, descriptorIndex := 110, attributes := #[] }, { accessFlags := 2, nameIndex := 213, descriptorIndex := 110, attributes := #[] }, { accessFlags := 2, nameIndex := 216, descriptorIndex := 217, attributes := #[] }, { accessFlags := 2, nameIndex := 220, descriptorIndex := 110, attributes := #[] }, { accessFlags := 2, nameIndex := 30, descriptorIndex := 27, attributes := #[] }])
  fields := #[{ name := "END", type := .int, accessFlags := 24, slot := 0, constantValue := 0 }, { name := "NO_TIME", type := .long, accessFlags := 24, slot := 1, constantValue := 0 }, { name := "DEFAULT_BLOCK_SHIFT", type := .int, accessFlags := 24, slot := 2, constantValue := 0 }, { name := "DEFAULT_BLOCKS", type := .int, accessFlags := 24, slot := 3, constantValue := 0 }, { name := "WALKED_BLOCKS", type := .int, accessFlags := 26, slot := 4, constantValue := 0 }, { name := "NEAR_STEPS", type := .int, accessFlags := 26, slot := 5, constantValue := 0 }, { name := "stepsPerBlock", type := .int, accessFlags := 18, slot := 8, constantValue := 0 }, { name := "shift", type := .int, accessFlags := 18, slot := 9, constantValue := 0 }, { name := "times", type := (.array .long), accessFlags := 2, slot := 10, constantValue := 0 }, { name := "free", type := (.array .int), accessFlags := 2, slot := 11, constantValue := 0 }, { name := "memory", type := (.array .long), accessFlags := 2, slot := 12, constantValue := 0 }, { name := "counts", type := (.array .int), accessFlags := 2, slot := 13, constantValue := 0 }, { name := "previousBlocks", type := (.array .int), accessFlags := 2, slot := 14, constantValue := 0 }, { name := "nextBlocks", type := (.array .int), accessFlags := 2, slot := 15, constantValue := 0 }, { name := "firstBlock", type := .int, accessFlags := 2, slot := 16, constantValue := 0 }, { name := "lastBlock", type := .int, accessFlags := 2, slot := 17, constantValue := 0 }, { name := "lastFound", type := .int, accessFlags := 2, slot := 18, constantValue := 0 }, { name := "firstBlocks", type := (.array .int), accessFlags := 2, slot := 19, constantValue := 0 }, { name := "subtreeRises", type := (.array .int), accessFlags := 2, slot := 20, constantValue := 0 }, { name := "subtreeMemoryRises", type := (.array .long), accessFlags := 2, slot := 21, constantValue := 0 }, { name := "readBlock", type := .int, accessFlags := 2, slot := 22, constantValue := 0 }, { name := "readBase", type := .int, accessFlags := 2, slot := 23, constantValue := 0 }, { name := "readMemoryBase", type := .long, accessFlags := 2, slot := 24, constantValue := 0 }, { name := "moved", type := .long, accessFlags := 2, slot := 25, constantValue := 0 }, { name := "lastSlot", type := .int, accessFlags := 2, slot := 26, constantValue := 0 }, { name := "own", type := (.array (.object "com/example/jobwright/jobwright/policies/StepSummary")), accessFlags := 2, slot := 27, constantValue := 0 }, { name := "whole", type := (.array (.object "com/example/jobwright/jobwright/policies/StepSummary")), accessFlags := 2, slot := 28, constantValue := 0 }, { name := "ownStale", type := (.array .boolean), accessFlags := 2, slot := 29, constantValue := 0 }, { name := "wholeStale", type := (.array .boolean), accessFlags := 2, slot := 30, constantValue := 0 }, { name := "joined", type := (.object "com/example/jobwright/jobwright/policies/StepSummary"), accessFlags := 18, slot := 31, constantValue := 0 }, { name := "stack", type := (.array .int), accessFlags := 18, slot := 32, constantValue := 0 }, { name := "blockFewest", type := (.array .int), accessFlags := 2, slot := 33, constantValue := 0 }, { name := "blockLeast", type := (.array .long), accessFlags := 2, slot := 34, constantValue := 0 }, { name := "blockFloorStale", type := (.array .boolean), accessFlags := 2, slot := 35, constantValue := 0 }, { name := "subtreeFewest", type := (.array .int), accessFlags := 2, slot := 36, constantValue := 0 }, { name := "subtreeLeast", type := (.array .long), accessFlags := 2, slot := 37, constantValue := 0 }, { name := "subtreeFloorStale", type := (.array .boolean), accessFlags := 2, slot := 38, constantValue := 0 }, { name := "unfloored", type := (.array .int), accessFlags := 2, slot := 39, constantValue := 0 }, { name := "processors", type := .int, accessFlags := 2, slot := 40, constantValue := 0 }, { name := "kilobytes", type := .long, accessFlags := 2, slot := 41, constantValue := 0 }, { name := "length", type := .long, accessFlags := 2, slot := 42, constantValue := 0 }, { name := "latest", type := .long, accessFlags := 2, slot := 43, constantValue := 0 }, { name := "runStart", type := .long, accessFlags := 2, slot := 44, constantValue := 0 }, { name := "over", type := .boolean, accessFlags := 2, slot := 45, constantValue := 0 }, { name := "found", type := .long, accessFlags := 2, slot := 46, constantValue := 0 }, { name := "after", type := (.array .int), accessFlags := 2, slot := 47, constantValue := 0 }]
  methods := #[k3m0, k3m1, k3m2, k3m3, k3m4, k3m5, k3m6, k3m7, k3m8, k3m9, k3m10, k3m11, k3m12, k3m13, k3m14, k3m15, k3m16, k3m17]
  instanceTypes := #[(.array .int), .int, .int, (.array .int), .int, .int, .long, .boolean, .int, .int, (.array .long), (.array .int), (.array .long), (.array .int), (.array .int), (.array .int), .int, .int, .int, (.array .int), (.array .int), (.array .long), .int, .int, .long, .long, .int, (.array (.object "com/example/jobwright/jobwright/policies/StepSummary")), (.array (.object "com/example/jobwright/jobwright/policies/StepSummary")), (.array .boolean), (.array .boolean), (.object "com/example/jobwright/jobwright/policies/StepSummary"), (.array .int), (.array .int), (.array .long), (.array .boolean), (.array .int), (.array .long), (.array .boolean), (.array .int), .int, .long, .long, .long, .long, .boolean, .long, (.array .int)]
  staticTypes := #[.int, .long, .int, .int, .int, .int]
  resolved := Array.replicate 396 none
  statics := none }

def pool4 : Array CpInfo := pool [(3, .methodref 4 5), (0, .class_ 6), (0, .nameAndType 7 8), (0, u "java/lang/Object"), (0, u "<init>"), (0, u "()V"), (0, .fieldref 10 11), (0, .class_ 12), (0, .nameAndType 13 14), (0, u "com/example/jobwright/jobwright/policies/StepSummary"), (0, u "prefixLevels"), (0, u "[I"), (0, .fieldref 10 16), (0, .nameAndType 17 18), (0, u "prefixEnds"), (0, u "[J"), (0, .fieldref 10 20), (0, .nameAndType 21 14), (0, u "suffixLevels"), (0, .fieldref 10 23), (0, .nameAndType 24 18), (0, u "suffixStarts"), (0, .fieldref 10 26), (0, .nameAndType 27 14), (0, u "innerLevels"), (0, .fieldref 10 29), (0, .nameAndType 30 18), (0, u "innerLengths"), (2, u "fewest"), (0, u "I"), (2, u "first"), (0, u "J"), (2, u "madeAt"), (2, u "firstFree"), (2, u "prefixCount"), (6, u "suffixCount"), (6, u "innerCount"), (53, u "EMPTY")] 18

def k4c0 : Code := { maxStack := 2, maxLocals := 1, code := prog_171_method_1_code, exceptionTable := #[], attributes := #[] }
def k4m0 : Method := { name := "<init>", desc := "()V", sig := { parameters := [], returnType := none }, accessFlags := 0, code := some k4c0 }
/-- com/example/jobwright/jobwright/policies/StepSummary -/
def k4 : Class := { plain "com/example/jobwright/jobwright/policies/StepSummary" (some 0) with
  accessFlags := 48
  interfaces := #[]
  cf := some (fileOf pool4 10 #[] #[{ accessFlags := 0, nameIndex := 7, descriptorIndex := 8, attributes := #[] }] 48 4 #[] #[{ accessFlags := 24, nameIndex := 115, descriptorIndex := 38, attributes := #[] }, { accessFlags := 2, nameIndex := 33, descriptorIndex := 34, attributes := #[] }, { accessFlags := 2, nameIndex := 37, descriptorIndex := 38, attributes := #[] }, { accessFlags := 2, nameIndex := 44, descriptorIndex := 34, attributes := #[] }, { accessFlags := 2, nameIndex := 41, descriptorIndex := 38, attributes := #[] }, { accessFlags := 2, nameIndex := 47, descriptorIndex := 34, attributes := #[] }, { accessFlags := 2, nameIndex := 13, descriptorIndex := 14, attributes := #[] }, { accessFlags := 2, nameIndex := 17, descriptorIndex := 18, attributes := #[] }, { accessFlags := 2, nameIndex := 54, descriptorIndex := 34, attributes := #[] }, { accessFlags := 2, nameIndex := 21, descriptorIndex := 14, attributes := #[] }, { accessFlags := 2, nameIndex := 24, descriptorIndex := 18, attributes := #[] }, { accessFlags := 2, nameIndex := 61, descriptorIndex := 34, attributes := #[] }, { accessFlags := 2, nameIndex := 27, descriptorIndex := 14, attributes := #[] }, { accessFlags := 2, nameIndex := 30, descriptorIndex := 18, attributes := #[] }])
  fields := #[{ name := "EMPTY", type := .long, accessFlags := 24, slot := 0, constantValue := 0 }, { name := "fewest", type := .int, accessFlags := 2, slot := 0, constantValue := 0 }, { name := "first", type := .long, accessFlags := 2, slot := 1, constantValue := 0 }, { name := "firstFree", type := .int, accessFlags := 2, slot := 2, constantValue := 0 }, { name := "madeAt", type := .long, accessFlags := 2, slot := 3, constantValue := 0 }, { name := "prefixCount", type := .int, accessFlags := 2, slot := 4, constantValue := 0 }, { name := "prefixLevels", type := (.array .int), accessFlags := 2, slot := 5, constantValue := 0 }, { name := "prefixEnds", type := (.array .long), accessFlags := 2, slot := 6, constantValue := 0 }, { name := "suffixCount", type := .int, accessFlags := 2, slot := 7, constantValue := 0 }, { name := "suffixLevels", type := (.array .int), accessFlags := 2, slot := 8, constantValue := 0 }, { name := "suffixStarts", type := (.array .long), accessFlags := 2, slot := 9, constantValue := 0 }, { name := "innerCount", type := .int, accessFlags := 2, slot := 10, constantValue := 0 }, { name := "innerLevels", type := (.array .int), accessFlags := 2, slot := 11, constantValue := 0 }, { name := "innerLengths", type := (.array .long), accessFlags := 2, slot := 12, constantValue := 0 }]
  methods := #[k4m0]
  instanceTypes := #[.int, .long, .int, .long, .int, (.array .int), (.array .long), .int, (.array .int), (.array .long), .int, (.array .int), (.array .long)]
  staticTypes := #[.long]
  resolved := Array.replicate 134 none
  statics := none }

def pool5 : Array CpInfo := pool [(2, .class_ 4), (1, u "java/lang/Object"), (0, u "<init>"), (0, u "()V"), (1, .class_ 10), (1, u "java/lang/System"), (0, u "allowSecurityManager"), (0, u "I"), (16, u "cons"), (0, u "Ljava/io/Console;"), (77, .class_ 110), (1, u "java/lang/System$CallersHolder"), (43, u "initialErrStream"), (0, u "Ljava/io/PrintStream;"), (19, u "security"), (0, u "Ljava/lang/SecurityManager;"), (31, .class_ 209), (0, u "java/lang/System$1"), (7, u "props"), (0, u "Ljava/util/Properties;"), (2, u "lineSeparator"), (0, u "Ljava/lang/String;"), (96, .class_ 321), (1, u "java/lang/System$LoggerFinder"), (5, .class_ 328), (0, u "java/lang/System$Logger"), (67, u "err"), (2, u "out"), (91, u "notSupportedJnuEncoding"), (15, u "in"), (17, u "initialIn"), (0, u "Ljava/io/InputStream;"), (35, u "bootLayer"), (0, u "Ljava/lang/ModuleLayer;"), (99, .class_ 664), (0, u "java/lang/System$2"), (9, u "NEVER"), (2, u "MAYBE"), (49, u "arraycopy"), (0, u "(Ljava/lang/Object;ILjava/lang/Object;II)V"), (72, .class_ 802), (0, u "java/lang/System$Logger$Level")] 31

def k5m0 : Method := { name := "<init>", desc := "()V", sig := { parameters := [], returnType := none }, accessFlags := 2, code := none }
def k5m1 : Method := { name := "arraycopy", desc := "(Ljava/lang/Object;ILjava/lang/Object;II)V", sig := { parameters := [(.object "java/lang/Object"), .int, (.object "java/lang/Object"), .int, .int], returnType := none }, accessFlags := 265, code := none }
/-- java/lang/System -/
def k5 : Class := { plain "java/lang/System" (some 0) with
  accessFlags := 49
  interfaces := #[]
  cf := some (fileOf pool5 8 #[.nestMembers #[319, 327, 801, 108, 663, 208]] #[{ accessFlags := 2, nameIndex := 5, descriptorIndex := 6, attributes := #[] }, { accessFlags := 265, nameIndex := 727, descriptorIndex := 728, attributes := #[] }] 49 2 #[] #[{ accessFlags := 25, nameIndex := 507, descriptorIndex := 526, attributes := #[] }, { accessFlags := 25, nameIndex := 399, descriptorIndex := 155, attributes := #[] }, { accessFlags := 25, nameIndex := 396, descriptorIndex := 155, attributes := #[] }, { accessFlags := 10, nameIndex := 525, descriptorIndex := 526, attributes := #[] }, { accessFlags := 26, nameIndex := 674, descriptorIndex := 12, attributes := #[] }, { accessFlags := 26, nameIndex := 677, descriptorIndex := 12, attributes := #[] }, { accessFlags := 10, nameIndex := 11, descriptorIndex := 12, attributes := #[] }, { accessFlags := 74, nameIndex := 175, descriptorIndex := 176, attributes := #[] }, { accessFlags := 10, nameIndex := 491, descriptorIndex := 222, attributes := #[] }, { accessFlags := 74, nameIndex := 29, descriptorIndex := 30, attributes := #[] }, { accessFlags := 74, nameIndex := 154, descriptorIndex := 155, attributes := #[] }, { accessFlags := 10, nameIndex := 217, descriptorIndex := 218, attributes := #[] }, { accessFlags := 10, nameIndex := 221, descriptorIndex := 222, attributes := #[] }, { accessFlags := 8, nameIndex := 562, descriptorIndex := 563, attributes := #[] }])
  fields := #[{ name := "in", type := (.object "java/io/InputStream"), accessFlags := 25, slot := 0, constantValue := 0 }, { name := "out", type := (.object "java/io/PrintStream"), accessFlags := 25, slot := 1, constantValue := 0 }, { name := "err", type := (.object "java/io/PrintStream"), accessFlags := 25, slot := 2, constantValue := 0 }, { name := "initialIn", type := (.object "java/io/InputStream"), accessFlags := 10, slot := 3, constantValue := 0 }, { name := "NEVER", type := .int, accessFlags := 26, slot := 4, constantValue := 0 }, { name := "MAYBE", type := .int, accessFlags := 26, slot := 5, constantValue := 0 }, { name := "allowSecurityManager", type := .int, accessFlags := 10, slot := 6, constantValue := 0 }, { name := "security", type := (.object "java/lang/SecurityManager"), accessFlags := 74, slot := 7, constantValue := 0 }, { name := "notSupportedJnuEncoding", type := (.object "java/lang/String"), accessFlags := 10, slot := 8, constantValue := 0 }, { name := "cons", type := (.object "java/io/Console"), accessFlags := 74, slot := 9, constantValue := 0 }, { name := "initialErrStream", type := (.object "java/io/PrintStream"), accessFlags := 74, slot := 10, constantValue := 0 }, { name := "props", type := (.object "java/util/Properties"), accessFlags := 10, slot := 11, constantValue := 0 }, { name := "lineSeparator", type := (.object "java/lang/String"), accessFlags := 10, slot := 12, constantValue := 0 }, { name := "bootLayer", type := (.object "java/lang/ModuleLayer"), accessFlags := 8, slot := 13, constantValue := 0 }]
  methods := #[k5m0, k5m1]
  instanceTypes := #[]
  staticTypes := #[(.object "java/io/InputStream"), (.object "java/io/PrintStream"), (.object "java/io/PrintStream"), (.object "java/io/InputStream"), .int, .int, .int, (.object "java/lang/SecurityManager"), (.object "java/lang/String"), (.object "java/io/Console"), (.object "java/io/PrintStream"), (.object "java/util/Properties"), (.object "java/lang/String"), (.object "java/lang/ModuleLayer")]
  resolved := Array.replicate 834 none
  statics := none }

def pool6 : Array CpInfo := pool [(1, u "java/lang/Cloneable"), (0, .class_ 1), (0, u "java/lang/Object"), (0, .class_ 3)] 3

/-- java/lang/Cloneable -/
def k6 : Class := { plain "java/lang/Cloneable" (some 0) with
  accessFlags := 1537
  interfaces := #[]
  cf := some (fileOf pool6 2 #[] #[] 1537 4 #[] #[])
  fields := #[]
  methods := #[]
  instanceTypes := #[]
  staticTypes := #[]
  resolved := Array.replicate 8 none
  statics := none }

def pool7 : Array CpInfo := pool [(1, u "java/io/Serializable"), (0, .class_ 1), (0, u "java/lang/Object"), (0, .class_ 3)] 3

/-- java/io/Serializable -/
def k7 : Class := { plain "java/io/Serializable" (some 0) with
  accessFlags := 1537
  interfaces := #[]
  cf := some (fileOf pool7 2 #[] #[] 1537 4 #[] #[])
  fields := #[]
  methods := #[]
  instanceTypes := #[]
  staticTypes := #[]
  resolved := Array.replicate 8 none
  statics := none }

/-- the primitive boolean -/
def k8 : Class := { plain "boolean" none with kind := .primitive 'Z', accessFlags := 0x411 }
/-- [Z -/
def k9 : Class := { plain "[Z" (some 0) with kind := .array 8 .boolean, interfaces := #[6, 7], accessFlags := 1041 }

/-- the primitive byte -/
def k10 : Class := { plain "byte" none with kind := .primitive 'B', accessFlags := 0x411 }
/-- [B -/
def k11 : Class := { plain "[B" (some 0) with kind := .array 10 .byte, interfaces := #[6, 7], accessFlags := 1041 }

/-- the primitive int -/
def k12 : Class := { plain "int" none with kind := .primitive 'I', accessFlags := 0x411 }
/-- [I -/
def k13 : Class := { plain "[I" (some 0) with kind := .array 12 .int, interfaces := #[6, 7], accessFlags := 1041 }

/-- the primitive long -/
def k14 : Class := { plain "long" none with kind := .primitive 'J', accessFlags := 0x411 }
/-- [J -/
def k15 : Class := { plain "[J" (some 0) with kind := .array 14 .long, interfaces := #[6, 7], accessFlags := 1041 }

/-- [Lcom/example/jobwright/jobwright/policies/StepSummary; -/
def k16 : Class := { plain "[Lcom/example/jobwright/jobwright/policies/StepSummary;" (some 0) with kind := .array 4 (.object "com/example/jobwright/jobwright/policies/StepSummary"), interfaces := #[6, 7], accessFlags := 1041 }

def heap : Heap := #[]
def classes : Array Class := #[k0, k1, k2, k3, k4, k5, k6, k7, k8, k9, k10, k11, k12, k13, k14, k15, k16]
def interned : List (Array UInt16 × Addr) := []
def slotsUsed : Nat := 0
def theMethod : MethodId := ⟨1, 1⟩
def args0 : Array Value := #[.int 5, .long 7, .int 3, .long 4, .int 2, .long 1]
def aboutOver (below : List Frame) : State where
  vm := { classes := classes, interned := interned.toArray }
  heap := heap
  slotsUsed := slotsUsed
  threads := #[{ frames := .invoking theMethod args0 :: below }]
def below0 : List Frame := [.native { method := ⟨0, 0⟩, args := #[] }]
def about1 : State := aboutOver below0
def p0 : Program := .bare "" "" ""
def e0 : Env := launch0.env 0 0 0
theorem w_frames : about1.frames = Frame.invoking theMethod args0 :: below0 := rfl
set_option maxRecDepth 65536 in
theorem w_args : argsFit about1.vm theMethod args0 = true := by decide +kernel
set_option maxRecDepth 65536 in
theorem w_heap : heapFits about1 = true := by decide +kernel
set_option maxRecDepth 65536 in
theorem w_runnable : about1.curStatus? = some .runnable := by decide +kernel
set_option maxRecDepth 65536 in
theorem w_alone : about1.alone = true := by decide +kernel
set_option maxRecDepth 65536 in
theorem w_named : about1.methodNamed? x = some theMethod := by decide +kernel
set_option maxRecDepth 65536 in
theorem w_hears : about1.hears theMethod below0 = true := by decide +kernel
set_option maxRecDepth 65536 in
theorem w_ripe : about1.ripe theMethod args0 below0 = true := by decide +kernel
theorem w_running : about1.status = .running := rfl
set_option maxRecDepth 65536 in
theorem w_room : about1.hasRoom e0.platform room_1 = true :=
  launch0.hasRoom_least _ room_1 (by decide +kernel) (by decide +kernel) (by decide +kernel) (by decide +kernel) (by decide +kernel) (by decide +kernel)
theorem allAtoms_all (ts : List Jvm.Cond) (a : Array Jvm.Value) (st : Jvm.State) : (allAtoms ts).before a st = ts.all (fun c => c.before a st) := by
  induction ts with
  | nil => rfl
  | cons c t ih =>
    show (Jvm.Cond.and c (allAtoms t)).before a st = _
    rw [Jvm.Cond.before_and, ih, List.all_cons]
def words1 : List Jvm.Cond := Jvm.Cond.code x code maxLocals ret :: tables_1
/-- a 'code' word, met by the world's own term for the bytes: nothing is compared byte by byte -/
theorem code_word {y : MethodName} {bytes : ByteArray} {mx : Nat} {rt : Option FieldType} {a : Array Value} {s : State} {m : MethodId} {meth : Method} {c : Code} (h1 : s.methodNamed? y = some m) (h2 : s.vm.method? m = some meth) (h3 : meth.code = some c) (h4 : c.code = bytes)
    (h5 : (c.maxLocals == mx && c.exceptionTable.isEmpty && decide (c.maxStack ≤ mostOperands) && decide (meth.sig.returnType = rt) && !meth.locks && decide (parseMethodDescriptor y.desc = some meth.sig)) = true) : (Jvm.Cond.code y bytes mx rt).before a s = true := by
  simp only [Bool.and_eq_true, beq_iff_eq, Bool.not_eq_true', decide_eq_true_eq] at h5
  obtain ⟨⟨⟨⟨⟨g1, g2⟩, g3⟩, g4⟩, g5⟩, g6⟩ := h5
  simp [Cond.before, Cond.holds, Cond.value, h1, h2, h3, h4, g1, g2, g3, g4, g5, g6]
def isCode : Jvm.Cond → Bool
  | .code _ _ _ _ => true
  | _ => false
theorem all_split {L : List Jvm.Cond} {P : Jvm.Cond → Bool} (h1 : L.all (fun c => isCode c || P c) = true) (h2 : ∀ c ∈ L.filter isCode, P c = true) : L.all P = true := by
  refine List.all_eq_true.mpr fun c hc => ?_
  have h := List.all_eq_true.mp h1 c hc
  rcases Bool.eq_false_or_eq_true (isCode c) with hi | hi
  · exact h2 c (List.mem_filter.mpr ⟨hc, hi⟩)
  · simpa [hi] using h
set_option maxRecDepth 65536 in
theorem w_c0 : (Jvm.Cond.code x code maxLocals ret).before args0 about1 = true := code_word (m := ⟨1, 1⟩) (meth := k1m1) (c := k1c1) (by decide +kernel) rfl rfl rfl (by decide +kernel)
set_option maxRecDepth 65536 in
theorem w_c1 : (Jvm.Cond.code ({ cls := "com/example/jobwright/jobwright/policies/ProfileSteps", name := "<init>", desc := "(IIZ)V" } : Jvm.MethodName) prog_152_method_1_code (5 : Nat) (Option.none : Option Jvm.ClassFile.FieldType)).before args0 about1 = true := code_word (m := ⟨3, 0⟩) (meth := k3m0) (c := k3c0) (by decide +kernel) rfl rfl rfl (by decide +kernel)
set_option maxRecDepth 65536 in
theorem w_c2 : (Jvm.Cond.code ({ cls := "com/example/jobwright/jobwright/policies/Treap", name := "<init>", desc := "(I)V" } : Jvm.MethodName) prog_174_method_2_code (2 : Nat) (Option.none : Option Jvm.ClassFile.FieldType)).before args0 about1 = true := code_word (m := ⟨2, 1⟩) (meth := k2m1) (c := k2c1) (by decide +kernel) rfl rfl rfl (by decide +kernel)
set_option maxRecDepth 65536 in
theorem w_c3 : (Jvm.Cond.code ({ cls := "java/lang/Object", name := "<init>", desc := "()V" } : Jvm.MethodName) object_method_1_code (1 : Nat) (Option.none : Option Jvm.ClassFile.FieldType)).before args0 about1 = true := code_word (m := ⟨0, 0⟩) (meth := k0m0) (c := k0c0) (by decide +kernel) rfl rfl rfl (by decide +kernel)
set_option maxRecDepth 65536 in
theorem w_c4 : (Jvm.Cond.code ({ cls := "com/example/jobwright/jobwright/policies/StepSummary", name := "<init>", desc := "()V" } : Jvm.MethodName) prog_171_method_1_code (1 : Nat) (Option.none : Option Jvm.ClassFile.FieldType)).before args0 about1 = true := code_word (m := ⟨4, 0⟩) (meth := k4m0) (c := k4c0) (by decide +kernel) rfl rfl rfl (by decide +kernel)
set_option maxRecDepth 65536 in
theorem w_c5 : (Jvm.Cond.code ({ cls := "com/example/jobwright/jobwright/policies/ProfileSteps", name := "clear", desc := "(JIJ)V" } : Jvm.MethodName) prog_152_method_2_code (7 : Nat) (Option.none : Option Jvm.ClassFile.FieldType)).before args0 about1 = true := code_word (m := ⟨3, 1⟩) (meth := k3m1) (c := k3c1) (by decide +kernel) rfl rfl rfl (by decide +kernel)
set_option maxRecDepth 65536 in
theorem w_c6 : (Jvm.Cond.code ({ cls := "com/example/jobwright/jobwright/policies/Treap", name := "clearNodes", desc := "()V" } : Jvm.MethodName) prog_174_method_17_code (1 : Nat) (Option.none : Option Jvm.ClassFile.FieldType)).before args0 about1 = true := code_word (m := ⟨2, 13⟩) (meth := k2m13) (c := k2c13) (by decide +kernel) rfl rfl rfl (by decide +kernel)
set_option maxRecDepth 65536 in
theorem w_c7 : (Jvm.Cond.code ({ cls := "com/example/jobwright/jobwright/policies/Treap", name := "newNode", desc := "()I" } : Jvm.MethodName) prog_174_method_13_code (2 : Nat) (Option.some Jvm.ClassFile.FieldType.int)).before args0 about1 = true := code_word (m := ⟨2, 11⟩) (meth := k2m11) (c := k2c11) (by decide +kernel) rfl rfl rfl (by decide +kernel)
set_option maxRecDepth 65536 in
theorem w_c8 : (Jvm.Cond.code ({ cls := "com/example/jobwright/jobwright/policies/ProfileSteps", name := "ensureCapacity", desc := "(I)V" } : Jvm.MethodName) prog_152_method_56_code (2 : Nat) (Option.none : Option Jvm.ClassFile.FieldType)).before args0 about1 = true := code_word (m := ⟨3, 17⟩) (meth := k3m17) (c := k3c17) (by decide +kernel) rfl rfl rfl (by decide +kernel)
set_option maxRecDepth 65536 in
theorem w_c9 : (Jvm.Cond.code ({ cls := "com/example/jobwright/jobwright/policies/Treap", name := "setLeft", desc := "(II)V" } : Jvm.MethodName) prog_174_method_11_code (3 : Nat) (Option.none : Option Jvm.ClassFile.FieldType)).before args0 about1 = true := code_word (m := ⟨2, 9⟩) (meth := k2m9) (c := k2c9) (by decide +kernel) rfl rfl rfl (by decide +kernel)
set_option maxRecDepth 65536 in
theorem w_c10 : (Jvm.Cond.code ({ cls := "com/example/jobwright/jobwright/policies/Treap", name := "setRight", desc := "(II)V" } : Jvm.MethodName) prog_174_method_12_code (3 : Nat) (Option.none : Option Jvm.ClassFile.FieldType)).before args0 about1 = true := code_word (m := ⟨2, 10⟩) (meth := k2m10) (c := k2c10) (by decide +kernel) rfl rfl rfl (by decide +kernel)
set_option maxRecDepth 65536 in
theorem w_c11 : (Jvm.Cond.code ({ cls := "com/example/jobwright/jobwright/policies/Treap", name := "nextWeight", desc := "()I" } : Jvm.MethodName) prog_174_method_18_code (1 : Nat) (Option.some Jvm.ClassFile.FieldType.int)).before args0 about1 = true := code_word (m := ⟨2, 14⟩) (meth := k2m14) (c := k2c14) (by decide +kernel) rfl rfl rfl (by decide +kernel)
set_option maxRecDepth 65536 in
theorem w_c12 : (Jvm.Cond.code ({ cls := "com/example/jobwright/jobwright/policies/Treap", name := "insertNode", desc := "(I)V" } : Jvm.MethodName) prog_174_method_14_code (2 : Nat) (Option.none : Option Jvm.ClassFile.FieldType)).before args0 about1 = true := code_word (m := ⟨2, 12⟩) (meth := k2m12) (c := k2c12) (by decide +kernel) rfl rfl rfl (by decide +kernel)
set_option maxRecDepth 65536 in
theorem w_c13 : (Jvm.Cond.code ({ cls := "com/example/jobwright/jobwright/policies/ProfileSteps", name := "pull", desc := "(I)Z" } : Jvm.MethodName) prog_152_method_55_code (4 : Nat) (Option.some Jvm.ClassFile.FieldType.boolean)).before args0 about1 = true := code_word (m := ⟨3, 16⟩) (meth := k3m16) (c := k3c16) (by decide +kernel) rfl rfl rfl (by decide +kernel)
set_option maxRecDepth 65536 in
theorem w_c14 : (Jvm.Cond.code ({ cls := "com/example/jobwright/jobwright/policies/Treap", name := "left", desc := "(I)I" } : Jvm.MethodName) prog_174_method_8_code (2 : Nat) (Option.some Jvm.ClassFile.FieldType.int)).before args0 about1 = true := code_word (m := ⟨2, 6⟩) (meth := k2m6) (c := k2c6) (by decide +kernel) rfl rfl rfl (by decide +kernel)
set_option maxRecDepth 65536 in
theorem w_c15 : (Jvm.Cond.code ({ cls := "com/example/jobwright/jobwright/policies/Treap", name := "right", desc := "(I)I" } : Jvm.MethodName) prog_174_method_9_code (2 : Nat) (Option.some Jvm.ClassFile.FieldType.int)).before args0 about1 = true := code_word (m := ⟨2, 7⟩) (meth := k2m7) (c := k2c7) (by decide +kernel) rfl rfl rfl (by decide +kernel)
set_option maxRecDepth 65536 in
theorem w_c16 : (Jvm.Cond.code ({ cls := "com/example/jobwright/jobwright/policies/ProfileSteps", name := "rise", desc := "(I)I" } : Jvm.MethodName) prog_152_method_46_code (2 : Nat) (Option.some Jvm.ClassFile.FieldType.int)).before args0 about1 = true := code_word (m := ⟨3, 10⟩) (meth := k3m10) (c := k3c10) (by decide +kernel) rfl rfl rfl (by decide +kernel)
set_option maxRecDepth 65536 in
theorem w_c17 : (Jvm.Cond.code ({ cls := "com/example/jobwright/jobwright/policies/ProfileSteps", name := "memoryRise", desc := "(I)J" } : Jvm.MethodName) prog_152_method_47_code (2 : Nat) (Option.some Jvm.ClassFile.FieldType.long)).before args0 about1 = true := code_word (m := ⟨3, 11⟩) (meth := k3m11) (c := k3c11) (by decide +kernel) rfl rfl rfl (by decide +kernel)
set_option maxRecDepth 65536 in
theorem w_c18 : (Jvm.Cond.code ({ cls := "com/example/jobwright/jobwright/policies/ProfileSteps", name := "markSubtreeStale", desc := "(I)V" } : Jvm.MethodName) prog_152_method_49_code (2 : Nat) (Option.none : Option Jvm.ClassFile.FieldType)).before args0 about1 = true := code_word (m := ⟨3, 13⟩) (meth := k3m13) (c := k3c13) (by decide +kernel) rfl rfl rfl (by decide +kernel)
set_option maxRecDepth 65536 in
theorem w_c19 : (Jvm.Cond.code ({ cls := "com/example/jobwright/jobwright/policies/Treap", name := "insert", desc := "(II)I" } : Jvm.MethodName) prog_174_method_19_code (3 : Nat) (Option.some Jvm.ClassFile.FieldType.int)).before args0 about1 = true := code_word (m := ⟨2, 15⟩) (meth := k2m15) (c := k2c15) (by decide +kernel) rfl rfl rfl (by decide +kernel)
set_option maxRecDepth 65536 in
theorem w_c20 : (Jvm.Cond.code ({ cls := "com/example/jobwright/jobwright/policies/ProfileSteps", name := "first", desc := "()I" } : Jvm.MethodName) prog_152_method_3_code (1 : Nat) (Option.some Jvm.ClassFile.FieldType.int)).before args0 about1 = true := code_word (m := ⟨3, 2⟩) (meth := k3m2) (c := k3c2) (by decide +kernel) rfl rfl rfl (by decide +kernel)
set_option maxRecDepth 65536 in
theorem w_c21 : (Jvm.Cond.code ({ cls := "com/example/jobwright/jobwright/policies/ProfileSteps", name := "split", desc := "(IJ)I" } : Jvm.MethodName) prog_152_method_17_code (11 : Nat) (Option.some Jvm.ClassFile.FieldType.int)).before args0 about1 = true := code_word (m := ⟨3, 8⟩) (meth := k3m8) (c := k3c8) (by decide +kernel) rfl rfl rfl (by decide +kernel)
set_option maxRecDepth 65536 in
theorem w_c22 : (Jvm.Cond.code ({ cls := "com/example/jobwright/jobwright/policies/ProfileSteps", name := "changed", desc := "(I)V" } : Jvm.MethodName) prog_152_method_48_code (5 : Nat) (Option.none : Option Jvm.ClassFile.FieldType)).before args0 about1 = true := code_word (m := ⟨3, 12⟩) (meth := k3m12) (c := k3c12) (by decide +kernel) rfl rfl rfl (by decide +kernel)
set_option maxRecDepth 65536 in
theorem w_c23 : (Jvm.Cond.code ({ cls := "com/example/jobwright/jobwright/policies/ProfileSteps", name := "newBlockAfter", desc := "(I)I" } : Jvm.MethodName) prog_152_method_50_code (4 : Nat) (Option.some Jvm.ClassFile.FieldType.int)).before args0 about1 = true := code_word (m := ⟨3, 14⟩) (meth := k3m14) (c := k3c14) (by decide +kernel) rfl rfl rfl (by decide +kernel)
set_option maxRecDepth 65536 in
theorem w_c24 : (Jvm.Cond.code ({ cls := "com/example/jobwright/jobwright/policies/ProfileSteps", name := "precedes", desc := "(II)Z" } : Jvm.MethodName) prog_152_method_54_code (3 : Nat) (Option.some Jvm.ClassFile.FieldType.boolean)).before args0 about1 = true := code_word (m := ⟨3, 15⟩) (meth := k3m15) (c := k3c15) (by decide +kernel) rfl rfl rfl (by decide +kernel)
set_option maxRecDepth 65536 in
theorem w_c25 : (Jvm.Cond.code ({ cls := "com/example/jobwright/jobwright/policies/ProfileSteps", name := "time", desc := "(I)J" } : Jvm.MethodName) prog_152_method_5_code (2 : Nat) (Option.some Jvm.ClassFile.FieldType.long)).before args0 about1 = true := code_word (m := ⟨3, 3⟩) (meth := k3m3) (c := k3c3) (by decide +kernel) rfl rfl rfl (by decide +kernel)
set_option maxRecDepth 65536 in
theorem w_c26 : (Jvm.Cond.code ({ cls := "com/example/jobwright/jobwright/policies/Treap", name := "weight", desc := "(I)I" } : Jvm.MethodName) prog_174_method_10_code (2 : Nat) (Option.some Jvm.ClassFile.FieldType.int)).before args0 about1 = true := code_word (m := ⟨2, 8⟩) (meth := k2m8) (c := k2c8) (by decide +kernel) rfl rfl rfl (by decide +kernel)
set_option maxRecDepth 65536 in
theorem w_c27 : (Jvm.Cond.code ({ cls := "com/example/jobwright/jobwright/policies/Treap", name := "pullOnPath", desc := "(I)V" } : Jvm.MethodName) prog_174_method_22_code (2 : Nat) (Option.none : Option Jvm.ClassFile.FieldType)).before args0 about1 = true := code_word (m := ⟨2, 16⟩) (meth := k2m16) (c := k2c16) (by decide +kernel) rfl rfl rfl (by decide +kernel)
set_option maxRecDepth 65536 in
theorem w_c28 : (Jvm.Cond.code ({ cls := "com/example/jobwright/jobwright/policies/ProfileSteps", name := "add", desc := "(IIIJ)V" } : Jvm.MethodName) prog_152_method_14_code (8 : Nat) (Option.none : Option Jvm.ClassFile.FieldType)).before args0 about1 = true := code_word (m := ⟨3, 5⟩) (meth := k3m5) (c := k3c5) (by decide +kernel) rfl rfl rfl (by decide +kernel)
set_option maxRecDepth 65536 in
theorem w_c29 : (Jvm.Cond.code ({ cls := "com/example/jobwright/jobwright/policies/ProfileSteps", name := "addWithin", desc := "(IIIJ)V" } : Jvm.MethodName) prog_152_method_16_code (7 : Nat) (Option.none : Option Jvm.ClassFile.FieldType)).before args0 about1 = true := code_word (m := ⟨3, 7⟩) (meth := k3m7) (c := k3c7) (by decide +kernel) rfl rfl rfl (by decide +kernel)
set_option maxRecDepth 65536 in
theorem w_c30 : (Jvm.Cond.code ({ cls := "com/example/jobwright/jobwright/policies/ProfileSteps", name := "raiseRise", desc := "(IIJ)V" } : Jvm.MethodName) prog_152_method_45_code (8 : Nat) (Option.none : Option Jvm.ClassFile.FieldType)).before args0 about1 = true := code_word (m := ⟨3, 9⟩) (meth := k3m9) (c := k3c9) (by decide +kernel) rfl rfl rfl (by decide +kernel)
set_option maxRecDepth 65536 in
theorem w_c31 : (Jvm.Cond.code ({ cls := "com/example/jobwright/jobwright/policies/Treap", name := "root", desc := "()I" } : Jvm.MethodName) prog_174_method_6_code (1 : Nat) (Option.some Jvm.ClassFile.FieldType.int)).before args0 about1 = true := code_word (m := ⟨2, 5⟩) (meth := k2m5) (c := k2c5) (by decide +kernel) rfl rfl rfl (by decide +kernel)
set_option maxRecDepth 65536 in
theorem w_c32 : (Jvm.Cond.code ({ cls := "com/example/jobwright/jobwright/policies/ProfileSteps", name := "raiseBasesAfter", desc := "(IIJ)V" } : Jvm.MethodName) prog_152_method_15_code (5 : Nat) (Option.none : Option Jvm.ClassFile.FieldType)).before args0 about1 = true := code_word (m := ⟨3, 6⟩) (meth := k3m6) (c := k3c6) (by decide +kernel) rfl rfl rfl (by decide +kernel)
set_option maxRecDepth 65536 in
theorem w_c33 : (Jvm.Cond.code ({ cls := "com/example/jobwright/jobwright/policies/ProfileSteps", name := "sameAsBefore", desc := "(I)Z" } : Jvm.MethodName) prog_152_method_8_code (2 : Nat) (Option.some Jvm.ClassFile.FieldType.boolean)).before args0 about1 = true := code_word (m := ⟨3, 4⟩) (meth := k3m4) (c := k3c4) (by decide +kernel) rfl rfl rfl (by decide +kernel)
def codes1 : List Jvm.Cond := [Jvm.Cond.code x code maxLocals ret, Jvm.Cond.code ({ cls := "com/example/jobwright/jobwright/policies/ProfileSteps", name := "<init>", desc := "(IIZ)V" } : Jvm.MethodName) prog_152_method_1_code (5 : Nat) (Option.none : Option Jvm.ClassFile.FieldType), Jvm.Cond.code ({ cls := "com/example/jobwright/jobwright/policies/Treap", name := "<init>", desc := "(I)V" } : Jvm.MethodName) prog_174_method_2_code (2 : Nat) (Option.none : Option Jvm.ClassFile.FieldType), Jvm.Cond.code ({ cls := "java/lang/Object", name := "<init>", desc := "()V" } : Jvm.MethodName) object_method_1_code (1 : Nat) (Option.none : Option Jvm.ClassFile.FieldType), Jvm.Cond.code ({ cls := "com/example/jobwright/jobwright/policies/StepSummary", name := "<init>", desc := "()V" } : Jvm.MethodName) prog_171_method_1_code (1 : Nat) (Option.none : Option Jvm.ClassFile.FieldType), Jvm.Cond.code ({ cls := "com/example/jobwright/jobwright/policies/ProfileSteps", name := "clear", desc := "(JIJ)V" } : Jvm.MethodName) prog_152_method_2_code (7 : Nat) (Option.none : Option Jvm.ClassFile.FieldType), Jvm.Cond.code ({ cls := "com/example/jobwright/jobwright/policies/Treap", name := "clearNodes", desc := "()V" } : Jvm.MethodName) prog_174_method_17_code (1 : Nat) (Option.none : Option Jvm.ClassFile.FieldType), Jvm.Cond.code ({ cls := "com/example/jobwright/jobwright/policies/Treap", name := "newNode", desc := "()I" } : Jvm.MethodName) prog_174_method_13_code (2 : Nat) (Option.some Jvm.ClassFile.FieldType.int), Jvm.Cond.code ({ cls := "com/example/jobwright/jobwright/policies/ProfileSteps", name := "ensureCapacity", desc := "(I)V" } : Jvm.MethodName) prog_152_method_56_code (2 : Nat) (Option.none : Option Jvm.ClassFile.FieldType), Jvm.Cond.code ({ cls := "com/example/jobwright/jobwright/policies/Treap", name := "setLeft", desc := "(II)V" } : Jvm.MethodName) prog_174_method_11_code (3 : Nat) (Option.none : Option Jvm.ClassFile.FieldType), Jvm.Cond.code ({ cls := "com/example/jobwright/jobwright/policies/Treap", name := "setRight", desc := "(II)V" } : Jvm.MethodName) prog_174_method_12_code (3 : Nat) (Option.none : Option Jvm.ClassFile.FieldType), Jvm.Cond.code ({ cls := "com/example/jobwright/jobwright/policies/Treap", name := "nextWeight", desc := "()I" } : Jvm.MethodName) prog_174_method_18_code (1 : Nat) (Option.some Jvm.ClassFile.FieldType.int), Jvm.Cond.code ({ cls := "com/example/jobwright/jobwright/policies/Treap", name := "insertNode", desc := "(I)V" } : Jvm.MethodName) prog_174_method_14_code (2 : Nat) (Option.none : Option Jvm.ClassFile.FieldType), Jvm.Cond.code ({ cls := "com/example/jobwright/jobwright/policies/ProfileSteps", name := "pull", desc := "(I)Z" } : Jvm.MethodName) prog_152_method_55_code (4 : Nat) (Option.some Jvm.ClassFile.FieldType.boolean), Jvm.Cond.code ({ cls := "com/example/jobwright/jobwright/policies/Treap", name := "left", desc := "(I)I" } : Jvm.MethodName) prog_174_method_8_code (2 : Nat) (Option.some Jvm.ClassFile.FieldType.int), Jvm.Cond.code ({ cls := "com/example/jobwright/jobwright/policies/Treap", name := "right", desc := "(I)I" } : Jvm.MethodName) prog_174_method_9_code (2 : Nat) (Option.some Jvm.ClassFile.FieldType.int), Jvm.Cond.code ({ cls := "com/example/jobwright/jobwright/policies/ProfileSteps", name := "rise", desc := "(I)I" } : Jvm.MethodName) prog_152_method_46_code (2 : Nat) (Option.some Jvm.ClassFile.FieldType.int), Jvm.Cond.code ({ cls := "com/example/jobwright/jobwright/policies/ProfileSteps", name := "memoryRise", desc := "(I)J" } : Jvm.MethodName) prog_152_method_47_code (2 : Nat) (Option.some Jvm.ClassFile.FieldType.long), Jvm.Cond.code ({ cls := "com/example/jobwright/jobwright/policies/ProfileSteps", name := "markSubtreeStale", desc := "(I)V" } : Jvm.MethodName) prog_152_method_49_code (2 : Nat) (Option.none : Option Jvm.ClassFile.FieldType), Jvm.Cond.code ({ cls := "com/example/jobwright/jobwright/policies/Treap", name := "insert", desc := "(II)I" } : Jvm.MethodName) prog_174_method_19_code (3 : Nat) (Option.some Jvm.ClassFile.FieldType.int), Jvm.Cond.code ({ cls := "com/example/jobwright/jobwright/policies/ProfileSteps", name := "first", desc := "()I" } : Jvm.MethodName) prog_152_method_3_code (1 : Nat) (Option.some Jvm.ClassFile.FieldType.int), Jvm.Cond.code ({ cls := "com/example/jobwright/jobwright/policies/ProfileSteps", name := "split", desc := "(IJ)I" } : Jvm.MethodName) prog_152_method_17_code (11 : Nat) (Option.some Jvm.ClassFile.FieldType.int), Jvm.Cond.code ({ cls := "com/example/jobwright/jobwright/policies/ProfileSteps", name := "changed", desc := "(I)V" } : Jvm.MethodName) prog_152_method_48_code (5 : Nat) (Option.none : Option Jvm.ClassFile.FieldType), Jvm.Cond.code ({ cls := "com/example/jobwright/jobwright/policies/ProfileSteps", name := "newBlockAfter", desc := "(I)I" } : Jvm.MethodName) prog_152_method_50_code (4 : Nat) (Option.some Jvm.ClassFile.FieldType.int), Jvm.Cond.code ({ cls := "com/example/jobwright/jobwright/policies/ProfileSteps", name := "precedes", desc := "(II)Z" } : Jvm.MethodName) prog_152_method_54_code (3 : Nat) (Option.some Jvm.ClassFile.FieldType.boolean), Jvm.Cond.code ({ cls := "com/example/jobwright/jobwright/policies/ProfileSteps", name := "time", desc := "(I)J" } : Jvm.MethodName) prog_152_method_5_code (2 : Nat) (Option.some Jvm.ClassFile.FieldType.long), Jvm.Cond.code ({ cls := "com/example/jobwright/jobwright/policies/Treap", name := "weight", desc := "(I)I" } : Jvm.MethodName) prog_174_method_10_code (2 : Nat) (Option.some Jvm.ClassFile.FieldType.int), Jvm.Cond.code ({ cls := "com/example/jobwright/jobwright/policies/Treap", name := "pullOnPath", desc := "(I)V" } : Jvm.MethodName) prog_174_method_22_code (2 : Nat) (Option.none : Option Jvm.ClassFile.FieldType), Jvm.Cond.code ({ cls := "com/example/jobwright/jobwright/policies/ProfileSteps", name := "add", desc := "(IIIJ)V" } : Jvm.MethodName) prog_152_method_14_code (8 : Nat) (Option.none : Option Jvm.ClassFile.FieldType), Jvm.Cond.code ({ cls := "com/example/jobwright/jobwright/policies/ProfileSteps", name := "addWithin", desc := "(IIIJ)V" } : Jvm.MethodName) prog_152_method_16_code (7 : Nat) (Option.none : Option Jvm.ClassFile.FieldType), Jvm.Cond.code ({ cls := "com/example/jobwright/jobwright/policies/ProfileSteps", name := "raiseRise", desc := "(IIJ)V" } : Jvm.MethodName) prog_152_method_45_code (8 : Nat) (Option.none : Option Jvm.ClassFile.FieldType), Jvm.Cond.code ({ cls := "com/example/jobwright/jobwright/policies/Treap", name := "root", desc := "()I" } : Jvm.MethodName) prog_174_method_6_code (1 : Nat) (Option.some Jvm.ClassFile.FieldType.int), Jvm.Cond.code ({ cls := "com/example/jobwright/jobwright/policies/ProfileSteps", name := "raiseBasesAfter", desc := "(IIJ)V" } : Jvm.MethodName) prog_152_method_15_code (5 : Nat) (Option.none : Option Jvm.ClassFile.FieldType), Jvm.Cond.code ({ cls := "com/example/jobwright/jobwright/policies/ProfileSteps", name := "sameAsBefore", desc := "(I)Z" } : Jvm.MethodName) prog_152_method_8_code (2 : Nat) (Option.some Jvm.ClassFile.FieldType.boolean)]
set_option maxRecDepth 65536 in
theorem codes_eq : words1.filter isCode = codes1 := rfl
theorem w_codes : ∀ c ∈ words1.filter isCode, c.before args0 about1 = true := by
  rw [codes_eq]
  intro c hc
  simp only [codes1, List.mem_cons, List.not_mem_nil, or_false] at hc
  rcases hc with rfl | rfl | rfl | rfl | rfl | rfl | rfl | rfl | rfl | rfl | rfl | rfl | rfl | rfl | rfl | rfl | rfl | rfl | rfl | rfl | rfl | rfl | rfl | rfl | rfl | rfl | rfl | rfl | rfl | rfl | rfl | rfl | rfl | rfl
  · exact w_c0
  · exact w_c1
  · exact w_c2
  · exact w_c3
  · exact w_c4
  · exact w_c5
  · exact w_c6
  · exact w_c7
  · exact w_c8
  · exact w_c9
  · exact w_c10
  · exact w_c11
  · exact w_c12
  · exact w_c13
  · exact w_c14
  · exact w_c15
  · exact w_c16
  · exact w_c17
  · exact w_c18
  · exact w_c19
  · exact w_c20
  · exact w_c21
  · exact w_c22
  · exact w_c23
  · exact w_c24
  · exact w_c25
  · exact w_c26
  · exact w_c27
  · exact w_c28
  · exact w_c29
  · exact w_c30
  · exact w_c31
  · exact w_c32
  · exact w_c33
set_option maxRecDepth 65536 in
theorem w_t1 : (words1.take 24).all (fun c => isCode c || c.before args0 about1) = true := by decide +kernel
set_option maxRecDepth 65536 in
theorem w_t2 : ((words1.drop 24).take 24).all (fun c => isCode c || c.before args0 about1) = true := by decide +kernel
set_option maxRecDepth 65536 in
theorem w_t3 : (((words1.drop 24).drop 24).take 24).all (fun c => isCode c || c.before args0 about1) = true := by decide +kernel
set_option maxRecDepth 65536 in
theorem w_t4 : ((((words1.drop 24).drop 24).drop 24).take 24).all (fun c => isCode c || c.before args0 about1) = true := by decide +kernel
set_option maxRecDepth 65536 in
theorem w_t5 : (((((words1.drop 24).drop 24).drop 24).drop 24).take 24).all (fun c => isCode c || c.before args0 about1) = true := by decide +kernel
set_option maxRecDepth 65536 in
theorem w_t6 : ((((((words1.drop 24).drop 24).drop 24).drop 24).drop 24).take 24).all (fun c => isCode c || c.before args0 about1) = true := by decide +kernel
set_option maxRecDepth 65536 in
theorem w_t7 : (((((((words1.drop 24).drop 24).drop 24).drop 24).drop 24).drop 24).take 24).all (fun c => isCode c || c.before args0 about1) = true := by decide +kernel
set_option maxRecDepth 65536 in
theorem w_t8 : ((((((((words1.drop 24).drop 24).drop 24).drop 24).drop 24).drop 24).drop 24).take 24).all (fun c => isCode c || c.before args0 about1) = true := by decide +kernel
set_option maxRecDepth 65536 in
theorem w_t9 : (((((((((words1.drop 24).drop 24).drop 24).drop 24).drop 24).drop 24).drop 24).drop 24).take 24).all (fun c => isCode c || c.before args0 about1) = true := by decide +kernel
set_option maxRecDepth 65536 in
theorem w_t10 : ((((((((((words1.drop 24).drop 24).drop 24).drop 24).drop 24).drop 24).drop 24).drop 24).drop 24).take 24).all (fun c => isCode c || c.before args0 about1) = true := by decide +kernel
set_option maxRecDepth 65536 in
theorem w_t11 : (((((((((((words1.drop 24).drop 24).drop 24).drop 24).drop 24).drop 24).drop 24).drop 24).drop 24).drop 24).take 24).all (fun c => isCode c || c.before args0 about1) = true := by decide +kernel
set_option maxRecDepth 65536 in
theorem w_t12 : (((((((((((words1.drop 24).drop 24).drop 24).drop 24).drop 24).drop 24).drop 24).drop 24).drop 24).drop 24).drop 24).all (fun c => isCode c || c.before args0 about1) = true := by decide +kernel
theorem w_tables : (allAtoms (Jvm.Cond.code x code maxLocals ret :: tables_1)).before args0 about1 = true := by
  rw [allAtoms_all]
  show words1.all (fun c => c.before args0 about1) = true
  refine all_split ?_ w_codes
  rw [← List.take_append_drop 24 words1, List.all_append, w_t1, ← List.take_append_drop 24 (words1.drop 24), List.all_append, w_t2, ← List.take_append_drop 24 ((words1.drop 24).drop 24), List.all_append, w_t3, ← List.take_append_drop 24 (((words1.drop 24).drop 24).drop 24), List.all_append, w_t4, ← List.take_append_drop 24 ((((words1.drop 24).drop 24).drop 24).drop 24), List.all_append, w_t5, ← List.take_append_drop 24 (((((words1.drop 24).drop 24).drop 24).drop 24).drop 24), List.all_append, w_t6, ← List.take_append_drop 24 ((((((words1.drop 24).drop 24).drop 24).drop 24).drop 24).drop 24), List.all_append, w_t7, ← List.take_append_drop 24 (((((((words1.drop 24).drop 24).drop 24).drop 24).drop 24).drop 24).drop 24), List.all_append, w_t8, ← List.take_append_drop 24 ((((((((words1.drop 24).drop 24).drop 24).drop 24).drop 24).drop 24).drop 24).drop 24), List.all_append, w_t9, ← List.take_append_drop 24 (((((((((words1.drop 24).drop 24).drop 24).drop 24).drop 24).drop 24).drop 24).drop 24).drop 24), List.all_append, w_t10, ← List.take_append_drop 24 ((((((((((words1.drop 24).drop 24).drop 24).drop 24).drop 24).drop 24).drop 24).drop 24).drop 24).drop 24), List.all_append, w_t11, w_t12]
  rfl
set_option maxRecDepth 65536 in
theorem w_case : (Jvm.Cond.and given_1 narrow_1).before args0 about1 = true := by decide +kernel
theorem w_applies : (headSpec (Jvm.Cond.code x code maxLocals ret :: tables_1) room_1).applies x e0.platform about1 = true :=
  (Spec.applies_iff w_frames).mpr ⟨w_running, w_runnable, w_alone, w_named, w_hears, w_ripe, w_room, w_tables⟩
theorem atStart : AtStart classFile x code maxLocals ret World_1 tables_1 room_1 Calls_1 rest_1 Pre_1 launch0 p0 e0 about1 theMethod args0 below0 :=
  ⟨lists_1, trivial, launch0.admits_env _ _ _, launch0.least_env, fairChoices_fair.cas, fairChoices_fair.clock, w_frames, w_args, w_heap, w_applies, trivial, trivial, w_case⟩
end start1
theorem witness_1 : WitnessClaimed_1 := ⟨start1.p0, start1.e0, start1.about1, start1.theMethod, start1.args0, start1.below0, start1.atStart⟩
end Jvm.Pilot.@@N@@
