import JvmDerived
import JvmDerived.Pilot.@@N@@Statement
import JvmDerived.Pilot.@@N@@Code
set_option linter.unusedVariables false
set_option linter.unusedSimpArgs false
namespace Jvm.RoadKit
open Sem ClassFile Op Lib Jvm.Stand Jvm.Free Jvm.LawKit
section New
variable {p : Program} {l : Launch} {e : Env} {R : Room} {s : State} {m : MethodId} {args : Array Value} {below : List Frame} {meth : Method} {c : Code} {T : State} {locs : List Loc} {cells slots : Nat}
theorem retI (X : Stand p l e R s m args below meth c T locs cells slots) (hx : p.tables.exec = Jvm.exec) {pc : Nat} {Ls : Array Slot} {z : Int32} {rest : List Value} (hret : meth.sig.returnType = some .int) (hd : decode c.code pc = .ok (.ireturn, 1)) {fs : List Frame}
    (hl : ∀ (f : JFrame) (acts : List Action), f.method = m → f.locked = none → f.entered = [] → (doReturn e (T.setTop f) acts (some (.int z))).1 = T.setFrames fs) : Steps p.tables e below (T.setTop (mkF m pc Ls (.int z :: rest))) (T.setFrames fs) :=
  retOut X hx hret rfl (Or.inl ⟨rfl, Or.inl rfl, z, rfl⟩) hd hl
end New
end Jvm.RoadKit
namespace Jvm.Pilot.@@N@@
open Jvm Jvm.ClassFile Sem Op Lib Jvm.Free Jvm.Stand Jvm.LawKit Jvm.RoadKit Bundle Jvm.Pilot.@@N@@.Jvm.D
def own_Q (Q : Option Value → Heap → List Loc → Prop) (v : Option Value) (h : Heap) (L : List Loc) : Prop := Q v h L
def own_u8 (p : Int32) : Int32 := if p < (128 : Int32) then 1 else if p < (2048 : Int32) then 2 else if p < (65536 : Int32) then 3 else 4
def own_pb (k : Int32) : Int32 := if k = (1 : Int32) then 7 else (5 : Int32) * k + 1
def own_edges : List Value := [(.int (0 : Int32)), (.int (127 : Int32)), (.int (128 : Int32)), (.int (2047 : Int32)), (.int (2048 : Int32)), (.int (65535 : Int32)), (.int (65536 : Int32)), (.int (1114111 : Int32))]
theorem own_edge (k : Nat) (hk : k < 8) : ∃ cp : Int32, own_edges.getD k (.int (0 : Int32)) = .int cp ∧ 0 ≤ cp.toInt ∧ cp.toInt < 1114112 := by
  match k, hk with
  | 0, _ => exact ⟨0, rfl, by decide, by decide⟩
  | 1, _ => exact ⟨127, rfl, by decide, by decide⟩
  | 2, _ => exact ⟨128, rfl, by decide, by decide⟩
  | 3, _ => exact ⟨2047, rfl, by decide, by decide⟩
  | 4, _ => exact ⟨2048, rfl, by decide, by decide⟩
  | 5, _ => exact ⟨65535, rfl, by decide, by decide⟩
  | 6, _ => exact ⟨65536, rfl, by decide, by decide⟩
  | 7, _ => exact ⟨1114111, rfl, by decide, by decide⟩
  | n + 8, h => exact absurd h (by omega)
theorem own_lt {a b : Int32} : a < b ↔ a.toInt < b.toInt := Int32.lt_iff_toInt_lt
theorem own_z {x : Int32} (h : x.toInt = 0) : x = (0 : Int32) := Int32.toInt_inj.mp (h.trans rfl)
theorem own_nz {x : Int32} (h : x.toInt ≠ 0) : ¬ x = (0 : Int32) := fun e => h (by rw [e]; rfl)
theorem own_rem (x : Int32) : 0 ≤ ((x &&& (2147483647 : Int32)) % (1114112 : Int32)).toInt ∧ ((x &&& (2147483647 : Int32)) % (1114112 : Int32)).toInt < 1114112 := by
  have h1 := c_mask x 2147483647 31 (by decide) (by decide)
  have h2 := (c_irem (x &&& 2147483647) 1114112 1114112 rfl).1 (by rw [h1]; omega)
  rw [h2]; omega
theorem own_sel (y : Int32) : 0 ≤ (y &&& (15 : Int32)).toInt ∧ (y &&& (15 : Int32)).toInt ≤ 15 := by
  have h1 := c_mask y 15 4 (by decide) (by decide)
  rw [h1]; omega
theorem own_cases (cp : Int32) (h0 : 0 ≤ cp.toInt) (h1 : cp.toInt < 1114112) :
    (own_u8 cp = 1 ∧ cp >>> (own_pb 1 &&& 31) = (0 : Int32)) ∨
    (∃ n : Int32, own_u8 cp = n ∧ (n = 2 ∨ n = 3 ∨ n = 4) ∧ cp >>> (own_pb n &&& 31) = (0 : Int32) ∧ ¬ (cp >>> (own_pb (n - 1) &&& 31) = (0 : Int32))) := by
  by_cases a : cp < (128 : Int32)
  · left
    refine ⟨by rw [own_u8, if_pos a], own_z ?_⟩
    have : own_pb 1 = 7 := rfl
    rw [this, c_ishr cp 7 7 rfl]; rw [own_lt] at a; have : (128 : Int32).toInt = 128 := rfl; omega
  · right
    by_cases b : cp < (2048 : Int32)
    · refine ⟨2, by rw [own_u8, if_neg a, if_pos b], Or.inl rfl, own_z ?_, own_nz ?_⟩
      · have : own_pb 2 = 11 := by decide
        rw [this, c_ishr cp 11 11 rfl]; rw [own_lt] at b; have : (2048 : Int32).toInt = 2048 := rfl; omega
      · have : own_pb (2 - 1) = 7 := by decide
        rw [this, c_ishr cp 7 7 rfl]; rw [own_lt] at a; have : (128 : Int32).toInt = 128 := rfl; omega
    · by_cases d : cp < (65536 : Int32)
      · refine ⟨3, by rw [own_u8, if_neg a, if_neg b, if_pos d], Or.inr (Or.inl rfl), own_z ?_, own_nz ?_⟩
        · have : own_pb 3 = 16 := by decide
          rw [this, c_ishr cp 16 16 rfl]; rw [own_lt] at d; have : (65536 : Int32).toInt = 65536 := rfl; omega
        · have : own_pb (3 - 1) = 11 := by decide
          rw [this, c_ishr cp 11 11 rfl]; rw [own_lt] at b; have : (2048 : Int32).toInt = 2048 := rfl; omega
      · refine ⟨4, by rw [own_u8, if_neg a, if_neg b, if_neg d], Or.inr (Or.inr rfl), own_z ?_, own_nz ?_⟩
        · have : own_pb 4 = 21 := by decide
          rw [this, c_ishr cp 21 21 rfl]; omega
        · have : own_pb (4 - 1) = 16 := by decide
          rw [this, c_ishr cp 16 16 rfl]; rw [own_lt] at d; have : (65536 : Int32).toInt = 65536 := rfl; omega
theorem own_pd0 : parseMethodDescriptor "(I)I" = some ⟨[.int], some .int⟩ := by decide +kernel
theorem own_pn0 : plainName "com/example/nomos/nomos/schema/TextType" = true := by first | (simp [plainName, overriddenIn]; done) | decide +kernel
theorem own_pn1 : plainName "com/example/nomos/nomos/schema/TextTypeUtf8LengthPinLaw" = true := by first | (simp [plainName, overriddenIn]; done) | decide +kernel
theorem d1_0 : decode prog_133_method_19_code 0 = .ok (.iload_n 0, 1) := by decide +kernel
theorem d1_1 : decode prog_133_method_19_code 1 = .ok (.sipush 128, 3) := by decide +kernel
theorem d1_4 : decode prog_133_method_19_code 4 = .ok (.if_icmp .ge 8, 3) := by decide +kernel
theorem d1_7 : decode prog_133_method_19_code 7 = .ok (.iconst 1, 1) := by decide +kernel
theorem d1_8 : decode prog_133_method_19_code 8 = .ok (.istore_n 1, 1) := by decide +kernel
theorem d1_9 : decode prog_133_method_19_code 9 = .ok (.goto 28, 3) := by decide +kernel
theorem d1_12 : decode prog_133_method_19_code 12 = .ok (.iload_n 0, 1) := by decide +kernel
theorem d1_13 : decode prog_133_method_19_code 13 = .ok (.sipush 2048, 3) := by decide +kernel
theorem d1_16 : decode prog_133_method_19_code 16 = .ok (.if_icmp .ge 8, 3) := by decide +kernel
theorem d1_19 : decode prog_133_method_19_code 19 = .ok (.iconst 2, 1) := by decide +kernel
theorem d1_20 : decode prog_133_method_19_code 20 = .ok (.istore_n 1, 1) := by decide +kernel
theorem d1_21 : decode prog_133_method_19_code 21 = .ok (.goto 16, 3) := by decide +kernel
theorem d1_24 : decode prog_133_method_19_code 24 = .ok (.iload_n 0, 1) := by decide +kernel
theorem d1_25 : decode prog_133_method_19_code 25 = .ok (.ldc 111, 2) := by decide +kernel
theorem d1_27 : decode prog_133_method_19_code 27 = .ok (.if_icmp .ge 8, 3) := by decide +kernel
theorem d1_30 : decode prog_133_method_19_code 30 = .ok (.iconst 3, 1) := by decide +kernel
theorem d1_31 : decode prog_133_method_19_code 31 = .ok (.istore_n 1, 1) := by decide +kernel
theorem d1_32 : decode prog_133_method_19_code 32 = .ok (.goto 5, 3) := by decide +kernel
theorem d1_35 : decode prog_133_method_19_code 35 = .ok (.iconst 4, 1) := by decide +kernel
theorem d1_36 : decode prog_133_method_19_code 36 = .ok (.istore_n 1, 1) := by decide +kernel
theorem d1_37 : decode prog_133_method_19_code 37 = .ok (.iload_n 1, 1) := by decide +kernel
theorem d1_38 : decode prog_133_method_19_code 38 = .ok (.ireturn, 1) := by decide +kernel
theorem d2_0 : decode method_2_code 0 = .ok (.iload_n 0, 1) := by decide +kernel
theorem d2_1 : decode method_2_code 1 = .ok (.iconst 1, 1) := by decide +kernel
theorem d2_2 : decode method_2_code 2 = .ok (.if_icmp .ne 8, 3) := by decide +kernel
theorem d2_5 : decode method_2_code 5 = .ok (.bipush 7, 2) := by decide +kernel
theorem d2_7 : decode method_2_code 7 = .ok (.goto 8, 3) := by decide +kernel
theorem d2_10 : decode method_2_code 10 = .ok (.iconst 5, 1) := by decide +kernel
theorem d2_11 : decode method_2_code 11 = .ok (.iload_n 0, 1) := by decide +kernel
theorem d2_12 : decode method_2_code 12 = .ok (.imul, 1) := by decide +kernel
theorem d2_13 : decode method_2_code 13 = .ok (.iconst 1, 1) := by decide +kernel
theorem d2_14 : decode method_2_code 14 = .ok (.iadd, 1) := by decide +kernel
theorem d2_15 : decode method_2_code 15 = .ok (.ireturn, 1) := by decide +kernel
set_option maxRecDepth 65536 in
set_option maxHeartbeats 40000000 in
theorem rm1 (l : Launch) (Z : State) (a0 : Array Value) (hw : ∀ d ∈ tables_1, d.before a0 Z = true) (ws : List Jvm.Cond) (p1 : Int32) (h0 : Heap) (n0 : Nat) (Z0 : n0 ≤ h0.size)  :
    MetFree l (⟨"com/example/nomos/nomos/schema/TextType", "utf8Length", "(I)I"⟩ : MethodName) (head1 (Jvm.Cond.code (⟨"com/example/nomos/nomos/schema/TextType", "utf8Length", "(I)I"⟩ : MethodName) prog_133_method_19_code 2 (some .int) :: ws) ({ frames := 0, cells := 0, slots := 0, locals := 0 } : Room)) (fun a U => a = #[(.int p1)] ∧ Z.Warmed39 U.vm ∧ U.heap = h0) (fun _ _ _ _ _ => True) (fun _ U o U' => ∃ v L, o = .returned v ∧ own_Q (fun v h L => (v = some (.int (own_u8 p1)) ∧ Fr n0 L ∧ h = h0)) v U'.heap L ∧ FrameEnd U o U' L ({ frames := 0, cells := 0, slots := 0, locals := 0 } : Room).cells ({ frames := 0, cells := 0, slots := 0, locals := 0 } : Room).slots) := by
  refine MetFree.of_bodySF (plainFor_of_name own_pn0) hisR ?_
  intro p e s m args below meth c s₁ Bd hml0 hP hK
  obtain ⟨rfl, hZ, hh⟩ := hP
  have hx := Bd.exec
  have hby := Bd.bytes
  have hml : c.maxLocals = 2 := hml0
  have hown : s.vm.findClass "com/example/nomos/nomos/schema/TextType" = some m.cls := findClass_of_methodNamed Bd.named
  have hnm := (name_of_methodNamed Bd.named Bd.method).1
  have X0 : Stand p l e ({ frames := 0, cells := 0, slots := 0, locals := 0 } : Room) s m #[(.int p1)] below meth c s₁ [] 0 0 := Stand.of_body Bd
  have e0 : s₁.heap = h0 := by rw [← hh, Bd.state]; rfl
  have N0 := Fr.nil n0
  have ef : entryFrame m #[(.int p1)] 2 = mkF m 0 #[.val (.int p1), .unset] [] := by first | (simp [entryFrame, mkF, argsToLocals, Value.category]; done) | rfl
  have pre0 : ∀ t, Steps p.tables e below (s₁.setTop (mkF m 0 #[.val (.int p1), .unset] [])) t → Steps p.tables e below (s₁.setTop (entryFrame m #[(.int p1)] 2)) t := fun t k => castTop ef k
  have pre1 : ∀ t, Steps p.tables e below (s₁.setTop (mkF m 4 #[.val (.int p1), .unset] [(.int (128 : Int32)), (.int p1)])) t → Steps p.tables e below (s₁.setTop (entryFrame m #[(.int p1)] 2)) t := by
    intro t k
    refine pre0 _ ?_
    refine XS.iloadN X0.here hx rfl (hb hby d1_0) rfl ?_
    show Steps p.tables e below (s₁.setTop (mkF m 1 #[.val (.int p1), .unset] [(.int p1)])) _
    refine XS.sipush X0.here hx rfl (hb hby d1_1) ?_
    show Steps p.tables e below (s₁.setTop (mkF m 4 #[.val (.int p1), .unset] [(.int (128 : Int32)), (.int p1)])) _
    exact k
  by_cases hc1 : p1 < (128 : Int32)
  · have pre2 : ∀ t, Steps p.tables e below (s₁.setTop (mkF m 38 #[.val (.int p1), .val (.int (1 : Int32))] [(.int (1 : Int32))])) t → Steps p.tables e below (s₁.setTop (entryFrame m #[(.int p1)] 2)) t := by
      intro t k
      refine pre1 _ ?_
      refine XS.icmpNo X0.here hx rfl (hb hby d1_4) rfl (tlt hc1).2.1 ?_
      show Steps p.tables e below (s₁.setTop (mkF m 7 #[.val (.int p1), .unset] [])) _
      refine XS.iconst X0.here hx rfl (hb hby d1_7) ?_
      show Steps p.tables e below (s₁.setTop (mkF m 8 #[.val (.int p1), .unset] [(.int (1 : Int32))])) _
      refine XS.istoreN X0.here hx rfl (hb hby d1_8) rfl (l' := #[.val (.int p1), .val (.int (1 : Int32))]) rfl ?_
      show Steps p.tables e below (s₁.setTop (mkF m 9 #[.val (.int p1), .val (.int (1 : Int32))] [])) _
      refine XS.goto X0.here hx rfl (pc0 := 9) (pc' := 37) rfl (hb hby d1_9) (by decide) (by decide) ?_
      show Steps p.tables e below (s₁.setTop (mkF m 37 #[.val (.int p1), .val (.int (1 : Int32))] [])) _
      refine XS.iloadN X0.here hx rfl (hb hby d1_37) rfl ?_
      show Steps p.tables e below (s₁.setTop (mkF m 38 #[.val (.int p1), .val (.int (1 : Int32))] [(.int (1 : Int32))])) _
      exact k
    obtain ⟨fs, hr, hrun, hended, hW, hsame⟩ := X0.leave (v := some (.int (1 : Int32))) (fun h => by rw [Bd.returns] at h; cases h)
    refine ⟨_, _, pre2 _ ?_, hrun, hended, _, _, rfl, ?_, ⟨_, rfl⟩, hW, hsame.mono (by decide) (by decide)⟩
    · exact retI X0 hx Bd.returns (hb hby d1_38) hr
    · show ((_ : Option Value) = some (.int (own_u8 p1)) ∧ Fr n0 _ ∧ s₁.heap = h0)
      rw [e0]
      exact ⟨by rw [own_u8, if_pos hc1], N0, rfl⟩
  · have pre3 : ∀ t, Steps p.tables e below (s₁.setTop (mkF m 16 #[.val (.int p1), .unset] [(.int (2048 : Int32)), (.int p1)])) t → Steps p.tables e below (s₁.setTop (entryFrame m #[(.int p1)] 2)) t := by
      intro t k
      refine pre1 _ ?_
      refine XS.icmpYes X0.here hx rfl (pc0 := 4) (pc' := 12) rfl (hb hby d1_4) rfl (flt hc1).2.1 (by decide) (by decide) ?_
      show Steps p.tables e below (s₁.setTop (mkF m 12 #[.val (.int p1), .unset] [])) _
      refine XS.iloadN X0.here hx rfl (hb hby d1_12) rfl ?_
      show Steps p.tables e below (s₁.setTop (mkF m 13 #[.val (.int p1), .unset] [(.int p1)])) _
      refine XS.sipush X0.here hx rfl (hb hby d1_13) ?_
      show Steps p.tables e below (s₁.setTop (mkF m 16 #[.val (.int p1), .unset] [(.int (2048 : Int32)), (.int p1)])) _
      exact k
    by_cases hc2 : p1 < (2048 : Int32)
    · have pre4 : ∀ t, Steps p.tables e below (s₁.setTop (mkF m 38 #[.val (.int p1), .val (.int (2 : Int32))] [(.int (2 : Int32))])) t → Steps p.tables e below (s₁.setTop (entryFrame m #[(.int p1)] 2)) t := by
        intro t k
        refine pre3 _ ?_
        refine XS.icmpNo X0.here hx rfl (hb hby d1_16) rfl (tlt hc2).2.1 ?_
        show Steps p.tables e below (s₁.setTop (mkF m 19 #[.val (.int p1), .unset] [])) _
        refine XS.iconst X0.here hx rfl (hb hby d1_19) ?_
        show Steps p.tables e below (s₁.setTop (mkF m 20 #[.val (.int p1), .unset] [(.int (2 : Int32))])) _
        refine XS.istoreN X0.here hx rfl (hb hby d1_20) rfl (l' := #[.val (.int p1), .val (.int (2 : Int32))]) rfl ?_
        show Steps p.tables e below (s₁.setTop (mkF m 21 #[.val (.int p1), .val (.int (2 : Int32))] [])) _
        refine XS.goto X0.here hx rfl (pc0 := 21) (pc' := 37) rfl (hb hby d1_21) (by decide) (by decide) ?_
        show Steps p.tables e below (s₁.setTop (mkF m 37 #[.val (.int p1), .val (.int (2 : Int32))] [])) _
        refine XS.iloadN X0.here hx rfl (hb hby d1_37) rfl ?_
        show Steps p.tables e below (s₁.setTop (mkF m 38 #[.val (.int p1), .val (.int (2 : Int32))] [(.int (2 : Int32))])) _
        exact k
      obtain ⟨fs, hr, hrun, hended, hW, hsame⟩ := X0.leave (v := some (.int (2 : Int32))) (fun h => by rw [Bd.returns] at h; cases h)
      refine ⟨_, _, pre4 _ ?_, hrun, hended, _, _, rfl, ?_, ⟨_, rfl⟩, hW, hsame.mono (by decide) (by decide)⟩
      · exact retI X0 hx Bd.returns (hb hby d1_38) hr
      · show ((_ : Option Value) = some (.int (own_u8 p1)) ∧ Fr n0 _ ∧ s₁.heap = h0)
        rw [e0]
        exact ⟨by rw [own_u8, if_neg hc1, if_pos hc2], N0, rfl⟩
    · have pre5 : ∀ t, Steps p.tables e below (s₁.setTop (mkF m 27 #[.val (.int p1), .unset] [(.int (65536 : Int32)), (.int p1)])) t → Steps p.tables e below (s₁.setTop (entryFrame m #[(.int p1)] 2)) t := by
        intro t k
        refine pre3 _ ?_
        refine XS.icmpYes X0.here hx rfl (pc0 := 16) (pc' := 24) rfl (hb hby d1_16) rfl (flt hc2).2.1 (by decide) (by decide) ?_
        show Steps p.tables e below (s₁.setTop (mkF m 24 #[.val (.int p1), .unset] [])) _
        refine XS.iloadN X0.here hx rfl (hb hby d1_24) rfl ?_
        show Steps p.tables e below (s₁.setTop (mkF m 25 #[.val (.int p1), .unset] [(.int p1)])) _
        refine X0.ldcInt hx hown (mvT hZ (hw _ (List.mem_of_getElem? (i := 12) rfl))) (g := (mkF m 25 #[.val (.int p1), .unset] [(.int p1)])) rfl (hb hby d1_25) _ ?_
        show Steps p.tables e below (s₁.setTop (mkF m 27 #[.val (.int p1), .unset] [(.int (65536 : Int32)), (.int p1)])) _
        exact k
      by_cases hc3 : p1 < (65536 : Int32)
      · have pre6 : ∀ t, Steps p.tables e below (s₁.setTop (mkF m 38 #[.val (.int p1), .val (.int (3 : Int32))] [(.int (3 : Int32))])) t → Steps p.tables e below (s₁.setTop (entryFrame m #[(.int p1)] 2)) t := by
          intro t k
          refine pre5 _ ?_
          refine XS.icmpNo X0.here hx rfl (hb hby d1_27) rfl (tlt hc3).2.1 ?_
          show Steps p.tables e below (s₁.setTop (mkF m 30 #[.val (.int p1), .unset] [])) _
          refine XS.iconst X0.here hx rfl (hb hby d1_30) ?_
          show Steps p.tables e below (s₁.setTop (mkF m 31 #[.val (.int p1), .unset] [(.int (3 : Int32))])) _
          refine XS.istoreN X0.here hx rfl (hb hby d1_31) rfl (l' := #[.val (.int p1), .val (.int (3 : Int32))]) rfl ?_
          show Steps p.tables e below (s₁.setTop (mkF m 32 #[.val (.int p1), .val (.int (3 : Int32))] [])) _
          refine XS.goto X0.here hx rfl (pc0 := 32) (pc' := 37) rfl (hb hby d1_32) (by decide) (by decide) ?_
          show Steps p.tables e below (s₁.setTop (mkF m 37 #[.val (.int p1), .val (.int (3 : Int32))] [])) _
          refine XS.iloadN X0.here hx rfl (hb hby d1_37) rfl ?_
          show Steps p.tables e below (s₁.setTop (mkF m 38 #[.val (.int p1), .val (.int (3 : Int32))] [(.int (3 : Int32))])) _
          exact k
        obtain ⟨fs, hr, hrun, hended, hW, hsame⟩ := X0.leave (v := some (.int (3 : Int32))) (fun h => by rw [Bd.returns] at h; cases h)
        refine ⟨_, _, pre6 _ ?_, hrun, hended, _, _, rfl, ?_, ⟨_, rfl⟩, hW, hsame.mono (by decide) (by decide)⟩
        · exact retI X0 hx Bd.returns (hb hby d1_38) hr
        · show ((_ : Option Value) = some (.int (own_u8 p1)) ∧ Fr n0 _ ∧ s₁.heap = h0)
          rw [e0]
          exact ⟨by rw [own_u8, if_neg hc1, if_neg hc2, if_pos hc3], N0, rfl⟩
      · have pre7 : ∀ t, Steps p.tables e below (s₁.setTop (mkF m 38 #[.val (.int p1), .val (.int (4 : Int32))] [(.int (4 : Int32))])) t → Steps p.tables e below (s₁.setTop (entryFrame m #[(.int p1)] 2)) t := by
          intro t k
          refine pre5 _ ?_
          refine XS.icmpYes X0.here hx rfl (pc0 := 27) (pc' := 35) rfl (hb hby d1_27) rfl (flt hc3).2.1 (by decide) (by decide) ?_
          show Steps p.tables e below (s₁.setTop (mkF m 35 #[.val (.int p1), .unset] [])) _
          refine XS.iconst X0.here hx rfl (hb hby d1_35) ?_
          show Steps p.tables e below (s₁.setTop (mkF m 36 #[.val (.int p1), .unset] [(.int (4 : Int32))])) _
          refine XS.istoreN X0.here hx rfl (hb hby d1_36) rfl (l' := #[.val (.int p1), .val (.int (4 : Int32))]) rfl ?_
          show Steps p.tables e below (s₁.setTop (mkF m 37 #[.val (.int p1), .val (.int (4 : Int32))] [])) _
          refine XS.iloadN X0.here hx rfl (hb hby d1_37) rfl ?_
          show Steps p.tables e below (s₁.setTop (mkF m 38 #[.val (.int p1), .val (.int (4 : Int32))] [(.int (4 : Int32))])) _
          exact k
        obtain ⟨fs, hr, hrun, hended, hW, hsame⟩ := X0.leave (v := some (.int (4 : Int32))) (fun h => by rw [Bd.returns] at h; cases h)
        refine ⟨_, _, pre7 _ ?_, hrun, hended, _, _, rfl, ?_, ⟨_, rfl⟩, hW, hsame.mono (by decide) (by decide)⟩
        · exact retI X0 hx Bd.returns (hb hby d1_38) hr
        · show ((_ : Option Value) = some (.int (own_u8 p1)) ∧ Fr n0 _ ∧ s₁.heap = h0)
          rw [e0]
          exact ⟨by rw [own_u8, if_neg hc1, if_neg hc2, if_neg hc3], N0, rfl⟩
set_option maxRecDepth 65536 in
set_option maxHeartbeats 40000000 in
theorem rm2 (l : Launch) (Z : State) (a0 : Array Value) (hw : ∀ d ∈ tables_1, d.before a0 Z = true) (ws : List Jvm.Cond) (p1 : Int32) (h0 : Heap) (n0 : Nat) (Z0 : n0 ≤ h0.size)  :
    MetFree l (⟨"com/example/nomos/nomos/schema/TextTypeUtf8LengthPinLaw", "payloadBits", "(I)I"⟩ : MethodName) (head1 (Jvm.Cond.code (⟨"com/example/nomos/nomos/schema/TextTypeUtf8LengthPinLaw", "payloadBits", "(I)I"⟩ : MethodName) method_2_code 1 (some .int) :: ws) ({ frames := 0, cells := 0, slots := 0, locals := 0 } : Room)) (fun a U => a = #[(.int p1)] ∧ Z.Warmed39 U.vm ∧ U.heap = h0) (fun _ _ _ _ _ => True) (fun _ U o U' => ∃ v L, o = .returned v ∧ own_Q (fun v h L => (v = some (.int (own_pb p1)) ∧ Fr n0 L ∧ h = h0)) v U'.heap L ∧ FrameEnd U o U' L ({ frames := 0, cells := 0, slots := 0, locals := 0 } : Room).cells ({ frames := 0, cells := 0, slots := 0, locals := 0 } : Room).slots) := by
  refine MetFree.of_bodySF (plainFor_of_name own_pn1) hisR ?_
  intro p e s m args below meth c s₁ Bd hml0 hP hK
  obtain ⟨rfl, hZ, hh⟩ := hP
  have hx := Bd.exec
  have hby := Bd.bytes
  have hml : c.maxLocals = 1 := hml0
  have hown : s.vm.findClass "com/example/nomos/nomos/schema/TextTypeUtf8LengthPinLaw" = some m.cls := findClass_of_methodNamed Bd.named
  have hnm := (name_of_methodNamed Bd.named Bd.method).1
  have X0 : Stand p l e ({ frames := 0, cells := 0, slots := 0, locals := 0 } : Room) s m #[(.int p1)] below meth c s₁ [] 0 0 := Stand.of_body Bd
  have e0 : s₁.heap = h0 := by rw [← hh, Bd.state]; rfl
  have N0 := Fr.nil n0
  have ef : entryFrame m #[(.int p1)] 1 = mkF m 0 #[.val (.int p1)] [] := by first | (simp [entryFrame, mkF, argsToLocals, Value.category]; done) | rfl
  have pre0 : ∀ t, Steps p.tables e below (s₁.setTop (mkF m 0 #[.val (.int p1)] [])) t → Steps p.tables e below (s₁.setTop (entryFrame m #[(.int p1)] 1)) t := fun t k => castTop ef k
  have pre1 : ∀ t, Steps p.tables e below (s₁.setTop (mkF m 2 #[.val (.int p1)] [(.int (1 : Int32)), (.int p1)])) t → Steps p.tables e below (s₁.setTop (entryFrame m #[(.int p1)] 1)) t := by
    intro t k
    refine pre0 _ ?_
    refine XS.iloadN X0.here hx rfl (hb hby d2_0) rfl ?_
    show Steps p.tables e below (s₁.setTop (mkF m 1 #[.val (.int p1)] [(.int p1)])) _
    refine XS.iconst X0.here hx rfl (hb hby d2_1) ?_
    show Steps p.tables e below (s₁.setTop (mkF m 2 #[.val (.int p1)] [(.int (1 : Int32)), (.int p1)])) _
    exact k
  by_cases hc1 : p1 = (1 : Int32)
  · have pre2 : ∀ t, Steps p.tables e below (s₁.setTop (mkF m 15 #[.val (.int p1)] [(.int (7 : Int32))])) t → Steps p.tables e below (s₁.setTop (entryFrame m #[(.int p1)] 1)) t := by
      intro t k
      refine pre1 _ ?_
      refine XS.icmpNo X0.here hx rfl (hb hby d2_2) rfl (teq hc1).2 ?_
      show Steps p.tables e below (s₁.setTop (mkF m 5 #[.val (.int p1)] [])) _
      refine XS.bipush X0.here hx rfl (hb hby d2_5) ?_
      show Steps p.tables e below (s₁.setTop (mkF m 7 #[.val (.int p1)] [(.int (7 : Int32))])) _
      refine XS.goto X0.here hx rfl (pc0 := 7) (pc' := 15) rfl (hb hby d2_7) (by decide) (by decide) ?_
      show Steps p.tables e below (s₁.setTop (mkF m 15 #[.val (.int p1)] [(.int (7 : Int32))])) _
      exact k
    obtain ⟨fs, hr, hrun, hended, hW, hsame⟩ := X0.leave (v := some (.int (7 : Int32))) (fun h => by rw [Bd.returns] at h; cases h)
    refine ⟨_, _, pre2 _ ?_, hrun, hended, _, _, rfl, ?_, ⟨_, rfl⟩, hW, hsame.mono (by decide) (by decide)⟩
    · exact retI X0 hx Bd.returns (hb hby d2_15) hr
    · show ((_ : Option Value) = some (.int (own_pb p1)) ∧ Fr n0 _ ∧ s₁.heap = h0)
      rw [e0]
      exact ⟨by rw [own_pb, if_pos hc1], N0, rfl⟩
  · have pre3 : ∀ t, Steps p.tables e below (s₁.setTop (mkF m 15 #[.val (.int p1)] [(.int (((5 : Int32) * p1) + (1 : Int32)))])) t → Steps p.tables e below (s₁.setTop (entryFrame m #[(.int p1)] 1)) t := by
      intro t k
      refine pre1 _ ?_
      refine XS.icmpYes X0.here hx rfl (pc0 := 2) (pc' := 10) rfl (hb hby d2_2) rfl (feq hc1).2 (by decide) (by decide) ?_
      show Steps p.tables e below (s₁.setTop (mkF m 10 #[.val (.int p1)] [])) _
      refine XS.iconst X0.here hx rfl (hb hby d2_10) ?_
      show Steps p.tables e below (s₁.setTop (mkF m 11 #[.val (.int p1)] [(.int (5 : Int32))])) _
      refine XS.iloadN X0.here hx rfl (hb hby d2_11) rfl ?_
      show Steps p.tables e below (s₁.setTop (mkF m 12 #[.val (.int p1)] [(.int p1), (.int (5 : Int32))])) _
      refine XS.imul X0.here hx rfl (hb hby d2_12) rfl ?_
      show Steps p.tables e below (s₁.setTop (mkF m 13 #[.val (.int p1)] [(.int ((5 : Int32) * p1))])) _
      refine XS.iconst X0.here hx rfl (hb hby d2_13) ?_
      show Steps p.tables e below (s₁.setTop (mkF m 14 #[.val (.int p1)] [(.int (1 : Int32)), (.int ((5 : Int32) * p1))])) _
      refine XS.iadd X0.here hx rfl (hb hby d2_14) rfl ?_
      show Steps p.tables e below (s₁.setTop (mkF m 15 #[.val (.int p1)] [(.int (((5 : Int32) * p1) + (1 : Int32)))])) _
      exact k
    obtain ⟨fs, hr, hrun, hended, hW, hsame⟩ := X0.leave (v := some (.int (((5 : Int32) * p1) + (1 : Int32)))) (fun h => by rw [Bd.returns] at h; cases h)
    refine ⟨_, _, pre3 _ ?_, hrun, hended, _, _, rfl, ?_, ⟨_, rfl⟩, hW, hsame.mono (by decide) (by decide)⟩
    · exact retI X0 hx Bd.returns (hb hby d2_15) hr
    · show ((_ : Option Value) = some (.int (own_pb p1)) ∧ Fr n0 _ ∧ s₁.heap = h0)
      rw [e0]
      exact ⟨by rw [own_pb, if_neg hc1], N0, rfl⟩
set_option maxRecDepth 65536 in
set_option maxHeartbeats 40000000 in
theorem rm0 (l : Launch) (Z : State) (a0 : Array Value) (hw : ∀ d ∈ tables_1, d.before a0 Z = true) (ws : List Jvm.Cond) (p1 : Int32) (p2 : Int32) (h0 : Heap) (n0 : Nat) (Z0 : n0 ≤ h0.size)  :
    MetFree l x (head1 (Jvm.Cond.code x code maxLocals ret :: ws) room_1) (fun a U => a = #[(.int p1), (.int p2)] ∧ Z.Warmed39 U.vm ∧ U.heap = h0) (fun _ _ _ _ _ => True) (fun _ U o U' => ∃ v L, o = .returned v ∧ own_Q (fun v h L => (v = some (.int 1) ∧ Fr n0 L)) v U'.heap L ∧ FrameEnd U o U' L room_1.cells room_1.slots) := by
  refine MetFree.of_bodySF (plainFor_of_name own_pn1) hisR ?_
  intro p e s m args below meth c s₁ Bd hml0 hP hK
  obtain ⟨rfl, hZ, hh⟩ := hP
  have hx := Bd.exec
  have hby := Bd.bytes
  have hml : c.maxLocals = 8 := hml0
  have hown : s.vm.findClass "com/example/nomos/nomos/schema/TextTypeUtf8LengthPinLaw" = some m.cls := findClass_of_methodNamed Bd.named
  have hnm := (name_of_methodNamed Bd.named Bd.method).1
  have X0 : Stand p l e room_1 s m #[(.int p1), (.int p2)] below meth c s₁ [] 0 0 := Stand.of_body Bd
  have e0 : s₁.heap = h0 := by rw [← hh, Bd.state]; rfl
  have N0 := Fr.nil n0
  have ef : entryFrame m #[(.int p1), (.int p2)] maxLocals = mkF m 0 #[.val (.int p1), .val (.int p2), .unset, .unset, .unset, .unset, .unset, .unset] [] := by first | (simp [entryFrame, mkF, argsToLocals, Value.category, maxLocals]; done) | rfl
  have pre0 : ∀ t, Steps p.tables e below (s₁.setTop (mkF m 0 #[.val (.int p1), .val (.int p2), .unset, .unset, .unset, .unset, .unset, .unset] [])) t → Steps p.tables e below (s₁.setTop (entryFrame m #[(.int p1), (.int p2)] maxLocals)) t := fun t k => castTop ef k
  have pre1 : ∀ t, Steps p.tables e below (s₁.setTop (mkF m 2 #[.val (.int p1), .val (.int p2), .unset, .unset, .unset, .unset, .unset, .unset] [(.int (8 : Int32))])) t → Steps p.tables e below (s₁.setTop (entryFrame m #[(.int p1), (.int p2)] maxLocals)) t := by
    intro t k
    refine pre0 _ ?_
    refine XS.bipush X0.here hx rfl (hb hby at_0) ?_
    show Steps p.tables e below (s₁.setTop (mkF m 2 #[.val (.int p1), .val (.int p2), .unset, .unset, .unset, .unset, .unset, .unset] [(.int (8 : Int32))])) _
    exact k
  obtain ⟨T2, h2, k2, X2, e2, E2, A2, st2⟩ := newP X0 hx hZ (hw _ (List.mem_of_getElem? (i := 0) rfl)) e0 (g := (mkF m 2 #[.val (.int p1), .val (.int p2), .unset, .unset, .unset, .unset, .unset, .unset] [(.int (8 : Int32))])) rfl (hb hby at_2) rfl (by decide) (cap := 8) (by decide) (by decide) (by decide) (by decide)
  obtain ⟨b2, g2⟩ : ∃ z, z = h0.size := ⟨_, rfl⟩
  rw [← g2] at A2 st2
  have V2 : Arv Z h2 b2 k2 .int (8 : Int32) [(.int (0 : Int32)), (.int (0 : Int32)), (.int (0 : Int32)), (.int (0 : Int32)), (.int (0 : Int32)), (.int (0 : Int32)), (.int (0 : Int32)), (.int (0 : Int32))] (.int (0 : Int32)) := (Arv.new A2 (by decide)).pad (pad_rep [] (.int (0 : Int32)) 8)
  have pre2 : ∀ t, Steps p.tables e below (T2.setTop (mkF m 4 #[.val (.int p1), .val (.int p2), .unset, .unset, .unset, .unset, .unset, .unset] [(.ref b2)])) t → Steps p.tables e below (s₁.setTop (entryFrame m #[(.int p1), (.int p2)] maxLocals)) t := fun t k => pre1 t (st2 t k)
  have gb : n0 ≤ b2 := Nat.le_trans Z0 (Nat.le_of_eq g2.symm)
  have pre3 : ∀ t, Steps p.tables e below (T2.setTop (mkF m 7 #[.val (.int p1), .val (.int p2), .unset, .unset, .unset, .unset, .unset, .unset] [(.int (0 : Int32)), (.int (0 : Int32)), (.ref b2), (.ref b2)])) t → Steps p.tables e below (s₁.setTop (entryFrame m #[(.int p1), (.int p2)] maxLocals)) t := by
    intro t k
    refine pre2 _ ?_
    refine XS.dup X2.here hx rfl (hb hby at_4) rfl rfl ?_
    show Steps p.tables e below (T2.setTop (mkF m 5 #[.val (.int p1), .val (.int p2), .unset, .unset, .unset, .unset, .unset, .unset] [(.ref b2), (.ref b2)])) _
    refine XS.iconst X2.here hx rfl (hb hby at_5) ?_
    show Steps p.tables e below (T2.setTop (mkF m 6 #[.val (.int p1), .val (.int p2), .unset, .unset, .unset, .unset, .unset, .unset] [(.int (0 : Int32)), (.ref b2), (.ref b2)])) _
    refine XS.iconst X2.here hx rfl (hb hby at_6) ?_
    show Steps p.tables e below (T2.setTop (mkF m 7 #[.val (.int p1), .val (.int p2), .unset, .unset, .unset, .unset, .unset, .unset] [(.int (0 : Int32)), (.int (0 : Int32)), (.ref b2), (.ref b2)])) _
    exact k
  obtain ⟨cl4, Ar4, q4, S4, M4, Ha4, G4⟩ := V2
  have hin4 : ¬ ((0 : Int32) < 0 ∨ cl4.slots.size ≤ ((0 : Int32)).toNatClampNeg) := inb_of S4 ⟨by decide, by decide⟩
  obtain ⟨T4, h4, X4, e4, W4, st4⟩ := stI X2 hx hZ e2 Ar4 (j := (0 : Int32)) hin4 (g := (mkF m 7 #[.val (.int p1), .val (.int p2), .unset, .unset, .unset, .unset, .unset, .unset] [(.int (0 : Int32)), (.int (0 : Int32)), (.ref b2), (.ref b2)])) rfl rfl (hb hby at_7)
  have V4 := Arv.set Ar4 q4 S4 M4 Ha4 G4 rfl W4 0 rfl (Nat.le_of_ble_eq_true rfl)
  have N4 := Fr.snoc X4 N0 gb
  have pre4 : ∀ t, Steps p.tables e below (T4.setTop (mkF m 8 #[.val (.int p1), .val (.int p2), .unset, .unset, .unset, .unset, .unset, .unset] [(.ref b2)])) t → Steps p.tables e below (s₁.setTop (entryFrame m #[(.int p1), (.int p2)] maxLocals)) t := fun t k => pre3 t (st4 t k)
  have pre5 : ∀ t, Steps p.tables e below (T4.setTop (mkF m 12 #[.val (.int p1), .val (.int p2), .unset, .unset, .unset, .unset, .unset, .unset] [(.int (127 : Int32)), (.int (1 : Int32)), (.ref b2), (.ref b2)])) t → Steps p.tables e below (s₁.setTop (entryFrame m #[(.int p1), (.int p2)] maxLocals)) t := by
    intro t k
    refine pre4 _ ?_
    refine XS.dup X4.here hx rfl (hb hby at_8) rfl rfl ?_
    show Steps p.tables e below (T4.setTop (mkF m 9 #[.val (.int p1), .val (.int p2), .unset, .unset, .unset, .unset, .unset, .unset] [(.ref b2), (.ref b2)])) _
    refine XS.iconst X4.here hx rfl (hb hby at_9) ?_
    show Steps p.tables e below (T4.setTop (mkF m 10 #[.val (.int p1), .val (.int p2), .unset, .unset, .unset, .unset, .unset, .unset] [(.int (1 : Int32)), (.ref b2), (.ref b2)])) _
    refine XS.bipush X4.here hx rfl (hb hby at_10) ?_
    show Steps p.tables e below (T4.setTop (mkF m 12 #[.val (.int p1), .val (.int p2), .unset, .unset, .unset, .unset, .unset, .unset] [(.int (127 : Int32)), (.int (1 : Int32)), (.ref b2), (.ref b2)])) _
    exact k
  obtain ⟨cl6, Ar6, q6, S6, M6, Ha6, G6⟩ := V4
  have hin6 : ¬ ((1 : Int32) < 0 ∨ cl6.slots.size ≤ ((1 : Int32)).toNatClampNeg) := inb_of S6 ⟨by decide, by decide⟩
  obtain ⟨T6, h6, X6, e6, W6, st6⟩ := stI X4 hx hZ e4 Ar6 (j := (1 : Int32)) hin6 (g := (mkF m 12 #[.val (.int p1), .val (.int p2), .unset, .unset, .unset, .unset, .unset, .unset] [(.int (127 : Int32)), (.int (1 : Int32)), (.ref b2), (.ref b2)])) rfl rfl (hb hby at_12)
  have V6 := Arv.set Ar6 q6 S6 M6 Ha6 G6 rfl W6 1 rfl (Nat.le_of_ble_eq_true rfl)
  have N6 := Fr.snoc X6 N4 gb
  have pre6 : ∀ t, Steps p.tables e below (T6.setTop (mkF m 13 #[.val (.int p1), .val (.int p2), .unset, .unset, .unset, .unset, .unset, .unset] [(.ref b2)])) t → Steps p.tables e below (s₁.setTop (entryFrame m #[(.int p1), (.int p2)] maxLocals)) t := fun t k => pre5 t (st6 t k)
  have pre7 : ∀ t, Steps p.tables e below (T6.setTop (mkF m 18 #[.val (.int p1), .val (.int p2), .unset, .unset, .unset, .unset, .unset, .unset] [(.int (128 : Int32)), (.int (2 : Int32)), (.ref b2), (.ref b2)])) t → Steps p.tables e below (s₁.setTop (entryFrame m #[(.int p1), (.int p2)] maxLocals)) t := by
    intro t k
    refine pre6 _ ?_
    refine XS.dup X6.here hx rfl (hb hby at_13) rfl rfl ?_
    show Steps p.tables e below (T6.setTop (mkF m 14 #[.val (.int p1), .val (.int p2), .unset, .unset, .unset, .unset, .unset, .unset] [(.ref b2), (.ref b2)])) _
    refine XS.iconst X6.here hx rfl (hb hby at_14) ?_
    show Steps p.tables e below (T6.setTop (mkF m 15 #[.val (.int p1), .val (.int p2), .unset, .unset, .unset, .unset, .unset, .unset] [(.int (2 : Int32)), (.ref b2), (.ref b2)])) _
    refine XS.sipush X6.here hx rfl (hb hby at_15) ?_
    show Steps p.tables e below (T6.setTop (mkF m 18 #[.val (.int p1), .val (.int p2), .unset, .unset, .unset, .unset, .unset, .unset] [(.int (128 : Int32)), (.int (2 : Int32)), (.ref b2), (.ref b2)])) _
    exact k
  obtain ⟨cl8, Ar8, q8, S8, M8, Ha8, G8⟩ := V6
  have hin8 : ¬ ((2 : Int32) < 0 ∨ cl8.slots.size ≤ ((2 : Int32)).toNatClampNeg) := inb_of S8 ⟨by decide, by decide⟩
  obtain ⟨T8, h8, X8, e8, W8, st8⟩ := stI X6 hx hZ e6 Ar8 (j := (2 : Int32)) hin8 (g := (mkF m 18 #[.val (.int p1), .val (.int p2), .unset, .unset, .unset, .unset, .unset, .unset] [(.int (128 : Int32)), (.int (2 : Int32)), (.ref b2), (.ref b2)])) rfl rfl (hb hby at_18)
  have V8 := Arv.set Ar8 q8 S8 M8 Ha8 G8 rfl W8 2 rfl (Nat.le_of_ble_eq_true rfl)
  have N8 := Fr.snoc X8 N6 gb
  have pre8 : ∀ t, Steps p.tables e below (T8.setTop (mkF m 19 #[.val (.int p1), .val (.int p2), .unset, .unset, .unset, .unset, .unset, .unset] [(.ref b2)])) t → Steps p.tables e below (s₁.setTop (entryFrame m #[(.int p1), (.int p2)] maxLocals)) t := fun t k => pre7 t (st8 t k)
  have pre9 : ∀ t, Steps p.tables e below (T8.setTop (mkF m 24 #[.val (.int p1), .val (.int p2), .unset, .unset, .unset, .unset, .unset, .unset] [(.int (2047 : Int32)), (.int (3 : Int32)), (.ref b2), (.ref b2)])) t → Steps p.tables e below (s₁.setTop (entryFrame m #[(.int p1), (.int p2)] maxLocals)) t := by
    intro t k
    refine pre8 _ ?_
    refine XS.dup X8.here hx rfl (hb hby at_19) rfl rfl ?_
    show Steps p.tables e below (T8.setTop (mkF m 20 #[.val (.int p1), .val (.int p2), .unset, .unset, .unset, .unset, .unset, .unset] [(.ref b2), (.ref b2)])) _
    refine XS.iconst X8.here hx rfl (hb hby at_20) ?_
    show Steps p.tables e below (T8.setTop (mkF m 21 #[.val (.int p1), .val (.int p2), .unset, .unset, .unset, .unset, .unset, .unset] [(.int (3 : Int32)), (.ref b2), (.ref b2)])) _
    refine XS.sipush X8.here hx rfl (hb hby at_21) ?_
    show Steps p.tables e below (T8.setTop (mkF m 24 #[.val (.int p1), .val (.int p2), .unset, .unset, .unset, .unset, .unset, .unset] [(.int (2047 : Int32)), (.int (3 : Int32)), (.ref b2), (.ref b2)])) _
    exact k
  obtain ⟨cl10, Ar10, q10, S10, M10, Ha10, G10⟩ := V8
  have hin10 : ¬ ((3 : Int32) < 0 ∨ cl10.slots.size ≤ ((3 : Int32)).toNatClampNeg) := inb_of S10 ⟨by decide, by decide⟩
  obtain ⟨T10, h10, X10, e10, W10, st10⟩ := stI X8 hx hZ e8 Ar10 (j := (3 : Int32)) hin10 (g := (mkF m 24 #[.val (.int p1), .val (.int p2), .unset, .unset, .unset, .unset, .unset, .unset] [(.int (2047 : Int32)), (.int (3 : Int32)), (.ref b2), (.ref b2)])) rfl rfl (hb hby at_24)
  have V10 := Arv.set Ar10 q10 S10 M10 Ha10 G10 rfl W10 3 rfl (Nat.le_of_ble_eq_true rfl)
  have N10 := Fr.snoc X10 N8 gb
  have pre10 : ∀ t, Steps p.tables e below (T10.setTop (mkF m 25 #[.val (.int p1), .val (.int p2), .unset, .unset, .unset, .unset, .unset, .unset] [(.ref b2)])) t → Steps p.tables e below (s₁.setTop (entryFrame m #[(.int p1), (.int p2)] maxLocals)) t := fun t k => pre9 t (st10 t k)
  have pre11 : ∀ t, Steps p.tables e below (T10.setTop (mkF m 30 #[.val (.int p1), .val (.int p2), .unset, .unset, .unset, .unset, .unset, .unset] [(.int (2048 : Int32)), (.int (4 : Int32)), (.ref b2), (.ref b2)])) t → Steps p.tables e below (s₁.setTop (entryFrame m #[(.int p1), (.int p2)] maxLocals)) t := by
    intro t k
    refine pre10 _ ?_
    refine XS.dup X10.here hx rfl (hb hby at_25) rfl rfl ?_
    show Steps p.tables e below (T10.setTop (mkF m 26 #[.val (.int p1), .val (.int p2), .unset, .unset, .unset, .unset, .unset, .unset] [(.ref b2), (.ref b2)])) _
    refine XS.iconst X10.here hx rfl (hb hby at_26) ?_
    show Steps p.tables e below (T10.setTop (mkF m 27 #[.val (.int p1), .val (.int p2), .unset, .unset, .unset, .unset, .unset, .unset] [(.int (4 : Int32)), (.ref b2), (.ref b2)])) _
    refine XS.sipush X10.here hx rfl (hb hby at_27) ?_
    show Steps p.tables e below (T10.setTop (mkF m 30 #[.val (.int p1), .val (.int p2), .unset, .unset, .unset, .unset, .unset, .unset] [(.int (2048 : Int32)), (.int (4 : Int32)), (.ref b2), (.ref b2)])) _
    exact k
  obtain ⟨cl12, Ar12, q12, S12, M12, Ha12, G12⟩ := V10
  have hin12 : ¬ ((4 : Int32) < 0 ∨ cl12.slots.size ≤ ((4 : Int32)).toNatClampNeg) := inb_of S12 ⟨by decide, by decide⟩
  obtain ⟨T12, h12, X12, e12, W12, st12⟩ := stI X10 hx hZ e10 Ar12 (j := (4 : Int32)) hin12 (g := (mkF m 30 #[.val (.int p1), .val (.int p2), .unset, .unset, .unset, .unset, .unset, .unset] [(.int (2048 : Int32)), (.int (4 : Int32)), (.ref b2), (.ref b2)])) rfl rfl (hb hby at_30)
  have V12 := Arv.set Ar12 q12 S12 M12 Ha12 G12 rfl W12 4 rfl (Nat.le_of_ble_eq_true rfl)
  have N12 := Fr.snoc X12 N10 gb
  have pre12 : ∀ t, Steps p.tables e below (T12.setTop (mkF m 31 #[.val (.int p1), .val (.int p2), .unset, .unset, .unset, .unset, .unset, .unset] [(.ref b2)])) t → Steps p.tables e below (s₁.setTop (entryFrame m #[(.int p1), (.int p2)] maxLocals)) t := fun t k => pre11 t (st12 t k)
  have pre13 : ∀ t, Steps p.tables e below (T12.setTop (mkF m 35 #[.val (.int p1), .val (.int p2), .unset, .unset, .unset, .unset, .unset, .unset] [(.int (65535 : Int32)), (.int (5 : Int32)), (.ref b2), (.ref b2)])) t → Steps p.tables e below (s₁.setTop (entryFrame m #[(.int p1), (.int p2)] maxLocals)) t := by
    intro t k
    refine pre12 _ ?_
    refine XS.dup X12.here hx rfl (hb hby at_31) rfl rfl ?_
    show Steps p.tables e below (T12.setTop (mkF m 32 #[.val (.int p1), .val (.int p2), .unset, .unset, .unset, .unset, .unset, .unset] [(.ref b2), (.ref b2)])) _
    refine XS.iconst X12.here hx rfl (hb hby at_32) ?_
    show Steps p.tables e below (T12.setTop (mkF m 33 #[.val (.int p1), .val (.int p2), .unset, .unset, .unset, .unset, .unset, .unset] [(.int (5 : Int32)), (.ref b2), (.ref b2)])) _
    refine X12.ldcInt hx hown (mvT hZ (hw _ (List.mem_of_getElem? (i := 1) rfl))) (g := (mkF m 33 #[.val (.int p1), .val (.int p2), .unset, .unset, .unset, .unset, .unset, .unset] [(.int (5 : Int32)), (.ref b2), (.ref b2)])) rfl (hb hby at_33) _ ?_
    show Steps p.tables e below (T12.setTop (mkF m 35 #[.val (.int p1), .val (.int p2), .unset, .unset, .unset, .unset, .unset, .unset] [(.int (65535 : Int32)), (.int (5 : Int32)), (.ref b2), (.ref b2)])) _
    exact k
  obtain ⟨cl14, Ar14, q14, S14, M14, Ha14, G14⟩ := V12
  have hin14 : ¬ ((5 : Int32) < 0 ∨ cl14.slots.size ≤ ((5 : Int32)).toNatClampNeg) := inb_of S14 ⟨by decide, by decide⟩
  obtain ⟨T14, h14, X14, e14, W14, st14⟩ := stI X12 hx hZ e12 Ar14 (j := (5 : Int32)) hin14 (g := (mkF m 35 #[.val (.int p1), .val (.int p2), .unset, .unset, .unset, .unset, .unset, .unset] [(.int (65535 : Int32)), (.int (5 : Int32)), (.ref b2), (.ref b2)])) rfl rfl (hb hby at_35)
  have V14 := Arv.set Ar14 q14 S14 M14 Ha14 G14 rfl W14 5 rfl (Nat.le_of_ble_eq_true rfl)
  have N14 := Fr.snoc X14 N12 gb
  have pre14 : ∀ t, Steps p.tables e below (T14.setTop (mkF m 36 #[.val (.int p1), .val (.int p2), .unset, .unset, .unset, .unset, .unset, .unset] [(.ref b2)])) t → Steps p.tables e below (s₁.setTop (entryFrame m #[(.int p1), (.int p2)] maxLocals)) t := fun t k => pre13 t (st14 t k)
  have pre15 : ∀ t, Steps p.tables e below (T14.setTop (mkF m 41 #[.val (.int p1), .val (.int p2), .unset, .unset, .unset, .unset, .unset, .unset] [(.int (65536 : Int32)), (.int (6 : Int32)), (.ref b2), (.ref b2)])) t → Steps p.tables e below (s₁.setTop (entryFrame m #[(.int p1), (.int p2)] maxLocals)) t := by
    intro t k
    refine pre14 _ ?_
    refine XS.dup X14.here hx rfl (hb hby at_36) rfl rfl ?_
    show Steps p.tables e below (T14.setTop (mkF m 37 #[.val (.int p1), .val (.int p2), .unset, .unset, .unset, .unset, .unset, .unset] [(.ref b2), (.ref b2)])) _
    refine XS.bipush X14.here hx rfl (hb hby at_37) ?_
    show Steps p.tables e below (T14.setTop (mkF m 39 #[.val (.int p1), .val (.int p2), .unset, .unset, .unset, .unset, .unset, .unset] [(.int (6 : Int32)), (.ref b2), (.ref b2)])) _
    refine X14.ldcInt hx hown (mvT hZ (hw _ (List.mem_of_getElem? (i := 2) rfl))) (g := (mkF m 39 #[.val (.int p1), .val (.int p2), .unset, .unset, .unset, .unset, .unset, .unset] [(.int (6 : Int32)), (.ref b2), (.ref b2)])) rfl (hb hby at_39) _ ?_
    show Steps p.tables e below (T14.setTop (mkF m 41 #[.val (.int p1), .val (.int p2), .unset, .unset, .unset, .unset, .unset, .unset] [(.int (65536 : Int32)), (.int (6 : Int32)), (.ref b2), (.ref b2)])) _
    exact k
  obtain ⟨cl16, Ar16, q16, S16, M16, Ha16, G16⟩ := V14
  have hin16 : ¬ ((6 : Int32) < 0 ∨ cl16.slots.size ≤ ((6 : Int32)).toNatClampNeg) := inb_of S16 ⟨by decide, by decide⟩
  obtain ⟨T16, h16, X16, e16, W16, st16⟩ := stI X14 hx hZ e14 Ar16 (j := (6 : Int32)) hin16 (g := (mkF m 41 #[.val (.int p1), .val (.int p2), .unset, .unset, .unset, .unset, .unset, .unset] [(.int (65536 : Int32)), (.int (6 : Int32)), (.ref b2), (.ref b2)])) rfl rfl (hb hby at_41)
  have V16 := Arv.set Ar16 q16 S16 M16 Ha16 G16 rfl W16 6 rfl (Nat.le_of_ble_eq_true rfl)
  have N16 := Fr.snoc X16 N14 gb
  have pre16 : ∀ t, Steps p.tables e below (T16.setTop (mkF m 42 #[.val (.int p1), .val (.int p2), .unset, .unset, .unset, .unset, .unset, .unset] [(.ref b2)])) t → Steps p.tables e below (s₁.setTop (entryFrame m #[(.int p1), (.int p2)] maxLocals)) t := fun t k => pre15 t (st16 t k)
  have pre17 : ∀ t, Steps p.tables e below (T16.setTop (mkF m 47 #[.val (.int p1), .val (.int p2), .unset, .unset, .unset, .unset, .unset, .unset] [(.int (1114111 : Int32)), (.int (7 : Int32)), (.ref b2), (.ref b2)])) t → Steps p.tables e below (s₁.setTop (entryFrame m #[(.int p1), (.int p2)] maxLocals)) t := by
    intro t k
    refine pre16 _ ?_
    refine XS.dup X16.here hx rfl (hb hby at_42) rfl rfl ?_
    show Steps p.tables e below (T16.setTop (mkF m 43 #[.val (.int p1), .val (.int p2), .unset, .unset, .unset, .unset, .unset, .unset] [(.ref b2), (.ref b2)])) _
    refine XS.bipush X16.here hx rfl (hb hby at_43) ?_
    show Steps p.tables e below (T16.setTop (mkF m 45 #[.val (.int p1), .val (.int p2), .unset, .unset, .unset, .unset, .unset, .unset] [(.int (7 : Int32)), (.ref b2), (.ref b2)])) _
    refine X16.ldcInt hx hown (mvT hZ (hw _ (List.mem_of_getElem? (i := 3) rfl))) (g := (mkF m 45 #[.val (.int p1), .val (.int p2), .unset, .unset, .unset, .unset, .unset, .unset] [(.int (7 : Int32)), (.ref b2), (.ref b2)])) rfl (hb hby at_45) _ ?_
    show Steps p.tables e below (T16.setTop (mkF m 47 #[.val (.int p1), .val (.int p2), .unset, .unset, .unset, .unset, .unset, .unset] [(.int (1114111 : Int32)), (.int (7 : Int32)), (.ref b2), (.ref b2)])) _
    exact k
  obtain ⟨cl18, Ar18, q18, S18, M18, Ha18, G18⟩ := V16
  have hin18 : ¬ ((7 : Int32) < 0 ∨ cl18.slots.size ≤ ((7 : Int32)).toNatClampNeg) := inb_of S18 ⟨by decide, by decide⟩
  obtain ⟨T18, h18, X18, e18, W18, st18⟩ := stI X16 hx hZ e16 Ar18 (j := (7 : Int32)) hin18 (g := (mkF m 47 #[.val (.int p1), .val (.int p2), .unset, .unset, .unset, .unset, .unset, .unset] [(.int (1114111 : Int32)), (.int (7 : Int32)), (.ref b2), (.ref b2)])) rfl rfl (hb hby at_47)
  have V18 := Arv.set Ar18 q18 S18 M18 Ha18 G18 rfl W18 7 rfl (Nat.le_of_ble_eq_true rfl)
  have N18 := Fr.snoc X18 N16 gb
  have pre18 : ∀ t, Steps p.tables e below (T18.setTop (mkF m 48 #[.val (.int p1), .val (.int p2), .unset, .unset, .unset, .unset, .unset, .unset] [(.ref b2)])) t → Steps p.tables e below (s₁.setTop (entryFrame m #[(.int p1), (.int p2)] maxLocals)) t := fun t k => pre17 t (st18 t k)
  have VE : Arv Z h18 b2 k2 .int (8 : Int32) own_edges (.int (0 : Int32)) := V18
  have pre19 : ∀ t, Steps p.tables e below (T18.setTop (mkF m 57 #[.val (.int p1), .val (.int p2), .val (.ref b2), .val (.int (p2 &&& (15 : Int32))), .unset, .unset, .unset, .unset] [(.int (8 : Int32)), (.int (p2 &&& (15 : Int32)))])) t → Steps p.tables e below (s₁.setTop (entryFrame m #[(.int p1), (.int p2)] maxLocals)) t := by
    intro t k
    refine pre18 _ ?_
    refine XS.astoreN X18.here hx rfl (hb hby at_48) rfl rfl (l' := #[.val (.int p1), .val (.int p2), .val (.ref b2), .unset, .unset, .unset, .unset, .unset]) rfl ?_
    show Steps p.tables e below (T18.setTop (mkF m 49 #[.val (.int p1), .val (.int p2), .val (.ref b2), .unset, .unset, .unset, .unset, .unset] [])) _
    refine XS.iloadN X18.here hx rfl (hb hby at_49) rfl ?_
    show Steps p.tables e below (T18.setTop (mkF m 50 #[.val (.int p1), .val (.int p2), .val (.ref b2), .unset, .unset, .unset, .unset, .unset] [(.int p2)])) _
    refine XS.bipush X18.here hx rfl (hb hby at_50) ?_
    show Steps p.tables e below (T18.setTop (mkF m 52 #[.val (.int p1), .val (.int p2), .val (.ref b2), .unset, .unset, .unset, .unset, .unset] [(.int (15 : Int32)), (.int p2)])) _
    refine XS.iand X18.here hx rfl (hb hby at_52) rfl ?_
    show Steps p.tables e below (T18.setTop (mkF m 53 #[.val (.int p1), .val (.int p2), .val (.ref b2), .unset, .unset, .unset, .unset, .unset] [(.int (p2 &&& (15 : Int32)))])) _
    refine XS.istoreN X18.here hx rfl (hb hby at_53) rfl (l' := #[.val (.int p1), .val (.int p2), .val (.ref b2), .val (.int (p2 &&& (15 : Int32))), .unset, .unset, .unset, .unset]) rfl ?_
    show Steps p.tables e below (T18.setTop (mkF m 54 #[.val (.int p1), .val (.int p2), .val (.ref b2), .val (.int (p2 &&& (15 : Int32))), .unset, .unset, .unset, .unset] [])) _
    refine XS.iloadN X18.here hx rfl (hb hby at_54) rfl ?_
    show Steps p.tables e below (T18.setTop (mkF m 55 #[.val (.int p1), .val (.int p2), .val (.ref b2), .val (.int (p2 &&& (15 : Int32))), .unset, .unset, .unset, .unset] [(.int (p2 &&& (15 : Int32)))])) _
    refine XS.bipush X18.here hx rfl (hb hby at_55) ?_
    show Steps p.tables e below (T18.setTop (mkF m 57 #[.val (.int p1), .val (.int p2), .val (.ref b2), .val (.int (p2 &&& (15 : Int32))), .unset, .unset, .unset, .unset] [(.int (8 : Int32)), (.int (p2 &&& (15 : Int32)))])) _
    exact k
  obtain ⟨cp, hcp0, hcp1, preJ⟩ : ∃ cp : Int32, 0 ≤ cp.toInt ∧ cp.toInt < 1114112 ∧ (∀ t, Steps p.tables e below (T18.setTop (mkF m 73 #[.val (.int p1), .val (.int p2), .val (.ref b2), .val (.int (p2 &&& (15 : Int32))), .unset, .unset, .unset, .unset] [(.int cp)])) t → Steps p.tables e below (s₁.setTop (entryFrame m #[(.int p1), (.int p2)] maxLocals)) t) := by
    by_cases hc : (p2 &&& (15 : Int32)) < (8 : Int32)
    · have pre20 : ∀ t, Steps p.tables e below (T18.setTop (mkF m 62 #[.val (.int p1), .val (.int p2), .val (.ref b2), .val (.int (p2 &&& (15 : Int32))), .unset, .unset, .unset, .unset] [(.int (p2 &&& (15 : Int32))), (.ref b2)])) t → Steps p.tables e below (s₁.setTop (entryFrame m #[(.int p1), (.int p2)] maxLocals)) t := by
        intro t k
        refine pre19 _ ?_
        refine XS.icmpNo X18.here hx rfl (hb hby at_57) rfl (tlt hc).2.1 ?_
        show Steps p.tables e below (T18.setTop (mkF m 60 #[.val (.int p1), .val (.int p2), .val (.ref b2), .val (.int (p2 &&& (15 : Int32))), .unset, .unset, .unset, .unset] [])) _
        refine XS.aloadN X18.here hx rfl (hb hby at_60) rfl rfl ?_
        show Steps p.tables e below (T18.setTop (mkF m 61 #[.val (.int p1), .val (.int p2), .val (.ref b2), .val (.int (p2 &&& (15 : Int32))), .unset, .unset, .unset, .unset] [(.ref b2)])) _
        refine XS.iloadN X18.here hx rfl (hb hby at_61) rfl ?_
        show Steps p.tables e below (T18.setTop (mkF m 62 #[.val (.int p1), .val (.int p2), .val (.ref b2), .val (.int (p2 &&& (15 : Int32))), .unset, .unset, .unset, .unset] [(.int (p2 &&& (15 : Int32))), (.ref b2)])) _
        exact k
      obtain ⟨cl, Ar, -, Sz, Mz, Ha, -⟩ := VE
      have hs := own_sel p2
      have hs8 : (p2 &&& (15 : Int32)).toInt < 8 := by have := own_lt.mp hc; have e8 : (8 : Int32).toInt = 8 := rfl; omega
      have hin : ¬ ((p2 &&& (15 : Int32)) < 0 ∨ cl.slots.size ≤ (p2 &&& (15 : Int32)).toNatClampNeg) := inb_of Sz ⟨fun q => by have := own_lt.mp q; have e0 : (0 : Int32).toInt = 0 := rfl; omega, hc⟩
      obtain ⟨cp, ecp, h0', h1'⟩ := own_edge (p2 &&& (15 : Int32)).toNatClampNeg (by simp only [Int32.toNatClampNeg]; omega)
      have hat : cl.slots[(p2 &&& (15 : Int32)).toNatClampNeg]? = some (.int cp) := by rw [← ecp]; exact Ha _ (Nat.lt_of_not_le fun q => hin (Or.inr q))
      refine ⟨cp, h0', h1', ?_⟩
      have pre21 : ∀ t, Steps p.tables e below (T18.setTop (mkF m 73 #[.val (.int p1), .val (.int p2), .val (.ref b2), .val (.int (p2 &&& (15 : Int32))), .unset, .unset, .unset, .unset] [(.int cp)])) t → Steps p.tables e below (s₁.setTop (entryFrame m #[(.int p1), (.int p2)] maxLocals)) t := by
        intro t k
        refine pre20 _ ?_
        refine X18.iaload hx (j := (p2 &&& (15 : Int32))) (v := (.int cp)) (by rw [e18]; exact Ar.1) (State.isArrayOf_alike hZ.alike Ar.2.1) Ar.2.2 hin hat (g := (mkF m 62 #[.val (.int p1), .val (.int p2), .val (.ref b2), .val (.int (p2 &&& (15 : Int32))), .unset, .unset, .unset, .unset] [(.int (p2 &&& (15 : Int32))), (.ref b2)])) rfl rfl (hb hby at_62) _ ?_
        show Steps p.tables e below (T18.setTop (mkF m 63 #[.val (.int p1), .val (.int p2), .val (.ref b2), .val (.int (p2 &&& (15 : Int32))), .unset, .unset, .unset, .unset] [(.int cp)])) _
        refine XS.goto X18.here hx rfl (pc0 := 63) (pc' := 73) rfl (hb hby at_63) (by decide) (by decide) ?_
        show Steps p.tables e below (T18.setTop (mkF m 73 #[.val (.int p1), .val (.int p2), .val (.ref b2), .val (.int (p2 &&& (15 : Int32))), .unset, .unset, .unset, .unset] [(.int cp)])) _
        exact k
      exact pre21
    · have pre22 : ∀ t, Steps p.tables e below (T18.setTop (mkF m 73 #[.val (.int p1), .val (.int p2), .val (.ref b2), .val (.int (p2 &&& (15 : Int32))), .unset, .unset, .unset, .unset] [(.int ((p1 &&& (2147483647 : Int32)) % (1114112 : Int32)))])) t → Steps p.tables e below (s₁.setTop (entryFrame m #[(.int p1), (.int p2)] maxLocals)) t := by
        intro t k
        refine pre19 _ ?_
        refine XS.icmpYes X18.here hx rfl (pc0 := 57) (pc' := 66) rfl (hb hby at_57) rfl (flt hc).2.1 (by decide) (by decide) ?_
        show Steps p.tables e below (T18.setTop (mkF m 66 #[.val (.int p1), .val (.int p2), .val (.ref b2), .val (.int (p2 &&& (15 : Int32))), .unset, .unset, .unset, .unset] [])) _
        refine XS.iloadN X18.here hx rfl (hb hby at_66) rfl ?_
        show Steps p.tables e below (T18.setTop (mkF m 67 #[.val (.int p1), .val (.int p2), .val (.ref b2), .val (.int (p2 &&& (15 : Int32))), .unset, .unset, .unset, .unset] [(.int p1)])) _
        refine X18.ldcInt hx hown (mvT hZ (hw _ (List.mem_of_getElem? (i := 13) rfl))) (g := (mkF m 67 #[.val (.int p1), .val (.int p2), .val (.ref b2), .val (.int (p2 &&& (15 : Int32))), .unset, .unset, .unset, .unset] [(.int p1)])) rfl (hb hby at_67) _ ?_
        show Steps p.tables e below (T18.setTop (mkF m 69 #[.val (.int p1), .val (.int p2), .val (.ref b2), .val (.int (p2 &&& (15 : Int32))), .unset, .unset, .unset, .unset] [(.int (2147483647 : Int32)), (.int p1)])) _
        refine XS.iand X18.here hx rfl (hb hby at_69) rfl ?_
        show Steps p.tables e below (T18.setTop (mkF m 70 #[.val (.int p1), .val (.int p2), .val (.ref b2), .val (.int (p2 &&& (15 : Int32))), .unset, .unset, .unset, .unset] [(.int (p1 &&& (2147483647 : Int32)))])) _
        refine X18.ldcInt hx hown (mvT hZ (hw _ (List.mem_of_getElem? (i := 14) rfl))) (g := (mkF m 70 #[.val (.int p1), .val (.int p2), .val (.ref b2), .val (.int (p2 &&& (15 : Int32))), .unset, .unset, .unset, .unset] [(.int (p1 &&& (2147483647 : Int32)))])) rfl (hb hby at_70) _ ?_
        show Steps p.tables e below (T18.setTop (mkF m 72 #[.val (.int p1), .val (.int p2), .val (.ref b2), .val (.int (p2 &&& (15 : Int32))), .unset, .unset, .unset, .unset] [(.int (1114112 : Int32)), (.int (p1 &&& (2147483647 : Int32)))])) _
        refine iremM (g := (mkF m 72 #[.val (.int p1), .val (.int p2), .val (.ref b2), .val (.int (p2 &&& (15 : Int32))), .unset, .unset, .unset, .unset] [(.int (1114112 : Int32)), (.int (p1 &&& (2147483647 : Int32)))])) X18 hx rfl (hb hby at_72) rfl (by decide) ?_
        show Steps p.tables e below (T18.setTop (mkF m 73 #[.val (.int p1), .val (.int p2), .val (.ref b2), .val (.int (p2 &&& (15 : Int32))), .unset, .unset, .unset, .unset] [(.int ((p1 &&& (2147483647 : Int32)) % (1114112 : Int32)))])) _
        exact k
      exact ⟨_, (own_rem p1).1, (own_rem p1).2, pre22⟩
  have pre23 : ∀ t, Steps p.tables e below (T18.setTop (mkF m 77 #[.val (.int p1), .val (.int p2), .val (.ref b2), .val (.int (p2 &&& (15 : Int32))), .val (.int cp), .unset, .unset, .unset] [(.int cp)])) t → Steps p.tables e below (s₁.setTop (entryFrame m #[(.int p1), (.int p2)] maxLocals)) t := by
    intro t k
    refine preJ _ ?_
    refine XS.istore X18.here hx rfl (hb hby at_73) rfl (l' := #[.val (.int p1), .val (.int p2), .val (.ref b2), .val (.int (p2 &&& (15 : Int32))), .val (.int cp), .unset, .unset, .unset]) rfl ?_
    show Steps p.tables e below (T18.setTop (mkF m 75 #[.val (.int p1), .val (.int p2), .val (.ref b2), .val (.int (p2 &&& (15 : Int32))), .val (.int cp), .unset, .unset, .unset] [])) _
    refine XS.iload X18.here hx rfl (hb hby at_75) rfl ?_
    show Steps p.tables e below (T18.setTop (mkF m 77 #[.val (.int p1), .val (.int p2), .val (.ref b2), .val (.int (p2 &&& (15 : Int32))), .val (.int cp), .unset, .unset, .unset] [(.int cp)])) _
    exact k
  rcases own_cases cp hcp0 hcp1 with ⟨hn, hf⟩ | ⟨nn, hn, hn', hf, hm⟩
  · have rm1' := rm1 l Z a0 hw [] cp h18 n0 (Nat.le_of_lt (Nat.lt_of_le_of_lt gb VE.lt))
    rw [hn] at rm1'
    obtain ⟨_, _, ⟨T24, L24, k24, n24⟩, -, X24, ⟨Lc24, hQ24, l24, y24, z24⟩, st24⟩ := Jvm.LawKit.callS X18 hx (y := (⟨"com/example/nomos/nomos/schema/TextType", "utf8Length", "(I)I"⟩ : MethodName)) hown (mvT hZ (hw _ (List.mem_of_getElem? (i := 4) rfl))) (mvT hZ (hw _ (List.mem_of_getElem? (i := 5) rfl))) (mvT hZ (hw _ (List.mem_of_getElem? (i := 6) rfl))) (mvT hZ (hw _ (List.mem_of_getElem? (i := 7) rfl))) (by decide) (backOf (W := 0) (rm1') hZ (hw _ (List.mem_of_getElem? (i := 7) rfl)) (hw _ (List.mem_of_getElem? (i := 6) rfl)) (by decide) (by decide)) (g := (mkF m 77 #[.val (.int p1), .val (.int p2), .val (.ref b2), .val (.int (p2 &&& (15 : Int32))), .val (.int cp), .unset, .unset, .unset] [(.int cp)])) rfl (by rw [hml]; rfl) (argsL := [(.int cp)]) (rest := []) (lenOf own_pd0 rfl) rfl (by show 2 * 0 + _ ≤ _; exact Nat.le_of_eq rfl) (hb hby at_77) (fun _ _ => ⟨rfl, e18, (by decide : 1 + 0 ≤ _), (by decide : 8 + 0 ≤ _)⟩)
    dsimp only [Pt.U, Pt.locs, Pt.cells, Pt.slots] at X24 l24 y24 z24 st24 hQ24
    subst l24 y24 z24
    obtain ⟨rfl, Nq24, eh1⟩ := hQ24
    have N24 := Fr.app N18 Nq24
    have pre24 : ∀ t, Steps p.tables e below (T24.setTop (mkF m 80 #[.val (.int p1), .val (.int p2), .val (.ref b2), .val (.int (p2 &&& (15 : Int32))), .val (.int cp), .unset, .unset, .unset] [(.int (1 : Int32))])) t → Steps p.tables e below (s₁.setTop (entryFrame m #[(.int p1), (.int p2)] maxLocals)) t := fun t k => pre23 t (st24 t k)
    have pre25 : ∀ t, Steps p.tables e below (T24.setTop (mkF m 100 #[.val (.int p1), .val (.int p2), .val (.ref b2), .val (.int (p2 &&& (15 : Int32))), .val (.int cp), .val (.int (1 : Int32)), .unset, .unset] [(.int (1 : Int32)), (.int cp)])) t → Steps p.tables e below (s₁.setTop (entryFrame m #[(.int p1), (.int p2)] maxLocals)) t := by
      intro t k
      refine pre24 _ ?_
      refine XS.istore X24.here hx rfl (hb hby at_80) rfl (l' := #[.val (.int p1), .val (.int p2), .val (.ref b2), .val (.int (p2 &&& (15 : Int32))), .val (.int cp), .val (.int (1 : Int32)), .unset, .unset]) rfl ?_
      show Steps p.tables e below (T24.setTop (mkF m 82 #[.val (.int p1), .val (.int p2), .val (.ref b2), .val (.int (p2 &&& (15 : Int32))), .val (.int cp), .val (.int (1 : Int32)), .unset, .unset] [])) _
      refine XS.iload X24.here hx rfl (hb hby at_82) rfl ?_
      show Steps p.tables e below (T24.setTop (mkF m 84 #[.val (.int p1), .val (.int p2), .val (.ref b2), .val (.int (p2 &&& (15 : Int32))), .val (.int cp), .val (.int (1 : Int32)), .unset, .unset] [(.int (1 : Int32))])) _
      refine XS.iconst X24.here hx rfl (hb hby at_84) ?_
      show Steps p.tables e below (T24.setTop (mkF m 85 #[.val (.int p1), .val (.int p2), .val (.ref b2), .val (.int (p2 &&& (15 : Int32))), .val (.int cp), .val (.int (1 : Int32)), .unset, .unset] [(.int (1 : Int32)), (.int (1 : Int32))])) _
      refine XS.icmpNo X24.here hx rfl (hb hby at_85) rfl (flt (by decide)).1 ?_
      show Steps p.tables e below (T24.setTop (mkF m 88 #[.val (.int p1), .val (.int p2), .val (.ref b2), .val (.int (p2 &&& (15 : Int32))), .val (.int cp), .val (.int (1 : Int32)), .unset, .unset] [])) _
      refine XS.iload X24.here hx rfl (hb hby at_88) rfl ?_
      show Steps p.tables e below (T24.setTop (mkF m 90 #[.val (.int p1), .val (.int p2), .val (.ref b2), .val (.int (p2 &&& (15 : Int32))), .val (.int cp), .val (.int (1 : Int32)), .unset, .unset] [(.int (1 : Int32))])) _
      refine XS.iconst X24.here hx rfl (hb hby at_90) ?_
      show Steps p.tables e below (T24.setTop (mkF m 91 #[.val (.int p1), .val (.int p2), .val (.ref b2), .val (.int (p2 &&& (15 : Int32))), .val (.int cp), .val (.int (1 : Int32)), .unset, .unset] [(.int (4 : Int32)), (.int (1 : Int32))])) _
      refine XS.icmpYes X24.here hx rfl (pc0 := 91) (pc' := 96) rfl (hb hby at_91) rfl (flt (by decide)).2.2.2 (by decide) (by decide) ?_
      show Steps p.tables e below (T24.setTop (mkF m 96 #[.val (.int p1), .val (.int p2), .val (.ref b2), .val (.int (p2 &&& (15 : Int32))), .val (.int cp), .val (.int (1 : Int32)), .unset, .unset] [])) _
      refine XS.iload X24.here hx rfl (hb hby at_96) rfl ?_
      show Steps p.tables e below (T24.setTop (mkF m 98 #[.val (.int p1), .val (.int p2), .val (.ref b2), .val (.int (p2 &&& (15 : Int32))), .val (.int cp), .val (.int (1 : Int32)), .unset, .unset] [(.int cp)])) _
      refine XS.iload X24.here hx rfl (hb hby at_98) rfl ?_
      show Steps p.tables e below (T24.setTop (mkF m 100 #[.val (.int p1), .val (.int p2), .val (.ref b2), .val (.int (p2 &&& (15 : Int32))), .val (.int cp), .val (.int (1 : Int32)), .unset, .unset] [(.int (1 : Int32)), (.int cp)])) _
      exact k
    obtain ⟨_, _, ⟨T26, L26, k26, n26⟩, -, X26, ⟨Lc26, hQ26, l26, y26, z26⟩, st26⟩ := Jvm.LawKit.callS X24 hx (y := (⟨"com/example/nomos/nomos/schema/TextTypeUtf8LengthPinLaw", "payloadBits", "(I)I"⟩ : MethodName)) hown (mvT hZ (hw _ (List.mem_of_getElem? (i := 8) rfl))) (mvT hZ (hw _ (List.mem_of_getElem? (i := 9) rfl))) (mvT hZ (hw _ (List.mem_of_getElem? (i := 10) rfl))) (mvT hZ (hw _ (List.mem_of_getElem? (i := 11) rfl))) (by decide) (backOf (W := 1) (rm2 l Z a0 hw [] (1 : Int32) h18 n0 (Nat.le_of_lt (Nat.lt_of_le_of_lt gb VE.lt))) hZ (hw _ (List.mem_of_getElem? (i := 11) rfl)) (hw _ (List.mem_of_getElem? (i := 10) rfl)) (by decide) (by decide)) (g := (mkF m 100 #[.val (.int p1), .val (.int p2), .val (.ref b2), .val (.int (p2 &&& (15 : Int32))), .val (.int cp), .val (.int (1 : Int32)), .unset, .unset] [(.int (1 : Int32)), (.int cp)])) rfl (by rw [hml]; rfl) (argsL := [(.int (1 : Int32))]) (rest := [(.int cp)]) (lenOf own_pd0 rfl) rfl (by show 2 * 0 + _ ≤ _; exact Nat.le_of_eq rfl) (hb hby at_100) (fun _ _ => ⟨rfl, eh1, (by decide : 1 + 0 ≤ _), (by decide : 8 + 0 ≤ _)⟩)
    dsimp only [Pt.U, Pt.locs, Pt.cells, Pt.slots] at X26 l26 y26 z26 st26 hQ26
    subst l26 y26 z26
    obtain ⟨rfl, Nq26, eh2⟩ := hQ26
    have N26 := Fr.app N24 Nq26
    have pre26 : ∀ t, Steps p.tables e below (T26.setTop (mkF m 103 #[.val (.int p1), .val (.int p2), .val (.ref b2), .val (.int (p2 &&& (15 : Int32))), .val (.int cp), .val (.int (1 : Int32)), .unset, .unset] [(.int (own_pb (1 : Int32))), (.int cp)])) t → Steps p.tables e below (s₁.setTop (entryFrame m #[(.int p1), (.int p2)] maxLocals)) t := fun t k => pre25 t (st26 t k)
    have pre27 : ∀ t, Steps p.tables e below (T26.setTop (mkF m 155 #[.val (.int p1), .val (.int p2), .val (.ref b2), .val (.int (p2 &&& (15 : Int32))), .val (.int cp), .val (.int (1 : Int32)), .val (.int (1 : Int32)), .val (.int (1 : Int32))] [(.int (1 : Int32))])) t → Steps p.tables e below (s₁.setTop (entryFrame m #[(.int p1), (.int p2)] maxLocals)) t := by
      intro t k
      refine pre26 _ ?_
      refine XS.ishr X26.here hx rfl (hb hby at_103) rfl ?_
      show Steps p.tables e below (T26.setTop (mkF m 104 #[.val (.int p1), .val (.int p2), .val (.ref b2), .val (.int (p2 &&& (15 : Int32))), .val (.int cp), .val (.int (1 : Int32)), .unset, .unset] [(.int (cp >>> ((own_pb (1 : Int32)) &&& 31)))])) _
      refine XS.ifNo X26.here hx rfl (hb hby at_104) rfl ((if0 _ _).trans (teq hf).2) ?_
      show Steps p.tables e below (T26.setTop (mkF m 107 #[.val (.int p1), .val (.int p2), .val (.ref b2), .val (.int (p2 &&& (15 : Int32))), .val (.int cp), .val (.int (1 : Int32)), .unset, .unset] [])) _
      refine XS.iconst X26.here hx rfl (hb hby at_107) ?_
      show Steps p.tables e below (T26.setTop (mkF m 108 #[.val (.int p1), .val (.int p2), .val (.ref b2), .val (.int (p2 &&& (15 : Int32))), .val (.int cp), .val (.int (1 : Int32)), .unset, .unset] [(.int (1 : Int32))])) _
      refine XS.goto X26.here hx rfl (pc0 := 108) (pc' := 112) rfl (hb hby at_108) (by decide) (by decide) ?_
      show Steps p.tables e below (T26.setTop (mkF m 112 #[.val (.int p1), .val (.int p2), .val (.ref b2), .val (.int (p2 &&& (15 : Int32))), .val (.int cp), .val (.int (1 : Int32)), .unset, .unset] [(.int (1 : Int32))])) _
      refine XS.istore X26.here hx rfl (hb hby at_112) rfl (l' := #[.val (.int p1), .val (.int p2), .val (.ref b2), .val (.int (p2 &&& (15 : Int32))), .val (.int cp), .val (.int (1 : Int32)), .val (.int (1 : Int32)), .unset]) rfl ?_
      show Steps p.tables e below (T26.setTop (mkF m 114 #[.val (.int p1), .val (.int p2), .val (.ref b2), .val (.int (p2 &&& (15 : Int32))), .val (.int cp), .val (.int (1 : Int32)), .val (.int (1 : Int32)), .unset] [])) _
      refine XS.iload X26.here hx rfl (hb hby at_114) rfl ?_
      show Steps p.tables e below (T26.setTop (mkF m 116 #[.val (.int p1), .val (.int p2), .val (.ref b2), .val (.int (p2 &&& (15 : Int32))), .val (.int cp), .val (.int (1 : Int32)), .val (.int (1 : Int32)), .unset] [(.int (1 : Int32))])) _
      refine XS.iconst X26.here hx rfl (hb hby at_116) ?_
      show Steps p.tables e below (T26.setTop (mkF m 117 #[.val (.int p1), .val (.int p2), .val (.ref b2), .val (.int (p2 &&& (15 : Int32))), .val (.int cp), .val (.int (1 : Int32)), .val (.int (1 : Int32)), .unset] [(.int (1 : Int32)), (.int (1 : Int32))])) _
      refine XS.icmpYes X26.here hx rfl (pc0 := 117) (pc' := 133) rfl (hb hby at_117) rfl (teq rfl).1 (by decide) (by decide) ?_
      show Steps p.tables e below (T26.setTop (mkF m 133 #[.val (.int p1), .val (.int p2), .val (.ref b2), .val (.int (p2 &&& (15 : Int32))), .val (.int cp), .val (.int (1 : Int32)), .val (.int (1 : Int32)), .unset] [])) _
      refine XS.iconst X26.here hx rfl (hb hby at_133) ?_
      show Steps p.tables e below (T26.setTop (mkF m 134 #[.val (.int p1), .val (.int p2), .val (.ref b2), .val (.int (p2 &&& (15 : Int32))), .val (.int cp), .val (.int (1 : Int32)), .val (.int (1 : Int32)), .unset] [(.int (1 : Int32))])) _
      refine XS.goto X26.here hx rfl (pc0 := 134) (pc' := 138) rfl (hb hby at_134) (by decide) (by decide) ?_
      show Steps p.tables e below (T26.setTop (mkF m 138 #[.val (.int p1), .val (.int p2), .val (.ref b2), .val (.int (p2 &&& (15 : Int32))), .val (.int cp), .val (.int (1 : Int32)), .val (.int (1 : Int32)), .unset] [(.int (1 : Int32))])) _
      refine XS.istore X26.here hx rfl (hb hby at_138) rfl (l' := #[.val (.int p1), .val (.int p2), .val (.ref b2), .val (.int (p2 &&& (15 : Int32))), .val (.int cp), .val (.int (1 : Int32)), .val (.int (1 : Int32)), .val (.int (1 : Int32))]) rfl ?_
      show Steps p.tables e below (T26.setTop (mkF m 140 #[.val (.int p1), .val (.int p2), .val (.ref b2), .val (.int (p2 &&& (15 : Int32))), .val (.int cp), .val (.int (1 : Int32)), .val (.int (1 : Int32)), .val (.int (1 : Int32))] [])) _
      refine XS.iload X26.here hx rfl (hb hby at_140) rfl ?_
      show Steps p.tables e below (T26.setTop (mkF m 142 #[.val (.int p1), .val (.int p2), .val (.ref b2), .val (.int (p2 &&& (15 : Int32))), .val (.int cp), .val (.int (1 : Int32)), .val (.int (1 : Int32)), .val (.int (1 : Int32))] [(.int (1 : Int32))])) _
      refine XS.ifNo X26.here hx rfl (hb hby at_142) rfl ((if0 _ _).trans (feq (by decide)).1) ?_
      show Steps p.tables e below (T26.setTop (mkF m 145 #[.val (.int p1), .val (.int p2), .val (.ref b2), .val (.int (p2 &&& (15 : Int32))), .val (.int cp), .val (.int (1 : Int32)), .val (.int (1 : Int32)), .val (.int (1 : Int32))] [])) _
      refine XS.iload X26.here hx rfl (hb hby at_145) rfl ?_
      show Steps p.tables e below (T26.setTop (mkF m 147 #[.val (.int p1), .val (.int p2), .val (.ref b2), .val (.int (p2 &&& (15 : Int32))), .val (.int cp), .val (.int (1 : Int32)), .val (.int (1 : Int32)), .val (.int (1 : Int32))] [(.int (1 : Int32))])) _
      refine XS.ifNo X26.here hx rfl (hb hby at_147) rfl ((if0 _ _).trans (feq (by decide)).1) ?_
      show Steps p.tables e below (T26.setTop (mkF m 150 #[.val (.int p1), .val (.int p2), .val (.ref b2), .val (.int (p2 &&& (15 : Int32))), .val (.int cp), .val (.int (1 : Int32)), .val (.int (1 : Int32)), .val (.int (1 : Int32))] [])) _
      refine XS.iconst X26.here hx rfl (hb hby at_150) ?_
      show Steps p.tables e below (T26.setTop (mkF m 151 #[.val (.int p1), .val (.int p2), .val (.ref b2), .val (.int (p2 &&& (15 : Int32))), .val (.int cp), .val (.int (1 : Int32)), .val (.int (1 : Int32)), .val (.int (1 : Int32))] [(.int (1 : Int32))])) _
      refine XS.goto X26.here hx rfl (pc0 := 151) (pc' := 155) rfl (hb hby at_151) (by decide) (by decide) ?_
      show Steps p.tables e below (T26.setTop (mkF m 155 #[.val (.int p1), .val (.int p2), .val (.ref b2), .val (.int (p2 &&& (15 : Int32))), .val (.int cp), .val (.int (1 : Int32)), .val (.int (1 : Int32)), .val (.int (1 : Int32))] [(.int (1 : Int32))])) _
      exact k
    obtain ⟨fs, hr, hrun, hended, hW, hsame⟩ := X26.leave (v := some (.int (1 : Int32))) (fun h => by rw [Bd.returns] at h; cases h)
    refine ⟨_, _, pre27 _ ?_, hrun, hended, _, _, rfl, ?_, ⟨_, rfl⟩, hW, hsame.mono (by decide) (by decide)⟩
    · exact retN X26 hx (t := .boolean) Bd.returns (by simp) (hb hby at_155) hr
    · show ((_ : Option Value) = some (.int 1) ∧ Fr n0 _)
      exact ⟨rfl, N26⟩
  · have rm1' := rm1 l Z a0 hw [] cp h18 n0 (Nat.le_of_lt (Nat.lt_of_le_of_lt gb VE.lt))
    rw [hn] at rm1'
    obtain ⟨_, _, ⟨T28, L28, k28, n28⟩, -, X28, ⟨Lc28, hQ28, l28, y28, z28⟩, st28⟩ := Jvm.LawKit.callS X18 hx (y := (⟨"com/example/nomos/nomos/schema/TextType", "utf8Length", "(I)I"⟩ : MethodName)) hown (mvT hZ (hw _ (List.mem_of_getElem? (i := 4) rfl))) (mvT hZ (hw _ (List.mem_of_getElem? (i := 5) rfl))) (mvT hZ (hw _ (List.mem_of_getElem? (i := 6) rfl))) (mvT hZ (hw _ (List.mem_of_getElem? (i := 7) rfl))) (by decide) (backOf (W := 0) (rm1') hZ (hw _ (List.mem_of_getElem? (i := 7) rfl)) (hw _ (List.mem_of_getElem? (i := 6) rfl)) (by decide) (by decide)) (g := (mkF m 77 #[.val (.int p1), .val (.int p2), .val (.ref b2), .val (.int (p2 &&& (15 : Int32))), .val (.int cp), .unset, .unset, .unset] [(.int cp)])) rfl (by rw [hml]; rfl) (argsL := [(.int cp)]) (rest := []) (lenOf own_pd0 rfl) rfl (by show 2 * 0 + _ ≤ _; exact Nat.le_of_eq rfl) (hb hby at_77) (fun _ _ => ⟨rfl, e18, (by decide : 1 + 0 ≤ _), (by decide : 8 + 0 ≤ _)⟩)
    dsimp only [Pt.U, Pt.locs, Pt.cells, Pt.slots] at X28 l28 y28 z28 st28 hQ28
    subst l28 y28 z28
    obtain ⟨rfl, Nq28, eh1⟩ := hQ28
    have N28 := Fr.app N18 Nq28
    have pre28 : ∀ t, Steps p.tables e below (T28.setTop (mkF m 80 #[.val (.int p1), .val (.int p2), .val (.ref b2), .val (.int (p2 &&& (15 : Int32))), .val (.int cp), .unset, .unset, .unset] [(.int nn)])) t → Steps p.tables e below (s₁.setTop (entryFrame m #[(.int p1), (.int p2)] maxLocals)) t := fun t k => pre23 t (st28 t k)
    have pre29 : ∀ t, Steps p.tables e below (T28.setTop (mkF m 85 #[.val (.int p1), .val (.int p2), .val (.ref b2), .val (.int (p2 &&& (15 : Int32))), .val (.int cp), .val (.int nn), .unset, .unset] [(.int (1 : Int32)), (.int nn)])) t → Steps p.tables e below (s₁.setTop (entryFrame m #[(.int p1), (.int p2)] maxLocals)) t := by
      intro t k
      refine pre28 _ ?_
      refine XS.istore X28.here hx rfl (hb hby at_80) rfl (l' := #[.val (.int p1), .val (.int p2), .val (.ref b2), .val (.int (p2 &&& (15 : Int32))), .val (.int cp), .val (.int nn), .unset, .unset]) rfl ?_
      show Steps p.tables e below (T28.setTop (mkF m 82 #[.val (.int p1), .val (.int p2), .val (.ref b2), .val (.int (p2 &&& (15 : Int32))), .val (.int cp), .val (.int nn), .unset, .unset] [])) _
      refine XS.iload X28.here hx rfl (hb hby at_82) rfl ?_
      show Steps p.tables e below (T28.setTop (mkF m 84 #[.val (.int p1), .val (.int p2), .val (.ref b2), .val (.int (p2 &&& (15 : Int32))), .val (.int cp), .val (.int nn), .unset, .unset] [(.int nn)])) _
      refine XS.iconst X28.here hx rfl (hb hby at_84) ?_
      show Steps p.tables e below (T28.setTop (mkF m 85 #[.val (.int p1), .val (.int p2), .val (.ref b2), .val (.int (p2 &&& (15 : Int32))), .val (.int cp), .val (.int nn), .unset, .unset] [(.int (1 : Int32)), (.int nn)])) _
      exact k
    have q1 : ¬ nn < (1 : Int32) := by rcases hn' with rfl | rfl | rfl <;> decide
    have q4 : ¬ (4 : Int32) < nn := by rcases hn' with rfl | rfl | rfl <;> decide
    have q0 : ¬ nn = (1 : Int32) := by rcases hn' with rfl | rfl | rfl <;> decide
    have pre30 : ∀ t, Steps p.tables e below (T28.setTop (mkF m 100 #[.val (.int p1), .val (.int p2), .val (.ref b2), .val (.int (p2 &&& (15 : Int32))), .val (.int cp), .val (.int nn), .unset, .unset] [(.int nn), (.int cp)])) t → Steps p.tables e below (s₁.setTop (entryFrame m #[(.int p1), (.int p2)] maxLocals)) t := by
      intro t k
      refine pre29 _ ?_
      refine XS.icmpNo X28.here hx rfl (hb hby at_85) rfl (flt q1).1 ?_
      show Steps p.tables e below (T28.setTop (mkF m 88 #[.val (.int p1), .val (.int p2), .val (.ref b2), .val (.int (p2 &&& (15 : Int32))), .val (.int cp), .val (.int nn), .unset, .unset] [])) _
      refine XS.iload X28.here hx rfl (hb hby at_88) rfl ?_
      show Steps p.tables e below (T28.setTop (mkF m 90 #[.val (.int p1), .val (.int p2), .val (.ref b2), .val (.int (p2 &&& (15 : Int32))), .val (.int cp), .val (.int nn), .unset, .unset] [(.int nn)])) _
      refine XS.iconst X28.here hx rfl (hb hby at_90) ?_
      show Steps p.tables e below (T28.setTop (mkF m 91 #[.val (.int p1), .val (.int p2), .val (.ref b2), .val (.int (p2 &&& (15 : Int32))), .val (.int cp), .val (.int nn), .unset, .unset] [(.int (4 : Int32)), (.int nn)])) _
      refine XS.icmpYes X28.here hx rfl (pc0 := 91) (pc' := 96) rfl (hb hby at_91) rfl (flt q4).2.2.2 (by decide) (by decide) ?_
      show Steps p.tables e below (T28.setTop (mkF m 96 #[.val (.int p1), .val (.int p2), .val (.ref b2), .val (.int (p2 &&& (15 : Int32))), .val (.int cp), .val (.int nn), .unset, .unset] [])) _
      refine XS.iload X28.here hx rfl (hb hby at_96) rfl ?_
      show Steps p.tables e below (T28.setTop (mkF m 98 #[.val (.int p1), .val (.int p2), .val (.ref b2), .val (.int (p2 &&& (15 : Int32))), .val (.int cp), .val (.int nn), .unset, .unset] [(.int cp)])) _
      refine XS.iload X28.here hx rfl (hb hby at_98) rfl ?_
      show Steps p.tables e below (T28.setTop (mkF m 100 #[.val (.int p1), .val (.int p2), .val (.ref b2), .val (.int (p2 &&& (15 : Int32))), .val (.int cp), .val (.int nn), .unset, .unset] [(.int nn), (.int cp)])) _
      exact k
    obtain ⟨_, _, ⟨T31, L31, k31, n31⟩, -, X31, ⟨Lc31, hQ31, l31, y31, z31⟩, st31⟩ := Jvm.LawKit.callS X28 hx (y := (⟨"com/example/nomos/nomos/schema/TextTypeUtf8LengthPinLaw", "payloadBits", "(I)I"⟩ : MethodName)) hown (mvT hZ (hw _ (List.mem_of_getElem? (i := 8) rfl))) (mvT hZ (hw _ (List.mem_of_getElem? (i := 9) rfl))) (mvT hZ (hw _ (List.mem_of_getElem? (i := 10) rfl))) (mvT hZ (hw _ (List.mem_of_getElem? (i := 11) rfl))) (by decide) (backOf (W := 1) (rm2 l Z a0 hw [] nn h18 n0 (Nat.le_of_lt (Nat.lt_of_le_of_lt gb VE.lt))) hZ (hw _ (List.mem_of_getElem? (i := 11) rfl)) (hw _ (List.mem_of_getElem? (i := 10) rfl)) (by decide) (by decide)) (g := (mkF m 100 #[.val (.int p1), .val (.int p2), .val (.ref b2), .val (.int (p2 &&& (15 : Int32))), .val (.int cp), .val (.int nn), .unset, .unset] [(.int nn), (.int cp)])) rfl (by rw [hml]; rfl) (argsL := [(.int nn)]) (rest := [(.int cp)]) (lenOf own_pd0 rfl) rfl (by show 2 * 0 + _ ≤ _; exact Nat.le_of_eq rfl) (hb hby at_100) (fun _ _ => ⟨rfl, eh1, (by decide : 1 + 0 ≤ _), (by decide : 8 + 0 ≤ _)⟩)
    dsimp only [Pt.U, Pt.locs, Pt.cells, Pt.slots] at X31 l31 y31 z31 st31 hQ31
    subst l31 y31 z31
    obtain ⟨rfl, Nq31, eh2⟩ := hQ31
    have N31 := Fr.app N28 Nq31
    have pre31 : ∀ t, Steps p.tables e below (T31.setTop (mkF m 103 #[.val (.int p1), .val (.int p2), .val (.ref b2), .val (.int (p2 &&& (15 : Int32))), .val (.int cp), .val (.int nn), .unset, .unset] [(.int (own_pb nn)), (.int cp)])) t → Steps p.tables e below (s₁.setTop (entryFrame m #[(.int p1), (.int p2)] maxLocals)) t := fun t k => pre30 t (st31 t k)
    have pre32 : ∀ t, Steps p.tables e below (T31.setTop (mkF m 126 #[.val (.int p1), .val (.int p2), .val (.ref b2), .val (.int (p2 &&& (15 : Int32))), .val (.int cp), .val (.int nn), .val (.int (1 : Int32)), .unset] [(.int (nn - (1 : Int32))), (.int cp)])) t → Steps p.tables e below (s₁.setTop (entryFrame m #[(.int p1), (.int p2)] maxLocals)) t := by
      intro t k
      refine pre31 _ ?_
      refine XS.ishr X31.here hx rfl (hb hby at_103) rfl ?_
      show Steps p.tables e below (T31.setTop (mkF m 104 #[.val (.int p1), .val (.int p2), .val (.ref b2), .val (.int (p2 &&& (15 : Int32))), .val (.int cp), .val (.int nn), .unset, .unset] [(.int (cp >>> ((own_pb nn) &&& 31)))])) _
      refine XS.ifNo X31.here hx rfl (hb hby at_104) rfl ((if0 _ _).trans (teq hf).2) ?_
      show Steps p.tables e below (T31.setTop (mkF m 107 #[.val (.int p1), .val (.int p2), .val (.ref b2), .val (.int (p2 &&& (15 : Int32))), .val (.int cp), .val (.int nn), .unset, .unset] [])) _
      refine XS.iconst X31.here hx rfl (hb hby at_107) ?_
      show Steps p.tables e below (T31.setTop (mkF m 108 #[.val (.int p1), .val (.int p2), .val (.ref b2), .val (.int (p2 &&& (15 : Int32))), .val (.int cp), .val (.int nn), .unset, .unset] [(.int (1 : Int32))])) _
      refine XS.goto X31.here hx rfl (pc0 := 108) (pc' := 112) rfl (hb hby at_108) (by decide) (by decide) ?_
      show Steps p.tables e below (T31.setTop (mkF m 112 #[.val (.int p1), .val (.int p2), .val (.ref b2), .val (.int (p2 &&& (15 : Int32))), .val (.int cp), .val (.int nn), .unset, .unset] [(.int (1 : Int32))])) _
      refine XS.istore X31.here hx rfl (hb hby at_112) rfl (l' := #[.val (.int p1), .val (.int p2), .val (.ref b2), .val (.int (p2 &&& (15 : Int32))), .val (.int cp), .val (.int nn), .val (.int (1 : Int32)), .unset]) rfl ?_
      show Steps p.tables e below (T31.setTop (mkF m 114 #[.val (.int p1), .val (.int p2), .val (.ref b2), .val (.int (p2 &&& (15 : Int32))), .val (.int cp), .val (.int nn), .val (.int (1 : Int32)), .unset] [])) _
      refine XS.iload X31.here hx rfl (hb hby at_114) rfl ?_
      show Steps p.tables e below (T31.setTop (mkF m 116 #[.val (.int p1), .val (.int p2), .val (.ref b2), .val (.int (p2 &&& (15 : Int32))), .val (.int cp), .val (.int nn), .val (.int (1 : Int32)), .unset] [(.int nn)])) _
      refine XS.iconst X31.here hx rfl (hb hby at_116) ?_
      show Steps p.tables e below (T31.setTop (mkF m 117 #[.val (.int p1), .val (.int p2), .val (.ref b2), .val (.int (p2 &&& (15 : Int32))), .val (.int cp), .val (.int nn), .val (.int (1 : Int32)), .unset] [(.int (1 : Int32)), (.int nn)])) _
      refine XS.icmpNo X31.here hx rfl (hb hby at_117) rfl (feq q0).1 ?_
      show Steps p.tables e below (T31.setTop (mkF m 120 #[.val (.int p1), .val (.int p2), .val (.ref b2), .val (.int (p2 &&& (15 : Int32))), .val (.int cp), .val (.int nn), .val (.int (1 : Int32)), .unset] [])) _
      refine XS.iload X31.here hx rfl (hb hby at_120) rfl ?_
      show Steps p.tables e below (T31.setTop (mkF m 122 #[.val (.int p1), .val (.int p2), .val (.ref b2), .val (.int (p2 &&& (15 : Int32))), .val (.int cp), .val (.int nn), .val (.int (1 : Int32)), .unset] [(.int cp)])) _
      refine XS.iload X31.here hx rfl (hb hby at_122) rfl ?_
      show Steps p.tables e below (T31.setTop (mkF m 124 #[.val (.int p1), .val (.int p2), .val (.ref b2), .val (.int (p2 &&& (15 : Int32))), .val (.int cp), .val (.int nn), .val (.int (1 : Int32)), .unset] [(.int nn), (.int cp)])) _
      refine XS.iconst X31.here hx rfl (hb hby at_124) ?_
      show Steps p.tables e below (T31.setTop (mkF m 125 #[.val (.int p1), .val (.int p2), .val (.ref b2), .val (.int (p2 &&& (15 : Int32))), .val (.int cp), .val (.int nn), .val (.int (1 : Int32)), .unset] [(.int (1 : Int32)), (.int nn), (.int cp)])) _
      refine XS.isub X31.here hx rfl (hb hby at_125) rfl ?_
      show Steps p.tables e below (T31.setTop (mkF m 126 #[.val (.int p1), .val (.int p2), .val (.ref b2), .val (.int (p2 &&& (15 : Int32))), .val (.int cp), .val (.int nn), .val (.int (1 : Int32)), .unset] [(.int (nn - (1 : Int32))), (.int cp)])) _
      exact k
    obtain ⟨_, _, ⟨T33, L33, k33, n33⟩, -, X33, ⟨Lc33, hQ33, l33, y33, z33⟩, st33⟩ := Jvm.LawKit.callS X31 hx (y := (⟨"com/example/nomos/nomos/schema/TextTypeUtf8LengthPinLaw", "payloadBits", "(I)I"⟩ : MethodName)) hown (mvT hZ (hw _ (List.mem_of_getElem? (i := 8) rfl))) (mvT hZ (hw _ (List.mem_of_getElem? (i := 9) rfl))) (mvT hZ (hw _ (List.mem_of_getElem? (i := 10) rfl))) (mvT hZ (hw _ (List.mem_of_getElem? (i := 11) rfl))) (by decide) (backOf (W := 1) (rm2 l Z a0 hw [] (nn - 1) h18 n0 (Nat.le_of_lt (Nat.lt_of_le_of_lt gb VE.lt))) hZ (hw _ (List.mem_of_getElem? (i := 11) rfl)) (hw _ (List.mem_of_getElem? (i := 10) rfl)) (by decide) (by decide)) (g := (mkF m 126 #[.val (.int p1), .val (.int p2), .val (.ref b2), .val (.int (p2 &&& (15 : Int32))), .val (.int cp), .val (.int nn), .val (.int (1 : Int32)), .unset] [(.int (nn - (1 : Int32))), (.int cp)])) rfl (by rw [hml]; rfl) (argsL := [(.int (nn - (1 : Int32)))]) (rest := [(.int cp)]) (lenOf own_pd0 rfl) rfl (by show 2 * 0 + _ ≤ _; exact Nat.le_of_eq rfl) (hb hby at_126) (fun _ _ => ⟨rfl, eh2, (by decide : 1 + 0 ≤ _), (by decide : 8 + 0 ≤ _)⟩)
    dsimp only [Pt.U, Pt.locs, Pt.cells, Pt.slots] at X33 l33 y33 z33 st33 hQ33
    subst l33 y33 z33
    obtain ⟨rfl, Nq33, eh3⟩ := hQ33
    have N33 := Fr.app N31 Nq33
    have pre33 : ∀ t, Steps p.tables e below (T33.setTop (mkF m 129 #[.val (.int p1), .val (.int p2), .val (.ref b2), .val (.int (p2 &&& (15 : Int32))), .val (.int cp), .val (.int nn), .val (.int (1 : Int32)), .unset] [(.int (own_pb (nn - (1 : Int32)))), (.int cp)])) t → Steps p.tables e below (s₁.setTop (entryFrame m #[(.int p1), (.int p2)] maxLocals)) t := fun t k => pre32 t (st33 t k)
    have pre34 : ∀ t, Steps p.tables e below (T33.setTop (mkF m 155 #[.val (.int p1), .val (.int p2), .val (.ref b2), .val (.int (p2 &&& (15 : Int32))), .val (.int cp), .val (.int nn), .val (.int (1 : Int32)), .val (.int (1 : Int32))] [(.int (1 : Int32))])) t → Steps p.tables e below (s₁.setTop (entryFrame m #[(.int p1), (.int p2)] maxLocals)) t := by
      intro t k
      refine pre33 _ ?_
      refine XS.ishr X33.here hx rfl (hb hby at_129) rfl ?_
      show Steps p.tables e below (T33.setTop (mkF m 130 #[.val (.int p1), .val (.int p2), .val (.ref b2), .val (.int (p2 &&& (15 : Int32))), .val (.int cp), .val (.int nn), .val (.int (1 : Int32)), .unset] [(.int (cp >>> ((own_pb (nn - (1 : Int32))) &&& 31)))])) _
      refine XS.ifNo X33.here hx rfl (hb hby at_130) rfl ((if0 _ _).trans (feq hm).1) ?_
      show Steps p.tables e below (T33.setTop (mkF m 133 #[.val (.int p1), .val (.int p2), .val (.ref b2), .val (.int (p2 &&& (15 : Int32))), .val (.int cp), .val (.int nn), .val (.int (1 : Int32)), .unset] [])) _
      refine XS.iconst X33.here hx rfl (hb hby at_133) ?_
      show Steps p.tables e below (T33.setTop (mkF m 134 #[.val (.int p1), .val (.int p2), .val (.ref b2), .val (.int (p2 &&& (15 : Int32))), .val (.int cp), .val (.int nn), .val (.int (1 : Int32)), .unset] [(.int (1 : Int32))])) _
      refine XS.goto X33.here hx rfl (pc0 := 134) (pc' := 138) rfl (hb hby at_134) (by decide) (by decide) ?_
      show Steps p.tables e below (T33.setTop (mkF m 138 #[.val (.int p1), .val (.int p2), .val (.ref b2), .val (.int (p2 &&& (15 : Int32))), .val (.int cp), .val (.int nn), .val (.int (1 : Int32)), .unset] [(.int (1 : Int32))])) _
      refine XS.istore X33.here hx rfl (hb hby at_138) rfl (l' := #[.val (.int p1), .val (.int p2), .val (.ref b2), .val (.int (p2 &&& (15 : Int32))), .val (.int cp), .val (.int nn), .val (.int (1 : Int32)), .val (.int (1 : Int32))]) rfl ?_
      show Steps p.tables e below (T33.setTop (mkF m 140 #[.val (.int p1), .val (.int p2), .val (.ref b2), .val (.int (p2 &&& (15 : Int32))), .val (.int cp), .val (.int nn), .val (.int (1 : Int32)), .val (.int (1 : Int32))] [])) _
      refine XS.iload X33.here hx rfl (hb hby at_140) rfl ?_
      show Steps p.tables e below (T33.setTop (mkF m 142 #[.val (.int p1), .val (.int p2), .val (.ref b2), .val (.int (p2 &&& (15 : Int32))), .val (.int cp), .val (.int nn), .val (.int (1 : Int32)), .val (.int (1 : Int32))] [(.int (1 : Int32))])) _
      refine XS.ifNo X33.here hx rfl (hb hby at_142) rfl ((if0 _ _).trans (feq (by decide)).1) ?_
      show Steps p.tables e below (T33.setTop (mkF m 145 #[.val (.int p1), .val (.int p2), .val (.ref b2), .val (.int (p2 &&& (15 : Int32))), .val (.int cp), .val (.int nn), .val (.int (1 : Int32)), .val (.int (1 : Int32))] [])) _
      refine XS.iload X33.here hx rfl (hb hby at_145) rfl ?_
      show Steps p.tables e below (T33.setTop (mkF m 147 #[.val (.int p1), .val (.int p2), .val (.ref b2), .val (.int (p2 &&& (15 : Int32))), .val (.int cp), .val (.int nn), .val (.int (1 : Int32)), .val (.int (1 : Int32))] [(.int (1 : Int32))])) _
      refine XS.ifNo X33.here hx rfl (hb hby at_147) rfl ((if0 _ _).trans (feq (by decide)).1) ?_
      show Steps p.tables e below (T33.setTop (mkF m 150 #[.val (.int p1), .val (.int p2), .val (.ref b2), .val (.int (p2 &&& (15 : Int32))), .val (.int cp), .val (.int nn), .val (.int (1 : Int32)), .val (.int (1 : Int32))] [])) _
      refine XS.iconst X33.here hx rfl (hb hby at_150) ?_
      show Steps p.tables e below (T33.setTop (mkF m 151 #[.val (.int p1), .val (.int p2), .val (.ref b2), .val (.int (p2 &&& (15 : Int32))), .val (.int cp), .val (.int nn), .val (.int (1 : Int32)), .val (.int (1 : Int32))] [(.int (1 : Int32))])) _
      refine XS.goto X33.here hx rfl (pc0 := 151) (pc' := 155) rfl (hb hby at_151) (by decide) (by decide) ?_
      show Steps p.tables e below (T33.setTop (mkF m 155 #[.val (.int p1), .val (.int p2), .val (.ref b2), .val (.int (p2 &&& (15 : Int32))), .val (.int cp), .val (.int nn), .val (.int (1 : Int32)), .val (.int (1 : Int32))] [(.int (1 : Int32))])) _
      exact k
    obtain ⟨fs, hr, hrun, hended, hW, hsame⟩ := X33.leave (v := some (.int (1 : Int32))) (fun h => by rw [Bd.returns] at h; cases h)
    refine ⟨_, _, pre34 _ ?_, hrun, hended, _, _, rfl, ?_, ⟨_, rfl⟩, hW, hsame.mono (by decide) (by decide)⟩
    · exact retN X33 hx (t := .boolean) Bd.returns (by simp) (hb hby at_155) hr
    · show ((_ : Option Value) = some (.int 1) ∧ Fr n0 _)
      exact ⟨rfl, N33⟩
set_option maxRecDepth 65536 in
set_option maxHeartbeats 40000000 in
theorem comes_1 {Post : Tables → Env → Array Value → State → Outcome → State → Prop} (hpost : ∀ tb e args s v u, (limb_1_1.after args s (.returned v) u = true ∧ limb_1_2.after args s (.returned v) u = true ∧ True) → FrameEnd s (.returned v) u (Jvm.fieldLocs frame_1_writes args s ++ Jvm.arrayLocs frame_1_arrays args s ++ Jvm.staticLocs frame_1_statics s) 16 128 → Post tb e args s (.returned v) u) :
    ArmFor flags0 classFile x code maxLocals ret World_1 tables_1 room_1 Calls_1 rest_1 Pre_1 Post := by
  intro l hfl _ _ p e ha hc hk s m args below hf hA hF happ hP
  obtain ⟨hcalls, hrest, hpre⟩ := hP
  obtain ⟨-, -, -, hnamed, -, -, -, hat⟩ := (Spec.applies_iff hf).mp happ
  obtain ⟨hg, hn⟩ := and_e (Cond.before_iff.mp (show (Jvm.Cond.and given_1 narrow_1).before args s = true from hpre))
  obtain ⟨g1, g2⟩ := and_e hg
  obtain ⟨g3, g4⟩ := and_e g2
  obtain ⟨w0, w1, rfl⟩ : ∃ w0 w1 : Value, args = #[w0, w1] := by
    have hs : args.size = 2 := by simpa [Cond.value, given_1] using g1
    obtain ⟨L⟩ := args
    match L, hs with
    | [w0, w1], _ => exact ⟨w0, w1, rfl⟩
  have hw := fun d (hd : d ∈ tables_1) => atoms_spec (ws := Jvm.Cond.code x code maxLocals ret :: tables_1) hat d (List.mem_cons_of_mem _ hd)
  have hfit : Fit s := fun {y c} hc i hi => by
    obtain ⟨ha, rfl⟩ := Array.getElem?_eq_some_iff.mp hc
    have q := List.all_eq_true.mp ((Array.all_eq_true_iff_forall_mem.mp hF) _ (Array.getElem_mem ha)) i (List.mem_range.mpr hi)
    simpa [Array.getElem?_eq_getElem hi] using q
  obtain ⟨i0, ei0⟩ := is_v g3
  obtain rfl : w0 = (.int i0) := Option.some.inj ei0
  obtain ⟨i1, ei1⟩ := is_v g4
  obtain rfl : w1 = (.int i1) := Option.some.inj ei1
  obtain ⟨n, o, h1, h2, h3, _, L, rfl, ⟨rfl, N⟩, hq⟩ := rm0 l s _ hw tables_1 i0 i1 s.heap s.heap.size (Nat.le_refl _) p e ha hc hk s m _ below hf ((Spec.applies_iff_loose hf).mp happ).1 ⟨rfl, State.Warmed39.refl s, rfl⟩ trivial
  refine ⟨n, _, h1, h2, h3, hpost _ _ _ _ _ _ ⟨Cond.after_iff.mpr rfl, Cond.after_iff.mpr (eq_i res_at (Term.int_eval (1)) rfl), trivial⟩ ⟨hq.1, hq.2.1, (hq.2.2.sift fun y hy => Or.inr (N y hy)).mono (by decide) (by decide)⟩⟩
theorem main_1_1 : Claimed_1_1 := comes_1 fun _ _ _ _ _ _ h hF => ⟨h.1, hF⟩
theorem main_1_2 : Claimed_1_2 := comes_1 fun _ _ _ _ _ _ h hF => ⟨h.2.1, hF⟩
end Jvm.Pilot.@@N@@
namespace Jvm.Pilot.@@N@@
open Jvm Jvm.ClassFile Sem Op Lib Jvm.Free Jvm.Stand Jvm.Pilot.@@N@@.Jvm.D
/-! MADE BY PROGRAM (witnessworld.py) out of the Statement's table words and the real class files: 10 classes; the members and pool entries that the words name. The judged class is class 1, her method 2. -/
namespace start1
open Jvm.ClassFile
def u (s : String) : CpInfo := .utf8 (stringToUtf16 s)
/-- a pool by its gaps: so many unusable entries, then the entry; so many at the end -/
def gap : Nat → List CpInfo → List CpInfo
  | 0, r => r
  | n + 1, r => .unusable :: gap n r
def poolList (es : List (Nat × CpInfo)) (last : Nat) : List CpInfo := es.foldr (fun e r => gap e.1 (e.2 :: r)) (gap last [])
def pool (es : List (Nat × CpInfo)) (last : Nat) : Array CpInfo := ⟨poolList es last⟩
def fileOf (pool : Array CpInfo) (this : Nat) (attrs : Array Attribute := #[]) (ms : Array MethodInfo := #[]) (fl : Nat := 33) (sup : Nat := 0) (ifs : Array Nat := #[]) (fds : Array FieldInfo := #[]) : ClassFile where
  minorVersion := 0
  majorVersion := 65
  constantPool := pool
  accessFlags := fl
  thisClass := this
  superClass := sup
  interfaces := ifs
  fields := fds
  methods := ms
  attributes := attrs
def plain (name : String) (sup : Option ClassId) : Class where
  name := name
  kind := .ordinary
  loader := none
  accessFlags := 33
  super := sup
  interfaces := #[]
  cf := none
  fields := #[]
  methods := #[]
  instanceTypes := #[]
  staticTypes := #[]
  resolved := #[]
  callSites := []
  init := .initialized
  statics := none
  mirror := none

def pool0 : Array CpInfo := pool [(5, u "<init>"), (0, u "()V"), (1, .class_ 10), (1, u "java/lang/Object")] 113

def k0m0 : Method := { name := "<init>", desc := "()V", sig := { parameters := [], returnType := none }, accessFlags := 1, code := none }
/-- java/lang/Object -/
def k0 : Class := { plain "java/lang/Object" none with
  accessFlags := 33
  interfaces := #[]
  cf := some (fileOf pool0 8 #[] #[{ accessFlags := 1, nameIndex := 5, descriptorIndex := 6, attributes := #[] }] 33 0 #[] #[])
  fields := #[]
  methods := #[k0m0]
  instanceTypes := #[]
  staticTypes := #[]
  resolved := Array.replicate 124 none
  statics := none }

def pool1 : Array CpInfo := pool [(2, .class_ 4), (1, u "java/lang/Object"), (0, u "<init>"), (0, u "()V"), (0, .integer 65535), (0, .integer 65536), (0, .integer 1114111), (0, .integer 2147483647), (0, .integer 1114112), (0, .methodref 13 14), (0, .class_ 15), (0, .nameAndType 16 17), (0, u "com/example/nomos/nomos/schema/TextType"), (0, u "utf8Length"), (0, u "(I)I"), (0, .methodref 19 20), (0, .class_ 21), (0, .nameAndType 22 17), (0, u "com/example/nomos/nomos/schema/TextTypeUtf8LengthPinLaw"), (0, u "payloadBits"), (3, u "law"), (0, u "(II)Z")] 4

def k1m0 : Method := { name := "<init>", desc := "()V", sig := { parameters := [], returnType := none }, accessFlags := 2, code := none }
def k1c1 : Code := { maxStack := 2, maxLocals := 1, code := method_2_code, exceptionTable := #[], attributes := #[] }
def k1m1 : Method := { name := "payloadBits", desc := "(I)I", sig := { parameters := [.int], returnType := some .int }, accessFlags := 10, code := some k1c1 }
def k1c2 : Code := { maxStack := 4, maxLocals := 8, code := code, exceptionTable := #[], attributes := #[] }
def k1m2 : Method := { name := "law", desc := "(II)Z", sig := { parameters := [.int, .int], returnType := some .boolean }, accessFlags := 9, code := some k1c2 }
/-- com/example/nomos/nomos/schema/TextTypeUtf8LengthPinLaw -/
def k1 : Class := { plain "com/example/nomos/nomos/schema/TextTypeUtf8LengthPinLaw" (some 0) with
  accessFlags := 49
  interfaces := #[]
  cf := some (fileOf pool1 19 #[] #[{ accessFlags := 2, nameIndex := 5, descriptorIndex := 6, attributes := #[] }, { accessFlags := 10, nameIndex := 22, descriptorIndex := 17, attributes := #[] }, { accessFlags := 9, nameIndex := 26, descriptorIndex := 27, attributes := #[] }] 49 2 #[] #[])
  fields := #[]
  methods := #[k1m0, k1m1, k1m2]
  instanceTypes := #[]
  staticTypes := #[]
  resolved := Array.replicate 32 none
  statics := none }

def pool2 : Array CpInfo := pool [(1, .class_ 2), (0, u "java/lang/Cloneable"), (0, .class_ 4), (0, u "java/lang/Object")] 2

/-- java/lang/Cloneable -/
def k2 : Class := { plain "java/lang/Cloneable" (some 0) with
  accessFlags := 1537
  interfaces := #[]
  cf := some (fileOf pool2 1 #[] #[] 1537 3 #[] #[])
  fields := #[]
  methods := #[]
  instanceTypes := #[]
  staticTypes := #[]
  resolved := Array.replicate 7 none
  statics := none }

def pool3 : Array CpInfo := pool [(2, .class_ 4), (1, u "java/lang/Object"), (3, .class_ 10), (1, u "com/example/nomos/nomos/schema/ColumnType"), (0, u "name"), (0, u "Ljava/lang/String;"), (13, .class_ 27), (0, u "java/lang/Cloneable")] 17

/-- com/example/nomos/nomos/schema/ColumnType -/
def k3 : Class := { plain "com/example/nomos/nomos/schema/ColumnType" (some 0) with
  accessFlags := 1057
  interfaces := #[2]
  cf := some (fileOf pool3 8 #[] #[] 1057 2 #[26] #[{ accessFlags := 2, nameIndex := 11, descriptorIndex := 12, attributes := #[] }])
  fields := #[{ name := "name", type := (.object "java/lang/String"), accessFlags := 2, slot := 0, constantValue := 0 }]
  methods := #[]
  instanceTypes := #[(.object "java/lang/String")]
  staticTypes := #[]
  resolved := Array.replicate 45 none
  statics := none }

def pool4 : Array CpInfo := pool [(2, .class_ 4), (1, u "com/example/nomos/nomos/schema/TextType$CaseMapping"), (1, u "Lcom/example/nomos/nomos/schema/TextType$CaseMapping;"), (1, .class_ 10), (1, u "com/example/nomos/nomos/schema/TextType$Blanks"), (1, u "Lcom/example/nomos/nomos/schema/TextType$Blanks;"), (1, .class_ 16), (1, u "com/example/nomos/nomos/schema/TextType$PadAttribute"), (1, u "Lcom/example/nomos/nomos/schema/TextType$PadAttribute;"), (1, .class_ 22), (1, u "com/example/nomos/nomos/schema/TextType"), (3, .class_ 28), (1, u "com/example/nomos/nomos/schema/ColumnType"), (3, u "maxLength"), (0, u "I"), (2, u "unit"), (0, u "Lcom/example/nomos/nomos/schema/TextType$LengthUnit;"), (2, u "caseMapping"), (2, u "blanks"), (2, u "padAttribute"), (43, .class_ 92), (1, u "com/example/nomos/nomos/schema/TextType$LengthUnit"), (18, .integer 65536), (3, u "(I)I"), (36, u "utf8Length")] 24

def k4c0 : Code := { maxStack := 2, maxLocals := 2, code := prog_133_method_19_code, exceptionTable := #[], attributes := #[] }
def k4m0 : Method := { name := "utf8Length", desc := "(I)I", sig := { parameters := [.int], returnType := some .int }, accessFlags := 9, code := some k4c0 }
/-- com/example/nomos/nomos/schema/TextType -/
def k4 : Class := { plain "com/example/nomos/nomos/schema/TextType" (some 3) with
  accessFlags := 33
  interfaces := #[]
  cf := some (fileOf pool4 20 #[.nestMembers #[90, 14, 8, 2]] #[{ accessFlags := 9, nameIndex := 152, descriptorIndex := 115, attributes := #[] }] 33 26 #[] #[{ accessFlags := 18, nameIndex := 32, descriptorIndex := 33, attributes := #[] }, { accessFlags := 18, nameIndex := 36, descriptorIndex := 37, attributes := #[] }, { accessFlags := 18, nameIndex := 40, descriptorIndex := 6, attributes := #[] }, { accessFlags := 18, nameIndex := 43, descriptorIndex := 12, attributes := #[] }, { accessFlags := 18, nameIndex := 46, descriptorIndex := 18, attributes := #[] }])
  fields := #[{ name := "maxLength", type := .int, accessFlags := 18, slot := 1, constantValue := 0 }, { name := "unit", type := (.object "com/example/nomos/nomos/schema/TextType$LengthUnit"), accessFlags := 18, slot := 2, constantValue := 0 }, { name := "caseMapping", type := (.object "com/example/nomos/nomos/schema/TextType$CaseMapping"), accessFlags := 18, slot := 3, constantValue := 0 }, { name := "blanks", type := (.object "com/example/nomos/nomos/schema/TextType$Blanks"), accessFlags := 18, slot := 4, constantValue := 0 }, { name := "padAttribute", type := (.object "com/example/nomos/nomos/schema/TextType$PadAttribute"), accessFlags := 18, slot := 5, constantValue := 0 }]
  methods := #[k4m0]
  instanceTypes := #[(.object "java/lang/String"), .int, (.object "com/example/nomos/nomos/schema/TextType$LengthUnit"), (.object "com/example/nomos/nomos/schema/TextType$CaseMapping"), (.object "com/example/nomos/nomos/schema/TextType$Blanks"), (.object "com/example/nomos/nomos/schema/TextType$PadAttribute")]
  staticTypes := #[]
  resolved := Array.replicate 177 none
  statics := none }

def pool5 : Array CpInfo := pool [(1, u "java/io/Serializable"), (0, .class_ 1), (0, u "java/lang/Object"), (0, .class_ 3)] 3

/-- java/io/Serializable -/
def k5 : Class := { plain "java/io/Serializable" (some 0) with
  accessFlags := 1537
  interfaces := #[]
  cf := some (fileOf pool5 2 #[] #[] 1537 4 #[] #[])
  fields := #[]
  methods := #[]
  instanceTypes := #[]
  staticTypes := #[]
  resolved := Array.replicate 8 none
  statics := none }

/-- the primitive byte -/
def k6 : Class := { plain "byte" none with kind := .primitive 'B', accessFlags := 0x411 }
/-- [B -/
def k7 : Class := { plain "[B" (some 0) with kind := .array 6 .byte, interfaces := #[2, 5], accessFlags := 1041 }

/-- the primitive int -/
def k8 : Class := { plain "int" none with kind := .primitive 'I', accessFlags := 0x411 }
/-- [I -/
def k9 : Class := { plain "[I" (some 0) with kind := .array 8 .int, interfaces := #[2, 5], accessFlags := 1041 }

def heap : Heap := #[]
def classes : Array Class := #[k0, k1, k2, k3, k4, k5, k6, k7, k8, k9]
def interned : List (Array UInt16 × Addr) := []
def slotsUsed : Nat := 0
def theMethod : MethodId := ⟨1, 2⟩
def args0 : Array Value := #[.int 5, .int 9]
def aboutOver (below : List Frame) : State where
  vm := { classes := classes, interned := interned.toArray }
  heap := heap
  slotsUsed := slotsUsed
  threads := #[{ frames := .invoking theMethod args0 :: below }]
def below0 : List Frame := [.native { method := ⟨0, 0⟩, args := #[] }]
def about1 : State := aboutOver below0
def p0 : Program := .bare "" "" ""
def e0 : Env := launch0.env 0 0 0
theorem w_frames : about1.frames = Frame.invoking theMethod args0 :: below0 := rfl
set_option maxRecDepth 65536 in
theorem w_args : argsFit about1.vm theMethod args0 = true := by decide +kernel
set_option maxRecDepth 65536 in
theorem w_heap : heapFits about1 = true := by decide +kernel
set_option maxRecDepth 65536 in
theorem w_runnable : about1.curStatus? = some .runnable := by decide +kernel
set_option maxRecDepth 65536 in
theorem w_alone : about1.alone = true := by decide +kernel
set_option maxRecDepth 65536 in
theorem w_named : about1.methodNamed? x = some theMethod := by decide +kernel
set_option maxRecDepth 65536 in
theorem w_hears : about1.hears theMethod below0 = true := by decide +kernel
set_option maxRecDepth 65536 in
theorem w_ripe : about1.ripe theMethod args0 below0 = true := by decide +kernel
theorem w_running : about1.status = .running := rfl
set_option maxRecDepth 65536 in
theorem w_room : about1.hasRoom e0.platform room_1 = true :=
  launch0.hasRoom_least _ room_1 (by decide +kernel) (by decide +kernel) (by decide +kernel) (by decide +kernel) (by decide +kernel) (by decide +kernel)
theorem allAtoms_all (ts : List Jvm.Cond) (a : Array Jvm.Value) (st : Jvm.State) : (allAtoms ts).before a st = ts.all (fun c => c.before a st) := by
  induction ts with
  | nil => rfl
  | cons c t ih =>
    show (Jvm.Cond.and c (allAtoms t)).before a st = _
    rw [Jvm.Cond.before_and, ih, List.all_cons]
def words1 : List Jvm.Cond := Jvm.Cond.code x code maxLocals ret :: tables_1
/-- a 'code' word, met by the world's own term for the bytes: nothing is compared byte by byte -/
theorem code_word {y : MethodName} {bytes : ByteArray} {mx : Nat} {rt : Option FieldType} {a : Array Value} {s : State} {m : MethodId} {meth : Method} {c : Code} (h1 : s.methodNamed? y = some m) (h2 : s.vm.method? m = some meth) (h3 : meth.code = some c) (h4 : c.code = bytes)
    (h5 : (c.maxLocals == mx && c.exceptionTable.isEmpty && decide (c.maxStack ≤ mostOperands) && decide (meth.sig.returnType = rt) && !meth.locks && decide (parseMethodDescriptor y.desc = some meth.sig)) = true) : (Jvm.Cond.code y bytes mx rt).before a s = true := by
  simp only [Bool.and_eq_true, beq_iff_eq, Bool.not_eq_true', decide_eq_true_eq] at h5
  obtain ⟨⟨⟨⟨⟨g1, g2⟩, g3⟩, g4⟩, g5⟩, g6⟩ := h5
  simp [Cond.before, Cond.holds, Cond.value, h1, h2, h3, h4, g1, g2, g3, g4, g5, g6]
def isCode : Jvm.Cond → Bool
  | .code _ _ _ _ => true
  | _ => false
theorem all_split {L : List Jvm.Cond} {P : Jvm.Cond → Bool} (h1 : L.all (fun c => isCode c || P c) = true) (h2 : ∀ c ∈ L.filter isCode, P c = true) : L.all P = true := by
  refine List.all_eq_true.mpr fun c hc => ?_
  have h := List.all_eq_true.mp h1 c hc
  rcases Bool.eq_false_or_eq_true (isCode c) with hi | hi
  · exact h2 c (List.mem_filter.mpr ⟨hc, hi⟩)
  · simpa [hi] using h
set_option maxRecDepth 65536 in
theorem w_c0 : (Jvm.Cond.code x code maxLocals ret).before args0 about1 = true := code_word (m := ⟨1, 2⟩) (meth := k1m2) (c := k1c2) (by decide +kernel) rfl rfl rfl (by decide +kernel)
set_option maxRecDepth 65536 in
theorem w_c1 : (Jvm.Cond.code ({ cls := "com/example/nomos/nomos/schema/TextType", name := "utf8Length", desc := "(I)I" } : Jvm.MethodName) prog_133_method_19_code (2 : Nat) (Option.some Jvm.ClassFile.FieldType.int)).before args0 about1 = true := code_word (m := ⟨4, 0⟩) (meth := k4m0) (c := k4c0) (by decide +kernel) rfl rfl rfl (by decide +kernel)
set_option maxRecDepth 65536 in
theorem w_c2 : (Jvm.Cond.code ({ cls := "com/example/nomos/nomos/schema/TextTypeUtf8LengthPinLaw", name := "payloadBits", desc := "(I)I" } : Jvm.MethodName) method_2_code (1 : Nat) (Option.some Jvm.ClassFile.FieldType.int)).before args0 about1 = true := code_word (m := ⟨1, 1⟩) (meth := k1m1) (c := k1c1) (by decide +kernel) rfl rfl rfl (by decide +kernel)
def codes1 : List Jvm.Cond := [Jvm.Cond.code x code maxLocals ret, Jvm.Cond.code ({ cls := "com/example/nomos/nomos/schema/TextType", name := "utf8Length", desc := "(I)I" } : Jvm.MethodName) prog_133_method_19_code (2 : Nat) (Option.some Jvm.ClassFile.FieldType.int), Jvm.Cond.code ({ cls := "com/example/nomos/nomos/schema/TextTypeUtf8LengthPinLaw", name := "payloadBits", desc := "(I)I" } : Jvm.MethodName) method_2_code (1 : Nat) (Option.some Jvm.ClassFile.FieldType.int)]
set_option maxRecDepth 65536 in
theorem codes_eq : words1.filter isCode = codes1 := rfl
theorem w_codes : ∀ c ∈ words1.filter isCode, c.before args0 about1 = true := by
  rw [codes_eq]
  intro c hc
  simp only [codes1, List.mem_cons, List.not_mem_nil, or_false] at hc
  rcases hc with rfl | rfl | rfl
  · exact w_c0
  · exact w_c1
  · exact w_c2
set_option maxRecDepth 65536 in
theorem w_t1 : words1.all (fun c => isCode c || c.before args0 about1) = true := by decide +kernel
theorem w_tables : (allAtoms (Jvm.Cond.code x code maxLocals ret :: tables_1)).before args0 about1 = true := by
  rw [allAtoms_all]
  show words1.all (fun c => c.before args0 about1) = true
  refine all_split ?_ w_codes
  rw [w_t1]
set_option maxRecDepth 65536 in
theorem w_case : (Jvm.Cond.and given_1 narrow_1).before args0 about1 = true := by decide +kernel
theorem w_applies : (headSpec (Jvm.Cond.code x code maxLocals ret :: tables_1) room_1).applies x e0.platform about1 = true :=
  (Spec.applies_iff w_frames).mpr ⟨w_running, w_runnable, w_alone, w_named, w_hears, w_ripe, w_room, w_tables⟩
theorem atStart : AtStart classFile x code maxLocals ret World_1 tables_1 room_1 Calls_1 rest_1 Pre_1 launch0 p0 e0 about1 theMethod args0 below0 :=
  ⟨lists_1, trivial, launch0.admits_env _ _ _, launch0.least_env, fairChoices_fair.cas, fairChoices_fair.clock, w_frames, w_args, w_heap, w_applies, trivial, trivial, w_case⟩
end start1
theorem witness_1 : WitnessClaimed_1 := ⟨start1.p0, start1.e0, start1.about1, start1.theMethod, start1.args0, start1.below0, start1.atStart⟩
end Jvm.Pilot.@@N@@
