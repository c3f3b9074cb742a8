import JvmDerived
import JvmDerived.Pilot.@@N@@Statement
import JvmDerived.Pilot.@@N@@Code
set_option linter.unusedVariables false
set_option linter.unusedSimpArgs false
namespace Jvm.RoadKit
open Sem ClassFile Op Lib Jvm.Stand Jvm.Free Jvm.LawKit
section New
variable {p : Program} {l : Launch} {e : Env} {R : Room} {s : State} {m : MethodId} {args : Array Value} {below : List Frame} {meth : Method} {c : Code} {T : State} {locs : List Loc} {cells slots : Nat}
theorem retI (X : Stand p l e R s m args below meth c T locs cells slots) (hx : p.tables.exec = Jvm.exec) {pc : Nat} {Ls : Array Slot} {z : Int32} {rest : List Value} (hret : meth.sig.returnType = some .int) (hd : decode c.code pc = .ok (.ireturn, 1)) {fs : List Frame}
    (hl : ∀ (f : JFrame) (acts : List Action), f.method = m → f.locked = none → f.entered = [] → (doReturn e (T.setTop f) acts (some (.int z))).1 = T.setFrames fs) : Steps p.tables e below (T.setTop (mkF m pc Ls (.int z :: rest))) (T.setFrames fs) := by
  have hm' : T.vm.method? m = some meth := X.method'
  have hn : narrow .int (.int z) = .int z := rfl
  show Steps p.tables e below (T.setTop { method := m, pc := pc, locals := Ls, stack := _ :: rest, locked := none }) _
  jvm_step X.here [X.here.top, hx, hd, hm', hret, hn]
  first | (intro acts; rw [hl _ acts rfl rfl rfl]) | rw [hl _ _ rfl rfl rfl]
  exact Steps.refl _
end New
end Jvm.RoadKit
namespace Jvm.Pilot.@@N@@
open Jvm Jvm.ClassFile Sem Op Lib Jvm.Free Jvm.Stand Jvm.LawKit Jvm.RoadKit Bundle Jvm.Pilot.@@N@@.Jvm.D
def own_ush (x : Int64) (s : Int32) : Int64 := ((x.toUInt64 >>> (s &&& 0x3f).toInt64.toUInt64).toInt64)
def own_shl (x : Int64) (s : Int32) : Int64 := (x <<< (s &&& 0x3f).toInt64)
def own_shr (x : Int64) (s : Int32) : Int64 := (x >>> (s &&& 0x3f).toInt64)
def own_iush (x s : Int32) : Int32 := ((x.toUInt32 >>> (s &&& 31).toUInt32).toInt32)
def own_ishl (x s : Int32) : Int32 := (x <<< (s &&& 31))
def own_ishr (x s : Int32) : Int32 := (x >>> (s &&& 31))
def own_lrem (x y : Int64) : Int64 := x - (x / y) * y
def own_c (x : Int32) : Int32 := x.toUInt32.toUInt16.toUInt32.toInt32
def own_it (v : Int32) : Int32 := if v < (32 : Int32) then (0 : Int32) else if (126 : Int32) < v then (0 : Int32) else if v = (44 : Int32) then (0 : Int32) else if v = (34 : Int32) then (0 : Int32) else if v = (42 : Int32) then (0 : Int32) else (1 : Int32)
theorem own_lit : (32 : Int32).toInt = 32 ∧ (33 : Int32).toInt = 33 ∧ (34 : Int32).toInt = 34 ∧ (35 : Int32).toInt = 35 ∧ (41 : Int32).toInt = 41 ∧ (42 : Int32).toInt = 42 ∧ (43 : Int32).toInt = 43 ∧ (44 : Int32).toInt = 44 ∧ (45 : Int32).toInt = 45 ∧ (126 : Int32).toInt = 126 := by decide
theorem own_eq (v : Int32) : own_it v = (if v < (32 : Int32) then (if v < (35 : Int32) then (if v = (43 : Int32) then (1 : Int32) else (if v < (45 : Int32) then (0 : Int32) else (if (126 : Int32) < v then (0 : Int32) else (1 : Int32)))) else (if (41 : Int32) < v then (if v = (43 : Int32) then (1 : Int32) else (if v < (45 : Int32) then (0 : Int32) else (if (126 : Int32) < v then (0 : Int32) else (1 : Int32)))) else (1 : Int32))) else (if (33 : Int32) < v then (if v < (35 : Int32) then (if v = (43 : Int32) then (1 : Int32) else (if v < (45 : Int32) then (0 : Int32) else (if (126 : Int32) < v then (0 : Int32) else (1 : Int32)))) else (if (41 : Int32) < v then (if v = (43 : Int32) then (1 : Int32) else (if v < (45 : Int32) then (0 : Int32) else (if (126 : Int32) < v then (0 : Int32) else (1 : Int32)))) else (1 : Int32))) else (1 : Int32))) := by
  obtain ⟨a1, a2, a3, a4, a5, a6, a7, a8, a9, a10⟩ := own_lit
  simp only [own_it, Int32.lt_iff_toInt_lt, ← Int32.toInt_inj, a1, a2, a3, a4, a5, a6, a7, a8, a9, a10]
  generalize v.toInt = t
  repeat' split
  all_goals first | rfl | omega
theorem d1_0 : decode prog_58_method_10_code 0 = .ok (.iload_n 0, 1) := by decide +kernel
theorem d1_1 : decode prog_58_method_10_code 1 = .ok (.bipush 32, 2) := by decide +kernel
theorem d1_3 : decode prog_58_method_10_code 3 = .ok (.if_icmp .lt 31, 3) := by decide +kernel
theorem d1_6 : decode prog_58_method_10_code 6 = .ok (.iload_n 0, 1) := by decide +kernel
theorem d1_7 : decode prog_58_method_10_code 7 = .ok (.bipush 126, 2) := by decide +kernel
theorem d1_9 : decode prog_58_method_10_code 9 = .ok (.if_icmp .gt 25, 3) := by decide +kernel
theorem d1_12 : decode prog_58_method_10_code 12 = .ok (.iload_n 0, 1) := by decide +kernel
theorem d1_13 : decode prog_58_method_10_code 13 = .ok (.bipush 44, 2) := by decide +kernel
theorem d1_15 : decode prog_58_method_10_code 15 = .ok (.if_icmp .eq 19, 3) := by decide +kernel
theorem d1_18 : decode prog_58_method_10_code 18 = .ok (.iload_n 0, 1) := by decide +kernel
theorem d1_19 : decode prog_58_method_10_code 19 = .ok (.bipush 34, 2) := by decide +kernel
theorem d1_21 : decode prog_58_method_10_code 21 = .ok (.if_icmp .eq 13, 3) := by decide +kernel
theorem d1_24 : decode prog_58_method_10_code 24 = .ok (.iload_n 0, 1) := by decide +kernel
theorem d1_25 : decode prog_58_method_10_code 25 = .ok (.bipush 42, 2) := by decide +kernel
theorem d1_27 : decode prog_58_method_10_code 27 = .ok (.if_icmp .eq 7, 3) := by decide +kernel
theorem d1_30 : decode prog_58_method_10_code 30 = .ok (.iconst 1, 1) := by decide +kernel
theorem d1_31 : decode prog_58_method_10_code 31 = .ok (.goto 4, 3) := by decide +kernel
theorem d1_34 : decode prog_58_method_10_code 34 = .ok (.iconst 0, 1) := by decide +kernel
theorem d1_35 : decode prog_58_method_10_code 35 = .ok (.ireturn, 1) := by decide +kernel
theorem pn_TextFrameReader : plainName "com/example/squitterlab/squitterlab/feed/TextFrameReader" = true := by first | (simp [plainName, overriddenIn]; done) | decide +kernel
theorem ef_1 (m : MethodId) (p1 : Int32) : entryFrame m #[(.int p1)] 1 = mkF m 0 #[.val (.int p1)] [] := by first | (simp [entryFrame, mkF, argsToLocals, Value.category]; done) | rfl
def Q1 (Z : State) (p1 : Int32) (h0 : Heap) (n0 : Nat) (v : Option Value) (h : Heap) (L : List Loc) : Prop := v = some (.int (own_it p1)) ∧ Fr n0 L ∧ h = h0
set_option maxRecDepth 65536 in
set_option maxHeartbeats 40000000 in
theorem rm1 (l : Launch) (Z : State) (a0 : Array Value) (hw : ∀ d ∈ tables_1, d.before a0 Z = true) (ws : List Jvm.Cond) (p1 : Int32) (h0 : Heap) (n0 : Nat) (Z0 : n0 ≤ h0.size) :
    MetFree l (⟨"com/example/squitterlab/squitterlab/feed/TextFrameReader", "isTimeCharacter", "(C)Z"⟩ : MethodName) (head1 (Jvm.Cond.code (⟨"com/example/squitterlab/squitterlab/feed/TextFrameReader", "isTimeCharacter", "(C)Z"⟩ : MethodName) prog_58_method_10_code 1 (some .boolean) :: ws) ({ frames := 0, cells := 0, slots := 0, locals := 0 } : Room)) (fun a U => a = #[(.int p1)] ∧ Z.Warmed39 U.vm ∧ U.heap = h0) (fun _ _ _ _ _ => True) (fun _ U o U' => ∃ v L, o = .returned v ∧ Q1 Z p1 h0 n0 v U'.heap L ∧ FrameEnd U o U' L ({ frames := 0, cells := 0, slots := 0, locals := 0 } : Room).cells ({ frames := 0, cells := 0, slots := 0, locals := 0 } : Room).slots) := by
  refine MetFree.of_bodySF (plainFor_of_name pn_TextFrameReader) hisR ?_
  intro p e s m args below meth c s₁ Bd hml0 hP hK
  obtain ⟨rfl, hZ, hh⟩ := hP
  have hx := Bd.exec
  have hby := Bd.bytes
  have hml : c.maxLocals = 1 := hml0
  have hown : s.vm.findClass "com/example/squitterlab/squitterlab/feed/TextFrameReader" = some m.cls := findClass_of_methodNamed Bd.named
  have hnm := (name_of_methodNamed Bd.named Bd.method).1
  have X0 : Stand p l e ({ frames := 0, cells := 0, slots := 0, locals := 0 } : Room) s m #[(.int p1)] below meth c s₁ [] 0 0 := Stand.of_body Bd
  have e0 : s₁.heap = h0 := by rw [← hh, Bd.state]; rfl
  have N0 := Fr.nil n0
  have pre0 : ∀ t, Steps p.tables e below (s₁.setTop (mkF m 0 #[.val (.int p1)] [])) t → Steps p.tables e below (s₁.setTop (entryFrame m #[(.int p1)] 1)) t := fun t k => castTop (ef_1 m p1) k
  have pre1 : ∀ t, Steps p.tables e below (s₁.setTop (mkF m 3 #[.val (.int p1)] [(.int (32 : Int32)), (.int p1)])) t → Steps p.tables e below (s₁.setTop (entryFrame m #[(.int p1)] 1)) t := fun t k => pre0 t (by
    show Steps p.tables e below (s₁.setTop (mkF m 0 #[.val (.int p1)] [])) _
    refine XS.iloadN X0.here hx rfl (hb hby d1_0) rfl ?_
    show Steps p.tables e below (s₁.setTop (mkF m 1 #[.val (.int p1)] [(.int p1)])) _
    refine XS.bipush X0.here hx rfl (hb hby d1_1) ?_
    show Steps p.tables e below (s₁.setTop (mkF m 3 #[.val (.int p1)] [(.int (32 : Int32)), (.int p1)])) _
    exact k)
  by_cases hc3_2 : p1 < (32 : Int32)
  · have pre3 : ∀ t, Steps p.tables e below (s₁.setTop (mkF m 35 #[.val (.int p1)] [(.int (0 : Int32))])) t → Steps p.tables e below (s₁.setTop (entryFrame m #[(.int p1)] 1)) t := fun t k => pre1 t (by
      show Steps p.tables e below (s₁.setTop (mkF m 3 #[.val (.int p1)] [(.int (32 : Int32)), (.int p1)])) _
      refine XS.icmpYes X0.here hx rfl (pc0 := 3) (pc' := 34) rfl (hb hby d1_3) rfl (tlt hc3_2).1 (by decide) (by decide) ?_
      show Steps p.tables e below (s₁.setTop (mkF m 34 #[.val (.int p1)] [])) _
      refine XS.iconst X0.here hx rfl (hb hby d1_34) ?_
      show Steps p.tables e below (s₁.setTop (mkF m 35 #[.val (.int p1)] [(.int (0 : Int32))])) _
      exact k)
    obtain ⟨fs, hr, hrun, hended, hW, hsame⟩ := X0.leave (v := some (.int (0 : Int32))) (fun h => by rw [Bd.returns] at h; cases h)
    refine ⟨_, _, pre3 _ ?_, hrun, hended, _, _, rfl, ?_, ⟨_, rfl⟩, hW, hsame.mono (by decide) (by decide)⟩
    · show Steps p.tables e below (s₁.setTop (mkF m 35 #[.val (.int p1)] [(.int (0 : Int32))])) _
      exact retN X0 hx (t := .boolean) Bd.returns (by simp) (hb hby d1_35) hr
    · show Q1 Z p1 h0 n0 _ s₁.heap _
      rw [e0]
      exact ⟨by simp only [own_it, if_pos hc3_2], N0, rfl⟩
  · have pre4 : ∀ t, Steps p.tables e below (s₁.setTop (mkF m 9 #[.val (.int p1)] [(.int (126 : Int32)), (.int p1)])) t → Steps p.tables e below (s₁.setTop (entryFrame m #[(.int p1)] 1)) t := fun t k => pre1 t (by
      show Steps p.tables e below (s₁.setTop (mkF m 3 #[.val (.int p1)] [(.int (32 : Int32)), (.int p1)])) _
      refine XS.icmpNo X0.here hx rfl (hb hby d1_3) rfl (flt hc3_2).1 ?_
      show Steps p.tables e below (s₁.setTop (mkF m 6 #[.val (.int p1)] [])) _
      refine XS.iloadN X0.here hx rfl (hb hby d1_6) rfl ?_
      show Steps p.tables e below (s₁.setTop (mkF m 7 #[.val (.int p1)] [(.int p1)])) _
      refine XS.bipush X0.here hx rfl (hb hby d1_7) ?_
      show Steps p.tables e below (s₁.setTop (mkF m 9 #[.val (.int p1)] [(.int (126 : Int32)), (.int p1)])) _
      exact k)
    by_cases hc9_5 : (126 : Int32) < p1
    · have pre6 : ∀ t, Steps p.tables e below (s₁.setTop (mkF m 35 #[.val (.int p1)] [(.int (0 : Int32))])) t → Steps p.tables e below (s₁.setTop (entryFrame m #[(.int p1)] 1)) t := fun t k => pre4 t (by
        show Steps p.tables e below (s₁.setTop (mkF m 9 #[.val (.int p1)] [(.int (126 : Int32)), (.int p1)])) _
        refine XS.icmpYes X0.here hx rfl (pc0 := 9) (pc' := 34) rfl (hb hby d1_9) rfl (tlt hc9_5).2.2.1 (by decide) (by decide) ?_
        show Steps p.tables e below (s₁.setTop (mkF m 34 #[.val (.int p1)] [])) _
        refine XS.iconst X0.here hx rfl (hb hby d1_34) ?_
        show Steps p.tables e below (s₁.setTop (mkF m 35 #[.val (.int p1)] [(.int (0 : Int32))])) _
        exact k)
      obtain ⟨fs, hr, hrun, hended, hW, hsame⟩ := X0.leave (v := some (.int (0 : Int32))) (fun h => by rw [Bd.returns] at h; cases h)
      refine ⟨_, _, pre6 _ ?_, hrun, hended, _, _, rfl, ?_, ⟨_, rfl⟩, hW, hsame.mono (by decide) (by decide)⟩
      · show Steps p.tables e below (s₁.setTop (mkF m 35 #[.val (.int p1)] [(.int (0 : Int32))])) _
        exact retN X0 hx (t := .boolean) Bd.returns (by simp) (hb hby d1_35) hr
      · show Q1 Z p1 h0 n0 _ s₁.heap _
        rw [e0]
        exact ⟨by simp only [own_it, if_neg hc3_2, if_pos hc9_5], N0, rfl⟩
    · have pre7 : ∀ t, Steps p.tables e below (s₁.setTop (mkF m 15 #[.val (.int p1)] [(.int (44 : Int32)), (.int p1)])) t → Steps p.tables e below (s₁.setTop (entryFrame m #[(.int p1)] 1)) t := fun t k => pre4 t (by
        show Steps p.tables e below (s₁.setTop (mkF m 9 #[.val (.int p1)] [(.int (126 : Int32)), (.int p1)])) _
        refine XS.icmpNo X0.here hx rfl (hb hby d1_9) rfl (flt hc9_5).2.2.1 ?_
        show Steps p.tables e below (s₁.setTop (mkF m 12 #[.val (.int p1)] [])) _
        refine XS.iloadN X0.here hx rfl (hb hby d1_12) rfl ?_
        show Steps p.tables e below (s₁.setTop (mkF m 13 #[.val (.int p1)] [(.int p1)])) _
        refine XS.bipush X0.here hx rfl (hb hby d1_13) ?_
        show Steps p.tables e below (s₁.setTop (mkF m 15 #[.val (.int p1)] [(.int (44 : Int32)), (.int p1)])) _
        exact k)
      by_cases hc15_8 : p1 = (44 : Int32)
      · have pre9 : ∀ t, Steps p.tables e below (s₁.setTop (mkF m 35 #[.val (.int p1)] [(.int (0 : Int32))])) t → Steps p.tables e below (s₁.setTop (entryFrame m #[(.int p1)] 1)) t := fun t k => pre7 t (by
          show Steps p.tables e below (s₁.setTop (mkF m 15 #[.val (.int p1)] [(.int (44 : Int32)), (.int p1)])) _
          refine XS.icmpYes X0.here hx rfl (pc0 := 15) (pc' := 34) rfl (hb hby d1_15) rfl (teq hc15_8).1 (by decide) (by decide) ?_
          show Steps p.tables e below (s₁.setTop (mkF m 34 #[.val (.int p1)] [])) _
          refine XS.iconst X0.here hx rfl (hb hby d1_34) ?_
          show Steps p.tables e below (s₁.setTop (mkF m 35 #[.val (.int p1)] [(.int (0 : Int32))])) _
          exact k)
        obtain ⟨fs, hr, hrun, hended, hW, hsame⟩ := X0.leave (v := some (.int (0 : Int32))) (fun h => by rw [Bd.returns] at h; cases h)
        refine ⟨_, _, pre9 _ ?_, hrun, hended, _, _, rfl, ?_, ⟨_, rfl⟩, hW, hsame.mono (by decide) (by decide)⟩
        · show Steps p.tables e below (s₁.setTop (mkF m 35 #[.val (.int p1)] [(.int (0 : Int32))])) _
          exact retN X0 hx (t := .boolean) Bd.returns (by simp) (hb hby d1_35) hr
        · show Q1 Z p1 h0 n0 _ s₁.heap _
          rw [e0]
          exact ⟨by simp only [own_it, if_neg hc3_2, if_neg hc9_5, if_pos hc15_8], N0, rfl⟩
      · have pre10 : ∀ t, Steps p.tables e below (s₁.setTop (mkF m 21 #[.val (.int p1)] [(.int (34 : Int32)), (.int p1)])) t → Steps p.tables e below (s₁.setTop (entryFrame m #[(.int p1)] 1)) t := fun t k => pre7 t (by
          show Steps p.tables e below (s₁.setTop (mkF m 15 #[.val (.int p1)] [(.int (44 : Int32)), (.int p1)])) _
          refine XS.icmpNo X0.here hx rfl (hb hby d1_15) rfl (feq hc15_8).1 ?_
          show Steps p.tables e below (s₁.setTop (mkF m 18 #[.val (.int p1)] [])) _
          refine XS.iloadN X0.here hx rfl (hb hby d1_18) rfl ?_
          show Steps p.tables e below (s₁.setTop (mkF m 19 #[.val (.int p1)] [(.int p1)])) _
          refine XS.bipush X0.here hx rfl (hb hby d1_19) ?_
          show Steps p.tables e below (s₁.setTop (mkF m 21 #[.val (.int p1)] [(.int (34 : Int32)), (.int p1)])) _
          exact k)
        by_cases hc21_11 : p1 = (34 : Int32)
        · have pre12 : ∀ t, Steps p.tables e below (s₁.setTop (mkF m 35 #[.val (.int p1)] [(.int (0 : Int32))])) t → Steps p.tables e below (s₁.setTop (entryFrame m #[(.int p1)] 1)) t := fun t k => pre10 t (by
            show Steps p.tables e below (s₁.setTop (mkF m 21 #[.val (.int p1)] [(.int (34 : Int32)), (.int p1)])) _
            refine XS.icmpYes X0.here hx rfl (pc0 := 21) (pc' := 34) rfl (hb hby d1_21) rfl (teq hc21_11).1 (by decide) (by decide) ?_
            show Steps p.tables e below (s₁.setTop (mkF m 34 #[.val (.int p1)] [])) _
            refine XS.iconst X0.here hx rfl (hb hby d1_34) ?_
            show Steps p.tables e below (s₁.setTop (mkF m 35 #[.val (.int p1)] [(.int (0 : Int32))])) _
            exact k)
          obtain ⟨fs, hr, hrun, hended, hW, hsame⟩ := X0.leave (v := some (.int (0 : Int32))) (fun h => by rw [Bd.returns] at h; cases h)
          refine ⟨_, _, pre12 _ ?_, hrun, hended, _, _, rfl, ?_, ⟨_, rfl⟩, hW, hsame.mono (by decide) (by decide)⟩
          · show Steps p.tables e below (s₁.setTop (mkF m 35 #[.val (.int p1)] [(.int (0 : Int32))])) _
            exact retN X0 hx (t := .boolean) Bd.returns (by simp) (hb hby d1_35) hr
          · show Q1 Z p1 h0 n0 _ s₁.heap _
            rw [e0]
            exact ⟨by simp only [own_it, if_neg hc3_2, if_neg hc9_5, if_neg hc15_8, if_pos hc21_11], N0, rfl⟩
        · have pre13 : ∀ t, Steps p.tables e below (s₁.setTop (mkF m 27 #[.val (.int p1)] [(.int (42 : Int32)), (.int p1)])) t → Steps p.tables e below (s₁.setTop (entryFrame m #[(.int p1)] 1)) t := fun t k => pre10 t (by
            show Steps p.tables e below (s₁.setTop (mkF m 21 #[.val (.int p1)] [(.int (34 : Int32)), (.int p1)])) _
            refine XS.icmpNo X0.here hx rfl (hb hby d1_21) rfl (feq hc21_11).1 ?_
            show Steps p.tables e below (s₁.setTop (mkF m 24 #[.val (.int p1)] [])) _
            refine XS.iloadN X0.here hx rfl (hb hby d1_24) rfl ?_
            show Steps p.tables e below (s₁.setTop (mkF m 25 #[.val (.int p1)] [(.int p1)])) _
            refine XS.bipush X0.here hx rfl (hb hby d1_25) ?_
            show Steps p.tables e below (s₁.setTop (mkF m 27 #[.val (.int p1)] [(.int (42 : Int32)), (.int p1)])) _
            exact k)
          by_cases hc27_14 : p1 = (42 : Int32)
          · have pre15 : ∀ t, Steps p.tables e below (s₁.setTop (mkF m 35 #[.val (.int p1)] [(.int (0 : Int32))])) t → Steps p.tables e below (s₁.setTop (entryFrame m #[(.int p1)] 1)) t := fun t k => pre13 t (by
              show Steps p.tables e below (s₁.setTop (mkF m 27 #[.val (.int p1)] [(.int (42 : Int32)), (.int p1)])) _
              refine XS.icmpYes X0.here hx rfl (pc0 := 27) (pc' := 34) rfl (hb hby d1_27) rfl (teq hc27_14).1 (by decide) (by decide) ?_
              show Steps p.tables e below (s₁.setTop (mkF m 34 #[.val (.int p1)] [])) _
              refine XS.iconst X0.here hx rfl (hb hby d1_34) ?_
              show Steps p.tables e below (s₁.setTop (mkF m 35 #[.val (.int p1)] [(.int (0 : Int32))])) _
              exact k)
            obtain ⟨fs, hr, hrun, hended, hW, hsame⟩ := X0.leave (v := some (.int (0 : Int32))) (fun h => by rw [Bd.returns] at h; cases h)
            refine ⟨_, _, pre15 _ ?_, hrun, hended, _, _, rfl, ?_, ⟨_, rfl⟩, hW, hsame.mono (by decide) (by decide)⟩
            · show Steps p.tables e below (s₁.setTop (mkF m 35 #[.val (.int p1)] [(.int (0 : Int32))])) _
              exact retN X0 hx (t := .boolean) Bd.returns (by simp) (hb hby d1_35) hr
            · show Q1 Z p1 h0 n0 _ s₁.heap _
              rw [e0]
              exact ⟨by simp only [own_it, if_neg hc3_2, if_neg hc9_5, if_neg hc15_8, if_neg hc21_11, if_pos hc27_14], N0, rfl⟩
          · have pre16 : ∀ t, Steps p.tables e below (s₁.setTop (mkF m 35 #[.val (.int p1)] [(.int (1 : Int32))])) t → Steps p.tables e below (s₁.setTop (entryFrame m #[(.int p1)] 1)) t := fun t k => pre13 t (by
              show Steps p.tables e below (s₁.setTop (mkF m 27 #[.val (.int p1)] [(.int (42 : Int32)), (.int p1)])) _
              refine XS.icmpNo X0.here hx rfl (hb hby d1_27) rfl (feq hc27_14).1 ?_
              show Steps p.tables e below (s₁.setTop (mkF m 30 #[.val (.int p1)] [])) _
              refine XS.iconst X0.here hx rfl (hb hby d1_30) ?_
              show Steps p.tables e below (s₁.setTop (mkF m 31 #[.val (.int p1)] [(.int (1 : Int32))])) _
              refine XS.goto X0.here hx rfl (pc0 := 31) (pc' := 35) rfl (hb hby d1_31) (by decide) (by decide) ?_
              show Steps p.tables e below (s₁.setTop (mkF m 35 #[.val (.int p1)] [(.int (1 : Int32))])) _
              exact k)
            obtain ⟨fs, hr, hrun, hended, hW, hsame⟩ := X0.leave (v := some (.int (1 : Int32))) (fun h => by rw [Bd.returns] at h; cases h)
            refine ⟨_, _, pre16 _ ?_, hrun, hended, _, _, rfl, ?_, ⟨_, rfl⟩, hW, hsame.mono (by decide) (by decide)⟩
            · show Steps p.tables e below (s₁.setTop (mkF m 35 #[.val (.int p1)] [(.int (1 : Int32))])) _
              exact retN X0 hx (t := .boolean) Bd.returns (by simp) (hb hby d1_35) hr
            · show Q1 Z p1 h0 n0 _ s₁.heap _
              rw [e0]
              exact ⟨by simp only [own_it, if_neg hc3_2, if_neg hc9_5, if_neg hc15_8, if_neg hc21_11, if_neg hc27_14], N0, rfl⟩
theorem pd_0 : parseMethodDescriptor "(C)Z" = some ⟨[.char], some .boolean⟩ := by decide +kernel
theorem pn_TextFrameReaderIsTimeCharacterPinLaw : plainName "com/example/squitterlab/squitterlab/feed/TextFrameReaderIsTimeCharacterPinLaw" = true := by first | (simp [plainName, overriddenIn]; done) | decide +kernel
theorem ef_0 (m : MethodId) (p1 : Int32) : entryFrame m #[(.int p1)] maxLocals = mkF m 0 #[.val (.int p1), .unset, .unset, .unset] [] := by first | (simp [entryFrame, mkF, argsToLocals, Value.category, maxLocals]; done) | rfl
def lc0_0 (p1 : Int32) : Array Slot := #[.val (.int p1), .val (.int (own_c p1)), .val (.int (own_c p1)), .val (.int (if (own_c p1) < (32 : Int32) then (if (own_c p1) < (35 : Int32) then (if (own_c p1) = (43 : Int32) then (1 : Int32) else (if (own_c p1) < (45 : Int32) then (0 : Int32) else (if (126 : Int32) < (own_c p1) then (0 : Int32) else (1 : Int32)))) else (if (41 : Int32) < (own_c p1) then (if (own_c p1) = (43 : Int32) then (1 : Int32) else (if (own_c p1) < (45 : Int32) then (0 : Int32) else (if (126 : Int32) < (own_c p1) then (0 : Int32) else (1 : Int32)))) else (1 : Int32))) else (if (33 : Int32) < (own_c p1) then (if (own_c p1) < (35 : Int32) then (if (own_c p1) = (43 : Int32) then (1 : Int32) else (if (own_c p1) < (45 : Int32) then (0 : Int32) else (if (126 : Int32) < (own_c p1) then (0 : Int32) else (1 : Int32)))) else (if (41 : Int32) < (own_c p1) then (if (own_c p1) = (43 : Int32) then (1 : Int32) else (if (own_c p1) < (45 : Int32) then (0 : Int32) else (if (126 : Int32) < (own_c p1) then (0 : Int32) else (1 : Int32)))) else (1 : Int32))) else (1 : Int32))))]
def Q0 (Z : State) (p1 : Int32) (h0 : Heap) (n0 : Nat) (v : Option Value) (h : Heap) (L : List Loc) : Prop := v = some (.int (1 : Int32)) ∧ Fr n0 L
set_option maxRecDepth 65536 in
set_option maxHeartbeats 40000000 in
theorem rm0 (l : Launch) (Z : State) (a0 : Array Value) (hw : ∀ d ∈ tables_1, d.before a0 Z = true) (ws : List Jvm.Cond) (p1 : Int32) (h0 : Heap) (n0 : Nat) (Z0 : n0 ≤ h0.size) :
    MetFree l x (head1 (Jvm.Cond.code x code maxLocals ret :: ws) room_1) (fun a U => a = #[(.int p1)] ∧ Z.Warmed39 U.vm ∧ U.heap = h0) (fun _ _ _ _ _ => True) (fun _ U o U' => ∃ v L, o = .returned v ∧ Q0 Z p1 h0 n0 v U'.heap L ∧ FrameEnd U o U' L room_1.cells room_1.slots) := by
  refine MetFree.of_bodySF (plainFor_of_name pn_TextFrameReaderIsTimeCharacterPinLaw) hisR ?_
  intro p e s m args below meth c s₁ Bd hml0 hP hK
  obtain ⟨rfl, hZ, hh⟩ := hP
  have hx := Bd.exec
  have hby := Bd.bytes
  have hml : c.maxLocals = 4 := hml0
  have hown : s.vm.findClass "com/example/squitterlab/squitterlab/feed/TextFrameReaderIsTimeCharacterPinLaw" = some m.cls := findClass_of_methodNamed Bd.named
  have hnm := (name_of_methodNamed Bd.named Bd.method).1
  have X0 : Stand p l e room_1 s m #[(.int p1)] below meth c s₁ [] 0 0 := Stand.of_body Bd
  have e0 : s₁.heap = h0 := by rw [← hh, Bd.state]; rfl
  have N0 := Fr.nil n0
  have pre0 : ∀ t, Steps p.tables e below (s₁.setTop (mkF m 0 #[.val (.int p1), .unset, .unset, .unset] [])) t → Steps p.tables e below (s₁.setTop (entryFrame m #[(.int p1)] maxLocals)) t := fun t k => castTop (ef_0 m p1) k
  have pre1 : ∀ t, Steps p.tables e below (s₁.setTop (mkF m 8 #[.val (.int p1), .val (.int (own_c p1)), .val (.int (own_c p1)), .unset] [(.int (32 : Int32)), (.int (own_c p1))])) t → Steps p.tables e below (s₁.setTop (entryFrame m #[(.int p1)] maxLocals)) t := fun t k => pre0 t (by
    show Steps p.tables e below (s₁.setTop (mkF m 0 #[.val (.int p1), .unset, .unset, .unset] [])) _
    refine XS.iloadN X0.here hx rfl (hb hby at_0) rfl ?_
    show Steps p.tables e below (s₁.setTop (mkF m 1 #[.val (.int p1), .unset, .unset, .unset] [(.int p1)])) _
    refine XS.i2c X0.here hx rfl (hb hby at_1) rfl ?_
    show Steps p.tables e below (s₁.setTop (mkF m 2 #[.val (.int p1), .unset, .unset, .unset] [(.int (own_c p1))])) _
    refine XS.istoreN X0.here hx rfl (hb hby at_2) rfl (l' := #[.val (.int p1), .val (.int (own_c p1)), .unset, .unset]) rfl ?_
    show Steps p.tables e below (s₁.setTop (mkF m 3 #[.val (.int p1), .val (.int (own_c p1)), .unset, .unset] [])) _
    refine XS.iloadN X0.here hx rfl (hb hby at_3) rfl ?_
    show Steps p.tables e below (s₁.setTop (mkF m 4 #[.val (.int p1), .val (.int (own_c p1)), .unset, .unset] [(.int (own_c p1))])) _
    refine XS.istoreN X0.here hx rfl (hb hby at_4) rfl (l' := #[.val (.int p1), .val (.int (own_c p1)), .val (.int (own_c p1)), .unset]) rfl ?_
    show Steps p.tables e below (s₁.setTop (mkF m 5 #[.val (.int p1), .val (.int (own_c p1)), .val (.int (own_c p1)), .unset] [])) _
    refine XS.iloadN X0.here hx rfl (hb hby at_5) rfl ?_
    show Steps p.tables e below (s₁.setTop (mkF m 6 #[.val (.int p1), .val (.int (own_c p1)), .val (.int (own_c p1)), .unset] [(.int (own_c p1))])) _
    refine XS.bipush X0.here hx rfl (hb hby at_6) ?_
    show Steps p.tables e below (s₁.setTop (mkF m 8 #[.val (.int p1), .val (.int (own_c p1)), .val (.int (own_c p1)), .unset] [(.int (32 : Int32)), (.int (own_c p1))])) _
    exact k)
  have pre20 : ∀ t, Steps p.tables e below (s₁.setTop (mkF m 52 #[.val (.int p1), .val (.int (own_c p1)), .val (.int (own_c p1)), .unset] [(.int (if (own_c p1) < (32 : Int32) then (if (own_c p1) < (35 : Int32) then (if (own_c p1) = (43 : Int32) then (1 : Int32) else (if (own_c p1) < (45 : Int32) then (0 : Int32) else (if (126 : Int32) < (own_c p1) then (0 : Int32) else (1 : Int32)))) else (if (41 : Int32) < (own_c p1) then (if (own_c p1) = (43 : Int32) then (1 : Int32) else (if (own_c p1) < (45 : Int32) then (0 : Int32) else (if (126 : Int32) < (own_c p1) then (0 : Int32) else (1 : Int32)))) else (1 : Int32))) else (if (33 : Int32) < (own_c p1) then (if (own_c p1) < (35 : Int32) then (if (own_c p1) = (43 : Int32) then (1 : Int32) else (if (own_c p1) < (45 : Int32) then (0 : Int32) else (if (126 : Int32) < (own_c p1) then (0 : Int32) else (1 : Int32)))) else (if (41 : Int32) < (own_c p1) then (if (own_c p1) = (43 : Int32) then (1 : Int32) else (if (own_c p1) < (45 : Int32) then (0 : Int32) else (if (126 : Int32) < (own_c p1) then (0 : Int32) else (1 : Int32)))) else (1 : Int32))) else (1 : Int32))))])) t → Steps p.tables e below (s₁.setTop (entryFrame m #[(.int p1)] maxLocals)) t := fun t k => pre1 t (by
    show Steps p.tables e below (s₁.setTop (mkF m 8 #[.val (.int p1), .val (.int (own_c p1)), .val (.int (own_c p1)), .unset] [(.int (32 : Int32)), (.int (own_c p1))])) _
    by_cases hm8_2 : (own_c p1) < (32 : Int32)
    · refine XS.icmpYes X0.here hx rfl (pc0 := 8) (pc' := 17) rfl (hb hby at_8) rfl (tlt hm8_2).1 (by decide) (by decide) ?_
      show Steps p.tables e below (s₁.setTop (mkF m 17 #[.val (.int p1), .val (.int (own_c p1)), .val (.int (own_c p1)), .unset] [])) _
      refine XS.iloadN X0.here hx rfl (hb hby at_17) rfl ?_
      show Steps p.tables e below (s₁.setTop (mkF m 18 #[.val (.int p1), .val (.int (own_c p1)), .val (.int (own_c p1)), .unset] [(.int (own_c p1))])) _
      refine XS.bipush X0.here hx rfl (hb hby at_18) ?_
      show Steps p.tables e below (s₁.setTop (mkF m 20 #[.val (.int p1), .val (.int (own_c p1)), .val (.int (own_c p1)), .unset] [(.int (35 : Int32)), (.int (own_c p1))])) _
      by_cases hm20_3 : (own_c p1) < (35 : Int32)
      · refine XS.icmpYes X0.here hx rfl (pc0 := 20) (pc' := 29) rfl (hb hby at_20) rfl (tlt hm20_3).1 (by decide) (by decide) ?_
        show Steps p.tables e below (s₁.setTop (mkF m 29 #[.val (.int p1), .val (.int (own_c p1)), .val (.int (own_c p1)), .unset] [])) _
        refine XS.iloadN X0.here hx rfl (hb hby at_29) rfl ?_
        show Steps p.tables e below (s₁.setTop (mkF m 30 #[.val (.int p1), .val (.int (own_c p1)), .val (.int (own_c p1)), .unset] [(.int (own_c p1))])) _
        refine XS.bipush X0.here hx rfl (hb hby at_30) ?_
        show Steps p.tables e below (s₁.setTop (mkF m 32 #[.val (.int p1), .val (.int (own_c p1)), .val (.int (own_c p1)), .unset] [(.int (43 : Int32)), (.int (own_c p1))])) _
        by_cases hm32_4 : (own_c p1) = (43 : Int32)
        · refine XS.icmpYes X0.here hx rfl (pc0 := 32) (pc' := 47) rfl (hb hby at_32) rfl (teq hm32_4).1 (by decide) (by decide) ?_
          show Steps p.tables e below (s₁.setTop (mkF m 47 #[.val (.int p1), .val (.int (own_c p1)), .val (.int (own_c p1)), .unset] [])) _
          refine XS.iconst X0.here hx rfl (hb hby at_47) ?_
          show Steps p.tables e below (s₁.setTop (mkF m 48 #[.val (.int p1), .val (.int (own_c p1)), .val (.int (own_c p1)), .unset] [(.int (1 : Int32))])) _
          refine XS.goto X0.here hx rfl (pc0 := 48) (pc' := 52) rfl (hb hby at_48) (by decide) (by decide) ?_
          show Steps p.tables e below (s₁.setTop (mkF m 52 #[.val (.int p1), .val (.int (own_c p1)), .val (.int (own_c p1)), .unset] [(.int (1 : Int32))])) _
          have q : (if (own_c p1) < (32 : Int32) then (if (own_c p1) < (35 : Int32) then (if (own_c p1) = (43 : Int32) then (1 : Int32) else (if (own_c p1) < (45 : Int32) then (0 : Int32) else (if (126 : Int32) < (own_c p1) then (0 : Int32) else (1 : Int32)))) else (if (41 : Int32) < (own_c p1) then (if (own_c p1) = (43 : Int32) then (1 : Int32) else (if (own_c p1) < (45 : Int32) then (0 : Int32) else (if (126 : Int32) < (own_c p1) then (0 : Int32) else (1 : Int32)))) else (1 : Int32))) else (if (33 : Int32) < (own_c p1) then (if (own_c p1) < (35 : Int32) then (if (own_c p1) = (43 : Int32) then (1 : Int32) else (if (own_c p1) < (45 : Int32) then (0 : Int32) else (if (126 : Int32) < (own_c p1) then (0 : Int32) else (1 : Int32)))) else (if (41 : Int32) < (own_c p1) then (if (own_c p1) = (43 : Int32) then (1 : Int32) else (if (own_c p1) < (45 : Int32) then (0 : Int32) else (if (126 : Int32) < (own_c p1) then (0 : Int32) else (1 : Int32)))) else (1 : Int32))) else (1 : Int32))) = (1 : Int32) := by simp only [if_pos hm8_2, if_pos hm20_3, if_pos hm32_4]
          exact Eq.subst (motive := fun x => Steps p.tables e below (s₁.setTop (mkF m 52 #[.val (.int p1), .val (.int (own_c p1)), .val (.int (own_c p1)), .unset] [(.int x)])) t) q k
        · refine XS.icmpNo X0.here hx rfl (hb hby at_32) rfl (feq hm32_4).1 ?_
          show Steps p.tables e below (s₁.setTop (mkF m 35 #[.val (.int p1), .val (.int (own_c p1)), .val (.int (own_c p1)), .unset] [])) _
          refine XS.iloadN X0.here hx rfl (hb hby at_35) rfl ?_
          show Steps p.tables e below (s₁.setTop (mkF m 36 #[.val (.int p1), .val (.int (own_c p1)), .val (.int (own_c p1)), .unset] [(.int (own_c p1))])) _
          refine XS.bipush X0.here hx rfl (hb hby at_36) ?_
          show Steps p.tables e below (s₁.setTop (mkF m 38 #[.val (.int p1), .val (.int (own_c p1)), .val (.int (own_c p1)), .unset] [(.int (45 : Int32)), (.int (own_c p1))])) _
          by_cases hm38_5 : (own_c p1) < (45 : Int32)
          · refine XS.icmpYes X0.here hx rfl (pc0 := 38) (pc' := 51) rfl (hb hby at_38) rfl (tlt hm38_5).1 (by decide) (by decide) ?_
            show Steps p.tables e below (s₁.setTop (mkF m 51 #[.val (.int p1), .val (.int (own_c p1)), .val (.int (own_c p1)), .unset] [])) _
            refine XS.iconst X0.here hx rfl (hb hby at_51) ?_
            show Steps p.tables e below (s₁.setTop (mkF m 52 #[.val (.int p1), .val (.int (own_c p1)), .val (.int (own_c p1)), .unset] [(.int (0 : Int32))])) _
            have q : (if (own_c p1) < (32 : Int32) then (if (own_c p1) < (35 : Int32) then (if (own_c p1) = (43 : Int32) then (1 : Int32) else (if (own_c p1) < (45 : Int32) then (0 : Int32) else (if (126 : Int32) < (own_c p1) then (0 : Int32) else (1 : Int32)))) else (if (41 : Int32) < (own_c p1) then (if (own_c p1) = (43 : Int32) then (1 : Int32) else (if (own_c p1) < (45 : Int32) then (0 : Int32) else (if (126 : Int32) < (own_c p1) then (0 : Int32) else (1 : Int32)))) else (1 : Int32))) else (if (33 : Int32) < (own_c p1) then (if (own_c p1) < (35 : Int32) then (if (own_c p1) = (43 : Int32) then (1 : Int32) else (if (own_c p1) < (45 : Int32) then (0 : Int32) else (if (126 : Int32) < (own_c p1) then (0 : Int32) else (1 : Int32)))) else (if (41 : Int32) < (own_c p1) then (if (own_c p1) = (43 : Int32) then (1 : Int32) else (if (own_c p1) < (45 : Int32) then (0 : Int32) else (if (126 : Int32) < (own_c p1) then (0 : Int32) else (1 : Int32)))) else (1 : Int32))) else (1 : Int32))) = (0 : Int32) := by simp only [if_pos hm8_2, if_pos hm20_3, if_neg hm32_4, if_pos hm38_5]
            exact Eq.subst (motive := fun x => Steps p.tables e below (s₁.setTop (mkF m 52 #[.val (.int p1), .val (.int (own_c p1)), .val (.int (own_c p1)), .unset] [(.int x)])) t) q k
          · refine XS.icmpNo X0.here hx rfl (hb hby at_38) rfl (flt hm38_5).1 ?_
            show Steps p.tables e below (s₁.setTop (mkF m 41 #[.val (.int p1), .val (.int (own_c p1)), .val (.int (own_c p1)), .unset] [])) _
            refine XS.iloadN X0.here hx rfl (hb hby at_41) rfl ?_
            show Steps p.tables e below (s₁.setTop (mkF m 42 #[.val (.int p1), .val (.int (own_c p1)), .val (.int (own_c p1)), .unset] [(.int (own_c p1))])) _
            refine XS.bipush X0.here hx rfl (hb hby at_42) ?_
            show Steps p.tables e below (s₁.setTop (mkF m 44 #[.val (.int p1), .val (.int (own_c p1)), .val (.int (own_c p1)), .unset] [(.int (126 : Int32)), (.int (own_c p1))])) _
            by_cases hm44_6 : (126 : Int32) < (own_c p1)
            · refine XS.icmpYes X0.here hx rfl (pc0 := 44) (pc' := 51) rfl (hb hby at_44) rfl (tlt hm44_6).2.2.1 (by decide) (by decide) ?_
              show Steps p.tables e below (s₁.setTop (mkF m 51 #[.val (.int p1), .val (.int (own_c p1)), .val (.int (own_c p1)), .unset] [])) _
              refine XS.iconst X0.here hx rfl (hb hby at_51) ?_
              show Steps p.tables e below (s₁.setTop (mkF m 52 #[.val (.int p1), .val (.int (own_c p1)), .val (.int (own_c p1)), .unset] [(.int (0 : Int32))])) _
              have q : (if (own_c p1) < (32 : Int32) then (if (own_c p1) < (35 : Int32) then (if (own_c p1) = (43 : Int32) then (1 : Int32) else (if (own_c p1) < (45 : Int32) then (0 : Int32) else (if (126 : Int32) < (own_c p1) then (0 : Int32) else (1 : Int32)))) else (if (41 : Int32) < (own_c p1) then (if (own_c p1) = (43 : Int32) then (1 : Int32) else (if (own_c p1) < (45 : Int32) then (0 : Int32) else (if (126 : Int32) < (own_c p1) then (0 : Int32) else (1 : Int32)))) else (1 : Int32))) else (if (33 : Int32) < (own_c p1) then (if (own_c p1) < (35 : Int32) then (if (own_c p1) = (43 : Int32) then (1 : Int32) else (if (own_c p1) < (45 : Int32) then (0 : Int32) else (if (126 : Int32) < (own_c p1) then (0 : Int32) else (1 : Int32)))) else (if (41 : Int32) < (own_c p1) then (if (own_c p1) = (43 : Int32) then (1 : Int32) else (if (own_c p1) < (45 : Int32) then (0 : Int32) else (if (126 : Int32) < (own_c p1) then (0 : Int32) else (1 : Int32)))) else (1 : Int32))) else (1 : Int32))) = (0 : Int32) := by simp only [if_pos hm8_2, if_pos hm20_3, if_neg hm32_4, if_neg hm38_5, if_pos hm44_6]
              exact Eq.subst (motive := fun x => Steps p.tables e below (s₁.setTop (mkF m 52 #[.val (.int p1), .val (.int (own_c p1)), .val (.int (own_c p1)), .unset] [(.int x)])) t) q k
            · refine XS.icmpNo X0.here hx rfl (hb hby at_44) rfl (flt hm44_6).2.2.1 ?_
              show Steps p.tables e below (s₁.setTop (mkF m 47 #[.val (.int p1), .val (.int (own_c p1)), .val (.int (own_c p1)), .unset] [])) _
              refine XS.iconst X0.here hx rfl (hb hby at_47) ?_
              show Steps p.tables e below (s₁.setTop (mkF m 48 #[.val (.int p1), .val (.int (own_c p1)), .val (.int (own_c p1)), .unset] [(.int (1 : Int32))])) _
              refine XS.goto X0.here hx rfl (pc0 := 48) (pc' := 52) rfl (hb hby at_48) (by decide) (by decide) ?_
              show Steps p.tables e below (s₁.setTop (mkF m 52 #[.val (.int p1), .val (.int (own_c p1)), .val (.int (own_c p1)), .unset] [(.int (1 : Int32))])) _
              have q : (if (own_c p1) < (32 : Int32) then (if (own_c p1) < (35 : Int32) then (if (own_c p1) = (43 : Int32) then (1 : Int32) else (if (own_c p1) < (45 : Int32) then (0 : Int32) else (if (126 : Int32) < (own_c p1) then (0 : Int32) else (1 : Int32)))) else (if (41 : Int32) < (own_c p1) then (if (own_c p1) = (43 : Int32) then (1 : Int32) else (if (own_c p1) < (45 : Int32) then (0 : Int32) else (if (126 : Int32) < (own_c p1) then (0 : Int32) else (1 : Int32)))) else (1 : Int32))) else (if (33 : Int32) < (own_c p1) then (if (own_c p1) < (35 : Int32) then (if (own_c p1) = (43 : Int32) then (1 : Int32) else (if (own_c p1) < (45 : Int32) then (0 : Int32) else (if (126 : Int32) < (own_c p1) then (0 : Int32) else (1 : Int32)))) else (if (41 : Int32) < (own_c p1) then (if (own_c p1) = (43 : Int32) then (1 : Int32) else (if (own_c p1) < (45 : Int32) then (0 : Int32) else (if (126 : Int32) < (own_c p1) then (0 : Int32) else (1 : Int32)))) else (1 : Int32))) else (1 : Int32))) = (1 : Int32) := by simp only [if_pos hm8_2, if_pos hm20_3, if_neg hm32_4, if_neg hm38_5, if_neg hm44_6]
              exact Eq.subst (motive := fun x => Steps p.tables e below (s₁.setTop (mkF m 52 #[.val (.int p1), .val (.int (own_c p1)), .val (.int (own_c p1)), .unset] [(.int x)])) t) q k
      · refine XS.icmpNo X0.here hx rfl (hb hby at_20) rfl (flt hm20_3).1 ?_
        show Steps p.tables e below (s₁.setTop (mkF m 23 #[.val (.int p1), .val (.int (own_c p1)), .val (.int (own_c p1)), .unset] [])) _
        refine XS.iloadN X0.here hx rfl (hb hby at_23) rfl ?_
        show Steps p.tables e below (s₁.setTop (mkF m 24 #[.val (.int p1), .val (.int (own_c p1)), .val (.int (own_c p1)), .unset] [(.int (own_c p1))])) _
        refine XS.bipush X0.here hx rfl (hb hby at_24) ?_
        show Steps p.tables e below (s₁.setTop (mkF m 26 #[.val (.int p1), .val (.int (own_c p1)), .val (.int (own_c p1)), .unset] [(.int (41 : Int32)), (.int (own_c p1))])) _
        by_cases hm26_7 : (41 : Int32) < (own_c p1)
        · refine XS.icmpNo X0.here hx rfl (hb hby at_26) rfl (tlt hm26_7).2.2.2 ?_
          show Steps p.tables e below (s₁.setTop (mkF m 29 #[.val (.int p1), .val (.int (own_c p1)), .val (.int (own_c p1)), .unset] [])) _
          refine XS.iloadN X0.here hx rfl (hb hby at_29) rfl ?_
          show Steps p.tables e below (s₁.setTop (mkF m 30 #[.val (.int p1), .val (.int (own_c p1)), .val (.int (own_c p1)), .unset] [(.int (own_c p1))])) _
          refine XS.bipush X0.here hx rfl (hb hby at_30) ?_
          show Steps p.tables e below (s₁.setTop (mkF m 32 #[.val (.int p1), .val (.int (own_c p1)), .val (.int (own_c p1)), .unset] [(.int (43 : Int32)), (.int (own_c p1))])) _
          by_cases hm32_8 : (own_c p1) = (43 : Int32)
          · refine XS.icmpYes X0.here hx rfl (pc0 := 32) (pc' := 47) rfl (hb hby at_32) rfl (teq hm32_8).1 (by decide) (by decide) ?_
            show Steps p.tables e below (s₁.setTop (mkF m 47 #[.val (.int p1), .val (.int (own_c p1)), .val (.int (own_c p1)), .unset] [])) _
            refine XS.iconst X0.here hx rfl (hb hby at_47) ?_
            show Steps p.tables e below (s₁.setTop (mkF m 48 #[.val (.int p1), .val (.int (own_c p1)), .val (.int (own_c p1)), .unset] [(.int (1 : Int32))])) _
            refine XS.goto X0.here hx rfl (pc0 := 48) (pc' := 52) rfl (hb hby at_48) (by decide) (by decide) ?_
            show Steps p.tables e below (s₁.setTop (mkF m 52 #[.val (.int p1), .val (.int (own_c p1)), .val (.int (own_c p1)), .unset] [(.int (1 : Int32))])) _
            have q : (if (own_c p1) < (32 : Int32) then (if (own_c p1) < (35 : Int32) then (if (own_c p1) = (43 : Int32) then (1 : Int32) else (if (own_c p1) < (45 : Int32) then (0 : Int32) else (if (126 : Int32) < (own_c p1) then (0 : Int32) else (1 : Int32)))) else (if (41 : Int32) < (own_c p1) then (if (own_c p1) = (43 : Int32) then (1 : Int32) else (if (own_c p1) < (45 : Int32) then (0 : Int32) else (if (126 : Int32) < (own_c p1) then (0 : Int32) else (1 : Int32)))) else (1 : Int32))) else (if (33 : Int32) < (own_c p1) then (if (own_c p1) < (35 : Int32) then (if (own_c p1) = (43 : Int32) then (1 : Int32) else (if (own_c p1) < (45 : Int32) then (0 : Int32) else (if (126 : Int32) < (own_c p1) then (0 : Int32) else (1 : Int32)))) else (if (41 : Int32) < (own_c p1) then (if (own_c p1) = (43 : Int32) then (1 : Int32) else (if (own_c p1) < (45 : Int32) then (0 : Int32) else (if (126 : Int32) < (own_c p1) then (0 : Int32) else (1 : Int32)))) else (1 : Int32))) else (1 : Int32))) = (1 : Int32) := by simp only [if_pos hm8_2, if_neg hm20_3, if_pos hm26_7, if_pos hm32_8]
            exact Eq.subst (motive := fun x => Steps p.tables e below (s₁.setTop (mkF m 52 #[.val (.int p1), .val (.int (own_c p1)), .val (.int (own_c p1)), .unset] [(.int x)])) t) q k
          · refine XS.icmpNo X0.here hx rfl (hb hby at_32) rfl (feq hm32_8).1 ?_
            show Steps p.tables e below (s₁.setTop (mkF m 35 #[.val (.int p1), .val (.int (own_c p1)), .val (.int (own_c p1)), .unset] [])) _
            refine XS.iloadN X0.here hx rfl (hb hby at_35) rfl ?_
            show Steps p.tables e below (s₁.setTop (mkF m 36 #[.val (.int p1), .val (.int (own_c p1)), .val (.int (own_c p1)), .unset] [(.int (own_c p1))])) _
            refine XS.bipush X0.here hx rfl (hb hby at_36) ?_
            show Steps p.tables e below (s₁.setTop (mkF m 38 #[.val (.int p1), .val (.int (own_c p1)), .val (.int (own_c p1)), .unset] [(.int (45 : Int32)), (.int (own_c p1))])) _
            by_cases hm38_9 : (own_c p1) < (45 : Int32)
            · refine XS.icmpYes X0.here hx rfl (pc0 := 38) (pc' := 51) rfl (hb hby at_38) rfl (tlt hm38_9).1 (by decide) (by decide) ?_
              show Steps p.tables e below (s₁.setTop (mkF m 51 #[.val (.int p1), .val (.int (own_c p1)), .val (.int (own_c p1)), .unset] [])) _
              refine XS.iconst X0.here hx rfl (hb hby at_51) ?_
              show Steps p.tables e below (s₁.setTop (mkF m 52 #[.val (.int p1), .val (.int (own_c p1)), .val (.int (own_c p1)), .unset] [(.int (0 : Int32))])) _
              have q : (if (own_c p1) < (32 : Int32) then (if (own_c p1) < (35 : Int32) then (if (own_c p1) = (43 : Int32) then (1 : Int32) else (if (own_c p1) < (45 : Int32) then (0 : Int32) else (if (126 : Int32) < (own_c p1) then (0 : Int32) else (1 : Int32)))) else (if (41 : Int32) < (own_c p1) then (if (own_c p1) = (43 : Int32) then (1 : Int32) else (if (own_c p1) < (45 : Int32) then (0 : Int32) else (if (126 : Int32) < (own_c p1) then (0 : Int32) else (1 : Int32)))) else (1 : Int32))) else (if (33 : Int32) < (own_c p1) then (if (own_c p1) < (35 : Int32) then (if (own_c p1) = (43 : Int32) then (1 : Int32) else (if (own_c p1) < (45 : Int32) then (0 : Int32) else (if (126 : Int32) < (own_c p1) then (0 : Int32) else (1 : Int32)))) else (if (41 : Int32) < (own_c p1) then (if (own_c p1) = (43 : Int32) then (1 : Int32) else (if (own_c p1) < (45 : Int32) then (0 : Int32) else (if (126 : Int32) < (own_c p1) then (0 : Int32) else (1 : Int32)))) else (1 : Int32))) else (1 : Int32))) = (0 : Int32) := by simp only [if_pos hm8_2, if_neg hm20_3, if_pos hm26_7, if_neg hm32_8, if_pos hm38_9]
              exact Eq.subst (motive := fun x => Steps p.tables e below (s₁.setTop (mkF m 52 #[.val (.int p1), .val (.int (own_c p1)), .val (.int (own_c p1)), .unset] [(.int x)])) t) q k
            · refine XS.icmpNo X0.here hx rfl (hb hby at_38) rfl (flt hm38_9).1 ?_
              show Steps p.tables e below (s₁.setTop (mkF m 41 #[.val (.int p1), .val (.int (own_c p1)), .val (.int (own_c p1)), .unset] [])) _
              refine XS.iloadN X0.here hx rfl (hb hby at_41) rfl ?_
              show Steps p.tables e below (s₁.setTop (mkF m 42 #[.val (.int p1), .val (.int (own_c p1)), .val (.int (own_c p1)), .unset] [(.int (own_c p1))])) _
              refine XS.bipush X0.here hx rfl (hb hby at_42) ?_
              show Steps p.tables e below (s₁.setTop (mkF m 44 #[.val (.int p1), .val (.int (own_c p1)), .val (.int (own_c p1)), .unset] [(.int (126 : Int32)), (.int (own_c p1))])) _
              by_cases hm44_10 : (126 : Int32) < (own_c p1)
              · refine XS.icmpYes X0.here hx rfl (pc0 := 44) (pc' := 51) rfl (hb hby at_44) rfl (tlt hm44_10).2.2.1 (by decide) (by decide) ?_
                show Steps p.tables e below (s₁.setTop (mkF m 51 #[.val (.int p1), .val (.int (own_c p1)), .val (.int (own_c p1)), .unset] [])) _
                refine XS.iconst X0.here hx rfl (hb hby at_51) ?_
                show Steps p.tables e below (s₁.setTop (mkF m 52 #[.val (.int p1), .val (.int (own_c p1)), .val (.int (own_c p1)), .unset] [(.int (0 : Int32))])) _
                have q : (if (own_c p1) < (32 : Int32) then (if (own_c p1) < (35 : Int32) then (if (own_c p1) = (43 : Int32) then (1 : Int32) else (if (own_c p1) < (45 : Int32) then (0 : Int32) else (if (126 : Int32) < (own_c p1) then (0 : Int32) else (1 : Int32)))) else (if (41 : Int32) < (own_c p1) then (if (own_c p1) = (43 : Int32) then (1 : Int32) else (if (own_c p1) < (45 : Int32) then (0 : Int32) else (if (126 : Int32) < (own_c p1) then (0 : Int32) else (1 : Int32)))) else (1 : Int32))) else (if (33 : Int32) < (own_c p1) then (if (own_c p1) < (35 : Int32) then (if (own_c p1) = (43 : Int32) then (1 : Int32) else (if (own_c p1) < (45 : Int32) then (0 : Int32) else (if (126 : Int32) < (own_c p1) then (0 : Int32) else (1 : Int32)))) else (if (41 : Int32) < (own_c p1) then (if (own_c p1) = (43 : Int32) then (1 : Int32) else (if (own_c p1) < (45 : Int32) then (0 : Int32) else (if (126 : Int32) < (own_c p1) then (0 : Int32) else (1 : Int32)))) else (1 : Int32))) else (1 : Int32))) = (0 : Int32) := by simp only [if_pos hm8_2, if_neg hm20_3, if_pos hm26_7, if_neg hm32_8, if_neg hm38_9, if_pos hm44_10]
                exact Eq.subst (motive := fun x => Steps p.tables e below (s₁.setTop (mkF m 52 #[.val (.int p1), .val (.int (own_c p1)), .val (.int (own_c p1)), .unset] [(.int x)])) t) q k
              · refine XS.icmpNo X0.here hx rfl (hb hby at_44) rfl (flt hm44_10).2.2.1 ?_
                show Steps p.tables e below (s₁.setTop (mkF m 47 #[.val (.int p1), .val (.int (own_c p1)), .val (.int (own_c p1)), .unset] [])) _
                refine XS.iconst X0.here hx rfl (hb hby at_47) ?_
                show Steps p.tables e below (s₁.setTop (mkF m 48 #[.val (.int p1), .val (.int (own_c p1)), .val (.int (own_c p1)), .unset] [(.int (1 : Int32))])) _
                refine XS.goto X0.here hx rfl (pc0 := 48) (pc' := 52) rfl (hb hby at_48) (by decide) (by decide) ?_
                show Steps p.tables e below (s₁.setTop (mkF m 52 #[.val (.int p1), .val (.int (own_c p1)), .val (.int (own_c p1)), .unset] [(.int (1 : Int32))])) _
                have q : (if (own_c p1) < (32 : Int32) then (if (own_c p1) < (35 : Int32) then (if (own_c p1) = (43 : Int32) then (1 : Int32) else (if (own_c p1) < (45 : Int32) then (0 : Int32) else (if (126 : Int32) < (own_c p1) then (0 : Int32) else (1 : Int32)))) else (if (41 : Int32) < (own_c p1) then (if (own_c p1) = (43 : Int32) then (1 : Int32) else (if (own_c p1) < (45 : Int32) then (0 : Int32) else (if (126 : Int32) < (own_c p1) then (0 : Int32) else (1 : Int32)))) else (1 : Int32))) else (if (33 : Int32) < (own_c p1) then (if (own_c p1) < (35 : Int32) then (if (own_c p1) = (43 : Int32) then (1 : Int32) else (if (own_c p1) < (45 : Int32) then (0 : Int32) else (if (126 : Int32) < (own_c p1) then (0 : Int32) else (1 : Int32)))) else (if (41 : Int32) < (own_c p1) then (if (own_c p1) = (43 : Int32) then (1 : Int32) else (if (own_c p1) < (45 : Int32) then (0 : Int32) else (if (126 : Int32) < (own_c p1) then (0 : Int32) else (1 : Int32)))) else (1 : Int32))) else (1 : Int32))) = (1 : Int32) := by simp only [if_pos hm8_2, if_neg hm20_3, if_pos hm26_7, if_neg hm32_8, if_neg hm38_9, if_neg hm44_10]
                exact Eq.subst (motive := fun x => Steps p.tables e below (s₁.setTop (mkF m 52 #[.val (.int p1), .val (.int (own_c p1)), .val (.int (own_c p1)), .unset] [(.int x)])) t) q k
        · refine XS.icmpYes X0.here hx rfl (pc0 := 26) (pc' := 47) rfl (hb hby at_26) rfl (flt hm26_7).2.2.2 (by decide) (by decide) ?_
          show Steps p.tables e below (s₁.setTop (mkF m 47 #[.val (.int p1), .val (.int (own_c p1)), .val (.int (own_c p1)), .unset] [])) _
          refine XS.iconst X0.here hx rfl (hb hby at_47) ?_
          show Steps p.tables e below (s₁.setTop (mkF m 48 #[.val (.int p1), .val (.int (own_c p1)), .val (.int (own_c p1)), .unset] [(.int (1 : Int32))])) _
          refine XS.goto X0.here hx rfl (pc0 := 48) (pc' := 52) rfl (hb hby at_48) (by decide) (by decide) ?_
          show Steps p.tables e below (s₁.setTop (mkF m 52 #[.val (.int p1), .val (.int (own_c p1)), .val (.int (own_c p1)), .unset] [(.int (1 : Int32))])) _
          have q : (if (own_c p1) < (32 : Int32) then (if (own_c p1) < (35 : Int32) then (if (own_c p1) = (43 : Int32) then (1 : Int32) else (if (own_c p1) < (45 : Int32) then (0 : Int32) else (if (126 : Int32) < (own_c p1) then (0 : Int32) else (1 : Int32)))) else (if (41 : Int32) < (own_c p1) then (if (own_c p1) = (43 : Int32) then (1 : Int32) else (if (own_c p1) < (45 : Int32) then (0 : Int32) else (if (126 : Int32) < (own_c p1) then (0 : Int32) else (1 : Int32)))) else (1 : Int32))) else (if (33 : Int32) < (own_c p1) then (if (own_c p1) < (35 : Int32) then (if (own_c p1) = (43 : Int32) then (1 : Int32) else (if (own_c p1) < (45 : Int32) then (0 : Int32) else (if (126 : Int32) < (own_c p1) then (0 : Int32) else (1 : Int32)))) else (if (41 : Int32) < (own_c p1) then (if (own_c p1) = (43 : Int32) then (1 : Int32) else (if (own_c p1) < (45 : Int32) then (0 : Int32) else (if (126 : Int32) < (own_c p1) then (0 : Int32) else (1 : Int32)))) else (1 : Int32))) else (1 : Int32))) = (1 : Int32) := by simp only [if_pos hm8_2, if_neg hm20_3, if_neg hm26_7]
          exact Eq.subst (motive := fun x => Steps p.tables e below (s₁.setTop (mkF m 52 #[.val (.int p1), .val (.int (own_c p1)), .val (.int (own_c p1)), .unset] [(.int x)])) t) q k
    · refine XS.icmpNo X0.here hx rfl (hb hby at_8) rfl (flt hm8_2).1 ?_
      show Steps p.tables e below (s₁.setTop (mkF m 11 #[.val (.int p1), .val (.int (own_c p1)), .val (.int (own_c p1)), .unset] [])) _
      refine XS.iloadN X0.here hx rfl (hb hby at_11) rfl ?_
      show Steps p.tables e below (s₁.setTop (mkF m 12 #[.val (.int p1), .val (.int (own_c p1)), .val (.int (own_c p1)), .unset] [(.int (own_c p1))])) _
      refine XS.bipush X0.here hx rfl (hb hby at_12) ?_
      show Steps p.tables e below (s₁.setTop (mkF m 14 #[.val (.int p1), .val (.int (own_c p1)), .val (.int (own_c p1)), .unset] [(.int (33 : Int32)), (.int (own_c p1))])) _
      by_cases hm14_11 : (33 : Int32) < (own_c p1)
      · refine XS.icmpNo X0.here hx rfl (hb hby at_14) rfl (tlt hm14_11).2.2.2 ?_
        show Steps p.tables e below (s₁.setTop (mkF m 17 #[.val (.int p1), .val (.int (own_c p1)), .val (.int (own_c p1)), .unset] [])) _
        refine XS.iloadN X0.here hx rfl (hb hby at_17) rfl ?_
        show Steps p.tables e below (s₁.setTop (mkF m 18 #[.val (.int p1), .val (.int (own_c p1)), .val (.int (own_c p1)), .unset] [(.int (own_c p1))])) _
        refine XS.bipush X0.here hx rfl (hb hby at_18) ?_
        show Steps p.tables e below (s₁.setTop (mkF m 20 #[.val (.int p1), .val (.int (own_c p1)), .val (.int (own_c p1)), .unset] [(.int (35 : Int32)), (.int (own_c p1))])) _
        by_cases hm20_12 : (own_c p1) < (35 : Int32)
        · refine XS.icmpYes X0.here hx rfl (pc0 := 20) (pc' := 29) rfl (hb hby at_20) rfl (tlt hm20_12).1 (by decide) (by decide) ?_
          show Steps p.tables e below (s₁.setTop (mkF m 29 #[.val (.int p1), .val (.int (own_c p1)), .val (.int (own_c p1)), .unset] [])) _
          refine XS.iloadN X0.here hx rfl (hb hby at_29) rfl ?_
          show Steps p.tables e below (s₁.setTop (mkF m 30 #[.val (.int p1), .val (.int (own_c p1)), .val (.int (own_c p1)), .unset] [(.int (own_c p1))])) _
          refine XS.bipush X0.here hx rfl (hb hby at_30) ?_
          show Steps p.tables e below (s₁.setTop (mkF m 32 #[.val (.int p1), .val (.int (own_c p1)), .val (.int (own_c p1)), .unset] [(.int (43 : Int32)), (.int (own_c p1))])) _
          by_cases hm32_13 : (own_c p1) = (43 : Int32)
          · refine XS.icmpYes X0.here hx rfl (pc0 := 32) (pc' := 47) rfl (hb hby at_32) rfl (teq hm32_13).1 (by decide) (by decide) ?_
            show Steps p.tables e below (s₁.setTop (mkF m 47 #[.val (.int p1), .val (.int (own_c p1)), .val (.int (own_c p1)), .unset] [])) _
            refine XS.iconst X0.here hx rfl (hb hby at_47) ?_
            show Steps p.tables e below (s₁.setTop (mkF m 48 #[.val (.int p1), .val (.int (own_c p1)), .val (.int (own_c p1)), .unset] [(.int (1 : Int32))])) _
            refine XS.goto X0.here hx rfl (pc0 := 48) (pc' := 52) rfl (hb hby at_48) (by decide) (by decide) ?_
            show Steps p.tables e below (s₁.setTop (mkF m 52 #[.val (.int p1), .val (.int (own_c p1)), .val (.int (own_c p1)), .unset] [(.int (1 : Int32))])) _
            have q : (if (own_c p1) < (32 : Int32) then (if (own_c p1) < (35 : Int32) then (if (own_c p1) = (43 : Int32) then (1 : Int32) else (if (own_c p1) < (45 : Int32) then (0 : Int32) else (if (126 : Int32) < (own_c p1) then (0 : Int32) else (1 : Int32)))) else (if (41 : Int32) < (own_c p1) then (if (own_c p1) = (43 : Int32) then (1 : Int32) else (if (own_c p1) < (45 : Int32) then (0 : Int32) else (if (126 : Int32) < (own_c p1) then (0 : Int32) else (1 : Int32)))) else (1 : Int32))) else (if (33 : Int32) < (own_c p1) then (if (own_c p1) < (35 : Int32) then (if (own_c p1) = (43 : Int32) then (1 : Int32) else (if (own_c p1) < (45 : Int32) then (0 : Int32) else (if (126 : Int32) < (own_c p1) then (0 : Int32) else (1 : Int32)))) else (if (41 : Int32) < (own_c p1) then (if (own_c p1) = (43 : Int32) then (1 : Int32) else (if (own_c p1) < (45 : Int32) then (0 : Int32) else (if (126 : Int32) < (own_c p1) then (0 : Int32) else (1 : Int32)))) else (1 : Int32))) else (1 : Int32))) = (1 : Int32) := by simp only [if_neg hm8_2, if_pos hm14_11, if_pos hm20_12, if_pos hm32_13]
            exact Eq.subst (motive := fun x => Steps p.tables e below (s₁.setTop (mkF m 52 #[.val (.int p1), .val (.int (own_c p1)), .val (.int (own_c p1)), .unset] [(.int x)])) t) q k
          · refine XS.icmpNo X0.here hx rfl (hb hby at_32) rfl (feq hm32_13).1 ?_
            show Steps p.tables e below (s₁.setTop (mkF m 35 #[.val (.int p1), .val (.int (own_c p1)), .val (.int (own_c p1)), .unset] [])) _
            refine XS.iloadN X0.here hx rfl (hb hby at_35) rfl ?_
            show Steps p.tables e below (s₁.setTop (mkF m 36 #[.val (.int p1), .val (.int (own_c p1)), .val (.int (own_c p1)), .unset] [(.int (own_c p1))])) _
            refine XS.bipush X0.here hx rfl (hb hby at_36) ?_
            show Steps p.tables e below (s₁.setTop (mkF m 38 #[.val (.int p1), .val (.int (own_c p1)), .val (.int (own_c p1)), .unset] [(.int (45 : Int32)), (.int (own_c p1))])) _
            by_cases hm38_14 : (own_c p1) < (45 : Int32)
            · refine XS.icmpYes X0.here hx rfl (pc0 := 38) (pc' := 51) rfl (hb hby at_38) rfl (tlt hm38_14).1 (by decide) (by decide) ?_
              show Steps p.tables e below (s₁.setTop (mkF m 51 #[.val (.int p1), .val (.int (own_c p1)), .val (.int (own_c p1)), .unset] [])) _
              refine XS.iconst X0.here hx rfl (hb hby at_51) ?_
              show Steps p.tables e below (s₁.setTop (mkF m 52 #[.val (.int p1), .val (.int (own_c p1)), .val (.int (own_c p1)), .unset] [(.int (0 : Int32))])) _
              have q : (if (own_c p1) < (32 : Int32) then (if (own_c p1) < (35 : Int32) then (if (own_c p1) = (43 : Int32) then (1 : Int32) else (if (own_c p1) < (45 : Int32) then (0 : Int32) else (if (126 : Int32) < (own_c p1) then (0 : Int32) else (1 : Int32)))) else (if (41 : Int32) < (own_c p1) then (if (own_c p1) = (43 : Int32) then (1 : Int32) else (if (own_c p1) < (45 : Int32) then (0 : Int32) else (if (126 : Int32) < (own_c p1) then (0 : Int32) else (1 : Int32)))) else (1 : Int32))) else (if (33 : Int32) < (own_c p1) then (if (own_c p1) < (35 : Int32) then (if (own_c p1) = (43 : Int32) then (1 : Int32) else (if (own_c p1) < (45 : Int32) then (0 : Int32) else (if (126 : Int32) < (own_c p1) then (0 : Int32) else (1 : Int32)))) else (if (41 : Int32) < (own_c p1) then (if (own_c p1) = (43 : Int32) then (1 : Int32) else (if (own_c p1) < (45 : Int32) then (0 : Int32) else (if (126 : Int32) < (own_c p1) then (0 : Int32) else (1 : Int32)))) else (1 : Int32))) else (1 : Int32))) = (0 : Int32) := by simp only [if_neg hm8_2, if_pos hm14_11, if_pos hm20_12, if_neg hm32_13, if_pos hm38_14]
              exact Eq.subst (motive := fun x => Steps p.tables e below (s₁.setTop (mkF m 52 #[.val (.int p1), .val (.int (own_c p1)), .val (.int (own_c p1)), .unset] [(.int x)])) t) q k
            · refine XS.icmpNo X0.here hx rfl (hb hby at_38) rfl (flt hm38_14).1 ?_
              show Steps p.tables e below (s₁.setTop (mkF m 41 #[.val (.int p1), .val (.int (own_c p1)), .val (.int (own_c p1)), .unset] [])) _
              refine XS.iloadN X0.here hx rfl (hb hby at_41) rfl ?_
              show Steps p.tables e below (s₁.setTop (mkF m 42 #[.val (.int p1), .val (.int (own_c p1)), .val (.int (own_c p1)), .unset] [(.int (own_c p1))])) _
              refine XS.bipush X0.here hx rfl (hb hby at_42) ?_
              show Steps p.tables e below (s₁.setTop (mkF m 44 #[.val (.int p1), .val (.int (own_c p1)), .val (.int (own_c p1)), .unset] [(.int (126 : Int32)), (.int (own_c p1))])) _
              by_cases hm44_15 : (126 : Int32) < (own_c p1)
              · refine XS.icmpYes X0.here hx rfl (pc0 := 44) (pc' := 51) rfl (hb hby at_44) rfl (tlt hm44_15).2.2.1 (by decide) (by decide) ?_
                show Steps p.tables e below (s₁.setTop (mkF m 51 #[.val (.int p1), .val (.int (own_c p1)), .val (.int (own_c p1)), .unset] [])) _
                refine XS.iconst X0.here hx rfl (hb hby at_51) ?_
                show Steps p.tables e below (s₁.setTop (mkF m 52 #[.val (.int p1), .val (.int (own_c p1)), .val (.int (own_c p1)), .unset] [(.int (0 : Int32))])) _
                have q : (if (own_c p1) < (32 : Int32) then (if (own_c p1) < (35 : Int32) then (if (own_c p1) = (43 : Int32) then (1 : Int32) else (if (own_c p1) < (45 : Int32) then (0 : Int32) else (if (126 : Int32) < (own_c p1) then (0 : Int32) else (1 : Int32)))) else (if (41 : Int32) < (own_c p1) then (if (own_c p1) = (43 : Int32) then (1 : Int32) else (if (own_c p1) < (45 : Int32) then (0 : Int32) else (if (126 : Int32) < (own_c p1) then (0 : Int32) else (1 : Int32)))) else (1 : Int32))) else (if (33 : Int32) < (own_c p1) then (if (own_c p1) < (35 : Int32) then (if (own_c p1) = (43 : Int32) then (1 : Int32) else (if (own_c p1) < (45 : Int32) then (0 : Int32) else (if (126 : Int32) < (own_c p1) then (0 : Int32) else (1 : Int32)))) else (if (41 : Int32) < (own_c p1) then (if (own_c p1) = (43 : Int32) then (1 : Int32) else (if (own_c p1) < (45 : Int32) then (0 : Int32) else (if (126 : Int32) < (own_c p1) then (0 : Int32) else (1 : Int32)))) else (1 : Int32))) else (1 : Int32))) = (0 : Int32) := by simp only [if_neg hm8_2, if_pos hm14_11, if_pos hm20_12, if_neg hm32_13, if_neg hm38_14, if_pos hm44_15]
                exact Eq.subst (motive := fun x => Steps p.tables e below (s₁.setTop (mkF m 52 #[.val (.int p1), .val (.int (own_c p1)), .val (.int (own_c p1)), .unset] [(.int x)])) t) q k
              · refine XS.icmpNo X0.here hx rfl (hb hby at_44) rfl (flt hm44_15).2.2.1 ?_
                show Steps p.tables e below (s₁.setTop (mkF m 47 #[.val (.int p1), .val (.int (own_c p1)), .val (.int (own_c p1)), .unset] [])) _
                refine XS.iconst X0.here hx rfl (hb hby at_47) ?_
                show Steps p.tables e below (s₁.setTop (mkF m 48 #[.val (.int p1), .val (.int (own_c p1)), .val (.int (own_c p1)), .unset] [(.int (1 : Int32))])) _
                refine XS.goto X0.here hx rfl (pc0 := 48) (pc' := 52) rfl (hb hby at_48) (by decide) (by decide) ?_
                show Steps p.tables e below (s₁.setTop (mkF m 52 #[.val (.int p1), .val (.int (own_c p1)), .val (.int (own_c p1)), .unset] [(.int (1 : Int32))])) _
                have q : (if (own_c p1) < (32 : Int32) then (if (own_c p1) < (35 : Int32) then (if (own_c p1) = (43 : Int32) then (1 : Int32) else (if (own_c p1) < (45 : Int32) then (0 : Int32) else (if (126 : Int32) < (own_c p1) then (0 : Int32) else (1 : Int32)))) else (if (41 : Int32) < (own_c p1) then (if (own_c p1) = (43 : Int32) then (1 : Int32) else (if (own_c p1) < (45 : Int32) then (0 : Int32) else (if (126 : Int32) < (own_c p1) then (0 : Int32) else (1 : Int32)))) else (1 : Int32))) else (if (33 : Int32) < (own_c p1) then (if (own_c p1) < (35 : Int32) then (if (own_c p1) = (43 : Int32) then (1 : Int32) else (if (own_c p1) < (45 : Int32) then (0 : Int32) else (if (126 : Int32) < (own_c p1) then (0 : Int32) else (1 : Int32)))) else (if (41 : Int32) < (own_c p1) then (if (own_c p1) = (43 : Int32) then (1 : Int32) else (if (own_c p1) < (45 : Int32) then (0 : Int32) else (if (126 : Int32) < (own_c p1) then (0 : Int32) else (1 : Int32)))) else (1 : Int32))) else (1 : Int32))) = (1 : Int32) := by simp only [if_neg hm8_2, if_pos hm14_11, if_pos hm20_12, if_neg hm32_13, if_neg hm38_14, if_neg hm44_15]
                exact Eq.subst (motive := fun x => Steps p.tables e below (s₁.setTop (mkF m 52 #[.val (.int p1), .val (.int (own_c p1)), .val (.int (own_c p1)), .unset] [(.int x)])) t) q k
        · refine XS.icmpNo X0.here hx rfl (hb hby at_20) rfl (flt hm20_12).1 ?_
          show Steps p.tables e below (s₁.setTop (mkF m 23 #[.val (.int p1), .val (.int (own_c p1)), .val (.int (own_c p1)), .unset] [])) _
          refine XS.iloadN X0.here hx rfl (hb hby at_23) rfl ?_
          show Steps p.tables e below (s₁.setTop (mkF m 24 #[.val (.int p1), .val (.int (own_c p1)), .val (.int (own_c p1)), .unset] [(.int (own_c p1))])) _
          refine XS.bipush X0.here hx rfl (hb hby at_24) ?_
          show Steps p.tables e below (s₁.setTop (mkF m 26 #[.val (.int p1), .val (.int (own_c p1)), .val (.int (own_c p1)), .unset] [(.int (41 : Int32)), (.int (own_c p1))])) _
          by_cases hm26_16 : (41 : Int32) < (own_c p1)
          · refine XS.icmpNo X0.here hx rfl (hb hby at_26) rfl (tlt hm26_16).2.2.2 ?_
            show Steps p.tables e below (s₁.setTop (mkF m 29 #[.val (.int p1), .val (.int (own_c p1)), .val (.int (own_c p1)), .unset] [])) _
            refine XS.iloadN X0.here hx rfl (hb hby at_29) rfl ?_
            show Steps p.tables e below (s₁.setTop (mkF m 30 #[.val (.int p1), .val (.int (own_c p1)), .val (.int (own_c p1)), .unset] [(.int (own_c p1))])) _
            refine XS.bipush X0.here hx rfl (hb hby at_30) ?_
            show Steps p.tables e below (s₁.setTop (mkF m 32 #[.val (.int p1), .val (.int (own_c p1)), .val (.int (own_c p1)), .unset] [(.int (43 : Int32)), (.int (own_c p1))])) _
            by_cases hm32_17 : (own_c p1) = (43 : Int32)
            · refine XS.icmpYes X0.here hx rfl (pc0 := 32) (pc' := 47) rfl (hb hby at_32) rfl (teq hm32_17).1 (by decide) (by decide) ?_
              show Steps p.tables e below (s₁.setTop (mkF m 47 #[.val (.int p1), .val (.int (own_c p1)), .val (.int (own_c p1)), .unset] [])) _
              refine XS.iconst X0.here hx rfl (hb hby at_47) ?_
              show Steps p.tables e below (s₁.setTop (mkF m 48 #[.val (.int p1), .val (.int (own_c p1)), .val (.int (own_c p1)), .unset] [(.int (1 : Int32))])) _
              refine XS.goto X0.here hx rfl (pc0 := 48) (pc' := 52) rfl (hb hby at_48) (by decide) (by decide) ?_
              show Steps p.tables e below (s₁.setTop (mkF m 52 #[.val (.int p1), .val (.int (own_c p1)), .val (.int (own_c p1)), .unset] [(.int (1 : Int32))])) _
              have q : (if (own_c p1) < (32 : Int32) then (if (own_c p1) < (35 : Int32) then (if (own_c p1) = (43 : Int32) then (1 : Int32) else (if (own_c p1) < (45 : Int32) then (0 : Int32) else (if (126 : Int32) < (own_c p1) then (0 : Int32) else (1 : Int32)))) else (if (41 : Int32) < (own_c p1) then (if (own_c p1) = (43 : Int32) then (1 : Int32) else (if (own_c p1) < (45 : Int32) then (0 : Int32) else (if (126 : Int32) < (own_c p1) then (0 : Int32) else (1 : Int32)))) else (1 : Int32))) else (if (33 : Int32) < (own_c p1) then (if (own_c p1) < (35 : Int32) then (if (own_c p1) = (43 : Int32) then (1 : Int32) else (if (own_c p1) < (45 : Int32) then (0 : Int32) else (if (126 : Int32) < (own_c p1) then (0 : Int32) else (1 : Int32)))) else (if (41 : Int32) < (own_c p1) then (if (own_c p1) = (43 : Int32) then (1 : Int32) else (if (own_c p1) < (45 : Int32) then (0 : Int32) else (if (126 : Int32) < (own_c p1) then (0 : Int32) else (1 : Int32)))) else (1 : Int32))) else (1 : Int32))) = (1 : Int32) := by simp only [if_neg hm8_2, if_pos hm14_11, if_neg hm20_12, if_pos hm26_16, if_pos hm32_17]
              exact Eq.subst (motive := fun x => Steps p.tables e below (s₁.setTop (mkF m 52 #[.val (.int p1), .val (.int (own_c p1)), .val (.int (own_c p1)), .unset] [(.int x)])) t) q k
            · refine XS.icmpNo X0.here hx rfl (hb hby at_32) rfl (feq hm32_17).1 ?_
              show Steps p.tables e below (s₁.setTop (mkF m 35 #[.val (.int p1), .val (.int (own_c p1)), .val (.int (own_c p1)), .unset] [])) _
              refine XS.iloadN X0.here hx rfl (hb hby at_35) rfl ?_
              show Steps p.tables e below (s₁.setTop (mkF m 36 #[.val (.int p1), .val (.int (own_c p1)), .val (.int (own_c p1)), .unset] [(.int (own_c p1))])) _
              refine XS.bipush X0.here hx rfl (hb hby at_36) ?_
              show Steps p.tables e below (s₁.setTop (mkF m 38 #[.val (.int p1), .val (.int (own_c p1)), .val (.int (own_c p1)), .unset] [(.int (45 : Int32)), (.int (own_c p1))])) _
              by_cases hm38_18 : (own_c p1) < (45 : Int32)
              · refine XS.icmpYes X0.here hx rfl (pc0 := 38) (pc' := 51) rfl (hb hby at_38) rfl (tlt hm38_18).1 (by decide) (by decide) ?_
                show Steps p.tables e below (s₁.setTop (mkF m 51 #[.val (.int p1), .val (.int (own_c p1)), .val (.int (own_c p1)), .unset] [])) _
                refine XS.iconst X0.here hx rfl (hb hby at_51) ?_
                show Steps p.tables e below (s₁.setTop (mkF m 52 #[.val (.int p1), .val (.int (own_c p1)), .val (.int (own_c p1)), .unset] [(.int (0 : Int32))])) _
                have q : (if (own_c p1) < (32 : Int32) then (if (own_c p1) < (35 : Int32) then (if (own_c p1) = (43 : Int32) then (1 : Int32) else (if (own_c p1) < (45 : Int32) then (0 : Int32) else (if (126 : Int32) < (own_c p1) then (0 : Int32) else (1 : Int32)))) else (if (41 : Int32) < (own_c p1) then (if (own_c p1) = (43 : Int32) then (1 : Int32) else (if (own_c p1) < (45 : Int32) then (0 : Int32) else (if (126 : Int32) < (own_c p1) then (0 : Int32) else (1 : Int32)))) else (1 : Int32))) else (if (33 : Int32) < (own_c p1) then (if (own_c p1) < (35 : Int32) then (if (own_c p1) = (43 : Int32) then (1 : Int32) else (if (own_c p1) < (45 : Int32) then (0 : Int32) else (if (126 : Int32) < (own_c p1) then (0 : Int32) else (1 : Int32)))) else (if (41 : Int32) < (own_c p1) then (if (own_c p1) = (43 : Int32) then (1 : Int32) else (if (own_c p1) < (45 : Int32) then (0 : Int32) else (if (126 : Int32) < (own_c p1) then (0 : Int32) else (1 : Int32)))) else (1 : Int32))) else (1 : Int32))) = (0 : Int32) := by simp only [if_neg hm8_2, if_pos hm14_11, if_neg hm20_12, if_pos hm26_16, if_neg hm32_17, if_pos hm38_18]
                exact Eq.subst (motive := fun x => Steps p.tables e below (s₁.setTop (mkF m 52 #[.val (.int p1), .val (.int (own_c p1)), .val (.int (own_c p1)), .unset] [(.int x)])) t) q k
              · refine XS.icmpNo X0.here hx rfl (hb hby at_38) rfl (flt hm38_18).1 ?_
                show Steps p.tables e below (s₁.setTop (mkF m 41 #[.val (.int p1), .val (.int (own_c p1)), .val (.int (own_c p1)), .unset] [])) _
                refine XS.iloadN X0.here hx rfl (hb hby at_41) rfl ?_
                show Steps p.tables e below (s₁.setTop (mkF m 42 #[.val (.int p1), .val (.int (own_c p1)), .val (.int (own_c p1)), .unset] [(.int (own_c p1))])) _
                refine XS.bipush X0.here hx rfl (hb hby at_42) ?_
                show Steps p.tables e below (s₁.setTop (mkF m 44 #[.val (.int p1), .val (.int (own_c p1)), .val (.int (own_c p1)), .unset] [(.int (126 : Int32)), (.int (own_c p1))])) _
                by_cases hm44_19 : (126 : Int32) < (own_c p1)
                · refine XS.icmpYes X0.here hx rfl (pc0 := 44) (pc' := 51) rfl (hb hby at_44) rfl (tlt hm44_19).2.2.1 (by decide) (by decide) ?_
                  show Steps p.tables e below (s₁.setTop (mkF m 51 #[.val (.int p1), .val (.int (own_c p1)), .val (.int (own_c p1)), .unset] [])) _
                  refine XS.iconst X0.here hx rfl (hb hby at_51) ?_
                  show Steps p.tables e below (s₁.setTop (mkF m 52 #[.val (.int p1), .val (.int (own_c p1)), .val (.int (own_c p1)), .unset] [(.int (0 : Int32))])) _
                  have q : (if (own_c p1) < (32 : Int32) then (if (own_c p1) < (35 : Int32) then (if (own_c p1) = (43 : Int32) then (1 : Int32) else (if (own_c p1) < (45 : Int32) then (0 : Int32) else (if (126 : Int32) < (own_c p1) then (0 : Int32) else (1 : Int32)))) else (if (41 : Int32) < (own_c p1) then (if (own_c p1) = (43 : Int32) then (1 : Int32) else (if (own_c p1) < (45 : Int32) then (0 : Int32) else (if (126 : Int32) < (own_c p1) then (0 : Int32) else (1 : Int32)))) else (1 : Int32))) else (if (33 : Int32) < (own_c p1) then (if (own_c p1) < (35 : Int32) then (if (own_c p1) = (43 : Int32) then (1 : Int32) else (if (own_c p1) < (45 : Int32) then (0 : Int32) else (if (126 : Int32) < (own_c p1) then (0 : Int32) else (1 : Int32)))) else (if (41 : Int32) < (own_c p1) then (if (own_c p1) = (43 : Int32) then (1 : Int32) else (if (own_c p1) < (45 : Int32) then (0 : Int32) else (if (126 : Int32) < (own_c p1) then (0 : Int32) else (1 : Int32)))) else (1 : Int32))) else (1 : Int32))) = (0 : Int32) := by simp only [if_neg hm8_2, if_pos hm14_11, if_neg hm20_12, if_pos hm26_16, if_neg hm32_17, if_neg hm38_18, if_pos hm44_19]
                  exact Eq.subst (motive := fun x => Steps p.tables e below (s₁.setTop (mkF m 52 #[.val (.int p1), .val (.int (own_c p1)), .val (.int (own_c p1)), .unset] [(.int x)])) t) q k
                · refine XS.icmpNo X0.here hx rfl (hb hby at_44) rfl (flt hm44_19).2.2.1 ?_
                  show Steps p.tables e below (s₁.setTop (mkF m 47 #[.val (.int p1), .val (.int (own_c p1)), .val (.int (own_c p1)), .unset] [])) _
                  refine XS.iconst X0.here hx rfl (hb hby at_47) ?_
                  show Steps p.tables e below (s₁.setTop (mkF m 48 #[.val (.int p1), .val (.int (own_c p1)), .val (.int (own_c p1)), .unset] [(.int (1 : Int32))])) _
                  refine XS.goto X0.here hx rfl (pc0 := 48) (pc' := 52) rfl (hb hby at_48) (by decide) (by decide) ?_
                  show Steps p.tables e below (s₁.setTop (mkF m 52 #[.val (.int p1), .val (.int (own_c p1)), .val (.int (own_c p1)), .unset] [(.int (1 : Int32))])) _
                  have q : (if (own_c p1) < (32 : Int32) then (if (own_c p1) < (35 : Int32) then (if (own_c p1) = (43 : Int32) then (1 : Int32) else (if (own_c p1) < (45 : Int32) then (0 : Int32) else (if (126 : Int32) < (own_c p1) then (0 : Int32) else (1 : Int32)))) else (if (41 : Int32) < (own_c p1) then (if (own_c p1) = (43 : Int32) then (1 : Int32) else (if (own_c p1) < (45 : Int32) then (0 : Int32) else (if (126 : Int32) < (own_c p1) then (0 : Int32) else (1 : Int32)))) else (1 : Int32))) else (if (33 : Int32) < (own_c p1) then (if (own_c p1) < (35 : Int32) then (if (own_c p1) = (43 : Int32) then (1 : Int32) else (if (own_c p1) < (45 : Int32) then (0 : Int32) else (if (126 : Int32) < (own_c p1) then (0 : Int32) else (1 : Int32)))) else (if (41 : Int32) < (own_c p1) then (if (own_c p1) = (43 : Int32) then (1 : Int32) else (if (own_c p1) < (45 : Int32) then (0 : Int32) else (if (126 : Int32) < (own_c p1) then (0 : Int32) else (1 : Int32)))) else (1 : Int32))) else (1 : Int32))) = (1 : Int32) := by simp only [if_neg hm8_2, if_pos hm14_11, if_neg hm20_12, if_pos hm26_16, if_neg hm32_17, if_neg hm38_18, if_neg hm44_19]
                  exact Eq.subst (motive := fun x => Steps p.tables e below (s₁.setTop (mkF m 52 #[.val (.int p1), .val (.int (own_c p1)), .val (.int (own_c p1)), .unset] [(.int x)])) t) q k
          · refine XS.icmpYes X0.here hx rfl (pc0 := 26) (pc' := 47) rfl (hb hby at_26) rfl (flt hm26_16).2.2.2 (by decide) (by decide) ?_
            show Steps p.tables e below (s₁.setTop (mkF m 47 #[.val (.int p1), .val (.int (own_c p1)), .val (.int (own_c p1)), .unset] [])) _
            refine XS.iconst X0.here hx rfl (hb hby at_47) ?_
            show Steps p.tables e below (s₁.setTop (mkF m 48 #[.val (.int p1), .val (.int (own_c p1)), .val (.int (own_c p1)), .unset] [(.int (1 : Int32))])) _
            refine XS.goto X0.here hx rfl (pc0 := 48) (pc' := 52) rfl (hb hby at_48) (by decide) (by decide) ?_
            show Steps p.tables e below (s₁.setTop (mkF m 52 #[.val (.int p1), .val (.int (own_c p1)), .val (.int (own_c p1)), .unset] [(.int (1 : Int32))])) _
            have q : (if (own_c p1) < (32 : Int32) then (if (own_c p1) < (35 : Int32) then (if (own_c p1) = (43 : Int32) then (1 : Int32) else (if (own_c p1) < (45 : Int32) then (0 : Int32) else (if (126 : Int32) < (own_c p1) then (0 : Int32) else (1 : Int32)))) else (if (41 : Int32) < (own_c p1) then (if (own_c p1) = (43 : Int32) then (1 : Int32) else (if (own_c p1) < (45 : Int32) then (0 : Int32) else (if (126 : Int32) < (own_c p1) then (0 : Int32) else (1 : Int32)))) else (1 : Int32))) else (if (33 : Int32) < (own_c p1) then (if (own_c p1) < (35 : Int32) then (if (own_c p1) = (43 : Int32) then (1 : Int32) else (if (own_c p1) < (45 : Int32) then (0 : Int32) else (if (126 : Int32) < (own_c p1) then (0 : Int32) else (1 : Int32)))) else (if (41 : Int32) < (own_c p1) then (if (own_c p1) = (43 : Int32) then (1 : Int32) else (if (own_c p1) < (45 : Int32) then (0 : Int32) else (if (126 : Int32) < (own_c p1) then (0 : Int32) else (1 : Int32)))) else (1 : Int32))) else (1 : Int32))) = (1 : Int32) := by simp only [if_neg hm8_2, if_pos hm14_11, if_neg hm20_12, if_neg hm26_16]
            exact Eq.subst (motive := fun x => Steps p.tables e below (s₁.setTop (mkF m 52 #[.val (.int p1), .val (.int (own_c p1)), .val (.int (own_c p1)), .unset] [(.int x)])) t) q k
      · refine XS.icmpYes X0.here hx rfl (pc0 := 14) (pc' := 47) rfl (hb hby at_14) rfl (flt hm14_11).2.2.2 (by decide) (by decide) ?_
        show Steps p.tables e below (s₁.setTop (mkF m 47 #[.val (.int p1), .val (.int (own_c p1)), .val (.int (own_c p1)), .unset] [])) _
        refine XS.iconst X0.here hx rfl (hb hby at_47) ?_
        show Steps p.tables e below (s₁.setTop (mkF m 48 #[.val (.int p1), .val (.int (own_c p1)), .val (.int (own_c p1)), .unset] [(.int (1 : Int32))])) _
        refine XS.goto X0.here hx rfl (pc0 := 48) (pc' := 52) rfl (hb hby at_48) (by decide) (by decide) ?_
        show Steps p.tables e below (s₁.setTop (mkF m 52 #[.val (.int p1), .val (.int (own_c p1)), .val (.int (own_c p1)), .unset] [(.int (1 : Int32))])) _
        have q : (if (own_c p1) < (32 : Int32) then (if (own_c p1) < (35 : Int32) then (if (own_c p1) = (43 : Int32) then (1 : Int32) else (if (own_c p1) < (45 : Int32) then (0 : Int32) else (if (126 : Int32) < (own_c p1) then (0 : Int32) else (1 : Int32)))) else (if (41 : Int32) < (own_c p1) then (if (own_c p1) = (43 : Int32) then (1 : Int32) else (if (own_c p1) < (45 : Int32) then (0 : Int32) else (if (126 : Int32) < (own_c p1) then (0 : Int32) else (1 : Int32)))) else (1 : Int32))) else (if (33 : Int32) < (own_c p1) then (if (own_c p1) < (35 : Int32) then (if (own_c p1) = (43 : Int32) then (1 : Int32) else (if (own_c p1) < (45 : Int32) then (0 : Int32) else (if (126 : Int32) < (own_c p1) then (0 : Int32) else (1 : Int32)))) else (if (41 : Int32) < (own_c p1) then (if (own_c p1) = (43 : Int32) then (1 : Int32) else (if (own_c p1) < (45 : Int32) then (0 : Int32) else (if (126 : Int32) < (own_c p1) then (0 : Int32) else (1 : Int32)))) else (1 : Int32))) else (1 : Int32))) = (1 : Int32) := by simp only [if_neg hm8_2, if_neg hm14_11]
        exact Eq.subst (motive := fun x => Steps p.tables e below (s₁.setTop (mkF m 52 #[.val (.int p1), .val (.int (own_c p1)), .val (.int (own_c p1)), .unset] [(.int x)])) t) q k)
  have pre21 : ∀ t, Steps p.tables e below (s₁.setTop (mkF m 54 (lc0_0 p1) [(.int (own_c p1))])) t → Steps p.tables e below (s₁.setTop (entryFrame m #[(.int p1)] maxLocals)) t := fun t k => pre20 t (by
    show Steps p.tables e below (s₁.setTop (mkF m 52 #[.val (.int p1), .val (.int (own_c p1)), .val (.int (own_c p1)), .unset] [(.int (if (own_c p1) < (32 : Int32) then (if (own_c p1) < (35 : Int32) then (if (own_c p1) = (43 : Int32) then (1 : Int32) else (if (own_c p1) < (45 : Int32) then (0 : Int32) else (if (126 : Int32) < (own_c p1) then (0 : Int32) else (1 : Int32)))) else (if (41 : Int32) < (own_c p1) then (if (own_c p1) = (43 : Int32) then (1 : Int32) else (if (own_c p1) < (45 : Int32) then (0 : Int32) else (if (126 : Int32) < (own_c p1) then (0 : Int32) else (1 : Int32)))) else (1 : Int32))) else (if (33 : Int32) < (own_c p1) then (if (own_c p1) < (35 : Int32) then (if (own_c p1) = (43 : Int32) then (1 : Int32) else (if (own_c p1) < (45 : Int32) then (0 : Int32) else (if (126 : Int32) < (own_c p1) then (0 : Int32) else (1 : Int32)))) else (if (41 : Int32) < (own_c p1) then (if (own_c p1) = (43 : Int32) then (1 : Int32) else (if (own_c p1) < (45 : Int32) then (0 : Int32) else (if (126 : Int32) < (own_c p1) then (0 : Int32) else (1 : Int32)))) else (1 : Int32))) else (1 : Int32))))])) _
    refine XS.istoreN X0.here hx rfl (hb hby at_52) rfl (l' := (lc0_0 p1)) rfl ?_
    show Steps p.tables e below (s₁.setTop (mkF m 53 (lc0_0 p1) [])) _
    refine XS.iloadN X0.here hx rfl (hb hby at_53) rfl ?_
    show Steps p.tables e below (s₁.setTop (mkF m 54 (lc0_0 p1) [(.int (own_c p1))])) _
    exact k)
  obtain ⟨_, _, ⟨T22, L22, k22, n22⟩, -, X22, ⟨Lc22, hQ22, l22, y22, z22⟩, st22⟩ := Jvm.LawKit.callS X0 hx (y := (⟨"com/example/squitterlab/squitterlab/feed/TextFrameReader", "isTimeCharacter", "(C)Z"⟩ : MethodName)) hown (mvT hZ (hw _ (List.mem_of_getElem? (i := 0) rfl))) (mvT hZ (hw _ (List.mem_of_getElem? (i := 1) rfl))) (mvT hZ (hw _ (List.mem_of_getElem? (i := 2) rfl))) (mvT hZ (hw _ (List.mem_of_getElem? (i := 3) rfl))) (by decide) (backOf (W := 0) (rm1 l Z a0 hw [] (own_c p1) h0 n0 Z0) hZ (hw _ (List.mem_of_getElem? (i := 3) rfl)) (hw _ (List.mem_of_getElem? (i := 2) rfl)) (by decide) (by decide)) (g := (mkF m 54 (lc0_0 p1) [(.int (own_c p1))])) rfl (by rw [hml]; rfl) (argsL := [(.int (own_c p1))]) (rest := []) (lenOf pd_0 rfl) rfl (by show 2 * 0 + _ ≤ _; exact Nat.le_of_eq rfl) (hb hby at_54) (fun _ _ => ⟨rfl, e0, (by decide : 0 + 0 ≤ _), (by decide : 0 + 0 ≤ _)⟩)
  dsimp only [Pt.U, Pt.locs, Pt.cells, Pt.slots] at X22 l22 y22 z22 st22 hQ22
  subst l22 y22 z22
  obtain ⟨rfl, N22q, e22⟩ := hQ22
  have N22 := Fr.app N0 N22q
  have pre23 : ∀ t, Steps p.tables e below (T22.setTop (mkF m 57 (lc0_0 p1) [(.int (own_it (own_c p1)))])) t → Steps p.tables e below (s₁.setTop (entryFrame m #[(.int p1)] maxLocals)) t := fun t k => pre21 t (st22 t k)
  have pre24 : ∀ t, Steps p.tables e below (T22.setTop (mkF m 66 (lc0_0 p1) [(.int (1 : Int32))])) t → Steps p.tables e below (s₁.setTop (entryFrame m #[(.int p1)] maxLocals)) t := fun t k => pre23 t (by
    show Steps p.tables e below (T22.setTop (mkF m 57 (lc0_0 p1) [(.int (own_it (own_c p1)))])) _
    refine XS.iloadN X22.here hx rfl (hb hby at_57) rfl ?_
    show Steps p.tables e below (T22.setTop (mkF m 58 (lc0_0 p1) [(.int (if (own_c p1) < (32 : Int32) then (if (own_c p1) < (35 : Int32) then (if (own_c p1) = (43 : Int32) then (1 : Int32) else (if (own_c p1) < (45 : Int32) then (0 : Int32) else (if (126 : Int32) < (own_c p1) then (0 : Int32) else (1 : Int32)))) else (if (41 : Int32) < (own_c p1) then (if (own_c p1) = (43 : Int32) then (1 : Int32) else (if (own_c p1) < (45 : Int32) then (0 : Int32) else (if (126 : Int32) < (own_c p1) then (0 : Int32) else (1 : Int32)))) else (1 : Int32))) else (if (33 : Int32) < (own_c p1) then (if (own_c p1) < (35 : Int32) then (if (own_c p1) = (43 : Int32) then (1 : Int32) else (if (own_c p1) < (45 : Int32) then (0 : Int32) else (if (126 : Int32) < (own_c p1) then (0 : Int32) else (1 : Int32)))) else (if (41 : Int32) < (own_c p1) then (if (own_c p1) = (43 : Int32) then (1 : Int32) else (if (own_c p1) < (45 : Int32) then (0 : Int32) else (if (126 : Int32) < (own_c p1) then (0 : Int32) else (1 : Int32)))) else (1 : Int32))) else (1 : Int32)))), (.int (own_it (own_c p1)))])) _
    refine XS.icmpNo X22.here hx rfl (hb hby at_58) rfl (teq (show (own_it (own_c p1)) = (if (own_c p1) < (32 : Int32) then (if (own_c p1) < (35 : Int32) then (if (own_c p1) = (43 : Int32) then (1 : Int32) else (if (own_c p1) < (45 : Int32) then (0 : Int32) else (if (126 : Int32) < (own_c p1) then (0 : Int32) else (1 : Int32)))) else (if (41 : Int32) < (own_c p1) then (if (own_c p1) = (43 : Int32) then (1 : Int32) else (if (own_c p1) < (45 : Int32) then (0 : Int32) else (if (126 : Int32) < (own_c p1) then (0 : Int32) else (1 : Int32)))) else (1 : Int32))) else (if (33 : Int32) < (own_c p1) then (if (own_c p1) < (35 : Int32) then (if (own_c p1) = (43 : Int32) then (1 : Int32) else (if (own_c p1) < (45 : Int32) then (0 : Int32) else (if (126 : Int32) < (own_c p1) then (0 : Int32) else (1 : Int32)))) else (if (41 : Int32) < (own_c p1) then (if (own_c p1) = (43 : Int32) then (1 : Int32) else (if (own_c p1) < (45 : Int32) then (0 : Int32) else (if (126 : Int32) < (own_c p1) then (0 : Int32) else (1 : Int32)))) else (1 : Int32))) else (1 : Int32))) from own_eq _)).2 ?_
    show Steps p.tables e below (T22.setTop (mkF m 61 (lc0_0 p1) [])) _
    refine XS.iconst X22.here hx rfl (hb hby at_61) ?_
    show Steps p.tables e below (T22.setTop (mkF m 62 (lc0_0 p1) [(.int (1 : Int32))])) _
    refine XS.goto X22.here hx rfl (pc0 := 62) (pc' := 66) rfl (hb hby at_62) (by decide) (by decide) ?_
    show Steps p.tables e below (T22.setTop (mkF m 66 (lc0_0 p1) [(.int (1 : Int32))])) _
    exact k)
  obtain ⟨fs, hr, hrun, hended, hW, hsame⟩ := X22.leave (v := some (.int (1 : Int32))) (fun h => by rw [Bd.returns] at h; cases h)
  refine ⟨_, _, pre24 _ ?_, hrun, hended, _, _, rfl, ?_, ⟨_, rfl⟩, hW, hsame.mono (by decide) (by decide)⟩
  · show Steps p.tables e below (T22.setTop (mkF m 66 (lc0_0 p1) [(.int (1 : Int32))])) _
    exact retN X22 hx (t := .boolean) Bd.returns (by simp) (hb hby at_66) hr
  · show Q0 Z p1 h0 n0 _ T22.heap _
    rw [e22]
    exact ⟨rfl, N22⟩
set_option maxRecDepth 65536 in
set_option maxHeartbeats 40000000 in
theorem comes_1 {Post : Tables → Env → Array Value → State → Outcome → State → Prop} (hpost : ∀ tb e args s v u, (limb_1_1.after args s (.returned v) u = true ∧ limb_1_2.after args s (.returned v) u = true ∧ True) → FrameEnd s (.returned v) u (Jvm.fieldLocs frame_1_writes args s ++ Jvm.arrayLocs frame_1_arrays args s ++ Jvm.staticLocs frame_1_statics s) 0 0 → Post tb e args s (.returned v) u) :
    ArmFor flags0 classFile x code maxLocals ret World_1 tables_1 room_1 Calls_1 rest_1 Pre_1 Post := by
  intro l hfl _ _ p e ha hc hk s m args below hf hA hF happ hP
  obtain ⟨hcalls, hrest, hpre⟩ := hP
  obtain ⟨-, -, -, hnamed, -, -, -, hat⟩ := (Spec.applies_iff hf).mp happ
  obtain ⟨hg, hn⟩ := and_e (Cond.before_iff.mp (show (Jvm.Cond.and given_1 narrow_1).before args s = true from hpre))
  obtain ⟨hcnt, g0⟩ := and_e hg
  have k0 := g0
  obtain ⟨w0, rfl⟩ : ∃ w0 : Value, args = #[w0] := by
    have hs : args.size = 1 := by simpa [Cond.value, given_1] using hcnt
    obtain ⟨L⟩ := args
    match L, hs with
    | [w0], _ => exact ⟨w0, rfl⟩
  have hw := fun d (hd : d ∈ tables_1) => atoms_spec (ws := Jvm.Cond.code x code maxLocals ret :: tables_1) hat d (List.mem_cons_of_mem _ hd)
  obtain ⟨i0, ei0⟩ := is_v k0
  obtain rfl : w0 = (.int i0) := Option.some.inj ei0
  obtain ⟨n, o, h1, h2, h3, _, L, rfl, ⟨rfl, N⟩, hq⟩ := rm0 l s _ hw tables_1 i0 s.heap s.heap.size (Nat.le_refl _) p e ha hc hk s m _ below hf ((Spec.applies_iff_loose hf).mp happ).1 ⟨rfl, State.Warmed39.refl s, rfl⟩ trivial
  refine ⟨n, _, h1, h2, h3, hpost _ _ _ _ _ _ ⟨Cond.after_iff.mpr rfl, Cond.after_iff.mpr (eq_i res_at (Term.int_eval (1)) rfl), trivial⟩ ⟨hq.1, hq.2.1, (hq.2.2.sift fun y hy => Or.inr (N y hy)).mono (by decide) (by decide)⟩⟩
theorem main_1_1 : Claimed_1_1 := comes_1 fun _ _ _ _ _ _ h hF => ⟨h.1, hF⟩
theorem main_1_2 : Claimed_1_2 := comes_1 fun _ _ _ _ _ _ h hF => ⟨h.2.1, hF⟩
end Jvm.Pilot.@@N@@
namespace Jvm.Pilot.@@N@@
open Jvm Jvm.ClassFile Sem Op Lib Jvm.Free Jvm.Stand Jvm.Pilot.@@N@@.Jvm.D
/-! MADE BY PROGRAM (witnessworld.py) out of the Statement's table words and the real class files: 10 classes; the members and pool entries that the words name. The judged class is class 1, her method 1. -/
namespace start1
open Jvm.ClassFile
def u (s : String) : CpInfo := .utf8 (stringToUtf16 s)
/-- a pool by its gaps: so many unusable entries, then the entry; so many at the end -/
def gap : Nat → List CpInfo → List CpInfo
  | 0, r => r
  | n + 1, r => .unusable :: gap n r
def poolList (es : List (Nat × CpInfo)) (last : Nat) : List CpInfo := es.foldr (fun e r => gap e.1 (e.2 :: r)) (gap last [])
def pool (es : List (Nat × CpInfo)) (last : Nat) : Array CpInfo := ⟨poolList es last⟩
def fileOf (pool : Array CpInfo) (this : Nat) (attrs : Array Attribute := #[]) (ms : Array MethodInfo := #[]) (fl : Nat := 33) (sup : Nat := 0) (ifs : Array Nat := #[]) (fds : Array FieldInfo := #[]) : ClassFile where
  minorVersion := 0
  majorVersion := 65
  constantPool := pool
  accessFlags := fl
  thisClass := this
  superClass := sup
  interfaces := ifs
  fields := fds
  methods := ms
  attributes := attrs
def plain (name : String) (sup : Option ClassId) : Class where
  name := name
  kind := .ordinary
  loader := none
  accessFlags := 33
  super := sup
  interfaces := #[]
  cf := none
  fields := #[]
  methods := #[]
  instanceTypes := #[]
  staticTypes := #[]
  resolved := #[]
  callSites := []
  init := .initialized
  statics := none
  mirror := none

def pool0 : Array CpInfo := pool [(5, u "<init>"), (0, u "()V"), (1, .class_ 10), (1, u "java/lang/Object")] 113

def k0m0 : Method := { name := "<init>", desc := "()V", sig := { parameters := [], returnType := none }, accessFlags := 1, code := none }
/-- java/lang/Object -/
def k0 : Class := { plain "java/lang/Object" none with
  accessFlags := 33
  interfaces := #[]
  cf := some (fileOf pool0 8 #[] #[{ accessFlags := 1, nameIndex := 5, descriptorIndex := 6, attributes := #[] }] 33 0 #[] #[])
  fields := #[]
  methods := #[k0m0]
  instanceTypes := #[]
  staticTypes := #[]
  resolved := Array.replicate 124 none
  statics := none }

def pool1 : Array CpInfo := pool [(2, .class_ 4), (1, u "java/lang/Object"), (0, u "<init>"), (0, u "()V"), (0, .methodref 8 9), (0, .class_ 10), (0, .nameAndType 11 12), (0, u "com/example/squitterlab/squitterlab/feed/TextFrameReader"), (0, u "isTimeCharacter"), (0, u "(C)Z"), (0, .class_ 14), (0, u "com/example/squitterlab/squitterlab/feed/TextFrameReaderIsTimeCharacterPinLaw"), (2, u "law"), (0, u "(I)Z")] 3

def k1m0 : Method := { name := "<init>", desc := "()V", sig := { parameters := [], returnType := none }, accessFlags := 1, code := none }
def k1c1 : Code := { maxStack := 2, maxLocals := 4, code := code, exceptionTable := #[], attributes := #[] }
def k1m1 : Method := { name := "law", desc := "(I)Z", sig := { parameters := [.int], returnType := some .boolean }, accessFlags := 9, code := some k1c1 }
/-- com/example/squitterlab/squitterlab/feed/TextFrameReaderIsTimeCharacterPinLaw -/
def k1 : Class := { plain "com/example/squitterlab/squitterlab/feed/TextFrameReaderIsTimeCharacterPinLaw" (some 0) with
  accessFlags := 49
  interfaces := #[]
  cf := some (fileOf pool1 13 #[] #[{ accessFlags := 1, nameIndex := 5, descriptorIndex := 6, attributes := #[] }, { accessFlags := 9, nameIndex := 17, descriptorIndex := 18, attributes := #[] }] 49 2 #[] #[])
  fields := #[]
  methods := #[k1m0, k1m1]
  instanceTypes := #[]
  staticTypes := #[]
  resolved := Array.replicate 22 none
  statics := none }

def pool2 : Array CpInfo := pool [(1, .class_ 2), (0, u "com/example/squitterlab/squitterlab/feed/FrameReader"), (0, .class_ 4), (0, u "java/lang/Object")] 7

/-- com/example/squitterlab/squitterlab/feed/FrameReader -/
def k2 : Class := { plain "com/example/squitterlab/squitterlab/feed/FrameReader" (some 0) with
  accessFlags := 1537
  interfaces := #[]
  cf := some (fileOf pool2 1 #[] #[] 1537 3 #[] #[])
  fields := #[]
  methods := #[]
  instanceTypes := #[]
  staticTypes := #[]
  resolved := Array.replicate 12 none
  statics := none }

def pool3 : Array CpInfo := pool [(2, .class_ 4), (1, u "java/lang/Object"), (4, .class_ 11), (1, u "com/example/squitterlab/squitterlab/feed/TextFrameReader"), (0, u "buffer"), (0, u "[C"), (7, u "line"), (0, u "Ljava/lang/StringBuilder;"), (13, u "reader"), (0, u "Ljava/io/Reader;"), (2, u "badLines"), (0, u "Lcom/example/squitterlab/squitterlab/feed/BadLineHandler;"), (6, u "lineTooLong"), (0, u "Z"), (2, u "lineNumber"), (0, u "J"), (27, u "position"), (0, u "I"), (2, u "limit"), (66, u "isTimeCharacter"), (0, u "(C)Z"), (9, .class_ 164), (0, u "com/example/squitterlab/squitterlab/feed/FrameReader"), (0, u "MAX_LINE_LENGTH")] 13

def k3c0 : Code := { maxStack := 2, maxLocals := 1, code := prog_58_method_10_code, exceptionTable := #[], attributes := #[] }
def k3m0 : Method := { name := "isTimeCharacter", desc := "(C)Z", sig := { parameters := [.char], returnType := some .boolean }, accessFlags := 8, code := some k3c0 }
/-- com/example/squitterlab/squitterlab/feed/TextFrameReader -/
def k3 : Class := { plain "com/example/squitterlab/squitterlab/feed/TextFrameReader" (some 0) with
  accessFlags := 49
  interfaces := #[2]
  cf := some (fileOf pool3 9 #[] #[{ accessFlags := 8, nameIndex := 152, descriptorIndex := 153, attributes := #[] }] 49 2 #[163] #[{ accessFlags := 25, nameIndex := 165, descriptorIndex := 82, attributes := #[] }, { accessFlags := 18, nameIndex := 36, descriptorIndex := 37, attributes := #[] }, { accessFlags := 18, nameIndex := 40, descriptorIndex := 41, attributes := #[] }, { accessFlags := 18, nameIndex := 12, descriptorIndex := 13, attributes := #[] }, { accessFlags := 2, nameIndex := 81, descriptorIndex := 82, attributes := #[] }, { accessFlags := 2, nameIndex := 85, descriptorIndex := 82, attributes := #[] }, { accessFlags := 18, nameIndex := 21, descriptorIndex := 22, attributes := #[] }, { accessFlags := 2, nameIndex := 48, descriptorIndex := 49, attributes := #[] }, { accessFlags := 2, nameIndex := 52, descriptorIndex := 53, attributes := #[] }])
  fields := #[{ name := "MAX_LINE_LENGTH", type := .int, accessFlags := 25, slot := 0, constantValue := 0 }, { name := "reader", type := (.object "java/io/Reader"), accessFlags := 18, slot := 0, constantValue := 0 }, { name := "badLines", type := (.object "com/example/squitterlab/squitterlab/feed/BadLineHandler"), accessFlags := 18, slot := 1, constantValue := 0 }, { name := "buffer", type := (.array .char), accessFlags := 18, slot := 2, constantValue := 0 }, { name := "position", type := .int, accessFlags := 2, slot := 3, constantValue := 0 }, { name := "limit", type := .int, accessFlags := 2, slot := 4, constantValue := 0 }, { name := "line", type := (.object "java/lang/StringBuilder"), accessFlags := 18, slot := 5, constantValue := 0 }, { name := "lineTooLong", type := .boolean, accessFlags := 2, slot := 6, constantValue := 0 }, { name := "lineNumber", type := .long, accessFlags := 2, slot := 7, constantValue := 0 }]
  methods := #[k3m0]
  instanceTypes := #[(.object "java/io/Reader"), (.object "com/example/squitterlab/squitterlab/feed/BadLineHandler"), (.array .char), .int, .int, (.object "java/lang/StringBuilder"), .boolean, .long]
  staticTypes := #[.int]
  resolved := Array.replicate 179 none
  statics := none }

def pool4 : Array CpInfo := pool [(1, u "java/lang/Cloneable"), (0, .class_ 1), (0, u "java/lang/Object"), (0, .class_ 3)] 3

/-- java/lang/Cloneable -/
def k4 : Class := { plain "java/lang/Cloneable" (some 0) with
  accessFlags := 1537
  interfaces := #[]
  cf := some (fileOf pool4 2 #[] #[] 1537 4 #[] #[])
  fields := #[]
  methods := #[]
  instanceTypes := #[]
  staticTypes := #[]
  resolved := Array.replicate 8 none
  statics := none }

def pool5 : Array CpInfo := pool [(1, u "java/io/Serializable"), (0, .class_ 1), (0, u "java/lang/Object"), (0, .class_ 3)] 3

/-- java/io/Serializable -/
def k5 : Class := { plain "java/io/Serializable" (some 0) with
  accessFlags := 1537
  interfaces := #[]
  cf := some (fileOf pool5 2 #[] #[] 1537 4 #[] #[])
  fields := #[]
  methods := #[]
  instanceTypes := #[]
  staticTypes := #[]
  resolved := Array.replicate 8 none
  statics := none }

/-- the primitive byte -/
def k6 : Class := { plain "byte" none with kind := .primitive 'B', accessFlags := 0x411 }
/-- [B -/
def k7 : Class := { plain "[B" (some 0) with kind := .array 6 .byte, interfaces := #[4, 5], accessFlags := 1041 }

/-- the primitive int -/
def k8 : Class := { plain "int" none with kind := .primitive 'I', accessFlags := 0x411 }
/-- [I -/
def k9 : Class := { plain "[I" (some 0) with kind := .array 8 .int, interfaces := #[4, 5], accessFlags := 1041 }

def heap : Heap := #[]
def classes : Array Class := #[k0, k1, k2, k3, k4, k5, k6, k7, k8, k9]
def interned : List (Array UInt16 × Addr) := []
def slotsUsed : Nat := 0
def theMethod : MethodId := ⟨1, 1⟩
def args0 : Array Value := #[.int 5]
def aboutOver (below : List Frame) : State where
  vm := { classes := classes, interned := interned.toArray }
  heap := heap
  slotsUsed := slotsUsed
  threads := #[{ frames := .invoking theMethod args0 :: below }]
def below0 : List Frame := [.native { method := ⟨0, 0⟩, args := #[] }]
def about1 : State := aboutOver below0
def p0 : Program := .bare "" "" ""
def e0 : Env := launch0.env 0 0 0
theorem w_frames : about1.frames = Frame.invoking theMethod args0 :: below0 := rfl
set_option maxRecDepth 65536 in
theorem w_args : argsFit about1.vm theMethod args0 = true := by decide +kernel
set_option maxRecDepth 65536 in
theorem w_heap : heapFits about1 = true := by decide +kernel
set_option maxRecDepth 65536 in
theorem w_runnable : about1.curStatus? = some .runnable := by decide +kernel
set_option maxRecDepth 65536 in
theorem w_alone : about1.alone = true := by decide +kernel
set_option maxRecDepth 65536 in
theorem w_named : about1.methodNamed? x = some theMethod := by decide +kernel
set_option maxRecDepth 65536 in
theorem w_hears : about1.hears theMethod below0 = true := by decide +kernel
set_option maxRecDepth 65536 in
theorem w_ripe : about1.ripe theMethod args0 below0 = true := by decide +kernel
theorem w_running : about1.status = .running := rfl
set_option maxRecDepth 65536 in
theorem w_room : about1.hasRoom e0.platform room_1 = true :=
  launch0.hasRoom_least _ room_1 (by decide +kernel) (by decide +kernel) (by decide +kernel) (by decide +kernel) (by decide +kernel) (by decide +kernel)
theorem allAtoms_all (ts : List Jvm.Cond) (a : Array Jvm.Value) (st : Jvm.State) : (allAtoms ts).before a st = ts.all (fun c => c.before a st) := by
  induction ts with
  | nil => rfl
  | cons c t ih =>
    show (Jvm.Cond.and c (allAtoms t)).before a st = _
    rw [Jvm.Cond.before_and, ih, List.all_cons]
def words1 : List Jvm.Cond := Jvm.Cond.code x code maxLocals ret :: tables_1
/-- a 'code' word, met by the world's own term for the bytes: nothing is compared byte by byte -/
theorem code_word {y : MethodName} {bytes : ByteArray} {mx : Nat} {rt : Option FieldType} {a : Array Value} {s : State} {m : MethodId} {meth : Method} {c : Code} (h1 : s.methodNamed? y = some m) (h2 : s.vm.method? m = some meth) (h3 : meth.code = some c) (h4 : c.code = bytes)
    (h5 : (c.maxLocals == mx && c.exceptionTable.isEmpty && decide (c.maxStack ≤ mostOperands) && decide (meth.sig.returnType = rt) && !meth.locks && decide (parseMethodDescriptor y.desc = some meth.sig)) = true) : (Jvm.Cond.code y bytes mx rt).before a s = true := by
  simp only [Bool.and_eq_true, beq_iff_eq, Bool.not_eq_true', decide_eq_true_eq] at h5
  obtain ⟨⟨⟨⟨⟨g1, g2⟩, g3⟩, g4⟩, g5⟩, g6⟩ := h5
  simp [Cond.before, Cond.holds, Cond.value, h1, h2, h3, h4, g1, g2, g3, g4, g5, g6]
def isCode : Jvm.Cond → Bool
  | .code _ _ _ _ => true
  | _ => false
theorem all_split {L : List Jvm.Cond} {P : Jvm.Cond → Bool} (h1 : L.all (fun c => isCode c || P c) = true) (h2 : ∀ c ∈ L.filter isCode, P c = true) : L.all P = true := by
  refine List.all_eq_true.mpr fun c hc => ?_
  have h := List.all_eq_true.mp h1 c hc
  rcases Bool.eq_false_or_eq_true (isCode c) with hi | hi
  · exact h2 c (List.mem_filter.mpr ⟨hc, hi⟩)
  · simpa [hi] using h
set_option maxRecDepth 65536 in
theorem w_c0 : (Jvm.Cond.code x code maxLocals ret).before args0 about1 = true := code_word (m := ⟨1, 1⟩) (meth := k1m1) (c := k1c1) (by decide +kernel) rfl rfl rfl (by decide +kernel)
set_option maxRecDepth 65536 in
theorem w_c1 : (Jvm.Cond.code ({ cls := "com/example/squitterlab/squitterlab/feed/TextFrameReader", name := "isTimeCharacter", desc := "(C)Z" } : Jvm.MethodName) prog_58_method_10_code (1 : Nat) (Option.some Jvm.ClassFile.FieldType.boolean)).before args0 about1 = true := code_word (m := ⟨3, 0⟩) (meth := k3m0) (c := k3c0) (by decide +kernel) rfl rfl rfl (by decide +kernel)
def codes1 : List Jvm.Cond := [Jvm.Cond.code x code maxLocals ret, Jvm.Cond.code ({ cls := "com/example/squitterlab/squitterlab/feed/TextFrameReader", name := "isTimeCharacter", desc := "(C)Z" } : Jvm.MethodName) prog_58_method_10_code (1 : Nat) (Option.some Jvm.ClassFile.FieldType.boolean)]
set_option maxRecDepth 65536 in
theorem codes_eq : words1.filter isCode = codes1 := rfl
theorem w_codes : ∀ c ∈ words1.filter isCode, c.before args0 about1 = true := by
  rw [codes_eq]
  intro c hc
  simp only [codes1, List.mem_cons, List.not_mem_nil, or_false] at hc
  rcases hc with rfl | rfl
  · exact w_c0
  · exact w_c1
set_option maxRecDepth 65536 in
theorem w_t1 : words1.all (fun c => isCode c || c.before args0 about1) = true := by decide +kernel
theorem w_tables : (allAtoms (Jvm.Cond.code x code maxLocals ret :: tables_1)).before args0 about1 = true := by
  rw [allAtoms_all]
  show words1.all (fun c => c.before args0 about1) = true
  refine all_split ?_ w_codes
  rw [w_t1]
set_option maxRecDepth 65536 in
theorem w_case : (Jvm.Cond.and given_1 narrow_1).before args0 about1 = true := by decide +kernel
theorem w_applies : (headSpec (Jvm.Cond.code x code maxLocals ret :: tables_1) room_1).applies x e0.platform about1 = true :=
  (Spec.applies_iff w_frames).mpr ⟨w_running, w_runnable, w_alone, w_named, w_hears, w_ripe, w_room, w_tables⟩
theorem atStart : AtStart classFile x code maxLocals ret World_1 tables_1 room_1 Calls_1 rest_1 Pre_1 launch0 p0 e0 about1 theMethod args0 below0 :=
  ⟨lists_1, trivial, launch0.admits_env _ _ _, launch0.least_env, fairChoices_fair.cas, fairChoices_fair.clock, w_frames, w_args, w_heap, w_applies, trivial, trivial, w_case⟩
end start1
theorem witness_1 : WitnessClaimed_1 := ⟨start1.p0, start1.e0, start1.about1, start1.theMethod, start1.args0, start1.below0, start1.atStart⟩
end Jvm.Pilot.@@N@@
