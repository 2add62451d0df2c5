import JvmDerived
import JvmDerived.Pilot.@@N@@Statement
import JvmDerived.Pilot.@@N@@Code
set_option linter.unusedVariables false
set_option linter.unusedSimpArgs false
namespace Jvm.RoadKit
open Sem ClassFile Op Lib Jvm.Stand Jvm.Free Jvm.LawKit
section New
variable {p : Program} {l : Launch} {e : Env} {R : Room} {s : State} {m : MethodId} {args : Array Value} {below : List Frame} {meth : Method} {c : Code} {T : State} {locs : List Loc} {cells slots : Nat}
theorem retI (X : Stand p l e R s m args below meth c T locs cells slots) (hx : p.tables.exec = Jvm.exec) {pc : Nat} {Ls : Array Slot} {z : Int32} {rest : List Value} (hret : meth.sig.returnType = some .int) (hd : decode c.code pc = .ok (.ireturn, 1)) {fs : List Frame}
    (hl : ∀ (f : JFrame) (acts : List Action), f.method = m → f.locked = none → f.entered = [] → (doReturn e (T.setTop f) acts (some (.int z))).1 = T.setFrames fs) : Steps p.tables e below (T.setTop (mkF m pc Ls (.int z :: rest))) (T.setFrames fs) := by
  have hm' : T.vm.method? m = some meth := X.method'
  have hn : narrow .int (.int z) = .int z := rfl
  show Steps p.tables e below (T.setTop { method := m, pc := pc, locals := Ls, stack := _ :: rest, locked := none }) _
  jvm_step X.here [X.here.top, hx, hd, hm', hret, hn]
  first | (intro acts; rw [hl _ acts rfl rfl rfl]) | rw [hl _ _ rfl rfl rfl]
  exact Steps.refl _
end New
end Jvm.RoadKit
namespace Jvm.Pilot.@@N@@
open Jvm Jvm.ClassFile Sem Op Lib Jvm.Free Jvm.Stand Jvm.LawKit Jvm.RoadKit Bundle Jvm.Pilot.@@N@@.Jvm.D

theorem own_eqI {args : Array Value} {first s : State} {o : Option Outcome} {idx : List Nat} {a : Term} {k : Int32} (h : (Jvm.Cond.eq a (.int k)).value args first o s idx = some true) : a.eval args first o idx s = some (.int k) := by
  simp only [Cond.value, Term.eval] at h
  cases ha : a.eval args first o idx s with
  | none => simp [ha] at h
  | some x => cases x <;> simp [ha] at h ⊢; exact h

def own_holds (o s : Int32) : Int32 := if o = (0 : Int32) then (if s = (0 : Int32) then (1 : Int32) else (0 : Int32)) else if o = (1 : Int32) then (if s = (0 : Int32) then (0 : Int32) else (1 : Int32)) else if o = (2 : Int32) then (if (0 : Int32) < s then (0 : Int32) else (1 : Int32)) else if o = (3 : Int32) then (if s < (0 : Int32) then (0 : Int32) else (1 : Int32)) else if o = (4 : Int32) then (if s < (0 : Int32) then (1 : Int32) else (0 : Int32)) else (if (0 : Int32) < s then (1 : Int32) else (0 : Int32))
theorem own_out (x : Int32) (h0 : ¬ x = 0) (h1 : ¬ x = 1) (h2 : ¬ x = 2) (h3 : ¬ x = 3) (h4 : ¬ x = 4) : x.toInt < 0 ∨ x.toInt > 4 := by
  simp only [← Int32.toInt_inj, Int32.reduceToInt] at *
  omega
theorem own_tri (x : Int32) : (x < 0 ∧ ¬ x = 0 ∧ ¬ 0 < x) ∨ (x = 0 ∧ ¬ x < 0 ∧ ¬ 0 < x) ∨ (0 < x ∧ ¬ x < 0 ∧ ¬ x = 0) := by
  simp only [Int32.lt_iff_toInt_lt, ← Int32.toInt_inj, Int32.reduceToInt]
  omega
theorem d2_0 : decode jdk_37_method_2_code 0 = .ok (.aload_n 0, 1) := by decide +kernel
theorem d2_1 : decode jdk_37_method_2_code 1 = .ok (.getfield 7, 3) := by decide +kernel
theorem d2_4 : decode jdk_37_method_2_code 4 = .ok (.ireturn, 1) := by decide +kernel
theorem pn_2 : plainName "java/lang/Enum" = true := by first | (simp [plainName, overriddenIn]; done) | decide +kernel
theorem ef_2 (m : MethodId) (x0 : Addr) : entryFrame m #[(.ref x0)] 1 = mkF m 0 #[.val (.ref x0)] [] := by first | (simp [entryFrame, mkF, argsToLocals, Value.category]; done) | rfl
def Q_2 (Z : State) (a1 : Addr) (c : Int32) (h0 : Heap) (n0 : Nat) (v : Option Value) (h : Heap) (L : List Loc) : Prop := v = some (.int c) ∧ Fr n0 L ∧ h = h0
set_option maxRecDepth 65536 in
set_option maxHeartbeats 40000000 in
theorem rm_2 (l : Launch) (Z : State) (a0 : Array Value) (hw : ∀ d ∈ tables_1, d.before a0 Z = true) (ws : List Jvm.Cond) (a1 : Addr) (c : Int32) (h0 : Heap) (n0 : Nat) (Z0 : n0 ≤ h0.size) (F_c : Fld Z h0 a1 "java/lang/Enum" "ordinal" "I" (.int c)) :
    MetFree l (⟨"java/lang/Enum", "ordinal", "()I"⟩ : MethodName) (head1 (Jvm.Cond.code (⟨"java/lang/Enum", "ordinal", "()I"⟩ : MethodName) jdk_37_method_2_code 1 (some .int) :: ws) ({ frames := 0, cells := 0, slots := 0, locals := 0 } : Room)) (fun a U => a = #[(.ref a1)] ∧ Z.Warmed39 U.vm ∧ U.heap = h0) (fun _ _ _ _ _ => True) (fun _ U o U' => ∃ v L, o = .returned v ∧ Q_2 Z a1 c h0 n0 v U'.heap L ∧ FrameEnd U o U' L ({ frames := 0, cells := 0, slots := 0, locals := 0 } : Room).cells ({ frames := 0, cells := 0, slots := 0, locals := 0 } : Room).slots) := by
  refine MetFree.of_bodySF (plainFor_of_name pn_2) hisR ?_
  intro p e s m args below meth cod_ s₁ Bd hml0 hP hK
  obtain ⟨rfl, hZ, hh⟩ := hP
  have hx := Bd.exec
  have hby := Bd.bytes
  have hml : cod_.maxLocals = 1 := hml0
  have hown : s.vm.findClass "java/lang/Enum" = some m.cls := findClass_of_methodNamed Bd.named
  have hnm := (name_of_methodNamed Bd.named Bd.method).1
  have X0 : Stand p l e ({ frames := 0, cells := 0, slots := 0, locals := 0 } : Room) s m #[(.ref a1)] below meth cod_ s₁ [] 0 0 := Stand.of_body Bd
  have e0 : s₁.heap = h0 := by rw [← hh, Bd.state]; rfl
  have N0 := Fr.nil n0
  have pre0 : ∀ t, Steps p.tables e below (s₁.setTop (mkF m 0 #[.val (.ref a1)] [])) t → Steps p.tables e below (s₁.setTop (entryFrame m #[(.ref a1)] 1)) t := fun t k => castTop (ef_2 m a1) k
  obtain ⟨T1, X1, e1, st1⟩ := getF X0 hx hZ hown (host := "") (Or.inl (hw _ (List.mem_of_getElem? (i := 15) rfl))) Via.refl e0 F_c (g := (mkF m 1 #[.val (.ref a1)] [(.ref a1)])) rfl rfl (hb hby d2_1)
  obtain ⟨fs, hr, hrun, hended, hW, hsame⟩ := X1.leave (v := some (.int c)) (fun h => by rw [Bd.returns] at h; cases h)
  refine ⟨_, _, pre0 _ ?_, hrun, hended, _, _, rfl, ?_, ⟨_, rfl⟩, hW, hsame.mono (by decide) (by decide)⟩
  · show Steps p.tables e below (s₁.setTop (mkF m 0 #[.val (.ref a1)] [])) _
    refine XS.aloadN X0.here hx rfl (hb hby d2_0) rfl rfl ?_
    show Steps p.tables e below (s₁.setTop (mkF m 1 #[.val (.ref a1)] [(.ref a1)])) _
    refine st1 _ ?_
    show Steps p.tables e below (T1.setTop (mkF m 4 #[.val (.ref a1)] [(.int c)])) _
    exact retI X1 hx Bd.returns (hb hby d2_4) hr
  · show Q_2 Z a1 c h0 n0 _ T1.heap _
    rw [e1]
    exact ⟨rfl, N0, rfl⟩
theorem d1_0 : decode prog_31_method_6_code 0 = .ok (.aload_n 0, 1) := by decide +kernel
theorem d1_1 : decode prog_31_method_6_code 1 = .ok (.invokevirtual 45, 3) := by decide +kernel
theorem d1_4 : decode prog_31_method_6_code 4 = .ok (.tableswitch 101 0 4 #[36, 49, 62, 75, 88], 36) := by decide +kernel
theorem d1_40 : decode prog_31_method_6_code 40 = .ok (.iload_n 1, 1) := by decide +kernel
theorem d1_41 : decode prog_31_method_6_code 41 = .ok (.ifCond .ne 7, 3) := by decide +kernel
theorem d1_44 : decode prog_31_method_6_code 44 = .ok (.iconst 1, 1) := by decide +kernel
theorem d1_45 : decode prog_31_method_6_code 45 = .ok (.goto 4, 3) := by decide +kernel
theorem d1_48 : decode prog_31_method_6_code 48 = .ok (.iconst 0, 1) := by decide +kernel
theorem d1_49 : decode prog_31_method_6_code 49 = .ok (.istore_n 2, 1) := by decide +kernel
theorem d1_50 : decode prog_31_method_6_code 50 = .ok (.goto 65, 3) := by decide +kernel
theorem d1_53 : decode prog_31_method_6_code 53 = .ok (.iload_n 1, 1) := by decide +kernel
theorem d1_54 : decode prog_31_method_6_code 54 = .ok (.ifCond .eq 7, 3) := by decide +kernel
theorem d1_57 : decode prog_31_method_6_code 57 = .ok (.iconst 1, 1) := by decide +kernel
theorem d1_58 : decode prog_31_method_6_code 58 = .ok (.goto 4, 3) := by decide +kernel
theorem d1_61 : decode prog_31_method_6_code 61 = .ok (.iconst 0, 1) := by decide +kernel
theorem d1_62 : decode prog_31_method_6_code 62 = .ok (.istore_n 2, 1) := by decide +kernel
theorem d1_63 : decode prog_31_method_6_code 63 = .ok (.goto 52, 3) := by decide +kernel
theorem d1_66 : decode prog_31_method_6_code 66 = .ok (.iload_n 1, 1) := by decide +kernel
theorem d1_67 : decode prog_31_method_6_code 67 = .ok (.ifCond .gt 7, 3) := by decide +kernel
theorem d1_70 : decode prog_31_method_6_code 70 = .ok (.iconst 1, 1) := by decide +kernel
theorem d1_71 : decode prog_31_method_6_code 71 = .ok (.goto 4, 3) := by decide +kernel
theorem d1_74 : decode prog_31_method_6_code 74 = .ok (.iconst 0, 1) := by decide +kernel
theorem d1_75 : decode prog_31_method_6_code 75 = .ok (.istore_n 2, 1) := by decide +kernel
theorem d1_76 : decode prog_31_method_6_code 76 = .ok (.goto 39, 3) := by decide +kernel
theorem d1_79 : decode prog_31_method_6_code 79 = .ok (.iload_n 1, 1) := by decide +kernel
theorem d1_80 : decode prog_31_method_6_code 80 = .ok (.ifCond .lt 7, 3) := by decide +kernel
theorem d1_83 : decode prog_31_method_6_code 83 = .ok (.iconst 1, 1) := by decide +kernel
theorem d1_84 : decode prog_31_method_6_code 84 = .ok (.goto 4, 3) := by decide +kernel
theorem d1_87 : decode prog_31_method_6_code 87 = .ok (.iconst 0, 1) := by decide +kernel
theorem d1_88 : decode prog_31_method_6_code 88 = .ok (.istore_n 2, 1) := by decide +kernel
theorem d1_89 : decode prog_31_method_6_code 89 = .ok (.goto 26, 3) := by decide +kernel
theorem d1_92 : decode prog_31_method_6_code 92 = .ok (.iload_n 1, 1) := by decide +kernel
theorem d1_93 : decode prog_31_method_6_code 93 = .ok (.ifCond .ge 7, 3) := by decide +kernel
theorem d1_96 : decode prog_31_method_6_code 96 = .ok (.iconst 1, 1) := by decide +kernel
theorem d1_97 : decode prog_31_method_6_code 97 = .ok (.goto 4, 3) := by decide +kernel
theorem d1_100 : decode prog_31_method_6_code 100 = .ok (.iconst 0, 1) := by decide +kernel
theorem d1_101 : decode prog_31_method_6_code 101 = .ok (.istore_n 2, 1) := by decide +kernel
theorem d1_102 : decode prog_31_method_6_code 102 = .ok (.goto 13, 3) := by decide +kernel
theorem d1_105 : decode prog_31_method_6_code 105 = .ok (.iload_n 1, 1) := by decide +kernel
theorem d1_106 : decode prog_31_method_6_code 106 = .ok (.ifCond .le 7, 3) := by decide +kernel
theorem d1_109 : decode prog_31_method_6_code 109 = .ok (.iconst 1, 1) := by decide +kernel
theorem d1_110 : decode prog_31_method_6_code 110 = .ok (.goto 4, 3) := by decide +kernel
theorem d1_113 : decode prog_31_method_6_code 113 = .ok (.iconst 0, 1) := by decide +kernel
theorem d1_114 : decode prog_31_method_6_code 114 = .ok (.istore_n 2, 1) := by decide +kernel
theorem d1_115 : decode prog_31_method_6_code 115 = .ok (.iload_n 2, 1) := by decide +kernel
theorem d1_116 : decode prog_31_method_6_code 116 = .ok (.ireturn, 1) := by decide +kernel
theorem pd__28_29I : parseMethodDescriptor "()I" = some ⟨[], some .int⟩ := by decide +kernel
theorem pn_1 : plainName "com/example/furlong/furlong/model/Condition$Operator" = true := by first | (simp [plainName, overriddenIn]; done) | decide +kernel
theorem ef_1 (m : MethodId) (x0 : Addr) (x1 : Int32) : entryFrame m #[(.ref x0), (.int x1)] 3 = mkF m 0 #[.val (.ref x0), .val (.int x1), .unset] [] := by first | (simp [entryFrame, mkF, argsToLocals, Value.category]; done) | rfl
def Q_1 (Z : State) (a1 : Addr) (p2 : Int32) (c : Int32) (h0 : Heap) (n0 : Nat) (v : Option Value) (h : Heap) (L : List Loc) : Prop := v = some (.int (own_holds c p2)) ∧ Fr n0 L ∧ h = h0
set_option maxRecDepth 65536 in
set_option maxHeartbeats 40000000 in
theorem rm_1 (l : Launch) (Z : State) (a0 : Array Value) (hw : ∀ d ∈ tables_1, d.before a0 Z = true) (ws : List Jvm.Cond) (a1 : Addr) (p2 : Int32) (c : Int32) (h0 : Heap) (n0 : Nat) (Z0 : n0 ≤ h0.size) (F_c : Fld Z h0 a1 "java/lang/Enum" "ordinal" "I" (.int c)) (E_1 : Exa Z h0 a1 "com/example/furlong/furlong/model/Condition$Operator") :
    MetFree l (⟨"com/example/furlong/furlong/model/Condition$Operator", "holds", "(I)Z"⟩ : MethodName) (head1 (Jvm.Cond.code (⟨"com/example/furlong/furlong/model/Condition$Operator", "holds", "(I)Z"⟩ : MethodName) prog_31_method_6_code 3 (some .boolean) :: ws) ({ frames := 1, cells := 0, slots := 0, locals := 12 } : Room)) (fun a U => a = #[(.ref a1), (.int p2)] ∧ Z.Warmed39 U.vm ∧ U.heap = h0) (fun _ _ _ _ _ => True) (fun _ U o U' => ∃ v L, o = .returned v ∧ Q_1 Z a1 p2 c h0 n0 v U'.heap L ∧ FrameEnd U o U' L ({ frames := 1, cells := 0, slots := 0, locals := 12 } : Room).cells ({ frames := 1, cells := 0, slots := 0, locals := 12 } : Room).slots) := by
  refine MetFree.of_bodySF (plainFor_of_name pn_1) hisR ?_
  intro p e s m args below meth cod_ s₁ Bd hml0 hP hK
  obtain ⟨rfl, hZ, hh⟩ := hP
  have hx := Bd.exec
  have hby := Bd.bytes
  have hml : cod_.maxLocals = 3 := hml0
  have hown : s.vm.findClass "com/example/furlong/furlong/model/Condition$Operator" = some m.cls := findClass_of_methodNamed Bd.named
  have hnm := (name_of_methodNamed Bd.named Bd.method).1
  have X0 : Stand p l e ({ frames := 1, cells := 0, slots := 0, locals := 12 } : Room) s m #[(.ref a1), (.int p2)] below meth cod_ s₁ [] 0 0 := Stand.of_body Bd
  have e0 : s₁.heap = h0 := by rw [← hh, Bd.state]; rfl
  have N0 := Fr.nil n0
  have pre0 : ∀ t, Steps p.tables e below (s₁.setTop (mkF m 0 #[.val (.ref a1), .val (.int p2), .unset] [])) t → Steps p.tables e below (s₁.setTop (entryFrame m #[(.ref a1), (.int p2)] 3)) t := fun t k => castTop (ef_1 m a1 p2) k
  obtain ⟨cq2, kq2, q2a, q2b, q2c⟩ := isOf hZ e0 E_1
  obtain ⟨_, _, ⟨T2, L2, c2_, n2_⟩, -, X2, ⟨Lc2, hQ2, l2, y2, z2⟩, st2⟩ := X0.virtualBackUp hx (x := (⟨"com/example/furlong/furlong/model/Condition$Operator", "ordinal", "()I"⟩ : MethodName)) (y := (⟨"java/lang/Enum", "ordinal", "()I"⟩ : MethodName)) hown (mvT hZ (hw _ (List.mem_of_getElem? (i := 8) rfl))) (mvT hZ (hw _ (List.mem_of_getElem? (i := 9) rfl))) (mvT hZ (hw _ (List.mem_of_getElem? (i := 10) rfl))) (by decide) (mvT hZ (hw _ (List.mem_of_getElem? (i := 12) rfl))) (mvT hZ (hw _ (List.mem_of_getElem? (i := 11) rfl))) (backOf (W := 0) (rm_2 l Z a0 hw [] a1 c h0 n0 (Nat.le_trans Z0 (Keep.refl h0 []).1) F_c) hZ (hw _ (List.mem_of_getElem? (i := 14) rfl)) (hw _ (List.mem_of_getElem? (i := 13) rfl)) (by decide) (by decide)) q2a q2c (g := (mkF m 1 #[.val (.ref a1), .val (.int p2), .unset] [(.ref a1)])) rfl (by rw [hml]; rfl) (Steps.refl _) (argsL := []) (rest := []) (lenOf pd__28_29I rfl) rfl (by show 2 * 0 + _ ≤ _; exact Nat.le_of_eq rfl) (hb hby d1_1) (fun _ _ => ⟨rfl, e0, (by decide : 0 + 0 ≤ _), (by decide : 0 + 0 ≤ _)⟩)
  dsimp only [Pt.U, Pt.locs, Pt.cells, Pt.slots] at X2 l2 y2 z2 st2 hQ2
  subst l2 y2 z2
  obtain ⟨rfl, Nq2, e2⟩ := hQ2
  have N2 := Fr.app N0 Nq2
  by_cases hs4_0 : c = (0 : Int32)
  · by_cases hc41 : p2 = (0 : Int32)
    · obtain ⟨fs, hr, hrun, hended, hW, hsame⟩ := X2.leave (v := some (.int (1 : Int32))) (fun h => by rw [Bd.returns] at h; cases h)
      refine ⟨_, _, pre0 _ ?_, hrun, hended, _, _, rfl, ?_, ⟨_, rfl⟩, hW, hsame.mono (by decide) (by decide)⟩
      · show Steps p.tables e below (s₁.setTop (mkF m 0 #[.val (.ref a1), .val (.int p2), .unset] [])) _
        refine XS.aloadN X0.here hx rfl (hb hby d1_0) rfl rfl ?_
        show Steps p.tables e below (s₁.setTop (mkF m 1 #[.val (.ref a1), .val (.int p2), .unset] [(.ref a1)])) _
        refine st2.trans ?_
        show Steps p.tables e below (T2.setTop (mkF m 4 #[.val (.ref a1), .val (.int p2), .unset] [(.int c)])) _
        refine XS.tswIn X2.here hx rfl (pc0 := 4) (pc' := 40) (o := 36) rfl (hb hby d1_4) rfl (by rw [hs4_0]; decide) (by rw [hs4_0]; rfl) (by decide) (by decide) ?_
        show Steps p.tables e below (T2.setTop (mkF m 40 #[.val (.ref a1), .val (.int p2), .unset] [])) _
        refine XS.iloadN X2.here hx rfl (hb hby d1_40) rfl ?_
        show Steps p.tables e below (T2.setTop (mkF m 41 #[.val (.ref a1), .val (.int p2), .unset] [(.int p2)])) _
        refine XS.ifNo X2.here hx rfl (hb hby d1_41) rfl ((if0 _ _).trans (teq hc41).2) ?_
        show Steps p.tables e below (T2.setTop (mkF m 44 #[.val (.ref a1), .val (.int p2), .unset] [])) _
        refine XS.iconst X2.here hx rfl (hb hby d1_44) ?_
        show Steps p.tables e below (T2.setTop (mkF m 45 #[.val (.ref a1), .val (.int p2), .unset] [(.int (1 : Int32))])) _
        refine XS.goto X2.here hx rfl (pc0 := 45) (pc' := 49) rfl (hb hby d1_45) (by decide) (by decide) ?_
        show Steps p.tables e below (T2.setTop (mkF m 49 #[.val (.ref a1), .val (.int p2), .unset] [(.int (1 : Int32))])) _
        refine XS.istoreN X2.here hx rfl (hb hby d1_49) rfl (l' := #[.val (.ref a1), .val (.int p2), .val (.int (1 : Int32))]) rfl ?_
        show Steps p.tables e below (T2.setTop (mkF m 50 #[.val (.ref a1), .val (.int p2), .val (.int (1 : Int32))] [])) _
        refine XS.goto X2.here hx rfl (pc0 := 50) (pc' := 115) rfl (hb hby d1_50) (by decide) (by decide) ?_
        show Steps p.tables e below (T2.setTop (mkF m 115 #[.val (.ref a1), .val (.int p2), .val (.int (1 : Int32))] [])) _
        refine XS.iloadN X2.here hx rfl (hb hby d1_115) rfl ?_
        show Steps p.tables e below (T2.setTop (mkF m 116 #[.val (.ref a1), .val (.int p2), .val (.int (1 : Int32))] [(.int (1 : Int32))])) _
        exact retN X2 hx (t := .boolean) Bd.returns (by simp) (hb hby d1_116) hr
      · show Q_1 Z a1 p2 c h0 n0 _ T2.heap _
        rw [e2]
        exact ⟨by simp [own_holds, hs4_0, hc41], N2, rfl⟩
    · obtain ⟨fs, hr, hrun, hended, hW, hsame⟩ := X2.leave (v := some (.int (0 : Int32))) (fun h => by rw [Bd.returns] at h; cases h)
      refine ⟨_, _, pre0 _ ?_, hrun, hended, _, _, rfl, ?_, ⟨_, rfl⟩, hW, hsame.mono (by decide) (by decide)⟩
      · show Steps p.tables e below (s₁.setTop (mkF m 0 #[.val (.ref a1), .val (.int p2), .unset] [])) _
        refine XS.aloadN X0.here hx rfl (hb hby d1_0) rfl rfl ?_
        show Steps p.tables e below (s₁.setTop (mkF m 1 #[.val (.ref a1), .val (.int p2), .unset] [(.ref a1)])) _
        refine st2.trans ?_
        show Steps p.tables e below (T2.setTop (mkF m 4 #[.val (.ref a1), .val (.int p2), .unset] [(.int c)])) _
        refine XS.tswIn X2.here hx rfl (pc0 := 4) (pc' := 40) (o := 36) rfl (hb hby d1_4) rfl (by rw [hs4_0]; decide) (by rw [hs4_0]; rfl) (by decide) (by decide) ?_
        show Steps p.tables e below (T2.setTop (mkF m 40 #[.val (.ref a1), .val (.int p2), .unset] [])) _
        refine XS.iloadN X2.here hx rfl (hb hby d1_40) rfl ?_
        show Steps p.tables e below (T2.setTop (mkF m 41 #[.val (.ref a1), .val (.int p2), .unset] [(.int p2)])) _
        refine XS.ifYes X2.here hx rfl (pc0 := 41) (pc' := 48) rfl (hb hby d1_41) rfl ((if0 _ _).trans (feq hc41).2) (by decide) (by decide) ?_
        show Steps p.tables e below (T2.setTop (mkF m 48 #[.val (.ref a1), .val (.int p2), .unset] [])) _
        refine XS.iconst X2.here hx rfl (hb hby d1_48) ?_
        show Steps p.tables e below (T2.setTop (mkF m 49 #[.val (.ref a1), .val (.int p2), .unset] [(.int (0 : Int32))])) _
        refine XS.istoreN X2.here hx rfl (hb hby d1_49) rfl (l' := #[.val (.ref a1), .val (.int p2), .val (.int (0 : Int32))]) rfl ?_
        show Steps p.tables e below (T2.setTop (mkF m 50 #[.val (.ref a1), .val (.int p2), .val (.int (0 : Int32))] [])) _
        refine XS.goto X2.here hx rfl (pc0 := 50) (pc' := 115) rfl (hb hby d1_50) (by decide) (by decide) ?_
        show Steps p.tables e below (T2.setTop (mkF m 115 #[.val (.ref a1), .val (.int p2), .val (.int (0 : Int32))] [])) _
        refine XS.iloadN X2.here hx rfl (hb hby d1_115) rfl ?_
        show Steps p.tables e below (T2.setTop (mkF m 116 #[.val (.ref a1), .val (.int p2), .val (.int (0 : Int32))] [(.int (0 : Int32))])) _
        exact retN X2 hx (t := .boolean) Bd.returns (by simp) (hb hby d1_116) hr
      · show Q_1 Z a1 p2 c h0 n0 _ T2.heap _
        rw [e2]
        exact ⟨by simp [own_holds, hs4_0, hc41], N2, rfl⟩
  by_cases hs4_1 : c = (1 : Int32)
  · by_cases hc54 : p2 = (0 : Int32)
    · obtain ⟨fs, hr, hrun, hended, hW, hsame⟩ := X2.leave (v := some (.int (0 : Int32))) (fun h => by rw [Bd.returns] at h; cases h)
      refine ⟨_, _, pre0 _ ?_, hrun, hended, _, _, rfl, ?_, ⟨_, rfl⟩, hW, hsame.mono (by decide) (by decide)⟩
      · show Steps p.tables e below (s₁.setTop (mkF m 0 #[.val (.ref a1), .val (.int p2), .unset] [])) _
        refine XS.aloadN X0.here hx rfl (hb hby d1_0) rfl rfl ?_
        show Steps p.tables e below (s₁.setTop (mkF m 1 #[.val (.ref a1), .val (.int p2), .unset] [(.ref a1)])) _
        refine st2.trans ?_
        show Steps p.tables e below (T2.setTop (mkF m 4 #[.val (.ref a1), .val (.int p2), .unset] [(.int c)])) _
        refine XS.tswIn X2.here hx rfl (pc0 := 4) (pc' := 53) (o := 49) rfl (hb hby d1_4) rfl (by rw [hs4_1]; decide) (by rw [hs4_1]; rfl) (by decide) (by decide) ?_
        show Steps p.tables e below (T2.setTop (mkF m 53 #[.val (.ref a1), .val (.int p2), .unset] [])) _
        refine XS.iloadN X2.here hx rfl (hb hby d1_53) rfl ?_
        show Steps p.tables e below (T2.setTop (mkF m 54 #[.val (.ref a1), .val (.int p2), .unset] [(.int p2)])) _
        refine XS.ifYes X2.here hx rfl (pc0 := 54) (pc' := 61) rfl (hb hby d1_54) rfl ((if0 _ _).trans (teq hc54).1) (by decide) (by decide) ?_
        show Steps p.tables e below (T2.setTop (mkF m 61 #[.val (.ref a1), .val (.int p2), .unset] [])) _
        refine XS.iconst X2.here hx rfl (hb hby d1_61) ?_
        show Steps p.tables e below (T2.setTop (mkF m 62 #[.val (.ref a1), .val (.int p2), .unset] [(.int (0 : Int32))])) _
        refine XS.istoreN X2.here hx rfl (hb hby d1_62) rfl (l' := #[.val (.ref a1), .val (.int p2), .val (.int (0 : Int32))]) rfl ?_
        show Steps p.tables e below (T2.setTop (mkF m 63 #[.val (.ref a1), .val (.int p2), .val (.int (0 : Int32))] [])) _
        refine XS.goto X2.here hx rfl (pc0 := 63) (pc' := 115) rfl (hb hby d1_63) (by decide) (by decide) ?_
        show Steps p.tables e below (T2.setTop (mkF m 115 #[.val (.ref a1), .val (.int p2), .val (.int (0 : Int32))] [])) _
        refine XS.iloadN X2.here hx rfl (hb hby d1_115) rfl ?_
        show Steps p.tables e below (T2.setTop (mkF m 116 #[.val (.ref a1), .val (.int p2), .val (.int (0 : Int32))] [(.int (0 : Int32))])) _
        exact retN X2 hx (t := .boolean) Bd.returns (by simp) (hb hby d1_116) hr
      · show Q_1 Z a1 p2 c h0 n0 _ T2.heap _
        rw [e2]
        exact ⟨by simp [own_holds, hs4_1, hc54], N2, rfl⟩
    · obtain ⟨fs, hr, hrun, hended, hW, hsame⟩ := X2.leave (v := some (.int (1 : Int32))) (fun h => by rw [Bd.returns] at h; cases h)
      refine ⟨_, _, pre0 _ ?_, hrun, hended, _, _, rfl, ?_, ⟨_, rfl⟩, hW, hsame.mono (by decide) (by decide)⟩
      · show Steps p.tables e below (s₁.setTop (mkF m 0 #[.val (.ref a1), .val (.int p2), .unset] [])) _
        refine XS.aloadN X0.here hx rfl (hb hby d1_0) rfl rfl ?_
        show Steps p.tables e below (s₁.setTop (mkF m 1 #[.val (.ref a1), .val (.int p2), .unset] [(.ref a1)])) _
        refine st2.trans ?_
        show Steps p.tables e below (T2.setTop (mkF m 4 #[.val (.ref a1), .val (.int p2), .unset] [(.int c)])) _
        refine XS.tswIn X2.here hx rfl (pc0 := 4) (pc' := 53) (o := 49) rfl (hb hby d1_4) rfl (by rw [hs4_1]; decide) (by rw [hs4_1]; rfl) (by decide) (by decide) ?_
        show Steps p.tables e below (T2.setTop (mkF m 53 #[.val (.ref a1), .val (.int p2), .unset] [])) _
        refine XS.iloadN X2.here hx rfl (hb hby d1_53) rfl ?_
        show Steps p.tables e below (T2.setTop (mkF m 54 #[.val (.ref a1), .val (.int p2), .unset] [(.int p2)])) _
        refine XS.ifNo X2.here hx rfl (hb hby d1_54) rfl ((if0 _ _).trans (feq hc54).1) ?_
        show Steps p.tables e below (T2.setTop (mkF m 57 #[.val (.ref a1), .val (.int p2), .unset] [])) _
        refine XS.iconst X2.here hx rfl (hb hby d1_57) ?_
        show Steps p.tables e below (T2.setTop (mkF m 58 #[.val (.ref a1), .val (.int p2), .unset] [(.int (1 : Int32))])) _
        refine XS.goto X2.here hx rfl (pc0 := 58) (pc' := 62) rfl (hb hby d1_58) (by decide) (by decide) ?_
        show Steps p.tables e below (T2.setTop (mkF m 62 #[.val (.ref a1), .val (.int p2), .unset] [(.int (1 : Int32))])) _
        refine XS.istoreN X2.here hx rfl (hb hby d1_62) rfl (l' := #[.val (.ref a1), .val (.int p2), .val (.int (1 : Int32))]) rfl ?_
        show Steps p.tables e below (T2.setTop (mkF m 63 #[.val (.ref a1), .val (.int p2), .val (.int (1 : Int32))] [])) _
        refine XS.goto X2.here hx rfl (pc0 := 63) (pc' := 115) rfl (hb hby d1_63) (by decide) (by decide) ?_
        show Steps p.tables e below (T2.setTop (mkF m 115 #[.val (.ref a1), .val (.int p2), .val (.int (1 : Int32))] [])) _
        refine XS.iloadN X2.here hx rfl (hb hby d1_115) rfl ?_
        show Steps p.tables e below (T2.setTop (mkF m 116 #[.val (.ref a1), .val (.int p2), .val (.int (1 : Int32))] [(.int (1 : Int32))])) _
        exact retN X2 hx (t := .boolean) Bd.returns (by simp) (hb hby d1_116) hr
      · show Q_1 Z a1 p2 c h0 n0 _ T2.heap _
        rw [e2]
        exact ⟨by simp [own_holds, hs4_1, hc54], N2, rfl⟩
  by_cases hs4_2 : c = (2 : Int32)
  · by_cases hc67 : (0 : Int32) < p2
    · obtain ⟨fs, hr, hrun, hended, hW, hsame⟩ := X2.leave (v := some (.int (0 : Int32))) (fun h => by rw [Bd.returns] at h; cases h)
      refine ⟨_, _, pre0 _ ?_, hrun, hended, _, _, rfl, ?_, ⟨_, rfl⟩, hW, hsame.mono (by decide) (by decide)⟩
      · show Steps p.tables e below (s₁.setTop (mkF m 0 #[.val (.ref a1), .val (.int p2), .unset] [])) _
        refine XS.aloadN X0.here hx rfl (hb hby d1_0) rfl rfl ?_
        show Steps p.tables e below (s₁.setTop (mkF m 1 #[.val (.ref a1), .val (.int p2), .unset] [(.ref a1)])) _
        refine st2.trans ?_
        show Steps p.tables e below (T2.setTop (mkF m 4 #[.val (.ref a1), .val (.int p2), .unset] [(.int c)])) _
        refine XS.tswIn X2.here hx rfl (pc0 := 4) (pc' := 66) (o := 62) rfl (hb hby d1_4) rfl (by rw [hs4_2]; decide) (by rw [hs4_2]; rfl) (by decide) (by decide) ?_
        show Steps p.tables e below (T2.setTop (mkF m 66 #[.val (.ref a1), .val (.int p2), .unset] [])) _
        refine XS.iloadN X2.here hx rfl (hb hby d1_66) rfl ?_
        show Steps p.tables e below (T2.setTop (mkF m 67 #[.val (.ref a1), .val (.int p2), .unset] [(.int p2)])) _
        refine XS.ifYes X2.here hx rfl (pc0 := 67) (pc' := 74) rfl (hb hby d1_67) rfl ((if0 _ _).trans (tlt hc67).2.2.1) (by decide) (by decide) ?_
        show Steps p.tables e below (T2.setTop (mkF m 74 #[.val (.ref a1), .val (.int p2), .unset] [])) _
        refine XS.iconst X2.here hx rfl (hb hby d1_74) ?_
        show Steps p.tables e below (T2.setTop (mkF m 75 #[.val (.ref a1), .val (.int p2), .unset] [(.int (0 : Int32))])) _
        refine XS.istoreN X2.here hx rfl (hb hby d1_75) rfl (l' := #[.val (.ref a1), .val (.int p2), .val (.int (0 : Int32))]) rfl ?_
        show Steps p.tables e below (T2.setTop (mkF m 76 #[.val (.ref a1), .val (.int p2), .val (.int (0 : Int32))] [])) _
        refine XS.goto X2.here hx rfl (pc0 := 76) (pc' := 115) rfl (hb hby d1_76) (by decide) (by decide) ?_
        show Steps p.tables e below (T2.setTop (mkF m 115 #[.val (.ref a1), .val (.int p2), .val (.int (0 : Int32))] [])) _
        refine XS.iloadN X2.here hx rfl (hb hby d1_115) rfl ?_
        show Steps p.tables e below (T2.setTop (mkF m 116 #[.val (.ref a1), .val (.int p2), .val (.int (0 : Int32))] [(.int (0 : Int32))])) _
        exact retN X2 hx (t := .boolean) Bd.returns (by simp) (hb hby d1_116) hr
      · show Q_1 Z a1 p2 c h0 n0 _ T2.heap _
        rw [e2]
        exact ⟨by simp [own_holds, hs4_2, hc67], N2, rfl⟩
    · obtain ⟨fs, hr, hrun, hended, hW, hsame⟩ := X2.leave (v := some (.int (1 : Int32))) (fun h => by rw [Bd.returns] at h; cases h)
      refine ⟨_, _, pre0 _ ?_, hrun, hended, _, _, rfl, ?_, ⟨_, rfl⟩, hW, hsame.mono (by decide) (by decide)⟩
      · show Steps p.tables e below (s₁.setTop (mkF m 0 #[.val (.ref a1), .val (.int p2), .unset] [])) _
        refine XS.aloadN X0.here hx rfl (hb hby d1_0) rfl rfl ?_
        show Steps p.tables e below (s₁.setTop (mkF m 1 #[.val (.ref a1), .val (.int p2), .unset] [(.ref a1)])) _
        refine st2.trans ?_
        show Steps p.tables e below (T2.setTop (mkF m 4 #[.val (.ref a1), .val (.int p2), .unset] [(.int c)])) _
        refine XS.tswIn X2.here hx rfl (pc0 := 4) (pc' := 66) (o := 62) rfl (hb hby d1_4) rfl (by rw [hs4_2]; decide) (by rw [hs4_2]; rfl) (by decide) (by decide) ?_
        show Steps p.tables e below (T2.setTop (mkF m 66 #[.val (.ref a1), .val (.int p2), .unset] [])) _
        refine XS.iloadN X2.here hx rfl (hb hby d1_66) rfl ?_
        show Steps p.tables e below (T2.setTop (mkF m 67 #[.val (.ref a1), .val (.int p2), .unset] [(.int p2)])) _
        refine XS.ifNo X2.here hx rfl (hb hby d1_67) rfl ((if0 _ _).trans (flt hc67).2.2.1) ?_
        show Steps p.tables e below (T2.setTop (mkF m 70 #[.val (.ref a1), .val (.int p2), .unset] [])) _
        refine XS.iconst X2.here hx rfl (hb hby d1_70) ?_
        show Steps p.tables e below (T2.setTop (mkF m 71 #[.val (.ref a1), .val (.int p2), .unset] [(.int (1 : Int32))])) _
        refine XS.goto X2.here hx rfl (pc0 := 71) (pc' := 75) rfl (hb hby d1_71) (by decide) (by decide) ?_
        show Steps p.tables e below (T2.setTop (mkF m 75 #[.val (.ref a1), .val (.int p2), .unset] [(.int (1 : Int32))])) _
        refine XS.istoreN X2.here hx rfl (hb hby d1_75) rfl (l' := #[.val (.ref a1), .val (.int p2), .val (.int (1 : Int32))]) rfl ?_
        show Steps p.tables e below (T2.setTop (mkF m 76 #[.val (.ref a1), .val (.int p2), .val (.int (1 : Int32))] [])) _
        refine XS.goto X2.here hx rfl (pc0 := 76) (pc' := 115) rfl (hb hby d1_76) (by decide) (by decide) ?_
        show Steps p.tables e below (T2.setTop (mkF m 115 #[.val (.ref a1), .val (.int p2), .val (.int (1 : Int32))] [])) _
        refine XS.iloadN X2.here hx rfl (hb hby d1_115) rfl ?_
        show Steps p.tables e below (T2.setTop (mkF m 116 #[.val (.ref a1), .val (.int p2), .val (.int (1 : Int32))] [(.int (1 : Int32))])) _
        exact retN X2 hx (t := .boolean) Bd.returns (by simp) (hb hby d1_116) hr
      · show Q_1 Z a1 p2 c h0 n0 _ T2.heap _
        rw [e2]
        exact ⟨by simp [own_holds, hs4_2, hc67], N2, rfl⟩
  by_cases hs4_3 : c = (3 : Int32)
  · by_cases hc80 : p2 < (0 : Int32)
    · obtain ⟨fs, hr, hrun, hended, hW, hsame⟩ := X2.leave (v := some (.int (0 : Int32))) (fun h => by rw [Bd.returns] at h; cases h)
      refine ⟨_, _, pre0 _ ?_, hrun, hended, _, _, rfl, ?_, ⟨_, rfl⟩, hW, hsame.mono (by decide) (by decide)⟩
      · show Steps p.tables e below (s₁.setTop (mkF m 0 #[.val (.ref a1), .val (.int p2), .unset] [])) _
        refine XS.aloadN X0.here hx rfl (hb hby d1_0) rfl rfl ?_
        show Steps p.tables e below (s₁.setTop (mkF m 1 #[.val (.ref a1), .val (.int p2), .unset] [(.ref a1)])) _
        refine st2.trans ?_
        show Steps p.tables e below (T2.setTop (mkF m 4 #[.val (.ref a1), .val (.int p2), .unset] [(.int c)])) _
        refine XS.tswIn X2.here hx rfl (pc0 := 4) (pc' := 79) (o := 75) rfl (hb hby d1_4) rfl (by rw [hs4_3]; decide) (by rw [hs4_3]; rfl) (by decide) (by decide) ?_
        show Steps p.tables e below (T2.setTop (mkF m 79 #[.val (.ref a1), .val (.int p2), .unset] [])) _
        refine XS.iloadN X2.here hx rfl (hb hby d1_79) rfl ?_
        show Steps p.tables e below (T2.setTop (mkF m 80 #[.val (.ref a1), .val (.int p2), .unset] [(.int p2)])) _
        refine XS.ifYes X2.here hx rfl (pc0 := 80) (pc' := 87) rfl (hb hby d1_80) rfl ((if0 _ _).trans (tlt hc80).1) (by decide) (by decide) ?_
        show Steps p.tables e below (T2.setTop (mkF m 87 #[.val (.ref a1), .val (.int p2), .unset] [])) _
        refine XS.iconst X2.here hx rfl (hb hby d1_87) ?_
        show Steps p.tables e below (T2.setTop (mkF m 88 #[.val (.ref a1), .val (.int p2), .unset] [(.int (0 : Int32))])) _
        refine XS.istoreN X2.here hx rfl (hb hby d1_88) rfl (l' := #[.val (.ref a1), .val (.int p2), .val (.int (0 : Int32))]) rfl ?_
        show Steps p.tables e below (T2.setTop (mkF m 89 #[.val (.ref a1), .val (.int p2), .val (.int (0 : Int32))] [])) _
        refine XS.goto X2.here hx rfl (pc0 := 89) (pc' := 115) rfl (hb hby d1_89) (by decide) (by decide) ?_
        show Steps p.tables e below (T2.setTop (mkF m 115 #[.val (.ref a1), .val (.int p2), .val (.int (0 : Int32))] [])) _
        refine XS.iloadN X2.here hx rfl (hb hby d1_115) rfl ?_
        show Steps p.tables e below (T2.setTop (mkF m 116 #[.val (.ref a1), .val (.int p2), .val (.int (0 : Int32))] [(.int (0 : Int32))])) _
        exact retN X2 hx (t := .boolean) Bd.returns (by simp) (hb hby d1_116) hr
      · show Q_1 Z a1 p2 c h0 n0 _ T2.heap _
        rw [e2]
        exact ⟨by simp [own_holds, hs4_3, hc80], N2, rfl⟩
    · obtain ⟨fs, hr, hrun, hended, hW, hsame⟩ := X2.leave (v := some (.int (1 : Int32))) (fun h => by rw [Bd.returns] at h; cases h)
      refine ⟨_, _, pre0 _ ?_, hrun, hended, _, _, rfl, ?_, ⟨_, rfl⟩, hW, hsame.mono (by decide) (by decide)⟩
      · show Steps p.tables e below (s₁.setTop (mkF m 0 #[.val (.ref a1), .val (.int p2), .unset] [])) _
        refine XS.aloadN X0.here hx rfl (hb hby d1_0) rfl rfl ?_
        show Steps p.tables e below (s₁.setTop (mkF m 1 #[.val (.ref a1), .val (.int p2), .unset] [(.ref a1)])) _
        refine st2.trans ?_
        show Steps p.tables e below (T2.setTop (mkF m 4 #[.val (.ref a1), .val (.int p2), .unset] [(.int c)])) _
        refine XS.tswIn X2.here hx rfl (pc0 := 4) (pc' := 79) (o := 75) rfl (hb hby d1_4) rfl (by rw [hs4_3]; decide) (by rw [hs4_3]; rfl) (by decide) (by decide) ?_
        show Steps p.tables e below (T2.setTop (mkF m 79 #[.val (.ref a1), .val (.int p2), .unset] [])) _
        refine XS.iloadN X2.here hx rfl (hb hby d1_79) rfl ?_
        show Steps p.tables e below (T2.setTop (mkF m 80 #[.val (.ref a1), .val (.int p2), .unset] [(.int p2)])) _
        refine XS.ifNo X2.here hx rfl (hb hby d1_80) rfl ((if0 _ _).trans (flt hc80).1) ?_
        show Steps p.tables e below (T2.setTop (mkF m 83 #[.val (.ref a1), .val (.int p2), .unset] [])) _
        refine XS.iconst X2.here hx rfl (hb hby d1_83) ?_
        show Steps p.tables e below (T2.setTop (mkF m 84 #[.val (.ref a1), .val (.int p2), .unset] [(.int (1 : Int32))])) _
        refine XS.goto X2.here hx rfl (pc0 := 84) (pc' := 88) rfl (hb hby d1_84) (by decide) (by decide) ?_
        show Steps p.tables e below (T2.setTop (mkF m 88 #[.val (.ref a1), .val (.int p2), .unset] [(.int (1 : Int32))])) _
        refine XS.istoreN X2.here hx rfl (hb hby d1_88) rfl (l' := #[.val (.ref a1), .val (.int p2), .val (.int (1 : Int32))]) rfl ?_
        show Steps p.tables e below (T2.setTop (mkF m 89 #[.val (.ref a1), .val (.int p2), .val (.int (1 : Int32))] [])) _
        refine XS.goto X2.here hx rfl (pc0 := 89) (pc' := 115) rfl (hb hby d1_89) (by decide) (by decide) ?_
        show Steps p.tables e below (T2.setTop (mkF m 115 #[.val (.ref a1), .val (.int p2), .val (.int (1 : Int32))] [])) _
        refine XS.iloadN X2.here hx rfl (hb hby d1_115) rfl ?_
        show Steps p.tables e below (T2.setTop (mkF m 116 #[.val (.ref a1), .val (.int p2), .val (.int (1 : Int32))] [(.int (1 : Int32))])) _
        exact retN X2 hx (t := .boolean) Bd.returns (by simp) (hb hby d1_116) hr
      · show Q_1 Z a1 p2 c h0 n0 _ T2.heap _
        rw [e2]
        exact ⟨by simp [own_holds, hs4_3, hc80], N2, rfl⟩
  by_cases hs4_4 : c = (4 : Int32)
  · by_cases hc93 : p2 < (0 : Int32)
    · obtain ⟨fs, hr, hrun, hended, hW, hsame⟩ := X2.leave (v := some (.int (1 : Int32))) (fun h => by rw [Bd.returns] at h; cases h)
      refine ⟨_, _, pre0 _ ?_, hrun, hended, _, _, rfl, ?_, ⟨_, rfl⟩, hW, hsame.mono (by decide) (by decide)⟩
      · show Steps p.tables e below (s₁.setTop (mkF m 0 #[.val (.ref a1), .val (.int p2), .unset] [])) _
        refine XS.aloadN X0.here hx rfl (hb hby d1_0) rfl rfl ?_
        show Steps p.tables e below (s₁.setTop (mkF m 1 #[.val (.ref a1), .val (.int p2), .unset] [(.ref a1)])) _
        refine st2.trans ?_
        show Steps p.tables e below (T2.setTop (mkF m 4 #[.val (.ref a1), .val (.int p2), .unset] [(.int c)])) _
        refine XS.tswIn X2.here hx rfl (pc0 := 4) (pc' := 92) (o := 88) rfl (hb hby d1_4) rfl (by rw [hs4_4]; decide) (by rw [hs4_4]; rfl) (by decide) (by decide) ?_
        show Steps p.tables e below (T2.setTop (mkF m 92 #[.val (.ref a1), .val (.int p2), .unset] [])) _
        refine XS.iloadN X2.here hx rfl (hb hby d1_92) rfl ?_
        show Steps p.tables e below (T2.setTop (mkF m 93 #[.val (.ref a1), .val (.int p2), .unset] [(.int p2)])) _
        refine XS.ifNo X2.here hx rfl (hb hby d1_93) rfl ((if0 _ _).trans (tlt hc93).2.1) ?_
        show Steps p.tables e below (T2.setTop (mkF m 96 #[.val (.ref a1), .val (.int p2), .unset] [])) _
        refine XS.iconst X2.here hx rfl (hb hby d1_96) ?_
        show Steps p.tables e below (T2.setTop (mkF m 97 #[.val (.ref a1), .val (.int p2), .unset] [(.int (1 : Int32))])) _
        refine XS.goto X2.here hx rfl (pc0 := 97) (pc' := 101) rfl (hb hby d1_97) (by decide) (by decide) ?_
        show Steps p.tables e below (T2.setTop (mkF m 101 #[.val (.ref a1), .val (.int p2), .unset] [(.int (1 : Int32))])) _
        refine XS.istoreN X2.here hx rfl (hb hby d1_101) rfl (l' := #[.val (.ref a1), .val (.int p2), .val (.int (1 : Int32))]) rfl ?_
        show Steps p.tables e below (T2.setTop (mkF m 102 #[.val (.ref a1), .val (.int p2), .val (.int (1 : Int32))] [])) _
        refine XS.goto X2.here hx rfl (pc0 := 102) (pc' := 115) rfl (hb hby d1_102) (by decide) (by decide) ?_
        show Steps p.tables e below (T2.setTop (mkF m 115 #[.val (.ref a1), .val (.int p2), .val (.int (1 : Int32))] [])) _
        refine XS.iloadN X2.here hx rfl (hb hby d1_115) rfl ?_
        show Steps p.tables e below (T2.setTop (mkF m 116 #[.val (.ref a1), .val (.int p2), .val (.int (1 : Int32))] [(.int (1 : Int32))])) _
        exact retN X2 hx (t := .boolean) Bd.returns (by simp) (hb hby d1_116) hr
      · show Q_1 Z a1 p2 c h0 n0 _ T2.heap _
        rw [e2]
        exact ⟨by simp [own_holds, hs4_4, hc93], N2, rfl⟩
    · obtain ⟨fs, hr, hrun, hended, hW, hsame⟩ := X2.leave (v := some (.int (0 : Int32))) (fun h => by rw [Bd.returns] at h; cases h)
      refine ⟨_, _, pre0 _ ?_, hrun, hended, _, _, rfl, ?_, ⟨_, rfl⟩, hW, hsame.mono (by decide) (by decide)⟩
      · show Steps p.tables e below (s₁.setTop (mkF m 0 #[.val (.ref a1), .val (.int p2), .unset] [])) _
        refine XS.aloadN X0.here hx rfl (hb hby d1_0) rfl rfl ?_
        show Steps p.tables e below (s₁.setTop (mkF m 1 #[.val (.ref a1), .val (.int p2), .unset] [(.ref a1)])) _
        refine st2.trans ?_
        show Steps p.tables e below (T2.setTop (mkF m 4 #[.val (.ref a1), .val (.int p2), .unset] [(.int c)])) _
        refine XS.tswIn X2.here hx rfl (pc0 := 4) (pc' := 92) (o := 88) rfl (hb hby d1_4) rfl (by rw [hs4_4]; decide) (by rw [hs4_4]; rfl) (by decide) (by decide) ?_
        show Steps p.tables e below (T2.setTop (mkF m 92 #[.val (.ref a1), .val (.int p2), .unset] [])) _
        refine XS.iloadN X2.here hx rfl (hb hby d1_92) rfl ?_
        show Steps p.tables e below (T2.setTop (mkF m 93 #[.val (.ref a1), .val (.int p2), .unset] [(.int p2)])) _
        refine XS.ifYes X2.here hx rfl (pc0 := 93) (pc' := 100) rfl (hb hby d1_93) rfl ((if0 _ _).trans (flt hc93).2.1) (by decide) (by decide) ?_
        show Steps p.tables e below (T2.setTop (mkF m 100 #[.val (.ref a1), .val (.int p2), .unset] [])) _
        refine XS.iconst X2.here hx rfl (hb hby d1_100) ?_
        show Steps p.tables e below (T2.setTop (mkF m 101 #[.val (.ref a1), .val (.int p2), .unset] [(.int (0 : Int32))])) _
        refine XS.istoreN X2.here hx rfl (hb hby d1_101) rfl (l' := #[.val (.ref a1), .val (.int p2), .val (.int (0 : Int32))]) rfl ?_
        show Steps p.tables e below (T2.setTop (mkF m 102 #[.val (.ref a1), .val (.int p2), .val (.int (0 : Int32))] [])) _
        refine XS.goto X2.here hx rfl (pc0 := 102) (pc' := 115) rfl (hb hby d1_102) (by decide) (by decide) ?_
        show Steps p.tables e below (T2.setTop (mkF m 115 #[.val (.ref a1), .val (.int p2), .val (.int (0 : Int32))] [])) _
        refine XS.iloadN X2.here hx rfl (hb hby d1_115) rfl ?_
        show Steps p.tables e below (T2.setTop (mkF m 116 #[.val (.ref a1), .val (.int p2), .val (.int (0 : Int32))] [(.int (0 : Int32))])) _
        exact retN X2 hx (t := .boolean) Bd.returns (by simp) (hb hby d1_116) hr
      · show Q_1 Z a1 p2 c h0 n0 _ T2.heap _
        rw [e2]
        exact ⟨by simp [own_holds, hs4_4, hc93], N2, rfl⟩
  have hsd4 : c.toInt < 0 ∨ c.toInt > 4 := own_out c hs4_0 hs4_1 hs4_2 hs4_3 hs4_4
  by_cases hc106 : (0 : Int32) < p2
  · obtain ⟨fs, hr, hrun, hended, hW, hsame⟩ := X2.leave (v := some (.int (1 : Int32))) (fun h => by rw [Bd.returns] at h; cases h)
    refine ⟨_, _, pre0 _ ?_, hrun, hended, _, _, rfl, ?_, ⟨_, rfl⟩, hW, hsame.mono (by decide) (by decide)⟩
    · show Steps p.tables e below (s₁.setTop (mkF m 0 #[.val (.ref a1), .val (.int p2), .unset] [])) _
      refine XS.aloadN X0.here hx rfl (hb hby d1_0) rfl rfl ?_
      show Steps p.tables e below (s₁.setTop (mkF m 1 #[.val (.ref a1), .val (.int p2), .unset] [(.ref a1)])) _
      refine st2.trans ?_
      show Steps p.tables e below (T2.setTop (mkF m 4 #[.val (.ref a1), .val (.int p2), .unset] [(.int c)])) _
      refine XS.tswOut X2.here hx rfl (pc0 := 4) (pc' := 105) rfl (hb hby d1_4) rfl hsd4 (by decide) (by decide) ?_
      show Steps p.tables e below (T2.setTop (mkF m 105 #[.val (.ref a1), .val (.int p2), .unset] [])) _
      refine XS.iloadN X2.here hx rfl (hb hby d1_105) rfl ?_
      show Steps p.tables e below (T2.setTop (mkF m 106 #[.val (.ref a1), .val (.int p2), .unset] [(.int p2)])) _
      refine XS.ifNo X2.here hx rfl (hb hby d1_106) rfl ((if0 _ _).trans (tlt hc106).2.2.2) ?_
      show Steps p.tables e below (T2.setTop (mkF m 109 #[.val (.ref a1), .val (.int p2), .unset] [])) _
      refine XS.iconst X2.here hx rfl (hb hby d1_109) ?_
      show Steps p.tables e below (T2.setTop (mkF m 110 #[.val (.ref a1), .val (.int p2), .unset] [(.int (1 : Int32))])) _
      refine XS.goto X2.here hx rfl (pc0 := 110) (pc' := 114) rfl (hb hby d1_110) (by decide) (by decide) ?_
      show Steps p.tables e below (T2.setTop (mkF m 114 #[.val (.ref a1), .val (.int p2), .unset] [(.int (1 : Int32))])) _
      refine XS.istoreN X2.here hx rfl (hb hby d1_114) rfl (l' := #[.val (.ref a1), .val (.int p2), .val (.int (1 : Int32))]) rfl ?_
      show Steps p.tables e below (T2.setTop (mkF m 115 #[.val (.ref a1), .val (.int p2), .val (.int (1 : Int32))] [])) _
      refine XS.iloadN X2.here hx rfl (hb hby d1_115) rfl ?_
      show Steps p.tables e below (T2.setTop (mkF m 116 #[.val (.ref a1), .val (.int p2), .val (.int (1 : Int32))] [(.int (1 : Int32))])) _
      exact retN X2 hx (t := .boolean) Bd.returns (by simp) (hb hby d1_116) hr
    · show Q_1 Z a1 p2 c h0 n0 _ T2.heap _
      rw [e2]
      exact ⟨by simp [own_holds, hs4_0, hs4_1, hs4_2, hs4_3, hs4_4, hc106], N2, rfl⟩
  · obtain ⟨fs, hr, hrun, hended, hW, hsame⟩ := X2.leave (v := some (.int (0 : Int32))) (fun h => by rw [Bd.returns] at h; cases h)
    refine ⟨_, _, pre0 _ ?_, hrun, hended, _, _, rfl, ?_, ⟨_, rfl⟩, hW, hsame.mono (by decide) (by decide)⟩
    · show Steps p.tables e below (s₁.setTop (mkF m 0 #[.val (.ref a1), .val (.int p2), .unset] [])) _
      refine XS.aloadN X0.here hx rfl (hb hby d1_0) rfl rfl ?_
      show Steps p.tables e below (s₁.setTop (mkF m 1 #[.val (.ref a1), .val (.int p2), .unset] [(.ref a1)])) _
      refine st2.trans ?_
      show Steps p.tables e below (T2.setTop (mkF m 4 #[.val (.ref a1), .val (.int p2), .unset] [(.int c)])) _
      refine XS.tswOut X2.here hx rfl (pc0 := 4) (pc' := 105) rfl (hb hby d1_4) rfl hsd4 (by decide) (by decide) ?_
      show Steps p.tables e below (T2.setTop (mkF m 105 #[.val (.ref a1), .val (.int p2), .unset] [])) _
      refine XS.iloadN X2.here hx rfl (hb hby d1_105) rfl ?_
      show Steps p.tables e below (T2.setTop (mkF m 106 #[.val (.ref a1), .val (.int p2), .unset] [(.int p2)])) _
      refine XS.ifYes X2.here hx rfl (pc0 := 106) (pc' := 113) rfl (hb hby d1_106) rfl ((if0 _ _).trans (flt hc106).2.2.2) (by decide) (by decide) ?_
      show Steps p.tables e below (T2.setTop (mkF m 113 #[.val (.ref a1), .val (.int p2), .unset] [])) _
      refine XS.iconst X2.here hx rfl (hb hby d1_113) ?_
      show Steps p.tables e below (T2.setTop (mkF m 114 #[.val (.ref a1), .val (.int p2), .unset] [(.int (0 : Int32))])) _
      refine XS.istoreN X2.here hx rfl (hb hby d1_114) rfl (l' := #[.val (.ref a1), .val (.int p2), .val (.int (0 : Int32))]) rfl ?_
      show Steps p.tables e below (T2.setTop (mkF m 115 #[.val (.ref a1), .val (.int p2), .val (.int (0 : Int32))] [])) _
      refine XS.iloadN X2.here hx rfl (hb hby d1_115) rfl ?_
      show Steps p.tables e below (T2.setTop (mkF m 116 #[.val (.ref a1), .val (.int p2), .val (.int (0 : Int32))] [(.int (0 : Int32))])) _
      exact retN X2 hx (t := .boolean) Bd.returns (by simp) (hb hby d1_116) hr
    · show Q_1 Z a1 p2 c h0 n0 _ T2.heap _
      rw [e2]
      exact ⟨by simp [own_holds, hs4_0, hs4_1, hs4_2, hs4_3, hs4_4, hc106], N2, rfl⟩
theorem pd__28I_29Z : parseMethodDescriptor "(I)Z" = some ⟨[.int], some .boolean⟩ := by decide +kernel
theorem pn_0 : plainName "com/example/furlong/furlong/model/OperatorHoldsPinLaw" = true := by first | (simp [plainName, overriddenIn]; done) | decide +kernel
theorem ef_0 (m : MethodId) (x0 : Int32) : entryFrame m #[(.int x0)] maxLocals = mkF m 0 #[.val (.int x0), .unset, .unset, .unset, .unset, .unset, .unset, .unset, .unset] [] := by first | (simp [entryFrame, mkF, argsToLocals, Value.category, maxLocals]; done) | rfl
def Q_0 (Z : State) (p1 : Int32) (aE : Addr) (aN : Addr) (aM : Addr) (aL : Addr) (aB : Addr) (aA : Addr) (h0 : Heap) (n0 : Nat) (v : Option Value) (h : Heap) (L : List Loc) : Prop := v = some (.int 1) ∧ Fr n0 L
set_option maxRecDepth 65536 in
set_option maxHeartbeats 40000000 in
theorem rm_0 (l : Launch) (Z : State) (a0 : Array Value) (hw : ∀ d ∈ tables_1, d.before a0 Z = true) (ws : List Jvm.Cond) (p1 : Int32) (aE : Addr) (aN : Addr) (aM : Addr) (aL : Addr) (aB : Addr) (aA : Addr) (h0 : Heap) (n0 : Nat) (Z0 : n0 ≤ h0.size) (S_EQUAL : Sta Z h0 "com/example/furlong/furlong/model/Condition$Operator" "EQUAL" "Lcom/example/furlong/furlong/model/Condition$Operator;" (.ref aE)) (S_NOT_EQUAL : Sta Z h0 "com/example/furlong/furlong/model/Condition$Operator" "NOT_EQUAL" "Lcom/example/furlong/furlong/model/Condition$Operator;" (.ref aN)) (S_AT_MOST : Sta Z h0 "com/example/furlong/furlong/model/Condition$Operator" "AT_MOST" "Lcom/example/furlong/furlong/model/Condition$Operator;" (.ref aM)) (S_AT_LEAST : Sta Z h0 "com/example/furlong/furlong/model/Condition$Operator" "AT_LEAST" "Lcom/example/furlong/furlong/model/Condition$Operator;" (.ref aL)) (S_BELOW : Sta Z h0 "com/example/furlong/furlong/model/Condition$Operator" "BELOW" "Lcom/example/furlong/furlong/model/Condition$Operator;" (.ref aB)) (S_ABOVE : Sta Z h0 "com/example/furlong/furlong/model/Condition$Operator" "ABOVE" "Lcom/example/furlong/furlong/model/Condition$Operator;" (.ref aA)) (E_EQUAL : Exa Z h0 aE "com/example/furlong/furlong/model/Condition$Operator") (E_NOT_EQUAL : Exa Z h0 aN "com/example/furlong/furlong/model/Condition$Operator") (E_AT_MOST : Exa Z h0 aM "com/example/furlong/furlong/model/Condition$Operator") (E_AT_LEAST : Exa Z h0 aL "com/example/furlong/furlong/model/Condition$Operator") (E_BELOW : Exa Z h0 aB "com/example/furlong/furlong/model/Condition$Operator") (E_ABOVE : Exa Z h0 aA "com/example/furlong/furlong/model/Condition$Operator") (F_EQUAL : Fld Z h0 aE "java/lang/Enum" "ordinal" "I" (.int (0 : Int32))) (F_NOT_EQUAL : Fld Z h0 aN "java/lang/Enum" "ordinal" "I" (.int (1 : Int32))) (F_AT_MOST : Fld Z h0 aM "java/lang/Enum" "ordinal" "I" (.int (2 : Int32))) (F_AT_LEAST : Fld Z h0 aL "java/lang/Enum" "ordinal" "I" (.int (3 : Int32))) (F_BELOW : Fld Z h0 aB "java/lang/Enum" "ordinal" "I" (.int (4 : Int32))) (F_ABOVE : Fld Z h0 aA "java/lang/Enum" "ordinal" "I" (.int (5 : Int32))) :
    MetFree l x (head1 (Jvm.Cond.code x code maxLocals ret :: ws) room_1) (fun a U => a = #[(.int p1)] ∧ Z.Warmed39 U.vm ∧ U.heap = h0) (fun _ _ _ _ _ => True) (fun _ U o U' => ∃ v L, o = .returned v ∧ Q_0 Z p1 aE aN aM aL aB aA h0 n0 v U'.heap L ∧ FrameEnd U o U' L room_1.cells room_1.slots) := by
  refine MetFree.of_bodySF (plainFor_of_name pn_0) hisR ?_
  intro p e s m args below meth cod_ s₁ Bd hml0 hP hK
  obtain ⟨rfl, hZ, hh⟩ := hP
  have hx := Bd.exec
  have hby := Bd.bytes
  have hml : cod_.maxLocals = 9 := hml0
  have hown : s.vm.findClass "com/example/furlong/furlong/model/OperatorHoldsPinLaw" = some m.cls := findClass_of_methodNamed Bd.named
  have hnm := (name_of_methodNamed Bd.named Bd.method).1
  have X0 : Stand p l e room_1 s m #[(.int p1)] below meth cod_ s₁ [] 0 0 := Stand.of_body Bd
  have e0 : s₁.heap = h0 := by rw [← hh, Bd.state]; rfl
  have N0 := Fr.nil n0
  have pre0 : ∀ t, Steps p.tables e below (s₁.setTop (mkF m 0 #[.val (.int p1), .unset, .unset, .unset, .unset, .unset, .unset, .unset, .unset] [])) t → Steps p.tables e below (s₁.setTop (entryFrame m #[(.int p1)] maxLocals)) t := fun t k => castTop (ef_0 m p1) k
  obtain ⟨T3, X3, e3, st3⟩ := getS2 X0 hx hZ hown (host := "") (Or.inl (hw _ (List.mem_of_getElem? (i := 0) rfl))) Via.refl e0 S_EQUAL (g := (mkF m 0 #[.val (.int p1), .unset, .unset, .unset, .unset, .unset, .unset, .unset, .unset] [])) rfl (hb hby at_0)
  obtain ⟨cq4, kq4, q4a, q4b, q4c⟩ := isOf hZ e3 E_EQUAL
  obtain ⟨_, _, ⟨T4, L4, c4_, n4_⟩, -, X4, ⟨Lc4, hQ4, l4, y4, z4⟩, st4⟩ := X3.virtualBack hx (y := (⟨"com/example/furlong/furlong/model/Condition$Operator", "holds", "(I)Z"⟩ : MethodName)) (z := (⟨"com/example/furlong/furlong/model/Condition$Operator", "holds", "(I)Z"⟩ : MethodName)) hown (mvT hZ (hw _ (List.mem_of_getElem? (i := 3) rfl))) (mvT hZ (hw _ (List.mem_of_getElem? (i := 4) rfl))) (notFace_of_selects (args := #[]) (mvT hZ (hw _ (List.mem_of_getElem? (i := 6) rfl)))) (mvT hZ (hw _ (List.mem_of_getElem? (i := 6) rfl))) (mvT hZ (hw _ (List.mem_of_getElem? (i := 5) rfl))) (by decide) (backOf (W := 0) (rm_1 l Z a0 hw [] aE p1 (0 : Int32) h0 n0 (Nat.le_trans Z0 (Keep.refl h0 []).1) F_EQUAL E_EQUAL) hZ (hw _ (List.mem_of_getElem? (i := 7) rfl)) (hw _ (List.mem_of_getElem? (i := 1) rfl)) (by decide) (by decide)) q4a q4c (g := (mkF m 4 #[.val (.int p1), .unset, .unset, .unset, .unset, .unset, .unset, .unset, .unset] [(.int p1), (.ref aE)])) rfl (by rw [hml]; rfl) (Steps.refl _) (argsL := [(.int p1)]) (rest := []) (lenOf pd__28I_29Z rfl) rfl (by show 2 * 0 + _ ≤ _; exact Nat.le_of_eq rfl) (hb hby at_4) (fun _ _ => ⟨rfl, e3, (by decide : 0 + 0 ≤ _), (by decide : 0 + 0 ≤ _)⟩)
  dsimp only [Pt.U, Pt.locs, Pt.cells, Pt.slots] at X4 l4 y4 z4 st4 hQ4
  subst l4 y4 z4
  obtain ⟨rfl, Nq4, e4⟩ := hQ4
  have N4 := Fr.app N0 Nq4
  obtain ⟨T5, X5, e5, st5⟩ := getS2 X4 hx hZ hown (host := "") (Or.inl (hw _ (List.mem_of_getElem? (i := 17) rfl))) Via.refl e4 S_NOT_EQUAL (g := (mkF m 8 #[.val (.int p1), .val (.int (own_holds (0 : Int32) p1)), .unset, .unset, .unset, .unset, .unset, .unset, .unset] [])) rfl (hb hby at_8)
  obtain ⟨cq6, kq6, q6a, q6b, q6c⟩ := isOf hZ e5 E_NOT_EQUAL
  obtain ⟨_, _, ⟨T6, L6, c6_, n6_⟩, -, X6, ⟨Lc6, hQ6, l6, y6, z6⟩, st6⟩ := X5.virtualBack hx (y := (⟨"com/example/furlong/furlong/model/Condition$Operator", "holds", "(I)Z"⟩ : MethodName)) (z := (⟨"com/example/furlong/furlong/model/Condition$Operator", "holds", "(I)Z"⟩ : MethodName)) hown (mvT hZ (hw _ (List.mem_of_getElem? (i := 3) rfl))) (mvT hZ (hw _ (List.mem_of_getElem? (i := 4) rfl))) (notFace_of_selects (args := #[]) (mvT hZ (hw _ (List.mem_of_getElem? (i := 6) rfl)))) (mvT hZ (hw _ (List.mem_of_getElem? (i := 6) rfl))) (mvT hZ (hw _ (List.mem_of_getElem? (i := 5) rfl))) (by decide) (backOf (W := 0) (rm_1 l Z a0 hw [] aN p1 (1 : Int32) h0 n0 (Nat.le_trans Z0 (Keep.refl h0 []).1) F_NOT_EQUAL E_NOT_EQUAL) hZ (hw _ (List.mem_of_getElem? (i := 7) rfl)) (hw _ (List.mem_of_getElem? (i := 1) rfl)) (by decide) (by decide)) q6a q6c (g := (mkF m 12 #[.val (.int p1), .val (.int (own_holds (0 : Int32) p1)), .unset, .unset, .unset, .unset, .unset, .unset, .unset] [(.int p1), (.ref aN)])) rfl (by rw [hml]; rfl) (Steps.refl _) (argsL := [(.int p1)]) (rest := []) (lenOf pd__28I_29Z rfl) rfl (by show 2 * 0 + _ ≤ _; exact Nat.le_of_eq rfl) (hb hby at_12) (fun _ _ => ⟨rfl, e5, (by decide : 0 + 0 ≤ _), (by decide : 0 + 0 ≤ _)⟩)
  dsimp only [Pt.U, Pt.locs, Pt.cells, Pt.slots] at X6 l6 y6 z6 st6 hQ6
  subst l6 y6 z6
  obtain ⟨rfl, Nq6, e6⟩ := hQ6
  have N6 := Fr.app N4 Nq6
  obtain ⟨T7, X7, e7, st7⟩ := getS2 X6 hx hZ hown (host := "") (Or.inl (hw _ (List.mem_of_getElem? (i := 19) rfl))) Via.refl e6 S_AT_MOST (g := (mkF m 16 #[.val (.int p1), .val (.int (own_holds (0 : Int32) p1)), .val (.int (own_holds (1 : Int32) p1)), .unset, .unset, .unset, .unset, .unset, .unset] [])) rfl (hb hby at_16)
  obtain ⟨cq8, kq8, q8a, q8b, q8c⟩ := isOf hZ e7 E_AT_MOST
  obtain ⟨_, _, ⟨T8, L8, c8_, n8_⟩, -, X8, ⟨Lc8, hQ8, l8, y8, z8⟩, st8⟩ := X7.virtualBack hx (y := (⟨"com/example/furlong/furlong/model/Condition$Operator", "holds", "(I)Z"⟩ : MethodName)) (z := (⟨"com/example/furlong/furlong/model/Condition$Operator", "holds", "(I)Z"⟩ : MethodName)) hown (mvT hZ (hw _ (List.mem_of_getElem? (i := 3) rfl))) (mvT hZ (hw _ (List.mem_of_getElem? (i := 4) rfl))) (notFace_of_selects (args := #[]) (mvT hZ (hw _ (List.mem_of_getElem? (i := 6) rfl)))) (mvT hZ (hw _ (List.mem_of_getElem? (i := 6) rfl))) (mvT hZ (hw _ (List.mem_of_getElem? (i := 5) rfl))) (by decide) (backOf (W := 0) (rm_1 l Z a0 hw [] aM p1 (2 : Int32) h0 n0 (Nat.le_trans Z0 (Keep.refl h0 []).1) F_AT_MOST E_AT_MOST) hZ (hw _ (List.mem_of_getElem? (i := 7) rfl)) (hw _ (List.mem_of_getElem? (i := 1) rfl)) (by decide) (by decide)) q8a q8c (g := (mkF m 20 #[.val (.int p1), .val (.int (own_holds (0 : Int32) p1)), .val (.int (own_holds (1 : Int32) p1)), .unset, .unset, .unset, .unset, .unset, .unset] [(.int p1), (.ref aM)])) rfl (by rw [hml]; rfl) (Steps.refl _) (argsL := [(.int p1)]) (rest := []) (lenOf pd__28I_29Z rfl) rfl (by show 2 * 0 + _ ≤ _; exact Nat.le_of_eq rfl) (hb hby at_20) (fun _ _ => ⟨rfl, e7, (by decide : 0 + 0 ≤ _), (by decide : 0 + 0 ≤ _)⟩)
  dsimp only [Pt.U, Pt.locs, Pt.cells, Pt.slots] at X8 l8 y8 z8 st8 hQ8
  subst l8 y8 z8
  obtain ⟨rfl, Nq8, e8⟩ := hQ8
  have N8 := Fr.app N6 Nq8
  obtain ⟨T9, X9, e9, st9⟩ := getS2 X8 hx hZ hown (host := "") (Or.inl (hw _ (List.mem_of_getElem? (i := 21) rfl))) Via.refl e8 S_AT_LEAST (g := (mkF m 24 #[.val (.int p1), .val (.int (own_holds (0 : Int32) p1)), .val (.int (own_holds (1 : Int32) p1)), .val (.int (own_holds (2 : Int32) p1)), .unset, .unset, .unset, .unset, .unset] [])) rfl (hb hby at_24)
  obtain ⟨cq10, kq10, q10a, q10b, q10c⟩ := isOf hZ e9 E_AT_LEAST
  obtain ⟨_, _, ⟨T10, L10, c10_, n10_⟩, -, X10, ⟨Lc10, hQ10, l10, y10, z10⟩, st10⟩ := X9.virtualBack hx (y := (⟨"com/example/furlong/furlong/model/Condition$Operator", "holds", "(I)Z"⟩ : MethodName)) (z := (⟨"com/example/furlong/furlong/model/Condition$Operator", "holds", "(I)Z"⟩ : MethodName)) hown (mvT hZ (hw _ (List.mem_of_getElem? (i := 3) rfl))) (mvT hZ (hw _ (List.mem_of_getElem? (i := 4) rfl))) (notFace_of_selects (args := #[]) (mvT hZ (hw _ (List.mem_of_getElem? (i := 6) rfl)))) (mvT hZ (hw _ (List.mem_of_getElem? (i := 6) rfl))) (mvT hZ (hw _ (List.mem_of_getElem? (i := 5) rfl))) (by decide) (backOf (W := 0) (rm_1 l Z a0 hw [] aL p1 (3 : Int32) h0 n0 (Nat.le_trans Z0 (Keep.refl h0 []).1) F_AT_LEAST E_AT_LEAST) hZ (hw _ (List.mem_of_getElem? (i := 7) rfl)) (hw _ (List.mem_of_getElem? (i := 1) rfl)) (by decide) (by decide)) q10a q10c (g := (mkF m 28 #[.val (.int p1), .val (.int (own_holds (0 : Int32) p1)), .val (.int (own_holds (1 : Int32) p1)), .val (.int (own_holds (2 : Int32) p1)), .unset, .unset, .unset, .unset, .unset] [(.int p1), (.ref aL)])) rfl (by rw [hml]; rfl) (Steps.refl _) (argsL := [(.int p1)]) (rest := []) (lenOf pd__28I_29Z rfl) rfl (by show 2 * 0 + _ ≤ _; exact Nat.le_of_eq rfl) (hb hby at_28) (fun _ _ => ⟨rfl, e9, (by decide : 0 + 0 ≤ _), (by decide : 0 + 0 ≤ _)⟩)
  dsimp only [Pt.U, Pt.locs, Pt.cells, Pt.slots] at X10 l10 y10 z10 st10 hQ10
  subst l10 y10 z10
  obtain ⟨rfl, Nq10, e10⟩ := hQ10
  have N10 := Fr.app N8 Nq10
  obtain ⟨T11, X11, e11, st11⟩ := getS2 X10 hx hZ hown (host := "") (Or.inl (hw _ (List.mem_of_getElem? (i := 23) rfl))) Via.refl e10 S_BELOW (g := (mkF m 33 #[.val (.int p1), .val (.int (own_holds (0 : Int32) p1)), .val (.int (own_holds (1 : Int32) p1)), .val (.int (own_holds (2 : Int32) p1)), .val (.int (own_holds (3 : Int32) p1)), .unset, .unset, .unset, .unset] [])) rfl (hb hby at_33)
  obtain ⟨cq12, kq12, q12a, q12b, q12c⟩ := isOf hZ e11 E_BELOW
  obtain ⟨_, _, ⟨T12, L12, c12_, n12_⟩, -, X12, ⟨Lc12, hQ12, l12, y12, z12⟩, st12⟩ := X11.virtualBack hx (y := (⟨"com/example/furlong/furlong/model/Condition$Operator", "holds", "(I)Z"⟩ : MethodName)) (z := (⟨"com/example/furlong/furlong/model/Condition$Operator", "holds", "(I)Z"⟩ : MethodName)) hown (mvT hZ (hw _ (List.mem_of_getElem? (i := 3) rfl))) (mvT hZ (hw _ (List.mem_of_getElem? (i := 4) rfl))) (notFace_of_selects (args := #[]) (mvT hZ (hw _ (List.mem_of_getElem? (i := 6) rfl)))) (mvT hZ (hw _ (List.mem_of_getElem? (i := 6) rfl))) (mvT hZ (hw _ (List.mem_of_getElem? (i := 5) rfl))) (by decide) (backOf (W := 0) (rm_1 l Z a0 hw [] aB p1 (4 : Int32) h0 n0 (Nat.le_trans Z0 (Keep.refl h0 []).1) F_BELOW E_BELOW) hZ (hw _ (List.mem_of_getElem? (i := 7) rfl)) (hw _ (List.mem_of_getElem? (i := 1) rfl)) (by decide) (by decide)) q12a q12c (g := (mkF m 37 #[.val (.int p1), .val (.int (own_holds (0 : Int32) p1)), .val (.int (own_holds (1 : Int32) p1)), .val (.int (own_holds (2 : Int32) p1)), .val (.int (own_holds (3 : Int32) p1)), .unset, .unset, .unset, .unset] [(.int p1), (.ref aB)])) rfl (by rw [hml]; rfl) (Steps.refl _) (argsL := [(.int p1)]) (rest := []) (lenOf pd__28I_29Z rfl) rfl (by show 2 * 0 + _ ≤ _; exact Nat.le_of_eq rfl) (hb hby at_37) (fun _ _ => ⟨rfl, e11, (by decide : 0 + 0 ≤ _), (by decide : 0 + 0 ≤ _)⟩)
  dsimp only [Pt.U, Pt.locs, Pt.cells, Pt.slots] at X12 l12 y12 z12 st12 hQ12
  subst l12 y12 z12
  obtain ⟨rfl, Nq12, e12⟩ := hQ12
  have N12 := Fr.app N10 Nq12
  obtain ⟨T13, X13, e13, st13⟩ := getS2 X12 hx hZ hown (host := "") (Or.inl (hw _ (List.mem_of_getElem? (i := 25) rfl))) Via.refl e12 S_ABOVE (g := (mkF m 42 #[.val (.int p1), .val (.int (own_holds (0 : Int32) p1)), .val (.int (own_holds (1 : Int32) p1)), .val (.int (own_holds (2 : Int32) p1)), .val (.int (own_holds (3 : Int32) p1)), .val (.int (own_holds (4 : Int32) p1)), .unset, .unset, .unset] [])) rfl (hb hby at_42)
  obtain ⟨cq14, kq14, q14a, q14b, q14c⟩ := isOf hZ e13 E_ABOVE
  obtain ⟨_, _, ⟨T14, L14, c14_, n14_⟩, -, X14, ⟨Lc14, hQ14, l14, y14, z14⟩, st14⟩ := X13.virtualBack hx (y := (⟨"com/example/furlong/furlong/model/Condition$Operator", "holds", "(I)Z"⟩ : MethodName)) (z := (⟨"com/example/furlong/furlong/model/Condition$Operator", "holds", "(I)Z"⟩ : MethodName)) hown (mvT hZ (hw _ (List.mem_of_getElem? (i := 3) rfl))) (mvT hZ (hw _ (List.mem_of_getElem? (i := 4) rfl))) (notFace_of_selects (args := #[]) (mvT hZ (hw _ (List.mem_of_getElem? (i := 6) rfl)))) (mvT hZ (hw _ (List.mem_of_getElem? (i := 6) rfl))) (mvT hZ (hw _ (List.mem_of_getElem? (i := 5) rfl))) (by decide) (backOf (W := 0) (rm_1 l Z a0 hw [] aA p1 (5 : Int32) h0 n0 (Nat.le_trans Z0 (Keep.refl h0 []).1) F_ABOVE E_ABOVE) hZ (hw _ (List.mem_of_getElem? (i := 7) rfl)) (hw _ (List.mem_of_getElem? (i := 1) rfl)) (by decide) (by decide)) q14a q14c (g := (mkF m 46 #[.val (.int p1), .val (.int (own_holds (0 : Int32) p1)), .val (.int (own_holds (1 : Int32) p1)), .val (.int (own_holds (2 : Int32) p1)), .val (.int (own_holds (3 : Int32) p1)), .val (.int (own_holds (4 : Int32) p1)), .unset, .unset, .unset] [(.int p1), (.ref aA)])) rfl (by rw [hml]; rfl) (Steps.refl _) (argsL := [(.int p1)]) (rest := []) (lenOf pd__28I_29Z rfl) rfl (by show 2 * 0 + _ ≤ _; exact Nat.le_of_eq rfl) (hb hby at_46) (fun _ _ => ⟨rfl, e13, (by decide : 0 + 0 ≤ _), (by decide : 0 + 0 ≤ _)⟩)
  dsimp only [Pt.U, Pt.locs, Pt.cells, Pt.slots] at X14 l14 y14 z14 st14 hQ14
  subst l14 y14 z14
  obtain ⟨rfl, Nq14, e14⟩ := hQ14
  have N14 := Fr.app N12 Nq14
  have md15 : ∀ t, Steps p.tables e below (T14.setTop (mkF m 60 #[.val (.int p1), .val (.int (own_holds (0 : Int32) p1)), .val (.int (own_holds (1 : Int32) p1)), .val (.int (own_holds (2 : Int32) p1)), .val (.int (own_holds (3 : Int32) p1)), .val (.int (own_holds (4 : Int32) p1)), .val (.int (own_holds (5 : Int32) p1)), .unset, .unset] [(.int (if p1 = (0 : Int32) then (1 : Int32) else (0 : Int32)))])) t → Steps p.tables e below (T14.setTop (mkF m 52 #[.val (.int p1), .val (.int (own_holds (0 : Int32) p1)), .val (.int (own_holds (1 : Int32) p1)), .val (.int (own_holds (2 : Int32) p1)), .val (.int (own_holds (3 : Int32) p1)), .val (.int (own_holds (4 : Int32) p1)), .val (.int (own_holds (5 : Int32) p1)), .unset, .unset] [(.int p1)])) t := by
    intro t kt
    by_cases hd52 : p1 = (0 : Int32)
    · rw [show (if p1 = (0 : Int32) then (1 : Int32) else (0 : Int32)) = (1 : Int32) from if_pos hd52] at kt
      show Steps p.tables e below (T14.setTop (mkF m 52 #[.val (.int p1), .val (.int (own_holds (0 : Int32) p1)), .val (.int (own_holds (1 : Int32) p1)), .val (.int (own_holds (2 : Int32) p1)), .val (.int (own_holds (3 : Int32) p1)), .val (.int (own_holds (4 : Int32) p1)), .val (.int (own_holds (5 : Int32) p1)), .unset, .unset] [(.int p1)])) _
      refine XS.ifNo X14.here hx rfl (hb hby at_52) rfl ((if0 _ _).trans (teq hd52).2) ?_
      show Steps p.tables e below (T14.setTop (mkF m 55 #[.val (.int p1), .val (.int (own_holds (0 : Int32) p1)), .val (.int (own_holds (1 : Int32) p1)), .val (.int (own_holds (2 : Int32) p1)), .val (.int (own_holds (3 : Int32) p1)), .val (.int (own_holds (4 : Int32) p1)), .val (.int (own_holds (5 : Int32) p1)), .unset, .unset] [])) _
      refine XS.iconst X14.here hx rfl (hb hby at_55) ?_
      show Steps p.tables e below (T14.setTop (mkF m 56 #[.val (.int p1), .val (.int (own_holds (0 : Int32) p1)), .val (.int (own_holds (1 : Int32) p1)), .val (.int (own_holds (2 : Int32) p1)), .val (.int (own_holds (3 : Int32) p1)), .val (.int (own_holds (4 : Int32) p1)), .val (.int (own_holds (5 : Int32) p1)), .unset, .unset] [(.int (1 : Int32))])) _
      refine XS.goto X14.here hx rfl (pc0 := 56) (pc' := 60) rfl (hb hby at_56) (by decide) (by decide) ?_
      exact kt
    · rw [show (if p1 = (0 : Int32) then (1 : Int32) else (0 : Int32)) = (0 : Int32) from if_neg hd52] at kt
      show Steps p.tables e below (T14.setTop (mkF m 52 #[.val (.int p1), .val (.int (own_holds (0 : Int32) p1)), .val (.int (own_holds (1 : Int32) p1)), .val (.int (own_holds (2 : Int32) p1)), .val (.int (own_holds (3 : Int32) p1)), .val (.int (own_holds (4 : Int32) p1)), .val (.int (own_holds (5 : Int32) p1)), .unset, .unset] [(.int p1)])) _
      refine XS.ifYes X14.here hx rfl (pc0 := 52) (pc' := 59) rfl (hb hby at_52) rfl ((if0 _ _).trans (feq hd52).2) (by decide) (by decide) ?_
      show Steps p.tables e below (T14.setTop (mkF m 59 #[.val (.int p1), .val (.int (own_holds (0 : Int32) p1)), .val (.int (own_holds (1 : Int32) p1)), .val (.int (own_holds (2 : Int32) p1)), .val (.int (own_holds (3 : Int32) p1)), .val (.int (own_holds (4 : Int32) p1)), .val (.int (own_holds (5 : Int32) p1)), .unset, .unset] [])) _
      refine XS.iconst X14.here hx rfl (hb hby at_59) ?_
      exact kt
  have md16 : ∀ t, Steps p.tables e below (T14.setTop (mkF m 71 #[.val (.int p1), .val (.int (own_holds (0 : Int32) p1)), .val (.int (own_holds (1 : Int32) p1)), .val (.int (own_holds (2 : Int32) p1)), .val (.int (own_holds (3 : Int32) p1)), .val (.int (own_holds (4 : Int32) p1)), .val (.int (own_holds (5 : Int32) p1)), .val (.int (if p1 = (0 : Int32) then (1 : Int32) else (0 : Int32))), .unset] [(.int (if p1 < (0 : Int32) then (1 : Int32) else (0 : Int32)))])) t → Steps p.tables e below (T14.setTop (mkF m 63 #[.val (.int p1), .val (.int (own_holds (0 : Int32) p1)), .val (.int (own_holds (1 : Int32) p1)), .val (.int (own_holds (2 : Int32) p1)), .val (.int (own_holds (3 : Int32) p1)), .val (.int (own_holds (4 : Int32) p1)), .val (.int (own_holds (5 : Int32) p1)), .val (.int (if p1 = (0 : Int32) then (1 : Int32) else (0 : Int32))), .unset] [(.int p1)])) t := by
    intro t kt
    by_cases hd63 : p1 < (0 : Int32)
    · rw [show (if p1 < (0 : Int32) then (1 : Int32) else (0 : Int32)) = (1 : Int32) from if_pos hd63] at kt
      show Steps p.tables e below (T14.setTop (mkF m 63 #[.val (.int p1), .val (.int (own_holds (0 : Int32) p1)), .val (.int (own_holds (1 : Int32) p1)), .val (.int (own_holds (2 : Int32) p1)), .val (.int (own_holds (3 : Int32) p1)), .val (.int (own_holds (4 : Int32) p1)), .val (.int (own_holds (5 : Int32) p1)), .val (.int (if p1 = (0 : Int32) then (1 : Int32) else (0 : Int32))), .unset] [(.int p1)])) _
      refine XS.ifNo X14.here hx rfl (hb hby at_63) rfl ((if0 _ _).trans (tlt hd63).2.1) ?_
      show Steps p.tables e below (T14.setTop (mkF m 66 #[.val (.int p1), .val (.int (own_holds (0 : Int32) p1)), .val (.int (own_holds (1 : Int32) p1)), .val (.int (own_holds (2 : Int32) p1)), .val (.int (own_holds (3 : Int32) p1)), .val (.int (own_holds (4 : Int32) p1)), .val (.int (own_holds (5 : Int32) p1)), .val (.int (if p1 = (0 : Int32) then (1 : Int32) else (0 : Int32))), .unset] [])) _
      refine XS.iconst X14.here hx rfl (hb hby at_66) ?_
      show Steps p.tables e below (T14.setTop (mkF m 67 #[.val (.int p1), .val (.int (own_holds (0 : Int32) p1)), .val (.int (own_holds (1 : Int32) p1)), .val (.int (own_holds (2 : Int32) p1)), .val (.int (own_holds (3 : Int32) p1)), .val (.int (own_holds (4 : Int32) p1)), .val (.int (own_holds (5 : Int32) p1)), .val (.int (if p1 = (0 : Int32) then (1 : Int32) else (0 : Int32))), .unset] [(.int (1 : Int32))])) _
      refine XS.goto X14.here hx rfl (pc0 := 67) (pc' := 71) rfl (hb hby at_67) (by decide) (by decide) ?_
      exact kt
    · rw [show (if p1 < (0 : Int32) then (1 : Int32) else (0 : Int32)) = (0 : Int32) from if_neg hd63] at kt
      show Steps p.tables e below (T14.setTop (mkF m 63 #[.val (.int p1), .val (.int (own_holds (0 : Int32) p1)), .val (.int (own_holds (1 : Int32) p1)), .val (.int (own_holds (2 : Int32) p1)), .val (.int (own_holds (3 : Int32) p1)), .val (.int (own_holds (4 : Int32) p1)), .val (.int (own_holds (5 : Int32) p1)), .val (.int (if p1 = (0 : Int32) then (1 : Int32) else (0 : Int32))), .unset] [(.int p1)])) _
      refine XS.ifYes X14.here hx rfl (pc0 := 63) (pc' := 70) rfl (hb hby at_63) rfl ((if0 _ _).trans (flt hd63).2.1) (by decide) (by decide) ?_
      show Steps p.tables e below (T14.setTop (mkF m 70 #[.val (.int p1), .val (.int (own_holds (0 : Int32) p1)), .val (.int (own_holds (1 : Int32) p1)), .val (.int (own_holds (2 : Int32) p1)), .val (.int (own_holds (3 : Int32) p1)), .val (.int (own_holds (4 : Int32) p1)), .val (.int (own_holds (5 : Int32) p1)), .val (.int (if p1 = (0 : Int32) then (1 : Int32) else (0 : Int32))), .unset] [])) _
      refine XS.iconst X14.here hx rfl (hb hby at_70) ?_
      exact kt
  have hc76 : (own_holds (0 : Int32) p1) = (if p1 = (0 : Int32) then (1 : Int32) else (0 : Int32)) := (by rcases own_tri p1 with ⟨u1, u2, u3⟩ | ⟨u1, u2, u3⟩ | ⟨u1, u2, u3⟩ <;> simp [own_holds, u1, u2, u3])
  have hc83 : (own_holds (4 : Int32) p1) = (if p1 < (0 : Int32) then (1 : Int32) else (0 : Int32)) := (by rcases own_tri p1 with ⟨u1, u2, u3⟩ | ⟨u1, u2, u3⟩ | ⟨u1, u2, u3⟩ <;> simp [own_holds, u1, u2, u3])
  have md17 : ∀ t, Steps p.tables e below (T14.setTop (mkF m 96 #[.val (.int p1), .val (.int (own_holds (0 : Int32) p1)), .val (.int (own_holds (1 : Int32) p1)), .val (.int (own_holds (2 : Int32) p1)), .val (.int (own_holds (3 : Int32) p1)), .val (.int (own_holds (4 : Int32) p1)), .val (.int (own_holds (5 : Int32) p1)), .val (.int (if p1 = (0 : Int32) then (1 : Int32) else (0 : Int32))), .val (.int (if p1 < (0 : Int32) then (1 : Int32) else (0 : Int32)))] [(.int (if (own_holds (0 : Int32) p1) = (0 : Int32) then (1 : Int32) else (0 : Int32))), (.int (own_holds (1 : Int32) p1))])) t → Steps p.tables e below (T14.setTop (mkF m 88 #[.val (.int p1), .val (.int (own_holds (0 : Int32) p1)), .val (.int (own_holds (1 : Int32) p1)), .val (.int (own_holds (2 : Int32) p1)), .val (.int (own_holds (3 : Int32) p1)), .val (.int (own_holds (4 : Int32) p1)), .val (.int (own_holds (5 : Int32) p1)), .val (.int (if p1 = (0 : Int32) then (1 : Int32) else (0 : Int32))), .val (.int (if p1 < (0 : Int32) then (1 : Int32) else (0 : Int32)))] [(.int (own_holds (0 : Int32) p1)), (.int (own_holds (1 : Int32) p1))])) t := by
    intro t kt
    by_cases hd88 : (own_holds (0 : Int32) p1) = (0 : Int32)
    · rw [show (if (own_holds (0 : Int32) p1) = (0 : Int32) then (1 : Int32) else (0 : Int32)) = (1 : Int32) from if_pos hd88] at kt
      show Steps p.tables e below (T14.setTop (mkF m 88 #[.val (.int p1), .val (.int (own_holds (0 : Int32) p1)), .val (.int (own_holds (1 : Int32) p1)), .val (.int (own_holds (2 : Int32) p1)), .val (.int (own_holds (3 : Int32) p1)), .val (.int (own_holds (4 : Int32) p1)), .val (.int (own_holds (5 : Int32) p1)), .val (.int (if p1 = (0 : Int32) then (1 : Int32) else (0 : Int32))), .val (.int (if p1 < (0 : Int32) then (1 : Int32) else (0 : Int32)))] [(.int (own_holds (0 : Int32) p1)), (.int (own_holds (1 : Int32) p1))])) _
      refine XS.ifNo X14.here hx rfl (hb hby at_88) rfl ((if0 _ _).trans (teq hd88).2) ?_
      show Steps p.tables e below (T14.setTop (mkF m 91 #[.val (.int p1), .val (.int (own_holds (0 : Int32) p1)), .val (.int (own_holds (1 : Int32) p1)), .val (.int (own_holds (2 : Int32) p1)), .val (.int (own_holds (3 : Int32) p1)), .val (.int (own_holds (4 : Int32) p1)), .val (.int (own_holds (5 : Int32) p1)), .val (.int (if p1 = (0 : Int32) then (1 : Int32) else (0 : Int32))), .val (.int (if p1 < (0 : Int32) then (1 : Int32) else (0 : Int32)))] [(.int (own_holds (1 : Int32) p1))])) _
      refine XS.iconst X14.here hx rfl (hb hby at_91) ?_
      show Steps p.tables e below (T14.setTop (mkF m 92 #[.val (.int p1), .val (.int (own_holds (0 : Int32) p1)), .val (.int (own_holds (1 : Int32) p1)), .val (.int (own_holds (2 : Int32) p1)), .val (.int (own_holds (3 : Int32) p1)), .val (.int (own_holds (4 : Int32) p1)), .val (.int (own_holds (5 : Int32) p1)), .val (.int (if p1 = (0 : Int32) then (1 : Int32) else (0 : Int32))), .val (.int (if p1 < (0 : Int32) then (1 : Int32) else (0 : Int32)))] [(.int (1 : Int32)), (.int (own_holds (1 : Int32) p1))])) _
      refine XS.goto X14.here hx rfl (pc0 := 92) (pc' := 96) rfl (hb hby at_92) (by decide) (by decide) ?_
      exact kt
    · rw [show (if (own_holds (0 : Int32) p1) = (0 : Int32) then (1 : Int32) else (0 : Int32)) = (0 : Int32) from if_neg hd88] at kt
      show Steps p.tables e below (T14.setTop (mkF m 88 #[.val (.int p1), .val (.int (own_holds (0 : Int32) p1)), .val (.int (own_holds (1 : Int32) p1)), .val (.int (own_holds (2 : Int32) p1)), .val (.int (own_holds (3 : Int32) p1)), .val (.int (own_holds (4 : Int32) p1)), .val (.int (own_holds (5 : Int32) p1)), .val (.int (if p1 = (0 : Int32) then (1 : Int32) else (0 : Int32))), .val (.int (if p1 < (0 : Int32) then (1 : Int32) else (0 : Int32)))] [(.int (own_holds (0 : Int32) p1)), (.int (own_holds (1 : Int32) p1))])) _
      refine XS.ifYes X14.here hx rfl (pc0 := 88) (pc' := 95) rfl (hb hby at_88) rfl ((if0 _ _).trans (feq hd88).2) (by decide) (by decide) ?_
      show Steps p.tables e below (T14.setTop (mkF m 95 #[.val (.int p1), .val (.int (own_holds (0 : Int32) p1)), .val (.int (own_holds (1 : Int32) p1)), .val (.int (own_holds (2 : Int32) p1)), .val (.int (own_holds (3 : Int32) p1)), .val (.int (own_holds (4 : Int32) p1)), .val (.int (own_holds (5 : Int32) p1)), .val (.int (if p1 = (0 : Int32) then (1 : Int32) else (0 : Int32))), .val (.int (if p1 < (0 : Int32) then (1 : Int32) else (0 : Int32)))] [(.int (own_holds (1 : Int32) p1))])) _
      refine XS.iconst X14.here hx rfl (hb hby at_95) ?_
      exact kt
  have hc96 : (own_holds (1 : Int32) p1) = (if (own_holds (0 : Int32) p1) = (0 : Int32) then (1 : Int32) else (0 : Int32)) := (by rcases own_tri p1 with ⟨u1, u2, u3⟩ | ⟨u1, u2, u3⟩ | ⟨u1, u2, u3⟩ <;> simp [own_holds, u1, u2, u3])
  have md18 : ∀ t, Steps p.tables e below (T14.setTop (mkF m 115 #[.val (.int p1), .val (.int (own_holds (0 : Int32) p1)), .val (.int (own_holds (1 : Int32) p1)), .val (.int (own_holds (2 : Int32) p1)), .val (.int (own_holds (3 : Int32) p1)), .val (.int (own_holds (4 : Int32) p1)), .val (.int (own_holds (5 : Int32) p1)), .val (.int (if p1 = (0 : Int32) then (1 : Int32) else (0 : Int32))), .val (.int (if p1 < (0 : Int32) then (1 : Int32) else (0 : Int32)))] [(.int (if (own_holds (4 : Int32) p1) = (0 : Int32) then (if (own_holds (0 : Int32) p1) = (0 : Int32) then (1 : Int32) else (0 : Int32)) else (0 : Int32))), (.int (own_holds (5 : Int32) p1))])) t → Steps p.tables e below (T14.setTop (mkF m 103 #[.val (.int p1), .val (.int (own_holds (0 : Int32) p1)), .val (.int (own_holds (1 : Int32) p1)), .val (.int (own_holds (2 : Int32) p1)), .val (.int (own_holds (3 : Int32) p1)), .val (.int (own_holds (4 : Int32) p1)), .val (.int (own_holds (5 : Int32) p1)), .val (.int (if p1 = (0 : Int32) then (1 : Int32) else (0 : Int32))), .val (.int (if p1 < (0 : Int32) then (1 : Int32) else (0 : Int32)))] [(.int (own_holds (4 : Int32) p1)), (.int (own_holds (5 : Int32) p1))])) t := by
    intro t kt
    by_cases hd103 : (own_holds (4 : Int32) p1) = (0 : Int32)
    · rw [show (if (own_holds (4 : Int32) p1) = (0 : Int32) then (if (own_holds (0 : Int32) p1) = (0 : Int32) then (1 : Int32) else (0 : Int32)) else (0 : Int32)) = (if (own_holds (0 : Int32) p1) = (0 : Int32) then (1 : Int32) else (0 : Int32)) from if_pos hd103] at kt
      by_cases hd107 : (own_holds (0 : Int32) p1) = (0 : Int32)
      · rw [show (if (own_holds (0 : Int32) p1) = (0 : Int32) then (1 : Int32) else (0 : Int32)) = (1 : Int32) from if_pos hd107] at kt
        show Steps p.tables e below (T14.setTop (mkF m 103 #[.val (.int p1), .val (.int (own_holds (0 : Int32) p1)), .val (.int (own_holds (1 : Int32) p1)), .val (.int (own_holds (2 : Int32) p1)), .val (.int (own_holds (3 : Int32) p1)), .val (.int (own_holds (4 : Int32) p1)), .val (.int (own_holds (5 : Int32) p1)), .val (.int (if p1 = (0 : Int32) then (1 : Int32) else (0 : Int32))), .val (.int (if p1 < (0 : Int32) then (1 : Int32) else (0 : Int32)))] [(.int (own_holds (4 : Int32) p1)), (.int (own_holds (5 : Int32) p1))])) _
        refine XS.ifNo X14.here hx rfl (hb hby at_103) rfl ((if0 _ _).trans (teq hd103).2) ?_
        show Steps p.tables e below (T14.setTop (mkF m 106 #[.val (.int p1), .val (.int (own_holds (0 : Int32) p1)), .val (.int (own_holds (1 : Int32) p1)), .val (.int (own_holds (2 : Int32) p1)), .val (.int (own_holds (3 : Int32) p1)), .val (.int (own_holds (4 : Int32) p1)), .val (.int (own_holds (5 : Int32) p1)), .val (.int (if p1 = (0 : Int32) then (1 : Int32) else (0 : Int32))), .val (.int (if p1 < (0 : Int32) then (1 : Int32) else (0 : Int32)))] [(.int (own_holds (5 : Int32) p1))])) _
        refine XS.iloadN X14.here hx rfl (hb hby at_106) rfl ?_
        show Steps p.tables e below (T14.setTop (mkF m 107 #[.val (.int p1), .val (.int (own_holds (0 : Int32) p1)), .val (.int (own_holds (1 : Int32) p1)), .val (.int (own_holds (2 : Int32) p1)), .val (.int (own_holds (3 : Int32) p1)), .val (.int (own_holds (4 : Int32) p1)), .val (.int (own_holds (5 : Int32) p1)), .val (.int (if p1 = (0 : Int32) then (1 : Int32) else (0 : Int32))), .val (.int (if p1 < (0 : Int32) then (1 : Int32) else (0 : Int32)))] [(.int (own_holds (0 : Int32) p1)), (.int (own_holds (5 : Int32) p1))])) _
        refine XS.ifNo X14.here hx rfl (hb hby at_107) rfl ((if0 _ _).trans (teq hd107).2) ?_
        show Steps p.tables e below (T14.setTop (mkF m 110 #[.val (.int p1), .val (.int (own_holds (0 : Int32) p1)), .val (.int (own_holds (1 : Int32) p1)), .val (.int (own_holds (2 : Int32) p1)), .val (.int (own_holds (3 : Int32) p1)), .val (.int (own_holds (4 : Int32) p1)), .val (.int (own_holds (5 : Int32) p1)), .val (.int (if p1 = (0 : Int32) then (1 : Int32) else (0 : Int32))), .val (.int (if p1 < (0 : Int32) then (1 : Int32) else (0 : Int32)))] [(.int (own_holds (5 : Int32) p1))])) _
        refine XS.iconst X14.here hx rfl (hb hby at_110) ?_
        show Steps p.tables e below (T14.setTop (mkF m 111 #[.val (.int p1), .val (.int (own_holds (0 : Int32) p1)), .val (.int (own_holds (1 : Int32) p1)), .val (.int (own_holds (2 : Int32) p1)), .val (.int (own_holds (3 : Int32) p1)), .val (.int (own_holds (4 : Int32) p1)), .val (.int (own_holds (5 : Int32) p1)), .val (.int (if p1 = (0 : Int32) then (1 : Int32) else (0 : Int32))), .val (.int (if p1 < (0 : Int32) then (1 : Int32) else (0 : Int32)))] [(.int (1 : Int32)), (.int (own_holds (5 : Int32) p1))])) _
        refine XS.goto X14.here hx rfl (pc0 := 111) (pc' := 115) rfl (hb hby at_111) (by decide) (by decide) ?_
        exact kt
      · rw [show (if (own_holds (0 : Int32) p1) = (0 : Int32) then (1 : Int32) else (0 : Int32)) = (0 : Int32) from if_neg hd107] at kt
        show Steps p.tables e below (T14.setTop (mkF m 103 #[.val (.int p1), .val (.int (own_holds (0 : Int32) p1)), .val (.int (own_holds (1 : Int32) p1)), .val (.int (own_holds (2 : Int32) p1)), .val (.int (own_holds (3 : Int32) p1)), .val (.int (own_holds (4 : Int32) p1)), .val (.int (own_holds (5 : Int32) p1)), .val (.int (if p1 = (0 : Int32) then (1 : Int32) else (0 : Int32))), .val (.int (if p1 < (0 : Int32) then (1 : Int32) else (0 : Int32)))] [(.int (own_holds (4 : Int32) p1)), (.int (own_holds (5 : Int32) p1))])) _
        refine XS.ifNo X14.here hx rfl (hb hby at_103) rfl ((if0 _ _).trans (teq hd103).2) ?_
        show Steps p.tables e below (T14.setTop (mkF m 106 #[.val (.int p1), .val (.int (own_holds (0 : Int32) p1)), .val (.int (own_holds (1 : Int32) p1)), .val (.int (own_holds (2 : Int32) p1)), .val (.int (own_holds (3 : Int32) p1)), .val (.int (own_holds (4 : Int32) p1)), .val (.int (own_holds (5 : Int32) p1)), .val (.int (if p1 = (0 : Int32) then (1 : Int32) else (0 : Int32))), .val (.int (if p1 < (0 : Int32) then (1 : Int32) else (0 : Int32)))] [(.int (own_holds (5 : Int32) p1))])) _
        refine XS.iloadN X14.here hx rfl (hb hby at_106) rfl ?_
        show Steps p.tables e below (T14.setTop (mkF m 107 #[.val (.int p1), .val (.int (own_holds (0 : Int32) p1)), .val (.int (own_holds (1 : Int32) p1)), .val (.int (own_holds (2 : Int32) p1)), .val (.int (own_holds (3 : Int32) p1)), .val (.int (own_holds (4 : Int32) p1)), .val (.int (own_holds (5 : Int32) p1)), .val (.int (if p1 = (0 : Int32) then (1 : Int32) else (0 : Int32))), .val (.int (if p1 < (0 : Int32) then (1 : Int32) else (0 : Int32)))] [(.int (own_holds (0 : Int32) p1)), (.int (own_holds (5 : Int32) p1))])) _
        refine XS.ifYes X14.here hx rfl (pc0 := 107) (pc' := 114) rfl (hb hby at_107) rfl ((if0 _ _).trans (feq hd107).2) (by decide) (by decide) ?_
        show Steps p.tables e below (T14.setTop (mkF m 114 #[.val (.int p1), .val (.int (own_holds (0 : Int32) p1)), .val (.int (own_holds (1 : Int32) p1)), .val (.int (own_holds (2 : Int32) p1)), .val (.int (own_holds (3 : Int32) p1)), .val (.int (own_holds (4 : Int32) p1)), .val (.int (own_holds (5 : Int32) p1)), .val (.int (if p1 = (0 : Int32) then (1 : Int32) else (0 : Int32))), .val (.int (if p1 < (0 : Int32) then (1 : Int32) else (0 : Int32)))] [(.int (own_holds (5 : Int32) p1))])) _
        refine XS.iconst X14.here hx rfl (hb hby at_114) ?_
        exact kt
    · rw [show (if (own_holds (4 : Int32) p1) = (0 : Int32) then (if (own_holds (0 : Int32) p1) = (0 : Int32) then (1 : Int32) else (0 : Int32)) else (0 : Int32)) = (0 : Int32) from if_neg hd103] at kt
      show Steps p.tables e below (T14.setTop (mkF m 103 #[.val (.int p1), .val (.int (own_holds (0 : Int32) p1)), .val (.int (own_holds (1 : Int32) p1)), .val (.int (own_holds (2 : Int32) p1)), .val (.int (own_holds (3 : Int32) p1)), .val (.int (own_holds (4 : Int32) p1)), .val (.int (own_holds (5 : Int32) p1)), .val (.int (if p1 = (0 : Int32) then (1 : Int32) else (0 : Int32))), .val (.int (if p1 < (0 : Int32) then (1 : Int32) else (0 : Int32)))] [(.int (own_holds (4 : Int32) p1)), (.int (own_holds (5 : Int32) p1))])) _
      refine XS.ifYes X14.here hx rfl (pc0 := 103) (pc' := 114) rfl (hb hby at_103) rfl ((if0 _ _).trans (feq hd103).2) (by decide) (by decide) ?_
      show Steps p.tables e below (T14.setTop (mkF m 114 #[.val (.int p1), .val (.int (own_holds (0 : Int32) p1)), .val (.int (own_holds (1 : Int32) p1)), .val (.int (own_holds (2 : Int32) p1)), .val (.int (own_holds (3 : Int32) p1)), .val (.int (own_holds (4 : Int32) p1)), .val (.int (own_holds (5 : Int32) p1)), .val (.int (if p1 = (0 : Int32) then (1 : Int32) else (0 : Int32))), .val (.int (if p1 < (0 : Int32) then (1 : Int32) else (0 : Int32)))] [(.int (own_holds (5 : Int32) p1))])) _
      refine XS.iconst X14.here hx rfl (hb hby at_114) ?_
      exact kt
  have hc115 : (own_holds (5 : Int32) p1) = (if (own_holds (4 : Int32) p1) = (0 : Int32) then (if (own_holds (0 : Int32) p1) = (0 : Int32) then (1 : Int32) else (0 : Int32)) else (0 : Int32)) := (by rcases own_tri p1 with ⟨u1, u2, u3⟩ | ⟨u1, u2, u3⟩ | ⟨u1, u2, u3⟩ <;> simp [own_holds, u1, u2, u3])
  have md19 : ∀ t, Steps p.tables e below (T14.setTop (mkF m 133 #[.val (.int p1), .val (.int (own_holds (0 : Int32) p1)), .val (.int (own_holds (1 : Int32) p1)), .val (.int (own_holds (2 : Int32) p1)), .val (.int (own_holds (3 : Int32) p1)), .val (.int (own_holds (4 : Int32) p1)), .val (.int (own_holds (5 : Int32) p1)), .val (.int (if p1 = (0 : Int32) then (1 : Int32) else (0 : Int32))), .val (.int (if p1 < (0 : Int32) then (1 : Int32) else (0 : Int32)))] [(.int (if (own_holds (4 : Int32) p1) = (0 : Int32) then (if (own_holds (0 : Int32) p1) = (0 : Int32) then (0 : Int32) else (1 : Int32)) else (1 : Int32))), (.int (own_holds (2 : Int32) p1))])) t → Steps p.tables e below (T14.setTop (mkF m 121 #[.val (.int p1), .val (.int (own_holds (0 : Int32) p1)), .val (.int (own_holds (1 : Int32) p1)), .val (.int (own_holds (2 : Int32) p1)), .val (.int (own_holds (3 : Int32) p1)), .val (.int (own_holds (4 : Int32) p1)), .val (.int (own_holds (5 : Int32) p1)), .val (.int (if p1 = (0 : Int32) then (1 : Int32) else (0 : Int32))), .val (.int (if p1 < (0 : Int32) then (1 : Int32) else (0 : Int32)))] [(.int (own_holds (4 : Int32) p1)), (.int (own_holds (2 : Int32) p1))])) t := by
    intro t kt
    by_cases hd121 : (own_holds (4 : Int32) p1) = (0 : Int32)
    · rw [show (if (own_holds (4 : Int32) p1) = (0 : Int32) then (if (own_holds (0 : Int32) p1) = (0 : Int32) then (0 : Int32) else (1 : Int32)) else (1 : Int32)) = (if (own_holds (0 : Int32) p1) = (0 : Int32) then (0 : Int32) else (1 : Int32)) from if_pos hd121] at kt
      by_cases hd125 : (own_holds (0 : Int32) p1) = (0 : Int32)
      · rw [show (if (own_holds (0 : Int32) p1) = (0 : Int32) then (0 : Int32) else (1 : Int32)) = (0 : Int32) from if_pos hd125] at kt
        show Steps p.tables e below (T14.setTop (mkF m 121 #[.val (.int p1), .val (.int (own_holds (0 : Int32) p1)), .val (.int (own_holds (1 : Int32) p1)), .val (.int (own_holds (2 : Int32) p1)), .val (.int (own_holds (3 : Int32) p1)), .val (.int (own_holds (4 : Int32) p1)), .val (.int (own_holds (5 : Int32) p1)), .val (.int (if p1 = (0 : Int32) then (1 : Int32) else (0 : Int32))), .val (.int (if p1 < (0 : Int32) then (1 : Int32) else (0 : Int32)))] [(.int (own_holds (4 : Int32) p1)), (.int (own_holds (2 : Int32) p1))])) _
        refine XS.ifNo X14.here hx rfl (hb hby at_121) rfl ((if0 _ _).trans (teq hd121).2) ?_
        show Steps p.tables e below (T14.setTop (mkF m 124 #[.val (.int p1), .val (.int (own_holds (0 : Int32) p1)), .val (.int (own_holds (1 : Int32) p1)), .val (.int (own_holds (2 : Int32) p1)), .val (.int (own_holds (3 : Int32) p1)), .val (.int (own_holds (4 : Int32) p1)), .val (.int (own_holds (5 : Int32) p1)), .val (.int (if p1 = (0 : Int32) then (1 : Int32) else (0 : Int32))), .val (.int (if p1 < (0 : Int32) then (1 : Int32) else (0 : Int32)))] [(.int (own_holds (2 : Int32) p1))])) _
        refine XS.iloadN X14.here hx rfl (hb hby at_124) rfl ?_
        show Steps p.tables e below (T14.setTop (mkF m 125 #[.val (.int p1), .val (.int (own_holds (0 : Int32) p1)), .val (.int (own_holds (1 : Int32) p1)), .val (.int (own_holds (2 : Int32) p1)), .val (.int (own_holds (3 : Int32) p1)), .val (.int (own_holds (4 : Int32) p1)), .val (.int (own_holds (5 : Int32) p1)), .val (.int (if p1 = (0 : Int32) then (1 : Int32) else (0 : Int32))), .val (.int (if p1 < (0 : Int32) then (1 : Int32) else (0 : Int32)))] [(.int (own_holds (0 : Int32) p1)), (.int (own_holds (2 : Int32) p1))])) _
        refine XS.ifYes X14.here hx rfl (pc0 := 125) (pc' := 132) rfl (hb hby at_125) rfl ((if0 _ _).trans (teq hd125).1) (by decide) (by decide) ?_
        show Steps p.tables e below (T14.setTop (mkF m 132 #[.val (.int p1), .val (.int (own_holds (0 : Int32) p1)), .val (.int (own_holds (1 : Int32) p1)), .val (.int (own_holds (2 : Int32) p1)), .val (.int (own_holds (3 : Int32) p1)), .val (.int (own_holds (4 : Int32) p1)), .val (.int (own_holds (5 : Int32) p1)), .val (.int (if p1 = (0 : Int32) then (1 : Int32) else (0 : Int32))), .val (.int (if p1 < (0 : Int32) then (1 : Int32) else (0 : Int32)))] [(.int (own_holds (2 : Int32) p1))])) _
        refine XS.iconst X14.here hx rfl (hb hby at_132) ?_
        exact kt
      · rw [show (if (own_holds (0 : Int32) p1) = (0 : Int32) then (0 : Int32) else (1 : Int32)) = (1 : Int32) from if_neg hd125] at kt
        show Steps p.tables e below (T14.setTop (mkF m 121 #[.val (.int p1), .val (.int (own_holds (0 : Int32) p1)), .val (.int (own_holds (1 : Int32) p1)), .val (.int (own_holds (2 : Int32) p1)), .val (.int (own_holds (3 : Int32) p1)), .val (.int (own_holds (4 : Int32) p1)), .val (.int (own_holds (5 : Int32) p1)), .val (.int (if p1 = (0 : Int32) then (1 : Int32) else (0 : Int32))), .val (.int (if p1 < (0 : Int32) then (1 : Int32) else (0 : Int32)))] [(.int (own_holds (4 : Int32) p1)), (.int (own_holds (2 : Int32) p1))])) _
        refine XS.ifNo X14.here hx rfl (hb hby at_121) rfl ((if0 _ _).trans (teq hd121).2) ?_
        show Steps p.tables e below (T14.setTop (mkF m 124 #[.val (.int p1), .val (.int (own_holds (0 : Int32) p1)), .val (.int (own_holds (1 : Int32) p1)), .val (.int (own_holds (2 : Int32) p1)), .val (.int (own_holds (3 : Int32) p1)), .val (.int (own_holds (4 : Int32) p1)), .val (.int (own_holds (5 : Int32) p1)), .val (.int (if p1 = (0 : Int32) then (1 : Int32) else (0 : Int32))), .val (.int (if p1 < (0 : Int32) then (1 : Int32) else (0 : Int32)))] [(.int (own_holds (2 : Int32) p1))])) _
        refine XS.iloadN X14.here hx rfl (hb hby at_124) rfl ?_
        show Steps p.tables e below (T14.setTop (mkF m 125 #[.val (.int p1), .val (.int (own_holds (0 : Int32) p1)), .val (.int (own_holds (1 : Int32) p1)), .val (.int (own_holds (2 : Int32) p1)), .val (.int (own_holds (3 : Int32) p1)), .val (.int (own_holds (4 : Int32) p1)), .val (.int (own_holds (5 : Int32) p1)), .val (.int (if p1 = (0 : Int32) then (1 : Int32) else (0 : Int32))), .val (.int (if p1 < (0 : Int32) then (1 : Int32) else (0 : Int32)))] [(.int (own_holds (0 : Int32) p1)), (.int (own_holds (2 : Int32) p1))])) _
        refine XS.ifNo X14.here hx rfl (hb hby at_125) rfl ((if0 _ _).trans (feq hd125).1) ?_
        show Steps p.tables e below (T14.setTop (mkF m 128 #[.val (.int p1), .val (.int (own_holds (0 : Int32) p1)), .val (.int (own_holds (1 : Int32) p1)), .val (.int (own_holds (2 : Int32) p1)), .val (.int (own_holds (3 : Int32) p1)), .val (.int (own_holds (4 : Int32) p1)), .val (.int (own_holds (5 : Int32) p1)), .val (.int (if p1 = (0 : Int32) then (1 : Int32) else (0 : Int32))), .val (.int (if p1 < (0 : Int32) then (1 : Int32) else (0 : Int32)))] [(.int (own_holds (2 : Int32) p1))])) _
        refine XS.iconst X14.here hx rfl (hb hby at_128) ?_
        show Steps p.tables e below (T14.setTop (mkF m 129 #[.val (.int p1), .val (.int (own_holds (0 : Int32) p1)), .val (.int (own_holds (1 : Int32) p1)), .val (.int (own_holds (2 : Int32) p1)), .val (.int (own_holds (3 : Int32) p1)), .val (.int (own_holds (4 : Int32) p1)), .val (.int (own_holds (5 : Int32) p1)), .val (.int (if p1 = (0 : Int32) then (1 : Int32) else (0 : Int32))), .val (.int (if p1 < (0 : Int32) then (1 : Int32) else (0 : Int32)))] [(.int (1 : Int32)), (.int (own_holds (2 : Int32) p1))])) _
        refine XS.goto X14.here hx rfl (pc0 := 129) (pc' := 133) rfl (hb hby at_129) (by decide) (by decide) ?_
        exact kt
    · rw [show (if (own_holds (4 : Int32) p1) = (0 : Int32) then (if (own_holds (0 : Int32) p1) = (0 : Int32) then (0 : Int32) else (1 : Int32)) else (1 : Int32)) = (1 : Int32) from if_neg hd121] at kt
      show Steps p.tables e below (T14.setTop (mkF m 121 #[.val (.int p1), .val (.int (own_holds (0 : Int32) p1)), .val (.int (own_holds (1 : Int32) p1)), .val (.int (own_holds (2 : Int32) p1)), .val (.int (own_holds (3 : Int32) p1)), .val (.int (own_holds (4 : Int32) p1)), .val (.int (own_holds (5 : Int32) p1)), .val (.int (if p1 = (0 : Int32) then (1 : Int32) else (0 : Int32))), .val (.int (if p1 < (0 : Int32) then (1 : Int32) else (0 : Int32)))] [(.int (own_holds (4 : Int32) p1)), (.int (own_holds (2 : Int32) p1))])) _
      refine XS.ifYes X14.here hx rfl (pc0 := 121) (pc' := 128) rfl (hb hby at_121) rfl ((if0 _ _).trans (feq hd121).2) (by decide) (by decide) ?_
      show Steps p.tables e below (T14.setTop (mkF m 128 #[.val (.int p1), .val (.int (own_holds (0 : Int32) p1)), .val (.int (own_holds (1 : Int32) p1)), .val (.int (own_holds (2 : Int32) p1)), .val (.int (own_holds (3 : Int32) p1)), .val (.int (own_holds (4 : Int32) p1)), .val (.int (own_holds (5 : Int32) p1)), .val (.int (if p1 = (0 : Int32) then (1 : Int32) else (0 : Int32))), .val (.int (if p1 < (0 : Int32) then (1 : Int32) else (0 : Int32)))] [(.int (own_holds (2 : Int32) p1))])) _
      refine XS.iconst X14.here hx rfl (hb hby at_128) ?_
      show Steps p.tables e below (T14.setTop (mkF m 129 #[.val (.int p1), .val (.int (own_holds (0 : Int32) p1)), .val (.int (own_holds (1 : Int32) p1)), .val (.int (own_holds (2 : Int32) p1)), .val (.int (own_holds (3 : Int32) p1)), .val (.int (own_holds (4 : Int32) p1)), .val (.int (own_holds (5 : Int32) p1)), .val (.int (if p1 = (0 : Int32) then (1 : Int32) else (0 : Int32))), .val (.int (if p1 < (0 : Int32) then (1 : Int32) else (0 : Int32)))] [(.int (1 : Int32)), (.int (own_holds (2 : Int32) p1))])) _
      refine XS.goto X14.here hx rfl (pc0 := 129) (pc' := 133) rfl (hb hby at_129) (by decide) (by decide) ?_
      exact kt
  have hc133 : (own_holds (2 : Int32) p1) = (if (own_holds (4 : Int32) p1) = (0 : Int32) then (if (own_holds (0 : Int32) p1) = (0 : Int32) then (0 : Int32) else (1 : Int32)) else (1 : Int32)) := (by rcases own_tri p1 with ⟨u1, u2, u3⟩ | ⟨u1, u2, u3⟩ | ⟨u1, u2, u3⟩ <;> simp [own_holds, u1, u2, u3])
  have md20 : ∀ t, Steps p.tables e below (T14.setTop (mkF m 148 #[.val (.int p1), .val (.int (own_holds (0 : Int32) p1)), .val (.int (own_holds (1 : Int32) p1)), .val (.int (own_holds (2 : Int32) p1)), .val (.int (own_holds (3 : Int32) p1)), .val (.int (own_holds (4 : Int32) p1)), .val (.int (own_holds (5 : Int32) p1)), .val (.int (if p1 = (0 : Int32) then (1 : Int32) else (0 : Int32))), .val (.int (if p1 < (0 : Int32) then (1 : Int32) else (0 : Int32)))] [(.int (if (own_holds (4 : Int32) p1) = (0 : Int32) then (1 : Int32) else (0 : Int32))), (.int (own_holds (3 : Int32) p1))])) t → Steps p.tables e below (T14.setTop (mkF m 140 #[.val (.int p1), .val (.int (own_holds (0 : Int32) p1)), .val (.int (own_holds (1 : Int32) p1)), .val (.int (own_holds (2 : Int32) p1)), .val (.int (own_holds (3 : Int32) p1)), .val (.int (own_holds (4 : Int32) p1)), .val (.int (own_holds (5 : Int32) p1)), .val (.int (if p1 = (0 : Int32) then (1 : Int32) else (0 : Int32))), .val (.int (if p1 < (0 : Int32) then (1 : Int32) else (0 : Int32)))] [(.int (own_holds (4 : Int32) p1)), (.int (own_holds (3 : Int32) p1))])) t := by
    intro t kt
    by_cases hd140 : (own_holds (4 : Int32) p1) = (0 : Int32)
    · rw [show (if (own_holds (4 : Int32) p1) = (0 : Int32) then (1 : Int32) else (0 : Int32)) = (1 : Int32) from if_pos hd140] at kt
      show Steps p.tables e below (T14.setTop (mkF m 140 #[.val (.int p1), .val (.int (own_holds (0 : Int32) p1)), .val (.int (own_holds (1 : Int32) p1)), .val (.int (own_holds (2 : Int32) p1)), .val (.int (own_holds (3 : Int32) p1)), .val (.int (own_holds (4 : Int32) p1)), .val (.int (own_holds (5 : Int32) p1)), .val (.int (if p1 = (0 : Int32) then (1 : Int32) else (0 : Int32))), .val (.int (if p1 < (0 : Int32) then (1 : Int32) else (0 : Int32)))] [(.int (own_holds (4 : Int32) p1)), (.int (own_holds (3 : Int32) p1))])) _
      refine XS.ifNo X14.here hx rfl (hb hby at_140) rfl ((if0 _ _).trans (teq hd140).2) ?_
      show Steps p.tables e below (T14.setTop (mkF m 143 #[.val (.int p1), .val (.int (own_holds (0 : Int32) p1)), .val (.int (own_holds (1 : Int32) p1)), .val (.int (own_holds (2 : Int32) p1)), .val (.int (own_holds (3 : Int32) p1)), .val (.int (own_holds (4 : Int32) p1)), .val (.int (own_holds (5 : Int32) p1)), .val (.int (if p1 = (0 : Int32) then (1 : Int32) else (0 : Int32))), .val (.int (if p1 < (0 : Int32) then (1 : Int32) else (0 : Int32)))] [(.int (own_holds (3 : Int32) p1))])) _
      refine XS.iconst X14.here hx rfl (hb hby at_143) ?_
      show Steps p.tables e below (T14.setTop (mkF m 144 #[.val (.int p1), .val (.int (own_holds (0 : Int32) p1)), .val (.int (own_holds (1 : Int32) p1)), .val (.int (own_holds (2 : Int32) p1)), .val (.int (own_holds (3 : Int32) p1)), .val (.int (own_holds (4 : Int32) p1)), .val (.int (own_holds (5 : Int32) p1)), .val (.int (if p1 = (0 : Int32) then (1 : Int32) else (0 : Int32))), .val (.int (if p1 < (0 : Int32) then (1 : Int32) else (0 : Int32)))] [(.int (1 : Int32)), (.int (own_holds (3 : Int32) p1))])) _
      refine XS.goto X14.here hx rfl (pc0 := 144) (pc' := 148) rfl (hb hby at_144) (by decide) (by decide) ?_
      exact kt
    · rw [show (if (own_holds (4 : Int32) p1) = (0 : Int32) then (1 : Int32) else (0 : Int32)) = (0 : Int32) from if_neg hd140] at kt
      show Steps p.tables e below (T14.setTop (mkF m 140 #[.val (.int p1), .val (.int (own_holds (0 : Int32) p1)), .val (.int (own_holds (1 : Int32) p1)), .val (.int (own_holds (2 : Int32) p1)), .val (.int (own_holds (3 : Int32) p1)), .val (.int (own_holds (4 : Int32) p1)), .val (.int (own_holds (5 : Int32) p1)), .val (.int (if p1 = (0 : Int32) then (1 : Int32) else (0 : Int32))), .val (.int (if p1 < (0 : Int32) then (1 : Int32) else (0 : Int32)))] [(.int (own_holds (4 : Int32) p1)), (.int (own_holds (3 : Int32) p1))])) _
      refine XS.ifYes X14.here hx rfl (pc0 := 140) (pc' := 147) rfl (hb hby at_140) rfl ((if0 _ _).trans (feq hd140).2) (by decide) (by decide) ?_
      show Steps p.tables e below (T14.setTop (mkF m 147 #[.val (.int p1), .val (.int (own_holds (0 : Int32) p1)), .val (.int (own_holds (1 : Int32) p1)), .val (.int (own_holds (2 : Int32) p1)), .val (.int (own_holds (3 : Int32) p1)), .val (.int (own_holds (4 : Int32) p1)), .val (.int (own_holds (5 : Int32) p1)), .val (.int (if p1 = (0 : Int32) then (1 : Int32) else (0 : Int32))), .val (.int (if p1 < (0 : Int32) then (1 : Int32) else (0 : Int32)))] [(.int (own_holds (3 : Int32) p1))])) _
      refine XS.iconst X14.here hx rfl (hb hby at_147) ?_
      exact kt
  have hc148 : (own_holds (3 : Int32) p1) = (if (own_holds (4 : Int32) p1) = (0 : Int32) then (1 : Int32) else (0 : Int32)) := (by rcases own_tri p1 with ⟨u1, u2, u3⟩ | ⟨u1, u2, u3⟩ | ⟨u1, u2, u3⟩ <;> simp [own_holds, u1, u2, u3])
  obtain ⟨fs, hr, hrun, hended, hW, hsame⟩ := X14.leave (v := some (.int (1 : Int32))) (fun h => by rw [Bd.returns] at h; cases h)
  refine ⟨_, _, pre0 _ ?_, hrun, hended, _, _, rfl, ?_, ⟨_, rfl⟩, hW, hsame.mono (by decide) (by decide)⟩
  · show Steps p.tables e below (s₁.setTop (mkF m 0 #[.val (.int p1), .unset, .unset, .unset, .unset, .unset, .unset, .unset, .unset] [])) _
    refine st3 _ ?_
    show Steps p.tables e below (T3.setTop (mkF m 3 #[.val (.int p1), .unset, .unset, .unset, .unset, .unset, .unset, .unset, .unset] [(.ref aE)])) _
    refine XS.iloadN X3.here hx rfl (hb hby at_3) rfl ?_
    show Steps p.tables e below (T3.setTop (mkF m 4 #[.val (.int p1), .unset, .unset, .unset, .unset, .unset, .unset, .unset, .unset] [(.int p1), (.ref aE)])) _
    refine st4.trans ?_
    show Steps p.tables e below (T4.setTop (mkF m 7 #[.val (.int p1), .unset, .unset, .unset, .unset, .unset, .unset, .unset, .unset] [(.int (own_holds (0 : Int32) p1))])) _
    refine XS.istoreN X4.here hx rfl (hb hby at_7) rfl (l' := #[.val (.int p1), .val (.int (own_holds (0 : Int32) p1)), .unset, .unset, .unset, .unset, .unset, .unset, .unset]) rfl ?_
    show Steps p.tables e below (T4.setTop (mkF m 8 #[.val (.int p1), .val (.int (own_holds (0 : Int32) p1)), .unset, .unset, .unset, .unset, .unset, .unset, .unset] [])) _
    refine st5 _ ?_
    show Steps p.tables e below (T5.setTop (mkF m 11 #[.val (.int p1), .val (.int (own_holds (0 : Int32) p1)), .unset, .unset, .unset, .unset, .unset, .unset, .unset] [(.ref aN)])) _
    refine XS.iloadN X5.here hx rfl (hb hby at_11) rfl ?_
    show Steps p.tables e below (T5.setTop (mkF m 12 #[.val (.int p1), .val (.int (own_holds (0 : Int32) p1)), .unset, .unset, .unset, .unset, .unset, .unset, .unset] [(.int p1), (.ref aN)])) _
    refine st6.trans ?_
    show Steps p.tables e below (T6.setTop (mkF m 15 #[.val (.int p1), .val (.int (own_holds (0 : Int32) p1)), .unset, .unset, .unset, .unset, .unset, .unset, .unset] [(.int (own_holds (1 : Int32) p1))])) _
    refine XS.istoreN X6.here hx rfl (hb hby at_15) rfl (l' := #[.val (.int p1), .val (.int (own_holds (0 : Int32) p1)), .val (.int (own_holds (1 : Int32) p1)), .unset, .unset, .unset, .unset, .unset, .unset]) rfl ?_
    show Steps p.tables e below (T6.setTop (mkF m 16 #[.val (.int p1), .val (.int (own_holds (0 : Int32) p1)), .val (.int (own_holds (1 : Int32) p1)), .unset, .unset, .unset, .unset, .unset, .unset] [])) _
    refine st7 _ ?_
    show Steps p.tables e below (T7.setTop (mkF m 19 #[.val (.int p1), .val (.int (own_holds (0 : Int32) p1)), .val (.int (own_holds (1 : Int32) p1)), .unset, .unset, .unset, .unset, .unset, .unset] [(.ref aM)])) _
    refine XS.iloadN X7.here hx rfl (hb hby at_19) rfl ?_
    show Steps p.tables e below (T7.setTop (mkF m 20 #[.val (.int p1), .val (.int (own_holds (0 : Int32) p1)), .val (.int (own_holds (1 : Int32) p1)), .unset, .unset, .unset, .unset, .unset, .unset] [(.int p1), (.ref aM)])) _
    refine st8.trans ?_
    show Steps p.tables e below (T8.setTop (mkF m 23 #[.val (.int p1), .val (.int (own_holds (0 : Int32) p1)), .val (.int (own_holds (1 : Int32) p1)), .unset, .unset, .unset, .unset, .unset, .unset] [(.int (own_holds (2 : Int32) p1))])) _
    refine XS.istoreN X8.here hx rfl (hb hby at_23) rfl (l' := #[.val (.int p1), .val (.int (own_holds (0 : Int32) p1)), .val (.int (own_holds (1 : Int32) p1)), .val (.int (own_holds (2 : Int32) p1)), .unset, .unset, .unset, .unset, .unset]) rfl ?_
    show Steps p.tables e below (T8.setTop (mkF m 24 #[.val (.int p1), .val (.int (own_holds (0 : Int32) p1)), .val (.int (own_holds (1 : Int32) p1)), .val (.int (own_holds (2 : Int32) p1)), .unset, .unset, .unset, .unset, .unset] [])) _
    refine st9 _ ?_
    show Steps p.tables e below (T9.setTop (mkF m 27 #[.val (.int p1), .val (.int (own_holds (0 : Int32) p1)), .val (.int (own_holds (1 : Int32) p1)), .val (.int (own_holds (2 : Int32) p1)), .unset, .unset, .unset, .unset, .unset] [(.ref aL)])) _
    refine XS.iloadN X9.here hx rfl (hb hby at_27) rfl ?_
    show Steps p.tables e below (T9.setTop (mkF m 28 #[.val (.int p1), .val (.int (own_holds (0 : Int32) p1)), .val (.int (own_holds (1 : Int32) p1)), .val (.int (own_holds (2 : Int32) p1)), .unset, .unset, .unset, .unset, .unset] [(.int p1), (.ref aL)])) _
    refine st10.trans ?_
    show Steps p.tables e below (T10.setTop (mkF m 31 #[.val (.int p1), .val (.int (own_holds (0 : Int32) p1)), .val (.int (own_holds (1 : Int32) p1)), .val (.int (own_holds (2 : Int32) p1)), .unset, .unset, .unset, .unset, .unset] [(.int (own_holds (3 : Int32) p1))])) _
    refine XS.istore X10.here hx rfl (hb hby at_31) rfl (l' := #[.val (.int p1), .val (.int (own_holds (0 : Int32) p1)), .val (.int (own_holds (1 : Int32) p1)), .val (.int (own_holds (2 : Int32) p1)), .val (.int (own_holds (3 : Int32) p1)), .unset, .unset, .unset, .unset]) rfl ?_
    show Steps p.tables e below (T10.setTop (mkF m 33 #[.val (.int p1), .val (.int (own_holds (0 : Int32) p1)), .val (.int (own_holds (1 : Int32) p1)), .val (.int (own_holds (2 : Int32) p1)), .val (.int (own_holds (3 : Int32) p1)), .unset, .unset, .unset, .unset] [])) _
    refine st11 _ ?_
    show Steps p.tables e below (T11.setTop (mkF m 36 #[.val (.int p1), .val (.int (own_holds (0 : Int32) p1)), .val (.int (own_holds (1 : Int32) p1)), .val (.int (own_holds (2 : Int32) p1)), .val (.int (own_holds (3 : Int32) p1)), .unset, .unset, .unset, .unset] [(.ref aB)])) _
    refine XS.iloadN X11.here hx rfl (hb hby at_36) rfl ?_
    show Steps p.tables e below (T11.setTop (mkF m 37 #[.val (.int p1), .val (.int (own_holds (0 : Int32) p1)), .val (.int (own_holds (1 : Int32) p1)), .val (.int (own_holds (2 : Int32) p1)), .val (.int (own_holds (3 : Int32) p1)), .unset, .unset, .unset, .unset] [(.int p1), (.ref aB)])) _
    refine st12.trans ?_
    show Steps p.tables e below (T12.setTop (mkF m 40 #[.val (.int p1), .val (.int (own_holds (0 : Int32) p1)), .val (.int (own_holds (1 : Int32) p1)), .val (.int (own_holds (2 : Int32) p1)), .val (.int (own_holds (3 : Int32) p1)), .unset, .unset, .unset, .unset] [(.int (own_holds (4 : Int32) p1))])) _
    refine XS.istore X12.here hx rfl (hb hby at_40) rfl (l' := #[.val (.int p1), .val (.int (own_holds (0 : Int32) p1)), .val (.int (own_holds (1 : Int32) p1)), .val (.int (own_holds (2 : Int32) p1)), .val (.int (own_holds (3 : Int32) p1)), .val (.int (own_holds (4 : Int32) p1)), .unset, .unset, .unset]) rfl ?_
    show Steps p.tables e below (T12.setTop (mkF m 42 #[.val (.int p1), .val (.int (own_holds (0 : Int32) p1)), .val (.int (own_holds (1 : Int32) p1)), .val (.int (own_holds (2 : Int32) p1)), .val (.int (own_holds (3 : Int32) p1)), .val (.int (own_holds (4 : Int32) p1)), .unset, .unset, .unset] [])) _
    refine st13 _ ?_
    show Steps p.tables e below (T13.setTop (mkF m 45 #[.val (.int p1), .val (.int (own_holds (0 : Int32) p1)), .val (.int (own_holds (1 : Int32) p1)), .val (.int (own_holds (2 : Int32) p1)), .val (.int (own_holds (3 : Int32) p1)), .val (.int (own_holds (4 : Int32) p1)), .unset, .unset, .unset] [(.ref aA)])) _
    refine XS.iloadN X13.here hx rfl (hb hby at_45) rfl ?_
    show Steps p.tables e below (T13.setTop (mkF m 46 #[.val (.int p1), .val (.int (own_holds (0 : Int32) p1)), .val (.int (own_holds (1 : Int32) p1)), .val (.int (own_holds (2 : Int32) p1)), .val (.int (own_holds (3 : Int32) p1)), .val (.int (own_holds (4 : Int32) p1)), .unset, .unset, .unset] [(.int p1), (.ref aA)])) _
    refine st14.trans ?_
    show Steps p.tables e below (T14.setTop (mkF m 49 #[.val (.int p1), .val (.int (own_holds (0 : Int32) p1)), .val (.int (own_holds (1 : Int32) p1)), .val (.int (own_holds (2 : Int32) p1)), .val (.int (own_holds (3 : Int32) p1)), .val (.int (own_holds (4 : Int32) p1)), .unset, .unset, .unset] [(.int (own_holds (5 : Int32) p1))])) _
    refine XS.istore X14.here hx rfl (hb hby at_49) rfl (l' := #[.val (.int p1), .val (.int (own_holds (0 : Int32) p1)), .val (.int (own_holds (1 : Int32) p1)), .val (.int (own_holds (2 : Int32) p1)), .val (.int (own_holds (3 : Int32) p1)), .val (.int (own_holds (4 : Int32) p1)), .val (.int (own_holds (5 : Int32) p1)), .unset, .unset]) rfl ?_
    show Steps p.tables e below (T14.setTop (mkF m 51 #[.val (.int p1), .val (.int (own_holds (0 : Int32) p1)), .val (.int (own_holds (1 : Int32) p1)), .val (.int (own_holds (2 : Int32) p1)), .val (.int (own_holds (3 : Int32) p1)), .val (.int (own_holds (4 : Int32) p1)), .val (.int (own_holds (5 : Int32) p1)), .unset, .unset] [])) _
    refine XS.iloadN X14.here hx rfl (hb hby at_51) rfl ?_
    show Steps p.tables e below (T14.setTop (mkF m 52 #[.val (.int p1), .val (.int (own_holds (0 : Int32) p1)), .val (.int (own_holds (1 : Int32) p1)), .val (.int (own_holds (2 : Int32) p1)), .val (.int (own_holds (3 : Int32) p1)), .val (.int (own_holds (4 : Int32) p1)), .val (.int (own_holds (5 : Int32) p1)), .unset, .unset] [(.int p1)])) _
    refine md15 _ ?_
    show Steps p.tables e below (T14.setTop (mkF m 60 #[.val (.int p1), .val (.int (own_holds (0 : Int32) p1)), .val (.int (own_holds (1 : Int32) p1)), .val (.int (own_holds (2 : Int32) p1)), .val (.int (own_holds (3 : Int32) p1)), .val (.int (own_holds (4 : Int32) p1)), .val (.int (own_holds (5 : Int32) p1)), .unset, .unset] [(.int (if p1 = (0 : Int32) then (1 : Int32) else (0 : Int32)))])) _
    refine XS.istore X14.here hx rfl (hb hby at_60) rfl (l' := #[.val (.int p1), .val (.int (own_holds (0 : Int32) p1)), .val (.int (own_holds (1 : Int32) p1)), .val (.int (own_holds (2 : Int32) p1)), .val (.int (own_holds (3 : Int32) p1)), .val (.int (own_holds (4 : Int32) p1)), .val (.int (own_holds (5 : Int32) p1)), .val (.int (if p1 = (0 : Int32) then (1 : Int32) else (0 : Int32))), .unset]) rfl ?_
    show Steps p.tables e below (T14.setTop (mkF m 62 #[.val (.int p1), .val (.int (own_holds (0 : Int32) p1)), .val (.int (own_holds (1 : Int32) p1)), .val (.int (own_holds (2 : Int32) p1)), .val (.int (own_holds (3 : Int32) p1)), .val (.int (own_holds (4 : Int32) p1)), .val (.int (own_holds (5 : Int32) p1)), .val (.int (if p1 = (0 : Int32) then (1 : Int32) else (0 : Int32))), .unset] [])) _
    refine XS.iloadN X14.here hx rfl (hb hby at_62) rfl ?_
    show Steps p.tables e below (T14.setTop (mkF m 63 #[.val (.int p1), .val (.int (own_holds (0 : Int32) p1)), .val (.int (own_holds (1 : Int32) p1)), .val (.int (own_holds (2 : Int32) p1)), .val (.int (own_holds (3 : Int32) p1)), .val (.int (own_holds (4 : Int32) p1)), .val (.int (own_holds (5 : Int32) p1)), .val (.int (if p1 = (0 : Int32) then (1 : Int32) else (0 : Int32))), .unset] [(.int p1)])) _
    refine md16 _ ?_
    show Steps p.tables e below (T14.setTop (mkF m 71 #[.val (.int p1), .val (.int (own_holds (0 : Int32) p1)), .val (.int (own_holds (1 : Int32) p1)), .val (.int (own_holds (2 : Int32) p1)), .val (.int (own_holds (3 : Int32) p1)), .val (.int (own_holds (4 : Int32) p1)), .val (.int (own_holds (5 : Int32) p1)), .val (.int (if p1 = (0 : Int32) then (1 : Int32) else (0 : Int32))), .unset] [(.int (if p1 < (0 : Int32) then (1 : Int32) else (0 : Int32)))])) _
    refine XS.istore X14.here hx rfl (hb hby at_71) rfl (l' := #[.val (.int p1), .val (.int (own_holds (0 : Int32) p1)), .val (.int (own_holds (1 : Int32) p1)), .val (.int (own_holds (2 : Int32) p1)), .val (.int (own_holds (3 : Int32) p1)), .val (.int (own_holds (4 : Int32) p1)), .val (.int (own_holds (5 : Int32) p1)), .val (.int (if p1 = (0 : Int32) then (1 : Int32) else (0 : Int32))), .val (.int (if p1 < (0 : Int32) then (1 : Int32) else (0 : Int32)))]) rfl ?_
    show Steps p.tables e below (T14.setTop (mkF m 73 #[.val (.int p1), .val (.int (own_holds (0 : Int32) p1)), .val (.int (own_holds (1 : Int32) p1)), .val (.int (own_holds (2 : Int32) p1)), .val (.int (own_holds (3 : Int32) p1)), .val (.int (own_holds (4 : Int32) p1)), .val (.int (own_holds (5 : Int32) p1)), .val (.int (if p1 = (0 : Int32) then (1 : Int32) else (0 : Int32))), .val (.int (if p1 < (0 : Int32) then (1 : Int32) else (0 : Int32)))] [])) _
    refine XS.iloadN X14.here hx rfl (hb hby at_73) rfl ?_
    show Steps p.tables e below (T14.setTop (mkF m 74 #[.val (.int p1), .val (.int (own_holds (0 : Int32) p1)), .val (.int (own_holds (1 : Int32) p1)), .val (.int (own_holds (2 : Int32) p1)), .val (.int (own_holds (3 : Int32) p1)), .val (.int (own_holds (4 : Int32) p1)), .val (.int (own_holds (5 : Int32) p1)), .val (.int (if p1 = (0 : Int32) then (1 : Int32) else (0 : Int32))), .val (.int (if p1 < (0 : Int32) then (1 : Int32) else (0 : Int32)))] [(.int (own_holds (0 : Int32) p1))])) _
    refine XS.iload X14.here hx rfl (hb hby at_74) rfl ?_
    show Steps p.tables e below (T14.setTop (mkF m 76 #[.val (.int p1), .val (.int (own_holds (0 : Int32) p1)), .val (.int (own_holds (1 : Int32) p1)), .val (.int (own_holds (2 : Int32) p1)), .val (.int (own_holds (3 : Int32) p1)), .val (.int (own_holds (4 : Int32) p1)), .val (.int (own_holds (5 : Int32) p1)), .val (.int (if p1 = (0 : Int32) then (1 : Int32) else (0 : Int32))), .val (.int (if p1 < (0 : Int32) then (1 : Int32) else (0 : Int32)))] [(.int (if p1 = (0 : Int32) then (1 : Int32) else (0 : Int32))), (.int (own_holds (0 : Int32) p1))])) _
    refine XS.icmpNo X14.here hx rfl (hb hby at_76) rfl (teq hc76).2 ?_
    show Steps p.tables e below (T14.setTop (mkF m 79 #[.val (.int p1), .val (.int (own_holds (0 : Int32) p1)), .val (.int (own_holds (1 : Int32) p1)), .val (.int (own_holds (2 : Int32) p1)), .val (.int (own_holds (3 : Int32) p1)), .val (.int (own_holds (4 : Int32) p1)), .val (.int (own_holds (5 : Int32) p1)), .val (.int (if p1 = (0 : Int32) then (1 : Int32) else (0 : Int32))), .val (.int (if p1 < (0 : Int32) then (1 : Int32) else (0 : Int32)))] [])) _
    refine XS.iload X14.here hx rfl (hb hby at_79) rfl ?_
    show Steps p.tables e below (T14.setTop (mkF m 81 #[.val (.int p1), .val (.int (own_holds (0 : Int32) p1)), .val (.int (own_holds (1 : Int32) p1)), .val (.int (own_holds (2 : Int32) p1)), .val (.int (own_holds (3 : Int32) p1)), .val (.int (own_holds (4 : Int32) p1)), .val (.int (own_holds (5 : Int32) p1)), .val (.int (if p1 = (0 : Int32) then (1 : Int32) else (0 : Int32))), .val (.int (if p1 < (0 : Int32) then (1 : Int32) else (0 : Int32)))] [(.int (own_holds (4 : Int32) p1))])) _
    refine XS.iload X14.here hx rfl (hb hby at_81) rfl ?_
    show Steps p.tables e below (T14.setTop (mkF m 83 #[.val (.int p1), .val (.int (own_holds (0 : Int32) p1)), .val (.int (own_holds (1 : Int32) p1)), .val (.int (own_holds (2 : Int32) p1)), .val (.int (own_holds (3 : Int32) p1)), .val (.int (own_holds (4 : Int32) p1)), .val (.int (own_holds (5 : Int32) p1)), .val (.int (if p1 = (0 : Int32) then (1 : Int32) else (0 : Int32))), .val (.int (if p1 < (0 : Int32) then (1 : Int32) else (0 : Int32)))] [(.int (if p1 < (0 : Int32) then (1 : Int32) else (0 : Int32))), (.int (own_holds (4 : Int32) p1))])) _
    refine XS.icmpNo X14.here hx rfl (hb hby at_83) rfl (teq hc83).2 ?_
    show Steps p.tables e below (T14.setTop (mkF m 86 #[.val (.int p1), .val (.int (own_holds (0 : Int32) p1)), .val (.int (own_holds (1 : Int32) p1)), .val (.int (own_holds (2 : Int32) p1)), .val (.int (own_holds (3 : Int32) p1)), .val (.int (own_holds (4 : Int32) p1)), .val (.int (own_holds (5 : Int32) p1)), .val (.int (if p1 = (0 : Int32) then (1 : Int32) else (0 : Int32))), .val (.int (if p1 < (0 : Int32) then (1 : Int32) else (0 : Int32)))] [])) _
    refine XS.iloadN X14.here hx rfl (hb hby at_86) rfl ?_
    show Steps p.tables e below (T14.setTop (mkF m 87 #[.val (.int p1), .val (.int (own_holds (0 : Int32) p1)), .val (.int (own_holds (1 : Int32) p1)), .val (.int (own_holds (2 : Int32) p1)), .val (.int (own_holds (3 : Int32) p1)), .val (.int (own_holds (4 : Int32) p1)), .val (.int (own_holds (5 : Int32) p1)), .val (.int (if p1 = (0 : Int32) then (1 : Int32) else (0 : Int32))), .val (.int (if p1 < (0 : Int32) then (1 : Int32) else (0 : Int32)))] [(.int (own_holds (1 : Int32) p1))])) _
    refine XS.iloadN X14.here hx rfl (hb hby at_87) rfl ?_
    show Steps p.tables e below (T14.setTop (mkF m 88 #[.val (.int p1), .val (.int (own_holds (0 : Int32) p1)), .val (.int (own_holds (1 : Int32) p1)), .val (.int (own_holds (2 : Int32) p1)), .val (.int (own_holds (3 : Int32) p1)), .val (.int (own_holds (4 : Int32) p1)), .val (.int (own_holds (5 : Int32) p1)), .val (.int (if p1 = (0 : Int32) then (1 : Int32) else (0 : Int32))), .val (.int (if p1 < (0 : Int32) then (1 : Int32) else (0 : Int32)))] [(.int (own_holds (0 : Int32) p1)), (.int (own_holds (1 : Int32) p1))])) _
    refine md17 _ ?_
    show Steps p.tables e below (T14.setTop (mkF m 96 #[.val (.int p1), .val (.int (own_holds (0 : Int32) p1)), .val (.int (own_holds (1 : Int32) p1)), .val (.int (own_holds (2 : Int32) p1)), .val (.int (own_holds (3 : Int32) p1)), .val (.int (own_holds (4 : Int32) p1)), .val (.int (own_holds (5 : Int32) p1)), .val (.int (if p1 = (0 : Int32) then (1 : Int32) else (0 : Int32))), .val (.int (if p1 < (0 : Int32) then (1 : Int32) else (0 : Int32)))] [(.int (if (own_holds (0 : Int32) p1) = (0 : Int32) then (1 : Int32) else (0 : Int32))), (.int (own_holds (1 : Int32) p1))])) _
    refine XS.icmpNo X14.here hx rfl (hb hby at_96) rfl (teq hc96).2 ?_
    show Steps p.tables e below (T14.setTop (mkF m 99 #[.val (.int p1), .val (.int (own_holds (0 : Int32) p1)), .val (.int (own_holds (1 : Int32) p1)), .val (.int (own_holds (2 : Int32) p1)), .val (.int (own_holds (3 : Int32) p1)), .val (.int (own_holds (4 : Int32) p1)), .val (.int (own_holds (5 : Int32) p1)), .val (.int (if p1 = (0 : Int32) then (1 : Int32) else (0 : Int32))), .val (.int (if p1 < (0 : Int32) then (1 : Int32) else (0 : Int32)))] [])) _
    refine XS.iload X14.here hx rfl (hb hby at_99) rfl ?_
    show Steps p.tables e below (T14.setTop (mkF m 101 #[.val (.int p1), .val (.int (own_holds (0 : Int32) p1)), .val (.int (own_holds (1 : Int32) p1)), .val (.int (own_holds (2 : Int32) p1)), .val (.int (own_holds (3 : Int32) p1)), .val (.int (own_holds (4 : Int32) p1)), .val (.int (own_holds (5 : Int32) p1)), .val (.int (if p1 = (0 : Int32) then (1 : Int32) else (0 : Int32))), .val (.int (if p1 < (0 : Int32) then (1 : Int32) else (0 : Int32)))] [(.int (own_holds (5 : Int32) p1))])) _
    refine XS.iload X14.here hx rfl (hb hby at_101) rfl ?_
    show Steps p.tables e below (T14.setTop (mkF m 103 #[.val (.int p1), .val (.int (own_holds (0 : Int32) p1)), .val (.int (own_holds (1 : Int32) p1)), .val (.int (own_holds (2 : Int32) p1)), .val (.int (own_holds (3 : Int32) p1)), .val (.int (own_holds (4 : Int32) p1)), .val (.int (own_holds (5 : Int32) p1)), .val (.int (if p1 = (0 : Int32) then (1 : Int32) else (0 : Int32))), .val (.int (if p1 < (0 : Int32) then (1 : Int32) else (0 : Int32)))] [(.int (own_holds (4 : Int32) p1)), (.int (own_holds (5 : Int32) p1))])) _
    refine md18 _ ?_
    show Steps p.tables e below (T14.setTop (mkF m 115 #[.val (.int p1), .val (.int (own_holds (0 : Int32) p1)), .val (.int (own_holds (1 : Int32) p1)), .val (.int (own_holds (2 : Int32) p1)), .val (.int (own_holds (3 : Int32) p1)), .val (.int (own_holds (4 : Int32) p1)), .val (.int (own_holds (5 : Int32) p1)), .val (.int (if p1 = (0 : Int32) then (1 : Int32) else (0 : Int32))), .val (.int (if p1 < (0 : Int32) then (1 : Int32) else (0 : Int32)))] [(.int (if (own_holds (4 : Int32) p1) = (0 : Int32) then (if (own_holds (0 : Int32) p1) = (0 : Int32) then (1 : Int32) else (0 : Int32)) else (0 : Int32))), (.int (own_holds (5 : Int32) p1))])) _
    refine XS.icmpNo X14.here hx rfl (hb hby at_115) rfl (teq hc115).2 ?_
    show Steps p.tables e below (T14.setTop (mkF m 118 #[.val (.int p1), .val (.int (own_holds (0 : Int32) p1)), .val (.int (own_holds (1 : Int32) p1)), .val (.int (own_holds (2 : Int32) p1)), .val (.int (own_holds (3 : Int32) p1)), .val (.int (own_holds (4 : Int32) p1)), .val (.int (own_holds (5 : Int32) p1)), .val (.int (if p1 = (0 : Int32) then (1 : Int32) else (0 : Int32))), .val (.int (if p1 < (0 : Int32) then (1 : Int32) else (0 : Int32)))] [])) _
    refine XS.iloadN X14.here hx rfl (hb hby at_118) rfl ?_
    show Steps p.tables e below (T14.setTop (mkF m 119 #[.val (.int p1), .val (.int (own_holds (0 : Int32) p1)), .val (.int (own_holds (1 : Int32) p1)), .val (.int (own_holds (2 : Int32) p1)), .val (.int (own_holds (3 : Int32) p1)), .val (.int (own_holds (4 : Int32) p1)), .val (.int (own_holds (5 : Int32) p1)), .val (.int (if p1 = (0 : Int32) then (1 : Int32) else (0 : Int32))), .val (.int (if p1 < (0 : Int32) then (1 : Int32) else (0 : Int32)))] [(.int (own_holds (2 : Int32) p1))])) _
    refine XS.iload X14.here hx rfl (hb hby at_119) rfl ?_
    show Steps p.tables e below (T14.setTop (mkF m 121 #[.val (.int p1), .val (.int (own_holds (0 : Int32) p1)), .val (.int (own_holds (1 : Int32) p1)), .val (.int (own_holds (2 : Int32) p1)), .val (.int (own_holds (3 : Int32) p1)), .val (.int (own_holds (4 : Int32) p1)), .val (.int (own_holds (5 : Int32) p1)), .val (.int (if p1 = (0 : Int32) then (1 : Int32) else (0 : Int32))), .val (.int (if p1 < (0 : Int32) then (1 : Int32) else (0 : Int32)))] [(.int (own_holds (4 : Int32) p1)), (.int (own_holds (2 : Int32) p1))])) _
    refine md19 _ ?_
    show Steps p.tables e below (T14.setTop (mkF m 133 #[.val (.int p1), .val (.int (own_holds (0 : Int32) p1)), .val (.int (own_holds (1 : Int32) p1)), .val (.int (own_holds (2 : Int32) p1)), .val (.int (own_holds (3 : Int32) p1)), .val (.int (own_holds (4 : Int32) p1)), .val (.int (own_holds (5 : Int32) p1)), .val (.int (if p1 = (0 : Int32) then (1 : Int32) else (0 : Int32))), .val (.int (if p1 < (0 : Int32) then (1 : Int32) else (0 : Int32)))] [(.int (if (own_holds (4 : Int32) p1) = (0 : Int32) then (if (own_holds (0 : Int32) p1) = (0 : Int32) then (0 : Int32) else (1 : Int32)) else (1 : Int32))), (.int (own_holds (2 : Int32) p1))])) _
    refine XS.icmpNo X14.here hx rfl (hb hby at_133) rfl (teq hc133).2 ?_
    show Steps p.tables e below (T14.setTop (mkF m 136 #[.val (.int p1), .val (.int (own_holds (0 : Int32) p1)), .val (.int (own_holds (1 : Int32) p1)), .val (.int (own_holds (2 : Int32) p1)), .val (.int (own_holds (3 : Int32) p1)), .val (.int (own_holds (4 : Int32) p1)), .val (.int (own_holds (5 : Int32) p1)), .val (.int (if p1 = (0 : Int32) then (1 : Int32) else (0 : Int32))), .val (.int (if p1 < (0 : Int32) then (1 : Int32) else (0 : Int32)))] [])) _
    refine XS.iload X14.here hx rfl (hb hby at_136) rfl ?_
    show Steps p.tables e below (T14.setTop (mkF m 138 #[.val (.int p1), .val (.int (own_holds (0 : Int32) p1)), .val (.int (own_holds (1 : Int32) p1)), .val (.int (own_holds (2 : Int32) p1)), .val (.int (own_holds (3 : Int32) p1)), .val (.int (own_holds (4 : Int32) p1)), .val (.int (own_holds (5 : Int32) p1)), .val (.int (if p1 = (0 : Int32) then (1 : Int32) else (0 : Int32))), .val (.int (if p1 < (0 : Int32) then (1 : Int32) else (0 : Int32)))] [(.int (own_holds (3 : Int32) p1))])) _
    refine XS.iload X14.here hx rfl (hb hby at_138) rfl ?_
    show Steps p.tables e below (T14.setTop (mkF m 140 #[.val (.int p1), .val (.int (own_holds (0 : Int32) p1)), .val (.int (own_holds (1 : Int32) p1)), .val (.int (own_holds (2 : Int32) p1)), .val (.int (own_holds (3 : Int32) p1)), .val (.int (own_holds (4 : Int32) p1)), .val (.int (own_holds (5 : Int32) p1)), .val (.int (if p1 = (0 : Int32) then (1 : Int32) else (0 : Int32))), .val (.int (if p1 < (0 : Int32) then (1 : Int32) else (0 : Int32)))] [(.int (own_holds (4 : Int32) p1)), (.int (own_holds (3 : Int32) p1))])) _
    refine md20 _ ?_
    show Steps p.tables e below (T14.setTop (mkF m 148 #[.val (.int p1), .val (.int (own_holds (0 : Int32) p1)), .val (.int (own_holds (1 : Int32) p1)), .val (.int (own_holds (2 : Int32) p1)), .val (.int (own_holds (3 : Int32) p1)), .val (.int (own_holds (4 : Int32) p1)), .val (.int (own_holds (5 : Int32) p1)), .val (.int (if p1 = (0 : Int32) then (1 : Int32) else (0 : Int32))), .val (.int (if p1 < (0 : Int32) then (1 : Int32) else (0 : Int32)))] [(.int (if (own_holds (4 : Int32) p1) = (0 : Int32) then (1 : Int32) else (0 : Int32))), (.int (own_holds (3 : Int32) p1))])) _
    refine XS.icmpNo X14.here hx rfl (hb hby at_148) rfl (teq hc148).2 ?_
    show Steps p.tables e below (T14.setTop (mkF m 151 #[.val (.int p1), .val (.int (own_holds (0 : Int32) p1)), .val (.int (own_holds (1 : Int32) p1)), .val (.int (own_holds (2 : Int32) p1)), .val (.int (own_holds (3 : Int32) p1)), .val (.int (own_holds (4 : Int32) p1)), .val (.int (own_holds (5 : Int32) p1)), .val (.int (if p1 = (0 : Int32) then (1 : Int32) else (0 : Int32))), .val (.int (if p1 < (0 : Int32) then (1 : Int32) else (0 : Int32)))] [])) _
    refine XS.iconst X14.here hx rfl (hb hby at_151) ?_
    show Steps p.tables e below (T14.setTop (mkF m 152 #[.val (.int p1), .val (.int (own_holds (0 : Int32) p1)), .val (.int (own_holds (1 : Int32) p1)), .val (.int (own_holds (2 : Int32) p1)), .val (.int (own_holds (3 : Int32) p1)), .val (.int (own_holds (4 : Int32) p1)), .val (.int (own_holds (5 : Int32) p1)), .val (.int (if p1 = (0 : Int32) then (1 : Int32) else (0 : Int32))), .val (.int (if p1 < (0 : Int32) then (1 : Int32) else (0 : Int32)))] [(.int (1 : Int32))])) _
    refine XS.goto X14.here hx rfl (pc0 := 152) (pc' := 156) rfl (hb hby at_152) (by decide) (by decide) ?_
    show Steps p.tables e below (T14.setTop (mkF m 156 #[.val (.int p1), .val (.int (own_holds (0 : Int32) p1)), .val (.int (own_holds (1 : Int32) p1)), .val (.int (own_holds (2 : Int32) p1)), .val (.int (own_holds (3 : Int32) p1)), .val (.int (own_holds (4 : Int32) p1)), .val (.int (own_holds (5 : Int32) p1)), .val (.int (if p1 = (0 : Int32) then (1 : Int32) else (0 : Int32))), .val (.int (if p1 < (0 : Int32) then (1 : Int32) else (0 : Int32)))] [(.int (1 : Int32))])) _
    exact retN X14 hx (t := .boolean) Bd.returns (by simp) (hb hby at_156) hr
  · show Q_0 Z p1 aE aN aM aL aB aA h0 n0 _ T14.heap _
    rw [e14]
    exact ⟨rfl, N14⟩
set_option maxRecDepth 65536 in
set_option maxHeartbeats 40000000 in
theorem comes_1 {Post : Tables → Env → Array Value → State → Outcome → State → Prop} (hpost : ∀ tb e args s v u, (limb_1_1.after args s (.returned v) u = true ∧ limb_1_2.after args s (.returned v) u = true ∧ True) → FrameEnd s (.returned v) u (Jvm.fieldLocs frame_1_writes args s ++ Jvm.arrayLocs frame_1_arrays args s ++ Jvm.staticLocs frame_1_statics s) 0 0 → Post tb e args s (.returned v) u) :
    ArmFor flags0 classFile x code maxLocals ret World_1 tables_1 room_1 Calls_1 rest_1 Pre_1 Post := by
  intro l hfl _ _ p e ha hc hk s m args below hf hA hF happ hP
  obtain ⟨hcalls, hrest, hpre⟩ := hP
  obtain ⟨-, -, -, hnamed, -, -, -, hat⟩ := (Spec.applies_iff hf).mp happ
  obtain ⟨hg, hn⟩ := and_e (Cond.before_iff.mp (show (Jvm.Cond.and given_1 narrow_1).before args s = true from hpre))
  obtain ⟨g21, g22⟩ := and_e hg
  obtain ⟨k23, k24⟩ := and_e hn
  obtain ⟨k25, k26⟩ := and_e k24
  obtain ⟨k27, k28⟩ := and_e k26
  obtain ⟨k29, k30⟩ := and_e k28
  obtain ⟨k31, k32⟩ := and_e k30
  obtain ⟨k33, k34⟩ := and_e k32
  obtain ⟨k35, k36⟩ := and_e k34
  obtain ⟨k37, k38⟩ := and_e k36
  obtain ⟨k39, k40⟩ := and_e k38
  obtain ⟨k41, k42⟩ := and_e k40
  obtain ⟨k43, k44⟩ := and_e k42
  obtain ⟨w0, rfl⟩ : ∃ w0 : Value, args = #[w0] := by
    have hs : args.size = 1 := by simpa [Cond.value, given_1] using g21
    obtain ⟨L⟩ := args
    match L, hs with
    | [w0], _ => exact ⟨w0, rfl⟩
  have hw := fun d (hd : d ∈ tables_1) => atoms_spec (ws := Jvm.Cond.code x code maxLocals ret :: tables_1) hat d (List.mem_cons_of_mem _ hd)
  have hfit : Fit s := fun {y c} hc i hi => by
    obtain ⟨ha, rfl⟩ := Array.getElem?_eq_some_iff.mp hc
    have q := List.all_eq_true.mp ((Array.all_eq_true_iff_forall_mem.mp hF) _ (Array.getElem_mem ha)) i (List.mem_range.mpr hi)
    simpa [Array.getElem?_eq_getElem hi] using q
  obtain ⟨i0, ei0⟩ := is_v g22
  obtain rfl : w0 = (.int i0) := Option.some.inj ei0
  obtain ⟨a_EQUAL, v_EQUAL⟩ := exa_v k23
  have S_EQUAL : Sta s s.heap "com/example/furlong/furlong/model/Condition$Operator" "EQUAL" "Lcom/example/furlong/furlong/model/Condition$Operator;" (.ref a_EQUAL) := Sta.start v_EQUAL (Or.inr ⟨(hw _ (List.mem_of_getElem? (i := 1) rfl)), (hw _ (List.mem_of_getElem? (i := 2) rfl))⟩)
  have E_EQUAL : Exa s s.heap a_EQUAL "com/example/furlong/furlong/model/Condition$Operator" := Exa.start v_EQUAL k23
  have F_EQUAL_ordinal : Fld s s.heap a_EQUAL "java/lang/Enum" "ordinal" "I" (.int (0 : Int32)) := Fld.start ((fld_at v_EQUAL).symm.trans (own_eqI k25))
  obtain ⟨a_NOT_EQUAL, v_NOT_EQUAL⟩ := exa_v k27
  have S_NOT_EQUAL : Sta s s.heap "com/example/furlong/furlong/model/Condition$Operator" "NOT_EQUAL" "Lcom/example/furlong/furlong/model/Condition$Operator;" (.ref a_NOT_EQUAL) := Sta.start v_NOT_EQUAL (Or.inr ⟨(hw _ (List.mem_of_getElem? (i := 1) rfl)), (hw _ (List.mem_of_getElem? (i := 18) rfl))⟩)
  have E_NOT_EQUAL : Exa s s.heap a_NOT_EQUAL "com/example/furlong/furlong/model/Condition$Operator" := Exa.start v_NOT_EQUAL k27
  have F_NOT_EQUAL_ordinal : Fld s s.heap a_NOT_EQUAL "java/lang/Enum" "ordinal" "I" (.int (1 : Int32)) := Fld.start ((fld_at v_NOT_EQUAL).symm.trans (own_eqI k29))
  obtain ⟨a_AT_MOST, v_AT_MOST⟩ := exa_v k31
  have S_AT_MOST : Sta s s.heap "com/example/furlong/furlong/model/Condition$Operator" "AT_MOST" "Lcom/example/furlong/furlong/model/Condition$Operator;" (.ref a_AT_MOST) := Sta.start v_AT_MOST (Or.inr ⟨(hw _ (List.mem_of_getElem? (i := 1) rfl)), (hw _ (List.mem_of_getElem? (i := 20) rfl))⟩)
  have E_AT_MOST : Exa s s.heap a_AT_MOST "com/example/furlong/furlong/model/Condition$Operator" := Exa.start v_AT_MOST k31
  have F_AT_MOST_ordinal : Fld s s.heap a_AT_MOST "java/lang/Enum" "ordinal" "I" (.int (2 : Int32)) := Fld.start ((fld_at v_AT_MOST).symm.trans (own_eqI k33))
  obtain ⟨a_AT_LEAST, v_AT_LEAST⟩ := exa_v k35
  have S_AT_LEAST : Sta s s.heap "com/example/furlong/furlong/model/Condition$Operator" "AT_LEAST" "Lcom/example/furlong/furlong/model/Condition$Operator;" (.ref a_AT_LEAST) := Sta.start v_AT_LEAST (Or.inr ⟨(hw _ (List.mem_of_getElem? (i := 1) rfl)), (hw _ (List.mem_of_getElem? (i := 22) rfl))⟩)
  have E_AT_LEAST : Exa s s.heap a_AT_LEAST "com/example/furlong/furlong/model/Condition$Operator" := Exa.start v_AT_LEAST k35
  have F_AT_LEAST_ordinal : Fld s s.heap a_AT_LEAST "java/lang/Enum" "ordinal" "I" (.int (3 : Int32)) := Fld.start ((fld_at v_AT_LEAST).symm.trans (own_eqI k37))
  obtain ⟨a_BELOW, v_BELOW⟩ := exa_v k39
  have S_BELOW : Sta s s.heap "com/example/furlong/furlong/model/Condition$Operator" "BELOW" "Lcom/example/furlong/furlong/model/Condition$Operator;" (.ref a_BELOW) := Sta.start v_BELOW (Or.inr ⟨(hw _ (List.mem_of_getElem? (i := 1) rfl)), (hw _ (List.mem_of_getElem? (i := 24) rfl))⟩)
  have E_BELOW : Exa s s.heap a_BELOW "com/example/furlong/furlong/model/Condition$Operator" := Exa.start v_BELOW k39
  have F_BELOW_ordinal : Fld s s.heap a_BELOW "java/lang/Enum" "ordinal" "I" (.int (4 : Int32)) := Fld.start ((fld_at v_BELOW).symm.trans (own_eqI k41))
  obtain ⟨a_ABOVE, v_ABOVE⟩ := exa_v k43
  have S_ABOVE : Sta s s.heap "com/example/furlong/furlong/model/Condition$Operator" "ABOVE" "Lcom/example/furlong/furlong/model/Condition$Operator;" (.ref a_ABOVE) := Sta.start v_ABOVE (Or.inr ⟨(hw _ (List.mem_of_getElem? (i := 1) rfl)), (hw _ (List.mem_of_getElem? (i := 26) rfl))⟩)
  have E_ABOVE : Exa s s.heap a_ABOVE "com/example/furlong/furlong/model/Condition$Operator" := Exa.start v_ABOVE k43
  have F_ABOVE_ordinal : Fld s s.heap a_ABOVE "java/lang/Enum" "ordinal" "I" (.int (5 : Int32)) := Fld.start ((fld_at v_ABOVE).symm.trans (own_eqI k44))
  obtain ⟨n, o, h1, h2, h3, _, L, rfl, ⟨rfl, N⟩, hq⟩ := rm_0 l s _ hw tables_1 i0 a_EQUAL a_NOT_EQUAL a_AT_MOST a_AT_LEAST a_BELOW a_ABOVE s.heap s.heap.size (Nat.le_refl _) S_EQUAL S_NOT_EQUAL S_AT_MOST S_AT_LEAST S_BELOW S_ABOVE E_EQUAL E_NOT_EQUAL E_AT_MOST E_AT_LEAST E_BELOW E_ABOVE F_EQUAL_ordinal F_NOT_EQUAL_ordinal F_AT_MOST_ordinal F_AT_LEAST_ordinal F_BELOW_ordinal F_ABOVE_ordinal p e ha hc hk s m _ below hf ((Spec.applies_iff_loose hf).mp happ).1 ⟨rfl, State.Warmed39.refl s, rfl⟩ trivial
  refine ⟨n, _, h1, h2, h3, hpost _ _ _ _ _ _ ⟨Cond.after_iff.mpr rfl, Cond.after_iff.mpr (eq_i res_at (Term.int_eval (1)) rfl), trivial⟩ ⟨hq.1, hq.2.1, (hq.2.2.sift fun y hy => Or.inr (N y hy)).mono (by decide) (by decide)⟩⟩
theorem main_1_1 : Claimed_1_1 := comes_1 fun _ _ _ _ _ _ h hF => ⟨h.1, hF⟩
theorem main_1_2 : Claimed_1_2 := comes_1 fun _ _ _ _ _ _ h hF => ⟨h.2.1, hF⟩
end Jvm.Pilot.@@N@@
namespace Jvm.Pilot.@@N@@
open Jvm Jvm.ClassFile Sem Op Lib Jvm.Free Jvm.Stand Jvm.Pilot.@@N@@.Jvm.D
/-! MADE BY PROGRAM (witnessworld.py) out of the Statement's table words and the real class files: 12 classes; the members and pool entries that the words name. The judged class is class 1, her method 1. -/
namespace start1
open Jvm.ClassFile
def u (s : String) : CpInfo := .utf8 (stringToUtf16 s)
/-- a pool by its gaps: so many unusable entries, then the entry; so many at the end -/
def gap : Nat → List CpInfo → List CpInfo
  | 0, r => r
  | n + 1, r => .unusable :: gap n r
def poolList (es : List (Nat × CpInfo)) (last : Nat) : List CpInfo := es.foldr (fun e r => gap e.1 (e.2 :: r)) (gap last [])
def pool (es : List (Nat × CpInfo)) (last : Nat) : Array CpInfo := ⟨poolList es last⟩
def fileOf (pool : Array CpInfo) (this : Nat) (attrs : Array Attribute := #[]) (ms : Array MethodInfo := #[]) (fl : Nat := 33) (sup : Nat := 0) (ifs : Array Nat := #[]) (fds : Array FieldInfo := #[]) : ClassFile where
  minorVersion := 0
  majorVersion := 65
  constantPool := pool
  accessFlags := fl
  thisClass := this
  superClass := sup
  interfaces := ifs
  fields := fds
  methods := ms
  attributes := attrs
def plain (name : String) (sup : Option ClassId) : Class where
  name := name
  kind := .ordinary
  loader := none
  accessFlags := 33
  super := sup
  interfaces := #[]
  cf := none
  fields := #[]
  methods := #[]
  instanceTypes := #[]
  staticTypes := #[]
  resolved := #[]
  callSites := []
  init := .initialized
  statics := none
  mirror := none

def pool0 : Array CpInfo := pool [(5, u "<init>"), (0, u "()V"), (1, .class_ 10), (1, u "java/lang/Object")] 113

def k0m0 : Method := { name := "<init>", desc := "()V", sig := { parameters := [], returnType := none }, accessFlags := 1, code := none }
/-- java/lang/Object -/
def k0 : Class := { plain "java/lang/Object" none with
  accessFlags := 33
  interfaces := #[]
  cf := some (fileOf pool0 8 #[] #[{ accessFlags := 1, nameIndex := 5, descriptorIndex := 6, attributes := #[] }] 33 0 #[] #[])
  fields := #[]
  methods := #[k0m0]
  instanceTypes := #[]
  staticTypes := #[]
  resolved := Array.replicate 124 none
  statics := none }

def pool1 : Array CpInfo := pool [(2, .class_ 4), (1, u "java/lang/Object"), (0, u "<init>"), (0, u "()V"), (0, .fieldref 8 9), (0, .class_ 10), (0, .nameAndType 11 12), (0, u "com/example/furlong/furlong/model/Condition$Operator"), (0, u "EQUAL"), (0, u "Lcom/example/furlong/furlong/model/Condition$Operator;"), (0, .methodref 8 14), (0, .nameAndType 15 16), (0, u "holds"), (0, u "(I)Z"), (0, .fieldref 8 18), (0, .nameAndType 19 12), (0, u "NOT_EQUAL"), (0, .fieldref 8 21), (0, .nameAndType 22 12), (0, u "AT_MOST"), (0, .fieldref 8 24), (0, .nameAndType 25 12), (0, u "AT_LEAST"), (0, .fieldref 8 27), (0, .nameAndType 28 12), (0, u "BELOW"), (0, .fieldref 8 30), (0, .nameAndType 31 12), (0, u "ABOVE"), (0, .class_ 33), (0, u "com/example/furlong/furlong/model/OperatorHoldsPinLaw"), (2, u "law")] 7

def k1m0 : Method := { name := "<init>", desc := "()V", sig := { parameters := [], returnType := none }, accessFlags := 2, code := none }
def k1c1 : Code := { maxStack := 2, maxLocals := 9, code := code, exceptionTable := #[], attributes := #[] }
def k1m1 : Method := { name := "law", desc := "(I)Z", sig := { parameters := [.int], returnType := some .boolean }, accessFlags := 9, code := some k1c1 }
/-- com/example/furlong/furlong/model/OperatorHoldsPinLaw -/
def k1 : Class := { plain "com/example/furlong/furlong/model/OperatorHoldsPinLaw" (some 0) with
  accessFlags := 49
  interfaces := #[]
  cf := some (fileOf pool1 32 #[] #[{ accessFlags := 2, nameIndex := 5, descriptorIndex := 6, attributes := #[] }, { accessFlags := 9, nameIndex := 36, descriptorIndex := 16, attributes := #[] }] 49 2 #[] #[])
  fields := #[]
  methods := #[k1m0, k1m1]
  instanceTypes := #[]
  staticTypes := #[]
  resolved := Array.replicate 44 none
  statics := none }

def pool2 : Array CpInfo := pool [(1, .class_ 2), (0, u "java/lang/constant/Constable"), (0, .class_ 4), (0, u "java/lang/Object")] 6

/-- java/lang/constant/Constable -/
def k2 : Class := { plain "java/lang/constant/Constable" (some 0) with
  accessFlags := 1537
  interfaces := #[]
  cf := some (fileOf pool2 1 #[] #[] 1537 3 #[] #[])
  fields := #[]
  methods := #[]
  instanceTypes := #[]
  staticTypes := #[]
  resolved := Array.replicate 11 none
  statics := none }

def pool3 : Array CpInfo := pool [(1, .class_ 2), (0, u "java/lang/Comparable"), (0, .class_ 4), (0, u "java/lang/Object")] 7

/-- java/lang/Comparable -/
def k3 : Class := { plain "java/lang/Comparable" (some 0) with
  accessFlags := 1537
  interfaces := #[]
  cf := some (fileOf pool3 1 #[] #[] 1537 3 #[] #[])
  fields := #[]
  methods := #[]
  instanceTypes := #[]
  staticTypes := #[]
  resolved := Array.replicate 12 none
  statics := none }

def pool4 : Array CpInfo := pool [(1, .class_ 2), (0, u "java/io/Serializable"), (0, .class_ 4), (0, u "java/lang/Object")] 2

/-- java/io/Serializable -/
def k4 : Class := { plain "java/io/Serializable" (some 0) with
  accessFlags := 1537
  interfaces := #[]
  cf := some (fileOf pool4 1 #[] #[] 1537 3 #[] #[])
  fields := #[]
  methods := #[]
  instanceTypes := #[]
  staticTypes := #[]
  resolved := Array.replicate 7 none
  statics := none }

def pool5 : Array CpInfo := pool [(2, .class_ 4), (1, u "java/lang/Enum"), (0, u "name"), (0, u "Ljava/lang/String;"), (0, .fieldref 2 8), (0, .nameAndType 9 10), (0, u "ordinal"), (0, u "I"), (1, .class_ 14), (1, u "java/lang/Object"), (4, u "hash"), (86, .class_ 108), (1, u "java/lang/Enum$EnumDesc"), (2, .class_ 112), (0, u "java/lang/constant/Constable"), (0, .class_ 114), (0, u "java/lang/Comparable"), (0, .class_ 116), (0, u "java/io/Serializable"), (9, u "()I")] 77

def k5c0 : Code := { maxStack := 1, maxLocals := 1, code := jdk_37_method_2_code, exceptionTable := #[], attributes := #[] }
def k5m0 : Method := { name := "ordinal", desc := "()I", sig := { parameters := [], returnType := some .int }, accessFlags := 17, code := some k5c0 }
/-- java/lang/Enum -/
def k5 : Class := { plain "java/lang/Enum" (some 0) with
  accessFlags := 1057
  interfaces := #[2, 3, 4]
  cf := some (fileOf pool5 2 #[.nestMembers #[106]] #[{ accessFlags := 17, nameIndex := 9, descriptorIndex := 126, attributes := #[] }] 1057 12 #[111, 113, 115] #[{ accessFlags := 18, nameIndex := 5, descriptorIndex := 6, attributes := #[] }, { accessFlags := 18, nameIndex := 9, descriptorIndex := 10, attributes := #[] }, { accessFlags := 2, nameIndex := 19, descriptorIndex := 10, attributes := #[] }])
  fields := #[{ name := "name", type := (.object "java/lang/String"), accessFlags := 18, slot := 0, constantValue := 0 }, { name := "ordinal", type := .int, accessFlags := 18, slot := 1, constantValue := 0 }, { name := "hash", type := .int, accessFlags := 2, slot := 2, constantValue := 0 }]
  methods := #[k5m0]
  instanceTypes := #[(.object "java/lang/String"), .int, .int]
  staticTypes := #[]
  resolved := Array.replicate 204 none
  statics := none }

def pool6 : Array CpInfo := pool [(1, .class_ 2), (0, u "com/example/furlong/furlong/model/Condition$Operator"), (2, u "EQUAL"), (0, u "Lcom/example/furlong/furlong/model/Condition$Operator;"), (2, u "NOT_EQUAL"), (2, u "AT_MOST"), (2, u "AT_LEAST"), (2, u "BELOW"), (2, u "ABOVE"), (2, u "$VALUES"), (0, u "[Lcom/example/furlong/furlong/model/Condition$Operator;"), (6, .class_ 34), (1, u "java/lang/Enum"), (8, u "symbol"), (0, u "Ljava/lang/String;"), (0, .methodref 1 46), (0, .nameAndType 47 48), (0, u "ordinal"), (0, u "()I"), (36, u "holds"), (0, u "(I)Z"), (6, .class_ 94), (0, u "com/example/furlong/furlong/model/Condition")] 2

def k6c0 : Code := { maxStack := 1, maxLocals := 3, code := prog_31_method_6_code, exceptionTable := #[], attributes := #[] }
def k6m0 : Method := { name := "holds", desc := "(I)Z", sig := { parameters := [.int], returnType := some .boolean }, accessFlags := 0, code := some k6c0 }
/-- com/example/furlong/furlong/model/Condition$Operator -/
def k6 : Class := { plain "com/example/furlong/furlong/model/Condition$Operator" (some 5) with
  accessFlags := 16433
  interfaces := #[]
  cf := some (fileOf pool6 1 #[.nestHost 93] #[{ accessFlags := 0, nameIndex := 85, descriptorIndex := 86, attributes := #[] }] 16433 32 #[] #[{ accessFlags := 16409, nameIndex := 5, descriptorIndex := 6, attributes := #[] }, { accessFlags := 16409, nameIndex := 9, descriptorIndex := 6, attributes := #[] }, { accessFlags := 16409, nameIndex := 12, descriptorIndex := 6, attributes := #[] }, { accessFlags := 16409, nameIndex := 15, descriptorIndex := 6, attributes := #[] }, { accessFlags := 16409, nameIndex := 18, descriptorIndex := 6, attributes := #[] }, { accessFlags := 16409, nameIndex := 21, descriptorIndex := 6, attributes := #[] }, { accessFlags := 18, nameIndex := 43, descriptorIndex := 44, attributes := #[] }, { accessFlags := 4122, nameIndex := 24, descriptorIndex := 25, attributes := #[] }])
  fields := #[{ name := "EQUAL", type := (.object "com/example/furlong/furlong/model/Condition$Operator"), accessFlags := 16409, slot := 0, constantValue := 0 }, { name := "NOT_EQUAL", type := (.object "com/example/furlong/furlong/model/Condition$Operator"), accessFlags := 16409, slot := 1, constantValue := 0 }, { name := "AT_MOST", type := (.object "com/example/furlong/furlong/model/Condition$Operator"), accessFlags := 16409, slot := 2, constantValue := 0 }, { name := "AT_LEAST", type := (.object "com/example/furlong/furlong/model/Condition$Operator"), accessFlags := 16409, slot := 3, constantValue := 0 }, { name := "BELOW", type := (.object "com/example/furlong/furlong/model/Condition$Operator"), accessFlags := 16409, slot := 4, constantValue := 0 }, { name := "ABOVE", type := (.object "com/example/furlong/furlong/model/Condition$Operator"), accessFlags := 16409, slot := 5, constantValue := 0 }, { name := "symbol", type := (.object "java/lang/String"), accessFlags := 18, slot := 3, constantValue := 0 }, { name := "$VALUES", type := (.array (.object "com/example/furlong/furlong/model/Condition$Operator")), accessFlags := 4122, slot := 6, constantValue := 0 }]
  methods := #[k6m0]
  instanceTypes := #[(.object "java/lang/String"), .int, .int, (.object "java/lang/String")]
  staticTypes := #[(.object "com/example/furlong/furlong/model/Condition$Operator"), (.object "com/example/furlong/furlong/model/Condition$Operator"), (.object "com/example/furlong/furlong/model/Condition$Operator"), (.object "com/example/furlong/furlong/model/Condition$Operator"), (.object "com/example/furlong/furlong/model/Condition$Operator"), (.object "com/example/furlong/furlong/model/Condition$Operator"), (.array (.object "com/example/furlong/furlong/model/Condition$Operator"))]
  resolved := Array.replicate 97 none
  statics := some 0 }

def pool7 : Array CpInfo := pool [(1, u "java/lang/Cloneable"), (0, .class_ 1), (0, u "java/lang/Object"), (0, .class_ 3)] 3

/-- java/lang/Cloneable -/
def k7 : Class := { plain "java/lang/Cloneable" (some 0) with
  accessFlags := 1537
  interfaces := #[]
  cf := some (fileOf pool7 2 #[] #[] 1537 4 #[] #[])
  fields := #[]
  methods := #[]
  instanceTypes := #[]
  staticTypes := #[]
  resolved := Array.replicate 8 none
  statics := none }

/-- the primitive byte -/
def k8 : Class := { plain "byte" none with kind := .primitive 'B', accessFlags := 0x411 }
/-- [B -/
def k9 : Class := { plain "[B" (some 0) with kind := .array 8 .byte, interfaces := #[7, 4], accessFlags := 1041 }

/-- the primitive int -/
def k10 : Class := { plain "int" none with kind := .primitive 'I', accessFlags := 0x411 }
/-- [I -/
def k11 : Class := { plain "[I" (some 0) with kind := .array 10 .int, interfaces := #[7, 4], accessFlags := 1041 }

def heap : Heap := #[{ cls := 6, slots := #[.ref 1, .ref 2, .ref 3, .ref 4, .ref 5, .ref 6, .null], vm := .statics 6 },
  { cls := 6, slots := #[.null, .int 0, .int 0, .null], vm := .none },
  { cls := 6, slots := #[.null, .int 1, .int 0, .null], vm := .none },
  { cls := 6, slots := #[.null, .int 2, .int 0, .null], vm := .none },
  { cls := 6, slots := #[.null, .int 3, .int 0, .null], vm := .none },
  { cls := 6, slots := #[.null, .int 4, .int 0, .null], vm := .none },
  { cls := 6, slots := #[.null, .int 5, .int 0, .null], vm := .none }]
def classes : Array Class := #[k0, k1, k2, k3, k4, k5, k6, k7, k8, k9, k10, k11]
def interned : List (Array UInt16 × Addr) := []
def slotsUsed : Nat := 31
def theMethod : MethodId := ⟨1, 1⟩
def args0 : Array Value := #[.int 5]
def aboutOver (below : List Frame) : State where
  vm := { classes := classes, interned := interned.toArray }
  heap := heap
  slotsUsed := slotsUsed
  threads := #[{ frames := .invoking theMethod args0 :: below }]
def below0 : List Frame := [.native { method := ⟨0, 0⟩, args := #[] }]
def about1 : State := aboutOver below0
def p0 : Program := .bare "" "" ""
def e0 : Env := launch0.env 0 0 0
theorem w_frames : about1.frames = Frame.invoking theMethod args0 :: below0 := rfl
set_option maxRecDepth 65536 in
theorem w_args : argsFit about1.vm theMethod args0 = true := by decide +kernel
set_option maxRecDepth 65536 in
theorem w_heap : heapFits about1 = true := by decide +kernel
set_option maxRecDepth 65536 in
theorem w_runnable : about1.curStatus? = some .runnable := by decide +kernel
set_option maxRecDepth 65536 in
theorem w_alone : about1.alone = true := by decide +kernel
set_option maxRecDepth 65536 in
theorem w_named : about1.methodNamed? x = some theMethod := by decide +kernel
set_option maxRecDepth 65536 in
theorem w_hears : about1.hears theMethod below0 = true := by decide +kernel
set_option maxRecDepth 65536 in
theorem w_ripe : about1.ripe theMethod args0 below0 = true := by decide +kernel
theorem w_running : about1.status = .running := rfl
set_option maxRecDepth 65536 in
theorem w_room : about1.hasRoom e0.platform room_1 = true :=
  launch0.hasRoom_least _ room_1 (by decide +kernel) (by decide +kernel) (by decide +kernel) (by decide +kernel) (by decide +kernel) (by decide +kernel)
theorem allAtoms_all (ts : List Jvm.Cond) (a : Array Jvm.Value) (st : Jvm.State) : (allAtoms ts).before a st = ts.all (fun c => c.before a st) := by
  induction ts with
  | nil => rfl
  | cons c t ih =>
    show (Jvm.Cond.and c (allAtoms t)).before a st = _
    rw [Jvm.Cond.before_and, ih, List.all_cons]
def words1 : List Jvm.Cond := Jvm.Cond.code x code maxLocals ret :: tables_1
/-- a 'code' word, met by the world's own term for the bytes: nothing is compared byte by byte -/
theorem code_word {y : MethodName} {bytes : ByteArray} {mx : Nat} {rt : Option FieldType} {a : Array Value} {s : State} {m : MethodId} {meth : Method} {c : Code} (h1 : s.methodNamed? y = some m) (h2 : s.vm.method? m = some meth) (h3 : meth.code = some c) (h4 : c.code = bytes)
    (h5 : (c.maxLocals == mx && c.exceptionTable.isEmpty && decide (c.maxStack ≤ mostOperands) && decide (meth.sig.returnType = rt) && !meth.locks && decide (parseMethodDescriptor y.desc = some meth.sig)) = true) : (Jvm.Cond.code y bytes mx rt).before a s = true := by
  simp only [Bool.and_eq_true, beq_iff_eq, Bool.not_eq_true', decide_eq_true_eq] at h5
  obtain ⟨⟨⟨⟨⟨g1, g2⟩, g3⟩, g4⟩, g5⟩, g6⟩ := h5
  simp [Cond.before, Cond.holds, Cond.value, h1, h2, h3, h4, g1, g2, g3, g4, g5, g6]
def isCode : Jvm.Cond → Bool
  | .code _ _ _ _ => true
  | _ => false
theorem all_split {L : List Jvm.Cond} {P : Jvm.Cond → Bool} (h1 : L.all (fun c => isCode c || P c) = true) (h2 : ∀ c ∈ L.filter isCode, P c = true) : L.all P = true := by
  refine List.all_eq_true.mpr fun c hc => ?_
  have h := List.all_eq_true.mp h1 c hc
  rcases Bool.eq_false_or_eq_true (isCode c) with hi | hi
  · exact h2 c (List.mem_filter.mpr ⟨hc, hi⟩)
  · simpa [hi] using h
set_option maxRecDepth 65536 in
theorem w_c0 : (Jvm.Cond.code x code maxLocals ret).before args0 about1 = true := code_word (m := ⟨1, 1⟩) (meth := k1m1) (c := k1c1) (by decide +kernel) rfl rfl rfl (by decide +kernel)
set_option maxRecDepth 65536 in
theorem w_c1 : (Jvm.Cond.code ({ cls := "com/example/furlong/furlong/model/Condition$Operator", name := "holds", desc := "(I)Z" } : Jvm.MethodName) prog_31_method_6_code (3 : Nat) (Option.some Jvm.ClassFile.FieldType.boolean)).before args0 about1 = true := code_word (m := ⟨6, 0⟩) (meth := k6m0) (c := k6c0) (by decide +kernel) rfl rfl rfl (by decide +kernel)
set_option maxRecDepth 65536 in
theorem w_c2 : (Jvm.Cond.code ({ cls := "java/lang/Enum", name := "ordinal", desc := "()I" } : Jvm.MethodName) jdk_37_method_2_code (1 : Nat) (Option.some Jvm.ClassFile.FieldType.int)).before args0 about1 = true := code_word (m := ⟨5, 0⟩) (meth := k5m0) (c := k5c0) (by decide +kernel) rfl rfl rfl (by decide +kernel)
def codes1 : List Jvm.Cond := [Jvm.Cond.code x code maxLocals ret, Jvm.Cond.code ({ cls := "com/example/furlong/furlong/model/Condition$Operator", name := "holds", desc := "(I)Z" } : Jvm.MethodName) prog_31_method_6_code (3 : Nat) (Option.some Jvm.ClassFile.FieldType.boolean), Jvm.Cond.code ({ cls := "java/lang/Enum", name := "ordinal", desc := "()I" } : Jvm.MethodName) jdk_37_method_2_code (1 : Nat) (Option.some Jvm.ClassFile.FieldType.int)]
set_option maxRecDepth 65536 in
theorem codes_eq : words1.filter isCode = codes1 := rfl
theorem w_codes : ∀ c ∈ words1.filter isCode, c.before args0 about1 = true := by
  rw [codes_eq]
  intro c hc
  simp only [codes1, List.mem_cons, List.not_mem_nil, or_false] at hc
  rcases hc with rfl | rfl | rfl
  · exact w_c0
  · exact w_c1
  · exact w_c2
set_option maxRecDepth 65536 in
theorem w_t1 : (words1.take 24).all (fun c => isCode c || c.before args0 about1) = true := by decide +kernel
set_option maxRecDepth 65536 in
theorem w_t2 : (words1.drop 24).all (fun c => isCode c || c.before args0 about1) = true := by decide +kernel
theorem w_tables : (allAtoms (Jvm.Cond.code x code maxLocals ret :: tables_1)).before args0 about1 = true := by
  rw [allAtoms_all]
  show words1.all (fun c => c.before args0 about1) = true
  refine all_split ?_ w_codes
  rw [← List.take_append_drop 24 words1, List.all_append, w_t1, w_t2]
  rfl
set_option maxRecDepth 65536 in
theorem w_case : (Jvm.Cond.and given_1 narrow_1).before args0 about1 = true := by decide +kernel
theorem w_applies : (headSpec (Jvm.Cond.code x code maxLocals ret :: tables_1) room_1).applies x e0.platform about1 = true :=
  (Spec.applies_iff w_frames).mpr ⟨w_running, w_runnable, w_alone, w_named, w_hears, w_ripe, w_room, w_tables⟩
theorem atStart : AtStart classFile x code maxLocals ret World_1 tables_1 room_1 Calls_1 rest_1 Pre_1 launch0 p0 e0 about1 theMethod args0 below0 :=
  ⟨lists_1, trivial, launch0.admits_env _ _ _, launch0.least_env, fairChoices_fair.cas, fairChoices_fair.clock, w_frames, w_args, w_heap, w_applies, trivial, trivial, w_case⟩
end start1
theorem witness_1 : WitnessClaimed_1 := ⟨start1.p0, start1.e0, start1.about1, start1.theMethod, start1.args0, start1.below0, start1.atStart⟩
end Jvm.Pilot.@@N@@
