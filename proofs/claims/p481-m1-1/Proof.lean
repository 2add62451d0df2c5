import JvmDerived
import JvmDerived.Pilot.@@N@@Statement
import JvmDerived.Pilot.@@N@@Code
set_option linter.unusedVariables false
set_option linter.unusedSimpArgs false
namespace Jvm.RoadKit
open Sem ClassFile Op Lib Jvm.Stand Jvm.Free Jvm.LawKit
section New
variable {p : Program} {l : Launch} {e : Env} {R : Room} {s : State} {m : MethodId} {args : Array Value} {below : List Frame} {meth : Method} {c : Code} {T : State} {locs : List Loc} {cells slots : Nat}
theorem retI (X : Stand p l e R s m args below meth c T locs cells slots) (hx : p.tables.exec = Jvm.exec) {pc : Nat} {Ls : Array Slot} {z : Int32} {rest : List Value} (hret : meth.sig.returnType = some .int) (hd : decode c.code pc = .ok (.ireturn, 1)) {fs : List Frame}
    (hl : ∀ (f : JFrame) (acts : List Action), f.method = m → f.locked = none → f.entered = [] → (doReturn e (T.setTop f) acts (some (.int z))).1 = T.setFrames fs) : Steps p.tables e below (T.setTop (mkF m pc Ls (.int z :: rest))) (T.setFrames fs) := by
  have hm' : T.vm.method? m = some meth := X.method'
  have hn : narrow .int (.int z) = .int z := rfl
  show Steps p.tables e below (T.setTop { method := m, pc := pc, locals := Ls, stack := _ :: rest, locked := none }) _
  jvm_step X.here [X.here.top, hx, hd, hm', hret, hn]
  first | (intro acts; rw [hl _ acts rfl rfl rfl]) | rw [hl _ _ rfl rfl rfl]
  exact Steps.refl _
end New
end Jvm.RoadKit
namespace Jvm.Pilot.@@N@@
open Jvm Jvm.ClassFile Sem Op Lib Jvm.Free Jvm.Stand Jvm.LawKit Jvm.RoadKit Bundle Jvm.Pilot.@@N@@.Jvm.D

theorem own_eqI {args : Array Value} {first s : State} {o : Option Outcome} {idx : List Nat} {a : Term} {k : Int32} (h : (Jvm.Cond.eq a (.int k)).value args first o s idx = some true) : a.eval args first o idx s = some (.int k) := by
  simp only [Cond.value, Term.eval] at h
  cases ha : a.eval args first o idx s with
  | none => simp [ha] at h
  | some x => cases x <;> simp [ha] at h ⊢; exact h

def own_holds (o s : Int32) : Int32 := if o = (0 : Int32) then (if s = (0 : Int32) then (1 : Int32) else (0 : Int32)) else if o = (1 : Int32) then (if s = (0 : Int32) then (0 : Int32) else (1 : Int32)) else if o = (2 : Int32) then (if (0 : Int32) < s then (0 : Int32) else (1 : Int32)) else if o = (3 : Int32) then (if s < (0 : Int32) then (0 : Int32) else (1 : Int32)) else if o = (4 : Int32) then (if s < (0 : Int32) then (1 : Int32) else (0 : Int32)) else (if (0 : Int32) < s then (1 : Int32) else (0 : Int32))
theorem own_out (x : Int32) (h0 : ¬ x = 0) (h1 : ¬ x = 1) (h2 : ¬ x = 2) (h3 : ¬ x = 3) (h4 : ¬ x = 4) : x.toInt < 0 ∨ x.toInt > 4 := by
  simp only [← Int32.toInt_inj, Int32.reduceToInt] at *
  omega
theorem own_tri (x : Int32) : (x < 0 ∧ ¬ x = 0 ∧ ¬ 0 < x) ∨ (x = 0 ∧ ¬ x < 0 ∧ ¬ 0 < x) ∨ (0 < x ∧ ¬ x < 0 ∧ ¬ x = 0) := by
  simp only [Int32.lt_iff_toInt_lt, ← Int32.toInt_inj, Int32.reduceToInt]
  omega

theorem own_len {args : Array Value} {first s : State} {o : Option Outcome} {idx : List Nat} {t : Term} {a : Addr} {cl : Cell} {k : Int32} (h : (Term.length t).eval args first o idx s = some (.int k)) (ht : t.eval args first o idx s = some (.ref a)) (A : s.arrayAt? a = some cl) : cl.slots.size < 2 ^ 31 ∧ cl.slots.size.toInt32 = k := by
  simp [Term.eval, ht, A] at h
  exact h

theorem own_neg (x : Int32) : ((-1 : Int32) - (x &&& (2147483647 : Int32))) < 0 := by
  have a := c_mask x 2147483647 31 (by decide) (by decide)
  have b := c_isub (-1) (x &&& 2147483647)
  have r := rng32 ((-1 : Int32) - (x &&& 2147483647))
  simp only [Int32.lt_iff_toInt_lt, Int32.reduceToInt, show (-1 : Int32).toInt = -1 from by decide] at *
  omega
theorem own_pos (y : Int32) : 0 < (if (1 : Int32) < y then y else (1 : Int32)) := by
  split
  · rename_i h
    simp only [Int32.lt_iff_toInt_lt, Int32.reduceToInt] at *
    omega
  · decide
theorem d1_0 : decode jdk_29_method_65_code 0 = .ok (.iload_n 0, 1) := by decide +kernel
theorem d1_1 : decode jdk_29_method_65_code 1 = .ok (.iload_n 1, 1) := by decide +kernel
theorem d1_2 : decode jdk_29_method_65_code 2 = .ok (.if_icmp .lt 7, 3) := by decide +kernel
theorem d1_5 : decode jdk_29_method_65_code 5 = .ok (.iload_n 0, 1) := by decide +kernel
theorem d1_6 : decode jdk_29_method_65_code 6 = .ok (.goto 4, 3) := by decide +kernel
theorem d1_9 : decode jdk_29_method_65_code 9 = .ok (.iload_n 1, 1) := by decide +kernel
theorem d1_10 : decode jdk_29_method_65_code 10 = .ok (.ireturn, 1) := by decide +kernel
theorem ef_1 (m : MethodId) (x0 : Int32) (x1 : Int32) : entryFrame m #[(.int x0), (.int x1)] 2 = mkF m 0 #[.val (.int x0), .val (.int x1)] [] := by first | (simp [entryFrame, mkF, argsToLocals, Value.category]; done) | rfl
def Q_1 (Z : State) (p1 : Int32) (p2 : Int32) (h0 : Heap) (n0 : Nat) (v : Option Value) (h : Heap) (L : List Loc) : Prop := v = some (.int (if p1 < p2 then p2 else p1)) ∧ Fr n0 L ∧ h = h0
set_option maxRecDepth 65536 in
set_option maxHeartbeats 40000000 in
theorem rm_1 (l : Launch) (Z : State) (a0 : Array Value) (hw : ∀ d ∈ tables_1, d.before a0 Z = true) (ws : List Jvm.Cond) (p1 : Int32) (p2 : Int32) (h0 : Heap) (n0 : Nat) (Z0 : n0 ≤ h0.size) :
    MetFree l (⟨"java/lang/Math", "max", "(II)I"⟩ : MethodName) (head1 (Jvm.Cond.code (⟨"java/lang/Math", "max", "(II)I"⟩ : MethodName) jdk_29_method_65_code 2 (some .int) :: ws) ({ frames := 0, cells := 0, slots := 0, locals := 0 } : Room)) (fun a U => a = #[(.int p1), (.int p2)] ∧ Z.Warmed39 U.vm ∧ U.heap = h0) (fun _ _ _ _ _ => True) (fun _ U o U' => ∃ v L, o = .returned v ∧ Q_1 Z p1 p2 h0 n0 v U'.heap L ∧ FrameEnd U o U' L ({ frames := 0, cells := 0, slots := 0, locals := 0 } : Room).cells ({ frames := 0, cells := 0, slots := 0, locals := 0 } : Room).slots) := by
  refine MetFree.of_bodySF (Jvm.Free.JP.mathPlain rfl (by decide +kernel)) hisR ?_
  intro p e s m args below meth cod_ s₁ Bd hml0 hP hK
  obtain ⟨rfl, hZ, hh⟩ := hP
  have hx := Bd.exec
  have hby := Bd.bytes
  have hml : cod_.maxLocals = 2 := hml0
  have hown : s.vm.findClass "java/lang/Math" = some m.cls := findClass_of_methodNamed Bd.named
  have hnm := (name_of_methodNamed Bd.named Bd.method).1
  have X0 : Stand p l e ({ frames := 0, cells := 0, slots := 0, locals := 0 } : Room) s m #[(.int p1), (.int p2)] below meth cod_ s₁ [] 0 0 := Stand.of_body Bd
  have e0 : s₁.heap = h0 := by rw [← hh, Bd.state]; rfl
  have N0 := Fr.nil n0
  have pre0 : ∀ t, Steps p.tables e below (s₁.setTop (mkF m 0 #[.val (.int p1), .val (.int p2)] [])) t → Steps p.tables e below (s₁.setTop (entryFrame m #[(.int p1), (.int p2)] 2)) t := fun t k => castTop (ef_1 m p1 p2) k
  by_cases hc2 : p1 < p2
  · obtain ⟨fs, hr, hrun, hended, hW, hsame⟩ := X0.leave (v := some (.int p2)) (fun h => by rw [Bd.returns] at h; cases h)
    refine ⟨_, _, pre0 _ ?_, hrun, hended, _, _, rfl, ?_, ⟨_, rfl⟩, hW, hsame.mono (by decide) (by decide)⟩
    · show Steps p.tables e below (s₁.setTop (mkF m 0 #[.val (.int p1), .val (.int p2)] [])) _
      refine XS.iloadN X0.here hx rfl (hb hby d1_0) rfl ?_
      show Steps p.tables e below (s₁.setTop (mkF m 1 #[.val (.int p1), .val (.int p2)] [(.int p1)])) _
      refine XS.iloadN X0.here hx rfl (hb hby d1_1) rfl ?_
      show Steps p.tables e below (s₁.setTop (mkF m 2 #[.val (.int p1), .val (.int p2)] [(.int p2), (.int p1)])) _
      refine XS.icmpYes X0.here hx rfl (pc0 := 2) (pc' := 9) rfl (hb hby d1_2) rfl (tlt hc2).1 (by decide) (by decide) ?_
      show Steps p.tables e below (s₁.setTop (mkF m 9 #[.val (.int p1), .val (.int p2)] [])) _
      refine XS.iloadN X0.here hx rfl (hb hby d1_9) rfl ?_
      show Steps p.tables e below (s₁.setTop (mkF m 10 #[.val (.int p1), .val (.int p2)] [(.int p2)])) _
      exact retI X0 hx Bd.returns (hb hby d1_10) hr
    · show Q_1 Z p1 p2 h0 n0 _ s₁.heap _
      rw [e0]
      exact ⟨by simp [hc2], N0, rfl⟩
  · obtain ⟨fs, hr, hrun, hended, hW, hsame⟩ := X0.leave (v := some (.int p1)) (fun h => by rw [Bd.returns] at h; cases h)
    refine ⟨_, _, pre0 _ ?_, hrun, hended, _, _, rfl, ?_, ⟨_, rfl⟩, hW, hsame.mono (by decide) (by decide)⟩
    · show Steps p.tables e below (s₁.setTop (mkF m 0 #[.val (.int p1), .val (.int p2)] [])) _
      refine XS.iloadN X0.here hx rfl (hb hby d1_0) rfl ?_
      show Steps p.tables e below (s₁.setTop (mkF m 1 #[.val (.int p1), .val (.int p2)] [(.int p1)])) _
      refine XS.iloadN X0.here hx rfl (hb hby d1_1) rfl ?_
      show Steps p.tables e below (s₁.setTop (mkF m 2 #[.val (.int p1), .val (.int p2)] [(.int p2), (.int p1)])) _
      refine XS.icmpNo X0.here hx rfl (hb hby d1_2) rfl (flt hc2).1 ?_
      show Steps p.tables e below (s₁.setTop (mkF m 5 #[.val (.int p1), .val (.int p2)] [])) _
      refine XS.iloadN X0.here hx rfl (hb hby d1_5) rfl ?_
      show Steps p.tables e below (s₁.setTop (mkF m 6 #[.val (.int p1), .val (.int p2)] [(.int p1)])) _
      refine XS.goto X0.here hx rfl (pc0 := 6) (pc' := 10) rfl (hb hby d1_6) (by decide) (by decide) ?_
      show Steps p.tables e below (s₁.setTop (mkF m 10 #[.val (.int p1), .val (.int p2)] [(.int p1)])) _
      exact retI X0 hx Bd.returns (hb hby d1_10) hr
    · show Q_1 Z p1 p2 h0 n0 _ s₁.heap _
      rw [e0]
      exact ⟨by simp [hc2], N0, rfl⟩
theorem d2_0 : decode prog_31_method_5_code 0 = .ok (.aload_n 0, 1) := by decide +kernel
theorem d2_1 : decode prog_31_method_5_code 1 = .ok (.getstatic 3, 3) := by decide +kernel
theorem d2_4 : decode prog_31_method_5_code 4 = .ok (.if_acmp .eq 14, 3) := by decide +kernel
theorem d2_7 : decode prog_31_method_5_code 7 = .ok (.aload_n 0, 1) := by decide +kernel
theorem d2_8 : decode prog_31_method_5_code 8 = .ok (.getstatic 7, 3) := by decide +kernel
theorem d2_11 : decode prog_31_method_5_code 11 = .ok (.if_acmp .eq 7, 3) := by decide +kernel
theorem d2_14 : decode prog_31_method_5_code 14 = .ok (.iconst 1, 1) := by decide +kernel
theorem d2_15 : decode prog_31_method_5_code 15 = .ok (.goto 4, 3) := by decide +kernel
theorem d2_18 : decode prog_31_method_5_code 18 = .ok (.iconst 0, 1) := by decide +kernel
theorem d2_19 : decode prog_31_method_5_code 19 = .ok (.ireturn, 1) := by decide +kernel
theorem pn_2 : plainName "com/example/furlong/furlong/model/Condition$Operator" = true := by first | (simp [plainName, overriddenIn]; done) | decide +kernel
theorem ef_2 (m : MethodId) (x0 : Addr) : entryFrame m #[(.ref x0)] 1 = mkF m 0 #[.val (.ref x0)] [] := by first | (simp [entryFrame, mkF, argsToLocals, Value.category]; done) | rfl
def Q_2 (Z : State) (a1 : Addr) (aE aN : Addr) (h0 : Heap) (n0 : Nat) (v : Option Value) (h : Heap) (L : List Loc) : Prop := v = some (.int (if a1 = aE then (0 : Int32) else if a1 = aN then (0 : Int32) else (1 : Int32))) ∧ Fr n0 L ∧ h = h0
set_option maxRecDepth 65536 in
set_option maxHeartbeats 40000000 in
theorem rm_2 (l : Launch) (Z : State) (a0 : Array Value) (hw : ∀ d ∈ tables_1, d.before a0 Z = true) (ws : List Jvm.Cond) (a1 : Addr) (aE aN : Addr) (h0 : Heap) (n0 : Nat) (Z0 : n0 ≤ h0.size) (S_EQUAL : Sta Z h0 "com/example/furlong/furlong/model/Condition$Operator" "EQUAL" "Lcom/example/furlong/furlong/model/Condition$Operator;" (.ref aE)) (S_NOT_EQUAL : Sta Z h0 "com/example/furlong/furlong/model/Condition$Operator" "NOT_EQUAL" "Lcom/example/furlong/furlong/model/Condition$Operator;" (.ref aN)) :
    MetFree l (⟨"com/example/furlong/furlong/model/Condition$Operator", "isOrder", "()Z"⟩ : MethodName) (head1 (Jvm.Cond.code (⟨"com/example/furlong/furlong/model/Condition$Operator", "isOrder", "()Z"⟩ : MethodName) prog_31_method_5_code 1 (some .boolean) :: ws) ({ frames := 0, cells := 0, slots := 0, locals := 0 } : Room)) (fun a U => a = #[(.ref a1)] ∧ Z.Warmed39 U.vm ∧ U.heap = h0) (fun _ _ _ _ _ => True) (fun _ U o U' => ∃ v L, o = .returned v ∧ Q_2 Z a1 aE aN h0 n0 v U'.heap L ∧ FrameEnd U o U' L ({ frames := 0, cells := 0, slots := 0, locals := 0 } : Room).cells ({ frames := 0, cells := 0, slots := 0, locals := 0 } : Room).slots) := by
  refine MetFree.of_bodySF (plainFor_of_name pn_2) hisR ?_
  intro p e s m args below meth cod_ s₁ Bd hml0 hP hK
  obtain ⟨rfl, hZ, hh⟩ := hP
  have hx := Bd.exec
  have hby := Bd.bytes
  have hml : cod_.maxLocals = 1 := hml0
  have hown : s.vm.findClass "com/example/furlong/furlong/model/Condition$Operator" = some m.cls := findClass_of_methodNamed Bd.named
  have hnm := (name_of_methodNamed Bd.named Bd.method).1
  have X0 : Stand p l e ({ frames := 0, cells := 0, slots := 0, locals := 0 } : Room) s m #[(.ref a1)] below meth cod_ s₁ [] 0 0 := Stand.of_body Bd
  have e0 : s₁.heap = h0 := by rw [← hh, Bd.state]; rfl
  have N0 := Fr.nil n0
  have pre0 : ∀ t, Steps p.tables e below (s₁.setTop (mkF m 0 #[.val (.ref a1)] [])) t → Steps p.tables e below (s₁.setTop (entryFrame m #[(.ref a1)] 1)) t := fun t k => castTop (ef_2 m a1) k
  obtain ⟨T1, X1, e1, st1⟩ := getS2 X0 hx hZ hown (host := "") (Or.inl (hw _ (List.mem_of_getElem? (i := 13) rfl))) Via.refl e0 S_EQUAL (g := (mkF m 1 #[.val (.ref a1)] [(.ref a1)])) rfl (hb hby d2_1)
  by_cases hc4 : a1 = aE
  · obtain ⟨fs, hr, hrun, hended, hW, hsame⟩ := X1.leave (v := some (.int (0 : Int32))) (fun h => by rw [Bd.returns] at h; cases h)
    refine ⟨_, _, pre0 _ ?_, hrun, hended, _, _, rfl, ?_, ⟨_, rfl⟩, hW, hsame.mono (by decide) (by decide)⟩
    · show Steps p.tables e below (s₁.setTop (mkF m 0 #[.val (.ref a1)] [])) _
      refine XS.aloadN X0.here hx rfl (hb hby d2_0) rfl rfl ?_
      show Steps p.tables e below (s₁.setTop (mkF m 1 #[.val (.ref a1)] [(.ref a1)])) _
      refine st1 _ ?_
      show Steps p.tables e below (T1.setTop (mkF m 4 #[.val (.ref a1)] [(.ref aE), (.ref a1)])) _
      refine Jvm.RoadKit.acmp (g := (mkF m 4 #[.val (.ref a1)] [(.ref aE), (.ref a1)])) X1 hx rfl rfl rfl (pc0 := 4) (pc' := 18) (same := true) rfl (hb hby d2_4) rfl (decide_eq_true (congrArg Value.ref hc4)) (by decide) (by decide) ?_
      show Steps p.tables e below (T1.setTop (mkF m 18 #[.val (.ref a1)] [])) _
      refine XS.iconst X1.here hx rfl (hb hby d2_18) ?_
      show Steps p.tables e below (T1.setTop (mkF m 19 #[.val (.ref a1)] [(.int (0 : Int32))])) _
      exact retN X1 hx (t := .boolean) Bd.returns (by simp) (hb hby d2_19) hr
    · show Q_2 Z a1 aE aN h0 n0 _ T1.heap _
      rw [e1]
      exact ⟨by simp [hc4], N0, rfl⟩
  · obtain ⟨T2, X2, e2, st2⟩ := getS2 X1 hx hZ hown (host := "") (Or.inl (hw _ (List.mem_of_getElem? (i := 65) rfl))) Via.refl e1 S_NOT_EQUAL (g := (mkF m 8 #[.val (.ref a1)] [(.ref a1)])) rfl (hb hby d2_8)
    by_cases hc11 : a1 = aN
    · obtain ⟨fs, hr, hrun, hended, hW, hsame⟩ := X2.leave (v := some (.int (0 : Int32))) (fun h => by rw [Bd.returns] at h; cases h)
      refine ⟨_, _, pre0 _ ?_, hrun, hended, _, _, rfl, ?_, ⟨_, rfl⟩, hW, hsame.mono (by decide) (by decide)⟩
      · show Steps p.tables e below (s₁.setTop (mkF m 0 #[.val (.ref a1)] [])) _
        refine XS.aloadN X0.here hx rfl (hb hby d2_0) rfl rfl ?_
        show Steps p.tables e below (s₁.setTop (mkF m 1 #[.val (.ref a1)] [(.ref a1)])) _
        refine st1 _ ?_
        show Steps p.tables e below (T1.setTop (mkF m 4 #[.val (.ref a1)] [(.ref aE), (.ref a1)])) _
        refine Jvm.RoadKit.acmp (g := (mkF m 4 #[.val (.ref a1)] [(.ref aE), (.ref a1)])) X1 hx rfl rfl rfl (pc0 := 4) (pc' := 7) (same := false) rfl (hb hby d2_4) rfl (decide_eq_false fun q => hc4 (Value.ref.inj q)) (by decide) (by decide) ?_
        show Steps p.tables e below (T1.setTop (mkF m 7 #[.val (.ref a1)] [])) _
        refine XS.aloadN X1.here hx rfl (hb hby d2_7) rfl rfl ?_
        show Steps p.tables e below (T1.setTop (mkF m 8 #[.val (.ref a1)] [(.ref a1)])) _
        refine st2 _ ?_
        show Steps p.tables e below (T2.setTop (mkF m 11 #[.val (.ref a1)] [(.ref aN), (.ref a1)])) _
        refine Jvm.RoadKit.acmp (g := (mkF m 11 #[.val (.ref a1)] [(.ref aN), (.ref a1)])) X2 hx rfl rfl rfl (pc0 := 11) (pc' := 18) (same := true) rfl (hb hby d2_11) rfl (decide_eq_true (congrArg Value.ref hc11)) (by decide) (by decide) ?_
        show Steps p.tables e below (T2.setTop (mkF m 18 #[.val (.ref a1)] [])) _
        refine XS.iconst X2.here hx rfl (hb hby d2_18) ?_
        show Steps p.tables e below (T2.setTop (mkF m 19 #[.val (.ref a1)] [(.int (0 : Int32))])) _
        exact retN X2 hx (t := .boolean) Bd.returns (by simp) (hb hby d2_19) hr
      · show Q_2 Z a1 aE aN h0 n0 _ T2.heap _
        rw [e2]
        exact ⟨by simp [hc4, hc11], N0, rfl⟩
    · obtain ⟨fs, hr, hrun, hended, hW, hsame⟩ := X2.leave (v := some (.int (1 : Int32))) (fun h => by rw [Bd.returns] at h; cases h)
      refine ⟨_, _, pre0 _ ?_, hrun, hended, _, _, rfl, ?_, ⟨_, rfl⟩, hW, hsame.mono (by decide) (by decide)⟩
      · show Steps p.tables e below (s₁.setTop (mkF m 0 #[.val (.ref a1)] [])) _
        refine XS.aloadN X0.here hx rfl (hb hby d2_0) rfl rfl ?_
        show Steps p.tables e below (s₁.setTop (mkF m 1 #[.val (.ref a1)] [(.ref a1)])) _
        refine st1 _ ?_
        show Steps p.tables e below (T1.setTop (mkF m 4 #[.val (.ref a1)] [(.ref aE), (.ref a1)])) _
        refine Jvm.RoadKit.acmp (g := (mkF m 4 #[.val (.ref a1)] [(.ref aE), (.ref a1)])) X1 hx rfl rfl rfl (pc0 := 4) (pc' := 7) (same := false) rfl (hb hby d2_4) rfl (decide_eq_false fun q => hc4 (Value.ref.inj q)) (by decide) (by decide) ?_
        show Steps p.tables e below (T1.setTop (mkF m 7 #[.val (.ref a1)] [])) _
        refine XS.aloadN X1.here hx rfl (hb hby d2_7) rfl rfl ?_
        show Steps p.tables e below (T1.setTop (mkF m 8 #[.val (.ref a1)] [(.ref a1)])) _
        refine st2 _ ?_
        show Steps p.tables e below (T2.setTop (mkF m 11 #[.val (.ref a1)] [(.ref aN), (.ref a1)])) _
        refine Jvm.RoadKit.acmp (g := (mkF m 11 #[.val (.ref a1)] [(.ref aN), (.ref a1)])) X2 hx rfl rfl rfl (pc0 := 11) (pc' := 14) (same := false) rfl (hb hby d2_11) rfl (decide_eq_false fun q => hc11 (Value.ref.inj q)) (by decide) (by decide) ?_
        show Steps p.tables e below (T2.setTop (mkF m 14 #[.val (.ref a1)] [])) _
        refine XS.iconst X2.here hx rfl (hb hby d2_14) ?_
        show Steps p.tables e below (T2.setTop (mkF m 15 #[.val (.ref a1)] [(.int (1 : Int32))])) _
        refine XS.goto X2.here hx rfl (pc0 := 15) (pc' := 19) rfl (hb hby d2_15) (by decide) (by decide) ?_
        show Steps p.tables e below (T2.setTop (mkF m 19 #[.val (.ref a1)] [(.int (1 : Int32))])) _
        exact retN X2 hx (t := .boolean) Bd.returns (by simp) (hb hby d2_19) hr
      · show Q_2 Z a1 aE aN h0 n0 _ T2.heap _
        rw [e2]
        exact ⟨by simp [hc4, hc11], N0, rfl⟩
theorem d3_0 : decode prog_31_method_4_code 0 = .ok (.aload_n 0, 1) := by decide +kernel
theorem d3_1 : decode prog_31_method_4_code 1 = .ok (.getfield 41, 3) := by decide +kernel
theorem d3_4 : decode prog_31_method_4_code 4 = .ok (.areturn, 1) := by decide +kernel
theorem pn_3 : plainName "com/example/furlong/furlong/model/Condition$Operator" = true := by first | (simp [plainName, overriddenIn]; done) | decide +kernel
theorem ef_3 (m : MethodId) (x0 : Addr) : entryFrame m #[(.ref x0)] 1 = mkF m 0 #[.val (.ref x0)] [] := by first | (simp [entryFrame, mkF, argsToLocals, Value.category]; done) | rfl
def Q_3 (Z : State) (a1 : Addr) (b : Addr) (h0 : Heap) (n0 : Nat) (v : Option Value) (h : Heap) (L : List Loc) : Prop := v = some (.ref b) ∧ Fr n0 L ∧ h = h0
set_option maxRecDepth 65536 in
set_option maxHeartbeats 40000000 in
theorem rm_3 (l : Launch) (Z : State) (a0 : Array Value) (hw : ∀ d ∈ tables_1, d.before a0 Z = true) (ws : List Jvm.Cond) (a1 : Addr) (b : Addr) (h0 : Heap) (n0 : Nat) (Z0 : n0 ≤ h0.size) (F_s : Fld Z h0 a1 "com/example/furlong/furlong/model/Condition$Operator" "symbol" "Ljava/lang/String;" (.ref b)) :
    MetFree l (⟨"com/example/furlong/furlong/model/Condition$Operator", "symbol", "()Ljava/lang/String;"⟩ : MethodName) (head1 (Jvm.Cond.code (⟨"com/example/furlong/furlong/model/Condition$Operator", "symbol", "()Ljava/lang/String;"⟩ : MethodName) prog_31_method_4_code 1 (some (.object "java/lang/String")) :: ws) ({ frames := 0, cells := 0, slots := 0, locals := 0 } : Room)) (fun a U => a = #[(.ref a1)] ∧ Z.Warmed39 U.vm ∧ U.heap = h0) (fun _ _ _ _ _ => True) (fun _ U o U' => ∃ v L, o = .returned v ∧ Q_3 Z a1 b h0 n0 v U'.heap L ∧ FrameEnd U o U' L ({ frames := 0, cells := 0, slots := 0, locals := 0 } : Room).cells ({ frames := 0, cells := 0, slots := 0, locals := 0 } : Room).slots) := by
  refine MetFree.of_bodySF (plainFor_of_name pn_3) hisR ?_
  intro p e s m args below meth cod_ s₁ Bd hml0 hP hK
  obtain ⟨rfl, hZ, hh⟩ := hP
  have hx := Bd.exec
  have hby := Bd.bytes
  have hml : cod_.maxLocals = 1 := hml0
  have hown : s.vm.findClass "com/example/furlong/furlong/model/Condition$Operator" = some m.cls := findClass_of_methodNamed Bd.named
  have hnm := (name_of_methodNamed Bd.named Bd.method).1
  have X0 : Stand p l e ({ frames := 0, cells := 0, slots := 0, locals := 0 } : Room) s m #[(.ref a1)] below meth cod_ s₁ [] 0 0 := Stand.of_body Bd
  have e0 : s₁.heap = h0 := by rw [← hh, Bd.state]; rfl
  have N0 := Fr.nil n0
  have pre0 : ∀ t, Steps p.tables e below (s₁.setTop (mkF m 0 #[.val (.ref a1)] [])) t → Steps p.tables e below (s₁.setTop (entryFrame m #[(.ref a1)] 1)) t := fun t k => castTop (ef_3 m a1) k
  obtain ⟨T3, X3, e3, st3⟩ := getF X0 hx hZ hown (host := "") (Or.inl (hw _ (List.mem_of_getElem? (i := 19) rfl))) Via.refl e0 F_s (g := (mkF m 1 #[.val (.ref a1)] [(.ref a1)])) rfl rfl (hb hby d3_1)
  obtain ⟨fs, hr, hrun, hended, hW, hsame⟩ := X3.leave (v := some (.ref b)) (fun h => by rw [Bd.returns] at h; cases h)
  refine ⟨_, _, pre0 _ ?_, hrun, hended, _, _, rfl, ?_, ⟨_, rfl⟩, hW, hsame.mono (by decide) (by decide)⟩
  · show Steps p.tables e below (s₁.setTop (mkF m 0 #[.val (.ref a1)] [])) _
    refine XS.aloadN X0.here hx rfl (hb hby d3_0) rfl rfl ?_
    show Steps p.tables e below (s₁.setTop (mkF m 1 #[.val (.ref a1)] [(.ref a1)])) _
    refine st3 _ ?_
    show Steps p.tables e below (T3.setTop (mkF m 4 #[.val (.ref a1)] [(.ref b)])) _
    jvm_step X3.here [X3.here.top, hx, (hb hby d3_4), X3.method', Bd.returns, Value.isRef, FieldType.isReference]
    first | (intro acts; rw [hr _ acts rfl rfl rfl]) | rw [hr _ _ rfl rfl rfl]
    exact Steps.refl _
  · show Q_3 Z a1 b h0 n0 _ T3.heap _
    rw [e3]
    exact ⟨rfl, N0, rfl⟩
theorem d8_0 : decode jdk_41_method_11_code 0 = .ok (.iload_n 0, 1) := by decide +kernel
theorem d8_1 : decode jdk_41_method_11_code 1 = .ok (.ifCond .lt 8, 3) := by decide +kernel
theorem d8_4 : decode jdk_41_method_11_code 4 = .ok (.iload_n 0, 1) := by decide +kernel
theorem d8_5 : decode jdk_41_method_11_code 5 = .ok (.iload_n 1, 1) := by decide +kernel
theorem d8_6 : decode jdk_41_method_11_code 6 = .ok (.if_icmp .lt 10, 3) := by decide +kernel
theorem d8_16 : decode jdk_41_method_11_code 16 = .ok (.iload_n 0, 1) := by decide +kernel
theorem d8_17 : decode jdk_41_method_11_code 17 = .ok (.ireturn, 1) := by decide +kernel
theorem pn_8 : plainName "jdk/internal/util/Preconditions" = true := by first | (simp [plainName, overriddenIn]; done) | decide +kernel
theorem ef_8 (m : MethodId) (x0 : Int32) (x1 : Int32) (x2 : Addr) : entryFrame m #[(.int x0), (.int x1), (.ref x2)] 3 = mkF m 0 #[.val (.int x0), .val (.int x1), .val (.ref x2)] [] := by first | (simp [entryFrame, mkF, argsToLocals, Value.category]; done) | rfl
def Q_pc (Z : State) (p1 : Int32) (p2 : Int32) (a3 : Addr) (h0 : Heap) (n0 : Nat) (v : Option Value) (h : Heap) (L : List Loc) : Prop := v = some (.int p1) ∧ Fr n0 L ∧ h = h0
set_option maxRecDepth 65536 in
set_option maxHeartbeats 40000000 in
theorem rm_pc (l : Launch) (Z : State) (a0 : Array Value) (hw : ∀ d ∈ tables_1, d.before a0 Z = true) (ws : List Jvm.Cond) (p1 : Int32) (p2 : Int32) (a3 : Addr) (h0 : Heap) (n0 : Nat) (Z0 : n0 ≤ h0.size) (u0 : ¬ p1 < 0) (u1 : p1 < p2) :
    MetFree l (⟨"jdk/internal/util/Preconditions", "checkIndex", "(IILjava/util/function/BiFunction;)I"⟩ : MethodName) (head1 (Jvm.Cond.code (⟨"jdk/internal/util/Preconditions", "checkIndex", "(IILjava/util/function/BiFunction;)I"⟩ : MethodName) jdk_41_method_11_code 3 (some .int) :: ws) ({ frames := 0, cells := 0, slots := 0, locals := 0 } : Room)) (fun a U => a = #[(.int p1), (.int p2), (.ref a3)] ∧ Z.Warmed39 U.vm ∧ U.heap = h0) (fun _ _ _ _ _ => True) (fun _ U o U' => ∃ v L, o = .returned v ∧ Q_pc Z p1 p2 a3 h0 n0 v U'.heap L ∧ FrameEnd U o U' L ({ frames := 0, cells := 0, slots := 0, locals := 0 } : Room).cells ({ frames := 0, cells := 0, slots := 0, locals := 0 } : Room).slots) := by
  refine MetFree.of_bodySF (plainFor_of_name pn_8) hisR ?_
  intro p e s m args below meth cod_ s₁ Bd hml0 hP hK
  obtain ⟨rfl, hZ, hh⟩ := hP
  have hx := Bd.exec
  have hby := Bd.bytes
  have hml : cod_.maxLocals = 3 := hml0
  have hown : s.vm.findClass "jdk/internal/util/Preconditions" = some m.cls := findClass_of_methodNamed Bd.named
  have hnm := (name_of_methodNamed Bd.named Bd.method).1
  have X0 : Stand p l e ({ frames := 0, cells := 0, slots := 0, locals := 0 } : Room) s m #[(.int p1), (.int p2), (.ref a3)] below meth cod_ s₁ [] 0 0 := Stand.of_body Bd
  have e0 : s₁.heap = h0 := by rw [← hh, Bd.state]; rfl
  have N0 := Fr.nil n0
  have pre0 : ∀ t, Steps p.tables e below (s₁.setTop (mkF m 0 #[.val (.int p1), .val (.int p2), .val (.ref a3)] [])) t → Steps p.tables e below (s₁.setTop (entryFrame m #[(.int p1), (.int p2), (.ref a3)] 3)) t := fun t k => castTop (ef_8 m p1 p2 a3) k
  have hc1 : ¬ (p1 < (0 : Int32)) := u0
  have hc6 : p1 < p2 := u1
  obtain ⟨fs, hr, hrun, hended, hW, hsame⟩ := X0.leave (v := some (.int p1)) (fun h => by rw [Bd.returns] at h; cases h)
  refine ⟨_, _, pre0 _ ?_, hrun, hended, _, _, rfl, ?_, ⟨_, rfl⟩, hW, hsame.mono (by decide) (by decide)⟩
  · show Steps p.tables e below (s₁.setTop (mkF m 0 #[.val (.int p1), .val (.int p2), .val (.ref a3)] [])) _
    refine XS.iloadN X0.here hx rfl (hb hby d8_0) rfl ?_
    show Steps p.tables e below (s₁.setTop (mkF m 1 #[.val (.int p1), .val (.int p2), .val (.ref a3)] [(.int p1)])) _
    refine XS.ifNo X0.here hx rfl (hb hby d8_1) rfl ((if0 _ _).trans (flt hc1).1) ?_
    show Steps p.tables e below (s₁.setTop (mkF m 4 #[.val (.int p1), .val (.int p2), .val (.ref a3)] [])) _
    refine XS.iloadN X0.here hx rfl (hb hby d8_4) rfl ?_
    show Steps p.tables e below (s₁.setTop (mkF m 5 #[.val (.int p1), .val (.int p2), .val (.ref a3)] [(.int p1)])) _
    refine XS.iloadN X0.here hx rfl (hb hby d8_5) rfl ?_
    show Steps p.tables e below (s₁.setTop (mkF m 6 #[.val (.int p1), .val (.int p2), .val (.ref a3)] [(.int p2), (.int p1)])) _
    refine XS.icmpYes X0.here hx rfl (pc0 := 6) (pc' := 16) rfl (hb hby d8_6) rfl (tlt hc6).1 (by decide) (by decide) ?_
    show Steps p.tables e below (s₁.setTop (mkF m 16 #[.val (.int p1), .val (.int p2), .val (.ref a3)] [])) _
    refine XS.iloadN X0.here hx rfl (hb hby d8_16) rfl ?_
    show Steps p.tables e below (s₁.setTop (mkF m 17 #[.val (.int p1), .val (.int p2), .val (.ref a3)] [(.int p1)])) _
    exact retI X0 hx Bd.returns (hb hby d8_17) hr
  · show Q_pc Z p1 p2 a3 h0 n0 _ s₁.heap _
    rw [e0]
    exact ⟨rfl, N0, rfl⟩
theorem ef_8n2 (m : MethodId) (x0 : Int32) (x1 : Int32) : entryFrame m #[(.int x0), (.int x1), .null] 3 = mkF m 0 #[.val (.int x0), .val (.int x1), .val .null] [] := by first | (simp [entryFrame, mkF, argsToLocals, Value.category]; done) | rfl
def Q_pcn (Z : State) (p1 : Int32) (p2 : Int32) (h0 : Heap) (n0 : Nat) (v : Option Value) (h : Heap) (L : List Loc) : Prop := v = some (.int p1) ∧ Fr n0 L ∧ h = h0
set_option maxRecDepth 65536 in
set_option maxHeartbeats 40000000 in
theorem rm_pcn (l : Launch) (Z : State) (a0 : Array Value) (hw : ∀ d ∈ tables_1, d.before a0 Z = true) (ws : List Jvm.Cond) (p1 : Int32) (p2 : Int32) (h0 : Heap) (n0 : Nat) (Z0 : n0 ≤ h0.size) (u0 : ¬ p1 < 0) (u1 : p1 < p2) :
    MetFree l (⟨"jdk/internal/util/Preconditions", "checkIndex", "(IILjava/util/function/BiFunction;)I"⟩ : MethodName) (head1 (Jvm.Cond.code (⟨"jdk/internal/util/Preconditions", "checkIndex", "(IILjava/util/function/BiFunction;)I"⟩ : MethodName) jdk_41_method_11_code 3 (some .int) :: ws) ({ frames := 0, cells := 0, slots := 0, locals := 0 } : Room)) (fun a U => a = #[(.int p1), (.int p2), .null] ∧ Z.Warmed39 U.vm ∧ U.heap = h0) (fun _ _ _ _ _ => True) (fun _ U o U' => ∃ v L, o = .returned v ∧ Q_pcn Z p1 p2 h0 n0 v U'.heap L ∧ FrameEnd U o U' L ({ frames := 0, cells := 0, slots := 0, locals := 0 } : Room).cells ({ frames := 0, cells := 0, slots := 0, locals := 0 } : Room).slots) := by
  refine MetFree.of_bodySF (plainFor_of_name pn_8) hisR ?_
  intro p e s m args below meth cod_ s₁ Bd hml0 hP hK
  obtain ⟨rfl, hZ, hh⟩ := hP
  have hx := Bd.exec
  have hby := Bd.bytes
  have hml : cod_.maxLocals = 3 := hml0
  have hown : s.vm.findClass "jdk/internal/util/Preconditions" = some m.cls := findClass_of_methodNamed Bd.named
  have hnm := (name_of_methodNamed Bd.named Bd.method).1
  have X0 : Stand p l e ({ frames := 0, cells := 0, slots := 0, locals := 0 } : Room) s m #[(.int p1), (.int p2), .null] below meth cod_ s₁ [] 0 0 := Stand.of_body Bd
  have e0 : s₁.heap = h0 := by rw [← hh, Bd.state]; rfl
  have N0 := Fr.nil n0
  have pre0 : ∀ t, Steps p.tables e below (s₁.setTop (mkF m 0 #[.val (.int p1), .val (.int p2), .val .null] [])) t → Steps p.tables e below (s₁.setTop (entryFrame m #[(.int p1), (.int p2), .null] 3)) t := fun t k => castTop (ef_8n2 m p1 p2) k
  have hc1 : ¬ (p1 < (0 : Int32)) := u0
  have hc6 : p1 < p2 := u1
  obtain ⟨fs, hr, hrun, hended, hW, hsame⟩ := X0.leave (v := some (.int p1)) (fun h => by rw [Bd.returns] at h; cases h)
  refine ⟨_, _, pre0 _ ?_, hrun, hended, _, _, rfl, ?_, ⟨_, rfl⟩, hW, hsame.mono (by decide) (by decide)⟩
  · show Steps p.tables e below (s₁.setTop (mkF m 0 #[.val (.int p1), .val (.int p2), .val .null] [])) _
    refine XS.iloadN X0.here hx rfl (hb hby d8_0) rfl ?_
    show Steps p.tables e below (s₁.setTop (mkF m 1 #[.val (.int p1), .val (.int p2), .val .null] [(.int p1)])) _
    refine XS.ifNo X0.here hx rfl (hb hby d8_1) rfl ((if0 _ _).trans (flt hc1).1) ?_
    show Steps p.tables e below (s₁.setTop (mkF m 4 #[.val (.int p1), .val (.int p2), .val .null] [])) _
    refine XS.iloadN X0.here hx rfl (hb hby d8_4) rfl ?_
    show Steps p.tables e below (s₁.setTop (mkF m 5 #[.val (.int p1), .val (.int p2), .val .null] [(.int p1)])) _
    refine XS.iloadN X0.here hx rfl (hb hby d8_5) rfl ?_
    show Steps p.tables e below (s₁.setTop (mkF m 6 #[.val (.int p1), .val (.int p2), .val .null] [(.int p2), (.int p1)])) _
    refine XS.icmpYes X0.here hx rfl (pc0 := 6) (pc' := 16) rfl (hb hby d8_6) rfl (tlt hc6).1 (by decide) (by decide) ?_
    show Steps p.tables e below (s₁.setTop (mkF m 16 #[.val (.int p1), .val (.int p2), .val .null] [])) _
    refine XS.iloadN X0.here hx rfl (hb hby d8_16) rfl ?_
    show Steps p.tables e below (s₁.setTop (mkF m 17 #[.val (.int p1), .val (.int p2), .val .null] [(.int p1)])) _
    exact retI X0 hx Bd.returns (hb hby d8_17) hr
  · show Q_pcn Z p1 p2 h0 n0 _ s₁.heap _
    rw [e0]
    exact ⟨rfl, N0, rfl⟩
theorem d7_0 : decode jdk_42_method_155_code 0 = .ok (.iload_n 0, 1) := by decide +kernel
theorem d7_1 : decode jdk_42_method_155_code 1 = .ok (.iload_n 1, 1) := by decide +kernel
theorem d7_2 : decode jdk_42_method_155_code 2 = .ok (.getstatic 1053, 3) := by decide +kernel
theorem d7_5 : decode jdk_42_method_155_code 5 = .ok (.invokestatic 1059, 3) := by decide +kernel
theorem d7_8 : decode jdk_42_method_155_code 8 = .ok (.pop, 1) := by decide +kernel
theorem d7_9 : decode jdk_42_method_155_code 9 = .ok (.return_, 1) := by decide +kernel
theorem pd__28IILjava_2futil_2ffunction_2fBiFunction_3b_29I : parseMethodDescriptor "(IILjava/util/function/BiFunction;)I" = some ⟨[.int, .int, (.object "java/util/function/BiFunction")], some .int⟩ := by decide +kernel
theorem pn_7 : plainName "java/lang/String" = true := by first | (simp [plainName, overriddenIn]; done) | decide +kernel
theorem ef_7 (m : MethodId) (x0 : Int32) (x1 : Int32) : entryFrame m #[(.int x0), (.int x1)] 2 = mkF m 0 #[.val (.int x0), .val (.int x1)] [] := by first | (simp [entryFrame, mkF, argsToLocals, Value.category]; done) | rfl
def Q_ci (Z : State) (p1 : Int32) (p2 : Int32) (h0 : Heap) (n0 : Nat) (v : Option Value) (h : Heap) (L : List Loc) : Prop := v = none ∧ Fr n0 L ∧ h = h0
set_option maxRecDepth 65536 in
set_option maxHeartbeats 40000000 in
theorem rm_ci (l : Launch) (Z : State) (a0 : Array Value) (hw : ∀ d ∈ tables_1, d.before a0 Z = true) (ws : List Jvm.Cond) (p1 : Int32) (p2 : Int32) (fm : Value) (h0 : Heap) (n0 : Nat) (Z0 : n0 ≤ h0.size) (u0 : ¬ p1 < 0) (u1 : p1 < p2) (rf : fm.isRef = true) (S_SIOOBE_FORMATTER : Sta Z h0 "jdk/internal/util/Preconditions" "SIOOBE_FORMATTER" "Ljava/util/function/BiFunction;" fm) :
    MetFree l (⟨"java/lang/String", "checkIndex", "(II)V"⟩ : MethodName) (head1 (Jvm.Cond.code (⟨"java/lang/String", "checkIndex", "(II)V"⟩ : MethodName) jdk_42_method_155_code 2 none :: ws) ({ frames := 1, cells := 0, slots := 0, locals := 14 } : Room)) (fun a U => a = #[(.int p1), (.int p2)] ∧ Z.Warmed39 U.vm ∧ U.heap = h0) (fun _ _ _ _ _ => True) (fun _ U o U' => ∃ v L, o = .returned v ∧ Q_ci Z p1 p2 h0 n0 v U'.heap L ∧ FrameEnd U o U' L ({ frames := 1, cells := 0, slots := 0, locals := 14 } : Room).cells ({ frames := 1, cells := 0, slots := 0, locals := 14 } : Room).slots) := by
  refine MetFree.of_bodySF (plainFor_of_name pn_7) hisR ?_
  intro p e s m args below meth cod_ s₁ Bd hml0 hP hK
  obtain ⟨rfl, hZ, hh⟩ := hP
  have hx := Bd.exec
  have hby := Bd.bytes
  have hml : cod_.maxLocals = 2 := hml0
  have hown : s.vm.findClass "java/lang/String" = some m.cls := findClass_of_methodNamed Bd.named
  have hnm := (name_of_methodNamed Bd.named Bd.method).1
  have X0 : Stand p l e ({ frames := 1, cells := 0, slots := 0, locals := 14 } : Room) s m #[(.int p1), (.int p2)] below meth cod_ s₁ [] 0 0 := Stand.of_body Bd
  have e0 : s₁.heap = h0 := by rw [← hh, Bd.state]; rfl
  have N0 := Fr.nil n0
  have pre0 : ∀ t, Steps p.tables e below (s₁.setTop (mkF m 0 #[.val (.int p1), .val (.int p2)] [])) t → Steps p.tables e below (s₁.setTop (entryFrame m #[(.int p1), (.int p2)] 2)) t := fun t k => castTop (ef_7 m p1 p2) k
  rcases ref_cases rf with rfl | ⟨fa, rfl⟩
  · obtain ⟨T4, X4, e4, st4⟩ := getS2 X0 hx hZ hown (host := "") (Or.inl (hw _ (List.mem_of_getElem? (i := 44) rfl))) Via.refl e0 S_SIOOBE_FORMATTER (g := (mkF m 2 #[.val (.int p1), .val (.int p2)] [(.int p2), (.int p1)])) rfl (hb hby d7_2)
    obtain ⟨_, _, ⟨T5, L5, c5_, n5_⟩, -, X5, ⟨Lc5, hQ5, l5, y5, z5⟩, st5⟩ := Jvm.LawKit.callS X4 hx (y := (⟨"jdk/internal/util/Preconditions", "checkIndex", "(IILjava/util/function/BiFunction;)I"⟩ : MethodName)) hown (mvT hZ (hw _ (List.mem_of_getElem? (i := 46) rfl))) (mvT hZ (hw _ (List.mem_of_getElem? (i := 47) rfl))) (mvT hZ (hw _ (List.mem_of_getElem? (i := 45) rfl))) (mvT hZ (hw _ (List.mem_of_getElem? (i := 48) rfl))) (by decide) (backOf (W := 0) (rm_pcn l Z a0 hw [] p1 p2 h0 n0 (Nat.le_trans Z0 (Keep.refl h0 []).1) u0 u1) hZ (hw _ (List.mem_of_getElem? (i := 48) rfl)) (hw _ (List.mem_of_getElem? (i := 45) rfl)) (by decide) (by decide)) (g := (mkF m 5 #[.val (.int p1), .val (.int p2)] [.null, (.int p2), (.int p1)])) rfl (by rw [hml]; rfl) (argsL := [(.int p1), (.int p2), .null]) (rest := []) (lenOf pd__28IILjava_2futil_2ffunction_2fBiFunction_3b_29I rfl) rfl (by show 2 * 0 + _ ≤ _; exact Nat.le_of_eq rfl) (hb hby d7_5) (fun _ _ => ⟨rfl, e4, (by decide : 0 + 0 ≤ _), (by decide : 0 + 0 ≤ _)⟩)
    dsimp only [Pt.U, Pt.locs, Pt.cells, Pt.slots] at X5 l5 y5 z5 st5 hQ5
    subst l5 y5 z5
    obtain ⟨rfl, Nq5, e5⟩ := hQ5
    have N5 := Fr.app N0 Nq5
    obtain ⟨fs, hr, hrun, hended, hW, hsame⟩ := X5.leave (v := none) (fun _ => rfl)
    refine ⟨_, _, pre0 _ ?_, hrun, hended, _, _, rfl, ?_, ⟨_, rfl⟩, hW, hsame.mono (by decide) (by decide)⟩
    · show Steps p.tables e below (s₁.setTop (mkF m 0 #[.val (.int p1), .val (.int p2)] [])) _
      refine XS.iloadN X0.here hx rfl (hb hby d7_0) rfl ?_
      show Steps p.tables e below (s₁.setTop (mkF m 1 #[.val (.int p1), .val (.int p2)] [(.int p1)])) _
      refine XS.iloadN X0.here hx rfl (hb hby d7_1) rfl ?_
      show Steps p.tables e below (s₁.setTop (mkF m 2 #[.val (.int p1), .val (.int p2)] [(.int p2), (.int p1)])) _
      refine st4 _ ?_
      show Steps p.tables e below (T4.setTop (mkF m 5 #[.val (.int p1), .val (.int p2)] [.null, (.int p2), (.int p1)])) _
      refine st5 _ ?_
      show Steps p.tables e below (T5.setTop (mkF m 8 #[.val (.int p1), .val (.int p2)] [(.int p1)])) _
      refine XS.pop X5.here hx rfl (hb hby d7_8) rfl rfl ?_
      show Steps p.tables e below (T5.setTop (mkF m 9 #[.val (.int p1), .val (.int p2)] [])) _
      exact X5.returnOut hx Bd.returns (hb hby d7_9) hr
    · show Q_ci Z p1 p2 h0 n0 _ T5.heap _
      rw [e5]
      exact ⟨rfl, N5, rfl⟩
  · obtain ⟨T6, X6, e6, st6⟩ := getS2 X0 hx hZ hown (host := "") (Or.inl (hw _ (List.mem_of_getElem? (i := 44) rfl))) Via.refl e0 S_SIOOBE_FORMATTER (g := (mkF m 2 #[.val (.int p1), .val (.int p2)] [(.int p2), (.int p1)])) rfl (hb hby d7_2)
    obtain ⟨_, _, ⟨T7, L7, c7_, n7_⟩, -, X7, ⟨Lc7, hQ7, l7, y7, z7⟩, st7⟩ := Jvm.LawKit.callS X6 hx (y := (⟨"jdk/internal/util/Preconditions", "checkIndex", "(IILjava/util/function/BiFunction;)I"⟩ : MethodName)) hown (mvT hZ (hw _ (List.mem_of_getElem? (i := 46) rfl))) (mvT hZ (hw _ (List.mem_of_getElem? (i := 47) rfl))) (mvT hZ (hw _ (List.mem_of_getElem? (i := 45) rfl))) (mvT hZ (hw _ (List.mem_of_getElem? (i := 48) rfl))) (by decide) (backOf (W := 0) (rm_pc l Z a0 hw [] p1 p2 fa h0 n0 (Nat.le_trans Z0 (Keep.refl h0 []).1) u0 u1) hZ (hw _ (List.mem_of_getElem? (i := 48) rfl)) (hw _ (List.mem_of_getElem? (i := 45) rfl)) (by decide) (by decide)) (g := (mkF m 5 #[.val (.int p1), .val (.int p2)] [(.ref fa), (.int p2), (.int p1)])) rfl (by rw [hml]; rfl) (argsL := [(.int p1), (.int p2), (.ref fa)]) (rest := []) (lenOf pd__28IILjava_2futil_2ffunction_2fBiFunction_3b_29I rfl) rfl (by show 2 * 0 + _ ≤ _; exact Nat.le_of_eq rfl) (hb hby d7_5) (fun _ _ => ⟨rfl, e6, (by decide : 0 + 0 ≤ _), (by decide : 0 + 0 ≤ _)⟩)
    dsimp only [Pt.U, Pt.locs, Pt.cells, Pt.slots] at X7 l7 y7 z7 st7 hQ7
    subst l7 y7 z7
    obtain ⟨rfl, Nq7, e7⟩ := hQ7
    have N7 := Fr.app N0 Nq7
    obtain ⟨fs, hr, hrun, hended, hW, hsame⟩ := X7.leave (v := none) (fun _ => rfl)
    refine ⟨_, _, pre0 _ ?_, hrun, hended, _, _, rfl, ?_, ⟨_, rfl⟩, hW, hsame.mono (by decide) (by decide)⟩
    · show Steps p.tables e below (s₁.setTop (mkF m 0 #[.val (.int p1), .val (.int p2)] [])) _
      refine XS.iloadN X0.here hx rfl (hb hby d7_0) rfl ?_
      show Steps p.tables e below (s₁.setTop (mkF m 1 #[.val (.int p1), .val (.int p2)] [(.int p1)])) _
      refine XS.iloadN X0.here hx rfl (hb hby d7_1) rfl ?_
      show Steps p.tables e below (s₁.setTop (mkF m 2 #[.val (.int p1), .val (.int p2)] [(.int p2), (.int p1)])) _
      refine st6 _ ?_
      show Steps p.tables e below (T6.setTop (mkF m 5 #[.val (.int p1), .val (.int p2)] [(.ref fa), (.int p2), (.int p1)])) _
      refine st7 _ ?_
      show Steps p.tables e below (T7.setTop (mkF m 8 #[.val (.int p1), .val (.int p2)] [(.int p1)])) _
      refine XS.pop X7.here hx rfl (hb hby d7_8) rfl rfl ?_
      show Steps p.tables e below (T7.setTop (mkF m 9 #[.val (.int p1), .val (.int p2)] [])) _
      exact X7.returnOut hx Bd.returns (hb hby d7_9) hr
    · show Q_ci Z p1 p2 h0 n0 _ T7.heap _
      rw [e7]
      exact ⟨rfl, N7, rfl⟩
theorem d6_0 : decode jdk_43_method_2_code 0 = .ok (.iload_n 1, 1) := by decide +kernel
theorem d6_1 : decode jdk_43_method_2_code 1 = .ok (.aload_n 0, 1) := by decide +kernel
theorem d6_2 : decode jdk_43_method_2_code 2 = .ok (.arraylength, 1) := by decide +kernel
theorem d6_3 : decode jdk_43_method_2_code 3 = .ok (.invokestatic 9, 3) := by decide +kernel
theorem d6_6 : decode jdk_43_method_2_code 6 = .ok (.aload_n 0, 1) := by decide +kernel
theorem d6_7 : decode jdk_43_method_2_code 7 = .ok (.iload_n 1, 1) := by decide +kernel
theorem d6_8 : decode jdk_43_method_2_code 8 = .ok (.baload, 1) := by decide +kernel
theorem d6_9 : decode jdk_43_method_2_code 9 = .ok (.sipush 255, 3) := by decide +kernel
theorem d6_12 : decode jdk_43_method_2_code 12 = .ok (.iand, 1) := by decide +kernel
theorem d6_13 : decode jdk_43_method_2_code 13 = .ok (.i2c, 1) := by decide +kernel
theorem d6_14 : decode jdk_43_method_2_code 14 = .ok (.ireturn, 1) := by decide +kernel
theorem pd__28II_29V : parseMethodDescriptor "(II)V" = some ⟨[.int, .int], none⟩ := by decide +kernel
theorem pn_6 : plainName "java/lang/StringLatin1" = true := by first | (simp [plainName, overriddenIn]; done) | decide +kernel
theorem ef_6 (m : MethodId) (x0 : Addr) (x1 : Int32) : entryFrame m #[(.ref x0), (.int x1)] 2 = mkF m 0 #[.val (.ref x0), .val (.int x1)] [] := by first | (simp [entryFrame, mkF, argsToLocals, Value.category]; done) | rfl
def Q_l1 (Z : State) (a1 : Addr) (p2 : Int32) (b : Int32) (h0 : Heap) (n0 : Nat) (v : Option Value) (h : Heap) (L : List Loc) : Prop := v = some (.int (nar .char ((b &&& (255 : Int32)).toUInt32.toUInt16.toUInt32.toInt32))) ∧ Fr n0 L ∧ h = h0
set_option maxRecDepth 65536 in
set_option maxHeartbeats 40000000 in
theorem rm_l1 (l : Launch) (Z : State) (a0 : Array Value) (hw : ∀ d ∈ tables_1, d.before a0 Z = true) (ws : List Jvm.Cond) (a1 : Addr) (p2 : Int32) (b : Int32) (kk : ClassId) (zz : Int32) (vs : List Value) (fm : Value) (h0 : Heap) (n0 : Nat) (Z0 : n0 ≤ h0.size) (V_1 : Arv Z h0 a1 kk .byte zz vs (.int (0 : Int32))) (u0 : ¬ p2 < 0) (u1 : p2 < zz) (hb_ : vs.getD p2.toNatClampNeg (.int (0 : Int32)) = .int b) (rf : fm.isRef = true) (S_F : Sta Z h0 "jdk/internal/util/Preconditions" "SIOOBE_FORMATTER" "Ljava/util/function/BiFunction;" fm) :
    MetFree l (⟨"java/lang/StringLatin1", "charAt", "([BI)C"⟩ : MethodName) (head1 (Jvm.Cond.code (⟨"java/lang/StringLatin1", "charAt", "([BI)C"⟩ : MethodName) jdk_43_method_2_code 2 (some .char) :: ws) ({ frames := 2, cells := 0, slots := 0, locals := 27 } : Room)) (fun a U => a = #[(.ref a1), (.int p2)] ∧ Z.Warmed39 U.vm ∧ U.heap = h0) (fun _ _ _ _ _ => True) (fun _ U o U' => ∃ v L, o = .returned v ∧ Q_l1 Z a1 p2 b h0 n0 v U'.heap L ∧ FrameEnd U o U' L ({ frames := 2, cells := 0, slots := 0, locals := 27 } : Room).cells ({ frames := 2, cells := 0, slots := 0, locals := 27 } : Room).slots) := by
  refine MetFree.of_bodySF (plainFor_of_name pn_6) hisR ?_
  intro p e s m args below meth cod_ s₁ Bd hml0 hP hK
  obtain ⟨rfl, hZ, hh⟩ := hP
  have hx := Bd.exec
  have hby := Bd.bytes
  have hml : cod_.maxLocals = 2 := hml0
  have hown : s.vm.findClass "java/lang/StringLatin1" = some m.cls := findClass_of_methodNamed Bd.named
  have hnm := (name_of_methodNamed Bd.named Bd.method).1
  have X0 : Stand p l e ({ frames := 2, cells := 0, slots := 0, locals := 27 } : Room) s m #[(.ref a1), (.int p2)] below meth cod_ s₁ [] 0 0 := Stand.of_body Bd
  have e0 : s₁.heap = h0 := by rw [← hh, Bd.state]; rfl
  have N0 := Fr.nil n0
  have pre0 : ∀ t, Steps p.tables e below (s₁.setTop (mkF m 0 #[.val (.ref a1), .val (.int p2)] [])) t → Steps p.tables e below (s₁.setTop (entryFrame m #[(.ref a1), (.int p2)] 2)) t := fun t k => castTop (ef_6 m a1 p2) k
  obtain ⟨cl8, Ar8, -, S8, M8, -, -⟩ := id (V_1)
  obtain ⟨_, _, ⟨T9, L9, c9_, n9_⟩, -, X9, ⟨Lc9, hQ9, l9, y9, z9⟩, st9⟩ := Jvm.LawKit.callS X0 hx (y := (⟨"java/lang/String", "checkIndex", "(II)V"⟩ : MethodName)) hown (mvT hZ (hw _ (List.mem_of_getElem? (i := 41) rfl))) (mvT hZ (hw _ (List.mem_of_getElem? (i := 42) rfl))) (mvT hZ (hw _ (List.mem_of_getElem? (i := 25) rfl))) (mvT hZ (hw _ (List.mem_of_getElem? (i := 43) rfl))) (by decide) (backOf (W := 0) (rm_ci l Z a0 hw [] p2 zz fm h0 n0 (Nat.le_trans Z0 (Keep.refl h0 []).1) u0 u1 rf S_F) hZ (hw _ (List.mem_of_getElem? (i := 43) rfl)) (hw _ (List.mem_of_getElem? (i := 25) rfl)) (by decide) (by decide)) (g := (mkF m 3 #[.val (.ref a1), .val (.int p2)] [(.int zz), (.int p2)])) rfl (by rw [hml]; rfl) (argsL := [(.int p2), (.int zz)]) (rest := []) (lenOf pd__28II_29V rfl) rfl (by show 2 * 0 + _ ≤ _; exact Nat.le_of_eq rfl) (hb hby d6_3) (fun _ _ => ⟨rfl, e0, (by decide : 0 + 0 ≤ _), (by decide : 0 + 0 ≤ _)⟩)
  dsimp only [Pt.U, Pt.locs, Pt.cells, Pt.slots] at X9 l9 y9 z9 st9 hQ9
  subst l9 y9 z9
  obtain ⟨rfl, Nq9, e9⟩ := hQ9
  have N9 := Fr.app N0 Nq9
  obtain ⟨cl10, Ar10, -, S10, M10, H10, G10⟩ := id (V_1)
  have hin10 : ¬ (p2 < 0 ∨ cl10.slots.size ≤ (p2).toNatClampNeg) := inb_of S10 ⟨u0, u1⟩
  have hat10 : cl10.slots[(p2).toNatClampNeg]? = some (.int b) := Has.at H10 hin10 hb_
  obtain ⟨fs, hr, hrun, hended, hW, hsame⟩ := X9.leave (v := some (.int (nar .char ((b &&& (255 : Int32)).toUInt32.toUInt16.toUInt32.toInt32)))) (fun h => by rw [Bd.returns] at h; cases h)
  refine ⟨_, _, pre0 _ ?_, hrun, hended, _, _, rfl, ?_, ⟨_, rfl⟩, hW, hsame.mono (by decide) (by decide)⟩
  · show Steps p.tables e below (s₁.setTop (mkF m 0 #[.val (.ref a1), .val (.int p2)] [])) _
    refine XS.iloadN X0.here hx rfl (hb hby d6_0) rfl ?_
    show Steps p.tables e below (s₁.setTop (mkF m 1 #[.val (.ref a1), .val (.int p2)] [(.int p2)])) _
    refine XS.aloadN X0.here hx rfl (hb hby d6_1) rfl rfl ?_
    show Steps p.tables e below (s₁.setTop (mkF m 2 #[.val (.ref a1), .val (.int p2)] [(.ref a1), (.int p2)])) _
    refine X0.arraylength hx (by rw [e0]; exact Ar8.1) (State.isArrayOf_alike hZ.alike Ar8.2.1) (g := (mkF m 2 #[.val (.ref a1), .val (.int p2)] [(.ref a1), (.int p2)])) rfl rfl (hb hby d6_2) _ ?_
    rw [len_of S8 M8]
    show Steps p.tables e below (s₁.setTop (mkF m 3 #[.val (.ref a1), .val (.int p2)] [(.int zz), (.int p2)])) _
    refine st9 _ ?_
    show Steps p.tables e below (T9.setTop (mkF m 6 #[.val (.ref a1), .val (.int p2)] [])) _
    refine XS.aloadN X9.here hx rfl (hb hby d6_6) rfl rfl ?_
    show Steps p.tables e below (T9.setTop (mkF m 7 #[.val (.ref a1), .val (.int p2)] [(.ref a1)])) _
    refine XS.iloadN X9.here hx rfl (hb hby d6_7) rfl ?_
    show Steps p.tables e below (T9.setTop (mkF m 8 #[.val (.ref a1), .val (.int p2)] [(.int p2), (.ref a1)])) _
    refine X9.baloadBytes hx (j := p2) (v := (.int b)) (by rw [e9]; exact Ar10.1) (State.isArrayOf_alike hZ.alike Ar10.2.1) Ar10.2.2 hin10 hat10 (g := (mkF m 8 #[.val (.ref a1), .val (.int p2)] [(.int p2), (.ref a1)])) rfl rfl (hb hby d6_8) _ ?_
    show Steps p.tables e below (T9.setTop (mkF m 9 #[.val (.ref a1), .val (.int p2)] [(.int b)])) _
    refine XS.sipush X9.here hx rfl (hb hby d6_9) ?_
    show Steps p.tables e below (T9.setTop (mkF m 12 #[.val (.ref a1), .val (.int p2)] [(.int (255 : Int32)), (.int b)])) _
    refine XS.iand X9.here hx rfl (hb hby d6_12) rfl ?_
    show Steps p.tables e below (T9.setTop (mkF m 13 #[.val (.ref a1), .val (.int p2)] [(.int (b &&& (255 : Int32)))])) _
    refine XS.i2c X9.here hx rfl (hb hby d6_13) rfl ?_
    show Steps p.tables e below (T9.setTop (mkF m 14 #[.val (.ref a1), .val (.int p2)] [(.int ((b &&& (255 : Int32)).toUInt32.toUInt16.toUInt32.toInt32))])) _
    exact retN X9 hx (t := .char) Bd.returns (by simp) (hb hby d6_14) hr
  · show Q_l1 Z a1 p2 b h0 n0 _ T9.heap _
    rw [e9]
    exact ⟨rfl, N9, rfl⟩
theorem d5_0 : decode jdk_42_method_154_code 0 = .ok (.getstatic 38, 3) := by decide +kernel
theorem d5_3 : decode jdk_42_method_154_code 3 = .ok (.ifCond .eq 14, 3) := by decide +kernel
theorem d5_6 : decode jdk_42_method_154_code 6 = .ok (.aload_n 0, 1) := by decide +kernel
theorem d5_7 : decode jdk_42_method_154_code 7 = .ok (.getfield 15, 3) := by decide +kernel
theorem d5_10 : decode jdk_42_method_154_code 10 = .ok (.ifCond .ne 7, 3) := by decide +kernel
theorem d5_13 : decode jdk_42_method_154_code 13 = .ok (.iconst 1, 1) := by decide +kernel
theorem d5_14 : decode jdk_42_method_154_code 14 = .ok (.goto 4, 3) := by decide +kernel
theorem d5_18 : decode jdk_42_method_154_code 18 = .ok (.ireturn, 1) := by decide +kernel
theorem pn_5 : plainName "java/lang/String" = true := by first | (simp [plainName, overriddenIn]; done) | decide +kernel
theorem ef_5 (m : MethodId) (x0 : Addr) : entryFrame m #[(.ref x0)] 1 = mkF m 0 #[.val (.ref x0)] [] := by first | (simp [entryFrame, mkF, argsToLocals, Value.category]; done) | rfl
def Q_lat (Z : State) (a1 : Addr) (h0 : Heap) (n0 : Nat) (v : Option Value) (h : Heap) (L : List Loc) : Prop := v = some (.int 1) ∧ Fr n0 L ∧ h = h0
set_option maxRecDepth 65536 in
set_option maxHeartbeats 40000000 in
theorem rm_lat (l : Launch) (Z : State) (a0 : Array Value) (hw : ∀ d ∈ tables_1, d.before a0 Z = true) (ws : List Jvm.Cond) (a1 : Addr) (zc : Int32) (h0 : Heap) (n0 : Nat) (Z0 : n0 ≤ h0.size) (S_COMPACT_STRINGS : Sta Z h0 "java/lang/String" "COMPACT_STRINGS" "Z" (.int zc)) (hz : ¬ zc = 0) (F_c : Fld Z h0 a1 "java/lang/String" "coder" "B" (.int (0 : Int32))) :
    MetFree l (⟨"java/lang/String", "isLatin1", "()Z"⟩ : MethodName) (head1 (Jvm.Cond.code (⟨"java/lang/String", "isLatin1", "()Z"⟩ : MethodName) jdk_42_method_154_code 1 (some .boolean) :: ws) ({ frames := 0, cells := 0, slots := 0, locals := 0 } : Room)) (fun a U => a = #[(.ref a1)] ∧ Z.Warmed39 U.vm ∧ U.heap = h0) (fun _ _ _ _ _ => True) (fun _ U o U' => ∃ v L, o = .returned v ∧ Q_lat Z a1 h0 n0 v U'.heap L ∧ FrameEnd U o U' L ({ frames := 0, cells := 0, slots := 0, locals := 0 } : Room).cells ({ frames := 0, cells := 0, slots := 0, locals := 0 } : Room).slots) := by
  refine MetFree.of_bodySF (plainFor_of_name pn_5) hisR ?_
  intro p e s m args below meth cod_ s₁ Bd hml0 hP hK
  obtain ⟨rfl, hZ, hh⟩ := hP
  have hx := Bd.exec
  have hby := Bd.bytes
  have hml : cod_.maxLocals = 1 := hml0
  have hown : s.vm.findClass "java/lang/String" = some m.cls := findClass_of_methodNamed Bd.named
  have hnm := (name_of_methodNamed Bd.named Bd.method).1
  have X0 : Stand p l e ({ frames := 0, cells := 0, slots := 0, locals := 0 } : Room) s m #[(.ref a1)] below meth cod_ s₁ [] 0 0 := Stand.of_body Bd
  have e0 : s₁.heap = h0 := by rw [← hh, Bd.state]; rfl
  have N0 := Fr.nil n0
  have pre0 : ∀ t, Steps p.tables e below (s₁.setTop (mkF m 0 #[.val (.ref a1)] [])) t → Steps p.tables e below (s₁.setTop (entryFrame m #[(.ref a1)] 1)) t := fun t k => castTop (ef_5 m a1) k
  obtain ⟨T11, X11, e11, st11⟩ := getS2 X0 hx hZ hown (host := "") (Or.inl (hw _ (List.mem_of_getElem? (i := 32) rfl))) Via.refl e0 S_COMPACT_STRINGS (g := (mkF m 0 #[.val (.ref a1)] [])) rfl (hb hby d5_0)
  have hc3 : ¬ (zc = (0 : Int32)) := hz
  obtain ⟨T12, X12, e12, st12⟩ := getF X11 hx hZ hown (host := "") (Or.inl (hw _ (List.mem_of_getElem? (i := 33) rfl))) Via.refl e11 F_c (g := (mkF m 7 #[.val (.ref a1)] [(.ref a1)])) rfl rfl (hb hby d5_7)
  have hc10 : (0 : Int32) = (0 : Int32) := rfl
  obtain ⟨fs, hr, hrun, hended, hW, hsame⟩ := X12.leave (v := some (.int (1 : Int32))) (fun h => by rw [Bd.returns] at h; cases h)
  refine ⟨_, _, pre0 _ ?_, hrun, hended, _, _, rfl, ?_, ⟨_, rfl⟩, hW, hsame.mono (by decide) (by decide)⟩
  · show Steps p.tables e below (s₁.setTop (mkF m 0 #[.val (.ref a1)] [])) _
    refine st11 _ ?_
    show Steps p.tables e below (T11.setTop (mkF m 3 #[.val (.ref a1)] [(.int zc)])) _
    refine XS.ifNo X11.here hx rfl (hb hby d5_3) rfl ((if0 _ _).trans (feq hc3).1) ?_
    show Steps p.tables e below (T11.setTop (mkF m 6 #[.val (.ref a1)] [])) _
    refine XS.aloadN X11.here hx rfl (hb hby d5_6) rfl rfl ?_
    show Steps p.tables e below (T11.setTop (mkF m 7 #[.val (.ref a1)] [(.ref a1)])) _
    refine st12 _ ?_
    show Steps p.tables e below (T12.setTop (mkF m 10 #[.val (.ref a1)] [(.int (0 : Int32))])) _
    refine XS.ifNo X12.here hx rfl (hb hby d5_10) rfl ((if0 _ _).trans (teq hc10).2) ?_
    show Steps p.tables e below (T12.setTop (mkF m 13 #[.val (.ref a1)] [])) _
    refine XS.iconst X12.here hx rfl (hb hby d5_13) ?_
    show Steps p.tables e below (T12.setTop (mkF m 14 #[.val (.ref a1)] [(.int (1 : Int32))])) _
    refine XS.goto X12.here hx rfl (pc0 := 14) (pc' := 18) rfl (hb hby d5_14) (by decide) (by decide) ?_
    show Steps p.tables e below (T12.setTop (mkF m 18 #[.val (.ref a1)] [(.int (1 : Int32))])) _
    exact retN X12 hx (t := .boolean) Bd.returns (by simp) (hb hby d5_18) hr
  · show Q_lat Z a1 h0 n0 _ T12.heap _
    rw [e12]
    exact ⟨rfl, N0, rfl⟩
theorem d4_0 : decode jdk_42_method_56_code 0 = .ok (.aload_n 0, 1) := by decide +kernel
theorem d4_1 : decode jdk_42_method_56_code 1 = .ok (.invokevirtual 492, 3) := by decide +kernel
theorem d4_4 : decode jdk_42_method_56_code 4 = .ok (.ifCond .eq 12, 3) := by decide +kernel
theorem d4_7 : decode jdk_42_method_56_code 7 = .ok (.aload_n 0, 1) := by decide +kernel
theorem d4_8 : decode jdk_42_method_56_code 8 = .ok (.getfield 9, 3) := by decide +kernel
theorem d4_11 : decode jdk_42_method_56_code 11 = .ok (.iload_n 1, 1) := by decide +kernel
theorem d4_12 : decode jdk_42_method_56_code 12 = .ok (.invokestatic 495, 3) := by decide +kernel
theorem d4_15 : decode jdk_42_method_56_code 15 = .ok (.ireturn, 1) := by decide +kernel
theorem pd__28_29Z : parseMethodDescriptor "()Z" = some ⟨[], some .boolean⟩ := by decide +kernel
theorem pd__28_5bBI_29C : parseMethodDescriptor "([BI)C" = some ⟨[(.array .byte), .int], some .char⟩ := by decide +kernel
theorem pn_4 : plainName "java/lang/String" = true := by first | (simp [plainName, overriddenIn]; done) | decide +kernel
theorem ef_4 (m : MethodId) (x0 : Addr) (x1 : Int32) : entryFrame m #[(.ref x0), (.int x1)] 2 = mkF m 0 #[.val (.ref x0), .val (.int x1)] [] := by first | (simp [entryFrame, mkF, argsToLocals, Value.category]; done) | rfl
def Q_ch (Z : State) (a1 : Addr) (p2 : Int32) (b : Int32) (h0 : Heap) (n0 : Nat) (v : Option Value) (h : Heap) (L : List Loc) : Prop := v = some (.int (nar .char (nar .char ((b &&& (255 : Int32)).toUInt32.toUInt16.toUInt32.toInt32)))) ∧ Fr n0 L ∧ h = h0
set_option maxRecDepth 65536 in
set_option maxHeartbeats 40000000 in
theorem rm_ch (l : Launch) (Z : State) (a0 : Array Value) (hw : ∀ d ∈ tables_1, d.before a0 Z = true) (ws : List Jvm.Cond) (a1 : Addr) (p2 : Int32) (b : Int32) (ta : Addr) (kk : ClassId) (zz : Int32) (vs : List Value) (fm : Value) (zc : Int32) (h0 : Heap) (n0 : Nat) (Z0 : n0 ≤ h0.size) (V_1 : Arv Z h0 ta kk .byte zz vs (.int (0 : Int32))) (u0 : ¬ p2 < 0) (u1 : p2 < zz) (hb_ : vs.getD p2.toNatClampNeg (.int (0 : Int32)) = .int b) (rf : fm.isRef = true) (S_F : Sta Z h0 "jdk/internal/util/Preconditions" "SIOOBE_FORMATTER" "Ljava/util/function/BiFunction;" fm) (S_C : Sta Z h0 "java/lang/String" "COMPACT_STRINGS" "Z" (.int zc)) (hz : ¬ zc = 0) (F_c : Fld Z h0 a1 "java/lang/String" "coder" "B" (.int (0 : Int32))) (F_v : Fld Z h0 a1 "java/lang/String" "value" "[B" (.ref ta)) (E_s : Exa Z h0 a1 "java/lang/String") :
    MetFree l (⟨"java/lang/String", "charAt", "(I)C"⟩ : MethodName) (head1 (Jvm.Cond.code (⟨"java/lang/String", "charAt", "(I)C"⟩ : MethodName) jdk_42_method_56_code 2 (some .char) :: ws) ({ frames := 3, cells := 0, slots := 0, locals := 40 } : Room)) (fun a U => a = #[(.ref a1), (.int p2)] ∧ Z.Warmed39 U.vm ∧ U.heap = h0) (fun _ _ _ _ _ => True) (fun _ U o U' => ∃ v L, o = .returned v ∧ Q_ch Z a1 p2 b h0 n0 v U'.heap L ∧ FrameEnd U o U' L ({ frames := 3, cells := 0, slots := 0, locals := 40 } : Room).cells ({ frames := 3, cells := 0, slots := 0, locals := 40 } : Room).slots) := by
  refine MetFree.of_bodySF (plainFor_of_name pn_4) hisR ?_
  intro p e s m args below meth cod_ s₁ Bd hml0 hP hK
  obtain ⟨rfl, hZ, hh⟩ := hP
  have hx := Bd.exec
  have hby := Bd.bytes
  have hml : cod_.maxLocals = 2 := hml0
  have hown : s.vm.findClass "java/lang/String" = some m.cls := findClass_of_methodNamed Bd.named
  have hnm := (name_of_methodNamed Bd.named Bd.method).1
  have X0 : Stand p l e ({ frames := 3, cells := 0, slots := 0, locals := 40 } : Room) s m #[(.ref a1), (.int p2)] below meth cod_ s₁ [] 0 0 := Stand.of_body Bd
  have e0 : s₁.heap = h0 := by rw [← hh, Bd.state]; rfl
  have N0 := Fr.nil n0
  have pre0 : ∀ t, Steps p.tables e below (s₁.setTop (mkF m 0 #[.val (.ref a1), .val (.int p2)] [])) t → Steps p.tables e below (s₁.setTop (entryFrame m #[(.ref a1), (.int p2)] 2)) t := fun t k => castTop (ef_4 m a1 p2) k
  obtain ⟨cq13, kq13, q13a, q13b, q13c⟩ := isOf hZ e0 E_s
  obtain ⟨_, _, ⟨T13, L13, c13_, n13_⟩, -, X13, ⟨Lc13, hQ13, l13, y13, z13⟩, st13⟩ := X0.virtualBack hx (y := (⟨"java/lang/String", "isLatin1", "()Z"⟩ : MethodName)) (z := (⟨"java/lang/String", "isLatin1", "()Z"⟩ : MethodName)) hown (mvT hZ (hw _ (List.mem_of_getElem? (i := 27) rfl))) (mvT hZ (hw _ (List.mem_of_getElem? (i := 28) rfl))) (notFace_of_selects (args := #[]) (mvT hZ (hw _ (List.mem_of_getElem? (i := 30) rfl)))) (mvT hZ (hw _ (List.mem_of_getElem? (i := 30) rfl))) (mvT hZ (hw _ (List.mem_of_getElem? (i := 29) rfl))) (by decide) (backOf (W := 0) (rm_lat l Z a0 hw [] a1 zc h0 n0 (Nat.le_trans Z0 (Keep.refl h0 []).1) S_C hz F_c) hZ (hw _ (List.mem_of_getElem? (i := 31) rfl)) (hw _ (List.mem_of_getElem? (i := 25) rfl)) (by decide) (by decide)) q13a q13c (g := (mkF m 1 #[.val (.ref a1), .val (.int p2)] [(.ref a1)])) rfl (by rw [hml]; rfl) (Steps.refl _) (argsL := []) (rest := []) (lenOf pd__28_29Z rfl) rfl (by show 2 * 0 + _ ≤ _; exact Nat.le_of_eq rfl) (hb hby d4_1) (fun _ _ => ⟨rfl, e0, (by decide : 0 + 0 ≤ _), (by decide : 0 + 0 ≤ _)⟩)
  dsimp only [Pt.U, Pt.locs, Pt.cells, Pt.slots] at X13 l13 y13 z13 st13 hQ13
  subst l13 y13 z13
  obtain ⟨rfl, Nq13, e13⟩ := hQ13
  have N13 := Fr.app N0 Nq13
  have hc4 : ¬ ((1 : Int32) = (0 : Int32)) := by decide
  obtain ⟨T14, X14, e14, st14⟩ := getF X13 hx hZ hown (host := "") (Or.inl (hw _ (List.mem_of_getElem? (i := 35) rfl))) Via.refl e13 F_v (g := (mkF m 8 #[.val (.ref a1), .val (.int p2)] [(.ref a1)])) rfl rfl (hb hby d4_8)
  obtain ⟨_, _, ⟨T15, L15, c15_, n15_⟩, -, X15, ⟨Lc15, hQ15, l15, y15, z15⟩, st15⟩ := Jvm.LawKit.callS X14 hx (y := (⟨"java/lang/StringLatin1", "charAt", "([BI)C"⟩ : MethodName)) hown (mvT hZ (hw _ (List.mem_of_getElem? (i := 37) rfl))) (mvT hZ (hw _ (List.mem_of_getElem? (i := 38) rfl))) (mvT hZ (hw _ (List.mem_of_getElem? (i := 39) rfl))) (mvT hZ (hw _ (List.mem_of_getElem? (i := 40) rfl))) (by decide) (backOf (W := 0) (rm_l1 l Z a0 hw [] ta p2 b kk zz vs fm h0 n0 (Nat.le_trans Z0 (Keep.refl h0 []).1) V_1 u0 u1 hb_ rf S_F) hZ (hw _ (List.mem_of_getElem? (i := 40) rfl)) (hw _ (List.mem_of_getElem? (i := 39) rfl)) (by decide) (by decide)) (g := (mkF m 12 #[.val (.ref a1), .val (.int p2)] [(.int p2), (.ref ta)])) rfl (by rw [hml]; rfl) (argsL := [(.ref ta), (.int p2)]) (rest := []) (lenOf pd__28_5bBI_29C rfl) rfl (by show 2 * 0 + _ ≤ _; exact Nat.le_of_eq rfl) (hb hby d4_12) (fun _ _ => ⟨rfl, e14, (by decide : 0 + 0 ≤ _), (by decide : 0 + 0 ≤ _)⟩)
  dsimp only [Pt.U, Pt.locs, Pt.cells, Pt.slots] at X15 l15 y15 z15 st15 hQ15
  subst l15 y15 z15
  obtain ⟨rfl, Nq15, e15⟩ := hQ15
  have N15 := Fr.app N13 Nq15
  obtain ⟨fs, hr, hrun, hended, hW, hsame⟩ := X15.leave (v := some (.int (nar .char (nar .char ((b &&& (255 : Int32)).toUInt32.toUInt16.toUInt32.toInt32))))) (fun h => by rw [Bd.returns] at h; cases h)
  refine ⟨_, _, pre0 _ ?_, hrun, hended, _, _, rfl, ?_, ⟨_, rfl⟩, hW, hsame.mono (by decide) (by decide)⟩
  · show Steps p.tables e below (s₁.setTop (mkF m 0 #[.val (.ref a1), .val (.int p2)] [])) _
    refine XS.aloadN X0.here hx rfl (hb hby d4_0) rfl rfl ?_
    show Steps p.tables e below (s₁.setTop (mkF m 1 #[.val (.ref a1), .val (.int p2)] [(.ref a1)])) _
    refine st13.trans ?_
    show Steps p.tables e below (T13.setTop (mkF m 4 #[.val (.ref a1), .val (.int p2)] [(.int (1 : Int32))])) _
    refine XS.ifNo X13.here hx rfl (hb hby d4_4) rfl ((if0 _ _).trans (feq hc4).1) ?_
    show Steps p.tables e below (T13.setTop (mkF m 7 #[.val (.ref a1), .val (.int p2)] [])) _
    refine XS.aloadN X13.here hx rfl (hb hby d4_7) rfl rfl ?_
    show Steps p.tables e below (T13.setTop (mkF m 8 #[.val (.ref a1), .val (.int p2)] [(.ref a1)])) _
    refine st14 _ ?_
    show Steps p.tables e below (T14.setTop (mkF m 11 #[.val (.ref a1), .val (.int p2)] [(.ref ta)])) _
    refine XS.iloadN X14.here hx rfl (hb hby d4_11) rfl ?_
    show Steps p.tables e below (T14.setTop (mkF m 12 #[.val (.ref a1), .val (.int p2)] [(.int p2), (.ref ta)])) _
    refine st15 _ ?_
    show Steps p.tables e below (T15.setTop (mkF m 15 #[.val (.ref a1), .val (.int p2)] [(.int (nar .char ((b &&& (255 : Int32)).toUInt32.toUInt16.toUInt32.toInt32)))])) _
    exact retN X15 hx (t := .char) Bd.returns (by simp) (hb hby d4_15) hr
  · show Q_ch Z a1 p2 b h0 n0 _ T15.heap _
    rw [e15]
    exact ⟨rfl, N15, rfl⟩
theorem d10_0 : decode jdk_37_method_2_code 0 = .ok (.aload_n 0, 1) := by decide +kernel
theorem d10_1 : decode jdk_37_method_2_code 1 = .ok (.getfield 7, 3) := by decide +kernel
theorem d10_4 : decode jdk_37_method_2_code 4 = .ok (.ireturn, 1) := by decide +kernel
theorem pn_10 : plainName "java/lang/Enum" = true := by first | (simp [plainName, overriddenIn]; done) | decide +kernel
theorem ef_10 (m : MethodId) (x0 : Addr) : entryFrame m #[(.ref x0)] 1 = mkF m 0 #[.val (.ref x0)] [] := by first | (simp [entryFrame, mkF, argsToLocals, Value.category]; done) | rfl
def Q_10 (Z : State) (a1 : Addr) (c : Int32) (h0 : Heap) (n0 : Nat) (v : Option Value) (h : Heap) (L : List Loc) : Prop := v = some (.int c) ∧ Fr n0 L ∧ h = h0
set_option maxRecDepth 65536 in
set_option maxHeartbeats 40000000 in
theorem rm_10 (l : Launch) (Z : State) (a0 : Array Value) (hw : ∀ d ∈ tables_1, d.before a0 Z = true) (ws : List Jvm.Cond) (a1 : Addr) (c : Int32) (h0 : Heap) (n0 : Nat) (Z0 : n0 ≤ h0.size) (F_c : Fld Z h0 a1 "java/lang/Enum" "ordinal" "I" (.int c)) :
    MetFree l (⟨"java/lang/Enum", "ordinal", "()I"⟩ : MethodName) (head1 (Jvm.Cond.code (⟨"java/lang/Enum", "ordinal", "()I"⟩ : MethodName) jdk_37_method_2_code 1 (some .int) :: ws) ({ frames := 0, cells := 0, slots := 0, locals := 0 } : Room)) (fun a U => a = #[(.ref a1)] ∧ Z.Warmed39 U.vm ∧ U.heap = h0) (fun _ _ _ _ _ => True) (fun _ U o U' => ∃ v L, o = .returned v ∧ Q_10 Z a1 c h0 n0 v U'.heap L ∧ FrameEnd U o U' L ({ frames := 0, cells := 0, slots := 0, locals := 0 } : Room).cells ({ frames := 0, cells := 0, slots := 0, locals := 0 } : Room).slots) := by
  refine MetFree.of_bodySF (plainFor_of_name pn_10) hisR ?_
  intro p e s m args below meth cod_ s₁ Bd hml0 hP hK
  obtain ⟨rfl, hZ, hh⟩ := hP
  have hx := Bd.exec
  have hby := Bd.bytes
  have hml : cod_.maxLocals = 1 := hml0
  have hown : s.vm.findClass "java/lang/Enum" = some m.cls := findClass_of_methodNamed Bd.named
  have hnm := (name_of_methodNamed Bd.named Bd.method).1
  have X0 : Stand p l e ({ frames := 0, cells := 0, slots := 0, locals := 0 } : Room) s m #[(.ref a1)] below meth cod_ s₁ [] 0 0 := Stand.of_body Bd
  have e0 : s₁.heap = h0 := by rw [← hh, Bd.state]; rfl
  have N0 := Fr.nil n0
  have pre0 : ∀ t, Steps p.tables e below (s₁.setTop (mkF m 0 #[.val (.ref a1)] [])) t → Steps p.tables e below (s₁.setTop (entryFrame m #[(.ref a1)] 1)) t := fun t k => castTop (ef_10 m a1) k
  obtain ⟨T16, X16, e16, st16⟩ := getF X0 hx hZ hown (host := "") (Or.inl (hw _ (List.mem_of_getElem? (i := 61) rfl))) Via.refl e0 F_c (g := (mkF m 1 #[.val (.ref a1)] [(.ref a1)])) rfl rfl (hb hby d10_1)
  obtain ⟨fs, hr, hrun, hended, hW, hsame⟩ := X16.leave (v := some (.int c)) (fun h => by rw [Bd.returns] at h; cases h)
  refine ⟨_, _, pre0 _ ?_, hrun, hended, _, _, rfl, ?_, ⟨_, rfl⟩, hW, hsame.mono (by decide) (by decide)⟩
  · show Steps p.tables e below (s₁.setTop (mkF m 0 #[.val (.ref a1)] [])) _
    refine XS.aloadN X0.here hx rfl (hb hby d10_0) rfl rfl ?_
    show Steps p.tables e below (s₁.setTop (mkF m 1 #[.val (.ref a1)] [(.ref a1)])) _
    refine st16 _ ?_
    show Steps p.tables e below (T16.setTop (mkF m 4 #[.val (.ref a1)] [(.int c)])) _
    exact retI X16 hx Bd.returns (hb hby d10_4) hr
  · show Q_10 Z a1 c h0 n0 _ T16.heap _
    rw [e16]
    exact ⟨rfl, N0, rfl⟩
theorem d9_0 : decode prog_31_method_6_code 0 = .ok (.aload_n 0, 1) := by decide +kernel
theorem d9_1 : decode prog_31_method_6_code 1 = .ok (.invokevirtual 45, 3) := by decide +kernel
theorem d9_4 : decode prog_31_method_6_code 4 = .ok (.tableswitch 101 0 4 #[36, 49, 62, 75, 88], 36) := by decide +kernel
theorem d9_40 : decode prog_31_method_6_code 40 = .ok (.iload_n 1, 1) := by decide +kernel
theorem d9_41 : decode prog_31_method_6_code 41 = .ok (.ifCond .ne 7, 3) := by decide +kernel
theorem d9_44 : decode prog_31_method_6_code 44 = .ok (.iconst 1, 1) := by decide +kernel
theorem d9_45 : decode prog_31_method_6_code 45 = .ok (.goto 4, 3) := by decide +kernel
theorem d9_48 : decode prog_31_method_6_code 48 = .ok (.iconst 0, 1) := by decide +kernel
theorem d9_49 : decode prog_31_method_6_code 49 = .ok (.istore_n 2, 1) := by decide +kernel
theorem d9_50 : decode prog_31_method_6_code 50 = .ok (.goto 65, 3) := by decide +kernel
theorem d9_53 : decode prog_31_method_6_code 53 = .ok (.iload_n 1, 1) := by decide +kernel
theorem d9_54 : decode prog_31_method_6_code 54 = .ok (.ifCond .eq 7, 3) := by decide +kernel
theorem d9_57 : decode prog_31_method_6_code 57 = .ok (.iconst 1, 1) := by decide +kernel
theorem d9_58 : decode prog_31_method_6_code 58 = .ok (.goto 4, 3) := by decide +kernel
theorem d9_61 : decode prog_31_method_6_code 61 = .ok (.iconst 0, 1) := by decide +kernel
theorem d9_62 : decode prog_31_method_6_code 62 = .ok (.istore_n 2, 1) := by decide +kernel
theorem d9_63 : decode prog_31_method_6_code 63 = .ok (.goto 52, 3) := by decide +kernel
theorem d9_66 : decode prog_31_method_6_code 66 = .ok (.iload_n 1, 1) := by decide +kernel
theorem d9_67 : decode prog_31_method_6_code 67 = .ok (.ifCond .gt 7, 3) := by decide +kernel
theorem d9_70 : decode prog_31_method_6_code 70 = .ok (.iconst 1, 1) := by decide +kernel
theorem d9_71 : decode prog_31_method_6_code 71 = .ok (.goto 4, 3) := by decide +kernel
theorem d9_74 : decode prog_31_method_6_code 74 = .ok (.iconst 0, 1) := by decide +kernel
theorem d9_75 : decode prog_31_method_6_code 75 = .ok (.istore_n 2, 1) := by decide +kernel
theorem d9_76 : decode prog_31_method_6_code 76 = .ok (.goto 39, 3) := by decide +kernel
theorem d9_79 : decode prog_31_method_6_code 79 = .ok (.iload_n 1, 1) := by decide +kernel
theorem d9_80 : decode prog_31_method_6_code 80 = .ok (.ifCond .lt 7, 3) := by decide +kernel
theorem d9_83 : decode prog_31_method_6_code 83 = .ok (.iconst 1, 1) := by decide +kernel
theorem d9_84 : decode prog_31_method_6_code 84 = .ok (.goto 4, 3) := by decide +kernel
theorem d9_87 : decode prog_31_method_6_code 87 = .ok (.iconst 0, 1) := by decide +kernel
theorem d9_88 : decode prog_31_method_6_code 88 = .ok (.istore_n 2, 1) := by decide +kernel
theorem d9_89 : decode prog_31_method_6_code 89 = .ok (.goto 26, 3) := by decide +kernel
theorem d9_92 : decode prog_31_method_6_code 92 = .ok (.iload_n 1, 1) := by decide +kernel
theorem d9_93 : decode prog_31_method_6_code 93 = .ok (.ifCond .ge 7, 3) := by decide +kernel
theorem d9_96 : decode prog_31_method_6_code 96 = .ok (.iconst 1, 1) := by decide +kernel
theorem d9_97 : decode prog_31_method_6_code 97 = .ok (.goto 4, 3) := by decide +kernel
theorem d9_100 : decode prog_31_method_6_code 100 = .ok (.iconst 0, 1) := by decide +kernel
theorem d9_101 : decode prog_31_method_6_code 101 = .ok (.istore_n 2, 1) := by decide +kernel
theorem d9_102 : decode prog_31_method_6_code 102 = .ok (.goto 13, 3) := by decide +kernel
theorem d9_105 : decode prog_31_method_6_code 105 = .ok (.iload_n 1, 1) := by decide +kernel
theorem d9_106 : decode prog_31_method_6_code 106 = .ok (.ifCond .le 7, 3) := by decide +kernel
theorem d9_109 : decode prog_31_method_6_code 109 = .ok (.iconst 1, 1) := by decide +kernel
theorem d9_110 : decode prog_31_method_6_code 110 = .ok (.goto 4, 3) := by decide +kernel
theorem d9_113 : decode prog_31_method_6_code 113 = .ok (.iconst 0, 1) := by decide +kernel
theorem d9_114 : decode prog_31_method_6_code 114 = .ok (.istore_n 2, 1) := by decide +kernel
theorem d9_115 : decode prog_31_method_6_code 115 = .ok (.iload_n 2, 1) := by decide +kernel
theorem d9_116 : decode prog_31_method_6_code 116 = .ok (.ireturn, 1) := by decide +kernel
theorem pd__28_29I : parseMethodDescriptor "()I" = some ⟨[], some .int⟩ := by decide +kernel
theorem pn_9 : plainName "com/example/furlong/furlong/model/Condition$Operator" = true := by first | (simp [plainName, overriddenIn]; done) | decide +kernel
theorem ef_9 (m : MethodId) (x0 : Addr) (x1 : Int32) : entryFrame m #[(.ref x0), (.int x1)] 3 = mkF m 0 #[.val (.ref x0), .val (.int x1), .unset] [] := by first | (simp [entryFrame, mkF, argsToLocals, Value.category]; done) | rfl
def Q_9 (Z : State) (a1 : Addr) (p2 : Int32) (c : Int32) (h0 : Heap) (n0 : Nat) (v : Option Value) (h : Heap) (L : List Loc) : Prop := v = some (.int (own_holds c p2)) ∧ Fr n0 L ∧ h = h0
set_option maxRecDepth 65536 in
set_option maxHeartbeats 40000000 in
theorem rm_9 (l : Launch) (Z : State) (a0 : Array Value) (hw : ∀ d ∈ tables_1, d.before a0 Z = true) (ws : List Jvm.Cond) (a1 : Addr) (p2 : Int32) (c : Int32) (h0 : Heap) (n0 : Nat) (Z0 : n0 ≤ h0.size) (F_c : Fld Z h0 a1 "java/lang/Enum" "ordinal" "I" (.int c)) (E_1 : Exa Z h0 a1 "com/example/furlong/furlong/model/Condition$Operator") :
    MetFree l (⟨"com/example/furlong/furlong/model/Condition$Operator", "holds", "(I)Z"⟩ : MethodName) (head1 (Jvm.Cond.code (⟨"com/example/furlong/furlong/model/Condition$Operator", "holds", "(I)Z"⟩ : MethodName) prog_31_method_6_code 3 (some .boolean) :: ws) ({ frames := 1, cells := 0, slots := 0, locals := 12 } : Room)) (fun a U => a = #[(.ref a1), (.int p2)] ∧ Z.Warmed39 U.vm ∧ U.heap = h0) (fun _ _ _ _ _ => True) (fun _ U o U' => ∃ v L, o = .returned v ∧ Q_9 Z a1 p2 c h0 n0 v U'.heap L ∧ FrameEnd U o U' L ({ frames := 1, cells := 0, slots := 0, locals := 12 } : Room).cells ({ frames := 1, cells := 0, slots := 0, locals := 12 } : Room).slots) := by
  refine MetFree.of_bodySF (plainFor_of_name pn_9) hisR ?_
  intro p e s m args below meth cod_ s₁ Bd hml0 hP hK
  obtain ⟨rfl, hZ, hh⟩ := hP
  have hx := Bd.exec
  have hby := Bd.bytes
  have hml : cod_.maxLocals = 3 := hml0
  have hown : s.vm.findClass "com/example/furlong/furlong/model/Condition$Operator" = some m.cls := findClass_of_methodNamed Bd.named
  have hnm := (name_of_methodNamed Bd.named Bd.method).1
  have X0 : Stand p l e ({ frames := 1, cells := 0, slots := 0, locals := 12 } : Room) s m #[(.ref a1), (.int p2)] below meth cod_ s₁ [] 0 0 := Stand.of_body Bd
  have e0 : s₁.heap = h0 := by rw [← hh, Bd.state]; rfl
  have N0 := Fr.nil n0
  have pre0 : ∀ t, Steps p.tables e below (s₁.setTop (mkF m 0 #[.val (.ref a1), .val (.int p2), .unset] [])) t → Steps p.tables e below (s₁.setTop (entryFrame m #[(.ref a1), (.int p2)] 3)) t := fun t k => castTop (ef_9 m a1 p2) k
  obtain ⟨cq17, kq17, q17a, q17b, q17c⟩ := isOf hZ e0 E_1
  obtain ⟨_, _, ⟨T17, L17, c17_, n17_⟩, -, X17, ⟨Lc17, hQ17, l17, y17, z17⟩, st17⟩ := X0.virtualBackUp hx (x := (⟨"com/example/furlong/furlong/model/Condition$Operator", "ordinal", "()I"⟩ : MethodName)) (y := (⟨"java/lang/Enum", "ordinal", "()I"⟩ : MethodName)) hown (mvT hZ (hw _ (List.mem_of_getElem? (i := 54) rfl))) (mvT hZ (hw _ (List.mem_of_getElem? (i := 55) rfl))) (mvT hZ (hw _ (List.mem_of_getElem? (i := 56) rfl))) (by decide) (mvT hZ (hw _ (List.mem_of_getElem? (i := 58) rfl))) (mvT hZ (hw _ (List.mem_of_getElem? (i := 57) rfl))) (backOf (W := 0) (rm_10 l Z a0 hw [] a1 c h0 n0 (Nat.le_trans Z0 (Keep.refl h0 []).1) F_c) hZ (hw _ (List.mem_of_getElem? (i := 60) rfl)) (hw _ (List.mem_of_getElem? (i := 59) rfl)) (by decide) (by decide)) q17a q17c (g := (mkF m 1 #[.val (.ref a1), .val (.int p2), .unset] [(.ref a1)])) rfl (by rw [hml]; rfl) (Steps.refl _) (argsL := []) (rest := []) (lenOf pd__28_29I rfl) rfl (by show 2 * 0 + _ ≤ _; exact Nat.le_of_eq rfl) (hb hby d9_1) (fun _ _ => ⟨rfl, e0, (by decide : 0 + 0 ≤ _), (by decide : 0 + 0 ≤ _)⟩)
  dsimp only [Pt.U, Pt.locs, Pt.cells, Pt.slots] at X17 l17 y17 z17 st17 hQ17
  subst l17 y17 z17
  obtain ⟨rfl, Nq17, e17⟩ := hQ17
  have N17 := Fr.app N0 Nq17
  by_cases hs4_0 : c = (0 : Int32)
  · by_cases hc41 : p2 = (0 : Int32)
    · obtain ⟨fs, hr, hrun, hended, hW, hsame⟩ := X17.leave (v := some (.int (1 : Int32))) (fun h => by rw [Bd.returns] at h; cases h)
      refine ⟨_, _, pre0 _ ?_, hrun, hended, _, _, rfl, ?_, ⟨_, rfl⟩, hW, hsame.mono (by decide) (by decide)⟩
      · show Steps p.tables e below (s₁.setTop (mkF m 0 #[.val (.ref a1), .val (.int p2), .unset] [])) _
        refine XS.aloadN X0.here hx rfl (hb hby d9_0) rfl rfl ?_
        show Steps p.tables e below (s₁.setTop (mkF m 1 #[.val (.ref a1), .val (.int p2), .unset] [(.ref a1)])) _
        refine st17.trans ?_
        show Steps p.tables e below (T17.setTop (mkF m 4 #[.val (.ref a1), .val (.int p2), .unset] [(.int c)])) _
        refine XS.tswIn X17.here hx rfl (pc0 := 4) (pc' := 40) (o := 36) rfl (hb hby d9_4) rfl (by rw [hs4_0]; decide) (by rw [hs4_0]; rfl) (by decide) (by decide) ?_
        show Steps p.tables e below (T17.setTop (mkF m 40 #[.val (.ref a1), .val (.int p2), .unset] [])) _
        refine XS.iloadN X17.here hx rfl (hb hby d9_40) rfl ?_
        show Steps p.tables e below (T17.setTop (mkF m 41 #[.val (.ref a1), .val (.int p2), .unset] [(.int p2)])) _
        refine XS.ifNo X17.here hx rfl (hb hby d9_41) rfl ((if0 _ _).trans (teq hc41).2) ?_
        show Steps p.tables e below (T17.setTop (mkF m 44 #[.val (.ref a1), .val (.int p2), .unset] [])) _
        refine XS.iconst X17.here hx rfl (hb hby d9_44) ?_
        show Steps p.tables e below (T17.setTop (mkF m 45 #[.val (.ref a1), .val (.int p2), .unset] [(.int (1 : Int32))])) _
        refine XS.goto X17.here hx rfl (pc0 := 45) (pc' := 49) rfl (hb hby d9_45) (by decide) (by decide) ?_
        show Steps p.tables e below (T17.setTop (mkF m 49 #[.val (.ref a1), .val (.int p2), .unset] [(.int (1 : Int32))])) _
        refine XS.istoreN X17.here hx rfl (hb hby d9_49) rfl (l' := #[.val (.ref a1), .val (.int p2), .val (.int (1 : Int32))]) rfl ?_
        show Steps p.tables e below (T17.setTop (mkF m 50 #[.val (.ref a1), .val (.int p2), .val (.int (1 : Int32))] [])) _
        refine XS.goto X17.here hx rfl (pc0 := 50) (pc' := 115) rfl (hb hby d9_50) (by decide) (by decide) ?_
        show Steps p.tables e below (T17.setTop (mkF m 115 #[.val (.ref a1), .val (.int p2), .val (.int (1 : Int32))] [])) _
        refine XS.iloadN X17.here hx rfl (hb hby d9_115) rfl ?_
        show Steps p.tables e below (T17.setTop (mkF m 116 #[.val (.ref a1), .val (.int p2), .val (.int (1 : Int32))] [(.int (1 : Int32))])) _
        exact retN X17 hx (t := .boolean) Bd.returns (by simp) (hb hby d9_116) hr
      · show Q_9 Z a1 p2 c h0 n0 _ T17.heap _
        rw [e17]
        exact ⟨by simp [own_holds, hs4_0, hc41], N17, rfl⟩
    · obtain ⟨fs, hr, hrun, hended, hW, hsame⟩ := X17.leave (v := some (.int (0 : Int32))) (fun h => by rw [Bd.returns] at h; cases h)
      refine ⟨_, _, pre0 _ ?_, hrun, hended, _, _, rfl, ?_, ⟨_, rfl⟩, hW, hsame.mono (by decide) (by decide)⟩
      · show Steps p.tables e below (s₁.setTop (mkF m 0 #[.val (.ref a1), .val (.int p2), .unset] [])) _
        refine XS.aloadN X0.here hx rfl (hb hby d9_0) rfl rfl ?_
        show Steps p.tables e below (s₁.setTop (mkF m 1 #[.val (.ref a1), .val (.int p2), .unset] [(.ref a1)])) _
        refine st17.trans ?_
        show Steps p.tables e below (T17.setTop (mkF m 4 #[.val (.ref a1), .val (.int p2), .unset] [(.int c)])) _
        refine XS.tswIn X17.here hx rfl (pc0 := 4) (pc' := 40) (o := 36) rfl (hb hby d9_4) rfl (by rw [hs4_0]; decide) (by rw [hs4_0]; rfl) (by decide) (by decide) ?_
        show Steps p.tables e below (T17.setTop (mkF m 40 #[.val (.ref a1), .val (.int p2), .unset] [])) _
        refine XS.iloadN X17.here hx rfl (hb hby d9_40) rfl ?_
        show Steps p.tables e below (T17.setTop (mkF m 41 #[.val (.ref a1), .val (.int p2), .unset] [(.int p2)])) _
        refine XS.ifYes X17.here hx rfl (pc0 := 41) (pc' := 48) rfl (hb hby d9_41) rfl ((if0 _ _).trans (feq hc41).2) (by decide) (by decide) ?_
        show Steps p.tables e below (T17.setTop (mkF m 48 #[.val (.ref a1), .val (.int p2), .unset] [])) _
        refine XS.iconst X17.here hx rfl (hb hby d9_48) ?_
        show Steps p.tables e below (T17.setTop (mkF m 49 #[.val (.ref a1), .val (.int p2), .unset] [(.int (0 : Int32))])) _
        refine XS.istoreN X17.here hx rfl (hb hby d9_49) rfl (l' := #[.val (.ref a1), .val (.int p2), .val (.int (0 : Int32))]) rfl ?_
        show Steps p.tables e below (T17.setTop (mkF m 50 #[.val (.ref a1), .val (.int p2), .val (.int (0 : Int32))] [])) _
        refine XS.goto X17.here hx rfl (pc0 := 50) (pc' := 115) rfl (hb hby d9_50) (by decide) (by decide) ?_
        show Steps p.tables e below (T17.setTop (mkF m 115 #[.val (.ref a1), .val (.int p2), .val (.int (0 : Int32))] [])) _
        refine XS.iloadN X17.here hx rfl (hb hby d9_115) rfl ?_
        show Steps p.tables e below (T17.setTop (mkF m 116 #[.val (.ref a1), .val (.int p2), .val (.int (0 : Int32))] [(.int (0 : Int32))])) _
        exact retN X17 hx (t := .boolean) Bd.returns (by simp) (hb hby d9_116) hr
      · show Q_9 Z a1 p2 c h0 n0 _ T17.heap _
        rw [e17]
        exact ⟨by simp [own_holds, hs4_0, hc41], N17, rfl⟩
  by_cases hs4_1 : c = (1 : Int32)
  · by_cases hc54 : p2 = (0 : Int32)
    · obtain ⟨fs, hr, hrun, hended, hW, hsame⟩ := X17.leave (v := some (.int (0 : Int32))) (fun h => by rw [Bd.returns] at h; cases h)
      refine ⟨_, _, pre0 _ ?_, hrun, hended, _, _, rfl, ?_, ⟨_, rfl⟩, hW, hsame.mono (by decide) (by decide)⟩
      · show Steps p.tables e below (s₁.setTop (mkF m 0 #[.val (.ref a1), .val (.int p2), .unset] [])) _
        refine XS.aloadN X0.here hx rfl (hb hby d9_0) rfl rfl ?_
        show Steps p.tables e below (s₁.setTop (mkF m 1 #[.val (.ref a1), .val (.int p2), .unset] [(.ref a1)])) _
        refine st17.trans ?_
        show Steps p.tables e below (T17.setTop (mkF m 4 #[.val (.ref a1), .val (.int p2), .unset] [(.int c)])) _
        refine XS.tswIn X17.here hx rfl (pc0 := 4) (pc' := 53) (o := 49) rfl (hb hby d9_4) rfl (by rw [hs4_1]; decide) (by rw [hs4_1]; rfl) (by decide) (by decide) ?_
        show Steps p.tables e below (T17.setTop (mkF m 53 #[.val (.ref a1), .val (.int p2), .unset] [])) _
        refine XS.iloadN X17.here hx rfl (hb hby d9_53) rfl ?_
        show Steps p.tables e below (T17.setTop (mkF m 54 #[.val (.ref a1), .val (.int p2), .unset] [(.int p2)])) _
        refine XS.ifYes X17.here hx rfl (pc0 := 54) (pc' := 61) rfl (hb hby d9_54) rfl ((if0 _ _).trans (teq hc54).1) (by decide) (by decide) ?_
        show Steps p.tables e below (T17.setTop (mkF m 61 #[.val (.ref a1), .val (.int p2), .unset] [])) _
        refine XS.iconst X17.here hx rfl (hb hby d9_61) ?_
        show Steps p.tables e below (T17.setTop (mkF m 62 #[.val (.ref a1), .val (.int p2), .unset] [(.int (0 : Int32))])) _
        refine XS.istoreN X17.here hx rfl (hb hby d9_62) rfl (l' := #[.val (.ref a1), .val (.int p2), .val (.int (0 : Int32))]) rfl ?_
        show Steps p.tables e below (T17.setTop (mkF m 63 #[.val (.ref a1), .val (.int p2), .val (.int (0 : Int32))] [])) _
        refine XS.goto X17.here hx rfl (pc0 := 63) (pc' := 115) rfl (hb hby d9_63) (by decide) (by decide) ?_
        show Steps p.tables e below (T17.setTop (mkF m 115 #[.val (.ref a1), .val (.int p2), .val (.int (0 : Int32))] [])) _
        refine XS.iloadN X17.here hx rfl (hb hby d9_115) rfl ?_
        show Steps p.tables e below (T17.setTop (mkF m 116 #[.val (.ref a1), .val (.int p2), .val (.int (0 : Int32))] [(.int (0 : Int32))])) _
        exact retN X17 hx (t := .boolean) Bd.returns (by simp) (hb hby d9_116) hr
      · show Q_9 Z a1 p2 c h0 n0 _ T17.heap _
        rw [e17]
        exact ⟨by simp [own_holds, hs4_1, hc54], N17, rfl⟩
    · obtain ⟨fs, hr, hrun, hended, hW, hsame⟩ := X17.leave (v := some (.int (1 : Int32))) (fun h => by rw [Bd.returns] at h; cases h)
      refine ⟨_, _, pre0 _ ?_, hrun, hended, _, _, rfl, ?_, ⟨_, rfl⟩, hW, hsame.mono (by decide) (by decide)⟩
      · show Steps p.tables e below (s₁.setTop (mkF m 0 #[.val (.ref a1), .val (.int p2), .unset] [])) _
        refine XS.aloadN X0.here hx rfl (hb hby d9_0) rfl rfl ?_
        show Steps p.tables e below (s₁.setTop (mkF m 1 #[.val (.ref a1), .val (.int p2), .unset] [(.ref a1)])) _
        refine st17.trans ?_
        show Steps p.tables e below (T17.setTop (mkF m 4 #[.val (.ref a1), .val (.int p2), .unset] [(.int c)])) _
        refine XS.tswIn X17.here hx rfl (pc0 := 4) (pc' := 53) (o := 49) rfl (hb hby d9_4) rfl (by rw [hs4_1]; decide) (by rw [hs4_1]; rfl) (by decide) (by decide) ?_
        show Steps p.tables e below (T17.setTop (mkF m 53 #[.val (.ref a1), .val (.int p2), .unset] [])) _
        refine XS.iloadN X17.here hx rfl (hb hby d9_53) rfl ?_
        show Steps p.tables e below (T17.setTop (mkF m 54 #[.val (.ref a1), .val (.int p2), .unset] [(.int p2)])) _
        refine XS.ifNo X17.here hx rfl (hb hby d9_54) rfl ((if0 _ _).trans (feq hc54).1) ?_
        show Steps p.tables e below (T17.setTop (mkF m 57 #[.val (.ref a1), .val (.int p2), .unset] [])) _
        refine XS.iconst X17.here hx rfl (hb hby d9_57) ?_
        show Steps p.tables e below (T17.setTop (mkF m 58 #[.val (.ref a1), .val (.int p2), .unset] [(.int (1 : Int32))])) _
        refine XS.goto X17.here hx rfl (pc0 := 58) (pc' := 62) rfl (hb hby d9_58) (by decide) (by decide) ?_
        show Steps p.tables e below (T17.setTop (mkF m 62 #[.val (.ref a1), .val (.int p2), .unset] [(.int (1 : Int32))])) _
        refine XS.istoreN X17.here hx rfl (hb hby d9_62) rfl (l' := #[.val (.ref a1), .val (.int p2), .val (.int (1 : Int32))]) rfl ?_
        show Steps p.tables e below (T17.setTop (mkF m 63 #[.val (.ref a1), .val (.int p2), .val (.int (1 : Int32))] [])) _
        refine XS.goto X17.here hx rfl (pc0 := 63) (pc' := 115) rfl (hb hby d9_63) (by decide) (by decide) ?_
        show Steps p.tables e below (T17.setTop (mkF m 115 #[.val (.ref a1), .val (.int p2), .val (.int (1 : Int32))] [])) _
        refine XS.iloadN X17.here hx rfl (hb hby d9_115) rfl ?_
        show Steps p.tables e below (T17.setTop (mkF m 116 #[.val (.ref a1), .val (.int p2), .val (.int (1 : Int32))] [(.int (1 : Int32))])) _
        exact retN X17 hx (t := .boolean) Bd.returns (by simp) (hb hby d9_116) hr
      · show Q_9 Z a1 p2 c h0 n0 _ T17.heap _
        rw [e17]
        exact ⟨by simp [own_holds, hs4_1, hc54], N17, rfl⟩
  by_cases hs4_2 : c = (2 : Int32)
  · by_cases hc67 : (0 : Int32) < p2
    · obtain ⟨fs, hr, hrun, hended, hW, hsame⟩ := X17.leave (v := some (.int (0 : Int32))) (fun h => by rw [Bd.returns] at h; cases h)
      refine ⟨_, _, pre0 _ ?_, hrun, hended, _, _, rfl, ?_, ⟨_, rfl⟩, hW, hsame.mono (by decide) (by decide)⟩
      · show Steps p.tables e below (s₁.setTop (mkF m 0 #[.val (.ref a1), .val (.int p2), .unset] [])) _
        refine XS.aloadN X0.here hx rfl (hb hby d9_0) rfl rfl ?_
        show Steps p.tables e below (s₁.setTop (mkF m 1 #[.val (.ref a1), .val (.int p2), .unset] [(.ref a1)])) _
        refine st17.trans ?_
        show Steps p.tables e below (T17.setTop (mkF m 4 #[.val (.ref a1), .val (.int p2), .unset] [(.int c)])) _
        refine XS.tswIn X17.here hx rfl (pc0 := 4) (pc' := 66) (o := 62) rfl (hb hby d9_4) rfl (by rw [hs4_2]; decide) (by rw [hs4_2]; rfl) (by decide) (by decide) ?_
        show Steps p.tables e below (T17.setTop (mkF m 66 #[.val (.ref a1), .val (.int p2), .unset] [])) _
        refine XS.iloadN X17.here hx rfl (hb hby d9_66) rfl ?_
        show Steps p.tables e below (T17.setTop (mkF m 67 #[.val (.ref a1), .val (.int p2), .unset] [(.int p2)])) _
        refine XS.ifYes X17.here hx rfl (pc0 := 67) (pc' := 74) rfl (hb hby d9_67) rfl ((if0 _ _).trans (tlt hc67).2.2.1) (by decide) (by decide) ?_
        show Steps p.tables e below (T17.setTop (mkF m 74 #[.val (.ref a1), .val (.int p2), .unset] [])) _
        refine XS.iconst X17.here hx rfl (hb hby d9_74) ?_
        show Steps p.tables e below (T17.setTop (mkF m 75 #[.val (.ref a1), .val (.int p2), .unset] [(.int (0 : Int32))])) _
        refine XS.istoreN X17.here hx rfl (hb hby d9_75) rfl (l' := #[.val (.ref a1), .val (.int p2), .val (.int (0 : Int32))]) rfl ?_
        show Steps p.tables e below (T17.setTop (mkF m 76 #[.val (.ref a1), .val (.int p2), .val (.int (0 : Int32))] [])) _
        refine XS.goto X17.here hx rfl (pc0 := 76) (pc' := 115) rfl (hb hby d9_76) (by decide) (by decide) ?_
        show Steps p.tables e below (T17.setTop (mkF m 115 #[.val (.ref a1), .val (.int p2), .val (.int (0 : Int32))] [])) _
        refine XS.iloadN X17.here hx rfl (hb hby d9_115) rfl ?_
        show Steps p.tables e below (T17.setTop (mkF m 116 #[.val (.ref a1), .val (.int p2), .val (.int (0 : Int32))] [(.int (0 : Int32))])) _
        exact retN X17 hx (t := .boolean) Bd.returns (by simp) (hb hby d9_116) hr
      · show Q_9 Z a1 p2 c h0 n0 _ T17.heap _
        rw [e17]
        exact ⟨by simp [own_holds, hs4_2, hc67], N17, rfl⟩
    · obtain ⟨fs, hr, hrun, hended, hW, hsame⟩ := X17.leave (v := some (.int (1 : Int32))) (fun h => by rw [Bd.returns] at h; cases h)
      refine ⟨_, _, pre0 _ ?_, hrun, hended, _, _, rfl, ?_, ⟨_, rfl⟩, hW, hsame.mono (by decide) (by decide)⟩
      · show Steps p.tables e below (s₁.setTop (mkF m 0 #[.val (.ref a1), .val (.int p2), .unset] [])) _
        refine XS.aloadN X0.here hx rfl (hb hby d9_0) rfl rfl ?_
        show Steps p.tables e below (s₁.setTop (mkF m 1 #[.val (.ref a1), .val (.int p2), .unset] [(.ref a1)])) _
        refine st17.trans ?_
        show Steps p.tables e below (T17.setTop (mkF m 4 #[.val (.ref a1), .val (.int p2), .unset] [(.int c)])) _
        refine XS.tswIn X17.here hx rfl (pc0 := 4) (pc' := 66) (o := 62) rfl (hb hby d9_4) rfl (by rw [hs4_2]; decide) (by rw [hs4_2]; rfl) (by decide) (by decide) ?_
        show Steps p.tables e below (T17.setTop (mkF m 66 #[.val (.ref a1), .val (.int p2), .unset] [])) _
        refine XS.iloadN X17.here hx rfl (hb hby d9_66) rfl ?_
        show Steps p.tables e below (T17.setTop (mkF m 67 #[.val (.ref a1), .val (.int p2), .unset] [(.int p2)])) _
        refine XS.ifNo X17.here hx rfl (hb hby d9_67) rfl ((if0 _ _).trans (flt hc67).2.2.1) ?_
        show Steps p.tables e below (T17.setTop (mkF m 70 #[.val (.ref a1), .val (.int p2), .unset] [])) _
        refine XS.iconst X17.here hx rfl (hb hby d9_70) ?_
        show Steps p.tables e below (T17.setTop (mkF m 71 #[.val (.ref a1), .val (.int p2), .unset] [(.int (1 : Int32))])) _
        refine XS.goto X17.here hx rfl (pc0 := 71) (pc' := 75) rfl (hb hby d9_71) (by decide) (by decide) ?_
        show Steps p.tables e below (T17.setTop (mkF m 75 #[.val (.ref a1), .val (.int p2), .unset] [(.int (1 : Int32))])) _
        refine XS.istoreN X17.here hx rfl (hb hby d9_75) rfl (l' := #[.val (.ref a1), .val (.int p2), .val (.int (1 : Int32))]) rfl ?_
        show Steps p.tables e below (T17.setTop (mkF m 76 #[.val (.ref a1), .val (.int p2), .val (.int (1 : Int32))] [])) _
        refine XS.goto X17.here hx rfl (pc0 := 76) (pc' := 115) rfl (hb hby d9_76) (by decide) (by decide) ?_
        show Steps p.tables e below (T17.setTop (mkF m 115 #[.val (.ref a1), .val (.int p2), .val (.int (1 : Int32))] [])) _
        refine XS.iloadN X17.here hx rfl (hb hby d9_115) rfl ?_
        show Steps p.tables e below (T17.setTop (mkF m 116 #[.val (.ref a1), .val (.int p2), .val (.int (1 : Int32))] [(.int (1 : Int32))])) _
        exact retN X17 hx (t := .boolean) Bd.returns (by simp) (hb hby d9_116) hr
      · show Q_9 Z a1 p2 c h0 n0 _ T17.heap _
        rw [e17]
        exact ⟨by simp [own_holds, hs4_2, hc67], N17, rfl⟩
  by_cases hs4_3 : c = (3 : Int32)
  · by_cases hc80 : p2 < (0 : Int32)
    · obtain ⟨fs, hr, hrun, hended, hW, hsame⟩ := X17.leave (v := some (.int (0 : Int32))) (fun h => by rw [Bd.returns] at h; cases h)
      refine ⟨_, _, pre0 _ ?_, hrun, hended, _, _, rfl, ?_, ⟨_, rfl⟩, hW, hsame.mono (by decide) (by decide)⟩
      · show Steps p.tables e below (s₁.setTop (mkF m 0 #[.val (.ref a1), .val (.int p2), .unset] [])) _
        refine XS.aloadN X0.here hx rfl (hb hby d9_0) rfl rfl ?_
        show Steps p.tables e below (s₁.setTop (mkF m 1 #[.val (.ref a1), .val (.int p2), .unset] [(.ref a1)])) _
        refine st17.trans ?_
        show Steps p.tables e below (T17.setTop (mkF m 4 #[.val (.ref a1), .val (.int p2), .unset] [(.int c)])) _
        refine XS.tswIn X17.here hx rfl (pc0 := 4) (pc' := 79) (o := 75) rfl (hb hby d9_4) rfl (by rw [hs4_3]; decide) (by rw [hs4_3]; rfl) (by decide) (by decide) ?_
        show Steps p.tables e below (T17.setTop (mkF m 79 #[.val (.ref a1), .val (.int p2), .unset] [])) _
        refine XS.iloadN X17.here hx rfl (hb hby d9_79) rfl ?_
        show Steps p.tables e below (T17.setTop (mkF m 80 #[.val (.ref a1), .val (.int p2), .unset] [(.int p2)])) _
        refine XS.ifYes X17.here hx rfl (pc0 := 80) (pc' := 87) rfl (hb hby d9_80) rfl ((if0 _ _).trans (tlt hc80).1) (by decide) (by decide) ?_
        show Steps p.tables e below (T17.setTop (mkF m 87 #[.val (.ref a1), .val (.int p2), .unset] [])) _
        refine XS.iconst X17.here hx rfl (hb hby d9_87) ?_
        show Steps p.tables e below (T17.setTop (mkF m 88 #[.val (.ref a1), .val (.int p2), .unset] [(.int (0 : Int32))])) _
        refine XS.istoreN X17.here hx rfl (hb hby d9_88) rfl (l' := #[.val (.ref a1), .val (.int p2), .val (.int (0 : Int32))]) rfl ?_
        show Steps p.tables e below (T17.setTop (mkF m 89 #[.val (.ref a1), .val (.int p2), .val (.int (0 : Int32))] [])) _
        refine XS.goto X17.here hx rfl (pc0 := 89) (pc' := 115) rfl (hb hby d9_89) (by decide) (by decide) ?_
        show Steps p.tables e below (T17.setTop (mkF m 115 #[.val (.ref a1), .val (.int p2), .val (.int (0 : Int32))] [])) _
        refine XS.iloadN X17.here hx rfl (hb hby d9_115) rfl ?_
        show Steps p.tables e below (T17.setTop (mkF m 116 #[.val (.ref a1), .val (.int p2), .val (.int (0 : Int32))] [(.int (0 : Int32))])) _
        exact retN X17 hx (t := .boolean) Bd.returns (by simp) (hb hby d9_116) hr
      · show Q_9 Z a1 p2 c h0 n0 _ T17.heap _
        rw [e17]
        exact ⟨by simp [own_holds, hs4_3, hc80], N17, rfl⟩
    · obtain ⟨fs, hr, hrun, hended, hW, hsame⟩ := X17.leave (v := some (.int (1 : Int32))) (fun h => by rw [Bd.returns] at h; cases h)
      refine ⟨_, _, pre0 _ ?_, hrun, hended, _, _, rfl, ?_, ⟨_, rfl⟩, hW, hsame.mono (by decide) (by decide)⟩
      · show Steps p.tables e below (s₁.setTop (mkF m 0 #[.val (.ref a1), .val (.int p2), .unset] [])) _
        refine XS.aloadN X0.here hx rfl (hb hby d9_0) rfl rfl ?_
        show Steps p.tables e below (s₁.setTop (mkF m 1 #[.val (.ref a1), .val (.int p2), .unset] [(.ref a1)])) _
        refine st17.trans ?_
        show Steps p.tables e below (T17.setTop (mkF m 4 #[.val (.ref a1), .val (.int p2), .unset] [(.int c)])) _
        refine XS.tswIn X17.here hx rfl (pc0 := 4) (pc' := 79) (o := 75) rfl (hb hby d9_4) rfl (by rw [hs4_3]; decide) (by rw [hs4_3]; rfl) (by decide) (by decide) ?_
        show Steps p.tables e below (T17.setTop (mkF m 79 #[.val (.ref a1), .val (.int p2), .unset] [])) _
        refine XS.iloadN X17.here hx rfl (hb hby d9_79) rfl ?_
        show Steps p.tables e below (T17.setTop (mkF m 80 #[.val (.ref a1), .val (.int p2), .unset] [(.int p2)])) _
        refine XS.ifNo X17.here hx rfl (hb hby d9_80) rfl ((if0 _ _).trans (flt hc80).1) ?_
        show Steps p.tables e below (T17.setTop (mkF m 83 #[.val (.ref a1), .val (.int p2), .unset] [])) _
        refine XS.iconst X17.here hx rfl (hb hby d9_83) ?_
        show Steps p.tables e below (T17.setTop (mkF m 84 #[.val (.ref a1), .val (.int p2), .unset] [(.int (1 : Int32))])) _
        refine XS.goto X17.here hx rfl (pc0 := 84) (pc' := 88) rfl (hb hby d9_84) (by decide) (by decide) ?_
        show Steps p.tables e below (T17.setTop (mkF m 88 #[.val (.ref a1), .val (.int p2), .unset] [(.int (1 : Int32))])) _
        refine XS.istoreN X17.here hx rfl (hb hby d9_88) rfl (l' := #[.val (.ref a1), .val (.int p2), .val (.int (1 : Int32))]) rfl ?_
        show Steps p.tables e below (T17.setTop (mkF m 89 #[.val (.ref a1), .val (.int p2), .val (.int (1 : Int32))] [])) _
        refine XS.goto X17.here hx rfl (pc0 := 89) (pc' := 115) rfl (hb hby d9_89) (by decide) (by decide) ?_
        show Steps p.tables e below (T17.setTop (mkF m 115 #[.val (.ref a1), .val (.int p2), .val (.int (1 : Int32))] [])) _
        refine XS.iloadN X17.here hx rfl (hb hby d9_115) rfl ?_
        show Steps p.tables e below (T17.setTop (mkF m 116 #[.val (.ref a1), .val (.int p2), .val (.int (1 : Int32))] [(.int (1 : Int32))])) _
        exact retN X17 hx (t := .boolean) Bd.returns (by simp) (hb hby d9_116) hr
      · show Q_9 Z a1 p2 c h0 n0 _ T17.heap _
        rw [e17]
        exact ⟨by simp [own_holds, hs4_3, hc80], N17, rfl⟩
  by_cases hs4_4 : c = (4 : Int32)
  · by_cases hc93 : p2 < (0 : Int32)
    · obtain ⟨fs, hr, hrun, hended, hW, hsame⟩ := X17.leave (v := some (.int (1 : Int32))) (fun h => by rw [Bd.returns] at h; cases h)
      refine ⟨_, _, pre0 _ ?_, hrun, hended, _, _, rfl, ?_, ⟨_, rfl⟩, hW, hsame.mono (by decide) (by decide)⟩
      · show Steps p.tables e below (s₁.setTop (mkF m 0 #[.val (.ref a1), .val (.int p2), .unset] [])) _
        refine XS.aloadN X0.here hx rfl (hb hby d9_0) rfl rfl ?_
        show Steps p.tables e below (s₁.setTop (mkF m 1 #[.val (.ref a1), .val (.int p2), .unset] [(.ref a1)])) _
        refine st17.trans ?_
        show Steps p.tables e below (T17.setTop (mkF m 4 #[.val (.ref a1), .val (.int p2), .unset] [(.int c)])) _
        refine XS.tswIn X17.here hx rfl (pc0 := 4) (pc' := 92) (o := 88) rfl (hb hby d9_4) rfl (by rw [hs4_4]; decide) (by rw [hs4_4]; rfl) (by decide) (by decide) ?_
        show Steps p.tables e below (T17.setTop (mkF m 92 #[.val (.ref a1), .val (.int p2), .unset] [])) _
        refine XS.iloadN X17.here hx rfl (hb hby d9_92) rfl ?_
        show Steps p.tables e below (T17.setTop (mkF m 93 #[.val (.ref a1), .val (.int p2), .unset] [(.int p2)])) _
        refine XS.ifNo X17.here hx rfl (hb hby d9_93) rfl ((if0 _ _).trans (tlt hc93).2.1) ?_
        show Steps p.tables e below (T17.setTop (mkF m 96 #[.val (.ref a1), .val (.int p2), .unset] [])) _
        refine XS.iconst X17.here hx rfl (hb hby d9_96) ?_
        show Steps p.tables e below (T17.setTop (mkF m 97 #[.val (.ref a1), .val (.int p2), .unset] [(.int (1 : Int32))])) _
        refine XS.goto X17.here hx rfl (pc0 := 97) (pc' := 101) rfl (hb hby d9_97) (by decide) (by decide) ?_
        show Steps p.tables e below (T17.setTop (mkF m 101 #[.val (.ref a1), .val (.int p2), .unset] [(.int (1 : Int32))])) _
        refine XS.istoreN X17.here hx rfl (hb hby d9_101) rfl (l' := #[.val (.ref a1), .val (.int p2), .val (.int (1 : Int32))]) rfl ?_
        show Steps p.tables e below (T17.setTop (mkF m 102 #[.val (.ref a1), .val (.int p2), .val (.int (1 : Int32))] [])) _
        refine XS.goto X17.here hx rfl (pc0 := 102) (pc' := 115) rfl (hb hby d9_102) (by decide) (by decide) ?_
        show Steps p.tables e below (T17.setTop (mkF m 115 #[.val (.ref a1), .val (.int p2), .val (.int (1 : Int32))] [])) _
        refine XS.iloadN X17.here hx rfl (hb hby d9_115) rfl ?_
        show Steps p.tables e below (T17.setTop (mkF m 116 #[.val (.ref a1), .val (.int p2), .val (.int (1 : Int32))] [(.int (1 : Int32))])) _
        exact retN X17 hx (t := .boolean) Bd.returns (by simp) (hb hby d9_116) hr
      · show Q_9 Z a1 p2 c h0 n0 _ T17.heap _
        rw [e17]
        exact ⟨by simp [own_holds, hs4_4, hc93], N17, rfl⟩
    · obtain ⟨fs, hr, hrun, hended, hW, hsame⟩ := X17.leave (v := some (.int (0 : Int32))) (fun h => by rw [Bd.returns] at h; cases h)
      refine ⟨_, _, pre0 _ ?_, hrun, hended, _, _, rfl, ?_, ⟨_, rfl⟩, hW, hsame.mono (by decide) (by decide)⟩
      · show Steps p.tables e below (s₁.setTop (mkF m 0 #[.val (.ref a1), .val (.int p2), .unset] [])) _
        refine XS.aloadN X0.here hx rfl (hb hby d9_0) rfl rfl ?_
        show Steps p.tables e below (s₁.setTop (mkF m 1 #[.val (.ref a1), .val (.int p2), .unset] [(.ref a1)])) _
        refine st17.trans ?_
        show Steps p.tables e below (T17.setTop (mkF m 4 #[.val (.ref a1), .val (.int p2), .unset] [(.int c)])) _
        refine XS.tswIn X17.here hx rfl (pc0 := 4) (pc' := 92) (o := 88) rfl (hb hby d9_4) rfl (by rw [hs4_4]; decide) (by rw [hs4_4]; rfl) (by decide) (by decide) ?_
        show Steps p.tables e below (T17.setTop (mkF m 92 #[.val (.ref a1), .val (.int p2), .unset] [])) _
        refine XS.iloadN X17.here hx rfl (hb hby d9_92) rfl ?_
        show Steps p.tables e below (T17.setTop (mkF m 93 #[.val (.ref a1), .val (.int p2), .unset] [(.int p2)])) _
        refine XS.ifYes X17.here hx rfl (pc0 := 93) (pc' := 100) rfl (hb hby d9_93) rfl ((if0 _ _).trans (flt hc93).2.1) (by decide) (by decide) ?_
        show Steps p.tables e below (T17.setTop (mkF m 100 #[.val (.ref a1), .val (.int p2), .unset] [])) _
        refine XS.iconst X17.here hx rfl (hb hby d9_100) ?_
        show Steps p.tables e below (T17.setTop (mkF m 101 #[.val (.ref a1), .val (.int p2), .unset] [(.int (0 : Int32))])) _
        refine XS.istoreN X17.here hx rfl (hb hby d9_101) rfl (l' := #[.val (.ref a1), .val (.int p2), .val (.int (0 : Int32))]) rfl ?_
        show Steps p.tables e below (T17.setTop (mkF m 102 #[.val (.ref a1), .val (.int p2), .val (.int (0 : Int32))] [])) _
        refine XS.goto X17.here hx rfl (pc0 := 102) (pc' := 115) rfl (hb hby d9_102) (by decide) (by decide) ?_
        show Steps p.tables e below (T17.setTop (mkF m 115 #[.val (.ref a1), .val (.int p2), .val (.int (0 : Int32))] [])) _
        refine XS.iloadN X17.here hx rfl (hb hby d9_115) rfl ?_
        show Steps p.tables e below (T17.setTop (mkF m 116 #[.val (.ref a1), .val (.int p2), .val (.int (0 : Int32))] [(.int (0 : Int32))])) _
        exact retN X17 hx (t := .boolean) Bd.returns (by simp) (hb hby d9_116) hr
      · show Q_9 Z a1 p2 c h0 n0 _ T17.heap _
        rw [e17]
        exact ⟨by simp [own_holds, hs4_4, hc93], N17, rfl⟩
  have hsd4 : c.toInt < 0 ∨ c.toInt > 4 := own_out c hs4_0 hs4_1 hs4_2 hs4_3 hs4_4
  by_cases hc106 : (0 : Int32) < p2
  · obtain ⟨fs, hr, hrun, hended, hW, hsame⟩ := X17.leave (v := some (.int (1 : Int32))) (fun h => by rw [Bd.returns] at h; cases h)
    refine ⟨_, _, pre0 _ ?_, hrun, hended, _, _, rfl, ?_, ⟨_, rfl⟩, hW, hsame.mono (by decide) (by decide)⟩
    · show Steps p.tables e below (s₁.setTop (mkF m 0 #[.val (.ref a1), .val (.int p2), .unset] [])) _
      refine XS.aloadN X0.here hx rfl (hb hby d9_0) rfl rfl ?_
      show Steps p.tables e below (s₁.setTop (mkF m 1 #[.val (.ref a1), .val (.int p2), .unset] [(.ref a1)])) _
      refine st17.trans ?_
      show Steps p.tables e below (T17.setTop (mkF m 4 #[.val (.ref a1), .val (.int p2), .unset] [(.int c)])) _
      refine XS.tswOut X17.here hx rfl (pc0 := 4) (pc' := 105) rfl (hb hby d9_4) rfl hsd4 (by decide) (by decide) ?_
      show Steps p.tables e below (T17.setTop (mkF m 105 #[.val (.ref a1), .val (.int p2), .unset] [])) _
      refine XS.iloadN X17.here hx rfl (hb hby d9_105) rfl ?_
      show Steps p.tables e below (T17.setTop (mkF m 106 #[.val (.ref a1), .val (.int p2), .unset] [(.int p2)])) _
      refine XS.ifNo X17.here hx rfl (hb hby d9_106) rfl ((if0 _ _).trans (tlt hc106).2.2.2) ?_
      show Steps p.tables e below (T17.setTop (mkF m 109 #[.val (.ref a1), .val (.int p2), .unset] [])) _
      refine XS.iconst X17.here hx rfl (hb hby d9_109) ?_
      show Steps p.tables e below (T17.setTop (mkF m 110 #[.val (.ref a1), .val (.int p2), .unset] [(.int (1 : Int32))])) _
      refine XS.goto X17.here hx rfl (pc0 := 110) (pc' := 114) rfl (hb hby d9_110) (by decide) (by decide) ?_
      show Steps p.tables e below (T17.setTop (mkF m 114 #[.val (.ref a1), .val (.int p2), .unset] [(.int (1 : Int32))])) _
      refine XS.istoreN X17.here hx rfl (hb hby d9_114) rfl (l' := #[.val (.ref a1), .val (.int p2), .val (.int (1 : Int32))]) rfl ?_
      show Steps p.tables e below (T17.setTop (mkF m 115 #[.val (.ref a1), .val (.int p2), .val (.int (1 : Int32))] [])) _
      refine XS.iloadN X17.here hx rfl (hb hby d9_115) rfl ?_
      show Steps p.tables e below (T17.setTop (mkF m 116 #[.val (.ref a1), .val (.int p2), .val (.int (1 : Int32))] [(.int (1 : Int32))])) _
      exact retN X17 hx (t := .boolean) Bd.returns (by simp) (hb hby d9_116) hr
    · show Q_9 Z a1 p2 c h0 n0 _ T17.heap _
      rw [e17]
      exact ⟨by simp [own_holds, hs4_0, hs4_1, hs4_2, hs4_3, hs4_4, hc106], N17, rfl⟩
  · obtain ⟨fs, hr, hrun, hended, hW, hsame⟩ := X17.leave (v := some (.int (0 : Int32))) (fun h => by rw [Bd.returns] at h; cases h)
    refine ⟨_, _, pre0 _ ?_, hrun, hended, _, _, rfl, ?_, ⟨_, rfl⟩, hW, hsame.mono (by decide) (by decide)⟩
    · show Steps p.tables e below (s₁.setTop (mkF m 0 #[.val (.ref a1), .val (.int p2), .unset] [])) _
      refine XS.aloadN X0.here hx rfl (hb hby d9_0) rfl rfl ?_
      show Steps p.tables e below (s₁.setTop (mkF m 1 #[.val (.ref a1), .val (.int p2), .unset] [(.ref a1)])) _
      refine st17.trans ?_
      show Steps p.tables e below (T17.setTop (mkF m 4 #[.val (.ref a1), .val (.int p2), .unset] [(.int c)])) _
      refine XS.tswOut X17.here hx rfl (pc0 := 4) (pc' := 105) rfl (hb hby d9_4) rfl hsd4 (by decide) (by decide) ?_
      show Steps p.tables e below (T17.setTop (mkF m 105 #[.val (.ref a1), .val (.int p2), .unset] [])) _
      refine XS.iloadN X17.here hx rfl (hb hby d9_105) rfl ?_
      show Steps p.tables e below (T17.setTop (mkF m 106 #[.val (.ref a1), .val (.int p2), .unset] [(.int p2)])) _
      refine XS.ifYes X17.here hx rfl (pc0 := 106) (pc' := 113) rfl (hb hby d9_106) rfl ((if0 _ _).trans (flt hc106).2.2.2) (by decide) (by decide) ?_
      show Steps p.tables e below (T17.setTop (mkF m 113 #[.val (.ref a1), .val (.int p2), .unset] [])) _
      refine XS.iconst X17.here hx rfl (hb hby d9_113) ?_
      show Steps p.tables e below (T17.setTop (mkF m 114 #[.val (.ref a1), .val (.int p2), .unset] [(.int (0 : Int32))])) _
      refine XS.istoreN X17.here hx rfl (hb hby d9_114) rfl (l' := #[.val (.ref a1), .val (.int p2), .val (.int (0 : Int32))]) rfl ?_
      show Steps p.tables e below (T17.setTop (mkF m 115 #[.val (.ref a1), .val (.int p2), .val (.int (0 : Int32))] [])) _
      refine XS.iloadN X17.here hx rfl (hb hby d9_115) rfl ?_
      show Steps p.tables e below (T17.setTop (mkF m 116 #[.val (.ref a1), .val (.int p2), .val (.int (0 : Int32))] [(.int (0 : Int32))])) _
      exact retN X17 hx (t := .boolean) Bd.returns (by simp) (hb hby d9_116) hr
    · show Q_9 Z a1 p2 c h0 n0 _ T17.heap _
      rw [e17]
      exact ⟨by simp [own_holds, hs4_0, hs4_1, hs4_2, hs4_3, hs4_4, hc106], N17, rfl⟩
theorem pd__28II_29I : parseMethodDescriptor "(II)I" = some ⟨[.int, .int], some .int⟩ := by decide +kernel
theorem pd__28_29Ljava_2flang_2fString_3b : parseMethodDescriptor "()Ljava/lang/String;" = some ⟨[], some (.object "java/lang/String")⟩ := by decide +kernel
theorem pd__28I_29C : parseMethodDescriptor "(I)C" = some ⟨[.int], some .char⟩ := by decide +kernel
theorem pd__28I_29Z : parseMethodDescriptor "(I)Z" = some ⟨[.int], some .boolean⟩ := by decide +kernel
theorem pn_0 : plainName "com/example/furlong/furlong/model/OperatorIsOrderPinLaw" = true := by first | (simp [plainName, overriddenIn]; done) | decide +kernel
theorem ef_0 (m : MethodId) (x0 : Int32) (x1 : Int32) (x2 : Int32) : entryFrame m #[(.int x0), (.int x1), (.int x2)] maxLocals = mkF m 0 #[.val (.int x0), .val (.int x1), .val (.int x2), .unset, .unset, .unset, .unset, .unset, .unset, .unset, .unset, .unset] [] := by first | (simp [entryFrame, mkF, argsToLocals, Value.category, maxLocals]; done) | rfl
def Q_0 (Z : State) (p1 : Int32) (p2 : Int32) (p3 : Int32) (h0 : Heap) (n0 : Nat) (v : Option Value) (h : Heap) (L : List Loc) : Prop := v = some (.int 1) ∧ Fr n0 L
set_option maxRecDepth 65536 in
set_option maxHeartbeats 40000000 in
theorem rm_0 (l : Launch) (Z : State) (a0 : Array Value) (hw : ∀ d ∈ tables_1, d.before a0 Z = true) (ws : List Jvm.Cond) (p1 : Int32) (p2 : Int32) (p3 : Int32) (aE aN aM aL aB aA : Addr) (saE taE saN taN saM taM saL taL saB taB saA taA : Addr) (kaE kaN kaM kaL kaB kaA : ClassId) (fm : Value) (zc : Int32) (h0 : Heap) (n0 : Nat) (Z0 : n0 ≤ h0.size) (S_EQUAL : Sta Z h0 "com/example/furlong/furlong/model/Condition$Operator" "EQUAL" "Lcom/example/furlong/furlong/model/Condition$Operator;" (.ref aE)) (S_NOT_EQUAL : Sta Z h0 "com/example/furlong/furlong/model/Condition$Operator" "NOT_EQUAL" "Lcom/example/furlong/furlong/model/Condition$Operator;" (.ref aN)) (S_AT_MOST : Sta Z h0 "com/example/furlong/furlong/model/Condition$Operator" "AT_MOST" "Lcom/example/furlong/furlong/model/Condition$Operator;" (.ref aM)) (S_AT_LEAST : Sta Z h0 "com/example/furlong/furlong/model/Condition$Operator" "AT_LEAST" "Lcom/example/furlong/furlong/model/Condition$Operator;" (.ref aL)) (S_BELOW : Sta Z h0 "com/example/furlong/furlong/model/Condition$Operator" "BELOW" "Lcom/example/furlong/furlong/model/Condition$Operator;" (.ref aB)) (S_ABOVE : Sta Z h0 "com/example/furlong/furlong/model/Condition$Operator" "ABOVE" "Lcom/example/furlong/furlong/model/Condition$Operator;" (.ref aA)) (E_EQUAL : Exa Z h0 aE "com/example/furlong/furlong/model/Condition$Operator") (E_NOT_EQUAL : Exa Z h0 aN "com/example/furlong/furlong/model/Condition$Operator") (E_AT_MOST : Exa Z h0 aM "com/example/furlong/furlong/model/Condition$Operator") (E_AT_LEAST : Exa Z h0 aL "com/example/furlong/furlong/model/Condition$Operator") (E_BELOW : Exa Z h0 aB "com/example/furlong/furlong/model/Condition$Operator") (E_ABOVE : Exa Z h0 aA "com/example/furlong/furlong/model/Condition$Operator") (Fo_EQUAL : Fld Z h0 aE "java/lang/Enum" "ordinal" "I" (.int (0 : Int32))) (Fo_NOT_EQUAL : Fld Z h0 aN "java/lang/Enum" "ordinal" "I" (.int (1 : Int32))) (Fo_AT_MOST : Fld Z h0 aM "java/lang/Enum" "ordinal" "I" (.int (2 : Int32))) (Fo_AT_LEAST : Fld Z h0 aL "java/lang/Enum" "ordinal" "I" (.int (3 : Int32))) (Fo_BELOW : Fld Z h0 aB "java/lang/Enum" "ordinal" "I" (.int (4 : Int32))) (Fo_ABOVE : Fld Z h0 aA "java/lang/Enum" "ordinal" "I" (.int (5 : Int32))) (Fs_EQUAL : Fld Z h0 aE "com/example/furlong/furlong/model/Condition$Operator" "symbol" "Ljava/lang/String;" (.ref saE)) (Es_EQUAL : Exa Z h0 saE "java/lang/String") (Fc_EQUAL : Fld Z h0 saE "java/lang/String" "coder" "B" (.int (0 : Int32))) (Fv_EQUAL : Fld Z h0 saE "java/lang/String" "value" "[B" (.ref taE)) (Va_EQUAL : Arv Z h0 taE kaE .byte (2 : Int32) [Value.int (61 : Int32), Value.int (61 : Int32)] (.int (0 : Int32))) (Fs_NOT_EQUAL : Fld Z h0 aN "com/example/furlong/furlong/model/Condition$Operator" "symbol" "Ljava/lang/String;" (.ref saN)) (Es_NOT_EQUAL : Exa Z h0 saN "java/lang/String") (Fc_NOT_EQUAL : Fld Z h0 saN "java/lang/String" "coder" "B" (.int (0 : Int32))) (Fv_NOT_EQUAL : Fld Z h0 saN "java/lang/String" "value" "[B" (.ref taN)) (Va_NOT_EQUAL : Arv Z h0 taN kaN .byte (2 : Int32) [Value.int (33 : Int32), Value.int (61 : Int32)] (.int (0 : Int32))) (Fs_AT_MOST : Fld Z h0 aM "com/example/furlong/furlong/model/Condition$Operator" "symbol" "Ljava/lang/String;" (.ref saM)) (Es_AT_MOST : Exa Z h0 saM "java/lang/String") (Fc_AT_MOST : Fld Z h0 saM "java/lang/String" "coder" "B" (.int (0 : Int32))) (Fv_AT_MOST : Fld Z h0 saM "java/lang/String" "value" "[B" (.ref taM)) (Va_AT_MOST : Arv Z h0 taM kaM .byte (2 : Int32) [Value.int (60 : Int32), Value.int (61 : Int32)] (.int (0 : Int32))) (Fs_AT_LEAST : Fld Z h0 aL "com/example/furlong/furlong/model/Condition$Operator" "symbol" "Ljava/lang/String;" (.ref saL)) (Es_AT_LEAST : Exa Z h0 saL "java/lang/String") (Fc_AT_LEAST : Fld Z h0 saL "java/lang/String" "coder" "B" (.int (0 : Int32))) (Fv_AT_LEAST : Fld Z h0 saL "java/lang/String" "value" "[B" (.ref taL)) (Va_AT_LEAST : Arv Z h0 taL kaL .byte (2 : Int32) [Value.int (62 : Int32), Value.int (61 : Int32)] (.int (0 : Int32))) (Fs_BELOW : Fld Z h0 aB "com/example/furlong/furlong/model/Condition$Operator" "symbol" "Ljava/lang/String;" (.ref saB)) (Es_BELOW : Exa Z h0 saB "java/lang/String") (Fc_BELOW : Fld Z h0 saB "java/lang/String" "coder" "B" (.int (0 : Int32))) (Fv_BELOW : Fld Z h0 saB "java/lang/String" "value" "[B" (.ref taB)) (Va_BELOW : Arv Z h0 taB kaB .byte (1 : Int32) [Value.int (60 : Int32)] (.int (0 : Int32))) (Fs_ABOVE : Fld Z h0 aA "com/example/furlong/furlong/model/Condition$Operator" "symbol" "Ljava/lang/String;" (.ref saA)) (Es_ABOVE : Exa Z h0 saA "java/lang/String") (Fc_ABOVE : Fld Z h0 saA "java/lang/String" "coder" "B" (.int (0 : Int32))) (Fv_ABOVE : Fld Z h0 saA "java/lang/String" "value" "[B" (.ref taA)) (Va_ABOVE : Arv Z h0 taA kaA .byte (1 : Int32) [Value.int (62 : Int32)] (.int (0 : Int32))) (rf : fm.isRef = true) (S_F : Sta Z h0 "jdk/internal/util/Preconditions" "SIOOBE_FORMATTER" "Ljava/util/function/BiFunction;" fm) (S_C : Sta Z h0 "java/lang/String" "COMPACT_STRINGS" "Z" (.int zc)) (hz : ¬ zc = 0) :
    MetFree l x (head1 (Jvm.Cond.code x code maxLocals ret :: ws) room_1) (fun a U => a = #[(.int p1), (.int p2), (.int p3)] ∧ Z.Warmed39 U.vm ∧ U.heap = h0) (fun _ _ _ _ _ => True) (fun _ U o U' => ∃ v L, o = .returned v ∧ Q_0 Z p1 p2 p3 h0 n0 v U'.heap L ∧ FrameEnd U o U' L room_1.cells room_1.slots) := by
  refine MetFree.of_bodySF (plainFor_of_name pn_0) hisR ?_
  intro p e s m args below meth cod_ s₁ Bd hml0 hP hK
  obtain ⟨rfl, hZ, hh⟩ := hP
  have hx := Bd.exec
  have hby := Bd.bytes
  have hml : cod_.maxLocals = 12 := hml0
  have hown : s.vm.findClass "com/example/furlong/furlong/model/OperatorIsOrderPinLaw" = some m.cls := findClass_of_methodNamed Bd.named
  have hnm := (name_of_methodNamed Bd.named Bd.method).1
  have X0 : Stand p l e room_1 s m #[(.int p1), (.int p2), (.int p3)] below meth cod_ s₁ [] 0 0 := Stand.of_body Bd
  have e0 : s₁.heap = h0 := by rw [← hh, Bd.state]; rfl
  have N0 := Fr.nil n0
  have pre0 : ∀ t, Steps p.tables e below (s₁.setTop (mkF m 0 #[.val (.int p1), .val (.int p2), .val (.int p3), .unset, .unset, .unset, .unset, .unset, .unset, .unset, .unset, .unset] [])) t → Steps p.tables e below (s₁.setTop (entryFrame m #[(.int p1), (.int p2), (.int p3)] maxLocals)) t := fun t k => castTop (ef_0 m p1 p2 p3) k
  have ne_EQUAL_NOT_EQUAL : ¬ aN = aE := Ne.symm (Fo_EQUAL.ne Fo_NOT_EQUAL (by decide))
  have ne_EQUAL_AT_MOST : ¬ aM = aE := Ne.symm (Fo_EQUAL.ne Fo_AT_MOST (by decide))
  have ne_EQUAL_AT_LEAST : ¬ aL = aE := Ne.symm (Fo_EQUAL.ne Fo_AT_LEAST (by decide))
  have ne_EQUAL_BELOW : ¬ aB = aE := Ne.symm (Fo_EQUAL.ne Fo_BELOW (by decide))
  have ne_EQUAL_ABOVE : ¬ aA = aE := Ne.symm (Fo_EQUAL.ne Fo_ABOVE (by decide))
  have ne_NOT_EQUAL_AT_MOST : ¬ aM = aN := Ne.symm (Fo_NOT_EQUAL.ne Fo_AT_MOST (by decide))
  have ne_NOT_EQUAL_AT_LEAST : ¬ aL = aN := Ne.symm (Fo_NOT_EQUAL.ne Fo_AT_LEAST (by decide))
  have ne_NOT_EQUAL_BELOW : ¬ aB = aN := Ne.symm (Fo_NOT_EQUAL.ne Fo_BELOW (by decide))
  have ne_NOT_EQUAL_ABOVE : ¬ aA = aN := Ne.symm (Fo_NOT_EQUAL.ne Fo_ABOVE (by decide))
  obtain ⟨kx, e_kx⟩ : ∃ z : Int32, z = ((p1 &&& (2147483647 : Int32)) % (6 : Int32)) := ⟨_, rfl⟩
  by_cases hc9 : kx = (0 : Int32)
  · obtain ⟨T18, X18, e18, st18⟩ := getS2 X0 hx hZ hown (host := "") (Or.inl (hw _ (List.mem_of_getElem? (i := 1) rfl))) Via.refl e0 S_EQUAL (g := (mkF m 12 #[.val (.int p1), .val (.int p2), .val (.int p3), .val (.int kx), .unset, .unset, .unset, .unset, .unset, .unset, .unset, .unset] [])) rfl (hb hby at_12)
    obtain ⟨ng, e_ng⟩ : ∃ z : Int32, z = ((-1 : Int32) - (p2 &&& (2147483647 : Int32))) := ⟨_, rfl⟩
    have hng : ng < 0 := e_ng ▸ own_neg p2
    have hneg : ng < 0 ∧ ¬ ng = 0 ∧ ¬ 0 < ng := by
      rcases own_tri ng with u | u | u
      · exact u
      · exact absurd hng u.2.1
      · exact absurd hng u.2.1
    obtain ⟨_, _, ⟨T19, L19, c19_, n19_⟩, -, X19, ⟨Lc19, hQ19, l19, y19, z19⟩, st19⟩ := Jvm.LawKit.callS X18 hx (y := (⟨"java/lang/Math", "max", "(II)I"⟩ : MethodName)) hown (mvT hZ (hw _ (List.mem_of_getElem? (i := 4) rfl))) (mvT hZ (hw _ (List.mem_of_getElem? (i := 5) rfl))) (mvT hZ (hw _ (List.mem_of_getElem? (i := 6) rfl))) (mvT hZ (hw _ (List.mem_of_getElem? (i := 7) rfl))) (by decide) (backOf (W := 0) (rm_1 l Z a0 hw [] (1 : Int32) (p3 &&& (2147483647 : Int32)) h0 n0 (Nat.le_trans Z0 (Keep.refl h0 []).1) ) hZ (hw _ (List.mem_of_getElem? (i := 7) rfl)) (hw _ (List.mem_of_getElem? (i := 6) rfl)) (by decide) (by decide)) (g := (mkF m 90 #[.val (.int p1), .val (.int p2), .val (.int p3), .val (.int kx), .val (.ref aE), .val (.int ng), .unset, .unset, .unset, .unset, .unset, .unset] [(.int (p3 &&& (2147483647 : Int32))), (.int (1 : Int32))])) rfl (by rw [hml]; rfl) (argsL := [(.int (1 : Int32)), (.int (p3 &&& (2147483647 : Int32)))]) (rest := []) (lenOf pd__28II_29I rfl) rfl (by show 2 * 0 + _ ≤ _; exact Nat.le_of_eq rfl) (hb hby at_90) (fun _ _ => ⟨rfl, e18, (by decide : 0 + 0 ≤ _), (by decide : 0 + 0 ≤ _)⟩)
    dsimp only [Pt.U, Pt.locs, Pt.cells, Pt.slots] at X19 l19 y19 z19 st19 hQ19
    subst l19 y19 z19
    obtain ⟨rfl, Nq19, e19⟩ := hQ19
    have N19 := Fr.app N0 Nq19
    obtain ⟨ps, e_ps⟩ : ∃ z : Int32, z = (if (1 : Int32) < (p3 &&& (2147483647 : Int32)) then (p3 &&& (2147483647 : Int32)) else (1 : Int32)) := ⟨_, rfl⟩
    have hps : 0 < ps := e_ps ▸ own_pos _
    have hpos : 0 < ps ∧ ¬ ps < 0 ∧ ¬ ps = 0 := by
      rcases own_tri ps with u | u | u
      · exact absurd hps u.2.2
      · exact absurd hps u.2.2
      · exact u
    obtain ⟨cq20, kq20, q20a, q20b, q20c⟩ := isOf hZ e19 E_EQUAL
    obtain ⟨_, _, ⟨T20, L20, c20_, n20_⟩, -, X20, ⟨Lc20, hQ20, l20, y20, z20⟩, st20⟩ := X19.virtualBack hx (y := (⟨"com/example/furlong/furlong/model/Condition$Operator", "isOrder", "()Z"⟩ : MethodName)) (z := (⟨"com/example/furlong/furlong/model/Condition$Operator", "isOrder", "()Z"⟩ : MethodName)) hown (mvT hZ (hw _ (List.mem_of_getElem? (i := 8) rfl))) (mvT hZ (hw _ (List.mem_of_getElem? (i := 9) rfl))) (notFace_of_selects (args := #[]) (mvT hZ (hw _ (List.mem_of_getElem? (i := 11) rfl)))) (mvT hZ (hw _ (List.mem_of_getElem? (i := 11) rfl))) (mvT hZ (hw _ (List.mem_of_getElem? (i := 10) rfl))) (by decide) (backOf (W := 0) (rm_2 l Z a0 hw [] aE aE aN h0 n0 (Nat.le_trans Z0 (Keep.refl h0 []).1) S_EQUAL S_NOT_EQUAL) hZ (hw _ (List.mem_of_getElem? (i := 12) rfl)) (hw _ (List.mem_of_getElem? (i := 2) rfl)) (by decide) (by decide)) q20a q20c (g := (mkF m 97 #[.val (.int p1), .val (.int p2), .val (.int p3), .val (.int kx), .val (.ref aE), .val (.int ng), .val (.int ps), .unset, .unset, .unset, .unset, .unset] [(.ref aE)])) rfl (by rw [hml]; rfl) (Steps.refl _) (argsL := []) (rest := []) (lenOf pd__28_29Z rfl) rfl (by show 2 * 0 + _ ≤ _; exact Nat.le_of_eq rfl) (hb hby at_97) (fun _ _ => ⟨rfl, e19, (by decide : 0 + 0 ≤ _), (by decide : 0 + 0 ≤ _)⟩)
    dsimp only [Pt.U, Pt.locs, Pt.cells, Pt.slots] at X20 l20 y20 z20 st20 hQ20
    subst l20 y20 z20
    obtain ⟨rfl, Nq20, e20⟩ := hQ20
    have N20 := Fr.app N19 Nq20
    obtain ⟨cq21, kq21, q21a, q21b, q21c⟩ := isOf hZ e20 E_EQUAL
    obtain ⟨_, _, ⟨T21, L21, c21_, n21_⟩, -, X21, ⟨Lc21, hQ21, l21, y21, z21⟩, st21⟩ := X20.virtualBack hx (y := (⟨"com/example/furlong/furlong/model/Condition$Operator", "symbol", "()Ljava/lang/String;"⟩ : MethodName)) (z := (⟨"com/example/furlong/furlong/model/Condition$Operator", "symbol", "()Ljava/lang/String;"⟩ : MethodName)) hown (mvT hZ (hw _ (List.mem_of_getElem? (i := 14) rfl))) (mvT hZ (hw _ (List.mem_of_getElem? (i := 15) rfl))) (notFace_of_selects (args := #[]) (mvT hZ (hw _ (List.mem_of_getElem? (i := 17) rfl)))) (mvT hZ (hw _ (List.mem_of_getElem? (i := 17) rfl))) (mvT hZ (hw _ (List.mem_of_getElem? (i := 16) rfl))) (by decide) (backOf (W := 0) (rm_3 l Z a0 hw [] aE saE h0 n0 (Nat.le_trans Z0 (Keep.refl h0 []).1) Fs_EQUAL) hZ (hw _ (List.mem_of_getElem? (i := 18) rfl)) (hw _ (List.mem_of_getElem? (i := 2) rfl)) (by decide) (by decide)) q21a q21c (g := (mkF m 104 #[.val (.int p1), .val (.int p2), .val (.int p3), .val (.int kx), .val (.ref aE), .val (.int ng), .val (.int ps), .val (.int (if aE = aE then (0 : Int32) else if aE = aN then (0 : Int32) else (1 : Int32))), .unset, .unset, .unset, .unset] [(.ref aE)])) rfl (by rw [hml]; rfl) (Steps.refl _) (argsL := []) (rest := []) (lenOf pd__28_29Ljava_2flang_2fString_3b rfl) rfl (by show 2 * 0 + _ ≤ _; exact Nat.le_of_eq rfl) (hb hby at_104) (fun _ _ => ⟨rfl, e20, (by decide : 0 + 0 ≤ _), (by decide : 0 + 0 ≤ _)⟩)
    dsimp only [Pt.U, Pt.locs, Pt.cells, Pt.slots] at X21 l21 y21 z21 st21 hQ21
    subst l21 y21 z21
    obtain ⟨rfl, Nq21, e21⟩ := hQ21
    have N21 := Fr.app N20 Nq21
    obtain ⟨cq22, kq22, q22a, q22b, q22c⟩ := isOf hZ e21 Es_EQUAL
    obtain ⟨_, _, ⟨T22, L22, c22_, n22_⟩, -, X22, ⟨Lc22, hQ22, l22, y22, z22⟩, st22⟩ := X21.virtualBack hx (y := (⟨"java/lang/String", "charAt", "(I)C"⟩ : MethodName)) (z := (⟨"java/lang/String", "charAt", "(I)C"⟩ : MethodName)) hown (mvT hZ (hw _ (List.mem_of_getElem? (i := 21) rfl))) (mvT hZ (hw _ (List.mem_of_getElem? (i := 22) rfl))) (notFace_of_selects (args := #[]) (mvT hZ (hw _ (List.mem_of_getElem? (i := 24) rfl)))) (mvT hZ (hw _ (List.mem_of_getElem? (i := 24) rfl))) (mvT hZ (hw _ (List.mem_of_getElem? (i := 23) rfl))) (by decide) (backOf (W := 0) (rm_ch l Z a0 hw [] saE (0 : Int32) (61 : Int32) taE kaE (2 : Int32) [Value.int (61 : Int32), Value.int (61 : Int32)] fm zc h0 n0 (Nat.le_trans Z0 (Keep.refl h0 []).1) Va_EQUAL (by decide) (by decide) rfl rf S_F S_C hz Fc_EQUAL Fv_EQUAL Es_EQUAL) hZ (hw _ (List.mem_of_getElem? (i := 26) rfl)) (hw _ (List.mem_of_getElem? (i := 25) rfl)) (by decide) (by decide)) q22a q22c (g := (mkF m 112 #[.val (.int p1), .val (.int p2), .val (.int p3), .val (.int kx), .val (.ref aE), .val (.int ng), .val (.int ps), .val (.int (if aE = aE then (0 : Int32) else if aE = aN then (0 : Int32) else (1 : Int32))), .val (.ref saE), .unset, .unset, .unset] [(.int (0 : Int32)), (.ref saE)])) rfl (by rw [hml]; rfl) (Steps.refl _) (argsL := [(.int (0 : Int32))]) (rest := []) (lenOf pd__28I_29C rfl) rfl (by show 2 * 0 + _ ≤ _; exact Nat.le_of_eq rfl) (hb hby at_112) (fun _ _ => ⟨rfl, e21, (by decide : 0 + 0 ≤ _), (by decide : 0 + 0 ≤ _)⟩)
    dsimp only [Pt.U, Pt.locs, Pt.cells, Pt.slots] at X22 l22 y22 z22 st22 hQ22
    subst l22 y22 z22
    obtain ⟨rfl, Nq22, e22⟩ := hQ22
    have N22 := Fr.app N21 Nq22
    have hc121 : ¬ ((nar .char (nar .char (((61 : Int32) &&& (255 : Int32)).toUInt32.toUInt16.toUInt32.toInt32))) = (60 : Int32)) := by decide
    have hc128 : ¬ ((nar .char (nar .char (((61 : Int32) &&& (255 : Int32)).toUInt32.toUInt16.toUInt32.toInt32))) = (62 : Int32)) := by decide
    obtain ⟨cq23, kq23, q23a, q23b, q23c⟩ := isOf hZ e22 E_EQUAL
    obtain ⟨_, _, ⟨T23, L23, c23_, n23_⟩, -, X23, ⟨Lc23, hQ23, l23, y23, z23⟩, st23⟩ := X22.virtualBack hx (y := (⟨"com/example/furlong/furlong/model/Condition$Operator", "holds", "(I)Z"⟩ : MethodName)) (z := (⟨"com/example/furlong/furlong/model/Condition$Operator", "holds", "(I)Z"⟩ : MethodName)) hown (mvT hZ (hw _ (List.mem_of_getElem? (i := 49) rfl))) (mvT hZ (hw _ (List.mem_of_getElem? (i := 50) rfl))) (notFace_of_selects (args := #[]) (mvT hZ (hw _ (List.mem_of_getElem? (i := 52) rfl)))) (mvT hZ (hw _ (List.mem_of_getElem? (i := 52) rfl))) (mvT hZ (hw _ (List.mem_of_getElem? (i := 51) rfl))) (by decide) (backOf (W := 0) (rm_9 l Z a0 hw [] aE ng (0 : Int32) h0 n0 (Nat.le_trans Z0 (Keep.refl h0 []).1) Fo_EQUAL E_EQUAL) hZ (hw _ (List.mem_of_getElem? (i := 53) rfl)) (hw _ (List.mem_of_getElem? (i := 2) rfl)) (by decide) (by decide)) q23a q23c (g := (mkF m 142 #[.val (.int p1), .val (.int p2), .val (.int p3), .val (.int kx), .val (.ref aE), .val (.int ng), .val (.int ps), .val (.int (if aE = aE then (0 : Int32) else if aE = aN then (0 : Int32) else (1 : Int32))), .val (.ref saE), .val (.int (nar .char (nar .char (((61 : Int32) &&& (255 : Int32)).toUInt32.toUInt16.toUInt32.toInt32)))), .val (.int (0 : Int32)), .unset] [(.int ng), (.ref aE)])) rfl (by rw [hml]; rfl) (Steps.refl _) (argsL := [(.int ng)]) (rest := []) (lenOf pd__28I_29Z rfl) rfl (by show 2 * 0 + _ ≤ _; exact Nat.le_of_eq rfl) (hb hby at_142) (fun _ _ => ⟨rfl, e22, (by decide : 0 + 0 ≤ _), (by decide : 0 + 0 ≤ _)⟩)
    dsimp only [Pt.U, Pt.locs, Pt.cells, Pt.slots] at X23 l23 y23 z23 st23 hQ23
    subst l23 y23 z23
    obtain ⟨rfl, Nq23, e23⟩ := hQ23
    have N23 := Fr.app N22 Nq23
    obtain ⟨cq24, kq24, q24a, q24b, q24c⟩ := isOf hZ e23 E_EQUAL
    obtain ⟨_, _, ⟨T24, L24, c24_, n24_⟩, -, X24, ⟨Lc24, hQ24, l24, y24, z24⟩, st24⟩ := X23.virtualBack hx (y := (⟨"com/example/furlong/furlong/model/Condition$Operator", "holds", "(I)Z"⟩ : MethodName)) (z := (⟨"com/example/furlong/furlong/model/Condition$Operator", "holds", "(I)Z"⟩ : MethodName)) hown (mvT hZ (hw _ (List.mem_of_getElem? (i := 49) rfl))) (mvT hZ (hw _ (List.mem_of_getElem? (i := 50) rfl))) (notFace_of_selects (args := #[]) (mvT hZ (hw _ (List.mem_of_getElem? (i := 52) rfl)))) (mvT hZ (hw _ (List.mem_of_getElem? (i := 52) rfl))) (mvT hZ (hw _ (List.mem_of_getElem? (i := 51) rfl))) (by decide) (backOf (W := 1) (rm_9 l Z a0 hw [] aE ps (0 : Int32) h0 n0 (Nat.le_trans Z0 (Keep.refl h0 []).1) Fo_EQUAL E_EQUAL) hZ (hw _ (List.mem_of_getElem? (i := 53) rfl)) (hw _ (List.mem_of_getElem? (i := 2) rfl)) (by decide) (by decide)) q24a q24c (g := (mkF m 149 #[.val (.int p1), .val (.int p2), .val (.int p3), .val (.int kx), .val (.ref aE), .val (.int ng), .val (.int ps), .val (.int (if aE = aE then (0 : Int32) else if aE = aN then (0 : Int32) else (1 : Int32))), .val (.ref saE), .val (.int (nar .char (nar .char (((61 : Int32) &&& (255 : Int32)).toUInt32.toUInt16.toUInt32.toInt32)))), .val (.int (0 : Int32)), .unset] [(.int ps), (.ref aE), (.int (own_holds (0 : Int32) ng))])) rfl (by rw [hml]; rfl) (Steps.refl _) (argsL := [(.int ps)]) (rest := [(.int (own_holds (0 : Int32) ng))]) (lenOf pd__28I_29Z rfl) rfl (by show 2 * 0 + _ ≤ _; exact Nat.le_of_eq rfl) (hb hby at_149) (fun _ _ => ⟨rfl, e23, (by decide : 0 + 0 ≤ _), (by decide : 0 + 0 ≤ _)⟩)
    dsimp only [Pt.U, Pt.locs, Pt.cells, Pt.slots] at X24 l24 y24 z24 st24 hQ24
    subst l24 y24 z24
    obtain ⟨rfl, Nq24, e24⟩ := hQ24
    have N24 := Fr.app N23 Nq24
    have hc152 : (own_holds (0 : Int32) ng) = (own_holds (0 : Int32) ps) := (by simp [own_holds, hneg.1, hneg.2.1, hneg.2.2, hpos.1, hpos.2.1, hpos.2.2])
    have hc166 : (if aE = aE then (0 : Int32) else if aE = aN then (0 : Int32) else (1 : Int32)) = (0 : Int32) := (by simp [ne_EQUAL_NOT_EQUAL, ne_EQUAL_AT_MOST, ne_EQUAL_AT_LEAST, ne_EQUAL_BELOW, ne_EQUAL_ABOVE, ne_NOT_EQUAL_AT_MOST, ne_NOT_EQUAL_AT_LEAST, ne_NOT_EQUAL_BELOW, ne_NOT_EQUAL_ABOVE])
    have hc173 : (if aE = aE then (0 : Int32) else if aE = aN then (0 : Int32) else (1 : Int32)) = (0 : Int32) := (by simp [ne_EQUAL_NOT_EQUAL, ne_EQUAL_AT_MOST, ne_EQUAL_AT_LEAST, ne_EQUAL_BELOW, ne_EQUAL_ABOVE, ne_NOT_EQUAL_AT_MOST, ne_NOT_EQUAL_AT_LEAST, ne_NOT_EQUAL_BELOW, ne_NOT_EQUAL_ABOVE])
    obtain ⟨fs, hr, hrun, hended, hW, hsame⟩ := X24.leave (v := some (.int (1 : Int32))) (fun h => by rw [Bd.returns] at h; cases h)
    refine ⟨_, _, pre0 _ ?_, hrun, hended, _, _, rfl, ?_, ⟨_, rfl⟩, hW, hsame.mono (by decide) (by decide)⟩
    · show Steps p.tables e below (s₁.setTop (mkF m 0 #[.val (.int p1), .val (.int p2), .val (.int p3), .unset, .unset, .unset, .unset, .unset, .unset, .unset, .unset, .unset] [])) _
      refine XS.iloadN X0.here hx rfl (hb hby at_0) rfl ?_
      show Steps p.tables e below (s₁.setTop (mkF m 1 #[.val (.int p1), .val (.int p2), .val (.int p3), .unset, .unset, .unset, .unset, .unset, .unset, .unset, .unset, .unset] [(.int p1)])) _
      refine X0.ldcInt hx hown (mvT hZ (hw _ (List.mem_of_getElem? (i := 0) rfl))) (g := (mkF m 1 #[.val (.int p1), .val (.int p2), .val (.int p3), .unset, .unset, .unset, .unset, .unset, .unset, .unset, .unset, .unset] [(.int p1)])) rfl (hb hby at_1) _ ?_
      show Steps p.tables e below (s₁.setTop (mkF m 3 #[.val (.int p1), .val (.int p2), .val (.int p3), .unset, .unset, .unset, .unset, .unset, .unset, .unset, .unset, .unset] [(.int (2147483647 : Int32)), (.int p1)])) _
      refine XS.iand X0.here hx rfl (hb hby at_3) rfl ?_
      show Steps p.tables e below (s₁.setTop (mkF m 4 #[.val (.int p1), .val (.int p2), .val (.int p3), .unset, .unset, .unset, .unset, .unset, .unset, .unset, .unset, .unset] [(.int (p1 &&& (2147483647 : Int32)))])) _
      refine XS.bipush X0.here hx rfl (hb hby at_4) ?_
      show Steps p.tables e below (s₁.setTop (mkF m 6 #[.val (.int p1), .val (.int p2), .val (.int p3), .unset, .unset, .unset, .unset, .unset, .unset, .unset, .unset, .unset] [(.int (6 : Int32)), (.int (p1 &&& (2147483647 : Int32)))])) _
      refine iremM X0 hx rfl (hb hby at_6) rfl (by decide) ?_
      show Steps p.tables e below (s₁.setTop (mkF m 7 #[.val (.int p1), .val (.int p2), .val (.int p3), .unset, .unset, .unset, .unset, .unset, .unset, .unset, .unset, .unset] [(.int ((p1 &&& (2147483647 : Int32)) % (6 : Int32)))])) _
      refine XS.istoreN X0.here hx rfl (hb hby at_7) rfl (l' := #[.val (.int p1), .val (.int p2), .val (.int p3), .val (.int ((p1 &&& (2147483647 : Int32)) % (6 : Int32))), .unset, .unset, .unset, .unset, .unset, .unset, .unset, .unset]) rfl ?_
      show Steps p.tables e below (s₁.setTop (mkF m 8 #[.val (.int p1), .val (.int p2), .val (.int p3), .val (.int ((p1 &&& (2147483647 : Int32)) % (6 : Int32))), .unset, .unset, .unset, .unset, .unset, .unset, .unset, .unset] [])) _
      rw [← e_kx]
      show Steps p.tables e below (s₁.setTop (mkF m 8 #[.val (.int p1), .val (.int p2), .val (.int p3), .val (.int kx), .unset, .unset, .unset, .unset, .unset, .unset, .unset, .unset] [])) _
      refine XS.iloadN X0.here hx rfl (hb hby at_8) rfl ?_
      show Steps p.tables e below (s₁.setTop (mkF m 9 #[.val (.int p1), .val (.int p2), .val (.int p3), .val (.int kx), .unset, .unset, .unset, .unset, .unset, .unset, .unset, .unset] [(.int kx)])) _
      refine XS.ifNo X0.here hx rfl (hb hby at_9) rfl ((if0 _ _).trans (teq hc9).2) ?_
      show Steps p.tables e below (s₁.setTop (mkF m 12 #[.val (.int p1), .val (.int p2), .val (.int p3), .val (.int kx), .unset, .unset, .unset, .unset, .unset, .unset, .unset, .unset] [])) _
      refine st18 _ ?_
      show Steps p.tables e below (T18.setTop (mkF m 15 #[.val (.int p1), .val (.int p2), .val (.int p3), .val (.int kx), .unset, .unset, .unset, .unset, .unset, .unset, .unset, .unset] [(.ref aE)])) _
      refine XS.astore X18.here hx rfl (hb hby at_15) rfl rfl (l' := #[.val (.int p1), .val (.int p2), .val (.int p3), .val (.int kx), .val (.ref aE), .unset, .unset, .unset, .unset, .unset, .unset, .unset]) rfl ?_
      show Steps p.tables e below (T18.setTop (mkF m 17 #[.val (.int p1), .val (.int p2), .val (.int p3), .val (.int kx), .val (.ref aE), .unset, .unset, .unset, .unset, .unset, .unset, .unset] [])) _
      refine XS.goto X18.here hx rfl (pc0 := 17) (pc' := 77) rfl (hb hby at_17) (by decide) (by decide) ?_
      show Steps p.tables e below (T18.setTop (mkF m 77 #[.val (.int p1), .val (.int p2), .val (.int p3), .val (.int kx), .val (.ref aE), .unset, .unset, .unset, .unset, .unset, .unset, .unset] [])) _
      refine XS.iconst X18.here hx rfl (hb hby at_77) ?_
      show Steps p.tables e below (T18.setTop (mkF m 78 #[.val (.int p1), .val (.int p2), .val (.int p3), .val (.int kx), .val (.ref aE), .unset, .unset, .unset, .unset, .unset, .unset, .unset] [(.int (-1 : Int32))])) _
      refine XS.iloadN X18.here hx rfl (hb hby at_78) rfl ?_
      show Steps p.tables e below (T18.setTop (mkF m 79 #[.val (.int p1), .val (.int p2), .val (.int p3), .val (.int kx), .val (.ref aE), .unset, .unset, .unset, .unset, .unset, .unset, .unset] [(.int p2), (.int (-1 : Int32))])) _
      refine X18.ldcInt hx hown (mvT hZ (hw _ (List.mem_of_getElem? (i := 0) rfl))) (g := (mkF m 79 #[.val (.int p1), .val (.int p2), .val (.int p3), .val (.int kx), .val (.ref aE), .unset, .unset, .unset, .unset, .unset, .unset, .unset] [(.int p2), (.int (-1 : Int32))])) rfl (hb hby at_79) _ ?_
      show Steps p.tables e below (T18.setTop (mkF m 81 #[.val (.int p1), .val (.int p2), .val (.int p3), .val (.int kx), .val (.ref aE), .unset, .unset, .unset, .unset, .unset, .unset, .unset] [(.int (2147483647 : Int32)), (.int p2), (.int (-1 : Int32))])) _
      refine XS.iand X18.here hx rfl (hb hby at_81) rfl ?_
      show Steps p.tables e below (T18.setTop (mkF m 82 #[.val (.int p1), .val (.int p2), .val (.int p3), .val (.int kx), .val (.ref aE), .unset, .unset, .unset, .unset, .unset, .unset, .unset] [(.int (p2 &&& (2147483647 : Int32))), (.int (-1 : Int32))])) _
      refine XS.isub X18.here hx rfl (hb hby at_82) rfl ?_
      show Steps p.tables e below (T18.setTop (mkF m 83 #[.val (.int p1), .val (.int p2), .val (.int p3), .val (.int kx), .val (.ref aE), .unset, .unset, .unset, .unset, .unset, .unset, .unset] [(.int ((-1 : Int32) - (p2 &&& (2147483647 : Int32))))])) _
      refine XS.istore X18.here hx rfl (hb hby at_83) rfl (l' := #[.val (.int p1), .val (.int p2), .val (.int p3), .val (.int kx), .val (.ref aE), .val (.int ((-1 : Int32) - (p2 &&& (2147483647 : Int32)))), .unset, .unset, .unset, .unset, .unset, .unset]) rfl ?_
      show Steps p.tables e below (T18.setTop (mkF m 85 #[.val (.int p1), .val (.int p2), .val (.int p3), .val (.int kx), .val (.ref aE), .val (.int ((-1 : Int32) - (p2 &&& (2147483647 : Int32)))), .unset, .unset, .unset, .unset, .unset, .unset] [])) _
      rw [← e_ng]
      show Steps p.tables e below (T18.setTop (mkF m 85 #[.val (.int p1), .val (.int p2), .val (.int p3), .val (.int kx), .val (.ref aE), .val (.int ng), .unset, .unset, .unset, .unset, .unset, .unset] [])) _
      refine XS.iconst X18.here hx rfl (hb hby at_85) ?_
      show Steps p.tables e below (T18.setTop (mkF m 86 #[.val (.int p1), .val (.int p2), .val (.int p3), .val (.int kx), .val (.ref aE), .val (.int ng), .unset, .unset, .unset, .unset, .unset, .unset] [(.int (1 : Int32))])) _
      refine XS.iloadN X18.here hx rfl (hb hby at_86) rfl ?_
      show Steps p.tables e below (T18.setTop (mkF m 87 #[.val (.int p1), .val (.int p2), .val (.int p3), .val (.int kx), .val (.ref aE), .val (.int ng), .unset, .unset, .unset, .unset, .unset, .unset] [(.int p3), (.int (1 : Int32))])) _
      refine X18.ldcInt hx hown (mvT hZ (hw _ (List.mem_of_getElem? (i := 0) rfl))) (g := (mkF m 87 #[.val (.int p1), .val (.int p2), .val (.int p3), .val (.int kx), .val (.ref aE), .val (.int ng), .unset, .unset, .unset, .unset, .unset, .unset] [(.int p3), (.int (1 : Int32))])) rfl (hb hby at_87) _ ?_
      show Steps p.tables e below (T18.setTop (mkF m 89 #[.val (.int p1), .val (.int p2), .val (.int p3), .val (.int kx), .val (.ref aE), .val (.int ng), .unset, .unset, .unset, .unset, .unset, .unset] [(.int (2147483647 : Int32)), (.int p3), (.int (1 : Int32))])) _
      refine XS.iand X18.here hx rfl (hb hby at_89) rfl ?_
      show Steps p.tables e below (T18.setTop (mkF m 90 #[.val (.int p1), .val (.int p2), .val (.int p3), .val (.int kx), .val (.ref aE), .val (.int ng), .unset, .unset, .unset, .unset, .unset, .unset] [(.int (p3 &&& (2147483647 : Int32))), (.int (1 : Int32))])) _
      refine st19 _ ?_
      show Steps p.tables e below (T19.setTop (mkF m 93 #[.val (.int p1), .val (.int p2), .val (.int p3), .val (.int kx), .val (.ref aE), .val (.int ng), .unset, .unset, .unset, .unset, .unset, .unset] [(.int (if (1 : Int32) < (p3 &&& (2147483647 : Int32)) then (p3 &&& (2147483647 : Int32)) else (1 : Int32)))])) _
      refine XS.istore X19.here hx rfl (hb hby at_93) rfl (l' := #[.val (.int p1), .val (.int p2), .val (.int p3), .val (.int kx), .val (.ref aE), .val (.int ng), .val (.int (if (1 : Int32) < (p3 &&& (2147483647 : Int32)) then (p3 &&& (2147483647 : Int32)) else (1 : Int32))), .unset, .unset, .unset, .unset, .unset]) rfl ?_
      show Steps p.tables e below (T19.setTop (mkF m 95 #[.val (.int p1), .val (.int p2), .val (.int p3), .val (.int kx), .val (.ref aE), .val (.int ng), .val (.int (if (1 : Int32) < (p3 &&& (2147483647 : Int32)) then (p3 &&& (2147483647 : Int32)) else (1 : Int32))), .unset, .unset, .unset, .unset, .unset] [])) _
      rw [← e_ps]
      show Steps p.tables e below (T19.setTop (mkF m 95 #[.val (.int p1), .val (.int p2), .val (.int p3), .val (.int kx), .val (.ref aE), .val (.int ng), .val (.int ps), .unset, .unset, .unset, .unset, .unset] [])) _
      refine XS.aload X19.here hx rfl (hb hby at_95) rfl rfl ?_
      show Steps p.tables e below (T19.setTop (mkF m 97 #[.val (.int p1), .val (.int p2), .val (.int p3), .val (.int kx), .val (.ref aE), .val (.int ng), .val (.int ps), .unset, .unset, .unset, .unset, .unset] [(.ref aE)])) _
      refine st20.trans ?_
      show Steps p.tables e below (T20.setTop (mkF m 100 #[.val (.int p1), .val (.int p2), .val (.int p3), .val (.int kx), .val (.ref aE), .val (.int ng), .val (.int ps), .unset, .unset, .unset, .unset, .unset] [(.int (if aE = aE then (0 : Int32) else if aE = aN then (0 : Int32) else (1 : Int32)))])) _
      refine XS.istore X20.here hx rfl (hb hby at_100) rfl (l' := #[.val (.int p1), .val (.int p2), .val (.int p3), .val (.int kx), .val (.ref aE), .val (.int ng), .val (.int ps), .val (.int (if aE = aE then (0 : Int32) else if aE = aN then (0 : Int32) else (1 : Int32))), .unset, .unset, .unset, .unset]) rfl ?_
      show Steps p.tables e below (T20.setTop (mkF m 102 #[.val (.int p1), .val (.int p2), .val (.int p3), .val (.int kx), .val (.ref aE), .val (.int ng), .val (.int ps), .val (.int (if aE = aE then (0 : Int32) else if aE = aN then (0 : Int32) else (1 : Int32))), .unset, .unset, .unset, .unset] [])) _
      refine XS.aload X20.here hx rfl (hb hby at_102) rfl rfl ?_
      show Steps p.tables e below (T20.setTop (mkF m 104 #[.val (.int p1), .val (.int p2), .val (.int p3), .val (.int kx), .val (.ref aE), .val (.int ng), .val (.int ps), .val (.int (if aE = aE then (0 : Int32) else if aE = aN then (0 : Int32) else (1 : Int32))), .unset, .unset, .unset, .unset] [(.ref aE)])) _
      refine st21.trans ?_
      show Steps p.tables e below (T21.setTop (mkF m 107 #[.val (.int p1), .val (.int p2), .val (.int p3), .val (.int kx), .val (.ref aE), .val (.int ng), .val (.int ps), .val (.int (if aE = aE then (0 : Int32) else if aE = aN then (0 : Int32) else (1 : Int32))), .unset, .unset, .unset, .unset] [(.ref saE)])) _
      refine XS.astore X21.here hx rfl (hb hby at_107) rfl rfl (l' := #[.val (.int p1), .val (.int p2), .val (.int p3), .val (.int kx), .val (.ref aE), .val (.int ng), .val (.int ps), .val (.int (if aE = aE then (0 : Int32) else if aE = aN then (0 : Int32) else (1 : Int32))), .val (.ref saE), .unset, .unset, .unset]) rfl ?_
      show Steps p.tables e below (T21.setTop (mkF m 109 #[.val (.int p1), .val (.int p2), .val (.int p3), .val (.int kx), .val (.ref aE), .val (.int ng), .val (.int ps), .val (.int (if aE = aE then (0 : Int32) else if aE = aN then (0 : Int32) else (1 : Int32))), .val (.ref saE), .unset, .unset, .unset] [])) _
      refine XS.aload X21.here hx rfl (hb hby at_109) rfl rfl ?_
      show Steps p.tables e below (T21.setTop (mkF m 111 #[.val (.int p1), .val (.int p2), .val (.int p3), .val (.int kx), .val (.ref aE), .val (.int ng), .val (.int ps), .val (.int (if aE = aE then (0 : Int32) else if aE = aN then (0 : Int32) else (1 : Int32))), .val (.ref saE), .unset, .unset, .unset] [(.ref saE)])) _
      refine XS.iconst X21.here hx rfl (hb hby at_111) ?_
      show Steps p.tables e below (T21.setTop (mkF m 112 #[.val (.int p1), .val (.int p2), .val (.int p3), .val (.int kx), .val (.ref aE), .val (.int ng), .val (.int ps), .val (.int (if aE = aE then (0 : Int32) else if aE = aN then (0 : Int32) else (1 : Int32))), .val (.ref saE), .unset, .unset, .unset] [(.int (0 : Int32)), (.ref saE)])) _
      refine st22.trans ?_
      show Steps p.tables e below (T22.setTop (mkF m 115 #[.val (.int p1), .val (.int p2), .val (.int p3), .val (.int kx), .val (.ref aE), .val (.int ng), .val (.int ps), .val (.int (if aE = aE then (0 : Int32) else if aE = aN then (0 : Int32) else (1 : Int32))), .val (.ref saE), .unset, .unset, .unset] [(.int (nar .char (nar .char (((61 : Int32) &&& (255 : Int32)).toUInt32.toUInt16.toUInt32.toInt32))))])) _
      refine XS.istore X22.here hx rfl (hb hby at_115) rfl (l' := #[.val (.int p1), .val (.int p2), .val (.int p3), .val (.int kx), .val (.ref aE), .val (.int ng), .val (.int ps), .val (.int (if aE = aE then (0 : Int32) else if aE = aN then (0 : Int32) else (1 : Int32))), .val (.ref saE), .val (.int (nar .char (nar .char (((61 : Int32) &&& (255 : Int32)).toUInt32.toUInt16.toUInt32.toInt32)))), .unset, .unset]) rfl ?_
      show Steps p.tables e below (T22.setTop (mkF m 117 #[.val (.int p1), .val (.int p2), .val (.int p3), .val (.int kx), .val (.ref aE), .val (.int ng), .val (.int ps), .val (.int (if aE = aE then (0 : Int32) else if aE = aN then (0 : Int32) else (1 : Int32))), .val (.ref saE), .val (.int (nar .char (nar .char (((61 : Int32) &&& (255 : Int32)).toUInt32.toUInt16.toUInt32.toInt32)))), .unset, .unset] [])) _
      refine XS.iload X22.here hx rfl (hb hby at_117) rfl ?_
      show Steps p.tables e below (T22.setTop (mkF m 119 #[.val (.int p1), .val (.int p2), .val (.int p3), .val (.int kx), .val (.ref aE), .val (.int ng), .val (.int ps), .val (.int (if aE = aE then (0 : Int32) else if aE = aN then (0 : Int32) else (1 : Int32))), .val (.ref saE), .val (.int (nar .char (nar .char (((61 : Int32) &&& (255 : Int32)).toUInt32.toUInt16.toUInt32.toInt32)))), .unset, .unset] [(.int (nar .char (nar .char (((61 : Int32) &&& (255 : Int32)).toUInt32.toUInt16.toUInt32.toInt32))))])) _
      refine XS.bipush X22.here hx rfl (hb hby at_119) ?_
      show Steps p.tables e below (T22.setTop (mkF m 121 #[.val (.int p1), .val (.int p2), .val (.int p3), .val (.int kx), .val (.ref aE), .val (.int ng), .val (.int ps), .val (.int (if aE = aE then (0 : Int32) else if aE = aN then (0 : Int32) else (1 : Int32))), .val (.ref saE), .val (.int (nar .char (nar .char (((61 : Int32) &&& (255 : Int32)).toUInt32.toUInt16.toUInt32.toInt32)))), .unset, .unset] [(.int (60 : Int32)), (.int (nar .char (nar .char (((61 : Int32) &&& (255 : Int32)).toUInt32.toUInt16.toUInt32.toInt32))))])) _
      refine XS.icmpNo X22.here hx rfl (hb hby at_121) rfl (feq hc121).1 ?_
      show Steps p.tables e below (T22.setTop (mkF m 124 #[.val (.int p1), .val (.int p2), .val (.int p3), .val (.int kx), .val (.ref aE), .val (.int ng), .val (.int ps), .val (.int (if aE = aE then (0 : Int32) else if aE = aN then (0 : Int32) else (1 : Int32))), .val (.ref saE), .val (.int (nar .char (nar .char (((61 : Int32) &&& (255 : Int32)).toUInt32.toUInt16.toUInt32.toInt32)))), .unset, .unset] [])) _
      refine XS.iload X22.here hx rfl (hb hby at_124) rfl ?_
      show Steps p.tables e below (T22.setTop (mkF m 126 #[.val (.int p1), .val (.int p2), .val (.int p3), .val (.int kx), .val (.ref aE), .val (.int ng), .val (.int ps), .val (.int (if aE = aE then (0 : Int32) else if aE = aN then (0 : Int32) else (1 : Int32))), .val (.ref saE), .val (.int (nar .char (nar .char (((61 : Int32) &&& (255 : Int32)).toUInt32.toUInt16.toUInt32.toInt32)))), .unset, .unset] [(.int (nar .char (nar .char (((61 : Int32) &&& (255 : Int32)).toUInt32.toUInt16.toUInt32.toInt32))))])) _
      refine XS.bipush X22.here hx rfl (hb hby at_126) ?_
      show Steps p.tables e below (T22.setTop (mkF m 128 #[.val (.int p1), .val (.int p2), .val (.int p3), .val (.int kx), .val (.ref aE), .val (.int ng), .val (.int ps), .val (.int (if aE = aE then (0 : Int32) else if aE = aN then (0 : Int32) else (1 : Int32))), .val (.ref saE), .val (.int (nar .char (nar .char (((61 : Int32) &&& (255 : Int32)).toUInt32.toUInt16.toUInt32.toInt32)))), .unset, .unset] [(.int (62 : Int32)), (.int (nar .char (nar .char (((61 : Int32) &&& (255 : Int32)).toUInt32.toUInt16.toUInt32.toInt32))))])) _
      refine XS.icmpYes X22.here hx rfl (pc0 := 128) (pc' := 135) rfl (hb hby at_128) rfl (feq hc128).2 (by decide) (by decide) ?_
      show Steps p.tables e below (T22.setTop (mkF m 135 #[.val (.int p1), .val (.int p2), .val (.int p3), .val (.int kx), .val (.ref aE), .val (.int ng), .val (.int ps), .val (.int (if aE = aE then (0 : Int32) else if aE = aN then (0 : Int32) else (1 : Int32))), .val (.ref saE), .val (.int (nar .char (nar .char (((61 : Int32) &&& (255 : Int32)).toUInt32.toUInt16.toUInt32.toInt32)))), .unset, .unset] [])) _
      refine XS.iconst X22.here hx rfl (hb hby at_135) ?_
      show Steps p.tables e below (T22.setTop (mkF m 136 #[.val (.int p1), .val (.int p2), .val (.int p3), .val (.int kx), .val (.ref aE), .val (.int ng), .val (.int ps), .val (.int (if aE = aE then (0 : Int32) else if aE = aN then (0 : Int32) else (1 : Int32))), .val (.ref saE), .val (.int (nar .char (nar .char (((61 : Int32) &&& (255 : Int32)).toUInt32.toUInt16.toUInt32.toInt32)))), .unset, .unset] [(.int (0 : Int32))])) _
      refine XS.istore X22.here hx rfl (hb hby at_136) rfl (l' := #[.val (.int p1), .val (.int p2), .val (.int p3), .val (.int kx), .val (.ref aE), .val (.int ng), .val (.int ps), .val (.int (if aE = aE then (0 : Int32) else if aE = aN then (0 : Int32) else (1 : Int32))), .val (.ref saE), .val (.int (nar .char (nar .char (((61 : Int32) &&& (255 : Int32)).toUInt32.toUInt16.toUInt32.toInt32)))), .val (.int (0 : Int32)), .unset]) rfl ?_
      show Steps p.tables e below (T22.setTop (mkF m 138 #[.val (.int p1), .val (.int p2), .val (.int p3), .val (.int kx), .val (.ref aE), .val (.int ng), .val (.int ps), .val (.int (if aE = aE then (0 : Int32) else if aE = aN then (0 : Int32) else (1 : Int32))), .val (.ref saE), .val (.int (nar .char (nar .char (((61 : Int32) &&& (255 : Int32)).toUInt32.toUInt16.toUInt32.toInt32)))), .val (.int (0 : Int32)), .unset] [])) _
      refine XS.aload X22.here hx rfl (hb hby at_138) rfl rfl ?_
      show Steps p.tables e below (T22.setTop (mkF m 140 #[.val (.int p1), .val (.int p2), .val (.int p3), .val (.int kx), .val (.ref aE), .val (.int ng), .val (.int ps), .val (.int (if aE = aE then (0 : Int32) else if aE = aN then (0 : Int32) else (1 : Int32))), .val (.ref saE), .val (.int (nar .char (nar .char (((61 : Int32) &&& (255 : Int32)).toUInt32.toUInt16.toUInt32.toInt32)))), .val (.int (0 : Int32)), .unset] [(.ref aE)])) _
      refine XS.iload X22.here hx rfl (hb hby at_140) rfl ?_
      show Steps p.tables e below (T22.setTop (mkF m 142 #[.val (.int p1), .val (.int p2), .val (.int p3), .val (.int kx), .val (.ref aE), .val (.int ng), .val (.int ps), .val (.int (if aE = aE then (0 : Int32) else if aE = aN then (0 : Int32) else (1 : Int32))), .val (.ref saE), .val (.int (nar .char (nar .char (((61 : Int32) &&& (255 : Int32)).toUInt32.toUInt16.toUInt32.toInt32)))), .val (.int (0 : Int32)), .unset] [(.int ng), (.ref aE)])) _
      refine st23.trans ?_
      show Steps p.tables e below (T23.setTop (mkF m 145 #[.val (.int p1), .val (.int p2), .val (.int p3), .val (.int kx), .val (.ref aE), .val (.int ng), .val (.int ps), .val (.int (if aE = aE then (0 : Int32) else if aE = aN then (0 : Int32) else (1 : Int32))), .val (.ref saE), .val (.int (nar .char (nar .char (((61 : Int32) &&& (255 : Int32)).toUInt32.toUInt16.toUInt32.toInt32)))), .val (.int (0 : Int32)), .unset] [(.int (own_holds (0 : Int32) ng))])) _
      refine XS.aload X23.here hx rfl (hb hby at_145) rfl rfl ?_
      show Steps p.tables e below (T23.setTop (mkF m 147 #[.val (.int p1), .val (.int p2), .val (.int p3), .val (.int kx), .val (.ref aE), .val (.int ng), .val (.int ps), .val (.int (if aE = aE then (0 : Int32) else if aE = aN then (0 : Int32) else (1 : Int32))), .val (.ref saE), .val (.int (nar .char (nar .char (((61 : Int32) &&& (255 : Int32)).toUInt32.toUInt16.toUInt32.toInt32)))), .val (.int (0 : Int32)), .unset] [(.ref aE), (.int (own_holds (0 : Int32) ng))])) _
      refine XS.iload X23.here hx rfl (hb hby at_147) rfl ?_
      show Steps p.tables e below (T23.setTop (mkF m 149 #[.val (.int p1), .val (.int p2), .val (.int p3), .val (.int kx), .val (.ref aE), .val (.int ng), .val (.int ps), .val (.int (if aE = aE then (0 : Int32) else if aE = aN then (0 : Int32) else (1 : Int32))), .val (.ref saE), .val (.int (nar .char (nar .char (((61 : Int32) &&& (255 : Int32)).toUInt32.toUInt16.toUInt32.toInt32)))), .val (.int (0 : Int32)), .unset] [(.int ps), (.ref aE), (.int (own_holds (0 : Int32) ng))])) _
      refine st24.trans ?_
      show Steps p.tables e below (T24.setTop (mkF m 152 #[.val (.int p1), .val (.int p2), .val (.int p3), .val (.int kx), .val (.ref aE), .val (.int ng), .val (.int ps), .val (.int (if aE = aE then (0 : Int32) else if aE = aN then (0 : Int32) else (1 : Int32))), .val (.ref saE), .val (.int (nar .char (nar .char (((61 : Int32) &&& (255 : Int32)).toUInt32.toUInt16.toUInt32.toInt32)))), .val (.int (0 : Int32)), .unset] [(.int (own_holds (0 : Int32) ps)), (.int (own_holds (0 : Int32) ng))])) _
      refine XS.icmpYes X24.here hx rfl (pc0 := 152) (pc' := 159) rfl (hb hby at_152) rfl (teq hc152).1 (by decide) (by decide) ?_
      show Steps p.tables e below (T24.setTop (mkF m 159 #[.val (.int p1), .val (.int p2), .val (.int p3), .val (.int kx), .val (.ref aE), .val (.int ng), .val (.int ps), .val (.int (if aE = aE then (0 : Int32) else if aE = aN then (0 : Int32) else (1 : Int32))), .val (.ref saE), .val (.int (nar .char (nar .char (((61 : Int32) &&& (255 : Int32)).toUInt32.toUInt16.toUInt32.toInt32)))), .val (.int (0 : Int32)), .unset] [])) _
      refine XS.iconst X24.here hx rfl (hb hby at_159) ?_
      show Steps p.tables e below (T24.setTop (mkF m 160 #[.val (.int p1), .val (.int p2), .val (.int p3), .val (.int kx), .val (.ref aE), .val (.int ng), .val (.int ps), .val (.int (if aE = aE then (0 : Int32) else if aE = aN then (0 : Int32) else (1 : Int32))), .val (.ref saE), .val (.int (nar .char (nar .char (((61 : Int32) &&& (255 : Int32)).toUInt32.toUInt16.toUInt32.toInt32)))), .val (.int (0 : Int32)), .unset] [(.int (0 : Int32))])) _
      refine XS.istore X24.here hx rfl (hb hby at_160) rfl (l' := #[.val (.int p1), .val (.int p2), .val (.int p3), .val (.int kx), .val (.ref aE), .val (.int ng), .val (.int ps), .val (.int (if aE = aE then (0 : Int32) else if aE = aN then (0 : Int32) else (1 : Int32))), .val (.ref saE), .val (.int (nar .char (nar .char (((61 : Int32) &&& (255 : Int32)).toUInt32.toUInt16.toUInt32.toInt32)))), .val (.int (0 : Int32)), .val (.int (0 : Int32))]) rfl ?_
      show Steps p.tables e below (T24.setTop (mkF m 162 #[.val (.int p1), .val (.int p2), .val (.int p3), .val (.int kx), .val (.ref aE), .val (.int ng), .val (.int ps), .val (.int (if aE = aE then (0 : Int32) else if aE = aN then (0 : Int32) else (1 : Int32))), .val (.ref saE), .val (.int (nar .char (nar .char (((61 : Int32) &&& (255 : Int32)).toUInt32.toUInt16.toUInt32.toInt32)))), .val (.int (0 : Int32)), .val (.int (0 : Int32))] [])) _
      refine XS.iload X24.here hx rfl (hb hby at_162) rfl ?_
      show Steps p.tables e below (T24.setTop (mkF m 164 #[.val (.int p1), .val (.int p2), .val (.int p3), .val (.int kx), .val (.ref aE), .val (.int ng), .val (.int ps), .val (.int (if aE = aE then (0 : Int32) else if aE = aN then (0 : Int32) else (1 : Int32))), .val (.ref saE), .val (.int (nar .char (nar .char (((61 : Int32) &&& (255 : Int32)).toUInt32.toUInt16.toUInt32.toInt32)))), .val (.int (0 : Int32)), .val (.int (0 : Int32))] [(.int (if aE = aE then (0 : Int32) else if aE = aN then (0 : Int32) else (1 : Int32)))])) _
      refine XS.iload X24.here hx rfl (hb hby at_164) rfl ?_
      show Steps p.tables e below (T24.setTop (mkF m 166 #[.val (.int p1), .val (.int p2), .val (.int p3), .val (.int kx), .val (.ref aE), .val (.int ng), .val (.int ps), .val (.int (if aE = aE then (0 : Int32) else if aE = aN then (0 : Int32) else (1 : Int32))), .val (.ref saE), .val (.int (nar .char (nar .char (((61 : Int32) &&& (255 : Int32)).toUInt32.toUInt16.toUInt32.toInt32)))), .val (.int (0 : Int32)), .val (.int (0 : Int32))] [(.int (0 : Int32)), (.int (if aE = aE then (0 : Int32) else if aE = aN then (0 : Int32) else (1 : Int32)))])) _
      refine XS.icmpNo X24.here hx rfl (hb hby at_166) rfl (teq hc166).2 ?_
      show Steps p.tables e below (T24.setTop (mkF m 169 #[.val (.int p1), .val (.int p2), .val (.int p3), .val (.int kx), .val (.ref aE), .val (.int ng), .val (.int ps), .val (.int (if aE = aE then (0 : Int32) else if aE = aN then (0 : Int32) else (1 : Int32))), .val (.ref saE), .val (.int (nar .char (nar .char (((61 : Int32) &&& (255 : Int32)).toUInt32.toUInt16.toUInt32.toInt32)))), .val (.int (0 : Int32)), .val (.int (0 : Int32))] [])) _
      refine XS.iload X24.here hx rfl (hb hby at_169) rfl ?_
      show Steps p.tables e below (T24.setTop (mkF m 171 #[.val (.int p1), .val (.int p2), .val (.int p3), .val (.int kx), .val (.ref aE), .val (.int ng), .val (.int ps), .val (.int (if aE = aE then (0 : Int32) else if aE = aN then (0 : Int32) else (1 : Int32))), .val (.ref saE), .val (.int (nar .char (nar .char (((61 : Int32) &&& (255 : Int32)).toUInt32.toUInt16.toUInt32.toInt32)))), .val (.int (0 : Int32)), .val (.int (0 : Int32))] [(.int (if aE = aE then (0 : Int32) else if aE = aN then (0 : Int32) else (1 : Int32)))])) _
      refine XS.iload X24.here hx rfl (hb hby at_171) rfl ?_
      show Steps p.tables e below (T24.setTop (mkF m 173 #[.val (.int p1), .val (.int p2), .val (.int p3), .val (.int kx), .val (.ref aE), .val (.int ng), .val (.int ps), .val (.int (if aE = aE then (0 : Int32) else if aE = aN then (0 : Int32) else (1 : Int32))), .val (.ref saE), .val (.int (nar .char (nar .char (((61 : Int32) &&& (255 : Int32)).toUInt32.toUInt16.toUInt32.toInt32)))), .val (.int (0 : Int32)), .val (.int (0 : Int32))] [(.int (0 : Int32)), (.int (if aE = aE then (0 : Int32) else if aE = aN then (0 : Int32) else (1 : Int32)))])) _
      refine XS.icmpNo X24.here hx rfl (hb hby at_173) rfl (teq hc173).2 ?_
      show Steps p.tables e below (T24.setTop (mkF m 176 #[.val (.int p1), .val (.int p2), .val (.int p3), .val (.int kx), .val (.ref aE), .val (.int ng), .val (.int ps), .val (.int (if aE = aE then (0 : Int32) else if aE = aN then (0 : Int32) else (1 : Int32))), .val (.ref saE), .val (.int (nar .char (nar .char (((61 : Int32) &&& (255 : Int32)).toUInt32.toUInt16.toUInt32.toInt32)))), .val (.int (0 : Int32)), .val (.int (0 : Int32))] [])) _
      refine XS.iconst X24.here hx rfl (hb hby at_176) ?_
      show Steps p.tables e below (T24.setTop (mkF m 177 #[.val (.int p1), .val (.int p2), .val (.int p3), .val (.int kx), .val (.ref aE), .val (.int ng), .val (.int ps), .val (.int (if aE = aE then (0 : Int32) else if aE = aN then (0 : Int32) else (1 : Int32))), .val (.ref saE), .val (.int (nar .char (nar .char (((61 : Int32) &&& (255 : Int32)).toUInt32.toUInt16.toUInt32.toInt32)))), .val (.int (0 : Int32)), .val (.int (0 : Int32))] [(.int (1 : Int32))])) _
      refine XS.goto X24.here hx rfl (pc0 := 177) (pc' := 181) rfl (hb hby at_177) (by decide) (by decide) ?_
      show Steps p.tables e below (T24.setTop (mkF m 181 #[.val (.int p1), .val (.int p2), .val (.int p3), .val (.int kx), .val (.ref aE), .val (.int ng), .val (.int ps), .val (.int (if aE = aE then (0 : Int32) else if aE = aN then (0 : Int32) else (1 : Int32))), .val (.ref saE), .val (.int (nar .char (nar .char (((61 : Int32) &&& (255 : Int32)).toUInt32.toUInt16.toUInt32.toInt32)))), .val (.int (0 : Int32)), .val (.int (0 : Int32))] [(.int (1 : Int32))])) _
      exact retN X24 hx (t := .boolean) Bd.returns (by simp) (hb hby at_181) hr
    · show Q_0 Z p1 p2 p3 h0 n0 _ T24.heap _
      rw [e24]
      exact ⟨rfl, N24⟩
  · by_cases hc22 : kx = (1 : Int32)
    · obtain ⟨T25, X25, e25, st25⟩ := getS2 X0 hx hZ hown (host := "") (Or.inl (hw _ (List.mem_of_getElem? (i := 63) rfl))) Via.refl e0 S_NOT_EQUAL (g := (mkF m 25 #[.val (.int p1), .val (.int p2), .val (.int p3), .val (.int kx), .unset, .unset, .unset, .unset, .unset, .unset, .unset, .unset] [])) rfl (hb hby at_25)
      obtain ⟨ng, e_ng⟩ : ∃ z : Int32, z = ((-1 : Int32) - (p2 &&& (2147483647 : Int32))) := ⟨_, rfl⟩
      have hng : ng < 0 := e_ng ▸ own_neg p2
      have hneg : ng < 0 ∧ ¬ ng = 0 ∧ ¬ 0 < ng := by
        rcases own_tri ng with u | u | u
        · exact u
        · exact absurd hng u.2.1
        · exact absurd hng u.2.1
      obtain ⟨_, _, ⟨T26, L26, c26_, n26_⟩, -, X26, ⟨Lc26, hQ26, l26, y26, z26⟩, st26⟩ := Jvm.LawKit.callS X25 hx (y := (⟨"java/lang/Math", "max", "(II)I"⟩ : MethodName)) hown (mvT hZ (hw _ (List.mem_of_getElem? (i := 4) rfl))) (mvT hZ (hw _ (List.mem_of_getElem? (i := 5) rfl))) (mvT hZ (hw _ (List.mem_of_getElem? (i := 6) rfl))) (mvT hZ (hw _ (List.mem_of_getElem? (i := 7) rfl))) (by decide) (backOf (W := 0) (rm_1 l Z a0 hw [] (1 : Int32) (p3 &&& (2147483647 : Int32)) h0 n0 (Nat.le_trans Z0 (Keep.refl h0 []).1) ) hZ (hw _ (List.mem_of_getElem? (i := 7) rfl)) (hw _ (List.mem_of_getElem? (i := 6) rfl)) (by decide) (by decide)) (g := (mkF m 90 #[.val (.int p1), .val (.int p2), .val (.int p3), .val (.int kx), .val (.ref aN), .val (.int ng), .unset, .unset, .unset, .unset, .unset, .unset] [(.int (p3 &&& (2147483647 : Int32))), (.int (1 : Int32))])) rfl (by rw [hml]; rfl) (argsL := [(.int (1 : Int32)), (.int (p3 &&& (2147483647 : Int32)))]) (rest := []) (lenOf pd__28II_29I rfl) rfl (by show 2 * 0 + _ ≤ _; exact Nat.le_of_eq rfl) (hb hby at_90) (fun _ _ => ⟨rfl, e25, (by decide : 0 + 0 ≤ _), (by decide : 0 + 0 ≤ _)⟩)
      dsimp only [Pt.U, Pt.locs, Pt.cells, Pt.slots] at X26 l26 y26 z26 st26 hQ26
      subst l26 y26 z26
      obtain ⟨rfl, Nq26, e26⟩ := hQ26
      have N26 := Fr.app N0 Nq26
      obtain ⟨ps, e_ps⟩ : ∃ z : Int32, z = (if (1 : Int32) < (p3 &&& (2147483647 : Int32)) then (p3 &&& (2147483647 : Int32)) else (1 : Int32)) := ⟨_, rfl⟩
      have hps : 0 < ps := e_ps ▸ own_pos _
      have hpos : 0 < ps ∧ ¬ ps < 0 ∧ ¬ ps = 0 := by
        rcases own_tri ps with u | u | u
        · exact absurd hps u.2.2
        · exact absurd hps u.2.2
        · exact u
      obtain ⟨cq27, kq27, q27a, q27b, q27c⟩ := isOf hZ e26 E_NOT_EQUAL
      obtain ⟨_, _, ⟨T27, L27, c27_, n27_⟩, -, X27, ⟨Lc27, hQ27, l27, y27, z27⟩, st27⟩ := X26.virtualBack hx (y := (⟨"com/example/furlong/furlong/model/Condition$Operator", "isOrder", "()Z"⟩ : MethodName)) (z := (⟨"com/example/furlong/furlong/model/Condition$Operator", "isOrder", "()Z"⟩ : MethodName)) hown (mvT hZ (hw _ (List.mem_of_getElem? (i := 8) rfl))) (mvT hZ (hw _ (List.mem_of_getElem? (i := 9) rfl))) (notFace_of_selects (args := #[]) (mvT hZ (hw _ (List.mem_of_getElem? (i := 11) rfl)))) (mvT hZ (hw _ (List.mem_of_getElem? (i := 11) rfl))) (mvT hZ (hw _ (List.mem_of_getElem? (i := 10) rfl))) (by decide) (backOf (W := 0) (rm_2 l Z a0 hw [] aN aE aN h0 n0 (Nat.le_trans Z0 (Keep.refl h0 []).1) S_EQUAL S_NOT_EQUAL) hZ (hw _ (List.mem_of_getElem? (i := 12) rfl)) (hw _ (List.mem_of_getElem? (i := 2) rfl)) (by decide) (by decide)) q27a q27c (g := (mkF m 97 #[.val (.int p1), .val (.int p2), .val (.int p3), .val (.int kx), .val (.ref aN), .val (.int ng), .val (.int ps), .unset, .unset, .unset, .unset, .unset] [(.ref aN)])) rfl (by rw [hml]; rfl) (Steps.refl _) (argsL := []) (rest := []) (lenOf pd__28_29Z rfl) rfl (by show 2 * 0 + _ ≤ _; exact Nat.le_of_eq rfl) (hb hby at_97) (fun _ _ => ⟨rfl, e26, (by decide : 0 + 0 ≤ _), (by decide : 0 + 0 ≤ _)⟩)
      dsimp only [Pt.U, Pt.locs, Pt.cells, Pt.slots] at X27 l27 y27 z27 st27 hQ27
      subst l27 y27 z27
      obtain ⟨rfl, Nq27, e27⟩ := hQ27
      have N27 := Fr.app N26 Nq27
      obtain ⟨cq28, kq28, q28a, q28b, q28c⟩ := isOf hZ e27 E_NOT_EQUAL
      obtain ⟨_, _, ⟨T28, L28, c28_, n28_⟩, -, X28, ⟨Lc28, hQ28, l28, y28, z28⟩, st28⟩ := X27.virtualBack hx (y := (⟨"com/example/furlong/furlong/model/Condition$Operator", "symbol", "()Ljava/lang/String;"⟩ : MethodName)) (z := (⟨"com/example/furlong/furlong/model/Condition$Operator", "symbol", "()Ljava/lang/String;"⟩ : MethodName)) hown (mvT hZ (hw _ (List.mem_of_getElem? (i := 14) rfl))) (mvT hZ (hw _ (List.mem_of_getElem? (i := 15) rfl))) (notFace_of_selects (args := #[]) (mvT hZ (hw _ (List.mem_of_getElem? (i := 17) rfl)))) (mvT hZ (hw _ (List.mem_of_getElem? (i := 17) rfl))) (mvT hZ (hw _ (List.mem_of_getElem? (i := 16) rfl))) (by decide) (backOf (W := 0) (rm_3 l Z a0 hw [] aN saN h0 n0 (Nat.le_trans Z0 (Keep.refl h0 []).1) Fs_NOT_EQUAL) hZ (hw _ (List.mem_of_getElem? (i := 18) rfl)) (hw _ (List.mem_of_getElem? (i := 2) rfl)) (by decide) (by decide)) q28a q28c (g := (mkF m 104 #[.val (.int p1), .val (.int p2), .val (.int p3), .val (.int kx), .val (.ref aN), .val (.int ng), .val (.int ps), .val (.int (if aN = aE then (0 : Int32) else if aN = aN then (0 : Int32) else (1 : Int32))), .unset, .unset, .unset, .unset] [(.ref aN)])) rfl (by rw [hml]; rfl) (Steps.refl _) (argsL := []) (rest := []) (lenOf pd__28_29Ljava_2flang_2fString_3b rfl) rfl (by show 2 * 0 + _ ≤ _; exact Nat.le_of_eq rfl) (hb hby at_104) (fun _ _ => ⟨rfl, e27, (by decide : 0 + 0 ≤ _), (by decide : 0 + 0 ≤ _)⟩)
      dsimp only [Pt.U, Pt.locs, Pt.cells, Pt.slots] at X28 l28 y28 z28 st28 hQ28
      subst l28 y28 z28
      obtain ⟨rfl, Nq28, e28⟩ := hQ28
      have N28 := Fr.app N27 Nq28
      obtain ⟨cq29, kq29, q29a, q29b, q29c⟩ := isOf hZ e28 Es_NOT_EQUAL
      obtain ⟨_, _, ⟨T29, L29, c29_, n29_⟩, -, X29, ⟨Lc29, hQ29, l29, y29, z29⟩, st29⟩ := X28.virtualBack hx (y := (⟨"java/lang/String", "charAt", "(I)C"⟩ : MethodName)) (z := (⟨"java/lang/String", "charAt", "(I)C"⟩ : MethodName)) hown (mvT hZ (hw _ (List.mem_of_getElem? (i := 21) rfl))) (mvT hZ (hw _ (List.mem_of_getElem? (i := 22) rfl))) (notFace_of_selects (args := #[]) (mvT hZ (hw _ (List.mem_of_getElem? (i := 24) rfl)))) (mvT hZ (hw _ (List.mem_of_getElem? (i := 24) rfl))) (mvT hZ (hw _ (List.mem_of_getElem? (i := 23) rfl))) (by decide) (backOf (W := 0) (rm_ch l Z a0 hw [] saN (0 : Int32) (33 : Int32) taN kaN (2 : Int32) [Value.int (33 : Int32), Value.int (61 : Int32)] fm zc h0 n0 (Nat.le_trans Z0 (Keep.refl h0 []).1) Va_NOT_EQUAL (by decide) (by decide) rfl rf S_F S_C hz Fc_NOT_EQUAL Fv_NOT_EQUAL Es_NOT_EQUAL) hZ (hw _ (List.mem_of_getElem? (i := 26) rfl)) (hw _ (List.mem_of_getElem? (i := 25) rfl)) (by decide) (by decide)) q29a q29c (g := (mkF m 112 #[.val (.int p1), .val (.int p2), .val (.int p3), .val (.int kx), .val (.ref aN), .val (.int ng), .val (.int ps), .val (.int (if aN = aE then (0 : Int32) else if aN = aN then (0 : Int32) else (1 : Int32))), .val (.ref saN), .unset, .unset, .unset] [(.int (0 : Int32)), (.ref saN)])) rfl (by rw [hml]; rfl) (Steps.refl _) (argsL := [(.int (0 : Int32))]) (rest := []) (lenOf pd__28I_29C rfl) rfl (by show 2 * 0 + _ ≤ _; exact Nat.le_of_eq rfl) (hb hby at_112) (fun _ _ => ⟨rfl, e28, (by decide : 0 + 0 ≤ _), (by decide : 0 + 0 ≤ _)⟩)
      dsimp only [Pt.U, Pt.locs, Pt.cells, Pt.slots] at X29 l29 y29 z29 st29 hQ29
      subst l29 y29 z29
      obtain ⟨rfl, Nq29, e29⟩ := hQ29
      have N29 := Fr.app N28 Nq29
      have hc121 : ¬ ((nar .char (nar .char (((33 : Int32) &&& (255 : Int32)).toUInt32.toUInt16.toUInt32.toInt32))) = (60 : Int32)) := by decide
      have hc128 : ¬ ((nar .char (nar .char (((33 : Int32) &&& (255 : Int32)).toUInt32.toUInt16.toUInt32.toInt32))) = (62 : Int32)) := by decide
      obtain ⟨cq30, kq30, q30a, q30b, q30c⟩ := isOf hZ e29 E_NOT_EQUAL
      obtain ⟨_, _, ⟨T30, L30, c30_, n30_⟩, -, X30, ⟨Lc30, hQ30, l30, y30, z30⟩, st30⟩ := X29.virtualBack hx (y := (⟨"com/example/furlong/furlong/model/Condition$Operator", "holds", "(I)Z"⟩ : MethodName)) (z := (⟨"com/example/furlong/furlong/model/Condition$Operator", "holds", "(I)Z"⟩ : MethodName)) hown (mvT hZ (hw _ (List.mem_of_getElem? (i := 49) rfl))) (mvT hZ (hw _ (List.mem_of_getElem? (i := 50) rfl))) (notFace_of_selects (args := #[]) (mvT hZ (hw _ (List.mem_of_getElem? (i := 52) rfl)))) (mvT hZ (hw _ (List.mem_of_getElem? (i := 52) rfl))) (mvT hZ (hw _ (List.mem_of_getElem? (i := 51) rfl))) (by decide) (backOf (W := 0) (rm_9 l Z a0 hw [] aN ng (1 : Int32) h0 n0 (Nat.le_trans Z0 (Keep.refl h0 []).1) Fo_NOT_EQUAL E_NOT_EQUAL) hZ (hw _ (List.mem_of_getElem? (i := 53) rfl)) (hw _ (List.mem_of_getElem? (i := 2) rfl)) (by decide) (by decide)) q30a q30c (g := (mkF m 142 #[.val (.int p1), .val (.int p2), .val (.int p3), .val (.int kx), .val (.ref aN), .val (.int ng), .val (.int ps), .val (.int (if aN = aE then (0 : Int32) else if aN = aN then (0 : Int32) else (1 : Int32))), .val (.ref saN), .val (.int (nar .char (nar .char (((33 : Int32) &&& (255 : Int32)).toUInt32.toUInt16.toUInt32.toInt32)))), .val (.int (0 : Int32)), .unset] [(.int ng), (.ref aN)])) rfl (by rw [hml]; rfl) (Steps.refl _) (argsL := [(.int ng)]) (rest := []) (lenOf pd__28I_29Z rfl) rfl (by show 2 * 0 + _ ≤ _; exact Nat.le_of_eq rfl) (hb hby at_142) (fun _ _ => ⟨rfl, e29, (by decide : 0 + 0 ≤ _), (by decide : 0 + 0 ≤ _)⟩)
      dsimp only [Pt.U, Pt.locs, Pt.cells, Pt.slots] at X30 l30 y30 z30 st30 hQ30
      subst l30 y30 z30
      obtain ⟨rfl, Nq30, e30⟩ := hQ30
      have N30 := Fr.app N29 Nq30
      obtain ⟨cq31, kq31, q31a, q31b, q31c⟩ := isOf hZ e30 E_NOT_EQUAL
      obtain ⟨_, _, ⟨T31, L31, c31_, n31_⟩, -, X31, ⟨Lc31, hQ31, l31, y31, z31⟩, st31⟩ := X30.virtualBack hx (y := (⟨"com/example/furlong/furlong/model/Condition$Operator", "holds", "(I)Z"⟩ : MethodName)) (z := (⟨"com/example/furlong/furlong/model/Condition$Operator", "holds", "(I)Z"⟩ : MethodName)) hown (mvT hZ (hw _ (List.mem_of_getElem? (i := 49) rfl))) (mvT hZ (hw _ (List.mem_of_getElem? (i := 50) rfl))) (notFace_of_selects (args := #[]) (mvT hZ (hw _ (List.mem_of_getElem? (i := 52) rfl)))) (mvT hZ (hw _ (List.mem_of_getElem? (i := 52) rfl))) (mvT hZ (hw _ (List.mem_of_getElem? (i := 51) rfl))) (by decide) (backOf (W := 1) (rm_9 l Z a0 hw [] aN ps (1 : Int32) h0 n0 (Nat.le_trans Z0 (Keep.refl h0 []).1) Fo_NOT_EQUAL E_NOT_EQUAL) hZ (hw _ (List.mem_of_getElem? (i := 53) rfl)) (hw _ (List.mem_of_getElem? (i := 2) rfl)) (by decide) (by decide)) q31a q31c (g := (mkF m 149 #[.val (.int p1), .val (.int p2), .val (.int p3), .val (.int kx), .val (.ref aN), .val (.int ng), .val (.int ps), .val (.int (if aN = aE then (0 : Int32) else if aN = aN then (0 : Int32) else (1 : Int32))), .val (.ref saN), .val (.int (nar .char (nar .char (((33 : Int32) &&& (255 : Int32)).toUInt32.toUInt16.toUInt32.toInt32)))), .val (.int (0 : Int32)), .unset] [(.int ps), (.ref aN), (.int (own_holds (1 : Int32) ng))])) rfl (by rw [hml]; rfl) (Steps.refl _) (argsL := [(.int ps)]) (rest := [(.int (own_holds (1 : Int32) ng))]) (lenOf pd__28I_29Z rfl) rfl (by show 2 * 0 + _ ≤ _; exact Nat.le_of_eq rfl) (hb hby at_149) (fun _ _ => ⟨rfl, e30, (by decide : 0 + 0 ≤ _), (by decide : 0 + 0 ≤ _)⟩)
      dsimp only [Pt.U, Pt.locs, Pt.cells, Pt.slots] at X31 l31 y31 z31 st31 hQ31
      subst l31 y31 z31
      obtain ⟨rfl, Nq31, e31⟩ := hQ31
      have N31 := Fr.app N30 Nq31
      have hc152 : (own_holds (1 : Int32) ng) = (own_holds (1 : Int32) ps) := (by simp [own_holds, hneg.1, hneg.2.1, hneg.2.2, hpos.1, hpos.2.1, hpos.2.2])
      have hc166 : (if aN = aE then (0 : Int32) else if aN = aN then (0 : Int32) else (1 : Int32)) = (0 : Int32) := (by simp [ne_EQUAL_NOT_EQUAL, ne_EQUAL_AT_MOST, ne_EQUAL_AT_LEAST, ne_EQUAL_BELOW, ne_EQUAL_ABOVE, ne_NOT_EQUAL_AT_MOST, ne_NOT_EQUAL_AT_LEAST, ne_NOT_EQUAL_BELOW, ne_NOT_EQUAL_ABOVE])
      have hc173 : (if aN = aE then (0 : Int32) else if aN = aN then (0 : Int32) else (1 : Int32)) = (0 : Int32) := (by simp [ne_EQUAL_NOT_EQUAL, ne_EQUAL_AT_MOST, ne_EQUAL_AT_LEAST, ne_EQUAL_BELOW, ne_EQUAL_ABOVE, ne_NOT_EQUAL_AT_MOST, ne_NOT_EQUAL_AT_LEAST, ne_NOT_EQUAL_BELOW, ne_NOT_EQUAL_ABOVE])
      obtain ⟨fs, hr, hrun, hended, hW, hsame⟩ := X31.leave (v := some (.int (1 : Int32))) (fun h => by rw [Bd.returns] at h; cases h)
      refine ⟨_, _, pre0 _ ?_, hrun, hended, _, _, rfl, ?_, ⟨_, rfl⟩, hW, hsame.mono (by decide) (by decide)⟩
      · show Steps p.tables e below (s₁.setTop (mkF m 0 #[.val (.int p1), .val (.int p2), .val (.int p3), .unset, .unset, .unset, .unset, .unset, .unset, .unset, .unset, .unset] [])) _
        refine XS.iloadN X0.here hx rfl (hb hby at_0) rfl ?_
        show Steps p.tables e below (s₁.setTop (mkF m 1 #[.val (.int p1), .val (.int p2), .val (.int p3), .unset, .unset, .unset, .unset, .unset, .unset, .unset, .unset, .unset] [(.int p1)])) _
        refine X0.ldcInt hx hown (mvT hZ (hw _ (List.mem_of_getElem? (i := 0) rfl))) (g := (mkF m 1 #[.val (.int p1), .val (.int p2), .val (.int p3), .unset, .unset, .unset, .unset, .unset, .unset, .unset, .unset, .unset] [(.int p1)])) rfl (hb hby at_1) _ ?_
        show Steps p.tables e below (s₁.setTop (mkF m 3 #[.val (.int p1), .val (.int p2), .val (.int p3), .unset, .unset, .unset, .unset, .unset, .unset, .unset, .unset, .unset] [(.int (2147483647 : Int32)), (.int p1)])) _
        refine XS.iand X0.here hx rfl (hb hby at_3) rfl ?_
        show Steps p.tables e below (s₁.setTop (mkF m 4 #[.val (.int p1), .val (.int p2), .val (.int p3), .unset, .unset, .unset, .unset, .unset, .unset, .unset, .unset, .unset] [(.int (p1 &&& (2147483647 : Int32)))])) _
        refine XS.bipush X0.here hx rfl (hb hby at_4) ?_
        show Steps p.tables e below (s₁.setTop (mkF m 6 #[.val (.int p1), .val (.int p2), .val (.int p3), .unset, .unset, .unset, .unset, .unset, .unset, .unset, .unset, .unset] [(.int (6 : Int32)), (.int (p1 &&& (2147483647 : Int32)))])) _
        refine iremM X0 hx rfl (hb hby at_6) rfl (by decide) ?_
        show Steps p.tables e below (s₁.setTop (mkF m 7 #[.val (.int p1), .val (.int p2), .val (.int p3), .unset, .unset, .unset, .unset, .unset, .unset, .unset, .unset, .unset] [(.int ((p1 &&& (2147483647 : Int32)) % (6 : Int32)))])) _
        refine XS.istoreN X0.here hx rfl (hb hby at_7) rfl (l' := #[.val (.int p1), .val (.int p2), .val (.int p3), .val (.int ((p1 &&& (2147483647 : Int32)) % (6 : Int32))), .unset, .unset, .unset, .unset, .unset, .unset, .unset, .unset]) rfl ?_
        show Steps p.tables e below (s₁.setTop (mkF m 8 #[.val (.int p1), .val (.int p2), .val (.int p3), .val (.int ((p1 &&& (2147483647 : Int32)) % (6 : Int32))), .unset, .unset, .unset, .unset, .unset, .unset, .unset, .unset] [])) _
        rw [← e_kx]
        show Steps p.tables e below (s₁.setTop (mkF m 8 #[.val (.int p1), .val (.int p2), .val (.int p3), .val (.int kx), .unset, .unset, .unset, .unset, .unset, .unset, .unset, .unset] [])) _
        refine XS.iloadN X0.here hx rfl (hb hby at_8) rfl ?_
        show Steps p.tables e below (s₁.setTop (mkF m 9 #[.val (.int p1), .val (.int p2), .val (.int p3), .val (.int kx), .unset, .unset, .unset, .unset, .unset, .unset, .unset, .unset] [(.int kx)])) _
        refine XS.ifYes X0.here hx rfl (pc0 := 9) (pc' := 20) rfl (hb hby at_9) rfl ((if0 _ _).trans (feq hc9).2) (by decide) (by decide) ?_
        show Steps p.tables e below (s₁.setTop (mkF m 20 #[.val (.int p1), .val (.int p2), .val (.int p3), .val (.int kx), .unset, .unset, .unset, .unset, .unset, .unset, .unset, .unset] [])) _
        refine XS.iloadN X0.here hx rfl (hb hby at_20) rfl ?_
        show Steps p.tables e below (s₁.setTop (mkF m 21 #[.val (.int p1), .val (.int p2), .val (.int p3), .val (.int kx), .unset, .unset, .unset, .unset, .unset, .unset, .unset, .unset] [(.int kx)])) _
        refine XS.iconst X0.here hx rfl (hb hby at_21) ?_
        show Steps p.tables e below (s₁.setTop (mkF m 22 #[.val (.int p1), .val (.int p2), .val (.int p3), .val (.int kx), .unset, .unset, .unset, .unset, .unset, .unset, .unset, .unset] [(.int (1 : Int32)), (.int kx)])) _
        refine XS.icmpNo X0.here hx rfl (hb hby at_22) rfl (teq hc22).2 ?_
        show Steps p.tables e below (s₁.setTop (mkF m 25 #[.val (.int p1), .val (.int p2), .val (.int p3), .val (.int kx), .unset, .unset, .unset, .unset, .unset, .unset, .unset, .unset] [])) _
        refine st25 _ ?_
        show Steps p.tables e below (T25.setTop (mkF m 28 #[.val (.int p1), .val (.int p2), .val (.int p3), .val (.int kx), .unset, .unset, .unset, .unset, .unset, .unset, .unset, .unset] [(.ref aN)])) _
        refine XS.astore X25.here hx rfl (hb hby at_28) rfl rfl (l' := #[.val (.int p1), .val (.int p2), .val (.int p3), .val (.int kx), .val (.ref aN), .unset, .unset, .unset, .unset, .unset, .unset, .unset]) rfl ?_
        show Steps p.tables e below (T25.setTop (mkF m 30 #[.val (.int p1), .val (.int p2), .val (.int p3), .val (.int kx), .val (.ref aN), .unset, .unset, .unset, .unset, .unset, .unset, .unset] [])) _
        refine XS.goto X25.here hx rfl (pc0 := 30) (pc' := 77) rfl (hb hby at_30) (by decide) (by decide) ?_
        show Steps p.tables e below (T25.setTop (mkF m 77 #[.val (.int p1), .val (.int p2), .val (.int p3), .val (.int kx), .val (.ref aN), .unset, .unset, .unset, .unset, .unset, .unset, .unset] [])) _
        refine XS.iconst X25.here hx rfl (hb hby at_77) ?_
        show Steps p.tables e below (T25.setTop (mkF m 78 #[.val (.int p1), .val (.int p2), .val (.int p3), .val (.int kx), .val (.ref aN), .unset, .unset, .unset, .unset, .unset, .unset, .unset] [(.int (-1 : Int32))])) _
        refine XS.iloadN X25.here hx rfl (hb hby at_78) rfl ?_
        show Steps p.tables e below (T25.setTop (mkF m 79 #[.val (.int p1), .val (.int p2), .val (.int p3), .val (.int kx), .val (.ref aN), .unset, .unset, .unset, .unset, .unset, .unset, .unset] [(.int p2), (.int (-1 : Int32))])) _
        refine X25.ldcInt hx hown (mvT hZ (hw _ (List.mem_of_getElem? (i := 0) rfl))) (g := (mkF m 79 #[.val (.int p1), .val (.int p2), .val (.int p3), .val (.int kx), .val (.ref aN), .unset, .unset, .unset, .unset, .unset, .unset, .unset] [(.int p2), (.int (-1 : Int32))])) rfl (hb hby at_79) _ ?_
        show Steps p.tables e below (T25.setTop (mkF m 81 #[.val (.int p1), .val (.int p2), .val (.int p3), .val (.int kx), .val (.ref aN), .unset, .unset, .unset, .unset, .unset, .unset, .unset] [(.int (2147483647 : Int32)), (.int p2), (.int (-1 : Int32))])) _
        refine XS.iand X25.here hx rfl (hb hby at_81) rfl ?_
        show Steps p.tables e below (T25.setTop (mkF m 82 #[.val (.int p1), .val (.int p2), .val (.int p3), .val (.int kx), .val (.ref aN), .unset, .unset, .unset, .unset, .unset, .unset, .unset] [(.int (p2 &&& (2147483647 : Int32))), (.int (-1 : Int32))])) _
        refine XS.isub X25.here hx rfl (hb hby at_82) rfl ?_
        show Steps p.tables e below (T25.setTop (mkF m 83 #[.val (.int p1), .val (.int p2), .val (.int p3), .val (.int kx), .val (.ref aN), .unset, .unset, .unset, .unset, .unset, .unset, .unset] [(.int ((-1 : Int32) - (p2 &&& (2147483647 : Int32))))])) _
        refine XS.istore X25.here hx rfl (hb hby at_83) rfl (l' := #[.val (.int p1), .val (.int p2), .val (.int p3), .val (.int kx), .val (.ref aN), .val (.int ((-1 : Int32) - (p2 &&& (2147483647 : Int32)))), .unset, .unset, .unset, .unset, .unset, .unset]) rfl ?_
        show Steps p.tables e below (T25.setTop (mkF m 85 #[.val (.int p1), .val (.int p2), .val (.int p3), .val (.int kx), .val (.ref aN), .val (.int ((-1 : Int32) - (p2 &&& (2147483647 : Int32)))), .unset, .unset, .unset, .unset, .unset, .unset] [])) _
        rw [← e_ng]
        show Steps p.tables e below (T25.setTop (mkF m 85 #[.val (.int p1), .val (.int p2), .val (.int p3), .val (.int kx), .val (.ref aN), .val (.int ng), .unset, .unset, .unset, .unset, .unset, .unset] [])) _
        refine XS.iconst X25.here hx rfl (hb hby at_85) ?_
        show Steps p.tables e below (T25.setTop (mkF m 86 #[.val (.int p1), .val (.int p2), .val (.int p3), .val (.int kx), .val (.ref aN), .val (.int ng), .unset, .unset, .unset, .unset, .unset, .unset] [(.int (1 : Int32))])) _
        refine XS.iloadN X25.here hx rfl (hb hby at_86) rfl ?_
        show Steps p.tables e below (T25.setTop (mkF m 87 #[.val (.int p1), .val (.int p2), .val (.int p3), .val (.int kx), .val (.ref aN), .val (.int ng), .unset, .unset, .unset, .unset, .unset, .unset] [(.int p3), (.int (1 : Int32))])) _
        refine X25.ldcInt hx hown (mvT hZ (hw _ (List.mem_of_getElem? (i := 0) rfl))) (g := (mkF m 87 #[.val (.int p1), .val (.int p2), .val (.int p3), .val (.int kx), .val (.ref aN), .val (.int ng), .unset, .unset, .unset, .unset, .unset, .unset] [(.int p3), (.int (1 : Int32))])) rfl (hb hby at_87) _ ?_
        show Steps p.tables e below (T25.setTop (mkF m 89 #[.val (.int p1), .val (.int p2), .val (.int p3), .val (.int kx), .val (.ref aN), .val (.int ng), .unset, .unset, .unset, .unset, .unset, .unset] [(.int (2147483647 : Int32)), (.int p3), (.int (1 : Int32))])) _
        refine XS.iand X25.here hx rfl (hb hby at_89) rfl ?_
        show Steps p.tables e below (T25.setTop (mkF m 90 #[.val (.int p1), .val (.int p2), .val (.int p3), .val (.int kx), .val (.ref aN), .val (.int ng), .unset, .unset, .unset, .unset, .unset, .unset] [(.int (p3 &&& (2147483647 : Int32))), (.int (1 : Int32))])) _
        refine st26 _ ?_
        show Steps p.tables e below (T26.setTop (mkF m 93 #[.val (.int p1), .val (.int p2), .val (.int p3), .val (.int kx), .val (.ref aN), .val (.int ng), .unset, .unset, .unset, .unset, .unset, .unset] [(.int (if (1 : Int32) < (p3 &&& (2147483647 : Int32)) then (p3 &&& (2147483647 : Int32)) else (1 : Int32)))])) _
        refine XS.istore X26.here hx rfl (hb hby at_93) rfl (l' := #[.val (.int p1), .val (.int p2), .val (.int p3), .val (.int kx), .val (.ref aN), .val (.int ng), .val (.int (if (1 : Int32) < (p3 &&& (2147483647 : Int32)) then (p3 &&& (2147483647 : Int32)) else (1 : Int32))), .unset, .unset, .unset, .unset, .unset]) rfl ?_
        show Steps p.tables e below (T26.setTop (mkF m 95 #[.val (.int p1), .val (.int p2), .val (.int p3), .val (.int kx), .val (.ref aN), .val (.int ng), .val (.int (if (1 : Int32) < (p3 &&& (2147483647 : Int32)) then (p3 &&& (2147483647 : Int32)) else (1 : Int32))), .unset, .unset, .unset, .unset, .unset] [])) _
        rw [← e_ps]
        show Steps p.tables e below (T26.setTop (mkF m 95 #[.val (.int p1), .val (.int p2), .val (.int p3), .val (.int kx), .val (.ref aN), .val (.int ng), .val (.int ps), .unset, .unset, .unset, .unset, .unset] [])) _
        refine XS.aload X26.here hx rfl (hb hby at_95) rfl rfl ?_
        show Steps p.tables e below (T26.setTop (mkF m 97 #[.val (.int p1), .val (.int p2), .val (.int p3), .val (.int kx), .val (.ref aN), .val (.int ng), .val (.int ps), .unset, .unset, .unset, .unset, .unset] [(.ref aN)])) _
        refine st27.trans ?_
        show Steps p.tables e below (T27.setTop (mkF m 100 #[.val (.int p1), .val (.int p2), .val (.int p3), .val (.int kx), .val (.ref aN), .val (.int ng), .val (.int ps), .unset, .unset, .unset, .unset, .unset] [(.int (if aN = aE then (0 : Int32) else if aN = aN then (0 : Int32) else (1 : Int32)))])) _
        refine XS.istore X27.here hx rfl (hb hby at_100) rfl (l' := #[.val (.int p1), .val (.int p2), .val (.int p3), .val (.int kx), .val (.ref aN), .val (.int ng), .val (.int ps), .val (.int (if aN = aE then (0 : Int32) else if aN = aN then (0 : Int32) else (1 : Int32))), .unset, .unset, .unset, .unset]) rfl ?_
        show Steps p.tables e below (T27.setTop (mkF m 102 #[.val (.int p1), .val (.int p2), .val (.int p3), .val (.int kx), .val (.ref aN), .val (.int ng), .val (.int ps), .val (.int (if aN = aE then (0 : Int32) else if aN = aN then (0 : Int32) else (1 : Int32))), .unset, .unset, .unset, .unset] [])) _
        refine XS.aload X27.here hx rfl (hb hby at_102) rfl rfl ?_
        show Steps p.tables e below (T27.setTop (mkF m 104 #[.val (.int p1), .val (.int p2), .val (.int p3), .val (.int kx), .val (.ref aN), .val (.int ng), .val (.int ps), .val (.int (if aN = aE then (0 : Int32) else if aN = aN then (0 : Int32) else (1 : Int32))), .unset, .unset, .unset, .unset] [(.ref aN)])) _
        refine st28.trans ?_
        show Steps p.tables e below (T28.setTop (mkF m 107 #[.val (.int p1), .val (.int p2), .val (.int p3), .val (.int kx), .val (.ref aN), .val (.int ng), .val (.int ps), .val (.int (if aN = aE then (0 : Int32) else if aN = aN then (0 : Int32) else (1 : Int32))), .unset, .unset, .unset, .unset] [(.ref saN)])) _
        refine XS.astore X28.here hx rfl (hb hby at_107) rfl rfl (l' := #[.val (.int p1), .val (.int p2), .val (.int p3), .val (.int kx), .val (.ref aN), .val (.int ng), .val (.int ps), .val (.int (if aN = aE then (0 : Int32) else if aN = aN then (0 : Int32) else (1 : Int32))), .val (.ref saN), .unset, .unset, .unset]) rfl ?_
        show Steps p.tables e below (T28.setTop (mkF m 109 #[.val (.int p1), .val (.int p2), .val (.int p3), .val (.int kx), .val (.ref aN), .val (.int ng), .val (.int ps), .val (.int (if aN = aE then (0 : Int32) else if aN = aN then (0 : Int32) else (1 : Int32))), .val (.ref saN), .unset, .unset, .unset] [])) _
        refine XS.aload X28.here hx rfl (hb hby at_109) rfl rfl ?_
        show Steps p.tables e below (T28.setTop (mkF m 111 #[.val (.int p1), .val (.int p2), .val (.int p3), .val (.int kx), .val (.ref aN), .val (.int ng), .val (.int ps), .val (.int (if aN = aE then (0 : Int32) else if aN = aN then (0 : Int32) else (1 : Int32))), .val (.ref saN), .unset, .unset, .unset] [(.ref saN)])) _
        refine XS.iconst X28.here hx rfl (hb hby at_111) ?_
        show Steps p.tables e below (T28.setTop (mkF m 112 #[.val (.int p1), .val (.int p2), .val (.int p3), .val (.int kx), .val (.ref aN), .val (.int ng), .val (.int ps), .val (.int (if aN = aE then (0 : Int32) else if aN = aN then (0 : Int32) else (1 : Int32))), .val (.ref saN), .unset, .unset, .unset] [(.int (0 : Int32)), (.ref saN)])) _
        refine st29.trans ?_
        show Steps p.tables e below (T29.setTop (mkF m 115 #[.val (.int p1), .val (.int p2), .val (.int p3), .val (.int kx), .val (.ref aN), .val (.int ng), .val (.int ps), .val (.int (if aN = aE then (0 : Int32) else if aN = aN then (0 : Int32) else (1 : Int32))), .val (.ref saN), .unset, .unset, .unset] [(.int (nar .char (nar .char (((33 : Int32) &&& (255 : Int32)).toUInt32.toUInt16.toUInt32.toInt32))))])) _
        refine XS.istore X29.here hx rfl (hb hby at_115) rfl (l' := #[.val (.int p1), .val (.int p2), .val (.int p3), .val (.int kx), .val (.ref aN), .val (.int ng), .val (.int ps), .val (.int (if aN = aE then (0 : Int32) else if aN = aN then (0 : Int32) else (1 : Int32))), .val (.ref saN), .val (.int (nar .char (nar .char (((33 : Int32) &&& (255 : Int32)).toUInt32.toUInt16.toUInt32.toInt32)))), .unset, .unset]) rfl ?_
        show Steps p.tables e below (T29.setTop (mkF m 117 #[.val (.int p1), .val (.int p2), .val (.int p3), .val (.int kx), .val (.ref aN), .val (.int ng), .val (.int ps), .val (.int (if aN = aE then (0 : Int32) else if aN = aN then (0 : Int32) else (1 : Int32))), .val (.ref saN), .val (.int (nar .char (nar .char (((33 : Int32) &&& (255 : Int32)).toUInt32.toUInt16.toUInt32.toInt32)))), .unset, .unset] [])) _
        refine XS.iload X29.here hx rfl (hb hby at_117) rfl ?_
        show Steps p.tables e below (T29.setTop (mkF m 119 #[.val (.int p1), .val (.int p2), .val (.int p3), .val (.int kx), .val (.ref aN), .val (.int ng), .val (.int ps), .val (.int (if aN = aE then (0 : Int32) else if aN = aN then (0 : Int32) else (1 : Int32))), .val (.ref saN), .val (.int (nar .char (nar .char (((33 : Int32) &&& (255 : Int32)).toUInt32.toUInt16.toUInt32.toInt32)))), .unset, .unset] [(.int (nar .char (nar .char (((33 : Int32) &&& (255 : Int32)).toUInt32.toUInt16.toUInt32.toInt32))))])) _
        refine XS.bipush X29.here hx rfl (hb hby at_119) ?_
        show Steps p.tables e below (T29.setTop (mkF m 121 #[.val (.int p1), .val (.int p2), .val (.int p3), .val (.int kx), .val (.ref aN), .val (.int ng), .val (.int ps), .val (.int (if aN = aE then (0 : Int32) else if aN = aN then (0 : Int32) else (1 : Int32))), .val (.ref saN), .val (.int (nar .char (nar .char (((33 : Int32) &&& (255 : Int32)).toUInt32.toUInt16.toUInt32.toInt32)))), .unset, .unset] [(.int (60 : Int32)), (.int (nar .char (nar .char (((33 : Int32) &&& (255 : Int32)).toUInt32.toUInt16.toUInt32.toInt32))))])) _
        refine XS.icmpNo X29.here hx rfl (hb hby at_121) rfl (feq hc121).1 ?_
        show Steps p.tables e below (T29.setTop (mkF m 124 #[.val (.int p1), .val (.int p2), .val (.int p3), .val (.int kx), .val (.ref aN), .val (.int ng), .val (.int ps), .val (.int (if aN = aE then (0 : Int32) else if aN = aN then (0 : Int32) else (1 : Int32))), .val (.ref saN), .val (.int (nar .char (nar .char (((33 : Int32) &&& (255 : Int32)).toUInt32.toUInt16.toUInt32.toInt32)))), .unset, .unset] [])) _
        refine XS.iload X29.here hx rfl (hb hby at_124) rfl ?_
        show Steps p.tables e below (T29.setTop (mkF m 126 #[.val (.int p1), .val (.int p2), .val (.int p3), .val (.int kx), .val (.ref aN), .val (.int ng), .val (.int ps), .val (.int (if aN = aE then (0 : Int32) else if aN = aN then (0 : Int32) else (1 : Int32))), .val (.ref saN), .val (.int (nar .char (nar .char (((33 : Int32) &&& (255 : Int32)).toUInt32.toUInt16.toUInt32.toInt32)))), .unset, .unset] [(.int (nar .char (nar .char (((33 : Int32) &&& (255 : Int32)).toUInt32.toUInt16.toUInt32.toInt32))))])) _
        refine XS.bipush X29.here hx rfl (hb hby at_126) ?_
        show Steps p.tables e below (T29.setTop (mkF m 128 #[.val (.int p1), .val (.int p2), .val (.int p3), .val (.int kx), .val (.ref aN), .val (.int ng), .val (.int ps), .val (.int (if aN = aE then (0 : Int32) else if aN = aN then (0 : Int32) else (1 : Int32))), .val (.ref saN), .val (.int (nar .char (nar .char (((33 : Int32) &&& (255 : Int32)).toUInt32.toUInt16.toUInt32.toInt32)))), .unset, .unset] [(.int (62 : Int32)), (.int (nar .char (nar .char (((33 : Int32) &&& (255 : Int32)).toUInt32.toUInt16.toUInt32.toInt32))))])) _
        refine XS.icmpYes X29.here hx rfl (pc0 := 128) (pc' := 135) rfl (hb hby at_128) rfl (feq hc128).2 (by decide) (by decide) ?_
        show Steps p.tables e below (T29.setTop (mkF m 135 #[.val (.int p1), .val (.int p2), .val (.int p3), .val (.int kx), .val (.ref aN), .val (.int ng), .val (.int ps), .val (.int (if aN = aE then (0 : Int32) else if aN = aN then (0 : Int32) else (1 : Int32))), .val (.ref saN), .val (.int (nar .char (nar .char (((33 : Int32) &&& (255 : Int32)).toUInt32.toUInt16.toUInt32.toInt32)))), .unset, .unset] [])) _
        refine XS.iconst X29.here hx rfl (hb hby at_135) ?_
        show Steps p.tables e below (T29.setTop (mkF m 136 #[.val (.int p1), .val (.int p2), .val (.int p3), .val (.int kx), .val (.ref aN), .val (.int ng), .val (.int ps), .val (.int (if aN = aE then (0 : Int32) else if aN = aN then (0 : Int32) else (1 : Int32))), .val (.ref saN), .val (.int (nar .char (nar .char (((33 : Int32) &&& (255 : Int32)).toUInt32.toUInt16.toUInt32.toInt32)))), .unset, .unset] [(.int (0 : Int32))])) _
        refine XS.istore X29.here hx rfl (hb hby at_136) rfl (l' := #[.val (.int p1), .val (.int p2), .val (.int p3), .val (.int kx), .val (.ref aN), .val (.int ng), .val (.int ps), .val (.int (if aN = aE then (0 : Int32) else if aN = aN then (0 : Int32) else (1 : Int32))), .val (.ref saN), .val (.int (nar .char (nar .char (((33 : Int32) &&& (255 : Int32)).toUInt32.toUInt16.toUInt32.toInt32)))), .val (.int (0 : Int32)), .unset]) rfl ?_
        show Steps p.tables e below (T29.setTop (mkF m 138 #[.val (.int p1), .val (.int p2), .val (.int p3), .val (.int kx), .val (.ref aN), .val (.int ng), .val (.int ps), .val (.int (if aN = aE then (0 : Int32) else if aN = aN then (0 : Int32) else (1 : Int32))), .val (.ref saN), .val (.int (nar .char (nar .char (((33 : Int32) &&& (255 : Int32)).toUInt32.toUInt16.toUInt32.toInt32)))), .val (.int (0 : Int32)), .unset] [])) _
        refine XS.aload X29.here hx rfl (hb hby at_138) rfl rfl ?_
        show Steps p.tables e below (T29.setTop (mkF m 140 #[.val (.int p1), .val (.int p2), .val (.int p3), .val (.int kx), .val (.ref aN), .val (.int ng), .val (.int ps), .val (.int (if aN = aE then (0 : Int32) else if aN = aN then (0 : Int32) else (1 : Int32))), .val (.ref saN), .val (.int (nar .char (nar .char (((33 : Int32) &&& (255 : Int32)).toUInt32.toUInt16.toUInt32.toInt32)))), .val (.int (0 : Int32)), .unset] [(.ref aN)])) _
        refine XS.iload X29.here hx rfl (hb hby at_140) rfl ?_
        show Steps p.tables e below (T29.setTop (mkF m 142 #[.val (.int p1), .val (.int p2), .val (.int p3), .val (.int kx), .val (.ref aN), .val (.int ng), .val (.int ps), .val (.int (if aN = aE then (0 : Int32) else if aN = aN then (0 : Int32) else (1 : Int32))), .val (.ref saN), .val (.int (nar .char (nar .char (((33 : Int32) &&& (255 : Int32)).toUInt32.toUInt16.toUInt32.toInt32)))), .val (.int (0 : Int32)), .unset] [(.int ng), (.ref aN)])) _
        refine st30.trans ?_
        show Steps p.tables e below (T30.setTop (mkF m 145 #[.val (.int p1), .val (.int p2), .val (.int p3), .val (.int kx), .val (.ref aN), .val (.int ng), .val (.int ps), .val (.int (if aN = aE then (0 : Int32) else if aN = aN then (0 : Int32) else (1 : Int32))), .val (.ref saN), .val (.int (nar .char (nar .char (((33 : Int32) &&& (255 : Int32)).toUInt32.toUInt16.toUInt32.toInt32)))), .val (.int (0 : Int32)), .unset] [(.int (own_holds (1 : Int32) ng))])) _
        refine XS.aload X30.here hx rfl (hb hby at_145) rfl rfl ?_
        show Steps p.tables e below (T30.setTop (mkF m 147 #[.val (.int p1), .val (.int p2), .val (.int p3), .val (.int kx), .val (.ref aN), .val (.int ng), .val (.int ps), .val (.int (if aN = aE then (0 : Int32) else if aN = aN then (0 : Int32) else (1 : Int32))), .val (.ref saN), .val (.int (nar .char (nar .char (((33 : Int32) &&& (255 : Int32)).toUInt32.toUInt16.toUInt32.toInt32)))), .val (.int (0 : Int32)), .unset] [(.ref aN), (.int (own_holds (1 : Int32) ng))])) _
        refine XS.iload X30.here hx rfl (hb hby at_147) rfl ?_
        show Steps p.tables e below (T30.setTop (mkF m 149 #[.val (.int p1), .val (.int p2), .val (.int p3), .val (.int kx), .val (.ref aN), .val (.int ng), .val (.int ps), .val (.int (if aN = aE then (0 : Int32) else if aN = aN then (0 : Int32) else (1 : Int32))), .val (.ref saN), .val (.int (nar .char (nar .char (((33 : Int32) &&& (255 : Int32)).toUInt32.toUInt16.toUInt32.toInt32)))), .val (.int (0 : Int32)), .unset] [(.int ps), (.ref aN), (.int (own_holds (1 : Int32) ng))])) _
        refine st31.trans ?_
        show Steps p.tables e below (T31.setTop (mkF m 152 #[.val (.int p1), .val (.int p2), .val (.int p3), .val (.int kx), .val (.ref aN), .val (.int ng), .val (.int ps), .val (.int (if aN = aE then (0 : Int32) else if aN = aN then (0 : Int32) else (1 : Int32))), .val (.ref saN), .val (.int (nar .char (nar .char (((33 : Int32) &&& (255 : Int32)).toUInt32.toUInt16.toUInt32.toInt32)))), .val (.int (0 : Int32)), .unset] [(.int (own_holds (1 : Int32) ps)), (.int (own_holds (1 : Int32) ng))])) _
        refine XS.icmpYes X31.here hx rfl (pc0 := 152) (pc' := 159) rfl (hb hby at_152) rfl (teq hc152).1 (by decide) (by decide) ?_
        show Steps p.tables e below (T31.setTop (mkF m 159 #[.val (.int p1), .val (.int p2), .val (.int p3), .val (.int kx), .val (.ref aN), .val (.int ng), .val (.int ps), .val (.int (if aN = aE then (0 : Int32) else if aN = aN then (0 : Int32) else (1 : Int32))), .val (.ref saN), .val (.int (nar .char (nar .char (((33 : Int32) &&& (255 : Int32)).toUInt32.toUInt16.toUInt32.toInt32)))), .val (.int (0 : Int32)), .unset] [])) _
        refine XS.iconst X31.here hx rfl (hb hby at_159) ?_
        show Steps p.tables e below (T31.setTop (mkF m 160 #[.val (.int p1), .val (.int p2), .val (.int p3), .val (.int kx), .val (.ref aN), .val (.int ng), .val (.int ps), .val (.int (if aN = aE then (0 : Int32) else if aN = aN then (0 : Int32) else (1 : Int32))), .val (.ref saN), .val (.int (nar .char (nar .char (((33 : Int32) &&& (255 : Int32)).toUInt32.toUInt16.toUInt32.toInt32)))), .val (.int (0 : Int32)), .unset] [(.int (0 : Int32))])) _
        refine XS.istore X31.here hx rfl (hb hby at_160) rfl (l' := #[.val (.int p1), .val (.int p2), .val (.int p3), .val (.int kx), .val (.ref aN), .val (.int ng), .val (.int ps), .val (.int (if aN = aE then (0 : Int32) else if aN = aN then (0 : Int32) else (1 : Int32))), .val (.ref saN), .val (.int (nar .char (nar .char (((33 : Int32) &&& (255 : Int32)).toUInt32.toUInt16.toUInt32.toInt32)))), .val (.int (0 : Int32)), .val (.int (0 : Int32))]) rfl ?_
        show Steps p.tables e below (T31.setTop (mkF m 162 #[.val (.int p1), .val (.int p2), .val (.int p3), .val (.int kx), .val (.ref aN), .val (.int ng), .val (.int ps), .val (.int (if aN = aE then (0 : Int32) else if aN = aN then (0 : Int32) else (1 : Int32))), .val (.ref saN), .val (.int (nar .char (nar .char (((33 : Int32) &&& (255 : Int32)).toUInt32.toUInt16.toUInt32.toInt32)))), .val (.int (0 : Int32)), .val (.int (0 : Int32))] [])) _
        refine XS.iload X31.here hx rfl (hb hby at_162) rfl ?_
        show Steps p.tables e below (T31.setTop (mkF m 164 #[.val (.int p1), .val (.int p2), .val (.int p3), .val (.int kx), .val (.ref aN), .val (.int ng), .val (.int ps), .val (.int (if aN = aE then (0 : Int32) else if aN = aN then (0 : Int32) else (1 : Int32))), .val (.ref saN), .val (.int (nar .char (nar .char (((33 : Int32) &&& (255 : Int32)).toUInt32.toUInt16.toUInt32.toInt32)))), .val (.int (0 : Int32)), .val (.int (0 : Int32))] [(.int (if aN = aE then (0 : Int32) else if aN = aN then (0 : Int32) else (1 : Int32)))])) _
        refine XS.iload X31.here hx rfl (hb hby at_164) rfl ?_
        show Steps p.tables e below (T31.setTop (mkF m 166 #[.val (.int p1), .val (.int p2), .val (.int p3), .val (.int kx), .val (.ref aN), .val (.int ng), .val (.int ps), .val (.int (if aN = aE then (0 : Int32) else if aN = aN then (0 : Int32) else (1 : Int32))), .val (.ref saN), .val (.int (nar .char (nar .char (((33 : Int32) &&& (255 : Int32)).toUInt32.toUInt16.toUInt32.toInt32)))), .val (.int (0 : Int32)), .val (.int (0 : Int32))] [(.int (0 : Int32)), (.int (if aN = aE then (0 : Int32) else if aN = aN then (0 : Int32) else (1 : Int32)))])) _
        refine XS.icmpNo X31.here hx rfl (hb hby at_166) rfl (teq hc166).2 ?_
        show Steps p.tables e below (T31.setTop (mkF m 169 #[.val (.int p1), .val (.int p2), .val (.int p3), .val (.int kx), .val (.ref aN), .val (.int ng), .val (.int ps), .val (.int (if aN = aE then (0 : Int32) else if aN = aN then (0 : Int32) else (1 : Int32))), .val (.ref saN), .val (.int (nar .char (nar .char (((33 : Int32) &&& (255 : Int32)).toUInt32.toUInt16.toUInt32.toInt32)))), .val (.int (0 : Int32)), .val (.int (0 : Int32))] [])) _
        refine XS.iload X31.here hx rfl (hb hby at_169) rfl ?_
        show Steps p.tables e below (T31.setTop (mkF m 171 #[.val (.int p1), .val (.int p2), .val (.int p3), .val (.int kx), .val (.ref aN), .val (.int ng), .val (.int ps), .val (.int (if aN = aE then (0 : Int32) else if aN = aN then (0 : Int32) else (1 : Int32))), .val (.ref saN), .val (.int (nar .char (nar .char (((33 : Int32) &&& (255 : Int32)).toUInt32.toUInt16.toUInt32.toInt32)))), .val (.int (0 : Int32)), .val (.int (0 : Int32))] [(.int (if aN = aE then (0 : Int32) else if aN = aN then (0 : Int32) else (1 : Int32)))])) _
        refine XS.iload X31.here hx rfl (hb hby at_171) rfl ?_
        show Steps p.tables e below (T31.setTop (mkF m 173 #[.val (.int p1), .val (.int p2), .val (.int p3), .val (.int kx), .val (.ref aN), .val (.int ng), .val (.int ps), .val (.int (if aN = aE then (0 : Int32) else if aN = aN then (0 : Int32) else (1 : Int32))), .val (.ref saN), .val (.int (nar .char (nar .char (((33 : Int32) &&& (255 : Int32)).toUInt32.toUInt16.toUInt32.toInt32)))), .val (.int (0 : Int32)), .val (.int (0 : Int32))] [(.int (0 : Int32)), (.int (if aN = aE then (0 : Int32) else if aN = aN then (0 : Int32) else (1 : Int32)))])) _
        refine XS.icmpNo X31.here hx rfl (hb hby at_173) rfl (teq hc173).2 ?_
        show Steps p.tables e below (T31.setTop (mkF m 176 #[.val (.int p1), .val (.int p2), .val (.int p3), .val (.int kx), .val (.ref aN), .val (.int ng), .val (.int ps), .val (.int (if aN = aE then (0 : Int32) else if aN = aN then (0 : Int32) else (1 : Int32))), .val (.ref saN), .val (.int (nar .char (nar .char (((33 : Int32) &&& (255 : Int32)).toUInt32.toUInt16.toUInt32.toInt32)))), .val (.int (0 : Int32)), .val (.int (0 : Int32))] [])) _
        refine XS.iconst X31.here hx rfl (hb hby at_176) ?_
        show Steps p.tables e below (T31.setTop (mkF m 177 #[.val (.int p1), .val (.int p2), .val (.int p3), .val (.int kx), .val (.ref aN), .val (.int ng), .val (.int ps), .val (.int (if aN = aE then (0 : Int32) else if aN = aN then (0 : Int32) else (1 : Int32))), .val (.ref saN), .val (.int (nar .char (nar .char (((33 : Int32) &&& (255 : Int32)).toUInt32.toUInt16.toUInt32.toInt32)))), .val (.int (0 : Int32)), .val (.int (0 : Int32))] [(.int (1 : Int32))])) _
        refine XS.goto X31.here hx rfl (pc0 := 177) (pc' := 181) rfl (hb hby at_177) (by decide) (by decide) ?_
        show Steps p.tables e below (T31.setTop (mkF m 181 #[.val (.int p1), .val (.int p2), .val (.int p3), .val (.int kx), .val (.ref aN), .val (.int ng), .val (.int ps), .val (.int (if aN = aE then (0 : Int32) else if aN = aN then (0 : Int32) else (1 : Int32))), .val (.ref saN), .val (.int (nar .char (nar .char (((33 : Int32) &&& (255 : Int32)).toUInt32.toUInt16.toUInt32.toInt32)))), .val (.int (0 : Int32)), .val (.int (0 : Int32))] [(.int (1 : Int32))])) _
        exact retN X31 hx (t := .boolean) Bd.returns (by simp) (hb hby at_181) hr
      · show Q_0 Z p1 p2 p3 h0 n0 _ T31.heap _
        rw [e31]
        exact ⟨rfl, N31⟩
    · by_cases hc35 : kx = (2 : Int32)
      · obtain ⟨T32, X32, e32, st32⟩ := getS2 X0 hx hZ hown (host := "") (Or.inl (hw _ (List.mem_of_getElem? (i := 66) rfl))) Via.refl e0 S_AT_MOST (g := (mkF m 38 #[.val (.int p1), .val (.int p2), .val (.int p3), .val (.int kx), .unset, .unset, .unset, .unset, .unset, .unset, .unset, .unset] [])) rfl (hb hby at_38)
        obtain ⟨ng, e_ng⟩ : ∃ z : Int32, z = ((-1 : Int32) - (p2 &&& (2147483647 : Int32))) := ⟨_, rfl⟩
        have hng : ng < 0 := e_ng ▸ own_neg p2
        have hneg : ng < 0 ∧ ¬ ng = 0 ∧ ¬ 0 < ng := by
          rcases own_tri ng with u | u | u
          · exact u
          · exact absurd hng u.2.1
          · exact absurd hng u.2.1
        obtain ⟨_, _, ⟨T33, L33, c33_, n33_⟩, -, X33, ⟨Lc33, hQ33, l33, y33, z33⟩, st33⟩ := Jvm.LawKit.callS X32 hx (y := (⟨"java/lang/Math", "max", "(II)I"⟩ : MethodName)) hown (mvT hZ (hw _ (List.mem_of_getElem? (i := 4) rfl))) (mvT hZ (hw _ (List.mem_of_getElem? (i := 5) rfl))) (mvT hZ (hw _ (List.mem_of_getElem? (i := 6) rfl))) (mvT hZ (hw _ (List.mem_of_getElem? (i := 7) rfl))) (by decide) (backOf (W := 0) (rm_1 l Z a0 hw [] (1 : Int32) (p3 &&& (2147483647 : Int32)) h0 n0 (Nat.le_trans Z0 (Keep.refl h0 []).1) ) hZ (hw _ (List.mem_of_getElem? (i := 7) rfl)) (hw _ (List.mem_of_getElem? (i := 6) rfl)) (by decide) (by decide)) (g := (mkF m 90 #[.val (.int p1), .val (.int p2), .val (.int p3), .val (.int kx), .val (.ref aM), .val (.int ng), .unset, .unset, .unset, .unset, .unset, .unset] [(.int (p3 &&& (2147483647 : Int32))), (.int (1 : Int32))])) rfl (by rw [hml]; rfl) (argsL := [(.int (1 : Int32)), (.int (p3 &&& (2147483647 : Int32)))]) (rest := []) (lenOf pd__28II_29I rfl) rfl (by show 2 * 0 + _ ≤ _; exact Nat.le_of_eq rfl) (hb hby at_90) (fun _ _ => ⟨rfl, e32, (by decide : 0 + 0 ≤ _), (by decide : 0 + 0 ≤ _)⟩)
        dsimp only [Pt.U, Pt.locs, Pt.cells, Pt.slots] at X33 l33 y33 z33 st33 hQ33
        subst l33 y33 z33
        obtain ⟨rfl, Nq33, e33⟩ := hQ33
        have N33 := Fr.app N0 Nq33
        obtain ⟨ps, e_ps⟩ : ∃ z : Int32, z = (if (1 : Int32) < (p3 &&& (2147483647 : Int32)) then (p3 &&& (2147483647 : Int32)) else (1 : Int32)) := ⟨_, rfl⟩
        have hps : 0 < ps := e_ps ▸ own_pos _
        have hpos : 0 < ps ∧ ¬ ps < 0 ∧ ¬ ps = 0 := by
          rcases own_tri ps with u | u | u
          · exact absurd hps u.2.2
          · exact absurd hps u.2.2
          · exact u
        obtain ⟨cq34, kq34, q34a, q34b, q34c⟩ := isOf hZ e33 E_AT_MOST
        obtain ⟨_, _, ⟨T34, L34, c34_, n34_⟩, -, X34, ⟨Lc34, hQ34, l34, y34, z34⟩, st34⟩ := X33.virtualBack hx (y := (⟨"com/example/furlong/furlong/model/Condition$Operator", "isOrder", "()Z"⟩ : MethodName)) (z := (⟨"com/example/furlong/furlong/model/Condition$Operator", "isOrder", "()Z"⟩ : MethodName)) hown (mvT hZ (hw _ (List.mem_of_getElem? (i := 8) rfl))) (mvT hZ (hw _ (List.mem_of_getElem? (i := 9) rfl))) (notFace_of_selects (args := #[]) (mvT hZ (hw _ (List.mem_of_getElem? (i := 11) rfl)))) (mvT hZ (hw _ (List.mem_of_getElem? (i := 11) rfl))) (mvT hZ (hw _ (List.mem_of_getElem? (i := 10) rfl))) (by decide) (backOf (W := 0) (rm_2 l Z a0 hw [] aM aE aN h0 n0 (Nat.le_trans Z0 (Keep.refl h0 []).1) S_EQUAL S_NOT_EQUAL) hZ (hw _ (List.mem_of_getElem? (i := 12) rfl)) (hw _ (List.mem_of_getElem? (i := 2) rfl)) (by decide) (by decide)) q34a q34c (g := (mkF m 97 #[.val (.int p1), .val (.int p2), .val (.int p3), .val (.int kx), .val (.ref aM), .val (.int ng), .val (.int ps), .unset, .unset, .unset, .unset, .unset] [(.ref aM)])) rfl (by rw [hml]; rfl) (Steps.refl _) (argsL := []) (rest := []) (lenOf pd__28_29Z rfl) rfl (by show 2 * 0 + _ ≤ _; exact Nat.le_of_eq rfl) (hb hby at_97) (fun _ _ => ⟨rfl, e33, (by decide : 0 + 0 ≤ _), (by decide : 0 + 0 ≤ _)⟩)
        dsimp only [Pt.U, Pt.locs, Pt.cells, Pt.slots] at X34 l34 y34 z34 st34 hQ34
        subst l34 y34 z34
        obtain ⟨rfl, Nq34, e34⟩ := hQ34
        have N34 := Fr.app N33 Nq34
        obtain ⟨cq35, kq35, q35a, q35b, q35c⟩ := isOf hZ e34 E_AT_MOST
        obtain ⟨_, _, ⟨T35, L35, c35_, n35_⟩, -, X35, ⟨Lc35, hQ35, l35, y35, z35⟩, st35⟩ := X34.virtualBack hx (y := (⟨"com/example/furlong/furlong/model/Condition$Operator", "symbol", "()Ljava/lang/String;"⟩ : MethodName)) (z := (⟨"com/example/furlong/furlong/model/Condition$Operator", "symbol", "()Ljava/lang/String;"⟩ : MethodName)) hown (mvT hZ (hw _ (List.mem_of_getElem? (i := 14) rfl))) (mvT hZ (hw _ (List.mem_of_getElem? (i := 15) rfl))) (notFace_of_selects (args := #[]) (mvT hZ (hw _ (List.mem_of_getElem? (i := 17) rfl)))) (mvT hZ (hw _ (List.mem_of_getElem? (i := 17) rfl))) (mvT hZ (hw _ (List.mem_of_getElem? (i := 16) rfl))) (by decide) (backOf (W := 0) (rm_3 l Z a0 hw [] aM saM h0 n0 (Nat.le_trans Z0 (Keep.refl h0 []).1) Fs_AT_MOST) hZ (hw _ (List.mem_of_getElem? (i := 18) rfl)) (hw _ (List.mem_of_getElem? (i := 2) rfl)) (by decide) (by decide)) q35a q35c (g := (mkF m 104 #[.val (.int p1), .val (.int p2), .val (.int p3), .val (.int kx), .val (.ref aM), .val (.int ng), .val (.int ps), .val (.int (if aM = aE then (0 : Int32) else if aM = aN then (0 : Int32) else (1 : Int32))), .unset, .unset, .unset, .unset] [(.ref aM)])) rfl (by rw [hml]; rfl) (Steps.refl _) (argsL := []) (rest := []) (lenOf pd__28_29Ljava_2flang_2fString_3b rfl) rfl (by show 2 * 0 + _ ≤ _; exact Nat.le_of_eq rfl) (hb hby at_104) (fun _ _ => ⟨rfl, e34, (by decide : 0 + 0 ≤ _), (by decide : 0 + 0 ≤ _)⟩)
        dsimp only [Pt.U, Pt.locs, Pt.cells, Pt.slots] at X35 l35 y35 z35 st35 hQ35
        subst l35 y35 z35
        obtain ⟨rfl, Nq35, e35⟩ := hQ35
        have N35 := Fr.app N34 Nq35
        obtain ⟨cq36, kq36, q36a, q36b, q36c⟩ := isOf hZ e35 Es_AT_MOST
        obtain ⟨_, _, ⟨T36, L36, c36_, n36_⟩, -, X36, ⟨Lc36, hQ36, l36, y36, z36⟩, st36⟩ := X35.virtualBack hx (y := (⟨"java/lang/String", "charAt", "(I)C"⟩ : MethodName)) (z := (⟨"java/lang/String", "charAt", "(I)C"⟩ : MethodName)) hown (mvT hZ (hw _ (List.mem_of_getElem? (i := 21) rfl))) (mvT hZ (hw _ (List.mem_of_getElem? (i := 22) rfl))) (notFace_of_selects (args := #[]) (mvT hZ (hw _ (List.mem_of_getElem? (i := 24) rfl)))) (mvT hZ (hw _ (List.mem_of_getElem? (i := 24) rfl))) (mvT hZ (hw _ (List.mem_of_getElem? (i := 23) rfl))) (by decide) (backOf (W := 0) (rm_ch l Z a0 hw [] saM (0 : Int32) (60 : Int32) taM kaM (2 : Int32) [Value.int (60 : Int32), Value.int (61 : Int32)] fm zc h0 n0 (Nat.le_trans Z0 (Keep.refl h0 []).1) Va_AT_MOST (by decide) (by decide) rfl rf S_F S_C hz Fc_AT_MOST Fv_AT_MOST Es_AT_MOST) hZ (hw _ (List.mem_of_getElem? (i := 26) rfl)) (hw _ (List.mem_of_getElem? (i := 25) rfl)) (by decide) (by decide)) q36a q36c (g := (mkF m 112 #[.val (.int p1), .val (.int p2), .val (.int p3), .val (.int kx), .val (.ref aM), .val (.int ng), .val (.int ps), .val (.int (if aM = aE then (0 : Int32) else if aM = aN then (0 : Int32) else (1 : Int32))), .val (.ref saM), .unset, .unset, .unset] [(.int (0 : Int32)), (.ref saM)])) rfl (by rw [hml]; rfl) (Steps.refl _) (argsL := [(.int (0 : Int32))]) (rest := []) (lenOf pd__28I_29C rfl) rfl (by show 2 * 0 + _ ≤ _; exact Nat.le_of_eq rfl) (hb hby at_112) (fun _ _ => ⟨rfl, e35, (by decide : 0 + 0 ≤ _), (by decide : 0 + 0 ≤ _)⟩)
        dsimp only [Pt.U, Pt.locs, Pt.cells, Pt.slots] at X36 l36 y36 z36 st36 hQ36
        subst l36 y36 z36
        obtain ⟨rfl, Nq36, e36⟩ := hQ36
        have N36 := Fr.app N35 Nq36
        have hc121 : (nar .char (nar .char (((60 : Int32) &&& (255 : Int32)).toUInt32.toUInt16.toUInt32.toInt32))) = (60 : Int32) := by decide
        obtain ⟨cq37, kq37, q37a, q37b, q37c⟩ := isOf hZ e36 E_AT_MOST
        obtain ⟨_, _, ⟨T37, L37, c37_, n37_⟩, -, X37, ⟨Lc37, hQ37, l37, y37, z37⟩, st37⟩ := X36.virtualBack hx (y := (⟨"com/example/furlong/furlong/model/Condition$Operator", "holds", "(I)Z"⟩ : MethodName)) (z := (⟨"com/example/furlong/furlong/model/Condition$Operator", "holds", "(I)Z"⟩ : MethodName)) hown (mvT hZ (hw _ (List.mem_of_getElem? (i := 49) rfl))) (mvT hZ (hw _ (List.mem_of_getElem? (i := 50) rfl))) (notFace_of_selects (args := #[]) (mvT hZ (hw _ (List.mem_of_getElem? (i := 52) rfl)))) (mvT hZ (hw _ (List.mem_of_getElem? (i := 52) rfl))) (mvT hZ (hw _ (List.mem_of_getElem? (i := 51) rfl))) (by decide) (backOf (W := 0) (rm_9 l Z a0 hw [] aM ng (2 : Int32) h0 n0 (Nat.le_trans Z0 (Keep.refl h0 []).1) Fo_AT_MOST E_AT_MOST) hZ (hw _ (List.mem_of_getElem? (i := 53) rfl)) (hw _ (List.mem_of_getElem? (i := 2) rfl)) (by decide) (by decide)) q37a q37c (g := (mkF m 142 #[.val (.int p1), .val (.int p2), .val (.int p3), .val (.int kx), .val (.ref aM), .val (.int ng), .val (.int ps), .val (.int (if aM = aE then (0 : Int32) else if aM = aN then (0 : Int32) else (1 : Int32))), .val (.ref saM), .val (.int (nar .char (nar .char (((60 : Int32) &&& (255 : Int32)).toUInt32.toUInt16.toUInt32.toInt32)))), .val (.int (1 : Int32)), .unset] [(.int ng), (.ref aM)])) rfl (by rw [hml]; rfl) (Steps.refl _) (argsL := [(.int ng)]) (rest := []) (lenOf pd__28I_29Z rfl) rfl (by show 2 * 0 + _ ≤ _; exact Nat.le_of_eq rfl) (hb hby at_142) (fun _ _ => ⟨rfl, e36, (by decide : 0 + 0 ≤ _), (by decide : 0 + 0 ≤ _)⟩)
        dsimp only [Pt.U, Pt.locs, Pt.cells, Pt.slots] at X37 l37 y37 z37 st37 hQ37
        subst l37 y37 z37
        obtain ⟨rfl, Nq37, e37⟩ := hQ37
        have N37 := Fr.app N36 Nq37
        obtain ⟨cq38, kq38, q38a, q38b, q38c⟩ := isOf hZ e37 E_AT_MOST
        obtain ⟨_, _, ⟨T38, L38, c38_, n38_⟩, -, X38, ⟨Lc38, hQ38, l38, y38, z38⟩, st38⟩ := X37.virtualBack hx (y := (⟨"com/example/furlong/furlong/model/Condition$Operator", "holds", "(I)Z"⟩ : MethodName)) (z := (⟨"com/example/furlong/furlong/model/Condition$Operator", "holds", "(I)Z"⟩ : MethodName)) hown (mvT hZ (hw _ (List.mem_of_getElem? (i := 49) rfl))) (mvT hZ (hw _ (List.mem_of_getElem? (i := 50) rfl))) (notFace_of_selects (args := #[]) (mvT hZ (hw _ (List.mem_of_getElem? (i := 52) rfl)))) (mvT hZ (hw _ (List.mem_of_getElem? (i := 52) rfl))) (mvT hZ (hw _ (List.mem_of_getElem? (i := 51) rfl))) (by decide) (backOf (W := 1) (rm_9 l Z a0 hw [] aM ps (2 : Int32) h0 n0 (Nat.le_trans Z0 (Keep.refl h0 []).1) Fo_AT_MOST E_AT_MOST) hZ (hw _ (List.mem_of_getElem? (i := 53) rfl)) (hw _ (List.mem_of_getElem? (i := 2) rfl)) (by decide) (by decide)) q38a q38c (g := (mkF m 149 #[.val (.int p1), .val (.int p2), .val (.int p3), .val (.int kx), .val (.ref aM), .val (.int ng), .val (.int ps), .val (.int (if aM = aE then (0 : Int32) else if aM = aN then (0 : Int32) else (1 : Int32))), .val (.ref saM), .val (.int (nar .char (nar .char (((60 : Int32) &&& (255 : Int32)).toUInt32.toUInt16.toUInt32.toInt32)))), .val (.int (1 : Int32)), .unset] [(.int ps), (.ref aM), (.int (own_holds (2 : Int32) ng))])) rfl (by rw [hml]; rfl) (Steps.refl _) (argsL := [(.int ps)]) (rest := [(.int (own_holds (2 : Int32) ng))]) (lenOf pd__28I_29Z rfl) rfl (by show 2 * 0 + _ ≤ _; exact Nat.le_of_eq rfl) (hb hby at_149) (fun _ _ => ⟨rfl, e37, (by decide : 0 + 0 ≤ _), (by decide : 0 + 0 ≤ _)⟩)
        dsimp only [Pt.U, Pt.locs, Pt.cells, Pt.slots] at X38 l38 y38 z38 st38 hQ38
        subst l38 y38 z38
        obtain ⟨rfl, Nq38, e38⟩ := hQ38
        have N38 := Fr.app N37 Nq38
        have hc152 : ¬ ((own_holds (2 : Int32) ng) = (own_holds (2 : Int32) ps)) := (by simp [own_holds, hneg.1, hneg.2.1, hneg.2.2, hpos.1, hpos.2.1, hpos.2.2])
        have hc166 : (if aM = aE then (0 : Int32) else if aM = aN then (0 : Int32) else (1 : Int32)) = (1 : Int32) := (by simp [ne_EQUAL_NOT_EQUAL, ne_EQUAL_AT_MOST, ne_EQUAL_AT_LEAST, ne_EQUAL_BELOW, ne_EQUAL_ABOVE, ne_NOT_EQUAL_AT_MOST, ne_NOT_EQUAL_AT_LEAST, ne_NOT_EQUAL_BELOW, ne_NOT_EQUAL_ABOVE])
        have hc173 : (if aM = aE then (0 : Int32) else if aM = aN then (0 : Int32) else (1 : Int32)) = (1 : Int32) := (by simp [ne_EQUAL_NOT_EQUAL, ne_EQUAL_AT_MOST, ne_EQUAL_AT_LEAST, ne_EQUAL_BELOW, ne_EQUAL_ABOVE, ne_NOT_EQUAL_AT_MOST, ne_NOT_EQUAL_AT_LEAST, ne_NOT_EQUAL_BELOW, ne_NOT_EQUAL_ABOVE])
        obtain ⟨fs, hr, hrun, hended, hW, hsame⟩ := X38.leave (v := some (.int (1 : Int32))) (fun h => by rw [Bd.returns] at h; cases h)
        refine ⟨_, _, pre0 _ ?_, hrun, hended, _, _, rfl, ?_, ⟨_, rfl⟩, hW, hsame.mono (by decide) (by decide)⟩
        · show Steps p.tables e below (s₁.setTop (mkF m 0 #[.val (.int p1), .val (.int p2), .val (.int p3), .unset, .unset, .unset, .unset, .unset, .unset, .unset, .unset, .unset] [])) _
          refine XS.iloadN X0.here hx rfl (hb hby at_0) rfl ?_
          show Steps p.tables e below (s₁.setTop (mkF m 1 #[.val (.int p1), .val (.int p2), .val (.int p3), .unset, .unset, .unset, .unset, .unset, .unset, .unset, .unset, .unset] [(.int p1)])) _
          refine X0.ldcInt hx hown (mvT hZ (hw _ (List.mem_of_getElem? (i := 0) rfl))) (g := (mkF m 1 #[.val (.int p1), .val (.int p2), .val (.int p3), .unset, .unset, .unset, .unset, .unset, .unset, .unset, .unset, .unset] [(.int p1)])) rfl (hb hby at_1) _ ?_
          show Steps p.tables e below (s₁.setTop (mkF m 3 #[.val (.int p1), .val (.int p2), .val (.int p3), .unset, .unset, .unset, .unset, .unset, .unset, .unset, .unset, .unset] [(.int (2147483647 : Int32)), (.int p1)])) _
          refine XS.iand X0.here hx rfl (hb hby at_3) rfl ?_
          show Steps p.tables e below (s₁.setTop (mkF m 4 #[.val (.int p1), .val (.int p2), .val (.int p3), .unset, .unset, .unset, .unset, .unset, .unset, .unset, .unset, .unset] [(.int (p1 &&& (2147483647 : Int32)))])) _
          refine XS.bipush X0.here hx rfl (hb hby at_4) ?_
          show Steps p.tables e below (s₁.setTop (mkF m 6 #[.val (.int p1), .val (.int p2), .val (.int p3), .unset, .unset, .unset, .unset, .unset, .unset, .unset, .unset, .unset] [(.int (6 : Int32)), (.int (p1 &&& (2147483647 : Int32)))])) _
          refine iremM X0 hx rfl (hb hby at_6) rfl (by decide) ?_
          show Steps p.tables e below (s₁.setTop (mkF m 7 #[.val (.int p1), .val (.int p2), .val (.int p3), .unset, .unset, .unset, .unset, .unset, .unset, .unset, .unset, .unset] [(.int ((p1 &&& (2147483647 : Int32)) % (6 : Int32)))])) _
          refine XS.istoreN X0.here hx rfl (hb hby at_7) rfl (l' := #[.val (.int p1), .val (.int p2), .val (.int p3), .val (.int ((p1 &&& (2147483647 : Int32)) % (6 : Int32))), .unset, .unset, .unset, .unset, .unset, .unset, .unset, .unset]) rfl ?_
          show Steps p.tables e below (s₁.setTop (mkF m 8 #[.val (.int p1), .val (.int p2), .val (.int p3), .val (.int ((p1 &&& (2147483647 : Int32)) % (6 : Int32))), .unset, .unset, .unset, .unset, .unset, .unset, .unset, .unset] [])) _
          rw [← e_kx]
          show Steps p.tables e below (s₁.setTop (mkF m 8 #[.val (.int p1), .val (.int p2), .val (.int p3), .val (.int kx), .unset, .unset, .unset, .unset, .unset, .unset, .unset, .unset] [])) _
          refine XS.iloadN X0.here hx rfl (hb hby at_8) rfl ?_
          show Steps p.tables e below (s₁.setTop (mkF m 9 #[.val (.int p1), .val (.int p2), .val (.int p3), .val (.int kx), .unset, .unset, .unset, .unset, .unset, .unset, .unset, .unset] [(.int kx)])) _
          refine XS.ifYes X0.here hx rfl (pc0 := 9) (pc' := 20) rfl (hb hby at_9) rfl ((if0 _ _).trans (feq hc9).2) (by decide) (by decide) ?_
          show Steps p.tables e below (s₁.setTop (mkF m 20 #[.val (.int p1), .val (.int p2), .val (.int p3), .val (.int kx), .unset, .unset, .unset, .unset, .unset, .unset, .unset, .unset] [])) _
          refine XS.iloadN X0.here hx rfl (hb hby at_20) rfl ?_
          show Steps p.tables e below (s₁.setTop (mkF m 21 #[.val (.int p1), .val (.int p2), .val (.int p3), .val (.int kx), .unset, .unset, .unset, .unset, .unset, .unset, .unset, .unset] [(.int kx)])) _
          refine XS.iconst X0.here hx rfl (hb hby at_21) ?_
          show Steps p.tables e below (s₁.setTop (mkF m 22 #[.val (.int p1), .val (.int p2), .val (.int p3), .val (.int kx), .unset, .unset, .unset, .unset, .unset, .unset, .unset, .unset] [(.int (1 : Int32)), (.int kx)])) _
          refine XS.icmpYes X0.here hx rfl (pc0 := 22) (pc' := 33) rfl (hb hby at_22) rfl (feq hc22).2 (by decide) (by decide) ?_
          show Steps p.tables e below (s₁.setTop (mkF m 33 #[.val (.int p1), .val (.int p2), .val (.int p3), .val (.int kx), .unset, .unset, .unset, .unset, .unset, .unset, .unset, .unset] [])) _
          refine XS.iloadN X0.here hx rfl (hb hby at_33) rfl ?_
          show Steps p.tables e below (s₁.setTop (mkF m 34 #[.val (.int p1), .val (.int p2), .val (.int p3), .val (.int kx), .unset, .unset, .unset, .unset, .unset, .unset, .unset, .unset] [(.int kx)])) _
          refine XS.iconst X0.here hx rfl (hb hby at_34) ?_
          show Steps p.tables e below (s₁.setTop (mkF m 35 #[.val (.int p1), .val (.int p2), .val (.int p3), .val (.int kx), .unset, .unset, .unset, .unset, .unset, .unset, .unset, .unset] [(.int (2 : Int32)), (.int kx)])) _
          refine XS.icmpNo X0.here hx rfl (hb hby at_35) rfl (teq hc35).2 ?_
          show Steps p.tables e below (s₁.setTop (mkF m 38 #[.val (.int p1), .val (.int p2), .val (.int p3), .val (.int kx), .unset, .unset, .unset, .unset, .unset, .unset, .unset, .unset] [])) _
          refine st32 _ ?_
          show Steps p.tables e below (T32.setTop (mkF m 41 #[.val (.int p1), .val (.int p2), .val (.int p3), .val (.int kx), .unset, .unset, .unset, .unset, .unset, .unset, .unset, .unset] [(.ref aM)])) _
          refine XS.astore X32.here hx rfl (hb hby at_41) rfl rfl (l' := #[.val (.int p1), .val (.int p2), .val (.int p3), .val (.int kx), .val (.ref aM), .unset, .unset, .unset, .unset, .unset, .unset, .unset]) rfl ?_
          show Steps p.tables e below (T32.setTop (mkF m 43 #[.val (.int p1), .val (.int p2), .val (.int p3), .val (.int kx), .val (.ref aM), .unset, .unset, .unset, .unset, .unset, .unset, .unset] [])) _
          refine XS.goto X32.here hx rfl (pc0 := 43) (pc' := 77) rfl (hb hby at_43) (by decide) (by decide) ?_
          show Steps p.tables e below (T32.setTop (mkF m 77 #[.val (.int p1), .val (.int p2), .val (.int p3), .val (.int kx), .val (.ref aM), .unset, .unset, .unset, .unset, .unset, .unset, .unset] [])) _
          refine XS.iconst X32.here hx rfl (hb hby at_77) ?_
          show Steps p.tables e below (T32.setTop (mkF m 78 #[.val (.int p1), .val (.int p2), .val (.int p3), .val (.int kx), .val (.ref aM), .unset, .unset, .unset, .unset, .unset, .unset, .unset] [(.int (-1 : Int32))])) _
          refine XS.iloadN X32.here hx rfl (hb hby at_78) rfl ?_
          show Steps p.tables e below (T32.setTop (mkF m 79 #[.val (.int p1), .val (.int p2), .val (.int p3), .val (.int kx), .val (.ref aM), .unset, .unset, .unset, .unset, .unset, .unset, .unset] [(.int p2), (.int (-1 : Int32))])) _
          refine X32.ldcInt hx hown (mvT hZ (hw _ (List.mem_of_getElem? (i := 0) rfl))) (g := (mkF m 79 #[.val (.int p1), .val (.int p2), .val (.int p3), .val (.int kx), .val (.ref aM), .unset, .unset, .unset, .unset, .unset, .unset, .unset] [(.int p2), (.int (-1 : Int32))])) rfl (hb hby at_79) _ ?_
          show Steps p.tables e below (T32.setTop (mkF m 81 #[.val (.int p1), .val (.int p2), .val (.int p3), .val (.int kx), .val (.ref aM), .unset, .unset, .unset, .unset, .unset, .unset, .unset] [(.int (2147483647 : Int32)), (.int p2), (.int (-1 : Int32))])) _
          refine XS.iand X32.here hx rfl (hb hby at_81) rfl ?_
          show Steps p.tables e below (T32.setTop (mkF m 82 #[.val (.int p1), .val (.int p2), .val (.int p3), .val (.int kx), .val (.ref aM), .unset, .unset, .unset, .unset, .unset, .unset, .unset] [(.int (p2 &&& (2147483647 : Int32))), (.int (-1 : Int32))])) _
          refine XS.isub X32.here hx rfl (hb hby at_82) rfl ?_
          show Steps p.tables e below (T32.setTop (mkF m 83 #[.val (.int p1), .val (.int p2), .val (.int p3), .val (.int kx), .val (.ref aM), .unset, .unset, .unset, .unset, .unset, .unset, .unset] [(.int ((-1 : Int32) - (p2 &&& (2147483647 : Int32))))])) _
          refine XS.istore X32.here hx rfl (hb hby at_83) rfl (l' := #[.val (.int p1), .val (.int p2), .val (.int p3), .val (.int kx), .val (.ref aM), .val (.int ((-1 : Int32) - (p2 &&& (2147483647 : Int32)))), .unset, .unset, .unset, .unset, .unset, .unset]) rfl ?_
          show Steps p.tables e below (T32.setTop (mkF m 85 #[.val (.int p1), .val (.int p2), .val (.int p3), .val (.int kx), .val (.ref aM), .val (.int ((-1 : Int32) - (p2 &&& (2147483647 : Int32)))), .unset, .unset, .unset, .unset, .unset, .unset] [])) _
          rw [← e_ng]
          show Steps p.tables e below (T32.setTop (mkF m 85 #[.val (.int p1), .val (.int p2), .val (.int p3), .val (.int kx), .val (.ref aM), .val (.int ng), .unset, .unset, .unset, .unset, .unset, .unset] [])) _
          refine XS.iconst X32.here hx rfl (hb hby at_85) ?_
          show Steps p.tables e below (T32.setTop (mkF m 86 #[.val (.int p1), .val (.int p2), .val (.int p3), .val (.int kx), .val (.ref aM), .val (.int ng), .unset, .unset, .unset, .unset, .unset, .unset] [(.int (1 : Int32))])) _
          refine XS.iloadN X32.here hx rfl (hb hby at_86) rfl ?_
          show Steps p.tables e below (T32.setTop (mkF m 87 #[.val (.int p1), .val (.int p2), .val (.int p3), .val (.int kx), .val (.ref aM), .val (.int ng), .unset, .unset, .unset, .unset, .unset, .unset] [(.int p3), (.int (1 : Int32))])) _
          refine X32.ldcInt hx hown (mvT hZ (hw _ (List.mem_of_getElem? (i := 0) rfl))) (g := (mkF m 87 #[.val (.int p1), .val (.int p2), .val (.int p3), .val (.int kx), .val (.ref aM), .val (.int ng), .unset, .unset, .unset, .unset, .unset, .unset] [(.int p3), (.int (1 : Int32))])) rfl (hb hby at_87) _ ?_
          show Steps p.tables e below (T32.setTop (mkF m 89 #[.val (.int p1), .val (.int p2), .val (.int p3), .val (.int kx), .val (.ref aM), .val (.int ng), .unset, .unset, .unset, .unset, .unset, .unset] [(.int (2147483647 : Int32)), (.int p3), (.int (1 : Int32))])) _
          refine XS.iand X32.here hx rfl (hb hby at_89) rfl ?_
          show Steps p.tables e below (T32.setTop (mkF m 90 #[.val (.int p1), .val (.int p2), .val (.int p3), .val (.int kx), .val (.ref aM), .val (.int ng), .unset, .unset, .unset, .unset, .unset, .unset] [(.int (p3 &&& (2147483647 : Int32))), (.int (1 : Int32))])) _
          refine st33 _ ?_
          show Steps p.tables e below (T33.setTop (mkF m 93 #[.val (.int p1), .val (.int p2), .val (.int p3), .val (.int kx), .val (.ref aM), .val (.int ng), .unset, .unset, .unset, .unset, .unset, .unset] [(.int (if (1 : Int32) < (p3 &&& (2147483647 : Int32)) then (p3 &&& (2147483647 : Int32)) else (1 : Int32)))])) _
          refine XS.istore X33.here hx rfl (hb hby at_93) rfl (l' := #[.val (.int p1), .val (.int p2), .val (.int p3), .val (.int kx), .val (.ref aM), .val (.int ng), .val (.int (if (1 : Int32) < (p3 &&& (2147483647 : Int32)) then (p3 &&& (2147483647 : Int32)) else (1 : Int32))), .unset, .unset, .unset, .unset, .unset]) rfl ?_
          show Steps p.tables e below (T33.setTop (mkF m 95 #[.val (.int p1), .val (.int p2), .val (.int p3), .val (.int kx), .val (.ref aM), .val (.int ng), .val (.int (if (1 : Int32) < (p3 &&& (2147483647 : Int32)) then (p3 &&& (2147483647 : Int32)) else (1 : Int32))), .unset, .unset, .unset, .unset, .unset] [])) _
          rw [← e_ps]
          show Steps p.tables e below (T33.setTop (mkF m 95 #[.val (.int p1), .val (.int p2), .val (.int p3), .val (.int kx), .val (.ref aM), .val (.int ng), .val (.int ps), .unset, .unset, .unset, .unset, .unset] [])) _
          refine XS.aload X33.here hx rfl (hb hby at_95) rfl rfl ?_
          show Steps p.tables e below (T33.setTop (mkF m 97 #[.val (.int p1), .val (.int p2), .val (.int p3), .val (.int kx), .val (.ref aM), .val (.int ng), .val (.int ps), .unset, .unset, .unset, .unset, .unset] [(.ref aM)])) _
          refine st34.trans ?_
          show Steps p.tables e below (T34.setTop (mkF m 100 #[.val (.int p1), .val (.int p2), .val (.int p3), .val (.int kx), .val (.ref aM), .val (.int ng), .val (.int ps), .unset, .unset, .unset, .unset, .unset] [(.int (if aM = aE then (0 : Int32) else if aM = aN then (0 : Int32) else (1 : Int32)))])) _
          refine XS.istore X34.here hx rfl (hb hby at_100) rfl (l' := #[.val (.int p1), .val (.int p2), .val (.int p3), .val (.int kx), .val (.ref aM), .val (.int ng), .val (.int ps), .val (.int (if aM = aE then (0 : Int32) else if aM = aN then (0 : Int32) else (1 : Int32))), .unset, .unset, .unset, .unset]) rfl ?_
          show Steps p.tables e below (T34.setTop (mkF m 102 #[.val (.int p1), .val (.int p2), .val (.int p3), .val (.int kx), .val (.ref aM), .val (.int ng), .val (.int ps), .val (.int (if aM = aE then (0 : Int32) else if aM = aN then (0 : Int32) else (1 : Int32))), .unset, .unset, .unset, .unset] [])) _
          refine XS.aload X34.here hx rfl (hb hby at_102) rfl rfl ?_
          show Steps p.tables e below (T34.setTop (mkF m 104 #[.val (.int p1), .val (.int p2), .val (.int p3), .val (.int kx), .val (.ref aM), .val (.int ng), .val (.int ps), .val (.int (if aM = aE then (0 : Int32) else if aM = aN then (0 : Int32) else (1 : Int32))), .unset, .unset, .unset, .unset] [(.ref aM)])) _
          refine st35.trans ?_
          show Steps p.tables e below (T35.setTop (mkF m 107 #[.val (.int p1), .val (.int p2), .val (.int p3), .val (.int kx), .val (.ref aM), .val (.int ng), .val (.int ps), .val (.int (if aM = aE then (0 : Int32) else if aM = aN then (0 : Int32) else (1 : Int32))), .unset, .unset, .unset, .unset] [(.ref saM)])) _
          refine XS.astore X35.here hx rfl (hb hby at_107) rfl rfl (l' := #[.val (.int p1), .val (.int p2), .val (.int p3), .val (.int kx), .val (.ref aM), .val (.int ng), .val (.int ps), .val (.int (if aM = aE then (0 : Int32) else if aM = aN then (0 : Int32) else (1 : Int32))), .val (.ref saM), .unset, .unset, .unset]) rfl ?_
          show Steps p.tables e below (T35.setTop (mkF m 109 #[.val (.int p1), .val (.int p2), .val (.int p3), .val (.int kx), .val (.ref aM), .val (.int ng), .val (.int ps), .val (.int (if aM = aE then (0 : Int32) else if aM = aN then (0 : Int32) else (1 : Int32))), .val (.ref saM), .unset, .unset, .unset] [])) _
          refine XS.aload X35.here hx rfl (hb hby at_109) rfl rfl ?_
          show Steps p.tables e below (T35.setTop (mkF m 111 #[.val (.int p1), .val (.int p2), .val (.int p3), .val (.int kx), .val (.ref aM), .val (.int ng), .val (.int ps), .val (.int (if aM = aE then (0 : Int32) else if aM = aN then (0 : Int32) else (1 : Int32))), .val (.ref saM), .unset, .unset, .unset] [(.ref saM)])) _
          refine XS.iconst X35.here hx rfl (hb hby at_111) ?_
          show Steps p.tables e below (T35.setTop (mkF m 112 #[.val (.int p1), .val (.int p2), .val (.int p3), .val (.int kx), .val (.ref aM), .val (.int ng), .val (.int ps), .val (.int (if aM = aE then (0 : Int32) else if aM = aN then (0 : Int32) else (1 : Int32))), .val (.ref saM), .unset, .unset, .unset] [(.int (0 : Int32)), (.ref saM)])) _
          refine st36.trans ?_
          show Steps p.tables e below (T36.setTop (mkF m 115 #[.val (.int p1), .val (.int p2), .val (.int p3), .val (.int kx), .val (.ref aM), .val (.int ng), .val (.int ps), .val (.int (if aM = aE then (0 : Int32) else if aM = aN then (0 : Int32) else (1 : Int32))), .val (.ref saM), .unset, .unset, .unset] [(.int (nar .char (nar .char (((60 : Int32) &&& (255 : Int32)).toUInt32.toUInt16.toUInt32.toInt32))))])) _
          refine XS.istore X36.here hx rfl (hb hby at_115) rfl (l' := #[.val (.int p1), .val (.int p2), .val (.int p3), .val (.int kx), .val (.ref aM), .val (.int ng), .val (.int ps), .val (.int (if aM = aE then (0 : Int32) else if aM = aN then (0 : Int32) else (1 : Int32))), .val (.ref saM), .val (.int (nar .char (nar .char (((60 : Int32) &&& (255 : Int32)).toUInt32.toUInt16.toUInt32.toInt32)))), .unset, .unset]) rfl ?_
          show Steps p.tables e below (T36.setTop (mkF m 117 #[.val (.int p1), .val (.int p2), .val (.int p3), .val (.int kx), .val (.ref aM), .val (.int ng), .val (.int ps), .val (.int (if aM = aE then (0 : Int32) else if aM = aN then (0 : Int32) else (1 : Int32))), .val (.ref saM), .val (.int (nar .char (nar .char (((60 : Int32) &&& (255 : Int32)).toUInt32.toUInt16.toUInt32.toInt32)))), .unset, .unset] [])) _
          refine XS.iload X36.here hx rfl (hb hby at_117) rfl ?_
          show Steps p.tables e below (T36.setTop (mkF m 119 #[.val (.int p1), .val (.int p2), .val (.int p3), .val (.int kx), .val (.ref aM), .val (.int ng), .val (.int ps), .val (.int (if aM = aE then (0 : Int32) else if aM = aN then (0 : Int32) else (1 : Int32))), .val (.ref saM), .val (.int (nar .char (nar .char (((60 : Int32) &&& (255 : Int32)).toUInt32.toUInt16.toUInt32.toInt32)))), .unset, .unset] [(.int (nar .char (nar .char (((60 : Int32) &&& (255 : Int32)).toUInt32.toUInt16.toUInt32.toInt32))))])) _
          refine XS.bipush X36.here hx rfl (hb hby at_119) ?_
          show Steps p.tables e below (T36.setTop (mkF m 121 #[.val (.int p1), .val (.int p2), .val (.int p3), .val (.int kx), .val (.ref aM), .val (.int ng), .val (.int ps), .val (.int (if aM = aE then (0 : Int32) else if aM = aN then (0 : Int32) else (1 : Int32))), .val (.ref saM), .val (.int (nar .char (nar .char (((60 : Int32) &&& (255 : Int32)).toUInt32.toUInt16.toUInt32.toInt32)))), .unset, .unset] [(.int (60 : Int32)), (.int (nar .char (nar .char (((60 : Int32) &&& (255 : Int32)).toUInt32.toUInt16.toUInt32.toInt32))))])) _
          refine XS.icmpYes X36.here hx rfl (pc0 := 121) (pc' := 131) rfl (hb hby at_121) rfl (teq hc121).1 (by decide) (by decide) ?_
          show Steps p.tables e below (T36.setTop (mkF m 131 #[.val (.int p1), .val (.int p2), .val (.int p3), .val (.int kx), .val (.ref aM), .val (.int ng), .val (.int ps), .val (.int (if aM = aE then (0 : Int32) else if aM = aN then (0 : Int32) else (1 : Int32))), .val (.ref saM), .val (.int (nar .char (nar .char (((60 : Int32) &&& (255 : Int32)).toUInt32.toUInt16.toUInt32.toInt32)))), .unset, .unset] [])) _
          refine XS.iconst X36.here hx rfl (hb hby at_131) ?_
          show Steps p.tables e below (T36.setTop (mkF m 132 #[.val (.int p1), .val (.int p2), .val (.int p3), .val (.int kx), .val (.ref aM), .val (.int ng), .val (.int ps), .val (.int (if aM = aE then (0 : Int32) else if aM = aN then (0 : Int32) else (1 : Int32))), .val (.ref saM), .val (.int (nar .char (nar .char (((60 : Int32) &&& (255 : Int32)).toUInt32.toUInt16.toUInt32.toInt32)))), .unset, .unset] [(.int (1 : Int32))])) _
          refine XS.goto X36.here hx rfl (pc0 := 132) (pc' := 136) rfl (hb hby at_132) (by decide) (by decide) ?_
          show Steps p.tables e below (T36.setTop (mkF m 136 #[.val (.int p1), .val (.int p2), .val (.int p3), .val (.int kx), .val (.ref aM), .val (.int ng), .val (.int ps), .val (.int (if aM = aE then (0 : Int32) else if aM = aN then (0 : Int32) else (1 : Int32))), .val (.ref saM), .val (.int (nar .char (nar .char (((60 : Int32) &&& (255 : Int32)).toUInt32.toUInt16.toUInt32.toInt32)))), .unset, .unset] [(.int (1 : Int32))])) _
          refine XS.istore X36.here hx rfl (hb hby at_136) rfl (l' := #[.val (.int p1), .val (.int p2), .val (.int p3), .val (.int kx), .val (.ref aM), .val (.int ng), .val (.int ps), .val (.int (if aM = aE then (0 : Int32) else if aM = aN then (0 : Int32) else (1 : Int32))), .val (.ref saM), .val (.int (nar .char (nar .char (((60 : Int32) &&& (255 : Int32)).toUInt32.toUInt16.toUInt32.toInt32)))), .val (.int (1 : Int32)), .unset]) rfl ?_
          show Steps p.tables e below (T36.setTop (mkF m 138 #[.val (.int p1), .val (.int p2), .val (.int p3), .val (.int kx), .val (.ref aM), .val (.int ng), .val (.int ps), .val (.int (if aM = aE then (0 : Int32) else if aM = aN then (0 : Int32) else (1 : Int32))), .val (.ref saM), .val (.int (nar .char (nar .char (((60 : Int32) &&& (255 : Int32)).toUInt32.toUInt16.toUInt32.toInt32)))), .val (.int (1 : Int32)), .unset] [])) _
          refine XS.aload X36.here hx rfl (hb hby at_138) rfl rfl ?_
          show Steps p.tables e below (T36.setTop (mkF m 140 #[.val (.int p1), .val (.int p2), .val (.int p3), .val (.int kx), .val (.ref aM), .val (.int ng), .val (.int ps), .val (.int (if aM = aE then (0 : Int32) else if aM = aN then (0 : Int32) else (1 : Int32))), .val (.ref saM), .val (.int (nar .char (nar .char (((60 : Int32) &&& (255 : Int32)).toUInt32.toUInt16.toUInt32.toInt32)))), .val (.int (1 : Int32)), .unset] [(.ref aM)])) _
          refine XS.iload X36.here hx rfl (hb hby at_140) rfl ?_
          show Steps p.tables e below (T36.setTop (mkF m 142 #[.val (.int p1), .val (.int p2), .val (.int p3), .val (.int kx), .val (.ref aM), .val (.int ng), .val (.int ps), .val (.int (if aM = aE then (0 : Int32) else if aM = aN then (0 : Int32) else (1 : Int32))), .val (.ref saM), .val (.int (nar .char (nar .char (((60 : Int32) &&& (255 : Int32)).toUInt32.toUInt16.toUInt32.toInt32)))), .val (.int (1 : Int32)), .unset] [(.int ng), (.ref aM)])) _
          refine st37.trans ?_
          show Steps p.tables e below (T37.setTop (mkF m 145 #[.val (.int p1), .val (.int p2), .val (.int p3), .val (.int kx), .val (.ref aM), .val (.int ng), .val (.int ps), .val (.int (if aM = aE then (0 : Int32) else if aM = aN then (0 : Int32) else (1 : Int32))), .val (.ref saM), .val (.int (nar .char (nar .char (((60 : Int32) &&& (255 : Int32)).toUInt32.toUInt16.toUInt32.toInt32)))), .val (.int (1 : Int32)), .unset] [(.int (own_holds (2 : Int32) ng))])) _
          refine XS.aload X37.here hx rfl (hb hby at_145) rfl rfl ?_
          show Steps p.tables e below (T37.setTop (mkF m 147 #[.val (.int p1), .val (.int p2), .val (.int p3), .val (.int kx), .val (.ref aM), .val (.int ng), .val (.int ps), .val (.int (if aM = aE then (0 : Int32) else if aM = aN then (0 : Int32) else (1 : Int32))), .val (.ref saM), .val (.int (nar .char (nar .char (((60 : Int32) &&& (255 : Int32)).toUInt32.toUInt16.toUInt32.toInt32)))), .val (.int (1 : Int32)), .unset] [(.ref aM), (.int (own_holds (2 : Int32) ng))])) _
          refine XS.iload X37.here hx rfl (hb hby at_147) rfl ?_
          show Steps p.tables e below (T37.setTop (mkF m 149 #[.val (.int p1), .val (.int p2), .val (.int p3), .val (.int kx), .val (.ref aM), .val (.int ng), .val (.int ps), .val (.int (if aM = aE then (0 : Int32) else if aM = aN then (0 : Int32) else (1 : Int32))), .val (.ref saM), .val (.int (nar .char (nar .char (((60 : Int32) &&& (255 : Int32)).toUInt32.toUInt16.toUInt32.toInt32)))), .val (.int (1 : Int32)), .unset] [(.int ps), (.ref aM), (.int (own_holds (2 : Int32) ng))])) _
          refine st38.trans ?_
          show Steps p.tables e below (T38.setTop (mkF m 152 #[.val (.int p1), .val (.int p2), .val (.int p3), .val (.int kx), .val (.ref aM), .val (.int ng), .val (.int ps), .val (.int (if aM = aE then (0 : Int32) else if aM = aN then (0 : Int32) else (1 : Int32))), .val (.ref saM), .val (.int (nar .char (nar .char (((60 : Int32) &&& (255 : Int32)).toUInt32.toUInt16.toUInt32.toInt32)))), .val (.int (1 : Int32)), .unset] [(.int (own_holds (2 : Int32) ps)), (.int (own_holds (2 : Int32) ng))])) _
          refine XS.icmpNo X38.here hx rfl (hb hby at_152) rfl (feq hc152).1 ?_
          show Steps p.tables e below (T38.setTop (mkF m 155 #[.val (.int p1), .val (.int p2), .val (.int p3), .val (.int kx), .val (.ref aM), .val (.int ng), .val (.int ps), .val (.int (if aM = aE then (0 : Int32) else if aM = aN then (0 : Int32) else (1 : Int32))), .val (.ref saM), .val (.int (nar .char (nar .char (((60 : Int32) &&& (255 : Int32)).toUInt32.toUInt16.toUInt32.toInt32)))), .val (.int (1 : Int32)), .unset] [])) _
          refine XS.iconst X38.here hx rfl (hb hby at_155) ?_
          show Steps p.tables e below (T38.setTop (mkF m 156 #[.val (.int p1), .val (.int p2), .val (.int p3), .val (.int kx), .val (.ref aM), .val (.int ng), .val (.int ps), .val (.int (if aM = aE then (0 : Int32) else if aM = aN then (0 : Int32) else (1 : Int32))), .val (.ref saM), .val (.int (nar .char (nar .char (((60 : Int32) &&& (255 : Int32)).toUInt32.toUInt16.toUInt32.toInt32)))), .val (.int (1 : Int32)), .unset] [(.int (1 : Int32))])) _
          refine XS.goto X38.here hx rfl (pc0 := 156) (pc' := 160) rfl (hb hby at_156) (by decide) (by decide) ?_
          show Steps p.tables e below (T38.setTop (mkF m 160 #[.val (.int p1), .val (.int p2), .val (.int p3), .val (.int kx), .val (.ref aM), .val (.int ng), .val (.int ps), .val (.int (if aM = aE then (0 : Int32) else if aM = aN then (0 : Int32) else (1 : Int32))), .val (.ref saM), .val (.int (nar .char (nar .char (((60 : Int32) &&& (255 : Int32)).toUInt32.toUInt16.toUInt32.toInt32)))), .val (.int (1 : Int32)), .unset] [(.int (1 : Int32))])) _
          refine XS.istore X38.here hx rfl (hb hby at_160) rfl (l' := #[.val (.int p1), .val (.int p2), .val (.int p3), .val (.int kx), .val (.ref aM), .val (.int ng), .val (.int ps), .val (.int (if aM = aE then (0 : Int32) else if aM = aN then (0 : Int32) else (1 : Int32))), .val (.ref saM), .val (.int (nar .char (nar .char (((60 : Int32) &&& (255 : Int32)).toUInt32.toUInt16.toUInt32.toInt32)))), .val (.int (1 : Int32)), .val (.int (1 : Int32))]) rfl ?_
          show Steps p.tables e below (T38.setTop (mkF m 162 #[.val (.int p1), .val (.int p2), .val (.int p3), .val (.int kx), .val (.ref aM), .val (.int ng), .val (.int ps), .val (.int (if aM = aE then (0 : Int32) else if aM = aN then (0 : Int32) else (1 : Int32))), .val (.ref saM), .val (.int (nar .char (nar .char (((60 : Int32) &&& (255 : Int32)).toUInt32.toUInt16.toUInt32.toInt32)))), .val (.int (1 : Int32)), .val (.int (1 : Int32))] [])) _
          refine XS.iload X38.here hx rfl (hb hby at_162) rfl ?_
          show Steps p.tables e below (T38.setTop (mkF m 164 #[.val (.int p1), .val (.int p2), .val (.int p3), .val (.int kx), .val (.ref aM), .val (.int ng), .val (.int ps), .val (.int (if aM = aE then (0 : Int32) else if aM = aN then (0 : Int32) else (1 : Int32))), .val (.ref saM), .val (.int (nar .char (nar .char (((60 : Int32) &&& (255 : Int32)).toUInt32.toUInt16.toUInt32.toInt32)))), .val (.int (1 : Int32)), .val (.int (1 : Int32))] [(.int (if aM = aE then (0 : Int32) else if aM = aN then (0 : Int32) else (1 : Int32)))])) _
          refine XS.iload X38.here hx rfl (hb hby at_164) rfl ?_
          show Steps p.tables e below (T38.setTop (mkF m 166 #[.val (.int p1), .val (.int p2), .val (.int p3), .val (.int kx), .val (.ref aM), .val (.int ng), .val (.int ps), .val (.int (if aM = aE then (0 : Int32) else if aM = aN then (0 : Int32) else (1 : Int32))), .val (.ref saM), .val (.int (nar .char (nar .char (((60 : Int32) &&& (255 : Int32)).toUInt32.toUInt16.toUInt32.toInt32)))), .val (.int (1 : Int32)), .val (.int (1 : Int32))] [(.int (1 : Int32)), (.int (if aM = aE then (0 : Int32) else if aM = aN then (0 : Int32) else (1 : Int32)))])) _
          refine XS.icmpNo X38.here hx rfl (hb hby at_166) rfl (teq hc166).2 ?_
          show Steps p.tables e below (T38.setTop (mkF m 169 #[.val (.int p1), .val (.int p2), .val (.int p3), .val (.int kx), .val (.ref aM), .val (.int ng), .val (.int ps), .val (.int (if aM = aE then (0 : Int32) else if aM = aN then (0 : Int32) else (1 : Int32))), .val (.ref saM), .val (.int (nar .char (nar .char (((60 : Int32) &&& (255 : Int32)).toUInt32.toUInt16.toUInt32.toInt32)))), .val (.int (1 : Int32)), .val (.int (1 : Int32))] [])) _
          refine XS.iload X38.here hx rfl (hb hby at_169) rfl ?_
          show Steps p.tables e below (T38.setTop (mkF m 171 #[.val (.int p1), .val (.int p2), .val (.int p3), .val (.int kx), .val (.ref aM), .val (.int ng), .val (.int ps), .val (.int (if aM = aE then (0 : Int32) else if aM = aN then (0 : Int32) else (1 : Int32))), .val (.ref saM), .val (.int (nar .char (nar .char (((60 : Int32) &&& (255 : Int32)).toUInt32.toUInt16.toUInt32.toInt32)))), .val (.int (1 : Int32)), .val (.int (1 : Int32))] [(.int (if aM = aE then (0 : Int32) else if aM = aN then (0 : Int32) else (1 : Int32)))])) _
          refine XS.iload X38.here hx rfl (hb hby at_171) rfl ?_
          show Steps p.tables e below (T38.setTop (mkF m 173 #[.val (.int p1), .val (.int p2), .val (.int p3), .val (.int kx), .val (.ref aM), .val (.int ng), .val (.int ps), .val (.int (if aM = aE then (0 : Int32) else if aM = aN then (0 : Int32) else (1 : Int32))), .val (.ref saM), .val (.int (nar .char (nar .char (((60 : Int32) &&& (255 : Int32)).toUInt32.toUInt16.toUInt32.toInt32)))), .val (.int (1 : Int32)), .val (.int (1 : Int32))] [(.int (1 : Int32)), (.int (if aM = aE then (0 : Int32) else if aM = aN then (0 : Int32) else (1 : Int32)))])) _
          refine XS.icmpNo X38.here hx rfl (hb hby at_173) rfl (teq hc173).2 ?_
          show Steps p.tables e below (T38.setTop (mkF m 176 #[.val (.int p1), .val (.int p2), .val (.int p3), .val (.int kx), .val (.ref aM), .val (.int ng), .val (.int ps), .val (.int (if aM = aE then (0 : Int32) else if aM = aN then (0 : Int32) else (1 : Int32))), .val (.ref saM), .val (.int (nar .char (nar .char (((60 : Int32) &&& (255 : Int32)).toUInt32.toUInt16.toUInt32.toInt32)))), .val (.int (1 : Int32)), .val (.int (1 : Int32))] [])) _
          refine XS.iconst X38.here hx rfl (hb hby at_176) ?_
          show Steps p.tables e below (T38.setTop (mkF m 177 #[.val (.int p1), .val (.int p2), .val (.int p3), .val (.int kx), .val (.ref aM), .val (.int ng), .val (.int ps), .val (.int (if aM = aE then (0 : Int32) else if aM = aN then (0 : Int32) else (1 : Int32))), .val (.ref saM), .val (.int (nar .char (nar .char (((60 : Int32) &&& (255 : Int32)).toUInt32.toUInt16.toUInt32.toInt32)))), .val (.int (1 : Int32)), .val (.int (1 : Int32))] [(.int (1 : Int32))])) _
          refine XS.goto X38.here hx rfl (pc0 := 177) (pc' := 181) rfl (hb hby at_177) (by decide) (by decide) ?_
          show Steps p.tables e below (T38.setTop (mkF m 181 #[.val (.int p1), .val (.int p2), .val (.int p3), .val (.int kx), .val (.ref aM), .val (.int ng), .val (.int ps), .val (.int (if aM = aE then (0 : Int32) else if aM = aN then (0 : Int32) else (1 : Int32))), .val (.ref saM), .val (.int (nar .char (nar .char (((60 : Int32) &&& (255 : Int32)).toUInt32.toUInt16.toUInt32.toInt32)))), .val (.int (1 : Int32)), .val (.int (1 : Int32))] [(.int (1 : Int32))])) _
          exact retN X38 hx (t := .boolean) Bd.returns (by simp) (hb hby at_181) hr
        · show Q_0 Z p1 p2 p3 h0 n0 _ T38.heap _
          rw [e38]
          exact ⟨rfl, N38⟩
      · by_cases hc48 : kx = (3 : Int32)
        · obtain ⟨T39, X39, e39, st39⟩ := getS2 X0 hx hZ hown (host := "") (Or.inl (hw _ (List.mem_of_getElem? (i := 70) rfl))) Via.refl e0 S_AT_LEAST (g := (mkF m 51 #[.val (.int p1), .val (.int p2), .val (.int p3), .val (.int kx), .unset, .unset, .unset, .unset, .unset, .unset, .unset, .unset] [])) rfl (hb hby at_51)
          obtain ⟨ng, e_ng⟩ : ∃ z : Int32, z = ((-1 : Int32) - (p2 &&& (2147483647 : Int32))) := ⟨_, rfl⟩
          have hng : ng < 0 := e_ng ▸ own_neg p2
          have hneg : ng < 0 ∧ ¬ ng = 0 ∧ ¬ 0 < ng := by
            rcases own_tri ng with u | u | u
            · exact u
            · exact absurd hng u.2.1
            · exact absurd hng u.2.1
          obtain ⟨_, _, ⟨T40, L40, c40_, n40_⟩, -, X40, ⟨Lc40, hQ40, l40, y40, z40⟩, st40⟩ := Jvm.LawKit.callS X39 hx (y := (⟨"java/lang/Math", "max", "(II)I"⟩ : MethodName)) hown (mvT hZ (hw _ (List.mem_of_getElem? (i := 4) rfl))) (mvT hZ (hw _ (List.mem_of_getElem? (i := 5) rfl))) (mvT hZ (hw _ (List.mem_of_getElem? (i := 6) rfl))) (mvT hZ (hw _ (List.mem_of_getElem? (i := 7) rfl))) (by decide) (backOf (W := 0) (rm_1 l Z a0 hw [] (1 : Int32) (p3 &&& (2147483647 : Int32)) h0 n0 (Nat.le_trans Z0 (Keep.refl h0 []).1) ) hZ (hw _ (List.mem_of_getElem? (i := 7) rfl)) (hw _ (List.mem_of_getElem? (i := 6) rfl)) (by decide) (by decide)) (g := (mkF m 90 #[.val (.int p1), .val (.int p2), .val (.int p3), .val (.int kx), .val (.ref aL), .val (.int ng), .unset, .unset, .unset, .unset, .unset, .unset] [(.int (p3 &&& (2147483647 : Int32))), (.int (1 : Int32))])) rfl (by rw [hml]; rfl) (argsL := [(.int (1 : Int32)), (.int (p3 &&& (2147483647 : Int32)))]) (rest := []) (lenOf pd__28II_29I rfl) rfl (by show 2 * 0 + _ ≤ _; exact Nat.le_of_eq rfl) (hb hby at_90) (fun _ _ => ⟨rfl, e39, (by decide : 0 + 0 ≤ _), (by decide : 0 + 0 ≤ _)⟩)
          dsimp only [Pt.U, Pt.locs, Pt.cells, Pt.slots] at X40 l40 y40 z40 st40 hQ40
          subst l40 y40 z40
          obtain ⟨rfl, Nq40, e40⟩ := hQ40
          have N40 := Fr.app N0 Nq40
          obtain ⟨ps, e_ps⟩ : ∃ z : Int32, z = (if (1 : Int32) < (p3 &&& (2147483647 : Int32)) then (p3 &&& (2147483647 : Int32)) else (1 : Int32)) := ⟨_, rfl⟩
          have hps : 0 < ps := e_ps ▸ own_pos _
          have hpos : 0 < ps ∧ ¬ ps < 0 ∧ ¬ ps = 0 := by
            rcases own_tri ps with u | u | u
            · exact absurd hps u.2.2
            · exact absurd hps u.2.2
            · exact u
          obtain ⟨cq41, kq41, q41a, q41b, q41c⟩ := isOf hZ e40 E_AT_LEAST
          obtain ⟨_, _, ⟨T41, L41, c41_, n41_⟩, -, X41, ⟨Lc41, hQ41, l41, y41, z41⟩, st41⟩ := X40.virtualBack hx (y := (⟨"com/example/furlong/furlong/model/Condition$Operator", "isOrder", "()Z"⟩ : MethodName)) (z := (⟨"com/example/furlong/furlong/model/Condition$Operator", "isOrder", "()Z"⟩ : MethodName)) hown (mvT hZ (hw _ (List.mem_of_getElem? (i := 8) rfl))) (mvT hZ (hw _ (List.mem_of_getElem? (i := 9) rfl))) (notFace_of_selects (args := #[]) (mvT hZ (hw _ (List.mem_of_getElem? (i := 11) rfl)))) (mvT hZ (hw _ (List.mem_of_getElem? (i := 11) rfl))) (mvT hZ (hw _ (List.mem_of_getElem? (i := 10) rfl))) (by decide) (backOf (W := 0) (rm_2 l Z a0 hw [] aL aE aN h0 n0 (Nat.le_trans Z0 (Keep.refl h0 []).1) S_EQUAL S_NOT_EQUAL) hZ (hw _ (List.mem_of_getElem? (i := 12) rfl)) (hw _ (List.mem_of_getElem? (i := 2) rfl)) (by decide) (by decide)) q41a q41c (g := (mkF m 97 #[.val (.int p1), .val (.int p2), .val (.int p3), .val (.int kx), .val (.ref aL), .val (.int ng), .val (.int ps), .unset, .unset, .unset, .unset, .unset] [(.ref aL)])) rfl (by rw [hml]; rfl) (Steps.refl _) (argsL := []) (rest := []) (lenOf pd__28_29Z rfl) rfl (by show 2 * 0 + _ ≤ _; exact Nat.le_of_eq rfl) (hb hby at_97) (fun _ _ => ⟨rfl, e40, (by decide : 0 + 0 ≤ _), (by decide : 0 + 0 ≤ _)⟩)
          dsimp only [Pt.U, Pt.locs, Pt.cells, Pt.slots] at X41 l41 y41 z41 st41 hQ41
          subst l41 y41 z41
          obtain ⟨rfl, Nq41, e41⟩ := hQ41
          have N41 := Fr.app N40 Nq41
          obtain ⟨cq42, kq42, q42a, q42b, q42c⟩ := isOf hZ e41 E_AT_LEAST
          obtain ⟨_, _, ⟨T42, L42, c42_, n42_⟩, -, X42, ⟨Lc42, hQ42, l42, y42, z42⟩, st42⟩ := X41.virtualBack hx (y := (⟨"com/example/furlong/furlong/model/Condition$Operator", "symbol", "()Ljava/lang/String;"⟩ : MethodName)) (z := (⟨"com/example/furlong/furlong/model/Condition$Operator", "symbol", "()Ljava/lang/String;"⟩ : MethodName)) hown (mvT hZ (hw _ (List.mem_of_getElem? (i := 14) rfl))) (mvT hZ (hw _ (List.mem_of_getElem? (i := 15) rfl))) (notFace_of_selects (args := #[]) (mvT hZ (hw _ (List.mem_of_getElem? (i := 17) rfl)))) (mvT hZ (hw _ (List.mem_of_getElem? (i := 17) rfl))) (mvT hZ (hw _ (List.mem_of_getElem? (i := 16) rfl))) (by decide) (backOf (W := 0) (rm_3 l Z a0 hw [] aL saL h0 n0 (Nat.le_trans Z0 (Keep.refl h0 []).1) Fs_AT_LEAST) hZ (hw _ (List.mem_of_getElem? (i := 18) rfl)) (hw _ (List.mem_of_getElem? (i := 2) rfl)) (by decide) (by decide)) q42a q42c (g := (mkF m 104 #[.val (.int p1), .val (.int p2), .val (.int p3), .val (.int kx), .val (.ref aL), .val (.int ng), .val (.int ps), .val (.int (if aL = aE then (0 : Int32) else if aL = aN then (0 : Int32) else (1 : Int32))), .unset, .unset, .unset, .unset] [(.ref aL)])) rfl (by rw [hml]; rfl) (Steps.refl _) (argsL := []) (rest := []) (lenOf pd__28_29Ljava_2flang_2fString_3b rfl) rfl (by show 2 * 0 + _ ≤ _; exact Nat.le_of_eq rfl) (hb hby at_104) (fun _ _ => ⟨rfl, e41, (by decide : 0 + 0 ≤ _), (by decide : 0 + 0 ≤ _)⟩)
          dsimp only [Pt.U, Pt.locs, Pt.cells, Pt.slots] at X42 l42 y42 z42 st42 hQ42
          subst l42 y42 z42
          obtain ⟨rfl, Nq42, e42⟩ := hQ42
          have N42 := Fr.app N41 Nq42
          obtain ⟨cq43, kq43, q43a, q43b, q43c⟩ := isOf hZ e42 Es_AT_LEAST
          obtain ⟨_, _, ⟨T43, L43, c43_, n43_⟩, -, X43, ⟨Lc43, hQ43, l43, y43, z43⟩, st43⟩ := X42.virtualBack hx (y := (⟨"java/lang/String", "charAt", "(I)C"⟩ : MethodName)) (z := (⟨"java/lang/String", "charAt", "(I)C"⟩ : MethodName)) hown (mvT hZ (hw _ (List.mem_of_getElem? (i := 21) rfl))) (mvT hZ (hw _ (List.mem_of_getElem? (i := 22) rfl))) (notFace_of_selects (args := #[]) (mvT hZ (hw _ (List.mem_of_getElem? (i := 24) rfl)))) (mvT hZ (hw _ (List.mem_of_getElem? (i := 24) rfl))) (mvT hZ (hw _ (List.mem_of_getElem? (i := 23) rfl))) (by decide) (backOf (W := 0) (rm_ch l Z a0 hw [] saL (0 : Int32) (62 : Int32) taL kaL (2 : Int32) [Value.int (62 : Int32), Value.int (61 : Int32)] fm zc h0 n0 (Nat.le_trans Z0 (Keep.refl h0 []).1) Va_AT_LEAST (by decide) (by decide) rfl rf S_F S_C hz Fc_AT_LEAST Fv_AT_LEAST Es_AT_LEAST) hZ (hw _ (List.mem_of_getElem? (i := 26) rfl)) (hw _ (List.mem_of_getElem? (i := 25) rfl)) (by decide) (by decide)) q43a q43c (g := (mkF m 112 #[.val (.int p1), .val (.int p2), .val (.int p3), .val (.int kx), .val (.ref aL), .val (.int ng), .val (.int ps), .val (.int (if aL = aE then (0 : Int32) else if aL = aN then (0 : Int32) else (1 : Int32))), .val (.ref saL), .unset, .unset, .unset] [(.int (0 : Int32)), (.ref saL)])) rfl (by rw [hml]; rfl) (Steps.refl _) (argsL := [(.int (0 : Int32))]) (rest := []) (lenOf pd__28I_29C rfl) rfl (by show 2 * 0 + _ ≤ _; exact Nat.le_of_eq rfl) (hb hby at_112) (fun _ _ => ⟨rfl, e42, (by decide : 0 + 0 ≤ _), (by decide : 0 + 0 ≤ _)⟩)
          dsimp only [Pt.U, Pt.locs, Pt.cells, Pt.slots] at X43 l43 y43 z43 st43 hQ43
          subst l43 y43 z43
          obtain ⟨rfl, Nq43, e43⟩ := hQ43
          have N43 := Fr.app N42 Nq43
          have hc121 : ¬ ((nar .char (nar .char (((62 : Int32) &&& (255 : Int32)).toUInt32.toUInt16.toUInt32.toInt32))) = (60 : Int32)) := by decide
          have hc128 : (nar .char (nar .char (((62 : Int32) &&& (255 : Int32)).toUInt32.toUInt16.toUInt32.toInt32))) = (62 : Int32) := by decide
          obtain ⟨cq44, kq44, q44a, q44b, q44c⟩ := isOf hZ e43 E_AT_LEAST
          obtain ⟨_, _, ⟨T44, L44, c44_, n44_⟩, -, X44, ⟨Lc44, hQ44, l44, y44, z44⟩, st44⟩ := X43.virtualBack hx (y := (⟨"com/example/furlong/furlong/model/Condition$Operator", "holds", "(I)Z"⟩ : MethodName)) (z := (⟨"com/example/furlong/furlong/model/Condition$Operator", "holds", "(I)Z"⟩ : MethodName)) hown (mvT hZ (hw _ (List.mem_of_getElem? (i := 49) rfl))) (mvT hZ (hw _ (List.mem_of_getElem? (i := 50) rfl))) (notFace_of_selects (args := #[]) (mvT hZ (hw _ (List.mem_of_getElem? (i := 52) rfl)))) (mvT hZ (hw _ (List.mem_of_getElem? (i := 52) rfl))) (mvT hZ (hw _ (List.mem_of_getElem? (i := 51) rfl))) (by decide) (backOf (W := 0) (rm_9 l Z a0 hw [] aL ng (3 : Int32) h0 n0 (Nat.le_trans Z0 (Keep.refl h0 []).1) Fo_AT_LEAST E_AT_LEAST) hZ (hw _ (List.mem_of_getElem? (i := 53) rfl)) (hw _ (List.mem_of_getElem? (i := 2) rfl)) (by decide) (by decide)) q44a q44c (g := (mkF m 142 #[.val (.int p1), .val (.int p2), .val (.int p3), .val (.int kx), .val (.ref aL), .val (.int ng), .val (.int ps), .val (.int (if aL = aE then (0 : Int32) else if aL = aN then (0 : Int32) else (1 : Int32))), .val (.ref saL), .val (.int (nar .char (nar .char (((62 : Int32) &&& (255 : Int32)).toUInt32.toUInt16.toUInt32.toInt32)))), .val (.int (1 : Int32)), .unset] [(.int ng), (.ref aL)])) rfl (by rw [hml]; rfl) (Steps.refl _) (argsL := [(.int ng)]) (rest := []) (lenOf pd__28I_29Z rfl) rfl (by show 2 * 0 + _ ≤ _; exact Nat.le_of_eq rfl) (hb hby at_142) (fun _ _ => ⟨rfl, e43, (by decide : 0 + 0 ≤ _), (by decide : 0 + 0 ≤ _)⟩)
          dsimp only [Pt.U, Pt.locs, Pt.cells, Pt.slots] at X44 l44 y44 z44 st44 hQ44
          subst l44 y44 z44
          obtain ⟨rfl, Nq44, e44⟩ := hQ44
          have N44 := Fr.app N43 Nq44
          obtain ⟨cq45, kq45, q45a, q45b, q45c⟩ := isOf hZ e44 E_AT_LEAST
          obtain ⟨_, _, ⟨T45, L45, c45_, n45_⟩, -, X45, ⟨Lc45, hQ45, l45, y45, z45⟩, st45⟩ := X44.virtualBack hx (y := (⟨"com/example/furlong/furlong/model/Condition$Operator", "holds", "(I)Z"⟩ : MethodName)) (z := (⟨"com/example/furlong/furlong/model/Condition$Operator", "holds", "(I)Z"⟩ : MethodName)) hown (mvT hZ (hw _ (List.mem_of_getElem? (i := 49) rfl))) (mvT hZ (hw _ (List.mem_of_getElem? (i := 50) rfl))) (notFace_of_selects (args := #[]) (mvT hZ (hw _ (List.mem_of_getElem? (i := 52) rfl)))) (mvT hZ (hw _ (List.mem_of_getElem? (i := 52) rfl))) (mvT hZ (hw _ (List.mem_of_getElem? (i := 51) rfl))) (by decide) (backOf (W := 1) (rm_9 l Z a0 hw [] aL ps (3 : Int32) h0 n0 (Nat.le_trans Z0 (Keep.refl h0 []).1) Fo_AT_LEAST E_AT_LEAST) hZ (hw _ (List.mem_of_getElem? (i := 53) rfl)) (hw _ (List.mem_of_getElem? (i := 2) rfl)) (by decide) (by decide)) q45a q45c (g := (mkF m 149 #[.val (.int p1), .val (.int p2), .val (.int p3), .val (.int kx), .val (.ref aL), .val (.int ng), .val (.int ps), .val (.int (if aL = aE then (0 : Int32) else if aL = aN then (0 : Int32) else (1 : Int32))), .val (.ref saL), .val (.int (nar .char (nar .char (((62 : Int32) &&& (255 : Int32)).toUInt32.toUInt16.toUInt32.toInt32)))), .val (.int (1 : Int32)), .unset] [(.int ps), (.ref aL), (.int (own_holds (3 : Int32) ng))])) rfl (by rw [hml]; rfl) (Steps.refl _) (argsL := [(.int ps)]) (rest := [(.int (own_holds (3 : Int32) ng))]) (lenOf pd__28I_29Z rfl) rfl (by show 2 * 0 + _ ≤ _; exact Nat.le_of_eq rfl) (hb hby at_149) (fun _ _ => ⟨rfl, e44, (by decide : 0 + 0 ≤ _), (by decide : 0 + 0 ≤ _)⟩)
          dsimp only [Pt.U, Pt.locs, Pt.cells, Pt.slots] at X45 l45 y45 z45 st45 hQ45
          subst l45 y45 z45
          obtain ⟨rfl, Nq45, e45⟩ := hQ45
          have N45 := Fr.app N44 Nq45
          have hc152 : ¬ ((own_holds (3 : Int32) ng) = (own_holds (3 : Int32) ps)) := (by simp [own_holds, hneg.1, hneg.2.1, hneg.2.2, hpos.1, hpos.2.1, hpos.2.2])
          have hc166 : (if aL = aE then (0 : Int32) else if aL = aN then (0 : Int32) else (1 : Int32)) = (1 : Int32) := (by simp [ne_EQUAL_NOT_EQUAL, ne_EQUAL_AT_MOST, ne_EQUAL_AT_LEAST, ne_EQUAL_BELOW, ne_EQUAL_ABOVE, ne_NOT_EQUAL_AT_MOST, ne_NOT_EQUAL_AT_LEAST, ne_NOT_EQUAL_BELOW, ne_NOT_EQUAL_ABOVE])
          have hc173 : (if aL = aE then (0 : Int32) else if aL = aN then (0 : Int32) else (1 : Int32)) = (1 : Int32) := (by simp [ne_EQUAL_NOT_EQUAL, ne_EQUAL_AT_MOST, ne_EQUAL_AT_LEAST, ne_EQUAL_BELOW, ne_EQUAL_ABOVE, ne_NOT_EQUAL_AT_MOST, ne_NOT_EQUAL_AT_LEAST, ne_NOT_EQUAL_BELOW, ne_NOT_EQUAL_ABOVE])
          obtain ⟨fs, hr, hrun, hended, hW, hsame⟩ := X45.leave (v := some (.int (1 : Int32))) (fun h => by rw [Bd.returns] at h; cases h)
          refine ⟨_, _, pre0 _ ?_, hrun, hended, _, _, rfl, ?_, ⟨_, rfl⟩, hW, hsame.mono (by decide) (by decide)⟩
          · show Steps p.tables e below (s₁.setTop (mkF m 0 #[.val (.int p1), .val (.int p2), .val (.int p3), .unset, .unset, .unset, .unset, .unset, .unset, .unset, .unset, .unset] [])) _
            refine XS.iloadN X0.here hx rfl (hb hby at_0) rfl ?_
            show Steps p.tables e below (s₁.setTop (mkF m 1 #[.val (.int p1), .val (.int p2), .val (.int p3), .unset, .unset, .unset, .unset, .unset, .unset, .unset, .unset, .unset] [(.int p1)])) _
            refine X0.ldcInt hx hown (mvT hZ (hw _ (List.mem_of_getElem? (i := 0) rfl))) (g := (mkF m 1 #[.val (.int p1), .val (.int p2), .val (.int p3), .unset, .unset, .unset, .unset, .unset, .unset, .unset, .unset, .unset] [(.int p1)])) rfl (hb hby at_1) _ ?_
            show Steps p.tables e below (s₁.setTop (mkF m 3 #[.val (.int p1), .val (.int p2), .val (.int p3), .unset, .unset, .unset, .unset, .unset, .unset, .unset, .unset, .unset] [(.int (2147483647 : Int32)), (.int p1)])) _
            refine XS.iand X0.here hx rfl (hb hby at_3) rfl ?_
            show Steps p.tables e below (s₁.setTop (mkF m 4 #[.val (.int p1), .val (.int p2), .val (.int p3), .unset, .unset, .unset, .unset, .unset, .unset, .unset, .unset, .unset] [(.int (p1 &&& (2147483647 : Int32)))])) _
            refine XS.bipush X0.here hx rfl (hb hby at_4) ?_
            show Steps p.tables e below (s₁.setTop (mkF m 6 #[.val (.int p1), .val (.int p2), .val (.int p3), .unset, .unset, .unset, .unset, .unset, .unset, .unset, .unset, .unset] [(.int (6 : Int32)), (.int (p1 &&& (2147483647 : Int32)))])) _
            refine iremM X0 hx rfl (hb hby at_6) rfl (by decide) ?_
            show Steps p.tables e below (s₁.setTop (mkF m 7 #[.val (.int p1), .val (.int p2), .val (.int p3), .unset, .unset, .unset, .unset, .unset, .unset, .unset, .unset, .unset] [(.int ((p1 &&& (2147483647 : Int32)) % (6 : Int32)))])) _
            refine XS.istoreN X0.here hx rfl (hb hby at_7) rfl (l' := #[.val (.int p1), .val (.int p2), .val (.int p3), .val (.int ((p1 &&& (2147483647 : Int32)) % (6 : Int32))), .unset, .unset, .unset, .unset, .unset, .unset, .unset, .unset]) rfl ?_
            show Steps p.tables e below (s₁.setTop (mkF m 8 #[.val (.int p1), .val (.int p2), .val (.int p3), .val (.int ((p1 &&& (2147483647 : Int32)) % (6 : Int32))), .unset, .unset, .unset, .unset, .unset, .unset, .unset, .unset] [])) _
            rw [← e_kx]
            show Steps p.tables e below (s₁.setTop (mkF m 8 #[.val (.int p1), .val (.int p2), .val (.int p3), .val (.int kx), .unset, .unset, .unset, .unset, .unset, .unset, .unset, .unset] [])) _
            refine XS.iloadN X0.here hx rfl (hb hby at_8) rfl ?_
            show Steps p.tables e below (s₁.setTop (mkF m 9 #[.val (.int p1), .val (.int p2), .val (.int p3), .val (.int kx), .unset, .unset, .unset, .unset, .unset, .unset, .unset, .unset] [(.int kx)])) _
            refine XS.ifYes X0.here hx rfl (pc0 := 9) (pc' := 20) rfl (hb hby at_9) rfl ((if0 _ _).trans (feq hc9).2) (by decide) (by decide) ?_
            show Steps p.tables e below (s₁.setTop (mkF m 20 #[.val (.int p1), .val (.int p2), .val (.int p3), .val (.int kx), .unset, .unset, .unset, .unset, .unset, .unset, .unset, .unset] [])) _
            refine XS.iloadN X0.here hx rfl (hb hby at_20) rfl ?_
            show Steps p.tables e below (s₁.setTop (mkF m 21 #[.val (.int p1), .val (.int p2), .val (.int p3), .val (.int kx), .unset, .unset, .unset, .unset, .unset, .unset, .unset, .unset] [(.int kx)])) _
            refine XS.iconst X0.here hx rfl (hb hby at_21) ?_
            show Steps p.tables e below (s₁.setTop (mkF m 22 #[.val (.int p1), .val (.int p2), .val (.int p3), .val (.int kx), .unset, .unset, .unset, .unset, .unset, .unset, .unset, .unset] [(.int (1 : Int32)), (.int kx)])) _
            refine XS.icmpYes X0.here hx rfl (pc0 := 22) (pc' := 33) rfl (hb hby at_22) rfl (feq hc22).2 (by decide) (by decide) ?_
            show Steps p.tables e below (s₁.setTop (mkF m 33 #[.val (.int p1), .val (.int p2), .val (.int p3), .val (.int kx), .unset, .unset, .unset, .unset, .unset, .unset, .unset, .unset] [])) _
            refine XS.iloadN X0.here hx rfl (hb hby at_33) rfl ?_
            show Steps p.tables e below (s₁.setTop (mkF m 34 #[.val (.int p1), .val (.int p2), .val (.int p3), .val (.int kx), .unset, .unset, .unset, .unset, .unset, .unset, .unset, .unset] [(.int kx)])) _
            refine XS.iconst X0.here hx rfl (hb hby at_34) ?_
            show Steps p.tables e below (s₁.setTop (mkF m 35 #[.val (.int p1), .val (.int p2), .val (.int p3), .val (.int kx), .unset, .unset, .unset, .unset, .unset, .unset, .unset, .unset] [(.int (2 : Int32)), (.int kx)])) _
            refine XS.icmpYes X0.here hx rfl (pc0 := 35) (pc' := 46) rfl (hb hby at_35) rfl (feq hc35).2 (by decide) (by decide) ?_
            show Steps p.tables e below (s₁.setTop (mkF m 46 #[.val (.int p1), .val (.int p2), .val (.int p3), .val (.int kx), .unset, .unset, .unset, .unset, .unset, .unset, .unset, .unset] [])) _
            refine XS.iloadN X0.here hx rfl (hb hby at_46) rfl ?_
            show Steps p.tables e below (s₁.setTop (mkF m 47 #[.val (.int p1), .val (.int p2), .val (.int p3), .val (.int kx), .unset, .unset, .unset, .unset, .unset, .unset, .unset, .unset] [(.int kx)])) _
            refine XS.iconst X0.here hx rfl (hb hby at_47) ?_
            show Steps p.tables e below (s₁.setTop (mkF m 48 #[.val (.int p1), .val (.int p2), .val (.int p3), .val (.int kx), .unset, .unset, .unset, .unset, .unset, .unset, .unset, .unset] [(.int (3 : Int32)), (.int kx)])) _
            refine XS.icmpNo X0.here hx rfl (hb hby at_48) rfl (teq hc48).2 ?_
            show Steps p.tables e below (s₁.setTop (mkF m 51 #[.val (.int p1), .val (.int p2), .val (.int p3), .val (.int kx), .unset, .unset, .unset, .unset, .unset, .unset, .unset, .unset] [])) _
            refine st39 _ ?_
            show Steps p.tables e below (T39.setTop (mkF m 54 #[.val (.int p1), .val (.int p2), .val (.int p3), .val (.int kx), .unset, .unset, .unset, .unset, .unset, .unset, .unset, .unset] [(.ref aL)])) _
            refine XS.astore X39.here hx rfl (hb hby at_54) rfl rfl (l' := #[.val (.int p1), .val (.int p2), .val (.int p3), .val (.int kx), .val (.ref aL), .unset, .unset, .unset, .unset, .unset, .unset, .unset]) rfl ?_
            show Steps p.tables e below (T39.setTop (mkF m 56 #[.val (.int p1), .val (.int p2), .val (.int p3), .val (.int kx), .val (.ref aL), .unset, .unset, .unset, .unset, .unset, .unset, .unset] [])) _
            refine XS.goto X39.here hx rfl (pc0 := 56) (pc' := 77) rfl (hb hby at_56) (by decide) (by decide) ?_
            show Steps p.tables e below (T39.setTop (mkF m 77 #[.val (.int p1), .val (.int p2), .val (.int p3), .val (.int kx), .val (.ref aL), .unset, .unset, .unset, .unset, .unset, .unset, .unset] [])) _
            refine XS.iconst X39.here hx rfl (hb hby at_77) ?_
            show Steps p.tables e below (T39.setTop (mkF m 78 #[.val (.int p1), .val (.int p2), .val (.int p3), .val (.int kx), .val (.ref aL), .unset, .unset, .unset, .unset, .unset, .unset, .unset] [(.int (-1 : Int32))])) _
            refine XS.iloadN X39.here hx rfl (hb hby at_78) rfl ?_
            show Steps p.tables e below (T39.setTop (mkF m 79 #[.val (.int p1), .val (.int p2), .val (.int p3), .val (.int kx), .val (.ref aL), .unset, .unset, .unset, .unset, .unset, .unset, .unset] [(.int p2), (.int (-1 : Int32))])) _
            refine X39.ldcInt hx hown (mvT hZ (hw _ (List.mem_of_getElem? (i := 0) rfl))) (g := (mkF m 79 #[.val (.int p1), .val (.int p2), .val (.int p3), .val (.int kx), .val (.ref aL), .unset, .unset, .unset, .unset, .unset, .unset, .unset] [(.int p2), (.int (-1 : Int32))])) rfl (hb hby at_79) _ ?_
            show Steps p.tables e below (T39.setTop (mkF m 81 #[.val (.int p1), .val (.int p2), .val (.int p3), .val (.int kx), .val (.ref aL), .unset, .unset, .unset, .unset, .unset, .unset, .unset] [(.int (2147483647 : Int32)), (.int p2), (.int (-1 : Int32))])) _
            refine XS.iand X39.here hx rfl (hb hby at_81) rfl ?_
            show Steps p.tables e below (T39.setTop (mkF m 82 #[.val (.int p1), .val (.int p2), .val (.int p3), .val (.int kx), .val (.ref aL), .unset, .unset, .unset, .unset, .unset, .unset, .unset] [(.int (p2 &&& (2147483647 : Int32))), (.int (-1 : Int32))])) _
            refine XS.isub X39.here hx rfl (hb hby at_82) rfl ?_
            show Steps p.tables e below (T39.setTop (mkF m 83 #[.val (.int p1), .val (.int p2), .val (.int p3), .val (.int kx), .val (.ref aL), .unset, .unset, .unset, .unset, .unset, .unset, .unset] [(.int ((-1 : Int32) - (p2 &&& (2147483647 : Int32))))])) _
            refine XS.istore X39.here hx rfl (hb hby at_83) rfl (l' := #[.val (.int p1), .val (.int p2), .val (.int p3), .val (.int kx), .val (.ref aL), .val (.int ((-1 : Int32) - (p2 &&& (2147483647 : Int32)))), .unset, .unset, .unset, .unset, .unset, .unset]) rfl ?_
            show Steps p.tables e below (T39.setTop (mkF m 85 #[.val (.int p1), .val (.int p2), .val (.int p3), .val (.int kx), .val (.ref aL), .val (.int ((-1 : Int32) - (p2 &&& (2147483647 : Int32)))), .unset, .unset, .unset, .unset, .unset, .unset] [])) _
            rw [← e_ng]
            show Steps p.tables e below (T39.setTop (mkF m 85 #[.val (.int p1), .val (.int p2), .val (.int p3), .val (.int kx), .val (.ref aL), .val (.int ng), .unset, .unset, .unset, .unset, .unset, .unset] [])) _
            refine XS.iconst X39.here hx rfl (hb hby at_85) ?_
            show Steps p.tables e below (T39.setTop (mkF m 86 #[.val (.int p1), .val (.int p2), .val (.int p3), .val (.int kx), .val (.ref aL), .val (.int ng), .unset, .unset, .unset, .unset, .unset, .unset] [(.int (1 : Int32))])) _
            refine XS.iloadN X39.here hx rfl (hb hby at_86) rfl ?_
            show Steps p.tables e below (T39.setTop (mkF m 87 #[.val (.int p1), .val (.int p2), .val (.int p3), .val (.int kx), .val (.ref aL), .val (.int ng), .unset, .unset, .unset, .unset, .unset, .unset] [(.int p3), (.int (1 : Int32))])) _
            refine X39.ldcInt hx hown (mvT hZ (hw _ (List.mem_of_getElem? (i := 0) rfl))) (g := (mkF m 87 #[.val (.int p1), .val (.int p2), .val (.int p3), .val (.int kx), .val (.ref aL), .val (.int ng), .unset, .unset, .unset, .unset, .unset, .unset] [(.int p3), (.int (1 : Int32))])) rfl (hb hby at_87) _ ?_
            show Steps p.tables e below (T39.setTop (mkF m 89 #[.val (.int p1), .val (.int p2), .val (.int p3), .val (.int kx), .val (.ref aL), .val (.int ng), .unset, .unset, .unset, .unset, .unset, .unset] [(.int (2147483647 : Int32)), (.int p3), (.int (1 : Int32))])) _
            refine XS.iand X39.here hx rfl (hb hby at_89) rfl ?_
            show Steps p.tables e below (T39.setTop (mkF m 90 #[.val (.int p1), .val (.int p2), .val (.int p3), .val (.int kx), .val (.ref aL), .val (.int ng), .unset, .unset, .unset, .unset, .unset, .unset] [(.int (p3 &&& (2147483647 : Int32))), (.int (1 : Int32))])) _
            refine st40 _ ?_
            show Steps p.tables e below (T40.setTop (mkF m 93 #[.val (.int p1), .val (.int p2), .val (.int p3), .val (.int kx), .val (.ref aL), .val (.int ng), .unset, .unset, .unset, .unset, .unset, .unset] [(.int (if (1 : Int32) < (p3 &&& (2147483647 : Int32)) then (p3 &&& (2147483647 : Int32)) else (1 : Int32)))])) _
            refine XS.istore X40.here hx rfl (hb hby at_93) rfl (l' := #[.val (.int p1), .val (.int p2), .val (.int p3), .val (.int kx), .val (.ref aL), .val (.int ng), .val (.int (if (1 : Int32) < (p3 &&& (2147483647 : Int32)) then (p3 &&& (2147483647 : Int32)) else (1 : Int32))), .unset, .unset, .unset, .unset, .unset]) rfl ?_
            show Steps p.tables e below (T40.setTop (mkF m 95 #[.val (.int p1), .val (.int p2), .val (.int p3), .val (.int kx), .val (.ref aL), .val (.int ng), .val (.int (if (1 : Int32) < (p3 &&& (2147483647 : Int32)) then (p3 &&& (2147483647 : Int32)) else (1 : Int32))), .unset, .unset, .unset, .unset, .unset] [])) _
            rw [← e_ps]
            show Steps p.tables e below (T40.setTop (mkF m 95 #[.val (.int p1), .val (.int p2), .val (.int p3), .val (.int kx), .val (.ref aL), .val (.int ng), .val (.int ps), .unset, .unset, .unset, .unset, .unset] [])) _
            refine XS.aload X40.here hx rfl (hb hby at_95) rfl rfl ?_
            show Steps p.tables e below (T40.setTop (mkF m 97 #[.val (.int p1), .val (.int p2), .val (.int p3), .val (.int kx), .val (.ref aL), .val (.int ng), .val (.int ps), .unset, .unset, .unset, .unset, .unset] [(.ref aL)])) _
            refine st41.trans ?_
            show Steps p.tables e below (T41.setTop (mkF m 100 #[.val (.int p1), .val (.int p2), .val (.int p3), .val (.int kx), .val (.ref aL), .val (.int ng), .val (.int ps), .unset, .unset, .unset, .unset, .unset] [(.int (if aL = aE then (0 : Int32) else if aL = aN then (0 : Int32) else (1 : Int32)))])) _
            refine XS.istore X41.here hx rfl (hb hby at_100) rfl (l' := #[.val (.int p1), .val (.int p2), .val (.int p3), .val (.int kx), .val (.ref aL), .val (.int ng), .val (.int ps), .val (.int (if aL = aE then (0 : Int32) else if aL = aN then (0 : Int32) else (1 : Int32))), .unset, .unset, .unset, .unset]) rfl ?_
            show Steps p.tables e below (T41.setTop (mkF m 102 #[.val (.int p1), .val (.int p2), .val (.int p3), .val (.int kx), .val (.ref aL), .val (.int ng), .val (.int ps), .val (.int (if aL = aE then (0 : Int32) else if aL = aN then (0 : Int32) else (1 : Int32))), .unset, .unset, .unset, .unset] [])) _
            refine XS.aload X41.here hx rfl (hb hby at_102) rfl rfl ?_
            show Steps p.tables e below (T41.setTop (mkF m 104 #[.val (.int p1), .val (.int p2), .val (.int p3), .val (.int kx), .val (.ref aL), .val (.int ng), .val (.int ps), .val (.int (if aL = aE then (0 : Int32) else if aL = aN then (0 : Int32) else (1 : Int32))), .unset, .unset, .unset, .unset] [(.ref aL)])) _
            refine st42.trans ?_
            show Steps p.tables e below (T42.setTop (mkF m 107 #[.val (.int p1), .val (.int p2), .val (.int p3), .val (.int kx), .val (.ref aL), .val (.int ng), .val (.int ps), .val (.int (if aL = aE then (0 : Int32) else if aL = aN then (0 : Int32) else (1 : Int32))), .unset, .unset, .unset, .unset] [(.ref saL)])) _
            refine XS.astore X42.here hx rfl (hb hby at_107) rfl rfl (l' := #[.val (.int p1), .val (.int p2), .val (.int p3), .val (.int kx), .val (.ref aL), .val (.int ng), .val (.int ps), .val (.int (if aL = aE then (0 : Int32) else if aL = aN then (0 : Int32) else (1 : Int32))), .val (.ref saL), .unset, .unset, .unset]) rfl ?_
            show Steps p.tables e below (T42.setTop (mkF m 109 #[.val (.int p1), .val (.int p2), .val (.int p3), .val (.int kx), .val (.ref aL), .val (.int ng), .val (.int ps), .val (.int (if aL = aE then (0 : Int32) else if aL = aN then (0 : Int32) else (1 : Int32))), .val (.ref saL), .unset, .unset, .unset] [])) _
            refine XS.aload X42.here hx rfl (hb hby at_109) rfl rfl ?_
            show Steps p.tables e below (T42.setTop (mkF m 111 #[.val (.int p1), .val (.int p2), .val (.int p3), .val (.int kx), .val (.ref aL), .val (.int ng), .val (.int ps), .val (.int (if aL = aE then (0 : Int32) else if aL = aN then (0 : Int32) else (1 : Int32))), .val (.ref saL), .unset, .unset, .unset] [(.ref saL)])) _
            refine XS.iconst X42.here hx rfl (hb hby at_111) ?_
            show Steps p.tables e below (T42.setTop (mkF m 112 #[.val (.int p1), .val (.int p2), .val (.int p3), .val (.int kx), .val (.ref aL), .val (.int ng), .val (.int ps), .val (.int (if aL = aE then (0 : Int32) else if aL = aN then (0 : Int32) else (1 : Int32))), .val (.ref saL), .unset, .unset, .unset] [(.int (0 : Int32)), (.ref saL)])) _
            refine st43.trans ?_
            show Steps p.tables e below (T43.setTop (mkF m 115 #[.val (.int p1), .val (.int p2), .val (.int p3), .val (.int kx), .val (.ref aL), .val (.int ng), .val (.int ps), .val (.int (if aL = aE then (0 : Int32) else if aL = aN then (0 : Int32) else (1 : Int32))), .val (.ref saL), .unset, .unset, .unset] [(.int (nar .char (nar .char (((62 : Int32) &&& (255 : Int32)).toUInt32.toUInt16.toUInt32.toInt32))))])) _
            refine XS.istore X43.here hx rfl (hb hby at_115) rfl (l' := #[.val (.int p1), .val (.int p2), .val (.int p3), .val (.int kx), .val (.ref aL), .val (.int ng), .val (.int ps), .val (.int (if aL = aE then (0 : Int32) else if aL = aN then (0 : Int32) else (1 : Int32))), .val (.ref saL), .val (.int (nar .char (nar .char (((62 : Int32) &&& (255 : Int32)).toUInt32.toUInt16.toUInt32.toInt32)))), .unset, .unset]) rfl ?_
            show Steps p.tables e below (T43.setTop (mkF m 117 #[.val (.int p1), .val (.int p2), .val (.int p3), .val (.int kx), .val (.ref aL), .val (.int ng), .val (.int ps), .val (.int (if aL = aE then (0 : Int32) else if aL = aN then (0 : Int32) else (1 : Int32))), .val (.ref saL), .val (.int (nar .char (nar .char (((62 : Int32) &&& (255 : Int32)).toUInt32.toUInt16.toUInt32.toInt32)))), .unset, .unset] [])) _
            refine XS.iload X43.here hx rfl (hb hby at_117) rfl ?_
            show Steps p.tables e below (T43.setTop (mkF m 119 #[.val (.int p1), .val (.int p2), .val (.int p3), .val (.int kx), .val (.ref aL), .val (.int ng), .val (.int ps), .val (.int (if aL = aE then (0 : Int32) else if aL = aN then (0 : Int32) else (1 : Int32))), .val (.ref saL), .val (.int (nar .char (nar .char (((62 : Int32) &&& (255 : Int32)).toUInt32.toUInt16.toUInt32.toInt32)))), .unset, .unset] [(.int (nar .char (nar .char (((62 : Int32) &&& (255 : Int32)).toUInt32.toUInt16.toUInt32.toInt32))))])) _
            refine XS.bipush X43.here hx rfl (hb hby at_119) ?_
            show Steps p.tables e below (T43.setTop (mkF m 121 #[.val (.int p1), .val (.int p2), .val (.int p3), .val (.int kx), .val (.ref aL), .val (.int ng), .val (.int ps), .val (.int (if aL = aE then (0 : Int32) else if aL = aN then (0 : Int32) else (1 : Int32))), .val (.ref saL), .val (.int (nar .char (nar .char (((62 : Int32) &&& (255 : Int32)).toUInt32.toUInt16.toUInt32.toInt32)))), .unset, .unset] [(.int (60 : Int32)), (.int (nar .char (nar .char (((62 : Int32) &&& (255 : Int32)).toUInt32.toUInt16.toUInt32.toInt32))))])) _
            refine XS.icmpNo X43.here hx rfl (hb hby at_121) rfl (feq hc121).1 ?_
            show Steps p.tables e below (T43.setTop (mkF m 124 #[.val (.int p1), .val (.int p2), .val (.int p3), .val (.int kx), .val (.ref aL), .val (.int ng), .val (.int ps), .val (.int (if aL = aE then (0 : Int32) else if aL = aN then (0 : Int32) else (1 : Int32))), .val (.ref saL), .val (.int (nar .char (nar .char (((62 : Int32) &&& (255 : Int32)).toUInt32.toUInt16.toUInt32.toInt32)))), .unset, .unset] [])) _
            refine XS.iload X43.here hx rfl (hb hby at_124) rfl ?_
            show Steps p.tables e below (T43.setTop (mkF m 126 #[.val (.int p1), .val (.int p2), .val (.int p3), .val (.int kx), .val (.ref aL), .val (.int ng), .val (.int ps), .val (.int (if aL = aE then (0 : Int32) else if aL = aN then (0 : Int32) else (1 : Int32))), .val (.ref saL), .val (.int (nar .char (nar .char (((62 : Int32) &&& (255 : Int32)).toUInt32.toUInt16.toUInt32.toInt32)))), .unset, .unset] [(.int (nar .char (nar .char (((62 : Int32) &&& (255 : Int32)).toUInt32.toUInt16.toUInt32.toInt32))))])) _
            refine XS.bipush X43.here hx rfl (hb hby at_126) ?_
            show Steps p.tables e below (T43.setTop (mkF m 128 #[.val (.int p1), .val (.int p2), .val (.int p3), .val (.int kx), .val (.ref aL), .val (.int ng), .val (.int ps), .val (.int (if aL = aE then (0 : Int32) else if aL = aN then (0 : Int32) else (1 : Int32))), .val (.ref saL), .val (.int (nar .char (nar .char (((62 : Int32) &&& (255 : Int32)).toUInt32.toUInt16.toUInt32.toInt32)))), .unset, .unset] [(.int (62 : Int32)), (.int (nar .char (nar .char (((62 : Int32) &&& (255 : Int32)).toUInt32.toUInt16.toUInt32.toInt32))))])) _
            refine XS.icmpNo X43.here hx rfl (hb hby at_128) rfl (teq hc128).2 ?_
            show Steps p.tables e below (T43.setTop (mkF m 131 #[.val (.int p1), .val (.int p2), .val (.int p3), .val (.int kx), .val (.ref aL), .val (.int ng), .val (.int ps), .val (.int (if aL = aE then (0 : Int32) else if aL = aN then (0 : Int32) else (1 : Int32))), .val (.ref saL), .val (.int (nar .char (nar .char (((62 : Int32) &&& (255 : Int32)).toUInt32.toUInt16.toUInt32.toInt32)))), .unset, .unset] [])) _
            refine XS.iconst X43.here hx rfl (hb hby at_131) ?_
            show Steps p.tables e below (T43.setTop (mkF m 132 #[.val (.int p1), .val (.int p2), .val (.int p3), .val (.int kx), .val (.ref aL), .val (.int ng), .val (.int ps), .val (.int (if aL = aE then (0 : Int32) else if aL = aN then (0 : Int32) else (1 : Int32))), .val (.ref saL), .val (.int (nar .char (nar .char (((62 : Int32) &&& (255 : Int32)).toUInt32.toUInt16.toUInt32.toInt32)))), .unset, .unset] [(.int (1 : Int32))])) _
            refine XS.goto X43.here hx rfl (pc0 := 132) (pc' := 136) rfl (hb hby at_132) (by decide) (by decide) ?_
            show Steps p.tables e below (T43.setTop (mkF m 136 #[.val (.int p1), .val (.int p2), .val (.int p3), .val (.int kx), .val (.ref aL), .val (.int ng), .val (.int ps), .val (.int (if aL = aE then (0 : Int32) else if aL = aN then (0 : Int32) else (1 : Int32))), .val (.ref saL), .val (.int (nar .char (nar .char (((62 : Int32) &&& (255 : Int32)).toUInt32.toUInt16.toUInt32.toInt32)))), .unset, .unset] [(.int (1 : Int32))])) _
            refine XS.istore X43.here hx rfl (hb hby at_136) rfl (l' := #[.val (.int p1), .val (.int p2), .val (.int p3), .val (.int kx), .val (.ref aL), .val (.int ng), .val (.int ps), .val (.int (if aL = aE then (0 : Int32) else if aL = aN then (0 : Int32) else (1 : Int32))), .val (.ref saL), .val (.int (nar .char (nar .char (((62 : Int32) &&& (255 : Int32)).toUInt32.toUInt16.toUInt32.toInt32)))), .val (.int (1 : Int32)), .unset]) rfl ?_
            show Steps p.tables e below (T43.setTop (mkF m 138 #[.val (.int p1), .val (.int p2), .val (.int p3), .val (.int kx), .val (.ref aL), .val (.int ng), .val (.int ps), .val (.int (if aL = aE then (0 : Int32) else if aL = aN then (0 : Int32) else (1 : Int32))), .val (.ref saL), .val (.int (nar .char (nar .char (((62 : Int32) &&& (255 : Int32)).toUInt32.toUInt16.toUInt32.toInt32)))), .val (.int (1 : Int32)), .unset] [])) _
            refine XS.aload X43.here hx rfl (hb hby at_138) rfl rfl ?_
            show Steps p.tables e below (T43.setTop (mkF m 140 #[.val (.int p1), .val (.int p2), .val (.int p3), .val (.int kx), .val (.ref aL), .val (.int ng), .val (.int ps), .val (.int (if aL = aE then (0 : Int32) else if aL = aN then (0 : Int32) else (1 : Int32))), .val (.ref saL), .val (.int (nar .char (nar .char (((62 : Int32) &&& (255 : Int32)).toUInt32.toUInt16.toUInt32.toInt32)))), .val (.int (1 : Int32)), .unset] [(.ref aL)])) _
            refine XS.iload X43.here hx rfl (hb hby at_140) rfl ?_
            show Steps p.tables e below (T43.setTop (mkF m 142 #[.val (.int p1), .val (.int p2), .val (.int p3), .val (.int kx), .val (.ref aL), .val (.int ng), .val (.int ps), .val (.int (if aL = aE then (0 : Int32) else if aL = aN then (0 : Int32) else (1 : Int32))), .val (.ref saL), .val (.int (nar .char (nar .char (((62 : Int32) &&& (255 : Int32)).toUInt32.toUInt16.toUInt32.toInt32)))), .val (.int (1 : Int32)), .unset] [(.int ng), (.ref aL)])) _
            refine st44.trans ?_
            show Steps p.tables e below (T44.setTop (mkF m 145 #[.val (.int p1), .val (.int p2), .val (.int p3), .val (.int kx), .val (.ref aL), .val (.int ng), .val (.int ps), .val (.int (if aL = aE then (0 : Int32) else if aL = aN then (0 : Int32) else (1 : Int32))), .val (.ref saL), .val (.int (nar .char (nar .char (((62 : Int32) &&& (255 : Int32)).toUInt32.toUInt16.toUInt32.toInt32)))), .val (.int (1 : Int32)), .unset] [(.int (own_holds (3 : Int32) ng))])) _
            refine XS.aload X44.here hx rfl (hb hby at_145) rfl rfl ?_
            show Steps p.tables e below (T44.setTop (mkF m 147 #[.val (.int p1), .val (.int p2), .val (.int p3), .val (.int kx), .val (.ref aL), .val (.int ng), .val (.int ps), .val (.int (if aL = aE then (0 : Int32) else if aL = aN then (0 : Int32) else (1 : Int32))), .val (.ref saL), .val (.int (nar .char (nar .char (((62 : Int32) &&& (255 : Int32)).toUInt32.toUInt16.toUInt32.toInt32)))), .val (.int (1 : Int32)), .unset] [(.ref aL), (.int (own_holds (3 : Int32) ng))])) _
            refine XS.iload X44.here hx rfl (hb hby at_147) rfl ?_
            show Steps p.tables e below (T44.setTop (mkF m 149 #[.val (.int p1), .val (.int p2), .val (.int p3), .val (.int kx), .val (.ref aL), .val (.int ng), .val (.int ps), .val (.int (if aL = aE then (0 : Int32) else if aL = aN then (0 : Int32) else (1 : Int32))), .val (.ref saL), .val (.int (nar .char (nar .char (((62 : Int32) &&& (255 : Int32)).toUInt32.toUInt16.toUInt32.toInt32)))), .val (.int (1 : Int32)), .unset] [(.int ps), (.ref aL), (.int (own_holds (3 : Int32) ng))])) _
            refine st45.trans ?_
            show Steps p.tables e below (T45.setTop (mkF m 152 #[.val (.int p1), .val (.int p2), .val (.int p3), .val (.int kx), .val (.ref aL), .val (.int ng), .val (.int ps), .val (.int (if aL = aE then (0 : Int32) else if aL = aN then (0 : Int32) else (1 : Int32))), .val (.ref saL), .val (.int (nar .char (nar .char (((62 : Int32) &&& (255 : Int32)).toUInt32.toUInt16.toUInt32.toInt32)))), .val (.int (1 : Int32)), .unset] [(.int (own_holds (3 : Int32) ps)), (.int (own_holds (3 : Int32) ng))])) _
            refine XS.icmpNo X45.here hx rfl (hb hby at_152) rfl (feq hc152).1 ?_
            show Steps p.tables e below (T45.setTop (mkF m 155 #[.val (.int p1), .val (.int p2), .val (.int p3), .val (.int kx), .val (.ref aL), .val (.int ng), .val (.int ps), .val (.int (if aL = aE then (0 : Int32) else if aL = aN then (0 : Int32) else (1 : Int32))), .val (.ref saL), .val (.int (nar .char (nar .char (((62 : Int32) &&& (255 : Int32)).toUInt32.toUInt16.toUInt32.toInt32)))), .val (.int (1 : Int32)), .unset] [])) _
            refine XS.iconst X45.here hx rfl (hb hby at_155) ?_
            show Steps p.tables e below (T45.setTop (mkF m 156 #[.val (.int p1), .val (.int p2), .val (.int p3), .val (.int kx), .val (.ref aL), .val (.int ng), .val (.int ps), .val (.int (if aL = aE then (0 : Int32) else if aL = aN then (0 : Int32) else (1 : Int32))), .val (.ref saL), .val (.int (nar .char (nar .char (((62 : Int32) &&& (255 : Int32)).toUInt32.toUInt16.toUInt32.toInt32)))), .val (.int (1 : Int32)), .unset] [(.int (1 : Int32))])) _
            refine XS.goto X45.here hx rfl (pc0 := 156) (pc' := 160) rfl (hb hby at_156) (by decide) (by decide) ?_
            show Steps p.tables e below (T45.setTop (mkF m 160 #[.val (.int p1), .val (.int p2), .val (.int p3), .val (.int kx), .val (.ref aL), .val (.int ng), .val (.int ps), .val (.int (if aL = aE then (0 : Int32) else if aL = aN then (0 : Int32) else (1 : Int32))), .val (.ref saL), .val (.int (nar .char (nar .char (((62 : Int32) &&& (255 : Int32)).toUInt32.toUInt16.toUInt32.toInt32)))), .val (.int (1 : Int32)), .unset] [(.int (1 : Int32))])) _
            refine XS.istore X45.here hx rfl (hb hby at_160) rfl (l' := #[.val (.int p1), .val (.int p2), .val (.int p3), .val (.int kx), .val (.ref aL), .val (.int ng), .val (.int ps), .val (.int (if aL = aE then (0 : Int32) else if aL = aN then (0 : Int32) else (1 : Int32))), .val (.ref saL), .val (.int (nar .char (nar .char (((62 : Int32) &&& (255 : Int32)).toUInt32.toUInt16.toUInt32.toInt32)))), .val (.int (1 : Int32)), .val (.int (1 : Int32))]) rfl ?_
            show Steps p.tables e below (T45.setTop (mkF m 162 #[.val (.int p1), .val (.int p2), .val (.int p3), .val (.int kx), .val (.ref aL), .val (.int ng), .val (.int ps), .val (.int (if aL = aE then (0 : Int32) else if aL = aN then (0 : Int32) else (1 : Int32))), .val (.ref saL), .val (.int (nar .char (nar .char (((62 : Int32) &&& (255 : Int32)).toUInt32.toUInt16.toUInt32.toInt32)))), .val (.int (1 : Int32)), .val (.int (1 : Int32))] [])) _
            refine XS.iload X45.here hx rfl (hb hby at_162) rfl ?_
            show Steps p.tables e below (T45.setTop (mkF m 164 #[.val (.int p1), .val (.int p2), .val (.int p3), .val (.int kx), .val (.ref aL), .val (.int ng), .val (.int ps), .val (.int (if aL = aE then (0 : Int32) else if aL = aN then (0 : Int32) else (1 : Int32))), .val (.ref saL), .val (.int (nar .char (nar .char (((62 : Int32) &&& (255 : Int32)).toUInt32.toUInt16.toUInt32.toInt32)))), .val (.int (1 : Int32)), .val (.int (1 : Int32))] [(.int (if aL = aE then (0 : Int32) else if aL = aN then (0 : Int32) else (1 : Int32)))])) _
            refine XS.iload X45.here hx rfl (hb hby at_164) rfl ?_
            show Steps p.tables e below (T45.setTop (mkF m 166 #[.val (.int p1), .val (.int p2), .val (.int p3), .val (.int kx), .val (.ref aL), .val (.int ng), .val (.int ps), .val (.int (if aL = aE then (0 : Int32) else if aL = aN then (0 : Int32) else (1 : Int32))), .val (.ref saL), .val (.int (nar .char (nar .char (((62 : Int32) &&& (255 : Int32)).toUInt32.toUInt16.toUInt32.toInt32)))), .val (.int (1 : Int32)), .val (.int (1 : Int32))] [(.int (1 : Int32)), (.int (if aL = aE then (0 : Int32) else if aL = aN then (0 : Int32) else (1 : Int32)))])) _
            refine XS.icmpNo X45.here hx rfl (hb hby at_166) rfl (teq hc166).2 ?_
            show Steps p.tables e below (T45.setTop (mkF m 169 #[.val (.int p1), .val (.int p2), .val (.int p3), .val (.int kx), .val (.ref aL), .val (.int ng), .val (.int ps), .val (.int (if aL = aE then (0 : Int32) else if aL = aN then (0 : Int32) else (1 : Int32))), .val (.ref saL), .val (.int (nar .char (nar .char (((62 : Int32) &&& (255 : Int32)).toUInt32.toUInt16.toUInt32.toInt32)))), .val (.int (1 : Int32)), .val (.int (1 : Int32))] [])) _
            refine XS.iload X45.here hx rfl (hb hby at_169) rfl ?_
            show Steps p.tables e below (T45.setTop (mkF m 171 #[.val (.int p1), .val (.int p2), .val (.int p3), .val (.int kx), .val (.ref aL), .val (.int ng), .val (.int ps), .val (.int (if aL = aE then (0 : Int32) else if aL = aN then (0 : Int32) else (1 : Int32))), .val (.ref saL), .val (.int (nar .char (nar .char (((62 : Int32) &&& (255 : Int32)).toUInt32.toUInt16.toUInt32.toInt32)))), .val (.int (1 : Int32)), .val (.int (1 : Int32))] [(.int (if aL = aE then (0 : Int32) else if aL = aN then (0 : Int32) else (1 : Int32)))])) _
            refine XS.iload X45.here hx rfl (hb hby at_171) rfl ?_
            show Steps p.tables e below (T45.setTop (mkF m 173 #[.val (.int p1), .val (.int p2), .val (.int p3), .val (.int kx), .val (.ref aL), .val (.int ng), .val (.int ps), .val (.int (if aL = aE then (0 : Int32) else if aL = aN then (0 : Int32) else (1 : Int32))), .val (.ref saL), .val (.int (nar .char (nar .char (((62 : Int32) &&& (255 : Int32)).toUInt32.toUInt16.toUInt32.toInt32)))), .val (.int (1 : Int32)), .val (.int (1 : Int32))] [(.int (1 : Int32)), (.int (if aL = aE then (0 : Int32) else if aL = aN then (0 : Int32) else (1 : Int32)))])) _
            refine XS.icmpNo X45.here hx rfl (hb hby at_173) rfl (teq hc173).2 ?_
            show Steps p.tables e below (T45.setTop (mkF m 176 #[.val (.int p1), .val (.int p2), .val (.int p3), .val (.int kx), .val (.ref aL), .val (.int ng), .val (.int ps), .val (.int (if aL = aE then (0 : Int32) else if aL = aN then (0 : Int32) else (1 : Int32))), .val (.ref saL), .val (.int (nar .char (nar .char (((62 : Int32) &&& (255 : Int32)).toUInt32.toUInt16.toUInt32.toInt32)))), .val (.int (1 : Int32)), .val (.int (1 : Int32))] [])) _
            refine XS.iconst X45.here hx rfl (hb hby at_176) ?_
            show Steps p.tables e below (T45.setTop (mkF m 177 #[.val (.int p1), .val (.int p2), .val (.int p3), .val (.int kx), .val (.ref aL), .val (.int ng), .val (.int ps), .val (.int (if aL = aE then (0 : Int32) else if aL = aN then (0 : Int32) else (1 : Int32))), .val (.ref saL), .val (.int (nar .char (nar .char (((62 : Int32) &&& (255 : Int32)).toUInt32.toUInt16.toUInt32.toInt32)))), .val (.int (1 : Int32)), .val (.int (1 : Int32))] [(.int (1 : Int32))])) _
            refine XS.goto X45.here hx rfl (pc0 := 177) (pc' := 181) rfl (hb hby at_177) (by decide) (by decide) ?_
            show Steps p.tables e below (T45.setTop (mkF m 181 #[.val (.int p1), .val (.int p2), .val (.int p3), .val (.int kx), .val (.ref aL), .val (.int ng), .val (.int ps), .val (.int (if aL = aE then (0 : Int32) else if aL = aN then (0 : Int32) else (1 : Int32))), .val (.ref saL), .val (.int (nar .char (nar .char (((62 : Int32) &&& (255 : Int32)).toUInt32.toUInt16.toUInt32.toInt32)))), .val (.int (1 : Int32)), .val (.int (1 : Int32))] [(.int (1 : Int32))])) _
            exact retN X45 hx (t := .boolean) Bd.returns (by simp) (hb hby at_181) hr
          · show Q_0 Z p1 p2 p3 h0 n0 _ T45.heap _
            rw [e45]
            exact ⟨rfl, N45⟩
        · by_cases hc61 : kx = (4 : Int32)
          · obtain ⟨T46, X46, e46, st46⟩ := getS2 X0 hx hZ hown (host := "") (Or.inl (hw _ (List.mem_of_getElem? (i := 72) rfl))) Via.refl e0 S_BELOW (g := (mkF m 64 #[.val (.int p1), .val (.int p2), .val (.int p3), .val (.int kx), .unset, .unset, .unset, .unset, .unset, .unset, .unset, .unset] [])) rfl (hb hby at_64)
            obtain ⟨ng, e_ng⟩ : ∃ z : Int32, z = ((-1 : Int32) - (p2 &&& (2147483647 : Int32))) := ⟨_, rfl⟩
            have hng : ng < 0 := e_ng ▸ own_neg p2
            have hneg : ng < 0 ∧ ¬ ng = 0 ∧ ¬ 0 < ng := by
              rcases own_tri ng with u | u | u
              · exact u
              · exact absurd hng u.2.1
              · exact absurd hng u.2.1
            obtain ⟨_, _, ⟨T47, L47, c47_, n47_⟩, -, X47, ⟨Lc47, hQ47, l47, y47, z47⟩, st47⟩ := Jvm.LawKit.callS X46 hx (y := (⟨"java/lang/Math", "max", "(II)I"⟩ : MethodName)) hown (mvT hZ (hw _ (List.mem_of_getElem? (i := 4) rfl))) (mvT hZ (hw _ (List.mem_of_getElem? (i := 5) rfl))) (mvT hZ (hw _ (List.mem_of_getElem? (i := 6) rfl))) (mvT hZ (hw _ (List.mem_of_getElem? (i := 7) rfl))) (by decide) (backOf (W := 0) (rm_1 l Z a0 hw [] (1 : Int32) (p3 &&& (2147483647 : Int32)) h0 n0 (Nat.le_trans Z0 (Keep.refl h0 []).1) ) hZ (hw _ (List.mem_of_getElem? (i := 7) rfl)) (hw _ (List.mem_of_getElem? (i := 6) rfl)) (by decide) (by decide)) (g := (mkF m 90 #[.val (.int p1), .val (.int p2), .val (.int p3), .val (.int kx), .val (.ref aB), .val (.int ng), .unset, .unset, .unset, .unset, .unset, .unset] [(.int (p3 &&& (2147483647 : Int32))), (.int (1 : Int32))])) rfl (by rw [hml]; rfl) (argsL := [(.int (1 : Int32)), (.int (p3 &&& (2147483647 : Int32)))]) (rest := []) (lenOf pd__28II_29I rfl) rfl (by show 2 * 0 + _ ≤ _; exact Nat.le_of_eq rfl) (hb hby at_90) (fun _ _ => ⟨rfl, e46, (by decide : 0 + 0 ≤ _), (by decide : 0 + 0 ≤ _)⟩)
            dsimp only [Pt.U, Pt.locs, Pt.cells, Pt.slots] at X47 l47 y47 z47 st47 hQ47
            subst l47 y47 z47
            obtain ⟨rfl, Nq47, e47⟩ := hQ47
            have N47 := Fr.app N0 Nq47
            obtain ⟨ps, e_ps⟩ : ∃ z : Int32, z = (if (1 : Int32) < (p3 &&& (2147483647 : Int32)) then (p3 &&& (2147483647 : Int32)) else (1 : Int32)) := ⟨_, rfl⟩
            have hps : 0 < ps := e_ps ▸ own_pos _
            have hpos : 0 < ps ∧ ¬ ps < 0 ∧ ¬ ps = 0 := by
              rcases own_tri ps with u | u | u
              · exact absurd hps u.2.2
              · exact absurd hps u.2.2
              · exact u
            obtain ⟨cq48, kq48, q48a, q48b, q48c⟩ := isOf hZ e47 E_BELOW
            obtain ⟨_, _, ⟨T48, L48, c48_, n48_⟩, -, X48, ⟨Lc48, hQ48, l48, y48, z48⟩, st48⟩ := X47.virtualBack hx (y := (⟨"com/example/furlong/furlong/model/Condition$Operator", "isOrder", "()Z"⟩ : MethodName)) (z := (⟨"com/example/furlong/furlong/model/Condition$Operator", "isOrder", "()Z"⟩ : MethodName)) hown (mvT hZ (hw _ (List.mem_of_getElem? (i := 8) rfl))) (mvT hZ (hw _ (List.mem_of_getElem? (i := 9) rfl))) (notFace_of_selects (args := #[]) (mvT hZ (hw _ (List.mem_of_getElem? (i := 11) rfl)))) (mvT hZ (hw _ (List.mem_of_getElem? (i := 11) rfl))) (mvT hZ (hw _ (List.mem_of_getElem? (i := 10) rfl))) (by decide) (backOf (W := 0) (rm_2 l Z a0 hw [] aB aE aN h0 n0 (Nat.le_trans Z0 (Keep.refl h0 []).1) S_EQUAL S_NOT_EQUAL) hZ (hw _ (List.mem_of_getElem? (i := 12) rfl)) (hw _ (List.mem_of_getElem? (i := 2) rfl)) (by decide) (by decide)) q48a q48c (g := (mkF m 97 #[.val (.int p1), .val (.int p2), .val (.int p3), .val (.int kx), .val (.ref aB), .val (.int ng), .val (.int ps), .unset, .unset, .unset, .unset, .unset] [(.ref aB)])) rfl (by rw [hml]; rfl) (Steps.refl _) (argsL := []) (rest := []) (lenOf pd__28_29Z rfl) rfl (by show 2 * 0 + _ ≤ _; exact Nat.le_of_eq rfl) (hb hby at_97) (fun _ _ => ⟨rfl, e47, (by decide : 0 + 0 ≤ _), (by decide : 0 + 0 ≤ _)⟩)
            dsimp only [Pt.U, Pt.locs, Pt.cells, Pt.slots] at X48 l48 y48 z48 st48 hQ48
            subst l48 y48 z48
            obtain ⟨rfl, Nq48, e48⟩ := hQ48
            have N48 := Fr.app N47 Nq48
            obtain ⟨cq49, kq49, q49a, q49b, q49c⟩ := isOf hZ e48 E_BELOW
            obtain ⟨_, _, ⟨T49, L49, c49_, n49_⟩, -, X49, ⟨Lc49, hQ49, l49, y49, z49⟩, st49⟩ := X48.virtualBack hx (y := (⟨"com/example/furlong/furlong/model/Condition$Operator", "symbol", "()Ljava/lang/String;"⟩ : MethodName)) (z := (⟨"com/example/furlong/furlong/model/Condition$Operator", "symbol", "()Ljava/lang/String;"⟩ : MethodName)) hown (mvT hZ (hw _ (List.mem_of_getElem? (i := 14) rfl))) (mvT hZ (hw _ (List.mem_of_getElem? (i := 15) rfl))) (notFace_of_selects (args := #[]) (mvT hZ (hw _ (List.mem_of_getElem? (i := 17) rfl)))) (mvT hZ (hw _ (List.mem_of_getElem? (i := 17) rfl))) (mvT hZ (hw _ (List.mem_of_getElem? (i := 16) rfl))) (by decide) (backOf (W := 0) (rm_3 l Z a0 hw [] aB saB h0 n0 (Nat.le_trans Z0 (Keep.refl h0 []).1) Fs_BELOW) hZ (hw _ (List.mem_of_getElem? (i := 18) rfl)) (hw _ (List.mem_of_getElem? (i := 2) rfl)) (by decide) (by decide)) q49a q49c (g := (mkF m 104 #[.val (.int p1), .val (.int p2), .val (.int p3), .val (.int kx), .val (.ref aB), .val (.int ng), .val (.int ps), .val (.int (if aB = aE then (0 : Int32) else if aB = aN then (0 : Int32) else (1 : Int32))), .unset, .unset, .unset, .unset] [(.ref aB)])) rfl (by rw [hml]; rfl) (Steps.refl _) (argsL := []) (rest := []) (lenOf pd__28_29Ljava_2flang_2fString_3b rfl) rfl (by show 2 * 0 + _ ≤ _; exact Nat.le_of_eq rfl) (hb hby at_104) (fun _ _ => ⟨rfl, e48, (by decide : 0 + 0 ≤ _), (by decide : 0 + 0 ≤ _)⟩)
            dsimp only [Pt.U, Pt.locs, Pt.cells, Pt.slots] at X49 l49 y49 z49 st49 hQ49
            subst l49 y49 z49
            obtain ⟨rfl, Nq49, e49⟩ := hQ49
            have N49 := Fr.app N48 Nq49
            obtain ⟨cq50, kq50, q50a, q50b, q50c⟩ := isOf hZ e49 Es_BELOW
            obtain ⟨_, _, ⟨T50, L50, c50_, n50_⟩, -, X50, ⟨Lc50, hQ50, l50, y50, z50⟩, st50⟩ := X49.virtualBack hx (y := (⟨"java/lang/String", "charAt", "(I)C"⟩ : MethodName)) (z := (⟨"java/lang/String", "charAt", "(I)C"⟩ : MethodName)) hown (mvT hZ (hw _ (List.mem_of_getElem? (i := 21) rfl))) (mvT hZ (hw _ (List.mem_of_getElem? (i := 22) rfl))) (notFace_of_selects (args := #[]) (mvT hZ (hw _ (List.mem_of_getElem? (i := 24) rfl)))) (mvT hZ (hw _ (List.mem_of_getElem? (i := 24) rfl))) (mvT hZ (hw _ (List.mem_of_getElem? (i := 23) rfl))) (by decide) (backOf (W := 0) (rm_ch l Z a0 hw [] saB (0 : Int32) (60 : Int32) taB kaB (1 : Int32) [Value.int (60 : Int32)] fm zc h0 n0 (Nat.le_trans Z0 (Keep.refl h0 []).1) Va_BELOW (by decide) (by decide) rfl rf S_F S_C hz Fc_BELOW Fv_BELOW Es_BELOW) hZ (hw _ (List.mem_of_getElem? (i := 26) rfl)) (hw _ (List.mem_of_getElem? (i := 25) rfl)) (by decide) (by decide)) q50a q50c (g := (mkF m 112 #[.val (.int p1), .val (.int p2), .val (.int p3), .val (.int kx), .val (.ref aB), .val (.int ng), .val (.int ps), .val (.int (if aB = aE then (0 : Int32) else if aB = aN then (0 : Int32) else (1 : Int32))), .val (.ref saB), .unset, .unset, .unset] [(.int (0 : Int32)), (.ref saB)])) rfl (by rw [hml]; rfl) (Steps.refl _) (argsL := [(.int (0 : Int32))]) (rest := []) (lenOf pd__28I_29C rfl) rfl (by show 2 * 0 + _ ≤ _; exact Nat.le_of_eq rfl) (hb hby at_112) (fun _ _ => ⟨rfl, e49, (by decide : 0 + 0 ≤ _), (by decide : 0 + 0 ≤ _)⟩)
            dsimp only [Pt.U, Pt.locs, Pt.cells, Pt.slots] at X50 l50 y50 z50 st50 hQ50
            subst l50 y50 z50
            obtain ⟨rfl, Nq50, e50⟩ := hQ50
            have N50 := Fr.app N49 Nq50
            have hc121 : (nar .char (nar .char (((60 : Int32) &&& (255 : Int32)).toUInt32.toUInt16.toUInt32.toInt32))) = (60 : Int32) := by decide
            obtain ⟨cq51, kq51, q51a, q51b, q51c⟩ := isOf hZ e50 E_BELOW
            obtain ⟨_, _, ⟨T51, L51, c51_, n51_⟩, -, X51, ⟨Lc51, hQ51, l51, y51, z51⟩, st51⟩ := X50.virtualBack hx (y := (⟨"com/example/furlong/furlong/model/Condition$Operator", "holds", "(I)Z"⟩ : MethodName)) (z := (⟨"com/example/furlong/furlong/model/Condition$Operator", "holds", "(I)Z"⟩ : MethodName)) hown (mvT hZ (hw _ (List.mem_of_getElem? (i := 49) rfl))) (mvT hZ (hw _ (List.mem_of_getElem? (i := 50) rfl))) (notFace_of_selects (args := #[]) (mvT hZ (hw _ (List.mem_of_getElem? (i := 52) rfl)))) (mvT hZ (hw _ (List.mem_of_getElem? (i := 52) rfl))) (mvT hZ (hw _ (List.mem_of_getElem? (i := 51) rfl))) (by decide) (backOf (W := 0) (rm_9 l Z a0 hw [] aB ng (4 : Int32) h0 n0 (Nat.le_trans Z0 (Keep.refl h0 []).1) Fo_BELOW E_BELOW) hZ (hw _ (List.mem_of_getElem? (i := 53) rfl)) (hw _ (List.mem_of_getElem? (i := 2) rfl)) (by decide) (by decide)) q51a q51c (g := (mkF m 142 #[.val (.int p1), .val (.int p2), .val (.int p3), .val (.int kx), .val (.ref aB), .val (.int ng), .val (.int ps), .val (.int (if aB = aE then (0 : Int32) else if aB = aN then (0 : Int32) else (1 : Int32))), .val (.ref saB), .val (.int (nar .char (nar .char (((60 : Int32) &&& (255 : Int32)).toUInt32.toUInt16.toUInt32.toInt32)))), .val (.int (1 : Int32)), .unset] [(.int ng), (.ref aB)])) rfl (by rw [hml]; rfl) (Steps.refl _) (argsL := [(.int ng)]) (rest := []) (lenOf pd__28I_29Z rfl) rfl (by show 2 * 0 + _ ≤ _; exact Nat.le_of_eq rfl) (hb hby at_142) (fun _ _ => ⟨rfl, e50, (by decide : 0 + 0 ≤ _), (by decide : 0 + 0 ≤ _)⟩)
            dsimp only [Pt.U, Pt.locs, Pt.cells, Pt.slots] at X51 l51 y51 z51 st51 hQ51
            subst l51 y51 z51
            obtain ⟨rfl, Nq51, e51⟩ := hQ51
            have N51 := Fr.app N50 Nq51
            obtain ⟨cq52, kq52, q52a, q52b, q52c⟩ := isOf hZ e51 E_BELOW
            obtain ⟨_, _, ⟨T52, L52, c52_, n52_⟩, -, X52, ⟨Lc52, hQ52, l52, y52, z52⟩, st52⟩ := X51.virtualBack hx (y := (⟨"com/example/furlong/furlong/model/Condition$Operator", "holds", "(I)Z"⟩ : MethodName)) (z := (⟨"com/example/furlong/furlong/model/Condition$Operator", "holds", "(I)Z"⟩ : MethodName)) hown (mvT hZ (hw _ (List.mem_of_getElem? (i := 49) rfl))) (mvT hZ (hw _ (List.mem_of_getElem? (i := 50) rfl))) (notFace_of_selects (args := #[]) (mvT hZ (hw _ (List.mem_of_getElem? (i := 52) rfl)))) (mvT hZ (hw _ (List.mem_of_getElem? (i := 52) rfl))) (mvT hZ (hw _ (List.mem_of_getElem? (i := 51) rfl))) (by decide) (backOf (W := 1) (rm_9 l Z a0 hw [] aB ps (4 : Int32) h0 n0 (Nat.le_trans Z0 (Keep.refl h0 []).1) Fo_BELOW E_BELOW) hZ (hw _ (List.mem_of_getElem? (i := 53) rfl)) (hw _ (List.mem_of_getElem? (i := 2) rfl)) (by decide) (by decide)) q52a q52c (g := (mkF m 149 #[.val (.int p1), .val (.int p2), .val (.int p3), .val (.int kx), .val (.ref aB), .val (.int ng), .val (.int ps), .val (.int (if aB = aE then (0 : Int32) else if aB = aN then (0 : Int32) else (1 : Int32))), .val (.ref saB), .val (.int (nar .char (nar .char (((60 : Int32) &&& (255 : Int32)).toUInt32.toUInt16.toUInt32.toInt32)))), .val (.int (1 : Int32)), .unset] [(.int ps), (.ref aB), (.int (own_holds (4 : Int32) ng))])) rfl (by rw [hml]; rfl) (Steps.refl _) (argsL := [(.int ps)]) (rest := [(.int (own_holds (4 : Int32) ng))]) (lenOf pd__28I_29Z rfl) rfl (by show 2 * 0 + _ ≤ _; exact Nat.le_of_eq rfl) (hb hby at_149) (fun _ _ => ⟨rfl, e51, (by decide : 0 + 0 ≤ _), (by decide : 0 + 0 ≤ _)⟩)
            dsimp only [Pt.U, Pt.locs, Pt.cells, Pt.slots] at X52 l52 y52 z52 st52 hQ52
            subst l52 y52 z52
            obtain ⟨rfl, Nq52, e52⟩ := hQ52
            have N52 := Fr.app N51 Nq52
            have hc152 : ¬ ((own_holds (4 : Int32) ng) = (own_holds (4 : Int32) ps)) := (by simp [own_holds, hneg.1, hneg.2.1, hneg.2.2, hpos.1, hpos.2.1, hpos.2.2])
            have hc166 : (if aB = aE then (0 : Int32) else if aB = aN then (0 : Int32) else (1 : Int32)) = (1 : Int32) := (by simp [ne_EQUAL_NOT_EQUAL, ne_EQUAL_AT_MOST, ne_EQUAL_AT_LEAST, ne_EQUAL_BELOW, ne_EQUAL_ABOVE, ne_NOT_EQUAL_AT_MOST, ne_NOT_EQUAL_AT_LEAST, ne_NOT_EQUAL_BELOW, ne_NOT_EQUAL_ABOVE])
            have hc173 : (if aB = aE then (0 : Int32) else if aB = aN then (0 : Int32) else (1 : Int32)) = (1 : Int32) := (by simp [ne_EQUAL_NOT_EQUAL, ne_EQUAL_AT_MOST, ne_EQUAL_AT_LEAST, ne_EQUAL_BELOW, ne_EQUAL_ABOVE, ne_NOT_EQUAL_AT_MOST, ne_NOT_EQUAL_AT_LEAST, ne_NOT_EQUAL_BELOW, ne_NOT_EQUAL_ABOVE])
            obtain ⟨fs, hr, hrun, hended, hW, hsame⟩ := X52.leave (v := some (.int (1 : Int32))) (fun h => by rw [Bd.returns] at h; cases h)
            refine ⟨_, _, pre0 _ ?_, hrun, hended, _, _, rfl, ?_, ⟨_, rfl⟩, hW, hsame.mono (by decide) (by decide)⟩
            · show Steps p.tables e below (s₁.setTop (mkF m 0 #[.val (.int p1), .val (.int p2), .val (.int p3), .unset, .unset, .unset, .unset, .unset, .unset, .unset, .unset, .unset] [])) _
              refine XS.iloadN X0.here hx rfl (hb hby at_0) rfl ?_
              show Steps p.tables e below (s₁.setTop (mkF m 1 #[.val (.int p1), .val (.int p2), .val (.int p3), .unset, .unset, .unset, .unset, .unset, .unset, .unset, .unset, .unset] [(.int p1)])) _
              refine X0.ldcInt hx hown (mvT hZ (hw _ (List.mem_of_getElem? (i := 0) rfl))) (g := (mkF m 1 #[.val (.int p1), .val (.int p2), .val (.int p3), .unset, .unset, .unset, .unset, .unset, .unset, .unset, .unset, .unset] [(.int p1)])) rfl (hb hby at_1) _ ?_
              show Steps p.tables e below (s₁.setTop (mkF m 3 #[.val (.int p1), .val (.int p2), .val (.int p3), .unset, .unset, .unset, .unset, .unset, .unset, .unset, .unset, .unset] [(.int (2147483647 : Int32)), (.int p1)])) _
              refine XS.iand X0.here hx rfl (hb hby at_3) rfl ?_
              show Steps p.tables e below (s₁.setTop (mkF m 4 #[.val (.int p1), .val (.int p2), .val (.int p3), .unset, .unset, .unset, .unset, .unset, .unset, .unset, .unset, .unset] [(.int (p1 &&& (2147483647 : Int32)))])) _
              refine XS.bipush X0.here hx rfl (hb hby at_4) ?_
              show Steps p.tables e below (s₁.setTop (mkF m 6 #[.val (.int p1), .val (.int p2), .val (.int p3), .unset, .unset, .unset, .unset, .unset, .unset, .unset, .unset, .unset] [(.int (6 : Int32)), (.int (p1 &&& (2147483647 : Int32)))])) _
              refine iremM X0 hx rfl (hb hby at_6) rfl (by decide) ?_
              show Steps p.tables e below (s₁.setTop (mkF m 7 #[.val (.int p1), .val (.int p2), .val (.int p3), .unset, .unset, .unset, .unset, .unset, .unset, .unset, .unset, .unset] [(.int ((p1 &&& (2147483647 : Int32)) % (6 : Int32)))])) _
              refine XS.istoreN X0.here hx rfl (hb hby at_7) rfl (l' := #[.val (.int p1), .val (.int p2), .val (.int p3), .val (.int ((p1 &&& (2147483647 : Int32)) % (6 : Int32))), .unset, .unset, .unset, .unset, .unset, .unset, .unset, .unset]) rfl ?_
              show Steps p.tables e below (s₁.setTop (mkF m 8 #[.val (.int p1), .val (.int p2), .val (.int p3), .val (.int ((p1 &&& (2147483647 : Int32)) % (6 : Int32))), .unset, .unset, .unset, .unset, .unset, .unset, .unset, .unset] [])) _
              rw [← e_kx]
              show Steps p.tables e below (s₁.setTop (mkF m 8 #[.val (.int p1), .val (.int p2), .val (.int p3), .val (.int kx), .unset, .unset, .unset, .unset, .unset, .unset, .unset, .unset] [])) _
              refine XS.iloadN X0.here hx rfl (hb hby at_8) rfl ?_
              show Steps p.tables e below (s₁.setTop (mkF m 9 #[.val (.int p1), .val (.int p2), .val (.int p3), .val (.int kx), .unset, .unset, .unset, .unset, .unset, .unset, .unset, .unset] [(.int kx)])) _
              refine XS.ifYes X0.here hx rfl (pc0 := 9) (pc' := 20) rfl (hb hby at_9) rfl ((if0 _ _).trans (feq hc9).2) (by decide) (by decide) ?_
              show Steps p.tables e below (s₁.setTop (mkF m 20 #[.val (.int p1), .val (.int p2), .val (.int p3), .val (.int kx), .unset, .unset, .unset, .unset, .unset, .unset, .unset, .unset] [])) _
              refine XS.iloadN X0.here hx rfl (hb hby at_20) rfl ?_
              show Steps p.tables e below (s₁.setTop (mkF m 21 #[.val (.int p1), .val (.int p2), .val (.int p3), .val (.int kx), .unset, .unset, .unset, .unset, .unset, .unset, .unset, .unset] [(.int kx)])) _
              refine XS.iconst X0.here hx rfl (hb hby at_21) ?_
              show Steps p.tables e below (s₁.setTop (mkF m 22 #[.val (.int p1), .val (.int p2), .val (.int p3), .val (.int kx), .unset, .unset, .unset, .unset, .unset, .unset, .unset, .unset] [(.int (1 : Int32)), (.int kx)])) _
              refine XS.icmpYes X0.here hx rfl (pc0 := 22) (pc' := 33) rfl (hb hby at_22) rfl (feq hc22).2 (by decide) (by decide) ?_
              show Steps p.tables e below (s₁.setTop (mkF m 33 #[.val (.int p1), .val (.int p2), .val (.int p3), .val (.int kx), .unset, .unset, .unset, .unset, .unset, .unset, .unset, .unset] [])) _
              refine XS.iloadN X0.here hx rfl (hb hby at_33) rfl ?_
              show Steps p.tables e below (s₁.setTop (mkF m 34 #[.val (.int p1), .val (.int p2), .val (.int p3), .val (.int kx), .unset, .unset, .unset, .unset, .unset, .unset, .unset, .unset] [(.int kx)])) _
              refine XS.iconst X0.here hx rfl (hb hby at_34) ?_
              show Steps p.tables e below (s₁.setTop (mkF m 35 #[.val (.int p1), .val (.int p2), .val (.int p3), .val (.int kx), .unset, .unset, .unset, .unset, .unset, .unset, .unset, .unset] [(.int (2 : Int32)), (.int kx)])) _
              refine XS.icmpYes X0.here hx rfl (pc0 := 35) (pc' := 46) rfl (hb hby at_35) rfl (feq hc35).2 (by decide) (by decide) ?_
              show Steps p.tables e below (s₁.setTop (mkF m 46 #[.val (.int p1), .val (.int p2), .val (.int p3), .val (.int kx), .unset, .unset, .unset, .unset, .unset, .unset, .unset, .unset] [])) _
              refine XS.iloadN X0.here hx rfl (hb hby at_46) rfl ?_
              show Steps p.tables e below (s₁.setTop (mkF m 47 #[.val (.int p1), .val (.int p2), .val (.int p3), .val (.int kx), .unset, .unset, .unset, .unset, .unset, .unset, .unset, .unset] [(.int kx)])) _
              refine XS.iconst X0.here hx rfl (hb hby at_47) ?_
              show Steps p.tables e below (s₁.setTop (mkF m 48 #[.val (.int p1), .val (.int p2), .val (.int p3), .val (.int kx), .unset, .unset, .unset, .unset, .unset, .unset, .unset, .unset] [(.int (3 : Int32)), (.int kx)])) _
              refine XS.icmpYes X0.here hx rfl (pc0 := 48) (pc' := 59) rfl (hb hby at_48) rfl (feq hc48).2 (by decide) (by decide) ?_
              show Steps p.tables e below (s₁.setTop (mkF m 59 #[.val (.int p1), .val (.int p2), .val (.int p3), .val (.int kx), .unset, .unset, .unset, .unset, .unset, .unset, .unset, .unset] [])) _
              refine XS.iloadN X0.here hx rfl (hb hby at_59) rfl ?_
              show Steps p.tables e below (s₁.setTop (mkF m 60 #[.val (.int p1), .val (.int p2), .val (.int p3), .val (.int kx), .unset, .unset, .unset, .unset, .unset, .unset, .unset, .unset] [(.int kx)])) _
              refine XS.iconst X0.here hx rfl (hb hby at_60) ?_
              show Steps p.tables e below (s₁.setTop (mkF m 61 #[.val (.int p1), .val (.int p2), .val (.int p3), .val (.int kx), .unset, .unset, .unset, .unset, .unset, .unset, .unset, .unset] [(.int (4 : Int32)), (.int kx)])) _
              refine XS.icmpNo X0.here hx rfl (hb hby at_61) rfl (teq hc61).2 ?_
              show Steps p.tables e below (s₁.setTop (mkF m 64 #[.val (.int p1), .val (.int p2), .val (.int p3), .val (.int kx), .unset, .unset, .unset, .unset, .unset, .unset, .unset, .unset] [])) _
              refine st46 _ ?_
              show Steps p.tables e below (T46.setTop (mkF m 67 #[.val (.int p1), .val (.int p2), .val (.int p3), .val (.int kx), .unset, .unset, .unset, .unset, .unset, .unset, .unset, .unset] [(.ref aB)])) _
              refine XS.astore X46.here hx rfl (hb hby at_67) rfl rfl (l' := #[.val (.int p1), .val (.int p2), .val (.int p3), .val (.int kx), .val (.ref aB), .unset, .unset, .unset, .unset, .unset, .unset, .unset]) rfl ?_
              show Steps p.tables e below (T46.setTop (mkF m 69 #[.val (.int p1), .val (.int p2), .val (.int p3), .val (.int kx), .val (.ref aB), .unset, .unset, .unset, .unset, .unset, .unset, .unset] [])) _
              refine XS.goto X46.here hx rfl (pc0 := 69) (pc' := 77) rfl (hb hby at_69) (by decide) (by decide) ?_
              show Steps p.tables e below (T46.setTop (mkF m 77 #[.val (.int p1), .val (.int p2), .val (.int p3), .val (.int kx), .val (.ref aB), .unset, .unset, .unset, .unset, .unset, .unset, .unset] [])) _
              refine XS.iconst X46.here hx rfl (hb hby at_77) ?_
              show Steps p.tables e below (T46.setTop (mkF m 78 #[.val (.int p1), .val (.int p2), .val (.int p3), .val (.int kx), .val (.ref aB), .unset, .unset, .unset, .unset, .unset, .unset, .unset] [(.int (-1 : Int32))])) _
              refine XS.iloadN X46.here hx rfl (hb hby at_78) rfl ?_
              show Steps p.tables e below (T46.setTop (mkF m 79 #[.val (.int p1), .val (.int p2), .val (.int p3), .val (.int kx), .val (.ref aB), .unset, .unset, .unset, .unset, .unset, .unset, .unset] [(.int p2), (.int (-1 : Int32))])) _
              refine X46.ldcInt hx hown (mvT hZ (hw _ (List.mem_of_getElem? (i := 0) rfl))) (g := (mkF m 79 #[.val (.int p1), .val (.int p2), .val (.int p3), .val (.int kx), .val (.ref aB), .unset, .unset, .unset, .unset, .unset, .unset, .unset] [(.int p2), (.int (-1 : Int32))])) rfl (hb hby at_79) _ ?_
              show Steps p.tables e below (T46.setTop (mkF m 81 #[.val (.int p1), .val (.int p2), .val (.int p3), .val (.int kx), .val (.ref aB), .unset, .unset, .unset, .unset, .unset, .unset, .unset] [(.int (2147483647 : Int32)), (.int p2), (.int (-1 : Int32))])) _
              refine XS.iand X46.here hx rfl (hb hby at_81) rfl ?_
              show Steps p.tables e below (T46.setTop (mkF m 82 #[.val (.int p1), .val (.int p2), .val (.int p3), .val (.int kx), .val (.ref aB), .unset, .unset, .unset, .unset, .unset, .unset, .unset] [(.int (p2 &&& (2147483647 : Int32))), (.int (-1 : Int32))])) _
              refine XS.isub X46.here hx rfl (hb hby at_82) rfl ?_
              show Steps p.tables e below (T46.setTop (mkF m 83 #[.val (.int p1), .val (.int p2), .val (.int p3), .val (.int kx), .val (.ref aB), .unset, .unset, .unset, .unset, .unset, .unset, .unset] [(.int ((-1 : Int32) - (p2 &&& (2147483647 : Int32))))])) _
              refine XS.istore X46.here hx rfl (hb hby at_83) rfl (l' := #[.val (.int p1), .val (.int p2), .val (.int p3), .val (.int kx), .val (.ref aB), .val (.int ((-1 : Int32) - (p2 &&& (2147483647 : Int32)))), .unset, .unset, .unset, .unset, .unset, .unset]) rfl ?_
              show Steps p.tables e below (T46.setTop (mkF m 85 #[.val (.int p1), .val (.int p2), .val (.int p3), .val (.int kx), .val (.ref aB), .val (.int ((-1 : Int32) - (p2 &&& (2147483647 : Int32)))), .unset, .unset, .unset, .unset, .unset, .unset] [])) _
              rw [← e_ng]
              show Steps p.tables e below (T46.setTop (mkF m 85 #[.val (.int p1), .val (.int p2), .val (.int p3), .val (.int kx), .val (.ref aB), .val (.int ng), .unset, .unset, .unset, .unset, .unset, .unset] [])) _
              refine XS.iconst X46.here hx rfl (hb hby at_85) ?_
              show Steps p.tables e below (T46.setTop (mkF m 86 #[.val (.int p1), .val (.int p2), .val (.int p3), .val (.int kx), .val (.ref aB), .val (.int ng), .unset, .unset, .unset, .unset, .unset, .unset] [(.int (1 : Int32))])) _
              refine XS.iloadN X46.here hx rfl (hb hby at_86) rfl ?_
              show Steps p.tables e below (T46.setTop (mkF m 87 #[.val (.int p1), .val (.int p2), .val (.int p3), .val (.int kx), .val (.ref aB), .val (.int ng), .unset, .unset, .unset, .unset, .unset, .unset] [(.int p3), (.int (1 : Int32))])) _
              refine X46.ldcInt hx hown (mvT hZ (hw _ (List.mem_of_getElem? (i := 0) rfl))) (g := (mkF m 87 #[.val (.int p1), .val (.int p2), .val (.int p3), .val (.int kx), .val (.ref aB), .val (.int ng), .unset, .unset, .unset, .unset, .unset, .unset] [(.int p3), (.int (1 : Int32))])) rfl (hb hby at_87) _ ?_
              show Steps p.tables e below (T46.setTop (mkF m 89 #[.val (.int p1), .val (.int p2), .val (.int p3), .val (.int kx), .val (.ref aB), .val (.int ng), .unset, .unset, .unset, .unset, .unset, .unset] [(.int (2147483647 : Int32)), (.int p3), (.int (1 : Int32))])) _
              refine XS.iand X46.here hx rfl (hb hby at_89) rfl ?_
              show Steps p.tables e below (T46.setTop (mkF m 90 #[.val (.int p1), .val (.int p2), .val (.int p3), .val (.int kx), .val (.ref aB), .val (.int ng), .unset, .unset, .unset, .unset, .unset, .unset] [(.int (p3 &&& (2147483647 : Int32))), (.int (1 : Int32))])) _
              refine st47 _ ?_
              show Steps p.tables e below (T47.setTop (mkF m 93 #[.val (.int p1), .val (.int p2), .val (.int p3), .val (.int kx), .val (.ref aB), .val (.int ng), .unset, .unset, .unset, .unset, .unset, .unset] [(.int (if (1 : Int32) < (p3 &&& (2147483647 : Int32)) then (p3 &&& (2147483647 : Int32)) else (1 : Int32)))])) _
              refine XS.istore X47.here hx rfl (hb hby at_93) rfl (l' := #[.val (.int p1), .val (.int p2), .val (.int p3), .val (.int kx), .val (.ref aB), .val (.int ng), .val (.int (if (1 : Int32) < (p3 &&& (2147483647 : Int32)) then (p3 &&& (2147483647 : Int32)) else (1 : Int32))), .unset, .unset, .unset, .unset, .unset]) rfl ?_
              show Steps p.tables e below (T47.setTop (mkF m 95 #[.val (.int p1), .val (.int p2), .val (.int p3), .val (.int kx), .val (.ref aB), .val (.int ng), .val (.int (if (1 : Int32) < (p3 &&& (2147483647 : Int32)) then (p3 &&& (2147483647 : Int32)) else (1 : Int32))), .unset, .unset, .unset, .unset, .unset] [])) _
              rw [← e_ps]
              show Steps p.tables e below (T47.setTop (mkF m 95 #[.val (.int p1), .val (.int p2), .val (.int p3), .val (.int kx), .val (.ref aB), .val (.int ng), .val (.int ps), .unset, .unset, .unset, .unset, .unset] [])) _
              refine XS.aload X47.here hx rfl (hb hby at_95) rfl rfl ?_
              show Steps p.tables e below (T47.setTop (mkF m 97 #[.val (.int p1), .val (.int p2), .val (.int p3), .val (.int kx), .val (.ref aB), .val (.int ng), .val (.int ps), .unset, .unset, .unset, .unset, .unset] [(.ref aB)])) _
              refine st48.trans ?_
              show Steps p.tables e below (T48.setTop (mkF m 100 #[.val (.int p1), .val (.int p2), .val (.int p3), .val (.int kx), .val (.ref aB), .val (.int ng), .val (.int ps), .unset, .unset, .unset, .unset, .unset] [(.int (if aB = aE then (0 : Int32) else if aB = aN then (0 : Int32) else (1 : Int32)))])) _
              refine XS.istore X48.here hx rfl (hb hby at_100) rfl (l' := #[.val (.int p1), .val (.int p2), .val (.int p3), .val (.int kx), .val (.ref aB), .val (.int ng), .val (.int ps), .val (.int (if aB = aE then (0 : Int32) else if aB = aN then (0 : Int32) else (1 : Int32))), .unset, .unset, .unset, .unset]) rfl ?_
              show Steps p.tables e below (T48.setTop (mkF m 102 #[.val (.int p1), .val (.int p2), .val (.int p3), .val (.int kx), .val (.ref aB), .val (.int ng), .val (.int ps), .val (.int (if aB = aE then (0 : Int32) else if aB = aN then (0 : Int32) else (1 : Int32))), .unset, .unset, .unset, .unset] [])) _
              refine XS.aload X48.here hx rfl (hb hby at_102) rfl rfl ?_
              show Steps p.tables e below (T48.setTop (mkF m 104 #[.val (.int p1), .val (.int p2), .val (.int p3), .val (.int kx), .val (.ref aB), .val (.int ng), .val (.int ps), .val (.int (if aB = aE then (0 : Int32) else if aB = aN then (0 : Int32) else (1 : Int32))), .unset, .unset, .unset, .unset] [(.ref aB)])) _
              refine st49.trans ?_
              show Steps p.tables e below (T49.setTop (mkF m 107 #[.val (.int p1), .val (.int p2), .val (.int p3), .val (.int kx), .val (.ref aB), .val (.int ng), .val (.int ps), .val (.int (if aB = aE then (0 : Int32) else if aB = aN then (0 : Int32) else (1 : Int32))), .unset, .unset, .unset, .unset] [(.ref saB)])) _
              refine XS.astore X49.here hx rfl (hb hby at_107) rfl rfl (l' := #[.val (.int p1), .val (.int p2), .val (.int p3), .val (.int kx), .val (.ref aB), .val (.int ng), .val (.int ps), .val (.int (if aB = aE then (0 : Int32) else if aB = aN then (0 : Int32) else (1 : Int32))), .val (.ref saB), .unset, .unset, .unset]) rfl ?_
              show Steps p.tables e below (T49.setTop (mkF m 109 #[.val (.int p1), .val (.int p2), .val (.int p3), .val (.int kx), .val (.ref aB), .val (.int ng), .val (.int ps), .val (.int (if aB = aE then (0 : Int32) else if aB = aN then (0 : Int32) else (1 : Int32))), .val (.ref saB), .unset, .unset, .unset] [])) _
              refine XS.aload X49.here hx rfl (hb hby at_109) rfl rfl ?_
              show Steps p.tables e below (T49.setTop (mkF m 111 #[.val (.int p1), .val (.int p2), .val (.int p3), .val (.int kx), .val (.ref aB), .val (.int ng), .val (.int ps), .val (.int (if aB = aE then (0 : Int32) else if aB = aN then (0 : Int32) else (1 : Int32))), .val (.ref saB), .unset, .unset, .unset] [(.ref saB)])) _
              refine XS.iconst X49.here hx rfl (hb hby at_111) ?_
              show Steps p.tables e below (T49.setTop (mkF m 112 #[.val (.int p1), .val (.int p2), .val (.int p3), .val (.int kx), .val (.ref aB), .val (.int ng), .val (.int ps), .val (.int (if aB = aE then (0 : Int32) else if aB = aN then (0 : Int32) else (1 : Int32))), .val (.ref saB), .unset, .unset, .unset] [(.int (0 : Int32)), (.ref saB)])) _
              refine st50.trans ?_
              show Steps p.tables e below (T50.setTop (mkF m 115 #[.val (.int p1), .val (.int p2), .val (.int p3), .val (.int kx), .val (.ref aB), .val (.int ng), .val (.int ps), .val (.int (if aB = aE then (0 : Int32) else if aB = aN then (0 : Int32) else (1 : Int32))), .val (.ref saB), .unset, .unset, .unset] [(.int (nar .char (nar .char (((60 : Int32) &&& (255 : Int32)).toUInt32.toUInt16.toUInt32.toInt32))))])) _
              refine XS.istore X50.here hx rfl (hb hby at_115) rfl (l' := #[.val (.int p1), .val (.int p2), .val (.int p3), .val (.int kx), .val (.ref aB), .val (.int ng), .val (.int ps), .val (.int (if aB = aE then (0 : Int32) else if aB = aN then (0 : Int32) else (1 : Int32))), .val (.ref saB), .val (.int (nar .char (nar .char (((60 : Int32) &&& (255 : Int32)).toUInt32.toUInt16.toUInt32.toInt32)))), .unset, .unset]) rfl ?_
              show Steps p.tables e below (T50.setTop (mkF m 117 #[.val (.int p1), .val (.int p2), .val (.int p3), .val (.int kx), .val (.ref aB), .val (.int ng), .val (.int ps), .val (.int (if aB = aE then (0 : Int32) else if aB = aN then (0 : Int32) else (1 : Int32))), .val (.ref saB), .val (.int (nar .char (nar .char (((60 : Int32) &&& (255 : Int32)).toUInt32.toUInt16.toUInt32.toInt32)))), .unset, .unset] [])) _
              refine XS.iload X50.here hx rfl (hb hby at_117) rfl ?_
              show Steps p.tables e below (T50.setTop (mkF m 119 #[.val (.int p1), .val (.int p2), .val (.int p3), .val (.int kx), .val (.ref aB), .val (.int ng), .val (.int ps), .val (.int (if aB = aE then (0 : Int32) else if aB = aN then (0 : Int32) else (1 : Int32))), .val (.ref saB), .val (.int (nar .char (nar .char (((60 : Int32) &&& (255 : Int32)).toUInt32.toUInt16.toUInt32.toInt32)))), .unset, .unset] [(.int (nar .char (nar .char (((60 : Int32) &&& (255 : Int32)).toUInt32.toUInt16.toUInt32.toInt32))))])) _
              refine XS.bipush X50.here hx rfl (hb hby at_119) ?_
              show Steps p.tables e below (T50.setTop (mkF m 121 #[.val (.int p1), .val (.int p2), .val (.int p3), .val (.int kx), .val (.ref aB), .val (.int ng), .val (.int ps), .val (.int (if aB = aE then (0 : Int32) else if aB = aN then (0 : Int32) else (1 : Int32))), .val (.ref saB), .val (.int (nar .char (nar .char (((60 : Int32) &&& (255 : Int32)).toUInt32.toUInt16.toUInt32.toInt32)))), .unset, .unset] [(.int (60 : Int32)), (.int (nar .char (nar .char (((60 : Int32) &&& (255 : Int32)).toUInt32.toUInt16.toUInt32.toInt32))))])) _
              refine XS.icmpYes X50.here hx rfl (pc0 := 121) (pc' := 131) rfl (hb hby at_121) rfl (teq hc121).1 (by decide) (by decide) ?_
              show Steps p.tables e below (T50.setTop (mkF m 131 #[.val (.int p1), .val (.int p2), .val (.int p3), .val (.int kx), .val (.ref aB), .val (.int ng), .val (.int ps), .val (.int (if aB = aE then (0 : Int32) else if aB = aN then (0 : Int32) else (1 : Int32))), .val (.ref saB), .val (.int (nar .char (nar .char (((60 : Int32) &&& (255 : Int32)).toUInt32.toUInt16.toUInt32.toInt32)))), .unset, .unset] [])) _
              refine XS.iconst X50.here hx rfl (hb hby at_131) ?_
              show Steps p.tables e below (T50.setTop (mkF m 132 #[.val (.int p1), .val (.int p2), .val (.int p3), .val (.int kx), .val (.ref aB), .val (.int ng), .val (.int ps), .val (.int (if aB = aE then (0 : Int32) else if aB = aN then (0 : Int32) else (1 : Int32))), .val (.ref saB), .val (.int (nar .char (nar .char (((60 : Int32) &&& (255 : Int32)).toUInt32.toUInt16.toUInt32.toInt32)))), .unset, .unset] [(.int (1 : Int32))])) _
              refine XS.goto X50.here hx rfl (pc0 := 132) (pc' := 136) rfl (hb hby at_132) (by decide) (by decide) ?_
              show Steps p.tables e below (T50.setTop (mkF m 136 #[.val (.int p1), .val (.int p2), .val (.int p3), .val (.int kx), .val (.ref aB), .val (.int ng), .val (.int ps), .val (.int (if aB = aE then (0 : Int32) else if aB = aN then (0 : Int32) else (1 : Int32))), .val (.ref saB), .val (.int (nar .char (nar .char (((60 : Int32) &&& (255 : Int32)).toUInt32.toUInt16.toUInt32.toInt32)))), .unset, .unset] [(.int (1 : Int32))])) _
              refine XS.istore X50.here hx rfl (hb hby at_136) rfl (l' := #[.val (.int p1), .val (.int p2), .val (.int p3), .val (.int kx), .val (.ref aB), .val (.int ng), .val (.int ps), .val (.int (if aB = aE then (0 : Int32) else if aB = aN then (0 : Int32) else (1 : Int32))), .val (.ref saB), .val (.int (nar .char (nar .char (((60 : Int32) &&& (255 : Int32)).toUInt32.toUInt16.toUInt32.toInt32)))), .val (.int (1 : Int32)), .unset]) rfl ?_
              show Steps p.tables e below (T50.setTop (mkF m 138 #[.val (.int p1), .val (.int p2), .val (.int p3), .val (.int kx), .val (.ref aB), .val (.int ng), .val (.int ps), .val (.int (if aB = aE then (0 : Int32) else if aB = aN then (0 : Int32) else (1 : Int32))), .val (.ref saB), .val (.int (nar .char (nar .char (((60 : Int32) &&& (255 : Int32)).toUInt32.toUInt16.toUInt32.toInt32)))), .val (.int (1 : Int32)), .unset] [])) _
              refine XS.aload X50.here hx rfl (hb hby at_138) rfl rfl ?_
              show Steps p.tables e below (T50.setTop (mkF m 140 #[.val (.int p1), .val (.int p2), .val (.int p3), .val (.int kx), .val (.ref aB), .val (.int ng), .val (.int ps), .val (.int (if aB = aE then (0 : Int32) else if aB = aN then (0 : Int32) else (1 : Int32))), .val (.ref saB), .val (.int (nar .char (nar .char (((60 : Int32) &&& (255 : Int32)).toUInt32.toUInt16.toUInt32.toInt32)))), .val (.int (1 : Int32)), .unset] [(.ref aB)])) _
              refine XS.iload X50.here hx rfl (hb hby at_140) rfl ?_
              show Steps p.tables e below (T50.setTop (mkF m 142 #[.val (.int p1), .val (.int p2), .val (.int p3), .val (.int kx), .val (.ref aB), .val (.int ng), .val (.int ps), .val (.int (if aB = aE then (0 : Int32) else if aB = aN then (0 : Int32) else (1 : Int32))), .val (.ref saB), .val (.int (nar .char (nar .char (((60 : Int32) &&& (255 : Int32)).toUInt32.toUInt16.toUInt32.toInt32)))), .val (.int (1 : Int32)), .unset] [(.int ng), (.ref aB)])) _
              refine st51.trans ?_
              show Steps p.tables e below (T51.setTop (mkF m 145 #[.val (.int p1), .val (.int p2), .val (.int p3), .val (.int kx), .val (.ref aB), .val (.int ng), .val (.int ps), .val (.int (if aB = aE then (0 : Int32) else if aB = aN then (0 : Int32) else (1 : Int32))), .val (.ref saB), .val (.int (nar .char (nar .char (((60 : Int32) &&& (255 : Int32)).toUInt32.toUInt16.toUInt32.toInt32)))), .val (.int (1 : Int32)), .unset] [(.int (own_holds (4 : Int32) ng))])) _
              refine XS.aload X51.here hx rfl (hb hby at_145) rfl rfl ?_
              show Steps p.tables e below (T51.setTop (mkF m 147 #[.val (.int p1), .val (.int p2), .val (.int p3), .val (.int kx), .val (.ref aB), .val (.int ng), .val (.int ps), .val (.int (if aB = aE then (0 : Int32) else if aB = aN then (0 : Int32) else (1 : Int32))), .val (.ref saB), .val (.int (nar .char (nar .char (((60 : Int32) &&& (255 : Int32)).toUInt32.toUInt16.toUInt32.toInt32)))), .val (.int (1 : Int32)), .unset] [(.ref aB), (.int (own_holds (4 : Int32) ng))])) _
              refine XS.iload X51.here hx rfl (hb hby at_147) rfl ?_
              show Steps p.tables e below (T51.setTop (mkF m 149 #[.val (.int p1), .val (.int p2), .val (.int p3), .val (.int kx), .val (.ref aB), .val (.int ng), .val (.int ps), .val (.int (if aB = aE then (0 : Int32) else if aB = aN then (0 : Int32) else (1 : Int32))), .val (.ref saB), .val (.int (nar .char (nar .char (((60 : Int32) &&& (255 : Int32)).toUInt32.toUInt16.toUInt32.toInt32)))), .val (.int (1 : Int32)), .unset] [(.int ps), (.ref aB), (.int (own_holds (4 : Int32) ng))])) _
              refine st52.trans ?_
              show Steps p.tables e below (T52.setTop (mkF m 152 #[.val (.int p1), .val (.int p2), .val (.int p3), .val (.int kx), .val (.ref aB), .val (.int ng), .val (.int ps), .val (.int (if aB = aE then (0 : Int32) else if aB = aN then (0 : Int32) else (1 : Int32))), .val (.ref saB), .val (.int (nar .char (nar .char (((60 : Int32) &&& (255 : Int32)).toUInt32.toUInt16.toUInt32.toInt32)))), .val (.int (1 : Int32)), .unset] [(.int (own_holds (4 : Int32) ps)), (.int (own_holds (4 : Int32) ng))])) _
              refine XS.icmpNo X52.here hx rfl (hb hby at_152) rfl (feq hc152).1 ?_
              show Steps p.tables e below (T52.setTop (mkF m 155 #[.val (.int p1), .val (.int p2), .val (.int p3), .val (.int kx), .val (.ref aB), .val (.int ng), .val (.int ps), .val (.int (if aB = aE then (0 : Int32) else if aB = aN then (0 : Int32) else (1 : Int32))), .val (.ref saB), .val (.int (nar .char (nar .char (((60 : Int32) &&& (255 : Int32)).toUInt32.toUInt16.toUInt32.toInt32)))), .val (.int (1 : Int32)), .unset] [])) _
              refine XS.iconst X52.here hx rfl (hb hby at_155) ?_
              show Steps p.tables e below (T52.setTop (mkF m 156 #[.val (.int p1), .val (.int p2), .val (.int p3), .val (.int kx), .val (.ref aB), .val (.int ng), .val (.int ps), .val (.int (if aB = aE then (0 : Int32) else if aB = aN then (0 : Int32) else (1 : Int32))), .val (.ref saB), .val (.int (nar .char (nar .char (((60 : Int32) &&& (255 : Int32)).toUInt32.toUInt16.toUInt32.toInt32)))), .val (.int (1 : Int32)), .unset] [(.int (1 : Int32))])) _
              refine XS.goto X52.here hx rfl (pc0 := 156) (pc' := 160) rfl (hb hby at_156) (by decide) (by decide) ?_
              show Steps p.tables e below (T52.setTop (mkF m 160 #[.val (.int p1), .val (.int p2), .val (.int p3), .val (.int kx), .val (.ref aB), .val (.int ng), .val (.int ps), .val (.int (if aB = aE then (0 : Int32) else if aB = aN then (0 : Int32) else (1 : Int32))), .val (.ref saB), .val (.int (nar .char (nar .char (((60 : Int32) &&& (255 : Int32)).toUInt32.toUInt16.toUInt32.toInt32)))), .val (.int (1 : Int32)), .unset] [(.int (1 : Int32))])) _
              refine XS.istore X52.here hx rfl (hb hby at_160) rfl (l' := #[.val (.int p1), .val (.int p2), .val (.int p3), .val (.int kx), .val (.ref aB), .val (.int ng), .val (.int ps), .val (.int (if aB = aE then (0 : Int32) else if aB = aN then (0 : Int32) else (1 : Int32))), .val (.ref saB), .val (.int (nar .char (nar .char (((60 : Int32) &&& (255 : Int32)).toUInt32.toUInt16.toUInt32.toInt32)))), .val (.int (1 : Int32)), .val (.int (1 : Int32))]) rfl ?_
              show Steps p.tables e below (T52.setTop (mkF m 162 #[.val (.int p1), .val (.int p2), .val (.int p3), .val (.int kx), .val (.ref aB), .val (.int ng), .val (.int ps), .val (.int (if aB = aE then (0 : Int32) else if aB = aN then (0 : Int32) else (1 : Int32))), .val (.ref saB), .val (.int (nar .char (nar .char (((60 : Int32) &&& (255 : Int32)).toUInt32.toUInt16.toUInt32.toInt32)))), .val (.int (1 : Int32)), .val (.int (1 : Int32))] [])) _
              refine XS.iload X52.here hx rfl (hb hby at_162) rfl ?_
              show Steps p.tables e below (T52.setTop (mkF m 164 #[.val (.int p1), .val (.int p2), .val (.int p3), .val (.int kx), .val (.ref aB), .val (.int ng), .val (.int ps), .val (.int (if aB = aE then (0 : Int32) else if aB = aN then (0 : Int32) else (1 : Int32))), .val (.ref saB), .val (.int (nar .char (nar .char (((60 : Int32) &&& (255 : Int32)).toUInt32.toUInt16.toUInt32.toInt32)))), .val (.int (1 : Int32)), .val (.int (1 : Int32))] [(.int (if aB = aE then (0 : Int32) else if aB = aN then (0 : Int32) else (1 : Int32)))])) _
              refine XS.iload X52.here hx rfl (hb hby at_164) rfl ?_
              show Steps p.tables e below (T52.setTop (mkF m 166 #[.val (.int p1), .val (.int p2), .val (.int p3), .val (.int kx), .val (.ref aB), .val (.int ng), .val (.int ps), .val (.int (if aB = aE then (0 : Int32) else if aB = aN then (0 : Int32) else (1 : Int32))), .val (.ref saB), .val (.int (nar .char (nar .char (((60 : Int32) &&& (255 : Int32)).toUInt32.toUInt16.toUInt32.toInt32)))), .val (.int (1 : Int32)), .val (.int (1 : Int32))] [(.int (1 : Int32)), (.int (if aB = aE then (0 : Int32) else if aB = aN then (0 : Int32) else (1 : Int32)))])) _
              refine XS.icmpNo X52.here hx rfl (hb hby at_166) rfl (teq hc166).2 ?_
              show Steps p.tables e below (T52.setTop (mkF m 169 #[.val (.int p1), .val (.int p2), .val (.int p3), .val (.int kx), .val (.ref aB), .val (.int ng), .val (.int ps), .val (.int (if aB = aE then (0 : Int32) else if aB = aN then (0 : Int32) else (1 : Int32))), .val (.ref saB), .val (.int (nar .char (nar .char (((60 : Int32) &&& (255 : Int32)).toUInt32.toUInt16.toUInt32.toInt32)))), .val (.int (1 : Int32)), .val (.int (1 : Int32))] [])) _
              refine XS.iload X52.here hx rfl (hb hby at_169) rfl ?_
              show Steps p.tables e below (T52.setTop (mkF m 171 #[.val (.int p1), .val (.int p2), .val (.int p3), .val (.int kx), .val (.ref aB), .val (.int ng), .val (.int ps), .val (.int (if aB = aE then (0 : Int32) else if aB = aN then (0 : Int32) else (1 : Int32))), .val (.ref saB), .val (.int (nar .char (nar .char (((60 : Int32) &&& (255 : Int32)).toUInt32.toUInt16.toUInt32.toInt32)))), .val (.int (1 : Int32)), .val (.int (1 : Int32))] [(.int (if aB = aE then (0 : Int32) else if aB = aN then (0 : Int32) else (1 : Int32)))])) _
              refine XS.iload X52.here hx rfl (hb hby at_171) rfl ?_
              show Steps p.tables e below (T52.setTop (mkF m 173 #[.val (.int p1), .val (.int p2), .val (.int p3), .val (.int kx), .val (.ref aB), .val (.int ng), .val (.int ps), .val (.int (if aB = aE then (0 : Int32) else if aB = aN then (0 : Int32) else (1 : Int32))), .val (.ref saB), .val (.int (nar .char (nar .char (((60 : Int32) &&& (255 : Int32)).toUInt32.toUInt16.toUInt32.toInt32)))), .val (.int (1 : Int32)), .val (.int (1 : Int32))] [(.int (1 : Int32)), (.int (if aB = aE then (0 : Int32) else if aB = aN then (0 : Int32) else (1 : Int32)))])) _
              refine XS.icmpNo X52.here hx rfl (hb hby at_173) rfl (teq hc173).2 ?_
              show Steps p.tables e below (T52.setTop (mkF m 176 #[.val (.int p1), .val (.int p2), .val (.int p3), .val (.int kx), .val (.ref aB), .val (.int ng), .val (.int ps), .val (.int (if aB = aE then (0 : Int32) else if aB = aN then (0 : Int32) else (1 : Int32))), .val (.ref saB), .val (.int (nar .char (nar .char (((60 : Int32) &&& (255 : Int32)).toUInt32.toUInt16.toUInt32.toInt32)))), .val (.int (1 : Int32)), .val (.int (1 : Int32))] [])) _
              refine XS.iconst X52.here hx rfl (hb hby at_176) ?_
              show Steps p.tables e below (T52.setTop (mkF m 177 #[.val (.int p1), .val (.int p2), .val (.int p3), .val (.int kx), .val (.ref aB), .val (.int ng), .val (.int ps), .val (.int (if aB = aE then (0 : Int32) else if aB = aN then (0 : Int32) else (1 : Int32))), .val (.ref saB), .val (.int (nar .char (nar .char (((60 : Int32) &&& (255 : Int32)).toUInt32.toUInt16.toUInt32.toInt32)))), .val (.int (1 : Int32)), .val (.int (1 : Int32))] [(.int (1 : Int32))])) _
              refine XS.goto X52.here hx rfl (pc0 := 177) (pc' := 181) rfl (hb hby at_177) (by decide) (by decide) ?_
              show Steps p.tables e below (T52.setTop (mkF m 181 #[.val (.int p1), .val (.int p2), .val (.int p3), .val (.int kx), .val (.ref aB), .val (.int ng), .val (.int ps), .val (.int (if aB = aE then (0 : Int32) else if aB = aN then (0 : Int32) else (1 : Int32))), .val (.ref saB), .val (.int (nar .char (nar .char (((60 : Int32) &&& (255 : Int32)).toUInt32.toUInt16.toUInt32.toInt32)))), .val (.int (1 : Int32)), .val (.int (1 : Int32))] [(.int (1 : Int32))])) _
              exact retN X52 hx (t := .boolean) Bd.returns (by simp) (hb hby at_181) hr
            · show Q_0 Z p1 p2 p3 h0 n0 _ T52.heap _
              rw [e52]
              exact ⟨rfl, N52⟩
          · obtain ⟨T53, X53, e53, st53⟩ := getS2 X0 hx hZ hown (host := "") (Or.inl (hw _ (List.mem_of_getElem? (i := 68) rfl))) Via.refl e0 S_ABOVE (g := (mkF m 72 #[.val (.int p1), .val (.int p2), .val (.int p3), .val (.int kx), .unset, .unset, .unset, .unset, .unset, .unset, .unset, .unset] [])) rfl (hb hby at_72)
            obtain ⟨ng, e_ng⟩ : ∃ z : Int32, z = ((-1 : Int32) - (p2 &&& (2147483647 : Int32))) := ⟨_, rfl⟩
            have hng : ng < 0 := e_ng ▸ own_neg p2
            have hneg : ng < 0 ∧ ¬ ng = 0 ∧ ¬ 0 < ng := by
              rcases own_tri ng with u | u | u
              · exact u
              · exact absurd hng u.2.1
              · exact absurd hng u.2.1
            obtain ⟨_, _, ⟨T54, L54, c54_, n54_⟩, -, X54, ⟨Lc54, hQ54, l54, y54, z54⟩, st54⟩ := Jvm.LawKit.callS X53 hx (y := (⟨"java/lang/Math", "max", "(II)I"⟩ : MethodName)) hown (mvT hZ (hw _ (List.mem_of_getElem? (i := 4) rfl))) (mvT hZ (hw _ (List.mem_of_getElem? (i := 5) rfl))) (mvT hZ (hw _ (List.mem_of_getElem? (i := 6) rfl))) (mvT hZ (hw _ (List.mem_of_getElem? (i := 7) rfl))) (by decide) (backOf (W := 0) (rm_1 l Z a0 hw [] (1 : Int32) (p3 &&& (2147483647 : Int32)) h0 n0 (Nat.le_trans Z0 (Keep.refl h0 []).1) ) hZ (hw _ (List.mem_of_getElem? (i := 7) rfl)) (hw _ (List.mem_of_getElem? (i := 6) rfl)) (by decide) (by decide)) (g := (mkF m 90 #[.val (.int p1), .val (.int p2), .val (.int p3), .val (.int kx), .val (.ref aA), .val (.int ng), .unset, .unset, .unset, .unset, .unset, .unset] [(.int (p3 &&& (2147483647 : Int32))), (.int (1 : Int32))])) rfl (by rw [hml]; rfl) (argsL := [(.int (1 : Int32)), (.int (p3 &&& (2147483647 : Int32)))]) (rest := []) (lenOf pd__28II_29I rfl) rfl (by show 2 * 0 + _ ≤ _; exact Nat.le_of_eq rfl) (hb hby at_90) (fun _ _ => ⟨rfl, e53, (by decide : 0 + 0 ≤ _), (by decide : 0 + 0 ≤ _)⟩)
            dsimp only [Pt.U, Pt.locs, Pt.cells, Pt.slots] at X54 l54 y54 z54 st54 hQ54
            subst l54 y54 z54
            obtain ⟨rfl, Nq54, e54⟩ := hQ54
            have N54 := Fr.app N0 Nq54
            obtain ⟨ps, e_ps⟩ : ∃ z : Int32, z = (if (1 : Int32) < (p3 &&& (2147483647 : Int32)) then (p3 &&& (2147483647 : Int32)) else (1 : Int32)) := ⟨_, rfl⟩
            have hps : 0 < ps := e_ps ▸ own_pos _
            have hpos : 0 < ps ∧ ¬ ps < 0 ∧ ¬ ps = 0 := by
              rcases own_tri ps with u | u | u
              · exact absurd hps u.2.2
              · exact absurd hps u.2.2
              · exact u
            obtain ⟨cq55, kq55, q55a, q55b, q55c⟩ := isOf hZ e54 E_ABOVE
            obtain ⟨_, _, ⟨T55, L55, c55_, n55_⟩, -, X55, ⟨Lc55, hQ55, l55, y55, z55⟩, st55⟩ := X54.virtualBack hx (y := (⟨"com/example/furlong/furlong/model/Condition$Operator", "isOrder", "()Z"⟩ : MethodName)) (z := (⟨"com/example/furlong/furlong/model/Condition$Operator", "isOrder", "()Z"⟩ : MethodName)) hown (mvT hZ (hw _ (List.mem_of_getElem? (i := 8) rfl))) (mvT hZ (hw _ (List.mem_of_getElem? (i := 9) rfl))) (notFace_of_selects (args := #[]) (mvT hZ (hw _ (List.mem_of_getElem? (i := 11) rfl)))) (mvT hZ (hw _ (List.mem_of_getElem? (i := 11) rfl))) (mvT hZ (hw _ (List.mem_of_getElem? (i := 10) rfl))) (by decide) (backOf (W := 0) (rm_2 l Z a0 hw [] aA aE aN h0 n0 (Nat.le_trans Z0 (Keep.refl h0 []).1) S_EQUAL S_NOT_EQUAL) hZ (hw _ (List.mem_of_getElem? (i := 12) rfl)) (hw _ (List.mem_of_getElem? (i := 2) rfl)) (by decide) (by decide)) q55a q55c (g := (mkF m 97 #[.val (.int p1), .val (.int p2), .val (.int p3), .val (.int kx), .val (.ref aA), .val (.int ng), .val (.int ps), .unset, .unset, .unset, .unset, .unset] [(.ref aA)])) rfl (by rw [hml]; rfl) (Steps.refl _) (argsL := []) (rest := []) (lenOf pd__28_29Z rfl) rfl (by show 2 * 0 + _ ≤ _; exact Nat.le_of_eq rfl) (hb hby at_97) (fun _ _ => ⟨rfl, e54, (by decide : 0 + 0 ≤ _), (by decide : 0 + 0 ≤ _)⟩)
            dsimp only [Pt.U, Pt.locs, Pt.cells, Pt.slots] at X55 l55 y55 z55 st55 hQ55
            subst l55 y55 z55
            obtain ⟨rfl, Nq55, e55⟩ := hQ55
            have N55 := Fr.app N54 Nq55
            obtain ⟨cq56, kq56, q56a, q56b, q56c⟩ := isOf hZ e55 E_ABOVE
            obtain ⟨_, _, ⟨T56, L56, c56_, n56_⟩, -, X56, ⟨Lc56, hQ56, l56, y56, z56⟩, st56⟩ := X55.virtualBack hx (y := (⟨"com/example/furlong/furlong/model/Condition$Operator", "symbol", "()Ljava/lang/String;"⟩ : MethodName)) (z := (⟨"com/example/furlong/furlong/model/Condition$Operator", "symbol", "()Ljava/lang/String;"⟩ : MethodName)) hown (mvT hZ (hw _ (List.mem_of_getElem? (i := 14) rfl))) (mvT hZ (hw _ (List.mem_of_getElem? (i := 15) rfl))) (notFace_of_selects (args := #[]) (mvT hZ (hw _ (List.mem_of_getElem? (i := 17) rfl)))) (mvT hZ (hw _ (List.mem_of_getElem? (i := 17) rfl))) (mvT hZ (hw _ (List.mem_of_getElem? (i := 16) rfl))) (by decide) (backOf (W := 0) (rm_3 l Z a0 hw [] aA saA h0 n0 (Nat.le_trans Z0 (Keep.refl h0 []).1) Fs_ABOVE) hZ (hw _ (List.mem_of_getElem? (i := 18) rfl)) (hw _ (List.mem_of_getElem? (i := 2) rfl)) (by decide) (by decide)) q56a q56c (g := (mkF m 104 #[.val (.int p1), .val (.int p2), .val (.int p3), .val (.int kx), .val (.ref aA), .val (.int ng), .val (.int ps), .val (.int (if aA = aE then (0 : Int32) else if aA = aN then (0 : Int32) else (1 : Int32))), .unset, .unset, .unset, .unset] [(.ref aA)])) rfl (by rw [hml]; rfl) (Steps.refl _) (argsL := []) (rest := []) (lenOf pd__28_29Ljava_2flang_2fString_3b rfl) rfl (by show 2 * 0 + _ ≤ _; exact Nat.le_of_eq rfl) (hb hby at_104) (fun _ _ => ⟨rfl, e55, (by decide : 0 + 0 ≤ _), (by decide : 0 + 0 ≤ _)⟩)
            dsimp only [Pt.U, Pt.locs, Pt.cells, Pt.slots] at X56 l56 y56 z56 st56 hQ56
            subst l56 y56 z56
            obtain ⟨rfl, Nq56, e56⟩ := hQ56
            have N56 := Fr.app N55 Nq56
            obtain ⟨cq57, kq57, q57a, q57b, q57c⟩ := isOf hZ e56 Es_ABOVE
            obtain ⟨_, _, ⟨T57, L57, c57_, n57_⟩, -, X57, ⟨Lc57, hQ57, l57, y57, z57⟩, st57⟩ := X56.virtualBack hx (y := (⟨"java/lang/String", "charAt", "(I)C"⟩ : MethodName)) (z := (⟨"java/lang/String", "charAt", "(I)C"⟩ : MethodName)) hown (mvT hZ (hw _ (List.mem_of_getElem? (i := 21) rfl))) (mvT hZ (hw _ (List.mem_of_getElem? (i := 22) rfl))) (notFace_of_selects (args := #[]) (mvT hZ (hw _ (List.mem_of_getElem? (i := 24) rfl)))) (mvT hZ (hw _ (List.mem_of_getElem? (i := 24) rfl))) (mvT hZ (hw _ (List.mem_of_getElem? (i := 23) rfl))) (by decide) (backOf (W := 0) (rm_ch l Z a0 hw [] saA (0 : Int32) (62 : Int32) taA kaA (1 : Int32) [Value.int (62 : Int32)] fm zc h0 n0 (Nat.le_trans Z0 (Keep.refl h0 []).1) Va_ABOVE (by decide) (by decide) rfl rf S_F S_C hz Fc_ABOVE Fv_ABOVE Es_ABOVE) hZ (hw _ (List.mem_of_getElem? (i := 26) rfl)) (hw _ (List.mem_of_getElem? (i := 25) rfl)) (by decide) (by decide)) q57a q57c (g := (mkF m 112 #[.val (.int p1), .val (.int p2), .val (.int p3), .val (.int kx), .val (.ref aA), .val (.int ng), .val (.int ps), .val (.int (if aA = aE then (0 : Int32) else if aA = aN then (0 : Int32) else (1 : Int32))), .val (.ref saA), .unset, .unset, .unset] [(.int (0 : Int32)), (.ref saA)])) rfl (by rw [hml]; rfl) (Steps.refl _) (argsL := [(.int (0 : Int32))]) (rest := []) (lenOf pd__28I_29C rfl) rfl (by show 2 * 0 + _ ≤ _; exact Nat.le_of_eq rfl) (hb hby at_112) (fun _ _ => ⟨rfl, e56, (by decide : 0 + 0 ≤ _), (by decide : 0 + 0 ≤ _)⟩)
            dsimp only [Pt.U, Pt.locs, Pt.cells, Pt.slots] at X57 l57 y57 z57 st57 hQ57
            subst l57 y57 z57
            obtain ⟨rfl, Nq57, e57⟩ := hQ57
            have N57 := Fr.app N56 Nq57
            have hc121 : ¬ ((nar .char (nar .char (((62 : Int32) &&& (255 : Int32)).toUInt32.toUInt16.toUInt32.toInt32))) = (60 : Int32)) := by decide
            have hc128 : (nar .char (nar .char (((62 : Int32) &&& (255 : Int32)).toUInt32.toUInt16.toUInt32.toInt32))) = (62 : Int32) := by decide
            obtain ⟨cq58, kq58, q58a, q58b, q58c⟩ := isOf hZ e57 E_ABOVE
            obtain ⟨_, _, ⟨T58, L58, c58_, n58_⟩, -, X58, ⟨Lc58, hQ58, l58, y58, z58⟩, st58⟩ := X57.virtualBack hx (y := (⟨"com/example/furlong/furlong/model/Condition$Operator", "holds", "(I)Z"⟩ : MethodName)) (z := (⟨"com/example/furlong/furlong/model/Condition$Operator", "holds", "(I)Z"⟩ : MethodName)) hown (mvT hZ (hw _ (List.mem_of_getElem? (i := 49) rfl))) (mvT hZ (hw _ (List.mem_of_getElem? (i := 50) rfl))) (notFace_of_selects (args := #[]) (mvT hZ (hw _ (List.mem_of_getElem? (i := 52) rfl)))) (mvT hZ (hw _ (List.mem_of_getElem? (i := 52) rfl))) (mvT hZ (hw _ (List.mem_of_getElem? (i := 51) rfl))) (by decide) (backOf (W := 0) (rm_9 l Z a0 hw [] aA ng (5 : Int32) h0 n0 (Nat.le_trans Z0 (Keep.refl h0 []).1) Fo_ABOVE E_ABOVE) hZ (hw _ (List.mem_of_getElem? (i := 53) rfl)) (hw _ (List.mem_of_getElem? (i := 2) rfl)) (by decide) (by decide)) q58a q58c (g := (mkF m 142 #[.val (.int p1), .val (.int p2), .val (.int p3), .val (.int kx), .val (.ref aA), .val (.int ng), .val (.int ps), .val (.int (if aA = aE then (0 : Int32) else if aA = aN then (0 : Int32) else (1 : Int32))), .val (.ref saA), .val (.int (nar .char (nar .char (((62 : Int32) &&& (255 : Int32)).toUInt32.toUInt16.toUInt32.toInt32)))), .val (.int (1 : Int32)), .unset] [(.int ng), (.ref aA)])) rfl (by rw [hml]; rfl) (Steps.refl _) (argsL := [(.int ng)]) (rest := []) (lenOf pd__28I_29Z rfl) rfl (by show 2 * 0 + _ ≤ _; exact Nat.le_of_eq rfl) (hb hby at_142) (fun _ _ => ⟨rfl, e57, (by decide : 0 + 0 ≤ _), (by decide : 0 + 0 ≤ _)⟩)
            dsimp only [Pt.U, Pt.locs, Pt.cells, Pt.slots] at X58 l58 y58 z58 st58 hQ58
            subst l58 y58 z58
            obtain ⟨rfl, Nq58, e58⟩ := hQ58
            have N58 := Fr.app N57 Nq58
            obtain ⟨cq59, kq59, q59a, q59b, q59c⟩ := isOf hZ e58 E_ABOVE
            obtain ⟨_, _, ⟨T59, L59, c59_, n59_⟩, -, X59, ⟨Lc59, hQ59, l59, y59, z59⟩, st59⟩ := X58.virtualBack hx (y := (⟨"com/example/furlong/furlong/model/Condition$Operator", "holds", "(I)Z"⟩ : MethodName)) (z := (⟨"com/example/furlong/furlong/model/Condition$Operator", "holds", "(I)Z"⟩ : MethodName)) hown (mvT hZ (hw _ (List.mem_of_getElem? (i := 49) rfl))) (mvT hZ (hw _ (List.mem_of_getElem? (i := 50) rfl))) (notFace_of_selects (args := #[]) (mvT hZ (hw _ (List.mem_of_getElem? (i := 52) rfl)))) (mvT hZ (hw _ (List.mem_of_getElem? (i := 52) rfl))) (mvT hZ (hw _ (List.mem_of_getElem? (i := 51) rfl))) (by decide) (backOf (W := 1) (rm_9 l Z a0 hw [] aA ps (5 : Int32) h0 n0 (Nat.le_trans Z0 (Keep.refl h0 []).1) Fo_ABOVE E_ABOVE) hZ (hw _ (List.mem_of_getElem? (i := 53) rfl)) (hw _ (List.mem_of_getElem? (i := 2) rfl)) (by decide) (by decide)) q59a q59c (g := (mkF m 149 #[.val (.int p1), .val (.int p2), .val (.int p3), .val (.int kx), .val (.ref aA), .val (.int ng), .val (.int ps), .val (.int (if aA = aE then (0 : Int32) else if aA = aN then (0 : Int32) else (1 : Int32))), .val (.ref saA), .val (.int (nar .char (nar .char (((62 : Int32) &&& (255 : Int32)).toUInt32.toUInt16.toUInt32.toInt32)))), .val (.int (1 : Int32)), .unset] [(.int ps), (.ref aA), (.int (own_holds (5 : Int32) ng))])) rfl (by rw [hml]; rfl) (Steps.refl _) (argsL := [(.int ps)]) (rest := [(.int (own_holds (5 : Int32) ng))]) (lenOf pd__28I_29Z rfl) rfl (by show 2 * 0 + _ ≤ _; exact Nat.le_of_eq rfl) (hb hby at_149) (fun _ _ => ⟨rfl, e58, (by decide : 0 + 0 ≤ _), (by decide : 0 + 0 ≤ _)⟩)
            dsimp only [Pt.U, Pt.locs, Pt.cells, Pt.slots] at X59 l59 y59 z59 st59 hQ59
            subst l59 y59 z59
            obtain ⟨rfl, Nq59, e59⟩ := hQ59
            have N59 := Fr.app N58 Nq59
            have hc152 : ¬ ((own_holds (5 : Int32) ng) = (own_holds (5 : Int32) ps)) := (by simp [own_holds, hneg.1, hneg.2.1, hneg.2.2, hpos.1, hpos.2.1, hpos.2.2])
            have hc166 : (if aA = aE then (0 : Int32) else if aA = aN then (0 : Int32) else (1 : Int32)) = (1 : Int32) := (by simp [ne_EQUAL_NOT_EQUAL, ne_EQUAL_AT_MOST, ne_EQUAL_AT_LEAST, ne_EQUAL_BELOW, ne_EQUAL_ABOVE, ne_NOT_EQUAL_AT_MOST, ne_NOT_EQUAL_AT_LEAST, ne_NOT_EQUAL_BELOW, ne_NOT_EQUAL_ABOVE])
            have hc173 : (if aA = aE then (0 : Int32) else if aA = aN then (0 : Int32) else (1 : Int32)) = (1 : Int32) := (by simp [ne_EQUAL_NOT_EQUAL, ne_EQUAL_AT_MOST, ne_EQUAL_AT_LEAST, ne_EQUAL_BELOW, ne_EQUAL_ABOVE, ne_NOT_EQUAL_AT_MOST, ne_NOT_EQUAL_AT_LEAST, ne_NOT_EQUAL_BELOW, ne_NOT_EQUAL_ABOVE])
            obtain ⟨fs, hr, hrun, hended, hW, hsame⟩ := X59.leave (v := some (.int (1 : Int32))) (fun h => by rw [Bd.returns] at h; cases h)
            refine ⟨_, _, pre0 _ ?_, hrun, hended, _, _, rfl, ?_, ⟨_, rfl⟩, hW, hsame.mono (by decide) (by decide)⟩
            · show Steps p.tables e below (s₁.setTop (mkF m 0 #[.val (.int p1), .val (.int p2), .val (.int p3), .unset, .unset, .unset, .unset, .unset, .unset, .unset, .unset, .unset] [])) _
              refine XS.iloadN X0.here hx rfl (hb hby at_0) rfl ?_
              show Steps p.tables e below (s₁.setTop (mkF m 1 #[.val (.int p1), .val (.int p2), .val (.int p3), .unset, .unset, .unset, .unset, .unset, .unset, .unset, .unset, .unset] [(.int p1)])) _
              refine X0.ldcInt hx hown (mvT hZ (hw _ (List.mem_of_getElem? (i := 0) rfl))) (g := (mkF m 1 #[.val (.int p1), .val (.int p2), .val (.int p3), .unset, .unset, .unset, .unset, .unset, .unset, .unset, .unset, .unset] [(.int p1)])) rfl (hb hby at_1) _ ?_
              show Steps p.tables e below (s₁.setTop (mkF m 3 #[.val (.int p1), .val (.int p2), .val (.int p3), .unset, .unset, .unset, .unset, .unset, .unset, .unset, .unset, .unset] [(.int (2147483647 : Int32)), (.int p1)])) _
              refine XS.iand X0.here hx rfl (hb hby at_3) rfl ?_
              show Steps p.tables e below (s₁.setTop (mkF m 4 #[.val (.int p1), .val (.int p2), .val (.int p3), .unset, .unset, .unset, .unset, .unset, .unset, .unset, .unset, .unset] [(.int (p1 &&& (2147483647 : Int32)))])) _
              refine XS.bipush X0.here hx rfl (hb hby at_4) ?_
              show Steps p.tables e below (s₁.setTop (mkF m 6 #[.val (.int p1), .val (.int p2), .val (.int p3), .unset, .unset, .unset, .unset, .unset, .unset, .unset, .unset, .unset] [(.int (6 : Int32)), (.int (p1 &&& (2147483647 : Int32)))])) _
              refine iremM X0 hx rfl (hb hby at_6) rfl (by decide) ?_
              show Steps p.tables e below (s₁.setTop (mkF m 7 #[.val (.int p1), .val (.int p2), .val (.int p3), .unset, .unset, .unset, .unset, .unset, .unset, .unset, .unset, .unset] [(.int ((p1 &&& (2147483647 : Int32)) % (6 : Int32)))])) _
              refine XS.istoreN X0.here hx rfl (hb hby at_7) rfl (l' := #[.val (.int p1), .val (.int p2), .val (.int p3), .val (.int ((p1 &&& (2147483647 : Int32)) % (6 : Int32))), .unset, .unset, .unset, .unset, .unset, .unset, .unset, .unset]) rfl ?_
              show Steps p.tables e below (s₁.setTop (mkF m 8 #[.val (.int p1), .val (.int p2), .val (.int p3), .val (.int ((p1 &&& (2147483647 : Int32)) % (6 : Int32))), .unset, .unset, .unset, .unset, .unset, .unset, .unset, .unset] [])) _
              rw [← e_kx]
              show Steps p.tables e below (s₁.setTop (mkF m 8 #[.val (.int p1), .val (.int p2), .val (.int p3), .val (.int kx), .unset, .unset, .unset, .unset, .unset, .unset, .unset, .unset] [])) _
              refine XS.iloadN X0.here hx rfl (hb hby at_8) rfl ?_
              show Steps p.tables e below (s₁.setTop (mkF m 9 #[.val (.int p1), .val (.int p2), .val (.int p3), .val (.int kx), .unset, .unset, .unset, .unset, .unset, .unset, .unset, .unset] [(.int kx)])) _
              refine XS.ifYes X0.here hx rfl (pc0 := 9) (pc' := 20) rfl (hb hby at_9) rfl ((if0 _ _).trans (feq hc9).2) (by decide) (by decide) ?_
              show Steps p.tables e below (s₁.setTop (mkF m 20 #[.val (.int p1), .val (.int p2), .val (.int p3), .val (.int kx), .unset, .unset, .unset, .unset, .unset, .unset, .unset, .unset] [])) _
              refine XS.iloadN X0.here hx rfl (hb hby at_20) rfl ?_
              show Steps p.tables e below (s₁.setTop (mkF m 21 #[.val (.int p1), .val (.int p2), .val (.int p3), .val (.int kx), .unset, .unset, .unset, .unset, .unset, .unset, .unset, .unset] [(.int kx)])) _
              refine XS.iconst X0.here hx rfl (hb hby at_21) ?_
              show Steps p.tables e below (s₁.setTop (mkF m 22 #[.val (.int p1), .val (.int p2), .val (.int p3), .val (.int kx), .unset, .unset, .unset, .unset, .unset, .unset, .unset, .unset] [(.int (1 : Int32)), (.int kx)])) _
              refine XS.icmpYes X0.here hx rfl (pc0 := 22) (pc' := 33) rfl (hb hby at_22) rfl (feq hc22).2 (by decide) (by decide) ?_
              show Steps p.tables e below (s₁.setTop (mkF m 33 #[.val (.int p1), .val (.int p2), .val (.int p3), .val (.int kx), .unset, .unset, .unset, .unset, .unset, .unset, .unset, .unset] [])) _
              refine XS.iloadN X0.here hx rfl (hb hby at_33) rfl ?_
              show Steps p.tables e below (s₁.setTop (mkF m 34 #[.val (.int p1), .val (.int p2), .val (.int p3), .val (.int kx), .unset, .unset, .unset, .unset, .unset, .unset, .unset, .unset] [(.int kx)])) _
              refine XS.iconst X0.here hx rfl (hb hby at_34) ?_
              show Steps p.tables e below (s₁.setTop (mkF m 35 #[.val (.int p1), .val (.int p2), .val (.int p3), .val (.int kx), .unset, .unset, .unset, .unset, .unset, .unset, .unset, .unset] [(.int (2 : Int32)), (.int kx)])) _
              refine XS.icmpYes X0.here hx rfl (pc0 := 35) (pc' := 46) rfl (hb hby at_35) rfl (feq hc35).2 (by decide) (by decide) ?_
              show Steps p.tables e below (s₁.setTop (mkF m 46 #[.val (.int p1), .val (.int p2), .val (.int p3), .val (.int kx), .unset, .unset, .unset, .unset, .unset, .unset, .unset, .unset] [])) _
              refine XS.iloadN X0.here hx rfl (hb hby at_46) rfl ?_
              show Steps p.tables e below (s₁.setTop (mkF m 47 #[.val (.int p1), .val (.int p2), .val (.int p3), .val (.int kx), .unset, .unset, .unset, .unset, .unset, .unset, .unset, .unset] [(.int kx)])) _
              refine XS.iconst X0.here hx rfl (hb hby at_47) ?_
              show Steps p.tables e below (s₁.setTop (mkF m 48 #[.val (.int p1), .val (.int p2), .val (.int p3), .val (.int kx), .unset, .unset, .unset, .unset, .unset, .unset, .unset, .unset] [(.int (3 : Int32)), (.int kx)])) _
              refine XS.icmpYes X0.here hx rfl (pc0 := 48) (pc' := 59) rfl (hb hby at_48) rfl (feq hc48).2 (by decide) (by decide) ?_
              show Steps p.tables e below (s₁.setTop (mkF m 59 #[.val (.int p1), .val (.int p2), .val (.int p3), .val (.int kx), .unset, .unset, .unset, .unset, .unset, .unset, .unset, .unset] [])) _
              refine XS.iloadN X0.here hx rfl (hb hby at_59) rfl ?_
              show Steps p.tables e below (s₁.setTop (mkF m 60 #[.val (.int p1), .val (.int p2), .val (.int p3), .val (.int kx), .unset, .unset, .unset, .unset, .unset, .unset, .unset, .unset] [(.int kx)])) _
              refine XS.iconst X0.here hx rfl (hb hby at_60) ?_
              show Steps p.tables e below (s₁.setTop (mkF m 61 #[.val (.int p1), .val (.int p2), .val (.int p3), .val (.int kx), .unset, .unset, .unset, .unset, .unset, .unset, .unset, .unset] [(.int (4 : Int32)), (.int kx)])) _
              refine XS.icmpYes X0.here hx rfl (pc0 := 61) (pc' := 72) rfl (hb hby at_61) rfl (feq hc61).2 (by decide) (by decide) ?_
              show Steps p.tables e below (s₁.setTop (mkF m 72 #[.val (.int p1), .val (.int p2), .val (.int p3), .val (.int kx), .unset, .unset, .unset, .unset, .unset, .unset, .unset, .unset] [])) _
              refine st53 _ ?_
              show Steps p.tables e below (T53.setTop (mkF m 75 #[.val (.int p1), .val (.int p2), .val (.int p3), .val (.int kx), .unset, .unset, .unset, .unset, .unset, .unset, .unset, .unset] [(.ref aA)])) _
              refine XS.astore X53.here hx rfl (hb hby at_75) rfl rfl (l' := #[.val (.int p1), .val (.int p2), .val (.int p3), .val (.int kx), .val (.ref aA), .unset, .unset, .unset, .unset, .unset, .unset, .unset]) rfl ?_
              show Steps p.tables e below (T53.setTop (mkF m 77 #[.val (.int p1), .val (.int p2), .val (.int p3), .val (.int kx), .val (.ref aA), .unset, .unset, .unset, .unset, .unset, .unset, .unset] [])) _
              refine XS.iconst X53.here hx rfl (hb hby at_77) ?_
              show Steps p.tables e below (T53.setTop (mkF m 78 #[.val (.int p1), .val (.int p2), .val (.int p3), .val (.int kx), .val (.ref aA), .unset, .unset, .unset, .unset, .unset, .unset, .unset] [(.int (-1 : Int32))])) _
              refine XS.iloadN X53.here hx rfl (hb hby at_78) rfl ?_
              show Steps p.tables e below (T53.setTop (mkF m 79 #[.val (.int p1), .val (.int p2), .val (.int p3), .val (.int kx), .val (.ref aA), .unset, .unset, .unset, .unset, .unset, .unset, .unset] [(.int p2), (.int (-1 : Int32))])) _
              refine X53.ldcInt hx hown (mvT hZ (hw _ (List.mem_of_getElem? (i := 0) rfl))) (g := (mkF m 79 #[.val (.int p1), .val (.int p2), .val (.int p3), .val (.int kx), .val (.ref aA), .unset, .unset, .unset, .unset, .unset, .unset, .unset] [(.int p2), (.int (-1 : Int32))])) rfl (hb hby at_79) _ ?_
              show Steps p.tables e below (T53.setTop (mkF m 81 #[.val (.int p1), .val (.int p2), .val (.int p3), .val (.int kx), .val (.ref aA), .unset, .unset, .unset, .unset, .unset, .unset, .unset] [(.int (2147483647 : Int32)), (.int p2), (.int (-1 : Int32))])) _
              refine XS.iand X53.here hx rfl (hb hby at_81) rfl ?_
              show Steps p.tables e below (T53.setTop (mkF m 82 #[.val (.int p1), .val (.int p2), .val (.int p3), .val (.int kx), .val (.ref aA), .unset, .unset, .unset, .unset, .unset, .unset, .unset] [(.int (p2 &&& (2147483647 : Int32))), (.int (-1 : Int32))])) _
              refine XS.isub X53.here hx rfl (hb hby at_82) rfl ?_
              show Steps p.tables e below (T53.setTop (mkF m 83 #[.val (.int p1), .val (.int p2), .val (.int p3), .val (.int kx), .val (.ref aA), .unset, .unset, .unset, .unset, .unset, .unset, .unset] [(.int ((-1 : Int32) - (p2 &&& (2147483647 : Int32))))])) _
              refine XS.istore X53.here hx rfl (hb hby at_83) rfl (l' := #[.val (.int p1), .val (.int p2), .val (.int p3), .val (.int kx), .val (.ref aA), .val (.int ((-1 : Int32) - (p2 &&& (2147483647 : Int32)))), .unset, .unset, .unset, .unset, .unset, .unset]) rfl ?_
              show Steps p.tables e below (T53.setTop (mkF m 85 #[.val (.int p1), .val (.int p2), .val (.int p3), .val (.int kx), .val (.ref aA), .val (.int ((-1 : Int32) - (p2 &&& (2147483647 : Int32)))), .unset, .unset, .unset, .unset, .unset, .unset] [])) _
              rw [← e_ng]
              show Steps p.tables e below (T53.setTop (mkF m 85 #[.val (.int p1), .val (.int p2), .val (.int p3), .val (.int kx), .val (.ref aA), .val (.int ng), .unset, .unset, .unset, .unset, .unset, .unset] [])) _
              refine XS.iconst X53.here hx rfl (hb hby at_85) ?_
              show Steps p.tables e below (T53.setTop (mkF m 86 #[.val (.int p1), .val (.int p2), .val (.int p3), .val (.int kx), .val (.ref aA), .val (.int ng), .unset, .unset, .unset, .unset, .unset, .unset] [(.int (1 : Int32))])) _
              refine XS.iloadN X53.here hx rfl (hb hby at_86) rfl ?_
              show Steps p.tables e below (T53.setTop (mkF m 87 #[.val (.int p1), .val (.int p2), .val (.int p3), .val (.int kx), .val (.ref aA), .val (.int ng), .unset, .unset, .unset, .unset, .unset, .unset] [(.int p3), (.int (1 : Int32))])) _
              refine X53.ldcInt hx hown (mvT hZ (hw _ (List.mem_of_getElem? (i := 0) rfl))) (g := (mkF m 87 #[.val (.int p1), .val (.int p2), .val (.int p3), .val (.int kx), .val (.ref aA), .val (.int ng), .unset, .unset, .unset, .unset, .unset, .unset] [(.int p3), (.int (1 : Int32))])) rfl (hb hby at_87) _ ?_
              show Steps p.tables e below (T53.setTop (mkF m 89 #[.val (.int p1), .val (.int p2), .val (.int p3), .val (.int kx), .val (.ref aA), .val (.int ng), .unset, .unset, .unset, .unset, .unset, .unset] [(.int (2147483647 : Int32)), (.int p3), (.int (1 : Int32))])) _
              refine XS.iand X53.here hx rfl (hb hby at_89) rfl ?_
              show Steps p.tables e below (T53.setTop (mkF m 90 #[.val (.int p1), .val (.int p2), .val (.int p3), .val (.int kx), .val (.ref aA), .val (.int ng), .unset, .unset, .unset, .unset, .unset, .unset] [(.int (p3 &&& (2147483647 : Int32))), (.int (1 : Int32))])) _
              refine st54 _ ?_
              show Steps p.tables e below (T54.setTop (mkF m 93 #[.val (.int p1), .val (.int p2), .val (.int p3), .val (.int kx), .val (.ref aA), .val (.int ng), .unset, .unset, .unset, .unset, .unset, .unset] [(.int (if (1 : Int32) < (p3 &&& (2147483647 : Int32)) then (p3 &&& (2147483647 : Int32)) else (1 : Int32)))])) _
              refine XS.istore X54.here hx rfl (hb hby at_93) rfl (l' := #[.val (.int p1), .val (.int p2), .val (.int p3), .val (.int kx), .val (.ref aA), .val (.int ng), .val (.int (if (1 : Int32) < (p3 &&& (2147483647 : Int32)) then (p3 &&& (2147483647 : Int32)) else (1 : Int32))), .unset, .unset, .unset, .unset, .unset]) rfl ?_
              show Steps p.tables e below (T54.setTop (mkF m 95 #[.val (.int p1), .val (.int p2), .val (.int p3), .val (.int kx), .val (.ref aA), .val (.int ng), .val (.int (if (1 : Int32) < (p3 &&& (2147483647 : Int32)) then (p3 &&& (2147483647 : Int32)) else (1 : Int32))), .unset, .unset, .unset, .unset, .unset] [])) _
              rw [← e_ps]
              show Steps p.tables e below (T54.setTop (mkF m 95 #[.val (.int p1), .val (.int p2), .val (.int p3), .val (.int kx), .val (.ref aA), .val (.int ng), .val (.int ps), .unset, .unset, .unset, .unset, .unset] [])) _
              refine XS.aload X54.here hx rfl (hb hby at_95) rfl rfl ?_
              show Steps p.tables e below (T54.setTop (mkF m 97 #[.val (.int p1), .val (.int p2), .val (.int p3), .val (.int kx), .val (.ref aA), .val (.int ng), .val (.int ps), .unset, .unset, .unset, .unset, .unset] [(.ref aA)])) _
              refine st55.trans ?_
              show Steps p.tables e below (T55.setTop (mkF m 100 #[.val (.int p1), .val (.int p2), .val (.int p3), .val (.int kx), .val (.ref aA), .val (.int ng), .val (.int ps), .unset, .unset, .unset, .unset, .unset] [(.int (if aA = aE then (0 : Int32) else if aA = aN then (0 : Int32) else (1 : Int32)))])) _
              refine XS.istore X55.here hx rfl (hb hby at_100) rfl (l' := #[.val (.int p1), .val (.int p2), .val (.int p3), .val (.int kx), .val (.ref aA), .val (.int ng), .val (.int ps), .val (.int (if aA = aE then (0 : Int32) else if aA = aN then (0 : Int32) else (1 : Int32))), .unset, .unset, .unset, .unset]) rfl ?_
              show Steps p.tables e below (T55.setTop (mkF m 102 #[.val (.int p1), .val (.int p2), .val (.int p3), .val (.int kx), .val (.ref aA), .val (.int ng), .val (.int ps), .val (.int (if aA = aE then (0 : Int32) else if aA = aN then (0 : Int32) else (1 : Int32))), .unset, .unset, .unset, .unset] [])) _
              refine XS.aload X55.here hx rfl (hb hby at_102) rfl rfl ?_
              show Steps p.tables e below (T55.setTop (mkF m 104 #[.val (.int p1), .val (.int p2), .val (.int p3), .val (.int kx), .val (.ref aA), .val (.int ng), .val (.int ps), .val (.int (if aA = aE then (0 : Int32) else if aA = aN then (0 : Int32) else (1 : Int32))), .unset, .unset, .unset, .unset] [(.ref aA)])) _
              refine st56.trans ?_
              show Steps p.tables e below (T56.setTop (mkF m 107 #[.val (.int p1), .val (.int p2), .val (.int p3), .val (.int kx), .val (.ref aA), .val (.int ng), .val (.int ps), .val (.int (if aA = aE then (0 : Int32) else if aA = aN then (0 : Int32) else (1 : Int32))), .unset, .unset, .unset, .unset] [(.ref saA)])) _
              refine XS.astore X56.here hx rfl (hb hby at_107) rfl rfl (l' := #[.val (.int p1), .val (.int p2), .val (.int p3), .val (.int kx), .val (.ref aA), .val (.int ng), .val (.int ps), .val (.int (if aA = aE then (0 : Int32) else if aA = aN then (0 : Int32) else (1 : Int32))), .val (.ref saA), .unset, .unset, .unset]) rfl ?_
              show Steps p.tables e below (T56.setTop (mkF m 109 #[.val (.int p1), .val (.int p2), .val (.int p3), .val (.int kx), .val (.ref aA), .val (.int ng), .val (.int ps), .val (.int (if aA = aE then (0 : Int32) else if aA = aN then (0 : Int32) else (1 : Int32))), .val (.ref saA), .unset, .unset, .unset] [])) _
              refine XS.aload X56.here hx rfl (hb hby at_109) rfl rfl ?_
              show Steps p.tables e below (T56.setTop (mkF m 111 #[.val (.int p1), .val (.int p2), .val (.int p3), .val (.int kx), .val (.ref aA), .val (.int ng), .val (.int ps), .val (.int (if aA = aE then (0 : Int32) else if aA = aN then (0 : Int32) else (1 : Int32))), .val (.ref saA), .unset, .unset, .unset] [(.ref saA)])) _
              refine XS.iconst X56.here hx rfl (hb hby at_111) ?_
              show Steps p.tables e below (T56.setTop (mkF m 112 #[.val (.int p1), .val (.int p2), .val (.int p3), .val (.int kx), .val (.ref aA), .val (.int ng), .val (.int ps), .val (.int (if aA = aE then (0 : Int32) else if aA = aN then (0 : Int32) else (1 : Int32))), .val (.ref saA), .unset, .unset, .unset] [(.int (0 : Int32)), (.ref saA)])) _
              refine st57.trans ?_
              show Steps p.tables e below (T57.setTop (mkF m 115 #[.val (.int p1), .val (.int p2), .val (.int p3), .val (.int kx), .val (.ref aA), .val (.int ng), .val (.int ps), .val (.int (if aA = aE then (0 : Int32) else if aA = aN then (0 : Int32) else (1 : Int32))), .val (.ref saA), .unset, .unset, .unset] [(.int (nar .char (nar .char (((62 : Int32) &&& (255 : Int32)).toUInt32.toUInt16.toUInt32.toInt32))))])) _
              refine XS.istore X57.here hx rfl (hb hby at_115) rfl (l' := #[.val (.int p1), .val (.int p2), .val (.int p3), .val (.int kx), .val (.ref aA), .val (.int ng), .val (.int ps), .val (.int (if aA = aE then (0 : Int32) else if aA = aN then (0 : Int32) else (1 : Int32))), .val (.ref saA), .val (.int (nar .char (nar .char (((62 : Int32) &&& (255 : Int32)).toUInt32.toUInt16.toUInt32.toInt32)))), .unset, .unset]) rfl ?_
              show Steps p.tables e below (T57.setTop (mkF m 117 #[.val (.int p1), .val (.int p2), .val (.int p3), .val (.int kx), .val (.ref aA), .val (.int ng), .val (.int ps), .val (.int (if aA = aE then (0 : Int32) else if aA = aN then (0 : Int32) else (1 : Int32))), .val (.ref saA), .val (.int (nar .char (nar .char (((62 : Int32) &&& (255 : Int32)).toUInt32.toUInt16.toUInt32.toInt32)))), .unset, .unset] [])) _
              refine XS.iload X57.here hx rfl (hb hby at_117) rfl ?_
              show Steps p.tables e below (T57.setTop (mkF m 119 #[.val (.int p1), .val (.int p2), .val (.int p3), .val (.int kx), .val (.ref aA), .val (.int ng), .val (.int ps), .val (.int (if aA = aE then (0 : Int32) else if aA = aN then (0 : Int32) else (1 : Int32))), .val (.ref saA), .val (.int (nar .char (nar .char (((62 : Int32) &&& (255 : Int32)).toUInt32.toUInt16.toUInt32.toInt32)))), .unset, .unset] [(.int (nar .char (nar .char (((62 : Int32) &&& (255 : Int32)).toUInt32.toUInt16.toUInt32.toInt32))))])) _
              refine XS.bipush X57.here hx rfl (hb hby at_119) ?_
              show Steps p.tables e below (T57.setTop (mkF m 121 #[.val (.int p1), .val (.int p2), .val (.int p3), .val (.int kx), .val (.ref aA), .val (.int ng), .val (.int ps), .val (.int (if aA = aE then (0 : Int32) else if aA = aN then (0 : Int32) else (1 : Int32))), .val (.ref saA), .val (.int (nar .char (nar .char (((62 : Int32) &&& (255 : Int32)).toUInt32.toUInt16.toUInt32.toInt32)))), .unset, .unset] [(.int (60 : Int32)), (.int (nar .char (nar .char (((62 : Int32) &&& (255 : Int32)).toUInt32.toUInt16.toUInt32.toInt32))))])) _
              refine XS.icmpNo X57.here hx rfl (hb hby at_121) rfl (feq hc121).1 ?_
              show Steps p.tables e below (T57.setTop (mkF m 124 #[.val (.int p1), .val (.int p2), .val (.int p3), .val (.int kx), .val (.ref aA), .val (.int ng), .val (.int ps), .val (.int (if aA = aE then (0 : Int32) else if aA = aN then (0 : Int32) else (1 : Int32))), .val (.ref saA), .val (.int (nar .char (nar .char (((62 : Int32) &&& (255 : Int32)).toUInt32.toUInt16.toUInt32.toInt32)))), .unset, .unset] [])) _
              refine XS.iload X57.here hx rfl (hb hby at_124) rfl ?_
              show Steps p.tables e below (T57.setTop (mkF m 126 #[.val (.int p1), .val (.int p2), .val (.int p3), .val (.int kx), .val (.ref aA), .val (.int ng), .val (.int ps), .val (.int (if aA = aE then (0 : Int32) else if aA = aN then (0 : Int32) else (1 : Int32))), .val (.ref saA), .val (.int (nar .char (nar .char (((62 : Int32) &&& (255 : Int32)).toUInt32.toUInt16.toUInt32.toInt32)))), .unset, .unset] [(.int (nar .char (nar .char (((62 : Int32) &&& (255 : Int32)).toUInt32.toUInt16.toUInt32.toInt32))))])) _
              refine XS.bipush X57.here hx rfl (hb hby at_126) ?_
              show Steps p.tables e below (T57.setTop (mkF m 128 #[.val (.int p1), .val (.int p2), .val (.int p3), .val (.int kx), .val (.ref aA), .val (.int ng), .val (.int ps), .val (.int (if aA = aE then (0 : Int32) else if aA = aN then (0 : Int32) else (1 : Int32))), .val (.ref saA), .val (.int (nar .char (nar .char (((62 : Int32) &&& (255 : Int32)).toUInt32.toUInt16.toUInt32.toInt32)))), .unset, .unset] [(.int (62 : Int32)), (.int (nar .char (nar .char (((62 : Int32) &&& (255 : Int32)).toUInt32.toUInt16.toUInt32.toInt32))))])) _
              refine XS.icmpNo X57.here hx rfl (hb hby at_128) rfl (teq hc128).2 ?_
              show Steps p.tables e below (T57.setTop (mkF m 131 #[.val (.int p1), .val (.int p2), .val (.int p3), .val (.int kx), .val (.ref aA), .val (.int ng), .val (.int ps), .val (.int (if aA = aE then (0 : Int32) else if aA = aN then (0 : Int32) else (1 : Int32))), .val (.ref saA), .val (.int (nar .char (nar .char (((62 : Int32) &&& (255 : Int32)).toUInt32.toUInt16.toUInt32.toInt32)))), .unset, .unset] [])) _
              refine XS.iconst X57.here hx rfl (hb hby at_131) ?_
              show Steps p.tables e below (T57.setTop (mkF m 132 #[.val (.int p1), .val (.int p2), .val (.int p3), .val (.int kx), .val (.ref aA), .val (.int ng), .val (.int ps), .val (.int (if aA = aE then (0 : Int32) else if aA = aN then (0 : Int32) else (1 : Int32))), .val (.ref saA), .val (.int (nar .char (nar .char (((62 : Int32) &&& (255 : Int32)).toUInt32.toUInt16.toUInt32.toInt32)))), .unset, .unset] [(.int (1 : Int32))])) _
              refine XS.goto X57.here hx rfl (pc0 := 132) (pc' := 136) rfl (hb hby at_132) (by decide) (by decide) ?_
              show Steps p.tables e below (T57.setTop (mkF m 136 #[.val (.int p1), .val (.int p2), .val (.int p3), .val (.int kx), .val (.ref aA), .val (.int ng), .val (.int ps), .val (.int (if aA = aE then (0 : Int32) else if aA = aN then (0 : Int32) else (1 : Int32))), .val (.ref saA), .val (.int (nar .char (nar .char (((62 : Int32) &&& (255 : Int32)).toUInt32.toUInt16.toUInt32.toInt32)))), .unset, .unset] [(.int (1 : Int32))])) _
              refine XS.istore X57.here hx rfl (hb hby at_136) rfl (l' := #[.val (.int p1), .val (.int p2), .val (.int p3), .val (.int kx), .val (.ref aA), .val (.int ng), .val (.int ps), .val (.int (if aA = aE then (0 : Int32) else if aA = aN then (0 : Int32) else (1 : Int32))), .val (.ref saA), .val (.int (nar .char (nar .char (((62 : Int32) &&& (255 : Int32)).toUInt32.toUInt16.toUInt32.toInt32)))), .val (.int (1 : Int32)), .unset]) rfl ?_
              show Steps p.tables e below (T57.setTop (mkF m 138 #[.val (.int p1), .val (.int p2), .val (.int p3), .val (.int kx), .val (.ref aA), .val (.int ng), .val (.int ps), .val (.int (if aA = aE then (0 : Int32) else if aA = aN then (0 : Int32) else (1 : Int32))), .val (.ref saA), .val (.int (nar .char (nar .char (((62 : Int32) &&& (255 : Int32)).toUInt32.toUInt16.toUInt32.toInt32)))), .val (.int (1 : Int32)), .unset] [])) _
              refine XS.aload X57.here hx rfl (hb hby at_138) rfl rfl ?_
              show Steps p.tables e below (T57.setTop (mkF m 140 #[.val (.int p1), .val (.int p2), .val (.int p3), .val (.int kx), .val (.ref aA), .val (.int ng), .val (.int ps), .val (.int (if aA = aE then (0 : Int32) else if aA = aN then (0 : Int32) else (1 : Int32))), .val (.ref saA), .val (.int (nar .char (nar .char (((62 : Int32) &&& (255 : Int32)).toUInt32.toUInt16.toUInt32.toInt32)))), .val (.int (1 : Int32)), .unset] [(.ref aA)])) _
              refine XS.iload X57.here hx rfl (hb hby at_140) rfl ?_
              show Steps p.tables e below (T57.setTop (mkF m 142 #[.val (.int p1), .val (.int p2), .val (.int p3), .val (.int kx), .val (.ref aA), .val (.int ng), .val (.int ps), .val (.int (if aA = aE then (0 : Int32) else if aA = aN then (0 : Int32) else (1 : Int32))), .val (.ref saA), .val (.int (nar .char (nar .char (((62 : Int32) &&& (255 : Int32)).toUInt32.toUInt16.toUInt32.toInt32)))), .val (.int (1 : Int32)), .unset] [(.int ng), (.ref aA)])) _
              refine st58.trans ?_
              show Steps p.tables e below (T58.setTop (mkF m 145 #[.val (.int p1), .val (.int p2), .val (.int p3), .val (.int kx), .val (.ref aA), .val (.int ng), .val (.int ps), .val (.int (if aA = aE then (0 : Int32) else if aA = aN then (0 : Int32) else (1 : Int32))), .val (.ref saA), .val (.int (nar .char (nar .char (((62 : Int32) &&& (255 : Int32)).toUInt32.toUInt16.toUInt32.toInt32)))), .val (.int (1 : Int32)), .unset] [(.int (own_holds (5 : Int32) ng))])) _
              refine XS.aload X58.here hx rfl (hb hby at_145) rfl rfl ?_
              show Steps p.tables e below (T58.setTop (mkF m 147 #[.val (.int p1), .val (.int p2), .val (.int p3), .val (.int kx), .val (.ref aA), .val (.int ng), .val (.int ps), .val (.int (if aA = aE then (0 : Int32) else if aA = aN then (0 : Int32) else (1 : Int32))), .val (.ref saA), .val (.int (nar .char (nar .char (((62 : Int32) &&& (255 : Int32)).toUInt32.toUInt16.toUInt32.toInt32)))), .val (.int (1 : Int32)), .unset] [(.ref aA), (.int (own_holds (5 : Int32) ng))])) _
              refine XS.iload X58.here hx rfl (hb hby at_147) rfl ?_
              show Steps p.tables e below (T58.setTop (mkF m 149 #[.val (.int p1), .val (.int p2), .val (.int p3), .val (.int kx), .val (.ref aA), .val (.int ng), .val (.int ps), .val (.int (if aA = aE then (0 : Int32) else if aA = aN then (0 : Int32) else (1 : Int32))), .val (.ref saA), .val (.int (nar .char (nar .char (((62 : Int32) &&& (255 : Int32)).toUInt32.toUInt16.toUInt32.toInt32)))), .val (.int (1 : Int32)), .unset] [(.int ps), (.ref aA), (.int (own_holds (5 : Int32) ng))])) _
              refine st59.trans ?_
              show Steps p.tables e below (T59.setTop (mkF m 152 #[.val (.int p1), .val (.int p2), .val (.int p3), .val (.int kx), .val (.ref aA), .val (.int ng), .val (.int ps), .val (.int (if aA = aE then (0 : Int32) else if aA = aN then (0 : Int32) else (1 : Int32))), .val (.ref saA), .val (.int (nar .char (nar .char (((62 : Int32) &&& (255 : Int32)).toUInt32.toUInt16.toUInt32.toInt32)))), .val (.int (1 : Int32)), .unset] [(.int (own_holds (5 : Int32) ps)), (.int (own_holds (5 : Int32) ng))])) _
              refine XS.icmpNo X59.here hx rfl (hb hby at_152) rfl (feq hc152).1 ?_
              show Steps p.tables e below (T59.setTop (mkF m 155 #[.val (.int p1), .val (.int p2), .val (.int p3), .val (.int kx), .val (.ref aA), .val (.int ng), .val (.int ps), .val (.int (if aA = aE then (0 : Int32) else if aA = aN then (0 : Int32) else (1 : Int32))), .val (.ref saA), .val (.int (nar .char (nar .char (((62 : Int32) &&& (255 : Int32)).toUInt32.toUInt16.toUInt32.toInt32)))), .val (.int (1 : Int32)), .unset] [])) _
              refine XS.iconst X59.here hx rfl (hb hby at_155) ?_
              show Steps p.tables e below (T59.setTop (mkF m 156 #[.val (.int p1), .val (.int p2), .val (.int p3), .val (.int kx), .val (.ref aA), .val (.int ng), .val (.int ps), .val (.int (if aA = aE then (0 : Int32) else if aA = aN then (0 : Int32) else (1 : Int32))), .val (.ref saA), .val (.int (nar .char (nar .char (((62 : Int32) &&& (255 : Int32)).toUInt32.toUInt16.toUInt32.toInt32)))), .val (.int (1 : Int32)), .unset] [(.int (1 : Int32))])) _
              refine XS.goto X59.here hx rfl (pc0 := 156) (pc' := 160) rfl (hb hby at_156) (by decide) (by decide) ?_
              show Steps p.tables e below (T59.setTop (mkF m 160 #[.val (.int p1), .val (.int p2), .val (.int p3), .val (.int kx), .val (.ref aA), .val (.int ng), .val (.int ps), .val (.int (if aA = aE then (0 : Int32) else if aA = aN then (0 : Int32) else (1 : Int32))), .val (.ref saA), .val (.int (nar .char (nar .char (((62 : Int32) &&& (255 : Int32)).toUInt32.toUInt16.toUInt32.toInt32)))), .val (.int (1 : Int32)), .unset] [(.int (1 : Int32))])) _
              refine XS.istore X59.here hx rfl (hb hby at_160) rfl (l' := #[.val (.int p1), .val (.int p2), .val (.int p3), .val (.int kx), .val (.ref aA), .val (.int ng), .val (.int ps), .val (.int (if aA = aE then (0 : Int32) else if aA = aN then (0 : Int32) else (1 : Int32))), .val (.ref saA), .val (.int (nar .char (nar .char (((62 : Int32) &&& (255 : Int32)).toUInt32.toUInt16.toUInt32.toInt32)))), .val (.int (1 : Int32)), .val (.int (1 : Int32))]) rfl ?_
              show Steps p.tables e below (T59.setTop (mkF m 162 #[.val (.int p1), .val (.int p2), .val (.int p3), .val (.int kx), .val (.ref aA), .val (.int ng), .val (.int ps), .val (.int (if aA = aE then (0 : Int32) else if aA = aN then (0 : Int32) else (1 : Int32))), .val (.ref saA), .val (.int (nar .char (nar .char (((62 : Int32) &&& (255 : Int32)).toUInt32.toUInt16.toUInt32.toInt32)))), .val (.int (1 : Int32)), .val (.int (1 : Int32))] [])) _
              refine XS.iload X59.here hx rfl (hb hby at_162) rfl ?_
              show Steps p.tables e below (T59.setTop (mkF m 164 #[.val (.int p1), .val (.int p2), .val (.int p3), .val (.int kx), .val (.ref aA), .val (.int ng), .val (.int ps), .val (.int (if aA = aE then (0 : Int32) else if aA = aN then (0 : Int32) else (1 : Int32))), .val (.ref saA), .val (.int (nar .char (nar .char (((62 : Int32) &&& (255 : Int32)).toUInt32.toUInt16.toUInt32.toInt32)))), .val (.int (1 : Int32)), .val (.int (1 : Int32))] [(.int (if aA = aE then (0 : Int32) else if aA = aN then (0 : Int32) else (1 : Int32)))])) _
              refine XS.iload X59.here hx rfl (hb hby at_164) rfl ?_
              show Steps p.tables e below (T59.setTop (mkF m 166 #[.val (.int p1), .val (.int p2), .val (.int p3), .val (.int kx), .val (.ref aA), .val (.int ng), .val (.int ps), .val (.int (if aA = aE then (0 : Int32) else if aA = aN then (0 : Int32) else (1 : Int32))), .val (.ref saA), .val (.int (nar .char (nar .char (((62 : Int32) &&& (255 : Int32)).toUInt32.toUInt16.toUInt32.toInt32)))), .val (.int (1 : Int32)), .val (.int (1 : Int32))] [(.int (1 : Int32)), (.int (if aA = aE then (0 : Int32) else if aA = aN then (0 : Int32) else (1 : Int32)))])) _
              refine XS.icmpNo X59.here hx rfl (hb hby at_166) rfl (teq hc166).2 ?_
              show Steps p.tables e below (T59.setTop (mkF m 169 #[.val (.int p1), .val (.int p2), .val (.int p3), .val (.int kx), .val (.ref aA), .val (.int ng), .val (.int ps), .val (.int (if aA = aE then (0 : Int32) else if aA = aN then (0 : Int32) else (1 : Int32))), .val (.ref saA), .val (.int (nar .char (nar .char (((62 : Int32) &&& (255 : Int32)).toUInt32.toUInt16.toUInt32.toInt32)))), .val (.int (1 : Int32)), .val (.int (1 : Int32))] [])) _
              refine XS.iload X59.here hx rfl (hb hby at_169) rfl ?_
              show Steps p.tables e below (T59.setTop (mkF m 171 #[.val (.int p1), .val (.int p2), .val (.int p3), .val (.int kx), .val (.ref aA), .val (.int ng), .val (.int ps), .val (.int (if aA = aE then (0 : Int32) else if aA = aN then (0 : Int32) else (1 : Int32))), .val (.ref saA), .val (.int (nar .char (nar .char (((62 : Int32) &&& (255 : Int32)).toUInt32.toUInt16.toUInt32.toInt32)))), .val (.int (1 : Int32)), .val (.int (1 : Int32))] [(.int (if aA = aE then (0 : Int32) else if aA = aN then (0 : Int32) else (1 : Int32)))])) _
              refine XS.iload X59.here hx rfl (hb hby at_171) rfl ?_
              show Steps p.tables e below (T59.setTop (mkF m 173 #[.val (.int p1), .val (.int p2), .val (.int p3), .val (.int kx), .val (.ref aA), .val (.int ng), .val (.int ps), .val (.int (if aA = aE then (0 : Int32) else if aA = aN then (0 : Int32) else (1 : Int32))), .val (.ref saA), .val (.int (nar .char (nar .char (((62 : Int32) &&& (255 : Int32)).toUInt32.toUInt16.toUInt32.toInt32)))), .val (.int (1 : Int32)), .val (.int (1 : Int32))] [(.int (1 : Int32)), (.int (if aA = aE then (0 : Int32) else if aA = aN then (0 : Int32) else (1 : Int32)))])) _
              refine XS.icmpNo X59.here hx rfl (hb hby at_173) rfl (teq hc173).2 ?_
              show Steps p.tables e below (T59.setTop (mkF m 176 #[.val (.int p1), .val (.int p2), .val (.int p3), .val (.int kx), .val (.ref aA), .val (.int ng), .val (.int ps), .val (.int (if aA = aE then (0 : Int32) else if aA = aN then (0 : Int32) else (1 : Int32))), .val (.ref saA), .val (.int (nar .char (nar .char (((62 : Int32) &&& (255 : Int32)).toUInt32.toUInt16.toUInt32.toInt32)))), .val (.int (1 : Int32)), .val (.int (1 : Int32))] [])) _
              refine XS.iconst X59.here hx rfl (hb hby at_176) ?_
              show Steps p.tables e below (T59.setTop (mkF m 177 #[.val (.int p1), .val (.int p2), .val (.int p3), .val (.int kx), .val (.ref aA), .val (.int ng), .val (.int ps), .val (.int (if aA = aE then (0 : Int32) else if aA = aN then (0 : Int32) else (1 : Int32))), .val (.ref saA), .val (.int (nar .char (nar .char (((62 : Int32) &&& (255 : Int32)).toUInt32.toUInt16.toUInt32.toInt32)))), .val (.int (1 : Int32)), .val (.int (1 : Int32))] [(.int (1 : Int32))])) _
              refine XS.goto X59.here hx rfl (pc0 := 177) (pc' := 181) rfl (hb hby at_177) (by decide) (by decide) ?_
              show Steps p.tables e below (T59.setTop (mkF m 181 #[.val (.int p1), .val (.int p2), .val (.int p3), .val (.int kx), .val (.ref aA), .val (.int ng), .val (.int ps), .val (.int (if aA = aE then (0 : Int32) else if aA = aN then (0 : Int32) else (1 : Int32))), .val (.ref saA), .val (.int (nar .char (nar .char (((62 : Int32) &&& (255 : Int32)).toUInt32.toUInt16.toUInt32.toInt32)))), .val (.int (1 : Int32)), .val (.int (1 : Int32))] [(.int (1 : Int32))])) _
              exact retN X59 hx (t := .boolean) Bd.returns (by simp) (hb hby at_181) hr
            · show Q_0 Z p1 p2 p3 h0 n0 _ T59.heap _
              rw [e59]
              exact ⟨rfl, N59⟩
set_option maxRecDepth 65536 in
set_option maxHeartbeats 40000000 in
theorem comes_1 {Post : Tables → Env → Array Value → State → Outcome → State → Prop} (hpost : ∀ tb e args s v u, (limb_1_1.after args s (.returned v) u = true ∧ limb_1_2.after args s (.returned v) u = true ∧ True) → FrameEnd s (.returned v) u (Jvm.fieldLocs frame_1_writes args s ++ Jvm.arrayLocs frame_1_arrays args s ++ Jvm.staticLocs frame_1_statics s) 0 0 → Post tb e args s (.returned v) u) :
    ArmFor flags0 classFile x code maxLocals ret World_1 tables_1 room_1 Calls_1 rest_1 Pre_1 Post := by
  intro l hfl _ _ p e ha hc hk s m args below hf hA hF happ hP
  obtain ⟨hcalls, hrest, hpre⟩ := hP
  obtain ⟨-, -, -, hnamed, -, -, -, hat⟩ := (Spec.applies_iff hf).mp happ
  obtain ⟨hg, hn⟩ := and_e (Cond.before_iff.mp (show (Jvm.Cond.and given_1 narrow_1).before args s = true from hpre))
  obtain ⟨g60, g61⟩ := and_e hg
  obtain ⟨g62, g63⟩ := and_e g61
  obtain ⟨g64, g65⟩ := and_e g63
  obtain ⟨k66, k67⟩ := and_e hn
  obtain ⟨k68, k69⟩ := and_e k67
  obtain ⟨k70, k71⟩ := and_e k69
  obtain ⟨k72, k73⟩ := and_e k71
  obtain ⟨k74, k75⟩ := and_e k73
  obtain ⟨k76, k77⟩ := and_e k75
  obtain ⟨k78, k79⟩ := and_e k77
  obtain ⟨k80, k81⟩ := and_e k79
  obtain ⟨k82, k83⟩ := and_e k81
  obtain ⟨k84, k85⟩ := and_e k83
  obtain ⟨k86, k87⟩ := and_e k85
  obtain ⟨k88, k89⟩ := and_e k87
  obtain ⟨k90, k91⟩ := and_e k89
  obtain ⟨k92, k93⟩ := and_e k91
  obtain ⟨k94, k95⟩ := and_e k93
  obtain ⟨k96, k97⟩ := and_e k95
  obtain ⟨k98, k99⟩ := and_e k97
  obtain ⟨k100, k101⟩ := and_e k99
  obtain ⟨k102, k103⟩ := and_e k101
  obtain ⟨k104, k105⟩ := and_e k103
  obtain ⟨k106, k107⟩ := and_e k105
  obtain ⟨k108, k109⟩ := and_e k107
  obtain ⟨k110, k111⟩ := and_e k109
  obtain ⟨k112, k113⟩ := and_e k111
  obtain ⟨k114, k115⟩ := and_e k113
  obtain ⟨k116, k117⟩ := and_e k115
  obtain ⟨k118, k119⟩ := and_e k117
  obtain ⟨k120, k121⟩ := and_e k119
  obtain ⟨k122, k123⟩ := and_e k121
  obtain ⟨k124, k125⟩ := and_e k123
  obtain ⟨k126, k127⟩ := and_e k125
  obtain ⟨k128, k129⟩ := and_e k127
  obtain ⟨k130, k131⟩ := and_e k129
  obtain ⟨k132, k133⟩ := and_e k131
  obtain ⟨k134, k135⟩ := and_e k133
  obtain ⟨k136, k137⟩ := and_e k135
  obtain ⟨k138, k139⟩ := and_e k137
  obtain ⟨k140, k141⟩ := and_e k139
  obtain ⟨k142, k143⟩ := and_e k141
  obtain ⟨k144, k145⟩ := and_e k143
  obtain ⟨k146, k147⟩ := and_e k145
  obtain ⟨k148, k149⟩ := and_e k147
  obtain ⟨k150, k151⟩ := and_e k149
  obtain ⟨k152, k153⟩ := and_e k151
  obtain ⟨k154, k155⟩ := and_e k153
  obtain ⟨w0, w1, w2, rfl⟩ : ∃ w0 w1 w2 : Value, args = #[w0, w1, w2] := by
    have hs : args.size = 3 := by simpa [Cond.value, given_1] using g60
    obtain ⟨L⟩ := args
    match L, hs with
    | [w0, w1, w2], _ => exact ⟨w0, w1, w2, rfl⟩
  have hw := fun d (hd : d ∈ tables_1) => atoms_spec (ws := Jvm.Cond.code x code maxLocals ret :: tables_1) hat d (List.mem_cons_of_mem _ hd)
  have hfit : Fit s := fun {y c} hc i hi => by
    obtain ⟨ha, rfl⟩ := Array.getElem?_eq_some_iff.mp hc
    have q := List.all_eq_true.mp ((Array.all_eq_true_iff_forall_mem.mp hF) _ (Array.getElem_mem ha)) i (List.mem_range.mpr hi)
    simpa [Array.getElem?_eq_getElem hi] using q
  obtain ⟨hsets, hown0⟩ := atoms_of _ (rest_1_c_eq ▸ (show rest_1_c.before _ s = true from hrest))
  have hr0 := Cond.before_iff.mp hown0
  obtain ⟨i0, ei0⟩ := is_v g62
  obtain rfl : w0 = (.int i0) := Option.some.inj ei0
  obtain ⟨i1, ei1⟩ := is_v g64
  obtain rfl : w1 = (.int i1) := Option.some.inj ei1
  obtain ⟨i2, ei2⟩ := is_v g65
  obtain rfl : w2 = (.int i2) := Option.some.inj ei2
  obtain ⟨a_EQUAL, v_EQUAL⟩ := exa_v k66
  have S_EQUAL : Sta s s.heap "com/example/furlong/furlong/model/Condition$Operator" "EQUAL" "Lcom/example/furlong/furlong/model/Condition$Operator;" (.ref a_EQUAL) := Sta.start v_EQUAL (Or.inr ⟨(hw _ (List.mem_of_getElem? (i := 2) rfl)), (hw _ (List.mem_of_getElem? (i := 3) rfl))⟩)
  have E_EQUAL : Exa s s.heap a_EQUAL "com/example/furlong/furlong/model/Condition$Operator" := Exa.start v_EQUAL k66
  obtain ⟨a_EQUAL_symbol, v_EQUAL_symbol⟩ := exa_v k68
  have F_EQUAL_symbol : Fld s s.heap a_EQUAL "com/example/furlong/furlong/model/Condition$Operator" "symbol" "Ljava/lang/String;" (.ref a_EQUAL_symbol) := Fld.start ((fld_at v_EQUAL).symm.trans v_EQUAL_symbol)
  have E_EQUAL_symbol : Exa s s.heap a_EQUAL_symbol "java/lang/String" := Exa.start v_EQUAL_symbol k68
  have F_EQUAL_symbol_coder : Fld s s.heap a_EQUAL_symbol "java/lang/String" "coder" "B" (.int (0 : Int32)) := Fld.start ((fld_at v_EQUAL_symbol).symm.trans (own_eqI k70))
  obtain ⟨a_EQUAL_symbol_value, v_EQUAL_symbol_value⟩ := arr_v k72
  have F_EQUAL_symbol_value : Fld s s.heap a_EQUAL_symbol "java/lang/String" "value" "[B" (.ref a_EQUAL_symbol_value) := Fld.start ((fld_at v_EQUAL_symbol).symm.trans v_EQUAL_symbol_value)
  obtain ⟨c_EQUAL_symbol_value, A_EQUAL_symbol_value⟩ := Arr.start v_EQUAL_symbol_value k72
  have l_EQUAL_symbol_value := own_eqI k74
  have m_EQUAL_symbol_value_0 := (elem_in (own_eqI k76) v_EQUAL_symbol_value (Term.int_eval (0)) A_EQUAL_symbol_value.1)
  have F_EQUAL_ordinal : Fld s s.heap a_EQUAL "java/lang/Enum" "ordinal" "I" (.int (0 : Int32)) := Fld.start ((fld_at v_EQUAL).symm.trans (own_eqI k78))
  obtain ⟨a_NOT_EQUAL, v_NOT_EQUAL⟩ := exa_v k80
  have S_NOT_EQUAL : Sta s s.heap "com/example/furlong/furlong/model/Condition$Operator" "NOT_EQUAL" "Lcom/example/furlong/furlong/model/Condition$Operator;" (.ref a_NOT_EQUAL) := Sta.start v_NOT_EQUAL (Or.inr ⟨(hw _ (List.mem_of_getElem? (i := 2) rfl)), (hw _ (List.mem_of_getElem? (i := 64) rfl))⟩)
  have E_NOT_EQUAL : Exa s s.heap a_NOT_EQUAL "com/example/furlong/furlong/model/Condition$Operator" := Exa.start v_NOT_EQUAL k80
  have F_NOT_EQUAL_ordinal : Fld s s.heap a_NOT_EQUAL "java/lang/Enum" "ordinal" "I" (.int (1 : Int32)) := Fld.start ((fld_at v_NOT_EQUAL).symm.trans (own_eqI k82))
  obtain ⟨a_NOT_EQUAL_symbol, v_NOT_EQUAL_symbol⟩ := exa_v k84
  have F_NOT_EQUAL_symbol : Fld s s.heap a_NOT_EQUAL "com/example/furlong/furlong/model/Condition$Operator" "symbol" "Ljava/lang/String;" (.ref a_NOT_EQUAL_symbol) := Fld.start ((fld_at v_NOT_EQUAL).symm.trans v_NOT_EQUAL_symbol)
  have E_NOT_EQUAL_symbol : Exa s s.heap a_NOT_EQUAL_symbol "java/lang/String" := Exa.start v_NOT_EQUAL_symbol k84
  have F_NOT_EQUAL_symbol_coder : Fld s s.heap a_NOT_EQUAL_symbol "java/lang/String" "coder" "B" (.int (0 : Int32)) := Fld.start ((fld_at v_NOT_EQUAL_symbol).symm.trans (own_eqI k86))
  obtain ⟨a_NOT_EQUAL_symbol_value, v_NOT_EQUAL_symbol_value⟩ := arr_v k88
  have F_NOT_EQUAL_symbol_value : Fld s s.heap a_NOT_EQUAL_symbol "java/lang/String" "value" "[B" (.ref a_NOT_EQUAL_symbol_value) := Fld.start ((fld_at v_NOT_EQUAL_symbol).symm.trans v_NOT_EQUAL_symbol_value)
  obtain ⟨c_NOT_EQUAL_symbol_value, A_NOT_EQUAL_symbol_value⟩ := Arr.start v_NOT_EQUAL_symbol_value k88
  have l_NOT_EQUAL_symbol_value := own_eqI k90
  have m_NOT_EQUAL_symbol_value_0 := (elem_in (own_eqI k92) v_NOT_EQUAL_symbol_value (Term.int_eval (0)) A_NOT_EQUAL_symbol_value.1)
  obtain ⟨a_AT_MOST, v_AT_MOST⟩ := exa_v k94
  have S_AT_MOST : Sta s s.heap "com/example/furlong/furlong/model/Condition$Operator" "AT_MOST" "Lcom/example/furlong/furlong/model/Condition$Operator;" (.ref a_AT_MOST) := Sta.start v_AT_MOST (Or.inr ⟨(hw _ (List.mem_of_getElem? (i := 2) rfl)), (hw _ (List.mem_of_getElem? (i := 67) rfl))⟩)
  have E_AT_MOST : Exa s s.heap a_AT_MOST "com/example/furlong/furlong/model/Condition$Operator" := Exa.start v_AT_MOST k94
  have F_AT_MOST_ordinal : Fld s s.heap a_AT_MOST "java/lang/Enum" "ordinal" "I" (.int (2 : Int32)) := Fld.start ((fld_at v_AT_MOST).symm.trans (own_eqI k96))
  obtain ⟨a_AT_MOST_symbol, v_AT_MOST_symbol⟩ := exa_v k98
  have F_AT_MOST_symbol : Fld s s.heap a_AT_MOST "com/example/furlong/furlong/model/Condition$Operator" "symbol" "Ljava/lang/String;" (.ref a_AT_MOST_symbol) := Fld.start ((fld_at v_AT_MOST).symm.trans v_AT_MOST_symbol)
  have E_AT_MOST_symbol : Exa s s.heap a_AT_MOST_symbol "java/lang/String" := Exa.start v_AT_MOST_symbol k98
  have F_AT_MOST_symbol_coder : Fld s s.heap a_AT_MOST_symbol "java/lang/String" "coder" "B" (.int (0 : Int32)) := Fld.start ((fld_at v_AT_MOST_symbol).symm.trans (own_eqI k100))
  obtain ⟨a_AT_MOST_symbol_value, v_AT_MOST_symbol_value⟩ := arr_v k102
  have F_AT_MOST_symbol_value : Fld s s.heap a_AT_MOST_symbol "java/lang/String" "value" "[B" (.ref a_AT_MOST_symbol_value) := Fld.start ((fld_at v_AT_MOST_symbol).symm.trans v_AT_MOST_symbol_value)
  obtain ⟨c_AT_MOST_symbol_value, A_AT_MOST_symbol_value⟩ := Arr.start v_AT_MOST_symbol_value k102
  have l_AT_MOST_symbol_value := own_eqI k104
  have m_AT_MOST_symbol_value_0 := (elem_in (own_eqI k106) v_AT_MOST_symbol_value (Term.int_eval (0)) A_AT_MOST_symbol_value.1)
  obtain ⟨a_ABOVE, v_ABOVE⟩ := exa_v k108
  have S_ABOVE : Sta s s.heap "com/example/furlong/furlong/model/Condition$Operator" "ABOVE" "Lcom/example/furlong/furlong/model/Condition$Operator;" (.ref a_ABOVE) := Sta.start v_ABOVE (Or.inr ⟨(hw _ (List.mem_of_getElem? (i := 2) rfl)), (hw _ (List.mem_of_getElem? (i := 69) rfl))⟩)
  have E_ABOVE : Exa s s.heap a_ABOVE "com/example/furlong/furlong/model/Condition$Operator" := Exa.start v_ABOVE k108
  have F_ABOVE_ordinal : Fld s s.heap a_ABOVE "java/lang/Enum" "ordinal" "I" (.int (5 : Int32)) := Fld.start ((fld_at v_ABOVE).symm.trans (own_eqI k110))
  obtain ⟨a_ABOVE_symbol, v_ABOVE_symbol⟩ := exa_v k112
  have F_ABOVE_symbol : Fld s s.heap a_ABOVE "com/example/furlong/furlong/model/Condition$Operator" "symbol" "Ljava/lang/String;" (.ref a_ABOVE_symbol) := Fld.start ((fld_at v_ABOVE).symm.trans v_ABOVE_symbol)
  have E_ABOVE_symbol : Exa s s.heap a_ABOVE_symbol "java/lang/String" := Exa.start v_ABOVE_symbol k112
  have F_ABOVE_symbol_coder : Fld s s.heap a_ABOVE_symbol "java/lang/String" "coder" "B" (.int (0 : Int32)) := Fld.start ((fld_at v_ABOVE_symbol).symm.trans (own_eqI k114))
  obtain ⟨a_ABOVE_symbol_value, v_ABOVE_symbol_value⟩ := arr_v k116
  have F_ABOVE_symbol_value : Fld s s.heap a_ABOVE_symbol "java/lang/String" "value" "[B" (.ref a_ABOVE_symbol_value) := Fld.start ((fld_at v_ABOVE_symbol).symm.trans v_ABOVE_symbol_value)
  obtain ⟨c_ABOVE_symbol_value, A_ABOVE_symbol_value⟩ := Arr.start v_ABOVE_symbol_value k116
  have l_ABOVE_symbol_value := own_eqI k118
  have m_ABOVE_symbol_value_0 := (elem_in (own_eqI k120) v_ABOVE_symbol_value (Term.int_eval (0)) A_ABOVE_symbol_value.1)
  obtain ⟨a_AT_LEAST, v_AT_LEAST⟩ := exa_v k122
  have S_AT_LEAST : Sta s s.heap "com/example/furlong/furlong/model/Condition$Operator" "AT_LEAST" "Lcom/example/furlong/furlong/model/Condition$Operator;" (.ref a_AT_LEAST) := Sta.start v_AT_LEAST (Or.inr ⟨(hw _ (List.mem_of_getElem? (i := 2) rfl)), (hw _ (List.mem_of_getElem? (i := 71) rfl))⟩)
  have E_AT_LEAST : Exa s s.heap a_AT_LEAST "com/example/furlong/furlong/model/Condition$Operator" := Exa.start v_AT_LEAST k122
  have F_AT_LEAST_ordinal : Fld s s.heap a_AT_LEAST "java/lang/Enum" "ordinal" "I" (.int (3 : Int32)) := Fld.start ((fld_at v_AT_LEAST).symm.trans (own_eqI k124))
  obtain ⟨a_AT_LEAST_symbol, v_AT_LEAST_symbol⟩ := exa_v k126
  have F_AT_LEAST_symbol : Fld s s.heap a_AT_LEAST "com/example/furlong/furlong/model/Condition$Operator" "symbol" "Ljava/lang/String;" (.ref a_AT_LEAST_symbol) := Fld.start ((fld_at v_AT_LEAST).symm.trans v_AT_LEAST_symbol)
  have E_AT_LEAST_symbol : Exa s s.heap a_AT_LEAST_symbol "java/lang/String" := Exa.start v_AT_LEAST_symbol k126
  have F_AT_LEAST_symbol_coder : Fld s s.heap a_AT_LEAST_symbol "java/lang/String" "coder" "B" (.int (0 : Int32)) := Fld.start ((fld_at v_AT_LEAST_symbol).symm.trans (own_eqI k128))
  obtain ⟨a_AT_LEAST_symbol_value, v_AT_LEAST_symbol_value⟩ := arr_v k130
  have F_AT_LEAST_symbol_value : Fld s s.heap a_AT_LEAST_symbol "java/lang/String" "value" "[B" (.ref a_AT_LEAST_symbol_value) := Fld.start ((fld_at v_AT_LEAST_symbol).symm.trans v_AT_LEAST_symbol_value)
  obtain ⟨c_AT_LEAST_symbol_value, A_AT_LEAST_symbol_value⟩ := Arr.start v_AT_LEAST_symbol_value k130
  have l_AT_LEAST_symbol_value := own_eqI k132
  have m_AT_LEAST_symbol_value_0 := (elem_in (own_eqI k134) v_AT_LEAST_symbol_value (Term.int_eval (0)) A_AT_LEAST_symbol_value.1)
  obtain ⟨a_BELOW, v_BELOW⟩ := exa_v k136
  have S_BELOW : Sta s s.heap "com/example/furlong/furlong/model/Condition$Operator" "BELOW" "Lcom/example/furlong/furlong/model/Condition$Operator;" (.ref a_BELOW) := Sta.start v_BELOW (Or.inr ⟨(hw _ (List.mem_of_getElem? (i := 2) rfl)), (hw _ (List.mem_of_getElem? (i := 73) rfl))⟩)
  have E_BELOW : Exa s s.heap a_BELOW "com/example/furlong/furlong/model/Condition$Operator" := Exa.start v_BELOW k136
  have F_BELOW_ordinal : Fld s s.heap a_BELOW "java/lang/Enum" "ordinal" "I" (.int (4 : Int32)) := Fld.start ((fld_at v_BELOW).symm.trans (own_eqI k138))
  obtain ⟨a_BELOW_symbol, v_BELOW_symbol⟩ := exa_v k140
  have F_BELOW_symbol : Fld s s.heap a_BELOW "com/example/furlong/furlong/model/Condition$Operator" "symbol" "Ljava/lang/String;" (.ref a_BELOW_symbol) := Fld.start ((fld_at v_BELOW).symm.trans v_BELOW_symbol)
  have E_BELOW_symbol : Exa s s.heap a_BELOW_symbol "java/lang/String" := Exa.start v_BELOW_symbol k140
  have F_BELOW_symbol_coder : Fld s s.heap a_BELOW_symbol "java/lang/String" "coder" "B" (.int (0 : Int32)) := Fld.start ((fld_at v_BELOW_symbol).symm.trans (own_eqI k142))
  obtain ⟨a_BELOW_symbol_value, v_BELOW_symbol_value⟩ := arr_v k144
  have F_BELOW_symbol_value : Fld s s.heap a_BELOW_symbol "java/lang/String" "value" "[B" (.ref a_BELOW_symbol_value) := Fld.start ((fld_at v_BELOW_symbol).symm.trans v_BELOW_symbol_value)
  obtain ⟨c_BELOW_symbol_value, A_BELOW_symbol_value⟩ := Arr.start v_BELOW_symbol_value k144
  have l_BELOW_symbol_value := own_eqI k146
  have m_BELOW_symbol_value_0 := (elem_in (own_eqI k148) v_BELOW_symbol_value (Term.int_eval (0)) A_BELOW_symbol_value.1)
  have m_EQUAL_symbol_value_1 := (elem_in (own_eqI k150) v_EQUAL_symbol_value (Term.int_eval (1)) A_EQUAL_symbol_value.1)
  have m_NOT_EQUAL_symbol_value_1 := (elem_in (own_eqI k152) v_NOT_EQUAL_symbol_value (Term.int_eval (1)) A_NOT_EQUAL_symbol_value.1)
  have m_AT_MOST_symbol_value_1 := (elem_in (own_eqI k154) v_AT_MOST_symbol_value (Term.int_eval (1)) A_AT_MOST_symbol_value.1)
  have m_AT_LEAST_symbol_value_1 := (elem_in (own_eqI k155) v_AT_LEAST_symbol_value (Term.int_eval (1)) A_AT_LEAST_symbol_value.1)
  have q_EQUAL := own_len l_EQUAL_symbol_value v_EQUAL_symbol_value (A_EQUAL_symbol_value.fin (Vm.Alike.refl _))
  have Va_EQUAL : Arv s s.heap a_EQUAL_symbol_value c_EQUAL_symbol_value.cls .byte (2 : Int32) [Value.int (61 : Int32), Value.int (61 : Int32)] (.int (0 : Int32)) := Arv.start hfit A_EQUAL_symbol_value q_EQUAL.1 q_EQUAL.2 (by decide) rfl ⟨m_EQUAL_symbol_value_0.2, m_EQUAL_symbol_value_1.2, trivial⟩
  have q_NOT_EQUAL := own_len l_NOT_EQUAL_symbol_value v_NOT_EQUAL_symbol_value (A_NOT_EQUAL_symbol_value.fin (Vm.Alike.refl _))
  have Va_NOT_EQUAL : Arv s s.heap a_NOT_EQUAL_symbol_value c_NOT_EQUAL_symbol_value.cls .byte (2 : Int32) [Value.int (33 : Int32), Value.int (61 : Int32)] (.int (0 : Int32)) := Arv.start hfit A_NOT_EQUAL_symbol_value q_NOT_EQUAL.1 q_NOT_EQUAL.2 (by decide) rfl ⟨m_NOT_EQUAL_symbol_value_0.2, m_NOT_EQUAL_symbol_value_1.2, trivial⟩
  have q_AT_MOST := own_len l_AT_MOST_symbol_value v_AT_MOST_symbol_value (A_AT_MOST_symbol_value.fin (Vm.Alike.refl _))
  have Va_AT_MOST : Arv s s.heap a_AT_MOST_symbol_value c_AT_MOST_symbol_value.cls .byte (2 : Int32) [Value.int (60 : Int32), Value.int (61 : Int32)] (.int (0 : Int32)) := Arv.start hfit A_AT_MOST_symbol_value q_AT_MOST.1 q_AT_MOST.2 (by decide) rfl ⟨m_AT_MOST_symbol_value_0.2, m_AT_MOST_symbol_value_1.2, trivial⟩
  have q_AT_LEAST := own_len l_AT_LEAST_symbol_value v_AT_LEAST_symbol_value (A_AT_LEAST_symbol_value.fin (Vm.Alike.refl _))
  have Va_AT_LEAST : Arv s s.heap a_AT_LEAST_symbol_value c_AT_LEAST_symbol_value.cls .byte (2 : Int32) [Value.int (62 : Int32), Value.int (61 : Int32)] (.int (0 : Int32)) := Arv.start hfit A_AT_LEAST_symbol_value q_AT_LEAST.1 q_AT_LEAST.2 (by decide) rfl ⟨m_AT_LEAST_symbol_value_0.2, m_AT_LEAST_symbol_value_1.2, trivial⟩
  have q_BELOW := own_len l_BELOW_symbol_value v_BELOW_symbol_value (A_BELOW_symbol_value.fin (Vm.Alike.refl _))
  have Va_BELOW : Arv s s.heap a_BELOW_symbol_value c_BELOW_symbol_value.cls .byte (1 : Int32) [Value.int (60 : Int32)] (.int (0 : Int32)) := Arv.start hfit A_BELOW_symbol_value q_BELOW.1 q_BELOW.2 (by decide) rfl ⟨m_BELOW_symbol_value_0.2, trivial⟩
  have q_ABOVE := own_len l_ABOVE_symbol_value v_ABOVE_symbol_value (A_ABOVE_symbol_value.fin (Vm.Alike.refl _))
  have Va_ABOVE : Arv s s.heap a_ABOVE_symbol_value c_ABOVE_symbol_value.cls .byte (1 : Int32) [Value.int (62 : Int32)] (.int (0 : Int32)) := Arv.start hfit A_ABOVE_symbol_value q_ABOVE.1 q_ABOVE.2 (by decide) rfl ⟨m_ABOVE_symbol_value_0.2, trivial⟩
  obtain ⟨zc, ezc⟩ := is_v (Cond.before_iff.mp (hsets _ (List.mem_of_getElem? (i := 1) rfl)))
  have S_C : Sta s s.heap "java/lang/String" "COMPACT_STRINGS" "Z" (.int zc) := Sta.start ezc (Or.inl (hsets _ (List.mem_of_getElem? (i := 0) rfl)))
  have hz : ¬ zc = 0 := gotF (Cond.eq_ints ezc (Term.int_eval (0))) (not_v (Cond.before_iff.mp (hsets _ (List.mem_of_getElem? (i := 2) rfl))))
  obtain ⟨fm, efm, rf⟩ := isR_v (Cond.before_iff.mp (hsets _ (List.mem_of_getElem? (i := 8) rfl)))
  have S_F : Sta s s.heap "jdk/internal/util/Preconditions" "SIOOBE_FORMATTER" "Ljava/util/function/BiFunction;" fm := Sta.start efm (Or.inl (hsets _ (List.mem_of_getElem? (i := 7) rfl)))
  obtain ⟨n, o, h1, h2, h3, _, L, rfl, ⟨rfl, N⟩, hq⟩ := rm_0 l s _ hw tables_1 i0 i1 i2 a_EQUAL a_NOT_EQUAL a_AT_MOST a_AT_LEAST a_BELOW a_ABOVE a_EQUAL_symbol a_EQUAL_symbol_value a_NOT_EQUAL_symbol a_NOT_EQUAL_symbol_value a_AT_MOST_symbol a_AT_MOST_symbol_value a_AT_LEAST_symbol a_AT_LEAST_symbol_value a_BELOW_symbol a_BELOW_symbol_value a_ABOVE_symbol a_ABOVE_symbol_value c_EQUAL_symbol_value.cls c_NOT_EQUAL_symbol_value.cls c_AT_MOST_symbol_value.cls c_AT_LEAST_symbol_value.cls c_BELOW_symbol_value.cls c_ABOVE_symbol_value.cls fm zc s.heap s.heap.size (Nat.le_refl _) S_EQUAL S_NOT_EQUAL S_AT_MOST S_AT_LEAST S_BELOW S_ABOVE E_EQUAL E_NOT_EQUAL E_AT_MOST E_AT_LEAST E_BELOW E_ABOVE F_EQUAL_ordinal F_NOT_EQUAL_ordinal F_AT_MOST_ordinal F_AT_LEAST_ordinal F_BELOW_ordinal F_ABOVE_ordinal F_EQUAL_symbol E_EQUAL_symbol F_EQUAL_symbol_coder F_EQUAL_symbol_value Va_EQUAL F_NOT_EQUAL_symbol E_NOT_EQUAL_symbol F_NOT_EQUAL_symbol_coder F_NOT_EQUAL_symbol_value Va_NOT_EQUAL F_AT_MOST_symbol E_AT_MOST_symbol F_AT_MOST_symbol_coder F_AT_MOST_symbol_value Va_AT_MOST F_AT_LEAST_symbol E_AT_LEAST_symbol F_AT_LEAST_symbol_coder F_AT_LEAST_symbol_value Va_AT_LEAST F_BELOW_symbol E_BELOW_symbol F_BELOW_symbol_coder F_BELOW_symbol_value Va_BELOW F_ABOVE_symbol E_ABOVE_symbol F_ABOVE_symbol_coder F_ABOVE_symbol_value Va_ABOVE rf S_F S_C hz p e ha hc hk s m _ below hf ((Spec.applies_iff_loose hf).mp happ).1 ⟨rfl, State.Warmed39.refl s, rfl⟩ trivial
  refine ⟨n, _, h1, h2, h3, hpost _ _ _ _ _ _ ⟨Cond.after_iff.mpr rfl, Cond.after_iff.mpr (eq_i res_at (Term.int_eval (1)) rfl), trivial⟩ ⟨hq.1, hq.2.1, (hq.2.2.sift fun y hy => Or.inr (N y hy)).mono (by decide) (by decide)⟩⟩
theorem main_1_1 : Claimed_1_1 := comes_1 fun _ _ _ _ _ _ h hF => ⟨h.1, hF⟩
theorem main_1_2 : Claimed_1_2 := comes_1 fun _ _ _ _ _ _ h hF => ⟨h.2.1, hF⟩
end Jvm.Pilot.@@N@@
namespace Jvm.Pilot.@@N@@
open Jvm Jvm.ClassFile Sem Op Lib Jvm.Free Jvm.Stand Jvm.Pilot.@@N@@.Jvm.D
/-! MADE BY PROGRAM (witnessworld.py) out of the Statement's table words and the real class files: 19 classes; the members and pool entries that the words name. The judged class is class 1, her method 1. -/
namespace start1
open Jvm.ClassFile
def u (s : String) : CpInfo := .utf8 (stringToUtf16 s)
/-- a pool by its gaps: so many unusable entries, then the entry; so many at the end -/
def gap : Nat → List CpInfo → List CpInfo
  | 0, r => r
  | n + 1, r => .unusable :: gap n r
def poolList (es : List (Nat × CpInfo)) (last : Nat) : List CpInfo := es.foldr (fun e r => gap e.1 (e.2 :: r)) (gap last [])
def pool (es : List (Nat × CpInfo)) (last : Nat) : Array CpInfo := ⟨poolList es last⟩
def fileOf (pool : Array CpInfo) (this : Nat) (attrs : Array Attribute := #[]) (ms : Array MethodInfo := #[]) (fl : Nat := 33) (sup : Nat := 0) (ifs : Array Nat := #[]) (fds : Array FieldInfo := #[]) : ClassFile where
  minorVersion := 0
  majorVersion := 65
  constantPool := pool
  accessFlags := fl
  thisClass := this
  superClass := sup
  interfaces := ifs
  fields := fds
  methods := ms
  attributes := attrs
def plain (name : String) (sup : Option ClassId) : Class where
  name := name
  kind := .ordinary
  loader := none
  accessFlags := 33
  super := sup
  interfaces := #[]
  cf := none
  fields := #[]
  methods := #[]
  instanceTypes := #[]
  staticTypes := #[]
  resolved := #[]
  callSites := []
  init := .initialized
  statics := none
  mirror := none

def pool0 : Array CpInfo := pool [(5, u "<init>"), (0, u "()V"), (1, .class_ 10), (1, u "java/lang/Object")] 113

def k0m0 : Method := { name := "<init>", desc := "()V", sig := { parameters := [], returnType := none }, accessFlags := 1, code := none }
/-- java/lang/Object -/
def k0 : Class := { plain "java/lang/Object" none with
  accessFlags := 33
  interfaces := #[]
  cf := some (fileOf pool0 8 #[] #[{ accessFlags := 1, nameIndex := 5, descriptorIndex := 6, attributes := #[] }] 33 0 #[] #[])
  fields := #[]
  methods := #[k0m0]
  instanceTypes := #[]
  staticTypes := #[]
  resolved := Array.replicate 124 none
  statics := none }

def pool1 : Array CpInfo := pool [(2, .class_ 4), (1, u "java/lang/Object"), (0, u "<init>"), (0, u "()V"), (0, .integer 2147483647), (0, .fieldref 9 10), (0, .class_ 11), (0, .nameAndType 12 13), (0, u "com/example/furlong/furlong/model/Condition$Operator"), (0, u "EQUAL"), (0, u "Lcom/example/furlong/furlong/model/Condition$Operator;"), (0, .fieldref 9 15), (0, .nameAndType 16 13), (0, u "NOT_EQUAL"), (0, .fieldref 9 18), (0, .nameAndType 19 13), (0, u "AT_MOST"), (0, .fieldref 9 21), (0, .nameAndType 22 13), (0, u "AT_LEAST"), (0, .fieldref 9 24), (0, .nameAndType 25 13), (0, u "BELOW"), (0, .fieldref 9 27), (0, .nameAndType 28 13), (0, u "ABOVE"), (0, .methodref 30 31), (0, .class_ 32), (0, .nameAndType 33 34), (0, u "java/lang/Math"), (0, u "max"), (0, u "(II)I"), (0, .methodref 9 36), (0, .nameAndType 37 38), (0, u "isOrder"), (0, u "()Z"), (0, .methodref 9 40), (0, .nameAndType 41 42), (0, u "symbol"), (0, u "()Ljava/lang/String;"), (0, .methodref 44 45), (0, .class_ 46), (0, .nameAndType 47 48), (0, u "java/lang/String"), (0, u "charAt"), (0, u "(I)C"), (0, .methodref 9 50), (0, .nameAndType 51 52), (0, u "holds"), (0, u "(I)Z"), (0, .class_ 54), (0, u "com/example/furlong/furlong/model/OperatorIsOrderPinLaw"), (2, u "law"), (0, u "(III)Z")] 7

def k1m0 : Method := { name := "<init>", desc := "()V", sig := { parameters := [], returnType := none }, accessFlags := 1, code := none }
def k1c1 : Code := { maxStack := 3, maxLocals := 12, code := code, exceptionTable := #[], attributes := #[] }
def k1m1 : Method := { name := "law", desc := "(III)Z", sig := { parameters := [.int, .int, .int], returnType := some .boolean }, accessFlags := 9, code := some k1c1 }
/-- com/example/furlong/furlong/model/OperatorIsOrderPinLaw -/
def k1 : Class := { plain "com/example/furlong/furlong/model/OperatorIsOrderPinLaw" (some 0) with
  accessFlags := 49
  interfaces := #[]
  cf := some (fileOf pool1 53 #[] #[{ accessFlags := 1, nameIndex := 5, descriptorIndex := 6, attributes := #[] }, { accessFlags := 9, nameIndex := 57, descriptorIndex := 58, attributes := #[] }] 49 2 #[] #[])
  fields := #[]
  methods := #[k1m0, k1m1]
  instanceTypes := #[]
  staticTypes := #[]
  resolved := Array.replicate 66 none
  statics := none }

def pool2 : Array CpInfo := pool [(1, .class_ 2), (0, u "java/lang/constant/Constable"), (0, .class_ 4), (0, u "java/lang/Object")] 6

/-- java/lang/constant/Constable -/
def k2 : Class := { plain "java/lang/constant/Constable" (some 0) with
  accessFlags := 1537
  interfaces := #[]
  cf := some (fileOf pool2 1 #[] #[] 1537 3 #[] #[])
  fields := #[]
  methods := #[]
  instanceTypes := #[]
  staticTypes := #[]
  resolved := Array.replicate 11 none
  statics := none }

def pool3 : Array CpInfo := pool [(1, .class_ 2), (0, u "java/lang/Comparable"), (0, .class_ 4), (0, u "java/lang/Object")] 7

/-- java/lang/Comparable -/
def k3 : Class := { plain "java/lang/Comparable" (some 0) with
  accessFlags := 1537
  interfaces := #[]
  cf := some (fileOf pool3 1 #[] #[] 1537 3 #[] #[])
  fields := #[]
  methods := #[]
  instanceTypes := #[]
  staticTypes := #[]
  resolved := Array.replicate 12 none
  statics := none }

def pool4 : Array CpInfo := pool [(1, .class_ 2), (0, u "java/io/Serializable"), (0, .class_ 4), (0, u "java/lang/Object")] 2

/-- java/io/Serializable -/
def k4 : Class := { plain "java/io/Serializable" (some 0) with
  accessFlags := 1537
  interfaces := #[]
  cf := some (fileOf pool4 1 #[] #[] 1537 3 #[] #[])
  fields := #[]
  methods := #[]
  instanceTypes := #[]
  staticTypes := #[]
  resolved := Array.replicate 7 none
  statics := none }

def pool5 : Array CpInfo := pool [(2, .class_ 4), (1, u "java/lang/Enum"), (0, u "name"), (0, u "Ljava/lang/String;"), (0, .fieldref 2 8), (0, .nameAndType 9 10), (0, u "ordinal"), (0, u "I"), (1, .class_ 14), (1, u "java/lang/Object"), (4, u "hash"), (86, .class_ 108), (1, u "java/lang/Enum$EnumDesc"), (2, .class_ 112), (0, u "java/lang/constant/Constable"), (0, .class_ 114), (0, u "java/lang/Comparable"), (0, .class_ 116), (0, u "java/io/Serializable"), (9, u "()I")] 77

def k5c0 : Code := { maxStack := 1, maxLocals := 1, code := jdk_37_method_2_code, exceptionTable := #[], attributes := #[] }
def k5m0 : Method := { name := "ordinal", desc := "()I", sig := { parameters := [], returnType := some .int }, accessFlags := 17, code := some k5c0 }
/-- java/lang/Enum -/
def k5 : Class := { plain "java/lang/Enum" (some 0) with
  accessFlags := 1057
  interfaces := #[2, 3, 4]
  cf := some (fileOf pool5 2 #[.nestMembers #[106]] #[{ accessFlags := 17, nameIndex := 9, descriptorIndex := 126, attributes := #[] }] 1057 12 #[111, 113, 115] #[{ accessFlags := 18, nameIndex := 5, descriptorIndex := 6, attributes := #[] }, { accessFlags := 18, nameIndex := 9, descriptorIndex := 10, attributes := #[] }, { accessFlags := 2, nameIndex := 19, descriptorIndex := 10, attributes := #[] }])
  fields := #[{ name := "name", type := (.object "java/lang/String"), accessFlags := 18, slot := 0, constantValue := 0 }, { name := "ordinal", type := .int, accessFlags := 18, slot := 1, constantValue := 0 }, { name := "hash", type := .int, accessFlags := 2, slot := 2, constantValue := 0 }]
  methods := #[k5m0]
  instanceTypes := #[(.object "java/lang/String"), .int, .int]
  staticTypes := #[]
  resolved := Array.replicate 204 none
  statics := none }

def pool6 : Array CpInfo := pool [(1, .class_ 2), (0, u "com/example/furlong/furlong/model/Condition$Operator"), (0, .fieldref 1 4), (0, .nameAndType 5 6), (0, u "EQUAL"), (0, u "Lcom/example/furlong/furlong/model/Condition$Operator;"), (0, .fieldref 1 8), (0, .nameAndType 9 6), (0, u "NOT_EQUAL"), (2, u "AT_MOST"), (2, u "AT_LEAST"), (2, u "BELOW"), (2, u "ABOVE"), (2, u "$VALUES"), (0, u "[Lcom/example/furlong/furlong/model/Condition$Operator;"), (6, .class_ 34), (1, u "java/lang/Enum"), (6, .fieldref 1 42), (0, .nameAndType 43 44), (0, u "symbol"), (0, u "Ljava/lang/String;"), (0, .methodref 1 46), (0, .nameAndType 47 48), (0, u "ordinal"), (0, u "()I"), (32, u "()Ljava/lang/String;"), (0, u "isOrder"), (0, u "()Z"), (1, u "holds"), (0, u "(I)Z"), (6, .class_ 94), (0, u "com/example/furlong/furlong/model/Condition")] 2

def k6c0 : Code := { maxStack := 1, maxLocals := 1, code := prog_31_method_4_code, exceptionTable := #[], attributes := #[] }
def k6m0 : Method := { name := "symbol", desc := "()Ljava/lang/String;", sig := { parameters := [], returnType := some (.object "java/lang/String") }, accessFlags := 1, code := some k6c0 }
def k6c1 : Code := { maxStack := 2, maxLocals := 1, code := prog_31_method_5_code, exceptionTable := #[], attributes := #[] }
def k6m1 : Method := { name := "isOrder", desc := "()Z", sig := { parameters := [], returnType := some .boolean }, accessFlags := 0, code := some k6c1 }
def k6c2 : Code := { maxStack := 1, maxLocals := 3, code := prog_31_method_6_code, exceptionTable := #[], attributes := #[] }
def k6m2 : Method := { name := "holds", desc := "(I)Z", sig := { parameters := [.int], returnType := some .boolean }, accessFlags := 0, code := some k6c2 }
/-- com/example/furlong/furlong/model/Condition$Operator -/
def k6 : Class := { plain "com/example/furlong/furlong/model/Condition$Operator" (some 5) with
  accessFlags := 16433
  interfaces := #[]
  cf := some (fileOf pool6 1 #[.nestHost 93] #[{ accessFlags := 1, nameIndex := 43, descriptorIndex := 81, attributes := #[] }, { accessFlags := 0, nameIndex := 82, descriptorIndex := 83, attributes := #[] }, { accessFlags := 0, nameIndex := 85, descriptorIndex := 86, attributes := #[] }] 16433 32 #[] #[{ accessFlags := 16409, nameIndex := 5, descriptorIndex := 6, attributes := #[] }, { accessFlags := 16409, nameIndex := 9, descriptorIndex := 6, attributes := #[] }, { accessFlags := 16409, nameIndex := 12, descriptorIndex := 6, attributes := #[] }, { accessFlags := 16409, nameIndex := 15, descriptorIndex := 6, attributes := #[] }, { accessFlags := 16409, nameIndex := 18, descriptorIndex := 6, attributes := #[] }, { accessFlags := 16409, nameIndex := 21, descriptorIndex := 6, attributes := #[] }, { accessFlags := 18, nameIndex := 43, descriptorIndex := 44, attributes := #[] }, { accessFlags := 4122, nameIndex := 24, descriptorIndex := 25, attributes := #[] }])
  fields := #[{ name := "EQUAL", type := (.object "com/example/furlong/furlong/model/Condition$Operator"), accessFlags := 16409, slot := 0, constantValue := 0 }, { name := "NOT_EQUAL", type := (.object "com/example/furlong/furlong/model/Condition$Operator"), accessFlags := 16409, slot := 1, constantValue := 0 }, { name := "AT_MOST", type := (.object "com/example/furlong/furlong/model/Condition$Operator"), accessFlags := 16409, slot := 2, constantValue := 0 }, { name := "AT_LEAST", type := (.object "com/example/furlong/furlong/model/Condition$Operator"), accessFlags := 16409, slot := 3, constantValue := 0 }, { name := "BELOW", type := (.object "com/example/furlong/furlong/model/Condition$Operator"), accessFlags := 16409, slot := 4, constantValue := 0 }, { name := "ABOVE", type := (.object "com/example/furlong/furlong/model/Condition$Operator"), accessFlags := 16409, slot := 5, constantValue := 0 }, { name := "symbol", type := (.object "java/lang/String"), accessFlags := 18, slot := 3, constantValue := 0 }, { name := "$VALUES", type := (.array (.object "com/example/furlong/furlong/model/Condition$Operator")), accessFlags := 4122, slot := 6, constantValue := 0 }]
  methods := #[k6m0, k6m1, k6m2]
  instanceTypes := #[(.object "java/lang/String"), .int, .int, (.object "java/lang/String")]
  staticTypes := #[(.object "com/example/furlong/furlong/model/Condition$Operator"), (.object "com/example/furlong/furlong/model/Condition$Operator"), (.object "com/example/furlong/furlong/model/Condition$Operator"), (.object "com/example/furlong/furlong/model/Condition$Operator"), (.object "com/example/furlong/furlong/model/Condition$Operator"), (.object "com/example/furlong/furlong/model/Condition$Operator"), (.array (.object "com/example/furlong/furlong/model/Condition$Operator"))]
  resolved := Array.replicate 97 none
  statics := some 0 }

def pool7 : Array CpInfo := pool [(1, .class_ 2), (0, u "java/lang/Math"), (1, .class_ 6), (1, u "java/lang/Object"), (0, u "<init>"), (0, u "()V"), (89, .class_ 100), (1, u "java/lang/Math$RandomNumberGeneratorHolder"), (71, u "negativeZeroFloatBits"), (0, u "J"), (2, u "negativeZeroDoubleBits"), (21, u "max"), (46, u "$assertionsDisabled"), (0, u "Z"), (88, u "(II)I"), (2, u "twoToTheDoubleScaleDown"), (0, u "D"), (4, u "twoToTheDoubleScaleUp"), (9, u "E"), (3, u "PI"), (2, u "TAU"), (2, u "DEGREES_TO_RADIANS"), (0, u "RADIANS_TO_DEGREES")] 94

def k7m0 : Method := { name := "<init>", desc := "()V", sig := { parameters := [], returnType := none }, accessFlags := 2, code := none }
def k7c1 : Code := { maxStack := 2, maxLocals := 2, code := jdk_29_method_65_code, exceptionTable := #[], attributes := #[] }
def k7m1 : Method := { name := "max", desc := "(II)I", sig := { parameters := [.int, .int], returnType := some .int }, accessFlags := 9, code := some k7c1 }
/-- java/lang/Math -/
def k7 : Class := { plain "java/lang/Math" (some 0) with
  accessFlags := 49
  interfaces := #[]
  cf := some (fileOf pool7 1 #[.nestMembers #[98]] #[{ accessFlags := 2, nameIndex := 7, descriptorIndex := 8, attributes := #[] }, { accessFlags := 9, nameIndex := 198, descriptorIndex := 335, attributes := #[] }] 49 4 #[] #[{ accessFlags := 25, nameIndex := 354, descriptorIndex := 339, attributes := #[] }, { accessFlags := 25, nameIndex := 358, descriptorIndex := 339, attributes := #[] }, { accessFlags := 25, nameIndex := 361, descriptorIndex := 339, attributes := #[] }, { accessFlags := 26, nameIndex := 364, descriptorIndex := 339, attributes := #[] }, { accessFlags := 26, nameIndex := 365, descriptorIndex := 339, attributes := #[] }, { accessFlags := 26, nameIndex := 172, descriptorIndex := 173, attributes := #[] }, { accessFlags := 26, nameIndex := 176, descriptorIndex := 173, attributes := #[] }, { accessFlags := 8, nameIndex := 344, descriptorIndex := 339, attributes := #[] }, { accessFlags := 8, nameIndex := 338, descriptorIndex := 339, attributes := #[] }, { accessFlags := 4120, nameIndex := 245, descriptorIndex := 246, attributes := #[] }])
  fields := #[{ name := "E", type := .double, accessFlags := 25, slot := 0, constantValue := 0 }, { name := "PI", type := .double, accessFlags := 25, slot := 1, constantValue := 0 }, { name := "TAU", type := .double, accessFlags := 25, slot := 2, constantValue := 0 }, { name := "DEGREES_TO_RADIANS", type := .double, accessFlags := 26, slot := 3, constantValue := 0 }, { name := "RADIANS_TO_DEGREES", type := .double, accessFlags := 26, slot := 4, constantValue := 0 }, { name := "negativeZeroFloatBits", type := .long, accessFlags := 26, slot := 5, constantValue := 0 }, { name := "negativeZeroDoubleBits", type := .long, accessFlags := 26, slot := 6, constantValue := 0 }, { name := "twoToTheDoubleScaleUp", type := .double, accessFlags := 8, slot := 7, constantValue := 0 }, { name := "twoToTheDoubleScaleDown", type := .double, accessFlags := 8, slot := 8, constantValue := 0 }, { name := "$assertionsDisabled", type := .boolean, accessFlags := 4120, slot := 9, constantValue := 0 }]
  methods := #[k7m0, k7m1]
  instanceTypes := #[]
  staticTypes := #[.double, .double, .double, .double, .double, .long, .long, .double, .double, .boolean]
  resolved := Array.replicate 460 none
  statics := none }

def pool8 : Array CpInfo := pool [(2, .class_ 4), (1, u "java/lang/CharSequence"), (42, .class_ 48), (0, u "java/lang/CharSequence$1CodePointIterator"), (10, .class_ 60), (0, u "java/lang/CharSequence$1CharIterator"), (5, .class_ 67), (0, u "java/lang/Object")] 63

/-- java/lang/CharSequence -/
def k8 : Class := { plain "java/lang/CharSequence" (some 0) with
  accessFlags := 1537
  interfaces := #[]
  cf := some (fileOf pool8 2 #[.nestMembers #[47, 59]] #[] 1537 66 #[] #[])
  fields := #[]
  methods := #[]
  instanceTypes := #[]
  staticTypes := #[]
  resolved := Array.replicate 131 none
  statics := none }

def pool9 : Array CpInfo := pool [(1, .class_ 2), (0, u "java/lang/constant/ConstantDesc"), (0, .class_ 4), (0, u "java/lang/Object")] 32

/-- java/lang/constant/ConstantDesc -/
def k9 : Class := { plain "java/lang/constant/ConstantDesc" (some 0) with
  accessFlags := 1537
  interfaces := #[]
  cf := some (fileOf pool9 1 #[] #[] 1537 3 #[] #[])
  fields := #[]
  methods := #[]
  instanceTypes := #[]
  staticTypes := #[]
  resolved := Array.replicate 37 none
  statics := none }

def pool10 : Array CpInfo := pool [(2, .class_ 4), (1, u "java/lang/Object"), (0, u "<init>"), (0, u "()V"), (2, .fieldref 10 11), (0, .class_ 12), (0, .nameAndType 13 14), (0, u "java/lang/String"), (0, u "value"), (0, u "[B"), (0, .fieldref 10 16), (0, .nameAndType 17 18), (0, u "coder"), (0, u "B"), (2, u "hash"), (0, u "I"), (2, u "hashIsZero"), (0, u "Z"), (11, .fieldref 10 39), (0, .nameAndType 40 26), (0, u "COMPACT_STRINGS"), (66, .class_ 109), (1, u "java/lang/StringLatin1"), (32, u "()Z"), (220, u "([BI)C"), (27, u "(II)V"), (35, u "(I)C"), (64, .methodref 10 493), (0, .nameAndType 494 142), (0, u "isLatin1"), (0, .methodref 107 496), (0, .nameAndType 497 363), (0, u "charAt"), (3, u "checkIndex"), (73, .class_ 576), (0, u "java/lang/CharSequence"), (22, u "CASE_INSENSITIVE_ORDER"), (0, u "Ljava/util/Comparator;"), (452, .fieldref 1054 1055), (0, .class_ 1056), (0, .nameAndType 1057 1058), (0, u "jdk/internal/util/Preconditions"), (0, u "SIOOBE_FORMATTER"), (0, u "Ljava/util/function/BiFunction;"), (0, .methodref 1054 1060), (0, .nameAndType 501 1061), (0, u "(IILjava/util/function/BiFunction;)I"), (39, u "serialPersistentFields"), (0, u "[Ljava/io/ObjectStreamField;"), (0, .class_ 1104), (0, u "java/lang/String$CaseInsensitiveComparator"), (1, .class_ 1107), (0, u "java/io/Serializable"), (0, .class_ 1109), (0, u "java/lang/Comparable"), (0, .class_ 1111), (0, u "java/lang/constant/Constable"), (0, .class_ 1113), (0, u "java/lang/constant/ConstantDesc"), (2, u "serialVersionUID"), (0, u "J"), (3, u "REPL"), (0, u "C"), (2, u "LATIN1"), (1, u "UTF16")] 323

def k10m0 : Method := { name := "<init>", desc := "()V", sig := { parameters := [], returnType := none }, accessFlags := 1, code := none }
def k10c1 : Code := { maxStack := 2, maxLocals := 2, code := jdk_42_method_56_code, exceptionTable := #[], attributes := #[] }
def k10m1 : Method := { name := "charAt", desc := "(I)C", sig := { parameters := [.int], returnType := some .char }, accessFlags := 1, code := some k10c1 }
def k10c2 : Code := { maxStack := 1, maxLocals := 1, code := jdk_42_method_154_code, exceptionTable := #[], attributes := #[] }
def k10m2 : Method := { name := "isLatin1", desc := "()Z", sig := { parameters := [], returnType := some .boolean }, accessFlags := 0, code := some k10c2 }
def k10c3 : Code := { maxStack := 3, maxLocals := 2, code := jdk_42_method_155_code, exceptionTable := #[], attributes := #[] }
def k10m3 : Method := { name := "checkIndex", desc := "(II)V", sig := { parameters := [.int, .int], returnType := none }, accessFlags := 8, code := some k10c3 }
/-- java/lang/String -/
def k10 : Class := { plain "java/lang/String" (some 0) with
  accessFlags := 49
  interfaces := #[4, 3, 8, 2, 9]
  cf := some (fileOf pool10 10 #[.nestMembers #[1103]] #[{ accessFlags := 1, nameIndex := 5, descriptorIndex := 6, attributes := #[] }, { accessFlags := 1, nameIndex := 497, descriptorIndex := 427, attributes := #[] }, { accessFlags := 0, nameIndex := 494, descriptorIndex := 142, attributes := #[] }, { accessFlags := 8, nameIndex := 501, descriptorIndex := 391, attributes := #[] }] 49 2 #[1106, 1108, 575, 1110, 1112] #[{ accessFlags := 18, nameIndex := 13, descriptorIndex := 14, attributes := #[] }, { accessFlags := 18, nameIndex := 17, descriptorIndex := 18, attributes := #[] }, { accessFlags := 2, nameIndex := 21, descriptorIndex := 22, attributes := #[] }, { accessFlags := 2, nameIndex := 25, descriptorIndex := 26, attributes := #[] }, { accessFlags := 26, nameIndex := 1116, descriptorIndex := 1117, attributes := #[] }, { accessFlags := 24, nameIndex := 40, descriptorIndex := 26, attributes := #[] }, { accessFlags := 26, nameIndex := 1101, descriptorIndex := 1102, attributes := #[] }, { accessFlags := 26, nameIndex := 1121, descriptorIndex := 1122, attributes := #[] }, { accessFlags := 25, nameIndex := 599, descriptorIndex := 600, attributes := #[] }, { accessFlags := 24, nameIndex := 1125, descriptorIndex := 18, attributes := #[] }, { accessFlags := 24, nameIndex := 1127, descriptorIndex := 18, attributes := #[] }])
  fields := #[{ name := "value", type := (.array .byte), accessFlags := 18, slot := 0, constantValue := 0 }, { name := "coder", type := .byte, accessFlags := 18, slot := 1, constantValue := 0 }, { name := "hash", type := .int, accessFlags := 2, slot := 2, constantValue := 0 }, { name := "hashIsZero", type := .boolean, accessFlags := 2, slot := 3, constantValue := 0 }, { name := "serialVersionUID", type := .long, accessFlags := 26, slot := 0, constantValue := 0 }, { name := "COMPACT_STRINGS", type := .boolean, accessFlags := 24, slot := 1, constantValue := 0 }, { name := "serialPersistentFields", type := (.array (.object "java/io/ObjectStreamField")), accessFlags := 26, slot := 2, constantValue := 0 }, { name := "REPL", type := .char, accessFlags := 26, slot := 3, constantValue := 0 }, { name := "CASE_INSENSITIVE_ORDER", type := (.object "java/util/Comparator"), accessFlags := 25, slot := 4, constantValue := 0 }, { name := "LATIN1", type := .byte, accessFlags := 24, slot := 5, constantValue := 0 }, { name := "UTF16", type := .byte, accessFlags := 24, slot := 6, constantValue := 0 }]
  methods := #[k10m0, k10m1, k10m2, k10m3]
  instanceTypes := #[(.array .byte), .byte, .int, .boolean]
  staticTypes := #[.long, .boolean, (.array (.object "java/io/ObjectStreamField")), .char, (.object "java/util/Comparator"), .byte, .byte]
  resolved := Array.replicate 1451 none
  statics := some 1 }

def pool11 : Array CpInfo := pool [(1, .class_ 2), (0, u "java/lang/String"), (1, .class_ 6), (1, u "java/lang/Object"), (0, u "<init>"), (0, u "()V"), (0, .methodref 1 10), (0, .nameAndType 11 12), (0, u "checkIndex"), (0, u "(II)V"), (1, .class_ 16), (1, u "java/lang/StringLatin1"), (36, u "([BI)C"), (67, u "$assertionsDisabled"), (0, u "Z"), (98, .class_ 223), (1, u "java/lang/StringLatin1$LinesSpliterator"), (28, u "charAt"), (137, .class_ 391), (0, u "java/lang/StringLatin1$CharsSpliterator")] 3

def k11m0 : Method := { name := "<init>", desc := "()V", sig := { parameters := [], returnType := none }, accessFlags := 0, code := none }
def k11c1 : Code := { maxStack := 2, maxLocals := 2, code := jdk_43_method_2_code, exceptionTable := #[], attributes := #[] }
def k11m1 : Method := { name := "charAt", desc := "([BI)C", sig := { parameters := [(.array .byte), .int], returnType := some .char }, accessFlags := 9, code := some k11c1 }
/-- java/lang/StringLatin1 -/
def k11 : Class := { plain "java/lang/StringLatin1" (some 0) with
  accessFlags := 48
  interfaces := #[]
  cf := some (fileOf pool11 14 #[.nestMembers #[390, 221]] #[{ accessFlags := 0, nameIndex := 7, descriptorIndex := 8, attributes := #[] }, { accessFlags := 9, nameIndex := 252, descriptorIndex := 53, attributes := #[] }] 48 4 #[] #[{ accessFlags := 4120, nameIndex := 121, descriptorIndex := 122, attributes := #[] }])
  fields := #[{ name := "$assertionsDisabled", type := .boolean, accessFlags := 4120, slot := 0, constantValue := 0 }]
  methods := #[k11m0, k11m1]
  instanceTypes := #[]
  staticTypes := #[.boolean]
  resolved := Array.replicate 395 none
  statics := none }

def pool12 : Array CpInfo := pool [(2, .class_ 4), (1, u "java/lang/Object"), (0, u "<init>"), (0, u "()V"), (17, .class_ 26), (1, u "jdk/internal/util/Preconditions"), (6, u "checkIndex"), (21, .class_ 56), (0, u "jdk/internal/util/Preconditions$4"), (57, .class_ 115), (0, u "jdk/internal/util/Preconditions$1"), (7, u "SIOOBE_FORMATTER"), (0, u "Ljava/util/function/BiFunction;"), (0, .class_ 126), (0, u "jdk/internal/util/Preconditions$2"), (3, u "AIOOBE_FORMATTER"), (0, .class_ 132), (0, u "jdk/internal/util/Preconditions$3"), (3, u "IOOBE_FORMATTER"), (41, u "(IILjava/util/function/BiFunction;)I")] 15

def k12m0 : Method := { name := "<init>", desc := "()V", sig := { parameters := [], returnType := none }, accessFlags := 1, code := none }
def k12c1 : Code := { maxStack := 3, maxLocals := 3, code := jdk_41_method_11_code, exceptionTable := #[], attributes := #[] }
def k12m1 : Method := { name := "checkIndex", desc := "(IILjava/util/function/BiFunction;)I", sig := { parameters := [.int, .int, (.object "java/util/function/BiFunction")], returnType := some .int }, accessFlags := 9, code := some k12c1 }
/-- jdk/internal/util/Preconditions -/
def k12 : Class := { plain "jdk/internal/util/Preconditions" (some 0) with
  accessFlags := 33
  interfaces := #[]
  cf := some (fileOf pool12 24 #[.nestMembers #[55, 131, 125, 114]] #[{ accessFlags := 1, nameIndex := 5, descriptorIndex := 6, attributes := #[] }, { accessFlags := 9, nameIndex := 33, descriptorIndex := 178, attributes := #[] }] 33 2 #[] #[{ accessFlags := 25, nameIndex := 123, descriptorIndex := 124, attributes := #[] }, { accessFlags := 25, nameIndex := 130, descriptorIndex := 124, attributes := #[] }, { accessFlags := 25, nameIndex := 136, descriptorIndex := 124, attributes := #[] }])
  fields := #[{ name := "SIOOBE_FORMATTER", type := (.object "java/util/function/BiFunction"), accessFlags := 25, slot := 0, constantValue := 0 }, { name := "AIOOBE_FORMATTER", type := (.object "java/util/function/BiFunction"), accessFlags := 25, slot := 1, constantValue := 0 }, { name := "IOOBE_FORMATTER", type := (.object "java/util/function/BiFunction"), accessFlags := 25, slot := 2, constantValue := 0 }]
  methods := #[k12m0, k12m1]
  instanceTypes := #[]
  staticTypes := #[(.object "java/util/function/BiFunction"), (.object "java/util/function/BiFunction"), (.object "java/util/function/BiFunction")]
  resolved := Array.replicate 194 none
  statics := some 2 }

def pool13 : Array CpInfo := pool [(9, u "<init>"), (6, .class_ 18), (1, u "java/lang/Object"), (0, u "()V"), (1, .class_ 23), (1, u "jdk/internal/util/ArraysSupport"), (0, u "LOG2_ARRAY_LONG_INDEX_SCALE"), (0, u "I"), (2, u "U"), (0, u "Ljdk/internal/misc/Unsafe;"), (8, u "BIG_ENDIAN"), (0, u "Z"), (8, u "LOG2_BYTE_BIT_SIZE"), (4, u "LOG2_ARRAY_INT_INDEX_SCALE"), (54, u "JLA"), (0, u "Ljdk/internal/access/JavaLangAccess;"), (11, u "LOG2_ARRAY_BOOLEAN_INDEX_SCALE"), (9, u "LOG2_ARRAY_BYTE_INDEX_SCALE"), (5, u "LOG2_ARRAY_CHAR_INDEX_SCALE"), (5, u "LOG2_ARRAY_SHORT_INDEX_SCALE"), (18, u "LOG2_ARRAY_FLOAT_INDEX_SCALE"), (24, u "LOG2_ARRAY_DOUBLE_INDEX_SCALE"), (89, u "T_BOOLEAN"), (2, u "T_CHAR"), (1, u "T_FLOAT"), (1, u "T_DOUBLE"), (1, u "T_BYTE"), (1, u "T_SHORT"), (1, u "T_INT"), (1, u "T_LONG"), (1, u "SOFT_MAX_ARRAY_LENGTH")] 83

def k13m0 : Method := { name := "<init>", desc := "()V", sig := { parameters := [], returnType := none }, accessFlags := 2, code := none }
/-- jdk/internal/util/ArraysSupport -/
def k13 : Class := { plain "jdk/internal/util/ArraysSupport" (some 0) with
  accessFlags := 33
  interfaces := #[]
  cf := some (fileOf pool13 21 #[] #[{ accessFlags := 2, nameIndex := 9, descriptorIndex := 19, attributes := #[] }] 33 16 #[] #[{ accessFlags := 24, nameIndex := 28, descriptorIndex := 29, attributes := #[] }, { accessFlags := 26, nameIndex := 38, descriptorIndex := 39, attributes := #[] }, { accessFlags := 25, nameIndex := 121, descriptorIndex := 25, attributes := #[] }, { accessFlags := 25, nameIndex := 131, descriptorIndex := 25, attributes := #[] }, { accessFlags := 25, nameIndex := 137, descriptorIndex := 25, attributes := #[] }, { accessFlags := 25, nameIndex := 143, descriptorIndex := 25, attributes := #[] }, { accessFlags := 25, nameIndex := 53, descriptorIndex := 25, attributes := #[] }, { accessFlags := 25, nameIndex := 24, descriptorIndex := 25, attributes := #[] }, { accessFlags := 25, nameIndex := 162, descriptorIndex := 25, attributes := #[] }, { accessFlags := 25, nameIndex := 187, descriptorIndex := 25, attributes := #[] }, { accessFlags := 26, nameIndex := 48, descriptorIndex := 25, attributes := #[] }, { accessFlags := 25, nameIndex := 277, descriptorIndex := 25, attributes := #[] }, { accessFlags := 25, nameIndex := 280, descriptorIndex := 25, attributes := #[] }, { accessFlags := 25, nameIndex := 282, descriptorIndex := 25, attributes := #[] }, { accessFlags := 25, nameIndex := 284, descriptorIndex := 25, attributes := #[] }, { accessFlags := 25, nameIndex := 286, descriptorIndex := 25, attributes := #[] }, { accessFlags := 25, nameIndex := 288, descriptorIndex := 25, attributes := #[] }, { accessFlags := 25, nameIndex := 290, descriptorIndex := 25, attributes := #[] }, { accessFlags := 25, nameIndex := 292, descriptorIndex := 25, attributes := #[] }, { accessFlags := 26, nameIndex := 108, descriptorIndex := 109, attributes := #[] }, { accessFlags := 25, nameIndex := 294, descriptorIndex := 25, attributes := #[] }])
  fields := #[{ name := "U", type := (.object "jdk/internal/misc/Unsafe"), accessFlags := 24, slot := 0, constantValue := 0 }, { name := "BIG_ENDIAN", type := .boolean, accessFlags := 26, slot := 1, constantValue := 0 }, { name := "LOG2_ARRAY_BOOLEAN_INDEX_SCALE", type := .int, accessFlags := 25, slot := 2, constantValue := 0 }, { name := "LOG2_ARRAY_BYTE_INDEX_SCALE", type := .int, accessFlags := 25, slot := 3, constantValue := 0 }, { name := "LOG2_ARRAY_CHAR_INDEX_SCALE", type := .int, accessFlags := 25, slot := 4, constantValue := 0 }, { name := "LOG2_ARRAY_SHORT_INDEX_SCALE", type := .int, accessFlags := 25, slot := 5, constantValue := 0 }, { name := "LOG2_ARRAY_INT_INDEX_SCALE", type := .int, accessFlags := 25, slot := 6, constantValue := 0 }, { name := "LOG2_ARRAY_LONG_INDEX_SCALE", type := .int, accessFlags := 25, slot := 7, constantValue := 0 }, { name := "LOG2_ARRAY_FLOAT_INDEX_SCALE", type := .int, accessFlags := 25, slot := 8, constantValue := 0 }, { name := "LOG2_ARRAY_DOUBLE_INDEX_SCALE", type := .int, accessFlags := 25, slot := 9, constantValue := 0 }, { name := "LOG2_BYTE_BIT_SIZE", type := .int, accessFlags := 26, slot := 10, constantValue := 0 }, { name := "T_BOOLEAN", type := .int, accessFlags := 25, slot := 11, constantValue := 0 }, { name := "T_CHAR", type := .int, accessFlags := 25, slot := 12, constantValue := 0 }, { name := "T_FLOAT", type := .int, accessFlags := 25, slot := 13, constantValue := 0 }, { name := "T_DOUBLE", type := .int, accessFlags := 25, slot := 14, constantValue := 0 }, { name := "T_BYTE", type := .int, accessFlags := 25, slot := 15, constantValue := 0 }, { name := "T_SHORT", type := .int, accessFlags := 25, slot := 16, constantValue := 0 }, { name := "T_INT", type := .int, accessFlags := 25, slot := 17, constantValue := 0 }, { name := "T_LONG", type := .int, accessFlags := 25, slot := 18, constantValue := 0 }, { name := "JLA", type := (.object "jdk/internal/access/JavaLangAccess"), accessFlags := 26, slot := 19, constantValue := 0 }, { name := "SOFT_MAX_ARRAY_LENGTH", type := .int, accessFlags := 25, slot := 20, constantValue := 0 }]
  methods := #[k13m0]
  instanceTypes := #[]
  staticTypes := #[(.object "jdk/internal/misc/Unsafe"), .boolean, .int, .int, .int, .int, .int, .int, .int, .int, .int, .int, .int, .int, .int, .int, .int, .int, .int, (.object "jdk/internal/access/JavaLangAccess"), .int]
  resolved := Array.replicate 378 none
  statics := none }

def pool14 : Array CpInfo := pool [(1, u "java/lang/Cloneable"), (0, .class_ 1), (0, u "java/lang/Object"), (0, .class_ 3)] 3

/-- java/lang/Cloneable -/
def k14 : Class := { plain "java/lang/Cloneable" (some 0) with
  accessFlags := 1537
  interfaces := #[]
  cf := some (fileOf pool14 2 #[] #[] 1537 4 #[] #[])
  fields := #[]
  methods := #[]
  instanceTypes := #[]
  staticTypes := #[]
  resolved := Array.replicate 8 none
  statics := none }

/-- the primitive byte -/
def k15 : Class := { plain "byte" none with kind := .primitive 'B', accessFlags := 0x411 }
/-- [B -/
def k16 : Class := { plain "[B" (some 0) with kind := .array 15 .byte, interfaces := #[14, 4], accessFlags := 1041 }

/-- the primitive int -/
def k17 : Class := { plain "int" none with kind := .primitive 'I', accessFlags := 0x411 }
/-- [I -/
def k18 : Class := { plain "[I" (some 0) with kind := .array 17 .int, interfaces := #[14, 4], accessFlags := 1041 }

def heap : Heap := #[{ cls := 6, slots := #[.ref 3, .ref 6, .ref 9, .ref 15, .ref 18, .ref 12, .null], vm := .statics 6 },
  { cls := 10, slots := #[.long 0, .int 1, .null, .int 0, .null, .int 0, .int 0], vm := .statics 10 },
  { cls := 12, slots := #[.null, .null, .null], vm := .statics 12 },
  { cls := 6, slots := #[.null, .int 0, .int 0, .ref 4], vm := .none },
  { cls := 10, slots := #[.ref 5, .int 0, .int 0, .int 0], vm := .none },
  { cls := 16, slots := #[.int 61, .int 61], vm := .none },
  { cls := 6, slots := #[.null, .int 1, .int 0, .ref 7], vm := .none },
  { cls := 10, slots := #[.ref 8, .int 0, .int 0, .int 0], vm := .none },
  { cls := 16, slots := #[.int 33, .int 61], vm := .none },
  { cls := 6, slots := #[.null, .int 2, .int 0, .ref 10], vm := .none },
  { cls := 10, slots := #[.ref 11, .int 0, .int 0, .int 0], vm := .none },
  { cls := 16, slots := #[.int 60, .int 61], vm := .none },
  { cls := 6, slots := #[.null, .int 5, .int 0, .ref 13], vm := .none },
  { cls := 10, slots := #[.ref 14, .int 0, .int 0, .int 0], vm := .none },
  { cls := 16, slots := #[.int 62], vm := .none },
  { cls := 6, slots := #[.null, .int 3, .int 0, .ref 16], vm := .none },
  { cls := 10, slots := #[.ref 17, .int 0, .int 0, .int 0], vm := .none },
  { cls := 16, slots := #[.int 62, .int 61], vm := .none },
  { cls := 6, slots := #[.null, .int 4, .int 0, .ref 19], vm := .none },
  { cls := 10, slots := #[.ref 20, .int 0, .int 0, .int 0], vm := .none },
  { cls := 16, slots := #[.int 60], vm := .none }]
def classes : Array Class := #[k0, k1, k2, k3, k4, k5, k6, k7, k8, k9, k10, k11, k12, k13, k14, k15, k16, k17, k18]
def interned : List (Array UInt16 × Addr) := []
def slotsUsed : Nat := 75
def theMethod : MethodId := ⟨1, 1⟩
def args0 : Array Value := #[.int 5, .int 6, .int 7]
def aboutOver (below : List Frame) : State where
  vm := { classes := classes, interned := interned.toArray }
  heap := heap
  slotsUsed := slotsUsed
  threads := #[{ frames := .invoking theMethod args0 :: below }]
def below0 : List Frame := [.native { method := ⟨0, 0⟩, args := #[] }]
def about1 : State := aboutOver below0
def p0 : Program := .bare "" "" ""
def e0 : Env := launch0.env 0 0 0
theorem w_frames : about1.frames = Frame.invoking theMethod args0 :: below0 := rfl
set_option maxRecDepth 65536 in
theorem w_args : argsFit about1.vm theMethod args0 = true := by decide +kernel
set_option maxRecDepth 65536 in
theorem w_heap : heapFits about1 = true := by decide +kernel
set_option maxRecDepth 65536 in
theorem w_runnable : about1.curStatus? = some .runnable := by decide +kernel
set_option maxRecDepth 65536 in
theorem w_alone : about1.alone = true := by decide +kernel
set_option maxRecDepth 65536 in
theorem w_named : about1.methodNamed? x = some theMethod := by decide +kernel
set_option maxRecDepth 65536 in
theorem w_hears : about1.hears theMethod below0 = true := by decide +kernel
set_option maxRecDepth 65536 in
theorem w_ripe : about1.ripe theMethod args0 below0 = true := by decide +kernel
theorem w_running : about1.status = .running := rfl
set_option maxRecDepth 65536 in
theorem w_room : about1.hasRoom e0.platform room_1 = true :=
  launch0.hasRoom_least _ room_1 (by decide +kernel) (by decide +kernel) (by decide +kernel) (by decide +kernel) (by decide +kernel) (by decide +kernel)
theorem allAtoms_all (ts : List Jvm.Cond) (a : Array Jvm.Value) (st : Jvm.State) : (allAtoms ts).before a st = ts.all (fun c => c.before a st) := by
  induction ts with
  | nil => rfl
  | cons c t ih =>
    show (Jvm.Cond.and c (allAtoms t)).before a st = _
    rw [Jvm.Cond.before_and, ih, List.all_cons]
def words1 : List Jvm.Cond := Jvm.Cond.code x code maxLocals ret :: tables_1
/-- a 'code' word, met by the world's own term for the bytes: nothing is compared byte by byte -/
theorem code_word {y : MethodName} {bytes : ByteArray} {mx : Nat} {rt : Option FieldType} {a : Array Value} {s : State} {m : MethodId} {meth : Method} {c : Code} (h1 : s.methodNamed? y = some m) (h2 : s.vm.method? m = some meth) (h3 : meth.code = some c) (h4 : c.code = bytes)
    (h5 : (c.maxLocals == mx && c.exceptionTable.isEmpty && decide (c.maxStack ≤ mostOperands) && decide (meth.sig.returnType = rt) && !meth.locks && decide (parseMethodDescriptor y.desc = some meth.sig)) = true) : (Jvm.Cond.code y bytes mx rt).before a s = true := by
  simp only [Bool.and_eq_true, beq_iff_eq, Bool.not_eq_true', decide_eq_true_eq] at h5
  obtain ⟨⟨⟨⟨⟨g1, g2⟩, g3⟩, g4⟩, g5⟩, g6⟩ := h5
  simp [Cond.before, Cond.holds, Cond.value, h1, h2, h3, h4, g1, g2, g3, g4, g5, g6]
def isCode : Jvm.Cond → Bool
  | .code _ _ _ _ => true
  | _ => false
theorem all_split {L : List Jvm.Cond} {P : Jvm.Cond → Bool} (h1 : L.all (fun c => isCode c || P c) = true) (h2 : ∀ c ∈ L.filter isCode, P c = true) : L.all P = true := by
  refine List.all_eq_true.mpr fun c hc => ?_
  have h := List.all_eq_true.mp h1 c hc
  rcases Bool.eq_false_or_eq_true (isCode c) with hi | hi
  · exact h2 c (List.mem_filter.mpr ⟨hc, hi⟩)
  · simpa [hi] using h
set_option maxRecDepth 65536 in
theorem w_c0 : (Jvm.Cond.code x code maxLocals ret).before args0 about1 = true := code_word (m := ⟨1, 1⟩) (meth := k1m1) (c := k1c1) (by decide +kernel) rfl rfl rfl (by decide +kernel)
set_option maxRecDepth 65536 in
theorem w_c1 : (Jvm.Cond.code ({ cls := "java/lang/Math", name := "max", desc := "(II)I" } : Jvm.MethodName) jdk_29_method_65_code (2 : Nat) (Option.some Jvm.ClassFile.FieldType.int)).before args0 about1 = true := code_word (m := ⟨7, 1⟩) (meth := k7m1) (c := k7c1) (by decide +kernel) rfl rfl rfl (by decide +kernel)
set_option maxRecDepth 65536 in
theorem w_c2 : (Jvm.Cond.code ({ cls := "com/example/furlong/furlong/model/Condition$Operator", name := "isOrder", desc := "()Z" } : Jvm.MethodName) prog_31_method_5_code (1 : Nat) (Option.some Jvm.ClassFile.FieldType.boolean)).before args0 about1 = true := code_word (m := ⟨6, 1⟩) (meth := k6m1) (c := k6c1) (by decide +kernel) rfl rfl rfl (by decide +kernel)
set_option maxRecDepth 65536 in
theorem w_c3 : (Jvm.Cond.code ({ cls := "com/example/furlong/furlong/model/Condition$Operator", name := "symbol", desc := "()Ljava/lang/String;" } : Jvm.MethodName) prog_31_method_4_code (1 : Nat) (Option.some (Jvm.ClassFile.FieldType.object "java/lang/String"))).before args0 about1 = true := code_word (m := ⟨6, 0⟩) (meth := k6m0) (c := k6c0) (by decide +kernel) rfl rfl rfl (by decide +kernel)
set_option maxRecDepth 65536 in
theorem w_c4 : (Jvm.Cond.code ({ cls := "java/lang/String", name := "charAt", desc := "(I)C" } : Jvm.MethodName) jdk_42_method_56_code (2 : Nat) (Option.some Jvm.ClassFile.FieldType.char)).before args0 about1 = true := code_word (m := ⟨10, 1⟩) (meth := k10m1) (c := k10c1) (by decide +kernel) rfl rfl rfl (by decide +kernel)
set_option maxRecDepth 65536 in
theorem w_c5 : (Jvm.Cond.code ({ cls := "java/lang/String", name := "isLatin1", desc := "()Z" } : Jvm.MethodName) jdk_42_method_154_code (1 : Nat) (Option.some Jvm.ClassFile.FieldType.boolean)).before args0 about1 = true := code_word (m := ⟨10, 2⟩) (meth := k10m2) (c := k10c2) (by decide +kernel) rfl rfl rfl (by decide +kernel)
set_option maxRecDepth 65536 in
theorem w_c6 : (Jvm.Cond.code ({ cls := "java/lang/StringLatin1", name := "charAt", desc := "([BI)C" } : Jvm.MethodName) jdk_43_method_2_code (2 : Nat) (Option.some Jvm.ClassFile.FieldType.char)).before args0 about1 = true := code_word (m := ⟨11, 1⟩) (meth := k11m1) (c := k11c1) (by decide +kernel) rfl rfl rfl (by decide +kernel)
set_option maxRecDepth 65536 in
theorem w_c7 : (Jvm.Cond.code ({ cls := "java/lang/String", name := "checkIndex", desc := "(II)V" } : Jvm.MethodName) jdk_42_method_155_code (2 : Nat) (Option.none : Option Jvm.ClassFile.FieldType)).before args0 about1 = true := code_word (m := ⟨10, 3⟩) (meth := k10m3) (c := k10c3) (by decide +kernel) rfl rfl rfl (by decide +kernel)
set_option maxRecDepth 65536 in
theorem w_c8 : (Jvm.Cond.code ({ cls := "jdk/internal/util/Preconditions", name := "checkIndex", desc := "(IILjava/util/function/BiFunction;)I" } : Jvm.MethodName) jdk_41_method_11_code (3 : Nat) (Option.some Jvm.ClassFile.FieldType.int)).before args0 about1 = true := code_word (m := ⟨12, 1⟩) (meth := k12m1) (c := k12c1) (by decide +kernel) rfl rfl rfl (by decide +kernel)
set_option maxRecDepth 65536 in
theorem w_c9 : (Jvm.Cond.code ({ cls := "com/example/furlong/furlong/model/Condition$Operator", name := "holds", desc := "(I)Z" } : Jvm.MethodName) prog_31_method_6_code (3 : Nat) (Option.some Jvm.ClassFile.FieldType.boolean)).before args0 about1 = true := code_word (m := ⟨6, 2⟩) (meth := k6m2) (c := k6c2) (by decide +kernel) rfl rfl rfl (by decide +kernel)
set_option maxRecDepth 65536 in
theorem w_c10 : (Jvm.Cond.code ({ cls := "java/lang/Enum", name := "ordinal", desc := "()I" } : Jvm.MethodName) jdk_37_method_2_code (1 : Nat) (Option.some Jvm.ClassFile.FieldType.int)).before args0 about1 = true := code_word (m := ⟨5, 0⟩) (meth := k5m0) (c := k5c0) (by decide +kernel) rfl rfl rfl (by decide +kernel)
def codes1 : List Jvm.Cond := [Jvm.Cond.code x code maxLocals ret, Jvm.Cond.code ({ cls := "java/lang/Math", name := "max", desc := "(II)I" } : Jvm.MethodName) jdk_29_method_65_code (2 : Nat) (Option.some Jvm.ClassFile.FieldType.int), Jvm.Cond.code ({ cls := "com/example/furlong/furlong/model/Condition$Operator", name := "isOrder", desc := "()Z" } : Jvm.MethodName) prog_31_method_5_code (1 : Nat) (Option.some Jvm.ClassFile.FieldType.boolean), Jvm.Cond.code ({ cls := "com/example/furlong/furlong/model/Condition$Operator", name := "symbol", desc := "()Ljava/lang/String;" } : Jvm.MethodName) prog_31_method_4_code (1 : Nat) (Option.some (Jvm.ClassFile.FieldType.object "java/lang/String")), Jvm.Cond.code ({ cls := "java/lang/String", name := "charAt", desc := "(I)C" } : Jvm.MethodName) jdk_42_method_56_code (2 : Nat) (Option.some Jvm.ClassFile.FieldType.char), Jvm.Cond.code ({ cls := "java/lang/String", name := "isLatin1", desc := "()Z" } : Jvm.MethodName) jdk_42_method_154_code (1 : Nat) (Option.some Jvm.ClassFile.FieldType.boolean), Jvm.Cond.code ({ cls := "java/lang/StringLatin1", name := "charAt", desc := "([BI)C" } : Jvm.MethodName) jdk_43_method_2_code (2 : Nat) (Option.some Jvm.ClassFile.FieldType.char), Jvm.Cond.code ({ cls := "java/lang/String", name := "checkIndex", desc := "(II)V" } : Jvm.MethodName) jdk_42_method_155_code (2 : Nat) (Option.none : Option Jvm.ClassFile.FieldType), Jvm.Cond.code ({ cls := "jdk/internal/util/Preconditions", name := "checkIndex", desc := "(IILjava/util/function/BiFunction;)I" } : Jvm.MethodName) jdk_41_method_11_code (3 : Nat) (Option.some Jvm.ClassFile.FieldType.int), Jvm.Cond.code ({ cls := "com/example/furlong/furlong/model/Condition$Operator", name := "holds", desc := "(I)Z" } : Jvm.MethodName) prog_31_method_6_code (3 : Nat) (Option.some Jvm.ClassFile.FieldType.boolean), Jvm.Cond.code ({ cls := "java/lang/Enum", name := "ordinal", desc := "()I" } : Jvm.MethodName) jdk_37_method_2_code (1 : Nat) (Option.some Jvm.ClassFile.FieldType.int)]
set_option maxRecDepth 65536 in
theorem codes_eq : words1.filter isCode = codes1 := rfl
theorem w_codes : ∀ c ∈ words1.filter isCode, c.before args0 about1 = true := by
  rw [codes_eq]
  intro c hc
  simp only [codes1, List.mem_cons, List.not_mem_nil, or_false] at hc
  rcases hc with rfl | rfl | rfl | rfl | rfl | rfl | rfl | rfl | rfl | rfl | rfl
  · exact w_c0
  · exact w_c1
  · exact w_c2
  · exact w_c3
  · exact w_c4
  · exact w_c5
  · exact w_c6
  · exact w_c7
  · exact w_c8
  · exact w_c9
  · exact w_c10
set_option maxRecDepth 65536 in
theorem w_t1 : (words1.take 24).all (fun c => isCode c || c.before args0 about1) = true := by decide +kernel
set_option maxRecDepth 65536 in
theorem w_t2 : ((words1.drop 24).take 24).all (fun c => isCode c || c.before args0 about1) = true := by decide +kernel
set_option maxRecDepth 65536 in
theorem w_t3 : (((words1.drop 24).drop 24).take 24).all (fun c => isCode c || c.before args0 about1) = true := by decide +kernel
set_option maxRecDepth 65536 in
theorem w_t4 : (((words1.drop 24).drop 24).drop 24).all (fun c => isCode c || c.before args0 about1) = true := by decide +kernel
theorem w_tables : (allAtoms (Jvm.Cond.code x code maxLocals ret :: tables_1)).before args0 about1 = true := by
  rw [allAtoms_all]
  show words1.all (fun c => c.before args0 about1) = true
  refine all_split ?_ w_codes
  rw [← List.take_append_drop 24 words1, List.all_append, w_t1, ← List.take_append_drop 24 (words1.drop 24), List.all_append, w_t2, ← List.take_append_drop 24 ((words1.drop 24).drop 24), List.all_append, w_t3, w_t4]
  rfl
set_option maxRecDepth 65536 in
theorem w_rest : rest_1_c.before args0 about1 = true := by decide +kernel
set_option maxRecDepth 65536 in
theorem w_case : (Jvm.Cond.and given_1 narrow_1).before args0 about1 = true := by decide +kernel
theorem w_applies : (headSpec (Jvm.Cond.code x code maxLocals ret :: tables_1) room_1).applies x e0.platform about1 = true :=
  (Spec.applies_iff w_frames).mpr ⟨w_running, w_runnable, w_alone, w_named, w_hears, w_ripe, w_room, w_tables⟩
theorem atStart : AtStart classFile x code maxLocals ret World_1 tables_1 room_1 Calls_1 rest_1 Pre_1 launch0 p0 e0 about1 theMethod args0 below0 :=
  ⟨lists_1, trivial, launch0.admits_env _ _ _, launch0.least_env, fairChoices_fair.cas, fairChoices_fair.clock, w_frames, w_args, w_heap, w_applies, trivial, w_rest, w_case⟩
end start1
theorem witness_1 : WitnessClaimed_1 := ⟨start1.p0, start1.e0, start1.about1, start1.theMethod, start1.args0, start1.below0, start1.atStart⟩
end Jvm.Pilot.@@N@@
