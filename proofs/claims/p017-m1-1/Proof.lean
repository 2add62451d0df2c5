import JvmDerived
import JvmDerived.Pilot.@@N@@Statement
import JvmDerived.Pilot.@@N@@Code
set_option linter.unusedVariables false
set_option linter.unusedSimpArgs false
namespace Jvm.RoadKit
open Sem ClassFile Op Lib Jvm.Stand Jvm.Free Jvm.LawKit
section New
variable {p : Program} {l : Launch} {e : Env} {R : Room} {s : State} {m : MethodId} {args : Array Value} {below : List Frame} {meth : Method} {c : Code} {T : State} {locs : List Loc} {cells slots : Nat}
theorem retI (X : Stand p l e R s m args below meth c T locs cells slots) (hx : p.tables.exec = Jvm.exec) {pc : Nat} {Ls : Array Slot} {z : Int32} {rest : List Value} (hret : meth.sig.returnType = some .int) (hd : decode c.code pc = .ok (.ireturn, 1)) {fs : List Frame}
    (hl : ∀ (f : JFrame) (acts : List Action), f.method = m → f.locked = none → f.entered = [] → (doReturn e (T.setTop f) acts (some (.int z))).1 = T.setFrames fs) : Steps p.tables e below (T.setTop (mkF m pc Ls (.int z :: rest))) (T.setFrames fs) := by
  have hm' : T.vm.method? m = some meth := X.method'
  have hn : narrow .int (.int z) = .int z := rfl
  show Steps p.tables e below (T.setTop { method := m, pc := pc, locals := Ls, stack := _ :: rest, locked := none }) _
  jvm_step X.here [X.here.top, hx, hd, hm', hret, hn]
  first | (intro acts; rw [hl _ acts rfl rfl rfl]) | rw [hl _ _ rfl rfl rfl]
  exact Steps.refl _
end New
end Jvm.RoadKit
namespace Jvm.Pilot.@@N@@
open Jvm Jvm.ClassFile Sem Op Lib Jvm.Free Jvm.Stand Jvm.LawKit Jvm.RoadKit Bundle Jvm.Pilot.@@N@@.Jvm.D

theorem own_eqI {args : Array Value} {first s : State} {o : Option Outcome} {idx : List Nat} {a : Term} {k : Int32} (h : (Jvm.Cond.eq a (.int k)).value args first o s idx = some true) : a.eval args first o idx s = some (.int k) := by
  simp only [Cond.value, Term.eval] at h
  cases ha : a.eval args first o idx s with
  | none => simp [ha] at h
  | some x => cases x <;> simp [ha] at h ⊢; exact h

def own_pick (x : Int32) (aF aU aI aN : Addr) : Addr := if x = (404 : Int32) then aN else if x = (401 : Int32) then aU else if x = (403 : Int32) then aU else if x = (400 : Int32) then aI else if x = (409 : Int32) then aI else if x = (413 : Int32) then aI else aF
def own_code (x : Int32) : Int32 := if x = (404 : Int32) then (3 : Int32) else if x = (401 : Int32) then (4 : Int32) else if x = (403 : Int32) then (4 : Int32) else if x = (400 : Int32) then (2 : Int32) else if x = (409 : Int32) then (2 : Int32) else if x = (413 : Int32) then (2 : Int32) else (1 : Int32)
theorem own_out (x : Int32) (h0 : ¬ x = 400) (h1 : ¬ x = 401) (h2 : ¬ x = 402) (h3 : ¬ x = 403) (h4 : ¬ x = 404) (h5 : ¬ x = 405) (h6 : ¬ x = 406) (h7 : ¬ x = 407) (h8 : ¬ x = 408) (h9 : ¬ x = 409) (h10 : ¬ x = 410) (h11 : ¬ x = 411) (h12 : ¬ x = 412) (h13 : ¬ x = 413) : x.toInt < 400 ∨ x.toInt > 413 := by
  simp only [← Int32.toInt_inj, Int32.reduceToInt] at *
  omega
theorem d1_0 : decode method_3_code 0 = .ok (.iload_n 0, 1) := by decide +kernel
theorem d1_1 : decode method_3_code 1 = .ok (.sipush 404, 3) := by decide +kernel
theorem d1_4 : decode method_3_code 4 = .ok (.if_icmp .ne 7, 3) := by decide +kernel
theorem d1_7 : decode method_3_code 7 = .ok (.getstatic 27, 3) := by decide +kernel
theorem d1_10 : decode method_3_code 10 = .ok (.areturn, 1) := by decide +kernel
theorem d1_11 : decode method_3_code 11 = .ok (.iload_n 0, 1) := by decide +kernel
theorem d1_12 : decode method_3_code 12 = .ok (.sipush 401, 3) := by decide +kernel
theorem d1_15 : decode method_3_code 15 = .ok (.if_icmp .eq 10, 3) := by decide +kernel
theorem d1_18 : decode method_3_code 18 = .ok (.iload_n 0, 1) := by decide +kernel
theorem d1_19 : decode method_3_code 19 = .ok (.sipush 403, 3) := by decide +kernel
theorem d1_22 : decode method_3_code 22 = .ok (.if_icmp .ne 7, 3) := by decide +kernel
theorem d1_25 : decode method_3_code 25 = .ok (.getstatic 31, 3) := by decide +kernel
theorem d1_28 : decode method_3_code 28 = .ok (.areturn, 1) := by decide +kernel
theorem d1_29 : decode method_3_code 29 = .ok (.iload_n 0, 1) := by decide +kernel
theorem d1_30 : decode method_3_code 30 = .ok (.sipush 400, 3) := by decide +kernel
theorem d1_33 : decode method_3_code 33 = .ok (.if_icmp .eq 17, 3) := by decide +kernel
theorem d1_36 : decode method_3_code 36 = .ok (.iload_n 0, 1) := by decide +kernel
theorem d1_37 : decode method_3_code 37 = .ok (.sipush 409, 3) := by decide +kernel
theorem d1_40 : decode method_3_code 40 = .ok (.if_icmp .eq 10, 3) := by decide +kernel
theorem d1_43 : decode method_3_code 43 = .ok (.iload_n 0, 1) := by decide +kernel
theorem d1_44 : decode method_3_code 44 = .ok (.sipush 413, 3) := by decide +kernel
theorem d1_47 : decode method_3_code 47 = .ok (.if_icmp .ne 7, 3) := by decide +kernel
theorem d1_50 : decode method_3_code 50 = .ok (.getstatic 34, 3) := by decide +kernel
theorem d1_53 : decode method_3_code 53 = .ok (.areturn, 1) := by decide +kernel
theorem d1_54 : decode method_3_code 54 = .ok (.getstatic 37, 3) := by decide +kernel
theorem d1_57 : decode method_3_code 57 = .ok (.areturn, 1) := by decide +kernel
theorem pn_1 : plainName "com/example/livedial/livedial/cli/ExitStatusOfRefusalPinLaw" = true := by first | (simp [plainName, overriddenIn]; done) | decide +kernel
theorem ef_1 (m : MethodId) (x0 : Int32) : entryFrame m #[(.int x0)] 1 = mkF m 0 #[.val (.int x0)] [] := by first | (simp [entryFrame, mkF, argsToLocals, Value.category]; done) | rfl
def Q_1 (Z : State) (p1 : Int32) (aF : Addr) (aU : Addr) (aI : Addr) (aN : Addr) (h0 : Heap) (n0 : Nat) (v : Option Value) (h : Heap) (L : List Loc) : Prop := v = some (.ref (own_pick p1 aF aU aI aN)) ∧ Fr n0 L ∧ h = h0
set_option maxRecDepth 65536 in
set_option maxHeartbeats 40000000 in
theorem rm_1 (l : Launch) (Z : State) (a0 : Array Value) (hw : ∀ d ∈ tables_1, d.before a0 Z = true) (ws : List Jvm.Cond) (p1 : Int32) (aF : Addr) (aU : Addr) (aI : Addr) (aN : Addr) (h0 : Heap) (n0 : Nat) (Z0 : n0 ≤ h0.size) (S_FAILED : Sta Z h0 "com/example/livedial/livedial/cli/ExitStatus" "FAILED" "Lcom/example/livedial/livedial/cli/ExitStatus;" (.ref aF)) (S_UNAUTHORIZED : Sta Z h0 "com/example/livedial/livedial/cli/ExitStatus" "UNAUTHORIZED" "Lcom/example/livedial/livedial/cli/ExitStatus;" (.ref aU)) (S_INVALID_INPUT : Sta Z h0 "com/example/livedial/livedial/cli/ExitStatus" "INVALID_INPUT" "Lcom/example/livedial/livedial/cli/ExitStatus;" (.ref aI)) (S_NOT_FOUND : Sta Z h0 "com/example/livedial/livedial/cli/ExitStatus" "NOT_FOUND" "Lcom/example/livedial/livedial/cli/ExitStatus;" (.ref aN)) :
    MetFree l (⟨"com/example/livedial/livedial/cli/ExitStatusOfRefusalPinLaw", "expectedFor", "(I)Lcom/example/livedial/livedial/cli/ExitStatus;"⟩ : MethodName) (head1 (Jvm.Cond.code (⟨"com/example/livedial/livedial/cli/ExitStatusOfRefusalPinLaw", "expectedFor", "(I)Lcom/example/livedial/livedial/cli/ExitStatus;"⟩ : MethodName) method_3_code 1 (some (.object "com/example/livedial/livedial/cli/ExitStatus")) :: ws) ({ frames := 0, cells := 0, slots := 0, locals := 0 } : Room)) (fun a U => a = #[(.int p1)] ∧ Z.Warmed39 U.vm ∧ U.heap = h0) (fun _ _ _ _ _ => True) (fun _ U o U' => ∃ v L, o = .returned v ∧ Q_1 Z p1 aF aU aI aN h0 n0 v U'.heap L ∧ FrameEnd U o U' L ({ frames := 0, cells := 0, slots := 0, locals := 0 } : Room).cells ({ frames := 0, cells := 0, slots := 0, locals := 0 } : Room).slots) := by
  refine MetFree.of_bodySF (plainFor_of_name pn_1) hisR ?_
  intro p e s m args below meth cod_ s₁ Bd hml0 hP hK
  obtain ⟨rfl, hZ, hh⟩ := hP
  have hx := Bd.exec
  have hby := Bd.bytes
  have hml : cod_.maxLocals = 1 := hml0
  have hown : s.vm.findClass "com/example/livedial/livedial/cli/ExitStatusOfRefusalPinLaw" = some m.cls := findClass_of_methodNamed Bd.named
  have hnm := (name_of_methodNamed Bd.named Bd.method).1
  have X0 : Stand p l e ({ frames := 0, cells := 0, slots := 0, locals := 0 } : Room) s m #[(.int p1)] below meth cod_ s₁ [] 0 0 := Stand.of_body Bd
  have e0 : s₁.heap = h0 := by rw [← hh, Bd.state]; rfl
  have N0 := Fr.nil n0
  have pre0 : ∀ t, Steps p.tables e below (s₁.setTop (mkF m 0 #[.val (.int p1)] [])) t → Steps p.tables e below (s₁.setTop (entryFrame m #[(.int p1)] 1)) t := fun t k => castTop (ef_1 m p1) k
  by_cases hc4 : p1 = (404 : Int32)
  · obtain ⟨T1, X1, e1, st1⟩ := getS2 X0 hx hZ hown (host := "") (Or.inl (hw _ (List.mem_of_getElem? (i := 28) rfl))) Via.refl e0 S_NOT_FOUND (g := (mkF m 7 #[.val (.int p1)] [])) rfl (hb hby d1_7)
    obtain ⟨fs, hr, hrun, hended, hW, hsame⟩ := X1.leave (v := some (.ref aN)) (fun h => by rw [Bd.returns] at h; cases h)
    refine ⟨_, _, pre0 _ ?_, hrun, hended, _, _, rfl, ?_, ⟨_, rfl⟩, hW, hsame.mono (by decide) (by decide)⟩
    · show Steps p.tables e below (s₁.setTop (mkF m 0 #[.val (.int p1)] [])) _
      refine XS.iloadN X0.here hx rfl (hb hby d1_0) rfl ?_
      show Steps p.tables e below (s₁.setTop (mkF m 1 #[.val (.int p1)] [(.int p1)])) _
      refine XS.sipush X0.here hx rfl (hb hby d1_1) ?_
      show Steps p.tables e below (s₁.setTop (mkF m 4 #[.val (.int p1)] [(.int (404 : Int32)), (.int p1)])) _
      refine XS.icmpNo X0.here hx rfl (hb hby d1_4) rfl (teq hc4).2 ?_
      show Steps p.tables e below (s₁.setTop (mkF m 7 #[.val (.int p1)] [])) _
      refine st1 _ ?_
      show Steps p.tables e below (T1.setTop (mkF m 10 #[.val (.int p1)] [(.ref aN)])) _
      jvm_step X1.here [X1.here.top, hx, (hb hby d1_10), X1.method', Bd.returns, Value.isRef, FieldType.isReference]
      first | (intro acts; rw [hr _ acts rfl rfl rfl]) | rw [hr _ _ rfl rfl rfl]
      exact Steps.refl _
    · show Q_1 Z p1 aF aU aI aN h0 n0 _ T1.heap _
      rw [e1]
      exact ⟨by simp [own_pick, hc4], N0, rfl⟩
  · by_cases hc15 : p1 = (401 : Int32)
    · obtain ⟨T2, X2, e2, st2⟩ := getS2 X0 hx hZ hown (host := "") (Or.inl (hw _ (List.mem_of_getElem? (i := 22) rfl))) Via.refl e0 S_UNAUTHORIZED (g := (mkF m 25 #[.val (.int p1)] [])) rfl (hb hby d1_25)
      obtain ⟨fs, hr, hrun, hended, hW, hsame⟩ := X2.leave (v := some (.ref aU)) (fun h => by rw [Bd.returns] at h; cases h)
      refine ⟨_, _, pre0 _ ?_, hrun, hended, _, _, rfl, ?_, ⟨_, rfl⟩, hW, hsame.mono (by decide) (by decide)⟩
      · show Steps p.tables e below (s₁.setTop (mkF m 0 #[.val (.int p1)] [])) _
        refine XS.iloadN X0.here hx rfl (hb hby d1_0) rfl ?_
        show Steps p.tables e below (s₁.setTop (mkF m 1 #[.val (.int p1)] [(.int p1)])) _
        refine XS.sipush X0.here hx rfl (hb hby d1_1) ?_
        show Steps p.tables e below (s₁.setTop (mkF m 4 #[.val (.int p1)] [(.int (404 : Int32)), (.int p1)])) _
        refine XS.icmpYes X0.here hx rfl (pc0 := 4) (pc' := 11) rfl (hb hby d1_4) rfl (feq hc4).2 (by decide) (by decide) ?_
        show Steps p.tables e below (s₁.setTop (mkF m 11 #[.val (.int p1)] [])) _
        refine XS.iloadN X0.here hx rfl (hb hby d1_11) rfl ?_
        show Steps p.tables e below (s₁.setTop (mkF m 12 #[.val (.int p1)] [(.int p1)])) _
        refine XS.sipush X0.here hx rfl (hb hby d1_12) ?_
        show Steps p.tables e below (s₁.setTop (mkF m 15 #[.val (.int p1)] [(.int (401 : Int32)), (.int p1)])) _
        refine XS.icmpYes X0.here hx rfl (pc0 := 15) (pc' := 25) rfl (hb hby d1_15) rfl (teq hc15).1 (by decide) (by decide) ?_
        show Steps p.tables e below (s₁.setTop (mkF m 25 #[.val (.int p1)] [])) _
        refine st2 _ ?_
        show Steps p.tables e below (T2.setTop (mkF m 28 #[.val (.int p1)] [(.ref aU)])) _
        jvm_step X2.here [X2.here.top, hx, (hb hby d1_28), X2.method', Bd.returns, Value.isRef, FieldType.isReference]
        first | (intro acts; rw [hr _ acts rfl rfl rfl]) | rw [hr _ _ rfl rfl rfl]
        exact Steps.refl _
      · show Q_1 Z p1 aF aU aI aN h0 n0 _ T2.heap _
        rw [e2]
        exact ⟨by simp [own_pick, hc4, hc15], N0, rfl⟩
    · by_cases hc22 : p1 = (403 : Int32)
      · obtain ⟨T3, X3, e3, st3⟩ := getS2 X0 hx hZ hown (host := "") (Or.inl (hw _ (List.mem_of_getElem? (i := 22) rfl))) Via.refl e0 S_UNAUTHORIZED (g := (mkF m 25 #[.val (.int p1)] [])) rfl (hb hby d1_25)
        obtain ⟨fs, hr, hrun, hended, hW, hsame⟩ := X3.leave (v := some (.ref aU)) (fun h => by rw [Bd.returns] at h; cases h)
        refine ⟨_, _, pre0 _ ?_, hrun, hended, _, _, rfl, ?_, ⟨_, rfl⟩, hW, hsame.mono (by decide) (by decide)⟩
        · show Steps p.tables e below (s₁.setTop (mkF m 0 #[.val (.int p1)] [])) _
          refine XS.iloadN X0.here hx rfl (hb hby d1_0) rfl ?_
          show Steps p.tables e below (s₁.setTop (mkF m 1 #[.val (.int p1)] [(.int p1)])) _
          refine XS.sipush X0.here hx rfl (hb hby d1_1) ?_
          show Steps p.tables e below (s₁.setTop (mkF m 4 #[.val (.int p1)] [(.int (404 : Int32)), (.int p1)])) _
          refine XS.icmpYes X0.here hx rfl (pc0 := 4) (pc' := 11) rfl (hb hby d1_4) rfl (feq hc4).2 (by decide) (by decide) ?_
          show Steps p.tables e below (s₁.setTop (mkF m 11 #[.val (.int p1)] [])) _
          refine XS.iloadN X0.here hx rfl (hb hby d1_11) rfl ?_
          show Steps p.tables e below (s₁.setTop (mkF m 12 #[.val (.int p1)] [(.int p1)])) _
          refine XS.sipush X0.here hx rfl (hb hby d1_12) ?_
          show Steps p.tables e below (s₁.setTop (mkF m 15 #[.val (.int p1)] [(.int (401 : Int32)), (.int p1)])) _
          refine XS.icmpNo X0.here hx rfl (hb hby d1_15) rfl (feq hc15).1 ?_
          show Steps p.tables e below (s₁.setTop (mkF m 18 #[.val (.int p1)] [])) _
          refine XS.iloadN X0.here hx rfl (hb hby d1_18) rfl ?_
          show Steps p.tables e below (s₁.setTop (mkF m 19 #[.val (.int p1)] [(.int p1)])) _
          refine XS.sipush X0.here hx rfl (hb hby d1_19) ?_
          show Steps p.tables e below (s₁.setTop (mkF m 22 #[.val (.int p1)] [(.int (403 : Int32)), (.int p1)])) _
          refine XS.icmpNo X0.here hx rfl (hb hby d1_22) rfl (teq hc22).2 ?_
          show Steps p.tables e below (s₁.setTop (mkF m 25 #[.val (.int p1)] [])) _
          refine st3 _ ?_
          show Steps p.tables e below (T3.setTop (mkF m 28 #[.val (.int p1)] [(.ref aU)])) _
          jvm_step X3.here [X3.here.top, hx, (hb hby d1_28), X3.method', Bd.returns, Value.isRef, FieldType.isReference]
          first | (intro acts; rw [hr _ acts rfl rfl rfl]) | rw [hr _ _ rfl rfl rfl]
          exact Steps.refl _
        · show Q_1 Z p1 aF aU aI aN h0 n0 _ T3.heap _
          rw [e3]
          exact ⟨by simp [own_pick, hc4, hc15, hc22], N0, rfl⟩
      · by_cases hc33 : p1 = (400 : Int32)
        · obtain ⟨T4, X4, e4, st4⟩ := getS2 X0 hx hZ hown (host := "") (Or.inl (hw _ (List.mem_of_getElem? (i := 25) rfl))) Via.refl e0 S_INVALID_INPUT (g := (mkF m 50 #[.val (.int p1)] [])) rfl (hb hby d1_50)
          obtain ⟨fs, hr, hrun, hended, hW, hsame⟩ := X4.leave (v := some (.ref aI)) (fun h => by rw [Bd.returns] at h; cases h)
          refine ⟨_, _, pre0 _ ?_, hrun, hended, _, _, rfl, ?_, ⟨_, rfl⟩, hW, hsame.mono (by decide) (by decide)⟩
          · show Steps p.tables e below (s₁.setTop (mkF m 0 #[.val (.int p1)] [])) _
            refine XS.iloadN X0.here hx rfl (hb hby d1_0) rfl ?_
            show Steps p.tables e below (s₁.setTop (mkF m 1 #[.val (.int p1)] [(.int p1)])) _
            refine XS.sipush X0.here hx rfl (hb hby d1_1) ?_
            show Steps p.tables e below (s₁.setTop (mkF m 4 #[.val (.int p1)] [(.int (404 : Int32)), (.int p1)])) _
            refine XS.icmpYes X0.here hx rfl (pc0 := 4) (pc' := 11) rfl (hb hby d1_4) rfl (feq hc4).2 (by decide) (by decide) ?_
            show Steps p.tables e below (s₁.setTop (mkF m 11 #[.val (.int p1)] [])) _
            refine XS.iloadN X0.here hx rfl (hb hby d1_11) rfl ?_
            show Steps p.tables e below (s₁.setTop (mkF m 12 #[.val (.int p1)] [(.int p1)])) _
            refine XS.sipush X0.here hx rfl (hb hby d1_12) ?_
            show Steps p.tables e below (s₁.setTop (mkF m 15 #[.val (.int p1)] [(.int (401 : Int32)), (.int p1)])) _
            refine XS.icmpNo X0.here hx rfl (hb hby d1_15) rfl (feq hc15).1 ?_
            show Steps p.tables e below (s₁.setTop (mkF m 18 #[.val (.int p1)] [])) _
            refine XS.iloadN X0.here hx rfl (hb hby d1_18) rfl ?_
            show Steps p.tables e below (s₁.setTop (mkF m 19 #[.val (.int p1)] [(.int p1)])) _
            refine XS.sipush X0.here hx rfl (hb hby d1_19) ?_
            show Steps p.tables e below (s₁.setTop (mkF m 22 #[.val (.int p1)] [(.int (403 : Int32)), (.int p1)])) _
            refine XS.icmpYes X0.here hx rfl (pc0 := 22) (pc' := 29) rfl (hb hby d1_22) rfl (feq hc22).2 (by decide) (by decide) ?_
            show Steps p.tables e below (s₁.setTop (mkF m 29 #[.val (.int p1)] [])) _
            refine XS.iloadN X0.here hx rfl (hb hby d1_29) rfl ?_
            show Steps p.tables e below (s₁.setTop (mkF m 30 #[.val (.int p1)] [(.int p1)])) _
            refine XS.sipush X0.here hx rfl (hb hby d1_30) ?_
            show Steps p.tables e below (s₁.setTop (mkF m 33 #[.val (.int p1)] [(.int (400 : Int32)), (.int p1)])) _
            refine XS.icmpYes X0.here hx rfl (pc0 := 33) (pc' := 50) rfl (hb hby d1_33) rfl (teq hc33).1 (by decide) (by decide) ?_
            show Steps p.tables e below (s₁.setTop (mkF m 50 #[.val (.int p1)] [])) _
            refine st4 _ ?_
            show Steps p.tables e below (T4.setTop (mkF m 53 #[.val (.int p1)] [(.ref aI)])) _
            jvm_step X4.here [X4.here.top, hx, (hb hby d1_53), X4.method', Bd.returns, Value.isRef, FieldType.isReference]
            first | (intro acts; rw [hr _ acts rfl rfl rfl]) | rw [hr _ _ rfl rfl rfl]
            exact Steps.refl _
          · show Q_1 Z p1 aF aU aI aN h0 n0 _ T4.heap _
            rw [e4]
            exact ⟨by simp [own_pick, hc4, hc15, hc22, hc33], N0, rfl⟩
        · by_cases hc40 : p1 = (409 : Int32)
          · obtain ⟨T5, X5, e5, st5⟩ := getS2 X0 hx hZ hown (host := "") (Or.inl (hw _ (List.mem_of_getElem? (i := 25) rfl))) Via.refl e0 S_INVALID_INPUT (g := (mkF m 50 #[.val (.int p1)] [])) rfl (hb hby d1_50)
            obtain ⟨fs, hr, hrun, hended, hW, hsame⟩ := X5.leave (v := some (.ref aI)) (fun h => by rw [Bd.returns] at h; cases h)
            refine ⟨_, _, pre0 _ ?_, hrun, hended, _, _, rfl, ?_, ⟨_, rfl⟩, hW, hsame.mono (by decide) (by decide)⟩
            · show Steps p.tables e below (s₁.setTop (mkF m 0 #[.val (.int p1)] [])) _
              refine XS.iloadN X0.here hx rfl (hb hby d1_0) rfl ?_
              show Steps p.tables e below (s₁.setTop (mkF m 1 #[.val (.int p1)] [(.int p1)])) _
              refine XS.sipush X0.here hx rfl (hb hby d1_1) ?_
              show Steps p.tables e below (s₁.setTop (mkF m 4 #[.val (.int p1)] [(.int (404 : Int32)), (.int p1)])) _
              refine XS.icmpYes X0.here hx rfl (pc0 := 4) (pc' := 11) rfl (hb hby d1_4) rfl (feq hc4).2 (by decide) (by decide) ?_
              show Steps p.tables e below (s₁.setTop (mkF m 11 #[.val (.int p1)] [])) _
              refine XS.iloadN X0.here hx rfl (hb hby d1_11) rfl ?_
              show Steps p.tables e below (s₁.setTop (mkF m 12 #[.val (.int p1)] [(.int p1)])) _
              refine XS.sipush X0.here hx rfl (hb hby d1_12) ?_
              show Steps p.tables e below (s₁.setTop (mkF m 15 #[.val (.int p1)] [(.int (401 : Int32)), (.int p1)])) _
              refine XS.icmpNo X0.here hx rfl (hb hby d1_15) rfl (feq hc15).1 ?_
              show Steps p.tables e below (s₁.setTop (mkF m 18 #[.val (.int p1)] [])) _
              refine XS.iloadN X0.here hx rfl (hb hby d1_18) rfl ?_
              show Steps p.tables e below (s₁.setTop (mkF m 19 #[.val (.int p1)] [(.int p1)])) _
              refine XS.sipush X0.here hx rfl (hb hby d1_19) ?_
              show Steps p.tables e below (s₁.setTop (mkF m 22 #[.val (.int p1)] [(.int (403 : Int32)), (.int p1)])) _
              refine XS.icmpYes X0.here hx rfl (pc0 := 22) (pc' := 29) rfl (hb hby d1_22) rfl (feq hc22).2 (by decide) (by decide) ?_
              show Steps p.tables e below (s₁.setTop (mkF m 29 #[.val (.int p1)] [])) _
              refine XS.iloadN X0.here hx rfl (hb hby d1_29) rfl ?_
              show Steps p.tables e below (s₁.setTop (mkF m 30 #[.val (.int p1)] [(.int p1)])) _
              refine XS.sipush X0.here hx rfl (hb hby d1_30) ?_
              show Steps p.tables e below (s₁.setTop (mkF m 33 #[.val (.int p1)] [(.int (400 : Int32)), (.int p1)])) _
              refine XS.icmpNo X0.here hx rfl (hb hby d1_33) rfl (feq hc33).1 ?_
              show Steps p.tables e below (s₁.setTop (mkF m 36 #[.val (.int p1)] [])) _
              refine XS.iloadN X0.here hx rfl (hb hby d1_36) rfl ?_
              show Steps p.tables e below (s₁.setTop (mkF m 37 #[.val (.int p1)] [(.int p1)])) _
              refine XS.sipush X0.here hx rfl (hb hby d1_37) ?_
              show Steps p.tables e below (s₁.setTop (mkF m 40 #[.val (.int p1)] [(.int (409 : Int32)), (.int p1)])) _
              refine XS.icmpYes X0.here hx rfl (pc0 := 40) (pc' := 50) rfl (hb hby d1_40) rfl (teq hc40).1 (by decide) (by decide) ?_
              show Steps p.tables e below (s₁.setTop (mkF m 50 #[.val (.int p1)] [])) _
              refine st5 _ ?_
              show Steps p.tables e below (T5.setTop (mkF m 53 #[.val (.int p1)] [(.ref aI)])) _
              jvm_step X5.here [X5.here.top, hx, (hb hby d1_53), X5.method', Bd.returns, Value.isRef, FieldType.isReference]
              first | (intro acts; rw [hr _ acts rfl rfl rfl]) | rw [hr _ _ rfl rfl rfl]
              exact Steps.refl _
            · show Q_1 Z p1 aF aU aI aN h0 n0 _ T5.heap _
              rw [e5]
              exact ⟨by simp [own_pick, hc4, hc15, hc22, hc33, hc40], N0, rfl⟩
          · by_cases hc47 : p1 = (413 : Int32)
            · obtain ⟨T6, X6, e6, st6⟩ := getS2 X0 hx hZ hown (host := "") (Or.inl (hw _ (List.mem_of_getElem? (i := 25) rfl))) Via.refl e0 S_INVALID_INPUT (g := (mkF m 50 #[.val (.int p1)] [])) rfl (hb hby d1_50)
              obtain ⟨fs, hr, hrun, hended, hW, hsame⟩ := X6.leave (v := some (.ref aI)) (fun h => by rw [Bd.returns] at h; cases h)
              refine ⟨_, _, pre0 _ ?_, hrun, hended, _, _, rfl, ?_, ⟨_, rfl⟩, hW, hsame.mono (by decide) (by decide)⟩
              · show Steps p.tables e below (s₁.setTop (mkF m 0 #[.val (.int p1)] [])) _
                refine XS.iloadN X0.here hx rfl (hb hby d1_0) rfl ?_
                show Steps p.tables e below (s₁.setTop (mkF m 1 #[.val (.int p1)] [(.int p1)])) _
                refine XS.sipush X0.here hx rfl (hb hby d1_1) ?_
                show Steps p.tables e below (s₁.setTop (mkF m 4 #[.val (.int p1)] [(.int (404 : Int32)), (.int p1)])) _
                refine XS.icmpYes X0.here hx rfl (pc0 := 4) (pc' := 11) rfl (hb hby d1_4) rfl (feq hc4).2 (by decide) (by decide) ?_
                show Steps p.tables e below (s₁.setTop (mkF m 11 #[.val (.int p1)] [])) _
                refine XS.iloadN X0.here hx rfl (hb hby d1_11) rfl ?_
                show Steps p.tables e below (s₁.setTop (mkF m 12 #[.val (.int p1)] [(.int p1)])) _
                refine XS.sipush X0.here hx rfl (hb hby d1_12) ?_
                show Steps p.tables e below (s₁.setTop (mkF m 15 #[.val (.int p1)] [(.int (401 : Int32)), (.int p1)])) _
                refine XS.icmpNo X0.here hx rfl (hb hby d1_15) rfl (feq hc15).1 ?_
                show Steps p.tables e below (s₁.setTop (mkF m 18 #[.val (.int p1)] [])) _
                refine XS.iloadN X0.here hx rfl (hb hby d1_18) rfl ?_
                show Steps p.tables e below (s₁.setTop (mkF m 19 #[.val (.int p1)] [(.int p1)])) _
                refine XS.sipush X0.here hx rfl (hb hby d1_19) ?_
                show Steps p.tables e below (s₁.setTop (mkF m 22 #[.val (.int p1)] [(.int (403 : Int32)), (.int p1)])) _
                refine XS.icmpYes X0.here hx rfl (pc0 := 22) (pc' := 29) rfl (hb hby d1_22) rfl (feq hc22).2 (by decide) (by decide) ?_
                show Steps p.tables e below (s₁.setTop (mkF m 29 #[.val (.int p1)] [])) _
                refine XS.iloadN X0.here hx rfl (hb hby d1_29) rfl ?_
                show Steps p.tables e below (s₁.setTop (mkF m 30 #[.val (.int p1)] [(.int p1)])) _
                refine XS.sipush X0.here hx rfl (hb hby d1_30) ?_
                show Steps p.tables e below (s₁.setTop (mkF m 33 #[.val (.int p1)] [(.int (400 : Int32)), (.int p1)])) _
                refine XS.icmpNo X0.here hx rfl (hb hby d1_33) rfl (feq hc33).1 ?_
                show Steps p.tables e below (s₁.setTop (mkF m 36 #[.val (.int p1)] [])) _
                refine XS.iloadN X0.here hx rfl (hb hby d1_36) rfl ?_
                show Steps p.tables e below (s₁.setTop (mkF m 37 #[.val (.int p1)] [(.int p1)])) _
                refine XS.sipush X0.here hx rfl (hb hby d1_37) ?_
                show Steps p.tables e below (s₁.setTop (mkF m 40 #[.val (.int p1)] [(.int (409 : Int32)), (.int p1)])) _
                refine XS.icmpNo X0.here hx rfl (hb hby d1_40) rfl (feq hc40).1 ?_
                show Steps p.tables e below (s₁.setTop (mkF m 43 #[.val (.int p1)] [])) _
                refine XS.iloadN X0.here hx rfl (hb hby d1_43) rfl ?_
                show Steps p.tables e below (s₁.setTop (mkF m 44 #[.val (.int p1)] [(.int p1)])) _
                refine XS.sipush X0.here hx rfl (hb hby d1_44) ?_
                show Steps p.tables e below (s₁.setTop (mkF m 47 #[.val (.int p1)] [(.int (413 : Int32)), (.int p1)])) _
                refine XS.icmpNo X0.here hx rfl (hb hby d1_47) rfl (teq hc47).2 ?_
                show Steps p.tables e below (s₁.setTop (mkF m 50 #[.val (.int p1)] [])) _
                refine st6 _ ?_
                show Steps p.tables e below (T6.setTop (mkF m 53 #[.val (.int p1)] [(.ref aI)])) _
                jvm_step X6.here [X6.here.top, hx, (hb hby d1_53), X6.method', Bd.returns, Value.isRef, FieldType.isReference]
                first | (intro acts; rw [hr _ acts rfl rfl rfl]) | rw [hr _ _ rfl rfl rfl]
                exact Steps.refl _
              · show Q_1 Z p1 aF aU aI aN h0 n0 _ T6.heap _
                rw [e6]
                exact ⟨by simp [own_pick, hc4, hc15, hc22, hc33, hc40, hc47], N0, rfl⟩
            · obtain ⟨T7, X7, e7, st7⟩ := getS2 X0 hx hZ hown (host := "") (Or.inl (hw _ (List.mem_of_getElem? (i := 4) rfl))) Via.refl e0 S_FAILED (g := (mkF m 54 #[.val (.int p1)] [])) rfl (hb hby d1_54)
              obtain ⟨fs, hr, hrun, hended, hW, hsame⟩ := X7.leave (v := some (.ref aF)) (fun h => by rw [Bd.returns] at h; cases h)
              refine ⟨_, _, pre0 _ ?_, hrun, hended, _, _, rfl, ?_, ⟨_, rfl⟩, hW, hsame.mono (by decide) (by decide)⟩
              · show Steps p.tables e below (s₁.setTop (mkF m 0 #[.val (.int p1)] [])) _
                refine XS.iloadN X0.here hx rfl (hb hby d1_0) rfl ?_
                show Steps p.tables e below (s₁.setTop (mkF m 1 #[.val (.int p1)] [(.int p1)])) _
                refine XS.sipush X0.here hx rfl (hb hby d1_1) ?_
                show Steps p.tables e below (s₁.setTop (mkF m 4 #[.val (.int p1)] [(.int (404 : Int32)), (.int p1)])) _
                refine XS.icmpYes X0.here hx rfl (pc0 := 4) (pc' := 11) rfl (hb hby d1_4) rfl (feq hc4).2 (by decide) (by decide) ?_
                show Steps p.tables e below (s₁.setTop (mkF m 11 #[.val (.int p1)] [])) _
                refine XS.iloadN X0.here hx rfl (hb hby d1_11) rfl ?_
                show Steps p.tables e below (s₁.setTop (mkF m 12 #[.val (.int p1)] [(.int p1)])) _
                refine XS.sipush X0.here hx rfl (hb hby d1_12) ?_
                show Steps p.tables e below (s₁.setTop (mkF m 15 #[.val (.int p1)] [(.int (401 : Int32)), (.int p1)])) _
                refine XS.icmpNo X0.here hx rfl (hb hby d1_15) rfl (feq hc15).1 ?_
                show Steps p.tables e below (s₁.setTop (mkF m 18 #[.val (.int p1)] [])) _
                refine XS.iloadN X0.here hx rfl (hb hby d1_18) rfl ?_
                show Steps p.tables e below (s₁.setTop (mkF m 19 #[.val (.int p1)] [(.int p1)])) _
                refine XS.sipush X0.here hx rfl (hb hby d1_19) ?_
                show Steps p.tables e below (s₁.setTop (mkF m 22 #[.val (.int p1)] [(.int (403 : Int32)), (.int p1)])) _
                refine XS.icmpYes X0.here hx rfl (pc0 := 22) (pc' := 29) rfl (hb hby d1_22) rfl (feq hc22).2 (by decide) (by decide) ?_
                show Steps p.tables e below (s₁.setTop (mkF m 29 #[.val (.int p1)] [])) _
                refine XS.iloadN X0.here hx rfl (hb hby d1_29) rfl ?_
                show Steps p.tables e below (s₁.setTop (mkF m 30 #[.val (.int p1)] [(.int p1)])) _
                refine XS.sipush X0.here hx rfl (hb hby d1_30) ?_
                show Steps p.tables e below (s₁.setTop (mkF m 33 #[.val (.int p1)] [(.int (400 : Int32)), (.int p1)])) _
                refine XS.icmpNo X0.here hx rfl (hb hby d1_33) rfl (feq hc33).1 ?_
                show Steps p.tables e below (s₁.setTop (mkF m 36 #[.val (.int p1)] [])) _
                refine XS.iloadN X0.here hx rfl (hb hby d1_36) rfl ?_
                show Steps p.tables e below (s₁.setTop (mkF m 37 #[.val (.int p1)] [(.int p1)])) _
                refine XS.sipush X0.here hx rfl (hb hby d1_37) ?_
                show Steps p.tables e below (s₁.setTop (mkF m 40 #[.val (.int p1)] [(.int (409 : Int32)), (.int p1)])) _
                refine XS.icmpNo X0.here hx rfl (hb hby d1_40) rfl (feq hc40).1 ?_
                show Steps p.tables e below (s₁.setTop (mkF m 43 #[.val (.int p1)] [])) _
                refine XS.iloadN X0.here hx rfl (hb hby d1_43) rfl ?_
                show Steps p.tables e below (s₁.setTop (mkF m 44 #[.val (.int p1)] [(.int p1)])) _
                refine XS.sipush X0.here hx rfl (hb hby d1_44) ?_
                show Steps p.tables e below (s₁.setTop (mkF m 47 #[.val (.int p1)] [(.int (413 : Int32)), (.int p1)])) _
                refine XS.icmpYes X0.here hx rfl (pc0 := 47) (pc' := 54) rfl (hb hby d1_47) rfl (feq hc47).2 (by decide) (by decide) ?_
                show Steps p.tables e below (s₁.setTop (mkF m 54 #[.val (.int p1)] [])) _
                refine st7 _ ?_
                show Steps p.tables e below (T7.setTop (mkF m 57 #[.val (.int p1)] [(.ref aF)])) _
                jvm_step X7.here [X7.here.top, hx, (hb hby d1_57), X7.method', Bd.returns, Value.isRef, FieldType.isReference]
                first | (intro acts; rw [hr _ acts rfl rfl rfl]) | rw [hr _ _ rfl rfl rfl]
                exact Steps.refl _
              · show Q_1 Z p1 aF aU aI aN h0 n0 _ T7.heap _
                rw [e7]
                exact ⟨by simp [own_pick, hc4, hc15, hc22, hc33, hc40, hc47], N0, rfl⟩
theorem d2_0 : decode method_4_code 0 = .ok (.iload_n 0, 1) := by decide +kernel
theorem d2_1 : decode method_4_code 1 = .ok (.sipush 404, 3) := by decide +kernel
theorem d2_4 : decode method_4_code 4 = .ok (.if_icmp .ne 5, 3) := by decide +kernel
theorem d2_7 : decode method_4_code 7 = .ok (.iconst 3, 1) := by decide +kernel
theorem d2_8 : decode method_4_code 8 = .ok (.ireturn, 1) := by decide +kernel
theorem d2_9 : decode method_4_code 9 = .ok (.iload_n 0, 1) := by decide +kernel
theorem d2_10 : decode method_4_code 10 = .ok (.sipush 401, 3) := by decide +kernel
theorem d2_13 : decode method_4_code 13 = .ok (.if_icmp .eq 10, 3) := by decide +kernel
theorem d2_16 : decode method_4_code 16 = .ok (.iload_n 0, 1) := by decide +kernel
theorem d2_17 : decode method_4_code 17 = .ok (.sipush 403, 3) := by decide +kernel
theorem d2_20 : decode method_4_code 20 = .ok (.if_icmp .ne 5, 3) := by decide +kernel
theorem d2_23 : decode method_4_code 23 = .ok (.iconst 4, 1) := by decide +kernel
theorem d2_24 : decode method_4_code 24 = .ok (.ireturn, 1) := by decide +kernel
theorem d2_25 : decode method_4_code 25 = .ok (.iload_n 0, 1) := by decide +kernel
theorem d2_26 : decode method_4_code 26 = .ok (.sipush 400, 3) := by decide +kernel
theorem d2_29 : decode method_4_code 29 = .ok (.if_icmp .eq 17, 3) := by decide +kernel
theorem d2_32 : decode method_4_code 32 = .ok (.iload_n 0, 1) := by decide +kernel
theorem d2_33 : decode method_4_code 33 = .ok (.sipush 409, 3) := by decide +kernel
theorem d2_36 : decode method_4_code 36 = .ok (.if_icmp .eq 10, 3) := by decide +kernel
theorem d2_39 : decode method_4_code 39 = .ok (.iload_n 0, 1) := by decide +kernel
theorem d2_40 : decode method_4_code 40 = .ok (.sipush 413, 3) := by decide +kernel
theorem d2_43 : decode method_4_code 43 = .ok (.if_icmp .ne 5, 3) := by decide +kernel
theorem d2_46 : decode method_4_code 46 = .ok (.iconst 2, 1) := by decide +kernel
theorem d2_47 : decode method_4_code 47 = .ok (.ireturn, 1) := by decide +kernel
theorem d2_48 : decode method_4_code 48 = .ok (.iconst 1, 1) := by decide +kernel
theorem d2_49 : decode method_4_code 49 = .ok (.ireturn, 1) := by decide +kernel
theorem pn_2 : plainName "com/example/livedial/livedial/cli/ExitStatusOfRefusalPinLaw" = true := by first | (simp [plainName, overriddenIn]; done) | decide +kernel
theorem ef_2 (m : MethodId) (x0 : Int32) : entryFrame m #[(.int x0)] 1 = mkF m 0 #[.val (.int x0)] [] := by first | (simp [entryFrame, mkF, argsToLocals, Value.category]; done) | rfl
def Q_2 (Z : State) (p1 : Int32) (h0 : Heap) (n0 : Nat) (v : Option Value) (h : Heap) (L : List Loc) : Prop := v = some (.int (own_code p1)) ∧ Fr n0 L ∧ h = h0
set_option maxRecDepth 65536 in
set_option maxHeartbeats 40000000 in
theorem rm_2 (l : Launch) (Z : State) (a0 : Array Value) (hw : ∀ d ∈ tables_1, d.before a0 Z = true) (ws : List Jvm.Cond) (p1 : Int32) (h0 : Heap) (n0 : Nat) (Z0 : n0 ≤ h0.size) :
    MetFree l (⟨"com/example/livedial/livedial/cli/ExitStatusOfRefusalPinLaw", "expectedCodeFor", "(I)I"⟩ : MethodName) (head1 (Jvm.Cond.code (⟨"com/example/livedial/livedial/cli/ExitStatusOfRefusalPinLaw", "expectedCodeFor", "(I)I"⟩ : MethodName) method_4_code 1 (some .int) :: ws) ({ frames := 0, cells := 0, slots := 0, locals := 0 } : Room)) (fun a U => a = #[(.int p1)] ∧ Z.Warmed39 U.vm ∧ U.heap = h0) (fun _ _ _ _ _ => True) (fun _ U o U' => ∃ v L, o = .returned v ∧ Q_2 Z p1 h0 n0 v U'.heap L ∧ FrameEnd U o U' L ({ frames := 0, cells := 0, slots := 0, locals := 0 } : Room).cells ({ frames := 0, cells := 0, slots := 0, locals := 0 } : Room).slots) := by
  refine MetFree.of_bodySF (plainFor_of_name pn_2) hisR ?_
  intro p e s m args below meth cod_ s₁ Bd hml0 hP hK
  obtain ⟨rfl, hZ, hh⟩ := hP
  have hx := Bd.exec
  have hby := Bd.bytes
  have hml : cod_.maxLocals = 1 := hml0
  have hown : s.vm.findClass "com/example/livedial/livedial/cli/ExitStatusOfRefusalPinLaw" = some m.cls := findClass_of_methodNamed Bd.named
  have hnm := (name_of_methodNamed Bd.named Bd.method).1
  have X0 : Stand p l e ({ frames := 0, cells := 0, slots := 0, locals := 0 } : Room) s m #[(.int p1)] below meth cod_ s₁ [] 0 0 := Stand.of_body Bd
  have e0 : s₁.heap = h0 := by rw [← hh, Bd.state]; rfl
  have N0 := Fr.nil n0
  have pre0 : ∀ t, Steps p.tables e below (s₁.setTop (mkF m 0 #[.val (.int p1)] [])) t → Steps p.tables e below (s₁.setTop (entryFrame m #[(.int p1)] 1)) t := fun t k => castTop (ef_2 m p1) k
  by_cases hc4 : p1 = (404 : Int32)
  · obtain ⟨fs, hr, hrun, hended, hW, hsame⟩ := X0.leave (v := some (.int (3 : Int32))) (fun h => by rw [Bd.returns] at h; cases h)
    refine ⟨_, _, pre0 _ ?_, hrun, hended, _, _, rfl, ?_, ⟨_, rfl⟩, hW, hsame.mono (by decide) (by decide)⟩
    · show Steps p.tables e below (s₁.setTop (mkF m 0 #[.val (.int p1)] [])) _
      refine XS.iloadN X0.here hx rfl (hb hby d2_0) rfl ?_
      show Steps p.tables e below (s₁.setTop (mkF m 1 #[.val (.int p1)] [(.int p1)])) _
      refine XS.sipush X0.here hx rfl (hb hby d2_1) ?_
      show Steps p.tables e below (s₁.setTop (mkF m 4 #[.val (.int p1)] [(.int (404 : Int32)), (.int p1)])) _
      refine XS.icmpNo X0.here hx rfl (hb hby d2_4) rfl (teq hc4).2 ?_
      show Steps p.tables e below (s₁.setTop (mkF m 7 #[.val (.int p1)] [])) _
      refine XS.iconst X0.here hx rfl (hb hby d2_7) ?_
      show Steps p.tables e below (s₁.setTop (mkF m 8 #[.val (.int p1)] [(.int (3 : Int32))])) _
      exact retI X0 hx Bd.returns (hb hby d2_8) hr
    · show Q_2 Z p1 h0 n0 _ s₁.heap _
      rw [e0]
      exact ⟨by simp [own_code, hc4], N0, rfl⟩
  · by_cases hc13 : p1 = (401 : Int32)
    · obtain ⟨fs, hr, hrun, hended, hW, hsame⟩ := X0.leave (v := some (.int (4 : Int32))) (fun h => by rw [Bd.returns] at h; cases h)
      refine ⟨_, _, pre0 _ ?_, hrun, hended, _, _, rfl, ?_, ⟨_, rfl⟩, hW, hsame.mono (by decide) (by decide)⟩
      · show Steps p.tables e below (s₁.setTop (mkF m 0 #[.val (.int p1)] [])) _
        refine XS.iloadN X0.here hx rfl (hb hby d2_0) rfl ?_
        show Steps p.tables e below (s₁.setTop (mkF m 1 #[.val (.int p1)] [(.int p1)])) _
        refine XS.sipush X0.here hx rfl (hb hby d2_1) ?_
        show Steps p.tables e below (s₁.setTop (mkF m 4 #[.val (.int p1)] [(.int (404 : Int32)), (.int p1)])) _
        refine XS.icmpYes X0.here hx rfl (pc0 := 4) (pc' := 9) rfl (hb hby d2_4) rfl (feq hc4).2 (by decide) (by decide) ?_
        show Steps p.tables e below (s₁.setTop (mkF m 9 #[.val (.int p1)] [])) _
        refine XS.iloadN X0.here hx rfl (hb hby d2_9) rfl ?_
        show Steps p.tables e below (s₁.setTop (mkF m 10 #[.val (.int p1)] [(.int p1)])) _
        refine XS.sipush X0.here hx rfl (hb hby d2_10) ?_
        show Steps p.tables e below (s₁.setTop (mkF m 13 #[.val (.int p1)] [(.int (401 : Int32)), (.int p1)])) _
        refine XS.icmpYes X0.here hx rfl (pc0 := 13) (pc' := 23) rfl (hb hby d2_13) rfl (teq hc13).1 (by decide) (by decide) ?_
        show Steps p.tables e below (s₁.setTop (mkF m 23 #[.val (.int p1)] [])) _
        refine XS.iconst X0.here hx rfl (hb hby d2_23) ?_
        show Steps p.tables e below (s₁.setTop (mkF m 24 #[.val (.int p1)] [(.int (4 : Int32))])) _
        exact retI X0 hx Bd.returns (hb hby d2_24) hr
      · show Q_2 Z p1 h0 n0 _ s₁.heap _
        rw [e0]
        exact ⟨by simp [own_code, hc4, hc13], N0, rfl⟩
    · by_cases hc20 : p1 = (403 : Int32)
      · obtain ⟨fs, hr, hrun, hended, hW, hsame⟩ := X0.leave (v := some (.int (4 : Int32))) (fun h => by rw [Bd.returns] at h; cases h)
        refine ⟨_, _, pre0 _ ?_, hrun, hended, _, _, rfl, ?_, ⟨_, rfl⟩, hW, hsame.mono (by decide) (by decide)⟩
        · show Steps p.tables e below (s₁.setTop (mkF m 0 #[.val (.int p1)] [])) _
          refine XS.iloadN X0.here hx rfl (hb hby d2_0) rfl ?_
          show Steps p.tables e below (s₁.setTop (mkF m 1 #[.val (.int p1)] [(.int p1)])) _
          refine XS.sipush X0.here hx rfl (hb hby d2_1) ?_
          show Steps p.tables e below (s₁.setTop (mkF m 4 #[.val (.int p1)] [(.int (404 : Int32)), (.int p1)])) _
          refine XS.icmpYes X0.here hx rfl (pc0 := 4) (pc' := 9) rfl (hb hby d2_4) rfl (feq hc4).2 (by decide) (by decide) ?_
          show Steps p.tables e below (s₁.setTop (mkF m 9 #[.val (.int p1)] [])) _
          refine XS.iloadN X0.here hx rfl (hb hby d2_9) rfl ?_
          show Steps p.tables e below (s₁.setTop (mkF m 10 #[.val (.int p1)] [(.int p1)])) _
          refine XS.sipush X0.here hx rfl (hb hby d2_10) ?_
          show Steps p.tables e below (s₁.setTop (mkF m 13 #[.val (.int p1)] [(.int (401 : Int32)), (.int p1)])) _
          refine XS.icmpNo X0.here hx rfl (hb hby d2_13) rfl (feq hc13).1 ?_
          show Steps p.tables e below (s₁.setTop (mkF m 16 #[.val (.int p1)] [])) _
          refine XS.iloadN X0.here hx rfl (hb hby d2_16) rfl ?_
          show Steps p.tables e below (s₁.setTop (mkF m 17 #[.val (.int p1)] [(.int p1)])) _
          refine XS.sipush X0.here hx rfl (hb hby d2_17) ?_
          show Steps p.tables e below (s₁.setTop (mkF m 20 #[.val (.int p1)] [(.int (403 : Int32)), (.int p1)])) _
          refine XS.icmpNo X0.here hx rfl (hb hby d2_20) rfl (teq hc20).2 ?_
          show Steps p.tables e below (s₁.setTop (mkF m 23 #[.val (.int p1)] [])) _
          refine XS.iconst X0.here hx rfl (hb hby d2_23) ?_
          show Steps p.tables e below (s₁.setTop (mkF m 24 #[.val (.int p1)] [(.int (4 : Int32))])) _
          exact retI X0 hx Bd.returns (hb hby d2_24) hr
        · show Q_2 Z p1 h0 n0 _ s₁.heap _
          rw [e0]
          exact ⟨by simp [own_code, hc4, hc13, hc20], N0, rfl⟩
      · by_cases hc29 : p1 = (400 : Int32)
        · obtain ⟨fs, hr, hrun, hended, hW, hsame⟩ := X0.leave (v := some (.int (2 : Int32))) (fun h => by rw [Bd.returns] at h; cases h)
          refine ⟨_, _, pre0 _ ?_, hrun, hended, _, _, rfl, ?_, ⟨_, rfl⟩, hW, hsame.mono (by decide) (by decide)⟩
          · show Steps p.tables e below (s₁.setTop (mkF m 0 #[.val (.int p1)] [])) _
            refine XS.iloadN X0.here hx rfl (hb hby d2_0) rfl ?_
            show Steps p.tables e below (s₁.setTop (mkF m 1 #[.val (.int p1)] [(.int p1)])) _
            refine XS.sipush X0.here hx rfl (hb hby d2_1) ?_
            show Steps p.tables e below (s₁.setTop (mkF m 4 #[.val (.int p1)] [(.int (404 : Int32)), (.int p1)])) _
            refine XS.icmpYes X0.here hx rfl (pc0 := 4) (pc' := 9) rfl (hb hby d2_4) rfl (feq hc4).2 (by decide) (by decide) ?_
            show Steps p.tables e below (s₁.setTop (mkF m 9 #[.val (.int p1)] [])) _
            refine XS.iloadN X0.here hx rfl (hb hby d2_9) rfl ?_
            show Steps p.tables e below (s₁.setTop (mkF m 10 #[.val (.int p1)] [(.int p1)])) _
            refine XS.sipush X0.here hx rfl (hb hby d2_10) ?_
            show Steps p.tables e below (s₁.setTop (mkF m 13 #[.val (.int p1)] [(.int (401 : Int32)), (.int p1)])) _
            refine XS.icmpNo X0.here hx rfl (hb hby d2_13) rfl (feq hc13).1 ?_
            show Steps p.tables e below (s₁.setTop (mkF m 16 #[.val (.int p1)] [])) _
            refine XS.iloadN X0.here hx rfl (hb hby d2_16) rfl ?_
            show Steps p.tables e below (s₁.setTop (mkF m 17 #[.val (.int p1)] [(.int p1)])) _
            refine XS.sipush X0.here hx rfl (hb hby d2_17) ?_
            show Steps p.tables e below (s₁.setTop (mkF m 20 #[.val (.int p1)] [(.int (403 : Int32)), (.int p1)])) _
            refine XS.icmpYes X0.here hx rfl (pc0 := 20) (pc' := 25) rfl (hb hby d2_20) rfl (feq hc20).2 (by decide) (by decide) ?_
            show Steps p.tables e below (s₁.setTop (mkF m 25 #[.val (.int p1)] [])) _
            refine XS.iloadN X0.here hx rfl (hb hby d2_25) rfl ?_
            show Steps p.tables e below (s₁.setTop (mkF m 26 #[.val (.int p1)] [(.int p1)])) _
            refine XS.sipush X0.here hx rfl (hb hby d2_26) ?_
            show Steps p.tables e below (s₁.setTop (mkF m 29 #[.val (.int p1)] [(.int (400 : Int32)), (.int p1)])) _
            refine XS.icmpYes X0.here hx rfl (pc0 := 29) (pc' := 46) rfl (hb hby d2_29) rfl (teq hc29).1 (by decide) (by decide) ?_
            show Steps p.tables e below (s₁.setTop (mkF m 46 #[.val (.int p1)] [])) _
            refine XS.iconst X0.here hx rfl (hb hby d2_46) ?_
            show Steps p.tables e below (s₁.setTop (mkF m 47 #[.val (.int p1)] [(.int (2 : Int32))])) _
            exact retI X0 hx Bd.returns (hb hby d2_47) hr
          · show Q_2 Z p1 h0 n0 _ s₁.heap _
            rw [e0]
            exact ⟨by simp [own_code, hc4, hc13, hc20, hc29], N0, rfl⟩
        · by_cases hc36 : p1 = (409 : Int32)
          · obtain ⟨fs, hr, hrun, hended, hW, hsame⟩ := X0.leave (v := some (.int (2 : Int32))) (fun h => by rw [Bd.returns] at h; cases h)
            refine ⟨_, _, pre0 _ ?_, hrun, hended, _, _, rfl, ?_, ⟨_, rfl⟩, hW, hsame.mono (by decide) (by decide)⟩
            · show Steps p.tables e below (s₁.setTop (mkF m 0 #[.val (.int p1)] [])) _
              refine XS.iloadN X0.here hx rfl (hb hby d2_0) rfl ?_
              show Steps p.tables e below (s₁.setTop (mkF m 1 #[.val (.int p1)] [(.int p1)])) _
              refine XS.sipush X0.here hx rfl (hb hby d2_1) ?_
              show Steps p.tables e below (s₁.setTop (mkF m 4 #[.val (.int p1)] [(.int (404 : Int32)), (.int p1)])) _
              refine XS.icmpYes X0.here hx rfl (pc0 := 4) (pc' := 9) rfl (hb hby d2_4) rfl (feq hc4).2 (by decide) (by decide) ?_
              show Steps p.tables e below (s₁.setTop (mkF m 9 #[.val (.int p1)] [])) _
              refine XS.iloadN X0.here hx rfl (hb hby d2_9) rfl ?_
              show Steps p.tables e below (s₁.setTop (mkF m 10 #[.val (.int p1)] [(.int p1)])) _
              refine XS.sipush X0.here hx rfl (hb hby d2_10) ?_
              show Steps p.tables e below (s₁.setTop (mkF m 13 #[.val (.int p1)] [(.int (401 : Int32)), (.int p1)])) _
              refine XS.icmpNo X0.here hx rfl (hb hby d2_13) rfl (feq hc13).1 ?_
              show Steps p.tables e below (s₁.setTop (mkF m 16 #[.val (.int p1)] [])) _
              refine XS.iloadN X0.here hx rfl (hb hby d2_16) rfl ?_
              show Steps p.tables e below (s₁.setTop (mkF m 17 #[.val (.int p1)] [(.int p1)])) _
              refine XS.sipush X0.here hx rfl (hb hby d2_17) ?_
              show Steps p.tables e below (s₁.setTop (mkF m 20 #[.val (.int p1)] [(.int (403 : Int32)), (.int p1)])) _
              refine XS.icmpYes X0.here hx rfl (pc0 := 20) (pc' := 25) rfl (hb hby d2_20) rfl (feq hc20).2 (by decide) (by decide) ?_
              show Steps p.tables e below (s₁.setTop (mkF m 25 #[.val (.int p1)] [])) _
              refine XS.iloadN X0.here hx rfl (hb hby d2_25) rfl ?_
              show Steps p.tables e below (s₁.setTop (mkF m 26 #[.val (.int p1)] [(.int p1)])) _
              refine XS.sipush X0.here hx rfl (hb hby d2_26) ?_
              show Steps p.tables e below (s₁.setTop (mkF m 29 #[.val (.int p1)] [(.int (400 : Int32)), (.int p1)])) _
              refine XS.icmpNo X0.here hx rfl (hb hby d2_29) rfl (feq hc29).1 ?_
              show Steps p.tables e below (s₁.setTop (mkF m 32 #[.val (.int p1)] [])) _
              refine XS.iloadN X0.here hx rfl (hb hby d2_32) rfl ?_
              show Steps p.tables e below (s₁.setTop (mkF m 33 #[.val (.int p1)] [(.int p1)])) _
              refine XS.sipush X0.here hx rfl (hb hby d2_33) ?_
              show Steps p.tables e below (s₁.setTop (mkF m 36 #[.val (.int p1)] [(.int (409 : Int32)), (.int p1)])) _
              refine XS.icmpYes X0.here hx rfl (pc0 := 36) (pc' := 46) rfl (hb hby d2_36) rfl (teq hc36).1 (by decide) (by decide) ?_
              show Steps p.tables e below (s₁.setTop (mkF m 46 #[.val (.int p1)] [])) _
              refine XS.iconst X0.here hx rfl (hb hby d2_46) ?_
              show Steps p.tables e below (s₁.setTop (mkF m 47 #[.val (.int p1)] [(.int (2 : Int32))])) _
              exact retI X0 hx Bd.returns (hb hby d2_47) hr
            · show Q_2 Z p1 h0 n0 _ s₁.heap _
              rw [e0]
              exact ⟨by simp [own_code, hc4, hc13, hc20, hc29, hc36], N0, rfl⟩
          · by_cases hc43 : p1 = (413 : Int32)
            · obtain ⟨fs, hr, hrun, hended, hW, hsame⟩ := X0.leave (v := some (.int (2 : Int32))) (fun h => by rw [Bd.returns] at h; cases h)
              refine ⟨_, _, pre0 _ ?_, hrun, hended, _, _, rfl, ?_, ⟨_, rfl⟩, hW, hsame.mono (by decide) (by decide)⟩
              · show Steps p.tables e below (s₁.setTop (mkF m 0 #[.val (.int p1)] [])) _
                refine XS.iloadN X0.here hx rfl (hb hby d2_0) rfl ?_
                show Steps p.tables e below (s₁.setTop (mkF m 1 #[.val (.int p1)] [(.int p1)])) _
                refine XS.sipush X0.here hx rfl (hb hby d2_1) ?_
                show Steps p.tables e below (s₁.setTop (mkF m 4 #[.val (.int p1)] [(.int (404 : Int32)), (.int p1)])) _
                refine XS.icmpYes X0.here hx rfl (pc0 := 4) (pc' := 9) rfl (hb hby d2_4) rfl (feq hc4).2 (by decide) (by decide) ?_
                show Steps p.tables e below (s₁.setTop (mkF m 9 #[.val (.int p1)] [])) _
                refine XS.iloadN X0.here hx rfl (hb hby d2_9) rfl ?_
                show Steps p.tables e below (s₁.setTop (mkF m 10 #[.val (.int p1)] [(.int p1)])) _
                refine XS.sipush X0.here hx rfl (hb hby d2_10) ?_
                show Steps p.tables e below (s₁.setTop (mkF m 13 #[.val (.int p1)] [(.int (401 : Int32)), (.int p1)])) _
                refine XS.icmpNo X0.here hx rfl (hb hby d2_13) rfl (feq hc13).1 ?_
                show Steps p.tables e below (s₁.setTop (mkF m 16 #[.val (.int p1)] [])) _
                refine XS.iloadN X0.here hx rfl (hb hby d2_16) rfl ?_
                show Steps p.tables e below (s₁.setTop (mkF m 17 #[.val (.int p1)] [(.int p1)])) _
                refine XS.sipush X0.here hx rfl (hb hby d2_17) ?_
                show Steps p.tables e below (s₁.setTop (mkF m 20 #[.val (.int p1)] [(.int (403 : Int32)), (.int p1)])) _
                refine XS.icmpYes X0.here hx rfl (pc0 := 20) (pc' := 25) rfl (hb hby d2_20) rfl (feq hc20).2 (by decide) (by decide) ?_
                show Steps p.tables e below (s₁.setTop (mkF m 25 #[.val (.int p1)] [])) _
                refine XS.iloadN X0.here hx rfl (hb hby d2_25) rfl ?_
                show Steps p.tables e below (s₁.setTop (mkF m 26 #[.val (.int p1)] [(.int p1)])) _
                refine XS.sipush X0.here hx rfl (hb hby d2_26) ?_
                show Steps p.tables e below (s₁.setTop (mkF m 29 #[.val (.int p1)] [(.int (400 : Int32)), (.int p1)])) _
                refine XS.icmpNo X0.here hx rfl (hb hby d2_29) rfl (feq hc29).1 ?_
                show Steps p.tables e below (s₁.setTop (mkF m 32 #[.val (.int p1)] [])) _
                refine XS.iloadN X0.here hx rfl (hb hby d2_32) rfl ?_
                show Steps p.tables e below (s₁.setTop (mkF m 33 #[.val (.int p1)] [(.int p1)])) _
                refine XS.sipush X0.here hx rfl (hb hby d2_33) ?_
                show Steps p.tables e below (s₁.setTop (mkF m 36 #[.val (.int p1)] [(.int (409 : Int32)), (.int p1)])) _
                refine XS.icmpNo X0.here hx rfl (hb hby d2_36) rfl (feq hc36).1 ?_
                show Steps p.tables e below (s₁.setTop (mkF m 39 #[.val (.int p1)] [])) _
                refine XS.iloadN X0.here hx rfl (hb hby d2_39) rfl ?_
                show Steps p.tables e below (s₁.setTop (mkF m 40 #[.val (.int p1)] [(.int p1)])) _
                refine XS.sipush X0.here hx rfl (hb hby d2_40) ?_
                show Steps p.tables e below (s₁.setTop (mkF m 43 #[.val (.int p1)] [(.int (413 : Int32)), (.int p1)])) _
                refine XS.icmpNo X0.here hx rfl (hb hby d2_43) rfl (teq hc43).2 ?_
                show Steps p.tables e below (s₁.setTop (mkF m 46 #[.val (.int p1)] [])) _
                refine XS.iconst X0.here hx rfl (hb hby d2_46) ?_
                show Steps p.tables e below (s₁.setTop (mkF m 47 #[.val (.int p1)] [(.int (2 : Int32))])) _
                exact retI X0 hx Bd.returns (hb hby d2_47) hr
              · show Q_2 Z p1 h0 n0 _ s₁.heap _
                rw [e0]
                exact ⟨by simp [own_code, hc4, hc13, hc20, hc29, hc36, hc43], N0, rfl⟩
            · obtain ⟨fs, hr, hrun, hended, hW, hsame⟩ := X0.leave (v := some (.int (1 : Int32))) (fun h => by rw [Bd.returns] at h; cases h)
              refine ⟨_, _, pre0 _ ?_, hrun, hended, _, _, rfl, ?_, ⟨_, rfl⟩, hW, hsame.mono (by decide) (by decide)⟩
              · show Steps p.tables e below (s₁.setTop (mkF m 0 #[.val (.int p1)] [])) _
                refine XS.iloadN X0.here hx rfl (hb hby d2_0) rfl ?_
                show Steps p.tables e below (s₁.setTop (mkF m 1 #[.val (.int p1)] [(.int p1)])) _
                refine XS.sipush X0.here hx rfl (hb hby d2_1) ?_
                show Steps p.tables e below (s₁.setTop (mkF m 4 #[.val (.int p1)] [(.int (404 : Int32)), (.int p1)])) _
                refine XS.icmpYes X0.here hx rfl (pc0 := 4) (pc' := 9) rfl (hb hby d2_4) rfl (feq hc4).2 (by decide) (by decide) ?_
                show Steps p.tables e below (s₁.setTop (mkF m 9 #[.val (.int p1)] [])) _
                refine XS.iloadN X0.here hx rfl (hb hby d2_9) rfl ?_
                show Steps p.tables e below (s₁.setTop (mkF m 10 #[.val (.int p1)] [(.int p1)])) _
                refine XS.sipush X0.here hx rfl (hb hby d2_10) ?_
                show Steps p.tables e below (s₁.setTop (mkF m 13 #[.val (.int p1)] [(.int (401 : Int32)), (.int p1)])) _
                refine XS.icmpNo X0.here hx rfl (hb hby d2_13) rfl (feq hc13).1 ?_
                show Steps p.tables e below (s₁.setTop (mkF m 16 #[.val (.int p1)] [])) _
                refine XS.iloadN X0.here hx rfl (hb hby d2_16) rfl ?_
                show Steps p.tables e below (s₁.setTop (mkF m 17 #[.val (.int p1)] [(.int p1)])) _
                refine XS.sipush X0.here hx rfl (hb hby d2_17) ?_
                show Steps p.tables e below (s₁.setTop (mkF m 20 #[.val (.int p1)] [(.int (403 : Int32)), (.int p1)])) _
                refine XS.icmpYes X0.here hx rfl (pc0 := 20) (pc' := 25) rfl (hb hby d2_20) rfl (feq hc20).2 (by decide) (by decide) ?_
                show Steps p.tables e below (s₁.setTop (mkF m 25 #[.val (.int p1)] [])) _
                refine XS.iloadN X0.here hx rfl (hb hby d2_25) rfl ?_
                show Steps p.tables e below (s₁.setTop (mkF m 26 #[.val (.int p1)] [(.int p1)])) _
                refine XS.sipush X0.here hx rfl (hb hby d2_26) ?_
                show Steps p.tables e below (s₁.setTop (mkF m 29 #[.val (.int p1)] [(.int (400 : Int32)), (.int p1)])) _
                refine XS.icmpNo X0.here hx rfl (hb hby d2_29) rfl (feq hc29).1 ?_
                show Steps p.tables e below (s₁.setTop (mkF m 32 #[.val (.int p1)] [])) _
                refine XS.iloadN X0.here hx rfl (hb hby d2_32) rfl ?_
                show Steps p.tables e below (s₁.setTop (mkF m 33 #[.val (.int p1)] [(.int p1)])) _
                refine XS.sipush X0.here hx rfl (hb hby d2_33) ?_
                show Steps p.tables e below (s₁.setTop (mkF m 36 #[.val (.int p1)] [(.int (409 : Int32)), (.int p1)])) _
                refine XS.icmpNo X0.here hx rfl (hb hby d2_36) rfl (feq hc36).1 ?_
                show Steps p.tables e below (s₁.setTop (mkF m 39 #[.val (.int p1)] [])) _
                refine XS.iloadN X0.here hx rfl (hb hby d2_39) rfl ?_
                show Steps p.tables e below (s₁.setTop (mkF m 40 #[.val (.int p1)] [(.int p1)])) _
                refine XS.sipush X0.here hx rfl (hb hby d2_40) ?_
                show Steps p.tables e below (s₁.setTop (mkF m 43 #[.val (.int p1)] [(.int (413 : Int32)), (.int p1)])) _
                refine XS.icmpYes X0.here hx rfl (pc0 := 43) (pc' := 48) rfl (hb hby d2_43) rfl (feq hc43).2 (by decide) (by decide) ?_
                show Steps p.tables e below (s₁.setTop (mkF m 48 #[.val (.int p1)] [])) _
                refine XS.iconst X0.here hx rfl (hb hby d2_48) ?_
                show Steps p.tables e below (s₁.setTop (mkF m 49 #[.val (.int p1)] [(.int (1 : Int32))])) _
                exact retI X0 hx Bd.returns (hb hby d2_49) hr
              · show Q_2 Z p1 h0 n0 _ s₁.heap _
                rw [e0]
                exact ⟨by simp [own_code, hc4, hc13, hc20, hc29, hc36, hc43], N0, rfl⟩
theorem d3_0 : decode prog_26_method_4_code 0 = .ok (.iload_n 0, 1) := by decide +kernel
theorem d3_1 : decode prog_26_method_4_code 1 = .ok (.tableswitch 89 400 413 #[71, 77, 89, 77, 83, 89, 89, 89, 89, 71, 89, 89, 89, 71], 71) := by decide +kernel
theorem d3_72 : decode prog_26_method_4_code 72 = .ok (.getstatic 10, 3) := by decide +kernel
theorem d3_75 : decode prog_26_method_4_code 75 = .ok (.goto 18, 3) := by decide +kernel
theorem d3_78 : decode prog_26_method_4_code 78 = .ok (.getstatic 16, 3) := by decide +kernel
theorem d3_81 : decode prog_26_method_4_code 81 = .ok (.goto 12, 3) := by decide +kernel
theorem d3_84 : decode prog_26_method_4_code 84 = .ok (.getstatic 13, 3) := by decide +kernel
theorem d3_87 : decode prog_26_method_4_code 87 = .ok (.goto 6, 3) := by decide +kernel
theorem d3_90 : decode prog_26_method_4_code 90 = .ok (.getstatic 7, 3) := by decide +kernel
theorem d3_93 : decode prog_26_method_4_code 93 = .ok (.areturn, 1) := by decide +kernel
theorem pn_3 : plainName "com/example/livedial/livedial/cli/ExitStatus" = true := by first | (simp [plainName, overriddenIn]; done) | decide +kernel
theorem ef_3 (m : MethodId) (x0 : Int32) : entryFrame m #[(.int x0)] 1 = mkF m 0 #[.val (.int x0)] [] := by first | (simp [entryFrame, mkF, argsToLocals, Value.category]; done) | rfl
def Q_3 (Z : State) (p1 : Int32) (aF : Addr) (aU : Addr) (aI : Addr) (aN : Addr) (h0 : Heap) (n0 : Nat) (v : Option Value) (h : Heap) (L : List Loc) : Prop := v = some (.ref (own_pick p1 aF aU aI aN)) ∧ Fr n0 L ∧ h = h0
set_option maxRecDepth 65536 in
set_option maxHeartbeats 40000000 in
theorem rm_3 (l : Launch) (Z : State) (a0 : Array Value) (hw : ∀ d ∈ tables_1, d.before a0 Z = true) (ws : List Jvm.Cond) (p1 : Int32) (aF : Addr) (aU : Addr) (aI : Addr) (aN : Addr) (h0 : Heap) (n0 : Nat) (Z0 : n0 ≤ h0.size) (S_FAILED : Sta Z h0 "com/example/livedial/livedial/cli/ExitStatus" "FAILED" "Lcom/example/livedial/livedial/cli/ExitStatus;" (.ref aF)) (S_UNAUTHORIZED : Sta Z h0 "com/example/livedial/livedial/cli/ExitStatus" "UNAUTHORIZED" "Lcom/example/livedial/livedial/cli/ExitStatus;" (.ref aU)) (S_INVALID_INPUT : Sta Z h0 "com/example/livedial/livedial/cli/ExitStatus" "INVALID_INPUT" "Lcom/example/livedial/livedial/cli/ExitStatus;" (.ref aI)) (S_NOT_FOUND : Sta Z h0 "com/example/livedial/livedial/cli/ExitStatus" "NOT_FOUND" "Lcom/example/livedial/livedial/cli/ExitStatus;" (.ref aN)) :
    MetFree l (⟨"com/example/livedial/livedial/cli/ExitStatus", "ofRefusal", "(I)Lcom/example/livedial/livedial/cli/ExitStatus;"⟩ : MethodName) (head1 (Jvm.Cond.code (⟨"com/example/livedial/livedial/cli/ExitStatus", "ofRefusal", "(I)Lcom/example/livedial/livedial/cli/ExitStatus;"⟩ : MethodName) prog_26_method_4_code 1 (some (.object "com/example/livedial/livedial/cli/ExitStatus")) :: ws) ({ frames := 0, cells := 0, slots := 0, locals := 0 } : Room)) (fun a U => a = #[(.int p1)] ∧ Z.Warmed39 U.vm ∧ U.heap = h0) (fun _ _ _ _ _ => True) (fun _ U o U' => ∃ v L, o = .returned v ∧ Q_3 Z p1 aF aU aI aN h0 n0 v U'.heap L ∧ FrameEnd U o U' L ({ frames := 0, cells := 0, slots := 0, locals := 0 } : Room).cells ({ frames := 0, cells := 0, slots := 0, locals := 0 } : Room).slots) := by
  refine MetFree.of_bodySF (plainFor_of_name pn_3) hisR ?_
  intro p e s m args below meth cod_ s₁ Bd hml0 hP hK
  obtain ⟨rfl, hZ, hh⟩ := hP
  have hx := Bd.exec
  have hby := Bd.bytes
  have hml : cod_.maxLocals = 1 := hml0
  have hown : s.vm.findClass "com/example/livedial/livedial/cli/ExitStatus" = some m.cls := findClass_of_methodNamed Bd.named
  have hnm := (name_of_methodNamed Bd.named Bd.method).1
  have X0 : Stand p l e ({ frames := 0, cells := 0, slots := 0, locals := 0 } : Room) s m #[(.int p1)] below meth cod_ s₁ [] 0 0 := Stand.of_body Bd
  have e0 : s₁.heap = h0 := by rw [← hh, Bd.state]; rfl
  have N0 := Fr.nil n0
  have pre0 : ∀ t, Steps p.tables e below (s₁.setTop (mkF m 0 #[.val (.int p1)] [])) t → Steps p.tables e below (s₁.setTop (entryFrame m #[(.int p1)] 1)) t := fun t k => castTop (ef_3 m p1) k
  by_cases hs1_400 : p1 = (400 : Int32)
  · obtain ⟨T8, X8, e8, st8⟩ := getS2 X0 hx hZ hown (host := "") (Or.inl (hw _ (List.mem_of_getElem? (i := 27) rfl))) Via.refl e0 S_INVALID_INPUT (g := (mkF m 72 #[.val (.int p1)] [])) rfl (hb hby d3_72)
    obtain ⟨fs, hr, hrun, hended, hW, hsame⟩ := X8.leave (v := some (.ref aI)) (fun h => by rw [Bd.returns] at h; cases h)
    refine ⟨_, _, pre0 _ ?_, hrun, hended, _, _, rfl, ?_, ⟨_, rfl⟩, hW, hsame.mono (by decide) (by decide)⟩
    · show Steps p.tables e below (s₁.setTop (mkF m 0 #[.val (.int p1)] [])) _
      refine XS.iloadN X0.here hx rfl (hb hby d3_0) rfl ?_
      show Steps p.tables e below (s₁.setTop (mkF m 1 #[.val (.int p1)] [(.int p1)])) _
      refine XS.tswIn X0.here hx rfl (pc0 := 1) (pc' := 72) (o := 71) rfl (hb hby d3_1) rfl (by rw [hs1_400]; decide) (by rw [hs1_400]; rfl) (by decide) (by decide) ?_
      show Steps p.tables e below (s₁.setTop (mkF m 72 #[.val (.int p1)] [])) _
      refine st8 _ ?_
      show Steps p.tables e below (T8.setTop (mkF m 75 #[.val (.int p1)] [(.ref aI)])) _
      refine XS.goto X8.here hx rfl (pc0 := 75) (pc' := 93) rfl (hb hby d3_75) (by decide) (by decide) ?_
      show Steps p.tables e below (T8.setTop (mkF m 93 #[.val (.int p1)] [(.ref aI)])) _
      jvm_step X8.here [X8.here.top, hx, (hb hby d3_93), X8.method', Bd.returns, Value.isRef, FieldType.isReference]
      first | (intro acts; rw [hr _ acts rfl rfl rfl]) | rw [hr _ _ rfl rfl rfl]
      exact Steps.refl _
    · show Q_3 Z p1 aF aU aI aN h0 n0 _ T8.heap _
      rw [e8]
      exact ⟨by simp [own_pick, hs1_400], N0, rfl⟩
  by_cases hs1_401 : p1 = (401 : Int32)
  · obtain ⟨T9, X9, e9, st9⟩ := getS2 X0 hx hZ hown (host := "") (Or.inl (hw _ (List.mem_of_getElem? (i := 24) rfl))) Via.refl e0 S_UNAUTHORIZED (g := (mkF m 78 #[.val (.int p1)] [])) rfl (hb hby d3_78)
    obtain ⟨fs, hr, hrun, hended, hW, hsame⟩ := X9.leave (v := some (.ref aU)) (fun h => by rw [Bd.returns] at h; cases h)
    refine ⟨_, _, pre0 _ ?_, hrun, hended, _, _, rfl, ?_, ⟨_, rfl⟩, hW, hsame.mono (by decide) (by decide)⟩
    · show Steps p.tables e below (s₁.setTop (mkF m 0 #[.val (.int p1)] [])) _
      refine XS.iloadN X0.here hx rfl (hb hby d3_0) rfl ?_
      show Steps p.tables e below (s₁.setTop (mkF m 1 #[.val (.int p1)] [(.int p1)])) _
      refine XS.tswIn X0.here hx rfl (pc0 := 1) (pc' := 78) (o := 77) rfl (hb hby d3_1) rfl (by rw [hs1_401]; decide) (by rw [hs1_401]; rfl) (by decide) (by decide) ?_
      show Steps p.tables e below (s₁.setTop (mkF m 78 #[.val (.int p1)] [])) _
      refine st9 _ ?_
      show Steps p.tables e below (T9.setTop (mkF m 81 #[.val (.int p1)] [(.ref aU)])) _
      refine XS.goto X9.here hx rfl (pc0 := 81) (pc' := 93) rfl (hb hby d3_81) (by decide) (by decide) ?_
      show Steps p.tables e below (T9.setTop (mkF m 93 #[.val (.int p1)] [(.ref aU)])) _
      jvm_step X9.here [X9.here.top, hx, (hb hby d3_93), X9.method', Bd.returns, Value.isRef, FieldType.isReference]
      first | (intro acts; rw [hr _ acts rfl rfl rfl]) | rw [hr _ _ rfl rfl rfl]
      exact Steps.refl _
    · show Q_3 Z p1 aF aU aI aN h0 n0 _ T9.heap _
      rw [e9]
      exact ⟨by simp [own_pick, hs1_401], N0, rfl⟩
  by_cases hs1_402 : p1 = (402 : Int32)
  · obtain ⟨T10, X10, e10, st10⟩ := getS2 X0 hx hZ hown (host := "") (Or.inl (hw _ (List.mem_of_getElem? (i := 13) rfl))) Via.refl e0 S_FAILED (g := (mkF m 90 #[.val (.int p1)] [])) rfl (hb hby d3_90)
    obtain ⟨fs, hr, hrun, hended, hW, hsame⟩ := X10.leave (v := some (.ref aF)) (fun h => by rw [Bd.returns] at h; cases h)
    refine ⟨_, _, pre0 _ ?_, hrun, hended, _, _, rfl, ?_, ⟨_, rfl⟩, hW, hsame.mono (by decide) (by decide)⟩
    · show Steps p.tables e below (s₁.setTop (mkF m 0 #[.val (.int p1)] [])) _
      refine XS.iloadN X0.here hx rfl (hb hby d3_0) rfl ?_
      show Steps p.tables e below (s₁.setTop (mkF m 1 #[.val (.int p1)] [(.int p1)])) _
      refine XS.tswIn X0.here hx rfl (pc0 := 1) (pc' := 90) (o := 89) rfl (hb hby d3_1) rfl (by rw [hs1_402]; decide) (by rw [hs1_402]; rfl) (by decide) (by decide) ?_
      show Steps p.tables e below (s₁.setTop (mkF m 90 #[.val (.int p1)] [])) _
      refine st10 _ ?_
      show Steps p.tables e below (T10.setTop (mkF m 93 #[.val (.int p1)] [(.ref aF)])) _
      jvm_step X10.here [X10.here.top, hx, (hb hby d3_93), X10.method', Bd.returns, Value.isRef, FieldType.isReference]
      first | (intro acts; rw [hr _ acts rfl rfl rfl]) | rw [hr _ _ rfl rfl rfl]
      exact Steps.refl _
    · show Q_3 Z p1 aF aU aI aN h0 n0 _ T10.heap _
      rw [e10]
      exact ⟨by simp [own_pick, hs1_402], N0, rfl⟩
  by_cases hs1_403 : p1 = (403 : Int32)
  · obtain ⟨T11, X11, e11, st11⟩ := getS2 X0 hx hZ hown (host := "") (Or.inl (hw _ (List.mem_of_getElem? (i := 24) rfl))) Via.refl e0 S_UNAUTHORIZED (g := (mkF m 78 #[.val (.int p1)] [])) rfl (hb hby d3_78)
    obtain ⟨fs, hr, hrun, hended, hW, hsame⟩ := X11.leave (v := some (.ref aU)) (fun h => by rw [Bd.returns] at h; cases h)
    refine ⟨_, _, pre0 _ ?_, hrun, hended, _, _, rfl, ?_, ⟨_, rfl⟩, hW, hsame.mono (by decide) (by decide)⟩
    · show Steps p.tables e below (s₁.setTop (mkF m 0 #[.val (.int p1)] [])) _
      refine XS.iloadN X0.here hx rfl (hb hby d3_0) rfl ?_
      show Steps p.tables e below (s₁.setTop (mkF m 1 #[.val (.int p1)] [(.int p1)])) _
      refine XS.tswIn X0.here hx rfl (pc0 := 1) (pc' := 78) (o := 77) rfl (hb hby d3_1) rfl (by rw [hs1_403]; decide) (by rw [hs1_403]; rfl) (by decide) (by decide) ?_
      show Steps p.tables e below (s₁.setTop (mkF m 78 #[.val (.int p1)] [])) _
      refine st11 _ ?_
      show Steps p.tables e below (T11.setTop (mkF m 81 #[.val (.int p1)] [(.ref aU)])) _
      refine XS.goto X11.here hx rfl (pc0 := 81) (pc' := 93) rfl (hb hby d3_81) (by decide) (by decide) ?_
      show Steps p.tables e below (T11.setTop (mkF m 93 #[.val (.int p1)] [(.ref aU)])) _
      jvm_step X11.here [X11.here.top, hx, (hb hby d3_93), X11.method', Bd.returns, Value.isRef, FieldType.isReference]
      first | (intro acts; rw [hr _ acts rfl rfl rfl]) | rw [hr _ _ rfl rfl rfl]
      exact Steps.refl _
    · show Q_3 Z p1 aF aU aI aN h0 n0 _ T11.heap _
      rw [e11]
      exact ⟨by simp [own_pick, hs1_403], N0, rfl⟩
  by_cases hs1_404 : p1 = (404 : Int32)
  · obtain ⟨T12, X12, e12, st12⟩ := getS2 X0 hx hZ hown (host := "") (Or.inl (hw _ (List.mem_of_getElem? (i := 30) rfl))) Via.refl e0 S_NOT_FOUND (g := (mkF m 84 #[.val (.int p1)] [])) rfl (hb hby d3_84)
    obtain ⟨fs, hr, hrun, hended, hW, hsame⟩ := X12.leave (v := some (.ref aN)) (fun h => by rw [Bd.returns] at h; cases h)
    refine ⟨_, _, pre0 _ ?_, hrun, hended, _, _, rfl, ?_, ⟨_, rfl⟩, hW, hsame.mono (by decide) (by decide)⟩
    · show Steps p.tables e below (s₁.setTop (mkF m 0 #[.val (.int p1)] [])) _
      refine XS.iloadN X0.here hx rfl (hb hby d3_0) rfl ?_
      show Steps p.tables e below (s₁.setTop (mkF m 1 #[.val (.int p1)] [(.int p1)])) _
      refine XS.tswIn X0.here hx rfl (pc0 := 1) (pc' := 84) (o := 83) rfl (hb hby d3_1) rfl (by rw [hs1_404]; decide) (by rw [hs1_404]; rfl) (by decide) (by decide) ?_
      show Steps p.tables e below (s₁.setTop (mkF m 84 #[.val (.int p1)] [])) _
      refine st12 _ ?_
      show Steps p.tables e below (T12.setTop (mkF m 87 #[.val (.int p1)] [(.ref aN)])) _
      refine XS.goto X12.here hx rfl (pc0 := 87) (pc' := 93) rfl (hb hby d3_87) (by decide) (by decide) ?_
      show Steps p.tables e below (T12.setTop (mkF m 93 #[.val (.int p1)] [(.ref aN)])) _
      jvm_step X12.here [X12.here.top, hx, (hb hby d3_93), X12.method', Bd.returns, Value.isRef, FieldType.isReference]
      first | (intro acts; rw [hr _ acts rfl rfl rfl]) | rw [hr _ _ rfl rfl rfl]
      exact Steps.refl _
    · show Q_3 Z p1 aF aU aI aN h0 n0 _ T12.heap _
      rw [e12]
      exact ⟨by simp [own_pick, hs1_404], N0, rfl⟩
  by_cases hs1_405 : p1 = (405 : Int32)
  · obtain ⟨T13, X13, e13, st13⟩ := getS2 X0 hx hZ hown (host := "") (Or.inl (hw _ (List.mem_of_getElem? (i := 13) rfl))) Via.refl e0 S_FAILED (g := (mkF m 90 #[.val (.int p1)] [])) rfl (hb hby d3_90)
    obtain ⟨fs, hr, hrun, hended, hW, hsame⟩ := X13.leave (v := some (.ref aF)) (fun h => by rw [Bd.returns] at h; cases h)
    refine ⟨_, _, pre0 _ ?_, hrun, hended, _, _, rfl, ?_, ⟨_, rfl⟩, hW, hsame.mono (by decide) (by decide)⟩
    · show Steps p.tables e below (s₁.setTop (mkF m 0 #[.val (.int p1)] [])) _
      refine XS.iloadN X0.here hx rfl (hb hby d3_0) rfl ?_
      show Steps p.tables e below (s₁.setTop (mkF m 1 #[.val (.int p1)] [(.int p1)])) _
      refine XS.tswIn X0.here hx rfl (pc0 := 1) (pc' := 90) (o := 89) rfl (hb hby d3_1) rfl (by rw [hs1_405]; decide) (by rw [hs1_405]; rfl) (by decide) (by decide) ?_
      show Steps p.tables e below (s₁.setTop (mkF m 90 #[.val (.int p1)] [])) _
      refine st13 _ ?_
      show Steps p.tables e below (T13.setTop (mkF m 93 #[.val (.int p1)] [(.ref aF)])) _
      jvm_step X13.here [X13.here.top, hx, (hb hby d3_93), X13.method', Bd.returns, Value.isRef, FieldType.isReference]
      first | (intro acts; rw [hr _ acts rfl rfl rfl]) | rw [hr _ _ rfl rfl rfl]
      exact Steps.refl _
    · show Q_3 Z p1 aF aU aI aN h0 n0 _ T13.heap _
      rw [e13]
      exact ⟨by simp [own_pick, hs1_405], N0, rfl⟩
  by_cases hs1_406 : p1 = (406 : Int32)
  · obtain ⟨T14, X14, e14, st14⟩ := getS2 X0 hx hZ hown (host := "") (Or.inl (hw _ (List.mem_of_getElem? (i := 13) rfl))) Via.refl e0 S_FAILED (g := (mkF m 90 #[.val (.int p1)] [])) rfl (hb hby d3_90)
    obtain ⟨fs, hr, hrun, hended, hW, hsame⟩ := X14.leave (v := some (.ref aF)) (fun h => by rw [Bd.returns] at h; cases h)
    refine ⟨_, _, pre0 _ ?_, hrun, hended, _, _, rfl, ?_, ⟨_, rfl⟩, hW, hsame.mono (by decide) (by decide)⟩
    · show Steps p.tables e below (s₁.setTop (mkF m 0 #[.val (.int p1)] [])) _
      refine XS.iloadN X0.here hx rfl (hb hby d3_0) rfl ?_
      show Steps p.tables e below (s₁.setTop (mkF m 1 #[.val (.int p1)] [(.int p1)])) _
      refine XS.tswIn X0.here hx rfl (pc0 := 1) (pc' := 90) (o := 89) rfl (hb hby d3_1) rfl (by rw [hs1_406]; decide) (by rw [hs1_406]; rfl) (by decide) (by decide) ?_
      show Steps p.tables e below (s₁.setTop (mkF m 90 #[.val (.int p1)] [])) _
      refine st14 _ ?_
      show Steps p.tables e below (T14.setTop (mkF m 93 #[.val (.int p1)] [(.ref aF)])) _
      jvm_step X14.here [X14.here.top, hx, (hb hby d3_93), X14.method', Bd.returns, Value.isRef, FieldType.isReference]
      first | (intro acts; rw [hr _ acts rfl rfl rfl]) | rw [hr _ _ rfl rfl rfl]
      exact Steps.refl _
    · show Q_3 Z p1 aF aU aI aN h0 n0 _ T14.heap _
      rw [e14]
      exact ⟨by simp [own_pick, hs1_406], N0, rfl⟩
  by_cases hs1_407 : p1 = (407 : Int32)
  · obtain ⟨T15, X15, e15, st15⟩ := getS2 X0 hx hZ hown (host := "") (Or.inl (hw _ (List.mem_of_getElem? (i := 13) rfl))) Via.refl e0 S_FAILED (g := (mkF m 90 #[.val (.int p1)] [])) rfl (hb hby d3_90)
    obtain ⟨fs, hr, hrun, hended, hW, hsame⟩ := X15.leave (v := some (.ref aF)) (fun h => by rw [Bd.returns] at h; cases h)
    refine ⟨_, _, pre0 _ ?_, hrun, hended, _, _, rfl, ?_, ⟨_, rfl⟩, hW, hsame.mono (by decide) (by decide)⟩
    · show Steps p.tables e below (s₁.setTop (mkF m 0 #[.val (.int p1)] [])) _
      refine XS.iloadN X0.here hx rfl (hb hby d3_0) rfl ?_
      show Steps p.tables e below (s₁.setTop (mkF m 1 #[.val (.int p1)] [(.int p1)])) _
      refine XS.tswIn X0.here hx rfl (pc0 := 1) (pc' := 90) (o := 89) rfl (hb hby d3_1) rfl (by rw [hs1_407]; decide) (by rw [hs1_407]; rfl) (by decide) (by decide) ?_
      show Steps p.tables e below (s₁.setTop (mkF m 90 #[.val (.int p1)] [])) _
      refine st15 _ ?_
      show Steps p.tables e below (T15.setTop (mkF m 93 #[.val (.int p1)] [(.ref aF)])) _
      jvm_step X15.here [X15.here.top, hx, (hb hby d3_93), X15.method', Bd.returns, Value.isRef, FieldType.isReference]
      first | (intro acts; rw [hr _ acts rfl rfl rfl]) | rw [hr _ _ rfl rfl rfl]
      exact Steps.refl _
    · show Q_3 Z p1 aF aU aI aN h0 n0 _ T15.heap _
      rw [e15]
      exact ⟨by simp [own_pick, hs1_407], N0, rfl⟩
  by_cases hs1_408 : p1 = (408 : Int32)
  · obtain ⟨T16, X16, e16, st16⟩ := getS2 X0 hx hZ hown (host := "") (Or.inl (hw _ (List.mem_of_getElem? (i := 13) rfl))) Via.refl e0 S_FAILED (g := (mkF m 90 #[.val (.int p1)] [])) rfl (hb hby d3_90)
    obtain ⟨fs, hr, hrun, hended, hW, hsame⟩ := X16.leave (v := some (.ref aF)) (fun h => by rw [Bd.returns] at h; cases h)
    refine ⟨_, _, pre0 _ ?_, hrun, hended, _, _, rfl, ?_, ⟨_, rfl⟩, hW, hsame.mono (by decide) (by decide)⟩
    · show Steps p.tables e below (s₁.setTop (mkF m 0 #[.val (.int p1)] [])) _
      refine XS.iloadN X0.here hx rfl (hb hby d3_0) rfl ?_
      show Steps p.tables e below (s₁.setTop (mkF m 1 #[.val (.int p1)] [(.int p1)])) _
      refine XS.tswIn X0.here hx rfl (pc0 := 1) (pc' := 90) (o := 89) rfl (hb hby d3_1) rfl (by rw [hs1_408]; decide) (by rw [hs1_408]; rfl) (by decide) (by decide) ?_
      show Steps p.tables e below (s₁.setTop (mkF m 90 #[.val (.int p1)] [])) _
      refine st16 _ ?_
      show Steps p.tables e below (T16.setTop (mkF m 93 #[.val (.int p1)] [(.ref aF)])) _
      jvm_step X16.here [X16.here.top, hx, (hb hby d3_93), X16.method', Bd.returns, Value.isRef, FieldType.isReference]
      first | (intro acts; rw [hr _ acts rfl rfl rfl]) | rw [hr _ _ rfl rfl rfl]
      exact Steps.refl _
    · show Q_3 Z p1 aF aU aI aN h0 n0 _ T16.heap _
      rw [e16]
      exact ⟨by simp [own_pick, hs1_408], N0, rfl⟩
  by_cases hs1_409 : p1 = (409 : Int32)
  · obtain ⟨T17, X17, e17, st17⟩ := getS2 X0 hx hZ hown (host := "") (Or.inl (hw _ (List.mem_of_getElem? (i := 27) rfl))) Via.refl e0 S_INVALID_INPUT (g := (mkF m 72 #[.val (.int p1)] [])) rfl (hb hby d3_72)
    obtain ⟨fs, hr, hrun, hended, hW, hsame⟩ := X17.leave (v := some (.ref aI)) (fun h => by rw [Bd.returns] at h; cases h)
    refine ⟨_, _, pre0 _ ?_, hrun, hended, _, _, rfl, ?_, ⟨_, rfl⟩, hW, hsame.mono (by decide) (by decide)⟩
    · show Steps p.tables e below (s₁.setTop (mkF m 0 #[.val (.int p1)] [])) _
      refine XS.iloadN X0.here hx rfl (hb hby d3_0) rfl ?_
      show Steps p.tables e below (s₁.setTop (mkF m 1 #[.val (.int p1)] [(.int p1)])) _
      refine XS.tswIn X0.here hx rfl (pc0 := 1) (pc' := 72) (o := 71) rfl (hb hby d3_1) rfl (by rw [hs1_409]; decide) (by rw [hs1_409]; rfl) (by decide) (by decide) ?_
      show Steps p.tables e below (s₁.setTop (mkF m 72 #[.val (.int p1)] [])) _
      refine st17 _ ?_
      show Steps p.tables e below (T17.setTop (mkF m 75 #[.val (.int p1)] [(.ref aI)])) _
      refine XS.goto X17.here hx rfl (pc0 := 75) (pc' := 93) rfl (hb hby d3_75) (by decide) (by decide) ?_
      show Steps p.tables e below (T17.setTop (mkF m 93 #[.val (.int p1)] [(.ref aI)])) _
      jvm_step X17.here [X17.here.top, hx, (hb hby d3_93), X17.method', Bd.returns, Value.isRef, FieldType.isReference]
      first | (intro acts; rw [hr _ acts rfl rfl rfl]) | rw [hr _ _ rfl rfl rfl]
      exact Steps.refl _
    · show Q_3 Z p1 aF aU aI aN h0 n0 _ T17.heap _
      rw [e17]
      exact ⟨by simp [own_pick, hs1_409], N0, rfl⟩
  by_cases hs1_410 : p1 = (410 : Int32)
  · obtain ⟨T18, X18, e18, st18⟩ := getS2 X0 hx hZ hown (host := "") (Or.inl (hw _ (List.mem_of_getElem? (i := 13) rfl))) Via.refl e0 S_FAILED (g := (mkF m 90 #[.val (.int p1)] [])) rfl (hb hby d3_90)
    obtain ⟨fs, hr, hrun, hended, hW, hsame⟩ := X18.leave (v := some (.ref aF)) (fun h => by rw [Bd.returns] at h; cases h)
    refine ⟨_, _, pre0 _ ?_, hrun, hended, _, _, rfl, ?_, ⟨_, rfl⟩, hW, hsame.mono (by decide) (by decide)⟩
    · show Steps p.tables e below (s₁.setTop (mkF m 0 #[.val (.int p1)] [])) _
      refine XS.iloadN X0.here hx rfl (hb hby d3_0) rfl ?_
      show Steps p.tables e below (s₁.setTop (mkF m 1 #[.val (.int p1)] [(.int p1)])) _
      refine XS.tswIn X0.here hx rfl (pc0 := 1) (pc' := 90) (o := 89) rfl (hb hby d3_1) rfl (by rw [hs1_410]; decide) (by rw [hs1_410]; rfl) (by decide) (by decide) ?_
      show Steps p.tables e below (s₁.setTop (mkF m 90 #[.val (.int p1)] [])) _
      refine st18 _ ?_
      show Steps p.tables e below (T18.setTop (mkF m 93 #[.val (.int p1)] [(.ref aF)])) _
      jvm_step X18.here [X18.here.top, hx, (hb hby d3_93), X18.method', Bd.returns, Value.isRef, FieldType.isReference]
      first | (intro acts; rw [hr _ acts rfl rfl rfl]) | rw [hr _ _ rfl rfl rfl]
      exact Steps.refl _
    · show Q_3 Z p1 aF aU aI aN h0 n0 _ T18.heap _
      rw [e18]
      exact ⟨by simp [own_pick, hs1_410], N0, rfl⟩
  by_cases hs1_411 : p1 = (411 : Int32)
  · obtain ⟨T19, X19, e19, st19⟩ := getS2 X0 hx hZ hown (host := "") (Or.inl (hw _ (List.mem_of_getElem? (i := 13) rfl))) Via.refl e0 S_FAILED (g := (mkF m 90 #[.val (.int p1)] [])) rfl (hb hby d3_90)
    obtain ⟨fs, hr, hrun, hended, hW, hsame⟩ := X19.leave (v := some (.ref aF)) (fun h => by rw [Bd.returns] at h; cases h)
    refine ⟨_, _, pre0 _ ?_, hrun, hended, _, _, rfl, ?_, ⟨_, rfl⟩, hW, hsame.mono (by decide) (by decide)⟩
    · show Steps p.tables e below (s₁.setTop (mkF m 0 #[.val (.int p1)] [])) _
      refine XS.iloadN X0.here hx rfl (hb hby d3_0) rfl ?_
      show Steps p.tables e below (s₁.setTop (mkF m 1 #[.val (.int p1)] [(.int p1)])) _
      refine XS.tswIn X0.here hx rfl (pc0 := 1) (pc' := 90) (o := 89) rfl (hb hby d3_1) rfl (by rw [hs1_411]; decide) (by rw [hs1_411]; rfl) (by decide) (by decide) ?_
      show Steps p.tables e below (s₁.setTop (mkF m 90 #[.val (.int p1)] [])) _
      refine st19 _ ?_
      show Steps p.tables e below (T19.setTop (mkF m 93 #[.val (.int p1)] [(.ref aF)])) _
      jvm_step X19.here [X19.here.top, hx, (hb hby d3_93), X19.method', Bd.returns, Value.isRef, FieldType.isReference]
      first | (intro acts; rw [hr _ acts rfl rfl rfl]) | rw [hr _ _ rfl rfl rfl]
      exact Steps.refl _
    · show Q_3 Z p1 aF aU aI aN h0 n0 _ T19.heap _
      rw [e19]
      exact ⟨by simp [own_pick, hs1_411], N0, rfl⟩
  by_cases hs1_412 : p1 = (412 : Int32)
  · obtain ⟨T20, X20, e20, st20⟩ := getS2 X0 hx hZ hown (host := "") (Or.inl (hw _ (List.mem_of_getElem? (i := 13) rfl))) Via.refl e0 S_FAILED (g := (mkF m 90 #[.val (.int p1)] [])) rfl (hb hby d3_90)
    obtain ⟨fs, hr, hrun, hended, hW, hsame⟩ := X20.leave (v := some (.ref aF)) (fun h => by rw [Bd.returns] at h; cases h)
    refine ⟨_, _, pre0 _ ?_, hrun, hended, _, _, rfl, ?_, ⟨_, rfl⟩, hW, hsame.mono (by decide) (by decide)⟩
    · show Steps p.tables e below (s₁.setTop (mkF m 0 #[.val (.int p1)] [])) _
      refine XS.iloadN X0.here hx rfl (hb hby d3_0) rfl ?_
      show Steps p.tables e below (s₁.setTop (mkF m 1 #[.val (.int p1)] [(.int p1)])) _
      refine XS.tswIn X0.here hx rfl (pc0 := 1) (pc' := 90) (o := 89) rfl (hb hby d3_1) rfl (by rw [hs1_412]; decide) (by rw [hs1_412]; rfl) (by decide) (by decide) ?_
      show Steps p.tables e below (s₁.setTop (mkF m 90 #[.val (.int p1)] [])) _
      refine st20 _ ?_
      show Steps p.tables e below (T20.setTop (mkF m 93 #[.val (.int p1)] [(.ref aF)])) _
      jvm_step X20.here [X20.here.top, hx, (hb hby d3_93), X20.method', Bd.returns, Value.isRef, FieldType.isReference]
      first | (intro acts; rw [hr _ acts rfl rfl rfl]) | rw [hr _ _ rfl rfl rfl]
      exact Steps.refl _
    · show Q_3 Z p1 aF aU aI aN h0 n0 _ T20.heap _
      rw [e20]
      exact ⟨by simp [own_pick, hs1_412], N0, rfl⟩
  by_cases hs1_413 : p1 = (413 : Int32)
  · obtain ⟨T21, X21, e21, st21⟩ := getS2 X0 hx hZ hown (host := "") (Or.inl (hw _ (List.mem_of_getElem? (i := 27) rfl))) Via.refl e0 S_INVALID_INPUT (g := (mkF m 72 #[.val (.int p1)] [])) rfl (hb hby d3_72)
    obtain ⟨fs, hr, hrun, hended, hW, hsame⟩ := X21.leave (v := some (.ref aI)) (fun h => by rw [Bd.returns] at h; cases h)
    refine ⟨_, _, pre0 _ ?_, hrun, hended, _, _, rfl, ?_, ⟨_, rfl⟩, hW, hsame.mono (by decide) (by decide)⟩
    · show Steps p.tables e below (s₁.setTop (mkF m 0 #[.val (.int p1)] [])) _
      refine XS.iloadN X0.here hx rfl (hb hby d3_0) rfl ?_
      show Steps p.tables e below (s₁.setTop (mkF m 1 #[.val (.int p1)] [(.int p1)])) _
      refine XS.tswIn X0.here hx rfl (pc0 := 1) (pc' := 72) (o := 71) rfl (hb hby d3_1) rfl (by rw [hs1_413]; decide) (by rw [hs1_413]; rfl) (by decide) (by decide) ?_
      show Steps p.tables e below (s₁.setTop (mkF m 72 #[.val (.int p1)] [])) _
      refine st21 _ ?_
      show Steps p.tables e below (T21.setTop (mkF m 75 #[.val (.int p1)] [(.ref aI)])) _
      refine XS.goto X21.here hx rfl (pc0 := 75) (pc' := 93) rfl (hb hby d3_75) (by decide) (by decide) ?_
      show Steps p.tables e below (T21.setTop (mkF m 93 #[.val (.int p1)] [(.ref aI)])) _
      jvm_step X21.here [X21.here.top, hx, (hb hby d3_93), X21.method', Bd.returns, Value.isRef, FieldType.isReference]
      first | (intro acts; rw [hr _ acts rfl rfl rfl]) | rw [hr _ _ rfl rfl rfl]
      exact Steps.refl _
    · show Q_3 Z p1 aF aU aI aN h0 n0 _ T21.heap _
      rw [e21]
      exact ⟨by simp [own_pick, hs1_413], N0, rfl⟩
  have hsd1 : p1.toInt < 400 ∨ p1.toInt > 413 := own_out p1 hs1_400 hs1_401 hs1_402 hs1_403 hs1_404 hs1_405 hs1_406 hs1_407 hs1_408 hs1_409 hs1_410 hs1_411 hs1_412 hs1_413
  obtain ⟨T22, X22, e22, st22⟩ := getS2 X0 hx hZ hown (host := "") (Or.inl (hw _ (List.mem_of_getElem? (i := 13) rfl))) Via.refl e0 S_FAILED (g := (mkF m 90 #[.val (.int p1)] [])) rfl (hb hby d3_90)
  obtain ⟨fs, hr, hrun, hended, hW, hsame⟩ := X22.leave (v := some (.ref aF)) (fun h => by rw [Bd.returns] at h; cases h)
  refine ⟨_, _, pre0 _ ?_, hrun, hended, _, _, rfl, ?_, ⟨_, rfl⟩, hW, hsame.mono (by decide) (by decide)⟩
  · show Steps p.tables e below (s₁.setTop (mkF m 0 #[.val (.int p1)] [])) _
    refine XS.iloadN X0.here hx rfl (hb hby d3_0) rfl ?_
    show Steps p.tables e below (s₁.setTop (mkF m 1 #[.val (.int p1)] [(.int p1)])) _
    refine XS.tswOut X0.here hx rfl (pc0 := 1) (pc' := 90) rfl (hb hby d3_1) rfl hsd1 (by decide) (by decide) ?_
    show Steps p.tables e below (s₁.setTop (mkF m 90 #[.val (.int p1)] [])) _
    refine st22 _ ?_
    show Steps p.tables e below (T22.setTop (mkF m 93 #[.val (.int p1)] [(.ref aF)])) _
    jvm_step X22.here [X22.here.top, hx, (hb hby d3_93), X22.method', Bd.returns, Value.isRef, FieldType.isReference]
    first | (intro acts; rw [hr _ acts rfl rfl rfl]) | rw [hr _ _ rfl rfl rfl]
    exact Steps.refl _
  · show Q_3 Z p1 aF aU aI aN h0 n0 _ T22.heap _
    rw [e22]
    exact ⟨by simp [own_pick, hs1_400, hs1_401, hs1_402, hs1_403, hs1_404, hs1_405, hs1_406, hs1_407, hs1_408, hs1_409, hs1_410, hs1_411, hs1_412, hs1_413], N0, rfl⟩
theorem d4_0 : decode prog_26_method_5_code 0 = .ok (.aload_n 0, 1) := by decide +kernel
theorem d4_1 : decode prog_26_method_5_code 1 = .ok (.getfield 38, 3) := by decide +kernel
theorem d4_4 : decode prog_26_method_5_code 4 = .ok (.ireturn, 1) := by decide +kernel
theorem pn_4 : plainName "com/example/livedial/livedial/cli/ExitStatus" = true := by first | (simp [plainName, overriddenIn]; done) | decide +kernel
theorem ef_4 (m : MethodId) (x0 : Addr) : entryFrame m #[(.ref x0)] 1 = mkF m 0 #[.val (.ref x0)] [] := by first | (simp [entryFrame, mkF, argsToLocals, Value.category]; done) | rfl
def Q_4 (Z : State) (a1 : Addr) (c : Int32) (h0 : Heap) (n0 : Nat) (v : Option Value) (h : Heap) (L : List Loc) : Prop := v = some (.int c) ∧ Fr n0 L ∧ h = h0
set_option maxRecDepth 65536 in
set_option maxHeartbeats 40000000 in
theorem rm_4 (l : Launch) (Z : State) (a0 : Array Value) (hw : ∀ d ∈ tables_1, d.before a0 Z = true) (ws : List Jvm.Cond) (a1 : Addr) (c : Int32) (h0 : Heap) (n0 : Nat) (Z0 : n0 ≤ h0.size) (F_c : Fld Z h0 a1 "com/example/livedial/livedial/cli/ExitStatus" "code" "I" (.int c)) :
    MetFree l (⟨"com/example/livedial/livedial/cli/ExitStatus", "code", "()I"⟩ : MethodName) (head1 (Jvm.Cond.code (⟨"com/example/livedial/livedial/cli/ExitStatus", "code", "()I"⟩ : MethodName) prog_26_method_5_code 1 (some .int) :: ws) ({ frames := 0, cells := 0, slots := 0, locals := 0 } : Room)) (fun a U => a = #[(.ref a1)] ∧ Z.Warmed39 U.vm ∧ U.heap = h0) (fun _ _ _ _ _ => True) (fun _ U o U' => ∃ v L, o = .returned v ∧ Q_4 Z a1 c h0 n0 v U'.heap L ∧ FrameEnd U o U' L ({ frames := 0, cells := 0, slots := 0, locals := 0 } : Room).cells ({ frames := 0, cells := 0, slots := 0, locals := 0 } : Room).slots) := by
  refine MetFree.of_bodySF (plainFor_of_name pn_4) hisR ?_
  intro p e s m args below meth cod_ s₁ Bd hml0 hP hK
  obtain ⟨rfl, hZ, hh⟩ := hP
  have hx := Bd.exec
  have hby := Bd.bytes
  have hml : cod_.maxLocals = 1 := hml0
  have hown : s.vm.findClass "com/example/livedial/livedial/cli/ExitStatus" = some m.cls := findClass_of_methodNamed Bd.named
  have hnm := (name_of_methodNamed Bd.named Bd.method).1
  have X0 : Stand p l e ({ frames := 0, cells := 0, slots := 0, locals := 0 } : Room) s m #[(.ref a1)] below meth cod_ s₁ [] 0 0 := Stand.of_body Bd
  have e0 : s₁.heap = h0 := by rw [← hh, Bd.state]; rfl
  have N0 := Fr.nil n0
  have pre0 : ∀ t, Steps p.tables e below (s₁.setTop (mkF m 0 #[.val (.ref a1)] [])) t → Steps p.tables e below (s₁.setTop (entryFrame m #[(.ref a1)] 1)) t := fun t k => castTop (ef_4 m a1) k
  obtain ⟨T23, X23, e23, st23⟩ := getF X0 hx hZ hown (host := "") (Or.inl (hw _ (List.mem_of_getElem? (i := 19) rfl))) Via.refl e0 F_c (g := (mkF m 1 #[.val (.ref a1)] [(.ref a1)])) rfl rfl (hb hby d4_1)
  obtain ⟨fs, hr, hrun, hended, hW, hsame⟩ := X23.leave (v := some (.int c)) (fun h => by rw [Bd.returns] at h; cases h)
  refine ⟨_, _, pre0 _ ?_, hrun, hended, _, _, rfl, ?_, ⟨_, rfl⟩, hW, hsame.mono (by decide) (by decide)⟩
  · show Steps p.tables e below (s₁.setTop (mkF m 0 #[.val (.ref a1)] [])) _
    refine XS.aloadN X0.here hx rfl (hb hby d4_0) rfl rfl ?_
    show Steps p.tables e below (s₁.setTop (mkF m 1 #[.val (.ref a1)] [(.ref a1)])) _
    refine st23 _ ?_
    show Steps p.tables e below (T23.setTop (mkF m 4 #[.val (.ref a1)] [(.int c)])) _
    exact retI X23 hx Bd.returns (hb hby d4_4) hr
  · show Q_4 Z a1 c h0 n0 _ T23.heap _
    rw [e23]
    exact ⟨rfl, N0, rfl⟩
theorem pd__28I_29Lcom_2fexample_2flivedial_2flivedial_2fcli_2fExitStatus_3b : parseMethodDescriptor "(I)Lcom/example/livedial/livedial/cli/ExitStatus;" = some ⟨[.int], some (.object "com/example/livedial/livedial/cli/ExitStatus")⟩ := by decide +kernel
theorem pd__28I_29I : parseMethodDescriptor "(I)I" = some ⟨[.int], some .int⟩ := by decide +kernel
theorem pd__28_29I : parseMethodDescriptor "()I" = some ⟨[], some .int⟩ := by decide +kernel
theorem pn_0 : plainName "com/example/livedial/livedial/cli/ExitStatusOfRefusalPinLaw" = true := by first | (simp [plainName, overriddenIn]; done) | decide +kernel
theorem ef_0 (m : MethodId) (x0 : Int32) (x1 : Int32) : entryFrame m #[(.int x0), (.int x1)] maxLocals = mkF m 0 #[.val (.int x0), .val (.int x1), .unset, .unset, .unset, .unset] [] := by first | (simp [entryFrame, mkF, argsToLocals, Value.category, maxLocals]; done) | rfl
def Q_0 (Z : State) (p1 : Int32) (p2 : Int32) (aF : Addr) (aU : Addr) (aI : Addr) (aN : Addr) (h0 : Heap) (n0 : Nat) (v : Option Value) (h : Heap) (L : List Loc) : Prop := v = some (.int 1) ∧ Fr n0 L
set_option maxRecDepth 65536 in
set_option maxHeartbeats 40000000 in
theorem rm_0 (l : Launch) (Z : State) (a0 : Array Value) (hw : ∀ d ∈ tables_1, d.before a0 Z = true) (ws : List Jvm.Cond) (p1 : Int32) (p2 : Int32) (aF : Addr) (aU : Addr) (aI : Addr) (aN : Addr) (h0 : Heap) (n0 : Nat) (Z0 : n0 ≤ h0.size) (S_FAILED : Sta Z h0 "com/example/livedial/livedial/cli/ExitStatus" "FAILED" "Lcom/example/livedial/livedial/cli/ExitStatus;" (.ref aF)) (S_UNAUTHORIZED : Sta Z h0 "com/example/livedial/livedial/cli/ExitStatus" "UNAUTHORIZED" "Lcom/example/livedial/livedial/cli/ExitStatus;" (.ref aU)) (S_INVALID_INPUT : Sta Z h0 "com/example/livedial/livedial/cli/ExitStatus" "INVALID_INPUT" "Lcom/example/livedial/livedial/cli/ExitStatus;" (.ref aI)) (S_NOT_FOUND : Sta Z h0 "com/example/livedial/livedial/cli/ExitStatus" "NOT_FOUND" "Lcom/example/livedial/livedial/cli/ExitStatus;" (.ref aN)) (E_FAILED : Exa Z h0 aF "com/example/livedial/livedial/cli/ExitStatus") (E_UNAUTHORIZED : Exa Z h0 aU "com/example/livedial/livedial/cli/ExitStatus") (E_INVALID_INPUT : Exa Z h0 aI "com/example/livedial/livedial/cli/ExitStatus") (E_NOT_FOUND : Exa Z h0 aN "com/example/livedial/livedial/cli/ExitStatus") (F_FAILED : Fld Z h0 aF "com/example/livedial/livedial/cli/ExitStatus" "code" "I" (.int (1 : Int32))) (F_UNAUTHORIZED : Fld Z h0 aU "com/example/livedial/livedial/cli/ExitStatus" "code" "I" (.int (4 : Int32))) (F_INVALID_INPUT : Fld Z h0 aI "com/example/livedial/livedial/cli/ExitStatus" "code" "I" (.int (2 : Int32))) (F_NOT_FOUND : Fld Z h0 aN "com/example/livedial/livedial/cli/ExitStatus" "code" "I" (.int (3 : Int32))) :
    MetFree l x (head1 (Jvm.Cond.code x code maxLocals ret :: ws) room_1) (fun a U => a = #[(.int p1), (.int p2)] ∧ Z.Warmed39 U.vm ∧ U.heap = h0) (fun _ _ _ _ _ => True) (fun _ U o U' => ∃ v L, o = .returned v ∧ Q_0 Z p1 p2 aF aU aI aN h0 n0 v U'.heap L ∧ FrameEnd U o U' L room_1.cells room_1.slots) := by
  refine MetFree.of_bodySF (plainFor_of_name pn_0) hisR ?_
  intro p e s m args below meth cod_ s₁ Bd hml0 hP hK
  obtain ⟨rfl, hZ, hh⟩ := hP
  have hx := Bd.exec
  have hby := Bd.bytes
  have hml : cod_.maxLocals = 6 := hml0
  have hown : s.vm.findClass "com/example/livedial/livedial/cli/ExitStatusOfRefusalPinLaw" = some m.cls := findClass_of_methodNamed Bd.named
  have hnm := (name_of_methodNamed Bd.named Bd.method).1
  have X0 : Stand p l e room_1 s m #[(.int p1), (.int p2)] below meth cod_ s₁ [] 0 0 := Stand.of_body Bd
  have e0 : s₁.heap = h0 := by rw [← hh, Bd.state]; rfl
  have N0 := Fr.nil n0
  have pre0 : ∀ t, Steps p.tables e below (s₁.setTop (mkF m 0 #[.val (.int p1), .val (.int p2), .unset, .unset, .unset, .unset] [])) t → Steps p.tables e below (s₁.setTop (entryFrame m #[(.int p1), (.int p2)] maxLocals)) t := fun t k => castTop (ef_0 m p1 p2) k
  have md24 : ∀ t, Steps p.tables e below (s₁.setTop (mkF m 23 #[.val (.int p1), .val (.int p2), .val (.int (if (p2 &&& (1 : Int32)) = (0 : Int32) then ((395 : Int32) + ((p1 &&& (2147483647 : Int32)) % (25 : Int32))) else p1)), .unset, .unset, .unset] [])) t → Steps p.tables e below (s₁.setTop (mkF m 3 #[.val (.int p1), .val (.int p2), .unset, .unset, .unset, .unset] [(.int (p2 &&& (1 : Int32)))])) t := by
    intro t kt
    by_cases hd3 : (p2 &&& (1 : Int32)) = (0 : Int32)
    · rw [show (if (p2 &&& (1 : Int32)) = (0 : Int32) then ((395 : Int32) + ((p1 &&& (2147483647 : Int32)) % (25 : Int32))) else p1) = ((395 : Int32) + ((p1 &&& (2147483647 : Int32)) % (25 : Int32))) from if_pos hd3] at kt
      show Steps p.tables e below (s₁.setTop (mkF m 3 #[.val (.int p1), .val (.int p2), .unset, .unset, .unset, .unset] [(.int (p2 &&& (1 : Int32)))])) _
      refine XS.ifYes X0.here hx rfl (pc0 := 3) (pc' := 11) rfl (hb hby at_3) rfl ((if0 _ _).trans (teq hd3).1) (by decide) (by decide) ?_
      show Steps p.tables e below (s₁.setTop (mkF m 11 #[.val (.int p1), .val (.int p2), .unset, .unset, .unset, .unset] [])) _
      refine XS.sipush X0.here hx rfl (hb hby at_11) ?_
      show Steps p.tables e below (s₁.setTop (mkF m 14 #[.val (.int p1), .val (.int p2), .unset, .unset, .unset, .unset] [(.int (395 : Int32))])) _
      refine XS.iloadN X0.here hx rfl (hb hby at_14) rfl ?_
      show Steps p.tables e below (s₁.setTop (mkF m 15 #[.val (.int p1), .val (.int p2), .unset, .unset, .unset, .unset] [(.int p1), (.int (395 : Int32))])) _
      refine X0.ldcInt hx hown (mvT hZ (hw _ (List.mem_of_getElem? (i := 21) rfl))) (g := (mkF m 15 #[.val (.int p1), .val (.int p2), .unset, .unset, .unset, .unset] [(.int p1), (.int (395 : Int32))])) rfl (hb hby at_15) _ ?_
      show Steps p.tables e below (s₁.setTop (mkF m 17 #[.val (.int p1), .val (.int p2), .unset, .unset, .unset, .unset] [(.int (2147483647 : Int32)), (.int p1), (.int (395 : Int32))])) _
      refine XS.iand X0.here hx rfl (hb hby at_17) rfl ?_
      show Steps p.tables e below (s₁.setTop (mkF m 18 #[.val (.int p1), .val (.int p2), .unset, .unset, .unset, .unset] [(.int (p1 &&& (2147483647 : Int32))), (.int (395 : Int32))])) _
      refine XS.bipush X0.here hx rfl (hb hby at_18) ?_
      show Steps p.tables e below (s₁.setTop (mkF m 20 #[.val (.int p1), .val (.int p2), .unset, .unset, .unset, .unset] [(.int (25 : Int32)), (.int (p1 &&& (2147483647 : Int32))), (.int (395 : Int32))])) _
      refine iremM X0 hx rfl (hb hby at_20) rfl (by decide) ?_
      show Steps p.tables e below (s₁.setTop (mkF m 21 #[.val (.int p1), .val (.int p2), .unset, .unset, .unset, .unset] [(.int ((p1 &&& (2147483647 : Int32)) % (25 : Int32))), (.int (395 : Int32))])) _
      refine XS.iadd X0.here hx rfl (hb hby at_21) rfl ?_
      show Steps p.tables e below (s₁.setTop (mkF m 22 #[.val (.int p1), .val (.int p2), .unset, .unset, .unset, .unset] [(.int ((395 : Int32) + ((p1 &&& (2147483647 : Int32)) % (25 : Int32))))])) _
      refine XS.istoreN X0.here hx rfl (hb hby at_22) rfl (l' := #[.val (.int p1), .val (.int p2), .val (.int ((395 : Int32) + ((p1 &&& (2147483647 : Int32)) % (25 : Int32)))), .unset, .unset, .unset]) rfl ?_
      exact kt
    · rw [show (if (p2 &&& (1 : Int32)) = (0 : Int32) then ((395 : Int32) + ((p1 &&& (2147483647 : Int32)) % (25 : Int32))) else p1) = p1 from if_neg hd3] at kt
      show Steps p.tables e below (s₁.setTop (mkF m 3 #[.val (.int p1), .val (.int p2), .unset, .unset, .unset, .unset] [(.int (p2 &&& (1 : Int32)))])) _
      refine XS.ifNo X0.here hx rfl (hb hby at_3) rfl ((if0 _ _).trans (feq hd3).1) ?_
      show Steps p.tables e below (s₁.setTop (mkF m 6 #[.val (.int p1), .val (.int p2), .unset, .unset, .unset, .unset] [])) _
      refine XS.iloadN X0.here hx rfl (hb hby at_6) rfl ?_
      show Steps p.tables e below (s₁.setTop (mkF m 7 #[.val (.int p1), .val (.int p2), .unset, .unset, .unset, .unset] [(.int p1)])) _
      refine XS.istoreN X0.here hx rfl (hb hby at_7) rfl (l' := #[.val (.int p1), .val (.int p2), .val (.int p1), .unset, .unset, .unset]) rfl ?_
      show Steps p.tables e below (s₁.setTop (mkF m 8 #[.val (.int p1), .val (.int p2), .val (.int p1), .unset, .unset, .unset] [])) _
      refine XS.goto X0.here hx rfl (pc0 := 8) (pc' := 23) rfl (hb hby at_8) (by decide) (by decide) ?_
      exact kt
  obtain ⟨sx, e_sx⟩ : ∃ z : Int32, z = (if (p2 &&& (1 : Int32)) = (0 : Int32) then ((395 : Int32) + ((p1 &&& (2147483647 : Int32)) % (25 : Int32))) else p1) := ⟨_, rfl⟩
  obtain ⟨_, _, ⟨T25, L25, c25_, n25_⟩, -, X25, ⟨Lc25, hQ25, l25, y25, z25⟩, st25⟩ := Jvm.LawKit.callS X0 hx (y := (⟨"com/example/livedial/livedial/cli/ExitStatusOfRefusalPinLaw", "expectedFor", "(I)Lcom/example/livedial/livedial/cli/ExitStatus;"⟩ : MethodName)) hown (mvT hZ (hw _ (List.mem_of_getElem? (i := 0) rfl))) (mvT hZ (hw _ (List.mem_of_getElem? (i := 1) rfl))) (mvT hZ (hw _ (List.mem_of_getElem? (i := 2) rfl))) (mvT hZ (hw _ (List.mem_of_getElem? (i := 3) rfl))) (by decide) (backOf (W := 0) (rm_1 l Z a0 hw [] sx aF aU aI aN h0 n0 (Nat.le_trans Z0 (Keep.refl h0 []).1) S_FAILED S_UNAUTHORIZED S_INVALID_INPUT S_NOT_FOUND) hZ (hw _ (List.mem_of_getElem? (i := 3) rfl)) (hw _ (List.mem_of_getElem? (i := 2) rfl)) (by decide) (by decide)) (g := (mkF m 24 #[.val (.int p1), .val (.int p2), .val (.int sx), .unset, .unset, .unset] [(.int sx)])) rfl (by rw [hml]; rfl) (argsL := [(.int sx)]) (rest := []) (lenOf pd__28I_29Lcom_2fexample_2flivedial_2flivedial_2fcli_2fExitStatus_3b rfl) rfl (by show 2 * 0 + _ ≤ _; exact Nat.le_of_eq rfl) (hb hby at_24) (fun _ _ => ⟨rfl, e0, (by decide : 0 + 0 ≤ _), (by decide : 0 + 0 ≤ _)⟩)
  dsimp only [Pt.U, Pt.locs, Pt.cells, Pt.slots] at X25 l25 y25 z25 st25 hQ25
  subst l25 y25 z25
  obtain ⟨rfl, Nq25, e25⟩ := hQ25
  have N25 := Fr.app N0 Nq25
  obtain ⟨_, _, ⟨T26, L26, c26_, n26_⟩, -, X26, ⟨Lc26, hQ26, l26, y26, z26⟩, st26⟩ := Jvm.LawKit.callS X25 hx (y := (⟨"com/example/livedial/livedial/cli/ExitStatusOfRefusalPinLaw", "expectedCodeFor", "(I)I"⟩ : MethodName)) hown (mvT hZ (hw _ (List.mem_of_getElem? (i := 7) rfl))) (mvT hZ (hw _ (List.mem_of_getElem? (i := 8) rfl))) (mvT hZ (hw _ (List.mem_of_getElem? (i := 2) rfl))) (mvT hZ (hw _ (List.mem_of_getElem? (i := 9) rfl))) (by decide) (backOf (W := 0) (rm_2 l Z a0 hw [] sx h0 n0 (Nat.le_trans Z0 (Keep.refl h0 []).1) ) hZ (hw _ (List.mem_of_getElem? (i := 9) rfl)) (hw _ (List.mem_of_getElem? (i := 2) rfl)) (by decide) (by decide)) (g := (mkF m 29 #[.val (.int p1), .val (.int p2), .val (.int sx), .val (.ref (own_pick sx aF aU aI aN)), .unset, .unset] [(.int sx)])) rfl (by rw [hml]; rfl) (argsL := [(.int sx)]) (rest := []) (lenOf pd__28I_29I rfl) rfl (by show 2 * 0 + _ ≤ _; exact Nat.le_of_eq rfl) (hb hby at_29) (fun _ _ => ⟨rfl, e25, (by decide : 0 + 0 ≤ _), (by decide : 0 + 0 ≤ _)⟩)
  dsimp only [Pt.U, Pt.locs, Pt.cells, Pt.slots] at X26 l26 y26 z26 st26 hQ26
  subst l26 y26 z26
  obtain ⟨rfl, Nq26, e26⟩ := hQ26
  have N26 := Fr.app N25 Nq26
  obtain ⟨_, _, ⟨T27, L27, c27_, n27_⟩, -, X27, ⟨Lc27, hQ27, l27, y27, z27⟩, st27⟩ := Jvm.LawKit.callS X26 hx (y := (⟨"com/example/livedial/livedial/cli/ExitStatus", "ofRefusal", "(I)Lcom/example/livedial/livedial/cli/ExitStatus;"⟩ : MethodName)) hown (mvT hZ (hw _ (List.mem_of_getElem? (i := 10) rfl))) (mvT hZ (hw _ (List.mem_of_getElem? (i := 11) rfl))) (mvT hZ (hw _ (List.mem_of_getElem? (i := 5) rfl))) (mvT hZ (hw _ (List.mem_of_getElem? (i := 12) rfl))) (by decide) (backOf (W := 0) (rm_3 l Z a0 hw [] sx aF aU aI aN h0 n0 (Nat.le_trans Z0 (Keep.refl h0 []).1) S_FAILED S_UNAUTHORIZED S_INVALID_INPUT S_NOT_FOUND) hZ (hw _ (List.mem_of_getElem? (i := 12) rfl)) (hw _ (List.mem_of_getElem? (i := 5) rfl)) (by decide) (by decide)) (g := (mkF m 35 #[.val (.int p1), .val (.int p2), .val (.int sx), .val (.ref (own_pick sx aF aU aI aN)), .val (.int (own_code sx)), .unset] [(.int sx)])) rfl (by rw [hml]; rfl) (argsL := [(.int sx)]) (rest := []) (lenOf pd__28I_29Lcom_2fexample_2flivedial_2flivedial_2fcli_2fExitStatus_3b rfl) rfl (by show 2 * 0 + _ ≤ _; exact Nat.le_of_eq rfl) (hb hby at_35) (fun _ _ => ⟨rfl, e26, (by decide : 0 + 0 ≤ _), (by decide : 0 + 0 ≤ _)⟩)
  dsimp only [Pt.U, Pt.locs, Pt.cells, Pt.slots] at X27 l27 y27 z27 st27 hQ27
  subst l27 y27 z27
  obtain ⟨rfl, Nq27, e27⟩ := hQ27
  have N27 := Fr.app N26 Nq27
  have EP : Exa Z h0 (own_pick sx aF aU aI aN) "com/example/livedial/livedial/cli/ExitStatus" := by
    unfold own_pick
    repeat' split
    all_goals assumption
  have FP : Fld Z h0 (own_pick sx aF aU aI aN) "com/example/livedial/livedial/cli/ExitStatus" "code" "I" (.int (own_code sx)) := by
    unfold own_pick own_code
    repeat' split
    all_goals first | assumption | contradiction
  obtain ⟨cq28, kq28, q28a, q28b, q28c⟩ := isOf hZ e27 EP
  obtain ⟨_, _, ⟨T28, L28, c28_, n28_⟩, -, X28, ⟨Lc28, hQ28, l28, y28, z28⟩, st28⟩ := X27.virtualBack hx (y := (⟨"com/example/livedial/livedial/cli/ExitStatus", "code", "()I"⟩ : MethodName)) (z := (⟨"com/example/livedial/livedial/cli/ExitStatus", "code", "()I"⟩ : MethodName)) hown (mvT hZ (hw _ (List.mem_of_getElem? (i := 14) rfl))) (mvT hZ (hw _ (List.mem_of_getElem? (i := 15) rfl))) (notFace_of_selects (args := #[]) (mvT hZ (hw _ (List.mem_of_getElem? (i := 17) rfl)))) (mvT hZ (hw _ (List.mem_of_getElem? (i := 17) rfl))) (mvT hZ (hw _ (List.mem_of_getElem? (i := 16) rfl))) (by decide) (backOf (W := 0) (rm_4 l Z a0 hw [] (own_pick sx aF aU aI aN) (own_code sx) h0 n0 (Nat.le_trans Z0 (Keep.refl h0 []).1) FP) hZ (hw _ (List.mem_of_getElem? (i := 18) rfl)) (hw _ (List.mem_of_getElem? (i := 5) rfl)) (by decide) (by decide)) q28a q28c (g := (mkF m 48 #[.val (.int p1), .val (.int p2), .val (.int sx), .val (.ref (own_pick sx aF aU aI aN)), .val (.int (own_code sx)), .val (.ref (own_pick sx aF aU aI aN))] [(.ref (own_pick sx aF aU aI aN))])) rfl (by rw [hml]; rfl) (Steps.refl _) (argsL := []) (rest := []) (lenOf pd__28_29I rfl) rfl (by show 2 * 0 + _ ≤ _; exact Nat.le_of_eq rfl) (hb hby at_48) (fun _ _ => ⟨rfl, e27, (by decide : 0 + 0 ≤ _), (by decide : 0 + 0 ≤ _)⟩)
  dsimp only [Pt.U, Pt.locs, Pt.cells, Pt.slots] at X28 l28 y28 z28 st28 hQ28
  subst l28 y28 z28
  obtain ⟨rfl, Nq28, e28⟩ := hQ28
  have N28 := Fr.app N27 Nq28
  have hc53 : (own_code sx) = (own_code sx) := rfl
  obtain ⟨fs, hr, hrun, hended, hW, hsame⟩ := X28.leave (v := some (.int (1 : Int32))) (fun h => by rw [Bd.returns] at h; cases h)
  refine ⟨_, _, pre0 _ ?_, hrun, hended, _, _, rfl, ?_, ⟨_, rfl⟩, hW, hsame.mono (by decide) (by decide)⟩
  · show Steps p.tables e below (s₁.setTop (mkF m 0 #[.val (.int p1), .val (.int p2), .unset, .unset, .unset, .unset] [])) _
    refine XS.iloadN X0.here hx rfl (hb hby at_0) rfl ?_
    show Steps p.tables e below (s₁.setTop (mkF m 1 #[.val (.int p1), .val (.int p2), .unset, .unset, .unset, .unset] [(.int p2)])) _
    refine XS.iconst X0.here hx rfl (hb hby at_1) ?_
    show Steps p.tables e below (s₁.setTop (mkF m 2 #[.val (.int p1), .val (.int p2), .unset, .unset, .unset, .unset] [(.int (1 : Int32)), (.int p2)])) _
    refine XS.iand X0.here hx rfl (hb hby at_2) rfl ?_
    show Steps p.tables e below (s₁.setTop (mkF m 3 #[.val (.int p1), .val (.int p2), .unset, .unset, .unset, .unset] [(.int (p2 &&& (1 : Int32)))])) _
    refine md24 _ ?_
    show Steps p.tables e below (s₁.setTop (mkF m 23 #[.val (.int p1), .val (.int p2), .val (.int (if (p2 &&& (1 : Int32)) = (0 : Int32) then ((395 : Int32) + ((p1 &&& (2147483647 : Int32)) % (25 : Int32))) else p1)), .unset, .unset, .unset] [])) _
    rw [← e_sx]
    show Steps p.tables e below (s₁.setTop (mkF m 23 #[.val (.int p1), .val (.int p2), .val (.int sx), .unset, .unset, .unset] [])) _
    refine XS.iloadN X0.here hx rfl (hb hby at_23) rfl ?_
    show Steps p.tables e below (s₁.setTop (mkF m 24 #[.val (.int p1), .val (.int p2), .val (.int sx), .unset, .unset, .unset] [(.int sx)])) _
    refine st25 _ ?_
    show Steps p.tables e below (T25.setTop (mkF m 27 #[.val (.int p1), .val (.int p2), .val (.int sx), .unset, .unset, .unset] [(.ref (own_pick sx aF aU aI aN))])) _
    refine XS.astoreN X25.here hx rfl (hb hby at_27) rfl rfl (l' := #[.val (.int p1), .val (.int p2), .val (.int sx), .val (.ref (own_pick sx aF aU aI aN)), .unset, .unset]) rfl ?_
    show Steps p.tables e below (T25.setTop (mkF m 28 #[.val (.int p1), .val (.int p2), .val (.int sx), .val (.ref (own_pick sx aF aU aI aN)), .unset, .unset] [])) _
    refine XS.iloadN X25.here hx rfl (hb hby at_28) rfl ?_
    show Steps p.tables e below (T25.setTop (mkF m 29 #[.val (.int p1), .val (.int p2), .val (.int sx), .val (.ref (own_pick sx aF aU aI aN)), .unset, .unset] [(.int sx)])) _
    refine st26 _ ?_
    show Steps p.tables e below (T26.setTop (mkF m 32 #[.val (.int p1), .val (.int p2), .val (.int sx), .val (.ref (own_pick sx aF aU aI aN)), .unset, .unset] [(.int (own_code sx))])) _
    refine XS.istore X26.here hx rfl (hb hby at_32) rfl (l' := #[.val (.int p1), .val (.int p2), .val (.int sx), .val (.ref (own_pick sx aF aU aI aN)), .val (.int (own_code sx)), .unset]) rfl ?_
    show Steps p.tables e below (T26.setTop (mkF m 34 #[.val (.int p1), .val (.int p2), .val (.int sx), .val (.ref (own_pick sx aF aU aI aN)), .val (.int (own_code sx)), .unset] [])) _
    refine XS.iloadN X26.here hx rfl (hb hby at_34) rfl ?_
    show Steps p.tables e below (T26.setTop (mkF m 35 #[.val (.int p1), .val (.int p2), .val (.int sx), .val (.ref (own_pick sx aF aU aI aN)), .val (.int (own_code sx)), .unset] [(.int sx)])) _
    refine st27 _ ?_
    show Steps p.tables e below (T27.setTop (mkF m 38 #[.val (.int p1), .val (.int p2), .val (.int sx), .val (.ref (own_pick sx aF aU aI aN)), .val (.int (own_code sx)), .unset] [(.ref (own_pick sx aF aU aI aN))])) _
    refine XS.astore X27.here hx rfl (hb hby at_38) rfl rfl (l' := #[.val (.int p1), .val (.int p2), .val (.int sx), .val (.ref (own_pick sx aF aU aI aN)), .val (.int (own_code sx)), .val (.ref (own_pick sx aF aU aI aN))]) rfl ?_
    show Steps p.tables e below (T27.setTop (mkF m 40 #[.val (.int p1), .val (.int p2), .val (.int sx), .val (.ref (own_pick sx aF aU aI aN)), .val (.int (own_code sx)), .val (.ref (own_pick sx aF aU aI aN))] [])) _
    refine XS.aload X27.here hx rfl (hb hby at_40) rfl rfl ?_
    show Steps p.tables e below (T27.setTop (mkF m 42 #[.val (.int p1), .val (.int p2), .val (.int sx), .val (.ref (own_pick sx aF aU aI aN)), .val (.int (own_code sx)), .val (.ref (own_pick sx aF aU aI aN))] [(.ref (own_pick sx aF aU aI aN))])) _
    refine XS.aloadN X27.here hx rfl (hb hby at_42) rfl rfl ?_
    show Steps p.tables e below (T27.setTop (mkF m 43 #[.val (.int p1), .val (.int p2), .val (.int sx), .val (.ref (own_pick sx aF aU aI aN)), .val (.int (own_code sx)), .val (.ref (own_pick sx aF aU aI aN))] [(.ref (own_pick sx aF aU aI aN)), (.ref (own_pick sx aF aU aI aN))])) _
    refine Jvm.RoadKit.acmp (g := (mkF m 43 #[.val (.int p1), .val (.int p2), .val (.int sx), .val (.ref (own_pick sx aF aU aI aN)), .val (.int (own_code sx)), .val (.ref (own_pick sx aF aU aI aN))] [(.ref (own_pick sx aF aU aI aN)), (.ref (own_pick sx aF aU aI aN))])) X27 hx rfl rfl rfl (pc0 := 43) (pc' := 46) (same := true) rfl (hb hby at_43) rfl (decide_eq_true rfl) (by decide) (by decide) ?_
    show Steps p.tables e below (T27.setTop (mkF m 46 #[.val (.int p1), .val (.int p2), .val (.int sx), .val (.ref (own_pick sx aF aU aI aN)), .val (.int (own_code sx)), .val (.ref (own_pick sx aF aU aI aN))] [])) _
    refine XS.aload X27.here hx rfl (hb hby at_46) rfl rfl ?_
    show Steps p.tables e below (T27.setTop (mkF m 48 #[.val (.int p1), .val (.int p2), .val (.int sx), .val (.ref (own_pick sx aF aU aI aN)), .val (.int (own_code sx)), .val (.ref (own_pick sx aF aU aI aN))] [(.ref (own_pick sx aF aU aI aN))])) _
    refine st28.trans ?_
    show Steps p.tables e below (T28.setTop (mkF m 51 #[.val (.int p1), .val (.int p2), .val (.int sx), .val (.ref (own_pick sx aF aU aI aN)), .val (.int (own_code sx)), .val (.ref (own_pick sx aF aU aI aN))] [(.int (own_code sx))])) _
    refine XS.iload X28.here hx rfl (hb hby at_51) rfl ?_
    show Steps p.tables e below (T28.setTop (mkF m 53 #[.val (.int p1), .val (.int p2), .val (.int sx), .val (.ref (own_pick sx aF aU aI aN)), .val (.int (own_code sx)), .val (.ref (own_pick sx aF aU aI aN))] [(.int (own_code sx)), (.int (own_code sx))])) _
    refine XS.icmpNo X28.here hx rfl (hb hby at_53) rfl (teq hc53).2 ?_
    show Steps p.tables e below (T28.setTop (mkF m 56 #[.val (.int p1), .val (.int p2), .val (.int sx), .val (.ref (own_pick sx aF aU aI aN)), .val (.int (own_code sx)), .val (.ref (own_pick sx aF aU aI aN))] [])) _
    refine XS.iconst X28.here hx rfl (hb hby at_56) ?_
    show Steps p.tables e below (T28.setTop (mkF m 57 #[.val (.int p1), .val (.int p2), .val (.int sx), .val (.ref (own_pick sx aF aU aI aN)), .val (.int (own_code sx)), .val (.ref (own_pick sx aF aU aI aN))] [(.int (1 : Int32))])) _
    refine XS.goto X28.here hx rfl (pc0 := 57) (pc' := 61) rfl (hb hby at_57) (by decide) (by decide) ?_
    show Steps p.tables e below (T28.setTop (mkF m 61 #[.val (.int p1), .val (.int p2), .val (.int sx), .val (.ref (own_pick sx aF aU aI aN)), .val (.int (own_code sx)), .val (.ref (own_pick sx aF aU aI aN))] [(.int (1 : Int32))])) _
    exact retN X28 hx (t := .boolean) Bd.returns (by simp) (hb hby at_61) hr
  · show Q_0 Z p1 p2 aF aU aI aN h0 n0 _ T28.heap _
    rw [e28]
    exact ⟨rfl, N28⟩
set_option maxRecDepth 65536 in
set_option maxHeartbeats 40000000 in
theorem comes_1 {Post : Tables → Env → Array Value → State → Outcome → State → Prop} (hpost : ∀ tb e args s v u, (limb_1_1.after args s (.returned v) u = true ∧ limb_1_2.after args s (.returned v) u = true ∧ True) → FrameEnd s (.returned v) u (Jvm.fieldLocs frame_1_writes args s ++ Jvm.arrayLocs frame_1_arrays args s ++ Jvm.staticLocs frame_1_statics s) 0 0 → Post tb e args s (.returned v) u) :
    ArmFor flags0 classFile x code maxLocals ret World_1 tables_1 room_1 Calls_1 rest_1 Pre_1 Post := by
  intro l hfl _ _ p e ha hc hk s m args below hf hA hF happ hP
  obtain ⟨hcalls, hrest, hpre⟩ := hP
  obtain ⟨-, -, -, hnamed, -, -, -, hat⟩ := (Spec.applies_iff hf).mp happ
  obtain ⟨hg, hn⟩ := and_e (Cond.before_iff.mp (show (Jvm.Cond.and given_1 narrow_1).before args s = true from hpre))
  obtain ⟨g29, g30⟩ := and_e hg
  obtain ⟨g31, g32⟩ := and_e g30
  obtain ⟨k33, k34⟩ := and_e hn
  obtain ⟨k35, k36⟩ := and_e k34
  obtain ⟨k37, k38⟩ := and_e k36
  obtain ⟨k39, k40⟩ := and_e k38
  obtain ⟨k41, k42⟩ := and_e k40
  obtain ⟨k43, k44⟩ := and_e k42
  obtain ⟨k45, k46⟩ := and_e k44
  obtain ⟨w0, w1, rfl⟩ : ∃ w0 w1 : Value, args = #[w0, w1] := by
    have hs : args.size = 2 := by simpa [Cond.value, given_1] using g29
    obtain ⟨L⟩ := args
    match L, hs with
    | [w0, w1], _ => exact ⟨w0, w1, rfl⟩
  have hw := fun d (hd : d ∈ tables_1) => atoms_spec (ws := Jvm.Cond.code x code maxLocals ret :: tables_1) hat d (List.mem_cons_of_mem _ hd)
  have hfit : Fit s := fun {y c} hc i hi => by
    obtain ⟨ha, rfl⟩ := Array.getElem?_eq_some_iff.mp hc
    have q := List.all_eq_true.mp ((Array.all_eq_true_iff_forall_mem.mp hF) _ (Array.getElem_mem ha)) i (List.mem_range.mpr hi)
    simpa [Array.getElem?_eq_getElem hi] using q
  obtain ⟨i0, ei0⟩ := is_v g31
  obtain rfl : w0 = (.int i0) := Option.some.inj ei0
  obtain ⟨i1, ei1⟩ := is_v g32
  obtain rfl : w1 = (.int i1) := Option.some.inj ei1
  obtain ⟨a_FAILED, v_FAILED⟩ := exa_v k33
  have S_FAILED : Sta s s.heap "com/example/livedial/livedial/cli/ExitStatus" "FAILED" "Lcom/example/livedial/livedial/cli/ExitStatus;" (.ref a_FAILED) := Sta.start v_FAILED (Or.inr ⟨(hw _ (List.mem_of_getElem? (i := 5) rfl)), (hw _ (List.mem_of_getElem? (i := 6) rfl))⟩)
  have E_FAILED : Exa s s.heap a_FAILED "com/example/livedial/livedial/cli/ExitStatus" := Exa.start v_FAILED k33
  have F_FAILED_code : Fld s s.heap a_FAILED "com/example/livedial/livedial/cli/ExitStatus" "code" "I" (.int (1 : Int32)) := Fld.start ((fld_at v_FAILED).symm.trans (own_eqI k35))
  obtain ⟨a_UNAUTHORIZED, v_UNAUTHORIZED⟩ := exa_v k37
  have S_UNAUTHORIZED : Sta s s.heap "com/example/livedial/livedial/cli/ExitStatus" "UNAUTHORIZED" "Lcom/example/livedial/livedial/cli/ExitStatus;" (.ref a_UNAUTHORIZED) := Sta.start v_UNAUTHORIZED (Or.inr ⟨(hw _ (List.mem_of_getElem? (i := 5) rfl)), (hw _ (List.mem_of_getElem? (i := 23) rfl))⟩)
  have E_UNAUTHORIZED : Exa s s.heap a_UNAUTHORIZED "com/example/livedial/livedial/cli/ExitStatus" := Exa.start v_UNAUTHORIZED k37
  have F_UNAUTHORIZED_code : Fld s s.heap a_UNAUTHORIZED "com/example/livedial/livedial/cli/ExitStatus" "code" "I" (.int (4 : Int32)) := Fld.start ((fld_at v_UNAUTHORIZED).symm.trans (own_eqI k39))
  obtain ⟨a_INVALID_INPUT, v_INVALID_INPUT⟩ := exa_v k41
  have S_INVALID_INPUT : Sta s s.heap "com/example/livedial/livedial/cli/ExitStatus" "INVALID_INPUT" "Lcom/example/livedial/livedial/cli/ExitStatus;" (.ref a_INVALID_INPUT) := Sta.start v_INVALID_INPUT (Or.inr ⟨(hw _ (List.mem_of_getElem? (i := 5) rfl)), (hw _ (List.mem_of_getElem? (i := 26) rfl))⟩)
  have E_INVALID_INPUT : Exa s s.heap a_INVALID_INPUT "com/example/livedial/livedial/cli/ExitStatus" := Exa.start v_INVALID_INPUT k41
  have F_INVALID_INPUT_code : Fld s s.heap a_INVALID_INPUT "com/example/livedial/livedial/cli/ExitStatus" "code" "I" (.int (2 : Int32)) := Fld.start ((fld_at v_INVALID_INPUT).symm.trans (own_eqI k43))
  obtain ⟨a_NOT_FOUND, v_NOT_FOUND⟩ := exa_v k45
  have S_NOT_FOUND : Sta s s.heap "com/example/livedial/livedial/cli/ExitStatus" "NOT_FOUND" "Lcom/example/livedial/livedial/cli/ExitStatus;" (.ref a_NOT_FOUND) := Sta.start v_NOT_FOUND (Or.inr ⟨(hw _ (List.mem_of_getElem? (i := 5) rfl)), (hw _ (List.mem_of_getElem? (i := 29) rfl))⟩)
  have E_NOT_FOUND : Exa s s.heap a_NOT_FOUND "com/example/livedial/livedial/cli/ExitStatus" := Exa.start v_NOT_FOUND k45
  have F_NOT_FOUND_code : Fld s s.heap a_NOT_FOUND "com/example/livedial/livedial/cli/ExitStatus" "code" "I" (.int (3 : Int32)) := Fld.start ((fld_at v_NOT_FOUND).symm.trans (own_eqI k46))
  obtain ⟨n, o, h1, h2, h3, _, L, rfl, ⟨rfl, N⟩, hq⟩ := rm_0 l s _ hw tables_1 i0 i1 a_FAILED a_UNAUTHORIZED a_INVALID_INPUT a_NOT_FOUND s.heap s.heap.size (Nat.le_refl _) S_FAILED S_UNAUTHORIZED S_INVALID_INPUT S_NOT_FOUND E_FAILED E_UNAUTHORIZED E_INVALID_INPUT E_NOT_FOUND F_FAILED_code F_UNAUTHORIZED_code F_INVALID_INPUT_code F_NOT_FOUND_code p e ha hc hk s m _ below hf ((Spec.applies_iff_loose hf).mp happ).1 ⟨rfl, State.Warmed39.refl s, rfl⟩ trivial
  refine ⟨n, _, h1, h2, h3, hpost _ _ _ _ _ _ ⟨Cond.after_iff.mpr rfl, Cond.after_iff.mpr (eq_i res_at (Term.int_eval (1)) rfl), trivial⟩ ⟨hq.1, hq.2.1, (hq.2.2.sift fun y hy => Or.inr (N y hy)).mono (by decide) (by decide)⟩⟩
theorem main_1_1 : Claimed_1_1 := comes_1 fun _ _ _ _ _ _ h hF => ⟨h.1, hF⟩
theorem main_1_2 : Claimed_1_2 := comes_1 fun _ _ _ _ _ _ h hF => ⟨h.2.1, hF⟩
end Jvm.Pilot.@@N@@
namespace Jvm.Pilot.@@N@@
open Jvm Jvm.ClassFile Sem Op Lib Jvm.Free Jvm.Stand Jvm.Pilot.@@N@@.Jvm.D
/-! MADE BY PROGRAM (witnessworld.py) out of the Statement's table words and the real class files: 12 classes; the members and pool entries that the words name. The judged class is class 1, her method 1. -/
namespace start1
open Jvm.ClassFile
def u (s : String) : CpInfo := .utf8 (stringToUtf16 s)
/-- a pool by its gaps: so many unusable entries, then the entry; so many at the end -/
def gap : Nat → List CpInfo → List CpInfo
  | 0, r => r
  | n + 1, r => .unusable :: gap n r
def poolList (es : List (Nat × CpInfo)) (last : Nat) : List CpInfo := es.foldr (fun e r => gap e.1 (e.2 :: r)) (gap last [])
def pool (es : List (Nat × CpInfo)) (last : Nat) : Array CpInfo := ⟨poolList es last⟩
def fileOf (pool : Array CpInfo) (this : Nat) (attrs : Array Attribute := #[]) (ms : Array MethodInfo := #[]) (fl : Nat := 33) (sup : Nat := 0) (ifs : Array Nat := #[]) (fds : Array FieldInfo := #[]) : ClassFile where
  minorVersion := 0
  majorVersion := 65
  constantPool := pool
  accessFlags := fl
  thisClass := this
  superClass := sup
  interfaces := ifs
  fields := fds
  methods := ms
  attributes := attrs
def plain (name : String) (sup : Option ClassId) : Class where
  name := name
  kind := .ordinary
  loader := none
  accessFlags := 33
  super := sup
  interfaces := #[]
  cf := none
  fields := #[]
  methods := #[]
  instanceTypes := #[]
  staticTypes := #[]
  resolved := #[]
  callSites := []
  init := .initialized
  statics := none
  mirror := none

def pool0 : Array CpInfo := pool [(5, u "<init>"), (0, u "()V"), (1, .class_ 10), (1, u "java/lang/Object")] 113

def k0m0 : Method := { name := "<init>", desc := "()V", sig := { parameters := [], returnType := none }, accessFlags := 1, code := none }
/-- java/lang/Object -/
def k0 : Class := { plain "java/lang/Object" none with
  accessFlags := 33
  interfaces := #[]
  cf := some (fileOf pool0 8 #[] #[{ accessFlags := 1, nameIndex := 5, descriptorIndex := 6, attributes := #[] }] 33 0 #[] #[])
  fields := #[]
  methods := #[k0m0]
  instanceTypes := #[]
  staticTypes := #[]
  resolved := Array.replicate 124 none
  statics := none }

def pool1 : Array CpInfo := pool [(2, .class_ 4), (1, u "java/lang/Object"), (0, u "<init>"), (0, u "()V"), (0, .integer 2147483647), (0, .methodref 9 10), (0, .class_ 11), (0, .nameAndType 12 13), (0, u "com/example/livedial/livedial/cli/ExitStatusOfRefusalPinLaw"), (0, u "expectedFor"), (0, u "(I)Lcom/example/livedial/livedial/cli/ExitStatus;"), (0, .methodref 9 15), (0, .nameAndType 16 17), (0, u "expectedCodeFor"), (0, u "(I)I"), (0, .methodref 19 20), (0, .class_ 21), (0, .nameAndType 22 13), (0, u "com/example/livedial/livedial/cli/ExitStatus"), (0, u "ofRefusal"), (0, .methodref 19 24), (0, .nameAndType 25 26), (0, u "code"), (0, u "()I"), (0, .fieldref 19 28), (0, .nameAndType 29 30), (0, u "NOT_FOUND"), (0, u "Lcom/example/livedial/livedial/cli/ExitStatus;"), (0, .fieldref 19 32), (0, .nameAndType 33 30), (0, u "UNAUTHORIZED"), (0, .fieldref 19 35), (0, .nameAndType 36 30), (0, u "INVALID_INPUT"), (0, .fieldref 19 38), (0, .nameAndType 39 30), (0, u "FAILED"), (2, u "law"), (0, u "(II)Z")] 3

def k1m0 : Method := { name := "<init>", desc := "()V", sig := { parameters := [], returnType := none }, accessFlags := 1, code := none }
def k1c1 : Code := { maxStack := 3, maxLocals := 6, code := code, exceptionTable := #[], attributes := #[] }
def k1m1 : Method := { name := "law", desc := "(II)Z", sig := { parameters := [.int, .int], returnType := some .boolean }, accessFlags := 9, code := some k1c1 }
def k1c2 : Code := { maxStack := 2, maxLocals := 1, code := method_3_code, exceptionTable := #[], attributes := #[] }
def k1m2 : Method := { name := "expectedFor", desc := "(I)Lcom/example/livedial/livedial/cli/ExitStatus;", sig := { parameters := [.int], returnType := some (.object "com/example/livedial/livedial/cli/ExitStatus") }, accessFlags := 10, code := some k1c2 }
def k1c3 : Code := { maxStack := 2, maxLocals := 1, code := method_4_code, exceptionTable := #[], attributes := #[] }
def k1m3 : Method := { name := "expectedCodeFor", desc := "(I)I", sig := { parameters := [.int], returnType := some .int }, accessFlags := 10, code := some k1c3 }
/-- com/example/livedial/livedial/cli/ExitStatusOfRefusalPinLaw -/
def k1 : Class := { plain "com/example/livedial/livedial/cli/ExitStatusOfRefusalPinLaw" (some 0) with
  accessFlags := 49
  interfaces := #[]
  cf := some (fileOf pool1 9 #[] #[{ accessFlags := 1, nameIndex := 5, descriptorIndex := 6, attributes := #[] }, { accessFlags := 9, nameIndex := 42, descriptorIndex := 43, attributes := #[] }, { accessFlags := 10, nameIndex := 12, descriptorIndex := 13, attributes := #[] }, { accessFlags := 10, nameIndex := 16, descriptorIndex := 17, attributes := #[] }] 49 2 #[] #[])
  fields := #[]
  methods := #[k1m0, k1m1, k1m2, k1m3]
  instanceTypes := #[]
  staticTypes := #[]
  resolved := Array.replicate 47 none
  statics := none }

def pool2 : Array CpInfo := pool [(1, .class_ 2), (0, u "java/lang/constant/Constable"), (0, .class_ 4), (0, u "java/lang/Object")] 6

/-- java/lang/constant/Constable -/
def k2 : Class := { plain "java/lang/constant/Constable" (some 0) with
  accessFlags := 1537
  interfaces := #[]
  cf := some (fileOf pool2 1 #[] #[] 1537 3 #[] #[])
  fields := #[]
  methods := #[]
  instanceTypes := #[]
  staticTypes := #[]
  resolved := Array.replicate 11 none
  statics := none }

def pool3 : Array CpInfo := pool [(1, .class_ 2), (0, u "java/lang/Comparable"), (0, .class_ 4), (0, u "java/lang/Object")] 7

/-- java/lang/Comparable -/
def k3 : Class := { plain "java/lang/Comparable" (some 0) with
  accessFlags := 1537
  interfaces := #[]
  cf := some (fileOf pool3 1 #[] #[] 1537 3 #[] #[])
  fields := #[]
  methods := #[]
  instanceTypes := #[]
  staticTypes := #[]
  resolved := Array.replicate 12 none
  statics := none }

def pool4 : Array CpInfo := pool [(1, .class_ 2), (0, u "java/io/Serializable"), (0, .class_ 4), (0, u "java/lang/Object")] 2

/-- java/io/Serializable -/
def k4 : Class := { plain "java/io/Serializable" (some 0) with
  accessFlags := 1537
  interfaces := #[]
  cf := some (fileOf pool4 1 #[] #[] 1537 3 #[] #[])
  fields := #[]
  methods := #[]
  instanceTypes := #[]
  staticTypes := #[]
  resolved := Array.replicate 7 none
  statics := none }

def pool5 : Array CpInfo := pool [(2, .class_ 4), (1, u "java/lang/Enum"), (0, u "name"), (0, u "Ljava/lang/String;"), (2, u "ordinal"), (0, u "I"), (1, .class_ 14), (1, u "java/lang/Object"), (4, u "hash"), (86, .class_ 108), (1, u "java/lang/Enum$EnumDesc"), (2, .class_ 112), (0, u "java/lang/constant/Constable"), (0, .class_ 114), (0, u "java/lang/Comparable"), (0, .class_ 116), (0, u "java/io/Serializable")] 87

/-- java/lang/Enum -/
def k5 : Class := { plain "java/lang/Enum" (some 0) with
  accessFlags := 1057
  interfaces := #[2, 3, 4]
  cf := some (fileOf pool5 2 #[.nestMembers #[106]] #[] 1057 12 #[111, 113, 115] #[{ accessFlags := 18, nameIndex := 5, descriptorIndex := 6, attributes := #[] }, { accessFlags := 18, nameIndex := 9, descriptorIndex := 10, attributes := #[] }, { accessFlags := 2, nameIndex := 19, descriptorIndex := 10, attributes := #[] }])
  fields := #[{ name := "name", type := (.object "java/lang/String"), accessFlags := 18, slot := 0, constantValue := 0 }, { name := "ordinal", type := .int, accessFlags := 18, slot := 1, constantValue := 0 }, { name := "hash", type := .int, accessFlags := 2, slot := 2, constantValue := 0 }]
  methods := #[]
  instanceTypes := #[(.object "java/lang/String"), .int, .int]
  staticTypes := #[]
  resolved := Array.replicate 204 none
  statics := none }

def pool6 : Array CpInfo := pool [(1, .class_ 2), (0, u "com/example/livedial/livedial/cli/ExitStatus"), (2, u "OK"), (0, u "Lcom/example/livedial/livedial/cli/ExitStatus;"), (0, .fieldref 1 8), (0, .nameAndType 9 6), (0, u "FAILED"), (0, .fieldref 1 11), (0, .nameAndType 12 6), (0, u "INVALID_INPUT"), (0, .fieldref 1 14), (0, .nameAndType 15 6), (0, u "NOT_FOUND"), (0, .fieldref 1 17), (0, .nameAndType 18 6), (0, u "UNAUTHORIZED"), (2, u "$VALUES"), (0, u "[Lcom/example/livedial/livedial/cli/ExitStatus;"), (6, .class_ 31), (1, u "java/lang/Enum"), (6, .fieldref 1 39), (0, .nameAndType 40 41), (0, u "code"), (0, u "I"), (19, u "ofRefusal"), (0, u "(I)Lcom/example/livedial/livedial/cli/ExitStatus;"), (1, u "()I")] 5

def k6c0 : Code := { maxStack := 1, maxLocals := 1, code := prog_26_method_4_code, exceptionTable := #[], attributes := #[] }
def k6m0 : Method := { name := "ofRefusal", desc := "(I)Lcom/example/livedial/livedial/cli/ExitStatus;", sig := { parameters := [.int], returnType := some (.object "com/example/livedial/livedial/cli/ExitStatus") }, accessFlags := 8, code := some k6c0 }
def k6c1 : Code := { maxStack := 1, maxLocals := 1, code := prog_26_method_5_code, exceptionTable := #[], attributes := #[] }
def k6m1 : Method := { name := "code", desc := "()I", sig := { parameters := [], returnType := some .int }, accessFlags := 1, code := some k6c1 }
/-- com/example/livedial/livedial/cli/ExitStatus -/
def k6 : Class := { plain "com/example/livedial/livedial/cli/ExitStatus" (some 5) with
  accessFlags := 16433
  interfaces := #[]
  cf := some (fileOf pool6 1 #[] #[{ accessFlags := 8, nameIndex := 61, descriptorIndex := 62, attributes := #[] }, { accessFlags := 1, nameIndex := 40, descriptorIndex := 64, attributes := #[] }] 16433 29 #[] #[{ accessFlags := 16409, nameIndex := 5, descriptorIndex := 6, attributes := #[] }, { accessFlags := 16409, nameIndex := 9, descriptorIndex := 6, attributes := #[] }, { accessFlags := 16409, nameIndex := 12, descriptorIndex := 6, attributes := #[] }, { accessFlags := 16409, nameIndex := 15, descriptorIndex := 6, attributes := #[] }, { accessFlags := 16409, nameIndex := 18, descriptorIndex := 6, attributes := #[] }, { accessFlags := 18, nameIndex := 40, descriptorIndex := 41, attributes := #[] }, { accessFlags := 4122, nameIndex := 21, descriptorIndex := 22, attributes := #[] }])
  fields := #[{ name := "OK", type := (.object "com/example/livedial/livedial/cli/ExitStatus"), accessFlags := 16409, slot := 0, constantValue := 0 }, { name := "FAILED", type := (.object "com/example/livedial/livedial/cli/ExitStatus"), accessFlags := 16409, slot := 1, constantValue := 0 }, { name := "INVALID_INPUT", type := (.object "com/example/livedial/livedial/cli/ExitStatus"), accessFlags := 16409, slot := 2, constantValue := 0 }, { name := "NOT_FOUND", type := (.object "com/example/livedial/livedial/cli/ExitStatus"), accessFlags := 16409, slot := 3, constantValue := 0 }, { name := "UNAUTHORIZED", type := (.object "com/example/livedial/livedial/cli/ExitStatus"), accessFlags := 16409, slot := 4, constantValue := 0 }, { name := "code", type := .int, accessFlags := 18, slot := 3, constantValue := 0 }, { name := "$VALUES", type := (.array (.object "com/example/livedial/livedial/cli/ExitStatus")), accessFlags := 4122, slot := 5, constantValue := 0 }]
  methods := #[k6m0, k6m1]
  instanceTypes := #[(.object "java/lang/String"), .int, .int, .int]
  staticTypes := #[(.object "com/example/livedial/livedial/cli/ExitStatus"), (.object "com/example/livedial/livedial/cli/ExitStatus"), (.object "com/example/livedial/livedial/cli/ExitStatus"), (.object "com/example/livedial/livedial/cli/ExitStatus"), (.object "com/example/livedial/livedial/cli/ExitStatus"), (.array (.object "com/example/livedial/livedial/cli/ExitStatus"))]
  resolved := Array.replicate 70 none
  statics := some 0 }

def pool7 : Array CpInfo := pool [(1, u "java/lang/Cloneable"), (0, .class_ 1), (0, u "java/lang/Object"), (0, .class_ 3)] 3

/-- java/lang/Cloneable -/
def k7 : Class := { plain "java/lang/Cloneable" (some 0) with
  accessFlags := 1537
  interfaces := #[]
  cf := some (fileOf pool7 2 #[] #[] 1537 4 #[] #[])
  fields := #[]
  methods := #[]
  instanceTypes := #[]
  staticTypes := #[]
  resolved := Array.replicate 8 none
  statics := none }

/-- the primitive byte -/
def k8 : Class := { plain "byte" none with kind := .primitive 'B', accessFlags := 0x411 }
/-- [B -/
def k9 : Class := { plain "[B" (some 0) with kind := .array 8 .byte, interfaces := #[7, 4], accessFlags := 1041 }

/-- the primitive int -/
def k10 : Class := { plain "int" none with kind := .primitive 'I', accessFlags := 0x411 }
/-- [I -/
def k11 : Class := { plain "[I" (some 0) with kind := .array 10 .int, interfaces := #[7, 4], accessFlags := 1041 }

def heap : Heap := #[{ cls := 6, slots := #[.null, .ref 1, .ref 3, .ref 4, .ref 2, .null], vm := .statics 6 },
  { cls := 6, slots := #[.null, .int 0, .int 0, .int 1], vm := .none },
  { cls := 6, slots := #[.null, .int 0, .int 0, .int 4], vm := .none },
  { cls := 6, slots := #[.null, .int 0, .int 0, .int 2], vm := .none },
  { cls := 6, slots := #[.null, .int 0, .int 0, .int 3], vm := .none }]
def classes : Array Class := #[k0, k1, k2, k3, k4, k5, k6, k7, k8, k9, k10, k11]
def interned : List (Array UInt16 × Addr) := []
def slotsUsed : Nat := 22
def theMethod : MethodId := ⟨1, 1⟩
def args0 : Array Value := #[.int 5, .int 6]
def aboutOver (below : List Frame) : State where
  vm := { classes := classes, interned := interned.toArray }
  heap := heap
  slotsUsed := slotsUsed
  threads := #[{ frames := .invoking theMethod args0 :: below }]
def below0 : List Frame := [.native { method := ⟨0, 0⟩, args := #[] }]
def about1 : State := aboutOver below0
def p0 : Program := .bare "" "" ""
def e0 : Env := launch0.env 0 0 0
theorem w_frames : about1.frames = Frame.invoking theMethod args0 :: below0 := rfl
set_option maxRecDepth 65536 in
theorem w_args : argsFit about1.vm theMethod args0 = true := by decide +kernel
set_option maxRecDepth 65536 in
theorem w_heap : heapFits about1 = true := by decide +kernel
set_option maxRecDepth 65536 in
theorem w_runnable : about1.curStatus? = some .runnable := by decide +kernel
set_option maxRecDepth 65536 in
theorem w_alone : about1.alone = true := by decide +kernel
set_option maxRecDepth 65536 in
theorem w_named : about1.methodNamed? x = some theMethod := by decide +kernel
set_option maxRecDepth 65536 in
theorem w_hears : about1.hears theMethod below0 = true := by decide +kernel
set_option maxRecDepth 65536 in
theorem w_ripe : about1.ripe theMethod args0 below0 = true := by decide +kernel
theorem w_running : about1.status = .running := rfl
set_option maxRecDepth 65536 in
theorem w_room : about1.hasRoom e0.platform room_1 = true :=
  launch0.hasRoom_least _ room_1 (by decide +kernel) (by decide +kernel) (by decide +kernel) (by decide +kernel) (by decide +kernel) (by decide +kernel)
theorem allAtoms_all (ts : List Jvm.Cond) (a : Array Jvm.Value) (st : Jvm.State) : (allAtoms ts).before a st = ts.all (fun c => c.before a st) := by
  induction ts with
  | nil => rfl
  | cons c t ih =>
    show (Jvm.Cond.and c (allAtoms t)).before a st = _
    rw [Jvm.Cond.before_and, ih, List.all_cons]
def words1 : List Jvm.Cond := Jvm.Cond.code x code maxLocals ret :: tables_1
/-- a 'code' word, met by the world's own term for the bytes: nothing is compared byte by byte -/
theorem code_word {y : MethodName} {bytes : ByteArray} {mx : Nat} {rt : Option FieldType} {a : Array Value} {s : State} {m : MethodId} {meth : Method} {c : Code} (h1 : s.methodNamed? y = some m) (h2 : s.vm.method? m = some meth) (h3 : meth.code = some c) (h4 : c.code = bytes)
    (h5 : (c.maxLocals == mx && c.exceptionTable.isEmpty && decide (c.maxStack ≤ mostOperands) && decide (meth.sig.returnType = rt) && !meth.locks && decide (parseMethodDescriptor y.desc = some meth.sig)) = true) : (Jvm.Cond.code y bytes mx rt).before a s = true := by
  simp only [Bool.and_eq_true, beq_iff_eq, Bool.not_eq_true', decide_eq_true_eq] at h5
  obtain ⟨⟨⟨⟨⟨g1, g2⟩, g3⟩, g4⟩, g5⟩, g6⟩ := h5
  simp [Cond.before, Cond.holds, Cond.value, h1, h2, h3, h4, g1, g2, g3, g4, g5, g6]
def isCode : Jvm.Cond → Bool
  | .code _ _ _ _ => true
  | _ => false
theorem all_split {L : List Jvm.Cond} {P : Jvm.Cond → Bool} (h1 : L.all (fun c => isCode c || P c) = true) (h2 : ∀ c ∈ L.filter isCode, P c = true) : L.all P = true := by
  refine List.all_eq_true.mpr fun c hc => ?_
  have h := List.all_eq_true.mp h1 c hc
  rcases Bool.eq_false_or_eq_true (isCode c) with hi | hi
  · exact h2 c (List.mem_filter.mpr ⟨hc, hi⟩)
  · simpa [hi] using h
set_option maxRecDepth 65536 in
theorem w_c0 : (Jvm.Cond.code x code maxLocals ret).before args0 about1 = true := code_word (m := ⟨1, 1⟩) (meth := k1m1) (c := k1c1) (by decide +kernel) rfl rfl rfl (by decide +kernel)
set_option maxRecDepth 65536 in
theorem w_c1 : (Jvm.Cond.code ({ cls := "com/example/livedial/livedial/cli/ExitStatusOfRefusalPinLaw", name := "expectedFor", desc := "(I)Lcom/example/livedial/livedial/cli/ExitStatus;" } : Jvm.MethodName) method_3_code (1 : Nat) (Option.some (Jvm.ClassFile.FieldType.object "com/example/livedial/livedial/cli/ExitStatus"))).before args0 about1 = true := code_word (m := ⟨1, 2⟩) (meth := k1m2) (c := k1c2) (by decide +kernel) rfl rfl rfl (by decide +kernel)
set_option maxRecDepth 65536 in
theorem w_c2 : (Jvm.Cond.code ({ cls := "com/example/livedial/livedial/cli/ExitStatusOfRefusalPinLaw", name := "expectedCodeFor", desc := "(I)I" } : Jvm.MethodName) method_4_code (1 : Nat) (Option.some Jvm.ClassFile.FieldType.int)).before args0 about1 = true := code_word (m := ⟨1, 3⟩) (meth := k1m3) (c := k1c3) (by decide +kernel) rfl rfl rfl (by decide +kernel)
set_option maxRecDepth 65536 in
theorem w_c3 : (Jvm.Cond.code ({ cls := "com/example/livedial/livedial/cli/ExitStatus", name := "ofRefusal", desc := "(I)Lcom/example/livedial/livedial/cli/ExitStatus;" } : Jvm.MethodName) prog_26_method_4_code (1 : Nat) (Option.some (Jvm.ClassFile.FieldType.object "com/example/livedial/livedial/cli/ExitStatus"))).before args0 about1 = true := code_word (m := ⟨6, 0⟩) (meth := k6m0) (c := k6c0) (by decide +kernel) rfl rfl rfl (by decide +kernel)
set_option maxRecDepth 65536 in
theorem w_c4 : (Jvm.Cond.code ({ cls := "com/example/livedial/livedial/cli/ExitStatus", name := "code", desc := "()I" } : Jvm.MethodName) prog_26_method_5_code (1 : Nat) (Option.some Jvm.ClassFile.FieldType.int)).before args0 about1 = true := code_word (m := ⟨6, 1⟩) (meth := k6m1) (c := k6c1) (by decide +kernel) rfl rfl rfl (by decide +kernel)
def codes1 : List Jvm.Cond := [Jvm.Cond.code x code maxLocals ret, Jvm.Cond.code ({ cls := "com/example/livedial/livedial/cli/ExitStatusOfRefusalPinLaw", name := "expectedFor", desc := "(I)Lcom/example/livedial/livedial/cli/ExitStatus;" } : Jvm.MethodName) method_3_code (1 : Nat) (Option.some (Jvm.ClassFile.FieldType.object "com/example/livedial/livedial/cli/ExitStatus")), Jvm.Cond.code ({ cls := "com/example/livedial/livedial/cli/ExitStatusOfRefusalPinLaw", name := "expectedCodeFor", desc := "(I)I" } : Jvm.MethodName) method_4_code (1 : Nat) (Option.some Jvm.ClassFile.FieldType.int), Jvm.Cond.code ({ cls := "com/example/livedial/livedial/cli/ExitStatus", name := "ofRefusal", desc := "(I)Lcom/example/livedial/livedial/cli/ExitStatus;" } : Jvm.MethodName) prog_26_method_4_code (1 : Nat) (Option.some (Jvm.ClassFile.FieldType.object "com/example/livedial/livedial/cli/ExitStatus")), Jvm.Cond.code ({ cls := "com/example/livedial/livedial/cli/ExitStatus", name := "code", desc := "()I" } : Jvm.MethodName) prog_26_method_5_code (1 : Nat) (Option.some Jvm.ClassFile.FieldType.int)]
set_option maxRecDepth 65536 in
theorem codes_eq : words1.filter isCode = codes1 := rfl
theorem w_codes : ∀ c ∈ words1.filter isCode, c.before args0 about1 = true := by
  rw [codes_eq]
  intro c hc
  simp only [codes1, List.mem_cons, List.not_mem_nil, or_false] at hc
  rcases hc with rfl | rfl | rfl | rfl | rfl
  · exact w_c0
  · exact w_c1
  · exact w_c2
  · exact w_c3
  · exact w_c4
set_option maxRecDepth 65536 in
theorem w_t1 : (words1.take 24).all (fun c => isCode c || c.before args0 about1) = true := by decide +kernel
set_option maxRecDepth 65536 in
theorem w_t2 : (words1.drop 24).all (fun c => isCode c || c.before args0 about1) = true := by decide +kernel
theorem w_tables : (allAtoms (Jvm.Cond.code x code maxLocals ret :: tables_1)).before args0 about1 = true := by
  rw [allAtoms_all]
  show words1.all (fun c => c.before args0 about1) = true
  refine all_split ?_ w_codes
  rw [← List.take_append_drop 24 words1, List.all_append, w_t1, w_t2]
  rfl
set_option maxRecDepth 65536 in
theorem w_case : (Jvm.Cond.and given_1 narrow_1).before args0 about1 = true := by decide +kernel
theorem w_applies : (headSpec (Jvm.Cond.code x code maxLocals ret :: tables_1) room_1).applies x e0.platform about1 = true :=
  (Spec.applies_iff w_frames).mpr ⟨w_running, w_runnable, w_alone, w_named, w_hears, w_ripe, w_room, w_tables⟩
theorem atStart : AtStart classFile x code maxLocals ret World_1 tables_1 room_1 Calls_1 rest_1 Pre_1 launch0 p0 e0 about1 theMethod args0 below0 :=
  ⟨lists_1, trivial, launch0.admits_env _ _ _, launch0.least_env, fairChoices_fair.cas, fairChoices_fair.clock, w_frames, w_args, w_heap, w_applies, trivial, trivial, w_case⟩
end start1
theorem witness_1 : WitnessClaimed_1 := ⟨start1.p0, start1.e0, start1.about1, start1.theMethod, start1.args0, start1.below0, start1.atStart⟩
end Jvm.Pilot.@@N@@
