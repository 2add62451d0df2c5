import JvmDerived
import JvmDerived.Pilot.@@N@@Statement
import JvmDerived.Pilot.@@N@@Code
set_option linter.unusedVariables false
set_option linter.unusedSimpArgs false
namespace Jvm.RoadKit
open Sem ClassFile Op Lib Jvm.Stand Jvm.Free Jvm.LawKit
section New
variable {p : Program} {l : Launch} {e : Env} {R : Room} {s : State} {m : MethodId} {args : Array Value} {below : List Frame} {meth : Method} {c : Code} {T : State} {locs : List Loc} {cells slots : Nat}
theorem retI (X : Stand p l e R s m args below meth c T locs cells slots) (hx : p.tables.exec = Jvm.exec) {pc : Nat} {Ls : Array Slot} {z : Int32} {rest : List Value} (hret : meth.sig.returnType = some .int) (hd : decode c.code pc = .ok (.ireturn, 1)) {fs : List Frame}
    (hl : ∀ (f : JFrame) (acts : List Action), f.method = m → f.locked = none → f.entered = [] → (doReturn e (T.setTop f) acts (some (.int z))).1 = T.setFrames fs) : Steps p.tables e below (T.setTop (mkF m pc Ls (.int z :: rest))) (T.setFrames fs) := by
  have hm' : T.vm.method? m = some meth := X.method'
  have hn : narrow .int (.int z) = .int z := rfl
  show Steps p.tables e below (T.setTop { method := m, pc := pc, locals := Ls, stack := _ :: rest, locked := none }) _
  jvm_step X.here [X.here.top, hx, hd, hm', hret, hn]
  first | (intro acts; rw [hl _ acts rfl rfl rfl]) | rw [hl _ _ rfl rfl rfl]
  exact Steps.refl _
end New
end Jvm.RoadKit
namespace Jvm.Pilot.@@N@@
open Jvm Jvm.ClassFile Sem Op Lib Jvm.Free Jvm.Stand Jvm.LawKit Jvm.RoadKit Bundle Jvm.Pilot.@@N@@.Jvm.D

def own_ws (x : Int32) : Int32 := if x = (9 : Int32) then (32 : Int32) else if x = (10 : Int32) then (32 : Int32) else if x = (11 : Int32) then (32 : Int32) else if x = (12 : Int32) then (32 : Int32) else if x = (13 : Int32) then (32 : Int32) else x
def own_fold (x : Int32) : Int32 := if x < (65 : Int32) then own_ws x else if (90 : Int32) < x then own_ws x else (x + (32 : Int32)).toUInt32.toUInt16.toUInt32.toInt32
def own_exp2 (x : Int32) : Int32 := if x < (9 : Int32) then x else if (13 : Int32) < x then x else (32 : Int32)
def own_exp (x : Int32) : Int32 := if x < (65 : Int32) then own_exp2 x else if (90 : Int32) < x then own_exp2 x else x ||| (32 : Int32)
theorem own_chr (y : Int32) (h0 : 0 ≤ y.toInt) (h1 : y.toInt < 65536) : y.toUInt32.toUInt16.toUInt32.toInt32 = y := Int32.toInt_inj.mp (by have := c_i2c y; omega)
theorem own_or : ∀ k : Fin 26, (Int32.ofInt (65 + (k.val : Int))) ||| (32 : Int32) = Int32.ofInt (65 + (k.val : Int)) + (32 : Int32) := by decide
theorem own_or' (w : Int32) (h1 : ¬ w < (65 : Int32)) (h2 : ¬ (90 : Int32) < w) : w ||| (32 : Int32) = w + (32 : Int32) := by
  simp only [Int32.lt_iff_toInt_lt, Int32.reduceToInt] at h1 h2
  have h := own_or ⟨(w.toInt - 65).toNat, by omega⟩
  have e : (65 + (((w.toInt - 65).toNat : Nat) : Int)) = w.toInt := by omega
  simp only [e, Int32.ofInt_toInt] at h
  exact h
theorem own_ws_eq (w : Int32) : own_ws w = own_exp2 w := by
  unfold own_ws own_exp2
  simp only [Int32.lt_iff_toInt_lt, ← Int32.toInt_inj, Int32.reduceToInt]
  repeat' split
  all_goals first | rfl | omega
theorem own_law (x : Int32) : nar .char (own_fold ((x &&& (65535 : Int32)).toUInt32.toUInt16.toUInt32.toInt32)) = own_exp (x &&& (65535 : Int32)) := by
  have hm := c_mask x 65535 16 (by decide) (by decide)
  generalize x &&& (65535 : Int32) = w at *
  have h0 : 0 ≤ w.toInt := by omega
  have h1 : w.toInt < 65536 := by omega
  rw [own_chr w h0 h1]
  show (own_fold w).toUInt32.toUInt16.toUInt32.toInt32 = own_exp w
  have hx : ∀ y : Int32, y = w ∨ y = 32 → y.toUInt32.toUInt16.toUInt32.toInt32 = y := fun y hy => by
    rcases hy with rfl | rfl
    · exact own_chr _ h0 h1
    · decide
  have h2 : own_exp2 w = w ∨ own_exp2 w = 32 := by unfold own_exp2; (repeat' split) <;> simp
  unfold own_fold own_exp
  rw [own_ws_eq]
  split
  · exact hx _ h2
  · split
    · exact hx _ h2
    · rename_i a b
      rw [own_or' w a b]
      simp only [Int32.lt_iff_toInt_lt, Int32.reduceToInt] at a b
      have c := c_iadd w 32
      simp only [Int32.reduceToInt] at c
      have r := rng32 (w + 32)
      have e : (w + 32).toInt = w.toInt + 32 := by omega
      rw [own_chr (w + 32) (by omega) (by omega), own_chr (w + 32) (by omega) (by omega)]
theorem d1_0 : decode prog_85_method_14_code 0 = .ok (.iload_n 0, 1) := by decide +kernel
theorem d1_1 : decode prog_85_method_14_code 1 = .ok (.bipush 65, 2) := by decide +kernel
theorem d1_3 : decode prog_85_method_14_code 3 = .ok (.if_icmp .lt 18, 3) := by decide +kernel
theorem d1_6 : decode prog_85_method_14_code 6 = .ok (.iload_n 0, 1) := by decide +kernel
theorem d1_7 : decode prog_85_method_14_code 7 = .ok (.bipush 90, 2) := by decide +kernel
theorem d1_9 : decode prog_85_method_14_code 9 = .ok (.if_icmp .gt 12, 3) := by decide +kernel
theorem d1_12 : decode prog_85_method_14_code 12 = .ok (.iload_n 0, 1) := by decide +kernel
theorem d1_13 : decode prog_85_method_14_code 13 = .ok (.bipush 32, 2) := by decide +kernel
theorem d1_15 : decode prog_85_method_14_code 15 = .ok (.iadd, 1) := by decide +kernel
theorem d1_16 : decode prog_85_method_14_code 16 = .ok (.i2c, 1) := by decide +kernel
theorem d1_17 : decode prog_85_method_14_code 17 = .ok (.istore_n 1, 1) := by decide +kernel
theorem d1_18 : decode prog_85_method_14_code 18 = .ok (.goto 41, 3) := by decide +kernel
theorem d1_21 : decode prog_85_method_14_code 21 = .ok (.iload_n 0, 1) := by decide +kernel
theorem d1_22 : decode prog_85_method_14_code 22 = .ok (.bipush 9, 2) := by decide +kernel
theorem d1_24 : decode prog_85_method_14_code 24 = .ok (.if_icmp .eq 27, 3) := by decide +kernel
theorem d1_27 : decode prog_85_method_14_code 27 = .ok (.iload_n 0, 1) := by decide +kernel
theorem d1_28 : decode prog_85_method_14_code 28 = .ok (.bipush 10, 2) := by decide +kernel
theorem d1_30 : decode prog_85_method_14_code 30 = .ok (.if_icmp .eq 21, 3) := by decide +kernel
theorem d1_33 : decode prog_85_method_14_code 33 = .ok (.iload_n 0, 1) := by decide +kernel
theorem d1_34 : decode prog_85_method_14_code 34 = .ok (.bipush 11, 2) := by decide +kernel
theorem d1_36 : decode prog_85_method_14_code 36 = .ok (.if_icmp .eq 15, 3) := by decide +kernel
theorem d1_39 : decode prog_85_method_14_code 39 = .ok (.iload_n 0, 1) := by decide +kernel
theorem d1_40 : decode prog_85_method_14_code 40 = .ok (.bipush 12, 2) := by decide +kernel
theorem d1_42 : decode prog_85_method_14_code 42 = .ok (.if_icmp .eq 9, 3) := by decide +kernel
theorem d1_45 : decode prog_85_method_14_code 45 = .ok (.iload_n 0, 1) := by decide +kernel
theorem d1_46 : decode prog_85_method_14_code 46 = .ok (.bipush 13, 2) := by decide +kernel
theorem d1_48 : decode prog_85_method_14_code 48 = .ok (.if_icmp .ne 9, 3) := by decide +kernel
theorem d1_51 : decode prog_85_method_14_code 51 = .ok (.bipush 32, 2) := by decide +kernel
theorem d1_53 : decode prog_85_method_14_code 53 = .ok (.istore_n 1, 1) := by decide +kernel
theorem d1_54 : decode prog_85_method_14_code 54 = .ok (.goto 5, 3) := by decide +kernel
theorem d1_57 : decode prog_85_method_14_code 57 = .ok (.iload_n 0, 1) := by decide +kernel
theorem d1_58 : decode prog_85_method_14_code 58 = .ok (.istore_n 1, 1) := by decide +kernel
theorem d1_59 : decode prog_85_method_14_code 59 = .ok (.iload_n 1, 1) := by decide +kernel
theorem d1_60 : decode prog_85_method_14_code 60 = .ok (.ireturn, 1) := by decide +kernel
theorem pn_1 : plainName "com/example/indentic/indentic/reading/Filing" = true := by first | (simp [plainName, overriddenIn]; done) | decide +kernel
theorem ef_1 (m : MethodId) (x0 : Int32) : entryFrame m #[(.int x0)] 2 = mkF m 0 #[.val (.int x0), .unset] [] := by first | (simp [entryFrame, mkF, argsToLocals, Value.category]; done) | rfl
def Q_1 (Z : State) (p1 : Int32) (h0 : Heap) (n0 : Nat) (v : Option Value) (h : Heap) (L : List Loc) : Prop := v = some (.int (nar .char (own_fold p1))) ∧ Fr n0 L ∧ h = h0
set_option maxRecDepth 65536 in
set_option maxHeartbeats 40000000 in
theorem rm_1 (l : Launch) (Z : State) (a0 : Array Value) (hw : ∀ d ∈ tables_1, d.before a0 Z = true) (ws : List Jvm.Cond) (p1 : Int32) (h0 : Heap) (n0 : Nat) (Z0 : n0 ≤ h0.size) :
    MetFree l (⟨"com/example/indentic/indentic/reading/Filing", "fold", "(C)C"⟩ : MethodName) (head1 (Jvm.Cond.code (⟨"com/example/indentic/indentic/reading/Filing", "fold", "(C)C"⟩ : MethodName) prog_85_method_14_code 2 (some .char) :: ws) ({ frames := 0, cells := 0, slots := 0, locals := 0 } : Room)) (fun a U => a = #[(.int p1)] ∧ Z.Warmed39 U.vm ∧ U.heap = h0) (fun _ _ _ _ _ => True) (fun _ U o U' => ∃ v L, o = .returned v ∧ Q_1 Z p1 h0 n0 v U'.heap L ∧ FrameEnd U o U' L ({ frames := 0, cells := 0, slots := 0, locals := 0 } : Room).cells ({ frames := 0, cells := 0, slots := 0, locals := 0 } : Room).slots) := by
  refine MetFree.of_bodySF (plainFor_of_name pn_1) hisR ?_
  intro p e s m args below meth cod_ s₁ Bd hml0 hP hK
  obtain ⟨rfl, hZ, hh⟩ := hP
  have hx := Bd.exec
  have hby := Bd.bytes
  have hml : cod_.maxLocals = 2 := hml0
  have hown : s.vm.findClass "com/example/indentic/indentic/reading/Filing" = some m.cls := findClass_of_methodNamed Bd.named
  have hnm := (name_of_methodNamed Bd.named Bd.method).1
  have X0 : Stand p l e ({ frames := 0, cells := 0, slots := 0, locals := 0 } : Room) s m #[(.int p1)] below meth cod_ s₁ [] 0 0 := Stand.of_body Bd
  have e0 : s₁.heap = h0 := by rw [← hh, Bd.state]; rfl
  have N0 := Fr.nil n0
  have pre0 : ∀ t, Steps p.tables e below (s₁.setTop (mkF m 0 #[.val (.int p1), .unset] [])) t → Steps p.tables e below (s₁.setTop (entryFrame m #[(.int p1)] 2)) t := fun t k => castTop (ef_1 m p1) k
  by_cases hc3 : p1 < (65 : Int32)
  · by_cases hc24 : p1 = (9 : Int32)
    · obtain ⟨fs, hr, hrun, hended, hW, hsame⟩ := X0.leave (v := some (.int (nar .char (32 : Int32)))) (fun h => by rw [Bd.returns] at h; cases h)
      refine ⟨_, _, pre0 _ ?_, hrun, hended, _, _, rfl, ?_, ⟨_, rfl⟩, hW, hsame.mono (by decide) (by decide)⟩
      · show Steps p.tables e below (s₁.setTop (mkF m 0 #[.val (.int p1), .unset] [])) _
        refine XS.iloadN X0.here hx rfl (hb hby d1_0) rfl ?_
        show Steps p.tables e below (s₁.setTop (mkF m 1 #[.val (.int p1), .unset] [(.int p1)])) _
        refine XS.bipush X0.here hx rfl (hb hby d1_1) ?_
        show Steps p.tables e below (s₁.setTop (mkF m 3 #[.val (.int p1), .unset] [(.int (65 : Int32)), (.int p1)])) _
        refine XS.icmpYes X0.here hx rfl (pc0 := 3) (pc' := 21) rfl (hb hby d1_3) rfl (tlt hc3).1 (by decide) (by decide) ?_
        show Steps p.tables e below (s₁.setTop (mkF m 21 #[.val (.int p1), .unset] [])) _
        refine XS.iloadN X0.here hx rfl (hb hby d1_21) rfl ?_
        show Steps p.tables e below (s₁.setTop (mkF m 22 #[.val (.int p1), .unset] [(.int p1)])) _
        refine XS.bipush X0.here hx rfl (hb hby d1_22) ?_
        show Steps p.tables e below (s₁.setTop (mkF m 24 #[.val (.int p1), .unset] [(.int (9 : Int32)), (.int p1)])) _
        refine XS.icmpYes X0.here hx rfl (pc0 := 24) (pc' := 51) rfl (hb hby d1_24) rfl (teq hc24).1 (by decide) (by decide) ?_
        show Steps p.tables e below (s₁.setTop (mkF m 51 #[.val (.int p1), .unset] [])) _
        refine XS.bipush X0.here hx rfl (hb hby d1_51) ?_
        show Steps p.tables e below (s₁.setTop (mkF m 53 #[.val (.int p1), .unset] [(.int (32 : Int32))])) _
        refine XS.istoreN X0.here hx rfl (hb hby d1_53) rfl (l' := #[.val (.int p1), .val (.int (32 : Int32))]) rfl ?_
        show Steps p.tables e below (s₁.setTop (mkF m 54 #[.val (.int p1), .val (.int (32 : Int32))] [])) _
        refine XS.goto X0.here hx rfl (pc0 := 54) (pc' := 59) rfl (hb hby d1_54) (by decide) (by decide) ?_
        show Steps p.tables e below (s₁.setTop (mkF m 59 #[.val (.int p1), .val (.int (32 : Int32))] [])) _
        refine XS.iloadN X0.here hx rfl (hb hby d1_59) rfl ?_
        show Steps p.tables e below (s₁.setTop (mkF m 60 #[.val (.int p1), .val (.int (32 : Int32))] [(.int (32 : Int32))])) _
        exact retN X0 hx (t := .char) Bd.returns (by simp) (hb hby d1_60) hr
      · show Q_1 Z p1 h0 n0 _ s₁.heap _
        rw [e0]
        exact ⟨by rw [show own_fold p1 = (32 : Int32) from by simp [own_fold, own_ws, hc3, hc24]], N0, rfl⟩
    · by_cases hc30 : p1 = (10 : Int32)
      · obtain ⟨fs, hr, hrun, hended, hW, hsame⟩ := X0.leave (v := some (.int (nar .char (32 : Int32)))) (fun h => by rw [Bd.returns] at h; cases h)
        refine ⟨_, _, pre0 _ ?_, hrun, hended, _, _, rfl, ?_, ⟨_, rfl⟩, hW, hsame.mono (by decide) (by decide)⟩
        · show Steps p.tables e below (s₁.setTop (mkF m 0 #[.val (.int p1), .unset] [])) _
          refine XS.iloadN X0.here hx rfl (hb hby d1_0) rfl ?_
          show Steps p.tables e below (s₁.setTop (mkF m 1 #[.val (.int p1), .unset] [(.int p1)])) _
          refine XS.bipush X0.here hx rfl (hb hby d1_1) ?_
          show Steps p.tables e below (s₁.setTop (mkF m 3 #[.val (.int p1), .unset] [(.int (65 : Int32)), (.int p1)])) _
          refine XS.icmpYes X0.here hx rfl (pc0 := 3) (pc' := 21) rfl (hb hby d1_3) rfl (tlt hc3).1 (by decide) (by decide) ?_
          show Steps p.tables e below (s₁.setTop (mkF m 21 #[.val (.int p1), .unset] [])) _
          refine XS.iloadN X0.here hx rfl (hb hby d1_21) rfl ?_
          show Steps p.tables e below (s₁.setTop (mkF m 22 #[.val (.int p1), .unset] [(.int p1)])) _
          refine XS.bipush X0.here hx rfl (hb hby d1_22) ?_
          show Steps p.tables e below (s₁.setTop (mkF m 24 #[.val (.int p1), .unset] [(.int (9 : Int32)), (.int p1)])) _
          refine XS.icmpNo X0.here hx rfl (hb hby d1_24) rfl (feq hc24).1 ?_
          show Steps p.tables e below (s₁.setTop (mkF m 27 #[.val (.int p1), .unset] [])) _
          refine XS.iloadN X0.here hx rfl (hb hby d1_27) rfl ?_
          show Steps p.tables e below (s₁.setTop (mkF m 28 #[.val (.int p1), .unset] [(.int p1)])) _
          refine XS.bipush X0.here hx rfl (hb hby d1_28) ?_
          show Steps p.tables e below (s₁.setTop (mkF m 30 #[.val (.int p1), .unset] [(.int (10 : Int32)), (.int p1)])) _
          refine XS.icmpYes X0.here hx rfl (pc0 := 30) (pc' := 51) rfl (hb hby d1_30) rfl (teq hc30).1 (by decide) (by decide) ?_
          show Steps p.tables e below (s₁.setTop (mkF m 51 #[.val (.int p1), .unset] [])) _
          refine XS.bipush X0.here hx rfl (hb hby d1_51) ?_
          show Steps p.tables e below (s₁.setTop (mkF m 53 #[.val (.int p1), .unset] [(.int (32 : Int32))])) _
          refine XS.istoreN X0.here hx rfl (hb hby d1_53) rfl (l' := #[.val (.int p1), .val (.int (32 : Int32))]) rfl ?_
          show Steps p.tables e below (s₁.setTop (mkF m 54 #[.val (.int p1), .val (.int (32 : Int32))] [])) _
          refine XS.goto X0.here hx rfl (pc0 := 54) (pc' := 59) rfl (hb hby d1_54) (by decide) (by decide) ?_
          show Steps p.tables e below (s₁.setTop (mkF m 59 #[.val (.int p1), .val (.int (32 : Int32))] [])) _
          refine XS.iloadN X0.here hx rfl (hb hby d1_59) rfl ?_
          show Steps p.tables e below (s₁.setTop (mkF m 60 #[.val (.int p1), .val (.int (32 : Int32))] [(.int (32 : Int32))])) _
          exact retN X0 hx (t := .char) Bd.returns (by simp) (hb hby d1_60) hr
        · show Q_1 Z p1 h0 n0 _ s₁.heap _
          rw [e0]
          exact ⟨by rw [show own_fold p1 = (32 : Int32) from by simp [own_fold, own_ws, hc3, hc24, hc30]], N0, rfl⟩
      · by_cases hc36 : p1 = (11 : Int32)
        · obtain ⟨fs, hr, hrun, hended, hW, hsame⟩ := X0.leave (v := some (.int (nar .char (32 : Int32)))) (fun h => by rw [Bd.returns] at h; cases h)
          refine ⟨_, _, pre0 _ ?_, hrun, hended, _, _, rfl, ?_, ⟨_, rfl⟩, hW, hsame.mono (by decide) (by decide)⟩
          · show Steps p.tables e below (s₁.setTop (mkF m 0 #[.val (.int p1), .unset] [])) _
            refine XS.iloadN X0.here hx rfl (hb hby d1_0) rfl ?_
            show Steps p.tables e below (s₁.setTop (mkF m 1 #[.val (.int p1), .unset] [(.int p1)])) _
            refine XS.bipush X0.here hx rfl (hb hby d1_1) ?_
            show Steps p.tables e below (s₁.setTop (mkF m 3 #[.val (.int p1), .unset] [(.int (65 : Int32)), (.int p1)])) _
            refine XS.icmpYes X0.here hx rfl (pc0 := 3) (pc' := 21) rfl (hb hby d1_3) rfl (tlt hc3).1 (by decide) (by decide) ?_
            show Steps p.tables e below (s₁.setTop (mkF m 21 #[.val (.int p1), .unset] [])) _
            refine XS.iloadN X0.here hx rfl (hb hby d1_21) rfl ?_
            show Steps p.tables e below (s₁.setTop (mkF m 22 #[.val (.int p1), .unset] [(.int p1)])) _
            refine XS.bipush X0.here hx rfl (hb hby d1_22) ?_
            show Steps p.tables e below (s₁.setTop (mkF m 24 #[.val (.int p1), .unset] [(.int (9 : Int32)), (.int p1)])) _
            refine XS.icmpNo X0.here hx rfl (hb hby d1_24) rfl (feq hc24).1 ?_
            show Steps p.tables e below (s₁.setTop (mkF m 27 #[.val (.int p1), .unset] [])) _
            refine XS.iloadN X0.here hx rfl (hb hby d1_27) rfl ?_
            show Steps p.tables e below (s₁.setTop (mkF m 28 #[.val (.int p1), .unset] [(.int p1)])) _
            refine XS.bipush X0.here hx rfl (hb hby d1_28) ?_
            show Steps p.tables e below (s₁.setTop (mkF m 30 #[.val (.int p1), .unset] [(.int (10 : Int32)), (.int p1)])) _
            refine XS.icmpNo X0.here hx rfl (hb hby d1_30) rfl (feq hc30).1 ?_
            show Steps p.tables e below (s₁.setTop (mkF m 33 #[.val (.int p1), .unset] [])) _
            refine XS.iloadN X0.here hx rfl (hb hby d1_33) rfl ?_
            show Steps p.tables e below (s₁.setTop (mkF m 34 #[.val (.int p1), .unset] [(.int p1)])) _
            refine XS.bipush X0.here hx rfl (hb hby d1_34) ?_
            show Steps p.tables e below (s₁.setTop (mkF m 36 #[.val (.int p1), .unset] [(.int (11 : Int32)), (.int p1)])) _
            refine XS.icmpYes X0.here hx rfl (pc0 := 36) (pc' := 51) rfl (hb hby d1_36) rfl (teq hc36).1 (by decide) (by decide) ?_
            show Steps p.tables e below (s₁.setTop (mkF m 51 #[.val (.int p1), .unset] [])) _
            refine XS.bipush X0.here hx rfl (hb hby d1_51) ?_
            show Steps p.tables e below (s₁.setTop (mkF m 53 #[.val (.int p1), .unset] [(.int (32 : Int32))])) _
            refine XS.istoreN X0.here hx rfl (hb hby d1_53) rfl (l' := #[.val (.int p1), .val (.int (32 : Int32))]) rfl ?_
            show Steps p.tables e below (s₁.setTop (mkF m 54 #[.val (.int p1), .val (.int (32 : Int32))] [])) _
            refine XS.goto X0.here hx rfl (pc0 := 54) (pc' := 59) rfl (hb hby d1_54) (by decide) (by decide) ?_
            show Steps p.tables e below (s₁.setTop (mkF m 59 #[.val (.int p1), .val (.int (32 : Int32))] [])) _
            refine XS.iloadN X0.here hx rfl (hb hby d1_59) rfl ?_
            show Steps p.tables e below (s₁.setTop (mkF m 60 #[.val (.int p1), .val (.int (32 : Int32))] [(.int (32 : Int32))])) _
            exact retN X0 hx (t := .char) Bd.returns (by simp) (hb hby d1_60) hr
          · show Q_1 Z p1 h0 n0 _ s₁.heap _
            rw [e0]
            exact ⟨by rw [show own_fold p1 = (32 : Int32) from by simp [own_fold, own_ws, hc3, hc24, hc30, hc36]], N0, rfl⟩
        · by_cases hc42 : p1 = (12 : Int32)
          · obtain ⟨fs, hr, hrun, hended, hW, hsame⟩ := X0.leave (v := some (.int (nar .char (32 : Int32)))) (fun h => by rw [Bd.returns] at h; cases h)
            refine ⟨_, _, pre0 _ ?_, hrun, hended, _, _, rfl, ?_, ⟨_, rfl⟩, hW, hsame.mono (by decide) (by decide)⟩
            · show Steps p.tables e below (s₁.setTop (mkF m 0 #[.val (.int p1), .unset] [])) _
              refine XS.iloadN X0.here hx rfl (hb hby d1_0) rfl ?_
              show Steps p.tables e below (s₁.setTop (mkF m 1 #[.val (.int p1), .unset] [(.int p1)])) _
              refine XS.bipush X0.here hx rfl (hb hby d1_1) ?_
              show Steps p.tables e below (s₁.setTop (mkF m 3 #[.val (.int p1), .unset] [(.int (65 : Int32)), (.int p1)])) _
              refine XS.icmpYes X0.here hx rfl (pc0 := 3) (pc' := 21) rfl (hb hby d1_3) rfl (tlt hc3).1 (by decide) (by decide) ?_
              show Steps p.tables e below (s₁.setTop (mkF m 21 #[.val (.int p1), .unset] [])) _
              refine XS.iloadN X0.here hx rfl (hb hby d1_21) rfl ?_
              show Steps p.tables e below (s₁.setTop (mkF m 22 #[.val (.int p1), .unset] [(.int p1)])) _
              refine XS.bipush X0.here hx rfl (hb hby d1_22) ?_
              show Steps p.tables e below (s₁.setTop (mkF m 24 #[.val (.int p1), .unset] [(.int (9 : Int32)), (.int p1)])) _
              refine XS.icmpNo X0.here hx rfl (hb hby d1_24) rfl (feq hc24).1 ?_
              show Steps p.tables e below (s₁.setTop (mkF m 27 #[.val (.int p1), .unset] [])) _
              refine XS.iloadN X0.here hx rfl (hb hby d1_27) rfl ?_
              show Steps p.tables e below (s₁.setTop (mkF m 28 #[.val (.int p1), .unset] [(.int p1)])) _
              refine XS.bipush X0.here hx rfl (hb hby d1_28) ?_
              show Steps p.tables e below (s₁.setTop (mkF m 30 #[.val (.int p1), .unset] [(.int (10 : Int32)), (.int p1)])) _
              refine XS.icmpNo X0.here hx rfl (hb hby d1_30) rfl (feq hc30).1 ?_
              show Steps p.tables e below (s₁.setTop (mkF m 33 #[.val (.int p1), .unset] [])) _
              refine XS.iloadN X0.here hx rfl (hb hby d1_33) rfl ?_
              show Steps p.tables e below (s₁.setTop (mkF m 34 #[.val (.int p1), .unset] [(.int p1)])) _
              refine XS.bipush X0.here hx rfl (hb hby d1_34) ?_
              show Steps p.tables e below (s₁.setTop (mkF m 36 #[.val (.int p1), .unset] [(.int (11 : Int32)), (.int p1)])) _
              refine XS.icmpNo X0.here hx rfl (hb hby d1_36) rfl (feq hc36).1 ?_
              show Steps p.tables e below (s₁.setTop (mkF m 39 #[.val (.int p1), .unset] [])) _
              refine XS.iloadN X0.here hx rfl (hb hby d1_39) rfl ?_
              show Steps p.tables e below (s₁.setTop (mkF m 40 #[.val (.int p1), .unset] [(.int p1)])) _
              refine XS.bipush X0.here hx rfl (hb hby d1_40) ?_
              show Steps p.tables e below (s₁.setTop (mkF m 42 #[.val (.int p1), .unset] [(.int (12 : Int32)), (.int p1)])) _
              refine XS.icmpYes X0.here hx rfl (pc0 := 42) (pc' := 51) rfl (hb hby d1_42) rfl (teq hc42).1 (by decide) (by decide) ?_
              show Steps p.tables e below (s₁.setTop (mkF m 51 #[.val (.int p1), .unset] [])) _
              refine XS.bipush X0.here hx rfl (hb hby d1_51) ?_
              show Steps p.tables e below (s₁.setTop (mkF m 53 #[.val (.int p1), .unset] [(.int (32 : Int32))])) _
              refine XS.istoreN X0.here hx rfl (hb hby d1_53) rfl (l' := #[.val (.int p1), .val (.int (32 : Int32))]) rfl ?_
              show Steps p.tables e below (s₁.setTop (mkF m 54 #[.val (.int p1), .val (.int (32 : Int32))] [])) _
              refine XS.goto X0.here hx rfl (pc0 := 54) (pc' := 59) rfl (hb hby d1_54) (by decide) (by decide) ?_
              show Steps p.tables e below (s₁.setTop (mkF m 59 #[.val (.int p1), .val (.int (32 : Int32))] [])) _
              refine XS.iloadN X0.here hx rfl (hb hby d1_59) rfl ?_
              show Steps p.tables e below (s₁.setTop (mkF m 60 #[.val (.int p1), .val (.int (32 : Int32))] [(.int (32 : Int32))])) _
              exact retN X0 hx (t := .char) Bd.returns (by simp) (hb hby d1_60) hr
            · show Q_1 Z p1 h0 n0 _ s₁.heap _
              rw [e0]
              exact ⟨by rw [show own_fold p1 = (32 : Int32) from by simp [own_fold, own_ws, hc3, hc24, hc30, hc36, hc42]], N0, rfl⟩
          · by_cases hc48 : p1 = (13 : Int32)
            · obtain ⟨fs, hr, hrun, hended, hW, hsame⟩ := X0.leave (v := some (.int (nar .char (32 : Int32)))) (fun h => by rw [Bd.returns] at h; cases h)
              refine ⟨_, _, pre0 _ ?_, hrun, hended, _, _, rfl, ?_, ⟨_, rfl⟩, hW, hsame.mono (by decide) (by decide)⟩
              · show Steps p.tables e below (s₁.setTop (mkF m 0 #[.val (.int p1), .unset] [])) _
                refine XS.iloadN X0.here hx rfl (hb hby d1_0) rfl ?_
                show Steps p.tables e below (s₁.setTop (mkF m 1 #[.val (.int p1), .unset] [(.int p1)])) _
                refine XS.bipush X0.here hx rfl (hb hby d1_1) ?_
                show Steps p.tables e below (s₁.setTop (mkF m 3 #[.val (.int p1), .unset] [(.int (65 : Int32)), (.int p1)])) _
                refine XS.icmpYes X0.here hx rfl (pc0 := 3) (pc' := 21) rfl (hb hby d1_3) rfl (tlt hc3).1 (by decide) (by decide) ?_
                show Steps p.tables e below (s₁.setTop (mkF m 21 #[.val (.int p1), .unset] [])) _
                refine XS.iloadN X0.here hx rfl (hb hby d1_21) rfl ?_
                show Steps p.tables e below (s₁.setTop (mkF m 22 #[.val (.int p1), .unset] [(.int p1)])) _
                refine XS.bipush X0.here hx rfl (hb hby d1_22) ?_
                show Steps p.tables e below (s₁.setTop (mkF m 24 #[.val (.int p1), .unset] [(.int (9 : Int32)), (.int p1)])) _
                refine XS.icmpNo X0.here hx rfl (hb hby d1_24) rfl (feq hc24).1 ?_
                show Steps p.tables e below (s₁.setTop (mkF m 27 #[.val (.int p1), .unset] [])) _
                refine XS.iloadN X0.here hx rfl (hb hby d1_27) rfl ?_
                show Steps p.tables e below (s₁.setTop (mkF m 28 #[.val (.int p1), .unset] [(.int p1)])) _
                refine XS.bipush X0.here hx rfl (hb hby d1_28) ?_
                show Steps p.tables e below (s₁.setTop (mkF m 30 #[.val (.int p1), .unset] [(.int (10 : Int32)), (.int p1)])) _
                refine XS.icmpNo X0.here hx rfl (hb hby d1_30) rfl (feq hc30).1 ?_
                show Steps p.tables e below (s₁.setTop (mkF m 33 #[.val (.int p1), .unset] [])) _
                refine XS.iloadN X0.here hx rfl (hb hby d1_33) rfl ?_
                show Steps p.tables e below (s₁.setTop (mkF m 34 #[.val (.int p1), .unset] [(.int p1)])) _
                refine XS.bipush X0.here hx rfl (hb hby d1_34) ?_
                show Steps p.tables e below (s₁.setTop (mkF m 36 #[.val (.int p1), .unset] [(.int (11 : Int32)), (.int p1)])) _
                refine XS.icmpNo X0.here hx rfl (hb hby d1_36) rfl (feq hc36).1 ?_
                show Steps p.tables e below (s₁.setTop (mkF m 39 #[.val (.int p1), .unset] [])) _
                refine XS.iloadN X0.here hx rfl (hb hby d1_39) rfl ?_
                show Steps p.tables e below (s₁.setTop (mkF m 40 #[.val (.int p1), .unset] [(.int p1)])) _
                refine XS.bipush X0.here hx rfl (hb hby d1_40) ?_
                show Steps p.tables e below (s₁.setTop (mkF m 42 #[.val (.int p1), .unset] [(.int (12 : Int32)), (.int p1)])) _
                refine XS.icmpNo X0.here hx rfl (hb hby d1_42) rfl (feq hc42).1 ?_
                show Steps p.tables e below (s₁.setTop (mkF m 45 #[.val (.int p1), .unset] [])) _
                refine XS.iloadN X0.here hx rfl (hb hby d1_45) rfl ?_
                show Steps p.tables e below (s₁.setTop (mkF m 46 #[.val (.int p1), .unset] [(.int p1)])) _
                refine XS.bipush X0.here hx rfl (hb hby d1_46) ?_
                show Steps p.tables e below (s₁.setTop (mkF m 48 #[.val (.int p1), .unset] [(.int (13 : Int32)), (.int p1)])) _
                refine XS.icmpNo X0.here hx rfl (hb hby d1_48) rfl (teq hc48).2 ?_
                show Steps p.tables e below (s₁.setTop (mkF m 51 #[.val (.int p1), .unset] [])) _
                refine XS.bipush X0.here hx rfl (hb hby d1_51) ?_
                show Steps p.tables e below (s₁.setTop (mkF m 53 #[.val (.int p1), .unset] [(.int (32 : Int32))])) _
                refine XS.istoreN X0.here hx rfl (hb hby d1_53) rfl (l' := #[.val (.int p1), .val (.int (32 : Int32))]) rfl ?_
                show Steps p.tables e below (s₁.setTop (mkF m 54 #[.val (.int p1), .val (.int (32 : Int32))] [])) _
                refine XS.goto X0.here hx rfl (pc0 := 54) (pc' := 59) rfl (hb hby d1_54) (by decide) (by decide) ?_
                show Steps p.tables e below (s₁.setTop (mkF m 59 #[.val (.int p1), .val (.int (32 : Int32))] [])) _
                refine XS.iloadN X0.here hx rfl (hb hby d1_59) rfl ?_
                show Steps p.tables e below (s₁.setTop (mkF m 60 #[.val (.int p1), .val (.int (32 : Int32))] [(.int (32 : Int32))])) _
                exact retN X0 hx (t := .char) Bd.returns (by simp) (hb hby d1_60) hr
              · show Q_1 Z p1 h0 n0 _ s₁.heap _
                rw [e0]
                exact ⟨by rw [show own_fold p1 = (32 : Int32) from by simp [own_fold, own_ws, hc3, hc24, hc30, hc36, hc42, hc48]], N0, rfl⟩
            · obtain ⟨fs, hr, hrun, hended, hW, hsame⟩ := X0.leave (v := some (.int (nar .char p1))) (fun h => by rw [Bd.returns] at h; cases h)
              refine ⟨_, _, pre0 _ ?_, hrun, hended, _, _, rfl, ?_, ⟨_, rfl⟩, hW, hsame.mono (by decide) (by decide)⟩
              · show Steps p.tables e below (s₁.setTop (mkF m 0 #[.val (.int p1), .unset] [])) _
                refine XS.iloadN X0.here hx rfl (hb hby d1_0) rfl ?_
                show Steps p.tables e below (s₁.setTop (mkF m 1 #[.val (.int p1), .unset] [(.int p1)])) _
                refine XS.bipush X0.here hx rfl (hb hby d1_1) ?_
                show Steps p.tables e below (s₁.setTop (mkF m 3 #[.val (.int p1), .unset] [(.int (65 : Int32)), (.int p1)])) _
                refine XS.icmpYes X0.here hx rfl (pc0 := 3) (pc' := 21) rfl (hb hby d1_3) rfl (tlt hc3).1 (by decide) (by decide) ?_
                show Steps p.tables e below (s₁.setTop (mkF m 21 #[.val (.int p1), .unset] [])) _
                refine XS.iloadN X0.here hx rfl (hb hby d1_21) rfl ?_
                show Steps p.tables e below (s₁.setTop (mkF m 22 #[.val (.int p1), .unset] [(.int p1)])) _
                refine XS.bipush X0.here hx rfl (hb hby d1_22) ?_
                show Steps p.tables e below (s₁.setTop (mkF m 24 #[.val (.int p1), .unset] [(.int (9 : Int32)), (.int p1)])) _
                refine XS.icmpNo X0.here hx rfl (hb hby d1_24) rfl (feq hc24).1 ?_
                show Steps p.tables e below (s₁.setTop (mkF m 27 #[.val (.int p1), .unset] [])) _
                refine XS.iloadN X0.here hx rfl (hb hby d1_27) rfl ?_
                show Steps p.tables e below (s₁.setTop (mkF m 28 #[.val (.int p1), .unset] [(.int p1)])) _
                refine XS.bipush X0.here hx rfl (hb hby d1_28) ?_
                show Steps p.tables e below (s₁.setTop (mkF m 30 #[.val (.int p1), .unset] [(.int (10 : Int32)), (.int p1)])) _
                refine XS.icmpNo X0.here hx rfl (hb hby d1_30) rfl (feq hc30).1 ?_
                show Steps p.tables e below (s₁.setTop (mkF m 33 #[.val (.int p1), .unset] [])) _
                refine XS.iloadN X0.here hx rfl (hb hby d1_33) rfl ?_
                show Steps p.tables e below (s₁.setTop (mkF m 34 #[.val (.int p1), .unset] [(.int p1)])) _
                refine XS.bipush X0.here hx rfl (hb hby d1_34) ?_
                show Steps p.tables e below (s₁.setTop (mkF m 36 #[.val (.int p1), .unset] [(.int (11 : Int32)), (.int p1)])) _
                refine XS.icmpNo X0.here hx rfl (hb hby d1_36) rfl (feq hc36).1 ?_
                show Steps p.tables e below (s₁.setTop (mkF m 39 #[.val (.int p1), .unset] [])) _
                refine XS.iloadN X0.here hx rfl (hb hby d1_39) rfl ?_
                show Steps p.tables e below (s₁.setTop (mkF m 40 #[.val (.int p1), .unset] [(.int p1)])) _
                refine XS.bipush X0.here hx rfl (hb hby d1_40) ?_
                show Steps p.tables e below (s₁.setTop (mkF m 42 #[.val (.int p1), .unset] [(.int (12 : Int32)), (.int p1)])) _
                refine XS.icmpNo X0.here hx rfl (hb hby d1_42) rfl (feq hc42).1 ?_
                show Steps p.tables e below (s₁.setTop (mkF m 45 #[.val (.int p1), .unset] [])) _
                refine XS.iloadN X0.here hx rfl (hb hby d1_45) rfl ?_
                show Steps p.tables e below (s₁.setTop (mkF m 46 #[.val (.int p1), .unset] [(.int p1)])) _
                refine XS.bipush X0.here hx rfl (hb hby d1_46) ?_
                show Steps p.tables e below (s₁.setTop (mkF m 48 #[.val (.int p1), .unset] [(.int (13 : Int32)), (.int p1)])) _
                refine XS.icmpYes X0.here hx rfl (pc0 := 48) (pc' := 57) rfl (hb hby d1_48) rfl (feq hc48).2 (by decide) (by decide) ?_
                show Steps p.tables e below (s₁.setTop (mkF m 57 #[.val (.int p1), .unset] [])) _
                refine XS.iloadN X0.here hx rfl (hb hby d1_57) rfl ?_
                show Steps p.tables e below (s₁.setTop (mkF m 58 #[.val (.int p1), .unset] [(.int p1)])) _
                refine XS.istoreN X0.here hx rfl (hb hby d1_58) rfl (l' := #[.val (.int p1), .val (.int p1)]) rfl ?_
                show Steps p.tables e below (s₁.setTop (mkF m 59 #[.val (.int p1), .val (.int p1)] [])) _
                refine XS.iloadN X0.here hx rfl (hb hby d1_59) rfl ?_
                show Steps p.tables e below (s₁.setTop (mkF m 60 #[.val (.int p1), .val (.int p1)] [(.int p1)])) _
                exact retN X0 hx (t := .char) Bd.returns (by simp) (hb hby d1_60) hr
              · show Q_1 Z p1 h0 n0 _ s₁.heap _
                rw [e0]
                exact ⟨by rw [show own_fold p1 = p1 from by simp [own_fold, own_ws, hc3, hc24, hc30, hc36, hc42, hc48]], N0, rfl⟩
  · by_cases hc9 : (90 : Int32) < p1
    · by_cases hc24 : p1 = (9 : Int32)
      · obtain ⟨fs, hr, hrun, hended, hW, hsame⟩ := X0.leave (v := some (.int (nar .char (32 : Int32)))) (fun h => by rw [Bd.returns] at h; cases h)
        refine ⟨_, _, pre0 _ ?_, hrun, hended, _, _, rfl, ?_, ⟨_, rfl⟩, hW, hsame.mono (by decide) (by decide)⟩
        · show Steps p.tables e below (s₁.setTop (mkF m 0 #[.val (.int p1), .unset] [])) _
          refine XS.iloadN X0.here hx rfl (hb hby d1_0) rfl ?_
          show Steps p.tables e below (s₁.setTop (mkF m 1 #[.val (.int p1), .unset] [(.int p1)])) _
          refine XS.bipush X0.here hx rfl (hb hby d1_1) ?_
          show Steps p.tables e below (s₁.setTop (mkF m 3 #[.val (.int p1), .unset] [(.int (65 : Int32)), (.int p1)])) _
          refine XS.icmpNo X0.here hx rfl (hb hby d1_3) rfl (flt hc3).1 ?_
          show Steps p.tables e below (s₁.setTop (mkF m 6 #[.val (.int p1), .unset] [])) _
          refine XS.iloadN X0.here hx rfl (hb hby d1_6) rfl ?_
          show Steps p.tables e below (s₁.setTop (mkF m 7 #[.val (.int p1), .unset] [(.int p1)])) _
          refine XS.bipush X0.here hx rfl (hb hby d1_7) ?_
          show Steps p.tables e below (s₁.setTop (mkF m 9 #[.val (.int p1), .unset] [(.int (90 : Int32)), (.int p1)])) _
          refine XS.icmpYes X0.here hx rfl (pc0 := 9) (pc' := 21) rfl (hb hby d1_9) rfl (tlt hc9).2.2.1 (by decide) (by decide) ?_
          show Steps p.tables e below (s₁.setTop (mkF m 21 #[.val (.int p1), .unset] [])) _
          refine XS.iloadN X0.here hx rfl (hb hby d1_21) rfl ?_
          show Steps p.tables e below (s₁.setTop (mkF m 22 #[.val (.int p1), .unset] [(.int p1)])) _
          refine XS.bipush X0.here hx rfl (hb hby d1_22) ?_
          show Steps p.tables e below (s₁.setTop (mkF m 24 #[.val (.int p1), .unset] [(.int (9 : Int32)), (.int p1)])) _
          refine XS.icmpYes X0.here hx rfl (pc0 := 24) (pc' := 51) rfl (hb hby d1_24) rfl (teq hc24).1 (by decide) (by decide) ?_
          show Steps p.tables e below (s₁.setTop (mkF m 51 #[.val (.int p1), .unset] [])) _
          refine XS.bipush X0.here hx rfl (hb hby d1_51) ?_
          show Steps p.tables e below (s₁.setTop (mkF m 53 #[.val (.int p1), .unset] [(.int (32 : Int32))])) _
          refine XS.istoreN X0.here hx rfl (hb hby d1_53) rfl (l' := #[.val (.int p1), .val (.int (32 : Int32))]) rfl ?_
          show Steps p.tables e below (s₁.setTop (mkF m 54 #[.val (.int p1), .val (.int (32 : Int32))] [])) _
          refine XS.goto X0.here hx rfl (pc0 := 54) (pc' := 59) rfl (hb hby d1_54) (by decide) (by decide) ?_
          show Steps p.tables e below (s₁.setTop (mkF m 59 #[.val (.int p1), .val (.int (32 : Int32))] [])) _
          refine XS.iloadN X0.here hx rfl (hb hby d1_59) rfl ?_
          show Steps p.tables e below (s₁.setTop (mkF m 60 #[.val (.int p1), .val (.int (32 : Int32))] [(.int (32 : Int32))])) _
          exact retN X0 hx (t := .char) Bd.returns (by simp) (hb hby d1_60) hr
        · show Q_1 Z p1 h0 n0 _ s₁.heap _
          rw [e0]
          exact ⟨by rw [show own_fold p1 = (32 : Int32) from by simp [own_fold, own_ws, hc3, hc9, hc24]], N0, rfl⟩
      · by_cases hc30 : p1 = (10 : Int32)
        · obtain ⟨fs, hr, hrun, hended, hW, hsame⟩ := X0.leave (v := some (.int (nar .char (32 : Int32)))) (fun h => by rw [Bd.returns] at h; cases h)
          refine ⟨_, _, pre0 _ ?_, hrun, hended, _, _, rfl, ?_, ⟨_, rfl⟩, hW, hsame.mono (by decide) (by decide)⟩
          · show Steps p.tables e below (s₁.setTop (mkF m 0 #[.val (.int p1), .unset] [])) _
            refine XS.iloadN X0.here hx rfl (hb hby d1_0) rfl ?_
            show Steps p.tables e below (s₁.setTop (mkF m 1 #[.val (.int p1), .unset] [(.int p1)])) _
            refine XS.bipush X0.here hx rfl (hb hby d1_1) ?_
            show Steps p.tables e below (s₁.setTop (mkF m 3 #[.val (.int p1), .unset] [(.int (65 : Int32)), (.int p1)])) _
            refine XS.icmpNo X0.here hx rfl (hb hby d1_3) rfl (flt hc3).1 ?_
            show Steps p.tables e below (s₁.setTop (mkF m 6 #[.val (.int p1), .unset] [])) _
            refine XS.iloadN X0.here hx rfl (hb hby d1_6) rfl ?_
            show Steps p.tables e below (s₁.setTop (mkF m 7 #[.val (.int p1), .unset] [(.int p1)])) _
            refine XS.bipush X0.here hx rfl (hb hby d1_7) ?_
            show Steps p.tables e below (s₁.setTop (mkF m 9 #[.val (.int p1), .unset] [(.int (90 : Int32)), (.int p1)])) _
            refine XS.icmpYes X0.here hx rfl (pc0 := 9) (pc' := 21) rfl (hb hby d1_9) rfl (tlt hc9).2.2.1 (by decide) (by decide) ?_
            show Steps p.tables e below (s₁.setTop (mkF m 21 #[.val (.int p1), .unset] [])) _
            refine XS.iloadN X0.here hx rfl (hb hby d1_21) rfl ?_
            show Steps p.tables e below (s₁.setTop (mkF m 22 #[.val (.int p1), .unset] [(.int p1)])) _
            refine XS.bipush X0.here hx rfl (hb hby d1_22) ?_
            show Steps p.tables e below (s₁.setTop (mkF m 24 #[.val (.int p1), .unset] [(.int (9 : Int32)), (.int p1)])) _
            refine XS.icmpNo X0.here hx rfl (hb hby d1_24) rfl (feq hc24).1 ?_
            show Steps p.tables e below (s₁.setTop (mkF m 27 #[.val (.int p1), .unset] [])) _
            refine XS.iloadN X0.here hx rfl (hb hby d1_27) rfl ?_
            show Steps p.tables e below (s₁.setTop (mkF m 28 #[.val (.int p1), .unset] [(.int p1)])) _
            refine XS.bipush X0.here hx rfl (hb hby d1_28) ?_
            show Steps p.tables e below (s₁.setTop (mkF m 30 #[.val (.int p1), .unset] [(.int (10 : Int32)), (.int p1)])) _
            refine XS.icmpYes X0.here hx rfl (pc0 := 30) (pc' := 51) rfl (hb hby d1_30) rfl (teq hc30).1 (by decide) (by decide) ?_
            show Steps p.tables e below (s₁.setTop (mkF m 51 #[.val (.int p1), .unset] [])) _
            refine XS.bipush X0.here hx rfl (hb hby d1_51) ?_
            show Steps p.tables e below (s₁.setTop (mkF m 53 #[.val (.int p1), .unset] [(.int (32 : Int32))])) _
            refine XS.istoreN X0.here hx rfl (hb hby d1_53) rfl (l' := #[.val (.int p1), .val (.int (32 : Int32))]) rfl ?_
            show Steps p.tables e below (s₁.setTop (mkF m 54 #[.val (.int p1), .val (.int (32 : Int32))] [])) _
            refine XS.goto X0.here hx rfl (pc0 := 54) (pc' := 59) rfl (hb hby d1_54) (by decide) (by decide) ?_
            show Steps p.tables e below (s₁.setTop (mkF m 59 #[.val (.int p1), .val (.int (32 : Int32))] [])) _
            refine XS.iloadN X0.here hx rfl (hb hby d1_59) rfl ?_
            show Steps p.tables e below (s₁.setTop (mkF m 60 #[.val (.int p1), .val (.int (32 : Int32))] [(.int (32 : Int32))])) _
            exact retN X0 hx (t := .char) Bd.returns (by simp) (hb hby d1_60) hr
          · show Q_1 Z p1 h0 n0 _ s₁.heap _
            rw [e0]
            exact ⟨by rw [show own_fold p1 = (32 : Int32) from by simp [own_fold, own_ws, hc3, hc9, hc24, hc30]], N0, rfl⟩
        · by_cases hc36 : p1 = (11 : Int32)
          · obtain ⟨fs, hr, hrun, hended, hW, hsame⟩ := X0.leave (v := some (.int (nar .char (32 : Int32)))) (fun h => by rw [Bd.returns] at h; cases h)
            refine ⟨_, _, pre0 _ ?_, hrun, hended, _, _, rfl, ?_, ⟨_, rfl⟩, hW, hsame.mono (by decide) (by decide)⟩
            · show Steps p.tables e below (s₁.setTop (mkF m 0 #[.val (.int p1), .unset] [])) _
              refine XS.iloadN X0.here hx rfl (hb hby d1_0) rfl ?_
              show Steps p.tables e below (s₁.setTop (mkF m 1 #[.val (.int p1), .unset] [(.int p1)])) _
              refine XS.bipush X0.here hx rfl (hb hby d1_1) ?_
              show Steps p.tables e below (s₁.setTop (mkF m 3 #[.val (.int p1), .unset] [(.int (65 : Int32)), (.int p1)])) _
              refine XS.icmpNo X0.here hx rfl (hb hby d1_3) rfl (flt hc3).1 ?_
              show Steps p.tables e below (s₁.setTop (mkF m 6 #[.val (.int p1), .unset] [])) _
              refine XS.iloadN X0.here hx rfl (hb hby d1_6) rfl ?_
              show Steps p.tables e below (s₁.setTop (mkF m 7 #[.val (.int p1), .unset] [(.int p1)])) _
              refine XS.bipush X0.here hx rfl (hb hby d1_7) ?_
              show Steps p.tables e below (s₁.setTop (mkF m 9 #[.val (.int p1), .unset] [(.int (90 : Int32)), (.int p1)])) _
              refine XS.icmpYes X0.here hx rfl (pc0 := 9) (pc' := 21) rfl (hb hby d1_9) rfl (tlt hc9).2.2.1 (by decide) (by decide) ?_
              show Steps p.tables e below (s₁.setTop (mkF m 21 #[.val (.int p1), .unset] [])) _
              refine XS.iloadN X0.here hx rfl (hb hby d1_21) rfl ?_
              show Steps p.tables e below (s₁.setTop (mkF m 22 #[.val (.int p1), .unset] [(.int p1)])) _
              refine XS.bipush X0.here hx rfl (hb hby d1_22) ?_
              show Steps p.tables e below (s₁.setTop (mkF m 24 #[.val (.int p1), .unset] [(.int (9 : Int32)), (.int p1)])) _
              refine XS.icmpNo X0.here hx rfl (hb hby d1_24) rfl (feq hc24).1 ?_
              show Steps p.tables e below (s₁.setTop (mkF m 27 #[.val (.int p1), .unset] [])) _
              refine XS.iloadN X0.here hx rfl (hb hby d1_27) rfl ?_
              show Steps p.tables e below (s₁.setTop (mkF m 28 #[.val (.int p1), .unset] [(.int p1)])) _
              refine XS.bipush X0.here hx rfl (hb hby d1_28) ?_
              show Steps p.tables e below (s₁.setTop (mkF m 30 #[.val (.int p1), .unset] [(.int (10 : Int32)), (.int p1)])) _
              refine XS.icmpNo X0.here hx rfl (hb hby d1_30) rfl (feq hc30).1 ?_
              show Steps p.tables e below (s₁.setTop (mkF m 33 #[.val (.int p1), .unset] [])) _
              refine XS.iloadN X0.here hx rfl (hb hby d1_33) rfl ?_
              show Steps p.tables e below (s₁.setTop (mkF m 34 #[.val (.int p1), .unset] [(.int p1)])) _
              refine XS.bipush X0.here hx rfl (hb hby d1_34) ?_
              show Steps p.tables e below (s₁.setTop (mkF m 36 #[.val (.int p1), .unset] [(.int (11 : Int32)), (.int p1)])) _
              refine XS.icmpYes X0.here hx rfl (pc0 := 36) (pc' := 51) rfl (hb hby d1_36) rfl (teq hc36).1 (by decide) (by decide) ?_
              show Steps p.tables e below (s₁.setTop (mkF m 51 #[.val (.int p1), .unset] [])) _
              refine XS.bipush X0.here hx rfl (hb hby d1_51) ?_
              show Steps p.tables e below (s₁.setTop (mkF m 53 #[.val (.int p1), .unset] [(.int (32 : Int32))])) _
              refine XS.istoreN X0.here hx rfl (hb hby d1_53) rfl (l' := #[.val (.int p1), .val (.int (32 : Int32))]) rfl ?_
              show Steps p.tables e below (s₁.setTop (mkF m 54 #[.val (.int p1), .val (.int (32 : Int32))] [])) _
              refine XS.goto X0.here hx rfl (pc0 := 54) (pc' := 59) rfl (hb hby d1_54) (by decide) (by decide) ?_
              show Steps p.tables e below (s₁.setTop (mkF m 59 #[.val (.int p1), .val (.int (32 : Int32))] [])) _
              refine XS.iloadN X0.here hx rfl (hb hby d1_59) rfl ?_
              show Steps p.tables e below (s₁.setTop (mkF m 60 #[.val (.int p1), .val (.int (32 : Int32))] [(.int (32 : Int32))])) _
              exact retN X0 hx (t := .char) Bd.returns (by simp) (hb hby d1_60) hr
            · show Q_1 Z p1 h0 n0 _ s₁.heap _
              rw [e0]
              exact ⟨by rw [show own_fold p1 = (32 : Int32) from by simp [own_fold, own_ws, hc3, hc9, hc24, hc30, hc36]], N0, rfl⟩
          · by_cases hc42 : p1 = (12 : Int32)
            · obtain ⟨fs, hr, hrun, hended, hW, hsame⟩ := X0.leave (v := some (.int (nar .char (32 : Int32)))) (fun h => by rw [Bd.returns] at h; cases h)
              refine ⟨_, _, pre0 _ ?_, hrun, hended, _, _, rfl, ?_, ⟨_, rfl⟩, hW, hsame.mono (by decide) (by decide)⟩
              · show Steps p.tables e below (s₁.setTop (mkF m 0 #[.val (.int p1), .unset] [])) _
                refine XS.iloadN X0.here hx rfl (hb hby d1_0) rfl ?_
                show Steps p.tables e below (s₁.setTop (mkF m 1 #[.val (.int p1), .unset] [(.int p1)])) _
                refine XS.bipush X0.here hx rfl (hb hby d1_1) ?_
                show Steps p.tables e below (s₁.setTop (mkF m 3 #[.val (.int p1), .unset] [(.int (65 : Int32)), (.int p1)])) _
                refine XS.icmpNo X0.here hx rfl (hb hby d1_3) rfl (flt hc3).1 ?_
                show Steps p.tables e below (s₁.setTop (mkF m 6 #[.val (.int p1), .unset] [])) _
                refine XS.iloadN X0.here hx rfl (hb hby d1_6) rfl ?_
                show Steps p.tables e below (s₁.setTop (mkF m 7 #[.val (.int p1), .unset] [(.int p1)])) _
                refine XS.bipush X0.here hx rfl (hb hby d1_7) ?_
                show Steps p.tables e below (s₁.setTop (mkF m 9 #[.val (.int p1), .unset] [(.int (90 : Int32)), (.int p1)])) _
                refine XS.icmpYes X0.here hx rfl (pc0 := 9) (pc' := 21) rfl (hb hby d1_9) rfl (tlt hc9).2.2.1 (by decide) (by decide) ?_
                show Steps p.tables e below (s₁.setTop (mkF m 21 #[.val (.int p1), .unset] [])) _
                refine XS.iloadN X0.here hx rfl (hb hby d1_21) rfl ?_
                show Steps p.tables e below (s₁.setTop (mkF m 22 #[.val (.int p1), .unset] [(.int p1)])) _
                refine XS.bipush X0.here hx rfl (hb hby d1_22) ?_
                show Steps p.tables e below (s₁.setTop (mkF m 24 #[.val (.int p1), .unset] [(.int (9 : Int32)), (.int p1)])) _
                refine XS.icmpNo X0.here hx rfl (hb hby d1_24) rfl (feq hc24).1 ?_
                show Steps p.tables e below (s₁.setTop (mkF m 27 #[.val (.int p1), .unset] [])) _
                refine XS.iloadN X0.here hx rfl (hb hby d1_27) rfl ?_
                show Steps p.tables e below (s₁.setTop (mkF m 28 #[.val (.int p1), .unset] [(.int p1)])) _
                refine XS.bipush X0.here hx rfl (hb hby d1_28) ?_
                show Steps p.tables e below (s₁.setTop (mkF m 30 #[.val (.int p1), .unset] [(.int (10 : Int32)), (.int p1)])) _
                refine XS.icmpNo X0.here hx rfl (hb hby d1_30) rfl (feq hc30).1 ?_
                show Steps p.tables e below (s₁.setTop (mkF m 33 #[.val (.int p1), .unset] [])) _
                refine XS.iloadN X0.here hx rfl (hb hby d1_33) rfl ?_
                show Steps p.tables e below (s₁.setTop (mkF m 34 #[.val (.int p1), .unset] [(.int p1)])) _
                refine XS.bipush X0.here hx rfl (hb hby d1_34) ?_
                show Steps p.tables e below (s₁.setTop (mkF m 36 #[.val (.int p1), .unset] [(.int (11 : Int32)), (.int p1)])) _
                refine XS.icmpNo X0.here hx rfl (hb hby d1_36) rfl (feq hc36).1 ?_
                show Steps p.tables e below (s₁.setTop (mkF m 39 #[.val (.int p1), .unset] [])) _
                refine XS.iloadN X0.here hx rfl (hb hby d1_39) rfl ?_
                show Steps p.tables e below (s₁.setTop (mkF m 40 #[.val (.int p1), .unset] [(.int p1)])) _
                refine XS.bipush X0.here hx rfl (hb hby d1_40) ?_
                show Steps p.tables e below (s₁.setTop (mkF m 42 #[.val (.int p1), .unset] [(.int (12 : Int32)), (.int p1)])) _
                refine XS.icmpYes X0.here hx rfl (pc0 := 42) (pc' := 51) rfl (hb hby d1_42) rfl (teq hc42).1 (by decide) (by decide) ?_
                show Steps p.tables e below (s₁.setTop (mkF m 51 #[.val (.int p1), .unset] [])) _
                refine XS.bipush X0.here hx rfl (hb hby d1_51) ?_
                show Steps p.tables e below (s₁.setTop (mkF m 53 #[.val (.int p1), .unset] [(.int (32 : Int32))])) _
                refine XS.istoreN X0.here hx rfl (hb hby d1_53) rfl (l' := #[.val (.int p1), .val (.int (32 : Int32))]) rfl ?_
                show Steps p.tables e below (s₁.setTop (mkF m 54 #[.val (.int p1), .val (.int (32 : Int32))] [])) _
                refine XS.goto X0.here hx rfl (pc0 := 54) (pc' := 59) rfl (hb hby d1_54) (by decide) (by decide) ?_
                show Steps p.tables e below (s₁.setTop (mkF m 59 #[.val (.int p1), .val (.int (32 : Int32))] [])) _
                refine XS.iloadN X0.here hx rfl (hb hby d1_59) rfl ?_
                show Steps p.tables e below (s₁.setTop (mkF m 60 #[.val (.int p1), .val (.int (32 : Int32))] [(.int (32 : Int32))])) _
                exact retN X0 hx (t := .char) Bd.returns (by simp) (hb hby d1_60) hr
              · show Q_1 Z p1 h0 n0 _ s₁.heap _
                rw [e0]
                exact ⟨by rw [show own_fold p1 = (32 : Int32) from by simp [own_fold, own_ws, hc3, hc9, hc24, hc30, hc36, hc42]], N0, rfl⟩
            · by_cases hc48 : p1 = (13 : Int32)
              · obtain ⟨fs, hr, hrun, hended, hW, hsame⟩ := X0.leave (v := some (.int (nar .char (32 : Int32)))) (fun h => by rw [Bd.returns] at h; cases h)
                refine ⟨_, _, pre0 _ ?_, hrun, hended, _, _, rfl, ?_, ⟨_, rfl⟩, hW, hsame.mono (by decide) (by decide)⟩
                · show Steps p.tables e below (s₁.setTop (mkF m 0 #[.val (.int p1), .unset] [])) _
                  refine XS.iloadN X0.here hx rfl (hb hby d1_0) rfl ?_
                  show Steps p.tables e below (s₁.setTop (mkF m 1 #[.val (.int p1), .unset] [(.int p1)])) _
                  refine XS.bipush X0.here hx rfl (hb hby d1_1) ?_
                  show Steps p.tables e below (s₁.setTop (mkF m 3 #[.val (.int p1), .unset] [(.int (65 : Int32)), (.int p1)])) _
                  refine XS.icmpNo X0.here hx rfl (hb hby d1_3) rfl (flt hc3).1 ?_
                  show Steps p.tables e below (s₁.setTop (mkF m 6 #[.val (.int p1), .unset] [])) _
                  refine XS.iloadN X0.here hx rfl (hb hby d1_6) rfl ?_
                  show Steps p.tables e below (s₁.setTop (mkF m 7 #[.val (.int p1), .unset] [(.int p1)])) _
                  refine XS.bipush X0.here hx rfl (hb hby d1_7) ?_
                  show Steps p.tables e below (s₁.setTop (mkF m 9 #[.val (.int p1), .unset] [(.int (90 : Int32)), (.int p1)])) _
                  refine XS.icmpYes X0.here hx rfl (pc0 := 9) (pc' := 21) rfl (hb hby d1_9) rfl (tlt hc9).2.2.1 (by decide) (by decide) ?_
                  show Steps p.tables e below (s₁.setTop (mkF m 21 #[.val (.int p1), .unset] [])) _
                  refine XS.iloadN X0.here hx rfl (hb hby d1_21) rfl ?_
                  show Steps p.tables e below (s₁.setTop (mkF m 22 #[.val (.int p1), .unset] [(.int p1)])) _
                  refine XS.bipush X0.here hx rfl (hb hby d1_22) ?_
                  show Steps p.tables e below (s₁.setTop (mkF m 24 #[.val (.int p1), .unset] [(.int (9 : Int32)), (.int p1)])) _
                  refine XS.icmpNo X0.here hx rfl (hb hby d1_24) rfl (feq hc24).1 ?_
                  show Steps p.tables e below (s₁.setTop (mkF m 27 #[.val (.int p1), .unset] [])) _
                  refine XS.iloadN X0.here hx rfl (hb hby d1_27) rfl ?_
                  show Steps p.tables e below (s₁.setTop (mkF m 28 #[.val (.int p1), .unset] [(.int p1)])) _
                  refine XS.bipush X0.here hx rfl (hb hby d1_28) ?_
                  show Steps p.tables e below (s₁.setTop (mkF m 30 #[.val (.int p1), .unset] [(.int (10 : Int32)), (.int p1)])) _
                  refine XS.icmpNo X0.here hx rfl (hb hby d1_30) rfl (feq hc30).1 ?_
                  show Steps p.tables e below (s₁.setTop (mkF m 33 #[.val (.int p1), .unset] [])) _
                  refine XS.iloadN X0.here hx rfl (hb hby d1_33) rfl ?_
                  show Steps p.tables e below (s₁.setTop (mkF m 34 #[.val (.int p1), .unset] [(.int p1)])) _
                  refine XS.bipush X0.here hx rfl (hb hby d1_34) ?_
                  show Steps p.tables e below (s₁.setTop (mkF m 36 #[.val (.int p1), .unset] [(.int (11 : Int32)), (.int p1)])) _
                  refine XS.icmpNo X0.here hx rfl (hb hby d1_36) rfl (feq hc36).1 ?_
                  show Steps p.tables e below (s₁.setTop (mkF m 39 #[.val (.int p1), .unset] [])) _
                  refine XS.iloadN X0.here hx rfl (hb hby d1_39) rfl ?_
                  show Steps p.tables e below (s₁.setTop (mkF m 40 #[.val (.int p1), .unset] [(.int p1)])) _
                  refine XS.bipush X0.here hx rfl (hb hby d1_40) ?_
                  show Steps p.tables e below (s₁.setTop (mkF m 42 #[.val (.int p1), .unset] [(.int (12 : Int32)), (.int p1)])) _
                  refine XS.icmpNo X0.here hx rfl (hb hby d1_42) rfl (feq hc42).1 ?_
                  show Steps p.tables e below (s₁.setTop (mkF m 45 #[.val (.int p1), .unset] [])) _
                  refine XS.iloadN X0.here hx rfl (hb hby d1_45) rfl ?_
                  show Steps p.tables e below (s₁.setTop (mkF m 46 #[.val (.int p1), .unset] [(.int p1)])) _
                  refine XS.bipush X0.here hx rfl (hb hby d1_46) ?_
                  show Steps p.tables e below (s₁.setTop (mkF m 48 #[.val (.int p1), .unset] [(.int (13 : Int32)), (.int p1)])) _
                  refine XS.icmpNo X0.here hx rfl (hb hby d1_48) rfl (teq hc48).2 ?_
                  show Steps p.tables e below (s₁.setTop (mkF m 51 #[.val (.int p1), .unset] [])) _
                  refine XS.bipush X0.here hx rfl (hb hby d1_51) ?_
                  show Steps p.tables e below (s₁.setTop (mkF m 53 #[.val (.int p1), .unset] [(.int (32 : Int32))])) _
                  refine XS.istoreN X0.here hx rfl (hb hby d1_53) rfl (l' := #[.val (.int p1), .val (.int (32 : Int32))]) rfl ?_
                  show Steps p.tables e below (s₁.setTop (mkF m 54 #[.val (.int p1), .val (.int (32 : Int32))] [])) _
                  refine XS.goto X0.here hx rfl (pc0 := 54) (pc' := 59) rfl (hb hby d1_54) (by decide) (by decide) ?_
                  show Steps p.tables e below (s₁.setTop (mkF m 59 #[.val (.int p1), .val (.int (32 : Int32))] [])) _
                  refine XS.iloadN X0.here hx rfl (hb hby d1_59) rfl ?_
                  show Steps p.tables e below (s₁.setTop (mkF m 60 #[.val (.int p1), .val (.int (32 : Int32))] [(.int (32 : Int32))])) _
                  exact retN X0 hx (t := .char) Bd.returns (by simp) (hb hby d1_60) hr
                · show Q_1 Z p1 h0 n0 _ s₁.heap _
                  rw [e0]
                  exact ⟨by rw [show own_fold p1 = (32 : Int32) from by simp [own_fold, own_ws, hc3, hc9, hc24, hc30, hc36, hc42, hc48]], N0, rfl⟩
              · obtain ⟨fs, hr, hrun, hended, hW, hsame⟩ := X0.leave (v := some (.int (nar .char p1))) (fun h => by rw [Bd.returns] at h; cases h)
                refine ⟨_, _, pre0 _ ?_, hrun, hended, _, _, rfl, ?_, ⟨_, rfl⟩, hW, hsame.mono (by decide) (by decide)⟩
                · show Steps p.tables e below (s₁.setTop (mkF m 0 #[.val (.int p1), .unset] [])) _
                  refine XS.iloadN X0.here hx rfl (hb hby d1_0) rfl ?_
                  show Steps p.tables e below (s₁.setTop (mkF m 1 #[.val (.int p1), .unset] [(.int p1)])) _
                  refine XS.bipush X0.here hx rfl (hb hby d1_1) ?_
                  show Steps p.tables e below (s₁.setTop (mkF m 3 #[.val (.int p1), .unset] [(.int (65 : Int32)), (.int p1)])) _
                  refine XS.icmpNo X0.here hx rfl (hb hby d1_3) rfl (flt hc3).1 ?_
                  show Steps p.tables e below (s₁.setTop (mkF m 6 #[.val (.int p1), .unset] [])) _
                  refine XS.iloadN X0.here hx rfl (hb hby d1_6) rfl ?_
                  show Steps p.tables e below (s₁.setTop (mkF m 7 #[.val (.int p1), .unset] [(.int p1)])) _
                  refine XS.bipush X0.here hx rfl (hb hby d1_7) ?_
                  show Steps p.tables e below (s₁.setTop (mkF m 9 #[.val (.int p1), .unset] [(.int (90 : Int32)), (.int p1)])) _
                  refine XS.icmpYes X0.here hx rfl (pc0 := 9) (pc' := 21) rfl (hb hby d1_9) rfl (tlt hc9).2.2.1 (by decide) (by decide) ?_
                  show Steps p.tables e below (s₁.setTop (mkF m 21 #[.val (.int p1), .unset] [])) _
                  refine XS.iloadN X0.here hx rfl (hb hby d1_21) rfl ?_
                  show Steps p.tables e below (s₁.setTop (mkF m 22 #[.val (.int p1), .unset] [(.int p1)])) _
                  refine XS.bipush X0.here hx rfl (hb hby d1_22) ?_
                  show Steps p.tables e below (s₁.setTop (mkF m 24 #[.val (.int p1), .unset] [(.int (9 : Int32)), (.int p1)])) _
                  refine XS.icmpNo X0.here hx rfl (hb hby d1_24) rfl (feq hc24).1 ?_
                  show Steps p.tables e below (s₁.setTop (mkF m 27 #[.val (.int p1), .unset] [])) _
                  refine XS.iloadN X0.here hx rfl (hb hby d1_27) rfl ?_
                  show Steps p.tables e below (s₁.setTop (mkF m 28 #[.val (.int p1), .unset] [(.int p1)])) _
                  refine XS.bipush X0.here hx rfl (hb hby d1_28) ?_
                  show Steps p.tables e below (s₁.setTop (mkF m 30 #[.val (.int p1), .unset] [(.int (10 : Int32)), (.int p1)])) _
                  refine XS.icmpNo X0.here hx rfl (hb hby d1_30) rfl (feq hc30).1 ?_
                  show Steps p.tables e below (s₁.setTop (mkF m 33 #[.val (.int p1), .unset] [])) _
                  refine XS.iloadN X0.here hx rfl (hb hby d1_33) rfl ?_
                  show Steps p.tables e below (s₁.setTop (mkF m 34 #[.val (.int p1), .unset] [(.int p1)])) _
                  refine XS.bipush X0.here hx rfl (hb hby d1_34) ?_
                  show Steps p.tables e below (s₁.setTop (mkF m 36 #[.val (.int p1), .unset] [(.int (11 : Int32)), (.int p1)])) _
                  refine XS.icmpNo X0.here hx rfl (hb hby d1_36) rfl (feq hc36).1 ?_
                  show Steps p.tables e below (s₁.setTop (mkF m 39 #[.val (.int p1), .unset] [])) _
                  refine XS.iloadN X0.here hx rfl (hb hby d1_39) rfl ?_
                  show Steps p.tables e below (s₁.setTop (mkF m 40 #[.val (.int p1), .unset] [(.int p1)])) _
                  refine XS.bipush X0.here hx rfl (hb hby d1_40) ?_
                  show Steps p.tables e below (s₁.setTop (mkF m 42 #[.val (.int p1), .unset] [(.int (12 : Int32)), (.int p1)])) _
                  refine XS.icmpNo X0.here hx rfl (hb hby d1_42) rfl (feq hc42).1 ?_
                  show Steps p.tables e below (s₁.setTop (mkF m 45 #[.val (.int p1), .unset] [])) _
                  refine XS.iloadN X0.here hx rfl (hb hby d1_45) rfl ?_
                  show Steps p.tables e below (s₁.setTop (mkF m 46 #[.val (.int p1), .unset] [(.int p1)])) _
                  refine XS.bipush X0.here hx rfl (hb hby d1_46) ?_
                  show Steps p.tables e below (s₁.setTop (mkF m 48 #[.val (.int p1), .unset] [(.int (13 : Int32)), (.int p1)])) _
                  refine XS.icmpYes X0.here hx rfl (pc0 := 48) (pc' := 57) rfl (hb hby d1_48) rfl (feq hc48).2 (by decide) (by decide) ?_
                  show Steps p.tables e below (s₁.setTop (mkF m 57 #[.val (.int p1), .unset] [])) _
                  refine XS.iloadN X0.here hx rfl (hb hby d1_57) rfl ?_
                  show Steps p.tables e below (s₁.setTop (mkF m 58 #[.val (.int p1), .unset] [(.int p1)])) _
                  refine XS.istoreN X0.here hx rfl (hb hby d1_58) rfl (l' := #[.val (.int p1), .val (.int p1)]) rfl ?_
                  show Steps p.tables e below (s₁.setTop (mkF m 59 #[.val (.int p1), .val (.int p1)] [])) _
                  refine XS.iloadN X0.here hx rfl (hb hby d1_59) rfl ?_
                  show Steps p.tables e below (s₁.setTop (mkF m 60 #[.val (.int p1), .val (.int p1)] [(.int p1)])) _
                  exact retN X0 hx (t := .char) Bd.returns (by simp) (hb hby d1_60) hr
                · show Q_1 Z p1 h0 n0 _ s₁.heap _
                  rw [e0]
                  exact ⟨by rw [show own_fold p1 = p1 from by simp [own_fold, own_ws, hc3, hc9, hc24, hc30, hc36, hc42, hc48]], N0, rfl⟩
    · obtain ⟨fs, hr, hrun, hended, hW, hsame⟩ := X0.leave (v := some (.int (nar .char ((p1 + (32 : Int32)).toUInt32.toUInt16.toUInt32.toInt32)))) (fun h => by rw [Bd.returns] at h; cases h)
      refine ⟨_, _, pre0 _ ?_, hrun, hended, _, _, rfl, ?_, ⟨_, rfl⟩, hW, hsame.mono (by decide) (by decide)⟩
      · show Steps p.tables e below (s₁.setTop (mkF m 0 #[.val (.int p1), .unset] [])) _
        refine XS.iloadN X0.here hx rfl (hb hby d1_0) rfl ?_
        show Steps p.tables e below (s₁.setTop (mkF m 1 #[.val (.int p1), .unset] [(.int p1)])) _
        refine XS.bipush X0.here hx rfl (hb hby d1_1) ?_
        show Steps p.tables e below (s₁.setTop (mkF m 3 #[.val (.int p1), .unset] [(.int (65 : Int32)), (.int p1)])) _
        refine XS.icmpNo X0.here hx rfl (hb hby d1_3) rfl (flt hc3).1 ?_
        show Steps p.tables e below (s₁.setTop (mkF m 6 #[.val (.int p1), .unset] [])) _
        refine XS.iloadN X0.here hx rfl (hb hby d1_6) rfl ?_
        show Steps p.tables e below (s₁.setTop (mkF m 7 #[.val (.int p1), .unset] [(.int p1)])) _
        refine XS.bipush X0.here hx rfl (hb hby d1_7) ?_
        show Steps p.tables e below (s₁.setTop (mkF m 9 #[.val (.int p1), .unset] [(.int (90 : Int32)), (.int p1)])) _
        refine XS.icmpNo X0.here hx rfl (hb hby d1_9) rfl (flt hc9).2.2.1 ?_
        show Steps p.tables e below (s₁.setTop (mkF m 12 #[.val (.int p1), .unset] [])) _
        refine XS.iloadN X0.here hx rfl (hb hby d1_12) rfl ?_
        show Steps p.tables e below (s₁.setTop (mkF m 13 #[.val (.int p1), .unset] [(.int p1)])) _
        refine XS.bipush X0.here hx rfl (hb hby d1_13) ?_
        show Steps p.tables e below (s₁.setTop (mkF m 15 #[.val (.int p1), .unset] [(.int (32 : Int32)), (.int p1)])) _
        refine XS.iadd X0.here hx rfl (hb hby d1_15) rfl ?_
        show Steps p.tables e below (s₁.setTop (mkF m 16 #[.val (.int p1), .unset] [(.int (p1 + (32 : Int32)))])) _
        refine XS.i2c X0.here hx rfl (hb hby d1_16) rfl ?_
        show Steps p.tables e below (s₁.setTop (mkF m 17 #[.val (.int p1), .unset] [(.int ((p1 + (32 : Int32)).toUInt32.toUInt16.toUInt32.toInt32))])) _
        refine XS.istoreN X0.here hx rfl (hb hby d1_17) rfl (l' := #[.val (.int p1), .val (.int ((p1 + (32 : Int32)).toUInt32.toUInt16.toUInt32.toInt32))]) rfl ?_
        show Steps p.tables e below (s₁.setTop (mkF m 18 #[.val (.int p1), .val (.int ((p1 + (32 : Int32)).toUInt32.toUInt16.toUInt32.toInt32))] [])) _
        refine XS.goto X0.here hx rfl (pc0 := 18) (pc' := 59) rfl (hb hby d1_18) (by decide) (by decide) ?_
        show Steps p.tables e below (s₁.setTop (mkF m 59 #[.val (.int p1), .val (.int ((p1 + (32 : Int32)).toUInt32.toUInt16.toUInt32.toInt32))] [])) _
        refine XS.iloadN X0.here hx rfl (hb hby d1_59) rfl ?_
        show Steps p.tables e below (s₁.setTop (mkF m 60 #[.val (.int p1), .val (.int ((p1 + (32 : Int32)).toUInt32.toUInt16.toUInt32.toInt32))] [(.int ((p1 + (32 : Int32)).toUInt32.toUInt16.toUInt32.toInt32))])) _
        exact retN X0 hx (t := .char) Bd.returns (by simp) (hb hby d1_60) hr
      · show Q_1 Z p1 h0 n0 _ s₁.heap _
        rw [e0]
        exact ⟨by rw [show own_fold p1 = ((p1 + (32 : Int32)).toUInt32.toUInt16.toUInt32.toInt32) from by simp [own_fold, own_ws, hc3, hc9]], N0, rfl⟩
theorem d2_0 : decode method_2_code 0 = .ok (.iload_n 0, 1) := by decide +kernel
theorem d2_1 : decode method_2_code 1 = .ok (.bipush 65, 2) := by decide +kernel
theorem d2_3 : decode method_2_code 3 = .ok (.if_icmp .lt 17, 3) := by decide +kernel
theorem d2_6 : decode method_2_code 6 = .ok (.iload_n 0, 1) := by decide +kernel
theorem d2_7 : decode method_2_code 7 = .ok (.bipush 90, 2) := by decide +kernel
theorem d2_9 : decode method_2_code 9 = .ok (.if_icmp .gt 11, 3) := by decide +kernel
theorem d2_12 : decode method_2_code 12 = .ok (.iload_n 0, 1) := by decide +kernel
theorem d2_13 : decode method_2_code 13 = .ok (.bipush 32, 2) := by decide +kernel
theorem d2_15 : decode method_2_code 15 = .ok (.ior, 1) := by decide +kernel
theorem d2_16 : decode method_2_code 16 = .ok (.istore_n 1, 1) := by decide +kernel
theorem d2_17 : decode method_2_code 17 = .ok (.goto 23, 3) := by decide +kernel
theorem d2_20 : decode method_2_code 20 = .ok (.iload_n 0, 1) := by decide +kernel
theorem d2_21 : decode method_2_code 21 = .ok (.bipush 9, 2) := by decide +kernel
theorem d2_23 : decode method_2_code 23 = .ok (.if_icmp .lt 15, 3) := by decide +kernel
theorem d2_26 : decode method_2_code 26 = .ok (.iload_n 0, 1) := by decide +kernel
theorem d2_27 : decode method_2_code 27 = .ok (.bipush 13, 2) := by decide +kernel
theorem d2_29 : decode method_2_code 29 = .ok (.if_icmp .gt 9, 3) := by decide +kernel
theorem d2_32 : decode method_2_code 32 = .ok (.bipush 32, 2) := by decide +kernel
theorem d2_34 : decode method_2_code 34 = .ok (.istore_n 1, 1) := by decide +kernel
theorem d2_35 : decode method_2_code 35 = .ok (.goto 5, 3) := by decide +kernel
theorem d2_38 : decode method_2_code 38 = .ok (.iload_n 0, 1) := by decide +kernel
theorem d2_39 : decode method_2_code 39 = .ok (.istore_n 1, 1) := by decide +kernel
theorem d2_40 : decode method_2_code 40 = .ok (.iload_n 1, 1) := by decide +kernel
theorem d2_41 : decode method_2_code 41 = .ok (.ireturn, 1) := by decide +kernel
theorem pn_2 : plainName "com/example/indentic/indentic/reading/FilingFoldPinLaw" = true := by first | (simp [plainName, overriddenIn]; done) | decide +kernel
theorem ef_2 (m : MethodId) (x0 : Int32) : entryFrame m #[(.int x0)] 2 = mkF m 0 #[.val (.int x0), .unset] [] := by first | (simp [entryFrame, mkF, argsToLocals, Value.category]; done) | rfl
def Q_2 (Z : State) (p1 : Int32) (h0 : Heap) (n0 : Nat) (v : Option Value) (h : Heap) (L : List Loc) : Prop := v = some (.int (own_exp p1)) ∧ Fr n0 L ∧ h = h0
set_option maxRecDepth 65536 in
set_option maxHeartbeats 40000000 in
theorem rm_2 (l : Launch) (Z : State) (a0 : Array Value) (hw : ∀ d ∈ tables_1, d.before a0 Z = true) (ws : List Jvm.Cond) (p1 : Int32) (h0 : Heap) (n0 : Nat) (Z0 : n0 ≤ h0.size) :
    MetFree l (⟨"com/example/indentic/indentic/reading/FilingFoldPinLaw", "expected", "(I)I"⟩ : MethodName) (head1 (Jvm.Cond.code (⟨"com/example/indentic/indentic/reading/FilingFoldPinLaw", "expected", "(I)I"⟩ : MethodName) method_2_code 2 (some .int) :: ws) ({ frames := 0, cells := 0, slots := 0, locals := 0 } : Room)) (fun a U => a = #[(.int p1)] ∧ Z.Warmed39 U.vm ∧ U.heap = h0) (fun _ _ _ _ _ => True) (fun _ U o U' => ∃ v L, o = .returned v ∧ Q_2 Z p1 h0 n0 v U'.heap L ∧ FrameEnd U o U' L ({ frames := 0, cells := 0, slots := 0, locals := 0 } : Room).cells ({ frames := 0, cells := 0, slots := 0, locals := 0 } : Room).slots) := by
  refine MetFree.of_bodySF (plainFor_of_name pn_2) hisR ?_
  intro p e s m args below meth cod_ s₁ Bd hml0 hP hK
  obtain ⟨rfl, hZ, hh⟩ := hP
  have hx := Bd.exec
  have hby := Bd.bytes
  have hml : cod_.maxLocals = 2 := hml0
  have hown : s.vm.findClass "com/example/indentic/indentic/reading/FilingFoldPinLaw" = some m.cls := findClass_of_methodNamed Bd.named
  have hnm := (name_of_methodNamed Bd.named Bd.method).1
  have X0 : Stand p l e ({ frames := 0, cells := 0, slots := 0, locals := 0 } : Room) s m #[(.int p1)] below meth cod_ s₁ [] 0 0 := Stand.of_body Bd
  have e0 : s₁.heap = h0 := by rw [← hh, Bd.state]; rfl
  have N0 := Fr.nil n0
  have pre0 : ∀ t, Steps p.tables e below (s₁.setTop (mkF m 0 #[.val (.int p1), .unset] [])) t → Steps p.tables e below (s₁.setTop (entryFrame m #[(.int p1)] 2)) t := fun t k => castTop (ef_2 m p1) k
  by_cases hc3 : p1 < (65 : Int32)
  · by_cases hc23 : p1 < (9 : Int32)
    · obtain ⟨fs, hr, hrun, hended, hW, hsame⟩ := X0.leave (v := some (.int p1)) (fun h => by rw [Bd.returns] at h; cases h)
      refine ⟨_, _, pre0 _ ?_, hrun, hended, _, _, rfl, ?_, ⟨_, rfl⟩, hW, hsame.mono (by decide) (by decide)⟩
      · show Steps p.tables e below (s₁.setTop (mkF m 0 #[.val (.int p1), .unset] [])) _
        refine XS.iloadN X0.here hx rfl (hb hby d2_0) rfl ?_
        show Steps p.tables e below (s₁.setTop (mkF m 1 #[.val (.int p1), .unset] [(.int p1)])) _
        refine XS.bipush X0.here hx rfl (hb hby d2_1) ?_
        show Steps p.tables e below (s₁.setTop (mkF m 3 #[.val (.int p1), .unset] [(.int (65 : Int32)), (.int p1)])) _
        refine XS.icmpYes X0.here hx rfl (pc0 := 3) (pc' := 20) rfl (hb hby d2_3) rfl (tlt hc3).1 (by decide) (by decide) ?_
        show Steps p.tables e below (s₁.setTop (mkF m 20 #[.val (.int p1), .unset] [])) _
        refine XS.iloadN X0.here hx rfl (hb hby d2_20) rfl ?_
        show Steps p.tables e below (s₁.setTop (mkF m 21 #[.val (.int p1), .unset] [(.int p1)])) _
        refine XS.bipush X0.here hx rfl (hb hby d2_21) ?_
        show Steps p.tables e below (s₁.setTop (mkF m 23 #[.val (.int p1), .unset] [(.int (9 : Int32)), (.int p1)])) _
        refine XS.icmpYes X0.here hx rfl (pc0 := 23) (pc' := 38) rfl (hb hby d2_23) rfl (tlt hc23).1 (by decide) (by decide) ?_
        show Steps p.tables e below (s₁.setTop (mkF m 38 #[.val (.int p1), .unset] [])) _
        refine XS.iloadN X0.here hx rfl (hb hby d2_38) rfl ?_
        show Steps p.tables e below (s₁.setTop (mkF m 39 #[.val (.int p1), .unset] [(.int p1)])) _
        refine XS.istoreN X0.here hx rfl (hb hby d2_39) rfl (l' := #[.val (.int p1), .val (.int p1)]) rfl ?_
        show Steps p.tables e below (s₁.setTop (mkF m 40 #[.val (.int p1), .val (.int p1)] [])) _
        refine XS.iloadN X0.here hx rfl (hb hby d2_40) rfl ?_
        show Steps p.tables e below (s₁.setTop (mkF m 41 #[.val (.int p1), .val (.int p1)] [(.int p1)])) _
        exact retI X0 hx Bd.returns (hb hby d2_41) hr
      · show Q_2 Z p1 h0 n0 _ s₁.heap _
        rw [e0]
        exact ⟨by rw [show own_exp p1 = p1 from by simp [own_exp, own_exp2, hc3, hc23]], N0, rfl⟩
    · by_cases hc29 : (13 : Int32) < p1
      · obtain ⟨fs, hr, hrun, hended, hW, hsame⟩ := X0.leave (v := some (.int p1)) (fun h => by rw [Bd.returns] at h; cases h)
        refine ⟨_, _, pre0 _ ?_, hrun, hended, _, _, rfl, ?_, ⟨_, rfl⟩, hW, hsame.mono (by decide) (by decide)⟩
        · show Steps p.tables e below (s₁.setTop (mkF m 0 #[.val (.int p1), .unset] [])) _
          refine XS.iloadN X0.here hx rfl (hb hby d2_0) rfl ?_
          show Steps p.tables e below (s₁.setTop (mkF m 1 #[.val (.int p1), .unset] [(.int p1)])) _
          refine XS.bipush X0.here hx rfl (hb hby d2_1) ?_
          show Steps p.tables e below (s₁.setTop (mkF m 3 #[.val (.int p1), .unset] [(.int (65 : Int32)), (.int p1)])) _
          refine XS.icmpYes X0.here hx rfl (pc0 := 3) (pc' := 20) rfl (hb hby d2_3) rfl (tlt hc3).1 (by decide) (by decide) ?_
          show Steps p.tables e below (s₁.setTop (mkF m 20 #[.val (.int p1), .unset] [])) _
          refine XS.iloadN X0.here hx rfl (hb hby d2_20) rfl ?_
          show Steps p.tables e below (s₁.setTop (mkF m 21 #[.val (.int p1), .unset] [(.int p1)])) _
          refine XS.bipush X0.here hx rfl (hb hby d2_21) ?_
          show Steps p.tables e below (s₁.setTop (mkF m 23 #[.val (.int p1), .unset] [(.int (9 : Int32)), (.int p1)])) _
          refine XS.icmpNo X0.here hx rfl (hb hby d2_23) rfl (flt hc23).1 ?_
          show Steps p.tables e below (s₁.setTop (mkF m 26 #[.val (.int p1), .unset] [])) _
          refine XS.iloadN X0.here hx rfl (hb hby d2_26) rfl ?_
          show Steps p.tables e below (s₁.setTop (mkF m 27 #[.val (.int p1), .unset] [(.int p1)])) _
          refine XS.bipush X0.here hx rfl (hb hby d2_27) ?_
          show Steps p.tables e below (s₁.setTop (mkF m 29 #[.val (.int p1), .unset] [(.int (13 : Int32)), (.int p1)])) _
          refine XS.icmpYes X0.here hx rfl (pc0 := 29) (pc' := 38) rfl (hb hby d2_29) rfl (tlt hc29).2.2.1 (by decide) (by decide) ?_
          show Steps p.tables e below (s₁.setTop (mkF m 38 #[.val (.int p1), .unset] [])) _
          refine XS.iloadN X0.here hx rfl (hb hby d2_38) rfl ?_
          show Steps p.tables e below (s₁.setTop (mkF m 39 #[.val (.int p1), .unset] [(.int p1)])) _
          refine XS.istoreN X0.here hx rfl (hb hby d2_39) rfl (l' := #[.val (.int p1), .val (.int p1)]) rfl ?_
          show Steps p.tables e below (s₁.setTop (mkF m 40 #[.val (.int p1), .val (.int p1)] [])) _
          refine XS.iloadN X0.here hx rfl (hb hby d2_40) rfl ?_
          show Steps p.tables e below (s₁.setTop (mkF m 41 #[.val (.int p1), .val (.int p1)] [(.int p1)])) _
          exact retI X0 hx Bd.returns (hb hby d2_41) hr
        · show Q_2 Z p1 h0 n0 _ s₁.heap _
          rw [e0]
          exact ⟨by rw [show own_exp p1 = p1 from by simp [own_exp, own_exp2, hc3, hc23, hc29]], N0, rfl⟩
      · obtain ⟨fs, hr, hrun, hended, hW, hsame⟩ := X0.leave (v := some (.int (32 : Int32))) (fun h => by rw [Bd.returns] at h; cases h)
        refine ⟨_, _, pre0 _ ?_, hrun, hended, _, _, rfl, ?_, ⟨_, rfl⟩, hW, hsame.mono (by decide) (by decide)⟩
        · show Steps p.tables e below (s₁.setTop (mkF m 0 #[.val (.int p1), .unset] [])) _
          refine XS.iloadN X0.here hx rfl (hb hby d2_0) rfl ?_
          show Steps p.tables e below (s₁.setTop (mkF m 1 #[.val (.int p1), .unset] [(.int p1)])) _
          refine XS.bipush X0.here hx rfl (hb hby d2_1) ?_
          show Steps p.tables e below (s₁.setTop (mkF m 3 #[.val (.int p1), .unset] [(.int (65 : Int32)), (.int p1)])) _
          refine XS.icmpYes X0.here hx rfl (pc0 := 3) (pc' := 20) rfl (hb hby d2_3) rfl (tlt hc3).1 (by decide) (by decide) ?_
          show Steps p.tables e below (s₁.setTop (mkF m 20 #[.val (.int p1), .unset] [])) _
          refine XS.iloadN X0.here hx rfl (hb hby d2_20) rfl ?_
          show Steps p.tables e below (s₁.setTop (mkF m 21 #[.val (.int p1), .unset] [(.int p1)])) _
          refine XS.bipush X0.here hx rfl (hb hby d2_21) ?_
          show Steps p.tables e below (s₁.setTop (mkF m 23 #[.val (.int p1), .unset] [(.int (9 : Int32)), (.int p1)])) _
          refine XS.icmpNo X0.here hx rfl (hb hby d2_23) rfl (flt hc23).1 ?_
          show Steps p.tables e below (s₁.setTop (mkF m 26 #[.val (.int p1), .unset] [])) _
          refine XS.iloadN X0.here hx rfl (hb hby d2_26) rfl ?_
          show Steps p.tables e below (s₁.setTop (mkF m 27 #[.val (.int p1), .unset] [(.int p1)])) _
          refine XS.bipush X0.here hx rfl (hb hby d2_27) ?_
          show Steps p.tables e below (s₁.setTop (mkF m 29 #[.val (.int p1), .unset] [(.int (13 : Int32)), (.int p1)])) _
          refine XS.icmpNo X0.here hx rfl (hb hby d2_29) rfl (flt hc29).2.2.1 ?_
          show Steps p.tables e below (s₁.setTop (mkF m 32 #[.val (.int p1), .unset] [])) _
          refine XS.bipush X0.here hx rfl (hb hby d2_32) ?_
          show Steps p.tables e below (s₁.setTop (mkF m 34 #[.val (.int p1), .unset] [(.int (32 : Int32))])) _
          refine XS.istoreN X0.here hx rfl (hb hby d2_34) rfl (l' := #[.val (.int p1), .val (.int (32 : Int32))]) rfl ?_
          show Steps p.tables e below (s₁.setTop (mkF m 35 #[.val (.int p1), .val (.int (32 : Int32))] [])) _
          refine XS.goto X0.here hx rfl (pc0 := 35) (pc' := 40) rfl (hb hby d2_35) (by decide) (by decide) ?_
          show Steps p.tables e below (s₁.setTop (mkF m 40 #[.val (.int p1), .val (.int (32 : Int32))] [])) _
          refine XS.iloadN X0.here hx rfl (hb hby d2_40) rfl ?_
          show Steps p.tables e below (s₁.setTop (mkF m 41 #[.val (.int p1), .val (.int (32 : Int32))] [(.int (32 : Int32))])) _
          exact retI X0 hx Bd.returns (hb hby d2_41) hr
        · show Q_2 Z p1 h0 n0 _ s₁.heap _
          rw [e0]
          exact ⟨by rw [show own_exp p1 = (32 : Int32) from by simp [own_exp, own_exp2, hc3, hc23, hc29]], N0, rfl⟩
  · by_cases hc9 : (90 : Int32) < p1
    · by_cases hc23 : p1 < (9 : Int32)
      · obtain ⟨fs, hr, hrun, hended, hW, hsame⟩ := X0.leave (v := some (.int p1)) (fun h => by rw [Bd.returns] at h; cases h)
        refine ⟨_, _, pre0 _ ?_, hrun, hended, _, _, rfl, ?_, ⟨_, rfl⟩, hW, hsame.mono (by decide) (by decide)⟩
        · show Steps p.tables e below (s₁.setTop (mkF m 0 #[.val (.int p1), .unset] [])) _
          refine XS.iloadN X0.here hx rfl (hb hby d2_0) rfl ?_
          show Steps p.tables e below (s₁.setTop (mkF m 1 #[.val (.int p1), .unset] [(.int p1)])) _
          refine XS.bipush X0.here hx rfl (hb hby d2_1) ?_
          show Steps p.tables e below (s₁.setTop (mkF m 3 #[.val (.int p1), .unset] [(.int (65 : Int32)), (.int p1)])) _
          refine XS.icmpNo X0.here hx rfl (hb hby d2_3) rfl (flt hc3).1 ?_
          show Steps p.tables e below (s₁.setTop (mkF m 6 #[.val (.int p1), .unset] [])) _
          refine XS.iloadN X0.here hx rfl (hb hby d2_6) rfl ?_
          show Steps p.tables e below (s₁.setTop (mkF m 7 #[.val (.int p1), .unset] [(.int p1)])) _
          refine XS.bipush X0.here hx rfl (hb hby d2_7) ?_
          show Steps p.tables e below (s₁.setTop (mkF m 9 #[.val (.int p1), .unset] [(.int (90 : Int32)), (.int p1)])) _
          refine XS.icmpYes X0.here hx rfl (pc0 := 9) (pc' := 20) rfl (hb hby d2_9) rfl (tlt hc9).2.2.1 (by decide) (by decide) ?_
          show Steps p.tables e below (s₁.setTop (mkF m 20 #[.val (.int p1), .unset] [])) _
          refine XS.iloadN X0.here hx rfl (hb hby d2_20) rfl ?_
          show Steps p.tables e below (s₁.setTop (mkF m 21 #[.val (.int p1), .unset] [(.int p1)])) _
          refine XS.bipush X0.here hx rfl (hb hby d2_21) ?_
          show Steps p.tables e below (s₁.setTop (mkF m 23 #[.val (.int p1), .unset] [(.int (9 : Int32)), (.int p1)])) _
          refine XS.icmpYes X0.here hx rfl (pc0 := 23) (pc' := 38) rfl (hb hby d2_23) rfl (tlt hc23).1 (by decide) (by decide) ?_
          show Steps p.tables e below (s₁.setTop (mkF m 38 #[.val (.int p1), .unset] [])) _
          refine XS.iloadN X0.here hx rfl (hb hby d2_38) rfl ?_
          show Steps p.tables e below (s₁.setTop (mkF m 39 #[.val (.int p1), .unset] [(.int p1)])) _
          refine XS.istoreN X0.here hx rfl (hb hby d2_39) rfl (l' := #[.val (.int p1), .val (.int p1)]) rfl ?_
          show Steps p.tables e below (s₁.setTop (mkF m 40 #[.val (.int p1), .val (.int p1)] [])) _
          refine XS.iloadN X0.here hx rfl (hb hby d2_40) rfl ?_
          show Steps p.tables e below (s₁.setTop (mkF m 41 #[.val (.int p1), .val (.int p1)] [(.int p1)])) _
          exact retI X0 hx Bd.returns (hb hby d2_41) hr
        · show Q_2 Z p1 h0 n0 _ s₁.heap _
          rw [e0]
          exact ⟨by rw [show own_exp p1 = p1 from by simp [own_exp, own_exp2, hc3, hc9, hc23]], N0, rfl⟩
      · by_cases hc29 : (13 : Int32) < p1
        · obtain ⟨fs, hr, hrun, hended, hW, hsame⟩ := X0.leave (v := some (.int p1)) (fun h => by rw [Bd.returns] at h; cases h)
          refine ⟨_, _, pre0 _ ?_, hrun, hended, _, _, rfl, ?_, ⟨_, rfl⟩, hW, hsame.mono (by decide) (by decide)⟩
          · show Steps p.tables e below (s₁.setTop (mkF m 0 #[.val (.int p1), .unset] [])) _
            refine XS.iloadN X0.here hx rfl (hb hby d2_0) rfl ?_
            show Steps p.tables e below (s₁.setTop (mkF m 1 #[.val (.int p1), .unset] [(.int p1)])) _
            refine XS.bipush X0.here hx rfl (hb hby d2_1) ?_
            show Steps p.tables e below (s₁.setTop (mkF m 3 #[.val (.int p1), .unset] [(.int (65 : Int32)), (.int p1)])) _
            refine XS.icmpNo X0.here hx rfl (hb hby d2_3) rfl (flt hc3).1 ?_
            show Steps p.tables e below (s₁.setTop (mkF m 6 #[.val (.int p1), .unset] [])) _
            refine XS.iloadN X0.here hx rfl (hb hby d2_6) rfl ?_
            show Steps p.tables e below (s₁.setTop (mkF m 7 #[.val (.int p1), .unset] [(.int p1)])) _
            refine XS.bipush X0.here hx rfl (hb hby d2_7) ?_
            show Steps p.tables e below (s₁.setTop (mkF m 9 #[.val (.int p1), .unset] [(.int (90 : Int32)), (.int p1)])) _
            refine XS.icmpYes X0.here hx rfl (pc0 := 9) (pc' := 20) rfl (hb hby d2_9) rfl (tlt hc9).2.2.1 (by decide) (by decide) ?_
            show Steps p.tables e below (s₁.setTop (mkF m 20 #[.val (.int p1), .unset] [])) _
            refine XS.iloadN X0.here hx rfl (hb hby d2_20) rfl ?_
            show Steps p.tables e below (s₁.setTop (mkF m 21 #[.val (.int p1), .unset] [(.int p1)])) _
            refine XS.bipush X0.here hx rfl (hb hby d2_21) ?_
            show Steps p.tables e below (s₁.setTop (mkF m 23 #[.val (.int p1), .unset] [(.int (9 : Int32)), (.int p1)])) _
            refine XS.icmpNo X0.here hx rfl (hb hby d2_23) rfl (flt hc23).1 ?_
            show Steps p.tables e below (s₁.setTop (mkF m 26 #[.val (.int p1), .unset] [])) _
            refine XS.iloadN X0.here hx rfl (hb hby d2_26) rfl ?_
            show Steps p.tables e below (s₁.setTop (mkF m 27 #[.val (.int p1), .unset] [(.int p1)])) _
            refine XS.bipush X0.here hx rfl (hb hby d2_27) ?_
            show Steps p.tables e below (s₁.setTop (mkF m 29 #[.val (.int p1), .unset] [(.int (13 : Int32)), (.int p1)])) _
            refine XS.icmpYes X0.here hx rfl (pc0 := 29) (pc' := 38) rfl (hb hby d2_29) rfl (tlt hc29).2.2.1 (by decide) (by decide) ?_
            show Steps p.tables e below (s₁.setTop (mkF m 38 #[.val (.int p1), .unset] [])) _
            refine XS.iloadN X0.here hx rfl (hb hby d2_38) rfl ?_
            show Steps p.tables e below (s₁.setTop (mkF m 39 #[.val (.int p1), .unset] [(.int p1)])) _
            refine XS.istoreN X0.here hx rfl (hb hby d2_39) rfl (l' := #[.val (.int p1), .val (.int p1)]) rfl ?_
            show Steps p.tables e below (s₁.setTop (mkF m 40 #[.val (.int p1), .val (.int p1)] [])) _
            refine XS.iloadN X0.here hx rfl (hb hby d2_40) rfl ?_
            show Steps p.tables e below (s₁.setTop (mkF m 41 #[.val (.int p1), .val (.int p1)] [(.int p1)])) _
            exact retI X0 hx Bd.returns (hb hby d2_41) hr
          · show Q_2 Z p1 h0 n0 _ s₁.heap _
            rw [e0]
            exact ⟨by rw [show own_exp p1 = p1 from by simp [own_exp, own_exp2, hc3, hc9, hc23, hc29]], N0, rfl⟩
        · obtain ⟨fs, hr, hrun, hended, hW, hsame⟩ := X0.leave (v := some (.int (32 : Int32))) (fun h => by rw [Bd.returns] at h; cases h)
          refine ⟨_, _, pre0 _ ?_, hrun, hended, _, _, rfl, ?_, ⟨_, rfl⟩, hW, hsame.mono (by decide) (by decide)⟩
          · show Steps p.tables e below (s₁.setTop (mkF m 0 #[.val (.int p1), .unset] [])) _
            refine XS.iloadN X0.here hx rfl (hb hby d2_0) rfl ?_
            show Steps p.tables e below (s₁.setTop (mkF m 1 #[.val (.int p1), .unset] [(.int p1)])) _
            refine XS.bipush X0.here hx rfl (hb hby d2_1) ?_
            show Steps p.tables e below (s₁.setTop (mkF m 3 #[.val (.int p1), .unset] [(.int (65 : Int32)), (.int p1)])) _
            refine XS.icmpNo X0.here hx rfl (hb hby d2_3) rfl (flt hc3).1 ?_
            show Steps p.tables e below (s₁.setTop (mkF m 6 #[.val (.int p1), .unset] [])) _
            refine XS.iloadN X0.here hx rfl (hb hby d2_6) rfl ?_
            show Steps p.tables e below (s₁.setTop (mkF m 7 #[.val (.int p1), .unset] [(.int p1)])) _
            refine XS.bipush X0.here hx rfl (hb hby d2_7) ?_
            show Steps p.tables e below (s₁.setTop (mkF m 9 #[.val (.int p1), .unset] [(.int (90 : Int32)), (.int p1)])) _
            refine XS.icmpYes X0.here hx rfl (pc0 := 9) (pc' := 20) rfl (hb hby d2_9) rfl (tlt hc9).2.2.1 (by decide) (by decide) ?_
            show Steps p.tables e below (s₁.setTop (mkF m 20 #[.val (.int p1), .unset] [])) _
            refine XS.iloadN X0.here hx rfl (hb hby d2_20) rfl ?_
            show Steps p.tables e below (s₁.setTop (mkF m 21 #[.val (.int p1), .unset] [(.int p1)])) _
            refine XS.bipush X0.here hx rfl (hb hby d2_21) ?_
            show Steps p.tables e below (s₁.setTop (mkF m 23 #[.val (.int p1), .unset] [(.int (9 : Int32)), (.int p1)])) _
            refine XS.icmpNo X0.here hx rfl (hb hby d2_23) rfl (flt hc23).1 ?_
            show Steps p.tables e below (s₁.setTop (mkF m 26 #[.val (.int p1), .unset] [])) _
            refine XS.iloadN X0.here hx rfl (hb hby d2_26) rfl ?_
            show Steps p.tables e below (s₁.setTop (mkF m 27 #[.val (.int p1), .unset] [(.int p1)])) _
            refine XS.bipush X0.here hx rfl (hb hby d2_27) ?_
            show Steps p.tables e below (s₁.setTop (mkF m 29 #[.val (.int p1), .unset] [(.int (13 : Int32)), (.int p1)])) _
            refine XS.icmpNo X0.here hx rfl (hb hby d2_29) rfl (flt hc29).2.2.1 ?_
            show Steps p.tables e below (s₁.setTop (mkF m 32 #[.val (.int p1), .unset] [])) _
            refine XS.bipush X0.here hx rfl (hb hby d2_32) ?_
            show Steps p.tables e below (s₁.setTop (mkF m 34 #[.val (.int p1), .unset] [(.int (32 : Int32))])) _
            refine XS.istoreN X0.here hx rfl (hb hby d2_34) rfl (l' := #[.val (.int p1), .val (.int (32 : Int32))]) rfl ?_
            show Steps p.tables e below (s₁.setTop (mkF m 35 #[.val (.int p1), .val (.int (32 : Int32))] [])) _
            refine XS.goto X0.here hx rfl (pc0 := 35) (pc' := 40) rfl (hb hby d2_35) (by decide) (by decide) ?_
            show Steps p.tables e below (s₁.setTop (mkF m 40 #[.val (.int p1), .val (.int (32 : Int32))] [])) _
            refine XS.iloadN X0.here hx rfl (hb hby d2_40) rfl ?_
            show Steps p.tables e below (s₁.setTop (mkF m 41 #[.val (.int p1), .val (.int (32 : Int32))] [(.int (32 : Int32))])) _
            exact retI X0 hx Bd.returns (hb hby d2_41) hr
          · show Q_2 Z p1 h0 n0 _ s₁.heap _
            rw [e0]
            exact ⟨by rw [show own_exp p1 = (32 : Int32) from by simp [own_exp, own_exp2, hc3, hc9, hc23, hc29]], N0, rfl⟩
    · obtain ⟨fs, hr, hrun, hended, hW, hsame⟩ := X0.leave (v := some (.int (p1 ||| (32 : Int32)))) (fun h => by rw [Bd.returns] at h; cases h)
      refine ⟨_, _, pre0 _ ?_, hrun, hended, _, _, rfl, ?_, ⟨_, rfl⟩, hW, hsame.mono (by decide) (by decide)⟩
      · show Steps p.tables e below (s₁.setTop (mkF m 0 #[.val (.int p1), .unset] [])) _
        refine XS.iloadN X0.here hx rfl (hb hby d2_0) rfl ?_
        show Steps p.tables e below (s₁.setTop (mkF m 1 #[.val (.int p1), .unset] [(.int p1)])) _
        refine XS.bipush X0.here hx rfl (hb hby d2_1) ?_
        show Steps p.tables e below (s₁.setTop (mkF m 3 #[.val (.int p1), .unset] [(.int (65 : Int32)), (.int p1)])) _
        refine XS.icmpNo X0.here hx rfl (hb hby d2_3) rfl (flt hc3).1 ?_
        show Steps p.tables e below (s₁.setTop (mkF m 6 #[.val (.int p1), .unset] [])) _
        refine XS.iloadN X0.here hx rfl (hb hby d2_6) rfl ?_
        show Steps p.tables e below (s₁.setTop (mkF m 7 #[.val (.int p1), .unset] [(.int p1)])) _
        refine XS.bipush X0.here hx rfl (hb hby d2_7) ?_
        show Steps p.tables e below (s₁.setTop (mkF m 9 #[.val (.int p1), .unset] [(.int (90 : Int32)), (.int p1)])) _
        refine XS.icmpNo X0.here hx rfl (hb hby d2_9) rfl (flt hc9).2.2.1 ?_
        show Steps p.tables e below (s₁.setTop (mkF m 12 #[.val (.int p1), .unset] [])) _
        refine XS.iloadN X0.here hx rfl (hb hby d2_12) rfl ?_
        show Steps p.tables e below (s₁.setTop (mkF m 13 #[.val (.int p1), .unset] [(.int p1)])) _
        refine XS.bipush X0.here hx rfl (hb hby d2_13) ?_
        show Steps p.tables e below (s₁.setTop (mkF m 15 #[.val (.int p1), .unset] [(.int (32 : Int32)), (.int p1)])) _
        refine XS.ior X0.here hx rfl (hb hby d2_15) rfl ?_
        show Steps p.tables e below (s₁.setTop (mkF m 16 #[.val (.int p1), .unset] [(.int (p1 ||| (32 : Int32)))])) _
        refine XS.istoreN X0.here hx rfl (hb hby d2_16) rfl (l' := #[.val (.int p1), .val (.int (p1 ||| (32 : Int32)))]) rfl ?_
        show Steps p.tables e below (s₁.setTop (mkF m 17 #[.val (.int p1), .val (.int (p1 ||| (32 : Int32)))] [])) _
        refine XS.goto X0.here hx rfl (pc0 := 17) (pc' := 40) rfl (hb hby d2_17) (by decide) (by decide) ?_
        show Steps p.tables e below (s₁.setTop (mkF m 40 #[.val (.int p1), .val (.int (p1 ||| (32 : Int32)))] [])) _
        refine XS.iloadN X0.here hx rfl (hb hby d2_40) rfl ?_
        show Steps p.tables e below (s₁.setTop (mkF m 41 #[.val (.int p1), .val (.int (p1 ||| (32 : Int32)))] [(.int (p1 ||| (32 : Int32)))])) _
        exact retI X0 hx Bd.returns (hb hby d2_41) hr
      · show Q_2 Z p1 h0 n0 _ s₁.heap _
        rw [e0]
        exact ⟨by rw [show own_exp p1 = (p1 ||| (32 : Int32)) from by simp [own_exp, own_exp2, hc3, hc9]], N0, rfl⟩
theorem pd__28C_29C : parseMethodDescriptor "(C)C" = some ⟨[.char], some .char⟩ := by decide +kernel
theorem pd__28I_29I : parseMethodDescriptor "(I)I" = some ⟨[.int], some .int⟩ := by decide +kernel
theorem pn_0 : plainName "com/example/indentic/indentic/reading/FilingFoldPinLaw" = true := by first | (simp [plainName, overriddenIn]; done) | decide +kernel
theorem ef_0 (m : MethodId) (x0 : Int32) : entryFrame m #[(.int x0)] maxLocals = mkF m 0 #[.val (.int x0), .unset, .unset, .unset] [] := by first | (simp [entryFrame, mkF, argsToLocals, Value.category, maxLocals]; done) | rfl
def Q_0 (Z : State) (p1 : Int32) (h0 : Heap) (n0 : Nat) (v : Option Value) (h : Heap) (L : List Loc) : Prop := v = some (.int 1) ∧ Fr n0 L
set_option maxRecDepth 65536 in
set_option maxHeartbeats 40000000 in
theorem rm_0 (l : Launch) (Z : State) (a0 : Array Value) (hw : ∀ d ∈ tables_1, d.before a0 Z = true) (ws : List Jvm.Cond) (p1 : Int32) (h0 : Heap) (n0 : Nat) (Z0 : n0 ≤ h0.size) :
    MetFree l x (head1 (Jvm.Cond.code x code maxLocals ret :: ws) room_1) (fun a U => a = #[(.int p1)] ∧ Z.Warmed39 U.vm ∧ U.heap = h0) (fun _ _ _ _ _ => True) (fun _ U o U' => ∃ v L, o = .returned v ∧ Q_0 Z p1 h0 n0 v U'.heap L ∧ FrameEnd U o U' L room_1.cells room_1.slots) := by
  refine MetFree.of_bodySF (plainFor_of_name pn_0) hisR ?_
  intro p e s m args below meth cod_ s₁ Bd hml0 hP hK
  obtain ⟨rfl, hZ, hh⟩ := hP
  have hx := Bd.exec
  have hby := Bd.bytes
  have hml : cod_.maxLocals = 4 := hml0
  have hown : s.vm.findClass "com/example/indentic/indentic/reading/FilingFoldPinLaw" = some m.cls := findClass_of_methodNamed Bd.named
  have hnm := (name_of_methodNamed Bd.named Bd.method).1
  have X0 : Stand p l e room_1 s m #[(.int p1)] below meth cod_ s₁ [] 0 0 := Stand.of_body Bd
  have e0 : s₁.heap = h0 := by rw [← hh, Bd.state]; rfl
  have N0 := Fr.nil n0
  have pre0 : ∀ t, Steps p.tables e below (s₁.setTop (mkF m 0 #[.val (.int p1), .unset, .unset, .unset] [])) t → Steps p.tables e below (s₁.setTop (entryFrame m #[(.int p1)] maxLocals)) t := fun t k => castTop (ef_0 m p1) k
  obtain ⟨_, _, ⟨T1, L1, c1_, n1_⟩, -, X1, ⟨Lc1, hQ1, l1, y1, z1⟩, st1⟩ := Jvm.LawKit.callS X0 hx (y := (⟨"com/example/indentic/indentic/reading/Filing", "fold", "(C)C"⟩ : MethodName)) hown (mvT hZ (hw _ (List.mem_of_getElem? (i := 1) rfl))) (mvT hZ (hw _ (List.mem_of_getElem? (i := 2) rfl))) (mvT hZ (hw _ (List.mem_of_getElem? (i := 3) rfl))) (mvT hZ (hw _ (List.mem_of_getElem? (i := 4) rfl))) (by decide) (backOf (W := 0) (rm_1 l Z a0 hw [] ((p1 &&& (65535 : Int32)).toUInt32.toUInt16.toUInt32.toInt32) h0 n0 (Nat.le_trans Z0 (Keep.refl h0 []).1) ) hZ (hw _ (List.mem_of_getElem? (i := 4) rfl)) (hw _ (List.mem_of_getElem? (i := 3) rfl)) (by decide) (by decide)) (g := (mkF m 9 #[.val (.int p1), .val (.int (p1 &&& (65535 : Int32))), .val (.int ((p1 &&& (65535 : Int32)).toUInt32.toUInt16.toUInt32.toInt32)), .unset] [(.int ((p1 &&& (65535 : Int32)).toUInt32.toUInt16.toUInt32.toInt32))])) rfl (by rw [hml]; rfl) (argsL := [(.int ((p1 &&& (65535 : Int32)).toUInt32.toUInt16.toUInt32.toInt32))]) (rest := []) (lenOf pd__28C_29C rfl) rfl (by show 2 * 0 + _ ≤ _; exact Nat.le_of_eq rfl) (hb hby at_9) (fun _ _ => ⟨rfl, e0, (by decide : 0 + 0 ≤ _), (by decide : 0 + 0 ≤ _)⟩)
  dsimp only [Pt.U, Pt.locs, Pt.cells, Pt.slots] at X1 l1 y1 z1 st1 hQ1
  subst l1 y1 z1
  obtain ⟨rfl, Nq1, e1⟩ := hQ1
  have N1 := Fr.app N0 Nq1
  obtain ⟨_, _, ⟨T2, L2, c2_, n2_⟩, -, X2, ⟨Lc2, hQ2, l2, y2, z2⟩, st2⟩ := Jvm.LawKit.callS X1 hx (y := (⟨"com/example/indentic/indentic/reading/FilingFoldPinLaw", "expected", "(I)I"⟩ : MethodName)) hown (mvT hZ (hw _ (List.mem_of_getElem? (i := 5) rfl))) (mvT hZ (hw _ (List.mem_of_getElem? (i := 6) rfl))) (mvT hZ (hw _ (List.mem_of_getElem? (i := 7) rfl))) (mvT hZ (hw _ (List.mem_of_getElem? (i := 8) rfl))) (by decide) (backOf (W := 1) (rm_2 l Z a0 hw [] (p1 &&& (65535 : Int32)) h0 n0 (Nat.le_trans Z0 (Keep.refl h0 []).1) ) hZ (hw _ (List.mem_of_getElem? (i := 8) rfl)) (hw _ (List.mem_of_getElem? (i := 7) rfl)) (by decide) (by decide)) (g := (mkF m 15 #[.val (.int p1), .val (.int (p1 &&& (65535 : Int32))), .val (.int ((p1 &&& (65535 : Int32)).toUInt32.toUInt16.toUInt32.toInt32)), .val (.int (nar .char (own_fold ((p1 &&& (65535 : Int32)).toUInt32.toUInt16.toUInt32.toInt32))))] [(.int (p1 &&& (65535 : Int32))), (.int (nar .char (own_fold ((p1 &&& (65535 : Int32)).toUInt32.toUInt16.toUInt32.toInt32))))])) rfl (by rw [hml]; rfl) (argsL := [(.int (p1 &&& (65535 : Int32)))]) (rest := [(.int (nar .char (own_fold ((p1 &&& (65535 : Int32)).toUInt32.toUInt16.toUInt32.toInt32))))]) (lenOf pd__28I_29I rfl) rfl (by show 2 * 0 + _ ≤ _; exact Nat.le_of_eq rfl) (hb hby at_15) (fun _ _ => ⟨rfl, e1, (by decide : 0 + 0 ≤ _), (by decide : 0 + 0 ≤ _)⟩)
  dsimp only [Pt.U, Pt.locs, Pt.cells, Pt.slots] at X2 l2 y2 z2 st2 hQ2
  subst l2 y2 z2
  obtain ⟨rfl, Nq2, e2⟩ := hQ2
  have N2 := Fr.app N1 Nq2
  have hc18 : (nar .char (own_fold ((p1 &&& (65535 : Int32)).toUInt32.toUInt16.toUInt32.toInt32))) = (own_exp (p1 &&& (65535 : Int32))) := own_law p1
  obtain ⟨fs, hr, hrun, hended, hW, hsame⟩ := X2.leave (v := some (.int (1 : Int32))) (fun h => by rw [Bd.returns] at h; cases h)
  refine ⟨_, _, pre0 _ ?_, hrun, hended, _, _, rfl, ?_, ⟨_, rfl⟩, hW, hsame.mono (by decide) (by decide)⟩
  · show Steps p.tables e below (s₁.setTop (mkF m 0 #[.val (.int p1), .unset, .unset, .unset] [])) _
    refine XS.iloadN X0.here hx rfl (hb hby at_0) rfl ?_
    show Steps p.tables e below (s₁.setTop (mkF m 1 #[.val (.int p1), .unset, .unset, .unset] [(.int p1)])) _
    refine X0.ldcInt hx hown (mvT hZ (hw _ (List.mem_of_getElem? (i := 0) rfl))) (g := (mkF m 1 #[.val (.int p1), .unset, .unset, .unset] [(.int p1)])) rfl (hb hby at_1) _ ?_
    show Steps p.tables e below (s₁.setTop (mkF m 3 #[.val (.int p1), .unset, .unset, .unset] [(.int (65535 : Int32)), (.int p1)])) _
    refine XS.iand X0.here hx rfl (hb hby at_3) rfl ?_
    show Steps p.tables e below (s₁.setTop (mkF m 4 #[.val (.int p1), .unset, .unset, .unset] [(.int (p1 &&& (65535 : Int32)))])) _
    refine XS.istoreN X0.here hx rfl (hb hby at_4) rfl (l' := #[.val (.int p1), .val (.int (p1 &&& (65535 : Int32))), .unset, .unset]) rfl ?_
    show Steps p.tables e below (s₁.setTop (mkF m 5 #[.val (.int p1), .val (.int (p1 &&& (65535 : Int32))), .unset, .unset] [])) _
    refine XS.iloadN X0.here hx rfl (hb hby at_5) rfl ?_
    show Steps p.tables e below (s₁.setTop (mkF m 6 #[.val (.int p1), .val (.int (p1 &&& (65535 : Int32))), .unset, .unset] [(.int (p1 &&& (65535 : Int32)))])) _
    refine XS.i2c X0.here hx rfl (hb hby at_6) rfl ?_
    show Steps p.tables e below (s₁.setTop (mkF m 7 #[.val (.int p1), .val (.int (p1 &&& (65535 : Int32))), .unset, .unset] [(.int ((p1 &&& (65535 : Int32)).toUInt32.toUInt16.toUInt32.toInt32))])) _
    refine XS.istoreN X0.here hx rfl (hb hby at_7) rfl (l' := #[.val (.int p1), .val (.int (p1 &&& (65535 : Int32))), .val (.int ((p1 &&& (65535 : Int32)).toUInt32.toUInt16.toUInt32.toInt32)), .unset]) rfl ?_
    show Steps p.tables e below (s₁.setTop (mkF m 8 #[.val (.int p1), .val (.int (p1 &&& (65535 : Int32))), .val (.int ((p1 &&& (65535 : Int32)).toUInt32.toUInt16.toUInt32.toInt32)), .unset] [])) _
    refine XS.iloadN X0.here hx rfl (hb hby at_8) rfl ?_
    show Steps p.tables e below (s₁.setTop (mkF m 9 #[.val (.int p1), .val (.int (p1 &&& (65535 : Int32))), .val (.int ((p1 &&& (65535 : Int32)).toUInt32.toUInt16.toUInt32.toInt32)), .unset] [(.int ((p1 &&& (65535 : Int32)).toUInt32.toUInt16.toUInt32.toInt32))])) _
    refine st1 _ ?_
    show Steps p.tables e below (T1.setTop (mkF m 12 #[.val (.int p1), .val (.int (p1 &&& (65535 : Int32))), .val (.int ((p1 &&& (65535 : Int32)).toUInt32.toUInt16.toUInt32.toInt32)), .unset] [(.int (nar .char (own_fold ((p1 &&& (65535 : Int32)).toUInt32.toUInt16.toUInt32.toInt32))))])) _
    refine XS.istoreN X1.here hx rfl (hb hby at_12) rfl (l' := #[.val (.int p1), .val (.int (p1 &&& (65535 : Int32))), .val (.int ((p1 &&& (65535 : Int32)).toUInt32.toUInt16.toUInt32.toInt32)), .val (.int (nar .char (own_fold ((p1 &&& (65535 : Int32)).toUInt32.toUInt16.toUInt32.toInt32))))]) rfl ?_
    show Steps p.tables e below (T1.setTop (mkF m 13 #[.val (.int p1), .val (.int (p1 &&& (65535 : Int32))), .val (.int ((p1 &&& (65535 : Int32)).toUInt32.toUInt16.toUInt32.toInt32)), .val (.int (nar .char (own_fold ((p1 &&& (65535 : Int32)).toUInt32.toUInt16.toUInt32.toInt32))))] [])) _
    refine XS.iloadN X1.here hx rfl (hb hby at_13) rfl ?_
    show Steps p.tables e below (T1.setTop (mkF m 14 #[.val (.int p1), .val (.int (p1 &&& (65535 : Int32))), .val (.int ((p1 &&& (65535 : Int32)).toUInt32.toUInt16.toUInt32.toInt32)), .val (.int (nar .char (own_fold ((p1 &&& (65535 : Int32)).toUInt32.toUInt16.toUInt32.toInt32))))] [(.int (nar .char (own_fold ((p1 &&& (65535 : Int32)).toUInt32.toUInt16.toUInt32.toInt32))))])) _
    refine XS.iloadN X1.here hx rfl (hb hby at_14) rfl ?_
    show Steps p.tables e below (T1.setTop (mkF m 15 #[.val (.int p1), .val (.int (p1 &&& (65535 : Int32))), .val (.int ((p1 &&& (65535 : Int32)).toUInt32.toUInt16.toUInt32.toInt32)), .val (.int (nar .char (own_fold ((p1 &&& (65535 : Int32)).toUInt32.toUInt16.toUInt32.toInt32))))] [(.int (p1 &&& (65535 : Int32))), (.int (nar .char (own_fold ((p1 &&& (65535 : Int32)).toUInt32.toUInt16.toUInt32.toInt32))))])) _
    refine st2 _ ?_
    show Steps p.tables e below (T2.setTop (mkF m 18 #[.val (.int p1), .val (.int (p1 &&& (65535 : Int32))), .val (.int ((p1 &&& (65535 : Int32)).toUInt32.toUInt16.toUInt32.toInt32)), .val (.int (nar .char (own_fold ((p1 &&& (65535 : Int32)).toUInt32.toUInt16.toUInt32.toInt32))))] [(.int (own_exp (p1 &&& (65535 : Int32)))), (.int (nar .char (own_fold ((p1 &&& (65535 : Int32)).toUInt32.toUInt16.toUInt32.toInt32))))])) _
    refine XS.icmpNo X2.here hx rfl (hb hby at_18) rfl (teq hc18).2 ?_
    show Steps p.tables e below (T2.setTop (mkF m 21 #[.val (.int p1), .val (.int (p1 &&& (65535 : Int32))), .val (.int ((p1 &&& (65535 : Int32)).toUInt32.toUInt16.toUInt32.toInt32)), .val (.int (nar .char (own_fold ((p1 &&& (65535 : Int32)).toUInt32.toUInt16.toUInt32.toInt32))))] [])) _
    refine XS.iconst X2.here hx rfl (hb hby at_21) ?_
    show Steps p.tables e below (T2.setTop (mkF m 22 #[.val (.int p1), .val (.int (p1 &&& (65535 : Int32))), .val (.int ((p1 &&& (65535 : Int32)).toUInt32.toUInt16.toUInt32.toInt32)), .val (.int (nar .char (own_fold ((p1 &&& (65535 : Int32)).toUInt32.toUInt16.toUInt32.toInt32))))] [(.int (1 : Int32))])) _
    refine XS.goto X2.here hx rfl (pc0 := 22) (pc' := 26) rfl (hb hby at_22) (by decide) (by decide) ?_
    show Steps p.tables e below (T2.setTop (mkF m 26 #[.val (.int p1), .val (.int (p1 &&& (65535 : Int32))), .val (.int ((p1 &&& (65535 : Int32)).toUInt32.toUInt16.toUInt32.toInt32)), .val (.int (nar .char (own_fold ((p1 &&& (65535 : Int32)).toUInt32.toUInt16.toUInt32.toInt32))))] [(.int (1 : Int32))])) _
    exact retN X2 hx (t := .boolean) Bd.returns (by simp) (hb hby at_26) hr
  · show Q_0 Z p1 h0 n0 _ T2.heap _
    rw [e2]
    exact ⟨rfl, N2⟩
set_option maxRecDepth 65536 in
set_option maxHeartbeats 40000000 in
theorem comes_1 {Post : Tables → Env → Array Value → State → Outcome → State → Prop} (hpost : ∀ tb e args s v u, (limb_1_1.after args s (.returned v) u = true ∧ limb_1_2.after args s (.returned v) u = true ∧ True) → FrameEnd s (.returned v) u (Jvm.fieldLocs frame_1_writes args s ++ Jvm.arrayLocs frame_1_arrays args s ++ Jvm.staticLocs frame_1_statics s) 0 0 → Post tb e args s (.returned v) u) :
    ArmFor flags0 classFile x code maxLocals ret World_1 tables_1 room_1 Calls_1 rest_1 Pre_1 Post := by
  intro l hfl _ _ p e ha hc hk s m args below hf hA hF happ hP
  obtain ⟨hcalls, hrest, hpre⟩ := hP
  obtain ⟨-, -, -, hnamed, -, -, -, hat⟩ := (Spec.applies_iff hf).mp happ
  obtain ⟨hg, hn⟩ := and_e (Cond.before_iff.mp (show (Jvm.Cond.and given_1 narrow_1).before args s = true from hpre))
  obtain ⟨g3, g4⟩ := and_e hg
  obtain ⟨w0, rfl⟩ : ∃ w0 : Value, args = #[w0] := by
    have hs : args.size = 1 := by simpa [Cond.value, given_1] using g3
    obtain ⟨L⟩ := args
    match L, hs with
    | [w0], _ => exact ⟨w0, rfl⟩
  have hw := fun d (hd : d ∈ tables_1) => atoms_spec (ws := Jvm.Cond.code x code maxLocals ret :: tables_1) hat d (List.mem_cons_of_mem _ hd)
  have hfit : Fit s := fun {y c} hc i hi => by
    obtain ⟨ha, rfl⟩ := Array.getElem?_eq_some_iff.mp hc
    have q := List.all_eq_true.mp ((Array.all_eq_true_iff_forall_mem.mp hF) _ (Array.getElem_mem ha)) i (List.mem_range.mpr hi)
    simpa [Array.getElem?_eq_getElem hi] using q
  obtain ⟨i0, ei0⟩ := is_v g4
  obtain rfl : w0 = (.int i0) := Option.some.inj ei0
  obtain ⟨n, o, h1, h2, h3, _, L, rfl, ⟨rfl, N⟩, hq⟩ := rm_0 l s _ hw tables_1 i0 s.heap s.heap.size (Nat.le_refl _)  p e ha hc hk s m _ below hf ((Spec.applies_iff_loose hf).mp happ).1 ⟨rfl, State.Warmed39.refl s, rfl⟩ trivial
  refine ⟨n, _, h1, h2, h3, hpost _ _ _ _ _ _ ⟨Cond.after_iff.mpr rfl, Cond.after_iff.mpr (eq_i res_at (Term.int_eval (1)) rfl), trivial⟩ ⟨hq.1, hq.2.1, (hq.2.2.sift fun y hy => Or.inr (N y hy)).mono (by decide) (by decide)⟩⟩
theorem main_1_1 : Claimed_1_1 := comes_1 fun _ _ _ _ _ _ h hF => ⟨h.1, hF⟩
theorem main_1_2 : Claimed_1_2 := comes_1 fun _ _ _ _ _ _ h hF => ⟨h.2.1, hF⟩
end Jvm.Pilot.@@N@@
namespace Jvm.Pilot.@@N@@
open Jvm Jvm.ClassFile Sem Op Lib Jvm.Free Jvm.Stand Jvm.Pilot.@@N@@.Jvm.D
/-! MADE BY PROGRAM (witnessworld.py) out of the Statement's table words and the real class files: 9 classes; the members and pool entries that the words name. The judged class is class 1, her method 2. -/
namespace start1
open Jvm.ClassFile
def u (s : String) : CpInfo := .utf8 (stringToUtf16 s)
/-- a pool by its gaps: so many unusable entries, then the entry; so many at the end -/
def gap : Nat → List CpInfo → List CpInfo
  | 0, r => r
  | n + 1, r => .unusable :: gap n r
def poolList (es : List (Nat × CpInfo)) (last : Nat) : List CpInfo := es.foldr (fun e r => gap e.1 (e.2 :: r)) (gap last [])
def pool (es : List (Nat × CpInfo)) (last : Nat) : Array CpInfo := ⟨poolList es last⟩
def fileOf (pool : Array CpInfo) (this : Nat) (attrs : Array Attribute := #[]) (ms : Array MethodInfo := #[]) (fl : Nat := 33) (sup : Nat := 0) (ifs : Array Nat := #[]) (fds : Array FieldInfo := #[]) : ClassFile where
  minorVersion := 0
  majorVersion := 65
  constantPool := pool
  accessFlags := fl
  thisClass := this
  superClass := sup
  interfaces := ifs
  fields := fds
  methods := ms
  attributes := attrs
def plain (name : String) (sup : Option ClassId) : Class where
  name := name
  kind := .ordinary
  loader := none
  accessFlags := 33
  super := sup
  interfaces := #[]
  cf := none
  fields := #[]
  methods := #[]
  instanceTypes := #[]
  staticTypes := #[]
  resolved := #[]
  callSites := []
  init := .initialized
  statics := none
  mirror := none

def pool0 : Array CpInfo := pool [(5, u "<init>"), (0, u "()V"), (1, .class_ 10), (1, u "java/lang/Object")] 113

def k0m0 : Method := { name := "<init>", desc := "()V", sig := { parameters := [], returnType := none }, accessFlags := 1, code := none }
/-- java/lang/Object -/
def k0 : Class := { plain "java/lang/Object" none with
  accessFlags := 33
  interfaces := #[]
  cf := some (fileOf pool0 8 #[] #[{ accessFlags := 1, nameIndex := 5, descriptorIndex := 6, attributes := #[] }] 33 0 #[] #[])
  fields := #[]
  methods := #[k0m0]
  instanceTypes := #[]
  staticTypes := #[]
  resolved := Array.replicate 124 none
  statics := none }

def pool1 : Array CpInfo := pool [(2, .class_ 4), (1, u "java/lang/Object"), (0, u "<init>"), (0, u "()V"), (0, .integer 65535), (0, .methodref 9 10), (0, .class_ 11), (0, .nameAndType 12 13), (0, u "com/example/indentic/indentic/reading/Filing"), (0, u "fold"), (0, u "(C)C"), (0, .methodref 15 16), (0, .class_ 17), (0, .nameAndType 18 19), (0, u "com/example/indentic/indentic/reading/FilingFoldPinLaw"), (0, u "expected"), (0, u "(I)I"), (3, u "law"), (0, u "(I)Z")] 2

def k1m0 : Method := { name := "<init>", desc := "()V", sig := { parameters := [], returnType := none }, accessFlags := 2, code := none }
def k1c1 : Code := { maxStack := 2, maxLocals := 2, code := method_2_code, exceptionTable := #[], attributes := #[] }
def k1m1 : Method := { name := "expected", desc := "(I)I", sig := { parameters := [.int], returnType := some .int }, accessFlags := 10, code := some k1c1 }
def k1c2 : Code := { maxStack := 2, maxLocals := 4, code := code, exceptionTable := #[], attributes := #[] }
def k1m2 : Method := { name := "law", desc := "(I)Z", sig := { parameters := [.int], returnType := some .boolean }, accessFlags := 9, code := some k1c2 }
/-- com/example/indentic/indentic/reading/FilingFoldPinLaw -/
def k1 : Class := { plain "com/example/indentic/indentic/reading/FilingFoldPinLaw" (some 0) with
  accessFlags := 49
  interfaces := #[]
  cf := some (fileOf pool1 15 #[] #[{ accessFlags := 2, nameIndex := 5, descriptorIndex := 6, attributes := #[] }, { accessFlags := 10, nameIndex := 18, descriptorIndex := 19, attributes := #[] }, { accessFlags := 9, nameIndex := 23, descriptorIndex := 24, attributes := #[] }] 49 2 #[] #[])
  fields := #[]
  methods := #[k1m0, k1m1, k1m2]
  instanceTypes := #[]
  staticTypes := #[]
  resolved := Array.replicate 27 none
  statics := none }

def pool2 : Array CpInfo := pool [(4, .class_ 6), (1, u "java/lang/Object"), (3, .class_ 12), (1, u "com/example/indentic/indentic/reading/Filing"), (0, u "starts"), (0, u "[I"), (2, u "lines"), (2, u "stops"), (45, u "fold"), (0, u "(C)C"), (5, u "text"), (0, u "Ljava/lang/String;"), (2, u "folded"), (2, u "endsInText"), (0, u "Z"), (16, u "PAGE_NUMBER"), (0, u "Ljava/util/regex/Pattern;"), (34, u "GOES_ON"), (38, u "count"), (0, u "I"), (8, u "stopCount"), (19, u "FLAGS"), (2, u "PAGE_MARK"), (0, u "FURNITURE_LENGTH"), (1, u "RUNS_ON_PAST")] 23

def k2c0 : Code := { maxStack := 2, maxLocals := 2, code := prog_85_method_14_code, exceptionTable := #[], attributes := #[] }
def k2m0 : Method := { name := "fold", desc := "(C)C", sig := { parameters := [.char], returnType := some .char }, accessFlags := 8, code := some k2c0 }
/-- com/example/indentic/indentic/reading/Filing -/
def k2 : Class := { plain "com/example/indentic/indentic/reading/Filing" (some 0) with
  accessFlags := 49
  interfaces := #[]
  cf := some (fileOf pool2 10 #[] #[{ accessFlags := 8, nameIndex := 66, descriptorIndex := 67, attributes := #[] }] 49 4 #[] #[{ accessFlags := 24, nameIndex := 203, descriptorIndex := 174, attributes := #[] }, { accessFlags := 26, nameIndex := 206, descriptorIndex := 74, attributes := #[] }, { accessFlags := 26, nameIndex := 98, descriptorIndex := 99, attributes := #[] }, { accessFlags := 26, nameIndex := 207, descriptorIndex := 174, attributes := #[] }, { accessFlags := 26, nameIndex := 209, descriptorIndex := 74, attributes := #[] }, { accessFlags := 26, nameIndex := 134, descriptorIndex := 99, attributes := #[] }, { accessFlags := 18, nameIndex := 73, descriptorIndex := 74, attributes := #[] }, { accessFlags := 18, nameIndex := 77, descriptorIndex := 74, attributes := #[] }, { accessFlags := 18, nameIndex := 80, descriptorIndex := 81, attributes := #[] }, { accessFlags := 2, nameIndex := 13, descriptorIndex := 14, attributes := #[] }, { accessFlags := 2, nameIndex := 17, descriptorIndex := 14, attributes := #[] }, { accessFlags := 2, nameIndex := 173, descriptorIndex := 174, attributes := #[] }, { accessFlags := 2, nameIndex := 20, descriptorIndex := 14, attributes := #[] }, { accessFlags := 2, nameIndex := 183, descriptorIndex := 174, attributes := #[] }])
  fields := #[{ name := "FLAGS", type := .int, accessFlags := 24, slot := 0, constantValue := 0 }, { name := "PAGE_MARK", type := (.object "java/lang/String"), accessFlags := 26, slot := 1, constantValue := 0 }, { name := "PAGE_NUMBER", type := (.object "java/util/regex/Pattern"), accessFlags := 26, slot := 2, constantValue := 0 }, { name := "FURNITURE_LENGTH", type := .int, accessFlags := 26, slot := 3, constantValue := 0 }, { name := "RUNS_ON_PAST", type := (.object "java/lang/String"), accessFlags := 26, slot := 4, constantValue := 0 }, { name := "GOES_ON", type := (.object "java/util/regex/Pattern"), accessFlags := 26, slot := 5, constantValue := 0 }, { name := "text", type := (.object "java/lang/String"), accessFlags := 18, slot := 0, constantValue := 0 }, { name := "folded", type := (.object "java/lang/String"), accessFlags := 18, slot := 1, constantValue := 0 }, { name := "endsInText", type := .boolean, accessFlags := 18, slot := 2, constantValue := 0 }, { name := "starts", type := (.array .int), accessFlags := 2, slot := 3, constantValue := 0 }, { name := "lines", type := (.array .int), accessFlags := 2, slot := 4, constantValue := 0 }, { name := "count", type := .int, accessFlags := 2, slot := 5, constantValue := 0 }, { name := "stops", type := (.array .int), accessFlags := 2, slot := 6, constantValue := 0 }, { name := "stopCount", type := .int, accessFlags := 2, slot := 7, constantValue := 0 }]
  methods := #[k2m0]
  instanceTypes := #[(.object "java/lang/String"), (.object "java/lang/String"), .boolean, (.array .int), (.array .int), .int, (.array .int), .int]
  staticTypes := #[.int, (.object "java/lang/String"), (.object "java/util/regex/Pattern"), .int, (.object "java/lang/String"), (.object "java/util/regex/Pattern")]
  resolved := Array.replicate 233 none
  statics := none }

def pool3 : Array CpInfo := pool [(1, u "java/lang/Cloneable"), (0, .class_ 1), (0, u "java/lang/Object"), (0, .class_ 3)] 3

/-- java/lang/Cloneable -/
def k3 : Class := { plain "java/lang/Cloneable" (some 0) with
  accessFlags := 1537
  interfaces := #[]
  cf := some (fileOf pool3 2 #[] #[] 1537 4 #[] #[])
  fields := #[]
  methods := #[]
  instanceTypes := #[]
  staticTypes := #[]
  resolved := Array.replicate 8 none
  statics := none }

def pool4 : Array CpInfo := pool [(1, u "java/io/Serializable"), (0, .class_ 1), (0, u "java/lang/Object"), (0, .class_ 3)] 3

/-- java/io/Serializable -/
def k4 : Class := { plain "java/io/Serializable" (some 0) with
  accessFlags := 1537
  interfaces := #[]
  cf := some (fileOf pool4 2 #[] #[] 1537 4 #[] #[])
  fields := #[]
  methods := #[]
  instanceTypes := #[]
  staticTypes := #[]
  resolved := Array.replicate 8 none
  statics := none }

/-- the primitive byte -/
def k5 : Class := { plain "byte" none with kind := .primitive 'B', accessFlags := 0x411 }
/-- [B -/
def k6 : Class := { plain "[B" (some 0) with kind := .array 5 .byte, interfaces := #[3, 4], accessFlags := 1041 }

/-- the primitive int -/
def k7 : Class := { plain "int" none with kind := .primitive 'I', accessFlags := 0x411 }
/-- [I -/
def k8 : Class := { plain "[I" (some 0) with kind := .array 7 .int, interfaces := #[3, 4], accessFlags := 1041 }

def heap : Heap := #[]
def classes : Array Class := #[k0, k1, k2, k3, k4, k5, k6, k7, k8]
def interned : List (Array UInt16 × Addr) := []
def slotsUsed : Nat := 0
def theMethod : MethodId := ⟨1, 2⟩
def args0 : Array Value := #[.int 5]
def aboutOver (below : List Frame) : State where
  vm := { classes := classes, interned := interned.toArray }
  heap := heap
  slotsUsed := slotsUsed
  threads := #[{ frames := .invoking theMethod args0 :: below }]
def below0 : List Frame := [.native { method := ⟨0, 0⟩, args := #[] }]
def about1 : State := aboutOver below0
def p0 : Program := .bare "" "" ""
def e0 : Env := launch0.env 0 0 0
theorem w_frames : about1.frames = Frame.invoking theMethod args0 :: below0 := rfl
set_option maxRecDepth 65536 in
theorem w_args : argsFit about1.vm theMethod args0 = true := by decide +kernel
set_option maxRecDepth 65536 in
theorem w_heap : heapFits about1 = true := by decide +kernel
set_option maxRecDepth 65536 in
theorem w_runnable : about1.curStatus? = some .runnable := by decide +kernel
set_option maxRecDepth 65536 in
theorem w_alone : about1.alone = true := by decide +kernel
set_option maxRecDepth 65536 in
theorem w_named : about1.methodNamed? x = some theMethod := by decide +kernel
set_option maxRecDepth 65536 in
theorem w_hears : about1.hears theMethod below0 = true := by decide +kernel
set_option maxRecDepth 65536 in
theorem w_ripe : about1.ripe theMethod args0 below0 = true := by decide +kernel
theorem w_running : about1.status = .running := rfl
set_option maxRecDepth 65536 in
theorem w_room : about1.hasRoom e0.platform room_1 = true :=
  launch0.hasRoom_least _ room_1 (by decide +kernel) (by decide +kernel) (by decide +kernel) (by decide +kernel) (by decide +kernel) (by decide +kernel)
theorem allAtoms_all (ts : List Jvm.Cond) (a : Array Jvm.Value) (st : Jvm.State) : (allAtoms ts).before a st = ts.all (fun c => c.before a st) := by
  induction ts with
  | nil => rfl
  | cons c t ih =>
    show (Jvm.Cond.and c (allAtoms t)).before a st = _
    rw [Jvm.Cond.before_and, ih, List.all_cons]
def words1 : List Jvm.Cond := Jvm.Cond.code x code maxLocals ret :: tables_1
/-- a 'code' word, met by the world's own term for the bytes: nothing is compared byte by byte -/
theorem code_word {y : MethodName} {bytes : ByteArray} {mx : Nat} {rt : Option FieldType} {a : Array Value} {s : State} {m : MethodId} {meth : Method} {c : Code} (h1 : s.methodNamed? y = some m) (h2 : s.vm.method? m = some meth) (h3 : meth.code = some c) (h4 : c.code = bytes)
    (h5 : (c.maxLocals == mx && c.exceptionTable.isEmpty && decide (c.maxStack ≤ mostOperands) && decide (meth.sig.returnType = rt) && !meth.locks && decide (parseMethodDescriptor y.desc = some meth.sig)) = true) : (Jvm.Cond.code y bytes mx rt).before a s = true := by
  simp only [Bool.and_eq_true, beq_iff_eq, Bool.not_eq_true', decide_eq_true_eq] at h5
  obtain ⟨⟨⟨⟨⟨g1, g2⟩, g3⟩, g4⟩, g5⟩, g6⟩ := h5
  simp [Cond.before, Cond.holds, Cond.value, h1, h2, h3, h4, g1, g2, g3, g4, g5, g6]
def isCode : Jvm.Cond → Bool
  | .code _ _ _ _ => true
  | _ => false
theorem all_split {L : List Jvm.Cond} {P : Jvm.Cond → Bool} (h1 : L.all (fun c => isCode c || P c) = true) (h2 : ∀ c ∈ L.filter isCode, P c = true) : L.all P = true := by
  refine List.all_eq_true.mpr fun c hc => ?_
  have h := List.all_eq_true.mp h1 c hc
  rcases Bool.eq_false_or_eq_true (isCode c) with hi | hi
  · exact h2 c (List.mem_filter.mpr ⟨hc, hi⟩)
  · simpa [hi] using h
set_option maxRecDepth 65536 in
theorem w_c0 : (Jvm.Cond.code x code maxLocals ret).before args0 about1 = true := code_word (m := ⟨1, 2⟩) (meth := k1m2) (c := k1c2) (by decide +kernel) rfl rfl rfl (by decide +kernel)
set_option maxRecDepth 65536 in
theorem w_c1 : (Jvm.Cond.code ({ cls := "com/example/indentic/indentic/reading/Filing", name := "fold", desc := "(C)C" } : Jvm.MethodName) prog_85_method_14_code (2 : Nat) (Option.some Jvm.ClassFile.FieldType.char)).before args0 about1 = true := code_word (m := ⟨2, 0⟩) (meth := k2m0) (c := k2c0) (by decide +kernel) rfl rfl rfl (by decide +kernel)
set_option maxRecDepth 65536 in
theorem w_c2 : (Jvm.Cond.code ({ cls := "com/example/indentic/indentic/reading/FilingFoldPinLaw", name := "expected", desc := "(I)I" } : Jvm.MethodName) method_2_code (2 : Nat) (Option.some Jvm.ClassFile.FieldType.int)).before args0 about1 = true := code_word (m := ⟨1, 1⟩) (meth := k1m1) (c := k1c1) (by decide +kernel) rfl rfl rfl (by decide +kernel)
def codes1 : List Jvm.Cond := [Jvm.Cond.code x code maxLocals ret, Jvm.Cond.code ({ cls := "com/example/indentic/indentic/reading/Filing", name := "fold", desc := "(C)C" } : Jvm.MethodName) prog_85_method_14_code (2 : Nat) (Option.some Jvm.ClassFile.FieldType.char), Jvm.Cond.code ({ cls := "com/example/indentic/indentic/reading/FilingFoldPinLaw", name := "expected", desc := "(I)I" } : Jvm.MethodName) method_2_code (2 : Nat) (Option.some Jvm.ClassFile.FieldType.int)]
set_option maxRecDepth 65536 in
theorem codes_eq : words1.filter isCode = codes1 := rfl
theorem w_codes : ∀ c ∈ words1.filter isCode, c.before args0 about1 = true := by
  rw [codes_eq]
  intro c hc
  simp only [codes1, List.mem_cons, List.not_mem_nil, or_false] at hc
  rcases hc with rfl | rfl | rfl
  · exact w_c0
  · exact w_c1
  · exact w_c2
set_option maxRecDepth 65536 in
theorem w_t1 : words1.all (fun c => isCode c || c.before args0 about1) = true := by decide +kernel
theorem w_tables : (allAtoms (Jvm.Cond.code x code maxLocals ret :: tables_1)).before args0 about1 = true := by
  rw [allAtoms_all]
  show words1.all (fun c => c.before args0 about1) = true
  refine all_split ?_ w_codes
  rw [w_t1]
set_option maxRecDepth 65536 in
theorem w_case : (Jvm.Cond.and given_1 narrow_1).before args0 about1 = true := by decide +kernel
theorem w_applies : (headSpec (Jvm.Cond.code x code maxLocals ret :: tables_1) room_1).applies x e0.platform about1 = true :=
  (Spec.applies_iff w_frames).mpr ⟨w_running, w_runnable, w_alone, w_named, w_hears, w_ripe, w_room, w_tables⟩
theorem atStart : AtStart classFile x code maxLocals ret World_1 tables_1 room_1 Calls_1 rest_1 Pre_1 launch0 p0 e0 about1 theMethod args0 below0 :=
  ⟨lists_1, trivial, launch0.admits_env _ _ _, launch0.least_env, fairChoices_fair.cas, fairChoices_fair.clock, w_frames, w_args, w_heap, w_applies, trivial, trivial, w_case⟩
end start1
theorem witness_1 : WitnessClaimed_1 := ⟨start1.p0, start1.e0, start1.about1, start1.theMethod, start1.args0, start1.below0, start1.atStart⟩
end Jvm.Pilot.@@N@@
