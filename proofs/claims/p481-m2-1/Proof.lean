import JvmDerived
import JvmDerived.Pilot.@@N@@Statement
import JvmDerived.Pilot.@@N@@Code
set_option linter.unusedVariables false
set_option linter.unusedSimpArgs false
namespace Jvm.RoadKit
open Sem ClassFile Op Lib Jvm.Stand Jvm.Free Jvm.LawKit
section New
variable {p : Program} {l : Launch} {e : Env} {R : Room} {s : State} {m : MethodId} {args : Array Value} {below : List Frame} {meth : Method} {c : Code} {T : State} {locs : List Loc} {cells slots : Nat}
theorem retI (X : Stand p l e R s m args below meth c T locs cells slots) (hx : p.tables.exec = Jvm.exec) {pc : Nat} {Ls : Array Slot} {z : Int32} {rest : List Value} (hret : meth.sig.returnType = some .int) (hd : decode c.code pc = .ok (.ireturn, 1)) {fs : List Frame}
    (hl : ∀ (f : JFrame) (acts : List Action), f.method = m → f.locked = none → f.entered = [] → (doReturn e (T.setTop f) acts (some (.int z))).1 = T.setFrames fs) : Steps p.tables e below (T.setTop (mkF m pc Ls (.int z :: rest))) (T.setFrames fs) := by
  have hm' : T.vm.method? m = some meth := X.method'
  have hn : narrow .int (.int z) = .int z := rfl
  show Steps p.tables e below (T.setTop { method := m, pc := pc, locals := Ls, stack := _ :: rest, locked := none }) _
  jvm_step X.here [X.here.top, hx, hd, hm', hret, hn]
  first | (intro acts; rw [hl _ acts rfl rfl rfl]) | rw [hl _ _ rfl rfl rfl]
  exact Steps.refl _
end New
end Jvm.RoadKit
namespace Jvm.Pilot.@@N@@
open Jvm Jvm.ClassFile Sem Op Lib Jvm.Free Jvm.Stand Jvm.LawKit Jvm.RoadKit Bundle Jvm.Pilot.@@N@@.Jvm.D

theorem own_eqI {args : Array Value} {first s : State} {o : Option Outcome} {idx : List Nat} {a : Term} {k : Int32} (h : (Jvm.Cond.eq a (.int k)).value args first o s idx = some true) : a.eval args first o idx s = some (.int k) := by
  simp only [Cond.value, Term.eval] at h
  cases ha : a.eval args first o idx s with
  | none => simp [ha] at h
  | some x => cases x <;> simp [ha] at h ⊢; exact h

def own_nth (i : Int32) (a b c d e f : Addr) : Addr := if i = (0 : Int32) then a else if i = (1 : Int32) then b else if i = (2 : Int32) then c else if i = (3 : Int32) then d else if i = (4 : Int32) then e else f
theorem own_rng (x : Int32) : ¬ ((x &&& (2147483647 : Int32)) % (6 : Int32)) < 0 ∧ ((x &&& (2147483647 : Int32)) % (6 : Int32)) < 6 := by
  have a := c_mask x 2147483647 31 (by decide) (by decide)
  have b := (c_irem (x &&& 2147483647) 6 6 (by decide)).1 (by omega)
  simp only [Int32.lt_iff_toInt_lt, Int32.reduceToInt]
  omega
theorem own_six (i : Int32) (h0 : ¬ i < 0) (h1 : i < 6) : i = 0 ∨ i = 1 ∨ i = 2 ∨ i = 3 ∨ i = 4 ∨ i = 5 := by
  simp only [Int32.lt_iff_toInt_lt, ← Int32.toInt_inj, Int32.reduceToInt] at *
  omega
theorem own_get (i : Int32) (h0 : ¬ i < 0) (h1 : i < 6) (a b c d e f : Addr) : [Value.ref a, .ref b, .ref c, .ref d, .ref e, .ref f].getD i.toNatClampNeg .null = .ref (own_nth i a b c d e f) := by
  rcases own_six i h0 h1 with rfl | rfl | rfl | rfl | rfl | rfl <;> rfl
theorem own_is (i : Int32) (h0 : ¬ i < 0) (h1 : i < 6) (a b c d e f : Addr) (hb : a ≠ b) (hc : a ≠ c) (hd : a ≠ d) (he : a ≠ e) (hf : a ≠ f) : (if own_nth i a b c d e f = a then (0 : Int32) else (1 : Int32)) = (if i = (0 : Int32) then (0 : Int32) else (1 : Int32)) := by
  rcases own_six i h0 h1 with rfl | rfl | rfl | rfl | rfl | rfl <;> simp [own_nth, Ne.symm hb, Ne.symm hc, Ne.symm hd, Ne.symm he, Ne.symm hf]
theorem d1_0 : decode prog_39_method_8_code 0 = .ok (.aload_n 0, 1) := by decide +kernel
theorem d1_1 : decode prog_39_method_8_code 1 = .ok (.getstatic 3, 3) := by decide +kernel
theorem d1_4 : decode prog_39_method_8_code 4 = .ok (.if_acmp .eq 7, 3) := by decide +kernel
theorem d1_7 : decode prog_39_method_8_code 7 = .ok (.iconst 1, 1) := by decide +kernel
theorem d1_8 : decode prog_39_method_8_code 8 = .ok (.goto 4, 3) := by decide +kernel
theorem d1_11 : decode prog_39_method_8_code 11 = .ok (.iconst 0, 1) := by decide +kernel
theorem d1_12 : decode prog_39_method_8_code 12 = .ok (.ireturn, 1) := by decide +kernel
theorem pn_1 : plainName "com/example/furlong/furlong/model/ParameterType" = true := by first | (simp [plainName, overriddenIn]; done) | decide +kernel
theorem ef_1 (m : MethodId) (x0 : Addr) : entryFrame m #[(.ref x0)] 1 = mkF m 0 #[.val (.ref x0)] [] := by first | (simp [entryFrame, mkF, argsToLocals, Value.category]; done) | rfl
def Q_1 (Z : State) (a1 : Addr) (aC : Addr) (h0 : Heap) (n0 : Nat) (v : Option Value) (h : Heap) (L : List Loc) : Prop := v = some (.int (if a1 = aC then (0 : Int32) else (1 : Int32))) ∧ Fr n0 L ∧ h = h0
set_option maxRecDepth 65536 in
set_option maxHeartbeats 40000000 in
theorem rm_1 (l : Launch) (Z : State) (a0 : Array Value) (hw : ∀ d ∈ tables_1, d.before a0 Z = true) (ws : List Jvm.Cond) (a1 : Addr) (aC : Addr) (h0 : Heap) (n0 : Nat) (Z0 : n0 ≤ h0.size) (S_CATEGORICAL : Sta Z h0 "com/example/furlong/furlong/model/ParameterType" "CATEGORICAL" "Lcom/example/furlong/furlong/model/ParameterType;" (.ref aC)) :
    MetFree l (⟨"com/example/furlong/furlong/model/ParameterType", "isOrdered", "()Z"⟩ : MethodName) (head1 (Jvm.Cond.code (⟨"com/example/furlong/furlong/model/ParameterType", "isOrdered", "()Z"⟩ : MethodName) prog_39_method_8_code 1 (some .boolean) :: ws) ({ frames := 0, cells := 0, slots := 0, locals := 0 } : Room)) (fun a U => a = #[(.ref a1)] ∧ Z.Warmed39 U.vm ∧ U.heap = h0) (fun _ _ _ _ _ => True) (fun _ U o U' => ∃ v L, o = .returned v ∧ Q_1 Z a1 aC h0 n0 v U'.heap L ∧ FrameEnd U o U' L ({ frames := 0, cells := 0, slots := 0, locals := 0 } : Room).cells ({ frames := 0, cells := 0, slots := 0, locals := 0 } : Room).slots) := by
  refine MetFree.of_bodySF (plainFor_of_name pn_1) hisR ?_
  intro p e s m args below meth cod_ s₁ Bd hml0 hP hK
  obtain ⟨rfl, hZ, hh⟩ := hP
  have hx := Bd.exec
  have hby := Bd.bytes
  have hml : cod_.maxLocals = 1 := hml0
  have hown : s.vm.findClass "com/example/furlong/furlong/model/ParameterType" = some m.cls := findClass_of_methodNamed Bd.named
  have hnm := (name_of_methodNamed Bd.named Bd.method).1
  have X0 : Stand p l e ({ frames := 0, cells := 0, slots := 0, locals := 0 } : Room) s m #[(.ref a1)] below meth cod_ s₁ [] 0 0 := Stand.of_body Bd
  have e0 : s₁.heap = h0 := by rw [← hh, Bd.state]; rfl
  have N0 := Fr.nil n0
  have pre0 : ∀ t, Steps p.tables e below (s₁.setTop (mkF m 0 #[.val (.ref a1)] [])) t → Steps p.tables e below (s₁.setTop (entryFrame m #[(.ref a1)] 1)) t := fun t k => castTop (ef_1 m a1) k
  obtain ⟨T1, X1, e1, st1⟩ := getS2 X0 hx hZ hown (host := "") (Or.inl (hw _ (List.mem_of_getElem? (i := 22) rfl))) Via.refl e0 S_CATEGORICAL (g := (mkF m 1 #[.val (.ref a1)] [(.ref a1)])) rfl (hb hby d1_1)
  by_cases hc4 : a1 = aC
  · obtain ⟨fs, hr, hrun, hended, hW, hsame⟩ := X1.leave (v := some (.int (0 : Int32))) (fun h => by rw [Bd.returns] at h; cases h)
    refine ⟨_, _, pre0 _ ?_, hrun, hended, _, _, rfl, ?_, ⟨_, rfl⟩, hW, hsame.mono (by decide) (by decide)⟩
    · show Steps p.tables e below (s₁.setTop (mkF m 0 #[.val (.ref a1)] [])) _
      refine XS.aloadN X0.here hx rfl (hb hby d1_0) rfl rfl ?_
      show Steps p.tables e below (s₁.setTop (mkF m 1 #[.val (.ref a1)] [(.ref a1)])) _
      refine st1 _ ?_
      show Steps p.tables e below (T1.setTop (mkF m 4 #[.val (.ref a1)] [(.ref aC), (.ref a1)])) _
      refine Jvm.RoadKit.acmp (g := (mkF m 4 #[.val (.ref a1)] [(.ref aC), (.ref a1)])) X1 hx rfl rfl rfl (pc0 := 4) (pc' := 11) (same := true) rfl (hb hby d1_4) rfl (decide_eq_true (congrArg Value.ref hc4)) (by decide) (by decide) ?_
      show Steps p.tables e below (T1.setTop (mkF m 11 #[.val (.ref a1)] [])) _
      refine XS.iconst X1.here hx rfl (hb hby d1_11) ?_
      show Steps p.tables e below (T1.setTop (mkF m 12 #[.val (.ref a1)] [(.int (0 : Int32))])) _
      exact retN X1 hx (t := .boolean) Bd.returns (by simp) (hb hby d1_12) hr
    · show Q_1 Z a1 aC h0 n0 _ T1.heap _
      rw [e1]
      exact ⟨by simp [hc4], N0, rfl⟩
  · obtain ⟨fs, hr, hrun, hended, hW, hsame⟩ := X1.leave (v := some (.int (1 : Int32))) (fun h => by rw [Bd.returns] at h; cases h)
    refine ⟨_, _, pre0 _ ?_, hrun, hended, _, _, rfl, ?_, ⟨_, rfl⟩, hW, hsame.mono (by decide) (by decide)⟩
    · show Steps p.tables e below (s₁.setTop (mkF m 0 #[.val (.ref a1)] [])) _
      refine XS.aloadN X0.here hx rfl (hb hby d1_0) rfl rfl ?_
      show Steps p.tables e below (s₁.setTop (mkF m 1 #[.val (.ref a1)] [(.ref a1)])) _
      refine st1 _ ?_
      show Steps p.tables e below (T1.setTop (mkF m 4 #[.val (.ref a1)] [(.ref aC), (.ref a1)])) _
      refine Jvm.RoadKit.acmp (g := (mkF m 4 #[.val (.ref a1)] [(.ref aC), (.ref a1)])) X1 hx rfl rfl rfl (pc0 := 4) (pc' := 7) (same := false) rfl (hb hby d1_4) rfl (decide_eq_false fun q => hc4 (Value.ref.inj q)) (by decide) (by decide) ?_
      show Steps p.tables e below (T1.setTop (mkF m 7 #[.val (.ref a1)] [])) _
      refine XS.iconst X1.here hx rfl (hb hby d1_7) ?_
      show Steps p.tables e below (T1.setTop (mkF m 8 #[.val (.ref a1)] [(.int (1 : Int32))])) _
      refine XS.goto X1.here hx rfl (pc0 := 8) (pc' := 12) rfl (hb hby d1_8) (by decide) (by decide) ?_
      show Steps p.tables e below (T1.setTop (mkF m 12 #[.val (.ref a1)] [(.int (1 : Int32))])) _
      exact retN X1 hx (t := .boolean) Bd.returns (by simp) (hb hby d1_12) hr
    · show Q_1 Z a1 aC h0 n0 _ T1.heap _
      rw [e1]
      exact ⟨by simp [hc4], N0, rfl⟩
theorem pd__28_29Z : parseMethodDescriptor "()Z" = some ⟨[], some .boolean⟩ := by decide +kernel
theorem pn_0 : plainName "com/example/furlong/furlong/model/ParameterTypeIsOrderedPinLaw" = true := by first | (simp [plainName, overriddenIn]; done) | decide +kernel
theorem ef_0 (m : MethodId) (x0 : Int32) : entryFrame m #[(.int x0)] maxLocals = mkF m 0 #[.val (.int x0), .unset, .unset, .unset, .unset] [] := by first | (simp [entryFrame, mkF, argsToLocals, Value.category, maxLocals]; done) | rfl
def Q_0 (Z : State) (p1 : Int32) (aC : Addr) (aO : Addr) (aI : Addr) (aR : Addr) (aLI : Addr) (aLR : Addr) (h0 : Heap) (n0 : Nat) (v : Option Value) (h : Heap) (L : List Loc) : Prop := v = some (.int 1) ∧ Fr n0 L
set_option maxRecDepth 65536 in
set_option maxHeartbeats 40000000 in
theorem rm_0 (l : Launch) (Z : State) (a0 : Array Value) (hw : ∀ d ∈ tables_1, d.before a0 Z = true) (ws : List Jvm.Cond) (p1 : Int32) (aC : Addr) (aO : Addr) (aI : Addr) (aR : Addr) (aLI : Addr) (aLR : Addr) (h0 : Heap) (n0 : Nat) (Z0 : n0 ≤ h0.size) (S_CATEGORICAL : Sta Z h0 "com/example/furlong/furlong/model/ParameterType" "CATEGORICAL" "Lcom/example/furlong/furlong/model/ParameterType;" (.ref aC)) (S_ORDERED : Sta Z h0 "com/example/furlong/furlong/model/ParameterType" "ORDERED" "Lcom/example/furlong/furlong/model/ParameterType;" (.ref aO)) (S_INTEGER : Sta Z h0 "com/example/furlong/furlong/model/ParameterType" "INTEGER" "Lcom/example/furlong/furlong/model/ParameterType;" (.ref aI)) (S_REAL : Sta Z h0 "com/example/furlong/furlong/model/ParameterType" "REAL" "Lcom/example/furlong/furlong/model/ParameterType;" (.ref aR)) (S_LOG_INTEGER : Sta Z h0 "com/example/furlong/furlong/model/ParameterType" "LOG_INTEGER" "Lcom/example/furlong/furlong/model/ParameterType;" (.ref aLI)) (S_LOG_REAL : Sta Z h0 "com/example/furlong/furlong/model/ParameterType" "LOG_REAL" "Lcom/example/furlong/furlong/model/ParameterType;" (.ref aLR)) (E_CATEGORICAL : Exa Z h0 aC "com/example/furlong/furlong/model/ParameterType") (E_ORDERED : Exa Z h0 aO "com/example/furlong/furlong/model/ParameterType") (E_INTEGER : Exa Z h0 aI "com/example/furlong/furlong/model/ParameterType") (E_REAL : Exa Z h0 aR "com/example/furlong/furlong/model/ParameterType") (E_LOG_INTEGER : Exa Z h0 aLI "com/example/furlong/furlong/model/ParameterType") (E_LOG_REAL : Exa Z h0 aLR "com/example/furlong/furlong/model/ParameterType") (ne_ORDERED : aC ≠ aO) (ne_INTEGER : aC ≠ aI) (ne_REAL : aC ≠ aR) (ne_LOG_INTEGER : aC ≠ aLI) (ne_LOG_REAL : aC ≠ aLR) :
    MetFree l x (head1 (Jvm.Cond.code x code maxLocals ret :: ws) room_1) (fun a U => a = #[(.int p1)] ∧ Z.Warmed39 U.vm ∧ U.heap = h0) (fun _ _ _ _ _ => True) (fun _ U o U' => ∃ v L, o = .returned v ∧ Q_0 Z p1 aC aO aI aR aLI aLR h0 n0 v U'.heap L ∧ FrameEnd U o U' L room_1.cells room_1.slots) := by
  refine MetFree.of_bodySF (plainFor_of_name pn_0) hisR ?_
  intro p e s m args below meth cod_ s₁ Bd hml0 hP hK
  obtain ⟨rfl, hZ, hh⟩ := hP
  have hx := Bd.exec
  have hby := Bd.bytes
  have hml : cod_.maxLocals = 5 := hml0
  have hown : s.vm.findClass "com/example/furlong/furlong/model/ParameterTypeIsOrderedPinLaw" = some m.cls := findClass_of_methodNamed Bd.named
  have hnm := (name_of_methodNamed Bd.named Bd.method).1
  have X0 : Stand p l e room_1 s m #[(.int p1)] below meth cod_ s₁ [] 0 0 := Stand.of_body Bd
  have e0 : s₁.heap = h0 := by rw [← hh, Bd.state]; rfl
  have N0 := Fr.nil n0
  have pre0 : ∀ t, Steps p.tables e below (s₁.setTop (mkF m 0 #[.val (.int p1), .unset, .unset, .unset, .unset] [])) t → Steps p.tables e below (s₁.setTop (entryFrame m #[(.int p1)] maxLocals)) t := fun t k => castTop (ef_0 m p1) k
  obtain ⟨ix, e_ix⟩ : ∃ z : Int32, z = ((p1 &&& (2147483647 : Int32)) % (6 : Int32)) := ⟨_, rfl⟩
  have hix : ¬ ix < 0 ∧ ix < 6 := e_ix ▸ own_rng p1
  obtain ⟨T2, h2, k2, X2, e2, E2, A2, O2, st2⟩ := newR X0 hx hZ hown (hw _ (List.mem_of_getElem? (i := 1) rfl)) (hw _ (List.mem_of_getElem? (i := 2) rfl)) e0 (g := (mkF m 10 #[.val (.int p1), .val (.int ix), .unset, .unset, .unset] [(.int (6 : Int32))])) rfl (hb hby at_10) rfl (by decide) (cap := 6) (by decide) (by decide) (by decide) (by decide)
  obtain ⟨b2, g2⟩ : ∃ z, z = h0.size := ⟨_, rfl⟩
  rw [← g2] at A2 st2
  have g_b2 : n0 ≤ b2 := Nat.le_trans (Nat.le_trans Z0 (Keep.refl h0 []).1) (Nat.le_of_eq g2.symm)
  have sz_b2 : h0.size ≤ b2 := Nat.le_trans (Keep.refl h0 []).1 (Nat.le_of_eq g2.symm)
  have ne_aC_b2 : aC ≠ b2 := Nat.ne_of_lt (Nat.lt_of_lt_of_le E_CATEGORICAL.lt (Nat.le_of_eq g2.symm))
  have ne_aO_b2 : aO ≠ b2 := Nat.ne_of_lt (Nat.lt_of_lt_of_le E_ORDERED.lt (Nat.le_of_eq g2.symm))
  have ne_aI_b2 : aI ≠ b2 := Nat.ne_of_lt (Nat.lt_of_lt_of_le E_INTEGER.lt (Nat.le_of_eq g2.symm))
  have ne_aR_b2 : aR ≠ b2 := Nat.ne_of_lt (Nat.lt_of_lt_of_le E_REAL.lt (Nat.le_of_eq g2.symm))
  have ne_aLI_b2 : aLI ≠ b2 := Nat.ne_of_lt (Nat.lt_of_lt_of_le E_LOG_INTEGER.lt (Nat.le_of_eq g2.symm))
  have ne_aLR_b2 : aLR ≠ b2 := Nat.ne_of_lt (Nat.lt_of_lt_of_le E_LOG_REAL.lt (Nat.le_of_eq g2.symm))
  have Kh2 : Keep h0 h2 [] := (Keep.refl h0 []).ext E2
  have V_b2 : Arv Z h2 b2 k2 (.object "com/example/furlong/furlong/model/ParameterType") (6 : Int32) [.null, .null, .null, .null, .null, .null] .null := (Arv.new A2 (by decide)).pad (pad_rep [] .null 6)
  obtain ⟨T3, X3, e3, st3⟩ := getS2 X2 hx hZ hown (host := "") (Or.inl (hw _ (List.mem_of_getElem? (i := 3) rfl))) Via.refl e2 (S_CATEGORICAL.ext E2) (g := (mkF m 15 #[.val (.int p1), .val (.int ix), .unset, .unset, .unset] [(.int (0 : Int32)), (.ref b2), (.ref b2)])) rfl (hb hby at_15)
  obtain ⟨cl4, Ar4, q4, S4, M4, H4, G4⟩ := V_b2
  have hin4 : ¬ ((0 : Int32) < 0 ∨ cl4.slots.size ≤ ((0 : Int32)).toNatClampNeg) := inb_of S4 ⟨by decide, by decide⟩
  have Sto4 : Sto Z h2 b2 (.ref aC) := Sto.ofV Ar4 q4 O2 (Ins.self (E_CATEGORICAL.ext E2))
  obtain ⟨T4, h4, X4, e4, W4, st4⟩ := stR X3 hx hZ e3 Ar4 (j := (0 : Int32)) hin4 rfl Sto4 (g := (mkF m 18 #[.val (.int p1), .val (.int ix), .unset, .unset, .unset] [(.ref aC), (.int (0 : Int32)), (.ref b2), (.ref b2)])) rfl rfl (hb hby at_18)
  have V4 : Arv Z h4 b2 k2 (.object "com/example/furlong/furlong/model/ParameterType") (6 : Int32) [(.ref aC), .null, .null, .null, .null, .null] .null := Arv.set Ar4 q4 S4 M4 H4 G4 rfl W4 0 rfl (Nat.le_of_ble_eq_true rfl)
  have Kh4 : Keep h0 h4 [] := Kh2.wr W4 (Or.inr sz_b2)
  have N4 := Fr.snoc X4 N0 g_b2
  have f5 := ((S_ORDERED.ext E2).wr W4)
  obtain ⟨T6, X6, e6, st6⟩ := getS2 X4 hx hZ hown (host := "") (Or.inl (hw _ (List.mem_of_getElem? (i := 7) rfl))) Via.refl e4 f5 (g := (mkF m 21 #[.val (.int p1), .val (.int ix), .unset, .unset, .unset] [(.int (1 : Int32)), (.ref b2), (.ref b2)])) rfl (hb hby at_21)
  obtain ⟨cl7, Ar7, q7, S7, M7, H7, G7⟩ := V4
  have hin7 : ¬ ((1 : Int32) < 0 ∨ cl7.slots.size ≤ ((1 : Int32)).toNatClampNeg) := inb_of S7 ⟨by decide, by decide⟩
  have f8 := ((E_ORDERED.ext E2).wr W4)
  have Sto7 : Sto Z h4 b2 (.ref aO) := Sto.ofV Ar7 q7 O2 (Ins.self f8)
  obtain ⟨T7, h7, X7, e7, W7, st7⟩ := stR X6 hx hZ e6 Ar7 (j := (1 : Int32)) hin7 rfl Sto7 (g := (mkF m 24 #[.val (.int p1), .val (.int ix), .unset, .unset, .unset] [(.ref aO), (.int (1 : Int32)), (.ref b2), (.ref b2)])) rfl rfl (hb hby at_24)
  have V7 : Arv Z h7 b2 k2 (.object "com/example/furlong/furlong/model/ParameterType") (6 : Int32) [(.ref aC), (.ref aO), .null, .null, .null, .null] .null := Arv.set Ar7 q7 S7 M7 H7 G7 rfl W7 1 rfl (Nat.le_of_ble_eq_true rfl)
  have Kh7 : Keep h0 h7 [] := Kh4.wr W7 (Or.inr sz_b2)
  have N7 := Fr.snoc X7 N4 g_b2
  have f9 := (((S_INTEGER.ext E2).wr W4).wr W7)
  obtain ⟨T10, X10, e10, st10⟩ := getS2 X7 hx hZ hown (host := "") (Or.inl (hw _ (List.mem_of_getElem? (i := 9) rfl))) Via.refl e7 f9 (g := (mkF m 27 #[.val (.int p1), .val (.int ix), .unset, .unset, .unset] [(.int (2 : Int32)), (.ref b2), (.ref b2)])) rfl (hb hby at_27)
  obtain ⟨cl11, Ar11, q11, S11, M11, H11, G11⟩ := V7
  have hin11 : ¬ ((2 : Int32) < 0 ∨ cl11.slots.size ≤ ((2 : Int32)).toNatClampNeg) := inb_of S11 ⟨by decide, by decide⟩
  have f12 := (((E_INTEGER.ext E2).wr W4).wr W7)
  have Sto11 : Sto Z h7 b2 (.ref aI) := Sto.ofV Ar11 q11 O2 (Ins.self f12)
  obtain ⟨T11, h11, X11, e11, W11, st11⟩ := stR X10 hx hZ e10 Ar11 (j := (2 : Int32)) hin11 rfl Sto11 (g := (mkF m 30 #[.val (.int p1), .val (.int ix), .unset, .unset, .unset] [(.ref aI), (.int (2 : Int32)), (.ref b2), (.ref b2)])) rfl rfl (hb hby at_30)
  have V11 : Arv Z h11 b2 k2 (.object "com/example/furlong/furlong/model/ParameterType") (6 : Int32) [(.ref aC), (.ref aO), (.ref aI), .null, .null, .null] .null := Arv.set Ar11 q11 S11 M11 H11 G11 rfl W11 2 rfl (Nat.le_of_ble_eq_true rfl)
  have Kh11 : Keep h0 h11 [] := Kh7.wr W11 (Or.inr sz_b2)
  have N11 := Fr.snoc X11 N7 g_b2
  have f13 := ((((S_REAL.ext E2).wr W4).wr W7).wr W11)
  obtain ⟨T14, X14, e14, st14⟩ := getS2 X11 hx hZ hown (host := "") (Or.inl (hw _ (List.mem_of_getElem? (i := 11) rfl))) Via.refl e11 f13 (g := (mkF m 33 #[.val (.int p1), .val (.int ix), .unset, .unset, .unset] [(.int (3 : Int32)), (.ref b2), (.ref b2)])) rfl (hb hby at_33)
  obtain ⟨cl15, Ar15, q15, S15, M15, H15, G15⟩ := V11
  have hin15 : ¬ ((3 : Int32) < 0 ∨ cl15.slots.size ≤ ((3 : Int32)).toNatClampNeg) := inb_of S15 ⟨by decide, by decide⟩
  have f16 := ((((E_REAL.ext E2).wr W4).wr W7).wr W11)
  have Sto15 : Sto Z h11 b2 (.ref aR) := Sto.ofV Ar15 q15 O2 (Ins.self f16)
  obtain ⟨T15, h15, X15, e15, W15, st15⟩ := stR X14 hx hZ e14 Ar15 (j := (3 : Int32)) hin15 rfl Sto15 (g := (mkF m 36 #[.val (.int p1), .val (.int ix), .unset, .unset, .unset] [(.ref aR), (.int (3 : Int32)), (.ref b2), (.ref b2)])) rfl rfl (hb hby at_36)
  have V15 : Arv Z h15 b2 k2 (.object "com/example/furlong/furlong/model/ParameterType") (6 : Int32) [(.ref aC), (.ref aO), (.ref aI), (.ref aR), .null, .null] .null := Arv.set Ar15 q15 S15 M15 H15 G15 rfl W15 3 rfl (Nat.le_of_ble_eq_true rfl)
  have Kh15 : Keep h0 h15 [] := Kh11.wr W15 (Or.inr sz_b2)
  have N15 := Fr.snoc X15 N11 g_b2
  have f17 := (((((S_LOG_INTEGER.ext E2).wr W4).wr W7).wr W11).wr W15)
  obtain ⟨T18, X18, e18, st18⟩ := getS2 X15 hx hZ hown (host := "") (Or.inl (hw _ (List.mem_of_getElem? (i := 13) rfl))) Via.refl e15 f17 (g := (mkF m 39 #[.val (.int p1), .val (.int ix), .unset, .unset, .unset] [(.int (4 : Int32)), (.ref b2), (.ref b2)])) rfl (hb hby at_39)
  obtain ⟨cl19, Ar19, q19, S19, M19, H19, G19⟩ := V15
  have hin19 : ¬ ((4 : Int32) < 0 ∨ cl19.slots.size ≤ ((4 : Int32)).toNatClampNeg) := inb_of S19 ⟨by decide, by decide⟩
  have f20 := (((((E_LOG_INTEGER.ext E2).wr W4).wr W7).wr W11).wr W15)
  have Sto19 : Sto Z h15 b2 (.ref aLI) := Sto.ofV Ar19 q19 O2 (Ins.self f20)
  obtain ⟨T19, h19, X19, e19, W19, st19⟩ := stR X18 hx hZ e18 Ar19 (j := (4 : Int32)) hin19 rfl Sto19 (g := (mkF m 42 #[.val (.int p1), .val (.int ix), .unset, .unset, .unset] [(.ref aLI), (.int (4 : Int32)), (.ref b2), (.ref b2)])) rfl rfl (hb hby at_42)
  have V19 : Arv Z h19 b2 k2 (.object "com/example/furlong/furlong/model/ParameterType") (6 : Int32) [(.ref aC), (.ref aO), (.ref aI), (.ref aR), (.ref aLI), .null] .null := Arv.set Ar19 q19 S19 M19 H19 G19 rfl W19 4 rfl (Nat.le_of_ble_eq_true rfl)
  have Kh19 : Keep h0 h19 [] := Kh15.wr W19 (Or.inr sz_b2)
  have N19 := Fr.snoc X19 N15 g_b2
  have f21 := ((((((S_LOG_REAL.ext E2).wr W4).wr W7).wr W11).wr W15).wr W19)
  obtain ⟨T22, X22, e22, st22⟩ := getS2 X19 hx hZ hown (host := "") (Or.inl (hw _ (List.mem_of_getElem? (i := 15) rfl))) Via.refl e19 f21 (g := (mkF m 45 #[.val (.int p1), .val (.int ix), .unset, .unset, .unset] [(.int (5 : Int32)), (.ref b2), (.ref b2)])) rfl (hb hby at_45)
  obtain ⟨cl23, Ar23, q23, S23, M23, H23, G23⟩ := V19
  have hin23 : ¬ ((5 : Int32) < 0 ∨ cl23.slots.size ≤ ((5 : Int32)).toNatClampNeg) := inb_of S23 ⟨by decide, by decide⟩
  have f24 := ((((((E_LOG_REAL.ext E2).wr W4).wr W7).wr W11).wr W15).wr W19)
  have Sto23 : Sto Z h19 b2 (.ref aLR) := Sto.ofV Ar23 q23 O2 (Ins.self f24)
  obtain ⟨T23, h23, X23, e23, W23, st23⟩ := stR X22 hx hZ e22 Ar23 (j := (5 : Int32)) hin23 rfl Sto23 (g := (mkF m 48 #[.val (.int p1), .val (.int ix), .unset, .unset, .unset] [(.ref aLR), (.int (5 : Int32)), (.ref b2), (.ref b2)])) rfl rfl (hb hby at_48)
  have V23 : Arv Z h23 b2 k2 (.object "com/example/furlong/furlong/model/ParameterType") (6 : Int32) [(.ref aC), (.ref aO), (.ref aI), (.ref aR), (.ref aLI), (.ref aLR)] .null := Arv.set Ar23 q23 S23 M23 H23 G23 rfl W23 5 rfl (Nat.le_of_ble_eq_true rfl)
  have Kh23 : Keep h0 h23 [] := Kh19.wr W23 (Or.inr sz_b2)
  have N23 := Fr.snoc X23 N19 g_b2
  obtain ⟨cl25, Ar25, -, S25, M25, H25, G25⟩ := V23
  have hin25 : ¬ (ix < 0 ∨ cl25.slots.size ≤ (ix).toNatClampNeg) := inb_of S25 hix
  have hat25 : cl25.slots[(ix).toNatClampNeg]? = some (.ref (own_nth ix aC aO aI aR aLI aLR)) := Has.at H25 hin25 (own_get ix hix.1 hix.2 aC aO aI aR aLI aLR)
  have f26 := (((((((E_CATEGORICAL.ext E2).wr W4).wr W7).wr W11).wr W15).wr W19).wr W23)
  have E2_CATEGORICAL := f26
  have f27 := (((((f8.wr W7).wr W11).wr W15).wr W19).wr W23)
  have E2_ORDERED := f27
  have f28 := ((((f12.wr W11).wr W15).wr W19).wr W23)
  have E2_INTEGER := f28
  have f29 := (((f16.wr W15).wr W19).wr W23)
  have E2_REAL := f29
  have f30 := ((f20.wr W19).wr W23)
  have E2_LOG_INTEGER := f30
  have E2_LOG_REAL := (f24.wr W23)
  have EP : Exa Z h23 (own_nth ix aC aO aI aR aLI aLR) "com/example/furlong/furlong/model/ParameterType" := by
    unfold own_nth
    repeat' split
    all_goals assumption
  have md31 : ∀ t, Steps p.tables e below (T23.setTop (mkF m 67 #[.val (.int p1), .val (.int ix), .val (.ref b2), .val (.ref (own_nth ix aC aO aI aR aLI aLR)), .val (.int (if ix = (0 : Int32) then (0 : Int32) else (1 : Int32)))] [])) t → Steps p.tables e below (T23.setTop (mkF m 55 #[.val (.int p1), .val (.int ix), .val (.ref b2), .val (.ref (own_nth ix aC aO aI aR aLI aLR)), .unset] [(.int ix)])) t := by
    intro t kt
    by_cases hd55 : ix = (0 : Int32)
    · rw [show (if ix = (0 : Int32) then (0 : Int32) else (1 : Int32)) = (0 : Int32) from if_pos hd55] at kt
      show Steps p.tables e below (T23.setTop (mkF m 55 #[.val (.int p1), .val (.int ix), .val (.ref b2), .val (.ref (own_nth ix aC aO aI aR aLI aLR)), .unset] [(.int ix)])) _
      refine XS.ifNo X23.here hx rfl (hb hby at_55) rfl ((if0 _ _).trans (teq hd55).2) ?_
      show Steps p.tables e below (T23.setTop (mkF m 58 #[.val (.int p1), .val (.int ix), .val (.ref b2), .val (.ref (own_nth ix aC aO aI aR aLI aLR)), .unset] [])) _
      refine XS.iconst X23.here hx rfl (hb hby at_58) ?_
      show Steps p.tables e below (T23.setTop (mkF m 59 #[.val (.int p1), .val (.int ix), .val (.ref b2), .val (.ref (own_nth ix aC aO aI aR aLI aLR)), .unset] [(.int (0 : Int32))])) _
      refine XS.istore X23.here hx rfl (hb hby at_59) rfl (l' := #[.val (.int p1), .val (.int ix), .val (.ref b2), .val (.ref (own_nth ix aC aO aI aR aLI aLR)), .val (.int (0 : Int32))]) rfl ?_
      show Steps p.tables e below (T23.setTop (mkF m 61 #[.val (.int p1), .val (.int ix), .val (.ref b2), .val (.ref (own_nth ix aC aO aI aR aLI aLR)), .val (.int (0 : Int32))] [])) _
      refine XS.goto X23.here hx rfl (pc0 := 61) (pc' := 67) rfl (hb hby at_61) (by decide) (by decide) ?_
      exact kt
    · rw [show (if ix = (0 : Int32) then (0 : Int32) else (1 : Int32)) = (1 : Int32) from if_neg hd55] at kt
      show Steps p.tables e below (T23.setTop (mkF m 55 #[.val (.int p1), .val (.int ix), .val (.ref b2), .val (.ref (own_nth ix aC aO aI aR aLI aLR)), .unset] [(.int ix)])) _
      refine XS.ifYes X23.here hx rfl (pc0 := 55) (pc' := 64) rfl (hb hby at_55) rfl ((if0 _ _).trans (feq hd55).2) (by decide) (by decide) ?_
      show Steps p.tables e below (T23.setTop (mkF m 64 #[.val (.int p1), .val (.int ix), .val (.ref b2), .val (.ref (own_nth ix aC aO aI aR aLI aLR)), .unset] [])) _
      refine XS.iconst X23.here hx rfl (hb hby at_64) ?_
      show Steps p.tables e below (T23.setTop (mkF m 65 #[.val (.int p1), .val (.int ix), .val (.ref b2), .val (.ref (own_nth ix aC aO aI aR aLI aLR)), .unset] [(.int (1 : Int32))])) _
      refine XS.istore X23.here hx rfl (hb hby at_65) rfl (l' := #[.val (.int p1), .val (.int ix), .val (.ref b2), .val (.ref (own_nth ix aC aO aI aR aLI aLR)), .val (.int (1 : Int32))]) rfl ?_
      exact kt
  have f32 := (((((((S_CATEGORICAL.ext E2).wr W4).wr W7).wr W11).wr W15).wr W19).wr W23)
  obtain ⟨cq33, kq33, q33a, q33b, q33c⟩ := isOf hZ e23 EP
  obtain ⟨_, _, ⟨T33, L33, c33_, n33_⟩, -, X33, ⟨Lc33, hQ33, l33, y33, z33⟩, st33⟩ := X23.virtualBack hx (y := (⟨"com/example/furlong/furlong/model/ParameterType", "isOrdered", "()Z"⟩ : MethodName)) (z := (⟨"com/example/furlong/furlong/model/ParameterType", "isOrdered", "()Z"⟩ : MethodName)) hown (mvT hZ (hw _ (List.mem_of_getElem? (i := 17) rfl))) (mvT hZ (hw _ (List.mem_of_getElem? (i := 18) rfl))) (notFace_of_selects (args := #[]) (mvT hZ (hw _ (List.mem_of_getElem? (i := 20) rfl)))) (mvT hZ (hw _ (List.mem_of_getElem? (i := 20) rfl))) (mvT hZ (hw _ (List.mem_of_getElem? (i := 19) rfl))) (by decide) (backOf (W := 0) (rm_1 l Z a0 hw [] (own_nth ix aC aO aI aR aLI aLR) aC h23 n0 (Nat.le_trans Z0 Kh23.1) f32) hZ (hw _ (List.mem_of_getElem? (i := 21) rfl)) (hw _ (List.mem_of_getElem? (i := 4) rfl)) (by decide) (by decide)) q33a q33c (g := (mkF m 68 #[.val (.int p1), .val (.int ix), .val (.ref b2), .val (.ref (own_nth ix aC aO aI aR aLI aLR)), .val (.int (if ix = (0 : Int32) then (0 : Int32) else (1 : Int32)))] [(.ref (own_nth ix aC aO aI aR aLI aLR))])) rfl (by rw [hml]; rfl) (Steps.refl _) (argsL := []) (rest := []) (lenOf pd__28_29Z rfl) rfl (by show 2 * 0 + _ ≤ _; exact Nat.le_of_eq rfl) (hb hby at_68) (fun _ _ => ⟨rfl, e23, (by decide : 1 + 0 ≤ _), (by decide : 6 + 0 ≤ _)⟩)
  dsimp only [Pt.U, Pt.locs, Pt.cells, Pt.slots] at X33 l33 y33 z33 st33 hQ33
  subst l33 y33 z33
  obtain ⟨rfl, Nq33, e33⟩ := hQ33
  have N33 := Fr.app N23 Nq33
  have hc73 : (if (own_nth ix aC aO aI aR aLI aLR) = aC then (0 : Int32) else (1 : Int32)) = (if ix = (0 : Int32) then (0 : Int32) else (1 : Int32)) := own_is ix hix.1 hix.2 aC aO aI aR aLI aLR ne_ORDERED ne_INTEGER ne_REAL ne_LOG_INTEGER ne_LOG_REAL
  obtain ⟨fs, hr, hrun, hended, hW, hsame⟩ := X33.leave (v := some (.int (1 : Int32))) (fun h => by rw [Bd.returns] at h; cases h)
  refine ⟨_, _, pre0 _ ?_, hrun, hended, _, _, rfl, ?_, ⟨_, rfl⟩, hW, hsame.mono (by decide) (by decide)⟩
  · show Steps p.tables e below (s₁.setTop (mkF m 0 #[.val (.int p1), .unset, .unset, .unset, .unset] [])) _
    refine XS.iloadN X0.here hx rfl (hb hby at_0) rfl ?_
    show Steps p.tables e below (s₁.setTop (mkF m 1 #[.val (.int p1), .unset, .unset, .unset, .unset] [(.int p1)])) _
    refine X0.ldcInt hx hown (mvT hZ (hw _ (List.mem_of_getElem? (i := 0) rfl))) (g := (mkF m 1 #[.val (.int p1), .unset, .unset, .unset, .unset] [(.int p1)])) rfl (hb hby at_1) _ ?_
    show Steps p.tables e below (s₁.setTop (mkF m 3 #[.val (.int p1), .unset, .unset, .unset, .unset] [(.int (2147483647 : Int32)), (.int p1)])) _
    refine XS.iand X0.here hx rfl (hb hby at_3) rfl ?_
    show Steps p.tables e below (s₁.setTop (mkF m 4 #[.val (.int p1), .unset, .unset, .unset, .unset] [(.int (p1 &&& (2147483647 : Int32)))])) _
    refine XS.bipush X0.here hx rfl (hb hby at_4) ?_
    show Steps p.tables e below (s₁.setTop (mkF m 6 #[.val (.int p1), .unset, .unset, .unset, .unset] [(.int (6 : Int32)), (.int (p1 &&& (2147483647 : Int32)))])) _
    refine iremM X0 hx rfl (hb hby at_6) rfl (by decide) ?_
    show Steps p.tables e below (s₁.setTop (mkF m 7 #[.val (.int p1), .unset, .unset, .unset, .unset] [(.int ((p1 &&& (2147483647 : Int32)) % (6 : Int32)))])) _
    refine XS.istoreN X0.here hx rfl (hb hby at_7) rfl (l' := #[.val (.int p1), .val (.int ((p1 &&& (2147483647 : Int32)) % (6 : Int32))), .unset, .unset, .unset]) rfl ?_
    show Steps p.tables e below (s₁.setTop (mkF m 8 #[.val (.int p1), .val (.int ((p1 &&& (2147483647 : Int32)) % (6 : Int32))), .unset, .unset, .unset] [])) _
    rw [← e_ix]
    show Steps p.tables e below (s₁.setTop (mkF m 8 #[.val (.int p1), .val (.int ix), .unset, .unset, .unset] [])) _
    refine XS.bipush X0.here hx rfl (hb hby at_8) ?_
    show Steps p.tables e below (s₁.setTop (mkF m 10 #[.val (.int p1), .val (.int ix), .unset, .unset, .unset] [(.int (6 : Int32))])) _
    refine st2 _ ?_
    show Steps p.tables e below (T2.setTop (mkF m 13 #[.val (.int p1), .val (.int ix), .unset, .unset, .unset] [(.ref b2)])) _
    refine XS.dup X2.here hx rfl (hb hby at_13) rfl rfl ?_
    show Steps p.tables e below (T2.setTop (mkF m 14 #[.val (.int p1), .val (.int ix), .unset, .unset, .unset] [(.ref b2), (.ref b2)])) _
    refine XS.iconst X2.here hx rfl (hb hby at_14) ?_
    show Steps p.tables e below (T2.setTop (mkF m 15 #[.val (.int p1), .val (.int ix), .unset, .unset, .unset] [(.int (0 : Int32)), (.ref b2), (.ref b2)])) _
    refine st3 _ ?_
    show Steps p.tables e below (T3.setTop (mkF m 18 #[.val (.int p1), .val (.int ix), .unset, .unset, .unset] [(.ref aC), (.int (0 : Int32)), (.ref b2), (.ref b2)])) _
    refine st4 _ ?_
    show Steps p.tables e below (T4.setTop (mkF m 19 #[.val (.int p1), .val (.int ix), .unset, .unset, .unset] [(.ref b2)])) _
    refine XS.dup X4.here hx rfl (hb hby at_19) rfl rfl ?_
    show Steps p.tables e below (T4.setTop (mkF m 20 #[.val (.int p1), .val (.int ix), .unset, .unset, .unset] [(.ref b2), (.ref b2)])) _
    refine XS.iconst X4.here hx rfl (hb hby at_20) ?_
    show Steps p.tables e below (T4.setTop (mkF m 21 #[.val (.int p1), .val (.int ix), .unset, .unset, .unset] [(.int (1 : Int32)), (.ref b2), (.ref b2)])) _
    refine st6 _ ?_
    show Steps p.tables e below (T6.setTop (mkF m 24 #[.val (.int p1), .val (.int ix), .unset, .unset, .unset] [(.ref aO), (.int (1 : Int32)), (.ref b2), (.ref b2)])) _
    refine st7 _ ?_
    show Steps p.tables e below (T7.setTop (mkF m 25 #[.val (.int p1), .val (.int ix), .unset, .unset, .unset] [(.ref b2)])) _
    refine XS.dup X7.here hx rfl (hb hby at_25) rfl rfl ?_
    show Steps p.tables e below (T7.setTop (mkF m 26 #[.val (.int p1), .val (.int ix), .unset, .unset, .unset] [(.ref b2), (.ref b2)])) _
    refine XS.iconst X7.here hx rfl (hb hby at_26) ?_
    show Steps p.tables e below (T7.setTop (mkF m 27 #[.val (.int p1), .val (.int ix), .unset, .unset, .unset] [(.int (2 : Int32)), (.ref b2), (.ref b2)])) _
    refine st10 _ ?_
    show Steps p.tables e below (T10.setTop (mkF m 30 #[.val (.int p1), .val (.int ix), .unset, .unset, .unset] [(.ref aI), (.int (2 : Int32)), (.ref b2), (.ref b2)])) _
    refine st11 _ ?_
    show Steps p.tables e below (T11.setTop (mkF m 31 #[.val (.int p1), .val (.int ix), .unset, .unset, .unset] [(.ref b2)])) _
    refine XS.dup X11.here hx rfl (hb hby at_31) rfl rfl ?_
    show Steps p.tables e below (T11.setTop (mkF m 32 #[.val (.int p1), .val (.int ix), .unset, .unset, .unset] [(.ref b2), (.ref b2)])) _
    refine XS.iconst X11.here hx rfl (hb hby at_32) ?_
    show Steps p.tables e below (T11.setTop (mkF m 33 #[.val (.int p1), .val (.int ix), .unset, .unset, .unset] [(.int (3 : Int32)), (.ref b2), (.ref b2)])) _
    refine st14 _ ?_
    show Steps p.tables e below (T14.setTop (mkF m 36 #[.val (.int p1), .val (.int ix), .unset, .unset, .unset] [(.ref aR), (.int (3 : Int32)), (.ref b2), (.ref b2)])) _
    refine st15 _ ?_
    show Steps p.tables e below (T15.setTop (mkF m 37 #[.val (.int p1), .val (.int ix), .unset, .unset, .unset] [(.ref b2)])) _
    refine XS.dup X15.here hx rfl (hb hby at_37) rfl rfl ?_
    show Steps p.tables e below (T15.setTop (mkF m 38 #[.val (.int p1), .val (.int ix), .unset, .unset, .unset] [(.ref b2), (.ref b2)])) _
    refine XS.iconst X15.here hx rfl (hb hby at_38) ?_
    show Steps p.tables e below (T15.setTop (mkF m 39 #[.val (.int p1), .val (.int ix), .unset, .unset, .unset] [(.int (4 : Int32)), (.ref b2), (.ref b2)])) _
    refine st18 _ ?_
    show Steps p.tables e below (T18.setTop (mkF m 42 #[.val (.int p1), .val (.int ix), .unset, .unset, .unset] [(.ref aLI), (.int (4 : Int32)), (.ref b2), (.ref b2)])) _
    refine st19 _ ?_
    show Steps p.tables e below (T19.setTop (mkF m 43 #[.val (.int p1), .val (.int ix), .unset, .unset, .unset] [(.ref b2)])) _
    refine XS.dup X19.here hx rfl (hb hby at_43) rfl rfl ?_
    show Steps p.tables e below (T19.setTop (mkF m 44 #[.val (.int p1), .val (.int ix), .unset, .unset, .unset] [(.ref b2), (.ref b2)])) _
    refine XS.iconst X19.here hx rfl (hb hby at_44) ?_
    show Steps p.tables e below (T19.setTop (mkF m 45 #[.val (.int p1), .val (.int ix), .unset, .unset, .unset] [(.int (5 : Int32)), (.ref b2), (.ref b2)])) _
    refine st22 _ ?_
    show Steps p.tables e below (T22.setTop (mkF m 48 #[.val (.int p1), .val (.int ix), .unset, .unset, .unset] [(.ref aLR), (.int (5 : Int32)), (.ref b2), (.ref b2)])) _
    refine st23 _ ?_
    show Steps p.tables e below (T23.setTop (mkF m 49 #[.val (.int p1), .val (.int ix), .unset, .unset, .unset] [(.ref b2)])) _
    refine XS.astoreN X23.here hx rfl (hb hby at_49) rfl rfl (l' := #[.val (.int p1), .val (.int ix), .val (.ref b2), .unset, .unset]) rfl ?_
    show Steps p.tables e below (T23.setTop (mkF m 50 #[.val (.int p1), .val (.int ix), .val (.ref b2), .unset, .unset] [])) _
    refine XS.aloadN X23.here hx rfl (hb hby at_50) rfl rfl ?_
    show Steps p.tables e below (T23.setTop (mkF m 51 #[.val (.int p1), .val (.int ix), .val (.ref b2), .unset, .unset] [(.ref b2)])) _
    refine XS.iloadN X23.here hx rfl (hb hby at_51) rfl ?_
    show Steps p.tables e below (T23.setTop (mkF m 52 #[.val (.int p1), .val (.int ix), .val (.ref b2), .unset, .unset] [(.int ix), (.ref b2)])) _
    refine X23.aaload hx (j := ix) (v := (.ref (own_nth ix aC aO aI aR aLI aLR))) (by rw [e23]; exact Ar25.1) (State.isArrayOf_alike hZ.alike Ar25.2.1) rfl Ar25.2.2 hin25 hat25 (g := (mkF m 52 #[.val (.int p1), .val (.int ix), .val (.ref b2), .unset, .unset] [(.int ix), (.ref b2)])) rfl rfl (hb hby at_52) _ ?_
    show Steps p.tables e below (T23.setTop (mkF m 53 #[.val (.int p1), .val (.int ix), .val (.ref b2), .unset, .unset] [(.ref (own_nth ix aC aO aI aR aLI aLR))])) _
    refine XS.astoreN X23.here hx rfl (hb hby at_53) rfl rfl (l' := #[.val (.int p1), .val (.int ix), .val (.ref b2), .val (.ref (own_nth ix aC aO aI aR aLI aLR)), .unset]) rfl ?_
    show Steps p.tables e below (T23.setTop (mkF m 54 #[.val (.int p1), .val (.int ix), .val (.ref b2), .val (.ref (own_nth ix aC aO aI aR aLI aLR)), .unset] [])) _
    refine XS.iloadN X23.here hx rfl (hb hby at_54) rfl ?_
    show Steps p.tables e below (T23.setTop (mkF m 55 #[.val (.int p1), .val (.int ix), .val (.ref b2), .val (.ref (own_nth ix aC aO aI aR aLI aLR)), .unset] [(.int ix)])) _
    refine md31 _ ?_
    show Steps p.tables e below (T23.setTop (mkF m 67 #[.val (.int p1), .val (.int ix), .val (.ref b2), .val (.ref (own_nth ix aC aO aI aR aLI aLR)), .val (.int (if ix = (0 : Int32) then (0 : Int32) else (1 : Int32)))] [])) _
    refine XS.aloadN X23.here hx rfl (hb hby at_67) rfl rfl ?_
    show Steps p.tables e below (T23.setTop (mkF m 68 #[.val (.int p1), .val (.int ix), .val (.ref b2), .val (.ref (own_nth ix aC aO aI aR aLI aLR)), .val (.int (if ix = (0 : Int32) then (0 : Int32) else (1 : Int32)))] [(.ref (own_nth ix aC aO aI aR aLI aLR))])) _
    refine st33.trans ?_
    show Steps p.tables e below (T33.setTop (mkF m 71 #[.val (.int p1), .val (.int ix), .val (.ref b2), .val (.ref (own_nth ix aC aO aI aR aLI aLR)), .val (.int (if ix = (0 : Int32) then (0 : Int32) else (1 : Int32)))] [(.int (if (own_nth ix aC aO aI aR aLI aLR) = aC then (0 : Int32) else (1 : Int32)))])) _
    refine XS.iload X33.here hx rfl (hb hby at_71) rfl ?_
    show Steps p.tables e below (T33.setTop (mkF m 73 #[.val (.int p1), .val (.int ix), .val (.ref b2), .val (.ref (own_nth ix aC aO aI aR aLI aLR)), .val (.int (if ix = (0 : Int32) then (0 : Int32) else (1 : Int32)))] [(.int (if ix = (0 : Int32) then (0 : Int32) else (1 : Int32))), (.int (if (own_nth ix aC aO aI aR aLI aLR) = aC then (0 : Int32) else (1 : Int32)))])) _
    refine XS.icmpNo X33.here hx rfl (hb hby at_73) rfl (teq hc73).2 ?_
    show Steps p.tables e below (T33.setTop (mkF m 76 #[.val (.int p1), .val (.int ix), .val (.ref b2), .val (.ref (own_nth ix aC aO aI aR aLI aLR)), .val (.int (if ix = (0 : Int32) then (0 : Int32) else (1 : Int32)))] [])) _
    refine XS.iconst X33.here hx rfl (hb hby at_76) ?_
    show Steps p.tables e below (T33.setTop (mkF m 77 #[.val (.int p1), .val (.int ix), .val (.ref b2), .val (.ref (own_nth ix aC aO aI aR aLI aLR)), .val (.int (if ix = (0 : Int32) then (0 : Int32) else (1 : Int32)))] [(.int (1 : Int32))])) _
    refine XS.goto X33.here hx rfl (pc0 := 77) (pc' := 81) rfl (hb hby at_77) (by decide) (by decide) ?_
    show Steps p.tables e below (T33.setTop (mkF m 81 #[.val (.int p1), .val (.int ix), .val (.ref b2), .val (.ref (own_nth ix aC aO aI aR aLI aLR)), .val (.int (if ix = (0 : Int32) then (0 : Int32) else (1 : Int32)))] [(.int (1 : Int32))])) _
    exact retN X33 hx (t := .boolean) Bd.returns (by simp) (hb hby at_81) hr
  · show Q_0 Z p1 aC aO aI aR aLI aLR h0 n0 _ T33.heap _
    rw [e33]
    exact ⟨rfl, N33⟩
set_option maxRecDepth 65536 in
set_option maxHeartbeats 40000000 in
theorem comes_1 {Post : Tables → Env → Array Value → State → Outcome → State → Prop} (hpost : ∀ tb e args s v u, (limb_1_1.after args s (.returned v) u = true ∧ limb_1_2.after args s (.returned v) u = true ∧ True) → FrameEnd s (.returned v) u (Jvm.fieldLocs frame_1_writes args s ++ Jvm.arrayLocs frame_1_arrays args s ++ Jvm.staticLocs frame_1_statics s) 16 128 → Post tb e args s (.returned v) u) :
    ArmFor flags0 classFile x code maxLocals ret World_1 tables_1 room_1 Calls_1 rest_1 Pre_1 Post := by
  intro l hfl _ _ p e ha hc hk s m args below hf hA hF happ hP
  obtain ⟨hcalls, hrest, hpre⟩ := hP
  obtain ⟨-, -, -, hnamed, -, -, -, hat⟩ := (Spec.applies_iff hf).mp happ
  obtain ⟨hg, hn⟩ := and_e (Cond.before_iff.mp (show (Jvm.Cond.and given_1 narrow_1).before args s = true from hpre))
  obtain ⟨g34, g35⟩ := and_e hg
  obtain ⟨k36, k37⟩ := and_e hn
  obtain ⟨k38, k39⟩ := and_e k37
  obtain ⟨k40, k41⟩ := and_e k39
  obtain ⟨k42, k43⟩ := and_e k41
  obtain ⟨k44, k45⟩ := and_e k43
  obtain ⟨k46, k47⟩ := and_e k45
  obtain ⟨k48, k49⟩ := and_e k47
  obtain ⟨k50, k51⟩ := and_e k49
  obtain ⟨k52, k53⟩ := and_e k51
  obtain ⟨k54, k55⟩ := and_e k53
  obtain ⟨k56, k57⟩ := and_e k55
  obtain ⟨w0, rfl⟩ : ∃ w0 : Value, args = #[w0] := by
    have hs : args.size = 1 := by simpa [Cond.value, given_1] using g34
    obtain ⟨L⟩ := args
    match L, hs with
    | [w0], _ => exact ⟨w0, rfl⟩
  have hw := fun d (hd : d ∈ tables_1) => atoms_spec (ws := Jvm.Cond.code x code maxLocals ret :: tables_1) hat d (List.mem_cons_of_mem _ hd)
  have hfit : Fit s := fun {y c} hc i hi => by
    obtain ⟨ha, rfl⟩ := Array.getElem?_eq_some_iff.mp hc
    have q := List.all_eq_true.mp ((Array.all_eq_true_iff_forall_mem.mp hF) _ (Array.getElem_mem ha)) i (List.mem_range.mpr hi)
    simpa [Array.getElem?_eq_getElem hi] using q
  obtain ⟨i0, ei0⟩ := is_v g35
  obtain rfl : w0 = (.int i0) := Option.some.inj ei0
  obtain ⟨a_CATEGORICAL, v_CATEGORICAL⟩ := exa_v k36
  have S_CATEGORICAL : Sta s s.heap "com/example/furlong/furlong/model/ParameterType" "CATEGORICAL" "Lcom/example/furlong/furlong/model/ParameterType;" (.ref a_CATEGORICAL) := Sta.start v_CATEGORICAL (Or.inr ⟨(hw _ (List.mem_of_getElem? (i := 4) rfl)), (hw _ (List.mem_of_getElem? (i := 5) rfl))⟩)
  have E_CATEGORICAL : Exa s s.heap a_CATEGORICAL "com/example/furlong/furlong/model/ParameterType" := Exa.start v_CATEGORICAL k36
  obtain ⟨a_ORDERED, v_ORDERED⟩ := exa_v k38
  have S_ORDERED : Sta s s.heap "com/example/furlong/furlong/model/ParameterType" "ORDERED" "Lcom/example/furlong/furlong/model/ParameterType;" (.ref a_ORDERED) := Sta.start v_ORDERED (Or.inr ⟨(hw _ (List.mem_of_getElem? (i := 4) rfl)), (hw _ (List.mem_of_getElem? (i := 8) rfl))⟩)
  have E_ORDERED : Exa s s.heap a_ORDERED "com/example/furlong/furlong/model/ParameterType" := Exa.start v_ORDERED k38
  obtain ⟨a_INTEGER, v_INTEGER⟩ := exa_v k40
  have S_INTEGER : Sta s s.heap "com/example/furlong/furlong/model/ParameterType" "INTEGER" "Lcom/example/furlong/furlong/model/ParameterType;" (.ref a_INTEGER) := Sta.start v_INTEGER (Or.inr ⟨(hw _ (List.mem_of_getElem? (i := 4) rfl)), (hw _ (List.mem_of_getElem? (i := 10) rfl))⟩)
  have E_INTEGER : Exa s s.heap a_INTEGER "com/example/furlong/furlong/model/ParameterType" := Exa.start v_INTEGER k40
  obtain ⟨a_REAL, v_REAL⟩ := exa_v k42
  have S_REAL : Sta s s.heap "com/example/furlong/furlong/model/ParameterType" "REAL" "Lcom/example/furlong/furlong/model/ParameterType;" (.ref a_REAL) := Sta.start v_REAL (Or.inr ⟨(hw _ (List.mem_of_getElem? (i := 4) rfl)), (hw _ (List.mem_of_getElem? (i := 12) rfl))⟩)
  have E_REAL : Exa s s.heap a_REAL "com/example/furlong/furlong/model/ParameterType" := Exa.start v_REAL k42
  obtain ⟨a_LOG_INTEGER, v_LOG_INTEGER⟩ := exa_v k44
  have S_LOG_INTEGER : Sta s s.heap "com/example/furlong/furlong/model/ParameterType" "LOG_INTEGER" "Lcom/example/furlong/furlong/model/ParameterType;" (.ref a_LOG_INTEGER) := Sta.start v_LOG_INTEGER (Or.inr ⟨(hw _ (List.mem_of_getElem? (i := 4) rfl)), (hw _ (List.mem_of_getElem? (i := 14) rfl))⟩)
  have E_LOG_INTEGER : Exa s s.heap a_LOG_INTEGER "com/example/furlong/furlong/model/ParameterType" := Exa.start v_LOG_INTEGER k44
  obtain ⟨a_LOG_REAL, v_LOG_REAL⟩ := exa_v k46
  have S_LOG_REAL : Sta s s.heap "com/example/furlong/furlong/model/ParameterType" "LOG_REAL" "Lcom/example/furlong/furlong/model/ParameterType;" (.ref a_LOG_REAL) := Sta.start v_LOG_REAL (Or.inr ⟨(hw _ (List.mem_of_getElem? (i := 4) rfl)), (hw _ (List.mem_of_getElem? (i := 16) rfl))⟩)
  have E_LOG_REAL : Exa s s.heap a_LOG_REAL "com/example/furlong/furlong/model/ParameterType" := Exa.start v_LOG_REAL k46
  have F_REAL_ordinal : Fld s s.heap a_REAL "java/lang/Enum" "ordinal" "I" (.int (3 : Int32)) := Fld.start ((fld_at v_REAL).symm.trans (own_eqI k48))
  have F_CATEGORICAL_ordinal : Fld s s.heap a_CATEGORICAL "java/lang/Enum" "ordinal" "I" (.int (0 : Int32)) := Fld.start ((fld_at v_CATEGORICAL).symm.trans (own_eqI k50))
  have F_INTEGER_ordinal : Fld s s.heap a_INTEGER "java/lang/Enum" "ordinal" "I" (.int (2 : Int32)) := Fld.start ((fld_at v_INTEGER).symm.trans (own_eqI k52))
  have F_ORDERED_ordinal : Fld s s.heap a_ORDERED "java/lang/Enum" "ordinal" "I" (.int (1 : Int32)) := Fld.start ((fld_at v_ORDERED).symm.trans (own_eqI k54))
  have F_LOG_REAL_ordinal : Fld s s.heap a_LOG_REAL "java/lang/Enum" "ordinal" "I" (.int (5 : Int32)) := Fld.start ((fld_at v_LOG_REAL).symm.trans (own_eqI k56))
  have F_LOG_INTEGER_ordinal : Fld s s.heap a_LOG_INTEGER "java/lang/Enum" "ordinal" "I" (.int (4 : Int32)) := Fld.start ((fld_at v_LOG_INTEGER).symm.trans (own_eqI k57))
  have ne_ORDERED : a_CATEGORICAL ≠ a_ORDERED := F_CATEGORICAL_ordinal.ne F_ORDERED_ordinal (by decide)
  have ne_INTEGER : a_CATEGORICAL ≠ a_INTEGER := F_CATEGORICAL_ordinal.ne F_INTEGER_ordinal (by decide)
  have ne_REAL : a_CATEGORICAL ≠ a_REAL := F_CATEGORICAL_ordinal.ne F_REAL_ordinal (by decide)
  have ne_LOG_INTEGER : a_CATEGORICAL ≠ a_LOG_INTEGER := F_CATEGORICAL_ordinal.ne F_LOG_INTEGER_ordinal (by decide)
  have ne_LOG_REAL : a_CATEGORICAL ≠ a_LOG_REAL := F_CATEGORICAL_ordinal.ne F_LOG_REAL_ordinal (by decide)
  obtain ⟨n, o, h1, h2, h3, _, L, rfl, ⟨rfl, N⟩, hq⟩ := rm_0 l s _ hw tables_1 i0 a_CATEGORICAL a_ORDERED a_INTEGER a_REAL a_LOG_INTEGER a_LOG_REAL s.heap s.heap.size (Nat.le_refl _) S_CATEGORICAL S_ORDERED S_INTEGER S_REAL S_LOG_INTEGER S_LOG_REAL E_CATEGORICAL E_ORDERED E_INTEGER E_REAL E_LOG_INTEGER E_LOG_REAL ne_ORDERED ne_INTEGER ne_REAL ne_LOG_INTEGER ne_LOG_REAL p e ha hc hk s m _ below hf ((Spec.applies_iff_loose hf).mp happ).1 ⟨rfl, State.Warmed39.refl s, rfl⟩ trivial
  refine ⟨n, _, h1, h2, h3, hpost _ _ _ _ _ _ ⟨Cond.after_iff.mpr rfl, Cond.after_iff.mpr (eq_i res_at (Term.int_eval (1)) rfl), trivial⟩ ⟨hq.1, hq.2.1, (hq.2.2.sift fun y hy => Or.inr (N y hy)).mono (by decide) (by decide)⟩⟩
theorem main_1_1 : Claimed_1_1 := comes_1 fun _ _ _ _ _ _ h hF => ⟨h.1, hF⟩
theorem main_1_2 : Claimed_1_2 := comes_1 fun _ _ _ _ _ _ h hF => ⟨h.2.1, hF⟩
end Jvm.Pilot.@@N@@
namespace Jvm.Pilot.@@N@@
open Jvm Jvm.ClassFile Sem Op Lib Jvm.Free Jvm.Stand Jvm.Pilot.@@N@@.Jvm.D
/-! MADE BY PROGRAM (witnessworld.py) out of the Statement's table words and the real class files: 13 classes; the members and pool entries that the words name. The judged class is class 1, her method 1. -/
namespace start1
open Jvm.ClassFile
def u (s : String) : CpInfo := .utf8 (stringToUtf16 s)
/-- a pool by its gaps: so many unusable entries, then the entry; so many at the end -/
def gap : Nat → List CpInfo → List CpInfo
  | 0, r => r
  | n + 1, r => .unusable :: gap n r
def poolList (es : List (Nat × CpInfo)) (last : Nat) : List CpInfo := es.foldr (fun e r => gap e.1 (e.2 :: r)) (gap last [])
def pool (es : List (Nat × CpInfo)) (last : Nat) : Array CpInfo := ⟨poolList es last⟩
def fileOf (pool : Array CpInfo) (this : Nat) (attrs : Array Attribute := #[]) (ms : Array MethodInfo := #[]) (fl : Nat := 33) (sup : Nat := 0) (ifs : Array Nat := #[]) (fds : Array FieldInfo := #[]) : ClassFile where
  minorVersion := 0
  majorVersion := 65
  constantPool := pool
  accessFlags := fl
  thisClass := this
  superClass := sup
  interfaces := ifs
  fields := fds
  methods := ms
  attributes := attrs
def plain (name : String) (sup : Option ClassId) : Class where
  name := name
  kind := .ordinary
  loader := none
  accessFlags := 33
  super := sup
  interfaces := #[]
  cf := none
  fields := #[]
  methods := #[]
  instanceTypes := #[]
  staticTypes := #[]
  resolved := #[]
  callSites := []
  init := .initialized
  statics := none
  mirror := none

def pool0 : Array CpInfo := pool [(5, u "<init>"), (0, u "()V"), (1, .class_ 10), (1, u "java/lang/Object")] 113

def k0m0 : Method := { name := "<init>", desc := "()V", sig := { parameters := [], returnType := none }, accessFlags := 1, code := none }
/-- java/lang/Object -/
def k0 : Class := { plain "java/lang/Object" none with
  accessFlags := 33
  interfaces := #[]
  cf := some (fileOf pool0 8 #[] #[{ accessFlags := 1, nameIndex := 5, descriptorIndex := 6, attributes := #[] }] 33 0 #[] #[])
  fields := #[]
  methods := #[k0m0]
  instanceTypes := #[]
  staticTypes := #[]
  resolved := Array.replicate 124 none
  statics := none }

def pool1 : Array CpInfo := pool [(2, .class_ 4), (1, u "java/lang/Object"), (0, u "<init>"), (0, u "()V"), (0, .integer 2147483647), (0, .class_ 9), (0, u "com/example/furlong/furlong/model/ParameterType"), (0, .fieldref 8 11), (0, .nameAndType 12 13), (0, u "CATEGORICAL"), (0, u "Lcom/example/furlong/furlong/model/ParameterType;"), (0, .fieldref 8 15), (0, .nameAndType 16 13), (0, u "ORDERED"), (0, .fieldref 8 18), (0, .nameAndType 19 13), (0, u "INTEGER"), (0, .fieldref 8 21), (0, .nameAndType 22 13), (0, u "REAL"), (0, .fieldref 8 24), (0, .nameAndType 25 13), (0, u "LOG_INTEGER"), (0, .fieldref 8 27), (0, .nameAndType 28 13), (0, u "LOG_REAL"), (0, .methodref 8 30), (0, .nameAndType 31 32), (0, u "isOrdered"), (0, u "()Z"), (0, .class_ 34), (0, u "com/example/furlong/furlong/model/ParameterTypeIsOrderedPinLaw"), (2, u "law"), (0, u "(I)Z")] 5

def k1m0 : Method := { name := "<init>", desc := "()V", sig := { parameters := [], returnType := none }, accessFlags := 2, code := none }
def k1c1 : Code := { maxStack := 4, maxLocals := 5, code := code, exceptionTable := #[], attributes := #[] }
def k1m1 : Method := { name := "law", desc := "(I)Z", sig := { parameters := [.int], returnType := some .boolean }, accessFlags := 9, code := some k1c1 }
/-- com/example/furlong/furlong/model/ParameterTypeIsOrderedPinLaw -/
def k1 : Class := { plain "com/example/furlong/furlong/model/ParameterTypeIsOrderedPinLaw" (some 0) with
  accessFlags := 49
  interfaces := #[]
  cf := some (fileOf pool1 33 #[] #[{ accessFlags := 2, nameIndex := 5, descriptorIndex := 6, attributes := #[] }, { accessFlags := 9, nameIndex := 37, descriptorIndex := 38, attributes := #[] }] 49 2 #[] #[])
  fields := #[]
  methods := #[k1m0, k1m1]
  instanceTypes := #[]
  staticTypes := #[]
  resolved := Array.replicate 44 none
  statics := none }

def pool2 : Array CpInfo := pool [(1, .class_ 2), (0, u "java/lang/constant/Constable"), (0, .class_ 4), (0, u "java/lang/Object")] 6

/-- java/lang/constant/Constable -/
def k2 : Class := { plain "java/lang/constant/Constable" (some 0) with
  accessFlags := 1537
  interfaces := #[]
  cf := some (fileOf pool2 1 #[] #[] 1537 3 #[] #[])
  fields := #[]
  methods := #[]
  instanceTypes := #[]
  staticTypes := #[]
  resolved := Array.replicate 11 none
  statics := none }

def pool3 : Array CpInfo := pool [(1, .class_ 2), (0, u "java/lang/Comparable"), (0, .class_ 4), (0, u "java/lang/Object")] 7

/-- java/lang/Comparable -/
def k3 : Class := { plain "java/lang/Comparable" (some 0) with
  accessFlags := 1537
  interfaces := #[]
  cf := some (fileOf pool3 1 #[] #[] 1537 3 #[] #[])
  fields := #[]
  methods := #[]
  instanceTypes := #[]
  staticTypes := #[]
  resolved := Array.replicate 12 none
  statics := none }

def pool4 : Array CpInfo := pool [(1, .class_ 2), (0, u "java/io/Serializable"), (0, .class_ 4), (0, u "java/lang/Object")] 2

/-- java/io/Serializable -/
def k4 : Class := { plain "java/io/Serializable" (some 0) with
  accessFlags := 1537
  interfaces := #[]
  cf := some (fileOf pool4 1 #[] #[] 1537 3 #[] #[])
  fields := #[]
  methods := #[]
  instanceTypes := #[]
  staticTypes := #[]
  resolved := Array.replicate 7 none
  statics := none }

def pool5 : Array CpInfo := pool [(2, .class_ 4), (1, u "java/lang/Enum"), (0, u "name"), (0, u "Ljava/lang/String;"), (2, u "ordinal"), (0, u "I"), (1, .class_ 14), (1, u "java/lang/Object"), (4, u "hash"), (86, .class_ 108), (1, u "java/lang/Enum$EnumDesc"), (2, .class_ 112), (0, u "java/lang/constant/Constable"), (0, .class_ 114), (0, u "java/lang/Comparable"), (0, .class_ 116), (0, u "java/io/Serializable")] 87

/-- java/lang/Enum -/
def k5 : Class := { plain "java/lang/Enum" (some 0) with
  accessFlags := 1057
  interfaces := #[2, 3, 4]
  cf := some (fileOf pool5 2 #[.nestMembers #[106]] #[] 1057 12 #[111, 113, 115] #[{ accessFlags := 18, nameIndex := 5, descriptorIndex := 6, attributes := #[] }, { accessFlags := 18, nameIndex := 9, descriptorIndex := 10, attributes := #[] }, { accessFlags := 2, nameIndex := 19, descriptorIndex := 10, attributes := #[] }])
  fields := #[{ name := "name", type := (.object "java/lang/String"), accessFlags := 18, slot := 0, constantValue := 0 }, { name := "ordinal", type := .int, accessFlags := 18, slot := 1, constantValue := 0 }, { name := "hash", type := .int, accessFlags := 2, slot := 2, constantValue := 0 }]
  methods := #[]
  instanceTypes := #[(.object "java/lang/String"), .int, .int]
  staticTypes := #[]
  resolved := Array.replicate 204 none
  statics := none }

def pool6 : Array CpInfo := pool [(1, .class_ 2), (0, u "com/example/furlong/furlong/model/ParameterType"), (0, .fieldref 1 4), (0, .nameAndType 5 6), (0, u "CATEGORICAL"), (0, u "Lcom/example/furlong/furlong/model/ParameterType;"), (2, u "ORDERED"), (2, u "INTEGER"), (2, u "REAL"), (2, u "LOG_INTEGER"), (2, u "LOG_REAL"), (2, u "$VALUES"), (0, u "[Lcom/example/furlong/furlong/model/ParameterType;"), (6, .class_ 34), (1, u "java/lang/Enum"), (8, u "word"), (0, u "Ljava/lang/String;"), (2, u "numeric"), (0, u "Z"), (2, u "integer"), (2, u "logScale"), (51, u "()Z"), (2, u "isOrdered")] 10

def k6c0 : Code := { maxStack := 2, maxLocals := 1, code := prog_39_method_8_code, exceptionTable := #[], attributes := #[] }
def k6m0 : Method := { name := "isOrdered", desc := "()Z", sig := { parameters := [], returnType := some .boolean }, accessFlags := 1, code := some k6c0 }
/-- com/example/furlong/furlong/model/ParameterType -/
def k6 : Class := { plain "com/example/furlong/furlong/model/ParameterType" (some 5) with
  accessFlags := 16433
  interfaces := #[]
  cf := some (fileOf pool6 1 #[] #[{ accessFlags := 1, nameIndex := 109, descriptorIndex := 106, attributes := #[] }] 16433 32 #[] #[{ accessFlags := 16409, nameIndex := 5, descriptorIndex := 6, attributes := #[] }, { accessFlags := 16409, nameIndex := 9, descriptorIndex := 6, attributes := #[] }, { accessFlags := 16409, nameIndex := 12, descriptorIndex := 6, attributes := #[] }, { accessFlags := 16409, nameIndex := 15, descriptorIndex := 6, attributes := #[] }, { accessFlags := 16409, nameIndex := 18, descriptorIndex := 6, attributes := #[] }, { accessFlags := 16409, nameIndex := 21, descriptorIndex := 6, attributes := #[] }, { accessFlags := 18, nameIndex := 43, descriptorIndex := 44, attributes := #[] }, { accessFlags := 18, nameIndex := 47, descriptorIndex := 48, attributes := #[] }, { accessFlags := 18, nameIndex := 51, descriptorIndex := 48, attributes := #[] }, { accessFlags := 18, nameIndex := 54, descriptorIndex := 48, attributes := #[] }, { accessFlags := 4122, nameIndex := 24, descriptorIndex := 25, attributes := #[] }])
  fields := #[{ name := "CATEGORICAL", type := (.object "com/example/furlong/furlong/model/ParameterType"), accessFlags := 16409, slot := 0, constantValue := 0 }, { name := "ORDERED", type := (.object "com/example/furlong/furlong/model/ParameterType"), accessFlags := 16409, slot := 1, constantValue := 0 }, { name := "INTEGER", type := (.object "com/example/furlong/furlong/model/ParameterType"), accessFlags := 16409, slot := 2, constantValue := 0 }, { name := "REAL", type := (.object "com/example/furlong/furlong/model/ParameterType"), accessFlags := 16409, slot := 3, constantValue := 0 }, { name := "LOG_INTEGER", type := (.object "com/example/furlong/furlong/model/ParameterType"), accessFlags := 16409, slot := 4, constantValue := 0 }, { name := "LOG_REAL", type := (.object "com/example/furlong/furlong/model/ParameterType"), accessFlags := 16409, slot := 5, constantValue := 0 }, { name := "word", type := (.object "java/lang/String"), accessFlags := 18, slot := 3, constantValue := 0 }, { name := "numeric", type := .boolean, accessFlags := 18, slot := 4, constantValue := 0 }, { name := "integer", type := .boolean, accessFlags := 18, slot := 5, constantValue := 0 }, { name := "logScale", type := .boolean, accessFlags := 18, slot := 6, constantValue := 0 }, { name := "$VALUES", type := (.array (.object "com/example/furlong/furlong/model/ParameterType")), accessFlags := 4122, slot := 6, constantValue := 0 }]
  methods := #[k6m0]
  instanceTypes := #[(.object "java/lang/String"), .int, .int, (.object "java/lang/String"), .boolean, .boolean, .boolean]
  staticTypes := #[(.object "com/example/furlong/furlong/model/ParameterType"), (.object "com/example/furlong/furlong/model/ParameterType"), (.object "com/example/furlong/furlong/model/ParameterType"), (.object "com/example/furlong/furlong/model/ParameterType"), (.object "com/example/furlong/furlong/model/ParameterType"), (.object "com/example/furlong/furlong/model/ParameterType"), (.array (.object "com/example/furlong/furlong/model/ParameterType"))]
  resolved := Array.replicate 120 none
  statics := some 0 }

def pool7 : Array CpInfo := pool [(1, u "java/lang/Cloneable"), (0, .class_ 1), (0, u "java/lang/Object"), (0, .class_ 3)] 3

/-- java/lang/Cloneable -/
def k7 : Class := { plain "java/lang/Cloneable" (some 0) with
  accessFlags := 1537
  interfaces := #[]
  cf := some (fileOf pool7 2 #[] #[] 1537 4 #[] #[])
  fields := #[]
  methods := #[]
  instanceTypes := #[]
  staticTypes := #[]
  resolved := Array.replicate 8 none
  statics := none }

/-- the primitive byte -/
def k8 : Class := { plain "byte" none with kind := .primitive 'B', accessFlags := 0x411 }
/-- [B -/
def k9 : Class := { plain "[B" (some 0) with kind := .array 8 .byte, interfaces := #[7, 4], accessFlags := 1041 }

/-- the primitive int -/
def k10 : Class := { plain "int" none with kind := .primitive 'I', accessFlags := 0x411 }
/-- [I -/
def k11 : Class := { plain "[I" (some 0) with kind := .array 10 .int, interfaces := #[7, 4], accessFlags := 1041 }

/-- [Lcom/example/furlong/furlong/model/ParameterType; -/
def k12 : Class := { plain "[Lcom/example/furlong/furlong/model/ParameterType;" (some 0) with kind := .array 6 (.object "com/example/furlong/furlong/model/ParameterType"), interfaces := #[7, 4], accessFlags := 1041 }

def heap : Heap := #[{ cls := 6, slots := #[.ref 1, .ref 2, .ref 3, .ref 4, .ref 5, .ref 6, .null], vm := .statics 6 },
  { cls := 6, slots := #[.null, .int 0, .int 0, .null, .int 0, .int 0, .int 0], vm := .none },
  { cls := 6, slots := #[.null, .int 1, .int 0, .null, .int 0, .int 0, .int 0], vm := .none },
  { cls := 6, slots := #[.null, .int 2, .int 0, .null, .int 0, .int 0, .int 0], vm := .none },
  { cls := 6, slots := #[.null, .int 3, .int 0, .null, .int 0, .int 0, .int 0], vm := .none },
  { cls := 6, slots := #[.null, .int 4, .int 0, .null, .int 0, .int 0, .int 0], vm := .none },
  { cls := 6, slots := #[.null, .int 5, .int 0, .null, .int 0, .int 0, .int 0], vm := .none }]
def classes : Array Class := #[k0, k1, k2, k3, k4, k5, k6, k7, k8, k9, k10, k11, k12]
def interned : List (Array UInt16 × Addr) := []
def slotsUsed : Nat := 49
def theMethod : MethodId := ⟨1, 1⟩
def args0 : Array Value := #[.int 5]
def aboutOver (below : List Frame) : State where
  vm := { classes := classes, interned := interned.toArray }
  heap := heap
  slotsUsed := slotsUsed
  threads := #[{ frames := .invoking theMethod args0 :: below }]
def below0 : List Frame := [.native { method := ⟨0, 0⟩, args := #[] }]
def about1 : State := aboutOver below0
def p0 : Program := .bare "" "" ""
def e0 : Env := launch0.env 0 0 0
theorem w_frames : about1.frames = Frame.invoking theMethod args0 :: below0 := rfl
set_option maxRecDepth 65536 in
theorem w_args : argsFit about1.vm theMethod args0 = true := by decide +kernel
set_option maxRecDepth 65536 in
theorem w_heap : heapFits about1 = true := by decide +kernel
set_option maxRecDepth 65536 in
theorem w_runnable : about1.curStatus? = some .runnable := by decide +kernel
set_option maxRecDepth 65536 in
theorem w_alone : about1.alone = true := by decide +kernel
set_option maxRecDepth 65536 in
theorem w_named : about1.methodNamed? x = some theMethod := by decide +kernel
set_option maxRecDepth 65536 in
theorem w_hears : about1.hears theMethod below0 = true := by decide +kernel
set_option maxRecDepth 65536 in
theorem w_ripe : about1.ripe theMethod args0 below0 = true := by decide +kernel
theorem w_running : about1.status = .running := rfl
set_option maxRecDepth 65536 in
theorem w_room : about1.hasRoom e0.platform room_1 = true :=
  launch0.hasRoom_least _ room_1 (by decide +kernel) (by decide +kernel) (by decide +kernel) (by decide +kernel) (by decide +kernel) (by decide +kernel)
theorem allAtoms_all (ts : List Jvm.Cond) (a : Array Jvm.Value) (st : Jvm.State) : (allAtoms ts).before a st = ts.all (fun c => c.before a st) := by
  induction ts with
  | nil => rfl
  | cons c t ih =>
    show (Jvm.Cond.and c (allAtoms t)).before a st = _
    rw [Jvm.Cond.before_and, ih, List.all_cons]
def words1 : List Jvm.Cond := Jvm.Cond.code x code maxLocals ret :: tables_1
/-- a 'code' word, met by the world's own term for the bytes: nothing is compared byte by byte -/
theorem code_word {y : MethodName} {bytes : ByteArray} {mx : Nat} {rt : Option FieldType} {a : Array Value} {s : State} {m : MethodId} {meth : Method} {c : Code} (h1 : s.methodNamed? y = some m) (h2 : s.vm.method? m = some meth) (h3 : meth.code = some c) (h4 : c.code = bytes)
    (h5 : (c.maxLocals == mx && c.exceptionTable.isEmpty && decide (c.maxStack ≤ mostOperands) && decide (meth.sig.returnType = rt) && !meth.locks && decide (parseMethodDescriptor y.desc = some meth.sig)) = true) : (Jvm.Cond.code y bytes mx rt).before a s = true := by
  simp only [Bool.and_eq_true, beq_iff_eq, Bool.not_eq_true', decide_eq_true_eq] at h5
  obtain ⟨⟨⟨⟨⟨g1, g2⟩, g3⟩, g4⟩, g5⟩, g6⟩ := h5
  simp [Cond.before, Cond.holds, Cond.value, h1, h2, h3, h4, g1, g2, g3, g4, g5, g6]
def isCode : Jvm.Cond → Bool
  | .code _ _ _ _ => true
  | _ => false
theorem all_split {L : List Jvm.Cond} {P : Jvm.Cond → Bool} (h1 : L.all (fun c => isCode c || P c) = true) (h2 : ∀ c ∈ L.filter isCode, P c = true) : L.all P = true := by
  refine List.all_eq_true.mpr fun c hc => ?_
  have h := List.all_eq_true.mp h1 c hc
  rcases Bool.eq_false_or_eq_true (isCode c) with hi | hi
  · exact h2 c (List.mem_filter.mpr ⟨hc, hi⟩)
  · simpa [hi] using h
set_option maxRecDepth 65536 in
theorem w_c0 : (Jvm.Cond.code x code maxLocals ret).before args0 about1 = true := code_word (m := ⟨1, 1⟩) (meth := k1m1) (c := k1c1) (by decide +kernel) rfl rfl rfl (by decide +kernel)
set_option maxRecDepth 65536 in
theorem w_c1 : (Jvm.Cond.code ({ cls := "com/example/furlong/furlong/model/ParameterType", name := "isOrdered", desc := "()Z" } : Jvm.MethodName) prog_39_method_8_code (1 : Nat) (Option.some Jvm.ClassFile.FieldType.boolean)).before args0 about1 = true := code_word (m := ⟨6, 0⟩) (meth := k6m0) (c := k6c0) (by decide +kernel) rfl rfl rfl (by decide +kernel)
def codes1 : List Jvm.Cond := [Jvm.Cond.code x code maxLocals ret, Jvm.Cond.code ({ cls := "com/example/furlong/furlong/model/ParameterType", name := "isOrdered", desc := "()Z" } : Jvm.MethodName) prog_39_method_8_code (1 : Nat) (Option.some Jvm.ClassFile.FieldType.boolean)]
set_option maxRecDepth 65536 in
theorem codes_eq : words1.filter isCode = codes1 := rfl
theorem w_codes : ∀ c ∈ words1.filter isCode, c.before args0 about1 = true := by
  rw [codes_eq]
  intro c hc
  simp only [codes1, List.mem_cons, List.not_mem_nil, or_false] at hc
  rcases hc with rfl | rfl
  · exact w_c0
  · exact w_c1
set_option maxRecDepth 65536 in
theorem w_t1 : words1.all (fun c => isCode c || c.before args0 about1) = true := by decide +kernel
theorem w_tables : (allAtoms (Jvm.Cond.code x code maxLocals ret :: tables_1)).before args0 about1 = true := by
  rw [allAtoms_all]
  show words1.all (fun c => c.before args0 about1) = true
  refine all_split ?_ w_codes
  rw [w_t1]
set_option maxRecDepth 65536 in
theorem w_case : (Jvm.Cond.and given_1 narrow_1).before args0 about1 = true := by decide +kernel
theorem w_applies : (headSpec (Jvm.Cond.code x code maxLocals ret :: tables_1) room_1).applies x e0.platform about1 = true :=
  (Spec.applies_iff w_frames).mpr ⟨w_running, w_runnable, w_alone, w_named, w_hears, w_ripe, w_room, w_tables⟩
theorem atStart : AtStart classFile x code maxLocals ret World_1 tables_1 room_1 Calls_1 rest_1 Pre_1 launch0 p0 e0 about1 theMethod args0 below0 :=
  ⟨lists_1, trivial, launch0.admits_env _ _ _, launch0.least_env, fairChoices_fair.cas, fairChoices_fair.clock, w_frames, w_args, w_heap, w_applies, trivial, trivial, w_case⟩
end start1
theorem witness_1 : WitnessClaimed_1 := ⟨start1.p0, start1.e0, start1.about1, start1.theMethod, start1.args0, start1.below0, start1.atStart⟩
end Jvm.Pilot.@@N@@
