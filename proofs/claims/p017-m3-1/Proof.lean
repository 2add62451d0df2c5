import JvmDerived
import JvmDerived.Pilot.@@N@@Statement
import JvmDerived.Pilot.@@N@@Code
set_option linter.unusedVariables false
set_option linter.unusedSimpArgs false
namespace Jvm.RoadKit
open Sem ClassFile Op Lib Jvm.Stand Jvm.Free Jvm.LawKit
section New
variable {p : Program} {l : Launch} {e : Env} {R : Room} {s : State} {m : MethodId} {args : Array Value} {below : List Frame} {meth : Method} {c : Code} {T : State} {locs : List Loc} {cells slots : Nat}
theorem retI (X : Stand p l e R s m args below meth c T locs cells slots) (hx : p.tables.exec = Jvm.exec) {pc : Nat} {Ls : Array Slot} {z : Int32} {rest : List Value} (hret : meth.sig.returnType = some .int) (hd : decode c.code pc = .ok (.ireturn, 1)) {fs : List Frame}
    (hl : ∀ (f : JFrame) (acts : List Action), f.method = m → f.locked = none → f.entered = [] → (doReturn e (T.setTop f) acts (some (.int z))).1 = T.setFrames fs) : Steps p.tables e below (T.setTop (mkF m pc Ls (.int z :: rest))) (T.setFrames fs) := by
  have hm' : T.vm.method? m = some meth := X.method'
  have hn : narrow .int (.int z) = .int z := rfl
  show Steps p.tables e below (T.setTop { method := m, pc := pc, locals := Ls, stack := _ :: rest, locked := none }) _
  jvm_step X.here [X.here.top, hx, hd, hm', hret, hn]
  first | (intro acts; rw [hl _ acts rfl rfl rfl]) | rw [hl _ _ rfl rfl rfl]
  exact Steps.refl _
end New
end Jvm.RoadKit
namespace Jvm.Pilot.@@N@@
open Jvm Jvm.ClassFile Sem Op Lib Jvm.Free Jvm.Stand Jvm.LawKit Jvm.RoadKit Bundle Jvm.Pilot.@@N@@.Jvm.D

theorem own_m1 (a c d : Int64) : ((a * c - d) + d) = (a * c - (0 : Int64)) := by rw [Int64.sub_add_cancel, Int64.sub_zero]
theorem own_pred (x : Int32) : ((x &&& (2147483647 : Int32)) - (1 : Int32)).toInt64 = (x &&& (2147483647 : Int32)).toInt64 - (1 : Int64) := by
  have a := c_mask x 2147483647 31 (by decide) (by decide)
  generalize (x &&& (2147483647 : Int32)) = w at *
  have b := c_isub w 1
  have c := c_lsub w.toInt64 1
  have d := rng32 (w - 1)
  have e := rng64 (w.toInt64 - 1)
  have f := rng32 w
  simp only [Int32.reduceToInt, Int64.reduceToInt, c_i2l] at *
  apply Int64.toInt_inj.mp
  rw [c_i2l]
  omega
theorem own_m2 (a : Int64) (x : Int32) : (a * (x &&& (2147483647 : Int32)).toInt64 - (0 : Int64)) = ((a * ((x &&& (2147483647 : Int32)) - (1 : Int32)).toInt64 - (0 : Int64)) + a) := by
  rw [own_pred, Int64.sub_zero, Int64.sub_zero, Int64.mul_sub, Int64.mul_one, Int64.sub_add_cancel]
theorem own_m3 (a d : Int64) : (a * (0 : Int32).toInt64 - d) = (-d) := by
  rw [show (0 : Int32).toInt64 = 0 from rfl, Int64.mul_zero, Int64.zero_sub]
theorem d3_0 : decode jdk_30_method_1_code 0 = .ok (.aload_n 0, 1) := by decide +kernel
theorem d3_1 : decode jdk_30_method_1_code 1 = .ok (.invokespecial 1, 3) := by decide +kernel
theorem d3_4 : decode jdk_30_method_1_code 4 = .ok (.return_, 1) := by decide +kernel
theorem pn_3 : plainName "java/lang/Record" = true := by first | (simp [plainName, overriddenIn]; done) | decide +kernel
theorem ef_3 (m : MethodId) (x0 : Addr) : entryFrame m #[(.ref x0)] 1 = mkF m 0 #[.val (.ref x0)] [] := by first | (simp [entryFrame, mkF, argsToLocals, Value.category]; done) | rfl
def Q_3 (Z : State) (a1 : Addr) (h0 : Heap) (n0 : Nat) (v : Option Value) (h : Heap) (L : List Loc) : Prop := v = none ∧ Fr n0 L ∧ h = h0
set_option maxRecDepth 65536 in
set_option maxHeartbeats 40000000 in
theorem rm_3 (l : Launch) (Z : State) (a0 : Array Value) (hw : ∀ d ∈ tables_1, d.before a0 Z = true) (ws : List Jvm.Cond) (a1 : Addr) (h0 : Heap) (n0 : Nat) (Z0 : n0 ≤ h0.size) :
    MetFree l (⟨"java/lang/Record", "<init>", "()V"⟩ : MethodName) (head1 (Jvm.Cond.code (⟨"java/lang/Record", "<init>", "()V"⟩ : MethodName) jdk_30_method_1_code 1 none :: ws) ({ frames := 1, cells := 0, slots := 0, locals := 12 } : Room)) (fun a U => a = #[(.ref a1)] ∧ Z.Warmed39 U.vm ∧ U.heap = h0) (fun _ _ _ _ _ => True) (fun _ U o U' => ∃ v L, o = .returned v ∧ Q_3 Z a1 h0 n0 v U'.heap L ∧ FrameEnd U o U' L ({ frames := 1, cells := 0, slots := 0, locals := 12 } : Room).cells ({ frames := 1, cells := 0, slots := 0, locals := 12 } : Room).slots) := by
  refine MetFree.of_bodySF (plainFor_of_name pn_3) hisR ?_
  intro p e s m args below meth cod_ s₁ Bd hml0 hP hK
  obtain ⟨rfl, hZ, hh⟩ := hP
  have hx := Bd.exec
  have hby := Bd.bytes
  have hml : cod_.maxLocals = 1 := hml0
  have hown : s.vm.findClass "java/lang/Record" = some m.cls := findClass_of_methodNamed Bd.named
  have hnm := (name_of_methodNamed Bd.named Bd.method).1
  have X0 : Stand p l e ({ frames := 1, cells := 0, slots := 0, locals := 12 } : Room) s m #[(.ref a1)] below meth cod_ s₁ [] 0 0 := Stand.of_body Bd
  have e0 : s₁.heap = h0 := by rw [← hh, Bd.state]; rfl
  have N0 := Fr.nil n0
  have pre0 : ∀ t, Steps p.tables e below (s₁.setTop (mkF m 0 #[.val (.ref a1)] [])) t → Steps p.tables e below (s₁.setTop (entryFrame m #[(.ref a1)] 1)) t := fun t k => castTop (ef_3 m a1) k
  obtain ⟨T1, X1, e1, st1⟩ := initO X0 hx hZ hown (hw _ (List.mem_of_getElem? (i := 17) rfl)) (hw _ (List.mem_of_getElem? (i := 18) rfl)) (hw _ (List.mem_of_getElem? (i := 19) rfl)) e0 (g := (mkF m 1 #[.val (.ref a1)] [(.ref a1)])) rfl (by rw [hml]; rfl) rfl (hb hby d3_1) (by decide) (W := 0) (by show 2 * 0 + _ ≤ _; exact Nat.le_of_eq rfl) (by decide)
  obtain ⟨fs, hr, hrun, hended, hW, hsame⟩ := X1.leave (v := none) (fun _ => rfl)
  refine ⟨_, _, pre0 _ ?_, hrun, hended, _, _, rfl, ?_, ⟨_, rfl⟩, hW, hsame.mono (by decide) (by decide)⟩
  · show Steps p.tables e below (s₁.setTop (mkF m 0 #[.val (.ref a1)] [])) _
    refine XS.aloadN X0.here hx rfl (hb hby d3_0) rfl rfl ?_
    show Steps p.tables e below (s₁.setTop (mkF m 1 #[.val (.ref a1)] [(.ref a1)])) _
    refine st1 _ ?_
    show Steps p.tables e below (T1.setTop (mkF m 4 #[.val (.ref a1)] [])) _
    exact X1.returnOut hx Bd.returns (hb hby d3_4) hr
  · show Q_3 Z a1 h0 n0 _ T1.heap _
    rw [e1]
    exact ⟨rfl, N0, rfl⟩
theorem d2_0 : decode prog_28_method_1_code 0 = .ok (.aload_n 0, 1) := by decide +kernel
theorem d2_1 : decode prog_28_method_1_code 1 = .ok (.invokespecial 1, 3) := by decide +kernel
theorem d2_4 : decode prog_28_method_1_code 4 = .ok (.aload_n 0, 1) := by decide +kernel
theorem d2_5 : decode prog_28_method_1_code 5 = .ok (.iload_n 1, 1) := by decide +kernel
theorem d2_6 : decode prog_28_method_1_code 6 = .ok (.putfield 7, 3) := by decide +kernel
theorem d2_9 : decode prog_28_method_1_code 9 = .ok (.aload_n 0, 1) := by decide +kernel
theorem d2_10 : decode prog_28_method_1_code 10 = .ok (.iload_n 2, 1) := by decide +kernel
theorem d2_11 : decode prog_28_method_1_code 11 = .ok (.putfield 13, 3) := by decide +kernel
theorem d2_14 : decode prog_28_method_1_code 14 = .ok (.aload_n 0, 1) := by decide +kernel
theorem d2_15 : decode prog_28_method_1_code 15 = .ok (.lload_n 3, 1) := by decide +kernel
theorem d2_16 : decode prog_28_method_1_code 16 = .ok (.putfield 16, 3) := by decide +kernel
theorem d2_19 : decode prog_28_method_1_code 19 = .ok (.aload_n 0, 1) := by decide +kernel
theorem d2_20 : decode prog_28_method_1_code 20 = .ok (.aload 5, 2) := by decide +kernel
theorem d2_22 : decode prog_28_method_1_code 22 = .ok (.putfield 20, 3) := by decide +kernel
theorem d2_25 : decode prog_28_method_1_code 25 = .ok (.aload_n 0, 1) := by decide +kernel
theorem d2_26 : decode prog_28_method_1_code 26 = .ok (.iload 6, 2) := by decide +kernel
theorem d2_28 : decode prog_28_method_1_code 28 = .ok (.putfield 24, 3) := by decide +kernel
theorem d2_31 : decode prog_28_method_1_code 31 = .ok (.aload_n 0, 1) := by decide +kernel
theorem d2_32 : decode prog_28_method_1_code 32 = .ok (.aload 7, 2) := by decide +kernel
theorem d2_34 : decode prog_28_method_1_code 34 = .ok (.putfield 27, 3) := by decide +kernel
theorem d2_37 : decode prog_28_method_1_code 37 = .ok (.aload_n 0, 1) := by decide +kernel
theorem d2_38 : decode prog_28_method_1_code 38 = .ok (.iload 8, 2) := by decide +kernel
theorem d2_40 : decode prog_28_method_1_code 40 = .ok (.putfield 31, 3) := by decide +kernel
theorem d2_43 : decode prog_28_method_1_code 43 = .ok (.aload_n 0, 1) := by decide +kernel
theorem d2_44 : decode prog_28_method_1_code 44 = .ok (.aload 9, 2) := by decide +kernel
theorem d2_46 : decode prog_28_method_1_code 46 = .ok (.putfield 34, 3) := by decide +kernel
theorem d2_49 : decode prog_28_method_1_code 49 = .ok (.return_, 1) := by decide +kernel
theorem pd__28_29V : parseMethodDescriptor "()V" = some ⟨[], none⟩ := by decide +kernel
theorem pn_2 : plainName "com/example/livedial/livedial/cli/Fanout$Result" = true := by first | (simp [plainName, overriddenIn]; done) | decide +kernel
theorem ef_2n6n8 (m : MethodId) (x0 : Addr) (x1 : Int32) (x2 : Int32) (x3 : Int64) (x4 : Addr) (x5 : Int32) (x7 : Int32) : entryFrame m #[(.ref x0), (.int x1), (.int x2), (.long x3), (.ref x4), (.int x5), .null, (.int x7), .null] 10 = mkF m 0 #[.val (.ref x0), .val (.int x1), .val (.int x2), .val (.long x3), .second, .val (.ref x4), .val (.int x5), .val .null, .val (.int x7), .val .null] [] := by first | (simp [entryFrame, mkF, argsToLocals, Value.category]; done) | rfl
def Q_2 (Z : State) (a1 : Addr) (p2 : Int32) (p3 : Int32) (q4 : Int64) (a5 : Addr) (p6 : Int32) (p8 : Int32) (h0 : Heap) (n0 : Nat) (v : Option Value) (h : Heap) (L : List Loc) : Prop := v = none ∧ Fr n0 L ∧ Keep h0 h [a1] ∧ Exa Z h a1 "com/example/livedial/livedial/cli/Fanout$Result" ∧ Fld Z h a1 "com/example/livedial/livedial/cli/Fanout$Result" "clients" "I" (.int p2) ∧ Fld Z h a1 "com/example/livedial/livedial/cli/Fanout$Result" "changes" "I" (.int p3) ∧ Fld Z h a1 "com/example/livedial/livedial/cli/Fanout$Result" "deliveries" "J" (.long q4)
set_option maxRecDepth 65536 in
set_option maxHeartbeats 40000000 in
theorem rm_2 (l : Launch) (Z : State) (a0 : Array Value) (hw : ∀ d ∈ tables_1, d.before a0 Z = true) (ws : List Jvm.Cond) (a1 : Addr) (p2 : Int32) (p3 : Int32) (q4 : Int64) (a5 : Addr) (p6 : Int32) (p8 : Int32) (h0 : Heap) (n0 : Nat) (Z0 : n0 ≤ h0.size) (E_a1 : Exa Z h0 a1 "com/example/livedial/livedial/cli/Fanout$Result") (g_a1 : n0 ≤ a1) (F_clients : Fld Z h0 a1 "com/example/livedial/livedial/cli/Fanout$Result" "clients" "I" (.int (0 : Int32))) (F_changes : Fld Z h0 a1 "com/example/livedial/livedial/cli/Fanout$Result" "changes" "I" (.int (0 : Int32))) (F_deliveries : Fld Z h0 a1 "com/example/livedial/livedial/cli/Fanout$Result" "deliveries" "J" (.long (0 : Int64))) (F_latencies : Fld Z h0 a1 "com/example/livedial/livedial/cli/Fanout$Result" "latencies" "[J" .null) (F_failedChanges : Fld Z h0 a1 "com/example/livedial/livedial/cli/Fanout$Result" "failedChanges" "I" (.int (0 : Int32))) (F_firstFailure : Fld Z h0 a1 "com/example/livedial/livedial/cli/Fanout$Result" "firstFailure" "Ljava/lang/String;" .null) (F_endedStreams : Fld Z h0 a1 "com/example/livedial/livedial/cli/Fanout$Result" "endedStreams" "I" (.int (0 : Int32))) (F_firstEnd : Fld Z h0 a1 "com/example/livedial/livedial/cli/Fanout$Result" "firstEnd" "Ljava/lang/String;" .null) :
    MetFree l (⟨"com/example/livedial/livedial/cli/Fanout$Result", "<init>", "(IIJ[JILjava/lang/String;ILjava/lang/String;)V"⟩ : MethodName) (head1 (Jvm.Cond.code (⟨"com/example/livedial/livedial/cli/Fanout$Result", "<init>", "(IIJ[JILjava/lang/String;ILjava/lang/String;)V"⟩ : MethodName) prog_28_method_1_code 10 none :: ws) ({ frames := 2, cells := 0, slots := 0, locals := 24 } : Room)) (fun a U => a = #[(.ref a1), (.int p2), (.int p3), (.long q4), (.ref a5), (.int p6), .null, (.int p8), .null] ∧ Z.Warmed39 U.vm ∧ U.heap = h0) (fun _ _ _ _ _ => True) (fun _ U o U' => ∃ v L, o = .returned v ∧ Q_2 Z a1 p2 p3 q4 a5 p6 p8 h0 n0 v U'.heap L ∧ FrameEnd U o U' L ({ frames := 2, cells := 0, slots := 0, locals := 24 } : Room).cells ({ frames := 2, cells := 0, slots := 0, locals := 24 } : Room).slots) := by
  refine MetFree.of_bodySF (plainFor_of_name pn_2) hisR ?_
  intro p e s m args below meth cod_ s₁ Bd hml0 hP hK
  obtain ⟨rfl, hZ, hh⟩ := hP
  have hx := Bd.exec
  have hby := Bd.bytes
  have hml : cod_.maxLocals = 10 := hml0
  have hown : s.vm.findClass "com/example/livedial/livedial/cli/Fanout$Result" = some m.cls := findClass_of_methodNamed Bd.named
  have hnm := (name_of_methodNamed Bd.named Bd.method).1
  have X0 : Stand p l e ({ frames := 2, cells := 0, slots := 0, locals := 24 } : Room) s m #[(.ref a1), (.int p2), (.int p3), (.long q4), (.ref a5), (.int p6), .null, (.int p8), .null] below meth cod_ s₁ [] 0 0 := Stand.of_body Bd
  have e0 : s₁.heap = h0 := by rw [← hh, Bd.state]; rfl
  have N0 := Fr.nil n0
  have pre0 : ∀ t, Steps p.tables e below (s₁.setTop (mkF m 0 #[.val (.ref a1), .val (.int p2), .val (.int p3), .val (.long q4), .second, .val (.ref a5), .val (.int p6), .val .null, .val (.int p8), .val .null] [])) t → Steps p.tables e below (s₁.setTop (entryFrame m #[(.ref a1), (.int p2), (.int p3), (.long q4), (.ref a5), (.int p6), .null, (.int p8), .null] 10)) t := fun t k => castTop (ef_2n6n8 m a1 p2 p3 q4 a5 p6 p8) k
  obtain ⟨_, _, ⟨T2, L2, c2_, n2_⟩, -, X2, ⟨Lc2, hQ2, l2, y2, z2⟩, st2⟩ := X0.specialBack hx (y := (⟨"java/lang/Record", "<init>", "()V"⟩ : MethodName)) rfl hown (mvT hZ (hw _ (List.mem_of_getElem? (i := 12) rfl))) (mvT hZ (hw _ (List.mem_of_getElem? (i := 13) rfl))) (mvT hZ (hw _ (List.mem_of_getElem? (i := 16) rfl))) (by decide) (backOf (W := 0) (rm_3 l Z a0 hw [] a1 h0 n0 (Nat.le_trans Z0 (Keep.refl h0 [a1]).1) ) hZ (hw _ (List.mem_of_getElem? (i := 16) rfl)) (hw _ (List.mem_of_getElem? (i := 15) rfl)) (by decide) (by decide)) (g := (mkF m 1 #[.val (.ref a1), .val (.int p2), .val (.int p3), .val (.long q4), .second, .val (.ref a5), .val (.int p6), .val .null, .val (.int p8), .val .null] [(.ref a1)])) rfl (by rw [hml]; rfl) (Steps.refl _) (a := a1) (argsL := []) (rest := []) (lenOf pd__28_29V rfl) rfl (by show 2 * 0 + _ ≤ _; exact Nat.le_of_eq rfl) (hb hby d2_1) (fun _ _ => ⟨rfl, e0, (by decide : 0 + 0 ≤ _), (by decide : 0 + 0 ≤ _)⟩)
  dsimp only [Pt.U, Pt.locs, Pt.cells, Pt.slots] at X2 l2 y2 z2 st2 hQ2
  subst l2 y2 z2
  obtain ⟨rfl, Nq2, e2⟩ := hQ2
  have N2 := Fr.app N0 Nq2
  obtain ⟨T3, h3, X3, e3, W3, st3⟩ := putF X2 hx hZ hown (host := "") (Or.inl (hw _ (List.mem_of_getElem? (i := 20) rfl))) Via.refl e2 F_clients E_a1 (Or.inr ⟨(hw _ (List.mem_of_getElem? (i := 21) rfl)), rfl, hnm⟩) (hw _ (List.mem_of_getElem? (i := 6) rfl)) (ty := .int) (by decide) rfl rfl (g := (mkF m 6 #[.val (.ref a1), .val (.int p2), .val (.int p3), .val (.long q4), .second, .val (.ref a5), .val (.int p6), .val .null, .val (.int p8), .val .null] [(.int p2), (.ref a1)])) rfl rfl (hb hby d2_6)
  have Fw3 : Fld Z h3 a1 "com/example/livedial/livedial/cli/Fanout$Result" "clients" "I" (.int p2) := F_clients.same W3
  have N3 := Fr.snoc X3 N2 g_a1
  have Kh3 : Keep h0 h3 [a1] := (Keep.refl h0 [a1]).wr W3 (Or.inl (List.mem_of_getElem? (i := 0) rfl))
  obtain ⟨T4, h4, X4, e4, W4, st4⟩ := putF X3 hx hZ hown (host := "") (Or.inl (hw _ (List.mem_of_getElem? (i := 22) rfl))) Via.refl e3 (F_changes.other W3 (Or.inr (slot_ne (Or.inr (hw _ (List.mem_of_getElem? (i := 23) rfl))) (Or.inr (hw _ (List.mem_of_getElem? (i := 21) rfl))) (by decide) (t := .int) (t' := .int) (by decide) (by decide)))) (E_a1.wr W3) (Or.inr ⟨(hw _ (List.mem_of_getElem? (i := 23) rfl)), rfl, hnm⟩) (hw _ (List.mem_of_getElem? (i := 6) rfl)) (ty := .int) (by decide) rfl rfl (g := (mkF m 11 #[.val (.ref a1), .val (.int p2), .val (.int p3), .val (.long q4), .second, .val (.ref a5), .val (.int p6), .val .null, .val (.int p8), .val .null] [(.int p3), (.ref a1)])) rfl rfl (hb hby d2_11)
  have Fw4 : Fld Z h4 a1 "com/example/livedial/livedial/cli/Fanout$Result" "changes" "I" (.int p3) := (F_changes.other W3 (Or.inr (slot_ne (Or.inr (hw _ (List.mem_of_getElem? (i := 23) rfl))) (Or.inr (hw _ (List.mem_of_getElem? (i := 21) rfl))) (by decide) (t := .int) (t' := .int) (by decide) (by decide)))).same W4
  have N4 := Fr.snoc X4 N3 g_a1
  have Kh4 : Keep h0 h4 [a1] := Kh3.wr W4 (Or.inl (List.mem_of_getElem? (i := 0) rfl))
  have f5 := ((F_deliveries.other W3 (Or.inr (slot_ne (Or.inr (hw _ (List.mem_of_getElem? (i := 25) rfl))) (Or.inr (hw _ (List.mem_of_getElem? (i := 21) rfl))) (by decide) (t := .long) (t' := .int) (by decide) (by decide)))).other W4 (Or.inr (slot_ne (Or.inr (hw _ (List.mem_of_getElem? (i := 25) rfl))) (Or.inr (hw _ (List.mem_of_getElem? (i := 23) rfl))) (by decide) (t := .long) (t' := .int) (by decide) (by decide))))
  have f6 := ((E_a1.wr W3).wr W4)
  obtain ⟨T7, h7, X7, e7, W7, st7⟩ := putF X4 hx hZ hown (host := "") (Or.inl (hw _ (List.mem_of_getElem? (i := 24) rfl))) Via.refl e4 f5 f6 (Or.inr ⟨(hw _ (List.mem_of_getElem? (i := 25) rfl)), rfl, hnm⟩) (hw _ (List.mem_of_getElem? (i := 6) rfl)) (ty := .long) (by decide) rfl rfl (g := (mkF m 16 #[.val (.ref a1), .val (.int p2), .val (.int p3), .val (.long q4), .second, .val (.ref a5), .val (.int p6), .val .null, .val (.int p8), .val .null] [(.long q4), (.ref a1)])) rfl rfl (hb hby d2_16)
  have Fw7 : Fld Z h7 a1 "com/example/livedial/livedial/cli/Fanout$Result" "deliveries" "J" (.long q4) := f5.same W7
  have N7 := Fr.snoc X7 N4 g_a1
  have Kh7 : Keep h0 h7 [a1] := Kh4.wr W7 (Or.inl (List.mem_of_getElem? (i := 0) rfl))
  have f8 := (((F_latencies.other W3 (Or.inr (slot_ne (Or.inr (hw _ (List.mem_of_getElem? (i := 27) rfl))) (Or.inr (hw _ (List.mem_of_getElem? (i := 21) rfl))) (by decide) (t := (.array .long)) (t' := .int) (by decide) (by decide)))).other W4 (Or.inr (slot_ne (Or.inr (hw _ (List.mem_of_getElem? (i := 27) rfl))) (Or.inr (hw _ (List.mem_of_getElem? (i := 23) rfl))) (by decide) (t := (.array .long)) (t' := .int) (by decide) (by decide)))).other W7 (Or.inr (slot_ne (Or.inr (hw _ (List.mem_of_getElem? (i := 27) rfl))) (Or.inr (hw _ (List.mem_of_getElem? (i := 25) rfl))) (by decide) (t := (.array .long)) (t' := .long) (by decide) (by decide))))
  obtain ⟨T9, h9, X9, e9, W9, st9⟩ := putF X7 hx hZ hown (host := "") (Or.inl (hw _ (List.mem_of_getElem? (i := 26) rfl))) Via.refl e7 f8 (f6.wr W7) (Or.inr ⟨(hw _ (List.mem_of_getElem? (i := 27) rfl)), rfl, hnm⟩) (hw _ (List.mem_of_getElem? (i := 6) rfl)) (ty := (.array .long)) (by decide) rfl rfl (g := (mkF m 22 #[.val (.ref a1), .val (.int p2), .val (.int p3), .val (.long q4), .second, .val (.ref a5), .val (.int p6), .val .null, .val (.int p8), .val .null] [(.ref a5), (.ref a1)])) rfl rfl (hb hby d2_22)
  have Fw9 : Fld Z h9 a1 "com/example/livedial/livedial/cli/Fanout$Result" "latencies" "[J" (.ref a5) := f8.same W9
  have N9 := Fr.snoc X9 N7 g_a1
  have Kh9 : Keep h0 h9 [a1] := Kh7.wr W9 (Or.inl (List.mem_of_getElem? (i := 0) rfl))
  have f10 := ((((F_failedChanges.other W3 (Or.inr (slot_ne (Or.inr (hw _ (List.mem_of_getElem? (i := 29) rfl))) (Or.inr (hw _ (List.mem_of_getElem? (i := 21) rfl))) (by decide) (t := .int) (t' := .int) (by decide) (by decide)))).other W4 (Or.inr (slot_ne (Or.inr (hw _ (List.mem_of_getElem? (i := 29) rfl))) (Or.inr (hw _ (List.mem_of_getElem? (i := 23) rfl))) (by decide) (t := .int) (t' := .int) (by decide) (by decide)))).other W7 (Or.inr (slot_ne (Or.inr (hw _ (List.mem_of_getElem? (i := 29) rfl))) (Or.inr (hw _ (List.mem_of_getElem? (i := 25) rfl))) (by decide) (t := .int) (t' := .long) (by decide) (by decide)))).other W9 (Or.inr (slot_ne (Or.inr (hw _ (List.mem_of_getElem? (i := 29) rfl))) (Or.inr (hw _ (List.mem_of_getElem? (i := 27) rfl))) (by decide) (t := .int) (t' := (.array .long)) (by decide) (by decide))))
  have f11 := ((f6.wr W7).wr W9)
  obtain ⟨T12, h12, X12, e12, W12, st12⟩ := putF X9 hx hZ hown (host := "") (Or.inl (hw _ (List.mem_of_getElem? (i := 28) rfl))) Via.refl e9 f10 f11 (Or.inr ⟨(hw _ (List.mem_of_getElem? (i := 29) rfl)), rfl, hnm⟩) (hw _ (List.mem_of_getElem? (i := 6) rfl)) (ty := .int) (by decide) rfl rfl (g := (mkF m 28 #[.val (.ref a1), .val (.int p2), .val (.int p3), .val (.long q4), .second, .val (.ref a5), .val (.int p6), .val .null, .val (.int p8), .val .null] [(.int p6), (.ref a1)])) rfl rfl (hb hby d2_28)
  have Fw12 : Fld Z h12 a1 "com/example/livedial/livedial/cli/Fanout$Result" "failedChanges" "I" (.int p6) := f10.same W12
  have N12 := Fr.snoc X12 N9 g_a1
  have Kh12 : Keep h0 h12 [a1] := Kh9.wr W12 (Or.inl (List.mem_of_getElem? (i := 0) rfl))
  have f13 := (((((F_firstFailure.other W3 (Or.inr (slot_ne (Or.inr (hw _ (List.mem_of_getElem? (i := 31) rfl))) (Or.inr (hw _ (List.mem_of_getElem? (i := 21) rfl))) (by decide) (t := (.object "java/lang/String")) (t' := .int) (by decide) (by decide)))).other W4 (Or.inr (slot_ne (Or.inr (hw _ (List.mem_of_getElem? (i := 31) rfl))) (Or.inr (hw _ (List.mem_of_getElem? (i := 23) rfl))) (by decide) (t := (.object "java/lang/String")) (t' := .int) (by decide) (by decide)))).other W7 (Or.inr (slot_ne (Or.inr (hw _ (List.mem_of_getElem? (i := 31) rfl))) (Or.inr (hw _ (List.mem_of_getElem? (i := 25) rfl))) (by decide) (t := (.object "java/lang/String")) (t' := .long) (by decide) (by decide)))).other W9 (Or.inr (slot_ne (Or.inr (hw _ (List.mem_of_getElem? (i := 31) rfl))) (Or.inr (hw _ (List.mem_of_getElem? (i := 27) rfl))) (by decide) (t := (.object "java/lang/String")) (t' := (.array .long)) (by decide) (by decide)))).other W12 (Or.inr (slot_ne (Or.inr (hw _ (List.mem_of_getElem? (i := 31) rfl))) (Or.inr (hw _ (List.mem_of_getElem? (i := 29) rfl))) (by decide) (t := (.object "java/lang/String")) (t' := .int) (by decide) (by decide))))
  obtain ⟨T14, h14, X14, e14, W14, st14⟩ := putF X12 hx hZ hown (host := "") (Or.inl (hw _ (List.mem_of_getElem? (i := 30) rfl))) Via.refl e12 f13 (f11.wr W12) (Or.inr ⟨(hw _ (List.mem_of_getElem? (i := 31) rfl)), rfl, hnm⟩) (hw _ (List.mem_of_getElem? (i := 6) rfl)) (ty := (.object "java/lang/String")) (by decide) rfl rfl (g := (mkF m 34 #[.val (.ref a1), .val (.int p2), .val (.int p3), .val (.long q4), .second, .val (.ref a5), .val (.int p6), .val .null, .val (.int p8), .val .null] [.null, (.ref a1)])) rfl rfl (hb hby d2_34)
  have Fw14 : Fld Z h14 a1 "com/example/livedial/livedial/cli/Fanout$Result" "firstFailure" "Ljava/lang/String;" .null := f13.same W14
  have N14 := Fr.snoc X14 N12 g_a1
  have Kh14 : Keep h0 h14 [a1] := Kh12.wr W14 (Or.inl (List.mem_of_getElem? (i := 0) rfl))
  have f15 := ((((((F_endedStreams.other W3 (Or.inr (slot_ne (Or.inr (hw _ (List.mem_of_getElem? (i := 33) rfl))) (Or.inr (hw _ (List.mem_of_getElem? (i := 21) rfl))) (by decide) (t := .int) (t' := .int) (by decide) (by decide)))).other W4 (Or.inr (slot_ne (Or.inr (hw _ (List.mem_of_getElem? (i := 33) rfl))) (Or.inr (hw _ (List.mem_of_getElem? (i := 23) rfl))) (by decide) (t := .int) (t' := .int) (by decide) (by decide)))).other W7 (Or.inr (slot_ne (Or.inr (hw _ (List.mem_of_getElem? (i := 33) rfl))) (Or.inr (hw _ (List.mem_of_getElem? (i := 25) rfl))) (by decide) (t := .int) (t' := .long) (by decide) (by decide)))).other W9 (Or.inr (slot_ne (Or.inr (hw _ (List.mem_of_getElem? (i := 33) rfl))) (Or.inr (hw _ (List.mem_of_getElem? (i := 27) rfl))) (by decide) (t := .int) (t' := (.array .long)) (by decide) (by decide)))).other W12 (Or.inr (slot_ne (Or.inr (hw _ (List.mem_of_getElem? (i := 33) rfl))) (Or.inr (hw _ (List.mem_of_getElem? (i := 29) rfl))) (by decide) (t := .int) (t' := .int) (by decide) (by decide)))).other W14 (Or.inr (slot_ne (Or.inr (hw _ (List.mem_of_getElem? (i := 33) rfl))) (Or.inr (hw _ (List.mem_of_getElem? (i := 31) rfl))) (by decide) (t := .int) (t' := (.object "java/lang/String")) (by decide) (by decide))))
  have f16 := ((f11.wr W12).wr W14)
  obtain ⟨T17, h17, X17, e17, W17, st17⟩ := putF X14 hx hZ hown (host := "") (Or.inl (hw _ (List.mem_of_getElem? (i := 32) rfl))) Via.refl e14 f15 f16 (Or.inr ⟨(hw _ (List.mem_of_getElem? (i := 33) rfl)), rfl, hnm⟩) (hw _ (List.mem_of_getElem? (i := 6) rfl)) (ty := .int) (by decide) rfl rfl (g := (mkF m 40 #[.val (.ref a1), .val (.int p2), .val (.int p3), .val (.long q4), .second, .val (.ref a5), .val (.int p6), .val .null, .val (.int p8), .val .null] [(.int p8), (.ref a1)])) rfl rfl (hb hby d2_40)
  have Fw17 : Fld Z h17 a1 "com/example/livedial/livedial/cli/Fanout$Result" "endedStreams" "I" (.int p8) := f15.same W17
  have N17 := Fr.snoc X17 N14 g_a1
  have Kh17 : Keep h0 h17 [a1] := Kh14.wr W17 (Or.inl (List.mem_of_getElem? (i := 0) rfl))
  have f18 := (((((((F_firstEnd.other W3 (Or.inr (slot_ne (Or.inr (hw _ (List.mem_of_getElem? (i := 35) rfl))) (Or.inr (hw _ (List.mem_of_getElem? (i := 21) rfl))) (by decide) (t := (.object "java/lang/String")) (t' := .int) (by decide) (by decide)))).other W4 (Or.inr (slot_ne (Or.inr (hw _ (List.mem_of_getElem? (i := 35) rfl))) (Or.inr (hw _ (List.mem_of_getElem? (i := 23) rfl))) (by decide) (t := (.object "java/lang/String")) (t' := .int) (by decide) (by decide)))).other W7 (Or.inr (slot_ne (Or.inr (hw _ (List.mem_of_getElem? (i := 35) rfl))) (Or.inr (hw _ (List.mem_of_getElem? (i := 25) rfl))) (by decide) (t := (.object "java/lang/String")) (t' := .long) (by decide) (by decide)))).other W9 (Or.inr (slot_ne (Or.inr (hw _ (List.mem_of_getElem? (i := 35) rfl))) (Or.inr (hw _ (List.mem_of_getElem? (i := 27) rfl))) (by decide) (t := (.object "java/lang/String")) (t' := (.array .long)) (by decide) (by decide)))).other W12 (Or.inr (slot_ne (Or.inr (hw _ (List.mem_of_getElem? (i := 35) rfl))) (Or.inr (hw _ (List.mem_of_getElem? (i := 29) rfl))) (by decide) (t := (.object "java/lang/String")) (t' := .int) (by decide) (by decide)))).other W14 (Or.inr (slot_ne (Or.inr (hw _ (List.mem_of_getElem? (i := 35) rfl))) (Or.inr (hw _ (List.mem_of_getElem? (i := 31) rfl))) (by decide) (t := (.object "java/lang/String")) (t' := (.object "java/lang/String")) (by decide) (by decide)))).other W17 (Or.inr (slot_ne (Or.inr (hw _ (List.mem_of_getElem? (i := 35) rfl))) (Or.inr (hw _ (List.mem_of_getElem? (i := 33) rfl))) (by decide) (t := (.object "java/lang/String")) (t' := .int) (by decide) (by decide))))
  obtain ⟨T19, h19, X19, e19, W19, st19⟩ := putF X17 hx hZ hown (host := "") (Or.inl (hw _ (List.mem_of_getElem? (i := 34) rfl))) Via.refl e17 f18 (f16.wr W17) (Or.inr ⟨(hw _ (List.mem_of_getElem? (i := 35) rfl)), rfl, hnm⟩) (hw _ (List.mem_of_getElem? (i := 6) rfl)) (ty := (.object "java/lang/String")) (by decide) rfl rfl (g := (mkF m 46 #[.val (.ref a1), .val (.int p2), .val (.int p3), .val (.long q4), .second, .val (.ref a5), .val (.int p6), .val .null, .val (.int p8), .val .null] [.null, (.ref a1)])) rfl rfl (hb hby d2_46)
  have Fw19 : Fld Z h19 a1 "com/example/livedial/livedial/cli/Fanout$Result" "firstEnd" "Ljava/lang/String;" .null := f18.same W19
  have N19 := Fr.snoc X19 N17 g_a1
  have Kh19 : Keep h0 h19 [a1] := Kh17.wr W19 (Or.inl (List.mem_of_getElem? (i := 0) rfl))
  have f20 := ((f16.wr W17).wr W19)
  have f21 := (((((((Fw3.other W4 (Or.inr (slot_ne (Or.inr (hw _ (List.mem_of_getElem? (i := 21) rfl))) (Or.inr (hw _ (List.mem_of_getElem? (i := 23) rfl))) (by decide) (t := .int) (t' := .int) (by decide) (by decide)))).other W7 (Or.inr (slot_ne (Or.inr (hw _ (List.mem_of_getElem? (i := 21) rfl))) (Or.inr (hw _ (List.mem_of_getElem? (i := 25) rfl))) (by decide) (t := .int) (t' := .long) (by decide) (by decide)))).other W9 (Or.inr (slot_ne (Or.inr (hw _ (List.mem_of_getElem? (i := 21) rfl))) (Or.inr (hw _ (List.mem_of_getElem? (i := 27) rfl))) (by decide) (t := .int) (t' := (.array .long)) (by decide) (by decide)))).other W12 (Or.inr (slot_ne (Or.inr (hw _ (List.mem_of_getElem? (i := 21) rfl))) (Or.inr (hw _ (List.mem_of_getElem? (i := 29) rfl))) (by decide) (t := .int) (t' := .int) (by decide) (by decide)))).other W14 (Or.inr (slot_ne (Or.inr (hw _ (List.mem_of_getElem? (i := 21) rfl))) (Or.inr (hw _ (List.mem_of_getElem? (i := 31) rfl))) (by decide) (t := .int) (t' := (.object "java/lang/String")) (by decide) (by decide)))).other W17 (Or.inr (slot_ne (Or.inr (hw _ (List.mem_of_getElem? (i := 21) rfl))) (Or.inr (hw _ (List.mem_of_getElem? (i := 33) rfl))) (by decide) (t := .int) (t' := .int) (by decide) (by decide)))).other W19 (Or.inr (slot_ne (Or.inr (hw _ (List.mem_of_getElem? (i := 21) rfl))) (Or.inr (hw _ (List.mem_of_getElem? (i := 35) rfl))) (by decide) (t := .int) (t' := (.object "java/lang/String")) (by decide) (by decide))))
  have f22 := ((((((Fw4.other W7 (Or.inr (slot_ne (Or.inr (hw _ (List.mem_of_getElem? (i := 23) rfl))) (Or.inr (hw _ (List.mem_of_getElem? (i := 25) rfl))) (by decide) (t := .int) (t' := .long) (by decide) (by decide)))).other W9 (Or.inr (slot_ne (Or.inr (hw _ (List.mem_of_getElem? (i := 23) rfl))) (Or.inr (hw _ (List.mem_of_getElem? (i := 27) rfl))) (by decide) (t := .int) (t' := (.array .long)) (by decide) (by decide)))).other W12 (Or.inr (slot_ne (Or.inr (hw _ (List.mem_of_getElem? (i := 23) rfl))) (Or.inr (hw _ (List.mem_of_getElem? (i := 29) rfl))) (by decide) (t := .int) (t' := .int) (by decide) (by decide)))).other W14 (Or.inr (slot_ne (Or.inr (hw _ (List.mem_of_getElem? (i := 23) rfl))) (Or.inr (hw _ (List.mem_of_getElem? (i := 31) rfl))) (by decide) (t := .int) (t' := (.object "java/lang/String")) (by decide) (by decide)))).other W17 (Or.inr (slot_ne (Or.inr (hw _ (List.mem_of_getElem? (i := 23) rfl))) (Or.inr (hw _ (List.mem_of_getElem? (i := 33) rfl))) (by decide) (t := .int) (t' := .int) (by decide) (by decide)))).other W19 (Or.inr (slot_ne (Or.inr (hw _ (List.mem_of_getElem? (i := 23) rfl))) (Or.inr (hw _ (List.mem_of_getElem? (i := 35) rfl))) (by decide) (t := .int) (t' := (.object "java/lang/String")) (by decide) (by decide))))
  have f23 := (((((Fw7.other W9 (Or.inr (slot_ne (Or.inr (hw _ (List.mem_of_getElem? (i := 25) rfl))) (Or.inr (hw _ (List.mem_of_getElem? (i := 27) rfl))) (by decide) (t := .long) (t' := (.array .long)) (by decide) (by decide)))).other W12 (Or.inr (slot_ne (Or.inr (hw _ (List.mem_of_getElem? (i := 25) rfl))) (Or.inr (hw _ (List.mem_of_getElem? (i := 29) rfl))) (by decide) (t := .long) (t' := .int) (by decide) (by decide)))).other W14 (Or.inr (slot_ne (Or.inr (hw _ (List.mem_of_getElem? (i := 25) rfl))) (Or.inr (hw _ (List.mem_of_getElem? (i := 31) rfl))) (by decide) (t := .long) (t' := (.object "java/lang/String")) (by decide) (by decide)))).other W17 (Or.inr (slot_ne (Or.inr (hw _ (List.mem_of_getElem? (i := 25) rfl))) (Or.inr (hw _ (List.mem_of_getElem? (i := 33) rfl))) (by decide) (t := .long) (t' := .int) (by decide) (by decide)))).other W19 (Or.inr (slot_ne (Or.inr (hw _ (List.mem_of_getElem? (i := 25) rfl))) (Or.inr (hw _ (List.mem_of_getElem? (i := 35) rfl))) (by decide) (t := .long) (t' := (.object "java/lang/String")) (by decide) (by decide))))
  obtain ⟨fs, hr, hrun, hended, hW, hsame⟩ := X19.leave (v := none) (fun _ => rfl)
  refine ⟨_, _, pre0 _ ?_, hrun, hended, _, _, rfl, ?_, ⟨_, rfl⟩, hW, hsame.mono (by decide) (by decide)⟩
  · show Steps p.tables e below (s₁.setTop (mkF m 0 #[.val (.ref a1), .val (.int p2), .val (.int p3), .val (.long q4), .second, .val (.ref a5), .val (.int p6), .val .null, .val (.int p8), .val .null] [])) _
    refine XS.aloadN X0.here hx rfl (hb hby d2_0) rfl rfl ?_
    show Steps p.tables e below (s₁.setTop (mkF m 1 #[.val (.ref a1), .val (.int p2), .val (.int p3), .val (.long q4), .second, .val (.ref a5), .val (.int p6), .val .null, .val (.int p8), .val .null] [(.ref a1)])) _
    refine st2.trans ?_
    show Steps p.tables e below (T2.setTop (mkF m 4 #[.val (.ref a1), .val (.int p2), .val (.int p3), .val (.long q4), .second, .val (.ref a5), .val (.int p6), .val .null, .val (.int p8), .val .null] [])) _
    refine XS.aloadN X2.here hx rfl (hb hby d2_4) rfl rfl ?_
    show Steps p.tables e below (T2.setTop (mkF m 5 #[.val (.ref a1), .val (.int p2), .val (.int p3), .val (.long q4), .second, .val (.ref a5), .val (.int p6), .val .null, .val (.int p8), .val .null] [(.ref a1)])) _
    refine XS.iloadN X2.here hx rfl (hb hby d2_5) rfl ?_
    show Steps p.tables e below (T2.setTop (mkF m 6 #[.val (.ref a1), .val (.int p2), .val (.int p3), .val (.long q4), .second, .val (.ref a5), .val (.int p6), .val .null, .val (.int p8), .val .null] [(.int p2), (.ref a1)])) _
    refine st3 _ ?_
    show Steps p.tables e below (T3.setTop (mkF m 9 #[.val (.ref a1), .val (.int p2), .val (.int p3), .val (.long q4), .second, .val (.ref a5), .val (.int p6), .val .null, .val (.int p8), .val .null] [])) _
    refine XS.aloadN X3.here hx rfl (hb hby d2_9) rfl rfl ?_
    show Steps p.tables e below (T3.setTop (mkF m 10 #[.val (.ref a1), .val (.int p2), .val (.int p3), .val (.long q4), .second, .val (.ref a5), .val (.int p6), .val .null, .val (.int p8), .val .null] [(.ref a1)])) _
    refine XS.iloadN X3.here hx rfl (hb hby d2_10) rfl ?_
    show Steps p.tables e below (T3.setTop (mkF m 11 #[.val (.ref a1), .val (.int p2), .val (.int p3), .val (.long q4), .second, .val (.ref a5), .val (.int p6), .val .null, .val (.int p8), .val .null] [(.int p3), (.ref a1)])) _
    refine st4 _ ?_
    show Steps p.tables e below (T4.setTop (mkF m 14 #[.val (.ref a1), .val (.int p2), .val (.int p3), .val (.long q4), .second, .val (.ref a5), .val (.int p6), .val .null, .val (.int p8), .val .null] [])) _
    refine XS.aloadN X4.here hx rfl (hb hby d2_14) rfl rfl ?_
    show Steps p.tables e below (T4.setTop (mkF m 15 #[.val (.ref a1), .val (.int p2), .val (.int p3), .val (.long q4), .second, .val (.ref a5), .val (.int p6), .val .null, .val (.int p8), .val .null] [(.ref a1)])) _
    refine XS.lloadN X4.here hx rfl (hb hby d2_15) rfl ?_
    show Steps p.tables e below (T4.setTop (mkF m 16 #[.val (.ref a1), .val (.int p2), .val (.int p3), .val (.long q4), .second, .val (.ref a5), .val (.int p6), .val .null, .val (.int p8), .val .null] [(.long q4), (.ref a1)])) _
    refine st7 _ ?_
    show Steps p.tables e below (T7.setTop (mkF m 19 #[.val (.ref a1), .val (.int p2), .val (.int p3), .val (.long q4), .second, .val (.ref a5), .val (.int p6), .val .null, .val (.int p8), .val .null] [])) _
    refine XS.aloadN X7.here hx rfl (hb hby d2_19) rfl rfl ?_
    show Steps p.tables e below (T7.setTop (mkF m 20 #[.val (.ref a1), .val (.int p2), .val (.int p3), .val (.long q4), .second, .val (.ref a5), .val (.int p6), .val .null, .val (.int p8), .val .null] [(.ref a1)])) _
    refine XS.aload X7.here hx rfl (hb hby d2_20) rfl rfl ?_
    show Steps p.tables e below (T7.setTop (mkF m 22 #[.val (.ref a1), .val (.int p2), .val (.int p3), .val (.long q4), .second, .val (.ref a5), .val (.int p6), .val .null, .val (.int p8), .val .null] [(.ref a5), (.ref a1)])) _
    refine st9 _ ?_
    show Steps p.tables e below (T9.setTop (mkF m 25 #[.val (.ref a1), .val (.int p2), .val (.int p3), .val (.long q4), .second, .val (.ref a5), .val (.int p6), .val .null, .val (.int p8), .val .null] [])) _
    refine XS.aloadN X9.here hx rfl (hb hby d2_25) rfl rfl ?_
    show Steps p.tables e below (T9.setTop (mkF m 26 #[.val (.ref a1), .val (.int p2), .val (.int p3), .val (.long q4), .second, .val (.ref a5), .val (.int p6), .val .null, .val (.int p8), .val .null] [(.ref a1)])) _
    refine XS.iload X9.here hx rfl (hb hby d2_26) rfl ?_
    show Steps p.tables e below (T9.setTop (mkF m 28 #[.val (.ref a1), .val (.int p2), .val (.int p3), .val (.long q4), .second, .val (.ref a5), .val (.int p6), .val .null, .val (.int p8), .val .null] [(.int p6), (.ref a1)])) _
    refine st12 _ ?_
    show Steps p.tables e below (T12.setTop (mkF m 31 #[.val (.ref a1), .val (.int p2), .val (.int p3), .val (.long q4), .second, .val (.ref a5), .val (.int p6), .val .null, .val (.int p8), .val .null] [])) _
    refine XS.aloadN X12.here hx rfl (hb hby d2_31) rfl rfl ?_
    show Steps p.tables e below (T12.setTop (mkF m 32 #[.val (.ref a1), .val (.int p2), .val (.int p3), .val (.long q4), .second, .val (.ref a5), .val (.int p6), .val .null, .val (.int p8), .val .null] [(.ref a1)])) _
    refine XS.aload X12.here hx rfl (hb hby d2_32) rfl rfl ?_
    show Steps p.tables e below (T12.setTop (mkF m 34 #[.val (.ref a1), .val (.int p2), .val (.int p3), .val (.long q4), .second, .val (.ref a5), .val (.int p6), .val .null, .val (.int p8), .val .null] [.null, (.ref a1)])) _
    refine st14 _ ?_
    show Steps p.tables e below (T14.setTop (mkF m 37 #[.val (.ref a1), .val (.int p2), .val (.int p3), .val (.long q4), .second, .val (.ref a5), .val (.int p6), .val .null, .val (.int p8), .val .null] [])) _
    refine XS.aloadN X14.here hx rfl (hb hby d2_37) rfl rfl ?_
    show Steps p.tables e below (T14.setTop (mkF m 38 #[.val (.ref a1), .val (.int p2), .val (.int p3), .val (.long q4), .second, .val (.ref a5), .val (.int p6), .val .null, .val (.int p8), .val .null] [(.ref a1)])) _
    refine XS.iload X14.here hx rfl (hb hby d2_38) rfl ?_
    show Steps p.tables e below (T14.setTop (mkF m 40 #[.val (.ref a1), .val (.int p2), .val (.int p3), .val (.long q4), .second, .val (.ref a5), .val (.int p6), .val .null, .val (.int p8), .val .null] [(.int p8), (.ref a1)])) _
    refine st17 _ ?_
    show Steps p.tables e below (T17.setTop (mkF m 43 #[.val (.ref a1), .val (.int p2), .val (.int p3), .val (.long q4), .second, .val (.ref a5), .val (.int p6), .val .null, .val (.int p8), .val .null] [])) _
    refine XS.aloadN X17.here hx rfl (hb hby d2_43) rfl rfl ?_
    show Steps p.tables e below (T17.setTop (mkF m 44 #[.val (.ref a1), .val (.int p2), .val (.int p3), .val (.long q4), .second, .val (.ref a5), .val (.int p6), .val .null, .val (.int p8), .val .null] [(.ref a1)])) _
    refine XS.aload X17.here hx rfl (hb hby d2_44) rfl rfl ?_
    show Steps p.tables e below (T17.setTop (mkF m 46 #[.val (.ref a1), .val (.int p2), .val (.int p3), .val (.long q4), .second, .val (.ref a5), .val (.int p6), .val .null, .val (.int p8), .val .null] [.null, (.ref a1)])) _
    refine st19 _ ?_
    show Steps p.tables e below (T19.setTop (mkF m 49 #[.val (.ref a1), .val (.int p2), .val (.int p3), .val (.long q4), .second, .val (.ref a5), .val (.int p6), .val .null, .val (.int p8), .val .null] [])) _
    exact X19.returnOut hx Bd.returns (hb hby d2_49) hr
  · show Q_2 Z a1 p2 p3 q4 a5 p6 p8 h0 n0 _ T19.heap _
    rw [e19]
    exact ⟨rfl, N19, Kh19, f20, f21, f22, f23⟩
theorem d1_0 : decode method_2_code 0 = .ok (.new 7, 3) := by decide +kernel
theorem d1_3 : decode method_2_code 3 = .ok (.dup, 1) := by decide +kernel
theorem d1_4 : decode method_2_code 4 = .ok (.iload_n 0, 1) := by decide +kernel
theorem d1_5 : decode method_2_code 5 = .ok (.iload_n 1, 1) := by decide +kernel
theorem d1_6 : decode method_2_code 6 = .ok (.lload_n 2, 1) := by decide +kernel
theorem d1_7 : decode method_2_code 7 = .ok (.iconst 0, 1) := by decide +kernel
theorem d1_8 : decode method_2_code 8 = .ok (.newarray .long, 2) := by decide +kernel
theorem d1_10 : decode method_2_code 10 = .ok (.iconst 0, 1) := by decide +kernel
theorem d1_11 : decode method_2_code 11 = .ok (.aconst_null, 1) := by decide +kernel
theorem d1_12 : decode method_2_code 12 = .ok (.iconst 0, 1) := by decide +kernel
theorem d1_13 : decode method_2_code 13 = .ok (.aconst_null, 1) := by decide +kernel
theorem d1_14 : decode method_2_code 14 = .ok (.invokespecial 9, 3) := by decide +kernel
theorem d1_17 : decode method_2_code 17 = .ok (.areturn, 1) := by decide +kernel
theorem pd__28IIJ_5bJILjava_2flang_2fString_3bILjava_2flang_2fString_3b_29V : parseMethodDescriptor "(IIJ[JILjava/lang/String;ILjava/lang/String;)V" = some ⟨[.int, .int, .long, (.array .long), .int, (.object "java/lang/String"), .int, (.object "java/lang/String")], none⟩ := by decide +kernel
theorem pn_1 : plainName "com/example/livedial/livedial/cli/ResultMissedPinLaw" = true := by first | (simp [plainName, overriddenIn]; done) | decide +kernel
theorem ef_1 (m : MethodId) (x0 : Int32) (x1 : Int32) (x2 : Int64) : entryFrame m #[(.int x0), (.int x1), (.long x2)] 4 = mkF m 0 #[.val (.int x0), .val (.int x1), .val (.long x2), .second] [] := by first | (simp [entryFrame, mkF, argsToLocals, Value.category]; done) | rfl
def Q_1 (Z : State) (p1 : Int32) (p2 : Int32) (q3 : Int64) (h0 : Heap) (n0 : Nat) (v : Option Value) (h : Heap) (L : List Loc) : Prop := v = some (.ref h0.size) ∧ Fr n0 L ∧ Keep h0 h [] ∧ Exa Z h h0.size "com/example/livedial/livedial/cli/Fanout$Result" ∧ Fld Z h h0.size "com/example/livedial/livedial/cli/Fanout$Result" "clients" "I" (.int p1) ∧ Fld Z h h0.size "com/example/livedial/livedial/cli/Fanout$Result" "changes" "I" (.int p2) ∧ Fld Z h h0.size "com/example/livedial/livedial/cli/Fanout$Result" "deliveries" "J" (.long q3)
set_option maxRecDepth 65536 in
set_option maxHeartbeats 40000000 in
theorem rm_1 (l : Launch) (Z : State) (a0 : Array Value) (hw : ∀ d ∈ tables_1, d.before a0 Z = true) (ws : List Jvm.Cond) (p1 : Int32) (p2 : Int32) (q3 : Int64) (h0 : Heap) (n0 : Nat) (Z0 : n0 ≤ h0.size) :
    MetFree l (⟨"com/example/livedial/livedial/cli/ResultMissedPinLaw", "make", "(IIJ)Lcom/example/livedial/livedial/cli/Fanout$Result;"⟩ : MethodName) (head1 (Jvm.Cond.code (⟨"com/example/livedial/livedial/cli/ResultMissedPinLaw", "make", "(IIJ)Lcom/example/livedial/livedial/cli/Fanout$Result;"⟩ : MethodName) method_2_code 4 (some (.object "com/example/livedial/livedial/cli/Fanout$Result")) :: ws) ({ frames := 3, cells := 2, slots := 8, locals := 46 } : Room)) (fun a U => a = #[(.int p1), (.int p2), (.long q3)] ∧ Z.Warmed39 U.vm ∧ U.heap = h0) (fun _ _ _ _ _ => True) (fun _ U o U' => ∃ v L, o = .returned v ∧ Q_1 Z p1 p2 q3 h0 n0 v U'.heap L ∧ FrameEnd U o U' L ({ frames := 3, cells := 2, slots := 8, locals := 46 } : Room).cells ({ frames := 3, cells := 2, slots := 8, locals := 46 } : Room).slots) := by
  refine MetFree.of_bodySF (plainFor_of_name pn_1) hisR ?_
  intro p e s m args below meth cod_ s₁ Bd hml0 hP hK
  obtain ⟨rfl, hZ, hh⟩ := hP
  have hx := Bd.exec
  have hby := Bd.bytes
  have hml : cod_.maxLocals = 4 := hml0
  have hown : s.vm.findClass "com/example/livedial/livedial/cli/ResultMissedPinLaw" = some m.cls := findClass_of_methodNamed Bd.named
  have hnm := (name_of_methodNamed Bd.named Bd.method).1
  have X0 : Stand p l e ({ frames := 3, cells := 2, slots := 8, locals := 46 } : Room) s m #[(.int p1), (.int p2), (.long q3)] below meth cod_ s₁ [] 0 0 := Stand.of_body Bd
  have e0 : s₁.heap = h0 := by rw [← hh, Bd.state]; rfl
  have N0 := Fr.nil n0
  have pre0 : ∀ t, Steps p.tables e below (s₁.setTop (mkF m 0 #[.val (.int p1), .val (.int p2), .val (.long q3), .second] [])) t → Steps p.tables e below (s₁.setTop (entryFrame m #[(.int p1), (.int p2), (.long q3)] 4)) t := fun t k => castTop (ef_1 m p1 p2 q3) k
  obtain ⟨T24, h24, X24, e24, E24, A24, D24, -, st24⟩ := newO X0 hx hZ hown (hw _ (List.mem_of_getElem? (i := 5) rfl)) (hw _ (List.mem_of_getElem? (i := 6) rfl)) (hw _ (List.mem_of_getElem? (i := 7) rfl)) e0 (g := (mkF m 0 #[.val (.int p1), .val (.int p2), .val (.long q3), .second] [])) rfl (hb hby d1_0) (by decide) (by decide)
  obtain ⟨b24, g24⟩ : ∃ z, z = h0.size := ⟨_, rfl⟩
  rw [← g24] at A24 D24 st24
  have g_b24 : n0 ≤ b24 := Nat.le_trans (Nat.le_trans Z0 (Keep.refl h0 []).1) (Nat.le_of_eq g24.symm)
  have sz_b24 : h0.size ≤ b24 := Nat.le_trans (Keep.refl h0 []).1 (Nat.le_of_eq g24.symm)
  have Kh24 : Keep h0 h24 [] := (Keep.refl h0 []).ext E24
  have F_clients_b24 : Fld Z h24 b24 "com/example/livedial/livedial/cli/Fanout$Result" "clients" "I" (.int (0 : Int32)) := D24 (Or.inr (hw _ (List.mem_of_getElem? (i := 21) rfl))) (ty := .int) (by decide)
  have F_changes_b24 : Fld Z h24 b24 "com/example/livedial/livedial/cli/Fanout$Result" "changes" "I" (.int (0 : Int32)) := D24 (Or.inr (hw _ (List.mem_of_getElem? (i := 23) rfl))) (ty := .int) (by decide)
  have F_deliveries_b24 : Fld Z h24 b24 "com/example/livedial/livedial/cli/Fanout$Result" "deliveries" "J" (.long (0 : Int64)) := D24 (Or.inr (hw _ (List.mem_of_getElem? (i := 25) rfl))) (ty := .long) (by decide)
  have F_latencies_b24 : Fld Z h24 b24 "com/example/livedial/livedial/cli/Fanout$Result" "latencies" "[J" .null := D24 (Or.inr (hw _ (List.mem_of_getElem? (i := 27) rfl))) (ty := (.array .long)) (by decide)
  have F_failedChanges_b24 : Fld Z h24 b24 "com/example/livedial/livedial/cli/Fanout$Result" "failedChanges" "I" (.int (0 : Int32)) := D24 (Or.inr (hw _ (List.mem_of_getElem? (i := 29) rfl))) (ty := .int) (by decide)
  have F_firstFailure_b24 : Fld Z h24 b24 "com/example/livedial/livedial/cli/Fanout$Result" "firstFailure" "Ljava/lang/String;" .null := D24 (Or.inr (hw _ (List.mem_of_getElem? (i := 31) rfl))) (ty := (.object "java/lang/String")) (by decide)
  have F_endedStreams_b24 : Fld Z h24 b24 "com/example/livedial/livedial/cli/Fanout$Result" "endedStreams" "I" (.int (0 : Int32)) := D24 (Or.inr (hw _ (List.mem_of_getElem? (i := 33) rfl))) (ty := .int) (by decide)
  have F_firstEnd_b24 : Fld Z h24 b24 "com/example/livedial/livedial/cli/Fanout$Result" "firstEnd" "Ljava/lang/String;" .null := D24 (Or.inr (hw _ (List.mem_of_getElem? (i := 35) rfl))) (ty := (.object "java/lang/String")) (by decide)
  obtain ⟨T25, h25, k25, X25, e25, E25, A25, st25⟩ := newP X24 hx hZ (hw _ (List.mem_of_getElem? (i := 8) rfl)) e24 (g := (mkF m 8 #[.val (.int p1), .val (.int p2), .val (.long q3), .second] [(.int (0 : Int32)), (.long q3), (.int p2), (.int p1), (.ref b24), (.ref b24)])) rfl (hb hby d1_8) rfl (by decide) (cap := 0) (by decide) (by decide) (by decide) (by decide)
  obtain ⟨b25, g25⟩ : ∃ z, z = h24.size := ⟨_, rfl⟩
  rw [← g25] at A25 st25
  have g_b25 : n0 ≤ b25 := Nat.le_trans (Nat.le_trans Z0 Kh24.1) (Nat.le_of_eq g25.symm)
  have sz_b25 : h0.size ≤ b25 := Nat.le_trans Kh24.1 (Nat.le_of_eq g25.symm)
  have ne_b24_b25 : b24 ≠ b25 := Nat.ne_of_lt (Nat.lt_of_lt_of_le A24.lt (Nat.le_of_eq g25.symm))
  have Kh25 : Keep h0 h25 [] := Kh24.ext E25
  have V_b25 : Arv Z h25 b25 k25 .long (0 : Int32) [] (.long (0 : Int64)) := Arv.new A25 (by decide)
  obtain ⟨_, _, ⟨T26, L26, c26_, n26_⟩, -, X26, ⟨Lc26, hQ26, l26, y26, z26⟩, st26⟩ := X25.specialBack hx (y := (⟨"com/example/livedial/livedial/cli/Fanout$Result", "<init>", "(IIJ[JILjava/lang/String;ILjava/lang/String;)V"⟩ : MethodName)) rfl hown (mvT hZ (hw _ (List.mem_of_getElem? (i := 9) rfl))) (mvT hZ (hw _ (List.mem_of_getElem? (i := 10) rfl))) (mvT hZ (hw _ (List.mem_of_getElem? (i := 11) rfl))) (by decide) (backOf (W := 1) (rm_2 l Z a0 hw [] b24 p1 p2 q3 b25 (0 : Int32) (0 : Int32) h25 n0 (Nat.le_trans Z0 Kh25.1) (A24.ext E25) g_b24 (F_clients_b24.ext E25) (F_changes_b24.ext E25) (F_deliveries_b24.ext E25) (F_latencies_b24.ext E25) (F_failedChanges_b24.ext E25) (F_firstFailure_b24.ext E25) (F_endedStreams_b24.ext E25) (F_firstEnd_b24.ext E25)) hZ (hw _ (List.mem_of_getElem? (i := 11) rfl)) (hw _ (List.mem_of_getElem? (i := 7) rfl)) (by decide) (by decide)) (g := (mkF m 14 #[.val (.int p1), .val (.int p2), .val (.long q3), .second] [.null, (.int (0 : Int32)), .null, (.int (0 : Int32)), (.ref b25), (.long q3), (.int p2), (.int p1), (.ref b24), (.ref b24)])) rfl (by rw [hml]; rfl) (Steps.refl _) (a := b24) (argsL := [(.int p1), (.int p2), (.long q3), (.ref b25), (.int (0 : Int32)), .null, (.int (0 : Int32)), .null]) (rest := [(.ref b24)]) (lenOf pd__28IIJ_5bJILjava_2flang_2fString_3bILjava_2flang_2fString_3b_29V rfl) rfl (by show 2 * 0 + _ ≤ _; exact Nat.le_of_eq rfl) (hb hby d1_14) (fun _ _ => ⟨rfl, e25, (by decide : 2 + 0 ≤ _), (by decide : 8 + 0 ≤ _)⟩)
  dsimp only [Pt.U, Pt.locs, Pt.cells, Pt.slots] at X26 l26 y26 z26 st26 hQ26
  subst l26 y26 z26
  obtain ⟨rfl, Nq26, K26, Ee26, Fc26, Fg26, Fd26⟩ := hQ26
  have N26 := Fr.app N0 Nq26
  have Kh26 : Keep h0 T26.heap [] := Kh25.trans K26 (allS (Or.inr sz_b24) all0)
  obtain ⟨fs, hr, hrun, hended, hW, hsame⟩ := X26.leave (v := some (.ref b24)) (fun h => by rw [Bd.returns] at h; cases h)
  refine ⟨_, _, pre0 _ ?_, hrun, hended, _, _, rfl, ?_, ⟨_, rfl⟩, hW, hsame.mono (by decide) (by decide)⟩
  · show Steps p.tables e below (s₁.setTop (mkF m 0 #[.val (.int p1), .val (.int p2), .val (.long q3), .second] [])) _
    refine st24 _ ?_
    show Steps p.tables e below (T24.setTop (mkF m 3 #[.val (.int p1), .val (.int p2), .val (.long q3), .second] [(.ref b24)])) _
    refine XS.dup X24.here hx rfl (hb hby d1_3) rfl rfl ?_
    show Steps p.tables e below (T24.setTop (mkF m 4 #[.val (.int p1), .val (.int p2), .val (.long q3), .second] [(.ref b24), (.ref b24)])) _
    refine XS.iloadN X24.here hx rfl (hb hby d1_4) rfl ?_
    show Steps p.tables e below (T24.setTop (mkF m 5 #[.val (.int p1), .val (.int p2), .val (.long q3), .second] [(.int p1), (.ref b24), (.ref b24)])) _
    refine XS.iloadN X24.here hx rfl (hb hby d1_5) rfl ?_
    show Steps p.tables e below (T24.setTop (mkF m 6 #[.val (.int p1), .val (.int p2), .val (.long q3), .second] [(.int p2), (.int p1), (.ref b24), (.ref b24)])) _
    refine XS.lloadN X24.here hx rfl (hb hby d1_6) rfl ?_
    show Steps p.tables e below (T24.setTop (mkF m 7 #[.val (.int p1), .val (.int p2), .val (.long q3), .second] [(.long q3), (.int p2), (.int p1), (.ref b24), (.ref b24)])) _
    refine XS.iconst X24.here hx rfl (hb hby d1_7) ?_
    show Steps p.tables e below (T24.setTop (mkF m 8 #[.val (.int p1), .val (.int p2), .val (.long q3), .second] [(.int (0 : Int32)), (.long q3), (.int p2), (.int p1), (.ref b24), (.ref b24)])) _
    refine st25 _ ?_
    show Steps p.tables e below (T25.setTop (mkF m 10 #[.val (.int p1), .val (.int p2), .val (.long q3), .second] [(.ref b25), (.long q3), (.int p2), (.int p1), (.ref b24), (.ref b24)])) _
    refine XS.iconst X25.here hx rfl (hb hby d1_10) ?_
    show Steps p.tables e below (T25.setTop (mkF m 11 #[.val (.int p1), .val (.int p2), .val (.long q3), .second] [(.int (0 : Int32)), (.ref b25), (.long q3), (.int p2), (.int p1), (.ref b24), (.ref b24)])) _
    refine XS.aconstNull X25.here hx rfl (hb hby d1_11) ?_
    show Steps p.tables e below (T25.setTop (mkF m 12 #[.val (.int p1), .val (.int p2), .val (.long q3), .second] [.null, (.int (0 : Int32)), (.ref b25), (.long q3), (.int p2), (.int p1), (.ref b24), (.ref b24)])) _
    refine XS.iconst X25.here hx rfl (hb hby d1_12) ?_
    show Steps p.tables e below (T25.setTop (mkF m 13 #[.val (.int p1), .val (.int p2), .val (.long q3), .second] [(.int (0 : Int32)), .null, (.int (0 : Int32)), (.ref b25), (.long q3), (.int p2), (.int p1), (.ref b24), (.ref b24)])) _
    refine XS.aconstNull X25.here hx rfl (hb hby d1_13) ?_
    show Steps p.tables e below (T25.setTop (mkF m 14 #[.val (.int p1), .val (.int p2), .val (.long q3), .second] [.null, (.int (0 : Int32)), .null, (.int (0 : Int32)), (.ref b25), (.long q3), (.int p2), (.int p1), (.ref b24), (.ref b24)])) _
    refine st26.trans ?_
    show Steps p.tables e below (T26.setTop (mkF m 17 #[.val (.int p1), .val (.int p2), .val (.long q3), .second] [(.ref b24)])) _
    jvm_step X26.here [X26.here.top, hx, (hb hby d1_17), X26.method', Bd.returns, Value.isRef, FieldType.isReference]
    first | (intro acts; rw [hr _ acts rfl rfl rfl]) | rw [hr _ _ rfl rfl rfl]
    exact Steps.refl _
  · show Q_1 Z p1 p2 q3 h0 n0 _ T26.heap _
    subst g24
    exact ⟨rfl, N26, Kh26, Ee26, Fc26, Fg26, Fd26⟩
theorem d5_0 : decode prog_28_method_2_code 0 = .ok (.aload_n 0, 1) := by decide +kernel
theorem d5_1 : decode prog_28_method_2_code 1 = .ok (.getfield 13, 3) := by decide +kernel
theorem d5_4 : decode prog_28_method_2_code 4 = .ok (.i2l, 1) := by decide +kernel
theorem d5_5 : decode prog_28_method_2_code 5 = .ok (.aload_n 0, 1) := by decide +kernel
theorem d5_6 : decode prog_28_method_2_code 6 = .ok (.getfield 7, 3) := by decide +kernel
theorem d5_9 : decode prog_28_method_2_code 9 = .ok (.i2l, 1) := by decide +kernel
theorem d5_10 : decode prog_28_method_2_code 10 = .ok (.lmul, 1) := by decide +kernel
theorem d5_11 : decode prog_28_method_2_code 11 = .ok (.aload_n 0, 1) := by decide +kernel
theorem d5_12 : decode prog_28_method_2_code 12 = .ok (.getfield 16, 3) := by decide +kernel
theorem d5_15 : decode prog_28_method_2_code 15 = .ok (.lsub, 1) := by decide +kernel
theorem d5_16 : decode prog_28_method_2_code 16 = .ok (.lreturn, 1) := by decide +kernel
theorem pn_5 : plainName "com/example/livedial/livedial/cli/Fanout$Result" = true := by first | (simp [plainName, overriddenIn]; done) | decide +kernel
theorem ef_5 (m : MethodId) (x0 : Addr) : entryFrame m #[(.ref x0)] 1 = mkF m 0 #[.val (.ref x0)] [] := by first | (simp [entryFrame, mkF, argsToLocals, Value.category]; done) | rfl
def Q_5 (Z : State) (a1 : Addr) (c g : Int32) (d : Int64) (h0 : Heap) (n0 : Nat) (v : Option Value) (h : Heap) (L : List Loc) : Prop := v = some (.long (g.toInt64 * c.toInt64 - d)) ∧ Fr n0 L ∧ h = h0
set_option maxRecDepth 65536 in
set_option maxHeartbeats 40000000 in
theorem rm_5 (l : Launch) (Z : State) (a0 : Array Value) (hw : ∀ d ∈ tables_1, d.before a0 Z = true) (ws : List Jvm.Cond) (a1 : Addr) (c g : Int32) (d : Int64) (h0 : Heap) (n0 : Nat) (Z0 : n0 ≤ h0.size) (F_c : Fld Z h0 a1 "com/example/livedial/livedial/cli/Fanout$Result" "clients" "I" (.int c)) (F_g : Fld Z h0 a1 "com/example/livedial/livedial/cli/Fanout$Result" "changes" "I" (.int g)) (F_d : Fld Z h0 a1 "com/example/livedial/livedial/cli/Fanout$Result" "deliveries" "J" (.long d)) :
    MetFree l (⟨"com/example/livedial/livedial/cli/Fanout$Result", "missed", "()J"⟩ : MethodName) (head1 (Jvm.Cond.code (⟨"com/example/livedial/livedial/cli/Fanout$Result", "missed", "()J"⟩ : MethodName) prog_28_method_2_code 1 (some .long) :: ws) ({ frames := 0, cells := 0, slots := 0, locals := 0 } : Room)) (fun a U => a = #[(.ref a1)] ∧ Z.Warmed39 U.vm ∧ U.heap = h0) (fun _ _ _ _ _ => True) (fun _ U o U' => ∃ v L, o = .returned v ∧ Q_5 Z a1 c g d h0 n0 v U'.heap L ∧ FrameEnd U o U' L ({ frames := 0, cells := 0, slots := 0, locals := 0 } : Room).cells ({ frames := 0, cells := 0, slots := 0, locals := 0 } : Room).slots) := by
  refine MetFree.of_bodySF (plainFor_of_name pn_5) hisR ?_
  intro p e s m args below meth cod_ s₁ Bd hml0 hP hK
  obtain ⟨rfl, hZ, hh⟩ := hP
  have hx := Bd.exec
  have hby := Bd.bytes
  have hml : cod_.maxLocals = 1 := hml0
  have hown : s.vm.findClass "com/example/livedial/livedial/cli/Fanout$Result" = some m.cls := findClass_of_methodNamed Bd.named
  have hnm := (name_of_methodNamed Bd.named Bd.method).1
  have X0 : Stand p l e ({ frames := 0, cells := 0, slots := 0, locals := 0 } : Room) s m #[(.ref a1)] below meth cod_ s₁ [] 0 0 := Stand.of_body Bd
  have e0 : s₁.heap = h0 := by rw [← hh, Bd.state]; rfl
  have N0 := Fr.nil n0
  have pre0 : ∀ t, Steps p.tables e below (s₁.setTop (mkF m 0 #[.val (.ref a1)] [])) t → Steps p.tables e below (s₁.setTop (entryFrame m #[(.ref a1)] 1)) t := fun t k => castTop (ef_5 m a1) k
  obtain ⟨T27, X27, e27, st27⟩ := getF X0 hx hZ hown (host := "") (Or.inl (hw _ (List.mem_of_getElem? (i := 22) rfl))) Via.refl e0 F_g (g := (mkF m 1 #[.val (.ref a1)] [(.ref a1)])) rfl rfl (hb hby d5_1)
  obtain ⟨T28, X28, e28, st28⟩ := getF X27 hx hZ hown (host := "") (Or.inl (hw _ (List.mem_of_getElem? (i := 20) rfl))) Via.refl e27 F_c (g := (mkF m 6 #[.val (.ref a1)] [(.ref a1), (.long (g.toInt64))])) rfl rfl (hb hby d5_6)
  obtain ⟨T29, X29, e29, st29⟩ := getF X28 hx hZ hown (host := "") (Or.inl (hw _ (List.mem_of_getElem? (i := 24) rfl))) Via.refl e28 F_d (g := (mkF m 12 #[.val (.ref a1)] [(.ref a1), (.long ((g.toInt64) * (c.toInt64)))])) rfl rfl (hb hby d5_12)
  obtain ⟨fs, hr, hrun, hended, hW, hsame⟩ := X29.leave (v := some (.long (((g.toInt64) * (c.toInt64)) - d))) (fun h => by rw [Bd.returns] at h; cases h)
  refine ⟨_, _, pre0 _ ?_, hrun, hended, _, _, rfl, ?_, ⟨_, rfl⟩, hW, hsame.mono (by decide) (by decide)⟩
  · show Steps p.tables e below (s₁.setTop (mkF m 0 #[.val (.ref a1)] [])) _
    refine XS.aloadN X0.here hx rfl (hb hby d5_0) rfl rfl ?_
    show Steps p.tables e below (s₁.setTop (mkF m 1 #[.val (.ref a1)] [(.ref a1)])) _
    refine st27 _ ?_
    show Steps p.tables e below (T27.setTop (mkF m 4 #[.val (.ref a1)] [(.int g)])) _
    refine XS.i2l X27.here hx rfl (hb hby d5_4) rfl ?_
    show Steps p.tables e below (T27.setTop (mkF m 5 #[.val (.ref a1)] [(.long (g.toInt64))])) _
    refine XS.aloadN X27.here hx rfl (hb hby d5_5) rfl rfl ?_
    show Steps p.tables e below (T27.setTop (mkF m 6 #[.val (.ref a1)] [(.ref a1), (.long (g.toInt64))])) _
    refine st28 _ ?_
    show Steps p.tables e below (T28.setTop (mkF m 9 #[.val (.ref a1)] [(.int c), (.long (g.toInt64))])) _
    refine XS.i2l X28.here hx rfl (hb hby d5_9) rfl ?_
    show Steps p.tables e below (T28.setTop (mkF m 10 #[.val (.ref a1)] [(.long (c.toInt64)), (.long (g.toInt64))])) _
    refine XS.lmul X28.here hx rfl (hb hby d5_10) rfl ?_
    show Steps p.tables e below (T28.setTop (mkF m 11 #[.val (.ref a1)] [(.long ((g.toInt64) * (c.toInt64)))])) _
    refine XS.aloadN X28.here hx rfl (hb hby d5_11) rfl rfl ?_
    show Steps p.tables e below (T28.setTop (mkF m 12 #[.val (.ref a1)] [(.ref a1), (.long ((g.toInt64) * (c.toInt64)))])) _
    refine st29 _ ?_
    show Steps p.tables e below (T29.setTop (mkF m 15 #[.val (.ref a1)] [(.long d), (.long ((g.toInt64) * (c.toInt64)))])) _
    refine XS.lsub X29.here hx rfl (hb hby d5_15) rfl ?_
    show Steps p.tables e below (T29.setTop (mkF m 16 #[.val (.ref a1)] [(.long (((g.toInt64) * (c.toInt64)) - d))])) _
    jvm_step X29.here [X29.here.top, hx, (hb hby d5_16), X29.method', Bd.returns, narrow]
    first | (intro acts; rw [hr _ acts rfl rfl rfl]) | rw [hr _ _ rfl rfl rfl]
    exact Steps.refl _
  · show Q_5 Z a1 c g d h0 n0 _ T29.heap _
    rw [e29]
    exact ⟨rfl, N0, rfl⟩
theorem pd__28IIJ_29Lcom_2fexample_2flivedial_2flivedial_2fcli_2fFanout_24Result_3b : parseMethodDescriptor "(IIJ)Lcom/example/livedial/livedial/cli/Fanout$Result;" = some ⟨[.int, .int, .long], some (.object "com/example/livedial/livedial/cli/Fanout$Result")⟩ := by decide +kernel
theorem pd__28_29J : parseMethodDescriptor "()J" = some ⟨[], some .long⟩ := by decide +kernel
theorem pn_0 : plainName "com/example/livedial/livedial/cli/ResultMissedPinLaw" = true := by first | (simp [plainName, overriddenIn]; done) | decide +kernel
theorem ef_0 (m : MethodId) (x0 : Int32) (x1 : Int32) (x2 : Int64) : entryFrame m #[(.int x0), (.int x1), (.long x2)] maxLocals = mkF m 0 #[.val (.int x0), .val (.int x1), .val (.long x2), .second, .unset, .unset, .unset, .unset, .unset, .unset, .unset, .unset, .unset, .unset, .unset, .unset] [] := by first | (simp [entryFrame, mkF, argsToLocals, Value.category, maxLocals]; done) | rfl
def Q_0 (Z : State) (p1 : Int32) (p2 : Int32) (q3 : Int64) (h0 : Heap) (n0 : Nat) (v : Option Value) (h : Heap) (L : List Loc) : Prop := v = some (.int 1) ∧ Fr n0 L
set_option maxRecDepth 65536 in
set_option maxHeartbeats 40000000 in
theorem rm_0 (l : Launch) (Z : State) (a0 : Array Value) (hw : ∀ d ∈ tables_1, d.before a0 Z = true) (ws : List Jvm.Cond) (p1 : Int32) (p2 : Int32) (q3 : Int64) (h0 : Heap) (n0 : Nat) (Z0 : n0 ≤ h0.size) :
    MetFree l x (head1 (Jvm.Cond.code x code maxLocals ret :: ws) room_1) (fun a U => a = #[(.int p1), (.int p2), (.long q3)] ∧ Z.Warmed39 U.vm ∧ U.heap = h0) (fun _ _ _ _ _ => True) (fun _ U o U' => ∃ v L, o = .returned v ∧ Q_0 Z p1 p2 q3 h0 n0 v U'.heap L ∧ FrameEnd U o U' L room_1.cells room_1.slots) := by
  refine MetFree.of_bodySF (plainFor_of_name pn_0) hisR ?_
  intro p e s m args below meth cod_ s₁ Bd hml0 hP hK
  obtain ⟨rfl, hZ, hh⟩ := hP
  have hx := Bd.exec
  have hby := Bd.bytes
  have hml : cod_.maxLocals = 16 := hml0
  have hown : s.vm.findClass "com/example/livedial/livedial/cli/ResultMissedPinLaw" = some m.cls := findClass_of_methodNamed Bd.named
  have hnm := (name_of_methodNamed Bd.named Bd.method).1
  have X0 : Stand p l e room_1 s m #[(.int p1), (.int p2), (.long q3)] below meth cod_ s₁ [] 0 0 := Stand.of_body Bd
  have e0 : s₁.heap = h0 := by rw [← hh, Bd.state]; rfl
  have N0 := Fr.nil n0
  have pre0 : ∀ t, Steps p.tables e below (s₁.setTop (mkF m 0 #[.val (.int p1), .val (.int p2), .val (.long q3), .second, .unset, .unset, .unset, .unset, .unset, .unset, .unset, .unset, .unset, .unset, .unset, .unset] [])) t → Steps p.tables e below (s₁.setTop (entryFrame m #[(.int p1), (.int p2), (.long q3)] maxLocals)) t := fun t k => castTop (ef_0 m p1 p2 q3) k
  obtain ⟨_, _, ⟨T30, L30, c30_, n30_⟩, -, X30, ⟨Lc30, hQ30, l30, y30, z30⟩, st30⟩ := Jvm.LawKit.callS X0 hx (y := (⟨"com/example/livedial/livedial/cli/ResultMissedPinLaw", "make", "(IIJ)Lcom/example/livedial/livedial/cli/Fanout$Result;"⟩ : MethodName)) hown (mvT hZ (hw _ (List.mem_of_getElem? (i := 1) rfl))) (mvT hZ (hw _ (List.mem_of_getElem? (i := 2) rfl))) (mvT hZ (hw _ (List.mem_of_getElem? (i := 3) rfl))) (mvT hZ (hw _ (List.mem_of_getElem? (i := 4) rfl))) (by decide) (backOf (W := 0) (rm_1 l Z a0 hw [] (p1 &&& (2147483647 : Int32)) p2 q3 h0 n0 (Nat.le_trans Z0 (Keep.refl h0 []).1) ) hZ (hw _ (List.mem_of_getElem? (i := 4) rfl)) (hw _ (List.mem_of_getElem? (i := 3) rfl)) (by decide) (by decide)) (g := (mkF m 10 #[.val (.int p1), .val (.int p2), .val (.long q3), .second, .val (.int (p1 &&& (2147483647 : Int32))), .unset, .unset, .unset, .unset, .unset, .unset, .unset, .unset, .unset, .unset, .unset] [(.long q3), (.int p2), (.int (p1 &&& (2147483647 : Int32)))])) rfl (by rw [hml]; rfl) (argsL := [(.int (p1 &&& (2147483647 : Int32))), (.int p2), (.long q3)]) (rest := []) (lenOf pd__28IIJ_29Lcom_2fexample_2flivedial_2flivedial_2fcli_2fFanout_24Result_3b rfl) rfl (by show 2 * 0 + _ ≤ _; exact Nat.le_of_eq rfl) (hb hby at_10) (fun _ _ => ⟨rfl, e0, (by decide : 0 + 2 ≤ _), (by decide : 0 + 8 ≤ _)⟩)
  dsimp only [Pt.U, Pt.locs, Pt.cells, Pt.slots] at X30 l30 y30 z30 st30 hQ30
  subst l30 y30 z30
  obtain ⟨rfl, Nq30, K30, Ee30, Fc30, Fg30, Fd30⟩ := hQ30
  have N30 := Fr.app N0 Nq30
  have Kh30 : Keep h0 T30.heap [] := (Keep.refl h0 []).trans K30 (fun _ q_ => nomatch q_)
  obtain ⟨b30, g30⟩ : ∃ z, z = h0.size := ⟨_, rfl⟩
  rw [← g30] at Ee30 Fc30 Fg30 Fd30 st30
  obtain ⟨cq31, kq31, q31a, q31b, q31c⟩ := isOf hZ rfl Ee30
  obtain ⟨_, _, ⟨T31, L31, c31_, n31_⟩, -, X31, ⟨Lc31, hQ31, l31, y31, z31⟩, st31⟩ := X30.virtualBack hx (y := (⟨"com/example/livedial/livedial/cli/Fanout$Result", "missed", "()J"⟩ : MethodName)) (z := (⟨"com/example/livedial/livedial/cli/Fanout$Result", "missed", "()J"⟩ : MethodName)) hown (mvT hZ (hw _ (List.mem_of_getElem? (i := 36) rfl))) (mvT hZ (hw _ (List.mem_of_getElem? (i := 37) rfl))) (notFace_of_selects (args := #[]) (mvT hZ (hw _ (List.mem_of_getElem? (i := 39) rfl)))) (mvT hZ (hw _ (List.mem_of_getElem? (i := 39) rfl))) (mvT hZ (hw _ (List.mem_of_getElem? (i := 38) rfl))) (by decide) (backOf (W := 0) (rm_5 l Z a0 hw [] b30 (p1 &&& (2147483647 : Int32)) p2 q3 T30.heap n0 (Nat.le_trans Z0 Kh30.1) Fc30 Fg30 Fd30) hZ (hw _ (List.mem_of_getElem? (i := 40) rfl)) (hw _ (List.mem_of_getElem? (i := 7) rfl)) (by decide) (by decide)) q31a q31c (g := (mkF m 13 #[.val (.int p1), .val (.int p2), .val (.long q3), .second, .val (.int (p1 &&& (2147483647 : Int32))), .unset, .unset, .unset, .unset, .unset, .unset, .unset, .unset, .unset, .unset, .unset] [(.ref b30)])) rfl (by rw [hml]; rfl) (Steps.refl _) (argsL := []) (rest := []) (lenOf pd__28_29J rfl) rfl (by show 2 * 0 + _ ≤ _; exact Nat.le_of_eq rfl) (hb hby at_13) (fun _ _ => ⟨rfl, rfl, (by decide : 2 + 0 ≤ _), (by decide : 8 + 0 ≤ _)⟩)
  dsimp only [Pt.U, Pt.locs, Pt.cells, Pt.slots] at X31 l31 y31 z31 st31 hQ31
  subst l31 y31 z31
  obtain ⟨rfl, Nq31, e31⟩ := hQ31
  have N31 := Fr.app N30 Nq31
  obtain ⟨_, _, ⟨T32, L32, c32_, n32_⟩, -, X32, ⟨Lc32, hQ32, l32, y32, z32⟩, st32⟩ := Jvm.LawKit.callS X31 hx (y := (⟨"com/example/livedial/livedial/cli/ResultMissedPinLaw", "make", "(IIJ)Lcom/example/livedial/livedial/cli/Fanout$Result;"⟩ : MethodName)) hown (mvT hZ (hw _ (List.mem_of_getElem? (i := 1) rfl))) (mvT hZ (hw _ (List.mem_of_getElem? (i := 2) rfl))) (mvT hZ (hw _ (List.mem_of_getElem? (i := 3) rfl))) (mvT hZ (hw _ (List.mem_of_getElem? (i := 4) rfl))) (by decide) (backOf (W := 0) (rm_1 l Z a0 hw [] (p1 &&& (2147483647 : Int32)) p2 (0 : Int64) T30.heap n0 (Nat.le_trans Z0 Kh30.1) ) hZ (hw _ (List.mem_of_getElem? (i := 4) rfl)) (hw _ (List.mem_of_getElem? (i := 3) rfl)) (by decide) (by decide)) (g := (mkF m 22 #[.val (.int p1), .val (.int p2), .val (.long q3), .second, .val (.int (p1 &&& (2147483647 : Int32))), .val (.long (p2.toInt64 * (p1 &&& (2147483647 : Int32)).toInt64 - q3)), .second, .unset, .unset, .unset, .unset, .unset, .unset, .unset, .unset, .unset] [(.long (0 : Int64)), (.int p2), (.int (p1 &&& (2147483647 : Int32)))])) rfl (by rw [hml]; rfl) (argsL := [(.int (p1 &&& (2147483647 : Int32))), (.int p2), (.long (0 : Int64))]) (rest := []) (lenOf pd__28IIJ_29Lcom_2fexample_2flivedial_2flivedial_2fcli_2fFanout_24Result_3b rfl) rfl (by show 2 * 0 + _ ≤ _; exact Nat.le_of_eq rfl) (hb hby at_22) (fun _ _ => ⟨rfl, e31, (by decide : 2 + 2 ≤ _), (by decide : 8 + 8 ≤ _)⟩)
  dsimp only [Pt.U, Pt.locs, Pt.cells, Pt.slots] at X32 l32 y32 z32 st32 hQ32
  subst l32 y32 z32
  obtain ⟨rfl, Nq32, K32, Ee32, Fc32, Fg32, Fd32⟩ := hQ32
  have N32 := Fr.app N31 Nq32
  have Kh32 : Keep h0 T32.heap [] := Kh30.trans K32 (fun _ q_ => nomatch q_)
  obtain ⟨b32, g32⟩ : ∃ z, z = T30.heap.size := ⟨_, rfl⟩
  rw [← g32] at Ee32 Fc32 Fg32 Fd32 st32
  obtain ⟨cq33, kq33, q33a, q33b, q33c⟩ := isOf hZ rfl Ee32
  obtain ⟨_, _, ⟨T33, L33, c33_, n33_⟩, -, X33, ⟨Lc33, hQ33, l33, y33, z33⟩, st33⟩ := X32.virtualBack hx (y := (⟨"com/example/livedial/livedial/cli/Fanout$Result", "missed", "()J"⟩ : MethodName)) (z := (⟨"com/example/livedial/livedial/cli/Fanout$Result", "missed", "()J"⟩ : MethodName)) hown (mvT hZ (hw _ (List.mem_of_getElem? (i := 36) rfl))) (mvT hZ (hw _ (List.mem_of_getElem? (i := 37) rfl))) (notFace_of_selects (args := #[]) (mvT hZ (hw _ (List.mem_of_getElem? (i := 39) rfl)))) (mvT hZ (hw _ (List.mem_of_getElem? (i := 39) rfl))) (mvT hZ (hw _ (List.mem_of_getElem? (i := 38) rfl))) (by decide) (backOf (W := 0) (rm_5 l Z a0 hw [] b32 (p1 &&& (2147483647 : Int32)) p2 (0 : Int64) T32.heap n0 (Nat.le_trans Z0 Kh32.1) Fc32 Fg32 Fd32) hZ (hw _ (List.mem_of_getElem? (i := 40) rfl)) (hw _ (List.mem_of_getElem? (i := 7) rfl)) (by decide) (by decide)) q33a q33c (g := (mkF m 25 #[.val (.int p1), .val (.int p2), .val (.long q3), .second, .val (.int (p1 &&& (2147483647 : Int32))), .val (.long (p2.toInt64 * (p1 &&& (2147483647 : Int32)).toInt64 - q3)), .second, .unset, .unset, .unset, .unset, .unset, .unset, .unset, .unset, .unset] [(.ref b32)])) rfl (by rw [hml]; rfl) (Steps.refl _) (argsL := []) (rest := []) (lenOf pd__28_29J rfl) rfl (by show 2 * 0 + _ ≤ _; exact Nat.le_of_eq rfl) (hb hby at_25) (fun _ _ => ⟨rfl, rfl, (by decide : 4 + 0 ≤ _), (by decide : 16 + 0 ≤ _)⟩)
  dsimp only [Pt.U, Pt.locs, Pt.cells, Pt.slots] at X33 l33 y33 z33 st33 hQ33
  subst l33 y33 z33
  obtain ⟨rfl, Nq33, e33⟩ := hQ33
  have N33 := Fr.app N32 Nq33
  obtain ⟨_, _, ⟨T34, L34, c34_, n34_⟩, -, X34, ⟨Lc34, hQ34, l34, y34, z34⟩, st34⟩ := Jvm.LawKit.callS X33 hx (y := (⟨"com/example/livedial/livedial/cli/ResultMissedPinLaw", "make", "(IIJ)Lcom/example/livedial/livedial/cli/Fanout$Result;"⟩ : MethodName)) hown (mvT hZ (hw _ (List.mem_of_getElem? (i := 1) rfl))) (mvT hZ (hw _ (List.mem_of_getElem? (i := 2) rfl))) (mvT hZ (hw _ (List.mem_of_getElem? (i := 3) rfl))) (mvT hZ (hw _ (List.mem_of_getElem? (i := 4) rfl))) (by decide) (backOf (W := 0) (rm_1 l Z a0 hw [] ((p1 &&& (2147483647 : Int32)) - (1 : Int32)) p2 (0 : Int64) T32.heap n0 (Nat.le_trans Z0 Kh32.1) ) hZ (hw _ (List.mem_of_getElem? (i := 4) rfl)) (hw _ (List.mem_of_getElem? (i := 3) rfl)) (by decide) (by decide)) (g := (mkF m 36 #[.val (.int p1), .val (.int p2), .val (.long q3), .second, .val (.int (p1 &&& (2147483647 : Int32))), .val (.long (p2.toInt64 * (p1 &&& (2147483647 : Int32)).toInt64 - q3)), .second, .val (.long (p2.toInt64 * (p1 &&& (2147483647 : Int32)).toInt64 - (0 : Int64))), .second, .unset, .unset, .unset, .unset, .unset, .unset, .unset] [(.long (0 : Int64)), (.int p2), (.int ((p1 &&& (2147483647 : Int32)) - (1 : Int32)))])) rfl (by rw [hml]; rfl) (argsL := [(.int ((p1 &&& (2147483647 : Int32)) - (1 : Int32))), (.int p2), (.long (0 : Int64))]) (rest := []) (lenOf pd__28IIJ_29Lcom_2fexample_2flivedial_2flivedial_2fcli_2fFanout_24Result_3b rfl) rfl (by show 2 * 0 + _ ≤ _; exact Nat.le_of_eq rfl) (hb hby at_36) (fun _ _ => ⟨rfl, e33, (by decide : 4 + 2 ≤ _), (by decide : 16 + 8 ≤ _)⟩)
  dsimp only [Pt.U, Pt.locs, Pt.cells, Pt.slots] at X34 l34 y34 z34 st34 hQ34
  subst l34 y34 z34
  obtain ⟨rfl, Nq34, K34, Ee34, Fc34, Fg34, Fd34⟩ := hQ34
  have N34 := Fr.app N33 Nq34
  have Kh34 : Keep h0 T34.heap [] := Kh32.trans K34 (fun _ q_ => nomatch q_)
  obtain ⟨b34, g34⟩ : ∃ z, z = T32.heap.size := ⟨_, rfl⟩
  rw [← g34] at Ee34 Fc34 Fg34 Fd34 st34
  obtain ⟨cq35, kq35, q35a, q35b, q35c⟩ := isOf hZ rfl Ee34
  obtain ⟨_, _, ⟨T35, L35, c35_, n35_⟩, -, X35, ⟨Lc35, hQ35, l35, y35, z35⟩, st35⟩ := X34.virtualBack hx (y := (⟨"com/example/livedial/livedial/cli/Fanout$Result", "missed", "()J"⟩ : MethodName)) (z := (⟨"com/example/livedial/livedial/cli/Fanout$Result", "missed", "()J"⟩ : MethodName)) hown (mvT hZ (hw _ (List.mem_of_getElem? (i := 36) rfl))) (mvT hZ (hw _ (List.mem_of_getElem? (i := 37) rfl))) (notFace_of_selects (args := #[]) (mvT hZ (hw _ (List.mem_of_getElem? (i := 39) rfl)))) (mvT hZ (hw _ (List.mem_of_getElem? (i := 39) rfl))) (mvT hZ (hw _ (List.mem_of_getElem? (i := 38) rfl))) (by decide) (backOf (W := 0) (rm_5 l Z a0 hw [] b34 ((p1 &&& (2147483647 : Int32)) - (1 : Int32)) p2 (0 : Int64) T34.heap n0 (Nat.le_trans Z0 Kh34.1) Fc34 Fg34 Fd34) hZ (hw _ (List.mem_of_getElem? (i := 40) rfl)) (hw _ (List.mem_of_getElem? (i := 7) rfl)) (by decide) (by decide)) q35a q35c (g := (mkF m 39 #[.val (.int p1), .val (.int p2), .val (.long q3), .second, .val (.int (p1 &&& (2147483647 : Int32))), .val (.long (p2.toInt64 * (p1 &&& (2147483647 : Int32)).toInt64 - q3)), .second, .val (.long (p2.toInt64 * (p1 &&& (2147483647 : Int32)).toInt64 - (0 : Int64))), .second, .unset, .unset, .unset, .unset, .unset, .unset, .unset] [(.ref b34)])) rfl (by rw [hml]; rfl) (Steps.refl _) (argsL := []) (rest := []) (lenOf pd__28_29J rfl) rfl (by show 2 * 0 + _ ≤ _; exact Nat.le_of_eq rfl) (hb hby at_39) (fun _ _ => ⟨rfl, rfl, (by decide : 6 + 0 ≤ _), (by decide : 24 + 0 ≤ _)⟩)
  dsimp only [Pt.U, Pt.locs, Pt.cells, Pt.slots] at X35 l35 y35 z35 st35 hQ35
  subst l35 y35 z35
  obtain ⟨rfl, Nq35, e35⟩ := hQ35
  have N35 := Fr.app N34 Nq35
  obtain ⟨_, _, ⟨T36, L36, c36_, n36_⟩, -, X36, ⟨Lc36, hQ36, l36, y36, z36⟩, st36⟩ := Jvm.LawKit.callS X35 hx (y := (⟨"com/example/livedial/livedial/cli/ResultMissedPinLaw", "make", "(IIJ)Lcom/example/livedial/livedial/cli/Fanout$Result;"⟩ : MethodName)) hown (mvT hZ (hw _ (List.mem_of_getElem? (i := 1) rfl))) (mvT hZ (hw _ (List.mem_of_getElem? (i := 2) rfl))) (mvT hZ (hw _ (List.mem_of_getElem? (i := 3) rfl))) (mvT hZ (hw _ (List.mem_of_getElem? (i := 4) rfl))) (by decide) (backOf (W := 0) (rm_1 l Z a0 hw [] (0 : Int32) p2 q3 T34.heap n0 (Nat.le_trans Z0 Kh34.1) ) hZ (hw _ (List.mem_of_getElem? (i := 4) rfl)) (hw _ (List.mem_of_getElem? (i := 3) rfl)) (by decide) (by decide)) (g := (mkF m 47 #[.val (.int p1), .val (.int p2), .val (.long q3), .second, .val (.int (p1 &&& (2147483647 : Int32))), .val (.long (p2.toInt64 * (p1 &&& (2147483647 : Int32)).toInt64 - q3)), .second, .val (.long (p2.toInt64 * (p1 &&& (2147483647 : Int32)).toInt64 - (0 : Int64))), .second, .val (.long (p2.toInt64 * ((p1 &&& (2147483647 : Int32)) - (1 : Int32)).toInt64 - (0 : Int64))), .second, .unset, .unset, .unset, .unset, .unset] [(.long q3), (.int p2), (.int (0 : Int32))])) rfl (by rw [hml]; rfl) (argsL := [(.int (0 : Int32)), (.int p2), (.long q3)]) (rest := []) (lenOf pd__28IIJ_29Lcom_2fexample_2flivedial_2flivedial_2fcli_2fFanout_24Result_3b rfl) rfl (by show 2 * 0 + _ ≤ _; exact Nat.le_of_eq rfl) (hb hby at_47) (fun _ _ => ⟨rfl, e35, (by decide : 6 + 2 ≤ _), (by decide : 24 + 8 ≤ _)⟩)
  dsimp only [Pt.U, Pt.locs, Pt.cells, Pt.slots] at X36 l36 y36 z36 st36 hQ36
  subst l36 y36 z36
  obtain ⟨rfl, Nq36, K36, Ee36, Fc36, Fg36, Fd36⟩ := hQ36
  have N36 := Fr.app N35 Nq36
  have Kh36 : Keep h0 T36.heap [] := Kh34.trans K36 (fun _ q_ => nomatch q_)
  obtain ⟨b36, g36⟩ : ∃ z, z = T34.heap.size := ⟨_, rfl⟩
  rw [← g36] at Ee36 Fc36 Fg36 Fd36 st36
  obtain ⟨cq37, kq37, q37a, q37b, q37c⟩ := isOf hZ rfl Ee36
  obtain ⟨_, _, ⟨T37, L37, c37_, n37_⟩, -, X37, ⟨Lc37, hQ37, l37, y37, z37⟩, st37⟩ := X36.virtualBack hx (y := (⟨"com/example/livedial/livedial/cli/Fanout$Result", "missed", "()J"⟩ : MethodName)) (z := (⟨"com/example/livedial/livedial/cli/Fanout$Result", "missed", "()J"⟩ : MethodName)) hown (mvT hZ (hw _ (List.mem_of_getElem? (i := 36) rfl))) (mvT hZ (hw _ (List.mem_of_getElem? (i := 37) rfl))) (notFace_of_selects (args := #[]) (mvT hZ (hw _ (List.mem_of_getElem? (i := 39) rfl)))) (mvT hZ (hw _ (List.mem_of_getElem? (i := 39) rfl))) (mvT hZ (hw _ (List.mem_of_getElem? (i := 38) rfl))) (by decide) (backOf (W := 0) (rm_5 l Z a0 hw [] b36 (0 : Int32) p2 q3 T36.heap n0 (Nat.le_trans Z0 Kh36.1) Fc36 Fg36 Fd36) hZ (hw _ (List.mem_of_getElem? (i := 40) rfl)) (hw _ (List.mem_of_getElem? (i := 7) rfl)) (by decide) (by decide)) q37a q37c (g := (mkF m 50 #[.val (.int p1), .val (.int p2), .val (.long q3), .second, .val (.int (p1 &&& (2147483647 : Int32))), .val (.long (p2.toInt64 * (p1 &&& (2147483647 : Int32)).toInt64 - q3)), .second, .val (.long (p2.toInt64 * (p1 &&& (2147483647 : Int32)).toInt64 - (0 : Int64))), .second, .val (.long (p2.toInt64 * ((p1 &&& (2147483647 : Int32)) - (1 : Int32)).toInt64 - (0 : Int64))), .second, .unset, .unset, .unset, .unset, .unset] [(.ref b36)])) rfl (by rw [hml]; rfl) (Steps.refl _) (argsL := []) (rest := []) (lenOf pd__28_29J rfl) rfl (by show 2 * 0 + _ ≤ _; exact Nat.le_of_eq rfl) (hb hby at_50) (fun _ _ => ⟨rfl, rfl, (by decide : 8 + 0 ≤ _), (by decide : 32 + 0 ≤ _)⟩)
  dsimp only [Pt.U, Pt.locs, Pt.cells, Pt.slots] at X37 l37 y37 z37 st37 hQ37
  subst l37 y37 z37
  obtain ⟨rfl, Nq37, e37⟩ := hQ37
  have N37 := Fr.app N36 Nq37
  have hc62 : ((p2.toInt64 * (p1 &&& (2147483647 : Int32)).toInt64 - q3) + q3) = (p2.toInt64 * (p1 &&& (2147483647 : Int32)).toInt64 - (0 : Int64)) := own_m1 _ _ _
  have hc80 : (p2.toInt64 * (p1 &&& (2147483647 : Int32)).toInt64 - (0 : Int64)) = ((p2.toInt64 * ((p1 &&& (2147483647 : Int32)) - (1 : Int32)).toInt64 - (0 : Int64)) + (p2.toInt64)) := own_m2 _ _
  have hc95 : (p2.toInt64 * (0 : Int32).toInt64 - q3) = (-q3) := own_m3 _ _
  have hc107 : ¬ ((1 : Int32) = (0 : Int32)) := by decide
  have hc112 : ¬ ((1 : Int32) = (0 : Int32)) := by decide
  have hc117 : ¬ ((1 : Int32) = (0 : Int32)) := by decide
  obtain ⟨fs, hr, hrun, hended, hW, hsame⟩ := X37.leave (v := some (.int (1 : Int32))) (fun h => by rw [Bd.returns] at h; cases h)
  refine ⟨_, _, pre0 _ ?_, hrun, hended, _, _, rfl, ?_, ⟨_, rfl⟩, hW, hsame.mono (by decide) (by decide)⟩
  · show Steps p.tables e below (s₁.setTop (mkF m 0 #[.val (.int p1), .val (.int p2), .val (.long q3), .second, .unset, .unset, .unset, .unset, .unset, .unset, .unset, .unset, .unset, .unset, .unset, .unset] [])) _
    refine XS.iloadN X0.here hx rfl (hb hby at_0) rfl ?_
    show Steps p.tables e below (s₁.setTop (mkF m 1 #[.val (.int p1), .val (.int p2), .val (.long q3), .second, .unset, .unset, .unset, .unset, .unset, .unset, .unset, .unset, .unset, .unset, .unset, .unset] [(.int p1)])) _
    refine X0.ldcInt hx hown (mvT hZ (hw _ (List.mem_of_getElem? (i := 0) rfl))) (g := (mkF m 1 #[.val (.int p1), .val (.int p2), .val (.long q3), .second, .unset, .unset, .unset, .unset, .unset, .unset, .unset, .unset, .unset, .unset, .unset, .unset] [(.int p1)])) rfl (hb hby at_1) _ ?_
    show Steps p.tables e below (s₁.setTop (mkF m 3 #[.val (.int p1), .val (.int p2), .val (.long q3), .second, .unset, .unset, .unset, .unset, .unset, .unset, .unset, .unset, .unset, .unset, .unset, .unset] [(.int (2147483647 : Int32)), (.int p1)])) _
    refine XS.iand X0.here hx rfl (hb hby at_3) rfl ?_
    show Steps p.tables e below (s₁.setTop (mkF m 4 #[.val (.int p1), .val (.int p2), .val (.long q3), .second, .unset, .unset, .unset, .unset, .unset, .unset, .unset, .unset, .unset, .unset, .unset, .unset] [(.int (p1 &&& (2147483647 : Int32)))])) _
    refine XS.istore X0.here hx rfl (hb hby at_4) rfl (l' := #[.val (.int p1), .val (.int p2), .val (.long q3), .second, .val (.int (p1 &&& (2147483647 : Int32))), .unset, .unset, .unset, .unset, .unset, .unset, .unset, .unset, .unset, .unset, .unset]) rfl ?_
    show Steps p.tables e below (s₁.setTop (mkF m 6 #[.val (.int p1), .val (.int p2), .val (.long q3), .second, .val (.int (p1 &&& (2147483647 : Int32))), .unset, .unset, .unset, .unset, .unset, .unset, .unset, .unset, .unset, .unset, .unset] [])) _
    refine XS.iload X0.here hx rfl (hb hby at_6) rfl ?_
    show Steps p.tables e below (s₁.setTop (mkF m 8 #[.val (.int p1), .val (.int p2), .val (.long q3), .second, .val (.int (p1 &&& (2147483647 : Int32))), .unset, .unset, .unset, .unset, .unset, .unset, .unset, .unset, .unset, .unset, .unset] [(.int (p1 &&& (2147483647 : Int32)))])) _
    refine XS.iloadN X0.here hx rfl (hb hby at_8) rfl ?_
    show Steps p.tables e below (s₁.setTop (mkF m 9 #[.val (.int p1), .val (.int p2), .val (.long q3), .second, .val (.int (p1 &&& (2147483647 : Int32))), .unset, .unset, .unset, .unset, .unset, .unset, .unset, .unset, .unset, .unset, .unset] [(.int p2), (.int (p1 &&& (2147483647 : Int32)))])) _
    refine XS.lloadN X0.here hx rfl (hb hby at_9) rfl ?_
    show Steps p.tables e below (s₁.setTop (mkF m 10 #[.val (.int p1), .val (.int p2), .val (.long q3), .second, .val (.int (p1 &&& (2147483647 : Int32))), .unset, .unset, .unset, .unset, .unset, .unset, .unset, .unset, .unset, .unset, .unset] [(.long q3), (.int p2), (.int (p1 &&& (2147483647 : Int32)))])) _
    refine st30 _ ?_
    show Steps p.tables e below (T30.setTop (mkF m 13 #[.val (.int p1), .val (.int p2), .val (.long q3), .second, .val (.int (p1 &&& (2147483647 : Int32))), .unset, .unset, .unset, .unset, .unset, .unset, .unset, .unset, .unset, .unset, .unset] [(.ref b30)])) _
    refine st31.trans ?_
    show Steps p.tables e below (T31.setTop (mkF m 16 #[.val (.int p1), .val (.int p2), .val (.long q3), .second, .val (.int (p1 &&& (2147483647 : Int32))), .unset, .unset, .unset, .unset, .unset, .unset, .unset, .unset, .unset, .unset, .unset] [(.long (p2.toInt64 * (p1 &&& (2147483647 : Int32)).toInt64 - q3))])) _
    refine XS.lstore X31.here hx rfl (hb hby at_16) rfl (l' := #[.val (.int p1), .val (.int p2), .val (.long q3), .second, .val (.int (p1 &&& (2147483647 : Int32))), .val (.long (p2.toInt64 * (p1 &&& (2147483647 : Int32)).toInt64 - q3)), .second, .unset, .unset, .unset, .unset, .unset, .unset, .unset, .unset, .unset]) rfl ?_
    show Steps p.tables e below (T31.setTop (mkF m 18 #[.val (.int p1), .val (.int p2), .val (.long q3), .second, .val (.int (p1 &&& (2147483647 : Int32))), .val (.long (p2.toInt64 * (p1 &&& (2147483647 : Int32)).toInt64 - q3)), .second, .unset, .unset, .unset, .unset, .unset, .unset, .unset, .unset, .unset] [])) _
    refine XS.iload X31.here hx rfl (hb hby at_18) rfl ?_
    show Steps p.tables e below (T31.setTop (mkF m 20 #[.val (.int p1), .val (.int p2), .val (.long q3), .second, .val (.int (p1 &&& (2147483647 : Int32))), .val (.long (p2.toInt64 * (p1 &&& (2147483647 : Int32)).toInt64 - q3)), .second, .unset, .unset, .unset, .unset, .unset, .unset, .unset, .unset, .unset] [(.int (p1 &&& (2147483647 : Int32)))])) _
    refine XS.iloadN X31.here hx rfl (hb hby at_20) rfl ?_
    show Steps p.tables e below (T31.setTop (mkF m 21 #[.val (.int p1), .val (.int p2), .val (.long q3), .second, .val (.int (p1 &&& (2147483647 : Int32))), .val (.long (p2.toInt64 * (p1 &&& (2147483647 : Int32)).toInt64 - q3)), .second, .unset, .unset, .unset, .unset, .unset, .unset, .unset, .unset, .unset] [(.int p2), (.int (p1 &&& (2147483647 : Int32)))])) _
    refine XS.lconst X31.here hx rfl (hb hby at_21) ?_
    show Steps p.tables e below (T31.setTop (mkF m 22 #[.val (.int p1), .val (.int p2), .val (.long q3), .second, .val (.int (p1 &&& (2147483647 : Int32))), .val (.long (p2.toInt64 * (p1 &&& (2147483647 : Int32)).toInt64 - q3)), .second, .unset, .unset, .unset, .unset, .unset, .unset, .unset, .unset, .unset] [(.long (0 : Int64)), (.int p2), (.int (p1 &&& (2147483647 : Int32)))])) _
    refine st32 _ ?_
    show Steps p.tables e below (T32.setTop (mkF m 25 #[.val (.int p1), .val (.int p2), .val (.long q3), .second, .val (.int (p1 &&& (2147483647 : Int32))), .val (.long (p2.toInt64 * (p1 &&& (2147483647 : Int32)).toInt64 - q3)), .second, .unset, .unset, .unset, .unset, .unset, .unset, .unset, .unset, .unset] [(.ref b32)])) _
    refine st33.trans ?_
    show Steps p.tables e below (T33.setTop (mkF m 28 #[.val (.int p1), .val (.int p2), .val (.long q3), .second, .val (.int (p1 &&& (2147483647 : Int32))), .val (.long (p2.toInt64 * (p1 &&& (2147483647 : Int32)).toInt64 - q3)), .second, .unset, .unset, .unset, .unset, .unset, .unset, .unset, .unset, .unset] [(.long (p2.toInt64 * (p1 &&& (2147483647 : Int32)).toInt64 - (0 : Int64)))])) _
    refine XS.lstore X33.here hx rfl (hb hby at_28) rfl (l' := #[.val (.int p1), .val (.int p2), .val (.long q3), .second, .val (.int (p1 &&& (2147483647 : Int32))), .val (.long (p2.toInt64 * (p1 &&& (2147483647 : Int32)).toInt64 - q3)), .second, .val (.long (p2.toInt64 * (p1 &&& (2147483647 : Int32)).toInt64 - (0 : Int64))), .second, .unset, .unset, .unset, .unset, .unset, .unset, .unset]) rfl ?_
    show Steps p.tables e below (T33.setTop (mkF m 30 #[.val (.int p1), .val (.int p2), .val (.long q3), .second, .val (.int (p1 &&& (2147483647 : Int32))), .val (.long (p2.toInt64 * (p1 &&& (2147483647 : Int32)).toInt64 - q3)), .second, .val (.long (p2.toInt64 * (p1 &&& (2147483647 : Int32)).toInt64 - (0 : Int64))), .second, .unset, .unset, .unset, .unset, .unset, .unset, .unset] [])) _
    refine XS.iload X33.here hx rfl (hb hby at_30) rfl ?_
    show Steps p.tables e below (T33.setTop (mkF m 32 #[.val (.int p1), .val (.int p2), .val (.long q3), .second, .val (.int (p1 &&& (2147483647 : Int32))), .val (.long (p2.toInt64 * (p1 &&& (2147483647 : Int32)).toInt64 - q3)), .second, .val (.long (p2.toInt64 * (p1 &&& (2147483647 : Int32)).toInt64 - (0 : Int64))), .second, .unset, .unset, .unset, .unset, .unset, .unset, .unset] [(.int (p1 &&& (2147483647 : Int32)))])) _
    refine XS.iconst X33.here hx rfl (hb hby at_32) ?_
    show Steps p.tables e below (T33.setTop (mkF m 33 #[.val (.int p1), .val (.int p2), .val (.long q3), .second, .val (.int (p1 &&& (2147483647 : Int32))), .val (.long (p2.toInt64 * (p1 &&& (2147483647 : Int32)).toInt64 - q3)), .second, .val (.long (p2.toInt64 * (p1 &&& (2147483647 : Int32)).toInt64 - (0 : Int64))), .second, .unset, .unset, .unset, .unset, .unset, .unset, .unset] [(.int (1 : Int32)), (.int (p1 &&& (2147483647 : Int32)))])) _
    refine XS.isub X33.here hx rfl (hb hby at_33) rfl ?_
    show Steps p.tables e below (T33.setTop (mkF m 34 #[.val (.int p1), .val (.int p2), .val (.long q3), .second, .val (.int (p1 &&& (2147483647 : Int32))), .val (.long (p2.toInt64 * (p1 &&& (2147483647 : Int32)).toInt64 - q3)), .second, .val (.long (p2.toInt64 * (p1 &&& (2147483647 : Int32)).toInt64 - (0 : Int64))), .second, .unset, .unset, .unset, .unset, .unset, .unset, .unset] [(.int ((p1 &&& (2147483647 : Int32)) - (1 : Int32)))])) _
    refine XS.iloadN X33.here hx rfl (hb hby at_34) rfl ?_
    show Steps p.tables e below (T33.setTop (mkF m 35 #[.val (.int p1), .val (.int p2), .val (.long q3), .second, .val (.int (p1 &&& (2147483647 : Int32))), .val (.long (p2.toInt64 * (p1 &&& (2147483647 : Int32)).toInt64 - q3)), .second, .val (.long (p2.toInt64 * (p1 &&& (2147483647 : Int32)).toInt64 - (0 : Int64))), .second, .unset, .unset, .unset, .unset, .unset, .unset, .unset] [(.int p2), (.int ((p1 &&& (2147483647 : Int32)) - (1 : Int32)))])) _
    refine XS.lconst X33.here hx rfl (hb hby at_35) ?_
    show Steps p.tables e below (T33.setTop (mkF m 36 #[.val (.int p1), .val (.int p2), .val (.long q3), .second, .val (.int (p1 &&& (2147483647 : Int32))), .val (.long (p2.toInt64 * (p1 &&& (2147483647 : Int32)).toInt64 - q3)), .second, .val (.long (p2.toInt64 * (p1 &&& (2147483647 : Int32)).toInt64 - (0 : Int64))), .second, .unset, .unset, .unset, .unset, .unset, .unset, .unset] [(.long (0 : Int64)), (.int p2), (.int ((p1 &&& (2147483647 : Int32)) - (1 : Int32)))])) _
    refine st34 _ ?_
    show Steps p.tables e below (T34.setTop (mkF m 39 #[.val (.int p1), .val (.int p2), .val (.long q3), .second, .val (.int (p1 &&& (2147483647 : Int32))), .val (.long (p2.toInt64 * (p1 &&& (2147483647 : Int32)).toInt64 - q3)), .second, .val (.long (p2.toInt64 * (p1 &&& (2147483647 : Int32)).toInt64 - (0 : Int64))), .second, .unset, .unset, .unset, .unset, .unset, .unset, .unset] [(.ref b34)])) _
    refine st35.trans ?_
    show Steps p.tables e below (T35.setTop (mkF m 42 #[.val (.int p1), .val (.int p2), .val (.long q3), .second, .val (.int (p1 &&& (2147483647 : Int32))), .val (.long (p2.toInt64 * (p1 &&& (2147483647 : Int32)).toInt64 - q3)), .second, .val (.long (p2.toInt64 * (p1 &&& (2147483647 : Int32)).toInt64 - (0 : Int64))), .second, .unset, .unset, .unset, .unset, .unset, .unset, .unset] [(.long (p2.toInt64 * ((p1 &&& (2147483647 : Int32)) - (1 : Int32)).toInt64 - (0 : Int64)))])) _
    refine XS.lstore X35.here hx rfl (hb hby at_42) rfl (l' := #[.val (.int p1), .val (.int p2), .val (.long q3), .second, .val (.int (p1 &&& (2147483647 : Int32))), .val (.long (p2.toInt64 * (p1 &&& (2147483647 : Int32)).toInt64 - q3)), .second, .val (.long (p2.toInt64 * (p1 &&& (2147483647 : Int32)).toInt64 - (0 : Int64))), .second, .val (.long (p2.toInt64 * ((p1 &&& (2147483647 : Int32)) - (1 : Int32)).toInt64 - (0 : Int64))), .second, .unset, .unset, .unset, .unset, .unset]) rfl ?_
    show Steps p.tables e below (T35.setTop (mkF m 44 #[.val (.int p1), .val (.int p2), .val (.long q3), .second, .val (.int (p1 &&& (2147483647 : Int32))), .val (.long (p2.toInt64 * (p1 &&& (2147483647 : Int32)).toInt64 - q3)), .second, .val (.long (p2.toInt64 * (p1 &&& (2147483647 : Int32)).toInt64 - (0 : Int64))), .second, .val (.long (p2.toInt64 * ((p1 &&& (2147483647 : Int32)) - (1 : Int32)).toInt64 - (0 : Int64))), .second, .unset, .unset, .unset, .unset, .unset] [])) _
    refine XS.iconst X35.here hx rfl (hb hby at_44) ?_
    show Steps p.tables e below (T35.setTop (mkF m 45 #[.val (.int p1), .val (.int p2), .val (.long q3), .second, .val (.int (p1 &&& (2147483647 : Int32))), .val (.long (p2.toInt64 * (p1 &&& (2147483647 : Int32)).toInt64 - q3)), .second, .val (.long (p2.toInt64 * (p1 &&& (2147483647 : Int32)).toInt64 - (0 : Int64))), .second, .val (.long (p2.toInt64 * ((p1 &&& (2147483647 : Int32)) - (1 : Int32)).toInt64 - (0 : Int64))), .second, .unset, .unset, .unset, .unset, .unset] [(.int (0 : Int32))])) _
    refine XS.iloadN X35.here hx rfl (hb hby at_45) rfl ?_
    show Steps p.tables e below (T35.setTop (mkF m 46 #[.val (.int p1), .val (.int p2), .val (.long q3), .second, .val (.int (p1 &&& (2147483647 : Int32))), .val (.long (p2.toInt64 * (p1 &&& (2147483647 : Int32)).toInt64 - q3)), .second, .val (.long (p2.toInt64 * (p1 &&& (2147483647 : Int32)).toInt64 - (0 : Int64))), .second, .val (.long (p2.toInt64 * ((p1 &&& (2147483647 : Int32)) - (1 : Int32)).toInt64 - (0 : Int64))), .second, .unset, .unset, .unset, .unset, .unset] [(.int p2), (.int (0 : Int32))])) _
    refine XS.lloadN X35.here hx rfl (hb hby at_46) rfl ?_
    show Steps p.tables e below (T35.setTop (mkF m 47 #[.val (.int p1), .val (.int p2), .val (.long q3), .second, .val (.int (p1 &&& (2147483647 : Int32))), .val (.long (p2.toInt64 * (p1 &&& (2147483647 : Int32)).toInt64 - q3)), .second, .val (.long (p2.toInt64 * (p1 &&& (2147483647 : Int32)).toInt64 - (0 : Int64))), .second, .val (.long (p2.toInt64 * ((p1 &&& (2147483647 : Int32)) - (1 : Int32)).toInt64 - (0 : Int64))), .second, .unset, .unset, .unset, .unset, .unset] [(.long q3), (.int p2), (.int (0 : Int32))])) _
    refine st36 _ ?_
    show Steps p.tables e below (T36.setTop (mkF m 50 #[.val (.int p1), .val (.int p2), .val (.long q3), .second, .val (.int (p1 &&& (2147483647 : Int32))), .val (.long (p2.toInt64 * (p1 &&& (2147483647 : Int32)).toInt64 - q3)), .second, .val (.long (p2.toInt64 * (p1 &&& (2147483647 : Int32)).toInt64 - (0 : Int64))), .second, .val (.long (p2.toInt64 * ((p1 &&& (2147483647 : Int32)) - (1 : Int32)).toInt64 - (0 : Int64))), .second, .unset, .unset, .unset, .unset, .unset] [(.ref b36)])) _
    refine st37.trans ?_
    show Steps p.tables e below (T37.setTop (mkF m 53 #[.val (.int p1), .val (.int p2), .val (.long q3), .second, .val (.int (p1 &&& (2147483647 : Int32))), .val (.long (p2.toInt64 * (p1 &&& (2147483647 : Int32)).toInt64 - q3)), .second, .val (.long (p2.toInt64 * (p1 &&& (2147483647 : Int32)).toInt64 - (0 : Int64))), .second, .val (.long (p2.toInt64 * ((p1 &&& (2147483647 : Int32)) - (1 : Int32)).toInt64 - (0 : Int64))), .second, .unset, .unset, .unset, .unset, .unset] [(.long (p2.toInt64 * (0 : Int32).toInt64 - q3))])) _
    refine XS.lstore X37.here hx rfl (hb hby at_53) rfl (l' := #[.val (.int p1), .val (.int p2), .val (.long q3), .second, .val (.int (p1 &&& (2147483647 : Int32))), .val (.long (p2.toInt64 * (p1 &&& (2147483647 : Int32)).toInt64 - q3)), .second, .val (.long (p2.toInt64 * (p1 &&& (2147483647 : Int32)).toInt64 - (0 : Int64))), .second, .val (.long (p2.toInt64 * ((p1 &&& (2147483647 : Int32)) - (1 : Int32)).toInt64 - (0 : Int64))), .second, .val (.long (p2.toInt64 * (0 : Int32).toInt64 - q3)), .second, .unset, .unset, .unset]) rfl ?_
    show Steps p.tables e below (T37.setTop (mkF m 55 #[.val (.int p1), .val (.int p2), .val (.long q3), .second, .val (.int (p1 &&& (2147483647 : Int32))), .val (.long (p2.toInt64 * (p1 &&& (2147483647 : Int32)).toInt64 - q3)), .second, .val (.long (p2.toInt64 * (p1 &&& (2147483647 : Int32)).toInt64 - (0 : Int64))), .second, .val (.long (p2.toInt64 * ((p1 &&& (2147483647 : Int32)) - (1 : Int32)).toInt64 - (0 : Int64))), .second, .val (.long (p2.toInt64 * (0 : Int32).toInt64 - q3)), .second, .unset, .unset, .unset] [])) _
    refine XS.lload X37.here hx rfl (hb hby at_55) rfl ?_
    show Steps p.tables e below (T37.setTop (mkF m 57 #[.val (.int p1), .val (.int p2), .val (.long q3), .second, .val (.int (p1 &&& (2147483647 : Int32))), .val (.long (p2.toInt64 * (p1 &&& (2147483647 : Int32)).toInt64 - q3)), .second, .val (.long (p2.toInt64 * (p1 &&& (2147483647 : Int32)).toInt64 - (0 : Int64))), .second, .val (.long (p2.toInt64 * ((p1 &&& (2147483647 : Int32)) - (1 : Int32)).toInt64 - (0 : Int64))), .second, .val (.long (p2.toInt64 * (0 : Int32).toInt64 - q3)), .second, .unset, .unset, .unset] [(.long (p2.toInt64 * (p1 &&& (2147483647 : Int32)).toInt64 - q3))])) _
    refine XS.lloadN X37.here hx rfl (hb hby at_57) rfl ?_
    show Steps p.tables e below (T37.setTop (mkF m 58 #[.val (.int p1), .val (.int p2), .val (.long q3), .second, .val (.int (p1 &&& (2147483647 : Int32))), .val (.long (p2.toInt64 * (p1 &&& (2147483647 : Int32)).toInt64 - q3)), .second, .val (.long (p2.toInt64 * (p1 &&& (2147483647 : Int32)).toInt64 - (0 : Int64))), .second, .val (.long (p2.toInt64 * ((p1 &&& (2147483647 : Int32)) - (1 : Int32)).toInt64 - (0 : Int64))), .second, .val (.long (p2.toInt64 * (0 : Int32).toInt64 - q3)), .second, .unset, .unset, .unset] [(.long q3), (.long (p2.toInt64 * (p1 &&& (2147483647 : Int32)).toInt64 - q3))])) _
    refine XS.ladd X37.here hx rfl (hb hby at_58) rfl ?_
    show Steps p.tables e below (T37.setTop (mkF m 59 #[.val (.int p1), .val (.int p2), .val (.long q3), .second, .val (.int (p1 &&& (2147483647 : Int32))), .val (.long (p2.toInt64 * (p1 &&& (2147483647 : Int32)).toInt64 - q3)), .second, .val (.long (p2.toInt64 * (p1 &&& (2147483647 : Int32)).toInt64 - (0 : Int64))), .second, .val (.long (p2.toInt64 * ((p1 &&& (2147483647 : Int32)) - (1 : Int32)).toInt64 - (0 : Int64))), .second, .val (.long (p2.toInt64 * (0 : Int32).toInt64 - q3)), .second, .unset, .unset, .unset] [(.long ((p2.toInt64 * (p1 &&& (2147483647 : Int32)).toInt64 - q3) + q3))])) _
    refine XS.lload X37.here hx rfl (hb hby at_59) rfl ?_
    show Steps p.tables e below (T37.setTop (mkF m 61 #[.val (.int p1), .val (.int p2), .val (.long q3), .second, .val (.int (p1 &&& (2147483647 : Int32))), .val (.long (p2.toInt64 * (p1 &&& (2147483647 : Int32)).toInt64 - q3)), .second, .val (.long (p2.toInt64 * (p1 &&& (2147483647 : Int32)).toInt64 - (0 : Int64))), .second, .val (.long (p2.toInt64 * ((p1 &&& (2147483647 : Int32)) - (1 : Int32)).toInt64 - (0 : Int64))), .second, .val (.long (p2.toInt64 * (0 : Int32).toInt64 - q3)), .second, .unset, .unset, .unset] [(.long (p2.toInt64 * (p1 &&& (2147483647 : Int32)).toInt64 - (0 : Int64))), (.long ((p2.toInt64 * (p1 &&& (2147483647 : Int32)).toInt64 - q3) + q3))])) _
    refine XS.lcmp X37.here hx rfl (hb hby at_61) rfl ?_
    show Steps p.tables e below (T37.setTop (mkF m 62 #[.val (.int p1), .val (.int p2), .val (.long q3), .second, .val (.int (p1 &&& (2147483647 : Int32))), .val (.long (p2.toInt64 * (p1 &&& (2147483647 : Int32)).toInt64 - q3)), .second, .val (.long (p2.toInt64 * (p1 &&& (2147483647 : Int32)).toInt64 - (0 : Int64))), .second, .val (.long (p2.toInt64 * ((p1 &&& (2147483647 : Int32)) - (1 : Int32)).toInt64 - (0 : Int64))), .second, .val (.long (p2.toInt64 * (0 : Int32).toInt64 - q3)), .second, .unset, .unset, .unset] [(.int (lcmpW ((p2.toInt64 * (p1 &&& (2147483647 : Int32)).toInt64 - q3) + q3) (p2.toInt64 * (p1 &&& (2147483647 : Int32)).toInt64 - (0 : Int64))))])) _
    refine XS.ifNo X37.here hx rfl (hb hby at_62) rfl ((if0 _ _).trans (teq ((lw_eq _ _).mpr hc62)).2) ?_
    show Steps p.tables e below (T37.setTop (mkF m 65 #[.val (.int p1), .val (.int p2), .val (.long q3), .second, .val (.int (p1 &&& (2147483647 : Int32))), .val (.long (p2.toInt64 * (p1 &&& (2147483647 : Int32)).toInt64 - q3)), .second, .val (.long (p2.toInt64 * (p1 &&& (2147483647 : Int32)).toInt64 - (0 : Int64))), .second, .val (.long (p2.toInt64 * ((p1 &&& (2147483647 : Int32)) - (1 : Int32)).toInt64 - (0 : Int64))), .second, .val (.long (p2.toInt64 * (0 : Int32).toInt64 - q3)), .second, .unset, .unset, .unset] [])) _
    refine XS.iconst X37.here hx rfl (hb hby at_65) ?_
    show Steps p.tables e below (T37.setTop (mkF m 66 #[.val (.int p1), .val (.int p2), .val (.long q3), .second, .val (.int (p1 &&& (2147483647 : Int32))), .val (.long (p2.toInt64 * (p1 &&& (2147483647 : Int32)).toInt64 - q3)), .second, .val (.long (p2.toInt64 * (p1 &&& (2147483647 : Int32)).toInt64 - (0 : Int64))), .second, .val (.long (p2.toInt64 * ((p1 &&& (2147483647 : Int32)) - (1 : Int32)).toInt64 - (0 : Int64))), .second, .val (.long (p2.toInt64 * (0 : Int32).toInt64 - q3)), .second, .unset, .unset, .unset] [(.int (1 : Int32))])) _
    refine XS.goto X37.here hx rfl (pc0 := 66) (pc' := 70) rfl (hb hby at_66) (by decide) (by decide) ?_
    show Steps p.tables e below (T37.setTop (mkF m 70 #[.val (.int p1), .val (.int p2), .val (.long q3), .second, .val (.int (p1 &&& (2147483647 : Int32))), .val (.long (p2.toInt64 * (p1 &&& (2147483647 : Int32)).toInt64 - q3)), .second, .val (.long (p2.toInt64 * (p1 &&& (2147483647 : Int32)).toInt64 - (0 : Int64))), .second, .val (.long (p2.toInt64 * ((p1 &&& (2147483647 : Int32)) - (1 : Int32)).toInt64 - (0 : Int64))), .second, .val (.long (p2.toInt64 * (0 : Int32).toInt64 - q3)), .second, .unset, .unset, .unset] [(.int (1 : Int32))])) _
    refine XS.istore X37.here hx rfl (hb hby at_70) rfl (l' := #[.val (.int p1), .val (.int p2), .val (.long q3), .second, .val (.int (p1 &&& (2147483647 : Int32))), .val (.long (p2.toInt64 * (p1 &&& (2147483647 : Int32)).toInt64 - q3)), .second, .val (.long (p2.toInt64 * (p1 &&& (2147483647 : Int32)).toInt64 - (0 : Int64))), .second, .val (.long (p2.toInt64 * ((p1 &&& (2147483647 : Int32)) - (1 : Int32)).toInt64 - (0 : Int64))), .second, .val (.long (p2.toInt64 * (0 : Int32).toInt64 - q3)), .second, .val (.int (1 : Int32)), .unset, .unset]) rfl ?_
    show Steps p.tables e below (T37.setTop (mkF m 72 #[.val (.int p1), .val (.int p2), .val (.long q3), .second, .val (.int (p1 &&& (2147483647 : Int32))), .val (.long (p2.toInt64 * (p1 &&& (2147483647 : Int32)).toInt64 - q3)), .second, .val (.long (p2.toInt64 * (p1 &&& (2147483647 : Int32)).toInt64 - (0 : Int64))), .second, .val (.long (p2.toInt64 * ((p1 &&& (2147483647 : Int32)) - (1 : Int32)).toInt64 - (0 : Int64))), .second, .val (.long (p2.toInt64 * (0 : Int32).toInt64 - q3)), .second, .val (.int (1 : Int32)), .unset, .unset] [])) _
    refine XS.lload X37.here hx rfl (hb hby at_72) rfl ?_
    show Steps p.tables e below (T37.setTop (mkF m 74 #[.val (.int p1), .val (.int p2), .val (.long q3), .second, .val (.int (p1 &&& (2147483647 : Int32))), .val (.long (p2.toInt64 * (p1 &&& (2147483647 : Int32)).toInt64 - q3)), .second, .val (.long (p2.toInt64 * (p1 &&& (2147483647 : Int32)).toInt64 - (0 : Int64))), .second, .val (.long (p2.toInt64 * ((p1 &&& (2147483647 : Int32)) - (1 : Int32)).toInt64 - (0 : Int64))), .second, .val (.long (p2.toInt64 * (0 : Int32).toInt64 - q3)), .second, .val (.int (1 : Int32)), .unset, .unset] [(.long (p2.toInt64 * (p1 &&& (2147483647 : Int32)).toInt64 - (0 : Int64)))])) _
    refine XS.lload X37.here hx rfl (hb hby at_74) rfl ?_
    show Steps p.tables e below (T37.setTop (mkF m 76 #[.val (.int p1), .val (.int p2), .val (.long q3), .second, .val (.int (p1 &&& (2147483647 : Int32))), .val (.long (p2.toInt64 * (p1 &&& (2147483647 : Int32)).toInt64 - q3)), .second, .val (.long (p2.toInt64 * (p1 &&& (2147483647 : Int32)).toInt64 - (0 : Int64))), .second, .val (.long (p2.toInt64 * ((p1 &&& (2147483647 : Int32)) - (1 : Int32)).toInt64 - (0 : Int64))), .second, .val (.long (p2.toInt64 * (0 : Int32).toInt64 - q3)), .second, .val (.int (1 : Int32)), .unset, .unset] [(.long (p2.toInt64 * ((p1 &&& (2147483647 : Int32)) - (1 : Int32)).toInt64 - (0 : Int64))), (.long (p2.toInt64 * (p1 &&& (2147483647 : Int32)).toInt64 - (0 : Int64)))])) _
    refine XS.iloadN X37.here hx rfl (hb hby at_76) rfl ?_
    show Steps p.tables e below (T37.setTop (mkF m 77 #[.val (.int p1), .val (.int p2), .val (.long q3), .second, .val (.int (p1 &&& (2147483647 : Int32))), .val (.long (p2.toInt64 * (p1 &&& (2147483647 : Int32)).toInt64 - q3)), .second, .val (.long (p2.toInt64 * (p1 &&& (2147483647 : Int32)).toInt64 - (0 : Int64))), .second, .val (.long (p2.toInt64 * ((p1 &&& (2147483647 : Int32)) - (1 : Int32)).toInt64 - (0 : Int64))), .second, .val (.long (p2.toInt64 * (0 : Int32).toInt64 - q3)), .second, .val (.int (1 : Int32)), .unset, .unset] [(.int p2), (.long (p2.toInt64 * ((p1 &&& (2147483647 : Int32)) - (1 : Int32)).toInt64 - (0 : Int64))), (.long (p2.toInt64 * (p1 &&& (2147483647 : Int32)).toInt64 - (0 : Int64)))])) _
    refine XS.i2l X37.here hx rfl (hb hby at_77) rfl ?_
    show Steps p.tables e below (T37.setTop (mkF m 78 #[.val (.int p1), .val (.int p2), .val (.long q3), .second, .val (.int (p1 &&& (2147483647 : Int32))), .val (.long (p2.toInt64 * (p1 &&& (2147483647 : Int32)).toInt64 - q3)), .second, .val (.long (p2.toInt64 * (p1 &&& (2147483647 : Int32)).toInt64 - (0 : Int64))), .second, .val (.long (p2.toInt64 * ((p1 &&& (2147483647 : Int32)) - (1 : Int32)).toInt64 - (0 : Int64))), .second, .val (.long (p2.toInt64 * (0 : Int32).toInt64 - q3)), .second, .val (.int (1 : Int32)), .unset, .unset] [(.long (p2.toInt64)), (.long (p2.toInt64 * ((p1 &&& (2147483647 : Int32)) - (1 : Int32)).toInt64 - (0 : Int64))), (.long (p2.toInt64 * (p1 &&& (2147483647 : Int32)).toInt64 - (0 : Int64)))])) _
    refine XS.ladd X37.here hx rfl (hb hby at_78) rfl ?_
    show Steps p.tables e below (T37.setTop (mkF m 79 #[.val (.int p1), .val (.int p2), .val (.long q3), .second, .val (.int (p1 &&& (2147483647 : Int32))), .val (.long (p2.toInt64 * (p1 &&& (2147483647 : Int32)).toInt64 - q3)), .second, .val (.long (p2.toInt64 * (p1 &&& (2147483647 : Int32)).toInt64 - (0 : Int64))), .second, .val (.long (p2.toInt64 * ((p1 &&& (2147483647 : Int32)) - (1 : Int32)).toInt64 - (0 : Int64))), .second, .val (.long (p2.toInt64 * (0 : Int32).toInt64 - q3)), .second, .val (.int (1 : Int32)), .unset, .unset] [(.long ((p2.toInt64 * ((p1 &&& (2147483647 : Int32)) - (1 : Int32)).toInt64 - (0 : Int64)) + (p2.toInt64))), (.long (p2.toInt64 * (p1 &&& (2147483647 : Int32)).toInt64 - (0 : Int64)))])) _
    refine XS.lcmp X37.here hx rfl (hb hby at_79) rfl ?_
    show Steps p.tables e below (T37.setTop (mkF m 80 #[.val (.int p1), .val (.int p2), .val (.long q3), .second, .val (.int (p1 &&& (2147483647 : Int32))), .val (.long (p2.toInt64 * (p1 &&& (2147483647 : Int32)).toInt64 - q3)), .second, .val (.long (p2.toInt64 * (p1 &&& (2147483647 : Int32)).toInt64 - (0 : Int64))), .second, .val (.long (p2.toInt64 * ((p1 &&& (2147483647 : Int32)) - (1 : Int32)).toInt64 - (0 : Int64))), .second, .val (.long (p2.toInt64 * (0 : Int32).toInt64 - q3)), .second, .val (.int (1 : Int32)), .unset, .unset] [(.int (lcmpW (p2.toInt64 * (p1 &&& (2147483647 : Int32)).toInt64 - (0 : Int64)) ((p2.toInt64 * ((p1 &&& (2147483647 : Int32)) - (1 : Int32)).toInt64 - (0 : Int64)) + (p2.toInt64))))])) _
    refine XS.ifNo X37.here hx rfl (hb hby at_80) rfl ((if0 _ _).trans (teq ((lw_eq _ _).mpr hc80)).2) ?_
    show Steps p.tables e below (T37.setTop (mkF m 83 #[.val (.int p1), .val (.int p2), .val (.long q3), .second, .val (.int (p1 &&& (2147483647 : Int32))), .val (.long (p2.toInt64 * (p1 &&& (2147483647 : Int32)).toInt64 - q3)), .second, .val (.long (p2.toInt64 * (p1 &&& (2147483647 : Int32)).toInt64 - (0 : Int64))), .second, .val (.long (p2.toInt64 * ((p1 &&& (2147483647 : Int32)) - (1 : Int32)).toInt64 - (0 : Int64))), .second, .val (.long (p2.toInt64 * (0 : Int32).toInt64 - q3)), .second, .val (.int (1 : Int32)), .unset, .unset] [])) _
    refine XS.iconst X37.here hx rfl (hb hby at_83) ?_
    show Steps p.tables e below (T37.setTop (mkF m 84 #[.val (.int p1), .val (.int p2), .val (.long q3), .second, .val (.int (p1 &&& (2147483647 : Int32))), .val (.long (p2.toInt64 * (p1 &&& (2147483647 : Int32)).toInt64 - q3)), .second, .val (.long (p2.toInt64 * (p1 &&& (2147483647 : Int32)).toInt64 - (0 : Int64))), .second, .val (.long (p2.toInt64 * ((p1 &&& (2147483647 : Int32)) - (1 : Int32)).toInt64 - (0 : Int64))), .second, .val (.long (p2.toInt64 * (0 : Int32).toInt64 - q3)), .second, .val (.int (1 : Int32)), .unset, .unset] [(.int (1 : Int32))])) _
    refine XS.goto X37.here hx rfl (pc0 := 84) (pc' := 88) rfl (hb hby at_84) (by decide) (by decide) ?_
    show Steps p.tables e below (T37.setTop (mkF m 88 #[.val (.int p1), .val (.int p2), .val (.long q3), .second, .val (.int (p1 &&& (2147483647 : Int32))), .val (.long (p2.toInt64 * (p1 &&& (2147483647 : Int32)).toInt64 - q3)), .second, .val (.long (p2.toInt64 * (p1 &&& (2147483647 : Int32)).toInt64 - (0 : Int64))), .second, .val (.long (p2.toInt64 * ((p1 &&& (2147483647 : Int32)) - (1 : Int32)).toInt64 - (0 : Int64))), .second, .val (.long (p2.toInt64 * (0 : Int32).toInt64 - q3)), .second, .val (.int (1 : Int32)), .unset, .unset] [(.int (1 : Int32))])) _
    refine XS.istore X37.here hx rfl (hb hby at_88) rfl (l' := #[.val (.int p1), .val (.int p2), .val (.long q3), .second, .val (.int (p1 &&& (2147483647 : Int32))), .val (.long (p2.toInt64 * (p1 &&& (2147483647 : Int32)).toInt64 - q3)), .second, .val (.long (p2.toInt64 * (p1 &&& (2147483647 : Int32)).toInt64 - (0 : Int64))), .second, .val (.long (p2.toInt64 * ((p1 &&& (2147483647 : Int32)) - (1 : Int32)).toInt64 - (0 : Int64))), .second, .val (.long (p2.toInt64 * (0 : Int32).toInt64 - q3)), .second, .val (.int (1 : Int32)), .val (.int (1 : Int32)), .unset]) rfl ?_
    show Steps p.tables e below (T37.setTop (mkF m 90 #[.val (.int p1), .val (.int p2), .val (.long q3), .second, .val (.int (p1 &&& (2147483647 : Int32))), .val (.long (p2.toInt64 * (p1 &&& (2147483647 : Int32)).toInt64 - q3)), .second, .val (.long (p2.toInt64 * (p1 &&& (2147483647 : Int32)).toInt64 - (0 : Int64))), .second, .val (.long (p2.toInt64 * ((p1 &&& (2147483647 : Int32)) - (1 : Int32)).toInt64 - (0 : Int64))), .second, .val (.long (p2.toInt64 * (0 : Int32).toInt64 - q3)), .second, .val (.int (1 : Int32)), .val (.int (1 : Int32)), .unset] [])) _
    refine XS.lload X37.here hx rfl (hb hby at_90) rfl ?_
    show Steps p.tables e below (T37.setTop (mkF m 92 #[.val (.int p1), .val (.int p2), .val (.long q3), .second, .val (.int (p1 &&& (2147483647 : Int32))), .val (.long (p2.toInt64 * (p1 &&& (2147483647 : Int32)).toInt64 - q3)), .second, .val (.long (p2.toInt64 * (p1 &&& (2147483647 : Int32)).toInt64 - (0 : Int64))), .second, .val (.long (p2.toInt64 * ((p1 &&& (2147483647 : Int32)) - (1 : Int32)).toInt64 - (0 : Int64))), .second, .val (.long (p2.toInt64 * (0 : Int32).toInt64 - q3)), .second, .val (.int (1 : Int32)), .val (.int (1 : Int32)), .unset] [(.long (p2.toInt64 * (0 : Int32).toInt64 - q3))])) _
    refine XS.lloadN X37.here hx rfl (hb hby at_92) rfl ?_
    show Steps p.tables e below (T37.setTop (mkF m 93 #[.val (.int p1), .val (.int p2), .val (.long q3), .second, .val (.int (p1 &&& (2147483647 : Int32))), .val (.long (p2.toInt64 * (p1 &&& (2147483647 : Int32)).toInt64 - q3)), .second, .val (.long (p2.toInt64 * (p1 &&& (2147483647 : Int32)).toInt64 - (0 : Int64))), .second, .val (.long (p2.toInt64 * ((p1 &&& (2147483647 : Int32)) - (1 : Int32)).toInt64 - (0 : Int64))), .second, .val (.long (p2.toInt64 * (0 : Int32).toInt64 - q3)), .second, .val (.int (1 : Int32)), .val (.int (1 : Int32)), .unset] [(.long q3), (.long (p2.toInt64 * (0 : Int32).toInt64 - q3))])) _
    refine XS.lneg X37.here hx rfl (hb hby at_93) rfl ?_
    show Steps p.tables e below (T37.setTop (mkF m 94 #[.val (.int p1), .val (.int p2), .val (.long q3), .second, .val (.int (p1 &&& (2147483647 : Int32))), .val (.long (p2.toInt64 * (p1 &&& (2147483647 : Int32)).toInt64 - q3)), .second, .val (.long (p2.toInt64 * (p1 &&& (2147483647 : Int32)).toInt64 - (0 : Int64))), .second, .val (.long (p2.toInt64 * ((p1 &&& (2147483647 : Int32)) - (1 : Int32)).toInt64 - (0 : Int64))), .second, .val (.long (p2.toInt64 * (0 : Int32).toInt64 - q3)), .second, .val (.int (1 : Int32)), .val (.int (1 : Int32)), .unset] [(.long (-q3)), (.long (p2.toInt64 * (0 : Int32).toInt64 - q3))])) _
    refine XS.lcmp X37.here hx rfl (hb hby at_94) rfl ?_
    show Steps p.tables e below (T37.setTop (mkF m 95 #[.val (.int p1), .val (.int p2), .val (.long q3), .second, .val (.int (p1 &&& (2147483647 : Int32))), .val (.long (p2.toInt64 * (p1 &&& (2147483647 : Int32)).toInt64 - q3)), .second, .val (.long (p2.toInt64 * (p1 &&& (2147483647 : Int32)).toInt64 - (0 : Int64))), .second, .val (.long (p2.toInt64 * ((p1 &&& (2147483647 : Int32)) - (1 : Int32)).toInt64 - (0 : Int64))), .second, .val (.long (p2.toInt64 * (0 : Int32).toInt64 - q3)), .second, .val (.int (1 : Int32)), .val (.int (1 : Int32)), .unset] [(.int (lcmpW (p2.toInt64 * (0 : Int32).toInt64 - q3) (-q3)))])) _
    refine XS.ifNo X37.here hx rfl (hb hby at_95) rfl ((if0 _ _).trans (teq ((lw_eq _ _).mpr hc95)).2) ?_
    show Steps p.tables e below (T37.setTop (mkF m 98 #[.val (.int p1), .val (.int p2), .val (.long q3), .second, .val (.int (p1 &&& (2147483647 : Int32))), .val (.long (p2.toInt64 * (p1 &&& (2147483647 : Int32)).toInt64 - q3)), .second, .val (.long (p2.toInt64 * (p1 &&& (2147483647 : Int32)).toInt64 - (0 : Int64))), .second, .val (.long (p2.toInt64 * ((p1 &&& (2147483647 : Int32)) - (1 : Int32)).toInt64 - (0 : Int64))), .second, .val (.long (p2.toInt64 * (0 : Int32).toInt64 - q3)), .second, .val (.int (1 : Int32)), .val (.int (1 : Int32)), .unset] [])) _
    refine XS.iconst X37.here hx rfl (hb hby at_98) ?_
    show Steps p.tables e below (T37.setTop (mkF m 99 #[.val (.int p1), .val (.int p2), .val (.long q3), .second, .val (.int (p1 &&& (2147483647 : Int32))), .val (.long (p2.toInt64 * (p1 &&& (2147483647 : Int32)).toInt64 - q3)), .second, .val (.long (p2.toInt64 * (p1 &&& (2147483647 : Int32)).toInt64 - (0 : Int64))), .second, .val (.long (p2.toInt64 * ((p1 &&& (2147483647 : Int32)) - (1 : Int32)).toInt64 - (0 : Int64))), .second, .val (.long (p2.toInt64 * (0 : Int32).toInt64 - q3)), .second, .val (.int (1 : Int32)), .val (.int (1 : Int32)), .unset] [(.int (1 : Int32))])) _
    refine XS.goto X37.here hx rfl (pc0 := 99) (pc' := 103) rfl (hb hby at_99) (by decide) (by decide) ?_
    show Steps p.tables e below (T37.setTop (mkF m 103 #[.val (.int p1), .val (.int p2), .val (.long q3), .second, .val (.int (p1 &&& (2147483647 : Int32))), .val (.long (p2.toInt64 * (p1 &&& (2147483647 : Int32)).toInt64 - q3)), .second, .val (.long (p2.toInt64 * (p1 &&& (2147483647 : Int32)).toInt64 - (0 : Int64))), .second, .val (.long (p2.toInt64 * ((p1 &&& (2147483647 : Int32)) - (1 : Int32)).toInt64 - (0 : Int64))), .second, .val (.long (p2.toInt64 * (0 : Int32).toInt64 - q3)), .second, .val (.int (1 : Int32)), .val (.int (1 : Int32)), .unset] [(.int (1 : Int32))])) _
    refine XS.istore X37.here hx rfl (hb hby at_103) rfl (l' := #[.val (.int p1), .val (.int p2), .val (.long q3), .second, .val (.int (p1 &&& (2147483647 : Int32))), .val (.long (p2.toInt64 * (p1 &&& (2147483647 : Int32)).toInt64 - q3)), .second, .val (.long (p2.toInt64 * (p1 &&& (2147483647 : Int32)).toInt64 - (0 : Int64))), .second, .val (.long (p2.toInt64 * ((p1 &&& (2147483647 : Int32)) - (1 : Int32)).toInt64 - (0 : Int64))), .second, .val (.long (p2.toInt64 * (0 : Int32).toInt64 - q3)), .second, .val (.int (1 : Int32)), .val (.int (1 : Int32)), .val (.int (1 : Int32))]) rfl ?_
    show Steps p.tables e below (T37.setTop (mkF m 105 #[.val (.int p1), .val (.int p2), .val (.long q3), .second, .val (.int (p1 &&& (2147483647 : Int32))), .val (.long (p2.toInt64 * (p1 &&& (2147483647 : Int32)).toInt64 - q3)), .second, .val (.long (p2.toInt64 * (p1 &&& (2147483647 : Int32)).toInt64 - (0 : Int64))), .second, .val (.long (p2.toInt64 * ((p1 &&& (2147483647 : Int32)) - (1 : Int32)).toInt64 - (0 : Int64))), .second, .val (.long (p2.toInt64 * (0 : Int32).toInt64 - q3)), .second, .val (.int (1 : Int32)), .val (.int (1 : Int32)), .val (.int (1 : Int32))] [])) _
    refine XS.iload X37.here hx rfl (hb hby at_105) rfl ?_
    show Steps p.tables e below (T37.setTop (mkF m 107 #[.val (.int p1), .val (.int p2), .val (.long q3), .second, .val (.int (p1 &&& (2147483647 : Int32))), .val (.long (p2.toInt64 * (p1 &&& (2147483647 : Int32)).toInt64 - q3)), .second, .val (.long (p2.toInt64 * (p1 &&& (2147483647 : Int32)).toInt64 - (0 : Int64))), .second, .val (.long (p2.toInt64 * ((p1 &&& (2147483647 : Int32)) - (1 : Int32)).toInt64 - (0 : Int64))), .second, .val (.long (p2.toInt64 * (0 : Int32).toInt64 - q3)), .second, .val (.int (1 : Int32)), .val (.int (1 : Int32)), .val (.int (1 : Int32))] [(.int (1 : Int32))])) _
    refine XS.ifNo X37.here hx rfl (hb hby at_107) rfl ((if0 _ _).trans (feq hc107).1) ?_
    show Steps p.tables e below (T37.setTop (mkF m 110 #[.val (.int p1), .val (.int p2), .val (.long q3), .second, .val (.int (p1 &&& (2147483647 : Int32))), .val (.long (p2.toInt64 * (p1 &&& (2147483647 : Int32)).toInt64 - q3)), .second, .val (.long (p2.toInt64 * (p1 &&& (2147483647 : Int32)).toInt64 - (0 : Int64))), .second, .val (.long (p2.toInt64 * ((p1 &&& (2147483647 : Int32)) - (1 : Int32)).toInt64 - (0 : Int64))), .second, .val (.long (p2.toInt64 * (0 : Int32).toInt64 - q3)), .second, .val (.int (1 : Int32)), .val (.int (1 : Int32)), .val (.int (1 : Int32))] [])) _
    refine XS.iload X37.here hx rfl (hb hby at_110) rfl ?_
    show Steps p.tables e below (T37.setTop (mkF m 112 #[.val (.int p1), .val (.int p2), .val (.long q3), .second, .val (.int (p1 &&& (2147483647 : Int32))), .val (.long (p2.toInt64 * (p1 &&& (2147483647 : Int32)).toInt64 - q3)), .second, .val (.long (p2.toInt64 * (p1 &&& (2147483647 : Int32)).toInt64 - (0 : Int64))), .second, .val (.long (p2.toInt64 * ((p1 &&& (2147483647 : Int32)) - (1 : Int32)).toInt64 - (0 : Int64))), .second, .val (.long (p2.toInt64 * (0 : Int32).toInt64 - q3)), .second, .val (.int (1 : Int32)), .val (.int (1 : Int32)), .val (.int (1 : Int32))] [(.int (1 : Int32))])) _
    refine XS.ifNo X37.here hx rfl (hb hby at_112) rfl ((if0 _ _).trans (feq hc112).1) ?_
    show Steps p.tables e below (T37.setTop (mkF m 115 #[.val (.int p1), .val (.int p2), .val (.long q3), .second, .val (.int (p1 &&& (2147483647 : Int32))), .val (.long (p2.toInt64 * (p1 &&& (2147483647 : Int32)).toInt64 - q3)), .second, .val (.long (p2.toInt64 * (p1 &&& (2147483647 : Int32)).toInt64 - (0 : Int64))), .second, .val (.long (p2.toInt64 * ((p1 &&& (2147483647 : Int32)) - (1 : Int32)).toInt64 - (0 : Int64))), .second, .val (.long (p2.toInt64 * (0 : Int32).toInt64 - q3)), .second, .val (.int (1 : Int32)), .val (.int (1 : Int32)), .val (.int (1 : Int32))] [])) _
    refine XS.iload X37.here hx rfl (hb hby at_115) rfl ?_
    show Steps p.tables e below (T37.setTop (mkF m 117 #[.val (.int p1), .val (.int p2), .val (.long q3), .second, .val (.int (p1 &&& (2147483647 : Int32))), .val (.long (p2.toInt64 * (p1 &&& (2147483647 : Int32)).toInt64 - q3)), .second, .val (.long (p2.toInt64 * (p1 &&& (2147483647 : Int32)).toInt64 - (0 : Int64))), .second, .val (.long (p2.toInt64 * ((p1 &&& (2147483647 : Int32)) - (1 : Int32)).toInt64 - (0 : Int64))), .second, .val (.long (p2.toInt64 * (0 : Int32).toInt64 - q3)), .second, .val (.int (1 : Int32)), .val (.int (1 : Int32)), .val (.int (1 : Int32))] [(.int (1 : Int32))])) _
    refine XS.ifNo X37.here hx rfl (hb hby at_117) rfl ((if0 _ _).trans (feq hc117).1) ?_
    show Steps p.tables e below (T37.setTop (mkF m 120 #[.val (.int p1), .val (.int p2), .val (.long q3), .second, .val (.int (p1 &&& (2147483647 : Int32))), .val (.long (p2.toInt64 * (p1 &&& (2147483647 : Int32)).toInt64 - q3)), .second, .val (.long (p2.toInt64 * (p1 &&& (2147483647 : Int32)).toInt64 - (0 : Int64))), .second, .val (.long (p2.toInt64 * ((p1 &&& (2147483647 : Int32)) - (1 : Int32)).toInt64 - (0 : Int64))), .second, .val (.long (p2.toInt64 * (0 : Int32).toInt64 - q3)), .second, .val (.int (1 : Int32)), .val (.int (1 : Int32)), .val (.int (1 : Int32))] [])) _
    refine XS.iconst X37.here hx rfl (hb hby at_120) ?_
    show Steps p.tables e below (T37.setTop (mkF m 121 #[.val (.int p1), .val (.int p2), .val (.long q3), .second, .val (.int (p1 &&& (2147483647 : Int32))), .val (.long (p2.toInt64 * (p1 &&& (2147483647 : Int32)).toInt64 - q3)), .second, .val (.long (p2.toInt64 * (p1 &&& (2147483647 : Int32)).toInt64 - (0 : Int64))), .second, .val (.long (p2.toInt64 * ((p1 &&& (2147483647 : Int32)) - (1 : Int32)).toInt64 - (0 : Int64))), .second, .val (.long (p2.toInt64 * (0 : Int32).toInt64 - q3)), .second, .val (.int (1 : Int32)), .val (.int (1 : Int32)), .val (.int (1 : Int32))] [(.int (1 : Int32))])) _
    refine XS.goto X37.here hx rfl (pc0 := 121) (pc' := 125) rfl (hb hby at_121) (by decide) (by decide) ?_
    show Steps p.tables e below (T37.setTop (mkF m 125 #[.val (.int p1), .val (.int p2), .val (.long q3), .second, .val (.int (p1 &&& (2147483647 : Int32))), .val (.long (p2.toInt64 * (p1 &&& (2147483647 : Int32)).toInt64 - q3)), .second, .val (.long (p2.toInt64 * (p1 &&& (2147483647 : Int32)).toInt64 - (0 : Int64))), .second, .val (.long (p2.toInt64 * ((p1 &&& (2147483647 : Int32)) - (1 : Int32)).toInt64 - (0 : Int64))), .second, .val (.long (p2.toInt64 * (0 : Int32).toInt64 - q3)), .second, .val (.int (1 : Int32)), .val (.int (1 : Int32)), .val (.int (1 : Int32))] [(.int (1 : Int32))])) _
    exact retN X37 hx (t := .boolean) Bd.returns (by simp) (hb hby at_125) hr
  · show Q_0 Z p1 p2 q3 h0 n0 _ T37.heap _
    rw [e37]
    exact ⟨rfl, N37⟩
set_option maxRecDepth 65536 in
set_option maxHeartbeats 40000000 in
theorem comes_1 {Post : Tables → Env → Array Value → State → Outcome → State → Prop} (hpost : ∀ tb e args s v u, (limb_1_1.after args s (.returned v) u = true ∧ limb_1_2.after args s (.returned v) u = true ∧ True) → FrameEnd s (.returned v) u (Jvm.fieldLocs frame_1_writes args s ++ Jvm.arrayLocs frame_1_arrays args s ++ Jvm.staticLocs frame_1_statics s) 24 128 → Post tb e args s (.returned v) u) :
    ArmFor flags0 classFile x code maxLocals ret World_1 tables_1 room_1 Calls_1 rest_1 Pre_1 Post := by
  intro l hfl _ _ p e ha hc hk s m args below hf hA hF happ hP
  obtain ⟨hcalls, hrest, hpre⟩ := hP
  obtain ⟨-, -, -, hnamed, -, -, -, hat⟩ := (Spec.applies_iff hf).mp happ
  obtain ⟨hg, hn⟩ := and_e (Cond.before_iff.mp (show (Jvm.Cond.and given_1 narrow_1).before args s = true from hpre))
  obtain ⟨g38, g39⟩ := and_e hg
  obtain ⟨g40, g41⟩ := and_e g39
  obtain ⟨g42, g43⟩ := and_e g41
  obtain ⟨w0, w1, w2, rfl⟩ : ∃ w0 w1 w2 : Value, args = #[w0, w1, w2] := by
    have hs : args.size = 3 := by simpa [Cond.value, given_1] using g38
    obtain ⟨L⟩ := args
    match L, hs with
    | [w0, w1, w2], _ => exact ⟨w0, w1, w2, rfl⟩
  have hw := fun d (hd : d ∈ tables_1) => atoms_spec (ws := Jvm.Cond.code x code maxLocals ret :: tables_1) hat d (List.mem_cons_of_mem _ hd)
  have hfit : Fit s := fun {y c} hc i hi => by
    obtain ⟨ha, rfl⟩ := Array.getElem?_eq_some_iff.mp hc
    have q := List.all_eq_true.mp ((Array.all_eq_true_iff_forall_mem.mp hF) _ (Array.getElem_mem ha)) i (List.mem_range.mpr hi)
    simpa [Array.getElem?_eq_getElem hi] using q
  obtain ⟨i0, ei0⟩ := is_v g40
  obtain rfl : w0 = (.int i0) := Option.some.inj ei0
  obtain ⟨i1, ei1⟩ := is_v g42
  obtain rfl : w1 = (.int i1) := Option.some.inj ei1
  obtain ⟨i2, ei2⟩ := isL_v g43
  obtain rfl : w2 = (.long i2) := Option.some.inj ei2
  obtain ⟨n, o, h1, h2, h3, _, L, rfl, ⟨rfl, N⟩, hq⟩ := rm_0 l s _ hw tables_1 i0 i1 i2 s.heap s.heap.size (Nat.le_refl _)  p e ha hc hk s m _ below hf ((Spec.applies_iff_loose hf).mp happ).1 ⟨rfl, State.Warmed39.refl s, rfl⟩ trivial
  refine ⟨n, _, h1, h2, h3, hpost _ _ _ _ _ _ ⟨Cond.after_iff.mpr rfl, Cond.after_iff.mpr (eq_i res_at (Term.int_eval (1)) rfl), trivial⟩ ⟨hq.1, hq.2.1, (hq.2.2.sift fun y hy => Or.inr (N y hy)).mono (by decide) (by decide)⟩⟩
theorem main_1_1 : Claimed_1_1 := comes_1 fun _ _ _ _ _ _ h hF => ⟨h.1, hF⟩
theorem main_1_2 : Claimed_1_2 := comes_1 fun _ _ _ _ _ _ h hF => ⟨h.2.1, hF⟩
end Jvm.Pilot.@@N@@
namespace Jvm.Pilot.@@N@@
open Jvm Jvm.ClassFile Sem Op Lib Jvm.Free Jvm.Stand Jvm.Pilot.@@N@@.Jvm.D
/-! MADE BY PROGRAM (witnessworld.py) out of the Statement's table words and the real class files: 12 classes; the members and pool entries that the words name. The judged class is class 1, her method 2. -/
namespace start1
open Jvm.ClassFile
def u (s : String) : CpInfo := .utf8 (stringToUtf16 s)
/-- a pool by its gaps: so many unusable entries, then the entry; so many at the end -/
def gap : Nat → List CpInfo → List CpInfo
  | 0, r => r
  | n + 1, r => .unusable :: gap n r
def poolList (es : List (Nat × CpInfo)) (last : Nat) : List CpInfo := es.foldr (fun e r => gap e.1 (e.2 :: r)) (gap last [])
def pool (es : List (Nat × CpInfo)) (last : Nat) : Array CpInfo := ⟨poolList es last⟩
def fileOf (pool : Array CpInfo) (this : Nat) (attrs : Array Attribute := #[]) (ms : Array MethodInfo := #[]) (fl : Nat := 33) (sup : Nat := 0) (ifs : Array Nat := #[]) (fds : Array FieldInfo := #[]) : ClassFile where
  minorVersion := 0
  majorVersion := 65
  constantPool := pool
  accessFlags := fl
  thisClass := this
  superClass := sup
  interfaces := ifs
  fields := fds
  methods := ms
  attributes := attrs
def plain (name : String) (sup : Option ClassId) : Class where
  name := name
  kind := .ordinary
  loader := none
  accessFlags := 33
  super := sup
  interfaces := #[]
  cf := none
  fields := #[]
  methods := #[]
  instanceTypes := #[]
  staticTypes := #[]
  resolved := #[]
  callSites := []
  init := .initialized
  statics := none
  mirror := none

def pool0 : Array CpInfo := pool [(5, u "<init>"), (0, u "()V"), (1, .class_ 10), (1, u "java/lang/Object")] 113

def k0c0 : Code := { maxStack := 0, maxLocals := 1, code := object_method_1_code, exceptionTable := #[], attributes := #[] }
def k0m0 : Method := { name := "<init>", desc := "()V", sig := { parameters := [], returnType := none }, accessFlags := 1, code := some k0c0 }
/-- java/lang/Object -/
def k0 : Class := { plain "java/lang/Object" none with
  accessFlags := 33
  interfaces := #[]
  cf := some (fileOf pool0 8 #[] #[{ accessFlags := 1, nameIndex := 5, descriptorIndex := 6, attributes := #[] }] 33 0 #[] #[])
  fields := #[]
  methods := #[k0m0]
  instanceTypes := #[]
  staticTypes := #[]
  resolved := Array.replicate 124 none
  statics := none }

def pool1 : Array CpInfo := pool [(2, .class_ 4), (1, u "java/lang/Object"), (0, u "<init>"), (0, u "()V"), (0, .class_ 8), (0, u "com/example/livedial/livedial/cli/Fanout$Result"), (0, .methodref 7 10), (0, .nameAndType 5 11), (0, u "(IIJ[JILjava/lang/String;ILjava/lang/String;)V"), (0, .integer 2147483647), (0, .methodref 14 15), (0, .class_ 16), (0, .nameAndType 17 18), (0, u "com/example/livedial/livedial/cli/ResultMissedPinLaw"), (0, u "make"), (0, u "(IIJ)Lcom/example/livedial/livedial/cli/Fanout$Result;"), (0, .methodref 7 20), (0, .nameAndType 21 22), (0, u "missed"), (0, u "()J"), (2, u "law"), (0, u "(IIJ)Z")] 7

def k1m0 : Method := { name := "<init>", desc := "()V", sig := { parameters := [], returnType := none }, accessFlags := 1, code := none }
def k1c1 : Code := { maxStack := 11, maxLocals := 4, code := method_2_code, exceptionTable := #[], attributes := #[] }
def k1m1 : Method := { name := "make", desc := "(IIJ)Lcom/example/livedial/livedial/cli/Fanout$Result;", sig := { parameters := [.int, .int, .long], returnType := some (.object "com/example/livedial/livedial/cli/Fanout$Result") }, accessFlags := 10, code := some k1c1 }
def k1c2 : Code := { maxStack := 6, maxLocals := 16, code := code, exceptionTable := #[], attributes := #[] }
def k1m2 : Method := { name := "law", desc := "(IIJ)Z", sig := { parameters := [.int, .int, .long], returnType := some .boolean }, accessFlags := 9, code := some k1c2 }
/-- com/example/livedial/livedial/cli/ResultMissedPinLaw -/
def k1 : Class := { plain "com/example/livedial/livedial/cli/ResultMissedPinLaw" (some 0) with
  accessFlags := 49
  interfaces := #[]
  cf := some (fileOf pool1 14 #[] #[{ accessFlags := 1, nameIndex := 5, descriptorIndex := 6, attributes := #[] }, { accessFlags := 10, nameIndex := 17, descriptorIndex := 18, attributes := #[] }, { accessFlags := 9, nameIndex := 25, descriptorIndex := 26, attributes := #[] }] 49 2 #[] #[])
  fields := #[]
  methods := #[k1m0, k1m1, k1m2]
  instanceTypes := #[]
  staticTypes := #[]
  resolved := Array.replicate 34 none
  statics := none }

def pool2 : Array CpInfo := pool [(1, .methodref 2 3), (0, .class_ 4), (0, .nameAndType 5 6), (0, u "java/lang/Object"), (0, u "<init>"), (0, u "()V"), (0, .class_ 8), (0, u "java/lang/Record")] 13

def k2c0 : Code := { maxStack := 1, maxLocals := 1, code := jdk_30_method_1_code, exceptionTable := #[], attributes := #[] }
def k2m0 : Method := { name := "<init>", desc := "()V", sig := { parameters := [], returnType := none }, accessFlags := 4, code := some k2c0 }
/-- java/lang/Record -/
def k2 : Class := { plain "java/lang/Record" (some 0) with
  accessFlags := 1057
  interfaces := #[]
  cf := some (fileOf pool2 7 #[] #[{ accessFlags := 4, nameIndex := 5, descriptorIndex := 6, attributes := #[] }] 1057 2 #[] #[])
  fields := #[]
  methods := #[k2m0]
  instanceTypes := #[]
  staticTypes := #[]
  resolved := Array.replicate 22 none
  statics := none }

def pool3 : Array CpInfo := pool [(1, .methodref 2 3), (0, .class_ 4), (0, .nameAndType 5 6), (0, u "java/lang/Record"), (0, u "<init>"), (0, u "()V"), (0, .fieldref 8 9), (0, .class_ 10), (0, .nameAndType 11 12), (0, u "com/example/livedial/livedial/cli/Fanout$Result"), (0, u "clients"), (0, u "I"), (0, .fieldref 8 14), (0, .nameAndType 15 12), (0, u "changes"), (0, .fieldref 8 17), (0, .nameAndType 18 19), (0, u "deliveries"), (0, u "J"), (0, .fieldref 8 21), (0, .nameAndType 22 23), (0, u "latencies"), (0, u "[J"), (0, .fieldref 8 25), (0, .nameAndType 26 12), (0, u "failedChanges"), (0, .fieldref 8 28), (0, .nameAndType 29 30), (0, u "firstFailure"), (0, u "Ljava/lang/String;"), (0, .fieldref 8 32), (0, .nameAndType 33 12), (0, u "endedStreams"), (0, .fieldref 8 35), (0, .nameAndType 36 30), (0, u "firstEnd"), (12, u "missed"), (0, u "()J"), (50, u "(IIJ[JILjava/lang/String;ILjava/lang/String;)V"), (12, .class_ 115), (0, u "com/example/livedial/livedial/cli/Fanout")] 34

def k3c0 : Code := { maxStack := 3, maxLocals := 10, code := prog_28_method_1_code, exceptionTable := #[], attributes := #[] }
def k3m0 : Method := { name := "<init>", desc := "(IIJ[JILjava/lang/String;ILjava/lang/String;)V", sig := { parameters := [.int, .int, .long, (.array .long), .int, (.object "java/lang/String"), .int, (.object "java/lang/String")], returnType := none }, accessFlags := 0, code := some k3c0 }
def k3c1 : Code := { maxStack := 4, maxLocals := 1, code := prog_28_method_2_code, exceptionTable := #[], attributes := #[] }
def k3m1 : Method := { name := "missed", desc := "()J", sig := { parameters := [], returnType := some .long }, accessFlags := 0, code := some k3c1 }
/-- com/example/livedial/livedial/cli/Fanout$Result -/
def k3 : Class := { plain "com/example/livedial/livedial/cli/Fanout$Result" (some 2) with
  accessFlags := 48
  interfaces := #[]
  cf := some (fileOf pool3 8 #[.nestHost 114] #[{ accessFlags := 0, nameIndex := 5, descriptorIndex := 101, attributes := #[] }, { accessFlags := 0, nameIndex := 49, descriptorIndex := 50, attributes := #[] }] 48 2 #[] #[{ accessFlags := 18, nameIndex := 11, descriptorIndex := 12, attributes := #[] }, { accessFlags := 18, nameIndex := 15, descriptorIndex := 12, attributes := #[] }, { accessFlags := 18, nameIndex := 18, descriptorIndex := 19, attributes := #[] }, { accessFlags := 18, nameIndex := 22, descriptorIndex := 23, attributes := #[] }, { accessFlags := 18, nameIndex := 26, descriptorIndex := 12, attributes := #[] }, { accessFlags := 18, nameIndex := 29, descriptorIndex := 30, attributes := #[] }, { accessFlags := 18, nameIndex := 33, descriptorIndex := 12, attributes := #[] }, { accessFlags := 18, nameIndex := 36, descriptorIndex := 30, attributes := #[] }])
  fields := #[{ name := "clients", type := .int, accessFlags := 18, slot := 0, constantValue := 0 }, { name := "changes", type := .int, accessFlags := 18, slot := 1, constantValue := 0 }, { name := "deliveries", type := .long, accessFlags := 18, slot := 2, constantValue := 0 }, { name := "latencies", type := (.array .long), accessFlags := 18, slot := 3, constantValue := 0 }, { name := "failedChanges", type := .int, accessFlags := 18, slot := 4, constantValue := 0 }, { name := "firstFailure", type := (.object "java/lang/String"), accessFlags := 18, slot := 5, constantValue := 0 }, { name := "endedStreams", type := .int, accessFlags := 18, slot := 6, constantValue := 0 }, { name := "firstEnd", type := (.object "java/lang/String"), accessFlags := 18, slot := 7, constantValue := 0 }]
  methods := #[k3m0, k3m1]
  instanceTypes := #[.int, .int, .long, (.array .long), .int, (.object "java/lang/String"), .int, (.object "java/lang/String")]
  staticTypes := #[]
  resolved := Array.replicate 150 none
  statics := none }

def pool4 : Array CpInfo := pool [(1, u "java/lang/Cloneable"), (0, .class_ 1), (0, u "java/lang/Object"), (0, .class_ 3)] 3

/-- java/lang/Cloneable -/
def k4 : Class := { plain "java/lang/Cloneable" (some 0) with
  accessFlags := 1537
  interfaces := #[]
  cf := some (fileOf pool4 2 #[] #[] 1537 4 #[] #[])
  fields := #[]
  methods := #[]
  instanceTypes := #[]
  staticTypes := #[]
  resolved := Array.replicate 8 none
  statics := none }

def pool5 : Array CpInfo := pool [(1, u "java/io/Serializable"), (0, .class_ 1), (0, u "java/lang/Object"), (0, .class_ 3)] 3

/-- java/io/Serializable -/
def k5 : Class := { plain "java/io/Serializable" (some 0) with
  accessFlags := 1537
  interfaces := #[]
  cf := some (fileOf pool5 2 #[] #[] 1537 4 #[] #[])
  fields := #[]
  methods := #[]
  instanceTypes := #[]
  staticTypes := #[]
  resolved := Array.replicate 8 none
  statics := none }

/-- the primitive byte -/
def k6 : Class := { plain "byte" none with kind := .primitive 'B', accessFlags := 0x411 }
/-- [B -/
def k7 : Class := { plain "[B" (some 0) with kind := .array 6 .byte, interfaces := #[4, 5], accessFlags := 1041 }

/-- the primitive int -/
def k8 : Class := { plain "int" none with kind := .primitive 'I', accessFlags := 0x411 }
/-- [I -/
def k9 : Class := { plain "[I" (some 0) with kind := .array 8 .int, interfaces := #[4, 5], accessFlags := 1041 }

/-- the primitive long -/
def k10 : Class := { plain "long" none with kind := .primitive 'J', accessFlags := 0x411 }
/-- [J -/
def k11 : Class := { plain "[J" (some 0) with kind := .array 10 .long, interfaces := #[4, 5], accessFlags := 1041 }

def heap : Heap := #[]
def classes : Array Class := #[k0, k1, k2, k3, k4, k5, k6, k7, k8, k9, k10, k11]
def interned : List (Array UInt16 × Addr) := []
def slotsUsed : Nat := 0
def theMethod : MethodId := ⟨1, 2⟩
def args0 : Array Value := #[.int 5, .int 6, .long 7]
def aboutOver (below : List Frame) : State where
  vm := { classes := classes, interned := interned.toArray }
  heap := heap
  slotsUsed := slotsUsed
  threads := #[{ frames := .invoking theMethod args0 :: below }]
def below0 : List Frame := [.native { method := ⟨0, 0⟩, args := #[] }]
def about1 : State := aboutOver below0
def p0 : Program := .bare "" "" ""
def e0 : Env := launch0.env 0 0 0
theorem w_frames : about1.frames = Frame.invoking theMethod args0 :: below0 := rfl
set_option maxRecDepth 65536 in
theorem w_args : argsFit about1.vm theMethod args0 = true := by decide +kernel
set_option maxRecDepth 65536 in
theorem w_heap : heapFits about1 = true := by decide +kernel
set_option maxRecDepth 65536 in
theorem w_runnable : about1.curStatus? = some .runnable := by decide +kernel
set_option maxRecDepth 65536 in
theorem w_alone : about1.alone = true := by decide +kernel
set_option maxRecDepth 65536 in
theorem w_named : about1.methodNamed? x = some theMethod := by decide +kernel
set_option maxRecDepth 65536 in
theorem w_hears : about1.hears theMethod below0 = true := by decide +kernel
set_option maxRecDepth 65536 in
theorem w_ripe : about1.ripe theMethod args0 below0 = true := by decide +kernel
theorem w_running : about1.status = .running := rfl
set_option maxRecDepth 65536 in
theorem w_room : about1.hasRoom e0.platform room_1 = true :=
  launch0.hasRoom_least _ room_1 (by decide +kernel) (by decide +kernel) (by decide +kernel) (by decide +kernel) (by decide +kernel) (by decide +kernel)
theorem allAtoms_all (ts : List Jvm.Cond) (a : Array Jvm.Value) (st : Jvm.State) : (allAtoms ts).before a st = ts.all (fun c => c.before a st) := by
  induction ts with
  | nil => rfl
  | cons c t ih =>
    show (Jvm.Cond.and c (allAtoms t)).before a st = _
    rw [Jvm.Cond.before_and, ih, List.all_cons]
def words1 : List Jvm.Cond := Jvm.Cond.code x code maxLocals ret :: tables_1
/-- a 'code' word, met by the world's own term for the bytes: nothing is compared byte by byte -/
theorem code_word {y : MethodName} {bytes : ByteArray} {mx : Nat} {rt : Option FieldType} {a : Array Value} {s : State} {m : MethodId} {meth : Method} {c : Code} (h1 : s.methodNamed? y = some m) (h2 : s.vm.method? m = some meth) (h3 : meth.code = some c) (h4 : c.code = bytes)
    (h5 : (c.maxLocals == mx && c.exceptionTable.isEmpty && decide (c.maxStack ≤ mostOperands) && decide (meth.sig.returnType = rt) && !meth.locks && decide (parseMethodDescriptor y.desc = some meth.sig)) = true) : (Jvm.Cond.code y bytes mx rt).before a s = true := by
  simp only [Bool.and_eq_true, beq_iff_eq, Bool.not_eq_true', decide_eq_true_eq] at h5
  obtain ⟨⟨⟨⟨⟨g1, g2⟩, g3⟩, g4⟩, g5⟩, g6⟩ := h5
  simp [Cond.before, Cond.holds, Cond.value, h1, h2, h3, h4, g1, g2, g3, g4, g5, g6]
def isCode : Jvm.Cond → Bool
  | .code _ _ _ _ => true
  | _ => false
theorem all_split {L : List Jvm.Cond} {P : Jvm.Cond → Bool} (h1 : L.all (fun c => isCode c || P c) = true) (h2 : ∀ c ∈ L.filter isCode, P c = true) : L.all P = true := by
  refine List.all_eq_true.mpr fun c hc => ?_
  have h := List.all_eq_true.mp h1 c hc
  rcases Bool.eq_false_or_eq_true (isCode c) with hi | hi
  · exact h2 c (List.mem_filter.mpr ⟨hc, hi⟩)
  · simpa [hi] using h
set_option maxRecDepth 65536 in
theorem w_c0 : (Jvm.Cond.code x code maxLocals ret).before args0 about1 = true := code_word (m := ⟨1, 2⟩) (meth := k1m2) (c := k1c2) (by decide +kernel) rfl rfl rfl (by decide +kernel)
set_option maxRecDepth 65536 in
theorem w_c1 : (Jvm.Cond.code ({ cls := "com/example/livedial/livedial/cli/ResultMissedPinLaw", name := "make", desc := "(IIJ)Lcom/example/livedial/livedial/cli/Fanout$Result;" } : Jvm.MethodName) method_2_code (4 : Nat) (Option.some (Jvm.ClassFile.FieldType.object "com/example/livedial/livedial/cli/Fanout$Result"))).before args0 about1 = true := code_word (m := ⟨1, 1⟩) (meth := k1m1) (c := k1c1) (by decide +kernel) rfl rfl rfl (by decide +kernel)
set_option maxRecDepth 65536 in
theorem w_c2 : (Jvm.Cond.code ({ cls := "com/example/livedial/livedial/cli/Fanout$Result", name := "<init>", desc := "(IIJ[JILjava/lang/String;ILjava/lang/String;)V" } : Jvm.MethodName) prog_28_method_1_code (10 : Nat) (Option.none : Option Jvm.ClassFile.FieldType)).before args0 about1 = true := code_word (m := ⟨3, 0⟩) (meth := k3m0) (c := k3c0) (by decide +kernel) rfl rfl rfl (by decide +kernel)
set_option maxRecDepth 65536 in
theorem w_c3 : (Jvm.Cond.code ({ cls := "java/lang/Record", name := "<init>", desc := "()V" } : Jvm.MethodName) jdk_30_method_1_code (1 : Nat) (Option.none : Option Jvm.ClassFile.FieldType)).before args0 about1 = true := code_word (m := ⟨2, 0⟩) (meth := k2m0) (c := k2c0) (by decide +kernel) rfl rfl rfl (by decide +kernel)
set_option maxRecDepth 65536 in
theorem w_c4 : (Jvm.Cond.code ({ cls := "java/lang/Object", name := "<init>", desc := "()V" } : Jvm.MethodName) object_method_1_code (1 : Nat) (Option.none : Option Jvm.ClassFile.FieldType)).before args0 about1 = true := code_word (m := ⟨0, 0⟩) (meth := k0m0) (c := k0c0) (by decide +kernel) rfl rfl rfl (by decide +kernel)
set_option maxRecDepth 65536 in
theorem w_c5 : (Jvm.Cond.code ({ cls := "com/example/livedial/livedial/cli/Fanout$Result", name := "missed", desc := "()J" } : Jvm.MethodName) prog_28_method_2_code (1 : Nat) (Option.some Jvm.ClassFile.FieldType.long)).before args0 about1 = true := code_word (m := ⟨3, 1⟩) (meth := k3m1) (c := k3c1) (by decide +kernel) rfl rfl rfl (by decide +kernel)
def codes1 : List Jvm.Cond := [Jvm.Cond.code x code maxLocals ret, Jvm.Cond.code ({ cls := "com/example/livedial/livedial/cli/ResultMissedPinLaw", name := "make", desc := "(IIJ)Lcom/example/livedial/livedial/cli/Fanout$Result;" } : Jvm.MethodName) method_2_code (4 : Nat) (Option.some (Jvm.ClassFile.FieldType.object "com/example/livedial/livedial/cli/Fanout$Result")), Jvm.Cond.code ({ cls := "com/example/livedial/livedial/cli/Fanout$Result", name := "<init>", desc := "(IIJ[JILjava/lang/String;ILjava/lang/String;)V" } : Jvm.MethodName) prog_28_method_1_code (10 : Nat) (Option.none : Option Jvm.ClassFile.FieldType), Jvm.Cond.code ({ cls := "java/lang/Record", name := "<init>", desc := "()V" } : Jvm.MethodName) jdk_30_method_1_code (1 : Nat) (Option.none : Option Jvm.ClassFile.FieldType), Jvm.Cond.code ({ cls := "java/lang/Object", name := "<init>", desc := "()V" } : Jvm.MethodName) object_method_1_code (1 : Nat) (Option.none : Option Jvm.ClassFile.FieldType), Jvm.Cond.code ({ cls := "com/example/livedial/livedial/cli/Fanout$Result", name := "missed", desc := "()J" } : Jvm.MethodName) prog_28_method_2_code (1 : Nat) (Option.some Jvm.ClassFile.FieldType.long)]
set_option maxRecDepth 65536 in
theorem codes_eq : words1.filter isCode = codes1 := rfl
theorem w_codes : ∀ c ∈ words1.filter isCode, c.before args0 about1 = true := by
  rw [codes_eq]
  intro c hc
  simp only [codes1, List.mem_cons, List.not_mem_nil, or_false] at hc
  rcases hc with rfl | rfl | rfl | rfl | rfl | rfl
  · exact w_c0
  · exact w_c1
  · exact w_c2
  · exact w_c3
  · exact w_c4
  · exact w_c5
set_option maxRecDepth 65536 in
theorem w_t1 : (words1.take 24).all (fun c => isCode c || c.before args0 about1) = true := by decide +kernel
set_option maxRecDepth 65536 in
theorem w_t2 : (words1.drop 24).all (fun c => isCode c || c.before args0 about1) = true := by decide +kernel
theorem w_tables : (allAtoms (Jvm.Cond.code x code maxLocals ret :: tables_1)).before args0 about1 = true := by
  rw [allAtoms_all]
  show words1.all (fun c => c.before args0 about1) = true
  refine all_split ?_ w_codes
  rw [← List.take_append_drop 24 words1, List.all_append, w_t1, w_t2]
  rfl
set_option maxRecDepth 65536 in
theorem w_case : (Jvm.Cond.and given_1 narrow_1).before args0 about1 = true := by decide +kernel
theorem w_applies : (headSpec (Jvm.Cond.code x code maxLocals ret :: tables_1) room_1).applies x e0.platform about1 = true :=
  (Spec.applies_iff w_frames).mpr ⟨w_running, w_runnable, w_alone, w_named, w_hears, w_ripe, w_room, w_tables⟩
theorem atStart : AtStart classFile x code maxLocals ret World_1 tables_1 room_1 Calls_1 rest_1 Pre_1 launch0 p0 e0 about1 theMethod args0 below0 :=
  ⟨lists_1, trivial, launch0.admits_env _ _ _, launch0.least_env, fairChoices_fair.cas, fairChoices_fair.clock, w_frames, w_args, w_heap, w_applies, trivial, trivial, w_case⟩
end start1
theorem witness_1 : WitnessClaimed_1 := ⟨start1.p0, start1.e0, start1.about1, start1.theMethod, start1.args0, start1.below0, start1.atStart⟩
end Jvm.Pilot.@@N@@
