import JvmDerived
import JvmDerived.Pilot.@@N@@Statement
import JvmDerived.Pilot.@@N@@Code
set_option linter.unusedVariables false
set_option linter.unusedSimpArgs false
namespace Jvm.RoadKit
open Sem ClassFile Op Lib Jvm.Stand Jvm.Free Jvm.LawKit
section New
variable {p : Program} {l : Launch} {e : Env} {R : Room} {s : State} {m : MethodId} {args : Array Value} {below : List Frame} {meth : Method} {c : Code} {T : State} {locs : List Loc} {cells slots : Nat}
theorem retI (X : Stand p l e R s m args below meth c T locs cells slots) (hx : p.tables.exec = Jvm.exec) {pc : Nat} {Ls : Array Slot} {z : Int32} {rest : List Value} (hret : meth.sig.returnType = some .int) (hd : decode c.code pc = .ok (.ireturn, 1)) {fs : List Frame}
    (hl : ∀ (f : JFrame) (acts : List Action), f.method = m → f.locked = none → f.entered = [] → (doReturn e (T.setTop f) acts (some (.int z))).1 = T.setFrames fs) : Steps p.tables e below (T.setTop (mkF m pc Ls (.int z :: rest))) (T.setFrames fs) := by
  have hm' : T.vm.method? m = some meth := X.method'
  have hn : narrow .int (.int z) = .int z := rfl
  show Steps p.tables e below (T.setTop { method := m, pc := pc, locals := Ls, stack := _ :: rest, locked := none }) _
  jvm_step X.here [X.here.top, hx, hd, hm', hret, hn]
  first | (intro acts; rw [hl _ acts rfl rfl rfl]) | rw [hl _ _ rfl rfl rfl]
  exact Steps.refl _
end New
end Jvm.RoadKit
namespace Jvm.Pilot.@@N@@
open Jvm Jvm.ClassFile Sem Op Lib Jvm.Free Jvm.Stand Jvm.LawKit Jvm.RoadKit Bundle Jvm.Pilot.@@N@@.Jvm.D

theorem own_ne1 {α : Type} (x y : α) : (if (1 : Int32) = (0 : Int32) then x else y) = y := if_neg (by decide)
theorem own_fwd (a b : Int64) : (if b < a then (1 : Int32) else (0 : Int32)) = (if (if a = b then (0 : Int32) else (1 : Int32)) = (0 : Int32) then (0 : Int32) else (if (if a < b then b else a) = a then (1 : Int32) else (0 : Int32))) := by
  by_cases h : a = b
  · subst h; simp [Int64.lt_iff_toInt_lt]
  · rw [show (if a = b then (0 : Int32) else (1 : Int32)) = 1 from if_neg h, own_ne1]
    by_cases g : a < b
    · rw [show (if a < b then b else a) = b from if_pos g, show (if b = a then (1 : Int32) else (0 : Int32)) = 0 from if_neg (fun q => h q.symm)]
      exact if_neg (fun q => by rw [Int64.lt_iff_toInt_lt] at g q; omega)
    · rw [show (if a < b then b else a) = a from if_neg g, show (if a = a then (1 : Int32) else (0 : Int32)) = 1 from if_pos rfl]
      have h2 : ¬ a.toInt = b.toInt := fun q => h (Int64.toInt_inj.mp q)
      exact if_pos (by rw [Int64.lt_iff_toInt_lt] at g ⊢; omega)
theorem own_bwd (a b : Int64) : (if a < b then (1 : Int32) else (0 : Int32)) = (if (if a = b then (0 : Int32) else (1 : Int32)) = (0 : Int32) then (0 : Int32) else (if (if a < b then b else a) = b then (1 : Int32) else (0 : Int32))) := by
  by_cases h : a = b
  · subst h; simp [Int64.lt_iff_toInt_lt]
  · rw [show (if a = b then (0 : Int32) else (1 : Int32)) = 1 from if_neg h, own_ne1]
    by_cases g : a < b
    · rw [show (if a < b then b else a) = b from if_pos g, show (if a < b then (1 : Int32) else (0 : Int32)) = 1 from if_pos g]
      exact (if_pos rfl).symm
    · rw [show (if a < b then b else a) = a from if_neg g, show (if a < b then (1 : Int32) else (0 : Int32)) = 0 from if_neg g]
      exact (if_neg h).symm
theorem d2_0 : decode prog_34_method_2_code 0 = .ok (.aload_n 0, 1) := by decide +kernel
theorem d2_1 : decode prog_34_method_2_code 1 = .ok (.invokespecial 9, 3) := by decide +kernel
theorem d2_4 : decode prog_34_method_2_code 4 = .ok (.aload_n 0, 1) := by decide +kernel
theorem d2_5 : decode prog_34_method_2_code 5 = .ok (.lload_n 1, 1) := by decide +kernel
theorem d2_6 : decode prog_34_method_2_code 6 = .ok (.putfield 14, 3) := by decide +kernel
theorem d2_9 : decode prog_34_method_2_code 9 = .ok (.aload_n 0, 1) := by decide +kernel
theorem d2_10 : decode prog_34_method_2_code 10 = .ok (.aload_n 3, 1) := by decide +kernel
theorem d2_11 : decode prog_34_method_2_code 11 = .ok (.putfield 18, 3) := by decide +kernel
theorem d2_14 : decode prog_34_method_2_code 14 = .ok (.aload_n 0, 1) := by decide +kernel
theorem d2_15 : decode prog_34_method_2_code 15 = .ok (.aload 4, 2) := by decide +kernel
theorem d2_17 : decode prog_34_method_2_code 17 = .ok (.putfield 22, 3) := by decide +kernel
theorem d2_20 : decode prog_34_method_2_code 20 = .ok (.aload_n 0, 1) := by decide +kernel
theorem d2_21 : decode prog_34_method_2_code 21 = .ok (.aload 5, 2) := by decide +kernel
theorem d2_23 : decode prog_34_method_2_code 23 = .ok (.putfield 25, 3) := by decide +kernel
theorem d2_26 : decode prog_34_method_2_code 26 = .ok (.aload_n 0, 1) := by decide +kernel
theorem d2_27 : decode prog_34_method_2_code 27 = .ok (.aload 6, 2) := by decide +kernel
theorem d2_29 : decode prog_34_method_2_code 29 = .ok (.putfield 29, 3) := by decide +kernel
theorem d2_32 : decode prog_34_method_2_code 32 = .ok (.return_, 1) := by decide +kernel
theorem pn_2 : plainName "com/example/sanction/sanction/service/InputRecord" = true := by first | (simp [plainName, overriddenIn]; done) | decide +kernel
theorem ef_2 (m : MethodId) (x0 : Addr) (x1 : Int64) (x2 : Addr) (x3 : Addr) (x4 : Addr) (x5 : Addr) : entryFrame m #[(.ref x0), (.long x1), (.ref x2), (.ref x3), (.ref x4), (.ref x5)] 7 = mkF m 0 #[.val (.ref x0), .val (.long x1), .second, .val (.ref x2), .val (.ref x3), .val (.ref x4), .val (.ref x5)] [] := by first | (simp [entryFrame, mkF, argsToLocals, Value.category]; done) | rfl
def Q_2 (Z : State) (a1 : Addr) (q2 : Int64) (a3 : Addr) (a4 : Addr) (a5 : Addr) (a6 : Addr) (h0 : Heap) (n0 : Nat) (v : Option Value) (h : Heap) (L : List Loc) : Prop := v = none ∧ Fr n0 L ∧ Keep h0 h [a1] ∧ Exa Z h a1 "com/example/sanction/sanction/service/InputRecord" ∧ Fld Z h a1 "com/example/sanction/sanction/service/InputRecord" "time" "J" (.long q2)
set_option maxRecDepth 65536 in
set_option maxHeartbeats 40000000 in
theorem rm_2 (l : Launch) (Z : State) (a0 : Array Value) (hw : ∀ d ∈ tables_1, d.before a0 Z = true) (ws : List Jvm.Cond) (a1 : Addr) (q2 : Int64) (a3 : Addr) (a4 : Addr) (a5 : Addr) (a6 : Addr) (h0 : Heap) (n0 : Nat) (Z0 : n0 ≤ h0.size) (E_a1 : Exa Z h0 a1 "com/example/sanction/sanction/service/InputRecord") (g_a1 : n0 ≤ a1) (F_time : Fld Z h0 a1 "com/example/sanction/sanction/service/InputRecord" "time" "J" (.long (0 : Int64))) (F_widget : Fld Z h0 a1 "com/example/sanction/sanction/service/InputRecord" "widget" "Ljava/lang/String;" .null) (F_context : Fld Z h0 a1 "com/example/sanction/sanction/service/InputRecord" "context" "Ljava/lang/String;" .null) (F_path : Fld Z h0 a1 "com/example/sanction/sanction/service/InputRecord" "path" "[I" .null) (F_passedBy : Fld Z h0 a1 "com/example/sanction/sanction/service/InputRecord" "passedBy" "[Ljava/lang/String;" .null) :
    MetFree l (⟨"com/example/sanction/sanction/service/InputRecord", "<init>", "(JLjava/lang/String;Ljava/lang/String;[I[Ljava/lang/String;)V"⟩ : MethodName) (head1 (Jvm.Cond.code (⟨"com/example/sanction/sanction/service/InputRecord", "<init>", "(JLjava/lang/String;Ljava/lang/String;[I[Ljava/lang/String;)V"⟩ : MethodName) prog_34_method_2_code 7 none :: ws) ({ frames := 1, cells := 0, slots := 0, locals := 12 } : Room)) (fun a U => a = #[(.ref a1), (.long q2), (.ref a3), (.ref a4), (.ref a5), (.ref a6)] ∧ Z.Warmed39 U.vm ∧ U.heap = h0) (fun _ _ _ _ _ => True) (fun _ U o U' => ∃ v L, o = .returned v ∧ Q_2 Z a1 q2 a3 a4 a5 a6 h0 n0 v U'.heap L ∧ FrameEnd U o U' L ({ frames := 1, cells := 0, slots := 0, locals := 12 } : Room).cells ({ frames := 1, cells := 0, slots := 0, locals := 12 } : Room).slots) := by
  refine MetFree.of_bodySF (plainFor_of_name pn_2) hisR ?_
  intro p e s m args below meth cod_ s₁ Bd hml0 hP hK
  obtain ⟨rfl, hZ, hh⟩ := hP
  have hx := Bd.exec
  have hby := Bd.bytes
  have hml : cod_.maxLocals = 7 := hml0
  have hown : s.vm.findClass "com/example/sanction/sanction/service/InputRecord" = some m.cls := findClass_of_methodNamed Bd.named
  have hnm := (name_of_methodNamed Bd.named Bd.method).1
  have X0 : Stand p l e ({ frames := 1, cells := 0, slots := 0, locals := 12 } : Room) s m #[(.ref a1), (.long q2), (.ref a3), (.ref a4), (.ref a5), (.ref a6)] below meth cod_ s₁ [] 0 0 := Stand.of_body Bd
  have e0 : s₁.heap = h0 := by rw [← hh, Bd.state]; rfl
  have N0 := Fr.nil n0
  have pre0 : ∀ t, Steps p.tables e below (s₁.setTop (mkF m 0 #[.val (.ref a1), .val (.long q2), .second, .val (.ref a3), .val (.ref a4), .val (.ref a5), .val (.ref a6)] [])) t → Steps p.tables e below (s₁.setTop (entryFrame m #[(.ref a1), (.long q2), (.ref a3), (.ref a4), (.ref a5), (.ref a6)] 7)) t := fun t k => castTop (ef_2 m a1 q2 a3 a4 a5 a6) k
  obtain ⟨T1, X1, e1, st1⟩ := initO X0 hx hZ hown (hw _ (List.mem_of_getElem? (i := 21) rfl)) (hw _ (List.mem_of_getElem? (i := 22) rfl)) (hw _ (List.mem_of_getElem? (i := 23) rfl)) e0 (g := (mkF m 1 #[.val (.ref a1), .val (.long q2), .second, .val (.ref a3), .val (.ref a4), .val (.ref a5), .val (.ref a6)] [(.ref a1)])) rfl (by rw [hml]; rfl) rfl (hb hby d2_1) (by decide) (W := 0) (by show 2 * 0 + _ ≤ _; exact Nat.le_of_eq rfl) (by decide)
  obtain ⟨T2, h2, X2, e2, W2, st2⟩ := putF X1 hx hZ hown (host := "") (Or.inl (hw _ (List.mem_of_getElem? (i := 24) rfl))) Via.refl e1 F_time E_a1 (Or.inr ⟨(hw _ (List.mem_of_getElem? (i := 25) rfl)), rfl, hnm⟩) (hw _ (List.mem_of_getElem? (i := 1) rfl)) (ty := .long) (by decide) rfl rfl (g := (mkF m 6 #[.val (.ref a1), .val (.long q2), .second, .val (.ref a3), .val (.ref a4), .val (.ref a5), .val (.ref a6)] [(.long q2), (.ref a1)])) rfl rfl (hb hby d2_6)
  have Fw2 : Fld Z h2 a1 "com/example/sanction/sanction/service/InputRecord" "time" "J" (.long q2) := F_time.same W2
  have N2 := Fr.snoc X2 N0 g_a1
  have Kh2 : Keep h0 h2 [a1] := (Keep.refl h0 [a1]).wr W2 (Or.inl (List.mem_of_getElem? (i := 0) rfl))
  obtain ⟨T3, h3, X3, e3, W3, st3⟩ := putF X2 hx hZ hown (host := "") (Or.inl (hw _ (List.mem_of_getElem? (i := 26) rfl))) Via.refl e2 (F_widget.other W2 (Or.inr (slot_ne (Or.inr (hw _ (List.mem_of_getElem? (i := 27) rfl))) (Or.inr (hw _ (List.mem_of_getElem? (i := 25) rfl))) (by decide) (t := (.object "java/lang/String")) (t' := .long) (by decide) (by decide)))) (E_a1.wr W2) (Or.inr ⟨(hw _ (List.mem_of_getElem? (i := 27) rfl)), rfl, hnm⟩) (hw _ (List.mem_of_getElem? (i := 1) rfl)) (ty := (.object "java/lang/String")) (by decide) rfl rfl (g := (mkF m 11 #[.val (.ref a1), .val (.long q2), .second, .val (.ref a3), .val (.ref a4), .val (.ref a5), .val (.ref a6)] [(.ref a3), (.ref a1)])) rfl rfl (hb hby d2_11)
  have Fw3 : Fld Z h3 a1 "com/example/sanction/sanction/service/InputRecord" "widget" "Ljava/lang/String;" (.ref a3) := (F_widget.other W2 (Or.inr (slot_ne (Or.inr (hw _ (List.mem_of_getElem? (i := 27) rfl))) (Or.inr (hw _ (List.mem_of_getElem? (i := 25) rfl))) (by decide) (t := (.object "java/lang/String")) (t' := .long) (by decide) (by decide)))).same W3
  have N3 := Fr.snoc X3 N2 g_a1
  have Kh3 : Keep h0 h3 [a1] := Kh2.wr W3 (Or.inl (List.mem_of_getElem? (i := 0) rfl))
  have f4 := ((F_context.other W2 (Or.inr (slot_ne (Or.inr (hw _ (List.mem_of_getElem? (i := 29) rfl))) (Or.inr (hw _ (List.mem_of_getElem? (i := 25) rfl))) (by decide) (t := (.object "java/lang/String")) (t' := .long) (by decide) (by decide)))).other W3 (Or.inr (slot_ne (Or.inr (hw _ (List.mem_of_getElem? (i := 29) rfl))) (Or.inr (hw _ (List.mem_of_getElem? (i := 27) rfl))) (by decide) (t := (.object "java/lang/String")) (t' := (.object "java/lang/String")) (by decide) (by decide))))
  have f5 := ((E_a1.wr W2).wr W3)
  obtain ⟨T6, h6, X6, e6, W6, st6⟩ := putF X3 hx hZ hown (host := "") (Or.inl (hw _ (List.mem_of_getElem? (i := 28) rfl))) Via.refl e3 f4 f5 (Or.inr ⟨(hw _ (List.mem_of_getElem? (i := 29) rfl)), rfl, hnm⟩) (hw _ (List.mem_of_getElem? (i := 1) rfl)) (ty := (.object "java/lang/String")) (by decide) rfl rfl (g := (mkF m 17 #[.val (.ref a1), .val (.long q2), .second, .val (.ref a3), .val (.ref a4), .val (.ref a5), .val (.ref a6)] [(.ref a4), (.ref a1)])) rfl rfl (hb hby d2_17)
  have Fw6 : Fld Z h6 a1 "com/example/sanction/sanction/service/InputRecord" "context" "Ljava/lang/String;" (.ref a4) := f4.same W6
  have N6 := Fr.snoc X6 N3 g_a1
  have Kh6 : Keep h0 h6 [a1] := Kh3.wr W6 (Or.inl (List.mem_of_getElem? (i := 0) rfl))
  have f7 := (((F_path.other W2 (Or.inr (slot_ne (Or.inr (hw _ (List.mem_of_getElem? (i := 31) rfl))) (Or.inr (hw _ (List.mem_of_getElem? (i := 25) rfl))) (by decide) (t := (.array .int)) (t' := .long) (by decide) (by decide)))).other W3 (Or.inr (slot_ne (Or.inr (hw _ (List.mem_of_getElem? (i := 31) rfl))) (Or.inr (hw _ (List.mem_of_getElem? (i := 27) rfl))) (by decide) (t := (.array .int)) (t' := (.object "java/lang/String")) (by decide) (by decide)))).other W6 (Or.inr (slot_ne (Or.inr (hw _ (List.mem_of_getElem? (i := 31) rfl))) (Or.inr (hw _ (List.mem_of_getElem? (i := 29) rfl))) (by decide) (t := (.array .int)) (t' := (.object "java/lang/String")) (by decide) (by decide))))
  obtain ⟨T8, h8, X8, e8, W8, st8⟩ := putF X6 hx hZ hown (host := "") (Or.inl (hw _ (List.mem_of_getElem? (i := 30) rfl))) Via.refl e6 f7 (f5.wr W6) (Or.inr ⟨(hw _ (List.mem_of_getElem? (i := 31) rfl)), rfl, hnm⟩) (hw _ (List.mem_of_getElem? (i := 1) rfl)) (ty := (.array .int)) (by decide) rfl rfl (g := (mkF m 23 #[.val (.ref a1), .val (.long q2), .second, .val (.ref a3), .val (.ref a4), .val (.ref a5), .val (.ref a6)] [(.ref a5), (.ref a1)])) rfl rfl (hb hby d2_23)
  have Fw8 : Fld Z h8 a1 "com/example/sanction/sanction/service/InputRecord" "path" "[I" (.ref a5) := f7.same W8
  have N8 := Fr.snoc X8 N6 g_a1
  have Kh8 : Keep h0 h8 [a1] := Kh6.wr W8 (Or.inl (List.mem_of_getElem? (i := 0) rfl))
  have f9 := ((((F_passedBy.other W2 (Or.inr (slot_ne (Or.inr (hw _ (List.mem_of_getElem? (i := 33) rfl))) (Or.inr (hw _ (List.mem_of_getElem? (i := 25) rfl))) (by decide) (t := (.array (.object "java/lang/String"))) (t' := .long) (by decide) (by decide)))).other W3 (Or.inr (slot_ne (Or.inr (hw _ (List.mem_of_getElem? (i := 33) rfl))) (Or.inr (hw _ (List.mem_of_getElem? (i := 27) rfl))) (by decide) (t := (.array (.object "java/lang/String"))) (t' := (.object "java/lang/String")) (by decide) (by decide)))).other W6 (Or.inr (slot_ne (Or.inr (hw _ (List.mem_of_getElem? (i := 33) rfl))) (Or.inr (hw _ (List.mem_of_getElem? (i := 29) rfl))) (by decide) (t := (.array (.object "java/lang/String"))) (t' := (.object "java/lang/String")) (by decide) (by decide)))).other W8 (Or.inr (slot_ne (Or.inr (hw _ (List.mem_of_getElem? (i := 33) rfl))) (Or.inr (hw _ (List.mem_of_getElem? (i := 31) rfl))) (by decide) (t := (.array (.object "java/lang/String"))) (t' := (.array .int)) (by decide) (by decide))))
  have f10 := ((f5.wr W6).wr W8)
  obtain ⟨T11, h11, X11, e11, W11, st11⟩ := putF X8 hx hZ hown (host := "") (Or.inl (hw _ (List.mem_of_getElem? (i := 32) rfl))) Via.refl e8 f9 f10 (Or.inr ⟨(hw _ (List.mem_of_getElem? (i := 33) rfl)), rfl, hnm⟩) (hw _ (List.mem_of_getElem? (i := 1) rfl)) (ty := (.array (.object "java/lang/String"))) (by decide) rfl rfl (g := (mkF m 29 #[.val (.ref a1), .val (.long q2), .second, .val (.ref a3), .val (.ref a4), .val (.ref a5), .val (.ref a6)] [(.ref a6), (.ref a1)])) rfl rfl (hb hby d2_29)
  have Fw11 : Fld Z h11 a1 "com/example/sanction/sanction/service/InputRecord" "passedBy" "[Ljava/lang/String;" (.ref a6) := f9.same W11
  have N11 := Fr.snoc X11 N8 g_a1
  have Kh11 : Keep h0 h11 [a1] := Kh8.wr W11 (Or.inl (List.mem_of_getElem? (i := 0) rfl))
  have f12 := ((((Fw2.other W3 (Or.inr (slot_ne (Or.inr (hw _ (List.mem_of_getElem? (i := 25) rfl))) (Or.inr (hw _ (List.mem_of_getElem? (i := 27) rfl))) (by decide) (t := .long) (t' := (.object "java/lang/String")) (by decide) (by decide)))).other W6 (Or.inr (slot_ne (Or.inr (hw _ (List.mem_of_getElem? (i := 25) rfl))) (Or.inr (hw _ (List.mem_of_getElem? (i := 29) rfl))) (by decide) (t := .long) (t' := (.object "java/lang/String")) (by decide) (by decide)))).other W8 (Or.inr (slot_ne (Or.inr (hw _ (List.mem_of_getElem? (i := 25) rfl))) (Or.inr (hw _ (List.mem_of_getElem? (i := 31) rfl))) (by decide) (t := .long) (t' := (.array .int)) (by decide) (by decide)))).other W11 (Or.inr (slot_ne (Or.inr (hw _ (List.mem_of_getElem? (i := 25) rfl))) (Or.inr (hw _ (List.mem_of_getElem? (i := 33) rfl))) (by decide) (t := .long) (t' := (.array (.object "java/lang/String"))) (by decide) (by decide))))
  obtain ⟨fs, hr, hrun, hended, hW, hsame⟩ := X11.leave (v := none) (fun _ => rfl)
  refine ⟨_, _, pre0 _ ?_, hrun, hended, _, _, rfl, ?_, ⟨_, rfl⟩, hW, hsame.mono (by decide) (by decide)⟩
  · show Steps p.tables e below (s₁.setTop (mkF m 0 #[.val (.ref a1), .val (.long q2), .second, .val (.ref a3), .val (.ref a4), .val (.ref a5), .val (.ref a6)] [])) _
    refine XS.aloadN X0.here hx rfl (hb hby d2_0) rfl rfl ?_
    show Steps p.tables e below (s₁.setTop (mkF m 1 #[.val (.ref a1), .val (.long q2), .second, .val (.ref a3), .val (.ref a4), .val (.ref a5), .val (.ref a6)] [(.ref a1)])) _
    refine st1 _ ?_
    show Steps p.tables e below (T1.setTop (mkF m 4 #[.val (.ref a1), .val (.long q2), .second, .val (.ref a3), .val (.ref a4), .val (.ref a5), .val (.ref a6)] [])) _
    refine XS.aloadN X1.here hx rfl (hb hby d2_4) rfl rfl ?_
    show Steps p.tables e below (T1.setTop (mkF m 5 #[.val (.ref a1), .val (.long q2), .second, .val (.ref a3), .val (.ref a4), .val (.ref a5), .val (.ref a6)] [(.ref a1)])) _
    refine XS.lloadN X1.here hx rfl (hb hby d2_5) rfl ?_
    show Steps p.tables e below (T1.setTop (mkF m 6 #[.val (.ref a1), .val (.long q2), .second, .val (.ref a3), .val (.ref a4), .val (.ref a5), .val (.ref a6)] [(.long q2), (.ref a1)])) _
    refine st2 _ ?_
    show Steps p.tables e below (T2.setTop (mkF m 9 #[.val (.ref a1), .val (.long q2), .second, .val (.ref a3), .val (.ref a4), .val (.ref a5), .val (.ref a6)] [])) _
    refine XS.aloadN X2.here hx rfl (hb hby d2_9) rfl rfl ?_
    show Steps p.tables e below (T2.setTop (mkF m 10 #[.val (.ref a1), .val (.long q2), .second, .val (.ref a3), .val (.ref a4), .val (.ref a5), .val (.ref a6)] [(.ref a1)])) _
    refine XS.aloadN X2.here hx rfl (hb hby d2_10) rfl rfl ?_
    show Steps p.tables e below (T2.setTop (mkF m 11 #[.val (.ref a1), .val (.long q2), .second, .val (.ref a3), .val (.ref a4), .val (.ref a5), .val (.ref a6)] [(.ref a3), (.ref a1)])) _
    refine st3 _ ?_
    show Steps p.tables e below (T3.setTop (mkF m 14 #[.val (.ref a1), .val (.long q2), .second, .val (.ref a3), .val (.ref a4), .val (.ref a5), .val (.ref a6)] [])) _
    refine XS.aloadN X3.here hx rfl (hb hby d2_14) rfl rfl ?_
    show Steps p.tables e below (T3.setTop (mkF m 15 #[.val (.ref a1), .val (.long q2), .second, .val (.ref a3), .val (.ref a4), .val (.ref a5), .val (.ref a6)] [(.ref a1)])) _
    refine XS.aload X3.here hx rfl (hb hby d2_15) rfl rfl ?_
    show Steps p.tables e below (T3.setTop (mkF m 17 #[.val (.ref a1), .val (.long q2), .second, .val (.ref a3), .val (.ref a4), .val (.ref a5), .val (.ref a6)] [(.ref a4), (.ref a1)])) _
    refine st6 _ ?_
    show Steps p.tables e below (T6.setTop (mkF m 20 #[.val (.ref a1), .val (.long q2), .second, .val (.ref a3), .val (.ref a4), .val (.ref a5), .val (.ref a6)] [])) _
    refine XS.aloadN X6.here hx rfl (hb hby d2_20) rfl rfl ?_
    show Steps p.tables e below (T6.setTop (mkF m 21 #[.val (.ref a1), .val (.long q2), .second, .val (.ref a3), .val (.ref a4), .val (.ref a5), .val (.ref a6)] [(.ref a1)])) _
    refine XS.aload X6.here hx rfl (hb hby d2_21) rfl rfl ?_
    show Steps p.tables e below (T6.setTop (mkF m 23 #[.val (.ref a1), .val (.long q2), .second, .val (.ref a3), .val (.ref a4), .val (.ref a5), .val (.ref a6)] [(.ref a5), (.ref a1)])) _
    refine st8 _ ?_
    show Steps p.tables e below (T8.setTop (mkF m 26 #[.val (.ref a1), .val (.long q2), .second, .val (.ref a3), .val (.ref a4), .val (.ref a5), .val (.ref a6)] [])) _
    refine XS.aloadN X8.here hx rfl (hb hby d2_26) rfl rfl ?_
    show Steps p.tables e below (T8.setTop (mkF m 27 #[.val (.ref a1), .val (.long q2), .second, .val (.ref a3), .val (.ref a4), .val (.ref a5), .val (.ref a6)] [(.ref a1)])) _
    refine XS.aload X8.here hx rfl (hb hby d2_27) rfl rfl ?_
    show Steps p.tables e below (T8.setTop (mkF m 29 #[.val (.ref a1), .val (.long q2), .second, .val (.ref a3), .val (.ref a4), .val (.ref a5), .val (.ref a6)] [(.ref a6), (.ref a1)])) _
    refine st11 _ ?_
    show Steps p.tables e below (T11.setTop (mkF m 32 #[.val (.ref a1), .val (.long q2), .second, .val (.ref a3), .val (.ref a4), .val (.ref a5), .val (.ref a6)] [])) _
    exact X11.returnOut hx Bd.returns (hb hby d2_32) hr
  · show Q_2 Z a1 q2 a3 a4 a5 a6 h0 n0 _ T11.heap _
    rw [e11]
    exact ⟨rfl, N11, Kh11, (f10.wr W11), f12⟩
theorem d1_0 : decode prog_34_method_1_code 0 = .ok (.aload_n 0, 1) := by decide +kernel
theorem d1_1 : decode prog_34_method_1_code 1 = .ok (.lload_n 1, 1) := by decide +kernel
theorem d1_2 : decode prog_34_method_1_code 2 = .ok (.aload_n 3, 1) := by decide +kernel
theorem d1_3 : decode prog_34_method_1_code 3 = .ok (.aload 4, 2) := by decide +kernel
theorem d1_5 : decode prog_34_method_1_code 5 = .ok (.iconst 1, 1) := by decide +kernel
theorem d1_6 : decode prog_34_method_1_code 6 = .ok (.newarray .int, 2) := by decide +kernel
theorem d1_8 : decode prog_34_method_1_code 8 = .ok (.dup, 1) := by decide +kernel
theorem d1_9 : decode prog_34_method_1_code 9 = .ok (.iconst 0, 1) := by decide +kernel
theorem d1_10 : decode prog_34_method_1_code 10 = .ok (.iload 5, 2) := by decide +kernel
theorem d1_12 : decode prog_34_method_1_code 12 = .ok (.iastore, 1) := by decide +kernel
theorem d1_13 : decode prog_34_method_1_code 13 = .ok (.iconst 0, 1) := by decide +kernel
theorem d1_14 : decode prog_34_method_1_code 14 = .ok (.anewarray 1, 3) := by decide +kernel
theorem d1_17 : decode prog_34_method_1_code 17 = .ok (.invokespecial 3, 3) := by decide +kernel
theorem d1_20 : decode prog_34_method_1_code 20 = .ok (.return_, 1) := by decide +kernel
theorem pd__28JLjava_2flang_2fString_3bLjava_2flang_2fString_3b_5bI_5bLjava_2flang_2fString_3b_29V : parseMethodDescriptor "(JLjava/lang/String;Ljava/lang/String;[I[Ljava/lang/String;)V" = some ⟨[.long, (.object "java/lang/String"), (.object "java/lang/String"), (.array .int), (.array (.object "java/lang/String"))], none⟩ := by decide +kernel
theorem pn_1 : plainName "com/example/sanction/sanction/service/InputRecord" = true := by first | (simp [plainName, overriddenIn]; done) | decide +kernel
theorem ef_1 (m : MethodId) (x0 : Addr) (x1 : Int64) (x2 : Addr) (x3 : Addr) (x4 : Int32) : entryFrame m #[(.ref x0), (.long x1), (.ref x2), (.ref x3), (.int x4)] 6 = mkF m 0 #[.val (.ref x0), .val (.long x1), .second, .val (.ref x2), .val (.ref x3), .val (.int x4)] [] := by first | (simp [entryFrame, mkF, argsToLocals, Value.category]; done) | rfl
def Q_1 (Z : State) (a1 : Addr) (q2 : Int64) (a3 : Addr) (a4 : Addr) (p5 : Int32) (h0 : Heap) (n0 : Nat) (v : Option Value) (h : Heap) (L : List Loc) : Prop := v = none ∧ Fr n0 L ∧ Keep h0 h [a1] ∧ Exa Z h a1 "com/example/sanction/sanction/service/InputRecord" ∧ Fld Z h a1 "com/example/sanction/sanction/service/InputRecord" "time" "J" (.long q2)
set_option maxRecDepth 65536 in
set_option maxHeartbeats 40000000 in
theorem rm_1 (l : Launch) (Z : State) (a0 : Array Value) (hw : ∀ d ∈ tables_1, d.before a0 Z = true) (ws : List Jvm.Cond) (a1 : Addr) (q2 : Int64) (a3 : Addr) (a4 : Addr) (p5 : Int32) (h0 : Heap) (n0 : Nat) (Z0 : n0 ≤ h0.size) (E_a1 : Exa Z h0 a1 "com/example/sanction/sanction/service/InputRecord") (g_a1 : n0 ≤ a1) (F_time : Fld Z h0 a1 "com/example/sanction/sanction/service/InputRecord" "time" "J" (.long (0 : Int64))) (F_widget : Fld Z h0 a1 "com/example/sanction/sanction/service/InputRecord" "widget" "Ljava/lang/String;" .null) (F_context : Fld Z h0 a1 "com/example/sanction/sanction/service/InputRecord" "context" "Ljava/lang/String;" .null) (F_path : Fld Z h0 a1 "com/example/sanction/sanction/service/InputRecord" "path" "[I" .null) (F_passedBy : Fld Z h0 a1 "com/example/sanction/sanction/service/InputRecord" "passedBy" "[Ljava/lang/String;" .null) :
    MetFree l (⟨"com/example/sanction/sanction/service/InputRecord", "<init>", "(JLjava/lang/String;Ljava/lang/String;I)V"⟩ : MethodName) (head1 (Jvm.Cond.code (⟨"com/example/sanction/sanction/service/InputRecord", "<init>", "(JLjava/lang/String;Ljava/lang/String;I)V"⟩ : MethodName) prog_34_method_1_code 6 none :: ws) ({ frames := 2, cells := 2, slots := 1, locals := 30 } : Room)) (fun a U => a = #[(.ref a1), (.long q2), (.ref a3), (.ref a4), (.int p5)] ∧ Z.Warmed39 U.vm ∧ U.heap = h0) (fun _ _ _ _ _ => True) (fun _ U o U' => ∃ v L, o = .returned v ∧ Q_1 Z a1 q2 a3 a4 p5 h0 n0 v U'.heap L ∧ FrameEnd U o U' L ({ frames := 2, cells := 2, slots := 1, locals := 30 } : Room).cells ({ frames := 2, cells := 2, slots := 1, locals := 30 } : Room).slots) := by
  refine MetFree.of_bodySF (plainFor_of_name pn_1) hisR ?_
  intro p e s m args below meth cod_ s₁ Bd hml0 hP hK
  obtain ⟨rfl, hZ, hh⟩ := hP
  have hx := Bd.exec
  have hby := Bd.bytes
  have hml : cod_.maxLocals = 6 := hml0
  have hown : s.vm.findClass "com/example/sanction/sanction/service/InputRecord" = some m.cls := findClass_of_methodNamed Bd.named
  have hnm := (name_of_methodNamed Bd.named Bd.method).1
  have X0 : Stand p l e ({ frames := 2, cells := 2, slots := 1, locals := 30 } : Room) s m #[(.ref a1), (.long q2), (.ref a3), (.ref a4), (.int p5)] below meth cod_ s₁ [] 0 0 := Stand.of_body Bd
  have e0 : s₁.heap = h0 := by rw [← hh, Bd.state]; rfl
  have N0 := Fr.nil n0
  have pre0 : ∀ t, Steps p.tables e below (s₁.setTop (mkF m 0 #[.val (.ref a1), .val (.long q2), .second, .val (.ref a3), .val (.ref a4), .val (.int p5)] [])) t → Steps p.tables e below (s₁.setTop (entryFrame m #[(.ref a1), (.long q2), (.ref a3), (.ref a4), (.int p5)] 6)) t := fun t k => castTop (ef_1 m a1 q2 a3 a4 p5) k
  obtain ⟨T13, h13, k13, X13, e13, E13, A13, st13⟩ := newP X0 hx hZ (hw _ (List.mem_of_getElem? (i := 15) rfl)) e0 (g := (mkF m 6 #[.val (.ref a1), .val (.long q2), .second, .val (.ref a3), .val (.ref a4), .val (.int p5)] [(.int (1 : Int32)), (.ref a4), (.ref a3), (.long q2), (.ref a1)])) rfl (hb hby d1_6) rfl (by decide) (cap := 1) (by decide) (by decide) (by decide) (by decide)
  obtain ⟨b13, g13⟩ : ∃ z, z = h0.size := ⟨_, rfl⟩
  rw [← g13] at A13 st13
  have g_b13 : n0 ≤ b13 := Nat.le_trans (Nat.le_trans Z0 (Keep.refl h0 [a1]).1) (Nat.le_of_eq g13.symm)
  have sz_b13 : h0.size ≤ b13 := Nat.le_trans (Keep.refl h0 [a1]).1 (Nat.le_of_eq g13.symm)
  have ne_a1_b13 : a1 ≠ b13 := Nat.ne_of_lt (Nat.lt_of_lt_of_le E_a1.lt (Nat.le_of_eq g13.symm))
  have Kh13 : Keep h0 h13 [a1] := (Keep.refl h0 [a1]).ext E13
  have V_b13 : Arv Z h13 b13 k13 .int (1 : Int32) [(.int (0 : Int32))] (.int (0 : Int32)) := (Arv.new A13 (by decide)).pad (pad_rep [] (.int (0 : Int32)) 1)
  obtain ⟨cl14, Ar14, q14, S14, M14, H14, G14⟩ := V_b13
  have hin14 : ¬ ((0 : Int32) < 0 ∨ cl14.slots.size ≤ ((0 : Int32)).toNatClampNeg) := inb_of S14 ⟨by decide, by decide⟩
  obtain ⟨T14, h14, X14, e14, W14, st14⟩ := stI X13 hx hZ e13 Ar14 (j := (0 : Int32)) hin14 (g := (mkF m 12 #[.val (.ref a1), .val (.long q2), .second, .val (.ref a3), .val (.ref a4), .val (.int p5)] [(.int p5), (.int (0 : Int32)), (.ref b13), (.ref b13), (.ref a4), (.ref a3), (.long q2), (.ref a1)])) rfl rfl (hb hby d1_12)
  have V14 : Arv Z h14 b13 k13 .int (1 : Int32) [(.int p5)] (.int (0 : Int32)) := Arv.set Ar14 q14 S14 M14 H14 G14 rfl W14 0 rfl (Nat.le_of_ble_eq_true rfl)
  have Kh14 : Keep h0 h14 [a1] := Kh13.wr W14 (Or.inr sz_b13)
  have N14 := Fr.snoc X14 N0 g_b13
  obtain ⟨T15, h15, k15, X15, e15, E15, A15, O15, st15⟩ := newR X14 hx hZ hown (hw _ (List.mem_of_getElem? (i := 16) rfl)) (hw _ (List.mem_of_getElem? (i := 17) rfl)) e14 (g := (mkF m 14 #[.val (.ref a1), .val (.long q2), .second, .val (.ref a3), .val (.ref a4), .val (.int p5)] [(.int (0 : Int32)), (.ref b13), (.ref a4), (.ref a3), (.long q2), (.ref a1)])) rfl (hb hby d1_14) rfl (by decide) (cap := 0) (by decide) (by decide) (by decide) (by decide)
  obtain ⟨b15, g15⟩ : ∃ z, z = h14.size := ⟨_, rfl⟩
  rw [← g15] at A15 st15
  have g_b15 : n0 ≤ b15 := Nat.le_trans (Nat.le_trans Z0 Kh14.1) (Nat.le_of_eq g15.symm)
  have sz_b15 : h0.size ≤ b15 := Nat.le_trans Kh14.1 (Nat.le_of_eq g15.symm)
  have ne_a1_b15 : a1 ≠ b15 := Nat.ne_of_lt (Nat.lt_of_lt_of_le ((E_a1.ext E13).wr W14).lt (Nat.le_of_eq g15.symm))
  have ne_b13_b15 : b13 ≠ b15 := Nat.ne_of_lt (Nat.lt_of_lt_of_le V14.lt (Nat.le_of_eq g15.symm))
  have Kh15 : Keep h0 h15 [a1] := Kh14.ext E15
  have V_b15 : Arv Z h15 b15 k15 (.object "java/lang/String") (0 : Int32) [] .null := Arv.new A15 (by decide)
  have f16 := (((E_a1.ext E13).wr W14).ext E15)
  have f17 := (((F_time.ext E13).other W14 (Or.inl ne_a1_b13)).ext E15)
  have f18 := (((F_widget.ext E13).other W14 (Or.inl ne_a1_b13)).ext E15)
  have f19 := (((F_context.ext E13).other W14 (Or.inl ne_a1_b13)).ext E15)
  have f20 := (((F_path.ext E13).other W14 (Or.inl ne_a1_b13)).ext E15)
  have f21 := (((F_passedBy.ext E13).other W14 (Or.inl ne_a1_b13)).ext E15)
  obtain ⟨_, _, ⟨T22, L22, c22_, n22_⟩, -, X22, ⟨Lc22, hQ22, l22, y22, z22⟩, st22⟩ := X15.specialBack hx (y := (⟨"com/example/sanction/sanction/service/InputRecord", "<init>", "(JLjava/lang/String;Ljava/lang/String;[I[Ljava/lang/String;)V"⟩ : MethodName)) rfl hown (mvT hZ (hw _ (List.mem_of_getElem? (i := 18) rfl))) (mvT hZ (hw _ (List.mem_of_getElem? (i := 19) rfl))) (mvT hZ (hw _ (List.mem_of_getElem? (i := 20) rfl))) (by decide) (backOf (W := 0) (rm_2 l Z a0 hw [] a1 q2 a3 a4 b13 b15 h15 n0 (Nat.le_trans Z0 Kh15.1) f16 g_a1 f17 f18 f19 f20 f21) hZ (hw _ (List.mem_of_getElem? (i := 20) rfl)) (hw _ (List.mem_of_getElem? (i := 2) rfl)) (by decide) (by decide)) (g := (mkF m 17 #[.val (.ref a1), .val (.long q2), .second, .val (.ref a3), .val (.ref a4), .val (.int p5)] [(.ref b15), (.ref b13), (.ref a4), (.ref a3), (.long q2), (.ref a1)])) rfl (by rw [hml]; rfl) (Steps.refl _) (a := a1) (argsL := [(.long q2), (.ref a3), (.ref a4), (.ref b13), (.ref b15)]) (rest := []) (lenOf pd__28JLjava_2flang_2fString_3bLjava_2flang_2fString_3b_5bI_5bLjava_2flang_2fString_3b_29V rfl) rfl (by show 2 * 0 + _ ≤ _; exact Nat.le_of_eq rfl) (hb hby d1_17) (fun _ _ => ⟨rfl, e15, (by decide : 2 + 0 ≤ _), (by decide : 1 + 0 ≤ _)⟩)
  dsimp only [Pt.U, Pt.locs, Pt.cells, Pt.slots] at X22 l22 y22 z22 st22 hQ22
  subst l22 y22 z22
  obtain ⟨rfl, Nq22, K22, Ee22, Ft22⟩ := hQ22
  have N22 := Fr.app N14 Nq22
  have Kh22 : Keep h0 T22.heap [a1] := Kh15.trans K22 (allS (Or.inl (List.mem_of_getElem? (i := 0) rfl)) all0)
  obtain ⟨fs, hr, hrun, hended, hW, hsame⟩ := X22.leave (v := none) (fun _ => rfl)
  refine ⟨_, _, pre0 _ ?_, hrun, hended, _, _, rfl, ?_, ⟨_, rfl⟩, hW, hsame.mono (by decide) (by decide)⟩
  · show Steps p.tables e below (s₁.setTop (mkF m 0 #[.val (.ref a1), .val (.long q2), .second, .val (.ref a3), .val (.ref a4), .val (.int p5)] [])) _
    refine XS.aloadN X0.here hx rfl (hb hby d1_0) rfl rfl ?_
    show Steps p.tables e below (s₁.setTop (mkF m 1 #[.val (.ref a1), .val (.long q2), .second, .val (.ref a3), .val (.ref a4), .val (.int p5)] [(.ref a1)])) _
    refine XS.lloadN X0.here hx rfl (hb hby d1_1) rfl ?_
    show Steps p.tables e below (s₁.setTop (mkF m 2 #[.val (.ref a1), .val (.long q2), .second, .val (.ref a3), .val (.ref a4), .val (.int p5)] [(.long q2), (.ref a1)])) _
    refine XS.aloadN X0.here hx rfl (hb hby d1_2) rfl rfl ?_
    show Steps p.tables e below (s₁.setTop (mkF m 3 #[.val (.ref a1), .val (.long q2), .second, .val (.ref a3), .val (.ref a4), .val (.int p5)] [(.ref a3), (.long q2), (.ref a1)])) _
    refine XS.aload X0.here hx rfl (hb hby d1_3) rfl rfl ?_
    show Steps p.tables e below (s₁.setTop (mkF m 5 #[.val (.ref a1), .val (.long q2), .second, .val (.ref a3), .val (.ref a4), .val (.int p5)] [(.ref a4), (.ref a3), (.long q2), (.ref a1)])) _
    refine XS.iconst X0.here hx rfl (hb hby d1_5) ?_
    show Steps p.tables e below (s₁.setTop (mkF m 6 #[.val (.ref a1), .val (.long q2), .second, .val (.ref a3), .val (.ref a4), .val (.int p5)] [(.int (1 : Int32)), (.ref a4), (.ref a3), (.long q2), (.ref a1)])) _
    refine st13 _ ?_
    show Steps p.tables e below (T13.setTop (mkF m 8 #[.val (.ref a1), .val (.long q2), .second, .val (.ref a3), .val (.ref a4), .val (.int p5)] [(.ref b13), (.ref a4), (.ref a3), (.long q2), (.ref a1)])) _
    refine XS.dup X13.here hx rfl (hb hby d1_8) rfl rfl ?_
    show Steps p.tables e below (T13.setTop (mkF m 9 #[.val (.ref a1), .val (.long q2), .second, .val (.ref a3), .val (.ref a4), .val (.int p5)] [(.ref b13), (.ref b13), (.ref a4), (.ref a3), (.long q2), (.ref a1)])) _
    refine XS.iconst X13.here hx rfl (hb hby d1_9) ?_
    show Steps p.tables e below (T13.setTop (mkF m 10 #[.val (.ref a1), .val (.long q2), .second, .val (.ref a3), .val (.ref a4), .val (.int p5)] [(.int (0 : Int32)), (.ref b13), (.ref b13), (.ref a4), (.ref a3), (.long q2), (.ref a1)])) _
    refine XS.iload X13.here hx rfl (hb hby d1_10) rfl ?_
    show Steps p.tables e below (T13.setTop (mkF m 12 #[.val (.ref a1), .val (.long q2), .second, .val (.ref a3), .val (.ref a4), .val (.int p5)] [(.int p5), (.int (0 : Int32)), (.ref b13), (.ref b13), (.ref a4), (.ref a3), (.long q2), (.ref a1)])) _
    refine st14 _ ?_
    show Steps p.tables e below (T14.setTop (mkF m 13 #[.val (.ref a1), .val (.long q2), .second, .val (.ref a3), .val (.ref a4), .val (.int p5)] [(.ref b13), (.ref a4), (.ref a3), (.long q2), (.ref a1)])) _
    refine XS.iconst X14.here hx rfl (hb hby d1_13) ?_
    show Steps p.tables e below (T14.setTop (mkF m 14 #[.val (.ref a1), .val (.long q2), .second, .val (.ref a3), .val (.ref a4), .val (.int p5)] [(.int (0 : Int32)), (.ref b13), (.ref a4), (.ref a3), (.long q2), (.ref a1)])) _
    refine st15 _ ?_
    show Steps p.tables e below (T15.setTop (mkF m 17 #[.val (.ref a1), .val (.long q2), .second, .val (.ref a3), .val (.ref a4), .val (.int p5)] [(.ref b15), (.ref b13), (.ref a4), (.ref a3), (.long q2), (.ref a1)])) _
    refine st22.trans ?_
    show Steps p.tables e below (T22.setTop (mkF m 20 #[.val (.ref a1), .val (.long q2), .second, .val (.ref a3), .val (.ref a4), .val (.int p5)] [])) _
    exact X22.returnOut hx Bd.returns (hb hby d1_20) hr
  · show Q_1 Z a1 q2 a3 a4 p5 h0 n0 _ T22.heap _
    exact ⟨rfl, N22, Kh22, Ee22, Ft22⟩
theorem d4_0 : decode prog_34_method_8_code 0 = .ok (.aload_n 1, 1) := by decide +kernel
theorem d4_1 : decode prog_34_method_8_code 1 = .ok (.ifnull 15, 3) := by decide +kernel
theorem d4_4 : decode prog_34_method_8_code 4 = .ok (.aload_n 0, 1) := by decide +kernel
theorem d4_5 : decode prog_34_method_8_code 5 = .ok (.getfield 14, 3) := by decide +kernel
theorem d4_8 : decode prog_34_method_8_code 8 = .ok (.aload_n 1, 1) := by decide +kernel
theorem d4_9 : decode prog_34_method_8_code 9 = .ok (.getfield 14, 3) := by decide +kernel
theorem d4_12 : decode prog_34_method_8_code 12 = .ok (.lcmp, 1) := by decide +kernel
theorem d4_13 : decode prog_34_method_8_code 13 = .ok (.ifCond .le 7, 3) := by decide +kernel
theorem d4_16 : decode prog_34_method_8_code 16 = .ok (.iconst 1, 1) := by decide +kernel
theorem d4_17 : decode prog_34_method_8_code 17 = .ok (.goto 4, 3) := by decide +kernel
theorem d4_20 : decode prog_34_method_8_code 20 = .ok (.iconst 0, 1) := by decide +kernel
theorem d4_21 : decode prog_34_method_8_code 21 = .ok (.ireturn, 1) := by decide +kernel
theorem pn_4 : plainName "com/example/sanction/sanction/service/InputRecord" = true := by first | (simp [plainName, overriddenIn]; done) | decide +kernel
theorem ef_4 (m : MethodId) (x0 : Addr) (x1 : Addr) : entryFrame m #[(.ref x0), (.ref x1)] 2 = mkF m 0 #[.val (.ref x0), .val (.ref x1)] [] := by first | (simp [entryFrame, mkF, argsToLocals, Value.category]; done) | rfl
def Q_4 (Z : State) (a1 : Addr) (a2 : Addr) (x y : Int64) (h0 : Heap) (n0 : Nat) (v : Option Value) (h : Heap) (L : List Loc) : Prop := v = some (.int (if y < x then (1 : Int32) else (0 : Int32))) ∧ Fr n0 L ∧ h = h0
set_option maxRecDepth 65536 in
set_option maxHeartbeats 40000000 in
theorem rm_4 (l : Launch) (Z : State) (a0 : Array Value) (hw : ∀ d ∈ tables_1, d.before a0 Z = true) (ws : List Jvm.Cond) (a1 : Addr) (a2 : Addr) (x y : Int64) (h0 : Heap) (n0 : Nat) (Z0 : n0 ≤ h0.size) (F_x : Fld Z h0 a1 "com/example/sanction/sanction/service/InputRecord" "time" "J" (.long x)) (F_y : Fld Z h0 a2 "com/example/sanction/sanction/service/InputRecord" "time" "J" (.long y)) :
    MetFree l (⟨"com/example/sanction/sanction/service/InputRecord", "isNewerThan", "(Lcom/example/sanction/sanction/service/InputRecord;)Z"⟩ : MethodName) (head1 (Jvm.Cond.code (⟨"com/example/sanction/sanction/service/InputRecord", "isNewerThan", "(Lcom/example/sanction/sanction/service/InputRecord;)Z"⟩ : MethodName) prog_34_method_8_code 2 (some .boolean) :: ws) ({ frames := 0, cells := 0, slots := 0, locals := 0 } : Room)) (fun a U => a = #[(.ref a1), (.ref a2)] ∧ Z.Warmed39 U.vm ∧ U.heap = h0) (fun _ _ _ _ _ => True) (fun _ U o U' => ∃ v L, o = .returned v ∧ Q_4 Z a1 a2 x y h0 n0 v U'.heap L ∧ FrameEnd U o U' L ({ frames := 0, cells := 0, slots := 0, locals := 0 } : Room).cells ({ frames := 0, cells := 0, slots := 0, locals := 0 } : Room).slots) := by
  refine MetFree.of_bodySF (plainFor_of_name pn_4) hisR ?_
  intro p e s m args below meth cod_ s₁ Bd hml0 hP hK
  obtain ⟨rfl, hZ, hh⟩ := hP
  have hx := Bd.exec
  have hby := Bd.bytes
  have hml : cod_.maxLocals = 2 := hml0
  have hown : s.vm.findClass "com/example/sanction/sanction/service/InputRecord" = some m.cls := findClass_of_methodNamed Bd.named
  have hnm := (name_of_methodNamed Bd.named Bd.method).1
  have X0 : Stand p l e ({ frames := 0, cells := 0, slots := 0, locals := 0 } : Room) s m #[(.ref a1), (.ref a2)] below meth cod_ s₁ [] 0 0 := Stand.of_body Bd
  have e0 : s₁.heap = h0 := by rw [← hh, Bd.state]; rfl
  have N0 := Fr.nil n0
  have pre0 : ∀ t, Steps p.tables e below (s₁.setTop (mkF m 0 #[.val (.ref a1), .val (.ref a2)] [])) t → Steps p.tables e below (s₁.setTop (entryFrame m #[(.ref a1), (.ref a2)] 2)) t := fun t k => castTop (ef_4 m a1 a2) k
  obtain ⟨T23, X23, e23, st23⟩ := getF X0 hx hZ hown (host := "") (Or.inl (hw _ (List.mem_of_getElem? (i := 24) rfl))) Via.refl e0 F_x (g := (mkF m 5 #[.val (.ref a1), .val (.ref a2)] [(.ref a1)])) rfl rfl (hb hby d4_5)
  obtain ⟨T24, X24, e24, st24⟩ := getF X23 hx hZ hown (host := "") (Or.inl (hw _ (List.mem_of_getElem? (i := 24) rfl))) Via.refl e23 F_y (g := (mkF m 9 #[.val (.ref a1), .val (.ref a2)] [(.ref a2), (.long x)])) rfl rfl (hb hby d4_9)
  by_cases hc13 : y < x
  · obtain ⟨fs, hr, hrun, hended, hW, hsame⟩ := X24.leave (v := some (.int (1 : Int32))) (fun h => by rw [Bd.returns] at h; cases h)
    refine ⟨_, _, pre0 _ ?_, hrun, hended, _, _, rfl, ?_, ⟨_, rfl⟩, hW, hsame.mono (by decide) (by decide)⟩
    · show Steps p.tables e below (s₁.setTop (mkF m 0 #[.val (.ref a1), .val (.ref a2)] [])) _
      refine XS.aloadN X0.here hx rfl (hb hby d4_0) rfl rfl ?_
      show Steps p.tables e below (s₁.setTop (mkF m 1 #[.val (.ref a1), .val (.ref a2)] [(.ref a2)])) _
      refine XS.ifnullNo X0.here hx rfl (hb hby d4_1) rfl ?_
      show Steps p.tables e below (s₁.setTop (mkF m 4 #[.val (.ref a1), .val (.ref a2)] [])) _
      refine XS.aloadN X0.here hx rfl (hb hby d4_4) rfl rfl ?_
      show Steps p.tables e below (s₁.setTop (mkF m 5 #[.val (.ref a1), .val (.ref a2)] [(.ref a1)])) _
      refine st23 _ ?_
      show Steps p.tables e below (T23.setTop (mkF m 8 #[.val (.ref a1), .val (.ref a2)] [(.long x)])) _
      refine XS.aloadN X23.here hx rfl (hb hby d4_8) rfl rfl ?_
      show Steps p.tables e below (T23.setTop (mkF m 9 #[.val (.ref a1), .val (.ref a2)] [(.ref a2), (.long x)])) _
      refine st24 _ ?_
      show Steps p.tables e below (T24.setTop (mkF m 12 #[.val (.ref a1), .val (.ref a2)] [(.long y), (.long x)])) _
      refine XS.lcmp X24.here hx rfl (hb hby d4_12) rfl ?_
      show Steps p.tables e below (T24.setTop (mkF m 13 #[.val (.ref a1), .val (.ref a2)] [(.int (lcmpW x y))])) _
      refine XS.ifNo X24.here hx rfl (hb hby d4_13) rfl ((if0 _ _).trans (tlt ((lw_gt _ _).mpr hc13)).2.2.2) ?_
      show Steps p.tables e below (T24.setTop (mkF m 16 #[.val (.ref a1), .val (.ref a2)] [])) _
      refine XS.iconst X24.here hx rfl (hb hby d4_16) ?_
      show Steps p.tables e below (T24.setTop (mkF m 17 #[.val (.ref a1), .val (.ref a2)] [(.int (1 : Int32))])) _
      refine XS.goto X24.here hx rfl (pc0 := 17) (pc' := 21) rfl (hb hby d4_17) (by decide) (by decide) ?_
      show Steps p.tables e below (T24.setTop (mkF m 21 #[.val (.ref a1), .val (.ref a2)] [(.int (1 : Int32))])) _
      exact retN X24 hx (t := .boolean) Bd.returns (by simp) (hb hby d4_21) hr
    · show Q_4 Z a1 a2 x y h0 n0 _ T24.heap _
      rw [e24]
      exact ⟨by simp [hc13], N0, rfl⟩
  · obtain ⟨fs, hr, hrun, hended, hW, hsame⟩ := X24.leave (v := some (.int (0 : Int32))) (fun h => by rw [Bd.returns] at h; cases h)
    refine ⟨_, _, pre0 _ ?_, hrun, hended, _, _, rfl, ?_, ⟨_, rfl⟩, hW, hsame.mono (by decide) (by decide)⟩
    · show Steps p.tables e below (s₁.setTop (mkF m 0 #[.val (.ref a1), .val (.ref a2)] [])) _
      refine XS.aloadN X0.here hx rfl (hb hby d4_0) rfl rfl ?_
      show Steps p.tables e below (s₁.setTop (mkF m 1 #[.val (.ref a1), .val (.ref a2)] [(.ref a2)])) _
      refine XS.ifnullNo X0.here hx rfl (hb hby d4_1) rfl ?_
      show Steps p.tables e below (s₁.setTop (mkF m 4 #[.val (.ref a1), .val (.ref a2)] [])) _
      refine XS.aloadN X0.here hx rfl (hb hby d4_4) rfl rfl ?_
      show Steps p.tables e below (s₁.setTop (mkF m 5 #[.val (.ref a1), .val (.ref a2)] [(.ref a1)])) _
      refine st23 _ ?_
      show Steps p.tables e below (T23.setTop (mkF m 8 #[.val (.ref a1), .val (.ref a2)] [(.long x)])) _
      refine XS.aloadN X23.here hx rfl (hb hby d4_8) rfl rfl ?_
      show Steps p.tables e below (T23.setTop (mkF m 9 #[.val (.ref a1), .val (.ref a2)] [(.ref a2), (.long x)])) _
      refine st24 _ ?_
      show Steps p.tables e below (T24.setTop (mkF m 12 #[.val (.ref a1), .val (.ref a2)] [(.long y), (.long x)])) _
      refine XS.lcmp X24.here hx rfl (hb hby d4_12) rfl ?_
      show Steps p.tables e below (T24.setTop (mkF m 13 #[.val (.ref a1), .val (.ref a2)] [(.int (lcmpW x y))])) _
      refine XS.ifYes X24.here hx rfl (pc0 := 13) (pc' := 20) rfl (hb hby d4_13) rfl ((if0 _ _).trans (flt (fun q_ => hc13 ((lw_gt _ _).mp q_))).2.2.2) (by decide) (by decide) ?_
      show Steps p.tables e below (T24.setTop (mkF m 20 #[.val (.ref a1), .val (.ref a2)] [])) _
      refine XS.iconst X24.here hx rfl (hb hby d4_20) ?_
      show Steps p.tables e below (T24.setTop (mkF m 21 #[.val (.ref a1), .val (.ref a2)] [(.int (0 : Int32))])) _
      exact retN X24 hx (t := .boolean) Bd.returns (by simp) (hb hby d4_21) hr
    · show Q_4 Z a1 a2 x y h0 n0 _ T24.heap _
      rw [e24]
      exact ⟨by simp [hc13], N0, rfl⟩
theorem ef_4n1 (m : MethodId) (x0 : Addr) : entryFrame m #[(.ref x0), .null] 2 = mkF m 0 #[.val (.ref x0), .val .null] [] := by first | (simp [entryFrame, mkF, argsToLocals, Value.category]; done) | rfl
def Q_4n (Z : State) (a1 : Addr) (h0 : Heap) (n0 : Nat) (v : Option Value) (h : Heap) (L : List Loc) : Prop := v = some (.int 1) ∧ Fr n0 L ∧ h = h0
set_option maxRecDepth 65536 in
set_option maxHeartbeats 40000000 in
theorem rm_4n (l : Launch) (Z : State) (a0 : Array Value) (hw : ∀ d ∈ tables_1, d.before a0 Z = true) (ws : List Jvm.Cond) (a1 : Addr) (h0 : Heap) (n0 : Nat) (Z0 : n0 ≤ h0.size) :
    MetFree l (⟨"com/example/sanction/sanction/service/InputRecord", "isNewerThan", "(Lcom/example/sanction/sanction/service/InputRecord;)Z"⟩ : MethodName) (head1 (Jvm.Cond.code (⟨"com/example/sanction/sanction/service/InputRecord", "isNewerThan", "(Lcom/example/sanction/sanction/service/InputRecord;)Z"⟩ : MethodName) prog_34_method_8_code 2 (some .boolean) :: ws) ({ frames := 0, cells := 0, slots := 0, locals := 0 } : Room)) (fun a U => a = #[(.ref a1), .null] ∧ Z.Warmed39 U.vm ∧ U.heap = h0) (fun _ _ _ _ _ => True) (fun _ U o U' => ∃ v L, o = .returned v ∧ Q_4n Z a1 h0 n0 v U'.heap L ∧ FrameEnd U o U' L ({ frames := 0, cells := 0, slots := 0, locals := 0 } : Room).cells ({ frames := 0, cells := 0, slots := 0, locals := 0 } : Room).slots) := by
  refine MetFree.of_bodySF (plainFor_of_name pn_4) hisR ?_
  intro p e s m args below meth cod_ s₁ Bd hml0 hP hK
  obtain ⟨rfl, hZ, hh⟩ := hP
  have hx := Bd.exec
  have hby := Bd.bytes
  have hml : cod_.maxLocals = 2 := hml0
  have hown : s.vm.findClass "com/example/sanction/sanction/service/InputRecord" = some m.cls := findClass_of_methodNamed Bd.named
  have hnm := (name_of_methodNamed Bd.named Bd.method).1
  have X0 : Stand p l e ({ frames := 0, cells := 0, slots := 0, locals := 0 } : Room) s m #[(.ref a1), .null] below meth cod_ s₁ [] 0 0 := Stand.of_body Bd
  have e0 : s₁.heap = h0 := by rw [← hh, Bd.state]; rfl
  have N0 := Fr.nil n0
  have pre0 : ∀ t, Steps p.tables e below (s₁.setTop (mkF m 0 #[.val (.ref a1), .val .null] [])) t → Steps p.tables e below (s₁.setTop (entryFrame m #[(.ref a1), .null] 2)) t := fun t k => castTop (ef_4n1 m a1) k
  obtain ⟨fs, hr, hrun, hended, hW, hsame⟩ := X0.leave (v := some (.int (1 : Int32))) (fun h => by rw [Bd.returns] at h; cases h)
  refine ⟨_, _, pre0 _ ?_, hrun, hended, _, _, rfl, ?_, ⟨_, rfl⟩, hW, hsame.mono (by decide) (by decide)⟩
  · show Steps p.tables e below (s₁.setTop (mkF m 0 #[.val (.ref a1), .val .null] [])) _
    refine XS.aloadN X0.here hx rfl (hb hby d4_0) rfl rfl ?_
    show Steps p.tables e below (s₁.setTop (mkF m 1 #[.val (.ref a1), .val .null] [.null])) _
    refine XS.ifnullYes X0.here hx rfl (pc0 := 1) (pc' := 16) rfl (hb hby d4_1) rfl (by decide) (by decide) ?_
    show Steps p.tables e below (s₁.setTop (mkF m 16 #[.val (.ref a1), .val .null] [])) _
    refine XS.iconst X0.here hx rfl (hb hby d4_16) ?_
    show Steps p.tables e below (s₁.setTop (mkF m 17 #[.val (.ref a1), .val .null] [(.int (1 : Int32))])) _
    refine XS.goto X0.here hx rfl (pc0 := 17) (pc' := 21) rfl (hb hby d4_17) (by decide) (by decide) ?_
    show Steps p.tables e below (s₁.setTop (mkF m 21 #[.val (.ref a1), .val .null] [(.int (1 : Int32))])) _
    exact retN X0 hx (t := .boolean) Bd.returns (by simp) (hb hby d4_21) hr
  · show Q_4n Z a1 h0 n0 _ s₁.heap _
    rw [e0]
    exact ⟨rfl, N0, rfl⟩
theorem d5_0 : decode jdk_29_method_66_code 0 = .ok (.lload_n 0, 1) := by decide +kernel
theorem d5_1 : decode jdk_29_method_66_code 1 = .ok (.lload_n 2, 1) := by decide +kernel
theorem d5_2 : decode jdk_29_method_66_code 2 = .ok (.lcmp, 1) := by decide +kernel
theorem d5_3 : decode jdk_29_method_66_code 3 = .ok (.ifCond .lt 7, 3) := by decide +kernel
theorem d5_6 : decode jdk_29_method_66_code 6 = .ok (.lload_n 0, 1) := by decide +kernel
theorem d5_7 : decode jdk_29_method_66_code 7 = .ok (.goto 4, 3) := by decide +kernel
theorem d5_10 : decode jdk_29_method_66_code 10 = .ok (.lload_n 2, 1) := by decide +kernel
theorem d5_11 : decode jdk_29_method_66_code 11 = .ok (.lreturn, 1) := by decide +kernel
theorem ef_5 (m : MethodId) (x0 : Int64) (x1 : Int64) : entryFrame m #[(.long x0), (.long x1)] 4 = mkF m 0 #[.val (.long x0), .second, .val (.long x1), .second] [] := by first | (simp [entryFrame, mkF, argsToLocals, Value.category]; done) | rfl
def Q_5 (Z : State) (q1 : Int64) (q2 : Int64) (h0 : Heap) (n0 : Nat) (v : Option Value) (h : Heap) (L : List Loc) : Prop := v = some (.long (if q1 < q2 then q2 else q1)) ∧ Fr n0 L ∧ h = h0
set_option maxRecDepth 65536 in
set_option maxHeartbeats 40000000 in
theorem rm_5 (l : Launch) (Z : State) (a0 : Array Value) (hw : ∀ d ∈ tables_1, d.before a0 Z = true) (ws : List Jvm.Cond) (q1 : Int64) (q2 : Int64) (h0 : Heap) (n0 : Nat) (Z0 : n0 ≤ h0.size) :
    MetFree l (⟨"java/lang/Math", "max", "(JJ)J"⟩ : MethodName) (head1 (Jvm.Cond.code (⟨"java/lang/Math", "max", "(JJ)J"⟩ : MethodName) jdk_29_method_66_code 4 (some .long) :: ws) ({ frames := 0, cells := 0, slots := 0, locals := 0 } : Room)) (fun a U => a = #[(.long q1), (.long q2)] ∧ Z.Warmed39 U.vm ∧ U.heap = h0) (fun _ _ _ _ _ => True) (fun _ U o U' => ∃ v L, o = .returned v ∧ Q_5 Z q1 q2 h0 n0 v U'.heap L ∧ FrameEnd U o U' L ({ frames := 0, cells := 0, slots := 0, locals := 0 } : Room).cells ({ frames := 0, cells := 0, slots := 0, locals := 0 } : Room).slots) := by
  refine MetFree.of_bodySF (Jvm.Free.JP.mathPlain rfl (by decide +kernel)) hisR ?_
  intro p e s m args below meth cod_ s₁ Bd hml0 hP hK
  obtain ⟨rfl, hZ, hh⟩ := hP
  have hx := Bd.exec
  have hby := Bd.bytes
  have hml : cod_.maxLocals = 4 := hml0
  have hown : s.vm.findClass "java/lang/Math" = some m.cls := findClass_of_methodNamed Bd.named
  have hnm := (name_of_methodNamed Bd.named Bd.method).1
  have X0 : Stand p l e ({ frames := 0, cells := 0, slots := 0, locals := 0 } : Room) s m #[(.long q1), (.long q2)] below meth cod_ s₁ [] 0 0 := Stand.of_body Bd
  have e0 : s₁.heap = h0 := by rw [← hh, Bd.state]; rfl
  have N0 := Fr.nil n0
  have pre0 : ∀ t, Steps p.tables e below (s₁.setTop (mkF m 0 #[.val (.long q1), .second, .val (.long q2), .second] [])) t → Steps p.tables e below (s₁.setTop (entryFrame m #[(.long q1), (.long q2)] 4)) t := fun t k => castTop (ef_5 m q1 q2) k
  by_cases hc3 : q1 < q2
  · obtain ⟨fs, hr, hrun, hended, hW, hsame⟩ := X0.leave (v := some (.long q2)) (fun h => by rw [Bd.returns] at h; cases h)
    refine ⟨_, _, pre0 _ ?_, hrun, hended, _, _, rfl, ?_, ⟨_, rfl⟩, hW, hsame.mono (by decide) (by decide)⟩
    · show Steps p.tables e below (s₁.setTop (mkF m 0 #[.val (.long q1), .second, .val (.long q2), .second] [])) _
      refine XS.lloadN X0.here hx rfl (hb hby d5_0) rfl ?_
      show Steps p.tables e below (s₁.setTop (mkF m 1 #[.val (.long q1), .second, .val (.long q2), .second] [(.long q1)])) _
      refine XS.lloadN X0.here hx rfl (hb hby d5_1) rfl ?_
      show Steps p.tables e below (s₁.setTop (mkF m 2 #[.val (.long q1), .second, .val (.long q2), .second] [(.long q2), (.long q1)])) _
      refine XS.lcmp X0.here hx rfl (hb hby d5_2) rfl ?_
      show Steps p.tables e below (s₁.setTop (mkF m 3 #[.val (.long q1), .second, .val (.long q2), .second] [(.int (lcmpW q1 q2))])) _
      refine XS.ifYes X0.here hx rfl (pc0 := 3) (pc' := 10) rfl (hb hby d5_3) rfl ((if0 _ _).trans (tlt ((lw_lt _ _).mpr hc3)).1) (by decide) (by decide) ?_
      show Steps p.tables e below (s₁.setTop (mkF m 10 #[.val (.long q1), .second, .val (.long q2), .second] [])) _
      refine XS.lloadN X0.here hx rfl (hb hby d5_10) rfl ?_
      show Steps p.tables e below (s₁.setTop (mkF m 11 #[.val (.long q1), .second, .val (.long q2), .second] [(.long q2)])) _
      jvm_step X0.here [X0.here.top, hx, (hb hby d5_11), X0.method', Bd.returns, narrow]
      first | (intro acts; rw [hr _ acts rfl rfl rfl]) | rw [hr _ _ rfl rfl rfl]
      exact Steps.refl _
    · show Q_5 Z q1 q2 h0 n0 _ s₁.heap _
      rw [e0]
      exact ⟨by simp [hc3], N0, rfl⟩
  · obtain ⟨fs, hr, hrun, hended, hW, hsame⟩ := X0.leave (v := some (.long q1)) (fun h => by rw [Bd.returns] at h; cases h)
    refine ⟨_, _, pre0 _ ?_, hrun, hended, _, _, rfl, ?_, ⟨_, rfl⟩, hW, hsame.mono (by decide) (by decide)⟩
    · show Steps p.tables e below (s₁.setTop (mkF m 0 #[.val (.long q1), .second, .val (.long q2), .second] [])) _
      refine XS.lloadN X0.here hx rfl (hb hby d5_0) rfl ?_
      show Steps p.tables e below (s₁.setTop (mkF m 1 #[.val (.long q1), .second, .val (.long q2), .second] [(.long q1)])) _
      refine XS.lloadN X0.here hx rfl (hb hby d5_1) rfl ?_
      show Steps p.tables e below (s₁.setTop (mkF m 2 #[.val (.long q1), .second, .val (.long q2), .second] [(.long q2), (.long q1)])) _
      refine XS.lcmp X0.here hx rfl (hb hby d5_2) rfl ?_
      show Steps p.tables e below (s₁.setTop (mkF m 3 #[.val (.long q1), .second, .val (.long q2), .second] [(.int (lcmpW q1 q2))])) _
      refine XS.ifNo X0.here hx rfl (hb hby d5_3) rfl ((if0 _ _).trans (flt (fun q_ => hc3 ((lw_lt _ _).mp q_))).1) ?_
      show Steps p.tables e below (s₁.setTop (mkF m 6 #[.val (.long q1), .second, .val (.long q2), .second] [])) _
      refine XS.lloadN X0.here hx rfl (hb hby d5_6) rfl ?_
      show Steps p.tables e below (s₁.setTop (mkF m 7 #[.val (.long q1), .second, .val (.long q2), .second] [(.long q1)])) _
      refine XS.goto X0.here hx rfl (pc0 := 7) (pc' := 11) rfl (hb hby d5_7) (by decide) (by decide) ?_
      show Steps p.tables e below (s₁.setTop (mkF m 11 #[.val (.long q1), .second, .val (.long q2), .second] [(.long q1)])) _
      jvm_step X0.here [X0.here.top, hx, (hb hby d5_11), X0.method', Bd.returns, narrow]
      first | (intro acts; rw [hr _ acts rfl rfl rfl]) | rw [hr _ _ rfl rfl rfl]
      exact Steps.refl _
    · show Q_5 Z q1 q2 h0 n0 _ s₁.heap _
      rw [e0]
      exact ⟨by simp [hc3], N0, rfl⟩
theorem pd__28JLjava_2flang_2fString_3bLjava_2flang_2fString_3bI_29V : parseMethodDescriptor "(JLjava/lang/String;Ljava/lang/String;I)V" = some ⟨[.long, (.object "java/lang/String"), (.object "java/lang/String"), .int], none⟩ := by decide +kernel
theorem pd__28Lcom_2fexample_2fsanction_2fsanction_2fservice_2fInputRecord_3b_29Z : parseMethodDescriptor "(Lcom/example/sanction/sanction/service/InputRecord;)Z" = some ⟨[(.object "com/example/sanction/sanction/service/InputRecord")], some .boolean⟩ := by decide +kernel
theorem pd__28JJ_29J : parseMethodDescriptor "(JJ)J" = some ⟨[.long, .long], some .long⟩ := by decide +kernel
theorem pn_0 : plainName "com/example/sanction/sanction/service/InputRecordIsNewerThanPinLaw" = true := by first | (simp [plainName, overriddenIn]; done) | decide +kernel
theorem ef_0 (m : MethodId) (x0 : Int64) (x1 : Int64) (x2 : Int32) (x3 : Int32) (x4 : Int32) : entryFrame m #[(.long x0), (.long x1), (.int x2), (.int x3), (.int x4)] maxLocals = mkF m 0 #[.val (.long x0), .second, .val (.long x1), .second, .val (.int x2), .val (.int x3), .val (.int x4), .unset, .unset, .unset, .unset, .unset, .unset, .unset, .unset, .unset, .unset, .unset] [] := by first | (simp [entryFrame, mkF, argsToLocals, Value.category, maxLocals]; done) | rfl
def Q_0 (Z : State) (q1 : Int64) (q2 : Int64) (p3 : Int32) (p4 : Int32) (p5 : Int32) (h0 : Heap) (n0 : Nat) (v : Option Value) (h : Heap) (L : List Loc) : Prop := v = some (.int 1) ∧ Fr n0 L
set_option maxRecDepth 65536 in
set_option maxHeartbeats 40000000 in
theorem rm_0 (l : Launch) (Z : State) (a0 : Array Value) (hw : ∀ d ∈ tables_1, d.before a0 Z = true) (ws : List Jvm.Cond) (q1 : Int64) (q2 : Int64) (p3 : Int32) (p4 : Int32) (p5 : Int32) (h0 : Heap) (n0 : Nat) (Z0 : n0 ≤ h0.size) :
    MetFree l x (head1 (Jvm.Cond.code x code maxLocals ret :: ws) room_1) (fun a U => a = #[(.long q1), (.long q2), (.int p3), (.int p4), (.int p5)] ∧ Z.Warmed39 U.vm ∧ U.heap = h0) (fun _ _ _ _ _ => True) (fun _ U o U' => ∃ v L, o = .returned v ∧ Q_0 Z q1 q2 p3 p4 p5 h0 n0 v U'.heap L ∧ ReturnedEndW U o U' L room_1.cells room_1.slots) := by
  refine MetFree.of_bodySF (plainFor_of_name pn_0) hisR ?_
  intro p e s m args below meth cod_ s₁ Bd hml0 hP hK
  obtain ⟨rfl, hZ, hh⟩ := hP
  have hx := Bd.exec
  have hby := Bd.bytes
  have hml : cod_.maxLocals = 18 := hml0
  have hown : s.vm.findClass "com/example/sanction/sanction/service/InputRecordIsNewerThanPinLaw" = some m.cls := findClass_of_methodNamed Bd.named
  have hnm := (name_of_methodNamed Bd.named Bd.method).1
  have X0 : Stand p l e room_1 s m #[(.long q1), (.long q2), (.int p3), (.int p4), (.int p5)] below meth cod_ s₁ [] 0 0 := Stand.of_body Bd
  have e0 : s₁.heap = h0 := by rw [← hh, Bd.state]; rfl
  have N0 := Fr.nil n0
  have pre0 : ∀ t, Steps p.tables e below (s₁.setTop (mkF m 0 #[.val (.long q1), .second, .val (.long q2), .second, .val (.int p3), .val (.int p4), .val (.int p5), .unset, .unset, .unset, .unset, .unset, .unset, .unset, .unset, .unset, .unset, .unset] [])) t → Steps p.tables e below (s₁.setTop (entryFrame m #[(.long q1), (.long q2), (.int p3), (.int p4), (.int p5)] maxLocals)) t := fun t k => castTop (ef_0 m q1 q2 p3 p4 p5) k
  have hstr : ∀ d ∈ Bundle.stringAtoms, d.before a0 Z = true := fun d hd => hw d ((by decide +kernel : ∀ d ∈ Bundle.stringAtoms, d ∈ tables_1) d hd)
  have md25 : ∀ t, Steps p.tables e below (s₁.setTop (mkF m 12 #[.val (.long q1), .second, .val (.long q2), .second, .val (.int p3), .val (.int p4), .val (.int p5), .unset, .unset, .unset, .unset, .unset, .unset, .unset, .unset, .unset, .unset, .unset] [(.long (if (p5 &&& (2 : Int32)) = (0 : Int32) then q2 else q1))])) t → Steps p.tables e below (s₁.setTop (mkF m 4 #[.val (.long q1), .second, .val (.long q2), .second, .val (.int p3), .val (.int p4), .val (.int p5), .unset, .unset, .unset, .unset, .unset, .unset, .unset, .unset, .unset, .unset, .unset] [(.int (p5 &&& (2 : Int32)))])) t := by
    intro t kt
    by_cases hd4 : (p5 &&& (2 : Int32)) = (0 : Int32)
    · rw [show (if (p5 &&& (2 : Int32)) = (0 : Int32) then q2 else q1) = q2 from if_pos hd4] at kt
      show Steps p.tables e below (s₁.setTop (mkF m 4 #[.val (.long q1), .second, .val (.long q2), .second, .val (.int p3), .val (.int p4), .val (.int p5), .unset, .unset, .unset, .unset, .unset, .unset, .unset, .unset, .unset, .unset, .unset] [(.int (p5 &&& (2 : Int32)))])) _
      refine XS.ifYes X0.here hx rfl (pc0 := 4) (pc' := 11) rfl (hb hby at_4) rfl ((if0 _ _).trans (teq hd4).1) (by decide) (by decide) ?_
      show Steps p.tables e below (s₁.setTop (mkF m 11 #[.val (.long q1), .second, .val (.long q2), .second, .val (.int p3), .val (.int p4), .val (.int p5), .unset, .unset, .unset, .unset, .unset, .unset, .unset, .unset, .unset, .unset, .unset] [])) _
      refine XS.lloadN X0.here hx rfl (hb hby at_11) rfl ?_
      exact kt
    · rw [show (if (p5 &&& (2 : Int32)) = (0 : Int32) then q2 else q1) = q1 from if_neg hd4] at kt
      show Steps p.tables e below (s₁.setTop (mkF m 4 #[.val (.long q1), .second, .val (.long q2), .second, .val (.int p3), .val (.int p4), .val (.int p5), .unset, .unset, .unset, .unset, .unset, .unset, .unset, .unset, .unset, .unset, .unset] [(.int (p5 &&& (2 : Int32)))])) _
      refine XS.ifNo X0.here hx rfl (hb hby at_4) rfl ((if0 _ _).trans (feq hd4).1) ?_
      show Steps p.tables e below (s₁.setTop (mkF m 7 #[.val (.long q1), .second, .val (.long q2), .second, .val (.int p3), .val (.int p4), .val (.int p5), .unset, .unset, .unset, .unset, .unset, .unset, .unset, .unset, .unset, .unset, .unset] [])) _
      refine XS.lloadN X0.here hx rfl (hb hby at_7) rfl ?_
      show Steps p.tables e below (s₁.setTop (mkF m 8 #[.val (.long q1), .second, .val (.long q2), .second, .val (.int p3), .val (.int p4), .val (.int p5), .unset, .unset, .unset, .unset, .unset, .unset, .unset, .unset, .unset, .unset, .unset] [(.long q1)])) _
      refine XS.goto X0.here hx rfl (pc0 := 8) (pc' := 12) rfl (hb hby at_8) (by decide) (by decide) ?_
      exact kt
  obtain ⟨uu, e_uu⟩ : ∃ z : Int64, z = (if (p5 &&& (2 : Int32)) = (0 : Int32) then q2 else q1) := ⟨_, rfl⟩
  obtain ⟨T26, h26, X26, e26, E26, A26, D26, -, st26⟩ := newO X0 hx hZ hown (hw _ (List.mem_of_getElem? (i := 0) rfl)) (hw _ (List.mem_of_getElem? (i := 1) rfl)) (hw _ (List.mem_of_getElem? (i := 2) rfl)) e0 (g := (mkF m 14 #[.val (.long q1), .second, .val (.long q2), .second, .val (.int p3), .val (.int p4), .val (.int p5), .val (.long uu), .second, .unset, .unset, .unset, .unset, .unset, .unset, .unset, .unset, .unset] [])) rfl (hb hby at_14) (by decide) (by decide)
  obtain ⟨b26, g26⟩ : ∃ z, z = h0.size := ⟨_, rfl⟩
  rw [← g26] at A26 D26 st26
  have g_b26 : n0 ≤ b26 := Nat.le_trans (Nat.le_trans Z0 (Keep.refl h0 []).1) (Nat.le_of_eq g26.symm)
  have sz_b26 : h0.size ≤ b26 := Nat.le_trans (Keep.refl h0 []).1 (Nat.le_of_eq g26.symm)
  have Kh26 : Keep h0 h26 [] := (Keep.refl h0 []).ext E26
  have F_time_b26 : Fld Z h26 b26 "com/example/sanction/sanction/service/InputRecord" "time" "J" (.long (0 : Int64)) := D26 (Or.inr (hw _ (List.mem_of_getElem? (i := 25) rfl))) (ty := .long) (by decide)
  have F_widget_b26 : Fld Z h26 b26 "com/example/sanction/sanction/service/InputRecord" "widget" "Ljava/lang/String;" .null := D26 (Or.inr (hw _ (List.mem_of_getElem? (i := 27) rfl))) (ty := (.object "java/lang/String")) (by decide)
  have F_context_b26 : Fld Z h26 b26 "com/example/sanction/sanction/service/InputRecord" "context" "Ljava/lang/String;" .null := D26 (Or.inr (hw _ (List.mem_of_getElem? (i := 29) rfl))) (ty := (.object "java/lang/String")) (by decide)
  have F_path_b26 : Fld Z h26 b26 "com/example/sanction/sanction/service/InputRecord" "path" "[I" .null := D26 (Or.inr (hw _ (List.mem_of_getElem? (i := 31) rfl))) (ty := (.array .int)) (by decide)
  have F_passedBy_b26 : Fld Z h26 b26 "com/example/sanction/sanction/service/InputRecord" "passedBy" "[Ljava/lang/String;" .null := D26 (Or.inr (hw _ (List.mem_of_getElem? (i := 33) rfl))) (ty := (.array (.object "java/lang/String"))) (by decide)
  obtain ⟨a27, T27, h27, k27, X27, e27, E27, hS27, hk27, hZ27, hown27, st27⟩ := ldcS (s := s) (vm0 := s.vm) X26 hx hZ hown (hw _ (List.mem_of_getElem? (i := 3) rfl)) hstr e26 ((State.WarmedH.refl s).since 0) (Nat.zero_le _) (g := (mkF m 19 #[.val (.long q1), .second, .val (.long q2), .second, .val (.int p3), .val (.int p4), .val (.int p5), .val (.long uu), .second, .unset, .unset, .unset, .unset, .unset, .unset, .unset, .unset, .unset] [(.long q1), (.ref b26), (.ref b26)])) rfl (hb hby at_19) (n := 4) (Nat.le_of_ble_eq_true rfl) (by decide) (by decide) (by decide)
  have Kh27 : Keep h0 h27 [] := Kh26.ext E27
  obtain ⟨a28, T28, h28, k28, X28, e28, E28, hS28, hk28, hZ28, hown28, st28⟩ := ldcS (s := s) (vm0 := T27.vm) X27 hx hZ27 hown27 (hw _ (List.mem_of_getElem? (i := 11) rfl)) hstr e27 hS27 hk27 (g := (mkF m 21 #[.val (.long q1), .second, .val (.long q2), .second, .val (.int p3), .val (.int p4), .val (.int p5), .val (.long uu), .second, .unset, .unset, .unset, .unset, .unset, .unset, .unset, .unset, .unset] [(.ref a27), (.long q1), (.ref b26), (.ref b26)])) rfl (hb hby at_21) (n := 4) (Nat.le_of_ble_eq_true rfl) (by decide) (by decide) (by decide)
  have Kh28 : Keep h0 h28 [] := Kh27.ext E28
  have f29 := ((A26.ext E27).ext E28)
  have f30 := ((F_time_b26.ext E27).ext E28)
  have f31 := ((F_widget_b26.ext E27).ext E28)
  have f32 := ((F_context_b26.ext E27).ext E28)
  have f33 := ((F_path_b26.ext E27).ext E28)
  have f34 := ((F_passedBy_b26.ext E27).ext E28)
  obtain ⟨_, _, ⟨T35, L35, c35_, n35_⟩, -, X35, ⟨Lc35, hQ35, l35, y35, z35⟩, st35⟩ := X28.specialBack hx (y := (⟨"com/example/sanction/sanction/service/InputRecord", "<init>", "(JLjava/lang/String;Ljava/lang/String;I)V"⟩ : MethodName)) rfl hown28 (mvT hZ28 (hw _ (List.mem_of_getElem? (i := 12) rfl))) (mvT hZ28 (hw _ (List.mem_of_getElem? (i := 13) rfl))) (mvT hZ28 (hw _ (List.mem_of_getElem? (i := 14) rfl))) (by decide) (backOf (W := 1) (rm_1 l Z a0 hw [] b26 q1 a27 a28 p3 h28 n0 (Nat.le_trans Z0 Kh28.1) f29 g_b26 f30 f31 f32 f33 f34) hZ28 (hw _ (List.mem_of_getElem? (i := 14) rfl)) (hw _ (List.mem_of_getElem? (i := 2) rfl)) (by decide) (by decide)) (g := (mkF m 25 #[.val (.long q1), .second, .val (.long q2), .second, .val (.int p3), .val (.int p4), .val (.int p5), .val (.long uu), .second, .unset, .unset, .unset, .unset, .unset, .unset, .unset, .unset, .unset] [(.int p3), (.ref a28), (.ref a27), (.long q1), (.ref b26), (.ref b26)])) rfl (by rw [hml]; rfl) (Steps.refl _) (a := b26) (argsL := [(.long q1), (.ref a27), (.ref a28), (.int p3)]) (rest := [(.ref b26)]) (lenOf pd__28JLjava_2flang_2fString_3bLjava_2flang_2fString_3bI_29V rfl) rfl (by show 2 * 0 + _ ≤ _; exact Nat.le_of_eq rfl) (hb hby at_25) (fun _ _ => ⟨rfl, e28, (by decide : 5 + 2 ≤ _), (by decide : 21 + 1 ≤ _)⟩)
  dsimp only [Pt.U, Pt.locs, Pt.cells, Pt.slots] at X35 l35 y35 z35 st35 hQ35
  subst l35 y35 z35
  obtain ⟨rfl, Nq35, K35, Ee35, Ft35⟩ := hQ35
  have N35 := Fr.app N0 Nq35
  have Kh35 : Keep h0 T35.heap [] := Kh28.trans K35 (allS (Or.inr sz_b26) all0)
  by_cases hc34 : (p5 &&& (1 : Int32)) = (0 : Int32)
  · obtain ⟨T36, h36, X36, e36, E36, A36, D36, -, st36⟩ := newO X35 hx hZ28 hown28 (hw _ (List.mem_of_getElem? (i := 0) rfl)) (hw _ (List.mem_of_getElem? (i := 1) rfl)) (hw _ (List.mem_of_getElem? (i := 2) rfl)) rfl (g := (mkF m 44 #[.val (.long q1), .second, .val (.long q2), .second, .val (.int p3), .val (.int p4), .val (.int p5), .val (.long uu), .second, .val (.ref b26), .unset, .unset, .unset, .unset, .unset, .unset, .unset, .unset] [])) rfl (hb hby at_44) (by decide) (by decide)
    obtain ⟨b36, g36⟩ : ∃ z, z = T35.heap.size := ⟨_, rfl⟩
    rw [← g36] at A36 D36 st36
    have g_b36 : n0 ≤ b36 := Nat.le_trans (Nat.le_trans Z0 Kh35.1) (Nat.le_of_eq g36.symm)
    have sz_b36 : h0.size ≤ b36 := Nat.le_trans Kh35.1 (Nat.le_of_eq g36.symm)
    have ne_b26_b36 : b26 ≠ b36 := Nat.ne_of_lt (Nat.lt_of_lt_of_le Ee35.lt (Nat.le_of_eq g36.symm))
    have Kh36 : Keep h0 h36 [] := Kh35.ext E36
    have F_time_b36 : Fld Z h36 b36 "com/example/sanction/sanction/service/InputRecord" "time" "J" (.long (0 : Int64)) := D36 (Or.inr (hw _ (List.mem_of_getElem? (i := 25) rfl))) (ty := .long) (by decide)
    have F_widget_b36 : Fld Z h36 b36 "com/example/sanction/sanction/service/InputRecord" "widget" "Ljava/lang/String;" .null := D36 (Or.inr (hw _ (List.mem_of_getElem? (i := 27) rfl))) (ty := (.object "java/lang/String")) (by decide)
    have F_context_b36 : Fld Z h36 b36 "com/example/sanction/sanction/service/InputRecord" "context" "Ljava/lang/String;" .null := D36 (Or.inr (hw _ (List.mem_of_getElem? (i := 29) rfl))) (ty := (.object "java/lang/String")) (by decide)
    have F_path_b36 : Fld Z h36 b36 "com/example/sanction/sanction/service/InputRecord" "path" "[I" .null := D36 (Or.inr (hw _ (List.mem_of_getElem? (i := 31) rfl))) (ty := (.array .int)) (by decide)
    have F_passedBy_b36 : Fld Z h36 b36 "com/example/sanction/sanction/service/InputRecord" "passedBy" "[Ljava/lang/String;" .null := D36 (Or.inr (hw _ (List.mem_of_getElem? (i := 33) rfl))) (ty := (.array (.object "java/lang/String"))) (by decide)
    obtain ⟨a37, T37, h37, k37, X37, e37, E37, hS37, hk37, hZ37, hown37, st37⟩ := ldcS (s := s) (vm0 := T28.vm) X36 hx hZ28 hown28 (hw _ (List.mem_of_getElem? (i := 34) rfl)) hstr e36 hS28 (Nat.le_trans (Nat.le_trans hk28 K35.1) E36.1) (g := (mkF m 50 #[.val (.long q1), .second, .val (.long q2), .second, .val (.int p3), .val (.int p4), .val (.int p5), .val (.long uu), .second, .val (.ref b26), .unset, .unset, .unset, .unset, .unset, .unset, .unset, .unset] [(.long uu), (.ref b36), (.ref b36)])) rfl (hb hby at_50) (n := 4) (Nat.le_of_ble_eq_true rfl) (by decide) (by decide) (by decide)
    have Kh37 : Keep h0 h37 [] := Kh36.ext E37
    obtain ⟨a38, T38, h38, k38, X38, e38, E38, hS38, hk38, hZ38, hown38, st38⟩ := ldcS (s := s) (vm0 := T37.vm) X37 hx hZ37 hown37 (hw _ (List.mem_of_getElem? (i := 35) rfl)) hstr e37 hS37 hk37 (g := (mkF m 52 #[.val (.long q1), .second, .val (.long q2), .second, .val (.int p3), .val (.int p4), .val (.int p5), .val (.long uu), .second, .val (.ref b26), .unset, .unset, .unset, .unset, .unset, .unset, .unset, .unset] [(.ref a37), (.long uu), (.ref b36), (.ref b36)])) rfl (hb hby at_52) (n := 4) (Nat.le_of_ble_eq_true rfl) (by decide) (by decide) (by decide)
    have Kh38 : Keep h0 h38 [] := Kh37.ext E38
    have f39 := ((A36.ext E37).ext E38)
    have f40 := ((F_time_b36.ext E37).ext E38)
    have f41 := ((F_widget_b36.ext E37).ext E38)
    have f42 := ((F_context_b36.ext E37).ext E38)
    have f43 := ((F_path_b36.ext E37).ext E38)
    have f44 := ((F_passedBy_b36.ext E37).ext E38)
    obtain ⟨_, _, ⟨T45, L45, c45_, n45_⟩, -, X45, ⟨Lc45, hQ45, l45, y45, z45⟩, st45⟩ := X38.specialBack hx (y := (⟨"com/example/sanction/sanction/service/InputRecord", "<init>", "(JLjava/lang/String;Ljava/lang/String;I)V"⟩ : MethodName)) rfl hown38 (mvT hZ38 (hw _ (List.mem_of_getElem? (i := 12) rfl))) (mvT hZ38 (hw _ (List.mem_of_getElem? (i := 13) rfl))) (mvT hZ38 (hw _ (List.mem_of_getElem? (i := 14) rfl))) (by decide) (backOf (W := 1) (rm_1 l Z a0 hw [] b36 uu a37 a38 p4 h38 n0 (Nat.le_trans Z0 Kh38.1) f39 g_b36 f40 f41 f42 f43 f44) hZ38 (hw _ (List.mem_of_getElem? (i := 14) rfl)) (hw _ (List.mem_of_getElem? (i := 2) rfl)) (by decide) (by decide)) (g := (mkF m 56 #[.val (.long q1), .second, .val (.long q2), .second, .val (.int p3), .val (.int p4), .val (.int p5), .val (.long uu), .second, .val (.ref b26), .unset, .unset, .unset, .unset, .unset, .unset, .unset, .unset] [(.int p4), (.ref a38), (.ref a37), (.long uu), (.ref b36), (.ref b36)])) rfl (by rw [hml]; rfl) (Steps.refl _) (a := b36) (argsL := [(.long uu), (.ref a37), (.ref a38), (.int p4)]) (rest := [(.ref b36)]) (lenOf pd__28JLjava_2flang_2fString_3bLjava_2flang_2fString_3bI_29V rfl) rfl (by show 2 * 0 + _ ≤ _; exact Nat.le_of_eq rfl) (hb hby at_56) (fun _ _ => ⟨rfl, e38, (by decide : 12 + 2 ≤ _), (by decide : 43 + 1 ≤ _)⟩)
    dsimp only [Pt.U, Pt.locs, Pt.cells, Pt.slots] at X45 l45 y45 z45 st45 hQ45
    subst l45 y45 z45
    obtain ⟨rfl, Nq45, K45, Ee45, Ft45⟩ := hQ45
    have N45 := Fr.app N35 Nq45
    have Kh45 : Keep h0 T45.heap [] := Kh38.trans K45 (allS (Or.inr sz_b36) all0)
    have f46 := ((((Ft35.ext E36).ext E37).ext E38).keep K45 (ninS ne_b26_b36 nin0))
    have f48 := ((((Ee35.ext E36).ext E37).ext E38).keep K45)
    obtain ⟨cq47, kq47, q47a, q47b, q47c⟩ := isOf hZ38 rfl f48
    obtain ⟨_, _, ⟨T47, L47, c47_, n47_⟩, -, X47, ⟨Lc47, hQ47, l47, y47, z47⟩, st47⟩ := X45.virtualBack hx (y := (⟨"com/example/sanction/sanction/service/InputRecord", "isNewerThan", "(Lcom/example/sanction/sanction/service/InputRecord;)Z"⟩ : MethodName)) (z := (⟨"com/example/sanction/sanction/service/InputRecord", "isNewerThan", "(Lcom/example/sanction/sanction/service/InputRecord;)Z"⟩ : MethodName)) hown38 (mvT hZ38 (hw _ (List.mem_of_getElem? (i := 36) rfl))) (mvT hZ38 (hw _ (List.mem_of_getElem? (i := 37) rfl))) (notFace_of_selects (args := #[]) (mvT hZ38 (hw _ (List.mem_of_getElem? (i := 39) rfl)))) (mvT hZ38 (hw _ (List.mem_of_getElem? (i := 39) rfl))) (mvT hZ38 (hw _ (List.mem_of_getElem? (i := 38) rfl))) (by decide) (backOf (W := 0) (rm_4 l Z a0 hw [] b26 b36 q1 uu T45.heap n0 (Nat.le_trans Z0 Kh45.1) f46 Ft45) hZ38 (hw _ (List.mem_of_getElem? (i := 40) rfl)) (hw _ (List.mem_of_getElem? (i := 2) rfl)) (by decide) (by decide)) q47a q47c (g := (mkF m 65 #[.val (.long q1), .second, .val (.long q2), .second, .val (.int p3), .val (.int p4), .val (.int p5), .val (.long uu), .second, .val (.ref b26), .val (.ref b36), .unset, .unset, .unset, .unset, .unset, .unset, .unset] [(.ref b36), (.ref b26)])) rfl (by rw [hml]; rfl) (Steps.refl _) (argsL := [(.ref b36)]) (rest := []) (lenOf pd__28Lcom_2fexample_2fsanction_2fsanction_2fservice_2fInputRecord_3b_29Z rfl) rfl (by show 2 * 0 + _ ≤ _; exact Nat.le_of_eq rfl) (hb hby at_65) (fun _ _ => ⟨rfl, rfl, (by decide : 14 + 0 ≤ _), (by decide : 44 + 0 ≤ _)⟩)
    dsimp only [Pt.U, Pt.locs, Pt.cells, Pt.slots] at X47 l47 y47 z47 st47 hQ47
    subst l47 y47 z47
    obtain ⟨rfl, Nq47, e47⟩ := hQ47
    have N47 := Fr.app N45 Nq47
    obtain ⟨cq49, kq49, q49a, q49b, q49c⟩ := isOf hZ38 e47 Ee45
    obtain ⟨_, _, ⟨T49, L49, c49_, n49_⟩, -, X49, ⟨Lc49, hQ49, l49, y49, z49⟩, st49⟩ := X47.virtualBack hx (y := (⟨"com/example/sanction/sanction/service/InputRecord", "isNewerThan", "(Lcom/example/sanction/sanction/service/InputRecord;)Z"⟩ : MethodName)) (z := (⟨"com/example/sanction/sanction/service/InputRecord", "isNewerThan", "(Lcom/example/sanction/sanction/service/InputRecord;)Z"⟩ : MethodName)) hown38 (mvT hZ38 (hw _ (List.mem_of_getElem? (i := 36) rfl))) (mvT hZ38 (hw _ (List.mem_of_getElem? (i := 37) rfl))) (notFace_of_selects (args := #[]) (mvT hZ38 (hw _ (List.mem_of_getElem? (i := 39) rfl)))) (mvT hZ38 (hw _ (List.mem_of_getElem? (i := 39) rfl))) (mvT hZ38 (hw _ (List.mem_of_getElem? (i := 38) rfl))) (by decide) (backOf (W := 0) (rm_4 l Z a0 hw [] b36 b26 uu q1 T45.heap n0 (Nat.le_trans Z0 Kh45.1) Ft45 f46) hZ38 (hw _ (List.mem_of_getElem? (i := 40) rfl)) (hw _ (List.mem_of_getElem? (i := 2) rfl)) (by decide) (by decide)) q49a q49c (g := (mkF m 74 #[.val (.long q1), .second, .val (.long q2), .second, .val (.int p3), .val (.int p4), .val (.int p5), .val (.long uu), .second, .val (.ref b26), .val (.ref b36), .val (.int (if uu < q1 then (1 : Int32) else (0 : Int32))), .unset, .unset, .unset, .unset, .unset, .unset] [(.ref b26), (.ref b36)])) rfl (by rw [hml]; rfl) (Steps.refl _) (argsL := [(.ref b26)]) (rest := []) (lenOf pd__28Lcom_2fexample_2fsanction_2fsanction_2fservice_2fInputRecord_3b_29Z rfl) rfl (by show 2 * 0 + _ ≤ _; exact Nat.le_of_eq rfl) (hb hby at_74) (fun _ _ => ⟨rfl, e47, (by decide : 14 + 0 ≤ _), (by decide : 44 + 0 ≤ _)⟩)
    dsimp only [Pt.U, Pt.locs, Pt.cells, Pt.slots] at X49 l49 y49 z49 st49 hQ49
    subst l49 y49 z49
    obtain ⟨rfl, Nq49, e49⟩ := hQ49
    have N49 := Fr.app N47 Nq49
    have md50 : ∀ t, Steps p.tables e below (T49.setTop (mkF m 91 #[.val (.long q1), .second, .val (.long q2), .second, .val (.int p3), .val (.int p4), .val (.int p5), .val (.long uu), .second, .val (.ref b26), .val (.ref b36), .val (.int (if uu < q1 then (1 : Int32) else (0 : Int32))), .val (.int (if q1 < uu then (1 : Int32) else (0 : Int32))), .unset, .unset, .unset, .unset, .unset] [(.int (if q1 = uu then (0 : Int32) else (1 : Int32)))])) t → Steps p.tables e below (T49.setTop (mkF m 83 #[.val (.long q1), .second, .val (.long q2), .second, .val (.int p3), .val (.int p4), .val (.int p5), .val (.long uu), .second, .val (.ref b26), .val (.ref b36), .val (.int (if uu < q1 then (1 : Int32) else (0 : Int32))), .val (.int (if q1 < uu then (1 : Int32) else (0 : Int32))), .unset, .unset, .unset, .unset, .unset] [(.int (lcmpW q1 uu))])) t := by
      intro t kt
      by_cases hd83 : q1 = uu
      · rw [show (if q1 = uu then (0 : Int32) else (1 : Int32)) = (0 : Int32) from if_pos hd83] at kt
        show Steps p.tables e below (T49.setTop (mkF m 83 #[.val (.long q1), .second, .val (.long q2), .second, .val (.int p3), .val (.int p4), .val (.int p5), .val (.long uu), .second, .val (.ref b26), .val (.ref b36), .val (.int (if uu < q1 then (1 : Int32) else (0 : Int32))), .val (.int (if q1 < uu then (1 : Int32) else (0 : Int32))), .unset, .unset, .unset, .unset, .unset] [(.int (lcmpW q1 uu))])) _
        refine XS.ifYes X49.here hx rfl (pc0 := 83) (pc' := 90) rfl (hb hby at_83) rfl ((if0 _ _).trans (teq ((lw_eq _ _).mpr hd83)).1) (by decide) (by decide) ?_
        show Steps p.tables e below (T49.setTop (mkF m 90 #[.val (.long q1), .second, .val (.long q2), .second, .val (.int p3), .val (.int p4), .val (.int p5), .val (.long uu), .second, .val (.ref b26), .val (.ref b36), .val (.int (if uu < q1 then (1 : Int32) else (0 : Int32))), .val (.int (if q1 < uu then (1 : Int32) else (0 : Int32))), .unset, .unset, .unset, .unset, .unset] [])) _
        refine XS.iconst X49.here hx rfl (hb hby at_90) ?_
        exact kt
      · rw [show (if q1 = uu then (0 : Int32) else (1 : Int32)) = (1 : Int32) from if_neg hd83] at kt
        show Steps p.tables e below (T49.setTop (mkF m 83 #[.val (.long q1), .second, .val (.long q2), .second, .val (.int p3), .val (.int p4), .val (.int p5), .val (.long uu), .second, .val (.ref b26), .val (.ref b36), .val (.int (if uu < q1 then (1 : Int32) else (0 : Int32))), .val (.int (if q1 < uu then (1 : Int32) else (0 : Int32))), .unset, .unset, .unset, .unset, .unset] [(.int (lcmpW q1 uu))])) _
        refine XS.ifNo X49.here hx rfl (hb hby at_83) rfl ((if0 _ _).trans (feq (fun q_ => hd83 ((lw_eq _ _).mp q_))).1) ?_
        show Steps p.tables e below (T49.setTop (mkF m 86 #[.val (.long q1), .second, .val (.long q2), .second, .val (.int p3), .val (.int p4), .val (.int p5), .val (.long uu), .second, .val (.ref b26), .val (.ref b36), .val (.int (if uu < q1 then (1 : Int32) else (0 : Int32))), .val (.int (if q1 < uu then (1 : Int32) else (0 : Int32))), .unset, .unset, .unset, .unset, .unset] [])) _
        refine XS.iconst X49.here hx rfl (hb hby at_86) ?_
        show Steps p.tables e below (T49.setTop (mkF m 87 #[.val (.long q1), .second, .val (.long q2), .second, .val (.int p3), .val (.int p4), .val (.int p5), .val (.long uu), .second, .val (.ref b26), .val (.ref b36), .val (.int (if uu < q1 then (1 : Int32) else (0 : Int32))), .val (.int (if q1 < uu then (1 : Int32) else (0 : Int32))), .unset, .unset, .unset, .unset, .unset] [(.int (1 : Int32))])) _
        refine XS.goto X49.here hx rfl (pc0 := 87) (pc' := 91) rfl (hb hby at_87) (by decide) (by decide) ?_
        exact kt
    obtain ⟨_, _, ⟨T51, L51, c51_, n51_⟩, -, X51, ⟨Lc51, hQ51, l51, y51, z51⟩, st51⟩ := Jvm.LawKit.callS X49 hx (y := (⟨"java/lang/Math", "max", "(JJ)J"⟩ : MethodName)) hown38 (mvT hZ38 (hw _ (List.mem_of_getElem? (i := 41) rfl))) (mvT hZ38 (hw _ (List.mem_of_getElem? (i := 42) rfl))) (mvT hZ38 (hw _ (List.mem_of_getElem? (i := 43) rfl))) (mvT hZ38 (hw _ (List.mem_of_getElem? (i := 44) rfl))) (by decide) (backOf (W := 0) (rm_5 l Z a0 hw [] q1 uu T45.heap n0 (Nat.le_trans Z0 Kh45.1) ) hZ38 (hw _ (List.mem_of_getElem? (i := 44) rfl)) (hw _ (List.mem_of_getElem? (i := 43) rfl)) (by decide) (by decide)) (g := (mkF m 96 #[.val (.long q1), .second, .val (.long q2), .second, .val (.int p3), .val (.int p4), .val (.int p5), .val (.long uu), .second, .val (.ref b26), .val (.ref b36), .val (.int (if uu < q1 then (1 : Int32) else (0 : Int32))), .val (.int (if q1 < uu then (1 : Int32) else (0 : Int32))), .val (.int (if q1 = uu then (0 : Int32) else (1 : Int32))), .unset, .unset, .unset, .unset] [(.long uu), (.long q1)])) rfl (by rw [hml]; rfl) (argsL := [(.long q1), (.long uu)]) (rest := []) (lenOf pd__28JJ_29J rfl) rfl (by show 2 * 0 + _ ≤ _; exact Nat.le_of_eq rfl) (hb hby at_96) (fun _ _ => ⟨rfl, e49, (by decide : 14 + 0 ≤ _), (by decide : 44 + 0 ≤ _)⟩)
    dsimp only [Pt.U, Pt.locs, Pt.cells, Pt.slots] at X51 l51 y51 z51 st51 hQ51
    subst l51 y51 z51
    obtain ⟨rfl, Nq51, e51⟩ := hQ51
    have N51 := Fr.app N49 Nq51
    have md52 : ∀ t, Steps p.tables e below (T51.setTop (mkF m 118 #[.val (.long q1), .second, .val (.long q2), .second, .val (.int p3), .val (.int p4), .val (.int p5), .val (.long uu), .second, .val (.ref b26), .val (.ref b36), .val (.int (if uu < q1 then (1 : Int32) else (0 : Int32))), .val (.int (if q1 < uu then (1 : Int32) else (0 : Int32))), .val (.int (if q1 = uu then (0 : Int32) else (1 : Int32))), .val (.long (if q1 < uu then uu else q1)), .second, .unset, .unset] [(.int (if (if q1 = uu then (0 : Int32) else (1 : Int32)) = (0 : Int32) then (0 : Int32) else (if (if q1 < uu then uu else q1) = q1 then (1 : Int32) else (0 : Int32))))])) t → Steps p.tables e below (T51.setTop (mkF m 103 #[.val (.long q1), .second, .val (.long q2), .second, .val (.int p3), .val (.int p4), .val (.int p5), .val (.long uu), .second, .val (.ref b26), .val (.ref b36), .val (.int (if uu < q1 then (1 : Int32) else (0 : Int32))), .val (.int (if q1 < uu then (1 : Int32) else (0 : Int32))), .val (.int (if q1 = uu then (0 : Int32) else (1 : Int32))), .val (.long (if q1 < uu then uu else q1)), .second, .unset, .unset] [(.int (if q1 = uu then (0 : Int32) else (1 : Int32)))])) t := by
      intro t kt
      by_cases hd103 : (if q1 = uu then (0 : Int32) else (1 : Int32)) = (0 : Int32)
      · rw [show (if (if q1 = uu then (0 : Int32) else (1 : Int32)) = (0 : Int32) then (0 : Int32) else (if (if q1 < uu then uu else q1) = q1 then (1 : Int32) else (0 : Int32))) = (0 : Int32) from if_pos hd103] at kt
        show Steps p.tables e below (T51.setTop (mkF m 103 #[.val (.long q1), .second, .val (.long q2), .second, .val (.int p3), .val (.int p4), .val (.int p5), .val (.long uu), .second, .val (.ref b26), .val (.ref b36), .val (.int (if uu < q1 then (1 : Int32) else (0 : Int32))), .val (.int (if q1 < uu then (1 : Int32) else (0 : Int32))), .val (.int (if q1 = uu then (0 : Int32) else (1 : Int32))), .val (.long (if q1 < uu then uu else q1)), .second, .unset, .unset] [(.int (if q1 = uu then (0 : Int32) else (1 : Int32)))])) _
        refine XS.ifYes X51.here hx rfl (pc0 := 103) (pc' := 117) rfl (hb hby at_103) rfl ((if0 _ _).trans (teq hd103).1) (by decide) (by decide) ?_
        show Steps p.tables e below (T51.setTop (mkF m 117 #[.val (.long q1), .second, .val (.long q2), .second, .val (.int p3), .val (.int p4), .val (.int p5), .val (.long uu), .second, .val (.ref b26), .val (.ref b36), .val (.int (if uu < q1 then (1 : Int32) else (0 : Int32))), .val (.int (if q1 < uu then (1 : Int32) else (0 : Int32))), .val (.int (if q1 = uu then (0 : Int32) else (1 : Int32))), .val (.long (if q1 < uu then uu else q1)), .second, .unset, .unset] [])) _
        refine XS.iconst X51.here hx rfl (hb hby at_117) ?_
        exact kt
      · rw [show (if (if q1 = uu then (0 : Int32) else (1 : Int32)) = (0 : Int32) then (0 : Int32) else (if (if q1 < uu then uu else q1) = q1 then (1 : Int32) else (0 : Int32))) = (if (if q1 < uu then uu else q1) = q1 then (1 : Int32) else (0 : Int32)) from if_neg hd103] at kt
        by_cases hd110 : (if q1 < uu then uu else q1) = q1
        · rw [show (if (if q1 < uu then uu else q1) = q1 then (1 : Int32) else (0 : Int32)) = (1 : Int32) from if_pos hd110] at kt
          show Steps p.tables e below (T51.setTop (mkF m 103 #[.val (.long q1), .second, .val (.long q2), .second, .val (.int p3), .val (.int p4), .val (.int p5), .val (.long uu), .second, .val (.ref b26), .val (.ref b36), .val (.int (if uu < q1 then (1 : Int32) else (0 : Int32))), .val (.int (if q1 < uu then (1 : Int32) else (0 : Int32))), .val (.int (if q1 = uu then (0 : Int32) else (1 : Int32))), .val (.long (if q1 < uu then uu else q1)), .second, .unset, .unset] [(.int (if q1 = uu then (0 : Int32) else (1 : Int32)))])) _
          refine XS.ifNo X51.here hx rfl (hb hby at_103) rfl ((if0 _ _).trans (feq hd103).1) ?_
          show Steps p.tables e below (T51.setTop (mkF m 106 #[.val (.long q1), .second, .val (.long q2), .second, .val (.int p3), .val (.int p4), .val (.int p5), .val (.long uu), .second, .val (.ref b26), .val (.ref b36), .val (.int (if uu < q1 then (1 : Int32) else (0 : Int32))), .val (.int (if q1 < uu then (1 : Int32) else (0 : Int32))), .val (.int (if q1 = uu then (0 : Int32) else (1 : Int32))), .val (.long (if q1 < uu then uu else q1)), .second, .unset, .unset] [])) _
          refine XS.lload X51.here hx rfl (hb hby at_106) rfl ?_
          show Steps p.tables e below (T51.setTop (mkF m 108 #[.val (.long q1), .second, .val (.long q2), .second, .val (.int p3), .val (.int p4), .val (.int p5), .val (.long uu), .second, .val (.ref b26), .val (.ref b36), .val (.int (if uu < q1 then (1 : Int32) else (0 : Int32))), .val (.int (if q1 < uu then (1 : Int32) else (0 : Int32))), .val (.int (if q1 = uu then (0 : Int32) else (1 : Int32))), .val (.long (if q1 < uu then uu else q1)), .second, .unset, .unset] [(.long (if q1 < uu then uu else q1))])) _
          refine XS.lloadN X51.here hx rfl (hb hby at_108) rfl ?_
          show Steps p.tables e below (T51.setTop (mkF m 109 #[.val (.long q1), .second, .val (.long q2), .second, .val (.int p3), .val (.int p4), .val (.int p5), .val (.long uu), .second, .val (.ref b26), .val (.ref b36), .val (.int (if uu < q1 then (1 : Int32) else (0 : Int32))), .val (.int (if q1 < uu then (1 : Int32) else (0 : Int32))), .val (.int (if q1 = uu then (0 : Int32) else (1 : Int32))), .val (.long (if q1 < uu then uu else q1)), .second, .unset, .unset] [(.long q1), (.long (if q1 < uu then uu else q1))])) _
          refine XS.lcmp X51.here hx rfl (hb hby at_109) rfl ?_
          show Steps p.tables e below (T51.setTop (mkF m 110 #[.val (.long q1), .second, .val (.long q2), .second, .val (.int p3), .val (.int p4), .val (.int p5), .val (.long uu), .second, .val (.ref b26), .val (.ref b36), .val (.int (if uu < q1 then (1 : Int32) else (0 : Int32))), .val (.int (if q1 < uu then (1 : Int32) else (0 : Int32))), .val (.int (if q1 = uu then (0 : Int32) else (1 : Int32))), .val (.long (if q1 < uu then uu else q1)), .second, .unset, .unset] [(.int (lcmpW (if q1 < uu then uu else q1) q1))])) _
          refine XS.ifNo X51.here hx rfl (hb hby at_110) rfl ((if0 _ _).trans (teq ((lw_eq _ _).mpr hd110)).2) ?_
          show Steps p.tables e below (T51.setTop (mkF m 113 #[.val (.long q1), .second, .val (.long q2), .second, .val (.int p3), .val (.int p4), .val (.int p5), .val (.long uu), .second, .val (.ref b26), .val (.ref b36), .val (.int (if uu < q1 then (1 : Int32) else (0 : Int32))), .val (.int (if q1 < uu then (1 : Int32) else (0 : Int32))), .val (.int (if q1 = uu then (0 : Int32) else (1 : Int32))), .val (.long (if q1 < uu then uu else q1)), .second, .unset, .unset] [])) _
          refine XS.iconst X51.here hx rfl (hb hby at_113) ?_
          show Steps p.tables e below (T51.setTop (mkF m 114 #[.val (.long q1), .second, .val (.long q2), .second, .val (.int p3), .val (.int p4), .val (.int p5), .val (.long uu), .second, .val (.ref b26), .val (.ref b36), .val (.int (if uu < q1 then (1 : Int32) else (0 : Int32))), .val (.int (if q1 < uu then (1 : Int32) else (0 : Int32))), .val (.int (if q1 = uu then (0 : Int32) else (1 : Int32))), .val (.long (if q1 < uu then uu else q1)), .second, .unset, .unset] [(.int (1 : Int32))])) _
          refine XS.goto X51.here hx rfl (pc0 := 114) (pc' := 118) rfl (hb hby at_114) (by decide) (by decide) ?_
          exact kt
        · rw [show (if (if q1 < uu then uu else q1) = q1 then (1 : Int32) else (0 : Int32)) = (0 : Int32) from if_neg hd110] at kt
          show Steps p.tables e below (T51.setTop (mkF m 103 #[.val (.long q1), .second, .val (.long q2), .second, .val (.int p3), .val (.int p4), .val (.int p5), .val (.long uu), .second, .val (.ref b26), .val (.ref b36), .val (.int (if uu < q1 then (1 : Int32) else (0 : Int32))), .val (.int (if q1 < uu then (1 : Int32) else (0 : Int32))), .val (.int (if q1 = uu then (0 : Int32) else (1 : Int32))), .val (.long (if q1 < uu then uu else q1)), .second, .unset, .unset] [(.int (if q1 = uu then (0 : Int32) else (1 : Int32)))])) _
          refine XS.ifNo X51.here hx rfl (hb hby at_103) rfl ((if0 _ _).trans (feq hd103).1) ?_
          show Steps p.tables e below (T51.setTop (mkF m 106 #[.val (.long q1), .second, .val (.long q2), .second, .val (.int p3), .val (.int p4), .val (.int p5), .val (.long uu), .second, .val (.ref b26), .val (.ref b36), .val (.int (if uu < q1 then (1 : Int32) else (0 : Int32))), .val (.int (if q1 < uu then (1 : Int32) else (0 : Int32))), .val (.int (if q1 = uu then (0 : Int32) else (1 : Int32))), .val (.long (if q1 < uu then uu else q1)), .second, .unset, .unset] [])) _
          refine XS.lload X51.here hx rfl (hb hby at_106) rfl ?_
          show Steps p.tables e below (T51.setTop (mkF m 108 #[.val (.long q1), .second, .val (.long q2), .second, .val (.int p3), .val (.int p4), .val (.int p5), .val (.long uu), .second, .val (.ref b26), .val (.ref b36), .val (.int (if uu < q1 then (1 : Int32) else (0 : Int32))), .val (.int (if q1 < uu then (1 : Int32) else (0 : Int32))), .val (.int (if q1 = uu then (0 : Int32) else (1 : Int32))), .val (.long (if q1 < uu then uu else q1)), .second, .unset, .unset] [(.long (if q1 < uu then uu else q1))])) _
          refine XS.lloadN X51.here hx rfl (hb hby at_108) rfl ?_
          show Steps p.tables e below (T51.setTop (mkF m 109 #[.val (.long q1), .second, .val (.long q2), .second, .val (.int p3), .val (.int p4), .val (.int p5), .val (.long uu), .second, .val (.ref b26), .val (.ref b36), .val (.int (if uu < q1 then (1 : Int32) else (0 : Int32))), .val (.int (if q1 < uu then (1 : Int32) else (0 : Int32))), .val (.int (if q1 = uu then (0 : Int32) else (1 : Int32))), .val (.long (if q1 < uu then uu else q1)), .second, .unset, .unset] [(.long q1), (.long (if q1 < uu then uu else q1))])) _
          refine XS.lcmp X51.here hx rfl (hb hby at_109) rfl ?_
          show Steps p.tables e below (T51.setTop (mkF m 110 #[.val (.long q1), .second, .val (.long q2), .second, .val (.int p3), .val (.int p4), .val (.int p5), .val (.long uu), .second, .val (.ref b26), .val (.ref b36), .val (.int (if uu < q1 then (1 : Int32) else (0 : Int32))), .val (.int (if q1 < uu then (1 : Int32) else (0 : Int32))), .val (.int (if q1 = uu then (0 : Int32) else (1 : Int32))), .val (.long (if q1 < uu then uu else q1)), .second, .unset, .unset] [(.int (lcmpW (if q1 < uu then uu else q1) q1))])) _
          refine XS.ifYes X51.here hx rfl (pc0 := 110) (pc' := 117) rfl (hb hby at_110) rfl ((if0 _ _).trans (feq (fun q_ => hd110 ((lw_eq _ _).mp q_))).2) (by decide) (by decide) ?_
          show Steps p.tables e below (T51.setTop (mkF m 117 #[.val (.long q1), .second, .val (.long q2), .second, .val (.int p3), .val (.int p4), .val (.int p5), .val (.long uu), .second, .val (.ref b26), .val (.ref b36), .val (.int (if uu < q1 then (1 : Int32) else (0 : Int32))), .val (.int (if q1 < uu then (1 : Int32) else (0 : Int32))), .val (.int (if q1 = uu then (0 : Int32) else (1 : Int32))), .val (.long (if q1 < uu then uu else q1)), .second, .unset, .unset] [])) _
          refine XS.iconst X51.here hx rfl (hb hby at_117) ?_
          exact kt
    have md53 : ∀ t, Steps p.tables e below (T51.setTop (mkF m 138 #[.val (.long q1), .second, .val (.long q2), .second, .val (.int p3), .val (.int p4), .val (.int p5), .val (.long uu), .second, .val (.ref b26), .val (.ref b36), .val (.int (if uu < q1 then (1 : Int32) else (0 : Int32))), .val (.int (if q1 < uu then (1 : Int32) else (0 : Int32))), .val (.int (if q1 = uu then (0 : Int32) else (1 : Int32))), .val (.long (if q1 < uu then uu else q1)), .second, .val (.int (if (if q1 = uu then (0 : Int32) else (1 : Int32)) = (0 : Int32) then (0 : Int32) else (if (if q1 < uu then uu else q1) = q1 then (1 : Int32) else (0 : Int32)))), .unset] [(.int (if (if q1 = uu then (0 : Int32) else (1 : Int32)) = (0 : Int32) then (0 : Int32) else (if (if q1 < uu then uu else q1) = uu then (1 : Int32) else (0 : Int32))))])) t → Steps p.tables e below (T51.setTop (mkF m 122 #[.val (.long q1), .second, .val (.long q2), .second, .val (.int p3), .val (.int p4), .val (.int p5), .val (.long uu), .second, .val (.ref b26), .val (.ref b36), .val (.int (if uu < q1 then (1 : Int32) else (0 : Int32))), .val (.int (if q1 < uu then (1 : Int32) else (0 : Int32))), .val (.int (if q1 = uu then (0 : Int32) else (1 : Int32))), .val (.long (if q1 < uu then uu else q1)), .second, .val (.int (if (if q1 = uu then (0 : Int32) else (1 : Int32)) = (0 : Int32) then (0 : Int32) else (if (if q1 < uu then uu else q1) = q1 then (1 : Int32) else (0 : Int32)))), .unset] [(.int (if q1 = uu then (0 : Int32) else (1 : Int32)))])) t := by
      intro t kt
      by_cases hd122 : (if q1 = uu then (0 : Int32) else (1 : Int32)) = (0 : Int32)
      · rw [show (if (if q1 = uu then (0 : Int32) else (1 : Int32)) = (0 : Int32) then (0 : Int32) else (if (if q1 < uu then uu else q1) = uu then (1 : Int32) else (0 : Int32))) = (0 : Int32) from if_pos hd122] at kt
        show Steps p.tables e below (T51.setTop (mkF m 122 #[.val (.long q1), .second, .val (.long q2), .second, .val (.int p3), .val (.int p4), .val (.int p5), .val (.long uu), .second, .val (.ref b26), .val (.ref b36), .val (.int (if uu < q1 then (1 : Int32) else (0 : Int32))), .val (.int (if q1 < uu then (1 : Int32) else (0 : Int32))), .val (.int (if q1 = uu then (0 : Int32) else (1 : Int32))), .val (.long (if q1 < uu then uu else q1)), .second, .val (.int (if (if q1 = uu then (0 : Int32) else (1 : Int32)) = (0 : Int32) then (0 : Int32) else (if (if q1 < uu then uu else q1) = q1 then (1 : Int32) else (0 : Int32)))), .unset] [(.int (if q1 = uu then (0 : Int32) else (1 : Int32)))])) _
        refine XS.ifYes X51.here hx rfl (pc0 := 122) (pc' := 137) rfl (hb hby at_122) rfl ((if0 _ _).trans (teq hd122).1) (by decide) (by decide) ?_
        show Steps p.tables e below (T51.setTop (mkF m 137 #[.val (.long q1), .second, .val (.long q2), .second, .val (.int p3), .val (.int p4), .val (.int p5), .val (.long uu), .second, .val (.ref b26), .val (.ref b36), .val (.int (if uu < q1 then (1 : Int32) else (0 : Int32))), .val (.int (if q1 < uu then (1 : Int32) else (0 : Int32))), .val (.int (if q1 = uu then (0 : Int32) else (1 : Int32))), .val (.long (if q1 < uu then uu else q1)), .second, .val (.int (if (if q1 = uu then (0 : Int32) else (1 : Int32)) = (0 : Int32) then (0 : Int32) else (if (if q1 < uu then uu else q1) = q1 then (1 : Int32) else (0 : Int32)))), .unset] [])) _
        refine XS.iconst X51.here hx rfl (hb hby at_137) ?_
        exact kt
      · rw [show (if (if q1 = uu then (0 : Int32) else (1 : Int32)) = (0 : Int32) then (0 : Int32) else (if (if q1 < uu then uu else q1) = uu then (1 : Int32) else (0 : Int32))) = (if (if q1 < uu then uu else q1) = uu then (1 : Int32) else (0 : Int32)) from if_neg hd122] at kt
        by_cases hd130 : (if q1 < uu then uu else q1) = uu
        · rw [show (if (if q1 < uu then uu else q1) = uu then (1 : Int32) else (0 : Int32)) = (1 : Int32) from if_pos hd130] at kt
          show Steps p.tables e below (T51.setTop (mkF m 122 #[.val (.long q1), .second, .val (.long q2), .second, .val (.int p3), .val (.int p4), .val (.int p5), .val (.long uu), .second, .val (.ref b26), .val (.ref b36), .val (.int (if uu < q1 then (1 : Int32) else (0 : Int32))), .val (.int (if q1 < uu then (1 : Int32) else (0 : Int32))), .val (.int (if q1 = uu then (0 : Int32) else (1 : Int32))), .val (.long (if q1 < uu then uu else q1)), .second, .val (.int (if (if q1 = uu then (0 : Int32) else (1 : Int32)) = (0 : Int32) then (0 : Int32) else (if (if q1 < uu then uu else q1) = q1 then (1 : Int32) else (0 : Int32)))), .unset] [(.int (if q1 = uu then (0 : Int32) else (1 : Int32)))])) _
          refine XS.ifNo X51.here hx rfl (hb hby at_122) rfl ((if0 _ _).trans (feq hd122).1) ?_
          show Steps p.tables e below (T51.setTop (mkF m 125 #[.val (.long q1), .second, .val (.long q2), .second, .val (.int p3), .val (.int p4), .val (.int p5), .val (.long uu), .second, .val (.ref b26), .val (.ref b36), .val (.int (if uu < q1 then (1 : Int32) else (0 : Int32))), .val (.int (if q1 < uu then (1 : Int32) else (0 : Int32))), .val (.int (if q1 = uu then (0 : Int32) else (1 : Int32))), .val (.long (if q1 < uu then uu else q1)), .second, .val (.int (if (if q1 = uu then (0 : Int32) else (1 : Int32)) = (0 : Int32) then (0 : Int32) else (if (if q1 < uu then uu else q1) = q1 then (1 : Int32) else (0 : Int32)))), .unset] [])) _
          refine XS.lload X51.here hx rfl (hb hby at_125) rfl ?_
          show Steps p.tables e below (T51.setTop (mkF m 127 #[.val (.long q1), .second, .val (.long q2), .second, .val (.int p3), .val (.int p4), .val (.int p5), .val (.long uu), .second, .val (.ref b26), .val (.ref b36), .val (.int (if uu < q1 then (1 : Int32) else (0 : Int32))), .val (.int (if q1 < uu then (1 : Int32) else (0 : Int32))), .val (.int (if q1 = uu then (0 : Int32) else (1 : Int32))), .val (.long (if q1 < uu then uu else q1)), .second, .val (.int (if (if q1 = uu then (0 : Int32) else (1 : Int32)) = (0 : Int32) then (0 : Int32) else (if (if q1 < uu then uu else q1) = q1 then (1 : Int32) else (0 : Int32)))), .unset] [(.long (if q1 < uu then uu else q1))])) _
          refine XS.lload X51.here hx rfl (hb hby at_127) rfl ?_
          show Steps p.tables e below (T51.setTop (mkF m 129 #[.val (.long q1), .second, .val (.long q2), .second, .val (.int p3), .val (.int p4), .val (.int p5), .val (.long uu), .second, .val (.ref b26), .val (.ref b36), .val (.int (if uu < q1 then (1 : Int32) else (0 : Int32))), .val (.int (if q1 < uu then (1 : Int32) else (0 : Int32))), .val (.int (if q1 = uu then (0 : Int32) else (1 : Int32))), .val (.long (if q1 < uu then uu else q1)), .second, .val (.int (if (if q1 = uu then (0 : Int32) else (1 : Int32)) = (0 : Int32) then (0 : Int32) else (if (if q1 < uu then uu else q1) = q1 then (1 : Int32) else (0 : Int32)))), .unset] [(.long uu), (.long (if q1 < uu then uu else q1))])) _
          refine XS.lcmp X51.here hx rfl (hb hby at_129) rfl ?_
          show Steps p.tables e below (T51.setTop (mkF m 130 #[.val (.long q1), .second, .val (.long q2), .second, .val (.int p3), .val (.int p4), .val (.int p5), .val (.long uu), .second, .val (.ref b26), .val (.ref b36), .val (.int (if uu < q1 then (1 : Int32) else (0 : Int32))), .val (.int (if q1 < uu then (1 : Int32) else (0 : Int32))), .val (.int (if q1 = uu then (0 : Int32) else (1 : Int32))), .val (.long (if q1 < uu then uu else q1)), .second, .val (.int (if (if q1 = uu then (0 : Int32) else (1 : Int32)) = (0 : Int32) then (0 : Int32) else (if (if q1 < uu then uu else q1) = q1 then (1 : Int32) else (0 : Int32)))), .unset] [(.int (lcmpW (if q1 < uu then uu else q1) uu))])) _
          refine XS.ifNo X51.here hx rfl (hb hby at_130) rfl ((if0 _ _).trans (teq ((lw_eq _ _).mpr hd130)).2) ?_
          show Steps p.tables e below (T51.setTop (mkF m 133 #[.val (.long q1), .second, .val (.long q2), .second, .val (.int p3), .val (.int p4), .val (.int p5), .val (.long uu), .second, .val (.ref b26), .val (.ref b36), .val (.int (if uu < q1 then (1 : Int32) else (0 : Int32))), .val (.int (if q1 < uu then (1 : Int32) else (0 : Int32))), .val (.int (if q1 = uu then (0 : Int32) else (1 : Int32))), .val (.long (if q1 < uu then uu else q1)), .second, .val (.int (if (if q1 = uu then (0 : Int32) else (1 : Int32)) = (0 : Int32) then (0 : Int32) else (if (if q1 < uu then uu else q1) = q1 then (1 : Int32) else (0 : Int32)))), .unset] [])) _
          refine XS.iconst X51.here hx rfl (hb hby at_133) ?_
          show Steps p.tables e below (T51.setTop (mkF m 134 #[.val (.long q1), .second, .val (.long q2), .second, .val (.int p3), .val (.int p4), .val (.int p5), .val (.long uu), .second, .val (.ref b26), .val (.ref b36), .val (.int (if uu < q1 then (1 : Int32) else (0 : Int32))), .val (.int (if q1 < uu then (1 : Int32) else (0 : Int32))), .val (.int (if q1 = uu then (0 : Int32) else (1 : Int32))), .val (.long (if q1 < uu then uu else q1)), .second, .val (.int (if (if q1 = uu then (0 : Int32) else (1 : Int32)) = (0 : Int32) then (0 : Int32) else (if (if q1 < uu then uu else q1) = q1 then (1 : Int32) else (0 : Int32)))), .unset] [(.int (1 : Int32))])) _
          refine XS.goto X51.here hx rfl (pc0 := 134) (pc' := 138) rfl (hb hby at_134) (by decide) (by decide) ?_
          exact kt
        · rw [show (if (if q1 < uu then uu else q1) = uu then (1 : Int32) else (0 : Int32)) = (0 : Int32) from if_neg hd130] at kt
          show Steps p.tables e below (T51.setTop (mkF m 122 #[.val (.long q1), .second, .val (.long q2), .second, .val (.int p3), .val (.int p4), .val (.int p5), .val (.long uu), .second, .val (.ref b26), .val (.ref b36), .val (.int (if uu < q1 then (1 : Int32) else (0 : Int32))), .val (.int (if q1 < uu then (1 : Int32) else (0 : Int32))), .val (.int (if q1 = uu then (0 : Int32) else (1 : Int32))), .val (.long (if q1 < uu then uu else q1)), .second, .val (.int (if (if q1 = uu then (0 : Int32) else (1 : Int32)) = (0 : Int32) then (0 : Int32) else (if (if q1 < uu then uu else q1) = q1 then (1 : Int32) else (0 : Int32)))), .unset] [(.int (if q1 = uu then (0 : Int32) else (1 : Int32)))])) _
          refine XS.ifNo X51.here hx rfl (hb hby at_122) rfl ((if0 _ _).trans (feq hd122).1) ?_
          show Steps p.tables e below (T51.setTop (mkF m 125 #[.val (.long q1), .second, .val (.long q2), .second, .val (.int p3), .val (.int p4), .val (.int p5), .val (.long uu), .second, .val (.ref b26), .val (.ref b36), .val (.int (if uu < q1 then (1 : Int32) else (0 : Int32))), .val (.int (if q1 < uu then (1 : Int32) else (0 : Int32))), .val (.int (if q1 = uu then (0 : Int32) else (1 : Int32))), .val (.long (if q1 < uu then uu else q1)), .second, .val (.int (if (if q1 = uu then (0 : Int32) else (1 : Int32)) = (0 : Int32) then (0 : Int32) else (if (if q1 < uu then uu else q1) = q1 then (1 : Int32) else (0 : Int32)))), .unset] [])) _
          refine XS.lload X51.here hx rfl (hb hby at_125) rfl ?_
          show Steps p.tables e below (T51.setTop (mkF m 127 #[.val (.long q1), .second, .val (.long q2), .second, .val (.int p3), .val (.int p4), .val (.int p5), .val (.long uu), .second, .val (.ref b26), .val (.ref b36), .val (.int (if uu < q1 then (1 : Int32) else (0 : Int32))), .val (.int (if q1 < uu then (1 : Int32) else (0 : Int32))), .val (.int (if q1 = uu then (0 : Int32) else (1 : Int32))), .val (.long (if q1 < uu then uu else q1)), .second, .val (.int (if (if q1 = uu then (0 : Int32) else (1 : Int32)) = (0 : Int32) then (0 : Int32) else (if (if q1 < uu then uu else q1) = q1 then (1 : Int32) else (0 : Int32)))), .unset] [(.long (if q1 < uu then uu else q1))])) _
          refine XS.lload X51.here hx rfl (hb hby at_127) rfl ?_
          show Steps p.tables e below (T51.setTop (mkF m 129 #[.val (.long q1), .second, .val (.long q2), .second, .val (.int p3), .val (.int p4), .val (.int p5), .val (.long uu), .second, .val (.ref b26), .val (.ref b36), .val (.int (if uu < q1 then (1 : Int32) else (0 : Int32))), .val (.int (if q1 < uu then (1 : Int32) else (0 : Int32))), .val (.int (if q1 = uu then (0 : Int32) else (1 : Int32))), .val (.long (if q1 < uu then uu else q1)), .second, .val (.int (if (if q1 = uu then (0 : Int32) else (1 : Int32)) = (0 : Int32) then (0 : Int32) else (if (if q1 < uu then uu else q1) = q1 then (1 : Int32) else (0 : Int32)))), .unset] [(.long uu), (.long (if q1 < uu then uu else q1))])) _
          refine XS.lcmp X51.here hx rfl (hb hby at_129) rfl ?_
          show Steps p.tables e below (T51.setTop (mkF m 130 #[.val (.long q1), .second, .val (.long q2), .second, .val (.int p3), .val (.int p4), .val (.int p5), .val (.long uu), .second, .val (.ref b26), .val (.ref b36), .val (.int (if uu < q1 then (1 : Int32) else (0 : Int32))), .val (.int (if q1 < uu then (1 : Int32) else (0 : Int32))), .val (.int (if q1 = uu then (0 : Int32) else (1 : Int32))), .val (.long (if q1 < uu then uu else q1)), .second, .val (.int (if (if q1 = uu then (0 : Int32) else (1 : Int32)) = (0 : Int32) then (0 : Int32) else (if (if q1 < uu then uu else q1) = q1 then (1 : Int32) else (0 : Int32)))), .unset] [(.int (lcmpW (if q1 < uu then uu else q1) uu))])) _
          refine XS.ifYes X51.here hx rfl (pc0 := 130) (pc' := 137) rfl (hb hby at_130) rfl ((if0 _ _).trans (feq (fun q_ => hd130 ((lw_eq _ _).mp q_))).2) (by decide) (by decide) ?_
          show Steps p.tables e below (T51.setTop (mkF m 137 #[.val (.long q1), .second, .val (.long q2), .second, .val (.int p3), .val (.int p4), .val (.int p5), .val (.long uu), .second, .val (.ref b26), .val (.ref b36), .val (.int (if uu < q1 then (1 : Int32) else (0 : Int32))), .val (.int (if q1 < uu then (1 : Int32) else (0 : Int32))), .val (.int (if q1 = uu then (0 : Int32) else (1 : Int32))), .val (.long (if q1 < uu then uu else q1)), .second, .val (.int (if (if q1 = uu then (0 : Int32) else (1 : Int32)) = (0 : Int32) then (0 : Int32) else (if (if q1 < uu then uu else q1) = q1 then (1 : Int32) else (0 : Int32)))), .unset] [])) _
          refine XS.iconst X51.here hx rfl (hb hby at_137) ?_
          exact kt
    have hc144 : (if uu < q1 then (1 : Int32) else (0 : Int32)) = (if (if q1 = uu then (0 : Int32) else (1 : Int32)) = (0 : Int32) then (0 : Int32) else (if (if q1 < uu then uu else q1) = q1 then (1 : Int32) else (0 : Int32))) := own_fwd q1 uu
    have hc151 : (if q1 < uu then (1 : Int32) else (0 : Int32)) = (if (if q1 = uu then (0 : Int32) else (1 : Int32)) = (0 : Int32) then (0 : Int32) else (if (if q1 < uu then uu else q1) = uu then (1 : Int32) else (0 : Int32))) := own_bwd q1 uu
    obtain ⟨fs, hr, hrun, hended, hRW⟩ := X51.leaveW (s := s) (vm₁ := T38.vm) hS38 (by rw [e51]; exact (Nat.le_trans hk38 K45.1)) (v := some (.int (1 : Int32))) (fun h => by rw [Bd.returns] at h; cases h)
    refine ⟨_, _, pre0 _ ?_, hrun, hended, _, _, rfl, ?_, hRW.1, hRW.2.1, hRW.2.2.1, hRW.2.2.2.mono (by decide) (by decide)⟩
    · show Steps p.tables e below (s₁.setTop (mkF m 0 #[.val (.long q1), .second, .val (.long q2), .second, .val (.int p3), .val (.int p4), .val (.int p5), .unset, .unset, .unset, .unset, .unset, .unset, .unset, .unset, .unset, .unset, .unset] [])) _
      refine XS.iload X0.here hx rfl (hb hby at_0) rfl ?_
      show Steps p.tables e below (s₁.setTop (mkF m 2 #[.val (.long q1), .second, .val (.long q2), .second, .val (.int p3), .val (.int p4), .val (.int p5), .unset, .unset, .unset, .unset, .unset, .unset, .unset, .unset, .unset, .unset, .unset] [(.int p5)])) _
      refine XS.iconst X0.here hx rfl (hb hby at_2) ?_
      show Steps p.tables e below (s₁.setTop (mkF m 3 #[.val (.long q1), .second, .val (.long q2), .second, .val (.int p3), .val (.int p4), .val (.int p5), .unset, .unset, .unset, .unset, .unset, .unset, .unset, .unset, .unset, .unset, .unset] [(.int (2 : Int32)), (.int p5)])) _
      refine XS.iand X0.here hx rfl (hb hby at_3) rfl ?_
      show Steps p.tables e below (s₁.setTop (mkF m 4 #[.val (.long q1), .second, .val (.long q2), .second, .val (.int p3), .val (.int p4), .val (.int p5), .unset, .unset, .unset, .unset, .unset, .unset, .unset, .unset, .unset, .unset, .unset] [(.int (p5 &&& (2 : Int32)))])) _
      refine md25 _ ?_
      show Steps p.tables e below (s₁.setTop (mkF m 12 #[.val (.long q1), .second, .val (.long q2), .second, .val (.int p3), .val (.int p4), .val (.int p5), .unset, .unset, .unset, .unset, .unset, .unset, .unset, .unset, .unset, .unset, .unset] [(.long (if (p5 &&& (2 : Int32)) = (0 : Int32) then q2 else q1))])) _
      refine XS.lstore X0.here hx rfl (hb hby at_12) rfl (l' := #[.val (.long q1), .second, .val (.long q2), .second, .val (.int p3), .val (.int p4), .val (.int p5), .val (.long (if (p5 &&& (2 : Int32)) = (0 : Int32) then q2 else q1)), .second, .unset, .unset, .unset, .unset, .unset, .unset, .unset, .unset, .unset]) rfl ?_
      show Steps p.tables e below (s₁.setTop (mkF m 14 #[.val (.long q1), .second, .val (.long q2), .second, .val (.int p3), .val (.int p4), .val (.int p5), .val (.long (if (p5 &&& (2 : Int32)) = (0 : Int32) then q2 else q1)), .second, .unset, .unset, .unset, .unset, .unset, .unset, .unset, .unset, .unset] [])) _
      rw [← e_uu]
      show Steps p.tables e below (s₁.setTop (mkF m 14 #[.val (.long q1), .second, .val (.long q2), .second, .val (.int p3), .val (.int p4), .val (.int p5), .val (.long uu), .second, .unset, .unset, .unset, .unset, .unset, .unset, .unset, .unset, .unset] [])) _
      refine st26 _ ?_
      show Steps p.tables e below (T26.setTop (mkF m 17 #[.val (.long q1), .second, .val (.long q2), .second, .val (.int p3), .val (.int p4), .val (.int p5), .val (.long uu), .second, .unset, .unset, .unset, .unset, .unset, .unset, .unset, .unset, .unset] [(.ref b26)])) _
      refine XS.dup X26.here hx rfl (hb hby at_17) rfl rfl ?_
      show Steps p.tables e below (T26.setTop (mkF m 18 #[.val (.long q1), .second, .val (.long q2), .second, .val (.int p3), .val (.int p4), .val (.int p5), .val (.long uu), .second, .unset, .unset, .unset, .unset, .unset, .unset, .unset, .unset, .unset] [(.ref b26), (.ref b26)])) _
      refine XS.lloadN X26.here hx rfl (hb hby at_18) rfl ?_
      show Steps p.tables e below (T26.setTop (mkF m 19 #[.val (.long q1), .second, .val (.long q2), .second, .val (.int p3), .val (.int p4), .val (.int p5), .val (.long uu), .second, .unset, .unset, .unset, .unset, .unset, .unset, .unset, .unset, .unset] [(.long q1), (.ref b26), (.ref b26)])) _
      refine st27 _ ?_
      show Steps p.tables e below (T27.setTop (mkF m 21 #[.val (.long q1), .second, .val (.long q2), .second, .val (.int p3), .val (.int p4), .val (.int p5), .val (.long uu), .second, .unset, .unset, .unset, .unset, .unset, .unset, .unset, .unset, .unset] [(.ref a27), (.long q1), (.ref b26), (.ref b26)])) _
      refine st28 _ ?_
      show Steps p.tables e below (T28.setTop (mkF m 23 #[.val (.long q1), .second, .val (.long q2), .second, .val (.int p3), .val (.int p4), .val (.int p5), .val (.long uu), .second, .unset, .unset, .unset, .unset, .unset, .unset, .unset, .unset, .unset] [(.ref a28), (.ref a27), (.long q1), (.ref b26), (.ref b26)])) _
      refine XS.iload X28.here hx rfl (hb hby at_23) rfl ?_
      show Steps p.tables e below (T28.setTop (mkF m 25 #[.val (.long q1), .second, .val (.long q2), .second, .val (.int p3), .val (.int p4), .val (.int p5), .val (.long uu), .second, .unset, .unset, .unset, .unset, .unset, .unset, .unset, .unset, .unset] [(.int p3), (.ref a28), (.ref a27), (.long q1), (.ref b26), (.ref b26)])) _
      refine st35.trans ?_
      show Steps p.tables e below (T35.setTop (mkF m 28 #[.val (.long q1), .second, .val (.long q2), .second, .val (.int p3), .val (.int p4), .val (.int p5), .val (.long uu), .second, .unset, .unset, .unset, .unset, .unset, .unset, .unset, .unset, .unset] [(.ref b26)])) _
      refine XS.astore X35.here hx rfl (hb hby at_28) rfl rfl (l' := #[.val (.long q1), .second, .val (.long q2), .second, .val (.int p3), .val (.int p4), .val (.int p5), .val (.long uu), .second, .val (.ref b26), .unset, .unset, .unset, .unset, .unset, .unset, .unset, .unset]) rfl ?_
      show Steps p.tables e below (T35.setTop (mkF m 30 #[.val (.long q1), .second, .val (.long q2), .second, .val (.int p3), .val (.int p4), .val (.int p5), .val (.long uu), .second, .val (.ref b26), .unset, .unset, .unset, .unset, .unset, .unset, .unset, .unset] [])) _
      refine XS.iload X35.here hx rfl (hb hby at_30) rfl ?_
      show Steps p.tables e below (T35.setTop (mkF m 32 #[.val (.long q1), .second, .val (.long q2), .second, .val (.int p3), .val (.int p4), .val (.int p5), .val (.long uu), .second, .val (.ref b26), .unset, .unset, .unset, .unset, .unset, .unset, .unset, .unset] [(.int p5)])) _
      refine XS.iconst X35.here hx rfl (hb hby at_32) ?_
      show Steps p.tables e below (T35.setTop (mkF m 33 #[.val (.long q1), .second, .val (.long q2), .second, .val (.int p3), .val (.int p4), .val (.int p5), .val (.long uu), .second, .val (.ref b26), .unset, .unset, .unset, .unset, .unset, .unset, .unset, .unset] [(.int (1 : Int32)), (.int p5)])) _
      refine XS.iand X35.here hx rfl (hb hby at_33) rfl ?_
      show Steps p.tables e below (T35.setTop (mkF m 34 #[.val (.long q1), .second, .val (.long q2), .second, .val (.int p3), .val (.int p4), .val (.int p5), .val (.long uu), .second, .val (.ref b26), .unset, .unset, .unset, .unset, .unset, .unset, .unset, .unset] [(.int (p5 &&& (1 : Int32)))])) _
      refine XS.ifYes X35.here hx rfl (pc0 := 34) (pc' := 44) rfl (hb hby at_34) rfl ((if0 _ _).trans (teq hc34).1) (by decide) (by decide) ?_
      show Steps p.tables e below (T35.setTop (mkF m 44 #[.val (.long q1), .second, .val (.long q2), .second, .val (.int p3), .val (.int p4), .val (.int p5), .val (.long uu), .second, .val (.ref b26), .unset, .unset, .unset, .unset, .unset, .unset, .unset, .unset] [])) _
      refine st36 _ ?_
      show Steps p.tables e below (T36.setTop (mkF m 47 #[.val (.long q1), .second, .val (.long q2), .second, .val (.int p3), .val (.int p4), .val (.int p5), .val (.long uu), .second, .val (.ref b26), .unset, .unset, .unset, .unset, .unset, .unset, .unset, .unset] [(.ref b36)])) _
      refine XS.dup X36.here hx rfl (hb hby at_47) rfl rfl ?_
      show Steps p.tables e below (T36.setTop (mkF m 48 #[.val (.long q1), .second, .val (.long q2), .second, .val (.int p3), .val (.int p4), .val (.int p5), .val (.long uu), .second, .val (.ref b26), .unset, .unset, .unset, .unset, .unset, .unset, .unset, .unset] [(.ref b36), (.ref b36)])) _
      refine XS.lload X36.here hx rfl (hb hby at_48) rfl ?_
      show Steps p.tables e below (T36.setTop (mkF m 50 #[.val (.long q1), .second, .val (.long q2), .second, .val (.int p3), .val (.int p4), .val (.int p5), .val (.long uu), .second, .val (.ref b26), .unset, .unset, .unset, .unset, .unset, .unset, .unset, .unset] [(.long uu), (.ref b36), (.ref b36)])) _
      refine st37 _ ?_
      show Steps p.tables e below (T37.setTop (mkF m 52 #[.val (.long q1), .second, .val (.long q2), .second, .val (.int p3), .val (.int p4), .val (.int p5), .val (.long uu), .second, .val (.ref b26), .unset, .unset, .unset, .unset, .unset, .unset, .unset, .unset] [(.ref a37), (.long uu), (.ref b36), (.ref b36)])) _
      refine st38 _ ?_
      show Steps p.tables e below (T38.setTop (mkF m 54 #[.val (.long q1), .second, .val (.long q2), .second, .val (.int p3), .val (.int p4), .val (.int p5), .val (.long uu), .second, .val (.ref b26), .unset, .unset, .unset, .unset, .unset, .unset, .unset, .unset] [(.ref a38), (.ref a37), (.long uu), (.ref b36), (.ref b36)])) _
      refine XS.iload X38.here hx rfl (hb hby at_54) rfl ?_
      show Steps p.tables e below (T38.setTop (mkF m 56 #[.val (.long q1), .second, .val (.long q2), .second, .val (.int p3), .val (.int p4), .val (.int p5), .val (.long uu), .second, .val (.ref b26), .unset, .unset, .unset, .unset, .unset, .unset, .unset, .unset] [(.int p4), (.ref a38), (.ref a37), (.long uu), (.ref b36), (.ref b36)])) _
      refine st45.trans ?_
      show Steps p.tables e below (T45.setTop (mkF m 59 #[.val (.long q1), .second, .val (.long q2), .second, .val (.int p3), .val (.int p4), .val (.int p5), .val (.long uu), .second, .val (.ref b26), .unset, .unset, .unset, .unset, .unset, .unset, .unset, .unset] [(.ref b36)])) _
      refine XS.astore X45.here hx rfl (hb hby at_59) rfl rfl (l' := #[.val (.long q1), .second, .val (.long q2), .second, .val (.int p3), .val (.int p4), .val (.int p5), .val (.long uu), .second, .val (.ref b26), .val (.ref b36), .unset, .unset, .unset, .unset, .unset, .unset, .unset]) rfl ?_
      show Steps p.tables e below (T45.setTop (mkF m 61 #[.val (.long q1), .second, .val (.long q2), .second, .val (.int p3), .val (.int p4), .val (.int p5), .val (.long uu), .second, .val (.ref b26), .val (.ref b36), .unset, .unset, .unset, .unset, .unset, .unset, .unset] [])) _
      refine XS.aload X45.here hx rfl (hb hby at_61) rfl rfl ?_
      show Steps p.tables e below (T45.setTop (mkF m 63 #[.val (.long q1), .second, .val (.long q2), .second, .val (.int p3), .val (.int p4), .val (.int p5), .val (.long uu), .second, .val (.ref b26), .val (.ref b36), .unset, .unset, .unset, .unset, .unset, .unset, .unset] [(.ref b26)])) _
      refine XS.aload X45.here hx rfl (hb hby at_63) rfl rfl ?_
      show Steps p.tables e below (T45.setTop (mkF m 65 #[.val (.long q1), .second, .val (.long q2), .second, .val (.int p3), .val (.int p4), .val (.int p5), .val (.long uu), .second, .val (.ref b26), .val (.ref b36), .unset, .unset, .unset, .unset, .unset, .unset, .unset] [(.ref b36), (.ref b26)])) _
      refine st47.trans ?_
      show Steps p.tables e below (T47.setTop (mkF m 68 #[.val (.long q1), .second, .val (.long q2), .second, .val (.int p3), .val (.int p4), .val (.int p5), .val (.long uu), .second, .val (.ref b26), .val (.ref b36), .unset, .unset, .unset, .unset, .unset, .unset, .unset] [(.int (if uu < q1 then (1 : Int32) else (0 : Int32)))])) _
      refine XS.istore X47.here hx rfl (hb hby at_68) rfl (l' := #[.val (.long q1), .second, .val (.long q2), .second, .val (.int p3), .val (.int p4), .val (.int p5), .val (.long uu), .second, .val (.ref b26), .val (.ref b36), .val (.int (if uu < q1 then (1 : Int32) else (0 : Int32))), .unset, .unset, .unset, .unset, .unset, .unset]) rfl ?_
      show Steps p.tables e below (T47.setTop (mkF m 70 #[.val (.long q1), .second, .val (.long q2), .second, .val (.int p3), .val (.int p4), .val (.int p5), .val (.long uu), .second, .val (.ref b26), .val (.ref b36), .val (.int (if uu < q1 then (1 : Int32) else (0 : Int32))), .unset, .unset, .unset, .unset, .unset, .unset] [])) _
      refine XS.aload X47.here hx rfl (hb hby at_70) rfl rfl ?_
      show Steps p.tables e below (T47.setTop (mkF m 72 #[.val (.long q1), .second, .val (.long q2), .second, .val (.int p3), .val (.int p4), .val (.int p5), .val (.long uu), .second, .val (.ref b26), .val (.ref b36), .val (.int (if uu < q1 then (1 : Int32) else (0 : Int32))), .unset, .unset, .unset, .unset, .unset, .unset] [(.ref b36)])) _
      refine XS.aload X47.here hx rfl (hb hby at_72) rfl rfl ?_
      show Steps p.tables e below (T47.setTop (mkF m 74 #[.val (.long q1), .second, .val (.long q2), .second, .val (.int p3), .val (.int p4), .val (.int p5), .val (.long uu), .second, .val (.ref b26), .val (.ref b36), .val (.int (if uu < q1 then (1 : Int32) else (0 : Int32))), .unset, .unset, .unset, .unset, .unset, .unset] [(.ref b26), (.ref b36)])) _
      refine st49.trans ?_
      show Steps p.tables e below (T49.setTop (mkF m 77 #[.val (.long q1), .second, .val (.long q2), .second, .val (.int p3), .val (.int p4), .val (.int p5), .val (.long uu), .second, .val (.ref b26), .val (.ref b36), .val (.int (if uu < q1 then (1 : Int32) else (0 : Int32))), .unset, .unset, .unset, .unset, .unset, .unset] [(.int (if q1 < uu then (1 : Int32) else (0 : Int32)))])) _
      refine XS.istore X49.here hx rfl (hb hby at_77) rfl (l' := #[.val (.long q1), .second, .val (.long q2), .second, .val (.int p3), .val (.int p4), .val (.int p5), .val (.long uu), .second, .val (.ref b26), .val (.ref b36), .val (.int (if uu < q1 then (1 : Int32) else (0 : Int32))), .val (.int (if q1 < uu then (1 : Int32) else (0 : Int32))), .unset, .unset, .unset, .unset, .unset]) rfl ?_
      show Steps p.tables e below (T49.setTop (mkF m 79 #[.val (.long q1), .second, .val (.long q2), .second, .val (.int p3), .val (.int p4), .val (.int p5), .val (.long uu), .second, .val (.ref b26), .val (.ref b36), .val (.int (if uu < q1 then (1 : Int32) else (0 : Int32))), .val (.int (if q1 < uu then (1 : Int32) else (0 : Int32))), .unset, .unset, .unset, .unset, .unset] [])) _
      refine XS.lloadN X49.here hx rfl (hb hby at_79) rfl ?_
      show Steps p.tables e below (T49.setTop (mkF m 80 #[.val (.long q1), .second, .val (.long q2), .second, .val (.int p3), .val (.int p4), .val (.int p5), .val (.long uu), .second, .val (.ref b26), .val (.ref b36), .val (.int (if uu < q1 then (1 : Int32) else (0 : Int32))), .val (.int (if q1 < uu then (1 : Int32) else (0 : Int32))), .unset, .unset, .unset, .unset, .unset] [(.long q1)])) _
      refine XS.lload X49.here hx rfl (hb hby at_80) rfl ?_
      show Steps p.tables e below (T49.setTop (mkF m 82 #[.val (.long q1), .second, .val (.long q2), .second, .val (.int p3), .val (.int p4), .val (.int p5), .val (.long uu), .second, .val (.ref b26), .val (.ref b36), .val (.int (if uu < q1 then (1 : Int32) else (0 : Int32))), .val (.int (if q1 < uu then (1 : Int32) else (0 : Int32))), .unset, .unset, .unset, .unset, .unset] [(.long uu), (.long q1)])) _
      refine XS.lcmp X49.here hx rfl (hb hby at_82) rfl ?_
      show Steps p.tables e below (T49.setTop (mkF m 83 #[.val (.long q1), .second, .val (.long q2), .second, .val (.int p3), .val (.int p4), .val (.int p5), .val (.long uu), .second, .val (.ref b26), .val (.ref b36), .val (.int (if uu < q1 then (1 : Int32) else (0 : Int32))), .val (.int (if q1 < uu then (1 : Int32) else (0 : Int32))), .unset, .unset, .unset, .unset, .unset] [(.int (lcmpW q1 uu))])) _
      refine md50 _ ?_
      show Steps p.tables e below (T49.setTop (mkF m 91 #[.val (.long q1), .second, .val (.long q2), .second, .val (.int p3), .val (.int p4), .val (.int p5), .val (.long uu), .second, .val (.ref b26), .val (.ref b36), .val (.int (if uu < q1 then (1 : Int32) else (0 : Int32))), .val (.int (if q1 < uu then (1 : Int32) else (0 : Int32))), .unset, .unset, .unset, .unset, .unset] [(.int (if q1 = uu then (0 : Int32) else (1 : Int32)))])) _
      refine XS.istore X49.here hx rfl (hb hby at_91) rfl (l' := #[.val (.long q1), .second, .val (.long q2), .second, .val (.int p3), .val (.int p4), .val (.int p5), .val (.long uu), .second, .val (.ref b26), .val (.ref b36), .val (.int (if uu < q1 then (1 : Int32) else (0 : Int32))), .val (.int (if q1 < uu then (1 : Int32) else (0 : Int32))), .val (.int (if q1 = uu then (0 : Int32) else (1 : Int32))), .unset, .unset, .unset, .unset]) rfl ?_
      show Steps p.tables e below (T49.setTop (mkF m 93 #[.val (.long q1), .second, .val (.long q2), .second, .val (.int p3), .val (.int p4), .val (.int p5), .val (.long uu), .second, .val (.ref b26), .val (.ref b36), .val (.int (if uu < q1 then (1 : Int32) else (0 : Int32))), .val (.int (if q1 < uu then (1 : Int32) else (0 : Int32))), .val (.int (if q1 = uu then (0 : Int32) else (1 : Int32))), .unset, .unset, .unset, .unset] [])) _
      refine XS.lloadN X49.here hx rfl (hb hby at_93) rfl ?_
      show Steps p.tables e below (T49.setTop (mkF m 94 #[.val (.long q1), .second, .val (.long q2), .second, .val (.int p3), .val (.int p4), .val (.int p5), .val (.long uu), .second, .val (.ref b26), .val (.ref b36), .val (.int (if uu < q1 then (1 : Int32) else (0 : Int32))), .val (.int (if q1 < uu then (1 : Int32) else (0 : Int32))), .val (.int (if q1 = uu then (0 : Int32) else (1 : Int32))), .unset, .unset, .unset, .unset] [(.long q1)])) _
      refine XS.lload X49.here hx rfl (hb hby at_94) rfl ?_
      show Steps p.tables e below (T49.setTop (mkF m 96 #[.val (.long q1), .second, .val (.long q2), .second, .val (.int p3), .val (.int p4), .val (.int p5), .val (.long uu), .second, .val (.ref b26), .val (.ref b36), .val (.int (if uu < q1 then (1 : Int32) else (0 : Int32))), .val (.int (if q1 < uu then (1 : Int32) else (0 : Int32))), .val (.int (if q1 = uu then (0 : Int32) else (1 : Int32))), .unset, .unset, .unset, .unset] [(.long uu), (.long q1)])) _
      refine st51 _ ?_
      show Steps p.tables e below (T51.setTop (mkF m 99 #[.val (.long q1), .second, .val (.long q2), .second, .val (.int p3), .val (.int p4), .val (.int p5), .val (.long uu), .second, .val (.ref b26), .val (.ref b36), .val (.int (if uu < q1 then (1 : Int32) else (0 : Int32))), .val (.int (if q1 < uu then (1 : Int32) else (0 : Int32))), .val (.int (if q1 = uu then (0 : Int32) else (1 : Int32))), .unset, .unset, .unset, .unset] [(.long (if q1 < uu then uu else q1))])) _
      refine XS.lstore X51.here hx rfl (hb hby at_99) rfl (l' := #[.val (.long q1), .second, .val (.long q2), .second, .val (.int p3), .val (.int p4), .val (.int p5), .val (.long uu), .second, .val (.ref b26), .val (.ref b36), .val (.int (if uu < q1 then (1 : Int32) else (0 : Int32))), .val (.int (if q1 < uu then (1 : Int32) else (0 : Int32))), .val (.int (if q1 = uu then (0 : Int32) else (1 : Int32))), .val (.long (if q1 < uu then uu else q1)), .second, .unset, .unset]) rfl ?_
      show Steps p.tables e below (T51.setTop (mkF m 101 #[.val (.long q1), .second, .val (.long q2), .second, .val (.int p3), .val (.int p4), .val (.int p5), .val (.long uu), .second, .val (.ref b26), .val (.ref b36), .val (.int (if uu < q1 then (1 : Int32) else (0 : Int32))), .val (.int (if q1 < uu then (1 : Int32) else (0 : Int32))), .val (.int (if q1 = uu then (0 : Int32) else (1 : Int32))), .val (.long (if q1 < uu then uu else q1)), .second, .unset, .unset] [])) _
      refine XS.iload X51.here hx rfl (hb hby at_101) rfl ?_
      show Steps p.tables e below (T51.setTop (mkF m 103 #[.val (.long q1), .second, .val (.long q2), .second, .val (.int p3), .val (.int p4), .val (.int p5), .val (.long uu), .second, .val (.ref b26), .val (.ref b36), .val (.int (if uu < q1 then (1 : Int32) else (0 : Int32))), .val (.int (if q1 < uu then (1 : Int32) else (0 : Int32))), .val (.int (if q1 = uu then (0 : Int32) else (1 : Int32))), .val (.long (if q1 < uu then uu else q1)), .second, .unset, .unset] [(.int (if q1 = uu then (0 : Int32) else (1 : Int32)))])) _
      refine md52 _ ?_
      show Steps p.tables e below (T51.setTop (mkF m 118 #[.val (.long q1), .second, .val (.long q2), .second, .val (.int p3), .val (.int p4), .val (.int p5), .val (.long uu), .second, .val (.ref b26), .val (.ref b36), .val (.int (if uu < q1 then (1 : Int32) else (0 : Int32))), .val (.int (if q1 < uu then (1 : Int32) else (0 : Int32))), .val (.int (if q1 = uu then (0 : Int32) else (1 : Int32))), .val (.long (if q1 < uu then uu else q1)), .second, .unset, .unset] [(.int (if (if q1 = uu then (0 : Int32) else (1 : Int32)) = (0 : Int32) then (0 : Int32) else (if (if q1 < uu then uu else q1) = q1 then (1 : Int32) else (0 : Int32))))])) _
      refine XS.istore X51.here hx rfl (hb hby at_118) rfl (l' := #[.val (.long q1), .second, .val (.long q2), .second, .val (.int p3), .val (.int p4), .val (.int p5), .val (.long uu), .second, .val (.ref b26), .val (.ref b36), .val (.int (if uu < q1 then (1 : Int32) else (0 : Int32))), .val (.int (if q1 < uu then (1 : Int32) else (0 : Int32))), .val (.int (if q1 = uu then (0 : Int32) else (1 : Int32))), .val (.long (if q1 < uu then uu else q1)), .second, .val (.int (if (if q1 = uu then (0 : Int32) else (1 : Int32)) = (0 : Int32) then (0 : Int32) else (if (if q1 < uu then uu else q1) = q1 then (1 : Int32) else (0 : Int32)))), .unset]) rfl ?_
      show Steps p.tables e below (T51.setTop (mkF m 120 #[.val (.long q1), .second, .val (.long q2), .second, .val (.int p3), .val (.int p4), .val (.int p5), .val (.long uu), .second, .val (.ref b26), .val (.ref b36), .val (.int (if uu < q1 then (1 : Int32) else (0 : Int32))), .val (.int (if q1 < uu then (1 : Int32) else (0 : Int32))), .val (.int (if q1 = uu then (0 : Int32) else (1 : Int32))), .val (.long (if q1 < uu then uu else q1)), .second, .val (.int (if (if q1 = uu then (0 : Int32) else (1 : Int32)) = (0 : Int32) then (0 : Int32) else (if (if q1 < uu then uu else q1) = q1 then (1 : Int32) else (0 : Int32)))), .unset] [])) _
      refine XS.iload X51.here hx rfl (hb hby at_120) rfl ?_
      show Steps p.tables e below (T51.setTop (mkF m 122 #[.val (.long q1), .second, .val (.long q2), .second, .val (.int p3), .val (.int p4), .val (.int p5), .val (.long uu), .second, .val (.ref b26), .val (.ref b36), .val (.int (if uu < q1 then (1 : Int32) else (0 : Int32))), .val (.int (if q1 < uu then (1 : Int32) else (0 : Int32))), .val (.int (if q1 = uu then (0 : Int32) else (1 : Int32))), .val (.long (if q1 < uu then uu else q1)), .second, .val (.int (if (if q1 = uu then (0 : Int32) else (1 : Int32)) = (0 : Int32) then (0 : Int32) else (if (if q1 < uu then uu else q1) = q1 then (1 : Int32) else (0 : Int32)))), .unset] [(.int (if q1 = uu then (0 : Int32) else (1 : Int32)))])) _
      refine md53 _ ?_
      show Steps p.tables e below (T51.setTop (mkF m 138 #[.val (.long q1), .second, .val (.long q2), .second, .val (.int p3), .val (.int p4), .val (.int p5), .val (.long uu), .second, .val (.ref b26), .val (.ref b36), .val (.int (if uu < q1 then (1 : Int32) else (0 : Int32))), .val (.int (if q1 < uu then (1 : Int32) else (0 : Int32))), .val (.int (if q1 = uu then (0 : Int32) else (1 : Int32))), .val (.long (if q1 < uu then uu else q1)), .second, .val (.int (if (if q1 = uu then (0 : Int32) else (1 : Int32)) = (0 : Int32) then (0 : Int32) else (if (if q1 < uu then uu else q1) = q1 then (1 : Int32) else (0 : Int32)))), .unset] [(.int (if (if q1 = uu then (0 : Int32) else (1 : Int32)) = (0 : Int32) then (0 : Int32) else (if (if q1 < uu then uu else q1) = uu then (1 : Int32) else (0 : Int32))))])) _
      refine XS.istore X51.here hx rfl (hb hby at_138) rfl (l' := #[.val (.long q1), .second, .val (.long q2), .second, .val (.int p3), .val (.int p4), .val (.int p5), .val (.long uu), .second, .val (.ref b26), .val (.ref b36), .val (.int (if uu < q1 then (1 : Int32) else (0 : Int32))), .val (.int (if q1 < uu then (1 : Int32) else (0 : Int32))), .val (.int (if q1 = uu then (0 : Int32) else (1 : Int32))), .val (.long (if q1 < uu then uu else q1)), .second, .val (.int (if (if q1 = uu then (0 : Int32) else (1 : Int32)) = (0 : Int32) then (0 : Int32) else (if (if q1 < uu then uu else q1) = q1 then (1 : Int32) else (0 : Int32)))), .val (.int (if (if q1 = uu then (0 : Int32) else (1 : Int32)) = (0 : Int32) then (0 : Int32) else (if (if q1 < uu then uu else q1) = uu then (1 : Int32) else (0 : Int32))))]) rfl ?_
      show Steps p.tables e below (T51.setTop (mkF m 140 #[.val (.long q1), .second, .val (.long q2), .second, .val (.int p3), .val (.int p4), .val (.int p5), .val (.long uu), .second, .val (.ref b26), .val (.ref b36), .val (.int (if uu < q1 then (1 : Int32) else (0 : Int32))), .val (.int (if q1 < uu then (1 : Int32) else (0 : Int32))), .val (.int (if q1 = uu then (0 : Int32) else (1 : Int32))), .val (.long (if q1 < uu then uu else q1)), .second, .val (.int (if (if q1 = uu then (0 : Int32) else (1 : Int32)) = (0 : Int32) then (0 : Int32) else (if (if q1 < uu then uu else q1) = q1 then (1 : Int32) else (0 : Int32)))), .val (.int (if (if q1 = uu then (0 : Int32) else (1 : Int32)) = (0 : Int32) then (0 : Int32) else (if (if q1 < uu then uu else q1) = uu then (1 : Int32) else (0 : Int32))))] [])) _
      refine XS.iload X51.here hx rfl (hb hby at_140) rfl ?_
      show Steps p.tables e below (T51.setTop (mkF m 142 #[.val (.long q1), .second, .val (.long q2), .second, .val (.int p3), .val (.int p4), .val (.int p5), .val (.long uu), .second, .val (.ref b26), .val (.ref b36), .val (.int (if uu < q1 then (1 : Int32) else (0 : Int32))), .val (.int (if q1 < uu then (1 : Int32) else (0 : Int32))), .val (.int (if q1 = uu then (0 : Int32) else (1 : Int32))), .val (.long (if q1 < uu then uu else q1)), .second, .val (.int (if (if q1 = uu then (0 : Int32) else (1 : Int32)) = (0 : Int32) then (0 : Int32) else (if (if q1 < uu then uu else q1) = q1 then (1 : Int32) else (0 : Int32)))), .val (.int (if (if q1 = uu then (0 : Int32) else (1 : Int32)) = (0 : Int32) then (0 : Int32) else (if (if q1 < uu then uu else q1) = uu then (1 : Int32) else (0 : Int32))))] [(.int (if uu < q1 then (1 : Int32) else (0 : Int32)))])) _
      refine XS.iload X51.here hx rfl (hb hby at_142) rfl ?_
      show Steps p.tables e below (T51.setTop (mkF m 144 #[.val (.long q1), .second, .val (.long q2), .second, .val (.int p3), .val (.int p4), .val (.int p5), .val (.long uu), .second, .val (.ref b26), .val (.ref b36), .val (.int (if uu < q1 then (1 : Int32) else (0 : Int32))), .val (.int (if q1 < uu then (1 : Int32) else (0 : Int32))), .val (.int (if q1 = uu then (0 : Int32) else (1 : Int32))), .val (.long (if q1 < uu then uu else q1)), .second, .val (.int (if (if q1 = uu then (0 : Int32) else (1 : Int32)) = (0 : Int32) then (0 : Int32) else (if (if q1 < uu then uu else q1) = q1 then (1 : Int32) else (0 : Int32)))), .val (.int (if (if q1 = uu then (0 : Int32) else (1 : Int32)) = (0 : Int32) then (0 : Int32) else (if (if q1 < uu then uu else q1) = uu then (1 : Int32) else (0 : Int32))))] [(.int (if (if q1 = uu then (0 : Int32) else (1 : Int32)) = (0 : Int32) then (0 : Int32) else (if (if q1 < uu then uu else q1) = q1 then (1 : Int32) else (0 : Int32)))), (.int (if uu < q1 then (1 : Int32) else (0 : Int32)))])) _
      refine XS.icmpNo X51.here hx rfl (hb hby at_144) rfl (teq hc144).2 ?_
      show Steps p.tables e below (T51.setTop (mkF m 147 #[.val (.long q1), .second, .val (.long q2), .second, .val (.int p3), .val (.int p4), .val (.int p5), .val (.long uu), .second, .val (.ref b26), .val (.ref b36), .val (.int (if uu < q1 then (1 : Int32) else (0 : Int32))), .val (.int (if q1 < uu then (1 : Int32) else (0 : Int32))), .val (.int (if q1 = uu then (0 : Int32) else (1 : Int32))), .val (.long (if q1 < uu then uu else q1)), .second, .val (.int (if (if q1 = uu then (0 : Int32) else (1 : Int32)) = (0 : Int32) then (0 : Int32) else (if (if q1 < uu then uu else q1) = q1 then (1 : Int32) else (0 : Int32)))), .val (.int (if (if q1 = uu then (0 : Int32) else (1 : Int32)) = (0 : Int32) then (0 : Int32) else (if (if q1 < uu then uu else q1) = uu then (1 : Int32) else (0 : Int32))))] [])) _
      refine XS.iload X51.here hx rfl (hb hby at_147) rfl ?_
      show Steps p.tables e below (T51.setTop (mkF m 149 #[.val (.long q1), .second, .val (.long q2), .second, .val (.int p3), .val (.int p4), .val (.int p5), .val (.long uu), .second, .val (.ref b26), .val (.ref b36), .val (.int (if uu < q1 then (1 : Int32) else (0 : Int32))), .val (.int (if q1 < uu then (1 : Int32) else (0 : Int32))), .val (.int (if q1 = uu then (0 : Int32) else (1 : Int32))), .val (.long (if q1 < uu then uu else q1)), .second, .val (.int (if (if q1 = uu then (0 : Int32) else (1 : Int32)) = (0 : Int32) then (0 : Int32) else (if (if q1 < uu then uu else q1) = q1 then (1 : Int32) else (0 : Int32)))), .val (.int (if (if q1 = uu then (0 : Int32) else (1 : Int32)) = (0 : Int32) then (0 : Int32) else (if (if q1 < uu then uu else q1) = uu then (1 : Int32) else (0 : Int32))))] [(.int (if q1 < uu then (1 : Int32) else (0 : Int32)))])) _
      refine XS.iload X51.here hx rfl (hb hby at_149) rfl ?_
      show Steps p.tables e below (T51.setTop (mkF m 151 #[.val (.long q1), .second, .val (.long q2), .second, .val (.int p3), .val (.int p4), .val (.int p5), .val (.long uu), .second, .val (.ref b26), .val (.ref b36), .val (.int (if uu < q1 then (1 : Int32) else (0 : Int32))), .val (.int (if q1 < uu then (1 : Int32) else (0 : Int32))), .val (.int (if q1 = uu then (0 : Int32) else (1 : Int32))), .val (.long (if q1 < uu then uu else q1)), .second, .val (.int (if (if q1 = uu then (0 : Int32) else (1 : Int32)) = (0 : Int32) then (0 : Int32) else (if (if q1 < uu then uu else q1) = q1 then (1 : Int32) else (0 : Int32)))), .val (.int (if (if q1 = uu then (0 : Int32) else (1 : Int32)) = (0 : Int32) then (0 : Int32) else (if (if q1 < uu then uu else q1) = uu then (1 : Int32) else (0 : Int32))))] [(.int (if (if q1 = uu then (0 : Int32) else (1 : Int32)) = (0 : Int32) then (0 : Int32) else (if (if q1 < uu then uu else q1) = uu then (1 : Int32) else (0 : Int32)))), (.int (if q1 < uu then (1 : Int32) else (0 : Int32)))])) _
      refine XS.icmpNo X51.here hx rfl (hb hby at_151) rfl (teq hc151).2 ?_
      show Steps p.tables e below (T51.setTop (mkF m 154 #[.val (.long q1), .second, .val (.long q2), .second, .val (.int p3), .val (.int p4), .val (.int p5), .val (.long uu), .second, .val (.ref b26), .val (.ref b36), .val (.int (if uu < q1 then (1 : Int32) else (0 : Int32))), .val (.int (if q1 < uu then (1 : Int32) else (0 : Int32))), .val (.int (if q1 = uu then (0 : Int32) else (1 : Int32))), .val (.long (if q1 < uu then uu else q1)), .second, .val (.int (if (if q1 = uu then (0 : Int32) else (1 : Int32)) = (0 : Int32) then (0 : Int32) else (if (if q1 < uu then uu else q1) = q1 then (1 : Int32) else (0 : Int32)))), .val (.int (if (if q1 = uu then (0 : Int32) else (1 : Int32)) = (0 : Int32) then (0 : Int32) else (if (if q1 < uu then uu else q1) = uu then (1 : Int32) else (0 : Int32))))] [])) _
      refine XS.iconst X51.here hx rfl (hb hby at_154) ?_
      show Steps p.tables e below (T51.setTop (mkF m 155 #[.val (.long q1), .second, .val (.long q2), .second, .val (.int p3), .val (.int p4), .val (.int p5), .val (.long uu), .second, .val (.ref b26), .val (.ref b36), .val (.int (if uu < q1 then (1 : Int32) else (0 : Int32))), .val (.int (if q1 < uu then (1 : Int32) else (0 : Int32))), .val (.int (if q1 = uu then (0 : Int32) else (1 : Int32))), .val (.long (if q1 < uu then uu else q1)), .second, .val (.int (if (if q1 = uu then (0 : Int32) else (1 : Int32)) = (0 : Int32) then (0 : Int32) else (if (if q1 < uu then uu else q1) = q1 then (1 : Int32) else (0 : Int32)))), .val (.int (if (if q1 = uu then (0 : Int32) else (1 : Int32)) = (0 : Int32) then (0 : Int32) else (if (if q1 < uu then uu else q1) = uu then (1 : Int32) else (0 : Int32))))] [(.int (1 : Int32))])) _
      refine XS.goto X51.here hx rfl (pc0 := 155) (pc' := 159) rfl (hb hby at_155) (by decide) (by decide) ?_
      show Steps p.tables e below (T51.setTop (mkF m 159 #[.val (.long q1), .second, .val (.long q2), .second, .val (.int p3), .val (.int p4), .val (.int p5), .val (.long uu), .second, .val (.ref b26), .val (.ref b36), .val (.int (if uu < q1 then (1 : Int32) else (0 : Int32))), .val (.int (if q1 < uu then (1 : Int32) else (0 : Int32))), .val (.int (if q1 = uu then (0 : Int32) else (1 : Int32))), .val (.long (if q1 < uu then uu else q1)), .second, .val (.int (if (if q1 = uu then (0 : Int32) else (1 : Int32)) = (0 : Int32) then (0 : Int32) else (if (if q1 < uu then uu else q1) = q1 then (1 : Int32) else (0 : Int32)))), .val (.int (if (if q1 = uu then (0 : Int32) else (1 : Int32)) = (0 : Int32) then (0 : Int32) else (if (if q1 < uu then uu else q1) = uu then (1 : Int32) else (0 : Int32))))] [(.int (1 : Int32))])) _
      exact retN X51 hx (t := .boolean) Bd.returns (by simp) (hb hby at_159) hr
    · show Q_0 Z q1 q2 p3 p4 p5 h0 n0 _ T51.heap _
      rw [e51]
      exact ⟨rfl, N51⟩
  · obtain ⟨cq54, kq54, q54a, q54b, q54c⟩ := isOf hZ28 rfl Ee35
    obtain ⟨_, _, ⟨T54, L54, c54_, n54_⟩, -, X54, ⟨Lc54, hQ54, l54, y54, z54⟩, st54⟩ := X35.virtualBack hx (y := (⟨"com/example/sanction/sanction/service/InputRecord", "isNewerThan", "(Lcom/example/sanction/sanction/service/InputRecord;)Z"⟩ : MethodName)) (z := (⟨"com/example/sanction/sanction/service/InputRecord", "isNewerThan", "(Lcom/example/sanction/sanction/service/InputRecord;)Z"⟩ : MethodName)) hown28 (mvT hZ28 (hw _ (List.mem_of_getElem? (i := 36) rfl))) (mvT hZ28 (hw _ (List.mem_of_getElem? (i := 37) rfl))) (notFace_of_selects (args := #[]) (mvT hZ28 (hw _ (List.mem_of_getElem? (i := 39) rfl)))) (mvT hZ28 (hw _ (List.mem_of_getElem? (i := 39) rfl))) (mvT hZ28 (hw _ (List.mem_of_getElem? (i := 38) rfl))) (by decide) (backOf (W := 0) (rm_4n l Z a0 hw [] b26 T35.heap n0 (Nat.le_trans Z0 Kh35.1) ) hZ28 (hw _ (List.mem_of_getElem? (i := 40) rfl)) (hw _ (List.mem_of_getElem? (i := 2) rfl)) (by decide) (by decide)) q54a q54c (g := (mkF m 40 #[.val (.long q1), .second, .val (.long q2), .second, .val (.int p3), .val (.int p4), .val (.int p5), .val (.long uu), .second, .val (.ref b26), .unset, .unset, .unset, .unset, .unset, .unset, .unset, .unset] [.null, (.ref b26)])) rfl (by rw [hml]; rfl) (Steps.refl _) (argsL := [.null]) (rest := []) (lenOf pd__28Lcom_2fexample_2fsanction_2fsanction_2fservice_2fInputRecord_3b_29Z rfl) rfl (by show 2 * 0 + _ ≤ _; exact Nat.le_of_eq rfl) (hb hby at_40) (fun _ _ => ⟨rfl, rfl, (by decide : 7 + 0 ≤ _), (by decide : 22 + 0 ≤ _)⟩)
    dsimp only [Pt.U, Pt.locs, Pt.cells, Pt.slots] at X54 l54 y54 z54 st54 hQ54
    subst l54 y54 z54
    obtain ⟨rfl, Nq54, e54⟩ := hQ54
    have N54 := Fr.app N35 Nq54
    obtain ⟨fs, hr, hrun, hended, hRW⟩ := X54.leaveW (s := s) (vm₁ := T28.vm) hS28 (by rw [e54]; exact (Nat.le_trans hk28 K35.1)) (v := some (.int (1 : Int32))) (fun h => by rw [Bd.returns] at h; cases h)
    refine ⟨_, _, pre0 _ ?_, hrun, hended, _, _, rfl, ?_, hRW.1, hRW.2.1, hRW.2.2.1, hRW.2.2.2.mono (by decide) (by decide)⟩
    · show Steps p.tables e below (s₁.setTop (mkF m 0 #[.val (.long q1), .second, .val (.long q2), .second, .val (.int p3), .val (.int p4), .val (.int p5), .unset, .unset, .unset, .unset, .unset, .unset, .unset, .unset, .unset, .unset, .unset] [])) _
      refine XS.iload X0.here hx rfl (hb hby at_0) rfl ?_
      show Steps p.tables e below (s₁.setTop (mkF m 2 #[.val (.long q1), .second, .val (.long q2), .second, .val (.int p3), .val (.int p4), .val (.int p5), .unset, .unset, .unset, .unset, .unset, .unset, .unset, .unset, .unset, .unset, .unset] [(.int p5)])) _
      refine XS.iconst X0.here hx rfl (hb hby at_2) ?_
      show Steps p.tables e below (s₁.setTop (mkF m 3 #[.val (.long q1), .second, .val (.long q2), .second, .val (.int p3), .val (.int p4), .val (.int p5), .unset, .unset, .unset, .unset, .unset, .unset, .unset, .unset, .unset, .unset, .unset] [(.int (2 : Int32)), (.int p5)])) _
      refine XS.iand X0.here hx rfl (hb hby at_3) rfl ?_
      show Steps p.tables e below (s₁.setTop (mkF m 4 #[.val (.long q1), .second, .val (.long q2), .second, .val (.int p3), .val (.int p4), .val (.int p5), .unset, .unset, .unset, .unset, .unset, .unset, .unset, .unset, .unset, .unset, .unset] [(.int (p5 &&& (2 : Int32)))])) _
      refine md25 _ ?_
      show Steps p.tables e below (s₁.setTop (mkF m 12 #[.val (.long q1), .second, .val (.long q2), .second, .val (.int p3), .val (.int p4), .val (.int p5), .unset, .unset, .unset, .unset, .unset, .unset, .unset, .unset, .unset, .unset, .unset] [(.long (if (p5 &&& (2 : Int32)) = (0 : Int32) then q2 else q1))])) _
      refine XS.lstore X0.here hx rfl (hb hby at_12) rfl (l' := #[.val (.long q1), .second, .val (.long q2), .second, .val (.int p3), .val (.int p4), .val (.int p5), .val (.long (if (p5 &&& (2 : Int32)) = (0 : Int32) then q2 else q1)), .second, .unset, .unset, .unset, .unset, .unset, .unset, .unset, .unset, .unset]) rfl ?_
      show Steps p.tables e below (s₁.setTop (mkF m 14 #[.val (.long q1), .second, .val (.long q2), .second, .val (.int p3), .val (.int p4), .val (.int p5), .val (.long (if (p5 &&& (2 : Int32)) = (0 : Int32) then q2 else q1)), .second, .unset, .unset, .unset, .unset, .unset, .unset, .unset, .unset, .unset] [])) _
      rw [← e_uu]
      show Steps p.tables e below (s₁.setTop (mkF m 14 #[.val (.long q1), .second, .val (.long q2), .second, .val (.int p3), .val (.int p4), .val (.int p5), .val (.long uu), .second, .unset, .unset, .unset, .unset, .unset, .unset, .unset, .unset, .unset] [])) _
      refine st26 _ ?_
      show Steps p.tables e below (T26.setTop (mkF m 17 #[.val (.long q1), .second, .val (.long q2), .second, .val (.int p3), .val (.int p4), .val (.int p5), .val (.long uu), .second, .unset, .unset, .unset, .unset, .unset, .unset, .unset, .unset, .unset] [(.ref b26)])) _
      refine XS.dup X26.here hx rfl (hb hby at_17) rfl rfl ?_
      show Steps p.tables e below (T26.setTop (mkF m 18 #[.val (.long q1), .second, .val (.long q2), .second, .val (.int p3), .val (.int p4), .val (.int p5), .val (.long uu), .second, .unset, .unset, .unset, .unset, .unset, .unset, .unset, .unset, .unset] [(.ref b26), (.ref b26)])) _
      refine XS.lloadN X26.here hx rfl (hb hby at_18) rfl ?_
      show Steps p.tables e below (T26.setTop (mkF m 19 #[.val (.long q1), .second, .val (.long q2), .second, .val (.int p3), .val (.int p4), .val (.int p5), .val (.long uu), .second, .unset, .unset, .unset, .unset, .unset, .unset, .unset, .unset, .unset] [(.long q1), (.ref b26), (.ref b26)])) _
      refine st27 _ ?_
      show Steps p.tables e below (T27.setTop (mkF m 21 #[.val (.long q1), .second, .val (.long q2), .second, .val (.int p3), .val (.int p4), .val (.int p5), .val (.long uu), .second, .unset, .unset, .unset, .unset, .unset, .unset, .unset, .unset, .unset] [(.ref a27), (.long q1), (.ref b26), (.ref b26)])) _
      refine st28 _ ?_
      show Steps p.tables e below (T28.setTop (mkF m 23 #[.val (.long q1), .second, .val (.long q2), .second, .val (.int p3), .val (.int p4), .val (.int p5), .val (.long uu), .second, .unset, .unset, .unset, .unset, .unset, .unset, .unset, .unset, .unset] [(.ref a28), (.ref a27), (.long q1), (.ref b26), (.ref b26)])) _
      refine XS.iload X28.here hx rfl (hb hby at_23) rfl ?_
      show Steps p.tables e below (T28.setTop (mkF m 25 #[.val (.long q1), .second, .val (.long q2), .second, .val (.int p3), .val (.int p4), .val (.int p5), .val (.long uu), .second, .unset, .unset, .unset, .unset, .unset, .unset, .unset, .unset, .unset] [(.int p3), (.ref a28), (.ref a27), (.long q1), (.ref b26), (.ref b26)])) _
      refine st35.trans ?_
      show Steps p.tables e below (T35.setTop (mkF m 28 #[.val (.long q1), .second, .val (.long q2), .second, .val (.int p3), .val (.int p4), .val (.int p5), .val (.long uu), .second, .unset, .unset, .unset, .unset, .unset, .unset, .unset, .unset, .unset] [(.ref b26)])) _
      refine XS.astore X35.here hx rfl (hb hby at_28) rfl rfl (l' := #[.val (.long q1), .second, .val (.long q2), .second, .val (.int p3), .val (.int p4), .val (.int p5), .val (.long uu), .second, .val (.ref b26), .unset, .unset, .unset, .unset, .unset, .unset, .unset, .unset]) rfl ?_
      show Steps p.tables e below (T35.setTop (mkF m 30 #[.val (.long q1), .second, .val (.long q2), .second, .val (.int p3), .val (.int p4), .val (.int p5), .val (.long uu), .second, .val (.ref b26), .unset, .unset, .unset, .unset, .unset, .unset, .unset, .unset] [])) _
      refine XS.iload X35.here hx rfl (hb hby at_30) rfl ?_
      show Steps p.tables e below (T35.setTop (mkF m 32 #[.val (.long q1), .second, .val (.long q2), .second, .val (.int p3), .val (.int p4), .val (.int p5), .val (.long uu), .second, .val (.ref b26), .unset, .unset, .unset, .unset, .unset, .unset, .unset, .unset] [(.int p5)])) _
      refine XS.iconst X35.here hx rfl (hb hby at_32) ?_
      show Steps p.tables e below (T35.setTop (mkF m 33 #[.val (.long q1), .second, .val (.long q2), .second, .val (.int p3), .val (.int p4), .val (.int p5), .val (.long uu), .second, .val (.ref b26), .unset, .unset, .unset, .unset, .unset, .unset, .unset, .unset] [(.int (1 : Int32)), (.int p5)])) _
      refine XS.iand X35.here hx rfl (hb hby at_33) rfl ?_
      show Steps p.tables e below (T35.setTop (mkF m 34 #[.val (.long q1), .second, .val (.long q2), .second, .val (.int p3), .val (.int p4), .val (.int p5), .val (.long uu), .second, .val (.ref b26), .unset, .unset, .unset, .unset, .unset, .unset, .unset, .unset] [(.int (p5 &&& (1 : Int32)))])) _
      refine XS.ifNo X35.here hx rfl (hb hby at_34) rfl ((if0 _ _).trans (feq hc34).1) ?_
      show Steps p.tables e below (T35.setTop (mkF m 37 #[.val (.long q1), .second, .val (.long q2), .second, .val (.int p3), .val (.int p4), .val (.int p5), .val (.long uu), .second, .val (.ref b26), .unset, .unset, .unset, .unset, .unset, .unset, .unset, .unset] [])) _
      refine XS.aload X35.here hx rfl (hb hby at_37) rfl rfl ?_
      show Steps p.tables e below (T35.setTop (mkF m 39 #[.val (.long q1), .second, .val (.long q2), .second, .val (.int p3), .val (.int p4), .val (.int p5), .val (.long uu), .second, .val (.ref b26), .unset, .unset, .unset, .unset, .unset, .unset, .unset, .unset] [(.ref b26)])) _
      refine XS.aconstNull X35.here hx rfl (hb hby at_39) ?_
      show Steps p.tables e below (T35.setTop (mkF m 40 #[.val (.long q1), .second, .val (.long q2), .second, .val (.int p3), .val (.int p4), .val (.int p5), .val (.long uu), .second, .val (.ref b26), .unset, .unset, .unset, .unset, .unset, .unset, .unset, .unset] [.null, (.ref b26)])) _
      refine st54.trans ?_
      show Steps p.tables e below (T54.setTop (mkF m 43 #[.val (.long q1), .second, .val (.long q2), .second, .val (.int p3), .val (.int p4), .val (.int p5), .val (.long uu), .second, .val (.ref b26), .unset, .unset, .unset, .unset, .unset, .unset, .unset, .unset] [(.int (1 : Int32))])) _
      exact retN X54 hx (t := .boolean) Bd.returns (by simp) (hb hby at_43) hr
    · show Q_0 Z q1 q2 p3 p4 p5 h0 n0 _ T54.heap _
      rw [e54]
      exact ⟨rfl, N54⟩
set_option maxRecDepth 65536 in
set_option maxHeartbeats 40000000 in
theorem comes_1 {Post : Tables → Env → Array Value → State → Outcome → State → Prop} (hpost : ∀ tb e args s v u, (limb_1_1.after args s (.returned v) u = true ∧ limb_1_2.after args s (.returned v) u = true ∧ True) → ReturnedEndW s (.returned v) u (Jvm.fieldLocs frame_1_writes args s ++ Jvm.arrayLocs frame_1_arrays args s ++ Jvm.staticLocs frame_1_statics s) 32 4224 → Post tb e args s (.returned v) u) :
    ArmFor flags0 classFile x code maxLocals ret World_1 tables_1 room_1 Calls_1 rest_1 Pre_1 Post := by
  intro l hfl _ _ p e ha hc hk s m args below hf hA hF happ hP
  obtain ⟨hcalls, hrest, hpre⟩ := hP
  obtain ⟨-, -, -, hnamed, -, -, -, hat⟩ := (Spec.applies_iff hf).mp happ
  obtain ⟨hg, hn⟩ := and_e (Cond.before_iff.mp (show (Jvm.Cond.and given_1 narrow_1).before args s = true from hpre))
  obtain ⟨g55, g56⟩ := and_e hg
  obtain ⟨g57, g58⟩ := and_e g56
  obtain ⟨g59, g60⟩ := and_e g58
  obtain ⟨g61, g62⟩ := and_e g60
  obtain ⟨g63, g64⟩ := and_e g62
  obtain ⟨w0, w1, w2, w3, w4, rfl⟩ : ∃ w0 w1 w2 w3 w4 : Value, args = #[w0, w1, w2, w3, w4] := by
    have hs : args.size = 5 := by simpa [Cond.value, given_1] using g55
    obtain ⟨L⟩ := args
    match L, hs with
    | [w0, w1, w2, w3, w4], _ => exact ⟨w0, w1, w2, w3, w4, rfl⟩
  have hw := fun d (hd : d ∈ tables_1) => atoms_spec (ws := Jvm.Cond.code x code maxLocals ret :: tables_1) hat d (List.mem_cons_of_mem _ hd)
  have hfit : Fit s := fun {y c} hc i hi => by
    obtain ⟨ha, rfl⟩ := Array.getElem?_eq_some_iff.mp hc
    have q := List.all_eq_true.mp ((Array.all_eq_true_iff_forall_mem.mp hF) _ (Array.getElem_mem ha)) i (List.mem_range.mpr hi)
    simpa [Array.getElem?_eq_getElem hi] using q
  obtain ⟨i0, ei0⟩ := isL_v g57
  obtain rfl : w0 = (.long i0) := Option.some.inj ei0
  obtain ⟨i1, ei1⟩ := isL_v g59
  obtain rfl : w1 = (.long i1) := Option.some.inj ei1
  obtain ⟨i2, ei2⟩ := is_v g61
  obtain rfl : w2 = (.int i2) := Option.some.inj ei2
  obtain ⟨i3, ei3⟩ := is_v g63
  obtain rfl : w3 = (.int i3) := Option.some.inj ei3
  obtain ⟨i4, ei4⟩ := is_v g64
  obtain rfl : w4 = (.int i4) := Option.some.inj ei4
  obtain ⟨n, o, h1, h2, h3, _, L, rfl, ⟨rfl, N⟩, hq⟩ := rm_0 l s _ hw tables_1 i0 i1 i2 i3 i4 s.heap s.heap.size (Nat.le_refl _)  p e ha hc hk s m _ below hf ((Spec.applies_iff_loose hf).mp happ).1 ⟨rfl, State.Warmed39.refl s, rfl⟩ trivial
  refine ⟨n, _, h1, h2, h3, hpost _ _ _ _ _ _ ⟨Cond.after_iff.mpr rfl, Cond.after_iff.mpr (eq_i res_at (Term.int_eval (1)) rfl), trivial⟩ ⟨hq.1, hq.2.1, hq.2.2.1, (hq.2.2.2.sift fun y hy => Or.inr (N y hy)).mono (by decide) (by decide)⟩⟩
theorem main_1_1 : Claimed_1_1 := comes_1 fun _ _ _ _ _ _ h hF => ⟨h.1, hF⟩
theorem main_1_2 : Claimed_1_2 := comes_1 fun _ _ _ _ _ _ h hF => ⟨h.2.1, hF⟩
end Jvm.Pilot.@@N@@
namespace Jvm.Pilot.@@N@@
open Jvm Jvm.ClassFile Sem Op Lib Jvm.Free Jvm.Stand Jvm.Pilot.@@N@@.Jvm.D
/-! MADE BY PROGRAM (witnessworld.py) out of the Statement's table words and the real class files: 16 classes; the members and pool entries that the words name. The judged class is class 1, her method 1. -/
namespace start1
open Jvm.ClassFile
def u (s : String) : CpInfo := .utf8 (stringToUtf16 s)
/-- a pool by its gaps: so many unusable entries, then the entry; so many at the end -/
def gap : Nat → List CpInfo → List CpInfo
  | 0, r => r
  | n + 1, r => .unusable :: gap n r
def poolList (es : List (Nat × CpInfo)) (last : Nat) : List CpInfo := es.foldr (fun e r => gap e.1 (e.2 :: r)) (gap last [])
def pool (es : List (Nat × CpInfo)) (last : Nat) : Array CpInfo := ⟨poolList es last⟩
def fileOf (pool : Array CpInfo) (this : Nat) (attrs : Array Attribute := #[]) (ms : Array MethodInfo := #[]) (fl : Nat := 33) (sup : Nat := 0) (ifs : Array Nat := #[]) (fds : Array FieldInfo := #[]) : ClassFile where
  minorVersion := 0
  majorVersion := 65
  constantPool := pool
  accessFlags := fl
  thisClass := this
  superClass := sup
  interfaces := ifs
  fields := fds
  methods := ms
  attributes := attrs
def plain (name : String) (sup : Option ClassId) : Class where
  name := name
  kind := .ordinary
  loader := none
  accessFlags := 33
  super := sup
  interfaces := #[]
  cf := none
  fields := #[]
  methods := #[]
  instanceTypes := #[]
  staticTypes := #[]
  resolved := #[]
  callSites := []
  init := .initialized
  statics := none
  mirror := none

def pool0 : Array CpInfo := pool [(5, u "<init>"), (0, u "()V"), (1, .class_ 10), (1, u "java/lang/Object")] 113

def k0c0 : Code := { maxStack := 0, maxLocals := 1, code := object_method_1_code, exceptionTable := #[], attributes := #[] }
def k0m0 : Method := { name := "<init>", desc := "()V", sig := { parameters := [], returnType := none }, accessFlags := 1, code := some k0c0 }
/-- java/lang/Object -/
def k0 : Class := { plain "java/lang/Object" none with
  accessFlags := 33
  interfaces := #[]
  cf := some (fileOf pool0 8 #[] #[{ accessFlags := 1, nameIndex := 5, descriptorIndex := 6, attributes := #[] }] 33 0 #[] #[])
  fields := #[]
  methods := #[k0m0]
  instanceTypes := #[]
  staticTypes := #[]
  resolved := Array.replicate 124 none
  statics := none }

def pool1 : Array CpInfo := pool [(2, .class_ 4), (1, u "java/lang/Object"), (0, u "<init>"), (0, u "()V"), (0, .class_ 8), (0, u "com/example/sanction/sanction/service/InputRecord"), (0, .string 10), (0, u "w"), (0, .string 12), (0, u "c"), (0, .methodref 7 14), (0, .nameAndType 5 15), (0, u "(JLjava/lang/String;Ljava/lang/String;I)V"), (0, .methodref 7 17), (0, .nameAndType 18 19), (0, u "isNewerThan"), (0, u "(Lcom/example/sanction/sanction/service/InputRecord;)Z"), (0, .string 21), (0, u "x"), (0, .string 23), (0, u "d"), (0, .methodref 25 26), (0, .class_ 27), (0, .nameAndType 28 29), (0, u "java/lang/Math"), (0, u "max"), (0, u "(JJ)J"), (0, .class_ 31), (0, u "com/example/sanction/sanction/service/InputRecordIsNewerThanPinLaw"), (2, u "law"), (0, u "(JJIII)Z")] 3

def k1m0 : Method := { name := "<init>", desc := "()V", sig := { parameters := [], returnType := none }, accessFlags := 1, code := none }
def k1c1 : Code := { maxStack := 7, maxLocals := 18, code := code, exceptionTable := #[], attributes := #[] }
def k1m1 : Method := { name := "law", desc := "(JJIII)Z", sig := { parameters := [.long, .long, .int, .int, .int], returnType := some .boolean }, accessFlags := 9, code := some k1c1 }
/-- com/example/sanction/sanction/service/InputRecordIsNewerThanPinLaw -/
def k1 : Class := { plain "com/example/sanction/sanction/service/InputRecordIsNewerThanPinLaw" (some 0) with
  accessFlags := 49
  interfaces := #[]
  cf := some (fileOf pool1 30 #[] #[{ accessFlags := 1, nameIndex := 5, descriptorIndex := 6, attributes := #[] }, { accessFlags := 9, nameIndex := 34, descriptorIndex := 35, attributes := #[] }] 49 2 #[] #[])
  fields := #[]
  methods := #[k1m0, k1m1]
  instanceTypes := #[]
  staticTypes := #[]
  resolved := Array.replicate 39 none
  statics := none }

def pool2 : Array CpInfo := pool [(1, .class_ 2), (0, u "java/lang/String"), (0, .methodref 4 5), (0, .class_ 6), (0, .nameAndType 7 8), (0, u "com/example/sanction/sanction/service/InputRecord"), (0, u "<init>"), (0, u "(JLjava/lang/String;Ljava/lang/String;[I[Ljava/lang/String;)V"), (0, .methodref 10 11), (0, .class_ 12), (0, .nameAndType 7 13), (0, u "java/lang/Object"), (0, u "()V"), (0, .fieldref 4 15), (0, .nameAndType 16 17), (0, u "time"), (0, u "J"), (0, .fieldref 4 19), (0, .nameAndType 20 21), (0, u "widget"), (0, u "Ljava/lang/String;"), (0, .fieldref 4 23), (0, .nameAndType 24 21), (0, u "context"), (0, .fieldref 4 26), (0, .nameAndType 27 28), (0, u "path"), (0, u "[I"), (0, .fieldref 4 30), (0, .nameAndType 31 32), (0, u "passedBy"), (0, u "[Ljava/lang/String;"), (16, u "(JLjava/lang/String;Ljava/lang/String;I)V"), (15, u "isNewerThan"), (0, u "(Lcom/example/sanction/sanction/service/InputRecord;)Z")] 4

def k2c0 : Code := { maxStack := 9, maxLocals := 6, code := prog_34_method_1_code, exceptionTable := #[], attributes := #[] }
def k2m0 : Method := { name := "<init>", desc := "(JLjava/lang/String;Ljava/lang/String;I)V", sig := { parameters := [.long, (.object "java/lang/String"), (.object "java/lang/String"), .int], returnType := none }, accessFlags := 0, code := some k2c0 }
def k2c1 : Code := { maxStack := 3, maxLocals := 7, code := prog_34_method_2_code, exceptionTable := #[], attributes := #[] }
def k2m1 : Method := { name := "<init>", desc := "(JLjava/lang/String;Ljava/lang/String;[I[Ljava/lang/String;)V", sig := { parameters := [.long, (.object "java/lang/String"), (.object "java/lang/String"), (.array .int), (.array (.object "java/lang/String"))], returnType := none }, accessFlags := 2, code := some k2c1 }
def k2c2 : Code := { maxStack := 4, maxLocals := 2, code := prog_34_method_8_code, exceptionTable := #[], attributes := #[] }
def k2m2 : Method := { name := "isNewerThan", desc := "(Lcom/example/sanction/sanction/service/InputRecord;)Z", sig := { parameters := [(.object "com/example/sanction/sanction/service/InputRecord")], returnType := some .boolean }, accessFlags := 0, code := some k2c2 }
/-- com/example/sanction/sanction/service/InputRecord -/
def k2 : Class := { plain "com/example/sanction/sanction/service/InputRecord" (some 0) with
  accessFlags := 48
  interfaces := #[]
  cf := some (fileOf pool2 4 #[] #[{ accessFlags := 0, nameIndex := 7, descriptorIndex := 49, attributes := #[] }, { accessFlags := 2, nameIndex := 7, descriptorIndex := 8, attributes := #[] }, { accessFlags := 0, nameIndex := 65, descriptorIndex := 66, attributes := #[] }] 48 10 #[] #[{ accessFlags := 18, nameIndex := 16, descriptorIndex := 17, attributes := #[] }, { accessFlags := 18, nameIndex := 20, descriptorIndex := 21, attributes := #[] }, { accessFlags := 18, nameIndex := 24, descriptorIndex := 21, attributes := #[] }, { accessFlags := 18, nameIndex := 27, descriptorIndex := 28, attributes := #[] }, { accessFlags := 18, nameIndex := 31, descriptorIndex := 32, attributes := #[] }])
  fields := #[{ name := "time", type := .long, accessFlags := 18, slot := 0, constantValue := 0 }, { name := "widget", type := (.object "java/lang/String"), accessFlags := 18, slot := 1, constantValue := 0 }, { name := "context", type := (.object "java/lang/String"), accessFlags := 18, slot := 2, constantValue := 0 }, { name := "path", type := (.array .int), accessFlags := 18, slot := 3, constantValue := 0 }, { name := "passedBy", type := (.array (.object "java/lang/String")), accessFlags := 18, slot := 4, constantValue := 0 }]
  methods := #[k2m0, k2m1, k2m2]
  instanceTypes := #[.long, (.object "java/lang/String"), (.object "java/lang/String"), (.array .int), (.array (.object "java/lang/String"))]
  staticTypes := #[]
  resolved := Array.replicate 71 none
  statics := none }

def pool3 : Array CpInfo := pool [(1, .class_ 2), (0, u "java/io/Serializable"), (0, .class_ 4), (0, u "java/lang/Object")] 2

/-- java/io/Serializable -/
def k3 : Class := { plain "java/io/Serializable" (some 0) with
  accessFlags := 1537
  interfaces := #[]
  cf := some (fileOf pool3 1 #[] #[] 1537 3 #[] #[])
  fields := #[]
  methods := #[]
  instanceTypes := #[]
  staticTypes := #[]
  resolved := Array.replicate 7 none
  statics := none }

def pool4 : Array CpInfo := pool [(1, .class_ 2), (0, u "java/lang/Comparable"), (0, .class_ 4), (0, u "java/lang/Object")] 7

/-- java/lang/Comparable -/
def k4 : Class := { plain "java/lang/Comparable" (some 0) with
  accessFlags := 1537
  interfaces := #[]
  cf := some (fileOf pool4 1 #[] #[] 1537 3 #[] #[])
  fields := #[]
  methods := #[]
  instanceTypes := #[]
  staticTypes := #[]
  resolved := Array.replicate 12 none
  statics := none }

def pool5 : Array CpInfo := pool [(2, .class_ 4), (1, u "java/lang/CharSequence"), (42, .class_ 48), (0, u "java/lang/CharSequence$1CodePointIterator"), (10, .class_ 60), (0, u "java/lang/CharSequence$1CharIterator"), (5, .class_ 67), (0, u "java/lang/Object")] 63

/-- java/lang/CharSequence -/
def k5 : Class := { plain "java/lang/CharSequence" (some 0) with
  accessFlags := 1537
  interfaces := #[]
  cf := some (fileOf pool5 2 #[.nestMembers #[47, 59]] #[] 1537 66 #[] #[])
  fields := #[]
  methods := #[]
  instanceTypes := #[]
  staticTypes := #[]
  resolved := Array.replicate 131 none
  statics := none }

def pool6 : Array CpInfo := pool [(1, .class_ 2), (0, u "java/lang/constant/Constable"), (0, .class_ 4), (0, u "java/lang/Object")] 6

/-- java/lang/constant/Constable -/
def k6 : Class := { plain "java/lang/constant/Constable" (some 0) with
  accessFlags := 1537
  interfaces := #[]
  cf := some (fileOf pool6 1 #[] #[] 1537 3 #[] #[])
  fields := #[]
  methods := #[]
  instanceTypes := #[]
  staticTypes := #[]
  resolved := Array.replicate 11 none
  statics := none }

def pool7 : Array CpInfo := pool [(1, .class_ 2), (0, u "java/lang/constant/ConstantDesc"), (0, .class_ 4), (0, u "java/lang/Object")] 32

/-- java/lang/constant/ConstantDesc -/
def k7 : Class := { plain "java/lang/constant/ConstantDesc" (some 0) with
  accessFlags := 1537
  interfaces := #[]
  cf := some (fileOf pool7 1 #[] #[] 1537 3 #[] #[])
  fields := #[]
  methods := #[]
  instanceTypes := #[]
  staticTypes := #[]
  resolved := Array.replicate 37 none
  statics := none }

def pool8 : Array CpInfo := pool [(2, .class_ 4), (1, u "java/lang/Object"), (0, u "<init>"), (0, u "()V"), (3, .class_ 12), (1, u "java/lang/String"), (0, u "value"), (0, u "[B"), (2, u "coder"), (0, u "B"), (2, u "hash"), (0, u "I"), (2, u "hashIsZero"), (0, u "Z"), (13, u "COMPACT_STRINGS"), (534, .class_ 576), (0, u "java/lang/CharSequence"), (22, u "CASE_INSENSITIVE_ORDER"), (0, u "Ljava/util/Comparator;"), (500, u "serialPersistentFields"), (0, u "[Ljava/io/ObjectStreamField;"), (0, .class_ 1104), (0, u "java/lang/String$CaseInsensitiveComparator"), (1, .class_ 1107), (0, u "java/io/Serializable"), (0, .class_ 1109), (0, u "java/lang/Comparable"), (0, .class_ 1111), (0, u "java/lang/constant/Constable"), (0, .class_ 1113), (0, u "java/lang/constant/ConstantDesc"), (2, u "serialVersionUID"), (0, u "J"), (3, u "REPL"), (0, u "C"), (2, u "LATIN1"), (1, u "UTF16")] 323

def k8m0 : Method := { name := "<init>", desc := "()V", sig := { parameters := [], returnType := none }, accessFlags := 1, code := none }
/-- java/lang/String -/
def k8 : Class := { plain "java/lang/String" (some 0) with
  accessFlags := 49
  interfaces := #[3, 4, 5, 6, 7]
  cf := some (fileOf pool8 10 #[.nestMembers #[1103]] #[{ accessFlags := 1, nameIndex := 5, descriptorIndex := 6, attributes := #[] }] 49 2 #[1106, 1108, 575, 1110, 1112] #[{ accessFlags := 18, nameIndex := 13, descriptorIndex := 14, attributes := #[] }, { accessFlags := 18, nameIndex := 17, descriptorIndex := 18, attributes := #[] }, { accessFlags := 2, nameIndex := 21, descriptorIndex := 22, attributes := #[] }, { accessFlags := 2, nameIndex := 25, descriptorIndex := 26, attributes := #[] }, { accessFlags := 26, nameIndex := 1116, descriptorIndex := 1117, attributes := #[] }, { accessFlags := 24, nameIndex := 40, descriptorIndex := 26, attributes := #[] }, { accessFlags := 26, nameIndex := 1101, descriptorIndex := 1102, attributes := #[] }, { accessFlags := 26, nameIndex := 1121, descriptorIndex := 1122, attributes := #[] }, { accessFlags := 25, nameIndex := 599, descriptorIndex := 600, attributes := #[] }, { accessFlags := 24, nameIndex := 1125, descriptorIndex := 18, attributes := #[] }, { accessFlags := 24, nameIndex := 1127, descriptorIndex := 18, attributes := #[] }])
  fields := #[{ name := "value", type := (.array .byte), accessFlags := 18, slot := 0, constantValue := 0 }, { name := "coder", type := .byte, accessFlags := 18, slot := 1, constantValue := 0 }, { name := "hash", type := .int, accessFlags := 2, slot := 2, constantValue := 0 }, { name := "hashIsZero", type := .boolean, accessFlags := 2, slot := 3, constantValue := 0 }, { name := "serialVersionUID", type := .long, accessFlags := 26, slot := 0, constantValue := 0 }, { name := "COMPACT_STRINGS", type := .boolean, accessFlags := 24, slot := 1, constantValue := 0 }, { name := "serialPersistentFields", type := (.array (.object "java/io/ObjectStreamField")), accessFlags := 26, slot := 2, constantValue := 0 }, { name := "REPL", type := .char, accessFlags := 26, slot := 3, constantValue := 0 }, { name := "CASE_INSENSITIVE_ORDER", type := (.object "java/util/Comparator"), accessFlags := 25, slot := 4, constantValue := 0 }, { name := "LATIN1", type := .byte, accessFlags := 24, slot := 5, constantValue := 0 }, { name := "UTF16", type := .byte, accessFlags := 24, slot := 6, constantValue := 0 }]
  methods := #[k8m0]
  instanceTypes := #[(.array .byte), .byte, .int, .boolean]
  staticTypes := #[.long, .boolean, (.array (.object "java/io/ObjectStreamField")), .char, (.object "java/util/Comparator"), .byte, .byte]
  resolved := Array.replicate 1451 none
  statics := none }

def pool9 : Array CpInfo := pool [(1, .class_ 2), (0, u "java/lang/Math"), (1, .class_ 6), (1, u "java/lang/Object"), (0, u "<init>"), (0, u "()V"), (89, .class_ 100), (1, u "java/lang/Math$RandomNumberGeneratorHolder"), (20, u "(JJ)J"), (50, u "negativeZeroFloatBits"), (0, u "J"), (2, u "negativeZeroDoubleBits"), (21, u "max"), (46, u "$assertionsDisabled"), (0, u "Z"), (91, u "twoToTheDoubleScaleDown"), (0, u "D"), (4, u "twoToTheDoubleScaleUp"), (9, u "E"), (3, u "PI"), (2, u "TAU"), (2, u "DEGREES_TO_RADIANS"), (0, u "RADIANS_TO_DEGREES")] 94

def k9m0 : Method := { name := "<init>", desc := "()V", sig := { parameters := [], returnType := none }, accessFlags := 2, code := none }
def k9c1 : Code := { maxStack := 4, maxLocals := 4, code := jdk_29_method_66_code, exceptionTable := #[], attributes := #[] }
def k9m1 : Method := { name := "max", desc := "(JJ)J", sig := { parameters := [.long, .long], returnType := some .long }, accessFlags := 9, code := some k9c1 }
/-- java/lang/Math -/
def k9 : Class := { plain "java/lang/Math" (some 0) with
  accessFlags := 49
  interfaces := #[]
  cf := some (fileOf pool9 1 #[.nestMembers #[98]] #[{ accessFlags := 2, nameIndex := 7, descriptorIndex := 8, attributes := #[] }, { accessFlags := 9, nameIndex := 198, descriptorIndex := 121, attributes := #[] }] 49 4 #[] #[{ accessFlags := 25, nameIndex := 354, descriptorIndex := 339, attributes := #[] }, { accessFlags := 25, nameIndex := 358, descriptorIndex := 339, attributes := #[] }, { accessFlags := 25, nameIndex := 361, descriptorIndex := 339, attributes := #[] }, { accessFlags := 26, nameIndex := 364, descriptorIndex := 339, attributes := #[] }, { accessFlags := 26, nameIndex := 365, descriptorIndex := 339, attributes := #[] }, { accessFlags := 26, nameIndex := 172, descriptorIndex := 173, attributes := #[] }, { accessFlags := 26, nameIndex := 176, descriptorIndex := 173, attributes := #[] }, { accessFlags := 8, nameIndex := 344, descriptorIndex := 339, attributes := #[] }, { accessFlags := 8, nameIndex := 338, descriptorIndex := 339, attributes := #[] }, { accessFlags := 4120, nameIndex := 245, descriptorIndex := 246, attributes := #[] }])
  fields := #[{ name := "E", type := .double, accessFlags := 25, slot := 0, constantValue := 0 }, { name := "PI", type := .double, accessFlags := 25, slot := 1, constantValue := 0 }, { name := "TAU", type := .double, accessFlags := 25, slot := 2, constantValue := 0 }, { name := "DEGREES_TO_RADIANS", type := .double, accessFlags := 26, slot := 3, constantValue := 0 }, { name := "RADIANS_TO_DEGREES", type := .double, accessFlags := 26, slot := 4, constantValue := 0 }, { name := "negativeZeroFloatBits", type := .long, accessFlags := 26, slot := 5, constantValue := 0 }, { name := "negativeZeroDoubleBits", type := .long, accessFlags := 26, slot := 6, constantValue := 0 }, { name := "twoToTheDoubleScaleUp", type := .double, accessFlags := 8, slot := 7, constantValue := 0 }, { name := "twoToTheDoubleScaleDown", type := .double, accessFlags := 8, slot := 8, constantValue := 0 }, { name := "$assertionsDisabled", type := .boolean, accessFlags := 4120, slot := 9, constantValue := 0 }]
  methods := #[k9m0, k9m1]
  instanceTypes := #[]
  staticTypes := #[.double, .double, .double, .double, .double, .long, .long, .double, .double, .boolean]
  resolved := Array.replicate 460 none
  statics := none }

def pool10 : Array CpInfo := pool [(1, u "java/lang/Cloneable"), (0, .class_ 1), (0, u "java/lang/Object"), (0, .class_ 3)] 3

/-- java/lang/Cloneable -/
def k10 : Class := { plain "java/lang/Cloneable" (some 0) with
  accessFlags := 1537
  interfaces := #[]
  cf := some (fileOf pool10 2 #[] #[] 1537 4 #[] #[])
  fields := #[]
  methods := #[]
  instanceTypes := #[]
  staticTypes := #[]
  resolved := Array.replicate 8 none
  statics := none }

/-- the primitive byte -/
def k11 : Class := { plain "byte" none with kind := .primitive 'B', accessFlags := 0x411 }
/-- [B -/
def k12 : Class := { plain "[B" (some 0) with kind := .array 11 .byte, interfaces := #[10, 3], accessFlags := 1041 }

/-- the primitive int -/
def k13 : Class := { plain "int" none with kind := .primitive 'I', accessFlags := 0x411 }
/-- [I -/
def k14 : Class := { plain "[I" (some 0) with kind := .array 13 .int, interfaces := #[10, 3], accessFlags := 1041 }

/-- [Ljava/lang/String; -/
def k15 : Class := { plain "[Ljava/lang/String;" (some 0) with kind := .array 8 (.object "java/lang/String"), interfaces := #[10, 3], accessFlags := 1041 }

def heap : Heap := #[]
def classes : Array Class := #[k0, k1, k2, k3, k4, k5, k6, k7, k8, k9, k10, k11, k12, k13, k14, k15]
def interned : List (Array UInt16 × Addr) := []
def slotsUsed : Nat := 0
def theMethod : MethodId := ⟨1, 1⟩
def args0 : Array Value := #[.long 5, .long 6, .int 7, .int 8, .int 9]
def aboutOver (below : List Frame) : State where
  vm := { classes := classes, interned := interned.toArray }
  heap := heap
  slotsUsed := slotsUsed
  threads := #[{ frames := .invoking theMethod args0 :: below }]
def below0 : List Frame := [.native { method := ⟨0, 0⟩, args := #[] }]
def about1 : State := aboutOver below0
def p0 : Program := .bare "" "" ""
def e0 : Env := launch0.env 0 0 0
theorem w_frames : about1.frames = Frame.invoking theMethod args0 :: below0 := rfl
set_option maxRecDepth 65536 in
theorem w_args : argsFit about1.vm theMethod args0 = true := by decide +kernel
set_option maxRecDepth 65536 in
theorem w_heap : heapFits about1 = true := by decide +kernel
set_option maxRecDepth 65536 in
theorem w_runnable : about1.curStatus? = some .runnable := by decide +kernel
set_option maxRecDepth 65536 in
theorem w_alone : about1.alone = true := by decide +kernel
set_option maxRecDepth 65536 in
theorem w_named : about1.methodNamed? x = some theMethod := by decide +kernel
set_option maxRecDepth 65536 in
theorem w_hears : about1.hears theMethod below0 = true := by decide +kernel
set_option maxRecDepth 65536 in
theorem w_ripe : about1.ripe theMethod args0 below0 = true := by decide +kernel
theorem w_running : about1.status = .running := rfl
set_option maxRecDepth 65536 in
theorem w_room : about1.hasRoom e0.platform room_1 = true :=
  launch0.hasRoom_least _ room_1 (by decide +kernel) (by decide +kernel) (by decide +kernel) (by decide +kernel) (by decide +kernel) (by decide +kernel)
theorem allAtoms_all (ts : List Jvm.Cond) (a : Array Jvm.Value) (st : Jvm.State) : (allAtoms ts).before a st = ts.all (fun c => c.before a st) := by
  induction ts with
  | nil => rfl
  | cons c t ih =>
    show (Jvm.Cond.and c (allAtoms t)).before a st = _
    rw [Jvm.Cond.before_and, ih, List.all_cons]
def words1 : List Jvm.Cond := Jvm.Cond.code x code maxLocals ret :: tables_1
/-- a 'code' word, met by the world's own term for the bytes: nothing is compared byte by byte -/
theorem code_word {y : MethodName} {bytes : ByteArray} {mx : Nat} {rt : Option FieldType} {a : Array Value} {s : State} {m : MethodId} {meth : Method} {c : Code} (h1 : s.methodNamed? y = some m) (h2 : s.vm.method? m = some meth) (h3 : meth.code = some c) (h4 : c.code = bytes)
    (h5 : (c.maxLocals == mx && c.exceptionTable.isEmpty && decide (c.maxStack ≤ mostOperands) && decide (meth.sig.returnType = rt) && !meth.locks && decide (parseMethodDescriptor y.desc = some meth.sig)) = true) : (Jvm.Cond.code y bytes mx rt).before a s = true := by
  simp only [Bool.and_eq_true, beq_iff_eq, Bool.not_eq_true', decide_eq_true_eq] at h5
  obtain ⟨⟨⟨⟨⟨g1, g2⟩, g3⟩, g4⟩, g5⟩, g6⟩ := h5
  simp [Cond.before, Cond.holds, Cond.value, h1, h2, h3, h4, g1, g2, g3, g4, g5, g6]
def isCode : Jvm.Cond → Bool
  | .code _ _ _ _ => true
  | _ => false
theorem all_split {L : List Jvm.Cond} {P : Jvm.Cond → Bool} (h1 : L.all (fun c => isCode c || P c) = true) (h2 : ∀ c ∈ L.filter isCode, P c = true) : L.all P = true := by
  refine List.all_eq_true.mpr fun c hc => ?_
  have h := List.all_eq_true.mp h1 c hc
  rcases Bool.eq_false_or_eq_true (isCode c) with hi | hi
  · exact h2 c (List.mem_filter.mpr ⟨hc, hi⟩)
  · simpa [hi] using h
set_option maxRecDepth 65536 in
theorem w_c0 : (Jvm.Cond.code x code maxLocals ret).before args0 about1 = true := code_word (m := ⟨1, 1⟩) (meth := k1m1) (c := k1c1) (by decide +kernel) rfl rfl rfl (by decide +kernel)
set_option maxRecDepth 65536 in
theorem w_c1 : (Jvm.Cond.code ({ cls := "com/example/sanction/sanction/service/InputRecord", name := "<init>", desc := "(JLjava/lang/String;Ljava/lang/String;I)V" } : Jvm.MethodName) prog_34_method_1_code (6 : Nat) (Option.none : Option Jvm.ClassFile.FieldType)).before args0 about1 = true := code_word (m := ⟨2, 0⟩) (meth := k2m0) (c := k2c0) (by decide +kernel) rfl rfl rfl (by decide +kernel)
set_option maxRecDepth 65536 in
theorem w_c2 : (Jvm.Cond.code ({ cls := "com/example/sanction/sanction/service/InputRecord", name := "<init>", desc := "(JLjava/lang/String;Ljava/lang/String;[I[Ljava/lang/String;)V" } : Jvm.MethodName) prog_34_method_2_code (7 : Nat) (Option.none : Option Jvm.ClassFile.FieldType)).before args0 about1 = true := code_word (m := ⟨2, 1⟩) (meth := k2m1) (c := k2c1) (by decide +kernel) rfl rfl rfl (by decide +kernel)
set_option maxRecDepth 65536 in
theorem w_c3 : (Jvm.Cond.code ({ cls := "java/lang/Object", name := "<init>", desc := "()V" } : Jvm.MethodName) object_method_1_code (1 : Nat) (Option.none : Option Jvm.ClassFile.FieldType)).before args0 about1 = true := code_word (m := ⟨0, 0⟩) (meth := k0m0) (c := k0c0) (by decide +kernel) rfl rfl rfl (by decide +kernel)
set_option maxRecDepth 65536 in
theorem w_c4 : (Jvm.Cond.code ({ cls := "com/example/sanction/sanction/service/InputRecord", name := "isNewerThan", desc := "(Lcom/example/sanction/sanction/service/InputRecord;)Z" } : Jvm.MethodName) prog_34_method_8_code (2 : Nat) (Option.some Jvm.ClassFile.FieldType.boolean)).before args0 about1 = true := code_word (m := ⟨2, 2⟩) (meth := k2m2) (c := k2c2) (by decide +kernel) rfl rfl rfl (by decide +kernel)
set_option maxRecDepth 65536 in
theorem w_c5 : (Jvm.Cond.code ({ cls := "java/lang/Math", name := "max", desc := "(JJ)J" } : Jvm.MethodName) jdk_29_method_66_code (4 : Nat) (Option.some Jvm.ClassFile.FieldType.long)).before args0 about1 = true := code_word (m := ⟨9, 1⟩) (meth := k9m1) (c := k9c1) (by decide +kernel) rfl rfl rfl (by decide +kernel)
def codes1 : List Jvm.Cond := [Jvm.Cond.code x code maxLocals ret, Jvm.Cond.code ({ cls := "com/example/sanction/sanction/service/InputRecord", name := "<init>", desc := "(JLjava/lang/String;Ljava/lang/String;I)V" } : Jvm.MethodName) prog_34_method_1_code (6 : Nat) (Option.none : Option Jvm.ClassFile.FieldType), Jvm.Cond.code ({ cls := "com/example/sanction/sanction/service/InputRecord", name := "<init>", desc := "(JLjava/lang/String;Ljava/lang/String;[I[Ljava/lang/String;)V" } : Jvm.MethodName) prog_34_method_2_code (7 : Nat) (Option.none : Option Jvm.ClassFile.FieldType), Jvm.Cond.code ({ cls := "java/lang/Object", name := "<init>", desc := "()V" } : Jvm.MethodName) object_method_1_code (1 : Nat) (Option.none : Option Jvm.ClassFile.FieldType), Jvm.Cond.code ({ cls := "com/example/sanction/sanction/service/InputRecord", name := "isNewerThan", desc := "(Lcom/example/sanction/sanction/service/InputRecord;)Z" } : Jvm.MethodName) prog_34_method_8_code (2 : Nat) (Option.some Jvm.ClassFile.FieldType.boolean), Jvm.Cond.code ({ cls := "java/lang/Math", name := "max", desc := "(JJ)J" } : Jvm.MethodName) jdk_29_method_66_code (4 : Nat) (Option.some Jvm.ClassFile.FieldType.long)]
set_option maxRecDepth 65536 in
theorem codes_eq : words1.filter isCode = codes1 := rfl
theorem w_codes : ∀ c ∈ words1.filter isCode, c.before args0 about1 = true := by
  rw [codes_eq]
  intro c hc
  simp only [codes1, List.mem_cons, List.not_mem_nil, or_false] at hc
  rcases hc with rfl | rfl | rfl | rfl | rfl | rfl
  · exact w_c0
  · exact w_c1
  · exact w_c2
  · exact w_c3
  · exact w_c4
  · exact w_c5
set_option maxRecDepth 65536 in
theorem w_t1 : (words1.take 24).all (fun c => isCode c || c.before args0 about1) = true := by decide +kernel
set_option maxRecDepth 65536 in
theorem w_t2 : (words1.drop 24).all (fun c => isCode c || c.before args0 about1) = true := by decide +kernel
theorem w_tables : (allAtoms (Jvm.Cond.code x code maxLocals ret :: tables_1)).before args0 about1 = true := by
  rw [allAtoms_all]
  show words1.all (fun c => c.before args0 about1) = true
  refine all_split ?_ w_codes
  rw [← List.take_append_drop 24 words1, List.all_append, w_t1, w_t2]
  rfl
set_option maxRecDepth 65536 in
theorem w_case : (Jvm.Cond.and given_1 narrow_1).before args0 about1 = true := by decide +kernel
theorem w_applies : (headSpec (Jvm.Cond.code x code maxLocals ret :: tables_1) room_1).applies x e0.platform about1 = true :=
  (Spec.applies_iff w_frames).mpr ⟨w_running, w_runnable, w_alone, w_named, w_hears, w_ripe, w_room, w_tables⟩
theorem atStart : AtStart classFile x code maxLocals ret World_1 tables_1 room_1 Calls_1 rest_1 Pre_1 launch0 p0 e0 about1 theMethod args0 below0 :=
  ⟨lists_1, trivial, launch0.admits_env _ _ _, launch0.least_env, fairChoices_fair.cas, fairChoices_fair.clock, w_frames, w_args, w_heap, w_applies, trivial, trivial, w_case⟩
end start1
theorem witness_1 : WitnessClaimed_1 := ⟨start1.p0, start1.e0, start1.about1, start1.theMethod, start1.args0, start1.below0, start1.atStart⟩
end Jvm.Pilot.@@N@@
