import JvmDerived
import JvmDerived.Pilot.@@N@@Statement
import JvmDerived.Pilot.@@N@@Code
set_option linter.unusedVariables false
set_option linter.unusedSimpArgs false
namespace Jvm.RoadKit
open Sem ClassFile Op Lib Jvm.Stand Jvm.Free Jvm.LawKit
section New
variable {p : Program} {l : Launch} {e : Env} {R : Room} {s : State} {m : MethodId} {args : Array Value} {below : List Frame} {meth : Method} {c : Code} {T : State} {locs : List Loc} {cells slots : Nat}
theorem retI (X : Stand p l e R s m args below meth c T locs cells slots) (hx : p.tables.exec = Jvm.exec) {pc : Nat} {Ls : Array Slot} {z : Int32} {rest : List Value} (hret : meth.sig.returnType = some .int) (hd : decode c.code pc = .ok (.ireturn, 1)) {fs : List Frame}
    (hl : ∀ (f : JFrame) (acts : List Action), f.method = m → f.locked = none → f.entered = [] → (doReturn e (T.setTop f) acts (some (.int z))).1 = T.setFrames fs) : Steps p.tables e below (T.setTop (mkF m pc Ls (.int z :: rest))) (T.setFrames fs) := by
  have hm' : T.vm.method? m = some meth := X.method'
  have hn : narrow .int (.int z) = .int z := rfl
  show Steps p.tables e below (T.setTop { method := m, pc := pc, locals := Ls, stack := _ :: rest, locked := none }) _
  jvm_step X.here [X.here.top, hx, hd, hm', hret, hn]
  first | (intro acts; rw [hl _ acts rfl rfl rfl]) | rw [hl _ _ rfl rfl rfl]
  exact Steps.refl _
end New
end Jvm.RoadKit
namespace Jvm.Pilot.@@N@@
open Jvm Jvm.ClassFile Sem Op Lib Jvm.Free Jvm.Stand Jvm.LawKit Jvm.RoadKit Bundle Jvm.Pilot.@@N@@.Jvm.D

def own_bs (k : Int32) : Int32 := if (1 : Int32) < k then (if (2 : Int32) < k then (-4 : Int32) else if k < (2 : Int32) then (-3 : Int32) else (2 : Int32)) else if k < (1 : Int32) then (if (0 : Int32) < k then (-2 : Int32) else if k < (0 : Int32) then (-1 : Int32) else (0 : Int32)) else (1 : Int32)
def own_cut (k : Int32) : Int32 := if (own_bs k) < (0 : Int32) then ((-(own_bs k)) - (1 : Int32)) else (own_bs k)
theorem own_cases (k : Int32) : k < 0 ∨ k = 0 ∨ k = 1 ∨ k = 2 ∨ k = 3 ∨ 3 < k := by
  simp only [Int32.lt_iff_toInt_lt, ← Int32.toInt_inj, Int32.reduceToInt]
  omega
theorem own_neg (k : Int32) (h : k < 0) : own_cut k = 0 := by
  have a : ¬ (1 : Int32) < k := by simp only [Int32.lt_iff_toInt_lt, Int32.reduceToInt] at *; omega
  have b : k < (1 : Int32) := by simp only [Int32.lt_iff_toInt_lt, Int32.reduceToInt] at *; omega
  have c : ¬ (0 : Int32) < k := by simp only [Int32.lt_iff_toInt_lt, Int32.reduceToInt] at *; omega
  have e : own_bs k = -1 := by simp [own_bs, a, b, c, h]
  unfold own_cut
  rw [e]
  decide
theorem own_big (k : Int32) (h : 3 < k) : own_cut k = 3 := by
  have a : (1 : Int32) < k := by simp only [Int32.lt_iff_toInt_lt, Int32.reduceToInt] at *; omega
  have b : (2 : Int32) < k := by simp only [Int32.lt_iff_toInt_lt, Int32.reduceToInt] at *; omega
  have e : own_bs k = -4 := by simp [own_bs, a, b]
  unfold own_cut
  rw [e]
  decide
theorem own_low (k : Int32) (h : ¬ (0 : Int32) < k) : own_cut k = 0 := by
  rcases own_cases k with q | rfl | rfl | rfl | rfl | q
  · exact own_neg k q
  · decide
  · exact absurd (by decide) h
  · exact absurd (by decide) h
  · exact absurd (by decide) h
  · exact absurd (by simp only [Int32.lt_iff_toInt_lt, Int32.reduceToInt] at *; omega) h
theorem own_hi (k : Int32) (h : (0 : Int32) < k) : own_cut k = (if (3 : Int32) < k then (3 : Int32) else k) := by
  rcases own_cases k with q | rfl | rfl | rfl | rfl | q
  · exact absurd h (by simp only [Int32.lt_iff_toInt_lt, Int32.reduceToInt] at *; omega)
  · exact absurd h (by decide)
  · decide
  · decide
  · decide
  · rw [own_big k q, if_pos q]
theorem own_cnt (k : Int32) (h : (0 : Int32) < k) : (if (3 : Int32) < k then (3 : Int32) else k) = 1 ∨ (if (3 : Int32) < k then (3 : Int32) else k) = 2 ∨ (if (3 : Int32) < k then (3 : Int32) else k) = 3 := by
  rcases own_cases k with q | rfl | rfl | rfl | rfl | q
  · exact absurd h (by simp only [Int32.lt_iff_toInt_lt, Int32.reduceToInt] at *; omega)
  · exact absurd h (by decide)
  · decide
  · decide
  · decide
  · rw [if_pos q]; decide
def own_x (c : Int32) (a b d : Int64) : Int64 := if c = (1 : Int32) then a else if c = (2 : Int32) then b else d
theorem own_getx (c : Int32) (h : c = 1 ∨ c = 2 ∨ c = 3) (a b d : Int64) : (¬ (c - (1 : Int32)) < 0 ∧ (c - (1 : Int32)) < 3) ∧ [Value.long a, .long b, .long d].getD (c - (1 : Int32)).toNatClampNeg (.long (0 : Int64)) = .long (own_x c a b d) := by
  rcases h with rfl | rfl | rfl <;> exact ⟨by decide, rfl⟩
theorem own_exp (c : Int32) (h : c = 1 ∨ c = 2 ∨ c = 3) (z a b d : Int64) : (if c = (0 : Int32) then z else own_x c (z + a) ((z + a) + b) (((z + a) + b) + d)) = (if (2 : Int32) < c then ((if (1 : Int32) < c then ((if (0 : Int32) < c then (z + a) else z) + b) else (if (0 : Int32) < c then (z + a) else z)) + d) else (if (1 : Int32) < c then ((if (0 : Int32) < c then (z + a) else z) + b) else (if (0 : Int32) < c then (z + a) else z))) := by
  rcases h with rfl | rfl | rfl <;> simp [own_x] <;> decide

theorem own_cut_eq {Z : State} {h : Heap} {a : Addr} {C n d : String} {x y : Int32} (e : x = y) (F : Fld Z h a C n d (.int y)) : Fld Z h a C n d (.int x) := e ▸ F
theorem d1_0 : decode jdk_29_method_65_code 0 = .ok (.iload_n 0, 1) := by decide +kernel
theorem d1_1 : decode jdk_29_method_65_code 1 = .ok (.iload_n 1, 1) := by decide +kernel
theorem d1_2 : decode jdk_29_method_65_code 2 = .ok (.if_icmp .lt 7, 3) := by decide +kernel
theorem d1_5 : decode jdk_29_method_65_code 5 = .ok (.iload_n 0, 1) := by decide +kernel
theorem d1_6 : decode jdk_29_method_65_code 6 = .ok (.goto 4, 3) := by decide +kernel
theorem d1_9 : decode jdk_29_method_65_code 9 = .ok (.iload_n 1, 1) := by decide +kernel
theorem d1_10 : decode jdk_29_method_65_code 10 = .ok (.ireturn, 1) := by decide +kernel
theorem ef_1 (m : MethodId) (x0 : Int32) (x1 : Int32) : entryFrame m #[(.int x0), (.int x1)] 2 = mkF m 0 #[.val (.int x0), .val (.int x1)] [] := by first | (simp [entryFrame, mkF, argsToLocals, Value.category]; done) | rfl
def Q_1 (Z : State) (p1 : Int32) (p2 : Int32) (h0 : Heap) (n0 : Nat) (v : Option Value) (h : Heap) (L : List Loc) : Prop := v = some (.int (if p1 < p2 then p2 else p1)) ∧ Fr n0 L ∧ h = h0
set_option maxRecDepth 65536 in
set_option maxHeartbeats 40000000 in
theorem rm_1 (l : Launch) (Z : State) (a0 : Array Value) (hw : ∀ d ∈ tables_1, d.before a0 Z = true) (ws : List Jvm.Cond) (p1 : Int32) (p2 : Int32) (h0 : Heap) (n0 : Nat) (Z0 : n0 ≤ h0.size) :
    MetFree l (⟨"java/lang/Math", "max", "(II)I"⟩ : MethodName) (head1 (Jvm.Cond.code (⟨"java/lang/Math", "max", "(II)I"⟩ : MethodName) jdk_29_method_65_code 2 (some .int) :: ws) ({ frames := 0, cells := 0, slots := 0, locals := 0 } : Room)) (fun a U => a = #[(.int p1), (.int p2)] ∧ Z.Warmed39 U.vm ∧ U.heap = h0) (fun _ _ _ _ _ => True) (fun _ U o U' => ∃ v L, o = .returned v ∧ Q_1 Z p1 p2 h0 n0 v U'.heap L ∧ FrameEnd U o U' L ({ frames := 0, cells := 0, slots := 0, locals := 0 } : Room).cells ({ frames := 0, cells := 0, slots := 0, locals := 0 } : Room).slots) := by
  refine MetFree.of_bodySF (Jvm.Free.JP.mathPlain rfl (by decide +kernel)) hisR ?_
  intro p e s m args below meth cod_ s₁ Bd hml0 hP hK
  obtain ⟨rfl, hZ, hh⟩ := hP
  have hx := Bd.exec
  have hby := Bd.bytes
  have hml : cod_.maxLocals = 2 := hml0
  have hown : s.vm.findClass "java/lang/Math" = some m.cls := findClass_of_methodNamed Bd.named
  have hnm := (name_of_methodNamed Bd.named Bd.method).1
  have X0 : Stand p l e ({ frames := 0, cells := 0, slots := 0, locals := 0 } : Room) s m #[(.int p1), (.int p2)] below meth cod_ s₁ [] 0 0 := Stand.of_body Bd
  have e0 : s₁.heap = h0 := by rw [← hh, Bd.state]; rfl
  have N0 := Fr.nil n0
  have pre0 : ∀ t, Steps p.tables e below (s₁.setTop (mkF m 0 #[.val (.int p1), .val (.int p2)] [])) t → Steps p.tables e below (s₁.setTop (entryFrame m #[(.int p1), (.int p2)] 2)) t := fun t k => castTop (ef_1 m p1 p2) k
  by_cases hc2 : p1 < p2
  · obtain ⟨fs, hr, hrun, hended, hW, hsame⟩ := X0.leave (v := some (.int p2)) (fun h => by rw [Bd.returns] at h; cases h)
    refine ⟨_, _, pre0 _ ?_, hrun, hended, _, _, rfl, ?_, ⟨_, rfl⟩, hW, hsame.mono (by decide) (by decide)⟩
    · show Steps p.tables e below (s₁.setTop (mkF m 0 #[.val (.int p1), .val (.int p2)] [])) _
      refine XS.iloadN X0.here hx rfl (hb hby d1_0) rfl ?_
      show Steps p.tables e below (s₁.setTop (mkF m 1 #[.val (.int p1), .val (.int p2)] [(.int p1)])) _
      refine XS.iloadN X0.here hx rfl (hb hby d1_1) rfl ?_
      show Steps p.tables e below (s₁.setTop (mkF m 2 #[.val (.int p1), .val (.int p2)] [(.int p2), (.int p1)])) _
      refine XS.icmpYes X0.here hx rfl (pc0 := 2) (pc' := 9) rfl (hb hby d1_2) rfl (tlt hc2).1 (by decide) (by decide) ?_
      show Steps p.tables e below (s₁.setTop (mkF m 9 #[.val (.int p1), .val (.int p2)] [])) _
      refine XS.iloadN X0.here hx rfl (hb hby d1_9) rfl ?_
      show Steps p.tables e below (s₁.setTop (mkF m 10 #[.val (.int p1), .val (.int p2)] [(.int p2)])) _
      exact retI X0 hx Bd.returns (hb hby d1_10) hr
    · show Q_1 Z p1 p2 h0 n0 _ s₁.heap _
      rw [e0]
      exact ⟨by simp [hc2], N0, rfl⟩
  · obtain ⟨fs, hr, hrun, hended, hW, hsame⟩ := X0.leave (v := some (.int p1)) (fun h => by rw [Bd.returns] at h; cases h)
    refine ⟨_, _, pre0 _ ?_, hrun, hended, _, _, rfl, ?_, ⟨_, rfl⟩, hW, hsame.mono (by decide) (by decide)⟩
    · show Steps p.tables e below (s₁.setTop (mkF m 0 #[.val (.int p1), .val (.int p2)] [])) _
      refine XS.iloadN X0.here hx rfl (hb hby d1_0) rfl ?_
      show Steps p.tables e below (s₁.setTop (mkF m 1 #[.val (.int p1), .val (.int p2)] [(.int p1)])) _
      refine XS.iloadN X0.here hx rfl (hb hby d1_1) rfl ?_
      show Steps p.tables e below (s₁.setTop (mkF m 2 #[.val (.int p1), .val (.int p2)] [(.int p2), (.int p1)])) _
      refine XS.icmpNo X0.here hx rfl (hb hby d1_2) rfl (flt hc2).1 ?_
      show Steps p.tables e below (s₁.setTop (mkF m 5 #[.val (.int p1), .val (.int p2)] [])) _
      refine XS.iloadN X0.here hx rfl (hb hby d1_5) rfl ?_
      show Steps p.tables e below (s₁.setTop (mkF m 6 #[.val (.int p1), .val (.int p2)] [(.int p1)])) _
      refine XS.goto X0.here hx rfl (pc0 := 6) (pc' := 10) rfl (hb hby d1_6) (by decide) (by decide) ?_
      show Steps p.tables e below (s₁.setTop (mkF m 10 #[.val (.int p1), .val (.int p2)] [(.int p1)])) _
      exact retI X0 hx Bd.returns (hb hby d1_10) hr
    · show Q_1 Z p1 p2 h0 n0 _ s₁.heap _
      rw [e0]
      exact ⟨by simp [hc2], N0, rfl⟩
theorem d12_0 : decode jdk_29_method_69_code 0 = .ok (.iload_n 0, 1) := by decide +kernel
theorem d12_1 : decode jdk_29_method_69_code 1 = .ok (.iload_n 1, 1) := by decide +kernel
theorem d12_2 : decode jdk_29_method_69_code 2 = .ok (.if_icmp .gt 7, 3) := by decide +kernel
theorem d12_5 : decode jdk_29_method_69_code 5 = .ok (.iload_n 0, 1) := by decide +kernel
theorem d12_6 : decode jdk_29_method_69_code 6 = .ok (.goto 4, 3) := by decide +kernel
theorem d12_9 : decode jdk_29_method_69_code 9 = .ok (.iload_n 1, 1) := by decide +kernel
theorem d12_10 : decode jdk_29_method_69_code 10 = .ok (.ireturn, 1) := by decide +kernel
theorem ef_12 (m : MethodId) (x0 : Int32) (x1 : Int32) : entryFrame m #[(.int x0), (.int x1)] 2 = mkF m 0 #[.val (.int x0), .val (.int x1)] [] := by first | (simp [entryFrame, mkF, argsToLocals, Value.category]; done) | rfl
def Q_12 (Z : State) (p1 : Int32) (p2 : Int32) (h0 : Heap) (n0 : Nat) (v : Option Value) (h : Heap) (L : List Loc) : Prop := v = some (.int (if p2 < p1 then p2 else p1)) ∧ Fr n0 L ∧ h = h0
set_option maxRecDepth 65536 in
set_option maxHeartbeats 40000000 in
theorem rm_12 (l : Launch) (Z : State) (a0 : Array Value) (hw : ∀ d ∈ tables_1, d.before a0 Z = true) (ws : List Jvm.Cond) (p1 : Int32) (p2 : Int32) (h0 : Heap) (n0 : Nat) (Z0 : n0 ≤ h0.size) :
    MetFree l (⟨"java/lang/Math", "min", "(II)I"⟩ : MethodName) (head1 (Jvm.Cond.code (⟨"java/lang/Math", "min", "(II)I"⟩ : MethodName) jdk_29_method_69_code 2 (some .int) :: ws) ({ frames := 0, cells := 0, slots := 0, locals := 0 } : Room)) (fun a U => a = #[(.int p1), (.int p2)] ∧ Z.Warmed39 U.vm ∧ U.heap = h0) (fun _ _ _ _ _ => True) (fun _ U o U' => ∃ v L, o = .returned v ∧ Q_12 Z p1 p2 h0 n0 v U'.heap L ∧ FrameEnd U o U' L ({ frames := 0, cells := 0, slots := 0, locals := 0 } : Room).cells ({ frames := 0, cells := 0, slots := 0, locals := 0 } : Room).slots) := by
  refine MetFree.of_bodySF (Jvm.Free.JP.mathPlain rfl (by decide +kernel)) hisR ?_
  intro p e s m args below meth cod_ s₁ Bd hml0 hP hK
  obtain ⟨rfl, hZ, hh⟩ := hP
  have hx := Bd.exec
  have hby := Bd.bytes
  have hml : cod_.maxLocals = 2 := hml0
  have hown : s.vm.findClass "java/lang/Math" = some m.cls := findClass_of_methodNamed Bd.named
  have hnm := (name_of_methodNamed Bd.named Bd.method).1
  have X0 : Stand p l e ({ frames := 0, cells := 0, slots := 0, locals := 0 } : Room) s m #[(.int p1), (.int p2)] below meth cod_ s₁ [] 0 0 := Stand.of_body Bd
  have e0 : s₁.heap = h0 := by rw [← hh, Bd.state]; rfl
  have N0 := Fr.nil n0
  have pre0 : ∀ t, Steps p.tables e below (s₁.setTop (mkF m 0 #[.val (.int p1), .val (.int p2)] [])) t → Steps p.tables e below (s₁.setTop (entryFrame m #[(.int p1), (.int p2)] 2)) t := fun t k => castTop (ef_12 m p1 p2) k
  by_cases hc2 : p2 < p1
  · obtain ⟨fs, hr, hrun, hended, hW, hsame⟩ := X0.leave (v := some (.int p2)) (fun h => by rw [Bd.returns] at h; cases h)
    refine ⟨_, _, pre0 _ ?_, hrun, hended, _, _, rfl, ?_, ⟨_, rfl⟩, hW, hsame.mono (by decide) (by decide)⟩
    · show Steps p.tables e below (s₁.setTop (mkF m 0 #[.val (.int p1), .val (.int p2)] [])) _
      refine XS.iloadN X0.here hx rfl (hb hby d12_0) rfl ?_
      show Steps p.tables e below (s₁.setTop (mkF m 1 #[.val (.int p1), .val (.int p2)] [(.int p1)])) _
      refine XS.iloadN X0.here hx rfl (hb hby d12_1) rfl ?_
      show Steps p.tables e below (s₁.setTop (mkF m 2 #[.val (.int p1), .val (.int p2)] [(.int p2), (.int p1)])) _
      refine XS.icmpYes X0.here hx rfl (pc0 := 2) (pc' := 9) rfl (hb hby d12_2) rfl (tlt hc2).2.2.1 (by decide) (by decide) ?_
      show Steps p.tables e below (s₁.setTop (mkF m 9 #[.val (.int p1), .val (.int p2)] [])) _
      refine XS.iloadN X0.here hx rfl (hb hby d12_9) rfl ?_
      show Steps p.tables e below (s₁.setTop (mkF m 10 #[.val (.int p1), .val (.int p2)] [(.int p2)])) _
      exact retI X0 hx Bd.returns (hb hby d12_10) hr
    · show Q_12 Z p1 p2 h0 n0 _ s₁.heap _
      rw [e0]
      exact ⟨by simp [hc2], N0, rfl⟩
  · obtain ⟨fs, hr, hrun, hended, hW, hsame⟩ := X0.leave (v := some (.int p1)) (fun h => by rw [Bd.returns] at h; cases h)
    refine ⟨_, _, pre0 _ ?_, hrun, hended, _, _, rfl, ?_, ⟨_, rfl⟩, hW, hsame.mono (by decide) (by decide)⟩
    · show Steps p.tables e below (s₁.setTop (mkF m 0 #[.val (.int p1), .val (.int p2)] [])) _
      refine XS.iloadN X0.here hx rfl (hb hby d12_0) rfl ?_
      show Steps p.tables e below (s₁.setTop (mkF m 1 #[.val (.int p1), .val (.int p2)] [(.int p1)])) _
      refine XS.iloadN X0.here hx rfl (hb hby d12_1) rfl ?_
      show Steps p.tables e below (s₁.setTop (mkF m 2 #[.val (.int p1), .val (.int p2)] [(.int p2), (.int p1)])) _
      refine XS.icmpNo X0.here hx rfl (hb hby d12_2) rfl (flt hc2).2.2.1 ?_
      show Steps p.tables e below (s₁.setTop (mkF m 5 #[.val (.int p1), .val (.int p2)] [])) _
      refine XS.iloadN X0.here hx rfl (hb hby d12_5) rfl ?_
      show Steps p.tables e below (s₁.setTop (mkF m 6 #[.val (.int p1), .val (.int p2)] [(.int p1)])) _
      refine XS.goto X0.here hx rfl (pc0 := 6) (pc' := 10) rfl (hb hby d12_6) (by decide) (by decide) ?_
      show Steps p.tables e below (s₁.setTop (mkF m 10 #[.val (.int p1), .val (.int p2)] [(.int p1)])) _
      exact retI X0 hx Bd.returns (hb hby d12_10) hr
    · show Q_12 Z p1 p2 h0 n0 _ s₁.heap _
      rw [e0]
      exact ⟨by simp [hc2], N0, rfl⟩
theorem d3_0 : decode prog_6_method_3_code 0 = .ok (.aload_n 0, 1) := by decide +kernel
theorem d3_1 : decode prog_6_method_3_code 1 = .ok (.arraylength, 1) := by decide +kernel
theorem d3_2 : decode prog_6_method_3_code 2 = .ok (.newarray .long, 2) := by decide +kernel
theorem d3_4 : decode prog_6_method_3_code 4 = .ok (.astore_n 1, 1) := by decide +kernel
theorem d3_5 : decode prog_6_method_3_code 5 = .ok (.lconst 0, 1) := by decide +kernel
theorem d3_6 : decode prog_6_method_3_code 6 = .ok (.lstore_n 2, 1) := by decide +kernel
theorem d3_7 : decode prog_6_method_3_code 7 = .ok (.iconst 0, 1) := by decide +kernel
theorem d3_8 : decode prog_6_method_3_code 8 = .ok (.istore 4, 2) := by decide +kernel
theorem d3_10 : decode prog_6_method_3_code 10 = .ok (.iload 4, 2) := by decide +kernel
theorem d3_12 : decode prog_6_method_3_code 12 = .ok (.aload_n 0, 1) := by decide +kernel
theorem d3_13 : decode prog_6_method_3_code 13 = .ok (.arraylength, 1) := by decide +kernel
theorem d3_14 : decode prog_6_method_3_code 14 = .ok (.if_icmp .ge 22, 3) := by decide +kernel
theorem d3_36 : decode prog_6_method_3_code 36 = .ok (.aload_n 1, 1) := by decide +kernel
theorem d3_37 : decode prog_6_method_3_code 37 = .ok (.areturn, 1) := by decide +kernel
theorem pn_3 : plainName "com/example/vrabec/vrabec/index/Postings" = true := by first | (simp [plainName, overriddenIn]; done) | decide +kernel
theorem ef_3 (m : MethodId) (x0 : Addr) : entryFrame m #[(.ref x0)] 5 = mkF m 0 #[.val (.ref x0), .unset, .unset, .unset, .unset] [] := by first | (simp [entryFrame, mkF, argsToLocals, Value.category]; done) | rfl
def Q_3a (Z : State) (a1 : Addr) (h0 : Heap) (n0 : Nat) (v : Option Value) (h : Heap) (L : List Loc) : Prop := v = some (.ref h0.size) ∧ Fr n0 L ∧ Keep h0 h [] ∧ ∃ kl : ClassId, Arv Z h h0.size kl .long (0 : Int32) [] (.long (0 : Int64))
set_option maxRecDepth 65536 in
set_option maxHeartbeats 40000000 in
theorem rm_3a (l : Launch) (Z : State) (a0 : Array Value) (hw : ∀ d ∈ tables_1, d.before a0 Z = true) (ws : List Jvm.Cond) (a1 : Addr) (ki : ClassId) (h0 : Heap) (n0 : Nat) (Z0 : n0 ≤ h0.size) (V_1 : Arv Z h0 a1 ki .int (0 : Int32) [] (.int (0 : Int32))) :
    MetFree l (⟨"com/example/vrabec/vrabec/index/Postings", "runningSums", "([I)[J"⟩ : MethodName) (head1 (Jvm.Cond.code (⟨"com/example/vrabec/vrabec/index/Postings", "runningSums", "([I)[J"⟩ : MethodName) prog_6_method_3_code 5 (some (.array .long)) :: ws) ({ frames := 0, cells := 1, slots := 0, locals := 0 } : Room)) (fun a U => a = #[(.ref a1)] ∧ Z.Warmed39 U.vm ∧ U.heap = h0) (fun _ _ _ _ _ => True) (fun _ U o U' => ∃ v L, o = .returned v ∧ Q_3a Z a1 h0 n0 v U'.heap L ∧ FrameEnd U o U' L ({ frames := 0, cells := 1, slots := 0, locals := 0 } : Room).cells ({ frames := 0, cells := 1, slots := 0, locals := 0 } : Room).slots) := by
  refine MetFree.of_bodySF (plainFor_of_name pn_3) hisR ?_
  intro p e s m args below meth cod_ s₁ Bd hml0 hP hK
  obtain ⟨rfl, hZ, hh⟩ := hP
  have hx := Bd.exec
  have hby := Bd.bytes
  have hml : cod_.maxLocals = 5 := hml0
  have hown : s.vm.findClass "com/example/vrabec/vrabec/index/Postings" = some m.cls := findClass_of_methodNamed Bd.named
  have hnm := (name_of_methodNamed Bd.named Bd.method).1
  have X0 : Stand p l e ({ frames := 0, cells := 1, slots := 0, locals := 0 } : Room) s m #[(.ref a1)] below meth cod_ s₁ [] 0 0 := Stand.of_body Bd
  have e0 : s₁.heap = h0 := by rw [← hh, Bd.state]; rfl
  have N0 := Fr.nil n0
  have pre0 : ∀ t, Steps p.tables e below (s₁.setTop (mkF m 0 #[.val (.ref a1), .unset, .unset, .unset, .unset] [])) t → Steps p.tables e below (s₁.setTop (entryFrame m #[(.ref a1)] 5)) t := fun t k => castTop (ef_3 m a1) k
  obtain ⟨cl1, Ar1, -, S1, M1, -, -⟩ := id (V_1)
  obtain ⟨T2, h2, k2, X2, e2, E2, A2, st2⟩ := newP X0 hx hZ (hw _ (List.mem_of_getElem? (i := 15) rfl)) e0 (g := (mkF m 2 #[.val (.ref a1), .unset, .unset, .unset, .unset] [(.int (0 : Int32))])) rfl (hb hby d3_2) rfl (by decide) (cap := 0) (by decide) (by decide) (by decide) (by decide)
  obtain ⟨b2, g2⟩ : ∃ z, z = h0.size := ⟨_, rfl⟩
  rw [← g2] at A2 st2
  have g_b2 : n0 ≤ b2 := Nat.le_trans (Nat.le_trans Z0 (Keep.refl h0 []).1) (Nat.le_of_eq g2.symm)
  have sz_b2 : h0.size ≤ b2 := Nat.le_trans (Keep.refl h0 []).1 (Nat.le_of_eq g2.symm)
  have ne_a1_b2 : a1 ≠ b2 := Nat.ne_of_lt (Nat.lt_of_lt_of_le V_1.lt (Nat.le_of_eq g2.symm))
  have Kh2 : Keep h0 h2 [] := (Keep.refl h0 []).ext E2
  have V_b2 : Arv Z h2 b2 k2 .long (0 : Int32) [] (.long (0 : Int64)) := Arv.new A2 (by decide)
  obtain ⟨cl3, Ar3, -, S3, M3, -, -⟩ := id ((V_1.ext E2))
  have hc14 : ¬ ((0 : Int32) < (0 : Int32)) := by decide
  obtain ⟨fs, hr, hrun, hended, hW, hsame⟩ := X2.leave (v := some (.ref b2)) (fun h => by rw [Bd.returns] at h; cases h)
  refine ⟨_, _, pre0 _ ?_, hrun, hended, _, _, rfl, ?_, ⟨_, rfl⟩, hW, hsame.mono (by decide) (by decide)⟩
  · show Steps p.tables e below (s₁.setTop (mkF m 0 #[.val (.ref a1), .unset, .unset, .unset, .unset] [])) _
    refine XS.aloadN X0.here hx rfl (hb hby d3_0) rfl rfl ?_
    show Steps p.tables e below (s₁.setTop (mkF m 1 #[.val (.ref a1), .unset, .unset, .unset, .unset] [(.ref a1)])) _
    refine X0.arraylength hx (by rw [e0]; exact Ar1.1) (State.isArrayOf_alike hZ.alike Ar1.2.1) (g := (mkF m 1 #[.val (.ref a1), .unset, .unset, .unset, .unset] [(.ref a1)])) rfl rfl (hb hby d3_1) _ ?_
    rw [len_of S1 M1]
    show Steps p.tables e below (s₁.setTop (mkF m 2 #[.val (.ref a1), .unset, .unset, .unset, .unset] [(.int (0 : Int32))])) _
    refine st2 _ ?_
    show Steps p.tables e below (T2.setTop (mkF m 4 #[.val (.ref a1), .unset, .unset, .unset, .unset] [(.ref b2)])) _
    refine XS.astoreN X2.here hx rfl (hb hby d3_4) rfl rfl (l' := #[.val (.ref a1), .val (.ref b2), .unset, .unset, .unset]) rfl ?_
    show Steps p.tables e below (T2.setTop (mkF m 5 #[.val (.ref a1), .val (.ref b2), .unset, .unset, .unset] [])) _
    refine XS.lconst X2.here hx rfl (hb hby d3_5) ?_
    show Steps p.tables e below (T2.setTop (mkF m 6 #[.val (.ref a1), .val (.ref b2), .unset, .unset, .unset] [(.long (0 : Int64))])) _
    refine XS.lstoreN X2.here hx rfl (hb hby d3_6) rfl (l' := #[.val (.ref a1), .val (.ref b2), .val (.long (0 : Int64)), .second, .unset]) rfl ?_
    show Steps p.tables e below (T2.setTop (mkF m 7 #[.val (.ref a1), .val (.ref b2), .val (.long (0 : Int64)), .second, .unset] [])) _
    refine XS.iconst X2.here hx rfl (hb hby d3_7) ?_
    show Steps p.tables e below (T2.setTop (mkF m 8 #[.val (.ref a1), .val (.ref b2), .val (.long (0 : Int64)), .second, .unset] [(.int (0 : Int32))])) _
    refine XS.istore X2.here hx rfl (hb hby d3_8) rfl (l' := #[.val (.ref a1), .val (.ref b2), .val (.long (0 : Int64)), .second, .val (.int (0 : Int32))]) rfl ?_
    show Steps p.tables e below (T2.setTop (mkF m 10 #[.val (.ref a1), .val (.ref b2), .val (.long (0 : Int64)), .second, .val (.int (0 : Int32))] [])) _
    refine XS.iload X2.here hx rfl (hb hby d3_10) rfl ?_
    show Steps p.tables e below (T2.setTop (mkF m 12 #[.val (.ref a1), .val (.ref b2), .val (.long (0 : Int64)), .second, .val (.int (0 : Int32))] [(.int (0 : Int32))])) _
    refine XS.aloadN X2.here hx rfl (hb hby d3_12) rfl rfl ?_
    show Steps p.tables e below (T2.setTop (mkF m 13 #[.val (.ref a1), .val (.ref b2), .val (.long (0 : Int64)), .second, .val (.int (0 : Int32))] [(.ref a1), (.int (0 : Int32))])) _
    refine X2.arraylength hx (by rw [e2]; exact Ar3.1) (State.isArrayOf_alike hZ.alike Ar3.2.1) (g := (mkF m 13 #[.val (.ref a1), .val (.ref b2), .val (.long (0 : Int64)), .second, .val (.int (0 : Int32))] [(.ref a1), (.int (0 : Int32))])) rfl rfl (hb hby d3_13) _ ?_
    rw [len_of S3 M3]
    show Steps p.tables e below (T2.setTop (mkF m 14 #[.val (.ref a1), .val (.ref b2), .val (.long (0 : Int64)), .second, .val (.int (0 : Int32))] [(.int (0 : Int32)), (.int (0 : Int32))])) _
    refine XS.icmpYes X2.here hx rfl (pc0 := 14) (pc' := 36) rfl (hb hby d3_14) rfl (flt hc14).2.1 (by decide) (by decide) ?_
    show Steps p.tables e below (T2.setTop (mkF m 36 #[.val (.ref a1), .val (.ref b2), .val (.long (0 : Int64)), .second, .val (.int (0 : Int32))] [])) _
    refine XS.aloadN X2.here hx rfl (hb hby d3_36) rfl rfl ?_
    show Steps p.tables e below (T2.setTop (mkF m 37 #[.val (.ref a1), .val (.ref b2), .val (.long (0 : Int64)), .second, .val (.int (0 : Int32))] [(.ref b2)])) _
    jvm_step X2.here [X2.here.top, hx, (hb hby d3_37), X2.method', Bd.returns, Value.isRef, FieldType.isReference]
    first | (intro acts; rw [hr _ acts rfl rfl rfl]) | rw [hr _ _ rfl rfl rfl]
    exact Steps.refl _
  · show Q_3a Z a1 h0 n0 _ T2.heap _
    rw [e2]
    subst g2
    exact ⟨rfl, N0, Kh2, k2, V_b2⟩
theorem d3_17 : decode prog_6_method_3_code 17 = .ok (.lload_n 2, 1) := by decide +kernel
theorem d3_18 : decode prog_6_method_3_code 18 = .ok (.aload_n 0, 1) := by decide +kernel
theorem d3_19 : decode prog_6_method_3_code 19 = .ok (.iload 4, 2) := by decide +kernel
theorem d3_21 : decode prog_6_method_3_code 21 = .ok (.iaload, 1) := by decide +kernel
theorem d3_22 : decode prog_6_method_3_code 22 = .ok (.i2l, 1) := by decide +kernel
theorem d3_23 : decode prog_6_method_3_code 23 = .ok (.ladd, 1) := by decide +kernel
theorem d3_24 : decode prog_6_method_3_code 24 = .ok (.lstore_n 2, 1) := by decide +kernel
theorem d3_25 : decode prog_6_method_3_code 25 = .ok (.aload_n 1, 1) := by decide +kernel
theorem d3_26 : decode prog_6_method_3_code 26 = .ok (.iload 4, 2) := by decide +kernel
theorem d3_28 : decode prog_6_method_3_code 28 = .ok (.lload_n 2, 1) := by decide +kernel
theorem d3_29 : decode prog_6_method_3_code 29 = .ok (.lastore, 1) := by decide +kernel
theorem d3_30 : decode prog_6_method_3_code 30 = .ok (.iinc 4 1, 3) := by decide +kernel
theorem d3_33 : decode prog_6_method_3_code 33 = .ok (.goto (-23), 3) := by decide +kernel
def Q_3b (Z : State) (a1 : Addr) (f0 f1 f2 : Int32) (h0 : Heap) (n0 : Nat) (v : Option Value) (h : Heap) (L : List Loc) : Prop := v = some (.ref h0.size) ∧ Fr n0 L ∧ Keep h0 h [] ∧ ∃ kl : ClassId, Arv Z h h0.size kl .long (3 : Int32) [(.long ((0 : Int64) + (f0.toInt64))), (.long (((0 : Int64) + (f0.toInt64)) + (f1.toInt64))), (.long ((((0 : Int64) + (f0.toInt64)) + (f1.toInt64)) + (f2.toInt64)))] (.long (0 : Int64))
set_option maxRecDepth 65536 in
set_option maxHeartbeats 40000000 in
theorem rm_3b (l : Launch) (Z : State) (a0 : Array Value) (hw : ∀ d ∈ tables_1, d.before a0 Z = true) (ws : List Jvm.Cond) (a1 : Addr) (f0 f1 f2 : Int32) (ki : ClassId) (h0 : Heap) (n0 : Nat) (Z0 : n0 ≤ h0.size) (V_1 : Arv Z h0 a1 ki .int (3 : Int32) [(.int f0), (.int f1), (.int f2)] (.int (0 : Int32))) :
    MetFree l (⟨"com/example/vrabec/vrabec/index/Postings", "runningSums", "([I)[J"⟩ : MethodName) (head1 (Jvm.Cond.code (⟨"com/example/vrabec/vrabec/index/Postings", "runningSums", "([I)[J"⟩ : MethodName) prog_6_method_3_code 5 (some (.array .long)) :: ws) ({ frames := 0, cells := 1, slots := 3, locals := 0 } : Room)) (fun a U => a = #[(.ref a1)] ∧ Z.Warmed39 U.vm ∧ U.heap = h0) (fun _ _ _ _ _ => True) (fun _ U o U' => ∃ v L, o = .returned v ∧ Q_3b Z a1 f0 f1 f2 h0 n0 v U'.heap L ∧ FrameEnd U o U' L ({ frames := 0, cells := 1, slots := 3, locals := 0 } : Room).cells ({ frames := 0, cells := 1, slots := 3, locals := 0 } : Room).slots) := by
  refine MetFree.of_bodySF (plainFor_of_name pn_3) hisR ?_
  intro p e s m args below meth cod_ s₁ Bd hml0 hP hK
  obtain ⟨rfl, hZ, hh⟩ := hP
  have hx := Bd.exec
  have hby := Bd.bytes
  have hml : cod_.maxLocals = 5 := hml0
  have hown : s.vm.findClass "com/example/vrabec/vrabec/index/Postings" = some m.cls := findClass_of_methodNamed Bd.named
  have hnm := (name_of_methodNamed Bd.named Bd.method).1
  have X0 : Stand p l e ({ frames := 0, cells := 1, slots := 3, locals := 0 } : Room) s m #[(.ref a1)] below meth cod_ s₁ [] 0 0 := Stand.of_body Bd
  have e0 : s₁.heap = h0 := by rw [← hh, Bd.state]; rfl
  have N0 := Fr.nil n0
  have pre0 : ∀ t, Steps p.tables e below (s₁.setTop (mkF m 0 #[.val (.ref a1), .unset, .unset, .unset, .unset] [])) t → Steps p.tables e below (s₁.setTop (entryFrame m #[(.ref a1)] 5)) t := fun t k => castTop (ef_3 m a1) k
  obtain ⟨cl4, Ar4, -, S4, M4, -, -⟩ := id (V_1)
  obtain ⟨T5, h5, k5, X5, e5, E5, A5, st5⟩ := newP X0 hx hZ (hw _ (List.mem_of_getElem? (i := 15) rfl)) e0 (g := (mkF m 2 #[.val (.ref a1), .unset, .unset, .unset, .unset] [(.int (3 : Int32))])) rfl (hb hby d3_2) rfl (by decide) (cap := 3) (by decide) (by decide) (by decide) (by decide)
  obtain ⟨b5, g5⟩ : ∃ z, z = h0.size := ⟨_, rfl⟩
  rw [← g5] at A5 st5
  have g_b5 : n0 ≤ b5 := Nat.le_trans (Nat.le_trans Z0 (Keep.refl h0 []).1) (Nat.le_of_eq g5.symm)
  have sz_b5 : h0.size ≤ b5 := Nat.le_trans (Keep.refl h0 []).1 (Nat.le_of_eq g5.symm)
  have ne_a1_b5 : a1 ≠ b5 := Nat.ne_of_lt (Nat.lt_of_lt_of_le V_1.lt (Nat.le_of_eq g5.symm))
  have Kh5 : Keep h0 h5 [] := (Keep.refl h0 []).ext E5
  have V_b5 : Arv Z h5 b5 k5 .long (3 : Int32) [(.long (0 : Int64)), (.long (0 : Int64)), (.long (0 : Int64))] (.long (0 : Int64)) := (Arv.new A5 (by decide)).pad (pad_rep [] (.long (0 : Int64)) 3)
  obtain ⟨cl6, Ar6, -, S6, M6, -, -⟩ := id ((V_1.ext E5))
  have hc14 : (0 : Int32) < (3 : Int32) := by decide
  obtain ⟨cl7, Ar7, -, S7, M7, H7, G7⟩ := id ((V_1.ext E5))
  have hin7 : ¬ ((0 : Int32) < 0 ∨ cl7.slots.size ≤ ((0 : Int32)).toNatClampNeg) := inb_of S7 ⟨by decide, by decide⟩
  have hat7 : cl7.slots[((0 : Int32)).toNatClampNeg]? = some (.int f0) := Has.at H7 hin7 rfl
  obtain ⟨cl8, Ar8, q8, S8, M8, H8, G8⟩ := id (V_b5)
  have hin8 : ¬ ((0 : Int32) < 0 ∨ cl8.slots.size ≤ ((0 : Int32)).toNatClampNeg) := inb_of S8 ⟨by decide, by decide⟩
  obtain ⟨T8, h8, X8, e8, W8, st8⟩ := stJ X5 hx hZ e5 Ar8 (j := (0 : Int32)) hin8 (g := (mkF m 29 #[.val (.ref a1), .val (.ref b5), .val (.long ((0 : Int64) + (f0.toInt64))), .second, .val (.int (0 : Int32))] [(.long ((0 : Int64) + (f0.toInt64))), (.int (0 : Int32)), (.ref b5)])) rfl rfl (hb hby d3_29)
  have V8 : Arv Z h8 b5 k5 .long (3 : Int32) [(.long ((0 : Int64) + (f0.toInt64))), (.long (0 : Int64)), (.long (0 : Int64))] (.long (0 : Int64)) := Arv.set Ar8 q8 S8 M8 H8 G8 rfl W8 0 rfl (Nat.le_of_ble_eq_true rfl)
  have Kh8 : Keep h0 h8 [] := Kh5.wr W8 (Or.inr sz_b5)
  have N8 := Fr.snoc X8 N0 g_b5
  have f10 := ((V_1.ext E5).other W8 ne_a1_b5)
  obtain ⟨cl9, Ar9, -, S9, M9, -, -⟩ := id (f10)
  have hc14x : (1 : Int32) < (3 : Int32) := by decide
  obtain ⟨cl11, Ar11, -, S11, M11, H11, G11⟩ := id (f10)
  have hin11 : ¬ ((1 : Int32) < 0 ∨ cl11.slots.size ≤ ((1 : Int32)).toNatClampNeg) := inb_of S11 ⟨by decide, by decide⟩
  have hat11 : cl11.slots[((1 : Int32)).toNatClampNeg]? = some (.int f1) := Has.at H11 hin11 rfl
  obtain ⟨cl12, Ar12, q12, S12, M12, H12, G12⟩ := id (V8)
  have hin12 : ¬ ((1 : Int32) < 0 ∨ cl12.slots.size ≤ ((1 : Int32)).toNatClampNeg) := inb_of S12 ⟨by decide, by decide⟩
  obtain ⟨T12, h12, X12, e12, W12, st12⟩ := stJ X8 hx hZ e8 Ar12 (j := (1 : Int32)) hin12 (g := (mkF m 29 #[.val (.ref a1), .val (.ref b5), .val (.long (((0 : Int64) + (f0.toInt64)) + (f1.toInt64))), .second, .val (.int (1 : Int32))] [(.long (((0 : Int64) + (f0.toInt64)) + (f1.toInt64))), (.int (1 : Int32)), (.ref b5)])) rfl rfl (hb hby d3_29)
  have V12 : Arv Z h12 b5 k5 .long (3 : Int32) [(.long ((0 : Int64) + (f0.toInt64))), (.long (((0 : Int64) + (f0.toInt64)) + (f1.toInt64))), (.long (0 : Int64))] (.long (0 : Int64)) := Arv.set Ar12 q12 S12 M12 H12 G12 rfl W12 1 rfl (Nat.le_of_ble_eq_true rfl)
  have Kh12 : Keep h0 h12 [] := Kh8.wr W12 (Or.inr sz_b5)
  have N12 := Fr.snoc X12 N8 g_b5
  obtain ⟨cl13, Ar13, -, S13, M13, -, -⟩ := id ((f10.other W12 ne_a1_b5))
  have hc14xx : (2 : Int32) < (3 : Int32) := by decide
  obtain ⟨cl14, Ar14, -, S14, M14, H14, G14⟩ := id ((f10.other W12 ne_a1_b5))
  have hin14 : ¬ ((2 : Int32) < 0 ∨ cl14.slots.size ≤ ((2 : Int32)).toNatClampNeg) := inb_of S14 ⟨by decide, by decide⟩
  have hat14 : cl14.slots[((2 : Int32)).toNatClampNeg]? = some (.int f2) := Has.at H14 hin14 rfl
  obtain ⟨cl15, Ar15, q15, S15, M15, H15, G15⟩ := id (V12)
  have hin15 : ¬ ((2 : Int32) < 0 ∨ cl15.slots.size ≤ ((2 : Int32)).toNatClampNeg) := inb_of S15 ⟨by decide, by decide⟩
  obtain ⟨T15, h15, X15, e15, W15, st15⟩ := stJ X12 hx hZ e12 Ar15 (j := (2 : Int32)) hin15 (g := (mkF m 29 #[.val (.ref a1), .val (.ref b5), .val (.long ((((0 : Int64) + (f0.toInt64)) + (f1.toInt64)) + (f2.toInt64))), .second, .val (.int (2 : Int32))] [(.long ((((0 : Int64) + (f0.toInt64)) + (f1.toInt64)) + (f2.toInt64))), (.int (2 : Int32)), (.ref b5)])) rfl rfl (hb hby d3_29)
  have V15 : Arv Z h15 b5 k5 .long (3 : Int32) [(.long ((0 : Int64) + (f0.toInt64))), (.long (((0 : Int64) + (f0.toInt64)) + (f1.toInt64))), (.long ((((0 : Int64) + (f0.toInt64)) + (f1.toInt64)) + (f2.toInt64)))] (.long (0 : Int64)) := Arv.set Ar15 q15 S15 M15 H15 G15 rfl W15 2 rfl (Nat.le_of_ble_eq_true rfl)
  have Kh15 : Keep h0 h15 [] := Kh12.wr W15 (Or.inr sz_b5)
  have N15 := Fr.snoc X15 N12 g_b5
  have f17 := ((f10.other W12 ne_a1_b5).other W15 ne_a1_b5)
  obtain ⟨cl16, Ar16, -, S16, M16, -, -⟩ := id (f17)
  have hc14xxx : ¬ ((3 : Int32) < (3 : Int32)) := by decide
  obtain ⟨fs, hr, hrun, hended, hW, hsame⟩ := X15.leave (v := some (.ref b5)) (fun h => by rw [Bd.returns] at h; cases h)
  refine ⟨_, _, pre0 _ ?_, hrun, hended, _, _, rfl, ?_, ⟨_, rfl⟩, hW, hsame.mono (by decide) (by decide)⟩
  · show Steps p.tables e below (s₁.setTop (mkF m 0 #[.val (.ref a1), .unset, .unset, .unset, .unset] [])) _
    refine XS.aloadN X0.here hx rfl (hb hby d3_0) rfl rfl ?_
    show Steps p.tables e below (s₁.setTop (mkF m 1 #[.val (.ref a1), .unset, .unset, .unset, .unset] [(.ref a1)])) _
    refine X0.arraylength hx (by rw [e0]; exact Ar4.1) (State.isArrayOf_alike hZ.alike Ar4.2.1) (g := (mkF m 1 #[.val (.ref a1), .unset, .unset, .unset, .unset] [(.ref a1)])) rfl rfl (hb hby d3_1) _ ?_
    rw [len_of S4 M4]
    show Steps p.tables e below (s₁.setTop (mkF m 2 #[.val (.ref a1), .unset, .unset, .unset, .unset] [(.int (3 : Int32))])) _
    refine st5 _ ?_
    show Steps p.tables e below (T5.setTop (mkF m 4 #[.val (.ref a1), .unset, .unset, .unset, .unset] [(.ref b5)])) _
    refine XS.astoreN X5.here hx rfl (hb hby d3_4) rfl rfl (l' := #[.val (.ref a1), .val (.ref b5), .unset, .unset, .unset]) rfl ?_
    show Steps p.tables e below (T5.setTop (mkF m 5 #[.val (.ref a1), .val (.ref b5), .unset, .unset, .unset] [])) _
    refine XS.lconst X5.here hx rfl (hb hby d3_5) ?_
    show Steps p.tables e below (T5.setTop (mkF m 6 #[.val (.ref a1), .val (.ref b5), .unset, .unset, .unset] [(.long (0 : Int64))])) _
    refine XS.lstoreN X5.here hx rfl (hb hby d3_6) rfl (l' := #[.val (.ref a1), .val (.ref b5), .val (.long (0 : Int64)), .second, .unset]) rfl ?_
    show Steps p.tables e below (T5.setTop (mkF m 7 #[.val (.ref a1), .val (.ref b5), .val (.long (0 : Int64)), .second, .unset] [])) _
    refine XS.iconst X5.here hx rfl (hb hby d3_7) ?_
    show Steps p.tables e below (T5.setTop (mkF m 8 #[.val (.ref a1), .val (.ref b5), .val (.long (0 : Int64)), .second, .unset] [(.int (0 : Int32))])) _
    refine XS.istore X5.here hx rfl (hb hby d3_8) rfl (l' := #[.val (.ref a1), .val (.ref b5), .val (.long (0 : Int64)), .second, .val (.int (0 : Int32))]) rfl ?_
    show Steps p.tables e below (T5.setTop (mkF m 10 #[.val (.ref a1), .val (.ref b5), .val (.long (0 : Int64)), .second, .val (.int (0 : Int32))] [])) _
    refine XS.iload X5.here hx rfl (hb hby d3_10) rfl ?_
    show Steps p.tables e below (T5.setTop (mkF m 12 #[.val (.ref a1), .val (.ref b5), .val (.long (0 : Int64)), .second, .val (.int (0 : Int32))] [(.int (0 : Int32))])) _
    refine XS.aloadN X5.here hx rfl (hb hby d3_12) rfl rfl ?_
    show Steps p.tables e below (T5.setTop (mkF m 13 #[.val (.ref a1), .val (.ref b5), .val (.long (0 : Int64)), .second, .val (.int (0 : Int32))] [(.ref a1), (.int (0 : Int32))])) _
    refine X5.arraylength hx (by rw [e5]; exact Ar6.1) (State.isArrayOf_alike hZ.alike Ar6.2.1) (g := (mkF m 13 #[.val (.ref a1), .val (.ref b5), .val (.long (0 : Int64)), .second, .val (.int (0 : Int32))] [(.ref a1), (.int (0 : Int32))])) rfl rfl (hb hby d3_13) _ ?_
    rw [len_of S6 M6]
    show Steps p.tables e below (T5.setTop (mkF m 14 #[.val (.ref a1), .val (.ref b5), .val (.long (0 : Int64)), .second, .val (.int (0 : Int32))] [(.int (3 : Int32)), (.int (0 : Int32))])) _
    refine XS.icmpNo X5.here hx rfl (hb hby d3_14) rfl (tlt hc14).2.1 ?_
    show Steps p.tables e below (T5.setTop (mkF m 17 #[.val (.ref a1), .val (.ref b5), .val (.long (0 : Int64)), .second, .val (.int (0 : Int32))] [])) _
    refine XS.lloadN X5.here hx rfl (hb hby d3_17) rfl ?_
    show Steps p.tables e below (T5.setTop (mkF m 18 #[.val (.ref a1), .val (.ref b5), .val (.long (0 : Int64)), .second, .val (.int (0 : Int32))] [(.long (0 : Int64))])) _
    refine XS.aloadN X5.here hx rfl (hb hby d3_18) rfl rfl ?_
    show Steps p.tables e below (T5.setTop (mkF m 19 #[.val (.ref a1), .val (.ref b5), .val (.long (0 : Int64)), .second, .val (.int (0 : Int32))] [(.ref a1), (.long (0 : Int64))])) _
    refine XS.iload X5.here hx rfl (hb hby d3_19) rfl ?_
    show Steps p.tables e below (T5.setTop (mkF m 21 #[.val (.ref a1), .val (.ref b5), .val (.long (0 : Int64)), .second, .val (.int (0 : Int32))] [(.int (0 : Int32)), (.ref a1), (.long (0 : Int64))])) _
    refine X5.iaload hx (j := (0 : Int32)) (v := (.int f0)) (by rw [e5]; exact Ar7.1) (State.isArrayOf_alike hZ.alike Ar7.2.1) Ar7.2.2 hin7 hat7 (g := (mkF m 21 #[.val (.ref a1), .val (.ref b5), .val (.long (0 : Int64)), .second, .val (.int (0 : Int32))] [(.int (0 : Int32)), (.ref a1), (.long (0 : Int64))])) rfl rfl (hb hby d3_21) _ ?_
    show Steps p.tables e below (T5.setTop (mkF m 22 #[.val (.ref a1), .val (.ref b5), .val (.long (0 : Int64)), .second, .val (.int (0 : Int32))] [(.int f0), (.long (0 : Int64))])) _
    refine XS.i2l X5.here hx rfl (hb hby d3_22) rfl ?_
    show Steps p.tables e below (T5.setTop (mkF m 23 #[.val (.ref a1), .val (.ref b5), .val (.long (0 : Int64)), .second, .val (.int (0 : Int32))] [(.long (f0.toInt64)), (.long (0 : Int64))])) _
    refine XS.ladd X5.here hx rfl (hb hby d3_23) rfl ?_
    show Steps p.tables e below (T5.setTop (mkF m 24 #[.val (.ref a1), .val (.ref b5), .val (.long (0 : Int64)), .second, .val (.int (0 : Int32))] [(.long ((0 : Int64) + (f0.toInt64)))])) _
    refine XS.lstoreN X5.here hx rfl (hb hby d3_24) rfl (l' := #[.val (.ref a1), .val (.ref b5), .val (.long ((0 : Int64) + (f0.toInt64))), .second, .val (.int (0 : Int32))]) rfl ?_
    show Steps p.tables e below (T5.setTop (mkF m 25 #[.val (.ref a1), .val (.ref b5), .val (.long ((0 : Int64) + (f0.toInt64))), .second, .val (.int (0 : Int32))] [])) _
    refine XS.aloadN X5.here hx rfl (hb hby d3_25) rfl rfl ?_
    show Steps p.tables e below (T5.setTop (mkF m 26 #[.val (.ref a1), .val (.ref b5), .val (.long ((0 : Int64) + (f0.toInt64))), .second, .val (.int (0 : Int32))] [(.ref b5)])) _
    refine XS.iload X5.here hx rfl (hb hby d3_26) rfl ?_
    show Steps p.tables e below (T5.setTop (mkF m 28 #[.val (.ref a1), .val (.ref b5), .val (.long ((0 : Int64) + (f0.toInt64))), .second, .val (.int (0 : Int32))] [(.int (0 : Int32)), (.ref b5)])) _
    refine XS.lloadN X5.here hx rfl (hb hby d3_28) rfl ?_
    show Steps p.tables e below (T5.setTop (mkF m 29 #[.val (.ref a1), .val (.ref b5), .val (.long ((0 : Int64) + (f0.toInt64))), .second, .val (.int (0 : Int32))] [(.long ((0 : Int64) + (f0.toInt64))), (.int (0 : Int32)), (.ref b5)])) _
    refine st8 _ ?_
    show Steps p.tables e below (T8.setTop (mkF m 30 #[.val (.ref a1), .val (.ref b5), .val (.long ((0 : Int64) + (f0.toInt64))), .second, .val (.int (0 : Int32))] [])) _
    refine XS.iinc X8.here hx rfl (hb hby d3_30) rfl (l' := #[.val (.ref a1), .val (.ref b5), .val (.long ((0 : Int64) + (f0.toInt64))), .second, .val (.int ((0 : Int32) + (1 : Int32)))]) rfl ?_
    show Steps p.tables e below (T8.setTop (mkF m 33 #[.val (.ref a1), .val (.ref b5), .val (.long ((0 : Int64) + (f0.toInt64))), .second, .val (.int ((0 : Int32) + (1 : Int32)))] [])) _
    rw [show ((0 : Int32) + (1 : Int32)) = (1 : Int32) from by decide]
    show Steps p.tables e below (T8.setTop (mkF m 33 #[.val (.ref a1), .val (.ref b5), .val (.long ((0 : Int64) + (f0.toInt64))), .second, .val (.int (1 : Int32))] [])) _
    refine XS.goto X8.here hx rfl (pc0 := 33) (pc' := 10) rfl (hb hby d3_33) (by decide) (by decide) ?_
    show Steps p.tables e below (T8.setTop (mkF m 10 #[.val (.ref a1), .val (.ref b5), .val (.long ((0 : Int64) + (f0.toInt64))), .second, .val (.int (1 : Int32))] [])) _
    refine XS.iload X8.here hx rfl (hb hby d3_10) rfl ?_
    show Steps p.tables e below (T8.setTop (mkF m 12 #[.val (.ref a1), .val (.ref b5), .val (.long ((0 : Int64) + (f0.toInt64))), .second, .val (.int (1 : Int32))] [(.int (1 : Int32))])) _
    refine XS.aloadN X8.here hx rfl (hb hby d3_12) rfl rfl ?_
    show Steps p.tables e below (T8.setTop (mkF m 13 #[.val (.ref a1), .val (.ref b5), .val (.long ((0 : Int64) + (f0.toInt64))), .second, .val (.int (1 : Int32))] [(.ref a1), (.int (1 : Int32))])) _
    refine X8.arraylength hx (by rw [e8]; exact Ar9.1) (State.isArrayOf_alike hZ.alike Ar9.2.1) (g := (mkF m 13 #[.val (.ref a1), .val (.ref b5), .val (.long ((0 : Int64) + (f0.toInt64))), .second, .val (.int (1 : Int32))] [(.ref a1), (.int (1 : Int32))])) rfl rfl (hb hby d3_13) _ ?_
    rw [len_of S9 M9]
    show Steps p.tables e below (T8.setTop (mkF m 14 #[.val (.ref a1), .val (.ref b5), .val (.long ((0 : Int64) + (f0.toInt64))), .second, .val (.int (1 : Int32))] [(.int (3 : Int32)), (.int (1 : Int32))])) _
    refine XS.icmpNo X8.here hx rfl (hb hby d3_14) rfl (tlt hc14x).2.1 ?_
    show Steps p.tables e below (T8.setTop (mkF m 17 #[.val (.ref a1), .val (.ref b5), .val (.long ((0 : Int64) + (f0.toInt64))), .second, .val (.int (1 : Int32))] [])) _
    refine XS.lloadN X8.here hx rfl (hb hby d3_17) rfl ?_
    show Steps p.tables e below (T8.setTop (mkF m 18 #[.val (.ref a1), .val (.ref b5), .val (.long ((0 : Int64) + (f0.toInt64))), .second, .val (.int (1 : Int32))] [(.long ((0 : Int64) + (f0.toInt64)))])) _
    refine XS.aloadN X8.here hx rfl (hb hby d3_18) rfl rfl ?_
    show Steps p.tables e below (T8.setTop (mkF m 19 #[.val (.ref a1), .val (.ref b5), .val (.long ((0 : Int64) + (f0.toInt64))), .second, .val (.int (1 : Int32))] [(.ref a1), (.long ((0 : Int64) + (f0.toInt64)))])) _
    refine XS.iload X8.here hx rfl (hb hby d3_19) rfl ?_
    show Steps p.tables e below (T8.setTop (mkF m 21 #[.val (.ref a1), .val (.ref b5), .val (.long ((0 : Int64) + (f0.toInt64))), .second, .val (.int (1 : Int32))] [(.int (1 : Int32)), (.ref a1), (.long ((0 : Int64) + (f0.toInt64)))])) _
    refine X8.iaload hx (j := (1 : Int32)) (v := (.int f1)) (by rw [e8]; exact Ar11.1) (State.isArrayOf_alike hZ.alike Ar11.2.1) Ar11.2.2 hin11 hat11 (g := (mkF m 21 #[.val (.ref a1), .val (.ref b5), .val (.long ((0 : Int64) + (f0.toInt64))), .second, .val (.int (1 : Int32))] [(.int (1 : Int32)), (.ref a1), (.long ((0 : Int64) + (f0.toInt64)))])) rfl rfl (hb hby d3_21) _ ?_
    show Steps p.tables e below (T8.setTop (mkF m 22 #[.val (.ref a1), .val (.ref b5), .val (.long ((0 : Int64) + (f0.toInt64))), .second, .val (.int (1 : Int32))] [(.int f1), (.long ((0 : Int64) + (f0.toInt64)))])) _
    refine XS.i2l X8.here hx rfl (hb hby d3_22) rfl ?_
    show Steps p.tables e below (T8.setTop (mkF m 23 #[.val (.ref a1), .val (.ref b5), .val (.long ((0 : Int64) + (f0.toInt64))), .second, .val (.int (1 : Int32))] [(.long (f1.toInt64)), (.long ((0 : Int64) + (f0.toInt64)))])) _
    refine XS.ladd X8.here hx rfl (hb hby d3_23) rfl ?_
    show Steps p.tables e below (T8.setTop (mkF m 24 #[.val (.ref a1), .val (.ref b5), .val (.long ((0 : Int64) + (f0.toInt64))), .second, .val (.int (1 : Int32))] [(.long (((0 : Int64) + (f0.toInt64)) + (f1.toInt64)))])) _
    refine XS.lstoreN X8.here hx rfl (hb hby d3_24) rfl (l' := #[.val (.ref a1), .val (.ref b5), .val (.long (((0 : Int64) + (f0.toInt64)) + (f1.toInt64))), .second, .val (.int (1 : Int32))]) rfl ?_
    show Steps p.tables e below (T8.setTop (mkF m 25 #[.val (.ref a1), .val (.ref b5), .val (.long (((0 : Int64) + (f0.toInt64)) + (f1.toInt64))), .second, .val (.int (1 : Int32))] [])) _
    refine XS.aloadN X8.here hx rfl (hb hby d3_25) rfl rfl ?_
    show Steps p.tables e below (T8.setTop (mkF m 26 #[.val (.ref a1), .val (.ref b5), .val (.long (((0 : Int64) + (f0.toInt64)) + (f1.toInt64))), .second, .val (.int (1 : Int32))] [(.ref b5)])) _
    refine XS.iload X8.here hx rfl (hb hby d3_26) rfl ?_
    show Steps p.tables e below (T8.setTop (mkF m 28 #[.val (.ref a1), .val (.ref b5), .val (.long (((0 : Int64) + (f0.toInt64)) + (f1.toInt64))), .second, .val (.int (1 : Int32))] [(.int (1 : Int32)), (.ref b5)])) _
    refine XS.lloadN X8.here hx rfl (hb hby d3_28) rfl ?_
    show Steps p.tables e below (T8.setTop (mkF m 29 #[.val (.ref a1), .val (.ref b5), .val (.long (((0 : Int64) + (f0.toInt64)) + (f1.toInt64))), .second, .val (.int (1 : Int32))] [(.long (((0 : Int64) + (f0.toInt64)) + (f1.toInt64))), (.int (1 : Int32)), (.ref b5)])) _
    refine st12 _ ?_
    show Steps p.tables e below (T12.setTop (mkF m 30 #[.val (.ref a1), .val (.ref b5), .val (.long (((0 : Int64) + (f0.toInt64)) + (f1.toInt64))), .second, .val (.int (1 : Int32))] [])) _
    refine XS.iinc X12.here hx rfl (hb hby d3_30) rfl (l' := #[.val (.ref a1), .val (.ref b5), .val (.long (((0 : Int64) + (f0.toInt64)) + (f1.toInt64))), .second, .val (.int ((1 : Int32) + (1 : Int32)))]) rfl ?_
    show Steps p.tables e below (T12.setTop (mkF m 33 #[.val (.ref a1), .val (.ref b5), .val (.long (((0 : Int64) + (f0.toInt64)) + (f1.toInt64))), .second, .val (.int ((1 : Int32) + (1 : Int32)))] [])) _
    rw [show ((1 : Int32) + (1 : Int32)) = (2 : Int32) from by decide]
    show Steps p.tables e below (T12.setTop (mkF m 33 #[.val (.ref a1), .val (.ref b5), .val (.long (((0 : Int64) + (f0.toInt64)) + (f1.toInt64))), .second, .val (.int (2 : Int32))] [])) _
    refine XS.goto X12.here hx rfl (pc0 := 33) (pc' := 10) rfl (hb hby d3_33) (by decide) (by decide) ?_
    show Steps p.tables e below (T12.setTop (mkF m 10 #[.val (.ref a1), .val (.ref b5), .val (.long (((0 : Int64) + (f0.toInt64)) + (f1.toInt64))), .second, .val (.int (2 : Int32))] [])) _
    refine XS.iload X12.here hx rfl (hb hby d3_10) rfl ?_
    show Steps p.tables e below (T12.setTop (mkF m 12 #[.val (.ref a1), .val (.ref b5), .val (.long (((0 : Int64) + (f0.toInt64)) + (f1.toInt64))), .second, .val (.int (2 : Int32))] [(.int (2 : Int32))])) _
    refine XS.aloadN X12.here hx rfl (hb hby d3_12) rfl rfl ?_
    show Steps p.tables e below (T12.setTop (mkF m 13 #[.val (.ref a1), .val (.ref b5), .val (.long (((0 : Int64) + (f0.toInt64)) + (f1.toInt64))), .second, .val (.int (2 : Int32))] [(.ref a1), (.int (2 : Int32))])) _
    refine X12.arraylength hx (by rw [e12]; exact Ar13.1) (State.isArrayOf_alike hZ.alike Ar13.2.1) (g := (mkF m 13 #[.val (.ref a1), .val (.ref b5), .val (.long (((0 : Int64) + (f0.toInt64)) + (f1.toInt64))), .second, .val (.int (2 : Int32))] [(.ref a1), (.int (2 : Int32))])) rfl rfl (hb hby d3_13) _ ?_
    rw [len_of S13 M13]
    show Steps p.tables e below (T12.setTop (mkF m 14 #[.val (.ref a1), .val (.ref b5), .val (.long (((0 : Int64) + (f0.toInt64)) + (f1.toInt64))), .second, .val (.int (2 : Int32))] [(.int (3 : Int32)), (.int (2 : Int32))])) _
    refine XS.icmpNo X12.here hx rfl (hb hby d3_14) rfl (tlt hc14xx).2.1 ?_
    show Steps p.tables e below (T12.setTop (mkF m 17 #[.val (.ref a1), .val (.ref b5), .val (.long (((0 : Int64) + (f0.toInt64)) + (f1.toInt64))), .second, .val (.int (2 : Int32))] [])) _
    refine XS.lloadN X12.here hx rfl (hb hby d3_17) rfl ?_
    show Steps p.tables e below (T12.setTop (mkF m 18 #[.val (.ref a1), .val (.ref b5), .val (.long (((0 : Int64) + (f0.toInt64)) + (f1.toInt64))), .second, .val (.int (2 : Int32))] [(.long (((0 : Int64) + (f0.toInt64)) + (f1.toInt64)))])) _
    refine XS.aloadN X12.here hx rfl (hb hby d3_18) rfl rfl ?_
    show Steps p.tables e below (T12.setTop (mkF m 19 #[.val (.ref a1), .val (.ref b5), .val (.long (((0 : Int64) + (f0.toInt64)) + (f1.toInt64))), .second, .val (.int (2 : Int32))] [(.ref a1), (.long (((0 : Int64) + (f0.toInt64)) + (f1.toInt64)))])) _
    refine XS.iload X12.here hx rfl (hb hby d3_19) rfl ?_
    show Steps p.tables e below (T12.setTop (mkF m 21 #[.val (.ref a1), .val (.ref b5), .val (.long (((0 : Int64) + (f0.toInt64)) + (f1.toInt64))), .second, .val (.int (2 : Int32))] [(.int (2 : Int32)), (.ref a1), (.long (((0 : Int64) + (f0.toInt64)) + (f1.toInt64)))])) _
    refine X12.iaload hx (j := (2 : Int32)) (v := (.int f2)) (by rw [e12]; exact Ar14.1) (State.isArrayOf_alike hZ.alike Ar14.2.1) Ar14.2.2 hin14 hat14 (g := (mkF m 21 #[.val (.ref a1), .val (.ref b5), .val (.long (((0 : Int64) + (f0.toInt64)) + (f1.toInt64))), .second, .val (.int (2 : Int32))] [(.int (2 : Int32)), (.ref a1), (.long (((0 : Int64) + (f0.toInt64)) + (f1.toInt64)))])) rfl rfl (hb hby d3_21) _ ?_
    show Steps p.tables e below (T12.setTop (mkF m 22 #[.val (.ref a1), .val (.ref b5), .val (.long (((0 : Int64) + (f0.toInt64)) + (f1.toInt64))), .second, .val (.int (2 : Int32))] [(.int f2), (.long (((0 : Int64) + (f0.toInt64)) + (f1.toInt64)))])) _
    refine XS.i2l X12.here hx rfl (hb hby d3_22) rfl ?_
    show Steps p.tables e below (T12.setTop (mkF m 23 #[.val (.ref a1), .val (.ref b5), .val (.long (((0 : Int64) + (f0.toInt64)) + (f1.toInt64))), .second, .val (.int (2 : Int32))] [(.long (f2.toInt64)), (.long (((0 : Int64) + (f0.toInt64)) + (f1.toInt64)))])) _
    refine XS.ladd X12.here hx rfl (hb hby d3_23) rfl ?_
    show Steps p.tables e below (T12.setTop (mkF m 24 #[.val (.ref a1), .val (.ref b5), .val (.long (((0 : Int64) + (f0.toInt64)) + (f1.toInt64))), .second, .val (.int (2 : Int32))] [(.long ((((0 : Int64) + (f0.toInt64)) + (f1.toInt64)) + (f2.toInt64)))])) _
    refine XS.lstoreN X12.here hx rfl (hb hby d3_24) rfl (l' := #[.val (.ref a1), .val (.ref b5), .val (.long ((((0 : Int64) + (f0.toInt64)) + (f1.toInt64)) + (f2.toInt64))), .second, .val (.int (2 : Int32))]) rfl ?_
    show Steps p.tables e below (T12.setTop (mkF m 25 #[.val (.ref a1), .val (.ref b5), .val (.long ((((0 : Int64) + (f0.toInt64)) + (f1.toInt64)) + (f2.toInt64))), .second, .val (.int (2 : Int32))] [])) _
    refine XS.aloadN X12.here hx rfl (hb hby d3_25) rfl rfl ?_
    show Steps p.tables e below (T12.setTop (mkF m 26 #[.val (.ref a1), .val (.ref b5), .val (.long ((((0 : Int64) + (f0.toInt64)) + (f1.toInt64)) + (f2.toInt64))), .second, .val (.int (2 : Int32))] [(.ref b5)])) _
    refine XS.iload X12.here hx rfl (hb hby d3_26) rfl ?_
    show Steps p.tables e below (T12.setTop (mkF m 28 #[.val (.ref a1), .val (.ref b5), .val (.long ((((0 : Int64) + (f0.toInt64)) + (f1.toInt64)) + (f2.toInt64))), .second, .val (.int (2 : Int32))] [(.int (2 : Int32)), (.ref b5)])) _
    refine XS.lloadN X12.here hx rfl (hb hby d3_28) rfl ?_
    show Steps p.tables e below (T12.setTop (mkF m 29 #[.val (.ref a1), .val (.ref b5), .val (.long ((((0 : Int64) + (f0.toInt64)) + (f1.toInt64)) + (f2.toInt64))), .second, .val (.int (2 : Int32))] [(.long ((((0 : Int64) + (f0.toInt64)) + (f1.toInt64)) + (f2.toInt64))), (.int (2 : Int32)), (.ref b5)])) _
    refine st15 _ ?_
    show Steps p.tables e below (T15.setTop (mkF m 30 #[.val (.ref a1), .val (.ref b5), .val (.long ((((0 : Int64) + (f0.toInt64)) + (f1.toInt64)) + (f2.toInt64))), .second, .val (.int (2 : Int32))] [])) _
    refine XS.iinc X15.here hx rfl (hb hby d3_30) rfl (l' := #[.val (.ref a1), .val (.ref b5), .val (.long ((((0 : Int64) + (f0.toInt64)) + (f1.toInt64)) + (f2.toInt64))), .second, .val (.int ((2 : Int32) + (1 : Int32)))]) rfl ?_
    show Steps p.tables e below (T15.setTop (mkF m 33 #[.val (.ref a1), .val (.ref b5), .val (.long ((((0 : Int64) + (f0.toInt64)) + (f1.toInt64)) + (f2.toInt64))), .second, .val (.int ((2 : Int32) + (1 : Int32)))] [])) _
    rw [show ((2 : Int32) + (1 : Int32)) = (3 : Int32) from by decide]
    show Steps p.tables e below (T15.setTop (mkF m 33 #[.val (.ref a1), .val (.ref b5), .val (.long ((((0 : Int64) + (f0.toInt64)) + (f1.toInt64)) + (f2.toInt64))), .second, .val (.int (3 : Int32))] [])) _
    refine XS.goto X15.here hx rfl (pc0 := 33) (pc' := 10) rfl (hb hby d3_33) (by decide) (by decide) ?_
    show Steps p.tables e below (T15.setTop (mkF m 10 #[.val (.ref a1), .val (.ref b5), .val (.long ((((0 : Int64) + (f0.toInt64)) + (f1.toInt64)) + (f2.toInt64))), .second, .val (.int (3 : Int32))] [])) _
    refine XS.iload X15.here hx rfl (hb hby d3_10) rfl ?_
    show Steps p.tables e below (T15.setTop (mkF m 12 #[.val (.ref a1), .val (.ref b5), .val (.long ((((0 : Int64) + (f0.toInt64)) + (f1.toInt64)) + (f2.toInt64))), .second, .val (.int (3 : Int32))] [(.int (3 : Int32))])) _
    refine XS.aloadN X15.here hx rfl (hb hby d3_12) rfl rfl ?_
    show Steps p.tables e below (T15.setTop (mkF m 13 #[.val (.ref a1), .val (.ref b5), .val (.long ((((0 : Int64) + (f0.toInt64)) + (f1.toInt64)) + (f2.toInt64))), .second, .val (.int (3 : Int32))] [(.ref a1), (.int (3 : Int32))])) _
    refine X15.arraylength hx (by rw [e15]; exact Ar16.1) (State.isArrayOf_alike hZ.alike Ar16.2.1) (g := (mkF m 13 #[.val (.ref a1), .val (.ref b5), .val (.long ((((0 : Int64) + (f0.toInt64)) + (f1.toInt64)) + (f2.toInt64))), .second, .val (.int (3 : Int32))] [(.ref a1), (.int (3 : Int32))])) rfl rfl (hb hby d3_13) _ ?_
    rw [len_of S16 M16]
    show Steps p.tables e below (T15.setTop (mkF m 14 #[.val (.ref a1), .val (.ref b5), .val (.long ((((0 : Int64) + (f0.toInt64)) + (f1.toInt64)) + (f2.toInt64))), .second, .val (.int (3 : Int32))] [(.int (3 : Int32)), (.int (3 : Int32))])) _
    refine XS.icmpYes X15.here hx rfl (pc0 := 14) (pc' := 36) rfl (hb hby d3_14) rfl (flt hc14xxx).2.1 (by decide) (by decide) ?_
    show Steps p.tables e below (T15.setTop (mkF m 36 #[.val (.ref a1), .val (.ref b5), .val (.long ((((0 : Int64) + (f0.toInt64)) + (f1.toInt64)) + (f2.toInt64))), .second, .val (.int (3 : Int32))] [])) _
    refine XS.aloadN X15.here hx rfl (hb hby d3_36) rfl rfl ?_
    show Steps p.tables e below (T15.setTop (mkF m 37 #[.val (.ref a1), .val (.ref b5), .val (.long ((((0 : Int64) + (f0.toInt64)) + (f1.toInt64)) + (f2.toInt64))), .second, .val (.int (3 : Int32))] [(.ref b5)])) _
    jvm_step X15.here [X15.here.top, hx, (hb hby d3_37), X15.method', Bd.returns, Value.isRef, FieldType.isReference]
    first | (intro acts; rw [hr _ acts rfl rfl rfl]) | rw [hr _ _ rfl rfl rfl]
    exact Steps.refl _
  · show Q_3b Z a1 f0 f1 f2 h0 n0 _ T15.heap _
    rw [e15]
    subst g5
    exact ⟨rfl, N15, Kh15, k5, V15⟩
theorem d4_0 : decode prog_6_method_2_code 0 = .ok (.aload_n 0, 1) := by decide +kernel
theorem d4_1 : decode prog_6_method_2_code 1 = .ok (.invokespecial 11, 3) := by decide +kernel
theorem d4_4 : decode prog_6_method_2_code 4 = .ok (.aload_n 0, 1) := by decide +kernel
theorem d4_5 : decode prog_6_method_2_code 5 = .ok (.aload_n 1, 1) := by decide +kernel
theorem d4_6 : decode prog_6_method_2_code 6 = .ok (.putfield 16, 3) := by decide +kernel
theorem d4_9 : decode prog_6_method_2_code 9 = .ok (.aload_n 0, 1) := by decide +kernel
theorem d4_10 : decode prog_6_method_2_code 10 = .ok (.aload_n 2, 1) := by decide +kernel
theorem d4_11 : decode prog_6_method_2_code 11 = .ok (.putfield 20, 3) := by decide +kernel
theorem d4_14 : decode prog_6_method_2_code 14 = .ok (.aload_n 0, 1) := by decide +kernel
theorem d4_15 : decode prog_6_method_2_code 15 = .ok (.aload_n 3, 1) := by decide +kernel
theorem d4_16 : decode prog_6_method_2_code 16 = .ok (.putfield 23, 3) := by decide +kernel
theorem d4_19 : decode prog_6_method_2_code 19 = .ok (.aload_n 0, 1) := by decide +kernel
theorem d4_20 : decode prog_6_method_2_code 20 = .ok (.iload 4, 2) := by decide +kernel
theorem d4_22 : decode prog_6_method_2_code 22 = .ok (.putfield 27, 3) := by decide +kernel
theorem d4_25 : decode prog_6_method_2_code 25 = .ok (.return_, 1) := by decide +kernel
theorem pn_4 : plainName "com/example/vrabec/vrabec/index/Postings" = true := by first | (simp [plainName, overriddenIn]; done) | decide +kernel
theorem ef_4 (m : MethodId) (x0 : Addr) (x1 : Addr) (x2 : Addr) (x3 : Addr) (x4 : Int32) : entryFrame m #[(.ref x0), (.ref x1), (.ref x2), (.ref x3), (.int x4)] 5 = mkF m 0 #[.val (.ref x0), .val (.ref x1), .val (.ref x2), .val (.ref x3), .val (.int x4)] [] := by first | (simp [entryFrame, mkF, argsToLocals, Value.category]; done) | rfl
def Q_4 (Z : State) (a1 : Addr) (a2 : Addr) (a3 : Addr) (a4 : Addr) (p5 : Int32) (h0 : Heap) (n0 : Nat) (v : Option Value) (h : Heap) (L : List Loc) : Prop := v = none ∧ Fr n0 L ∧ Keep h0 h [a1] ∧ Exa Z h a1 "com/example/vrabec/vrabec/index/Postings" ∧ Fld Z h a1 "com/example/vrabec/vrabec/index/Postings" "docs" "[I" (.ref a2) ∧ Fld Z h a1 "com/example/vrabec/vrabec/index/Postings" "frequencies" "[I" (.ref a3) ∧ Fld Z h a1 "com/example/vrabec/vrabec/index/Postings" "occurrences" "[J" (.ref a4) ∧ Fld Z h a1 "com/example/vrabec/vrabec/index/Postings" "size" "I" (.int p5)
set_option maxRecDepth 65536 in
set_option maxHeartbeats 40000000 in
theorem rm_4 (l : Launch) (Z : State) (a0 : Array Value) (hw : ∀ d ∈ tables_1, d.before a0 Z = true) (ws : List Jvm.Cond) (a1 : Addr) (a2 : Addr) (a3 : Addr) (a4 : Addr) (p5 : Int32) (h0 : Heap) (n0 : Nat) (Z0 : n0 ≤ h0.size) (E_a1 : Exa Z h0 a1 "com/example/vrabec/vrabec/index/Postings") (g_a1 : n0 ≤ a1) (F_docs : Fld Z h0 a1 "com/example/vrabec/vrabec/index/Postings" "docs" "[I" .null) (F_frequencies : Fld Z h0 a1 "com/example/vrabec/vrabec/index/Postings" "frequencies" "[I" .null) (F_occurrences : Fld Z h0 a1 "com/example/vrabec/vrabec/index/Postings" "occurrences" "[J" .null) (F_size : Fld Z h0 a1 "com/example/vrabec/vrabec/index/Postings" "size" "I" (.int (0 : Int32))) :
    MetFree l (⟨"com/example/vrabec/vrabec/index/Postings", "<init>", "([I[I[JI)V"⟩ : MethodName) (head1 (Jvm.Cond.code (⟨"com/example/vrabec/vrabec/index/Postings", "<init>", "([I[I[JI)V"⟩ : MethodName) prog_6_method_2_code 5 none :: ws) ({ frames := 1, cells := 0, slots := 0, locals := 12 } : Room)) (fun a U => a = #[(.ref a1), (.ref a2), (.ref a3), (.ref a4), (.int p5)] ∧ Z.Warmed39 U.vm ∧ U.heap = h0) (fun _ _ _ _ _ => True) (fun _ U o U' => ∃ v L, o = .returned v ∧ Q_4 Z a1 a2 a3 a4 p5 h0 n0 v U'.heap L ∧ FrameEnd U o U' L ({ frames := 1, cells := 0, slots := 0, locals := 12 } : Room).cells ({ frames := 1, cells := 0, slots := 0, locals := 12 } : Room).slots) := by
  refine MetFree.of_bodySF (plainFor_of_name pn_4) hisR ?_
  intro p e s m args below meth cod_ s₁ Bd hml0 hP hK
  obtain ⟨rfl, hZ, hh⟩ := hP
  have hx := Bd.exec
  have hby := Bd.bytes
  have hml : cod_.maxLocals = 5 := hml0
  have hown : s.vm.findClass "com/example/vrabec/vrabec/index/Postings" = some m.cls := findClass_of_methodNamed Bd.named
  have hnm := (name_of_methodNamed Bd.named Bd.method).1
  have X0 : Stand p l e ({ frames := 1, cells := 0, slots := 0, locals := 12 } : Room) s m #[(.ref a1), (.ref a2), (.ref a3), (.ref a4), (.int p5)] below meth cod_ s₁ [] 0 0 := Stand.of_body Bd
  have e0 : s₁.heap = h0 := by rw [← hh, Bd.state]; rfl
  have N0 := Fr.nil n0
  have pre0 : ∀ t, Steps p.tables e below (s₁.setTop (mkF m 0 #[.val (.ref a1), .val (.ref a2), .val (.ref a3), .val (.ref a4), .val (.int p5)] [])) t → Steps p.tables e below (s₁.setTop (entryFrame m #[(.ref a1), (.ref a2), (.ref a3), (.ref a4), (.int p5)] 5)) t := fun t k => castTop (ef_4 m a1 a2 a3 a4 p5) k
  obtain ⟨T18, X18, e18, st18⟩ := initO X0 hx hZ hown (hw _ (List.mem_of_getElem? (i := 19) rfl)) (hw _ (List.mem_of_getElem? (i := 20) rfl)) (hw _ (List.mem_of_getElem? (i := 21) rfl)) e0 (g := (mkF m 1 #[.val (.ref a1), .val (.ref a2), .val (.ref a3), .val (.ref a4), .val (.int p5)] [(.ref a1)])) rfl (by rw [hml]; rfl) rfl (hb hby d4_1) (by decide) (W := 0) (by show 2 * 0 + _ ≤ _; exact Nat.le_of_eq rfl) (by decide)
  obtain ⟨T19, h19, X19, e19, W19, st19⟩ := putF X18 hx hZ hown (host := "") (Or.inl (hw _ (List.mem_of_getElem? (i := 22) rfl))) Via.refl e18 F_docs E_a1 (Or.inr ⟨(hw _ (List.mem_of_getElem? (i := 23) rfl)), rfl, hnm⟩) (hw _ (List.mem_of_getElem? (i := 7) rfl)) (ty := (.array .int)) (by decide) rfl rfl (g := (mkF m 6 #[.val (.ref a1), .val (.ref a2), .val (.ref a3), .val (.ref a4), .val (.int p5)] [(.ref a2), (.ref a1)])) rfl rfl (hb hby d4_6)
  have Fw19 : Fld Z h19 a1 "com/example/vrabec/vrabec/index/Postings" "docs" "[I" (.ref a2) := F_docs.same W19
  have N19 := Fr.snoc X19 N0 g_a1
  have Kh19 : Keep h0 h19 [a1] := (Keep.refl h0 [a1]).wr W19 (Or.inl (List.mem_of_getElem? (i := 0) rfl))
  obtain ⟨T20, h20, X20, e20, W20, st20⟩ := putF X19 hx hZ hown (host := "") (Or.inl (hw _ (List.mem_of_getElem? (i := 24) rfl))) Via.refl e19 (F_frequencies.other W19 (Or.inr (slot_ne (Or.inr (hw _ (List.mem_of_getElem? (i := 25) rfl))) (Or.inr (hw _ (List.mem_of_getElem? (i := 23) rfl))) (by decide) (t := (.array .int)) (t' := (.array .int)) (by decide) (by decide)))) (E_a1.wr W19) (Or.inr ⟨(hw _ (List.mem_of_getElem? (i := 25) rfl)), rfl, hnm⟩) (hw _ (List.mem_of_getElem? (i := 7) rfl)) (ty := (.array .int)) (by decide) rfl rfl (g := (mkF m 11 #[.val (.ref a1), .val (.ref a2), .val (.ref a3), .val (.ref a4), .val (.int p5)] [(.ref a3), (.ref a1)])) rfl rfl (hb hby d4_11)
  have Fw20 : Fld Z h20 a1 "com/example/vrabec/vrabec/index/Postings" "frequencies" "[I" (.ref a3) := (F_frequencies.other W19 (Or.inr (slot_ne (Or.inr (hw _ (List.mem_of_getElem? (i := 25) rfl))) (Or.inr (hw _ (List.mem_of_getElem? (i := 23) rfl))) (by decide) (t := (.array .int)) (t' := (.array .int)) (by decide) (by decide)))).same W20
  have N20 := Fr.snoc X20 N19 g_a1
  have Kh20 : Keep h0 h20 [a1] := Kh19.wr W20 (Or.inl (List.mem_of_getElem? (i := 0) rfl))
  have f21 := ((F_occurrences.other W19 (Or.inr (slot_ne (Or.inr (hw _ (List.mem_of_getElem? (i := 27) rfl))) (Or.inr (hw _ (List.mem_of_getElem? (i := 23) rfl))) (by decide) (t := (.array .long)) (t' := (.array .int)) (by decide) (by decide)))).other W20 (Or.inr (slot_ne (Or.inr (hw _ (List.mem_of_getElem? (i := 27) rfl))) (Or.inr (hw _ (List.mem_of_getElem? (i := 25) rfl))) (by decide) (t := (.array .long)) (t' := (.array .int)) (by decide) (by decide))))
  have f22 := ((E_a1.wr W19).wr W20)
  obtain ⟨T23, h23, X23, e23, W23, st23⟩ := putF X20 hx hZ hown (host := "") (Or.inl (hw _ (List.mem_of_getElem? (i := 26) rfl))) Via.refl e20 f21 f22 (Or.inr ⟨(hw _ (List.mem_of_getElem? (i := 27) rfl)), rfl, hnm⟩) (hw _ (List.mem_of_getElem? (i := 7) rfl)) (ty := (.array .long)) (by decide) rfl rfl (g := (mkF m 16 #[.val (.ref a1), .val (.ref a2), .val (.ref a3), .val (.ref a4), .val (.int p5)] [(.ref a4), (.ref a1)])) rfl rfl (hb hby d4_16)
  have Fw23 : Fld Z h23 a1 "com/example/vrabec/vrabec/index/Postings" "occurrences" "[J" (.ref a4) := f21.same W23
  have N23 := Fr.snoc X23 N20 g_a1
  have Kh23 : Keep h0 h23 [a1] := Kh20.wr W23 (Or.inl (List.mem_of_getElem? (i := 0) rfl))
  have f24 := (((F_size.other W19 (Or.inr (slot_ne (Or.inr (hw _ (List.mem_of_getElem? (i := 29) rfl))) (Or.inr (hw _ (List.mem_of_getElem? (i := 23) rfl))) (by decide) (t := .int) (t' := (.array .int)) (by decide) (by decide)))).other W20 (Or.inr (slot_ne (Or.inr (hw _ (List.mem_of_getElem? (i := 29) rfl))) (Or.inr (hw _ (List.mem_of_getElem? (i := 25) rfl))) (by decide) (t := .int) (t' := (.array .int)) (by decide) (by decide)))).other W23 (Or.inr (slot_ne (Or.inr (hw _ (List.mem_of_getElem? (i := 29) rfl))) (Or.inr (hw _ (List.mem_of_getElem? (i := 27) rfl))) (by decide) (t := .int) (t' := (.array .long)) (by decide) (by decide))))
  obtain ⟨T25, h25, X25, e25, W25, st25⟩ := putF X23 hx hZ hown (host := "") (Or.inl (hw _ (List.mem_of_getElem? (i := 28) rfl))) Via.refl e23 f24 (f22.wr W23) (Or.inr ⟨(hw _ (List.mem_of_getElem? (i := 29) rfl)), rfl, hnm⟩) (hw _ (List.mem_of_getElem? (i := 7) rfl)) (ty := .int) (by decide) rfl rfl (g := (mkF m 22 #[.val (.ref a1), .val (.ref a2), .val (.ref a3), .val (.ref a4), .val (.int p5)] [(.int p5), (.ref a1)])) rfl rfl (hb hby d4_22)
  have Fw25 : Fld Z h25 a1 "com/example/vrabec/vrabec/index/Postings" "size" "I" (.int p5) := f24.same W25
  have N25 := Fr.snoc X25 N23 g_a1
  have Kh25 : Keep h0 h25 [a1] := Kh23.wr W25 (Or.inl (List.mem_of_getElem? (i := 0) rfl))
  have f26 := ((f22.wr W23).wr W25)
  have f27 := (((Fw19.other W20 (Or.inr (slot_ne (Or.inr (hw _ (List.mem_of_getElem? (i := 23) rfl))) (Or.inr (hw _ (List.mem_of_getElem? (i := 25) rfl))) (by decide) (t := (.array .int)) (t' := (.array .int)) (by decide) (by decide)))).other W23 (Or.inr (slot_ne (Or.inr (hw _ (List.mem_of_getElem? (i := 23) rfl))) (Or.inr (hw _ (List.mem_of_getElem? (i := 27) rfl))) (by decide) (t := (.array .int)) (t' := (.array .long)) (by decide) (by decide)))).other W25 (Or.inr (slot_ne (Or.inr (hw _ (List.mem_of_getElem? (i := 23) rfl))) (Or.inr (hw _ (List.mem_of_getElem? (i := 29) rfl))) (by decide) (t := (.array .int)) (t' := .int) (by decide) (by decide))))
  have f28 := ((Fw20.other W23 (Or.inr (slot_ne (Or.inr (hw _ (List.mem_of_getElem? (i := 25) rfl))) (Or.inr (hw _ (List.mem_of_getElem? (i := 27) rfl))) (by decide) (t := (.array .int)) (t' := (.array .long)) (by decide) (by decide)))).other W25 (Or.inr (slot_ne (Or.inr (hw _ (List.mem_of_getElem? (i := 25) rfl))) (Or.inr (hw _ (List.mem_of_getElem? (i := 29) rfl))) (by decide) (t := (.array .int)) (t' := .int) (by decide) (by decide))))
  obtain ⟨fs, hr, hrun, hended, hW, hsame⟩ := X25.leave (v := none) (fun _ => rfl)
  refine ⟨_, _, pre0 _ ?_, hrun, hended, _, _, rfl, ?_, ⟨_, rfl⟩, hW, hsame.mono (by decide) (by decide)⟩
  · show Steps p.tables e below (s₁.setTop (mkF m 0 #[.val (.ref a1), .val (.ref a2), .val (.ref a3), .val (.ref a4), .val (.int p5)] [])) _
    refine XS.aloadN X0.here hx rfl (hb hby d4_0) rfl rfl ?_
    show Steps p.tables e below (s₁.setTop (mkF m 1 #[.val (.ref a1), .val (.ref a2), .val (.ref a3), .val (.ref a4), .val (.int p5)] [(.ref a1)])) _
    refine st18 _ ?_
    show Steps p.tables e below (T18.setTop (mkF m 4 #[.val (.ref a1), .val (.ref a2), .val (.ref a3), .val (.ref a4), .val (.int p5)] [])) _
    refine XS.aloadN X18.here hx rfl (hb hby d4_4) rfl rfl ?_
    show Steps p.tables e below (T18.setTop (mkF m 5 #[.val (.ref a1), .val (.ref a2), .val (.ref a3), .val (.ref a4), .val (.int p5)] [(.ref a1)])) _
    refine XS.aloadN X18.here hx rfl (hb hby d4_5) rfl rfl ?_
    show Steps p.tables e below (T18.setTop (mkF m 6 #[.val (.ref a1), .val (.ref a2), .val (.ref a3), .val (.ref a4), .val (.int p5)] [(.ref a2), (.ref a1)])) _
    refine st19 _ ?_
    show Steps p.tables e below (T19.setTop (mkF m 9 #[.val (.ref a1), .val (.ref a2), .val (.ref a3), .val (.ref a4), .val (.int p5)] [])) _
    refine XS.aloadN X19.here hx rfl (hb hby d4_9) rfl rfl ?_
    show Steps p.tables e below (T19.setTop (mkF m 10 #[.val (.ref a1), .val (.ref a2), .val (.ref a3), .val (.ref a4), .val (.int p5)] [(.ref a1)])) _
    refine XS.aloadN X19.here hx rfl (hb hby d4_10) rfl rfl ?_
    show Steps p.tables e below (T19.setTop (mkF m 11 #[.val (.ref a1), .val (.ref a2), .val (.ref a3), .val (.ref a4), .val (.int p5)] [(.ref a3), (.ref a1)])) _
    refine st20 _ ?_
    show Steps p.tables e below (T20.setTop (mkF m 14 #[.val (.ref a1), .val (.ref a2), .val (.ref a3), .val (.ref a4), .val (.int p5)] [])) _
    refine XS.aloadN X20.here hx rfl (hb hby d4_14) rfl rfl ?_
    show Steps p.tables e below (T20.setTop (mkF m 15 #[.val (.ref a1), .val (.ref a2), .val (.ref a3), .val (.ref a4), .val (.int p5)] [(.ref a1)])) _
    refine XS.aloadN X20.here hx rfl (hb hby d4_15) rfl rfl ?_
    show Steps p.tables e below (T20.setTop (mkF m 16 #[.val (.ref a1), .val (.ref a2), .val (.ref a3), .val (.ref a4), .val (.int p5)] [(.ref a4), (.ref a1)])) _
    refine st23 _ ?_
    show Steps p.tables e below (T23.setTop (mkF m 19 #[.val (.ref a1), .val (.ref a2), .val (.ref a3), .val (.ref a4), .val (.int p5)] [])) _
    refine XS.aloadN X23.here hx rfl (hb hby d4_19) rfl rfl ?_
    show Steps p.tables e below (T23.setTop (mkF m 20 #[.val (.ref a1), .val (.ref a2), .val (.ref a3), .val (.ref a4), .val (.int p5)] [(.ref a1)])) _
    refine XS.iload X23.here hx rfl (hb hby d4_20) rfl ?_
    show Steps p.tables e below (T23.setTop (mkF m 22 #[.val (.ref a1), .val (.ref a2), .val (.ref a3), .val (.ref a4), .val (.int p5)] [(.int p5), (.ref a1)])) _
    refine st25 _ ?_
    show Steps p.tables e below (T25.setTop (mkF m 25 #[.val (.ref a1), .val (.ref a2), .val (.ref a3), .val (.ref a4), .val (.int p5)] [])) _
    exact X25.returnOut hx Bd.returns (hb hby d4_25) hr
  · show Q_4 Z a1 a2 a3 a4 p5 h0 n0 _ T25.heap _
    rw [e25]
    exact ⟨rfl, N25, Kh25, f26, f27, f28, (Fw23.other W25 (Or.inr (slot_ne (Or.inr (hw _ (List.mem_of_getElem? (i := 27) rfl))) (Or.inr (hw _ (List.mem_of_getElem? (i := 29) rfl))) (by decide) (t := (.array .long)) (t' := .int) (by decide) (by decide)))), Fw25⟩
theorem d2_0 : decode prog_6_method_1_code 0 = .ok (.aload_n 0, 1) := by decide +kernel
theorem d2_1 : decode prog_6_method_1_code 1 = .ok (.aload_n 1, 1) := by decide +kernel
theorem d2_2 : decode prog_6_method_1_code 2 = .ok (.aload_n 2, 1) := by decide +kernel
theorem d2_3 : decode prog_6_method_1_code 3 = .ok (.aload_n 2, 1) := by decide +kernel
theorem d2_4 : decode prog_6_method_1_code 4 = .ok (.invokestatic 1, 3) := by decide +kernel
theorem d2_7 : decode prog_6_method_1_code 7 = .ok (.aload_n 1, 1) := by decide +kernel
theorem d2_8 : decode prog_6_method_1_code 8 = .ok (.arraylength, 1) := by decide +kernel
theorem d2_9 : decode prog_6_method_1_code 9 = .ok (.invokespecial 7, 3) := by decide +kernel
theorem d2_12 : decode prog_6_method_1_code 12 = .ok (.return_, 1) := by decide +kernel
theorem pd__28_5bI_29_5bJ : parseMethodDescriptor "([I)[J" = some ⟨[(.array .int)], some (.array .long)⟩ := by decide +kernel
theorem pd__28_5bI_5bI_5bJI_29V : parseMethodDescriptor "([I[I[JI)V" = some ⟨[(.array .int), (.array .int), (.array .long), .int], none⟩ := by decide +kernel
theorem pn_2 : plainName "com/example/vrabec/vrabec/index/Postings" = true := by first | (simp [plainName, overriddenIn]; done) | decide +kernel
theorem ef_2 (m : MethodId) (x0 : Addr) (x1 : Addr) (x2 : Addr) : entryFrame m #[(.ref x0), (.ref x1), (.ref x2)] 3 = mkF m 0 #[.val (.ref x0), .val (.ref x1), .val (.ref x2)] [] := by first | (simp [entryFrame, mkF, argsToLocals, Value.category]; done) | rfl
def Q_2a (Z : State) (a1 : Addr) (a2 : Addr) (a3 : Addr) (h0 : Heap) (n0 : Nat) (v : Option Value) (h : Heap) (L : List Loc) : Prop := v = none ∧ Fr n0 L ∧ Keep h0 h [a1] ∧ Exa Z h a1 "com/example/vrabec/vrabec/index/Postings" ∧ Fld Z h a1 "com/example/vrabec/vrabec/index/Postings" "docs" "[I" (.ref a2) ∧ Fld Z h a1 "com/example/vrabec/vrabec/index/Postings" "frequencies" "[I" (.ref a3) ∧ Fld Z h a1 "com/example/vrabec/vrabec/index/Postings" "size" "I" (.int (0 : Int32)) ∧ ∃ (oc : Addr) (kl : ClassId), n0 ≤ oc ∧ h0.size ≤ oc ∧ Fld Z h a1 "com/example/vrabec/vrabec/index/Postings" "occurrences" "[J" (.ref oc) ∧ Arv Z h oc kl .long (0 : Int32) [] (.long (0 : Int64))
set_option maxRecDepth 65536 in
set_option maxHeartbeats 40000000 in
theorem rm_2a (l : Launch) (Z : State) (a0 : Array Value) (hw : ∀ d ∈ tables_1, d.before a0 Z = true) (ws : List Jvm.Cond) (a1 : Addr) (a2 : Addr) (a3 : Addr) (kd ki : ClassId) (dvs : List Value) (h0 : Heap) (n0 : Nat) (Z0 : n0 ≤ h0.size) (E_a1 : Exa Z h0 a1 "com/example/vrabec/vrabec/index/Postings") (g_a1 : n0 ≤ a1) (F_docs : Fld Z h0 a1 "com/example/vrabec/vrabec/index/Postings" "docs" "[I" .null) (F_frequencies : Fld Z h0 a1 "com/example/vrabec/vrabec/index/Postings" "frequencies" "[I" .null) (F_occurrences : Fld Z h0 a1 "com/example/vrabec/vrabec/index/Postings" "occurrences" "[J" .null) (F_size : Fld Z h0 a1 "com/example/vrabec/vrabec/index/Postings" "size" "I" (.int (0 : Int32))) (V_2 : Arv Z h0 a2 kd .int (0 : Int32) dvs (.int (0 : Int32))) (V_3 : Arv Z h0 a3 ki .int (0 : Int32) [] (.int (0 : Int32))) :
    MetFree l (⟨"com/example/vrabec/vrabec/index/Postings", "<init>", "([I[I)V"⟩ : MethodName) (head1 (Jvm.Cond.code (⟨"com/example/vrabec/vrabec/index/Postings", "<init>", "([I[I)V"⟩ : MethodName) prog_6_method_1_code 3 none :: ws) ({ frames := 2, cells := 1, slots := 0, locals := 28 } : Room)) (fun a U => a = #[(.ref a1), (.ref a2), (.ref a3)] ∧ Z.Warmed39 U.vm ∧ U.heap = h0) (fun _ _ _ _ _ => True) (fun _ U o U' => ∃ v L, o = .returned v ∧ Q_2a Z a1 a2 a3 h0 n0 v U'.heap L ∧ FrameEnd U o U' L ({ frames := 2, cells := 1, slots := 0, locals := 28 } : Room).cells ({ frames := 2, cells := 1, slots := 0, locals := 28 } : Room).slots) := by
  refine MetFree.of_bodySF (plainFor_of_name pn_2) hisR ?_
  intro p e s m args below meth cod_ s₁ Bd hml0 hP hK
  obtain ⟨rfl, hZ, hh⟩ := hP
  have hx := Bd.exec
  have hby := Bd.bytes
  have hml : cod_.maxLocals = 3 := hml0
  have hown : s.vm.findClass "com/example/vrabec/vrabec/index/Postings" = some m.cls := findClass_of_methodNamed Bd.named
  have hnm := (name_of_methodNamed Bd.named Bd.method).1
  have X0 : Stand p l e ({ frames := 2, cells := 1, slots := 0, locals := 28 } : Room) s m #[(.ref a1), (.ref a2), (.ref a3)] below meth cod_ s₁ [] 0 0 := Stand.of_body Bd
  have e0 : s₁.heap = h0 := by rw [← hh, Bd.state]; rfl
  have N0 := Fr.nil n0
  have pre0 : ∀ t, Steps p.tables e below (s₁.setTop (mkF m 0 #[.val (.ref a1), .val (.ref a2), .val (.ref a3)] [])) t → Steps p.tables e below (s₁.setTop (entryFrame m #[(.ref a1), (.ref a2), (.ref a3)] 3)) t := fun t k => castTop (ef_2 m a1 a2 a3) k
  obtain ⟨_, _, ⟨T29, L29, c29_, n29_⟩, -, X29, ⟨Lc29, hQ29, l29, y29, z29⟩, st29⟩ := Jvm.LawKit.callS X0 hx (y := (⟨"com/example/vrabec/vrabec/index/Postings", "runningSums", "([I)[J"⟩ : MethodName)) hown (mvT hZ (hw _ (List.mem_of_getElem? (i := 12) rfl))) (mvT hZ (hw _ (List.mem_of_getElem? (i := 13) rfl))) (mvT hZ (hw _ (List.mem_of_getElem? (i := 8) rfl))) (mvT hZ (hw _ (List.mem_of_getElem? (i := 14) rfl))) (by decide) (backOf (W := 3) (rm_3a l Z a0 hw [] a3 ki h0 n0 (Nat.le_trans Z0 (Keep.refl h0 [a1]).1) V_3) hZ (hw _ (List.mem_of_getElem? (i := 14) rfl)) (hw _ (List.mem_of_getElem? (i := 8) rfl)) (by decide) (by decide)) (g := (mkF m 4 #[.val (.ref a1), .val (.ref a2), .val (.ref a3)] [(.ref a3), (.ref a3), (.ref a2), (.ref a1)])) rfl (by rw [hml]; rfl) (argsL := [(.ref a3)]) (rest := [(.ref a3), (.ref a2), (.ref a1)]) (lenOf pd__28_5bI_29_5bJ rfl) rfl (by show 2 * 0 + _ ≤ _; exact Nat.le_of_eq rfl) (hb hby d2_4) (fun _ _ => ⟨rfl, e0, (by decide : 0 + 1 ≤ _), (by decide : 0 + 0 ≤ _)⟩)
  dsimp only [Pt.U, Pt.locs, Pt.cells, Pt.slots] at X29 l29 y29 z29 st29 hQ29
  subst l29 y29 z29
  obtain ⟨rfl, Nq29, K29, kl29, Vl29⟩ := hQ29
  have N29 := Fr.app N0 Nq29
  have Kh29 : Keep h0 T29.heap [a1] := (Keep.refl h0 [a1]).trans K29 (fun _ q_ => nomatch q_)
  obtain ⟨b29, g29⟩ : ∃ z, z = h0.size := ⟨_, rfl⟩
  rw [← g29] at st29 Vl29
  have g_b29 : n0 ≤ b29 := Nat.le_trans (Nat.le_trans Z0 (Keep.refl h0 [a1]).1) (Nat.le_of_eq g29.symm)
  have sz_b29 : h0.size ≤ b29 := Nat.le_trans (Keep.refl h0 [a1]).1 (Nat.le_of_eq g29.symm)
  have ne_a1_b29 : a1 ≠ b29 := Nat.ne_of_lt (Nat.lt_of_lt_of_le E_a1.lt (Nat.le_of_eq g29.symm))
  have ne_a2_b29 : a2 ≠ b29 := Nat.ne_of_lt (Nat.lt_of_lt_of_le V_2.lt (Nat.le_of_eq g29.symm))
  have ne_a3_b29 : a3 ≠ b29 := Nat.ne_of_lt (Nat.lt_of_lt_of_le V_3.lt (Nat.le_of_eq g29.symm))
  obtain ⟨cl30, Ar30, -, S30, M30, -, -⟩ := id ((V_2.keep K29 nin0))
  obtain ⟨_, _, ⟨T31, L31, c31_, n31_⟩, -, X31, ⟨Lc31, hQ31, l31, y31, z31⟩, st31⟩ := X29.specialBack hx (y := (⟨"com/example/vrabec/vrabec/index/Postings", "<init>", "([I[I[JI)V"⟩ : MethodName)) rfl hown (mvT hZ (hw _ (List.mem_of_getElem? (i := 16) rfl))) (mvT hZ (hw _ (List.mem_of_getElem? (i := 17) rfl))) (mvT hZ (hw _ (List.mem_of_getElem? (i := 18) rfl))) (by decide) (backOf (W := 0) (rm_4 l Z a0 hw [] a1 a2 a3 b29 (0 : Int32) T29.heap n0 (Nat.le_trans Z0 Kh29.1) (E_a1.keep K29) g_a1 (F_docs.keep K29 nin0) (F_frequencies.keep K29 nin0) (F_occurrences.keep K29 nin0) (F_size.keep K29 nin0)) hZ (hw _ (List.mem_of_getElem? (i := 18) rfl)) (hw _ (List.mem_of_getElem? (i := 8) rfl)) (by decide) (by decide)) (g := (mkF m 9 #[.val (.ref a1), .val (.ref a2), .val (.ref a3)] [(.int (0 : Int32)), (.ref b29), (.ref a3), (.ref a2), (.ref a1)])) rfl (by rw [hml]; rfl) (Steps.refl _) (a := a1) (argsL := [(.ref a2), (.ref a3), (.ref b29), (.int (0 : Int32))]) (rest := []) (lenOf pd__28_5bI_5bI_5bJI_29V rfl) rfl (by show 2 * 0 + _ ≤ _; exact Nat.le_of_eq rfl) (hb hby d2_9) (fun _ _ => ⟨rfl, rfl, (by decide : 1 + 0 ≤ _), (by decide : 0 + 0 ≤ _)⟩)
  dsimp only [Pt.U, Pt.locs, Pt.cells, Pt.slots] at X31 l31 y31 z31 st31 hQ31
  subst l31 y31 z31
  obtain ⟨rfl, Nq31, K31, Ee31, Fd31, Ff31, Fo31, Fs31⟩ := hQ31
  have N31 := Fr.app N29 Nq31
  have Kh31 : Keep h0 T31.heap [a1] := Kh29.trans K31 (allS (Or.inl (List.mem_of_getElem? (i := 0) rfl)) all0)
  obtain ⟨fs, hr, hrun, hended, hW, hsame⟩ := X31.leave (v := none) (fun _ => rfl)
  refine ⟨_, _, pre0 _ ?_, hrun, hended, _, _, rfl, ?_, ⟨_, rfl⟩, hW, hsame.mono (by decide) (by decide)⟩
  · show Steps p.tables e below (s₁.setTop (mkF m 0 #[.val (.ref a1), .val (.ref a2), .val (.ref a3)] [])) _
    refine XS.aloadN X0.here hx rfl (hb hby d2_0) rfl rfl ?_
    show Steps p.tables e below (s₁.setTop (mkF m 1 #[.val (.ref a1), .val (.ref a2), .val (.ref a3)] [(.ref a1)])) _
    refine XS.aloadN X0.here hx rfl (hb hby d2_1) rfl rfl ?_
    show Steps p.tables e below (s₁.setTop (mkF m 2 #[.val (.ref a1), .val (.ref a2), .val (.ref a3)] [(.ref a2), (.ref a1)])) _
    refine XS.aloadN X0.here hx rfl (hb hby d2_2) rfl rfl ?_
    show Steps p.tables e below (s₁.setTop (mkF m 3 #[.val (.ref a1), .val (.ref a2), .val (.ref a3)] [(.ref a3), (.ref a2), (.ref a1)])) _
    refine XS.aloadN X0.here hx rfl (hb hby d2_3) rfl rfl ?_
    show Steps p.tables e below (s₁.setTop (mkF m 4 #[.val (.ref a1), .val (.ref a2), .val (.ref a3)] [(.ref a3), (.ref a3), (.ref a2), (.ref a1)])) _
    refine st29 _ ?_
    show Steps p.tables e below (T29.setTop (mkF m 7 #[.val (.ref a1), .val (.ref a2), .val (.ref a3)] [(.ref b29), (.ref a3), (.ref a2), (.ref a1)])) _
    refine XS.aloadN X29.here hx rfl (hb hby d2_7) rfl rfl ?_
    show Steps p.tables e below (T29.setTop (mkF m 8 #[.val (.ref a1), .val (.ref a2), .val (.ref a3)] [(.ref a2), (.ref b29), (.ref a3), (.ref a2), (.ref a1)])) _
    refine X29.arraylength hx Ar30.1 (State.isArrayOf_alike hZ.alike Ar30.2.1) (g := (mkF m 8 #[.val (.ref a1), .val (.ref a2), .val (.ref a3)] [(.ref a2), (.ref b29), (.ref a3), (.ref a2), (.ref a1)])) rfl rfl (hb hby d2_8) _ ?_
    rw [len_of S30 M30]
    show Steps p.tables e below (T29.setTop (mkF m 9 #[.val (.ref a1), .val (.ref a2), .val (.ref a3)] [(.int (0 : Int32)), (.ref b29), (.ref a3), (.ref a2), (.ref a1)])) _
    refine st31.trans ?_
    show Steps p.tables e below (T31.setTop (mkF m 12 #[.val (.ref a1), .val (.ref a2), .val (.ref a3)] [])) _
    exact X31.returnOut hx Bd.returns (hb hby d2_12) hr
  · show Q_2a Z a1 a2 a3 h0 n0 _ T31.heap _
    exact ⟨rfl, N31, Kh31, Ee31, Fd31, Ff31, Fs31, b29, kl29, g_b29, sz_b29, Fo31, (Vl29.keep K31 (ninS (Ne.symm ne_a1_b29) nin0))⟩
def Q_2b (Z : State) (a1 : Addr) (a2 : Addr) (a3 : Addr) (f0 f1 f2 : Int32) (h0 : Heap) (n0 : Nat) (v : Option Value) (h : Heap) (L : List Loc) : Prop := v = none ∧ Fr n0 L ∧ Keep h0 h [a1] ∧ Exa Z h a1 "com/example/vrabec/vrabec/index/Postings" ∧ Fld Z h a1 "com/example/vrabec/vrabec/index/Postings" "docs" "[I" (.ref a2) ∧ Fld Z h a1 "com/example/vrabec/vrabec/index/Postings" "frequencies" "[I" (.ref a3) ∧ Fld Z h a1 "com/example/vrabec/vrabec/index/Postings" "size" "I" (.int (3 : Int32)) ∧ ∃ (oc : Addr) (kl : ClassId), n0 ≤ oc ∧ h0.size ≤ oc ∧ Fld Z h a1 "com/example/vrabec/vrabec/index/Postings" "occurrences" "[J" (.ref oc) ∧ Arv Z h oc kl .long (3 : Int32) [(.long ((0 : Int64) + (f0.toInt64))), (.long (((0 : Int64) + (f0.toInt64)) + (f1.toInt64))), (.long ((((0 : Int64) + (f0.toInt64)) + (f1.toInt64)) + (f2.toInt64)))] (.long (0 : Int64))
set_option maxRecDepth 65536 in
set_option maxHeartbeats 40000000 in
theorem rm_2b (l : Launch) (Z : State) (a0 : Array Value) (hw : ∀ d ∈ tables_1, d.before a0 Z = true) (ws : List Jvm.Cond) (a1 : Addr) (a2 : Addr) (a3 : Addr) (f0 f1 f2 : Int32) (kd ki : ClassId) (dvs : List Value) (h0 : Heap) (n0 : Nat) (Z0 : n0 ≤ h0.size) (E_a1 : Exa Z h0 a1 "com/example/vrabec/vrabec/index/Postings") (g_a1 : n0 ≤ a1) (F_docs : Fld Z h0 a1 "com/example/vrabec/vrabec/index/Postings" "docs" "[I" .null) (F_frequencies : Fld Z h0 a1 "com/example/vrabec/vrabec/index/Postings" "frequencies" "[I" .null) (F_occurrences : Fld Z h0 a1 "com/example/vrabec/vrabec/index/Postings" "occurrences" "[J" .null) (F_size : Fld Z h0 a1 "com/example/vrabec/vrabec/index/Postings" "size" "I" (.int (0 : Int32))) (V_2 : Arv Z h0 a2 kd .int (3 : Int32) dvs (.int (0 : Int32))) (V_3 : Arv Z h0 a3 ki .int (3 : Int32) [(.int f0), (.int f1), (.int f2)] (.int (0 : Int32))) :
    MetFree l (⟨"com/example/vrabec/vrabec/index/Postings", "<init>", "([I[I)V"⟩ : MethodName) (head1 (Jvm.Cond.code (⟨"com/example/vrabec/vrabec/index/Postings", "<init>", "([I[I)V"⟩ : MethodName) prog_6_method_1_code 3 none :: ws) ({ frames := 2, cells := 1, slots := 3, locals := 28 } : Room)) (fun a U => a = #[(.ref a1), (.ref a2), (.ref a3)] ∧ Z.Warmed39 U.vm ∧ U.heap = h0) (fun _ _ _ _ _ => True) (fun _ U o U' => ∃ v L, o = .returned v ∧ Q_2b Z a1 a2 a3 f0 f1 f2 h0 n0 v U'.heap L ∧ FrameEnd U o U' L ({ frames := 2, cells := 1, slots := 3, locals := 28 } : Room).cells ({ frames := 2, cells := 1, slots := 3, locals := 28 } : Room).slots) := by
  refine MetFree.of_bodySF (plainFor_of_name pn_2) hisR ?_
  intro p e s m args below meth cod_ s₁ Bd hml0 hP hK
  obtain ⟨rfl, hZ, hh⟩ := hP
  have hx := Bd.exec
  have hby := Bd.bytes
  have hml : cod_.maxLocals = 3 := hml0
  have hown : s.vm.findClass "com/example/vrabec/vrabec/index/Postings" = some m.cls := findClass_of_methodNamed Bd.named
  have hnm := (name_of_methodNamed Bd.named Bd.method).1
  have X0 : Stand p l e ({ frames := 2, cells := 1, slots := 3, locals := 28 } : Room) s m #[(.ref a1), (.ref a2), (.ref a3)] below meth cod_ s₁ [] 0 0 := Stand.of_body Bd
  have e0 : s₁.heap = h0 := by rw [← hh, Bd.state]; rfl
  have N0 := Fr.nil n0
  have pre0 : ∀ t, Steps p.tables e below (s₁.setTop (mkF m 0 #[.val (.ref a1), .val (.ref a2), .val (.ref a3)] [])) t → Steps p.tables e below (s₁.setTop (entryFrame m #[(.ref a1), (.ref a2), (.ref a3)] 3)) t := fun t k => castTop (ef_2 m a1 a2 a3) k
  obtain ⟨_, _, ⟨T32, L32, c32_, n32_⟩, -, X32, ⟨Lc32, hQ32, l32, y32, z32⟩, st32⟩ := Jvm.LawKit.callS X0 hx (y := (⟨"com/example/vrabec/vrabec/index/Postings", "runningSums", "([I)[J"⟩ : MethodName)) hown (mvT hZ (hw _ (List.mem_of_getElem? (i := 12) rfl))) (mvT hZ (hw _ (List.mem_of_getElem? (i := 13) rfl))) (mvT hZ (hw _ (List.mem_of_getElem? (i := 8) rfl))) (mvT hZ (hw _ (List.mem_of_getElem? (i := 14) rfl))) (by decide) (backOf (W := 3) (rm_3b l Z a0 hw [] a3 f0 f1 f2 ki h0 n0 (Nat.le_trans Z0 (Keep.refl h0 [a1]).1) V_3) hZ (hw _ (List.mem_of_getElem? (i := 14) rfl)) (hw _ (List.mem_of_getElem? (i := 8) rfl)) (by decide) (by decide)) (g := (mkF m 4 #[.val (.ref a1), .val (.ref a2), .val (.ref a3)] [(.ref a3), (.ref a3), (.ref a2), (.ref a1)])) rfl (by rw [hml]; rfl) (argsL := [(.ref a3)]) (rest := [(.ref a3), (.ref a2), (.ref a1)]) (lenOf pd__28_5bI_29_5bJ rfl) rfl (by show 2 * 0 + _ ≤ _; exact Nat.le_of_eq rfl) (hb hby d2_4) (fun _ _ => ⟨rfl, e0, (by decide : 0 + 1 ≤ _), (by decide : 0 + 3 ≤ _)⟩)
  dsimp only [Pt.U, Pt.locs, Pt.cells, Pt.slots] at X32 l32 y32 z32 st32 hQ32
  subst l32 y32 z32
  obtain ⟨rfl, Nq32, K32, kl32, Vl32⟩ := hQ32
  have N32 := Fr.app N0 Nq32
  have Kh32 : Keep h0 T32.heap [a1] := (Keep.refl h0 [a1]).trans K32 (fun _ q_ => nomatch q_)
  obtain ⟨b32, g32⟩ : ∃ z, z = h0.size := ⟨_, rfl⟩
  rw [← g32] at st32 Vl32
  have g_b32 : n0 ≤ b32 := Nat.le_trans (Nat.le_trans Z0 (Keep.refl h0 [a1]).1) (Nat.le_of_eq g32.symm)
  have sz_b32 : h0.size ≤ b32 := Nat.le_trans (Keep.refl h0 [a1]).1 (Nat.le_of_eq g32.symm)
  have ne_a1_b32 : a1 ≠ b32 := Nat.ne_of_lt (Nat.lt_of_lt_of_le E_a1.lt (Nat.le_of_eq g32.symm))
  have ne_a2_b32 : a2 ≠ b32 := Nat.ne_of_lt (Nat.lt_of_lt_of_le V_2.lt (Nat.le_of_eq g32.symm))
  have ne_a3_b32 : a3 ≠ b32 := Nat.ne_of_lt (Nat.lt_of_lt_of_le V_3.lt (Nat.le_of_eq g32.symm))
  obtain ⟨cl33, Ar33, -, S33, M33, -, -⟩ := id ((V_2.keep K32 nin0))
  obtain ⟨_, _, ⟨T34, L34, c34_, n34_⟩, -, X34, ⟨Lc34, hQ34, l34, y34, z34⟩, st34⟩ := X32.specialBack hx (y := (⟨"com/example/vrabec/vrabec/index/Postings", "<init>", "([I[I[JI)V"⟩ : MethodName)) rfl hown (mvT hZ (hw _ (List.mem_of_getElem? (i := 16) rfl))) (mvT hZ (hw _ (List.mem_of_getElem? (i := 17) rfl))) (mvT hZ (hw _ (List.mem_of_getElem? (i := 18) rfl))) (by decide) (backOf (W := 0) (rm_4 l Z a0 hw [] a1 a2 a3 b32 (3 : Int32) T32.heap n0 (Nat.le_trans Z0 Kh32.1) (E_a1.keep K32) g_a1 (F_docs.keep K32 nin0) (F_frequencies.keep K32 nin0) (F_occurrences.keep K32 nin0) (F_size.keep K32 nin0)) hZ (hw _ (List.mem_of_getElem? (i := 18) rfl)) (hw _ (List.mem_of_getElem? (i := 8) rfl)) (by decide) (by decide)) (g := (mkF m 9 #[.val (.ref a1), .val (.ref a2), .val (.ref a3)] [(.int (3 : Int32)), (.ref b32), (.ref a3), (.ref a2), (.ref a1)])) rfl (by rw [hml]; rfl) (Steps.refl _) (a := a1) (argsL := [(.ref a2), (.ref a3), (.ref b32), (.int (3 : Int32))]) (rest := []) (lenOf pd__28_5bI_5bI_5bJI_29V rfl) rfl (by show 2 * 0 + _ ≤ _; exact Nat.le_of_eq rfl) (hb hby d2_9) (fun _ _ => ⟨rfl, rfl, (by decide : 1 + 0 ≤ _), (by decide : 3 + 0 ≤ _)⟩)
  dsimp only [Pt.U, Pt.locs, Pt.cells, Pt.slots] at X34 l34 y34 z34 st34 hQ34
  subst l34 y34 z34
  obtain ⟨rfl, Nq34, K34, Ee34, Fd34, Ff34, Fo34, Fs34⟩ := hQ34
  have N34 := Fr.app N32 Nq34
  have Kh34 : Keep h0 T34.heap [a1] := Kh32.trans K34 (allS (Or.inl (List.mem_of_getElem? (i := 0) rfl)) all0)
  obtain ⟨fs, hr, hrun, hended, hW, hsame⟩ := X34.leave (v := none) (fun _ => rfl)
  refine ⟨_, _, pre0 _ ?_, hrun, hended, _, _, rfl, ?_, ⟨_, rfl⟩, hW, hsame.mono (by decide) (by decide)⟩
  · show Steps p.tables e below (s₁.setTop (mkF m 0 #[.val (.ref a1), .val (.ref a2), .val (.ref a3)] [])) _
    refine XS.aloadN X0.here hx rfl (hb hby d2_0) rfl rfl ?_
    show Steps p.tables e below (s₁.setTop (mkF m 1 #[.val (.ref a1), .val (.ref a2), .val (.ref a3)] [(.ref a1)])) _
    refine XS.aloadN X0.here hx rfl (hb hby d2_1) rfl rfl ?_
    show Steps p.tables e below (s₁.setTop (mkF m 2 #[.val (.ref a1), .val (.ref a2), .val (.ref a3)] [(.ref a2), (.ref a1)])) _
    refine XS.aloadN X0.here hx rfl (hb hby d2_2) rfl rfl ?_
    show Steps p.tables e below (s₁.setTop (mkF m 3 #[.val (.ref a1), .val (.ref a2), .val (.ref a3)] [(.ref a3), (.ref a2), (.ref a1)])) _
    refine XS.aloadN X0.here hx rfl (hb hby d2_3) rfl rfl ?_
    show Steps p.tables e below (s₁.setTop (mkF m 4 #[.val (.ref a1), .val (.ref a2), .val (.ref a3)] [(.ref a3), (.ref a3), (.ref a2), (.ref a1)])) _
    refine st32 _ ?_
    show Steps p.tables e below (T32.setTop (mkF m 7 #[.val (.ref a1), .val (.ref a2), .val (.ref a3)] [(.ref b32), (.ref a3), (.ref a2), (.ref a1)])) _
    refine XS.aloadN X32.here hx rfl (hb hby d2_7) rfl rfl ?_
    show Steps p.tables e below (T32.setTop (mkF m 8 #[.val (.ref a1), .val (.ref a2), .val (.ref a3)] [(.ref a2), (.ref b32), (.ref a3), (.ref a2), (.ref a1)])) _
    refine X32.arraylength hx Ar33.1 (State.isArrayOf_alike hZ.alike Ar33.2.1) (g := (mkF m 8 #[.val (.ref a1), .val (.ref a2), .val (.ref a3)] [(.ref a2), (.ref b32), (.ref a3), (.ref a2), (.ref a1)])) rfl rfl (hb hby d2_8) _ ?_
    rw [len_of S33 M33]
    show Steps p.tables e below (T32.setTop (mkF m 9 #[.val (.ref a1), .val (.ref a2), .val (.ref a3)] [(.int (3 : Int32)), (.ref b32), (.ref a3), (.ref a2), (.ref a1)])) _
    refine st34.trans ?_
    show Steps p.tables e below (T34.setTop (mkF m 12 #[.val (.ref a1), .val (.ref a2), .val (.ref a3)] [])) _
    exact X34.returnOut hx Bd.returns (hb hby d2_12) hr
  · show Q_2b Z a1 a2 a3 f0 f1 f2 h0 n0 _ T34.heap _
    exact ⟨rfl, N34, Kh34, Ee34, Fd34, Ff34, Fs34, b32, kl32, g_b32, sz_b32, Fo34, (Vl32.keep K34 (ninS (Ne.symm ne_a1_b32) nin0))⟩
theorem d8_0 : decode jdk_65_method_30_code 0 = .ok (.iload_n 1, 1) := by decide +kernel
theorem d8_1 : decode jdk_65_method_30_code 1 = .ok (.iload_n 2, 1) := by decide +kernel
theorem d8_2 : decode jdk_65_method_30_code 2 = .ok (.if_icmp .le 44, 3) := by decide +kernel
theorem d8_46 : decode jdk_65_method_30_code 46 = .ok (.iload_n 1, 1) := by decide +kernel
theorem d8_47 : decode jdk_65_method_30_code 47 = .ok (.ifCond .ge 12, 3) := by decide +kernel
theorem d8_59 : decode jdk_65_method_30_code 59 = .ok (.iload_n 2, 1) := by decide +kernel
theorem d8_60 : decode jdk_65_method_30_code 60 = .ok (.iload_n 0, 1) := by decide +kernel
theorem d8_61 : decode jdk_65_method_30_code 61 = .ok (.if_icmp .le 12, 3) := by decide +kernel
theorem d8_73 : decode jdk_65_method_30_code 73 = .ok (.return_, 1) := by decide +kernel
theorem pn_8 : plainName "java/util/Arrays" = true := by first | (simp [plainName, overriddenIn]; done) | decide +kernel
theorem ef_8 (m : MethodId) (x0 : Int32) (x1 : Int32) (x2 : Int32) : entryFrame m #[(.int x0), (.int x1), (.int x2)] 3 = mkF m 0 #[.val (.int x0), .val (.int x1), .val (.int x2)] [] := by first | (simp [entryFrame, mkF, argsToLocals, Value.category]; done) | rfl
def Q_8 (Z : State) (p1 : Int32) (p2 : Int32) (p3 : Int32) (h0 : Heap) (n0 : Nat) (v : Option Value) (h : Heap) (L : List Loc) : Prop := v = none ∧ Fr n0 L ∧ h = h0
set_option maxRecDepth 65536 in
set_option maxHeartbeats 40000000 in
theorem rm_8 (l : Launch) (Z : State) (a0 : Array Value) (hw : ∀ d ∈ tables_1, d.before a0 Z = true) (ws : List Jvm.Cond) (p1 : Int32) (p2 : Int32) (p3 : Int32) (h0 : Heap) (n0 : Nat) (Z0 : n0 ≤ h0.size) (u0 : ¬ p3 < p2) (u1 : ¬ p2 < 0) (u2 : ¬ p1 < p3) :
    MetFree l (⟨"java/util/Arrays", "rangeCheck", "(III)V"⟩ : MethodName) (head1 (Jvm.Cond.code (⟨"java/util/Arrays", "rangeCheck", "(III)V"⟩ : MethodName) jdk_65_method_30_code 3 none :: ws) ({ frames := 0, cells := 0, slots := 0, locals := 0 } : Room)) (fun a U => a = #[(.int p1), (.int p2), (.int p3)] ∧ Z.Warmed39 U.vm ∧ U.heap = h0) (fun _ _ _ _ _ => True) (fun _ U o U' => ∃ v L, o = .returned v ∧ Q_8 Z p1 p2 p3 h0 n0 v U'.heap L ∧ FrameEnd U o U' L ({ frames := 0, cells := 0, slots := 0, locals := 0 } : Room).cells ({ frames := 0, cells := 0, slots := 0, locals := 0 } : Room).slots) := by
  refine MetFree.of_bodySF (plainFor_of_name pn_8) hisR ?_
  intro p e s m args below meth cod_ s₁ Bd hml0 hP hK
  obtain ⟨rfl, hZ, hh⟩ := hP
  have hx := Bd.exec
  have hby := Bd.bytes
  have hml : cod_.maxLocals = 3 := hml0
  have hown : s.vm.findClass "java/util/Arrays" = some m.cls := findClass_of_methodNamed Bd.named
  have hnm := (name_of_methodNamed Bd.named Bd.method).1
  have X0 : Stand p l e ({ frames := 0, cells := 0, slots := 0, locals := 0 } : Room) s m #[(.int p1), (.int p2), (.int p3)] below meth cod_ s₁ [] 0 0 := Stand.of_body Bd
  have e0 : s₁.heap = h0 := by rw [← hh, Bd.state]; rfl
  have N0 := Fr.nil n0
  have pre0 : ∀ t, Steps p.tables e below (s₁.setTop (mkF m 0 #[.val (.int p1), .val (.int p2), .val (.int p3)] [])) t → Steps p.tables e below (s₁.setTop (entryFrame m #[(.int p1), (.int p2), (.int p3)] 3)) t := fun t k => castTop (ef_8 m p1 p2 p3) k
  have hc2 : ¬ (p3 < p2) := u0
  have hc47 : ¬ (p2 < (0 : Int32)) := u1
  have hc61 : ¬ (p1 < p3) := u2
  obtain ⟨fs, hr, hrun, hended, hW, hsame⟩ := X0.leave (v := none) (fun _ => rfl)
  refine ⟨_, _, pre0 _ ?_, hrun, hended, _, _, rfl, ?_, ⟨_, rfl⟩, hW, hsame.mono (by decide) (by decide)⟩
  · show Steps p.tables e below (s₁.setTop (mkF m 0 #[.val (.int p1), .val (.int p2), .val (.int p3)] [])) _
    refine XS.iloadN X0.here hx rfl (hb hby d8_0) rfl ?_
    show Steps p.tables e below (s₁.setTop (mkF m 1 #[.val (.int p1), .val (.int p2), .val (.int p3)] [(.int p2)])) _
    refine XS.iloadN X0.here hx rfl (hb hby d8_1) rfl ?_
    show Steps p.tables e below (s₁.setTop (mkF m 2 #[.val (.int p1), .val (.int p2), .val (.int p3)] [(.int p3), (.int p2)])) _
    refine XS.icmpYes X0.here hx rfl (pc0 := 2) (pc' := 46) rfl (hb hby d8_2) rfl (flt hc2).2.2.2 (by decide) (by decide) ?_
    show Steps p.tables e below (s₁.setTop (mkF m 46 #[.val (.int p1), .val (.int p2), .val (.int p3)] [])) _
    refine XS.iloadN X0.here hx rfl (hb hby d8_46) rfl ?_
    show Steps p.tables e below (s₁.setTop (mkF m 47 #[.val (.int p1), .val (.int p2), .val (.int p3)] [(.int p2)])) _
    refine XS.ifYes X0.here hx rfl (pc0 := 47) (pc' := 59) rfl (hb hby d8_47) rfl ((if0 _ _).trans (flt hc47).2.1) (by decide) (by decide) ?_
    show Steps p.tables e below (s₁.setTop (mkF m 59 #[.val (.int p1), .val (.int p2), .val (.int p3)] [])) _
    refine XS.iloadN X0.here hx rfl (hb hby d8_59) rfl ?_
    show Steps p.tables e below (s₁.setTop (mkF m 60 #[.val (.int p1), .val (.int p2), .val (.int p3)] [(.int p3)])) _
    refine XS.iloadN X0.here hx rfl (hb hby d8_60) rfl ?_
    show Steps p.tables e below (s₁.setTop (mkF m 61 #[.val (.int p1), .val (.int p2), .val (.int p3)] [(.int p1), (.int p3)])) _
    refine XS.icmpYes X0.here hx rfl (pc0 := 61) (pc' := 73) rfl (hb hby d8_61) rfl (flt hc61).2.2.2 (by decide) (by decide) ?_
    show Steps p.tables e below (s₁.setTop (mkF m 73 #[.val (.int p1), .val (.int p2), .val (.int p3)] [])) _
    exact X0.returnOut hx Bd.returns (hb hby d8_73) hr
  · show Q_8 Z p1 p2 p3 h0 n0 _ s₁.heap _
    rw [e0]
    exact ⟨rfl, N0, rfl⟩
theorem d9_0 : decode jdk_65_method_59_code 0 = .ok (.iload_n 1, 1) := by decide +kernel
theorem d9_1 : decode jdk_65_method_59_code 1 = .ok (.istore 4, 2) := by decide +kernel
theorem d9_3 : decode jdk_65_method_59_code 3 = .ok (.iload_n 2, 1) := by decide +kernel
theorem d9_4 : decode jdk_65_method_59_code 4 = .ok (.iconst 1, 1) := by decide +kernel
theorem d9_5 : decode jdk_65_method_59_code 5 = .ok (.isub, 1) := by decide +kernel
theorem d9_6 : decode jdk_65_method_59_code 6 = .ok (.istore 5, 2) := by decide +kernel
theorem d9_8 : decode jdk_65_method_59_code 8 = .ok (.iload 4, 2) := by decide +kernel
theorem d9_10 : decode jdk_65_method_59_code 10 = .ok (.iload 5, 2) := by decide +kernel
theorem d9_12 : decode jdk_65_method_59_code 12 = .ok (.if_icmp .gt 54, 3) := by decide +kernel
theorem d9_15 : decode jdk_65_method_59_code 15 = .ok (.iload 4, 2) := by decide +kernel
theorem d9_17 : decode jdk_65_method_59_code 17 = .ok (.iload 5, 2) := by decide +kernel
theorem d9_19 : decode jdk_65_method_59_code 19 = .ok (.iadd, 1) := by decide +kernel
theorem d9_20 : decode jdk_65_method_59_code 20 = .ok (.iconst 1, 1) := by decide +kernel
theorem d9_21 : decode jdk_65_method_59_code 21 = .ok (.iushr, 1) := by decide +kernel
theorem d9_22 : decode jdk_65_method_59_code 22 = .ok (.istore 6, 2) := by decide +kernel
theorem d9_24 : decode jdk_65_method_59_code 24 = .ok (.aload_n 0, 1) := by decide +kernel
theorem d9_25 : decode jdk_65_method_59_code 25 = .ok (.iload 6, 2) := by decide +kernel
theorem d9_27 : decode jdk_65_method_59_code 27 = .ok (.iaload, 1) := by decide +kernel
theorem d9_28 : decode jdk_65_method_59_code 28 = .ok (.istore 7, 2) := by decide +kernel
theorem d9_30 : decode jdk_65_method_59_code 30 = .ok (.iload 7, 2) := by decide +kernel
theorem d9_32 : decode jdk_65_method_59_code 32 = .ok (.iload_n 3, 1) := by decide +kernel
theorem d9_33 : decode jdk_65_method_59_code 33 = .ok (.if_icmp .ge 12, 3) := by decide +kernel
theorem d9_36 : decode jdk_65_method_59_code 36 = .ok (.iload 6, 2) := by decide +kernel
theorem d9_38 : decode jdk_65_method_59_code 38 = .ok (.iconst 1, 1) := by decide +kernel
theorem d9_39 : decode jdk_65_method_59_code 39 = .ok (.iadd, 1) := by decide +kernel
theorem d9_40 : decode jdk_65_method_59_code 40 = .ok (.istore 4, 2) := by decide +kernel
theorem d9_42 : decode jdk_65_method_59_code 42 = .ok (.goto 21, 3) := by decide +kernel
theorem d9_45 : decode jdk_65_method_59_code 45 = .ok (.iload 7, 2) := by decide +kernel
theorem d9_47 : decode jdk_65_method_59_code 47 = .ok (.iload_n 3, 1) := by decide +kernel
theorem d9_48 : decode jdk_65_method_59_code 48 = .ok (.if_icmp .le 12, 3) := by decide +kernel
theorem d9_51 : decode jdk_65_method_59_code 51 = .ok (.iload 6, 2) := by decide +kernel
theorem d9_53 : decode jdk_65_method_59_code 53 = .ok (.iconst 1, 1) := by decide +kernel
theorem d9_54 : decode jdk_65_method_59_code 54 = .ok (.isub, 1) := by decide +kernel
theorem d9_55 : decode jdk_65_method_59_code 55 = .ok (.istore 5, 2) := by decide +kernel
theorem d9_57 : decode jdk_65_method_59_code 57 = .ok (.goto 6, 3) := by decide +kernel
theorem d9_60 : decode jdk_65_method_59_code 60 = .ok (.iload 6, 2) := by decide +kernel
theorem d9_62 : decode jdk_65_method_59_code 62 = .ok (.ireturn, 1) := by decide +kernel
theorem d9_63 : decode jdk_65_method_59_code 63 = .ok (.goto (-55), 3) := by decide +kernel
theorem d9_66 : decode jdk_65_method_59_code 66 = .ok (.iload 4, 2) := by decide +kernel
theorem d9_68 : decode jdk_65_method_59_code 68 = .ok (.iconst 1, 1) := by decide +kernel
theorem d9_69 : decode jdk_65_method_59_code 69 = .ok (.iadd, 1) := by decide +kernel
theorem d9_70 : decode jdk_65_method_59_code 70 = .ok (.ineg, 1) := by decide +kernel
theorem d9_71 : decode jdk_65_method_59_code 71 = .ok (.ireturn, 1) := by decide +kernel
theorem pn_9 : plainName "java/util/Arrays" = true := by first | (simp [plainName, overriddenIn]; done) | decide +kernel
theorem ef_9l1l2 (m : MethodId) (x0 : Addr) (x3 : Int32) : entryFrame m #[(.ref x0), (.int (0 : Int32)), (.int (3 : Int32)), (.int x3)] 8 = mkF m 0 #[.val (.ref x0), .val (.int (0 : Int32)), .val (.int (3 : Int32)), .val (.int x3), .unset, .unset, .unset, .unset] [] := by first | (simp [entryFrame, mkF, argsToLocals, Value.category]; done) | rfl
def Q_9 (Z : State) (a1 : Addr) (p4 : Int32) (h0 : Heap) (n0 : Nat) (v : Option Value) (h : Heap) (L : List Loc) : Prop := v = some (.int (own_bs p4)) ∧ Fr n0 L ∧ h = h0
set_option maxRecDepth 65536 in
set_option maxHeartbeats 40000000 in
theorem rm_9 (l : Launch) (Z : State) (a0 : Array Value) (hw : ∀ d ∈ tables_1, d.before a0 Z = true) (ws : List Jvm.Cond) (a1 : Addr) (p4 : Int32) (kd : ClassId) (h0 : Heap) (n0 : Nat) (Z0 : n0 ≤ h0.size) (V_1 : Arv Z h0 a1 kd .int (3 : Int32) [(.int (0 : Int32)), (.int (1 : Int32)), (.int (2 : Int32))] (.int (0 : Int32))) :
    MetFree l (⟨"java/util/Arrays", "binarySearch0", "([IIII)I"⟩ : MethodName) (head1 (Jvm.Cond.code (⟨"java/util/Arrays", "binarySearch0", "([IIII)I"⟩ : MethodName) jdk_65_method_59_code 8 (some .int) :: ws) ({ frames := 0, cells := 0, slots := 0, locals := 0 } : Room)) (fun a U => a = #[(.ref a1), (.int (0 : Int32)), (.int (3 : Int32)), (.int p4)] ∧ Z.Warmed39 U.vm ∧ U.heap = h0) (fun _ _ _ _ _ => True) (fun _ U o U' => ∃ v L, o = .returned v ∧ Q_9 Z a1 p4 h0 n0 v U'.heap L ∧ FrameEnd U o U' L ({ frames := 0, cells := 0, slots := 0, locals := 0 } : Room).cells ({ frames := 0, cells := 0, slots := 0, locals := 0 } : Room).slots) := by
  refine MetFree.of_bodySF (plainFor_of_name pn_9) hisR ?_
  intro p e s m args below meth cod_ s₁ Bd hml0 hP hK
  obtain ⟨rfl, hZ, hh⟩ := hP
  have hx := Bd.exec
  have hby := Bd.bytes
  have hml : cod_.maxLocals = 8 := hml0
  have hown : s.vm.findClass "java/util/Arrays" = some m.cls := findClass_of_methodNamed Bd.named
  have hnm := (name_of_methodNamed Bd.named Bd.method).1
  have X0 : Stand p l e ({ frames := 0, cells := 0, slots := 0, locals := 0 } : Room) s m #[(.ref a1), (.int (0 : Int32)), (.int (3 : Int32)), (.int p4)] below meth cod_ s₁ [] 0 0 := Stand.of_body Bd
  have e0 : s₁.heap = h0 := by rw [← hh, Bd.state]; rfl
  have N0 := Fr.nil n0
  have pre0 : ∀ t, Steps p.tables e below (s₁.setTop (mkF m 0 #[.val (.ref a1), .val (.int (0 : Int32)), .val (.int (3 : Int32)), .val (.int p4), .unset, .unset, .unset, .unset] [])) t → Steps p.tables e below (s₁.setTop (entryFrame m #[(.ref a1), (.int (0 : Int32)), (.int (3 : Int32)), (.int p4)] 8)) t := fun t k => castTop (ef_9l1l2 m a1 p4) k
  have hc12 : ¬ ((2 : Int32) < (0 : Int32)) := by decide
  obtain ⟨cl35, Ar35, -, S35, M35, H35, G35⟩ := id (V_1)
  have hin35 : ¬ ((1 : Int32) < 0 ∨ cl35.slots.size ≤ ((1 : Int32)).toNatClampNeg) := inb_of S35 ⟨by decide, by decide⟩
  have hat35 : cl35.slots[((1 : Int32)).toNatClampNeg]? = some (.int (1 : Int32)) := Has.at H35 hin35 rfl
  by_cases hc33 : (1 : Int32) < p4
  · have hc12x : ¬ ((2 : Int32) < (2 : Int32)) := by decide
    obtain ⟨cl36, Ar36, -, S36, M36, H36, G36⟩ := id (V_1)
    have hin36 : ¬ ((2 : Int32) < 0 ∨ cl36.slots.size ≤ ((2 : Int32)).toNatClampNeg) := inb_of S36 ⟨by decide, by decide⟩
    have hat36 : cl36.slots[((2 : Int32)).toNatClampNeg]? = some (.int (2 : Int32)) := Has.at H36 hin36 rfl
    by_cases hc33x : (2 : Int32) < p4
    · have hc12xx : (2 : Int32) < (3 : Int32) := by decide
      obtain ⟨fs, hr, hrun, hended, hW, hsame⟩ := X0.leave (v := some (.int (-4 : Int32))) (fun h => by rw [Bd.returns] at h; cases h)
      refine ⟨_, _, pre0 _ ?_, hrun, hended, _, _, rfl, ?_, ⟨_, rfl⟩, hW, hsame.mono (by decide) (by decide)⟩
      · show Steps p.tables e below (s₁.setTop (mkF m 0 #[.val (.ref a1), .val (.int (0 : Int32)), .val (.int (3 : Int32)), .val (.int p4), .unset, .unset, .unset, .unset] [])) _
        refine XS.iloadN X0.here hx rfl (hb hby d9_0) rfl ?_
        show Steps p.tables e below (s₁.setTop (mkF m 1 #[.val (.ref a1), .val (.int (0 : Int32)), .val (.int (3 : Int32)), .val (.int p4), .unset, .unset, .unset, .unset] [(.int (0 : Int32))])) _
        refine XS.istore X0.here hx rfl (hb hby d9_1) rfl (l' := #[.val (.ref a1), .val (.int (0 : Int32)), .val (.int (3 : Int32)), .val (.int p4), .val (.int (0 : Int32)), .unset, .unset, .unset]) rfl ?_
        show Steps p.tables e below (s₁.setTop (mkF m 3 #[.val (.ref a1), .val (.int (0 : Int32)), .val (.int (3 : Int32)), .val (.int p4), .val (.int (0 : Int32)), .unset, .unset, .unset] [])) _
        refine XS.iloadN X0.here hx rfl (hb hby d9_3) rfl ?_
        show Steps p.tables e below (s₁.setTop (mkF m 4 #[.val (.ref a1), .val (.int (0 : Int32)), .val (.int (3 : Int32)), .val (.int p4), .val (.int (0 : Int32)), .unset, .unset, .unset] [(.int (3 : Int32))])) _
        refine XS.iconst X0.here hx rfl (hb hby d9_4) ?_
        show Steps p.tables e below (s₁.setTop (mkF m 5 #[.val (.ref a1), .val (.int (0 : Int32)), .val (.int (3 : Int32)), .val (.int p4), .val (.int (0 : Int32)), .unset, .unset, .unset] [(.int (1 : Int32)), (.int (3 : Int32))])) _
        refine XS.isub X0.here hx rfl (hb hby d9_5) rfl ?_
        show Steps p.tables e below (s₁.setTop (mkF m 6 #[.val (.ref a1), .val (.int (0 : Int32)), .val (.int (3 : Int32)), .val (.int p4), .val (.int (0 : Int32)), .unset, .unset, .unset] [(.int ((3 : Int32) - (1 : Int32)))])) _
        rw [show ((3 : Int32) - (1 : Int32)) = (2 : Int32) from by decide]
        show Steps p.tables e below (s₁.setTop (mkF m 6 #[.val (.ref a1), .val (.int (0 : Int32)), .val (.int (3 : Int32)), .val (.int p4), .val (.int (0 : Int32)), .unset, .unset, .unset] [(.int (2 : Int32))])) _
        refine XS.istore X0.here hx rfl (hb hby d9_6) rfl (l' := #[.val (.ref a1), .val (.int (0 : Int32)), .val (.int (3 : Int32)), .val (.int p4), .val (.int (0 : Int32)), .val (.int (2 : Int32)), .unset, .unset]) rfl ?_
        show Steps p.tables e below (s₁.setTop (mkF m 8 #[.val (.ref a1), .val (.int (0 : Int32)), .val (.int (3 : Int32)), .val (.int p4), .val (.int (0 : Int32)), .val (.int (2 : Int32)), .unset, .unset] [])) _
        refine XS.iload X0.here hx rfl (hb hby d9_8) rfl ?_
        show Steps p.tables e below (s₁.setTop (mkF m 10 #[.val (.ref a1), .val (.int (0 : Int32)), .val (.int (3 : Int32)), .val (.int p4), .val (.int (0 : Int32)), .val (.int (2 : Int32)), .unset, .unset] [(.int (0 : Int32))])) _
        refine XS.iload X0.here hx rfl (hb hby d9_10) rfl ?_
        show Steps p.tables e below (s₁.setTop (mkF m 12 #[.val (.ref a1), .val (.int (0 : Int32)), .val (.int (3 : Int32)), .val (.int p4), .val (.int (0 : Int32)), .val (.int (2 : Int32)), .unset, .unset] [(.int (2 : Int32)), (.int (0 : Int32))])) _
        refine XS.icmpNo X0.here hx rfl (hb hby d9_12) rfl (flt hc12).2.2.1 ?_
        show Steps p.tables e below (s₁.setTop (mkF m 15 #[.val (.ref a1), .val (.int (0 : Int32)), .val (.int (3 : Int32)), .val (.int p4), .val (.int (0 : Int32)), .val (.int (2 : Int32)), .unset, .unset] [])) _
        refine XS.iload X0.here hx rfl (hb hby d9_15) rfl ?_
        show Steps p.tables e below (s₁.setTop (mkF m 17 #[.val (.ref a1), .val (.int (0 : Int32)), .val (.int (3 : Int32)), .val (.int p4), .val (.int (0 : Int32)), .val (.int (2 : Int32)), .unset, .unset] [(.int (0 : Int32))])) _
        refine XS.iload X0.here hx rfl (hb hby d9_17) rfl ?_
        show Steps p.tables e below (s₁.setTop (mkF m 19 #[.val (.ref a1), .val (.int (0 : Int32)), .val (.int (3 : Int32)), .val (.int p4), .val (.int (0 : Int32)), .val (.int (2 : Int32)), .unset, .unset] [(.int (2 : Int32)), (.int (0 : Int32))])) _
        refine XS.iadd X0.here hx rfl (hb hby d9_19) rfl ?_
        show Steps p.tables e below (s₁.setTop (mkF m 20 #[.val (.ref a1), .val (.int (0 : Int32)), .val (.int (3 : Int32)), .val (.int p4), .val (.int (0 : Int32)), .val (.int (2 : Int32)), .unset, .unset] [(.int ((0 : Int32) + (2 : Int32)))])) _
        rw [show ((0 : Int32) + (2 : Int32)) = (2 : Int32) from by decide]
        show Steps p.tables e below (s₁.setTop (mkF m 20 #[.val (.ref a1), .val (.int (0 : Int32)), .val (.int (3 : Int32)), .val (.int p4), .val (.int (0 : Int32)), .val (.int (2 : Int32)), .unset, .unset] [(.int (2 : Int32))])) _
        refine XS.iconst X0.here hx rfl (hb hby d9_20) ?_
        show Steps p.tables e below (s₁.setTop (mkF m 21 #[.val (.ref a1), .val (.int (0 : Int32)), .val (.int (3 : Int32)), .val (.int p4), .val (.int (0 : Int32)), .val (.int (2 : Int32)), .unset, .unset] [(.int (1 : Int32)), (.int (2 : Int32))])) _
        refine XS.iushr X0.here hx rfl (hb hby d9_21) rfl ?_
        show Steps p.tables e below (s₁.setTop (mkF m 22 #[.val (.ref a1), .val (.int (0 : Int32)), .val (.int (3 : Int32)), .val (.int p4), .val (.int (0 : Int32)), .val (.int (2 : Int32)), .unset, .unset] [(.int (((2 : Int32).toUInt32 >>> ((1 : Int32) &&& 31).toUInt32).toInt32))])) _
        rw [show (((2 : Int32).toUInt32 >>> ((1 : Int32) &&& 31).toUInt32).toInt32) = (1 : Int32) from by decide]
        show Steps p.tables e below (s₁.setTop (mkF m 22 #[.val (.ref a1), .val (.int (0 : Int32)), .val (.int (3 : Int32)), .val (.int p4), .val (.int (0 : Int32)), .val (.int (2 : Int32)), .unset, .unset] [(.int (1 : Int32))])) _
        refine XS.istore X0.here hx rfl (hb hby d9_22) rfl (l' := #[.val (.ref a1), .val (.int (0 : Int32)), .val (.int (3 : Int32)), .val (.int p4), .val (.int (0 : Int32)), .val (.int (2 : Int32)), .val (.int (1 : Int32)), .unset]) rfl ?_
        show Steps p.tables e below (s₁.setTop (mkF m 24 #[.val (.ref a1), .val (.int (0 : Int32)), .val (.int (3 : Int32)), .val (.int p4), .val (.int (0 : Int32)), .val (.int (2 : Int32)), .val (.int (1 : Int32)), .unset] [])) _
        refine XS.aloadN X0.here hx rfl (hb hby d9_24) rfl rfl ?_
        show Steps p.tables e below (s₁.setTop (mkF m 25 #[.val (.ref a1), .val (.int (0 : Int32)), .val (.int (3 : Int32)), .val (.int p4), .val (.int (0 : Int32)), .val (.int (2 : Int32)), .val (.int (1 : Int32)), .unset] [(.ref a1)])) _
        refine XS.iload X0.here hx rfl (hb hby d9_25) rfl ?_
        show Steps p.tables e below (s₁.setTop (mkF m 27 #[.val (.ref a1), .val (.int (0 : Int32)), .val (.int (3 : Int32)), .val (.int p4), .val (.int (0 : Int32)), .val (.int (2 : Int32)), .val (.int (1 : Int32)), .unset] [(.int (1 : Int32)), (.ref a1)])) _
        refine X0.iaload hx (j := (1 : Int32)) (v := (.int (1 : Int32))) (by rw [e0]; exact Ar35.1) (State.isArrayOf_alike hZ.alike Ar35.2.1) Ar35.2.2 hin35 hat35 (g := (mkF m 27 #[.val (.ref a1), .val (.int (0 : Int32)), .val (.int (3 : Int32)), .val (.int p4), .val (.int (0 : Int32)), .val (.int (2 : Int32)), .val (.int (1 : Int32)), .unset] [(.int (1 : Int32)), (.ref a1)])) rfl rfl (hb hby d9_27) _ ?_
        show Steps p.tables e below (s₁.setTop (mkF m 28 #[.val (.ref a1), .val (.int (0 : Int32)), .val (.int (3 : Int32)), .val (.int p4), .val (.int (0 : Int32)), .val (.int (2 : Int32)), .val (.int (1 : Int32)), .unset] [(.int (1 : Int32))])) _
        refine XS.istore X0.here hx rfl (hb hby d9_28) rfl (l' := #[.val (.ref a1), .val (.int (0 : Int32)), .val (.int (3 : Int32)), .val (.int p4), .val (.int (0 : Int32)), .val (.int (2 : Int32)), .val (.int (1 : Int32)), .val (.int (1 : Int32))]) rfl ?_
        show Steps p.tables e below (s₁.setTop (mkF m 30 #[.val (.ref a1), .val (.int (0 : Int32)), .val (.int (3 : Int32)), .val (.int p4), .val (.int (0 : Int32)), .val (.int (2 : Int32)), .val (.int (1 : Int32)), .val (.int (1 : Int32))] [])) _
        refine XS.iload X0.here hx rfl (hb hby d9_30) rfl ?_
        show Steps p.tables e below (s₁.setTop (mkF m 32 #[.val (.ref a1), .val (.int (0 : Int32)), .val (.int (3 : Int32)), .val (.int p4), .val (.int (0 : Int32)), .val (.int (2 : Int32)), .val (.int (1 : Int32)), .val (.int (1 : Int32))] [(.int (1 : Int32))])) _
        refine XS.iloadN X0.here hx rfl (hb hby d9_32) rfl ?_
        show Steps p.tables e below (s₁.setTop (mkF m 33 #[.val (.ref a1), .val (.int (0 : Int32)), .val (.int (3 : Int32)), .val (.int p4), .val (.int (0 : Int32)), .val (.int (2 : Int32)), .val (.int (1 : Int32)), .val (.int (1 : Int32))] [(.int p4), (.int (1 : Int32))])) _
        refine XS.icmpNo X0.here hx rfl (hb hby d9_33) rfl (tlt hc33).2.1 ?_
        show Steps p.tables e below (s₁.setTop (mkF m 36 #[.val (.ref a1), .val (.int (0 : Int32)), .val (.int (3 : Int32)), .val (.int p4), .val (.int (0 : Int32)), .val (.int (2 : Int32)), .val (.int (1 : Int32)), .val (.int (1 : Int32))] [])) _
        refine XS.iload X0.here hx rfl (hb hby d9_36) rfl ?_
        show Steps p.tables e below (s₁.setTop (mkF m 38 #[.val (.ref a1), .val (.int (0 : Int32)), .val (.int (3 : Int32)), .val (.int p4), .val (.int (0 : Int32)), .val (.int (2 : Int32)), .val (.int (1 : Int32)), .val (.int (1 : Int32))] [(.int (1 : Int32))])) _
        refine XS.iconst X0.here hx rfl (hb hby d9_38) ?_
        show Steps p.tables e below (s₁.setTop (mkF m 39 #[.val (.ref a1), .val (.int (0 : Int32)), .val (.int (3 : Int32)), .val (.int p4), .val (.int (0 : Int32)), .val (.int (2 : Int32)), .val (.int (1 : Int32)), .val (.int (1 : Int32))] [(.int (1 : Int32)), (.int (1 : Int32))])) _
        refine XS.iadd X0.here hx rfl (hb hby d9_39) rfl ?_
        show Steps p.tables e below (s₁.setTop (mkF m 40 #[.val (.ref a1), .val (.int (0 : Int32)), .val (.int (3 : Int32)), .val (.int p4), .val (.int (0 : Int32)), .val (.int (2 : Int32)), .val (.int (1 : Int32)), .val (.int (1 : Int32))] [(.int ((1 : Int32) + (1 : Int32)))])) _
        rw [show ((1 : Int32) + (1 : Int32)) = (2 : Int32) from by decide]
        show Steps p.tables e below (s₁.setTop (mkF m 40 #[.val (.ref a1), .val (.int (0 : Int32)), .val (.int (3 : Int32)), .val (.int p4), .val (.int (0 : Int32)), .val (.int (2 : Int32)), .val (.int (1 : Int32)), .val (.int (1 : Int32))] [(.int (2 : Int32))])) _
        refine XS.istore X0.here hx rfl (hb hby d9_40) rfl (l' := #[.val (.ref a1), .val (.int (0 : Int32)), .val (.int (3 : Int32)), .val (.int p4), .val (.int (2 : Int32)), .val (.int (2 : Int32)), .val (.int (1 : Int32)), .val (.int (1 : Int32))]) rfl ?_
        show Steps p.tables e below (s₁.setTop (mkF m 42 #[.val (.ref a1), .val (.int (0 : Int32)), .val (.int (3 : Int32)), .val (.int p4), .val (.int (2 : Int32)), .val (.int (2 : Int32)), .val (.int (1 : Int32)), .val (.int (1 : Int32))] [])) _
        refine XS.goto X0.here hx rfl (pc0 := 42) (pc' := 63) rfl (hb hby d9_42) (by decide) (by decide) ?_
        show Steps p.tables e below (s₁.setTop (mkF m 63 #[.val (.ref a1), .val (.int (0 : Int32)), .val (.int (3 : Int32)), .val (.int p4), .val (.int (2 : Int32)), .val (.int (2 : Int32)), .val (.int (1 : Int32)), .val (.int (1 : Int32))] [])) _
        refine XS.goto X0.here hx rfl (pc0 := 63) (pc' := 8) rfl (hb hby d9_63) (by decide) (by decide) ?_
        show Steps p.tables e below (s₁.setTop (mkF m 8 #[.val (.ref a1), .val (.int (0 : Int32)), .val (.int (3 : Int32)), .val (.int p4), .val (.int (2 : Int32)), .val (.int (2 : Int32)), .val (.int (1 : Int32)), .val (.int (1 : Int32))] [])) _
        refine XS.iload X0.here hx rfl (hb hby d9_8) rfl ?_
        show Steps p.tables e below (s₁.setTop (mkF m 10 #[.val (.ref a1), .val (.int (0 : Int32)), .val (.int (3 : Int32)), .val (.int p4), .val (.int (2 : Int32)), .val (.int (2 : Int32)), .val (.int (1 : Int32)), .val (.int (1 : Int32))] [(.int (2 : Int32))])) _
        refine XS.iload X0.here hx rfl (hb hby d9_10) rfl ?_
        show Steps p.tables e below (s₁.setTop (mkF m 12 #[.val (.ref a1), .val (.int (0 : Int32)), .val (.int (3 : Int32)), .val (.int p4), .val (.int (2 : Int32)), .val (.int (2 : Int32)), .val (.int (1 : Int32)), .val (.int (1 : Int32))] [(.int (2 : Int32)), (.int (2 : Int32))])) _
        refine XS.icmpNo X0.here hx rfl (hb hby d9_12) rfl (flt hc12x).2.2.1 ?_
        show Steps p.tables e below (s₁.setTop (mkF m 15 #[.val (.ref a1), .val (.int (0 : Int32)), .val (.int (3 : Int32)), .val (.int p4), .val (.int (2 : Int32)), .val (.int (2 : Int32)), .val (.int (1 : Int32)), .val (.int (1 : Int32))] [])) _
        refine XS.iload X0.here hx rfl (hb hby d9_15) rfl ?_
        show Steps p.tables e below (s₁.setTop (mkF m 17 #[.val (.ref a1), .val (.int (0 : Int32)), .val (.int (3 : Int32)), .val (.int p4), .val (.int (2 : Int32)), .val (.int (2 : Int32)), .val (.int (1 : Int32)), .val (.int (1 : Int32))] [(.int (2 : Int32))])) _
        refine XS.iload X0.here hx rfl (hb hby d9_17) rfl ?_
        show Steps p.tables e below (s₁.setTop (mkF m 19 #[.val (.ref a1), .val (.int (0 : Int32)), .val (.int (3 : Int32)), .val (.int p4), .val (.int (2 : Int32)), .val (.int (2 : Int32)), .val (.int (1 : Int32)), .val (.int (1 : Int32))] [(.int (2 : Int32)), (.int (2 : Int32))])) _
        refine XS.iadd X0.here hx rfl (hb hby d9_19) rfl ?_
        show Steps p.tables e below (s₁.setTop (mkF m 20 #[.val (.ref a1), .val (.int (0 : Int32)), .val (.int (3 : Int32)), .val (.int p4), .val (.int (2 : Int32)), .val (.int (2 : Int32)), .val (.int (1 : Int32)), .val (.int (1 : Int32))] [(.int ((2 : Int32) + (2 : Int32)))])) _
        rw [show ((2 : Int32) + (2 : Int32)) = (4 : Int32) from by decide]
        show Steps p.tables e below (s₁.setTop (mkF m 20 #[.val (.ref a1), .val (.int (0 : Int32)), .val (.int (3 : Int32)), .val (.int p4), .val (.int (2 : Int32)), .val (.int (2 : Int32)), .val (.int (1 : Int32)), .val (.int (1 : Int32))] [(.int (4 : Int32))])) _
        refine XS.iconst X0.here hx rfl (hb hby d9_20) ?_
        show Steps p.tables e below (s₁.setTop (mkF m 21 #[.val (.ref a1), .val (.int (0 : Int32)), .val (.int (3 : Int32)), .val (.int p4), .val (.int (2 : Int32)), .val (.int (2 : Int32)), .val (.int (1 : Int32)), .val (.int (1 : Int32))] [(.int (1 : Int32)), (.int (4 : Int32))])) _
        refine XS.iushr X0.here hx rfl (hb hby d9_21) rfl ?_
        show Steps p.tables e below (s₁.setTop (mkF m 22 #[.val (.ref a1), .val (.int (0 : Int32)), .val (.int (3 : Int32)), .val (.int p4), .val (.int (2 : Int32)), .val (.int (2 : Int32)), .val (.int (1 : Int32)), .val (.int (1 : Int32))] [(.int (((4 : Int32).toUInt32 >>> ((1 : Int32) &&& 31).toUInt32).toInt32))])) _
        rw [show (((4 : Int32).toUInt32 >>> ((1 : Int32) &&& 31).toUInt32).toInt32) = (2 : Int32) from by decide]
        show Steps p.tables e below (s₁.setTop (mkF m 22 #[.val (.ref a1), .val (.int (0 : Int32)), .val (.int (3 : Int32)), .val (.int p4), .val (.int (2 : Int32)), .val (.int (2 : Int32)), .val (.int (1 : Int32)), .val (.int (1 : Int32))] [(.int (2 : Int32))])) _
        refine XS.istore X0.here hx rfl (hb hby d9_22) rfl (l' := #[.val (.ref a1), .val (.int (0 : Int32)), .val (.int (3 : Int32)), .val (.int p4), .val (.int (2 : Int32)), .val (.int (2 : Int32)), .val (.int (2 : Int32)), .val (.int (1 : Int32))]) rfl ?_
        show Steps p.tables e below (s₁.setTop (mkF m 24 #[.val (.ref a1), .val (.int (0 : Int32)), .val (.int (3 : Int32)), .val (.int p4), .val (.int (2 : Int32)), .val (.int (2 : Int32)), .val (.int (2 : Int32)), .val (.int (1 : Int32))] [])) _
        refine XS.aloadN X0.here hx rfl (hb hby d9_24) rfl rfl ?_
        show Steps p.tables e below (s₁.setTop (mkF m 25 #[.val (.ref a1), .val (.int (0 : Int32)), .val (.int (3 : Int32)), .val (.int p4), .val (.int (2 : Int32)), .val (.int (2 : Int32)), .val (.int (2 : Int32)), .val (.int (1 : Int32))] [(.ref a1)])) _
        refine XS.iload X0.here hx rfl (hb hby d9_25) rfl ?_
        show Steps p.tables e below (s₁.setTop (mkF m 27 #[.val (.ref a1), .val (.int (0 : Int32)), .val (.int (3 : Int32)), .val (.int p4), .val (.int (2 : Int32)), .val (.int (2 : Int32)), .val (.int (2 : Int32)), .val (.int (1 : Int32))] [(.int (2 : Int32)), (.ref a1)])) _
        refine X0.iaload hx (j := (2 : Int32)) (v := (.int (2 : Int32))) (by rw [e0]; exact Ar36.1) (State.isArrayOf_alike hZ.alike Ar36.2.1) Ar36.2.2 hin36 hat36 (g := (mkF m 27 #[.val (.ref a1), .val (.int (0 : Int32)), .val (.int (3 : Int32)), .val (.int p4), .val (.int (2 : Int32)), .val (.int (2 : Int32)), .val (.int (2 : Int32)), .val (.int (1 : Int32))] [(.int (2 : Int32)), (.ref a1)])) rfl rfl (hb hby d9_27) _ ?_
        show Steps p.tables e below (s₁.setTop (mkF m 28 #[.val (.ref a1), .val (.int (0 : Int32)), .val (.int (3 : Int32)), .val (.int p4), .val (.int (2 : Int32)), .val (.int (2 : Int32)), .val (.int (2 : Int32)), .val (.int (1 : Int32))] [(.int (2 : Int32))])) _
        refine XS.istore X0.here hx rfl (hb hby d9_28) rfl (l' := #[.val (.ref a1), .val (.int (0 : Int32)), .val (.int (3 : Int32)), .val (.int p4), .val (.int (2 : Int32)), .val (.int (2 : Int32)), .val (.int (2 : Int32)), .val (.int (2 : Int32))]) rfl ?_
        show Steps p.tables e below (s₁.setTop (mkF m 30 #[.val (.ref a1), .val (.int (0 : Int32)), .val (.int (3 : Int32)), .val (.int p4), .val (.int (2 : Int32)), .val (.int (2 : Int32)), .val (.int (2 : Int32)), .val (.int (2 : Int32))] [])) _
        refine XS.iload X0.here hx rfl (hb hby d9_30) rfl ?_
        show Steps p.tables e below (s₁.setTop (mkF m 32 #[.val (.ref a1), .val (.int (0 : Int32)), .val (.int (3 : Int32)), .val (.int p4), .val (.int (2 : Int32)), .val (.int (2 : Int32)), .val (.int (2 : Int32)), .val (.int (2 : Int32))] [(.int (2 : Int32))])) _
        refine XS.iloadN X0.here hx rfl (hb hby d9_32) rfl ?_
        show Steps p.tables e below (s₁.setTop (mkF m 33 #[.val (.ref a1), .val (.int (0 : Int32)), .val (.int (3 : Int32)), .val (.int p4), .val (.int (2 : Int32)), .val (.int (2 : Int32)), .val (.int (2 : Int32)), .val (.int (2 : Int32))] [(.int p4), (.int (2 : Int32))])) _
        refine XS.icmpNo X0.here hx rfl (hb hby d9_33) rfl (tlt hc33x).2.1 ?_
        show Steps p.tables e below (s₁.setTop (mkF m 36 #[.val (.ref a1), .val (.int (0 : Int32)), .val (.int (3 : Int32)), .val (.int p4), .val (.int (2 : Int32)), .val (.int (2 : Int32)), .val (.int (2 : Int32)), .val (.int (2 : Int32))] [])) _
        refine XS.iload X0.here hx rfl (hb hby d9_36) rfl ?_
        show Steps p.tables e below (s₁.setTop (mkF m 38 #[.val (.ref a1), .val (.int (0 : Int32)), .val (.int (3 : Int32)), .val (.int p4), .val (.int (2 : Int32)), .val (.int (2 : Int32)), .val (.int (2 : Int32)), .val (.int (2 : Int32))] [(.int (2 : Int32))])) _
        refine XS.iconst X0.here hx rfl (hb hby d9_38) ?_
        show Steps p.tables e below (s₁.setTop (mkF m 39 #[.val (.ref a1), .val (.int (0 : Int32)), .val (.int (3 : Int32)), .val (.int p4), .val (.int (2 : Int32)), .val (.int (2 : Int32)), .val (.int (2 : Int32)), .val (.int (2 : Int32))] [(.int (1 : Int32)), (.int (2 : Int32))])) _
        refine XS.iadd X0.here hx rfl (hb hby d9_39) rfl ?_
        show Steps p.tables e below (s₁.setTop (mkF m 40 #[.val (.ref a1), .val (.int (0 : Int32)), .val (.int (3 : Int32)), .val (.int p4), .val (.int (2 : Int32)), .val (.int (2 : Int32)), .val (.int (2 : Int32)), .val (.int (2 : Int32))] [(.int ((2 : Int32) + (1 : Int32)))])) _
        rw [show ((2 : Int32) + (1 : Int32)) = (3 : Int32) from by decide]
        show Steps p.tables e below (s₁.setTop (mkF m 40 #[.val (.ref a1), .val (.int (0 : Int32)), .val (.int (3 : Int32)), .val (.int p4), .val (.int (2 : Int32)), .val (.int (2 : Int32)), .val (.int (2 : Int32)), .val (.int (2 : Int32))] [(.int (3 : Int32))])) _
        refine XS.istore X0.here hx rfl (hb hby d9_40) rfl (l' := #[.val (.ref a1), .val (.int (0 : Int32)), .val (.int (3 : Int32)), .val (.int p4), .val (.int (3 : Int32)), .val (.int (2 : Int32)), .val (.int (2 : Int32)), .val (.int (2 : Int32))]) rfl ?_
        show Steps p.tables e below (s₁.setTop (mkF m 42 #[.val (.ref a1), .val (.int (0 : Int32)), .val (.int (3 : Int32)), .val (.int p4), .val (.int (3 : Int32)), .val (.int (2 : Int32)), .val (.int (2 : Int32)), .val (.int (2 : Int32))] [])) _
        refine XS.goto X0.here hx rfl (pc0 := 42) (pc' := 63) rfl (hb hby d9_42) (by decide) (by decide) ?_
        show Steps p.tables e below (s₁.setTop (mkF m 63 #[.val (.ref a1), .val (.int (0 : Int32)), .val (.int (3 : Int32)), .val (.int p4), .val (.int (3 : Int32)), .val (.int (2 : Int32)), .val (.int (2 : Int32)), .val (.int (2 : Int32))] [])) _
        refine XS.goto X0.here hx rfl (pc0 := 63) (pc' := 8) rfl (hb hby d9_63) (by decide) (by decide) ?_
        show Steps p.tables e below (s₁.setTop (mkF m 8 #[.val (.ref a1), .val (.int (0 : Int32)), .val (.int (3 : Int32)), .val (.int p4), .val (.int (3 : Int32)), .val (.int (2 : Int32)), .val (.int (2 : Int32)), .val (.int (2 : Int32))] [])) _
        refine XS.iload X0.here hx rfl (hb hby d9_8) rfl ?_
        show Steps p.tables e below (s₁.setTop (mkF m 10 #[.val (.ref a1), .val (.int (0 : Int32)), .val (.int (3 : Int32)), .val (.int p4), .val (.int (3 : Int32)), .val (.int (2 : Int32)), .val (.int (2 : Int32)), .val (.int (2 : Int32))] [(.int (3 : Int32))])) _
        refine XS.iload X0.here hx rfl (hb hby d9_10) rfl ?_
        show Steps p.tables e below (s₁.setTop (mkF m 12 #[.val (.ref a1), .val (.int (0 : Int32)), .val (.int (3 : Int32)), .val (.int p4), .val (.int (3 : Int32)), .val (.int (2 : Int32)), .val (.int (2 : Int32)), .val (.int (2 : Int32))] [(.int (2 : Int32)), (.int (3 : Int32))])) _
        refine XS.icmpYes X0.here hx rfl (pc0 := 12) (pc' := 66) rfl (hb hby d9_12) rfl (tlt hc12xx).2.2.1 (by decide) (by decide) ?_
        show Steps p.tables e below (s₁.setTop (mkF m 66 #[.val (.ref a1), .val (.int (0 : Int32)), .val (.int (3 : Int32)), .val (.int p4), .val (.int (3 : Int32)), .val (.int (2 : Int32)), .val (.int (2 : Int32)), .val (.int (2 : Int32))] [])) _
        refine XS.iload X0.here hx rfl (hb hby d9_66) rfl ?_
        show Steps p.tables e below (s₁.setTop (mkF m 68 #[.val (.ref a1), .val (.int (0 : Int32)), .val (.int (3 : Int32)), .val (.int p4), .val (.int (3 : Int32)), .val (.int (2 : Int32)), .val (.int (2 : Int32)), .val (.int (2 : Int32))] [(.int (3 : Int32))])) _
        refine XS.iconst X0.here hx rfl (hb hby d9_68) ?_
        show Steps p.tables e below (s₁.setTop (mkF m 69 #[.val (.ref a1), .val (.int (0 : Int32)), .val (.int (3 : Int32)), .val (.int p4), .val (.int (3 : Int32)), .val (.int (2 : Int32)), .val (.int (2 : Int32)), .val (.int (2 : Int32))] [(.int (1 : Int32)), (.int (3 : Int32))])) _
        refine XS.iadd X0.here hx rfl (hb hby d9_69) rfl ?_
        show Steps p.tables e below (s₁.setTop (mkF m 70 #[.val (.ref a1), .val (.int (0 : Int32)), .val (.int (3 : Int32)), .val (.int p4), .val (.int (3 : Int32)), .val (.int (2 : Int32)), .val (.int (2 : Int32)), .val (.int (2 : Int32))] [(.int ((3 : Int32) + (1 : Int32)))])) _
        rw [show ((3 : Int32) + (1 : Int32)) = (4 : Int32) from by decide]
        show Steps p.tables e below (s₁.setTop (mkF m 70 #[.val (.ref a1), .val (.int (0 : Int32)), .val (.int (3 : Int32)), .val (.int p4), .val (.int (3 : Int32)), .val (.int (2 : Int32)), .val (.int (2 : Int32)), .val (.int (2 : Int32))] [(.int (4 : Int32))])) _
        refine XS.ineg X0.here hx rfl (hb hby d9_70) rfl ?_
        show Steps p.tables e below (s₁.setTop (mkF m 71 #[.val (.ref a1), .val (.int (0 : Int32)), .val (.int (3 : Int32)), .val (.int p4), .val (.int (3 : Int32)), .val (.int (2 : Int32)), .val (.int (2 : Int32)), .val (.int (2 : Int32))] [(.int (-(4 : Int32)))])) _
        rw [show (-(4 : Int32)) = (-4 : Int32) from by decide]
        show Steps p.tables e below (s₁.setTop (mkF m 71 #[.val (.ref a1), .val (.int (0 : Int32)), .val (.int (3 : Int32)), .val (.int p4), .val (.int (3 : Int32)), .val (.int (2 : Int32)), .val (.int (2 : Int32)), .val (.int (2 : Int32))] [(.int (-4 : Int32))])) _
        exact retI X0 hx Bd.returns (hb hby d9_71) hr
      · show Q_9 Z a1 p4 h0 n0 _ s₁.heap _
        rw [e0]
        exact ⟨by simp [own_bs, hc12, hc33, hc12x, hc33x, hc12xx], N0, rfl⟩
    · by_cases hc48 : p4 < (2 : Int32)
      · have hc12xx : (1 : Int32) < (2 : Int32) := by decide
        obtain ⟨fs, hr, hrun, hended, hW, hsame⟩ := X0.leave (v := some (.int (-3 : Int32))) (fun h => by rw [Bd.returns] at h; cases h)
        refine ⟨_, _, pre0 _ ?_, hrun, hended, _, _, rfl, ?_, ⟨_, rfl⟩, hW, hsame.mono (by decide) (by decide)⟩
        · show Steps p.tables e below (s₁.setTop (mkF m 0 #[.val (.ref a1), .val (.int (0 : Int32)), .val (.int (3 : Int32)), .val (.int p4), .unset, .unset, .unset, .unset] [])) _
          refine XS.iloadN X0.here hx rfl (hb hby d9_0) rfl ?_
          show Steps p.tables e below (s₁.setTop (mkF m 1 #[.val (.ref a1), .val (.int (0 : Int32)), .val (.int (3 : Int32)), .val (.int p4), .unset, .unset, .unset, .unset] [(.int (0 : Int32))])) _
          refine XS.istore X0.here hx rfl (hb hby d9_1) rfl (l' := #[.val (.ref a1), .val (.int (0 : Int32)), .val (.int (3 : Int32)), .val (.int p4), .val (.int (0 : Int32)), .unset, .unset, .unset]) rfl ?_
          show Steps p.tables e below (s₁.setTop (mkF m 3 #[.val (.ref a1), .val (.int (0 : Int32)), .val (.int (3 : Int32)), .val (.int p4), .val (.int (0 : Int32)), .unset, .unset, .unset] [])) _
          refine XS.iloadN X0.here hx rfl (hb hby d9_3) rfl ?_
          show Steps p.tables e below (s₁.setTop (mkF m 4 #[.val (.ref a1), .val (.int (0 : Int32)), .val (.int (3 : Int32)), .val (.int p4), .val (.int (0 : Int32)), .unset, .unset, .unset] [(.int (3 : Int32))])) _
          refine XS.iconst X0.here hx rfl (hb hby d9_4) ?_
          show Steps p.tables e below (s₁.setTop (mkF m 5 #[.val (.ref a1), .val (.int (0 : Int32)), .val (.int (3 : Int32)), .val (.int p4), .val (.int (0 : Int32)), .unset, .unset, .unset] [(.int (1 : Int32)), (.int (3 : Int32))])) _
          refine XS.isub X0.here hx rfl (hb hby d9_5) rfl ?_
          show Steps p.tables e below (s₁.setTop (mkF m 6 #[.val (.ref a1), .val (.int (0 : Int32)), .val (.int (3 : Int32)), .val (.int p4), .val (.int (0 : Int32)), .unset, .unset, .unset] [(.int ((3 : Int32) - (1 : Int32)))])) _
          rw [show ((3 : Int32) - (1 : Int32)) = (2 : Int32) from by decide]
          show Steps p.tables e below (s₁.setTop (mkF m 6 #[.val (.ref a1), .val (.int (0 : Int32)), .val (.int (3 : Int32)), .val (.int p4), .val (.int (0 : Int32)), .unset, .unset, .unset] [(.int (2 : Int32))])) _
          refine XS.istore X0.here hx rfl (hb hby d9_6) rfl (l' := #[.val (.ref a1), .val (.int (0 : Int32)), .val (.int (3 : Int32)), .val (.int p4), .val (.int (0 : Int32)), .val (.int (2 : Int32)), .unset, .unset]) rfl ?_
          show Steps p.tables e below (s₁.setTop (mkF m 8 #[.val (.ref a1), .val (.int (0 : Int32)), .val (.int (3 : Int32)), .val (.int p4), .val (.int (0 : Int32)), .val (.int (2 : Int32)), .unset, .unset] [])) _
          refine XS.iload X0.here hx rfl (hb hby d9_8) rfl ?_
          show Steps p.tables e below (s₁.setTop (mkF m 10 #[.val (.ref a1), .val (.int (0 : Int32)), .val (.int (3 : Int32)), .val (.int p4), .val (.int (0 : Int32)), .val (.int (2 : Int32)), .unset, .unset] [(.int (0 : Int32))])) _
          refine XS.iload X0.here hx rfl (hb hby d9_10) rfl ?_
          show Steps p.tables e below (s₁.setTop (mkF m 12 #[.val (.ref a1), .val (.int (0 : Int32)), .val (.int (3 : Int32)), .val (.int p4), .val (.int (0 : Int32)), .val (.int (2 : Int32)), .unset, .unset] [(.int (2 : Int32)), (.int (0 : Int32))])) _
          refine XS.icmpNo X0.here hx rfl (hb hby d9_12) rfl (flt hc12).2.2.1 ?_
          show Steps p.tables e below (s₁.setTop (mkF m 15 #[.val (.ref a1), .val (.int (0 : Int32)), .val (.int (3 : Int32)), .val (.int p4), .val (.int (0 : Int32)), .val (.int (2 : Int32)), .unset, .unset] [])) _
          refine XS.iload X0.here hx rfl (hb hby d9_15) rfl ?_
          show Steps p.tables e below (s₁.setTop (mkF m 17 #[.val (.ref a1), .val (.int (0 : Int32)), .val (.int (3 : Int32)), .val (.int p4), .val (.int (0 : Int32)), .val (.int (2 : Int32)), .unset, .unset] [(.int (0 : Int32))])) _
          refine XS.iload X0.here hx rfl (hb hby d9_17) rfl ?_
          show Steps p.tables e below (s₁.setTop (mkF m 19 #[.val (.ref a1), .val (.int (0 : Int32)), .val (.int (3 : Int32)), .val (.int p4), .val (.int (0 : Int32)), .val (.int (2 : Int32)), .unset, .unset] [(.int (2 : Int32)), (.int (0 : Int32))])) _
          refine XS.iadd X0.here hx rfl (hb hby d9_19) rfl ?_
          show Steps p.tables e below (s₁.setTop (mkF m 20 #[.val (.ref a1), .val (.int (0 : Int32)), .val (.int (3 : Int32)), .val (.int p4), .val (.int (0 : Int32)), .val (.int (2 : Int32)), .unset, .unset] [(.int ((0 : Int32) + (2 : Int32)))])) _
          rw [show ((0 : Int32) + (2 : Int32)) = (2 : Int32) from by decide]
          show Steps p.tables e below (s₁.setTop (mkF m 20 #[.val (.ref a1), .val (.int (0 : Int32)), .val (.int (3 : Int32)), .val (.int p4), .val (.int (0 : Int32)), .val (.int (2 : Int32)), .unset, .unset] [(.int (2 : Int32))])) _
          refine XS.iconst X0.here hx rfl (hb hby d9_20) ?_
          show Steps p.tables e below (s₁.setTop (mkF m 21 #[.val (.ref a1), .val (.int (0 : Int32)), .val (.int (3 : Int32)), .val (.int p4), .val (.int (0 : Int32)), .val (.int (2 : Int32)), .unset, .unset] [(.int (1 : Int32)), (.int (2 : Int32))])) _
          refine XS.iushr X0.here hx rfl (hb hby d9_21) rfl ?_
          show Steps p.tables e below (s₁.setTop (mkF m 22 #[.val (.ref a1), .val (.int (0 : Int32)), .val (.int (3 : Int32)), .val (.int p4), .val (.int (0 : Int32)), .val (.int (2 : Int32)), .unset, .unset] [(.int (((2 : Int32).toUInt32 >>> ((1 : Int32) &&& 31).toUInt32).toInt32))])) _
          rw [show (((2 : Int32).toUInt32 >>> ((1 : Int32) &&& 31).toUInt32).toInt32) = (1 : Int32) from by decide]
          show Steps p.tables e below (s₁.setTop (mkF m 22 #[.val (.ref a1), .val (.int (0 : Int32)), .val (.int (3 : Int32)), .val (.int p4), .val (.int (0 : Int32)), .val (.int (2 : Int32)), .unset, .unset] [(.int (1 : Int32))])) _
          refine XS.istore X0.here hx rfl (hb hby d9_22) rfl (l' := #[.val (.ref a1), .val (.int (0 : Int32)), .val (.int (3 : Int32)), .val (.int p4), .val (.int (0 : Int32)), .val (.int (2 : Int32)), .val (.int (1 : Int32)), .unset]) rfl ?_
          show Steps p.tables e below (s₁.setTop (mkF m 24 #[.val (.ref a1), .val (.int (0 : Int32)), .val (.int (3 : Int32)), .val (.int p4), .val (.int (0 : Int32)), .val (.int (2 : Int32)), .val (.int (1 : Int32)), .unset] [])) _
          refine XS.aloadN X0.here hx rfl (hb hby d9_24) rfl rfl ?_
          show Steps p.tables e below (s₁.setTop (mkF m 25 #[.val (.ref a1), .val (.int (0 : Int32)), .val (.int (3 : Int32)), .val (.int p4), .val (.int (0 : Int32)), .val (.int (2 : Int32)), .val (.int (1 : Int32)), .unset] [(.ref a1)])) _
          refine XS.iload X0.here hx rfl (hb hby d9_25) rfl ?_
          show Steps p.tables e below (s₁.setTop (mkF m 27 #[.val (.ref a1), .val (.int (0 : Int32)), .val (.int (3 : Int32)), .val (.int p4), .val (.int (0 : Int32)), .val (.int (2 : Int32)), .val (.int (1 : Int32)), .unset] [(.int (1 : Int32)), (.ref a1)])) _
          refine X0.iaload hx (j := (1 : Int32)) (v := (.int (1 : Int32))) (by rw [e0]; exact Ar35.1) (State.isArrayOf_alike hZ.alike Ar35.2.1) Ar35.2.2 hin35 hat35 (g := (mkF m 27 #[.val (.ref a1), .val (.int (0 : Int32)), .val (.int (3 : Int32)), .val (.int p4), .val (.int (0 : Int32)), .val (.int (2 : Int32)), .val (.int (1 : Int32)), .unset] [(.int (1 : Int32)), (.ref a1)])) rfl rfl (hb hby d9_27) _ ?_
          show Steps p.tables e below (s₁.setTop (mkF m 28 #[.val (.ref a1), .val (.int (0 : Int32)), .val (.int (3 : Int32)), .val (.int p4), .val (.int (0 : Int32)), .val (.int (2 : Int32)), .val (.int (1 : Int32)), .unset] [(.int (1 : Int32))])) _
          refine XS.istore X0.here hx rfl (hb hby d9_28) rfl (l' := #[.val (.ref a1), .val (.int (0 : Int32)), .val (.int (3 : Int32)), .val (.int p4), .val (.int (0 : Int32)), .val (.int (2 : Int32)), .val (.int (1 : Int32)), .val (.int (1 : Int32))]) rfl ?_
          show Steps p.tables e below (s₁.setTop (mkF m 30 #[.val (.ref a1), .val (.int (0 : Int32)), .val (.int (3 : Int32)), .val (.int p4), .val (.int (0 : Int32)), .val (.int (2 : Int32)), .val (.int (1 : Int32)), .val (.int (1 : Int32))] [])) _
          refine XS.iload X0.here hx rfl (hb hby d9_30) rfl ?_
          show Steps p.tables e below (s₁.setTop (mkF m 32 #[.val (.ref a1), .val (.int (0 : Int32)), .val (.int (3 : Int32)), .val (.int p4), .val (.int (0 : Int32)), .val (.int (2 : Int32)), .val (.int (1 : Int32)), .val (.int (1 : Int32))] [(.int (1 : Int32))])) _
          refine XS.iloadN X0.here hx rfl (hb hby d9_32) rfl ?_
          show Steps p.tables e below (s₁.setTop (mkF m 33 #[.val (.ref a1), .val (.int (0 : Int32)), .val (.int (3 : Int32)), .val (.int p4), .val (.int (0 : Int32)), .val (.int (2 : Int32)), .val (.int (1 : Int32)), .val (.int (1 : Int32))] [(.int p4), (.int (1 : Int32))])) _
          refine XS.icmpNo X0.here hx rfl (hb hby d9_33) rfl (tlt hc33).2.1 ?_
          show Steps p.tables e below (s₁.setTop (mkF m 36 #[.val (.ref a1), .val (.int (0 : Int32)), .val (.int (3 : Int32)), .val (.int p4), .val (.int (0 : Int32)), .val (.int (2 : Int32)), .val (.int (1 : Int32)), .val (.int (1 : Int32))] [])) _
          refine XS.iload X0.here hx rfl (hb hby d9_36) rfl ?_
          show Steps p.tables e below (s₁.setTop (mkF m 38 #[.val (.ref a1), .val (.int (0 : Int32)), .val (.int (3 : Int32)), .val (.int p4), .val (.int (0 : Int32)), .val (.int (2 : Int32)), .val (.int (1 : Int32)), .val (.int (1 : Int32))] [(.int (1 : Int32))])) _
          refine XS.iconst X0.here hx rfl (hb hby d9_38) ?_
          show Steps p.tables e below (s₁.setTop (mkF m 39 #[.val (.ref a1), .val (.int (0 : Int32)), .val (.int (3 : Int32)), .val (.int p4), .val (.int (0 : Int32)), .val (.int (2 : Int32)), .val (.int (1 : Int32)), .val (.int (1 : Int32))] [(.int (1 : Int32)), (.int (1 : Int32))])) _
          refine XS.iadd X0.here hx rfl (hb hby d9_39) rfl ?_
          show Steps p.tables e below (s₁.setTop (mkF m 40 #[.val (.ref a1), .val (.int (0 : Int32)), .val (.int (3 : Int32)), .val (.int p4), .val (.int (0 : Int32)), .val (.int (2 : Int32)), .val (.int (1 : Int32)), .val (.int (1 : Int32))] [(.int ((1 : Int32) + (1 : Int32)))])) _
          rw [show ((1 : Int32) + (1 : Int32)) = (2 : Int32) from by decide]
          show Steps p.tables e below (s₁.setTop (mkF m 40 #[.val (.ref a1), .val (.int (0 : Int32)), .val (.int (3 : Int32)), .val (.int p4), .val (.int (0 : Int32)), .val (.int (2 : Int32)), .val (.int (1 : Int32)), .val (.int (1 : Int32))] [(.int (2 : Int32))])) _
          refine XS.istore X0.here hx rfl (hb hby d9_40) rfl (l' := #[.val (.ref a1), .val (.int (0 : Int32)), .val (.int (3 : Int32)), .val (.int p4), .val (.int (2 : Int32)), .val (.int (2 : Int32)), .val (.int (1 : Int32)), .val (.int (1 : Int32))]) rfl ?_
          show Steps p.tables e below (s₁.setTop (mkF m 42 #[.val (.ref a1), .val (.int (0 : Int32)), .val (.int (3 : Int32)), .val (.int p4), .val (.int (2 : Int32)), .val (.int (2 : Int32)), .val (.int (1 : Int32)), .val (.int (1 : Int32))] [])) _
          refine XS.goto X0.here hx rfl (pc0 := 42) (pc' := 63) rfl (hb hby d9_42) (by decide) (by decide) ?_
          show Steps p.tables e below (s₁.setTop (mkF m 63 #[.val (.ref a1), .val (.int (0 : Int32)), .val (.int (3 : Int32)), .val (.int p4), .val (.int (2 : Int32)), .val (.int (2 : Int32)), .val (.int (1 : Int32)), .val (.int (1 : Int32))] [])) _
          refine XS.goto X0.here hx rfl (pc0 := 63) (pc' := 8) rfl (hb hby d9_63) (by decide) (by decide) ?_
          show Steps p.tables e below (s₁.setTop (mkF m 8 #[.val (.ref a1), .val (.int (0 : Int32)), .val (.int (3 : Int32)), .val (.int p4), .val (.int (2 : Int32)), .val (.int (2 : Int32)), .val (.int (1 : Int32)), .val (.int (1 : Int32))] [])) _
          refine XS.iload X0.here hx rfl (hb hby d9_8) rfl ?_
          show Steps p.tables e below (s₁.setTop (mkF m 10 #[.val (.ref a1), .val (.int (0 : Int32)), .val (.int (3 : Int32)), .val (.int p4), .val (.int (2 : Int32)), .val (.int (2 : Int32)), .val (.int (1 : Int32)), .val (.int (1 : Int32))] [(.int (2 : Int32))])) _
          refine XS.iload X0.here hx rfl (hb hby d9_10) rfl ?_
          show Steps p.tables e below (s₁.setTop (mkF m 12 #[.val (.ref a1), .val (.int (0 : Int32)), .val (.int (3 : Int32)), .val (.int p4), .val (.int (2 : Int32)), .val (.int (2 : Int32)), .val (.int (1 : Int32)), .val (.int (1 : Int32))] [(.int (2 : Int32)), (.int (2 : Int32))])) _
          refine XS.icmpNo X0.here hx rfl (hb hby d9_12) rfl (flt hc12x).2.2.1 ?_
          show Steps p.tables e below (s₁.setTop (mkF m 15 #[.val (.ref a1), .val (.int (0 : Int32)), .val (.int (3 : Int32)), .val (.int p4), .val (.int (2 : Int32)), .val (.int (2 : Int32)), .val (.int (1 : Int32)), .val (.int (1 : Int32))] [])) _
          refine XS.iload X0.here hx rfl (hb hby d9_15) rfl ?_
          show Steps p.tables e below (s₁.setTop (mkF m 17 #[.val (.ref a1), .val (.int (0 : Int32)), .val (.int (3 : Int32)), .val (.int p4), .val (.int (2 : Int32)), .val (.int (2 : Int32)), .val (.int (1 : Int32)), .val (.int (1 : Int32))] [(.int (2 : Int32))])) _
          refine XS.iload X0.here hx rfl (hb hby d9_17) rfl ?_
          show Steps p.tables e below (s₁.setTop (mkF m 19 #[.val (.ref a1), .val (.int (0 : Int32)), .val (.int (3 : Int32)), .val (.int p4), .val (.int (2 : Int32)), .val (.int (2 : Int32)), .val (.int (1 : Int32)), .val (.int (1 : Int32))] [(.int (2 : Int32)), (.int (2 : Int32))])) _
          refine XS.iadd X0.here hx rfl (hb hby d9_19) rfl ?_
          show Steps p.tables e below (s₁.setTop (mkF m 20 #[.val (.ref a1), .val (.int (0 : Int32)), .val (.int (3 : Int32)), .val (.int p4), .val (.int (2 : Int32)), .val (.int (2 : Int32)), .val (.int (1 : Int32)), .val (.int (1 : Int32))] [(.int ((2 : Int32) + (2 : Int32)))])) _
          rw [show ((2 : Int32) + (2 : Int32)) = (4 : Int32) from by decide]
          show Steps p.tables e below (s₁.setTop (mkF m 20 #[.val (.ref a1), .val (.int (0 : Int32)), .val (.int (3 : Int32)), .val (.int p4), .val (.int (2 : Int32)), .val (.int (2 : Int32)), .val (.int (1 : Int32)), .val (.int (1 : Int32))] [(.int (4 : Int32))])) _
          refine XS.iconst X0.here hx rfl (hb hby d9_20) ?_
          show Steps p.tables e below (s₁.setTop (mkF m 21 #[.val (.ref a1), .val (.int (0 : Int32)), .val (.int (3 : Int32)), .val (.int p4), .val (.int (2 : Int32)), .val (.int (2 : Int32)), .val (.int (1 : Int32)), .val (.int (1 : Int32))] [(.int (1 : Int32)), (.int (4 : Int32))])) _
          refine XS.iushr X0.here hx rfl (hb hby d9_21) rfl ?_
          show Steps p.tables e below (s₁.setTop (mkF m 22 #[.val (.ref a1), .val (.int (0 : Int32)), .val (.int (3 : Int32)), .val (.int p4), .val (.int (2 : Int32)), .val (.int (2 : Int32)), .val (.int (1 : Int32)), .val (.int (1 : Int32))] [(.int (((4 : Int32).toUInt32 >>> ((1 : Int32) &&& 31).toUInt32).toInt32))])) _
          rw [show (((4 : Int32).toUInt32 >>> ((1 : Int32) &&& 31).toUInt32).toInt32) = (2 : Int32) from by decide]
          show Steps p.tables e below (s₁.setTop (mkF m 22 #[.val (.ref a1), .val (.int (0 : Int32)), .val (.int (3 : Int32)), .val (.int p4), .val (.int (2 : Int32)), .val (.int (2 : Int32)), .val (.int (1 : Int32)), .val (.int (1 : Int32))] [(.int (2 : Int32))])) _
          refine XS.istore X0.here hx rfl (hb hby d9_22) rfl (l' := #[.val (.ref a1), .val (.int (0 : Int32)), .val (.int (3 : Int32)), .val (.int p4), .val (.int (2 : Int32)), .val (.int (2 : Int32)), .val (.int (2 : Int32)), .val (.int (1 : Int32))]) rfl ?_
          show Steps p.tables e below (s₁.setTop (mkF m 24 #[.val (.ref a1), .val (.int (0 : Int32)), .val (.int (3 : Int32)), .val (.int p4), .val (.int (2 : Int32)), .val (.int (2 : Int32)), .val (.int (2 : Int32)), .val (.int (1 : Int32))] [])) _
          refine XS.aloadN X0.here hx rfl (hb hby d9_24) rfl rfl ?_
          show Steps p.tables e below (s₁.setTop (mkF m 25 #[.val (.ref a1), .val (.int (0 : Int32)), .val (.int (3 : Int32)), .val (.int p4), .val (.int (2 : Int32)), .val (.int (2 : Int32)), .val (.int (2 : Int32)), .val (.int (1 : Int32))] [(.ref a1)])) _
          refine XS.iload X0.here hx rfl (hb hby d9_25) rfl ?_
          show Steps p.tables e below (s₁.setTop (mkF m 27 #[.val (.ref a1), .val (.int (0 : Int32)), .val (.int (3 : Int32)), .val (.int p4), .val (.int (2 : Int32)), .val (.int (2 : Int32)), .val (.int (2 : Int32)), .val (.int (1 : Int32))] [(.int (2 : Int32)), (.ref a1)])) _
          refine X0.iaload hx (j := (2 : Int32)) (v := (.int (2 : Int32))) (by rw [e0]; exact Ar36.1) (State.isArrayOf_alike hZ.alike Ar36.2.1) Ar36.2.2 hin36 hat36 (g := (mkF m 27 #[.val (.ref a1), .val (.int (0 : Int32)), .val (.int (3 : Int32)), .val (.int p4), .val (.int (2 : Int32)), .val (.int (2 : Int32)), .val (.int (2 : Int32)), .val (.int (1 : Int32))] [(.int (2 : Int32)), (.ref a1)])) rfl rfl (hb hby d9_27) _ ?_
          show Steps p.tables e below (s₁.setTop (mkF m 28 #[.val (.ref a1), .val (.int (0 : Int32)), .val (.int (3 : Int32)), .val (.int p4), .val (.int (2 : Int32)), .val (.int (2 : Int32)), .val (.int (2 : Int32)), .val (.int (1 : Int32))] [(.int (2 : Int32))])) _
          refine XS.istore X0.here hx rfl (hb hby d9_28) rfl (l' := #[.val (.ref a1), .val (.int (0 : Int32)), .val (.int (3 : Int32)), .val (.int p4), .val (.int (2 : Int32)), .val (.int (2 : Int32)), .val (.int (2 : Int32)), .val (.int (2 : Int32))]) rfl ?_
          show Steps p.tables e below (s₁.setTop (mkF m 30 #[.val (.ref a1), .val (.int (0 : Int32)), .val (.int (3 : Int32)), .val (.int p4), .val (.int (2 : Int32)), .val (.int (2 : Int32)), .val (.int (2 : Int32)), .val (.int (2 : Int32))] [])) _
          refine XS.iload X0.here hx rfl (hb hby d9_30) rfl ?_
          show Steps p.tables e below (s₁.setTop (mkF m 32 #[.val (.ref a1), .val (.int (0 : Int32)), .val (.int (3 : Int32)), .val (.int p4), .val (.int (2 : Int32)), .val (.int (2 : Int32)), .val (.int (2 : Int32)), .val (.int (2 : Int32))] [(.int (2 : Int32))])) _
          refine XS.iloadN X0.here hx rfl (hb hby d9_32) rfl ?_
          show Steps p.tables e below (s₁.setTop (mkF m 33 #[.val (.ref a1), .val (.int (0 : Int32)), .val (.int (3 : Int32)), .val (.int p4), .val (.int (2 : Int32)), .val (.int (2 : Int32)), .val (.int (2 : Int32)), .val (.int (2 : Int32))] [(.int p4), (.int (2 : Int32))])) _
          refine XS.icmpYes X0.here hx rfl (pc0 := 33) (pc' := 45) rfl (hb hby d9_33) rfl (flt hc33x).2.1 (by decide) (by decide) ?_
          show Steps p.tables e below (s₁.setTop (mkF m 45 #[.val (.ref a1), .val (.int (0 : Int32)), .val (.int (3 : Int32)), .val (.int p4), .val (.int (2 : Int32)), .val (.int (2 : Int32)), .val (.int (2 : Int32)), .val (.int (2 : Int32))] [])) _
          refine XS.iload X0.here hx rfl (hb hby d9_45) rfl ?_
          show Steps p.tables e below (s₁.setTop (mkF m 47 #[.val (.ref a1), .val (.int (0 : Int32)), .val (.int (3 : Int32)), .val (.int p4), .val (.int (2 : Int32)), .val (.int (2 : Int32)), .val (.int (2 : Int32)), .val (.int (2 : Int32))] [(.int (2 : Int32))])) _
          refine XS.iloadN X0.here hx rfl (hb hby d9_47) rfl ?_
          show Steps p.tables e below (s₁.setTop (mkF m 48 #[.val (.ref a1), .val (.int (0 : Int32)), .val (.int (3 : Int32)), .val (.int p4), .val (.int (2 : Int32)), .val (.int (2 : Int32)), .val (.int (2 : Int32)), .val (.int (2 : Int32))] [(.int p4), (.int (2 : Int32))])) _
          refine XS.icmpNo X0.here hx rfl (hb hby d9_48) rfl (tlt hc48).2.2.2 ?_
          show Steps p.tables e below (s₁.setTop (mkF m 51 #[.val (.ref a1), .val (.int (0 : Int32)), .val (.int (3 : Int32)), .val (.int p4), .val (.int (2 : Int32)), .val (.int (2 : Int32)), .val (.int (2 : Int32)), .val (.int (2 : Int32))] [])) _
          refine XS.iload X0.here hx rfl (hb hby d9_51) rfl ?_
          show Steps p.tables e below (s₁.setTop (mkF m 53 #[.val (.ref a1), .val (.int (0 : Int32)), .val (.int (3 : Int32)), .val (.int p4), .val (.int (2 : Int32)), .val (.int (2 : Int32)), .val (.int (2 : Int32)), .val (.int (2 : Int32))] [(.int (2 : Int32))])) _
          refine XS.iconst X0.here hx rfl (hb hby d9_53) ?_
          show Steps p.tables e below (s₁.setTop (mkF m 54 #[.val (.ref a1), .val (.int (0 : Int32)), .val (.int (3 : Int32)), .val (.int p4), .val (.int (2 : Int32)), .val (.int (2 : Int32)), .val (.int (2 : Int32)), .val (.int (2 : Int32))] [(.int (1 : Int32)), (.int (2 : Int32))])) _
          refine XS.isub X0.here hx rfl (hb hby d9_54) rfl ?_
          show Steps p.tables e below (s₁.setTop (mkF m 55 #[.val (.ref a1), .val (.int (0 : Int32)), .val (.int (3 : Int32)), .val (.int p4), .val (.int (2 : Int32)), .val (.int (2 : Int32)), .val (.int (2 : Int32)), .val (.int (2 : Int32))] [(.int ((2 : Int32) - (1 : Int32)))])) _
          rw [show ((2 : Int32) - (1 : Int32)) = (1 : Int32) from by decide]
          show Steps p.tables e below (s₁.setTop (mkF m 55 #[.val (.ref a1), .val (.int (0 : Int32)), .val (.int (3 : Int32)), .val (.int p4), .val (.int (2 : Int32)), .val (.int (2 : Int32)), .val (.int (2 : Int32)), .val (.int (2 : Int32))] [(.int (1 : Int32))])) _
          refine XS.istore X0.here hx rfl (hb hby d9_55) rfl (l' := #[.val (.ref a1), .val (.int (0 : Int32)), .val (.int (3 : Int32)), .val (.int p4), .val (.int (2 : Int32)), .val (.int (1 : Int32)), .val (.int (2 : Int32)), .val (.int (2 : Int32))]) rfl ?_
          show Steps p.tables e below (s₁.setTop (mkF m 57 #[.val (.ref a1), .val (.int (0 : Int32)), .val (.int (3 : Int32)), .val (.int p4), .val (.int (2 : Int32)), .val (.int (1 : Int32)), .val (.int (2 : Int32)), .val (.int (2 : Int32))] [])) _
          refine XS.goto X0.here hx rfl (pc0 := 57) (pc' := 63) rfl (hb hby d9_57) (by decide) (by decide) ?_
          show Steps p.tables e below (s₁.setTop (mkF m 63 #[.val (.ref a1), .val (.int (0 : Int32)), .val (.int (3 : Int32)), .val (.int p4), .val (.int (2 : Int32)), .val (.int (1 : Int32)), .val (.int (2 : Int32)), .val (.int (2 : Int32))] [])) _
          refine XS.goto X0.here hx rfl (pc0 := 63) (pc' := 8) rfl (hb hby d9_63) (by decide) (by decide) ?_
          show Steps p.tables e below (s₁.setTop (mkF m 8 #[.val (.ref a1), .val (.int (0 : Int32)), .val (.int (3 : Int32)), .val (.int p4), .val (.int (2 : Int32)), .val (.int (1 : Int32)), .val (.int (2 : Int32)), .val (.int (2 : Int32))] [])) _
          refine XS.iload X0.here hx rfl (hb hby d9_8) rfl ?_
          show Steps p.tables e below (s₁.setTop (mkF m 10 #[.val (.ref a1), .val (.int (0 : Int32)), .val (.int (3 : Int32)), .val (.int p4), .val (.int (2 : Int32)), .val (.int (1 : Int32)), .val (.int (2 : Int32)), .val (.int (2 : Int32))] [(.int (2 : Int32))])) _
          refine XS.iload X0.here hx rfl (hb hby d9_10) rfl ?_
          show Steps p.tables e below (s₁.setTop (mkF m 12 #[.val (.ref a1), .val (.int (0 : Int32)), .val (.int (3 : Int32)), .val (.int p4), .val (.int (2 : Int32)), .val (.int (1 : Int32)), .val (.int (2 : Int32)), .val (.int (2 : Int32))] [(.int (1 : Int32)), (.int (2 : Int32))])) _
          refine XS.icmpYes X0.here hx rfl (pc0 := 12) (pc' := 66) rfl (hb hby d9_12) rfl (tlt hc12xx).2.2.1 (by decide) (by decide) ?_
          show Steps p.tables e below (s₁.setTop (mkF m 66 #[.val (.ref a1), .val (.int (0 : Int32)), .val (.int (3 : Int32)), .val (.int p4), .val (.int (2 : Int32)), .val (.int (1 : Int32)), .val (.int (2 : Int32)), .val (.int (2 : Int32))] [])) _
          refine XS.iload X0.here hx rfl (hb hby d9_66) rfl ?_
          show Steps p.tables e below (s₁.setTop (mkF m 68 #[.val (.ref a1), .val (.int (0 : Int32)), .val (.int (3 : Int32)), .val (.int p4), .val (.int (2 : Int32)), .val (.int (1 : Int32)), .val (.int (2 : Int32)), .val (.int (2 : Int32))] [(.int (2 : Int32))])) _
          refine XS.iconst X0.here hx rfl (hb hby d9_68) ?_
          show Steps p.tables e below (s₁.setTop (mkF m 69 #[.val (.ref a1), .val (.int (0 : Int32)), .val (.int (3 : Int32)), .val (.int p4), .val (.int (2 : Int32)), .val (.int (1 : Int32)), .val (.int (2 : Int32)), .val (.int (2 : Int32))] [(.int (1 : Int32)), (.int (2 : Int32))])) _
          refine XS.iadd X0.here hx rfl (hb hby d9_69) rfl ?_
          show Steps p.tables e below (s₁.setTop (mkF m 70 #[.val (.ref a1), .val (.int (0 : Int32)), .val (.int (3 : Int32)), .val (.int p4), .val (.int (2 : Int32)), .val (.int (1 : Int32)), .val (.int (2 : Int32)), .val (.int (2 : Int32))] [(.int ((2 : Int32) + (1 : Int32)))])) _
          rw [show ((2 : Int32) + (1 : Int32)) = (3 : Int32) from by decide]
          show Steps p.tables e below (s₁.setTop (mkF m 70 #[.val (.ref a1), .val (.int (0 : Int32)), .val (.int (3 : Int32)), .val (.int p4), .val (.int (2 : Int32)), .val (.int (1 : Int32)), .val (.int (2 : Int32)), .val (.int (2 : Int32))] [(.int (3 : Int32))])) _
          refine XS.ineg X0.here hx rfl (hb hby d9_70) rfl ?_
          show Steps p.tables e below (s₁.setTop (mkF m 71 #[.val (.ref a1), .val (.int (0 : Int32)), .val (.int (3 : Int32)), .val (.int p4), .val (.int (2 : Int32)), .val (.int (1 : Int32)), .val (.int (2 : Int32)), .val (.int (2 : Int32))] [(.int (-(3 : Int32)))])) _
          rw [show (-(3 : Int32)) = (-3 : Int32) from by decide]
          show Steps p.tables e below (s₁.setTop (mkF m 71 #[.val (.ref a1), .val (.int (0 : Int32)), .val (.int (3 : Int32)), .val (.int p4), .val (.int (2 : Int32)), .val (.int (1 : Int32)), .val (.int (2 : Int32)), .val (.int (2 : Int32))] [(.int (-3 : Int32))])) _
          exact retI X0 hx Bd.returns (hb hby d9_71) hr
        · show Q_9 Z a1 p4 h0 n0 _ s₁.heap _
          rw [e0]
          exact ⟨by simp [own_bs, hc12, hc33, hc12x, hc33x, hc48, hc12xx], N0, rfl⟩
      · obtain ⟨fs, hr, hrun, hended, hW, hsame⟩ := X0.leave (v := some (.int (2 : Int32))) (fun h => by rw [Bd.returns] at h; cases h)
        refine ⟨_, _, pre0 _ ?_, hrun, hended, _, _, rfl, ?_, ⟨_, rfl⟩, hW, hsame.mono (by decide) (by decide)⟩
        · show Steps p.tables e below (s₁.setTop (mkF m 0 #[.val (.ref a1), .val (.int (0 : Int32)), .val (.int (3 : Int32)), .val (.int p4), .unset, .unset, .unset, .unset] [])) _
          refine XS.iloadN X0.here hx rfl (hb hby d9_0) rfl ?_
          show Steps p.tables e below (s₁.setTop (mkF m 1 #[.val (.ref a1), .val (.int (0 : Int32)), .val (.int (3 : Int32)), .val (.int p4), .unset, .unset, .unset, .unset] [(.int (0 : Int32))])) _
          refine XS.istore X0.here hx rfl (hb hby d9_1) rfl (l' := #[.val (.ref a1), .val (.int (0 : Int32)), .val (.int (3 : Int32)), .val (.int p4), .val (.int (0 : Int32)), .unset, .unset, .unset]) rfl ?_
          show Steps p.tables e below (s₁.setTop (mkF m 3 #[.val (.ref a1), .val (.int (0 : Int32)), .val (.int (3 : Int32)), .val (.int p4), .val (.int (0 : Int32)), .unset, .unset, .unset] [])) _
          refine XS.iloadN X0.here hx rfl (hb hby d9_3) rfl ?_
          show Steps p.tables e below (s₁.setTop (mkF m 4 #[.val (.ref a1), .val (.int (0 : Int32)), .val (.int (3 : Int32)), .val (.int p4), .val (.int (0 : Int32)), .unset, .unset, .unset] [(.int (3 : Int32))])) _
          refine XS.iconst X0.here hx rfl (hb hby d9_4) ?_
          show Steps p.tables e below (s₁.setTop (mkF m 5 #[.val (.ref a1), .val (.int (0 : Int32)), .val (.int (3 : Int32)), .val (.int p4), .val (.int (0 : Int32)), .unset, .unset, .unset] [(.int (1 : Int32)), (.int (3 : Int32))])) _
          refine XS.isub X0.here hx rfl (hb hby d9_5) rfl ?_
          show Steps p.tables e below (s₁.setTop (mkF m 6 #[.val (.ref a1), .val (.int (0 : Int32)), .val (.int (3 : Int32)), .val (.int p4), .val (.int (0 : Int32)), .unset, .unset, .unset] [(.int ((3 : Int32) - (1 : Int32)))])) _
          rw [show ((3 : Int32) - (1 : Int32)) = (2 : Int32) from by decide]
          show Steps p.tables e below (s₁.setTop (mkF m 6 #[.val (.ref a1), .val (.int (0 : Int32)), .val (.int (3 : Int32)), .val (.int p4), .val (.int (0 : Int32)), .unset, .unset, .unset] [(.int (2 : Int32))])) _
          refine XS.istore X0.here hx rfl (hb hby d9_6) rfl (l' := #[.val (.ref a1), .val (.int (0 : Int32)), .val (.int (3 : Int32)), .val (.int p4), .val (.int (0 : Int32)), .val (.int (2 : Int32)), .unset, .unset]) rfl ?_
          show Steps p.tables e below (s₁.setTop (mkF m 8 #[.val (.ref a1), .val (.int (0 : Int32)), .val (.int (3 : Int32)), .val (.int p4), .val (.int (0 : Int32)), .val (.int (2 : Int32)), .unset, .unset] [])) _
          refine XS.iload X0.here hx rfl (hb hby d9_8) rfl ?_
          show Steps p.tables e below (s₁.setTop (mkF m 10 #[.val (.ref a1), .val (.int (0 : Int32)), .val (.int (3 : Int32)), .val (.int p4), .val (.int (0 : Int32)), .val (.int (2 : Int32)), .unset, .unset] [(.int (0 : Int32))])) _
          refine XS.iload X0.here hx rfl (hb hby d9_10) rfl ?_
          show Steps p.tables e below (s₁.setTop (mkF m 12 #[.val (.ref a1), .val (.int (0 : Int32)), .val (.int (3 : Int32)), .val (.int p4), .val (.int (0 : Int32)), .val (.int (2 : Int32)), .unset, .unset] [(.int (2 : Int32)), (.int (0 : Int32))])) _
          refine XS.icmpNo X0.here hx rfl (hb hby d9_12) rfl (flt hc12).2.2.1 ?_
          show Steps p.tables e below (s₁.setTop (mkF m 15 #[.val (.ref a1), .val (.int (0 : Int32)), .val (.int (3 : Int32)), .val (.int p4), .val (.int (0 : Int32)), .val (.int (2 : Int32)), .unset, .unset] [])) _
          refine XS.iload X0.here hx rfl (hb hby d9_15) rfl ?_
          show Steps p.tables e below (s₁.setTop (mkF m 17 #[.val (.ref a1), .val (.int (0 : Int32)), .val (.int (3 : Int32)), .val (.int p4), .val (.int (0 : Int32)), .val (.int (2 : Int32)), .unset, .unset] [(.int (0 : Int32))])) _
          refine XS.iload X0.here hx rfl (hb hby d9_17) rfl ?_
          show Steps p.tables e below (s₁.setTop (mkF m 19 #[.val (.ref a1), .val (.int (0 : Int32)), .val (.int (3 : Int32)), .val (.int p4), .val (.int (0 : Int32)), .val (.int (2 : Int32)), .unset, .unset] [(.int (2 : Int32)), (.int (0 : Int32))])) _
          refine XS.iadd X0.here hx rfl (hb hby d9_19) rfl ?_
          show Steps p.tables e below (s₁.setTop (mkF m 20 #[.val (.ref a1), .val (.int (0 : Int32)), .val (.int (3 : Int32)), .val (.int p4), .val (.int (0 : Int32)), .val (.int (2 : Int32)), .unset, .unset] [(.int ((0 : Int32) + (2 : Int32)))])) _
          rw [show ((0 : Int32) + (2 : Int32)) = (2 : Int32) from by decide]
          show Steps p.tables e below (s₁.setTop (mkF m 20 #[.val (.ref a1), .val (.int (0 : Int32)), .val (.int (3 : Int32)), .val (.int p4), .val (.int (0 : Int32)), .val (.int (2 : Int32)), .unset, .unset] [(.int (2 : Int32))])) _
          refine XS.iconst X0.here hx rfl (hb hby d9_20) ?_
          show Steps p.tables e below (s₁.setTop (mkF m 21 #[.val (.ref a1), .val (.int (0 : Int32)), .val (.int (3 : Int32)), .val (.int p4), .val (.int (0 : Int32)), .val (.int (2 : Int32)), .unset, .unset] [(.int (1 : Int32)), (.int (2 : Int32))])) _
          refine XS.iushr X0.here hx rfl (hb hby d9_21) rfl ?_
          show Steps p.tables e below (s₁.setTop (mkF m 22 #[.val (.ref a1), .val (.int (0 : Int32)), .val (.int (3 : Int32)), .val (.int p4), .val (.int (0 : Int32)), .val (.int (2 : Int32)), .unset, .unset] [(.int (((2 : Int32).toUInt32 >>> ((1 : Int32) &&& 31).toUInt32).toInt32))])) _
          rw [show (((2 : Int32).toUInt32 >>> ((1 : Int32) &&& 31).toUInt32).toInt32) = (1 : Int32) from by decide]
          show Steps p.tables e below (s₁.setTop (mkF m 22 #[.val (.ref a1), .val (.int (0 : Int32)), .val (.int (3 : Int32)), .val (.int p4), .val (.int (0 : Int32)), .val (.int (2 : Int32)), .unset, .unset] [(.int (1 : Int32))])) _
          refine XS.istore X0.here hx rfl (hb hby d9_22) rfl (l' := #[.val (.ref a1), .val (.int (0 : Int32)), .val (.int (3 : Int32)), .val (.int p4), .val (.int (0 : Int32)), .val (.int (2 : Int32)), .val (.int (1 : Int32)), .unset]) rfl ?_
          show Steps p.tables e below (s₁.setTop (mkF m 24 #[.val (.ref a1), .val (.int (0 : Int32)), .val (.int (3 : Int32)), .val (.int p4), .val (.int (0 : Int32)), .val (.int (2 : Int32)), .val (.int (1 : Int32)), .unset] [])) _
          refine XS.aloadN X0.here hx rfl (hb hby d9_24) rfl rfl ?_
          show Steps p.tables e below (s₁.setTop (mkF m 25 #[.val (.ref a1), .val (.int (0 : Int32)), .val (.int (3 : Int32)), .val (.int p4), .val (.int (0 : Int32)), .val (.int (2 : Int32)), .val (.int (1 : Int32)), .unset] [(.ref a1)])) _
          refine XS.iload X0.here hx rfl (hb hby d9_25) rfl ?_
          show Steps p.tables e below (s₁.setTop (mkF m 27 #[.val (.ref a1), .val (.int (0 : Int32)), .val (.int (3 : Int32)), .val (.int p4), .val (.int (0 : Int32)), .val (.int (2 : Int32)), .val (.int (1 : Int32)), .unset] [(.int (1 : Int32)), (.ref a1)])) _
          refine X0.iaload hx (j := (1 : Int32)) (v := (.int (1 : Int32))) (by rw [e0]; exact Ar35.1) (State.isArrayOf_alike hZ.alike Ar35.2.1) Ar35.2.2 hin35 hat35 (g := (mkF m 27 #[.val (.ref a1), .val (.int (0 : Int32)), .val (.int (3 : Int32)), .val (.int p4), .val (.int (0 : Int32)), .val (.int (2 : Int32)), .val (.int (1 : Int32)), .unset] [(.int (1 : Int32)), (.ref a1)])) rfl rfl (hb hby d9_27) _ ?_
          show Steps p.tables e below (s₁.setTop (mkF m 28 #[.val (.ref a1), .val (.int (0 : Int32)), .val (.int (3 : Int32)), .val (.int p4), .val (.int (0 : Int32)), .val (.int (2 : Int32)), .val (.int (1 : Int32)), .unset] [(.int (1 : Int32))])) _
          refine XS.istore X0.here hx rfl (hb hby d9_28) rfl (l' := #[.val (.ref a1), .val (.int (0 : Int32)), .val (.int (3 : Int32)), .val (.int p4), .val (.int (0 : Int32)), .val (.int (2 : Int32)), .val (.int (1 : Int32)), .val (.int (1 : Int32))]) rfl ?_
          show Steps p.tables e below (s₁.setTop (mkF m 30 #[.val (.ref a1), .val (.int (0 : Int32)), .val (.int (3 : Int32)), .val (.int p4), .val (.int (0 : Int32)), .val (.int (2 : Int32)), .val (.int (1 : Int32)), .val (.int (1 : Int32))] [])) _
          refine XS.iload X0.here hx rfl (hb hby d9_30) rfl ?_
          show Steps p.tables e below (s₁.setTop (mkF m 32 #[.val (.ref a1), .val (.int (0 : Int32)), .val (.int (3 : Int32)), .val (.int p4), .val (.int (0 : Int32)), .val (.int (2 : Int32)), .val (.int (1 : Int32)), .val (.int (1 : Int32))] [(.int (1 : Int32))])) _
          refine XS.iloadN X0.here hx rfl (hb hby d9_32) rfl ?_
          show Steps p.tables e below (s₁.setTop (mkF m 33 #[.val (.ref a1), .val (.int (0 : Int32)), .val (.int (3 : Int32)), .val (.int p4), .val (.int (0 : Int32)), .val (.int (2 : Int32)), .val (.int (1 : Int32)), .val (.int (1 : Int32))] [(.int p4), (.int (1 : Int32))])) _
          refine XS.icmpNo X0.here hx rfl (hb hby d9_33) rfl (tlt hc33).2.1 ?_
          show Steps p.tables e below (s₁.setTop (mkF m 36 #[.val (.ref a1), .val (.int (0 : Int32)), .val (.int (3 : Int32)), .val (.int p4), .val (.int (0 : Int32)), .val (.int (2 : Int32)), .val (.int (1 : Int32)), .val (.int (1 : Int32))] [])) _
          refine XS.iload X0.here hx rfl (hb hby d9_36) rfl ?_
          show Steps p.tables e below (s₁.setTop (mkF m 38 #[.val (.ref a1), .val (.int (0 : Int32)), .val (.int (3 : Int32)), .val (.int p4), .val (.int (0 : Int32)), .val (.int (2 : Int32)), .val (.int (1 : Int32)), .val (.int (1 : Int32))] [(.int (1 : Int32))])) _
          refine XS.iconst X0.here hx rfl (hb hby d9_38) ?_
          show Steps p.tables e below (s₁.setTop (mkF m 39 #[.val (.ref a1), .val (.int (0 : Int32)), .val (.int (3 : Int32)), .val (.int p4), .val (.int (0 : Int32)), .val (.int (2 : Int32)), .val (.int (1 : Int32)), .val (.int (1 : Int32))] [(.int (1 : Int32)), (.int (1 : Int32))])) _
          refine XS.iadd X0.here hx rfl (hb hby d9_39) rfl ?_
          show Steps p.tables e below (s₁.setTop (mkF m 40 #[.val (.ref a1), .val (.int (0 : Int32)), .val (.int (3 : Int32)), .val (.int p4), .val (.int (0 : Int32)), .val (.int (2 : Int32)), .val (.int (1 : Int32)), .val (.int (1 : Int32))] [(.int ((1 : Int32) + (1 : Int32)))])) _
          rw [show ((1 : Int32) + (1 : Int32)) = (2 : Int32) from by decide]
          show Steps p.tables e below (s₁.setTop (mkF m 40 #[.val (.ref a1), .val (.int (0 : Int32)), .val (.int (3 : Int32)), .val (.int p4), .val (.int (0 : Int32)), .val (.int (2 : Int32)), .val (.int (1 : Int32)), .val (.int (1 : Int32))] [(.int (2 : Int32))])) _
          refine XS.istore X0.here hx rfl (hb hby d9_40) rfl (l' := #[.val (.ref a1), .val (.int (0 : Int32)), .val (.int (3 : Int32)), .val (.int p4), .val (.int (2 : Int32)), .val (.int (2 : Int32)), .val (.int (1 : Int32)), .val (.int (1 : Int32))]) rfl ?_
          show Steps p.tables e below (s₁.setTop (mkF m 42 #[.val (.ref a1), .val (.int (0 : Int32)), .val (.int (3 : Int32)), .val (.int p4), .val (.int (2 : Int32)), .val (.int (2 : Int32)), .val (.int (1 : Int32)), .val (.int (1 : Int32))] [])) _
          refine XS.goto X0.here hx rfl (pc0 := 42) (pc' := 63) rfl (hb hby d9_42) (by decide) (by decide) ?_
          show Steps p.tables e below (s₁.setTop (mkF m 63 #[.val (.ref a1), .val (.int (0 : Int32)), .val (.int (3 : Int32)), .val (.int p4), .val (.int (2 : Int32)), .val (.int (2 : Int32)), .val (.int (1 : Int32)), .val (.int (1 : Int32))] [])) _
          refine XS.goto X0.here hx rfl (pc0 := 63) (pc' := 8) rfl (hb hby d9_63) (by decide) (by decide) ?_
          show Steps p.tables e below (s₁.setTop (mkF m 8 #[.val (.ref a1), .val (.int (0 : Int32)), .val (.int (3 : Int32)), .val (.int p4), .val (.int (2 : Int32)), .val (.int (2 : Int32)), .val (.int (1 : Int32)), .val (.int (1 : Int32))] [])) _
          refine XS.iload X0.here hx rfl (hb hby d9_8) rfl ?_
          show Steps p.tables e below (s₁.setTop (mkF m 10 #[.val (.ref a1), .val (.int (0 : Int32)), .val (.int (3 : Int32)), .val (.int p4), .val (.int (2 : Int32)), .val (.int (2 : Int32)), .val (.int (1 : Int32)), .val (.int (1 : Int32))] [(.int (2 : Int32))])) _
          refine XS.iload X0.here hx rfl (hb hby d9_10) rfl ?_
          show Steps p.tables e below (s₁.setTop (mkF m 12 #[.val (.ref a1), .val (.int (0 : Int32)), .val (.int (3 : Int32)), .val (.int p4), .val (.int (2 : Int32)), .val (.int (2 : Int32)), .val (.int (1 : Int32)), .val (.int (1 : Int32))] [(.int (2 : Int32)), (.int (2 : Int32))])) _
          refine XS.icmpNo X0.here hx rfl (hb hby d9_12) rfl (flt hc12x).2.2.1 ?_
          show Steps p.tables e below (s₁.setTop (mkF m 15 #[.val (.ref a1), .val (.int (0 : Int32)), .val (.int (3 : Int32)), .val (.int p4), .val (.int (2 : Int32)), .val (.int (2 : Int32)), .val (.int (1 : Int32)), .val (.int (1 : Int32))] [])) _
          refine XS.iload X0.here hx rfl (hb hby d9_15) rfl ?_
          show Steps p.tables e below (s₁.setTop (mkF m 17 #[.val (.ref a1), .val (.int (0 : Int32)), .val (.int (3 : Int32)), .val (.int p4), .val (.int (2 : Int32)), .val (.int (2 : Int32)), .val (.int (1 : Int32)), .val (.int (1 : Int32))] [(.int (2 : Int32))])) _
          refine XS.iload X0.here hx rfl (hb hby d9_17) rfl ?_
          show Steps p.tables e below (s₁.setTop (mkF m 19 #[.val (.ref a1), .val (.int (0 : Int32)), .val (.int (3 : Int32)), .val (.int p4), .val (.int (2 : Int32)), .val (.int (2 : Int32)), .val (.int (1 : Int32)), .val (.int (1 : Int32))] [(.int (2 : Int32)), (.int (2 : Int32))])) _
          refine XS.iadd X0.here hx rfl (hb hby d9_19) rfl ?_
          show Steps p.tables e below (s₁.setTop (mkF m 20 #[.val (.ref a1), .val (.int (0 : Int32)), .val (.int (3 : Int32)), .val (.int p4), .val (.int (2 : Int32)), .val (.int (2 : Int32)), .val (.int (1 : Int32)), .val (.int (1 : Int32))] [(.int ((2 : Int32) + (2 : Int32)))])) _
          rw [show ((2 : Int32) + (2 : Int32)) = (4 : Int32) from by decide]
          show Steps p.tables e below (s₁.setTop (mkF m 20 #[.val (.ref a1), .val (.int (0 : Int32)), .val (.int (3 : Int32)), .val (.int p4), .val (.int (2 : Int32)), .val (.int (2 : Int32)), .val (.int (1 : Int32)), .val (.int (1 : Int32))] [(.int (4 : Int32))])) _
          refine XS.iconst X0.here hx rfl (hb hby d9_20) ?_
          show Steps p.tables e below (s₁.setTop (mkF m 21 #[.val (.ref a1), .val (.int (0 : Int32)), .val (.int (3 : Int32)), .val (.int p4), .val (.int (2 : Int32)), .val (.int (2 : Int32)), .val (.int (1 : Int32)), .val (.int (1 : Int32))] [(.int (1 : Int32)), (.int (4 : Int32))])) _
          refine XS.iushr X0.here hx rfl (hb hby d9_21) rfl ?_
          show Steps p.tables e below (s₁.setTop (mkF m 22 #[.val (.ref a1), .val (.int (0 : Int32)), .val (.int (3 : Int32)), .val (.int p4), .val (.int (2 : Int32)), .val (.int (2 : Int32)), .val (.int (1 : Int32)), .val (.int (1 : Int32))] [(.int (((4 : Int32).toUInt32 >>> ((1 : Int32) &&& 31).toUInt32).toInt32))])) _
          rw [show (((4 : Int32).toUInt32 >>> ((1 : Int32) &&& 31).toUInt32).toInt32) = (2 : Int32) from by decide]
          show Steps p.tables e below (s₁.setTop (mkF m 22 #[.val (.ref a1), .val (.int (0 : Int32)), .val (.int (3 : Int32)), .val (.int p4), .val (.int (2 : Int32)), .val (.int (2 : Int32)), .val (.int (1 : Int32)), .val (.int (1 : Int32))] [(.int (2 : Int32))])) _
          refine XS.istore X0.here hx rfl (hb hby d9_22) rfl (l' := #[.val (.ref a1), .val (.int (0 : Int32)), .val (.int (3 : Int32)), .val (.int p4), .val (.int (2 : Int32)), .val (.int (2 : Int32)), .val (.int (2 : Int32)), .val (.int (1 : Int32))]) rfl ?_
          show Steps p.tables e below (s₁.setTop (mkF m 24 #[.val (.ref a1), .val (.int (0 : Int32)), .val (.int (3 : Int32)), .val (.int p4), .val (.int (2 : Int32)), .val (.int (2 : Int32)), .val (.int (2 : Int32)), .val (.int (1 : Int32))] [])) _
          refine XS.aloadN X0.here hx rfl (hb hby d9_24) rfl rfl ?_
          show Steps p.tables e below (s₁.setTop (mkF m 25 #[.val (.ref a1), .val (.int (0 : Int32)), .val (.int (3 : Int32)), .val (.int p4), .val (.int (2 : Int32)), .val (.int (2 : Int32)), .val (.int (2 : Int32)), .val (.int (1 : Int32))] [(.ref a1)])) _
          refine XS.iload X0.here hx rfl (hb hby d9_25) rfl ?_
          show Steps p.tables e below (s₁.setTop (mkF m 27 #[.val (.ref a1), .val (.int (0 : Int32)), .val (.int (3 : Int32)), .val (.int p4), .val (.int (2 : Int32)), .val (.int (2 : Int32)), .val (.int (2 : Int32)), .val (.int (1 : Int32))] [(.int (2 : Int32)), (.ref a1)])) _
          refine X0.iaload hx (j := (2 : Int32)) (v := (.int (2 : Int32))) (by rw [e0]; exact Ar36.1) (State.isArrayOf_alike hZ.alike Ar36.2.1) Ar36.2.2 hin36 hat36 (g := (mkF m 27 #[.val (.ref a1), .val (.int (0 : Int32)), .val (.int (3 : Int32)), .val (.int p4), .val (.int (2 : Int32)), .val (.int (2 : Int32)), .val (.int (2 : Int32)), .val (.int (1 : Int32))] [(.int (2 : Int32)), (.ref a1)])) rfl rfl (hb hby d9_27) _ ?_
          show Steps p.tables e below (s₁.setTop (mkF m 28 #[.val (.ref a1), .val (.int (0 : Int32)), .val (.int (3 : Int32)), .val (.int p4), .val (.int (2 : Int32)), .val (.int (2 : Int32)), .val (.int (2 : Int32)), .val (.int (1 : Int32))] [(.int (2 : Int32))])) _
          refine XS.istore X0.here hx rfl (hb hby d9_28) rfl (l' := #[.val (.ref a1), .val (.int (0 : Int32)), .val (.int (3 : Int32)), .val (.int p4), .val (.int (2 : Int32)), .val (.int (2 : Int32)), .val (.int (2 : Int32)), .val (.int (2 : Int32))]) rfl ?_
          show Steps p.tables e below (s₁.setTop (mkF m 30 #[.val (.ref a1), .val (.int (0 : Int32)), .val (.int (3 : Int32)), .val (.int p4), .val (.int (2 : Int32)), .val (.int (2 : Int32)), .val (.int (2 : Int32)), .val (.int (2 : Int32))] [])) _
          refine XS.iload X0.here hx rfl (hb hby d9_30) rfl ?_
          show Steps p.tables e below (s₁.setTop (mkF m 32 #[.val (.ref a1), .val (.int (0 : Int32)), .val (.int (3 : Int32)), .val (.int p4), .val (.int (2 : Int32)), .val (.int (2 : Int32)), .val (.int (2 : Int32)), .val (.int (2 : Int32))] [(.int (2 : Int32))])) _
          refine XS.iloadN X0.here hx rfl (hb hby d9_32) rfl ?_
          show Steps p.tables e below (s₁.setTop (mkF m 33 #[.val (.ref a1), .val (.int (0 : Int32)), .val (.int (3 : Int32)), .val (.int p4), .val (.int (2 : Int32)), .val (.int (2 : Int32)), .val (.int (2 : Int32)), .val (.int (2 : Int32))] [(.int p4), (.int (2 : Int32))])) _
          refine XS.icmpYes X0.here hx rfl (pc0 := 33) (pc' := 45) rfl (hb hby d9_33) rfl (flt hc33x).2.1 (by decide) (by decide) ?_
          show Steps p.tables e below (s₁.setTop (mkF m 45 #[.val (.ref a1), .val (.int (0 : Int32)), .val (.int (3 : Int32)), .val (.int p4), .val (.int (2 : Int32)), .val (.int (2 : Int32)), .val (.int (2 : Int32)), .val (.int (2 : Int32))] [])) _
          refine XS.iload X0.here hx rfl (hb hby d9_45) rfl ?_
          show Steps p.tables e below (s₁.setTop (mkF m 47 #[.val (.ref a1), .val (.int (0 : Int32)), .val (.int (3 : Int32)), .val (.int p4), .val (.int (2 : Int32)), .val (.int (2 : Int32)), .val (.int (2 : Int32)), .val (.int (2 : Int32))] [(.int (2 : Int32))])) _
          refine XS.iloadN X0.here hx rfl (hb hby d9_47) rfl ?_
          show Steps p.tables e below (s₁.setTop (mkF m 48 #[.val (.ref a1), .val (.int (0 : Int32)), .val (.int (3 : Int32)), .val (.int p4), .val (.int (2 : Int32)), .val (.int (2 : Int32)), .val (.int (2 : Int32)), .val (.int (2 : Int32))] [(.int p4), (.int (2 : Int32))])) _
          refine XS.icmpYes X0.here hx rfl (pc0 := 48) (pc' := 60) rfl (hb hby d9_48) rfl (flt hc48).2.2.2 (by decide) (by decide) ?_
          show Steps p.tables e below (s₁.setTop (mkF m 60 #[.val (.ref a1), .val (.int (0 : Int32)), .val (.int (3 : Int32)), .val (.int p4), .val (.int (2 : Int32)), .val (.int (2 : Int32)), .val (.int (2 : Int32)), .val (.int (2 : Int32))] [])) _
          refine XS.iload X0.here hx rfl (hb hby d9_60) rfl ?_
          show Steps p.tables e below (s₁.setTop (mkF m 62 #[.val (.ref a1), .val (.int (0 : Int32)), .val (.int (3 : Int32)), .val (.int p4), .val (.int (2 : Int32)), .val (.int (2 : Int32)), .val (.int (2 : Int32)), .val (.int (2 : Int32))] [(.int (2 : Int32))])) _
          exact retI X0 hx Bd.returns (hb hby d9_62) hr
        · show Q_9 Z a1 p4 h0 n0 _ s₁.heap _
          rw [e0]
          exact ⟨by simp [own_bs, hc12, hc33, hc12x, hc33x, hc48], N0, rfl⟩
  · by_cases hc48 : p4 < (1 : Int32)
    · have hc12x : ¬ ((0 : Int32) < (0 : Int32)) := by decide
      obtain ⟨cl37, Ar37, -, S37, M37, H37, G37⟩ := id (V_1)
      have hin37 : ¬ ((0 : Int32) < 0 ∨ cl37.slots.size ≤ ((0 : Int32)).toNatClampNeg) := inb_of S37 ⟨by decide, by decide⟩
      have hat37 : cl37.slots[((0 : Int32)).toNatClampNeg]? = some (.int (0 : Int32)) := Has.at H37 hin37 rfl
      by_cases hc33x : (0 : Int32) < p4
      · have hc12xx : (0 : Int32) < (1 : Int32) := by decide
        obtain ⟨fs, hr, hrun, hended, hW, hsame⟩ := X0.leave (v := some (.int (-2 : Int32))) (fun h => by rw [Bd.returns] at h; cases h)
        refine ⟨_, _, pre0 _ ?_, hrun, hended, _, _, rfl, ?_, ⟨_, rfl⟩, hW, hsame.mono (by decide) (by decide)⟩
        · show Steps p.tables e below (s₁.setTop (mkF m 0 #[.val (.ref a1), .val (.int (0 : Int32)), .val (.int (3 : Int32)), .val (.int p4), .unset, .unset, .unset, .unset] [])) _
          refine XS.iloadN X0.here hx rfl (hb hby d9_0) rfl ?_
          show Steps p.tables e below (s₁.setTop (mkF m 1 #[.val (.ref a1), .val (.int (0 : Int32)), .val (.int (3 : Int32)), .val (.int p4), .unset, .unset, .unset, .unset] [(.int (0 : Int32))])) _
          refine XS.istore X0.here hx rfl (hb hby d9_1) rfl (l' := #[.val (.ref a1), .val (.int (0 : Int32)), .val (.int (3 : Int32)), .val (.int p4), .val (.int (0 : Int32)), .unset, .unset, .unset]) rfl ?_
          show Steps p.tables e below (s₁.setTop (mkF m 3 #[.val (.ref a1), .val (.int (0 : Int32)), .val (.int (3 : Int32)), .val (.int p4), .val (.int (0 : Int32)), .unset, .unset, .unset] [])) _
          refine XS.iloadN X0.here hx rfl (hb hby d9_3) rfl ?_
          show Steps p.tables e below (s₁.setTop (mkF m 4 #[.val (.ref a1), .val (.int (0 : Int32)), .val (.int (3 : Int32)), .val (.int p4), .val (.int (0 : Int32)), .unset, .unset, .unset] [(.int (3 : Int32))])) _
          refine XS.iconst X0.here hx rfl (hb hby d9_4) ?_
          show Steps p.tables e below (s₁.setTop (mkF m 5 #[.val (.ref a1), .val (.int (0 : Int32)), .val (.int (3 : Int32)), .val (.int p4), .val (.int (0 : Int32)), .unset, .unset, .unset] [(.int (1 : Int32)), (.int (3 : Int32))])) _
          refine XS.isub X0.here hx rfl (hb hby d9_5) rfl ?_
          show Steps p.tables e below (s₁.setTop (mkF m 6 #[.val (.ref a1), .val (.int (0 : Int32)), .val (.int (3 : Int32)), .val (.int p4), .val (.int (0 : Int32)), .unset, .unset, .unset] [(.int ((3 : Int32) - (1 : Int32)))])) _
          rw [show ((3 : Int32) - (1 : Int32)) = (2 : Int32) from by decide]
          show Steps p.tables e below (s₁.setTop (mkF m 6 #[.val (.ref a1), .val (.int (0 : Int32)), .val (.int (3 : Int32)), .val (.int p4), .val (.int (0 : Int32)), .unset, .unset, .unset] [(.int (2 : Int32))])) _
          refine XS.istore X0.here hx rfl (hb hby d9_6) rfl (l' := #[.val (.ref a1), .val (.int (0 : Int32)), .val (.int (3 : Int32)), .val (.int p4), .val (.int (0 : Int32)), .val (.int (2 : Int32)), .unset, .unset]) rfl ?_
          show Steps p.tables e below (s₁.setTop (mkF m 8 #[.val (.ref a1), .val (.int (0 : Int32)), .val (.int (3 : Int32)), .val (.int p4), .val (.int (0 : Int32)), .val (.int (2 : Int32)), .unset, .unset] [])) _
          refine XS.iload X0.here hx rfl (hb hby d9_8) rfl ?_
          show Steps p.tables e below (s₁.setTop (mkF m 10 #[.val (.ref a1), .val (.int (0 : Int32)), .val (.int (3 : Int32)), .val (.int p4), .val (.int (0 : Int32)), .val (.int (2 : Int32)), .unset, .unset] [(.int (0 : Int32))])) _
          refine XS.iload X0.here hx rfl (hb hby d9_10) rfl ?_
          show Steps p.tables e below (s₁.setTop (mkF m 12 #[.val (.ref a1), .val (.int (0 : Int32)), .val (.int (3 : Int32)), .val (.int p4), .val (.int (0 : Int32)), .val (.int (2 : Int32)), .unset, .unset] [(.int (2 : Int32)), (.int (0 : Int32))])) _
          refine XS.icmpNo X0.here hx rfl (hb hby d9_12) rfl (flt hc12).2.2.1 ?_
          show Steps p.tables e below (s₁.setTop (mkF m 15 #[.val (.ref a1), .val (.int (0 : Int32)), .val (.int (3 : Int32)), .val (.int p4), .val (.int (0 : Int32)), .val (.int (2 : Int32)), .unset, .unset] [])) _
          refine XS.iload X0.here hx rfl (hb hby d9_15) rfl ?_
          show Steps p.tables e below (s₁.setTop (mkF m 17 #[.val (.ref a1), .val (.int (0 : Int32)), .val (.int (3 : Int32)), .val (.int p4), .val (.int (0 : Int32)), .val (.int (2 : Int32)), .unset, .unset] [(.int (0 : Int32))])) _
          refine XS.iload X0.here hx rfl (hb hby d9_17) rfl ?_
          show Steps p.tables e below (s₁.setTop (mkF m 19 #[.val (.ref a1), .val (.int (0 : Int32)), .val (.int (3 : Int32)), .val (.int p4), .val (.int (0 : Int32)), .val (.int (2 : Int32)), .unset, .unset] [(.int (2 : Int32)), (.int (0 : Int32))])) _
          refine XS.iadd X0.here hx rfl (hb hby d9_19) rfl ?_
          show Steps p.tables e below (s₁.setTop (mkF m 20 #[.val (.ref a1), .val (.int (0 : Int32)), .val (.int (3 : Int32)), .val (.int p4), .val (.int (0 : Int32)), .val (.int (2 : Int32)), .unset, .unset] [(.int ((0 : Int32) + (2 : Int32)))])) _
          rw [show ((0 : Int32) + (2 : Int32)) = (2 : Int32) from by decide]
          show Steps p.tables e below (s₁.setTop (mkF m 20 #[.val (.ref a1), .val (.int (0 : Int32)), .val (.int (3 : Int32)), .val (.int p4), .val (.int (0 : Int32)), .val (.int (2 : Int32)), .unset, .unset] [(.int (2 : Int32))])) _
          refine XS.iconst X0.here hx rfl (hb hby d9_20) ?_
          show Steps p.tables e below (s₁.setTop (mkF m 21 #[.val (.ref a1), .val (.int (0 : Int32)), .val (.int (3 : Int32)), .val (.int p4), .val (.int (0 : Int32)), .val (.int (2 : Int32)), .unset, .unset] [(.int (1 : Int32)), (.int (2 : Int32))])) _
          refine XS.iushr X0.here hx rfl (hb hby d9_21) rfl ?_
          show Steps p.tables e below (s₁.setTop (mkF m 22 #[.val (.ref a1), .val (.int (0 : Int32)), .val (.int (3 : Int32)), .val (.int p4), .val (.int (0 : Int32)), .val (.int (2 : Int32)), .unset, .unset] [(.int (((2 : Int32).toUInt32 >>> ((1 : Int32) &&& 31).toUInt32).toInt32))])) _
          rw [show (((2 : Int32).toUInt32 >>> ((1 : Int32) &&& 31).toUInt32).toInt32) = (1 : Int32) from by decide]
          show Steps p.tables e below (s₁.setTop (mkF m 22 #[.val (.ref a1), .val (.int (0 : Int32)), .val (.int (3 : Int32)), .val (.int p4), .val (.int (0 : Int32)), .val (.int (2 : Int32)), .unset, .unset] [(.int (1 : Int32))])) _
          refine XS.istore X0.here hx rfl (hb hby d9_22) rfl (l' := #[.val (.ref a1), .val (.int (0 : Int32)), .val (.int (3 : Int32)), .val (.int p4), .val (.int (0 : Int32)), .val (.int (2 : Int32)), .val (.int (1 : Int32)), .unset]) rfl ?_
          show Steps p.tables e below (s₁.setTop (mkF m 24 #[.val (.ref a1), .val (.int (0 : Int32)), .val (.int (3 : Int32)), .val (.int p4), .val (.int (0 : Int32)), .val (.int (2 : Int32)), .val (.int (1 : Int32)), .unset] [])) _
          refine XS.aloadN X0.here hx rfl (hb hby d9_24) rfl rfl ?_
          show Steps p.tables e below (s₁.setTop (mkF m 25 #[.val (.ref a1), .val (.int (0 : Int32)), .val (.int (3 : Int32)), .val (.int p4), .val (.int (0 : Int32)), .val (.int (2 : Int32)), .val (.int (1 : Int32)), .unset] [(.ref a1)])) _
          refine XS.iload X0.here hx rfl (hb hby d9_25) rfl ?_
          show Steps p.tables e below (s₁.setTop (mkF m 27 #[.val (.ref a1), .val (.int (0 : Int32)), .val (.int (3 : Int32)), .val (.int p4), .val (.int (0 : Int32)), .val (.int (2 : Int32)), .val (.int (1 : Int32)), .unset] [(.int (1 : Int32)), (.ref a1)])) _
          refine X0.iaload hx (j := (1 : Int32)) (v := (.int (1 : Int32))) (by rw [e0]; exact Ar35.1) (State.isArrayOf_alike hZ.alike Ar35.2.1) Ar35.2.2 hin35 hat35 (g := (mkF m 27 #[.val (.ref a1), .val (.int (0 : Int32)), .val (.int (3 : Int32)), .val (.int p4), .val (.int (0 : Int32)), .val (.int (2 : Int32)), .val (.int (1 : Int32)), .unset] [(.int (1 : Int32)), (.ref a1)])) rfl rfl (hb hby d9_27) _ ?_
          show Steps p.tables e below (s₁.setTop (mkF m 28 #[.val (.ref a1), .val (.int (0 : Int32)), .val (.int (3 : Int32)), .val (.int p4), .val (.int (0 : Int32)), .val (.int (2 : Int32)), .val (.int (1 : Int32)), .unset] [(.int (1 : Int32))])) _
          refine XS.istore X0.here hx rfl (hb hby d9_28) rfl (l' := #[.val (.ref a1), .val (.int (0 : Int32)), .val (.int (3 : Int32)), .val (.int p4), .val (.int (0 : Int32)), .val (.int (2 : Int32)), .val (.int (1 : Int32)), .val (.int (1 : Int32))]) rfl ?_
          show Steps p.tables e below (s₁.setTop (mkF m 30 #[.val (.ref a1), .val (.int (0 : Int32)), .val (.int (3 : Int32)), .val (.int p4), .val (.int (0 : Int32)), .val (.int (2 : Int32)), .val (.int (1 : Int32)), .val (.int (1 : Int32))] [])) _
          refine XS.iload X0.here hx rfl (hb hby d9_30) rfl ?_
          show Steps p.tables e below (s₁.setTop (mkF m 32 #[.val (.ref a1), .val (.int (0 : Int32)), .val (.int (3 : Int32)), .val (.int p4), .val (.int (0 : Int32)), .val (.int (2 : Int32)), .val (.int (1 : Int32)), .val (.int (1 : Int32))] [(.int (1 : Int32))])) _
          refine XS.iloadN X0.here hx rfl (hb hby d9_32) rfl ?_
          show Steps p.tables e below (s₁.setTop (mkF m 33 #[.val (.ref a1), .val (.int (0 : Int32)), .val (.int (3 : Int32)), .val (.int p4), .val (.int (0 : Int32)), .val (.int (2 : Int32)), .val (.int (1 : Int32)), .val (.int (1 : Int32))] [(.int p4), (.int (1 : Int32))])) _
          refine XS.icmpYes X0.here hx rfl (pc0 := 33) (pc' := 45) rfl (hb hby d9_33) rfl (flt hc33).2.1 (by decide) (by decide) ?_
          show Steps p.tables e below (s₁.setTop (mkF m 45 #[.val (.ref a1), .val (.int (0 : Int32)), .val (.int (3 : Int32)), .val (.int p4), .val (.int (0 : Int32)), .val (.int (2 : Int32)), .val (.int (1 : Int32)), .val (.int (1 : Int32))] [])) _
          refine XS.iload X0.here hx rfl (hb hby d9_45) rfl ?_
          show Steps p.tables e below (s₁.setTop (mkF m 47 #[.val (.ref a1), .val (.int (0 : Int32)), .val (.int (3 : Int32)), .val (.int p4), .val (.int (0 : Int32)), .val (.int (2 : Int32)), .val (.int (1 : Int32)), .val (.int (1 : Int32))] [(.int (1 : Int32))])) _
          refine XS.iloadN X0.here hx rfl (hb hby d9_47) rfl ?_
          show Steps p.tables e below (s₁.setTop (mkF m 48 #[.val (.ref a1), .val (.int (0 : Int32)), .val (.int (3 : Int32)), .val (.int p4), .val (.int (0 : Int32)), .val (.int (2 : Int32)), .val (.int (1 : Int32)), .val (.int (1 : Int32))] [(.int p4), (.int (1 : Int32))])) _
          refine XS.icmpNo X0.here hx rfl (hb hby d9_48) rfl (tlt hc48).2.2.2 ?_
          show Steps p.tables e below (s₁.setTop (mkF m 51 #[.val (.ref a1), .val (.int (0 : Int32)), .val (.int (3 : Int32)), .val (.int p4), .val (.int (0 : Int32)), .val (.int (2 : Int32)), .val (.int (1 : Int32)), .val (.int (1 : Int32))] [])) _
          refine XS.iload X0.here hx rfl (hb hby d9_51) rfl ?_
          show Steps p.tables e below (s₁.setTop (mkF m 53 #[.val (.ref a1), .val (.int (0 : Int32)), .val (.int (3 : Int32)), .val (.int p4), .val (.int (0 : Int32)), .val (.int (2 : Int32)), .val (.int (1 : Int32)), .val (.int (1 : Int32))] [(.int (1 : Int32))])) _
          refine XS.iconst X0.here hx rfl (hb hby d9_53) ?_
          show Steps p.tables e below (s₁.setTop (mkF m 54 #[.val (.ref a1), .val (.int (0 : Int32)), .val (.int (3 : Int32)), .val (.int p4), .val (.int (0 : Int32)), .val (.int (2 : Int32)), .val (.int (1 : Int32)), .val (.int (1 : Int32))] [(.int (1 : Int32)), (.int (1 : Int32))])) _
          refine XS.isub X0.here hx rfl (hb hby d9_54) rfl ?_
          show Steps p.tables e below (s₁.setTop (mkF m 55 #[.val (.ref a1), .val (.int (0 : Int32)), .val (.int (3 : Int32)), .val (.int p4), .val (.int (0 : Int32)), .val (.int (2 : Int32)), .val (.int (1 : Int32)), .val (.int (1 : Int32))] [(.int ((1 : Int32) - (1 : Int32)))])) _
          rw [show ((1 : Int32) - (1 : Int32)) = (0 : Int32) from by decide]
          show Steps p.tables e below (s₁.setTop (mkF m 55 #[.val (.ref a1), .val (.int (0 : Int32)), .val (.int (3 : Int32)), .val (.int p4), .val (.int (0 : Int32)), .val (.int (2 : Int32)), .val (.int (1 : Int32)), .val (.int (1 : Int32))] [(.int (0 : Int32))])) _
          refine XS.istore X0.here hx rfl (hb hby d9_55) rfl (l' := #[.val (.ref a1), .val (.int (0 : Int32)), .val (.int (3 : Int32)), .val (.int p4), .val (.int (0 : Int32)), .val (.int (0 : Int32)), .val (.int (1 : Int32)), .val (.int (1 : Int32))]) rfl ?_
          show Steps p.tables e below (s₁.setTop (mkF m 57 #[.val (.ref a1), .val (.int (0 : Int32)), .val (.int (3 : Int32)), .val (.int p4), .val (.int (0 : Int32)), .val (.int (0 : Int32)), .val (.int (1 : Int32)), .val (.int (1 : Int32))] [])) _
          refine XS.goto X0.here hx rfl (pc0 := 57) (pc' := 63) rfl (hb hby d9_57) (by decide) (by decide) ?_
          show Steps p.tables e below (s₁.setTop (mkF m 63 #[.val (.ref a1), .val (.int (0 : Int32)), .val (.int (3 : Int32)), .val (.int p4), .val (.int (0 : Int32)), .val (.int (0 : Int32)), .val (.int (1 : Int32)), .val (.int (1 : Int32))] [])) _
          refine XS.goto X0.here hx rfl (pc0 := 63) (pc' := 8) rfl (hb hby d9_63) (by decide) (by decide) ?_
          show Steps p.tables e below (s₁.setTop (mkF m 8 #[.val (.ref a1), .val (.int (0 : Int32)), .val (.int (3 : Int32)), .val (.int p4), .val (.int (0 : Int32)), .val (.int (0 : Int32)), .val (.int (1 : Int32)), .val (.int (1 : Int32))] [])) _
          refine XS.iload X0.here hx rfl (hb hby d9_8) rfl ?_
          show Steps p.tables e below (s₁.setTop (mkF m 10 #[.val (.ref a1), .val (.int (0 : Int32)), .val (.int (3 : Int32)), .val (.int p4), .val (.int (0 : Int32)), .val (.int (0 : Int32)), .val (.int (1 : Int32)), .val (.int (1 : Int32))] [(.int (0 : Int32))])) _
          refine XS.iload X0.here hx rfl (hb hby d9_10) rfl ?_
          show Steps p.tables e below (s₁.setTop (mkF m 12 #[.val (.ref a1), .val (.int (0 : Int32)), .val (.int (3 : Int32)), .val (.int p4), .val (.int (0 : Int32)), .val (.int (0 : Int32)), .val (.int (1 : Int32)), .val (.int (1 : Int32))] [(.int (0 : Int32)), (.int (0 : Int32))])) _
          refine XS.icmpNo X0.here hx rfl (hb hby d9_12) rfl (flt hc12x).2.2.1 ?_
          show Steps p.tables e below (s₁.setTop (mkF m 15 #[.val (.ref a1), .val (.int (0 : Int32)), .val (.int (3 : Int32)), .val (.int p4), .val (.int (0 : Int32)), .val (.int (0 : Int32)), .val (.int (1 : Int32)), .val (.int (1 : Int32))] [])) _
          refine XS.iload X0.here hx rfl (hb hby d9_15) rfl ?_
          show Steps p.tables e below (s₁.setTop (mkF m 17 #[.val (.ref a1), .val (.int (0 : Int32)), .val (.int (3 : Int32)), .val (.int p4), .val (.int (0 : Int32)), .val (.int (0 : Int32)), .val (.int (1 : Int32)), .val (.int (1 : Int32))] [(.int (0 : Int32))])) _
          refine XS.iload X0.here hx rfl (hb hby d9_17) rfl ?_
          show Steps p.tables e below (s₁.setTop (mkF m 19 #[.val (.ref a1), .val (.int (0 : Int32)), .val (.int (3 : Int32)), .val (.int p4), .val (.int (0 : Int32)), .val (.int (0 : Int32)), .val (.int (1 : Int32)), .val (.int (1 : Int32))] [(.int (0 : Int32)), (.int (0 : Int32))])) _
          refine XS.iadd X0.here hx rfl (hb hby d9_19) rfl ?_
          show Steps p.tables e below (s₁.setTop (mkF m 20 #[.val (.ref a1), .val (.int (0 : Int32)), .val (.int (3 : Int32)), .val (.int p4), .val (.int (0 : Int32)), .val (.int (0 : Int32)), .val (.int (1 : Int32)), .val (.int (1 : Int32))] [(.int ((0 : Int32) + (0 : Int32)))])) _
          rw [show ((0 : Int32) + (0 : Int32)) = (0 : Int32) from by decide]
          show Steps p.tables e below (s₁.setTop (mkF m 20 #[.val (.ref a1), .val (.int (0 : Int32)), .val (.int (3 : Int32)), .val (.int p4), .val (.int (0 : Int32)), .val (.int (0 : Int32)), .val (.int (1 : Int32)), .val (.int (1 : Int32))] [(.int (0 : Int32))])) _
          refine XS.iconst X0.here hx rfl (hb hby d9_20) ?_
          show Steps p.tables e below (s₁.setTop (mkF m 21 #[.val (.ref a1), .val (.int (0 : Int32)), .val (.int (3 : Int32)), .val (.int p4), .val (.int (0 : Int32)), .val (.int (0 : Int32)), .val (.int (1 : Int32)), .val (.int (1 : Int32))] [(.int (1 : Int32)), (.int (0 : Int32))])) _
          refine XS.iushr X0.here hx rfl (hb hby d9_21) rfl ?_
          show Steps p.tables e below (s₁.setTop (mkF m 22 #[.val (.ref a1), .val (.int (0 : Int32)), .val (.int (3 : Int32)), .val (.int p4), .val (.int (0 : Int32)), .val (.int (0 : Int32)), .val (.int (1 : Int32)), .val (.int (1 : Int32))] [(.int (((0 : Int32).toUInt32 >>> ((1 : Int32) &&& 31).toUInt32).toInt32))])) _
          rw [show (((0 : Int32).toUInt32 >>> ((1 : Int32) &&& 31).toUInt32).toInt32) = (0 : Int32) from by decide]
          show Steps p.tables e below (s₁.setTop (mkF m 22 #[.val (.ref a1), .val (.int (0 : Int32)), .val (.int (3 : Int32)), .val (.int p4), .val (.int (0 : Int32)), .val (.int (0 : Int32)), .val (.int (1 : Int32)), .val (.int (1 : Int32))] [(.int (0 : Int32))])) _
          refine XS.istore X0.here hx rfl (hb hby d9_22) rfl (l' := #[.val (.ref a1), .val (.int (0 : Int32)), .val (.int (3 : Int32)), .val (.int p4), .val (.int (0 : Int32)), .val (.int (0 : Int32)), .val (.int (0 : Int32)), .val (.int (1 : Int32))]) rfl ?_
          show Steps p.tables e below (s₁.setTop (mkF m 24 #[.val (.ref a1), .val (.int (0 : Int32)), .val (.int (3 : Int32)), .val (.int p4), .val (.int (0 : Int32)), .val (.int (0 : Int32)), .val (.int (0 : Int32)), .val (.int (1 : Int32))] [])) _
          refine XS.aloadN X0.here hx rfl (hb hby d9_24) rfl rfl ?_
          show Steps p.tables e below (s₁.setTop (mkF m 25 #[.val (.ref a1), .val (.int (0 : Int32)), .val (.int (3 : Int32)), .val (.int p4), .val (.int (0 : Int32)), .val (.int (0 : Int32)), .val (.int (0 : Int32)), .val (.int (1 : Int32))] [(.ref a1)])) _
          refine XS.iload X0.here hx rfl (hb hby d9_25) rfl ?_
          show Steps p.tables e below (s₁.setTop (mkF m 27 #[.val (.ref a1), .val (.int (0 : Int32)), .val (.int (3 : Int32)), .val (.int p4), .val (.int (0 : Int32)), .val (.int (0 : Int32)), .val (.int (0 : Int32)), .val (.int (1 : Int32))] [(.int (0 : Int32)), (.ref a1)])) _
          refine X0.iaload hx (j := (0 : Int32)) (v := (.int (0 : Int32))) (by rw [e0]; exact Ar37.1) (State.isArrayOf_alike hZ.alike Ar37.2.1) Ar37.2.2 hin37 hat37 (g := (mkF m 27 #[.val (.ref a1), .val (.int (0 : Int32)), .val (.int (3 : Int32)), .val (.int p4), .val (.int (0 : Int32)), .val (.int (0 : Int32)), .val (.int (0 : Int32)), .val (.int (1 : Int32))] [(.int (0 : Int32)), (.ref a1)])) rfl rfl (hb hby d9_27) _ ?_
          show Steps p.tables e below (s₁.setTop (mkF m 28 #[.val (.ref a1), .val (.int (0 : Int32)), .val (.int (3 : Int32)), .val (.int p4), .val (.int (0 : Int32)), .val (.int (0 : Int32)), .val (.int (0 : Int32)), .val (.int (1 : Int32))] [(.int (0 : Int32))])) _
          refine XS.istore X0.here hx rfl (hb hby d9_28) rfl (l' := #[.val (.ref a1), .val (.int (0 : Int32)), .val (.int (3 : Int32)), .val (.int p4), .val (.int (0 : Int32)), .val (.int (0 : Int32)), .val (.int (0 : Int32)), .val (.int (0 : Int32))]) rfl ?_
          show Steps p.tables e below (s₁.setTop (mkF m 30 #[.val (.ref a1), .val (.int (0 : Int32)), .val (.int (3 : Int32)), .val (.int p4), .val (.int (0 : Int32)), .val (.int (0 : Int32)), .val (.int (0 : Int32)), .val (.int (0 : Int32))] [])) _
          refine XS.iload X0.here hx rfl (hb hby d9_30) rfl ?_
          show Steps p.tables e below (s₁.setTop (mkF m 32 #[.val (.ref a1), .val (.int (0 : Int32)), .val (.int (3 : Int32)), .val (.int p4), .val (.int (0 : Int32)), .val (.int (0 : Int32)), .val (.int (0 : Int32)), .val (.int (0 : Int32))] [(.int (0 : Int32))])) _
          refine XS.iloadN X0.here hx rfl (hb hby d9_32) rfl ?_
          show Steps p.tables e below (s₁.setTop (mkF m 33 #[.val (.ref a1), .val (.int (0 : Int32)), .val (.int (3 : Int32)), .val (.int p4), .val (.int (0 : Int32)), .val (.int (0 : Int32)), .val (.int (0 : Int32)), .val (.int (0 : Int32))] [(.int p4), (.int (0 : Int32))])) _
          refine XS.icmpNo X0.here hx rfl (hb hby d9_33) rfl (tlt hc33x).2.1 ?_
          show Steps p.tables e below (s₁.setTop (mkF m 36 #[.val (.ref a1), .val (.int (0 : Int32)), .val (.int (3 : Int32)), .val (.int p4), .val (.int (0 : Int32)), .val (.int (0 : Int32)), .val (.int (0 : Int32)), .val (.int (0 : Int32))] [])) _
          refine XS.iload X0.here hx rfl (hb hby d9_36) rfl ?_
          show Steps p.tables e below (s₁.setTop (mkF m 38 #[.val (.ref a1), .val (.int (0 : Int32)), .val (.int (3 : Int32)), .val (.int p4), .val (.int (0 : Int32)), .val (.int (0 : Int32)), .val (.int (0 : Int32)), .val (.int (0 : Int32))] [(.int (0 : Int32))])) _
          refine XS.iconst X0.here hx rfl (hb hby d9_38) ?_
          show Steps p.tables e below (s₁.setTop (mkF m 39 #[.val (.ref a1), .val (.int (0 : Int32)), .val (.int (3 : Int32)), .val (.int p4), .val (.int (0 : Int32)), .val (.int (0 : Int32)), .val (.int (0 : Int32)), .val (.int (0 : Int32))] [(.int (1 : Int32)), (.int (0 : Int32))])) _
          refine XS.iadd X0.here hx rfl (hb hby d9_39) rfl ?_
          show Steps p.tables e below (s₁.setTop (mkF m 40 #[.val (.ref a1), .val (.int (0 : Int32)), .val (.int (3 : Int32)), .val (.int p4), .val (.int (0 : Int32)), .val (.int (0 : Int32)), .val (.int (0 : Int32)), .val (.int (0 : Int32))] [(.int ((0 : Int32) + (1 : Int32)))])) _
          rw [show ((0 : Int32) + (1 : Int32)) = (1 : Int32) from by decide]
          show Steps p.tables e below (s₁.setTop (mkF m 40 #[.val (.ref a1), .val (.int (0 : Int32)), .val (.int (3 : Int32)), .val (.int p4), .val (.int (0 : Int32)), .val (.int (0 : Int32)), .val (.int (0 : Int32)), .val (.int (0 : Int32))] [(.int (1 : Int32))])) _
          refine XS.istore X0.here hx rfl (hb hby d9_40) rfl (l' := #[.val (.ref a1), .val (.int (0 : Int32)), .val (.int (3 : Int32)), .val (.int p4), .val (.int (1 : Int32)), .val (.int (0 : Int32)), .val (.int (0 : Int32)), .val (.int (0 : Int32))]) rfl ?_
          show Steps p.tables e below (s₁.setTop (mkF m 42 #[.val (.ref a1), .val (.int (0 : Int32)), .val (.int (3 : Int32)), .val (.int p4), .val (.int (1 : Int32)), .val (.int (0 : Int32)), .val (.int (0 : Int32)), .val (.int (0 : Int32))] [])) _
          refine XS.goto X0.here hx rfl (pc0 := 42) (pc' := 63) rfl (hb hby d9_42) (by decide) (by decide) ?_
          show Steps p.tables e below (s₁.setTop (mkF m 63 #[.val (.ref a1), .val (.int (0 : Int32)), .val (.int (3 : Int32)), .val (.int p4), .val (.int (1 : Int32)), .val (.int (0 : Int32)), .val (.int (0 : Int32)), .val (.int (0 : Int32))] [])) _
          refine XS.goto X0.here hx rfl (pc0 := 63) (pc' := 8) rfl (hb hby d9_63) (by decide) (by decide) ?_
          show Steps p.tables e below (s₁.setTop (mkF m 8 #[.val (.ref a1), .val (.int (0 : Int32)), .val (.int (3 : Int32)), .val (.int p4), .val (.int (1 : Int32)), .val (.int (0 : Int32)), .val (.int (0 : Int32)), .val (.int (0 : Int32))] [])) _
          refine XS.iload X0.here hx rfl (hb hby d9_8) rfl ?_
          show Steps p.tables e below (s₁.setTop (mkF m 10 #[.val (.ref a1), .val (.int (0 : Int32)), .val (.int (3 : Int32)), .val (.int p4), .val (.int (1 : Int32)), .val (.int (0 : Int32)), .val (.int (0 : Int32)), .val (.int (0 : Int32))] [(.int (1 : Int32))])) _
          refine XS.iload X0.here hx rfl (hb hby d9_10) rfl ?_
          show Steps p.tables e below (s₁.setTop (mkF m 12 #[.val (.ref a1), .val (.int (0 : Int32)), .val (.int (3 : Int32)), .val (.int p4), .val (.int (1 : Int32)), .val (.int (0 : Int32)), .val (.int (0 : Int32)), .val (.int (0 : Int32))] [(.int (0 : Int32)), (.int (1 : Int32))])) _
          refine XS.icmpYes X0.here hx rfl (pc0 := 12) (pc' := 66) rfl (hb hby d9_12) rfl (tlt hc12xx).2.2.1 (by decide) (by decide) ?_
          show Steps p.tables e below (s₁.setTop (mkF m 66 #[.val (.ref a1), .val (.int (0 : Int32)), .val (.int (3 : Int32)), .val (.int p4), .val (.int (1 : Int32)), .val (.int (0 : Int32)), .val (.int (0 : Int32)), .val (.int (0 : Int32))] [])) _
          refine XS.iload X0.here hx rfl (hb hby d9_66) rfl ?_
          show Steps p.tables e below (s₁.setTop (mkF m 68 #[.val (.ref a1), .val (.int (0 : Int32)), .val (.int (3 : Int32)), .val (.int p4), .val (.int (1 : Int32)), .val (.int (0 : Int32)), .val (.int (0 : Int32)), .val (.int (0 : Int32))] [(.int (1 : Int32))])) _
          refine XS.iconst X0.here hx rfl (hb hby d9_68) ?_
          show Steps p.tables e below (s₁.setTop (mkF m 69 #[.val (.ref a1), .val (.int (0 : Int32)), .val (.int (3 : Int32)), .val (.int p4), .val (.int (1 : Int32)), .val (.int (0 : Int32)), .val (.int (0 : Int32)), .val (.int (0 : Int32))] [(.int (1 : Int32)), (.int (1 : Int32))])) _
          refine XS.iadd X0.here hx rfl (hb hby d9_69) rfl ?_
          show Steps p.tables e below (s₁.setTop (mkF m 70 #[.val (.ref a1), .val (.int (0 : Int32)), .val (.int (3 : Int32)), .val (.int p4), .val (.int (1 : Int32)), .val (.int (0 : Int32)), .val (.int (0 : Int32)), .val (.int (0 : Int32))] [(.int ((1 : Int32) + (1 : Int32)))])) _
          rw [show ((1 : Int32) + (1 : Int32)) = (2 : Int32) from by decide]
          show Steps p.tables e below (s₁.setTop (mkF m 70 #[.val (.ref a1), .val (.int (0 : Int32)), .val (.int (3 : Int32)), .val (.int p4), .val (.int (1 : Int32)), .val (.int (0 : Int32)), .val (.int (0 : Int32)), .val (.int (0 : Int32))] [(.int (2 : Int32))])) _
          refine XS.ineg X0.here hx rfl (hb hby d9_70) rfl ?_
          show Steps p.tables e below (s₁.setTop (mkF m 71 #[.val (.ref a1), .val (.int (0 : Int32)), .val (.int (3 : Int32)), .val (.int p4), .val (.int (1 : Int32)), .val (.int (0 : Int32)), .val (.int (0 : Int32)), .val (.int (0 : Int32))] [(.int (-(2 : Int32)))])) _
          rw [show (-(2 : Int32)) = (-2 : Int32) from by decide]
          show Steps p.tables e below (s₁.setTop (mkF m 71 #[.val (.ref a1), .val (.int (0 : Int32)), .val (.int (3 : Int32)), .val (.int p4), .val (.int (1 : Int32)), .val (.int (0 : Int32)), .val (.int (0 : Int32)), .val (.int (0 : Int32))] [(.int (-2 : Int32))])) _
          exact retI X0 hx Bd.returns (hb hby d9_71) hr
        · show Q_9 Z a1 p4 h0 n0 _ s₁.heap _
          rw [e0]
          exact ⟨by simp [own_bs, hc12, hc33, hc48, hc12x, hc33x, hc12xx], N0, rfl⟩
      · by_cases hc48x : p4 < (0 : Int32)
        · have hc12xx : (-1 : Int32) < (0 : Int32) := by decide
          obtain ⟨fs, hr, hrun, hended, hW, hsame⟩ := X0.leave (v := some (.int (-1 : Int32))) (fun h => by rw [Bd.returns] at h; cases h)
          refine ⟨_, _, pre0 _ ?_, hrun, hended, _, _, rfl, ?_, ⟨_, rfl⟩, hW, hsame.mono (by decide) (by decide)⟩
          · show Steps p.tables e below (s₁.setTop (mkF m 0 #[.val (.ref a1), .val (.int (0 : Int32)), .val (.int (3 : Int32)), .val (.int p4), .unset, .unset, .unset, .unset] [])) _
            refine XS.iloadN X0.here hx rfl (hb hby d9_0) rfl ?_
            show Steps p.tables e below (s₁.setTop (mkF m 1 #[.val (.ref a1), .val (.int (0 : Int32)), .val (.int (3 : Int32)), .val (.int p4), .unset, .unset, .unset, .unset] [(.int (0 : Int32))])) _
            refine XS.istore X0.here hx rfl (hb hby d9_1) rfl (l' := #[.val (.ref a1), .val (.int (0 : Int32)), .val (.int (3 : Int32)), .val (.int p4), .val (.int (0 : Int32)), .unset, .unset, .unset]) rfl ?_
            show Steps p.tables e below (s₁.setTop (mkF m 3 #[.val (.ref a1), .val (.int (0 : Int32)), .val (.int (3 : Int32)), .val (.int p4), .val (.int (0 : Int32)), .unset, .unset, .unset] [])) _
            refine XS.iloadN X0.here hx rfl (hb hby d9_3) rfl ?_
            show Steps p.tables e below (s₁.setTop (mkF m 4 #[.val (.ref a1), .val (.int (0 : Int32)), .val (.int (3 : Int32)), .val (.int p4), .val (.int (0 : Int32)), .unset, .unset, .unset] [(.int (3 : Int32))])) _
            refine XS.iconst X0.here hx rfl (hb hby d9_4) ?_
            show Steps p.tables e below (s₁.setTop (mkF m 5 #[.val (.ref a1), .val (.int (0 : Int32)), .val (.int (3 : Int32)), .val (.int p4), .val (.int (0 : Int32)), .unset, .unset, .unset] [(.int (1 : Int32)), (.int (3 : Int32))])) _
            refine XS.isub X0.here hx rfl (hb hby d9_5) rfl ?_
            show Steps p.tables e below (s₁.setTop (mkF m 6 #[.val (.ref a1), .val (.int (0 : Int32)), .val (.int (3 : Int32)), .val (.int p4), .val (.int (0 : Int32)), .unset, .unset, .unset] [(.int ((3 : Int32) - (1 : Int32)))])) _
            rw [show ((3 : Int32) - (1 : Int32)) = (2 : Int32) from by decide]
            show Steps p.tables e below (s₁.setTop (mkF m 6 #[.val (.ref a1), .val (.int (0 : Int32)), .val (.int (3 : Int32)), .val (.int p4), .val (.int (0 : Int32)), .unset, .unset, .unset] [(.int (2 : Int32))])) _
            refine XS.istore X0.here hx rfl (hb hby d9_6) rfl (l' := #[.val (.ref a1), .val (.int (0 : Int32)), .val (.int (3 : Int32)), .val (.int p4), .val (.int (0 : Int32)), .val (.int (2 : Int32)), .unset, .unset]) rfl ?_
            show Steps p.tables e below (s₁.setTop (mkF m 8 #[.val (.ref a1), .val (.int (0 : Int32)), .val (.int (3 : Int32)), .val (.int p4), .val (.int (0 : Int32)), .val (.int (2 : Int32)), .unset, .unset] [])) _
            refine XS.iload X0.here hx rfl (hb hby d9_8) rfl ?_
            show Steps p.tables e below (s₁.setTop (mkF m 10 #[.val (.ref a1), .val (.int (0 : Int32)), .val (.int (3 : Int32)), .val (.int p4), .val (.int (0 : Int32)), .val (.int (2 : Int32)), .unset, .unset] [(.int (0 : Int32))])) _
            refine XS.iload X0.here hx rfl (hb hby d9_10) rfl ?_
            show Steps p.tables e below (s₁.setTop (mkF m 12 #[.val (.ref a1), .val (.int (0 : Int32)), .val (.int (3 : Int32)), .val (.int p4), .val (.int (0 : Int32)), .val (.int (2 : Int32)), .unset, .unset] [(.int (2 : Int32)), (.int (0 : Int32))])) _
            refine XS.icmpNo X0.here hx rfl (hb hby d9_12) rfl (flt hc12).2.2.1 ?_
            show Steps p.tables e below (s₁.setTop (mkF m 15 #[.val (.ref a1), .val (.int (0 : Int32)), .val (.int (3 : Int32)), .val (.int p4), .val (.int (0 : Int32)), .val (.int (2 : Int32)), .unset, .unset] [])) _
            refine XS.iload X0.here hx rfl (hb hby d9_15) rfl ?_
            show Steps p.tables e below (s₁.setTop (mkF m 17 #[.val (.ref a1), .val (.int (0 : Int32)), .val (.int (3 : Int32)), .val (.int p4), .val (.int (0 : Int32)), .val (.int (2 : Int32)), .unset, .unset] [(.int (0 : Int32))])) _
            refine XS.iload X0.here hx rfl (hb hby d9_17) rfl ?_
            show Steps p.tables e below (s₁.setTop (mkF m 19 #[.val (.ref a1), .val (.int (0 : Int32)), .val (.int (3 : Int32)), .val (.int p4), .val (.int (0 : Int32)), .val (.int (2 : Int32)), .unset, .unset] [(.int (2 : Int32)), (.int (0 : Int32))])) _
            refine XS.iadd X0.here hx rfl (hb hby d9_19) rfl ?_
            show Steps p.tables e below (s₁.setTop (mkF m 20 #[.val (.ref a1), .val (.int (0 : Int32)), .val (.int (3 : Int32)), .val (.int p4), .val (.int (0 : Int32)), .val (.int (2 : Int32)), .unset, .unset] [(.int ((0 : Int32) + (2 : Int32)))])) _
            rw [show ((0 : Int32) + (2 : Int32)) = (2 : Int32) from by decide]
            show Steps p.tables e below (s₁.setTop (mkF m 20 #[.val (.ref a1), .val (.int (0 : Int32)), .val (.int (3 : Int32)), .val (.int p4), .val (.int (0 : Int32)), .val (.int (2 : Int32)), .unset, .unset] [(.int (2 : Int32))])) _
            refine XS.iconst X0.here hx rfl (hb hby d9_20) ?_
            show Steps p.tables e below (s₁.setTop (mkF m 21 #[.val (.ref a1), .val (.int (0 : Int32)), .val (.int (3 : Int32)), .val (.int p4), .val (.int (0 : Int32)), .val (.int (2 : Int32)), .unset, .unset] [(.int (1 : Int32)), (.int (2 : Int32))])) _
            refine XS.iushr X0.here hx rfl (hb hby d9_21) rfl ?_
            show Steps p.tables e below (s₁.setTop (mkF m 22 #[.val (.ref a1), .val (.int (0 : Int32)), .val (.int (3 : Int32)), .val (.int p4), .val (.int (0 : Int32)), .val (.int (2 : Int32)), .unset, .unset] [(.int (((2 : Int32).toUInt32 >>> ((1 : Int32) &&& 31).toUInt32).toInt32))])) _
            rw [show (((2 : Int32).toUInt32 >>> ((1 : Int32) &&& 31).toUInt32).toInt32) = (1 : Int32) from by decide]
            show Steps p.tables e below (s₁.setTop (mkF m 22 #[.val (.ref a1), .val (.int (0 : Int32)), .val (.int (3 : Int32)), .val (.int p4), .val (.int (0 : Int32)), .val (.int (2 : Int32)), .unset, .unset] [(.int (1 : Int32))])) _
            refine XS.istore X0.here hx rfl (hb hby d9_22) rfl (l' := #[.val (.ref a1), .val (.int (0 : Int32)), .val (.int (3 : Int32)), .val (.int p4), .val (.int (0 : Int32)), .val (.int (2 : Int32)), .val (.int (1 : Int32)), .unset]) rfl ?_
            show Steps p.tables e below (s₁.setTop (mkF m 24 #[.val (.ref a1), .val (.int (0 : Int32)), .val (.int (3 : Int32)), .val (.int p4), .val (.int (0 : Int32)), .val (.int (2 : Int32)), .val (.int (1 : Int32)), .unset] [])) _
            refine XS.aloadN X0.here hx rfl (hb hby d9_24) rfl rfl ?_
            show Steps p.tables e below (s₁.setTop (mkF m 25 #[.val (.ref a1), .val (.int (0 : Int32)), .val (.int (3 : Int32)), .val (.int p4), .val (.int (0 : Int32)), .val (.int (2 : Int32)), .val (.int (1 : Int32)), .unset] [(.ref a1)])) _
            refine XS.iload X0.here hx rfl (hb hby d9_25) rfl ?_
            show Steps p.tables e below (s₁.setTop (mkF m 27 #[.val (.ref a1), .val (.int (0 : Int32)), .val (.int (3 : Int32)), .val (.int p4), .val (.int (0 : Int32)), .val (.int (2 : Int32)), .val (.int (1 : Int32)), .unset] [(.int (1 : Int32)), (.ref a1)])) _
            refine X0.iaload hx (j := (1 : Int32)) (v := (.int (1 : Int32))) (by rw [e0]; exact Ar35.1) (State.isArrayOf_alike hZ.alike Ar35.2.1) Ar35.2.2 hin35 hat35 (g := (mkF m 27 #[.val (.ref a1), .val (.int (0 : Int32)), .val (.int (3 : Int32)), .val (.int p4), .val (.int (0 : Int32)), .val (.int (2 : Int32)), .val (.int (1 : Int32)), .unset] [(.int (1 : Int32)), (.ref a1)])) rfl rfl (hb hby d9_27) _ ?_
            show Steps p.tables e below (s₁.setTop (mkF m 28 #[.val (.ref a1), .val (.int (0 : Int32)), .val (.int (3 : Int32)), .val (.int p4), .val (.int (0 : Int32)), .val (.int (2 : Int32)), .val (.int (1 : Int32)), .unset] [(.int (1 : Int32))])) _
            refine XS.istore X0.here hx rfl (hb hby d9_28) rfl (l' := #[.val (.ref a1), .val (.int (0 : Int32)), .val (.int (3 : Int32)), .val (.int p4), .val (.int (0 : Int32)), .val (.int (2 : Int32)), .val (.int (1 : Int32)), .val (.int (1 : Int32))]) rfl ?_
            show Steps p.tables e below (s₁.setTop (mkF m 30 #[.val (.ref a1), .val (.int (0 : Int32)), .val (.int (3 : Int32)), .val (.int p4), .val (.int (0 : Int32)), .val (.int (2 : Int32)), .val (.int (1 : Int32)), .val (.int (1 : Int32))] [])) _
            refine XS.iload X0.here hx rfl (hb hby d9_30) rfl ?_
            show Steps p.tables e below (s₁.setTop (mkF m 32 #[.val (.ref a1), .val (.int (0 : Int32)), .val (.int (3 : Int32)), .val (.int p4), .val (.int (0 : Int32)), .val (.int (2 : Int32)), .val (.int (1 : Int32)), .val (.int (1 : Int32))] [(.int (1 : Int32))])) _
            refine XS.iloadN X0.here hx rfl (hb hby d9_32) rfl ?_
            show Steps p.tables e below (s₁.setTop (mkF m 33 #[.val (.ref a1), .val (.int (0 : Int32)), .val (.int (3 : Int32)), .val (.int p4), .val (.int (0 : Int32)), .val (.int (2 : Int32)), .val (.int (1 : Int32)), .val (.int (1 : Int32))] [(.int p4), (.int (1 : Int32))])) _
            refine XS.icmpYes X0.here hx rfl (pc0 := 33) (pc' := 45) rfl (hb hby d9_33) rfl (flt hc33).2.1 (by decide) (by decide) ?_
            show Steps p.tables e below (s₁.setTop (mkF m 45 #[.val (.ref a1), .val (.int (0 : Int32)), .val (.int (3 : Int32)), .val (.int p4), .val (.int (0 : Int32)), .val (.int (2 : Int32)), .val (.int (1 : Int32)), .val (.int (1 : Int32))] [])) _
            refine XS.iload X0.here hx rfl (hb hby d9_45) rfl ?_
            show Steps p.tables e below (s₁.setTop (mkF m 47 #[.val (.ref a1), .val (.int (0 : Int32)), .val (.int (3 : Int32)), .val (.int p4), .val (.int (0 : Int32)), .val (.int (2 : Int32)), .val (.int (1 : Int32)), .val (.int (1 : Int32))] [(.int (1 : Int32))])) _
            refine XS.iloadN X0.here hx rfl (hb hby d9_47) rfl ?_
            show Steps p.tables e below (s₁.setTop (mkF m 48 #[.val (.ref a1), .val (.int (0 : Int32)), .val (.int (3 : Int32)), .val (.int p4), .val (.int (0 : Int32)), .val (.int (2 : Int32)), .val (.int (1 : Int32)), .val (.int (1 : Int32))] [(.int p4), (.int (1 : Int32))])) _
            refine XS.icmpNo X0.here hx rfl (hb hby d9_48) rfl (tlt hc48).2.2.2 ?_
            show Steps p.tables e below (s₁.setTop (mkF m 51 #[.val (.ref a1), .val (.int (0 : Int32)), .val (.int (3 : Int32)), .val (.int p4), .val (.int (0 : Int32)), .val (.int (2 : Int32)), .val (.int (1 : Int32)), .val (.int (1 : Int32))] [])) _
            refine XS.iload X0.here hx rfl (hb hby d9_51) rfl ?_
            show Steps p.tables e below (s₁.setTop (mkF m 53 #[.val (.ref a1), .val (.int (0 : Int32)), .val (.int (3 : Int32)), .val (.int p4), .val (.int (0 : Int32)), .val (.int (2 : Int32)), .val (.int (1 : Int32)), .val (.int (1 : Int32))] [(.int (1 : Int32))])) _
            refine XS.iconst X0.here hx rfl (hb hby d9_53) ?_
            show Steps p.tables e below (s₁.setTop (mkF m 54 #[.val (.ref a1), .val (.int (0 : Int32)), .val (.int (3 : Int32)), .val (.int p4), .val (.int (0 : Int32)), .val (.int (2 : Int32)), .val (.int (1 : Int32)), .val (.int (1 : Int32))] [(.int (1 : Int32)), (.int (1 : Int32))])) _
            refine XS.isub X0.here hx rfl (hb hby d9_54) rfl ?_
            show Steps p.tables e below (s₁.setTop (mkF m 55 #[.val (.ref a1), .val (.int (0 : Int32)), .val (.int (3 : Int32)), .val (.int p4), .val (.int (0 : Int32)), .val (.int (2 : Int32)), .val (.int (1 : Int32)), .val (.int (1 : Int32))] [(.int ((1 : Int32) - (1 : Int32)))])) _
            rw [show ((1 : Int32) - (1 : Int32)) = (0 : Int32) from by decide]
            show Steps p.tables e below (s₁.setTop (mkF m 55 #[.val (.ref a1), .val (.int (0 : Int32)), .val (.int (3 : Int32)), .val (.int p4), .val (.int (0 : Int32)), .val (.int (2 : Int32)), .val (.int (1 : Int32)), .val (.int (1 : Int32))] [(.int (0 : Int32))])) _
            refine XS.istore X0.here hx rfl (hb hby d9_55) rfl (l' := #[.val (.ref a1), .val (.int (0 : Int32)), .val (.int (3 : Int32)), .val (.int p4), .val (.int (0 : Int32)), .val (.int (0 : Int32)), .val (.int (1 : Int32)), .val (.int (1 : Int32))]) rfl ?_
            show Steps p.tables e below (s₁.setTop (mkF m 57 #[.val (.ref a1), .val (.int (0 : Int32)), .val (.int (3 : Int32)), .val (.int p4), .val (.int (0 : Int32)), .val (.int (0 : Int32)), .val (.int (1 : Int32)), .val (.int (1 : Int32))] [])) _
            refine XS.goto X0.here hx rfl (pc0 := 57) (pc' := 63) rfl (hb hby d9_57) (by decide) (by decide) ?_
            show Steps p.tables e below (s₁.setTop (mkF m 63 #[.val (.ref a1), .val (.int (0 : Int32)), .val (.int (3 : Int32)), .val (.int p4), .val (.int (0 : Int32)), .val (.int (0 : Int32)), .val (.int (1 : Int32)), .val (.int (1 : Int32))] [])) _
            refine XS.goto X0.here hx rfl (pc0 := 63) (pc' := 8) rfl (hb hby d9_63) (by decide) (by decide) ?_
            show Steps p.tables e below (s₁.setTop (mkF m 8 #[.val (.ref a1), .val (.int (0 : Int32)), .val (.int (3 : Int32)), .val (.int p4), .val (.int (0 : Int32)), .val (.int (0 : Int32)), .val (.int (1 : Int32)), .val (.int (1 : Int32))] [])) _
            refine XS.iload X0.here hx rfl (hb hby d9_8) rfl ?_
            show Steps p.tables e below (s₁.setTop (mkF m 10 #[.val (.ref a1), .val (.int (0 : Int32)), .val (.int (3 : Int32)), .val (.int p4), .val (.int (0 : Int32)), .val (.int (0 : Int32)), .val (.int (1 : Int32)), .val (.int (1 : Int32))] [(.int (0 : Int32))])) _
            refine XS.iload X0.here hx rfl (hb hby d9_10) rfl ?_
            show Steps p.tables e below (s₁.setTop (mkF m 12 #[.val (.ref a1), .val (.int (0 : Int32)), .val (.int (3 : Int32)), .val (.int p4), .val (.int (0 : Int32)), .val (.int (0 : Int32)), .val (.int (1 : Int32)), .val (.int (1 : Int32))] [(.int (0 : Int32)), (.int (0 : Int32))])) _
            refine XS.icmpNo X0.here hx rfl (hb hby d9_12) rfl (flt hc12x).2.2.1 ?_
            show Steps p.tables e below (s₁.setTop (mkF m 15 #[.val (.ref a1), .val (.int (0 : Int32)), .val (.int (3 : Int32)), .val (.int p4), .val (.int (0 : Int32)), .val (.int (0 : Int32)), .val (.int (1 : Int32)), .val (.int (1 : Int32))] [])) _
            refine XS.iload X0.here hx rfl (hb hby d9_15) rfl ?_
            show Steps p.tables e below (s₁.setTop (mkF m 17 #[.val (.ref a1), .val (.int (0 : Int32)), .val (.int (3 : Int32)), .val (.int p4), .val (.int (0 : Int32)), .val (.int (0 : Int32)), .val (.int (1 : Int32)), .val (.int (1 : Int32))] [(.int (0 : Int32))])) _
            refine XS.iload X0.here hx rfl (hb hby d9_17) rfl ?_
            show Steps p.tables e below (s₁.setTop (mkF m 19 #[.val (.ref a1), .val (.int (0 : Int32)), .val (.int (3 : Int32)), .val (.int p4), .val (.int (0 : Int32)), .val (.int (0 : Int32)), .val (.int (1 : Int32)), .val (.int (1 : Int32))] [(.int (0 : Int32)), (.int (0 : Int32))])) _
            refine XS.iadd X0.here hx rfl (hb hby d9_19) rfl ?_
            show Steps p.tables e below (s₁.setTop (mkF m 20 #[.val (.ref a1), .val (.int (0 : Int32)), .val (.int (3 : Int32)), .val (.int p4), .val (.int (0 : Int32)), .val (.int (0 : Int32)), .val (.int (1 : Int32)), .val (.int (1 : Int32))] [(.int ((0 : Int32) + (0 : Int32)))])) _
            rw [show ((0 : Int32) + (0 : Int32)) = (0 : Int32) from by decide]
            show Steps p.tables e below (s₁.setTop (mkF m 20 #[.val (.ref a1), .val (.int (0 : Int32)), .val (.int (3 : Int32)), .val (.int p4), .val (.int (0 : Int32)), .val (.int (0 : Int32)), .val (.int (1 : Int32)), .val (.int (1 : Int32))] [(.int (0 : Int32))])) _
            refine XS.iconst X0.here hx rfl (hb hby d9_20) ?_
            show Steps p.tables e below (s₁.setTop (mkF m 21 #[.val (.ref a1), .val (.int (0 : Int32)), .val (.int (3 : Int32)), .val (.int p4), .val (.int (0 : Int32)), .val (.int (0 : Int32)), .val (.int (1 : Int32)), .val (.int (1 : Int32))] [(.int (1 : Int32)), (.int (0 : Int32))])) _
            refine XS.iushr X0.here hx rfl (hb hby d9_21) rfl ?_
            show Steps p.tables e below (s₁.setTop (mkF m 22 #[.val (.ref a1), .val (.int (0 : Int32)), .val (.int (3 : Int32)), .val (.int p4), .val (.int (0 : Int32)), .val (.int (0 : Int32)), .val (.int (1 : Int32)), .val (.int (1 : Int32))] [(.int (((0 : Int32).toUInt32 >>> ((1 : Int32) &&& 31).toUInt32).toInt32))])) _
            rw [show (((0 : Int32).toUInt32 >>> ((1 : Int32) &&& 31).toUInt32).toInt32) = (0 : Int32) from by decide]
            show Steps p.tables e below (s₁.setTop (mkF m 22 #[.val (.ref a1), .val (.int (0 : Int32)), .val (.int (3 : Int32)), .val (.int p4), .val (.int (0 : Int32)), .val (.int (0 : Int32)), .val (.int (1 : Int32)), .val (.int (1 : Int32))] [(.int (0 : Int32))])) _
            refine XS.istore X0.here hx rfl (hb hby d9_22) rfl (l' := #[.val (.ref a1), .val (.int (0 : Int32)), .val (.int (3 : Int32)), .val (.int p4), .val (.int (0 : Int32)), .val (.int (0 : Int32)), .val (.int (0 : Int32)), .val (.int (1 : Int32))]) rfl ?_
            show Steps p.tables e below (s₁.setTop (mkF m 24 #[.val (.ref a1), .val (.int (0 : Int32)), .val (.int (3 : Int32)), .val (.int p4), .val (.int (0 : Int32)), .val (.int (0 : Int32)), .val (.int (0 : Int32)), .val (.int (1 : Int32))] [])) _
            refine XS.aloadN X0.here hx rfl (hb hby d9_24) rfl rfl ?_
            show Steps p.tables e below (s₁.setTop (mkF m 25 #[.val (.ref a1), .val (.int (0 : Int32)), .val (.int (3 : Int32)), .val (.int p4), .val (.int (0 : Int32)), .val (.int (0 : Int32)), .val (.int (0 : Int32)), .val (.int (1 : Int32))] [(.ref a1)])) _
            refine XS.iload X0.here hx rfl (hb hby d9_25) rfl ?_
            show Steps p.tables e below (s₁.setTop (mkF m 27 #[.val (.ref a1), .val (.int (0 : Int32)), .val (.int (3 : Int32)), .val (.int p4), .val (.int (0 : Int32)), .val (.int (0 : Int32)), .val (.int (0 : Int32)), .val (.int (1 : Int32))] [(.int (0 : Int32)), (.ref a1)])) _
            refine X0.iaload hx (j := (0 : Int32)) (v := (.int (0 : Int32))) (by rw [e0]; exact Ar37.1) (State.isArrayOf_alike hZ.alike Ar37.2.1) Ar37.2.2 hin37 hat37 (g := (mkF m 27 #[.val (.ref a1), .val (.int (0 : Int32)), .val (.int (3 : Int32)), .val (.int p4), .val (.int (0 : Int32)), .val (.int (0 : Int32)), .val (.int (0 : Int32)), .val (.int (1 : Int32))] [(.int (0 : Int32)), (.ref a1)])) rfl rfl (hb hby d9_27) _ ?_
            show Steps p.tables e below (s₁.setTop (mkF m 28 #[.val (.ref a1), .val (.int (0 : Int32)), .val (.int (3 : Int32)), .val (.int p4), .val (.int (0 : Int32)), .val (.int (0 : Int32)), .val (.int (0 : Int32)), .val (.int (1 : Int32))] [(.int (0 : Int32))])) _
            refine XS.istore X0.here hx rfl (hb hby d9_28) rfl (l' := #[.val (.ref a1), .val (.int (0 : Int32)), .val (.int (3 : Int32)), .val (.int p4), .val (.int (0 : Int32)), .val (.int (0 : Int32)), .val (.int (0 : Int32)), .val (.int (0 : Int32))]) rfl ?_
            show Steps p.tables e below (s₁.setTop (mkF m 30 #[.val (.ref a1), .val (.int (0 : Int32)), .val (.int (3 : Int32)), .val (.int p4), .val (.int (0 : Int32)), .val (.int (0 : Int32)), .val (.int (0 : Int32)), .val (.int (0 : Int32))] [])) _
            refine XS.iload X0.here hx rfl (hb hby d9_30) rfl ?_
            show Steps p.tables e below (s₁.setTop (mkF m 32 #[.val (.ref a1), .val (.int (0 : Int32)), .val (.int (3 : Int32)), .val (.int p4), .val (.int (0 : Int32)), .val (.int (0 : Int32)), .val (.int (0 : Int32)), .val (.int (0 : Int32))] [(.int (0 : Int32))])) _
            refine XS.iloadN X0.here hx rfl (hb hby d9_32) rfl ?_
            show Steps p.tables e below (s₁.setTop (mkF m 33 #[.val (.ref a1), .val (.int (0 : Int32)), .val (.int (3 : Int32)), .val (.int p4), .val (.int (0 : Int32)), .val (.int (0 : Int32)), .val (.int (0 : Int32)), .val (.int (0 : Int32))] [(.int p4), (.int (0 : Int32))])) _
            refine XS.icmpYes X0.here hx rfl (pc0 := 33) (pc' := 45) rfl (hb hby d9_33) rfl (flt hc33x).2.1 (by decide) (by decide) ?_
            show Steps p.tables e below (s₁.setTop (mkF m 45 #[.val (.ref a1), .val (.int (0 : Int32)), .val (.int (3 : Int32)), .val (.int p4), .val (.int (0 : Int32)), .val (.int (0 : Int32)), .val (.int (0 : Int32)), .val (.int (0 : Int32))] [])) _
            refine XS.iload X0.here hx rfl (hb hby d9_45) rfl ?_
            show Steps p.tables e below (s₁.setTop (mkF m 47 #[.val (.ref a1), .val (.int (0 : Int32)), .val (.int (3 : Int32)), .val (.int p4), .val (.int (0 : Int32)), .val (.int (0 : Int32)), .val (.int (0 : Int32)), .val (.int (0 : Int32))] [(.int (0 : Int32))])) _
            refine XS.iloadN X0.here hx rfl (hb hby d9_47) rfl ?_
            show Steps p.tables e below (s₁.setTop (mkF m 48 #[.val (.ref a1), .val (.int (0 : Int32)), .val (.int (3 : Int32)), .val (.int p4), .val (.int (0 : Int32)), .val (.int (0 : Int32)), .val (.int (0 : Int32)), .val (.int (0 : Int32))] [(.int p4), (.int (0 : Int32))])) _
            refine XS.icmpNo X0.here hx rfl (hb hby d9_48) rfl (tlt hc48x).2.2.2 ?_
            show Steps p.tables e below (s₁.setTop (mkF m 51 #[.val (.ref a1), .val (.int (0 : Int32)), .val (.int (3 : Int32)), .val (.int p4), .val (.int (0 : Int32)), .val (.int (0 : Int32)), .val (.int (0 : Int32)), .val (.int (0 : Int32))] [])) _
            refine XS.iload X0.here hx rfl (hb hby d9_51) rfl ?_
            show Steps p.tables e below (s₁.setTop (mkF m 53 #[.val (.ref a1), .val (.int (0 : Int32)), .val (.int (3 : Int32)), .val (.int p4), .val (.int (0 : Int32)), .val (.int (0 : Int32)), .val (.int (0 : Int32)), .val (.int (0 : Int32))] [(.int (0 : Int32))])) _
            refine XS.iconst X0.here hx rfl (hb hby d9_53) ?_
            show Steps p.tables e below (s₁.setTop (mkF m 54 #[.val (.ref a1), .val (.int (0 : Int32)), .val (.int (3 : Int32)), .val (.int p4), .val (.int (0 : Int32)), .val (.int (0 : Int32)), .val (.int (0 : Int32)), .val (.int (0 : Int32))] [(.int (1 : Int32)), (.int (0 : Int32))])) _
            refine XS.isub X0.here hx rfl (hb hby d9_54) rfl ?_
            show Steps p.tables e below (s₁.setTop (mkF m 55 #[.val (.ref a1), .val (.int (0 : Int32)), .val (.int (3 : Int32)), .val (.int p4), .val (.int (0 : Int32)), .val (.int (0 : Int32)), .val (.int (0 : Int32)), .val (.int (0 : Int32))] [(.int ((0 : Int32) - (1 : Int32)))])) _
            rw [show ((0 : Int32) - (1 : Int32)) = (-1 : Int32) from by decide]
            show Steps p.tables e below (s₁.setTop (mkF m 55 #[.val (.ref a1), .val (.int (0 : Int32)), .val (.int (3 : Int32)), .val (.int p4), .val (.int (0 : Int32)), .val (.int (0 : Int32)), .val (.int (0 : Int32)), .val (.int (0 : Int32))] [(.int (-1 : Int32))])) _
            refine XS.istore X0.here hx rfl (hb hby d9_55) rfl (l' := #[.val (.ref a1), .val (.int (0 : Int32)), .val (.int (3 : Int32)), .val (.int p4), .val (.int (0 : Int32)), .val (.int (-1 : Int32)), .val (.int (0 : Int32)), .val (.int (0 : Int32))]) rfl ?_
            show Steps p.tables e below (s₁.setTop (mkF m 57 #[.val (.ref a1), .val (.int (0 : Int32)), .val (.int (3 : Int32)), .val (.int p4), .val (.int (0 : Int32)), .val (.int (-1 : Int32)), .val (.int (0 : Int32)), .val (.int (0 : Int32))] [])) _
            refine XS.goto X0.here hx rfl (pc0 := 57) (pc' := 63) rfl (hb hby d9_57) (by decide) (by decide) ?_
            show Steps p.tables e below (s₁.setTop (mkF m 63 #[.val (.ref a1), .val (.int (0 : Int32)), .val (.int (3 : Int32)), .val (.int p4), .val (.int (0 : Int32)), .val (.int (-1 : Int32)), .val (.int (0 : Int32)), .val (.int (0 : Int32))] [])) _
            refine XS.goto X0.here hx rfl (pc0 := 63) (pc' := 8) rfl (hb hby d9_63) (by decide) (by decide) ?_
            show Steps p.tables e below (s₁.setTop (mkF m 8 #[.val (.ref a1), .val (.int (0 : Int32)), .val (.int (3 : Int32)), .val (.int p4), .val (.int (0 : Int32)), .val (.int (-1 : Int32)), .val (.int (0 : Int32)), .val (.int (0 : Int32))] [])) _
            refine XS.iload X0.here hx rfl (hb hby d9_8) rfl ?_
            show Steps p.tables e below (s₁.setTop (mkF m 10 #[.val (.ref a1), .val (.int (0 : Int32)), .val (.int (3 : Int32)), .val (.int p4), .val (.int (0 : Int32)), .val (.int (-1 : Int32)), .val (.int (0 : Int32)), .val (.int (0 : Int32))] [(.int (0 : Int32))])) _
            refine XS.iload X0.here hx rfl (hb hby d9_10) rfl ?_
            show Steps p.tables e below (s₁.setTop (mkF m 12 #[.val (.ref a1), .val (.int (0 : Int32)), .val (.int (3 : Int32)), .val (.int p4), .val (.int (0 : Int32)), .val (.int (-1 : Int32)), .val (.int (0 : Int32)), .val (.int (0 : Int32))] [(.int (-1 : Int32)), (.int (0 : Int32))])) _
            refine XS.icmpYes X0.here hx rfl (pc0 := 12) (pc' := 66) rfl (hb hby d9_12) rfl (tlt hc12xx).2.2.1 (by decide) (by decide) ?_
            show Steps p.tables e below (s₁.setTop (mkF m 66 #[.val (.ref a1), .val (.int (0 : Int32)), .val (.int (3 : Int32)), .val (.int p4), .val (.int (0 : Int32)), .val (.int (-1 : Int32)), .val (.int (0 : Int32)), .val (.int (0 : Int32))] [])) _
            refine XS.iload X0.here hx rfl (hb hby d9_66) rfl ?_
            show Steps p.tables e below (s₁.setTop (mkF m 68 #[.val (.ref a1), .val (.int (0 : Int32)), .val (.int (3 : Int32)), .val (.int p4), .val (.int (0 : Int32)), .val (.int (-1 : Int32)), .val (.int (0 : Int32)), .val (.int (0 : Int32))] [(.int (0 : Int32))])) _
            refine XS.iconst X0.here hx rfl (hb hby d9_68) ?_
            show Steps p.tables e below (s₁.setTop (mkF m 69 #[.val (.ref a1), .val (.int (0 : Int32)), .val (.int (3 : Int32)), .val (.int p4), .val (.int (0 : Int32)), .val (.int (-1 : Int32)), .val (.int (0 : Int32)), .val (.int (0 : Int32))] [(.int (1 : Int32)), (.int (0 : Int32))])) _
            refine XS.iadd X0.here hx rfl (hb hby d9_69) rfl ?_
            show Steps p.tables e below (s₁.setTop (mkF m 70 #[.val (.ref a1), .val (.int (0 : Int32)), .val (.int (3 : Int32)), .val (.int p4), .val (.int (0 : Int32)), .val (.int (-1 : Int32)), .val (.int (0 : Int32)), .val (.int (0 : Int32))] [(.int ((0 : Int32) + (1 : Int32)))])) _
            rw [show ((0 : Int32) + (1 : Int32)) = (1 : Int32) from by decide]
            show Steps p.tables e below (s₁.setTop (mkF m 70 #[.val (.ref a1), .val (.int (0 : Int32)), .val (.int (3 : Int32)), .val (.int p4), .val (.int (0 : Int32)), .val (.int (-1 : Int32)), .val (.int (0 : Int32)), .val (.int (0 : Int32))] [(.int (1 : Int32))])) _
            refine XS.ineg X0.here hx rfl (hb hby d9_70) rfl ?_
            show Steps p.tables e below (s₁.setTop (mkF m 71 #[.val (.ref a1), .val (.int (0 : Int32)), .val (.int (3 : Int32)), .val (.int p4), .val (.int (0 : Int32)), .val (.int (-1 : Int32)), .val (.int (0 : Int32)), .val (.int (0 : Int32))] [(.int (-(1 : Int32)))])) _
            rw [show (-(1 : Int32)) = (-1 : Int32) from by decide]
            show Steps p.tables e below (s₁.setTop (mkF m 71 #[.val (.ref a1), .val (.int (0 : Int32)), .val (.int (3 : Int32)), .val (.int p4), .val (.int (0 : Int32)), .val (.int (-1 : Int32)), .val (.int (0 : Int32)), .val (.int (0 : Int32))] [(.int (-1 : Int32))])) _
            exact retI X0 hx Bd.returns (hb hby d9_71) hr
          · show Q_9 Z a1 p4 h0 n0 _ s₁.heap _
            rw [e0]
            exact ⟨by simp [own_bs, hc12, hc33, hc48, hc12x, hc33x, hc48x, hc12xx], N0, rfl⟩
        · obtain ⟨fs, hr, hrun, hended, hW, hsame⟩ := X0.leave (v := some (.int (0 : Int32))) (fun h => by rw [Bd.returns] at h; cases h)
          refine ⟨_, _, pre0 _ ?_, hrun, hended, _, _, rfl, ?_, ⟨_, rfl⟩, hW, hsame.mono (by decide) (by decide)⟩
          · show Steps p.tables e below (s₁.setTop (mkF m 0 #[.val (.ref a1), .val (.int (0 : Int32)), .val (.int (3 : Int32)), .val (.int p4), .unset, .unset, .unset, .unset] [])) _
            refine XS.iloadN X0.here hx rfl (hb hby d9_0) rfl ?_
            show Steps p.tables e below (s₁.setTop (mkF m 1 #[.val (.ref a1), .val (.int (0 : Int32)), .val (.int (3 : Int32)), .val (.int p4), .unset, .unset, .unset, .unset] [(.int (0 : Int32))])) _
            refine XS.istore X0.here hx rfl (hb hby d9_1) rfl (l' := #[.val (.ref a1), .val (.int (0 : Int32)), .val (.int (3 : Int32)), .val (.int p4), .val (.int (0 : Int32)), .unset, .unset, .unset]) rfl ?_
            show Steps p.tables e below (s₁.setTop (mkF m 3 #[.val (.ref a1), .val (.int (0 : Int32)), .val (.int (3 : Int32)), .val (.int p4), .val (.int (0 : Int32)), .unset, .unset, .unset] [])) _
            refine XS.iloadN X0.here hx rfl (hb hby d9_3) rfl ?_
            show Steps p.tables e below (s₁.setTop (mkF m 4 #[.val (.ref a1), .val (.int (0 : Int32)), .val (.int (3 : Int32)), .val (.int p4), .val (.int (0 : Int32)), .unset, .unset, .unset] [(.int (3 : Int32))])) _
            refine XS.iconst X0.here hx rfl (hb hby d9_4) ?_
            show Steps p.tables e below (s₁.setTop (mkF m 5 #[.val (.ref a1), .val (.int (0 : Int32)), .val (.int (3 : Int32)), .val (.int p4), .val (.int (0 : Int32)), .unset, .unset, .unset] [(.int (1 : Int32)), (.int (3 : Int32))])) _
            refine XS.isub X0.here hx rfl (hb hby d9_5) rfl ?_
            show Steps p.tables e below (s₁.setTop (mkF m 6 #[.val (.ref a1), .val (.int (0 : Int32)), .val (.int (3 : Int32)), .val (.int p4), .val (.int (0 : Int32)), .unset, .unset, .unset] [(.int ((3 : Int32) - (1 : Int32)))])) _
            rw [show ((3 : Int32) - (1 : Int32)) = (2 : Int32) from by decide]
            show Steps p.tables e below (s₁.setTop (mkF m 6 #[.val (.ref a1), .val (.int (0 : Int32)), .val (.int (3 : Int32)), .val (.int p4), .val (.int (0 : Int32)), .unset, .unset, .unset] [(.int (2 : Int32))])) _
            refine XS.istore X0.here hx rfl (hb hby d9_6) rfl (l' := #[.val (.ref a1), .val (.int (0 : Int32)), .val (.int (3 : Int32)), .val (.int p4), .val (.int (0 : Int32)), .val (.int (2 : Int32)), .unset, .unset]) rfl ?_
            show Steps p.tables e below (s₁.setTop (mkF m 8 #[.val (.ref a1), .val (.int (0 : Int32)), .val (.int (3 : Int32)), .val (.int p4), .val (.int (0 : Int32)), .val (.int (2 : Int32)), .unset, .unset] [])) _
            refine XS.iload X0.here hx rfl (hb hby d9_8) rfl ?_
            show Steps p.tables e below (s₁.setTop (mkF m 10 #[.val (.ref a1), .val (.int (0 : Int32)), .val (.int (3 : Int32)), .val (.int p4), .val (.int (0 : Int32)), .val (.int (2 : Int32)), .unset, .unset] [(.int (0 : Int32))])) _
            refine XS.iload X0.here hx rfl (hb hby d9_10) rfl ?_
            show Steps p.tables e below (s₁.setTop (mkF m 12 #[.val (.ref a1), .val (.int (0 : Int32)), .val (.int (3 : Int32)), .val (.int p4), .val (.int (0 : Int32)), .val (.int (2 : Int32)), .unset, .unset] [(.int (2 : Int32)), (.int (0 : Int32))])) _
            refine XS.icmpNo X0.here hx rfl (hb hby d9_12) rfl (flt hc12).2.2.1 ?_
            show Steps p.tables e below (s₁.setTop (mkF m 15 #[.val (.ref a1), .val (.int (0 : Int32)), .val (.int (3 : Int32)), .val (.int p4), .val (.int (0 : Int32)), .val (.int (2 : Int32)), .unset, .unset] [])) _
            refine XS.iload X0.here hx rfl (hb hby d9_15) rfl ?_
            show Steps p.tables e below (s₁.setTop (mkF m 17 #[.val (.ref a1), .val (.int (0 : Int32)), .val (.int (3 : Int32)), .val (.int p4), .val (.int (0 : Int32)), .val (.int (2 : Int32)), .unset, .unset] [(.int (0 : Int32))])) _
            refine XS.iload X0.here hx rfl (hb hby d9_17) rfl ?_
            show Steps p.tables e below (s₁.setTop (mkF m 19 #[.val (.ref a1), .val (.int (0 : Int32)), .val (.int (3 : Int32)), .val (.int p4), .val (.int (0 : Int32)), .val (.int (2 : Int32)), .unset, .unset] [(.int (2 : Int32)), (.int (0 : Int32))])) _
            refine XS.iadd X0.here hx rfl (hb hby d9_19) rfl ?_
            show Steps p.tables e below (s₁.setTop (mkF m 20 #[.val (.ref a1), .val (.int (0 : Int32)), .val (.int (3 : Int32)), .val (.int p4), .val (.int (0 : Int32)), .val (.int (2 : Int32)), .unset, .unset] [(.int ((0 : Int32) + (2 : Int32)))])) _
            rw [show ((0 : Int32) + (2 : Int32)) = (2 : Int32) from by decide]
            show Steps p.tables e below (s₁.setTop (mkF m 20 #[.val (.ref a1), .val (.int (0 : Int32)), .val (.int (3 : Int32)), .val (.int p4), .val (.int (0 : Int32)), .val (.int (2 : Int32)), .unset, .unset] [(.int (2 : Int32))])) _
            refine XS.iconst X0.here hx rfl (hb hby d9_20) ?_
            show Steps p.tables e below (s₁.setTop (mkF m 21 #[.val (.ref a1), .val (.int (0 : Int32)), .val (.int (3 : Int32)), .val (.int p4), .val (.int (0 : Int32)), .val (.int (2 : Int32)), .unset, .unset] [(.int (1 : Int32)), (.int (2 : Int32))])) _
            refine XS.iushr X0.here hx rfl (hb hby d9_21) rfl ?_
            show Steps p.tables e below (s₁.setTop (mkF m 22 #[.val (.ref a1), .val (.int (0 : Int32)), .val (.int (3 : Int32)), .val (.int p4), .val (.int (0 : Int32)), .val (.int (2 : Int32)), .unset, .unset] [(.int (((2 : Int32).toUInt32 >>> ((1 : Int32) &&& 31).toUInt32).toInt32))])) _
            rw [show (((2 : Int32).toUInt32 >>> ((1 : Int32) &&& 31).toUInt32).toInt32) = (1 : Int32) from by decide]
            show Steps p.tables e below (s₁.setTop (mkF m 22 #[.val (.ref a1), .val (.int (0 : Int32)), .val (.int (3 : Int32)), .val (.int p4), .val (.int (0 : Int32)), .val (.int (2 : Int32)), .unset, .unset] [(.int (1 : Int32))])) _
            refine XS.istore X0.here hx rfl (hb hby d9_22) rfl (l' := #[.val (.ref a1), .val (.int (0 : Int32)), .val (.int (3 : Int32)), .val (.int p4), .val (.int (0 : Int32)), .val (.int (2 : Int32)), .val (.int (1 : Int32)), .unset]) rfl ?_
            show Steps p.tables e below (s₁.setTop (mkF m 24 #[.val (.ref a1), .val (.int (0 : Int32)), .val (.int (3 : Int32)), .val (.int p4), .val (.int (0 : Int32)), .val (.int (2 : Int32)), .val (.int (1 : Int32)), .unset] [])) _
            refine XS.aloadN X0.here hx rfl (hb hby d9_24) rfl rfl ?_
            show Steps p.tables e below (s₁.setTop (mkF m 25 #[.val (.ref a1), .val (.int (0 : Int32)), .val (.int (3 : Int32)), .val (.int p4), .val (.int (0 : Int32)), .val (.int (2 : Int32)), .val (.int (1 : Int32)), .unset] [(.ref a1)])) _
            refine XS.iload X0.here hx rfl (hb hby d9_25) rfl ?_
            show Steps p.tables e below (s₁.setTop (mkF m 27 #[.val (.ref a1), .val (.int (0 : Int32)), .val (.int (3 : Int32)), .val (.int p4), .val (.int (0 : Int32)), .val (.int (2 : Int32)), .val (.int (1 : Int32)), .unset] [(.int (1 : Int32)), (.ref a1)])) _
            refine X0.iaload hx (j := (1 : Int32)) (v := (.int (1 : Int32))) (by rw [e0]; exact Ar35.1) (State.isArrayOf_alike hZ.alike Ar35.2.1) Ar35.2.2 hin35 hat35 (g := (mkF m 27 #[.val (.ref a1), .val (.int (0 : Int32)), .val (.int (3 : Int32)), .val (.int p4), .val (.int (0 : Int32)), .val (.int (2 : Int32)), .val (.int (1 : Int32)), .unset] [(.int (1 : Int32)), (.ref a1)])) rfl rfl (hb hby d9_27) _ ?_
            show Steps p.tables e below (s₁.setTop (mkF m 28 #[.val (.ref a1), .val (.int (0 : Int32)), .val (.int (3 : Int32)), .val (.int p4), .val (.int (0 : Int32)), .val (.int (2 : Int32)), .val (.int (1 : Int32)), .unset] [(.int (1 : Int32))])) _
            refine XS.istore X0.here hx rfl (hb hby d9_28) rfl (l' := #[.val (.ref a1), .val (.int (0 : Int32)), .val (.int (3 : Int32)), .val (.int p4), .val (.int (0 : Int32)), .val (.int (2 : Int32)), .val (.int (1 : Int32)), .val (.int (1 : Int32))]) rfl ?_
            show Steps p.tables e below (s₁.setTop (mkF m 30 #[.val (.ref a1), .val (.int (0 : Int32)), .val (.int (3 : Int32)), .val (.int p4), .val (.int (0 : Int32)), .val (.int (2 : Int32)), .val (.int (1 : Int32)), .val (.int (1 : Int32))] [])) _
            refine XS.iload X0.here hx rfl (hb hby d9_30) rfl ?_
            show Steps p.tables e below (s₁.setTop (mkF m 32 #[.val (.ref a1), .val (.int (0 : Int32)), .val (.int (3 : Int32)), .val (.int p4), .val (.int (0 : Int32)), .val (.int (2 : Int32)), .val (.int (1 : Int32)), .val (.int (1 : Int32))] [(.int (1 : Int32))])) _
            refine XS.iloadN X0.here hx rfl (hb hby d9_32) rfl ?_
            show Steps p.tables e below (s₁.setTop (mkF m 33 #[.val (.ref a1), .val (.int (0 : Int32)), .val (.int (3 : Int32)), .val (.int p4), .val (.int (0 : Int32)), .val (.int (2 : Int32)), .val (.int (1 : Int32)), .val (.int (1 : Int32))] [(.int p4), (.int (1 : Int32))])) _
            refine XS.icmpYes X0.here hx rfl (pc0 := 33) (pc' := 45) rfl (hb hby d9_33) rfl (flt hc33).2.1 (by decide) (by decide) ?_
            show Steps p.tables e below (s₁.setTop (mkF m 45 #[.val (.ref a1), .val (.int (0 : Int32)), .val (.int (3 : Int32)), .val (.int p4), .val (.int (0 : Int32)), .val (.int (2 : Int32)), .val (.int (1 : Int32)), .val (.int (1 : Int32))] [])) _
            refine XS.iload X0.here hx rfl (hb hby d9_45) rfl ?_
            show Steps p.tables e below (s₁.setTop (mkF m 47 #[.val (.ref a1), .val (.int (0 : Int32)), .val (.int (3 : Int32)), .val (.int p4), .val (.int (0 : Int32)), .val (.int (2 : Int32)), .val (.int (1 : Int32)), .val (.int (1 : Int32))] [(.int (1 : Int32))])) _
            refine XS.iloadN X0.here hx rfl (hb hby d9_47) rfl ?_
            show Steps p.tables e below (s₁.setTop (mkF m 48 #[.val (.ref a1), .val (.int (0 : Int32)), .val (.int (3 : Int32)), .val (.int p4), .val (.int (0 : Int32)), .val (.int (2 : Int32)), .val (.int (1 : Int32)), .val (.int (1 : Int32))] [(.int p4), (.int (1 : Int32))])) _
            refine XS.icmpNo X0.here hx rfl (hb hby d9_48) rfl (tlt hc48).2.2.2 ?_
            show Steps p.tables e below (s₁.setTop (mkF m 51 #[.val (.ref a1), .val (.int (0 : Int32)), .val (.int (3 : Int32)), .val (.int p4), .val (.int (0 : Int32)), .val (.int (2 : Int32)), .val (.int (1 : Int32)), .val (.int (1 : Int32))] [])) _
            refine XS.iload X0.here hx rfl (hb hby d9_51) rfl ?_
            show Steps p.tables e below (s₁.setTop (mkF m 53 #[.val (.ref a1), .val (.int (0 : Int32)), .val (.int (3 : Int32)), .val (.int p4), .val (.int (0 : Int32)), .val (.int (2 : Int32)), .val (.int (1 : Int32)), .val (.int (1 : Int32))] [(.int (1 : Int32))])) _
            refine XS.iconst X0.here hx rfl (hb hby d9_53) ?_
            show Steps p.tables e below (s₁.setTop (mkF m 54 #[.val (.ref a1), .val (.int (0 : Int32)), .val (.int (3 : Int32)), .val (.int p4), .val (.int (0 : Int32)), .val (.int (2 : Int32)), .val (.int (1 : Int32)), .val (.int (1 : Int32))] [(.int (1 : Int32)), (.int (1 : Int32))])) _
            refine XS.isub X0.here hx rfl (hb hby d9_54) rfl ?_
            show Steps p.tables e below (s₁.setTop (mkF m 55 #[.val (.ref a1), .val (.int (0 : Int32)), .val (.int (3 : Int32)), .val (.int p4), .val (.int (0 : Int32)), .val (.int (2 : Int32)), .val (.int (1 : Int32)), .val (.int (1 : Int32))] [(.int ((1 : Int32) - (1 : Int32)))])) _
            rw [show ((1 : Int32) - (1 : Int32)) = (0 : Int32) from by decide]
            show Steps p.tables e below (s₁.setTop (mkF m 55 #[.val (.ref a1), .val (.int (0 : Int32)), .val (.int (3 : Int32)), .val (.int p4), .val (.int (0 : Int32)), .val (.int (2 : Int32)), .val (.int (1 : Int32)), .val (.int (1 : Int32))] [(.int (0 : Int32))])) _
            refine XS.istore X0.here hx rfl (hb hby d9_55) rfl (l' := #[.val (.ref a1), .val (.int (0 : Int32)), .val (.int (3 : Int32)), .val (.int p4), .val (.int (0 : Int32)), .val (.int (0 : Int32)), .val (.int (1 : Int32)), .val (.int (1 : Int32))]) rfl ?_
            show Steps p.tables e below (s₁.setTop (mkF m 57 #[.val (.ref a1), .val (.int (0 : Int32)), .val (.int (3 : Int32)), .val (.int p4), .val (.int (0 : Int32)), .val (.int (0 : Int32)), .val (.int (1 : Int32)), .val (.int (1 : Int32))] [])) _
            refine XS.goto X0.here hx rfl (pc0 := 57) (pc' := 63) rfl (hb hby d9_57) (by decide) (by decide) ?_
            show Steps p.tables e below (s₁.setTop (mkF m 63 #[.val (.ref a1), .val (.int (0 : Int32)), .val (.int (3 : Int32)), .val (.int p4), .val (.int (0 : Int32)), .val (.int (0 : Int32)), .val (.int (1 : Int32)), .val (.int (1 : Int32))] [])) _
            refine XS.goto X0.here hx rfl (pc0 := 63) (pc' := 8) rfl (hb hby d9_63) (by decide) (by decide) ?_
            show Steps p.tables e below (s₁.setTop (mkF m 8 #[.val (.ref a1), .val (.int (0 : Int32)), .val (.int (3 : Int32)), .val (.int p4), .val (.int (0 : Int32)), .val (.int (0 : Int32)), .val (.int (1 : Int32)), .val (.int (1 : Int32))] [])) _
            refine XS.iload X0.here hx rfl (hb hby d9_8) rfl ?_
            show Steps p.tables e below (s₁.setTop (mkF m 10 #[.val (.ref a1), .val (.int (0 : Int32)), .val (.int (3 : Int32)), .val (.int p4), .val (.int (0 : Int32)), .val (.int (0 : Int32)), .val (.int (1 : Int32)), .val (.int (1 : Int32))] [(.int (0 : Int32))])) _
            refine XS.iload X0.here hx rfl (hb hby d9_10) rfl ?_
            show Steps p.tables e below (s₁.setTop (mkF m 12 #[.val (.ref a1), .val (.int (0 : Int32)), .val (.int (3 : Int32)), .val (.int p4), .val (.int (0 : Int32)), .val (.int (0 : Int32)), .val (.int (1 : Int32)), .val (.int (1 : Int32))] [(.int (0 : Int32)), (.int (0 : Int32))])) _
            refine XS.icmpNo X0.here hx rfl (hb hby d9_12) rfl (flt hc12x).2.2.1 ?_
            show Steps p.tables e below (s₁.setTop (mkF m 15 #[.val (.ref a1), .val (.int (0 : Int32)), .val (.int (3 : Int32)), .val (.int p4), .val (.int (0 : Int32)), .val (.int (0 : Int32)), .val (.int (1 : Int32)), .val (.int (1 : Int32))] [])) _
            refine XS.iload X0.here hx rfl (hb hby d9_15) rfl ?_
            show Steps p.tables e below (s₁.setTop (mkF m 17 #[.val (.ref a1), .val (.int (0 : Int32)), .val (.int (3 : Int32)), .val (.int p4), .val (.int (0 : Int32)), .val (.int (0 : Int32)), .val (.int (1 : Int32)), .val (.int (1 : Int32))] [(.int (0 : Int32))])) _
            refine XS.iload X0.here hx rfl (hb hby d9_17) rfl ?_
            show Steps p.tables e below (s₁.setTop (mkF m 19 #[.val (.ref a1), .val (.int (0 : Int32)), .val (.int (3 : Int32)), .val (.int p4), .val (.int (0 : Int32)), .val (.int (0 : Int32)), .val (.int (1 : Int32)), .val (.int (1 : Int32))] [(.int (0 : Int32)), (.int (0 : Int32))])) _
            refine XS.iadd X0.here hx rfl (hb hby d9_19) rfl ?_
            show Steps p.tables e below (s₁.setTop (mkF m 20 #[.val (.ref a1), .val (.int (0 : Int32)), .val (.int (3 : Int32)), .val (.int p4), .val (.int (0 : Int32)), .val (.int (0 : Int32)), .val (.int (1 : Int32)), .val (.int (1 : Int32))] [(.int ((0 : Int32) + (0 : Int32)))])) _
            rw [show ((0 : Int32) + (0 : Int32)) = (0 : Int32) from by decide]
            show Steps p.tables e below (s₁.setTop (mkF m 20 #[.val (.ref a1), .val (.int (0 : Int32)), .val (.int (3 : Int32)), .val (.int p4), .val (.int (0 : Int32)), .val (.int (0 : Int32)), .val (.int (1 : Int32)), .val (.int (1 : Int32))] [(.int (0 : Int32))])) _
            refine XS.iconst X0.here hx rfl (hb hby d9_20) ?_
            show Steps p.tables e below (s₁.setTop (mkF m 21 #[.val (.ref a1), .val (.int (0 : Int32)), .val (.int (3 : Int32)), .val (.int p4), .val (.int (0 : Int32)), .val (.int (0 : Int32)), .val (.int (1 : Int32)), .val (.int (1 : Int32))] [(.int (1 : Int32)), (.int (0 : Int32))])) _
            refine XS.iushr X0.here hx rfl (hb hby d9_21) rfl ?_
            show Steps p.tables e below (s₁.setTop (mkF m 22 #[.val (.ref a1), .val (.int (0 : Int32)), .val (.int (3 : Int32)), .val (.int p4), .val (.int (0 : Int32)), .val (.int (0 : Int32)), .val (.int (1 : Int32)), .val (.int (1 : Int32))] [(.int (((0 : Int32).toUInt32 >>> ((1 : Int32) &&& 31).toUInt32).toInt32))])) _
            rw [show (((0 : Int32).toUInt32 >>> ((1 : Int32) &&& 31).toUInt32).toInt32) = (0 : Int32) from by decide]
            show Steps p.tables e below (s₁.setTop (mkF m 22 #[.val (.ref a1), .val (.int (0 : Int32)), .val (.int (3 : Int32)), .val (.int p4), .val (.int (0 : Int32)), .val (.int (0 : Int32)), .val (.int (1 : Int32)), .val (.int (1 : Int32))] [(.int (0 : Int32))])) _
            refine XS.istore X0.here hx rfl (hb hby d9_22) rfl (l' := #[.val (.ref a1), .val (.int (0 : Int32)), .val (.int (3 : Int32)), .val (.int p4), .val (.int (0 : Int32)), .val (.int (0 : Int32)), .val (.int (0 : Int32)), .val (.int (1 : Int32))]) rfl ?_
            show Steps p.tables e below (s₁.setTop (mkF m 24 #[.val (.ref a1), .val (.int (0 : Int32)), .val (.int (3 : Int32)), .val (.int p4), .val (.int (0 : Int32)), .val (.int (0 : Int32)), .val (.int (0 : Int32)), .val (.int (1 : Int32))] [])) _
            refine XS.aloadN X0.here hx rfl (hb hby d9_24) rfl rfl ?_
            show Steps p.tables e below (s₁.setTop (mkF m 25 #[.val (.ref a1), .val (.int (0 : Int32)), .val (.int (3 : Int32)), .val (.int p4), .val (.int (0 : Int32)), .val (.int (0 : Int32)), .val (.int (0 : Int32)), .val (.int (1 : Int32))] [(.ref a1)])) _
            refine XS.iload X0.here hx rfl (hb hby d9_25) rfl ?_
            show Steps p.tables e below (s₁.setTop (mkF m 27 #[.val (.ref a1), .val (.int (0 : Int32)), .val (.int (3 : Int32)), .val (.int p4), .val (.int (0 : Int32)), .val (.int (0 : Int32)), .val (.int (0 : Int32)), .val (.int (1 : Int32))] [(.int (0 : Int32)), (.ref a1)])) _
            refine X0.iaload hx (j := (0 : Int32)) (v := (.int (0 : Int32))) (by rw [e0]; exact Ar37.1) (State.isArrayOf_alike hZ.alike Ar37.2.1) Ar37.2.2 hin37 hat37 (g := (mkF m 27 #[.val (.ref a1), .val (.int (0 : Int32)), .val (.int (3 : Int32)), .val (.int p4), .val (.int (0 : Int32)), .val (.int (0 : Int32)), .val (.int (0 : Int32)), .val (.int (1 : Int32))] [(.int (0 : Int32)), (.ref a1)])) rfl rfl (hb hby d9_27) _ ?_
            show Steps p.tables e below (s₁.setTop (mkF m 28 #[.val (.ref a1), .val (.int (0 : Int32)), .val (.int (3 : Int32)), .val (.int p4), .val (.int (0 : Int32)), .val (.int (0 : Int32)), .val (.int (0 : Int32)), .val (.int (1 : Int32))] [(.int (0 : Int32))])) _
            refine XS.istore X0.here hx rfl (hb hby d9_28) rfl (l' := #[.val (.ref a1), .val (.int (0 : Int32)), .val (.int (3 : Int32)), .val (.int p4), .val (.int (0 : Int32)), .val (.int (0 : Int32)), .val (.int (0 : Int32)), .val (.int (0 : Int32))]) rfl ?_
            show Steps p.tables e below (s₁.setTop (mkF m 30 #[.val (.ref a1), .val (.int (0 : Int32)), .val (.int (3 : Int32)), .val (.int p4), .val (.int (0 : Int32)), .val (.int (0 : Int32)), .val (.int (0 : Int32)), .val (.int (0 : Int32))] [])) _
            refine XS.iload X0.here hx rfl (hb hby d9_30) rfl ?_
            show Steps p.tables e below (s₁.setTop (mkF m 32 #[.val (.ref a1), .val (.int (0 : Int32)), .val (.int (3 : Int32)), .val (.int p4), .val (.int (0 : Int32)), .val (.int (0 : Int32)), .val (.int (0 : Int32)), .val (.int (0 : Int32))] [(.int (0 : Int32))])) _
            refine XS.iloadN X0.here hx rfl (hb hby d9_32) rfl ?_
            show Steps p.tables e below (s₁.setTop (mkF m 33 #[.val (.ref a1), .val (.int (0 : Int32)), .val (.int (3 : Int32)), .val (.int p4), .val (.int (0 : Int32)), .val (.int (0 : Int32)), .val (.int (0 : Int32)), .val (.int (0 : Int32))] [(.int p4), (.int (0 : Int32))])) _
            refine XS.icmpYes X0.here hx rfl (pc0 := 33) (pc' := 45) rfl (hb hby d9_33) rfl (flt hc33x).2.1 (by decide) (by decide) ?_
            show Steps p.tables e below (s₁.setTop (mkF m 45 #[.val (.ref a1), .val (.int (0 : Int32)), .val (.int (3 : Int32)), .val (.int p4), .val (.int (0 : Int32)), .val (.int (0 : Int32)), .val (.int (0 : Int32)), .val (.int (0 : Int32))] [])) _
            refine XS.iload X0.here hx rfl (hb hby d9_45) rfl ?_
            show Steps p.tables e below (s₁.setTop (mkF m 47 #[.val (.ref a1), .val (.int (0 : Int32)), .val (.int (3 : Int32)), .val (.int p4), .val (.int (0 : Int32)), .val (.int (0 : Int32)), .val (.int (0 : Int32)), .val (.int (0 : Int32))] [(.int (0 : Int32))])) _
            refine XS.iloadN X0.here hx rfl (hb hby d9_47) rfl ?_
            show Steps p.tables e below (s₁.setTop (mkF m 48 #[.val (.ref a1), .val (.int (0 : Int32)), .val (.int (3 : Int32)), .val (.int p4), .val (.int (0 : Int32)), .val (.int (0 : Int32)), .val (.int (0 : Int32)), .val (.int (0 : Int32))] [(.int p4), (.int (0 : Int32))])) _
            refine XS.icmpYes X0.here hx rfl (pc0 := 48) (pc' := 60) rfl (hb hby d9_48) rfl (flt hc48x).2.2.2 (by decide) (by decide) ?_
            show Steps p.tables e below (s₁.setTop (mkF m 60 #[.val (.ref a1), .val (.int (0 : Int32)), .val (.int (3 : Int32)), .val (.int p4), .val (.int (0 : Int32)), .val (.int (0 : Int32)), .val (.int (0 : Int32)), .val (.int (0 : Int32))] [])) _
            refine XS.iload X0.here hx rfl (hb hby d9_60) rfl ?_
            show Steps p.tables e below (s₁.setTop (mkF m 62 #[.val (.ref a1), .val (.int (0 : Int32)), .val (.int (3 : Int32)), .val (.int p4), .val (.int (0 : Int32)), .val (.int (0 : Int32)), .val (.int (0 : Int32)), .val (.int (0 : Int32))] [(.int (0 : Int32))])) _
            exact retI X0 hx Bd.returns (hb hby d9_62) hr
          · show Q_9 Z a1 p4 h0 n0 _ s₁.heap _
            rw [e0]
            exact ⟨by simp [own_bs, hc12, hc33, hc48, hc12x, hc33x, hc48x], N0, rfl⟩
    · obtain ⟨fs, hr, hrun, hended, hW, hsame⟩ := X0.leave (v := some (.int (1 : Int32))) (fun h => by rw [Bd.returns] at h; cases h)
      refine ⟨_, _, pre0 _ ?_, hrun, hended, _, _, rfl, ?_, ⟨_, rfl⟩, hW, hsame.mono (by decide) (by decide)⟩
      · show Steps p.tables e below (s₁.setTop (mkF m 0 #[.val (.ref a1), .val (.int (0 : Int32)), .val (.int (3 : Int32)), .val (.int p4), .unset, .unset, .unset, .unset] [])) _
        refine XS.iloadN X0.here hx rfl (hb hby d9_0) rfl ?_
        show Steps p.tables e below (s₁.setTop (mkF m 1 #[.val (.ref a1), .val (.int (0 : Int32)), .val (.int (3 : Int32)), .val (.int p4), .unset, .unset, .unset, .unset] [(.int (0 : Int32))])) _
        refine XS.istore X0.here hx rfl (hb hby d9_1) rfl (l' := #[.val (.ref a1), .val (.int (0 : Int32)), .val (.int (3 : Int32)), .val (.int p4), .val (.int (0 : Int32)), .unset, .unset, .unset]) rfl ?_
        show Steps p.tables e below (s₁.setTop (mkF m 3 #[.val (.ref a1), .val (.int (0 : Int32)), .val (.int (3 : Int32)), .val (.int p4), .val (.int (0 : Int32)), .unset, .unset, .unset] [])) _
        refine XS.iloadN X0.here hx rfl (hb hby d9_3) rfl ?_
        show Steps p.tables e below (s₁.setTop (mkF m 4 #[.val (.ref a1), .val (.int (0 : Int32)), .val (.int (3 : Int32)), .val (.int p4), .val (.int (0 : Int32)), .unset, .unset, .unset] [(.int (3 : Int32))])) _
        refine XS.iconst X0.here hx rfl (hb hby d9_4) ?_
        show Steps p.tables e below (s₁.setTop (mkF m 5 #[.val (.ref a1), .val (.int (0 : Int32)), .val (.int (3 : Int32)), .val (.int p4), .val (.int (0 : Int32)), .unset, .unset, .unset] [(.int (1 : Int32)), (.int (3 : Int32))])) _
        refine XS.isub X0.here hx rfl (hb hby d9_5) rfl ?_
        show Steps p.tables e below (s₁.setTop (mkF m 6 #[.val (.ref a1), .val (.int (0 : Int32)), .val (.int (3 : Int32)), .val (.int p4), .val (.int (0 : Int32)), .unset, .unset, .unset] [(.int ((3 : Int32) - (1 : Int32)))])) _
        rw [show ((3 : Int32) - (1 : Int32)) = (2 : Int32) from by decide]
        show Steps p.tables e below (s₁.setTop (mkF m 6 #[.val (.ref a1), .val (.int (0 : Int32)), .val (.int (3 : Int32)), .val (.int p4), .val (.int (0 : Int32)), .unset, .unset, .unset] [(.int (2 : Int32))])) _
        refine XS.istore X0.here hx rfl (hb hby d9_6) rfl (l' := #[.val (.ref a1), .val (.int (0 : Int32)), .val (.int (3 : Int32)), .val (.int p4), .val (.int (0 : Int32)), .val (.int (2 : Int32)), .unset, .unset]) rfl ?_
        show Steps p.tables e below (s₁.setTop (mkF m 8 #[.val (.ref a1), .val (.int (0 : Int32)), .val (.int (3 : Int32)), .val (.int p4), .val (.int (0 : Int32)), .val (.int (2 : Int32)), .unset, .unset] [])) _
        refine XS.iload X0.here hx rfl (hb hby d9_8) rfl ?_
        show Steps p.tables e below (s₁.setTop (mkF m 10 #[.val (.ref a1), .val (.int (0 : Int32)), .val (.int (3 : Int32)), .val (.int p4), .val (.int (0 : Int32)), .val (.int (2 : Int32)), .unset, .unset] [(.int (0 : Int32))])) _
        refine XS.iload X0.here hx rfl (hb hby d9_10) rfl ?_
        show Steps p.tables e below (s₁.setTop (mkF m 12 #[.val (.ref a1), .val (.int (0 : Int32)), .val (.int (3 : Int32)), .val (.int p4), .val (.int (0 : Int32)), .val (.int (2 : Int32)), .unset, .unset] [(.int (2 : Int32)), (.int (0 : Int32))])) _
        refine XS.icmpNo X0.here hx rfl (hb hby d9_12) rfl (flt hc12).2.2.1 ?_
        show Steps p.tables e below (s₁.setTop (mkF m 15 #[.val (.ref a1), .val (.int (0 : Int32)), .val (.int (3 : Int32)), .val (.int p4), .val (.int (0 : Int32)), .val (.int (2 : Int32)), .unset, .unset] [])) _
        refine XS.iload X0.here hx rfl (hb hby d9_15) rfl ?_
        show Steps p.tables e below (s₁.setTop (mkF m 17 #[.val (.ref a1), .val (.int (0 : Int32)), .val (.int (3 : Int32)), .val (.int p4), .val (.int (0 : Int32)), .val (.int (2 : Int32)), .unset, .unset] [(.int (0 : Int32))])) _
        refine XS.iload X0.here hx rfl (hb hby d9_17) rfl ?_
        show Steps p.tables e below (s₁.setTop (mkF m 19 #[.val (.ref a1), .val (.int (0 : Int32)), .val (.int (3 : Int32)), .val (.int p4), .val (.int (0 : Int32)), .val (.int (2 : Int32)), .unset, .unset] [(.int (2 : Int32)), (.int (0 : Int32))])) _
        refine XS.iadd X0.here hx rfl (hb hby d9_19) rfl ?_
        show Steps p.tables e below (s₁.setTop (mkF m 20 #[.val (.ref a1), .val (.int (0 : Int32)), .val (.int (3 : Int32)), .val (.int p4), .val (.int (0 : Int32)), .val (.int (2 : Int32)), .unset, .unset] [(.int ((0 : Int32) + (2 : Int32)))])) _
        rw [show ((0 : Int32) + (2 : Int32)) = (2 : Int32) from by decide]
        show Steps p.tables e below (s₁.setTop (mkF m 20 #[.val (.ref a1), .val (.int (0 : Int32)), .val (.int (3 : Int32)), .val (.int p4), .val (.int (0 : Int32)), .val (.int (2 : Int32)), .unset, .unset] [(.int (2 : Int32))])) _
        refine XS.iconst X0.here hx rfl (hb hby d9_20) ?_
        show Steps p.tables e below (s₁.setTop (mkF m 21 #[.val (.ref a1), .val (.int (0 : Int32)), .val (.int (3 : Int32)), .val (.int p4), .val (.int (0 : Int32)), .val (.int (2 : Int32)), .unset, .unset] [(.int (1 : Int32)), (.int (2 : Int32))])) _
        refine XS.iushr X0.here hx rfl (hb hby d9_21) rfl ?_
        show Steps p.tables e below (s₁.setTop (mkF m 22 #[.val (.ref a1), .val (.int (0 : Int32)), .val (.int (3 : Int32)), .val (.int p4), .val (.int (0 : Int32)), .val (.int (2 : Int32)), .unset, .unset] [(.int (((2 : Int32).toUInt32 >>> ((1 : Int32) &&& 31).toUInt32).toInt32))])) _
        rw [show (((2 : Int32).toUInt32 >>> ((1 : Int32) &&& 31).toUInt32).toInt32) = (1 : Int32) from by decide]
        show Steps p.tables e below (s₁.setTop (mkF m 22 #[.val (.ref a1), .val (.int (0 : Int32)), .val (.int (3 : Int32)), .val (.int p4), .val (.int (0 : Int32)), .val (.int (2 : Int32)), .unset, .unset] [(.int (1 : Int32))])) _
        refine XS.istore X0.here hx rfl (hb hby d9_22) rfl (l' := #[.val (.ref a1), .val (.int (0 : Int32)), .val (.int (3 : Int32)), .val (.int p4), .val (.int (0 : Int32)), .val (.int (2 : Int32)), .val (.int (1 : Int32)), .unset]) rfl ?_
        show Steps p.tables e below (s₁.setTop (mkF m 24 #[.val (.ref a1), .val (.int (0 : Int32)), .val (.int (3 : Int32)), .val (.int p4), .val (.int (0 : Int32)), .val (.int (2 : Int32)), .val (.int (1 : Int32)), .unset] [])) _
        refine XS.aloadN X0.here hx rfl (hb hby d9_24) rfl rfl ?_
        show Steps p.tables e below (s₁.setTop (mkF m 25 #[.val (.ref a1), .val (.int (0 : Int32)), .val (.int (3 : Int32)), .val (.int p4), .val (.int (0 : Int32)), .val (.int (2 : Int32)), .val (.int (1 : Int32)), .unset] [(.ref a1)])) _
        refine XS.iload X0.here hx rfl (hb hby d9_25) rfl ?_
        show Steps p.tables e below (s₁.setTop (mkF m 27 #[.val (.ref a1), .val (.int (0 : Int32)), .val (.int (3 : Int32)), .val (.int p4), .val (.int (0 : Int32)), .val (.int (2 : Int32)), .val (.int (1 : Int32)), .unset] [(.int (1 : Int32)), (.ref a1)])) _
        refine X0.iaload hx (j := (1 : Int32)) (v := (.int (1 : Int32))) (by rw [e0]; exact Ar35.1) (State.isArrayOf_alike hZ.alike Ar35.2.1) Ar35.2.2 hin35 hat35 (g := (mkF m 27 #[.val (.ref a1), .val (.int (0 : Int32)), .val (.int (3 : Int32)), .val (.int p4), .val (.int (0 : Int32)), .val (.int (2 : Int32)), .val (.int (1 : Int32)), .unset] [(.int (1 : Int32)), (.ref a1)])) rfl rfl (hb hby d9_27) _ ?_
        show Steps p.tables e below (s₁.setTop (mkF m 28 #[.val (.ref a1), .val (.int (0 : Int32)), .val (.int (3 : Int32)), .val (.int p4), .val (.int (0 : Int32)), .val (.int (2 : Int32)), .val (.int (1 : Int32)), .unset] [(.int (1 : Int32))])) _
        refine XS.istore X0.here hx rfl (hb hby d9_28) rfl (l' := #[.val (.ref a1), .val (.int (0 : Int32)), .val (.int (3 : Int32)), .val (.int p4), .val (.int (0 : Int32)), .val (.int (2 : Int32)), .val (.int (1 : Int32)), .val (.int (1 : Int32))]) rfl ?_
        show Steps p.tables e below (s₁.setTop (mkF m 30 #[.val (.ref a1), .val (.int (0 : Int32)), .val (.int (3 : Int32)), .val (.int p4), .val (.int (0 : Int32)), .val (.int (2 : Int32)), .val (.int (1 : Int32)), .val (.int (1 : Int32))] [])) _
        refine XS.iload X0.here hx rfl (hb hby d9_30) rfl ?_
        show Steps p.tables e below (s₁.setTop (mkF m 32 #[.val (.ref a1), .val (.int (0 : Int32)), .val (.int (3 : Int32)), .val (.int p4), .val (.int (0 : Int32)), .val (.int (2 : Int32)), .val (.int (1 : Int32)), .val (.int (1 : Int32))] [(.int (1 : Int32))])) _
        refine XS.iloadN X0.here hx rfl (hb hby d9_32) rfl ?_
        show Steps p.tables e below (s₁.setTop (mkF m 33 #[.val (.ref a1), .val (.int (0 : Int32)), .val (.int (3 : Int32)), .val (.int p4), .val (.int (0 : Int32)), .val (.int (2 : Int32)), .val (.int (1 : Int32)), .val (.int (1 : Int32))] [(.int p4), (.int (1 : Int32))])) _
        refine XS.icmpYes X0.here hx rfl (pc0 := 33) (pc' := 45) rfl (hb hby d9_33) rfl (flt hc33).2.1 (by decide) (by decide) ?_
        show Steps p.tables e below (s₁.setTop (mkF m 45 #[.val (.ref a1), .val (.int (0 : Int32)), .val (.int (3 : Int32)), .val (.int p4), .val (.int (0 : Int32)), .val (.int (2 : Int32)), .val (.int (1 : Int32)), .val (.int (1 : Int32))] [])) _
        refine XS.iload X0.here hx rfl (hb hby d9_45) rfl ?_
        show Steps p.tables e below (s₁.setTop (mkF m 47 #[.val (.ref a1), .val (.int (0 : Int32)), .val (.int (3 : Int32)), .val (.int p4), .val (.int (0 : Int32)), .val (.int (2 : Int32)), .val (.int (1 : Int32)), .val (.int (1 : Int32))] [(.int (1 : Int32))])) _
        refine XS.iloadN X0.here hx rfl (hb hby d9_47) rfl ?_
        show Steps p.tables e below (s₁.setTop (mkF m 48 #[.val (.ref a1), .val (.int (0 : Int32)), .val (.int (3 : Int32)), .val (.int p4), .val (.int (0 : Int32)), .val (.int (2 : Int32)), .val (.int (1 : Int32)), .val (.int (1 : Int32))] [(.int p4), (.int (1 : Int32))])) _
        refine XS.icmpYes X0.here hx rfl (pc0 := 48) (pc' := 60) rfl (hb hby d9_48) rfl (flt hc48).2.2.2 (by decide) (by decide) ?_
        show Steps p.tables e below (s₁.setTop (mkF m 60 #[.val (.ref a1), .val (.int (0 : Int32)), .val (.int (3 : Int32)), .val (.int p4), .val (.int (0 : Int32)), .val (.int (2 : Int32)), .val (.int (1 : Int32)), .val (.int (1 : Int32))] [])) _
        refine XS.iload X0.here hx rfl (hb hby d9_60) rfl ?_
        show Steps p.tables e below (s₁.setTop (mkF m 62 #[.val (.ref a1), .val (.int (0 : Int32)), .val (.int (3 : Int32)), .val (.int p4), .val (.int (0 : Int32)), .val (.int (2 : Int32)), .val (.int (1 : Int32)), .val (.int (1 : Int32))] [(.int (1 : Int32))])) _
        exact retI X0 hx Bd.returns (hb hby d9_62) hr
      · show Q_9 Z a1 p4 h0 n0 _ s₁.heap _
        rw [e0]
        exact ⟨by simp [own_bs, hc12, hc33, hc48], N0, rfl⟩
theorem d7_0 : decode jdk_65_method_58_code 0 = .ok (.aload_n 0, 1) := by decide +kernel
theorem d7_1 : decode jdk_65_method_58_code 1 = .ok (.arraylength, 1) := by decide +kernel
theorem d7_2 : decode jdk_65_method_58_code 2 = .ok (.iload_n 1, 1) := by decide +kernel
theorem d7_3 : decode jdk_65_method_58_code 3 = .ok (.iload_n 2, 1) := by decide +kernel
theorem d7_4 : decode jdk_65_method_58_code 4 = .ok (.invokestatic 13, 3) := by decide +kernel
theorem d7_7 : decode jdk_65_method_58_code 7 = .ok (.aload_n 0, 1) := by decide +kernel
theorem d7_8 : decode jdk_65_method_58_code 8 = .ok (.iload_n 1, 1) := by decide +kernel
theorem d7_9 : decode jdk_65_method_58_code 9 = .ok (.iload_n 2, 1) := by decide +kernel
theorem d7_10 : decode jdk_65_method_58_code 10 = .ok (.iload_n 3, 1) := by decide +kernel
theorem d7_11 : decode jdk_65_method_58_code 11 = .ok (.invokestatic 209, 3) := by decide +kernel
theorem d7_14 : decode jdk_65_method_58_code 14 = .ok (.ireturn, 1) := by decide +kernel
theorem pd__28III_29V : parseMethodDescriptor "(III)V" = some ⟨[.int, .int, .int], none⟩ := by decide +kernel
theorem pd__28_5bIIII_29I : parseMethodDescriptor "([IIII)I" = some ⟨[(.array .int), .int, .int, .int], some .int⟩ := by decide +kernel
theorem pn_7 : plainName "java/util/Arrays" = true := by first | (simp [plainName, overriddenIn]; done) | decide +kernel
theorem ef_7l1l2 (m : MethodId) (x0 : Addr) (x3 : Int32) : entryFrame m #[(.ref x0), (.int (0 : Int32)), (.int (3 : Int32)), (.int x3)] 4 = mkF m 0 #[.val (.ref x0), .val (.int (0 : Int32)), .val (.int (3 : Int32)), .val (.int x3)] [] := by first | (simp [entryFrame, mkF, argsToLocals, Value.category]; done) | rfl
def Q_7 (Z : State) (a1 : Addr) (p4 : Int32) (h0 : Heap) (n0 : Nat) (v : Option Value) (h : Heap) (L : List Loc) : Prop := v = some (.int (own_bs p4)) ∧ Fr n0 L ∧ h = h0
set_option maxRecDepth 65536 in
set_option maxHeartbeats 40000000 in
theorem rm_7 (l : Launch) (Z : State) (a0 : Array Value) (hw : ∀ d ∈ tables_1, d.before a0 Z = true) (ws : List Jvm.Cond) (a1 : Addr) (p4 : Int32) (kd : ClassId) (h0 : Heap) (n0 : Nat) (Z0 : n0 ≤ h0.size) (V_1 : Arv Z h0 a1 kd .int (3 : Int32) [(.int (0 : Int32)), (.int (1 : Int32)), (.int (2 : Int32))] (.int (0 : Int32))) :
    MetFree l (⟨"java/util/Arrays", "binarySearch", "([IIII)I"⟩ : MethodName) (head1 (Jvm.Cond.code (⟨"java/util/Arrays", "binarySearch", "([IIII)I"⟩ : MethodName) jdk_65_method_58_code 4 (some .int) :: ws) ({ frames := 1, cells := 0, slots := 0, locals := 19 } : Room)) (fun a U => a = #[(.ref a1), (.int (0 : Int32)), (.int (3 : Int32)), (.int p4)] ∧ Z.Warmed39 U.vm ∧ U.heap = h0) (fun _ _ _ _ _ => True) (fun _ U o U' => ∃ v L, o = .returned v ∧ Q_7 Z a1 p4 h0 n0 v U'.heap L ∧ FrameEnd U o U' L ({ frames := 1, cells := 0, slots := 0, locals := 19 } : Room).cells ({ frames := 1, cells := 0, slots := 0, locals := 19 } : Room).slots) := by
  refine MetFree.of_bodySF (plainFor_of_name pn_7) hisR ?_
  intro p e s m args below meth cod_ s₁ Bd hml0 hP hK
  obtain ⟨rfl, hZ, hh⟩ := hP
  have hx := Bd.exec
  have hby := Bd.bytes
  have hml : cod_.maxLocals = 4 := hml0
  have hown : s.vm.findClass "java/util/Arrays" = some m.cls := findClass_of_methodNamed Bd.named
  have hnm := (name_of_methodNamed Bd.named Bd.method).1
  have X0 : Stand p l e ({ frames := 1, cells := 0, slots := 0, locals := 19 } : Room) s m #[(.ref a1), (.int (0 : Int32)), (.int (3 : Int32)), (.int p4)] below meth cod_ s₁ [] 0 0 := Stand.of_body Bd
  have e0 : s₁.heap = h0 := by rw [← hh, Bd.state]; rfl
  have N0 := Fr.nil n0
  have pre0 : ∀ t, Steps p.tables e below (s₁.setTop (mkF m 0 #[.val (.ref a1), .val (.int (0 : Int32)), .val (.int (3 : Int32)), .val (.int p4)] [])) t → Steps p.tables e below (s₁.setTop (entryFrame m #[(.ref a1), (.int (0 : Int32)), (.int (3 : Int32)), (.int p4)] 4)) t := fun t k => castTop (ef_7l1l2 m a1 p4) k
  obtain ⟨cl38, Ar38, -, S38, M38, -, -⟩ := id (V_1)
  obtain ⟨_, _, ⟨T39, L39, c39_, n39_⟩, -, X39, ⟨Lc39, hQ39, l39, y39, z39⟩, st39⟩ := Jvm.LawKit.callS X0 hx (y := (⟨"java/util/Arrays", "rangeCheck", "(III)V"⟩ : MethodName)) hown (mvT hZ (hw _ (List.mem_of_getElem? (i := 39) rfl))) (mvT hZ (hw _ (List.mem_of_getElem? (i := 40) rfl))) (mvT hZ (hw _ (List.mem_of_getElem? (i := 37) rfl))) (mvT hZ (hw _ (List.mem_of_getElem? (i := 41) rfl))) (by decide) (backOf (W := 0) (rm_8 l Z a0 hw [] (3 : Int32) (0 : Int32) (3 : Int32) h0 n0 (Nat.le_trans Z0 (Keep.refl h0 []).1) (by decide) (by decide) (by decide)) hZ (hw _ (List.mem_of_getElem? (i := 41) rfl)) (hw _ (List.mem_of_getElem? (i := 37) rfl)) (by decide) (by decide)) (g := (mkF m 4 #[.val (.ref a1), .val (.int (0 : Int32)), .val (.int (3 : Int32)), .val (.int p4)] [(.int (3 : Int32)), (.int (0 : Int32)), (.int (3 : Int32))])) rfl (by rw [hml]; rfl) (argsL := [(.int (3 : Int32)), (.int (0 : Int32)), (.int (3 : Int32))]) (rest := []) (lenOf pd__28III_29V rfl) rfl (by show 2 * 0 + _ ≤ _; exact Nat.le_of_eq rfl) (hb hby d7_4) (fun _ _ => ⟨rfl, e0, (by decide : 0 + 0 ≤ _), (by decide : 0 + 0 ≤ _)⟩)
  dsimp only [Pt.U, Pt.locs, Pt.cells, Pt.slots] at X39 l39 y39 z39 st39 hQ39
  subst l39 y39 z39
  obtain ⟨rfl, Nq39, e39⟩ := hQ39
  have N39 := Fr.app N0 Nq39
  obtain ⟨_, _, ⟨T40, L40, c40_, n40_⟩, -, X40, ⟨Lc40, hQ40, l40, y40, z40⟩, st40⟩ := Jvm.LawKit.callS X39 hx (y := (⟨"java/util/Arrays", "binarySearch0", "([IIII)I"⟩ : MethodName)) hown (mvT hZ (hw _ (List.mem_of_getElem? (i := 42) rfl))) (mvT hZ (hw _ (List.mem_of_getElem? (i := 43) rfl))) (mvT hZ (hw _ (List.mem_of_getElem? (i := 37) rfl))) (mvT hZ (hw _ (List.mem_of_getElem? (i := 44) rfl))) (by decide) (backOf (W := 0) (rm_9 l Z a0 hw [] a1 p4 kd h0 n0 (Nat.le_trans Z0 (Keep.refl h0 []).1) V_1) hZ (hw _ (List.mem_of_getElem? (i := 44) rfl)) (hw _ (List.mem_of_getElem? (i := 37) rfl)) (by decide) (by decide)) (g := (mkF m 11 #[.val (.ref a1), .val (.int (0 : Int32)), .val (.int (3 : Int32)), .val (.int p4)] [(.int p4), (.int (3 : Int32)), (.int (0 : Int32)), (.ref a1)])) rfl (by rw [hml]; rfl) (argsL := [(.ref a1), (.int (0 : Int32)), (.int (3 : Int32)), (.int p4)]) (rest := []) (lenOf pd__28_5bIIII_29I rfl) rfl (by show 2 * 0 + _ ≤ _; exact Nat.le_of_eq rfl) (hb hby d7_11) (fun _ _ => ⟨rfl, e39, (by decide : 0 + 0 ≤ _), (by decide : 0 + 0 ≤ _)⟩)
  dsimp only [Pt.U, Pt.locs, Pt.cells, Pt.slots] at X40 l40 y40 z40 st40 hQ40
  subst l40 y40 z40
  obtain ⟨rfl, Nq40, e40⟩ := hQ40
  have N40 := Fr.app N39 Nq40
  obtain ⟨fs, hr, hrun, hended, hW, hsame⟩ := X40.leave (v := some (.int (own_bs p4))) (fun h => by rw [Bd.returns] at h; cases h)
  refine ⟨_, _, pre0 _ ?_, hrun, hended, _, _, rfl, ?_, ⟨_, rfl⟩, hW, hsame.mono (by decide) (by decide)⟩
  · show Steps p.tables e below (s₁.setTop (mkF m 0 #[.val (.ref a1), .val (.int (0 : Int32)), .val (.int (3 : Int32)), .val (.int p4)] [])) _
    refine XS.aloadN X0.here hx rfl (hb hby d7_0) rfl rfl ?_
    show Steps p.tables e below (s₁.setTop (mkF m 1 #[.val (.ref a1), .val (.int (0 : Int32)), .val (.int (3 : Int32)), .val (.int p4)] [(.ref a1)])) _
    refine X0.arraylength hx (by rw [e0]; exact Ar38.1) (State.isArrayOf_alike hZ.alike Ar38.2.1) (g := (mkF m 1 #[.val (.ref a1), .val (.int (0 : Int32)), .val (.int (3 : Int32)), .val (.int p4)] [(.ref a1)])) rfl rfl (hb hby d7_1) _ ?_
    rw [len_of S38 M38]
    show Steps p.tables e below (s₁.setTop (mkF m 2 #[.val (.ref a1), .val (.int (0 : Int32)), .val (.int (3 : Int32)), .val (.int p4)] [(.int (3 : Int32))])) _
    refine XS.iloadN X0.here hx rfl (hb hby d7_2) rfl ?_
    show Steps p.tables e below (s₁.setTop (mkF m 3 #[.val (.ref a1), .val (.int (0 : Int32)), .val (.int (3 : Int32)), .val (.int p4)] [(.int (0 : Int32)), (.int (3 : Int32))])) _
    refine XS.iloadN X0.here hx rfl (hb hby d7_3) rfl ?_
    show Steps p.tables e below (s₁.setTop (mkF m 4 #[.val (.ref a1), .val (.int (0 : Int32)), .val (.int (3 : Int32)), .val (.int p4)] [(.int (3 : Int32)), (.int (0 : Int32)), (.int (3 : Int32))])) _
    refine st39 _ ?_
    show Steps p.tables e below (T39.setTop (mkF m 7 #[.val (.ref a1), .val (.int (0 : Int32)), .val (.int (3 : Int32)), .val (.int p4)] [])) _
    refine XS.aloadN X39.here hx rfl (hb hby d7_7) rfl rfl ?_
    show Steps p.tables e below (T39.setTop (mkF m 8 #[.val (.ref a1), .val (.int (0 : Int32)), .val (.int (3 : Int32)), .val (.int p4)] [(.ref a1)])) _
    refine XS.iloadN X39.here hx rfl (hb hby d7_8) rfl ?_
    show Steps p.tables e below (T39.setTop (mkF m 9 #[.val (.ref a1), .val (.int (0 : Int32)), .val (.int (3 : Int32)), .val (.int p4)] [(.int (0 : Int32)), (.ref a1)])) _
    refine XS.iloadN X39.here hx rfl (hb hby d7_9) rfl ?_
    show Steps p.tables e below (T39.setTop (mkF m 10 #[.val (.ref a1), .val (.int (0 : Int32)), .val (.int (3 : Int32)), .val (.int p4)] [(.int (3 : Int32)), (.int (0 : Int32)), (.ref a1)])) _
    refine XS.iloadN X39.here hx rfl (hb hby d7_10) rfl ?_
    show Steps p.tables e below (T39.setTop (mkF m 11 #[.val (.ref a1), .val (.int (0 : Int32)), .val (.int (3 : Int32)), .val (.int p4)] [(.int p4), (.int (3 : Int32)), (.int (0 : Int32)), (.ref a1)])) _
    refine st40 _ ?_
    show Steps p.tables e below (T40.setTop (mkF m 14 #[.val (.ref a1), .val (.int (0 : Int32)), .val (.int (3 : Int32)), .val (.int p4)] [(.int (own_bs p4))])) _
    exact retI X40 hx Bd.returns (hb hby d7_14) hr
  · show Q_7 Z a1 p4 h0 n0 _ T40.heap _
    rw [e40]
    exact ⟨rfl, N40, rfl⟩
theorem d6_0 : decode prog_6_method_8_code 0 = .ok (.aload_n 0, 1) := by decide +kernel
theorem d6_1 : decode prog_6_method_8_code 1 = .ok (.getfield 16, 3) := by decide +kernel
theorem d6_4 : decode prog_6_method_8_code 4 = .ok (.iconst 0, 1) := by decide +kernel
theorem d6_5 : decode prog_6_method_8_code 5 = .ok (.aload_n 0, 1) := by decide +kernel
theorem d6_6 : decode prog_6_method_8_code 6 = .ok (.getfield 27, 3) := by decide +kernel
theorem d6_9 : decode prog_6_method_8_code 9 = .ok (.iload_n 1, 1) := by decide +kernel
theorem d6_10 : decode prog_6_method_8_code 10 = .ok (.invokestatic 35, 3) := by decide +kernel
theorem d6_13 : decode prog_6_method_8_code 13 = .ok (.istore_n 2, 1) := by decide +kernel
theorem d6_14 : decode prog_6_method_8_code 14 = .ok (.iload_n 2, 1) := by decide +kernel
theorem d6_15 : decode prog_6_method_8_code 15 = .ok (.ifCond .lt 7, 3) := by decide +kernel
theorem d6_18 : decode prog_6_method_8_code 18 = .ok (.iload_n 2, 1) := by decide +kernel
theorem d6_19 : decode prog_6_method_8_code 19 = .ok (.goto 7, 3) := by decide +kernel
theorem d6_22 : decode prog_6_method_8_code 22 = .ok (.iload_n 2, 1) := by decide +kernel
theorem d6_23 : decode prog_6_method_8_code 23 = .ok (.ineg, 1) := by decide +kernel
theorem d6_24 : decode prog_6_method_8_code 24 = .ok (.iconst 1, 1) := by decide +kernel
theorem d6_25 : decode prog_6_method_8_code 25 = .ok (.isub, 1) := by decide +kernel
theorem d6_26 : decode prog_6_method_8_code 26 = .ok (.istore_n 3, 1) := by decide +kernel
theorem d6_27 : decode prog_6_method_8_code 27 = .ok (.iload_n 3, 1) := by decide +kernel
theorem d6_28 : decode prog_6_method_8_code 28 = .ok (.aload_n 0, 1) := by decide +kernel
theorem d6_29 : decode prog_6_method_8_code 29 = .ok (.getfield 27, 3) := by decide +kernel
theorem d6_32 : decode prog_6_method_8_code 32 = .ok (.if_icmp .ne 7, 3) := by decide +kernel
theorem d6_35 : decode prog_6_method_8_code 35 = .ok (.aload_n 0, 1) := by decide +kernel
theorem d6_36 : decode prog_6_method_8_code 36 = .ok (.goto 23, 3) := by decide +kernel
theorem d6_39 : decode prog_6_method_8_code 39 = .ok (.new 2, 3) := by decide +kernel
theorem d6_42 : decode prog_6_method_8_code 42 = .ok (.dup, 1) := by decide +kernel
theorem d6_43 : decode prog_6_method_8_code 43 = .ok (.aload_n 0, 1) := by decide +kernel
theorem d6_44 : decode prog_6_method_8_code 44 = .ok (.getfield 16, 3) := by decide +kernel
theorem d6_47 : decode prog_6_method_8_code 47 = .ok (.aload_n 0, 1) := by decide +kernel
theorem d6_48 : decode prog_6_method_8_code 48 = .ok (.getfield 20, 3) := by decide +kernel
theorem d6_51 : decode prog_6_method_8_code 51 = .ok (.aload_n 0, 1) := by decide +kernel
theorem d6_52 : decode prog_6_method_8_code 52 = .ok (.getfield 23, 3) := by decide +kernel
theorem d6_55 : decode prog_6_method_8_code 55 = .ok (.iload_n 3, 1) := by decide +kernel
theorem d6_56 : decode prog_6_method_8_code 56 = .ok (.invokespecial 7, 3) := by decide +kernel
theorem d6_59 : decode prog_6_method_8_code 59 = .ok (.areturn, 1) := by decide +kernel
theorem pn_6 : plainName "com/example/vrabec/vrabec/index/Postings" = true := by first | (simp [plainName, overriddenIn]; done) | decide +kernel
theorem ef_6 (m : MethodId) (x0 : Addr) (x1 : Int32) : entryFrame m #[(.ref x0), (.int x1)] 4 = mkF m 0 #[.val (.ref x0), .val (.int x1), .unset, .unset] [] := by first | (simp [entryFrame, mkF, argsToLocals, Value.category]; done) | rfl
def Q_6 (Z : State) (a1 : Addr) (p2 : Int32) (oa : Addr) (h0 : Heap) (n0 : Nat) (v : Option Value) (h : Heap) (L : List Loc) : Prop := ∃ r : Addr, v = some (.ref r) ∧ Fr n0 L ∧ Keep h0 h [] ∧ Exa Z h r "com/example/vrabec/vrabec/index/Postings" ∧ Fld Z h r "com/example/vrabec/vrabec/index/Postings" "occurrences" "[J" (.ref oa) ∧ Fld Z h r "com/example/vrabec/vrabec/index/Postings" "size" "I" (.int (own_cut p2))
set_option maxRecDepth 65536 in
set_option maxHeartbeats 40000000 in
theorem rm_6 (l : Launch) (Z : State) (a0 : Array Value) (hw : ∀ d ∈ tables_1, d.before a0 Z = true) (ws : List Jvm.Cond) (a1 : Addr) (p2 : Int32) (oa : Addr) (da fa : Addr) (kd : ClassId) (h0 : Heap) (n0 : Nat) (Z0 : n0 ≤ h0.size) (E_1 : Exa Z h0 a1 "com/example/vrabec/vrabec/index/Postings") (F_d : Fld Z h0 a1 "com/example/vrabec/vrabec/index/Postings" "docs" "[I" (.ref da)) (F_f : Fld Z h0 a1 "com/example/vrabec/vrabec/index/Postings" "frequencies" "[I" (.ref fa)) (F_o : Fld Z h0 a1 "com/example/vrabec/vrabec/index/Postings" "occurrences" "[J" (.ref oa)) (F_s : Fld Z h0 a1 "com/example/vrabec/vrabec/index/Postings" "size" "I" (.int (3 : Int32))) (V_1 : Arv Z h0 da kd .int (3 : Int32) [(.int (0 : Int32)), (.int (1 : Int32)), (.int (2 : Int32))] (.int (0 : Int32))) :
    MetFree l (⟨"com/example/vrabec/vrabec/index/Postings", "before", "(I)Lcom/example/vrabec/vrabec/index/Postings;"⟩ : MethodName) (head1 (Jvm.Cond.code (⟨"com/example/vrabec/vrabec/index/Postings", "before", "(I)Lcom/example/vrabec/vrabec/index/Postings;"⟩ : MethodName) prog_6_method_8_code 4 (some (.object "com/example/vrabec/vrabec/index/Postings")) :: ws) ({ frames := 2, cells := 1, slots := 4, locals := 34 } : Room)) (fun a U => a = #[(.ref a1), (.int p2)] ∧ Z.Warmed39 U.vm ∧ U.heap = h0) (fun _ _ _ _ _ => True) (fun _ U o U' => ∃ v L, o = .returned v ∧ Q_6 Z a1 p2 oa h0 n0 v U'.heap L ∧ FrameEnd U o U' L ({ frames := 2, cells := 1, slots := 4, locals := 34 } : Room).cells ({ frames := 2, cells := 1, slots := 4, locals := 34 } : Room).slots) := by
  refine MetFree.of_bodySF (plainFor_of_name pn_6) hisR ?_
  intro p e s m args below meth cod_ s₁ Bd hml0 hP hK
  obtain ⟨rfl, hZ, hh⟩ := hP
  have hx := Bd.exec
  have hby := Bd.bytes
  have hml : cod_.maxLocals = 4 := hml0
  have hown : s.vm.findClass "com/example/vrabec/vrabec/index/Postings" = some m.cls := findClass_of_methodNamed Bd.named
  have hnm := (name_of_methodNamed Bd.named Bd.method).1
  have X0 : Stand p l e ({ frames := 2, cells := 1, slots := 4, locals := 34 } : Room) s m #[(.ref a1), (.int p2)] below meth cod_ s₁ [] 0 0 := Stand.of_body Bd
  have e0 : s₁.heap = h0 := by rw [← hh, Bd.state]; rfl
  have N0 := Fr.nil n0
  have pre0 : ∀ t, Steps p.tables e below (s₁.setTop (mkF m 0 #[.val (.ref a1), .val (.int p2), .unset, .unset] [])) t → Steps p.tables e below (s₁.setTop (entryFrame m #[(.ref a1), (.int p2)] 4)) t := fun t k => castTop (ef_6 m a1 p2) k
  obtain ⟨T41, X41, e41, st41⟩ := getF X0 hx hZ hown (host := "") (Or.inl (hw _ (List.mem_of_getElem? (i := 22) rfl))) Via.refl e0 F_d (g := (mkF m 1 #[.val (.ref a1), .val (.int p2), .unset, .unset] [(.ref a1)])) rfl rfl (hb hby d6_1)
  obtain ⟨T42, X42, e42, st42⟩ := getF X41 hx hZ hown (host := "") (Or.inl (hw _ (List.mem_of_getElem? (i := 28) rfl))) Via.refl e41 F_s (g := (mkF m 6 #[.val (.ref a1), .val (.int p2), .unset, .unset] [(.ref a1), (.int (0 : Int32)), (.ref da)])) rfl rfl (hb hby d6_6)
  obtain ⟨_, _, ⟨T43, L43, c43_, n43_⟩, -, X43, ⟨Lc43, hQ43, l43, y43, z43⟩, st43⟩ := Jvm.LawKit.callS X42 hx (y := (⟨"java/util/Arrays", "binarySearch", "([IIII)I"⟩ : MethodName)) hown (mvT hZ (hw _ (List.mem_of_getElem? (i := 35) rfl))) (mvT hZ (hw _ (List.mem_of_getElem? (i := 36) rfl))) (mvT hZ (hw _ (List.mem_of_getElem? (i := 37) rfl))) (mvT hZ (hw _ (List.mem_of_getElem? (i := 38) rfl))) (by decide) (backOf (W := 0) (rm_7 l Z a0 hw [] da p2 kd h0 n0 (Nat.le_trans Z0 (Keep.refl h0 []).1) V_1) hZ (hw _ (List.mem_of_getElem? (i := 38) rfl)) (hw _ (List.mem_of_getElem? (i := 37) rfl)) (by decide) (by decide)) (g := (mkF m 10 #[.val (.ref a1), .val (.int p2), .unset, .unset] [(.int p2), (.int (3 : Int32)), (.int (0 : Int32)), (.ref da)])) rfl (by rw [hml]; rfl) (argsL := [(.ref da), (.int (0 : Int32)), (.int (3 : Int32)), (.int p2)]) (rest := []) (lenOf pd__28_5bIIII_29I rfl) rfl (by show 2 * 0 + _ ≤ _; exact Nat.le_of_eq rfl) (hb hby d6_10) (fun _ _ => ⟨rfl, e42, (by decide : 0 + 0 ≤ _), (by decide : 0 + 0 ≤ _)⟩)
  dsimp only [Pt.U, Pt.locs, Pt.cells, Pt.slots] at X43 l43 y43 z43 st43 hQ43
  subst l43 y43 z43
  obtain ⟨rfl, Nq43, e43⟩ := hQ43
  have N43 := Fr.app N0 Nq43
  have md44 : ∀ t, Steps p.tables e below (T43.setTop (mkF m 26 #[.val (.ref a1), .val (.int p2), .val (.int (own_bs p2)), .unset] [(.int (if (own_bs p2) < (0 : Int32) then ((-(own_bs p2)) - (1 : Int32)) else (own_bs p2)))])) t → Steps p.tables e below (T43.setTop (mkF m 15 #[.val (.ref a1), .val (.int p2), .val (.int (own_bs p2)), .unset] [(.int (own_bs p2))])) t := by
    intro t kt
    by_cases hd15 : (own_bs p2) < (0 : Int32)
    · rw [show (if (own_bs p2) < (0 : Int32) then ((-(own_bs p2)) - (1 : Int32)) else (own_bs p2)) = ((-(own_bs p2)) - (1 : Int32)) from if_pos hd15] at kt
      show Steps p.tables e below (T43.setTop (mkF m 15 #[.val (.ref a1), .val (.int p2), .val (.int (own_bs p2)), .unset] [(.int (own_bs p2))])) _
      refine XS.ifYes X43.here hx rfl (pc0 := 15) (pc' := 22) rfl (hb hby d6_15) rfl ((if0 _ _).trans (tlt hd15).1) (by decide) (by decide) ?_
      show Steps p.tables e below (T43.setTop (mkF m 22 #[.val (.ref a1), .val (.int p2), .val (.int (own_bs p2)), .unset] [])) _
      refine XS.iloadN X43.here hx rfl (hb hby d6_22) rfl ?_
      show Steps p.tables e below (T43.setTop (mkF m 23 #[.val (.ref a1), .val (.int p2), .val (.int (own_bs p2)), .unset] [(.int (own_bs p2))])) _
      refine XS.ineg X43.here hx rfl (hb hby d6_23) rfl ?_
      show Steps p.tables e below (T43.setTop (mkF m 24 #[.val (.ref a1), .val (.int p2), .val (.int (own_bs p2)), .unset] [(.int (-(own_bs p2)))])) _
      refine XS.iconst X43.here hx rfl (hb hby d6_24) ?_
      show Steps p.tables e below (T43.setTop (mkF m 25 #[.val (.ref a1), .val (.int p2), .val (.int (own_bs p2)), .unset] [(.int (1 : Int32)), (.int (-(own_bs p2)))])) _
      refine XS.isub X43.here hx rfl (hb hby d6_25) rfl ?_
      exact kt
    · rw [show (if (own_bs p2) < (0 : Int32) then ((-(own_bs p2)) - (1 : Int32)) else (own_bs p2)) = (own_bs p2) from if_neg hd15] at kt
      show Steps p.tables e below (T43.setTop (mkF m 15 #[.val (.ref a1), .val (.int p2), .val (.int (own_bs p2)), .unset] [(.int (own_bs p2))])) _
      refine XS.ifNo X43.here hx rfl (hb hby d6_15) rfl ((if0 _ _).trans (flt hd15).1) ?_
      show Steps p.tables e below (T43.setTop (mkF m 18 #[.val (.ref a1), .val (.int p2), .val (.int (own_bs p2)), .unset] [])) _
      refine XS.iloadN X43.here hx rfl (hb hby d6_18) rfl ?_
      show Steps p.tables e below (T43.setTop (mkF m 19 #[.val (.ref a1), .val (.int p2), .val (.int (own_bs p2)), .unset] [(.int (own_bs p2))])) _
      refine XS.goto X43.here hx rfl (pc0 := 19) (pc' := 26) rfl (hb hby d6_19) (by decide) (by decide) ?_
      exact kt
  obtain ⟨cu, e_cu⟩ : ∃ z : Int32, z = (if (own_bs p2) < (0 : Int32) then ((-(own_bs p2)) - (1 : Int32)) else (own_bs p2)) := ⟨_, rfl⟩
  obtain ⟨T45, X45, e45, st45⟩ := getF X43 hx hZ hown (host := "") (Or.inl (hw _ (List.mem_of_getElem? (i := 28) rfl))) Via.refl e43 F_s (g := (mkF m 29 #[.val (.ref a1), .val (.int p2), .val (.int (own_bs p2)), .val (.int cu)] [(.ref a1), (.int cu)])) rfl rfl (hb hby d6_29)
  by_cases hc32 : cu = (3 : Int32)
  · obtain ⟨fs, hr, hrun, hended, hW, hsame⟩ := X45.leave (v := some (.ref a1)) (fun h => by rw [Bd.returns] at h; cases h)
    refine ⟨_, _, pre0 _ ?_, hrun, hended, _, _, rfl, ?_, ⟨_, rfl⟩, hW, hsame.mono (by decide) (by decide)⟩
    · show Steps p.tables e below (s₁.setTop (mkF m 0 #[.val (.ref a1), .val (.int p2), .unset, .unset] [])) _
      refine XS.aloadN X0.here hx rfl (hb hby d6_0) rfl rfl ?_
      show Steps p.tables e below (s₁.setTop (mkF m 1 #[.val (.ref a1), .val (.int p2), .unset, .unset] [(.ref a1)])) _
      refine st41 _ ?_
      show Steps p.tables e below (T41.setTop (mkF m 4 #[.val (.ref a1), .val (.int p2), .unset, .unset] [(.ref da)])) _
      refine XS.iconst X41.here hx rfl (hb hby d6_4) ?_
      show Steps p.tables e below (T41.setTop (mkF m 5 #[.val (.ref a1), .val (.int p2), .unset, .unset] [(.int (0 : Int32)), (.ref da)])) _
      refine XS.aloadN X41.here hx rfl (hb hby d6_5) rfl rfl ?_
      show Steps p.tables e below (T41.setTop (mkF m 6 #[.val (.ref a1), .val (.int p2), .unset, .unset] [(.ref a1), (.int (0 : Int32)), (.ref da)])) _
      refine st42 _ ?_
      show Steps p.tables e below (T42.setTop (mkF m 9 #[.val (.ref a1), .val (.int p2), .unset, .unset] [(.int (3 : Int32)), (.int (0 : Int32)), (.ref da)])) _
      refine XS.iloadN X42.here hx rfl (hb hby d6_9) rfl ?_
      show Steps p.tables e below (T42.setTop (mkF m 10 #[.val (.ref a1), .val (.int p2), .unset, .unset] [(.int p2), (.int (3 : Int32)), (.int (0 : Int32)), (.ref da)])) _
      refine st43 _ ?_
      show Steps p.tables e below (T43.setTop (mkF m 13 #[.val (.ref a1), .val (.int p2), .unset, .unset] [(.int (own_bs p2))])) _
      refine XS.istoreN X43.here hx rfl (hb hby d6_13) rfl (l' := #[.val (.ref a1), .val (.int p2), .val (.int (own_bs p2)), .unset]) rfl ?_
      show Steps p.tables e below (T43.setTop (mkF m 14 #[.val (.ref a1), .val (.int p2), .val (.int (own_bs p2)), .unset] [])) _
      refine XS.iloadN X43.here hx rfl (hb hby d6_14) rfl ?_
      show Steps p.tables e below (T43.setTop (mkF m 15 #[.val (.ref a1), .val (.int p2), .val (.int (own_bs p2)), .unset] [(.int (own_bs p2))])) _
      refine md44 _ ?_
      show Steps p.tables e below (T43.setTop (mkF m 26 #[.val (.ref a1), .val (.int p2), .val (.int (own_bs p2)), .unset] [(.int (if (own_bs p2) < (0 : Int32) then ((-(own_bs p2)) - (1 : Int32)) else (own_bs p2)))])) _
      refine XS.istoreN X43.here hx rfl (hb hby d6_26) rfl (l' := #[.val (.ref a1), .val (.int p2), .val (.int (own_bs p2)), .val (.int (if (own_bs p2) < (0 : Int32) then ((-(own_bs p2)) - (1 : Int32)) else (own_bs p2)))]) rfl ?_
      show Steps p.tables e below (T43.setTop (mkF m 27 #[.val (.ref a1), .val (.int p2), .val (.int (own_bs p2)), .val (.int (if (own_bs p2) < (0 : Int32) then ((-(own_bs p2)) - (1 : Int32)) else (own_bs p2)))] [])) _
      rw [← e_cu]
      show Steps p.tables e below (T43.setTop (mkF m 27 #[.val (.ref a1), .val (.int p2), .val (.int (own_bs p2)), .val (.int cu)] [])) _
      refine XS.iloadN X43.here hx rfl (hb hby d6_27) rfl ?_
      show Steps p.tables e below (T43.setTop (mkF m 28 #[.val (.ref a1), .val (.int p2), .val (.int (own_bs p2)), .val (.int cu)] [(.int cu)])) _
      refine XS.aloadN X43.here hx rfl (hb hby d6_28) rfl rfl ?_
      show Steps p.tables e below (T43.setTop (mkF m 29 #[.val (.ref a1), .val (.int p2), .val (.int (own_bs p2)), .val (.int cu)] [(.ref a1), (.int cu)])) _
      refine st45 _ ?_
      show Steps p.tables e below (T45.setTop (mkF m 32 #[.val (.ref a1), .val (.int p2), .val (.int (own_bs p2)), .val (.int cu)] [(.int (3 : Int32)), (.int cu)])) _
      refine XS.icmpNo X45.here hx rfl (hb hby d6_32) rfl (teq hc32).2 ?_
      show Steps p.tables e below (T45.setTop (mkF m 35 #[.val (.ref a1), .val (.int p2), .val (.int (own_bs p2)), .val (.int cu)] [])) _
      refine XS.aloadN X45.here hx rfl (hb hby d6_35) rfl rfl ?_
      show Steps p.tables e below (T45.setTop (mkF m 36 #[.val (.ref a1), .val (.int p2), .val (.int (own_bs p2)), .val (.int cu)] [(.ref a1)])) _
      refine XS.goto X45.here hx rfl (pc0 := 36) (pc' := 59) rfl (hb hby d6_36) (by decide) (by decide) ?_
      show Steps p.tables e below (T45.setTop (mkF m 59 #[.val (.ref a1), .val (.int p2), .val (.int (own_bs p2)), .val (.int cu)] [(.ref a1)])) _
      jvm_step X45.here [X45.here.top, hx, (hb hby d6_59), X45.method', Bd.returns, Value.isRef, FieldType.isReference]
      first | (intro acts; rw [hr _ acts rfl rfl rfl]) | rw [hr _ _ rfl rfl rfl]
      exact Steps.refl _
    · show Q_6 Z a1 p2 oa h0 n0 _ T45.heap _
      rw [e45]
      exact ⟨a1, rfl, N43, (Keep.refl h0 []), E_1, F_o, (own_cut_eq (e_cu.symm.trans hc32) F_s)⟩
  · obtain ⟨T46, h46, X46, e46, E46, A46, D46, -, st46⟩ := newO X45 hx hZ hown (hw _ (List.mem_of_getElem? (i := 45) rfl)) (hw _ (List.mem_of_getElem? (i := 7) rfl)) (hw _ (List.mem_of_getElem? (i := 8) rfl)) e45 (g := (mkF m 39 #[.val (.ref a1), .val (.int p2), .val (.int (own_bs p2)), .val (.int cu)] [])) rfl (hb hby d6_39) (by decide) (by decide)
    obtain ⟨b46, g46⟩ : ∃ z, z = h0.size := ⟨_, rfl⟩
    rw [← g46] at A46 D46 st46
    have g_b46 : n0 ≤ b46 := Nat.le_trans (Nat.le_trans Z0 (Keep.refl h0 []).1) (Nat.le_of_eq g46.symm)
    have sz_b46 : h0.size ≤ b46 := Nat.le_trans (Keep.refl h0 []).1 (Nat.le_of_eq g46.symm)
    have ne_a1_b46 : a1 ≠ b46 := Nat.ne_of_lt (Nat.lt_of_lt_of_le E_1.lt (Nat.le_of_eq g46.symm))
    have Kh46 : Keep h0 h46 [] := (Keep.refl h0 []).ext E46
    have F_docs_b46 : Fld Z h46 b46 "com/example/vrabec/vrabec/index/Postings" "docs" "[I" .null := D46 (Or.inr (hw _ (List.mem_of_getElem? (i := 23) rfl))) (ty := (.array .int)) (by decide)
    have F_frequencies_b46 : Fld Z h46 b46 "com/example/vrabec/vrabec/index/Postings" "frequencies" "[I" .null := D46 (Or.inr (hw _ (List.mem_of_getElem? (i := 25) rfl))) (ty := (.array .int)) (by decide)
    have F_occurrences_b46 : Fld Z h46 b46 "com/example/vrabec/vrabec/index/Postings" "occurrences" "[J" .null := D46 (Or.inr (hw _ (List.mem_of_getElem? (i := 27) rfl))) (ty := (.array .long)) (by decide)
    have F_size_b46 : Fld Z h46 b46 "com/example/vrabec/vrabec/index/Postings" "size" "I" (.int (0 : Int32)) := D46 (Or.inr (hw _ (List.mem_of_getElem? (i := 29) rfl))) (ty := .int) (by decide)
    obtain ⟨T47, X47, e47, st47⟩ := getF X46 hx hZ hown (host := "") (Or.inl (hw _ (List.mem_of_getElem? (i := 22) rfl))) Via.refl e46 (F_d.ext E46) (g := (mkF m 44 #[.val (.ref a1), .val (.int p2), .val (.int (own_bs p2)), .val (.int cu)] [(.ref a1), (.ref b46), (.ref b46)])) rfl rfl (hb hby d6_44)
    obtain ⟨T48, X48, e48, st48⟩ := getF X47 hx hZ hown (host := "") (Or.inl (hw _ (List.mem_of_getElem? (i := 24) rfl))) Via.refl e47 (F_f.ext E46) (g := (mkF m 48 #[.val (.ref a1), .val (.int p2), .val (.int (own_bs p2)), .val (.int cu)] [(.ref a1), (.ref da), (.ref b46), (.ref b46)])) rfl rfl (hb hby d6_48)
    obtain ⟨T49, X49, e49, st49⟩ := getF X48 hx hZ hown (host := "") (Or.inl (hw _ (List.mem_of_getElem? (i := 26) rfl))) Via.refl e48 (F_o.ext E46) (g := (mkF m 52 #[.val (.ref a1), .val (.int p2), .val (.int (own_bs p2)), .val (.int cu)] [(.ref a1), (.ref fa), (.ref da), (.ref b46), (.ref b46)])) rfl rfl (hb hby d6_52)
    obtain ⟨_, _, ⟨T50, L50, c50_, n50_⟩, -, X50, ⟨Lc50, hQ50, l50, y50, z50⟩, st50⟩ := X49.specialBack hx (y := (⟨"com/example/vrabec/vrabec/index/Postings", "<init>", "([I[I[JI)V"⟩ : MethodName)) rfl hown (mvT hZ (hw _ (List.mem_of_getElem? (i := 16) rfl))) (mvT hZ (hw _ (List.mem_of_getElem? (i := 17) rfl))) (mvT hZ (hw _ (List.mem_of_getElem? (i := 18) rfl))) (by decide) (backOf (W := 1) (rm_4 l Z a0 hw [] b46 da fa oa cu h46 n0 (Nat.le_trans Z0 Kh46.1) A46 g_b46 F_docs_b46 F_frequencies_b46 F_occurrences_b46 F_size_b46) hZ (hw _ (List.mem_of_getElem? (i := 18) rfl)) (hw _ (List.mem_of_getElem? (i := 8) rfl)) (by decide) (by decide)) (g := (mkF m 56 #[.val (.ref a1), .val (.int p2), .val (.int (own_bs p2)), .val (.int cu)] [(.int cu), (.ref oa), (.ref fa), (.ref da), (.ref b46), (.ref b46)])) rfl (by rw [hml]; rfl) (Steps.refl _) (a := b46) (argsL := [(.ref da), (.ref fa), (.ref oa), (.int cu)]) (rest := [(.ref b46)]) (lenOf pd__28_5bI_5bI_5bJI_29V rfl) rfl (by show 2 * 0 + _ ≤ _; exact Nat.le_of_eq rfl) (hb hby d6_56) (fun _ _ => ⟨rfl, e49, (by decide : 1 + 0 ≤ _), (by decide : 4 + 0 ≤ _)⟩)
    dsimp only [Pt.U, Pt.locs, Pt.cells, Pt.slots] at X50 l50 y50 z50 st50 hQ50
    subst l50 y50 z50
    obtain ⟨rfl, Nq50, K50, Ee50, Fd50, Ff50, Fo50, Fs50⟩ := hQ50
    have N50 := Fr.app N43 Nq50
    have Kh50 : Keep h0 T50.heap [] := Kh46.trans K50 (allS (Or.inr sz_b46) all0)
    obtain ⟨fs, hr, hrun, hended, hW, hsame⟩ := X50.leave (v := some (.ref b46)) (fun h => by rw [Bd.returns] at h; cases h)
    refine ⟨_, _, pre0 _ ?_, hrun, hended, _, _, rfl, ?_, ⟨_, rfl⟩, hW, hsame.mono (by decide) (by decide)⟩
    · show Steps p.tables e below (s₁.setTop (mkF m 0 #[.val (.ref a1), .val (.int p2), .unset, .unset] [])) _
      refine XS.aloadN X0.here hx rfl (hb hby d6_0) rfl rfl ?_
      show Steps p.tables e below (s₁.setTop (mkF m 1 #[.val (.ref a1), .val (.int p2), .unset, .unset] [(.ref a1)])) _
      refine st41 _ ?_
      show Steps p.tables e below (T41.setTop (mkF m 4 #[.val (.ref a1), .val (.int p2), .unset, .unset] [(.ref da)])) _
      refine XS.iconst X41.here hx rfl (hb hby d6_4) ?_
      show Steps p.tables e below (T41.setTop (mkF m 5 #[.val (.ref a1), .val (.int p2), .unset, .unset] [(.int (0 : Int32)), (.ref da)])) _
      refine XS.aloadN X41.here hx rfl (hb hby d6_5) rfl rfl ?_
      show Steps p.tables e below (T41.setTop (mkF m 6 #[.val (.ref a1), .val (.int p2), .unset, .unset] [(.ref a1), (.int (0 : Int32)), (.ref da)])) _
      refine st42 _ ?_
      show Steps p.tables e below (T42.setTop (mkF m 9 #[.val (.ref a1), .val (.int p2), .unset, .unset] [(.int (3 : Int32)), (.int (0 : Int32)), (.ref da)])) _
      refine XS.iloadN X42.here hx rfl (hb hby d6_9) rfl ?_
      show Steps p.tables e below (T42.setTop (mkF m 10 #[.val (.ref a1), .val (.int p2), .unset, .unset] [(.int p2), (.int (3 : Int32)), (.int (0 : Int32)), (.ref da)])) _
      refine st43 _ ?_
      show Steps p.tables e below (T43.setTop (mkF m 13 #[.val (.ref a1), .val (.int p2), .unset, .unset] [(.int (own_bs p2))])) _
      refine XS.istoreN X43.here hx rfl (hb hby d6_13) rfl (l' := #[.val (.ref a1), .val (.int p2), .val (.int (own_bs p2)), .unset]) rfl ?_
      show Steps p.tables e below (T43.setTop (mkF m 14 #[.val (.ref a1), .val (.int p2), .val (.int (own_bs p2)), .unset] [])) _
      refine XS.iloadN X43.here hx rfl (hb hby d6_14) rfl ?_
      show Steps p.tables e below (T43.setTop (mkF m 15 #[.val (.ref a1), .val (.int p2), .val (.int (own_bs p2)), .unset] [(.int (own_bs p2))])) _
      refine md44 _ ?_
      show Steps p.tables e below (T43.setTop (mkF m 26 #[.val (.ref a1), .val (.int p2), .val (.int (own_bs p2)), .unset] [(.int (if (own_bs p2) < (0 : Int32) then ((-(own_bs p2)) - (1 : Int32)) else (own_bs p2)))])) _
      refine XS.istoreN X43.here hx rfl (hb hby d6_26) rfl (l' := #[.val (.ref a1), .val (.int p2), .val (.int (own_bs p2)), .val (.int (if (own_bs p2) < (0 : Int32) then ((-(own_bs p2)) - (1 : Int32)) else (own_bs p2)))]) rfl ?_
      show Steps p.tables e below (T43.setTop (mkF m 27 #[.val (.ref a1), .val (.int p2), .val (.int (own_bs p2)), .val (.int (if (own_bs p2) < (0 : Int32) then ((-(own_bs p2)) - (1 : Int32)) else (own_bs p2)))] [])) _
      rw [← e_cu]
      show Steps p.tables e below (T43.setTop (mkF m 27 #[.val (.ref a1), .val (.int p2), .val (.int (own_bs p2)), .val (.int cu)] [])) _
      refine XS.iloadN X43.here hx rfl (hb hby d6_27) rfl ?_
      show Steps p.tables e below (T43.setTop (mkF m 28 #[.val (.ref a1), .val (.int p2), .val (.int (own_bs p2)), .val (.int cu)] [(.int cu)])) _
      refine XS.aloadN X43.here hx rfl (hb hby d6_28) rfl rfl ?_
      show Steps p.tables e below (T43.setTop (mkF m 29 #[.val (.ref a1), .val (.int p2), .val (.int (own_bs p2)), .val (.int cu)] [(.ref a1), (.int cu)])) _
      refine st45 _ ?_
      show Steps p.tables e below (T45.setTop (mkF m 32 #[.val (.ref a1), .val (.int p2), .val (.int (own_bs p2)), .val (.int cu)] [(.int (3 : Int32)), (.int cu)])) _
      refine XS.icmpYes X45.here hx rfl (pc0 := 32) (pc' := 39) rfl (hb hby d6_32) rfl (feq hc32).2 (by decide) (by decide) ?_
      show Steps p.tables e below (T45.setTop (mkF m 39 #[.val (.ref a1), .val (.int p2), .val (.int (own_bs p2)), .val (.int cu)] [])) _
      refine st46 _ ?_
      show Steps p.tables e below (T46.setTop (mkF m 42 #[.val (.ref a1), .val (.int p2), .val (.int (own_bs p2)), .val (.int cu)] [(.ref b46)])) _
      refine XS.dup X46.here hx rfl (hb hby d6_42) rfl rfl ?_
      show Steps p.tables e below (T46.setTop (mkF m 43 #[.val (.ref a1), .val (.int p2), .val (.int (own_bs p2)), .val (.int cu)] [(.ref b46), (.ref b46)])) _
      refine XS.aloadN X46.here hx rfl (hb hby d6_43) rfl rfl ?_
      show Steps p.tables e below (T46.setTop (mkF m 44 #[.val (.ref a1), .val (.int p2), .val (.int (own_bs p2)), .val (.int cu)] [(.ref a1), (.ref b46), (.ref b46)])) _
      refine st47 _ ?_
      show Steps p.tables e below (T47.setTop (mkF m 47 #[.val (.ref a1), .val (.int p2), .val (.int (own_bs p2)), .val (.int cu)] [(.ref da), (.ref b46), (.ref b46)])) _
      refine XS.aloadN X47.here hx rfl (hb hby d6_47) rfl rfl ?_
      show Steps p.tables e below (T47.setTop (mkF m 48 #[.val (.ref a1), .val (.int p2), .val (.int (own_bs p2)), .val (.int cu)] [(.ref a1), (.ref da), (.ref b46), (.ref b46)])) _
      refine st48 _ ?_
      show Steps p.tables e below (T48.setTop (mkF m 51 #[.val (.ref a1), .val (.int p2), .val (.int (own_bs p2)), .val (.int cu)] [(.ref fa), (.ref da), (.ref b46), (.ref b46)])) _
      refine XS.aloadN X48.here hx rfl (hb hby d6_51) rfl rfl ?_
      show Steps p.tables e below (T48.setTop (mkF m 52 #[.val (.ref a1), .val (.int p2), .val (.int (own_bs p2)), .val (.int cu)] [(.ref a1), (.ref fa), (.ref da), (.ref b46), (.ref b46)])) _
      refine st49 _ ?_
      show Steps p.tables e below (T49.setTop (mkF m 55 #[.val (.ref a1), .val (.int p2), .val (.int (own_bs p2)), .val (.int cu)] [(.ref oa), (.ref fa), (.ref da), (.ref b46), (.ref b46)])) _
      refine XS.iloadN X49.here hx rfl (hb hby d6_55) rfl ?_
      show Steps p.tables e below (T49.setTop (mkF m 56 #[.val (.ref a1), .val (.int p2), .val (.int (own_bs p2)), .val (.int cu)] [(.int cu), (.ref oa), (.ref fa), (.ref da), (.ref b46), (.ref b46)])) _
      refine st50.trans ?_
      show Steps p.tables e below (T50.setTop (mkF m 59 #[.val (.ref a1), .val (.int p2), .val (.int (own_bs p2)), .val (.int cu)] [(.ref b46)])) _
      jvm_step X50.here [X50.here.top, hx, (hb hby d6_59), X50.method', Bd.returns, Value.isRef, FieldType.isReference]
      first | (intro acts; rw [hr _ acts rfl rfl rfl]) | rw [hr _ _ rfl rfl rfl]
      exact Steps.refl _
    · show Q_6 Z a1 p2 oa h0 n0 _ T50.heap _
      exact ⟨b46, rfl, N50, Kh50, Ee50, Fo50, (own_cut_eq e_cu.symm Fs50)⟩
theorem d10_0 : decode prog_6_method_4_code 0 = .ok (.aload_n 0, 1) := by decide +kernel
theorem d10_1 : decode prog_6_method_4_code 1 = .ok (.getfield 27, 3) := by decide +kernel
theorem d10_4 : decode prog_6_method_4_code 4 = .ok (.ireturn, 1) := by decide +kernel
theorem pn_10 : plainName "com/example/vrabec/vrabec/index/Postings" = true := by first | (simp [plainName, overriddenIn]; done) | decide +kernel
theorem ef_10 (m : MethodId) (x0 : Addr) : entryFrame m #[(.ref x0)] 1 = mkF m 0 #[.val (.ref x0)] [] := by first | (simp [entryFrame, mkF, argsToLocals, Value.category]; done) | rfl
def Q_10 (Z : State) (a1 : Addr) (c : Int32) (h0 : Heap) (n0 : Nat) (v : Option Value) (h : Heap) (L : List Loc) : Prop := v = some (.int c) ∧ Fr n0 L ∧ h = h0
set_option maxRecDepth 65536 in
set_option maxHeartbeats 40000000 in
theorem rm_10 (l : Launch) (Z : State) (a0 : Array Value) (hw : ∀ d ∈ tables_1, d.before a0 Z = true) (ws : List Jvm.Cond) (a1 : Addr) (c : Int32) (h0 : Heap) (n0 : Nat) (Z0 : n0 ≤ h0.size) (F_c : Fld Z h0 a1 "com/example/vrabec/vrabec/index/Postings" "size" "I" (.int c)) :
    MetFree l (⟨"com/example/vrabec/vrabec/index/Postings", "size", "()I"⟩ : MethodName) (head1 (Jvm.Cond.code (⟨"com/example/vrabec/vrabec/index/Postings", "size", "()I"⟩ : MethodName) prog_6_method_4_code 1 (some .int) :: ws) ({ frames := 0, cells := 0, slots := 0, locals := 0 } : Room)) (fun a U => a = #[(.ref a1)] ∧ Z.Warmed39 U.vm ∧ U.heap = h0) (fun _ _ _ _ _ => True) (fun _ U o U' => ∃ v L, o = .returned v ∧ Q_10 Z a1 c h0 n0 v U'.heap L ∧ FrameEnd U o U' L ({ frames := 0, cells := 0, slots := 0, locals := 0 } : Room).cells ({ frames := 0, cells := 0, slots := 0, locals := 0 } : Room).slots) := by
  refine MetFree.of_bodySF (plainFor_of_name pn_10) hisR ?_
  intro p e s m args below meth cod_ s₁ Bd hml0 hP hK
  obtain ⟨rfl, hZ, hh⟩ := hP
  have hx := Bd.exec
  have hby := Bd.bytes
  have hml : cod_.maxLocals = 1 := hml0
  have hown : s.vm.findClass "com/example/vrabec/vrabec/index/Postings" = some m.cls := findClass_of_methodNamed Bd.named
  have hnm := (name_of_methodNamed Bd.named Bd.method).1
  have X0 : Stand p l e ({ frames := 0, cells := 0, slots := 0, locals := 0 } : Room) s m #[(.ref a1)] below meth cod_ s₁ [] 0 0 := Stand.of_body Bd
  have e0 : s₁.heap = h0 := by rw [← hh, Bd.state]; rfl
  have N0 := Fr.nil n0
  have pre0 : ∀ t, Steps p.tables e below (s₁.setTop (mkF m 0 #[.val (.ref a1)] [])) t → Steps p.tables e below (s₁.setTop (entryFrame m #[(.ref a1)] 1)) t := fun t k => castTop (ef_10 m a1) k
  obtain ⟨T51, X51, e51, st51⟩ := getF X0 hx hZ hown (host := "") (Or.inl (hw _ (List.mem_of_getElem? (i := 28) rfl))) Via.refl e0 F_c (g := (mkF m 1 #[.val (.ref a1)] [(.ref a1)])) rfl rfl (hb hby d10_1)
  obtain ⟨fs, hr, hrun, hended, hW, hsame⟩ := X51.leave (v := some (.int c)) (fun h => by rw [Bd.returns] at h; cases h)
  refine ⟨_, _, pre0 _ ?_, hrun, hended, _, _, rfl, ?_, ⟨_, rfl⟩, hW, hsame.mono (by decide) (by decide)⟩
  · show Steps p.tables e below (s₁.setTop (mkF m 0 #[.val (.ref a1)] [])) _
    refine XS.aloadN X0.here hx rfl (hb hby d10_0) rfl rfl ?_
    show Steps p.tables e below (s₁.setTop (mkF m 1 #[.val (.ref a1)] [(.ref a1)])) _
    refine st51 _ ?_
    show Steps p.tables e below (T51.setTop (mkF m 4 #[.val (.ref a1)] [(.int c)])) _
    exact retI X51 hx Bd.returns (hb hby d10_4) hr
  · show Q_10 Z a1 c h0 n0 _ T51.heap _
    rw [e51]
    exact ⟨rfl, N0, rfl⟩
theorem d11_0 : decode prog_6_method_5_code 0 = .ok (.aload_n 0, 1) := by decide +kernel
theorem d11_1 : decode prog_6_method_5_code 1 = .ok (.getfield 27, 3) := by decide +kernel
theorem d11_4 : decode prog_6_method_5_code 4 = .ok (.ifCond .ne 7, 3) := by decide +kernel
theorem d11_7 : decode prog_6_method_5_code 7 = .ok (.lconst 0, 1) := by decide +kernel
theorem d11_8 : decode prog_6_method_5_code 8 = .ok (.goto 14, 3) := by decide +kernel
theorem d11_11 : decode prog_6_method_5_code 11 = .ok (.aload_n 0, 1) := by decide +kernel
theorem d11_12 : decode prog_6_method_5_code 12 = .ok (.getfield 23, 3) := by decide +kernel
theorem d11_15 : decode prog_6_method_5_code 15 = .ok (.aload_n 0, 1) := by decide +kernel
theorem d11_16 : decode prog_6_method_5_code 16 = .ok (.getfield 27, 3) := by decide +kernel
theorem d11_19 : decode prog_6_method_5_code 19 = .ok (.iconst 1, 1) := by decide +kernel
theorem d11_20 : decode prog_6_method_5_code 20 = .ok (.isub, 1) := by decide +kernel
theorem d11_21 : decode prog_6_method_5_code 21 = .ok (.laload, 1) := by decide +kernel
theorem d11_22 : decode prog_6_method_5_code 22 = .ok (.lreturn, 1) := by decide +kernel
theorem pn_11 : plainName "com/example/vrabec/vrabec/index/Postings" = true := by first | (simp [plainName, overriddenIn]; done) | decide +kernel
theorem ef_11 (m : MethodId) (x0 : Addr) : entryFrame m #[(.ref x0)] 1 = mkF m 0 #[.val (.ref x0)] [] := by first | (simp [entryFrame, mkF, argsToLocals, Value.category]; done) | rfl
def Q_11 (Z : State) (a1 : Addr) (c : Int32) (x : Int64) (h0 : Heap) (n0 : Nat) (v : Option Value) (h : Heap) (L : List Loc) : Prop := v = some (.long (if c = (0 : Int32) then (0 : Int64) else x)) ∧ Fr n0 L ∧ h = h0
set_option maxRecDepth 65536 in
set_option maxHeartbeats 40000000 in
theorem rm_11 (l : Launch) (Z : State) (a0 : Array Value) (hw : ∀ d ∈ tables_1, d.before a0 Z = true) (ws : List Jvm.Cond) (a1 : Addr) (c : Int32) (x : Int64) (oa : Addr) (kl : ClassId) (z : Int32) (vs : List Value) (h0 : Heap) (n0 : Nat) (Z0 : n0 ≤ h0.size) (F_c : Fld Z h0 a1 "com/example/vrabec/vrabec/index/Postings" "size" "I" (.int c)) (F_o : Fld Z h0 a1 "com/example/vrabec/vrabec/index/Postings" "occurrences" "[J" (.ref oa)) (V_o : Arv Z h0 oa kl .long z vs (.long (0 : Int64))) (hx_ : ¬ c = (0 : Int32) → (¬ (c - (1 : Int32)) < 0 ∧ (c - (1 : Int32)) < z) ∧ vs.getD (c - (1 : Int32)).toNatClampNeg (.long (0 : Int64)) = .long x) :
    MetFree l (⟨"com/example/vrabec/vrabec/index/Postings", "occurrences", "()J"⟩ : MethodName) (head1 (Jvm.Cond.code (⟨"com/example/vrabec/vrabec/index/Postings", "occurrences", "()J"⟩ : MethodName) prog_6_method_5_code 1 (some .long) :: ws) ({ frames := 0, cells := 0, slots := 0, locals := 0 } : Room)) (fun a U => a = #[(.ref a1)] ∧ Z.Warmed39 U.vm ∧ U.heap = h0) (fun _ _ _ _ _ => True) (fun _ U o U' => ∃ v L, o = .returned v ∧ Q_11 Z a1 c x h0 n0 v U'.heap L ∧ FrameEnd U o U' L ({ frames := 0, cells := 0, slots := 0, locals := 0 } : Room).cells ({ frames := 0, cells := 0, slots := 0, locals := 0 } : Room).slots) := by
  refine MetFree.of_bodySF (plainFor_of_name pn_11) hisR ?_
  intro p e s m args below meth cod_ s₁ Bd hml0 hP hK
  obtain ⟨rfl, hZ, hh⟩ := hP
  have hx := Bd.exec
  have hby := Bd.bytes
  have hml : cod_.maxLocals = 1 := hml0
  have hown : s.vm.findClass "com/example/vrabec/vrabec/index/Postings" = some m.cls := findClass_of_methodNamed Bd.named
  have hnm := (name_of_methodNamed Bd.named Bd.method).1
  have X0 : Stand p l e ({ frames := 0, cells := 0, slots := 0, locals := 0 } : Room) s m #[(.ref a1)] below meth cod_ s₁ [] 0 0 := Stand.of_body Bd
  have e0 : s₁.heap = h0 := by rw [← hh, Bd.state]; rfl
  have N0 := Fr.nil n0
  have pre0 : ∀ t, Steps p.tables e below (s₁.setTop (mkF m 0 #[.val (.ref a1)] [])) t → Steps p.tables e below (s₁.setTop (entryFrame m #[(.ref a1)] 1)) t := fun t k => castTop (ef_11 m a1) k
  obtain ⟨T52, X52, e52, st52⟩ := getF X0 hx hZ hown (host := "") (Or.inl (hw _ (List.mem_of_getElem? (i := 28) rfl))) Via.refl e0 F_c (g := (mkF m 1 #[.val (.ref a1)] [(.ref a1)])) rfl rfl (hb hby d11_1)
  by_cases hc4 : c = (0 : Int32)
  · obtain ⟨fs, hr, hrun, hended, hW, hsame⟩ := X52.leave (v := some (.long (0 : Int64))) (fun h => by rw [Bd.returns] at h; cases h)
    refine ⟨_, _, pre0 _ ?_, hrun, hended, _, _, rfl, ?_, ⟨_, rfl⟩, hW, hsame.mono (by decide) (by decide)⟩
    · show Steps p.tables e below (s₁.setTop (mkF m 0 #[.val (.ref a1)] [])) _
      refine XS.aloadN X0.here hx rfl (hb hby d11_0) rfl rfl ?_
      show Steps p.tables e below (s₁.setTop (mkF m 1 #[.val (.ref a1)] [(.ref a1)])) _
      refine st52 _ ?_
      show Steps p.tables e below (T52.setTop (mkF m 4 #[.val (.ref a1)] [(.int c)])) _
      refine XS.ifNo X52.here hx rfl (hb hby d11_4) rfl ((if0 _ _).trans (teq hc4).2) ?_
      show Steps p.tables e below (T52.setTop (mkF m 7 #[.val (.ref a1)] [])) _
      refine XS.lconst X52.here hx rfl (hb hby d11_7) ?_
      show Steps p.tables e below (T52.setTop (mkF m 8 #[.val (.ref a1)] [(.long (0 : Int64))])) _
      refine XS.goto X52.here hx rfl (pc0 := 8) (pc' := 22) rfl (hb hby d11_8) (by decide) (by decide) ?_
      show Steps p.tables e below (T52.setTop (mkF m 22 #[.val (.ref a1)] [(.long (0 : Int64))])) _
      jvm_step X52.here [X52.here.top, hx, (hb hby d11_22), X52.method', Bd.returns, narrow]
      first | (intro acts; rw [hr _ acts rfl rfl rfl]) | rw [hr _ _ rfl rfl rfl]
      exact Steps.refl _
    · show Q_11 Z a1 c x h0 n0 _ T52.heap _
      rw [e52]
      exact ⟨by simp [hc4], N0, rfl⟩
  · obtain ⟨T53, X53, e53, st53⟩ := getF X52 hx hZ hown (host := "") (Or.inl (hw _ (List.mem_of_getElem? (i := 26) rfl))) Via.refl e52 F_o (g := (mkF m 12 #[.val (.ref a1)] [(.ref a1)])) rfl rfl (hb hby d11_12)
    obtain ⟨T54, X54, e54, st54⟩ := getF X53 hx hZ hown (host := "") (Or.inl (hw _ (List.mem_of_getElem? (i := 28) rfl))) Via.refl e53 F_c (g := (mkF m 16 #[.val (.ref a1)] [(.ref a1), (.ref oa)])) rfl rfl (hb hby d11_16)
    obtain ⟨cl55, Ar55, -, S55, M55, H55, G55⟩ := id (V_o)
    have hin55 : ¬ ((c - (1 : Int32)) < 0 ∨ cl55.slots.size ≤ ((c - (1 : Int32))).toNatClampNeg) := inb_of S55 (hx_ hc4).1
    have hat55 : cl55.slots[((c - (1 : Int32))).toNatClampNeg]? = some (.long x) := Has.at H55 hin55 (hx_ hc4).2
    obtain ⟨fs, hr, hrun, hended, hW, hsame⟩ := X54.leave (v := some (.long x)) (fun h => by rw [Bd.returns] at h; cases h)
    refine ⟨_, _, pre0 _ ?_, hrun, hended, _, _, rfl, ?_, ⟨_, rfl⟩, hW, hsame.mono (by decide) (by decide)⟩
    · show Steps p.tables e below (s₁.setTop (mkF m 0 #[.val (.ref a1)] [])) _
      refine XS.aloadN X0.here hx rfl (hb hby d11_0) rfl rfl ?_
      show Steps p.tables e below (s₁.setTop (mkF m 1 #[.val (.ref a1)] [(.ref a1)])) _
      refine st52 _ ?_
      show Steps p.tables e below (T52.setTop (mkF m 4 #[.val (.ref a1)] [(.int c)])) _
      refine XS.ifYes X52.here hx rfl (pc0 := 4) (pc' := 11) rfl (hb hby d11_4) rfl ((if0 _ _).trans (feq hc4).2) (by decide) (by decide) ?_
      show Steps p.tables e below (T52.setTop (mkF m 11 #[.val (.ref a1)] [])) _
      refine XS.aloadN X52.here hx rfl (hb hby d11_11) rfl rfl ?_
      show Steps p.tables e below (T52.setTop (mkF m 12 #[.val (.ref a1)] [(.ref a1)])) _
      refine st53 _ ?_
      show Steps p.tables e below (T53.setTop (mkF m 15 #[.val (.ref a1)] [(.ref oa)])) _
      refine XS.aloadN X53.here hx rfl (hb hby d11_15) rfl rfl ?_
      show Steps p.tables e below (T53.setTop (mkF m 16 #[.val (.ref a1)] [(.ref a1), (.ref oa)])) _
      refine st54 _ ?_
      show Steps p.tables e below (T54.setTop (mkF m 19 #[.val (.ref a1)] [(.int c), (.ref oa)])) _
      refine XS.iconst X54.here hx rfl (hb hby d11_19) ?_
      show Steps p.tables e below (T54.setTop (mkF m 20 #[.val (.ref a1)] [(.int (1 : Int32)), (.int c), (.ref oa)])) _
      refine XS.isub X54.here hx rfl (hb hby d11_20) rfl ?_
      show Steps p.tables e below (T54.setTop (mkF m 21 #[.val (.ref a1)] [(.int (c - (1 : Int32))), (.ref oa)])) _
      refine X54.laload hx (j := (c - (1 : Int32))) (v := (.long x)) (by rw [e54]; exact Ar55.1) (State.isArrayOf_alike hZ.alike Ar55.2.1) Ar55.2.2 hin55 hat55 (g := (mkF m 21 #[.val (.ref a1)] [(.int (c - (1 : Int32))), (.ref oa)])) rfl rfl (hb hby d11_21) _ ?_
      show Steps p.tables e below (T54.setTop (mkF m 22 #[.val (.ref a1)] [(.long x)])) _
      jvm_step X54.here [X54.here.top, hx, (hb hby d11_22), X54.method', Bd.returns, narrow]
      first | (intro acts; rw [hr _ acts rfl rfl rfl]) | rw [hr _ _ rfl rfl rfl]
      exact Steps.refl _
    · show Q_11 Z a1 c x h0 n0 _ T54.heap _
      rw [e54]
      exact ⟨by simp [hc4], N0, rfl⟩
theorem pd__28II_29I : parseMethodDescriptor "(II)I" = some ⟨[.int, .int], some .int⟩ := by decide +kernel
theorem pd__28_5bI_5bI_29V : parseMethodDescriptor "([I[I)V" = some ⟨[(.array .int), (.array .int)], none⟩ := by decide +kernel
theorem pd__28I_29Lcom_2fexample_2fvrabec_2fvrabec_2findex_2fPostings_3b : parseMethodDescriptor "(I)Lcom/example/vrabec/vrabec/index/Postings;" = some ⟨[.int], some (.object "com/example/vrabec/vrabec/index/Postings")⟩ := by decide +kernel
theorem pd__28_29I : parseMethodDescriptor "()I" = some ⟨[], some .int⟩ := by decide +kernel
theorem pd__28_29J : parseMethodDescriptor "()J" = some ⟨[], some .long⟩ := by decide +kernel
theorem pn_0 : plainName "com/example/vrabec/vrabec/index/PostingsOccurrencesPinLaw" = true := by first | (simp [plainName, overriddenIn]; done) | decide +kernel
theorem ef_0 (m : MethodId) (x0 : Int32) (x1 : Int32) (x2 : Int32) (x3 : Int32) : entryFrame m #[(.int x0), (.int x1), (.int x2), (.int x3)] maxLocals = mkF m 0 #[.val (.int x0), .val (.int x1), .val (.int x2), .val (.int x3), .unset, .unset, .unset, .unset, .unset, .unset, .unset, .unset, .unset] [] := by first | (simp [entryFrame, mkF, argsToLocals, Value.category, maxLocals]; done) | rfl
def Q_0 (Z : State) (p1 : Int32) (p2 : Int32) (p3 : Int32) (p4 : Int32) (h0 : Heap) (n0 : Nat) (v : Option Value) (h : Heap) (L : List Loc) : Prop := v = some (.int 1) ∧ Fr n0 L
set_option maxRecDepth 65536 in
set_option maxHeartbeats 40000000 in
theorem rm_0 (l : Launch) (Z : State) (a0 : Array Value) (hw : ∀ d ∈ tables_1, d.before a0 Z = true) (ws : List Jvm.Cond) (p1 : Int32) (p2 : Int32) (p3 : Int32) (p4 : Int32) (h0 : Heap) (n0 : Nat) (Z0 : n0 ≤ h0.size) :
    MetFree l x (head1 (Jvm.Cond.code x code maxLocals ret :: ws) room_1) (fun a U => a = #[(.int p1), (.int p2), (.int p3), (.int p4)] ∧ Z.Warmed39 U.vm ∧ U.heap = h0) (fun _ _ _ _ _ => True) (fun _ U o U' => ∃ v L, o = .returned v ∧ Q_0 Z p1 p2 p3 p4 h0 n0 v U'.heap L ∧ FrameEnd U o U' L room_1.cells room_1.slots) := by
  refine MetFree.of_bodySF (plainFor_of_name pn_0) hisR ?_
  intro p e s m args below meth cod_ s₁ Bd hml0 hP hK
  obtain ⟨rfl, hZ, hh⟩ := hP
  have hx := Bd.exec
  have hby := Bd.bytes
  have hml : cod_.maxLocals = 13 := hml0
  have hown : s.vm.findClass "com/example/vrabec/vrabec/index/PostingsOccurrencesPinLaw" = some m.cls := findClass_of_methodNamed Bd.named
  have hnm := (name_of_methodNamed Bd.named Bd.method).1
  have X0 : Stand p l e room_1 s m #[(.int p1), (.int p2), (.int p3), (.int p4)] below meth cod_ s₁ [] 0 0 := Stand.of_body Bd
  have e0 : s₁.heap = h0 := by rw [← hh, Bd.state]; rfl
  have N0 := Fr.nil n0
  have pre0 : ∀ t, Steps p.tables e below (s₁.setTop (mkF m 0 #[.val (.int p1), .val (.int p2), .val (.int p3), .val (.int p4), .unset, .unset, .unset, .unset, .unset, .unset, .unset, .unset, .unset] [])) t → Steps p.tables e below (s₁.setTop (entryFrame m #[(.int p1), (.int p2), (.int p3), (.int p4)] maxLocals)) t := fun t k => castTop (ef_0 m p1 p2 p3 p4) k
  obtain ⟨_, _, ⟨T56, L56, c56_, n56_⟩, -, X56, ⟨Lc56, hQ56, l56, y56, z56⟩, st56⟩ := Jvm.LawKit.callS X0 hx (y := (⟨"java/lang/Math", "max", "(II)I"⟩ : MethodName)) hown (mvT hZ (hw _ (List.mem_of_getElem? (i := 1) rfl))) (mvT hZ (hw _ (List.mem_of_getElem? (i := 2) rfl))) (mvT hZ (hw _ (List.mem_of_getElem? (i := 3) rfl))) (mvT hZ (hw _ (List.mem_of_getElem? (i := 4) rfl))) (by decide) (backOf (W := 0) (rm_1 l Z a0 hw [] (1 : Int32) (p2 &&& (2147483647 : Int32)) h0 n0 (Nat.le_trans Z0 (Keep.refl h0 []).1) ) hZ (hw _ (List.mem_of_getElem? (i := 4) rfl)) (hw _ (List.mem_of_getElem? (i := 3) rfl)) (by decide) (by decide)) (g := (mkF m 5 #[.val (.int p1), .val (.int p2), .val (.int p3), .val (.int p4), .unset, .unset, .unset, .unset, .unset, .unset, .unset, .unset, .unset] [(.int (p2 &&& (2147483647 : Int32))), (.int (1 : Int32))])) rfl (by rw [hml]; rfl) (argsL := [(.int (1 : Int32)), (.int (p2 &&& (2147483647 : Int32)))]) (rest := []) (lenOf pd__28II_29I rfl) rfl (by show 2 * 0 + _ ≤ _; exact Nat.le_of_eq rfl) (hb hby at_5) (fun _ _ => ⟨rfl, e0, (by decide : 0 + 0 ≤ _), (by decide : 0 + 0 ≤ _)⟩)
  dsimp only [Pt.U, Pt.locs, Pt.cells, Pt.slots] at X56 l56 y56 z56 st56 hQ56
  subst l56 y56 z56
  obtain ⟨rfl, Nq56, e56⟩ := hQ56
  have N56 := Fr.app N0 Nq56
  obtain ⟨ff0, e_ff0⟩ : ∃ z : Int32, z = (if (1 : Int32) < (p2 &&& (2147483647 : Int32)) then (p2 &&& (2147483647 : Int32)) else (1 : Int32)) := ⟨_, rfl⟩
  obtain ⟨_, _, ⟨T57, L57, c57_, n57_⟩, -, X57, ⟨Lc57, hQ57, l57, y57, z57⟩, st57⟩ := Jvm.LawKit.callS X56 hx (y := (⟨"java/lang/Math", "max", "(II)I"⟩ : MethodName)) hown (mvT hZ (hw _ (List.mem_of_getElem? (i := 1) rfl))) (mvT hZ (hw _ (List.mem_of_getElem? (i := 2) rfl))) (mvT hZ (hw _ (List.mem_of_getElem? (i := 3) rfl))) (mvT hZ (hw _ (List.mem_of_getElem? (i := 4) rfl))) (by decide) (backOf (W := 0) (rm_1 l Z a0 hw [] (1 : Int32) (p3 &&& (2147483647 : Int32)) h0 n0 (Nat.le_trans Z0 (Keep.refl h0 []).1) ) hZ (hw _ (List.mem_of_getElem? (i := 4) rfl)) (hw _ (List.mem_of_getElem? (i := 3) rfl)) (by decide) (by decide)) (g := (mkF m 15 #[.val (.int p1), .val (.int p2), .val (.int p3), .val (.int p4), .val (.int ff0), .unset, .unset, .unset, .unset, .unset, .unset, .unset, .unset] [(.int (p3 &&& (2147483647 : Int32))), (.int (1 : Int32))])) rfl (by rw [hml]; rfl) (argsL := [(.int (1 : Int32)), (.int (p3 &&& (2147483647 : Int32)))]) (rest := []) (lenOf pd__28II_29I rfl) rfl (by show 2 * 0 + _ ≤ _; exact Nat.le_of_eq rfl) (hb hby at_15) (fun _ _ => ⟨rfl, e56, (by decide : 0 + 0 ≤ _), (by decide : 0 + 0 ≤ _)⟩)
  dsimp only [Pt.U, Pt.locs, Pt.cells, Pt.slots] at X57 l57 y57 z57 st57 hQ57
  subst l57 y57 z57
  obtain ⟨rfl, Nq57, e57⟩ := hQ57
  have N57 := Fr.app N56 Nq57
  obtain ⟨ff1, e_ff1⟩ : ∃ z : Int32, z = (if (1 : Int32) < (p3 &&& (2147483647 : Int32)) then (p3 &&& (2147483647 : Int32)) else (1 : Int32)) := ⟨_, rfl⟩
  obtain ⟨_, _, ⟨T58, L58, c58_, n58_⟩, -, X58, ⟨Lc58, hQ58, l58, y58, z58⟩, st58⟩ := Jvm.LawKit.callS X57 hx (y := (⟨"java/lang/Math", "max", "(II)I"⟩ : MethodName)) hown (mvT hZ (hw _ (List.mem_of_getElem? (i := 1) rfl))) (mvT hZ (hw _ (List.mem_of_getElem? (i := 2) rfl))) (mvT hZ (hw _ (List.mem_of_getElem? (i := 3) rfl))) (mvT hZ (hw _ (List.mem_of_getElem? (i := 4) rfl))) (by decide) (backOf (W := 0) (rm_1 l Z a0 hw [] (1 : Int32) (p4 &&& (2147483647 : Int32)) h0 n0 (Nat.le_trans Z0 (Keep.refl h0 []).1) ) hZ (hw _ (List.mem_of_getElem? (i := 4) rfl)) (hw _ (List.mem_of_getElem? (i := 3) rfl)) (by decide) (by decide)) (g := (mkF m 25 #[.val (.int p1), .val (.int p2), .val (.int p3), .val (.int p4), .val (.int ff0), .val (.int ff1), .unset, .unset, .unset, .unset, .unset, .unset, .unset] [(.int (p4 &&& (2147483647 : Int32))), (.int (1 : Int32))])) rfl (by rw [hml]; rfl) (argsL := [(.int (1 : Int32)), (.int (p4 &&& (2147483647 : Int32)))]) (rest := []) (lenOf pd__28II_29I rfl) rfl (by show 2 * 0 + _ ≤ _; exact Nat.le_of_eq rfl) (hb hby at_25) (fun _ _ => ⟨rfl, e57, (by decide : 0 + 0 ≤ _), (by decide : 0 + 0 ≤ _)⟩)
  dsimp only [Pt.U, Pt.locs, Pt.cells, Pt.slots] at X58 l58 y58 z58 st58 hQ58
  subst l58 y58 z58
  obtain ⟨rfl, Nq58, e58⟩ := hQ58
  have N58 := Fr.app N57 Nq58
  obtain ⟨ff2, e_ff2⟩ : ∃ z : Int32, z = (if (1 : Int32) < (p4 &&& (2147483647 : Int32)) then (p4 &&& (2147483647 : Int32)) else (1 : Int32)) := ⟨_, rfl⟩
  obtain ⟨T59, h59, k59, X59, e59, E59, A59, st59⟩ := newP X58 hx hZ (hw _ (List.mem_of_getElem? (i := 5) rfl)) e58 (g := (mkF m 31 #[.val (.int p1), .val (.int p2), .val (.int p3), .val (.int p4), .val (.int ff0), .val (.int ff1), .val (.int ff2), .unset, .unset, .unset, .unset, .unset, .unset] [(.int (3 : Int32))])) rfl (hb hby at_31) rfl (by decide) (cap := 3) (by decide) (by decide) (by decide) (by decide)
  obtain ⟨b59, g59⟩ : ∃ z, z = h0.size := ⟨_, rfl⟩
  rw [← g59] at A59 st59
  have g_b59 : n0 ≤ b59 := Nat.le_trans (Nat.le_trans Z0 (Keep.refl h0 []).1) (Nat.le_of_eq g59.symm)
  have sz_b59 : h0.size ≤ b59 := Nat.le_trans (Keep.refl h0 []).1 (Nat.le_of_eq g59.symm)
  have Kh59 : Keep h0 h59 [] := (Keep.refl h0 []).ext E59
  have V_b59 : Arv Z h59 b59 k59 .int (3 : Int32) [(.int (0 : Int32)), (.int (0 : Int32)), (.int (0 : Int32))] (.int (0 : Int32)) := (Arv.new A59 (by decide)).pad (pad_rep [] (.int (0 : Int32)) 3)
  obtain ⟨cl60, Ar60, q60, S60, M60, H60, G60⟩ := id (V_b59)
  have hin60 : ¬ ((0 : Int32) < 0 ∨ cl60.slots.size ≤ ((0 : Int32)).toNatClampNeg) := inb_of S60 ⟨by decide, by decide⟩
  obtain ⟨T60, h60, X60, e60, W60, st60⟩ := stI X59 hx hZ e59 Ar60 (j := (0 : Int32)) hin60 (g := (mkF m 36 #[.val (.int p1), .val (.int p2), .val (.int p3), .val (.int p4), .val (.int ff0), .val (.int ff1), .val (.int ff2), .unset, .unset, .unset, .unset, .unset, .unset] [(.int (0 : Int32)), (.int (0 : Int32)), (.ref b59), (.ref b59)])) rfl rfl (hb hby at_36)
  have V60 : Arv Z h60 b59 k59 .int (3 : Int32) [(.int (0 : Int32)), (.int (0 : Int32)), (.int (0 : Int32))] (.int (0 : Int32)) := Arv.set Ar60 q60 S60 M60 H60 G60 rfl W60 0 rfl (Nat.le_of_ble_eq_true rfl)
  have Kh60 : Keep h0 h60 [] := Kh59.wr W60 (Or.inr sz_b59)
  have N60 := Fr.snoc X60 N58 g_b59
  obtain ⟨cl61, Ar61, q61, S61, M61, H61, G61⟩ := id (V60)
  have hin61 : ¬ ((1 : Int32) < 0 ∨ cl61.slots.size ≤ ((1 : Int32)).toNatClampNeg) := inb_of S61 ⟨by decide, by decide⟩
  obtain ⟨T61, h61, X61, e61, W61, st61⟩ := stI X60 hx hZ e60 Ar61 (j := (1 : Int32)) hin61 (g := (mkF m 40 #[.val (.int p1), .val (.int p2), .val (.int p3), .val (.int p4), .val (.int ff0), .val (.int ff1), .val (.int ff2), .unset, .unset, .unset, .unset, .unset, .unset] [(.int (1 : Int32)), (.int (1 : Int32)), (.ref b59), (.ref b59)])) rfl rfl (hb hby at_40)
  have V61 : Arv Z h61 b59 k59 .int (3 : Int32) [(.int (0 : Int32)), (.int (1 : Int32)), (.int (0 : Int32))] (.int (0 : Int32)) := Arv.set Ar61 q61 S61 M61 H61 G61 rfl W61 1 rfl (Nat.le_of_ble_eq_true rfl)
  have Kh61 : Keep h0 h61 [] := Kh60.wr W61 (Or.inr sz_b59)
  have N61 := Fr.snoc X61 N60 g_b59
  obtain ⟨cl62, Ar62, q62, S62, M62, H62, G62⟩ := id (V61)
  have hin62 : ¬ ((2 : Int32) < 0 ∨ cl62.slots.size ≤ ((2 : Int32)).toNatClampNeg) := inb_of S62 ⟨by decide, by decide⟩
  obtain ⟨T62, h62, X62, e62, W62, st62⟩ := stI X61 hx hZ e61 Ar62 (j := (2 : Int32)) hin62 (g := (mkF m 44 #[.val (.int p1), .val (.int p2), .val (.int p3), .val (.int p4), .val (.int ff0), .val (.int ff1), .val (.int ff2), .unset, .unset, .unset, .unset, .unset, .unset] [(.int (2 : Int32)), (.int (2 : Int32)), (.ref b59), (.ref b59)])) rfl rfl (hb hby at_44)
  have V62 : Arv Z h62 b59 k59 .int (3 : Int32) [(.int (0 : Int32)), (.int (1 : Int32)), (.int (2 : Int32))] (.int (0 : Int32)) := Arv.set Ar62 q62 S62 M62 H62 G62 rfl W62 2 rfl (Nat.le_of_ble_eq_true rfl)
  have Kh62 : Keep h0 h62 [] := Kh61.wr W62 (Or.inr sz_b59)
  have N62 := Fr.snoc X62 N61 g_b59
  obtain ⟨T63, h63, k63, X63, e63, E63, A63, st63⟩ := newP X62 hx hZ (hw _ (List.mem_of_getElem? (i := 5) rfl)) e62 (g := (mkF m 48 #[.val (.int p1), .val (.int p2), .val (.int p3), .val (.int p4), .val (.int ff0), .val (.int ff1), .val (.int ff2), .val (.ref b59), .unset, .unset, .unset, .unset, .unset] [(.int (3 : Int32))])) rfl (hb hby at_48) rfl (by decide) (cap := 3) (by decide) (by decide) (by decide) (by decide)
  obtain ⟨b63, g63⟩ : ∃ z, z = h62.size := ⟨_, rfl⟩
  rw [← g63] at A63 st63
  have g_b63 : n0 ≤ b63 := Nat.le_trans (Nat.le_trans Z0 Kh62.1) (Nat.le_of_eq g63.symm)
  have sz_b63 : h0.size ≤ b63 := Nat.le_trans Kh62.1 (Nat.le_of_eq g63.symm)
  have ne_b59_b63 : b59 ≠ b63 := Nat.ne_of_lt (Nat.lt_of_lt_of_le V62.lt (Nat.le_of_eq g63.symm))
  have Kh63 : Keep h0 h63 [] := Kh62.ext E63
  have V_b63 : Arv Z h63 b63 k63 .int (3 : Int32) [(.int (0 : Int32)), (.int (0 : Int32)), (.int (0 : Int32))] (.int (0 : Int32)) := (Arv.new A63 (by decide)).pad (pad_rep [] (.int (0 : Int32)) 3)
  obtain ⟨cl64, Ar64, q64, S64, M64, H64, G64⟩ := id (V_b63)
  have hin64 : ¬ ((0 : Int32) < 0 ∨ cl64.slots.size ≤ ((0 : Int32)).toNatClampNeg) := inb_of S64 ⟨by decide, by decide⟩
  obtain ⟨T64, h64, X64, e64, W64, st64⟩ := stI X63 hx hZ e63 Ar64 (j := (0 : Int32)) hin64 (g := (mkF m 54 #[.val (.int p1), .val (.int p2), .val (.int p3), .val (.int p4), .val (.int ff0), .val (.int ff1), .val (.int ff2), .val (.ref b59), .unset, .unset, .unset, .unset, .unset] [(.int ff0), (.int (0 : Int32)), (.ref b63), (.ref b63)])) rfl rfl (hb hby at_54)
  have V64 : Arv Z h64 b63 k63 .int (3 : Int32) [(.int ff0), (.int (0 : Int32)), (.int (0 : Int32))] (.int (0 : Int32)) := Arv.set Ar64 q64 S64 M64 H64 G64 rfl W64 0 rfl (Nat.le_of_ble_eq_true rfl)
  have Kh64 : Keep h0 h64 [] := Kh63.wr W64 (Or.inr sz_b63)
  have N64 := Fr.snoc X64 N62 g_b63
  obtain ⟨cl65, Ar65, q65, S65, M65, H65, G65⟩ := id (V64)
  have hin65 : ¬ ((1 : Int32) < 0 ∨ cl65.slots.size ≤ ((1 : Int32)).toNatClampNeg) := inb_of S65 ⟨by decide, by decide⟩
  obtain ⟨T65, h65, X65, e65, W65, st65⟩ := stI X64 hx hZ e64 Ar65 (j := (1 : Int32)) hin65 (g := (mkF m 59 #[.val (.int p1), .val (.int p2), .val (.int p3), .val (.int p4), .val (.int ff0), .val (.int ff1), .val (.int ff2), .val (.ref b59), .unset, .unset, .unset, .unset, .unset] [(.int ff1), (.int (1 : Int32)), (.ref b63), (.ref b63)])) rfl rfl (hb hby at_59)
  have V65 : Arv Z h65 b63 k63 .int (3 : Int32) [(.int ff0), (.int ff1), (.int (0 : Int32))] (.int (0 : Int32)) := Arv.set Ar65 q65 S65 M65 H65 G65 rfl W65 1 rfl (Nat.le_of_ble_eq_true rfl)
  have Kh65 : Keep h0 h65 [] := Kh64.wr W65 (Or.inr sz_b63)
  have N65 := Fr.snoc X65 N64 g_b63
  obtain ⟨cl66, Ar66, q66, S66, M66, H66, G66⟩ := id (V65)
  have hin66 : ¬ ((2 : Int32) < 0 ∨ cl66.slots.size ≤ ((2 : Int32)).toNatClampNeg) := inb_of S66 ⟨by decide, by decide⟩
  obtain ⟨T66, h66, X66, e66, W66, st66⟩ := stI X65 hx hZ e65 Ar66 (j := (2 : Int32)) hin66 (g := (mkF m 64 #[.val (.int p1), .val (.int p2), .val (.int p3), .val (.int p4), .val (.int ff0), .val (.int ff1), .val (.int ff2), .val (.ref b59), .unset, .unset, .unset, .unset, .unset] [(.int ff2), (.int (2 : Int32)), (.ref b63), (.ref b63)])) rfl rfl (hb hby at_64)
  have V66 : Arv Z h66 b63 k63 .int (3 : Int32) [(.int ff0), (.int ff1), (.int ff2)] (.int (0 : Int32)) := Arv.set Ar66 q66 S66 M66 H66 G66 rfl W66 2 rfl (Nat.le_of_ble_eq_true rfl)
  have Kh66 : Keep h0 h66 [] := Kh65.wr W66 (Or.inr sz_b63)
  have N66 := Fr.snoc X66 N65 g_b63
  by_cases hc71 : (p1 &&& (8 : Int32)) = (0 : Int32)
  · obtain ⟨li, e_li⟩ : ∃ z : Int32, z = (p1 >>> ((4 : Int32) &&& 31)) := ⟨_, rfl⟩
    by_cases hc102 : (0 : Int32) < li
    · obtain ⟨_, _, ⟨T67, L67, c67_, n67_⟩, -, X67, ⟨Lc67, hQ67, l67, y67, z67⟩, st67⟩ := Jvm.LawKit.callS X66 hx (y := (⟨"java/lang/Math", "min", "(II)I"⟩ : MethodName)) hown (mvT hZ (hw _ (List.mem_of_getElem? (i := 56) rfl))) (mvT hZ (hw _ (List.mem_of_getElem? (i := 57) rfl))) (mvT hZ (hw _ (List.mem_of_getElem? (i := 3) rfl))) (mvT hZ (hw _ (List.mem_of_getElem? (i := 58) rfl))) (by decide) (backOf (W := 0) (rm_12 l Z a0 hw [] li (3 : Int32) h66 n0 (Nat.le_trans Z0 Kh66.1) ) hZ (hw _ (List.mem_of_getElem? (i := 58) rfl)) (hw _ (List.mem_of_getElem? (i := 3) rfl)) (by decide) (by decide)) (g := (mkF m 112 #[.val (.int p1), .val (.int p2), .val (.int p3), .val (.int p4), .val (.int ff0), .val (.int ff1), .val (.int ff2), .val (.ref b59), .val (.ref b63), .unset, .unset, .val (.int li), .unset] [(.int (3 : Int32)), (.int li)])) rfl (by rw [hml]; rfl) (argsL := [(.int li), (.int (3 : Int32))]) (rest := []) (lenOf pd__28II_29I rfl) rfl (by show 2 * 0 + _ ≤ _; exact Nat.le_of_eq rfl) (hb hby at_112) (fun _ _ => ⟨rfl, e66, (by decide : 2 + 0 ≤ _), (by decide : 6 + 0 ≤ _)⟩)
      dsimp only [Pt.U, Pt.locs, Pt.cells, Pt.slots] at X67 l67 y67 z67 st67 hQ67
      subst l67 y67 z67
      obtain ⟨rfl, Nq67, e67⟩ := hQ67
      have N67 := Fr.app N66 Nq67
      have hcut : own_cut li = 1 ∨ own_cut li = 2 ∨ own_cut li = 3 := by
        rw [own_hi li hc102]
        exact own_cnt li hc102
      obtain ⟨T68, h68, X68, e68, E68, A68, D68, -, st68⟩ := newO X67 hx hZ hown (hw _ (List.mem_of_getElem? (i := 6) rfl)) (hw _ (List.mem_of_getElem? (i := 7) rfl)) (hw _ (List.mem_of_getElem? (i := 8) rfl)) e67 (g := (mkF m 117 #[.val (.int p1), .val (.int p2), .val (.int p3), .val (.int p4), .val (.int ff0), .val (.int ff1), .val (.int ff2), .val (.ref b59), .val (.ref b63), .unset, .val (.int (if (3 : Int32) < li then (3 : Int32) else li)), .val (.int li), .unset] [])) rfl (hb hby at_117) (by decide) (by decide)
      obtain ⟨b68, g68⟩ : ∃ z, z = h66.size := ⟨_, rfl⟩
      rw [← g68] at A68 D68 st68
      have g_b68 : n0 ≤ b68 := Nat.le_trans (Nat.le_trans Z0 Kh66.1) (Nat.le_of_eq g68.symm)
      have sz_b68 : h0.size ≤ b68 := Nat.le_trans Kh66.1 (Nat.le_of_eq g68.symm)
      have ne_b59_b68 : b59 ≠ b68 := Nat.ne_of_lt (Nat.lt_of_lt_of_le ((((V62.ext E63).other W64 ne_b59_b63).other W65 ne_b59_b63).other W66 ne_b59_b63).lt (Nat.le_of_eq g68.symm))
      have ne_b63_b68 : b63 ≠ b68 := Nat.ne_of_lt (Nat.lt_of_lt_of_le V66.lt (Nat.le_of_eq g68.symm))
      have Kh68 : Keep h0 h68 [] := Kh66.ext E68
      have F_docs_b68 : Fld Z h68 b68 "com/example/vrabec/vrabec/index/Postings" "docs" "[I" .null := D68 (Or.inr (hw _ (List.mem_of_getElem? (i := 23) rfl))) (ty := (.array .int)) (by decide)
      have F_frequencies_b68 : Fld Z h68 b68 "com/example/vrabec/vrabec/index/Postings" "frequencies" "[I" .null := D68 (Or.inr (hw _ (List.mem_of_getElem? (i := 25) rfl))) (ty := (.array .int)) (by decide)
      have F_occurrences_b68 : Fld Z h68 b68 "com/example/vrabec/vrabec/index/Postings" "occurrences" "[J" .null := D68 (Or.inr (hw _ (List.mem_of_getElem? (i := 27) rfl))) (ty := (.array .long)) (by decide)
      have F_size_b68 : Fld Z h68 b68 "com/example/vrabec/vrabec/index/Postings" "size" "I" (.int (0 : Int32)) := D68 (Or.inr (hw _ (List.mem_of_getElem? (i := 29) rfl))) (ty := .int) (by decide)
      have f69 := (((((V62.ext E63).other W64 ne_b59_b63).other W65 ne_b59_b63).other W66 ne_b59_b63).ext E68)
      obtain ⟨_, _, ⟨T70, L70, c70_, n70_⟩, -, X70, ⟨Lc70, hQ70, l70, y70, z70⟩, st70⟩ := X68.specialBack hx (y := (⟨"com/example/vrabec/vrabec/index/Postings", "<init>", "([I[I)V"⟩ : MethodName)) rfl hown (mvT hZ (hw _ (List.mem_of_getElem? (i := 9) rfl))) (mvT hZ (hw _ (List.mem_of_getElem? (i := 10) rfl))) (mvT hZ (hw _ (List.mem_of_getElem? (i := 11) rfl))) (by decide) (backOf (W := 1) (rm_2b l Z a0 hw [] b68 b59 b63 ff0 ff1 ff2 k59 k63 [(.int (0 : Int32)), (.int (1 : Int32)), (.int (2 : Int32))] h68 n0 (Nat.le_trans Z0 Kh68.1) A68 g_b68 F_docs_b68 F_frequencies_b68 F_occurrences_b68 F_size_b68 f69 (V66.ext E68)) hZ (hw _ (List.mem_of_getElem? (i := 11) rfl)) (hw _ (List.mem_of_getElem? (i := 8) rfl)) (by decide) (by decide)) (g := (mkF m 125 #[.val (.int p1), .val (.int p2), .val (.int p3), .val (.int p4), .val (.int ff0), .val (.int ff1), .val (.int ff2), .val (.ref b59), .val (.ref b63), .unset, .val (.int (if (3 : Int32) < li then (3 : Int32) else li)), .val (.int li), .unset] [(.ref b63), (.ref b59), (.ref b68), (.ref b68)])) rfl (by rw [hml]; rfl) (Steps.refl _) (a := b68) (argsL := [(.ref b59), (.ref b63)]) (rest := [(.ref b68)]) (lenOf pd__28_5bI_5bI_29V rfl) rfl (by show 2 * 0 + _ ≤ _; exact Nat.le_of_eq rfl) (hb hby at_125) (fun _ _ => ⟨rfl, e68, (by decide : 3 + 1 ≤ _), (by decide : 10 + 3 ≤ _)⟩)
      dsimp only [Pt.U, Pt.locs, Pt.cells, Pt.slots] at X70 l70 y70 z70 st70 hQ70
      subst l70 y70 z70
      obtain ⟨rfl, Nq70, K70, Ee70, Fd70, Ff70, Fs70, oc70, kl70, go70, zo70, Fo70, Vo70⟩ := hQ70
      have N70 := Fr.app N67 Nq70
      have Kh70 : Keep h0 T70.heap [] := Kh68.trans K70 (allS (Or.inr sz_b68) all0)
      have g_oc70 := go70
      have sz_oc70 := Nat.le_trans Kh68.1 zo70
      obtain ⟨cq71, kq71, q71a, q71b, q71c⟩ := isOf hZ rfl Ee70
      obtain ⟨_, _, ⟨T71, L71, c71_, n71_⟩, -, X71, ⟨Lc71, hQ71, l71, y71, z71⟩, st71⟩ := X70.virtualBack hx (y := (⟨"com/example/vrabec/vrabec/index/Postings", "before", "(I)Lcom/example/vrabec/vrabec/index/Postings;"⟩ : MethodName)) (z := (⟨"com/example/vrabec/vrabec/index/Postings", "before", "(I)Lcom/example/vrabec/vrabec/index/Postings;"⟩ : MethodName)) hown (mvT hZ (hw _ (List.mem_of_getElem? (i := 30) rfl))) (mvT hZ (hw _ (List.mem_of_getElem? (i := 31) rfl))) (notFace_of_selects (args := #[]) (mvT hZ (hw _ (List.mem_of_getElem? (i := 33) rfl)))) (mvT hZ (hw _ (List.mem_of_getElem? (i := 33) rfl))) (mvT hZ (hw _ (List.mem_of_getElem? (i := 32) rfl))) (by decide) (backOf (W := 0) (rm_6 l Z a0 hw [] b68 li oc70 b59 b63 k59 T70.heap n0 (Nat.le_trans Z0 Kh70.1) Ee70 Fd70 Ff70 Fo70 Fs70 (f69.keep K70 (ninS ne_b59_b68 nin0))) hZ (hw _ (List.mem_of_getElem? (i := 34) rfl)) (hw _ (List.mem_of_getElem? (i := 8) rfl)) (by decide) (by decide)) q71a q71c (g := (mkF m 130 #[.val (.int p1), .val (.int p2), .val (.int p3), .val (.int p4), .val (.int ff0), .val (.int ff1), .val (.int ff2), .val (.ref b59), .val (.ref b63), .unset, .val (.int (if (3 : Int32) < li then (3 : Int32) else li)), .val (.int li), .unset] [(.int li), (.ref b68)])) rfl (by rw [hml]; rfl) (Steps.refl _) (argsL := [(.int li)]) (rest := []) (lenOf pd__28I_29Lcom_2fexample_2fvrabec_2fvrabec_2findex_2fPostings_3b rfl) rfl (by show 2 * 0 + _ ≤ _; exact Nat.le_of_eq rfl) (hb hby at_130) (fun _ _ => ⟨rfl, rfl, (by decide : 4 + 1 ≤ _), (by decide : 13 + 4 ≤ _)⟩)
      dsimp only [Pt.U, Pt.locs, Pt.cells, Pt.slots] at X71 l71 y71 z71 st71 hQ71
      subst l71 y71 z71
      obtain ⟨r71, rfl, Nq71, K71, Er71, Ho71, Hs71⟩ := hQ71
      have N71 := Fr.app N70 Nq71
      have Kh71 : Keep h0 T71.heap [] := Kh70.trans K71 (fun _ q_ => nomatch q_)
      have md72 : ∀ t, Steps p.tables e below (T71.setTop (mkF m 151 #[.val (.int p1), .val (.int p2), .val (.int p3), .val (.int p4), .val (.int ff0), .val (.int ff1), .val (.int ff2), .val (.ref b59), .val (.ref b63), .val (.ref r71), .val (.int (if (3 : Int32) < li then (3 : Int32) else li)), .val (.long (if (0 : Int32) < (if (3 : Int32) < li then (3 : Int32) else li) then ((0 : Int64) + (ff0.toInt64)) else (0 : Int64))), .second] [])) t → Steps p.tables e below (T71.setTop (mkF m 140 #[.val (.int p1), .val (.int p2), .val (.int p3), .val (.int p4), .val (.int ff0), .val (.int ff1), .val (.int ff2), .val (.ref b59), .val (.ref b63), .val (.ref r71), .val (.int (if (3 : Int32) < li then (3 : Int32) else li)), .val (.long (0 : Int64)), .second] [(.int (if (3 : Int32) < li then (3 : Int32) else li))])) t := by
        intro t kt
        by_cases hd140 : (0 : Int32) < (if (3 : Int32) < li then (3 : Int32) else li)
        · rw [show (if (0 : Int32) < (if (3 : Int32) < li then (3 : Int32) else li) then ((0 : Int64) + (ff0.toInt64)) else (0 : Int64)) = ((0 : Int64) + (ff0.toInt64)) from if_pos hd140] at kt
          show Steps p.tables e below (T71.setTop (mkF m 140 #[.val (.int p1), .val (.int p2), .val (.int p3), .val (.int p4), .val (.int ff0), .val (.int ff1), .val (.int ff2), .val (.ref b59), .val (.ref b63), .val (.ref r71), .val (.int (if (3 : Int32) < li then (3 : Int32) else li)), .val (.long (0 : Int64)), .second] [(.int (if (3 : Int32) < li then (3 : Int32) else li))])) _
          refine XS.ifNo X71.here hx rfl (hb hby at_140) rfl ((if0 _ _).trans (tlt hd140).2.2.2) ?_
          show Steps p.tables e below (T71.setTop (mkF m 143 #[.val (.int p1), .val (.int p2), .val (.int p3), .val (.int p4), .val (.int ff0), .val (.int ff1), .val (.int ff2), .val (.ref b59), .val (.ref b63), .val (.ref r71), .val (.int (if (3 : Int32) < li then (3 : Int32) else li)), .val (.long (0 : Int64)), .second] [])) _
          refine XS.lload X71.here hx rfl (hb hby at_143) rfl ?_
          show Steps p.tables e below (T71.setTop (mkF m 145 #[.val (.int p1), .val (.int p2), .val (.int p3), .val (.int p4), .val (.int ff0), .val (.int ff1), .val (.int ff2), .val (.ref b59), .val (.ref b63), .val (.ref r71), .val (.int (if (3 : Int32) < li then (3 : Int32) else li)), .val (.long (0 : Int64)), .second] [(.long (0 : Int64))])) _
          refine XS.iload X71.here hx rfl (hb hby at_145) rfl ?_
          show Steps p.tables e below (T71.setTop (mkF m 147 #[.val (.int p1), .val (.int p2), .val (.int p3), .val (.int p4), .val (.int ff0), .val (.int ff1), .val (.int ff2), .val (.ref b59), .val (.ref b63), .val (.ref r71), .val (.int (if (3 : Int32) < li then (3 : Int32) else li)), .val (.long (0 : Int64)), .second] [(.int ff0), (.long (0 : Int64))])) _
          refine XS.i2l X71.here hx rfl (hb hby at_147) rfl ?_
          show Steps p.tables e below (T71.setTop (mkF m 148 #[.val (.int p1), .val (.int p2), .val (.int p3), .val (.int p4), .val (.int ff0), .val (.int ff1), .val (.int ff2), .val (.ref b59), .val (.ref b63), .val (.ref r71), .val (.int (if (3 : Int32) < li then (3 : Int32) else li)), .val (.long (0 : Int64)), .second] [(.long (ff0.toInt64)), (.long (0 : Int64))])) _
          refine XS.ladd X71.here hx rfl (hb hby at_148) rfl ?_
          show Steps p.tables e below (T71.setTop (mkF m 149 #[.val (.int p1), .val (.int p2), .val (.int p3), .val (.int p4), .val (.int ff0), .val (.int ff1), .val (.int ff2), .val (.ref b59), .val (.ref b63), .val (.ref r71), .val (.int (if (3 : Int32) < li then (3 : Int32) else li)), .val (.long (0 : Int64)), .second] [(.long ((0 : Int64) + (ff0.toInt64)))])) _
          refine XS.lstore X71.here hx rfl (hb hby at_149) rfl (l' := #[.val (.int p1), .val (.int p2), .val (.int p3), .val (.int p4), .val (.int ff0), .val (.int ff1), .val (.int ff2), .val (.ref b59), .val (.ref b63), .val (.ref r71), .val (.int (if (3 : Int32) < li then (3 : Int32) else li)), .val (.long ((0 : Int64) + (ff0.toInt64))), .second]) rfl ?_
          exact kt
        · rw [show (if (0 : Int32) < (if (3 : Int32) < li then (3 : Int32) else li) then ((0 : Int64) + (ff0.toInt64)) else (0 : Int64)) = (0 : Int64) from if_neg hd140] at kt
          show Steps p.tables e below (T71.setTop (mkF m 140 #[.val (.int p1), .val (.int p2), .val (.int p3), .val (.int p4), .val (.int ff0), .val (.int ff1), .val (.int ff2), .val (.ref b59), .val (.ref b63), .val (.ref r71), .val (.int (if (3 : Int32) < li then (3 : Int32) else li)), .val (.long (0 : Int64)), .second] [(.int (if (3 : Int32) < li then (3 : Int32) else li))])) _
          refine XS.ifYes X71.here hx rfl (pc0 := 140) (pc' := 151) rfl (hb hby at_140) rfl ((if0 _ _).trans (flt hd140).2.2.2) (by decide) (by decide) ?_
          exact kt
      have md73 : ∀ t, Steps p.tables e below (T71.setTop (mkF m 165 #[.val (.int p1), .val (.int p2), .val (.int p3), .val (.int p4), .val (.int ff0), .val (.int ff1), .val (.int ff2), .val (.ref b59), .val (.ref b63), .val (.ref r71), .val (.int (if (3 : Int32) < li then (3 : Int32) else li)), .val (.long (if (1 : Int32) < (if (3 : Int32) < li then (3 : Int32) else li) then ((if (0 : Int32) < (if (3 : Int32) < li then (3 : Int32) else li) then ((0 : Int64) + (ff0.toInt64)) else (0 : Int64)) + (ff1.toInt64)) else (if (0 : Int32) < (if (3 : Int32) < li then (3 : Int32) else li) then ((0 : Int64) + (ff0.toInt64)) else (0 : Int64)))), .second] [])) t → Steps p.tables e below (T71.setTop (mkF m 154 #[.val (.int p1), .val (.int p2), .val (.int p3), .val (.int p4), .val (.int ff0), .val (.int ff1), .val (.int ff2), .val (.ref b59), .val (.ref b63), .val (.ref r71), .val (.int (if (3 : Int32) < li then (3 : Int32) else li)), .val (.long (if (0 : Int32) < (if (3 : Int32) < li then (3 : Int32) else li) then ((0 : Int64) + (ff0.toInt64)) else (0 : Int64))), .second] [(.int (1 : Int32)), (.int (if (3 : Int32) < li then (3 : Int32) else li))])) t := by
        intro t kt
        by_cases hd154 : (1 : Int32) < (if (3 : Int32) < li then (3 : Int32) else li)
        · rw [show (if (1 : Int32) < (if (3 : Int32) < li then (3 : Int32) else li) then ((if (0 : Int32) < (if (3 : Int32) < li then (3 : Int32) else li) then ((0 : Int64) + (ff0.toInt64)) else (0 : Int64)) + (ff1.toInt64)) else (if (0 : Int32) < (if (3 : Int32) < li then (3 : Int32) else li) then ((0 : Int64) + (ff0.toInt64)) else (0 : Int64))) = ((if (0 : Int32) < (if (3 : Int32) < li then (3 : Int32) else li) then ((0 : Int64) + (ff0.toInt64)) else (0 : Int64)) + (ff1.toInt64)) from if_pos hd154] at kt
          show Steps p.tables e below (T71.setTop (mkF m 154 #[.val (.int p1), .val (.int p2), .val (.int p3), .val (.int p4), .val (.int ff0), .val (.int ff1), .val (.int ff2), .val (.ref b59), .val (.ref b63), .val (.ref r71), .val (.int (if (3 : Int32) < li then (3 : Int32) else li)), .val (.long (if (0 : Int32) < (if (3 : Int32) < li then (3 : Int32) else li) then ((0 : Int64) + (ff0.toInt64)) else (0 : Int64))), .second] [(.int (1 : Int32)), (.int (if (3 : Int32) < li then (3 : Int32) else li))])) _
          refine XS.icmpNo X71.here hx rfl (hb hby at_154) rfl (tlt hd154).2.2.2 ?_
          show Steps p.tables e below (T71.setTop (mkF m 157 #[.val (.int p1), .val (.int p2), .val (.int p3), .val (.int p4), .val (.int ff0), .val (.int ff1), .val (.int ff2), .val (.ref b59), .val (.ref b63), .val (.ref r71), .val (.int (if (3 : Int32) < li then (3 : Int32) else li)), .val (.long (if (0 : Int32) < (if (3 : Int32) < li then (3 : Int32) else li) then ((0 : Int64) + (ff0.toInt64)) else (0 : Int64))), .second] [])) _
          refine XS.lload X71.here hx rfl (hb hby at_157) rfl ?_
          show Steps p.tables e below (T71.setTop (mkF m 159 #[.val (.int p1), .val (.int p2), .val (.int p3), .val (.int p4), .val (.int ff0), .val (.int ff1), .val (.int ff2), .val (.ref b59), .val (.ref b63), .val (.ref r71), .val (.int (if (3 : Int32) < li then (3 : Int32) else li)), .val (.long (if (0 : Int32) < (if (3 : Int32) < li then (3 : Int32) else li) then ((0 : Int64) + (ff0.toInt64)) else (0 : Int64))), .second] [(.long (if (0 : Int32) < (if (3 : Int32) < li then (3 : Int32) else li) then ((0 : Int64) + (ff0.toInt64)) else (0 : Int64)))])) _
          refine XS.iload X71.here hx rfl (hb hby at_159) rfl ?_
          show Steps p.tables e below (T71.setTop (mkF m 161 #[.val (.int p1), .val (.int p2), .val (.int p3), .val (.int p4), .val (.int ff0), .val (.int ff1), .val (.int ff2), .val (.ref b59), .val (.ref b63), .val (.ref r71), .val (.int (if (3 : Int32) < li then (3 : Int32) else li)), .val (.long (if (0 : Int32) < (if (3 : Int32) < li then (3 : Int32) else li) then ((0 : Int64) + (ff0.toInt64)) else (0 : Int64))), .second] [(.int ff1), (.long (if (0 : Int32) < (if (3 : Int32) < li then (3 : Int32) else li) then ((0 : Int64) + (ff0.toInt64)) else (0 : Int64)))])) _
          refine XS.i2l X71.here hx rfl (hb hby at_161) rfl ?_
          show Steps p.tables e below (T71.setTop (mkF m 162 #[.val (.int p1), .val (.int p2), .val (.int p3), .val (.int p4), .val (.int ff0), .val (.int ff1), .val (.int ff2), .val (.ref b59), .val (.ref b63), .val (.ref r71), .val (.int (if (3 : Int32) < li then (3 : Int32) else li)), .val (.long (if (0 : Int32) < (if (3 : Int32) < li then (3 : Int32) else li) then ((0 : Int64) + (ff0.toInt64)) else (0 : Int64))), .second] [(.long (ff1.toInt64)), (.long (if (0 : Int32) < (if (3 : Int32) < li then (3 : Int32) else li) then ((0 : Int64) + (ff0.toInt64)) else (0 : Int64)))])) _
          refine XS.ladd X71.here hx rfl (hb hby at_162) rfl ?_
          show Steps p.tables e below (T71.setTop (mkF m 163 #[.val (.int p1), .val (.int p2), .val (.int p3), .val (.int p4), .val (.int ff0), .val (.int ff1), .val (.int ff2), .val (.ref b59), .val (.ref b63), .val (.ref r71), .val (.int (if (3 : Int32) < li then (3 : Int32) else li)), .val (.long (if (0 : Int32) < (if (3 : Int32) < li then (3 : Int32) else li) then ((0 : Int64) + (ff0.toInt64)) else (0 : Int64))), .second] [(.long ((if (0 : Int32) < (if (3 : Int32) < li then (3 : Int32) else li) then ((0 : Int64) + (ff0.toInt64)) else (0 : Int64)) + (ff1.toInt64)))])) _
          refine XS.lstore X71.here hx rfl (hb hby at_163) rfl (l' := #[.val (.int p1), .val (.int p2), .val (.int p3), .val (.int p4), .val (.int ff0), .val (.int ff1), .val (.int ff2), .val (.ref b59), .val (.ref b63), .val (.ref r71), .val (.int (if (3 : Int32) < li then (3 : Int32) else li)), .val (.long ((if (0 : Int32) < (if (3 : Int32) < li then (3 : Int32) else li) then ((0 : Int64) + (ff0.toInt64)) else (0 : Int64)) + (ff1.toInt64))), .second]) rfl ?_
          exact kt
        · rw [show (if (1 : Int32) < (if (3 : Int32) < li then (3 : Int32) else li) then ((if (0 : Int32) < (if (3 : Int32) < li then (3 : Int32) else li) then ((0 : Int64) + (ff0.toInt64)) else (0 : Int64)) + (ff1.toInt64)) else (if (0 : Int32) < (if (3 : Int32) < li then (3 : Int32) else li) then ((0 : Int64) + (ff0.toInt64)) else (0 : Int64))) = (if (0 : Int32) < (if (3 : Int32) < li then (3 : Int32) else li) then ((0 : Int64) + (ff0.toInt64)) else (0 : Int64)) from if_neg hd154] at kt
          show Steps p.tables e below (T71.setTop (mkF m 154 #[.val (.int p1), .val (.int p2), .val (.int p3), .val (.int p4), .val (.int ff0), .val (.int ff1), .val (.int ff2), .val (.ref b59), .val (.ref b63), .val (.ref r71), .val (.int (if (3 : Int32) < li then (3 : Int32) else li)), .val (.long (if (0 : Int32) < (if (3 : Int32) < li then (3 : Int32) else li) then ((0 : Int64) + (ff0.toInt64)) else (0 : Int64))), .second] [(.int (1 : Int32)), (.int (if (3 : Int32) < li then (3 : Int32) else li))])) _
          refine XS.icmpYes X71.here hx rfl (pc0 := 154) (pc' := 165) rfl (hb hby at_154) rfl (flt hd154).2.2.2 (by decide) (by decide) ?_
          exact kt
      have md74 : ∀ t, Steps p.tables e below (T71.setTop (mkF m 179 #[.val (.int p1), .val (.int p2), .val (.int p3), .val (.int p4), .val (.int ff0), .val (.int ff1), .val (.int ff2), .val (.ref b59), .val (.ref b63), .val (.ref r71), .val (.int (if (3 : Int32) < li then (3 : Int32) else li)), .val (.long (if (2 : Int32) < (if (3 : Int32) < li then (3 : Int32) else li) then ((if (1 : Int32) < (if (3 : Int32) < li then (3 : Int32) else li) then ((if (0 : Int32) < (if (3 : Int32) < li then (3 : Int32) else li) then ((0 : Int64) + (ff0.toInt64)) else (0 : Int64)) + (ff1.toInt64)) else (if (0 : Int32) < (if (3 : Int32) < li then (3 : Int32) else li) then ((0 : Int64) + (ff0.toInt64)) else (0 : Int64))) + (ff2.toInt64)) else (if (1 : Int32) < (if (3 : Int32) < li then (3 : Int32) else li) then ((if (0 : Int32) < (if (3 : Int32) < li then (3 : Int32) else li) then ((0 : Int64) + (ff0.toInt64)) else (0 : Int64)) + (ff1.toInt64)) else (if (0 : Int32) < (if (3 : Int32) < li then (3 : Int32) else li) then ((0 : Int64) + (ff0.toInt64)) else (0 : Int64))))), .second] [])) t → Steps p.tables e below (T71.setTop (mkF m 168 #[.val (.int p1), .val (.int p2), .val (.int p3), .val (.int p4), .val (.int ff0), .val (.int ff1), .val (.int ff2), .val (.ref b59), .val (.ref b63), .val (.ref r71), .val (.int (if (3 : Int32) < li then (3 : Int32) else li)), .val (.long (if (1 : Int32) < (if (3 : Int32) < li then (3 : Int32) else li) then ((if (0 : Int32) < (if (3 : Int32) < li then (3 : Int32) else li) then ((0 : Int64) + (ff0.toInt64)) else (0 : Int64)) + (ff1.toInt64)) else (if (0 : Int32) < (if (3 : Int32) < li then (3 : Int32) else li) then ((0 : Int64) + (ff0.toInt64)) else (0 : Int64)))), .second] [(.int (2 : Int32)), (.int (if (3 : Int32) < li then (3 : Int32) else li))])) t := by
        intro t kt
        by_cases hd168 : (2 : Int32) < (if (3 : Int32) < li then (3 : Int32) else li)
        · rw [show (if (2 : Int32) < (if (3 : Int32) < li then (3 : Int32) else li) then ((if (1 : Int32) < (if (3 : Int32) < li then (3 : Int32) else li) then ((if (0 : Int32) < (if (3 : Int32) < li then (3 : Int32) else li) then ((0 : Int64) + (ff0.toInt64)) else (0 : Int64)) + (ff1.toInt64)) else (if (0 : Int32) < (if (3 : Int32) < li then (3 : Int32) else li) then ((0 : Int64) + (ff0.toInt64)) else (0 : Int64))) + (ff2.toInt64)) else (if (1 : Int32) < (if (3 : Int32) < li then (3 : Int32) else li) then ((if (0 : Int32) < (if (3 : Int32) < li then (3 : Int32) else li) then ((0 : Int64) + (ff0.toInt64)) else (0 : Int64)) + (ff1.toInt64)) else (if (0 : Int32) < (if (3 : Int32) < li then (3 : Int32) else li) then ((0 : Int64) + (ff0.toInt64)) else (0 : Int64)))) = ((if (1 : Int32) < (if (3 : Int32) < li then (3 : Int32) else li) then ((if (0 : Int32) < (if (3 : Int32) < li then (3 : Int32) else li) then ((0 : Int64) + (ff0.toInt64)) else (0 : Int64)) + (ff1.toInt64)) else (if (0 : Int32) < (if (3 : Int32) < li then (3 : Int32) else li) then ((0 : Int64) + (ff0.toInt64)) else (0 : Int64))) + (ff2.toInt64)) from if_pos hd168] at kt
          show Steps p.tables e below (T71.setTop (mkF m 168 #[.val (.int p1), .val (.int p2), .val (.int p3), .val (.int p4), .val (.int ff0), .val (.int ff1), .val (.int ff2), .val (.ref b59), .val (.ref b63), .val (.ref r71), .val (.int (if (3 : Int32) < li then (3 : Int32) else li)), .val (.long (if (1 : Int32) < (if (3 : Int32) < li then (3 : Int32) else li) then ((if (0 : Int32) < (if (3 : Int32) < li then (3 : Int32) else li) then ((0 : Int64) + (ff0.toInt64)) else (0 : Int64)) + (ff1.toInt64)) else (if (0 : Int32) < (if (3 : Int32) < li then (3 : Int32) else li) then ((0 : Int64) + (ff0.toInt64)) else (0 : Int64)))), .second] [(.int (2 : Int32)), (.int (if (3 : Int32) < li then (3 : Int32) else li))])) _
          refine XS.icmpNo X71.here hx rfl (hb hby at_168) rfl (tlt hd168).2.2.2 ?_
          show Steps p.tables e below (T71.setTop (mkF m 171 #[.val (.int p1), .val (.int p2), .val (.int p3), .val (.int p4), .val (.int ff0), .val (.int ff1), .val (.int ff2), .val (.ref b59), .val (.ref b63), .val (.ref r71), .val (.int (if (3 : Int32) < li then (3 : Int32) else li)), .val (.long (if (1 : Int32) < (if (3 : Int32) < li then (3 : Int32) else li) then ((if (0 : Int32) < (if (3 : Int32) < li then (3 : Int32) else li) then ((0 : Int64) + (ff0.toInt64)) else (0 : Int64)) + (ff1.toInt64)) else (if (0 : Int32) < (if (3 : Int32) < li then (3 : Int32) else li) then ((0 : Int64) + (ff0.toInt64)) else (0 : Int64)))), .second] [])) _
          refine XS.lload X71.here hx rfl (hb hby at_171) rfl ?_
          show Steps p.tables e below (T71.setTop (mkF m 173 #[.val (.int p1), .val (.int p2), .val (.int p3), .val (.int p4), .val (.int ff0), .val (.int ff1), .val (.int ff2), .val (.ref b59), .val (.ref b63), .val (.ref r71), .val (.int (if (3 : Int32) < li then (3 : Int32) else li)), .val (.long (if (1 : Int32) < (if (3 : Int32) < li then (3 : Int32) else li) then ((if (0 : Int32) < (if (3 : Int32) < li then (3 : Int32) else li) then ((0 : Int64) + (ff0.toInt64)) else (0 : Int64)) + (ff1.toInt64)) else (if (0 : Int32) < (if (3 : Int32) < li then (3 : Int32) else li) then ((0 : Int64) + (ff0.toInt64)) else (0 : Int64)))), .second] [(.long (if (1 : Int32) < (if (3 : Int32) < li then (3 : Int32) else li) then ((if (0 : Int32) < (if (3 : Int32) < li then (3 : Int32) else li) then ((0 : Int64) + (ff0.toInt64)) else (0 : Int64)) + (ff1.toInt64)) else (if (0 : Int32) < (if (3 : Int32) < li then (3 : Int32) else li) then ((0 : Int64) + (ff0.toInt64)) else (0 : Int64))))])) _
          refine XS.iload X71.here hx rfl (hb hby at_173) rfl ?_
          show Steps p.tables e below (T71.setTop (mkF m 175 #[.val (.int p1), .val (.int p2), .val (.int p3), .val (.int p4), .val (.int ff0), .val (.int ff1), .val (.int ff2), .val (.ref b59), .val (.ref b63), .val (.ref r71), .val (.int (if (3 : Int32) < li then (3 : Int32) else li)), .val (.long (if (1 : Int32) < (if (3 : Int32) < li then (3 : Int32) else li) then ((if (0 : Int32) < (if (3 : Int32) < li then (3 : Int32) else li) then ((0 : Int64) + (ff0.toInt64)) else (0 : Int64)) + (ff1.toInt64)) else (if (0 : Int32) < (if (3 : Int32) < li then (3 : Int32) else li) then ((0 : Int64) + (ff0.toInt64)) else (0 : Int64)))), .second] [(.int ff2), (.long (if (1 : Int32) < (if (3 : Int32) < li then (3 : Int32) else li) then ((if (0 : Int32) < (if (3 : Int32) < li then (3 : Int32) else li) then ((0 : Int64) + (ff0.toInt64)) else (0 : Int64)) + (ff1.toInt64)) else (if (0 : Int32) < (if (3 : Int32) < li then (3 : Int32) else li) then ((0 : Int64) + (ff0.toInt64)) else (0 : Int64))))])) _
          refine XS.i2l X71.here hx rfl (hb hby at_175) rfl ?_
          show Steps p.tables e below (T71.setTop (mkF m 176 #[.val (.int p1), .val (.int p2), .val (.int p3), .val (.int p4), .val (.int ff0), .val (.int ff1), .val (.int ff2), .val (.ref b59), .val (.ref b63), .val (.ref r71), .val (.int (if (3 : Int32) < li then (3 : Int32) else li)), .val (.long (if (1 : Int32) < (if (3 : Int32) < li then (3 : Int32) else li) then ((if (0 : Int32) < (if (3 : Int32) < li then (3 : Int32) else li) then ((0 : Int64) + (ff0.toInt64)) else (0 : Int64)) + (ff1.toInt64)) else (if (0 : Int32) < (if (3 : Int32) < li then (3 : Int32) else li) then ((0 : Int64) + (ff0.toInt64)) else (0 : Int64)))), .second] [(.long (ff2.toInt64)), (.long (if (1 : Int32) < (if (3 : Int32) < li then (3 : Int32) else li) then ((if (0 : Int32) < (if (3 : Int32) < li then (3 : Int32) else li) then ((0 : Int64) + (ff0.toInt64)) else (0 : Int64)) + (ff1.toInt64)) else (if (0 : Int32) < (if (3 : Int32) < li then (3 : Int32) else li) then ((0 : Int64) + (ff0.toInt64)) else (0 : Int64))))])) _
          refine XS.ladd X71.here hx rfl (hb hby at_176) rfl ?_
          show Steps p.tables e below (T71.setTop (mkF m 177 #[.val (.int p1), .val (.int p2), .val (.int p3), .val (.int p4), .val (.int ff0), .val (.int ff1), .val (.int ff2), .val (.ref b59), .val (.ref b63), .val (.ref r71), .val (.int (if (3 : Int32) < li then (3 : Int32) else li)), .val (.long (if (1 : Int32) < (if (3 : Int32) < li then (3 : Int32) else li) then ((if (0 : Int32) < (if (3 : Int32) < li then (3 : Int32) else li) then ((0 : Int64) + (ff0.toInt64)) else (0 : Int64)) + (ff1.toInt64)) else (if (0 : Int32) < (if (3 : Int32) < li then (3 : Int32) else li) then ((0 : Int64) + (ff0.toInt64)) else (0 : Int64)))), .second] [(.long ((if (1 : Int32) < (if (3 : Int32) < li then (3 : Int32) else li) then ((if (0 : Int32) < (if (3 : Int32) < li then (3 : Int32) else li) then ((0 : Int64) + (ff0.toInt64)) else (0 : Int64)) + (ff1.toInt64)) else (if (0 : Int32) < (if (3 : Int32) < li then (3 : Int32) else li) then ((0 : Int64) + (ff0.toInt64)) else (0 : Int64))) + (ff2.toInt64)))])) _
          refine XS.lstore X71.here hx rfl (hb hby at_177) rfl (l' := #[.val (.int p1), .val (.int p2), .val (.int p3), .val (.int p4), .val (.int ff0), .val (.int ff1), .val (.int ff2), .val (.ref b59), .val (.ref b63), .val (.ref r71), .val (.int (if (3 : Int32) < li then (3 : Int32) else li)), .val (.long ((if (1 : Int32) < (if (3 : Int32) < li then (3 : Int32) else li) then ((if (0 : Int32) < (if (3 : Int32) < li then (3 : Int32) else li) then ((0 : Int64) + (ff0.toInt64)) else (0 : Int64)) + (ff1.toInt64)) else (if (0 : Int32) < (if (3 : Int32) < li then (3 : Int32) else li) then ((0 : Int64) + (ff0.toInt64)) else (0 : Int64))) + (ff2.toInt64))), .second]) rfl ?_
          exact kt
        · rw [show (if (2 : Int32) < (if (3 : Int32) < li then (3 : Int32) else li) then ((if (1 : Int32) < (if (3 : Int32) < li then (3 : Int32) else li) then ((if (0 : Int32) < (if (3 : Int32) < li then (3 : Int32) else li) then ((0 : Int64) + (ff0.toInt64)) else (0 : Int64)) + (ff1.toInt64)) else (if (0 : Int32) < (if (3 : Int32) < li then (3 : Int32) else li) then ((0 : Int64) + (ff0.toInt64)) else (0 : Int64))) + (ff2.toInt64)) else (if (1 : Int32) < (if (3 : Int32) < li then (3 : Int32) else li) then ((if (0 : Int32) < (if (3 : Int32) < li then (3 : Int32) else li) then ((0 : Int64) + (ff0.toInt64)) else (0 : Int64)) + (ff1.toInt64)) else (if (0 : Int32) < (if (3 : Int32) < li then (3 : Int32) else li) then ((0 : Int64) + (ff0.toInt64)) else (0 : Int64)))) = (if (1 : Int32) < (if (3 : Int32) < li then (3 : Int32) else li) then ((if (0 : Int32) < (if (3 : Int32) < li then (3 : Int32) else li) then ((0 : Int64) + (ff0.toInt64)) else (0 : Int64)) + (ff1.toInt64)) else (if (0 : Int32) < (if (3 : Int32) < li then (3 : Int32) else li) then ((0 : Int64) + (ff0.toInt64)) else (0 : Int64))) from if_neg hd168] at kt
          show Steps p.tables e below (T71.setTop (mkF m 168 #[.val (.int p1), .val (.int p2), .val (.int p3), .val (.int p4), .val (.int ff0), .val (.int ff1), .val (.int ff2), .val (.ref b59), .val (.ref b63), .val (.ref r71), .val (.int (if (3 : Int32) < li then (3 : Int32) else li)), .val (.long (if (1 : Int32) < (if (3 : Int32) < li then (3 : Int32) else li) then ((if (0 : Int32) < (if (3 : Int32) < li then (3 : Int32) else li) then ((0 : Int64) + (ff0.toInt64)) else (0 : Int64)) + (ff1.toInt64)) else (if (0 : Int32) < (if (3 : Int32) < li then (3 : Int32) else li) then ((0 : Int64) + (ff0.toInt64)) else (0 : Int64)))), .second] [(.int (2 : Int32)), (.int (if (3 : Int32) < li then (3 : Int32) else li))])) _
          refine XS.icmpYes X71.here hx rfl (pc0 := 168) (pc' := 179) rfl (hb hby at_168) rfl (flt hd168).2.2.2 (by decide) (by decide) ?_
          exact kt
      obtain ⟨cq75, kq75, q75a, q75b, q75c⟩ := isOf hZ rfl Er71
      obtain ⟨_, _, ⟨T75, L75, c75_, n75_⟩, -, X75, ⟨Lc75, hQ75, l75, y75, z75⟩, st75⟩ := X71.virtualBack hx (y := (⟨"com/example/vrabec/vrabec/index/Postings", "size", "()I"⟩ : MethodName)) (z := (⟨"com/example/vrabec/vrabec/index/Postings", "size", "()I"⟩ : MethodName)) hown (mvT hZ (hw _ (List.mem_of_getElem? (i := 46) rfl))) (mvT hZ (hw _ (List.mem_of_getElem? (i := 47) rfl))) (notFace_of_selects (args := #[]) (mvT hZ (hw _ (List.mem_of_getElem? (i := 49) rfl)))) (mvT hZ (hw _ (List.mem_of_getElem? (i := 49) rfl))) (mvT hZ (hw _ (List.mem_of_getElem? (i := 48) rfl))) (by decide) (backOf (W := 0) (rm_10 l Z a0 hw [] r71 (own_cut li) T71.heap n0 (Nat.le_trans Z0 Kh71.1) Hs71) hZ (hw _ (List.mem_of_getElem? (i := 50) rfl)) (hw _ (List.mem_of_getElem? (i := 8) rfl)) (by decide) (by decide)) q75a q75c (g := (mkF m 181 #[.val (.int p1), .val (.int p2), .val (.int p3), .val (.int p4), .val (.int ff0), .val (.int ff1), .val (.int ff2), .val (.ref b59), .val (.ref b63), .val (.ref r71), .val (.int (if (3 : Int32) < li then (3 : Int32) else li)), .val (.long (if (2 : Int32) < (if (3 : Int32) < li then (3 : Int32) else li) then ((if (1 : Int32) < (if (3 : Int32) < li then (3 : Int32) else li) then ((if (0 : Int32) < (if (3 : Int32) < li then (3 : Int32) else li) then ((0 : Int64) + (ff0.toInt64)) else (0 : Int64)) + (ff1.toInt64)) else (if (0 : Int32) < (if (3 : Int32) < li then (3 : Int32) else li) then ((0 : Int64) + (ff0.toInt64)) else (0 : Int64))) + (ff2.toInt64)) else (if (1 : Int32) < (if (3 : Int32) < li then (3 : Int32) else li) then ((if (0 : Int32) < (if (3 : Int32) < li then (3 : Int32) else li) then ((0 : Int64) + (ff0.toInt64)) else (0 : Int64)) + (ff1.toInt64)) else (if (0 : Int32) < (if (3 : Int32) < li then (3 : Int32) else li) then ((0 : Int64) + (ff0.toInt64)) else (0 : Int64))))), .second] [(.ref r71)])) rfl (by rw [hml]; rfl) (Steps.refl _) (argsL := []) (rest := []) (lenOf pd__28_29I rfl) rfl (by show 2 * 0 + _ ≤ _; exact Nat.le_of_eq rfl) (hb hby at_181) (fun _ _ => ⟨rfl, rfl, (by decide : 5 + 0 ≤ _), (by decide : 17 + 0 ≤ _)⟩)
      dsimp only [Pt.U, Pt.locs, Pt.cells, Pt.slots] at X75 l75 y75 z75 st75 hQ75
      subst l75 y75 z75
      obtain ⟨rfl, Nq75, e75⟩ := hQ75
      have N75 := Fr.app N71 Nq75
      have hc186 : (own_cut li) = (if (3 : Int32) < li then (3 : Int32) else li) := (own_hi li hc102)
      obtain ⟨cq76, kq76, q76a, q76b, q76c⟩ := isOf hZ e75 Er71
      obtain ⟨_, _, ⟨T76, L76, c76_, n76_⟩, -, X76, ⟨Lc76, hQ76, l76, y76, z76⟩, st76⟩ := X75.virtualBack hx (y := (⟨"com/example/vrabec/vrabec/index/Postings", "occurrences", "()J"⟩ : MethodName)) (z := (⟨"com/example/vrabec/vrabec/index/Postings", "occurrences", "()J"⟩ : MethodName)) hown (mvT hZ (hw _ (List.mem_of_getElem? (i := 51) rfl))) (mvT hZ (hw _ (List.mem_of_getElem? (i := 52) rfl))) (notFace_of_selects (args := #[]) (mvT hZ (hw _ (List.mem_of_getElem? (i := 54) rfl)))) (mvT hZ (hw _ (List.mem_of_getElem? (i := 54) rfl))) (mvT hZ (hw _ (List.mem_of_getElem? (i := 53) rfl))) (by decide) (backOf (W := 0) (rm_11 l Z a0 hw [] r71 (own_cut li) (own_x (own_cut li) ((0 : Int64) + (ff0.toInt64)) (((0 : Int64) + (ff0.toInt64)) + (ff1.toInt64)) ((((0 : Int64) + (ff0.toInt64)) + (ff1.toInt64)) + (ff2.toInt64))) oc70 kl70 (3 : Int32) [(.long ((0 : Int64) + (ff0.toInt64))), (.long (((0 : Int64) + (ff0.toInt64)) + (ff1.toInt64))), (.long ((((0 : Int64) + (ff0.toInt64)) + (ff1.toInt64)) + (ff2.toInt64)))] T71.heap n0 (Nat.le_trans Z0 Kh71.1) Hs71 Ho71 (Vo70.keep K71 nin0) (fun _ => own_getx (own_cut li) hcut ((0 : Int64) + (ff0.toInt64)) (((0 : Int64) + (ff0.toInt64)) + (ff1.toInt64)) ((((0 : Int64) + (ff0.toInt64)) + (ff1.toInt64)) + (ff2.toInt64)))) hZ (hw _ (List.mem_of_getElem? (i := 55) rfl)) (hw _ (List.mem_of_getElem? (i := 8) rfl)) (by decide) (by decide)) q76a q76c (g := (mkF m 191 #[.val (.int p1), .val (.int p2), .val (.int p3), .val (.int p4), .val (.int ff0), .val (.int ff1), .val (.int ff2), .val (.ref b59), .val (.ref b63), .val (.ref r71), .val (.int (if (3 : Int32) < li then (3 : Int32) else li)), .val (.long (if (2 : Int32) < (if (3 : Int32) < li then (3 : Int32) else li) then ((if (1 : Int32) < (if (3 : Int32) < li then (3 : Int32) else li) then ((if (0 : Int32) < (if (3 : Int32) < li then (3 : Int32) else li) then ((0 : Int64) + (ff0.toInt64)) else (0 : Int64)) + (ff1.toInt64)) else (if (0 : Int32) < (if (3 : Int32) < li then (3 : Int32) else li) then ((0 : Int64) + (ff0.toInt64)) else (0 : Int64))) + (ff2.toInt64)) else (if (1 : Int32) < (if (3 : Int32) < li then (3 : Int32) else li) then ((if (0 : Int32) < (if (3 : Int32) < li then (3 : Int32) else li) then ((0 : Int64) + (ff0.toInt64)) else (0 : Int64)) + (ff1.toInt64)) else (if (0 : Int32) < (if (3 : Int32) < li then (3 : Int32) else li) then ((0 : Int64) + (ff0.toInt64)) else (0 : Int64))))), .second] [(.ref r71)])) rfl (by rw [hml]; rfl) (Steps.refl _) (argsL := []) (rest := []) (lenOf pd__28_29J rfl) rfl (by show 2 * 0 + _ ≤ _; exact Nat.le_of_eq rfl) (hb hby at_191) (fun _ _ => ⟨rfl, e75, (by decide : 5 + 0 ≤ _), (by decide : 17 + 0 ≤ _)⟩)
      dsimp only [Pt.U, Pt.locs, Pt.cells, Pt.slots] at X76 l76 y76 z76 st76 hQ76
      subst l76 y76 z76
      obtain ⟨rfl, Nq76, e76⟩ := hQ76
      have N76 := Fr.app N75 Nq76
      have hc197 : (if (own_cut li) = (0 : Int32) then (0 : Int64) else (own_x (own_cut li) ((0 : Int64) + (ff0.toInt64)) (((0 : Int64) + (ff0.toInt64)) + (ff1.toInt64)) ((((0 : Int64) + (ff0.toInt64)) + (ff1.toInt64)) + (ff2.toInt64)))) = (if (2 : Int32) < (if (3 : Int32) < li then (3 : Int32) else li) then ((if (1 : Int32) < (if (3 : Int32) < li then (3 : Int32) else li) then ((if (0 : Int32) < (if (3 : Int32) < li then (3 : Int32) else li) then ((0 : Int64) + (ff0.toInt64)) else (0 : Int64)) + (ff1.toInt64)) else (if (0 : Int32) < (if (3 : Int32) < li then (3 : Int32) else li) then ((0 : Int64) + (ff0.toInt64)) else (0 : Int64))) + (ff2.toInt64)) else (if (1 : Int32) < (if (3 : Int32) < li then (3 : Int32) else li) then ((if (0 : Int32) < (if (3 : Int32) < li then (3 : Int32) else li) then ((0 : Int64) + (ff0.toInt64)) else (0 : Int64)) + (ff1.toInt64)) else (if (0 : Int32) < (if (3 : Int32) < li then (3 : Int32) else li) then ((0 : Int64) + (ff0.toInt64)) else (0 : Int64)))) := (by rw [← own_hi li hc102]; exact own_exp (own_cut li) hcut _ _ _ _)
      obtain ⟨fs, hr, hrun, hended, hW, hsame⟩ := X76.leave (v := some (.int (1 : Int32))) (fun h => by rw [Bd.returns] at h; cases h)
      refine ⟨_, _, pre0 _ ?_, hrun, hended, _, _, rfl, ?_, ⟨_, rfl⟩, hW, hsame.mono (by decide) (by decide)⟩
      · show Steps p.tables e below (s₁.setTop (mkF m 0 #[.val (.int p1), .val (.int p2), .val (.int p3), .val (.int p4), .unset, .unset, .unset, .unset, .unset, .unset, .unset, .unset, .unset] [])) _
        refine XS.iconst X0.here hx rfl (hb hby at_0) ?_
        show Steps p.tables e below (s₁.setTop (mkF m 1 #[.val (.int p1), .val (.int p2), .val (.int p3), .val (.int p4), .unset, .unset, .unset, .unset, .unset, .unset, .unset, .unset, .unset] [(.int (1 : Int32))])) _
        refine XS.iloadN X0.here hx rfl (hb hby at_1) rfl ?_
        show Steps p.tables e below (s₁.setTop (mkF m 2 #[.val (.int p1), .val (.int p2), .val (.int p3), .val (.int p4), .unset, .unset, .unset, .unset, .unset, .unset, .unset, .unset, .unset] [(.int p2), (.int (1 : Int32))])) _
        refine X0.ldcInt hx hown (mvT hZ (hw _ (List.mem_of_getElem? (i := 0) rfl))) (g := (mkF m 2 #[.val (.int p1), .val (.int p2), .val (.int p3), .val (.int p4), .unset, .unset, .unset, .unset, .unset, .unset, .unset, .unset, .unset] [(.int p2), (.int (1 : Int32))])) rfl (hb hby at_2) _ ?_
        show Steps p.tables e below (s₁.setTop (mkF m 4 #[.val (.int p1), .val (.int p2), .val (.int p3), .val (.int p4), .unset, .unset, .unset, .unset, .unset, .unset, .unset, .unset, .unset] [(.int (2147483647 : Int32)), (.int p2), (.int (1 : Int32))])) _
        refine XS.iand X0.here hx rfl (hb hby at_4) rfl ?_
        show Steps p.tables e below (s₁.setTop (mkF m 5 #[.val (.int p1), .val (.int p2), .val (.int p3), .val (.int p4), .unset, .unset, .unset, .unset, .unset, .unset, .unset, .unset, .unset] [(.int (p2 &&& (2147483647 : Int32))), (.int (1 : Int32))])) _
        refine st56 _ ?_
        show Steps p.tables e below (T56.setTop (mkF m 8 #[.val (.int p1), .val (.int p2), .val (.int p3), .val (.int p4), .unset, .unset, .unset, .unset, .unset, .unset, .unset, .unset, .unset] [(.int (if (1 : Int32) < (p2 &&& (2147483647 : Int32)) then (p2 &&& (2147483647 : Int32)) else (1 : Int32)))])) _
        refine XS.istore X56.here hx rfl (hb hby at_8) rfl (l' := #[.val (.int p1), .val (.int p2), .val (.int p3), .val (.int p4), .val (.int (if (1 : Int32) < (p2 &&& (2147483647 : Int32)) then (p2 &&& (2147483647 : Int32)) else (1 : Int32))), .unset, .unset, .unset, .unset, .unset, .unset, .unset, .unset]) rfl ?_
        show Steps p.tables e below (T56.setTop (mkF m 10 #[.val (.int p1), .val (.int p2), .val (.int p3), .val (.int p4), .val (.int (if (1 : Int32) < (p2 &&& (2147483647 : Int32)) then (p2 &&& (2147483647 : Int32)) else (1 : Int32))), .unset, .unset, .unset, .unset, .unset, .unset, .unset, .unset] [])) _
        rw [← e_ff0]
        show Steps p.tables e below (T56.setTop (mkF m 10 #[.val (.int p1), .val (.int p2), .val (.int p3), .val (.int p4), .val (.int ff0), .unset, .unset, .unset, .unset, .unset, .unset, .unset, .unset] [])) _
        refine XS.iconst X56.here hx rfl (hb hby at_10) ?_
        show Steps p.tables e below (T56.setTop (mkF m 11 #[.val (.int p1), .val (.int p2), .val (.int p3), .val (.int p4), .val (.int ff0), .unset, .unset, .unset, .unset, .unset, .unset, .unset, .unset] [(.int (1 : Int32))])) _
        refine XS.iloadN X56.here hx rfl (hb hby at_11) rfl ?_
        show Steps p.tables e below (T56.setTop (mkF m 12 #[.val (.int p1), .val (.int p2), .val (.int p3), .val (.int p4), .val (.int ff0), .unset, .unset, .unset, .unset, .unset, .unset, .unset, .unset] [(.int p3), (.int (1 : Int32))])) _
        refine X56.ldcInt hx hown (mvT hZ (hw _ (List.mem_of_getElem? (i := 0) rfl))) (g := (mkF m 12 #[.val (.int p1), .val (.int p2), .val (.int p3), .val (.int p4), .val (.int ff0), .unset, .unset, .unset, .unset, .unset, .unset, .unset, .unset] [(.int p3), (.int (1 : Int32))])) rfl (hb hby at_12) _ ?_
        show Steps p.tables e below (T56.setTop (mkF m 14 #[.val (.int p1), .val (.int p2), .val (.int p3), .val (.int p4), .val (.int ff0), .unset, .unset, .unset, .unset, .unset, .unset, .unset, .unset] [(.int (2147483647 : Int32)), (.int p3), (.int (1 : Int32))])) _
        refine XS.iand X56.here hx rfl (hb hby at_14) rfl ?_
        show Steps p.tables e below (T56.setTop (mkF m 15 #[.val (.int p1), .val (.int p2), .val (.int p3), .val (.int p4), .val (.int ff0), .unset, .unset, .unset, .unset, .unset, .unset, .unset, .unset] [(.int (p3 &&& (2147483647 : Int32))), (.int (1 : Int32))])) _
        refine st57 _ ?_
        show Steps p.tables e below (T57.setTop (mkF m 18 #[.val (.int p1), .val (.int p2), .val (.int p3), .val (.int p4), .val (.int ff0), .unset, .unset, .unset, .unset, .unset, .unset, .unset, .unset] [(.int (if (1 : Int32) < (p3 &&& (2147483647 : Int32)) then (p3 &&& (2147483647 : Int32)) else (1 : Int32)))])) _
        refine XS.istore X57.here hx rfl (hb hby at_18) rfl (l' := #[.val (.int p1), .val (.int p2), .val (.int p3), .val (.int p4), .val (.int ff0), .val (.int (if (1 : Int32) < (p3 &&& (2147483647 : Int32)) then (p3 &&& (2147483647 : Int32)) else (1 : Int32))), .unset, .unset, .unset, .unset, .unset, .unset, .unset]) rfl ?_
        show Steps p.tables e below (T57.setTop (mkF m 20 #[.val (.int p1), .val (.int p2), .val (.int p3), .val (.int p4), .val (.int ff0), .val (.int (if (1 : Int32) < (p3 &&& (2147483647 : Int32)) then (p3 &&& (2147483647 : Int32)) else (1 : Int32))), .unset, .unset, .unset, .unset, .unset, .unset, .unset] [])) _
        rw [← e_ff1]
        show Steps p.tables e below (T57.setTop (mkF m 20 #[.val (.int p1), .val (.int p2), .val (.int p3), .val (.int p4), .val (.int ff0), .val (.int ff1), .unset, .unset, .unset, .unset, .unset, .unset, .unset] [])) _
        refine XS.iconst X57.here hx rfl (hb hby at_20) ?_
        show Steps p.tables e below (T57.setTop (mkF m 21 #[.val (.int p1), .val (.int p2), .val (.int p3), .val (.int p4), .val (.int ff0), .val (.int ff1), .unset, .unset, .unset, .unset, .unset, .unset, .unset] [(.int (1 : Int32))])) _
        refine XS.iloadN X57.here hx rfl (hb hby at_21) rfl ?_
        show Steps p.tables e below (T57.setTop (mkF m 22 #[.val (.int p1), .val (.int p2), .val (.int p3), .val (.int p4), .val (.int ff0), .val (.int ff1), .unset, .unset, .unset, .unset, .unset, .unset, .unset] [(.int p4), (.int (1 : Int32))])) _
        refine X57.ldcInt hx hown (mvT hZ (hw _ (List.mem_of_getElem? (i := 0) rfl))) (g := (mkF m 22 #[.val (.int p1), .val (.int p2), .val (.int p3), .val (.int p4), .val (.int ff0), .val (.int ff1), .unset, .unset, .unset, .unset, .unset, .unset, .unset] [(.int p4), (.int (1 : Int32))])) rfl (hb hby at_22) _ ?_
        show Steps p.tables e below (T57.setTop (mkF m 24 #[.val (.int p1), .val (.int p2), .val (.int p3), .val (.int p4), .val (.int ff0), .val (.int ff1), .unset, .unset, .unset, .unset, .unset, .unset, .unset] [(.int (2147483647 : Int32)), (.int p4), (.int (1 : Int32))])) _
        refine XS.iand X57.here hx rfl (hb hby at_24) rfl ?_
        show Steps p.tables e below (T57.setTop (mkF m 25 #[.val (.int p1), .val (.int p2), .val (.int p3), .val (.int p4), .val (.int ff0), .val (.int ff1), .unset, .unset, .unset, .unset, .unset, .unset, .unset] [(.int (p4 &&& (2147483647 : Int32))), (.int (1 : Int32))])) _
        refine st58 _ ?_
        show Steps p.tables e below (T58.setTop (mkF m 28 #[.val (.int p1), .val (.int p2), .val (.int p3), .val (.int p4), .val (.int ff0), .val (.int ff1), .unset, .unset, .unset, .unset, .unset, .unset, .unset] [(.int (if (1 : Int32) < (p4 &&& (2147483647 : Int32)) then (p4 &&& (2147483647 : Int32)) else (1 : Int32)))])) _
        refine XS.istore X58.here hx rfl (hb hby at_28) rfl (l' := #[.val (.int p1), .val (.int p2), .val (.int p3), .val (.int p4), .val (.int ff0), .val (.int ff1), .val (.int (if (1 : Int32) < (p4 &&& (2147483647 : Int32)) then (p4 &&& (2147483647 : Int32)) else (1 : Int32))), .unset, .unset, .unset, .unset, .unset, .unset]) rfl ?_
        show Steps p.tables e below (T58.setTop (mkF m 30 #[.val (.int p1), .val (.int p2), .val (.int p3), .val (.int p4), .val (.int ff0), .val (.int ff1), .val (.int (if (1 : Int32) < (p4 &&& (2147483647 : Int32)) then (p4 &&& (2147483647 : Int32)) else (1 : Int32))), .unset, .unset, .unset, .unset, .unset, .unset] [])) _
        rw [← e_ff2]
        show Steps p.tables e below (T58.setTop (mkF m 30 #[.val (.int p1), .val (.int p2), .val (.int p3), .val (.int p4), .val (.int ff0), .val (.int ff1), .val (.int ff2), .unset, .unset, .unset, .unset, .unset, .unset] [])) _
        refine XS.iconst X58.here hx rfl (hb hby at_30) ?_
        show Steps p.tables e below (T58.setTop (mkF m 31 #[.val (.int p1), .val (.int p2), .val (.int p3), .val (.int p4), .val (.int ff0), .val (.int ff1), .val (.int ff2), .unset, .unset, .unset, .unset, .unset, .unset] [(.int (3 : Int32))])) _
        refine st59 _ ?_
        show Steps p.tables e below (T59.setTop (mkF m 33 #[.val (.int p1), .val (.int p2), .val (.int p3), .val (.int p4), .val (.int ff0), .val (.int ff1), .val (.int ff2), .unset, .unset, .unset, .unset, .unset, .unset] [(.ref b59)])) _
        refine XS.dup X59.here hx rfl (hb hby at_33) rfl rfl ?_
        show Steps p.tables e below (T59.setTop (mkF m 34 #[.val (.int p1), .val (.int p2), .val (.int p3), .val (.int p4), .val (.int ff0), .val (.int ff1), .val (.int ff2), .unset, .unset, .unset, .unset, .unset, .unset] [(.ref b59), (.ref b59)])) _
        refine XS.iconst X59.here hx rfl (hb hby at_34) ?_
        show Steps p.tables e below (T59.setTop (mkF m 35 #[.val (.int p1), .val (.int p2), .val (.int p3), .val (.int p4), .val (.int ff0), .val (.int ff1), .val (.int ff2), .unset, .unset, .unset, .unset, .unset, .unset] [(.int (0 : Int32)), (.ref b59), (.ref b59)])) _
        refine XS.iconst X59.here hx rfl (hb hby at_35) ?_
        show Steps p.tables e below (T59.setTop (mkF m 36 #[.val (.int p1), .val (.int p2), .val (.int p3), .val (.int p4), .val (.int ff0), .val (.int ff1), .val (.int ff2), .unset, .unset, .unset, .unset, .unset, .unset] [(.int (0 : Int32)), (.int (0 : Int32)), (.ref b59), (.ref b59)])) _
        refine st60 _ ?_
        show Steps p.tables e below (T60.setTop (mkF m 37 #[.val (.int p1), .val (.int p2), .val (.int p3), .val (.int p4), .val (.int ff0), .val (.int ff1), .val (.int ff2), .unset, .unset, .unset, .unset, .unset, .unset] [(.ref b59)])) _
        refine XS.dup X60.here hx rfl (hb hby at_37) rfl rfl ?_
        show Steps p.tables e below (T60.setTop (mkF m 38 #[.val (.int p1), .val (.int p2), .val (.int p3), .val (.int p4), .val (.int ff0), .val (.int ff1), .val (.int ff2), .unset, .unset, .unset, .unset, .unset, .unset] [(.ref b59), (.ref b59)])) _
        refine XS.iconst X60.here hx rfl (hb hby at_38) ?_
        show Steps p.tables e below (T60.setTop (mkF m 39 #[.val (.int p1), .val (.int p2), .val (.int p3), .val (.int p4), .val (.int ff0), .val (.int ff1), .val (.int ff2), .unset, .unset, .unset, .unset, .unset, .unset] [(.int (1 : Int32)), (.ref b59), (.ref b59)])) _
        refine XS.iconst X60.here hx rfl (hb hby at_39) ?_
        show Steps p.tables e below (T60.setTop (mkF m 40 #[.val (.int p1), .val (.int p2), .val (.int p3), .val (.int p4), .val (.int ff0), .val (.int ff1), .val (.int ff2), .unset, .unset, .unset, .unset, .unset, .unset] [(.int (1 : Int32)), (.int (1 : Int32)), (.ref b59), (.ref b59)])) _
        refine st61 _ ?_
        show Steps p.tables e below (T61.setTop (mkF m 41 #[.val (.int p1), .val (.int p2), .val (.int p3), .val (.int p4), .val (.int ff0), .val (.int ff1), .val (.int ff2), .unset, .unset, .unset, .unset, .unset, .unset] [(.ref b59)])) _
        refine XS.dup X61.here hx rfl (hb hby at_41) rfl rfl ?_
        show Steps p.tables e below (T61.setTop (mkF m 42 #[.val (.int p1), .val (.int p2), .val (.int p3), .val (.int p4), .val (.int ff0), .val (.int ff1), .val (.int ff2), .unset, .unset, .unset, .unset, .unset, .unset] [(.ref b59), (.ref b59)])) _
        refine XS.iconst X61.here hx rfl (hb hby at_42) ?_
        show Steps p.tables e below (T61.setTop (mkF m 43 #[.val (.int p1), .val (.int p2), .val (.int p3), .val (.int p4), .val (.int ff0), .val (.int ff1), .val (.int ff2), .unset, .unset, .unset, .unset, .unset, .unset] [(.int (2 : Int32)), (.ref b59), (.ref b59)])) _
        refine XS.iconst X61.here hx rfl (hb hby at_43) ?_
        show Steps p.tables e below (T61.setTop (mkF m 44 #[.val (.int p1), .val (.int p2), .val (.int p3), .val (.int p4), .val (.int ff0), .val (.int ff1), .val (.int ff2), .unset, .unset, .unset, .unset, .unset, .unset] [(.int (2 : Int32)), (.int (2 : Int32)), (.ref b59), (.ref b59)])) _
        refine st62 _ ?_
        show Steps p.tables e below (T62.setTop (mkF m 45 #[.val (.int p1), .val (.int p2), .val (.int p3), .val (.int p4), .val (.int ff0), .val (.int ff1), .val (.int ff2), .unset, .unset, .unset, .unset, .unset, .unset] [(.ref b59)])) _
        refine XS.astore X62.here hx rfl (hb hby at_45) rfl rfl (l' := #[.val (.int p1), .val (.int p2), .val (.int p3), .val (.int p4), .val (.int ff0), .val (.int ff1), .val (.int ff2), .val (.ref b59), .unset, .unset, .unset, .unset, .unset]) rfl ?_
        show Steps p.tables e below (T62.setTop (mkF m 47 #[.val (.int p1), .val (.int p2), .val (.int p3), .val (.int p4), .val (.int ff0), .val (.int ff1), .val (.int ff2), .val (.ref b59), .unset, .unset, .unset, .unset, .unset] [])) _
        refine XS.iconst X62.here hx rfl (hb hby at_47) ?_
        show Steps p.tables e below (T62.setTop (mkF m 48 #[.val (.int p1), .val (.int p2), .val (.int p3), .val (.int p4), .val (.int ff0), .val (.int ff1), .val (.int ff2), .val (.ref b59), .unset, .unset, .unset, .unset, .unset] [(.int (3 : Int32))])) _
        refine st63 _ ?_
        show Steps p.tables e below (T63.setTop (mkF m 50 #[.val (.int p1), .val (.int p2), .val (.int p3), .val (.int p4), .val (.int ff0), .val (.int ff1), .val (.int ff2), .val (.ref b59), .unset, .unset, .unset, .unset, .unset] [(.ref b63)])) _
        refine XS.dup X63.here hx rfl (hb hby at_50) rfl rfl ?_
        show Steps p.tables e below (T63.setTop (mkF m 51 #[.val (.int p1), .val (.int p2), .val (.int p3), .val (.int p4), .val (.int ff0), .val (.int ff1), .val (.int ff2), .val (.ref b59), .unset, .unset, .unset, .unset, .unset] [(.ref b63), (.ref b63)])) _
        refine XS.iconst X63.here hx rfl (hb hby at_51) ?_
        show Steps p.tables e below (T63.setTop (mkF m 52 #[.val (.int p1), .val (.int p2), .val (.int p3), .val (.int p4), .val (.int ff0), .val (.int ff1), .val (.int ff2), .val (.ref b59), .unset, .unset, .unset, .unset, .unset] [(.int (0 : Int32)), (.ref b63), (.ref b63)])) _
        refine XS.iload X63.here hx rfl (hb hby at_52) rfl ?_
        show Steps p.tables e below (T63.setTop (mkF m 54 #[.val (.int p1), .val (.int p2), .val (.int p3), .val (.int p4), .val (.int ff0), .val (.int ff1), .val (.int ff2), .val (.ref b59), .unset, .unset, .unset, .unset, .unset] [(.int ff0), (.int (0 : Int32)), (.ref b63), (.ref b63)])) _
        refine st64 _ ?_
        show Steps p.tables e below (T64.setTop (mkF m 55 #[.val (.int p1), .val (.int p2), .val (.int p3), .val (.int p4), .val (.int ff0), .val (.int ff1), .val (.int ff2), .val (.ref b59), .unset, .unset, .unset, .unset, .unset] [(.ref b63)])) _
        refine XS.dup X64.here hx rfl (hb hby at_55) rfl rfl ?_
        show Steps p.tables e below (T64.setTop (mkF m 56 #[.val (.int p1), .val (.int p2), .val (.int p3), .val (.int p4), .val (.int ff0), .val (.int ff1), .val (.int ff2), .val (.ref b59), .unset, .unset, .unset, .unset, .unset] [(.ref b63), (.ref b63)])) _
        refine XS.iconst X64.here hx rfl (hb hby at_56) ?_
        show Steps p.tables e below (T64.setTop (mkF m 57 #[.val (.int p1), .val (.int p2), .val (.int p3), .val (.int p4), .val (.int ff0), .val (.int ff1), .val (.int ff2), .val (.ref b59), .unset, .unset, .unset, .unset, .unset] [(.int (1 : Int32)), (.ref b63), (.ref b63)])) _
        refine XS.iload X64.here hx rfl (hb hby at_57) rfl ?_
        show Steps p.tables e below (T64.setTop (mkF m 59 #[.val (.int p1), .val (.int p2), .val (.int p3), .val (.int p4), .val (.int ff0), .val (.int ff1), .val (.int ff2), .val (.ref b59), .unset, .unset, .unset, .unset, .unset] [(.int ff1), (.int (1 : Int32)), (.ref b63), (.ref b63)])) _
        refine st65 _ ?_
        show Steps p.tables e below (T65.setTop (mkF m 60 #[.val (.int p1), .val (.int p2), .val (.int p3), .val (.int p4), .val (.int ff0), .val (.int ff1), .val (.int ff2), .val (.ref b59), .unset, .unset, .unset, .unset, .unset] [(.ref b63)])) _
        refine XS.dup X65.here hx rfl (hb hby at_60) rfl rfl ?_
        show Steps p.tables e below (T65.setTop (mkF m 61 #[.val (.int p1), .val (.int p2), .val (.int p3), .val (.int p4), .val (.int ff0), .val (.int ff1), .val (.int ff2), .val (.ref b59), .unset, .unset, .unset, .unset, .unset] [(.ref b63), (.ref b63)])) _
        refine XS.iconst X65.here hx rfl (hb hby at_61) ?_
        show Steps p.tables e below (T65.setTop (mkF m 62 #[.val (.int p1), .val (.int p2), .val (.int p3), .val (.int p4), .val (.int ff0), .val (.int ff1), .val (.int ff2), .val (.ref b59), .unset, .unset, .unset, .unset, .unset] [(.int (2 : Int32)), (.ref b63), (.ref b63)])) _
        refine XS.iload X65.here hx rfl (hb hby at_62) rfl ?_
        show Steps p.tables e below (T65.setTop (mkF m 64 #[.val (.int p1), .val (.int p2), .val (.int p3), .val (.int p4), .val (.int ff0), .val (.int ff1), .val (.int ff2), .val (.ref b59), .unset, .unset, .unset, .unset, .unset] [(.int ff2), (.int (2 : Int32)), (.ref b63), (.ref b63)])) _
        refine st66 _ ?_
        show Steps p.tables e below (T66.setTop (mkF m 65 #[.val (.int p1), .val (.int p2), .val (.int p3), .val (.int p4), .val (.int ff0), .val (.int ff1), .val (.int ff2), .val (.ref b59), .unset, .unset, .unset, .unset, .unset] [(.ref b63)])) _
        refine XS.astore X66.here hx rfl (hb hby at_65) rfl rfl (l' := #[.val (.int p1), .val (.int p2), .val (.int p3), .val (.int p4), .val (.int ff0), .val (.int ff1), .val (.int ff2), .val (.ref b59), .val (.ref b63), .unset, .unset, .unset, .unset]) rfl ?_
        show Steps p.tables e below (T66.setTop (mkF m 67 #[.val (.int p1), .val (.int p2), .val (.int p3), .val (.int p4), .val (.int ff0), .val (.int ff1), .val (.int ff2), .val (.ref b59), .val (.ref b63), .unset, .unset, .unset, .unset] [])) _
        refine XS.iloadN X66.here hx rfl (hb hby at_67) rfl ?_
        show Steps p.tables e below (T66.setTop (mkF m 68 #[.val (.int p1), .val (.int p2), .val (.int p3), .val (.int p4), .val (.int ff0), .val (.int ff1), .val (.int ff2), .val (.ref b59), .val (.ref b63), .unset, .unset, .unset, .unset] [(.int p1)])) _
        refine XS.bipush X66.here hx rfl (hb hby at_68) ?_
        show Steps p.tables e below (T66.setTop (mkF m 70 #[.val (.int p1), .val (.int p2), .val (.int p3), .val (.int p4), .val (.int ff0), .val (.int ff1), .val (.int ff2), .val (.ref b59), .val (.ref b63), .unset, .unset, .unset, .unset] [(.int (8 : Int32)), (.int p1)])) _
        refine XS.iand X66.here hx rfl (hb hby at_70) rfl ?_
        show Steps p.tables e below (T66.setTop (mkF m 71 #[.val (.int p1), .val (.int p2), .val (.int p3), .val (.int p4), .val (.int ff0), .val (.int ff1), .val (.int ff2), .val (.ref b59), .val (.ref b63), .unset, .unset, .unset, .unset] [(.int (p1 &&& (8 : Int32)))])) _
        refine XS.ifYes X66.here hx rfl (pc0 := 71) (pc' := 95) rfl (hb hby at_71) rfl ((if0 _ _).trans (teq hc71).1) (by decide) (by decide) ?_
        show Steps p.tables e below (T66.setTop (mkF m 95 #[.val (.int p1), .val (.int p2), .val (.int p3), .val (.int p4), .val (.int ff0), .val (.int ff1), .val (.int ff2), .val (.ref b59), .val (.ref b63), .unset, .unset, .unset, .unset] [])) _
        refine XS.iloadN X66.here hx rfl (hb hby at_95) rfl ?_
        show Steps p.tables e below (T66.setTop (mkF m 96 #[.val (.int p1), .val (.int p2), .val (.int p3), .val (.int p4), .val (.int ff0), .val (.int ff1), .val (.int ff2), .val (.ref b59), .val (.ref b63), .unset, .unset, .unset, .unset] [(.int p1)])) _
        refine XS.iconst X66.here hx rfl (hb hby at_96) ?_
        show Steps p.tables e below (T66.setTop (mkF m 97 #[.val (.int p1), .val (.int p2), .val (.int p3), .val (.int p4), .val (.int ff0), .val (.int ff1), .val (.int ff2), .val (.ref b59), .val (.ref b63), .unset, .unset, .unset, .unset] [(.int (4 : Int32)), (.int p1)])) _
        refine XS.ishr X66.here hx rfl (hb hby at_97) rfl ?_
        show Steps p.tables e below (T66.setTop (mkF m 98 #[.val (.int p1), .val (.int p2), .val (.int p3), .val (.int p4), .val (.int ff0), .val (.int ff1), .val (.int ff2), .val (.ref b59), .val (.ref b63), .unset, .unset, .unset, .unset] [(.int (p1 >>> ((4 : Int32) &&& 31)))])) _
        refine XS.istore X66.here hx rfl (hb hby at_98) rfl (l' := #[.val (.int p1), .val (.int p2), .val (.int p3), .val (.int p4), .val (.int ff0), .val (.int ff1), .val (.int ff2), .val (.ref b59), .val (.ref b63), .unset, .unset, .val (.int (p1 >>> ((4 : Int32) &&& 31))), .unset]) rfl ?_
        show Steps p.tables e below (T66.setTop (mkF m 100 #[.val (.int p1), .val (.int p2), .val (.int p3), .val (.int p4), .val (.int ff0), .val (.int ff1), .val (.int ff2), .val (.ref b59), .val (.ref b63), .unset, .unset, .val (.int (p1 >>> ((4 : Int32) &&& 31))), .unset] [])) _
        rw [← e_li]
        show Steps p.tables e below (T66.setTop (mkF m 100 #[.val (.int p1), .val (.int p2), .val (.int p3), .val (.int p4), .val (.int ff0), .val (.int ff1), .val (.int ff2), .val (.ref b59), .val (.ref b63), .unset, .unset, .val (.int li), .unset] [])) _
        refine XS.iload X66.here hx rfl (hb hby at_100) rfl ?_
        show Steps p.tables e below (T66.setTop (mkF m 102 #[.val (.int p1), .val (.int p2), .val (.int p3), .val (.int p4), .val (.int ff0), .val (.int ff1), .val (.int ff2), .val (.ref b59), .val (.ref b63), .unset, .unset, .val (.int li), .unset] [(.int li)])) _
        refine XS.ifYes X66.here hx rfl (pc0 := 102) (pc' := 109) rfl (hb hby at_102) rfl ((if0 _ _).trans (tlt hc102).2.2.1) (by decide) (by decide) ?_
        show Steps p.tables e below (T66.setTop (mkF m 109 #[.val (.int p1), .val (.int p2), .val (.int p3), .val (.int p4), .val (.int ff0), .val (.int ff1), .val (.int ff2), .val (.ref b59), .val (.ref b63), .unset, .unset, .val (.int li), .unset] [])) _
        refine XS.iload X66.here hx rfl (hb hby at_109) rfl ?_
        show Steps p.tables e below (T66.setTop (mkF m 111 #[.val (.int p1), .val (.int p2), .val (.int p3), .val (.int p4), .val (.int ff0), .val (.int ff1), .val (.int ff2), .val (.ref b59), .val (.ref b63), .unset, .unset, .val (.int li), .unset] [(.int li)])) _
        refine XS.iconst X66.here hx rfl (hb hby at_111) ?_
        show Steps p.tables e below (T66.setTop (mkF m 112 #[.val (.int p1), .val (.int p2), .val (.int p3), .val (.int p4), .val (.int ff0), .val (.int ff1), .val (.int ff2), .val (.ref b59), .val (.ref b63), .unset, .unset, .val (.int li), .unset] [(.int (3 : Int32)), (.int li)])) _
        refine st67 _ ?_
        show Steps p.tables e below (T67.setTop (mkF m 115 #[.val (.int p1), .val (.int p2), .val (.int p3), .val (.int p4), .val (.int ff0), .val (.int ff1), .val (.int ff2), .val (.ref b59), .val (.ref b63), .unset, .unset, .val (.int li), .unset] [(.int (if (3 : Int32) < li then (3 : Int32) else li))])) _
        refine XS.istore X67.here hx rfl (hb hby at_115) rfl (l' := #[.val (.int p1), .val (.int p2), .val (.int p3), .val (.int p4), .val (.int ff0), .val (.int ff1), .val (.int ff2), .val (.ref b59), .val (.ref b63), .unset, .val (.int (if (3 : Int32) < li then (3 : Int32) else li)), .val (.int li), .unset]) rfl ?_
        show Steps p.tables e below (T67.setTop (mkF m 117 #[.val (.int p1), .val (.int p2), .val (.int p3), .val (.int p4), .val (.int ff0), .val (.int ff1), .val (.int ff2), .val (.ref b59), .val (.ref b63), .unset, .val (.int (if (3 : Int32) < li then (3 : Int32) else li)), .val (.int li), .unset] [])) _
        refine st68 _ ?_
        show Steps p.tables e below (T68.setTop (mkF m 120 #[.val (.int p1), .val (.int p2), .val (.int p3), .val (.int p4), .val (.int ff0), .val (.int ff1), .val (.int ff2), .val (.ref b59), .val (.ref b63), .unset, .val (.int (if (3 : Int32) < li then (3 : Int32) else li)), .val (.int li), .unset] [(.ref b68)])) _
        refine XS.dup X68.here hx rfl (hb hby at_120) rfl rfl ?_
        show Steps p.tables e below (T68.setTop (mkF m 121 #[.val (.int p1), .val (.int p2), .val (.int p3), .val (.int p4), .val (.int ff0), .val (.int ff1), .val (.int ff2), .val (.ref b59), .val (.ref b63), .unset, .val (.int (if (3 : Int32) < li then (3 : Int32) else li)), .val (.int li), .unset] [(.ref b68), (.ref b68)])) _
        refine XS.aload X68.here hx rfl (hb hby at_121) rfl rfl ?_
        show Steps p.tables e below (T68.setTop (mkF m 123 #[.val (.int p1), .val (.int p2), .val (.int p3), .val (.int p4), .val (.int ff0), .val (.int ff1), .val (.int ff2), .val (.ref b59), .val (.ref b63), .unset, .val (.int (if (3 : Int32) < li then (3 : Int32) else li)), .val (.int li), .unset] [(.ref b59), (.ref b68), (.ref b68)])) _
        refine XS.aload X68.here hx rfl (hb hby at_123) rfl rfl ?_
        show Steps p.tables e below (T68.setTop (mkF m 125 #[.val (.int p1), .val (.int p2), .val (.int p3), .val (.int p4), .val (.int ff0), .val (.int ff1), .val (.int ff2), .val (.ref b59), .val (.ref b63), .unset, .val (.int (if (3 : Int32) < li then (3 : Int32) else li)), .val (.int li), .unset] [(.ref b63), (.ref b59), (.ref b68), (.ref b68)])) _
        refine st70.trans ?_
        show Steps p.tables e below (T70.setTop (mkF m 128 #[.val (.int p1), .val (.int p2), .val (.int p3), .val (.int p4), .val (.int ff0), .val (.int ff1), .val (.int ff2), .val (.ref b59), .val (.ref b63), .unset, .val (.int (if (3 : Int32) < li then (3 : Int32) else li)), .val (.int li), .unset] [(.ref b68)])) _
        refine XS.iload X70.here hx rfl (hb hby at_128) rfl ?_
        show Steps p.tables e below (T70.setTop (mkF m 130 #[.val (.int p1), .val (.int p2), .val (.int p3), .val (.int p4), .val (.int ff0), .val (.int ff1), .val (.int ff2), .val (.ref b59), .val (.ref b63), .unset, .val (.int (if (3 : Int32) < li then (3 : Int32) else li)), .val (.int li), .unset] [(.int li), (.ref b68)])) _
        refine st71.trans ?_
        show Steps p.tables e below (T71.setTop (mkF m 133 #[.val (.int p1), .val (.int p2), .val (.int p3), .val (.int p4), .val (.int ff0), .val (.int ff1), .val (.int ff2), .val (.ref b59), .val (.ref b63), .unset, .val (.int (if (3 : Int32) < li then (3 : Int32) else li)), .val (.int li), .unset] [(.ref r71)])) _
        refine XS.astore X71.here hx rfl (hb hby at_133) rfl rfl (l' := #[.val (.int p1), .val (.int p2), .val (.int p3), .val (.int p4), .val (.int ff0), .val (.int ff1), .val (.int ff2), .val (.ref b59), .val (.ref b63), .val (.ref r71), .val (.int (if (3 : Int32) < li then (3 : Int32) else li)), .val (.int li), .unset]) rfl ?_
        show Steps p.tables e below (T71.setTop (mkF m 135 #[.val (.int p1), .val (.int p2), .val (.int p3), .val (.int p4), .val (.int ff0), .val (.int ff1), .val (.int ff2), .val (.ref b59), .val (.ref b63), .val (.ref r71), .val (.int (if (3 : Int32) < li then (3 : Int32) else li)), .val (.int li), .unset] [])) _
        refine XS.lconst X71.here hx rfl (hb hby at_135) ?_
        show Steps p.tables e below (T71.setTop (mkF m 136 #[.val (.int p1), .val (.int p2), .val (.int p3), .val (.int p4), .val (.int ff0), .val (.int ff1), .val (.int ff2), .val (.ref b59), .val (.ref b63), .val (.ref r71), .val (.int (if (3 : Int32) < li then (3 : Int32) else li)), .val (.int li), .unset] [(.long (0 : Int64))])) _
        refine XS.lstore X71.here hx rfl (hb hby at_136) rfl (l' := #[.val (.int p1), .val (.int p2), .val (.int p3), .val (.int p4), .val (.int ff0), .val (.int ff1), .val (.int ff2), .val (.ref b59), .val (.ref b63), .val (.ref r71), .val (.int (if (3 : Int32) < li then (3 : Int32) else li)), .val (.long (0 : Int64)), .second]) rfl ?_
        show Steps p.tables e below (T71.setTop (mkF m 138 #[.val (.int p1), .val (.int p2), .val (.int p3), .val (.int p4), .val (.int ff0), .val (.int ff1), .val (.int ff2), .val (.ref b59), .val (.ref b63), .val (.ref r71), .val (.int (if (3 : Int32) < li then (3 : Int32) else li)), .val (.long (0 : Int64)), .second] [])) _
        refine XS.iload X71.here hx rfl (hb hby at_138) rfl ?_
        show Steps p.tables e below (T71.setTop (mkF m 140 #[.val (.int p1), .val (.int p2), .val (.int p3), .val (.int p4), .val (.int ff0), .val (.int ff1), .val (.int ff2), .val (.ref b59), .val (.ref b63), .val (.ref r71), .val (.int (if (3 : Int32) < li then (3 : Int32) else li)), .val (.long (0 : Int64)), .second] [(.int (if (3 : Int32) < li then (3 : Int32) else li))])) _
        refine md72 _ ?_
        show Steps p.tables e below (T71.setTop (mkF m 151 #[.val (.int p1), .val (.int p2), .val (.int p3), .val (.int p4), .val (.int ff0), .val (.int ff1), .val (.int ff2), .val (.ref b59), .val (.ref b63), .val (.ref r71), .val (.int (if (3 : Int32) < li then (3 : Int32) else li)), .val (.long (if (0 : Int32) < (if (3 : Int32) < li then (3 : Int32) else li) then ((0 : Int64) + (ff0.toInt64)) else (0 : Int64))), .second] [])) _
        refine XS.iload X71.here hx rfl (hb hby at_151) rfl ?_
        show Steps p.tables e below (T71.setTop (mkF m 153 #[.val (.int p1), .val (.int p2), .val (.int p3), .val (.int p4), .val (.int ff0), .val (.int ff1), .val (.int ff2), .val (.ref b59), .val (.ref b63), .val (.ref r71), .val (.int (if (3 : Int32) < li then (3 : Int32) else li)), .val (.long (if (0 : Int32) < (if (3 : Int32) < li then (3 : Int32) else li) then ((0 : Int64) + (ff0.toInt64)) else (0 : Int64))), .second] [(.int (if (3 : Int32) < li then (3 : Int32) else li))])) _
        refine XS.iconst X71.here hx rfl (hb hby at_153) ?_
        show Steps p.tables e below (T71.setTop (mkF m 154 #[.val (.int p1), .val (.int p2), .val (.int p3), .val (.int p4), .val (.int ff0), .val (.int ff1), .val (.int ff2), .val (.ref b59), .val (.ref b63), .val (.ref r71), .val (.int (if (3 : Int32) < li then (3 : Int32) else li)), .val (.long (if (0 : Int32) < (if (3 : Int32) < li then (3 : Int32) else li) then ((0 : Int64) + (ff0.toInt64)) else (0 : Int64))), .second] [(.int (1 : Int32)), (.int (if (3 : Int32) < li then (3 : Int32) else li))])) _
        refine md73 _ ?_
        show Steps p.tables e below (T71.setTop (mkF m 165 #[.val (.int p1), .val (.int p2), .val (.int p3), .val (.int p4), .val (.int ff0), .val (.int ff1), .val (.int ff2), .val (.ref b59), .val (.ref b63), .val (.ref r71), .val (.int (if (3 : Int32) < li then (3 : Int32) else li)), .val (.long (if (1 : Int32) < (if (3 : Int32) < li then (3 : Int32) else li) then ((if (0 : Int32) < (if (3 : Int32) < li then (3 : Int32) else li) then ((0 : Int64) + (ff0.toInt64)) else (0 : Int64)) + (ff1.toInt64)) else (if (0 : Int32) < (if (3 : Int32) < li then (3 : Int32) else li) then ((0 : Int64) + (ff0.toInt64)) else (0 : Int64)))), .second] [])) _
        refine XS.iload X71.here hx rfl (hb hby at_165) rfl ?_
        show Steps p.tables e below (T71.setTop (mkF m 167 #[.val (.int p1), .val (.int p2), .val (.int p3), .val (.int p4), .val (.int ff0), .val (.int ff1), .val (.int ff2), .val (.ref b59), .val (.ref b63), .val (.ref r71), .val (.int (if (3 : Int32) < li then (3 : Int32) else li)), .val (.long (if (1 : Int32) < (if (3 : Int32) < li then (3 : Int32) else li) then ((if (0 : Int32) < (if (3 : Int32) < li then (3 : Int32) else li) then ((0 : Int64) + (ff0.toInt64)) else (0 : Int64)) + (ff1.toInt64)) else (if (0 : Int32) < (if (3 : Int32) < li then (3 : Int32) else li) then ((0 : Int64) + (ff0.toInt64)) else (0 : Int64)))), .second] [(.int (if (3 : Int32) < li then (3 : Int32) else li))])) _
        refine XS.iconst X71.here hx rfl (hb hby at_167) ?_
        show Steps p.tables e below (T71.setTop (mkF m 168 #[.val (.int p1), .val (.int p2), .val (.int p3), .val (.int p4), .val (.int ff0), .val (.int ff1), .val (.int ff2), .val (.ref b59), .val (.ref b63), .val (.ref r71), .val (.int (if (3 : Int32) < li then (3 : Int32) else li)), .val (.long (if (1 : Int32) < (if (3 : Int32) < li then (3 : Int32) else li) then ((if (0 : Int32) < (if (3 : Int32) < li then (3 : Int32) else li) then ((0 : Int64) + (ff0.toInt64)) else (0 : Int64)) + (ff1.toInt64)) else (if (0 : Int32) < (if (3 : Int32) < li then (3 : Int32) else li) then ((0 : Int64) + (ff0.toInt64)) else (0 : Int64)))), .second] [(.int (2 : Int32)), (.int (if (3 : Int32) < li then (3 : Int32) else li))])) _
        refine md74 _ ?_
        show Steps p.tables e below (T71.setTop (mkF m 179 #[.val (.int p1), .val (.int p2), .val (.int p3), .val (.int p4), .val (.int ff0), .val (.int ff1), .val (.int ff2), .val (.ref b59), .val (.ref b63), .val (.ref r71), .val (.int (if (3 : Int32) < li then (3 : Int32) else li)), .val (.long (if (2 : Int32) < (if (3 : Int32) < li then (3 : Int32) else li) then ((if (1 : Int32) < (if (3 : Int32) < li then (3 : Int32) else li) then ((if (0 : Int32) < (if (3 : Int32) < li then (3 : Int32) else li) then ((0 : Int64) + (ff0.toInt64)) else (0 : Int64)) + (ff1.toInt64)) else (if (0 : Int32) < (if (3 : Int32) < li then (3 : Int32) else li) then ((0 : Int64) + (ff0.toInt64)) else (0 : Int64))) + (ff2.toInt64)) else (if (1 : Int32) < (if (3 : Int32) < li then (3 : Int32) else li) then ((if (0 : Int32) < (if (3 : Int32) < li then (3 : Int32) else li) then ((0 : Int64) + (ff0.toInt64)) else (0 : Int64)) + (ff1.toInt64)) else (if (0 : Int32) < (if (3 : Int32) < li then (3 : Int32) else li) then ((0 : Int64) + (ff0.toInt64)) else (0 : Int64))))), .second] [])) _
        refine XS.aload X71.here hx rfl (hb hby at_179) rfl rfl ?_
        show Steps p.tables e below (T71.setTop (mkF m 181 #[.val (.int p1), .val (.int p2), .val (.int p3), .val (.int p4), .val (.int ff0), .val (.int ff1), .val (.int ff2), .val (.ref b59), .val (.ref b63), .val (.ref r71), .val (.int (if (3 : Int32) < li then (3 : Int32) else li)), .val (.long (if (2 : Int32) < (if (3 : Int32) < li then (3 : Int32) else li) then ((if (1 : Int32) < (if (3 : Int32) < li then (3 : Int32) else li) then ((if (0 : Int32) < (if (3 : Int32) < li then (3 : Int32) else li) then ((0 : Int64) + (ff0.toInt64)) else (0 : Int64)) + (ff1.toInt64)) else (if (0 : Int32) < (if (3 : Int32) < li then (3 : Int32) else li) then ((0 : Int64) + (ff0.toInt64)) else (0 : Int64))) + (ff2.toInt64)) else (if (1 : Int32) < (if (3 : Int32) < li then (3 : Int32) else li) then ((if (0 : Int32) < (if (3 : Int32) < li then (3 : Int32) else li) then ((0 : Int64) + (ff0.toInt64)) else (0 : Int64)) + (ff1.toInt64)) else (if (0 : Int32) < (if (3 : Int32) < li then (3 : Int32) else li) then ((0 : Int64) + (ff0.toInt64)) else (0 : Int64))))), .second] [(.ref r71)])) _
        refine st75.trans ?_
        show Steps p.tables e below (T75.setTop (mkF m 184 #[.val (.int p1), .val (.int p2), .val (.int p3), .val (.int p4), .val (.int ff0), .val (.int ff1), .val (.int ff2), .val (.ref b59), .val (.ref b63), .val (.ref r71), .val (.int (if (3 : Int32) < li then (3 : Int32) else li)), .val (.long (if (2 : Int32) < (if (3 : Int32) < li then (3 : Int32) else li) then ((if (1 : Int32) < (if (3 : Int32) < li then (3 : Int32) else li) then ((if (0 : Int32) < (if (3 : Int32) < li then (3 : Int32) else li) then ((0 : Int64) + (ff0.toInt64)) else (0 : Int64)) + (ff1.toInt64)) else (if (0 : Int32) < (if (3 : Int32) < li then (3 : Int32) else li) then ((0 : Int64) + (ff0.toInt64)) else (0 : Int64))) + (ff2.toInt64)) else (if (1 : Int32) < (if (3 : Int32) < li then (3 : Int32) else li) then ((if (0 : Int32) < (if (3 : Int32) < li then (3 : Int32) else li) then ((0 : Int64) + (ff0.toInt64)) else (0 : Int64)) + (ff1.toInt64)) else (if (0 : Int32) < (if (3 : Int32) < li then (3 : Int32) else li) then ((0 : Int64) + (ff0.toInt64)) else (0 : Int64))))), .second] [(.int (own_cut li))])) _
        refine XS.iload X75.here hx rfl (hb hby at_184) rfl ?_
        show Steps p.tables e below (T75.setTop (mkF m 186 #[.val (.int p1), .val (.int p2), .val (.int p3), .val (.int p4), .val (.int ff0), .val (.int ff1), .val (.int ff2), .val (.ref b59), .val (.ref b63), .val (.ref r71), .val (.int (if (3 : Int32) < li then (3 : Int32) else li)), .val (.long (if (2 : Int32) < (if (3 : Int32) < li then (3 : Int32) else li) then ((if (1 : Int32) < (if (3 : Int32) < li then (3 : Int32) else li) then ((if (0 : Int32) < (if (3 : Int32) < li then (3 : Int32) else li) then ((0 : Int64) + (ff0.toInt64)) else (0 : Int64)) + (ff1.toInt64)) else (if (0 : Int32) < (if (3 : Int32) < li then (3 : Int32) else li) then ((0 : Int64) + (ff0.toInt64)) else (0 : Int64))) + (ff2.toInt64)) else (if (1 : Int32) < (if (3 : Int32) < li then (3 : Int32) else li) then ((if (0 : Int32) < (if (3 : Int32) < li then (3 : Int32) else li) then ((0 : Int64) + (ff0.toInt64)) else (0 : Int64)) + (ff1.toInt64)) else (if (0 : Int32) < (if (3 : Int32) < li then (3 : Int32) else li) then ((0 : Int64) + (ff0.toInt64)) else (0 : Int64))))), .second] [(.int (if (3 : Int32) < li then (3 : Int32) else li)), (.int (own_cut li))])) _
        refine XS.icmpNo X75.here hx rfl (hb hby at_186) rfl (teq hc186).2 ?_
        show Steps p.tables e below (T75.setTop (mkF m 189 #[.val (.int p1), .val (.int p2), .val (.int p3), .val (.int p4), .val (.int ff0), .val (.int ff1), .val (.int ff2), .val (.ref b59), .val (.ref b63), .val (.ref r71), .val (.int (if (3 : Int32) < li then (3 : Int32) else li)), .val (.long (if (2 : Int32) < (if (3 : Int32) < li then (3 : Int32) else li) then ((if (1 : Int32) < (if (3 : Int32) < li then (3 : Int32) else li) then ((if (0 : Int32) < (if (3 : Int32) < li then (3 : Int32) else li) then ((0 : Int64) + (ff0.toInt64)) else (0 : Int64)) + (ff1.toInt64)) else (if (0 : Int32) < (if (3 : Int32) < li then (3 : Int32) else li) then ((0 : Int64) + (ff0.toInt64)) else (0 : Int64))) + (ff2.toInt64)) else (if (1 : Int32) < (if (3 : Int32) < li then (3 : Int32) else li) then ((if (0 : Int32) < (if (3 : Int32) < li then (3 : Int32) else li) then ((0 : Int64) + (ff0.toInt64)) else (0 : Int64)) + (ff1.toInt64)) else (if (0 : Int32) < (if (3 : Int32) < li then (3 : Int32) else li) then ((0 : Int64) + (ff0.toInt64)) else (0 : Int64))))), .second] [])) _
        refine XS.aload X75.here hx rfl (hb hby at_189) rfl rfl ?_
        show Steps p.tables e below (T75.setTop (mkF m 191 #[.val (.int p1), .val (.int p2), .val (.int p3), .val (.int p4), .val (.int ff0), .val (.int ff1), .val (.int ff2), .val (.ref b59), .val (.ref b63), .val (.ref r71), .val (.int (if (3 : Int32) < li then (3 : Int32) else li)), .val (.long (if (2 : Int32) < (if (3 : Int32) < li then (3 : Int32) else li) then ((if (1 : Int32) < (if (3 : Int32) < li then (3 : Int32) else li) then ((if (0 : Int32) < (if (3 : Int32) < li then (3 : Int32) else li) then ((0 : Int64) + (ff0.toInt64)) else (0 : Int64)) + (ff1.toInt64)) else (if (0 : Int32) < (if (3 : Int32) < li then (3 : Int32) else li) then ((0 : Int64) + (ff0.toInt64)) else (0 : Int64))) + (ff2.toInt64)) else (if (1 : Int32) < (if (3 : Int32) < li then (3 : Int32) else li) then ((if (0 : Int32) < (if (3 : Int32) < li then (3 : Int32) else li) then ((0 : Int64) + (ff0.toInt64)) else (0 : Int64)) + (ff1.toInt64)) else (if (0 : Int32) < (if (3 : Int32) < li then (3 : Int32) else li) then ((0 : Int64) + (ff0.toInt64)) else (0 : Int64))))), .second] [(.ref r71)])) _
        refine st76.trans ?_
        show Steps p.tables e below (T76.setTop (mkF m 194 #[.val (.int p1), .val (.int p2), .val (.int p3), .val (.int p4), .val (.int ff0), .val (.int ff1), .val (.int ff2), .val (.ref b59), .val (.ref b63), .val (.ref r71), .val (.int (if (3 : Int32) < li then (3 : Int32) else li)), .val (.long (if (2 : Int32) < (if (3 : Int32) < li then (3 : Int32) else li) then ((if (1 : Int32) < (if (3 : Int32) < li then (3 : Int32) else li) then ((if (0 : Int32) < (if (3 : Int32) < li then (3 : Int32) else li) then ((0 : Int64) + (ff0.toInt64)) else (0 : Int64)) + (ff1.toInt64)) else (if (0 : Int32) < (if (3 : Int32) < li then (3 : Int32) else li) then ((0 : Int64) + (ff0.toInt64)) else (0 : Int64))) + (ff2.toInt64)) else (if (1 : Int32) < (if (3 : Int32) < li then (3 : Int32) else li) then ((if (0 : Int32) < (if (3 : Int32) < li then (3 : Int32) else li) then ((0 : Int64) + (ff0.toInt64)) else (0 : Int64)) + (ff1.toInt64)) else (if (0 : Int32) < (if (3 : Int32) < li then (3 : Int32) else li) then ((0 : Int64) + (ff0.toInt64)) else (0 : Int64))))), .second] [(.long (if (own_cut li) = (0 : Int32) then (0 : Int64) else (own_x (own_cut li) ((0 : Int64) + (ff0.toInt64)) (((0 : Int64) + (ff0.toInt64)) + (ff1.toInt64)) ((((0 : Int64) + (ff0.toInt64)) + (ff1.toInt64)) + (ff2.toInt64)))))])) _
        refine XS.lload X76.here hx rfl (hb hby at_194) rfl ?_
        show Steps p.tables e below (T76.setTop (mkF m 196 #[.val (.int p1), .val (.int p2), .val (.int p3), .val (.int p4), .val (.int ff0), .val (.int ff1), .val (.int ff2), .val (.ref b59), .val (.ref b63), .val (.ref r71), .val (.int (if (3 : Int32) < li then (3 : Int32) else li)), .val (.long (if (2 : Int32) < (if (3 : Int32) < li then (3 : Int32) else li) then ((if (1 : Int32) < (if (3 : Int32) < li then (3 : Int32) else li) then ((if (0 : Int32) < (if (3 : Int32) < li then (3 : Int32) else li) then ((0 : Int64) + (ff0.toInt64)) else (0 : Int64)) + (ff1.toInt64)) else (if (0 : Int32) < (if (3 : Int32) < li then (3 : Int32) else li) then ((0 : Int64) + (ff0.toInt64)) else (0 : Int64))) + (ff2.toInt64)) else (if (1 : Int32) < (if (3 : Int32) < li then (3 : Int32) else li) then ((if (0 : Int32) < (if (3 : Int32) < li then (3 : Int32) else li) then ((0 : Int64) + (ff0.toInt64)) else (0 : Int64)) + (ff1.toInt64)) else (if (0 : Int32) < (if (3 : Int32) < li then (3 : Int32) else li) then ((0 : Int64) + (ff0.toInt64)) else (0 : Int64))))), .second] [(.long (if (2 : Int32) < (if (3 : Int32) < li then (3 : Int32) else li) then ((if (1 : Int32) < (if (3 : Int32) < li then (3 : Int32) else li) then ((if (0 : Int32) < (if (3 : Int32) < li then (3 : Int32) else li) then ((0 : Int64) + (ff0.toInt64)) else (0 : Int64)) + (ff1.toInt64)) else (if (0 : Int32) < (if (3 : Int32) < li then (3 : Int32) else li) then ((0 : Int64) + (ff0.toInt64)) else (0 : Int64))) + (ff2.toInt64)) else (if (1 : Int32) < (if (3 : Int32) < li then (3 : Int32) else li) then ((if (0 : Int32) < (if (3 : Int32) < li then (3 : Int32) else li) then ((0 : Int64) + (ff0.toInt64)) else (0 : Int64)) + (ff1.toInt64)) else (if (0 : Int32) < (if (3 : Int32) < li then (3 : Int32) else li) then ((0 : Int64) + (ff0.toInt64)) else (0 : Int64))))), (.long (if (own_cut li) = (0 : Int32) then (0 : Int64) else (own_x (own_cut li) ((0 : Int64) + (ff0.toInt64)) (((0 : Int64) + (ff0.toInt64)) + (ff1.toInt64)) ((((0 : Int64) + (ff0.toInt64)) + (ff1.toInt64)) + (ff2.toInt64)))))])) _
        refine XS.lcmp X76.here hx rfl (hb hby at_196) rfl ?_
        show Steps p.tables e below (T76.setTop (mkF m 197 #[.val (.int p1), .val (.int p2), .val (.int p3), .val (.int p4), .val (.int ff0), .val (.int ff1), .val (.int ff2), .val (.ref b59), .val (.ref b63), .val (.ref r71), .val (.int (if (3 : Int32) < li then (3 : Int32) else li)), .val (.long (if (2 : Int32) < (if (3 : Int32) < li then (3 : Int32) else li) then ((if (1 : Int32) < (if (3 : Int32) < li then (3 : Int32) else li) then ((if (0 : Int32) < (if (3 : Int32) < li then (3 : Int32) else li) then ((0 : Int64) + (ff0.toInt64)) else (0 : Int64)) + (ff1.toInt64)) else (if (0 : Int32) < (if (3 : Int32) < li then (3 : Int32) else li) then ((0 : Int64) + (ff0.toInt64)) else (0 : Int64))) + (ff2.toInt64)) else (if (1 : Int32) < (if (3 : Int32) < li then (3 : Int32) else li) then ((if (0 : Int32) < (if (3 : Int32) < li then (3 : Int32) else li) then ((0 : Int64) + (ff0.toInt64)) else (0 : Int64)) + (ff1.toInt64)) else (if (0 : Int32) < (if (3 : Int32) < li then (3 : Int32) else li) then ((0 : Int64) + (ff0.toInt64)) else (0 : Int64))))), .second] [(.int (lcmpW (if (own_cut li) = (0 : Int32) then (0 : Int64) else (own_x (own_cut li) ((0 : Int64) + (ff0.toInt64)) (((0 : Int64) + (ff0.toInt64)) + (ff1.toInt64)) ((((0 : Int64) + (ff0.toInt64)) + (ff1.toInt64)) + (ff2.toInt64)))) (if (2 : Int32) < (if (3 : Int32) < li then (3 : Int32) else li) then ((if (1 : Int32) < (if (3 : Int32) < li then (3 : Int32) else li) then ((if (0 : Int32) < (if (3 : Int32) < li then (3 : Int32) else li) then ((0 : Int64) + (ff0.toInt64)) else (0 : Int64)) + (ff1.toInt64)) else (if (0 : Int32) < (if (3 : Int32) < li then (3 : Int32) else li) then ((0 : Int64) + (ff0.toInt64)) else (0 : Int64))) + (ff2.toInt64)) else (if (1 : Int32) < (if (3 : Int32) < li then (3 : Int32) else li) then ((if (0 : Int32) < (if (3 : Int32) < li then (3 : Int32) else li) then ((0 : Int64) + (ff0.toInt64)) else (0 : Int64)) + (ff1.toInt64)) else (if (0 : Int32) < (if (3 : Int32) < li then (3 : Int32) else li) then ((0 : Int64) + (ff0.toInt64)) else (0 : Int64))))))])) _
        refine XS.ifNo X76.here hx rfl (hb hby at_197) rfl ((if0 _ _).trans (teq ((lw_eq _ _).mpr hc197)).2) ?_
        show Steps p.tables e below (T76.setTop (mkF m 200 #[.val (.int p1), .val (.int p2), .val (.int p3), .val (.int p4), .val (.int ff0), .val (.int ff1), .val (.int ff2), .val (.ref b59), .val (.ref b63), .val (.ref r71), .val (.int (if (3 : Int32) < li then (3 : Int32) else li)), .val (.long (if (2 : Int32) < (if (3 : Int32) < li then (3 : Int32) else li) then ((if (1 : Int32) < (if (3 : Int32) < li then (3 : Int32) else li) then ((if (0 : Int32) < (if (3 : Int32) < li then (3 : Int32) else li) then ((0 : Int64) + (ff0.toInt64)) else (0 : Int64)) + (ff1.toInt64)) else (if (0 : Int32) < (if (3 : Int32) < li then (3 : Int32) else li) then ((0 : Int64) + (ff0.toInt64)) else (0 : Int64))) + (ff2.toInt64)) else (if (1 : Int32) < (if (3 : Int32) < li then (3 : Int32) else li) then ((if (0 : Int32) < (if (3 : Int32) < li then (3 : Int32) else li) then ((0 : Int64) + (ff0.toInt64)) else (0 : Int64)) + (ff1.toInt64)) else (if (0 : Int32) < (if (3 : Int32) < li then (3 : Int32) else li) then ((0 : Int64) + (ff0.toInt64)) else (0 : Int64))))), .second] [])) _
        refine XS.iconst X76.here hx rfl (hb hby at_200) ?_
        show Steps p.tables e below (T76.setTop (mkF m 201 #[.val (.int p1), .val (.int p2), .val (.int p3), .val (.int p4), .val (.int ff0), .val (.int ff1), .val (.int ff2), .val (.ref b59), .val (.ref b63), .val (.ref r71), .val (.int (if (3 : Int32) < li then (3 : Int32) else li)), .val (.long (if (2 : Int32) < (if (3 : Int32) < li then (3 : Int32) else li) then ((if (1 : Int32) < (if (3 : Int32) < li then (3 : Int32) else li) then ((if (0 : Int32) < (if (3 : Int32) < li then (3 : Int32) else li) then ((0 : Int64) + (ff0.toInt64)) else (0 : Int64)) + (ff1.toInt64)) else (if (0 : Int32) < (if (3 : Int32) < li then (3 : Int32) else li) then ((0 : Int64) + (ff0.toInt64)) else (0 : Int64))) + (ff2.toInt64)) else (if (1 : Int32) < (if (3 : Int32) < li then (3 : Int32) else li) then ((if (0 : Int32) < (if (3 : Int32) < li then (3 : Int32) else li) then ((0 : Int64) + (ff0.toInt64)) else (0 : Int64)) + (ff1.toInt64)) else (if (0 : Int32) < (if (3 : Int32) < li then (3 : Int32) else li) then ((0 : Int64) + (ff0.toInt64)) else (0 : Int64))))), .second] [(.int (1 : Int32))])) _
        refine XS.goto X76.here hx rfl (pc0 := 201) (pc' := 205) rfl (hb hby at_201) (by decide) (by decide) ?_
        show Steps p.tables e below (T76.setTop (mkF m 205 #[.val (.int p1), .val (.int p2), .val (.int p3), .val (.int p4), .val (.int ff0), .val (.int ff1), .val (.int ff2), .val (.ref b59), .val (.ref b63), .val (.ref r71), .val (.int (if (3 : Int32) < li then (3 : Int32) else li)), .val (.long (if (2 : Int32) < (if (3 : Int32) < li then (3 : Int32) else li) then ((if (1 : Int32) < (if (3 : Int32) < li then (3 : Int32) else li) then ((if (0 : Int32) < (if (3 : Int32) < li then (3 : Int32) else li) then ((0 : Int64) + (ff0.toInt64)) else (0 : Int64)) + (ff1.toInt64)) else (if (0 : Int32) < (if (3 : Int32) < li then (3 : Int32) else li) then ((0 : Int64) + (ff0.toInt64)) else (0 : Int64))) + (ff2.toInt64)) else (if (1 : Int32) < (if (3 : Int32) < li then (3 : Int32) else li) then ((if (0 : Int32) < (if (3 : Int32) < li then (3 : Int32) else li) then ((0 : Int64) + (ff0.toInt64)) else (0 : Int64)) + (ff1.toInt64)) else (if (0 : Int32) < (if (3 : Int32) < li then (3 : Int32) else li) then ((0 : Int64) + (ff0.toInt64)) else (0 : Int64))))), .second] [(.int (1 : Int32))])) _
        exact retN X76 hx (t := .boolean) Bd.returns (by simp) (hb hby at_205) hr
      · show Q_0 Z p1 p2 p3 p4 h0 n0 _ T76.heap _
        rw [e76]
        exact ⟨rfl, N76⟩
    · obtain ⟨T77, h77, X77, e77, E77, A77, D77, -, st77⟩ := newO X66 hx hZ hown (hw _ (List.mem_of_getElem? (i := 6) rfl)) (hw _ (List.mem_of_getElem? (i := 7) rfl)) (hw _ (List.mem_of_getElem? (i := 8) rfl)) e66 (g := (mkF m 117 #[.val (.int p1), .val (.int p2), .val (.int p3), .val (.int p4), .val (.int ff0), .val (.int ff1), .val (.int ff2), .val (.ref b59), .val (.ref b63), .unset, .val (.int (0 : Int32)), .val (.int li), .unset] [])) rfl (hb hby at_117) (by decide) (by decide)
      obtain ⟨b77, g77⟩ : ∃ z, z = h66.size := ⟨_, rfl⟩
      rw [← g77] at A77 D77 st77
      have g_b77 : n0 ≤ b77 := Nat.le_trans (Nat.le_trans Z0 Kh66.1) (Nat.le_of_eq g77.symm)
      have sz_b77 : h0.size ≤ b77 := Nat.le_trans Kh66.1 (Nat.le_of_eq g77.symm)
      have ne_b59_b77 : b59 ≠ b77 := Nat.ne_of_lt (Nat.lt_of_lt_of_le ((((V62.ext E63).other W64 ne_b59_b63).other W65 ne_b59_b63).other W66 ne_b59_b63).lt (Nat.le_of_eq g77.symm))
      have ne_b63_b77 : b63 ≠ b77 := Nat.ne_of_lt (Nat.lt_of_lt_of_le V66.lt (Nat.le_of_eq g77.symm))
      have Kh77 : Keep h0 h77 [] := Kh66.ext E77
      have F_docs_b77 : Fld Z h77 b77 "com/example/vrabec/vrabec/index/Postings" "docs" "[I" .null := D77 (Or.inr (hw _ (List.mem_of_getElem? (i := 23) rfl))) (ty := (.array .int)) (by decide)
      have F_frequencies_b77 : Fld Z h77 b77 "com/example/vrabec/vrabec/index/Postings" "frequencies" "[I" .null := D77 (Or.inr (hw _ (List.mem_of_getElem? (i := 25) rfl))) (ty := (.array .int)) (by decide)
      have F_occurrences_b77 : Fld Z h77 b77 "com/example/vrabec/vrabec/index/Postings" "occurrences" "[J" .null := D77 (Or.inr (hw _ (List.mem_of_getElem? (i := 27) rfl))) (ty := (.array .long)) (by decide)
      have F_size_b77 : Fld Z h77 b77 "com/example/vrabec/vrabec/index/Postings" "size" "I" (.int (0 : Int32)) := D77 (Or.inr (hw _ (List.mem_of_getElem? (i := 29) rfl))) (ty := .int) (by decide)
      have f78 := (((((V62.ext E63).other W64 ne_b59_b63).other W65 ne_b59_b63).other W66 ne_b59_b63).ext E77)
      obtain ⟨_, _, ⟨T79, L79, c79_, n79_⟩, -, X79, ⟨Lc79, hQ79, l79, y79, z79⟩, st79⟩ := X77.specialBack hx (y := (⟨"com/example/vrabec/vrabec/index/Postings", "<init>", "([I[I)V"⟩ : MethodName)) rfl hown (mvT hZ (hw _ (List.mem_of_getElem? (i := 9) rfl))) (mvT hZ (hw _ (List.mem_of_getElem? (i := 10) rfl))) (mvT hZ (hw _ (List.mem_of_getElem? (i := 11) rfl))) (by decide) (backOf (W := 1) (rm_2b l Z a0 hw [] b77 b59 b63 ff0 ff1 ff2 k59 k63 [(.int (0 : Int32)), (.int (1 : Int32)), (.int (2 : Int32))] h77 n0 (Nat.le_trans Z0 Kh77.1) A77 g_b77 F_docs_b77 F_frequencies_b77 F_occurrences_b77 F_size_b77 f78 (V66.ext E77)) hZ (hw _ (List.mem_of_getElem? (i := 11) rfl)) (hw _ (List.mem_of_getElem? (i := 8) rfl)) (by decide) (by decide)) (g := (mkF m 125 #[.val (.int p1), .val (.int p2), .val (.int p3), .val (.int p4), .val (.int ff0), .val (.int ff1), .val (.int ff2), .val (.ref b59), .val (.ref b63), .unset, .val (.int (0 : Int32)), .val (.int li), .unset] [(.ref b63), (.ref b59), (.ref b77), (.ref b77)])) rfl (by rw [hml]; rfl) (Steps.refl _) (a := b77) (argsL := [(.ref b59), (.ref b63)]) (rest := [(.ref b77)]) (lenOf pd__28_5bI_5bI_29V rfl) rfl (by show 2 * 0 + _ ≤ _; exact Nat.le_of_eq rfl) (hb hby at_125) (fun _ _ => ⟨rfl, e77, (by decide : 3 + 1 ≤ _), (by decide : 10 + 3 ≤ _)⟩)
      dsimp only [Pt.U, Pt.locs, Pt.cells, Pt.slots] at X79 l79 y79 z79 st79 hQ79
      subst l79 y79 z79
      obtain ⟨rfl, Nq79, K79, Ee79, Fd79, Ff79, Fs79, oc79, kl79, go79, zo79, Fo79, Vo79⟩ := hQ79
      have N79 := Fr.app N66 Nq79
      have Kh79 : Keep h0 T79.heap [] := Kh77.trans K79 (allS (Or.inr sz_b77) all0)
      have g_oc79 := go79
      have sz_oc79 := Nat.le_trans Kh77.1 zo79
      obtain ⟨cq80, kq80, q80a, q80b, q80c⟩ := isOf hZ rfl Ee79
      obtain ⟨_, _, ⟨T80, L80, c80_, n80_⟩, -, X80, ⟨Lc80, hQ80, l80, y80, z80⟩, st80⟩ := X79.virtualBack hx (y := (⟨"com/example/vrabec/vrabec/index/Postings", "before", "(I)Lcom/example/vrabec/vrabec/index/Postings;"⟩ : MethodName)) (z := (⟨"com/example/vrabec/vrabec/index/Postings", "before", "(I)Lcom/example/vrabec/vrabec/index/Postings;"⟩ : MethodName)) hown (mvT hZ (hw _ (List.mem_of_getElem? (i := 30) rfl))) (mvT hZ (hw _ (List.mem_of_getElem? (i := 31) rfl))) (notFace_of_selects (args := #[]) (mvT hZ (hw _ (List.mem_of_getElem? (i := 33) rfl)))) (mvT hZ (hw _ (List.mem_of_getElem? (i := 33) rfl))) (mvT hZ (hw _ (List.mem_of_getElem? (i := 32) rfl))) (by decide) (backOf (W := 0) (rm_6 l Z a0 hw [] b77 li oc79 b59 b63 k59 T79.heap n0 (Nat.le_trans Z0 Kh79.1) Ee79 Fd79 Ff79 Fo79 Fs79 (f78.keep K79 (ninS ne_b59_b77 nin0))) hZ (hw _ (List.mem_of_getElem? (i := 34) rfl)) (hw _ (List.mem_of_getElem? (i := 8) rfl)) (by decide) (by decide)) q80a q80c (g := (mkF m 130 #[.val (.int p1), .val (.int p2), .val (.int p3), .val (.int p4), .val (.int ff0), .val (.int ff1), .val (.int ff2), .val (.ref b59), .val (.ref b63), .unset, .val (.int (0 : Int32)), .val (.int li), .unset] [(.int li), (.ref b77)])) rfl (by rw [hml]; rfl) (Steps.refl _) (argsL := [(.int li)]) (rest := []) (lenOf pd__28I_29Lcom_2fexample_2fvrabec_2fvrabec_2findex_2fPostings_3b rfl) rfl (by show 2 * 0 + _ ≤ _; exact Nat.le_of_eq rfl) (hb hby at_130) (fun _ _ => ⟨rfl, rfl, (by decide : 4 + 1 ≤ _), (by decide : 13 + 4 ≤ _)⟩)
      dsimp only [Pt.U, Pt.locs, Pt.cells, Pt.slots] at X80 l80 y80 z80 st80 hQ80
      subst l80 y80 z80
      obtain ⟨r80, rfl, Nq80, K80, Er80, Ho80, Hs80⟩ := hQ80
      have N80 := Fr.app N79 Nq80
      have Kh80 : Keep h0 T80.heap [] := Kh79.trans K80 (fun _ q_ => nomatch q_)
      have hc140 : ¬ ((0 : Int32) < (0 : Int32)) := by decide
      have hc154 : ¬ ((1 : Int32) < (0 : Int32)) := by decide
      have hc168 : ¬ ((2 : Int32) < (0 : Int32)) := by decide
      obtain ⟨cq81, kq81, q81a, q81b, q81c⟩ := isOf hZ rfl Er80
      obtain ⟨_, _, ⟨T81, L81, c81_, n81_⟩, -, X81, ⟨Lc81, hQ81, l81, y81, z81⟩, st81⟩ := X80.virtualBack hx (y := (⟨"com/example/vrabec/vrabec/index/Postings", "size", "()I"⟩ : MethodName)) (z := (⟨"com/example/vrabec/vrabec/index/Postings", "size", "()I"⟩ : MethodName)) hown (mvT hZ (hw _ (List.mem_of_getElem? (i := 46) rfl))) (mvT hZ (hw _ (List.mem_of_getElem? (i := 47) rfl))) (notFace_of_selects (args := #[]) (mvT hZ (hw _ (List.mem_of_getElem? (i := 49) rfl)))) (mvT hZ (hw _ (List.mem_of_getElem? (i := 49) rfl))) (mvT hZ (hw _ (List.mem_of_getElem? (i := 48) rfl))) (by decide) (backOf (W := 0) (rm_10 l Z a0 hw [] r80 (own_cut li) T80.heap n0 (Nat.le_trans Z0 Kh80.1) Hs80) hZ (hw _ (List.mem_of_getElem? (i := 50) rfl)) (hw _ (List.mem_of_getElem? (i := 8) rfl)) (by decide) (by decide)) q81a q81c (g := (mkF m 181 #[.val (.int p1), .val (.int p2), .val (.int p3), .val (.int p4), .val (.int ff0), .val (.int ff1), .val (.int ff2), .val (.ref b59), .val (.ref b63), .val (.ref r80), .val (.int (0 : Int32)), .val (.long (0 : Int64)), .second] [(.ref r80)])) rfl (by rw [hml]; rfl) (Steps.refl _) (argsL := []) (rest := []) (lenOf pd__28_29I rfl) rfl (by show 2 * 0 + _ ≤ _; exact Nat.le_of_eq rfl) (hb hby at_181) (fun _ _ => ⟨rfl, rfl, (by decide : 5 + 0 ≤ _), (by decide : 17 + 0 ≤ _)⟩)
      dsimp only [Pt.U, Pt.locs, Pt.cells, Pt.slots] at X81 l81 y81 z81 st81 hQ81
      subst l81 y81 z81
      obtain ⟨rfl, Nq81, e81⟩ := hQ81
      have N81 := Fr.app N80 Nq81
      have hc186 : (own_cut li) = (0 : Int32) := (own_low li hc102)
      obtain ⟨cq82, kq82, q82a, q82b, q82c⟩ := isOf hZ e81 Er80
      obtain ⟨_, _, ⟨T82, L82, c82_, n82_⟩, -, X82, ⟨Lc82, hQ82, l82, y82, z82⟩, st82⟩ := X81.virtualBack hx (y := (⟨"com/example/vrabec/vrabec/index/Postings", "occurrences", "()J"⟩ : MethodName)) (z := (⟨"com/example/vrabec/vrabec/index/Postings", "occurrences", "()J"⟩ : MethodName)) hown (mvT hZ (hw _ (List.mem_of_getElem? (i := 51) rfl))) (mvT hZ (hw _ (List.mem_of_getElem? (i := 52) rfl))) (notFace_of_selects (args := #[]) (mvT hZ (hw _ (List.mem_of_getElem? (i := 54) rfl)))) (mvT hZ (hw _ (List.mem_of_getElem? (i := 54) rfl))) (mvT hZ (hw _ (List.mem_of_getElem? (i := 53) rfl))) (by decide) (backOf (W := 0) (rm_11 l Z a0 hw [] r80 (own_cut li) (0 : Int64) oc79 kl79 (3 : Int32) [(.long ((0 : Int64) + (ff0.toInt64))), (.long (((0 : Int64) + (ff0.toInt64)) + (ff1.toInt64))), (.long ((((0 : Int64) + (ff0.toInt64)) + (ff1.toInt64)) + (ff2.toInt64)))] T80.heap n0 (Nat.le_trans Z0 Kh80.1) Hs80 Ho80 (Vo79.keep K80 nin0) (fun q_ => absurd (own_low li hc102) q_)) hZ (hw _ (List.mem_of_getElem? (i := 55) rfl)) (hw _ (List.mem_of_getElem? (i := 8) rfl)) (by decide) (by decide)) q82a q82c (g := (mkF m 191 #[.val (.int p1), .val (.int p2), .val (.int p3), .val (.int p4), .val (.int ff0), .val (.int ff1), .val (.int ff2), .val (.ref b59), .val (.ref b63), .val (.ref r80), .val (.int (0 : Int32)), .val (.long (0 : Int64)), .second] [(.ref r80)])) rfl (by rw [hml]; rfl) (Steps.refl _) (argsL := []) (rest := []) (lenOf pd__28_29J rfl) rfl (by show 2 * 0 + _ ≤ _; exact Nat.le_of_eq rfl) (hb hby at_191) (fun _ _ => ⟨rfl, e81, (by decide : 5 + 0 ≤ _), (by decide : 17 + 0 ≤ _)⟩)
      dsimp only [Pt.U, Pt.locs, Pt.cells, Pt.slots] at X82 l82 y82 z82 st82 hQ82
      subst l82 y82 z82
      obtain ⟨rfl, Nq82, e82⟩ := hQ82
      have N82 := Fr.app N81 Nq82
      have hc197 : (if (own_cut li) = (0 : Int32) then (0 : Int64) else (0 : Int64)) = (0 : Int64) := (by rw [own_low li hc102]; rfl)
      obtain ⟨fs, hr, hrun, hended, hW, hsame⟩ := X82.leave (v := some (.int (1 : Int32))) (fun h => by rw [Bd.returns] at h; cases h)
      refine ⟨_, _, pre0 _ ?_, hrun, hended, _, _, rfl, ?_, ⟨_, rfl⟩, hW, hsame.mono (by decide) (by decide)⟩
      · show Steps p.tables e below (s₁.setTop (mkF m 0 #[.val (.int p1), .val (.int p2), .val (.int p3), .val (.int p4), .unset, .unset, .unset, .unset, .unset, .unset, .unset, .unset, .unset] [])) _
        refine XS.iconst X0.here hx rfl (hb hby at_0) ?_
        show Steps p.tables e below (s₁.setTop (mkF m 1 #[.val (.int p1), .val (.int p2), .val (.int p3), .val (.int p4), .unset, .unset, .unset, .unset, .unset, .unset, .unset, .unset, .unset] [(.int (1 : Int32))])) _
        refine XS.iloadN X0.here hx rfl (hb hby at_1) rfl ?_
        show Steps p.tables e below (s₁.setTop (mkF m 2 #[.val (.int p1), .val (.int p2), .val (.int p3), .val (.int p4), .unset, .unset, .unset, .unset, .unset, .unset, .unset, .unset, .unset] [(.int p2), (.int (1 : Int32))])) _
        refine X0.ldcInt hx hown (mvT hZ (hw _ (List.mem_of_getElem? (i := 0) rfl))) (g := (mkF m 2 #[.val (.int p1), .val (.int p2), .val (.int p3), .val (.int p4), .unset, .unset, .unset, .unset, .unset, .unset, .unset, .unset, .unset] [(.int p2), (.int (1 : Int32))])) rfl (hb hby at_2) _ ?_
        show Steps p.tables e below (s₁.setTop (mkF m 4 #[.val (.int p1), .val (.int p2), .val (.int p3), .val (.int p4), .unset, .unset, .unset, .unset, .unset, .unset, .unset, .unset, .unset] [(.int (2147483647 : Int32)), (.int p2), (.int (1 : Int32))])) _
        refine XS.iand X0.here hx rfl (hb hby at_4) rfl ?_
        show Steps p.tables e below (s₁.setTop (mkF m 5 #[.val (.int p1), .val (.int p2), .val (.int p3), .val (.int p4), .unset, .unset, .unset, .unset, .unset, .unset, .unset, .unset, .unset] [(.int (p2 &&& (2147483647 : Int32))), (.int (1 : Int32))])) _
        refine st56 _ ?_
        show Steps p.tables e below (T56.setTop (mkF m 8 #[.val (.int p1), .val (.int p2), .val (.int p3), .val (.int p4), .unset, .unset, .unset, .unset, .unset, .unset, .unset, .unset, .unset] [(.int (if (1 : Int32) < (p2 &&& (2147483647 : Int32)) then (p2 &&& (2147483647 : Int32)) else (1 : Int32)))])) _
        refine XS.istore X56.here hx rfl (hb hby at_8) rfl (l' := #[.val (.int p1), .val (.int p2), .val (.int p3), .val (.int p4), .val (.int (if (1 : Int32) < (p2 &&& (2147483647 : Int32)) then (p2 &&& (2147483647 : Int32)) else (1 : Int32))), .unset, .unset, .unset, .unset, .unset, .unset, .unset, .unset]) rfl ?_
        show Steps p.tables e below (T56.setTop (mkF m 10 #[.val (.int p1), .val (.int p2), .val (.int p3), .val (.int p4), .val (.int (if (1 : Int32) < (p2 &&& (2147483647 : Int32)) then (p2 &&& (2147483647 : Int32)) else (1 : Int32))), .unset, .unset, .unset, .unset, .unset, .unset, .unset, .unset] [])) _
        rw [← e_ff0]
        show Steps p.tables e below (T56.setTop (mkF m 10 #[.val (.int p1), .val (.int p2), .val (.int p3), .val (.int p4), .val (.int ff0), .unset, .unset, .unset, .unset, .unset, .unset, .unset, .unset] [])) _
        refine XS.iconst X56.here hx rfl (hb hby at_10) ?_
        show Steps p.tables e below (T56.setTop (mkF m 11 #[.val (.int p1), .val (.int p2), .val (.int p3), .val (.int p4), .val (.int ff0), .unset, .unset, .unset, .unset, .unset, .unset, .unset, .unset] [(.int (1 : Int32))])) _
        refine XS.iloadN X56.here hx rfl (hb hby at_11) rfl ?_
        show Steps p.tables e below (T56.setTop (mkF m 12 #[.val (.int p1), .val (.int p2), .val (.int p3), .val (.int p4), .val (.int ff0), .unset, .unset, .unset, .unset, .unset, .unset, .unset, .unset] [(.int p3), (.int (1 : Int32))])) _
        refine X56.ldcInt hx hown (mvT hZ (hw _ (List.mem_of_getElem? (i := 0) rfl))) (g := (mkF m 12 #[.val (.int p1), .val (.int p2), .val (.int p3), .val (.int p4), .val (.int ff0), .unset, .unset, .unset, .unset, .unset, .unset, .unset, .unset] [(.int p3), (.int (1 : Int32))])) rfl (hb hby at_12) _ ?_
        show Steps p.tables e below (T56.setTop (mkF m 14 #[.val (.int p1), .val (.int p2), .val (.int p3), .val (.int p4), .val (.int ff0), .unset, .unset, .unset, .unset, .unset, .unset, .unset, .unset] [(.int (2147483647 : Int32)), (.int p3), (.int (1 : Int32))])) _
        refine XS.iand X56.here hx rfl (hb hby at_14) rfl ?_
        show Steps p.tables e below (T56.setTop (mkF m 15 #[.val (.int p1), .val (.int p2), .val (.int p3), .val (.int p4), .val (.int ff0), .unset, .unset, .unset, .unset, .unset, .unset, .unset, .unset] [(.int (p3 &&& (2147483647 : Int32))), (.int (1 : Int32))])) _
        refine st57 _ ?_
        show Steps p.tables e below (T57.setTop (mkF m 18 #[.val (.int p1), .val (.int p2), .val (.int p3), .val (.int p4), .val (.int ff0), .unset, .unset, .unset, .unset, .unset, .unset, .unset, .unset] [(.int (if (1 : Int32) < (p3 &&& (2147483647 : Int32)) then (p3 &&& (2147483647 : Int32)) else (1 : Int32)))])) _
        refine XS.istore X57.here hx rfl (hb hby at_18) rfl (l' := #[.val (.int p1), .val (.int p2), .val (.int p3), .val (.int p4), .val (.int ff0), .val (.int (if (1 : Int32) < (p3 &&& (2147483647 : Int32)) then (p3 &&& (2147483647 : Int32)) else (1 : Int32))), .unset, .unset, .unset, .unset, .unset, .unset, .unset]) rfl ?_
        show Steps p.tables e below (T57.setTop (mkF m 20 #[.val (.int p1), .val (.int p2), .val (.int p3), .val (.int p4), .val (.int ff0), .val (.int (if (1 : Int32) < (p3 &&& (2147483647 : Int32)) then (p3 &&& (2147483647 : Int32)) else (1 : Int32))), .unset, .unset, .unset, .unset, .unset, .unset, .unset] [])) _
        rw [← e_ff1]
        show Steps p.tables e below (T57.setTop (mkF m 20 #[.val (.int p1), .val (.int p2), .val (.int p3), .val (.int p4), .val (.int ff0), .val (.int ff1), .unset, .unset, .unset, .unset, .unset, .unset, .unset] [])) _
        refine XS.iconst X57.here hx rfl (hb hby at_20) ?_
        show Steps p.tables e below (T57.setTop (mkF m 21 #[.val (.int p1), .val (.int p2), .val (.int p3), .val (.int p4), .val (.int ff0), .val (.int ff1), .unset, .unset, .unset, .unset, .unset, .unset, .unset] [(.int (1 : Int32))])) _
        refine XS.iloadN X57.here hx rfl (hb hby at_21) rfl ?_
        show Steps p.tables e below (T57.setTop (mkF m 22 #[.val (.int p1), .val (.int p2), .val (.int p3), .val (.int p4), .val (.int ff0), .val (.int ff1), .unset, .unset, .unset, .unset, .unset, .unset, .unset] [(.int p4), (.int (1 : Int32))])) _
        refine X57.ldcInt hx hown (mvT hZ (hw _ (List.mem_of_getElem? (i := 0) rfl))) (g := (mkF m 22 #[.val (.int p1), .val (.int p2), .val (.int p3), .val (.int p4), .val (.int ff0), .val (.int ff1), .unset, .unset, .unset, .unset, .unset, .unset, .unset] [(.int p4), (.int (1 : Int32))])) rfl (hb hby at_22) _ ?_
        show Steps p.tables e below (T57.setTop (mkF m 24 #[.val (.int p1), .val (.int p2), .val (.int p3), .val (.int p4), .val (.int ff0), .val (.int ff1), .unset, .unset, .unset, .unset, .unset, .unset, .unset] [(.int (2147483647 : Int32)), (.int p4), (.int (1 : Int32))])) _
        refine XS.iand X57.here hx rfl (hb hby at_24) rfl ?_
        show Steps p.tables e below (T57.setTop (mkF m 25 #[.val (.int p1), .val (.int p2), .val (.int p3), .val (.int p4), .val (.int ff0), .val (.int ff1), .unset, .unset, .unset, .unset, .unset, .unset, .unset] [(.int (p4 &&& (2147483647 : Int32))), (.int (1 : Int32))])) _
        refine st58 _ ?_
        show Steps p.tables e below (T58.setTop (mkF m 28 #[.val (.int p1), .val (.int p2), .val (.int p3), .val (.int p4), .val (.int ff0), .val (.int ff1), .unset, .unset, .unset, .unset, .unset, .unset, .unset] [(.int (if (1 : Int32) < (p4 &&& (2147483647 : Int32)) then (p4 &&& (2147483647 : Int32)) else (1 : Int32)))])) _
        refine XS.istore X58.here hx rfl (hb hby at_28) rfl (l' := #[.val (.int p1), .val (.int p2), .val (.int p3), .val (.int p4), .val (.int ff0), .val (.int ff1), .val (.int (if (1 : Int32) < (p4 &&& (2147483647 : Int32)) then (p4 &&& (2147483647 : Int32)) else (1 : Int32))), .unset, .unset, .unset, .unset, .unset, .unset]) rfl ?_
        show Steps p.tables e below (T58.setTop (mkF m 30 #[.val (.int p1), .val (.int p2), .val (.int p3), .val (.int p4), .val (.int ff0), .val (.int ff1), .val (.int (if (1 : Int32) < (p4 &&& (2147483647 : Int32)) then (p4 &&& (2147483647 : Int32)) else (1 : Int32))), .unset, .unset, .unset, .unset, .unset, .unset] [])) _
        rw [← e_ff2]
        show Steps p.tables e below (T58.setTop (mkF m 30 #[.val (.int p1), .val (.int p2), .val (.int p3), .val (.int p4), .val (.int ff0), .val (.int ff1), .val (.int ff2), .unset, .unset, .unset, .unset, .unset, .unset] [])) _
        refine XS.iconst X58.here hx rfl (hb hby at_30) ?_
        show Steps p.tables e below (T58.setTop (mkF m 31 #[.val (.int p1), .val (.int p2), .val (.int p3), .val (.int p4), .val (.int ff0), .val (.int ff1), .val (.int ff2), .unset, .unset, .unset, .unset, .unset, .unset] [(.int (3 : Int32))])) _
        refine st59 _ ?_
        show Steps p.tables e below (T59.setTop (mkF m 33 #[.val (.int p1), .val (.int p2), .val (.int p3), .val (.int p4), .val (.int ff0), .val (.int ff1), .val (.int ff2), .unset, .unset, .unset, .unset, .unset, .unset] [(.ref b59)])) _
        refine XS.dup X59.here hx rfl (hb hby at_33) rfl rfl ?_
        show Steps p.tables e below (T59.setTop (mkF m 34 #[.val (.int p1), .val (.int p2), .val (.int p3), .val (.int p4), .val (.int ff0), .val (.int ff1), .val (.int ff2), .unset, .unset, .unset, .unset, .unset, .unset] [(.ref b59), (.ref b59)])) _
        refine XS.iconst X59.here hx rfl (hb hby at_34) ?_
        show Steps p.tables e below (T59.setTop (mkF m 35 #[.val (.int p1), .val (.int p2), .val (.int p3), .val (.int p4), .val (.int ff0), .val (.int ff1), .val (.int ff2), .unset, .unset, .unset, .unset, .unset, .unset] [(.int (0 : Int32)), (.ref b59), (.ref b59)])) _
        refine XS.iconst X59.here hx rfl (hb hby at_35) ?_
        show Steps p.tables e below (T59.setTop (mkF m 36 #[.val (.int p1), .val (.int p2), .val (.int p3), .val (.int p4), .val (.int ff0), .val (.int ff1), .val (.int ff2), .unset, .unset, .unset, .unset, .unset, .unset] [(.int (0 : Int32)), (.int (0 : Int32)), (.ref b59), (.ref b59)])) _
        refine st60 _ ?_
        show Steps p.tables e below (T60.setTop (mkF m 37 #[.val (.int p1), .val (.int p2), .val (.int p3), .val (.int p4), .val (.int ff0), .val (.int ff1), .val (.int ff2), .unset, .unset, .unset, .unset, .unset, .unset] [(.ref b59)])) _
        refine XS.dup X60.here hx rfl (hb hby at_37) rfl rfl ?_
        show Steps p.tables e below (T60.setTop (mkF m 38 #[.val (.int p1), .val (.int p2), .val (.int p3), .val (.int p4), .val (.int ff0), .val (.int ff1), .val (.int ff2), .unset, .unset, .unset, .unset, .unset, .unset] [(.ref b59), (.ref b59)])) _
        refine XS.iconst X60.here hx rfl (hb hby at_38) ?_
        show Steps p.tables e below (T60.setTop (mkF m 39 #[.val (.int p1), .val (.int p2), .val (.int p3), .val (.int p4), .val (.int ff0), .val (.int ff1), .val (.int ff2), .unset, .unset, .unset, .unset, .unset, .unset] [(.int (1 : Int32)), (.ref b59), (.ref b59)])) _
        refine XS.iconst X60.here hx rfl (hb hby at_39) ?_
        show Steps p.tables e below (T60.setTop (mkF m 40 #[.val (.int p1), .val (.int p2), .val (.int p3), .val (.int p4), .val (.int ff0), .val (.int ff1), .val (.int ff2), .unset, .unset, .unset, .unset, .unset, .unset] [(.int (1 : Int32)), (.int (1 : Int32)), (.ref b59), (.ref b59)])) _
        refine st61 _ ?_
        show Steps p.tables e below (T61.setTop (mkF m 41 #[.val (.int p1), .val (.int p2), .val (.int p3), .val (.int p4), .val (.int ff0), .val (.int ff1), .val (.int ff2), .unset, .unset, .unset, .unset, .unset, .unset] [(.ref b59)])) _
        refine XS.dup X61.here hx rfl (hb hby at_41) rfl rfl ?_
        show Steps p.tables e below (T61.setTop (mkF m 42 #[.val (.int p1), .val (.int p2), .val (.int p3), .val (.int p4), .val (.int ff0), .val (.int ff1), .val (.int ff2), .unset, .unset, .unset, .unset, .unset, .unset] [(.ref b59), (.ref b59)])) _
        refine XS.iconst X61.here hx rfl (hb hby at_42) ?_
        show Steps p.tables e below (T61.setTop (mkF m 43 #[.val (.int p1), .val (.int p2), .val (.int p3), .val (.int p4), .val (.int ff0), .val (.int ff1), .val (.int ff2), .unset, .unset, .unset, .unset, .unset, .unset] [(.int (2 : Int32)), (.ref b59), (.ref b59)])) _
        refine XS.iconst X61.here hx rfl (hb hby at_43) ?_
        show Steps p.tables e below (T61.setTop (mkF m 44 #[.val (.int p1), .val (.int p2), .val (.int p3), .val (.int p4), .val (.int ff0), .val (.int ff1), .val (.int ff2), .unset, .unset, .unset, .unset, .unset, .unset] [(.int (2 : Int32)), (.int (2 : Int32)), (.ref b59), (.ref b59)])) _
        refine st62 _ ?_
        show Steps p.tables e below (T62.setTop (mkF m 45 #[.val (.int p1), .val (.int p2), .val (.int p3), .val (.int p4), .val (.int ff0), .val (.int ff1), .val (.int ff2), .unset, .unset, .unset, .unset, .unset, .unset] [(.ref b59)])) _
        refine XS.astore X62.here hx rfl (hb hby at_45) rfl rfl (l' := #[.val (.int p1), .val (.int p2), .val (.int p3), .val (.int p4), .val (.int ff0), .val (.int ff1), .val (.int ff2), .val (.ref b59), .unset, .unset, .unset, .unset, .unset]) rfl ?_
        show Steps p.tables e below (T62.setTop (mkF m 47 #[.val (.int p1), .val (.int p2), .val (.int p3), .val (.int p4), .val (.int ff0), .val (.int ff1), .val (.int ff2), .val (.ref b59), .unset, .unset, .unset, .unset, .unset] [])) _
        refine XS.iconst X62.here hx rfl (hb hby at_47) ?_
        show Steps p.tables e below (T62.setTop (mkF m 48 #[.val (.int p1), .val (.int p2), .val (.int p3), .val (.int p4), .val (.int ff0), .val (.int ff1), .val (.int ff2), .val (.ref b59), .unset, .unset, .unset, .unset, .unset] [(.int (3 : Int32))])) _
        refine st63 _ ?_
        show Steps p.tables e below (T63.setTop (mkF m 50 #[.val (.int p1), .val (.int p2), .val (.int p3), .val (.int p4), .val (.int ff0), .val (.int ff1), .val (.int ff2), .val (.ref b59), .unset, .unset, .unset, .unset, .unset] [(.ref b63)])) _
        refine XS.dup X63.here hx rfl (hb hby at_50) rfl rfl ?_
        show Steps p.tables e below (T63.setTop (mkF m 51 #[.val (.int p1), .val (.int p2), .val (.int p3), .val (.int p4), .val (.int ff0), .val (.int ff1), .val (.int ff2), .val (.ref b59), .unset, .unset, .unset, .unset, .unset] [(.ref b63), (.ref b63)])) _
        refine XS.iconst X63.here hx rfl (hb hby at_51) ?_
        show Steps p.tables e below (T63.setTop (mkF m 52 #[.val (.int p1), .val (.int p2), .val (.int p3), .val (.int p4), .val (.int ff0), .val (.int ff1), .val (.int ff2), .val (.ref b59), .unset, .unset, .unset, .unset, .unset] [(.int (0 : Int32)), (.ref b63), (.ref b63)])) _
        refine XS.iload X63.here hx rfl (hb hby at_52) rfl ?_
        show Steps p.tables e below (T63.setTop (mkF m 54 #[.val (.int p1), .val (.int p2), .val (.int p3), .val (.int p4), .val (.int ff0), .val (.int ff1), .val (.int ff2), .val (.ref b59), .unset, .unset, .unset, .unset, .unset] [(.int ff0), (.int (0 : Int32)), (.ref b63), (.ref b63)])) _
        refine st64 _ ?_
        show Steps p.tables e below (T64.setTop (mkF m 55 #[.val (.int p1), .val (.int p2), .val (.int p3), .val (.int p4), .val (.int ff0), .val (.int ff1), .val (.int ff2), .val (.ref b59), .unset, .unset, .unset, .unset, .unset] [(.ref b63)])) _
        refine XS.dup X64.here hx rfl (hb hby at_55) rfl rfl ?_
        show Steps p.tables e below (T64.setTop (mkF m 56 #[.val (.int p1), .val (.int p2), .val (.int p3), .val (.int p4), .val (.int ff0), .val (.int ff1), .val (.int ff2), .val (.ref b59), .unset, .unset, .unset, .unset, .unset] [(.ref b63), (.ref b63)])) _
        refine XS.iconst X64.here hx rfl (hb hby at_56) ?_
        show Steps p.tables e below (T64.setTop (mkF m 57 #[.val (.int p1), .val (.int p2), .val (.int p3), .val (.int p4), .val (.int ff0), .val (.int ff1), .val (.int ff2), .val (.ref b59), .unset, .unset, .unset, .unset, .unset] [(.int (1 : Int32)), (.ref b63), (.ref b63)])) _
        refine XS.iload X64.here hx rfl (hb hby at_57) rfl ?_
        show Steps p.tables e below (T64.setTop (mkF m 59 #[.val (.int p1), .val (.int p2), .val (.int p3), .val (.int p4), .val (.int ff0), .val (.int ff1), .val (.int ff2), .val (.ref b59), .unset, .unset, .unset, .unset, .unset] [(.int ff1), (.int (1 : Int32)), (.ref b63), (.ref b63)])) _
        refine st65 _ ?_
        show Steps p.tables e below (T65.setTop (mkF m 60 #[.val (.int p1), .val (.int p2), .val (.int p3), .val (.int p4), .val (.int ff0), .val (.int ff1), .val (.int ff2), .val (.ref b59), .unset, .unset, .unset, .unset, .unset] [(.ref b63)])) _
        refine XS.dup X65.here hx rfl (hb hby at_60) rfl rfl ?_
        show Steps p.tables e below (T65.setTop (mkF m 61 #[.val (.int p1), .val (.int p2), .val (.int p3), .val (.int p4), .val (.int ff0), .val (.int ff1), .val (.int ff2), .val (.ref b59), .unset, .unset, .unset, .unset, .unset] [(.ref b63), (.ref b63)])) _
        refine XS.iconst X65.here hx rfl (hb hby at_61) ?_
        show Steps p.tables e below (T65.setTop (mkF m 62 #[.val (.int p1), .val (.int p2), .val (.int p3), .val (.int p4), .val (.int ff0), .val (.int ff1), .val (.int ff2), .val (.ref b59), .unset, .unset, .unset, .unset, .unset] [(.int (2 : Int32)), (.ref b63), (.ref b63)])) _
        refine XS.iload X65.here hx rfl (hb hby at_62) rfl ?_
        show Steps p.tables e below (T65.setTop (mkF m 64 #[.val (.int p1), .val (.int p2), .val (.int p3), .val (.int p4), .val (.int ff0), .val (.int ff1), .val (.int ff2), .val (.ref b59), .unset, .unset, .unset, .unset, .unset] [(.int ff2), (.int (2 : Int32)), (.ref b63), (.ref b63)])) _
        refine st66 _ ?_
        show Steps p.tables e below (T66.setTop (mkF m 65 #[.val (.int p1), .val (.int p2), .val (.int p3), .val (.int p4), .val (.int ff0), .val (.int ff1), .val (.int ff2), .val (.ref b59), .unset, .unset, .unset, .unset, .unset] [(.ref b63)])) _
        refine XS.astore X66.here hx rfl (hb hby at_65) rfl rfl (l' := #[.val (.int p1), .val (.int p2), .val (.int p3), .val (.int p4), .val (.int ff0), .val (.int ff1), .val (.int ff2), .val (.ref b59), .val (.ref b63), .unset, .unset, .unset, .unset]) rfl ?_
        show Steps p.tables e below (T66.setTop (mkF m 67 #[.val (.int p1), .val (.int p2), .val (.int p3), .val (.int p4), .val (.int ff0), .val (.int ff1), .val (.int ff2), .val (.ref b59), .val (.ref b63), .unset, .unset, .unset, .unset] [])) _
        refine XS.iloadN X66.here hx rfl (hb hby at_67) rfl ?_
        show Steps p.tables e below (T66.setTop (mkF m 68 #[.val (.int p1), .val (.int p2), .val (.int p3), .val (.int p4), .val (.int ff0), .val (.int ff1), .val (.int ff2), .val (.ref b59), .val (.ref b63), .unset, .unset, .unset, .unset] [(.int p1)])) _
        refine XS.bipush X66.here hx rfl (hb hby at_68) ?_
        show Steps p.tables e below (T66.setTop (mkF m 70 #[.val (.int p1), .val (.int p2), .val (.int p3), .val (.int p4), .val (.int ff0), .val (.int ff1), .val (.int ff2), .val (.ref b59), .val (.ref b63), .unset, .unset, .unset, .unset] [(.int (8 : Int32)), (.int p1)])) _
        refine XS.iand X66.here hx rfl (hb hby at_70) rfl ?_
        show Steps p.tables e below (T66.setTop (mkF m 71 #[.val (.int p1), .val (.int p2), .val (.int p3), .val (.int p4), .val (.int ff0), .val (.int ff1), .val (.int ff2), .val (.ref b59), .val (.ref b63), .unset, .unset, .unset, .unset] [(.int (p1 &&& (8 : Int32)))])) _
        refine XS.ifYes X66.here hx rfl (pc0 := 71) (pc' := 95) rfl (hb hby at_71) rfl ((if0 _ _).trans (teq hc71).1) (by decide) (by decide) ?_
        show Steps p.tables e below (T66.setTop (mkF m 95 #[.val (.int p1), .val (.int p2), .val (.int p3), .val (.int p4), .val (.int ff0), .val (.int ff1), .val (.int ff2), .val (.ref b59), .val (.ref b63), .unset, .unset, .unset, .unset] [])) _
        refine XS.iloadN X66.here hx rfl (hb hby at_95) rfl ?_
        show Steps p.tables e below (T66.setTop (mkF m 96 #[.val (.int p1), .val (.int p2), .val (.int p3), .val (.int p4), .val (.int ff0), .val (.int ff1), .val (.int ff2), .val (.ref b59), .val (.ref b63), .unset, .unset, .unset, .unset] [(.int p1)])) _
        refine XS.iconst X66.here hx rfl (hb hby at_96) ?_
        show Steps p.tables e below (T66.setTop (mkF m 97 #[.val (.int p1), .val (.int p2), .val (.int p3), .val (.int p4), .val (.int ff0), .val (.int ff1), .val (.int ff2), .val (.ref b59), .val (.ref b63), .unset, .unset, .unset, .unset] [(.int (4 : Int32)), (.int p1)])) _
        refine XS.ishr X66.here hx rfl (hb hby at_97) rfl ?_
        show Steps p.tables e below (T66.setTop (mkF m 98 #[.val (.int p1), .val (.int p2), .val (.int p3), .val (.int p4), .val (.int ff0), .val (.int ff1), .val (.int ff2), .val (.ref b59), .val (.ref b63), .unset, .unset, .unset, .unset] [(.int (p1 >>> ((4 : Int32) &&& 31)))])) _
        refine XS.istore X66.here hx rfl (hb hby at_98) rfl (l' := #[.val (.int p1), .val (.int p2), .val (.int p3), .val (.int p4), .val (.int ff0), .val (.int ff1), .val (.int ff2), .val (.ref b59), .val (.ref b63), .unset, .unset, .val (.int (p1 >>> ((4 : Int32) &&& 31))), .unset]) rfl ?_
        show Steps p.tables e below (T66.setTop (mkF m 100 #[.val (.int p1), .val (.int p2), .val (.int p3), .val (.int p4), .val (.int ff0), .val (.int ff1), .val (.int ff2), .val (.ref b59), .val (.ref b63), .unset, .unset, .val (.int (p1 >>> ((4 : Int32) &&& 31))), .unset] [])) _
        rw [← e_li]
        show Steps p.tables e below (T66.setTop (mkF m 100 #[.val (.int p1), .val (.int p2), .val (.int p3), .val (.int p4), .val (.int ff0), .val (.int ff1), .val (.int ff2), .val (.ref b59), .val (.ref b63), .unset, .unset, .val (.int li), .unset] [])) _
        refine XS.iload X66.here hx rfl (hb hby at_100) rfl ?_
        show Steps p.tables e below (T66.setTop (mkF m 102 #[.val (.int p1), .val (.int p2), .val (.int p3), .val (.int p4), .val (.int ff0), .val (.int ff1), .val (.int ff2), .val (.ref b59), .val (.ref b63), .unset, .unset, .val (.int li), .unset] [(.int li)])) _
        refine XS.ifNo X66.here hx rfl (hb hby at_102) rfl ((if0 _ _).trans (flt hc102).2.2.1) ?_
        show Steps p.tables e below (T66.setTop (mkF m 105 #[.val (.int p1), .val (.int p2), .val (.int p3), .val (.int p4), .val (.int ff0), .val (.int ff1), .val (.int ff2), .val (.ref b59), .val (.ref b63), .unset, .unset, .val (.int li), .unset] [])) _
        refine XS.iconst X66.here hx rfl (hb hby at_105) ?_
        show Steps p.tables e below (T66.setTop (mkF m 106 #[.val (.int p1), .val (.int p2), .val (.int p3), .val (.int p4), .val (.int ff0), .val (.int ff1), .val (.int ff2), .val (.ref b59), .val (.ref b63), .unset, .unset, .val (.int li), .unset] [(.int (0 : Int32))])) _
        refine XS.goto X66.here hx rfl (pc0 := 106) (pc' := 115) rfl (hb hby at_106) (by decide) (by decide) ?_
        show Steps p.tables e below (T66.setTop (mkF m 115 #[.val (.int p1), .val (.int p2), .val (.int p3), .val (.int p4), .val (.int ff0), .val (.int ff1), .val (.int ff2), .val (.ref b59), .val (.ref b63), .unset, .unset, .val (.int li), .unset] [(.int (0 : Int32))])) _
        refine XS.istore X66.here hx rfl (hb hby at_115) rfl (l' := #[.val (.int p1), .val (.int p2), .val (.int p3), .val (.int p4), .val (.int ff0), .val (.int ff1), .val (.int ff2), .val (.ref b59), .val (.ref b63), .unset, .val (.int (0 : Int32)), .val (.int li), .unset]) rfl ?_
        show Steps p.tables e below (T66.setTop (mkF m 117 #[.val (.int p1), .val (.int p2), .val (.int p3), .val (.int p4), .val (.int ff0), .val (.int ff1), .val (.int ff2), .val (.ref b59), .val (.ref b63), .unset, .val (.int (0 : Int32)), .val (.int li), .unset] [])) _
        refine st77 _ ?_
        show Steps p.tables e below (T77.setTop (mkF m 120 #[.val (.int p1), .val (.int p2), .val (.int p3), .val (.int p4), .val (.int ff0), .val (.int ff1), .val (.int ff2), .val (.ref b59), .val (.ref b63), .unset, .val (.int (0 : Int32)), .val (.int li), .unset] [(.ref b77)])) _
        refine XS.dup X77.here hx rfl (hb hby at_120) rfl rfl ?_
        show Steps p.tables e below (T77.setTop (mkF m 121 #[.val (.int p1), .val (.int p2), .val (.int p3), .val (.int p4), .val (.int ff0), .val (.int ff1), .val (.int ff2), .val (.ref b59), .val (.ref b63), .unset, .val (.int (0 : Int32)), .val (.int li), .unset] [(.ref b77), (.ref b77)])) _
        refine XS.aload X77.here hx rfl (hb hby at_121) rfl rfl ?_
        show Steps p.tables e below (T77.setTop (mkF m 123 #[.val (.int p1), .val (.int p2), .val (.int p3), .val (.int p4), .val (.int ff0), .val (.int ff1), .val (.int ff2), .val (.ref b59), .val (.ref b63), .unset, .val (.int (0 : Int32)), .val (.int li), .unset] [(.ref b59), (.ref b77), (.ref b77)])) _
        refine XS.aload X77.here hx rfl (hb hby at_123) rfl rfl ?_
        show Steps p.tables e below (T77.setTop (mkF m 125 #[.val (.int p1), .val (.int p2), .val (.int p3), .val (.int p4), .val (.int ff0), .val (.int ff1), .val (.int ff2), .val (.ref b59), .val (.ref b63), .unset, .val (.int (0 : Int32)), .val (.int li), .unset] [(.ref b63), (.ref b59), (.ref b77), (.ref b77)])) _
        refine st79.trans ?_
        show Steps p.tables e below (T79.setTop (mkF m 128 #[.val (.int p1), .val (.int p2), .val (.int p3), .val (.int p4), .val (.int ff0), .val (.int ff1), .val (.int ff2), .val (.ref b59), .val (.ref b63), .unset, .val (.int (0 : Int32)), .val (.int li), .unset] [(.ref b77)])) _
        refine XS.iload X79.here hx rfl (hb hby at_128) rfl ?_
        show Steps p.tables e below (T79.setTop (mkF m 130 #[.val (.int p1), .val (.int p2), .val (.int p3), .val (.int p4), .val (.int ff0), .val (.int ff1), .val (.int ff2), .val (.ref b59), .val (.ref b63), .unset, .val (.int (0 : Int32)), .val (.int li), .unset] [(.int li), (.ref b77)])) _
        refine st80.trans ?_
        show Steps p.tables e below (T80.setTop (mkF m 133 #[.val (.int p1), .val (.int p2), .val (.int p3), .val (.int p4), .val (.int ff0), .val (.int ff1), .val (.int ff2), .val (.ref b59), .val (.ref b63), .unset, .val (.int (0 : Int32)), .val (.int li), .unset] [(.ref r80)])) _
        refine XS.astore X80.here hx rfl (hb hby at_133) rfl rfl (l' := #[.val (.int p1), .val (.int p2), .val (.int p3), .val (.int p4), .val (.int ff0), .val (.int ff1), .val (.int ff2), .val (.ref b59), .val (.ref b63), .val (.ref r80), .val (.int (0 : Int32)), .val (.int li), .unset]) rfl ?_
        show Steps p.tables e below (T80.setTop (mkF m 135 #[.val (.int p1), .val (.int p2), .val (.int p3), .val (.int p4), .val (.int ff0), .val (.int ff1), .val (.int ff2), .val (.ref b59), .val (.ref b63), .val (.ref r80), .val (.int (0 : Int32)), .val (.int li), .unset] [])) _
        refine XS.lconst X80.here hx rfl (hb hby at_135) ?_
        show Steps p.tables e below (T80.setTop (mkF m 136 #[.val (.int p1), .val (.int p2), .val (.int p3), .val (.int p4), .val (.int ff0), .val (.int ff1), .val (.int ff2), .val (.ref b59), .val (.ref b63), .val (.ref r80), .val (.int (0 : Int32)), .val (.int li), .unset] [(.long (0 : Int64))])) _
        refine XS.lstore X80.here hx rfl (hb hby at_136) rfl (l' := #[.val (.int p1), .val (.int p2), .val (.int p3), .val (.int p4), .val (.int ff0), .val (.int ff1), .val (.int ff2), .val (.ref b59), .val (.ref b63), .val (.ref r80), .val (.int (0 : Int32)), .val (.long (0 : Int64)), .second]) rfl ?_
        show Steps p.tables e below (T80.setTop (mkF m 138 #[.val (.int p1), .val (.int p2), .val (.int p3), .val (.int p4), .val (.int ff0), .val (.int ff1), .val (.int ff2), .val (.ref b59), .val (.ref b63), .val (.ref r80), .val (.int (0 : Int32)), .val (.long (0 : Int64)), .second] [])) _
        refine XS.iload X80.here hx rfl (hb hby at_138) rfl ?_
        show Steps p.tables e below (T80.setTop (mkF m 140 #[.val (.int p1), .val (.int p2), .val (.int p3), .val (.int p4), .val (.int ff0), .val (.int ff1), .val (.int ff2), .val (.ref b59), .val (.ref b63), .val (.ref r80), .val (.int (0 : Int32)), .val (.long (0 : Int64)), .second] [(.int (0 : Int32))])) _
        refine XS.ifYes X80.here hx rfl (pc0 := 140) (pc' := 151) rfl (hb hby at_140) rfl ((if0 _ _).trans (flt hc140).2.2.2) (by decide) (by decide) ?_
        show Steps p.tables e below (T80.setTop (mkF m 151 #[.val (.int p1), .val (.int p2), .val (.int p3), .val (.int p4), .val (.int ff0), .val (.int ff1), .val (.int ff2), .val (.ref b59), .val (.ref b63), .val (.ref r80), .val (.int (0 : Int32)), .val (.long (0 : Int64)), .second] [])) _
        refine XS.iload X80.here hx rfl (hb hby at_151) rfl ?_
        show Steps p.tables e below (T80.setTop (mkF m 153 #[.val (.int p1), .val (.int p2), .val (.int p3), .val (.int p4), .val (.int ff0), .val (.int ff1), .val (.int ff2), .val (.ref b59), .val (.ref b63), .val (.ref r80), .val (.int (0 : Int32)), .val (.long (0 : Int64)), .second] [(.int (0 : Int32))])) _
        refine XS.iconst X80.here hx rfl (hb hby at_153) ?_
        show Steps p.tables e below (T80.setTop (mkF m 154 #[.val (.int p1), .val (.int p2), .val (.int p3), .val (.int p4), .val (.int ff0), .val (.int ff1), .val (.int ff2), .val (.ref b59), .val (.ref b63), .val (.ref r80), .val (.int (0 : Int32)), .val (.long (0 : Int64)), .second] [(.int (1 : Int32)), (.int (0 : Int32))])) _
        refine XS.icmpYes X80.here hx rfl (pc0 := 154) (pc' := 165) rfl (hb hby at_154) rfl (flt hc154).2.2.2 (by decide) (by decide) ?_
        show Steps p.tables e below (T80.setTop (mkF m 165 #[.val (.int p1), .val (.int p2), .val (.int p3), .val (.int p4), .val (.int ff0), .val (.int ff1), .val (.int ff2), .val (.ref b59), .val (.ref b63), .val (.ref r80), .val (.int (0 : Int32)), .val (.long (0 : Int64)), .second] [])) _
        refine XS.iload X80.here hx rfl (hb hby at_165) rfl ?_
        show Steps p.tables e below (T80.setTop (mkF m 167 #[.val (.int p1), .val (.int p2), .val (.int p3), .val (.int p4), .val (.int ff0), .val (.int ff1), .val (.int ff2), .val (.ref b59), .val (.ref b63), .val (.ref r80), .val (.int (0 : Int32)), .val (.long (0 : Int64)), .second] [(.int (0 : Int32))])) _
        refine XS.iconst X80.here hx rfl (hb hby at_167) ?_
        show Steps p.tables e below (T80.setTop (mkF m 168 #[.val (.int p1), .val (.int p2), .val (.int p3), .val (.int p4), .val (.int ff0), .val (.int ff1), .val (.int ff2), .val (.ref b59), .val (.ref b63), .val (.ref r80), .val (.int (0 : Int32)), .val (.long (0 : Int64)), .second] [(.int (2 : Int32)), (.int (0 : Int32))])) _
        refine XS.icmpYes X80.here hx rfl (pc0 := 168) (pc' := 179) rfl (hb hby at_168) rfl (flt hc168).2.2.2 (by decide) (by decide) ?_
        show Steps p.tables e below (T80.setTop (mkF m 179 #[.val (.int p1), .val (.int p2), .val (.int p3), .val (.int p4), .val (.int ff0), .val (.int ff1), .val (.int ff2), .val (.ref b59), .val (.ref b63), .val (.ref r80), .val (.int (0 : Int32)), .val (.long (0 : Int64)), .second] [])) _
        refine XS.aload X80.here hx rfl (hb hby at_179) rfl rfl ?_
        show Steps p.tables e below (T80.setTop (mkF m 181 #[.val (.int p1), .val (.int p2), .val (.int p3), .val (.int p4), .val (.int ff0), .val (.int ff1), .val (.int ff2), .val (.ref b59), .val (.ref b63), .val (.ref r80), .val (.int (0 : Int32)), .val (.long (0 : Int64)), .second] [(.ref r80)])) _
        refine st81.trans ?_
        show Steps p.tables e below (T81.setTop (mkF m 184 #[.val (.int p1), .val (.int p2), .val (.int p3), .val (.int p4), .val (.int ff0), .val (.int ff1), .val (.int ff2), .val (.ref b59), .val (.ref b63), .val (.ref r80), .val (.int (0 : Int32)), .val (.long (0 : Int64)), .second] [(.int (own_cut li))])) _
        refine XS.iload X81.here hx rfl (hb hby at_184) rfl ?_
        show Steps p.tables e below (T81.setTop (mkF m 186 #[.val (.int p1), .val (.int p2), .val (.int p3), .val (.int p4), .val (.int ff0), .val (.int ff1), .val (.int ff2), .val (.ref b59), .val (.ref b63), .val (.ref r80), .val (.int (0 : Int32)), .val (.long (0 : Int64)), .second] [(.int (0 : Int32)), (.int (own_cut li))])) _
        refine XS.icmpNo X81.here hx rfl (hb hby at_186) rfl (teq hc186).2 ?_
        show Steps p.tables e below (T81.setTop (mkF m 189 #[.val (.int p1), .val (.int p2), .val (.int p3), .val (.int p4), .val (.int ff0), .val (.int ff1), .val (.int ff2), .val (.ref b59), .val (.ref b63), .val (.ref r80), .val (.int (0 : Int32)), .val (.long (0 : Int64)), .second] [])) _
        refine XS.aload X81.here hx rfl (hb hby at_189) rfl rfl ?_
        show Steps p.tables e below (T81.setTop (mkF m 191 #[.val (.int p1), .val (.int p2), .val (.int p3), .val (.int p4), .val (.int ff0), .val (.int ff1), .val (.int ff2), .val (.ref b59), .val (.ref b63), .val (.ref r80), .val (.int (0 : Int32)), .val (.long (0 : Int64)), .second] [(.ref r80)])) _
        refine st82.trans ?_
        show Steps p.tables e below (T82.setTop (mkF m 194 #[.val (.int p1), .val (.int p2), .val (.int p3), .val (.int p4), .val (.int ff0), .val (.int ff1), .val (.int ff2), .val (.ref b59), .val (.ref b63), .val (.ref r80), .val (.int (0 : Int32)), .val (.long (0 : Int64)), .second] [(.long (if (own_cut li) = (0 : Int32) then (0 : Int64) else (0 : Int64)))])) _
        refine XS.lload X82.here hx rfl (hb hby at_194) rfl ?_
        show Steps p.tables e below (T82.setTop (mkF m 196 #[.val (.int p1), .val (.int p2), .val (.int p3), .val (.int p4), .val (.int ff0), .val (.int ff1), .val (.int ff2), .val (.ref b59), .val (.ref b63), .val (.ref r80), .val (.int (0 : Int32)), .val (.long (0 : Int64)), .second] [(.long (0 : Int64)), (.long (if (own_cut li) = (0 : Int32) then (0 : Int64) else (0 : Int64)))])) _
        refine XS.lcmp X82.here hx rfl (hb hby at_196) rfl ?_
        show Steps p.tables e below (T82.setTop (mkF m 197 #[.val (.int p1), .val (.int p2), .val (.int p3), .val (.int p4), .val (.int ff0), .val (.int ff1), .val (.int ff2), .val (.ref b59), .val (.ref b63), .val (.ref r80), .val (.int (0 : Int32)), .val (.long (0 : Int64)), .second] [(.int (lcmpW (if (own_cut li) = (0 : Int32) then (0 : Int64) else (0 : Int64)) (0 : Int64)))])) _
        refine XS.ifNo X82.here hx rfl (hb hby at_197) rfl ((if0 _ _).trans (teq ((lw_eq _ _).mpr hc197)).2) ?_
        show Steps p.tables e below (T82.setTop (mkF m 200 #[.val (.int p1), .val (.int p2), .val (.int p3), .val (.int p4), .val (.int ff0), .val (.int ff1), .val (.int ff2), .val (.ref b59), .val (.ref b63), .val (.ref r80), .val (.int (0 : Int32)), .val (.long (0 : Int64)), .second] [])) _
        refine XS.iconst X82.here hx rfl (hb hby at_200) ?_
        show Steps p.tables e below (T82.setTop (mkF m 201 #[.val (.int p1), .val (.int p2), .val (.int p3), .val (.int p4), .val (.int ff0), .val (.int ff1), .val (.int ff2), .val (.ref b59), .val (.ref b63), .val (.ref r80), .val (.int (0 : Int32)), .val (.long (0 : Int64)), .second] [(.int (1 : Int32))])) _
        refine XS.goto X82.here hx rfl (pc0 := 201) (pc' := 205) rfl (hb hby at_201) (by decide) (by decide) ?_
        show Steps p.tables e below (T82.setTop (mkF m 205 #[.val (.int p1), .val (.int p2), .val (.int p3), .val (.int p4), .val (.int ff0), .val (.int ff1), .val (.int ff2), .val (.ref b59), .val (.ref b63), .val (.ref r80), .val (.int (0 : Int32)), .val (.long (0 : Int64)), .second] [(.int (1 : Int32))])) _
        exact retN X82 hx (t := .boolean) Bd.returns (by simp) (hb hby at_205) hr
      · show Q_0 Z p1 p2 p3 p4 h0 n0 _ T82.heap _
        rw [e82]
        exact ⟨rfl, N82⟩
  · obtain ⟨T83, h83, X83, e83, E83, A83, D83, -, st83⟩ := newO X66 hx hZ hown (hw _ (List.mem_of_getElem? (i := 6) rfl)) (hw _ (List.mem_of_getElem? (i := 7) rfl)) (hw _ (List.mem_of_getElem? (i := 8) rfl)) e66 (g := (mkF m 74 #[.val (.int p1), .val (.int p2), .val (.int p3), .val (.int p4), .val (.int ff0), .val (.int ff1), .val (.int ff2), .val (.ref b59), .val (.ref b63), .unset, .unset, .unset, .unset] [])) rfl (hb hby at_74) (by decide) (by decide)
    obtain ⟨b83, g83⟩ : ∃ z, z = h66.size := ⟨_, rfl⟩
    rw [← g83] at A83 D83 st83
    have g_b83 : n0 ≤ b83 := Nat.le_trans (Nat.le_trans Z0 Kh66.1) (Nat.le_of_eq g83.symm)
    have sz_b83 : h0.size ≤ b83 := Nat.le_trans Kh66.1 (Nat.le_of_eq g83.symm)
    have ne_b59_b83 : b59 ≠ b83 := Nat.ne_of_lt (Nat.lt_of_lt_of_le ((((V62.ext E63).other W64 ne_b59_b63).other W65 ne_b59_b63).other W66 ne_b59_b63).lt (Nat.le_of_eq g83.symm))
    have ne_b63_b83 : b63 ≠ b83 := Nat.ne_of_lt (Nat.lt_of_lt_of_le V66.lt (Nat.le_of_eq g83.symm))
    have Kh83 : Keep h0 h83 [] := Kh66.ext E83
    have F_docs_b83 : Fld Z h83 b83 "com/example/vrabec/vrabec/index/Postings" "docs" "[I" .null := D83 (Or.inr (hw _ (List.mem_of_getElem? (i := 23) rfl))) (ty := (.array .int)) (by decide)
    have F_frequencies_b83 : Fld Z h83 b83 "com/example/vrabec/vrabec/index/Postings" "frequencies" "[I" .null := D83 (Or.inr (hw _ (List.mem_of_getElem? (i := 25) rfl))) (ty := (.array .int)) (by decide)
    have F_occurrences_b83 : Fld Z h83 b83 "com/example/vrabec/vrabec/index/Postings" "occurrences" "[J" .null := D83 (Or.inr (hw _ (List.mem_of_getElem? (i := 27) rfl))) (ty := (.array .long)) (by decide)
    have F_size_b83 : Fld Z h83 b83 "com/example/vrabec/vrabec/index/Postings" "size" "I" (.int (0 : Int32)) := D83 (Or.inr (hw _ (List.mem_of_getElem? (i := 29) rfl))) (ty := .int) (by decide)
    obtain ⟨T84, h84, k84, X84, e84, E84, A84, st84⟩ := newP X83 hx hZ (hw _ (List.mem_of_getElem? (i := 5) rfl)) e83 (g := (mkF m 79 #[.val (.int p1), .val (.int p2), .val (.int p3), .val (.int p4), .val (.int ff0), .val (.int ff1), .val (.int ff2), .val (.ref b59), .val (.ref b63), .unset, .unset, .unset, .unset] [(.int (0 : Int32)), (.ref b83), (.ref b83)])) rfl (hb hby at_79) rfl (by decide) (cap := 0) (by decide) (by decide) (by decide) (by decide)
    obtain ⟨b84, g84⟩ : ∃ z, z = h83.size := ⟨_, rfl⟩
    rw [← g84] at A84 st84
    have g_b84 : n0 ≤ b84 := Nat.le_trans (Nat.le_trans Z0 Kh83.1) (Nat.le_of_eq g84.symm)
    have sz_b84 : h0.size ≤ b84 := Nat.le_trans Kh83.1 (Nat.le_of_eq g84.symm)
    have ne_b59_b84 : b59 ≠ b84 := Nat.ne_of_lt (Nat.lt_of_lt_of_le (((((V62.ext E63).other W64 ne_b59_b63).other W65 ne_b59_b63).other W66 ne_b59_b63).ext E83).lt (Nat.le_of_eq g84.symm))
    have ne_b63_b84 : b63 ≠ b84 := Nat.ne_of_lt (Nat.lt_of_lt_of_le (V66.ext E83).lt (Nat.le_of_eq g84.symm))
    have ne_b83_b84 : b83 ≠ b84 := Nat.ne_of_lt (Nat.lt_of_lt_of_le A83.lt (Nat.le_of_eq g84.symm))
    have Kh84 : Keep h0 h84 [] := Kh83.ext E84
    have V_b84 : Arv Z h84 b84 k84 .int (0 : Int32) [] (.int (0 : Int32)) := Arv.new A84 (by decide)
    obtain ⟨T85, h85, k85, X85, e85, E85, A85, st85⟩ := newP X84 hx hZ (hw _ (List.mem_of_getElem? (i := 5) rfl)) e84 (g := (mkF m 82 #[.val (.int p1), .val (.int p2), .val (.int p3), .val (.int p4), .val (.int ff0), .val (.int ff1), .val (.int ff2), .val (.ref b59), .val (.ref b63), .unset, .unset, .unset, .unset] [(.int (0 : Int32)), (.ref b84), (.ref b83), (.ref b83)])) rfl (hb hby at_82) rfl (by decide) (cap := 0) (by decide) (by decide) (by decide) (by decide)
    obtain ⟨b85, g85⟩ : ∃ z, z = h84.size := ⟨_, rfl⟩
    rw [← g85] at A85 st85
    have g_b85 : n0 ≤ b85 := Nat.le_trans (Nat.le_trans Z0 Kh84.1) (Nat.le_of_eq g85.symm)
    have sz_b85 : h0.size ≤ b85 := Nat.le_trans Kh84.1 (Nat.le_of_eq g85.symm)
    have ne_b59_b85 : b59 ≠ b85 := Nat.ne_of_lt (Nat.lt_of_lt_of_le ((((((V62.ext E63).other W64 ne_b59_b63).other W65 ne_b59_b63).other W66 ne_b59_b63).ext E83).ext E84).lt (Nat.le_of_eq g85.symm))
    have ne_b63_b85 : b63 ≠ b85 := Nat.ne_of_lt (Nat.lt_of_lt_of_le ((V66.ext E83).ext E84).lt (Nat.le_of_eq g85.symm))
    have ne_b83_b85 : b83 ≠ b85 := Nat.ne_of_lt (Nat.lt_of_lt_of_le (A83.ext E84).lt (Nat.le_of_eq g85.symm))
    have ne_b84_b85 : b84 ≠ b85 := Nat.ne_of_lt (Nat.lt_of_lt_of_le V_b84.lt (Nat.le_of_eq g85.symm))
    have Kh85 : Keep h0 h85 [] := Kh84.ext E85
    have V_b85 : Arv Z h85 b85 k85 .int (0 : Int32) [] (.int (0 : Int32)) := Arv.new A85 (by decide)
    have f86 := ((A83.ext E84).ext E85)
    have f87 := ((F_docs_b83.ext E84).ext E85)
    have f88 := ((F_frequencies_b83.ext E84).ext E85)
    have f89 := ((F_occurrences_b83.ext E84).ext E85)
    have f90 := ((F_size_b83.ext E84).ext E85)
    obtain ⟨_, _, ⟨T91, L91, c91_, n91_⟩, -, X91, ⟨Lc91, hQ91, l91, y91, z91⟩, st91⟩ := X85.specialBack hx (y := (⟨"com/example/vrabec/vrabec/index/Postings", "<init>", "([I[I)V"⟩ : MethodName)) rfl hown (mvT hZ (hw _ (List.mem_of_getElem? (i := 9) rfl))) (mvT hZ (hw _ (List.mem_of_getElem? (i := 10) rfl))) (mvT hZ (hw _ (List.mem_of_getElem? (i := 11) rfl))) (by decide) (backOf (W := 1) (rm_2a l Z a0 hw [] b83 b84 b85 k84 k85 [] h85 n0 (Nat.le_trans Z0 Kh85.1) f86 g_b83 f87 f88 f89 f90 (V_b84.ext E85) V_b85) hZ (hw _ (List.mem_of_getElem? (i := 11) rfl)) (hw _ (List.mem_of_getElem? (i := 8) rfl)) (by decide) (by decide)) (g := (mkF m 84 #[.val (.int p1), .val (.int p2), .val (.int p3), .val (.int p4), .val (.int ff0), .val (.int ff1), .val (.int ff2), .val (.ref b59), .val (.ref b63), .unset, .unset, .unset, .unset] [(.ref b85), (.ref b84), (.ref b83), (.ref b83)])) rfl (by rw [hml]; rfl) (Steps.refl _) (a := b83) (argsL := [(.ref b84), (.ref b85)]) (rest := [(.ref b83)]) (lenOf pd__28_5bI_5bI_29V rfl) rfl (by show 2 * 0 + _ ≤ _; exact Nat.le_of_eq rfl) (hb hby at_84) (fun _ _ => ⟨rfl, e85, (by decide : 5 + 1 ≤ _), (by decide : 10 + 0 ≤ _)⟩)
    dsimp only [Pt.U, Pt.locs, Pt.cells, Pt.slots] at X91 l91 y91 z91 st91 hQ91
    subst l91 y91 z91
    obtain ⟨rfl, Nq91, K91, Ee91, Fd91, Ff91, Fs91, oc91, kl91, go91, zo91, Fo91, Vo91⟩ := hQ91
    have N91 := Fr.app N66 Nq91
    have Kh91 : Keep h0 T91.heap [] := Kh85.trans K91 (allS (Or.inr sz_b83) all0)
    have g_oc91 := go91
    have sz_oc91 := Nat.le_trans Kh85.1 zo91
    have hc140 : ¬ ((0 : Int32) < (0 : Int32)) := by decide
    have hc154 : ¬ ((1 : Int32) < (0 : Int32)) := by decide
    have hc168 : ¬ ((2 : Int32) < (0 : Int32)) := by decide
    obtain ⟨cq92, kq92, q92a, q92b, q92c⟩ := isOf hZ rfl Ee91
    obtain ⟨_, _, ⟨T92, L92, c92_, n92_⟩, -, X92, ⟨Lc92, hQ92, l92, y92, z92⟩, st92⟩ := X91.virtualBack hx (y := (⟨"com/example/vrabec/vrabec/index/Postings", "size", "()I"⟩ : MethodName)) (z := (⟨"com/example/vrabec/vrabec/index/Postings", "size", "()I"⟩ : MethodName)) hown (mvT hZ (hw _ (List.mem_of_getElem? (i := 46) rfl))) (mvT hZ (hw _ (List.mem_of_getElem? (i := 47) rfl))) (notFace_of_selects (args := #[]) (mvT hZ (hw _ (List.mem_of_getElem? (i := 49) rfl)))) (mvT hZ (hw _ (List.mem_of_getElem? (i := 49) rfl))) (mvT hZ (hw _ (List.mem_of_getElem? (i := 48) rfl))) (by decide) (backOf (W := 0) (rm_10 l Z a0 hw [] b83 (0 : Int32) T91.heap n0 (Nat.le_trans Z0 Kh91.1) Fs91) hZ (hw _ (List.mem_of_getElem? (i := 50) rfl)) (hw _ (List.mem_of_getElem? (i := 8) rfl)) (by decide) (by decide)) q92a q92c (g := (mkF m 181 #[.val (.int p1), .val (.int p2), .val (.int p3), .val (.int p4), .val (.int ff0), .val (.int ff1), .val (.int ff2), .val (.ref b59), .val (.ref b63), .val (.ref b83), .val (.int (0 : Int32)), .val (.long (0 : Int64)), .second] [(.ref b83)])) rfl (by rw [hml]; rfl) (Steps.refl _) (argsL := []) (rest := []) (lenOf pd__28_29I rfl) rfl (by show 2 * 0 + _ ≤ _; exact Nat.le_of_eq rfl) (hb hby at_181) (fun _ _ => ⟨rfl, rfl, (by decide : 6 + 0 ≤ _), (by decide : 10 + 0 ≤ _)⟩)
    dsimp only [Pt.U, Pt.locs, Pt.cells, Pt.slots] at X92 l92 y92 z92 st92 hQ92
    subst l92 y92 z92
    obtain ⟨rfl, Nq92, e92⟩ := hQ92
    have N92 := Fr.app N91 Nq92
    have hc186 : (0 : Int32) = (0 : Int32) := rfl
    obtain ⟨cq93, kq93, q93a, q93b, q93c⟩ := isOf hZ e92 Ee91
    obtain ⟨_, _, ⟨T93, L93, c93_, n93_⟩, -, X93, ⟨Lc93, hQ93, l93, y93, z93⟩, st93⟩ := X92.virtualBack hx (y := (⟨"com/example/vrabec/vrabec/index/Postings", "occurrences", "()J"⟩ : MethodName)) (z := (⟨"com/example/vrabec/vrabec/index/Postings", "occurrences", "()J"⟩ : MethodName)) hown (mvT hZ (hw _ (List.mem_of_getElem? (i := 51) rfl))) (mvT hZ (hw _ (List.mem_of_getElem? (i := 52) rfl))) (notFace_of_selects (args := #[]) (mvT hZ (hw _ (List.mem_of_getElem? (i := 54) rfl)))) (mvT hZ (hw _ (List.mem_of_getElem? (i := 54) rfl))) (mvT hZ (hw _ (List.mem_of_getElem? (i := 53) rfl))) (by decide) (backOf (W := 0) (rm_11 l Z a0 hw [] b83 (0 : Int32) (0 : Int64) oc91 kl91 (0 : Int32) [] T91.heap n0 (Nat.le_trans Z0 Kh91.1) Fs91 Fo91 Vo91 (fun q_ => absurd rfl q_)) hZ (hw _ (List.mem_of_getElem? (i := 55) rfl)) (hw _ (List.mem_of_getElem? (i := 8) rfl)) (by decide) (by decide)) q93a q93c (g := (mkF m 191 #[.val (.int p1), .val (.int p2), .val (.int p3), .val (.int p4), .val (.int ff0), .val (.int ff1), .val (.int ff2), .val (.ref b59), .val (.ref b63), .val (.ref b83), .val (.int (0 : Int32)), .val (.long (0 : Int64)), .second] [(.ref b83)])) rfl (by rw [hml]; rfl) (Steps.refl _) (argsL := []) (rest := []) (lenOf pd__28_29J rfl) rfl (by show 2 * 0 + _ ≤ _; exact Nat.le_of_eq rfl) (hb hby at_191) (fun _ _ => ⟨rfl, e92, (by decide : 6 + 0 ≤ _), (by decide : 10 + 0 ≤ _)⟩)
    dsimp only [Pt.U, Pt.locs, Pt.cells, Pt.slots] at X93 l93 y93 z93 st93 hQ93
    subst l93 y93 z93
    obtain ⟨rfl, Nq93, e93⟩ := hQ93
    have N93 := Fr.app N92 Nq93
    have hc197 : (if (0 : Int32) = (0 : Int32) then (0 : Int64) else (0 : Int64)) = (0 : Int64) := rfl
    obtain ⟨fs, hr, hrun, hended, hW, hsame⟩ := X93.leave (v := some (.int (1 : Int32))) (fun h => by rw [Bd.returns] at h; cases h)
    refine ⟨_, _, pre0 _ ?_, hrun, hended, _, _, rfl, ?_, ⟨_, rfl⟩, hW, hsame.mono (by decide) (by decide)⟩
    · show Steps p.tables e below (s₁.setTop (mkF m 0 #[.val (.int p1), .val (.int p2), .val (.int p3), .val (.int p4), .unset, .unset, .unset, .unset, .unset, .unset, .unset, .unset, .unset] [])) _
      refine XS.iconst X0.here hx rfl (hb hby at_0) ?_
      show Steps p.tables e below (s₁.setTop (mkF m 1 #[.val (.int p1), .val (.int p2), .val (.int p3), .val (.int p4), .unset, .unset, .unset, .unset, .unset, .unset, .unset, .unset, .unset] [(.int (1 : Int32))])) _
      refine XS.iloadN X0.here hx rfl (hb hby at_1) rfl ?_
      show Steps p.tables e below (s₁.setTop (mkF m 2 #[.val (.int p1), .val (.int p2), .val (.int p3), .val (.int p4), .unset, .unset, .unset, .unset, .unset, .unset, .unset, .unset, .unset] [(.int p2), (.int (1 : Int32))])) _
      refine X0.ldcInt hx hown (mvT hZ (hw _ (List.mem_of_getElem? (i := 0) rfl))) (g := (mkF m 2 #[.val (.int p1), .val (.int p2), .val (.int p3), .val (.int p4), .unset, .unset, .unset, .unset, .unset, .unset, .unset, .unset, .unset] [(.int p2), (.int (1 : Int32))])) rfl (hb hby at_2) _ ?_
      show Steps p.tables e below (s₁.setTop (mkF m 4 #[.val (.int p1), .val (.int p2), .val (.int p3), .val (.int p4), .unset, .unset, .unset, .unset, .unset, .unset, .unset, .unset, .unset] [(.int (2147483647 : Int32)), (.int p2), (.int (1 : Int32))])) _
      refine XS.iand X0.here hx rfl (hb hby at_4) rfl ?_
      show Steps p.tables e below (s₁.setTop (mkF m 5 #[.val (.int p1), .val (.int p2), .val (.int p3), .val (.int p4), .unset, .unset, .unset, .unset, .unset, .unset, .unset, .unset, .unset] [(.int (p2 &&& (2147483647 : Int32))), (.int (1 : Int32))])) _
      refine st56 _ ?_
      show Steps p.tables e below (T56.setTop (mkF m 8 #[.val (.int p1), .val (.int p2), .val (.int p3), .val (.int p4), .unset, .unset, .unset, .unset, .unset, .unset, .unset, .unset, .unset] [(.int (if (1 : Int32) < (p2 &&& (2147483647 : Int32)) then (p2 &&& (2147483647 : Int32)) else (1 : Int32)))])) _
      refine XS.istore X56.here hx rfl (hb hby at_8) rfl (l' := #[.val (.int p1), .val (.int p2), .val (.int p3), .val (.int p4), .val (.int (if (1 : Int32) < (p2 &&& (2147483647 : Int32)) then (p2 &&& (2147483647 : Int32)) else (1 : Int32))), .unset, .unset, .unset, .unset, .unset, .unset, .unset, .unset]) rfl ?_
      show Steps p.tables e below (T56.setTop (mkF m 10 #[.val (.int p1), .val (.int p2), .val (.int p3), .val (.int p4), .val (.int (if (1 : Int32) < (p2 &&& (2147483647 : Int32)) then (p2 &&& (2147483647 : Int32)) else (1 : Int32))), .unset, .unset, .unset, .unset, .unset, .unset, .unset, .unset] [])) _
      rw [← e_ff0]
      show Steps p.tables e below (T56.setTop (mkF m 10 #[.val (.int p1), .val (.int p2), .val (.int p3), .val (.int p4), .val (.int ff0), .unset, .unset, .unset, .unset, .unset, .unset, .unset, .unset] [])) _
      refine XS.iconst X56.here hx rfl (hb hby at_10) ?_
      show Steps p.tables e below (T56.setTop (mkF m 11 #[.val (.int p1), .val (.int p2), .val (.int p3), .val (.int p4), .val (.int ff0), .unset, .unset, .unset, .unset, .unset, .unset, .unset, .unset] [(.int (1 : Int32))])) _
      refine XS.iloadN X56.here hx rfl (hb hby at_11) rfl ?_
      show Steps p.tables e below (T56.setTop (mkF m 12 #[.val (.int p1), .val (.int p2), .val (.int p3), .val (.int p4), .val (.int ff0), .unset, .unset, .unset, .unset, .unset, .unset, .unset, .unset] [(.int p3), (.int (1 : Int32))])) _
      refine X56.ldcInt hx hown (mvT hZ (hw _ (List.mem_of_getElem? (i := 0) rfl))) (g := (mkF m 12 #[.val (.int p1), .val (.int p2), .val (.int p3), .val (.int p4), .val (.int ff0), .unset, .unset, .unset, .unset, .unset, .unset, .unset, .unset] [(.int p3), (.int (1 : Int32))])) rfl (hb hby at_12) _ ?_
      show Steps p.tables e below (T56.setTop (mkF m 14 #[.val (.int p1), .val (.int p2), .val (.int p3), .val (.int p4), .val (.int ff0), .unset, .unset, .unset, .unset, .unset, .unset, .unset, .unset] [(.int (2147483647 : Int32)), (.int p3), (.int (1 : Int32))])) _
      refine XS.iand X56.here hx rfl (hb hby at_14) rfl ?_
      show Steps p.tables e below (T56.setTop (mkF m 15 #[.val (.int p1), .val (.int p2), .val (.int p3), .val (.int p4), .val (.int ff0), .unset, .unset, .unset, .unset, .unset, .unset, .unset, .unset] [(.int (p3 &&& (2147483647 : Int32))), (.int (1 : Int32))])) _
      refine st57 _ ?_
      show Steps p.tables e below (T57.setTop (mkF m 18 #[.val (.int p1), .val (.int p2), .val (.int p3), .val (.int p4), .val (.int ff0), .unset, .unset, .unset, .unset, .unset, .unset, .unset, .unset] [(.int (if (1 : Int32) < (p3 &&& (2147483647 : Int32)) then (p3 &&& (2147483647 : Int32)) else (1 : Int32)))])) _
      refine XS.istore X57.here hx rfl (hb hby at_18) rfl (l' := #[.val (.int p1), .val (.int p2), .val (.int p3), .val (.int p4), .val (.int ff0), .val (.int (if (1 : Int32) < (p3 &&& (2147483647 : Int32)) then (p3 &&& (2147483647 : Int32)) else (1 : Int32))), .unset, .unset, .unset, .unset, .unset, .unset, .unset]) rfl ?_
      show Steps p.tables e below (T57.setTop (mkF m 20 #[.val (.int p1), .val (.int p2), .val (.int p3), .val (.int p4), .val (.int ff0), .val (.int (if (1 : Int32) < (p3 &&& (2147483647 : Int32)) then (p3 &&& (2147483647 : Int32)) else (1 : Int32))), .unset, .unset, .unset, .unset, .unset, .unset, .unset] [])) _
      rw [← e_ff1]
      show Steps p.tables e below (T57.setTop (mkF m 20 #[.val (.int p1), .val (.int p2), .val (.int p3), .val (.int p4), .val (.int ff0), .val (.int ff1), .unset, .unset, .unset, .unset, .unset, .unset, .unset] [])) _
      refine XS.iconst X57.here hx rfl (hb hby at_20) ?_
      show Steps p.tables e below (T57.setTop (mkF m 21 #[.val (.int p1), .val (.int p2), .val (.int p3), .val (.int p4), .val (.int ff0), .val (.int ff1), .unset, .unset, .unset, .unset, .unset, .unset, .unset] [(.int (1 : Int32))])) _
      refine XS.iloadN X57.here hx rfl (hb hby at_21) rfl ?_
      show Steps p.tables e below (T57.setTop (mkF m 22 #[.val (.int p1), .val (.int p2), .val (.int p3), .val (.int p4), .val (.int ff0), .val (.int ff1), .unset, .unset, .unset, .unset, .unset, .unset, .unset] [(.int p4), (.int (1 : Int32))])) _
      refine X57.ldcInt hx hown (mvT hZ (hw _ (List.mem_of_getElem? (i := 0) rfl))) (g := (mkF m 22 #[.val (.int p1), .val (.int p2), .val (.int p3), .val (.int p4), .val (.int ff0), .val (.int ff1), .unset, .unset, .unset, .unset, .unset, .unset, .unset] [(.int p4), (.int (1 : Int32))])) rfl (hb hby at_22) _ ?_
      show Steps p.tables e below (T57.setTop (mkF m 24 #[.val (.int p1), .val (.int p2), .val (.int p3), .val (.int p4), .val (.int ff0), .val (.int ff1), .unset, .unset, .unset, .unset, .unset, .unset, .unset] [(.int (2147483647 : Int32)), (.int p4), (.int (1 : Int32))])) _
      refine XS.iand X57.here hx rfl (hb hby at_24) rfl ?_
      show Steps p.tables e below (T57.setTop (mkF m 25 #[.val (.int p1), .val (.int p2), .val (.int p3), .val (.int p4), .val (.int ff0), .val (.int ff1), .unset, .unset, .unset, .unset, .unset, .unset, .unset] [(.int (p4 &&& (2147483647 : Int32))), (.int (1 : Int32))])) _
      refine st58 _ ?_
      show Steps p.tables e below (T58.setTop (mkF m 28 #[.val (.int p1), .val (.int p2), .val (.int p3), .val (.int p4), .val (.int ff0), .val (.int ff1), .unset, .unset, .unset, .unset, .unset, .unset, .unset] [(.int (if (1 : Int32) < (p4 &&& (2147483647 : Int32)) then (p4 &&& (2147483647 : Int32)) else (1 : Int32)))])) _
      refine XS.istore X58.here hx rfl (hb hby at_28) rfl (l' := #[.val (.int p1), .val (.int p2), .val (.int p3), .val (.int p4), .val (.int ff0), .val (.int ff1), .val (.int (if (1 : Int32) < (p4 &&& (2147483647 : Int32)) then (p4 &&& (2147483647 : Int32)) else (1 : Int32))), .unset, .unset, .unset, .unset, .unset, .unset]) rfl ?_
      show Steps p.tables e below (T58.setTop (mkF m 30 #[.val (.int p1), .val (.int p2), .val (.int p3), .val (.int p4), .val (.int ff0), .val (.int ff1), .val (.int (if (1 : Int32) < (p4 &&& (2147483647 : Int32)) then (p4 &&& (2147483647 : Int32)) else (1 : Int32))), .unset, .unset, .unset, .unset, .unset, .unset] [])) _
      rw [← e_ff2]
      show Steps p.tables e below (T58.setTop (mkF m 30 #[.val (.int p1), .val (.int p2), .val (.int p3), .val (.int p4), .val (.int ff0), .val (.int ff1), .val (.int ff2), .unset, .unset, .unset, .unset, .unset, .unset] [])) _
      refine XS.iconst X58.here hx rfl (hb hby at_30) ?_
      show Steps p.tables e below (T58.setTop (mkF m 31 #[.val (.int p1), .val (.int p2), .val (.int p3), .val (.int p4), .val (.int ff0), .val (.int ff1), .val (.int ff2), .unset, .unset, .unset, .unset, .unset, .unset] [(.int (3 : Int32))])) _
      refine st59 _ ?_
      show Steps p.tables e below (T59.setTop (mkF m 33 #[.val (.int p1), .val (.int p2), .val (.int p3), .val (.int p4), .val (.int ff0), .val (.int ff1), .val (.int ff2), .unset, .unset, .unset, .unset, .unset, .unset] [(.ref b59)])) _
      refine XS.dup X59.here hx rfl (hb hby at_33) rfl rfl ?_
      show Steps p.tables e below (T59.setTop (mkF m 34 #[.val (.int p1), .val (.int p2), .val (.int p3), .val (.int p4), .val (.int ff0), .val (.int ff1), .val (.int ff2), .unset, .unset, .unset, .unset, .unset, .unset] [(.ref b59), (.ref b59)])) _
      refine XS.iconst X59.here hx rfl (hb hby at_34) ?_
      show Steps p.tables e below (T59.setTop (mkF m 35 #[.val (.int p1), .val (.int p2), .val (.int p3), .val (.int p4), .val (.int ff0), .val (.int ff1), .val (.int ff2), .unset, .unset, .unset, .unset, .unset, .unset] [(.int (0 : Int32)), (.ref b59), (.ref b59)])) _
      refine XS.iconst X59.here hx rfl (hb hby at_35) ?_
      show Steps p.tables e below (T59.setTop (mkF m 36 #[.val (.int p1), .val (.int p2), .val (.int p3), .val (.int p4), .val (.int ff0), .val (.int ff1), .val (.int ff2), .unset, .unset, .unset, .unset, .unset, .unset] [(.int (0 : Int32)), (.int (0 : Int32)), (.ref b59), (.ref b59)])) _
      refine st60 _ ?_
      show Steps p.tables e below (T60.setTop (mkF m 37 #[.val (.int p1), .val (.int p2), .val (.int p3), .val (.int p4), .val (.int ff0), .val (.int ff1), .val (.int ff2), .unset, .unset, .unset, .unset, .unset, .unset] [(.ref b59)])) _
      refine XS.dup X60.here hx rfl (hb hby at_37) rfl rfl ?_
      show Steps p.tables e below (T60.setTop (mkF m 38 #[.val (.int p1), .val (.int p2), .val (.int p3), .val (.int p4), .val (.int ff0), .val (.int ff1), .val (.int ff2), .unset, .unset, .unset, .unset, .unset, .unset] [(.ref b59), (.ref b59)])) _
      refine XS.iconst X60.here hx rfl (hb hby at_38) ?_
      show Steps p.tables e below (T60.setTop (mkF m 39 #[.val (.int p1), .val (.int p2), .val (.int p3), .val (.int p4), .val (.int ff0), .val (.int ff1), .val (.int ff2), .unset, .unset, .unset, .unset, .unset, .unset] [(.int (1 : Int32)), (.ref b59), (.ref b59)])) _
      refine XS.iconst X60.here hx rfl (hb hby at_39) ?_
      show Steps p.tables e below (T60.setTop (mkF m 40 #[.val (.int p1), .val (.int p2), .val (.int p3), .val (.int p4), .val (.int ff0), .val (.int ff1), .val (.int ff2), .unset, .unset, .unset, .unset, .unset, .unset] [(.int (1 : Int32)), (.int (1 : Int32)), (.ref b59), (.ref b59)])) _
      refine st61 _ ?_
      show Steps p.tables e below (T61.setTop (mkF m 41 #[.val (.int p1), .val (.int p2), .val (.int p3), .val (.int p4), .val (.int ff0), .val (.int ff1), .val (.int ff2), .unset, .unset, .unset, .unset, .unset, .unset] [(.ref b59)])) _
      refine XS.dup X61.here hx rfl (hb hby at_41) rfl rfl ?_
      show Steps p.tables e below (T61.setTop (mkF m 42 #[.val (.int p1), .val (.int p2), .val (.int p3), .val (.int p4), .val (.int ff0), .val (.int ff1), .val (.int ff2), .unset, .unset, .unset, .unset, .unset, .unset] [(.ref b59), (.ref b59)])) _
      refine XS.iconst X61.here hx rfl (hb hby at_42) ?_
      show Steps p.tables e below (T61.setTop (mkF m 43 #[.val (.int p1), .val (.int p2), .val (.int p3), .val (.int p4), .val (.int ff0), .val (.int ff1), .val (.int ff2), .unset, .unset, .unset, .unset, .unset, .unset] [(.int (2 : Int32)), (.ref b59), (.ref b59)])) _
      refine XS.iconst X61.here hx rfl (hb hby at_43) ?_
      show Steps p.tables e below (T61.setTop (mkF m 44 #[.val (.int p1), .val (.int p2), .val (.int p3), .val (.int p4), .val (.int ff0), .val (.int ff1), .val (.int ff2), .unset, .unset, .unset, .unset, .unset, .unset] [(.int (2 : Int32)), (.int (2 : Int32)), (.ref b59), (.ref b59)])) _
      refine st62 _ ?_
      show Steps p.tables e below (T62.setTop (mkF m 45 #[.val (.int p1), .val (.int p2), .val (.int p3), .val (.int p4), .val (.int ff0), .val (.int ff1), .val (.int ff2), .unset, .unset, .unset, .unset, .unset, .unset] [(.ref b59)])) _
      refine XS.astore X62.here hx rfl (hb hby at_45) rfl rfl (l' := #[.val (.int p1), .val (.int p2), .val (.int p3), .val (.int p4), .val (.int ff0), .val (.int ff1), .val (.int ff2), .val (.ref b59), .unset, .unset, .unset, .unset, .unset]) rfl ?_
      show Steps p.tables e below (T62.setTop (mkF m 47 #[.val (.int p1), .val (.int p2), .val (.int p3), .val (.int p4), .val (.int ff0), .val (.int ff1), .val (.int ff2), .val (.ref b59), .unset, .unset, .unset, .unset, .unset] [])) _
      refine XS.iconst X62.here hx rfl (hb hby at_47) ?_
      show Steps p.tables e below (T62.setTop (mkF m 48 #[.val (.int p1), .val (.int p2), .val (.int p3), .val (.int p4), .val (.int ff0), .val (.int ff1), .val (.int ff2), .val (.ref b59), .unset, .unset, .unset, .unset, .unset] [(.int (3 : Int32))])) _
      refine st63 _ ?_
      show Steps p.tables e below (T63.setTop (mkF m 50 #[.val (.int p1), .val (.int p2), .val (.int p3), .val (.int p4), .val (.int ff0), .val (.int ff1), .val (.int ff2), .val (.ref b59), .unset, .unset, .unset, .unset, .unset] [(.ref b63)])) _
      refine XS.dup X63.here hx rfl (hb hby at_50) rfl rfl ?_
      show Steps p.tables e below (T63.setTop (mkF m 51 #[.val (.int p1), .val (.int p2), .val (.int p3), .val (.int p4), .val (.int ff0), .val (.int ff1), .val (.int ff2), .val (.ref b59), .unset, .unset, .unset, .unset, .unset] [(.ref b63), (.ref b63)])) _
      refine XS.iconst X63.here hx rfl (hb hby at_51) ?_
      show Steps p.tables e below (T63.setTop (mkF m 52 #[.val (.int p1), .val (.int p2), .val (.int p3), .val (.int p4), .val (.int ff0), .val (.int ff1), .val (.int ff2), .val (.ref b59), .unset, .unset, .unset, .unset, .unset] [(.int (0 : Int32)), (.ref b63), (.ref b63)])) _
      refine XS.iload X63.here hx rfl (hb hby at_52) rfl ?_
      show Steps p.tables e below (T63.setTop (mkF m 54 #[.val (.int p1), .val (.int p2), .val (.int p3), .val (.int p4), .val (.int ff0), .val (.int ff1), .val (.int ff2), .val (.ref b59), .unset, .unset, .unset, .unset, .unset] [(.int ff0), (.int (0 : Int32)), (.ref b63), (.ref b63)])) _
      refine st64 _ ?_
      show Steps p.tables e below (T64.setTop (mkF m 55 #[.val (.int p1), .val (.int p2), .val (.int p3), .val (.int p4), .val (.int ff0), .val (.int ff1), .val (.int ff2), .val (.ref b59), .unset, .unset, .unset, .unset, .unset] [(.ref b63)])) _
      refine XS.dup X64.here hx rfl (hb hby at_55) rfl rfl ?_
      show Steps p.tables e below (T64.setTop (mkF m 56 #[.val (.int p1), .val (.int p2), .val (.int p3), .val (.int p4), .val (.int ff0), .val (.int ff1), .val (.int ff2), .val (.ref b59), .unset, .unset, .unset, .unset, .unset] [(.ref b63), (.ref b63)])) _
      refine XS.iconst X64.here hx rfl (hb hby at_56) ?_
      show Steps p.tables e below (T64.setTop (mkF m 57 #[.val (.int p1), .val (.int p2), .val (.int p3), .val (.int p4), .val (.int ff0), .val (.int ff1), .val (.int ff2), .val (.ref b59), .unset, .unset, .unset, .unset, .unset] [(.int (1 : Int32)), (.ref b63), (.ref b63)])) _
      refine XS.iload X64.here hx rfl (hb hby at_57) rfl ?_
      show Steps p.tables e below (T64.setTop (mkF m 59 #[.val (.int p1), .val (.int p2), .val (.int p3), .val (.int p4), .val (.int ff0), .val (.int ff1), .val (.int ff2), .val (.ref b59), .unset, .unset, .unset, .unset, .unset] [(.int ff1), (.int (1 : Int32)), (.ref b63), (.ref b63)])) _
      refine st65 _ ?_
      show Steps p.tables e below (T65.setTop (mkF m 60 #[.val (.int p1), .val (.int p2), .val (.int p3), .val (.int p4), .val (.int ff0), .val (.int ff1), .val (.int ff2), .val (.ref b59), .unset, .unset, .unset, .unset, .unset] [(.ref b63)])) _
      refine XS.dup X65.here hx rfl (hb hby at_60) rfl rfl ?_
      show Steps p.tables e below (T65.setTop (mkF m 61 #[.val (.int p1), .val (.int p2), .val (.int p3), .val (.int p4), .val (.int ff0), .val (.int ff1), .val (.int ff2), .val (.ref b59), .unset, .unset, .unset, .unset, .unset] [(.ref b63), (.ref b63)])) _
      refine XS.iconst X65.here hx rfl (hb hby at_61) ?_
      show Steps p.tables e below (T65.setTop (mkF m 62 #[.val (.int p1), .val (.int p2), .val (.int p3), .val (.int p4), .val (.int ff0), .val (.int ff1), .val (.int ff2), .val (.ref b59), .unset, .unset, .unset, .unset, .unset] [(.int (2 : Int32)), (.ref b63), (.ref b63)])) _
      refine XS.iload X65.here hx rfl (hb hby at_62) rfl ?_
      show Steps p.tables e below (T65.setTop (mkF m 64 #[.val (.int p1), .val (.int p2), .val (.int p3), .val (.int p4), .val (.int ff0), .val (.int ff1), .val (.int ff2), .val (.ref b59), .unset, .unset, .unset, .unset, .unset] [(.int ff2), (.int (2 : Int32)), (.ref b63), (.ref b63)])) _
      refine st66 _ ?_
      show Steps p.tables e below (T66.setTop (mkF m 65 #[.val (.int p1), .val (.int p2), .val (.int p3), .val (.int p4), .val (.int ff0), .val (.int ff1), .val (.int ff2), .val (.ref b59), .unset, .unset, .unset, .unset, .unset] [(.ref b63)])) _
      refine XS.astore X66.here hx rfl (hb hby at_65) rfl rfl (l' := #[.val (.int p1), .val (.int p2), .val (.int p3), .val (.int p4), .val (.int ff0), .val (.int ff1), .val (.int ff2), .val (.ref b59), .val (.ref b63), .unset, .unset, .unset, .unset]) rfl ?_
      show Steps p.tables e below (T66.setTop (mkF m 67 #[.val (.int p1), .val (.int p2), .val (.int p3), .val (.int p4), .val (.int ff0), .val (.int ff1), .val (.int ff2), .val (.ref b59), .val (.ref b63), .unset, .unset, .unset, .unset] [])) _
      refine XS.iloadN X66.here hx rfl (hb hby at_67) rfl ?_
      show Steps p.tables e below (T66.setTop (mkF m 68 #[.val (.int p1), .val (.int p2), .val (.int p3), .val (.int p4), .val (.int ff0), .val (.int ff1), .val (.int ff2), .val (.ref b59), .val (.ref b63), .unset, .unset, .unset, .unset] [(.int p1)])) _
      refine XS.bipush X66.here hx rfl (hb hby at_68) ?_
      show Steps p.tables e below (T66.setTop (mkF m 70 #[.val (.int p1), .val (.int p2), .val (.int p3), .val (.int p4), .val (.int ff0), .val (.int ff1), .val (.int ff2), .val (.ref b59), .val (.ref b63), .unset, .unset, .unset, .unset] [(.int (8 : Int32)), (.int p1)])) _
      refine XS.iand X66.here hx rfl (hb hby at_70) rfl ?_
      show Steps p.tables e below (T66.setTop (mkF m 71 #[.val (.int p1), .val (.int p2), .val (.int p3), .val (.int p4), .val (.int ff0), .val (.int ff1), .val (.int ff2), .val (.ref b59), .val (.ref b63), .unset, .unset, .unset, .unset] [(.int (p1 &&& (8 : Int32)))])) _
      refine XS.ifNo X66.here hx rfl (hb hby at_71) rfl ((if0 _ _).trans (feq hc71).1) ?_
      show Steps p.tables e below (T66.setTop (mkF m 74 #[.val (.int p1), .val (.int p2), .val (.int p3), .val (.int p4), .val (.int ff0), .val (.int ff1), .val (.int ff2), .val (.ref b59), .val (.ref b63), .unset, .unset, .unset, .unset] [])) _
      refine st83 _ ?_
      show Steps p.tables e below (T83.setTop (mkF m 77 #[.val (.int p1), .val (.int p2), .val (.int p3), .val (.int p4), .val (.int ff0), .val (.int ff1), .val (.int ff2), .val (.ref b59), .val (.ref b63), .unset, .unset, .unset, .unset] [(.ref b83)])) _
      refine XS.dup X83.here hx rfl (hb hby at_77) rfl rfl ?_
      show Steps p.tables e below (T83.setTop (mkF m 78 #[.val (.int p1), .val (.int p2), .val (.int p3), .val (.int p4), .val (.int ff0), .val (.int ff1), .val (.int ff2), .val (.ref b59), .val (.ref b63), .unset, .unset, .unset, .unset] [(.ref b83), (.ref b83)])) _
      refine XS.iconst X83.here hx rfl (hb hby at_78) ?_
      show Steps p.tables e below (T83.setTop (mkF m 79 #[.val (.int p1), .val (.int p2), .val (.int p3), .val (.int p4), .val (.int ff0), .val (.int ff1), .val (.int ff2), .val (.ref b59), .val (.ref b63), .unset, .unset, .unset, .unset] [(.int (0 : Int32)), (.ref b83), (.ref b83)])) _
      refine st84 _ ?_
      show Steps p.tables e below (T84.setTop (mkF m 81 #[.val (.int p1), .val (.int p2), .val (.int p3), .val (.int p4), .val (.int ff0), .val (.int ff1), .val (.int ff2), .val (.ref b59), .val (.ref b63), .unset, .unset, .unset, .unset] [(.ref b84), (.ref b83), (.ref b83)])) _
      refine XS.iconst X84.here hx rfl (hb hby at_81) ?_
      show Steps p.tables e below (T84.setTop (mkF m 82 #[.val (.int p1), .val (.int p2), .val (.int p3), .val (.int p4), .val (.int ff0), .val (.int ff1), .val (.int ff2), .val (.ref b59), .val (.ref b63), .unset, .unset, .unset, .unset] [(.int (0 : Int32)), (.ref b84), (.ref b83), (.ref b83)])) _
      refine st85 _ ?_
      show Steps p.tables e below (T85.setTop (mkF m 84 #[.val (.int p1), .val (.int p2), .val (.int p3), .val (.int p4), .val (.int ff0), .val (.int ff1), .val (.int ff2), .val (.ref b59), .val (.ref b63), .unset, .unset, .unset, .unset] [(.ref b85), (.ref b84), (.ref b83), (.ref b83)])) _
      refine st91.trans ?_
      show Steps p.tables e below (T91.setTop (mkF m 87 #[.val (.int p1), .val (.int p2), .val (.int p3), .val (.int p4), .val (.int ff0), .val (.int ff1), .val (.int ff2), .val (.ref b59), .val (.ref b63), .unset, .unset, .unset, .unset] [(.ref b83)])) _
      refine XS.astore X91.here hx rfl (hb hby at_87) rfl rfl (l' := #[.val (.int p1), .val (.int p2), .val (.int p3), .val (.int p4), .val (.int ff0), .val (.int ff1), .val (.int ff2), .val (.ref b59), .val (.ref b63), .val (.ref b83), .unset, .unset, .unset]) rfl ?_
      show Steps p.tables e below (T91.setTop (mkF m 89 #[.val (.int p1), .val (.int p2), .val (.int p3), .val (.int p4), .val (.int ff0), .val (.int ff1), .val (.int ff2), .val (.ref b59), .val (.ref b63), .val (.ref b83), .unset, .unset, .unset] [])) _
      refine XS.iconst X91.here hx rfl (hb hby at_89) ?_
      show Steps p.tables e below (T91.setTop (mkF m 90 #[.val (.int p1), .val (.int p2), .val (.int p3), .val (.int p4), .val (.int ff0), .val (.int ff1), .val (.int ff2), .val (.ref b59), .val (.ref b63), .val (.ref b83), .unset, .unset, .unset] [(.int (0 : Int32))])) _
      refine XS.istore X91.here hx rfl (hb hby at_90) rfl (l' := #[.val (.int p1), .val (.int p2), .val (.int p3), .val (.int p4), .val (.int ff0), .val (.int ff1), .val (.int ff2), .val (.ref b59), .val (.ref b63), .val (.ref b83), .val (.int (0 : Int32)), .unset, .unset]) rfl ?_
      show Steps p.tables e below (T91.setTop (mkF m 92 #[.val (.int p1), .val (.int p2), .val (.int p3), .val (.int p4), .val (.int ff0), .val (.int ff1), .val (.int ff2), .val (.ref b59), .val (.ref b63), .val (.ref b83), .val (.int (0 : Int32)), .unset, .unset] [])) _
      refine XS.goto X91.here hx rfl (pc0 := 92) (pc' := 135) rfl (hb hby at_92) (by decide) (by decide) ?_
      show Steps p.tables e below (T91.setTop (mkF m 135 #[.val (.int p1), .val (.int p2), .val (.int p3), .val (.int p4), .val (.int ff0), .val (.int ff1), .val (.int ff2), .val (.ref b59), .val (.ref b63), .val (.ref b83), .val (.int (0 : Int32)), .unset, .unset] [])) _
      refine XS.lconst X91.here hx rfl (hb hby at_135) ?_
      show Steps p.tables e below (T91.setTop (mkF m 136 #[.val (.int p1), .val (.int p2), .val (.int p3), .val (.int p4), .val (.int ff0), .val (.int ff1), .val (.int ff2), .val (.ref b59), .val (.ref b63), .val (.ref b83), .val (.int (0 : Int32)), .unset, .unset] [(.long (0 : Int64))])) _
      refine XS.lstore X91.here hx rfl (hb hby at_136) rfl (l' := #[.val (.int p1), .val (.int p2), .val (.int p3), .val (.int p4), .val (.int ff0), .val (.int ff1), .val (.int ff2), .val (.ref b59), .val (.ref b63), .val (.ref b83), .val (.int (0 : Int32)), .val (.long (0 : Int64)), .second]) rfl ?_
      show Steps p.tables e below (T91.setTop (mkF m 138 #[.val (.int p1), .val (.int p2), .val (.int p3), .val (.int p4), .val (.int ff0), .val (.int ff1), .val (.int ff2), .val (.ref b59), .val (.ref b63), .val (.ref b83), .val (.int (0 : Int32)), .val (.long (0 : Int64)), .second] [])) _
      refine XS.iload X91.here hx rfl (hb hby at_138) rfl ?_
      show Steps p.tables e below (T91.setTop (mkF m 140 #[.val (.int p1), .val (.int p2), .val (.int p3), .val (.int p4), .val (.int ff0), .val (.int ff1), .val (.int ff2), .val (.ref b59), .val (.ref b63), .val (.ref b83), .val (.int (0 : Int32)), .val (.long (0 : Int64)), .second] [(.int (0 : Int32))])) _
      refine XS.ifYes X91.here hx rfl (pc0 := 140) (pc' := 151) rfl (hb hby at_140) rfl ((if0 _ _).trans (flt hc140).2.2.2) (by decide) (by decide) ?_
      show Steps p.tables e below (T91.setTop (mkF m 151 #[.val (.int p1), .val (.int p2), .val (.int p3), .val (.int p4), .val (.int ff0), .val (.int ff1), .val (.int ff2), .val (.ref b59), .val (.ref b63), .val (.ref b83), .val (.int (0 : Int32)), .val (.long (0 : Int64)), .second] [])) _
      refine XS.iload X91.here hx rfl (hb hby at_151) rfl ?_
      show Steps p.tables e below (T91.setTop (mkF m 153 #[.val (.int p1), .val (.int p2), .val (.int p3), .val (.int p4), .val (.int ff0), .val (.int ff1), .val (.int ff2), .val (.ref b59), .val (.ref b63), .val (.ref b83), .val (.int (0 : Int32)), .val (.long (0 : Int64)), .second] [(.int (0 : Int32))])) _
      refine XS.iconst X91.here hx rfl (hb hby at_153) ?_
      show Steps p.tables e below (T91.setTop (mkF m 154 #[.val (.int p1), .val (.int p2), .val (.int p3), .val (.int p4), .val (.int ff0), .val (.int ff1), .val (.int ff2), .val (.ref b59), .val (.ref b63), .val (.ref b83), .val (.int (0 : Int32)), .val (.long (0 : Int64)), .second] [(.int (1 : Int32)), (.int (0 : Int32))])) _
      refine XS.icmpYes X91.here hx rfl (pc0 := 154) (pc' := 165) rfl (hb hby at_154) rfl (flt hc154).2.2.2 (by decide) (by decide) ?_
      show Steps p.tables e below (T91.setTop (mkF m 165 #[.val (.int p1), .val (.int p2), .val (.int p3), .val (.int p4), .val (.int ff0), .val (.int ff1), .val (.int ff2), .val (.ref b59), .val (.ref b63), .val (.ref b83), .val (.int (0 : Int32)), .val (.long (0 : Int64)), .second] [])) _
      refine XS.iload X91.here hx rfl (hb hby at_165) rfl ?_
      show Steps p.tables e below (T91.setTop (mkF m 167 #[.val (.int p1), .val (.int p2), .val (.int p3), .val (.int p4), .val (.int ff0), .val (.int ff1), .val (.int ff2), .val (.ref b59), .val (.ref b63), .val (.ref b83), .val (.int (0 : Int32)), .val (.long (0 : Int64)), .second] [(.int (0 : Int32))])) _
      refine XS.iconst X91.here hx rfl (hb hby at_167) ?_
      show Steps p.tables e below (T91.setTop (mkF m 168 #[.val (.int p1), .val (.int p2), .val (.int p3), .val (.int p4), .val (.int ff0), .val (.int ff1), .val (.int ff2), .val (.ref b59), .val (.ref b63), .val (.ref b83), .val (.int (0 : Int32)), .val (.long (0 : Int64)), .second] [(.int (2 : Int32)), (.int (0 : Int32))])) _
      refine XS.icmpYes X91.here hx rfl (pc0 := 168) (pc' := 179) rfl (hb hby at_168) rfl (flt hc168).2.2.2 (by decide) (by decide) ?_
      show Steps p.tables e below (T91.setTop (mkF m 179 #[.val (.int p1), .val (.int p2), .val (.int p3), .val (.int p4), .val (.int ff0), .val (.int ff1), .val (.int ff2), .val (.ref b59), .val (.ref b63), .val (.ref b83), .val (.int (0 : Int32)), .val (.long (0 : Int64)), .second] [])) _
      refine XS.aload X91.here hx rfl (hb hby at_179) rfl rfl ?_
      show Steps p.tables e below (T91.setTop (mkF m 181 #[.val (.int p1), .val (.int p2), .val (.int p3), .val (.int p4), .val (.int ff0), .val (.int ff1), .val (.int ff2), .val (.ref b59), .val (.ref b63), .val (.ref b83), .val (.int (0 : Int32)), .val (.long (0 : Int64)), .second] [(.ref b83)])) _
      refine st92.trans ?_
      show Steps p.tables e below (T92.setTop (mkF m 184 #[.val (.int p1), .val (.int p2), .val (.int p3), .val (.int p4), .val (.int ff0), .val (.int ff1), .val (.int ff2), .val (.ref b59), .val (.ref b63), .val (.ref b83), .val (.int (0 : Int32)), .val (.long (0 : Int64)), .second] [(.int (0 : Int32))])) _
      refine XS.iload X92.here hx rfl (hb hby at_184) rfl ?_
      show Steps p.tables e below (T92.setTop (mkF m 186 #[.val (.int p1), .val (.int p2), .val (.int p3), .val (.int p4), .val (.int ff0), .val (.int ff1), .val (.int ff2), .val (.ref b59), .val (.ref b63), .val (.ref b83), .val (.int (0 : Int32)), .val (.long (0 : Int64)), .second] [(.int (0 : Int32)), (.int (0 : Int32))])) _
      refine XS.icmpNo X92.here hx rfl (hb hby at_186) rfl (teq hc186).2 ?_
      show Steps p.tables e below (T92.setTop (mkF m 189 #[.val (.int p1), .val (.int p2), .val (.int p3), .val (.int p4), .val (.int ff0), .val (.int ff1), .val (.int ff2), .val (.ref b59), .val (.ref b63), .val (.ref b83), .val (.int (0 : Int32)), .val (.long (0 : Int64)), .second] [])) _
      refine XS.aload X92.here hx rfl (hb hby at_189) rfl rfl ?_
      show Steps p.tables e below (T92.setTop (mkF m 191 #[.val (.int p1), .val (.int p2), .val (.int p3), .val (.int p4), .val (.int ff0), .val (.int ff1), .val (.int ff2), .val (.ref b59), .val (.ref b63), .val (.ref b83), .val (.int (0 : Int32)), .val (.long (0 : Int64)), .second] [(.ref b83)])) _
      refine st93.trans ?_
      show Steps p.tables e below (T93.setTop (mkF m 194 #[.val (.int p1), .val (.int p2), .val (.int p3), .val (.int p4), .val (.int ff0), .val (.int ff1), .val (.int ff2), .val (.ref b59), .val (.ref b63), .val (.ref b83), .val (.int (0 : Int32)), .val (.long (0 : Int64)), .second] [(.long (if (0 : Int32) = (0 : Int32) then (0 : Int64) else (0 : Int64)))])) _
      refine XS.lload X93.here hx rfl (hb hby at_194) rfl ?_
      show Steps p.tables e below (T93.setTop (mkF m 196 #[.val (.int p1), .val (.int p2), .val (.int p3), .val (.int p4), .val (.int ff0), .val (.int ff1), .val (.int ff2), .val (.ref b59), .val (.ref b63), .val (.ref b83), .val (.int (0 : Int32)), .val (.long (0 : Int64)), .second] [(.long (0 : Int64)), (.long (if (0 : Int32) = (0 : Int32) then (0 : Int64) else (0 : Int64)))])) _
      refine XS.lcmp X93.here hx rfl (hb hby at_196) rfl ?_
      show Steps p.tables e below (T93.setTop (mkF m 197 #[.val (.int p1), .val (.int p2), .val (.int p3), .val (.int p4), .val (.int ff0), .val (.int ff1), .val (.int ff2), .val (.ref b59), .val (.ref b63), .val (.ref b83), .val (.int (0 : Int32)), .val (.long (0 : Int64)), .second] [(.int (lcmpW (if (0 : Int32) = (0 : Int32) then (0 : Int64) else (0 : Int64)) (0 : Int64)))])) _
      refine XS.ifNo X93.here hx rfl (hb hby at_197) rfl ((if0 _ _).trans (teq ((lw_eq _ _).mpr hc197)).2) ?_
      show Steps p.tables e below (T93.setTop (mkF m 200 #[.val (.int p1), .val (.int p2), .val (.int p3), .val (.int p4), .val (.int ff0), .val (.int ff1), .val (.int ff2), .val (.ref b59), .val (.ref b63), .val (.ref b83), .val (.int (0 : Int32)), .val (.long (0 : Int64)), .second] [])) _
      refine XS.iconst X93.here hx rfl (hb hby at_200) ?_
      show Steps p.tables e below (T93.setTop (mkF m 201 #[.val (.int p1), .val (.int p2), .val (.int p3), .val (.int p4), .val (.int ff0), .val (.int ff1), .val (.int ff2), .val (.ref b59), .val (.ref b63), .val (.ref b83), .val (.int (0 : Int32)), .val (.long (0 : Int64)), .second] [(.int (1 : Int32))])) _
      refine XS.goto X93.here hx rfl (pc0 := 201) (pc' := 205) rfl (hb hby at_201) (by decide) (by decide) ?_
      show Steps p.tables e below (T93.setTop (mkF m 205 #[.val (.int p1), .val (.int p2), .val (.int p3), .val (.int p4), .val (.int ff0), .val (.int ff1), .val (.int ff2), .val (.ref b59), .val (.ref b63), .val (.ref b83), .val (.int (0 : Int32)), .val (.long (0 : Int64)), .second] [(.int (1 : Int32))])) _
      exact retN X93 hx (t := .boolean) Bd.returns (by simp) (hb hby at_205) hr
    · show Q_0 Z p1 p2 p3 p4 h0 n0 _ T93.heap _
      rw [e93]
      exact ⟨rfl, N93⟩
set_option maxRecDepth 65536 in
set_option maxHeartbeats 40000000 in
theorem comes_1 {Post : Tables → Env → Array Value → State → Outcome → State → Prop} (hpost : ∀ tb e args s v u, (limb_1_1.after args s (.returned v) u = true ∧ limb_1_2.after args s (.returned v) u = true ∧ True) → FrameEnd s (.returned v) u (Jvm.fieldLocs frame_1_writes args s ++ Jvm.arrayLocs frame_1_arrays args s ++ Jvm.staticLocs frame_1_statics s) 24 128 → Post tb e args s (.returned v) u) :
    ArmFor flags0 classFile x code maxLocals ret World_1 tables_1 room_1 Calls_1 rest_1 Pre_1 Post := by
  intro l hfl _ _ p e ha hc hk s m args below hf hA hF happ hP
  obtain ⟨hcalls, hrest, hpre⟩ := hP
  obtain ⟨-, -, -, hnamed, -, -, -, hat⟩ := (Spec.applies_iff hf).mp happ
  obtain ⟨hg, hn⟩ := and_e (Cond.before_iff.mp (show (Jvm.Cond.and given_1 narrow_1).before args s = true from hpre))
  obtain ⟨g94, g95⟩ := and_e hg
  obtain ⟨g96, g97⟩ := and_e g95
  obtain ⟨g98, g99⟩ := and_e g97
  obtain ⟨g100, g101⟩ := and_e g99
  obtain ⟨w0, w1, w2, w3, rfl⟩ : ∃ w0 w1 w2 w3 : Value, args = #[w0, w1, w2, w3] := by
    have hs : args.size = 4 := by simpa [Cond.value, given_1] using g94
    obtain ⟨L⟩ := args
    match L, hs with
    | [w0, w1, w2, w3], _ => exact ⟨w0, w1, w2, w3, rfl⟩
  have hw := fun d (hd : d ∈ tables_1) => atoms_spec (ws := Jvm.Cond.code x code maxLocals ret :: tables_1) hat d (List.mem_cons_of_mem _ hd)
  have hfit : Fit s := fun {y c} hc i hi => by
    obtain ⟨ha, rfl⟩ := Array.getElem?_eq_some_iff.mp hc
    have q := List.all_eq_true.mp ((Array.all_eq_true_iff_forall_mem.mp hF) _ (Array.getElem_mem ha)) i (List.mem_range.mpr hi)
    simpa [Array.getElem?_eq_getElem hi] using q
  obtain ⟨i0, ei0⟩ := is_v g96
  obtain rfl : w0 = (.int i0) := Option.some.inj ei0
  obtain ⟨i1, ei1⟩ := is_v g98
  obtain rfl : w1 = (.int i1) := Option.some.inj ei1
  obtain ⟨i2, ei2⟩ := is_v g100
  obtain rfl : w2 = (.int i2) := Option.some.inj ei2
  obtain ⟨i3, ei3⟩ := is_v g101
  obtain rfl : w3 = (.int i3) := Option.some.inj ei3
  obtain ⟨n, o, h1, h2, h3, _, L, rfl, ⟨rfl, N⟩, hq⟩ := rm_0 l s _ hw tables_1 i0 i1 i2 i3 s.heap s.heap.size (Nat.le_refl _)  p e ha hc hk s m _ below hf ((Spec.applies_iff_loose hf).mp happ).1 ⟨rfl, State.Warmed39.refl s, rfl⟩ trivial
  refine ⟨n, _, h1, h2, h3, hpost _ _ _ _ _ _ ⟨Cond.after_iff.mpr rfl, Cond.after_iff.mpr (eq_i res_at (Term.int_eval (1)) rfl), trivial⟩ ⟨hq.1, hq.2.1, (hq.2.2.sift fun y hy => Or.inr (N y hy)).mono (by decide) (by decide)⟩⟩
theorem main_1_1 : Claimed_1_1 := comes_1 fun _ _ _ _ _ _ h hF => ⟨h.1, hF⟩
theorem main_1_2 : Claimed_1_2 := comes_1 fun _ _ _ _ _ _ h hF => ⟨h.2.1, hF⟩
end Jvm.Pilot.@@N@@
namespace Jvm.Pilot.@@N@@
open Jvm Jvm.ClassFile Sem Op Lib Jvm.Free Jvm.Stand Jvm.Pilot.@@N@@.Jvm.D
/-! MADE BY PROGRAM (witnessworld.py) out of the Statement's table words and the real class files: 13 classes; the members and pool entries that the words name. The judged class is class 1, her method 1. -/
namespace start1
open Jvm.ClassFile
def u (s : String) : CpInfo := .utf8 (stringToUtf16 s)
/-- a pool by its gaps: so many unusable entries, then the entry; so many at the end -/
def gap : Nat → List CpInfo → List CpInfo
  | 0, r => r
  | n + 1, r => .unusable :: gap n r
def poolList (es : List (Nat × CpInfo)) (last : Nat) : List CpInfo := es.foldr (fun e r => gap e.1 (e.2 :: r)) (gap last [])
def pool (es : List (Nat × CpInfo)) (last : Nat) : Array CpInfo := ⟨poolList es last⟩
def fileOf (pool : Array CpInfo) (this : Nat) (attrs : Array Attribute := #[]) (ms : Array MethodInfo := #[]) (fl : Nat := 33) (sup : Nat := 0) (ifs : Array Nat := #[]) (fds : Array FieldInfo := #[]) : ClassFile where
  minorVersion := 0
  majorVersion := 65
  constantPool := pool
  accessFlags := fl
  thisClass := this
  superClass := sup
  interfaces := ifs
  fields := fds
  methods := ms
  attributes := attrs
def plain (name : String) (sup : Option ClassId) : Class where
  name := name
  kind := .ordinary
  loader := none
  accessFlags := 33
  super := sup
  interfaces := #[]
  cf := none
  fields := #[]
  methods := #[]
  instanceTypes := #[]
  staticTypes := #[]
  resolved := #[]
  callSites := []
  init := .initialized
  statics := none
  mirror := none

def pool0 : Array CpInfo := pool [(5, u "<init>"), (0, u "()V"), (1, .class_ 10), (1, u "java/lang/Object")] 113

def k0c0 : Code := { maxStack := 0, maxLocals := 1, code := object_method_1_code, exceptionTable := #[], attributes := #[] }
def k0m0 : Method := { name := "<init>", desc := "()V", sig := { parameters := [], returnType := none }, accessFlags := 1, code := some k0c0 }
/-- java/lang/Object -/
def k0 : Class := { plain "java/lang/Object" none with
  accessFlags := 33
  interfaces := #[]
  cf := some (fileOf pool0 8 #[] #[{ accessFlags := 1, nameIndex := 5, descriptorIndex := 6, attributes := #[] }] 33 0 #[] #[])
  fields := #[]
  methods := #[k0m0]
  instanceTypes := #[]
  staticTypes := #[]
  resolved := Array.replicate 124 none
  statics := none }

def pool1 : Array CpInfo := pool [(2, .class_ 4), (1, u "java/lang/Object"), (0, u "<init>"), (0, u "()V"), (0, .integer 2147483647), (0, .methodref 9 10), (0, .class_ 11), (0, .nameAndType 12 13), (0, u "java/lang/Math"), (0, u "max"), (0, u "(II)I"), (0, .class_ 15), (0, u "com/example/vrabec/vrabec/index/Postings"), (0, .methodref 14 17), (0, .nameAndType 5 18), (0, u "([I[I)V"), (0, .methodref 9 20), (0, .nameAndType 21 13), (0, u "min"), (0, .methodref 14 23), (0, .nameAndType 24 25), (0, u "before"), (0, u "(I)Lcom/example/vrabec/vrabec/index/Postings;"), (0, .methodref 14 27), (0, .nameAndType 28 29), (0, u "size"), (0, u "()I"), (0, .methodref 14 31), (0, .nameAndType 32 33), (0, u "occurrences"), (0, u "()J"), (0, .class_ 35), (0, u "com/example/vrabec/vrabec/index/PostingsOccurrencesPinLaw"), (2, u "law"), (0, u "(IIII)Z")] 5

def k1m0 : Method := { name := "<init>", desc := "()V", sig := { parameters := [], returnType := none }, accessFlags := 1, code := none }
def k1c1 : Code := { maxStack := 4, maxLocals := 13, code := code, exceptionTable := #[], attributes := #[] }
def k1m1 : Method := { name := "law", desc := "(IIII)Z", sig := { parameters := [.int, .int, .int, .int], returnType := some .boolean }, accessFlags := 9, code := some k1c1 }
/-- com/example/vrabec/vrabec/index/PostingsOccurrencesPinLaw -/
def k1 : Class := { plain "com/example/vrabec/vrabec/index/PostingsOccurrencesPinLaw" (some 0) with
  accessFlags := 49
  interfaces := #[]
  cf := some (fileOf pool1 34 #[] #[{ accessFlags := 1, nameIndex := 5, descriptorIndex := 6, attributes := #[] }, { accessFlags := 9, nameIndex := 38, descriptorIndex := 39, attributes := #[] }] 49 2 #[] #[])
  fields := #[]
  methods := #[k1m0, k1m1]
  instanceTypes := #[]
  staticTypes := #[]
  resolved := Array.replicate 45 none
  statics := none }

def pool2 : Array CpInfo := pool [(1, .class_ 2), (0, u "java/lang/Math"), (1, .class_ 6), (1, u "java/lang/Object"), (0, u "<init>"), (0, u "()V"), (89, .class_ 100), (1, u "java/lang/Math$RandomNumberGeneratorHolder"), (71, u "negativeZeroFloatBits"), (0, u "J"), (2, u "negativeZeroDoubleBits"), (21, u "max"), (2, u "min"), (43, u "$assertionsDisabled"), (0, u "Z"), (88, u "(II)I"), (2, u "twoToTheDoubleScaleDown"), (0, u "D"), (4, u "twoToTheDoubleScaleUp"), (9, u "E"), (3, u "PI"), (2, u "TAU"), (2, u "DEGREES_TO_RADIANS"), (0, u "RADIANS_TO_DEGREES")] 94

def k2m0 : Method := { name := "<init>", desc := "()V", sig := { parameters := [], returnType := none }, accessFlags := 2, code := none }
def k2c1 : Code := { maxStack := 2, maxLocals := 2, code := jdk_29_method_65_code, exceptionTable := #[], attributes := #[] }
def k2m1 : Method := { name := "max", desc := "(II)I", sig := { parameters := [.int, .int], returnType := some .int }, accessFlags := 9, code := some k2c1 }
def k2c2 : Code := { maxStack := 2, maxLocals := 2, code := jdk_29_method_69_code, exceptionTable := #[], attributes := #[] }
def k2m2 : Method := { name := "min", desc := "(II)I", sig := { parameters := [.int, .int], returnType := some .int }, accessFlags := 9, code := some k2c2 }
/-- java/lang/Math -/
def k2 : Class := { plain "java/lang/Math" (some 0) with
  accessFlags := 49
  interfaces := #[]
  cf := some (fileOf pool2 1 #[.nestMembers #[98]] #[{ accessFlags := 2, nameIndex := 7, descriptorIndex := 8, attributes := #[] }, { accessFlags := 9, nameIndex := 198, descriptorIndex := 335, attributes := #[] }, { accessFlags := 9, nameIndex := 201, descriptorIndex := 335, attributes := #[] }] 49 4 #[] #[{ accessFlags := 25, nameIndex := 354, descriptorIndex := 339, attributes := #[] }, { accessFlags := 25, nameIndex := 358, descriptorIndex := 339, attributes := #[] }, { accessFlags := 25, nameIndex := 361, descriptorIndex := 339, attributes := #[] }, { accessFlags := 26, nameIndex := 364, descriptorIndex := 339, attributes := #[] }, { accessFlags := 26, nameIndex := 365, descriptorIndex := 339, attributes := #[] }, { accessFlags := 26, nameIndex := 172, descriptorIndex := 173, attributes := #[] }, { accessFlags := 26, nameIndex := 176, descriptorIndex := 173, attributes := #[] }, { accessFlags := 8, nameIndex := 344, descriptorIndex := 339, attributes := #[] }, { accessFlags := 8, nameIndex := 338, descriptorIndex := 339, attributes := #[] }, { accessFlags := 4120, nameIndex := 245, descriptorIndex := 246, attributes := #[] }])
  fields := #[{ name := "E", type := .double, accessFlags := 25, slot := 0, constantValue := 0 }, { name := "PI", type := .double, accessFlags := 25, slot := 1, constantValue := 0 }, { name := "TAU", type := .double, accessFlags := 25, slot := 2, constantValue := 0 }, { name := "DEGREES_TO_RADIANS", type := .double, accessFlags := 26, slot := 3, constantValue := 0 }, { name := "RADIANS_TO_DEGREES", type := .double, accessFlags := 26, slot := 4, constantValue := 0 }, { name := "negativeZeroFloatBits", type := .long, accessFlags := 26, slot := 5, constantValue := 0 }, { name := "negativeZeroDoubleBits", type := .long, accessFlags := 26, slot := 6, constantValue := 0 }, { name := "twoToTheDoubleScaleUp", type := .double, accessFlags := 8, slot := 7, constantValue := 0 }, { name := "twoToTheDoubleScaleDown", type := .double, accessFlags := 8, slot := 8, constantValue := 0 }, { name := "$assertionsDisabled", type := .boolean, accessFlags := 4120, slot := 9, constantValue := 0 }]
  methods := #[k2m0, k2m1, k2m2]
  instanceTypes := #[]
  staticTypes := #[.double, .double, .double, .double, .double, .long, .long, .double, .double, .boolean]
  resolved := Array.replicate 460 none
  statics := none }

def pool3 : Array CpInfo := pool [(1, .methodref 2 3), (0, .class_ 4), (0, .nameAndType 5 6), (0, u "com/example/vrabec/vrabec/index/Postings"), (0, u "runningSums"), (0, u "([I)[J"), (0, .methodref 2 8), (0, .nameAndType 9 10), (0, u "<init>"), (0, u "([I[I[JI)V"), (0, .methodref 12 13), (0, .class_ 14), (0, .nameAndType 9 15), (0, u "java/lang/Object"), (0, u "()V"), (0, .fieldref 2 17), (0, .nameAndType 18 19), (0, u "docs"), (0, u "[I"), (0, .fieldref 2 21), (0, .nameAndType 22 19), (0, u "frequencies"), (0, .fieldref 2 24), (0, .nameAndType 25 26), (0, u "occurrences"), (0, u "[J"), (0, .fieldref 2 28), (0, .nameAndType 29 30), (0, u "size"), (0, u "I"), (4, .methodref 36 37), (0, .class_ 38), (0, .nameAndType 39 40), (0, u "java/util/Arrays"), (0, u "binarySearch"), (0, u "([IIII)I"), (2, u "([I[I)V"), (8, u "EMPTY"), (0, u "Lcom/example/vrabec/vrabec/index/Postings;"), (4, u "()I"), (0, u "()J"), (2, u "before"), (0, u "(I)Lcom/example/vrabec/vrabec/index/Postings;")] 6

def k3c0 : Code := { maxStack := 5, maxLocals := 3, code := prog_6_method_1_code, exceptionTable := #[], attributes := #[] }
def k3m0 : Method := { name := "<init>", desc := "([I[I)V", sig := { parameters := [(.array .int), (.array .int)], returnType := none }, accessFlags := 0, code := some k3c0 }
def k3c1 : Code := { maxStack := 2, maxLocals := 5, code := prog_6_method_2_code, exceptionTable := #[], attributes := #[] }
def k3m1 : Method := { name := "<init>", desc := "([I[I[JI)V", sig := { parameters := [(.array .int), (.array .int), (.array .long), .int], returnType := none }, accessFlags := 2, code := some k3c1 }
def k3c2 : Code := { maxStack := 4, maxLocals := 5, code := prog_6_method_3_code, exceptionTable := #[], attributes := #[] }
def k3m2 : Method := { name := "runningSums", desc := "([I)[J", sig := { parameters := [(.array .int)], returnType := some (.array .long) }, accessFlags := 10, code := some k3c2 }
def k3c3 : Code := { maxStack := 1, maxLocals := 1, code := prog_6_method_4_code, exceptionTable := #[], attributes := #[] }
def k3m3 : Method := { name := "size", desc := "()I", sig := { parameters := [], returnType := some .int }, accessFlags := 1, code := some k3c3 }
def k3c4 : Code := { maxStack := 3, maxLocals := 1, code := prog_6_method_5_code, exceptionTable := #[], attributes := #[] }
def k3m4 : Method := { name := "occurrences", desc := "()J", sig := { parameters := [], returnType := some .long }, accessFlags := 1, code := some k3c4 }
def k3c5 : Code := { maxStack := 6, maxLocals := 4, code := prog_6_method_8_code, exceptionTable := #[], attributes := #[] }
def k3m5 : Method := { name := "before", desc := "(I)Lcom/example/vrabec/vrabec/index/Postings;", sig := { parameters := [.int], returnType := some (.object "com/example/vrabec/vrabec/index/Postings") }, accessFlags := 0, code := some k3c5 }
/-- com/example/vrabec/vrabec/index/Postings -/
def k3 : Class := { plain "com/example/vrabec/vrabec/index/Postings" (some 0) with
  accessFlags := 33
  interfaces := #[]
  cf := some (fileOf pool3 2 #[] #[{ accessFlags := 0, nameIndex := 9, descriptorIndex := 43, attributes := #[] }, { accessFlags := 2, nameIndex := 9, descriptorIndex := 10, attributes := #[] }, { accessFlags := 10, nameIndex := 5, descriptorIndex := 6, attributes := #[] }, { accessFlags := 1, nameIndex := 29, descriptorIndex := 58, attributes := #[] }, { accessFlags := 1, nameIndex := 25, descriptorIndex := 59, attributes := #[] }, { accessFlags := 0, nameIndex := 62, descriptorIndex := 63, attributes := #[] }] 33 12 #[] #[{ accessFlags := 24, nameIndex := 52, descriptorIndex := 53, attributes := #[] }, { accessFlags := 18, nameIndex := 18, descriptorIndex := 19, attributes := #[] }, { accessFlags := 18, nameIndex := 22, descriptorIndex := 19, attributes := #[] }, { accessFlags := 18, nameIndex := 25, descriptorIndex := 26, attributes := #[] }, { accessFlags := 18, nameIndex := 29, descriptorIndex := 30, attributes := #[] }])
  fields := #[{ name := "EMPTY", type := (.object "com/example/vrabec/vrabec/index/Postings"), accessFlags := 24, slot := 0, constantValue := 0 }, { name := "docs", type := (.array .int), accessFlags := 18, slot := 0, constantValue := 0 }, { name := "frequencies", type := (.array .int), accessFlags := 18, slot := 1, constantValue := 0 }, { name := "occurrences", type := (.array .long), accessFlags := 18, slot := 2, constantValue := 0 }, { name := "size", type := .int, accessFlags := 18, slot := 3, constantValue := 0 }]
  methods := #[k3m0, k3m1, k3m2, k3m3, k3m4, k3m5]
  instanceTypes := #[(.array .int), (.array .int), (.array .long), .int]
  staticTypes := #[(.object "com/example/vrabec/vrabec/index/Postings")]
  resolved := Array.replicate 70 none
  statics := none }

def pool4 : Array CpInfo := pool [(2, .class_ 4), (1, u "java/lang/Object"), (0, u "<init>"), (0, u "()V"), (6, .methodref 14 15), (0, .class_ 16), (0, .nameAndType 17 18), (0, u "java/util/Arrays"), (0, u "rangeCheck"), (0, u "(III)V"), (55, .class_ 76), (1, u "java/util/Arrays$NaturalOrder"), (36, .class_ 115), (1, u "java/util/Arrays$LegacyMergeSort"), (1, u "Z"), (89, u "binarySearch0"), (1, .methodref 14 210), (0, .nameAndType 207 211), (0, u "([IIII)I"), (163, .class_ 376), (0, u "java/util/Arrays$ArrayList"), (68, u "$assertionsDisabled"), (269, u "MIN_ARRAY_SORT_GRAN"), (0, u "I"), (2, u "INSERTIONSORT_THRESHOLD"), (74, u "binarySearch"), (180, .class_ 976), (0, u "java/util/Arrays$ArrayItr")] 52

def k4m0 : Method := { name := "<init>", desc := "()V", sig := { parameters := [], returnType := none }, accessFlags := 2, code := none }
def k4c1 : Code := { maxStack := 4, maxLocals := 3, code := jdk_65_method_30_code, exceptionTable := #[], attributes := #[] }
def k4m1 : Method := { name := "rangeCheck", desc := "(III)V", sig := { parameters := [.int, .int, .int], returnType := none }, accessFlags := 8, code := some k4c1 }
def k4c2 : Code := { maxStack := 4, maxLocals := 4, code := jdk_65_method_58_code, exceptionTable := #[], attributes := #[] }
def k4m2 : Method := { name := "binarySearch", desc := "([IIII)I", sig := { parameters := [(.array .int), .int, .int, .int], returnType := some .int }, accessFlags := 9, code := some k4c2 }
def k4c3 : Code := { maxStack := 2, maxLocals := 8, code := jdk_65_method_59_code, exceptionTable := #[], attributes := #[] }
def k4m3 : Method := { name := "binarySearch0", desc := "([IIII)I", sig := { parameters := [(.array .int), .int, .int, .int], returnType := some .int }, accessFlags := 10, code := some k4c3 }
/-- java/util/Arrays -/
def k4 : Class := { plain "java/util/Arrays" (some 0) with
  accessFlags := 49
  interfaces := #[]
  cf := some (fileOf pool4 14 #[.nestMembers #[975, 375, 113, 74]] #[{ accessFlags := 2, nameIndex := 5, descriptorIndex := 6, attributes := #[] }, { accessFlags := 8, nameIndex := 17, descriptorIndex := 18, attributes := #[] }, { accessFlags := 9, nameIndex := 794, descriptorIndex := 211, attributes := #[] }, { accessFlags := 10, nameIndex := 207, descriptorIndex := 211, attributes := #[] }] 49 2 #[] #[{ accessFlags := 26, nameIndex := 715, descriptorIndex := 716, attributes := #[] }, { accessFlags := 26, nameIndex := 719, descriptorIndex := 716, attributes := #[] }, { accessFlags := 4120, nameIndex := 445, descriptorIndex := 117, attributes := #[] }])
  fields := #[{ name := "MIN_ARRAY_SORT_GRAN", type := .int, accessFlags := 26, slot := 0, constantValue := 0 }, { name := "INSERTIONSORT_THRESHOLD", type := .int, accessFlags := 26, slot := 1, constantValue := 0 }, { name := "$assertionsDisabled", type := .boolean, accessFlags := 4120, slot := 2, constantValue := 0 }]
  methods := #[k4m0, k4m1, k4m2, k4m3]
  instanceTypes := #[]
  staticTypes := #[.int, .int, .boolean]
  resolved := Array.replicate 1029 none
  statics := none }

def pool5 : Array CpInfo := pool [(1, u "java/lang/Cloneable"), (0, .class_ 1), (0, u "java/lang/Object"), (0, .class_ 3)] 3

/-- java/lang/Cloneable -/
def k5 : Class := { plain "java/lang/Cloneable" (some 0) with
  accessFlags := 1537
  interfaces := #[]
  cf := some (fileOf pool5 2 #[] #[] 1537 4 #[] #[])
  fields := #[]
  methods := #[]
  instanceTypes := #[]
  staticTypes := #[]
  resolved := Array.replicate 8 none
  statics := none }

def pool6 : Array CpInfo := pool [(1, u "java/io/Serializable"), (0, .class_ 1), (0, u "java/lang/Object"), (0, .class_ 3)] 3

/-- java/io/Serializable -/
def k6 : Class := { plain "java/io/Serializable" (some 0) with
  accessFlags := 1537
  interfaces := #[]
  cf := some (fileOf pool6 2 #[] #[] 1537 4 #[] #[])
  fields := #[]
  methods := #[]
  instanceTypes := #[]
  staticTypes := #[]
  resolved := Array.replicate 8 none
  statics := none }

/-- the primitive byte -/
def k7 : Class := { plain "byte" none with kind := .primitive 'B', accessFlags := 0x411 }
/-- [B -/
def k8 : Class := { plain "[B" (some 0) with kind := .array 7 .byte, interfaces := #[5, 6], accessFlags := 1041 }

/-- the primitive int -/
def k9 : Class := { plain "int" none with kind := .primitive 'I', accessFlags := 0x411 }
/-- [I -/
def k10 : Class := { plain "[I" (some 0) with kind := .array 9 .int, interfaces := #[5, 6], accessFlags := 1041 }

/-- the primitive long -/
def k11 : Class := { plain "long" none with kind := .primitive 'J', accessFlags := 0x411 }
/-- [J -/
def k12 : Class := { plain "[J" (some 0) with kind := .array 11 .long, interfaces := #[5, 6], accessFlags := 1041 }

def heap : Heap := #[]
def classes : Array Class := #[k0, k1, k2, k3, k4, k5, k6, k7, k8, k9, k10, k11, k12]
def interned : List (Array UInt16 × Addr) := []
def slotsUsed : Nat := 0
def theMethod : MethodId := ⟨1, 1⟩
def args0 : Array Value := #[.int 5, .int 6, .int 7, .int 8]
def aboutOver (below : List Frame) : State where
  vm := { classes := classes, interned := interned.toArray }
  heap := heap
  slotsUsed := slotsUsed
  threads := #[{ frames := .invoking theMethod args0 :: below }]
def below0 : List Frame := [.native { method := ⟨0, 0⟩, args := #[] }]
def about1 : State := aboutOver below0
def p0 : Program := .bare "" "" ""
def e0 : Env := launch0.env 0 0 0
theorem w_frames : about1.frames = Frame.invoking theMethod args0 :: below0 := rfl
set_option maxRecDepth 65536 in
theorem w_args : argsFit about1.vm theMethod args0 = true := by decide +kernel
set_option maxRecDepth 65536 in
theorem w_heap : heapFits about1 = true := by decide +kernel
set_option maxRecDepth 65536 in
theorem w_runnable : about1.curStatus? = some .runnable := by decide +kernel
set_option maxRecDepth 65536 in
theorem w_alone : about1.alone = true := by decide +kernel
set_option maxRecDepth 65536 in
theorem w_named : about1.methodNamed? x = some theMethod := by decide +kernel
set_option maxRecDepth 65536 in
theorem w_hears : about1.hears theMethod below0 = true := by decide +kernel
set_option maxRecDepth 65536 in
theorem w_ripe : about1.ripe theMethod args0 below0 = true := by decide +kernel
theorem w_running : about1.status = .running := rfl
set_option maxRecDepth 65536 in
theorem w_room : about1.hasRoom e0.platform room_1 = true :=
  launch0.hasRoom_least _ room_1 (by decide +kernel) (by decide +kernel) (by decide +kernel) (by decide +kernel) (by decide +kernel) (by decide +kernel)
theorem allAtoms_all (ts : List Jvm.Cond) (a : Array Jvm.Value) (st : Jvm.State) : (allAtoms ts).before a st = ts.all (fun c => c.before a st) := by
  induction ts with
  | nil => rfl
  | cons c t ih =>
    show (Jvm.Cond.and c (allAtoms t)).before a st = _
    rw [Jvm.Cond.before_and, ih, List.all_cons]
def words1 : List Jvm.Cond := Jvm.Cond.code x code maxLocals ret :: tables_1
/-- a 'code' word, met by the world's own term for the bytes: nothing is compared byte by byte -/
theorem code_word {y : MethodName} {bytes : ByteArray} {mx : Nat} {rt : Option FieldType} {a : Array Value} {s : State} {m : MethodId} {meth : Method} {c : Code} (h1 : s.methodNamed? y = some m) (h2 : s.vm.method? m = some meth) (h3 : meth.code = some c) (h4 : c.code = bytes)
    (h5 : (c.maxLocals == mx && c.exceptionTable.isEmpty && decide (c.maxStack ≤ mostOperands) && decide (meth.sig.returnType = rt) && !meth.locks && decide (parseMethodDescriptor y.desc = some meth.sig)) = true) : (Jvm.Cond.code y bytes mx rt).before a s = true := by
  simp only [Bool.and_eq_true, beq_iff_eq, Bool.not_eq_true', decide_eq_true_eq] at h5
  obtain ⟨⟨⟨⟨⟨g1, g2⟩, g3⟩, g4⟩, g5⟩, g6⟩ := h5
  simp [Cond.before, Cond.holds, Cond.value, h1, h2, h3, h4, g1, g2, g3, g4, g5, g6]
def isCode : Jvm.Cond → Bool
  | .code _ _ _ _ => true
  | _ => false
theorem all_split {L : List Jvm.Cond} {P : Jvm.Cond → Bool} (h1 : L.all (fun c => isCode c || P c) = true) (h2 : ∀ c ∈ L.filter isCode, P c = true) : L.all P = true := by
  refine List.all_eq_true.mpr fun c hc => ?_
  have h := List.all_eq_true.mp h1 c hc
  rcases Bool.eq_false_or_eq_true (isCode c) with hi | hi
  · exact h2 c (List.mem_filter.mpr ⟨hc, hi⟩)
  · simpa [hi] using h
set_option maxRecDepth 65536 in
theorem w_c0 : (Jvm.Cond.code x code maxLocals ret).before args0 about1 = true := code_word (m := ⟨1, 1⟩) (meth := k1m1) (c := k1c1) (by decide +kernel) rfl rfl rfl (by decide +kernel)
set_option maxRecDepth 65536 in
theorem w_c1 : (Jvm.Cond.code ({ cls := "java/lang/Math", name := "max", desc := "(II)I" } : Jvm.MethodName) jdk_29_method_65_code (2 : Nat) (Option.some Jvm.ClassFile.FieldType.int)).before args0 about1 = true := code_word (m := ⟨2, 1⟩) (meth := k2m1) (c := k2c1) (by decide +kernel) rfl rfl rfl (by decide +kernel)
set_option maxRecDepth 65536 in
theorem w_c2 : (Jvm.Cond.code ({ cls := "com/example/vrabec/vrabec/index/Postings", name := "<init>", desc := "([I[I)V" } : Jvm.MethodName) prog_6_method_1_code (3 : Nat) (Option.none : Option Jvm.ClassFile.FieldType)).before args0 about1 = true := code_word (m := ⟨3, 0⟩) (meth := k3m0) (c := k3c0) (by decide +kernel) rfl rfl rfl (by decide +kernel)
set_option maxRecDepth 65536 in
theorem w_c3 : (Jvm.Cond.code ({ cls := "com/example/vrabec/vrabec/index/Postings", name := "runningSums", desc := "([I)[J" } : Jvm.MethodName) prog_6_method_3_code (5 : Nat) (Option.some (Jvm.ClassFile.FieldType.array Jvm.ClassFile.FieldType.long))).before args0 about1 = true := code_word (m := ⟨3, 2⟩) (meth := k3m2) (c := k3c2) (by decide +kernel) rfl rfl rfl (by decide +kernel)
set_option maxRecDepth 65536 in
theorem w_c4 : (Jvm.Cond.code ({ cls := "com/example/vrabec/vrabec/index/Postings", name := "<init>", desc := "([I[I[JI)V" } : Jvm.MethodName) prog_6_method_2_code (5 : Nat) (Option.none : Option Jvm.ClassFile.FieldType)).before args0 about1 = true := code_word (m := ⟨3, 1⟩) (meth := k3m1) (c := k3c1) (by decide +kernel) rfl rfl rfl (by decide +kernel)
set_option maxRecDepth 65536 in
theorem w_c5 : (Jvm.Cond.code ({ cls := "java/lang/Object", name := "<init>", desc := "()V" } : Jvm.MethodName) object_method_1_code (1 : Nat) (Option.none : Option Jvm.ClassFile.FieldType)).before args0 about1 = true := code_word (m := ⟨0, 0⟩) (meth := k0m0) (c := k0c0) (by decide +kernel) rfl rfl rfl (by decide +kernel)
set_option maxRecDepth 65536 in
theorem w_c6 : (Jvm.Cond.code ({ cls := "com/example/vrabec/vrabec/index/Postings", name := "before", desc := "(I)Lcom/example/vrabec/vrabec/index/Postings;" } : Jvm.MethodName) prog_6_method_8_code (4 : Nat) (Option.some (Jvm.ClassFile.FieldType.object "com/example/vrabec/vrabec/index/Postings"))).before args0 about1 = true := code_word (m := ⟨3, 5⟩) (meth := k3m5) (c := k3c5) (by decide +kernel) rfl rfl rfl (by decide +kernel)
set_option maxRecDepth 65536 in
theorem w_c7 : (Jvm.Cond.code ({ cls := "java/util/Arrays", name := "binarySearch", desc := "([IIII)I" } : Jvm.MethodName) jdk_65_method_58_code (4 : Nat) (Option.some Jvm.ClassFile.FieldType.int)).before args0 about1 = true := code_word (m := ⟨4, 2⟩) (meth := k4m2) (c := k4c2) (by decide +kernel) rfl rfl rfl (by decide +kernel)
set_option maxRecDepth 65536 in
theorem w_c8 : (Jvm.Cond.code ({ cls := "java/util/Arrays", name := "rangeCheck", desc := "(III)V" } : Jvm.MethodName) jdk_65_method_30_code (3 : Nat) (Option.none : Option Jvm.ClassFile.FieldType)).before args0 about1 = true := code_word (m := ⟨4, 1⟩) (meth := k4m1) (c := k4c1) (by decide +kernel) rfl rfl rfl (by decide +kernel)
set_option maxRecDepth 65536 in
theorem w_c9 : (Jvm.Cond.code ({ cls := "java/util/Arrays", name := "binarySearch0", desc := "([IIII)I" } : Jvm.MethodName) jdk_65_method_59_code (8 : Nat) (Option.some Jvm.ClassFile.FieldType.int)).before args0 about1 = true := code_word (m := ⟨4, 3⟩) (meth := k4m3) (c := k4c3) (by decide +kernel) rfl rfl rfl (by decide +kernel)
set_option maxRecDepth 65536 in
theorem w_c10 : (Jvm.Cond.code ({ cls := "com/example/vrabec/vrabec/index/Postings", name := "size", desc := "()I" } : Jvm.MethodName) prog_6_method_4_code (1 : Nat) (Option.some Jvm.ClassFile.FieldType.int)).before args0 about1 = true := code_word (m := ⟨3, 3⟩) (meth := k3m3) (c := k3c3) (by decide +kernel) rfl rfl rfl (by decide +kernel)
set_option maxRecDepth 65536 in
theorem w_c11 : (Jvm.Cond.code ({ cls := "com/example/vrabec/vrabec/index/Postings", name := "occurrences", desc := "()J" } : Jvm.MethodName) prog_6_method_5_code (1 : Nat) (Option.some Jvm.ClassFile.FieldType.long)).before args0 about1 = true := code_word (m := ⟨3, 4⟩) (meth := k3m4) (c := k3c4) (by decide +kernel) rfl rfl rfl (by decide +kernel)
set_option maxRecDepth 65536 in
theorem w_c12 : (Jvm.Cond.code ({ cls := "java/lang/Math", name := "min", desc := "(II)I" } : Jvm.MethodName) jdk_29_method_69_code (2 : Nat) (Option.some Jvm.ClassFile.FieldType.int)).before args0 about1 = true := code_word (m := ⟨2, 2⟩) (meth := k2m2) (c := k2c2) (by decide +kernel) rfl rfl rfl (by decide +kernel)
def codes1 : List Jvm.Cond := [Jvm.Cond.code x code maxLocals ret, Jvm.Cond.code ({ cls := "java/lang/Math", name := "max", desc := "(II)I" } : Jvm.MethodName) jdk_29_method_65_code (2 : Nat) (Option.some Jvm.ClassFile.FieldType.int), Jvm.Cond.code ({ cls := "com/example/vrabec/vrabec/index/Postings", name := "<init>", desc := "([I[I)V" } : Jvm.MethodName) prog_6_method_1_code (3 : Nat) (Option.none : Option Jvm.ClassFile.FieldType), Jvm.Cond.code ({ cls := "com/example/vrabec/vrabec/index/Postings", name := "runningSums", desc := "([I)[J" } : Jvm.MethodName) prog_6_method_3_code (5 : Nat) (Option.some (Jvm.ClassFile.FieldType.array Jvm.ClassFile.FieldType.long)), Jvm.Cond.code ({ cls := "com/example/vrabec/vrabec/index/Postings", name := "<init>", desc := "([I[I[JI)V" } : Jvm.MethodName) prog_6_method_2_code (5 : Nat) (Option.none : Option Jvm.ClassFile.FieldType), Jvm.Cond.code ({ cls := "java/lang/Object", name := "<init>", desc := "()V" } : Jvm.MethodName) object_method_1_code (1 : Nat) (Option.none : Option Jvm.ClassFile.FieldType), Jvm.Cond.code ({ cls := "com/example/vrabec/vrabec/index/Postings", name := "before", desc := "(I)Lcom/example/vrabec/vrabec/index/Postings;" } : Jvm.MethodName) prog_6_method_8_code (4 : Nat) (Option.some (Jvm.ClassFile.FieldType.object "com/example/vrabec/vrabec/index/Postings")), Jvm.Cond.code ({ cls := "java/util/Arrays", name := "binarySearch", desc := "([IIII)I" } : Jvm.MethodName) jdk_65_method_58_code (4 : Nat) (Option.some Jvm.ClassFile.FieldType.int), Jvm.Cond.code ({ cls := "java/util/Arrays", name := "rangeCheck", desc := "(III)V" } : Jvm.MethodName) jdk_65_method_30_code (3 : Nat) (Option.none : Option Jvm.ClassFile.FieldType), Jvm.Cond.code ({ cls := "java/util/Arrays", name := "binarySearch0", desc := "([IIII)I" } : Jvm.MethodName) jdk_65_method_59_code (8 : Nat) (Option.some Jvm.ClassFile.FieldType.int), Jvm.Cond.code ({ cls := "com/example/vrabec/vrabec/index/Postings", name := "size", desc := "()I" } : Jvm.MethodName) prog_6_method_4_code (1 : Nat) (Option.some Jvm.ClassFile.FieldType.int), Jvm.Cond.code ({ cls := "com/example/vrabec/vrabec/index/Postings", name := "occurrences", desc := "()J" } : Jvm.MethodName) prog_6_method_5_code (1 : Nat) (Option.some Jvm.ClassFile.FieldType.long), Jvm.Cond.code ({ cls := "java/lang/Math", name := "min", desc := "(II)I" } : Jvm.MethodName) jdk_29_method_69_code (2 : Nat) (Option.some Jvm.ClassFile.FieldType.int)]
set_option maxRecDepth 65536 in
theorem codes_eq : words1.filter isCode = codes1 := rfl
theorem w_codes : ∀ c ∈ words1.filter isCode, c.before args0 about1 = true := by
  rw [codes_eq]
  intro c hc
  simp only [codes1, List.mem_cons, List.not_mem_nil, or_false] at hc
  rcases hc with rfl | rfl | rfl | rfl | rfl | rfl | rfl | rfl | rfl | rfl | rfl | rfl | rfl
  · exact w_c0
  · exact w_c1
  · exact w_c2
  · exact w_c3
  · exact w_c4
  · exact w_c5
  · exact w_c6
  · exact w_c7
  · exact w_c8
  · exact w_c9
  · exact w_c10
  · exact w_c11
  · exact w_c12
set_option maxRecDepth 65536 in
theorem w_t1 : (words1.take 24).all (fun c => isCode c || c.before args0 about1) = true := by decide +kernel
set_option maxRecDepth 65536 in
theorem w_t2 : ((words1.drop 24).take 24).all (fun c => isCode c || c.before args0 about1) = true := by decide +kernel
set_option maxRecDepth 65536 in
theorem w_t3 : ((words1.drop 24).drop 24).all (fun c => isCode c || c.before args0 about1) = true := by decide +kernel
theorem w_tables : (allAtoms (Jvm.Cond.code x code maxLocals ret :: tables_1)).before args0 about1 = true := by
  rw [allAtoms_all]
  show words1.all (fun c => c.before args0 about1) = true
  refine all_split ?_ w_codes
  rw [← List.take_append_drop 24 words1, List.all_append, w_t1, ← List.take_append_drop 24 (words1.drop 24), List.all_append, w_t2, w_t3]
  rfl
set_option maxRecDepth 65536 in
theorem w_case : (Jvm.Cond.and given_1 narrow_1).before args0 about1 = true := by decide +kernel
theorem w_applies : (headSpec (Jvm.Cond.code x code maxLocals ret :: tables_1) room_1).applies x e0.platform about1 = true :=
  (Spec.applies_iff w_frames).mpr ⟨w_running, w_runnable, w_alone, w_named, w_hears, w_ripe, w_room, w_tables⟩
theorem atStart : AtStart classFile x code maxLocals ret World_1 tables_1 room_1 Calls_1 rest_1 Pre_1 launch0 p0 e0 about1 theMethod args0 below0 :=
  ⟨lists_1, trivial, launch0.admits_env _ _ _, launch0.least_env, fairChoices_fair.cas, fairChoices_fair.clock, w_frames, w_args, w_heap, w_applies, trivial, trivial, w_case⟩
end start1
theorem witness_1 : WitnessClaimed_1 := ⟨start1.p0, start1.e0, start1.about1, start1.theMethod, start1.args0, start1.below0, start1.atStart⟩
end Jvm.Pilot.@@N@@
