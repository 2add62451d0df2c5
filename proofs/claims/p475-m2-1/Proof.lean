import JvmDerived
import JvmDerived.Pilot.@@N@@Statement
import JvmDerived.Pilot.@@N@@Code
set_option linter.unusedVariables false
set_option linter.unusedSimpArgs false
namespace Jvm.RoadKit
open Sem ClassFile Op Lib Jvm.Stand Jvm.Free Jvm.LawKit
section New
variable {p : Program} {l : Launch} {e : Env} {R : Room} {s : State} {m : MethodId} {args : Array Value} {below : List Frame} {meth : Method} {c : Code} {T : State} {locs : List Loc} {cells slots : Nat}
theorem retI (X : Stand p l e R s m args below meth c T locs cells slots) (hx : p.tables.exec = Jvm.exec) {pc : Nat} {Ls : Array Slot} {z : Int32} {rest : List Value} (hret : meth.sig.returnType = some .int) (hd : decode c.code pc = .ok (.ireturn, 1)) {fs : List Frame}
    (hl : ∀ (f : JFrame) (acts : List Action), f.method = m → f.locked = none → f.entered = [] → (doReturn e (T.setTop f) acts (some (.int z))).1 = T.setFrames fs) : Steps p.tables e below (T.setTop (mkF m pc Ls (.int z :: rest))) (T.setFrames fs) := by
  have hm' : T.vm.method? m = some meth := X.method'
  have hn : narrow .int (.int z) = .int z := rfl
  show Steps p.tables e below (T.setTop { method := m, pc := pc, locals := Ls, stack := _ :: rest, locked := none }) _
  jvm_step X.here [X.here.top, hx, hd, hm', hret, hn]
  first | (intro acts; rw [hl _ acts rfl rfl rfl]) | rw [hl _ _ rfl rfl rfl]
  exact Steps.refl _
end New
end Jvm.RoadKit
namespace Jvm.Pilot.@@N@@
open Jvm Jvm.ClassFile Sem Op Lib Jvm.Free Jvm.Stand Jvm.LawKit Jvm.RoadKit Bundle Jvm.Pilot.@@N@@.Jvm.D

theorem own_units {i : Int} {s : Bool} {c : Nat} {q : Int} (h : FP.Core.signed s (c * 2 ^ q.toNat) = i * ((2 ^ (-q).toNat : Nat) : Int)) (hq : -1074 ≤ q) (k : Nat) : FP.Core.inUnits c (q + (k : Int)) (-1074) = i.natAbs * 2 ^ (1074 + k) := by
  have h1 : c * 2 ^ q.toNat = i.natAbs * 2 ^ (-q).toNat := by
    have h2 := congrArg Int.natAbs h
    rw [Int.natAbs_mul, Int.natAbs_natCast] at h2
    rw [← h2]
    cases s
    · exact (Int.natAbs_natCast _).symm
    · show _ = Int.natAbs (-((c * 2 ^ q.toNat : Nat) : Int))
      rw [Int.natAbs_neg, Int.natAbs_natCast]
  show c * 2 ^ (q + (k : Int) - (-1074)).toNat = _
  rcases Int.le_total 0 q with h0 | h0
  · rw [show (-q).toNat = 0 by omega, Nat.pow_zero, Nat.mul_one] at h1
    rw [show (q + (k : Int) - (-1074)).toNat = q.toNat + (1074 + k) by omega, Nat.pow_add, ← Nat.mul_assoc, h1]
  · rw [show q.toNat = 0 by omega, Nat.pow_zero, Nat.mul_one] at h1
    rw [h1, Nat.mul_assoc, ← Nat.pow_add, show (-q).toNat + (q + (k : Int) - (-1074)).toNat = 1074 + k by omega]
theorem own_sign {i : Int} {s : Bool} {c : Nat} {q : Int} (h : FP.Core.signed s (c * 2 ^ q.toNat) = i * ((2 ^ (-q).toNat : Nat) : Int)) (hi : 0 < i) : s = false := by
  cases s with
  | false => rfl
  | true =>
    have h2 : (0 : Int) < i * ((2 ^ (-q).toNat : Nat) : Int) := Int.mul_pos hi (by have := Nat.two_pow_pos (-q).toNat; omega)
    rw [← h] at h2
    have h3 : FP.Core.signed true (c * 2 ^ q.toNat) = -((c * 2 ^ q.toNat : Nat) : Int) := rfl
    rw [h3] at h2
    omega
theorem own_signN {i : Int} {s : Bool} {c : Nat} {q : Int} (h : FP.Core.signed s (c * 2 ^ q.toNat) = i * ((2 ^ (-q).toNat : Nat) : Int)) (hi : i < 0) : s = true := by
  cases s with
  | true => rfl
  | false =>
    have h2 : i * ((2 ^ (-q).toNat : Nat) : Int) < 0 := Int.mul_neg_of_neg_of_pos hi (by have := Nat.two_pow_pos (-q).toNat; omega)
    rw [← h] at h2
    have h3 : FP.Core.signed false (c * 2 ^ q.toNat) = ((c * 2 ^ q.toNat : Nat) : Int) := rfl
    rw [h3] at h2
    omega
theorem own_zv (d : FP.Core.Datum) : FP.Core.zval FP.Core.b64 d = FP.Core.signed (FP.Core.sgn d) (FP.Core.zmag FP.Core.b64 d) := rfl
theorem own_zm (s : Bool) (c : Nat) (q : Int) : FP.Core.zmag FP.Core.b64 (.fin s c q) = FP.Core.inUnits c q FP.Core.b64.qmin := rfl
theorem own_D : FP.Core.val64 (4696837146684686336 : UInt64) = .fin false 8589934592000000 (-33) := by decide +kernel
theorem own_K : FP.Core.val64 (4603210243928676631 : UInt64) = .fin false 5035024383400215 (-53) := by decide +kernel
theorem own_K1 : FP.Core.val64 (4603210243928676632 : UInt64) = .fin false 5035024383400216 (-53) := by decide +kernel
theorem own_quot (n : Int32) : ∃ s c q, FP.Core.val64 (FP.ddiv (FP.i2d n) 4696837146684686336) = FP.Core.roundRatio FP.Core.b64 s c 8589934592000000 (q + ((33 : Nat) : Int)) ∧ FP.Core.signed s (c * 2 ^ q.toNat) = n.toInt * ((2 ^ (-q).toNat : Nat) : Int) ∧ -1074 ≤ q := by
  have h : FP.Core.Whole n.toInt (FP.Core.val64 (FP.i2d n)) := FP.Core.i2d_int n
  have hf : FP.Core.fits FP.Core.b64 (FP.Core.val64 (FP.i2d n)) := FP.Core.val64_fits _
  have e : FP.Core.val64 (FP.ddiv (FP.i2d n) 4696837146684686336) = FP.Core.quotient FP.Core.b64 (FP.Core.val64 (FP.i2d n)) (FP.Core.val64 4696837146684686336) := FP.Core.val64_ddiv _ _
  rw [own_D] at e
  cases hv : FP.Core.val64 (FP.i2d n) with
  | nan => rw [hv] at h; exact absurd h (fun q => q)
  | inf t => rw [hv] at h; exact absurd h (fun q => q)
  | fin s c q =>
    rw [hv] at h hf e
    refine ⟨s, c, q, ?_, h, ?_⟩
    · rw [e]
      show (if (8589934592000000 : Nat) = 0 then (if c = 0 then FP.Core.Datum.nan else FP.Core.Datum.inf (s != false)) else FP.Core.roundRatio FP.Core.b64 (s != false) c 8589934592000000 (q - (-33))) = _
      rw [if_neg (show ¬ (8589934592000000 : Nat) = 0 by decide)]
      rw [show (s != false) = s by cases s <;> rfl, show q - (-33) = q + ((33 : Nat) : Int) by omega]
    · have := hf.2.1
      rw [FP.Core.qmin_b64] at this
      exact this
theorem own_nn (n : Int32) : FP.Core.val64 (FP.ddiv (FP.i2d n) 4696837146684686336) ≠ .nan := by
  obtain ⟨s, c, q, e, -, -⟩ := own_quot n
  rw [e]
  exact FP.Core.roundRatio_ne_nan _ _ _ _ _
theorem own_le (n : Int32) (hn : n.toInt ≤ 559000) : FP.Core.zval FP.Core.b64 (FP.Core.val64 (FP.ddiv (FP.i2d n) 4696837146684686336)) ≤ FP.Core.zval FP.Core.b64 (FP.Core.val64 4603210243928676631) := by
  obtain ⟨s, c, q, e, h, hq⟩ := own_quot n
  have hKz : FP.Core.zval FP.Core.b64 (FP.Core.val64 4603210243928676631) = ((FP.Core.zmag FP.Core.b64 (FP.Core.val64 4603210243928676631) : Nat) : Int) := by rw [own_K]; rfl
  rw [hKz, e]
  rw [own_zv]
  rw [FP.Core.sgn_roundRatio]
  cases s with
  | true => show -((_ : Nat) : Int) ≤ _; omega
  | false =>
    show ((_ : Nat) : Int) ≤ _
    have hi : n.toInt.natAbs ≤ 559000 := by
      rcases Int.lt_or_le n.toInt 0 with g | g
      · exact absurd (own_signN h g) (by decide)
      · omega
    have hu := own_units h hq 33
    have hz := FP.Core.zmag_roundRatio_le FP.Core.good_b64 (s := false) (A := c) (B := 8589934592000000) (e := q + ((33 : Nat) : Int)) (e0 := -1074) (V := FP.Core.val64 4603210243928676631) (by decide) (FP.Core.val64_fits _) (by rw [own_K]; exact FP.Core.Datum.noConfusion) (by rw [FP.Core.qmin_b64]; decide) (by omega) (by
      rw [hu, own_K, own_zm, FP.Core.qmin_b64]
      refine Nat.le_trans (Nat.mul_le_mul_right _ hi) ?_
      decide +kernel)
    omega
theorem own_gt (n : Int32) (hn : 559001 ≤ n.toInt) : FP.Core.zval FP.Core.b64 (FP.Core.val64 4603210243928676631) < FP.Core.zval FP.Core.b64 (FP.Core.val64 (FP.ddiv (FP.i2d n) 4696837146684686336)) := by
  obtain ⟨s, c, q, e, h, hq⟩ := own_quot n
  have hs : s = false := own_sign h (by omega)
  subst hs
  have hKz : FP.Core.zval FP.Core.b64 (FP.Core.val64 4603210243928676631) < ((FP.Core.zmag FP.Core.b64 (FP.Core.val64 4603210243928676632) : Nat) : Int) := by rw [own_K, own_K1]; decide +kernel
  refine Int.lt_of_lt_of_le hKz ?_
  rw [e]
  rw [own_zv]
  rw [FP.Core.sgn_roundRatio]
  show _ ≤ ((_ : Nat) : Int)
  have hi : 559001 ≤ n.toInt.natAbs := by omega
  have hu := own_units h hq 33
  have hz := FP.Core.zmag_roundRatio_ge FP.Core.good_b64 (s := false) (A := c) (B := 8589934592000000) (e := q + ((33 : Nat) : Int)) (e0 := -1074) (V := FP.Core.val64 4603210243928676632) (by decide) (FP.Core.val64_fits _) (by rw [FP.Core.qmin_b64]; decide) (by omega) (by
    rw [hu, own_K1, own_zm, FP.Core.qmin_b64]
    refine Nat.le_trans ?_ (Nat.mul_le_mul_right _ hi)
    decide +kernel)
  omega

theorem own_le' (n : Int32) (hn : n.toInt ≤ 559000) : FP.Core.zval FP.Core.b64 (FP.Core.val64 (FP.ddiv (FP.i2d n) 4696837146684686336)) ≤ FP.Core.zval FP.Core.b64 (FP.Core.val64 4603210243928676631) := own_le n hn

theorem own_not (n : Int32) (hn : n.toInt ≤ 559000) : ¬ (0 : Int32) < cmpValue (FP.dcmp (FP.ddiv (FP.i2d n) 4696837146684686336) 4603210243928676631) .g := by
  have h1 : FP.Core.zval FP.Core.b64 (FP.Core.val64 (FP.ddiv (FP.i2d n) 4696837146684686336)) ≤ FP.Core.zval FP.Core.b64 (FP.Core.val64 4603210243928676631) := own_le' n hn
  have h2 : FP.dcmp (FP.ddiv (FP.i2d n) 4696837146684686336) 4603210243928676631 = some (compare _ _) := FP.Core.dcmp_zval (own_nn n) (by rw [own_K]; exact FP.Core.Datum.noConfusion)
  rw [h2]
  rcases Int.lt_or_eq_of_le h1 with g | g
  · rw [Int.compare_eq_lt.mpr g]; decide
  · rw [Int.compare_eq_eq.mpr g]; decide
theorem own_yes (n : Int32) (hn : 559001 ≤ n.toInt) : (0 : Int32) < cmpValue (FP.dcmp (FP.ddiv (FP.i2d n) 4696837146684686336) 4603210243928676631) .g := by
  have h1 := own_gt n hn
  have h2 : FP.dcmp (FP.ddiv (FP.i2d n) 4696837146684686336) 4603210243928676631 = some (compare _ _) := FP.Core.dcmp_zval (own_nn n) (by rw [own_K]; exact FP.Core.Datum.noConfusion)
  rw [h2, Int.compare_eq_gt.mpr h1]
  decide

theorem own_end (n b : Int32) (hb : b.toInt = 559000) : (if (0 : Int32) < (cmpValue (FP.dcmp (FP.ddiv (FP.i2d n) (4696837146684686336 : UInt64)) (4603210243928676631 : UInt64)) .g) then (0 : Int32) else (1 : Int32)) = (if b < n then (0 : Int32) else (1 : Int32)) := by
  by_cases h : b < n
  · rw [if_pos h, if_pos (own_yes n (by rw [Int32.lt_iff_toInt_lt, hb] at h; omega))]
  · rw [if_neg h, if_neg (own_not n (by rw [Int32.lt_iff_toInt_lt, hb] at h; omega))]
theorem own_nnan (n : Int32) : Jvm.Free.Fl.NoNaN64 (FP.ddiv (FP.i2d n) (4696837146684686336 : UInt64)) := Jvm.Free.Fl.ddiv_out (Jvm.Free.Fl.i2d_fin n).noNaN (show (4696837146684686336 : UInt64) &&& 0x7fffffffffffffff < 0x7ff0000000000000 by decide) (show (4696837146684686336 : UInt64) &&& 0x7fffffffffffffff ≠ 0 by decide)
theorem d1_0 : decode prog_26_method_5_code 0 = .ok (.dload_n 0, 1) := by decide +kernel
theorem d1_1 : decode prog_26_method_5_code 1 = .ok (.ldc2_w 165, 3) := by decide +kernel
theorem d1_4 : decode prog_26_method_5_code 4 = .ok (.dcmp .g, 1) := by decide +kernel
theorem d1_5 : decode prog_26_method_5_code 5 = .ok (.ifCond .gt 7, 3) := by decide +kernel
theorem d1_8 : decode prog_26_method_5_code 8 = .ok (.iconst 1, 1) := by decide +kernel
theorem d1_9 : decode prog_26_method_5_code 9 = .ok (.goto 4, 3) := by decide +kernel
theorem d1_12 : decode prog_26_method_5_code 12 = .ok (.iconst 0, 1) := by decide +kernel
theorem d1_13 : decode prog_26_method_5_code 13 = .ok (.ireturn, 1) := by decide +kernel
theorem pn_1 : plainName "com/example/beanjector/beanjector/bench/StartupBenchmark" = true := by first | (simp [plainName, overriddenIn]; done) | decide +kernel
theorem ef_1 (m : MethodId) (x0 : UInt64) : entryFrame m #[(.double x0)] 2 = mkF m 0 #[.val (.double x0), .second] [] := by first | (simp [entryFrame, mkF, argsToLocals, Value.category]; done) | rfl
def Q_1 (Z : State) (f1 : UInt64) (h0 : Heap) (n0 : Nat) (v : Option Value) (h : Heap) (L : List Loc) : Prop := v = some (.int (if (0 : Int32) < (cmpValue (FP.dcmp f1 (4603210243928676631 : UInt64)) .g) then (0 : Int32) else (1 : Int32))) ∧ Fr n0 L ∧ h = h0
set_option maxRecDepth 65536 in
set_option maxHeartbeats 40000000 in
theorem rm_1 (l : Launch) (Z : State) (a0 : Array Value) (hw : ∀ d ∈ tables_1, d.before a0 Z = true) (ws : List Jvm.Cond) (f1 : UInt64) (h0 : Heap) (n0 : Nat) (Z0 : n0 ≤ h0.size) :
    MetFree l (⟨"com/example/beanjector/beanjector/bench/StartupBenchmark", "meetsPeakTarget", "(D)Z"⟩ : MethodName) (head1 (Jvm.Cond.code (⟨"com/example/beanjector/beanjector/bench/StartupBenchmark", "meetsPeakTarget", "(D)Z"⟩ : MethodName) prog_26_method_5_code 2 (some .boolean) :: ws) ({ frames := 0, cells := 0, slots := 0, locals := 0 } : Room)) (fun a U => a = #[(.double f1)] ∧ Z.Warmed39 U.vm ∧ U.heap = h0) (fun _ _ _ _ _ => True) (fun _ U o U' => ∃ v L, o = .returned v ∧ Q_1 Z f1 h0 n0 v U'.heap L ∧ FrameEnd U o U' L ({ frames := 0, cells := 0, slots := 0, locals := 0 } : Room).cells ({ frames := 0, cells := 0, slots := 0, locals := 0 } : Room).slots) := by
  refine MetFree.of_bodySF (plainFor_of_name pn_1) hisR ?_
  intro p e s m args below meth cod_ s₁ Bd hml0 hP hK
  obtain ⟨rfl, hZ, hh⟩ := hP
  have hx := Bd.exec
  have hby := Bd.bytes
  have hml : cod_.maxLocals = 2 := hml0
  have hown : s.vm.findClass "com/example/beanjector/beanjector/bench/StartupBenchmark" = some m.cls := findClass_of_methodNamed Bd.named
  have hnm := (name_of_methodNamed Bd.named Bd.method).1
  have X0 : Stand p l e ({ frames := 0, cells := 0, slots := 0, locals := 0 } : Room) s m #[(.double f1)] below meth cod_ s₁ [] 0 0 := Stand.of_body Bd
  have e0 : s₁.heap = h0 := by rw [← hh, Bd.state]; rfl
  have N0 := Fr.nil n0
  have pre0 : ∀ t, Steps p.tables e below (s₁.setTop (mkF m 0 #[.val (.double f1), .second] [])) t → Steps p.tables e below (s₁.setTop (entryFrame m #[(.double f1)] 2)) t := fun t k => castTop (ef_1 m f1) k
  by_cases hc5 : (0 : Int32) < (cmpValue (FP.dcmp f1 (4603210243928676631 : UInt64)) .g)
  · obtain ⟨fs, hr, hrun, hended, hW, hsame⟩ := X0.leave (v := some (.int (0 : Int32))) (fun h => by rw [Bd.returns] at h; cases h)
    refine ⟨_, _, pre0 _ ?_, hrun, hended, _, _, rfl, ?_, ⟨_, rfl⟩, hW, hsame.mono (by decide) (by decide)⟩
    · show Steps p.tables e below (s₁.setTop (mkF m 0 #[.val (.double f1), .second] [])) _
      refine XS.dloadN X0.here hx rfl (hb hby d1_0) rfl ?_
      show Steps p.tables e below (s₁.setTop (mkF m 1 #[.val (.double f1), .second] [(.double f1)])) _
      refine X0.ldc2DoubleC hx hown (mvT hZ (hw _ (List.mem_of_getElem? (i := 6) rfl))) (g := (mkF m 1 #[.val (.double f1), .second] [(.double f1)])) rfl (hb hby d1_1) _ ?_
      show Steps p.tables e below (s₁.setTop (mkF m 4 #[.val (.double f1), .second] [(.double (4603210243928676631 : UInt64)), (.double f1)])) _
      refine XS.dcmpS X0.here hx rfl (hb hby d1_4) rfl rfl ?_
      show Steps p.tables e below (s₁.setTop (mkF m 5 #[.val (.double f1), .second] [(.int (cmpValue (FP.dcmp f1 (4603210243928676631 : UInt64)) .g))])) _
      refine XS.ifYes X0.here hx rfl (pc0 := 5) (pc' := 12) rfl (hb hby d1_5) rfl ((if0 _ _).trans (tlt hc5).2.2.1) (by decide) (by decide) ?_
      show Steps p.tables e below (s₁.setTop (mkF m 12 #[.val (.double f1), .second] [])) _
      refine XS.iconst X0.here hx rfl (hb hby d1_12) ?_
      show Steps p.tables e below (s₁.setTop (mkF m 13 #[.val (.double f1), .second] [(.int (0 : Int32))])) _
      exact retN X0 hx (t := .boolean) Bd.returns (by simp) (hb hby d1_13) hr
    · show Q_1 Z f1 h0 n0 _ s₁.heap _
      rw [e0]
      exact ⟨by simp [hc5], N0, rfl⟩
  · obtain ⟨fs, hr, hrun, hended, hW, hsame⟩ := X0.leave (v := some (.int (1 : Int32))) (fun h => by rw [Bd.returns] at h; cases h)
    refine ⟨_, _, pre0 _ ?_, hrun, hended, _, _, rfl, ?_, ⟨_, rfl⟩, hW, hsame.mono (by decide) (by decide)⟩
    · show Steps p.tables e below (s₁.setTop (mkF m 0 #[.val (.double f1), .second] [])) _
      refine XS.dloadN X0.here hx rfl (hb hby d1_0) rfl ?_
      show Steps p.tables e below (s₁.setTop (mkF m 1 #[.val (.double f1), .second] [(.double f1)])) _
      refine X0.ldc2DoubleC hx hown (mvT hZ (hw _ (List.mem_of_getElem? (i := 6) rfl))) (g := (mkF m 1 #[.val (.double f1), .second] [(.double f1)])) rfl (hb hby d1_1) _ ?_
      show Steps p.tables e below (s₁.setTop (mkF m 4 #[.val (.double f1), .second] [(.double (4603210243928676631 : UInt64)), (.double f1)])) _
      refine XS.dcmpS X0.here hx rfl (hb hby d1_4) rfl rfl ?_
      show Steps p.tables e below (s₁.setTop (mkF m 5 #[.val (.double f1), .second] [(.int (cmpValue (FP.dcmp f1 (4603210243928676631 : UInt64)) .g))])) _
      refine XS.ifNo X0.here hx rfl (hb hby d1_5) rfl ((if0 _ _).trans (flt hc5).2.2.1) ?_
      show Steps p.tables e below (s₁.setTop (mkF m 8 #[.val (.double f1), .second] [])) _
      refine XS.iconst X0.here hx rfl (hb hby d1_8) ?_
      show Steps p.tables e below (s₁.setTop (mkF m 9 #[.val (.double f1), .second] [(.int (1 : Int32))])) _
      refine XS.goto X0.here hx rfl (pc0 := 9) (pc' := 13) rfl (hb hby d1_9) (by decide) (by decide) ?_
      show Steps p.tables e below (s₁.setTop (mkF m 13 #[.val (.double f1), .second] [(.int (1 : Int32))])) _
      exact retN X0 hx (t := .boolean) Bd.returns (by simp) (hb hby d1_13) hr
    · show Q_1 Z f1 h0 n0 _ s₁.heap _
      rw [e0]
      exact ⟨by simp [hc5], N0, rfl⟩
theorem pd__28D_29Z : parseMethodDescriptor "(D)Z" = some ⟨[.double], some .boolean⟩ := by decide +kernel
theorem pn_0 : plainName "com/example/beanjector/beanjector/bench/StartupBenchmarkMeetsPeakTargetPinLaw" = true := by first | (simp [plainName, overriddenIn]; done) | decide +kernel
theorem ef_0 (m : MethodId) (x0 : Int32) : entryFrame m #[(.int x0)] maxLocals = mkF m 0 #[.val (.int x0), .unset, .unset, .unset] [] := by first | (simp [entryFrame, mkF, argsToLocals, Value.category, maxLocals]; done) | rfl
def Q_0 (Z : State) (p1 : Int32) (h0 : Heap) (n0 : Nat) (v : Option Value) (h : Heap) (L : List Loc) : Prop := v = some (.int 1) ∧ Fr n0 L
set_option maxRecDepth 65536 in
set_option maxHeartbeats 40000000 in
theorem rm_0 (l : Launch) (Z : State) (a0 : Array Value) (hw : ∀ d ∈ tables_1, d.before a0 Z = true) (ws : List Jvm.Cond) (p1 : Int32) (h0 : Heap) (n0 : Nat) (Z0 : n0 ≤ h0.size) :
    MetFree l x (head1 (Jvm.Cond.code x code maxLocals ret :: ws) room_1) (fun a U => a = #[(.int p1)] ∧ Z.Warmed39 U.vm ∧ U.heap = h0) (fun _ _ _ _ _ => True) (fun _ U o U' => ∃ v L, o = .returned v ∧ Q_0 Z p1 h0 n0 v U'.heap L ∧ FrameEnd U o U' L room_1.cells room_1.slots) := by
  refine MetFree.of_bodySF (plainFor_of_name pn_0) hisR ?_
  intro p e s m args below meth cod_ s₁ Bd hml0 hP hK
  obtain ⟨rfl, hZ, hh⟩ := hP
  have hx := Bd.exec
  have hby := Bd.bytes
  have hml : cod_.maxLocals = 4 := hml0
  have hown : s.vm.findClass "com/example/beanjector/beanjector/bench/StartupBenchmarkMeetsPeakTargetPinLaw" = some m.cls := findClass_of_methodNamed Bd.named
  have hnm := (name_of_methodNamed Bd.named Bd.method).1
  have X0 : Stand p l e room_1 s m #[(.int p1)] below meth cod_ s₁ [] 0 0 := Stand.of_body Bd
  have e0 : s₁.heap = h0 := by rw [← hh, Bd.state]; rfl
  have N0 := Fr.nil n0
  have pre0 : ∀ t, Steps p.tables e below (s₁.setTop (mkF m 0 #[.val (.int p1), .unset, .unset, .unset] [])) t → Steps p.tables e below (s₁.setTop (entryFrame m #[(.int p1)] maxLocals)) t := fun t k => castTop (ef_0 m p1) k
  have md1 : ∀ t, Steps p.tables e below (s₁.setTop (mkF m 18 #[.val (.int p1), .val (.double (FP.ddiv (FP.i2d p1) (4696837146684686336 : UInt64))), .second, .unset] [(.int (if (559000 : Int32) < p1 then (0 : Int32) else (1 : Int32)))])) t → Steps p.tables e below (s₁.setTop (mkF m 10 #[.val (.int p1), .val (.double (FP.ddiv (FP.i2d p1) (4696837146684686336 : UInt64))), .second, .unset] [(.int (559000 : Int32)), (.int p1)])) t := by
    intro t kt
    by_cases hd10 : (559000 : Int32) < p1
    · rw [show (if (559000 : Int32) < p1 then (0 : Int32) else (1 : Int32)) = (0 : Int32) from if_pos hd10] at kt
      show Steps p.tables e below (s₁.setTop (mkF m 10 #[.val (.int p1), .val (.double (FP.ddiv (FP.i2d p1) (4696837146684686336 : UInt64))), .second, .unset] [(.int (559000 : Int32)), (.int p1)])) _
      refine XS.icmpYes X0.here hx rfl (pc0 := 10) (pc' := 17) rfl (hb hby at_10) rfl (tlt hd10).2.2.1 (by decide) (by decide) ?_
      show Steps p.tables e below (s₁.setTop (mkF m 17 #[.val (.int p1), .val (.double (FP.ddiv (FP.i2d p1) (4696837146684686336 : UInt64))), .second, .unset] [])) _
      refine XS.iconst X0.here hx rfl (hb hby at_17) ?_
      exact kt
    · rw [show (if (559000 : Int32) < p1 then (0 : Int32) else (1 : Int32)) = (1 : Int32) from if_neg hd10] at kt
      show Steps p.tables e below (s₁.setTop (mkF m 10 #[.val (.int p1), .val (.double (FP.ddiv (FP.i2d p1) (4696837146684686336 : UInt64))), .second, .unset] [(.int (559000 : Int32)), (.int p1)])) _
      refine XS.icmpNo X0.here hx rfl (hb hby at_10) rfl (flt hd10).2.2.1 ?_
      show Steps p.tables e below (s₁.setTop (mkF m 13 #[.val (.int p1), .val (.double (FP.ddiv (FP.i2d p1) (4696837146684686336 : UInt64))), .second, .unset] [])) _
      refine XS.iconst X0.here hx rfl (hb hby at_13) ?_
      show Steps p.tables e below (s₁.setTop (mkF m 14 #[.val (.int p1), .val (.double (FP.ddiv (FP.i2d p1) (4696837146684686336 : UInt64))), .second, .unset] [(.int (1 : Int32))])) _
      refine XS.goto X0.here hx rfl (pc0 := 14) (pc' := 18) rfl (hb hby at_14) (by decide) (by decide) ?_
      exact kt
  obtain ⟨_, _, ⟨T2, L2, c2_, n2_⟩, -, X2, ⟨Lc2, hQ2, l2, y2, z2⟩, st2⟩ := Jvm.LawKit.callS X0 hx (y := (⟨"com/example/beanjector/beanjector/bench/StartupBenchmark", "meetsPeakTarget", "(D)Z"⟩ : MethodName)) hown (mvT hZ (hw _ (List.mem_of_getElem? (i := 2) rfl))) (mvT hZ (hw _ (List.mem_of_getElem? (i := 3) rfl))) (mvT hZ (hw _ (List.mem_of_getElem? (i := 4) rfl))) (mvT hZ (hw _ (List.mem_of_getElem? (i := 5) rfl))) (by decide) (backOf (W := 0) (rm_1 l Z a0 hw [] (FP.ddiv (FP.i2d p1) (4696837146684686336 : UInt64)) h0 n0 (Nat.le_trans Z0 (Keep.refl h0 []).1) ) hZ (hw _ (List.mem_of_getElem? (i := 5) rfl)) (hw _ (List.mem_of_getElem? (i := 4) rfl)) (by decide) (by decide)) (g := (mkF m 20 #[.val (.int p1), .val (.double (FP.ddiv (FP.i2d p1) (4696837146684686336 : UInt64))), .second, .val (.int (if (559000 : Int32) < p1 then (0 : Int32) else (1 : Int32)))] [(.double (FP.ddiv (FP.i2d p1) (4696837146684686336 : UInt64)))])) rfl (by rw [hml]; rfl) (argsL := [(.double (FP.ddiv (FP.i2d p1) (4696837146684686336 : UInt64)))]) (rest := []) (lenOf pd__28D_29Z rfl) rfl (by show 2 * 0 + _ ≤ _; exact Nat.le_of_eq rfl) (hb hby at_20) (fun _ _ => ⟨rfl, e0, (by decide : 0 + 0 ≤ _), (by decide : 0 + 0 ≤ _)⟩)
  dsimp only [Pt.U, Pt.locs, Pt.cells, Pt.slots] at X2 l2 y2 z2 st2 hQ2
  subst l2 y2 z2
  obtain ⟨rfl, Nq2, e2⟩ := hQ2
  have N2 := Fr.app N0 Nq2
  have hc24 : (if (0 : Int32) < (cmpValue (FP.dcmp (FP.ddiv (FP.i2d p1) (4696837146684686336 : UInt64)) (4603210243928676631 : UInt64)) .g) then (0 : Int32) else (1 : Int32)) = (if (559000 : Int32) < p1 then (0 : Int32) else (1 : Int32)) := own_end p1 (559000 : Int32) (by decide)
  obtain ⟨fs, hr, hrun, hended, hW, hsame⟩ := X2.leave (v := some (.int (1 : Int32))) (fun h => by rw [Bd.returns] at h; cases h)
  refine ⟨_, _, pre0 _ ?_, hrun, hended, _, _, rfl, ?_, ⟨_, rfl⟩, hW, hsame.mono (by decide) (by decide)⟩
  · show Steps p.tables e below (s₁.setTop (mkF m 0 #[.val (.int p1), .unset, .unset, .unset] [])) _
    refine XS.iloadN X0.here hx rfl (hb hby at_0) rfl ?_
    show Steps p.tables e below (s₁.setTop (mkF m 1 #[.val (.int p1), .unset, .unset, .unset] [(.int p1)])) _
    refine XS.i2dS X0.here hx rfl (hb hby at_1) rfl rfl ?_
    show Steps p.tables e below (s₁.setTop (mkF m 2 #[.val (.int p1), .unset, .unset, .unset] [(.double (FP.i2d p1))])) _
    refine X0.ldc2DoubleC hx hown (mvT hZ (hw _ (List.mem_of_getElem? (i := 0) rfl))) (g := (mkF m 2 #[.val (.int p1), .unset, .unset, .unset] [(.double (FP.i2d p1))])) rfl (hb hby at_2) _ ?_
    show Steps p.tables e below (s₁.setTop (mkF m 5 #[.val (.int p1), .unset, .unset, .unset] [(.double (4696837146684686336 : UInt64)), (.double (FP.i2d p1))])) _
    refine XS.ddivS X0.here hx rfl (hb hby at_5) rfl (own_nnan p1) rfl ?_
    show Steps p.tables e below (s₁.setTop (mkF m 6 #[.val (.int p1), .unset, .unset, .unset] [(.double (FP.ddiv (FP.i2d p1) (4696837146684686336 : UInt64)))])) _
    refine XS.dstoreN X0.here hx rfl (hb hby at_6) rfl (l' := #[.val (.int p1), .val (.double (FP.ddiv (FP.i2d p1) (4696837146684686336 : UInt64))), .second, .unset]) rfl ?_
    show Steps p.tables e below (s₁.setTop (mkF m 7 #[.val (.int p1), .val (.double (FP.ddiv (FP.i2d p1) (4696837146684686336 : UInt64))), .second, .unset] [])) _
    refine XS.iloadN X0.here hx rfl (hb hby at_7) rfl ?_
    show Steps p.tables e below (s₁.setTop (mkF m 8 #[.val (.int p1), .val (.double (FP.ddiv (FP.i2d p1) (4696837146684686336 : UInt64))), .second, .unset] [(.int p1)])) _
    refine X0.ldcInt hx hown (mvT hZ (hw _ (List.mem_of_getElem? (i := 1) rfl))) (g := (mkF m 8 #[.val (.int p1), .val (.double (FP.ddiv (FP.i2d p1) (4696837146684686336 : UInt64))), .second, .unset] [(.int p1)])) rfl (hb hby at_8) _ ?_
    show Steps p.tables e below (s₁.setTop (mkF m 10 #[.val (.int p1), .val (.double (FP.ddiv (FP.i2d p1) (4696837146684686336 : UInt64))), .second, .unset] [(.int (559000 : Int32)), (.int p1)])) _
    refine md1 _ ?_
    show Steps p.tables e below (s₁.setTop (mkF m 18 #[.val (.int p1), .val (.double (FP.ddiv (FP.i2d p1) (4696837146684686336 : UInt64))), .second, .unset] [(.int (if (559000 : Int32) < p1 then (0 : Int32) else (1 : Int32)))])) _
    refine XS.istoreN X0.here hx rfl (hb hby at_18) rfl (l' := #[.val (.int p1), .val (.double (FP.ddiv (FP.i2d p1) (4696837146684686336 : UInt64))), .second, .val (.int (if (559000 : Int32) < p1 then (0 : Int32) else (1 : Int32)))]) rfl ?_
    show Steps p.tables e below (s₁.setTop (mkF m 19 #[.val (.int p1), .val (.double (FP.ddiv (FP.i2d p1) (4696837146684686336 : UInt64))), .second, .val (.int (if (559000 : Int32) < p1 then (0 : Int32) else (1 : Int32)))] [])) _
    refine XS.dloadN X0.here hx rfl (hb hby at_19) rfl ?_
    show Steps p.tables e below (s₁.setTop (mkF m 20 #[.val (.int p1), .val (.double (FP.ddiv (FP.i2d p1) (4696837146684686336 : UInt64))), .second, .val (.int (if (559000 : Int32) < p1 then (0 : Int32) else (1 : Int32)))] [(.double (FP.ddiv (FP.i2d p1) (4696837146684686336 : UInt64)))])) _
    refine st2 _ ?_
    show Steps p.tables e below (T2.setTop (mkF m 23 #[.val (.int p1), .val (.double (FP.ddiv (FP.i2d p1) (4696837146684686336 : UInt64))), .second, .val (.int (if (559000 : Int32) < p1 then (0 : Int32) else (1 : Int32)))] [(.int (if (0 : Int32) < (cmpValue (FP.dcmp (FP.ddiv (FP.i2d p1) (4696837146684686336 : UInt64)) (4603210243928676631 : UInt64)) .g) then (0 : Int32) else (1 : Int32)))])) _
    refine XS.iloadN X2.here hx rfl (hb hby at_23) rfl ?_
    show Steps p.tables e below (T2.setTop (mkF m 24 #[.val (.int p1), .val (.double (FP.ddiv (FP.i2d p1) (4696837146684686336 : UInt64))), .second, .val (.int (if (559000 : Int32) < p1 then (0 : Int32) else (1 : Int32)))] [(.int (if (559000 : Int32) < p1 then (0 : Int32) else (1 : Int32))), (.int (if (0 : Int32) < (cmpValue (FP.dcmp (FP.ddiv (FP.i2d p1) (4696837146684686336 : UInt64)) (4603210243928676631 : UInt64)) .g) then (0 : Int32) else (1 : Int32)))])) _
    refine XS.icmpNo X2.here hx rfl (hb hby at_24) rfl (teq hc24).2 ?_
    show Steps p.tables e below (T2.setTop (mkF m 27 #[.val (.int p1), .val (.double (FP.ddiv (FP.i2d p1) (4696837146684686336 : UInt64))), .second, .val (.int (if (559000 : Int32) < p1 then (0 : Int32) else (1 : Int32)))] [])) _
    refine XS.iconst X2.here hx rfl (hb hby at_27) ?_
    show Steps p.tables e below (T2.setTop (mkF m 28 #[.val (.int p1), .val (.double (FP.ddiv (FP.i2d p1) (4696837146684686336 : UInt64))), .second, .val (.int (if (559000 : Int32) < p1 then (0 : Int32) else (1 : Int32)))] [(.int (1 : Int32))])) _
    refine XS.goto X2.here hx rfl (pc0 := 28) (pc' := 32) rfl (hb hby at_28) (by decide) (by decide) ?_
    show Steps p.tables e below (T2.setTop (mkF m 32 #[.val (.int p1), .val (.double (FP.ddiv (FP.i2d p1) (4696837146684686336 : UInt64))), .second, .val (.int (if (559000 : Int32) < p1 then (0 : Int32) else (1 : Int32)))] [(.int (1 : Int32))])) _
    exact retN X2 hx (t := .boolean) Bd.returns (by simp) (hb hby at_32) hr
  · show Q_0 Z p1 h0 n0 _ T2.heap _
    rw [e2]
    exact ⟨rfl, N2⟩
set_option maxRecDepth 65536 in
set_option maxHeartbeats 40000000 in
theorem comes_1 {Post : Tables → Env → Array Value → State → Outcome → State → Prop} (hpost : ∀ tb e args s v u, (limb_1_1.after args s (.returned v) u = true ∧ limb_1_2.after args s (.returned v) u = true ∧ True) → FrameEnd s (.returned v) u (Jvm.fieldLocs frame_1_writes args s ++ Jvm.arrayLocs frame_1_arrays args s ++ Jvm.staticLocs frame_1_statics s) 0 0 → Post tb e args s (.returned v) u) :
    ArmFor flags0 classFile x code maxLocals ret World_1 tables_1 room_1 Calls_1 rest_1 Pre_1 Post := by
  intro l hfl _ _ p e ha hc hk s m args below hf hA hF happ hP
  obtain ⟨hcalls, hrest, hpre⟩ := hP
  obtain ⟨-, -, -, hnamed, -, -, -, hat⟩ := (Spec.applies_iff hf).mp happ
  obtain ⟨hg, hn⟩ := and_e (Cond.before_iff.mp (show (Jvm.Cond.and given_1 narrow_1).before args s = true from hpre))
  obtain ⟨g3, g4⟩ := and_e hg
  obtain ⟨w0, rfl⟩ : ∃ w0 : Value, args = #[w0] := by
    have hs : args.size = 1 := by simpa [Cond.value, given_1] using g3
    obtain ⟨L⟩ := args
    match L, hs with
    | [w0], _ => exact ⟨w0, rfl⟩
  have hw := fun d (hd : d ∈ tables_1) => atoms_spec (ws := Jvm.Cond.code x code maxLocals ret :: tables_1) hat d (List.mem_cons_of_mem _ hd)
  have hfit : Fit s := fun {y c} hc i hi => by
    obtain ⟨ha, rfl⟩ := Array.getElem?_eq_some_iff.mp hc
    have q := List.all_eq_true.mp ((Array.all_eq_true_iff_forall_mem.mp hF) _ (Array.getElem_mem ha)) i (List.mem_range.mpr hi)
    simpa [Array.getElem?_eq_getElem hi] using q
  obtain ⟨i0, ei0⟩ := is_v g4
  obtain rfl : w0 = (.int i0) := Option.some.inj ei0
  obtain ⟨n, o, h1, h2, h3, _, L, rfl, ⟨rfl, N⟩, hq⟩ := rm_0 l s _ hw tables_1 i0 s.heap s.heap.size (Nat.le_refl _)  p e ha hc hk s m _ below hf ((Spec.applies_iff_loose hf).mp happ).1 ⟨rfl, State.Warmed39.refl s, rfl⟩ trivial
  refine ⟨n, _, h1, h2, h3, hpost _ _ _ _ _ _ ⟨Cond.after_iff.mpr rfl, Cond.after_iff.mpr (eq_i res_at (Term.int_eval (1)) rfl), trivial⟩ ⟨hq.1, hq.2.1, (hq.2.2.sift fun y hy => Or.inr (N y hy)).mono (by decide) (by decide)⟩⟩
theorem main_1_1 : Claimed_1_1 := comes_1 fun _ _ _ _ _ _ h hF => ⟨h.1, hF⟩
theorem main_1_2 : Claimed_1_2 := comes_1 fun _ _ _ _ _ _ h hF => ⟨h.2.1, hF⟩
end Jvm.Pilot.@@N@@
namespace Jvm.Pilot.@@N@@
open Jvm Jvm.ClassFile Sem Op Lib Jvm.Free Jvm.Stand Jvm.Pilot.@@N@@.Jvm.D
/-! MADE BY PROGRAM (witnessworld.py) out of the Statement's table words and the real class files: 9 classes; the members and pool entries that the words name. The judged class is class 1, her method 1. -/
namespace start1
open Jvm.ClassFile
def u (s : String) : CpInfo := .utf8 (stringToUtf16 s)
/-- a pool by its gaps: so many unusable entries, then the entry; so many at the end -/
def gap : Nat → List CpInfo → List CpInfo
  | 0, r => r
  | n + 1, r => .unusable :: gap n r
def poolList (es : List (Nat × CpInfo)) (last : Nat) : List CpInfo := es.foldr (fun e r => gap e.1 (e.2 :: r)) (gap last [])
def pool (es : List (Nat × CpInfo)) (last : Nat) : Array CpInfo := ⟨poolList es last⟩
def fileOf (pool : Array CpInfo) (this : Nat) (attrs : Array Attribute := #[]) (ms : Array MethodInfo := #[]) (fl : Nat := 33) (sup : Nat := 0) (ifs : Array Nat := #[]) (fds : Array FieldInfo := #[]) : ClassFile where
  minorVersion := 0
  majorVersion := 65
  constantPool := pool
  accessFlags := fl
  thisClass := this
  superClass := sup
  interfaces := ifs
  fields := fds
  methods := ms
  attributes := attrs
def plain (name : String) (sup : Option ClassId) : Class where
  name := name
  kind := .ordinary
  loader := none
  accessFlags := 33
  super := sup
  interfaces := #[]
  cf := none
  fields := #[]
  methods := #[]
  instanceTypes := #[]
  staticTypes := #[]
  resolved := #[]
  callSites := []
  init := .initialized
  statics := none
  mirror := none

def pool0 : Array CpInfo := pool [(5, u "<init>"), (0, u "()V"), (1, .class_ 10), (1, u "java/lang/Object")] 113

def k0m0 : Method := { name := "<init>", desc := "()V", sig := { parameters := [], returnType := none }, accessFlags := 1, code := none }
/-- java/lang/Object -/
def k0 : Class := { plain "java/lang/Object" none with
  accessFlags := 33
  interfaces := #[]
  cf := some (fileOf pool0 8 #[] #[{ accessFlags := 1, nameIndex := 5, descriptorIndex := 6, attributes := #[] }] 33 0 #[] #[])
  fields := #[]
  methods := #[k0m0]
  instanceTypes := #[]
  staticTypes := #[]
  resolved := Array.replicate 124 none
  statics := none }

def pool1 : Array CpInfo := pool [(2, .class_ 4), (1, u "java/lang/Object"), (0, u "<init>"), (0, u "()V"), (0, .double 4696837146684686336), (1, .integer 559000), (0, .methodref 11 12), (0, .class_ 13), (0, .nameAndType 14 15), (0, u "com/example/beanjector/beanjector/bench/StartupBenchmark"), (0, u "meetsPeakTarget"), (0, u "(D)Z"), (0, .class_ 17), (0, u "com/example/beanjector/beanjector/bench/StartupBenchmarkMeetsPeakTargetPinLaw"), (2, u "law"), (0, u "(I)Z")] 3

def k1m0 : Method := { name := "<init>", desc := "()V", sig := { parameters := [], returnType := none }, accessFlags := 2, code := none }
def k1c1 : Code := { maxStack := 4, maxLocals := 4, code := code, exceptionTable := #[], attributes := #[] }
def k1m1 : Method := { name := "law", desc := "(I)Z", sig := { parameters := [.int], returnType := some .boolean }, accessFlags := 9, code := some k1c1 }
/-- com/example/beanjector/beanjector/bench/StartupBenchmarkMeetsPeakTargetPinLaw -/
def k1 : Class := { plain "com/example/beanjector/beanjector/bench/StartupBenchmarkMeetsPeakTargetPinLaw" (some 0) with
  accessFlags := 49
  interfaces := #[]
  cf := some (fileOf pool1 16 #[] #[{ accessFlags := 2, nameIndex := 5, descriptorIndex := 6, attributes := #[] }, { accessFlags := 9, nameIndex := 20, descriptorIndex := 21, attributes := #[] }] 49 2 #[] #[])
  fields := #[]
  methods := #[k1m0, k1m1]
  instanceTypes := #[]
  staticTypes := #[]
  resolved := Array.replicate 25 none
  statics := none }

def pool2 : Array CpInfo := pool [(2, .class_ 4), (1, u "java/lang/Object"), (0, u "<init>"), (0, u "()V"), (85, .class_ 94), (1, u "com/example/beanjector/beanjector/bench/StartupBenchmark"), (52, u "(D)Z"), (17, .double 4603210243928676631), (3, u "meetsPeakTarget"), (39, u "WALL_TARGET"), (0, u "D"), (1, u "PEAK_TARGET"), (0, u "PAIRS"), (0, u "I")] 32

def k2m0 : Method := { name := "<init>", desc := "()V", sig := { parameters := [], returnType := none }, accessFlags := 2, code := none }
def k2c1 : Code := { maxStack := 4, maxLocals := 2, code := prog_26_method_5_code, exceptionTable := #[], attributes := #[] }
def k2m1 : Method := { name := "meetsPeakTarget", desc := "(D)Z", sig := { parameters := [.double], returnType := some .boolean }, accessFlags := 8, code := some k2c1 }
/-- com/example/beanjector/beanjector/bench/StartupBenchmark -/
def k2 : Class := { plain "com/example/beanjector/beanjector/bench/StartupBenchmark" (some 0) with
  accessFlags := 33
  interfaces := #[]
  cf := some (fileOf pool2 92 #[] #[{ accessFlags := 2, nameIndex := 5, descriptorIndex := 6, attributes := #[] }, { accessFlags := 8, nameIndex := 169, descriptorIndex := 147, attributes := #[] }] 33 2 #[] #[{ accessFlags := 24, nameIndex := 209, descriptorIndex := 210, attributes := #[] }, { accessFlags := 24, nameIndex := 212, descriptorIndex := 210, attributes := #[] }, { accessFlags := 24, nameIndex := 213, descriptorIndex := 214, attributes := #[] }])
  fields := #[{ name := "WALL_TARGET", type := .double, accessFlags := 24, slot := 0, constantValue := 0 }, { name := "PEAK_TARGET", type := .double, accessFlags := 24, slot := 1, constantValue := 0 }, { name := "PAIRS", type := .int, accessFlags := 24, slot := 2, constantValue := 0 }]
  methods := #[k2m0, k2m1]
  instanceTypes := #[]
  staticTypes := #[.double, .double, .int]
  resolved := Array.replicate 247 none
  statics := none }

def pool3 : Array CpInfo := pool [(1, u "java/lang/Cloneable"), (0, .class_ 1), (0, u "java/lang/Object"), (0, .class_ 3)] 3

/-- java/lang/Cloneable -/
def k3 : Class := { plain "java/lang/Cloneable" (some 0) with
  accessFlags := 1537
  interfaces := #[]
  cf := some (fileOf pool3 2 #[] #[] 1537 4 #[] #[])
  fields := #[]
  methods := #[]
  instanceTypes := #[]
  staticTypes := #[]
  resolved := Array.replicate 8 none
  statics := none }

def pool4 : Array CpInfo := pool [(1, u "java/io/Serializable"), (0, .class_ 1), (0, u "java/lang/Object"), (0, .class_ 3)] 3

/-- java/io/Serializable -/
def k4 : Class := { plain "java/io/Serializable" (some 0) with
  accessFlags := 1537
  interfaces := #[]
  cf := some (fileOf pool4 2 #[] #[] 1537 4 #[] #[])
  fields := #[]
  methods := #[]
  instanceTypes := #[]
  staticTypes := #[]
  resolved := Array.replicate 8 none
  statics := none }

/-- the primitive byte -/
def k5 : Class := { plain "byte" none with kind := .primitive 'B', accessFlags := 0x411 }
/-- [B -/
def k6 : Class := { plain "[B" (some 0) with kind := .array 5 .byte, interfaces := #[3, 4], accessFlags := 1041 }

/-- the primitive int -/
def k7 : Class := { plain "int" none with kind := .primitive 'I', accessFlags := 0x411 }
/-- [I -/
def k8 : Class := { plain "[I" (some 0) with kind := .array 7 .int, interfaces := #[3, 4], accessFlags := 1041 }

def heap : Heap := #[]
def classes : Array Class := #[k0, k1, k2, k3, k4, k5, k6, k7, k8]
def interned : List (Array UInt16 × Addr) := []
def slotsUsed : Nat := 0
def theMethod : MethodId := ⟨1, 1⟩
def args0 : Array Value := #[.int 5]
def aboutOver (below : List Frame) : State where
  vm := { classes := classes, interned := interned.toArray }
  heap := heap
  slotsUsed := slotsUsed
  threads := #[{ frames := .invoking theMethod args0 :: below }]
def below0 : List Frame := [.native { method := ⟨0, 0⟩, args := #[] }]
def about1 : State := aboutOver below0
def p0 : Program := .bare "" "" ""
def e0 : Env := launch0.env 0 0 0
theorem w_frames : about1.frames = Frame.invoking theMethod args0 :: below0 := rfl
set_option maxRecDepth 65536 in
theorem w_args : argsFit about1.vm theMethod args0 = true := by decide +kernel
set_option maxRecDepth 65536 in
theorem w_heap : heapFits about1 = true := by decide +kernel
set_option maxRecDepth 65536 in
theorem w_runnable : about1.curStatus? = some .runnable := by decide +kernel
set_option maxRecDepth 65536 in
theorem w_alone : about1.alone = true := by decide +kernel
set_option maxRecDepth 65536 in
theorem w_named : about1.methodNamed? x = some theMethod := by decide +kernel
set_option maxRecDepth 65536 in
theorem w_hears : about1.hears theMethod below0 = true := by decide +kernel
set_option maxRecDepth 65536 in
theorem w_ripe : about1.ripe theMethod args0 below0 = true := by decide +kernel
theorem w_running : about1.status = .running := rfl
set_option maxRecDepth 65536 in
theorem w_room : about1.hasRoom e0.platform room_1 = true :=
  launch0.hasRoom_least _ room_1 (by decide +kernel) (by decide +kernel) (by decide +kernel) (by decide +kernel) (by decide +kernel) (by decide +kernel)
theorem allAtoms_all (ts : List Jvm.Cond) (a : Array Jvm.Value) (st : Jvm.State) : (allAtoms ts).before a st = ts.all (fun c => c.before a st) := by
  induction ts with
  | nil => rfl
  | cons c t ih =>
    show (Jvm.Cond.and c (allAtoms t)).before a st = _
    rw [Jvm.Cond.before_and, ih, List.all_cons]
def words1 : List Jvm.Cond := Jvm.Cond.code x code maxLocals ret :: tables_1
/-- a 'code' word, met by the world's own term for the bytes: nothing is compared byte by byte -/
theorem code_word {y : MethodName} {bytes : ByteArray} {mx : Nat} {rt : Option FieldType} {a : Array Value} {s : State} {m : MethodId} {meth : Method} {c : Code} (h1 : s.methodNamed? y = some m) (h2 : s.vm.method? m = some meth) (h3 : meth.code = some c) (h4 : c.code = bytes)
    (h5 : (c.maxLocals == mx && c.exceptionTable.isEmpty && decide (c.maxStack ≤ mostOperands) && decide (meth.sig.returnType = rt) && !meth.locks && decide (parseMethodDescriptor y.desc = some meth.sig)) = true) : (Jvm.Cond.code y bytes mx rt).before a s = true := by
  simp only [Bool.and_eq_true, beq_iff_eq, Bool.not_eq_true', decide_eq_true_eq] at h5
  obtain ⟨⟨⟨⟨⟨g1, g2⟩, g3⟩, g4⟩, g5⟩, g6⟩ := h5
  simp [Cond.before, Cond.holds, Cond.value, h1, h2, h3, h4, g1, g2, g3, g4, g5, g6]
def isCode : Jvm.Cond → Bool
  | .code _ _ _ _ => true
  | _ => false
theorem all_split {L : List Jvm.Cond} {P : Jvm.Cond → Bool} (h1 : L.all (fun c => isCode c || P c) = true) (h2 : ∀ c ∈ L.filter isCode, P c = true) : L.all P = true := by
  refine List.all_eq_true.mpr fun c hc => ?_
  have h := List.all_eq_true.mp h1 c hc
  rcases Bool.eq_false_or_eq_true (isCode c) with hi | hi
  · exact h2 c (List.mem_filter.mpr ⟨hc, hi⟩)
  · simpa [hi] using h
set_option maxRecDepth 65536 in
theorem w_c0 : (Jvm.Cond.code x code maxLocals ret).before args0 about1 = true := code_word (m := ⟨1, 1⟩) (meth := k1m1) (c := k1c1) (by decide +kernel) rfl rfl rfl (by decide +kernel)
set_option maxRecDepth 65536 in
theorem w_c1 : (Jvm.Cond.code ({ cls := "com/example/beanjector/beanjector/bench/StartupBenchmark", name := "meetsPeakTarget", desc := "(D)Z" } : Jvm.MethodName) prog_26_method_5_code (2 : Nat) (Option.some Jvm.ClassFile.FieldType.boolean)).before args0 about1 = true := code_word (m := ⟨2, 1⟩) (meth := k2m1) (c := k2c1) (by decide +kernel) rfl rfl rfl (by decide +kernel)
def codes1 : List Jvm.Cond := [Jvm.Cond.code x code maxLocals ret, Jvm.Cond.code ({ cls := "com/example/beanjector/beanjector/bench/StartupBenchmark", name := "meetsPeakTarget", desc := "(D)Z" } : Jvm.MethodName) prog_26_method_5_code (2 : Nat) (Option.some Jvm.ClassFile.FieldType.boolean)]
set_option maxRecDepth 65536 in
theorem codes_eq : words1.filter isCode = codes1 := rfl
theorem w_codes : ∀ c ∈ words1.filter isCode, c.before args0 about1 = true := by
  rw [codes_eq]
  intro c hc
  simp only [codes1, List.mem_cons, List.not_mem_nil, or_false] at hc
  rcases hc with rfl | rfl
  · exact w_c0
  · exact w_c1
set_option maxRecDepth 65536 in
theorem w_t1 : words1.all (fun c => isCode c || c.before args0 about1) = true := by decide +kernel
theorem w_tables : (allAtoms (Jvm.Cond.code x code maxLocals ret :: tables_1)).before args0 about1 = true := by
  rw [allAtoms_all]
  show words1.all (fun c => c.before args0 about1) = true
  refine all_split ?_ w_codes
  rw [w_t1]
set_option maxRecDepth 65536 in
theorem w_case : (Jvm.Cond.and given_1 narrow_1).before args0 about1 = true := by decide +kernel
theorem w_applies : (headSpec (Jvm.Cond.code x code maxLocals ret :: tables_1) room_1).applies x e0.platform about1 = true :=
  (Spec.applies_iff w_frames).mpr ⟨w_running, w_runnable, w_alone, w_named, w_hears, w_ripe, w_room, w_tables⟩
theorem atStart : AtStart classFile x code maxLocals ret World_1 tables_1 room_1 Calls_1 rest_1 Pre_1 launch0 p0 e0 about1 theMethod args0 below0 :=
  ⟨lists_1, trivial, launch0.admits_env _ _ _, launch0.least_env, fairChoices_fair.cas, fairChoices_fair.clock, w_frames, w_args, w_heap, w_applies, trivial, trivial, w_case⟩
end start1
theorem witness_1 : WitnessClaimed_1 := ⟨start1.p0, start1.e0, start1.about1, start1.theMethod, start1.args0, start1.below0, start1.atStart⟩
end Jvm.Pilot.@@N@@
