import JvmDerived
import JvmDerived.Pilot.@@N@@Statement
import JvmDerived.Pilot.@@N@@Code
set_option linter.unusedVariables false
set_option linter.unusedSimpArgs false
namespace Jvm.RoadKit
open Sem ClassFile Op Lib Jvm.Stand Jvm.Free Jvm.LawKit
section New
variable {p : Program} {l : Launch} {e : Env} {R : Room} {s : State} {m : MethodId} {args : Array Value} {below : List Frame} {meth : Method} {c : Code} {T : State} {locs : List Loc} {cells slots : Nat}
theorem retI (X : Stand p l e R s m args below meth c T locs cells slots) (hx : p.tables.exec = Jvm.exec) {pc : Nat} {Ls : Array Slot} {z : Int32} {rest : List Value} (hret : meth.sig.returnType = some .int) (hd : decode c.code pc = .ok (.ireturn, 1)) {fs : List Frame}
    (hl : ∀ (f : JFrame) (acts : List Action), f.method = m → f.locked = none → f.entered = [] → (doReturn e (T.setTop f) acts (some (.int z))).1 = T.setFrames fs) : Steps p.tables e below (T.setTop (mkF m pc Ls (.int z :: rest))) (T.setFrames fs) := by
  have hm' : T.vm.method? m = some meth := X.method'
  have hn : narrow .int (.int z) = .int z := rfl
  show Steps p.tables e below (T.setTop { method := m, pc := pc, locals := Ls, stack := _ :: rest, locked := none }) _
  jvm_step X.here [X.here.top, hx, hd, hm', hret, hn]
  first | (intro acts; rw [hl _ acts rfl rfl rfl]) | rw [hl _ _ rfl rfl rfl]
  exact Steps.refl _
end New
end Jvm.RoadKit
/- laws to paste: Road.backV (cut by pick.py; bodies as the Statement names them) -/
namespace Jvm.Pilot.@@N@@
namespace StrChars
open Jvm Sem ClassFile Op Lib Jvm.Stand Jvm.Free.XT Jvm.Free.ALB Jvm.Free.JM Jvm.Free
open Jvm.Lib.Cold (StaticIs)
/-- a char array whose places are chars -/
def Ch (a : Addr) (A : Cell) (U : State) : Prop := Arr .char a A U ∧ Typed .char A
theorem Ch.mv {a : Addr} {A : Cell} {U U' : State} (h : Ch a A U) (hal : U.vm.Alike U'.vm) (hh : U'.heap = U.heap) : Ch a A U' := ⟨h.1.mv hal hh, h.2⟩
theorem Ch.keep {a : Addr} {A : Cell} {U U' : State} (h : Ch a A U) (hal : U.vm.Alike U'.vm) (hk : U'.heap[a]? = some A) : Ch a A U' := ⟨h.1.keep hal hk, h.2⟩
/-- what place i of a char[]'s cell holds -/
def cv (A : Cell) (i : Nat) : Int32 := match A.slots[i]? with | some (.int x) => x | _ => 0
theorem Ch.get {a : Addr} {A : Cell} {U : State} (h : Ch a A U) {i : Nat} (hi : i < A.slots.size) : A.slots[i]? = some (.int (cv A i)) := by
  have e := Array.getElem?_eq_getElem hi
  have f := h.2 i _ e
  unfold cv; rw [e]
  generalize A.slots[i] = v at f
  cases v <;> simp [fits] at f ⊢
/-- the byte that i2b leaves of a char -/
def lo8 (x : Int32) : Int32 := x.toInt8.toInt32
theorem fits_lo8 (y : Int32) : fits .byte (.int (lo8 y)) = true := by
  have h1 := y.toInt8.le_toInt
  have h2 := y.toInt8.toInt_lt
  simp only [lo8, fits, Bool.and_eq_true, decide_eq_true_eq, Int32.le_iff_toInt_le, Int8.toInt_toInt32, show (-128 : Int32).toInt = -128 from by decide, show (127 : Int32).toInt = 127 from by decide]
  omega
/-- A' is A but that each place j of lo .. hi - 1 holds f j -/
def Laid (A A' : Cell) (lo hi : Nat) (f : Nat → Value) : Prop := A'.cls = A.cls ∧ A'.vm = A.vm ∧ A'.slots.size = A.slots.size ∧ ∀ i, A'.slots[i]? = if lo ≤ i ∧ i < hi then some (f i) else A.slots[i]?
theorem Laid.zero (A : Cell) (lo : Nat) (f : Nat → Value) : Laid A A lo (lo + 0) f := ⟨rfl, rfl, rfl, fun i => by rw [if_neg (by omega)]⟩
theorem Laid.step {A Ak : Cell} {lo k : Nat} {f : Nat → Value} {v : Value} (h : Laid A Ak lo k f) (hlo : lo ≤ k) (hk : k < Ak.slots.size) (hv : v = f k) : Laid A (Ak.setSlot k v) lo (k + 1) f := by
  refine ⟨h.1, h.2.1, by simpa [Cell.setSlot] using h.2.2.1, fun i => ?_⟩
  by_cases e : k = i
  · subst e; rw [Cell.slots_setSlot_self v hk, if_pos (by omega), hv]
  · rw [Cell.slots_setSlot_ne v e, h.2.2.2 i]
    by_cases q : lo ≤ i ∧ i < k
    · rw [if_pos q, if_pos (by omega)]
    · rw [if_neg q, if_neg (by omega)]
def U16 : String := "java/lang/StringUTF16"
namespace Cmp5
def yN : MethodName := ⟨"java/lang/StringUTF16", "compress", "([CI[BII)I"⟩
abbrev yB : ByteArray := jdk_52_method_21_code
theorem d0 : decode yB 0 = .ok (.iconst 0, 1) := by decide +kernel
theorem d1 : decode yB 1 = .ok (.istore 5, 2) := by decide +kernel
theorem d3 : decode yB 3 = .ok (.iload 5, 2) := by decide +kernel
theorem d5 : decode yB 5 = .ok (.iload 4, 2) := by decide +kernel
theorem d7 : decode yB 7 = .ok (.if_icmp (.ge) 37, 3) := by decide +kernel
theorem d10 : decode yB 10 = .ok (.aload_n 0, 1) := by decide +kernel
theorem d11 : decode yB 11 = .ok (.iload_n 1, 1) := by decide +kernel
theorem d12 : decode yB 12 = .ok (.caload, 1) := by decide +kernel
theorem d13 : decode yB 13 = .ok (.istore 6, 2) := by decide +kernel
theorem d15 : decode yB 15 = .ok (.iload 6, 2) := by decide +kernel
theorem d17 : decode yB 17 = .ok (.sipush 255, 3) := by decide +kernel
theorem d20 : decode yB 20 = .ok (.if_icmp (.le) 6, 3) := by decide +kernel
theorem d26 : decode yB 26 = .ok (.aload_n 2, 1) := by decide +kernel
theorem d27 : decode yB 27 = .ok (.iload_n 3, 1) := by decide +kernel
theorem d28 : decode yB 28 = .ok (.iload 6, 2) := by decide +kernel
theorem d30 : decode yB 30 = .ok (.i2b, 1) := by decide +kernel
theorem d31 : decode yB 31 = .ok (.bastore, 1) := by decide +kernel
theorem d32 : decode yB 32 = .ok (.iinc 1 1, 3) := by decide +kernel
theorem d35 : decode yB 35 = .ok (.iinc 3 1, 3) := by decide +kernel
theorem d38 : decode yB 38 = .ok (.iinc 5 1, 3) := by decide +kernel
theorem d41 : decode yB 41 = .ok (.goto (-38), 3) := by decide +kernel
theorem d44 : decode yB 44 = .ok (.iload 4, 2) := by decide +kernel
theorem d46 : decode yB 46 = .ok (.ireturn, 1) := by decide +kernel
def site : List Cond := []
def tab : Cond := tabOf yN yB 7 (some .int) site
def P (b : Addr) (A : Cell) (d : Addr) (B : Cell) (o q len : Nat) (args : Array Value) (s : State) : Prop := args = #[.ref b, .int (Int32.ofNat o), .ref d, .int (Int32.ofNat q), .int (Int32.ofNat len)] ∧ Ch b A s ∧ Arr .byte d B s ∧ b ≠ d ∧ o + len ≤ A.slots.size ∧ q + len ≤ B.slots.size ∧ ∀ i, i < len → ¬ 255 < cv A (o + i)
def E (b : Addr) (A : Cell) (d : Addr) (B : Cell) (o q len : Nat) (r : Option Value) (s u : State) : Prop := r = some (.int (Int32.ofNat len)) ∧ ∃ B', Put d B' s u ∧ Laid B B' q (q + len) (fun j => Value.int (lo8 (cv A (o + (j - q)))))
/-- no char of the range above 255: len; the places written hold each char's low byte -/
theorem law (l : Launch) (b : Addr) (A : Cell) (d : Addr) (B : Cell) (o q len : Nat) : Law l yN 5 5 0 0 yB 7 (some .int) site (P b A d B o q len) (E b A d B o q len) (copyLocs d q len) 0 0 := by
  refine Law.of_walk (plainFor_of_name (by decide +kernel)) (by decide +kernel) (by decide +kernel) (by decide) (fun _ _ h => by rw [h.1]; rfl) (fun _ U U' hal hh h => ⟨h.1, h.2.1.mv hal hh, h.2.2.1.mv hal hh, h.2.2.2⟩) (fun r U U' V V' h1 hal h2 h => ⟨h.1, h.2.elim fun B' q => ⟨B', q.1.mv h1 h2, q.2⟩⟩) ?_
  intro p e s m args below meth c s₁ X0 hexec hbytes hml hret hlk hnm hown hh0 W hP
  obtain ⟨rfl, hA, hB, hne, l1, l2, hp⟩ := hP
  have c1 : Steps p.tables e below (s₁.setTop (entryFrame m #[.ref b, .int (Int32.ofNat o), .ref d, .int (Int32.ofNat q), .int (Int32.ofNat len)] 7)) (s₁.setTop (mkF m 0 #[.val (.ref b), .val (.int (Int32.ofNat o)), .val (.ref d), .val (.int (Int32.ofNat q)), .val (.int (Int32.ofNat len)), .unset, .unset] [])) := entry rfl
  have hA0 := hA.1.mv X0.warmed.alike hh0
  have hB0 := hB.mv X0.warmed.alike hh0
  have a31 := hA.1.2.2.2
  have c2 : Steps p.tables e below (s₁.setTop (entryFrame m #[.ref b, .int (Int32.ofNat o), .ref d, .int (Int32.ofNat q), .int (Int32.ofNat len)] 7)) (s₁.setTop (mkF m 3 #[.val (.ref b), .val (.int (Int32.ofNat o)), .val (.ref d), .val (.int (Int32.ofNat q)), .val (.int (Int32.ofNat len)), .val (.int 0), .unset] [])) := c1.trans (by
    refine iconstV X0.here hexec rfl 0 (hb hbytes d0) (by decide) ?_
    refine XS.istore X0.here hexec rfl (hb hbytes d1) rfl rfl ?_
    exact Steps.refl _)
  have loop : ∀ (r i : Nat), i + r = len → ∀ (z : Slot), (z = .unset ∨ ∃ w, z = .val w ∧ w.category = 1) → ∀ (Tl : State) (Bk : Cell), Stand p l e { frames := 0, locals := 0, cells := 0, slots := 0 } s m #[.ref b, .int (Int32.ofNat o), .ref d, .int (Int32.ofNat q), .int (Int32.ofNat len)] below meth c Tl ([] ++ copyLocs d q i) 0 0 → Put d Bk s₁ Tl → Laid B Bk q (q + i) (fun j => Value.int (lo8 (cv A (o + (j - q))))) →
      Steps p.tables e below (s₁.setTop (entryFrame m #[.ref b, .int (Int32.ofNat o), .ref d, .int (Int32.ofNat q), .int (Int32.ofNat len)] 7)) (Tl.setTop (mkF m 3 #[.val (.ref b), .val (.int (Int32.ofNat (o + i))), .val (.ref d), .val (.int (Int32.ofNat (q + i))), .val (.int (Int32.ofNat len)), .val (.int (Int32.ofNat i)), z] [])) → ∃ (T' : State) (B' : Cell) (z' : Slot), Stand p l e { frames := 0, locals := 0, cells := 0, slots := 0 } s m #[.ref b, .int (Int32.ofNat o), .ref d, .int (Int32.ofNat q), .int (Int32.ofNat len)] below meth c T' ([] ++ copyLocs d q len) 0 0 ∧ Put d B' s₁ T' ∧ Laid B B' q (q + len) (fun j => Value.int (lo8 (cv A (o + (j - q))))) ∧
      Steps p.tables e below (s₁.setTop (entryFrame m #[.ref b, .int (Int32.ofNat o), .ref d, .int (Int32.ofNat q), .int (Int32.ofNat len)] 7)) (T'.setTop (mkF m 3 #[.val (.ref b), .val (.int (Int32.ofNat (o + len))), .val (.ref d), .val (.int (Int32.ofNat (q + len))), .val (.int (Int32.ofNat len)), .val (.int (Int32.ofNat len)), z'] [])) := by
    intro r
    induction r with
    | zero =>
      intro i hi z hz Tl Bk Xl pl fl cl
      have hil : i = len := by omega
      rw [hil] at Xl fl cl
      exact ⟨Tl, Bk, z, Xl, pl, fl, cl⟩
    | succ r ih =>
      intro i hi z hz Tl Bk Xl pl fl cl
      have all := X0.warmed.alike.symm.trans Xl.warmed.alike
      have hAl := hA0.keep all (pl.other hne hA0.1)
      have hBk := hB0.like all pl.1 fl.1 fl.2.1 fl.2.2.1
      have hlt : q + i < Bk.slots.size := by rw [fl.2.2.1]; omega
      have c3 : Steps p.tables e below (s₁.setTop (entryFrame m #[.ref b, .int (Int32.ofNat o), .ref d, .int (Int32.ofNat q), .int (Int32.ofNat len)] 7)) (Tl.setTop (mkF m 12 #[.val (.ref b), .val (.int (Int32.ofNat (o + i))), .val (.ref d), .val (.int (Int32.ofNat (q + i))), .val (.int (Int32.ofNat len)), .val (.int (Int32.ofNat i)), z] [.int (Int32.ofNat (o + i)), .ref b])) := cl.trans (by
        refine XS.iload Xl.here hexec rfl (hb hbytes d3) rfl ?_
        refine XS.iload Xl.here hexec rfl (hb hbytes d5) rfl ?_
        refine XS.icmpNo Xl.here hexec rfl (hb hbytes d7) rfl (ii_ge_f (lt32 (by omega) (by omega))) ?_
        refine XS.aloadN Xl.here hexec rfl (hb hbytes d10) rfl rfl ?_
        refine XS.iloadN Xl.here hexec rfl (hb hbytes d11) rfl ?_
        exact Steps.refl _)
      have c4 : Steps p.tables e below (s₁.setTop (entryFrame m #[.ref b, .int (Int32.ofNat o), .ref d, .int (Int32.ofNat q), .int (Int32.ofNat len)] 7)) (Tl.setTop (mkF m 13 #[.val (.ref b), .val (.int (Int32.ofNat (o + i))), .val (.ref d), .val (.int (Int32.ofNat (q + i))), .val (.int (Int32.ofNat len)), .val (.int (Int32.ofNat i)), z] [.int (cv A (o + i))])) := c3.trans (by
        refine Xl.aget hexec hAl rfl (hA.get (i := o + i) (by omega)) rfl rfl (hb hbytes d12) ?_
        exact Steps.refl _)
      have c5 : Steps p.tables e below (s₁.setTop (entryFrame m #[.ref b, .int (Int32.ofNat o), .ref d, .int (Int32.ofNat q), .int (Int32.ofNat len)] 7)) (Tl.setTop (mkF m 15 #[.val (.ref b), .val (.int (Int32.ofNat (o + i))), .val (.ref d), .val (.int (Int32.ofNat (q + i))), .val (.int (Int32.ofNat len)), .val (.int (Int32.ofNat i)), .val (.int (cv A (o + i)))] [])) := c4.trans (by
        refine XS.istoreS Xl.here hexec rfl (hb hbytes d13) rfl rfl hz ?_
        exact Steps.refl _)
      have c6 : Steps p.tables e below (s₁.setTop (entryFrame m #[.ref b, .int (Int32.ofNat o), .ref d, .int (Int32.ofNat q), .int (Int32.ofNat len)] 7)) (Tl.setTop (mkF m 31 #[.val (.ref b), .val (.int (Int32.ofNat (o + i))), .val (.ref d), .val (.int (Int32.ofNat (q + i))), .val (.int (Int32.ofNat len)), .val (.int (Int32.ofNat i)), .val (.int (cv A (o + i)))] [.int (lo8 (cv A (o + i))), .int (Int32.ofNat (q + i)), .ref d])) := c5.trans (by
        refine XS.iload Xl.here hexec rfl (hb hbytes d15) rfl ?_
        refine sipushV Xl.here hexec rfl 255 (hb hbytes d17) (by decide) ?_
        refine XS.icmpYes Xl.here hexec rfl (pc0 := 20) rfl (hb hbytes d20) rfl (ii_le_t (hp i (by omega))) (by decide) rfl ?_
        refine XS.aloadN Xl.here hexec rfl (hb hbytes d26) rfl rfl ?_
        refine XS.iloadN Xl.here hexec rfl (hb hbytes d27) rfl ?_
        refine XS.iload Xl.here hexec rfl (hb hbytes d28) rfl ?_
        refine i2b Xl.here hexec rfl (hb hbytes d30) rfl ?_
        exact Steps.refl _)
      obtain ⟨T7, X7, p7, st7⟩ := Xl.aput hexec hBk rfl hlt rfl (fits_lo8 (cv A (o + i))) (g := (mkF m 31 #[.val (.ref b), .val (.int (Int32.ofNat (o + i))), .val (.ref d), .val (.int (Int32.ofNat (q + i))), .val (.int (Int32.ofNat len)), .val (.int (Int32.ofNat i)), .val (.int (cv A (o + i)))] [.int (lo8 (cv A (o + i))), .int (Int32.ofNat (q + i)), .ref d])) rfl (rest := []) rfl (hb hbytes d31)
      have c8 : Steps p.tables e below (s₁.setTop (entryFrame m #[.ref b, .int (Int32.ofNat o), .ref d, .int (Int32.ofNat q), .int (Int32.ofNat len)] 7)) (T7.setTop (mkF m 32 #[.val (.ref b), .val (.int (Int32.ofNat (o + i))), .val (.ref d), .val (.int (Int32.ofNat (q + i))), .val (.int (Int32.ofNat len)), .val (.int (Int32.ofNat i)), .val (.int (cv A (o + i)))] [])) := c6.trans (st7 _ (Steps.refl _))
      have c9 : Steps p.tables e below (s₁.setTop (entryFrame m #[.ref b, .int (Int32.ofNat o), .ref d, .int (Int32.ofNat q), .int (Int32.ofNat len)] 7)) (T7.setTop (mkF m 3 #[.val (.ref b), .val (.int (Int32.ofNat (o + i) + 1)), .val (.ref d), .val (.int (Int32.ofNat (q + i) + 1)), .val (.int (Int32.ofNat len)), .val (.int (Int32.ofNat i + 1)), .val (.int (cv A (o + i)))] [])) := c8.trans (by
        refine iincV X7.here hexec rfl 1 (hb hbytes d32) (by decide) rfl rfl ?_
        refine iincV X7.here hexec rfl 1 (hb hbytes d35) (by decide) rfl rfl ?_
        refine iincV X7.here hexec rfl 1 (hb hbytes d38) (by decide) rfl rfl ?_
        refine XS.goto X7.here hexec rfl (pc0 := 41) rfl (hb hbytes d41) (by decide) rfl ?_
        exact Steps.refl _)
      have c10 : Steps p.tables e below (s₁.setTop (entryFrame m #[.ref b, .int (Int32.ofNat o), .ref d, .int (Int32.ofNat q), .int (Int32.ofNat len)] 7)) (T7.setTop (mkF m 3 #[.val (.ref b), .val (.int (Int32.ofNat (o + (i + 1)))), .val (.ref d), .val (.int (Int32.ofNat (q + (i + 1)))), .val (.int (Int32.ofNat len)), .val (.int (Int32.ofNat (i + 1))), .val (.int (cv A (o + i)))] [])) := by
        have := c9
        rw [succ32, succ32, succ32] at this
        exact this
      exact ih (i + 1) (by omega) _ (Or.inr ⟨_, rfl, rfl⟩) T7 _ (by rw [copyLocs_step, ← List.append_assoc]; exact X7) (pl.trans p7) (fl.step (by omega) hlt (by simp)) c10
  obtain ⟨T9, B9, z9, X9, p9, f9, g9⟩ := loop len 0 (by omega) .unset (Or.inl rfl) s₁ B (by simpa [copyLocs] using X0) ⟨hB0.1, fun _ _ => rfl, rfl⟩ (Laid.zero _ _ _) c2
  have c11 : Steps p.tables e below (s₁.setTop (entryFrame m #[.ref b, .int (Int32.ofNat o), .ref d, .int (Int32.ofNat q), .int (Int32.ofNat len)] 7)) (T9.setTop (mkF m 46 #[.val (.ref b), .val (.int (Int32.ofNat (o + len))), .val (.ref d), .val (.int (Int32.ofNat (q + len))), .val (.int (Int32.ofNat len)), .val (.int (Int32.ofNat len)), z9] [.int (Int32.ofNat len)])) := g9.trans (by
    refine XS.iload X9.here hexec rfl (hb hbytes d3) rfl ?_
    refine XS.iload X9.here hexec rfl (hb hbytes d5) rfl ?_
    refine XS.icmpYes X9.here hexec rfl (pc0 := 7) rfl (hb hbytes d7) rfl (ii_ge_t (nlt32 (by omega) (Nat.le_refl _))) (by decide) rfl ?_
    refine XS.iload X9.here hexec rfl (hb hbytes d44) rfl ?_
    exact Steps.refl _)
  exact ⟨T9, some (.int (Int32.ofNat len)), _, _, _, X9, by simp, rfl, rfl, (fun h => by cases h), ⟨rfl, B9, p9.from hh0, f9⟩, fun fs hl => c11.trans (X9.ireturnOut hexec hret rfl (Or.inl rfl) (hb hbytes d46) hl)⟩
end Cmp5
namespace Cmp3
def yN : MethodName := ⟨"java/lang/StringUTF16", "compress", "([CII)[B"⟩
abbrev yB : ByteArray := jdk_52_method_16_code
theorem d0 : decode yB 0 = .ok (.iload_n 2, 1) := by decide +kernel
theorem d1 : decode yB 1 = .ok (.newarray .byte, 2) := by decide +kernel
theorem d3 : decode yB 3 = .ok (.astore_n 3, 1) := by decide +kernel
theorem d4 : decode yB 4 = .ok (.aload_n 0, 1) := by decide +kernel
theorem d5 : decode yB 5 = .ok (.iload_n 1, 1) := by decide +kernel
theorem d6 : decode yB 6 = .ok (.aload_n 3, 1) := by decide +kernel
theorem d7 : decode yB 7 = .ok (.iconst 0, 1) := by decide +kernel
theorem d8 : decode yB 8 = .ok (.iload_n 2, 1) := by decide +kernel
theorem d9 : decode yB 9 = .ok (.invokestatic 115, 3) := by decide +kernel
theorem d12 : decode yB 12 = .ok (.istore 4, 2) := by decide +kernel
theorem d14 : decode yB 14 = .ok (.iload 4, 2) := by decide +kernel
theorem d16 : decode yB 16 = .ok (.iload_n 2, 1) := by decide +kernel
theorem d17 : decode yB 17 = .ok (.if_icmp (.eq) 40, 3) := by decide +kernel
theorem d57 : decode yB 57 = .ok (.aload_n 3, 1) := by decide +kernel
theorem d58 : decode yB 58 = .ok (.areturn, 1) := by decide +kernel
def site : List Cond := [.arrayClass .byte, Cmp5.tab] ++ staticW U16 115 Cmp5.yN
def tab : Cond := tabOf yN yB 6 (some (.array .byte)) site
def P (b : Addr) (A : Cell) (o len : Nat) (args : Array Value) (s : State) : Prop := args = #[.ref b, .int (Int32.ofNat o), .int (Int32.ofNat len)] ∧ Ch b A s ∧ o + len ≤ A.slots.size ∧ len ≤ 536870912 ∧ ∀ i, i < len → ¬ 255 < cv A (o + i)
def E (b : Addr) (A : Cell) (o len : Nat) (r : Option Value) (s u : State) : Prop := NewArr .byte "[B" len (fun j => .int (lo8 (cv A (o + j)))) r s u ∧ u.heap.size = s.heap.size + 1
/-- no char of the range above 255: a new byte[] of their low bytes -/
theorem law (l : Launch) (b : Addr) (A : Cell) (o len : Nat) : Law l yN 3 3 1 18 yB 6 (some (.array .byte)) site (P b A o len) (E b A o len) [] 1 len := by
  refine Law.of_walk (plainFor_of_name (by decide +kernel)) (by decide +kernel) (by decide +kernel) (by decide) (fun _ _ h => by rw [h.1]; rfl) (fun _ U U' hal hh h => ⟨h.1, h.2.1.mv hal hh, h.2.2⟩) (fun r U U' V V' h1 hal h2 h => ⟨NewArr.mv r U U' V V' h1 hal h2 h.1, by rw [h1, h2]; exact h.2⟩) ?_
  intro p e s m args below meth c s₁ X0 hexec hbytes hml hret hlk hnm hown hh0 W hP
  obtain ⟨rfl, hA, l1, l2, hp⟩ := hP
  have a31 := hA.1.2.2.2
  have c1 : Steps p.tables e below (s₁.setTop (entryFrame m #[.ref b, .int (Int32.ofNat o), .int (Int32.ofNat len)] 6)) (s₁.setTop (mkF m 0 #[.val (.ref b), .val (.int (Int32.ofNat o)), .val (.int (Int32.ofNat len)), .unset, .unset, .unset] [])) := entry rfl
  have c2 : Steps p.tables e below (s₁.setTop (entryFrame m #[.ref b, .int (Int32.ofNat o), .int (Int32.ofNat len)] 6)) (s₁.setTop (mkF m 1 #[.val (.ref b), .val (.int (Int32.ofNat o)), .val (.int (Int32.ofNat len)), .unset, .unset, .unset] [.int (Int32.ofNat len)])) := c1.trans (by
    refine XS.iloadN X0.here hexec rfl (hb hbytes d0) rfl ?_
    exact Steps.refl _)
  obtain ⟨T3, B3, X3, ba3, bs3, bv3, bh3, bf3, st3⟩ := X0.anew hexec (atype := .byte) (wk W (.arrayClass .byte)) rfl (by show len * 1 ≤ _; omega) (by omega) (g := (mkF m 1 #[.val (.ref b), .val (.int (Int32.ofNat o)), .val (.int (Int32.ofNat len)), .unset, .unset, .unset] [.int (Int32.ofNat len)])) rfl (hb hbytes d1) (rest := []) rfl (Nat.le_refl _) (by show 0 + len ≤ len; omega)
  rw [hh0] at ba3 st3
  have kp3 : XT.Kept s T3 := (XT.Kept.of_eq hh0).push bh3
  have hA3 := hA.keep X3.warmed.alike (kp3 _ _ hA.1.1)
  have hne : b ≠ s.heap.size := hA.1.ne
  have c4 : Steps p.tables e below (s₁.setTop (entryFrame m #[.ref b, .int (Int32.ofNat o), .int (Int32.ofNat len)] 6)) (T3.setTop (mkF m 3 #[.val (.ref b), .val (.int (Int32.ofNat o)), .val (.int (Int32.ofNat len)), .unset, .unset, .unset] [.ref s.heap.size])) := c2.trans (st3 _ (Steps.refl _))
  have c5 : Steps p.tables e below (s₁.setTop (entryFrame m #[.ref b, .int (Int32.ofNat o), .int (Int32.ofNat len)] 6)) (T3.setTop (mkF m 9 #[.val (.ref b), .val (.int (Int32.ofNat o)), .val (.int (Int32.ofNat len)), .val (.ref s.heap.size), .unset, .unset] [.int (Int32.ofNat len), .int 0, .ref s.heap.size, .int (Int32.ofNat o), .ref b])) := c4.trans (by
    refine XS.astoreN X3.here hexec rfl (hb hbytes d3) rfl rfl rfl ?_
    refine XS.aloadN X3.here hexec rfl (hb hbytes d4) rfl rfl ?_
    refine XS.iloadN X3.here hexec rfl (hb hbytes d5) rfl ?_
    refine XS.aloadN X3.here hexec rfl (hb hbytes d6) rfl rfl ?_
    refine iconstV X3.here hexec rfl 0 (hb hbytes d7) (by decide) ?_
    refine XS.iloadN X3.here hexec rfl (hb hbytes d8) rfl ?_
    exact Steps.refl _)
  obtain ⟨v6, T6, X6, E6, g6⟩ := X3.callS hexec (Cmp5.law l b A s.heap.size B3 o 0 len) hown (wks W (staticW U16 115 Cmp5.yN)) (wk W Cmp5.tab) (W := 0) (Nat.le_of_ble_eq_true rfl) (Nat.le_of_ble_eq_true rfl) (Nat.le_refl _) (by show 0 + len + 0 ≤ len; omega) (g := (mkF m 9 #[.val (.ref b), .val (.int (Int32.ofNat o)), .val (.int (Int32.ofNat len)), .val (.ref s.heap.size), .unset, .unset] [.int (Int32.ofNat len), .int (Int32.ofNat 0), .ref s.heap.size, .int (Int32.ofNat o), .ref b])) rfl (by rw [hml]; rfl) c5 (argsL := [.ref b, .int (Int32.ofNat o), .ref s.heap.size, .int (Int32.ofNat 0), .int (Int32.ofNat len)]) (rest := []) rfl rfl (by show 2 * 0 + 0 ≤ _; decide) (hb hbytes d9) (⟨rfl, hA3, ba3, hne, l1, by rw [bs3]; simp, hp⟩)
  obtain ⟨rfl, B6, p6, f6⟩ := E6
  have c7 : Steps p.tables e below (s₁.setTop (entryFrame m #[.ref b, .int (Int32.ofNat o), .int (Int32.ofNat len)] 6)) (T6.setTop (mkF m 12 #[.val (.ref b), .val (.int (Int32.ofNat o)), .val (.int (Int32.ofNat len)), .val (.ref s.heap.size), .unset, .unset] [.int (Int32.ofNat len)])) := g6
  have c8 : Steps p.tables e below (s₁.setTop (entryFrame m #[.ref b, .int (Int32.ofNat o), .int (Int32.ofNat len)] 6)) (T6.setTop (mkF m 58 #[.val (.ref b), .val (.int (Int32.ofNat o)), .val (.int (Int32.ofNat len)), .val (.ref s.heap.size), .val (.int (Int32.ofNat len)), .unset] [.ref s.heap.size])) := c7.trans (by
    refine XS.istore X6.here hexec rfl (hb hbytes d12) rfl rfl ?_
    refine XS.iload X6.here hexec rfl (hb hbytes d14) rfl ?_
    refine XS.iloadN X6.here hexec rfl (hb hbytes d16) rfl ?_
    refine XS.icmpYes X6.here hexec rfl (pc0 := 17) rfl (hb hbytes d17) rfl (ii_eq_t rfl) (by decide) rfl ?_
    refine XS.aloadN X6.here hexec rfl (hb hbytes d57) rfl rfl ?_
    exact Steps.refl _)
  have X8 := X6.wide (L' := []) (cells' := 1) (slots' := len) (fun x hx hlt => by
    simp only [List.nil_append, copyLocs, List.mem_map, List.mem_range] at hx
    obtain ⟨i, -, rfl⟩ := hx
    exact absurd hlt (Nat.lt_irrefl _)) (Nat.le_refl _) (by omega)
  exact ⟨T6, some (.ref s.heap.size), _, _, _, X8, rfl, rfl, rfl, (fun h => by cases h), ⟨⟨rfl, B6, ba3.like (X3.warmed.alike.symm.trans X6.warmed.alike) p6.1 f6.1 f6.2.1 f6.2.2.1, f6.2.1.trans bv3, by rw [X6.warmed.alike.findClass, f6.1]; exact bf3, by rw [f6.2.2.1, bs3]; simp, fun j hj => by rw [f6.2.2.2 j, if_pos (by omega)]; rfl, kp3.put p6 (Nat.le_refl _)⟩, by rw [p6.2.2, bh3, hh0]; simp⟩, fun fs hl => c8.trans (X8.areturnOut hexec rfl hret rfl (hb hbytes d58) hl)⟩
end Cmp3
namespace CodL
def yN : MethodName := ⟨"java/lang/StringUTF16", "coderFromArrayLen", "([BI)B"⟩
abbrev yB : ByteArray := jdk_52_method_15_code
theorem d0 : decode yB 0 = .ok (.iload_n 1, 1) := by decide +kernel
theorem d1 : decode yB 1 = .ok (.aload_n 0, 1) := by decide +kernel
theorem d2 : decode yB 2 = .ok (.arraylength, 1) := by decide +kernel
theorem d3 : decode yB 3 = .ok (.isub, 1) := by decide +kernel
theorem d4 : decode yB 4 = .ok (.bipush 31, 2) := by decide +kernel
theorem d6 : decode yB 6 = .ok (.iushr, 1) := by decide +kernel
theorem d7 : decode yB 7 = .ok (.i2b, 1) := by decide +kernel
theorem d8 : decode yB 8 = .ok (.ireturn, 1) := by decide +kernel
def site : List Cond := []
def tab : Cond := tabOf yN yB 2 (some .byte) site
def P (d : Addr) (B : Cell) (args : Array Value) (s : State) : Prop := args = #[.ref d, .int (Int32.ofNat B.slots.size)] ∧ Arr .byte d B s
def E (r : Option Value) (s u : State) : Prop := XT.PureE (some (.int 0)) r s u
/-- an array as long as the number of chars: LATIN1 -/
theorem law (l : Launch) (d : Addr) (B : Cell) : Law l yN 2 2 0 0 yB 2 (some .byte) site (P d B) E [] 0 0 := by
  refine Law.of_walk (plainFor_of_name (by decide +kernel)) (by decide +kernel) (by decide +kernel) (by decide) (fun _ _ h => by rw [h.1]; rfl) (fun _ U U' hal hh h => ⟨h.1, h.2.mv hal hh⟩) (fun r U U' V V' h1 hal h2 h => XT.PureE.mv r U U' V V' h1 hal h2 h) ?_
  intro p e s m args below meth c s₁ X0 hexec hbytes hml hret hlk hnm hown hh0 W hP
  obtain ⟨rfl, hB⟩ := hP
  have hB0 := hB.mv X0.warmed.alike hh0
  have c1 : Steps p.tables e below (s₁.setTop (entryFrame m #[.ref d, .int (Int32.ofNat B.slots.size)] 2)) (s₁.setTop (mkF m 0 #[.val (.ref d), .val (.int (Int32.ofNat B.slots.size))] [])) := entry rfl
  have c2 : Steps p.tables e below (s₁.setTop (entryFrame m #[.ref d, .int (Int32.ofNat B.slots.size)] 2)) (s₁.setTop (mkF m 2 #[.val (.ref d), .val (.int (Int32.ofNat B.slots.size))] [.ref d, .int (Int32.ofNat B.slots.size)])) := c1.trans (by
    refine XS.iloadN X0.here hexec rfl (hb hbytes d0) rfl ?_
    refine XS.aloadN X0.here hexec rfl (hb hbytes d1) rfl rfl ?_
    exact Steps.refl _)
  have c3 : Steps p.tables e below (s₁.setTop (entryFrame m #[.ref d, .int (Int32.ofNat B.slots.size)] 2)) (s₁.setTop (mkF m 8 #[.val (.ref d), .val (.int (Int32.ofNat B.slots.size))] [.int (lo8 (ushr (Int32.ofNat B.slots.size - Int32.ofNat B.slots.size) 31))])) := c2.trans (by
    refine X0.alen hexec hB0 rfl rfl (hb hbytes d2) ?_
    refine XS.isub X0.here hexec rfl (hb hbytes d3) rfl ?_
    refine bipushV X0.here hexec rfl 31 (hb hbytes d4) (by decide) ?_
    refine iushr X0.here hexec rfl (hb hbytes d6) rfl ?_
    refine i2b X0.here hexec rfl (hb hbytes d7) rfl ?_
    exact Steps.refl _)
  have e0 : lo8 (ushr (Int32.ofNat B.slots.size - Int32.ofNat B.slots.size) 31) = 0 := by rw [Int32.sub_self]; decide
  rw [e0] at c3
  exact ⟨s₁, some (.int 0), _, _, _, X0, rfl, rfl, rfl, (fun h => by cases h), ⟨rfl, hh0⟩, fun fs hl => c3.trans (X0.ireturnOut hexec hret rfl (Or.inr (Or.inr (Or.inl rfl))) (hb hbytes d8) hl)⟩
end CodL
/-- the String at a is Latin-1 over a new byte[] (the heap's one new cell): the low bytes of the len chars of A from o on; every cell but a is kept -/
def Got (a : Addr) (D : Cell) (fV fC : Field) (A : Cell) (o len : Nat) (r : Option Value) (s u : State) : Prop := r = none ∧ ∃ D' V : Cell, Blank "java/lang/String" a D' u ∧ Same D D' [fV.slot, fC.slot] ∧ D'.slots[fV.slot]? = some (.ref s.heap.size) ∧ D'.slots[fC.slot]? = some (.int 0) ∧ Arr .byte s.heap.size V u ∧ V.vm = .none ∧ u.vm.findClass "[B" = some V.cls ∧ V.slots.size = len ∧ (∀ j, j < len → V.slots[j]? = some (.int (lo8 (cv A (o + j))))) ∧ (∀ (y : Addr) (c : Cell), y ≠ a → s.heap[y]? = some c → u.heap[y]? = some c) ∧ u.heap.size = s.heap.size + 1
theorem Got.mv {a : Addr} {D A : Cell} {fV fC : Field} {o len : Nat} : ∀ r (U U' V V' : State), U'.heap = U.heap → V.vm.Alike V'.vm → V'.heap = V.heap → Got a D fV fC A o len r U V → Got a D fV fC A o len r U' V' :=
  fun r U U' V V' h1 hal h2 ⟨e0, D', X, a1, a2, a3, a4, a5, a6, a7, a8, a9, a10, a11⟩ => ⟨e0, D', X, a1.mv hal h2, a2, by rw [h1]; exact a3, a4, by rw [h1]; exact a5.mv hal h2, a6, by rw [hal.findClass]; exact a7, a8, a9, by rw [h1, h2]; exact a10, by rw [h1, h2]; exact a11⟩
namespace New4
def yN : MethodName := ⟨"java/lang/String", "<init>", "([CIILjava/lang/Void;)V"⟩
abbrev yB : ByteArray := jdk_42_method_149_code
theorem d0 : decode yB 0 = .ok (.aload_n 0, 1) := by decide +kernel
theorem d1 : decode yB 1 = .ok (.invokespecial 1, 3) := by decide +kernel
theorem d4 : decode yB 4 = .ok (.iload_n 3, 1) := by decide +kernel
theorem d5 : decode yB 5 = .ok (.ifCond (.ne) 22, 3) := by decide +kernel
theorem d27 : decode yB 27 = .ok (.getstatic 38, 3) := by decide +kernel
theorem d30 : decode yB 30 = .ok (.ifCond (.eq) 28, 3) := by decide +kernel
theorem d33 : decode yB 33 = .ok (.aload_n 1, 1) := by decide +kernel
theorem d34 : decode yB 34 = .ok (.iload_n 2, 1) := by decide +kernel
theorem d35 : decode yB 35 = .ok (.iload_n 3, 1) := by decide +kernel
theorem d36 : decode yB 36 = .ok (.invokestatic 177, 3) := by decide +kernel
theorem d39 : decode yB 39 = .ok (.astore 5, 2) := by decide +kernel
theorem d41 : decode yB 41 = .ok (.aload_n 0, 1) := by decide +kernel
theorem d42 : decode yB 42 = .ok (.aload 5, 2) := by decide +kernel
theorem d44 : decode yB 44 = .ok (.iload_n 3, 1) := by decide +kernel
theorem d45 : decode yB 45 = .ok (.invokestatic 47, 3) := by decide +kernel
theorem d48 : decode yB 48 = .ok (.putfield 15, 3) := by decide +kernel
theorem d51 : decode yB 51 = .ok (.aload_n 0, 1) := by decide +kernel
theorem d52 : decode yB 52 = .ok (.aload 5, 2) := by decide +kernel
theorem d54 : decode yB 54 = .ok (.putfield 9, 3) := by decide +kernel
theorem d57 : decode yB 57 = .ok (.return_, 1) := by decide +kernel
def site : List Cond := [.fieldLink "java/lang/String" 38 "java/lang/String" "COMPACT_STRINGS" "Z", Cmp3.tab, CodL.tab, .laysFinal "java/lang/String" "java/lang/String" "value" "[B", .fieldLink "java/lang/String" 9 "java/lang/String" "value" "[B", .laysFinal "java/lang/String" "java/lang/String" "coder" "B", .fieldLink "java/lang/String" 15 "java/lang/String" "coder" "B"] ++ objW "java/lang/String" 1 ++ staticW "java/lang/String" 177 Cmp3.yN ++ staticW "java/lang/String" 47 CodL.yN
def tab : Cond := tabOf yN yB 6 none site
def P (a : Addr) (D : Cell) (fV fC : Field) (b : Addr) (A : Cell) (z : Int32) (o len : Nat) (args : Array Value) (s : State) : Prop := args = #[.ref a, .ref b, .int (Int32.ofNat o), .int (Int32.ofNat len), .null] ∧ Blank "java/lang/String" a D s ∧ Found "java/lang/String" "value" "[B" fV s ∧ Found "java/lang/String" "coder" "B" fC s ∧ Ch b A s ∧ StaticIs s "java/lang/String" "COMPACT_STRINGS" "Z" (.int z) ∧ ¬ z = 0 ∧ 0 < len ∧ o + len ≤ A.slots.size ∧ len ≤ 536870912 ∧ ∀ i, i < len → ¬ 255 < cv A (o + i)
def E (a : Addr) (D : Cell) (fV fC : Field) (A : Cell) (o len : Nat) (r : Option Value) (s u : State) : Prop := Got a D fV fC A o len r s u
/-- len > 0, no char of the range above 255: a Latin-1 String of their low bytes -/
theorem law (l : Launch) (a : Addr) (D : Cell) (fV fC : Field) (b : Addr) (A : Cell) (z : Int32) (o len : Nat) : Law l yN 5 4 2 35 yB 6 none site (P a D fV fC b A z o len) (E a D fV fC A o len) [⟨a, fC.slot⟩, ⟨a, fV.slot⟩] 1 len := by
  refine Law.of_walk (plainFor_of_name (by decide +kernel)) (by decide +kernel) (by decide +kernel) (by decide) (fun _ _ h => by rw [h.1]; rfl) (fun _ U U' hal hh h => ⟨h.1, h.2.1.mv hal hh, h.2.2.1.al hal, h.2.2.2.1.al hal, h.2.2.2.2.1.mv hal hh, h.2.2.2.2.2.1.there hal hh, h.2.2.2.2.2.2⟩) (fun r U U' V V' h1 hal h2 h => Got.mv r U U' V V' h1 hal h2 h) ?_
  intro p e s m args below meth c s₁ X0 hexec hbytes hml hret hlk hnm hown hh0 W hP
  obtain ⟨rfl, hB, f1, f2, hA, s1, hz, l0, l1, l2, hp⟩ := hP
  have a31 := hA.1.2.2.2
  have c1 : Steps p.tables e below (s₁.setTop (entryFrame m #[.ref a, .ref b, .int (Int32.ofNat o), .int (Int32.ofNat len), .null] 6)) (s₁.setTop (mkF m 0 #[.val (.ref a), .val (.ref b), .val (.int (Int32.ofNat o)), .val (.int (Int32.ofNat len)), .val .null, .unset] [])) := entry rfl
  have c2 : Steps p.tables e below (s₁.setTop (entryFrame m #[.ref a, .ref b, .int (Int32.ofNat o), .int (Int32.ofNat len), .null] 6)) (s₁.setTop (mkF m 1 #[.val (.ref a), .val (.ref b), .val (.int (Int32.ofNat o)), .val (.int (Int32.ofNat len)), .val .null, .unset] [.ref a])) := c1.trans (by
    refine XS.aloadN X0.here hexec rfl (hb hbytes d0) rfl rfl ?_
    exact Steps.refl _)
  obtain ⟨T3, X3, q3, st3⟩ := X0.oinit hexec hown (wks W (objW "java/lang/String" 1)) (g := (mkF m 1 #[.val (.ref a), .val (.ref b), .val (.int (Int32.ofNat o)), .val (.int (Int32.ofNat len)), .val .null, .unset] [.ref a])) rfl (by rw [hml]; rfl) (rest := []) rfl (hb hbytes d1) (W := 0) (by show 2 * 0 + 0 ≤ _; decide) (Nat.le_of_ble_eq_true rfl) (Nat.le_of_ble_eq_true rfl)
  have hh3 := q3.trans hh0
  have c4 : Steps p.tables e below (s₁.setTop (entryFrame m #[.ref a, .ref b, .int (Int32.ofNat o), .int (Int32.ofNat len), .null] 6)) (T3.setTop (mkF m 27 #[.val (.ref a), .val (.ref b), .val (.int (Int32.ofNat o)), .val (.int (Int32.ofNat len)), .val .null, .unset] [])) := (c2.trans (st3 _ (Steps.refl _))).trans (by
    refine XS.iloadN X3.here hexec rfl (hb hbytes d4) rfl ?_
    refine XS.ifYes X3.here hexec rfl (pc0 := 5) rfl (hb hbytes d5) rfl (i0_ne_t (nz32 (by omega) l0)) (by decide) rfl ?_
    exact Steps.refl _)
  obtain ⟨T5, X5, q5, st5⟩ := X3.sget hexec hown (wk W (.fieldLink "java/lang/String" 38 "java/lang/String" "COMPACT_STRINGS" "Z")) s1 (fun _ _ h => by rw [hh3]; exact h) (g := (mkF m 27 #[.val (.ref a), .val (.ref b), .val (.int (Int32.ofNat o)), .val (.int (Int32.ofNat len)), .val .null, .unset] [])) rfl (hb hbytes d27)
  have hh5 := q5.trans hh3
  have c6 : Steps p.tables e below (s₁.setTop (entryFrame m #[.ref a, .ref b, .int (Int32.ofNat o), .int (Int32.ofNat len), .null] 6)) (T5.setTop (mkF m 30 #[.val (.ref a), .val (.ref b), .val (.int (Int32.ofNat o)), .val (.int (Int32.ofNat len)), .val .null, .unset] [.int z])) := c4.trans (st5 _ (Steps.refl _))
  have c7 : Steps p.tables e below (s₁.setTop (entryFrame m #[.ref a, .ref b, .int (Int32.ofNat o), .int (Int32.ofNat len), .null] 6)) (T5.setTop (mkF m 36 #[.val (.ref a), .val (.ref b), .val (.int (Int32.ofNat o)), .val (.int (Int32.ofNat len)), .val .null, .unset] [.int (Int32.ofNat len), .int (Int32.ofNat o), .ref b])) := c6.trans (by
    refine XS.ifNo X5.here hexec rfl (hb hbytes d30) rfl (i0_eq_f hz) ?_
    refine XS.aloadN X5.here hexec rfl (hb hbytes d33) rfl rfl ?_
    refine XS.iloadN X5.here hexec rfl (hb hbytes d34) rfl ?_
    refine XS.iloadN X5.here hexec rfl (hb hbytes d35) rfl ?_
    exact Steps.refl _)
  obtain ⟨v8, T8, X8, E8, g8⟩ := X5.callS hexec (Cmp3.law l b A o len) hown (wks W (staticW "java/lang/String" 177 Cmp3.yN)) (wk W Cmp3.tab) (W := 0) (Nat.le_of_ble_eq_true rfl) (Nat.le_of_ble_eq_true rfl) (Nat.le_refl _) (by show 0 + len ≤ len; omega) (g := (mkF m 36 #[.val (.ref a), .val (.ref b), .val (.int (Int32.ofNat o)), .val (.int (Int32.ofNat len)), .val .null, .unset] [.int (Int32.ofNat len), .int (Int32.ofNat o), .ref b])) rfl (by rw [hml]; rfl) c7 (argsL := [.ref b, .int (Int32.ofNat o), .int (Int32.ofNat len)]) (rest := []) rfl rfl (by show 2 * 0 + 0 ≤ _; decide) (hb hbytes d36) (⟨rfl, hA.mv X5.warmed.alike hh5, l1, l2, hp⟩)
  obtain ⟨e8, z8⟩ := E8
  obtain ⟨rfl, N, n1, n2, n3, n4, n5, n6⟩ := NewArr.mv _ T5 s _ _ hh5.symm (Vm.Alike.refl _) rfl e8
  rw [hh5] at z8
  have hB1 := hB.keep X8.warmed.alike (n6 _ _ hB.1)
  have hne : s.heap.size ≠ a := (Nat.ne_of_lt (Array.getElem?_eq_some_iff.mp hB.1).1).symm
  have c9 : Steps p.tables e below (s₁.setTop (entryFrame m #[.ref a, .ref b, .int (Int32.ofNat o), .int (Int32.ofNat len), .null] 6)) (T8.setTop (mkF m 39 #[.val (.ref a), .val (.ref b), .val (.int (Int32.ofNat o)), .val (.int (Int32.ofNat len)), .val .null, .unset] [.ref s.heap.size])) := g8
  have c10 : Steps p.tables e below (s₁.setTop (entryFrame m #[.ref a, .ref b, .int (Int32.ofNat o), .int (Int32.ofNat len), .null] 6)) (T8.setTop (mkF m 45 #[.val (.ref a), .val (.ref b), .val (.int (Int32.ofNat o)), .val (.int (Int32.ofNat len)), .val .null, .val (.ref s.heap.size)] [.int (Int32.ofNat N.slots.size), .ref s.heap.size, .ref a])) := by
    have hc : Steps p.tables e below (s₁.setTop (entryFrame m #[.ref a, .ref b, .int (Int32.ofNat o), .int (Int32.ofNat len), .null] 6)) (T8.setTop (mkF m 45 #[.val (.ref a), .val (.ref b), .val (.int (Int32.ofNat o)), .val (.int (Int32.ofNat len)), .val .null, .val (.ref s.heap.size)] [.int (Int32.ofNat len), .ref s.heap.size, .ref a])) := c9.trans (by
      refine XS.astore X8.here hexec rfl (hb hbytes d39) rfl rfl rfl ?_
      refine XS.aloadN X8.here hexec rfl (hb hbytes d41) rfl rfl ?_
      refine XS.aload X8.here hexec rfl (hb hbytes d42) rfl rfl ?_
      refine XS.iloadN X8.here hexec rfl (hb hbytes d44) rfl ?_
      exact Steps.refl _)
    rw [n4]; exact hc
  obtain ⟨v11, T11, X11, E11, g11⟩ := X8.callS hexec (CodL.law l s.heap.size N) hown (wks W (staticW "java/lang/String" 47 CodL.yN)) (wk W CodL.tab) (W := 1) (Nat.le_of_ble_eq_true rfl) (Nat.le_of_ble_eq_true rfl) (Nat.le_refl _) (by show 0 + len + 0 ≤ len; omega) (g := (mkF m 45 #[.val (.ref a), .val (.ref b), .val (.int (Int32.ofNat o)), .val (.int (Int32.ofNat len)), .val .null, .val (.ref s.heap.size)] [.int (Int32.ofNat N.slots.size), .ref s.heap.size, .ref a])) rfl (by rw [hml]; rfl) c10 (argsL := [.ref s.heap.size, .int (Int32.ofNat N.slots.size)]) (rest := [.ref a]) rfl rfl (by show 2 * 0 + (1 + 0) ≤ _; decide) (hb hbytes d45) (⟨rfl, n1⟩)
  obtain ⟨rfl, q11⟩ := E11
  have hB11 := hB1.mv (X8.warmed.alike.symm.trans X11.warmed.alike) q11
  have c12 : Steps p.tables e below (s₁.setTop (entryFrame m #[.ref a, .ref b, .int (Int32.ofNat o), .int (Int32.ofNat len), .null] 6)) (T11.setTop (mkF m 48 #[.val (.ref a), .val (.ref b), .val (.int (Int32.ofNat o)), .val (.int (Int32.ofNat len)), .val .null, .val (.ref s.heap.size)] [.int 0, .ref a])) := g11
  obtain ⟨T13, X13, p13, bl13, sl13, st13⟩ := X11.finit hexec hown (wk W (.fieldLink "java/lang/String" 15 "java/lang/String" "coder" "B")) (Or.inr ⟨_, (wk W (.laysFinal "java/lang/String" "java/lang/String" "coder" "B"))⟩) (Or.inl ⟨rfl, hnm⟩) f2 (Or.inl rfl) hB11 (t := .byte) (by decide +kernel) rfl (g := (mkF m 48 #[.val (.ref a), .val (.ref b), .val (.int (Int32.ofNat o)), .val (.int (Int32.ofNat len)), .val .null, .val (.ref s.heap.size)] [.int 0, .ref a])) rfl (rest := []) rfl (hb hbytes d48)
  have c14 : Steps p.tables e below (s₁.setTop (entryFrame m #[.ref a, .ref b, .int (Int32.ofNat o), .int (Int32.ofNat len), .null] 6)) (T13.setTop (mkF m 54 #[.val (.ref a), .val (.ref b), .val (.int (Int32.ofNat o)), .val (.int (Int32.ofNat len)), .val .null, .val (.ref s.heap.size)] [.ref s.heap.size, .ref a])) := (c12.trans (st13 _ (Steps.refl _))).trans (by
    refine XS.aloadN X13.here hexec rfl (hb hbytes d51) rfl rfl ?_
    refine XS.aload X13.here hexec rfl (hb hbytes d52) rfl rfl ?_
    exact Steps.refl _)
  obtain ⟨T15, X15, p15, bl15, sl15, st15⟩ := X13.finit hexec hown (wk W (.fieldLink "java/lang/String" 9 "java/lang/String" "value" "[B")) (Or.inr ⟨_, (wk W (.laysFinal "java/lang/String" "java/lang/String" "value" "[B"))⟩) (Or.inl ⟨rfl, hnm⟩) f1 (Or.inl rfl) bl13 (t := (.array .byte)) (by decide +kernel) rfl (g := (mkF m 54 #[.val (.ref a), .val (.ref b), .val (.int (Int32.ofNat o)), .val (.int (Int32.ofNat len)), .val .null, .val (.ref s.heap.size)] [.ref s.heap.size, .ref a])) rfl (rest := []) rfl (hb hbytes d54)
  have c16 : Steps p.tables e below (s₁.setTop (entryFrame m #[.ref a, .ref b, .int (Int32.ofNat o), .int (Int32.ofNat len), .null] 6)) (T15.setTop (mkF m 57 #[.val (.ref a), .val (.ref b), .val (.int (Int32.ofNat o)), .val (.int (Int32.ofNat len)), .val .null, .val (.ref s.heap.size)] [])) := c14.trans (st15 _ (Steps.refl _))
  have ap := apart (Or.inr ⟨_, (wk W (.laysFinal "java/lang/String" "java/lang/String" "value" "[B"))⟩) (Or.inr ⟨_, (wk W (.laysFinal "java/lang/String" "java/lang/String" "coder" "B"))⟩) f1 f2 (t₁ := .array .byte) (t₂ := .byte) (by decide +kernel) (by decide +kernel) (by decide)
  have al := X8.warmed.alike.symm.trans X15.warmed.alike
  have n7 : T11.heap[s.heap.size]? = some N := by rw [q11]; exact n1.1
  exact ⟨T15, none, _, _, _, X15, by simp, rfl, by omega, (fun _ => rfl), ⟨rfl, _, N, bl15, ((Same.refl D _).set _ (by simp)).set _ (by simp), sl15, (Cell.slots_setSlot_ne _ ap).trans sl13, n1.keep al (p15.other hne (p13.other hne n7)), n2, by rw [al.findClass]; exact n3, n4, n5, fun y c h1 h2 => p15.other h1 (p13.other h1 (by rw [q11]; exact n6 y c h2)), by rw [p15.2.2, p13.2.2, q11]; exact z8⟩, fun fs hl => c16.trans (X15.returnOut hexec hret (hb hbytes d57) hl)⟩
end New4
namespace New1
def yN : MethodName := ⟨"java/lang/String", "<init>", "([C)V"⟩
abbrev yB : ByteArray := jdk_42_method_3_code
theorem d0 : decode yB 0 = .ok (.aload_n 0, 1) := by decide +kernel
theorem d1 : decode yB 1 = .ok (.aload_n 1, 1) := by decide +kernel
theorem d2 : decode yB 2 = .ok (.iconst 0, 1) := by decide +kernel
theorem d3 : decode yB 3 = .ok (.aload_n 1, 1) := by decide +kernel
theorem d4 : decode yB 4 = .ok (.arraylength, 1) := by decide +kernel
theorem d5 : decode yB 5 = .ok (.aconst_null, 1) := by decide +kernel
theorem d6 : decode yB 6 = .ok (.invokespecial 27, 3) := by decide +kernel
theorem d9 : decode yB 9 = .ok (.return_, 1) := by decide +kernel
def site : List Cond := [New4.tab] ++ initW "java/lang/String" 27 New4.yN
def tab : Cond := tabOf yN yB 2 none site
def P (a : Addr) (D : Cell) (fV fC : Field) (b : Addr) (A : Cell) (z : Int32) (args : Array Value) (s : State) : Prop := args = #[.ref a, .ref b] ∧ Blank "java/lang/String" a D s ∧ Found "java/lang/String" "value" "[B" fV s ∧ Found "java/lang/String" "coder" "B" fC s ∧ Ch b A s ∧ StaticIs s "java/lang/String" "COMPACT_STRINGS" "Z" (.int z) ∧ ¬ z = 0 ∧ 0 < A.slots.size ∧ A.slots.size ≤ 536870912 ∧ ∀ i, i < A.slots.size → ¬ 255 < cv A i
def E (a : Addr) (D : Cell) (fV fC : Field) (A : Cell) (r : Option Value) (s u : State) : Prop := Got a D fV fC A 0 A.slots.size r s u
/-- new String(chars), not empty, no char above 255: a Latin-1 String of their low bytes -/
theorem law (l : Launch) (a : Addr) (D : Cell) (fV fC : Field) (b : Addr) (A : Cell) (z : Int32) : Law l yN 2 1 3 52 yB 2 none site (P a D fV fC b A z) (E a D fV fC A) [⟨a, fC.slot⟩, ⟨a, fV.slot⟩] 1 A.slots.size := by
  refine Law.of_walk (plainFor_of_name (by decide +kernel)) (by decide +kernel) (by decide +kernel) (by decide) (fun _ _ h => by rw [h.1]; rfl) (fun _ U U' hal hh h => ⟨h.1, h.2.1.mv hal hh, h.2.2.1.al hal, h.2.2.2.1.al hal, h.2.2.2.2.1.mv hal hh, h.2.2.2.2.2.1.there hal hh, h.2.2.2.2.2.2⟩) (fun r U U' V V' h1 hal h2 h => Got.mv r U U' V V' h1 hal h2 h) ?_
  intro p e s m args below meth c s₁ X0 hexec hbytes hml hret hlk hnm hown hh0 W hP
  obtain ⟨rfl, hB, f1, f2, hA, s1, hz, l0, l2, hp⟩ := hP
  have c1 : Steps p.tables e below (s₁.setTop (entryFrame m #[.ref a, .ref b] 2)) (s₁.setTop (mkF m 0 #[.val (.ref a), .val (.ref b)] [])) := entry rfl
  have c2 : Steps p.tables e below (s₁.setTop (entryFrame m #[.ref a, .ref b] 2)) (s₁.setTop (mkF m 6 #[.val (.ref a), .val (.ref b)] [.null, .int (Int32.ofNat A.slots.size), .int 0, .ref b, .ref a])) := c1.trans (by
    refine XS.aloadN X0.here hexec rfl (hb hbytes d0) rfl rfl ?_
    refine XS.aloadN X0.here hexec rfl (hb hbytes d1) rfl rfl ?_
    refine iconstV X0.here hexec rfl 0 (hb hbytes d2) (by decide) ?_
    refine XS.aloadN X0.here hexec rfl (hb hbytes d3) rfl rfl ?_
    refine X0.alen hexec (hA.1.mv X0.warmed.alike hh0) rfl rfl (hb hbytes d4) ?_
    refine XS.aconstNull X0.here hexec rfl (hb hbytes d5) ?_
    exact Steps.refl _)
  obtain ⟨v3, T3, X3, E3, g3⟩ := X0.callN hexec (New4.law l a D fV fC b A z 0 A.slots.size) rfl hown (wks W (initW "java/lang/String" 27 New4.yN)) (W New4.tab (by simp only [site, List.mem_cons, List.mem_append, true_or, or_true])) (W := 0) (Nat.le_of_ble_eq_true rfl) (Nat.le_of_ble_eq_true rfl) (Nat.le_refl _) (by show 0 + A.slots.size ≤ A.slots.size; omega) (g := (mkF m 6 #[.val (.ref a), .val (.ref b)] [.null, .int (Int32.ofNat A.slots.size), .int (Int32.ofNat 0), .ref b, .ref a])) rfl (by rw [hml]; rfl) c2 (argsL := [.ref b, .int (Int32.ofNat 0), .int (Int32.ofNat A.slots.size), .null]) (rest := []) rfl rfl (by show 2 * 0 + 0 ≤ _; decide) (hb hbytes d6) (⟨rfl, hB.mv X0.warmed.alike hh0, f1.al X0.warmed.alike, f2.al X0.warmed.alike, hA.mv X0.warmed.alike hh0, s1.there X0.warmed.alike hh0, hz, l0, by omega, l2, fun i hi => by rw [Nat.zero_add]; exact hp i hi⟩)
  have e0 := Got.mv _ s₁ s _ _ hh0.symm (Vm.Alike.refl _) rfl E3
  obtain rfl := e0.1
  have c4 : Steps p.tables e below (s₁.setTop (entryFrame m #[.ref a, .ref b] 2)) (T3.setTop (mkF m 9 #[.val (.ref a), .val (.ref b)] [])) := g3
  exact ⟨T3, none, _, _, _, X3, by simp, rfl, by omega, (fun _ => rfl), e0, fun fs hl => c4.trans (X3.returnOut hexec hret (hb hbytes d9) hl)⟩
theorem pays {l : Launch} {R : Room} {p : Program} {e : Env} {below : List Frame} {s : State} {sargs : Array Value} {len W : Nat} (a : Addr) (D : Cell) (fV fC : Field) (b : Addr) (A : Cell) (z : Int32) (htab : tab.before sargs s = true) (hfr : 4 ≤ R.frames) (hlo : W + 65 ≤ R.locals) :
    Back l R p e below s sargs yN len W (fun A₁ a₁ => A₁.cells + 1 ≤ R.cells ∧ A₁.slots + A.slots.size ≤ R.slots ∧ P a D fV fC b A z a₁ A₁.U) (fun A₁ _ v₁ B₁ => E a D fV fC A v₁ A₁.U B₁.U ∧ B₁.locs = A₁.locs ++ [⟨a, fC.slot⟩, ⟨a, fV.slot⟩] ∧ B₁.cells = A₁.cells + 1 ∧ B₁.slots = A₁.slots + A.slots.size) :=
  (law l a D fV fC b A z).pays htab hfr (by omega)
end New1
end StrChars
namespace StrChars.Road
open Jvm Sem ClassFile Op Lib Jvm.Stand Jvm.Free Jvm.Free.XT
open Jvm.Lib.Cold (StaticIs)
abbrev ST : String := "java/lang/String"
/-- every table word that New1's law asks, flat -/
abbrev words : List Jvm.Cond := [.code New1.yN New1.yB 2 none, .initialized ST, .methodLink ST 27 New4.yN, .instanceMethod New4.yN,
  .code New4.yN New4.yB 6 none, .fieldLink ST 38 ST "COMPACT_STRINGS" "Z", .laysFinal ST ST "value" "[B", .fieldLink ST 9 ST "value" "[B", .laysFinal ST ST "coder" "B", .fieldLink ST 15 ST "coder" "B",
  .methodLink ST 1 Lib.objectInit, .instanceMethod Lib.objectInit, .code Lib.objectInit ⟨#[0xb1]⟩ 1 none, .methodLink ST 177 Cmp3.yN, .static Cmp3.yN, .methodLink ST 47 CodL.yN, .static CodL.yN,
  .code Cmp3.yN Cmp3.yB 6 (some (.array .byte)), .initialized U16, .arrayClass .byte, .methodLink U16 115 Cmp5.yN, .static Cmp5.yN, .code Cmp5.yN Cmp5.yB 7 (some .int), .code CodL.yN CodL.yB 2 (some .byte)]
theorem tab_of {a : Array Value} {s : State} (h : ∀ w ∈ words, w.before a s = true) : New1.tab.before a s = true := by
  have h5 : Cmp5.tab.before a s = true := unparts (wk h (.code Cmp5.yN Cmp5.yB 7 (some .int))) (wks h (.initialized Cmp5.yN.cls :: Cmp5.site))
  have hc : CodL.tab.before a s = true := unparts (wk h (.code CodL.yN CodL.yB 2 (some .byte))) (wks h (.initialized CodL.yN.cls :: CodL.site))
  have q5 : ∀ w ∈ Cmp5.tab :: words, w.before a s = true := fun w hw => (List.mem_cons.mp hw).elim (fun e => e ▸ h5) (h w)
  have h3 : Cmp3.tab.before a s = true := unparts (wk q5 (.code Cmp3.yN Cmp3.yB 6 (some (.array .byte)))) (wks q5 (.initialized Cmp3.yN.cls :: Cmp3.site))
  have q3 : ∀ w ∈ Cmp3.tab :: CodL.tab :: words, w.before a s = true := fun w hw => (List.mem_cons.mp hw).elim (fun e => e ▸ h3) fun hw => (List.mem_cons.mp hw).elim (fun e => e ▸ hc) (h w)
  have h4 : New4.tab.before a s = true := unparts (wk q3 (.code New4.yN New4.yB 6 none)) (wks q3 (.initialized New4.yN.cls :: New4.site))
  have q4 : ∀ w ∈ New4.tab :: words, w.before a s = true := fun w hw => (List.mem_cons.mp hw).elim (fun e => e ▸ h4) (h w)
  exact unparts (wk q4 (.code New1.yN New1.yB 2 none)) (wks q4 (.initialized New1.yN.cls :: New1.site))
/-- the words ride from the start Z to the walk's own state -/
theorem moved {Z s : State} {a0 args : Array Value} (hZ : Z.Warmed39 s.vm) (hw : ∀ d ∈ words, d.before a0 Z = true) : ∀ d ∈ words, d.before args s = true := fun d hd => by
  have q := hw d hd
  have t : ∀ d ∈ words, d = .arrayClass .byte ∨ (d.onTables && d.keepsFace) = true := by decide +kernel
  rcases t d hd with rfl | t
  · exact RoadKit.mvA hZ q
  · exact RoadKit.mv hZ q t
/-- WHAT COMES BACK, over the tables of the start Z: h the heap at the call, h' behind it -/
def Q (Z : State) (x : Addr) (A : Cell) (h : Heap) (v : Option Value) (h' : Heap) (L : List Loc) : Prop := v = none ∧ (∀ y ∈ L, y.base = x) ∧ RoadKit.Keep h h' [x] ∧ h'.size = h.size + 1 ∧ RoadKit.Exa Z h' x ST ∧ RoadKit.Fld Z h' x ST "value" "[B" (.ref h.size) ∧ RoadKit.Fld Z h' x ST "coder" "B" (.int 0) ∧
  (∃ V : Cell, RoadKit.Arr Z h' h.size V .byte ∧ V.vm = .none ∧ Z.vm.findClass "[B" = some V.cls ∧ V.slots.size = A.slots.size ∧ ∀ j, j < A.slots.size → V.slots[j]? = some (.int (lo8 (cv A j)))) ∧
  ∀ (O n d : String) (w : Value), RoadKit.Fld Z h x O n d w → RoadKit.slotOf Z O n d ≠ RoadKit.slotOf Z ST "value" "[B" → RoadKit.slotOf Z O n d ≠ RoadKit.slotOf Z ST "coder" "B" → RoadKit.Fld Z h' x O n d w
/-- **new String(chars) AT A CALL, IN THE ROAD'S FORM**: for specialBack behind newO: x the fresh String, b the char[] with the cell A -/
theorem back {p : Program} {l : Launch} {e : Env} {R : Room} {s : State} {args : Array Value} {below : List Frame} {len W : Nat} {Z : State} {a0 : Array Value} {h : Heap} (hZ : Z.Warmed39 s.vm) (hw : ∀ d ∈ words, d.before a0 Z = true) {kI : Nat} (wi : (Jvm.Cond.instantiable ST kI).before a0 Z = true)
    {x b : Addr} {A : Cell} {z : Int32} {v0 c0 : Value} (E : RoadKit.Exa Z h x ST) (V : RoadKit.Fld Z h x ST "value" "[B" v0) (C : RoadKit.Fld Z h x ST "coder" "B" c0) (K : RoadKit.Arr Z h b A .char) (hty : Typed .char A) (S : RoadKit.Sta Z h ST "COMPACT_STRINGS" "Z" (.int z)) (hz : ¬ z = 0)
    (l0 : 0 < A.slots.size) (l2 : A.slots.size ≤ 536870912) (hp : ∀ i, i < A.slots.size → ¬ 255 < cv A i) (hfr : 4 ≤ R.frames) (hlo : W + 65 ≤ R.locals) :
    Back l R p e below s args New1.yN len W (fun P a => a = #[.ref x, .ref b] ∧ P.U.heap = h ∧ P.cells + 1 ≤ R.cells ∧ P.slots + A.slots.size ≤ R.slots)
      (fun P _ v B => ∃ L, Q Z x A h v B.U.heap L ∧ B.locs = P.locs ++ L ∧ B.cells = P.cells + 1 ∧ B.slots = P.slots + A.slots.size) := by
  intro m meth c P g ig mk a X hg hsize hdg hW hn hp'
  obtain ⟨rfl, rfl, r1, r2⟩ := hp'
  have al : Z.vm.Alike P.U.vm := hZ.alike.trans X.warmed.alike
  obtain ⟨D, cfV, kV, iV, fV, hD, gV, stV, knV, obV, asV, slV⟩ := id V
  obtain ⟨D', cfC, kC, iC, fC, hD', gC, stC, -, -, asC, slC⟩ := id C
  cases hD.symm.trans hD'
  obtain ⟨D2, kD, e1, e2, e3, e4, e5⟩ := id E
  cases hD.symm.trans e1
  obtain ⟨c2, k2, i1, i2, i3, -⟩ := Cond.instantiable_spec wi
  cases e2.symm.trans i1
  cases e3.symm.trans i2
  obtain ⟨kU, u1, u2⟩ := al.2.2 _ _ e3
  have hB : Blank ST x D P.U := ⟨hD, ⟨knV, fun q hq => by rw [hq] at obV; cases obV⟩, by rw [al.findClass]; exact e2, kU, u1, by rw [u2]; exact i3, by rw [u2]; exact e5 i3⟩
  have F1 : Found ST "value" "[B" fV P.U := ⟨SBG.found_only al ⟨cfV, kV, iV, gV⟩, stV⟩
  have F2 : Found ST "coder" "B" fC P.U := ⟨SBG.found_only al ⟨cfC, kC, iC, gC⟩, stC⟩
  have hA : Ch b A P.U := ⟨⟨K.1, State.isArrayOf_alike al K.2.1, K.2.2, by omega⟩, hty⟩
  have hS : StaticIs P.U ST "COMPACT_STRINGS" "Z" (.int z) := by
    obtain ⟨cfS, iS, kS, fS, st, cS, t1, t2, t3, t4, t5, t6, t7⟩ := S
    exact StaticIs.there (s := { Z with heap := P.U.heap }) ⟨cfS, iS, kS, fS, st, cS, t1, t2, t3, t4, t5, (fun q => by rw [q] at t6; cases t6), t7⟩ al rfl
  obtain ⟨v, B, X', ⟨⟨hv, E', V', q1, q2, q3, q4, q5, q6, q7, q8, q9, q10, q11⟩, hl, hc, hs⟩, st⟩ := New1.pays x D fV fC b A z (tab_of (moved hZ hw)) hfr hlo m meth c P g ig mk _ X hg hsize hdg hW hn ⟨r1, r2, rfl, hB, F1, F2, hA, hS, hz, l0, l2, hp⟩
  have al' : Z.vm.Alike B.U.vm := hZ.alike.trans X'.warmed.alike
  have hsz : E'.slots.size = D.slots.size := by
    obtain ⟨-, -, -, kB, w1, w2, w3⟩ := q1
    obtain ⟨kB', y1, y2⟩ := al'.2.2 _ _ e3
    rw [q2.2.1] at w1
    cases w1.symm.trans y1
    rw [w3, e5 i3, y2]
  refine ⟨v, B, X', ⟨_, ⟨hv, ?_, ⟨by omega, fun y cy hy hn' => q10 y cy (by simpa using hn') hy, fun y cy hy => ?_⟩, q11, ⟨E', _, q1.1, by rw [q2.2.1]; exact e2, by rw [q2.2.1]; exact e3, by rw [q2.1]; exact obV, fun _ => by rw [hsz]; exact e5 i3⟩,
    ⟨E', cfV, kV, iV, fV, q1.1, gV, stV, by rw [q2.1]; exact knV, by rw [q2.1]; exact obV, by rw [q2.2.1]; exact asV, q3⟩, ⟨E', cfC, kC, iC, fC, q1.1, gC, stC, by rw [q2.1]; exact knV, by rw [q2.1]; exact obV, by rw [q2.2.1]; exact asC, q4⟩,
    ⟨V', ⟨q5.1, State.isArrayOf_alike al'.symm q5.2.1, q5.2.2.1⟩, q6, by rw [← al'.findClass]; exact q7, q8, fun j hj => by have := q9 j hj; rwa [Nat.zero_add] at this⟩, fun O n d w F n1 n2 => ?_⟩, hl, hc, hs⟩, st⟩
  · intro y hy
    simp only [List.mem_cons, List.not_mem_nil, or_false] at hy
    rcases hy with rfl | rfl <;> rfl
  · by_cases q : y = x
    · subst q
      cases hD.symm.trans hy
      exact ⟨E', q1.1, q2.2.1, q2.1, hsz⟩
    · exact ⟨cy, q10 y cy q hy, rfl, rfl, rfl⟩
  · obtain ⟨D3, cf, k, i, f, g1, g2, g3, g4, g5, g6, g7⟩ := F
    cases hD.symm.trans g1
    simp only [RoadKit.slotOf, g2, gV, gC, Option.map_some, Option.getD_some] at n1 n2
    exact ⟨E', cf, k, i, f, q1.1, g2, g3, by rw [q2.1]; exact g4, by rw [q2.1]; exact g5, by rw [q2.2.1]; exact g6, by rw [q2.2.2 f.slot (by simp [n1, n2])]; exact g7⟩
end StrChars.Road
namespace StrChars.Road
open Jvm Sem ClassFile Op Lib Jvm.Stand Jvm.Free Jvm.Free.XT
/-- WHAT COMES BACK, the byte[] as a list of values -/
def QA (Z : State) (x : Addr) (zn : Int32) (cs : List Int32) (h : Heap) (v : Option Value) (h' : Heap) (L : List Loc) : Prop := v = none ∧ (∀ y ∈ L, y.base = x) ∧ RoadKit.Keep h h' [x] ∧ h'.size = h.size + 1 ∧ RoadKit.Exa Z h' x ST ∧ RoadKit.Fld Z h' x ST "value" "[B" (.ref h.size) ∧ RoadKit.Fld Z h' x ST "coder" "B" (.int 0) ∧
  (∃ kb, Z.vm.findClass "[B" = some kb ∧ RoadKit.Arv Z h' h.size kb .byte zn (cs.map fun c => .int (lo8 c)) (.int 0)) ∧
  ∀ (O n d : String) (w : Value), RoadKit.Fld Z h x O n d w → RoadKit.slotOf Z O n d ≠ RoadKit.slotOf Z ST "value" "[B" → RoadKit.slotOf Z O n d ≠ RoadKit.slotOf Z ST "coder" "B" → RoadKit.Fld Z h' x O n d w
/-- **new String(chars) AT A CALL, THE ARRAYS AS LISTS**: the char[] at b holds cs, not empty, no char above 255 -/
theorem backArv {p : Program} {l : Launch} {e : Env} {R : Room} {s : State} {args : Array Value} {below : List Frame} {len W : Nat} {Z : State} {a0 : Array Value} {h : Heap} (hZ : Z.Warmed39 s.vm) (hw : ∀ d ∈ words, d.before a0 Z = true) {kI : Nat} (wi : (Jvm.Cond.instantiable ST kI).before a0 Z = true)
    {x b : Addr} {k : ClassId} {zn z : Int32} {cs : List Int32} {dv v0 c0 : Value} (E : RoadKit.Exa Z h x ST) (V : RoadKit.Fld Z h x ST "value" "[B" v0) (C : RoadKit.Fld Z h x ST "coder" "B" c0) (K : RoadKit.Arv Z h b k .char zn (cs.map Value.int) dv) (S : RoadKit.Sta Z h ST "COMPACT_STRINGS" "Z" (.int z)) (hz : ¬ z = 0)
    (hlen : zn.toNatClampNeg = cs.length) (h0 : 0 < cs.length) (hbig : cs.length ≤ 536870912) (hall : ∀ c ∈ cs, ¬ 255 < c) (hfr : 4 ≤ R.frames) (hlo : W + 65 ≤ R.locals) :
    Back l R p e below s args New1.yN len W (fun P a => a = #[.ref x, .ref b] ∧ P.U.heap = h ∧ P.cells + 1 ≤ R.cells ∧ P.slots + cs.length ≤ R.slots)
      (fun P _ v B => ∃ L, QA Z x zn cs h v B.U.heap L ∧ B.locs = P.locs ++ L ∧ B.cells = P.cells + 1 ∧ B.slots = P.slots + cs.length) := by
  obtain ⟨A, K1, K2, K3, K4, K5, K6⟩ := K
  have e : A.slots.size = cs.length := K3.trans hlen
  have hat : ∀ (i : Nat) (hi : i < cs.length), A.slots[i]? = some (.int cs[i]) := fun i hi => by rw [K5 i (by omega)]; simp [List.getD_eq_getElem?_getD, hi]
  have hcv : ∀ (i : Nat) (hi : i < cs.length), cv A i = cs[i] := fun i hi => by unfold cv; rw [hat i hi]
  have hty : Typed .char A := fun i v hv => by
    have hi : i < A.slots.size := (Array.getElem?_eq_some_iff.mp hv).1
    have q := K5 i hi
    rw [hv] at q
    rw [Option.some.inj q]
    exact K6 i hi
  refine Back.mono (back hZ hw wi E V C K1 hty S hz (by omega) (by omega) (fun i hi => by rw [hcv i (by omega)]; exact hall _ (List.getElem_mem _)) hfr hlo) (fun P a hp => ⟨hp.1, hp.2.1, hp.2.2.1, by rw [e]; exact hp.2.2.2⟩) (fun P a v B hp hq => ?_)
  obtain ⟨L, ⟨q1, q2, q3, q4, q5, q6, q7, ⟨V', v1, v2, v3, v4, v5⟩, q9⟩, hl, hc, hs⟩ := hq
  refine ⟨L, ⟨q1, q2, q3, q4, q5, q6, q7, ⟨V'.cls, v3, V', v1, rfl, by rw [v4, e, hlen], K4, fun i hi => ?_, fun i hi => ?_⟩, q9⟩, hl, hc, by rw [hs, e]⟩
  · have hi' : i < cs.length := by omega
    rw [v5 i (by omega), hcv i hi']; simp [List.getD_eq_getElem?_getD, hi']
  · have hi' : i < cs.length := by omega
    simp only [List.getD_eq_getElem?_getD, List.getElem?_map, List.getElem?_eq_getElem hi', Option.map_some, Option.getD_some]
    exact fits_lo8 _
end StrChars.Road
namespace StrChars.Road
open Jvm Sem ClassFile Op Lib Jvm.Stand Jvm.Free Jvm.Free.XT
/-- WHAT COMES BACK, in the writer's own shape -/
def QV (Z : State) (x : Addr) (N : Int32) (bs : List Int32) (h : Heap) (n0 : Nat) (v : Option Value) (h' : Heap) (L : List Loc) : Prop := v = none ∧ RoadKit.Fr n0 L ∧ RoadKit.Keep h h' [x] ∧ RoadKit.Exa Z h' x ST ∧ RoadKit.Fld Z h' x ST "coder" "B" (.int 0) ∧
  ∃ (t : Addr) (kb : ClassId), n0 ≤ t ∧ h.size ≤ t ∧ ¬ t = x ∧ RoadKit.Fld Z h' x ST "value" "[B" (.ref t) ∧ RoadKit.Arv Z h' t kb .byte N (bs.map Value.int) (.int 0)
/-- **new String(chars) AT A CALL, FOR THE WRITER**: a char[] of n known ints, each 0 to 255 -/
theorem backV {p : Program} {l : Launch} {e : Env} {R : Room} {s : State} {args : Array Value} {below : List Frame} {len W : Nat} {Z : State} {a0 : Array Value} {h : Heap} (hZ : Z.Warmed39 s.vm) (hw : ∀ d ∈ words, d.before a0 Z = true) {kI : Nat} (wi : (Jvm.Cond.instantiable ST kI).before a0 Z = true)
    {x b : Addr} {kC : ClassId} {cs bs : List Int32} {d v0 c0 : Value} {z N : Int32} {n n0 : Nat} (hx0 : n0 ≤ x) (hh0 : n0 ≤ h.size) (E : RoadKit.Exa Z h x ST) (V : RoadKit.Fld Z h x ST "value" "[B" v0) (C : RoadKit.Fld Z h x ST "coder" "B" c0) (K : RoadKit.Arv Z h b kC .char N (cs.map Value.int) d) (S : RoadKit.Sta Z h ST "COMPACT_STRINGS" "Z" (.int z)) (hz : ¬ z = 0)
    (hn : cs.length = n) (hN : N = Int32.ofNat n) (l0 : 0 < n) (l2 : n ≤ 4000) (hp : ∀ c ∈ cs, ¬ c < 0 ∧ ¬ (255 : Int32) < c) (hb : bs = cs.map (fun c => c.toInt8.toInt32)) (hfr : 4 ≤ R.frames) (hlo : W + 65 ≤ R.locals) :
    Back l R p e below s args (⟨"java/lang/String", "<init>", "([C)V"⟩ : MethodName) len W (fun P a => a = #[.ref x, .ref b] ∧ P.U.heap = h ∧ P.cells + 1 ≤ R.cells ∧ P.slots + n ≤ R.slots)
      (fun P _ v B => ∃ L, QV Z x N bs h n0 v B.U.heap L ∧ B.locs = P.locs ++ L ∧ B.cells = P.cells + 1 ∧ B.slots = P.slots + n) := by
  subst hn hN hb
  refine Back.mono (backArv hZ hw wi E V C K S hz (n32 (by omega)) l0 (by omega) (fun c hc => (hp c hc).2) hfr hlo) (fun P a hp => hp) (fun P a v B hp hq => ?_)
  obtain ⟨L, ⟨q1, q2, q3, q4, q5, q6, q7, ⟨kb, v1, v2⟩, q9⟩, hl, hc, hs⟩ := hq
  exact ⟨L, ⟨q1, fun y hy => by rw [q2 y hy]; exact hx0, q3, q5, q7, h.size, kb, hh0, Nat.le_refl _, Nat.ne_of_gt E.lt, q6, by rw [List.map_map]; exact v2⟩, hl, hc, hs⟩
end StrChars.Road
end Jvm.Pilot.@@N@@
namespace Jvm.Pilot.@@N@@
open Jvm Jvm.ClassFile Sem Op Lib Jvm.Free Jvm.Stand Jvm.LawKit Jvm.RoadKit Bundle Jvm.Pilot.@@N@@.Jvm.D

theorem own_eqI {args : Array Value} {first s : State} {o : Option Outcome} {idx : List Nat} {a : Term} {k : Int32} (h : (Jvm.Cond.eq a (.int k)).value args first o s idx = some true) : a.eval args first o idx s = some (.int k) := by
  simp only [Cond.value, Term.eval] at h
  cases ha : a.eval args first o idx s with
  | none => simp [ha] at h
  | some x => cases x <;> simp [ha] at h ⊢; exact h

theorem own_len {args : Array Value} {first s : State} {o : Option Outcome} {idx : List Nat} {t : Term} {a : Addr} {cl : Cell} {k : Int32} (h : (Term.length t).eval args first o idx s = some (.int k)) (ht : t.eval args first o idx s = some (.ref a)) (A : s.arrayAt? a = some cl) : cl.slots.size < 2 ^ 31 ∧ cl.slots.size.toInt32 = k := by
  simp [Term.eval, ht, A] at h
  exact h

theorem own_up (cs : List Int32) (h : ∀ c ∈ cs, ¬ c < 0 ∧ ¬ (255 : Int32) < c) : ∀ c ∈ cs, ¬ c < 0 ∧ ¬ (65535 : Int32) < c := fun c hc => ⟨(h c hc).1, fun q => (h c hc).2 (by rw [Int32.lt_iff_toInt_lt] at q ⊢; have e1 : (65535 : Int32).toInt = 65535 := rfl; have e2 : (255 : Int32).toInt = 255 := rfl; omega)⟩
theorem own_chr (y : Int32) (h0 : 0 ≤ y.toInt) (h1 : y.toInt < 65536) : y.toUInt32.toUInt16.toUInt32.toInt32 = y := Int32.toInt_inj.mp (by have := c_i2c y; omega)
theorem own_nn (x : Int32) : nar .char (x.toUInt32.toUInt16.toUInt32.toInt32) = x.toUInt32.toUInt16.toUInt32.toInt32 := own_chr _ (c_i2c x).2.1 (c_i2c x).2.2
theorem own_b255 (x : Int32) (h0 : 0 ≤ x.toInt) (h1 : x.toInt < 256) : ¬ nar .char (x.toUInt32.toUInt16.toUInt32.toInt32) < 0 ∧ ¬ (255 : Int32) < nar .char (x.toUInt32.toUInt16.toUInt32.toInt32) := by
  rw [own_nn, own_chr x h0 (by omega)]
  simp only [Int32.lt_iff_toInt_lt, Int32.reduceToInt]
  omega

def own_rs (k : Int32) (r0 r1 r2 r3 r4 r5 r6 r7 r8 : Addr) : Addr := if k = (0 : Int32) then r0 else if k = (1 : Int32) then r1 else if k = (2 : Int32) then r2 else if k = (3 : Int32) then r3 else if k = (4 : Int32) then r4 else if k = (5 : Int32) then r5 else if k = (6 : Int32) then r6 else if k = (7 : Int32) then r7 else r8
theorem own_u255 (x : Int32) : 0 ≤ (x &&& (255 : Int32)).toInt ∧ (x &&& (255 : Int32)).toInt < 256 := by
  have a := c_mask x 255 8 (by decide) (by decide)
  omega
theorem own_i255 (x : Int32) : ¬ (255 : Int32) < (x &&& (255 : Int32)).toUInt32.toUInt16.toUInt32.toInt32 := by
  have a := own_u255 x
  rw [own_chr _ a.1 (by omega)]
  simp only [Int32.lt_iff_toInt_lt, Int32.reduceToInt]
  omega
theorem d8_0 : decode jdk_43_method_3_code 0 = .ok (.iload_n 0, 1) := by decide +kernel
theorem d8_1 : decode jdk_43_method_3_code 1 = .ok (.sipush 255, 3) := by decide +kernel
theorem d8_4 : decode jdk_43_method_3_code 4 = .ok (.if_icmp .gt 7, 3) := by decide +kernel
theorem d8_7 : decode jdk_43_method_3_code 7 = .ok (.iconst 1, 1) := by decide +kernel
theorem d8_8 : decode jdk_43_method_3_code 8 = .ok (.goto 4, 3) := by decide +kernel
theorem d8_12 : decode jdk_43_method_3_code 12 = .ok (.ireturn, 1) := by decide +kernel
theorem pn_8 : plainName "java/lang/StringLatin1" = true := by first | (simp [plainName, overriddenIn]; done) | decide +kernel
theorem ef_8 (m : MethodId) (x0 : Int32) : entryFrame m #[(.int x0)] 1 = mkF m 0 #[.val (.int x0)] [] := by first | (simp [entryFrame, mkF, argsToLocals, Value.category]; done) | rfl
def Q_8 (Z : State) (p1 : Int32) (h0 : Heap) (n0 : Nat) (v : Option Value) (h : Heap) (L : List Loc) : Prop := v = some (.int 1) ∧ Fr n0 L ∧ h = h0
set_option maxRecDepth 65536 in
set_option maxHeartbeats 40000000 in
theorem rm_8 (l : Launch) (Z : State) (a0 : Array Value) (hw : ∀ d ∈ tables_1, d.before a0 Z = true) (ws : List Jvm.Cond) (p1 : Int32) (h0 : Heap) (n0 : Nat) (Z0 : n0 ≤ h0.size) (u : ¬ (255 : Int32) < p1) :
    MetFree l (⟨"java/lang/StringLatin1", "canEncode", "(C)Z"⟩ : MethodName) (head1 (Jvm.Cond.code (⟨"java/lang/StringLatin1", "canEncode", "(C)Z"⟩ : MethodName) jdk_43_method_3_code 1 (some .boolean) :: ws) ({ frames := 0, cells := 0, slots := 0, locals := 0 } : Room)) (fun a U => a = #[(.int p1)] ∧ Z.Warmed39 U.vm ∧ U.heap = h0) (fun _ _ _ _ _ => True) (fun _ U o U' => ∃ v L, o = .returned v ∧ Q_8 Z p1 h0 n0 v U'.heap L ∧ FrameEnd U o U' L ({ frames := 0, cells := 0, slots := 0, locals := 0 } : Room).cells ({ frames := 0, cells := 0, slots := 0, locals := 0 } : Room).slots) := by
  refine MetFree.of_bodySF (plainFor_of_name pn_8) hisR ?_
  intro p e s m args below meth cod_ s₁ Bd hml0 hP hK
  obtain ⟨rfl, hZ, hh⟩ := hP
  have hx := Bd.exec
  have hby := Bd.bytes
  have hml : cod_.maxLocals = 1 := hml0
  have hown : s.vm.findClass "java/lang/StringLatin1" = some m.cls := findClass_of_methodNamed Bd.named
  have hnm := (name_of_methodNamed Bd.named Bd.method).1
  have X0 : Stand p l e ({ frames := 0, cells := 0, slots := 0, locals := 0 } : Room) s m #[(.int p1)] below meth cod_ s₁ [] 0 0 := Stand.of_body Bd
  have e0 : s₁.heap = h0 := by rw [← hh, Bd.state]; rfl
  have N0 := Fr.nil n0
  have pre0 : ∀ t, Steps p.tables e below (s₁.setTop (mkF m 0 #[.val (.int p1)] [])) t → Steps p.tables e below (s₁.setTop (entryFrame m #[(.int p1)] 1)) t := fun t k => castTop (ef_8 m p1) k
  have hc4 : ¬ ((255 : Int32) < p1) := u
  obtain ⟨fs, hr, hrun, hended, hW, hsame⟩ := X0.leave (v := some (.int (1 : Int32))) (fun h => by rw [Bd.returns] at h; cases h)
  refine ⟨_, _, pre0 _ ?_, hrun, hended, _, _, rfl, ?_, ⟨_, rfl⟩, hW, hsame.mono (by decide) (by decide)⟩
  · show Steps p.tables e below (s₁.setTop (mkF m 0 #[.val (.int p1)] [])) _
    refine XS.iloadN X0.here hx rfl (hb hby d8_0) rfl ?_
    show Steps p.tables e below (s₁.setTop (mkF m 1 #[.val (.int p1)] [(.int p1)])) _
    refine XS.sipush X0.here hx rfl (hb hby d8_1) ?_
    show Steps p.tables e below (s₁.setTop (mkF m 4 #[.val (.int p1)] [(.int (255 : Int32)), (.int p1)])) _
    refine XS.icmpNo X0.here hx rfl (hb hby d8_4) rfl (flt hc4).2.2.1 ?_
    show Steps p.tables e below (s₁.setTop (mkF m 7 #[.val (.int p1)] [])) _
    refine XS.iconst X0.here hx rfl (hb hby d8_7) ?_
    show Steps p.tables e below (s₁.setTop (mkF m 8 #[.val (.int p1)] [(.int (1 : Int32))])) _
    refine XS.goto X0.here hx rfl (pc0 := 8) (pc' := 12) rfl (hb hby d8_8) (by decide) (by decide) ?_
    show Steps p.tables e below (s₁.setTop (mkF m 12 #[.val (.int p1)] [(.int (1 : Int32))])) _
    exact retN X0 hx (t := .boolean) Bd.returns (by simp) (hb hby d8_12) hr
  · show Q_8 Z p1 h0 n0 _ s₁.heap _
    rw [e0]
    exact ⟨rfl, N0, rfl⟩
theorem d9_0 : decode jdk_43_method_46_code 0 = .ok (.iconst 1, 1) := by decide +kernel
theorem d9_1 : decode jdk_43_method_46_code 1 = .ok (.newarray .byte, 2) := by decide +kernel
theorem d9_3 : decode jdk_43_method_46_code 3 = .ok (.dup, 1) := by decide +kernel
theorem d9_4 : decode jdk_43_method_46_code 4 = .ok (.iconst 0, 1) := by decide +kernel
theorem d9_5 : decode jdk_43_method_46_code 5 = .ok (.iload_n 0, 1) := by decide +kernel
theorem d9_6 : decode jdk_43_method_46_code 6 = .ok (.i2b, 1) := by decide +kernel
theorem d9_7 : decode jdk_43_method_46_code 7 = .ok (.bastore, 1) := by decide +kernel
theorem d9_8 : decode jdk_43_method_46_code 8 = .ok (.areturn, 1) := by decide +kernel
theorem pn_9 : plainName "java/lang/StringLatin1" = true := by first | (simp [plainName, overriddenIn]; done) | decide +kernel
theorem ef_9 (m : MethodId) (x0 : Int32) : entryFrame m #[(.int x0)] 1 = mkF m 0 #[.val (.int x0)] [] := by first | (simp [entryFrame, mkF, argsToLocals, Value.category]; done) | rfl
def Q_9 (Z : State) (p1 : Int32) (h0 : Heap) (n0 : Nat) (v : Option Value) (h : Heap) (L : List Loc) : Prop := v = some (.ref h0.size) ∧ Fr n0 L ∧ Keep h0 h []
set_option maxRecDepth 65536 in
set_option maxHeartbeats 40000000 in
theorem rm_9 (l : Launch) (Z : State) (a0 : Array Value) (hw : ∀ d ∈ tables_1, d.before a0 Z = true) (ws : List Jvm.Cond) (p1 : Int32) (h0 : Heap) (n0 : Nat) (Z0 : n0 ≤ h0.size) :
    MetFree l (⟨"java/lang/StringLatin1", "toBytes", "(C)[B"⟩ : MethodName) (head1 (Jvm.Cond.code (⟨"java/lang/StringLatin1", "toBytes", "(C)[B"⟩ : MethodName) jdk_43_method_46_code 1 (some (.array .byte)) :: ws) ({ frames := 0, cells := 1, slots := 1, locals := 0 } : Room)) (fun a U => a = #[(.int p1)] ∧ Z.Warmed39 U.vm ∧ U.heap = h0) (fun _ _ _ _ _ => True) (fun _ U o U' => ∃ v L, o = .returned v ∧ Q_9 Z p1 h0 n0 v U'.heap L ∧ FrameEnd U o U' L ({ frames := 0, cells := 1, slots := 1, locals := 0 } : Room).cells ({ frames := 0, cells := 1, slots := 1, locals := 0 } : Room).slots) := by
  refine MetFree.of_bodySF (plainFor_of_name pn_9) hisR ?_
  intro p e s m args below meth cod_ s₁ Bd hml0 hP hK
  obtain ⟨rfl, hZ, hh⟩ := hP
  have hx := Bd.exec
  have hby := Bd.bytes
  have hml : cod_.maxLocals = 1 := hml0
  have hown : s.vm.findClass "java/lang/StringLatin1" = some m.cls := findClass_of_methodNamed Bd.named
  have hnm := (name_of_methodNamed Bd.named Bd.method).1
  have X0 : Stand p l e ({ frames := 0, cells := 1, slots := 1, locals := 0 } : Room) s m #[(.int p1)] below meth cod_ s₁ [] 0 0 := Stand.of_body Bd
  have e0 : s₁.heap = h0 := by rw [← hh, Bd.state]; rfl
  have N0 := Fr.nil n0
  have pre0 : ∀ t, Steps p.tables e below (s₁.setTop (mkF m 0 #[.val (.int p1)] [])) t → Steps p.tables e below (s₁.setTop (entryFrame m #[(.int p1)] 1)) t := fun t k => castTop (ef_9 m p1) k
  obtain ⟨T1, h1, k1, X1, e1, E1, A1, st1⟩ := newP X0 hx hZ (hw _ (List.mem_of_getElem? (i := 19) rfl)) e0 (g := (mkF m 1 #[.val (.int p1)] [(.int (1 : Int32))])) rfl (hb hby d9_1) rfl (by decide) (cap := 1) (by decide) (by decide) (by decide) (by decide)
  obtain ⟨b1, g1⟩ : ∃ z, z = h0.size := ⟨_, rfl⟩
  rw [← g1] at A1 st1
  have g_b1 : n0 ≤ b1 := Nat.le_trans (Nat.le_trans Z0 (Keep.refl h0 []).1) (Nat.le_of_eq g1.symm)
  have sz_b1 : h0.size ≤ b1 := Nat.le_trans (Keep.refl h0 []).1 (Nat.le_of_eq g1.symm)
  have Kh1 : Keep h0 h1 [] := (Keep.refl h0 []).ext E1
  have V_b1 : Arv Z h1 b1 k1 .byte (1 : Int32) [(.int (0 : Int32))] (.int (0 : Int32)) := (Arv.new A1 (by decide)).pad (pad_rep [] (.int (0 : Int32)) 1)
  obtain ⟨cl2, Ar2, q2, S2, M2, H2, G2⟩ := id (V_b1)
  have hin2 : ¬ ((0 : Int32) < 0 ∨ cl2.slots.size ≤ ((0 : Int32)).toNatClampNeg) := inb_of S2 ⟨by decide, by decide⟩
  obtain ⟨T2, h2, X2, e2, W2, st2⟩ := stB X1 hx hZ e1 Ar2 (j := (0 : Int32)) hin2 (g := (mkF m 7 #[.val (.int p1)] [(.int (p1.toInt8.toInt32)), (.int (0 : Int32)), (.ref b1), (.ref b1)])) rfl rfl (hb hby d9_7)
  have V2 : Arv Z h2 b1 k1 .byte (1 : Int32) [(.int (nar .byte (p1.toInt8.toInt32)))] (.int (0 : Int32)) := Arv.set Ar2 q2 S2 M2 H2 G2 (fits_nar_byte _) W2 0 rfl (Nat.le_of_ble_eq_true rfl)
  have Kh2 : Keep h0 h2 [] := Kh1.wr W2 (Or.inr sz_b1)
  have N2 := Fr.snoc X2 N0 g_b1
  obtain ⟨fs, hr, hrun, hended, hW, hsame⟩ := X2.leave (v := some (.ref b1)) (fun h => by rw [Bd.returns] at h; cases h)
  refine ⟨_, _, pre0 _ ?_, hrun, hended, _, _, rfl, ?_, ⟨_, rfl⟩, hW, hsame.mono (by decide) (by decide)⟩
  · show Steps p.tables e below (s₁.setTop (mkF m 0 #[.val (.int p1)] [])) _
    refine XS.iconst X0.here hx rfl (hb hby d9_0) ?_
    show Steps p.tables e below (s₁.setTop (mkF m 1 #[.val (.int p1)] [(.int (1 : Int32))])) _
    refine st1 _ ?_
    show Steps p.tables e below (T1.setTop (mkF m 3 #[.val (.int p1)] [(.ref b1)])) _
    refine XS.dup X1.here hx rfl (hb hby d9_3) rfl rfl ?_
    show Steps p.tables e below (T1.setTop (mkF m 4 #[.val (.int p1)] [(.ref b1), (.ref b1)])) _
    refine XS.iconst X1.here hx rfl (hb hby d9_4) ?_
    show Steps p.tables e below (T1.setTop (mkF m 5 #[.val (.int p1)] [(.int (0 : Int32)), (.ref b1), (.ref b1)])) _
    refine XS.iloadN X1.here hx rfl (hb hby d9_5) rfl ?_
    show Steps p.tables e below (T1.setTop (mkF m 6 #[.val (.int p1)] [(.int p1), (.int (0 : Int32)), (.ref b1), (.ref b1)])) _
    refine XS.i2b X1.here hx rfl (hb hby d9_6) rfl ?_
    show Steps p.tables e below (T1.setTop (mkF m 7 #[.val (.int p1)] [(.int (p1.toInt8.toInt32)), (.int (0 : Int32)), (.ref b1), (.ref b1)])) _
    refine st2 _ ?_
    show Steps p.tables e below (T2.setTop (mkF m 8 #[.val (.int p1)] [(.ref b1)])) _
    jvm_step X2.here [X2.here.top, hx, (hb hby d9_8), X2.method', Bd.returns, Value.isRef, FieldType.isReference]
    first | (intro acts; rw [hr _ acts rfl rfl rfl]) | rw [hr _ _ rfl rfl rfl]
    exact Steps.refl _
  · show Q_9 Z p1 h0 n0 _ T2.heap _
    rw [e2]
    subst g1
    exact ⟨rfl, N2, Kh2⟩
theorem d10_0 : decode jdk_42_method_151_code 0 = .ok (.aload_n 0, 1) := by decide +kernel
theorem d10_1 : decode jdk_42_method_151_code 1 = .ok (.invokespecial 1, 3) := by decide +kernel
theorem d10_4 : decode jdk_42_method_151_code 4 = .ok (.aload_n 0, 1) := by decide +kernel
theorem d10_5 : decode jdk_42_method_151_code 5 = .ok (.aload_n 1, 1) := by decide +kernel
theorem d10_6 : decode jdk_42_method_151_code 6 = .ok (.putfield 9, 3) := by decide +kernel
theorem d10_9 : decode jdk_42_method_151_code 9 = .ok (.aload_n 0, 1) := by decide +kernel
theorem d10_10 : decode jdk_42_method_151_code 10 = .ok (.iload_n 2, 1) := by decide +kernel
theorem d10_11 : decode jdk_42_method_151_code 11 = .ok (.putfield 15, 3) := by decide +kernel
theorem d10_14 : decode jdk_42_method_151_code 14 = .ok (.return_, 1) := by decide +kernel
theorem pn_10 : plainName "java/lang/String" = true := by first | (simp [plainName, overriddenIn]; done) | decide +kernel
theorem ef_10 (m : MethodId) (x0 : Addr) (x1 : Addr) (x2 : Int32) : entryFrame m #[(.ref x0), (.ref x1), (.int x2)] 3 = mkF m 0 #[.val (.ref x0), .val (.ref x1), .val (.int x2)] [] := by first | (simp [entryFrame, mkF, argsToLocals, Value.category]; done) | rfl
def Q_10 (Z : State) (a1 : Addr) (a2 : Addr) (p3 : Int32) (h0 : Heap) (n0 : Nat) (v : Option Value) (h : Heap) (L : List Loc) : Prop := v = none ∧ Fr n0 L ∧ Keep h0 h [a1]
set_option maxRecDepth 65536 in
set_option maxHeartbeats 40000000 in
theorem rm_10 (l : Launch) (Z : State) (a0 : Array Value) (hw : ∀ d ∈ tables_1, d.before a0 Z = true) (ws : List Jvm.Cond) (a1 : Addr) (a2 : Addr) (p3 : Int32) (h0 : Heap) (n0 : Nat) (Z0 : n0 ≤ h0.size) (E_a1 : Exa Z h0 a1 "java/lang/String") (g_a1 : n0 ≤ a1) (F_value : Fld Z h0 a1 "java/lang/String" "value" "[B" .null) (F_coder : Fld Z h0 a1 "java/lang/String" "coder" "B" (.int (0 : Int32))) :
    MetFree l (⟨"java/lang/String", "<init>", "([BB)V"⟩ : MethodName) (head1 (Jvm.Cond.code (⟨"java/lang/String", "<init>", "([BB)V"⟩ : MethodName) jdk_42_method_151_code 3 none :: ws) ({ frames := 1, cells := 0, slots := 0, locals := 12 } : Room)) (fun a U => a = #[(.ref a1), (.ref a2), (.int p3)] ∧ Z.Warmed39 U.vm ∧ U.heap = h0) (fun _ _ _ _ _ => True) (fun _ U o U' => ∃ v L, o = .returned v ∧ Q_10 Z a1 a2 p3 h0 n0 v U'.heap L ∧ FrameEnd U o U' L ({ frames := 1, cells := 0, slots := 0, locals := 12 } : Room).cells ({ frames := 1, cells := 0, slots := 0, locals := 12 } : Room).slots) := by
  refine MetFree.of_bodySF (plainFor_of_name pn_10) hisR ?_
  intro p e s m args below meth cod_ s₁ Bd hml0 hP hK
  obtain ⟨rfl, hZ, hh⟩ := hP
  have hx := Bd.exec
  have hby := Bd.bytes
  have hml : cod_.maxLocals = 3 := hml0
  have hown : s.vm.findClass "java/lang/String" = some m.cls := findClass_of_methodNamed Bd.named
  have hnm := (name_of_methodNamed Bd.named Bd.method).1
  have X0 : Stand p l e ({ frames := 1, cells := 0, slots := 0, locals := 12 } : Room) s m #[(.ref a1), (.ref a2), (.int p3)] below meth cod_ s₁ [] 0 0 := Stand.of_body Bd
  have e0 : s₁.heap = h0 := by rw [← hh, Bd.state]; rfl
  have N0 := Fr.nil n0
  have pre0 : ∀ t, Steps p.tables e below (s₁.setTop (mkF m 0 #[.val (.ref a1), .val (.ref a2), .val (.int p3)] [])) t → Steps p.tables e below (s₁.setTop (entryFrame m #[(.ref a1), (.ref a2), (.int p3)] 3)) t := fun t k => castTop (ef_10 m a1 a2 p3) k
  obtain ⟨T3, X3, e3, st3⟩ := initO X0 hx hZ hown (hw _ (List.mem_of_getElem? (i := 11) rfl)) (hw _ (List.mem_of_getElem? (i := 12) rfl)) (hw _ (List.mem_of_getElem? (i := 13) rfl)) e0 (g := (mkF m 1 #[.val (.ref a1), .val (.ref a2), .val (.int p3)] [(.ref a1)])) rfl (by rw [hml]; rfl) rfl (hb hby d10_1) (by decide) (W := 0) (by show 2 * 0 + _ ≤ _; exact Nat.le_of_eq rfl) (by decide)
  obtain ⟨T4, h4, X4, e4, W4, st4⟩ := putF X3 hx hZ hown (host := "") (Or.inl (hw _ (List.mem_of_getElem? (i := 28) rfl))) Via.refl e3 F_value E_a1 (Or.inr ⟨(hw _ (List.mem_of_getElem? (i := 29) rfl)), rfl, hnm⟩) (hw _ (List.mem_of_getElem? (i := 2) rfl)) (ty := (.array .byte)) (by decide) rfl rfl (g := (mkF m 6 #[.val (.ref a1), .val (.ref a2), .val (.int p3)] [(.ref a2), (.ref a1)])) rfl rfl (hb hby d10_6)
  have Fw4 : Fld Z h4 a1 "java/lang/String" "value" "[B" (.ref a2) := F_value.same W4
  have N4 := Fr.snoc X4 N0 g_a1
  have Kh4 : Keep h0 h4 [a1] := (Keep.refl h0 [a1]).wr W4 (Or.inl (List.mem_of_getElem? (i := 0) rfl))
  obtain ⟨T5, h5, X5, e5, W5, st5⟩ := putFN X4 hx hZ hown (hw _ (List.mem_of_getElem? (i := 26) rfl)) Via.refl e4 (F_coder.other W4 (Or.inr (slot_ne (Or.inr (hw _ (List.mem_of_getElem? (i := 27) rfl))) (Or.inr (hw _ (List.mem_of_getElem? (i := 29) rfl))) (by decide) (t := .byte) (t' := (.array .byte)) (by decide) (by decide)))) (E_a1.wr W4) (Or.inr ⟨(hw _ (List.mem_of_getElem? (i := 27) rfl)), rfl, hnm⟩) (hw _ (List.mem_of_getElem? (i := 2) rfl)) (ty := .byte) (v' := (.int (nar .byte p3))) (by decide) rfl (fits_nar_byte _) (g := (mkF m 11 #[.val (.ref a1), .val (.ref a2), .val (.int p3)] [(.int p3), (.ref a1)])) rfl rfl (hb hby d10_11)
  have Fw5 : Fld Z h5 a1 "java/lang/String" "coder" "B" (.int (nar .byte p3)) := (F_coder.other W4 (Or.inr (slot_ne (Or.inr (hw _ (List.mem_of_getElem? (i := 27) rfl))) (Or.inr (hw _ (List.mem_of_getElem? (i := 29) rfl))) (by decide) (t := .byte) (t' := (.array .byte)) (by decide) (by decide)))).same W5
  have N5 := Fr.snoc X5 N4 g_a1
  have Kh5 : Keep h0 h5 [a1] := Kh4.wr W5 (Or.inl (List.mem_of_getElem? (i := 0) rfl))
  obtain ⟨fs, hr, hrun, hended, hW, hsame⟩ := X5.leave (v := none) (fun _ => rfl)
  refine ⟨_, _, pre0 _ ?_, hrun, hended, _, _, rfl, ?_, ⟨_, rfl⟩, hW, hsame.mono (by decide) (by decide)⟩
  · show Steps p.tables e below (s₁.setTop (mkF m 0 #[.val (.ref a1), .val (.ref a2), .val (.int p3)] [])) _
    refine XS.aloadN X0.here hx rfl (hb hby d10_0) rfl rfl ?_
    show Steps p.tables e below (s₁.setTop (mkF m 1 #[.val (.ref a1), .val (.ref a2), .val (.int p3)] [(.ref a1)])) _
    refine st3 _ ?_
    show Steps p.tables e below (T3.setTop (mkF m 4 #[.val (.ref a1), .val (.ref a2), .val (.int p3)] [])) _
    refine XS.aloadN X3.here hx rfl (hb hby d10_4) rfl rfl ?_
    show Steps p.tables e below (T3.setTop (mkF m 5 #[.val (.ref a1), .val (.ref a2), .val (.int p3)] [(.ref a1)])) _
    refine XS.aloadN X3.here hx rfl (hb hby d10_5) rfl rfl ?_
    show Steps p.tables e below (T3.setTop (mkF m 6 #[.val (.ref a1), .val (.ref a2), .val (.int p3)] [(.ref a2), (.ref a1)])) _
    refine st4 _ ?_
    show Steps p.tables e below (T4.setTop (mkF m 9 #[.val (.ref a1), .val (.ref a2), .val (.int p3)] [])) _
    refine XS.aloadN X4.here hx rfl (hb hby d10_9) rfl rfl ?_
    show Steps p.tables e below (T4.setTop (mkF m 10 #[.val (.ref a1), .val (.ref a2), .val (.int p3)] [(.ref a1)])) _
    refine XS.iloadN X4.here hx rfl (hb hby d10_10) rfl ?_
    show Steps p.tables e below (T4.setTop (mkF m 11 #[.val (.ref a1), .val (.ref a2), .val (.int p3)] [(.int p3), (.ref a1)])) _
    refine st5 _ ?_
    show Steps p.tables e below (T5.setTop (mkF m 14 #[.val (.ref a1), .val (.ref a2), .val (.int p3)] [])) _
    exact X5.returnOut hx Bd.returns (hb hby d10_14) hr
  · show Q_10 Z a1 a2 p3 h0 n0 _ T5.heap _
    rw [e5]
    exact ⟨rfl, N5, Kh5⟩
theorem d7_0 : decode jdk_42_method_139_code 0 = .ok (.getstatic 38, 3) := by decide +kernel
theorem d7_3 : decode jdk_42_method_139_code 3 = .ok (.ifCond .eq 23, 3) := by decide +kernel
theorem d7_6 : decode jdk_42_method_139_code 6 = .ok (.iload_n 0, 1) := by decide +kernel
theorem d7_7 : decode jdk_42_method_139_code 7 = .ok (.invokestatic 1015, 3) := by decide +kernel
theorem d7_10 : decode jdk_42_method_139_code 10 = .ok (.ifCond .eq 16, 3) := by decide +kernel
theorem d7_13 : decode jdk_42_method_139_code 13 = .ok (.new 10, 3) := by decide +kernel
theorem d7_16 : decode jdk_42_method_139_code 16 = .ok (.dup, 1) := by decide +kernel
theorem d7_17 : decode jdk_42_method_139_code 17 = .ok (.iload_n 0, 1) := by decide +kernel
theorem d7_18 : decode jdk_42_method_139_code 18 = .ok (.invokestatic 1018, 3) := by decide +kernel
theorem d7_21 : decode jdk_42_method_139_code 21 = .ok (.iconst 0, 1) := by decide +kernel
theorem d7_22 : decode jdk_42_method_139_code 22 = .ok (.invokespecial 209, 3) := by decide +kernel
theorem d7_25 : decode jdk_42_method_139_code 25 = .ok (.areturn, 1) := by decide +kernel
theorem pd__28C_29Z : parseMethodDescriptor "(C)Z" = some ⟨[.char], some .boolean⟩ := by decide +kernel
theorem pd__28C_29_5bB : parseMethodDescriptor "(C)[B" = some ⟨[.char], some (.array .byte)⟩ := by decide +kernel
theorem pd__28_5bBB_29V : parseMethodDescriptor "([BB)V" = some ⟨[(.array .byte), .byte], none⟩ := by decide +kernel
theorem pn_7 : plainName "java/lang/String" = true := by first | (simp [plainName, overriddenIn]; done) | decide +kernel
theorem ef_7 (m : MethodId) (x0 : Int32) : entryFrame m #[(.int x0)] 1 = mkF m 0 #[.val (.int x0)] [] := by first | (simp [entryFrame, mkF, argsToLocals, Value.category]; done) | rfl
def Q_7 (Z : State) (p1 : Int32) (h0 : Heap) (n0 : Nat) (v : Option Value) (h : Heap) (L : List Loc) : Prop := v = some (.ref h0.size) ∧ Fr n0 L ∧ Keep h0 h []
set_option maxRecDepth 65536 in
set_option maxHeartbeats 40000000 in
theorem rm_7 (l : Launch) (Z : State) (a0 : Array Value) (hw : ∀ d ∈ tables_1, d.before a0 Z = true) (ws : List Jvm.Cond) (p1 : Int32) (zc : Int32) (h0 : Heap) (n0 : Nat) (Z0 : n0 ≤ h0.size) (u : ¬ (255 : Int32) < p1) (S_COMPACT_STRINGS : Sta Z h0 "java/lang/String" "COMPACT_STRINGS" "Z" (.int zc)) (hz : ¬ zc = 0) :
    MetFree l (⟨"java/lang/String", "valueOf", "(C)Ljava/lang/String;"⟩ : MethodName) (head1 (Jvm.Cond.code (⟨"java/lang/String", "valueOf", "(C)Ljava/lang/String;"⟩ : MethodName) jdk_42_method_139_code 1 (some (.object "java/lang/String")) :: ws) ({ frames := 2, cells := 2, slots := 5, locals := 27 } : Room)) (fun a U => a = #[(.int p1)] ∧ Z.Warmed39 U.vm ∧ U.heap = h0) (fun _ _ _ _ _ => True) (fun _ U o U' => ∃ v L, o = .returned v ∧ Q_7 Z p1 h0 n0 v U'.heap L ∧ FrameEnd U o U' L ({ frames := 2, cells := 2, slots := 5, locals := 27 } : Room).cells ({ frames := 2, cells := 2, slots := 5, locals := 27 } : Room).slots) := by
  refine MetFree.of_bodySF (plainFor_of_name pn_7) hisR ?_
  intro p e s m args below meth cod_ s₁ Bd hml0 hP hK
  obtain ⟨rfl, hZ, hh⟩ := hP
  have hx := Bd.exec
  have hby := Bd.bytes
  have hml : cod_.maxLocals = 1 := hml0
  have hown : s.vm.findClass "java/lang/String" = some m.cls := findClass_of_methodNamed Bd.named
  have hnm := (name_of_methodNamed Bd.named Bd.method).1
  have X0 : Stand p l e ({ frames := 2, cells := 2, slots := 5, locals := 27 } : Room) s m #[(.int p1)] below meth cod_ s₁ [] 0 0 := Stand.of_body Bd
  have e0 : s₁.heap = h0 := by rw [← hh, Bd.state]; rfl
  have N0 := Fr.nil n0
  have pre0 : ∀ t, Steps p.tables e below (s₁.setTop (mkF m 0 #[.val (.int p1)] [])) t → Steps p.tables e below (s₁.setTop (entryFrame m #[(.int p1)] 1)) t := fun t k => castTop (ef_7 m p1) k
  obtain ⟨T6, X6, e6, st6⟩ := getS2 X0 hx hZ hown (host := "") (Or.inl (hw _ (List.mem_of_getElem? (i := 14) rfl))) Via.refl e0 S_COMPACT_STRINGS (g := (mkF m 0 #[.val (.int p1)] [])) rfl (hb hby d7_0)
  have hc3 : ¬ (zc = (0 : Int32)) := hz
  obtain ⟨_, _, ⟨T7, L7, c7_, n7_⟩, -, X7, ⟨Lc7, hQ7, l7, y7, z7⟩, st7⟩ := Jvm.LawKit.callS X6 hx (y := (⟨"java/lang/StringLatin1", "canEncode", "(C)Z"⟩ : MethodName)) hown (mvT hZ (hw _ (List.mem_of_getElem? (i := 33) rfl))) (mvT hZ (hw _ (List.mem_of_getElem? (i := 34) rfl))) (mvT hZ (hw _ (List.mem_of_getElem? (i := 35) rfl))) (mvT hZ (hw _ (List.mem_of_getElem? (i := 36) rfl))) (by decide) (backOf (W := 0) (rm_8 l Z a0 hw [] p1 h0 n0 (Nat.le_trans Z0 (Keep.refl h0 []).1) u) hZ (hw _ (List.mem_of_getElem? (i := 36) rfl)) (hw _ (List.mem_of_getElem? (i := 35) rfl)) (by decide) (by decide)) (g := (mkF m 7 #[.val (.int p1)] [(.int p1)])) rfl (by rw [hml]; rfl) (argsL := [(.int p1)]) (rest := []) (lenOf pd__28C_29Z rfl) rfl (by show 2 * 0 + _ ≤ _; exact Nat.le_of_eq rfl) (hb hby d7_7) (fun _ _ => ⟨rfl, e6, (by decide : 0 + 0 ≤ _), (by decide : 0 + 0 ≤ _)⟩)
  dsimp only [Pt.U, Pt.locs, Pt.cells, Pt.slots] at X7 l7 y7 z7 st7 hQ7
  subst l7 y7 z7
  obtain ⟨rfl, Nq7, e7⟩ := hQ7
  have N7 := Fr.app N0 Nq7
  have hc10 : ¬ ((1 : Int32) = (0 : Int32)) := by decide
  obtain ⟨T8, h8, X8, e8, E8, A8, D8, -, st8⟩ := newO X7 hx hZ hown (hw _ (List.mem_of_getElem? (i := 37) rfl)) (hw _ (List.mem_of_getElem? (i := 2) rfl)) (hw _ (List.mem_of_getElem? (i := 3) rfl)) e7 (g := (mkF m 13 #[.val (.int p1)] [])) rfl (hb hby d7_13) (by decide) (by decide)
  obtain ⟨b8, g8⟩ : ∃ z, z = h0.size := ⟨_, rfl⟩
  rw [← g8] at A8 D8 st8
  have g_b8 : n0 ≤ b8 := Nat.le_trans (Nat.le_trans Z0 (Keep.refl h0 []).1) (Nat.le_of_eq g8.symm)
  have sz_b8 : h0.size ≤ b8 := Nat.le_trans (Keep.refl h0 []).1 (Nat.le_of_eq g8.symm)
  have Kh8 : Keep h0 h8 [] := (Keep.refl h0 []).ext E8
  have F_coder_b8 : Fld Z h8 b8 "java/lang/String" "coder" "B" (.int (0 : Int32)) := D8 (Or.inr (hw _ (List.mem_of_getElem? (i := 27) rfl))) (ty := .byte) (by decide)
  have F_value_b8 : Fld Z h8 b8 "java/lang/String" "value" "[B" .null := D8 (Or.inr (hw _ (List.mem_of_getElem? (i := 29) rfl))) (ty := (.array .byte)) (by decide)
  obtain ⟨_, _, ⟨T9, L9, c9_, n9_⟩, -, X9, ⟨Lc9, hQ9, l9, y9, z9⟩, st9⟩ := Jvm.LawKit.callS X8 hx (y := (⟨"java/lang/StringLatin1", "toBytes", "(C)[B"⟩ : MethodName)) hown (mvT hZ (hw _ (List.mem_of_getElem? (i := 38) rfl))) (mvT hZ (hw _ (List.mem_of_getElem? (i := 39) rfl))) (mvT hZ (hw _ (List.mem_of_getElem? (i := 35) rfl))) (mvT hZ (hw _ (List.mem_of_getElem? (i := 40) rfl))) (by decide) (backOf (W := 2) (rm_9 l Z a0 hw [] p1 h8 n0 (Nat.le_trans Z0 Kh8.1) ) hZ (hw _ (List.mem_of_getElem? (i := 40) rfl)) (hw _ (List.mem_of_getElem? (i := 35) rfl)) (by decide) (by decide)) (g := (mkF m 18 #[.val (.int p1)] [(.int p1), (.ref b8), (.ref b8)])) rfl (by rw [hml]; rfl) (argsL := [(.int p1)]) (rest := [(.ref b8), (.ref b8)]) (lenOf pd__28C_29_5bB rfl) rfl (by show 2 * 0 + _ ≤ _; exact Nat.le_of_eq rfl) (hb hby d7_18) (fun _ _ => ⟨rfl, e8, (by decide : 1 + 1 ≤ _), (by decide : 4 + 1 ≤ _)⟩)
  dsimp only [Pt.U, Pt.locs, Pt.cells, Pt.slots] at X9 l9 y9 z9 st9 hQ9
  subst l9 y9 z9
  obtain ⟨rfl, Nq9, K9⟩ := hQ9
  have N9 := Fr.app N7 Nq9
  have Kh9 : Keep h0 T9.heap [] := Kh8.trans K9 (fun _ q_ => nomatch q_)
  obtain ⟨b9, g9⟩ : ∃ z, z = h8.size := ⟨_, rfl⟩
  rw [← g9] at st9
  have ne_b8_b9 : b8 ≠ b9 := Nat.ne_of_lt (Nat.lt_of_lt_of_le A8.lt (Nat.le_of_eq g9.symm))
  obtain ⟨_, _, ⟨T10, L10, c10_, n10_⟩, -, X10, ⟨Lc10, hQ10, l10, y10, z10⟩, st10⟩ := X9.specialBack hx (y := (⟨"java/lang/String", "<init>", "([BB)V"⟩ : MethodName)) rfl hown (mvT hZ (hw _ (List.mem_of_getElem? (i := 41) rfl))) (mvT hZ (hw _ (List.mem_of_getElem? (i := 42) rfl))) (mvT hZ (hw _ (List.mem_of_getElem? (i := 43) rfl))) (by decide) (backOf (W := 1) (rm_10 l Z a0 hw [] b8 b9 (0 : Int32) T9.heap n0 (Nat.le_trans Z0 Kh9.1) (A8.keep K9) g_b8 (F_value_b8.keep K9 nin0) (F_coder_b8.keep K9 nin0)) hZ (hw _ (List.mem_of_getElem? (i := 43) rfl)) (hw _ (List.mem_of_getElem? (i := 3) rfl)) (by decide) (by decide)) (g := (mkF m 22 #[.val (.int p1)] [(.int (0 : Int32)), (.ref b9), (.ref b8), (.ref b8)])) rfl (by rw [hml]; rfl) (Steps.refl _) (a := b8) (argsL := [(.ref b9), (.int (0 : Int32))]) (rest := [(.ref b8)]) (lenOf pd__28_5bBB_29V rfl) rfl (by show 2 * 0 + _ ≤ _; exact Nat.le_of_eq rfl) (hb hby d7_22) (fun _ _ => ⟨rfl, rfl, (by decide : 2 + 0 ≤ _), (by decide : 5 + 0 ≤ _)⟩)
  dsimp only [Pt.U, Pt.locs, Pt.cells, Pt.slots] at X10 l10 y10 z10 st10 hQ10
  subst l10 y10 z10
  obtain ⟨rfl, Nq10, K10⟩ := hQ10
  have N10 := Fr.app N9 Nq10
  have Kh10 : Keep h0 T10.heap [] := Kh9.trans K10 (allS (Or.inr sz_b8) all0)
  obtain ⟨fs, hr, hrun, hended, hW, hsame⟩ := X10.leave (v := some (.ref b8)) (fun h => by rw [Bd.returns] at h; cases h)
  refine ⟨_, _, pre0 _ ?_, hrun, hended, _, _, rfl, ?_, ⟨_, rfl⟩, hW, hsame.mono (by decide) (by decide)⟩
  · show Steps p.tables e below (s₁.setTop (mkF m 0 #[.val (.int p1)] [])) _
    refine st6 _ ?_
    show Steps p.tables e below (T6.setTop (mkF m 3 #[.val (.int p1)] [(.int zc)])) _
    refine XS.ifNo X6.here hx rfl (hb hby d7_3) rfl ((if0 _ _).trans (feq hc3).1) ?_
    show Steps p.tables e below (T6.setTop (mkF m 6 #[.val (.int p1)] [])) _
    refine XS.iloadN X6.here hx rfl (hb hby d7_6) rfl ?_
    show Steps p.tables e below (T6.setTop (mkF m 7 #[.val (.int p1)] [(.int p1)])) _
    refine st7 _ ?_
    show Steps p.tables e below (T7.setTop (mkF m 10 #[.val (.int p1)] [(.int (1 : Int32))])) _
    refine XS.ifNo X7.here hx rfl (hb hby d7_10) rfl ((if0 _ _).trans (feq hc10).1) ?_
    show Steps p.tables e below (T7.setTop (mkF m 13 #[.val (.int p1)] [])) _
    refine st8 _ ?_
    show Steps p.tables e below (T8.setTop (mkF m 16 #[.val (.int p1)] [(.ref b8)])) _
    refine XS.dup X8.here hx rfl (hb hby d7_16) rfl rfl ?_
    show Steps p.tables e below (T8.setTop (mkF m 17 #[.val (.int p1)] [(.ref b8), (.ref b8)])) _
    refine XS.iloadN X8.here hx rfl (hb hby d7_17) rfl ?_
    show Steps p.tables e below (T8.setTop (mkF m 18 #[.val (.int p1)] [(.int p1), (.ref b8), (.ref b8)])) _
    refine st9 _ ?_
    show Steps p.tables e below (T9.setTop (mkF m 21 #[.val (.int p1)] [(.ref b9), (.ref b8), (.ref b8)])) _
    refine XS.iconst X9.here hx rfl (hb hby d7_21) ?_
    show Steps p.tables e below (T9.setTop (mkF m 22 #[.val (.int p1)] [(.int (0 : Int32)), (.ref b9), (.ref b8), (.ref b8)])) _
    refine st10.trans ?_
    show Steps p.tables e below (T10.setTop (mkF m 25 #[.val (.int p1)] [(.ref b8)])) _
    jvm_step X10.here [X10.here.top, hx, (hb hby d7_25), X10.method', Bd.returns, Value.isRef, FieldType.isReference]
    first | (intro acts; rw [hr _ acts rfl rfl rfl]) | rw [hr _ _ rfl rfl rfl]
    exact Steps.refl _
  · show Q_7 Z p1 h0 n0 _ T10.heap _
    subst g8
    exact ⟨rfl, N10, Kh10⟩
theorem d12_0 : decode prog_11_method_1_code 0 = .ok (.aload_n 0, 1) := by decide +kernel
theorem d12_1 : decode prog_11_method_1_code 1 = .ok (.invokespecial 1, 3) := by decide +kernel
theorem d12_4 : decode prog_11_method_1_code 4 = .ok (.aload_n 0, 1) := by decide +kernel
theorem d12_5 : decode prog_11_method_1_code 5 = .ok (.lload_n 1, 1) := by decide +kernel
theorem d12_6 : decode prog_11_method_1_code 6 = .ok (.putfield 7, 3) := by decide +kernel
theorem d12_9 : decode prog_11_method_1_code 9 = .ok (.aload_n 0, 1) := by decide +kernel
theorem d12_10 : decode prog_11_method_1_code 10 = .ok (.lload_n 3, 1) := by decide +kernel
theorem d12_11 : decode prog_11_method_1_code 11 = .ok (.putfield 13, 3) := by decide +kernel
theorem d12_14 : decode prog_11_method_1_code 14 = .ok (.return_, 1) := by decide +kernel
theorem pn_12 : plainName "com/example/sanction/sanction/model/Event" = true := by first | (simp [plainName, overriddenIn]; done) | decide +kernel
theorem ef_12 (m : MethodId) (x0 : Addr) (x1 : Int64) (x2 : Int64) : entryFrame m #[(.ref x0), (.long x1), (.long x2)] 5 = mkF m 0 #[.val (.ref x0), .val (.long x1), .second, .val (.long x2), .second] [] := by first | (simp [entryFrame, mkF, argsToLocals, Value.category]; done) | rfl
def Q_12 (Z : State) (a1 : Addr) (q2 : Int64) (q3 : Int64) (h0 : Heap) (n0 : Nat) (v : Option Value) (h : Heap) (L : List Loc) : Prop := v = none ∧ Fr n0 L ∧ Keep h0 h [a1] ∧ Exa Z h a1 "com/example/sanction/sanction/model/RequestEvent" ∧ Fld Z h a1 "com/example/sanction/sanction/model/RequestEvent" "pid" "I" (.int (0 : Int32)) ∧ Fld Z h a1 "com/example/sanction/sanction/model/RequestEvent" "resource" "Ljava/lang/String;" .null ∧ Fld Z h a1 "com/example/sanction/sanction/model/RequestEvent" "operation" "Ljava/lang/String;" .null
set_option maxRecDepth 65536 in
set_option maxHeartbeats 40000000 in
theorem rm_12 (l : Launch) (Z : State) (a0 : Array Value) (hw : ∀ d ∈ tables_1, d.before a0 Z = true) (ws : List Jvm.Cond) (a1 : Addr) (q2 : Int64) (q3 : Int64) (h0 : Heap) (n0 : Nat) (Z0 : n0 ≤ h0.size) (E_a1 : Exa Z h0 a1 "com/example/sanction/sanction/model/RequestEvent") (g_a1 : n0 ≤ a1) (F_line : Fld Z h0 a1 "com/example/sanction/sanction/model/Event" "line" "J" (.long (0 : Int64))) (F_time : Fld Z h0 a1 "com/example/sanction/sanction/model/Event" "time" "J" (.long (0 : Int64))) (F_pid : Fld Z h0 a1 "com/example/sanction/sanction/model/RequestEvent" "pid" "I" (.int (0 : Int32))) (F_resource : Fld Z h0 a1 "com/example/sanction/sanction/model/RequestEvent" "resource" "Ljava/lang/String;" .null) (F_operation : Fld Z h0 a1 "com/example/sanction/sanction/model/RequestEvent" "operation" "Ljava/lang/String;" .null) :
    MetFree l (⟨"com/example/sanction/sanction/model/Event", "<init>", "(JJ)V"⟩ : MethodName) (head1 (Jvm.Cond.code (⟨"com/example/sanction/sanction/model/Event", "<init>", "(JJ)V"⟩ : MethodName) prog_11_method_1_code 5 none :: ws) ({ frames := 1, cells := 0, slots := 0, locals := 12 } : Room)) (fun a U => a = #[(.ref a1), (.long q2), (.long q3)] ∧ Z.Warmed39 U.vm ∧ U.heap = h0) (fun _ _ _ _ _ => True) (fun _ U o U' => ∃ v L, o = .returned v ∧ Q_12 Z a1 q2 q3 h0 n0 v U'.heap L ∧ FrameEnd U o U' L ({ frames := 1, cells := 0, slots := 0, locals := 12 } : Room).cells ({ frames := 1, cells := 0, slots := 0, locals := 12 } : Room).slots) := by
  refine MetFree.of_bodySF (plainFor_of_name pn_12) hisR ?_
  intro p e s m args below meth cod_ s₁ Bd hml0 hP hK
  obtain ⟨rfl, hZ, hh⟩ := hP
  have hx := Bd.exec
  have hby := Bd.bytes
  have hml : cod_.maxLocals = 5 := hml0
  have hown : s.vm.findClass "com/example/sanction/sanction/model/Event" = some m.cls := findClass_of_methodNamed Bd.named
  have hnm := (name_of_methodNamed Bd.named Bd.method).1
  have X0 : Stand p l e ({ frames := 1, cells := 0, slots := 0, locals := 12 } : Room) s m #[(.ref a1), (.long q2), (.long q3)] below meth cod_ s₁ [] 0 0 := Stand.of_body Bd
  have e0 : s₁.heap = h0 := by rw [← hh, Bd.state]; rfl
  have N0 := Fr.nil n0
  have pre0 : ∀ t, Steps p.tables e below (s₁.setTop (mkF m 0 #[.val (.ref a1), .val (.long q2), .second, .val (.long q3), .second] [])) t → Steps p.tables e below (s₁.setTop (entryFrame m #[(.ref a1), (.long q2), (.long q3)] 5)) t := fun t k => castTop (ef_12 m a1 q2 q3) k
  obtain ⟨T11, X11, e11, st11⟩ := initO X0 hx hZ hown (hw _ (List.mem_of_getElem? (i := 55) rfl)) (hw _ (List.mem_of_getElem? (i := 12) rfl)) (hw _ (List.mem_of_getElem? (i := 13) rfl)) e0 (g := (mkF m 1 #[.val (.ref a1), .val (.long q2), .second, .val (.long q3), .second] [(.ref a1)])) rfl (by rw [hml]; rfl) rfl (hb hby d12_1) (by decide) (W := 0) (by show 2 * 0 + _ ≤ _; exact Nat.le_of_eq rfl) (by decide)
  obtain ⟨T12, h12, X12, e12, W12, st12⟩ := putF X11 hx hZ hown (host := "") (Or.inl (hw _ (List.mem_of_getElem? (i := 56) rfl))) Via.refl e11 F_line E_a1 (Or.inr ⟨(hw _ (List.mem_of_getElem? (i := 57) rfl)), rfl, hnm⟩) (hw _ (List.mem_of_getElem? (i := 45) rfl)) (ty := .long) (by decide) rfl rfl (g := (mkF m 6 #[.val (.ref a1), .val (.long q2), .second, .val (.long q3), .second] [(.long q2), (.ref a1)])) rfl rfl (hb hby d12_6)
  have Fw12 : Fld Z h12 a1 "com/example/sanction/sanction/model/Event" "line" "J" (.long q2) := F_line.same W12
  have N12 := Fr.snoc X12 N0 g_a1
  have Kh12 : Keep h0 h12 [a1] := (Keep.refl h0 [a1]).wr W12 (Or.inl (List.mem_of_getElem? (i := 0) rfl))
  obtain ⟨T13, h13, X13, e13, W13, st13⟩ := putF X12 hx hZ hown (host := "") (Or.inl (hw _ (List.mem_of_getElem? (i := 58) rfl))) Via.refl e12 (F_time.other W12 (Or.inr (slot_ne (Or.inr (hw _ (List.mem_of_getElem? (i := 59) rfl))) (Or.inr (hw _ (List.mem_of_getElem? (i := 57) rfl))) (by decide) (t := .long) (t' := .long) (by decide) (by decide)))) (E_a1.wr W12) (Or.inr ⟨(hw _ (List.mem_of_getElem? (i := 59) rfl)), rfl, hnm⟩) (hw _ (List.mem_of_getElem? (i := 45) rfl)) (ty := .long) (by decide) rfl rfl (g := (mkF m 11 #[.val (.ref a1), .val (.long q2), .second, .val (.long q3), .second] [(.long q3), (.ref a1)])) rfl rfl (hb hby d12_11)
  have Fw13 : Fld Z h13 a1 "com/example/sanction/sanction/model/Event" "time" "J" (.long q3) := (F_time.other W12 (Or.inr (slot_ne (Or.inr (hw _ (List.mem_of_getElem? (i := 59) rfl))) (Or.inr (hw _ (List.mem_of_getElem? (i := 57) rfl))) (by decide) (t := .long) (t' := .long) (by decide) (by decide)))).same W13
  have N13 := Fr.snoc X13 N12 g_a1
  have Kh13 : Keep h0 h13 [a1] := Kh12.wr W13 (Or.inl (List.mem_of_getElem? (i := 0) rfl))
  have f14 := ((E_a1.wr W12).wr W13)
  have f15 := ((F_pid.other W12 (Or.inr (slot_ne (Or.inr (hw _ (List.mem_of_getElem? (i := 61) rfl))) (Or.inr (hw _ (List.mem_of_getElem? (i := 57) rfl))) (by decide) (t := .int) (t' := .long) (by decide) (by decide)))).other W13 (Or.inr (slot_ne (Or.inr (hw _ (List.mem_of_getElem? (i := 61) rfl))) (Or.inr (hw _ (List.mem_of_getElem? (i := 59) rfl))) (by decide) (t := .int) (t' := .long) (by decide) (by decide))))
  have f16 := ((F_resource.other W12 (Or.inr (slot_ne (Or.inr (hw _ (List.mem_of_getElem? (i := 63) rfl))) (Or.inr (hw _ (List.mem_of_getElem? (i := 57) rfl))) (by decide) (t := (.object "java/lang/String")) (t' := .long) (by decide) (by decide)))).other W13 (Or.inr (slot_ne (Or.inr (hw _ (List.mem_of_getElem? (i := 63) rfl))) (Or.inr (hw _ (List.mem_of_getElem? (i := 59) rfl))) (by decide) (t := (.object "java/lang/String")) (t' := .long) (by decide) (by decide))))
  have f17 := ((F_operation.other W12 (Or.inr (slot_ne (Or.inr (hw _ (List.mem_of_getElem? (i := 65) rfl))) (Or.inr (hw _ (List.mem_of_getElem? (i := 57) rfl))) (by decide) (t := (.object "java/lang/String")) (t' := .long) (by decide) (by decide)))).other W13 (Or.inr (slot_ne (Or.inr (hw _ (List.mem_of_getElem? (i := 65) rfl))) (Or.inr (hw _ (List.mem_of_getElem? (i := 59) rfl))) (by decide) (t := (.object "java/lang/String")) (t' := .long) (by decide) (by decide))))
  obtain ⟨fs, hr, hrun, hended, hW, hsame⟩ := X13.leave (v := none) (fun _ => rfl)
  refine ⟨_, _, pre0 _ ?_, hrun, hended, _, _, rfl, ?_, ⟨_, rfl⟩, hW, hsame.mono (by decide) (by decide)⟩
  · show Steps p.tables e below (s₁.setTop (mkF m 0 #[.val (.ref a1), .val (.long q2), .second, .val (.long q3), .second] [])) _
    refine XS.aloadN X0.here hx rfl (hb hby d12_0) rfl rfl ?_
    show Steps p.tables e below (s₁.setTop (mkF m 1 #[.val (.ref a1), .val (.long q2), .second, .val (.long q3), .second] [(.ref a1)])) _
    refine st11 _ ?_
    show Steps p.tables e below (T11.setTop (mkF m 4 #[.val (.ref a1), .val (.long q2), .second, .val (.long q3), .second] [])) _
    refine XS.aloadN X11.here hx rfl (hb hby d12_4) rfl rfl ?_
    show Steps p.tables e below (T11.setTop (mkF m 5 #[.val (.ref a1), .val (.long q2), .second, .val (.long q3), .second] [(.ref a1)])) _
    refine XS.lloadN X11.here hx rfl (hb hby d12_5) rfl ?_
    show Steps p.tables e below (T11.setTop (mkF m 6 #[.val (.ref a1), .val (.long q2), .second, .val (.long q3), .second] [(.long q2), (.ref a1)])) _
    refine st12 _ ?_
    show Steps p.tables e below (T12.setTop (mkF m 9 #[.val (.ref a1), .val (.long q2), .second, .val (.long q3), .second] [])) _
    refine XS.aloadN X12.here hx rfl (hb hby d12_9) rfl rfl ?_
    show Steps p.tables e below (T12.setTop (mkF m 10 #[.val (.ref a1), .val (.long q2), .second, .val (.long q3), .second] [(.ref a1)])) _
    refine XS.lloadN X12.here hx rfl (hb hby d12_10) rfl ?_
    show Steps p.tables e below (T12.setTop (mkF m 11 #[.val (.ref a1), .val (.long q2), .second, .val (.long q3), .second] [(.long q3), (.ref a1)])) _
    refine st13 _ ?_
    show Steps p.tables e below (T13.setTop (mkF m 14 #[.val (.ref a1), .val (.long q2), .second, .val (.long q3), .second] [])) _
    exact X13.returnOut hx Bd.returns (hb hby d12_14) hr
  · show Q_12 Z a1 q2 q3 h0 n0 _ T13.heap _
    rw [e13]
    exact ⟨rfl, N13, Kh13, f14, f15, f16, f17⟩
theorem d11_0 : decode prog_23_method_1_code 0 = .ok (.aload_n 0, 1) := by decide +kernel
theorem d11_1 : decode prog_23_method_1_code 1 = .ok (.lload_n 1, 1) := by decide +kernel
theorem d11_2 : decode prog_23_method_1_code 2 = .ok (.lload_n 3, 1) := by decide +kernel
theorem d11_3 : decode prog_23_method_1_code 3 = .ok (.invokespecial 1, 3) := by decide +kernel
theorem d11_6 : decode prog_23_method_1_code 6 = .ok (.aload_n 0, 1) := by decide +kernel
theorem d11_7 : decode prog_23_method_1_code 7 = .ok (.iload 5, 2) := by decide +kernel
theorem d11_9 : decode prog_23_method_1_code 9 = .ok (.putfield 7, 3) := by decide +kernel
theorem d11_12 : decode prog_23_method_1_code 12 = .ok (.aload_n 0, 1) := by decide +kernel
theorem d11_13 : decode prog_23_method_1_code 13 = .ok (.aload 6, 2) := by decide +kernel
theorem d11_15 : decode prog_23_method_1_code 15 = .ok (.putfield 13, 3) := by decide +kernel
theorem d11_18 : decode prog_23_method_1_code 18 = .ok (.aload_n 0, 1) := by decide +kernel
theorem d11_19 : decode prog_23_method_1_code 19 = .ok (.aload 7, 2) := by decide +kernel
theorem d11_21 : decode prog_23_method_1_code 21 = .ok (.putfield 17, 3) := by decide +kernel
theorem d11_24 : decode prog_23_method_1_code 24 = .ok (.return_, 1) := by decide +kernel
theorem pd__28JJ_29V : parseMethodDescriptor "(JJ)V" = some ⟨[.long, .long], none⟩ := by decide +kernel
theorem pn_11 : plainName "com/example/sanction/sanction/model/RequestEvent" = true := by first | (simp [plainName, overriddenIn]; done) | decide +kernel
theorem ef_11 (m : MethodId) (x0 : Addr) (x1 : Int64) (x2 : Int64) (x3 : Int32) (x4 : Addr) (x5 : Addr) : entryFrame m #[(.ref x0), (.long x1), (.long x2), (.int x3), (.ref x4), (.ref x5)] 8 = mkF m 0 #[.val (.ref x0), .val (.long x1), .second, .val (.long x2), .second, .val (.int x3), .val (.ref x4), .val (.ref x5)] [] := by first | (simp [entryFrame, mkF, argsToLocals, Value.category]; done) | rfl
def Q_11 (Z : State) (a1 : Addr) (q2 : Int64) (q3 : Int64) (p4 : Int32) (a5 : Addr) (a6 : Addr) (h0 : Heap) (n0 : Nat) (v : Option Value) (h : Heap) (L : List Loc) : Prop := v = none ∧ Fr n0 L ∧ Keep h0 h [a1]
set_option maxRecDepth 65536 in
set_option maxHeartbeats 40000000 in
theorem rm_11 (l : Launch) (Z : State) (a0 : Array Value) (hw : ∀ d ∈ tables_1, d.before a0 Z = true) (ws : List Jvm.Cond) (a1 : Addr) (q2 : Int64) (q3 : Int64) (p4 : Int32) (a5 : Addr) (a6 : Addr) (h0 : Heap) (n0 : Nat) (Z0 : n0 ≤ h0.size) (E_a1 : Exa Z h0 a1 "com/example/sanction/sanction/model/RequestEvent") (g_a1 : n0 ≤ a1) (F_line : Fld Z h0 a1 "com/example/sanction/sanction/model/Event" "line" "J" (.long (0 : Int64))) (F_time : Fld Z h0 a1 "com/example/sanction/sanction/model/Event" "time" "J" (.long (0 : Int64))) (F_pid : Fld Z h0 a1 "com/example/sanction/sanction/model/RequestEvent" "pid" "I" (.int (0 : Int32))) (F_resource : Fld Z h0 a1 "com/example/sanction/sanction/model/RequestEvent" "resource" "Ljava/lang/String;" .null) (F_operation : Fld Z h0 a1 "com/example/sanction/sanction/model/RequestEvent" "operation" "Ljava/lang/String;" .null) :
    MetFree l (⟨"com/example/sanction/sanction/model/RequestEvent", "<init>", "(JJILjava/lang/String;Ljava/lang/String;)V"⟩ : MethodName) (head1 (Jvm.Cond.code (⟨"com/example/sanction/sanction/model/RequestEvent", "<init>", "(JJILjava/lang/String;Ljava/lang/String;)V"⟩ : MethodName) prog_23_method_1_code 8 none :: ws) ({ frames := 2, cells := 0, slots := 0, locals := 28 } : Room)) (fun a U => a = #[(.ref a1), (.long q2), (.long q3), (.int p4), (.ref a5), (.ref a6)] ∧ Z.Warmed39 U.vm ∧ U.heap = h0) (fun _ _ _ _ _ => True) (fun _ U o U' => ∃ v L, o = .returned v ∧ Q_11 Z a1 q2 q3 p4 a5 a6 h0 n0 v U'.heap L ∧ FrameEnd U o U' L ({ frames := 2, cells := 0, slots := 0, locals := 28 } : Room).cells ({ frames := 2, cells := 0, slots := 0, locals := 28 } : Room).slots) := by
  refine MetFree.of_bodySF (plainFor_of_name pn_11) hisR ?_
  intro p e s m args below meth cod_ s₁ Bd hml0 hP hK
  obtain ⟨rfl, hZ, hh⟩ := hP
  have hx := Bd.exec
  have hby := Bd.bytes
  have hml : cod_.maxLocals = 8 := hml0
  have hown : s.vm.findClass "com/example/sanction/sanction/model/RequestEvent" = some m.cls := findClass_of_methodNamed Bd.named
  have hnm := (name_of_methodNamed Bd.named Bd.method).1
  have X0 : Stand p l e ({ frames := 2, cells := 0, slots := 0, locals := 28 } : Room) s m #[(.ref a1), (.long q2), (.long q3), (.int p4), (.ref a5), (.ref a6)] below meth cod_ s₁ [] 0 0 := Stand.of_body Bd
  have e0 : s₁.heap = h0 := by rw [← hh, Bd.state]; rfl
  have N0 := Fr.nil n0
  have pre0 : ∀ t, Steps p.tables e below (s₁.setTop (mkF m 0 #[.val (.ref a1), .val (.long q2), .second, .val (.long q3), .second, .val (.int p4), .val (.ref a5), .val (.ref a6)] [])) t → Steps p.tables e below (s₁.setTop (entryFrame m #[(.ref a1), (.long q2), (.long q3), (.int p4), (.ref a5), (.ref a6)] 8)) t := fun t k => castTop (ef_11 m a1 q2 q3 p4 a5 a6) k
  obtain ⟨_, _, ⟨T18, L18, c18_, n18_⟩, -, X18, ⟨Lc18, hQ18, l18, y18, z18⟩, st18⟩ := X0.specialBack hx (y := (⟨"com/example/sanction/sanction/model/Event", "<init>", "(JJ)V"⟩ : MethodName)) rfl hown (mvT hZ (hw _ (List.mem_of_getElem? (i := 50) rfl))) (mvT hZ (hw _ (List.mem_of_getElem? (i := 51) rfl))) (mvT hZ (hw _ (List.mem_of_getElem? (i := 54) rfl))) (by decide) (backOf (W := 0) (rm_12 l Z a0 hw [] a1 q2 q3 h0 n0 (Nat.le_trans Z0 (Keep.refl h0 [a1]).1) E_a1 g_a1 F_line F_time F_pid F_resource F_operation) hZ (hw _ (List.mem_of_getElem? (i := 54) rfl)) (hw _ (List.mem_of_getElem? (i := 53) rfl)) (by decide) (by decide)) (g := (mkF m 3 #[.val (.ref a1), .val (.long q2), .second, .val (.long q3), .second, .val (.int p4), .val (.ref a5), .val (.ref a6)] [(.long q3), (.long q2), (.ref a1)])) rfl (by rw [hml]; rfl) (Steps.refl _) (a := a1) (argsL := [(.long q2), (.long q3)]) (rest := []) (lenOf pd__28JJ_29V rfl) rfl (by show 2 * 0 + _ ≤ _; exact Nat.le_of_eq rfl) (hb hby d11_3) (fun _ _ => ⟨rfl, e0, (by decide : 0 + 0 ≤ _), (by decide : 0 + 0 ≤ _)⟩)
  dsimp only [Pt.U, Pt.locs, Pt.cells, Pt.slots] at X18 l18 y18 z18 st18 hQ18
  subst l18 y18 z18
  obtain ⟨rfl, Nq18, K18, Ee18, Fp18, Fr18, Fo18⟩ := hQ18
  have N18 := Fr.app N0 Nq18
  have Kh18 : Keep h0 T18.heap [a1] := (Keep.refl h0 [a1]).trans K18 (allS (Or.inl (List.mem_of_getElem? (i := 0) rfl)) all0)
  obtain ⟨T19, h19, X19, e19, W19, st19⟩ := putF X18 hx hZ hown (host := "") (Or.inl (hw _ (List.mem_of_getElem? (i := 60) rfl))) Via.refl rfl Fp18 Ee18 (Or.inr ⟨(hw _ (List.mem_of_getElem? (i := 61) rfl)), rfl, hnm⟩) (hw _ (List.mem_of_getElem? (i := 45) rfl)) (ty := .int) (by decide) rfl rfl (g := (mkF m 9 #[.val (.ref a1), .val (.long q2), .second, .val (.long q3), .second, .val (.int p4), .val (.ref a5), .val (.ref a6)] [(.int p4), (.ref a1)])) rfl rfl (hb hby d11_9)
  have Fw19 : Fld Z h19 a1 "com/example/sanction/sanction/model/RequestEvent" "pid" "I" (.int p4) := Fp18.same W19
  have N19 := Fr.snoc X19 N18 g_a1
  have Kh19 : Keep h0 h19 [a1] := Kh18.wr W19 (Or.inl (List.mem_of_getElem? (i := 0) rfl))
  obtain ⟨T20, h20, X20, e20, W20, st20⟩ := putF X19 hx hZ hown (host := "") (Or.inl (hw _ (List.mem_of_getElem? (i := 62) rfl))) Via.refl e19 (Fr18.other W19 (Or.inr (slot_ne (Or.inr (hw _ (List.mem_of_getElem? (i := 63) rfl))) (Or.inr (hw _ (List.mem_of_getElem? (i := 61) rfl))) (by decide) (t := (.object "java/lang/String")) (t' := .int) (by decide) (by decide)))) (Ee18.wr W19) (Or.inr ⟨(hw _ (List.mem_of_getElem? (i := 63) rfl)), rfl, hnm⟩) (hw _ (List.mem_of_getElem? (i := 45) rfl)) (ty := (.object "java/lang/String")) (by decide) rfl rfl (g := (mkF m 15 #[.val (.ref a1), .val (.long q2), .second, .val (.long q3), .second, .val (.int p4), .val (.ref a5), .val (.ref a6)] [(.ref a5), (.ref a1)])) rfl rfl (hb hby d11_15)
  have Fw20 : Fld Z h20 a1 "com/example/sanction/sanction/model/RequestEvent" "resource" "Ljava/lang/String;" (.ref a5) := (Fr18.other W19 (Or.inr (slot_ne (Or.inr (hw _ (List.mem_of_getElem? (i := 63) rfl))) (Or.inr (hw _ (List.mem_of_getElem? (i := 61) rfl))) (by decide) (t := (.object "java/lang/String")) (t' := .int) (by decide) (by decide)))).same W20
  have N20 := Fr.snoc X20 N19 g_a1
  have Kh20 : Keep h0 h20 [a1] := Kh19.wr W20 (Or.inl (List.mem_of_getElem? (i := 0) rfl))
  have f21 := ((Fo18.other W19 (Or.inr (slot_ne (Or.inr (hw _ (List.mem_of_getElem? (i := 65) rfl))) (Or.inr (hw _ (List.mem_of_getElem? (i := 61) rfl))) (by decide) (t := (.object "java/lang/String")) (t' := .int) (by decide) (by decide)))).other W20 (Or.inr (slot_ne (Or.inr (hw _ (List.mem_of_getElem? (i := 65) rfl))) (Or.inr (hw _ (List.mem_of_getElem? (i := 63) rfl))) (by decide) (t := (.object "java/lang/String")) (t' := (.object "java/lang/String")) (by decide) (by decide))))
  have f22 := ((Ee18.wr W19).wr W20)
  obtain ⟨T23, h23, X23, e23, W23, st23⟩ := putF X20 hx hZ hown (host := "") (Or.inl (hw _ (List.mem_of_getElem? (i := 64) rfl))) Via.refl e20 f21 f22 (Or.inr ⟨(hw _ (List.mem_of_getElem? (i := 65) rfl)), rfl, hnm⟩) (hw _ (List.mem_of_getElem? (i := 45) rfl)) (ty := (.object "java/lang/String")) (by decide) rfl rfl (g := (mkF m 21 #[.val (.ref a1), .val (.long q2), .second, .val (.long q3), .second, .val (.int p4), .val (.ref a5), .val (.ref a6)] [(.ref a6), (.ref a1)])) rfl rfl (hb hby d11_21)
  have Fw23 : Fld Z h23 a1 "com/example/sanction/sanction/model/RequestEvent" "operation" "Ljava/lang/String;" (.ref a6) := f21.same W23
  have N23 := Fr.snoc X23 N20 g_a1
  have Kh23 : Keep h0 h23 [a1] := Kh20.wr W23 (Or.inl (List.mem_of_getElem? (i := 0) rfl))
  obtain ⟨fs, hr, hrun, hended, hW, hsame⟩ := X23.leave (v := none) (fun _ => rfl)
  refine ⟨_, _, pre0 _ ?_, hrun, hended, _, _, rfl, ?_, ⟨_, rfl⟩, hW, hsame.mono (by decide) (by decide)⟩
  · show Steps p.tables e below (s₁.setTop (mkF m 0 #[.val (.ref a1), .val (.long q2), .second, .val (.long q3), .second, .val (.int p4), .val (.ref a5), .val (.ref a6)] [])) _
    refine XS.aloadN X0.here hx rfl (hb hby d11_0) rfl rfl ?_
    show Steps p.tables e below (s₁.setTop (mkF m 1 #[.val (.ref a1), .val (.long q2), .second, .val (.long q3), .second, .val (.int p4), .val (.ref a5), .val (.ref a6)] [(.ref a1)])) _
    refine XS.lloadN X0.here hx rfl (hb hby d11_1) rfl ?_
    show Steps p.tables e below (s₁.setTop (mkF m 2 #[.val (.ref a1), .val (.long q2), .second, .val (.long q3), .second, .val (.int p4), .val (.ref a5), .val (.ref a6)] [(.long q2), (.ref a1)])) _
    refine XS.lloadN X0.here hx rfl (hb hby d11_2) rfl ?_
    show Steps p.tables e below (s₁.setTop (mkF m 3 #[.val (.ref a1), .val (.long q2), .second, .val (.long q3), .second, .val (.int p4), .val (.ref a5), .val (.ref a6)] [(.long q3), (.long q2), (.ref a1)])) _
    refine st18.trans ?_
    show Steps p.tables e below (T18.setTop (mkF m 6 #[.val (.ref a1), .val (.long q2), .second, .val (.long q3), .second, .val (.int p4), .val (.ref a5), .val (.ref a6)] [])) _
    refine XS.aloadN X18.here hx rfl (hb hby d11_6) rfl rfl ?_
    show Steps p.tables e below (T18.setTop (mkF m 7 #[.val (.ref a1), .val (.long q2), .second, .val (.long q3), .second, .val (.int p4), .val (.ref a5), .val (.ref a6)] [(.ref a1)])) _
    refine XS.iload X18.here hx rfl (hb hby d11_7) rfl ?_
    show Steps p.tables e below (T18.setTop (mkF m 9 #[.val (.ref a1), .val (.long q2), .second, .val (.long q3), .second, .val (.int p4), .val (.ref a5), .val (.ref a6)] [(.int p4), (.ref a1)])) _
    refine st19 _ ?_
    show Steps p.tables e below (T19.setTop (mkF m 12 #[.val (.ref a1), .val (.long q2), .second, .val (.long q3), .second, .val (.int p4), .val (.ref a5), .val (.ref a6)] [])) _
    refine XS.aloadN X19.here hx rfl (hb hby d11_12) rfl rfl ?_
    show Steps p.tables e below (T19.setTop (mkF m 13 #[.val (.ref a1), .val (.long q2), .second, .val (.long q3), .second, .val (.int p4), .val (.ref a5), .val (.ref a6)] [(.ref a1)])) _
    refine XS.aload X19.here hx rfl (hb hby d11_13) rfl rfl ?_
    show Steps p.tables e below (T19.setTop (mkF m 15 #[.val (.ref a1), .val (.long q2), .second, .val (.long q3), .second, .val (.int p4), .val (.ref a5), .val (.ref a6)] [(.ref a5), (.ref a1)])) _
    refine st20 _ ?_
    show Steps p.tables e below (T20.setTop (mkF m 18 #[.val (.ref a1), .val (.long q2), .second, .val (.long q3), .second, .val (.int p4), .val (.ref a5), .val (.ref a6)] [])) _
    refine XS.aloadN X20.here hx rfl (hb hby d11_18) rfl rfl ?_
    show Steps p.tables e below (T20.setTop (mkF m 19 #[.val (.ref a1), .val (.long q2), .second, .val (.long q3), .second, .val (.int p4), .val (.ref a5), .val (.ref a6)] [(.ref a1)])) _
    refine XS.aload X20.here hx rfl (hb hby d11_19) rfl rfl ?_
    show Steps p.tables e below (T20.setTop (mkF m 21 #[.val (.ref a1), .val (.long q2), .second, .val (.long q3), .second, .val (.int p4), .val (.ref a5), .val (.ref a6)] [(.ref a6), (.ref a1)])) _
    refine st23 _ ?_
    show Steps p.tables e below (T23.setTop (mkF m 24 #[.val (.ref a1), .val (.long q2), .second, .val (.long q3), .second, .val (.int p4), .val (.ref a5), .val (.ref a6)] [])) _
    exact X23.returnOut hx Bd.returns (hb hby d11_24) hr
  · show Q_11 Z a1 q2 q3 p4 a5 a6 h0 n0 _ T23.heap _
    rw [e23]
    exact ⟨rfl, N23, Kh23⟩
theorem d13_0 : decode method_2_code 0 = .ok (.iload_n 0, 1) := by decide +kernel
theorem d13_1 : decode method_2_code 1 = .ok (.ldc 7, 2) := by decide +kernel
theorem d13_3 : decode method_2_code 3 = .ok (.iand, 1) := by decide +kernel
theorem d13_4 : decode method_2_code 4 = .ok (.bipush 9, 2) := by decide +kernel
theorem d13_6 : decode method_2_code 6 = .ok (.irem, 1) := by decide +kernel
theorem d13_7 : decode method_2_code 7 = .ok (.istore_n 1, 1) := by decide +kernel
theorem d13_8 : decode method_2_code 8 = .ok (.iload_n 1, 1) := by decide +kernel
theorem d13_9 : decode method_2_code 9 = .ok (.ifCond .ne 7, 3) := by decide +kernel
theorem d13_12 : decode method_2_code 12 = .ok (.getstatic 8, 3) := by decide +kernel
theorem d13_15 : decode method_2_code 15 = .ok (.areturn, 1) := by decide +kernel
theorem d13_16 : decode method_2_code 16 = .ok (.iload_n 1, 1) := by decide +kernel
theorem d13_17 : decode method_2_code 17 = .ok (.iconst 1, 1) := by decide +kernel
theorem d13_18 : decode method_2_code 18 = .ok (.if_icmp .ne 7, 3) := by decide +kernel
theorem d13_21 : decode method_2_code 21 = .ok (.getstatic 14, 3) := by decide +kernel
theorem d13_24 : decode method_2_code 24 = .ok (.areturn, 1) := by decide +kernel
theorem d13_25 : decode method_2_code 25 = .ok (.iload_n 1, 1) := by decide +kernel
theorem d13_26 : decode method_2_code 26 = .ok (.iconst 2, 1) := by decide +kernel
theorem d13_27 : decode method_2_code 27 = .ok (.if_icmp .ne 7, 3) := by decide +kernel
theorem d13_30 : decode method_2_code 30 = .ok (.getstatic 17, 3) := by decide +kernel
theorem d13_33 : decode method_2_code 33 = .ok (.areturn, 1) := by decide +kernel
theorem d13_34 : decode method_2_code 34 = .ok (.iload_n 1, 1) := by decide +kernel
theorem d13_35 : decode method_2_code 35 = .ok (.iconst 3, 1) := by decide +kernel
theorem d13_36 : decode method_2_code 36 = .ok (.if_icmp .ne 7, 3) := by decide +kernel
theorem d13_39 : decode method_2_code 39 = .ok (.getstatic 20, 3) := by decide +kernel
theorem d13_42 : decode method_2_code 42 = .ok (.areturn, 1) := by decide +kernel
theorem d13_43 : decode method_2_code 43 = .ok (.iload_n 1, 1) := by decide +kernel
theorem d13_44 : decode method_2_code 44 = .ok (.iconst 4, 1) := by decide +kernel
theorem d13_45 : decode method_2_code 45 = .ok (.if_icmp .ne 7, 3) := by decide +kernel
theorem d13_48 : decode method_2_code 48 = .ok (.getstatic 23, 3) := by decide +kernel
theorem d13_51 : decode method_2_code 51 = .ok (.areturn, 1) := by decide +kernel
theorem d13_52 : decode method_2_code 52 = .ok (.iload_n 1, 1) := by decide +kernel
theorem d13_53 : decode method_2_code 53 = .ok (.iconst 5, 1) := by decide +kernel
theorem d13_54 : decode method_2_code 54 = .ok (.if_icmp .ne 7, 3) := by decide +kernel
theorem d13_57 : decode method_2_code 57 = .ok (.getstatic 26, 3) := by decide +kernel
theorem d13_60 : decode method_2_code 60 = .ok (.areturn, 1) := by decide +kernel
theorem d13_61 : decode method_2_code 61 = .ok (.iload_n 1, 1) := by decide +kernel
theorem d13_62 : decode method_2_code 62 = .ok (.bipush 6, 2) := by decide +kernel
theorem d13_64 : decode method_2_code 64 = .ok (.if_icmp .ne 7, 3) := by decide +kernel
theorem d13_67 : decode method_2_code 67 = .ok (.getstatic 29, 3) := by decide +kernel
theorem d13_70 : decode method_2_code 70 = .ok (.areturn, 1) := by decide +kernel
theorem d13_71 : decode method_2_code 71 = .ok (.iload_n 1, 1) := by decide +kernel
theorem d13_72 : decode method_2_code 72 = .ok (.bipush 7, 2) := by decide +kernel
theorem d13_74 : decode method_2_code 74 = .ok (.if_icmp .ne 7, 3) := by decide +kernel
theorem d13_77 : decode method_2_code 77 = .ok (.getstatic 32, 3) := by decide +kernel
theorem d13_80 : decode method_2_code 80 = .ok (.areturn, 1) := by decide +kernel
theorem d13_81 : decode method_2_code 81 = .ok (.getstatic 35, 3) := by decide +kernel
theorem d13_84 : decode method_2_code 84 = .ok (.areturn, 1) := by decide +kernel
theorem pn_13 : plainName "com/example/sanction/sanction/model/DecisionDenyPinLaw" = true := by first | (simp [plainName, overriddenIn]; done) | decide +kernel
theorem ef_13 (m : MethodId) (x0 : Int32) : entryFrame m #[(.int x0)] 2 = mkF m 0 #[.val (.int x0), .unset] [] := by first | (simp [entryFrame, mkF, argsToLocals, Value.category]; done) | rfl
def Q_13 (Z : State) (p1 : Int32) (r0 r1 r2 r3 r4 r5 r6 r7 r8 : Addr) (h0 : Heap) (n0 : Nat) (v : Option Value) (h : Heap) (L : List Loc) : Prop := v = some (.ref (own_rs ((p1 &&& (2147483647 : Int32)) % (9 : Int32)) r0 r1 r2 r3 r4 r5 r6 r7 r8)) ∧ Fr n0 L ∧ h = h0
set_option maxRecDepth 65536 in
set_option maxHeartbeats 40000000 in
theorem rm_13 (l : Launch) (Z : State) (a0 : Array Value) (hw : ∀ d ∈ tables_1, d.before a0 Z = true) (ws : List Jvm.Cond) (p1 : Int32) (r0 r1 r2 r3 r4 r5 r6 r7 r8 : Addr) (h0 : Heap) (n0 : Nat) (Z0 : n0 ≤ h0.size) (S_INPUT : Sta Z h0 "com/example/sanction/sanction/model/Reason" "INPUT" "Lcom/example/sanction/sanction/model/Reason;" (.ref r0)) (S_STANDING : Sta Z h0 "com/example/sanction/sanction/model/Reason" "STANDING" "Lcom/example/sanction/sanction/model/Reason;" (.ref r1)) (S_NO_INPUT : Sta Z h0 "com/example/sanction/sanction/model/Reason" "NO_INPUT" "Lcom/example/sanction/sanction/model/Reason;" (.ref r2)) (S_STALE_INPUT : Sta Z h0 "com/example/sanction/sanction/model/Reason" "STALE_INPUT" "Lcom/example/sanction/sanction/model/Reason;" (.ref r3)) (S_REDUCED : Sta Z h0 "com/example/sanction/sanction/model/Reason" "REDUCED" "Lcom/example/sanction/sanction/model/Reason;" (.ref r4)) (S_TRACED : Sta Z h0 "com/example/sanction/sanction/model/Reason" "TRACED" "Lcom/example/sanction/sanction/model/Reason;" (.ref r5)) (S_BINDING : Sta Z h0 "com/example/sanction/sanction/model/Reason" "BINDING" "Lcom/example/sanction/sanction/model/Reason;" (.ref r6)) (S_REFUSED : Sta Z h0 "com/example/sanction/sanction/model/Reason" "REFUSED" "Lcom/example/sanction/sanction/model/Reason;" (.ref r7)) (S_NEW_BINDING : Sta Z h0 "com/example/sanction/sanction/model/Reason" "NEW_BINDING" "Lcom/example/sanction/sanction/model/Reason;" (.ref r8)) :
    MetFree l (⟨"com/example/sanction/sanction/model/DecisionDenyPinLaw", "pick", "(I)Lcom/example/sanction/sanction/model/Reason;"⟩ : MethodName) (head1 (Jvm.Cond.code (⟨"com/example/sanction/sanction/model/DecisionDenyPinLaw", "pick", "(I)Lcom/example/sanction/sanction/model/Reason;"⟩ : MethodName) method_2_code 2 (some (.object "com/example/sanction/sanction/model/Reason")) :: ws) ({ frames := 0, cells := 0, slots := 0, locals := 0 } : Room)) (fun a U => a = #[(.int p1)] ∧ Z.Warmed39 U.vm ∧ U.heap = h0) (fun _ _ _ _ _ => True) (fun _ U o U' => ∃ v L, o = .returned v ∧ Q_13 Z p1 r0 r1 r2 r3 r4 r5 r6 r7 r8 h0 n0 v U'.heap L ∧ FrameEnd U o U' L ({ frames := 0, cells := 0, slots := 0, locals := 0 } : Room).cells ({ frames := 0, cells := 0, slots := 0, locals := 0 } : Room).slots) := by
  refine MetFree.of_bodySF (plainFor_of_name pn_13) hisR ?_
  intro p e s m args below meth cod_ s₁ Bd hml0 hP hK
  obtain ⟨rfl, hZ, hh⟩ := hP
  have hx := Bd.exec
  have hby := Bd.bytes
  have hml : cod_.maxLocals = 2 := hml0
  have hown : s.vm.findClass "com/example/sanction/sanction/model/DecisionDenyPinLaw" = some m.cls := findClass_of_methodNamed Bd.named
  have hnm := (name_of_methodNamed Bd.named Bd.method).1
  have X0 : Stand p l e ({ frames := 0, cells := 0, slots := 0, locals := 0 } : Room) s m #[(.int p1)] below meth cod_ s₁ [] 0 0 := Stand.of_body Bd
  have e0 : s₁.heap = h0 := by rw [← hh, Bd.state]; rfl
  have N0 := Fr.nil n0
  have pre0 : ∀ t, Steps p.tables e below (s₁.setTop (mkF m 0 #[.val (.int p1), .unset] [])) t → Steps p.tables e below (s₁.setTop (entryFrame m #[(.int p1)] 2)) t := fun t k => castTop (ef_13 m p1) k
  obtain ⟨kx, e_kx⟩ : ∃ z : Int32, z = ((p1 &&& (2147483647 : Int32)) % (9 : Int32)) := ⟨_, rfl⟩
  by_cases hc9 : kx = (0 : Int32)
  · obtain ⟨T24, X24, e24, st24⟩ := getS2 X0 hx hZ hown (host := "") (Or.inl (hw _ (List.mem_of_getElem? (i := 71) rfl))) Via.refl e0 S_INPUT (g := (mkF m 12 #[.val (.int p1), .val (.int kx)] [])) rfl (hb hby d13_12)
    obtain ⟨fs, hr, hrun, hended, hW, hsame⟩ := X24.leave (v := some (.ref r0)) (fun h => by rw [Bd.returns] at h; cases h)
    refine ⟨_, _, pre0 _ ?_, hrun, hended, _, _, rfl, ?_, ⟨_, rfl⟩, hW, hsame.mono (by decide) (by decide)⟩
    · show Steps p.tables e below (s₁.setTop (mkF m 0 #[.val (.int p1), .unset] [])) _
      refine XS.iloadN X0.here hx rfl (hb hby d13_0) rfl ?_
      show Steps p.tables e below (s₁.setTop (mkF m 1 #[.val (.int p1), .unset] [(.int p1)])) _
      refine X0.ldcInt hx hown (mvT hZ (hw _ (List.mem_of_getElem? (i := 70) rfl))) (g := (mkF m 1 #[.val (.int p1), .unset] [(.int p1)])) rfl (hb hby d13_1) _ ?_
      show Steps p.tables e below (s₁.setTop (mkF m 3 #[.val (.int p1), .unset] [(.int (2147483647 : Int32)), (.int p1)])) _
      refine XS.iand X0.here hx rfl (hb hby d13_3) rfl ?_
      show Steps p.tables e below (s₁.setTop (mkF m 4 #[.val (.int p1), .unset] [(.int (p1 &&& (2147483647 : Int32)))])) _
      refine XS.bipush X0.here hx rfl (hb hby d13_4) ?_
      show Steps p.tables e below (s₁.setTop (mkF m 6 #[.val (.int p1), .unset] [(.int (9 : Int32)), (.int (p1 &&& (2147483647 : Int32)))])) _
      refine iremM X0 hx rfl (hb hby d13_6) rfl (by decide) ?_
      show Steps p.tables e below (s₁.setTop (mkF m 7 #[.val (.int p1), .unset] [(.int ((p1 &&& (2147483647 : Int32)) % (9 : Int32)))])) _
      refine XS.istoreN X0.here hx rfl (hb hby d13_7) rfl (l' := #[.val (.int p1), .val (.int ((p1 &&& (2147483647 : Int32)) % (9 : Int32)))]) rfl ?_
      show Steps p.tables e below (s₁.setTop (mkF m 8 #[.val (.int p1), .val (.int ((p1 &&& (2147483647 : Int32)) % (9 : Int32)))] [])) _
      rw [← e_kx]
      show Steps p.tables e below (s₁.setTop (mkF m 8 #[.val (.int p1), .val (.int kx)] [])) _
      refine XS.iloadN X0.here hx rfl (hb hby d13_8) rfl ?_
      show Steps p.tables e below (s₁.setTop (mkF m 9 #[.val (.int p1), .val (.int kx)] [(.int kx)])) _
      refine XS.ifNo X0.here hx rfl (hb hby d13_9) rfl ((if0 _ _).trans (teq hc9).2) ?_
      show Steps p.tables e below (s₁.setTop (mkF m 12 #[.val (.int p1), .val (.int kx)] [])) _
      refine st24 _ ?_
      show Steps p.tables e below (T24.setTop (mkF m 15 #[.val (.int p1), .val (.int kx)] [(.ref r0)])) _
      jvm_step X24.here [X24.here.top, hx, (hb hby d13_15), X24.method', Bd.returns, Value.isRef, FieldType.isReference]
      first | (intro acts; rw [hr _ acts rfl rfl rfl]) | rw [hr _ _ rfl rfl rfl]
      exact Steps.refl _
    · show Q_13 Z p1 r0 r1 r2 r3 r4 r5 r6 r7 r8 h0 n0 _ T24.heap _
      rw [e24]
      exact ⟨by rw [← e_kx]; simp [own_rs, hc9], N0, rfl⟩
  · by_cases hc18 : kx = (1 : Int32)
    · obtain ⟨T25, X25, e25, st25⟩ := getS2 X0 hx hZ hown (host := "") (Or.inl (hw _ (List.mem_of_getElem? (i := 131) rfl))) Via.refl e0 S_STANDING (g := (mkF m 21 #[.val (.int p1), .val (.int kx)] [])) rfl (hb hby d13_21)
      obtain ⟨fs, hr, hrun, hended, hW, hsame⟩ := X25.leave (v := some (.ref r1)) (fun h => by rw [Bd.returns] at h; cases h)
      refine ⟨_, _, pre0 _ ?_, hrun, hended, _, _, rfl, ?_, ⟨_, rfl⟩, hW, hsame.mono (by decide) (by decide)⟩
      · show Steps p.tables e below (s₁.setTop (mkF m 0 #[.val (.int p1), .unset] [])) _
        refine XS.iloadN X0.here hx rfl (hb hby d13_0) rfl ?_
        show Steps p.tables e below (s₁.setTop (mkF m 1 #[.val (.int p1), .unset] [(.int p1)])) _
        refine X0.ldcInt hx hown (mvT hZ (hw _ (List.mem_of_getElem? (i := 70) rfl))) (g := (mkF m 1 #[.val (.int p1), .unset] [(.int p1)])) rfl (hb hby d13_1) _ ?_
        show Steps p.tables e below (s₁.setTop (mkF m 3 #[.val (.int p1), .unset] [(.int (2147483647 : Int32)), (.int p1)])) _
        refine XS.iand X0.here hx rfl (hb hby d13_3) rfl ?_
        show Steps p.tables e below (s₁.setTop (mkF m 4 #[.val (.int p1), .unset] [(.int (p1 &&& (2147483647 : Int32)))])) _
        refine XS.bipush X0.here hx rfl (hb hby d13_4) ?_
        show Steps p.tables e below (s₁.setTop (mkF m 6 #[.val (.int p1), .unset] [(.int (9 : Int32)), (.int (p1 &&& (2147483647 : Int32)))])) _
        refine iremM X0 hx rfl (hb hby d13_6) rfl (by decide) ?_
        show Steps p.tables e below (s₁.setTop (mkF m 7 #[.val (.int p1), .unset] [(.int ((p1 &&& (2147483647 : Int32)) % (9 : Int32)))])) _
        refine XS.istoreN X0.here hx rfl (hb hby d13_7) rfl (l' := #[.val (.int p1), .val (.int ((p1 &&& (2147483647 : Int32)) % (9 : Int32)))]) rfl ?_
        show Steps p.tables e below (s₁.setTop (mkF m 8 #[.val (.int p1), .val (.int ((p1 &&& (2147483647 : Int32)) % (9 : Int32)))] [])) _
        rw [← e_kx]
        show Steps p.tables e below (s₁.setTop (mkF m 8 #[.val (.int p1), .val (.int kx)] [])) _
        refine XS.iloadN X0.here hx rfl (hb hby d13_8) rfl ?_
        show Steps p.tables e below (s₁.setTop (mkF m 9 #[.val (.int p1), .val (.int kx)] [(.int kx)])) _
        refine XS.ifYes X0.here hx rfl (pc0 := 9) (pc' := 16) rfl (hb hby d13_9) rfl ((if0 _ _).trans (feq hc9).2) (by decide) (by decide) ?_
        show Steps p.tables e below (s₁.setTop (mkF m 16 #[.val (.int p1), .val (.int kx)] [])) _
        refine XS.iloadN X0.here hx rfl (hb hby d13_16) rfl ?_
        show Steps p.tables e below (s₁.setTop (mkF m 17 #[.val (.int p1), .val (.int kx)] [(.int kx)])) _
        refine XS.iconst X0.here hx rfl (hb hby d13_17) ?_
        show Steps p.tables e below (s₁.setTop (mkF m 18 #[.val (.int p1), .val (.int kx)] [(.int (1 : Int32)), (.int kx)])) _
        refine XS.icmpNo X0.here hx rfl (hb hby d13_18) rfl (teq hc18).2 ?_
        show Steps p.tables e below (s₁.setTop (mkF m 21 #[.val (.int p1), .val (.int kx)] [])) _
        refine st25 _ ?_
        show Steps p.tables e below (T25.setTop (mkF m 24 #[.val (.int p1), .val (.int kx)] [(.ref r1)])) _
        jvm_step X25.here [X25.here.top, hx, (hb hby d13_24), X25.method', Bd.returns, Value.isRef, FieldType.isReference]
        first | (intro acts; rw [hr _ acts rfl rfl rfl]) | rw [hr _ _ rfl rfl rfl]
        exact Steps.refl _
      · show Q_13 Z p1 r0 r1 r2 r3 r4 r5 r6 r7 r8 h0 n0 _ T25.heap _
        rw [e25]
        exact ⟨by rw [← e_kx]; simp [own_rs, hc9, hc18], N0, rfl⟩
    · by_cases hc27 : kx = (2 : Int32)
      · obtain ⟨T26, X26, e26, st26⟩ := getS2 X0 hx hZ hown (host := "") (Or.inl (hw _ (List.mem_of_getElem? (i := 133) rfl))) Via.refl e0 S_NO_INPUT (g := (mkF m 30 #[.val (.int p1), .val (.int kx)] [])) rfl (hb hby d13_30)
        obtain ⟨fs, hr, hrun, hended, hW, hsame⟩ := X26.leave (v := some (.ref r2)) (fun h => by rw [Bd.returns] at h; cases h)
        refine ⟨_, _, pre0 _ ?_, hrun, hended, _, _, rfl, ?_, ⟨_, rfl⟩, hW, hsame.mono (by decide) (by decide)⟩
        · show Steps p.tables e below (s₁.setTop (mkF m 0 #[.val (.int p1), .unset] [])) _
          refine XS.iloadN X0.here hx rfl (hb hby d13_0) rfl ?_
          show Steps p.tables e below (s₁.setTop (mkF m 1 #[.val (.int p1), .unset] [(.int p1)])) _
          refine X0.ldcInt hx hown (mvT hZ (hw _ (List.mem_of_getElem? (i := 70) rfl))) (g := (mkF m 1 #[.val (.int p1), .unset] [(.int p1)])) rfl (hb hby d13_1) _ ?_
          show Steps p.tables e below (s₁.setTop (mkF m 3 #[.val (.int p1), .unset] [(.int (2147483647 : Int32)), (.int p1)])) _
          refine XS.iand X0.here hx rfl (hb hby d13_3) rfl ?_
          show Steps p.tables e below (s₁.setTop (mkF m 4 #[.val (.int p1), .unset] [(.int (p1 &&& (2147483647 : Int32)))])) _
          refine XS.bipush X0.here hx rfl (hb hby d13_4) ?_
          show Steps p.tables e below (s₁.setTop (mkF m 6 #[.val (.int p1), .unset] [(.int (9 : Int32)), (.int (p1 &&& (2147483647 : Int32)))])) _
          refine iremM X0 hx rfl (hb hby d13_6) rfl (by decide) ?_
          show Steps p.tables e below (s₁.setTop (mkF m 7 #[.val (.int p1), .unset] [(.int ((p1 &&& (2147483647 : Int32)) % (9 : Int32)))])) _
          refine XS.istoreN X0.here hx rfl (hb hby d13_7) rfl (l' := #[.val (.int p1), .val (.int ((p1 &&& (2147483647 : Int32)) % (9 : Int32)))]) rfl ?_
          show Steps p.tables e below (s₁.setTop (mkF m 8 #[.val (.int p1), .val (.int ((p1 &&& (2147483647 : Int32)) % (9 : Int32)))] [])) _
          rw [← e_kx]
          show Steps p.tables e below (s₁.setTop (mkF m 8 #[.val (.int p1), .val (.int kx)] [])) _
          refine XS.iloadN X0.here hx rfl (hb hby d13_8) rfl ?_
          show Steps p.tables e below (s₁.setTop (mkF m 9 #[.val (.int p1), .val (.int kx)] [(.int kx)])) _
          refine XS.ifYes X0.here hx rfl (pc0 := 9) (pc' := 16) rfl (hb hby d13_9) rfl ((if0 _ _).trans (feq hc9).2) (by decide) (by decide) ?_
          show Steps p.tables e below (s₁.setTop (mkF m 16 #[.val (.int p1), .val (.int kx)] [])) _
          refine XS.iloadN X0.here hx rfl (hb hby d13_16) rfl ?_
          show Steps p.tables e below (s₁.setTop (mkF m 17 #[.val (.int p1), .val (.int kx)] [(.int kx)])) _
          refine XS.iconst X0.here hx rfl (hb hby d13_17) ?_
          show Steps p.tables e below (s₁.setTop (mkF m 18 #[.val (.int p1), .val (.int kx)] [(.int (1 : Int32)), (.int kx)])) _
          refine XS.icmpYes X0.here hx rfl (pc0 := 18) (pc' := 25) rfl (hb hby d13_18) rfl (feq hc18).2 (by decide) (by decide) ?_
          show Steps p.tables e below (s₁.setTop (mkF m 25 #[.val (.int p1), .val (.int kx)] [])) _
          refine XS.iloadN X0.here hx rfl (hb hby d13_25) rfl ?_
          show Steps p.tables e below (s₁.setTop (mkF m 26 #[.val (.int p1), .val (.int kx)] [(.int kx)])) _
          refine XS.iconst X0.here hx rfl (hb hby d13_26) ?_
          show Steps p.tables e below (s₁.setTop (mkF m 27 #[.val (.int p1), .val (.int kx)] [(.int (2 : Int32)), (.int kx)])) _
          refine XS.icmpNo X0.here hx rfl (hb hby d13_27) rfl (teq hc27).2 ?_
          show Steps p.tables e below (s₁.setTop (mkF m 30 #[.val (.int p1), .val (.int kx)] [])) _
          refine st26 _ ?_
          show Steps p.tables e below (T26.setTop (mkF m 33 #[.val (.int p1), .val (.int kx)] [(.ref r2)])) _
          jvm_step X26.here [X26.here.top, hx, (hb hby d13_33), X26.method', Bd.returns, Value.isRef, FieldType.isReference]
          first | (intro acts; rw [hr _ acts rfl rfl rfl]) | rw [hr _ _ rfl rfl rfl]
          exact Steps.refl _
        · show Q_13 Z p1 r0 r1 r2 r3 r4 r5 r6 r7 r8 h0 n0 _ T26.heap _
          rw [e26]
          exact ⟨by rw [← e_kx]; simp [own_rs, hc9, hc18, hc27], N0, rfl⟩
      · by_cases hc36 : kx = (3 : Int32)
        · obtain ⟨T27, X27, e27, st27⟩ := getS2 X0 hx hZ hown (host := "") (Or.inl (hw _ (List.mem_of_getElem? (i := 137) rfl))) Via.refl e0 S_STALE_INPUT (g := (mkF m 39 #[.val (.int p1), .val (.int kx)] [])) rfl (hb hby d13_39)
          obtain ⟨fs, hr, hrun, hended, hW, hsame⟩ := X27.leave (v := some (.ref r3)) (fun h => by rw [Bd.returns] at h; cases h)
          refine ⟨_, _, pre0 _ ?_, hrun, hended, _, _, rfl, ?_, ⟨_, rfl⟩, hW, hsame.mono (by decide) (by decide)⟩
          · show Steps p.tables e below (s₁.setTop (mkF m 0 #[.val (.int p1), .unset] [])) _
            refine XS.iloadN X0.here hx rfl (hb hby d13_0) rfl ?_
            show Steps p.tables e below (s₁.setTop (mkF m 1 #[.val (.int p1), .unset] [(.int p1)])) _
            refine X0.ldcInt hx hown (mvT hZ (hw _ (List.mem_of_getElem? (i := 70) rfl))) (g := (mkF m 1 #[.val (.int p1), .unset] [(.int p1)])) rfl (hb hby d13_1) _ ?_
            show Steps p.tables e below (s₁.setTop (mkF m 3 #[.val (.int p1), .unset] [(.int (2147483647 : Int32)), (.int p1)])) _
            refine XS.iand X0.here hx rfl (hb hby d13_3) rfl ?_
            show Steps p.tables e below (s₁.setTop (mkF m 4 #[.val (.int p1), .unset] [(.int (p1 &&& (2147483647 : Int32)))])) _
            refine XS.bipush X0.here hx rfl (hb hby d13_4) ?_
            show Steps p.tables e below (s₁.setTop (mkF m 6 #[.val (.int p1), .unset] [(.int (9 : Int32)), (.int (p1 &&& (2147483647 : Int32)))])) _
            refine iremM X0 hx rfl (hb hby d13_6) rfl (by decide) ?_
            show Steps p.tables e below (s₁.setTop (mkF m 7 #[.val (.int p1), .unset] [(.int ((p1 &&& (2147483647 : Int32)) % (9 : Int32)))])) _
            refine XS.istoreN X0.here hx rfl (hb hby d13_7) rfl (l' := #[.val (.int p1), .val (.int ((p1 &&& (2147483647 : Int32)) % (9 : Int32)))]) rfl ?_
            show Steps p.tables e below (s₁.setTop (mkF m 8 #[.val (.int p1), .val (.int ((p1 &&& (2147483647 : Int32)) % (9 : Int32)))] [])) _
            rw [← e_kx]
            show Steps p.tables e below (s₁.setTop (mkF m 8 #[.val (.int p1), .val (.int kx)] [])) _
            refine XS.iloadN X0.here hx rfl (hb hby d13_8) rfl ?_
            show Steps p.tables e below (s₁.setTop (mkF m 9 #[.val (.int p1), .val (.int kx)] [(.int kx)])) _
            refine XS.ifYes X0.here hx rfl (pc0 := 9) (pc' := 16) rfl (hb hby d13_9) rfl ((if0 _ _).trans (feq hc9).2) (by decide) (by decide) ?_
            show Steps p.tables e below (s₁.setTop (mkF m 16 #[.val (.int p1), .val (.int kx)] [])) _
            refine XS.iloadN X0.here hx rfl (hb hby d13_16) rfl ?_
            show Steps p.tables e below (s₁.setTop (mkF m 17 #[.val (.int p1), .val (.int kx)] [(.int kx)])) _
            refine XS.iconst X0.here hx rfl (hb hby d13_17) ?_
            show Steps p.tables e below (s₁.setTop (mkF m 18 #[.val (.int p1), .val (.int kx)] [(.int (1 : Int32)), (.int kx)])) _
            refine XS.icmpYes X0.here hx rfl (pc0 := 18) (pc' := 25) rfl (hb hby d13_18) rfl (feq hc18).2 (by decide) (by decide) ?_
            show Steps p.tables e below (s₁.setTop (mkF m 25 #[.val (.int p1), .val (.int kx)] [])) _
            refine XS.iloadN X0.here hx rfl (hb hby d13_25) rfl ?_
            show Steps p.tables e below (s₁.setTop (mkF m 26 #[.val (.int p1), .val (.int kx)] [(.int kx)])) _
            refine XS.iconst X0.here hx rfl (hb hby d13_26) ?_
            show Steps p.tables e below (s₁.setTop (mkF m 27 #[.val (.int p1), .val (.int kx)] [(.int (2 : Int32)), (.int kx)])) _
            refine XS.icmpYes X0.here hx rfl (pc0 := 27) (pc' := 34) rfl (hb hby d13_27) rfl (feq hc27).2 (by decide) (by decide) ?_
            show Steps p.tables e below (s₁.setTop (mkF m 34 #[.val (.int p1), .val (.int kx)] [])) _
            refine XS.iloadN X0.here hx rfl (hb hby d13_34) rfl ?_
            show Steps p.tables e below (s₁.setTop (mkF m 35 #[.val (.int p1), .val (.int kx)] [(.int kx)])) _
            refine XS.iconst X0.here hx rfl (hb hby d13_35) ?_
            show Steps p.tables e below (s₁.setTop (mkF m 36 #[.val (.int p1), .val (.int kx)] [(.int (3 : Int32)), (.int kx)])) _
            refine XS.icmpNo X0.here hx rfl (hb hby d13_36) rfl (teq hc36).2 ?_
            show Steps p.tables e below (s₁.setTop (mkF m 39 #[.val (.int p1), .val (.int kx)] [])) _
            refine st27 _ ?_
            show Steps p.tables e below (T27.setTop (mkF m 42 #[.val (.int p1), .val (.int kx)] [(.ref r3)])) _
            jvm_step X27.here [X27.here.top, hx, (hb hby d13_42), X27.method', Bd.returns, Value.isRef, FieldType.isReference]
            first | (intro acts; rw [hr _ acts rfl rfl rfl]) | rw [hr _ _ rfl rfl rfl]
            exact Steps.refl _
          · show Q_13 Z p1 r0 r1 r2 r3 r4 r5 r6 r7 r8 h0 n0 _ T27.heap _
            rw [e27]
            exact ⟨by rw [← e_kx]; simp [own_rs, hc9, hc18, hc27, hc36], N0, rfl⟩
        · by_cases hc45 : kx = (4 : Int32)
          · obtain ⟨T28, X28, e28, st28⟩ := getS2 X0 hx hZ hown (host := "") (Or.inl (hw _ (List.mem_of_getElem? (i := 129) rfl))) Via.refl e0 S_REDUCED (g := (mkF m 48 #[.val (.int p1), .val (.int kx)] [])) rfl (hb hby d13_48)
            obtain ⟨fs, hr, hrun, hended, hW, hsame⟩ := X28.leave (v := some (.ref r4)) (fun h => by rw [Bd.returns] at h; cases h)
            refine ⟨_, _, pre0 _ ?_, hrun, hended, _, _, rfl, ?_, ⟨_, rfl⟩, hW, hsame.mono (by decide) (by decide)⟩
            · show Steps p.tables e below (s₁.setTop (mkF m 0 #[.val (.int p1), .unset] [])) _
              refine XS.iloadN X0.here hx rfl (hb hby d13_0) rfl ?_
              show Steps p.tables e below (s₁.setTop (mkF m 1 #[.val (.int p1), .unset] [(.int p1)])) _
              refine X0.ldcInt hx hown (mvT hZ (hw _ (List.mem_of_getElem? (i := 70) rfl))) (g := (mkF m 1 #[.val (.int p1), .unset] [(.int p1)])) rfl (hb hby d13_1) _ ?_
              show Steps p.tables e below (s₁.setTop (mkF m 3 #[.val (.int p1), .unset] [(.int (2147483647 : Int32)), (.int p1)])) _
              refine XS.iand X0.here hx rfl (hb hby d13_3) rfl ?_
              show Steps p.tables e below (s₁.setTop (mkF m 4 #[.val (.int p1), .unset] [(.int (p1 &&& (2147483647 : Int32)))])) _
              refine XS.bipush X0.here hx rfl (hb hby d13_4) ?_
              show Steps p.tables e below (s₁.setTop (mkF m 6 #[.val (.int p1), .unset] [(.int (9 : Int32)), (.int (p1 &&& (2147483647 : Int32)))])) _
              refine iremM X0 hx rfl (hb hby d13_6) rfl (by decide) ?_
              show Steps p.tables e below (s₁.setTop (mkF m 7 #[.val (.int p1), .unset] [(.int ((p1 &&& (2147483647 : Int32)) % (9 : Int32)))])) _
              refine XS.istoreN X0.here hx rfl (hb hby d13_7) rfl (l' := #[.val (.int p1), .val (.int ((p1 &&& (2147483647 : Int32)) % (9 : Int32)))]) rfl ?_
              show Steps p.tables e below (s₁.setTop (mkF m 8 #[.val (.int p1), .val (.int ((p1 &&& (2147483647 : Int32)) % (9 : Int32)))] [])) _
              rw [← e_kx]
              show Steps p.tables e below (s₁.setTop (mkF m 8 #[.val (.int p1), .val (.int kx)] [])) _
              refine XS.iloadN X0.here hx rfl (hb hby d13_8) rfl ?_
              show Steps p.tables e below (s₁.setTop (mkF m 9 #[.val (.int p1), .val (.int kx)] [(.int kx)])) _
              refine XS.ifYes X0.here hx rfl (pc0 := 9) (pc' := 16) rfl (hb hby d13_9) rfl ((if0 _ _).trans (feq hc9).2) (by decide) (by decide) ?_
              show Steps p.tables e below (s₁.setTop (mkF m 16 #[.val (.int p1), .val (.int kx)] [])) _
              refine XS.iloadN X0.here hx rfl (hb hby d13_16) rfl ?_
              show Steps p.tables e below (s₁.setTop (mkF m 17 #[.val (.int p1), .val (.int kx)] [(.int kx)])) _
              refine XS.iconst X0.here hx rfl (hb hby d13_17) ?_
              show Steps p.tables e below (s₁.setTop (mkF m 18 #[.val (.int p1), .val (.int kx)] [(.int (1 : Int32)), (.int kx)])) _
              refine XS.icmpYes X0.here hx rfl (pc0 := 18) (pc' := 25) rfl (hb hby d13_18) rfl (feq hc18).2 (by decide) (by decide) ?_
              show Steps p.tables e below (s₁.setTop (mkF m 25 #[.val (.int p1), .val (.int kx)] [])) _
              refine XS.iloadN X0.here hx rfl (hb hby d13_25) rfl ?_
              show Steps p.tables e below (s₁.setTop (mkF m 26 #[.val (.int p1), .val (.int kx)] [(.int kx)])) _
              refine XS.iconst X0.here hx rfl (hb hby d13_26) ?_
              show Steps p.tables e below (s₁.setTop (mkF m 27 #[.val (.int p1), .val (.int kx)] [(.int (2 : Int32)), (.int kx)])) _
              refine XS.icmpYes X0.here hx rfl (pc0 := 27) (pc' := 34) rfl (hb hby d13_27) rfl (feq hc27).2 (by decide) (by decide) ?_
              show Steps p.tables e below (s₁.setTop (mkF m 34 #[.val (.int p1), .val (.int kx)] [])) _
              refine XS.iloadN X0.here hx rfl (hb hby d13_34) rfl ?_
              show Steps p.tables e below (s₁.setTop (mkF m 35 #[.val (.int p1), .val (.int kx)] [(.int kx)])) _
              refine XS.iconst X0.here hx rfl (hb hby d13_35) ?_
              show Steps p.tables e below (s₁.setTop (mkF m 36 #[.val (.int p1), .val (.int kx)] [(.int (3 : Int32)), (.int kx)])) _
              refine XS.icmpYes X0.here hx rfl (pc0 := 36) (pc' := 43) rfl (hb hby d13_36) rfl (feq hc36).2 (by decide) (by decide) ?_
              show Steps p.tables e below (s₁.setTop (mkF m 43 #[.val (.int p1), .val (.int kx)] [])) _
              refine XS.iloadN X0.here hx rfl (hb hby d13_43) rfl ?_
              show Steps p.tables e below (s₁.setTop (mkF m 44 #[.val (.int p1), .val (.int kx)] [(.int kx)])) _
              refine XS.iconst X0.here hx rfl (hb hby d13_44) ?_
              show Steps p.tables e below (s₁.setTop (mkF m 45 #[.val (.int p1), .val (.int kx)] [(.int (4 : Int32)), (.int kx)])) _
              refine XS.icmpNo X0.here hx rfl (hb hby d13_45) rfl (teq hc45).2 ?_
              show Steps p.tables e below (s₁.setTop (mkF m 48 #[.val (.int p1), .val (.int kx)] [])) _
              refine st28 _ ?_
              show Steps p.tables e below (T28.setTop (mkF m 51 #[.val (.int p1), .val (.int kx)] [(.ref r4)])) _
              jvm_step X28.here [X28.here.top, hx, (hb hby d13_51), X28.method', Bd.returns, Value.isRef, FieldType.isReference]
              first | (intro acts; rw [hr _ acts rfl rfl rfl]) | rw [hr _ _ rfl rfl rfl]
              exact Steps.refl _
            · show Q_13 Z p1 r0 r1 r2 r3 r4 r5 r6 r7 r8 h0 n0 _ T28.heap _
              rw [e28]
              exact ⟨by rw [← e_kx]; simp [own_rs, hc9, hc18, hc27, hc36, hc45], N0, rfl⟩
          · by_cases hc54 : kx = (5 : Int32)
            · obtain ⟨T29, X29, e29, st29⟩ := getS2 X0 hx hZ hown (host := "") (Or.inl (hw _ (List.mem_of_getElem? (i := 141) rfl))) Via.refl e0 S_TRACED (g := (mkF m 57 #[.val (.int p1), .val (.int kx)] [])) rfl (hb hby d13_57)
              obtain ⟨fs, hr, hrun, hended, hW, hsame⟩ := X29.leave (v := some (.ref r5)) (fun h => by rw [Bd.returns] at h; cases h)
              refine ⟨_, _, pre0 _ ?_, hrun, hended, _, _, rfl, ?_, ⟨_, rfl⟩, hW, hsame.mono (by decide) (by decide)⟩
              · show Steps p.tables e below (s₁.setTop (mkF m 0 #[.val (.int p1), .unset] [])) _
                refine XS.iloadN X0.here hx rfl (hb hby d13_0) rfl ?_
                show Steps p.tables e below (s₁.setTop (mkF m 1 #[.val (.int p1), .unset] [(.int p1)])) _
                refine X0.ldcInt hx hown (mvT hZ (hw _ (List.mem_of_getElem? (i := 70) rfl))) (g := (mkF m 1 #[.val (.int p1), .unset] [(.int p1)])) rfl (hb hby d13_1) _ ?_
                show Steps p.tables e below (s₁.setTop (mkF m 3 #[.val (.int p1), .unset] [(.int (2147483647 : Int32)), (.int p1)])) _
                refine XS.iand X0.here hx rfl (hb hby d13_3) rfl ?_
                show Steps p.tables e below (s₁.setTop (mkF m 4 #[.val (.int p1), .unset] [(.int (p1 &&& (2147483647 : Int32)))])) _
                refine XS.bipush X0.here hx rfl (hb hby d13_4) ?_
                show Steps p.tables e below (s₁.setTop (mkF m 6 #[.val (.int p1), .unset] [(.int (9 : Int32)), (.int (p1 &&& (2147483647 : Int32)))])) _
                refine iremM X0 hx rfl (hb hby d13_6) rfl (by decide) ?_
                show Steps p.tables e below (s₁.setTop (mkF m 7 #[.val (.int p1), .unset] [(.int ((p1 &&& (2147483647 : Int32)) % (9 : Int32)))])) _
                refine XS.istoreN X0.here hx rfl (hb hby d13_7) rfl (l' := #[.val (.int p1), .val (.int ((p1 &&& (2147483647 : Int32)) % (9 : Int32)))]) rfl ?_
                show Steps p.tables e below (s₁.setTop (mkF m 8 #[.val (.int p1), .val (.int ((p1 &&& (2147483647 : Int32)) % (9 : Int32)))] [])) _
                rw [← e_kx]
                show Steps p.tables e below (s₁.setTop (mkF m 8 #[.val (.int p1), .val (.int kx)] [])) _
                refine XS.iloadN X0.here hx rfl (hb hby d13_8) rfl ?_
                show Steps p.tables e below (s₁.setTop (mkF m 9 #[.val (.int p1), .val (.int kx)] [(.int kx)])) _
                refine XS.ifYes X0.here hx rfl (pc0 := 9) (pc' := 16) rfl (hb hby d13_9) rfl ((if0 _ _).trans (feq hc9).2) (by decide) (by decide) ?_
                show Steps p.tables e below (s₁.setTop (mkF m 16 #[.val (.int p1), .val (.int kx)] [])) _
                refine XS.iloadN X0.here hx rfl (hb hby d13_16) rfl ?_
                show Steps p.tables e below (s₁.setTop (mkF m 17 #[.val (.int p1), .val (.int kx)] [(.int kx)])) _
                refine XS.iconst X0.here hx rfl (hb hby d13_17) ?_
                show Steps p.tables e below (s₁.setTop (mkF m 18 #[.val (.int p1), .val (.int kx)] [(.int (1 : Int32)), (.int kx)])) _
                refine XS.icmpYes X0.here hx rfl (pc0 := 18) (pc' := 25) rfl (hb hby d13_18) rfl (feq hc18).2 (by decide) (by decide) ?_
                show Steps p.tables e below (s₁.setTop (mkF m 25 #[.val (.int p1), .val (.int kx)] [])) _
                refine XS.iloadN X0.here hx rfl (hb hby d13_25) rfl ?_
                show Steps p.tables e below (s₁.setTop (mkF m 26 #[.val (.int p1), .val (.int kx)] [(.int kx)])) _
                refine XS.iconst X0.here hx rfl (hb hby d13_26) ?_
                show Steps p.tables e below (s₁.setTop (mkF m 27 #[.val (.int p1), .val (.int kx)] [(.int (2 : Int32)), (.int kx)])) _
                refine XS.icmpYes X0.here hx rfl (pc0 := 27) (pc' := 34) rfl (hb hby d13_27) rfl (feq hc27).2 (by decide) (by decide) ?_
                show Steps p.tables e below (s₁.setTop (mkF m 34 #[.val (.int p1), .val (.int kx)] [])) _
                refine XS.iloadN X0.here hx rfl (hb hby d13_34) rfl ?_
                show Steps p.tables e below (s₁.setTop (mkF m 35 #[.val (.int p1), .val (.int kx)] [(.int kx)])) _
                refine XS.iconst X0.here hx rfl (hb hby d13_35) ?_
                show Steps p.tables e below (s₁.setTop (mkF m 36 #[.val (.int p1), .val (.int kx)] [(.int (3 : Int32)), (.int kx)])) _
                refine XS.icmpYes X0.here hx rfl (pc0 := 36) (pc' := 43) rfl (hb hby d13_36) rfl (feq hc36).2 (by decide) (by decide) ?_
                show Steps p.tables e below (s₁.setTop (mkF m 43 #[.val (.int p1), .val (.int kx)] [])) _
                refine XS.iloadN X0.here hx rfl (hb hby d13_43) rfl ?_
                show Steps p.tables e below (s₁.setTop (mkF m 44 #[.val (.int p1), .val (.int kx)] [(.int kx)])) _
                refine XS.iconst X0.here hx rfl (hb hby d13_44) ?_
                show Steps p.tables e below (s₁.setTop (mkF m 45 #[.val (.int p1), .val (.int kx)] [(.int (4 : Int32)), (.int kx)])) _
                refine XS.icmpYes X0.here hx rfl (pc0 := 45) (pc' := 52) rfl (hb hby d13_45) rfl (feq hc45).2 (by decide) (by decide) ?_
                show Steps p.tables e below (s₁.setTop (mkF m 52 #[.val (.int p1), .val (.int kx)] [])) _
                refine XS.iloadN X0.here hx rfl (hb hby d13_52) rfl ?_
                show Steps p.tables e below (s₁.setTop (mkF m 53 #[.val (.int p1), .val (.int kx)] [(.int kx)])) _
                refine XS.iconst X0.here hx rfl (hb hby d13_53) ?_
                show Steps p.tables e below (s₁.setTop (mkF m 54 #[.val (.int p1), .val (.int kx)] [(.int (5 : Int32)), (.int kx)])) _
                refine XS.icmpNo X0.here hx rfl (hb hby d13_54) rfl (teq hc54).2 ?_
                show Steps p.tables e below (s₁.setTop (mkF m 57 #[.val (.int p1), .val (.int kx)] [])) _
                refine st29 _ ?_
                show Steps p.tables e below (T29.setTop (mkF m 60 #[.val (.int p1), .val (.int kx)] [(.ref r5)])) _
                jvm_step X29.here [X29.here.top, hx, (hb hby d13_60), X29.method', Bd.returns, Value.isRef, FieldType.isReference]
                first | (intro acts; rw [hr _ acts rfl rfl rfl]) | rw [hr _ _ rfl rfl rfl]
                exact Steps.refl _
              · show Q_13 Z p1 r0 r1 r2 r3 r4 r5 r6 r7 r8 h0 n0 _ T29.heap _
                rw [e29]
                exact ⟨by rw [← e_kx]; simp [own_rs, hc9, hc18, hc27, hc36, hc45, hc54], N0, rfl⟩
            · by_cases hc64 : kx = (6 : Int32)
              · obtain ⟨T30, X30, e30, st30⟩ := getS2 X0 hx hZ hown (host := "") (Or.inl (hw _ (List.mem_of_getElem? (i := 135) rfl))) Via.refl e0 S_BINDING (g := (mkF m 67 #[.val (.int p1), .val (.int kx)] [])) rfl (hb hby d13_67)
                obtain ⟨fs, hr, hrun, hended, hW, hsame⟩ := X30.leave (v := some (.ref r6)) (fun h => by rw [Bd.returns] at h; cases h)
                refine ⟨_, _, pre0 _ ?_, hrun, hended, _, _, rfl, ?_, ⟨_, rfl⟩, hW, hsame.mono (by decide) (by decide)⟩
                · show Steps p.tables e below (s₁.setTop (mkF m 0 #[.val (.int p1), .unset] [])) _
                  refine XS.iloadN X0.here hx rfl (hb hby d13_0) rfl ?_
                  show Steps p.tables e below (s₁.setTop (mkF m 1 #[.val (.int p1), .unset] [(.int p1)])) _
                  refine X0.ldcInt hx hown (mvT hZ (hw _ (List.mem_of_getElem? (i := 70) rfl))) (g := (mkF m 1 #[.val (.int p1), .unset] [(.int p1)])) rfl (hb hby d13_1) _ ?_
                  show Steps p.tables e below (s₁.setTop (mkF m 3 #[.val (.int p1), .unset] [(.int (2147483647 : Int32)), (.int p1)])) _
                  refine XS.iand X0.here hx rfl (hb hby d13_3) rfl ?_
                  show Steps p.tables e below (s₁.setTop (mkF m 4 #[.val (.int p1), .unset] [(.int (p1 &&& (2147483647 : Int32)))])) _
                  refine XS.bipush X0.here hx rfl (hb hby d13_4) ?_
                  show Steps p.tables e below (s₁.setTop (mkF m 6 #[.val (.int p1), .unset] [(.int (9 : Int32)), (.int (p1 &&& (2147483647 : Int32)))])) _
                  refine iremM X0 hx rfl (hb hby d13_6) rfl (by decide) ?_
                  show Steps p.tables e below (s₁.setTop (mkF m 7 #[.val (.int p1), .unset] [(.int ((p1 &&& (2147483647 : Int32)) % (9 : Int32)))])) _
                  refine XS.istoreN X0.here hx rfl (hb hby d13_7) rfl (l' := #[.val (.int p1), .val (.int ((p1 &&& (2147483647 : Int32)) % (9 : Int32)))]) rfl ?_
                  show Steps p.tables e below (s₁.setTop (mkF m 8 #[.val (.int p1), .val (.int ((p1 &&& (2147483647 : Int32)) % (9 : Int32)))] [])) _
                  rw [← e_kx]
                  show Steps p.tables e below (s₁.setTop (mkF m 8 #[.val (.int p1), .val (.int kx)] [])) _
                  refine XS.iloadN X0.here hx rfl (hb hby d13_8) rfl ?_
                  show Steps p.tables e below (s₁.setTop (mkF m 9 #[.val (.int p1), .val (.int kx)] [(.int kx)])) _
                  refine XS.ifYes X0.here hx rfl (pc0 := 9) (pc' := 16) rfl (hb hby d13_9) rfl ((if0 _ _).trans (feq hc9).2) (by decide) (by decide) ?_
                  show Steps p.tables e below (s₁.setTop (mkF m 16 #[.val (.int p1), .val (.int kx)] [])) _
                  refine XS.iloadN X0.here hx rfl (hb hby d13_16) rfl ?_
                  show Steps p.tables e below (s₁.setTop (mkF m 17 #[.val (.int p1), .val (.int kx)] [(.int kx)])) _
                  refine XS.iconst X0.here hx rfl (hb hby d13_17) ?_
                  show Steps p.tables e below (s₁.setTop (mkF m 18 #[.val (.int p1), .val (.int kx)] [(.int (1 : Int32)), (.int kx)])) _
                  refine XS.icmpYes X0.here hx rfl (pc0 := 18) (pc' := 25) rfl (hb hby d13_18) rfl (feq hc18).2 (by decide) (by decide) ?_
                  show Steps p.tables e below (s₁.setTop (mkF m 25 #[.val (.int p1), .val (.int kx)] [])) _
                  refine XS.iloadN X0.here hx rfl (hb hby d13_25) rfl ?_
                  show Steps p.tables e below (s₁.setTop (mkF m 26 #[.val (.int p1), .val (.int kx)] [(.int kx)])) _
                  refine XS.iconst X0.here hx rfl (hb hby d13_26) ?_
                  show Steps p.tables e below (s₁.setTop (mkF m 27 #[.val (.int p1), .val (.int kx)] [(.int (2 : Int32)), (.int kx)])) _
                  refine XS.icmpYes X0.here hx rfl (pc0 := 27) (pc' := 34) rfl (hb hby d13_27) rfl (feq hc27).2 (by decide) (by decide) ?_
                  show Steps p.tables e below (s₁.setTop (mkF m 34 #[.val (.int p1), .val (.int kx)] [])) _
                  refine XS.iloadN X0.here hx rfl (hb hby d13_34) rfl ?_
                  show Steps p.tables e below (s₁.setTop (mkF m 35 #[.val (.int p1), .val (.int kx)] [(.int kx)])) _
                  refine XS.iconst X0.here hx rfl (hb hby d13_35) ?_
                  show Steps p.tables e below (s₁.setTop (mkF m 36 #[.val (.int p1), .val (.int kx)] [(.int (3 : Int32)), (.int kx)])) _
                  refine XS.icmpYes X0.here hx rfl (pc0 := 36) (pc' := 43) rfl (hb hby d13_36) rfl (feq hc36).2 (by decide) (by decide) ?_
                  show Steps p.tables e below (s₁.setTop (mkF m 43 #[.val (.int p1), .val (.int kx)] [])) _
                  refine XS.iloadN X0.here hx rfl (hb hby d13_43) rfl ?_
                  show Steps p.tables e below (s₁.setTop (mkF m 44 #[.val (.int p1), .val (.int kx)] [(.int kx)])) _
                  refine XS.iconst X0.here hx rfl (hb hby d13_44) ?_
                  show Steps p.tables e below (s₁.setTop (mkF m 45 #[.val (.int p1), .val (.int kx)] [(.int (4 : Int32)), (.int kx)])) _
                  refine XS.icmpYes X0.here hx rfl (pc0 := 45) (pc' := 52) rfl (hb hby d13_45) rfl (feq hc45).2 (by decide) (by decide) ?_
                  show Steps p.tables e below (s₁.setTop (mkF m 52 #[.val (.int p1), .val (.int kx)] [])) _
                  refine XS.iloadN X0.here hx rfl (hb hby d13_52) rfl ?_
                  show Steps p.tables e below (s₁.setTop (mkF m 53 #[.val (.int p1), .val (.int kx)] [(.int kx)])) _
                  refine XS.iconst X0.here hx rfl (hb hby d13_53) ?_
                  show Steps p.tables e below (s₁.setTop (mkF m 54 #[.val (.int p1), .val (.int kx)] [(.int (5 : Int32)), (.int kx)])) _
                  refine XS.icmpYes X0.here hx rfl (pc0 := 54) (pc' := 61) rfl (hb hby d13_54) rfl (feq hc54).2 (by decide) (by decide) ?_
                  show Steps p.tables e below (s₁.setTop (mkF m 61 #[.val (.int p1), .val (.int kx)] [])) _
                  refine XS.iloadN X0.here hx rfl (hb hby d13_61) rfl ?_
                  show Steps p.tables e below (s₁.setTop (mkF m 62 #[.val (.int p1), .val (.int kx)] [(.int kx)])) _
                  refine XS.bipush X0.here hx rfl (hb hby d13_62) ?_
                  show Steps p.tables e below (s₁.setTop (mkF m 64 #[.val (.int p1), .val (.int kx)] [(.int (6 : Int32)), (.int kx)])) _
                  refine XS.icmpNo X0.here hx rfl (hb hby d13_64) rfl (teq hc64).2 ?_
                  show Steps p.tables e below (s₁.setTop (mkF m 67 #[.val (.int p1), .val (.int kx)] [])) _
                  refine st30 _ ?_
                  show Steps p.tables e below (T30.setTop (mkF m 70 #[.val (.int p1), .val (.int kx)] [(.ref r6)])) _
                  jvm_step X30.here [X30.here.top, hx, (hb hby d13_70), X30.method', Bd.returns, Value.isRef, FieldType.isReference]
                  first | (intro acts; rw [hr _ acts rfl rfl rfl]) | rw [hr _ _ rfl rfl rfl]
                  exact Steps.refl _
                · show Q_13 Z p1 r0 r1 r2 r3 r4 r5 r6 r7 r8 h0 n0 _ T30.heap _
                  rw [e30]
                  exact ⟨by rw [← e_kx]; simp [own_rs, hc9, hc18, hc27, hc36, hc45, hc54, hc64], N0, rfl⟩
              · by_cases hc74 : kx = (7 : Int32)
                · obtain ⟨T31, X31, e31, st31⟩ := getS2 X0 hx hZ hown (host := "") (Or.inl (hw _ (List.mem_of_getElem? (i := 127) rfl))) Via.refl e0 S_REFUSED (g := (mkF m 77 #[.val (.int p1), .val (.int kx)] [])) rfl (hb hby d13_77)
                  obtain ⟨fs, hr, hrun, hended, hW, hsame⟩ := X31.leave (v := some (.ref r7)) (fun h => by rw [Bd.returns] at h; cases h)
                  refine ⟨_, _, pre0 _ ?_, hrun, hended, _, _, rfl, ?_, ⟨_, rfl⟩, hW, hsame.mono (by decide) (by decide)⟩
                  · show Steps p.tables e below (s₁.setTop (mkF m 0 #[.val (.int p1), .unset] [])) _
                    refine XS.iloadN X0.here hx rfl (hb hby d13_0) rfl ?_
                    show Steps p.tables e below (s₁.setTop (mkF m 1 #[.val (.int p1), .unset] [(.int p1)])) _
                    refine X0.ldcInt hx hown (mvT hZ (hw _ (List.mem_of_getElem? (i := 70) rfl))) (g := (mkF m 1 #[.val (.int p1), .unset] [(.int p1)])) rfl (hb hby d13_1) _ ?_
                    show Steps p.tables e below (s₁.setTop (mkF m 3 #[.val (.int p1), .unset] [(.int (2147483647 : Int32)), (.int p1)])) _
                    refine XS.iand X0.here hx rfl (hb hby d13_3) rfl ?_
                    show Steps p.tables e below (s₁.setTop (mkF m 4 #[.val (.int p1), .unset] [(.int (p1 &&& (2147483647 : Int32)))])) _
                    refine XS.bipush X0.here hx rfl (hb hby d13_4) ?_
                    show Steps p.tables e below (s₁.setTop (mkF m 6 #[.val (.int p1), .unset] [(.int (9 : Int32)), (.int (p1 &&& (2147483647 : Int32)))])) _
                    refine iremM X0 hx rfl (hb hby d13_6) rfl (by decide) ?_
                    show Steps p.tables e below (s₁.setTop (mkF m 7 #[.val (.int p1), .unset] [(.int ((p1 &&& (2147483647 : Int32)) % (9 : Int32)))])) _
                    refine XS.istoreN X0.here hx rfl (hb hby d13_7) rfl (l' := #[.val (.int p1), .val (.int ((p1 &&& (2147483647 : Int32)) % (9 : Int32)))]) rfl ?_
                    show Steps p.tables e below (s₁.setTop (mkF m 8 #[.val (.int p1), .val (.int ((p1 &&& (2147483647 : Int32)) % (9 : Int32)))] [])) _
                    rw [← e_kx]
                    show Steps p.tables e below (s₁.setTop (mkF m 8 #[.val (.int p1), .val (.int kx)] [])) _
                    refine XS.iloadN X0.here hx rfl (hb hby d13_8) rfl ?_
                    show Steps p.tables e below (s₁.setTop (mkF m 9 #[.val (.int p1), .val (.int kx)] [(.int kx)])) _
                    refine XS.ifYes X0.here hx rfl (pc0 := 9) (pc' := 16) rfl (hb hby d13_9) rfl ((if0 _ _).trans (feq hc9).2) (by decide) (by decide) ?_
                    show Steps p.tables e below (s₁.setTop (mkF m 16 #[.val (.int p1), .val (.int kx)] [])) _
                    refine XS.iloadN X0.here hx rfl (hb hby d13_16) rfl ?_
                    show Steps p.tables e below (s₁.setTop (mkF m 17 #[.val (.int p1), .val (.int kx)] [(.int kx)])) _
                    refine XS.iconst X0.here hx rfl (hb hby d13_17) ?_
                    show Steps p.tables e below (s₁.setTop (mkF m 18 #[.val (.int p1), .val (.int kx)] [(.int (1 : Int32)), (.int kx)])) _
                    refine XS.icmpYes X0.here hx rfl (pc0 := 18) (pc' := 25) rfl (hb hby d13_18) rfl (feq hc18).2 (by decide) (by decide) ?_
                    show Steps p.tables e below (s₁.setTop (mkF m 25 #[.val (.int p1), .val (.int kx)] [])) _
                    refine XS.iloadN X0.here hx rfl (hb hby d13_25) rfl ?_
                    show Steps p.tables e below (s₁.setTop (mkF m 26 #[.val (.int p1), .val (.int kx)] [(.int kx)])) _
                    refine XS.iconst X0.here hx rfl (hb hby d13_26) ?_
                    show Steps p.tables e below (s₁.setTop (mkF m 27 #[.val (.int p1), .val (.int kx)] [(.int (2 : Int32)), (.int kx)])) _
                    refine XS.icmpYes X0.here hx rfl (pc0 := 27) (pc' := 34) rfl (hb hby d13_27) rfl (feq hc27).2 (by decide) (by decide) ?_
                    show Steps p.tables e below (s₁.setTop (mkF m 34 #[.val (.int p1), .val (.int kx)] [])) _
                    refine XS.iloadN X0.here hx rfl (hb hby d13_34) rfl ?_
                    show Steps p.tables e below (s₁.setTop (mkF m 35 #[.val (.int p1), .val (.int kx)] [(.int kx)])) _
                    refine XS.iconst X0.here hx rfl (hb hby d13_35) ?_
                    show Steps p.tables e below (s₁.setTop (mkF m 36 #[.val (.int p1), .val (.int kx)] [(.int (3 : Int32)), (.int kx)])) _
                    refine XS.icmpYes X0.here hx rfl (pc0 := 36) (pc' := 43) rfl (hb hby d13_36) rfl (feq hc36).2 (by decide) (by decide) ?_
                    show Steps p.tables e below (s₁.setTop (mkF m 43 #[.val (.int p1), .val (.int kx)] [])) _
                    refine XS.iloadN X0.here hx rfl (hb hby d13_43) rfl ?_
                    show Steps p.tables e below (s₁.setTop (mkF m 44 #[.val (.int p1), .val (.int kx)] [(.int kx)])) _
                    refine XS.iconst X0.here hx rfl (hb hby d13_44) ?_
                    show Steps p.tables e below (s₁.setTop (mkF m 45 #[.val (.int p1), .val (.int kx)] [(.int (4 : Int32)), (.int kx)])) _
                    refine XS.icmpYes X0.here hx rfl (pc0 := 45) (pc' := 52) rfl (hb hby d13_45) rfl (feq hc45).2 (by decide) (by decide) ?_
                    show Steps p.tables e below (s₁.setTop (mkF m 52 #[.val (.int p1), .val (.int kx)] [])) _
                    refine XS.iloadN X0.here hx rfl (hb hby d13_52) rfl ?_
                    show Steps p.tables e below (s₁.setTop (mkF m 53 #[.val (.int p1), .val (.int kx)] [(.int kx)])) _
                    refine XS.iconst X0.here hx rfl (hb hby d13_53) ?_
                    show Steps p.tables e below (s₁.setTop (mkF m 54 #[.val (.int p1), .val (.int kx)] [(.int (5 : Int32)), (.int kx)])) _
                    refine XS.icmpYes X0.here hx rfl (pc0 := 54) (pc' := 61) rfl (hb hby d13_54) rfl (feq hc54).2 (by decide) (by decide) ?_
                    show Steps p.tables e below (s₁.setTop (mkF m 61 #[.val (.int p1), .val (.int kx)] [])) _
                    refine XS.iloadN X0.here hx rfl (hb hby d13_61) rfl ?_
                    show Steps p.tables e below (s₁.setTop (mkF m 62 #[.val (.int p1), .val (.int kx)] [(.int kx)])) _
                    refine XS.bipush X0.here hx rfl (hb hby d13_62) ?_
                    show Steps p.tables e below (s₁.setTop (mkF m 64 #[.val (.int p1), .val (.int kx)] [(.int (6 : Int32)), (.int kx)])) _
                    refine XS.icmpYes X0.here hx rfl (pc0 := 64) (pc' := 71) rfl (hb hby d13_64) rfl (feq hc64).2 (by decide) (by decide) ?_
                    show Steps p.tables e below (s₁.setTop (mkF m 71 #[.val (.int p1), .val (.int kx)] [])) _
                    refine XS.iloadN X0.here hx rfl (hb hby d13_71) rfl ?_
                    show Steps p.tables e below (s₁.setTop (mkF m 72 #[.val (.int p1), .val (.int kx)] [(.int kx)])) _
                    refine XS.bipush X0.here hx rfl (hb hby d13_72) ?_
                    show Steps p.tables e below (s₁.setTop (mkF m 74 #[.val (.int p1), .val (.int kx)] [(.int (7 : Int32)), (.int kx)])) _
                    refine XS.icmpNo X0.here hx rfl (hb hby d13_74) rfl (teq hc74).2 ?_
                    show Steps p.tables e below (s₁.setTop (mkF m 77 #[.val (.int p1), .val (.int kx)] [])) _
                    refine st31 _ ?_
                    show Steps p.tables e below (T31.setTop (mkF m 80 #[.val (.int p1), .val (.int kx)] [(.ref r7)])) _
                    jvm_step X31.here [X31.here.top, hx, (hb hby d13_80), X31.method', Bd.returns, Value.isRef, FieldType.isReference]
                    first | (intro acts; rw [hr _ acts rfl rfl rfl]) | rw [hr _ _ rfl rfl rfl]
                    exact Steps.refl _
                  · show Q_13 Z p1 r0 r1 r2 r3 r4 r5 r6 r7 r8 h0 n0 _ T31.heap _
                    rw [e31]
                    exact ⟨by rw [← e_kx]; simp [own_rs, hc9, hc18, hc27, hc36, hc45, hc54, hc64, hc74], N0, rfl⟩
                · obtain ⟨T32, X32, e32, st32⟩ := getS2 X0 hx hZ hown (host := "") (Or.inl (hw _ (List.mem_of_getElem? (i := 139) rfl))) Via.refl e0 S_NEW_BINDING (g := (mkF m 81 #[.val (.int p1), .val (.int kx)] [])) rfl (hb hby d13_81)
                  obtain ⟨fs, hr, hrun, hended, hW, hsame⟩ := X32.leave (v := some (.ref r8)) (fun h => by rw [Bd.returns] at h; cases h)
                  refine ⟨_, _, pre0 _ ?_, hrun, hended, _, _, rfl, ?_, ⟨_, rfl⟩, hW, hsame.mono (by decide) (by decide)⟩
                  · show Steps p.tables e below (s₁.setTop (mkF m 0 #[.val (.int p1), .unset] [])) _
                    refine XS.iloadN X0.here hx rfl (hb hby d13_0) rfl ?_
                    show Steps p.tables e below (s₁.setTop (mkF m 1 #[.val (.int p1), .unset] [(.int p1)])) _
                    refine X0.ldcInt hx hown (mvT hZ (hw _ (List.mem_of_getElem? (i := 70) rfl))) (g := (mkF m 1 #[.val (.int p1), .unset] [(.int p1)])) rfl (hb hby d13_1) _ ?_
                    show Steps p.tables e below (s₁.setTop (mkF m 3 #[.val (.int p1), .unset] [(.int (2147483647 : Int32)), (.int p1)])) _
                    refine XS.iand X0.here hx rfl (hb hby d13_3) rfl ?_
                    show Steps p.tables e below (s₁.setTop (mkF m 4 #[.val (.int p1), .unset] [(.int (p1 &&& (2147483647 : Int32)))])) _
                    refine XS.bipush X0.here hx rfl (hb hby d13_4) ?_
                    show Steps p.tables e below (s₁.setTop (mkF m 6 #[.val (.int p1), .unset] [(.int (9 : Int32)), (.int (p1 &&& (2147483647 : Int32)))])) _
                    refine iremM X0 hx rfl (hb hby d13_6) rfl (by decide) ?_
                    show Steps p.tables e below (s₁.setTop (mkF m 7 #[.val (.int p1), .unset] [(.int ((p1 &&& (2147483647 : Int32)) % (9 : Int32)))])) _
                    refine XS.istoreN X0.here hx rfl (hb hby d13_7) rfl (l' := #[.val (.int p1), .val (.int ((p1 &&& (2147483647 : Int32)) % (9 : Int32)))]) rfl ?_
                    show Steps p.tables e below (s₁.setTop (mkF m 8 #[.val (.int p1), .val (.int ((p1 &&& (2147483647 : Int32)) % (9 : Int32)))] [])) _
                    rw [← e_kx]
                    show Steps p.tables e below (s₁.setTop (mkF m 8 #[.val (.int p1), .val (.int kx)] [])) _
                    refine XS.iloadN X0.here hx rfl (hb hby d13_8) rfl ?_
                    show Steps p.tables e below (s₁.setTop (mkF m 9 #[.val (.int p1), .val (.int kx)] [(.int kx)])) _
                    refine XS.ifYes X0.here hx rfl (pc0 := 9) (pc' := 16) rfl (hb hby d13_9) rfl ((if0 _ _).trans (feq hc9).2) (by decide) (by decide) ?_
                    show Steps p.tables e below (s₁.setTop (mkF m 16 #[.val (.int p1), .val (.int kx)] [])) _
                    refine XS.iloadN X0.here hx rfl (hb hby d13_16) rfl ?_
                    show Steps p.tables e below (s₁.setTop (mkF m 17 #[.val (.int p1), .val (.int kx)] [(.int kx)])) _
                    refine XS.iconst X0.here hx rfl (hb hby d13_17) ?_
                    show Steps p.tables e below (s₁.setTop (mkF m 18 #[.val (.int p1), .val (.int kx)] [(.int (1 : Int32)), (.int kx)])) _
                    refine XS.icmpYes X0.here hx rfl (pc0 := 18) (pc' := 25) rfl (hb hby d13_18) rfl (feq hc18).2 (by decide) (by decide) ?_
                    show Steps p.tables e below (s₁.setTop (mkF m 25 #[.val (.int p1), .val (.int kx)] [])) _
                    refine XS.iloadN X0.here hx rfl (hb hby d13_25) rfl ?_
                    show Steps p.tables e below (s₁.setTop (mkF m 26 #[.val (.int p1), .val (.int kx)] [(.int kx)])) _
                    refine XS.iconst X0.here hx rfl (hb hby d13_26) ?_
                    show Steps p.tables e below (s₁.setTop (mkF m 27 #[.val (.int p1), .val (.int kx)] [(.int (2 : Int32)), (.int kx)])) _
                    refine XS.icmpYes X0.here hx rfl (pc0 := 27) (pc' := 34) rfl (hb hby d13_27) rfl (feq hc27).2 (by decide) (by decide) ?_
                    show Steps p.tables e below (s₁.setTop (mkF m 34 #[.val (.int p1), .val (.int kx)] [])) _
                    refine XS.iloadN X0.here hx rfl (hb hby d13_34) rfl ?_
                    show Steps p.tables e below (s₁.setTop (mkF m 35 #[.val (.int p1), .val (.int kx)] [(.int kx)])) _
                    refine XS.iconst X0.here hx rfl (hb hby d13_35) ?_
                    show Steps p.tables e below (s₁.setTop (mkF m 36 #[.val (.int p1), .val (.int kx)] [(.int (3 : Int32)), (.int kx)])) _
                    refine XS.icmpYes X0.here hx rfl (pc0 := 36) (pc' := 43) rfl (hb hby d13_36) rfl (feq hc36).2 (by decide) (by decide) ?_
                    show Steps p.tables e below (s₁.setTop (mkF m 43 #[.val (.int p1), .val (.int kx)] [])) _
                    refine XS.iloadN X0.here hx rfl (hb hby d13_43) rfl ?_
                    show Steps p.tables e below (s₁.setTop (mkF m 44 #[.val (.int p1), .val (.int kx)] [(.int kx)])) _
                    refine XS.iconst X0.here hx rfl (hb hby d13_44) ?_
                    show Steps p.tables e below (s₁.setTop (mkF m 45 #[.val (.int p1), .val (.int kx)] [(.int (4 : Int32)), (.int kx)])) _
                    refine XS.icmpYes X0.here hx rfl (pc0 := 45) (pc' := 52) rfl (hb hby d13_45) rfl (feq hc45).2 (by decide) (by decide) ?_
                    show Steps p.tables e below (s₁.setTop (mkF m 52 #[.val (.int p1), .val (.int kx)] [])) _
                    refine XS.iloadN X0.here hx rfl (hb hby d13_52) rfl ?_
                    show Steps p.tables e below (s₁.setTop (mkF m 53 #[.val (.int p1), .val (.int kx)] [(.int kx)])) _
                    refine XS.iconst X0.here hx rfl (hb hby d13_53) ?_
                    show Steps p.tables e below (s₁.setTop (mkF m 54 #[.val (.int p1), .val (.int kx)] [(.int (5 : Int32)), (.int kx)])) _
                    refine XS.icmpYes X0.here hx rfl (pc0 := 54) (pc' := 61) rfl (hb hby d13_54) rfl (feq hc54).2 (by decide) (by decide) ?_
                    show Steps p.tables e below (s₁.setTop (mkF m 61 #[.val (.int p1), .val (.int kx)] [])) _
                    refine XS.iloadN X0.here hx rfl (hb hby d13_61) rfl ?_
                    show Steps p.tables e below (s₁.setTop (mkF m 62 #[.val (.int p1), .val (.int kx)] [(.int kx)])) _
                    refine XS.bipush X0.here hx rfl (hb hby d13_62) ?_
                    show Steps p.tables e below (s₁.setTop (mkF m 64 #[.val (.int p1), .val (.int kx)] [(.int (6 : Int32)), (.int kx)])) _
                    refine XS.icmpYes X0.here hx rfl (pc0 := 64) (pc' := 71) rfl (hb hby d13_64) rfl (feq hc64).2 (by decide) (by decide) ?_
                    show Steps p.tables e below (s₁.setTop (mkF m 71 #[.val (.int p1), .val (.int kx)] [])) _
                    refine XS.iloadN X0.here hx rfl (hb hby d13_71) rfl ?_
                    show Steps p.tables e below (s₁.setTop (mkF m 72 #[.val (.int p1), .val (.int kx)] [(.int kx)])) _
                    refine XS.bipush X0.here hx rfl (hb hby d13_72) ?_
                    show Steps p.tables e below (s₁.setTop (mkF m 74 #[.val (.int p1), .val (.int kx)] [(.int (7 : Int32)), (.int kx)])) _
                    refine XS.icmpYes X0.here hx rfl (pc0 := 74) (pc' := 81) rfl (hb hby d13_74) rfl (feq hc74).2 (by decide) (by decide) ?_
                    show Steps p.tables e below (s₁.setTop (mkF m 81 #[.val (.int p1), .val (.int kx)] [])) _
                    refine st32 _ ?_
                    show Steps p.tables e below (T32.setTop (mkF m 84 #[.val (.int p1), .val (.int kx)] [(.ref r8)])) _
                    jvm_step X32.here [X32.here.top, hx, (hb hby d13_84), X32.method', Bd.returns, Value.isRef, FieldType.isReference]
                    first | (intro acts; rw [hr _ acts rfl rfl rfl]) | rw [hr _ _ rfl rfl rfl]
                    exact Steps.refl _
                  · show Q_13 Z p1 r0 r1 r2 r3 r4 r5 r6 r7 r8 h0 n0 _ T32.heap _
                    rw [e32]
                    exact ⟨by rw [← e_kx]; simp [own_rs, hc9, hc18, hc27, hc36, hc45, hc54, hc64, hc74], N0, rfl⟩
theorem d15_0 : decode prog_9_method_1_code 0 = .ok (.aload_n 0, 1) := by decide +kernel
theorem d15_1 : decode prog_9_method_1_code 1 = .ok (.invokespecial 1, 3) := by decide +kernel
theorem d15_4 : decode prog_9_method_1_code 4 = .ok (.aload_n 0, 1) := by decide +kernel
theorem d15_5 : decode prog_9_method_1_code 5 = .ok (.aload_n 1, 1) := by decide +kernel
theorem d15_6 : decode prog_9_method_1_code 6 = .ok (.putfield 7, 3) := by decide +kernel
theorem d15_9 : decode prog_9_method_1_code 9 = .ok (.aload_n 0, 1) := by decide +kernel
theorem d15_10 : decode prog_9_method_1_code 10 = .ok (.aload_n 2, 1) := by decide +kernel
theorem d15_11 : decode prog_9_method_1_code 11 = .ok (.putfield 13, 3) := by decide +kernel
theorem d15_14 : decode prog_9_method_1_code 14 = .ok (.aload_n 0, 1) := by decide +kernel
theorem d15_15 : decode prog_9_method_1_code 15 = .ok (.aload_n 3, 1) := by decide +kernel
theorem d15_16 : decode prog_9_method_1_code 16 = .ok (.putfield 17, 3) := by decide +kernel
theorem d15_19 : decode prog_9_method_1_code 19 = .ok (.aload_n 0, 1) := by decide +kernel
theorem d15_20 : decode prog_9_method_1_code 20 = .ok (.aload 4, 2) := by decide +kernel
theorem d15_22 : decode prog_9_method_1_code 22 = .ok (.invokevirtual 21, 3) := by decide +kernel
theorem d15_25 : decode prog_9_method_1_code 25 = .ok (.checkcast 22, 3) := by decide +kernel
theorem d15_28 : decode prog_9_method_1_code 28 = .ok (.putfield 27, 3) := by decide +kernel
theorem d15_31 : decode prog_9_method_1_code 31 = .ok (.return_, 1) := by decide +kernel
theorem pn_15 : plainName "com/example/sanction/sanction/model/Decision" = true := by first | (simp [plainName, overriddenIn]; done) | decide +kernel
theorem ef_15 (m : MethodId) (x0 : Addr) (x1 : Addr) (x2 : Addr) (x3 : Addr) (x4 : Addr) : entryFrame m #[(.ref x0), (.ref x1), (.ref x2), (.ref x3), (.ref x4)] 5 = mkF m 0 #[.val (.ref x0), .val (.ref x1), .val (.ref x2), .val (.ref x3), .val (.ref x4)] [] := by first | (simp [entryFrame, mkF, argsToLocals, Value.category]; done) | rfl
def Q_15 (Z : State) (a1 : Addr) (a2 : Addr) (a3 : Addr) (a4 : Addr) (a5 : Addr) (kp : ClassId) (h0 : Heap) (n0 : Nat) (v : Option Value) (h : Heap) (L : List Loc) : Prop := v = none ∧ Fr n0 L ∧ Keep h0 h [a1] ∧ Exa Z h a1 "com/example/sanction/sanction/model/Decision" ∧ Fld Z h a1 "com/example/sanction/sanction/model/Decision" "request" "Lcom/example/sanction/sanction/model/RequestEvent;" (.ref a2) ∧ Fld Z h a1 "com/example/sanction/sanction/model/Decision" "verdict" "Lcom/example/sanction/sanction/model/Verdict;" (.ref a3) ∧ Fld Z h a1 "com/example/sanction/sanction/model/Decision" "reason" "Lcom/example/sanction/sanction/model/Reason;" (.ref a4) ∧ ∃ pb : Addr, n0 ≤ pb ∧ h0.size ≤ pb ∧ Fld Z h a1 "com/example/sanction/sanction/model/Decision" "path" "[I" (.ref pb) ∧ Arv Z h pb kp .int (0 : Int32) [] (.int (0 : Int32)) ∧ Exa Z h pb "[I"
set_option maxRecDepth 65536 in
set_option maxHeartbeats 40000000 in
theorem rm_15 (l : Launch) (Z : State) (a0 : Array Value) (hw : ∀ d ∈ tables_1, d.before a0 Z = true) (ws : List Jvm.Cond) (a1 : Addr) (a2 : Addr) (a3 : Addr) (a4 : Addr) (a5 : Addr) (kp : ClassId) (h0 : Heap) (n0 : Nat) (Z0 : n0 ≤ h0.size) (E_a1 : Exa Z h0 a1 "com/example/sanction/sanction/model/Decision") (g_a1 : n0 ≤ a1) (ne1 : a5 ≠ a1) (F_request : Fld Z h0 a1 "com/example/sanction/sanction/model/Decision" "request" "Lcom/example/sanction/sanction/model/RequestEvent;" .null) (F_verdict : Fld Z h0 a1 "com/example/sanction/sanction/model/Decision" "verdict" "Lcom/example/sanction/sanction/model/Verdict;" .null) (F_reason : Fld Z h0 a1 "com/example/sanction/sanction/model/Decision" "reason" "Lcom/example/sanction/sanction/model/Reason;" .null) (F_path : Fld Z h0 a1 "com/example/sanction/sanction/model/Decision" "path" "[I" .null) (V_5 : Arv Z h0 a5 kp .int (0 : Int32) [] (.int (0 : Int32))) (E_5 : Exa Z h0 a5 "[I") :
    MetFree l (⟨"com/example/sanction/sanction/model/Decision", "<init>", "(Lcom/example/sanction/sanction/model/RequestEvent;Lcom/example/sanction/sanction/model/Verdict;Lcom/example/sanction/sanction/model/Reason;[I)V"⟩ : MethodName) (head1 (Jvm.Cond.code (⟨"com/example/sanction/sanction/model/Decision", "<init>", "(Lcom/example/sanction/sanction/model/RequestEvent;Lcom/example/sanction/sanction/model/Verdict;Lcom/example/sanction/sanction/model/Reason;[I)V"⟩ : MethodName) prog_9_method_1_code 5 none :: ws) ({ frames := 1, cells := 1, slots := 0, locals := 15 } : Room)) (fun a U => a = #[(.ref a1), (.ref a2), (.ref a3), (.ref a4), (.ref a5)] ∧ Z.Warmed39 U.vm ∧ U.heap = h0) (fun _ _ _ _ _ => True) (fun _ U o U' => ∃ v L, o = .returned v ∧ Q_15 Z a1 a2 a3 a4 a5 kp h0 n0 v U'.heap L ∧ FrameEnd U o U' L ({ frames := 1, cells := 1, slots := 0, locals := 15 } : Room).cells ({ frames := 1, cells := 1, slots := 0, locals := 15 } : Room).slots) := by
  refine MetFree.of_bodySF (plainFor_of_name pn_15) hisR ?_
  intro p e s m args below meth cod_ s₁ Bd hml0 hP hK
  obtain ⟨rfl, hZ, hh⟩ := hP
  have hx := Bd.exec
  have hby := Bd.bytes
  have hml : cod_.maxLocals = 5 := hml0
  have hown : s.vm.findClass "com/example/sanction/sanction/model/Decision" = some m.cls := findClass_of_methodNamed Bd.named
  have hnm := (name_of_methodNamed Bd.named Bd.method).1
  have X0 : Stand p l e ({ frames := 1, cells := 1, slots := 0, locals := 15 } : Room) s m #[(.ref a1), (.ref a2), (.ref a3), (.ref a4), (.ref a5)] below meth cod_ s₁ [] 0 0 := Stand.of_body Bd
  have e0 : s₁.heap = h0 := by rw [← hh, Bd.state]; rfl
  have N0 := Fr.nil n0
  have pre0 : ∀ t, Steps p.tables e below (s₁.setTop (mkF m 0 #[.val (.ref a1), .val (.ref a2), .val (.ref a3), .val (.ref a4), .val (.ref a5)] [])) t → Steps p.tables e below (s₁.setTop (entryFrame m #[(.ref a1), (.ref a2), (.ref a3), (.ref a4), (.ref a5)] 5)) t := fun t k => castTop (ef_15 m a1 a2 a3 a4 a5) k
  obtain ⟨T33, X33, e33, st33⟩ := initO X0 hx hZ hown (hw _ (List.mem_of_getElem? (i := 88) rfl)) (hw _ (List.mem_of_getElem? (i := 12) rfl)) (hw _ (List.mem_of_getElem? (i := 13) rfl)) e0 (g := (mkF m 1 #[.val (.ref a1), .val (.ref a2), .val (.ref a3), .val (.ref a4), .val (.ref a5)] [(.ref a1)])) rfl (by rw [hml]; rfl) rfl (hb hby d15_1) (by decide) (W := 0) (by show 2 * 0 + _ ≤ _; exact Nat.le_of_eq rfl) (by decide)
  obtain ⟨T34, h34, X34, e34, W34, st34⟩ := putF X33 hx hZ hown (host := "") (Or.inl (hw _ (List.mem_of_getElem? (i := 89) rfl))) Via.refl e33 F_request E_a1 (Or.inr ⟨(hw _ (List.mem_of_getElem? (i := 90) rfl)), rfl, hnm⟩) (hw _ (List.mem_of_getElem? (i := 79) rfl)) (ty := (.object "com/example/sanction/sanction/model/RequestEvent")) (by decide) rfl rfl (g := (mkF m 6 #[.val (.ref a1), .val (.ref a2), .val (.ref a3), .val (.ref a4), .val (.ref a5)] [(.ref a2), (.ref a1)])) rfl rfl (hb hby d15_6)
  have Fw34 : Fld Z h34 a1 "com/example/sanction/sanction/model/Decision" "request" "Lcom/example/sanction/sanction/model/RequestEvent;" (.ref a2) := F_request.same W34
  have N34 := Fr.snoc X34 N0 g_a1
  have Kh34 : Keep h0 h34 [a1] := (Keep.refl h0 [a1]).wr W34 (Or.inl (List.mem_of_getElem? (i := 0) rfl))
  obtain ⟨T35, h35, X35, e35, W35, st35⟩ := putF X34 hx hZ hown (host := "") (Or.inl (hw _ (List.mem_of_getElem? (i := 91) rfl))) Via.refl e34 (F_verdict.other W34 (Or.inr (slot_ne (Or.inr (hw _ (List.mem_of_getElem? (i := 92) rfl))) (Or.inr (hw _ (List.mem_of_getElem? (i := 90) rfl))) (by decide) (t := (.object "com/example/sanction/sanction/model/Verdict")) (t' := (.object "com/example/sanction/sanction/model/RequestEvent")) (by decide) (by decide)))) (E_a1.wr W34) (Or.inr ⟨(hw _ (List.mem_of_getElem? (i := 92) rfl)), rfl, hnm⟩) (hw _ (List.mem_of_getElem? (i := 79) rfl)) (ty := (.object "com/example/sanction/sanction/model/Verdict")) (by decide) rfl rfl (g := (mkF m 11 #[.val (.ref a1), .val (.ref a2), .val (.ref a3), .val (.ref a4), .val (.ref a5)] [(.ref a3), (.ref a1)])) rfl rfl (hb hby d15_11)
  have Fw35 : Fld Z h35 a1 "com/example/sanction/sanction/model/Decision" "verdict" "Lcom/example/sanction/sanction/model/Verdict;" (.ref a3) := (F_verdict.other W34 (Or.inr (slot_ne (Or.inr (hw _ (List.mem_of_getElem? (i := 92) rfl))) (Or.inr (hw _ (List.mem_of_getElem? (i := 90) rfl))) (by decide) (t := (.object "com/example/sanction/sanction/model/Verdict")) (t' := (.object "com/example/sanction/sanction/model/RequestEvent")) (by decide) (by decide)))).same W35
  have N35 := Fr.snoc X35 N34 g_a1
  have Kh35 : Keep h0 h35 [a1] := Kh34.wr W35 (Or.inl (List.mem_of_getElem? (i := 0) rfl))
  have f36 := ((F_reason.other W34 (Or.inr (slot_ne (Or.inr (hw _ (List.mem_of_getElem? (i := 94) rfl))) (Or.inr (hw _ (List.mem_of_getElem? (i := 90) rfl))) (by decide) (t := (.object "com/example/sanction/sanction/model/Reason")) (t' := (.object "com/example/sanction/sanction/model/RequestEvent")) (by decide) (by decide)))).other W35 (Or.inr (slot_ne (Or.inr (hw _ (List.mem_of_getElem? (i := 94) rfl))) (Or.inr (hw _ (List.mem_of_getElem? (i := 92) rfl))) (by decide) (t := (.object "com/example/sanction/sanction/model/Reason")) (t' := (.object "com/example/sanction/sanction/model/Verdict")) (by decide) (by decide))))
  have f37 := ((E_a1.wr W34).wr W35)
  obtain ⟨T38, h38, X38, e38, W38, st38⟩ := putF X35 hx hZ hown (host := "") (Or.inl (hw _ (List.mem_of_getElem? (i := 93) rfl))) Via.refl e35 f36 f37 (Or.inr ⟨(hw _ (List.mem_of_getElem? (i := 94) rfl)), rfl, hnm⟩) (hw _ (List.mem_of_getElem? (i := 79) rfl)) (ty := (.object "com/example/sanction/sanction/model/Reason")) (by decide) rfl rfl (g := (mkF m 16 #[.val (.ref a1), .val (.ref a2), .val (.ref a3), .val (.ref a4), .val (.ref a5)] [(.ref a4), (.ref a1)])) rfl rfl (hb hby d15_16)
  have Fw38 : Fld Z h38 a1 "com/example/sanction/sanction/model/Decision" "reason" "Lcom/example/sanction/sanction/model/Reason;" (.ref a4) := f36.same W38
  have N38 := Fr.snoc X38 N35 g_a1
  have Kh38 : Keep h0 h38 [a1] := Kh35.wr W38 (Or.inl (List.mem_of_getElem? (i := 0) rfl))
  have f40 := (((V_5.other W34 ne1).other W35 ne1).other W38 ne1)
  have f41 := (((E_5.wr W34).wr W35).wr W38)
  obtain ⟨T39, h39, X39, e39, E39, Vc39, A39, st39⟩ := cloneH X38 hx hZ hown (hw _ (List.mem_of_getElem? (i := 95) rfl)) (hw _ (List.mem_of_getElem? (i := 96) rfl)) (hw _ (List.mem_of_getElem? (i := 100) rfl)) (hw _ (List.mem_of_getElem? (i := 98) rfl)) (hw _ (List.mem_of_getElem? (i := 99) rfl)) (hw _ (List.mem_of_getElem? (i := 101) rfl)) e38 (f40).arh f41 (g := (mkF m 22 #[.val (.ref a1), .val (.ref a2), .val (.ref a3), .val (.ref a4), .val (.ref a5)] [(.ref a5), (.ref a1)])) rfl (by rw [hml]; rfl) rfl (hb hby d15_22) (by decide) (W := 1) (cap := 0) (by show 2 * 0 + _ ≤ _; exact Nat.le_of_eq rfl) (by decide) (by decide) (by decide) (by decide)
  obtain ⟨b39, g39⟩ : ∃ z, z = h38.size := ⟨_, rfl⟩
  rw [← g39] at Vc39 A39 st39
  have g_b39 : n0 ≤ b39 := Nat.le_trans (Nat.le_trans Z0 Kh38.1) (Nat.le_of_eq g39.symm)
  have sz_b39 : h0.size ≤ b39 := Nat.le_trans Kh38.1 (Nat.le_of_eq g39.symm)
  have ne_a1_b39 : a1 ≠ b39 := Nat.ne_of_lt (Nat.lt_of_lt_of_le (f37.wr W38).lt (Nat.le_of_eq g39.symm))
  have ne_a5_b39 : a5 ≠ b39 := Nat.ne_of_lt (Nat.lt_of_lt_of_le f41.lt (Nat.le_of_eq g39.symm))
  have Kh39 : Keep h0 h39 [a1] := Kh38.ext E39
  have V_b39 : Arv Z h39 b39 kp .int (0 : Int32) [] (.int (0 : Int32)) := Vc39
  obtain ⟨T42, X42, e42, st42⟩ := castY X39 hx hZ hown (hw _ (List.mem_of_getElem? (i := 102) rfl)) e39 (Ins.self A39) (g := (mkF m 25 #[.val (.ref a1), .val (.ref a2), .val (.ref a3), .val (.ref a4), .val (.ref a5)] [(.ref b39), (.ref a1)])) rfl rfl (hb hby d15_25)
  have f43 := ((((F_path.other W34 (Or.inr (slot_ne (Or.inr (hw _ (List.mem_of_getElem? (i := 105) rfl))) (Or.inr (hw _ (List.mem_of_getElem? (i := 90) rfl))) (by decide) (t := (.array .int)) (t' := (.object "com/example/sanction/sanction/model/RequestEvent")) (by decide) (by decide)))).other W35 (Or.inr (slot_ne (Or.inr (hw _ (List.mem_of_getElem? (i := 105) rfl))) (Or.inr (hw _ (List.mem_of_getElem? (i := 92) rfl))) (by decide) (t := (.array .int)) (t' := (.object "com/example/sanction/sanction/model/Verdict")) (by decide) (by decide)))).other W38 (Or.inr (slot_ne (Or.inr (hw _ (List.mem_of_getElem? (i := 105) rfl))) (Or.inr (hw _ (List.mem_of_getElem? (i := 94) rfl))) (by decide) (t := (.array .int)) (t' := (.object "com/example/sanction/sanction/model/Reason")) (by decide) (by decide)))).ext E39)
  have f44 := ((f37.wr W38).ext E39)
  obtain ⟨T45, h45, X45, e45, W45, st45⟩ := putF X42 hx hZ hown (host := "") (Or.inl (hw _ (List.mem_of_getElem? (i := 104) rfl))) Via.refl e42 f43 f44 (Or.inr ⟨(hw _ (List.mem_of_getElem? (i := 105) rfl)), rfl, hnm⟩) (hw _ (List.mem_of_getElem? (i := 79) rfl)) (ty := (.array .int)) (by decide) rfl rfl (g := (mkF m 28 #[.val (.ref a1), .val (.ref a2), .val (.ref a3), .val (.ref a4), .val (.ref a5)] [(.ref b39), (.ref a1)])) rfl rfl (hb hby d15_28)
  have Fw45 : Fld Z h45 a1 "com/example/sanction/sanction/model/Decision" "path" "[I" (.ref b39) := f43.same W45
  have N45 := Fr.snoc X45 N38 g_a1
  have Kh45 : Keep h0 h45 [a1] := Kh39.wr W45 (Or.inl (List.mem_of_getElem? (i := 0) rfl))
  have f46 := ((((Fw34.other W35 (Or.inr (slot_ne (Or.inr (hw _ (List.mem_of_getElem? (i := 90) rfl))) (Or.inr (hw _ (List.mem_of_getElem? (i := 92) rfl))) (by decide) (t := (.object "com/example/sanction/sanction/model/RequestEvent")) (t' := (.object "com/example/sanction/sanction/model/Verdict")) (by decide) (by decide)))).other W38 (Or.inr (slot_ne (Or.inr (hw _ (List.mem_of_getElem? (i := 90) rfl))) (Or.inr (hw _ (List.mem_of_getElem? (i := 94) rfl))) (by decide) (t := (.object "com/example/sanction/sanction/model/RequestEvent")) (t' := (.object "com/example/sanction/sanction/model/Reason")) (by decide) (by decide)))).ext E39).other W45 (Or.inr (slot_ne (Or.inr (hw _ (List.mem_of_getElem? (i := 90) rfl))) (Or.inr (hw _ (List.mem_of_getElem? (i := 105) rfl))) (by decide) (t := (.object "com/example/sanction/sanction/model/RequestEvent")) (t' := (.array .int)) (by decide) (by decide))))
  have f47 := (((Fw35.other W38 (Or.inr (slot_ne (Or.inr (hw _ (List.mem_of_getElem? (i := 92) rfl))) (Or.inr (hw _ (List.mem_of_getElem? (i := 94) rfl))) (by decide) (t := (.object "com/example/sanction/sanction/model/Verdict")) (t' := (.object "com/example/sanction/sanction/model/Reason")) (by decide) (by decide)))).ext E39).other W45 (Or.inr (slot_ne (Or.inr (hw _ (List.mem_of_getElem? (i := 92) rfl))) (Or.inr (hw _ (List.mem_of_getElem? (i := 105) rfl))) (by decide) (t := (.object "com/example/sanction/sanction/model/Verdict")) (t' := (.array .int)) (by decide) (by decide))))
  have f48 := ((Fw38.ext E39).other W45 (Or.inr (slot_ne (Or.inr (hw _ (List.mem_of_getElem? (i := 94) rfl))) (Or.inr (hw _ (List.mem_of_getElem? (i := 105) rfl))) (by decide) (t := (.object "com/example/sanction/sanction/model/Reason")) (t' := (.array .int)) (by decide) (by decide))))
  obtain ⟨fs, hr, hrun, hended, hW, hsame⟩ := X45.leave (v := none) (fun _ => rfl)
  refine ⟨_, _, pre0 _ ?_, hrun, hended, _, _, rfl, ?_, ⟨_, rfl⟩, hW, hsame.mono (by decide) (by decide)⟩
  · show Steps p.tables e below (s₁.setTop (mkF m 0 #[.val (.ref a1), .val (.ref a2), .val (.ref a3), .val (.ref a4), .val (.ref a5)] [])) _
    refine XS.aloadN X0.here hx rfl (hb hby d15_0) rfl rfl ?_
    show Steps p.tables e below (s₁.setTop (mkF m 1 #[.val (.ref a1), .val (.ref a2), .val (.ref a3), .val (.ref a4), .val (.ref a5)] [(.ref a1)])) _
    refine st33 _ ?_
    show Steps p.tables e below (T33.setTop (mkF m 4 #[.val (.ref a1), .val (.ref a2), .val (.ref a3), .val (.ref a4), .val (.ref a5)] [])) _
    refine XS.aloadN X33.here hx rfl (hb hby d15_4) rfl rfl ?_
    show Steps p.tables e below (T33.setTop (mkF m 5 #[.val (.ref a1), .val (.ref a2), .val (.ref a3), .val (.ref a4), .val (.ref a5)] [(.ref a1)])) _
    refine XS.aloadN X33.here hx rfl (hb hby d15_5) rfl rfl ?_
    show Steps p.tables e below (T33.setTop (mkF m 6 #[.val (.ref a1), .val (.ref a2), .val (.ref a3), .val (.ref a4), .val (.ref a5)] [(.ref a2), (.ref a1)])) _
    refine st34 _ ?_
    show Steps p.tables e below (T34.setTop (mkF m 9 #[.val (.ref a1), .val (.ref a2), .val (.ref a3), .val (.ref a4), .val (.ref a5)] [])) _
    refine XS.aloadN X34.here hx rfl (hb hby d15_9) rfl rfl ?_
    show Steps p.tables e below (T34.setTop (mkF m 10 #[.val (.ref a1), .val (.ref a2), .val (.ref a3), .val (.ref a4), .val (.ref a5)] [(.ref a1)])) _
    refine XS.aloadN X34.here hx rfl (hb hby d15_10) rfl rfl ?_
    show Steps p.tables e below (T34.setTop (mkF m 11 #[.val (.ref a1), .val (.ref a2), .val (.ref a3), .val (.ref a4), .val (.ref a5)] [(.ref a3), (.ref a1)])) _
    refine st35 _ ?_
    show Steps p.tables e below (T35.setTop (mkF m 14 #[.val (.ref a1), .val (.ref a2), .val (.ref a3), .val (.ref a4), .val (.ref a5)] [])) _
    refine XS.aloadN X35.here hx rfl (hb hby d15_14) rfl rfl ?_
    show Steps p.tables e below (T35.setTop (mkF m 15 #[.val (.ref a1), .val (.ref a2), .val (.ref a3), .val (.ref a4), .val (.ref a5)] [(.ref a1)])) _
    refine XS.aloadN X35.here hx rfl (hb hby d15_15) rfl rfl ?_
    show Steps p.tables e below (T35.setTop (mkF m 16 #[.val (.ref a1), .val (.ref a2), .val (.ref a3), .val (.ref a4), .val (.ref a5)] [(.ref a4), (.ref a1)])) _
    refine st38 _ ?_
    show Steps p.tables e below (T38.setTop (mkF m 19 #[.val (.ref a1), .val (.ref a2), .val (.ref a3), .val (.ref a4), .val (.ref a5)] [])) _
    refine XS.aloadN X38.here hx rfl (hb hby d15_19) rfl rfl ?_
    show Steps p.tables e below (T38.setTop (mkF m 20 #[.val (.ref a1), .val (.ref a2), .val (.ref a3), .val (.ref a4), .val (.ref a5)] [(.ref a1)])) _
    refine XS.aload X38.here hx rfl (hb hby d15_20) rfl rfl ?_
    show Steps p.tables e below (T38.setTop (mkF m 22 #[.val (.ref a1), .val (.ref a2), .val (.ref a3), .val (.ref a4), .val (.ref a5)] [(.ref a5), (.ref a1)])) _
    refine st39 _ ?_
    show Steps p.tables e below (T39.setTop (mkF m 25 #[.val (.ref a1), .val (.ref a2), .val (.ref a3), .val (.ref a4), .val (.ref a5)] [(.ref b39), (.ref a1)])) _
    refine st42 _ ?_
    show Steps p.tables e below (T42.setTop (mkF m 28 #[.val (.ref a1), .val (.ref a2), .val (.ref a3), .val (.ref a4), .val (.ref a5)] [(.ref b39), (.ref a1)])) _
    refine st45 _ ?_
    show Steps p.tables e below (T45.setTop (mkF m 31 #[.val (.ref a1), .val (.ref a2), .val (.ref a3), .val (.ref a4), .val (.ref a5)] [])) _
    exact X45.returnOut hx Bd.returns (hb hby d15_31) hr
  · show Q_15 Z a1 a2 a3 a4 a5 kp h0 n0 _ T45.heap _
    rw [e45]
    exact ⟨rfl, N45, Kh45, (f44.wr W45), f46, f47, f48, b39, g_b39, sz_b39, Fw45, (V_b39.other W45 (Ne.symm ne_a1_b39)), (A39.wr W45)⟩
theorem d14_0 : decode prog_9_method_4_code 0 = .ok (.new 8, 3) := by decide +kernel
theorem d14_3 : decode prog_9_method_4_code 3 = .ok (.dup, 1) := by decide +kernel
theorem d14_4 : decode prog_9_method_4_code 4 = .ok (.aload_n 0, 1) := by decide +kernel
theorem d14_5 : decode prog_9_method_4_code 5 = .ok (.getstatic 41, 3) := by decide +kernel
theorem d14_8 : decode prog_9_method_4_code 8 = .ok (.aload_n 1, 1) := by decide +kernel
theorem d14_9 : decode prog_9_method_4_code 9 = .ok (.getstatic 44, 3) := by decide +kernel
theorem d14_12 : decode prog_9_method_4_code 12 = .ok (.invokespecial 35, 3) := by decide +kernel
theorem d14_15 : decode prog_9_method_4_code 15 = .ok (.areturn, 1) := by decide +kernel
theorem pd__28Lcom_2fexample_2fsanction_2fsanction_2fmodel_2fRequestEvent_3bLcom_2fexample_2fsanction_2fsanction_2fmodel_2fVerdict_3bLcom_2fexample_2fsanction_2fsanction_2fmodel_2fReason_3b_5bI_29V : parseMethodDescriptor "(Lcom/example/sanction/sanction/model/RequestEvent;Lcom/example/sanction/sanction/model/Verdict;Lcom/example/sanction/sanction/model/Reason;[I)V" = some ⟨[(.object "com/example/sanction/sanction/model/RequestEvent"), (.object "com/example/sanction/sanction/model/Verdict"), (.object "com/example/sanction/sanction/model/Reason"), (.array .int)], none⟩ := by decide +kernel
theorem pn_14 : plainName "com/example/sanction/sanction/model/Decision" = true := by first | (simp [plainName, overriddenIn]; done) | decide +kernel
theorem ef_14 (m : MethodId) (x0 : Addr) (x1 : Addr) : entryFrame m #[(.ref x0), (.ref x1)] 2 = mkF m 0 #[.val (.ref x0), .val (.ref x1)] [] := by first | (simp [entryFrame, mkF, argsToLocals, Value.category]; done) | rfl
def Q_14 (Z : State) (a1 : Addr) (a2 : Addr) (aD : Addr) (kp : ClassId) (h0 : Heap) (n0 : Nat) (v : Option Value) (h : Heap) (L : List Loc) : Prop := v = some (.ref h0.size) ∧ Fr n0 L ∧ Keep h0 h [] ∧ Exa Z h h0.size "com/example/sanction/sanction/model/Decision" ∧ Fld Z h h0.size "com/example/sanction/sanction/model/Decision" "request" "Lcom/example/sanction/sanction/model/RequestEvent;" (.ref a1) ∧ Fld Z h h0.size "com/example/sanction/sanction/model/Decision" "verdict" "Lcom/example/sanction/sanction/model/Verdict;" (.ref aD) ∧ Fld Z h h0.size "com/example/sanction/sanction/model/Decision" "reason" "Lcom/example/sanction/sanction/model/Reason;" (.ref a2) ∧ ∃ pb : Addr, n0 ≤ pb ∧ h0.size ≤ pb ∧ Fld Z h h0.size "com/example/sanction/sanction/model/Decision" "path" "[I" (.ref pb) ∧ Arv Z h pb kp .int (0 : Int32) [] (.int (0 : Int32)) ∧ Exa Z h pb "[I"
set_option maxRecDepth 65536 in
set_option maxHeartbeats 40000000 in
theorem rm_14 (l : Launch) (Z : State) (a0 : Array Value) (hw : ∀ d ∈ tables_1, d.before a0 Z = true) (ws : List Jvm.Cond) (a1 : Addr) (a2 : Addr) (aD : Addr) (kp : ClassId) (aP : Addr) (h0 : Heap) (n0 : Nat) (Z0 : n0 ≤ h0.size) (S_DENY : Sta Z h0 "com/example/sanction/sanction/model/Verdict" "DENY" "Lcom/example/sanction/sanction/model/Verdict;" (.ref aD)) (S_NO_PATH : Sta Z h0 "com/example/sanction/sanction/model/Decision" "NO_PATH" "[I" (.ref aP)) (V_P : Arv Z h0 aP kp .int (0 : Int32) [] (.int (0 : Int32))) (E_P : Exa Z h0 aP "[I") :
    MetFree l (⟨"com/example/sanction/sanction/model/Decision", "deny", "(Lcom/example/sanction/sanction/model/RequestEvent;Lcom/example/sanction/sanction/model/Reason;)Lcom/example/sanction/sanction/model/Decision;"⟩ : MethodName) (head1 (Jvm.Cond.code (⟨"com/example/sanction/sanction/model/Decision", "deny", "(Lcom/example/sanction/sanction/model/RequestEvent;Lcom/example/sanction/sanction/model/Reason;)Lcom/example/sanction/sanction/model/Decision;"⟩ : MethodName) prog_9_method_4_code 2 (some (.object "com/example/sanction/sanction/model/Decision")) :: ws) ({ frames := 2, cells := 2, slots := 4, locals := 32 } : Room)) (fun a U => a = #[(.ref a1), (.ref a2)] ∧ Z.Warmed39 U.vm ∧ U.heap = h0) (fun _ _ _ _ _ => True) (fun _ U o U' => ∃ v L, o = .returned v ∧ Q_14 Z a1 a2 aD kp h0 n0 v U'.heap L ∧ FrameEnd U o U' L ({ frames := 2, cells := 2, slots := 4, locals := 32 } : Room).cells ({ frames := 2, cells := 2, slots := 4, locals := 32 } : Room).slots) := by
  refine MetFree.of_bodySF (plainFor_of_name pn_14) hisR ?_
  intro p e s m args below meth cod_ s₁ Bd hml0 hP hK
  obtain ⟨rfl, hZ, hh⟩ := hP
  have hx := Bd.exec
  have hby := Bd.bytes
  have hml : cod_.maxLocals = 2 := hml0
  have hown : s.vm.findClass "com/example/sanction/sanction/model/Decision" = some m.cls := findClass_of_methodNamed Bd.named
  have hnm := (name_of_methodNamed Bd.named Bd.method).1
  have X0 : Stand p l e ({ frames := 2, cells := 2, slots := 4, locals := 32 } : Room) s m #[(.ref a1), (.ref a2)] below meth cod_ s₁ [] 0 0 := Stand.of_body Bd
  have e0 : s₁.heap = h0 := by rw [← hh, Bd.state]; rfl
  have N0 := Fr.nil n0
  have pre0 : ∀ t, Steps p.tables e below (s₁.setTop (mkF m 0 #[.val (.ref a1), .val (.ref a2)] [])) t → Steps p.tables e below (s₁.setTop (entryFrame m #[(.ref a1), (.ref a2)] 2)) t := fun t k => castTop (ef_14 m a1 a2) k
  obtain ⟨T49, h49, X49, e49, E49, A49, D49, -, st49⟩ := newO X0 hx hZ hown (hw _ (List.mem_of_getElem? (i := 78) rfl)) (hw _ (List.mem_of_getElem? (i := 79) rfl)) (hw _ (List.mem_of_getElem? (i := 76) rfl)) e0 (g := (mkF m 0 #[.val (.ref a1), .val (.ref a2)] [])) rfl (hb hby d14_0) (by decide) (by decide)
  obtain ⟨b49, g49⟩ : ∃ z, z = h0.size := ⟨_, rfl⟩
  rw [← g49] at A49 D49 st49
  have g_b49 : n0 ≤ b49 := Nat.le_trans (Nat.le_trans Z0 (Keep.refl h0 []).1) (Nat.le_of_eq g49.symm)
  have sz_b49 : h0.size ≤ b49 := Nat.le_trans (Keep.refl h0 []).1 (Nat.le_of_eq g49.symm)
  have ne_aP_b49 : aP ≠ b49 := Nat.ne_of_lt (Nat.lt_of_lt_of_le V_P.lt (Nat.le_of_eq g49.symm))
  have Kh49 : Keep h0 h49 [] := (Keep.refl h0 []).ext E49
  have F_request_b49 : Fld Z h49 b49 "com/example/sanction/sanction/model/Decision" "request" "Lcom/example/sanction/sanction/model/RequestEvent;" .null := D49 (Or.inr (hw _ (List.mem_of_getElem? (i := 90) rfl))) (ty := (.object "com/example/sanction/sanction/model/RequestEvent")) (by decide)
  have F_verdict_b49 : Fld Z h49 b49 "com/example/sanction/sanction/model/Decision" "verdict" "Lcom/example/sanction/sanction/model/Verdict;" .null := D49 (Or.inr (hw _ (List.mem_of_getElem? (i := 92) rfl))) (ty := (.object "com/example/sanction/sanction/model/Verdict")) (by decide)
  have F_reason_b49 : Fld Z h49 b49 "com/example/sanction/sanction/model/Decision" "reason" "Lcom/example/sanction/sanction/model/Reason;" .null := D49 (Or.inr (hw _ (List.mem_of_getElem? (i := 94) rfl))) (ty := (.object "com/example/sanction/sanction/model/Reason")) (by decide)
  have F_path_b49 : Fld Z h49 b49 "com/example/sanction/sanction/model/Decision" "path" "[I" .null := D49 (Or.inr (hw _ (List.mem_of_getElem? (i := 105) rfl))) (ty := (.array .int)) (by decide)
  obtain ⟨T50, X50, e50, st50⟩ := getS2 X49 hx hZ hown (host := "") (Or.inl (hw _ (List.mem_of_getElem? (i := 80) rfl))) Via.refl e49 (S_DENY.ext E49) (g := (mkF m 5 #[.val (.ref a1), .val (.ref a2)] [(.ref a1), (.ref b49), (.ref b49)])) rfl (hb hby d14_5)
  obtain ⟨T51, X51, e51, st51⟩ := getS2 X50 hx hZ hown (host := "") (Or.inl (hw _ (List.mem_of_getElem? (i := 83) rfl))) Via.refl e50 (S_NO_PATH.ext E49) (g := (mkF m 9 #[.val (.ref a1), .val (.ref a2)] [(.ref a2), (.ref aD), (.ref a1), (.ref b49), (.ref b49)])) rfl (hb hby d14_9)
  obtain ⟨_, _, ⟨T52, L52, c52_, n52_⟩, -, X52, ⟨Lc52, hQ52, l52, y52, z52⟩, st52⟩ := X51.specialBack hx (y := (⟨"com/example/sanction/sanction/model/Decision", "<init>", "(Lcom/example/sanction/sanction/model/RequestEvent;Lcom/example/sanction/sanction/model/Verdict;Lcom/example/sanction/sanction/model/Reason;[I)V"⟩ : MethodName)) rfl hown (mvT hZ (hw _ (List.mem_of_getElem? (i := 85) rfl))) (mvT hZ (hw _ (List.mem_of_getElem? (i := 86) rfl))) (mvT hZ (hw _ (List.mem_of_getElem? (i := 87) rfl))) (by decide) (backOf (W := 1) (rm_15 l Z a0 hw [] b49 a1 aD a2 aP kp h49 n0 (Nat.le_trans Z0 Kh49.1) A49 g_b49 ne_aP_b49 F_request_b49 F_verdict_b49 F_reason_b49 F_path_b49 (V_P.ext E49) (E_P.ext E49)) hZ (hw _ (List.mem_of_getElem? (i := 87) rfl)) (hw _ (List.mem_of_getElem? (i := 76) rfl)) (by decide) (by decide)) (g := (mkF m 12 #[.val (.ref a1), .val (.ref a2)] [(.ref aP), (.ref a2), (.ref aD), (.ref a1), (.ref b49), (.ref b49)])) rfl (by rw [hml]; rfl) (Steps.refl _) (a := b49) (argsL := [(.ref a1), (.ref aD), (.ref a2), (.ref aP)]) (rest := [(.ref b49)]) (lenOf pd__28Lcom_2fexample_2fsanction_2fsanction_2fmodel_2fRequestEvent_3bLcom_2fexample_2fsanction_2fsanction_2fmodel_2fVerdict_3bLcom_2fexample_2fsanction_2fsanction_2fmodel_2fReason_3b_5bI_29V rfl) rfl (by show 2 * 0 + _ ≤ _; exact Nat.le_of_eq rfl) (hb hby d14_12) (fun _ _ => ⟨rfl, e51, (by decide : 1 + 1 ≤ _), (by decide : 4 + 0 ≤ _)⟩)
  dsimp only [Pt.U, Pt.locs, Pt.cells, Pt.slots] at X52 l52 y52 z52 st52 hQ52
  subst l52 y52 z52
  obtain ⟨rfl, Nq52, K52, Ee52, Fq52, Fv52, Fs52, pb52, gp52, zp52, Fp52, Vp52, Ep52⟩ := hQ52
  have N52 := Fr.app N0 Nq52
  have Kh52 : Keep h0 T52.heap [] := Kh49.trans K52 (allS (Or.inr sz_b49) all0)
  have g_pb52 := gp52
  have sz_pb52 := Nat.le_trans Kh49.1 zp52
  obtain ⟨fs, hr, hrun, hended, hW, hsame⟩ := X52.leave (v := some (.ref b49)) (fun h => by rw [Bd.returns] at h; cases h)
  refine ⟨_, _, pre0 _ ?_, hrun, hended, _, _, rfl, ?_, ⟨_, rfl⟩, hW, hsame.mono (by decide) (by decide)⟩
  · show Steps p.tables e below (s₁.setTop (mkF m 0 #[.val (.ref a1), .val (.ref a2)] [])) _
    refine st49 _ ?_
    show Steps p.tables e below (T49.setTop (mkF m 3 #[.val (.ref a1), .val (.ref a2)] [(.ref b49)])) _
    refine XS.dup X49.here hx rfl (hb hby d14_3) rfl rfl ?_
    show Steps p.tables e below (T49.setTop (mkF m 4 #[.val (.ref a1), .val (.ref a2)] [(.ref b49), (.ref b49)])) _
    refine XS.aloadN X49.here hx rfl (hb hby d14_4) rfl rfl ?_
    show Steps p.tables e below (T49.setTop (mkF m 5 #[.val (.ref a1), .val (.ref a2)] [(.ref a1), (.ref b49), (.ref b49)])) _
    refine st50 _ ?_
    show Steps p.tables e below (T50.setTop (mkF m 8 #[.val (.ref a1), .val (.ref a2)] [(.ref aD), (.ref a1), (.ref b49), (.ref b49)])) _
    refine XS.aloadN X50.here hx rfl (hb hby d14_8) rfl rfl ?_
    show Steps p.tables e below (T50.setTop (mkF m 9 #[.val (.ref a1), .val (.ref a2)] [(.ref a2), (.ref aD), (.ref a1), (.ref b49), (.ref b49)])) _
    refine st51 _ ?_
    show Steps p.tables e below (T51.setTop (mkF m 12 #[.val (.ref a1), .val (.ref a2)] [(.ref aP), (.ref a2), (.ref aD), (.ref a1), (.ref b49), (.ref b49)])) _
    refine st52.trans ?_
    show Steps p.tables e below (T52.setTop (mkF m 15 #[.val (.ref a1), .val (.ref a2)] [(.ref b49)])) _
    jvm_step X52.here [X52.here.top, hx, (hb hby d14_15), X52.method', Bd.returns, Value.isRef, FieldType.isReference]
    first | (intro acts; rw [hr _ acts rfl rfl rfl]) | rw [hr _ _ rfl rfl rfl]
    exact Steps.refl _
  · show Q_14 Z a1 a2 aD kp h0 n0 _ T52.heap _
    subst g49
    exact ⟨rfl, N52, Kh52, Ee52, Fq52, Fv52, Fs52, pb52, g_pb52, sz_pb52, Fp52, Vp52, Ep52⟩
theorem d16_0 : decode prog_9_method_8_code 0 = .ok (.aload_n 0, 1) := by decide +kernel
theorem d16_1 : decode prog_9_method_8_code 1 = .ok (.getfield 27, 3) := by decide +kernel
theorem d16_4 : decode prog_9_method_8_code 4 = .ok (.invokevirtual 21, 3) := by decide +kernel
theorem d16_7 : decode prog_9_method_8_code 7 = .ok (.checkcast 22, 3) := by decide +kernel
theorem d16_10 : decode prog_9_method_8_code 10 = .ok (.areturn, 1) := by decide +kernel
theorem pn_16 : plainName "com/example/sanction/sanction/model/Decision" = true := by first | (simp [plainName, overriddenIn]; done) | decide +kernel
theorem ef_16 (m : MethodId) (x0 : Addr) : entryFrame m #[(.ref x0)] 1 = mkF m 0 #[.val (.ref x0)] [] := by first | (simp [entryFrame, mkF, argsToLocals, Value.category]; done) | rfl
def Q_16 (Z : State) (a1 : Addr) (kp : ClassId) (h0 : Heap) (n0 : Nat) (v : Option Value) (h : Heap) (L : List Loc) : Prop := v = some (.ref h0.size) ∧ Fr n0 L ∧ Keep h0 h [] ∧ Arv Z h h0.size kp .int (0 : Int32) [] (.int (0 : Int32))
set_option maxRecDepth 65536 in
set_option maxHeartbeats 40000000 in
theorem rm_16 (l : Launch) (Z : State) (a0 : Array Value) (hw : ∀ d ∈ tables_1, d.before a0 Z = true) (ws : List Jvm.Cond) (a1 : Addr) (kp : ClassId) (pb : Addr) (h0 : Heap) (n0 : Nat) (Z0 : n0 ≤ h0.size) (F_p : Fld Z h0 a1 "com/example/sanction/sanction/model/Decision" "path" "[I" (.ref pb)) (V_p : Arv Z h0 pb kp .int (0 : Int32) [] (.int (0 : Int32))) (E_p : Exa Z h0 pb "[I") :
    MetFree l (⟨"com/example/sanction/sanction/model/Decision", "getPath", "()[I"⟩ : MethodName) (head1 (Jvm.Cond.code (⟨"com/example/sanction/sanction/model/Decision", "getPath", "()[I"⟩ : MethodName) prog_9_method_8_code 1 (some (.array .int)) :: ws) ({ frames := 1, cells := 1, slots := 0, locals := 14 } : Room)) (fun a U => a = #[(.ref a1)] ∧ Z.Warmed39 U.vm ∧ U.heap = h0) (fun _ _ _ _ _ => True) (fun _ U o U' => ∃ v L, o = .returned v ∧ Q_16 Z a1 kp h0 n0 v U'.heap L ∧ FrameEnd U o U' L ({ frames := 1, cells := 1, slots := 0, locals := 14 } : Room).cells ({ frames := 1, cells := 1, slots := 0, locals := 14 } : Room).slots) := by
  refine MetFree.of_bodySF (plainFor_of_name pn_16) hisR ?_
  intro p e s m args below meth cod_ s₁ Bd hml0 hP hK
  obtain ⟨rfl, hZ, hh⟩ := hP
  have hx := Bd.exec
  have hby := Bd.bytes
  have hml : cod_.maxLocals = 1 := hml0
  have hown : s.vm.findClass "com/example/sanction/sanction/model/Decision" = some m.cls := findClass_of_methodNamed Bd.named
  have hnm := (name_of_methodNamed Bd.named Bd.method).1
  have X0 : Stand p l e ({ frames := 1, cells := 1, slots := 0, locals := 14 } : Room) s m #[(.ref a1)] below meth cod_ s₁ [] 0 0 := Stand.of_body Bd
  have e0 : s₁.heap = h0 := by rw [← hh, Bd.state]; rfl
  have N0 := Fr.nil n0
  have pre0 : ∀ t, Steps p.tables e below (s₁.setTop (mkF m 0 #[.val (.ref a1)] [])) t → Steps p.tables e below (s₁.setTop (entryFrame m #[(.ref a1)] 1)) t := fun t k => castTop (ef_16 m a1) k
  obtain ⟨T53, X53, e53, st53⟩ := getF X0 hx hZ hown (host := "") (Or.inl (hw _ (List.mem_of_getElem? (i := 104) rfl))) Via.refl e0 F_p (g := (mkF m 1 #[.val (.ref a1)] [(.ref a1)])) rfl rfl (hb hby d16_1)
  obtain ⟨T54, h54, X54, e54, E54, Vc54, A54, st54⟩ := cloneH X53 hx hZ hown (hw _ (List.mem_of_getElem? (i := 95) rfl)) (hw _ (List.mem_of_getElem? (i := 96) rfl)) (hw _ (List.mem_of_getElem? (i := 100) rfl)) (hw _ (List.mem_of_getElem? (i := 98) rfl)) (hw _ (List.mem_of_getElem? (i := 99) rfl)) (hw _ (List.mem_of_getElem? (i := 101) rfl)) e53 (V_p).arh E_p (g := (mkF m 4 #[.val (.ref a1)] [(.ref pb)])) rfl (by rw [hml]; rfl) rfl (hb hby d16_4) (by decide) (W := 0) (cap := 0) (by show 2 * 0 + _ ≤ _; exact Nat.le_of_eq rfl) (by decide) (by decide) (by decide) (by decide)
  obtain ⟨b54, g54⟩ : ∃ z, z = h0.size := ⟨_, rfl⟩
  rw [← g54] at Vc54 A54 st54
  have g_b54 : n0 ≤ b54 := Nat.le_trans (Nat.le_trans Z0 (Keep.refl h0 []).1) (Nat.le_of_eq g54.symm)
  have sz_b54 : h0.size ≤ b54 := Nat.le_trans (Keep.refl h0 []).1 (Nat.le_of_eq g54.symm)
  have ne_a1_b54 : a1 ≠ b54 := Nat.ne_of_lt (Nat.lt_of_lt_of_le F_p.lt (Nat.le_of_eq g54.symm))
  have ne_pb_b54 : pb ≠ b54 := Nat.ne_of_lt (Nat.lt_of_lt_of_le V_p.lt (Nat.le_of_eq g54.symm))
  have Kh54 : Keep h0 h54 [] := (Keep.refl h0 []).ext E54
  have V_b54 : Arv Z h54 b54 kp .int (0 : Int32) [] (.int (0 : Int32)) := Vc54
  obtain ⟨T55, X55, e55, st55⟩ := castY X54 hx hZ hown (hw _ (List.mem_of_getElem? (i := 102) rfl)) e54 (Ins.self A54) (g := (mkF m 7 #[.val (.ref a1)] [(.ref b54)])) rfl rfl (hb hby d16_7)
  obtain ⟨fs, hr, hrun, hended, hW, hsame⟩ := X55.leave (v := some (.ref b54)) (fun h => by rw [Bd.returns] at h; cases h)
  refine ⟨_, _, pre0 _ ?_, hrun, hended, _, _, rfl, ?_, ⟨_, rfl⟩, hW, hsame.mono (by decide) (by decide)⟩
  · show Steps p.tables e below (s₁.setTop (mkF m 0 #[.val (.ref a1)] [])) _
    refine XS.aloadN X0.here hx rfl (hb hby d16_0) rfl rfl ?_
    show Steps p.tables e below (s₁.setTop (mkF m 1 #[.val (.ref a1)] [(.ref a1)])) _
    refine st53 _ ?_
    show Steps p.tables e below (T53.setTop (mkF m 4 #[.val (.ref a1)] [(.ref pb)])) _
    refine st54 _ ?_
    show Steps p.tables e below (T54.setTop (mkF m 7 #[.val (.ref a1)] [(.ref b54)])) _
    refine st55 _ ?_
    show Steps p.tables e below (T55.setTop (mkF m 10 #[.val (.ref a1)] [(.ref b54)])) _
    jvm_step X55.here [X55.here.top, hx, (hb hby d16_10), X55.method', Bd.returns, Value.isRef, FieldType.isReference]
    first | (intro acts; rw [hr _ acts rfl rfl rfl]) | rw [hr _ _ rfl rfl rfl]
    exact Steps.refl _
  · show Q_16 Z a1 kp h0 n0 _ T55.heap _
    rw [e55]
    subst g54
    exact ⟨rfl, N0, Kh54, V_b54⟩
theorem d17_0 : decode prog_9_method_5_code 0 = .ok (.aload_n 0, 1) := by decide +kernel
theorem d17_1 : decode prog_9_method_5_code 1 = .ok (.getfield 7, 3) := by decide +kernel
theorem d17_4 : decode prog_9_method_5_code 4 = .ok (.areturn, 1) := by decide +kernel
theorem pn_17 : plainName "com/example/sanction/sanction/model/Decision" = true := by first | (simp [plainName, overriddenIn]; done) | decide +kernel
theorem ef_17 (m : MethodId) (x0 : Addr) : entryFrame m #[(.ref x0)] 1 = mkF m 0 #[.val (.ref x0)] [] := by first | (simp [entryFrame, mkF, argsToLocals, Value.category]; done) | rfl
def Q_17 (Z : State) (a1 : Addr) (b : Addr) (h0 : Heap) (n0 : Nat) (v : Option Value) (h : Heap) (L : List Loc) : Prop := v = some (.ref b) ∧ Fr n0 L ∧ h = h0
set_option maxRecDepth 65536 in
set_option maxHeartbeats 40000000 in
theorem rm_17 (l : Launch) (Z : State) (a0 : Array Value) (hw : ∀ d ∈ tables_1, d.before a0 Z = true) (ws : List Jvm.Cond) (a1 : Addr) (b : Addr) (h0 : Heap) (n0 : Nat) (Z0 : n0 ≤ h0.size) (F_b : Fld Z h0 a1 "com/example/sanction/sanction/model/Decision" "request" "Lcom/example/sanction/sanction/model/RequestEvent;" (.ref b)) :
    MetFree l (⟨"com/example/sanction/sanction/model/Decision", "getRequest", "()Lcom/example/sanction/sanction/model/RequestEvent;"⟩ : MethodName) (head1 (Jvm.Cond.code (⟨"com/example/sanction/sanction/model/Decision", "getRequest", "()Lcom/example/sanction/sanction/model/RequestEvent;"⟩ : MethodName) prog_9_method_5_code 1 (some (.object "com/example/sanction/sanction/model/RequestEvent")) :: ws) ({ frames := 0, cells := 0, slots := 0, locals := 0 } : Room)) (fun a U => a = #[(.ref a1)] ∧ Z.Warmed39 U.vm ∧ U.heap = h0) (fun _ _ _ _ _ => True) (fun _ U o U' => ∃ v L, o = .returned v ∧ Q_17 Z a1 b h0 n0 v U'.heap L ∧ FrameEnd U o U' L ({ frames := 0, cells := 0, slots := 0, locals := 0 } : Room).cells ({ frames := 0, cells := 0, slots := 0, locals := 0 } : Room).slots) := by
  refine MetFree.of_bodySF (plainFor_of_name pn_17) hisR ?_
  intro p e s m args below meth cod_ s₁ Bd hml0 hP hK
  obtain ⟨rfl, hZ, hh⟩ := hP
  have hx := Bd.exec
  have hby := Bd.bytes
  have hml : cod_.maxLocals = 1 := hml0
  have hown : s.vm.findClass "com/example/sanction/sanction/model/Decision" = some m.cls := findClass_of_methodNamed Bd.named
  have hnm := (name_of_methodNamed Bd.named Bd.method).1
  have X0 : Stand p l e ({ frames := 0, cells := 0, slots := 0, locals := 0 } : Room) s m #[(.ref a1)] below meth cod_ s₁ [] 0 0 := Stand.of_body Bd
  have e0 : s₁.heap = h0 := by rw [← hh, Bd.state]; rfl
  have N0 := Fr.nil n0
  have pre0 : ∀ t, Steps p.tables e below (s₁.setTop (mkF m 0 #[.val (.ref a1)] [])) t → Steps p.tables e below (s₁.setTop (entryFrame m #[(.ref a1)] 1)) t := fun t k => castTop (ef_17 m a1) k
  obtain ⟨T56, X56, e56, st56⟩ := getF X0 hx hZ hown (host := "") (Or.inl (hw _ (List.mem_of_getElem? (i := 89) rfl))) Via.refl e0 F_b (g := (mkF m 1 #[.val (.ref a1)] [(.ref a1)])) rfl rfl (hb hby d17_1)
  obtain ⟨fs, hr, hrun, hended, hW, hsame⟩ := X56.leave (v := some (.ref b)) (fun h => by rw [Bd.returns] at h; cases h)
  refine ⟨_, _, pre0 _ ?_, hrun, hended, _, _, rfl, ?_, ⟨_, rfl⟩, hW, hsame.mono (by decide) (by decide)⟩
  · show Steps p.tables e below (s₁.setTop (mkF m 0 #[.val (.ref a1)] [])) _
    refine XS.aloadN X0.here hx rfl (hb hby d17_0) rfl rfl ?_
    show Steps p.tables e below (s₁.setTop (mkF m 1 #[.val (.ref a1)] [(.ref a1)])) _
    refine st56 _ ?_
    show Steps p.tables e below (T56.setTop (mkF m 4 #[.val (.ref a1)] [(.ref b)])) _
    jvm_step X56.here [X56.here.top, hx, (hb hby d17_4), X56.method', Bd.returns, Value.isRef, FieldType.isReference]
    first | (intro acts; rw [hr _ acts rfl rfl rfl]) | rw [hr _ _ rfl rfl rfl]
    exact Steps.refl _
  · show Q_17 Z a1 b h0 n0 _ T56.heap _
    rw [e56]
    exact ⟨rfl, N0, rfl⟩
theorem d18_0 : decode prog_9_method_6_code 0 = .ok (.aload_n 0, 1) := by decide +kernel
theorem d18_1 : decode prog_9_method_6_code 1 = .ok (.getfield 13, 3) := by decide +kernel
theorem d18_4 : decode prog_9_method_6_code 4 = .ok (.areturn, 1) := by decide +kernel
theorem pn_18 : plainName "com/example/sanction/sanction/model/Decision" = true := by first | (simp [plainName, overriddenIn]; done) | decide +kernel
theorem ef_18 (m : MethodId) (x0 : Addr) : entryFrame m #[(.ref x0)] 1 = mkF m 0 #[.val (.ref x0)] [] := by first | (simp [entryFrame, mkF, argsToLocals, Value.category]; done) | rfl
def Q_18 (Z : State) (a1 : Addr) (b : Addr) (h0 : Heap) (n0 : Nat) (v : Option Value) (h : Heap) (L : List Loc) : Prop := v = some (.ref b) ∧ Fr n0 L ∧ h = h0
set_option maxRecDepth 65536 in
set_option maxHeartbeats 40000000 in
theorem rm_18 (l : Launch) (Z : State) (a0 : Array Value) (hw : ∀ d ∈ tables_1, d.before a0 Z = true) (ws : List Jvm.Cond) (a1 : Addr) (b : Addr) (h0 : Heap) (n0 : Nat) (Z0 : n0 ≤ h0.size) (F_b : Fld Z h0 a1 "com/example/sanction/sanction/model/Decision" "verdict" "Lcom/example/sanction/sanction/model/Verdict;" (.ref b)) :
    MetFree l (⟨"com/example/sanction/sanction/model/Decision", "getVerdict", "()Lcom/example/sanction/sanction/model/Verdict;"⟩ : MethodName) (head1 (Jvm.Cond.code (⟨"com/example/sanction/sanction/model/Decision", "getVerdict", "()Lcom/example/sanction/sanction/model/Verdict;"⟩ : MethodName) prog_9_method_6_code 1 (some (.object "com/example/sanction/sanction/model/Verdict")) :: ws) ({ frames := 0, cells := 0, slots := 0, locals := 0 } : Room)) (fun a U => a = #[(.ref a1)] ∧ Z.Warmed39 U.vm ∧ U.heap = h0) (fun _ _ _ _ _ => True) (fun _ U o U' => ∃ v L, o = .returned v ∧ Q_18 Z a1 b h0 n0 v U'.heap L ∧ FrameEnd U o U' L ({ frames := 0, cells := 0, slots := 0, locals := 0 } : Room).cells ({ frames := 0, cells := 0, slots := 0, locals := 0 } : Room).slots) := by
  refine MetFree.of_bodySF (plainFor_of_name pn_18) hisR ?_
  intro p e s m args below meth cod_ s₁ Bd hml0 hP hK
  obtain ⟨rfl, hZ, hh⟩ := hP
  have hx := Bd.exec
  have hby := Bd.bytes
  have hml : cod_.maxLocals = 1 := hml0
  have hown : s.vm.findClass "com/example/sanction/sanction/model/Decision" = some m.cls := findClass_of_methodNamed Bd.named
  have hnm := (name_of_methodNamed Bd.named Bd.method).1
  have X0 : Stand p l e ({ frames := 0, cells := 0, slots := 0, locals := 0 } : Room) s m #[(.ref a1)] below meth cod_ s₁ [] 0 0 := Stand.of_body Bd
  have e0 : s₁.heap = h0 := by rw [← hh, Bd.state]; rfl
  have N0 := Fr.nil n0
  have pre0 : ∀ t, Steps p.tables e below (s₁.setTop (mkF m 0 #[.val (.ref a1)] [])) t → Steps p.tables e below (s₁.setTop (entryFrame m #[(.ref a1)] 1)) t := fun t k => castTop (ef_18 m a1) k
  obtain ⟨T57, X57, e57, st57⟩ := getF X0 hx hZ hown (host := "") (Or.inl (hw _ (List.mem_of_getElem? (i := 91) rfl))) Via.refl e0 F_b (g := (mkF m 1 #[.val (.ref a1)] [(.ref a1)])) rfl rfl (hb hby d18_1)
  obtain ⟨fs, hr, hrun, hended, hW, hsame⟩ := X57.leave (v := some (.ref b)) (fun h => by rw [Bd.returns] at h; cases h)
  refine ⟨_, _, pre0 _ ?_, hrun, hended, _, _, rfl, ?_, ⟨_, rfl⟩, hW, hsame.mono (by decide) (by decide)⟩
  · show Steps p.tables e below (s₁.setTop (mkF m 0 #[.val (.ref a1)] [])) _
    refine XS.aloadN X0.here hx rfl (hb hby d18_0) rfl rfl ?_
    show Steps p.tables e below (s₁.setTop (mkF m 1 #[.val (.ref a1)] [(.ref a1)])) _
    refine st57 _ ?_
    show Steps p.tables e below (T57.setTop (mkF m 4 #[.val (.ref a1)] [(.ref b)])) _
    jvm_step X57.here [X57.here.top, hx, (hb hby d18_4), X57.method', Bd.returns, Value.isRef, FieldType.isReference]
    first | (intro acts; rw [hr _ acts rfl rfl rfl]) | rw [hr _ _ rfl rfl rfl]
    exact Steps.refl _
  · show Q_18 Z a1 b h0 n0 _ T57.heap _
    rw [e57]
    exact ⟨rfl, N0, rfl⟩
theorem d19_0 : decode prog_9_method_7_code 0 = .ok (.aload_n 0, 1) := by decide +kernel
theorem d19_1 : decode prog_9_method_7_code 1 = .ok (.getfield 17, 3) := by decide +kernel
theorem d19_4 : decode prog_9_method_7_code 4 = .ok (.areturn, 1) := by decide +kernel
theorem pn_19 : plainName "com/example/sanction/sanction/model/Decision" = true := by first | (simp [plainName, overriddenIn]; done) | decide +kernel
theorem ef_19 (m : MethodId) (x0 : Addr) : entryFrame m #[(.ref x0)] 1 = mkF m 0 #[.val (.ref x0)] [] := by first | (simp [entryFrame, mkF, argsToLocals, Value.category]; done) | rfl
def Q_19 (Z : State) (a1 : Addr) (b : Addr) (h0 : Heap) (n0 : Nat) (v : Option Value) (h : Heap) (L : List Loc) : Prop := v = some (.ref b) ∧ Fr n0 L ∧ h = h0
set_option maxRecDepth 65536 in
set_option maxHeartbeats 40000000 in
theorem rm_19 (l : Launch) (Z : State) (a0 : Array Value) (hw : ∀ d ∈ tables_1, d.before a0 Z = true) (ws : List Jvm.Cond) (a1 : Addr) (b : Addr) (h0 : Heap) (n0 : Nat) (Z0 : n0 ≤ h0.size) (F_b : Fld Z h0 a1 "com/example/sanction/sanction/model/Decision" "reason" "Lcom/example/sanction/sanction/model/Reason;" (.ref b)) :
    MetFree l (⟨"com/example/sanction/sanction/model/Decision", "getReason", "()Lcom/example/sanction/sanction/model/Reason;"⟩ : MethodName) (head1 (Jvm.Cond.code (⟨"com/example/sanction/sanction/model/Decision", "getReason", "()Lcom/example/sanction/sanction/model/Reason;"⟩ : MethodName) prog_9_method_7_code 1 (some (.object "com/example/sanction/sanction/model/Reason")) :: ws) ({ frames := 0, cells := 0, slots := 0, locals := 0 } : Room)) (fun a U => a = #[(.ref a1)] ∧ Z.Warmed39 U.vm ∧ U.heap = h0) (fun _ _ _ _ _ => True) (fun _ U o U' => ∃ v L, o = .returned v ∧ Q_19 Z a1 b h0 n0 v U'.heap L ∧ FrameEnd U o U' L ({ frames := 0, cells := 0, slots := 0, locals := 0 } : Room).cells ({ frames := 0, cells := 0, slots := 0, locals := 0 } : Room).slots) := by
  refine MetFree.of_bodySF (plainFor_of_name pn_19) hisR ?_
  intro p e s m args below meth cod_ s₁ Bd hml0 hP hK
  obtain ⟨rfl, hZ, hh⟩ := hP
  have hx := Bd.exec
  have hby := Bd.bytes
  have hml : cod_.maxLocals = 1 := hml0
  have hown : s.vm.findClass "com/example/sanction/sanction/model/Decision" = some m.cls := findClass_of_methodNamed Bd.named
  have hnm := (name_of_methodNamed Bd.named Bd.method).1
  have X0 : Stand p l e ({ frames := 0, cells := 0, slots := 0, locals := 0 } : Room) s m #[(.ref a1)] below meth cod_ s₁ [] 0 0 := Stand.of_body Bd
  have e0 : s₁.heap = h0 := by rw [← hh, Bd.state]; rfl
  have N0 := Fr.nil n0
  have pre0 : ∀ t, Steps p.tables e below (s₁.setTop (mkF m 0 #[.val (.ref a1)] [])) t → Steps p.tables e below (s₁.setTop (entryFrame m #[(.ref a1)] 1)) t := fun t k => castTop (ef_19 m a1) k
  obtain ⟨T58, X58, e58, st58⟩ := getF X0 hx hZ hown (host := "") (Or.inl (hw _ (List.mem_of_getElem? (i := 93) rfl))) Via.refl e0 F_b (g := (mkF m 1 #[.val (.ref a1)] [(.ref a1)])) rfl rfl (hb hby d19_1)
  obtain ⟨fs, hr, hrun, hended, hW, hsame⟩ := X58.leave (v := some (.ref b)) (fun h => by rw [Bd.returns] at h; cases h)
  refine ⟨_, _, pre0 _ ?_, hrun, hended, _, _, rfl, ?_, ⟨_, rfl⟩, hW, hsame.mono (by decide) (by decide)⟩
  · show Steps p.tables e below (s₁.setTop (mkF m 0 #[.val (.ref a1)] [])) _
    refine XS.aloadN X0.here hx rfl (hb hby d19_0) rfl rfl ?_
    show Steps p.tables e below (s₁.setTop (mkF m 1 #[.val (.ref a1)] [(.ref a1)])) _
    refine st58 _ ?_
    show Steps p.tables e below (T58.setTop (mkF m 4 #[.val (.ref a1)] [(.ref b)])) _
    jvm_step X58.here [X58.here.top, hx, (hb hby d19_4), X58.method', Bd.returns, Value.isRef, FieldType.isReference]
    first | (intro acts; rw [hr _ acts rfl rfl rfl]) | rw [hr _ _ rfl rfl rfl]
    exact Steps.refl _
  · show Q_19 Z a1 b h0 n0 _ T58.heap _
    rw [e58]
    exact ⟨rfl, N0, rfl⟩
theorem pd__28_5bC_29V : parseMethodDescriptor "([C)V" = some ⟨[(.array .char)], none⟩ := by decide +kernel
theorem pd__28C_29Ljava_2flang_2fString_3b : parseMethodDescriptor "(C)Ljava/lang/String;" = some ⟨[.char], some (.object "java/lang/String")⟩ := by decide +kernel
theorem pd__28JJILjava_2flang_2fString_3bLjava_2flang_2fString_3b_29V : parseMethodDescriptor "(JJILjava/lang/String;Ljava/lang/String;)V" = some ⟨[.long, .long, .int, (.object "java/lang/String"), (.object "java/lang/String")], none⟩ := by decide +kernel
theorem pd__28I_29Lcom_2fexample_2fsanction_2fsanction_2fmodel_2fReason_3b : parseMethodDescriptor "(I)Lcom/example/sanction/sanction/model/Reason;" = some ⟨[.int], some (.object "com/example/sanction/sanction/model/Reason")⟩ := by decide +kernel
theorem pd__28Lcom_2fexample_2fsanction_2fsanction_2fmodel_2fRequestEvent_3bLcom_2fexample_2fsanction_2fsanction_2fmodel_2fReason_3b_29Lcom_2fexample_2fsanction_2fsanction_2fmodel_2fDecision_3b : parseMethodDescriptor "(Lcom/example/sanction/sanction/model/RequestEvent;Lcom/example/sanction/sanction/model/Reason;)Lcom/example/sanction/sanction/model/Decision;" = some ⟨[(.object "com/example/sanction/sanction/model/RequestEvent"), (.object "com/example/sanction/sanction/model/Reason")], some (.object "com/example/sanction/sanction/model/Decision")⟩ := by decide +kernel
theorem pd__28_29_5bI : parseMethodDescriptor "()[I" = some ⟨[], some (.array .int)⟩ := by decide +kernel
theorem pd__28_29Lcom_2fexample_2fsanction_2fsanction_2fmodel_2fRequestEvent_3b : parseMethodDescriptor "()Lcom/example/sanction/sanction/model/RequestEvent;" = some ⟨[], some (.object "com/example/sanction/sanction/model/RequestEvent")⟩ := by decide +kernel
theorem pd__28_29Lcom_2fexample_2fsanction_2fsanction_2fmodel_2fVerdict_3b : parseMethodDescriptor "()Lcom/example/sanction/sanction/model/Verdict;" = some ⟨[], some (.object "com/example/sanction/sanction/model/Verdict")⟩ := by decide +kernel
theorem pd__28_29Lcom_2fexample_2fsanction_2fsanction_2fmodel_2fReason_3b : parseMethodDescriptor "()Lcom/example/sanction/sanction/model/Reason;" = some ⟨[], some (.object "com/example/sanction/sanction/model/Reason")⟩ := by decide +kernel
theorem pn_0 : plainName "com/example/sanction/sanction/model/DecisionDenyPinLaw" = true := by first | (simp [plainName, overriddenIn]; done) | decide +kernel
theorem ef_0 (m : MethodId) (x0 : Int32) (x1 : Int32) (x2 : Int64) (x3 : Int64) (x4 : Int32) (x5 : Int32) : entryFrame m #[(.int x0), (.int x1), (.long x2), (.long x3), (.int x4), (.int x5)] maxLocals = mkF m 0 #[.val (.int x0), .val (.int x1), .val (.long x2), .second, .val (.long x3), .second, .val (.int x4), .val (.int x5), .unset, .unset, .unset, .unset, .unset, .unset, .unset] [] := by first | (simp [entryFrame, mkF, argsToLocals, Value.category, maxLocals]; done) | rfl
def Q_0 (Z : State) (p1 : Int32) (p2 : Int32) (q3 : Int64) (q4 : Int64) (p5 : Int32) (p6 : Int32) (h0 : Heap) (n0 : Nat) (v : Option Value) (h : Heap) (L : List Loc) : Prop := v = some (.int 1) ∧ Fr n0 L
set_option maxRecDepth 65536 in
set_option maxHeartbeats 40000000 in
theorem rm_0 (l : Launch) (Z : State) (a0 : Array Value) (hw : ∀ d ∈ tables_1, d.before a0 Z = true) (ws : List Jvm.Cond) (p1 : Int32) (p2 : Int32) (q3 : Int64) (q4 : Int64) (p5 : Int32) (p6 : Int32) (r0 r1 r2 r3 r4 r5 r6 r7 r8 aD aP : Addr) (kp : ClassId) (zc : Int32) (h0 : Heap) (n0 : Nat) (Z0 : n0 ≤ h0.size) (S_C : Sta Z Z.heap "java/lang/String" "COMPACT_STRINGS" "Z" (.int zc)) (hz : ¬ zc = 0) (X00 : Old Z n0 h0) (S_INPUT : Sta Z Z.heap "com/example/sanction/sanction/model/Reason" "INPUT" "Lcom/example/sanction/sanction/model/Reason;" (.ref r0)) (S_STANDING : Sta Z Z.heap "com/example/sanction/sanction/model/Reason" "STANDING" "Lcom/example/sanction/sanction/model/Reason;" (.ref r1)) (S_NO_INPUT : Sta Z Z.heap "com/example/sanction/sanction/model/Reason" "NO_INPUT" "Lcom/example/sanction/sanction/model/Reason;" (.ref r2)) (S_STALE_INPUT : Sta Z Z.heap "com/example/sanction/sanction/model/Reason" "STALE_INPUT" "Lcom/example/sanction/sanction/model/Reason;" (.ref r3)) (S_REDUCED : Sta Z Z.heap "com/example/sanction/sanction/model/Reason" "REDUCED" "Lcom/example/sanction/sanction/model/Reason;" (.ref r4)) (S_TRACED : Sta Z Z.heap "com/example/sanction/sanction/model/Reason" "TRACED" "Lcom/example/sanction/sanction/model/Reason;" (.ref r5)) (S_BINDING : Sta Z Z.heap "com/example/sanction/sanction/model/Reason" "BINDING" "Lcom/example/sanction/sanction/model/Reason;" (.ref r6)) (S_REFUSED : Sta Z Z.heap "com/example/sanction/sanction/model/Reason" "REFUSED" "Lcom/example/sanction/sanction/model/Reason;" (.ref r7)) (S_NEW_BINDING : Sta Z Z.heap "com/example/sanction/sanction/model/Reason" "NEW_BINDING" "Lcom/example/sanction/sanction/model/Reason;" (.ref r8)) (S_DENY : Sta Z Z.heap "com/example/sanction/sanction/model/Verdict" "DENY" "Lcom/example/sanction/sanction/model/Verdict;" (.ref aD)) (S_NO_PATH : Sta Z Z.heap "com/example/sanction/sanction/model/Decision" "NO_PATH" "[I" (.ref aP)) (V_P : Arv Z h0 aP kp .int (0 : Int32) [] (.int (0 : Int32))) (E_P : Exa Z h0 aP "[I") :
    MetFree l x (head1 (Jvm.Cond.code x code maxLocals ret :: ws) room_1) (fun a U => a = #[(.int p1), (.int p2), (.long q3), (.long q4), (.int p5), (.int p6)] ∧ Z.Warmed39 U.vm ∧ U.heap = h0) (fun _ _ _ _ _ => True) (fun _ U o U' => ∃ v L, o = .returned v ∧ Q_0 Z p1 p2 q3 q4 p5 p6 h0 n0 v U'.heap L ∧ FrameEnd U o U' L room_1.cells room_1.slots) := by
  refine MetFree.of_bodySF (plainFor_of_name pn_0) hisR ?_
  intro p e s m args below meth cod_ s₁ Bd hml0 hP hK
  obtain ⟨rfl, hZ, hh⟩ := hP
  have hx := Bd.exec
  have hby := Bd.bytes
  have hml : cod_.maxLocals = 15 := hml0
  have hown : s.vm.findClass "com/example/sanction/sanction/model/DecisionDenyPinLaw" = some m.cls := findClass_of_methodNamed Bd.named
  have hnm := (name_of_methodNamed Bd.named Bd.method).1
  have X0 : Stand p l e room_1 s m #[(.int p1), (.int p2), (.long q3), (.long q4), (.int p5), (.int p6)] below meth cod_ s₁ [] 0 0 := Stand.of_body Bd
  have e0 : s₁.heap = h0 := by rw [← hh, Bd.state]; rfl
  have N0 := Fr.nil n0
  have pre0 : ∀ t, Steps p.tables e below (s₁.setTop (mkF m 0 #[.val (.int p1), .val (.int p2), .val (.long q3), .second, .val (.long q4), .second, .val (.int p5), .val (.int p6), .unset, .unset, .unset, .unset, .unset, .unset, .unset] [])) t → Steps p.tables e below (s₁.setTop (entryFrame m #[(.int p1), (.int p2), (.long q3), (.long q4), (.int p5), (.int p6)] maxLocals)) t := fun t k => castTop (ef_0 m p1 p2 q3 q4 p5 p6) k
  have hws : ∀ d ∈ StrChars.Road.words, d.before a0 Z = true := fun d hd => hw d ((by decide +kernel : ∀ d ∈ StrChars.Road.words, d ∈ tables_1) d hd)
  obtain ⟨T59, h59, k59, X59, e59, E59, A59, st59⟩ := newP X0 hx hZ (hw _ (List.mem_of_getElem? (i := 0) rfl)) e0 (g := (mkF m 1 #[.val (.int p1), .val (.int p2), .val (.long q3), .second, .val (.long q4), .second, .val (.int p5), .val (.int p6), .unset, .unset, .unset, .unset, .unset, .unset, .unset] [(.int (2 : Int32))])) rfl (hb hby at_1) rfl (by decide) (cap := 2) (by decide) (by decide) (by decide) (by decide)
  obtain ⟨b59, g59⟩ : ∃ z, z = h0.size := ⟨_, rfl⟩
  rw [← g59] at A59 st59
  have g_b59 : n0 ≤ b59 := Nat.le_trans (Nat.le_trans Z0 (Keep.refl h0 []).1) (Nat.le_of_eq g59.symm)
  have sz_b59 : h0.size ≤ b59 := Nat.le_trans (Keep.refl h0 []).1 (Nat.le_of_eq g59.symm)
  have ne_aP_b59 : aP ≠ b59 := Nat.ne_of_lt (Nat.lt_of_lt_of_le V_P.lt (Nat.le_of_eq g59.symm))
  have Kh59 : Keep h0 h59 [] := (Keep.refl h0 []).ext E59
  have V_b59 : Arv Z h59 b59 k59 .char (2 : Int32) [(.int (0 : Int32)), (.int (0 : Int32))] (.int (0 : Int32)) := (Arv.new A59 (by decide)).pad (pad_rep [] (.int (0 : Int32)) 2)
  obtain ⟨c0, e_c0⟩ : ∃ z : Int32, z = ((p5 &&& (255 : Int32)).toUInt32.toUInt16.toUInt32.toInt32) := ⟨_, rfl⟩
  obtain ⟨cl60, Ar60, q60, S60, M60, H60, G60⟩ := id (V_b59)
  have hin60 : ¬ ((0 : Int32) < 0 ∨ cl60.slots.size ≤ ((0 : Int32)).toNatClampNeg) := inb_of S60 ⟨by decide, by decide⟩
  obtain ⟨T60, h60, X60, e60, W60, st60⟩ := stC X59 hx hZ e59 Ar60 (j := (0 : Int32)) hin60 (g := (mkF m 15 #[.val (.int p1), .val (.int p2), .val (.long q3), .second, .val (.long q4), .second, .val (.int p5), .val (.int p6), .val (.ref b59), .unset, .unset, .unset, .unset, .unset, .unset] [(.int c0), (.int (0 : Int32)), (.ref b59)])) rfl rfl (hb hby at_15)
  have V60 : Arv Z h60 b59 k59 .char (2 : Int32) [(.int (nar .char c0)), (.int (0 : Int32))] (.int (0 : Int32)) := Arv.set Ar60 q60 S60 M60 H60 G60 (fits_nar_char _) W60 0 rfl (Nat.le_of_ble_eq_true rfl)
  have Kh60 : Keep h0 h60 [] := Kh59.wr W60 (Or.inr sz_b59)
  have N60 := Fr.snoc X60 N0 g_b59
  obtain ⟨c1, e_c1⟩ : ∃ z : Int32, z = ((p6 &&& (255 : Int32)).toUInt32.toUInt16.toUInt32.toInt32) := ⟨_, rfl⟩
  obtain ⟨cl61, Ar61, q61, S61, M61, H61, G61⟩ := id (V60)
  have hin61 : ¬ ((1 : Int32) < 0 ∨ cl61.slots.size ≤ ((1 : Int32)).toNatClampNeg) := inb_of S61 ⟨by decide, by decide⟩
  obtain ⟨T61, h61, X61, e61, W61, st61⟩ := stC X60 hx hZ e60 Ar61 (j := (1 : Int32)) hin61 (g := (mkF m 26 #[.val (.int p1), .val (.int p2), .val (.long q3), .second, .val (.long q4), .second, .val (.int p5), .val (.int p6), .val (.ref b59), .unset, .unset, .unset, .unset, .unset, .unset] [(.int c1), (.int (1 : Int32)), (.ref b59)])) rfl rfl (hb hby at_26)
  have V61 : Arv Z h61 b59 k59 .char (2 : Int32) [(.int (nar .char c0)), (.int (nar .char c1))] (.int (0 : Int32)) := Arv.set Ar61 q61 S61 M61 H61 G61 (fits_nar_char _) W61 1 rfl (Nat.le_of_ble_eq_true rfl)
  have Kh61 : Keep h0 h61 [] := Kh60.wr W61 (Or.inr sz_b59)
  have N61 := Fr.snoc X61 N60 g_b59
  obtain ⟨T62, h62, X62, e62, E62, A62, D62, -, st62⟩ := newO X61 hx hZ hown (hw _ (List.mem_of_getElem? (i := 1) rfl)) (hw _ (List.mem_of_getElem? (i := 2) rfl)) (hw _ (List.mem_of_getElem? (i := 3) rfl)) e61 (g := (mkF m 27 #[.val (.int p1), .val (.int p2), .val (.long q3), .second, .val (.long q4), .second, .val (.int p5), .val (.int p6), .val (.ref b59), .unset, .unset, .unset, .unset, .unset, .unset] [])) rfl (hb hby at_27) (by decide) (by decide)
  obtain ⟨b62, g62⟩ : ∃ z, z = h61.size := ⟨_, rfl⟩
  rw [← g62] at A62 D62 st62
  have g_b62 : n0 ≤ b62 := Nat.le_trans (Nat.le_trans Z0 Kh61.1) (Nat.le_of_eq g62.symm)
  have sz_b62 : h0.size ≤ b62 := Nat.le_trans Kh61.1 (Nat.le_of_eq g62.symm)
  have ne_aP_b62 : aP ≠ b62 := Nat.ne_of_lt (Nat.lt_of_lt_of_le (((V_P.ext E59).other W60 ne_aP_b59).other W61 ne_aP_b59).lt (Nat.le_of_eq g62.symm))
  have ne_b59_b62 : b59 ≠ b62 := Nat.ne_of_lt (Nat.lt_of_lt_of_le V61.lt (Nat.le_of_eq g62.symm))
  have Kh62 : Keep h0 h62 [] := Kh61.ext E62
  have F_coder_b62 : Fld Z h62 b62 "java/lang/String" "coder" "B" (.int (0 : Int32)) := D62 (Or.inr (hw _ (List.mem_of_getElem? (i := 27) rfl))) (ty := .byte) (by decide)
  have F_value_b62 : Fld Z h62 b62 "java/lang/String" "value" "[B" .null := D62 (Or.inr (hw _ (List.mem_of_getElem? (i := 29) rfl))) (ty := (.array .byte)) (by decide)
  have hp63 : ∀ c ∈ ([nar .char c0, nar .char c1] : List Int32), ¬ c < 0 ∧ ¬ (255 : Int32) < c := by
    intro c hc
    simp only [List.mem_cons, List.not_mem_nil, or_false] at hc
    rcases hc with hc | hc
    · rw [hc, e_c0]; exact own_b255 _ (own_u255 _).1 (own_u255 _).2
    · rw [hc, e_c1]; exact own_b255 _ (own_u255 _).1 (own_u255 _).2
  have f64 := ((((X00.ext E59).wr W60 g_b59).wr W61 g_b59).ext E62)
  obtain ⟨_, _, ⟨T65, L65, c65_, n65_⟩, -, X65, ⟨Lc65, hQ65, l65, y65, z65⟩, st65⟩ := X62.specialBack hx (y := (⟨"java/lang/String", "<init>", "([C)V"⟩ : MethodName)) rfl hown (mvT hZ (hw _ (List.mem_of_getElem? (i := 4) rfl))) (mvT hZ (hw _ (List.mem_of_getElem? (i := 5) rfl))) (mvT hZ (hw _ (List.mem_of_getElem? (i := 6) rfl))) (by decide) (StrChars.Road.backV (W := 1) hZ hws (kI := 4) (hw _ (List.mem_of_getElem? (i := 2) rfl)) (cs := ([nar .char c0, nar .char c1] : List Int32)) (bs := (([nar .char c0, nar .char c1] : List Int32)).map (fun c => c.toInt8.toInt32)) (n := 2) g_b62 (Nat.le_trans Z0 Kh62.1) A62 F_value_b62 F_coder_b62 (V61.ext E62) (S_C.ext f64.2) hz rfl rfl (by decide) (by decide) hp63 rfl (by decide) (by decide)) (g := (mkF m 33 #[.val (.int p1), .val (.int p2), .val (.long q3), .second, .val (.long q4), .second, .val (.int p5), .val (.int p6), .val (.ref b59), .unset, .unset, .unset, .unset, .unset, .unset] [(.ref b59), (.ref b62), (.ref b62)])) rfl (by rw [hml]; rfl) (Steps.refl _) (a := b62) (argsL := [(.ref b59)]) (rest := [(.ref b62)]) (lenOf pd__28_5bC_29V rfl) rfl (by show 2 * 0 + _ ≤ _; exact Nat.le_of_eq rfl) (hb hby at_33) (fun _ _ => ⟨rfl, e62, (by decide : 2 + 1 ≤ _), (by decide : 6 + 2 ≤ _)⟩)
  dsimp only [Pt.U, Pt.locs, Pt.cells, Pt.slots] at X65 l65 y65 z65 st65 hQ65
  subst l65 y65 z65
  obtain ⟨rfl, Nq65, K65, Ee65, Fc65, t65, kb65, u65, v65, w65, Fv65, Va65⟩ := hQ65
  have N65 := Fr.app N61 Nq65
  have Kh65 : Keep h0 T65.heap [] := Kh62.trans K65 (allS (Or.inr sz_b62) all0)
  have g_t65 := u65
  have ne_aP_t65 : aP ≠ t65 := Nat.ne_of_lt (Nat.lt_of_lt_of_le ((((V_P.ext E59).other W60 ne_aP_b59).other W61 ne_aP_b59).ext E62).lt v65)
  have ne_b59_t65 : b59 ≠ t65 := Nat.ne_of_lt (Nat.lt_of_lt_of_le (V61.ext E62).lt v65)
  have ne_b62_t65 : b62 ≠ t65 := Nat.ne_of_lt (Nat.lt_of_lt_of_le A62.lt v65)
  obtain ⟨_, _, ⟨T66, L66, c66_, n66_⟩, -, X66, ⟨Lc66, hQ66, l66, y66, z66⟩, st66⟩ := Jvm.LawKit.callS X65 hx (y := (⟨"java/lang/String", "valueOf", "(C)Ljava/lang/String;"⟩ : MethodName)) hown (mvT hZ (hw _ (List.mem_of_getElem? (i := 30) rfl))) (mvT hZ (hw _ (List.mem_of_getElem? (i := 31) rfl))) (mvT hZ (hw _ (List.mem_of_getElem? (i := 3) rfl))) (mvT hZ (hw _ (List.mem_of_getElem? (i := 32) rfl))) (by decide) (backOf (W := 0) (rm_7 l Z a0 hw [] ((((p5.toUInt32 >>> ((8 : Int32) &&& 31).toUInt32).toInt32) &&& (255 : Int32)).toUInt32.toUInt16.toUInt32.toInt32) zc T65.heap n0 (Nat.le_trans Z0 Kh65.1) (own_i255 _) (S_C.ext (f64.keep K65 (allS g_b62 all0)).2) hz) hZ (hw _ (List.mem_of_getElem? (i := 32) rfl)) (hw _ (List.mem_of_getElem? (i := 3) rfl)) (by decide) (by decide)) (g := (mkF m 48 #[.val (.int p1), .val (.int p2), .val (.long q3), .second, .val (.long q4), .second, .val (.int p5), .val (.int p6), .val (.ref b59), .val (.ref b62), .unset, .unset, .unset, .unset, .unset] [(.int ((((p5.toUInt32 >>> ((8 : Int32) &&& 31).toUInt32).toInt32) &&& (255 : Int32)).toUInt32.toUInt16.toUInt32.toInt32))])) rfl (by rw [hml]; rfl) (argsL := [(.int ((((p5.toUInt32 >>> ((8 : Int32) &&& 31).toUInt32).toInt32) &&& (255 : Int32)).toUInt32.toUInt16.toUInt32.toInt32))]) (rest := []) (lenOf pd__28C_29Ljava_2flang_2fString_3b rfl) rfl (by show 2 * 0 + _ ≤ _; exact Nat.le_of_eq rfl) (hb hby at_48) (fun _ _ => ⟨rfl, rfl, (by decide : 3 + 2 ≤ _), (by decide : 8 + 5 ≤ _)⟩)
  dsimp only [Pt.U, Pt.locs, Pt.cells, Pt.slots] at X66 l66 y66 z66 st66 hQ66
  subst l66 y66 z66
  obtain ⟨rfl, Nq66, K66⟩ := hQ66
  have N66 := Fr.app N65 Nq66
  have Kh66 : Keep h0 T66.heap [] := Kh65.trans K66 (fun _ q_ => nomatch q_)
  obtain ⟨b66, g66⟩ : ∃ z, z = T65.heap.size := ⟨_, rfl⟩
  rw [← g66] at st66
  have ne_aP_b66 : aP ≠ b66 := Nat.ne_of_lt (Nat.lt_of_lt_of_le (((((V_P.ext E59).other W60 ne_aP_b59).other W61 ne_aP_b59).ext E62).keep K65 (ninS ne_aP_b62 nin0)).lt (Nat.le_of_eq g66.symm))
  have ne_b59_b66 : b59 ≠ b66 := Nat.ne_of_lt (Nat.lt_of_lt_of_le ((V61.ext E62).keep K65 (ninS ne_b59_b62 nin0)).lt (Nat.le_of_eq g66.symm))
  have ne_b62_b66 : b62 ≠ b66 := Nat.ne_of_lt (Nat.lt_of_lt_of_le Ee65.lt (Nat.le_of_eq g66.symm))
  have ne_t65_b66 : t65 ≠ b66 := Nat.ne_of_lt (Nat.lt_of_lt_of_le Va65.lt (Nat.le_of_eq g66.symm))
  obtain ⟨T67, h67, X67, e67, E67, A67, D67, -, st67⟩ := newO X66 hx hZ hown (hw _ (List.mem_of_getElem? (i := 44) rfl)) (hw _ (List.mem_of_getElem? (i := 45) rfl)) (hw _ (List.mem_of_getElem? (i := 46) rfl)) rfl (g := (mkF m 53 #[.val (.int p1), .val (.int p2), .val (.long q3), .second, .val (.long q4), .second, .val (.int p5), .val (.int p6), .val (.ref b59), .val (.ref b62), .val (.ref b66), .unset, .unset, .unset, .unset] [])) rfl (hb hby at_53) (by decide) (by decide)
  obtain ⟨b67, g67⟩ : ∃ z, z = T66.heap.size := ⟨_, rfl⟩
  rw [← g67] at A67 D67 st67
  have g_b67 : n0 ≤ b67 := Nat.le_trans (Nat.le_trans Z0 Kh66.1) (Nat.le_of_eq g67.symm)
  have sz_b67 : h0.size ≤ b67 := Nat.le_trans Kh66.1 (Nat.le_of_eq g67.symm)
  have ne_aP_b67 : aP ≠ b67 := Nat.ne_of_lt (Nat.lt_of_lt_of_le ((((((V_P.ext E59).other W60 ne_aP_b59).other W61 ne_aP_b59).ext E62).keep K65 (ninS ne_aP_b62 nin0)).keep K66 nin0).lt (Nat.le_of_eq g67.symm))
  have ne_b59_b67 : b59 ≠ b67 := Nat.ne_of_lt (Nat.lt_of_lt_of_le (((V61.ext E62).keep K65 (ninS ne_b59_b62 nin0)).keep K66 nin0).lt (Nat.le_of_eq g67.symm))
  have ne_b62_b67 : b62 ≠ b67 := Nat.ne_of_lt (Nat.lt_of_lt_of_le (Ee65.keep K66).lt (Nat.le_of_eq g67.symm))
  have ne_t65_b67 : t65 ≠ b67 := Nat.ne_of_lt (Nat.lt_of_lt_of_le (Va65.keep K66 nin0).lt (Nat.le_of_eq g67.symm))
  have Kh67 : Keep h0 h67 [] := Kh66.ext E67
  have F_line_b67 : Fld Z h67 b67 "com/example/sanction/sanction/model/Event" "line" "J" (.long (0 : Int64)) := D67 (Or.inr (hw _ (List.mem_of_getElem? (i := 57) rfl))) (ty := .long) (by decide)
  have F_time_b67 : Fld Z h67 b67 "com/example/sanction/sanction/model/Event" "time" "J" (.long (0 : Int64)) := D67 (Or.inr (hw _ (List.mem_of_getElem? (i := 59) rfl))) (ty := .long) (by decide)
  have F_pid_b67 : Fld Z h67 b67 "com/example/sanction/sanction/model/RequestEvent" "pid" "I" (.int (0 : Int32)) := D67 (Or.inr (hw _ (List.mem_of_getElem? (i := 61) rfl))) (ty := .int) (by decide)
  have F_resource_b67 : Fld Z h67 b67 "com/example/sanction/sanction/model/RequestEvent" "resource" "Ljava/lang/String;" .null := D67 (Or.inr (hw _ (List.mem_of_getElem? (i := 63) rfl))) (ty := (.object "java/lang/String")) (by decide)
  have F_operation_b67 : Fld Z h67 b67 "com/example/sanction/sanction/model/RequestEvent" "operation" "Ljava/lang/String;" .null := D67 (Or.inr (hw _ (List.mem_of_getElem? (i := 65) rfl))) (ty := (.object "java/lang/String")) (by decide)
  obtain ⟨_, _, ⟨T68, L68, c68_, n68_⟩, -, X68, ⟨Lc68, hQ68, l68, y68, z68⟩, st68⟩ := X67.specialBack hx (y := (⟨"com/example/sanction/sanction/model/RequestEvent", "<init>", "(JJILjava/lang/String;Ljava/lang/String;)V"⟩ : MethodName)) rfl hown (mvT hZ (hw _ (List.mem_of_getElem? (i := 47) rfl))) (mvT hZ (hw _ (List.mem_of_getElem? (i := 48) rfl))) (mvT hZ (hw _ (List.mem_of_getElem? (i := 49) rfl))) (by decide) (backOf (W := 1) (rm_11 l Z a0 hw [] b67 q3 q4 p2 b62 b66 h67 n0 (Nat.le_trans Z0 Kh67.1) A67 g_b67 F_line_b67 F_time_b67 F_pid_b67 F_resource_b67 F_operation_b67) hZ (hw _ (List.mem_of_getElem? (i := 49) rfl)) (hw _ (List.mem_of_getElem? (i := 46) rfl)) (by decide) (by decide)) (g := (mkF m 65 #[.val (.int p1), .val (.int p2), .val (.long q3), .second, .val (.long q4), .second, .val (.int p5), .val (.int p6), .val (.ref b59), .val (.ref b62), .val (.ref b66), .unset, .unset, .unset, .unset] [(.ref b66), (.ref b62), (.int p2), (.long q4), (.long q3), (.ref b67), (.ref b67)])) rfl (by rw [hml]; rfl) (Steps.refl _) (a := b67) (argsL := [(.long q3), (.long q4), (.int p2), (.ref b62), (.ref b66)]) (rest := [(.ref b67)]) (lenOf pd__28JJILjava_2flang_2fString_3bLjava_2flang_2fString_3b_29V rfl) rfl (by show 2 * 0 + _ ≤ _; exact Nat.le_of_eq rfl) (hb hby at_65) (fun _ _ => ⟨rfl, e67, (by decide : 6 + 0 ≤ _), (by decide : 18 + 0 ≤ _)⟩)
  dsimp only [Pt.U, Pt.locs, Pt.cells, Pt.slots] at X68 l68 y68 z68 st68 hQ68
  subst l68 y68 z68
  obtain ⟨rfl, Nq68, K68⟩ := hQ68
  have N68 := Fr.app N66 Nq68
  have Kh68 : Keep h0 T68.heap [] := Kh67.trans K68 (allS (Or.inr sz_b67) all0)
  have f69 := ((((f64.keep K65 (allS g_b62 all0)).keep K66 all0).ext E67).keep K68 (allS g_b67 all0))
  obtain ⟨_, _, ⟨T70, L70, c70_, n70_⟩, -, X70, ⟨Lc70, hQ70, l70, y70, z70⟩, st70⟩ := Jvm.LawKit.callS X68 hx (y := (⟨"com/example/sanction/sanction/model/DecisionDenyPinLaw", "pick", "(I)Lcom/example/sanction/sanction/model/Reason;"⟩ : MethodName)) hown (mvT hZ (hw _ (List.mem_of_getElem? (i := 66) rfl))) (mvT hZ (hw _ (List.mem_of_getElem? (i := 67) rfl))) (mvT hZ (hw _ (List.mem_of_getElem? (i := 68) rfl))) (mvT hZ (hw _ (List.mem_of_getElem? (i := 69) rfl))) (by decide) (backOf (W := 0) (rm_13 l Z a0 hw [] p1 r0 r1 r2 r3 r4 r5 r6 r7 r8 T68.heap n0 (Nat.le_trans Z0 Kh68.1) (S_INPUT.ext f69.2) (S_STANDING.ext f69.2) (S_NO_INPUT.ext f69.2) (S_STALE_INPUT.ext f69.2) (S_REDUCED.ext f69.2) (S_TRACED.ext f69.2) (S_BINDING.ext f69.2) (S_REFUSED.ext f69.2) (S_NEW_BINDING.ext f69.2)) hZ (hw _ (List.mem_of_getElem? (i := 69) rfl)) (hw _ (List.mem_of_getElem? (i := 68) rfl)) (by decide) (by decide)) (g := (mkF m 71 #[.val (.int p1), .val (.int p2), .val (.long q3), .second, .val (.long q4), .second, .val (.int p5), .val (.int p6), .val (.ref b59), .val (.ref b62), .val (.ref b66), .val (.ref b67), .unset, .unset, .unset] [(.int p1)])) rfl (by rw [hml]; rfl) (argsL := [(.int p1)]) (rest := []) (lenOf pd__28I_29Lcom_2fexample_2fsanction_2fsanction_2fmodel_2fReason_3b rfl) rfl (by show 2 * 0 + _ ≤ _; exact Nat.le_of_eq rfl) (hb hby at_71) (fun _ _ => ⟨rfl, rfl, (by decide : 6 + 0 ≤ _), (by decide : 18 + 0 ≤ _)⟩)
  dsimp only [Pt.U, Pt.locs, Pt.cells, Pt.slots] at X70 l70 y70 z70 st70 hQ70
  subst l70 y70 z70
  obtain ⟨rfl, Nq70, e70⟩ := hQ70
  have N70 := Fr.app N68 Nq70
  have f71 := ((((((((V_P.ext E59).other W60 ne_aP_b59).other W61 ne_aP_b59).ext E62).keep K65 (ninS ne_aP_b62 nin0)).keep K66 nin0).ext E67).keep K68 (ninS ne_aP_b67 nin0))
  have f72 := ((((((((E_P.ext E59).wr W60).wr W61).ext E62).keep K65).keep K66).ext E67).keep K68)
  obtain ⟨_, _, ⟨T73, L73, c73_, n73_⟩, -, X73, ⟨Lc73, hQ73, l73, y73, z73⟩, st73⟩ := Jvm.LawKit.callS X70 hx (y := (⟨"com/example/sanction/sanction/model/Decision", "deny", "(Lcom/example/sanction/sanction/model/RequestEvent;Lcom/example/sanction/sanction/model/Reason;)Lcom/example/sanction/sanction/model/Decision;"⟩ : MethodName)) hown (mvT hZ (hw _ (List.mem_of_getElem? (i := 74) rfl))) (mvT hZ (hw _ (List.mem_of_getElem? (i := 75) rfl))) (mvT hZ (hw _ (List.mem_of_getElem? (i := 76) rfl))) (mvT hZ (hw _ (List.mem_of_getElem? (i := 77) rfl))) (by decide) (backOf (W := 0) (rm_14 l Z a0 hw [] b67 (own_rs ((p1 &&& (2147483647 : Int32)) % (9 : Int32)) r0 r1 r2 r3 r4 r5 r6 r7 r8) aD kp aP T68.heap n0 (Nat.le_trans Z0 Kh68.1) (S_DENY.ext f69.2) (S_NO_PATH.ext f69.2) f71 f72) hZ (hw _ (List.mem_of_getElem? (i := 77) rfl)) (hw _ (List.mem_of_getElem? (i := 76) rfl)) (by decide) (by decide)) (g := (mkF m 80 #[.val (.int p1), .val (.int p2), .val (.long q3), .second, .val (.long q4), .second, .val (.int p5), .val (.int p6), .val (.ref b59), .val (.ref b62), .val (.ref b66), .val (.ref b67), .val (.ref (own_rs ((p1 &&& (2147483647 : Int32)) % (9 : Int32)) r0 r1 r2 r3 r4 r5 r6 r7 r8)), .unset, .unset] [(.ref (own_rs ((p1 &&& (2147483647 : Int32)) % (9 : Int32)) r0 r1 r2 r3 r4 r5 r6 r7 r8)), (.ref b67)])) rfl (by rw [hml]; rfl) (argsL := [(.ref b67), (.ref (own_rs ((p1 &&& (2147483647 : Int32)) % (9 : Int32)) r0 r1 r2 r3 r4 r5 r6 r7 r8))]) (rest := []) (lenOf pd__28Lcom_2fexample_2fsanction_2fsanction_2fmodel_2fRequestEvent_3bLcom_2fexample_2fsanction_2fsanction_2fmodel_2fReason_3b_29Lcom_2fexample_2fsanction_2fsanction_2fmodel_2fDecision_3b rfl) rfl (by show 2 * 0 + _ ≤ _; exact Nat.le_of_eq rfl) (hb hby at_80) (fun _ _ => ⟨rfl, e70, (by decide : 6 + 2 ≤ _), (by decide : 18 + 4 ≤ _)⟩)
  dsimp only [Pt.U, Pt.locs, Pt.cells, Pt.slots] at X73 l73 y73 z73 st73 hQ73
  subst l73 y73 z73
  obtain ⟨rfl, Nq73, K73, Ee73, Fq73, Fv73, Fs73, pb73, gp73, zp73, Fp73, Vp73, Ep73⟩ := hQ73
  have N73 := Fr.app N70 Nq73
  have Kh73 : Keep h0 T73.heap [] := Kh68.trans K73 (fun _ q_ => nomatch q_)
  obtain ⟨b73, g73⟩ : ∃ z, z = T68.heap.size := ⟨_, rfl⟩
  rw [← g73] at st73 Ee73 Fq73 Fv73 Fs73 Fp73
  have ne_aP_b73 : aP ≠ b73 := Nat.ne_of_lt (Nat.lt_of_lt_of_le f71.lt (Nat.le_of_eq g73.symm))
  have ne_b59_b73 : b59 ≠ b73 := Nat.ne_of_lt (Nat.lt_of_lt_of_le (((((V61.ext E62).keep K65 (ninS ne_b59_b62 nin0)).keep K66 nin0).ext E67).keep K68 (ninS ne_b59_b67 nin0)).lt (Nat.le_of_eq g73.symm))
  have ne_b62_b73 : b62 ≠ b73 := Nat.ne_of_lt (Nat.lt_of_lt_of_le (((Ee65.keep K66).ext E67).keep K68).lt (Nat.le_of_eq g73.symm))
  have ne_t65_b73 : t65 ≠ b73 := Nat.ne_of_lt (Nat.lt_of_lt_of_le (((Va65.keep K66 nin0).ext E67).keep K68 (ninS ne_t65_b67 nin0)).lt (Nat.le_of_eq g73.symm))
  have ne_b67_b73 : b67 ≠ b73 := Nat.ne_of_lt (Nat.lt_of_lt_of_le (A67.keep K68).lt (Nat.le_of_eq g73.symm))
  obtain ⟨cq74, kq74, q74a, q74b, q74c⟩ := isOf hZ rfl Ee73
  obtain ⟨_, _, ⟨T74, L74, c74_, n74_⟩, -, X74, ⟨Lc74, hQ74, l74, y74, z74⟩, st74⟩ := X73.virtualBack hx (y := (⟨"com/example/sanction/sanction/model/Decision", "getPath", "()[I"⟩ : MethodName)) (z := (⟨"com/example/sanction/sanction/model/Decision", "getPath", "()[I"⟩ : MethodName)) hown (mvT hZ (hw _ (List.mem_of_getElem? (i := 106) rfl))) (mvT hZ (hw _ (List.mem_of_getElem? (i := 107) rfl))) (notFace_of_selects (args := #[]) (mvT hZ (hw _ (List.mem_of_getElem? (i := 109) rfl)))) (mvT hZ (hw _ (List.mem_of_getElem? (i := 109) rfl))) (mvT hZ (hw _ (List.mem_of_getElem? (i := 108) rfl))) (by decide) (backOf (W := 0) (rm_16 l Z a0 hw [] b73 kp pb73 T73.heap n0 (Nat.le_trans Z0 Kh73.1) Fp73 Vp73 Ep73) hZ (hw _ (List.mem_of_getElem? (i := 110) rfl)) (hw _ (List.mem_of_getElem? (i := 76) rfl)) (by decide) (by decide)) q74a q74c (g := (mkF m 87 #[.val (.int p1), .val (.int p2), .val (.long q3), .second, .val (.long q4), .second, .val (.int p5), .val (.int p6), .val (.ref b59), .val (.ref b62), .val (.ref b66), .val (.ref b67), .val (.ref (own_rs ((p1 &&& (2147483647 : Int32)) % (9 : Int32)) r0 r1 r2 r3 r4 r5 r6 r7 r8)), .val (.ref b73), .unset] [(.ref b73)])) rfl (by rw [hml]; rfl) (Steps.refl _) (argsL := []) (rest := []) (lenOf pd__28_29_5bI rfl) rfl (by show 2 * 0 + _ ≤ _; exact Nat.le_of_eq rfl) (hb hby at_87) (fun _ _ => ⟨rfl, rfl, (by decide : 8 + 1 ≤ _), (by decide : 22 + 0 ≤ _)⟩)
  dsimp only [Pt.U, Pt.locs, Pt.cells, Pt.slots] at X74 l74 y74 z74 st74 hQ74
  subst l74 y74 z74
  obtain ⟨rfl, Nq74, K74, Vr74⟩ := hQ74
  have N74 := Fr.app N73 Nq74
  have Kh74 : Keep h0 T74.heap [] := Kh73.trans K74 (fun _ q_ => nomatch q_)
  obtain ⟨b74, g74⟩ : ∃ z, z = T73.heap.size := ⟨_, rfl⟩
  rw [← g74] at st74 Vr74
  have ne_aP_b74 : aP ≠ b74 := Nat.ne_of_lt (Nat.lt_of_lt_of_le (f71.keep K73 nin0).lt (Nat.le_of_eq g74.symm))
  have ne_b59_b74 : b59 ≠ b74 := Nat.ne_of_lt (Nat.lt_of_lt_of_le ((((((V61.ext E62).keep K65 (ninS ne_b59_b62 nin0)).keep K66 nin0).ext E67).keep K68 (ninS ne_b59_b67 nin0)).keep K73 nin0).lt (Nat.le_of_eq g74.symm))
  have ne_b62_b74 : b62 ≠ b74 := Nat.ne_of_lt (Nat.lt_of_lt_of_le ((((Ee65.keep K66).ext E67).keep K68).keep K73).lt (Nat.le_of_eq g74.symm))
  have ne_t65_b74 : t65 ≠ b74 := Nat.ne_of_lt (Nat.lt_of_lt_of_le ((((Va65.keep K66 nin0).ext E67).keep K68 (ninS ne_t65_b67 nin0)).keep K73 nin0).lt (Nat.le_of_eq g74.symm))
  have ne_b67_b74 : b67 ≠ b74 := Nat.ne_of_lt (Nat.lt_of_lt_of_le ((A67.keep K68).keep K73).lt (Nat.le_of_eq g74.symm))
  have ne_b73_b74 : b73 ≠ b74 := Nat.ne_of_lt (Nat.lt_of_lt_of_le Ee73.lt (Nat.le_of_eq g74.symm))
  have ne_pb73_b74 : pb73 ≠ b74 := Nat.ne_of_lt (Nat.lt_of_lt_of_le Vp73.lt (Nat.le_of_eq g74.symm))
  obtain ⟨cq75, kq75, q75a, q75b, q75c⟩ := isOf hZ rfl (Ee73.keep K74)
  obtain ⟨_, _, ⟨T75, L75, c75_, n75_⟩, -, X75, ⟨Lc75, hQ75, l75, y75, z75⟩, st75⟩ := X74.virtualBack hx (y := (⟨"com/example/sanction/sanction/model/Decision", "getRequest", "()Lcom/example/sanction/sanction/model/RequestEvent;"⟩ : MethodName)) (z := (⟨"com/example/sanction/sanction/model/Decision", "getRequest", "()Lcom/example/sanction/sanction/model/RequestEvent;"⟩ : MethodName)) hown (mvT hZ (hw _ (List.mem_of_getElem? (i := 111) rfl))) (mvT hZ (hw _ (List.mem_of_getElem? (i := 112) rfl))) (notFace_of_selects (args := #[]) (mvT hZ (hw _ (List.mem_of_getElem? (i := 114) rfl)))) (mvT hZ (hw _ (List.mem_of_getElem? (i := 114) rfl))) (mvT hZ (hw _ (List.mem_of_getElem? (i := 113) rfl))) (by decide) (backOf (W := 0) (rm_17 l Z a0 hw [] b73 b67 T74.heap n0 (Nat.le_trans Z0 Kh74.1) (Fq73.keep K74 nin0)) hZ (hw _ (List.mem_of_getElem? (i := 115) rfl)) (hw _ (List.mem_of_getElem? (i := 76) rfl)) (by decide) (by decide)) q75a q75c (g := (mkF m 94 #[.val (.int p1), .val (.int p2), .val (.long q3), .second, .val (.long q4), .second, .val (.int p5), .val (.int p6), .val (.ref b59), .val (.ref b62), .val (.ref b66), .val (.ref b67), .val (.ref (own_rs ((p1 &&& (2147483647 : Int32)) % (9 : Int32)) r0 r1 r2 r3 r4 r5 r6 r7 r8)), .val (.ref b73), .val (.ref b74)] [(.ref b73)])) rfl (by rw [hml]; rfl) (Steps.refl _) (argsL := []) (rest := []) (lenOf pd__28_29Lcom_2fexample_2fsanction_2fsanction_2fmodel_2fRequestEvent_3b rfl) rfl (by show 2 * 0 + _ ≤ _; exact Nat.le_of_eq rfl) (hb hby at_94) (fun _ _ => ⟨rfl, rfl, (by decide : 9 + 0 ≤ _), (by decide : 22 + 0 ≤ _)⟩)
  dsimp only [Pt.U, Pt.locs, Pt.cells, Pt.slots] at X75 l75 y75 z75 st75 hQ75
  subst l75 y75 z75
  obtain ⟨rfl, Nq75, e75⟩ := hQ75
  have N75 := Fr.app N74 Nq75
  obtain ⟨cq76, kq76, q76a, q76b, q76c⟩ := isOf hZ e75 (Ee73.keep K74)
  obtain ⟨_, _, ⟨T76, L76, c76_, n76_⟩, -, X76, ⟨Lc76, hQ76, l76, y76, z76⟩, st76⟩ := X75.virtualBack hx (y := (⟨"com/example/sanction/sanction/model/Decision", "getVerdict", "()Lcom/example/sanction/sanction/model/Verdict;"⟩ : MethodName)) (z := (⟨"com/example/sanction/sanction/model/Decision", "getVerdict", "()Lcom/example/sanction/sanction/model/Verdict;"⟩ : MethodName)) hown (mvT hZ (hw _ (List.mem_of_getElem? (i := 116) rfl))) (mvT hZ (hw _ (List.mem_of_getElem? (i := 117) rfl))) (notFace_of_selects (args := #[]) (mvT hZ (hw _ (List.mem_of_getElem? (i := 119) rfl)))) (mvT hZ (hw _ (List.mem_of_getElem? (i := 119) rfl))) (mvT hZ (hw _ (List.mem_of_getElem? (i := 118) rfl))) (by decide) (backOf (W := 0) (rm_18 l Z a0 hw [] b73 aD T74.heap n0 (Nat.le_trans Z0 Kh74.1) (Fv73.keep K74 nin0)) hZ (hw _ (List.mem_of_getElem? (i := 120) rfl)) (hw _ (List.mem_of_getElem? (i := 76) rfl)) (by decide) (by decide)) q76a q76c (g := (mkF m 104 #[.val (.int p1), .val (.int p2), .val (.long q3), .second, .val (.long q4), .second, .val (.int p5), .val (.int p6), .val (.ref b59), .val (.ref b62), .val (.ref b66), .val (.ref b67), .val (.ref (own_rs ((p1 &&& (2147483647 : Int32)) % (9 : Int32)) r0 r1 r2 r3 r4 r5 r6 r7 r8)), .val (.ref b73), .val (.ref b74)] [(.ref b73)])) rfl (by rw [hml]; rfl) (Steps.refl _) (argsL := []) (rest := []) (lenOf pd__28_29Lcom_2fexample_2fsanction_2fsanction_2fmodel_2fVerdict_3b rfl) rfl (by show 2 * 0 + _ ≤ _; exact Nat.le_of_eq rfl) (hb hby at_104) (fun _ _ => ⟨rfl, e75, (by decide : 9 + 0 ≤ _), (by decide : 22 + 0 ≤ _)⟩)
  dsimp only [Pt.U, Pt.locs, Pt.cells, Pt.slots] at X76 l76 y76 z76 st76 hQ76
  subst l76 y76 z76
  obtain ⟨rfl, Nq76, e76⟩ := hQ76
  have N76 := Fr.app N75 Nq76
  have f77 := ((f69.keep K73 all0).keep K74 all0)
  obtain ⟨T78, X78, e78, st78⟩ := getS2 X76 hx hZ hown (host := "") (Or.inl (hw _ (List.mem_of_getElem? (i := 121) rfl))) Via.refl e76 (S_DENY.ext f77.2) (g := (mkF m 107 #[.val (.int p1), .val (.int p2), .val (.long q3), .second, .val (.long q4), .second, .val (.int p5), .val (.int p6), .val (.ref b59), .val (.ref b62), .val (.ref b66), .val (.ref b67), .val (.ref (own_rs ((p1 &&& (2147483647 : Int32)) % (9 : Int32)) r0 r1 r2 r3 r4 r5 r6 r7 r8)), .val (.ref b73), .val (.ref b74)] [(.ref aD)])) rfl (hb hby at_107)
  obtain ⟨cq79, kq79, q79a, q79b, q79c⟩ := isOf hZ e78 (Ee73.keep K74)
  obtain ⟨_, _, ⟨T79, L79, c79_, n79_⟩, -, X79, ⟨Lc79, hQ79, l79, y79, z79⟩, st79⟩ := X78.virtualBack hx (y := (⟨"com/example/sanction/sanction/model/Decision", "getReason", "()Lcom/example/sanction/sanction/model/Reason;"⟩ : MethodName)) (z := (⟨"com/example/sanction/sanction/model/Decision", "getReason", "()Lcom/example/sanction/sanction/model/Reason;"⟩ : MethodName)) hown (mvT hZ (hw _ (List.mem_of_getElem? (i := 122) rfl))) (mvT hZ (hw _ (List.mem_of_getElem? (i := 123) rfl))) (notFace_of_selects (args := #[]) (mvT hZ (hw _ (List.mem_of_getElem? (i := 125) rfl)))) (mvT hZ (hw _ (List.mem_of_getElem? (i := 125) rfl))) (mvT hZ (hw _ (List.mem_of_getElem? (i := 124) rfl))) (by decide) (backOf (W := 0) (rm_19 l Z a0 hw [] b73 (own_rs ((p1 &&& (2147483647 : Int32)) % (9 : Int32)) r0 r1 r2 r3 r4 r5 r6 r7 r8) T74.heap n0 (Nat.le_trans Z0 Kh74.1) (Fs73.keep K74 nin0)) hZ (hw _ (List.mem_of_getElem? (i := 126) rfl)) (hw _ (List.mem_of_getElem? (i := 76) rfl)) (by decide) (by decide)) q79a q79c (g := (mkF m 115 #[.val (.int p1), .val (.int p2), .val (.long q3), .second, .val (.long q4), .second, .val (.int p5), .val (.int p6), .val (.ref b59), .val (.ref b62), .val (.ref b66), .val (.ref b67), .val (.ref (own_rs ((p1 &&& (2147483647 : Int32)) % (9 : Int32)) r0 r1 r2 r3 r4 r5 r6 r7 r8)), .val (.ref b73), .val (.ref b74)] [(.ref b73)])) rfl (by rw [hml]; rfl) (Steps.refl _) (argsL := []) (rest := []) (lenOf pd__28_29Lcom_2fexample_2fsanction_2fsanction_2fmodel_2fReason_3b rfl) rfl (by show 2 * 0 + _ ≤ _; exact Nat.le_of_eq rfl) (hb hby at_115) (fun _ _ => ⟨rfl, e78, (by decide : 9 + 0 ≤ _), (by decide : 22 + 0 ≤ _)⟩)
  dsimp only [Pt.U, Pt.locs, Pt.cells, Pt.slots] at X79 l79 y79 z79 st79 hQ79
  subst l79 y79 z79
  obtain ⟨rfl, Nq79, e79⟩ := hQ79
  have N79 := Fr.app N76 Nq79
  obtain ⟨cl80, Ar80, -, S80, M80, -, -⟩ := id (Vr74)
  have hc131 : (0 : Int32) = (0 : Int32) := rfl
  obtain ⟨fs, hr, hrun, hended, hW, hsame⟩ := X79.leave (v := some (.int (1 : Int32))) (fun h => by rw [Bd.returns] at h; cases h)
  refine ⟨_, _, pre0 _ ?_, hrun, hended, _, _, rfl, ?_, ⟨_, rfl⟩, hW, hsame.mono (by decide) (by decide)⟩
  · show Steps p.tables e below (s₁.setTop (mkF m 0 #[.val (.int p1), .val (.int p2), .val (.long q3), .second, .val (.long q4), .second, .val (.int p5), .val (.int p6), .unset, .unset, .unset, .unset, .unset, .unset, .unset] [])) _
    refine XS.iconst X0.here hx rfl (hb hby at_0) ?_
    show Steps p.tables e below (s₁.setTop (mkF m 1 #[.val (.int p1), .val (.int p2), .val (.long q3), .second, .val (.long q4), .second, .val (.int p5), .val (.int p6), .unset, .unset, .unset, .unset, .unset, .unset, .unset] [(.int (2 : Int32))])) _
    refine st59 _ ?_
    show Steps p.tables e below (T59.setTop (mkF m 3 #[.val (.int p1), .val (.int p2), .val (.long q3), .second, .val (.long q4), .second, .val (.int p5), .val (.int p6), .unset, .unset, .unset, .unset, .unset, .unset, .unset] [(.ref b59)])) _
    refine XS.astore X59.here hx rfl (hb hby at_3) rfl rfl (l' := #[.val (.int p1), .val (.int p2), .val (.long q3), .second, .val (.long q4), .second, .val (.int p5), .val (.int p6), .val (.ref b59), .unset, .unset, .unset, .unset, .unset, .unset]) rfl ?_
    show Steps p.tables e below (T59.setTop (mkF m 5 #[.val (.int p1), .val (.int p2), .val (.long q3), .second, .val (.long q4), .second, .val (.int p5), .val (.int p6), .val (.ref b59), .unset, .unset, .unset, .unset, .unset, .unset] [])) _
    refine XS.aload X59.here hx rfl (hb hby at_5) rfl rfl ?_
    show Steps p.tables e below (T59.setTop (mkF m 7 #[.val (.int p1), .val (.int p2), .val (.long q3), .second, .val (.long q4), .second, .val (.int p5), .val (.int p6), .val (.ref b59), .unset, .unset, .unset, .unset, .unset, .unset] [(.ref b59)])) _
    refine XS.iconst X59.here hx rfl (hb hby at_7) ?_
    show Steps p.tables e below (T59.setTop (mkF m 8 #[.val (.int p1), .val (.int p2), .val (.long q3), .second, .val (.long q4), .second, .val (.int p5), .val (.int p6), .val (.ref b59), .unset, .unset, .unset, .unset, .unset, .unset] [(.int (0 : Int32)), (.ref b59)])) _
    refine XS.iload X59.here hx rfl (hb hby at_8) rfl ?_
    show Steps p.tables e below (T59.setTop (mkF m 10 #[.val (.int p1), .val (.int p2), .val (.long q3), .second, .val (.long q4), .second, .val (.int p5), .val (.int p6), .val (.ref b59), .unset, .unset, .unset, .unset, .unset, .unset] [(.int p5), (.int (0 : Int32)), (.ref b59)])) _
    refine XS.sipush X59.here hx rfl (hb hby at_10) ?_
    show Steps p.tables e below (T59.setTop (mkF m 13 #[.val (.int p1), .val (.int p2), .val (.long q3), .second, .val (.long q4), .second, .val (.int p5), .val (.int p6), .val (.ref b59), .unset, .unset, .unset, .unset, .unset, .unset] [(.int (255 : Int32)), (.int p5), (.int (0 : Int32)), (.ref b59)])) _
    refine XS.iand X59.here hx rfl (hb hby at_13) rfl ?_
    show Steps p.tables e below (T59.setTop (mkF m 14 #[.val (.int p1), .val (.int p2), .val (.long q3), .second, .val (.long q4), .second, .val (.int p5), .val (.int p6), .val (.ref b59), .unset, .unset, .unset, .unset, .unset, .unset] [(.int (p5 &&& (255 : Int32))), (.int (0 : Int32)), (.ref b59)])) _
    refine XS.i2c X59.here hx rfl (hb hby at_14) rfl ?_
    show Steps p.tables e below (T59.setTop (mkF m 15 #[.val (.int p1), .val (.int p2), .val (.long q3), .second, .val (.long q4), .second, .val (.int p5), .val (.int p6), .val (.ref b59), .unset, .unset, .unset, .unset, .unset, .unset] [(.int ((p5 &&& (255 : Int32)).toUInt32.toUInt16.toUInt32.toInt32)), (.int (0 : Int32)), (.ref b59)])) _
    rw [← e_c0]
    show Steps p.tables e below (T59.setTop (mkF m 15 #[.val (.int p1), .val (.int p2), .val (.long q3), .second, .val (.long q4), .second, .val (.int p5), .val (.int p6), .val (.ref b59), .unset, .unset, .unset, .unset, .unset, .unset] [(.int c0), (.int (0 : Int32)), (.ref b59)])) _
    refine st60 _ ?_
    show Steps p.tables e below (T60.setTop (mkF m 16 #[.val (.int p1), .val (.int p2), .val (.long q3), .second, .val (.long q4), .second, .val (.int p5), .val (.int p6), .val (.ref b59), .unset, .unset, .unset, .unset, .unset, .unset] [])) _
    refine XS.aload X60.here hx rfl (hb hby at_16) rfl rfl ?_
    show Steps p.tables e below (T60.setTop (mkF m 18 #[.val (.int p1), .val (.int p2), .val (.long q3), .second, .val (.long q4), .second, .val (.int p5), .val (.int p6), .val (.ref b59), .unset, .unset, .unset, .unset, .unset, .unset] [(.ref b59)])) _
    refine XS.iconst X60.here hx rfl (hb hby at_18) ?_
    show Steps p.tables e below (T60.setTop (mkF m 19 #[.val (.int p1), .val (.int p2), .val (.long q3), .second, .val (.long q4), .second, .val (.int p5), .val (.int p6), .val (.ref b59), .unset, .unset, .unset, .unset, .unset, .unset] [(.int (1 : Int32)), (.ref b59)])) _
    refine XS.iload X60.here hx rfl (hb hby at_19) rfl ?_
    show Steps p.tables e below (T60.setTop (mkF m 21 #[.val (.int p1), .val (.int p2), .val (.long q3), .second, .val (.long q4), .second, .val (.int p5), .val (.int p6), .val (.ref b59), .unset, .unset, .unset, .unset, .unset, .unset] [(.int p6), (.int (1 : Int32)), (.ref b59)])) _
    refine XS.sipush X60.here hx rfl (hb hby at_21) ?_
    show Steps p.tables e below (T60.setTop (mkF m 24 #[.val (.int p1), .val (.int p2), .val (.long q3), .second, .val (.long q4), .second, .val (.int p5), .val (.int p6), .val (.ref b59), .unset, .unset, .unset, .unset, .unset, .unset] [(.int (255 : Int32)), (.int p6), (.int (1 : Int32)), (.ref b59)])) _
    refine XS.iand X60.here hx rfl (hb hby at_24) rfl ?_
    show Steps p.tables e below (T60.setTop (mkF m 25 #[.val (.int p1), .val (.int p2), .val (.long q3), .second, .val (.long q4), .second, .val (.int p5), .val (.int p6), .val (.ref b59), .unset, .unset, .unset, .unset, .unset, .unset] [(.int (p6 &&& (255 : Int32))), (.int (1 : Int32)), (.ref b59)])) _
    refine XS.i2c X60.here hx rfl (hb hby at_25) rfl ?_
    show Steps p.tables e below (T60.setTop (mkF m 26 #[.val (.int p1), .val (.int p2), .val (.long q3), .second, .val (.long q4), .second, .val (.int p5), .val (.int p6), .val (.ref b59), .unset, .unset, .unset, .unset, .unset, .unset] [(.int ((p6 &&& (255 : Int32)).toUInt32.toUInt16.toUInt32.toInt32)), (.int (1 : Int32)), (.ref b59)])) _
    rw [← e_c1]
    show Steps p.tables e below (T60.setTop (mkF m 26 #[.val (.int p1), .val (.int p2), .val (.long q3), .second, .val (.long q4), .second, .val (.int p5), .val (.int p6), .val (.ref b59), .unset, .unset, .unset, .unset, .unset, .unset] [(.int c1), (.int (1 : Int32)), (.ref b59)])) _
    refine st61 _ ?_
    show Steps p.tables e below (T61.setTop (mkF m 27 #[.val (.int p1), .val (.int p2), .val (.long q3), .second, .val (.long q4), .second, .val (.int p5), .val (.int p6), .val (.ref b59), .unset, .unset, .unset, .unset, .unset, .unset] [])) _
    refine st62 _ ?_
    show Steps p.tables e below (T62.setTop (mkF m 30 #[.val (.int p1), .val (.int p2), .val (.long q3), .second, .val (.long q4), .second, .val (.int p5), .val (.int p6), .val (.ref b59), .unset, .unset, .unset, .unset, .unset, .unset] [(.ref b62)])) _
    refine XS.dup X62.here hx rfl (hb hby at_30) rfl rfl ?_
    show Steps p.tables e below (T62.setTop (mkF m 31 #[.val (.int p1), .val (.int p2), .val (.long q3), .second, .val (.long q4), .second, .val (.int p5), .val (.int p6), .val (.ref b59), .unset, .unset, .unset, .unset, .unset, .unset] [(.ref b62), (.ref b62)])) _
    refine XS.aload X62.here hx rfl (hb hby at_31) rfl rfl ?_
    show Steps p.tables e below (T62.setTop (mkF m 33 #[.val (.int p1), .val (.int p2), .val (.long q3), .second, .val (.long q4), .second, .val (.int p5), .val (.int p6), .val (.ref b59), .unset, .unset, .unset, .unset, .unset, .unset] [(.ref b59), (.ref b62), (.ref b62)])) _
    refine st65.trans ?_
    show Steps p.tables e below (T65.setTop (mkF m 36 #[.val (.int p1), .val (.int p2), .val (.long q3), .second, .val (.long q4), .second, .val (.int p5), .val (.int p6), .val (.ref b59), .unset, .unset, .unset, .unset, .unset, .unset] [(.ref b62)])) _
    refine XS.astore X65.here hx rfl (hb hby at_36) rfl rfl (l' := #[.val (.int p1), .val (.int p2), .val (.long q3), .second, .val (.long q4), .second, .val (.int p5), .val (.int p6), .val (.ref b59), .val (.ref b62), .unset, .unset, .unset, .unset, .unset]) rfl ?_
    show Steps p.tables e below (T65.setTop (mkF m 38 #[.val (.int p1), .val (.int p2), .val (.long q3), .second, .val (.long q4), .second, .val (.int p5), .val (.int p6), .val (.ref b59), .val (.ref b62), .unset, .unset, .unset, .unset, .unset] [])) _
    refine XS.iload X65.here hx rfl (hb hby at_38) rfl ?_
    show Steps p.tables e below (T65.setTop (mkF m 40 #[.val (.int p1), .val (.int p2), .val (.long q3), .second, .val (.long q4), .second, .val (.int p5), .val (.int p6), .val (.ref b59), .val (.ref b62), .unset, .unset, .unset, .unset, .unset] [(.int p5)])) _
    refine XS.bipush X65.here hx rfl (hb hby at_40) ?_
    show Steps p.tables e below (T65.setTop (mkF m 42 #[.val (.int p1), .val (.int p2), .val (.long q3), .second, .val (.long q4), .second, .val (.int p5), .val (.int p6), .val (.ref b59), .val (.ref b62), .unset, .unset, .unset, .unset, .unset] [(.int (8 : Int32)), (.int p5)])) _
    refine XS.iushr X65.here hx rfl (hb hby at_42) rfl ?_
    show Steps p.tables e below (T65.setTop (mkF m 43 #[.val (.int p1), .val (.int p2), .val (.long q3), .second, .val (.long q4), .second, .val (.int p5), .val (.int p6), .val (.ref b59), .val (.ref b62), .unset, .unset, .unset, .unset, .unset] [(.int ((p5.toUInt32 >>> ((8 : Int32) &&& 31).toUInt32).toInt32))])) _
    refine XS.sipush X65.here hx rfl (hb hby at_43) ?_
    show Steps p.tables e below (T65.setTop (mkF m 46 #[.val (.int p1), .val (.int p2), .val (.long q3), .second, .val (.long q4), .second, .val (.int p5), .val (.int p6), .val (.ref b59), .val (.ref b62), .unset, .unset, .unset, .unset, .unset] [(.int (255 : Int32)), (.int ((p5.toUInt32 >>> ((8 : Int32) &&& 31).toUInt32).toInt32))])) _
    refine XS.iand X65.here hx rfl (hb hby at_46) rfl ?_
    show Steps p.tables e below (T65.setTop (mkF m 47 #[.val (.int p1), .val (.int p2), .val (.long q3), .second, .val (.long q4), .second, .val (.int p5), .val (.int p6), .val (.ref b59), .val (.ref b62), .unset, .unset, .unset, .unset, .unset] [(.int (((p5.toUInt32 >>> ((8 : Int32) &&& 31).toUInt32).toInt32) &&& (255 : Int32)))])) _
    refine XS.i2c X65.here hx rfl (hb hby at_47) rfl ?_
    show Steps p.tables e below (T65.setTop (mkF m 48 #[.val (.int p1), .val (.int p2), .val (.long q3), .second, .val (.long q4), .second, .val (.int p5), .val (.int p6), .val (.ref b59), .val (.ref b62), .unset, .unset, .unset, .unset, .unset] [(.int ((((p5.toUInt32 >>> ((8 : Int32) &&& 31).toUInt32).toInt32) &&& (255 : Int32)).toUInt32.toUInt16.toUInt32.toInt32))])) _
    refine st66 _ ?_
    show Steps p.tables e below (T66.setTop (mkF m 51 #[.val (.int p1), .val (.int p2), .val (.long q3), .second, .val (.long q4), .second, .val (.int p5), .val (.int p6), .val (.ref b59), .val (.ref b62), .unset, .unset, .unset, .unset, .unset] [(.ref b66)])) _
    refine XS.astore X66.here hx rfl (hb hby at_51) rfl rfl (l' := #[.val (.int p1), .val (.int p2), .val (.long q3), .second, .val (.long q4), .second, .val (.int p5), .val (.int p6), .val (.ref b59), .val (.ref b62), .val (.ref b66), .unset, .unset, .unset, .unset]) rfl ?_
    show Steps p.tables e below (T66.setTop (mkF m 53 #[.val (.int p1), .val (.int p2), .val (.long q3), .second, .val (.long q4), .second, .val (.int p5), .val (.int p6), .val (.ref b59), .val (.ref b62), .val (.ref b66), .unset, .unset, .unset, .unset] [])) _
    refine st67 _ ?_
    show Steps p.tables e below (T67.setTop (mkF m 56 #[.val (.int p1), .val (.int p2), .val (.long q3), .second, .val (.long q4), .second, .val (.int p5), .val (.int p6), .val (.ref b59), .val (.ref b62), .val (.ref b66), .unset, .unset, .unset, .unset] [(.ref b67)])) _
    refine XS.dup X67.here hx rfl (hb hby at_56) rfl rfl ?_
    show Steps p.tables e below (T67.setTop (mkF m 57 #[.val (.int p1), .val (.int p2), .val (.long q3), .second, .val (.long q4), .second, .val (.int p5), .val (.int p6), .val (.ref b59), .val (.ref b62), .val (.ref b66), .unset, .unset, .unset, .unset] [(.ref b67), (.ref b67)])) _
    refine XS.lloadN X67.here hx rfl (hb hby at_57) rfl ?_
    show Steps p.tables e below (T67.setTop (mkF m 58 #[.val (.int p1), .val (.int p2), .val (.long q3), .second, .val (.long q4), .second, .val (.int p5), .val (.int p6), .val (.ref b59), .val (.ref b62), .val (.ref b66), .unset, .unset, .unset, .unset] [(.long q3), (.ref b67), (.ref b67)])) _
    refine XS.lload X67.here hx rfl (hb hby at_58) rfl ?_
    show Steps p.tables e below (T67.setTop (mkF m 60 #[.val (.int p1), .val (.int p2), .val (.long q3), .second, .val (.long q4), .second, .val (.int p5), .val (.int p6), .val (.ref b59), .val (.ref b62), .val (.ref b66), .unset, .unset, .unset, .unset] [(.long q4), (.long q3), (.ref b67), (.ref b67)])) _
    refine XS.iloadN X67.here hx rfl (hb hby at_60) rfl ?_
    show Steps p.tables e below (T67.setTop (mkF m 61 #[.val (.int p1), .val (.int p2), .val (.long q3), .second, .val (.long q4), .second, .val (.int p5), .val (.int p6), .val (.ref b59), .val (.ref b62), .val (.ref b66), .unset, .unset, .unset, .unset] [(.int p2), (.long q4), (.long q3), (.ref b67), (.ref b67)])) _
    refine XS.aload X67.here hx rfl (hb hby at_61) rfl rfl ?_
    show Steps p.tables e below (T67.setTop (mkF m 63 #[.val (.int p1), .val (.int p2), .val (.long q3), .second, .val (.long q4), .second, .val (.int p5), .val (.int p6), .val (.ref b59), .val (.ref b62), .val (.ref b66), .unset, .unset, .unset, .unset] [(.ref b62), (.int p2), (.long q4), (.long q3), (.ref b67), (.ref b67)])) _
    refine XS.aload X67.here hx rfl (hb hby at_63) rfl rfl ?_
    show Steps p.tables e below (T67.setTop (mkF m 65 #[.val (.int p1), .val (.int p2), .val (.long q3), .second, .val (.long q4), .second, .val (.int p5), .val (.int p6), .val (.ref b59), .val (.ref b62), .val (.ref b66), .unset, .unset, .unset, .unset] [(.ref b66), (.ref b62), (.int p2), (.long q4), (.long q3), (.ref b67), (.ref b67)])) _
    refine st68.trans ?_
    show Steps p.tables e below (T68.setTop (mkF m 68 #[.val (.int p1), .val (.int p2), .val (.long q3), .second, .val (.long q4), .second, .val (.int p5), .val (.int p6), .val (.ref b59), .val (.ref b62), .val (.ref b66), .unset, .unset, .unset, .unset] [(.ref b67)])) _
    refine XS.astore X68.here hx rfl (hb hby at_68) rfl rfl (l' := #[.val (.int p1), .val (.int p2), .val (.long q3), .second, .val (.long q4), .second, .val (.int p5), .val (.int p6), .val (.ref b59), .val (.ref b62), .val (.ref b66), .val (.ref b67), .unset, .unset, .unset]) rfl ?_
    show Steps p.tables e below (T68.setTop (mkF m 70 #[.val (.int p1), .val (.int p2), .val (.long q3), .second, .val (.long q4), .second, .val (.int p5), .val (.int p6), .val (.ref b59), .val (.ref b62), .val (.ref b66), .val (.ref b67), .unset, .unset, .unset] [])) _
    refine XS.iloadN X68.here hx rfl (hb hby at_70) rfl ?_
    show Steps p.tables e below (T68.setTop (mkF m 71 #[.val (.int p1), .val (.int p2), .val (.long q3), .second, .val (.long q4), .second, .val (.int p5), .val (.int p6), .val (.ref b59), .val (.ref b62), .val (.ref b66), .val (.ref b67), .unset, .unset, .unset] [(.int p1)])) _
    refine st70 _ ?_
    show Steps p.tables e below (T70.setTop (mkF m 74 #[.val (.int p1), .val (.int p2), .val (.long q3), .second, .val (.long q4), .second, .val (.int p5), .val (.int p6), .val (.ref b59), .val (.ref b62), .val (.ref b66), .val (.ref b67), .unset, .unset, .unset] [(.ref (own_rs ((p1 &&& (2147483647 : Int32)) % (9 : Int32)) r0 r1 r2 r3 r4 r5 r6 r7 r8))])) _
    refine XS.astore X70.here hx rfl (hb hby at_74) rfl rfl (l' := #[.val (.int p1), .val (.int p2), .val (.long q3), .second, .val (.long q4), .second, .val (.int p5), .val (.int p6), .val (.ref b59), .val (.ref b62), .val (.ref b66), .val (.ref b67), .val (.ref (own_rs ((p1 &&& (2147483647 : Int32)) % (9 : Int32)) r0 r1 r2 r3 r4 r5 r6 r7 r8)), .unset, .unset]) rfl ?_
    show Steps p.tables e below (T70.setTop (mkF m 76 #[.val (.int p1), .val (.int p2), .val (.long q3), .second, .val (.long q4), .second, .val (.int p5), .val (.int p6), .val (.ref b59), .val (.ref b62), .val (.ref b66), .val (.ref b67), .val (.ref (own_rs ((p1 &&& (2147483647 : Int32)) % (9 : Int32)) r0 r1 r2 r3 r4 r5 r6 r7 r8)), .unset, .unset] [])) _
    refine XS.aload X70.here hx rfl (hb hby at_76) rfl rfl ?_
    show Steps p.tables e below (T70.setTop (mkF m 78 #[.val (.int p1), .val (.int p2), .val (.long q3), .second, .val (.long q4), .second, .val (.int p5), .val (.int p6), .val (.ref b59), .val (.ref b62), .val (.ref b66), .val (.ref b67), .val (.ref (own_rs ((p1 &&& (2147483647 : Int32)) % (9 : Int32)) r0 r1 r2 r3 r4 r5 r6 r7 r8)), .unset, .unset] [(.ref b67)])) _
    refine XS.aload X70.here hx rfl (hb hby at_78) rfl rfl ?_
    show Steps p.tables e below (T70.setTop (mkF m 80 #[.val (.int p1), .val (.int p2), .val (.long q3), .second, .val (.long q4), .second, .val (.int p5), .val (.int p6), .val (.ref b59), .val (.ref b62), .val (.ref b66), .val (.ref b67), .val (.ref (own_rs ((p1 &&& (2147483647 : Int32)) % (9 : Int32)) r0 r1 r2 r3 r4 r5 r6 r7 r8)), .unset, .unset] [(.ref (own_rs ((p1 &&& (2147483647 : Int32)) % (9 : Int32)) r0 r1 r2 r3 r4 r5 r6 r7 r8)), (.ref b67)])) _
    refine st73 _ ?_
    show Steps p.tables e below (T73.setTop (mkF m 83 #[.val (.int p1), .val (.int p2), .val (.long q3), .second, .val (.long q4), .second, .val (.int p5), .val (.int p6), .val (.ref b59), .val (.ref b62), .val (.ref b66), .val (.ref b67), .val (.ref (own_rs ((p1 &&& (2147483647 : Int32)) % (9 : Int32)) r0 r1 r2 r3 r4 r5 r6 r7 r8)), .unset, .unset] [(.ref b73)])) _
    refine XS.astore X73.here hx rfl (hb hby at_83) rfl rfl (l' := #[.val (.int p1), .val (.int p2), .val (.long q3), .second, .val (.long q4), .second, .val (.int p5), .val (.int p6), .val (.ref b59), .val (.ref b62), .val (.ref b66), .val (.ref b67), .val (.ref (own_rs ((p1 &&& (2147483647 : Int32)) % (9 : Int32)) r0 r1 r2 r3 r4 r5 r6 r7 r8)), .val (.ref b73), .unset]) rfl ?_
    show Steps p.tables e below (T73.setTop (mkF m 85 #[.val (.int p1), .val (.int p2), .val (.long q3), .second, .val (.long q4), .second, .val (.int p5), .val (.int p6), .val (.ref b59), .val (.ref b62), .val (.ref b66), .val (.ref b67), .val (.ref (own_rs ((p1 &&& (2147483647 : Int32)) % (9 : Int32)) r0 r1 r2 r3 r4 r5 r6 r7 r8)), .val (.ref b73), .unset] [])) _
    refine XS.aload X73.here hx rfl (hb hby at_85) rfl rfl ?_
    show Steps p.tables e below (T73.setTop (mkF m 87 #[.val (.int p1), .val (.int p2), .val (.long q3), .second, .val (.long q4), .second, .val (.int p5), .val (.int p6), .val (.ref b59), .val (.ref b62), .val (.ref b66), .val (.ref b67), .val (.ref (own_rs ((p1 &&& (2147483647 : Int32)) % (9 : Int32)) r0 r1 r2 r3 r4 r5 r6 r7 r8)), .val (.ref b73), .unset] [(.ref b73)])) _
    refine st74.trans ?_
    show Steps p.tables e below (T74.setTop (mkF m 90 #[.val (.int p1), .val (.int p2), .val (.long q3), .second, .val (.long q4), .second, .val (.int p5), .val (.int p6), .val (.ref b59), .val (.ref b62), .val (.ref b66), .val (.ref b67), .val (.ref (own_rs ((p1 &&& (2147483647 : Int32)) % (9 : Int32)) r0 r1 r2 r3 r4 r5 r6 r7 r8)), .val (.ref b73), .unset] [(.ref b74)])) _
    refine XS.astore X74.here hx rfl (hb hby at_90) rfl rfl (l' := #[.val (.int p1), .val (.int p2), .val (.long q3), .second, .val (.long q4), .second, .val (.int p5), .val (.int p6), .val (.ref b59), .val (.ref b62), .val (.ref b66), .val (.ref b67), .val (.ref (own_rs ((p1 &&& (2147483647 : Int32)) % (9 : Int32)) r0 r1 r2 r3 r4 r5 r6 r7 r8)), .val (.ref b73), .val (.ref b74)]) rfl ?_
    show Steps p.tables e below (T74.setTop (mkF m 92 #[.val (.int p1), .val (.int p2), .val (.long q3), .second, .val (.long q4), .second, .val (.int p5), .val (.int p6), .val (.ref b59), .val (.ref b62), .val (.ref b66), .val (.ref b67), .val (.ref (own_rs ((p1 &&& (2147483647 : Int32)) % (9 : Int32)) r0 r1 r2 r3 r4 r5 r6 r7 r8)), .val (.ref b73), .val (.ref b74)] [])) _
    refine XS.aload X74.here hx rfl (hb hby at_92) rfl rfl ?_
    show Steps p.tables e below (T74.setTop (mkF m 94 #[.val (.int p1), .val (.int p2), .val (.long q3), .second, .val (.long q4), .second, .val (.int p5), .val (.int p6), .val (.ref b59), .val (.ref b62), .val (.ref b66), .val (.ref b67), .val (.ref (own_rs ((p1 &&& (2147483647 : Int32)) % (9 : Int32)) r0 r1 r2 r3 r4 r5 r6 r7 r8)), .val (.ref b73), .val (.ref b74)] [(.ref b73)])) _
    refine st75.trans ?_
    show Steps p.tables e below (T75.setTop (mkF m 97 #[.val (.int p1), .val (.int p2), .val (.long q3), .second, .val (.long q4), .second, .val (.int p5), .val (.int p6), .val (.ref b59), .val (.ref b62), .val (.ref b66), .val (.ref b67), .val (.ref (own_rs ((p1 &&& (2147483647 : Int32)) % (9 : Int32)) r0 r1 r2 r3 r4 r5 r6 r7 r8)), .val (.ref b73), .val (.ref b74)] [(.ref b67)])) _
    refine XS.aload X75.here hx rfl (hb hby at_97) rfl rfl ?_
    show Steps p.tables e below (T75.setTop (mkF m 99 #[.val (.int p1), .val (.int p2), .val (.long q3), .second, .val (.long q4), .second, .val (.int p5), .val (.int p6), .val (.ref b59), .val (.ref b62), .val (.ref b66), .val (.ref b67), .val (.ref (own_rs ((p1 &&& (2147483647 : Int32)) % (9 : Int32)) r0 r1 r2 r3 r4 r5 r6 r7 r8)), .val (.ref b73), .val (.ref b74)] [(.ref b67), (.ref b67)])) _
    refine Jvm.RoadKit.acmp (g := (mkF m 99 #[.val (.int p1), .val (.int p2), .val (.long q3), .second, .val (.long q4), .second, .val (.int p5), .val (.int p6), .val (.ref b59), .val (.ref b62), .val (.ref b66), .val (.ref b67), .val (.ref (own_rs ((p1 &&& (2147483647 : Int32)) % (9 : Int32)) r0 r1 r2 r3 r4 r5 r6 r7 r8)), .val (.ref b73), .val (.ref b74)] [(.ref b67), (.ref b67)])) X75 hx rfl rfl rfl (pc0 := 99) (pc' := 102) (same := true) rfl (hb hby at_99) rfl (decide_eq_true rfl) (by decide) (by decide) ?_
    show Steps p.tables e below (T75.setTop (mkF m 102 #[.val (.int p1), .val (.int p2), .val (.long q3), .second, .val (.long q4), .second, .val (.int p5), .val (.int p6), .val (.ref b59), .val (.ref b62), .val (.ref b66), .val (.ref b67), .val (.ref (own_rs ((p1 &&& (2147483647 : Int32)) % (9 : Int32)) r0 r1 r2 r3 r4 r5 r6 r7 r8)), .val (.ref b73), .val (.ref b74)] [])) _
    refine XS.aload X75.here hx rfl (hb hby at_102) rfl rfl ?_
    show Steps p.tables e below (T75.setTop (mkF m 104 #[.val (.int p1), .val (.int p2), .val (.long q3), .second, .val (.long q4), .second, .val (.int p5), .val (.int p6), .val (.ref b59), .val (.ref b62), .val (.ref b66), .val (.ref b67), .val (.ref (own_rs ((p1 &&& (2147483647 : Int32)) % (9 : Int32)) r0 r1 r2 r3 r4 r5 r6 r7 r8)), .val (.ref b73), .val (.ref b74)] [(.ref b73)])) _
    refine st76.trans ?_
    show Steps p.tables e below (T76.setTop (mkF m 107 #[.val (.int p1), .val (.int p2), .val (.long q3), .second, .val (.long q4), .second, .val (.int p5), .val (.int p6), .val (.ref b59), .val (.ref b62), .val (.ref b66), .val (.ref b67), .val (.ref (own_rs ((p1 &&& (2147483647 : Int32)) % (9 : Int32)) r0 r1 r2 r3 r4 r5 r6 r7 r8)), .val (.ref b73), .val (.ref b74)] [(.ref aD)])) _
    refine st78 _ ?_
    show Steps p.tables e below (T78.setTop (mkF m 110 #[.val (.int p1), .val (.int p2), .val (.long q3), .second, .val (.long q4), .second, .val (.int p5), .val (.int p6), .val (.ref b59), .val (.ref b62), .val (.ref b66), .val (.ref b67), .val (.ref (own_rs ((p1 &&& (2147483647 : Int32)) % (9 : Int32)) r0 r1 r2 r3 r4 r5 r6 r7 r8)), .val (.ref b73), .val (.ref b74)] [(.ref aD), (.ref aD)])) _
    refine Jvm.RoadKit.acmp (g := (mkF m 110 #[.val (.int p1), .val (.int p2), .val (.long q3), .second, .val (.long q4), .second, .val (.int p5), .val (.int p6), .val (.ref b59), .val (.ref b62), .val (.ref b66), .val (.ref b67), .val (.ref (own_rs ((p1 &&& (2147483647 : Int32)) % (9 : Int32)) r0 r1 r2 r3 r4 r5 r6 r7 r8)), .val (.ref b73), .val (.ref b74)] [(.ref aD), (.ref aD)])) X78 hx rfl rfl rfl (pc0 := 110) (pc' := 113) (same := true) rfl (hb hby at_110) rfl (decide_eq_true rfl) (by decide) (by decide) ?_
    show Steps p.tables e below (T78.setTop (mkF m 113 #[.val (.int p1), .val (.int p2), .val (.long q3), .second, .val (.long q4), .second, .val (.int p5), .val (.int p6), .val (.ref b59), .val (.ref b62), .val (.ref b66), .val (.ref b67), .val (.ref (own_rs ((p1 &&& (2147483647 : Int32)) % (9 : Int32)) r0 r1 r2 r3 r4 r5 r6 r7 r8)), .val (.ref b73), .val (.ref b74)] [])) _
    refine XS.aload X78.here hx rfl (hb hby at_113) rfl rfl ?_
    show Steps p.tables e below (T78.setTop (mkF m 115 #[.val (.int p1), .val (.int p2), .val (.long q3), .second, .val (.long q4), .second, .val (.int p5), .val (.int p6), .val (.ref b59), .val (.ref b62), .val (.ref b66), .val (.ref b67), .val (.ref (own_rs ((p1 &&& (2147483647 : Int32)) % (9 : Int32)) r0 r1 r2 r3 r4 r5 r6 r7 r8)), .val (.ref b73), .val (.ref b74)] [(.ref b73)])) _
    refine st79.trans ?_
    show Steps p.tables e below (T79.setTop (mkF m 118 #[.val (.int p1), .val (.int p2), .val (.long q3), .second, .val (.long q4), .second, .val (.int p5), .val (.int p6), .val (.ref b59), .val (.ref b62), .val (.ref b66), .val (.ref b67), .val (.ref (own_rs ((p1 &&& (2147483647 : Int32)) % (9 : Int32)) r0 r1 r2 r3 r4 r5 r6 r7 r8)), .val (.ref b73), .val (.ref b74)] [(.ref (own_rs ((p1 &&& (2147483647 : Int32)) % (9 : Int32)) r0 r1 r2 r3 r4 r5 r6 r7 r8))])) _
    refine XS.aload X79.here hx rfl (hb hby at_118) rfl rfl ?_
    show Steps p.tables e below (T79.setTop (mkF m 120 #[.val (.int p1), .val (.int p2), .val (.long q3), .second, .val (.long q4), .second, .val (.int p5), .val (.int p6), .val (.ref b59), .val (.ref b62), .val (.ref b66), .val (.ref b67), .val (.ref (own_rs ((p1 &&& (2147483647 : Int32)) % (9 : Int32)) r0 r1 r2 r3 r4 r5 r6 r7 r8)), .val (.ref b73), .val (.ref b74)] [(.ref (own_rs ((p1 &&& (2147483647 : Int32)) % (9 : Int32)) r0 r1 r2 r3 r4 r5 r6 r7 r8)), (.ref (own_rs ((p1 &&& (2147483647 : Int32)) % (9 : Int32)) r0 r1 r2 r3 r4 r5 r6 r7 r8))])) _
    refine Jvm.RoadKit.acmp (g := (mkF m 120 #[.val (.int p1), .val (.int p2), .val (.long q3), .second, .val (.long q4), .second, .val (.int p5), .val (.int p6), .val (.ref b59), .val (.ref b62), .val (.ref b66), .val (.ref b67), .val (.ref (own_rs ((p1 &&& (2147483647 : Int32)) % (9 : Int32)) r0 r1 r2 r3 r4 r5 r6 r7 r8)), .val (.ref b73), .val (.ref b74)] [(.ref (own_rs ((p1 &&& (2147483647 : Int32)) % (9 : Int32)) r0 r1 r2 r3 r4 r5 r6 r7 r8)), (.ref (own_rs ((p1 &&& (2147483647 : Int32)) % (9 : Int32)) r0 r1 r2 r3 r4 r5 r6 r7 r8))])) X79 hx rfl rfl rfl (pc0 := 120) (pc' := 123) (same := true) rfl (hb hby at_120) rfl (decide_eq_true rfl) (by decide) (by decide) ?_
    show Steps p.tables e below (T79.setTop (mkF m 123 #[.val (.int p1), .val (.int p2), .val (.long q3), .second, .val (.long q4), .second, .val (.int p5), .val (.int p6), .val (.ref b59), .val (.ref b62), .val (.ref b66), .val (.ref b67), .val (.ref (own_rs ((p1 &&& (2147483647 : Int32)) % (9 : Int32)) r0 r1 r2 r3 r4 r5 r6 r7 r8)), .val (.ref b73), .val (.ref b74)] [])) _
    refine XS.aload X79.here hx rfl (hb hby at_123) rfl rfl ?_
    show Steps p.tables e below (T79.setTop (mkF m 125 #[.val (.int p1), .val (.int p2), .val (.long q3), .second, .val (.long q4), .second, .val (.int p5), .val (.int p6), .val (.ref b59), .val (.ref b62), .val (.ref b66), .val (.ref b67), .val (.ref (own_rs ((p1 &&& (2147483647 : Int32)) % (9 : Int32)) r0 r1 r2 r3 r4 r5 r6 r7 r8)), .val (.ref b73), .val (.ref b74)] [(.ref b74)])) _
    refine XS.ifnullNo X79.here hx rfl (hb hby at_125) rfl ?_
    show Steps p.tables e below (T79.setTop (mkF m 128 #[.val (.int p1), .val (.int p2), .val (.long q3), .second, .val (.long q4), .second, .val (.int p5), .val (.int p6), .val (.ref b59), .val (.ref b62), .val (.ref b66), .val (.ref b67), .val (.ref (own_rs ((p1 &&& (2147483647 : Int32)) % (9 : Int32)) r0 r1 r2 r3 r4 r5 r6 r7 r8)), .val (.ref b73), .val (.ref b74)] [])) _
    refine XS.aload X79.here hx rfl (hb hby at_128) rfl rfl ?_
    show Steps p.tables e below (T79.setTop (mkF m 130 #[.val (.int p1), .val (.int p2), .val (.long q3), .second, .val (.long q4), .second, .val (.int p5), .val (.int p6), .val (.ref b59), .val (.ref b62), .val (.ref b66), .val (.ref b67), .val (.ref (own_rs ((p1 &&& (2147483647 : Int32)) % (9 : Int32)) r0 r1 r2 r3 r4 r5 r6 r7 r8)), .val (.ref b73), .val (.ref b74)] [(.ref b74)])) _
    refine X79.arraylength hx (by rw [e79]; exact Ar80.1) (State.isArrayOf_alike hZ.alike Ar80.2.1) (g := (mkF m 130 #[.val (.int p1), .val (.int p2), .val (.long q3), .second, .val (.long q4), .second, .val (.int p5), .val (.int p6), .val (.ref b59), .val (.ref b62), .val (.ref b66), .val (.ref b67), .val (.ref (own_rs ((p1 &&& (2147483647 : Int32)) % (9 : Int32)) r0 r1 r2 r3 r4 r5 r6 r7 r8)), .val (.ref b73), .val (.ref b74)] [(.ref b74)])) rfl rfl (hb hby at_130) _ ?_
    rw [len_of S80 M80]
    show Steps p.tables e below (T79.setTop (mkF m 131 #[.val (.int p1), .val (.int p2), .val (.long q3), .second, .val (.long q4), .second, .val (.int p5), .val (.int p6), .val (.ref b59), .val (.ref b62), .val (.ref b66), .val (.ref b67), .val (.ref (own_rs ((p1 &&& (2147483647 : Int32)) % (9 : Int32)) r0 r1 r2 r3 r4 r5 r6 r7 r8)), .val (.ref b73), .val (.ref b74)] [(.int (0 : Int32))])) _
    refine XS.ifNo X79.here hx rfl (hb hby at_131) rfl ((if0 _ _).trans (teq hc131).2) ?_
    show Steps p.tables e below (T79.setTop (mkF m 134 #[.val (.int p1), .val (.int p2), .val (.long q3), .second, .val (.long q4), .second, .val (.int p5), .val (.int p6), .val (.ref b59), .val (.ref b62), .val (.ref b66), .val (.ref b67), .val (.ref (own_rs ((p1 &&& (2147483647 : Int32)) % (9 : Int32)) r0 r1 r2 r3 r4 r5 r6 r7 r8)), .val (.ref b73), .val (.ref b74)] [])) _
    refine XS.iconst X79.here hx rfl (hb hby at_134) ?_
    show Steps p.tables e below (T79.setTop (mkF m 135 #[.val (.int p1), .val (.int p2), .val (.long q3), .second, .val (.long q4), .second, .val (.int p5), .val (.int p6), .val (.ref b59), .val (.ref b62), .val (.ref b66), .val (.ref b67), .val (.ref (own_rs ((p1 &&& (2147483647 : Int32)) % (9 : Int32)) r0 r1 r2 r3 r4 r5 r6 r7 r8)), .val (.ref b73), .val (.ref b74)] [(.int (1 : Int32))])) _
    refine XS.goto X79.here hx rfl (pc0 := 135) (pc' := 139) rfl (hb hby at_135) (by decide) (by decide) ?_
    show Steps p.tables e below (T79.setTop (mkF m 139 #[.val (.int p1), .val (.int p2), .val (.long q3), .second, .val (.long q4), .second, .val (.int p5), .val (.int p6), .val (.ref b59), .val (.ref b62), .val (.ref b66), .val (.ref b67), .val (.ref (own_rs ((p1 &&& (2147483647 : Int32)) % (9 : Int32)) r0 r1 r2 r3 r4 r5 r6 r7 r8)), .val (.ref b73), .val (.ref b74)] [(.int (1 : Int32))])) _
    exact retN X79 hx (t := .boolean) Bd.returns (by simp) (hb hby at_139) hr
  · show Q_0 Z p1 p2 q3 q4 p5 p6 h0 n0 _ T79.heap _
    rw [e79]
    exact ⟨rfl, N79⟩
set_option maxRecDepth 65536 in
set_option maxHeartbeats 40000000 in
theorem comes_1 {Post : Tables → Env → Array Value → State → Outcome → State → Prop} (hpost : ∀ tb e args s v u, (limb_1_1.after args s (.returned v) u = true ∧ limb_1_2.after args s (.returned v) u = true ∧ True) → FrameEnd s (.returned v) u (Jvm.fieldLocs frame_1_writes args s ++ Jvm.arrayLocs frame_1_arrays args s ++ Jvm.staticLocs frame_1_statics s) 32 128 → Post tb e args s (.returned v) u) :
    ArmFor flags0 classFile x code maxLocals ret World_1 tables_1 room_1 Calls_1 rest_1 Pre_1 Post := by
  intro l hfl _ _ p e ha hc hk s m args below hf hA hF happ hP
  obtain ⟨hcalls, hrest, hpre⟩ := hP
  obtain ⟨-, -, -, hnamed, -, -, -, hat⟩ := (Spec.applies_iff hf).mp happ
  obtain ⟨hg, hn⟩ := and_e (Cond.before_iff.mp (show (Jvm.Cond.and given_1 narrow_1).before args s = true from hpre))
  obtain ⟨g81, g82⟩ := and_e hg
  obtain ⟨g83, g84⟩ := and_e g82
  obtain ⟨g85, g86⟩ := and_e g84
  obtain ⟨g87, g88⟩ := and_e g86
  obtain ⟨g89, g90⟩ := and_e g88
  obtain ⟨g91, g92⟩ := and_e g90
  obtain ⟨k93, k94⟩ := and_e hn
  obtain ⟨k95, k96⟩ := and_e k94
  obtain ⟨k97, k98⟩ := and_e k96
  obtain ⟨k99, k100⟩ := and_e k98
  obtain ⟨k101, k102⟩ := and_e k100
  obtain ⟨k103, k104⟩ := and_e k102
  obtain ⟨k105, k106⟩ := and_e k104
  obtain ⟨k107, k108⟩ := and_e k106
  obtain ⟨k109, k110⟩ := and_e k108
  obtain ⟨k111, k112⟩ := and_e k110
  obtain ⟨k113, k114⟩ := and_e k112
  obtain ⟨k115, k116⟩ := and_e k114
  obtain ⟨w0, w1, w2, w3, w4, w5, rfl⟩ : ∃ w0 w1 w2 w3 w4 w5 : Value, args = #[w0, w1, w2, w3, w4, w5] := by
    have hs : args.size = 6 := by simpa [Cond.value, given_1] using g81
    obtain ⟨L⟩ := args
    match L, hs with
    | [w0, w1, w2, w3, w4, w5], _ => exact ⟨w0, w1, w2, w3, w4, w5, rfl⟩
  have hw := fun d (hd : d ∈ tables_1) => atoms_spec (ws := Jvm.Cond.code x code maxLocals ret :: tables_1) hat d (List.mem_cons_of_mem _ hd)
  have hfit : Fit s := fun {y c} hc i hi => by
    obtain ⟨ha, rfl⟩ := Array.getElem?_eq_some_iff.mp hc
    have q := List.all_eq_true.mp ((Array.all_eq_true_iff_forall_mem.mp hF) _ (Array.getElem_mem ha)) i (List.mem_range.mpr hi)
    simpa [Array.getElem?_eq_getElem hi] using q
  obtain ⟨hsets, hown0⟩ := atoms_of _ (rest_1_c_eq ▸ (show rest_1_c.before _ s = true from hrest))
  have hr0 := Cond.before_iff.mp hown0
  obtain ⟨i0, ei0⟩ := is_v g83
  obtain rfl : w0 = (.int i0) := Option.some.inj ei0
  obtain ⟨i1, ei1⟩ := is_v g85
  obtain rfl : w1 = (.int i1) := Option.some.inj ei1
  obtain ⟨i2, ei2⟩ := isL_v g87
  obtain rfl : w2 = (.long i2) := Option.some.inj ei2
  obtain ⟨i3, ei3⟩ := isL_v g89
  obtain rfl : w3 = (.long i3) := Option.some.inj ei3
  obtain ⟨i4, ei4⟩ := is_v g91
  obtain rfl : w4 = (.int i4) := Option.some.inj ei4
  obtain ⟨i5, ei5⟩ := is_v g92
  obtain rfl : w5 = (.int i5) := Option.some.inj ei5
  obtain ⟨a_INPUT, v_INPUT⟩ := exa_v k93
  have S_INPUT : Sta s s.heap "com/example/sanction/sanction/model/Reason" "INPUT" "Lcom/example/sanction/sanction/model/Reason;" (.ref a_INPUT) := Sta.start v_INPUT (Or.inr ⟨(hw _ (List.mem_of_getElem? (i := 72) rfl)), (hw _ (List.mem_of_getElem? (i := 73) rfl))⟩)
  have E_INPUT : Exa s s.heap a_INPUT "com/example/sanction/sanction/model/Reason" := Exa.start v_INPUT k93
  obtain ⟨a_DENY, v_DENY⟩ := exa_v k95
  have S_DENY : Sta s s.heap "com/example/sanction/sanction/model/Verdict" "DENY" "Lcom/example/sanction/sanction/model/Verdict;" (.ref a_DENY) := Sta.start v_DENY (Or.inr ⟨(hw _ (List.mem_of_getElem? (i := 81) rfl)), (hw _ (List.mem_of_getElem? (i := 82) rfl))⟩)
  have E_DENY : Exa s s.heap a_DENY "com/example/sanction/sanction/model/Verdict" := Exa.start v_DENY k95
  obtain ⟨a_NO_PATH, v_NO_PATH⟩ := arr_v k97
  have S_NO_PATH : Sta s s.heap "com/example/sanction/sanction/model/Decision" "NO_PATH" "[I" (.ref a_NO_PATH) := Sta.start v_NO_PATH (Or.inr ⟨(hw _ (List.mem_of_getElem? (i := 76) rfl)), (hw _ (List.mem_of_getElem? (i := 84) rfl))⟩)
  obtain ⟨c_NO_PATH, A_NO_PATH⟩ := Arr.start v_NO_PATH k97
  have E_NO_PATH : Exa s s.heap a_NO_PATH "[I" := Exa.start v_NO_PATH k99
  have l_NO_PATH := own_eqI k101
  obtain ⟨a_REFUSED, v_REFUSED⟩ := exa_v k103
  have S_REFUSED : Sta s s.heap "com/example/sanction/sanction/model/Reason" "REFUSED" "Lcom/example/sanction/sanction/model/Reason;" (.ref a_REFUSED) := Sta.start v_REFUSED (Or.inr ⟨(hw _ (List.mem_of_getElem? (i := 72) rfl)), (hw _ (List.mem_of_getElem? (i := 128) rfl))⟩)
  have E_REFUSED : Exa s s.heap a_REFUSED "com/example/sanction/sanction/model/Reason" := Exa.start v_REFUSED k103
  obtain ⟨a_REDUCED, v_REDUCED⟩ := exa_v k105
  have S_REDUCED : Sta s s.heap "com/example/sanction/sanction/model/Reason" "REDUCED" "Lcom/example/sanction/sanction/model/Reason;" (.ref a_REDUCED) := Sta.start v_REDUCED (Or.inr ⟨(hw _ (List.mem_of_getElem? (i := 72) rfl)), (hw _ (List.mem_of_getElem? (i := 130) rfl))⟩)
  have E_REDUCED : Exa s s.heap a_REDUCED "com/example/sanction/sanction/model/Reason" := Exa.start v_REDUCED k105
  obtain ⟨a_STANDING, v_STANDING⟩ := exa_v k107
  have S_STANDING : Sta s s.heap "com/example/sanction/sanction/model/Reason" "STANDING" "Lcom/example/sanction/sanction/model/Reason;" (.ref a_STANDING) := Sta.start v_STANDING (Or.inr ⟨(hw _ (List.mem_of_getElem? (i := 72) rfl)), (hw _ (List.mem_of_getElem? (i := 132) rfl))⟩)
  have E_STANDING : Exa s s.heap a_STANDING "com/example/sanction/sanction/model/Reason" := Exa.start v_STANDING k107
  obtain ⟨a_NO_INPUT, v_NO_INPUT⟩ := exa_v k109
  have S_NO_INPUT : Sta s s.heap "com/example/sanction/sanction/model/Reason" "NO_INPUT" "Lcom/example/sanction/sanction/model/Reason;" (.ref a_NO_INPUT) := Sta.start v_NO_INPUT (Or.inr ⟨(hw _ (List.mem_of_getElem? (i := 72) rfl)), (hw _ (List.mem_of_getElem? (i := 134) rfl))⟩)
  have E_NO_INPUT : Exa s s.heap a_NO_INPUT "com/example/sanction/sanction/model/Reason" := Exa.start v_NO_INPUT k109
  obtain ⟨a_BINDING, v_BINDING⟩ := exa_v k111
  have S_BINDING : Sta s s.heap "com/example/sanction/sanction/model/Reason" "BINDING" "Lcom/example/sanction/sanction/model/Reason;" (.ref a_BINDING) := Sta.start v_BINDING (Or.inr ⟨(hw _ (List.mem_of_getElem? (i := 72) rfl)), (hw _ (List.mem_of_getElem? (i := 136) rfl))⟩)
  have E_BINDING : Exa s s.heap a_BINDING "com/example/sanction/sanction/model/Reason" := Exa.start v_BINDING k111
  obtain ⟨a_STALE_INPUT, v_STALE_INPUT⟩ := exa_v k113
  have S_STALE_INPUT : Sta s s.heap "com/example/sanction/sanction/model/Reason" "STALE_INPUT" "Lcom/example/sanction/sanction/model/Reason;" (.ref a_STALE_INPUT) := Sta.start v_STALE_INPUT (Or.inr ⟨(hw _ (List.mem_of_getElem? (i := 72) rfl)), (hw _ (List.mem_of_getElem? (i := 138) rfl))⟩)
  have E_STALE_INPUT : Exa s s.heap a_STALE_INPUT "com/example/sanction/sanction/model/Reason" := Exa.start v_STALE_INPUT k113
  obtain ⟨a_NEW_BINDING, v_NEW_BINDING⟩ := exa_v k115
  have S_NEW_BINDING : Sta s s.heap "com/example/sanction/sanction/model/Reason" "NEW_BINDING" "Lcom/example/sanction/sanction/model/Reason;" (.ref a_NEW_BINDING) := Sta.start v_NEW_BINDING (Or.inr ⟨(hw _ (List.mem_of_getElem? (i := 72) rfl)), (hw _ (List.mem_of_getElem? (i := 140) rfl))⟩)
  have E_NEW_BINDING : Exa s s.heap a_NEW_BINDING "com/example/sanction/sanction/model/Reason" := Exa.start v_NEW_BINDING k115
  obtain ⟨a_TRACED, v_TRACED⟩ := exa_v k116
  have S_TRACED : Sta s s.heap "com/example/sanction/sanction/model/Reason" "TRACED" "Lcom/example/sanction/sanction/model/Reason;" (.ref a_TRACED) := Sta.start v_TRACED (Or.inr ⟨(hw _ (List.mem_of_getElem? (i := 72) rfl)), (hw _ (List.mem_of_getElem? (i := 142) rfl))⟩)
  have E_TRACED : Exa s s.heap a_TRACED "com/example/sanction/sanction/model/Reason" := Exa.start v_TRACED k116
  have q_P := own_len l_NO_PATH v_NO_PATH (A_NO_PATH.fin (Vm.Alike.refl _))
  have V_P : Arv s s.heap a_NO_PATH c_NO_PATH.cls .int (0 : Int32) [] (.int (0 : Int32)) := Arv.start hfit A_NO_PATH q_P.1 q_P.2 (by decide) rfl trivial
  obtain ⟨zc, ezc⟩ := is_v (Cond.before_iff.mp (hsets _ (List.mem_of_getElem? (i := 1) rfl)))
  have S_C : Sta s s.heap "java/lang/String" "COMPACT_STRINGS" "Z" (.int zc) := Sta.start ezc (Or.inl (hsets _ (List.mem_of_getElem? (i := 0) rfl)))
  have hz : ¬ zc = 0 := gotF (Cond.eq_ints ezc (Term.int_eval (0))) (not_v (Cond.before_iff.mp (hsets _ (List.mem_of_getElem? (i := 2) rfl))))
  obtain ⟨n, o, h1, h2, h3, _, L, rfl, ⟨rfl, N⟩, hq⟩ := rm_0 l s _ hw tables_1 i0 i1 i2 i3 i4 i5 a_INPUT a_STANDING a_NO_INPUT a_STALE_INPUT a_REDUCED a_TRACED a_BINDING a_REFUSED a_NEW_BINDING a_DENY a_NO_PATH c_NO_PATH.cls zc s.heap s.heap.size (Nat.le_refl _) S_C hz (Old.start s) S_INPUT S_STANDING S_NO_INPUT S_STALE_INPUT S_REDUCED S_TRACED S_BINDING S_REFUSED S_NEW_BINDING S_DENY S_NO_PATH V_P E_NO_PATH p e ha hc hk s m _ below hf ((Spec.applies_iff_loose hf).mp happ).1 ⟨rfl, State.Warmed39.refl s, rfl⟩ trivial
  refine ⟨n, _, h1, h2, h3, hpost _ _ _ _ _ _ ⟨Cond.after_iff.mpr rfl, Cond.after_iff.mpr (eq_i res_at (Term.int_eval (1)) rfl), trivial⟩ ⟨hq.1, hq.2.1, (hq.2.2.sift fun y hy => Or.inr (N y hy)).mono (by decide) (by decide)⟩⟩
theorem main_1_1 : Claimed_1_1 := comes_1 fun _ _ _ _ _ _ h hF => ⟨h.1, hF⟩
theorem main_1_2 : Claimed_1_2 := comes_1 fun _ _ _ _ _ _ h hF => ⟨h.2.1, hF⟩
end Jvm.Pilot.@@N@@
namespace Jvm.Pilot.@@N@@
open Jvm Jvm.ClassFile Sem Op Lib Jvm.Free Jvm.Stand Jvm.Pilot.@@N@@.Jvm.D
/-! MADE BY PROGRAM (witnessworld.py) out of the Statement's table words and the real class files: 26 classes; the members and pool entries that the words name. The judged class is class 1, her method 2. -/
namespace start1
open Jvm.ClassFile
def u (s : String) : CpInfo := .utf8 (stringToUtf16 s)
/-- a pool by its gaps: so many unusable entries, then the entry; so many at the end -/
def gap : Nat → List CpInfo → List CpInfo
  | 0, r => r
  | n + 1, r => .unusable :: gap n r
def poolList (es : List (Nat × CpInfo)) (last : Nat) : List CpInfo := es.foldr (fun e r => gap e.1 (e.2 :: r)) (gap last [])
def pool (es : List (Nat × CpInfo)) (last : Nat) : Array CpInfo := ⟨poolList es last⟩
def fileOf (pool : Array CpInfo) (this : Nat) (attrs : Array Attribute := #[]) (ms : Array MethodInfo := #[]) (fl : Nat := 33) (sup : Nat := 0) (ifs : Array Nat := #[]) (fds : Array FieldInfo := #[]) : ClassFile where
  minorVersion := 0
  majorVersion := 65
  constantPool := pool
  accessFlags := fl
  thisClass := this
  superClass := sup
  interfaces := ifs
  fields := fds
  methods := ms
  attributes := attrs
def plain (name : String) (sup : Option ClassId) : Class where
  name := name
  kind := .ordinary
  loader := none
  accessFlags := 33
  super := sup
  interfaces := #[]
  cf := none
  fields := #[]
  methods := #[]
  instanceTypes := #[]
  staticTypes := #[]
  resolved := #[]
  callSites := []
  init := .initialized
  statics := none
  mirror := none

def pool0 : Array CpInfo := pool [(5, u "<init>"), (0, u "()V"), (1, .class_ 10), (1, u "java/lang/Object"), (85, u "clone"), (0, u "()Ljava/lang/Object;")] 26

def k0c0 : Code := { maxStack := 0, maxLocals := 1, code := object_method_1_code, exceptionTable := #[], attributes := #[] }
def k0m0 : Method := { name := "<init>", desc := "()V", sig := { parameters := [], returnType := none }, accessFlags := 1, code := some k0c0 }
def k0m1 : Method := { name := "clone", desc := "()Ljava/lang/Object;", sig := { parameters := [], returnType := some (.object "java/lang/Object") }, accessFlags := 260, code := none }
/-- java/lang/Object -/
def k0 : Class := { plain "java/lang/Object" none with
  accessFlags := 33
  interfaces := #[]
  cf := some (fileOf pool0 8 #[] #[{ accessFlags := 1, nameIndex := 5, descriptorIndex := 6, attributes := #[] }, { accessFlags := 260, nameIndex := 96, descriptorIndex := 97, attributes := #[] }] 33 0 #[] #[])
  fields := #[]
  methods := #[k0m0, k0m1]
  instanceTypes := #[]
  staticTypes := #[]
  resolved := Array.replicate 124 none
  statics := none }

def pool1 : Array CpInfo := pool [(2, .class_ 4), (1, u "java/lang/Object"), (0, u "<init>"), (0, u "()V"), (0, .integer 2147483647), (0, .fieldref 9 10), (0, .class_ 11), (0, .nameAndType 12 13), (0, u "com/example/sanction/sanction/model/Reason"), (0, u "INPUT"), (0, u "Lcom/example/sanction/sanction/model/Reason;"), (0, .fieldref 9 15), (0, .nameAndType 16 13), (0, u "STANDING"), (0, .fieldref 9 18), (0, .nameAndType 19 13), (0, u "NO_INPUT"), (0, .fieldref 9 21), (0, .nameAndType 22 13), (0, u "STALE_INPUT"), (0, .fieldref 9 24), (0, .nameAndType 25 13), (0, u "REDUCED"), (0, .fieldref 9 27), (0, .nameAndType 28 13), (0, u "TRACED"), (0, .fieldref 9 30), (0, .nameAndType 31 13), (0, u "BINDING"), (0, .fieldref 9 33), (0, .nameAndType 34 13), (0, u "REFUSED"), (0, .fieldref 9 36), (0, .nameAndType 37 13), (0, u "NEW_BINDING"), (0, .class_ 39), (0, u "java/lang/String"), (0, .methodref 38 41), (0, .nameAndType 5 42), (0, u "([C)V"), (0, .methodref 38 44), (0, .nameAndType 45 46), (0, u "valueOf"), (0, u "(C)Ljava/lang/String;"), (0, .class_ 48), (0, u "com/example/sanction/sanction/model/RequestEvent"), (0, .methodref 47 50), (0, .nameAndType 5 51), (0, u "(JJILjava/lang/String;Ljava/lang/String;)V"), (0, .methodref 53 54), (0, .class_ 55), (0, .nameAndType 56 57), (0, u "com/example/sanction/sanction/model/DecisionDenyPinLaw"), (0, u "pick"), (0, u "(I)Lcom/example/sanction/sanction/model/Reason;"), (0, .methodref 59 60), (0, .class_ 61), (0, .nameAndType 62 63), (0, u "com/example/sanction/sanction/model/Decision"), (0, u "deny"), (0, u "(Lcom/example/sanction/sanction/model/RequestEvent;Lcom/example/sanction/sanction/model/Reason;)Lcom/example/sanction/sanction/model/Decision;"), (0, .methodref 59 65), (0, .nameAndType 66 67), (0, u "getPath"), (0, u "()[I"), (0, .methodref 59 69), (0, .nameAndType 70 71), (0, u "getRequest"), (0, u "()Lcom/example/sanction/sanction/model/RequestEvent;"), (0, .methodref 59 73), (0, .nameAndType 74 75), (0, u "getVerdict"), (0, u "()Lcom/example/sanction/sanction/model/Verdict;"), (0, .fieldref 77 78), (0, .class_ 79), (0, .nameAndType 80 81), (0, u "com/example/sanction/sanction/model/Verdict"), (0, u "DENY"), (0, u "Lcom/example/sanction/sanction/model/Verdict;"), (0, .methodref 59 83), (0, .nameAndType 84 85), (0, u "getReason"), (0, u "()Lcom/example/sanction/sanction/model/Reason;"), (3, u "law"), (0, u "(IIJJII)Z")] 6

def k1m0 : Method := { name := "<init>", desc := "()V", sig := { parameters := [], returnType := none }, accessFlags := 2, code := none }
def k1c1 : Code := { maxStack := 2, maxLocals := 2, code := method_2_code, exceptionTable := #[], attributes := #[] }
def k1m1 : Method := { name := "pick", desc := "(I)Lcom/example/sanction/sanction/model/Reason;", sig := { parameters := [.int], returnType := some (.object "com/example/sanction/sanction/model/Reason") }, accessFlags := 10, code := some k1c1 }
def k1c2 : Code := { maxStack := 9, maxLocals := 15, code := code, exceptionTable := #[], attributes := #[] }
def k1m2 : Method := { name := "law", desc := "(IIJJII)Z", sig := { parameters := [.int, .int, .long, .long, .int, .int], returnType := some .boolean }, accessFlags := 9, code := some k1c2 }
/-- com/example/sanction/sanction/model/DecisionDenyPinLaw -/
def k1 : Class := { plain "com/example/sanction/sanction/model/DecisionDenyPinLaw" (some 0) with
  accessFlags := 49
  interfaces := #[]
  cf := some (fileOf pool1 53 #[] #[{ accessFlags := 2, nameIndex := 5, descriptorIndex := 6, attributes := #[] }, { accessFlags := 10, nameIndex := 56, descriptorIndex := 57, attributes := #[] }, { accessFlags := 9, nameIndex := 89, descriptorIndex := 90, attributes := #[] }] 49 2 #[] #[])
  fields := #[]
  methods := #[k1m0, k1m1, k1m2]
  instanceTypes := #[]
  staticTypes := #[]
  resolved := Array.replicate 97 none
  statics := none }

def pool2 : Array CpInfo := pool [(1, .class_ 2), (0, u "java/io/Serializable"), (0, .class_ 4), (0, u "java/lang/Object")] 2

/-- java/io/Serializable -/
def k2 : Class := { plain "java/io/Serializable" (some 0) with
  accessFlags := 1537
  interfaces := #[]
  cf := some (fileOf pool2 1 #[] #[] 1537 3 #[] #[])
  fields := #[]
  methods := #[]
  instanceTypes := #[]
  staticTypes := #[]
  resolved := Array.replicate 7 none
  statics := none }

def pool3 : Array CpInfo := pool [(1, .class_ 2), (0, u "java/lang/Comparable"), (0, .class_ 4), (0, u "java/lang/Object")] 7

/-- java/lang/Comparable -/
def k3 : Class := { plain "java/lang/Comparable" (some 0) with
  accessFlags := 1537
  interfaces := #[]
  cf := some (fileOf pool3 1 #[] #[] 1537 3 #[] #[])
  fields := #[]
  methods := #[]
  instanceTypes := #[]
  staticTypes := #[]
  resolved := Array.replicate 12 none
  statics := none }

def pool4 : Array CpInfo := pool [(2, .class_ 4), (1, u "java/lang/CharSequence"), (42, .class_ 48), (0, u "java/lang/CharSequence$1CodePointIterator"), (10, .class_ 60), (0, u "java/lang/CharSequence$1CharIterator"), (5, .class_ 67), (0, u "java/lang/Object")] 63

/-- java/lang/CharSequence -/
def k4 : Class := { plain "java/lang/CharSequence" (some 0) with
  accessFlags := 1537
  interfaces := #[]
  cf := some (fileOf pool4 2 #[.nestMembers #[47, 59]] #[] 1537 66 #[] #[])
  fields := #[]
  methods := #[]
  instanceTypes := #[]
  staticTypes := #[]
  resolved := Array.replicate 131 none
  statics := none }

def pool5 : Array CpInfo := pool [(1, .class_ 2), (0, u "java/lang/constant/Constable"), (0, .class_ 4), (0, u "java/lang/Object")] 6

/-- java/lang/constant/Constable -/
def k5 : Class := { plain "java/lang/constant/Constable" (some 0) with
  accessFlags := 1537
  interfaces := #[]
  cf := some (fileOf pool5 1 #[] #[] 1537 3 #[] #[])
  fields := #[]
  methods := #[]
  instanceTypes := #[]
  staticTypes := #[]
  resolved := Array.replicate 11 none
  statics := none }

def pool6 : Array CpInfo := pool [(1, .class_ 2), (0, u "java/lang/constant/ConstantDesc"), (0, .class_ 4), (0, u "java/lang/Object")] 32

/-- java/lang/constant/ConstantDesc -/
def k6 : Class := { plain "java/lang/constant/ConstantDesc" (some 0) with
  accessFlags := 1537
  interfaces := #[]
  cf := some (fileOf pool6 1 #[] #[] 1537 3 #[] #[])
  fields := #[]
  methods := #[]
  instanceTypes := #[]
  staticTypes := #[]
  resolved := Array.replicate 37 none
  statics := none }

def pool7 : Array CpInfo := pool [(1, .methodref 2 3), (0, .class_ 4), (0, .nameAndType 5 6), (0, u "java/lang/Object"), (0, u "<init>"), (0, u "()V"), (2, .fieldref 10 11), (0, .class_ 12), (0, .nameAndType 13 14), (0, u "java/lang/String"), (0, u "value"), (0, u "[B"), (0, .fieldref 10 16), (0, .nameAndType 17 18), (0, u "coder"), (0, u "B"), (2, u "hash"), (0, u "I"), (2, u "hashIsZero"), (0, u "Z"), (0, .methodref 10 28), (0, .nameAndType 5 29), (0, u "([CIILjava/lang/Void;)V"), (8, .fieldref 10 39), (0, .nameAndType 40 26), (0, u "COMPACT_STRINGS"), (1, .class_ 44), (1, u "java/lang/StringUTF16"), (0, u "compress"), (1, .methodref 42 48), (0, .nameAndType 49 50), (0, u "coderFromArrayLen"), (0, u "([BI)B"), (2, u "toBytes"), (53, .class_ 109), (1, u "java/lang/StringLatin1"), (67, .methodref 42 178), (0, .nameAndType 45 179), (0, u "([CII)[B"), (29, .methodref 10 210), (0, .nameAndType 5 211), (0, u "([BB)V"), (157, u "(C)Z"), (205, .class_ 576), (0, u "java/lang/CharSequence"), (22, u "CASE_INSENSITIVE_ORDER"), (0, u "Ljava/util/Comparator;"), (181, u "valueOf"), (0, u "(C)Ljava/lang/String;"), (226, u "([C)V"), (4, .methodref 107 1016), (0, .nameAndType 1017 369), (0, u "canEncode"), (0, .methodref 107 1019), (0, .nameAndType 53 1020), (0, u "(C)[B"), (80, u "serialPersistentFields"), (0, u "[Ljava/io/ObjectStreamField;"), (0, .class_ 1104), (0, u "java/lang/String$CaseInsensitiveComparator"), (1, .class_ 1107), (0, u "java/io/Serializable"), (0, .class_ 1109), (0, u "java/lang/Comparable"), (0, .class_ 1111), (0, u "java/lang/constant/Constable"), (0, .class_ 1113), (0, u "java/lang/constant/ConstantDesc"), (2, u "serialVersionUID"), (0, u "J"), (3, u "REPL"), (0, u "C"), (2, u "LATIN1"), (1, u "UTF16")] 323

def k7m0 : Method := { name := "<init>", desc := "()V", sig := { parameters := [], returnType := none }, accessFlags := 1, code := none }
def k7c1 : Code := { maxStack := 5, maxLocals := 2, code := jdk_42_method_3_code, exceptionTable := #[], attributes := #[] }
def k7m1 : Method := { name := "<init>", desc := "([C)V", sig := { parameters := [(.array .char)], returnType := none }, accessFlags := 1, code := some k7c1 }
def k7c2 : Code := { maxStack := 4, maxLocals := 1, code := jdk_42_method_139_code, exceptionTable := #[], attributes := #[] }
def k7m2 : Method := { name := "valueOf", desc := "(C)Ljava/lang/String;", sig := { parameters := [.char], returnType := some (.object "java/lang/String") }, accessFlags := 9, code := some k7c2 }
def k7c3 : Code := { maxStack := 4, maxLocals := 6, code := jdk_42_method_149_code, exceptionTable := #[], attributes := #[] }
def k7m3 : Method := { name := "<init>", desc := "([CIILjava/lang/Void;)V", sig := { parameters := [(.array .char), .int, .int, (.object "java/lang/Void")], returnType := none }, accessFlags := 2, code := some k7c3 }
def k7c4 : Code := { maxStack := 2, maxLocals := 3, code := jdk_42_method_151_code, exceptionTable := #[], attributes := #[] }
def k7m4 : Method := { name := "<init>", desc := "([BB)V", sig := { parameters := [(.array .byte), .byte], returnType := none }, accessFlags := 0, code := some k7c4 }
/-- java/lang/String -/
def k7 : Class := { plain "java/lang/String" (some 0) with
  accessFlags := 49
  interfaces := #[2, 3, 4, 5, 6]
  cf := some (fileOf pool7 10 #[.nestMembers #[1103]] #[{ accessFlags := 1, nameIndex := 5, descriptorIndex := 6, attributes := #[] }, { accessFlags := 1, nameIndex := 5, descriptorIndex := 1010, attributes := #[] }, { accessFlags := 9, nameIndex := 782, descriptorIndex := 783, attributes := #[] }, { accessFlags := 2, nameIndex := 5, descriptorIndex := 29, attributes := #[] }, { accessFlags := 0, nameIndex := 5, descriptorIndex := 211, attributes := #[] }] 49 2 #[1106, 1108, 575, 1110, 1112] #[{ accessFlags := 18, nameIndex := 13, descriptorIndex := 14, attributes := #[] }, { accessFlags := 18, nameIndex := 17, descriptorIndex := 18, attributes := #[] }, { accessFlags := 2, nameIndex := 21, descriptorIndex := 22, attributes := #[] }, { accessFlags := 2, nameIndex := 25, descriptorIndex := 26, attributes := #[] }, { accessFlags := 26, nameIndex := 1116, descriptorIndex := 1117, attributes := #[] }, { accessFlags := 24, nameIndex := 40, descriptorIndex := 26, attributes := #[] }, { accessFlags := 26, nameIndex := 1101, descriptorIndex := 1102, attributes := #[] }, { accessFlags := 26, nameIndex := 1121, descriptorIndex := 1122, attributes := #[] }, { accessFlags := 25, nameIndex := 599, descriptorIndex := 600, attributes := #[] }, { accessFlags := 24, nameIndex := 1125, descriptorIndex := 18, attributes := #[] }, { accessFlags := 24, nameIndex := 1127, descriptorIndex := 18, attributes := #[] }])
  fields := #[{ name := "value", type := (.array .byte), accessFlags := 18, slot := 0, constantValue := 0 }, { name := "coder", type := .byte, accessFlags := 18, slot := 1, constantValue := 0 }, { name := "hash", type := .int, accessFlags := 2, slot := 2, constantValue := 0 }, { name := "hashIsZero", type := .boolean, accessFlags := 2, slot := 3, constantValue := 0 }, { name := "serialVersionUID", type := .long, accessFlags := 26, slot := 0, constantValue := 0 }, { name := "COMPACT_STRINGS", type := .boolean, accessFlags := 24, slot := 1, constantValue := 0 }, { name := "serialPersistentFields", type := (.array (.object "java/io/ObjectStreamField")), accessFlags := 26, slot := 2, constantValue := 0 }, { name := "REPL", type := .char, accessFlags := 26, slot := 3, constantValue := 0 }, { name := "CASE_INSENSITIVE_ORDER", type := (.object "java/util/Comparator"), accessFlags := 25, slot := 4, constantValue := 0 }, { name := "LATIN1", type := .byte, accessFlags := 24, slot := 5, constantValue := 0 }, { name := "UTF16", type := .byte, accessFlags := 24, slot := 6, constantValue := 0 }]
  methods := #[k7m0, k7m1, k7m2, k7m3, k7m4]
  instanceTypes := #[(.array .byte), .byte, .int, .boolean]
  staticTypes := #[.long, .boolean, (.array (.object "java/io/ObjectStreamField")), .char, (.object "java/util/Comparator"), .byte, .byte]
  resolved := Array.replicate 1451 none
  statics := some 0 }

def pool8 : Array CpInfo := pool [(6, .class_ 8), (1, u "java/lang/Object"), (0, u "<init>"), (0, u "()V"), (1, .class_ 14), (1, u "java/lang/StringUTF16"), (31, u "$assertionsDisabled"), (0, u "Z"), (13, u "HI_BYTE_SHIFT"), (0, u "I"), (2, u "LO_BYTE_SHIFT"), (49, .methodref 12 116), (0, .nameAndType 117 118), (0, u "compress"), (0, u "([CI[BII)I"), (3, u "([CII)[B"), (138, u "coderFromArrayLen"), (0, u "([BI)B"), (106, .class_ 371), (1, u "java/lang/StringUTF16$LinesSpliterator"), (58, u "MAX_LENGTH"), (196, .class_ 628), (0, u "java/lang/StringUTF16$CodePointsSpliterator"), (0, .class_ 630), (0, u "java/lang/StringUTF16$CharsSpliterator")] 4

def k8m0 : Method := { name := "<init>", desc := "()V", sig := { parameters := [], returnType := none }, accessFlags := 0, code := none }
def k8c1 : Code := { maxStack := 2, maxLocals := 2, code := jdk_52_method_15_code, exceptionTable := #[], attributes := #[] }
def k8m1 : Method := { name := "coderFromArrayLen", desc := "([BI)B", sig := { parameters := [(.array .byte), .int], returnType := some .byte }, accessFlags := 8, code := some k8c1 }
def k8c2 : Code := { maxStack := 5, maxLocals := 6, code := jdk_52_method_16_code, exceptionTable := #[], attributes := #[] }
def k8m2 : Method := { name := "compress", desc := "([CII)[B", sig := { parameters := [(.array .char), .int, .int], returnType := some (.array .byte) }, accessFlags := 9, code := some k8c2 }
def k8c3 : Code := { maxStack := 3, maxLocals := 7, code := jdk_52_method_21_code, exceptionTable := #[], attributes := #[] }
def k8m3 : Method := { name := "compress", desc := "([CI[BII)I", sig := { parameters := [(.array .char), .int, (.array .byte), .int, .int], returnType := some .int }, accessFlags := 9, code := some k8c3 }
/-- java/lang/StringUTF16 -/
def k8 : Class := { plain "java/lang/StringUTF16" (some 0) with
  accessFlags := 48
  interfaces := #[]
  cf := some (fileOf pool8 12 #[.nestMembers #[627, 629, 369]] #[{ accessFlags := 0, nameIndex := 9, descriptorIndex := 10, attributes := #[] }, { accessFlags := 8, nameIndex := 261, descriptorIndex := 262, attributes := #[] }, { accessFlags := 9, nameIndex := 117, descriptorIndex := 122, attributes := #[] }, { accessFlags := 9, nameIndex := 117, descriptorIndex := 118, attributes := #[] }] 48 6 #[] #[{ accessFlags := 26, nameIndex := 61, descriptorIndex := 62, attributes := #[] }, { accessFlags := 26, nameIndex := 65, descriptorIndex := 62, attributes := #[] }, { accessFlags := 24, nameIndex := 430, descriptorIndex := 62, attributes := #[] }, { accessFlags := 4120, nameIndex := 46, descriptorIndex := 47, attributes := #[] }])
  fields := #[{ name := "HI_BYTE_SHIFT", type := .int, accessFlags := 26, slot := 0, constantValue := 0 }, { name := "LO_BYTE_SHIFT", type := .int, accessFlags := 26, slot := 1, constantValue := 0 }, { name := "MAX_LENGTH", type := .int, accessFlags := 24, slot := 2, constantValue := 0 }, { name := "$assertionsDisabled", type := .boolean, accessFlags := 4120, slot := 3, constantValue := 0 }]
  methods := #[k8m0, k8m1, k8m2, k8m3]
  instanceTypes := #[]
  staticTypes := #[.int, .int, .int, .boolean]
  resolved := Array.replicate 635 none
  statics := none }

def pool9 : Array CpInfo := pool [(4, .class_ 6), (1, u "java/lang/Object"), (0, u "<init>"), (0, u "()V"), (5, .class_ 16), (1, u "java/lang/StringLatin1"), (73, u "canEncode"), (14, u "(C)Z"), (15, u "$assertionsDisabled"), (0, u "Z"), (98, .class_ 223), (1, u "java/lang/StringLatin1$LinesSpliterator"), (156, u "toBytes"), (1, u "(C)[B"), (7, .class_ 391), (0, u "java/lang/StringLatin1$CharsSpliterator")] 3

def k9m0 : Method := { name := "<init>", desc := "()V", sig := { parameters := [], returnType := none }, accessFlags := 0, code := none }
def k9c1 : Code := { maxStack := 2, maxLocals := 1, code := jdk_43_method_3_code, exceptionTable := #[], attributes := #[] }
def k9m1 : Method := { name := "canEncode", desc := "(C)Z", sig := { parameters := [.char], returnType := some .boolean }, accessFlags := 9, code := some k9c1 }
def k9c2 : Code := { maxStack := 4, maxLocals := 1, code := jdk_43_method_46_code, exceptionTable := #[], attributes := #[] }
def k9m2 : Method := { name := "toBytes", desc := "(C)[B", sig := { parameters := [.char], returnType := some (.array .byte) }, accessFlags := 9, code := some k9c2 }
/-- java/lang/StringLatin1 -/
def k9 : Class := { plain "java/lang/StringLatin1" (some 0) with
  accessFlags := 48
  interfaces := #[]
  cf := some (fileOf pool9 14 #[.nestMembers #[390, 221]] #[{ accessFlags := 0, nameIndex := 7, descriptorIndex := 8, attributes := #[] }, { accessFlags := 9, nameIndex := 90, descriptorIndex := 105, attributes := #[] }, { accessFlags := 9, nameIndex := 380, descriptorIndex := 382, attributes := #[] }] 48 4 #[] #[{ accessFlags := 4120, nameIndex := 121, descriptorIndex := 122, attributes := #[] }])
  fields := #[{ name := "$assertionsDisabled", type := .boolean, accessFlags := 4120, slot := 0, constantValue := 0 }]
  methods := #[k9m0, k9m1, k9m2]
  instanceTypes := #[]
  staticTypes := #[.boolean]
  resolved := Array.replicate 395 none
  statics := none }

def pool10 : Array CpInfo := pool [(1, .methodref 2 3), (0, .class_ 4), (0, .nameAndType 5 6), (0, u "java/lang/Object"), (0, u "<init>"), (0, u "()V"), (0, .fieldref 8 9), (0, .class_ 10), (0, .nameAndType 11 12), (0, u "com/example/sanction/sanction/model/Event"), (0, u "line"), (0, u "J"), (0, .fieldref 8 14), (0, .nameAndType 15 12), (0, u "time"), (0, u "(JJ)V"), (17, .class_ 35), (0, u "com/example/sanction/sanction/model/Event$Kind"), (0, .class_ 37), (0, u "com/example/sanction/sanction/model/Event$Handler")] 26

def k10c0 : Code := { maxStack := 3, maxLocals := 5, code := prog_11_method_1_code, exceptionTable := #[], attributes := #[] }
def k10m0 : Method := { name := "<init>", desc := "(JJ)V", sig := { parameters := [.long, .long], returnType := none }, accessFlags := 4, code := some k10c0 }
/-- com/example/sanction/sanction/model/Event -/
def k10 : Class := { plain "com/example/sanction/sanction/model/Event" (some 0) with
  accessFlags := 1057
  interfaces := #[]
  cf := some (fileOf pool10 8 #[.nestMembers #[34, 36]] #[{ accessFlags := 4, nameIndex := 5, descriptorIndex := 16, attributes := #[] }] 1057 2 #[] #[{ accessFlags := 18, nameIndex := 11, descriptorIndex := 12, attributes := #[] }, { accessFlags := 18, nameIndex := 15, descriptorIndex := 12, attributes := #[] }])
  fields := #[{ name := "line", type := .long, accessFlags := 18, slot := 0, constantValue := 0 }, { name := "time", type := .long, accessFlags := 18, slot := 1, constantValue := 0 }]
  methods := #[k10m0]
  instanceTypes := #[.long, .long]
  staticTypes := #[]
  resolved := Array.replicate 64 none
  statics := none }

def pool11 : Array CpInfo := pool [(1, .methodref 2 3), (0, .class_ 4), (0, .nameAndType 5 6), (0, u "com/example/sanction/sanction/model/Event"), (0, u "<init>"), (0, u "(JJ)V"), (0, .fieldref 8 9), (0, .class_ 10), (0, .nameAndType 11 12), (0, u "com/example/sanction/sanction/model/RequestEvent"), (0, u "pid"), (0, u "I"), (0, .fieldref 8 14), (0, .nameAndType 15 16), (0, u "resource"), (0, u "Ljava/lang/String;"), (0, .fieldref 8 18), (0, .nameAndType 19 16), (0, u "operation"), (12, u "DEFAULT_OPERATION"), (3, u "(JJILjava/lang/String;Ljava/lang/String;)V")] 21

def k11c0 : Code := { maxStack := 5, maxLocals := 8, code := prog_23_method_1_code, exceptionTable := #[], attributes := #[] }
def k11m0 : Method := { name := "<init>", desc := "(JJILjava/lang/String;Ljava/lang/String;)V", sig := { parameters := [.long, .long, .int, (.object "java/lang/String"), (.object "java/lang/String")], returnType := none }, accessFlags := 1, code := some k11c0 }
/-- com/example/sanction/sanction/model/RequestEvent -/
def k11 : Class := { plain "com/example/sanction/sanction/model/RequestEvent" (some 10) with
  accessFlags := 49
  interfaces := #[]
  cf := some (fileOf pool11 8 #[] #[{ accessFlags := 1, nameIndex := 5, descriptorIndex := 36, attributes := #[] }] 49 2 #[] #[{ accessFlags := 25, nameIndex := 32, descriptorIndex := 16, attributes := #[] }, { accessFlags := 18, nameIndex := 11, descriptorIndex := 12, attributes := #[] }, { accessFlags := 18, nameIndex := 15, descriptorIndex := 16, attributes := #[] }, { accessFlags := 18, nameIndex := 19, descriptorIndex := 16, attributes := #[] }])
  fields := #[{ name := "DEFAULT_OPERATION", type := (.object "java/lang/String"), accessFlags := 25, slot := 0, constantValue := 0 }, { name := "pid", type := .int, accessFlags := 18, slot := 2, constantValue := 0 }, { name := "resource", type := (.object "java/lang/String"), accessFlags := 18, slot := 3, constantValue := 0 }, { name := "operation", type := (.object "java/lang/String"), accessFlags := 18, slot := 4, constantValue := 0 }]
  methods := #[k11m0]
  instanceTypes := #[.long, .long, .int, (.object "java/lang/String"), (.object "java/lang/String")]
  staticTypes := #[(.object "java/lang/String")]
  resolved := Array.replicate 58 none
  statics := none }

def pool12 : Array CpInfo := pool [(2, .class_ 4), (1, u "java/lang/Enum"), (0, u "name"), (0, u "Ljava/lang/String;"), (2, u "ordinal"), (0, u "I"), (1, .class_ 14), (1, u "java/lang/Object"), (4, u "hash"), (86, .class_ 108), (1, u "java/lang/Enum$EnumDesc"), (2, .class_ 112), (0, u "java/lang/constant/Constable"), (0, .class_ 114), (0, u "java/lang/Comparable"), (0, .class_ 116), (0, u "java/io/Serializable")] 87

/-- java/lang/Enum -/
def k12 : Class := { plain "java/lang/Enum" (some 0) with
  accessFlags := 1057
  interfaces := #[5, 3, 2]
  cf := some (fileOf pool12 2 #[.nestMembers #[106]] #[] 1057 12 #[111, 113, 115] #[{ accessFlags := 18, nameIndex := 5, descriptorIndex := 6, attributes := #[] }, { accessFlags := 18, nameIndex := 9, descriptorIndex := 10, attributes := #[] }, { accessFlags := 2, nameIndex := 19, descriptorIndex := 10, attributes := #[] }])
  fields := #[{ name := "name", type := (.object "java/lang/String"), accessFlags := 18, slot := 0, constantValue := 0 }, { name := "ordinal", type := .int, accessFlags := 18, slot := 1, constantValue := 0 }, { name := "hash", type := .int, accessFlags := 2, slot := 2, constantValue := 0 }]
  methods := #[]
  instanceTypes := #[(.object "java/lang/String"), .int, .int]
  staticTypes := #[]
  resolved := Array.replicate 204 none
  statics := none }

def pool13 : Array CpInfo := pool [(1, .class_ 2), (0, u "com/example/sanction/sanction/model/Labelled"), (0, .class_ 4), (0, u "java/lang/Object")] 4

/-- com/example/sanction/sanction/model/Labelled -/
def k13 : Class := { plain "com/example/sanction/sanction/model/Labelled" (some 0) with
  accessFlags := 1537
  interfaces := #[]
  cf := some (fileOf pool13 1 #[] #[] 1537 3 #[] #[])
  fields := #[]
  methods := #[]
  instanceTypes := #[]
  staticTypes := #[]
  resolved := Array.replicate 9 none
  statics := none }

def pool14 : Array CpInfo := pool [(1, .class_ 2), (0, u "com/example/sanction/sanction/model/Reason"), (2, u "INPUT"), (0, u "Lcom/example/sanction/sanction/model/Reason;"), (2, u "STANDING"), (2, u "NO_INPUT"), (2, u "STALE_INPUT"), (2, u "REDUCED"), (2, u "TRACED"), (2, u "BINDING"), (2, u "REFUSED"), (2, u "NEW_BINDING"), (2, u "$VALUES"), (0, u "[Lcom/example/sanction/sanction/model/Reason;"), (6, .class_ 43), (1, u "java/lang/Enum"), (8, u "label"), (0, u "Ljava/lang/String;"), (34, .class_ 89), (0, u "com/example/sanction/sanction/model/Labelled")] 14

/-- com/example/sanction/sanction/model/Reason -/
def k14 : Class := { plain "com/example/sanction/sanction/model/Reason" (some 12) with
  accessFlags := 16433
  interfaces := #[13]
  cf := some (fileOf pool14 1 #[] #[] 16433 41 #[88] #[{ accessFlags := 16409, nameIndex := 5, descriptorIndex := 6, attributes := #[] }, { accessFlags := 16409, nameIndex := 9, descriptorIndex := 6, attributes := #[] }, { accessFlags := 16409, nameIndex := 12, descriptorIndex := 6, attributes := #[] }, { accessFlags := 16409, nameIndex := 15, descriptorIndex := 6, attributes := #[] }, { accessFlags := 16409, nameIndex := 18, descriptorIndex := 6, attributes := #[] }, { accessFlags := 16409, nameIndex := 21, descriptorIndex := 6, attributes := #[] }, { accessFlags := 16409, nameIndex := 24, descriptorIndex := 6, attributes := #[] }, { accessFlags := 16409, nameIndex := 27, descriptorIndex := 6, attributes := #[] }, { accessFlags := 16409, nameIndex := 30, descriptorIndex := 6, attributes := #[] }, { accessFlags := 18, nameIndex := 52, descriptorIndex := 53, attributes := #[] }, { accessFlags := 4122, nameIndex := 33, descriptorIndex := 34, attributes := #[] }])
  fields := #[{ name := "INPUT", type := (.object "com/example/sanction/sanction/model/Reason"), accessFlags := 16409, slot := 0, constantValue := 0 }, { name := "STANDING", type := (.object "com/example/sanction/sanction/model/Reason"), accessFlags := 16409, slot := 1, constantValue := 0 }, { name := "NO_INPUT", type := (.object "com/example/sanction/sanction/model/Reason"), accessFlags := 16409, slot := 2, constantValue := 0 }, { name := "STALE_INPUT", type := (.object "com/example/sanction/sanction/model/Reason"), accessFlags := 16409, slot := 3, constantValue := 0 }, { name := "REDUCED", type := (.object "com/example/sanction/sanction/model/Reason"), accessFlags := 16409, slot := 4, constantValue := 0 }, { name := "TRACED", type := (.object "com/example/sanction/sanction/model/Reason"), accessFlags := 16409, slot := 5, constantValue := 0 }, { name := "BINDING", type := (.object "com/example/sanction/sanction/model/Reason"), accessFlags := 16409, slot := 6, constantValue := 0 }, { name := "REFUSED", type := (.object "com/example/sanction/sanction/model/Reason"), accessFlags := 16409, slot := 7, constantValue := 0 }, { name := "NEW_BINDING", type := (.object "com/example/sanction/sanction/model/Reason"), accessFlags := 16409, slot := 8, constantValue := 0 }, { name := "label", type := (.object "java/lang/String"), accessFlags := 18, slot := 3, constantValue := 0 }, { name := "$VALUES", type := (.array (.object "com/example/sanction/sanction/model/Reason")), accessFlags := 4122, slot := 9, constantValue := 0 }]
  methods := #[]
  instanceTypes := #[(.object "java/lang/String"), .int, .int, (.object "java/lang/String")]
  staticTypes := #[(.object "com/example/sanction/sanction/model/Reason"), (.object "com/example/sanction/sanction/model/Reason"), (.object "com/example/sanction/sanction/model/Reason"), (.object "com/example/sanction/sanction/model/Reason"), (.object "com/example/sanction/sanction/model/Reason"), (.object "com/example/sanction/sanction/model/Reason"), (.object "com/example/sanction/sanction/model/Reason"), (.object "com/example/sanction/sanction/model/Reason"), (.object "com/example/sanction/sanction/model/Reason"), (.array (.object "com/example/sanction/sanction/model/Reason"))]
  resolved := Array.replicate 104 none
  statics := some 1 }

def pool15 : Array CpInfo := pool [(1, .methodref 2 3), (0, .class_ 4), (0, .nameAndType 5 6), (0, u "java/lang/Object"), (0, u "<init>"), (0, u "()V"), (0, .fieldref 8 9), (0, .class_ 10), (0, .nameAndType 11 12), (0, u "com/example/sanction/sanction/model/Decision"), (0, u "request"), (0, u "Lcom/example/sanction/sanction/model/RequestEvent;"), (0, .fieldref 8 14), (0, .nameAndType 15 16), (0, u "verdict"), (0, u "Lcom/example/sanction/sanction/model/Verdict;"), (0, .fieldref 8 18), (0, .nameAndType 19 20), (0, u "reason"), (0, u "Lcom/example/sanction/sanction/model/Reason;"), (0, .methodref 22 23), (0, .class_ 24), (0, .nameAndType 25 26), (0, u "[I"), (0, u "clone"), (0, u "()Ljava/lang/Object;"), (0, .fieldref 8 28), (0, .nameAndType 29 24), (0, u "path"), (1, .class_ 33), (1, u "com/example/sanction/sanction/model/Verdict"), (1, .methodref 8 36), (0, .nameAndType 5 37), (0, u "(Lcom/example/sanction/sanction/model/RequestEvent;Lcom/example/sanction/sanction/model/Verdict;Lcom/example/sanction/sanction/model/Reason;[I)V"), (3, .fieldref 31 42), (0, .nameAndType 43 16), (0, u "DENY"), (0, .fieldref 8 45), (0, .nameAndType 46 24), (0, u "NO_PATH"), (5, u "deny"), (0, u "(Lcom/example/sanction/sanction/model/RequestEvent;Lcom/example/sanction/sanction/model/Reason;)Lcom/example/sanction/sanction/model/Decision;"), (0, u "getRequest"), (0, u "()Lcom/example/sanction/sanction/model/RequestEvent;"), (0, u "getVerdict"), (0, u "()Lcom/example/sanction/sanction/model/Verdict;"), (0, u "getReason"), (0, u "()Lcom/example/sanction/sanction/model/Reason;"), (0, u "getPath"), (0, u "()[I")] 3

def k15c0 : Code := { maxStack := 2, maxLocals := 5, code := prog_9_method_1_code, exceptionTable := #[], attributes := #[] }
def k15m0 : Method := { name := "<init>", desc := "(Lcom/example/sanction/sanction/model/RequestEvent;Lcom/example/sanction/sanction/model/Verdict;Lcom/example/sanction/sanction/model/Reason;[I)V", sig := { parameters := [(.object "com/example/sanction/sanction/model/RequestEvent"), (.object "com/example/sanction/sanction/model/Verdict"), (.object "com/example/sanction/sanction/model/Reason"), (.array .int)], returnType := none }, accessFlags := 2, code := some k15c0 }
def k15c1 : Code := { maxStack := 6, maxLocals := 2, code := prog_9_method_4_code, exceptionTable := #[], attributes := #[] }
def k15m1 : Method := { name := "deny", desc := "(Lcom/example/sanction/sanction/model/RequestEvent;Lcom/example/sanction/sanction/model/Reason;)Lcom/example/sanction/sanction/model/Decision;", sig := { parameters := [(.object "com/example/sanction/sanction/model/RequestEvent"), (.object "com/example/sanction/sanction/model/Reason")], returnType := some (.object "com/example/sanction/sanction/model/Decision") }, accessFlags := 9, code := some k15c1 }
def k15c2 : Code := { maxStack := 1, maxLocals := 1, code := prog_9_method_5_code, exceptionTable := #[], attributes := #[] }
def k15m2 : Method := { name := "getRequest", desc := "()Lcom/example/sanction/sanction/model/RequestEvent;", sig := { parameters := [], returnType := some (.object "com/example/sanction/sanction/model/RequestEvent") }, accessFlags := 1, code := some k15c2 }
def k15c3 : Code := { maxStack := 1, maxLocals := 1, code := prog_9_method_6_code, exceptionTable := #[], attributes := #[] }
def k15m3 : Method := { name := "getVerdict", desc := "()Lcom/example/sanction/sanction/model/Verdict;", sig := { parameters := [], returnType := some (.object "com/example/sanction/sanction/model/Verdict") }, accessFlags := 1, code := some k15c3 }
def k15c4 : Code := { maxStack := 1, maxLocals := 1, code := prog_9_method_7_code, exceptionTable := #[], attributes := #[] }
def k15m4 : Method := { name := "getReason", desc := "()Lcom/example/sanction/sanction/model/Reason;", sig := { parameters := [], returnType := some (.object "com/example/sanction/sanction/model/Reason") }, accessFlags := 1, code := some k15c4 }
def k15c5 : Code := { maxStack := 1, maxLocals := 1, code := prog_9_method_8_code, exceptionTable := #[], attributes := #[] }
def k15m5 : Method := { name := "getPath", desc := "()[I", sig := { parameters := [], returnType := some (.array .int) }, accessFlags := 1, code := some k15c5 }
/-- com/example/sanction/sanction/model/Decision -/
def k15 : Class := { plain "com/example/sanction/sanction/model/Decision" (some 0) with
  accessFlags := 49
  interfaces := #[]
  cf := some (fileOf pool15 8 #[] #[{ accessFlags := 2, nameIndex := 5, descriptorIndex := 37, attributes := #[] }, { accessFlags := 9, nameIndex := 52, descriptorIndex := 53, attributes := #[] }, { accessFlags := 1, nameIndex := 54, descriptorIndex := 55, attributes := #[] }, { accessFlags := 1, nameIndex := 56, descriptorIndex := 57, attributes := #[] }, { accessFlags := 1, nameIndex := 58, descriptorIndex := 59, attributes := #[] }, { accessFlags := 1, nameIndex := 60, descriptorIndex := 61, attributes := #[] }] 49 2 #[] #[{ accessFlags := 26, nameIndex := 46, descriptorIndex := 24, attributes := #[] }, { accessFlags := 18, nameIndex := 11, descriptorIndex := 12, attributes := #[] }, { accessFlags := 18, nameIndex := 15, descriptorIndex := 16, attributes := #[] }, { accessFlags := 18, nameIndex := 19, descriptorIndex := 20, attributes := #[] }, { accessFlags := 18, nameIndex := 29, descriptorIndex := 24, attributes := #[] }])
  fields := #[{ name := "NO_PATH", type := (.array .int), accessFlags := 26, slot := 0, constantValue := 0 }, { name := "request", type := (.object "com/example/sanction/sanction/model/RequestEvent"), accessFlags := 18, slot := 0, constantValue := 0 }, { name := "verdict", type := (.object "com/example/sanction/sanction/model/Verdict"), accessFlags := 18, slot := 1, constantValue := 0 }, { name := "reason", type := (.object "com/example/sanction/sanction/model/Reason"), accessFlags := 18, slot := 2, constantValue := 0 }, { name := "path", type := (.array .int), accessFlags := 18, slot := 3, constantValue := 0 }]
  methods := #[k15m0, k15m1, k15m2, k15m3, k15m4, k15m5]
  instanceTypes := #[(.object "com/example/sanction/sanction/model/RequestEvent"), (.object "com/example/sanction/sanction/model/Verdict"), (.object "com/example/sanction/sanction/model/Reason"), (.array .int)]
  staticTypes := #[(.array .int)]
  resolved := Array.replicate 65 none
  statics := some 2 }

def pool16 : Array CpInfo := pool [(1, .class_ 2), (0, u "com/example/sanction/sanction/model/Verdict"), (2, u "GRANT"), (0, u "Lcom/example/sanction/sanction/model/Verdict;"), (2, u "DENY"), (2, u "ASK"), (2, u "$VALUES"), (0, u "[Lcom/example/sanction/sanction/model/Verdict;"), (6, .class_ 25), (1, u "java/lang/Enum"), (8, u "label"), (0, u "Ljava/lang/String;"), (16, .class_ 53), (0, u "com/example/sanction/sanction/model/Labelled")] 14

/-- com/example/sanction/sanction/model/Verdict -/
def k16 : Class := { plain "com/example/sanction/sanction/model/Verdict" (some 12) with
  accessFlags := 16433
  interfaces := #[13]
  cf := some (fileOf pool16 1 #[] #[] 16433 23 #[52] #[{ accessFlags := 16409, nameIndex := 5, descriptorIndex := 6, attributes := #[] }, { accessFlags := 16409, nameIndex := 9, descriptorIndex := 6, attributes := #[] }, { accessFlags := 16409, nameIndex := 12, descriptorIndex := 6, attributes := #[] }, { accessFlags := 18, nameIndex := 34, descriptorIndex := 35, attributes := #[] }, { accessFlags := 4122, nameIndex := 15, descriptorIndex := 16, attributes := #[] }])
  fields := #[{ name := "GRANT", type := (.object "com/example/sanction/sanction/model/Verdict"), accessFlags := 16409, slot := 0, constantValue := 0 }, { name := "DENY", type := (.object "com/example/sanction/sanction/model/Verdict"), accessFlags := 16409, slot := 1, constantValue := 0 }, { name := "ASK", type := (.object "com/example/sanction/sanction/model/Verdict"), accessFlags := 16409, slot := 2, constantValue := 0 }, { name := "label", type := (.object "java/lang/String"), accessFlags := 18, slot := 3, constantValue := 0 }, { name := "$VALUES", type := (.array (.object "com/example/sanction/sanction/model/Verdict")), accessFlags := 4122, slot := 3, constantValue := 0 }]
  methods := #[]
  instanceTypes := #[(.object "java/lang/String"), .int, .int, (.object "java/lang/String")]
  staticTypes := #[(.object "com/example/sanction/sanction/model/Verdict"), (.object "com/example/sanction/sanction/model/Verdict"), (.object "com/example/sanction/sanction/model/Verdict"), (.array (.object "com/example/sanction/sanction/model/Verdict"))]
  resolved := Array.replicate 68 none
  statics := some 3 }

def pool17 : Array CpInfo := pool [(1, .class_ 2), (0, u "java/lang/Cloneable"), (0, .class_ 4), (0, u "java/lang/Object")] 2

/-- java/lang/Cloneable -/
def k17 : Class := { plain "java/lang/Cloneable" (some 0) with
  accessFlags := 1537
  interfaces := #[]
  cf := some (fileOf pool17 1 #[] #[] 1537 3 #[] #[])
  fields := #[]
  methods := #[]
  instanceTypes := #[]
  staticTypes := #[]
  resolved := Array.replicate 7 none
  statics := none }

def pool18 : Array CpInfo := pool [(2, .class_ 4), (1, u "java/lang/Object"), (0, u "<init>"), (0, u "()V"), (17, .class_ 26), (1, u "jdk/internal/util/Preconditions"), (28, .class_ 56), (0, u "jdk/internal/util/Preconditions$4"), (57, .class_ 115), (0, u "jdk/internal/util/Preconditions$1"), (7, u "SIOOBE_FORMATTER"), (0, u "Ljava/util/function/BiFunction;"), (0, .class_ 126), (0, u "jdk/internal/util/Preconditions$2"), (3, u "AIOOBE_FORMATTER"), (0, .class_ 132), (0, u "jdk/internal/util/Preconditions$3"), (3, u "IOOBE_FORMATTER")] 57

def k18m0 : Method := { name := "<init>", desc := "()V", sig := { parameters := [], returnType := none }, accessFlags := 1, code := none }
/-- jdk/internal/util/Preconditions -/
def k18 : Class := { plain "jdk/internal/util/Preconditions" (some 0) with
  accessFlags := 33
  interfaces := #[]
  cf := some (fileOf pool18 24 #[.nestMembers #[55, 131, 125, 114]] #[{ accessFlags := 1, nameIndex := 5, descriptorIndex := 6, attributes := #[] }] 33 2 #[] #[{ accessFlags := 25, nameIndex := 123, descriptorIndex := 124, attributes := #[] }, { accessFlags := 25, nameIndex := 130, descriptorIndex := 124, attributes := #[] }, { accessFlags := 25, nameIndex := 136, descriptorIndex := 124, attributes := #[] }])
  fields := #[{ name := "SIOOBE_FORMATTER", type := (.object "java/util/function/BiFunction"), accessFlags := 25, slot := 0, constantValue := 0 }, { name := "AIOOBE_FORMATTER", type := (.object "java/util/function/BiFunction"), accessFlags := 25, slot := 1, constantValue := 0 }, { name := "IOOBE_FORMATTER", type := (.object "java/util/function/BiFunction"), accessFlags := 25, slot := 2, constantValue := 0 }]
  methods := #[k18m0]
  instanceTypes := #[]
  staticTypes := #[(.object "java/util/function/BiFunction"), (.object "java/util/function/BiFunction"), (.object "java/util/function/BiFunction")]
  resolved := Array.replicate 194 none
  statics := some 4 }

def pool19 : Array CpInfo := pool [(9, u "<init>"), (6, .class_ 18), (1, u "java/lang/Object"), (0, u "()V"), (1, .class_ 23), (1, u "jdk/internal/util/ArraysSupport"), (0, u "LOG2_ARRAY_LONG_INDEX_SCALE"), (0, u "I"), (2, u "U"), (0, u "Ljdk/internal/misc/Unsafe;"), (8, u "BIG_ENDIAN"), (0, u "Z"), (8, u "LOG2_BYTE_BIT_SIZE"), (4, u "LOG2_ARRAY_INT_INDEX_SCALE"), (54, u "JLA"), (0, u "Ljdk/internal/access/JavaLangAccess;"), (11, u "LOG2_ARRAY_BOOLEAN_INDEX_SCALE"), (9, u "LOG2_ARRAY_BYTE_INDEX_SCALE"), (5, u "LOG2_ARRAY_CHAR_INDEX_SCALE"), (5, u "LOG2_ARRAY_SHORT_INDEX_SCALE"), (18, u "LOG2_ARRAY_FLOAT_INDEX_SCALE"), (24, u "LOG2_ARRAY_DOUBLE_INDEX_SCALE"), (89, u "T_BOOLEAN"), (2, u "T_CHAR"), (1, u "T_FLOAT"), (1, u "T_DOUBLE"), (1, u "T_BYTE"), (1, u "T_SHORT"), (1, u "T_INT"), (1, u "T_LONG"), (1, u "SOFT_MAX_ARRAY_LENGTH")] 83

def k19m0 : Method := { name := "<init>", desc := "()V", sig := { parameters := [], returnType := none }, accessFlags := 2, code := none }
/-- jdk/internal/util/ArraysSupport -/
def k19 : Class := { plain "jdk/internal/util/ArraysSupport" (some 0) with
  accessFlags := 33
  interfaces := #[]
  cf := some (fileOf pool19 21 #[] #[{ accessFlags := 2, nameIndex := 9, descriptorIndex := 19, attributes := #[] }] 33 16 #[] #[{ accessFlags := 24, nameIndex := 28, descriptorIndex := 29, attributes := #[] }, { accessFlags := 26, nameIndex := 38, descriptorIndex := 39, attributes := #[] }, { accessFlags := 25, nameIndex := 121, descriptorIndex := 25, attributes := #[] }, { accessFlags := 25, nameIndex := 131, descriptorIndex := 25, attributes := #[] }, { accessFlags := 25, nameIndex := 137, descriptorIndex := 25, attributes := #[] }, { accessFlags := 25, nameIndex := 143, descriptorIndex := 25, attributes := #[] }, { accessFlags := 25, nameIndex := 53, descriptorIndex := 25, attributes := #[] }, { accessFlags := 25, nameIndex := 24, descriptorIndex := 25, attributes := #[] }, { accessFlags := 25, nameIndex := 162, descriptorIndex := 25, attributes := #[] }, { accessFlags := 25, nameIndex := 187, descriptorIndex := 25, attributes := #[] }, { accessFlags := 26, nameIndex := 48, descriptorIndex := 25, attributes := #[] }, { accessFlags := 25, nameIndex := 277, descriptorIndex := 25, attributes := #[] }, { accessFlags := 25, nameIndex := 280, descriptorIndex := 25, attributes := #[] }, { accessFlags := 25, nameIndex := 282, descriptorIndex := 25, attributes := #[] }, { accessFlags := 25, nameIndex := 284, descriptorIndex := 25, attributes := #[] }, { accessFlags := 25, nameIndex := 286, descriptorIndex := 25, attributes := #[] }, { accessFlags := 25, nameIndex := 288, descriptorIndex := 25, attributes := #[] }, { accessFlags := 25, nameIndex := 290, descriptorIndex := 25, attributes := #[] }, { accessFlags := 25, nameIndex := 292, descriptorIndex := 25, attributes := #[] }, { accessFlags := 26, nameIndex := 108, descriptorIndex := 109, attributes := #[] }, { accessFlags := 25, nameIndex := 294, descriptorIndex := 25, attributes := #[] }])
  fields := #[{ name := "U", type := (.object "jdk/internal/misc/Unsafe"), accessFlags := 24, slot := 0, constantValue := 0 }, { name := "BIG_ENDIAN", type := .boolean, accessFlags := 26, slot := 1, constantValue := 0 }, { name := "LOG2_ARRAY_BOOLEAN_INDEX_SCALE", type := .int, accessFlags := 25, slot := 2, constantValue := 0 }, { name := "LOG2_ARRAY_BYTE_INDEX_SCALE", type := .int, accessFlags := 25, slot := 3, constantValue := 0 }, { name := "LOG2_ARRAY_CHAR_INDEX_SCALE", type := .int, accessFlags := 25, slot := 4, constantValue := 0 }, { name := "LOG2_ARRAY_SHORT_INDEX_SCALE", type := .int, accessFlags := 25, slot := 5, constantValue := 0 }, { name := "LOG2_ARRAY_INT_INDEX_SCALE", type := .int, accessFlags := 25, slot := 6, constantValue := 0 }, { name := "LOG2_ARRAY_LONG_INDEX_SCALE", type := .int, accessFlags := 25, slot := 7, constantValue := 0 }, { name := "LOG2_ARRAY_FLOAT_INDEX_SCALE", type := .int, accessFlags := 25, slot := 8, constantValue := 0 }, { name := "LOG2_ARRAY_DOUBLE_INDEX_SCALE", type := .int, accessFlags := 25, slot := 9, constantValue := 0 }, { name := "LOG2_BYTE_BIT_SIZE", type := .int, accessFlags := 26, slot := 10, constantValue := 0 }, { name := "T_BOOLEAN", type := .int, accessFlags := 25, slot := 11, constantValue := 0 }, { name := "T_CHAR", type := .int, accessFlags := 25, slot := 12, constantValue := 0 }, { name := "T_FLOAT", type := .int, accessFlags := 25, slot := 13, constantValue := 0 }, { name := "T_DOUBLE", type := .int, accessFlags := 25, slot := 14, constantValue := 0 }, { name := "T_BYTE", type := .int, accessFlags := 25, slot := 15, constantValue := 0 }, { name := "T_SHORT", type := .int, accessFlags := 25, slot := 16, constantValue := 0 }, { name := "T_INT", type := .int, accessFlags := 25, slot := 17, constantValue := 0 }, { name := "T_LONG", type := .int, accessFlags := 25, slot := 18, constantValue := 0 }, { name := "JLA", type := (.object "jdk/internal/access/JavaLangAccess"), accessFlags := 26, slot := 19, constantValue := 0 }, { name := "SOFT_MAX_ARRAY_LENGTH", type := .int, accessFlags := 25, slot := 20, constantValue := 0 }]
  methods := #[k19m0]
  instanceTypes := #[]
  staticTypes := #[(.object "jdk/internal/misc/Unsafe"), .boolean, .int, .int, .int, .int, .int, .int, .int, .int, .int, .int, .int, .int, .int, .int, .int, .int, .int, (.object "jdk/internal/access/JavaLangAccess"), .int]
  resolved := Array.replicate 378 none
  statics := none }

/-- the primitive byte -/
def k20 : Class := { plain "byte" none with kind := .primitive 'B', accessFlags := 0x411 }
/-- [B -/
def k21 : Class := { plain "[B" (some 0) with kind := .array 20 .byte, interfaces := #[17, 2], accessFlags := 1041 }

/-- the primitive char -/
def k22 : Class := { plain "char" none with kind := .primitive 'C', accessFlags := 0x411 }
/-- [C -/
def k23 : Class := { plain "[C" (some 0) with kind := .array 22 .char, interfaces := #[17, 2], accessFlags := 1041 }

/-- the primitive int -/
def k24 : Class := { plain "int" none with kind := .primitive 'I', accessFlags := 0x411 }
/-- [I -/
def k25 : Class := { plain "[I" (some 0) with kind := .array 24 .int, interfaces := #[17, 2], accessFlags := 1041 }

def heap : Heap := #[{ cls := 7, slots := #[.long 0, .int 1, .null, .int 0, .null, .int 0, .int 0], vm := .statics 7 },
  { cls := 14, slots := #[.ref 5, .ref 10, .ref 11, .ref 13, .ref 9, .ref 15, .ref 12, .ref 8, .ref 14, .null], vm := .statics 14 },
  { cls := 15, slots := #[.ref 7], vm := .statics 15 },
  { cls := 16, slots := #[.null, .ref 6, .null, .null], vm := .statics 16 },
  { cls := 18, slots := #[.null, .null, .null], vm := .statics 18 },
  { cls := 14, slots := #[.null, .int 0, .int 0, .null], vm := .none },
  { cls := 16, slots := #[.null, .int 0, .int 0, .null], vm := .none },
  { cls := 25, slots := #[], vm := .none },
  { cls := 14, slots := #[.null, .int 0, .int 0, .null], vm := .none },
  { cls := 14, slots := #[.null, .int 0, .int 0, .null], vm := .none },
  { cls := 14, slots := #[.null, .int 0, .int 0, .null], vm := .none },
  { cls := 14, slots := #[.null, .int 0, .int 0, .null], vm := .none },
  { cls := 14, slots := #[.null, .int 0, .int 0, .null], vm := .none },
  { cls := 14, slots := #[.null, .int 0, .int 0, .null], vm := .none },
  { cls := 14, slots := #[.null, .int 0, .int 0, .null], vm := .none },
  { cls := 14, slots := #[.null, .int 0, .int 0, .null], vm := .none }]
def classes : Array Class := #[k0, k1, k2, k3, k4, k5, k6, k7, k8, k9, k10, k11, k12, k13, k14, k15, k16, k17, k18, k19, k20, k21, k22, k23, k24, k25]
def interned : List (Array UInt16 × Addr) := []
def slotsUsed : Nat := 65
def theMethod : MethodId := ⟨1, 2⟩
def args0 : Array Value := #[.int 5, .int 6, .long 7, .long 8, .int 9, .int 10]
def aboutOver (below : List Frame) : State where
  vm := { classes := classes, interned := interned.toArray }
  heap := heap
  slotsUsed := slotsUsed
  threads := #[{ frames := .invoking theMethod args0 :: below }]
def below0 : List Frame := [.native { method := ⟨0, 0⟩, args := #[] }]
def about1 : State := aboutOver below0
def p0 : Program := .bare "" "" ""
def e0 : Env := launch0.env 0 0 0
theorem w_frames : about1.frames = Frame.invoking theMethod args0 :: below0 := rfl
set_option maxRecDepth 65536 in
theorem w_args : argsFit about1.vm theMethod args0 = true := by decide +kernel
set_option maxRecDepth 65536 in
theorem w_heap : heapFits about1 = true := by decide +kernel
set_option maxRecDepth 65536 in
theorem w_runnable : about1.curStatus? = some .runnable := by decide +kernel
set_option maxRecDepth 65536 in
theorem w_alone : about1.alone = true := by decide +kernel
set_option maxRecDepth 65536 in
theorem w_named : about1.methodNamed? x = some theMethod := by decide +kernel
set_option maxRecDepth 65536 in
theorem w_hears : about1.hears theMethod below0 = true := by decide +kernel
set_option maxRecDepth 65536 in
theorem w_ripe : about1.ripe theMethod args0 below0 = true := by decide +kernel
theorem w_running : about1.status = .running := rfl
set_option maxRecDepth 65536 in
theorem w_room : about1.hasRoom e0.platform room_1 = true :=
  launch0.hasRoom_least _ room_1 (by decide +kernel) (by decide +kernel) (by decide +kernel) (by decide +kernel) (by decide +kernel) (by decide +kernel)
theorem allAtoms_all (ts : List Jvm.Cond) (a : Array Jvm.Value) (st : Jvm.State) : (allAtoms ts).before a st = ts.all (fun c => c.before a st) := by
  induction ts with
  | nil => rfl
  | cons c t ih =>
    show (Jvm.Cond.and c (allAtoms t)).before a st = _
    rw [Jvm.Cond.before_and, ih, List.all_cons]
def words1 : List Jvm.Cond := Jvm.Cond.code x code maxLocals ret :: tables_1
/-- a 'code' word, met by the world's own term for the bytes: nothing is compared byte by byte -/
theorem code_word {y : MethodName} {bytes : ByteArray} {mx : Nat} {rt : Option FieldType} {a : Array Value} {s : State} {m : MethodId} {meth : Method} {c : Code} (h1 : s.methodNamed? y = some m) (h2 : s.vm.method? m = some meth) (h3 : meth.code = some c) (h4 : c.code = bytes)
    (h5 : (c.maxLocals == mx && c.exceptionTable.isEmpty && decide (c.maxStack ≤ mostOperands) && decide (meth.sig.returnType = rt) && !meth.locks && decide (parseMethodDescriptor y.desc = some meth.sig)) = true) : (Jvm.Cond.code y bytes mx rt).before a s = true := by
  simp only [Bool.and_eq_true, beq_iff_eq, Bool.not_eq_true', decide_eq_true_eq] at h5
  obtain ⟨⟨⟨⟨⟨g1, g2⟩, g3⟩, g4⟩, g5⟩, g6⟩ := h5
  simp [Cond.before, Cond.holds, Cond.value, h1, h2, h3, h4, g1, g2, g3, g4, g5, g6]
def isCode : Jvm.Cond → Bool
  | .code _ _ _ _ => true
  | _ => false
theorem all_split {L : List Jvm.Cond} {P : Jvm.Cond → Bool} (h1 : L.all (fun c => isCode c || P c) = true) (h2 : ∀ c ∈ L.filter isCode, P c = true) : L.all P = true := by
  refine List.all_eq_true.mpr fun c hc => ?_
  have h := List.all_eq_true.mp h1 c hc
  rcases Bool.eq_false_or_eq_true (isCode c) with hi | hi
  · exact h2 c (List.mem_filter.mpr ⟨hc, hi⟩)
  · simpa [hi] using h
set_option maxRecDepth 65536 in
theorem w_c0 : (Jvm.Cond.code x code maxLocals ret).before args0 about1 = true := code_word (m := ⟨1, 2⟩) (meth := k1m2) (c := k1c2) (by decide +kernel) rfl rfl rfl (by decide +kernel)
set_option maxRecDepth 65536 in
theorem w_c1 : (Jvm.Cond.code ({ cls := "java/lang/String", name := "<init>", desc := "([C)V" } : Jvm.MethodName) jdk_42_method_3_code (2 : Nat) (Option.none : Option Jvm.ClassFile.FieldType)).before args0 about1 = true := code_word (m := ⟨7, 1⟩) (meth := k7m1) (c := k7c1) (by decide +kernel) rfl rfl rfl (by decide +kernel)
set_option maxRecDepth 65536 in
theorem w_c2 : (Jvm.Cond.code ({ cls := "java/lang/String", name := "<init>", desc := "([CIILjava/lang/Void;)V" } : Jvm.MethodName) jdk_42_method_149_code (6 : Nat) (Option.none : Option Jvm.ClassFile.FieldType)).before args0 about1 = true := code_word (m := ⟨7, 3⟩) (meth := k7m3) (c := k7c3) (by decide +kernel) rfl rfl rfl (by decide +kernel)
set_option maxRecDepth 65536 in
theorem w_c3 : (Jvm.Cond.code ({ cls := "java/lang/Object", name := "<init>", desc := "()V" } : Jvm.MethodName) object_method_1_code (1 : Nat) (Option.none : Option Jvm.ClassFile.FieldType)).before args0 about1 = true := code_word (m := ⟨0, 0⟩) (meth := k0m0) (c := k0c0) (by decide +kernel) rfl rfl rfl (by decide +kernel)
set_option maxRecDepth 65536 in
theorem w_c4 : (Jvm.Cond.code ({ cls := "java/lang/StringUTF16", name := "compress", desc := "([CII)[B" } : Jvm.MethodName) jdk_52_method_16_code (6 : Nat) (Option.some (Jvm.ClassFile.FieldType.array Jvm.ClassFile.FieldType.byte))).before args0 about1 = true := code_word (m := ⟨8, 2⟩) (meth := k8m2) (c := k8c2) (by decide +kernel) rfl rfl rfl (by decide +kernel)
set_option maxRecDepth 65536 in
theorem w_c5 : (Jvm.Cond.code ({ cls := "java/lang/StringUTF16", name := "compress", desc := "([CI[BII)I" } : Jvm.MethodName) jdk_52_method_21_code (7 : Nat) (Option.some Jvm.ClassFile.FieldType.int)).before args0 about1 = true := code_word (m := ⟨8, 3⟩) (meth := k8m3) (c := k8c3) (by decide +kernel) rfl rfl rfl (by decide +kernel)
set_option maxRecDepth 65536 in
theorem w_c6 : (Jvm.Cond.code ({ cls := "java/lang/StringUTF16", name := "coderFromArrayLen", desc := "([BI)B" } : Jvm.MethodName) jdk_52_method_15_code (2 : Nat) (Option.some Jvm.ClassFile.FieldType.byte)).before args0 about1 = true := code_word (m := ⟨8, 1⟩) (meth := k8m1) (c := k8c1) (by decide +kernel) rfl rfl rfl (by decide +kernel)
set_option maxRecDepth 65536 in
theorem w_c7 : (Jvm.Cond.code ({ cls := "java/lang/String", name := "valueOf", desc := "(C)Ljava/lang/String;" } : Jvm.MethodName) jdk_42_method_139_code (1 : Nat) (Option.some (Jvm.ClassFile.FieldType.object "java/lang/String"))).before args0 about1 = true := code_word (m := ⟨7, 2⟩) (meth := k7m2) (c := k7c2) (by decide +kernel) rfl rfl rfl (by decide +kernel)
set_option maxRecDepth 65536 in
theorem w_c8 : (Jvm.Cond.code ({ cls := "java/lang/StringLatin1", name := "canEncode", desc := "(C)Z" } : Jvm.MethodName) jdk_43_method_3_code (1 : Nat) (Option.some Jvm.ClassFile.FieldType.boolean)).before args0 about1 = true := code_word (m := ⟨9, 1⟩) (meth := k9m1) (c := k9c1) (by decide +kernel) rfl rfl rfl (by decide +kernel)
set_option maxRecDepth 65536 in
theorem w_c9 : (Jvm.Cond.code ({ cls := "java/lang/StringLatin1", name := "toBytes", desc := "(C)[B" } : Jvm.MethodName) jdk_43_method_46_code (1 : Nat) (Option.some (Jvm.ClassFile.FieldType.array Jvm.ClassFile.FieldType.byte))).before args0 about1 = true := code_word (m := ⟨9, 2⟩) (meth := k9m2) (c := k9c2) (by decide +kernel) rfl rfl rfl (by decide +kernel)
set_option maxRecDepth 65536 in
theorem w_c10 : (Jvm.Cond.code ({ cls := "java/lang/String", name := "<init>", desc := "([BB)V" } : Jvm.MethodName) jdk_42_method_151_code (3 : Nat) (Option.none : Option Jvm.ClassFile.FieldType)).before args0 about1 = true := code_word (m := ⟨7, 4⟩) (meth := k7m4) (c := k7c4) (by decide +kernel) rfl rfl rfl (by decide +kernel)
set_option maxRecDepth 65536 in
theorem w_c11 : (Jvm.Cond.code ({ cls := "com/example/sanction/sanction/model/RequestEvent", name := "<init>", desc := "(JJILjava/lang/String;Ljava/lang/String;)V" } : Jvm.MethodName) prog_23_method_1_code (8 : Nat) (Option.none : Option Jvm.ClassFile.FieldType)).before args0 about1 = true := code_word (m := ⟨11, 0⟩) (meth := k11m0) (c := k11c0) (by decide +kernel) rfl rfl rfl (by decide +kernel)
set_option maxRecDepth 65536 in
theorem w_c12 : (Jvm.Cond.code ({ cls := "com/example/sanction/sanction/model/Event", name := "<init>", desc := "(JJ)V" } : Jvm.MethodName) prog_11_method_1_code (5 : Nat) (Option.none : Option Jvm.ClassFile.FieldType)).before args0 about1 = true := code_word (m := ⟨10, 0⟩) (meth := k10m0) (c := k10c0) (by decide +kernel) rfl rfl rfl (by decide +kernel)
set_option maxRecDepth 65536 in
theorem w_c13 : (Jvm.Cond.code ({ cls := "com/example/sanction/sanction/model/DecisionDenyPinLaw", name := "pick", desc := "(I)Lcom/example/sanction/sanction/model/Reason;" } : Jvm.MethodName) method_2_code (2 : Nat) (Option.some (Jvm.ClassFile.FieldType.object "com/example/sanction/sanction/model/Reason"))).before args0 about1 = true := code_word (m := ⟨1, 1⟩) (meth := k1m1) (c := k1c1) (by decide +kernel) rfl rfl rfl (by decide +kernel)
set_option maxRecDepth 65536 in
theorem w_c14 : (Jvm.Cond.code ({ cls := "com/example/sanction/sanction/model/Decision", name := "deny", desc := "(Lcom/example/sanction/sanction/model/RequestEvent;Lcom/example/sanction/sanction/model/Reason;)Lcom/example/sanction/sanction/model/Decision;" } : Jvm.MethodName) prog_9_method_4_code (2 : Nat) (Option.some (Jvm.ClassFile.FieldType.object "com/example/sanction/sanction/model/Decision"))).before args0 about1 = true := code_word (m := ⟨15, 1⟩) (meth := k15m1) (c := k15c1) (by decide +kernel) rfl rfl rfl (by decide +kernel)
set_option maxRecDepth 65536 in
theorem w_c15 : (Jvm.Cond.code ({ cls := "com/example/sanction/sanction/model/Decision", name := "<init>", desc := "(Lcom/example/sanction/sanction/model/RequestEvent;Lcom/example/sanction/sanction/model/Verdict;Lcom/example/sanction/sanction/model/Reason;[I)V" } : Jvm.MethodName) prog_9_method_1_code (5 : Nat) (Option.none : Option Jvm.ClassFile.FieldType)).before args0 about1 = true := code_word (m := ⟨15, 0⟩) (meth := k15m0) (c := k15c0) (by decide +kernel) rfl rfl rfl (by decide +kernel)
set_option maxRecDepth 65536 in
theorem w_c16 : (Jvm.Cond.code ({ cls := "com/example/sanction/sanction/model/Decision", name := "getPath", desc := "()[I" } : Jvm.MethodName) prog_9_method_8_code (1 : Nat) (Option.some (Jvm.ClassFile.FieldType.array Jvm.ClassFile.FieldType.int))).before args0 about1 = true := code_word (m := ⟨15, 5⟩) (meth := k15m5) (c := k15c5) (by decide +kernel) rfl rfl rfl (by decide +kernel)
set_option maxRecDepth 65536 in
theorem w_c17 : (Jvm.Cond.code ({ cls := "com/example/sanction/sanction/model/Decision", name := "getRequest", desc := "()Lcom/example/sanction/sanction/model/RequestEvent;" } : Jvm.MethodName) prog_9_method_5_code (1 : Nat) (Option.some (Jvm.ClassFile.FieldType.object "com/example/sanction/sanction/model/RequestEvent"))).before args0 about1 = true := code_word (m := ⟨15, 2⟩) (meth := k15m2) (c := k15c2) (by decide +kernel) rfl rfl rfl (by decide +kernel)
set_option maxRecDepth 65536 in
theorem w_c18 : (Jvm.Cond.code ({ cls := "com/example/sanction/sanction/model/Decision", name := "getVerdict", desc := "()Lcom/example/sanction/sanction/model/Verdict;" } : Jvm.MethodName) prog_9_method_6_code (1 : Nat) (Option.some (Jvm.ClassFile.FieldType.object "com/example/sanction/sanction/model/Verdict"))).before args0 about1 = true := code_word (m := ⟨15, 3⟩) (meth := k15m3) (c := k15c3) (by decide +kernel) rfl rfl rfl (by decide +kernel)
set_option maxRecDepth 65536 in
theorem w_c19 : (Jvm.Cond.code ({ cls := "com/example/sanction/sanction/model/Decision", name := "getReason", desc := "()Lcom/example/sanction/sanction/model/Reason;" } : Jvm.MethodName) prog_9_method_7_code (1 : Nat) (Option.some (Jvm.ClassFile.FieldType.object "com/example/sanction/sanction/model/Reason"))).before args0 about1 = true := code_word (m := ⟨15, 4⟩) (meth := k15m4) (c := k15c4) (by decide +kernel) rfl rfl rfl (by decide +kernel)
def codes1 : List Jvm.Cond := [Jvm.Cond.code x code maxLocals ret, Jvm.Cond.code ({ cls := "java/lang/String", name := "<init>", desc := "([C)V" } : Jvm.MethodName) jdk_42_method_3_code (2 : Nat) (Option.none : Option Jvm.ClassFile.FieldType), Jvm.Cond.code ({ cls := "java/lang/String", name := "<init>", desc := "([CIILjava/lang/Void;)V" } : Jvm.MethodName) jdk_42_method_149_code (6 : Nat) (Option.none : Option Jvm.ClassFile.FieldType), Jvm.Cond.code ({ cls := "java/lang/Object", name := "<init>", desc := "()V" } : Jvm.MethodName) object_method_1_code (1 : Nat) (Option.none : Option Jvm.ClassFile.FieldType), Jvm.Cond.code ({ cls := "java/lang/StringUTF16", name := "compress", desc := "([CII)[B" } : Jvm.MethodName) jdk_52_method_16_code (6 : Nat) (Option.some (Jvm.ClassFile.FieldType.array Jvm.ClassFile.FieldType.byte)), Jvm.Cond.code ({ cls := "java/lang/StringUTF16", name := "compress", desc := "([CI[BII)I" } : Jvm.MethodName) jdk_52_method_21_code (7 : Nat) (Option.some Jvm.ClassFile.FieldType.int), Jvm.Cond.code ({ cls := "java/lang/StringUTF16", name := "coderFromArrayLen", desc := "([BI)B" } : Jvm.MethodName) jdk_52_method_15_code (2 : Nat) (Option.some Jvm.ClassFile.FieldType.byte), Jvm.Cond.code ({ cls := "java/lang/String", name := "valueOf", desc := "(C)Ljava/lang/String;" } : Jvm.MethodName) jdk_42_method_139_code (1 : Nat) (Option.some (Jvm.ClassFile.FieldType.object "java/lang/String")), Jvm.Cond.code ({ cls := "java/lang/StringLatin1", name := "canEncode", desc := "(C)Z" } : Jvm.MethodName) jdk_43_method_3_code (1 : Nat) (Option.some Jvm.ClassFile.FieldType.boolean), Jvm.Cond.code ({ cls := "java/lang/StringLatin1", name := "toBytes", desc := "(C)[B" } : Jvm.MethodName) jdk_43_method_46_code (1 : Nat) (Option.some (Jvm.ClassFile.FieldType.array Jvm.ClassFile.FieldType.byte)), Jvm.Cond.code ({ cls := "java/lang/String", name := "<init>", desc := "([BB)V" } : Jvm.MethodName) jdk_42_method_151_code (3 : Nat) (Option.none : Option Jvm.ClassFile.FieldType), Jvm.Cond.code ({ cls := "com/example/sanction/sanction/model/RequestEvent", name := "<init>", desc := "(JJILjava/lang/String;Ljava/lang/String;)V" } : Jvm.MethodName) prog_23_method_1_code (8 : Nat) (Option.none : Option Jvm.ClassFile.FieldType), Jvm.Cond.code ({ cls := "com/example/sanction/sanction/model/Event", name := "<init>", desc := "(JJ)V" } : Jvm.MethodName) prog_11_method_1_code (5 : Nat) (Option.none : Option Jvm.ClassFile.FieldType), Jvm.Cond.code ({ cls := "com/example/sanction/sanction/model/DecisionDenyPinLaw", name := "pick", desc := "(I)Lcom/example/sanction/sanction/model/Reason;" } : Jvm.MethodName) method_2_code (2 : Nat) (Option.some (Jvm.ClassFile.FieldType.object "com/example/sanction/sanction/model/Reason")), Jvm.Cond.code ({ cls := "com/example/sanction/sanction/model/Decision", name := "deny", desc := "(Lcom/example/sanction/sanction/model/RequestEvent;Lcom/example/sanction/sanction/model/Reason;)Lcom/example/sanction/sanction/model/Decision;" } : Jvm.MethodName) prog_9_method_4_code (2 : Nat) (Option.some (Jvm.ClassFile.FieldType.object "com/example/sanction/sanction/model/Decision")), Jvm.Cond.code ({ cls := "com/example/sanction/sanction/model/Decision", name := "<init>", desc := "(Lcom/example/sanction/sanction/model/RequestEvent;Lcom/example/sanction/sanction/model/Verdict;Lcom/example/sanction/sanction/model/Reason;[I)V" } : Jvm.MethodName) prog_9_method_1_code (5 : Nat) (Option.none : Option Jvm.ClassFile.FieldType), Jvm.Cond.code ({ cls := "com/example/sanction/sanction/model/Decision", name := "getPath", desc := "()[I" } : Jvm.MethodName) prog_9_method_8_code (1 : Nat) (Option.some (Jvm.ClassFile.FieldType.array Jvm.ClassFile.FieldType.int)), Jvm.Cond.code ({ cls := "com/example/sanction/sanction/model/Decision", name := "getRequest", desc := "()Lcom/example/sanction/sanction/model/RequestEvent;" } : Jvm.MethodName) prog_9_method_5_code (1 : Nat) (Option.some (Jvm.ClassFile.FieldType.object "com/example/sanction/sanction/model/RequestEvent")), Jvm.Cond.code ({ cls := "com/example/sanction/sanction/model/Decision", name := "getVerdict", desc := "()Lcom/example/sanction/sanction/model/Verdict;" } : Jvm.MethodName) prog_9_method_6_code (1 : Nat) (Option.some (Jvm.ClassFile.FieldType.object "com/example/sanction/sanction/model/Verdict")), Jvm.Cond.code ({ cls := "com/example/sanction/sanction/model/Decision", name := "getReason", desc := "()Lcom/example/sanction/sanction/model/Reason;" } : Jvm.MethodName) prog_9_method_7_code (1 : Nat) (Option.some (Jvm.ClassFile.FieldType.object "com/example/sanction/sanction/model/Reason"))]
set_option maxRecDepth 65536 in
theorem codes_eq : words1.filter isCode = codes1 := rfl
theorem w_codes : ∀ c ∈ words1.filter isCode, c.before args0 about1 = true := by
  rw [codes_eq]
  intro c hc
  simp only [codes1, List.mem_cons, List.not_mem_nil, or_false] at hc
  rcases hc with rfl | rfl | rfl | rfl | rfl | rfl | rfl | rfl | rfl | rfl | rfl | rfl | rfl | rfl | rfl | rfl | rfl | rfl | rfl | rfl
  · exact w_c0
  · exact w_c1
  · exact w_c2
  · exact w_c3
  · exact w_c4
  · exact w_c5
  · exact w_c6
  · exact w_c7
  · exact w_c8
  · exact w_c9
  · exact w_c10
  · exact w_c11
  · exact w_c12
  · exact w_c13
  · exact w_c14
  · exact w_c15
  · exact w_c16
  · exact w_c17
  · exact w_c18
  · exact w_c19
set_option maxRecDepth 65536 in
theorem w_t1 : (words1.take 24).all (fun c => isCode c || c.before args0 about1) = true := by decide +kernel
set_option maxRecDepth 65536 in
theorem w_t2 : ((words1.drop 24).take 24).all (fun c => isCode c || c.before args0 about1) = true := by decide +kernel
set_option maxRecDepth 65536 in
theorem w_t3 : (((words1.drop 24).drop 24).take 24).all (fun c => isCode c || c.before args0 about1) = true := by decide +kernel
set_option maxRecDepth 65536 in
theorem w_t4 : ((((words1.drop 24).drop 24).drop 24).take 24).all (fun c => isCode c || c.before args0 about1) = true := by decide +kernel
set_option maxRecDepth 65536 in
theorem w_t5 : (((((words1.drop 24).drop 24).drop 24).drop 24).take 24).all (fun c => isCode c || c.before args0 about1) = true := by decide +kernel
set_option maxRecDepth 65536 in
theorem w_t6 : (((((words1.drop 24).drop 24).drop 24).drop 24).drop 24).all (fun c => isCode c || c.before args0 about1) = true := by decide +kernel
theorem w_tables : (allAtoms (Jvm.Cond.code x code maxLocals ret :: tables_1)).before args0 about1 = true := by
  rw [allAtoms_all]
  show words1.all (fun c => c.before args0 about1) = true
  refine all_split ?_ w_codes
  rw [← List.take_append_drop 24 words1, List.all_append, w_t1, ← List.take_append_drop 24 (words1.drop 24), List.all_append, w_t2, ← List.take_append_drop 24 ((words1.drop 24).drop 24), List.all_append, w_t3, ← List.take_append_drop 24 (((words1.drop 24).drop 24).drop 24), List.all_append, w_t4, ← List.take_append_drop 24 ((((words1.drop 24).drop 24).drop 24).drop 24), List.all_append, w_t5, w_t6]
  rfl
set_option maxRecDepth 65536 in
theorem w_rest : rest_1_c.before args0 about1 = true := by decide +kernel
set_option maxRecDepth 65536 in
theorem w_case : (Jvm.Cond.and given_1 narrow_1).before args0 about1 = true := by decide +kernel
theorem w_applies : (headSpec (Jvm.Cond.code x code maxLocals ret :: tables_1) room_1).applies x e0.platform about1 = true :=
  (Spec.applies_iff w_frames).mpr ⟨w_running, w_runnable, w_alone, w_named, w_hears, w_ripe, w_room, w_tables⟩
theorem atStart : AtStart classFile x code maxLocals ret World_1 tables_1 room_1 Calls_1 rest_1 Pre_1 launch0 p0 e0 about1 theMethod args0 below0 :=
  ⟨lists_1, trivial, launch0.admits_env _ _ _, launch0.least_env, fairChoices_fair.cas, fairChoices_fair.clock, w_frames, w_args, w_heap, w_applies, trivial, w_rest, w_case⟩
end start1
theorem witness_1 : WitnessClaimed_1 := ⟨start1.p0, start1.e0, start1.about1, start1.theMethod, start1.args0, start1.below0, start1.atStart⟩
end Jvm.Pilot.@@N@@
