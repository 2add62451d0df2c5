import JvmDerived
import JvmDerived.Pilot.@@N@@Statement
import JvmDerived.Pilot.@@N@@Code
set_option linter.unusedVariables false
set_option linter.unusedSimpArgs false
namespace Jvm.RoadKit
open Sem ClassFile Op Lib Jvm.Stand Jvm.Free Jvm.LawKit
section New
variable {p : Program} {l : Launch} {e : Env} {R : Room} {s : State} {m : MethodId} {args : Array Value} {below : List Frame} {meth : Method} {c : Code} {T : State} {locs : List Loc} {cells slots : Nat}
theorem retI (X : Stand p l e R s m args below meth c T locs cells slots) (hx : p.tables.exec = Jvm.exec) {pc : Nat} {Ls : Array Slot} {z : Int32} {rest : List Value} (hret : meth.sig.returnType = some .int) (hd : decode c.code pc = .ok (.ireturn, 1)) {fs : List Frame}
    (hl : ∀ (f : JFrame) (acts : List Action), f.method = m → f.locked = none → f.entered = [] → (doReturn e (T.setTop f) acts (some (.int z))).1 = T.setFrames fs) : Steps p.tables e below (T.setTop (mkF m pc Ls (.int z :: rest))) (T.setFrames fs) := by
  have hm' : T.vm.method? m = some meth := X.method'
  have hn : narrow .int (.int z) = .int z := rfl
  show Steps p.tables e below (T.setTop { method := m, pc := pc, locals := Ls, stack := _ :: rest, locked := none }) _
  jvm_step X.here [X.here.top, hx, hd, hm', hret, hn]
  first | (intro acts; rw [hl _ acts rfl rfl rfl]) | rw [hl _ _ rfl rfl rfl]
  exact Steps.refl _
end New
end Jvm.RoadKit
/- laws to paste: Road.backV (cut by pick.py; bodies as the Statement names them) -/
namespace Jvm.Pilot.@@N@@
namespace StrChars
open Jvm Sem ClassFile Op Lib Jvm.Stand Jvm.Free.XT Jvm.Free.ALB Jvm.Free.JM Jvm.Free
open Jvm.Lib.Cold (StaticIs)
/-- a char array whose places are chars -/
def Ch (a : Addr) (A : Cell) (U : State) : Prop := Arr .char a A U ∧ Typed .char A
theorem Ch.mv {a : Addr} {A : Cell} {U U' : State} (h : Ch a A U) (hal : U.vm.Alike U'.vm) (hh : U'.heap = U.heap) : Ch a A U' := ⟨h.1.mv hal hh, h.2⟩
theorem Ch.keep {a : Addr} {A : Cell} {U U' : State} (h : Ch a A U) (hal : U.vm.Alike U'.vm) (hk : U'.heap[a]? = some A) : Ch a A U' := ⟨h.1.keep hal hk, h.2⟩
/-- what place i of a char[]'s cell holds -/
def cv (A : Cell) (i : Nat) : Int32 := match A.slots[i]? with | some (.int x) => x | _ => 0
theorem Ch.get {a : Addr} {A : Cell} {U : State} (h : Ch a A U) {i : Nat} (hi : i < A.slots.size) : A.slots[i]? = some (.int (cv A i)) := by
  have e := Array.getElem?_eq_getElem hi
  have f := h.2 i _ e
  unfold cv; rw [e]
  generalize A.slots[i] = v at f
  cases v <;> simp [fits] at f ⊢
/-- the byte that i2b leaves of a char -/
def lo8 (x : Int32) : Int32 := x.toInt8.toInt32
theorem fits_lo8 (y : Int32) : fits .byte (.int (lo8 y)) = true := by
  have h1 := y.toInt8.le_toInt
  have h2 := y.toInt8.toInt_lt
  simp only [lo8, fits, Bool.and_eq_true, decide_eq_true_eq, Int32.le_iff_toInt_le, Int8.toInt_toInt32, show (-128 : Int32).toInt = -128 from by decide, show (127 : Int32).toInt = 127 from by decide]
  omega
/-- A' is A but that each place j of lo .. hi - 1 holds f j -/
def Laid (A A' : Cell) (lo hi : Nat) (f : Nat → Value) : Prop := A'.cls = A.cls ∧ A'.vm = A.vm ∧ A'.slots.size = A.slots.size ∧ ∀ i, A'.slots[i]? = if lo ≤ i ∧ i < hi then some (f i) else A.slots[i]?
theorem Laid.zero (A : Cell) (lo : Nat) (f : Nat → Value) : Laid A A lo (lo + 0) f := ⟨rfl, rfl, rfl, fun i => by rw [if_neg (by omega)]⟩
theorem Laid.step {A Ak : Cell} {lo k : Nat} {f : Nat → Value} {v : Value} (h : Laid A Ak lo k f) (hlo : lo ≤ k) (hk : k < Ak.slots.size) (hv : v = f k) : Laid A (Ak.setSlot k v) lo (k + 1) f := by
  refine ⟨h.1, h.2.1, by simpa [Cell.setSlot] using h.2.2.1, fun i => ?_⟩
  by_cases e : k = i
  · subst e; rw [Cell.slots_setSlot_self v hk, if_pos (by omega), hv]
  · rw [Cell.slots_setSlot_ne v e, h.2.2.2 i]
    by_cases q : lo ≤ i ∧ i < k
    · rw [if_pos q, if_pos (by omega)]
    · rw [if_neg q, if_neg (by omega)]
def U16 : String := "java/lang/StringUTF16"
namespace Cmp5
def yN : MethodName := ⟨"java/lang/StringUTF16", "compress", "([CI[BII)I"⟩
abbrev yB : ByteArray := jdk_52_method_21_code
theorem d0 : decode yB 0 = .ok (.iconst 0, 1) := by decide +kernel
theorem d1 : decode yB 1 = .ok (.istore 5, 2) := by decide +kernel
theorem d3 : decode yB 3 = .ok (.iload 5, 2) := by decide +kernel
theorem d5 : decode yB 5 = .ok (.iload 4, 2) := by decide +kernel
theorem d7 : decode yB 7 = .ok (.if_icmp (.ge) 37, 3) := by decide +kernel
theorem d10 : decode yB 10 = .ok (.aload_n 0, 1) := by decide +kernel
theorem d11 : decode yB 11 = .ok (.iload_n 1, 1) := by decide +kernel
theorem d12 : decode yB 12 = .ok (.caload, 1) := by decide +kernel
theorem d13 : decode yB 13 = .ok (.istore 6, 2) := by decide +kernel
theorem d15 : decode yB 15 = .ok (.iload 6, 2) := by decide +kernel
theorem d17 : decode yB 17 = .ok (.sipush 255, 3) := by decide +kernel
theorem d20 : decode yB 20 = .ok (.if_icmp (.le) 6, 3) := by decide +kernel
theorem d26 : decode yB 26 = .ok (.aload_n 2, 1) := by decide +kernel
theorem d27 : decode yB 27 = .ok (.iload_n 3, 1) := by decide +kernel
theorem d28 : decode yB 28 = .ok (.iload 6, 2) := by decide +kernel
theorem d30 : decode yB 30 = .ok (.i2b, 1) := by decide +kernel
theorem d31 : decode yB 31 = .ok (.bastore, 1) := by decide +kernel
theorem d32 : decode yB 32 = .ok (.iinc 1 1, 3) := by decide +kernel
theorem d35 : decode yB 35 = .ok (.iinc 3 1, 3) := by decide +kernel
theorem d38 : decode yB 38 = .ok (.iinc 5 1, 3) := by decide +kernel
theorem d41 : decode yB 41 = .ok (.goto (-38), 3) := by decide +kernel
theorem d44 : decode yB 44 = .ok (.iload 4, 2) := by decide +kernel
theorem d46 : decode yB 46 = .ok (.ireturn, 1) := by decide +kernel
def site : List Cond := []
def tab : Cond := tabOf yN yB 7 (some .int) site
def P (b : Addr) (A : Cell) (d : Addr) (B : Cell) (o q len : Nat) (args : Array Value) (s : State) : Prop := args = #[.ref b, .int (Int32.ofNat o), .ref d, .int (Int32.ofNat q), .int (Int32.ofNat len)] ∧ Ch b A s ∧ Arr .byte d B s ∧ b ≠ d ∧ o + len ≤ A.slots.size ∧ q + len ≤ B.slots.size ∧ ∀ i, i < len → ¬ 255 < cv A (o + i)
def E (b : Addr) (A : Cell) (d : Addr) (B : Cell) (o q len : Nat) (r : Option Value) (s u : State) : Prop := r = some (.int (Int32.ofNat len)) ∧ ∃ B', Put d B' s u ∧ Laid B B' q (q + len) (fun j => Value.int (lo8 (cv A (o + (j - q)))))
/-- no char of the range above 255: len; the places written hold each char's low byte -/
theorem law (l : Launch) (b : Addr) (A : Cell) (d : Addr) (B : Cell) (o q len : Nat) : Law l yN 5 5 0 0 yB 7 (some .int) site (P b A d B o q len) (E b A d B o q len) (copyLocs d q len) 0 0 := by
  refine Law.of_walk (plainFor_of_name (by decide +kernel)) (by decide +kernel) (by decide +kernel) (by decide) (fun _ _ h => by rw [h.1]; rfl) (fun _ U U' hal hh h => ⟨h.1, h.2.1.mv hal hh, h.2.2.1.mv hal hh, h.2.2.2⟩) (fun r U U' V V' h1 hal h2 h => ⟨h.1, h.2.elim fun B' q => ⟨B', q.1.mv h1 h2, q.2⟩⟩) ?_
  intro p e s m args below meth c s₁ X0 hexec hbytes hml hret hlk hnm hown hh0 W hP
  obtain ⟨rfl, hA, hB, hne, l1, l2, hp⟩ := hP
  have c1 : Steps p.tables e below (s₁.setTop (entryFrame m #[.ref b, .int (Int32.ofNat o), .ref d, .int (Int32.ofNat q), .int (Int32.ofNat len)] 7)) (s₁.setTop (mkF m 0 #[.val (.ref b), .val (.int (Int32.ofNat o)), .val (.ref d), .val (.int (Int32.ofNat q)), .val (.int (Int32.ofNat len)), .unset, .unset] [])) := entry rfl
  have hA0 := hA.1.mv X0.warmed.alike hh0
  have hB0 := hB.mv X0.warmed.alike hh0
  have a31 := hA.1.2.2.2
  have c2 : Steps p.tables e below (s₁.setTop (entryFrame m #[.ref b, .int (Int32.ofNat o), .ref d, .int (Int32.ofNat q), .int (Int32.ofNat len)] 7)) (s₁.setTop (mkF m 3 #[.val (.ref b), .val (.int (Int32.ofNat o)), .val (.ref d), .val (.int (Int32.ofNat q)), .val (.int (Int32.ofNat len)), .val (.int 0), .unset] [])) := c1.trans (by
    refine iconstV X0.here hexec rfl 0 (hb hbytes d0) (by decide) ?_
    refine XS.istore X0.here hexec rfl (hb hbytes d1) rfl rfl ?_
    exact Steps.refl _)
  have loop : ∀ (r i : Nat), i + r = len → ∀ (z : Slot), (z = .unset ∨ ∃ w, z = .val w ∧ w.category = 1) → ∀ (Tl : State) (Bk : Cell), Stand p l e { frames := 0, locals := 0, cells := 0, slots := 0 } s m #[.ref b, .int (Int32.ofNat o), .ref d, .int (Int32.ofNat q), .int (Int32.ofNat len)] below meth c Tl ([] ++ copyLocs d q i) 0 0 → Put d Bk s₁ Tl → Laid B Bk q (q + i) (fun j => Value.int (lo8 (cv A (o + (j - q))))) →
      Steps p.tables e below (s₁.setTop (entryFrame m #[.ref b, .int (Int32.ofNat o), .ref d, .int (Int32.ofNat q), .int (Int32.ofNat len)] 7)) (Tl.setTop (mkF m 3 #[.val (.ref b), .val (.int (Int32.ofNat (o + i))), .val (.ref d), .val (.int (Int32.ofNat (q + i))), .val (.int (Int32.ofNat len)), .val (.int (Int32.ofNat i)), z] [])) → ∃ (T' : State) (B' : Cell) (z' : Slot), Stand p l e { frames := 0, locals := 0, cells := 0, slots := 0 } s m #[.ref b, .int (Int32.ofNat o), .ref d, .int (Int32.ofNat q), .int (Int32.ofNat len)] below meth c T' ([] ++ copyLocs d q len) 0 0 ∧ Put d B' s₁ T' ∧ Laid B B' q (q + len) (fun j => Value.int (lo8 (cv A (o + (j - q))))) ∧
      Steps p.tables e below (s₁.setTop (entryFrame m #[.ref b, .int (Int32.ofNat o), .ref d, .int (Int32.ofNat q), .int (Int32.ofNat len)] 7)) (T'.setTop (mkF m 3 #[.val (.ref b), .val (.int (Int32.ofNat (o + len))), .val (.ref d), .val (.int (Int32.ofNat (q + len))), .val (.int (Int32.ofNat len)), .val (.int (Int32.ofNat len)), z'] [])) := by
    intro r
    induction r with
    | zero =>
      intro i hi z hz Tl Bk Xl pl fl cl
      have hil : i = len := by omega
      rw [hil] at Xl fl cl
      exact ⟨Tl, Bk, z, Xl, pl, fl, cl⟩
    | succ r ih =>
      intro i hi z hz Tl Bk Xl pl fl cl
      have all := X0.warmed.alike.symm.trans Xl.warmed.alike
      have hAl := hA0.keep all (pl.other hne hA0.1)
      have hBk := hB0.like all pl.1 fl.1 fl.2.1 fl.2.2.1
      have hlt : q + i < Bk.slots.size := by rw [fl.2.2.1]; omega
      have c3 : Steps p.tables e below (s₁.setTop (entryFrame m #[.ref b, .int (Int32.ofNat o), .ref d, .int (Int32.ofNat q), .int (Int32.ofNat len)] 7)) (Tl.setTop (mkF m 12 #[.val (.ref b), .val (.int (Int32.ofNat (o + i))), .val (.ref d), .val (.int (Int32.ofNat (q + i))), .val (.int (Int32.ofNat len)), .val (.int (Int32.ofNat i)), z] [.int (Int32.ofNat (o + i)), .ref b])) := cl.trans (by
        refine XS.iload Xl.here hexec rfl (hb hbytes d3) rfl ?_
        refine XS.iload Xl.here hexec rfl (hb hbytes d5) rfl ?_
        refine XS.icmpNo Xl.here hexec rfl (hb hbytes d7) rfl (ii_ge_f (lt32 (by omega) (by omega))) ?_
        refine XS.aloadN Xl.here hexec rfl (hb hbytes d10) rfl rfl ?_
        refine XS.iloadN Xl.here hexec rfl (hb hbytes d11) rfl ?_
        exact Steps.refl _)
      have c4 : Steps p.tables e below (s₁.setTop (entryFrame m #[.ref b, .int (Int32.ofNat o), .ref d, .int (Int32.ofNat q), .int (Int32.ofNat len)] 7)) (Tl.setTop (mkF m 13 #[.val (.ref b), .val (.int (Int32.ofNat (o + i))), .val (.ref d), .val (.int (Int32.ofNat (q + i))), .val (.int (Int32.ofNat len)), .val (.int (Int32.ofNat i)), z] [.int (cv A (o + i))])) := c3.trans (by
        refine Xl.aget hexec hAl rfl (hA.get (i := o + i) (by omega)) rfl rfl (hb hbytes d12) ?_
        exact Steps.refl _)
      have c5 : Steps p.tables e below (s₁.setTop (entryFrame m #[.ref b, .int (Int32.ofNat o), .ref d, .int (Int32.ofNat q), .int (Int32.ofNat len)] 7)) (Tl.setTop (mkF m 15 #[.val (.ref b), .val (.int (Int32.ofNat (o + i))), .val (.ref d), .val (.int (Int32.ofNat (q + i))), .val (.int (Int32.ofNat len)), .val (.int (Int32.ofNat i)), .val (.int (cv A (o + i)))] [])) := c4.trans (by
        refine XS.istoreS Xl.here hexec rfl (hb hbytes d13) rfl rfl hz ?_
        exact Steps.refl _)
      have c6 : Steps p.tables e below (s₁.setTop (entryFrame m #[.ref b, .int (Int32.ofNat o), .ref d, .int (Int32.ofNat q), .int (Int32.ofNat len)] 7)) (Tl.setTop (mkF m 31 #[.val (.ref b), .val (.int (Int32.ofNat (o + i))), .val (.ref d), .val (.int (Int32.ofNat (q + i))), .val (.int (Int32.ofNat len)), .val (.int (Int32.ofNat i)), .val (.int (cv A (o + i)))] [.int (lo8 (cv A (o + i))), .int (Int32.ofNat (q + i)), .ref d])) := c5.trans (by
        refine XS.iload Xl.here hexec rfl (hb hbytes d15) rfl ?_
        refine sipushV Xl.here hexec rfl 255 (hb hbytes d17) (by decide) ?_
        refine XS.icmpYes Xl.here hexec rfl (pc0 := 20) rfl (hb hbytes d20) rfl (ii_le_t (hp i (by omega))) (by decide) rfl ?_
        refine XS.aloadN Xl.here hexec rfl (hb hbytes d26) rfl rfl ?_
        refine XS.iloadN Xl.here hexec rfl (hb hbytes d27) rfl ?_
        refine XS.iload Xl.here hexec rfl (hb hbytes d28) rfl ?_
        refine i2b Xl.here hexec rfl (hb hbytes d30) rfl ?_
        exact Steps.refl _)
      obtain ⟨T7, X7, p7, st7⟩ := Xl.aput hexec hBk rfl hlt rfl (fits_lo8 (cv A (o + i))) (g := (mkF m 31 #[.val (.ref b), .val (.int (Int32.ofNat (o + i))), .val (.ref d), .val (.int (Int32.ofNat (q + i))), .val (.int (Int32.ofNat len)), .val (.int (Int32.ofNat i)), .val (.int (cv A (o + i)))] [.int (lo8 (cv A (o + i))), .int (Int32.ofNat (q + i)), .ref d])) rfl (rest := []) rfl (hb hbytes d31)
      have c8 : Steps p.tables e below (s₁.setTop (entryFrame m #[.ref b, .int (Int32.ofNat o), .ref d, .int (Int32.ofNat q), .int (Int32.ofNat len)] 7)) (T7.setTop (mkF m 32 #[.val (.ref b), .val (.int (Int32.ofNat (o + i))), .val (.ref d), .val (.int (Int32.ofNat (q + i))), .val (.int (Int32.ofNat len)), .val (.int (Int32.ofNat i)), .val (.int (cv A (o + i)))] [])) := c6.trans (st7 _ (Steps.refl _))
      have c9 : Steps p.tables e below (s₁.setTop (entryFrame m #[.ref b, .int (Int32.ofNat o), .ref d, .int (Int32.ofNat q), .int (Int32.ofNat len)] 7)) (T7.setTop (mkF m 3 #[.val (.ref b), .val (.int (Int32.ofNat (o + i) + 1)), .val (.ref d), .val (.int (Int32.ofNat (q + i) + 1)), .val (.int (Int32.ofNat len)), .val (.int (Int32.ofNat i + 1)), .val (.int (cv A (o + i)))] [])) := c8.trans (by
        refine iincV X7.here hexec rfl 1 (hb hbytes d32) (by decide) rfl rfl ?_
        refine iincV X7.here hexec rfl 1 (hb hbytes d35) (by decide) rfl rfl ?_
        refine iincV X7.here hexec rfl 1 (hb hbytes d38) (by decide) rfl rfl ?_
        refine XS.goto X7.here hexec rfl (pc0 := 41) rfl (hb hbytes d41) (by decide) rfl ?_
        exact Steps.refl _)
      have c10 : Steps p.tables e below (s₁.setTop (entryFrame m #[.ref b, .int (Int32.ofNat o), .ref d, .int (Int32.ofNat q), .int (Int32.ofNat len)] 7)) (T7.setTop (mkF m 3 #[.val (.ref b), .val (.int (Int32.ofNat (o + (i + 1)))), .val (.ref d), .val (.int (Int32.ofNat (q + (i + 1)))), .val (.int (Int32.ofNat len)), .val (.int (Int32.ofNat (i + 1))), .val (.int (cv A (o + i)))] [])) := by
        have := c9
        rw [succ32, succ32, succ32] at this
        exact this
      exact ih (i + 1) (by omega) _ (Or.inr ⟨_, rfl, rfl⟩) T7 _ (by rw [copyLocs_step, ← List.append_assoc]; exact X7) (pl.trans p7) (fl.step (by omega) hlt (by simp)) c10
  obtain ⟨T9, B9, z9, X9, p9, f9, g9⟩ := loop len 0 (by omega) .unset (Or.inl rfl) s₁ B (by simpa [copyLocs] using X0) ⟨hB0.1, fun _ _ => rfl, rfl⟩ (Laid.zero _ _ _) c2
  have c11 : Steps p.tables e below (s₁.setTop (entryFrame m #[.ref b, .int (Int32.ofNat o), .ref d, .int (Int32.ofNat q), .int (Int32.ofNat len)] 7)) (T9.setTop (mkF m 46 #[.val (.ref b), .val (.int (Int32.ofNat (o + len))), .val (.ref d), .val (.int (Int32.ofNat (q + len))), .val (.int (Int32.ofNat len)), .val (.int (Int32.ofNat len)), z9] [.int (Int32.ofNat len)])) := g9.trans (by
    refine XS.iload X9.here hexec rfl (hb hbytes d3) rfl ?_
    refine XS.iload X9.here hexec rfl (hb hbytes d5) rfl ?_
    refine XS.icmpYes X9.here hexec rfl (pc0 := 7) rfl (hb hbytes d7) rfl (ii_ge_t (nlt32 (by omega) (Nat.le_refl _))) (by decide) rfl ?_
    refine XS.iload X9.here hexec rfl (hb hbytes d44) rfl ?_
    exact Steps.refl _)
  exact ⟨T9, some (.int (Int32.ofNat len)), _, _, _, X9, by simp, rfl, rfl, (fun h => by cases h), ⟨rfl, B9, p9.from hh0, f9⟩, fun fs hl => c11.trans (X9.ireturnOut hexec hret rfl (Or.inl rfl) (hb hbytes d46) hl)⟩
end Cmp5
namespace Cmp3
def yN : MethodName := ⟨"java/lang/StringUTF16", "compress", "([CII)[B"⟩
abbrev yB : ByteArray := jdk_52_method_16_code
theorem d0 : decode yB 0 = .ok (.iload_n 2, 1) := by decide +kernel
theorem d1 : decode yB 1 = .ok (.newarray .byte, 2) := by decide +kernel
theorem d3 : decode yB 3 = .ok (.astore_n 3, 1) := by decide +kernel
theorem d4 : decode yB 4 = .ok (.aload_n 0, 1) := by decide +kernel
theorem d5 : decode yB 5 = .ok (.iload_n 1, 1) := by decide +kernel
theorem d6 : decode yB 6 = .ok (.aload_n 3, 1) := by decide +kernel
theorem d7 : decode yB 7 = .ok (.iconst 0, 1) := by decide +kernel
theorem d8 : decode yB 8 = .ok (.iload_n 2, 1) := by decide +kernel
theorem d9 : decode yB 9 = .ok (.invokestatic 115, 3) := by decide +kernel
theorem d12 : decode yB 12 = .ok (.istore 4, 2) := by decide +kernel
theorem d14 : decode yB 14 = .ok (.iload 4, 2) := by decide +kernel
theorem d16 : decode yB 16 = .ok (.iload_n 2, 1) := by decide +kernel
theorem d17 : decode yB 17 = .ok (.if_icmp (.eq) 40, 3) := by decide +kernel
theorem d57 : decode yB 57 = .ok (.aload_n 3, 1) := by decide +kernel
theorem d58 : decode yB 58 = .ok (.areturn, 1) := by decide +kernel
def site : List Cond := [.arrayClass .byte, Cmp5.tab] ++ staticW U16 115 Cmp5.yN
def tab : Cond := tabOf yN yB 6 (some (.array .byte)) site
def P (b : Addr) (A : Cell) (o len : Nat) (args : Array Value) (s : State) : Prop := args = #[.ref b, .int (Int32.ofNat o), .int (Int32.ofNat len)] ∧ Ch b A s ∧ o + len ≤ A.slots.size ∧ len ≤ 536870912 ∧ ∀ i, i < len → ¬ 255 < cv A (o + i)
def E (b : Addr) (A : Cell) (o len : Nat) (r : Option Value) (s u : State) : Prop := NewArr .byte "[B" len (fun j => .int (lo8 (cv A (o + j)))) r s u ∧ u.heap.size = s.heap.size + 1
/-- no char of the range above 255: a new byte[] of their low bytes -/
theorem law (l : Launch) (b : Addr) (A : Cell) (o len : Nat) : Law l yN 3 3 1 18 yB 6 (some (.array .byte)) site (P b A o len) (E b A o len) [] 1 len := by
  refine Law.of_walk (plainFor_of_name (by decide +kernel)) (by decide +kernel) (by decide +kernel) (by decide) (fun _ _ h => by rw [h.1]; rfl) (fun _ U U' hal hh h => ⟨h.1, h.2.1.mv hal hh, h.2.2⟩) (fun r U U' V V' h1 hal h2 h => ⟨NewArr.mv r U U' V V' h1 hal h2 h.1, by rw [h1, h2]; exact h.2⟩) ?_
  intro p e s m args below meth c s₁ X0 hexec hbytes hml hret hlk hnm hown hh0 W hP
  obtain ⟨rfl, hA, l1, l2, hp⟩ := hP
  have a31 := hA.1.2.2.2
  have c1 : Steps p.tables e below (s₁.setTop (entryFrame m #[.ref b, .int (Int32.ofNat o), .int (Int32.ofNat len)] 6)) (s₁.setTop (mkF m 0 #[.val (.ref b), .val (.int (Int32.ofNat o)), .val (.int (Int32.ofNat len)), .unset, .unset, .unset] [])) := entry rfl
  have c2 : Steps p.tables e below (s₁.setTop (entryFrame m #[.ref b, .int (Int32.ofNat o), .int (Int32.ofNat len)] 6)) (s₁.setTop (mkF m 1 #[.val (.ref b), .val (.int (Int32.ofNat o)), .val (.int (Int32.ofNat len)), .unset, .unset, .unset] [.int (Int32.ofNat len)])) := c1.trans (by
    refine XS.iloadN X0.here hexec rfl (hb hbytes d0) rfl ?_
    exact Steps.refl _)
  obtain ⟨T3, B3, X3, ba3, bs3, bv3, bh3, bf3, st3⟩ := X0.anew hexec (atype := .byte) (wk W (.arrayClass .byte)) rfl (by show len * 1 ≤ _; omega) (by omega) (g := (mkF m 1 #[.val (.ref b), .val (.int (Int32.ofNat o)), .val (.int (Int32.ofNat len)), .unset, .unset, .unset] [.int (Int32.ofNat len)])) rfl (hb hbytes d1) (rest := []) rfl (Nat.le_refl _) (by show 0 + len ≤ len; omega)
  rw [hh0] at ba3 st3
  have kp3 : XT.Kept s T3 := (XT.Kept.of_eq hh0).push bh3
  have hA3 := hA.keep X3.warmed.alike (kp3 _ _ hA.1.1)
  have hne : b ≠ s.heap.size := hA.1.ne
  have c4 : Steps p.tables e below (s₁.setTop (entryFrame m #[.ref b, .int (Int32.ofNat o), .int (Int32.ofNat len)] 6)) (T3.setTop (mkF m 3 #[.val (.ref b), .val (.int (Int32.ofNat o)), .val (.int (Int32.ofNat len)), .unset, .unset, .unset] [.ref s.heap.size])) := c2.trans (st3 _ (Steps.refl _))
  have c5 : Steps p.tables e below (s₁.setTop (entryFrame m #[.ref b, .int (Int32.ofNat o), .int (Int32.ofNat len)] 6)) (T3.setTop (mkF m 9 #[.val (.ref b), .val (.int (Int32.ofNat o)), .val (.int (Int32.ofNat len)), .val (.ref s.heap.size), .unset, .unset] [.int (Int32.ofNat len), .int 0, .ref s.heap.size, .int (Int32.ofNat o), .ref b])) := c4.trans (by
    refine XS.astoreN X3.here hexec rfl (hb hbytes d3) rfl rfl rfl ?_
    refine XS.aloadN X3.here hexec rfl (hb hbytes d4) rfl rfl ?_
    refine XS.iloadN X3.here hexec rfl (hb hbytes d5) rfl ?_
    refine XS.aloadN X3.here hexec rfl (hb hbytes d6) rfl rfl ?_
    refine iconstV X3.here hexec rfl 0 (hb hbytes d7) (by decide) ?_
    refine XS.iloadN X3.here hexec rfl (hb hbytes d8) rfl ?_
    exact Steps.refl _)
  obtain ⟨v6, T6, X6, E6, g6⟩ := X3.callS hexec (Cmp5.law l b A s.heap.size B3 o 0 len) hown (wks W (staticW U16 115 Cmp5.yN)) (wk W Cmp5.tab) (W := 0) (Nat.le_of_ble_eq_true rfl) (Nat.le_of_ble_eq_true rfl) (Nat.le_refl _) (by show 0 + len + 0 ≤ len; omega) (g := (mkF m 9 #[.val (.ref b), .val (.int (Int32.ofNat o)), .val (.int (Int32.ofNat len)), .val (.ref s.heap.size), .unset, .unset] [.int (Int32.ofNat len), .int (Int32.ofNat 0), .ref s.heap.size, .int (Int32.ofNat o), .ref b])) rfl (by rw [hml]; rfl) c5 (argsL := [.ref b, .int (Int32.ofNat o), .ref s.heap.size, .int (Int32.ofNat 0), .int (Int32.ofNat len)]) (rest := []) rfl rfl (by show 2 * 0 + 0 ≤ _; decide) (hb hbytes d9) (⟨rfl, hA3, ba3, hne, l1, by rw [bs3]; simp, hp⟩)
  obtain ⟨rfl, B6, p6, f6⟩ := E6
  have c7 : Steps p.tables e below (s₁.setTop (entryFrame m #[.ref b, .int (Int32.ofNat o), .int (Int32.ofNat len)] 6)) (T6.setTop (mkF m 12 #[.val (.ref b), .val (.int (Int32.ofNat o)), .val (.int (Int32.ofNat len)), .val (.ref s.heap.size), .unset, .unset] [.int (Int32.ofNat len)])) := g6
  have c8 : Steps p.tables e below (s₁.setTop (entryFrame m #[.ref b, .int (Int32.ofNat o), .int (Int32.ofNat len)] 6)) (T6.setTop (mkF m 58 #[.val (.ref b), .val (.int (Int32.ofNat o)), .val (.int (Int32.ofNat len)), .val (.ref s.heap.size), .val (.int (Int32.ofNat len)), .unset] [.ref s.heap.size])) := c7.trans (by
    refine XS.istore X6.here hexec rfl (hb hbytes d12) rfl rfl ?_
    refine XS.iload X6.here hexec rfl (hb hbytes d14) rfl ?_
    refine XS.iloadN X6.here hexec rfl (hb hbytes d16) rfl ?_
    refine XS.icmpYes X6.here hexec rfl (pc0 := 17) rfl (hb hbytes d17) rfl (ii_eq_t rfl) (by decide) rfl ?_
    refine XS.aloadN X6.here hexec rfl (hb hbytes d57) rfl rfl ?_
    exact Steps.refl _)
  have X8 := X6.wide (L' := []) (cells' := 1) (slots' := len) (fun x hx hlt => by
    simp only [List.nil_append, copyLocs, List.mem_map, List.mem_range] at hx
    obtain ⟨i, -, rfl⟩ := hx
    exact absurd hlt (Nat.lt_irrefl _)) (Nat.le_refl _) (by omega)
  exact ⟨T6, some (.ref s.heap.size), _, _, _, X8, rfl, rfl, rfl, (fun h => by cases h), ⟨⟨rfl, B6, ba3.like (X3.warmed.alike.symm.trans X6.warmed.alike) p6.1 f6.1 f6.2.1 f6.2.2.1, f6.2.1.trans bv3, by rw [X6.warmed.alike.findClass, f6.1]; exact bf3, by rw [f6.2.2.1, bs3]; simp, fun j hj => by rw [f6.2.2.2 j, if_pos (by omega)]; rfl, kp3.put p6 (Nat.le_refl _)⟩, by rw [p6.2.2, bh3, hh0]; simp⟩, fun fs hl => c8.trans (X8.areturnOut hexec rfl hret rfl (hb hbytes d58) hl)⟩
end Cmp3
namespace CodL
def yN : MethodName := ⟨"java/lang/StringUTF16", "coderFromArrayLen", "([BI)B"⟩
abbrev yB : ByteArray := jdk_52_method_15_code
theorem d0 : decode yB 0 = .ok (.iload_n 1, 1) := by decide +kernel
theorem d1 : decode yB 1 = .ok (.aload_n 0, 1) := by decide +kernel
theorem d2 : decode yB 2 = .ok (.arraylength, 1) := by decide +kernel
theorem d3 : decode yB 3 = .ok (.isub, 1) := by decide +kernel
theorem d4 : decode yB 4 = .ok (.bipush 31, 2) := by decide +kernel
theorem d6 : decode yB 6 = .ok (.iushr, 1) := by decide +kernel
theorem d7 : decode yB 7 = .ok (.i2b, 1) := by decide +kernel
theorem d8 : decode yB 8 = .ok (.ireturn, 1) := by decide +kernel
def site : List Cond := []
def tab : Cond := tabOf yN yB 2 (some .byte) site
def P (d : Addr) (B : Cell) (args : Array Value) (s : State) : Prop := args = #[.ref d, .int (Int32.ofNat B.slots.size)] ∧ Arr .byte d B s
def E (r : Option Value) (s u : State) : Prop := XT.PureE (some (.int 0)) r s u
/-- an array as long as the number of chars: LATIN1 -/
theorem law (l : Launch) (d : Addr) (B : Cell) : Law l yN 2 2 0 0 yB 2 (some .byte) site (P d B) E [] 0 0 := by
  refine Law.of_walk (plainFor_of_name (by decide +kernel)) (by decide +kernel) (by decide +kernel) (by decide) (fun _ _ h => by rw [h.1]; rfl) (fun _ U U' hal hh h => ⟨h.1, h.2.mv hal hh⟩) (fun r U U' V V' h1 hal h2 h => XT.PureE.mv r U U' V V' h1 hal h2 h) ?_
  intro p e s m args below meth c s₁ X0 hexec hbytes hml hret hlk hnm hown hh0 W hP
  obtain ⟨rfl, hB⟩ := hP
  have hB0 := hB.mv X0.warmed.alike hh0
  have c1 : Steps p.tables e below (s₁.setTop (entryFrame m #[.ref d, .int (Int32.ofNat B.slots.size)] 2)) (s₁.setTop (mkF m 0 #[.val (.ref d), .val (.int (Int32.ofNat B.slots.size))] [])) := entry rfl
  have c2 : Steps p.tables e below (s₁.setTop (entryFrame m #[.ref d, .int (Int32.ofNat B.slots.size)] 2)) (s₁.setTop (mkF m 2 #[.val (.ref d), .val (.int (Int32.ofNat B.slots.size))] [.ref d, .int (Int32.ofNat B.slots.size)])) := c1.trans (by
    refine XS.iloadN X0.here hexec rfl (hb hbytes d0) rfl ?_
    refine XS.aloadN X0.here hexec rfl (hb hbytes d1) rfl rfl ?_
    exact Steps.refl _)
  have c3 : Steps p.tables e below (s₁.setTop (entryFrame m #[.ref d, .int (Int32.ofNat B.slots.size)] 2)) (s₁.setTop (mkF m 8 #[.val (.ref d), .val (.int (Int32.ofNat B.slots.size))] [.int (lo8 (ushr (Int32.ofNat B.slots.size - Int32.ofNat B.slots.size) 31))])) := c2.trans (by
    refine X0.alen hexec hB0 rfl rfl (hb hbytes d2) ?_
    refine XS.isub X0.here hexec rfl (hb hbytes d3) rfl ?_
    refine bipushV X0.here hexec rfl 31 (hb hbytes d4) (by decide) ?_
    refine iushr X0.here hexec rfl (hb hbytes d6) rfl ?_
    refine i2b X0.here hexec rfl (hb hbytes d7) rfl ?_
    exact Steps.refl _)
  have e0 : lo8 (ushr (Int32.ofNat B.slots.size - Int32.ofNat B.slots.size) 31) = 0 := by rw [Int32.sub_self]; decide
  rw [e0] at c3
  exact ⟨s₁, some (.int 0), _, _, _, X0, rfl, rfl, rfl, (fun h => by cases h), ⟨rfl, hh0⟩, fun fs hl => c3.trans (X0.ireturnOut hexec hret rfl (Or.inr (Or.inr (Or.inl rfl))) (hb hbytes d8) hl)⟩
end CodL
/-- the String at a is Latin-1 over a new byte[] (the heap's one new cell): the low bytes of the len chars of A from o on; every cell but a is kept -/
def Got (a : Addr) (D : Cell) (fV fC : Field) (A : Cell) (o len : Nat) (r : Option Value) (s u : State) : Prop := r = none ∧ ∃ D' V : Cell, Blank "java/lang/String" a D' u ∧ Same D D' [fV.slot, fC.slot] ∧ D'.slots[fV.slot]? = some (.ref s.heap.size) ∧ D'.slots[fC.slot]? = some (.int 0) ∧ Arr .byte s.heap.size V u ∧ V.vm = .none ∧ u.vm.findClass "[B" = some V.cls ∧ V.slots.size = len ∧ (∀ j, j < len → V.slots[j]? = some (.int (lo8 (cv A (o + j))))) ∧ (∀ (y : Addr) (c : Cell), y ≠ a → s.heap[y]? = some c → u.heap[y]? = some c) ∧ u.heap.size = s.heap.size + 1
theorem Got.mv {a : Addr} {D A : Cell} {fV fC : Field} {o len : Nat} : ∀ r (U U' V V' : State), U'.heap = U.heap → V.vm.Alike V'.vm → V'.heap = V.heap → Got a D fV fC A o len r U V → Got a D fV fC A o len r U' V' :=
  fun r U U' V V' h1 hal h2 ⟨e0, D', X, a1, a2, a3, a4, a5, a6, a7, a8, a9, a10, a11⟩ => ⟨e0, D', X, a1.mv hal h2, a2, by rw [h1]; exact a3, a4, by rw [h1]; exact a5.mv hal h2, a6, by rw [hal.findClass]; exact a7, a8, a9, by rw [h1, h2]; exact a10, by rw [h1, h2]; exact a11⟩
namespace New4
def yN : MethodName := ⟨"java/lang/String", "<init>", "([CIILjava/lang/Void;)V"⟩
abbrev yB : ByteArray := jdk_42_method_149_code
theorem d0 : decode yB 0 = .ok (.aload_n 0, 1) := by decide +kernel
theorem d1 : decode yB 1 = .ok (.invokespecial 1, 3) := by decide +kernel
theorem d4 : decode yB 4 = .ok (.iload_n 3, 1) := by decide +kernel
theorem d5 : decode yB 5 = .ok (.ifCond (.ne) 22, 3) := by decide +kernel
theorem d27 : decode yB 27 = .ok (.getstatic 38, 3) := by decide +kernel
theorem d30 : decode yB 30 = .ok (.ifCond (.eq) 28, 3) := by decide +kernel
theorem d33 : decode yB 33 = .ok (.aload_n 1, 1) := by decide +kernel
theorem d34 : decode yB 34 = .ok (.iload_n 2, 1) := by decide +kernel
theorem d35 : decode yB 35 = .ok (.iload_n 3, 1) := by decide +kernel
theorem d36 : decode yB 36 = .ok (.invokestatic 177, 3) := by decide +kernel
theorem d39 : decode yB 39 = .ok (.astore 5, 2) := by decide +kernel
theorem d41 : decode yB 41 = .ok (.aload_n 0, 1) := by decide +kernel
theorem d42 : decode yB 42 = .ok (.aload 5, 2) := by decide +kernel
theorem d44 : decode yB 44 = .ok (.iload_n 3, 1) := by decide +kernel
theorem d45 : decode yB 45 = .ok (.invokestatic 47, 3) := by decide +kernel
theorem d48 : decode yB 48 = .ok (.putfield 15, 3) := by decide +kernel
theorem d51 : decode yB 51 = .ok (.aload_n 0, 1) := by decide +kernel
theorem d52 : decode yB 52 = .ok (.aload 5, 2) := by decide +kernel
theorem d54 : decode yB 54 = .ok (.putfield 9, 3) := by decide +kernel
theorem d57 : decode yB 57 = .ok (.return_, 1) := by decide +kernel
def site : List Cond := [.fieldLink "java/lang/String" 38 "java/lang/String" "COMPACT_STRINGS" "Z", Cmp3.tab, CodL.tab, .laysFinal "java/lang/String" "java/lang/String" "value" "[B", .fieldLink "java/lang/String" 9 "java/lang/String" "value" "[B", .laysFinal "java/lang/String" "java/lang/String" "coder" "B", .fieldLink "java/lang/String" 15 "java/lang/String" "coder" "B"] ++ objW "java/lang/String" 1 ++ staticW "java/lang/String" 177 Cmp3.yN ++ staticW "java/lang/String" 47 CodL.yN
def tab : Cond := tabOf yN yB 6 none site
def P (a : Addr) (D : Cell) (fV fC : Field) (b : Addr) (A : Cell) (z : Int32) (o len : Nat) (args : Array Value) (s : State) : Prop := args = #[.ref a, .ref b, .int (Int32.ofNat o), .int (Int32.ofNat len), .null] ∧ Blank "java/lang/String" a D s ∧ Found "java/lang/String" "value" "[B" fV s ∧ Found "java/lang/String" "coder" "B" fC s ∧ Ch b A s ∧ StaticIs s "java/lang/String" "COMPACT_STRINGS" "Z" (.int z) ∧ ¬ z = 0 ∧ 0 < len ∧ o + len ≤ A.slots.size ∧ len ≤ 536870912 ∧ ∀ i, i < len → ¬ 255 < cv A (o + i)
def E (a : Addr) (D : Cell) (fV fC : Field) (A : Cell) (o len : Nat) (r : Option Value) (s u : State) : Prop := Got a D fV fC A o len r s u
/-- len > 0, no char of the range above 255: a Latin-1 String of their low bytes -/
theorem law (l : Launch) (a : Addr) (D : Cell) (fV fC : Field) (b : Addr) (A : Cell) (z : Int32) (o len : Nat) : Law l yN 5 4 2 35 yB 6 none site (P a D fV fC b A z o len) (E a D fV fC A o len) [⟨a, fC.slot⟩, ⟨a, fV.slot⟩] 1 len := by
  refine Law.of_walk (plainFor_of_name (by decide +kernel)) (by decide +kernel) (by decide +kernel) (by decide) (fun _ _ h => by rw [h.1]; rfl) (fun _ U U' hal hh h => ⟨h.1, h.2.1.mv hal hh, h.2.2.1.al hal, h.2.2.2.1.al hal, h.2.2.2.2.1.mv hal hh, h.2.2.2.2.2.1.there hal hh, h.2.2.2.2.2.2⟩) (fun r U U' V V' h1 hal h2 h => Got.mv r U U' V V' h1 hal h2 h) ?_
  intro p e s m args below meth c s₁ X0 hexec hbytes hml hret hlk hnm hown hh0 W hP
  obtain ⟨rfl, hB, f1, f2, hA, s1, hz, l0, l1, l2, hp⟩ := hP
  have a31 := hA.1.2.2.2
  have c1 : Steps p.tables e below (s₁.setTop (entryFrame m #[.ref a, .ref b, .int (Int32.ofNat o), .int (Int32.ofNat len), .null] 6)) (s₁.setTop (mkF m 0 #[.val (.ref a), .val (.ref b), .val (.int (Int32.ofNat o)), .val (.int (Int32.ofNat len)), .val .null, .unset] [])) := entry rfl
  have c2 : Steps p.tables e below (s₁.setTop (entryFrame m #[.ref a, .ref b, .int (Int32.ofNat o), .int (Int32.ofNat len), .null] 6)) (s₁.setTop (mkF m 1 #[.val (.ref a), .val (.ref b), .val (.int (Int32.ofNat o)), .val (.int (Int32.ofNat len)), .val .null, .unset] [.ref a])) := c1.trans (by
    refine XS.aloadN X0.here hexec rfl (hb hbytes d0) rfl rfl ?_
    exact Steps.refl _)
  obtain ⟨T3, X3, q3, st3⟩ := X0.oinit hexec hown (wks W (objW "java/lang/String" 1)) (g := (mkF m 1 #[.val (.ref a), .val (.ref b), .val (.int (Int32.ofNat o)), .val (.int (Int32.ofNat len)), .val .null, .unset] [.ref a])) rfl (by rw [hml]; rfl) (rest := []) rfl (hb hbytes d1) (W := 0) (by show 2 * 0 + 0 ≤ _; decide) (Nat.le_of_ble_eq_true rfl) (Nat.le_of_ble_eq_true rfl)
  have hh3 := q3.trans hh0
  have c4 : Steps p.tables e below (s₁.setTop (entryFrame m #[.ref a, .ref b, .int (Int32.ofNat o), .int (Int32.ofNat len), .null] 6)) (T3.setTop (mkF m 27 #[.val (.ref a), .val (.ref b), .val (.int (Int32.ofNat o)), .val (.int (Int32.ofNat len)), .val .null, .unset] [])) := (c2.trans (st3 _ (Steps.refl _))).trans (by
    refine XS.iloadN X3.here hexec rfl (hb hbytes d4) rfl ?_
    refine XS.ifYes X3.here hexec rfl (pc0 := 5) rfl (hb hbytes d5) rfl (i0_ne_t (nz32 (by omega) l0)) (by decide) rfl ?_
    exact Steps.refl _)
  obtain ⟨T5, X5, q5, st5⟩ := X3.sget hexec hown (wk W (.fieldLink "java/lang/String" 38 "java/lang/String" "COMPACT_STRINGS" "Z")) s1 (fun _ _ h => by rw [hh3]; exact h) (g := (mkF m 27 #[.val (.ref a), .val (.ref b), .val (.int (Int32.ofNat o)), .val (.int (Int32.ofNat len)), .val .null, .unset] [])) rfl (hb hbytes d27)
  have hh5 := q5.trans hh3
  have c6 : Steps p.tables e below (s₁.setTop (entryFrame m #[.ref a, .ref b, .int (Int32.ofNat o), .int (Int32.ofNat len), .null] 6)) (T5.setTop (mkF m 30 #[.val (.ref a), .val (.ref b), .val (.int (Int32.ofNat o)), .val (.int (Int32.ofNat len)), .val .null, .unset] [.int z])) := c4.trans (st5 _ (Steps.refl _))
  have c7 : Steps p.tables e below (s₁.setTop (entryFrame m #[.ref a, .ref b, .int (Int32.ofNat o), .int (Int32.ofNat len), .null] 6)) (T5.setTop (mkF m 36 #[.val (.ref a), .val (.ref b), .val (.int (Int32.ofNat o)), .val (.int (Int32.ofNat len)), .val .null, .unset] [.int (Int32.ofNat len), .int (Int32.ofNat o), .ref b])) := c6.trans (by
    refine XS.ifNo X5.here hexec rfl (hb hbytes d30) rfl (i0_eq_f hz) ?_
    refine XS.aloadN X5.here hexec rfl (hb hbytes d33) rfl rfl ?_
    refine XS.iloadN X5.here hexec rfl (hb hbytes d34) rfl ?_
    refine XS.iloadN X5.here hexec rfl (hb hbytes d35) rfl ?_
    exact Steps.refl _)
  obtain ⟨v8, T8, X8, E8, g8⟩ := X5.callS hexec (Cmp3.law l b A o len) hown (wks W (staticW "java/lang/String" 177 Cmp3.yN)) (wk W Cmp3.tab) (W := 0) (Nat.le_of_ble_eq_true rfl) (Nat.le_of_ble_eq_true rfl) (Nat.le_refl _) (by show 0 + len ≤ len; omega) (g := (mkF m 36 #[.val (.ref a), .val (.ref b), .val (.int (Int32.ofNat o)), .val (.int (Int32.ofNat len)), .val .null, .unset] [.int (Int32.ofNat len), .int (Int32.ofNat o), .ref b])) rfl (by rw [hml]; rfl) c7 (argsL := [.ref b, .int (Int32.ofNat o), .int (Int32.ofNat len)]) (rest := []) rfl rfl (by show 2 * 0 + 0 ≤ _; decide) (hb hbytes d36) (⟨rfl, hA.mv X5.warmed.alike hh5, l1, l2, hp⟩)
  obtain ⟨e8, z8⟩ := E8
  obtain ⟨rfl, N, n1, n2, n3, n4, n5, n6⟩ := NewArr.mv _ T5 s _ _ hh5.symm (Vm.Alike.refl _) rfl e8
  rw [hh5] at z8
  have hB1 := hB.keep X8.warmed.alike (n6 _ _ hB.1)
  have hne : s.heap.size ≠ a := (Nat.ne_of_lt (Array.getElem?_eq_some_iff.mp hB.1).1).symm
  have c9 : Steps p.tables e below (s₁.setTop (entryFrame m #[.ref a, .ref b, .int (Int32.ofNat o), .int (Int32.ofNat len), .null] 6)) (T8.setTop (mkF m 39 #[.val (.ref a), .val (.ref b), .val (.int (Int32.ofNat o)), .val (.int (Int32.ofNat len)), .val .null, .unset] [.ref s.heap.size])) := g8
  have c10 : Steps p.tables e below (s₁.setTop (entryFrame m #[.ref a, .ref b, .int (Int32.ofNat o), .int (Int32.ofNat len), .null] 6)) (T8.setTop (mkF m 45 #[.val (.ref a), .val (.ref b), .val (.int (Int32.ofNat o)), .val (.int (Int32.ofNat len)), .val .null, .val (.ref s.heap.size)] [.int (Int32.ofNat N.slots.size), .ref s.heap.size, .ref a])) := by
    have hc : Steps p.tables e below (s₁.setTop (entryFrame m #[.ref a, .ref b, .int (Int32.ofNat o), .int (Int32.ofNat len), .null] 6)) (T8.setTop (mkF m 45 #[.val (.ref a), .val (.ref b), .val (.int (Int32.ofNat o)), .val (.int (Int32.ofNat len)), .val .null, .val (.ref s.heap.size)] [.int (Int32.ofNat len), .ref s.heap.size, .ref a])) := c9.trans (by
      refine XS.astore X8.here hexec rfl (hb hbytes d39) rfl rfl rfl ?_
      refine XS.aloadN X8.here hexec rfl (hb hbytes d41) rfl rfl ?_
      refine XS.aload X8.here hexec rfl (hb hbytes d42) rfl rfl ?_
      refine XS.iloadN X8.here hexec rfl (hb hbytes d44) rfl ?_
      exact Steps.refl _)
    rw [n4]; exact hc
  obtain ⟨v11, T11, X11, E11, g11⟩ := X8.callS hexec (CodL.law l s.heap.size N) hown (wks W (staticW "java/lang/String" 47 CodL.yN)) (wk W CodL.tab) (W := 1) (Nat.le_of_ble_eq_true rfl) (Nat.le_of_ble_eq_true rfl) (Nat.le_refl _) (by show 0 + len + 0 ≤ len; omega) (g := (mkF m 45 #[.val (.ref a), .val (.ref b), .val (.int (Int32.ofNat o)), .val (.int (Int32.ofNat len)), .val .null, .val (.ref s.heap.size)] [.int (Int32.ofNat N.slots.size), .ref s.heap.size, .ref a])) rfl (by rw [hml]; rfl) c10 (argsL := [.ref s.heap.size, .int (Int32.ofNat N.slots.size)]) (rest := [.ref a]) rfl rfl (by show 2 * 0 + (1 + 0) ≤ _; decide) (hb hbytes d45) (⟨rfl, n1⟩)
  obtain ⟨rfl, q11⟩ := E11
  have hB11 := hB1.mv (X8.warmed.alike.symm.trans X11.warmed.alike) q11
  have c12 : Steps p.tables e below (s₁.setTop (entryFrame m #[.ref a, .ref b, .int (Int32.ofNat o), .int (Int32.ofNat len), .null] 6)) (T11.setTop (mkF m 48 #[.val (.ref a), .val (.ref b), .val (.int (Int32.ofNat o)), .val (.int (Int32.ofNat len)), .val .null, .val (.ref s.heap.size)] [.int 0, .ref a])) := g11
  obtain ⟨T13, X13, p13, bl13, sl13, st13⟩ := X11.finit hexec hown (wk W (.fieldLink "java/lang/String" 15 "java/lang/String" "coder" "B")) (Or.inr ⟨_, (wk W (.laysFinal "java/lang/String" "java/lang/String" "coder" "B"))⟩) (Or.inl ⟨rfl, hnm⟩) f2 (Or.inl rfl) hB11 (t := .byte) (by decide +kernel) rfl (g := (mkF m 48 #[.val (.ref a), .val (.ref b), .val (.int (Int32.ofNat o)), .val (.int (Int32.ofNat len)), .val .null, .val (.ref s.heap.size)] [.int 0, .ref a])) rfl (rest := []) rfl (hb hbytes d48)
  have c14 : Steps p.tables e below (s₁.setTop (entryFrame m #[.ref a, .ref b, .int (Int32.ofNat o), .int (Int32.ofNat len), .null] 6)) (T13.setTop (mkF m 54 #[.val (.ref a), .val (.ref b), .val (.int (Int32.ofNat o)), .val (.int (Int32.ofNat len)), .val .null, .val (.ref s.heap.size)] [.ref s.heap.size, .ref a])) := (c12.trans (st13 _ (Steps.refl _))).trans (by
    refine XS.aloadN X13.here hexec rfl (hb hbytes d51) rfl rfl ?_
    refine XS.aload X13.here hexec rfl (hb hbytes d52) rfl rfl ?_
    exact Steps.refl _)
  obtain ⟨T15, X15, p15, bl15, sl15, st15⟩ := X13.finit hexec hown (wk W (.fieldLink "java/lang/String" 9 "java/lang/String" "value" "[B")) (Or.inr ⟨_, (wk W (.laysFinal "java/lang/String" "java/lang/String" "value" "[B"))⟩) (Or.inl ⟨rfl, hnm⟩) f1 (Or.inl rfl) bl13 (t := (.array .byte)) (by decide +kernel) rfl (g := (mkF m 54 #[.val (.ref a), .val (.ref b), .val (.int (Int32.ofNat o)), .val (.int (Int32.ofNat len)), .val .null, .val (.ref s.heap.size)] [.ref s.heap.size, .ref a])) rfl (rest := []) rfl (hb hbytes d54)
  have c16 : Steps p.tables e below (s₁.setTop (entryFrame m #[.ref a, .ref b, .int (Int32.ofNat o), .int (Int32.ofNat len), .null] 6)) (T15.setTop (mkF m 57 #[.val (.ref a), .val (.ref b), .val (.int (Int32.ofNat o)), .val (.int (Int32.ofNat len)), .val .null, .val (.ref s.heap.size)] [])) := c14.trans (st15 _ (Steps.refl _))
  have ap := apart (Or.inr ⟨_, (wk W (.laysFinal "java/lang/String" "java/lang/String" "value" "[B"))⟩) (Or.inr ⟨_, (wk W (.laysFinal "java/lang/String" "java/lang/String" "coder" "B"))⟩) f1 f2 (t₁ := .array .byte) (t₂ := .byte) (by decide +kernel) (by decide +kernel) (by decide)
  have al := X8.warmed.alike.symm.trans X15.warmed.alike
  have n7 : T11.heap[s.heap.size]? = some N := by rw [q11]; exact n1.1
  exact ⟨T15, none, _, _, _, X15, by simp, rfl, by omega, (fun _ => rfl), ⟨rfl, _, N, bl15, ((Same.refl D _).set _ (by simp)).set _ (by simp), sl15, (Cell.slots_setSlot_ne _ ap).trans sl13, n1.keep al (p15.other hne (p13.other hne n7)), n2, by rw [al.findClass]; exact n3, n4, n5, fun y c h1 h2 => p15.other h1 (p13.other h1 (by rw [q11]; exact n6 y c h2)), by rw [p15.2.2, p13.2.2, q11]; exact z8⟩, fun fs hl => c16.trans (X15.returnOut hexec hret (hb hbytes d57) hl)⟩
end New4
namespace New1
def yN : MethodName := ⟨"java/lang/String", "<init>", "([C)V"⟩
abbrev yB : ByteArray := jdk_42_method_3_code
theorem d0 : decode yB 0 = .ok (.aload_n 0, 1) := by decide +kernel
theorem d1 : decode yB 1 = .ok (.aload_n 1, 1) := by decide +kernel
theorem d2 : decode yB 2 = .ok (.iconst 0, 1) := by decide +kernel
theorem d3 : decode yB 3 = .ok (.aload_n 1, 1) := by decide +kernel
theorem d4 : decode yB 4 = .ok (.arraylength, 1) := by decide +kernel
theorem d5 : decode yB 5 = .ok (.aconst_null, 1) := by decide +kernel
theorem d6 : decode yB 6 = .ok (.invokespecial 27, 3) := by decide +kernel
theorem d9 : decode yB 9 = .ok (.return_, 1) := by decide +kernel
def site : List Cond := [New4.tab] ++ initW "java/lang/String" 27 New4.yN
def tab : Cond := tabOf yN yB 2 none site
def P (a : Addr) (D : Cell) (fV fC : Field) (b : Addr) (A : Cell) (z : Int32) (args : Array Value) (s : State) : Prop := args = #[.ref a, .ref b] ∧ Blank "java/lang/String" a D s ∧ Found "java/lang/String" "value" "[B" fV s ∧ Found "java/lang/String" "coder" "B" fC s ∧ Ch b A s ∧ StaticIs s "java/lang/String" "COMPACT_STRINGS" "Z" (.int z) ∧ ¬ z = 0 ∧ 0 < A.slots.size ∧ A.slots.size ≤ 536870912 ∧ ∀ i, i < A.slots.size → ¬ 255 < cv A i
def E (a : Addr) (D : Cell) (fV fC : Field) (A : Cell) (r : Option Value) (s u : State) : Prop := Got a D fV fC A 0 A.slots.size r s u
/-- new String(chars), not empty, no char above 255: a Latin-1 String of their low bytes -/
theorem law (l : Launch) (a : Addr) (D : Cell) (fV fC : Field) (b : Addr) (A : Cell) (z : Int32) : Law l yN 2 1 3 52 yB 2 none site (P a D fV fC b A z) (E a D fV fC A) [⟨a, fC.slot⟩, ⟨a, fV.slot⟩] 1 A.slots.size := by
  refine Law.of_walk (plainFor_of_name (by decide +kernel)) (by decide +kernel) (by decide +kernel) (by decide) (fun _ _ h => by rw [h.1]; rfl) (fun _ U U' hal hh h => ⟨h.1, h.2.1.mv hal hh, h.2.2.1.al hal, h.2.2.2.1.al hal, h.2.2.2.2.1.mv hal hh, h.2.2.2.2.2.1.there hal hh, h.2.2.2.2.2.2⟩) (fun r U U' V V' h1 hal h2 h => Got.mv r U U' V V' h1 hal h2 h) ?_
  intro p e s m args below meth c s₁ X0 hexec hbytes hml hret hlk hnm hown hh0 W hP
  obtain ⟨rfl, hB, f1, f2, hA, s1, hz, l0, l2, hp⟩ := hP
  have c1 : Steps p.tables e below (s₁.setTop (entryFrame m #[.ref a, .ref b] 2)) (s₁.setTop (mkF m 0 #[.val (.ref a), .val (.ref b)] [])) := entry rfl
  have c2 : Steps p.tables e below (s₁.setTop (entryFrame m #[.ref a, .ref b] 2)) (s₁.setTop (mkF m 6 #[.val (.ref a), .val (.ref b)] [.null, .int (Int32.ofNat A.slots.size), .int 0, .ref b, .ref a])) := c1.trans (by
    refine XS.aloadN X0.here hexec rfl (hb hbytes d0) rfl rfl ?_
    refine XS.aloadN X0.here hexec rfl (hb hbytes d1) rfl rfl ?_
    refine iconstV X0.here hexec rfl 0 (hb hbytes d2) (by decide) ?_
    refine XS.aloadN X0.here hexec rfl (hb hbytes d3) rfl rfl ?_
    refine X0.alen hexec (hA.1.mv X0.warmed.alike hh0) rfl rfl (hb hbytes d4) ?_
    refine XS.aconstNull X0.here hexec rfl (hb hbytes d5) ?_
    exact Steps.refl _)
  obtain ⟨v3, T3, X3, E3, g3⟩ := X0.callN hexec (New4.law l a D fV fC b A z 0 A.slots.size) rfl hown (wks W (initW "java/lang/String" 27 New4.yN)) (W New4.tab (by simp only [site, List.mem_cons, List.mem_append, true_or, or_true])) (W := 0) (Nat.le_of_ble_eq_true rfl) (Nat.le_of_ble_eq_true rfl) (Nat.le_refl _) (by show 0 + A.slots.size ≤ A.slots.size; omega) (g := (mkF m 6 #[.val (.ref a), .val (.ref b)] [.null, .int (Int32.ofNat A.slots.size), .int (Int32.ofNat 0), .ref b, .ref a])) rfl (by rw [hml]; rfl) c2 (argsL := [.ref b, .int (Int32.ofNat 0), .int (Int32.ofNat A.slots.size), .null]) (rest := []) rfl rfl (by show 2 * 0 + 0 ≤ _; decide) (hb hbytes d6) (⟨rfl, hB.mv X0.warmed.alike hh0, f1.al X0.warmed.alike, f2.al X0.warmed.alike, hA.mv X0.warmed.alike hh0, s1.there X0.warmed.alike hh0, hz, l0, by omega, l2, fun i hi => by rw [Nat.zero_add]; exact hp i hi⟩)
  have e0 := Got.mv _ s₁ s _ _ hh0.symm (Vm.Alike.refl _) rfl E3
  obtain rfl := e0.1
  have c4 : Steps p.tables e below (s₁.setTop (entryFrame m #[.ref a, .ref b] 2)) (T3.setTop (mkF m 9 #[.val (.ref a), .val (.ref b)] [])) := g3
  exact ⟨T3, none, _, _, _, X3, by simp, rfl, by omega, (fun _ => rfl), e0, fun fs hl => c4.trans (X3.returnOut hexec hret (hb hbytes d9) hl)⟩
theorem pays {l : Launch} {R : Room} {p : Program} {e : Env} {below : List Frame} {s : State} {sargs : Array Value} {len W : Nat} (a : Addr) (D : Cell) (fV fC : Field) (b : Addr) (A : Cell) (z : Int32) (htab : tab.before sargs s = true) (hfr : 4 ≤ R.frames) (hlo : W + 65 ≤ R.locals) :
    Back l R p e below s sargs yN len W (fun A₁ a₁ => A₁.cells + 1 ≤ R.cells ∧ A₁.slots + A.slots.size ≤ R.slots ∧ P a D fV fC b A z a₁ A₁.U) (fun A₁ _ v₁ B₁ => E a D fV fC A v₁ A₁.U B₁.U ∧ B₁.locs = A₁.locs ++ [⟨a, fC.slot⟩, ⟨a, fV.slot⟩] ∧ B₁.cells = A₁.cells + 1 ∧ B₁.slots = A₁.slots + A.slots.size) :=
  (law l a D fV fC b A z).pays htab hfr (by omega)
end New1
end StrChars
namespace StrChars.Road
open Jvm Sem ClassFile Op Lib Jvm.Stand Jvm.Free Jvm.Free.XT
open Jvm.Lib.Cold (StaticIs)
abbrev ST : String := "java/lang/String"
/-- every table word that New1's law asks, flat -/
abbrev words : List Jvm.Cond := [.code New1.yN New1.yB 2 none, .initialized ST, .methodLink ST 27 New4.yN, .instanceMethod New4.yN,
  .code New4.yN New4.yB 6 none, .fieldLink ST 38 ST "COMPACT_STRINGS" "Z", .laysFinal ST ST "value" "[B", .fieldLink ST 9 ST "value" "[B", .laysFinal ST ST "coder" "B", .fieldLink ST 15 ST "coder" "B",
  .methodLink ST 1 Lib.objectInit, .instanceMethod Lib.objectInit, .code Lib.objectInit ⟨#[0xb1]⟩ 1 none, .methodLink ST 177 Cmp3.yN, .static Cmp3.yN, .methodLink ST 47 CodL.yN, .static CodL.yN,
  .code Cmp3.yN Cmp3.yB 6 (some (.array .byte)), .initialized U16, .arrayClass .byte, .methodLink U16 115 Cmp5.yN, .static Cmp5.yN, .code Cmp5.yN Cmp5.yB 7 (some .int), .code CodL.yN CodL.yB 2 (some .byte)]
theorem tab_of {a : Array Value} {s : State} (h : ∀ w ∈ words, w.before a s = true) : New1.tab.before a s = true := by
  have h5 : Cmp5.tab.before a s = true := unparts (wk h (.code Cmp5.yN Cmp5.yB 7 (some .int))) (wks h (.initialized Cmp5.yN.cls :: Cmp5.site))
  have hc : CodL.tab.before a s = true := unparts (wk h (.code CodL.yN CodL.yB 2 (some .byte))) (wks h (.initialized CodL.yN.cls :: CodL.site))
  have q5 : ∀ w ∈ Cmp5.tab :: words, w.before a s = true := fun w hw => (List.mem_cons.mp hw).elim (fun e => e ▸ h5) (h w)
  have h3 : Cmp3.tab.before a s = true := unparts (wk q5 (.code Cmp3.yN Cmp3.yB 6 (some (.array .byte)))) (wks q5 (.initialized Cmp3.yN.cls :: Cmp3.site))
  have q3 : ∀ w ∈ Cmp3.tab :: CodL.tab :: words, w.before a s = true := fun w hw => (List.mem_cons.mp hw).elim (fun e => e ▸ h3) fun hw => (List.mem_cons.mp hw).elim (fun e => e ▸ hc) (h w)
  have h4 : New4.tab.before a s = true := unparts (wk q3 (.code New4.yN New4.yB 6 none)) (wks q3 (.initialized New4.yN.cls :: New4.site))
  have q4 : ∀ w ∈ New4.tab :: words, w.before a s = true := fun w hw => (List.mem_cons.mp hw).elim (fun e => e ▸ h4) (h w)
  exact unparts (wk q4 (.code New1.yN New1.yB 2 none)) (wks q4 (.initialized New1.yN.cls :: New1.site))
/-- the words ride from the start Z to the walk's own state -/
theorem moved {Z s : State} {a0 args : Array Value} (hZ : Z.Warmed39 s.vm) (hw : ∀ d ∈ words, d.before a0 Z = true) : ∀ d ∈ words, d.before args s = true := fun d hd => by
  have q := hw d hd
  have t : ∀ d ∈ words, d = .arrayClass .byte ∨ (d.onTables && d.keepsFace) = true := by decide +kernel
  rcases t d hd with rfl | t
  · exact RoadKit.mvA hZ q
  · exact RoadKit.mv hZ q t
/-- WHAT COMES BACK, over the tables of the start Z: h the heap at the call, h' behind it -/
def Q (Z : State) (x : Addr) (A : Cell) (h : Heap) (v : Option Value) (h' : Heap) (L : List Loc) : Prop := v = none ∧ (∀ y ∈ L, y.base = x) ∧ RoadKit.Keep h h' [x] ∧ h'.size = h.size + 1 ∧ RoadKit.Exa Z h' x ST ∧ RoadKit.Fld Z h' x ST "value" "[B" (.ref h.size) ∧ RoadKit.Fld Z h' x ST "coder" "B" (.int 0) ∧
  (∃ V : Cell, RoadKit.Arr Z h' h.size V .byte ∧ V.vm = .none ∧ Z.vm.findClass "[B" = some V.cls ∧ V.slots.size = A.slots.size ∧ ∀ j, j < A.slots.size → V.slots[j]? = some (.int (lo8 (cv A j)))) ∧
  ∀ (O n d : String) (w : Value), RoadKit.Fld Z h x O n d w → RoadKit.slotOf Z O n d ≠ RoadKit.slotOf Z ST "value" "[B" → RoadKit.slotOf Z O n d ≠ RoadKit.slotOf Z ST "coder" "B" → RoadKit.Fld Z h' x O n d w
/-- **new String(chars) AT A CALL, IN THE ROAD'S FORM**: for specialBack behind newO: x the fresh String, b the char[] with the cell A -/
theorem back {p : Program} {l : Launch} {e : Env} {R : Room} {s : State} {args : Array Value} {below : List Frame} {len W : Nat} {Z : State} {a0 : Array Value} {h : Heap} (hZ : Z.Warmed39 s.vm) (hw : ∀ d ∈ words, d.before a0 Z = true) {kI : Nat} (wi : (Jvm.Cond.instantiable ST kI).before a0 Z = true)
    {x b : Addr} {A : Cell} {z : Int32} {v0 c0 : Value} (E : RoadKit.Exa Z h x ST) (V : RoadKit.Fld Z h x ST "value" "[B" v0) (C : RoadKit.Fld Z h x ST "coder" "B" c0) (K : RoadKit.Arr Z h b A .char) (hty : Typed .char A) (S : RoadKit.Sta Z h ST "COMPACT_STRINGS" "Z" (.int z)) (hz : ¬ z = 0)
    (l0 : 0 < A.slots.size) (l2 : A.slots.size ≤ 536870912) (hp : ∀ i, i < A.slots.size → ¬ 255 < cv A i) (hfr : 4 ≤ R.frames) (hlo : W + 65 ≤ R.locals) :
    Back l R p e below s args New1.yN len W (fun P a => a = #[.ref x, .ref b] ∧ P.U.heap = h ∧ P.cells + 1 ≤ R.cells ∧ P.slots + A.slots.size ≤ R.slots)
      (fun P _ v B => ∃ L, Q Z x A h v B.U.heap L ∧ B.locs = P.locs ++ L ∧ B.cells = P.cells + 1 ∧ B.slots = P.slots + A.slots.size) := by
  intro m meth c P g ig mk a X hg hsize hdg hW hn hp'
  obtain ⟨rfl, rfl, r1, r2⟩ := hp'
  have al : Z.vm.Alike P.U.vm := hZ.alike.trans X.warmed.alike
  obtain ⟨D, cfV, kV, iV, fV, hD, gV, stV, knV, obV, asV, slV⟩ := id V
  obtain ⟨D', cfC, kC, iC, fC, hD', gC, stC, -, -, asC, slC⟩ := id C
  cases hD.symm.trans hD'
  obtain ⟨D2, kD, e1, e2, e3, e4, e5⟩ := id E
  cases hD.symm.trans e1
  obtain ⟨c2, k2, i1, i2, i3, -⟩ := Cond.instantiable_spec wi
  cases e2.symm.trans i1
  cases e3.symm.trans i2
  obtain ⟨kU, u1, u2⟩ := al.2.2 _ _ e3
  have hB : Blank ST x D P.U := ⟨hD, ⟨knV, fun q hq => by rw [hq] at obV; cases obV⟩, by rw [al.findClass]; exact e2, kU, u1, by rw [u2]; exact i3, by rw [u2]; exact e5 i3⟩
  have F1 : Found ST "value" "[B" fV P.U := ⟨SBG.found_only al ⟨cfV, kV, iV, gV⟩, stV⟩
  have F2 : Found ST "coder" "B" fC P.U := ⟨SBG.found_only al ⟨cfC, kC, iC, gC⟩, stC⟩
  have hA : Ch b A P.U := ⟨⟨K.1, State.isArrayOf_alike al K.2.1, K.2.2, by omega⟩, hty⟩
  have hS : StaticIs P.U ST "COMPACT_STRINGS" "Z" (.int z) := by
    obtain ⟨cfS, iS, kS, fS, st, cS, t1, t2, t3, t4, t5, t6, t7⟩ := S
    exact StaticIs.there (s := { Z with heap := P.U.heap }) ⟨cfS, iS, kS, fS, st, cS, t1, t2, t3, t4, t5, (fun q => by rw [q] at t6; cases t6), t7⟩ al rfl
  obtain ⟨v, B, X', ⟨⟨hv, E', V', q1, q2, q3, q4, q5, q6, q7, q8, q9, q10, q11⟩, hl, hc, hs⟩, st⟩ := New1.pays x D fV fC b A z (tab_of (moved hZ hw)) hfr hlo m meth c P g ig mk _ X hg hsize hdg hW hn ⟨r1, r2, rfl, hB, F1, F2, hA, hS, hz, l0, l2, hp⟩
  have al' : Z.vm.Alike B.U.vm := hZ.alike.trans X'.warmed.alike
  have hsz : E'.slots.size = D.slots.size := by
    obtain ⟨-, -, -, kB, w1, w2, w3⟩ := q1
    obtain ⟨kB', y1, y2⟩ := al'.2.2 _ _ e3
    rw [q2.2.1] at w1
    cases w1.symm.trans y1
    rw [w3, e5 i3, y2]
  refine ⟨v, B, X', ⟨_, ⟨hv, ?_, ⟨by omega, fun y cy hy hn' => q10 y cy (by simpa using hn') hy, fun y cy hy => ?_⟩, q11, ⟨E', _, q1.1, by rw [q2.2.1]; exact e2, by rw [q2.2.1]; exact e3, by rw [q2.1]; exact obV, fun _ => by rw [hsz]; exact e5 i3⟩,
    ⟨E', cfV, kV, iV, fV, q1.1, gV, stV, by rw [q2.1]; exact knV, by rw [q2.1]; exact obV, by rw [q2.2.1]; exact asV, q3⟩, ⟨E', cfC, kC, iC, fC, q1.1, gC, stC, by rw [q2.1]; exact knV, by rw [q2.1]; exact obV, by rw [q2.2.1]; exact asC, q4⟩,
    ⟨V', ⟨q5.1, State.isArrayOf_alike al'.symm q5.2.1, q5.2.2.1⟩, q6, by rw [← al'.findClass]; exact q7, q8, fun j hj => by have := q9 j hj; rwa [Nat.zero_add] at this⟩, fun O n d w F n1 n2 => ?_⟩, hl, hc, hs⟩, st⟩
  · intro y hy
    simp only [List.mem_cons, List.not_mem_nil, or_false] at hy
    rcases hy with rfl | rfl <;> rfl
  · by_cases q : y = x
    · subst q
      cases hD.symm.trans hy
      exact ⟨E', q1.1, q2.2.1, q2.1, hsz⟩
    · exact ⟨cy, q10 y cy q hy, rfl, rfl, rfl⟩
  · obtain ⟨D3, cf, k, i, f, g1, g2, g3, g4, g5, g6, g7⟩ := F
    cases hD.symm.trans g1
    simp only [RoadKit.slotOf, g2, gV, gC, Option.map_some, Option.getD_some] at n1 n2
    exact ⟨E', cf, k, i, f, q1.1, g2, g3, by rw [q2.1]; exact g4, by rw [q2.1]; exact g5, by rw [q2.2.1]; exact g6, by rw [q2.2.2 f.slot (by simp [n1, n2])]; exact g7⟩
end StrChars.Road
namespace StrChars.Road
open Jvm Sem ClassFile Op Lib Jvm.Stand Jvm.Free Jvm.Free.XT
/-- WHAT COMES BACK, the byte[] as a list of values -/
def QA (Z : State) (x : Addr) (zn : Int32) (cs : List Int32) (h : Heap) (v : Option Value) (h' : Heap) (L : List Loc) : Prop := v = none ∧ (∀ y ∈ L, y.base = x) ∧ RoadKit.Keep h h' [x] ∧ h'.size = h.size + 1 ∧ RoadKit.Exa Z h' x ST ∧ RoadKit.Fld Z h' x ST "value" "[B" (.ref h.size) ∧ RoadKit.Fld Z h' x ST "coder" "B" (.int 0) ∧
  (∃ kb, Z.vm.findClass "[B" = some kb ∧ RoadKit.Arv Z h' h.size kb .byte zn (cs.map fun c => .int (lo8 c)) (.int 0)) ∧
  ∀ (O n d : String) (w : Value), RoadKit.Fld Z h x O n d w → RoadKit.slotOf Z O n d ≠ RoadKit.slotOf Z ST "value" "[B" → RoadKit.slotOf Z O n d ≠ RoadKit.slotOf Z ST "coder" "B" → RoadKit.Fld Z h' x O n d w
/-- **new String(chars) AT A CALL, THE ARRAYS AS LISTS**: the char[] at b holds cs, not empty, no char above 255 -/
theorem backArv {p : Program} {l : Launch} {e : Env} {R : Room} {s : State} {args : Array Value} {below : List Frame} {len W : Nat} {Z : State} {a0 : Array Value} {h : Heap} (hZ : Z.Warmed39 s.vm) (hw : ∀ d ∈ words, d.before a0 Z = true) {kI : Nat} (wi : (Jvm.Cond.instantiable ST kI).before a0 Z = true)
    {x b : Addr} {k : ClassId} {zn z : Int32} {cs : List Int32} {dv v0 c0 : Value} (E : RoadKit.Exa Z h x ST) (V : RoadKit.Fld Z h x ST "value" "[B" v0) (C : RoadKit.Fld Z h x ST "coder" "B" c0) (K : RoadKit.Arv Z h b k .char zn (cs.map Value.int) dv) (S : RoadKit.Sta Z h ST "COMPACT_STRINGS" "Z" (.int z)) (hz : ¬ z = 0)
    (hlen : zn.toNatClampNeg = cs.length) (h0 : 0 < cs.length) (hbig : cs.length ≤ 536870912) (hall : ∀ c ∈ cs, ¬ 255 < c) (hfr : 4 ≤ R.frames) (hlo : W + 65 ≤ R.locals) :
    Back l R p e below s args New1.yN len W (fun P a => a = #[.ref x, .ref b] ∧ P.U.heap = h ∧ P.cells + 1 ≤ R.cells ∧ P.slots + cs.length ≤ R.slots)
      (fun P _ v B => ∃ L, QA Z x zn cs h v B.U.heap L ∧ B.locs = P.locs ++ L ∧ B.cells = P.cells + 1 ∧ B.slots = P.slots + cs.length) := by
  obtain ⟨A, K1, K2, K3, K4, K5, K6⟩ := K
  have e : A.slots.size = cs.length := K3.trans hlen
  have hat : ∀ (i : Nat) (hi : i < cs.length), A.slots[i]? = some (.int cs[i]) := fun i hi => by rw [K5 i (by omega)]; simp [List.getD_eq_getElem?_getD, hi]
  have hcv : ∀ (i : Nat) (hi : i < cs.length), cv A i = cs[i] := fun i hi => by unfold cv; rw [hat i hi]
  have hty : Typed .char A := fun i v hv => by
    have hi : i < A.slots.size := (Array.getElem?_eq_some_iff.mp hv).1
    have q := K5 i hi
    rw [hv] at q
    rw [Option.some.inj q]
    exact K6 i hi
  refine Back.mono (back hZ hw wi E V C K1 hty S hz (by omega) (by omega) (fun i hi => by rw [hcv i (by omega)]; exact hall _ (List.getElem_mem _)) hfr hlo) (fun P a hp => ⟨hp.1, hp.2.1, hp.2.2.1, by rw [e]; exact hp.2.2.2⟩) (fun P a v B hp hq => ?_)
  obtain ⟨L, ⟨q1, q2, q3, q4, q5, q6, q7, ⟨V', v1, v2, v3, v4, v5⟩, q9⟩, hl, hc, hs⟩ := hq
  refine ⟨L, ⟨q1, q2, q3, q4, q5, q6, q7, ⟨V'.cls, v3, V', v1, rfl, by rw [v4, e, hlen], K4, fun i hi => ?_, fun i hi => ?_⟩, q9⟩, hl, hc, by rw [hs, e]⟩
  · have hi' : i < cs.length := by omega
    rw [v5 i (by omega), hcv i hi']; simp [List.getD_eq_getElem?_getD, hi']
  · have hi' : i < cs.length := by omega
    simp only [List.getD_eq_getElem?_getD, List.getElem?_map, List.getElem?_eq_getElem hi', Option.map_some, Option.getD_some]
    exact fits_lo8 _
end StrChars.Road
namespace StrChars.Road
open Jvm Sem ClassFile Op Lib Jvm.Stand Jvm.Free Jvm.Free.XT
/-- WHAT COMES BACK, in the writer's own shape -/
def QV (Z : State) (x : Addr) (N : Int32) (bs : List Int32) (h : Heap) (n0 : Nat) (v : Option Value) (h' : Heap) (L : List Loc) : Prop := v = none ∧ RoadKit.Fr n0 L ∧ RoadKit.Keep h h' [x] ∧ RoadKit.Exa Z h' x ST ∧ RoadKit.Fld Z h' x ST "coder" "B" (.int 0) ∧
  ∃ (t : Addr) (kb : ClassId), n0 ≤ t ∧ h.size ≤ t ∧ ¬ t = x ∧ RoadKit.Fld Z h' x ST "value" "[B" (.ref t) ∧ RoadKit.Arv Z h' t kb .byte N (bs.map Value.int) (.int 0)
/-- **new String(chars) AT A CALL, FOR THE WRITER**: a char[] of n known ints, each 0 to 255 -/
theorem backV {p : Program} {l : Launch} {e : Env} {R : Room} {s : State} {args : Array Value} {below : List Frame} {len W : Nat} {Z : State} {a0 : Array Value} {h : Heap} (hZ : Z.Warmed39 s.vm) (hw : ∀ d ∈ words, d.before a0 Z = true) {kI : Nat} (wi : (Jvm.Cond.instantiable ST kI).before a0 Z = true)
    {x b : Addr} {kC : ClassId} {cs bs : List Int32} {d v0 c0 : Value} {z N : Int32} {n n0 : Nat} (hx0 : n0 ≤ x) (hh0 : n0 ≤ h.size) (E : RoadKit.Exa Z h x ST) (V : RoadKit.Fld Z h x ST "value" "[B" v0) (C : RoadKit.Fld Z h x ST "coder" "B" c0) (K : RoadKit.Arv Z h b kC .char N (cs.map Value.int) d) (S : RoadKit.Sta Z h ST "COMPACT_STRINGS" "Z" (.int z)) (hz : ¬ z = 0)
    (hn : cs.length = n) (hN : N = Int32.ofNat n) (l0 : 0 < n) (l2 : n ≤ 4000) (hp : ∀ c ∈ cs, ¬ c < 0 ∧ ¬ (255 : Int32) < c) (hb : bs = cs.map (fun c => c.toInt8.toInt32)) (hfr : 4 ≤ R.frames) (hlo : W + 65 ≤ R.locals) :
    Back l R p e below s args (⟨"java/lang/String", "<init>", "([C)V"⟩ : MethodName) len W (fun P a => a = #[.ref x, .ref b] ∧ P.U.heap = h ∧ P.cells + 1 ≤ R.cells ∧ P.slots + n ≤ R.slots)
      (fun P _ v B => ∃ L, QV Z x N bs h n0 v B.U.heap L ∧ B.locs = P.locs ++ L ∧ B.cells = P.cells + 1 ∧ B.slots = P.slots + n) := by
  subst hn hN hb
  refine Back.mono (backArv hZ hw wi E V C K S hz (n32 (by omega)) l0 (by omega) (fun c hc => (hp c hc).2) hfr hlo) (fun P a hp => hp) (fun P a v B hp hq => ?_)
  obtain ⟨L, ⟨q1, q2, q3, q4, q5, q6, q7, ⟨kb, v1, v2⟩, q9⟩, hl, hc, hs⟩ := hq
  exact ⟨L, ⟨q1, fun y hy => by rw [q2 y hy]; exact hx0, q3, q5, q7, h.size, kb, hh0, Nat.le_refl _, Nat.ne_of_gt E.lt, q6, by rw [List.map_map]; exact v2⟩, hl, hc, hs⟩
end StrChars.Road
end Jvm.Pilot.@@N@@
namespace Jvm.Pilot.@@N@@
open Jvm Jvm.ClassFile Sem Op Lib Jvm.Free Jvm.Stand Jvm.LawKit Jvm.RoadKit Bundle Jvm.Pilot.@@N@@.Jvm.D

theorem own_eqI {args : Array Value} {first s : State} {o : Option Outcome} {idx : List Nat} {a : Term} {k : Int32} (h : (Jvm.Cond.eq a (.int k)).value args first o s idx = some true) : a.eval args first o idx s = some (.int k) := by
  simp only [Cond.value, Term.eval] at h
  cases ha : a.eval args first o idx s with
  | none => simp [ha] at h
  | some x => cases x <;> simp [ha] at h ⊢; exact h

theorem own_len {args : Array Value} {first s : State} {o : Option Outcome} {idx : List Nat} {t : Term} {a : Addr} {cl : Cell} {k : Int32} (h : (Term.length t).eval args first o idx s = some (.int k)) (ht : t.eval args first o idx s = some (.ref a)) (A : s.arrayAt? a = some cl) : cl.slots.size < 2 ^ 31 ∧ cl.slots.size.toInt32 = k := by
  simp [Term.eval, ht, A] at h
  exact h

theorem own_sub {Z : State} {args : Array Value} {t : Term} {idx : List Nat} {j : Int32} (h : t.eval args Z none idx Z = some (.int j)) : (Term.sub t (.int (128 : Int32))).eval args Z none idx Z = some (.int (j - (128 : Int32))) := by simp [Term.eval, h]

theorem own_up (cs : List Int32) (h : ∀ c ∈ cs, ¬ c < 0 ∧ ¬ (255 : Int32) < c) : ∀ c ∈ cs, ¬ c < 0 ∧ ¬ (65535 : Int32) < c := fun c hc => ⟨(h c hc).1, fun q => (h c hc).2 (by rw [Int32.lt_iff_toInt_lt] at q ⊢; have e1 : (65535 : Int32).toInt = 65535 := rfl; have e2 : (255 : Int32).toInt = 255 := rfl; omega)⟩
theorem own_chr (y : Int32) (h0 : 0 ≤ y.toInt) (h1 : y.toInt < 65536) : y.toUInt32.toUInt16.toUInt32.toInt32 = y := Int32.toInt_inj.mp (by have := c_i2c y; omega)
theorem own_nn (x : Int32) : nar .char (x.toUInt32.toUInt16.toUInt32.toInt32) = x.toUInt32.toUInt16.toUInt32.toInt32 := own_chr _ (c_i2c x).2.1 (c_i2c x).2.2
theorem own_b255 (x : Int32) (h0 : 0 ≤ x.toInt) (h1 : x.toInt < 256) : ¬ nar .char (x.toUInt32.toUInt16.toUInt32.toInt32) < 0 ∧ ¬ (255 : Int32) < nar .char (x.toUInt32.toUInt16.toUInt32.toInt32) := by
  rw [own_nn, own_chr x h0 (by omega)]
  simp only [Int32.lt_iff_toInt_lt, Int32.reduceToInt]
  omega

def own_EL : List (String × Nat) := [("com/example/keelson/keelson/core/Envelope", 21)]
theorem own_EW {Z : State} {a0 : Array Value} (hw : ∀ d ∈ tables_1, d.before a0 Z = true) : EW Z a0 own_EL := EW.cons (hw _ (List.mem_of_getElem? (i := 6) rfl)) (by decide) EW.nil
theorem own_u255 (x : Int32) : 0 ≤ (x &&& (255 : Int32)).toInt ∧ (x &&& (255 : Int32)).toInt < 256 := by
  have a := c_mask x 255 8 (by decide) (by decide)
  omega
theorem own_idx (x : Int32) (h1 : ¬ x < (-128 : Int32)) (h2 : ¬ (127 : Int32) < x) : ¬ (x + (128 : Int32)) < 0 ∧ (x + (128 : Int32)) < (256 : Int32) := by
  simp only [Int32.lt_iff_toInt_lt, Int32.toInt_add, Int32.reduceToInt] at *
  have e1 := Int.bmod_eq_of_le (n := x.toInt + 128) (m := 2 ^ 32) (by omega) (by omega)
  omega
theorem d3_0 : decode jdk_30_method_1_code 0 = .ok (.aload_n 0, 1) := by decide +kernel
theorem d3_1 : decode jdk_30_method_1_code 1 = .ok (.invokespecial 1, 3) := by decide +kernel
theorem d3_4 : decode jdk_30_method_1_code 4 = .ok (.return_, 1) := by decide +kernel
theorem pn_3 : plainName "java/lang/Record" = true := by first | (simp [plainName, overriddenIn]; done) | decide +kernel
theorem ef_3 (m : MethodId) (x0 : Addr) : entryFrame m #[(.ref x0)] 1 = mkF m 0 #[.val (.ref x0)] [] := by first | (simp [entryFrame, mkF, argsToLocals, Value.category]; done) | rfl
def Q_3 (Z : State) (a1 : Addr) (h0 : Heap) (n0 : Nat) (v : Option Value) (h : Heap) (L : List Loc) : Prop := v = none ∧ Fr n0 L ∧ h = h0
set_option maxRecDepth 65536 in
set_option maxHeartbeats 40000000 in
theorem rm_3 (l : Launch) (Z : State) (a0 : Array Value) (hw : ∀ d ∈ tables_1, d.before a0 Z = true) (ws : List Jvm.Cond) (a1 : Addr) (h0 : Heap) (n0 : Nat) (Z0 : n0 ≤ h0.size) :
    MetFree l (⟨"java/lang/Record", "<init>", "()V"⟩ : MethodName) (head1 (Jvm.Cond.code (⟨"java/lang/Record", "<init>", "()V"⟩ : MethodName) jdk_30_method_1_code 1 none :: ws) ({ frames := 1, cells := 0, slots := 0, locals := 12 } : Room)) (fun a U => a = #[(.ref a1)] ∧ Z.Warmed39 U.vm ∧ U.heap = h0) (fun _ _ _ _ _ => True) (fun _ U o U' => ∃ v L, o = .returned v ∧ Q_3 Z a1 h0 n0 v U'.heap L ∧ FrameEnd U o U' L ({ frames := 1, cells := 0, slots := 0, locals := 12 } : Room).cells ({ frames := 1, cells := 0, slots := 0, locals := 12 } : Room).slots) := by
  refine MetFree.of_bodySF (plainFor_of_name pn_3) hisR ?_
  intro p e s m args below meth cod_ s₁ Bd hml0 hP hK
  obtain ⟨rfl, hZ, hh⟩ := hP
  have hx := Bd.exec
  have hby := Bd.bytes
  have hml : cod_.maxLocals = 1 := hml0
  have hown : s.vm.findClass "java/lang/Record" = some m.cls := findClass_of_methodNamed Bd.named
  have hnm := (name_of_methodNamed Bd.named Bd.method).1
  have X0 : Stand p l e ({ frames := 1, cells := 0, slots := 0, locals := 12 } : Room) s m #[(.ref a1)] below meth cod_ s₁ [] 0 0 := Stand.of_body Bd
  have e0 : s₁.heap = h0 := by rw [← hh, Bd.state]; rfl
  have N0 := Fr.nil n0
  have pre0 : ∀ t, Steps p.tables e below (s₁.setTop (mkF m 0 #[.val (.ref a1)] [])) t → Steps p.tables e below (s₁.setTop (entryFrame m #[(.ref a1)] 1)) t := fun t k => castTop (ef_3 m a1) k
  obtain ⟨T1, X1, e1, st1⟩ := initO X0 hx hZ hown (hw _ (List.mem_of_getElem? (i := 22) rfl)) (hw _ (List.mem_of_getElem? (i := 23) rfl)) (hw _ (List.mem_of_getElem? (i := 24) rfl)) e0 (g := (mkF m 1 #[.val (.ref a1)] [(.ref a1)])) rfl (by rw [hml]; rfl) rfl (hb hby d3_1) (by decide) (W := 0) (by show 2 * 0 + _ ≤ _; exact Nat.le_of_eq rfl) (by decide)
  obtain ⟨fs, hr, hrun, hended, hW, hsame⟩ := X1.leave (v := none) (fun _ => rfl)
  refine ⟨_, _, pre0 _ ?_, hrun, hended, _, _, rfl, ?_, ⟨_, rfl⟩, hW, hsame.mono (by decide) (by decide)⟩
  · show Steps p.tables e below (s₁.setTop (mkF m 0 #[.val (.ref a1)] [])) _
    refine XS.aloadN X0.here hx rfl (hb hby d3_0) rfl rfl ?_
    show Steps p.tables e below (s₁.setTop (mkF m 1 #[.val (.ref a1)] [(.ref a1)])) _
    refine st1 _ ?_
    show Steps p.tables e below (T1.setTop (mkF m 4 #[.val (.ref a1)] [])) _
    exact X1.returnOut hx Bd.returns (hb hby d3_4) hr
  · show Q_3 Z a1 h0 n0 _ T1.heap _
    rw [e1]
    exact ⟨rfl, N0, rfl⟩
theorem d2_0 : decode prog_6_method_1_code 0 = .ok (.aload_n 0, 1) := by decide +kernel
theorem d2_1 : decode prog_6_method_1_code 1 = .ok (.invokespecial 1, 3) := by decide +kernel
theorem d2_4 : decode prog_6_method_1_code 4 = .ok (.aload_n 0, 1) := by decide +kernel
theorem d2_5 : decode prog_6_method_1_code 5 = .ok (.iload_n 1, 1) := by decide +kernel
theorem d2_6 : decode prog_6_method_1_code 6 = .ok (.putfield 7, 3) := by decide +kernel
theorem d2_9 : decode prog_6_method_1_code 9 = .ok (.aload_n 0, 1) := by decide +kernel
theorem d2_10 : decode prog_6_method_1_code 10 = .ok (.aload_n 2, 1) := by decide +kernel
theorem d2_11 : decode prog_6_method_1_code 11 = .ok (.putfield 13, 3) := by decide +kernel
theorem d2_14 : decode prog_6_method_1_code 14 = .ok (.aload_n 0, 1) := by decide +kernel
theorem d2_15 : decode prog_6_method_1_code 15 = .ok (.aload_n 3, 1) := by decide +kernel
theorem d2_16 : decode prog_6_method_1_code 16 = .ok (.putfield 17, 3) := by decide +kernel
theorem d2_19 : decode prog_6_method_1_code 19 = .ok (.return_, 1) := by decide +kernel
theorem pd__28_29V : parseMethodDescriptor "()V" = some ⟨[], none⟩ := by decide +kernel
theorem pn_2 : plainName "com/example/keelson/keelson/core/Envelope" = true := by first | (simp [plainName, overriddenIn]; done) | decide +kernel
theorem ef_2 (m : MethodId) (x0 : Addr) (x1 : Int32) (x2 : Addr) (x3 : Addr) : entryFrame m #[(.ref x0), (.int x1), (.ref x2), (.ref x3)] 4 = mkF m 0 #[.val (.ref x0), .val (.int x1), .val (.ref x2), .val (.ref x3)] [] := by first | (simp [entryFrame, mkF, argsToLocals, Value.category]; done) | rfl
def Q_2 (Z : State) (a1 : Addr) (p2 : Int32) (a3 : Addr) (a4 : Addr) (h0 : Heap) (n0 : Nat) (v : Option Value) (h : Heap) (L : List Loc) : Prop := v = none ∧ Fr n0 L ∧ Keep h0 h [a1] ∧ Exa Z h a1 "com/example/keelson/keelson/core/Envelope" ∧ Fld Z h a1 "com/example/keelson/keelson/core/Envelope" "code" "I" (.int p2) ∧ Fld Z h a1 "com/example/keelson/keelson/core/Envelope" "message" "Ljava/lang/String;" (.ref a3) ∧ Fld Z h a1 "com/example/keelson/keelson/core/Envelope" "data" "Ljava/lang/Object;" (.ref a4)
set_option maxRecDepth 65536 in
set_option maxHeartbeats 40000000 in
theorem rm_2 (l : Launch) (Z : State) (a0 : Array Value) (hw : ∀ d ∈ tables_1, d.before a0 Z = true) (ws : List Jvm.Cond) (a1 : Addr) (p2 : Int32) (a3 : Addr) (a4 : Addr) (h0 : Heap) (n0 : Nat) (Z0 : n0 ≤ h0.size) (E_a1 : Exa Z h0 a1 "com/example/keelson/keelson/core/Envelope") (g_a1 : n0 ≤ a1) (F_code : Fld Z h0 a1 "com/example/keelson/keelson/core/Envelope" "code" "I" (.int (0 : Int32))) (F_message : Fld Z h0 a1 "com/example/keelson/keelson/core/Envelope" "message" "Ljava/lang/String;" .null) (F_data : Fld Z h0 a1 "com/example/keelson/keelson/core/Envelope" "data" "Ljava/lang/Object;" .null) :
    MetFree l (⟨"com/example/keelson/keelson/core/Envelope", "<init>", "(ILjava/lang/String;Ljava/lang/Object;)V"⟩ : MethodName) (head1 (Jvm.Cond.code (⟨"com/example/keelson/keelson/core/Envelope", "<init>", "(ILjava/lang/String;Ljava/lang/Object;)V"⟩ : MethodName) prog_6_method_1_code 4 none :: ws) ({ frames := 2, cells := 0, slots := 0, locals := 24 } : Room)) (fun a U => a = #[(.ref a1), (.int p2), (.ref a3), (.ref a4)] ∧ Z.Warmed39 U.vm ∧ U.heap = h0) (fun _ _ _ _ _ => True) (fun _ U o U' => ∃ v L, o = .returned v ∧ Q_2 Z a1 p2 a3 a4 h0 n0 v U'.heap L ∧ FrameEnd U o U' L ({ frames := 2, cells := 0, slots := 0, locals := 24 } : Room).cells ({ frames := 2, cells := 0, slots := 0, locals := 24 } : Room).slots) := by
  refine MetFree.of_bodySF (plainFor_of_name pn_2) hisR ?_
  intro p e s m args below meth cod_ s₁ Bd hml0 hP hK
  obtain ⟨rfl, hZ, hh⟩ := hP
  have hx := Bd.exec
  have hby := Bd.bytes
  have hml : cod_.maxLocals = 4 := hml0
  have hown : s.vm.findClass "com/example/keelson/keelson/core/Envelope" = some m.cls := findClass_of_methodNamed Bd.named
  have hnm := (name_of_methodNamed Bd.named Bd.method).1
  have X0 : Stand p l e ({ frames := 2, cells := 0, slots := 0, locals := 24 } : Room) s m #[(.ref a1), (.int p2), (.ref a3), (.ref a4)] below meth cod_ s₁ [] 0 0 := Stand.of_body Bd
  have e0 : s₁.heap = h0 := by rw [← hh, Bd.state]; rfl
  have N0 := Fr.nil n0
  have pre0 : ∀ t, Steps p.tables e below (s₁.setTop (mkF m 0 #[.val (.ref a1), .val (.int p2), .val (.ref a3), .val (.ref a4)] [])) t → Steps p.tables e below (s₁.setTop (entryFrame m #[(.ref a1), (.int p2), (.ref a3), (.ref a4)] 4)) t := fun t k => castTop (ef_2 m a1 p2 a3 a4) k
  obtain ⟨_, _, ⟨T2, L2, c2_, n2_⟩, -, X2, ⟨Lc2, hQ2, l2, y2, z2⟩, st2⟩ := X0.specialBack hx (y := (⟨"java/lang/Record", "<init>", "()V"⟩ : MethodName)) rfl hown (mvT hZ (hw _ (List.mem_of_getElem? (i := 17) rfl))) (mvT hZ (hw _ (List.mem_of_getElem? (i := 18) rfl))) (mvT hZ (hw _ (List.mem_of_getElem? (i := 21) rfl))) (by decide) (backOf (W := 0) (rm_3 l Z a0 hw [] a1 h0 n0 (Nat.le_trans Z0 (Keep.refl h0 [a1]).1) ) hZ (hw _ (List.mem_of_getElem? (i := 21) rfl)) (hw _ (List.mem_of_getElem? (i := 20) rfl)) (by decide) (by decide)) (g := (mkF m 1 #[.val (.ref a1), .val (.int p2), .val (.ref a3), .val (.ref a4)] [(.ref a1)])) rfl (by rw [hml]; rfl) (Steps.refl _) (a := a1) (argsL := []) (rest := []) (lenOf pd__28_29V rfl) rfl (by show 2 * 0 + _ ≤ _; exact Nat.le_of_eq rfl) (hb hby d2_1) (fun _ _ => ⟨rfl, e0, (by decide : 0 + 0 ≤ _), (by decide : 0 + 0 ≤ _)⟩)
  dsimp only [Pt.U, Pt.locs, Pt.cells, Pt.slots] at X2 l2 y2 z2 st2 hQ2
  subst l2 y2 z2
  obtain ⟨rfl, Nq2, e2⟩ := hQ2
  have N2 := Fr.app N0 Nq2
  obtain ⟨T3, h3, X3, e3, W3, st3⟩ := putF X2 hx hZ hown (host := "") (Or.inl (hw _ (List.mem_of_getElem? (i := 25) rfl))) Via.refl e2 F_code E_a1 (Or.inr ⟨(hw _ (List.mem_of_getElem? (i := 26) rfl)), rfl, hnm⟩) (hw _ (List.mem_of_getElem? (i := 5) rfl)) (ty := .int) (by decide) rfl rfl (g := (mkF m 6 #[.val (.ref a1), .val (.int p2), .val (.ref a3), .val (.ref a4)] [(.int p2), (.ref a1)])) rfl rfl (hb hby d2_6)
  have Fw3 : Fld Z h3 a1 "com/example/keelson/keelson/core/Envelope" "code" "I" (.int p2) := F_code.same W3
  have N3 := Fr.snoc X3 N2 g_a1
  have Kh3 : Keep h0 h3 [a1] := (Keep.refl h0 [a1]).wr W3 (Or.inl (List.mem_of_getElem? (i := 0) rfl))
  obtain ⟨T4, h4, X4, e4, W4, st4⟩ := putF X3 hx hZ hown (host := "") (Or.inl (hw _ (List.mem_of_getElem? (i := 27) rfl))) Via.refl e3 (F_message.other W3 (Or.inr (slot_ne (Or.inr (hw _ (List.mem_of_getElem? (i := 28) rfl))) (Or.inr (hw _ (List.mem_of_getElem? (i := 26) rfl))) (by decide) (t := (.object "java/lang/String")) (t' := .int) (by decide) (by decide)))) (E_a1.wr W3) (Or.inr ⟨(hw _ (List.mem_of_getElem? (i := 28) rfl)), rfl, hnm⟩) (hw _ (List.mem_of_getElem? (i := 5) rfl)) (ty := (.object "java/lang/String")) (by decide) rfl rfl (g := (mkF m 11 #[.val (.ref a1), .val (.int p2), .val (.ref a3), .val (.ref a4)] [(.ref a3), (.ref a1)])) rfl rfl (hb hby d2_11)
  have Fw4 : Fld Z h4 a1 "com/example/keelson/keelson/core/Envelope" "message" "Ljava/lang/String;" (.ref a3) := (F_message.other W3 (Or.inr (slot_ne (Or.inr (hw _ (List.mem_of_getElem? (i := 28) rfl))) (Or.inr (hw _ (List.mem_of_getElem? (i := 26) rfl))) (by decide) (t := (.object "java/lang/String")) (t' := .int) (by decide) (by decide)))).same W4
  have N4 := Fr.snoc X4 N3 g_a1
  have Kh4 : Keep h0 h4 [a1] := Kh3.wr W4 (Or.inl (List.mem_of_getElem? (i := 0) rfl))
  have f5 := ((F_data.other W3 (Or.inr (slot_ne (Or.inr (hw _ (List.mem_of_getElem? (i := 30) rfl))) (Or.inr (hw _ (List.mem_of_getElem? (i := 26) rfl))) (by decide) (t := (.object "java/lang/Object")) (t' := .int) (by decide) (by decide)))).other W4 (Or.inr (slot_ne (Or.inr (hw _ (List.mem_of_getElem? (i := 30) rfl))) (Or.inr (hw _ (List.mem_of_getElem? (i := 28) rfl))) (by decide) (t := (.object "java/lang/Object")) (t' := (.object "java/lang/String")) (by decide) (by decide))))
  have f6 := ((E_a1.wr W3).wr W4)
  obtain ⟨T7, h7, X7, e7, W7, st7⟩ := putF X4 hx hZ hown (host := "") (Or.inl (hw _ (List.mem_of_getElem? (i := 29) rfl))) Via.refl e4 f5 f6 (Or.inr ⟨(hw _ (List.mem_of_getElem? (i := 30) rfl)), rfl, hnm⟩) (hw _ (List.mem_of_getElem? (i := 5) rfl)) (ty := (.object "java/lang/Object")) (by decide) rfl rfl (g := (mkF m 16 #[.val (.ref a1), .val (.int p2), .val (.ref a3), .val (.ref a4)] [(.ref a4), (.ref a1)])) rfl rfl (hb hby d2_16)
  have Fw7 : Fld Z h7 a1 "com/example/keelson/keelson/core/Envelope" "data" "Ljava/lang/Object;" (.ref a4) := f5.same W7
  have N7 := Fr.snoc X7 N4 g_a1
  have Kh7 : Keep h0 h7 [a1] := Kh4.wr W7 (Or.inl (List.mem_of_getElem? (i := 0) rfl))
  have f8 := ((Fw3.other W4 (Or.inr (slot_ne (Or.inr (hw _ (List.mem_of_getElem? (i := 26) rfl))) (Or.inr (hw _ (List.mem_of_getElem? (i := 28) rfl))) (by decide) (t := .int) (t' := (.object "java/lang/String")) (by decide) (by decide)))).other W7 (Or.inr (slot_ne (Or.inr (hw _ (List.mem_of_getElem? (i := 26) rfl))) (Or.inr (hw _ (List.mem_of_getElem? (i := 30) rfl))) (by decide) (t := .int) (t' := (.object "java/lang/Object")) (by decide) (by decide))))
  obtain ⟨fs, hr, hrun, hended, hW, hsame⟩ := X7.leave (v := none) (fun _ => rfl)
  refine ⟨_, _, pre0 _ ?_, hrun, hended, _, _, rfl, ?_, ⟨_, rfl⟩, hW, hsame.mono (by decide) (by decide)⟩
  · show Steps p.tables e below (s₁.setTop (mkF m 0 #[.val (.ref a1), .val (.int p2), .val (.ref a3), .val (.ref a4)] [])) _
    refine XS.aloadN X0.here hx rfl (hb hby d2_0) rfl rfl ?_
    show Steps p.tables e below (s₁.setTop (mkF m 1 #[.val (.ref a1), .val (.int p2), .val (.ref a3), .val (.ref a4)] [(.ref a1)])) _
    refine st2.trans ?_
    show Steps p.tables e below (T2.setTop (mkF m 4 #[.val (.ref a1), .val (.int p2), .val (.ref a3), .val (.ref a4)] [])) _
    refine XS.aloadN X2.here hx rfl (hb hby d2_4) rfl rfl ?_
    show Steps p.tables e below (T2.setTop (mkF m 5 #[.val (.ref a1), .val (.int p2), .val (.ref a3), .val (.ref a4)] [(.ref a1)])) _
    refine XS.iloadN X2.here hx rfl (hb hby d2_5) rfl ?_
    show Steps p.tables e below (T2.setTop (mkF m 6 #[.val (.ref a1), .val (.int p2), .val (.ref a3), .val (.ref a4)] [(.int p2), (.ref a1)])) _
    refine st3 _ ?_
    show Steps p.tables e below (T3.setTop (mkF m 9 #[.val (.ref a1), .val (.int p2), .val (.ref a3), .val (.ref a4)] [])) _
    refine XS.aloadN X3.here hx rfl (hb hby d2_9) rfl rfl ?_
    show Steps p.tables e below (T3.setTop (mkF m 10 #[.val (.ref a1), .val (.int p2), .val (.ref a3), .val (.ref a4)] [(.ref a1)])) _
    refine XS.aloadN X3.here hx rfl (hb hby d2_10) rfl rfl ?_
    show Steps p.tables e below (T3.setTop (mkF m 11 #[.val (.ref a1), .val (.int p2), .val (.ref a3), .val (.ref a4)] [(.ref a3), (.ref a1)])) _
    refine st4 _ ?_
    show Steps p.tables e below (T4.setTop (mkF m 14 #[.val (.ref a1), .val (.int p2), .val (.ref a3), .val (.ref a4)] [])) _
    refine XS.aloadN X4.here hx rfl (hb hby d2_14) rfl rfl ?_
    show Steps p.tables e below (T4.setTop (mkF m 15 #[.val (.ref a1), .val (.int p2), .val (.ref a3), .val (.ref a4)] [(.ref a1)])) _
    refine XS.aloadN X4.here hx rfl (hb hby d2_15) rfl rfl ?_
    show Steps p.tables e below (T4.setTop (mkF m 16 #[.val (.ref a1), .val (.int p2), .val (.ref a3), .val (.ref a4)] [(.ref a4), (.ref a1)])) _
    refine st7 _ ?_
    show Steps p.tables e below (T7.setTop (mkF m 19 #[.val (.ref a1), .val (.int p2), .val (.ref a3), .val (.ref a4)] [])) _
    exact X7.returnOut hx Bd.returns (hb hby d2_19) hr
  · show Q_2 Z a1 p2 a3 a4 h0 n0 _ T7.heap _
    rw [e7]
    exact ⟨rfl, N7, Kh7, (f6.wr W7), f8, (Fw4.other W7 (Or.inr (slot_ne (Or.inr (hw _ (List.mem_of_getElem? (i := 28) rfl))) (Or.inr (hw _ (List.mem_of_getElem? (i := 30) rfl))) (by decide) (t := (.object "java/lang/String")) (t' := (.object "java/lang/Object")) (by decide) (by decide)))), Fw7⟩
theorem ef_2n3 (m : MethodId) (x0 : Addr) (x1 : Int32) (x2 : Addr) : entryFrame m #[(.ref x0), (.int x1), (.ref x2), .null] 4 = mkF m 0 #[.val (.ref x0), .val (.int x1), .val (.ref x2), .val .null] [] := by first | (simp [entryFrame, mkF, argsToLocals, Value.category]; done) | rfl
def Q_2n (Z : State) (a1 : Addr) (p2 : Int32) (a3 : Addr) (h0 : Heap) (n0 : Nat) (v : Option Value) (h : Heap) (L : List Loc) : Prop := v = none ∧ Fr n0 L ∧ Keep h0 h [a1] ∧ Exa Z h a1 "com/example/keelson/keelson/core/Envelope" ∧ Fld Z h a1 "com/example/keelson/keelson/core/Envelope" "code" "I" (.int p2) ∧ Fld Z h a1 "com/example/keelson/keelson/core/Envelope" "message" "Ljava/lang/String;" (.ref a3) ∧ Fld Z h a1 "com/example/keelson/keelson/core/Envelope" "data" "Ljava/lang/Object;" .null
set_option maxRecDepth 65536 in
set_option maxHeartbeats 40000000 in
theorem rm_2n (l : Launch) (Z : State) (a0 : Array Value) (hw : ∀ d ∈ tables_1, d.before a0 Z = true) (ws : List Jvm.Cond) (a1 : Addr) (p2 : Int32) (a3 : Addr) (h0 : Heap) (n0 : Nat) (Z0 : n0 ≤ h0.size) (E_a1 : Exa Z h0 a1 "com/example/keelson/keelson/core/Envelope") (g_a1 : n0 ≤ a1) (F_code : Fld Z h0 a1 "com/example/keelson/keelson/core/Envelope" "code" "I" (.int (0 : Int32))) (F_message : Fld Z h0 a1 "com/example/keelson/keelson/core/Envelope" "message" "Ljava/lang/String;" .null) (F_data : Fld Z h0 a1 "com/example/keelson/keelson/core/Envelope" "data" "Ljava/lang/Object;" .null) :
    MetFree l (⟨"com/example/keelson/keelson/core/Envelope", "<init>", "(ILjava/lang/String;Ljava/lang/Object;)V"⟩ : MethodName) (head1 (Jvm.Cond.code (⟨"com/example/keelson/keelson/core/Envelope", "<init>", "(ILjava/lang/String;Ljava/lang/Object;)V"⟩ : MethodName) prog_6_method_1_code 4 none :: ws) ({ frames := 2, cells := 0, slots := 0, locals := 24 } : Room)) (fun a U => a = #[(.ref a1), (.int p2), (.ref a3), .null] ∧ Z.Warmed39 U.vm ∧ U.heap = h0) (fun _ _ _ _ _ => True) (fun _ U o U' => ∃ v L, o = .returned v ∧ Q_2n Z a1 p2 a3 h0 n0 v U'.heap L ∧ FrameEnd U o U' L ({ frames := 2, cells := 0, slots := 0, locals := 24 } : Room).cells ({ frames := 2, cells := 0, slots := 0, locals := 24 } : Room).slots) := by
  refine MetFree.of_bodySF (plainFor_of_name pn_2) hisR ?_
  intro p e s m args below meth cod_ s₁ Bd hml0 hP hK
  obtain ⟨rfl, hZ, hh⟩ := hP
  have hx := Bd.exec
  have hby := Bd.bytes
  have hml : cod_.maxLocals = 4 := hml0
  have hown : s.vm.findClass "com/example/keelson/keelson/core/Envelope" = some m.cls := findClass_of_methodNamed Bd.named
  have hnm := (name_of_methodNamed Bd.named Bd.method).1
  have X0 : Stand p l e ({ frames := 2, cells := 0, slots := 0, locals := 24 } : Room) s m #[(.ref a1), (.int p2), (.ref a3), .null] below meth cod_ s₁ [] 0 0 := Stand.of_body Bd
  have e0 : s₁.heap = h0 := by rw [← hh, Bd.state]; rfl
  have N0 := Fr.nil n0
  have pre0 : ∀ t, Steps p.tables e below (s₁.setTop (mkF m 0 #[.val (.ref a1), .val (.int p2), .val (.ref a3), .val .null] [])) t → Steps p.tables e below (s₁.setTop (entryFrame m #[(.ref a1), (.int p2), (.ref a3), .null] 4)) t := fun t k => castTop (ef_2n3 m a1 p2 a3) k
  obtain ⟨_, _, ⟨T9, L9, c9_, n9_⟩, -, X9, ⟨Lc9, hQ9, l9, y9, z9⟩, st9⟩ := X0.specialBack hx (y := (⟨"java/lang/Record", "<init>", "()V"⟩ : MethodName)) rfl hown (mvT hZ (hw _ (List.mem_of_getElem? (i := 17) rfl))) (mvT hZ (hw _ (List.mem_of_getElem? (i := 18) rfl))) (mvT hZ (hw _ (List.mem_of_getElem? (i := 21) rfl))) (by decide) (backOf (W := 0) (rm_3 l Z a0 hw [] a1 h0 n0 (Nat.le_trans Z0 (Keep.refl h0 [a1]).1) ) hZ (hw _ (List.mem_of_getElem? (i := 21) rfl)) (hw _ (List.mem_of_getElem? (i := 20) rfl)) (by decide) (by decide)) (g := (mkF m 1 #[.val (.ref a1), .val (.int p2), .val (.ref a3), .val .null] [(.ref a1)])) rfl (by rw [hml]; rfl) (Steps.refl _) (a := a1) (argsL := []) (rest := []) (lenOf pd__28_29V rfl) rfl (by show 2 * 0 + _ ≤ _; exact Nat.le_of_eq rfl) (hb hby d2_1) (fun _ _ => ⟨rfl, e0, (by decide : 0 + 0 ≤ _), (by decide : 0 + 0 ≤ _)⟩)
  dsimp only [Pt.U, Pt.locs, Pt.cells, Pt.slots] at X9 l9 y9 z9 st9 hQ9
  subst l9 y9 z9
  obtain ⟨rfl, Nq9, e9⟩ := hQ9
  have N9 := Fr.app N0 Nq9
  obtain ⟨T10, h10, X10, e10, W10, st10⟩ := putF X9 hx hZ hown (host := "") (Or.inl (hw _ (List.mem_of_getElem? (i := 25) rfl))) Via.refl e9 F_code E_a1 (Or.inr ⟨(hw _ (List.mem_of_getElem? (i := 26) rfl)), rfl, hnm⟩) (hw _ (List.mem_of_getElem? (i := 5) rfl)) (ty := .int) (by decide) rfl rfl (g := (mkF m 6 #[.val (.ref a1), .val (.int p2), .val (.ref a3), .val .null] [(.int p2), (.ref a1)])) rfl rfl (hb hby d2_6)
  have Fw10 : Fld Z h10 a1 "com/example/keelson/keelson/core/Envelope" "code" "I" (.int p2) := F_code.same W10
  have N10 := Fr.snoc X10 N9 g_a1
  have Kh10 : Keep h0 h10 [a1] := (Keep.refl h0 [a1]).wr W10 (Or.inl (List.mem_of_getElem? (i := 0) rfl))
  obtain ⟨T11, h11, X11, e11, W11, st11⟩ := putF X10 hx hZ hown (host := "") (Or.inl (hw _ (List.mem_of_getElem? (i := 27) rfl))) Via.refl e10 (F_message.other W10 (Or.inr (slot_ne (Or.inr (hw _ (List.mem_of_getElem? (i := 28) rfl))) (Or.inr (hw _ (List.mem_of_getElem? (i := 26) rfl))) (by decide) (t := (.object "java/lang/String")) (t' := .int) (by decide) (by decide)))) (E_a1.wr W10) (Or.inr ⟨(hw _ (List.mem_of_getElem? (i := 28) rfl)), rfl, hnm⟩) (hw _ (List.mem_of_getElem? (i := 5) rfl)) (ty := (.object "java/lang/String")) (by decide) rfl rfl (g := (mkF m 11 #[.val (.ref a1), .val (.int p2), .val (.ref a3), .val .null] [(.ref a3), (.ref a1)])) rfl rfl (hb hby d2_11)
  have Fw11 : Fld Z h11 a1 "com/example/keelson/keelson/core/Envelope" "message" "Ljava/lang/String;" (.ref a3) := (F_message.other W10 (Or.inr (slot_ne (Or.inr (hw _ (List.mem_of_getElem? (i := 28) rfl))) (Or.inr (hw _ (List.mem_of_getElem? (i := 26) rfl))) (by decide) (t := (.object "java/lang/String")) (t' := .int) (by decide) (by decide)))).same W11
  have N11 := Fr.snoc X11 N10 g_a1
  have Kh11 : Keep h0 h11 [a1] := Kh10.wr W11 (Or.inl (List.mem_of_getElem? (i := 0) rfl))
  have f12 := ((F_data.other W10 (Or.inr (slot_ne (Or.inr (hw _ (List.mem_of_getElem? (i := 30) rfl))) (Or.inr (hw _ (List.mem_of_getElem? (i := 26) rfl))) (by decide) (t := (.object "java/lang/Object")) (t' := .int) (by decide) (by decide)))).other W11 (Or.inr (slot_ne (Or.inr (hw _ (List.mem_of_getElem? (i := 30) rfl))) (Or.inr (hw _ (List.mem_of_getElem? (i := 28) rfl))) (by decide) (t := (.object "java/lang/Object")) (t' := (.object "java/lang/String")) (by decide) (by decide))))
  have f13 := ((E_a1.wr W10).wr W11)
  obtain ⟨T14, h14, X14, e14, W14, st14⟩ := putF X11 hx hZ hown (host := "") (Or.inl (hw _ (List.mem_of_getElem? (i := 29) rfl))) Via.refl e11 f12 f13 (Or.inr ⟨(hw _ (List.mem_of_getElem? (i := 30) rfl)), rfl, hnm⟩) (hw _ (List.mem_of_getElem? (i := 5) rfl)) (ty := (.object "java/lang/Object")) (by decide) rfl rfl (g := (mkF m 16 #[.val (.ref a1), .val (.int p2), .val (.ref a3), .val .null] [.null, (.ref a1)])) rfl rfl (hb hby d2_16)
  have Fw14 : Fld Z h14 a1 "com/example/keelson/keelson/core/Envelope" "data" "Ljava/lang/Object;" .null := f12.same W14
  have N14 := Fr.snoc X14 N11 g_a1
  have Kh14 : Keep h0 h14 [a1] := Kh11.wr W14 (Or.inl (List.mem_of_getElem? (i := 0) rfl))
  have f15 := ((Fw10.other W11 (Or.inr (slot_ne (Or.inr (hw _ (List.mem_of_getElem? (i := 26) rfl))) (Or.inr (hw _ (List.mem_of_getElem? (i := 28) rfl))) (by decide) (t := .int) (t' := (.object "java/lang/String")) (by decide) (by decide)))).other W14 (Or.inr (slot_ne (Or.inr (hw _ (List.mem_of_getElem? (i := 26) rfl))) (Or.inr (hw _ (List.mem_of_getElem? (i := 30) rfl))) (by decide) (t := .int) (t' := (.object "java/lang/Object")) (by decide) (by decide))))
  obtain ⟨fs, hr, hrun, hended, hW, hsame⟩ := X14.leave (v := none) (fun _ => rfl)
  refine ⟨_, _, pre0 _ ?_, hrun, hended, _, _, rfl, ?_, ⟨_, rfl⟩, hW, hsame.mono (by decide) (by decide)⟩
  · show Steps p.tables e below (s₁.setTop (mkF m 0 #[.val (.ref a1), .val (.int p2), .val (.ref a3), .val .null] [])) _
    refine XS.aloadN X0.here hx rfl (hb hby d2_0) rfl rfl ?_
    show Steps p.tables e below (s₁.setTop (mkF m 1 #[.val (.ref a1), .val (.int p2), .val (.ref a3), .val .null] [(.ref a1)])) _
    refine st9.trans ?_
    show Steps p.tables e below (T9.setTop (mkF m 4 #[.val (.ref a1), .val (.int p2), .val (.ref a3), .val .null] [])) _
    refine XS.aloadN X9.here hx rfl (hb hby d2_4) rfl rfl ?_
    show Steps p.tables e below (T9.setTop (mkF m 5 #[.val (.ref a1), .val (.int p2), .val (.ref a3), .val .null] [(.ref a1)])) _
    refine XS.iloadN X9.here hx rfl (hb hby d2_5) rfl ?_
    show Steps p.tables e below (T9.setTop (mkF m 6 #[.val (.ref a1), .val (.int p2), .val (.ref a3), .val .null] [(.int p2), (.ref a1)])) _
    refine st10 _ ?_
    show Steps p.tables e below (T10.setTop (mkF m 9 #[.val (.ref a1), .val (.int p2), .val (.ref a3), .val .null] [])) _
    refine XS.aloadN X10.here hx rfl (hb hby d2_9) rfl rfl ?_
    show Steps p.tables e below (T10.setTop (mkF m 10 #[.val (.ref a1), .val (.int p2), .val (.ref a3), .val .null] [(.ref a1)])) _
    refine XS.aloadN X10.here hx rfl (hb hby d2_10) rfl rfl ?_
    show Steps p.tables e below (T10.setTop (mkF m 11 #[.val (.ref a1), .val (.int p2), .val (.ref a3), .val .null] [(.ref a3), (.ref a1)])) _
    refine st11 _ ?_
    show Steps p.tables e below (T11.setTop (mkF m 14 #[.val (.ref a1), .val (.int p2), .val (.ref a3), .val .null] [])) _
    refine XS.aloadN X11.here hx rfl (hb hby d2_14) rfl rfl ?_
    show Steps p.tables e below (T11.setTop (mkF m 15 #[.val (.ref a1), .val (.int p2), .val (.ref a3), .val .null] [(.ref a1)])) _
    refine XS.aloadN X11.here hx rfl (hb hby d2_15) rfl rfl ?_
    show Steps p.tables e below (T11.setTop (mkF m 16 #[.val (.ref a1), .val (.int p2), .val (.ref a3), .val .null] [.null, (.ref a1)])) _
    refine st14 _ ?_
    show Steps p.tables e below (T14.setTop (mkF m 19 #[.val (.ref a1), .val (.int p2), .val (.ref a3), .val .null] [])) _
    exact X14.returnOut hx Bd.returns (hb hby d2_19) hr
  · show Q_2n Z a1 p2 a3 h0 n0 _ T14.heap _
    rw [e14]
    exact ⟨rfl, N14, Kh14, (f13.wr W14), f15, (Fw11.other W14 (Or.inr (slot_ne (Or.inr (hw _ (List.mem_of_getElem? (i := 28) rfl))) (Or.inr (hw _ (List.mem_of_getElem? (i := 30) rfl))) (by decide) (t := (.object "java/lang/String")) (t' := (.object "java/lang/Object")) (by decide) (by decide)))), Fw14⟩
theorem d1_0 : decode prog_6_method_2_code 0 = .ok (.new 8, 3) := by decide +kernel
theorem d1_3 : decode prog_6_method_2_code 3 = .ok (.dup, 1) := by decide +kernel
theorem d1_4 : decode prog_6_method_2_code 4 = .ok (.iconst 0, 1) := by decide +kernel
theorem d1_5 : decode prog_6_method_2_code 5 = .ok (.ldc 21, 2) := by decide +kernel
theorem d1_7 : decode prog_6_method_2_code 7 = .ok (.aload_n 0, 1) := by decide +kernel
theorem d1_8 : decode prog_6_method_2_code 8 = .ok (.invokespecial 23, 3) := by decide +kernel
theorem d1_11 : decode prog_6_method_2_code 11 = .ok (.areturn, 1) := by decide +kernel
theorem pd__28ILjava_2flang_2fString_3bLjava_2flang_2fObject_3b_29V : parseMethodDescriptor "(ILjava/lang/String;Ljava/lang/Object;)V" = some ⟨[.int, (.object "java/lang/String"), (.object "java/lang/Object")], none⟩ := by decide +kernel
theorem pn_1 : plainName "com/example/keelson/keelson/core/Envelope" = true := by first | (simp [plainName, overriddenIn]; done) | decide +kernel
theorem ef_1 (m : MethodId) (x0 : Addr) : entryFrame m #[(.ref x0)] 1 = mkF m 0 #[.val (.ref x0)] [] := by first | (simp [entryFrame, mkF, argsToLocals, Value.category]; done) | rfl
def Q_1 (Z : State) (a1 : Addr) (h0 : Heap) (n0 : Nat) (v : Option Value) (h : Heap) (L : List Loc) : Prop := v = some (.ref h0.size) ∧ Fr n0 L ∧ Keep h0 h [] ∧ Exa Z h h0.size "com/example/keelson/keelson/core/Envelope" ∧ Fld Z h h0.size "com/example/keelson/keelson/core/Envelope" "code" "I" (.int (0 : Int32)) ∧ Fld Z h h0.size "com/example/keelson/keelson/core/Envelope" "data" "Ljava/lang/Object;" (.ref a1) ∧ ∃ (ma ta : Addr) (kb : ClassId), Fld Z h h0.size "com/example/keelson/keelson/core/Envelope" "message" "Ljava/lang/String;" (.ref ma) ∧ Exa Z h ma "java/lang/String" ∧ Fld Z h ma "java/lang/String" "coder" "B" (.int (0 : Int32)) ∧ Fld Z h ma "java/lang/String" "value" "[B" (.ref ta) ∧ Arv Z h ta kb .byte (2 : Int32) [(.int (111 : Int32)), (.int (107 : Int32))] (.int (0 : Int32))
set_option maxRecDepth 65536 in
set_option maxHeartbeats 40000000 in
theorem rm_1 (l : Launch) (Z : State) (a0 : Array Value) (hw : ∀ d ∈ tables_1, d.before a0 Z = true) (ws : List Jvm.Cond) (a1 : Addr) (h0 : Heap) (n0 : Nat) (Z0 : n0 ≤ h0.size) :
    MetFree l (⟨"com/example/keelson/keelson/core/Envelope", "ok", "(Ljava/lang/Object;)Lcom/example/keelson/keelson/core/Envelope;"⟩ : MethodName) (head1 (Jvm.Cond.code (⟨"com/example/keelson/keelson/core/Envelope", "ok", "(Ljava/lang/Object;)Lcom/example/keelson/keelson/core/Envelope;"⟩ : MethodName) prog_6_method_2_code 1 (some (.object "com/example/keelson/keelson/core/Envelope")) :: ws) ({ frames := 3, cells := 3, slots := 15, locals := 40 } : Room)) (fun a U => a = #[(.ref a1)] ∧ Z.Warmed39 U.vm ∧ U.heap = h0 ∧ CHv Z own_EL U.vm h0) (fun _ _ _ _ _ => True) (fun _ U o U' => ∃ v L, o = .returned v ∧ Q_1 Z a1 h0 n0 v U'.heap L ∧ CHr Z own_EL U.vm U.heap U'.vm U'.heap ∧ ReturnedEndW U o U' L ({ frames := 3, cells := 3, slots := 15, locals := 40 } : Room).cells ({ frames := 3, cells := 3, slots := 15, locals := 40 } : Room).slots) := by
  refine MetFree.of_bodySF (plainFor_of_name pn_1) hisR ?_
  intro p e s m args below meth cod_ s₁ Bd hml0 hP hK
  obtain ⟨rfl, hZ, hh, hC⟩ := hP
  have hx := Bd.exec
  have hby := Bd.bytes
  have hml : cod_.maxLocals = 1 := hml0
  have hown : s.vm.findClass "com/example/keelson/keelson/core/Envelope" = some m.cls := findClass_of_methodNamed Bd.named
  have hnm := (name_of_methodNamed Bd.named Bd.method).1
  have X0 : Stand p l e ({ frames := 3, cells := 3, slots := 15, locals := 40 } : Room) s m #[(.ref a1)] below meth cod_ s₁ [] 0 0 := Stand.of_body Bd
  have e0 : s₁.heap = h0 := by rw [← hh, Bd.state]; rfl
  have N0 := Fr.nil n0
  have pre0 : ∀ t, Steps p.tables e below (s₁.setTop (mkF m 0 #[.val (.ref a1)] [])) t → Steps p.tables e below (s₁.setTop (entryFrame m #[(.ref a1)] 1)) t := fun t k => castTop (ef_1 m a1) k
  have hEL : EW Z a0 own_EL := own_EW hw
  have hstr : ∀ d ∈ Bundle.stringAtoms, d.before a0 Z = true := fun d hd => hw d ((by decide +kernel : ∀ d ∈ Bundle.stringAtoms, d ∈ tables_1) d hd)
  obtain ⟨T16, h16, X16, e16, E16, A16, D16, -, st16⟩ := newO X0 hx hZ hown (hw _ (List.mem_of_getElem? (i := 4) rfl)) (hw _ (List.mem_of_getElem? (i := 5) rfl)) (hw _ (List.mem_of_getElem? (i := 2) rfl)) e0 (g := (mkF m 0 #[.val (.ref a1)] [])) rfl (hb hby d1_0) (by decide) (by decide)
  obtain ⟨b16, g16⟩ : ∃ z, z = h0.size := ⟨_, rfl⟩
  rw [← g16] at A16 D16 st16
  have g_b16 : n0 ≤ b16 := Nat.le_trans (Nat.le_trans Z0 (Keep.refl h0 []).1) (Nat.le_of_eq g16.symm)
  have sz_b16 : h0.size ≤ b16 := Nat.le_trans (Keep.refl h0 []).1 (Nat.le_of_eq g16.symm)
  have Kh16 : Keep h0 h16 [] := (Keep.refl h0 []).ext E16
  have F_code_b16 : Fld Z h16 b16 "com/example/keelson/keelson/core/Envelope" "code" "I" (.int (0 : Int32)) := D16 (Or.inr (hw _ (List.mem_of_getElem? (i := 26) rfl))) (ty := .int) (by decide)
  have F_message_b16 : Fld Z h16 b16 "com/example/keelson/keelson/core/Envelope" "message" "Ljava/lang/String;" .null := D16 (Or.inr (hw _ (List.mem_of_getElem? (i := 28) rfl))) (ty := (.object "java/lang/String")) (by decide)
  have F_data_b16 : Fld Z h16 b16 "com/example/keelson/keelson/core/Envelope" "data" "Ljava/lang/Object;" .null := D16 (Or.inr (hw _ (List.mem_of_getElem? (i := 30) rfl))) (ty := (.object "java/lang/Object")) (by decide)
  obtain ⟨a17, T17, h17, k17, t17, kb17, X17, e17, E17, hS17, hk17, hZ17, hown17, Es17, Fc17, Fv17, Va17, -, -, hCr17, -, -, st17⟩ := ldcCH (s := s) (vm0 := s.vm) (EL := own_EL) X16 hx hZ hown (hw _ (List.mem_of_getElem? (i := 6) rfl)) hstr e16 ((State.WarmedH.refl s).since 0) (Nat.zero_le _) hEL (List.mem_of_getElem? (i := 0) rfl) (CHv.keep Kh16 (fun _ q_ => nomatch q_) hC) (vs := [(.int (111 : Int32)), (.int (107 : Int32))]) (z := (2 : Int32)) ⟨by decide, by first | rfl | decide⟩ (by decide) (by decide) (g := (mkF m 5 #[.val (.ref a1)] [(.int (0 : Int32)), (.ref b16), (.ref b16)])) rfl (hb hby d1_5) (n := 8) (Nat.le_of_ble_eq_true rfl) (by decide) (by decide) (by decide)
  have Kh17 : Keep h0 h17 [] := Kh16.ext E17
  have ne_a17_b16 : a17 ≠ b16 := Exa.ne Es17 (A16.ext E17) (by decide)
  have ne_t17_b16 : t17 ≠ b16 := Ne.symm (Exa.neArv (A16.ext E17) Va17 (hw _ (List.mem_of_getElem? (i := 5) rfl)))
  obtain ⟨_, _, ⟨T18, L18, c18_, n18_⟩, -, X18, ⟨Lc18, hQ18, l18, y18, z18⟩, st18⟩ := X17.specialBack hx (y := (⟨"com/example/keelson/keelson/core/Envelope", "<init>", "(ILjava/lang/String;Ljava/lang/Object;)V"⟩ : MethodName)) rfl hown17 (mvT hZ17 (hw _ (List.mem_of_getElem? (i := 14) rfl))) (mvT hZ17 (hw _ (List.mem_of_getElem? (i := 15) rfl))) (mvT hZ17 (hw _ (List.mem_of_getElem? (i := 16) rfl))) (by decide) (backOf (W := 1) (rm_2 l Z a0 hw [] b16 (0 : Int32) a17 a1 h17 n0 (Nat.le_trans Z0 Kh17.1) (A16.ext E17) g_b16 (F_code_b16.ext E17) (F_message_b16.ext E17) (F_data_b16.ext E17)) hZ17 (hw _ (List.mem_of_getElem? (i := 16) rfl)) (hw _ (List.mem_of_getElem? (i := 2) rfl)) (by decide) (by decide)) (g := (mkF m 8 #[.val (.ref a1)] [(.ref a1), (.ref a17), (.int (0 : Int32)), (.ref b16), (.ref b16)])) rfl (by rw [hml]; rfl) (Steps.refl _) (a := b16) (argsL := [(.int (0 : Int32)), (.ref a17), (.ref a1)]) (rest := [(.ref b16)]) (lenOf pd__28ILjava_2flang_2fString_3bLjava_2flang_2fObject_3b_29V rfl) rfl (by show 2 * 0 + _ ≤ _; exact Nat.le_of_eq rfl) (hb hby d1_8) (fun _ _ => ⟨rfl, e17, (by decide : 3 + 0 ≤ _), (by decide : 15 + 0 ≤ _)⟩)
  dsimp only [Pt.U, Pt.locs, Pt.cells, Pt.slots] at X18 l18 y18 z18 st18 hQ18
  subst l18 y18 z18
  obtain ⟨rfl, Nq18, K18, Ee18, Fo18, Fm18, Fd18⟩ := hQ18
  have N18 := Fr.app N0 Nq18
  have Kh18 : Keep h0 T18.heap [] := Kh17.trans K18 (allS (Or.inr sz_b16) all0)
  have hAt_ := CHv.at X18 hZ17 hEL hCr17.1
  have hal_ : Z.vm.Alike T18.vm := (wtrans (s := s.setVm T17.vm) hZ17 X18.warmed).alike
  have hCr_ := ((CHr.keep Kh16 (fun _ q_ => nomatch q_) hC).trans hCr17).trans (hAt_.trans (CHr.keep K18 (allS (Safe.exa hal_ (A16.ext E17) (by decide) (by decide)) all0) hAt_.1))
  obtain ⟨fs, hr, hrun, hended, hRW⟩ := X18.leaveW (s := s) (vm₁ := T17.vm) hS17 (Nat.le_trans hk17 K18.1) (v := some (.ref b16)) (fun h => by rw [Bd.returns] at h; cases h)
  refine ⟨_, _, pre0 _ ?_, hrun, hended, _, _, rfl, ?_, (by rw [hh]; exact hCr_), hRW.1, hRW.2.1, hRW.2.2.1, hRW.2.2.2.mono (by decide) (by decide)⟩
  · show Steps p.tables e below (s₁.setTop (mkF m 0 #[.val (.ref a1)] [])) _
    refine st16 _ ?_
    show Steps p.tables e below (T16.setTop (mkF m 3 #[.val (.ref a1)] [(.ref b16)])) _
    refine XS.dup X16.here hx rfl (hb hby d1_3) rfl rfl ?_
    show Steps p.tables e below (T16.setTop (mkF m 4 #[.val (.ref a1)] [(.ref b16), (.ref b16)])) _
    refine XS.iconst X16.here hx rfl (hb hby d1_4) ?_
    show Steps p.tables e below (T16.setTop (mkF m 5 #[.val (.ref a1)] [(.int (0 : Int32)), (.ref b16), (.ref b16)])) _
    refine st17 _ ?_
    show Steps p.tables e below (T17.setTop (mkF m 7 #[.val (.ref a1)] [(.ref a17), (.int (0 : Int32)), (.ref b16), (.ref b16)])) _
    refine XS.aloadN X17.here hx rfl (hb hby d1_7) rfl rfl ?_
    show Steps p.tables e below (T17.setTop (mkF m 8 #[.val (.ref a1)] [(.ref a1), (.ref a17), (.int (0 : Int32)), (.ref b16), (.ref b16)])) _
    refine st18.trans ?_
    show Steps p.tables e below (T18.setTop (mkF m 11 #[.val (.ref a1)] [(.ref b16)])) _
    jvm_step X18.here [X18.here.top, hx, (hb hby d1_11), X18.method', Bd.returns, Value.isRef, FieldType.isReference]
    first | (intro acts; rw [hr _ acts rfl rfl rfl]) | rw [hr _ _ rfl rfl rfl]
    exact Steps.refl _
  · show Q_1 Z a1 h0 n0 _ T18.heap _
    subst g16
    exact ⟨rfl, N18, Kh18, Ee18, Fo18, Fd18, a17, t17, kb17, Fm18, (Es17.keep K18), (Fc17.keep K18 (ninS ne_a17_b16 nin0)), (Fv17.keep K18 (ninS ne_a17_b16 nin0)), (Va17.keep K18 (ninS ne_t17_b16 nin0))⟩
theorem ef_1n0 (m : MethodId)  : entryFrame m #[.null] 1 = mkF m 0 #[.val .null] [] := by first | (simp [entryFrame, mkF, argsToLocals, Value.category]; done) | rfl
def Q_1n (Z : State)  (h0 : Heap) (n0 : Nat) (v : Option Value) (h : Heap) (L : List Loc) : Prop := v = some (.ref h0.size) ∧ Fr n0 L ∧ Keep h0 h [] ∧ Exa Z h h0.size "com/example/keelson/keelson/core/Envelope" ∧ Fld Z h h0.size "com/example/keelson/keelson/core/Envelope" "code" "I" (.int (0 : Int32)) ∧ Fld Z h h0.size "com/example/keelson/keelson/core/Envelope" "data" "Ljava/lang/Object;" .null ∧ ∃ (ma ta : Addr) (kb : ClassId), Fld Z h h0.size "com/example/keelson/keelson/core/Envelope" "message" "Ljava/lang/String;" (.ref ma) ∧ Exa Z h ma "java/lang/String" ∧ Fld Z h ma "java/lang/String" "coder" "B" (.int (0 : Int32)) ∧ Fld Z h ma "java/lang/String" "value" "[B" (.ref ta) ∧ Arv Z h ta kb .byte (2 : Int32) [(.int (111 : Int32)), (.int (107 : Int32))] (.int (0 : Int32))
set_option maxRecDepth 65536 in
set_option maxHeartbeats 40000000 in
theorem rm_1n (l : Launch) (Z : State) (a0 : Array Value) (hw : ∀ d ∈ tables_1, d.before a0 Z = true) (ws : List Jvm.Cond)  (h0 : Heap) (n0 : Nat) (Z0 : n0 ≤ h0.size) :
    MetFree l (⟨"com/example/keelson/keelson/core/Envelope", "ok", "(Ljava/lang/Object;)Lcom/example/keelson/keelson/core/Envelope;"⟩ : MethodName) (head1 (Jvm.Cond.code (⟨"com/example/keelson/keelson/core/Envelope", "ok", "(Ljava/lang/Object;)Lcom/example/keelson/keelson/core/Envelope;"⟩ : MethodName) prog_6_method_2_code 1 (some (.object "com/example/keelson/keelson/core/Envelope")) :: ws) ({ frames := 3, cells := 3, slots := 15, locals := 40 } : Room)) (fun a U => a = #[.null] ∧ Z.Warmed39 U.vm ∧ U.heap = h0 ∧ CHv Z own_EL U.vm h0) (fun _ _ _ _ _ => True) (fun _ U o U' => ∃ v L, o = .returned v ∧ Q_1n Z  h0 n0 v U'.heap L ∧ CHr Z own_EL U.vm U.heap U'.vm U'.heap ∧ ReturnedEndW U o U' L ({ frames := 3, cells := 3, slots := 15, locals := 40 } : Room).cells ({ frames := 3, cells := 3, slots := 15, locals := 40 } : Room).slots) := by
  refine MetFree.of_bodySF (plainFor_of_name pn_1) hisR ?_
  intro p e s m args below meth cod_ s₁ Bd hml0 hP hK
  obtain ⟨rfl, hZ, hh, hC⟩ := hP
  have hx := Bd.exec
  have hby := Bd.bytes
  have hml : cod_.maxLocals = 1 := hml0
  have hown : s.vm.findClass "com/example/keelson/keelson/core/Envelope" = some m.cls := findClass_of_methodNamed Bd.named
  have hnm := (name_of_methodNamed Bd.named Bd.method).1
  have X0 : Stand p l e ({ frames := 3, cells := 3, slots := 15, locals := 40 } : Room) s m #[.null] below meth cod_ s₁ [] 0 0 := Stand.of_body Bd
  have e0 : s₁.heap = h0 := by rw [← hh, Bd.state]; rfl
  have N0 := Fr.nil n0
  have pre0 : ∀ t, Steps p.tables e below (s₁.setTop (mkF m 0 #[.val .null] [])) t → Steps p.tables e below (s₁.setTop (entryFrame m #[.null] 1)) t := fun t k => castTop (ef_1n0 m ) k
  have hEL : EW Z a0 own_EL := own_EW hw
  have hstr : ∀ d ∈ Bundle.stringAtoms, d.before a0 Z = true := fun d hd => hw d ((by decide +kernel : ∀ d ∈ Bundle.stringAtoms, d ∈ tables_1) d hd)
  obtain ⟨T19, h19, X19, e19, E19, A19, D19, -, st19⟩ := newO X0 hx hZ hown (hw _ (List.mem_of_getElem? (i := 4) rfl)) (hw _ (List.mem_of_getElem? (i := 5) rfl)) (hw _ (List.mem_of_getElem? (i := 2) rfl)) e0 (g := (mkF m 0 #[.val .null] [])) rfl (hb hby d1_0) (by decide) (by decide)
  obtain ⟨b19, g19⟩ : ∃ z, z = h0.size := ⟨_, rfl⟩
  rw [← g19] at A19 D19 st19
  have g_b19 : n0 ≤ b19 := Nat.le_trans (Nat.le_trans Z0 (Keep.refl h0 []).1) (Nat.le_of_eq g19.symm)
  have sz_b19 : h0.size ≤ b19 := Nat.le_trans (Keep.refl h0 []).1 (Nat.le_of_eq g19.symm)
  have Kh19 : Keep h0 h19 [] := (Keep.refl h0 []).ext E19
  have F_code_b19 : Fld Z h19 b19 "com/example/keelson/keelson/core/Envelope" "code" "I" (.int (0 : Int32)) := D19 (Or.inr (hw _ (List.mem_of_getElem? (i := 26) rfl))) (ty := .int) (by decide)
  have F_message_b19 : Fld Z h19 b19 "com/example/keelson/keelson/core/Envelope" "message" "Ljava/lang/String;" .null := D19 (Or.inr (hw _ (List.mem_of_getElem? (i := 28) rfl))) (ty := (.object "java/lang/String")) (by decide)
  have F_data_b19 : Fld Z h19 b19 "com/example/keelson/keelson/core/Envelope" "data" "Ljava/lang/Object;" .null := D19 (Or.inr (hw _ (List.mem_of_getElem? (i := 30) rfl))) (ty := (.object "java/lang/Object")) (by decide)
  obtain ⟨a20, T20, h20, k20, t20, kb20, X20, e20, E20, hS20, hk20, hZ20, hown20, Es20, Fc20, Fv20, Va20, -, -, hCr20, -, -, st20⟩ := ldcCH (s := s) (vm0 := s.vm) (EL := own_EL) X19 hx hZ hown (hw _ (List.mem_of_getElem? (i := 6) rfl)) hstr e19 ((State.WarmedH.refl s).since 0) (Nat.zero_le _) hEL (List.mem_of_getElem? (i := 0) rfl) (CHv.keep Kh19 (fun _ q_ => nomatch q_) hC) (vs := [(.int (111 : Int32)), (.int (107 : Int32))]) (z := (2 : Int32)) ⟨by decide, by first | rfl | decide⟩ (by decide) (by decide) (g := (mkF m 5 #[.val .null] [(.int (0 : Int32)), (.ref b19), (.ref b19)])) rfl (hb hby d1_5) (n := 8) (Nat.le_of_ble_eq_true rfl) (by decide) (by decide) (by decide)
  have Kh20 : Keep h0 h20 [] := Kh19.ext E20
  have ne_a20_b19 : a20 ≠ b19 := Exa.ne Es20 (A19.ext E20) (by decide)
  have ne_t20_b19 : t20 ≠ b19 := Ne.symm (Exa.neArv (A19.ext E20) Va20 (hw _ (List.mem_of_getElem? (i := 5) rfl)))
  obtain ⟨_, _, ⟨T21, L21, c21_, n21_⟩, -, X21, ⟨Lc21, hQ21, l21, y21, z21⟩, st21⟩ := X20.specialBack hx (y := (⟨"com/example/keelson/keelson/core/Envelope", "<init>", "(ILjava/lang/String;Ljava/lang/Object;)V"⟩ : MethodName)) rfl hown20 (mvT hZ20 (hw _ (List.mem_of_getElem? (i := 14) rfl))) (mvT hZ20 (hw _ (List.mem_of_getElem? (i := 15) rfl))) (mvT hZ20 (hw _ (List.mem_of_getElem? (i := 16) rfl))) (by decide) (backOf (W := 1) (rm_2n l Z a0 hw [] b19 (0 : Int32) a20 h20 n0 (Nat.le_trans Z0 Kh20.1) (A19.ext E20) g_b19 (F_code_b19.ext E20) (F_message_b19.ext E20) (F_data_b19.ext E20)) hZ20 (hw _ (List.mem_of_getElem? (i := 16) rfl)) (hw _ (List.mem_of_getElem? (i := 2) rfl)) (by decide) (by decide)) (g := (mkF m 8 #[.val .null] [.null, (.ref a20), (.int (0 : Int32)), (.ref b19), (.ref b19)])) rfl (by rw [hml]; rfl) (Steps.refl _) (a := b19) (argsL := [(.int (0 : Int32)), (.ref a20), .null]) (rest := [(.ref b19)]) (lenOf pd__28ILjava_2flang_2fString_3bLjava_2flang_2fObject_3b_29V rfl) rfl (by show 2 * 0 + _ ≤ _; exact Nat.le_of_eq rfl) (hb hby d1_8) (fun _ _ => ⟨rfl, e20, (by decide : 3 + 0 ≤ _), (by decide : 15 + 0 ≤ _)⟩)
  dsimp only [Pt.U, Pt.locs, Pt.cells, Pt.slots] at X21 l21 y21 z21 st21 hQ21
  subst l21 y21 z21
  obtain ⟨rfl, Nq21, K21, Ee21, Fo21, Fm21, Fd21⟩ := hQ21
  have N21 := Fr.app N0 Nq21
  have Kh21 : Keep h0 T21.heap [] := Kh20.trans K21 (allS (Or.inr sz_b19) all0)
  have hAt_ := CHv.at X21 hZ20 hEL hCr20.1
  have hal_ : Z.vm.Alike T21.vm := (wtrans (s := s.setVm T20.vm) hZ20 X21.warmed).alike
  have hCr_ := ((CHr.keep Kh19 (fun _ q_ => nomatch q_) hC).trans hCr20).trans (hAt_.trans (CHr.keep K21 (allS (Safe.exa hal_ (A19.ext E20) (by decide) (by decide)) all0) hAt_.1))
  obtain ⟨fs, hr, hrun, hended, hRW⟩ := X21.leaveW (s := s) (vm₁ := T20.vm) hS20 (Nat.le_trans hk20 K21.1) (v := some (.ref b19)) (fun h => by rw [Bd.returns] at h; cases h)
  refine ⟨_, _, pre0 _ ?_, hrun, hended, _, _, rfl, ?_, (by rw [hh]; exact hCr_), hRW.1, hRW.2.1, hRW.2.2.1, hRW.2.2.2.mono (by decide) (by decide)⟩
  · show Steps p.tables e below (s₁.setTop (mkF m 0 #[.val .null] [])) _
    refine st19 _ ?_
    show Steps p.tables e below (T19.setTop (mkF m 3 #[.val .null] [(.ref b19)])) _
    refine XS.dup X19.here hx rfl (hb hby d1_3) rfl rfl ?_
    show Steps p.tables e below (T19.setTop (mkF m 4 #[.val .null] [(.ref b19), (.ref b19)])) _
    refine XS.iconst X19.here hx rfl (hb hby d1_4) ?_
    show Steps p.tables e below (T19.setTop (mkF m 5 #[.val .null] [(.int (0 : Int32)), (.ref b19), (.ref b19)])) _
    refine st20 _ ?_
    show Steps p.tables e below (T20.setTop (mkF m 7 #[.val .null] [(.ref a20), (.int (0 : Int32)), (.ref b19), (.ref b19)])) _
    refine XS.aloadN X20.here hx rfl (hb hby d1_7) rfl rfl ?_
    show Steps p.tables e below (T20.setTop (mkF m 8 #[.val .null] [.null, (.ref a20), (.int (0 : Int32)), (.ref b19), (.ref b19)])) _
    refine st21.trans ?_
    show Steps p.tables e below (T21.setTop (mkF m 11 #[.val .null] [(.ref b19)])) _
    jvm_step X21.here [X21.here.top, hx, (hb hby d1_11), X21.method', Bd.returns, Value.isRef, FieldType.isReference]
    first | (intro acts; rw [hr _ acts rfl rfl rfl]) | rw [hr _ _ rfl rfl rfl]
    exact Steps.refl _
  · show Q_1n Z h0 n0 _ T21.heap _
    subst g19
    exact ⟨rfl, N21, Kh21, Ee21, Fo21, Fd21, a20, t20, kb20, Fm21, (Es20.keep K21), (Fc20.keep K21 (ninS ne_a20_b19 nin0)), (Fv20.keep K21 (ninS ne_a20_b19 nin0)), (Va20.keep K21 (ninS ne_t20_b19 nin0))⟩
theorem d5_0 : decode prog_6_method_8_code 0 = .ok (.aload_n 0, 1) := by decide +kernel
theorem d5_1 : decode prog_6_method_8_code 1 = .ok (.getfield 13, 3) := by decide +kernel
theorem d5_4 : decode prog_6_method_8_code 4 = .ok (.areturn, 1) := by decide +kernel
theorem pn_5 : plainName "com/example/keelson/keelson/core/Envelope" = true := by first | (simp [plainName, overriddenIn]; done) | decide +kernel
theorem ef_5 (m : MethodId) (x0 : Addr) : entryFrame m #[(.ref x0)] 1 = mkF m 0 #[.val (.ref x0)] [] := by first | (simp [entryFrame, mkF, argsToLocals, Value.category]; done) | rfl
def Q_5 (Z : State) (a1 : Addr) (b : Addr) (h0 : Heap) (n0 : Nat) (v : Option Value) (h : Heap) (L : List Loc) : Prop := v = some (.ref b) ∧ Fr n0 L ∧ h = h0
set_option maxRecDepth 65536 in
set_option maxHeartbeats 40000000 in
theorem rm_5 (l : Launch) (Z : State) (a0 : Array Value) (hw : ∀ d ∈ tables_1, d.before a0 Z = true) (ws : List Jvm.Cond) (a1 : Addr) (b : Addr) (h0 : Heap) (n0 : Nat) (Z0 : n0 ≤ h0.size) (F_b : Fld Z h0 a1 "com/example/keelson/keelson/core/Envelope" "message" "Ljava/lang/String;" (.ref b)) :
    MetFree l (⟨"com/example/keelson/keelson/core/Envelope", "message", "()Ljava/lang/String;"⟩ : MethodName) (head1 (Jvm.Cond.code (⟨"com/example/keelson/keelson/core/Envelope", "message", "()Ljava/lang/String;"⟩ : MethodName) prog_6_method_8_code 1 (some (.object "java/lang/String")) :: ws) ({ frames := 0, cells := 0, slots := 0, locals := 0 } : Room)) (fun a U => a = #[(.ref a1)] ∧ Z.Warmed39 U.vm ∧ U.heap = h0) (fun _ _ _ _ _ => True) (fun _ U o U' => ∃ v L, o = .returned v ∧ Q_5 Z a1 b h0 n0 v U'.heap L ∧ FrameEnd U o U' L ({ frames := 0, cells := 0, slots := 0, locals := 0 } : Room).cells ({ frames := 0, cells := 0, slots := 0, locals := 0 } : Room).slots) := by
  refine MetFree.of_bodySF (plainFor_of_name pn_5) hisR ?_
  intro p e s m args below meth cod_ s₁ Bd hml0 hP hK
  obtain ⟨rfl, hZ, hh⟩ := hP
  have hx := Bd.exec
  have hby := Bd.bytes
  have hml : cod_.maxLocals = 1 := hml0
  have hown : s.vm.findClass "com/example/keelson/keelson/core/Envelope" = some m.cls := findClass_of_methodNamed Bd.named
  have hnm := (name_of_methodNamed Bd.named Bd.method).1
  have X0 : Stand p l e ({ frames := 0, cells := 0, slots := 0, locals := 0 } : Room) s m #[(.ref a1)] below meth cod_ s₁ [] 0 0 := Stand.of_body Bd
  have e0 : s₁.heap = h0 := by rw [← hh, Bd.state]; rfl
  have N0 := Fr.nil n0
  have pre0 : ∀ t, Steps p.tables e below (s₁.setTop (mkF m 0 #[.val (.ref a1)] [])) t → Steps p.tables e below (s₁.setTop (entryFrame m #[(.ref a1)] 1)) t := fun t k => castTop (ef_5 m a1) k
  obtain ⟨T22, X22, e22, st22⟩ := getF X0 hx hZ hown (host := "") (Or.inl (hw _ (List.mem_of_getElem? (i := 27) rfl))) Via.refl e0 F_b (g := (mkF m 1 #[.val (.ref a1)] [(.ref a1)])) rfl rfl (hb hby d5_1)
  obtain ⟨fs, hr, hrun, hended, hW, hsame⟩ := X22.leave (v := some (.ref b)) (fun h => by rw [Bd.returns] at h; cases h)
  refine ⟨_, _, pre0 _ ?_, hrun, hended, _, _, rfl, ?_, ⟨_, rfl⟩, hW, hsame.mono (by decide) (by decide)⟩
  · show Steps p.tables e below (s₁.setTop (mkF m 0 #[.val (.ref a1)] [])) _
    refine XS.aloadN X0.here hx rfl (hb hby d5_0) rfl rfl ?_
    show Steps p.tables e below (s₁.setTop (mkF m 1 #[.val (.ref a1)] [(.ref a1)])) _
    refine st22 _ ?_
    show Steps p.tables e below (T22.setTop (mkF m 4 #[.val (.ref a1)] [(.ref b)])) _
    jvm_step X22.here [X22.here.top, hx, (hb hby d5_4), X22.method', Bd.returns, Value.isRef, FieldType.isReference]
    first | (intro acts; rw [hr _ acts rfl rfl rfl]) | rw [hr _ _ rfl rfl rfl]
    exact Steps.refl _
  · show Q_5 Z a1 b h0 n0 _ T22.heap _
    rw [e22]
    exact ⟨rfl, N0, rfl⟩
theorem d6_0 : decode prog_6_method_7_code 0 = .ok (.aload_n 0, 1) := by decide +kernel
theorem d6_1 : decode prog_6_method_7_code 1 = .ok (.getfield 7, 3) := by decide +kernel
theorem d6_4 : decode prog_6_method_7_code 4 = .ok (.ireturn, 1) := by decide +kernel
theorem pn_6 : plainName "com/example/keelson/keelson/core/Envelope" = true := by first | (simp [plainName, overriddenIn]; done) | decide +kernel
theorem ef_6 (m : MethodId) (x0 : Addr) : entryFrame m #[(.ref x0)] 1 = mkF m 0 #[.val (.ref x0)] [] := by first | (simp [entryFrame, mkF, argsToLocals, Value.category]; done) | rfl
def Q_6 (Z : State) (a1 : Addr) (c : Int32) (h0 : Heap) (n0 : Nat) (v : Option Value) (h : Heap) (L : List Loc) : Prop := v = some (.int c) ∧ Fr n0 L ∧ h = h0
set_option maxRecDepth 65536 in
set_option maxHeartbeats 40000000 in
theorem rm_6 (l : Launch) (Z : State) (a0 : Array Value) (hw : ∀ d ∈ tables_1, d.before a0 Z = true) (ws : List Jvm.Cond) (a1 : Addr) (c : Int32) (h0 : Heap) (n0 : Nat) (Z0 : n0 ≤ h0.size) (F_b : Fld Z h0 a1 "com/example/keelson/keelson/core/Envelope" "code" "I" (.int c)) :
    MetFree l (⟨"com/example/keelson/keelson/core/Envelope", "code", "()I"⟩ : MethodName) (head1 (Jvm.Cond.code (⟨"com/example/keelson/keelson/core/Envelope", "code", "()I"⟩ : MethodName) prog_6_method_7_code 1 (some .int) :: ws) ({ frames := 0, cells := 0, slots := 0, locals := 0 } : Room)) (fun a U => a = #[(.ref a1)] ∧ Z.Warmed39 U.vm ∧ U.heap = h0) (fun _ _ _ _ _ => True) (fun _ U o U' => ∃ v L, o = .returned v ∧ Q_6 Z a1 c h0 n0 v U'.heap L ∧ FrameEnd U o U' L ({ frames := 0, cells := 0, slots := 0, locals := 0 } : Room).cells ({ frames := 0, cells := 0, slots := 0, locals := 0 } : Room).slots) := by
  refine MetFree.of_bodySF (plainFor_of_name pn_6) hisR ?_
  intro p e s m args below meth cod_ s₁ Bd hml0 hP hK
  obtain ⟨rfl, hZ, hh⟩ := hP
  have hx := Bd.exec
  have hby := Bd.bytes
  have hml : cod_.maxLocals = 1 := hml0
  have hown : s.vm.findClass "com/example/keelson/keelson/core/Envelope" = some m.cls := findClass_of_methodNamed Bd.named
  have hnm := (name_of_methodNamed Bd.named Bd.method).1
  have X0 : Stand p l e ({ frames := 0, cells := 0, slots := 0, locals := 0 } : Room) s m #[(.ref a1)] below meth cod_ s₁ [] 0 0 := Stand.of_body Bd
  have e0 : s₁.heap = h0 := by rw [← hh, Bd.state]; rfl
  have N0 := Fr.nil n0
  have pre0 : ∀ t, Steps p.tables e below (s₁.setTop (mkF m 0 #[.val (.ref a1)] [])) t → Steps p.tables e below (s₁.setTop (entryFrame m #[(.ref a1)] 1)) t := fun t k => castTop (ef_6 m a1) k
  obtain ⟨T23, X23, e23, st23⟩ := getF X0 hx hZ hown (host := "") (Or.inl (hw _ (List.mem_of_getElem? (i := 25) rfl))) Via.refl e0 F_b (g := (mkF m 1 #[.val (.ref a1)] [(.ref a1)])) rfl rfl (hb hby d6_1)
  obtain ⟨fs, hr, hrun, hended, hW, hsame⟩ := X23.leave (v := some (.int c)) (fun h => by rw [Bd.returns] at h; cases h)
  refine ⟨_, _, pre0 _ ?_, hrun, hended, _, _, rfl, ?_, ⟨_, rfl⟩, hW, hsame.mono (by decide) (by decide)⟩
  · show Steps p.tables e below (s₁.setTop (mkF m 0 #[.val (.ref a1)] [])) _
    refine XS.aloadN X0.here hx rfl (hb hby d6_0) rfl rfl ?_
    show Steps p.tables e below (s₁.setTop (mkF m 1 #[.val (.ref a1)] [(.ref a1)])) _
    refine st23 _ ?_
    show Steps p.tables e below (T23.setTop (mkF m 4 #[.val (.ref a1)] [(.int c)])) _
    exact retI X23 hx Bd.returns (hb hby d6_4) hr
  · show Q_6 Z a1 c h0 n0 _ T23.heap _
    rw [e23]
    exact ⟨rfl, N0, rfl⟩
theorem d14_0 : decode prog_6_method_9_code 0 = .ok (.aload_n 0, 1) := by decide +kernel
theorem d14_1 : decode prog_6_method_9_code 1 = .ok (.getfield 17, 3) := by decide +kernel
theorem d14_4 : decode prog_6_method_9_code 4 = .ok (.areturn, 1) := by decide +kernel
theorem pn_14 : plainName "com/example/keelson/keelson/core/Envelope" = true := by first | (simp [plainName, overriddenIn]; done) | decide +kernel
theorem ef_14 (m : MethodId) (x0 : Addr) : entryFrame m #[(.ref x0)] 1 = mkF m 0 #[.val (.ref x0)] [] := by first | (simp [entryFrame, mkF, argsToLocals, Value.category]; done) | rfl
def Q_14 (Z : State) (a1 : Addr) (b : Addr) (h0 : Heap) (n0 : Nat) (v : Option Value) (h : Heap) (L : List Loc) : Prop := v = some (.ref b) ∧ Fr n0 L ∧ h = h0
set_option maxRecDepth 65536 in
set_option maxHeartbeats 40000000 in
theorem rm_14 (l : Launch) (Z : State) (a0 : Array Value) (hw : ∀ d ∈ tables_1, d.before a0 Z = true) (ws : List Jvm.Cond) (a1 : Addr) (b : Addr) (h0 : Heap) (n0 : Nat) (Z0 : n0 ≤ h0.size) (F_b : Fld Z h0 a1 "com/example/keelson/keelson/core/Envelope" "data" "Ljava/lang/Object;" (.ref b)) :
    MetFree l (⟨"com/example/keelson/keelson/core/Envelope", "data", "()Ljava/lang/Object;"⟩ : MethodName) (head1 (Jvm.Cond.code (⟨"com/example/keelson/keelson/core/Envelope", "data", "()Ljava/lang/Object;"⟩ : MethodName) prog_6_method_9_code 1 (some (.object "java/lang/Object")) :: ws) ({ frames := 0, cells := 0, slots := 0, locals := 0 } : Room)) (fun a U => a = #[(.ref a1)] ∧ Z.Warmed39 U.vm ∧ U.heap = h0) (fun _ _ _ _ _ => True) (fun _ U o U' => ∃ v L, o = .returned v ∧ Q_14 Z a1 b h0 n0 v U'.heap L ∧ FrameEnd U o U' L ({ frames := 0, cells := 0, slots := 0, locals := 0 } : Room).cells ({ frames := 0, cells := 0, slots := 0, locals := 0 } : Room).slots) := by
  refine MetFree.of_bodySF (plainFor_of_name pn_14) hisR ?_
  intro p e s m args below meth cod_ s₁ Bd hml0 hP hK
  obtain ⟨rfl, hZ, hh⟩ := hP
  have hx := Bd.exec
  have hby := Bd.bytes
  have hml : cod_.maxLocals = 1 := hml0
  have hown : s.vm.findClass "com/example/keelson/keelson/core/Envelope" = some m.cls := findClass_of_methodNamed Bd.named
  have hnm := (name_of_methodNamed Bd.named Bd.method).1
  have X0 : Stand p l e ({ frames := 0, cells := 0, slots := 0, locals := 0 } : Room) s m #[(.ref a1)] below meth cod_ s₁ [] 0 0 := Stand.of_body Bd
  have e0 : s₁.heap = h0 := by rw [← hh, Bd.state]; rfl
  have N0 := Fr.nil n0
  have pre0 : ∀ t, Steps p.tables e below (s₁.setTop (mkF m 0 #[.val (.ref a1)] [])) t → Steps p.tables e below (s₁.setTop (entryFrame m #[(.ref a1)] 1)) t := fun t k => castTop (ef_14 m a1) k
  obtain ⟨T24, X24, e24, st24⟩ := getF X0 hx hZ hown (host := "") (Or.inl (hw _ (List.mem_of_getElem? (i := 29) rfl))) Via.refl e0 F_b (g := (mkF m 1 #[.val (.ref a1)] [(.ref a1)])) rfl rfl (hb hby d14_1)
  obtain ⟨fs, hr, hrun, hended, hW, hsame⟩ := X24.leave (v := some (.ref b)) (fun h => by rw [Bd.returns] at h; cases h)
  refine ⟨_, _, pre0 _ ?_, hrun, hended, _, _, rfl, ?_, ⟨_, rfl⟩, hW, hsame.mono (by decide) (by decide)⟩
  · show Steps p.tables e below (s₁.setTop (mkF m 0 #[.val (.ref a1)] [])) _
    refine XS.aloadN X0.here hx rfl (hb hby d14_0) rfl rfl ?_
    show Steps p.tables e below (s₁.setTop (mkF m 1 #[.val (.ref a1)] [(.ref a1)])) _
    refine st24 _ ?_
    show Steps p.tables e below (T24.setTop (mkF m 4 #[.val (.ref a1)] [(.ref b)])) _
    jvm_step X24.here [X24.here.top, hx, (hb hby d14_4), X24.method', Bd.returns, Value.isRef, FieldType.isReference]
    first | (intro acts; rw [hr _ acts rfl rfl rfl]) | rw [hr _ _ rfl rfl rfl]
    exact Steps.refl _
  · show Q_14 Z a1 b h0 n0 _ T24.heap _
    rw [e24]
    exact ⟨rfl, N0, rfl⟩
def Q_14n (Z : State) (a1 : Addr) (h0 : Heap) (n0 : Nat) (v : Option Value) (h : Heap) (L : List Loc) : Prop := v = some .null ∧ Fr n0 L ∧ h = h0
set_option maxRecDepth 65536 in
set_option maxHeartbeats 40000000 in
theorem rm_14n (l : Launch) (Z : State) (a0 : Array Value) (hw : ∀ d ∈ tables_1, d.before a0 Z = true) (ws : List Jvm.Cond) (a1 : Addr) (h0 : Heap) (n0 : Nat) (Z0 : n0 ≤ h0.size) (F_b : Fld Z h0 a1 "com/example/keelson/keelson/core/Envelope" "data" "Ljava/lang/Object;" .null) :
    MetFree l (⟨"com/example/keelson/keelson/core/Envelope", "data", "()Ljava/lang/Object;"⟩ : MethodName) (head1 (Jvm.Cond.code (⟨"com/example/keelson/keelson/core/Envelope", "data", "()Ljava/lang/Object;"⟩ : MethodName) prog_6_method_9_code 1 (some (.object "java/lang/Object")) :: ws) ({ frames := 0, cells := 0, slots := 0, locals := 0 } : Room)) (fun a U => a = #[(.ref a1)] ∧ Z.Warmed39 U.vm ∧ U.heap = h0) (fun _ _ _ _ _ => True) (fun _ U o U' => ∃ v L, o = .returned v ∧ Q_14n Z a1 h0 n0 v U'.heap L ∧ FrameEnd U o U' L ({ frames := 0, cells := 0, slots := 0, locals := 0 } : Room).cells ({ frames := 0, cells := 0, slots := 0, locals := 0 } : Room).slots) := by
  refine MetFree.of_bodySF (plainFor_of_name pn_14) hisR ?_
  intro p e s m args below meth cod_ s₁ Bd hml0 hP hK
  obtain ⟨rfl, hZ, hh⟩ := hP
  have hx := Bd.exec
  have hby := Bd.bytes
  have hml : cod_.maxLocals = 1 := hml0
  have hown : s.vm.findClass "com/example/keelson/keelson/core/Envelope" = some m.cls := findClass_of_methodNamed Bd.named
  have hnm := (name_of_methodNamed Bd.named Bd.method).1
  have X0 : Stand p l e ({ frames := 0, cells := 0, slots := 0, locals := 0 } : Room) s m #[(.ref a1)] below meth cod_ s₁ [] 0 0 := Stand.of_body Bd
  have e0 : s₁.heap = h0 := by rw [← hh, Bd.state]; rfl
  have N0 := Fr.nil n0
  have pre0 : ∀ t, Steps p.tables e below (s₁.setTop (mkF m 0 #[.val (.ref a1)] [])) t → Steps p.tables e below (s₁.setTop (entryFrame m #[(.ref a1)] 1)) t := fun t k => castTop (ef_14 m a1) k
  obtain ⟨T25, X25, e25, st25⟩ := getF X0 hx hZ hown (host := "") (Or.inl (hw _ (List.mem_of_getElem? (i := 29) rfl))) Via.refl e0 F_b (g := (mkF m 1 #[.val (.ref a1)] [(.ref a1)])) rfl rfl (hb hby d14_1)
  obtain ⟨fs, hr, hrun, hended, hW, hsame⟩ := X25.leave (v := some .null) (fun h => by rw [Bd.returns] at h; cases h)
  refine ⟨_, _, pre0 _ ?_, hrun, hended, _, _, rfl, ?_, ⟨_, rfl⟩, hW, hsame.mono (by decide) (by decide)⟩
  · show Steps p.tables e below (s₁.setTop (mkF m 0 #[.val (.ref a1)] [])) _
    refine XS.aloadN X0.here hx rfl (hb hby d14_0) rfl rfl ?_
    show Steps p.tables e below (s₁.setTop (mkF m 1 #[.val (.ref a1)] [(.ref a1)])) _
    refine st25 _ ?_
    show Steps p.tables e below (T25.setTop (mkF m 4 #[.val (.ref a1)] [.null])) _
    jvm_step X25.here [X25.here.top, hx, (hb hby d14_4), X25.method', Bd.returns, Value.isRef, FieldType.isReference]
    first | (intro acts; rw [hr _ acts rfl rfl rfl]) | rw [hr _ _ rfl rfl rfl]
    exact Steps.refl _
  · show Q_14n Z a1 h0 n0 _ T25.heap _
    rw [e25]
    exact ⟨rfl, N0, rfl⟩
theorem d8_0 : decode jdk_42_method_152_code 0 = .ok (.getstatic 38, 3) := by decide +kernel
theorem d8_3 : decode jdk_42_method_152_code 3 = .ok (.ifCond .eq 10, 3) := by decide +kernel
theorem d8_6 : decode jdk_42_method_152_code 6 = .ok (.aload_n 0, 1) := by decide +kernel
theorem d8_7 : decode jdk_42_method_152_code 7 = .ok (.getfield 15, 3) := by decide +kernel
theorem d8_10 : decode jdk_42_method_152_code 10 = .ok (.goto 4, 3) := by decide +kernel
theorem d8_14 : decode jdk_42_method_152_code 14 = .ok (.ireturn, 1) := by decide +kernel
theorem pn_8 : plainName "java/lang/String" = true := by first | (simp [plainName, overriddenIn]; done) | decide +kernel
theorem ef_8 (m : MethodId) (x0 : Addr) : entryFrame m #[(.ref x0)] 1 = mkF m 0 #[.val (.ref x0)] [] := by first | (simp [entryFrame, mkF, argsToLocals, Value.category]; done) | rfl
def Q_8 (Z : State) (a1 : Addr) (h0 : Heap) (n0 : Nat) (v : Option Value) (h : Heap) (L : List Loc) : Prop := v = some (.int (0 : Int32)) ∧ Fr n0 L ∧ h = h0
set_option maxRecDepth 65536 in
set_option maxHeartbeats 40000000 in
theorem rm_8 (l : Launch) (Z : State) (a0 : Array Value) (hw : ∀ d ∈ tables_1, d.before a0 Z = true) (ws : List Jvm.Cond) (a1 : Addr) (zc : Int32) (h0 : Heap) (n0 : Nat) (Z0 : n0 ≤ h0.size) (S_COMPACT_STRINGS : Sta Z h0 "java/lang/String" "COMPACT_STRINGS" "Z" (.int zc)) (hz : ¬ zc = 0) (F_c : Fld Z h0 a1 "java/lang/String" "coder" "B" (.int (0 : Int32))) :
    MetFree l (⟨"java/lang/String", "coder", "()B"⟩ : MethodName) (head1 (Jvm.Cond.code (⟨"java/lang/String", "coder", "()B"⟩ : MethodName) jdk_42_method_152_code 1 (some .byte) :: ws) ({ frames := 0, cells := 0, slots := 0, locals := 0 } : Room)) (fun a U => a = #[(.ref a1)] ∧ Z.Warmed39 U.vm ∧ U.heap = h0) (fun _ _ _ _ _ => True) (fun _ U o U' => ∃ v L, o = .returned v ∧ Q_8 Z a1 h0 n0 v U'.heap L ∧ FrameEnd U o U' L ({ frames := 0, cells := 0, slots := 0, locals := 0 } : Room).cells ({ frames := 0, cells := 0, slots := 0, locals := 0 } : Room).slots) := by
  refine MetFree.of_bodySF (plainFor_of_name pn_8) hisR ?_
  intro p e s m args below meth cod_ s₁ Bd hml0 hP hK
  obtain ⟨rfl, hZ, hh⟩ := hP
  have hx := Bd.exec
  have hby := Bd.bytes
  have hml : cod_.maxLocals = 1 := hml0
  have hown : s.vm.findClass "java/lang/String" = some m.cls := findClass_of_methodNamed Bd.named
  have hnm := (name_of_methodNamed Bd.named Bd.method).1
  have X0 : Stand p l e ({ frames := 0, cells := 0, slots := 0, locals := 0 } : Room) s m #[(.ref a1)] below meth cod_ s₁ [] 0 0 := Stand.of_body Bd
  have e0 : s₁.heap = h0 := by rw [← hh, Bd.state]; rfl
  have N0 := Fr.nil n0
  have pre0 : ∀ t, Steps p.tables e below (s₁.setTop (mkF m 0 #[.val (.ref a1)] [])) t → Steps p.tables e below (s₁.setTop (entryFrame m #[(.ref a1)] 1)) t := fun t k => castTop (ef_8 m a1) k
  obtain ⟨T26, X26, e26, st26⟩ := getS2 X0 hx hZ hown (host := "") (Or.inl (hw _ (List.mem_of_getElem? (i := 52) rfl))) Via.refl e0 S_COMPACT_STRINGS (g := (mkF m 0 #[.val (.ref a1)] [])) rfl (hb hby d8_0)
  have hc3 : ¬ (zc = (0 : Int32)) := hz
  obtain ⟨T27, X27, e27, st27⟩ := getF X26 hx hZ hown (host := "") (Or.inl (hw _ (List.mem_of_getElem? (i := 53) rfl))) Via.refl e26 F_c (g := (mkF m 7 #[.val (.ref a1)] [(.ref a1)])) rfl rfl (hb hby d8_7)
  obtain ⟨fs, hr, hrun, hended, hW, hsame⟩ := X27.leave (v := some (.int (nar .byte (0 : Int32)))) (fun h => by rw [Bd.returns] at h; cases h)
  refine ⟨_, _, pre0 _ ?_, hrun, hended, _, _, rfl, ?_, ⟨_, rfl⟩, hW, hsame.mono (by decide) (by decide)⟩
  · show Steps p.tables e below (s₁.setTop (mkF m 0 #[.val (.ref a1)] [])) _
    refine st26 _ ?_
    show Steps p.tables e below (T26.setTop (mkF m 3 #[.val (.ref a1)] [(.int zc)])) _
    refine XS.ifNo X26.here hx rfl (hb hby d8_3) rfl ((if0 _ _).trans (feq hc3).1) ?_
    show Steps p.tables e below (T26.setTop (mkF m 6 #[.val (.ref a1)] [])) _
    refine XS.aloadN X26.here hx rfl (hb hby d8_6) rfl rfl ?_
    show Steps p.tables e below (T26.setTop (mkF m 7 #[.val (.ref a1)] [(.ref a1)])) _
    refine st27 _ ?_
    show Steps p.tables e below (T27.setTop (mkF m 10 #[.val (.ref a1)] [(.int (0 : Int32))])) _
    refine XS.goto X27.here hx rfl (pc0 := 10) (pc' := 14) rfl (hb hby d8_10) (by decide) (by decide) ?_
    show Steps p.tables e below (T27.setTop (mkF m 14 #[.val (.ref a1)] [(.int (0 : Int32))])) _
    exact retN X27 hx (t := .byte) Bd.returns (by simp) (hb hby d8_14) hr
  · show Q_8 Z a1 h0 n0 _ T27.heap _
    rw [e27]
    exact ⟨rfl, N0, rfl⟩
theorem d7_0 : decode jdk_42_method_54_code 0 = .ok (.aload_n 0, 1) := by decide +kernel
theorem d7_1 : decode jdk_42_method_54_code 1 = .ok (.getfield 9, 3) := by decide +kernel
theorem d7_4 : decode jdk_42_method_54_code 4 = .ok (.arraylength, 1) := by decide +kernel
theorem d7_5 : decode jdk_42_method_54_code 5 = .ok (.aload_n 0, 1) := by decide +kernel
theorem d7_6 : decode jdk_42_method_54_code 6 = .ok (.invokevirtual 335, 3) := by decide +kernel
theorem d7_9 : decode jdk_42_method_54_code 9 = .ok (.ishr, 1) := by decide +kernel
theorem d7_10 : decode jdk_42_method_54_code 10 = .ok (.ireturn, 1) := by decide +kernel
theorem pd__28_29B : parseMethodDescriptor "()B" = some ⟨[], some .byte⟩ := by decide +kernel
theorem pn_7 : plainName "java/lang/String" = true := by first | (simp [plainName, overriddenIn]; done) | decide +kernel
theorem ef_7 (m : MethodId) (x0 : Addr) : entryFrame m #[(.ref x0)] 1 = mkF m 0 #[.val (.ref x0)] [] := by first | (simp [entryFrame, mkF, argsToLocals, Value.category]; done) | rfl
def Q_7 (Z : State) (a1 : Addr) (h0 : Heap) (n0 : Nat) (v : Option Value) (h : Heap) (L : List Loc) : Prop := v = some (.int (2 : Int32)) ∧ Fr n0 L ∧ h = h0
set_option maxRecDepth 65536 in
set_option maxHeartbeats 40000000 in
theorem rm_7 (l : Launch) (Z : State) (a0 : Array Value) (hw : ∀ d ∈ tables_1, d.before a0 Z = true) (ws : List Jvm.Cond) (a1 : Addr) (ta : Addr) (kk : ClassId) (zc : Int32) (h0 : Heap) (n0 : Nat) (Z0 : n0 ≤ h0.size) (V_1 : Arv Z h0 ta kk .byte (2 : Int32) [(.int (111 : Int32)), (.int (107 : Int32))] (.int (0 : Int32))) (S_C : Sta Z h0 "java/lang/String" "COMPACT_STRINGS" "Z" (.int zc)) (hz : ¬ zc = 0) (F_c : Fld Z h0 a1 "java/lang/String" "coder" "B" (.int (0 : Int32))) (F_v : Fld Z h0 a1 "java/lang/String" "value" "[B" (.ref ta)) (E_s : Exa Z h0 a1 "java/lang/String") :
    MetFree l (⟨"java/lang/String", "length", "()I"⟩ : MethodName) (head1 (Jvm.Cond.code (⟨"java/lang/String", "length", "()I"⟩ : MethodName) jdk_42_method_54_code 1 (some .int) :: ws) ({ frames := 1, cells := 0, slots := 0, locals := 13 } : Room)) (fun a U => a = #[(.ref a1)] ∧ Z.Warmed39 U.vm ∧ U.heap = h0) (fun _ _ _ _ _ => True) (fun _ U o U' => ∃ v L, o = .returned v ∧ Q_7 Z a1 h0 n0 v U'.heap L ∧ FrameEnd U o U' L ({ frames := 1, cells := 0, slots := 0, locals := 13 } : Room).cells ({ frames := 1, cells := 0, slots := 0, locals := 13 } : Room).slots) := by
  refine MetFree.of_bodySF (plainFor_of_name pn_7) hisR ?_
  intro p e s m args below meth cod_ s₁ Bd hml0 hP hK
  obtain ⟨rfl, hZ, hh⟩ := hP
  have hx := Bd.exec
  have hby := Bd.bytes
  have hml : cod_.maxLocals = 1 := hml0
  have hown : s.vm.findClass "java/lang/String" = some m.cls := findClass_of_methodNamed Bd.named
  have hnm := (name_of_methodNamed Bd.named Bd.method).1
  have X0 : Stand p l e ({ frames := 1, cells := 0, slots := 0, locals := 13 } : Room) s m #[(.ref a1)] below meth cod_ s₁ [] 0 0 := Stand.of_body Bd
  have e0 : s₁.heap = h0 := by rw [← hh, Bd.state]; rfl
  have N0 := Fr.nil n0
  have pre0 : ∀ t, Steps p.tables e below (s₁.setTop (mkF m 0 #[.val (.ref a1)] [])) t → Steps p.tables e below (s₁.setTop (entryFrame m #[(.ref a1)] 1)) t := fun t k => castTop (ef_7 m a1) k
  obtain ⟨T28, X28, e28, st28⟩ := getF X0 hx hZ hown (host := "") (Or.inl (hw _ (List.mem_of_getElem? (i := 46) rfl))) Via.refl e0 F_v (g := (mkF m 1 #[.val (.ref a1)] [(.ref a1)])) rfl rfl (hb hby d7_1)
  obtain ⟨cl29, Ar29, -, S29, M29, -, -⟩ := id (V_1)
  obtain ⟨cq30, kq30, q30a, q30b, q30c⟩ := isOf hZ e28 E_s
  obtain ⟨_, _, ⟨T30, L30, c30_, n30_⟩, -, X30, ⟨Lc30, hQ30, l30, y30, z30⟩, st30⟩ := X28.virtualBack hx (y := (⟨"java/lang/String", "coder", "()B"⟩ : MethodName)) (z := (⟨"java/lang/String", "coder", "()B"⟩ : MethodName)) hown (mvT hZ (hw _ (List.mem_of_getElem? (i := 47) rfl))) (mvT hZ (hw _ (List.mem_of_getElem? (i := 48) rfl))) (notFace_of_selects (args := #[]) (mvT hZ (hw _ (List.mem_of_getElem? (i := 50) rfl)))) (mvT hZ (hw _ (List.mem_of_getElem? (i := 50) rfl))) (mvT hZ (hw _ (List.mem_of_getElem? (i := 49) rfl))) (by decide) (backOf (W := 1) (rm_8 l Z a0 hw [] a1 zc h0 n0 (Nat.le_trans Z0 (Keep.refl h0 []).1) S_C hz F_c) hZ (hw _ (List.mem_of_getElem? (i := 51) rfl)) (hw _ (List.mem_of_getElem? (i := 7) rfl)) (by decide) (by decide)) q30a q30c (g := (mkF m 6 #[.val (.ref a1)] [(.ref a1), (.int (2 : Int32))])) rfl (by rw [hml]; rfl) (Steps.refl _) (argsL := []) (rest := [(.int (2 : Int32))]) (lenOf pd__28_29B rfl) rfl (by show 2 * 0 + _ ≤ _; exact Nat.le_of_eq rfl) (hb hby d7_6) (fun _ _ => ⟨rfl, e28, (by decide : 0 + 0 ≤ _), (by decide : 0 + 0 ≤ _)⟩)
  dsimp only [Pt.U, Pt.locs, Pt.cells, Pt.slots] at X30 l30 y30 z30 st30 hQ30
  subst l30 y30 z30
  obtain ⟨rfl, Nq30, e30⟩ := hQ30
  have N30 := Fr.app N0 Nq30
  obtain ⟨fs, hr, hrun, hended, hW, hsame⟩ := X30.leave (v := some (.int ((2 : Int32) >>> ((0 : Int32) &&& 31)))) (fun h => by rw [Bd.returns] at h; cases h)
  refine ⟨_, _, pre0 _ ?_, hrun, hended, _, _, rfl, ?_, ⟨_, rfl⟩, hW, hsame.mono (by decide) (by decide)⟩
  · show Steps p.tables e below (s₁.setTop (mkF m 0 #[.val (.ref a1)] [])) _
    refine XS.aloadN X0.here hx rfl (hb hby d7_0) rfl rfl ?_
    show Steps p.tables e below (s₁.setTop (mkF m 1 #[.val (.ref a1)] [(.ref a1)])) _
    refine st28 _ ?_
    show Steps p.tables e below (T28.setTop (mkF m 4 #[.val (.ref a1)] [(.ref ta)])) _
    refine X28.arraylength hx (by rw [e28]; exact Ar29.1) (State.isArrayOf_alike hZ.alike Ar29.2.1) (g := (mkF m 4 #[.val (.ref a1)] [(.ref ta)])) rfl rfl (hb hby d7_4) _ ?_
    rw [len_of S29 M29]
    show Steps p.tables e below (T28.setTop (mkF m 5 #[.val (.ref a1)] [(.int (2 : Int32))])) _
    refine XS.aloadN X28.here hx rfl (hb hby d7_5) rfl rfl ?_
    show Steps p.tables e below (T28.setTop (mkF m 6 #[.val (.ref a1)] [(.ref a1), (.int (2 : Int32))])) _
    refine st30.trans ?_
    show Steps p.tables e below (T30.setTop (mkF m 9 #[.val (.ref a1)] [(.int (0 : Int32)), (.int (2 : Int32))])) _
    refine XS.ishr X30.here hx rfl (hb hby d7_9) rfl ?_
    show Steps p.tables e below (T30.setTop (mkF m 10 #[.val (.ref a1)] [(.int ((2 : Int32) >>> ((0 : Int32) &&& 31)))])) _
    exact retI X30 hx Bd.returns (hb hby d7_10) hr
  · show Q_7 Z a1 h0 n0 _ T30.heap _
    rw [e30]
    exact ⟨rfl, N30, rfl⟩
theorem d13_0 : decode jdk_41_method_11_code 0 = .ok (.iload_n 0, 1) := by decide +kernel
theorem d13_1 : decode jdk_41_method_11_code 1 = .ok (.ifCond .lt 8, 3) := by decide +kernel
theorem d13_4 : decode jdk_41_method_11_code 4 = .ok (.iload_n 0, 1) := by decide +kernel
theorem d13_5 : decode jdk_41_method_11_code 5 = .ok (.iload_n 1, 1) := by decide +kernel
theorem d13_6 : decode jdk_41_method_11_code 6 = .ok (.if_icmp .lt 10, 3) := by decide +kernel
theorem d13_16 : decode jdk_41_method_11_code 16 = .ok (.iload_n 0, 1) := by decide +kernel
theorem d13_17 : decode jdk_41_method_11_code 17 = .ok (.ireturn, 1) := by decide +kernel
theorem pn_13 : plainName "jdk/internal/util/Preconditions" = true := by first | (simp [plainName, overriddenIn]; done) | decide +kernel
theorem ef_13 (m : MethodId) (x0 : Int32) (x1 : Int32) (x2 : Addr) : entryFrame m #[(.int x0), (.int x1), (.ref x2)] 3 = mkF m 0 #[.val (.int x0), .val (.int x1), .val (.ref x2)] [] := by first | (simp [entryFrame, mkF, argsToLocals, Value.category]; done) | rfl
def Q_pc (Z : State) (p1 : Int32) (p2 : Int32) (a3 : Addr) (h0 : Heap) (n0 : Nat) (v : Option Value) (h : Heap) (L : List Loc) : Prop := v = some (.int p1) ∧ Fr n0 L ∧ h = h0
set_option maxRecDepth 65536 in
set_option maxHeartbeats 40000000 in
theorem rm_pc (l : Launch) (Z : State) (a0 : Array Value) (hw : ∀ d ∈ tables_1, d.before a0 Z = true) (ws : List Jvm.Cond) (p1 : Int32) (p2 : Int32) (a3 : Addr) (h0 : Heap) (n0 : Nat) (Z0 : n0 ≤ h0.size) (u0 : ¬ p1 < 0) (u1 : p1 < p2) :
    MetFree l (⟨"jdk/internal/util/Preconditions", "checkIndex", "(IILjava/util/function/BiFunction;)I"⟩ : MethodName) (head1 (Jvm.Cond.code (⟨"jdk/internal/util/Preconditions", "checkIndex", "(IILjava/util/function/BiFunction;)I"⟩ : MethodName) jdk_41_method_11_code 3 (some .int) :: ws) ({ frames := 0, cells := 0, slots := 0, locals := 0 } : Room)) (fun a U => a = #[(.int p1), (.int p2), (.ref a3)] ∧ Z.Warmed39 U.vm ∧ U.heap = h0) (fun _ _ _ _ _ => True) (fun _ U o U' => ∃ v L, o = .returned v ∧ Q_pc Z p1 p2 a3 h0 n0 v U'.heap L ∧ FrameEnd U o U' L ({ frames := 0, cells := 0, slots := 0, locals := 0 } : Room).cells ({ frames := 0, cells := 0, slots := 0, locals := 0 } : Room).slots) := by
  refine MetFree.of_bodySF (plainFor_of_name pn_13) hisR ?_
  intro p e s m args below meth cod_ s₁ Bd hml0 hP hK
  obtain ⟨rfl, hZ, hh⟩ := hP
  have hx := Bd.exec
  have hby := Bd.bytes
  have hml : cod_.maxLocals = 3 := hml0
  have hown : s.vm.findClass "jdk/internal/util/Preconditions" = some m.cls := findClass_of_methodNamed Bd.named
  have hnm := (name_of_methodNamed Bd.named Bd.method).1
  have X0 : Stand p l e ({ frames := 0, cells := 0, slots := 0, locals := 0 } : Room) s m #[(.int p1), (.int p2), (.ref a3)] below meth cod_ s₁ [] 0 0 := Stand.of_body Bd
  have e0 : s₁.heap = h0 := by rw [← hh, Bd.state]; rfl
  have N0 := Fr.nil n0
  have pre0 : ∀ t, Steps p.tables e below (s₁.setTop (mkF m 0 #[.val (.int p1), .val (.int p2), .val (.ref a3)] [])) t → Steps p.tables e below (s₁.setTop (entryFrame m #[(.int p1), (.int p2), (.ref a3)] 3)) t := fun t k => castTop (ef_13 m p1 p2 a3) k
  have hc1 : ¬ (p1 < (0 : Int32)) := u0
  have hc6 : p1 < p2 := u1
  obtain ⟨fs, hr, hrun, hended, hW, hsame⟩ := X0.leave (v := some (.int p1)) (fun h => by rw [Bd.returns] at h; cases h)
  refine ⟨_, _, pre0 _ ?_, hrun, hended, _, _, rfl, ?_, ⟨_, rfl⟩, hW, hsame.mono (by decide) (by decide)⟩
  · show Steps p.tables e below (s₁.setTop (mkF m 0 #[.val (.int p1), .val (.int p2), .val (.ref a3)] [])) _
    refine XS.iloadN X0.here hx rfl (hb hby d13_0) rfl ?_
    show Steps p.tables e below (s₁.setTop (mkF m 1 #[.val (.int p1), .val (.int p2), .val (.ref a3)] [(.int p1)])) _
    refine XS.ifNo X0.here hx rfl (hb hby d13_1) rfl ((if0 _ _).trans (flt hc1).1) ?_
    show Steps p.tables e below (s₁.setTop (mkF m 4 #[.val (.int p1), .val (.int p2), .val (.ref a3)] [])) _
    refine XS.iloadN X0.here hx rfl (hb hby d13_4) rfl ?_
    show Steps p.tables e below (s₁.setTop (mkF m 5 #[.val (.int p1), .val (.int p2), .val (.ref a3)] [(.int p1)])) _
    refine XS.iloadN X0.here hx rfl (hb hby d13_5) rfl ?_
    show Steps p.tables e below (s₁.setTop (mkF m 6 #[.val (.int p1), .val (.int p2), .val (.ref a3)] [(.int p2), (.int p1)])) _
    refine XS.icmpYes X0.here hx rfl (pc0 := 6) (pc' := 16) rfl (hb hby d13_6) rfl (tlt hc6).1 (by decide) (by decide) ?_
    show Steps p.tables e below (s₁.setTop (mkF m 16 #[.val (.int p1), .val (.int p2), .val (.ref a3)] [])) _
    refine XS.iloadN X0.here hx rfl (hb hby d13_16) rfl ?_
    show Steps p.tables e below (s₁.setTop (mkF m 17 #[.val (.int p1), .val (.int p2), .val (.ref a3)] [(.int p1)])) _
    exact retI X0 hx Bd.returns (hb hby d13_17) hr
  · show Q_pc Z p1 p2 a3 h0 n0 _ s₁.heap _
    rw [e0]
    exact ⟨rfl, N0, rfl⟩
theorem ef_13n2 (m : MethodId) (x0 : Int32) (x1 : Int32) : entryFrame m #[(.int x0), (.int x1), .null] 3 = mkF m 0 #[.val (.int x0), .val (.int x1), .val .null] [] := by first | (simp [entryFrame, mkF, argsToLocals, Value.category]; done) | rfl
def Q_pcn (Z : State) (p1 : Int32) (p2 : Int32) (h0 : Heap) (n0 : Nat) (v : Option Value) (h : Heap) (L : List Loc) : Prop := v = some (.int p1) ∧ Fr n0 L ∧ h = h0
set_option maxRecDepth 65536 in
set_option maxHeartbeats 40000000 in
theorem rm_pcn (l : Launch) (Z : State) (a0 : Array Value) (hw : ∀ d ∈ tables_1, d.before a0 Z = true) (ws : List Jvm.Cond) (p1 : Int32) (p2 : Int32) (h0 : Heap) (n0 : Nat) (Z0 : n0 ≤ h0.size) (u0 : ¬ p1 < 0) (u1 : p1 < p2) :
    MetFree l (⟨"jdk/internal/util/Preconditions", "checkIndex", "(IILjava/util/function/BiFunction;)I"⟩ : MethodName) (head1 (Jvm.Cond.code (⟨"jdk/internal/util/Preconditions", "checkIndex", "(IILjava/util/function/BiFunction;)I"⟩ : MethodName) jdk_41_method_11_code 3 (some .int) :: ws) ({ frames := 0, cells := 0, slots := 0, locals := 0 } : Room)) (fun a U => a = #[(.int p1), (.int p2), .null] ∧ Z.Warmed39 U.vm ∧ U.heap = h0) (fun _ _ _ _ _ => True) (fun _ U o U' => ∃ v L, o = .returned v ∧ Q_pcn Z p1 p2 h0 n0 v U'.heap L ∧ FrameEnd U o U' L ({ frames := 0, cells := 0, slots := 0, locals := 0 } : Room).cells ({ frames := 0, cells := 0, slots := 0, locals := 0 } : Room).slots) := by
  refine MetFree.of_bodySF (plainFor_of_name pn_13) hisR ?_
  intro p e s m args below meth cod_ s₁ Bd hml0 hP hK
  obtain ⟨rfl, hZ, hh⟩ := hP
  have hx := Bd.exec
  have hby := Bd.bytes
  have hml : cod_.maxLocals = 3 := hml0
  have hown : s.vm.findClass "jdk/internal/util/Preconditions" = some m.cls := findClass_of_methodNamed Bd.named
  have hnm := (name_of_methodNamed Bd.named Bd.method).1
  have X0 : Stand p l e ({ frames := 0, cells := 0, slots := 0, locals := 0 } : Room) s m #[(.int p1), (.int p2), .null] below meth cod_ s₁ [] 0 0 := Stand.of_body Bd
  have e0 : s₁.heap = h0 := by rw [← hh, Bd.state]; rfl
  have N0 := Fr.nil n0
  have pre0 : ∀ t, Steps p.tables e below (s₁.setTop (mkF m 0 #[.val (.int p1), .val (.int p2), .val .null] [])) t → Steps p.tables e below (s₁.setTop (entryFrame m #[(.int p1), (.int p2), .null] 3)) t := fun t k => castTop (ef_13n2 m p1 p2) k
  have hc1 : ¬ (p1 < (0 : Int32)) := u0
  have hc6 : p1 < p2 := u1
  obtain ⟨fs, hr, hrun, hended, hW, hsame⟩ := X0.leave (v := some (.int p1)) (fun h => by rw [Bd.returns] at h; cases h)
  refine ⟨_, _, pre0 _ ?_, hrun, hended, _, _, rfl, ?_, ⟨_, rfl⟩, hW, hsame.mono (by decide) (by decide)⟩
  · show Steps p.tables e below (s₁.setTop (mkF m 0 #[.val (.int p1), .val (.int p2), .val .null] [])) _
    refine XS.iloadN X0.here hx rfl (hb hby d13_0) rfl ?_
    show Steps p.tables e below (s₁.setTop (mkF m 1 #[.val (.int p1), .val (.int p2), .val .null] [(.int p1)])) _
    refine XS.ifNo X0.here hx rfl (hb hby d13_1) rfl ((if0 _ _).trans (flt hc1).1) ?_
    show Steps p.tables e below (s₁.setTop (mkF m 4 #[.val (.int p1), .val (.int p2), .val .null] [])) _
    refine XS.iloadN X0.here hx rfl (hb hby d13_4) rfl ?_
    show Steps p.tables e below (s₁.setTop (mkF m 5 #[.val (.int p1), .val (.int p2), .val .null] [(.int p1)])) _
    refine XS.iloadN X0.here hx rfl (hb hby d13_5) rfl ?_
    show Steps p.tables e below (s₁.setTop (mkF m 6 #[.val (.int p1), .val (.int p2), .val .null] [(.int p2), (.int p1)])) _
    refine XS.icmpYes X0.here hx rfl (pc0 := 6) (pc' := 16) rfl (hb hby d13_6) rfl (tlt hc6).1 (by decide) (by decide) ?_
    show Steps p.tables e below (s₁.setTop (mkF m 16 #[.val (.int p1), .val (.int p2), .val .null] [])) _
    refine XS.iloadN X0.here hx rfl (hb hby d13_16) rfl ?_
    show Steps p.tables e below (s₁.setTop (mkF m 17 #[.val (.int p1), .val (.int p2), .val .null] [(.int p1)])) _
    exact retI X0 hx Bd.returns (hb hby d13_17) hr
  · show Q_pcn Z p1 p2 h0 n0 _ s₁.heap _
    rw [e0]
    exact ⟨rfl, N0, rfl⟩
theorem d12_0 : decode jdk_42_method_155_code 0 = .ok (.iload_n 0, 1) := by decide +kernel
theorem d12_1 : decode jdk_42_method_155_code 1 = .ok (.iload_n 1, 1) := by decide +kernel
theorem d12_2 : decode jdk_42_method_155_code 2 = .ok (.getstatic 1053, 3) := by decide +kernel
theorem d12_5 : decode jdk_42_method_155_code 5 = .ok (.invokestatic 1059, 3) := by decide +kernel
theorem d12_8 : decode jdk_42_method_155_code 8 = .ok (.pop, 1) := by decide +kernel
theorem d12_9 : decode jdk_42_method_155_code 9 = .ok (.return_, 1) := by decide +kernel
theorem pd__28IILjava_2futil_2ffunction_2fBiFunction_3b_29I : parseMethodDescriptor "(IILjava/util/function/BiFunction;)I" = some ⟨[.int, .int, (.object "java/util/function/BiFunction")], some .int⟩ := by decide +kernel
theorem pn_12 : plainName "java/lang/String" = true := by first | (simp [plainName, overriddenIn]; done) | decide +kernel
theorem ef_12 (m : MethodId) (x0 : Int32) (x1 : Int32) : entryFrame m #[(.int x0), (.int x1)] 2 = mkF m 0 #[.val (.int x0), .val (.int x1)] [] := by first | (simp [entryFrame, mkF, argsToLocals, Value.category]; done) | rfl
def Q_ci (Z : State) (p1 : Int32) (p2 : Int32) (h0 : Heap) (n0 : Nat) (v : Option Value) (h : Heap) (L : List Loc) : Prop := v = none ∧ Fr n0 L ∧ h = h0
set_option maxRecDepth 65536 in
set_option maxHeartbeats 40000000 in
theorem rm_ci (l : Launch) (Z : State) (a0 : Array Value) (hw : ∀ d ∈ tables_1, d.before a0 Z = true) (ws : List Jvm.Cond) (p1 : Int32) (p2 : Int32) (fm : Value) (h0 : Heap) (n0 : Nat) (Z0 : n0 ≤ h0.size) (u0 : ¬ p1 < 0) (u1 : p1 < p2) (rf : fm.isRef = true) (S_SIOOBE_FORMATTER : Sta Z h0 "jdk/internal/util/Preconditions" "SIOOBE_FORMATTER" "Ljava/util/function/BiFunction;" fm) :
    MetFree l (⟨"java/lang/String", "checkIndex", "(II)V"⟩ : MethodName) (head1 (Jvm.Cond.code (⟨"java/lang/String", "checkIndex", "(II)V"⟩ : MethodName) jdk_42_method_155_code 2 none :: ws) ({ frames := 1, cells := 0, slots := 0, locals := 14 } : Room)) (fun a U => a = #[(.int p1), (.int p2)] ∧ Z.Warmed39 U.vm ∧ U.heap = h0) (fun _ _ _ _ _ => True) (fun _ U o U' => ∃ v L, o = .returned v ∧ Q_ci Z p1 p2 h0 n0 v U'.heap L ∧ FrameEnd U o U' L ({ frames := 1, cells := 0, slots := 0, locals := 14 } : Room).cells ({ frames := 1, cells := 0, slots := 0, locals := 14 } : Room).slots) := by
  refine MetFree.of_bodySF (plainFor_of_name pn_12) hisR ?_
  intro p e s m args below meth cod_ s₁ Bd hml0 hP hK
  obtain ⟨rfl, hZ, hh⟩ := hP
  have hx := Bd.exec
  have hby := Bd.bytes
  have hml : cod_.maxLocals = 2 := hml0
  have hown : s.vm.findClass "java/lang/String" = some m.cls := findClass_of_methodNamed Bd.named
  have hnm := (name_of_methodNamed Bd.named Bd.method).1
  have X0 : Stand p l e ({ frames := 1, cells := 0, slots := 0, locals := 14 } : Room) s m #[(.int p1), (.int p2)] below meth cod_ s₁ [] 0 0 := Stand.of_body Bd
  have e0 : s₁.heap = h0 := by rw [← hh, Bd.state]; rfl
  have N0 := Fr.nil n0
  have pre0 : ∀ t, Steps p.tables e below (s₁.setTop (mkF m 0 #[.val (.int p1), .val (.int p2)] [])) t → Steps p.tables e below (s₁.setTop (entryFrame m #[(.int p1), (.int p2)] 2)) t := fun t k => castTop (ef_12 m p1 p2) k
  rcases ref_cases rf with rfl | ⟨fa, rfl⟩
  · obtain ⟨T31, X31, e31, st31⟩ := getS2 X0 hx hZ hown (host := "") (Or.inl (hw _ (List.mem_of_getElem? (i := 71) rfl))) Via.refl e0 S_SIOOBE_FORMATTER (g := (mkF m 2 #[.val (.int p1), .val (.int p2)] [(.int p2), (.int p1)])) rfl (hb hby d12_2)
    obtain ⟨_, _, ⟨T32, L32, c32_, n32_⟩, -, X32, ⟨Lc32, hQ32, l32, y32, z32⟩, st32⟩ := Jvm.LawKit.callS X31 hx (y := (⟨"jdk/internal/util/Preconditions", "checkIndex", "(IILjava/util/function/BiFunction;)I"⟩ : MethodName)) hown (mvT hZ (hw _ (List.mem_of_getElem? (i := 73) rfl))) (mvT hZ (hw _ (List.mem_of_getElem? (i := 74) rfl))) (mvT hZ (hw _ (List.mem_of_getElem? (i := 72) rfl))) (mvT hZ (hw _ (List.mem_of_getElem? (i := 75) rfl))) (by decide) (backOf (W := 0) (rm_pcn l Z a0 hw [] p1 p2 h0 n0 (Nat.le_trans Z0 (Keep.refl h0 []).1) u0 u1) hZ (hw _ (List.mem_of_getElem? (i := 75) rfl)) (hw _ (List.mem_of_getElem? (i := 72) rfl)) (by decide) (by decide)) (g := (mkF m 5 #[.val (.int p1), .val (.int p2)] [.null, (.int p2), (.int p1)])) rfl (by rw [hml]; rfl) (argsL := [(.int p1), (.int p2), .null]) (rest := []) (lenOf pd__28IILjava_2futil_2ffunction_2fBiFunction_3b_29I rfl) rfl (by show 2 * 0 + _ ≤ _; exact Nat.le_of_eq rfl) (hb hby d12_5) (fun _ _ => ⟨rfl, e31, (by decide : 0 + 0 ≤ _), (by decide : 0 + 0 ≤ _)⟩)
    dsimp only [Pt.U, Pt.locs, Pt.cells, Pt.slots] at X32 l32 y32 z32 st32 hQ32
    subst l32 y32 z32
    obtain ⟨rfl, Nq32, e32⟩ := hQ32
    have N32 := Fr.app N0 Nq32
    obtain ⟨fs, hr, hrun, hended, hW, hsame⟩ := X32.leave (v := none) (fun _ => rfl)
    refine ⟨_, _, pre0 _ ?_, hrun, hended, _, _, rfl, ?_, ⟨_, rfl⟩, hW, hsame.mono (by decide) (by decide)⟩
    · show Steps p.tables e below (s₁.setTop (mkF m 0 #[.val (.int p1), .val (.int p2)] [])) _
      refine XS.iloadN X0.here hx rfl (hb hby d12_0) rfl ?_
      show Steps p.tables e below (s₁.setTop (mkF m 1 #[.val (.int p1), .val (.int p2)] [(.int p1)])) _
      refine XS.iloadN X0.here hx rfl (hb hby d12_1) rfl ?_
      show Steps p.tables e below (s₁.setTop (mkF m 2 #[.val (.int p1), .val (.int p2)] [(.int p2), (.int p1)])) _
      refine st31 _ ?_
      show Steps p.tables e below (T31.setTop (mkF m 5 #[.val (.int p1), .val (.int p2)] [.null, (.int p2), (.int p1)])) _
      refine st32 _ ?_
      show Steps p.tables e below (T32.setTop (mkF m 8 #[.val (.int p1), .val (.int p2)] [(.int p1)])) _
      refine XS.pop X32.here hx rfl (hb hby d12_8) rfl rfl ?_
      show Steps p.tables e below (T32.setTop (mkF m 9 #[.val (.int p1), .val (.int p2)] [])) _
      exact X32.returnOut hx Bd.returns (hb hby d12_9) hr
    · show Q_ci Z p1 p2 h0 n0 _ T32.heap _
      rw [e32]
      exact ⟨rfl, N32, rfl⟩
  · obtain ⟨T33, X33, e33, st33⟩ := getS2 X0 hx hZ hown (host := "") (Or.inl (hw _ (List.mem_of_getElem? (i := 71) rfl))) Via.refl e0 S_SIOOBE_FORMATTER (g := (mkF m 2 #[.val (.int p1), .val (.int p2)] [(.int p2), (.int p1)])) rfl (hb hby d12_2)
    obtain ⟨_, _, ⟨T34, L34, c34_, n34_⟩, -, X34, ⟨Lc34, hQ34, l34, y34, z34⟩, st34⟩ := Jvm.LawKit.callS X33 hx (y := (⟨"jdk/internal/util/Preconditions", "checkIndex", "(IILjava/util/function/BiFunction;)I"⟩ : MethodName)) hown (mvT hZ (hw _ (List.mem_of_getElem? (i := 73) rfl))) (mvT hZ (hw _ (List.mem_of_getElem? (i := 74) rfl))) (mvT hZ (hw _ (List.mem_of_getElem? (i := 72) rfl))) (mvT hZ (hw _ (List.mem_of_getElem? (i := 75) rfl))) (by decide) (backOf (W := 0) (rm_pc l Z a0 hw [] p1 p2 fa h0 n0 (Nat.le_trans Z0 (Keep.refl h0 []).1) u0 u1) hZ (hw _ (List.mem_of_getElem? (i := 75) rfl)) (hw _ (List.mem_of_getElem? (i := 72) rfl)) (by decide) (by decide)) (g := (mkF m 5 #[.val (.int p1), .val (.int p2)] [(.ref fa), (.int p2), (.int p1)])) rfl (by rw [hml]; rfl) (argsL := [(.int p1), (.int p2), (.ref fa)]) (rest := []) (lenOf pd__28IILjava_2futil_2ffunction_2fBiFunction_3b_29I rfl) rfl (by show 2 * 0 + _ ≤ _; exact Nat.le_of_eq rfl) (hb hby d12_5) (fun _ _ => ⟨rfl, e33, (by decide : 0 + 0 ≤ _), (by decide : 0 + 0 ≤ _)⟩)
    dsimp only [Pt.U, Pt.locs, Pt.cells, Pt.slots] at X34 l34 y34 z34 st34 hQ34
    subst l34 y34 z34
    obtain ⟨rfl, Nq34, e34⟩ := hQ34
    have N34 := Fr.app N0 Nq34
    obtain ⟨fs, hr, hrun, hended, hW, hsame⟩ := X34.leave (v := none) (fun _ => rfl)
    refine ⟨_, _, pre0 _ ?_, hrun, hended, _, _, rfl, ?_, ⟨_, rfl⟩, hW, hsame.mono (by decide) (by decide)⟩
    · show Steps p.tables e below (s₁.setTop (mkF m 0 #[.val (.int p1), .val (.int p2)] [])) _
      refine XS.iloadN X0.here hx rfl (hb hby d12_0) rfl ?_
      show Steps p.tables e below (s₁.setTop (mkF m 1 #[.val (.int p1), .val (.int p2)] [(.int p1)])) _
      refine XS.iloadN X0.here hx rfl (hb hby d12_1) rfl ?_
      show Steps p.tables e below (s₁.setTop (mkF m 2 #[.val (.int p1), .val (.int p2)] [(.int p2), (.int p1)])) _
      refine st33 _ ?_
      show Steps p.tables e below (T33.setTop (mkF m 5 #[.val (.int p1), .val (.int p2)] [(.ref fa), (.int p2), (.int p1)])) _
      refine st34 _ ?_
      show Steps p.tables e below (T34.setTop (mkF m 8 #[.val (.int p1), .val (.int p2)] [(.int p1)])) _
      refine XS.pop X34.here hx rfl (hb hby d12_8) rfl rfl ?_
      show Steps p.tables e below (T34.setTop (mkF m 9 #[.val (.int p1), .val (.int p2)] [])) _
      exact X34.returnOut hx Bd.returns (hb hby d12_9) hr
    · show Q_ci Z p1 p2 h0 n0 _ T34.heap _
      rw [e34]
      exact ⟨rfl, N34, rfl⟩
theorem d11_0 : decode jdk_43_method_2_code 0 = .ok (.iload_n 1, 1) := by decide +kernel
theorem d11_1 : decode jdk_43_method_2_code 1 = .ok (.aload_n 0, 1) := by decide +kernel
theorem d11_2 : decode jdk_43_method_2_code 2 = .ok (.arraylength, 1) := by decide +kernel
theorem d11_3 : decode jdk_43_method_2_code 3 = .ok (.invokestatic 9, 3) := by decide +kernel
theorem d11_6 : decode jdk_43_method_2_code 6 = .ok (.aload_n 0, 1) := by decide +kernel
theorem d11_7 : decode jdk_43_method_2_code 7 = .ok (.iload_n 1, 1) := by decide +kernel
theorem d11_8 : decode jdk_43_method_2_code 8 = .ok (.baload, 1) := by decide +kernel
theorem d11_9 : decode jdk_43_method_2_code 9 = .ok (.sipush 255, 3) := by decide +kernel
theorem d11_12 : decode jdk_43_method_2_code 12 = .ok (.iand, 1) := by decide +kernel
theorem d11_13 : decode jdk_43_method_2_code 13 = .ok (.i2c, 1) := by decide +kernel
theorem d11_14 : decode jdk_43_method_2_code 14 = .ok (.ireturn, 1) := by decide +kernel
theorem pd__28II_29V : parseMethodDescriptor "(II)V" = some ⟨[.int, .int], none⟩ := by decide +kernel
theorem pn_11 : plainName "java/lang/StringLatin1" = true := by first | (simp [plainName, overriddenIn]; done) | decide +kernel
theorem ef_11 (m : MethodId) (x0 : Addr) (x1 : Int32) : entryFrame m #[(.ref x0), (.int x1)] 2 = mkF m 0 #[.val (.ref x0), .val (.int x1)] [] := by first | (simp [entryFrame, mkF, argsToLocals, Value.category]; done) | rfl
def Q_l1 (Z : State) (a1 : Addr) (p2 : Int32) (b : Int32) (h0 : Heap) (n0 : Nat) (v : Option Value) (h : Heap) (L : List Loc) : Prop := v = some (.int (nar .char ((b &&& (255 : Int32)).toUInt32.toUInt16.toUInt32.toInt32))) ∧ Fr n0 L ∧ h = h0
set_option maxRecDepth 65536 in
set_option maxHeartbeats 40000000 in
theorem rm_l1 (l : Launch) (Z : State) (a0 : Array Value) (hw : ∀ d ∈ tables_1, d.before a0 Z = true) (ws : List Jvm.Cond) (a1 : Addr) (p2 : Int32) (b : Int32) (kk : ClassId) (zz : Int32) (vs : List Value) (fm : Value) (h0 : Heap) (n0 : Nat) (Z0 : n0 ≤ h0.size) (V_1 : Arv Z h0 a1 kk .byte zz vs (.int (0 : Int32))) (u0 : ¬ p2 < 0) (u1 : p2 < zz) (hb_ : vs.getD p2.toNatClampNeg (.int (0 : Int32)) = .int b) (rf : fm.isRef = true) (S_F : Sta Z h0 "jdk/internal/util/Preconditions" "SIOOBE_FORMATTER" "Ljava/util/function/BiFunction;" fm) :
    MetFree l (⟨"java/lang/StringLatin1", "charAt", "([BI)C"⟩ : MethodName) (head1 (Jvm.Cond.code (⟨"java/lang/StringLatin1", "charAt", "([BI)C"⟩ : MethodName) jdk_43_method_2_code 2 (some .char) :: ws) ({ frames := 2, cells := 0, slots := 0, locals := 27 } : Room)) (fun a U => a = #[(.ref a1), (.int p2)] ∧ Z.Warmed39 U.vm ∧ U.heap = h0) (fun _ _ _ _ _ => True) (fun _ U o U' => ∃ v L, o = .returned v ∧ Q_l1 Z a1 p2 b h0 n0 v U'.heap L ∧ FrameEnd U o U' L ({ frames := 2, cells := 0, slots := 0, locals := 27 } : Room).cells ({ frames := 2, cells := 0, slots := 0, locals := 27 } : Room).slots) := by
  refine MetFree.of_bodySF (plainFor_of_name pn_11) hisR ?_
  intro p e s m args below meth cod_ s₁ Bd hml0 hP hK
  obtain ⟨rfl, hZ, hh⟩ := hP
  have hx := Bd.exec
  have hby := Bd.bytes
  have hml : cod_.maxLocals = 2 := hml0
  have hown : s.vm.findClass "java/lang/StringLatin1" = some m.cls := findClass_of_methodNamed Bd.named
  have hnm := (name_of_methodNamed Bd.named Bd.method).1
  have X0 : Stand p l e ({ frames := 2, cells := 0, slots := 0, locals := 27 } : Room) s m #[(.ref a1), (.int p2)] below meth cod_ s₁ [] 0 0 := Stand.of_body Bd
  have e0 : s₁.heap = h0 := by rw [← hh, Bd.state]; rfl
  have N0 := Fr.nil n0
  have pre0 : ∀ t, Steps p.tables e below (s₁.setTop (mkF m 0 #[.val (.ref a1), .val (.int p2)] [])) t → Steps p.tables e below (s₁.setTop (entryFrame m #[(.ref a1), (.int p2)] 2)) t := fun t k => castTop (ef_11 m a1 p2) k
  obtain ⟨cl35, Ar35, -, S35, M35, -, -⟩ := id (V_1)
  obtain ⟨_, _, ⟨T36, L36, c36_, n36_⟩, -, X36, ⟨Lc36, hQ36, l36, y36, z36⟩, st36⟩ := Jvm.LawKit.callS X0 hx (y := (⟨"java/lang/String", "checkIndex", "(II)V"⟩ : MethodName)) hown (mvT hZ (hw _ (List.mem_of_getElem? (i := 68) rfl))) (mvT hZ (hw _ (List.mem_of_getElem? (i := 69) rfl))) (mvT hZ (hw _ (List.mem_of_getElem? (i := 7) rfl))) (mvT hZ (hw _ (List.mem_of_getElem? (i := 70) rfl))) (by decide) (backOf (W := 0) (rm_ci l Z a0 hw [] p2 zz fm h0 n0 (Nat.le_trans Z0 (Keep.refl h0 []).1) u0 u1 rf S_F) hZ (hw _ (List.mem_of_getElem? (i := 70) rfl)) (hw _ (List.mem_of_getElem? (i := 7) rfl)) (by decide) (by decide)) (g := (mkF m 3 #[.val (.ref a1), .val (.int p2)] [(.int zz), (.int p2)])) rfl (by rw [hml]; rfl) (argsL := [(.int p2), (.int zz)]) (rest := []) (lenOf pd__28II_29V rfl) rfl (by show 2 * 0 + _ ≤ _; exact Nat.le_of_eq rfl) (hb hby d11_3) (fun _ _ => ⟨rfl, e0, (by decide : 0 + 0 ≤ _), (by decide : 0 + 0 ≤ _)⟩)
  dsimp only [Pt.U, Pt.locs, Pt.cells, Pt.slots] at X36 l36 y36 z36 st36 hQ36
  subst l36 y36 z36
  obtain ⟨rfl, Nq36, e36⟩ := hQ36
  have N36 := Fr.app N0 Nq36
  obtain ⟨cl37, Ar37, -, S37, M37, H37, G37⟩ := id (V_1)
  have hin37 : ¬ (p2 < 0 ∨ cl37.slots.size ≤ (p2).toNatClampNeg) := inb_of S37 ⟨u0, u1⟩
  have hat37 : cl37.slots[(p2).toNatClampNeg]? = some (.int b) := Has.at H37 hin37 hb_
  obtain ⟨fs, hr, hrun, hended, hW, hsame⟩ := X36.leave (v := some (.int (nar .char ((b &&& (255 : Int32)).toUInt32.toUInt16.toUInt32.toInt32)))) (fun h => by rw [Bd.returns] at h; cases h)
  refine ⟨_, _, pre0 _ ?_, hrun, hended, _, _, rfl, ?_, ⟨_, rfl⟩, hW, hsame.mono (by decide) (by decide)⟩
  · show Steps p.tables e below (s₁.setTop (mkF m 0 #[.val (.ref a1), .val (.int p2)] [])) _
    refine XS.iloadN X0.here hx rfl (hb hby d11_0) rfl ?_
    show Steps p.tables e below (s₁.setTop (mkF m 1 #[.val (.ref a1), .val (.int p2)] [(.int p2)])) _
    refine XS.aloadN X0.here hx rfl (hb hby d11_1) rfl rfl ?_
    show Steps p.tables e below (s₁.setTop (mkF m 2 #[.val (.ref a1), .val (.int p2)] [(.ref a1), (.int p2)])) _
    refine X0.arraylength hx (by rw [e0]; exact Ar35.1) (State.isArrayOf_alike hZ.alike Ar35.2.1) (g := (mkF m 2 #[.val (.ref a1), .val (.int p2)] [(.ref a1), (.int p2)])) rfl rfl (hb hby d11_2) _ ?_
    rw [len_of S35 M35]
    show Steps p.tables e below (s₁.setTop (mkF m 3 #[.val (.ref a1), .val (.int p2)] [(.int zz), (.int p2)])) _
    refine st36 _ ?_
    show Steps p.tables e below (T36.setTop (mkF m 6 #[.val (.ref a1), .val (.int p2)] [])) _
    refine XS.aloadN X36.here hx rfl (hb hby d11_6) rfl rfl ?_
    show Steps p.tables e below (T36.setTop (mkF m 7 #[.val (.ref a1), .val (.int p2)] [(.ref a1)])) _
    refine XS.iloadN X36.here hx rfl (hb hby d11_7) rfl ?_
    show Steps p.tables e below (T36.setTop (mkF m 8 #[.val (.ref a1), .val (.int p2)] [(.int p2), (.ref a1)])) _
    refine X36.baloadBytes hx (j := p2) (v := (.int b)) (by rw [e36]; exact Ar37.1) (State.isArrayOf_alike hZ.alike Ar37.2.1) Ar37.2.2 hin37 hat37 (g := (mkF m 8 #[.val (.ref a1), .val (.int p2)] [(.int p2), (.ref a1)])) rfl rfl (hb hby d11_8) _ ?_
    show Steps p.tables e below (T36.setTop (mkF m 9 #[.val (.ref a1), .val (.int p2)] [(.int b)])) _
    refine XS.sipush X36.here hx rfl (hb hby d11_9) ?_
    show Steps p.tables e below (T36.setTop (mkF m 12 #[.val (.ref a1), .val (.int p2)] [(.int (255 : Int32)), (.int b)])) _
    refine XS.iand X36.here hx rfl (hb hby d11_12) rfl ?_
    show Steps p.tables e below (T36.setTop (mkF m 13 #[.val (.ref a1), .val (.int p2)] [(.int (b &&& (255 : Int32)))])) _
    refine XS.i2c X36.here hx rfl (hb hby d11_13) rfl ?_
    show Steps p.tables e below (T36.setTop (mkF m 14 #[.val (.ref a1), .val (.int p2)] [(.int ((b &&& (255 : Int32)).toUInt32.toUInt16.toUInt32.toInt32))])) _
    exact retN X36 hx (t := .char) Bd.returns (by simp) (hb hby d11_14) hr
  · show Q_l1 Z a1 p2 b h0 n0 _ T36.heap _
    rw [e36]
    exact ⟨rfl, N36, rfl⟩
theorem d10_0 : decode jdk_42_method_154_code 0 = .ok (.getstatic 38, 3) := by decide +kernel
theorem d10_3 : decode jdk_42_method_154_code 3 = .ok (.ifCond .eq 14, 3) := by decide +kernel
theorem d10_6 : decode jdk_42_method_154_code 6 = .ok (.aload_n 0, 1) := by decide +kernel
theorem d10_7 : decode jdk_42_method_154_code 7 = .ok (.getfield 15, 3) := by decide +kernel
theorem d10_10 : decode jdk_42_method_154_code 10 = .ok (.ifCond .ne 7, 3) := by decide +kernel
theorem d10_13 : decode jdk_42_method_154_code 13 = .ok (.iconst 1, 1) := by decide +kernel
theorem d10_14 : decode jdk_42_method_154_code 14 = .ok (.goto 4, 3) := by decide +kernel
theorem d10_18 : decode jdk_42_method_154_code 18 = .ok (.ireturn, 1) := by decide +kernel
theorem pn_10 : plainName "java/lang/String" = true := by first | (simp [plainName, overriddenIn]; done) | decide +kernel
theorem ef_10 (m : MethodId) (x0 : Addr) : entryFrame m #[(.ref x0)] 1 = mkF m 0 #[.val (.ref x0)] [] := by first | (simp [entryFrame, mkF, argsToLocals, Value.category]; done) | rfl
def Q_lat (Z : State) (a1 : Addr) (h0 : Heap) (n0 : Nat) (v : Option Value) (h : Heap) (L : List Loc) : Prop := v = some (.int 1) ∧ Fr n0 L ∧ h = h0
set_option maxRecDepth 65536 in
set_option maxHeartbeats 40000000 in
theorem rm_lat (l : Launch) (Z : State) (a0 : Array Value) (hw : ∀ d ∈ tables_1, d.before a0 Z = true) (ws : List Jvm.Cond) (a1 : Addr) (zc : Int32) (h0 : Heap) (n0 : Nat) (Z0 : n0 ≤ h0.size) (S_COMPACT_STRINGS : Sta Z h0 "java/lang/String" "COMPACT_STRINGS" "Z" (.int zc)) (hz : ¬ zc = 0) (F_c : Fld Z h0 a1 "java/lang/String" "coder" "B" (.int (0 : Int32))) :
    MetFree l (⟨"java/lang/String", "isLatin1", "()Z"⟩ : MethodName) (head1 (Jvm.Cond.code (⟨"java/lang/String", "isLatin1", "()Z"⟩ : MethodName) jdk_42_method_154_code 1 (some .boolean) :: ws) ({ frames := 0, cells := 0, slots := 0, locals := 0 } : Room)) (fun a U => a = #[(.ref a1)] ∧ Z.Warmed39 U.vm ∧ U.heap = h0) (fun _ _ _ _ _ => True) (fun _ U o U' => ∃ v L, o = .returned v ∧ Q_lat Z a1 h0 n0 v U'.heap L ∧ FrameEnd U o U' L ({ frames := 0, cells := 0, slots := 0, locals := 0 } : Room).cells ({ frames := 0, cells := 0, slots := 0, locals := 0 } : Room).slots) := by
  refine MetFree.of_bodySF (plainFor_of_name pn_10) hisR ?_
  intro p e s m args below meth cod_ s₁ Bd hml0 hP hK
  obtain ⟨rfl, hZ, hh⟩ := hP
  have hx := Bd.exec
  have hby := Bd.bytes
  have hml : cod_.maxLocals = 1 := hml0
  have hown : s.vm.findClass "java/lang/String" = some m.cls := findClass_of_methodNamed Bd.named
  have hnm := (name_of_methodNamed Bd.named Bd.method).1
  have X0 : Stand p l e ({ frames := 0, cells := 0, slots := 0, locals := 0 } : Room) s m #[(.ref a1)] below meth cod_ s₁ [] 0 0 := Stand.of_body Bd
  have e0 : s₁.heap = h0 := by rw [← hh, Bd.state]; rfl
  have N0 := Fr.nil n0
  have pre0 : ∀ t, Steps p.tables e below (s₁.setTop (mkF m 0 #[.val (.ref a1)] [])) t → Steps p.tables e below (s₁.setTop (entryFrame m #[(.ref a1)] 1)) t := fun t k => castTop (ef_10 m a1) k
  obtain ⟨T38, X38, e38, st38⟩ := getS2 X0 hx hZ hown (host := "") (Or.inl (hw _ (List.mem_of_getElem? (i := 52) rfl))) Via.refl e0 S_COMPACT_STRINGS (g := (mkF m 0 #[.val (.ref a1)] [])) rfl (hb hby d10_0)
  have hc3 : ¬ (zc = (0 : Int32)) := hz
  obtain ⟨T39, X39, e39, st39⟩ := getF X38 hx hZ hown (host := "") (Or.inl (hw _ (List.mem_of_getElem? (i := 53) rfl))) Via.refl e38 F_c (g := (mkF m 7 #[.val (.ref a1)] [(.ref a1)])) rfl rfl (hb hby d10_7)
  have hc10 : (0 : Int32) = (0 : Int32) := rfl
  obtain ⟨fs, hr, hrun, hended, hW, hsame⟩ := X39.leave (v := some (.int (1 : Int32))) (fun h => by rw [Bd.returns] at h; cases h)
  refine ⟨_, _, pre0 _ ?_, hrun, hended, _, _, rfl, ?_, ⟨_, rfl⟩, hW, hsame.mono (by decide) (by decide)⟩
  · show Steps p.tables e below (s₁.setTop (mkF m 0 #[.val (.ref a1)] [])) _
    refine st38 _ ?_
    show Steps p.tables e below (T38.setTop (mkF m 3 #[.val (.ref a1)] [(.int zc)])) _
    refine XS.ifNo X38.here hx rfl (hb hby d10_3) rfl ((if0 _ _).trans (feq hc3).1) ?_
    show Steps p.tables e below (T38.setTop (mkF m 6 #[.val (.ref a1)] [])) _
    refine XS.aloadN X38.here hx rfl (hb hby d10_6) rfl rfl ?_
    show Steps p.tables e below (T38.setTop (mkF m 7 #[.val (.ref a1)] [(.ref a1)])) _
    refine st39 _ ?_
    show Steps p.tables e below (T39.setTop (mkF m 10 #[.val (.ref a1)] [(.int (0 : Int32))])) _
    refine XS.ifNo X39.here hx rfl (hb hby d10_10) rfl ((if0 _ _).trans (teq hc10).2) ?_
    show Steps p.tables e below (T39.setTop (mkF m 13 #[.val (.ref a1)] [])) _
    refine XS.iconst X39.here hx rfl (hb hby d10_13) ?_
    show Steps p.tables e below (T39.setTop (mkF m 14 #[.val (.ref a1)] [(.int (1 : Int32))])) _
    refine XS.goto X39.here hx rfl (pc0 := 14) (pc' := 18) rfl (hb hby d10_14) (by decide) (by decide) ?_
    show Steps p.tables e below (T39.setTop (mkF m 18 #[.val (.ref a1)] [(.int (1 : Int32))])) _
    exact retN X39 hx (t := .boolean) Bd.returns (by simp) (hb hby d10_18) hr
  · show Q_lat Z a1 h0 n0 _ T39.heap _
    rw [e39]
    exact ⟨rfl, N0, rfl⟩
theorem d9_0 : decode jdk_42_method_56_code 0 = .ok (.aload_n 0, 1) := by decide +kernel
theorem d9_1 : decode jdk_42_method_56_code 1 = .ok (.invokevirtual 492, 3) := by decide +kernel
theorem d9_4 : decode jdk_42_method_56_code 4 = .ok (.ifCond .eq 12, 3) := by decide +kernel
theorem d9_7 : decode jdk_42_method_56_code 7 = .ok (.aload_n 0, 1) := by decide +kernel
theorem d9_8 : decode jdk_42_method_56_code 8 = .ok (.getfield 9, 3) := by decide +kernel
theorem d9_11 : decode jdk_42_method_56_code 11 = .ok (.iload_n 1, 1) := by decide +kernel
theorem d9_12 : decode jdk_42_method_56_code 12 = .ok (.invokestatic 495, 3) := by decide +kernel
theorem d9_15 : decode jdk_42_method_56_code 15 = .ok (.ireturn, 1) := by decide +kernel
theorem pd__28_29Z : parseMethodDescriptor "()Z" = some ⟨[], some .boolean⟩ := by decide +kernel
theorem pd__28_5bBI_29C : parseMethodDescriptor "([BI)C" = some ⟨[(.array .byte), .int], some .char⟩ := by decide +kernel
theorem pn_9 : plainName "java/lang/String" = true := by first | (simp [plainName, overriddenIn]; done) | decide +kernel
theorem ef_9 (m : MethodId) (x0 : Addr) (x1 : Int32) : entryFrame m #[(.ref x0), (.int x1)] 2 = mkF m 0 #[.val (.ref x0), .val (.int x1)] [] := by first | (simp [entryFrame, mkF, argsToLocals, Value.category]; done) | rfl
def Q_ch (Z : State) (a1 : Addr) (p2 : Int32) (b : Int32) (h0 : Heap) (n0 : Nat) (v : Option Value) (h : Heap) (L : List Loc) : Prop := v = some (.int (nar .char (nar .char ((b &&& (255 : Int32)).toUInt32.toUInt16.toUInt32.toInt32)))) ∧ Fr n0 L ∧ h = h0
set_option maxRecDepth 65536 in
set_option maxHeartbeats 40000000 in
theorem rm_ch (l : Launch) (Z : State) (a0 : Array Value) (hw : ∀ d ∈ tables_1, d.before a0 Z = true) (ws : List Jvm.Cond) (a1 : Addr) (p2 : Int32) (b : Int32) (ta : Addr) (kk : ClassId) (zz : Int32) (vs : List Value) (fm : Value) (zc : Int32) (h0 : Heap) (n0 : Nat) (Z0 : n0 ≤ h0.size) (V_1 : Arv Z h0 ta kk .byte zz vs (.int (0 : Int32))) (u0 : ¬ p2 < 0) (u1 : p2 < zz) (hb_ : vs.getD p2.toNatClampNeg (.int (0 : Int32)) = .int b) (rf : fm.isRef = true) (S_F : Sta Z h0 "jdk/internal/util/Preconditions" "SIOOBE_FORMATTER" "Ljava/util/function/BiFunction;" fm) (S_C : Sta Z h0 "java/lang/String" "COMPACT_STRINGS" "Z" (.int zc)) (hz : ¬ zc = 0) (F_c : Fld Z h0 a1 "java/lang/String" "coder" "B" (.int (0 : Int32))) (F_v : Fld Z h0 a1 "java/lang/String" "value" "[B" (.ref ta)) (E_s : Exa Z h0 a1 "java/lang/String") :
    MetFree l (⟨"java/lang/String", "charAt", "(I)C"⟩ : MethodName) (head1 (Jvm.Cond.code (⟨"java/lang/String", "charAt", "(I)C"⟩ : MethodName) jdk_42_method_56_code 2 (some .char) :: ws) ({ frames := 3, cells := 0, slots := 0, locals := 40 } : Room)) (fun a U => a = #[(.ref a1), (.int p2)] ∧ Z.Warmed39 U.vm ∧ U.heap = h0) (fun _ _ _ _ _ => True) (fun _ U o U' => ∃ v L, o = .returned v ∧ Q_ch Z a1 p2 b h0 n0 v U'.heap L ∧ FrameEnd U o U' L ({ frames := 3, cells := 0, slots := 0, locals := 40 } : Room).cells ({ frames := 3, cells := 0, slots := 0, locals := 40 } : Room).slots) := by
  refine MetFree.of_bodySF (plainFor_of_name pn_9) hisR ?_
  intro p e s m args below meth cod_ s₁ Bd hml0 hP hK
  obtain ⟨rfl, hZ, hh⟩ := hP
  have hx := Bd.exec
  have hby := Bd.bytes
  have hml : cod_.maxLocals = 2 := hml0
  have hown : s.vm.findClass "java/lang/String" = some m.cls := findClass_of_methodNamed Bd.named
  have hnm := (name_of_methodNamed Bd.named Bd.method).1
  have X0 : Stand p l e ({ frames := 3, cells := 0, slots := 0, locals := 40 } : Room) s m #[(.ref a1), (.int p2)] below meth cod_ s₁ [] 0 0 := Stand.of_body Bd
  have e0 : s₁.heap = h0 := by rw [← hh, Bd.state]; rfl
  have N0 := Fr.nil n0
  have pre0 : ∀ t, Steps p.tables e below (s₁.setTop (mkF m 0 #[.val (.ref a1), .val (.int p2)] [])) t → Steps p.tables e below (s₁.setTop (entryFrame m #[(.ref a1), (.int p2)] 2)) t := fun t k => castTop (ef_9 m a1 p2) k
  obtain ⟨cq40, kq40, q40a, q40b, q40c⟩ := isOf hZ e0 E_s
  obtain ⟨_, _, ⟨T40, L40, c40_, n40_⟩, -, X40, ⟨Lc40, hQ40, l40, y40, z40⟩, st40⟩ := X0.virtualBack hx (y := (⟨"java/lang/String", "isLatin1", "()Z"⟩ : MethodName)) (z := (⟨"java/lang/String", "isLatin1", "()Z"⟩ : MethodName)) hown (mvT hZ (hw _ (List.mem_of_getElem? (i := 59) rfl))) (mvT hZ (hw _ (List.mem_of_getElem? (i := 60) rfl))) (notFace_of_selects (args := #[]) (mvT hZ (hw _ (List.mem_of_getElem? (i := 62) rfl)))) (mvT hZ (hw _ (List.mem_of_getElem? (i := 62) rfl))) (mvT hZ (hw _ (List.mem_of_getElem? (i := 61) rfl))) (by decide) (backOf (W := 0) (rm_lat l Z a0 hw [] a1 zc h0 n0 (Nat.le_trans Z0 (Keep.refl h0 []).1) S_C hz F_c) hZ (hw _ (List.mem_of_getElem? (i := 63) rfl)) (hw _ (List.mem_of_getElem? (i := 7) rfl)) (by decide) (by decide)) q40a q40c (g := (mkF m 1 #[.val (.ref a1), .val (.int p2)] [(.ref a1)])) rfl (by rw [hml]; rfl) (Steps.refl _) (argsL := []) (rest := []) (lenOf pd__28_29Z rfl) rfl (by show 2 * 0 + _ ≤ _; exact Nat.le_of_eq rfl) (hb hby d9_1) (fun _ _ => ⟨rfl, e0, (by decide : 0 + 0 ≤ _), (by decide : 0 + 0 ≤ _)⟩)
  dsimp only [Pt.U, Pt.locs, Pt.cells, Pt.slots] at X40 l40 y40 z40 st40 hQ40
  subst l40 y40 z40
  obtain ⟨rfl, Nq40, e40⟩ := hQ40
  have N40 := Fr.app N0 Nq40
  have hc4 : ¬ ((1 : Int32) = (0 : Int32)) := by decide
  obtain ⟨T41, X41, e41, st41⟩ := getF X40 hx hZ hown (host := "") (Or.inl (hw _ (List.mem_of_getElem? (i := 46) rfl))) Via.refl e40 F_v (g := (mkF m 8 #[.val (.ref a1), .val (.int p2)] [(.ref a1)])) rfl rfl (hb hby d9_8)
  obtain ⟨_, _, ⟨T42, L42, c42_, n42_⟩, -, X42, ⟨Lc42, hQ42, l42, y42, z42⟩, st42⟩ := Jvm.LawKit.callS X41 hx (y := (⟨"java/lang/StringLatin1", "charAt", "([BI)C"⟩ : MethodName)) hown (mvT hZ (hw _ (List.mem_of_getElem? (i := 64) rfl))) (mvT hZ (hw _ (List.mem_of_getElem? (i := 65) rfl))) (mvT hZ (hw _ (List.mem_of_getElem? (i := 66) rfl))) (mvT hZ (hw _ (List.mem_of_getElem? (i := 67) rfl))) (by decide) (backOf (W := 0) (rm_l1 l Z a0 hw [] ta p2 b kk zz vs fm h0 n0 (Nat.le_trans Z0 (Keep.refl h0 []).1) V_1 u0 u1 hb_ rf S_F) hZ (hw _ (List.mem_of_getElem? (i := 67) rfl)) (hw _ (List.mem_of_getElem? (i := 66) rfl)) (by decide) (by decide)) (g := (mkF m 12 #[.val (.ref a1), .val (.int p2)] [(.int p2), (.ref ta)])) rfl (by rw [hml]; rfl) (argsL := [(.ref ta), (.int p2)]) (rest := []) (lenOf pd__28_5bBI_29C rfl) rfl (by show 2 * 0 + _ ≤ _; exact Nat.le_of_eq rfl) (hb hby d9_12) (fun _ _ => ⟨rfl, e41, (by decide : 0 + 0 ≤ _), (by decide : 0 + 0 ≤ _)⟩)
  dsimp only [Pt.U, Pt.locs, Pt.cells, Pt.slots] at X42 l42 y42 z42 st42 hQ42
  subst l42 y42 z42
  obtain ⟨rfl, Nq42, e42⟩ := hQ42
  have N42 := Fr.app N40 Nq42
  obtain ⟨fs, hr, hrun, hended, hW, hsame⟩ := X42.leave (v := some (.int (nar .char (nar .char ((b &&& (255 : Int32)).toUInt32.toUInt16.toUInt32.toInt32))))) (fun h => by rw [Bd.returns] at h; cases h)
  refine ⟨_, _, pre0 _ ?_, hrun, hended, _, _, rfl, ?_, ⟨_, rfl⟩, hW, hsame.mono (by decide) (by decide)⟩
  · show Steps p.tables e below (s₁.setTop (mkF m 0 #[.val (.ref a1), .val (.int p2)] [])) _
    refine XS.aloadN X0.here hx rfl (hb hby d9_0) rfl rfl ?_
    show Steps p.tables e below (s₁.setTop (mkF m 1 #[.val (.ref a1), .val (.int p2)] [(.ref a1)])) _
    refine st40.trans ?_
    show Steps p.tables e below (T40.setTop (mkF m 4 #[.val (.ref a1), .val (.int p2)] [(.int (1 : Int32))])) _
    refine XS.ifNo X40.here hx rfl (hb hby d9_4) rfl ((if0 _ _).trans (feq hc4).1) ?_
    show Steps p.tables e below (T40.setTop (mkF m 7 #[.val (.ref a1), .val (.int p2)] [])) _
    refine XS.aloadN X40.here hx rfl (hb hby d9_7) rfl rfl ?_
    show Steps p.tables e below (T40.setTop (mkF m 8 #[.val (.ref a1), .val (.int p2)] [(.ref a1)])) _
    refine st41 _ ?_
    show Steps p.tables e below (T41.setTop (mkF m 11 #[.val (.ref a1), .val (.int p2)] [(.ref ta)])) _
    refine XS.iloadN X41.here hx rfl (hb hby d9_11) rfl ?_
    show Steps p.tables e below (T41.setTop (mkF m 12 #[.val (.ref a1), .val (.int p2)] [(.int p2), (.ref ta)])) _
    refine st42 _ ?_
    show Steps p.tables e below (T42.setTop (mkF m 15 #[.val (.ref a1), .val (.int p2)] [(.int (nar .char ((b &&& (255 : Int32)).toUInt32.toUInt16.toUInt32.toInt32)))])) _
    exact retN X42 hx (t := .char) Bd.returns (by simp) (hb hby d9_15) hr
  · show Q_ch Z a1 p2 b h0 n0 _ T42.heap _
    rw [e42]
    exact ⟨rfl, N42, rfl⟩
theorem d17_0 : decode jdk_22_method_1_code 0 = .ok (.aload_n 0, 1) := by decide +kernel
theorem d17_1 : decode jdk_22_method_1_code 1 = .ok (.invokespecial 1, 3) := by decide +kernel
theorem d17_4 : decode jdk_22_method_1_code 4 = .ok (.return_, 1) := by decide +kernel
theorem pn_17 : plainName "java/util/AbstractCollection" = true := by first | (simp [plainName, overriddenIn]; done) | decide +kernel
theorem ef_17 (m : MethodId) (x0 : Addr) : entryFrame m #[(.ref x0)] 1 = mkF m 0 #[.val (.ref x0)] [] := by first | (simp [entryFrame, mkF, argsToLocals, Value.category]; done) | rfl
def Q_17 (Z : State) (a1 : Addr) (h0 : Heap) (n0 : Nat) (v : Option Value) (h : Heap) (L : List Loc) : Prop := v = none ∧ Fr n0 L ∧ h = h0
set_option maxRecDepth 65536 in
set_option maxHeartbeats 40000000 in
theorem rm_17 (l : Launch) (Z : State) (a0 : Array Value) (hw : ∀ d ∈ tables_1, d.before a0 Z = true) (ws : List Jvm.Cond) (a1 : Addr) (h0 : Heap) (n0 : Nat) (Z0 : n0 ≤ h0.size) :
    MetFree l (⟨"java/util/AbstractCollection", "<init>", "()V"⟩ : MethodName) (head1 (Jvm.Cond.code (⟨"java/util/AbstractCollection", "<init>", "()V"⟩ : MethodName) jdk_22_method_1_code 1 none :: ws) ({ frames := 1, cells := 0, slots := 0, locals := 12 } : Room)) (fun a U => a = #[(.ref a1)] ∧ Z.Warmed39 U.vm ∧ U.heap = h0) (fun _ _ _ _ _ => True) (fun _ U o U' => ∃ v L, o = .returned v ∧ Q_17 Z a1 h0 n0 v U'.heap L ∧ FrameEnd U o U' L ({ frames := 1, cells := 0, slots := 0, locals := 12 } : Room).cells ({ frames := 1, cells := 0, slots := 0, locals := 12 } : Room).slots) := by
  refine MetFree.of_bodySF (plainFor_of_name pn_17) hisR ?_
  intro p e s m args below meth cod_ s₁ Bd hml0 hP hK
  obtain ⟨rfl, hZ, hh⟩ := hP
  have hx := Bd.exec
  have hby := Bd.bytes
  have hml : cod_.maxLocals = 1 := hml0
  have hown : s.vm.findClass "java/util/AbstractCollection" = some m.cls := findClass_of_methodNamed Bd.named
  have hnm := (name_of_methodNamed Bd.named Bd.method).1
  have X0 : Stand p l e ({ frames := 1, cells := 0, slots := 0, locals := 12 } : Room) s m #[(.ref a1)] below meth cod_ s₁ [] 0 0 := Stand.of_body Bd
  have e0 : s₁.heap = h0 := by rw [← hh, Bd.state]; rfl
  have N0 := Fr.nil n0
  have pre0 : ∀ t, Steps p.tables e below (s₁.setTop (mkF m 0 #[.val (.ref a1)] [])) t → Steps p.tables e below (s₁.setTop (entryFrame m #[(.ref a1)] 1)) t := fun t k => castTop (ef_17 m a1) k
  obtain ⟨T43, X43, e43, st43⟩ := initO X0 hx hZ hown (hw _ (List.mem_of_getElem? (i := 99) rfl)) (hw _ (List.mem_of_getElem? (i := 23) rfl)) (hw _ (List.mem_of_getElem? (i := 24) rfl)) e0 (g := (mkF m 1 #[.val (.ref a1)] [(.ref a1)])) rfl (by rw [hml]; rfl) rfl (hb hby d17_1) (by decide) (W := 0) (by show 2 * 0 + _ ≤ _; exact Nat.le_of_eq rfl) (by decide)
  obtain ⟨fs, hr, hrun, hended, hW, hsame⟩ := X43.leave (v := none) (fun _ => rfl)
  refine ⟨_, _, pre0 _ ?_, hrun, hended, _, _, rfl, ?_, ⟨_, rfl⟩, hW, hsame.mono (by decide) (by decide)⟩
  · show Steps p.tables e below (s₁.setTop (mkF m 0 #[.val (.ref a1)] [])) _
    refine XS.aloadN X0.here hx rfl (hb hby d17_0) rfl rfl ?_
    show Steps p.tables e below (s₁.setTop (mkF m 1 #[.val (.ref a1)] [(.ref a1)])) _
    refine st43 _ ?_
    show Steps p.tables e below (T43.setTop (mkF m 4 #[.val (.ref a1)] [])) _
    exact X43.returnOut hx Bd.returns (hb hby d17_4) hr
  · show Q_17 Z a1 h0 n0 _ T43.heap _
    rw [e43]
    exact ⟨rfl, N0, rfl⟩
theorem d16_0 : decode jdk_39_method_1_code 0 = .ok (.aload_n 0, 1) := by decide +kernel
theorem d16_1 : decode jdk_39_method_1_code 1 = .ok (.invokespecial 1, 3) := by decide +kernel
theorem d16_4 : decode jdk_39_method_1_code 4 = .ok (.aload_n 0, 1) := by decide +kernel
theorem d16_5 : decode jdk_39_method_1_code 5 = .ok (.iconst 0, 1) := by decide +kernel
theorem d16_6 : decode jdk_39_method_1_code 6 = .ok (.putfield 7, 3) := by decide +kernel
theorem d16_9 : decode jdk_39_method_1_code 9 = .ok (.return_, 1) := by decide +kernel
theorem pn_16 : plainName "java/util/AbstractList" = true := by first | (simp [plainName, overriddenIn]; done) | decide +kernel
theorem ef_16 (m : MethodId) (x0 : Addr) : entryFrame m #[(.ref x0)] 1 = mkF m 0 #[.val (.ref x0)] [] := by first | (simp [entryFrame, mkF, argsToLocals, Value.category]; done) | rfl
def Q_16 (Z : State) (a1 : Addr) (h0 : Heap) (n0 : Nat) (v : Option Value) (h : Heap) (L : List Loc) : Prop := v = none ∧ Fr n0 L ∧ Keep h0 h [a1] ∧ Exa Z h a1 "java/util/ArrayList" ∧ Fld Z h a1 "java/util/AbstractList" "modCount" "I" (.int (0 : Int32)) ∧ Fld Z h a1 "java/util/ArrayList" "elementData" "[Ljava/lang/Object;" .null ∧ Fld Z h a1 "java/util/ArrayList" "size" "I" (.int (0 : Int32))
set_option maxRecDepth 65536 in
set_option maxHeartbeats 40000000 in
theorem rm_16 (l : Launch) (Z : State) (a0 : Array Value) (hw : ∀ d ∈ tables_1, d.before a0 Z = true) (ws : List Jvm.Cond) (a1 : Addr) (h0 : Heap) (n0 : Nat) (Z0 : n0 ≤ h0.size) (E_a1 : Exa Z h0 a1 "java/util/ArrayList") (g_a1 : n0 ≤ a1) (F_modCount : Fld Z h0 a1 "java/util/AbstractList" "modCount" "I" (.int (0 : Int32))) (F_elementData : Fld Z h0 a1 "java/util/ArrayList" "elementData" "[Ljava/lang/Object;" .null) (F_size : Fld Z h0 a1 "java/util/ArrayList" "size" "I" (.int (0 : Int32))) :
    MetFree l (⟨"java/util/AbstractList", "<init>", "()V"⟩ : MethodName) (head1 (Jvm.Cond.code (⟨"java/util/AbstractList", "<init>", "()V"⟩ : MethodName) jdk_39_method_1_code 1 none :: ws) ({ frames := 2, cells := 0, slots := 0, locals := 24 } : Room)) (fun a U => a = #[(.ref a1)] ∧ Z.Warmed39 U.vm ∧ U.heap = h0) (fun _ _ _ _ _ => True) (fun _ U o U' => ∃ v L, o = .returned v ∧ Q_16 Z a1 h0 n0 v U'.heap L ∧ FrameEnd U o U' L ({ frames := 2, cells := 0, slots := 0, locals := 24 } : Room).cells ({ frames := 2, cells := 0, slots := 0, locals := 24 } : Room).slots) := by
  refine MetFree.of_bodySF (plainFor_of_name pn_16) hisR ?_
  intro p e s m args below meth cod_ s₁ Bd hml0 hP hK
  obtain ⟨rfl, hZ, hh⟩ := hP
  have hx := Bd.exec
  have hby := Bd.bytes
  have hml : cod_.maxLocals = 1 := hml0
  have hown : s.vm.findClass "java/util/AbstractList" = some m.cls := findClass_of_methodNamed Bd.named
  have hnm := (name_of_methodNamed Bd.named Bd.method).1
  have X0 : Stand p l e ({ frames := 2, cells := 0, slots := 0, locals := 24 } : Room) s m #[(.ref a1)] below meth cod_ s₁ [] 0 0 := Stand.of_body Bd
  have e0 : s₁.heap = h0 := by rw [← hh, Bd.state]; rfl
  have N0 := Fr.nil n0
  have pre0 : ∀ t, Steps p.tables e below (s₁.setTop (mkF m 0 #[.val (.ref a1)] [])) t → Steps p.tables e below (s₁.setTop (entryFrame m #[(.ref a1)] 1)) t := fun t k => castTop (ef_16 m a1) k
  obtain ⟨_, _, ⟨T44, L44, c44_, n44_⟩, -, X44, ⟨Lc44, hQ44, l44, y44, z44⟩, st44⟩ := X0.specialBack hx (y := (⟨"java/util/AbstractCollection", "<init>", "()V"⟩ : MethodName)) rfl hown (mvT hZ (hw _ (List.mem_of_getElem? (i := 93) rfl))) (mvT hZ (hw _ (List.mem_of_getElem? (i := 94) rfl))) (mvT hZ (hw _ (List.mem_of_getElem? (i := 98) rfl))) (by decide) (backOf (W := 0) (rm_17 l Z a0 hw [] a1 h0 n0 (Nat.le_trans Z0 (Keep.refl h0 [a1]).1) ) hZ (hw _ (List.mem_of_getElem? (i := 98) rfl)) (hw _ (List.mem_of_getElem? (i := 97) rfl)) (by decide) (by decide)) (g := (mkF m 1 #[.val (.ref a1)] [(.ref a1)])) rfl (by rw [hml]; rfl) (Steps.refl _) (a := a1) (argsL := []) (rest := []) (lenOf pd__28_29V rfl) rfl (by show 2 * 0 + _ ≤ _; exact Nat.le_of_eq rfl) (hb hby d16_1) (fun _ _ => ⟨rfl, e0, (by decide : 0 + 0 ≤ _), (by decide : 0 + 0 ≤ _)⟩)
  dsimp only [Pt.U, Pt.locs, Pt.cells, Pt.slots] at X44 l44 y44 z44 st44 hQ44
  subst l44 y44 z44
  obtain ⟨rfl, Nq44, e44⟩ := hQ44
  have N44 := Fr.app N0 Nq44
  obtain ⟨T45, h45, X45, e45, W45, st45⟩ := putF X44 hx hZ hown (host := "") (Or.inl (hw _ (List.mem_of_getElem? (i := 100) rfl))) Via.refl e44 F_modCount E_a1 (Or.inl (hw _ (List.mem_of_getElem? (i := 101) rfl))) (hw _ (List.mem_of_getElem? (i := 82) rfl)) (ty := .int) (by decide) rfl rfl (g := (mkF m 6 #[.val (.ref a1)] [(.int (0 : Int32)), (.ref a1)])) rfl rfl (hb hby d16_6)
  have Fw45 : Fld Z h45 a1 "java/util/AbstractList" "modCount" "I" (.int (0 : Int32)) := F_modCount.same W45
  have N45 := Fr.snoc X45 N44 g_a1
  have Kh45 : Keep h0 h45 [a1] := (Keep.refl h0 [a1]).wr W45 (Or.inl (List.mem_of_getElem? (i := 0) rfl))
  obtain ⟨fs, hr, hrun, hended, hW, hsame⟩ := X45.leave (v := none) (fun _ => rfl)
  refine ⟨_, _, pre0 _ ?_, hrun, hended, _, _, rfl, ?_, ⟨_, rfl⟩, hW, hsame.mono (by decide) (by decide)⟩
  · show Steps p.tables e below (s₁.setTop (mkF m 0 #[.val (.ref a1)] [])) _
    refine XS.aloadN X0.here hx rfl (hb hby d16_0) rfl rfl ?_
    show Steps p.tables e below (s₁.setTop (mkF m 1 #[.val (.ref a1)] [(.ref a1)])) _
    refine st44.trans ?_
    show Steps p.tables e below (T44.setTop (mkF m 4 #[.val (.ref a1)] [])) _
    refine XS.aloadN X44.here hx rfl (hb hby d16_4) rfl rfl ?_
    show Steps p.tables e below (T44.setTop (mkF m 5 #[.val (.ref a1)] [(.ref a1)])) _
    refine XS.iconst X44.here hx rfl (hb hby d16_5) ?_
    show Steps p.tables e below (T44.setTop (mkF m 6 #[.val (.ref a1)] [(.int (0 : Int32)), (.ref a1)])) _
    refine st45 _ ?_
    show Steps p.tables e below (T45.setTop (mkF m 9 #[.val (.ref a1)] [])) _
    exact X45.returnOut hx Bd.returns (hb hby d16_9) hr
  · show Q_16 Z a1 h0 n0 _ T45.heap _
    rw [e45]
    exact ⟨rfl, N45, Kh45, (E_a1.wr W45), Fw45, (F_elementData.other W45 (Or.inr (slot_ne (Or.inl (hw _ (List.mem_of_getElem? (i := 104) rfl))) (Or.inl (hw _ (List.mem_of_getElem? (i := 101) rfl))) (by decide) (t := (.array (.object "java/lang/Object"))) (t' := .int) (by decide) (by decide)))), (F_size.other W45 (Or.inr (slot_ne (Or.inl (hw _ (List.mem_of_getElem? (i := 134) rfl))) (Or.inl (hw _ (List.mem_of_getElem? (i := 101) rfl))) (by decide) (t := .int) (t' := .int) (by decide) (by decide))))⟩
theorem d15_0 : decode jdk_38_method_2_code 0 = .ok (.aload_n 0, 1) := by decide +kernel
theorem d15_1 : decode jdk_38_method_2_code 1 = .ok (.invokespecial 1, 3) := by decide +kernel
theorem d15_4 : decode jdk_38_method_2_code 4 = .ok (.aload_n 0, 1) := by decide +kernel
theorem d15_5 : decode jdk_38_method_2_code 5 = .ok (.getstatic 39, 3) := by decide +kernel
theorem d15_8 : decode jdk_38_method_2_code 8 = .ok (.putfield 9, 3) := by decide +kernel
theorem d15_11 : decode jdk_38_method_2_code 11 = .ok (.return_, 1) := by decide +kernel
theorem pn_15 : plainName "java/util/ArrayList" = true := by first | (simp [plainName, overriddenIn]; done) | decide +kernel
theorem ef_15 (m : MethodId) (x0 : Addr) : entryFrame m #[(.ref x0)] 1 = mkF m 0 #[.val (.ref x0)] [] := by first | (simp [entryFrame, mkF, argsToLocals, Value.category]; done) | rfl
def Q_15 (Z : State) (a1 : Addr) (dc : Addr) (h0 : Heap) (n0 : Nat) (v : Option Value) (h : Heap) (L : List Loc) : Prop := v = none ∧ Fr n0 L ∧ Keep h0 h [a1] ∧ Exa Z h a1 "java/util/ArrayList" ∧ Fld Z h a1 "java/util/AbstractList" "modCount" "I" (.int (0 : Int32)) ∧ Fld Z h a1 "java/util/ArrayList" "elementData" "[Ljava/lang/Object;" (.ref dc) ∧ Fld Z h a1 "java/util/ArrayList" "size" "I" (.int (0 : Int32))
set_option maxRecDepth 65536 in
set_option maxHeartbeats 40000000 in
theorem rm_15 (l : Launch) (Z : State) (a0 : Array Value) (hw : ∀ d ∈ tables_1, d.before a0 Z = true) (ws : List Jvm.Cond) (a1 : Addr) (dc : Addr) (h0 : Heap) (n0 : Nat) (Z0 : n0 ≤ h0.size) (E_a1 : Exa Z h0 a1 "java/util/ArrayList") (g_a1 : n0 ≤ a1) (F_modCount : Fld Z h0 a1 "java/util/AbstractList" "modCount" "I" (.int (0 : Int32))) (F_elementData : Fld Z h0 a1 "java/util/ArrayList" "elementData" "[Ljava/lang/Object;" .null) (F_size : Fld Z h0 a1 "java/util/ArrayList" "size" "I" (.int (0 : Int32))) (S_DEFAULTCAPACITY_EMPTY_ELEMENTDATA : Sta Z Z.heap "java/util/ArrayList" "DEFAULTCAPACITY_EMPTY_ELEMENTDATA" "[Ljava/lang/Object;" (.ref dc)) (X00 : Old Z n0 h0) :
    MetFree l (⟨"java/util/ArrayList", "<init>", "()V"⟩ : MethodName) (head1 (Jvm.Cond.code (⟨"java/util/ArrayList", "<init>", "()V"⟩ : MethodName) jdk_38_method_2_code 1 none :: ws) ({ frames := 3, cells := 0, slots := 0, locals := 36 } : Room)) (fun a U => a = #[(.ref a1)] ∧ Z.Warmed39 U.vm ∧ U.heap = h0) (fun _ _ _ _ _ => True) (fun _ U o U' => ∃ v L, o = .returned v ∧ Q_15 Z a1 dc h0 n0 v U'.heap L ∧ FrameEnd U o U' L ({ frames := 3, cells := 0, slots := 0, locals := 36 } : Room).cells ({ frames := 3, cells := 0, slots := 0, locals := 36 } : Room).slots) := by
  refine MetFree.of_bodySF (plainFor_of_name pn_15) hisR ?_
  intro p e s m args below meth cod_ s₁ Bd hml0 hP hK
  obtain ⟨rfl, hZ, hh⟩ := hP
  have hx := Bd.exec
  have hby := Bd.bytes
  have hml : cod_.maxLocals = 1 := hml0
  have hown : s.vm.findClass "java/util/ArrayList" = some m.cls := findClass_of_methodNamed Bd.named
  have hnm := (name_of_methodNamed Bd.named Bd.method).1
  have X0 : Stand p l e ({ frames := 3, cells := 0, slots := 0, locals := 36 } : Room) s m #[(.ref a1)] below meth cod_ s₁ [] 0 0 := Stand.of_body Bd
  have e0 : s₁.heap = h0 := by rw [← hh, Bd.state]; rfl
  have N0 := Fr.nil n0
  have pre0 : ∀ t, Steps p.tables e below (s₁.setTop (mkF m 0 #[.val (.ref a1)] [])) t → Steps p.tables e below (s₁.setTop (entryFrame m #[(.ref a1)] 1)) t := fun t k => castTop (ef_15 m a1) k
  obtain ⟨_, _, ⟨T46, L46, c46_, n46_⟩, -, X46, ⟨Lc46, hQ46, l46, y46, z46⟩, st46⟩ := X0.specialBack hx (y := (⟨"java/util/AbstractList", "<init>", "()V"⟩ : MethodName)) rfl hown (mvT hZ (hw _ (List.mem_of_getElem? (i := 87) rfl))) (mvT hZ (hw _ (List.mem_of_getElem? (i := 88) rfl))) (mvT hZ (hw _ (List.mem_of_getElem? (i := 92) rfl))) (by decide) (backOf (W := 0) (rm_16 l Z a0 hw [] a1 h0 n0 (Nat.le_trans Z0 (Keep.refl h0 [a1]).1) E_a1 g_a1 F_modCount F_elementData F_size) hZ (hw _ (List.mem_of_getElem? (i := 92) rfl)) (hw _ (List.mem_of_getElem? (i := 91) rfl)) (by decide) (by decide)) (g := (mkF m 1 #[.val (.ref a1)] [(.ref a1)])) rfl (by rw [hml]; rfl) (Steps.refl _) (a := a1) (argsL := []) (rest := []) (lenOf pd__28_29V rfl) rfl (by show 2 * 0 + _ ≤ _; exact Nat.le_of_eq rfl) (hb hby d15_1) (fun _ _ => ⟨rfl, e0, (by decide : 0 + 0 ≤ _), (by decide : 0 + 0 ≤ _)⟩)
  dsimp only [Pt.U, Pt.locs, Pt.cells, Pt.slots] at X46 l46 y46 z46 st46 hQ46
  subst l46 y46 z46
  obtain ⟨rfl, Nq46, K46, Ee46, Fa46, Fb46, Fc46⟩ := hQ46
  have N46 := Fr.app N0 Nq46
  have Kh46 : Keep h0 T46.heap [a1] := (Keep.refl h0 [a1]).trans K46 (allS (Or.inl (List.mem_of_getElem? (i := 0) rfl)) all0)
  obtain ⟨T47, X47, e47, st47⟩ := getS2 X46 hx hZ hown (host := "") (Or.inl (hw _ (List.mem_of_getElem? (i := 102) rfl))) Via.refl rfl (S_DEFAULTCAPACITY_EMPTY_ELEMENTDATA.ext (X00.keep K46 (allS g_a1 all0)).2) (g := (mkF m 5 #[.val (.ref a1)] [(.ref a1)])) rfl (hb hby d15_5)
  obtain ⟨T48, h48, X48, e48, W48, st48⟩ := putF X47 hx hZ hown (host := "") (Or.inl (hw _ (List.mem_of_getElem? (i := 103) rfl))) Via.refl e47 Fb46 Ee46 (Or.inl (hw _ (List.mem_of_getElem? (i := 104) rfl))) (hw _ (List.mem_of_getElem? (i := 82) rfl)) (ty := (.array (.object "java/lang/Object"))) (by decide) rfl rfl (g := (mkF m 8 #[.val (.ref a1)] [(.ref dc), (.ref a1)])) rfl rfl (hb hby d15_8)
  have Fw48 : Fld Z h48 a1 "java/util/ArrayList" "elementData" "[Ljava/lang/Object;" (.ref dc) := Fb46.same W48
  have N48 := Fr.snoc X48 N46 g_a1
  have Kh48 : Keep h0 h48 [a1] := Kh46.wr W48 (Or.inl (List.mem_of_getElem? (i := 0) rfl))
  obtain ⟨fs, hr, hrun, hended, hW, hsame⟩ := X48.leave (v := none) (fun _ => rfl)
  refine ⟨_, _, pre0 _ ?_, hrun, hended, _, _, rfl, ?_, ⟨_, rfl⟩, hW, hsame.mono (by decide) (by decide)⟩
  · show Steps p.tables e below (s₁.setTop (mkF m 0 #[.val (.ref a1)] [])) _
    refine XS.aloadN X0.here hx rfl (hb hby d15_0) rfl rfl ?_
    show Steps p.tables e below (s₁.setTop (mkF m 1 #[.val (.ref a1)] [(.ref a1)])) _
    refine st46.trans ?_
    show Steps p.tables e below (T46.setTop (mkF m 4 #[.val (.ref a1)] [])) _
    refine XS.aloadN X46.here hx rfl (hb hby d15_4) rfl rfl ?_
    show Steps p.tables e below (T46.setTop (mkF m 5 #[.val (.ref a1)] [(.ref a1)])) _
    refine st47 _ ?_
    show Steps p.tables e below (T47.setTop (mkF m 8 #[.val (.ref a1)] [(.ref dc), (.ref a1)])) _
    refine st48 _ ?_
    show Steps p.tables e below (T48.setTop (mkF m 11 #[.val (.ref a1)] [])) _
    exact X48.returnOut hx Bd.returns (hb hby d15_11) hr
  · show Q_15 Z a1 dc h0 n0 _ T48.heap _
    rw [e48]
    exact ⟨rfl, N48, Kh48, (Ee46.wr W48), (Fa46.other W48 (Or.inr (slot_ne (Or.inl (hw _ (List.mem_of_getElem? (i := 101) rfl))) (Or.inl (hw _ (List.mem_of_getElem? (i := 104) rfl))) (by decide) (t := .int) (t' := (.array (.object "java/lang/Object"))) (by decide) (by decide)))), Fw48, (Fc46.other W48 (Or.inr (slot_ne (Or.inl (hw _ (List.mem_of_getElem? (i := 134) rfl))) (Or.inl (hw _ (List.mem_of_getElem? (i := 104) rfl))) (by decide) (t := .int) (t' := (.array (.object "java/lang/Object"))) (by decide) (by decide))))⟩
theorem d25_0 : decode jdk_29_method_65_code 0 = .ok (.iload_n 0, 1) := by decide +kernel
theorem d25_1 : decode jdk_29_method_65_code 1 = .ok (.iload_n 1, 1) := by decide +kernel
theorem d25_2 : decode jdk_29_method_65_code 2 = .ok (.if_icmp .lt 7, 3) := by decide +kernel
theorem d25_5 : decode jdk_29_method_65_code 5 = .ok (.iload_n 0, 1) := by decide +kernel
theorem d25_6 : decode jdk_29_method_65_code 6 = .ok (.goto 4, 3) := by decide +kernel
theorem d25_10 : decode jdk_29_method_65_code 10 = .ok (.ireturn, 1) := by decide +kernel
theorem ef_25l0l1 (m : MethodId)  : entryFrame m #[(.int (10 : Int32)), (.int (1 : Int32))] 2 = mkF m 0 #[.val (.int (10 : Int32)), .val (.int (1 : Int32))] [] := by first | (simp [entryFrame, mkF, argsToLocals, Value.category]; done) | rfl
def Q_25 (Z : State)  (h0 : Heap) (n0 : Nat) (v : Option Value) (h : Heap) (L : List Loc) : Prop := v = some (.int (10 : Int32)) ∧ Fr n0 L ∧ h = h0
set_option maxRecDepth 65536 in
set_option maxHeartbeats 40000000 in
theorem rm_25 (l : Launch) (Z : State) (a0 : Array Value) (hw : ∀ d ∈ tables_1, d.before a0 Z = true) (ws : List Jvm.Cond)  (h0 : Heap) (n0 : Nat) (Z0 : n0 ≤ h0.size) :
    MetFree l (⟨"java/lang/Math", "max", "(II)I"⟩ : MethodName) (head1 (Jvm.Cond.code (⟨"java/lang/Math", "max", "(II)I"⟩ : MethodName) jdk_29_method_65_code 2 (some .int) :: ws) ({ frames := 0, cells := 0, slots := 0, locals := 0 } : Room)) (fun a U => a = #[(.int (10 : Int32)), (.int (1 : Int32))] ∧ Z.Warmed39 U.vm ∧ U.heap = h0) (fun _ _ _ _ _ => True) (fun _ U o U' => ∃ v L, o = .returned v ∧ Q_25 Z  h0 n0 v U'.heap L ∧ FrameEnd U o U' L ({ frames := 0, cells := 0, slots := 0, locals := 0 } : Room).cells ({ frames := 0, cells := 0, slots := 0, locals := 0 } : Room).slots) := by
  refine MetFree.of_bodySF (Jvm.Free.JP.mathPlain rfl (by decide +kernel)) hisR ?_
  intro p e s m args below meth cod_ s₁ Bd hml0 hP hK
  obtain ⟨rfl, hZ, hh⟩ := hP
  have hx := Bd.exec
  have hby := Bd.bytes
  have hml : cod_.maxLocals = 2 := hml0
  have hown : s.vm.findClass "java/lang/Math" = some m.cls := findClass_of_methodNamed Bd.named
  have hnm := (name_of_methodNamed Bd.named Bd.method).1
  have X0 : Stand p l e ({ frames := 0, cells := 0, slots := 0, locals := 0 } : Room) s m #[(.int (10 : Int32)), (.int (1 : Int32))] below meth cod_ s₁ [] 0 0 := Stand.of_body Bd
  have e0 : s₁.heap = h0 := by rw [← hh, Bd.state]; rfl
  have N0 := Fr.nil n0
  have pre0 : ∀ t, Steps p.tables e below (s₁.setTop (mkF m 0 #[.val (.int (10 : Int32)), .val (.int (1 : Int32))] [])) t → Steps p.tables e below (s₁.setTop (entryFrame m #[(.int (10 : Int32)), (.int (1 : Int32))] 2)) t := fun t k => castTop (ef_25l0l1 m ) k
  have hc2 : ¬ ((10 : Int32) < (1 : Int32)) := by decide
  obtain ⟨fs, hr, hrun, hended, hW, hsame⟩ := X0.leave (v := some (.int (10 : Int32))) (fun h => by rw [Bd.returns] at h; cases h)
  refine ⟨_, _, pre0 _ ?_, hrun, hended, _, _, rfl, ?_, ⟨_, rfl⟩, hW, hsame.mono (by decide) (by decide)⟩
  · show Steps p.tables e below (s₁.setTop (mkF m 0 #[.val (.int (10 : Int32)), .val (.int (1 : Int32))] [])) _
    refine XS.iloadN X0.here hx rfl (hb hby d25_0) rfl ?_
    show Steps p.tables e below (s₁.setTop (mkF m 1 #[.val (.int (10 : Int32)), .val (.int (1 : Int32))] [(.int (10 : Int32))])) _
    refine XS.iloadN X0.here hx rfl (hb hby d25_1) rfl ?_
    show Steps p.tables e below (s₁.setTop (mkF m 2 #[.val (.int (10 : Int32)), .val (.int (1 : Int32))] [(.int (1 : Int32)), (.int (10 : Int32))])) _
    refine XS.icmpNo X0.here hx rfl (hb hby d25_2) rfl (flt hc2).1 ?_
    show Steps p.tables e below (s₁.setTop (mkF m 5 #[.val (.int (10 : Int32)), .val (.int (1 : Int32))] [])) _
    refine XS.iloadN X0.here hx rfl (hb hby d25_5) rfl ?_
    show Steps p.tables e below (s₁.setTop (mkF m 6 #[.val (.int (10 : Int32)), .val (.int (1 : Int32))] [(.int (10 : Int32))])) _
    refine XS.goto X0.here hx rfl (pc0 := 6) (pc' := 10) rfl (hb hby d25_6) (by decide) (by decide) ?_
    show Steps p.tables e below (s₁.setTop (mkF m 10 #[.val (.int (10 : Int32)), .val (.int (1 : Int32))] [(.int (10 : Int32))])) _
    exact retI X0 hx Bd.returns (hb hby d25_10) hr
  · show Q_25 Z h0 n0 _ s₁.heap _
    rw [e0]
    exact ⟨rfl, N0, rfl⟩
theorem d24_0 : decode jdk_38_method_6_code 0 = .ok (.aload_n 0, 1) := by decide +kernel
theorem d24_1 : decode jdk_38_method_6_code 1 = .ok (.getfield 9, 3) := by decide +kernel
theorem d24_4 : decode jdk_38_method_6_code 4 = .ok (.arraylength, 1) := by decide +kernel
theorem d24_5 : decode jdk_38_method_6_code 5 = .ok (.istore_n 2, 1) := by decide +kernel
theorem d24_6 : decode jdk_38_method_6_code 6 = .ok (.iload_n 2, 1) := by decide +kernel
theorem d24_7 : decode jdk_38_method_6_code 7 = .ok (.ifCond .gt 13, 3) := by decide +kernel
theorem d24_10 : decode jdk_38_method_6_code 10 = .ok (.aload_n 0, 1) := by decide +kernel
theorem d24_11 : decode jdk_38_method_6_code 11 = .ok (.getfield 9, 3) := by decide +kernel
theorem d24_14 : decode jdk_38_method_6_code 14 = .ok (.getstatic 39, 3) := by decide +kernel
theorem d24_17 : decode jdk_38_method_6_code 17 = .ok (.if_acmp .eq 28, 3) := by decide +kernel
theorem d24_45 : decode jdk_38_method_6_code 45 = .ok (.aload_n 0, 1) := by decide +kernel
theorem d24_46 : decode jdk_38_method_6_code 46 = .ok (.bipush 10, 2) := by decide +kernel
theorem d24_48 : decode jdk_38_method_6_code 48 = .ok (.iload_n 1, 1) := by decide +kernel
theorem d24_49 : decode jdk_38_method_6_code 49 = .ok (.invokestatic 79, 3) := by decide +kernel
theorem d24_52 : decode jdk_38_method_6_code 52 = .ok (.anewarray 7, 3) := by decide +kernel
theorem d24_55 : decode jdk_38_method_6_code 55 = .ok (.dup_x1, 1) := by decide +kernel
theorem d24_56 : decode jdk_38_method_6_code 56 = .ok (.putfield 9, 3) := by decide +kernel
theorem d24_59 : decode jdk_38_method_6_code 59 = .ok (.areturn, 1) := by decide +kernel
theorem pd__28II_29I : parseMethodDescriptor "(II)I" = some ⟨[.int, .int], some .int⟩ := by decide +kernel
theorem pn_24 : plainName "java/util/ArrayList" = true := by first | (simp [plainName, overriddenIn]; done) | decide +kernel
theorem ef_24l1 (m : MethodId) (x0 : Addr) : entryFrame m #[(.ref x0), (.int (1 : Int32))] 4 = mkF m 0 #[.val (.ref x0), .val (.int (1 : Int32)), .unset, .unset] [] := by first | (simp [entryFrame, mkF, argsToLocals, Value.category]; done) | rfl
def Q_24 (Z : State) (a1 : Addr) (h0 : Heap) (n0 : Nat) (v : Option Value) (h : Heap) (L : List Loc) : Prop := v = some (.ref h0.size) ∧ Fr n0 L ∧ Keep h0 h [a1] ∧ Exa Z h a1 "java/util/ArrayList" ∧ Fld Z h a1 "java/util/ArrayList" "size" "I" (.int (0 : Int32)) ∧ ∃ ko : ClassId, Arv Z h h0.size ko (.object "java/lang/Object") (10 : Int32) [.null, .null, .null, .null, .null, .null, .null, .null, .null, .null] .null ∧ Ovr Z ko "java/lang/Object"
set_option maxRecDepth 65536 in
set_option maxHeartbeats 40000000 in
theorem rm_24 (l : Launch) (Z : State) (a0 : Array Value) (hw : ∀ d ∈ tables_1, d.before a0 Z = true) (ws : List Jvm.Cond) (a1 : Addr) (dc : Addr) (kd : ClassId) (h0 : Heap) (n0 : Nat) (Z0 : n0 ≤ h0.size) (E_a1 : Exa Z h0 a1 "java/util/ArrayList") (g_a1 : n0 ≤ a1) (F_elementData : Fld Z h0 a1 "java/util/ArrayList" "elementData" "[Ljava/lang/Object;" (.ref dc)) (F_size : Fld Z h0 a1 "java/util/ArrayList" "size" "I" (.int (0 : Int32))) (S_DEFAULTCAPACITY_EMPTY_ELEMENTDATA : Sta Z Z.heap "java/util/ArrayList" "DEFAULTCAPACITY_EMPTY_ELEMENTDATA" "[Ljava/lang/Object;" (.ref dc)) (X00 : Old Z n0 h0) (V_d : Arv Z h0 dc kd (.object "java/lang/Object") (0 : Int32) [] .null) :
    MetFree l (⟨"java/util/ArrayList", "grow", "(I)[Ljava/lang/Object;"⟩ : MethodName) (head1 (Jvm.Cond.code (⟨"java/util/ArrayList", "grow", "(I)[Ljava/lang/Object;"⟩ : MethodName) jdk_38_method_6_code 4 (some (.array (.object "java/lang/Object"))) :: ws) ({ frames := 1, cells := 1, slots := 10, locals := 14 } : Room)) (fun a U => a = #[(.ref a1), (.int (1 : Int32))] ∧ Z.Warmed39 U.vm ∧ U.heap = h0) (fun _ _ _ _ _ => True) (fun _ U o U' => ∃ v L, o = .returned v ∧ Q_24 Z a1 h0 n0 v U'.heap L ∧ FrameEnd U o U' L ({ frames := 1, cells := 1, slots := 10, locals := 14 } : Room).cells ({ frames := 1, cells := 1, slots := 10, locals := 14 } : Room).slots) := by
  refine MetFree.of_bodySF (plainFor_of_name pn_24) hisR ?_
  intro p e s m args below meth cod_ s₁ Bd hml0 hP hK
  obtain ⟨rfl, hZ, hh⟩ := hP
  have hx := Bd.exec
  have hby := Bd.bytes
  have hml : cod_.maxLocals = 4 := hml0
  have hown : s.vm.findClass "java/util/ArrayList" = some m.cls := findClass_of_methodNamed Bd.named
  have hnm := (name_of_methodNamed Bd.named Bd.method).1
  have X0 : Stand p l e ({ frames := 1, cells := 1, slots := 10, locals := 14 } : Room) s m #[(.ref a1), (.int (1 : Int32))] below meth cod_ s₁ [] 0 0 := Stand.of_body Bd
  have e0 : s₁.heap = h0 := by rw [← hh, Bd.state]; rfl
  have N0 := Fr.nil n0
  have pre0 : ∀ t, Steps p.tables e below (s₁.setTop (mkF m 0 #[.val (.ref a1), .val (.int (1 : Int32)), .unset, .unset] [])) t → Steps p.tables e below (s₁.setTop (entryFrame m #[(.ref a1), (.int (1 : Int32))] 4)) t := fun t k => castTop (ef_24l1 m a1) k
  have nd : dc ≠ a1 := Ne.symm (Exa.neArv E_a1 V_d (hw _ (List.mem_of_getElem? (i := 82) rfl)))
  obtain ⟨T49, X49, e49, st49⟩ := getF X0 hx hZ hown (host := "") (Or.inl (hw _ (List.mem_of_getElem? (i := 103) rfl))) Via.refl e0 F_elementData (g := (mkF m 1 #[.val (.ref a1), .val (.int (1 : Int32)), .unset, .unset] [(.ref a1)])) rfl rfl (hb hby d24_1)
  obtain ⟨cl50, Ar50, -, S50, M50, -, -⟩ := id (V_d)
  have hc7 : ¬ ((0 : Int32) < (0 : Int32)) := by decide
  obtain ⟨T51, X51, e51, st51⟩ := getF X49 hx hZ hown (host := "") (Or.inl (hw _ (List.mem_of_getElem? (i := 103) rfl))) Via.refl e49 F_elementData (g := (mkF m 11 #[.val (.ref a1), .val (.int (1 : Int32)), .val (.int (0 : Int32)), .unset] [(.ref a1)])) rfl rfl (hb hby d24_11)
  obtain ⟨T52, X52, e52, st52⟩ := getS2 X51 hx hZ hown (host := "") (Or.inl (hw _ (List.mem_of_getElem? (i := 102) rfl))) Via.refl e51 (S_DEFAULTCAPACITY_EMPTY_ELEMENTDATA.ext X00.2) (g := (mkF m 14 #[.val (.ref a1), .val (.int (1 : Int32)), .val (.int (0 : Int32)), .unset] [(.ref dc)])) rfl (hb hby d24_14)
  obtain ⟨_, _, ⟨T53, L53, c53_, n53_⟩, -, X53, ⟨Lc53, hQ53, l53, y53, z53⟩, st53⟩ := Jvm.LawKit.callS X52 hx (y := (⟨"java/lang/Math", "max", "(II)I"⟩ : MethodName)) hown (mvT hZ (hw _ (List.mem_of_getElem? (i := 150) rfl))) (mvT hZ (hw _ (List.mem_of_getElem? (i := 151) rfl))) (mvT hZ (hw _ (List.mem_of_getElem? (i := 152) rfl))) (mvT hZ (hw _ (List.mem_of_getElem? (i := 153) rfl))) (by decide) (backOf (W := 1) (rm_25 l Z a0 hw []  h0 n0 (Nat.le_trans Z0 (Keep.refl h0 [a1]).1) ) hZ (hw _ (List.mem_of_getElem? (i := 153) rfl)) (hw _ (List.mem_of_getElem? (i := 152) rfl)) (by decide) (by decide)) (g := (mkF m 49 #[.val (.ref a1), .val (.int (1 : Int32)), .val (.int (0 : Int32)), .unset] [(.int (1 : Int32)), (.int (10 : Int32)), (.ref a1)])) rfl (by rw [hml]; rfl) (argsL := [(.int (10 : Int32)), (.int (1 : Int32))]) (rest := [(.ref a1)]) (lenOf pd__28II_29I rfl) rfl (by show 2 * 0 + _ ≤ _; exact Nat.le_of_eq rfl) (hb hby d24_49) (fun _ _ => ⟨rfl, e52, (by decide : 0 + 0 ≤ _), (by decide : 0 + 0 ≤ _)⟩)
  dsimp only [Pt.U, Pt.locs, Pt.cells, Pt.slots] at X53 l53 y53 z53 st53 hQ53
  subst l53 y53 z53
  obtain ⟨rfl, Nq53, e53⟩ := hQ53
  have N53 := Fr.app N0 Nq53
  obtain ⟨T54, h54, k54, X54, e54, E54, A54, O54, st54⟩ := newR X53 hx hZ hown (hw _ (List.mem_of_getElem? (i := 154) rfl)) (hw _ (List.mem_of_getElem? (i := 155) rfl)) e53 (g := (mkF m 52 #[.val (.ref a1), .val (.int (1 : Int32)), .val (.int (0 : Int32)), .unset] [(.int (10 : Int32)), (.ref a1)])) rfl (hb hby d24_52) rfl (by decide) (cap := 10) (by decide) (by decide) (by decide) (by decide)
  obtain ⟨b54, g54⟩ : ∃ z, z = h0.size := ⟨_, rfl⟩
  rw [← g54] at A54 st54
  have g_b54 : n0 ≤ b54 := Nat.le_trans (Nat.le_trans Z0 (Keep.refl h0 [a1]).1) (Nat.le_of_eq g54.symm)
  have sz_b54 : h0.size ≤ b54 := Nat.le_trans (Keep.refl h0 [a1]).1 (Nat.le_of_eq g54.symm)
  have ne_a1_b54 : a1 ≠ b54 := Nat.ne_of_lt (Nat.lt_of_lt_of_le E_a1.lt (Nat.le_of_eq g54.symm))
  have ne_dc_b54 : dc ≠ b54 := Nat.ne_of_lt (Nat.lt_of_lt_of_le V_d.lt (Nat.le_of_eq g54.symm))
  have Kh54 : Keep h0 h54 [a1] := (Keep.refl h0 [a1]).ext E54
  have V_b54 : Arv Z h54 b54 k54 (.object "java/lang/Object") (10 : Int32) [.null, .null, .null, .null, .null, .null, .null, .null, .null, .null] .null := (Arv.new A54 (by decide)).pad (pad_rep [] .null 10)
  obtain ⟨T55, h55, X55, e55, W55, st55⟩ := putF X54 hx hZ hown (host := "") (Or.inl (hw _ (List.mem_of_getElem? (i := 103) rfl))) Via.refl e54 (F_elementData.ext E54) (E_a1.ext E54) (Or.inl (hw _ (List.mem_of_getElem? (i := 104) rfl))) (hw _ (List.mem_of_getElem? (i := 82) rfl)) (ty := (.array (.object "java/lang/Object"))) (by decide) rfl rfl (g := (mkF m 56 #[.val (.ref a1), .val (.int (1 : Int32)), .val (.int (0 : Int32)), .unset] [(.ref b54), (.ref a1), (.ref b54)])) rfl rfl (hb hby d24_56)
  have Fw55 : Fld Z h55 a1 "java/util/ArrayList" "elementData" "[Ljava/lang/Object;" (.ref b54) := (F_elementData.ext E54).same W55
  have N55 := Fr.snoc X55 N53 g_a1
  have Kh55 : Keep h0 h55 [a1] := Kh54.wr W55 (Or.inl (List.mem_of_getElem? (i := 0) rfl))
  have f56 := ((E_a1.ext E54).wr W55)
  have f57 := ((F_size.ext E54).other W55 (Or.inr (slot_ne (Or.inl (hw _ (List.mem_of_getElem? (i := 134) rfl))) (Or.inl (hw _ (List.mem_of_getElem? (i := 104) rfl))) (by decide) (t := .int) (t' := (.array (.object "java/lang/Object"))) (by decide) (by decide))))
  obtain ⟨fs, hr, hrun, hended, hW, hsame⟩ := X55.leave (v := some (.ref b54)) (fun h => by rw [Bd.returns] at h; cases h)
  refine ⟨_, _, pre0 _ ?_, hrun, hended, _, _, rfl, ?_, ⟨_, rfl⟩, hW, hsame.mono (by decide) (by decide)⟩
  · show Steps p.tables e below (s₁.setTop (mkF m 0 #[.val (.ref a1), .val (.int (1 : Int32)), .unset, .unset] [])) _
    refine XS.aloadN X0.here hx rfl (hb hby d24_0) rfl rfl ?_
    show Steps p.tables e below (s₁.setTop (mkF m 1 #[.val (.ref a1), .val (.int (1 : Int32)), .unset, .unset] [(.ref a1)])) _
    refine st49 _ ?_
    show Steps p.tables e below (T49.setTop (mkF m 4 #[.val (.ref a1), .val (.int (1 : Int32)), .unset, .unset] [(.ref dc)])) _
    refine X49.arraylength hx (by rw [e49]; exact Ar50.1) (State.isArrayOf_alike hZ.alike Ar50.2.1) (g := (mkF m 4 #[.val (.ref a1), .val (.int (1 : Int32)), .unset, .unset] [(.ref dc)])) rfl rfl (hb hby d24_4) _ ?_
    rw [len_of S50 M50]
    show Steps p.tables e below (T49.setTop (mkF m 5 #[.val (.ref a1), .val (.int (1 : Int32)), .unset, .unset] [(.int (0 : Int32))])) _
    refine XS.istoreN X49.here hx rfl (hb hby d24_5) rfl (l' := #[.val (.ref a1), .val (.int (1 : Int32)), .val (.int (0 : Int32)), .unset]) rfl ?_
    show Steps p.tables e below (T49.setTop (mkF m 6 #[.val (.ref a1), .val (.int (1 : Int32)), .val (.int (0 : Int32)), .unset] [])) _
    refine XS.iloadN X49.here hx rfl (hb hby d24_6) rfl ?_
    show Steps p.tables e below (T49.setTop (mkF m 7 #[.val (.ref a1), .val (.int (1 : Int32)), .val (.int (0 : Int32)), .unset] [(.int (0 : Int32))])) _
    refine XS.ifNo X49.here hx rfl (hb hby d24_7) rfl ((if0 _ _).trans (flt hc7).2.2.1) ?_
    show Steps p.tables e below (T49.setTop (mkF m 10 #[.val (.ref a1), .val (.int (1 : Int32)), .val (.int (0 : Int32)), .unset] [])) _
    refine XS.aloadN X49.here hx rfl (hb hby d24_10) rfl rfl ?_
    show Steps p.tables e below (T49.setTop (mkF m 11 #[.val (.ref a1), .val (.int (1 : Int32)), .val (.int (0 : Int32)), .unset] [(.ref a1)])) _
    refine st51 _ ?_
    show Steps p.tables e below (T51.setTop (mkF m 14 #[.val (.ref a1), .val (.int (1 : Int32)), .val (.int (0 : Int32)), .unset] [(.ref dc)])) _
    refine st52 _ ?_
    show Steps p.tables e below (T52.setTop (mkF m 17 #[.val (.ref a1), .val (.int (1 : Int32)), .val (.int (0 : Int32)), .unset] [(.ref dc), (.ref dc)])) _
    refine Jvm.RoadKit.acmp (g := (mkF m 17 #[.val (.ref a1), .val (.int (1 : Int32)), .val (.int (0 : Int32)), .unset] [(.ref dc), (.ref dc)])) X52 hx rfl rfl rfl (pc0 := 17) (pc' := 45) (same := true) rfl (hb hby d24_17) rfl (decide_eq_true rfl) (by decide) (by decide) ?_
    show Steps p.tables e below (T52.setTop (mkF m 45 #[.val (.ref a1), .val (.int (1 : Int32)), .val (.int (0 : Int32)), .unset] [])) _
    refine XS.aloadN X52.here hx rfl (hb hby d24_45) rfl rfl ?_
    show Steps p.tables e below (T52.setTop (mkF m 46 #[.val (.ref a1), .val (.int (1 : Int32)), .val (.int (0 : Int32)), .unset] [(.ref a1)])) _
    refine XS.bipush X52.here hx rfl (hb hby d24_46) ?_
    show Steps p.tables e below (T52.setTop (mkF m 48 #[.val (.ref a1), .val (.int (1 : Int32)), .val (.int (0 : Int32)), .unset] [(.int (10 : Int32)), (.ref a1)])) _
    refine XS.iloadN X52.here hx rfl (hb hby d24_48) rfl ?_
    show Steps p.tables e below (T52.setTop (mkF m 49 #[.val (.ref a1), .val (.int (1 : Int32)), .val (.int (0 : Int32)), .unset] [(.int (1 : Int32)), (.int (10 : Int32)), (.ref a1)])) _
    refine st53 _ ?_
    show Steps p.tables e below (T53.setTop (mkF m 52 #[.val (.ref a1), .val (.int (1 : Int32)), .val (.int (0 : Int32)), .unset] [(.int (10 : Int32)), (.ref a1)])) _
    refine st54 _ ?_
    show Steps p.tables e below (T54.setTop (mkF m 55 #[.val (.ref a1), .val (.int (1 : Int32)), .val (.int (0 : Int32)), .unset] [(.ref b54), (.ref a1)])) _
    refine XS.dupX1 X54.here hx rfl (hb hby d24_55) rfl rfl rfl ?_
    show Steps p.tables e below (T54.setTop (mkF m 56 #[.val (.ref a1), .val (.int (1 : Int32)), .val (.int (0 : Int32)), .unset] [(.ref b54), (.ref a1), (.ref b54)])) _
    refine st55 _ ?_
    show Steps p.tables e below (T55.setTop (mkF m 59 #[.val (.ref a1), .val (.int (1 : Int32)), .val (.int (0 : Int32)), .unset] [(.ref b54)])) _
    jvm_step X55.here [X55.here.top, hx, (hb hby d24_59), X55.method', Bd.returns, Value.isRef, FieldType.isReference]
    first | (intro acts; rw [hr _ acts rfl rfl rfl]) | rw [hr _ _ rfl rfl rfl]
    exact Steps.refl _
  · show Q_24 Z a1 h0 n0 _ T55.heap _
    rw [e55]
    subst g54
    exact ⟨rfl, N55, Kh55, f56, f57, k54, (V_b54.other W55 (Ne.symm ne_a1_b54)), O54⟩
theorem d23_0 : decode jdk_38_method_7_code 0 = .ok (.aload_n 0, 1) := by decide +kernel
theorem d23_1 : decode jdk_38_method_7_code 1 = .ok (.aload_n 0, 1) := by decide +kernel
theorem d23_2 : decode jdk_38_method_7_code 2 = .ok (.getfield 48, 3) := by decide +kernel
theorem d23_5 : decode jdk_38_method_7_code 5 = .ok (.iconst 1, 1) := by decide +kernel
theorem d23_6 : decode jdk_38_method_7_code 6 = .ok (.iadd, 1) := by decide +kernel
theorem d23_7 : decode jdk_38_method_7_code 7 = .ok (.invokevirtual 69, 3) := by decide +kernel
theorem d23_10 : decode jdk_38_method_7_code 10 = .ok (.areturn, 1) := by decide +kernel
theorem pd__28I_29_5bLjava_2flang_2fObject_3b : parseMethodDescriptor "(I)[Ljava/lang/Object;" = some ⟨[.int], some (.array (.object "java/lang/Object"))⟩ := by decide +kernel
theorem pn_23 : plainName "java/util/ArrayList" = true := by first | (simp [plainName, overriddenIn]; done) | decide +kernel
theorem ef_23 (m : MethodId) (x0 : Addr) : entryFrame m #[(.ref x0)] 1 = mkF m 0 #[.val (.ref x0)] [] := by first | (simp [entryFrame, mkF, argsToLocals, Value.category]; done) | rfl
def Q_23 (Z : State) (a1 : Addr) (h0 : Heap) (n0 : Nat) (v : Option Value) (h : Heap) (L : List Loc) : Prop := v = some (.ref h0.size) ∧ Fr n0 L ∧ Keep h0 h [a1] ∧ Exa Z h a1 "java/util/ArrayList" ∧ Fld Z h a1 "java/util/ArrayList" "size" "I" (.int (0 : Int32)) ∧ ∃ ko : ClassId, Arv Z h h0.size ko (.object "java/lang/Object") (10 : Int32) [.null, .null, .null, .null, .null, .null, .null, .null, .null, .null] .null ∧ Ovr Z ko "java/lang/Object"
set_option maxRecDepth 65536 in
set_option maxHeartbeats 40000000 in
theorem rm_23 (l : Launch) (Z : State) (a0 : Array Value) (hw : ∀ d ∈ tables_1, d.before a0 Z = true) (ws : List Jvm.Cond) (a1 : Addr) (dc : Addr) (kd : ClassId) (h0 : Heap) (n0 : Nat) (Z0 : n0 ≤ h0.size) (E_a1 : Exa Z h0 a1 "java/util/ArrayList") (g_a1 : n0 ≤ a1) (F_elementData : Fld Z h0 a1 "java/util/ArrayList" "elementData" "[Ljava/lang/Object;" (.ref dc)) (F_size : Fld Z h0 a1 "java/util/ArrayList" "size" "I" (.int (0 : Int32))) (S_DEFAULTCAPACITY_EMPTY_ELEMENTDATA : Sta Z Z.heap "java/util/ArrayList" "DEFAULTCAPACITY_EMPTY_ELEMENTDATA" "[Ljava/lang/Object;" (.ref dc)) (X00 : Old Z n0 h0) (V_d : Arv Z h0 dc kd (.object "java/lang/Object") (0 : Int32) [] .null) :
    MetFree l (⟨"java/util/ArrayList", "grow", "()[Ljava/lang/Object;"⟩ : MethodName) (head1 (Jvm.Cond.code (⟨"java/util/ArrayList", "grow", "()[Ljava/lang/Object;"⟩ : MethodName) jdk_38_method_7_code 1 (some (.array (.object "java/lang/Object"))) :: ws) ({ frames := 2, cells := 1, slots := 10, locals := 29 } : Room)) (fun a U => a = #[(.ref a1)] ∧ Z.Warmed39 U.vm ∧ U.heap = h0) (fun _ _ _ _ _ => True) (fun _ U o U' => ∃ v L, o = .returned v ∧ Q_23 Z a1 h0 n0 v U'.heap L ∧ FrameEnd U o U' L ({ frames := 2, cells := 1, slots := 10, locals := 29 } : Room).cells ({ frames := 2, cells := 1, slots := 10, locals := 29 } : Room).slots) := by
  refine MetFree.of_bodySF (plainFor_of_name pn_23) hisR ?_
  intro p e s m args below meth cod_ s₁ Bd hml0 hP hK
  obtain ⟨rfl, hZ, hh⟩ := hP
  have hx := Bd.exec
  have hby := Bd.bytes
  have hml : cod_.maxLocals = 1 := hml0
  have hown : s.vm.findClass "java/util/ArrayList" = some m.cls := findClass_of_methodNamed Bd.named
  have hnm := (name_of_methodNamed Bd.named Bd.method).1
  have X0 : Stand p l e ({ frames := 2, cells := 1, slots := 10, locals := 29 } : Room) s m #[(.ref a1)] below meth cod_ s₁ [] 0 0 := Stand.of_body Bd
  have e0 : s₁.heap = h0 := by rw [← hh, Bd.state]; rfl
  have N0 := Fr.nil n0
  have pre0 : ∀ t, Steps p.tables e below (s₁.setTop (mkF m 0 #[.val (.ref a1)] [])) t → Steps p.tables e below (s₁.setTop (entryFrame m #[(.ref a1)] 1)) t := fun t k => castTop (ef_23 m a1) k
  have nd : dc ≠ a1 := Ne.symm (Exa.neArv E_a1 V_d (hw _ (List.mem_of_getElem? (i := 82) rfl)))
  obtain ⟨T58, X58, e58, st58⟩ := getF X0 hx hZ hown (host := "") (Or.inl (hw _ (List.mem_of_getElem? (i := 133) rfl))) Via.refl e0 F_size (g := (mkF m 2 #[.val (.ref a1)] [(.ref a1), (.ref a1)])) rfl rfl (hb hby d23_2)
  obtain ⟨cq59, q59, q59'⟩ := E_a1.cell
  obtain ⟨_, _, ⟨T59, L59, c59_, n59_⟩, -, X59, ⟨Lc59, hQ59, l59, y59, z59⟩, st59⟩ := X58.privateBack hx (y := (⟨"java/util/ArrayList", "grow", "(I)[Ljava/lang/Object;"⟩ : MethodName)) hown (mvT hZ (hw _ (List.mem_of_getElem? (i := 145) rfl))) (mvT hZ (hw _ (List.mem_of_getElem? (i := 146) rfl))) (mvT hZ (hw _ (List.mem_of_getElem? (i := 148) rfl))) (Cond.privateMethod_at (mvP hZ (hw _ (List.mem_of_getElem? (i := 147) rfl)) (args := #[]))) (mvT hZ (hw _ (List.mem_of_getElem? (i := 149) rfl))) (by decide) (backOf (W := 0) (rm_24 l Z a0 hw [] a1 dc kd h0 n0 (Nat.le_trans Z0 (Keep.refl h0 [a1]).1) E_a1 g_a1 F_elementData F_size S_DEFAULTCAPACITY_EMPTY_ELEMENTDATA X00 V_d) hZ (hw _ (List.mem_of_getElem? (i := 149) rfl)) (hw _ (List.mem_of_getElem? (i := 83) rfl)) (by decide) (by decide)) (g := (mkF m 7 #[.val (.ref a1)] [(.int (1 : Int32)), (.ref a1)])) rfl (by rw [hml]; rfl) (Steps.refl _) (a := a1) (by rw [e58]; exact q59) q59' (argsL := [(.int (1 : Int32))]) (rest := []) (lenOf pd__28I_29_5bLjava_2flang_2fObject_3b rfl) rfl (by show 2 * 0 + _ ≤ _; exact Nat.le_of_eq rfl) (hb hby d23_7) (fun _ _ => ⟨rfl, e58, (by decide : 0 + 1 ≤ _), (by decide : 0 + 10 ≤ _)⟩)
  dsimp only [Pt.U, Pt.locs, Pt.cells, Pt.slots] at X59 l59 y59 z59 st59 hQ59
  subst l59 y59 z59
  obtain ⟨rfl, Nq59, K59, Ee59, Fs59, ko59, Vo59, Oo59⟩ := hQ59
  have N59 := Fr.app N0 Nq59
  have Kh59 : Keep h0 T59.heap [a1] := (Keep.refl h0 [a1]).trans K59 (allS (Or.inl (List.mem_of_getElem? (i := 0) rfl)) all0)
  obtain ⟨b59, g59⟩ : ∃ z, z = h0.size := ⟨_, rfl⟩
  rw [← g59] at st59 Vo59
  have g_b59 : n0 ≤ b59 := Nat.le_trans (Nat.le_trans Z0 (Keep.refl h0 [a1]).1) (Nat.le_of_eq g59.symm)
  have sz_b59 : h0.size ≤ b59 := Nat.le_trans (Keep.refl h0 [a1]).1 (Nat.le_of_eq g59.symm)
  have ne_a1_b59 : a1 ≠ b59 := Nat.ne_of_lt (Nat.lt_of_lt_of_le E_a1.lt (Nat.le_of_eq g59.symm))
  have ne_dc_b59 : dc ≠ b59 := Nat.ne_of_lt (Nat.lt_of_lt_of_le V_d.lt (Nat.le_of_eq g59.symm))
  obtain ⟨fs, hr, hrun, hended, hW, hsame⟩ := X59.leave (v := some (.ref b59)) (fun h => by rw [Bd.returns] at h; cases h)
  refine ⟨_, _, pre0 _ ?_, hrun, hended, _, _, rfl, ?_, ⟨_, rfl⟩, hW, hsame.mono (by decide) (by decide)⟩
  · show Steps p.tables e below (s₁.setTop (mkF m 0 #[.val (.ref a1)] [])) _
    refine XS.aloadN X0.here hx rfl (hb hby d23_0) rfl rfl ?_
    show Steps p.tables e below (s₁.setTop (mkF m 1 #[.val (.ref a1)] [(.ref a1)])) _
    refine XS.aloadN X0.here hx rfl (hb hby d23_1) rfl rfl ?_
    show Steps p.tables e below (s₁.setTop (mkF m 2 #[.val (.ref a1)] [(.ref a1), (.ref a1)])) _
    refine st58 _ ?_
    show Steps p.tables e below (T58.setTop (mkF m 5 #[.val (.ref a1)] [(.int (0 : Int32)), (.ref a1)])) _
    refine XS.iconst X58.here hx rfl (hb hby d23_5) ?_
    show Steps p.tables e below (T58.setTop (mkF m 6 #[.val (.ref a1)] [(.int (1 : Int32)), (.int (0 : Int32)), (.ref a1)])) _
    refine XS.iadd X58.here hx rfl (hb hby d23_6) rfl ?_
    show Steps p.tables e below (T58.setTop (mkF m 7 #[.val (.ref a1)] [(.int ((0 : Int32) + (1 : Int32))), (.ref a1)])) _
    rw [show ((0 : Int32) + (1 : Int32)) = (1 : Int32) from by decide]
    show Steps p.tables e below (T58.setTop (mkF m 7 #[.val (.ref a1)] [(.int (1 : Int32)), (.ref a1)])) _
    refine st59.trans ?_
    show Steps p.tables e below (T59.setTop (mkF m 10 #[.val (.ref a1)] [(.ref b59)])) _
    jvm_step X59.here [X59.here.top, hx, (hb hby d23_10), X59.method', Bd.returns, Value.isRef, FieldType.isReference]
    first | (intro acts; rw [hr _ acts rfl rfl rfl]) | rw [hr _ _ rfl rfl rfl]
    exact Steps.refl _
  · show Q_23 Z a1 h0 n0 _ T59.heap _
    subst g59
    exact ⟨rfl, N59, Kh59, Ee59, Fs59, ko59, Vo59, Oo59⟩
theorem d22_0 : decode jdk_38_method_24_code 0 = .ok (.iload_n 3, 1) := by decide +kernel
theorem d22_1 : decode jdk_38_method_24_code 1 = .ok (.aload_n 2, 1) := by decide +kernel
theorem d22_2 : decode jdk_38_method_24_code 2 = .ok (.arraylength, 1) := by decide +kernel
theorem d22_3 : decode jdk_38_method_24_code 3 = .ok (.if_icmp .ne 8, 3) := by decide +kernel
theorem d22_6 : decode jdk_38_method_24_code 6 = .ok (.aload_n 0, 1) := by decide +kernel
theorem d22_7 : decode jdk_38_method_24_code 7 = .ok (.invokevirtual 129, 3) := by decide +kernel
theorem d22_10 : decode jdk_38_method_24_code 10 = .ok (.astore_n 2, 1) := by decide +kernel
theorem d22_11 : decode jdk_38_method_24_code 11 = .ok (.aload_n 2, 1) := by decide +kernel
theorem d22_12 : decode jdk_38_method_24_code 12 = .ok (.iload_n 3, 1) := by decide +kernel
theorem d22_13 : decode jdk_38_method_24_code 13 = .ok (.aload_n 1, 1) := by decide +kernel
theorem d22_14 : decode jdk_38_method_24_code 14 = .ok (.aastore, 1) := by decide +kernel
theorem d22_15 : decode jdk_38_method_24_code 15 = .ok (.aload_n 0, 1) := by decide +kernel
theorem d22_16 : decode jdk_38_method_24_code 16 = .ok (.iload_n 3, 1) := by decide +kernel
theorem d22_17 : decode jdk_38_method_24_code 17 = .ok (.iconst 1, 1) := by decide +kernel
theorem d22_18 : decode jdk_38_method_24_code 18 = .ok (.iadd, 1) := by decide +kernel
theorem d22_19 : decode jdk_38_method_24_code 19 = .ok (.putfield 48, 3) := by decide +kernel
theorem d22_22 : decode jdk_38_method_24_code 22 = .ok (.return_, 1) := by decide +kernel
theorem pd__28_29_5bLjava_2flang_2fObject_3b : parseMethodDescriptor "()[Ljava/lang/Object;" = some ⟨[], some (.array (.object "java/lang/Object"))⟩ := by decide +kernel
theorem pn_22 : plainName "java/util/ArrayList" = true := by first | (simp [plainName, overriddenIn]; done) | decide +kernel
theorem ef_22l3 (m : MethodId) (x0 : Addr) (x1 : Addr) (x2 : Addr) : entryFrame m #[(.ref x0), (.ref x1), (.ref x2), (.int (0 : Int32))] 4 = mkF m 0 #[.val (.ref x0), .val (.ref x1), .val (.ref x2), .val (.int (0 : Int32))] [] := by first | (simp [entryFrame, mkF, argsToLocals, Value.category]; done) | rfl
def Q_22 (Z : State) (a1 : Addr) (a2 : Addr) (dc : Addr) (h0 : Heap) (n0 : Nat) (v : Option Value) (h : Heap) (L : List Loc) : Prop := v = none ∧ Fr n0 L ∧ Keep h0 h [a1]
set_option maxRecDepth 65536 in
set_option maxHeartbeats 40000000 in
theorem rm_22 (l : Launch) (Z : State) (a0 : Array Value) (hw : ∀ d ∈ tables_1, d.before a0 Z = true) (ws : List Jvm.Cond) (a1 : Addr) (a2 : Addr) (dc : Addr) (kd : ClassId) (h0 : Heap) (n0 : Nat) (Z0 : n0 ≤ h0.size) (E_a1 : Exa Z h0 a1 "java/util/ArrayList") (g_a1 : n0 ≤ a1) (F_elementData : Fld Z h0 a1 "java/util/ArrayList" "elementData" "[Ljava/lang/Object;" (.ref dc)) (F_size : Fld Z h0 a1 "java/util/ArrayList" "size" "I" (.int (0 : Int32))) (S_DEFAULTCAPACITY_EMPTY_ELEMENTDATA : Sta Z Z.heap "java/util/ArrayList" "DEFAULTCAPACITY_EMPTY_ELEMENTDATA" "[Ljava/lang/Object;" (.ref dc)) (X00 : Old Z n0 h0) (V_d : Arv Z h0 dc kd (.object "java/lang/Object") (0 : Int32) [] .null) (E_a2 : Exa Z h0 a2 "java/lang/Integer") :
    MetFree l (⟨"java/util/ArrayList", "add", "(Ljava/lang/Object;[Ljava/lang/Object;I)V"⟩ : MethodName) (head1 (Jvm.Cond.code (⟨"java/util/ArrayList", "add", "(Ljava/lang/Object;[Ljava/lang/Object;I)V"⟩ : MethodName) jdk_38_method_24_code 4 none :: ws) ({ frames := 3, cells := 1, slots := 10, locals := 41 } : Room)) (fun a U => a = #[(.ref a1), (.ref a2), (.ref dc), (.int (0 : Int32))] ∧ Z.Warmed39 U.vm ∧ U.heap = h0) (fun _ _ _ _ _ => True) (fun _ U o U' => ∃ v L, o = .returned v ∧ Q_22 Z a1 a2 dc h0 n0 v U'.heap L ∧ FrameEnd U o U' L ({ frames := 3, cells := 1, slots := 10, locals := 41 } : Room).cells ({ frames := 3, cells := 1, slots := 10, locals := 41 } : Room).slots) := by
  refine MetFree.of_bodySF (plainFor_of_name pn_22) hisR ?_
  intro p e s m args below meth cod_ s₁ Bd hml0 hP hK
  obtain ⟨rfl, hZ, hh⟩ := hP
  have hx := Bd.exec
  have hby := Bd.bytes
  have hml : cod_.maxLocals = 4 := hml0
  have hown : s.vm.findClass "java/util/ArrayList" = some m.cls := findClass_of_methodNamed Bd.named
  have hnm := (name_of_methodNamed Bd.named Bd.method).1
  have X0 : Stand p l e ({ frames := 3, cells := 1, slots := 10, locals := 41 } : Room) s m #[(.ref a1), (.ref a2), (.ref dc), (.int (0 : Int32))] below meth cod_ s₁ [] 0 0 := Stand.of_body Bd
  have e0 : s₁.heap = h0 := by rw [← hh, Bd.state]; rfl
  have N0 := Fr.nil n0
  have pre0 : ∀ t, Steps p.tables e below (s₁.setTop (mkF m 0 #[.val (.ref a1), .val (.ref a2), .val (.ref dc), .val (.int (0 : Int32))] [])) t → Steps p.tables e below (s₁.setTop (entryFrame m #[(.ref a1), (.ref a2), (.ref dc), (.int (0 : Int32))] 4)) t := fun t k => castTop (ef_22l3 m a1 a2 dc) k
  have nd : dc ≠ a1 := Ne.symm (Exa.neArv E_a1 V_d (hw _ (List.mem_of_getElem? (i := 82) rfl)))
  obtain ⟨cl60, Ar60, -, S60, M60, -, -⟩ := id (V_d)
  have hc3 : (0 : Int32) = (0 : Int32) := by decide
  obtain ⟨cq61, q61, q61'⟩ := E_a1.cell
  obtain ⟨_, _, ⟨T61, L61, c61_, n61_⟩, -, X61, ⟨Lc61, hQ61, l61, y61, z61⟩, st61⟩ := X0.privateBack hx (y := (⟨"java/util/ArrayList", "grow", "()[Ljava/lang/Object;"⟩ : MethodName)) hown (mvT hZ (hw _ (List.mem_of_getElem? (i := 140) rfl))) (mvT hZ (hw _ (List.mem_of_getElem? (i := 141) rfl))) (mvT hZ (hw _ (List.mem_of_getElem? (i := 143) rfl))) (Cond.privateMethod_at (mvP hZ (hw _ (List.mem_of_getElem? (i := 142) rfl)) (args := #[]))) (mvT hZ (hw _ (List.mem_of_getElem? (i := 144) rfl))) (by decide) (backOf (W := 0) (rm_23 l Z a0 hw [] a1 dc kd h0 n0 (Nat.le_trans Z0 (Keep.refl h0 [a1]).1) E_a1 g_a1 F_elementData F_size S_DEFAULTCAPACITY_EMPTY_ELEMENTDATA X00 V_d) hZ (hw _ (List.mem_of_getElem? (i := 144) rfl)) (hw _ (List.mem_of_getElem? (i := 83) rfl)) (by decide) (by decide)) (g := (mkF m 7 #[.val (.ref a1), .val (.ref a2), .val (.ref dc), .val (.int (0 : Int32))] [(.ref a1)])) rfl (by rw [hml]; rfl) (Steps.refl _) (a := a1) (by rw [e0]; exact q61) q61' (argsL := []) (rest := []) (lenOf pd__28_29_5bLjava_2flang_2fObject_3b rfl) rfl (by show 2 * 0 + _ ≤ _; exact Nat.le_of_eq rfl) (hb hby d22_7) (fun _ _ => ⟨rfl, e0, (by decide : 0 + 1 ≤ _), (by decide : 0 + 10 ≤ _)⟩)
  dsimp only [Pt.U, Pt.locs, Pt.cells, Pt.slots] at X61 l61 y61 z61 st61 hQ61
  subst l61 y61 z61
  obtain ⟨rfl, Nq61, K61, Ee61, Fs61, ko61, Vo61, Oo61⟩ := hQ61
  have N61 := Fr.app N0 Nq61
  have Kh61 : Keep h0 T61.heap [a1] := (Keep.refl h0 [a1]).trans K61 (allS (Or.inl (List.mem_of_getElem? (i := 0) rfl)) all0)
  obtain ⟨b61, g61⟩ : ∃ z, z = h0.size := ⟨_, rfl⟩
  rw [← g61] at st61 Vo61
  have g_b61 : n0 ≤ b61 := Nat.le_trans (Nat.le_trans Z0 (Keep.refl h0 [a1]).1) (Nat.le_of_eq g61.symm)
  have sz_b61 : h0.size ≤ b61 := Nat.le_trans (Keep.refl h0 [a1]).1 (Nat.le_of_eq g61.symm)
  have ne_a1_b61 : a1 ≠ b61 := Nat.ne_of_lt (Nat.lt_of_lt_of_le E_a1.lt (Nat.le_of_eq g61.symm))
  have ne_dc_b61 : dc ≠ b61 := Nat.ne_of_lt (Nat.lt_of_lt_of_le V_d.lt (Nat.le_of_eq g61.symm))
  have ne_a2_b61 : a2 ≠ b61 := Nat.ne_of_lt (Nat.lt_of_lt_of_le E_a2.lt (Nat.le_of_eq g61.symm))
  obtain ⟨cl62, Ar62, q62, S62, M62, H62, G62⟩ := id (Vo61)
  have hin62 : ¬ ((0 : Int32) < 0 ∨ cl62.slots.size ≤ ((0 : Int32)).toNatClampNeg) := inb_of S62 ⟨by decide, by decide⟩
  have Sto62 : Sto Z T61.heap b61 (.ref a2) := Sto.ofV Ar62 q62 Oo61 (Ins.of_exa (E_a2.keep K61) (hw _ (List.mem_of_getElem? (i := 156) rfl)))
  obtain ⟨T62, h62, X62, e62, W62, st62⟩ := stR X61 hx hZ rfl Ar62 (j := (0 : Int32)) hin62 rfl Sto62 (g := (mkF m 14 #[.val (.ref a1), .val (.ref a2), .val (.ref b61), .val (.int (0 : Int32))] [(.ref a2), (.int (0 : Int32)), (.ref b61)])) rfl rfl (hb hby d22_14)
  have V62 : Arv Z h62 b61 ko61 (.object "java/lang/Object") (10 : Int32) [(.ref a2), .null, .null, .null, .null, .null, .null, .null, .null, .null] .null := Arv.set Ar62 q62 S62 M62 H62 G62 rfl W62 0 rfl (Nat.le_of_ble_eq_true rfl)
  have Kh62 : Keep h0 h62 [a1] := Kh61.wr W62 (Or.inr sz_b61)
  have N62 := Fr.snoc X62 N61 g_b61
  obtain ⟨T63, h63, X63, e63, W63, st63⟩ := putF X62 hx hZ hown (host := "") (Or.inl (hw _ (List.mem_of_getElem? (i := 133) rfl))) Via.refl e62 (Fs61.other W62 (Or.inl ne_a1_b61)) (Ee61.wr W62) (Or.inl (hw _ (List.mem_of_getElem? (i := 134) rfl))) (hw _ (List.mem_of_getElem? (i := 82) rfl)) (ty := .int) (by decide) rfl rfl (g := (mkF m 19 #[.val (.ref a1), .val (.ref a2), .val (.ref b61), .val (.int (0 : Int32))] [(.int (1 : Int32)), (.ref a1)])) rfl rfl (hb hby d22_19)
  have Fw63 : Fld Z h63 a1 "java/util/ArrayList" "size" "I" (.int (1 : Int32)) := (Fs61.other W62 (Or.inl ne_a1_b61)).same W63
  have N63 := Fr.snoc X63 N62 g_a1
  have Kh63 : Keep h0 h63 [a1] := Kh62.wr W63 (Or.inl (List.mem_of_getElem? (i := 0) rfl))
  obtain ⟨fs, hr, hrun, hended, hW, hsame⟩ := X63.leave (v := none) (fun _ => rfl)
  refine ⟨_, _, pre0 _ ?_, hrun, hended, _, _, rfl, ?_, ⟨_, rfl⟩, hW, hsame.mono (by decide) (by decide)⟩
  · show Steps p.tables e below (s₁.setTop (mkF m 0 #[.val (.ref a1), .val (.ref a2), .val (.ref dc), .val (.int (0 : Int32))] [])) _
    refine XS.iloadN X0.here hx rfl (hb hby d22_0) rfl ?_
    show Steps p.tables e below (s₁.setTop (mkF m 1 #[.val (.ref a1), .val (.ref a2), .val (.ref dc), .val (.int (0 : Int32))] [(.int (0 : Int32))])) _
    refine XS.aloadN X0.here hx rfl (hb hby d22_1) rfl rfl ?_
    show Steps p.tables e below (s₁.setTop (mkF m 2 #[.val (.ref a1), .val (.ref a2), .val (.ref dc), .val (.int (0 : Int32))] [(.ref dc), (.int (0 : Int32))])) _
    refine X0.arraylength hx (by rw [e0]; exact Ar60.1) (State.isArrayOf_alike hZ.alike Ar60.2.1) (g := (mkF m 2 #[.val (.ref a1), .val (.ref a2), .val (.ref dc), .val (.int (0 : Int32))] [(.ref dc), (.int (0 : Int32))])) rfl rfl (hb hby d22_2) _ ?_
    rw [len_of S60 M60]
    show Steps p.tables e below (s₁.setTop (mkF m 3 #[.val (.ref a1), .val (.ref a2), .val (.ref dc), .val (.int (0 : Int32))] [(.int (0 : Int32)), (.int (0 : Int32))])) _
    refine XS.icmpNo X0.here hx rfl (hb hby d22_3) rfl (teq hc3).2 ?_
    show Steps p.tables e below (s₁.setTop (mkF m 6 #[.val (.ref a1), .val (.ref a2), .val (.ref dc), .val (.int (0 : Int32))] [])) _
    refine XS.aloadN X0.here hx rfl (hb hby d22_6) rfl rfl ?_
    show Steps p.tables e below (s₁.setTop (mkF m 7 #[.val (.ref a1), .val (.ref a2), .val (.ref dc), .val (.int (0 : Int32))] [(.ref a1)])) _
    refine st61.trans ?_
    show Steps p.tables e below (T61.setTop (mkF m 10 #[.val (.ref a1), .val (.ref a2), .val (.ref dc), .val (.int (0 : Int32))] [(.ref b61)])) _
    refine XS.astoreN X61.here hx rfl (hb hby d22_10) rfl rfl (l' := #[.val (.ref a1), .val (.ref a2), .val (.ref b61), .val (.int (0 : Int32))]) rfl ?_
    show Steps p.tables e below (T61.setTop (mkF m 11 #[.val (.ref a1), .val (.ref a2), .val (.ref b61), .val (.int (0 : Int32))] [])) _
    refine XS.aloadN X61.here hx rfl (hb hby d22_11) rfl rfl ?_
    show Steps p.tables e below (T61.setTop (mkF m 12 #[.val (.ref a1), .val (.ref a2), .val (.ref b61), .val (.int (0 : Int32))] [(.ref b61)])) _
    refine XS.iloadN X61.here hx rfl (hb hby d22_12) rfl ?_
    show Steps p.tables e below (T61.setTop (mkF m 13 #[.val (.ref a1), .val (.ref a2), .val (.ref b61), .val (.int (0 : Int32))] [(.int (0 : Int32)), (.ref b61)])) _
    refine XS.aloadN X61.here hx rfl (hb hby d22_13) rfl rfl ?_
    show Steps p.tables e below (T61.setTop (mkF m 14 #[.val (.ref a1), .val (.ref a2), .val (.ref b61), .val (.int (0 : Int32))] [(.ref a2), (.int (0 : Int32)), (.ref b61)])) _
    refine st62 _ ?_
    show Steps p.tables e below (T62.setTop (mkF m 15 #[.val (.ref a1), .val (.ref a2), .val (.ref b61), .val (.int (0 : Int32))] [])) _
    refine XS.aloadN X62.here hx rfl (hb hby d22_15) rfl rfl ?_
    show Steps p.tables e below (T62.setTop (mkF m 16 #[.val (.ref a1), .val (.ref a2), .val (.ref b61), .val (.int (0 : Int32))] [(.ref a1)])) _
    refine XS.iloadN X62.here hx rfl (hb hby d22_16) rfl ?_
    show Steps p.tables e below (T62.setTop (mkF m 17 #[.val (.ref a1), .val (.ref a2), .val (.ref b61), .val (.int (0 : Int32))] [(.int (0 : Int32)), (.ref a1)])) _
    refine XS.iconst X62.here hx rfl (hb hby d22_17) ?_
    show Steps p.tables e below (T62.setTop (mkF m 18 #[.val (.ref a1), .val (.ref a2), .val (.ref b61), .val (.int (0 : Int32))] [(.int (1 : Int32)), (.int (0 : Int32)), (.ref a1)])) _
    refine XS.iadd X62.here hx rfl (hb hby d22_18) rfl ?_
    show Steps p.tables e below (T62.setTop (mkF m 19 #[.val (.ref a1), .val (.ref a2), .val (.ref b61), .val (.int (0 : Int32))] [(.int ((0 : Int32) + (1 : Int32))), (.ref a1)])) _
    rw [show ((0 : Int32) + (1 : Int32)) = (1 : Int32) from by decide]
    show Steps p.tables e below (T62.setTop (mkF m 19 #[.val (.ref a1), .val (.ref a2), .val (.ref b61), .val (.int (0 : Int32))] [(.int (1 : Int32)), (.ref a1)])) _
    refine st63 _ ?_
    show Steps p.tables e below (T63.setTop (mkF m 22 #[.val (.ref a1), .val (.ref a2), .val (.ref b61), .val (.int (0 : Int32))] [])) _
    exact X63.returnOut hx Bd.returns (hb hby d22_22) hr
  · show Q_22 Z a1 a2 dc h0 n0 _ T63.heap _
    rw [e63]
    exact ⟨rfl, N63, Kh63⟩
theorem d21_0 : decode jdk_38_method_25_code 0 = .ok (.aload_n 0, 1) := by decide +kernel
theorem d21_1 : decode jdk_38_method_25_code 1 = .ok (.dup, 1) := by decide +kernel
theorem d21_2 : decode jdk_38_method_25_code 2 = .ok (.getfield 63, 3) := by decide +kernel
theorem d21_5 : decode jdk_38_method_25_code 5 = .ok (.iconst 1, 1) := by decide +kernel
theorem d21_6 : decode jdk_38_method_25_code 6 = .ok (.iadd, 1) := by decide +kernel
theorem d21_7 : decode jdk_38_method_25_code 7 = .ok (.putfield 63, 3) := by decide +kernel
theorem d21_10 : decode jdk_38_method_25_code 10 = .ok (.aload_n 0, 1) := by decide +kernel
theorem d21_11 : decode jdk_38_method_25_code 11 = .ok (.aload_n 1, 1) := by decide +kernel
theorem d21_12 : decode jdk_38_method_25_code 12 = .ok (.aload_n 0, 1) := by decide +kernel
theorem d21_13 : decode jdk_38_method_25_code 13 = .ok (.getfield 9, 3) := by decide +kernel
theorem d21_16 : decode jdk_38_method_25_code 16 = .ok (.aload_n 0, 1) := by decide +kernel
theorem d21_17 : decode jdk_38_method_25_code 17 = .ok (.getfield 48, 3) := by decide +kernel
theorem d21_20 : decode jdk_38_method_25_code 20 = .ok (.invokevirtual 131, 3) := by decide +kernel
theorem d21_23 : decode jdk_38_method_25_code 23 = .ok (.iconst 1, 1) := by decide +kernel
theorem d21_24 : decode jdk_38_method_25_code 24 = .ok (.ireturn, 1) := by decide +kernel
theorem pd__28Ljava_2flang_2fObject_3b_5bLjava_2flang_2fObject_3bI_29V : parseMethodDescriptor "(Ljava/lang/Object;[Ljava/lang/Object;I)V" = some ⟨[(.object "java/lang/Object"), (.array (.object "java/lang/Object")), .int], none⟩ := by decide +kernel
theorem pn_21 : plainName "java/util/ArrayList" = true := by first | (simp [plainName, overriddenIn]; done) | decide +kernel
theorem ef_21 (m : MethodId) (x0 : Addr) (x1 : Addr) : entryFrame m #[(.ref x0), (.ref x1)] 2 = mkF m 0 #[.val (.ref x0), .val (.ref x1)] [] := by first | (simp [entryFrame, mkF, argsToLocals, Value.category]; done) | rfl
def Q_21 (Z : State) (a1 : Addr) (a2 : Addr) (h0 : Heap) (n0 : Nat) (v : Option Value) (h : Heap) (L : List Loc) : Prop := v = some (.int 1) ∧ Fr n0 L ∧ Keep h0 h [a1]
set_option maxRecDepth 65536 in
set_option maxHeartbeats 40000000 in
theorem rm_21 (l : Launch) (Z : State) (a0 : Array Value) (hw : ∀ d ∈ tables_1, d.before a0 Z = true) (ws : List Jvm.Cond) (a1 : Addr) (a2 : Addr) (dc : Addr) (kd : ClassId) (h0 : Heap) (n0 : Nat) (Z0 : n0 ≤ h0.size) (E_a1 : Exa Z h0 a1 "java/util/ArrayList") (g_a1 : n0 ≤ a1) (F_modCount : Fld Z h0 a1 "java/util/AbstractList" "modCount" "I" (.int (0 : Int32))) (F_elementData : Fld Z h0 a1 "java/util/ArrayList" "elementData" "[Ljava/lang/Object;" (.ref dc)) (F_size : Fld Z h0 a1 "java/util/ArrayList" "size" "I" (.int (0 : Int32))) (S_DEFAULTCAPACITY_EMPTY_ELEMENTDATA : Sta Z Z.heap "java/util/ArrayList" "DEFAULTCAPACITY_EMPTY_ELEMENTDATA" "[Ljava/lang/Object;" (.ref dc)) (X00 : Old Z n0 h0) (V_d : Arv Z h0 dc kd (.object "java/lang/Object") (0 : Int32) [] .null) (E_a2 : Exa Z h0 a2 "java/lang/Integer") :
    MetFree l (⟨"java/util/ArrayList", "add", "(Ljava/lang/Object;)Z"⟩ : MethodName) (head1 (Jvm.Cond.code (⟨"java/util/ArrayList", "add", "(Ljava/lang/Object;)Z"⟩ : MethodName) jdk_38_method_25_code 2 (some .boolean) :: ws) ({ frames := 4, cells := 1, slots := 10, locals := 56 } : Room)) (fun a U => a = #[(.ref a1), (.ref a2)] ∧ Z.Warmed39 U.vm ∧ U.heap = h0) (fun _ _ _ _ _ => True) (fun _ U o U' => ∃ v L, o = .returned v ∧ Q_21 Z a1 a2 h0 n0 v U'.heap L ∧ FrameEnd U o U' L ({ frames := 4, cells := 1, slots := 10, locals := 56 } : Room).cells ({ frames := 4, cells := 1, slots := 10, locals := 56 } : Room).slots) := by
  refine MetFree.of_bodySF (plainFor_of_name pn_21) hisR ?_
  intro p e s m args below meth cod_ s₁ Bd hml0 hP hK
  obtain ⟨rfl, hZ, hh⟩ := hP
  have hx := Bd.exec
  have hby := Bd.bytes
  have hml : cod_.maxLocals = 2 := hml0
  have hown : s.vm.findClass "java/util/ArrayList" = some m.cls := findClass_of_methodNamed Bd.named
  have hnm := (name_of_methodNamed Bd.named Bd.method).1
  have X0 : Stand p l e ({ frames := 4, cells := 1, slots := 10, locals := 56 } : Room) s m #[(.ref a1), (.ref a2)] below meth cod_ s₁ [] 0 0 := Stand.of_body Bd
  have e0 : s₁.heap = h0 := by rw [← hh, Bd.state]; rfl
  have N0 := Fr.nil n0
  have pre0 : ∀ t, Steps p.tables e below (s₁.setTop (mkF m 0 #[.val (.ref a1), .val (.ref a2)] [])) t → Steps p.tables e below (s₁.setTop (entryFrame m #[(.ref a1), (.ref a2)] 2)) t := fun t k => castTop (ef_21 m a1 a2) k
  have nd : dc ≠ a1 := Ne.symm (Exa.neArv E_a1 V_d (hw _ (List.mem_of_getElem? (i := 82) rfl)))
  obtain ⟨T64, X64, e64, st64⟩ := getF X0 hx hZ hown (host := "") (Or.inl (hw _ (List.mem_of_getElem? (i := 131) rfl))) (Via.of (hw _ (List.mem_of_getElem? (i := 132) rfl))) e0 F_modCount (g := (mkF m 2 #[.val (.ref a1), .val (.ref a2)] [(.ref a1), (.ref a1)])) rfl rfl (hb hby d21_2)
  obtain ⟨T65, h65, X65, e65, W65, st65⟩ := putF X64 hx hZ hown (host := "") (Or.inl (hw _ (List.mem_of_getElem? (i := 131) rfl))) (Via.of (hw _ (List.mem_of_getElem? (i := 132) rfl))) e64 F_modCount E_a1 (Or.inl (hw _ (List.mem_of_getElem? (i := 101) rfl))) (hw _ (List.mem_of_getElem? (i := 82) rfl)) (ty := .int) (by decide) rfl rfl (g := (mkF m 7 #[.val (.ref a1), .val (.ref a2)] [(.int (1 : Int32)), (.ref a1)])) rfl rfl (hb hby d21_7)
  have Fw65 : Fld Z h65 a1 "java/util/AbstractList" "modCount" "I" (.int (1 : Int32)) := F_modCount.same W65
  have N65 := Fr.snoc X65 N0 g_a1
  have Kh65 : Keep h0 h65 [a1] := (Keep.refl h0 [a1]).wr W65 (Or.inl (List.mem_of_getElem? (i := 0) rfl))
  obtain ⟨T66, X66, e66, st66⟩ := getF X65 hx hZ hown (host := "") (Or.inl (hw _ (List.mem_of_getElem? (i := 103) rfl))) Via.refl e65 (F_elementData.other W65 (Or.inr (slot_ne (Or.inl (hw _ (List.mem_of_getElem? (i := 104) rfl))) (Or.inl (hw _ (List.mem_of_getElem? (i := 101) rfl))) (by decide) (t := (.array (.object "java/lang/Object"))) (t' := .int) (by decide) (by decide)))) (g := (mkF m 13 #[.val (.ref a1), .val (.ref a2)] [(.ref a1), (.ref a2), (.ref a1)])) rfl rfl (hb hby d21_13)
  obtain ⟨T67, X67, e67, st67⟩ := getF X66 hx hZ hown (host := "") (Or.inl (hw _ (List.mem_of_getElem? (i := 133) rfl))) Via.refl e66 (F_size.other W65 (Or.inr (slot_ne (Or.inl (hw _ (List.mem_of_getElem? (i := 134) rfl))) (Or.inl (hw _ (List.mem_of_getElem? (i := 101) rfl))) (by decide) (t := .int) (t' := .int) (by decide) (by decide)))) (g := (mkF m 17 #[.val (.ref a1), .val (.ref a2)] [(.ref a1), (.ref dc), (.ref a2), (.ref a1)])) rfl rfl (hb hby d21_17)
  obtain ⟨cq68, q68, q68'⟩ := (E_a1.wr W65).cell
  obtain ⟨_, _, ⟨T68, L68, c68_, n68_⟩, -, X68, ⟨Lc68, hQ68, l68, y68, z68⟩, st68⟩ := X67.privateBack hx (y := (⟨"java/util/ArrayList", "add", "(Ljava/lang/Object;[Ljava/lang/Object;I)V"⟩ : MethodName)) hown (mvT hZ (hw _ (List.mem_of_getElem? (i := 135) rfl))) (mvT hZ (hw _ (List.mem_of_getElem? (i := 136) rfl))) (mvT hZ (hw _ (List.mem_of_getElem? (i := 138) rfl))) (Cond.privateMethod_at (mvP hZ (hw _ (List.mem_of_getElem? (i := 137) rfl)) (args := #[]))) (mvT hZ (hw _ (List.mem_of_getElem? (i := 139) rfl))) (by decide) (backOf (W := 0) (rm_22 l Z a0 hw [] a1 a2 dc kd h65 n0 (Nat.le_trans Z0 Kh65.1) (E_a1.wr W65) g_a1 (F_elementData.other W65 (Or.inr (slot_ne (Or.inl (hw _ (List.mem_of_getElem? (i := 104) rfl))) (Or.inl (hw _ (List.mem_of_getElem? (i := 101) rfl))) (by decide) (t := (.array (.object "java/lang/Object"))) (t' := .int) (by decide) (by decide)))) (F_size.other W65 (Or.inr (slot_ne (Or.inl (hw _ (List.mem_of_getElem? (i := 134) rfl))) (Or.inl (hw _ (List.mem_of_getElem? (i := 101) rfl))) (by decide) (t := .int) (t' := .int) (by decide) (by decide)))) S_DEFAULTCAPACITY_EMPTY_ELEMENTDATA (X00.wr W65 g_a1) (V_d.other W65 nd) (E_a2.wr W65)) hZ (hw _ (List.mem_of_getElem? (i := 139) rfl)) (hw _ (List.mem_of_getElem? (i := 83) rfl)) (by decide) (by decide)) (g := (mkF m 20 #[.val (.ref a1), .val (.ref a2)] [(.int (0 : Int32)), (.ref dc), (.ref a2), (.ref a1)])) rfl (by rw [hml]; rfl) (Steps.refl _) (a := a1) (by rw [e67]; exact q68) q68' (argsL := [(.ref a2), (.ref dc), (.int (0 : Int32))]) (rest := []) (lenOf pd__28Ljava_2flang_2fObject_3b_5bLjava_2flang_2fObject_3bI_29V rfl) rfl (by show 2 * 0 + _ ≤ _; exact Nat.le_of_eq rfl) (hb hby d21_20) (fun _ _ => ⟨rfl, e67, (by decide : 0 + 1 ≤ _), (by decide : 0 + 10 ≤ _)⟩)
  dsimp only [Pt.U, Pt.locs, Pt.cells, Pt.slots] at X68 l68 y68 z68 st68 hQ68
  subst l68 y68 z68
  obtain ⟨rfl, Nq68, K68⟩ := hQ68
  have N68 := Fr.app N65 Nq68
  have Kh68 : Keep h0 T68.heap [a1] := Kh65.trans K68 (allS (Or.inl (List.mem_of_getElem? (i := 0) rfl)) all0)
  obtain ⟨fs, hr, hrun, hended, hW, hsame⟩ := X68.leave (v := some (.int (1 : Int32))) (fun h => by rw [Bd.returns] at h; cases h)
  refine ⟨_, _, pre0 _ ?_, hrun, hended, _, _, rfl, ?_, ⟨_, rfl⟩, hW, hsame.mono (by decide) (by decide)⟩
  · show Steps p.tables e below (s₁.setTop (mkF m 0 #[.val (.ref a1), .val (.ref a2)] [])) _
    refine XS.aloadN X0.here hx rfl (hb hby d21_0) rfl rfl ?_
    show Steps p.tables e below (s₁.setTop (mkF m 1 #[.val (.ref a1), .val (.ref a2)] [(.ref a1)])) _
    refine XS.dup X0.here hx rfl (hb hby d21_1) rfl rfl ?_
    show Steps p.tables e below (s₁.setTop (mkF m 2 #[.val (.ref a1), .val (.ref a2)] [(.ref a1), (.ref a1)])) _
    refine st64 _ ?_
    show Steps p.tables e below (T64.setTop (mkF m 5 #[.val (.ref a1), .val (.ref a2)] [(.int (0 : Int32)), (.ref a1)])) _
    refine XS.iconst X64.here hx rfl (hb hby d21_5) ?_
    show Steps p.tables e below (T64.setTop (mkF m 6 #[.val (.ref a1), .val (.ref a2)] [(.int (1 : Int32)), (.int (0 : Int32)), (.ref a1)])) _
    refine XS.iadd X64.here hx rfl (hb hby d21_6) rfl ?_
    show Steps p.tables e below (T64.setTop (mkF m 7 #[.val (.ref a1), .val (.ref a2)] [(.int ((0 : Int32) + (1 : Int32))), (.ref a1)])) _
    rw [show ((0 : Int32) + (1 : Int32)) = (1 : Int32) from by decide]
    show Steps p.tables e below (T64.setTop (mkF m 7 #[.val (.ref a1), .val (.ref a2)] [(.int (1 : Int32)), (.ref a1)])) _
    refine st65 _ ?_
    show Steps p.tables e below (T65.setTop (mkF m 10 #[.val (.ref a1), .val (.ref a2)] [])) _
    refine XS.aloadN X65.here hx rfl (hb hby d21_10) rfl rfl ?_
    show Steps p.tables e below (T65.setTop (mkF m 11 #[.val (.ref a1), .val (.ref a2)] [(.ref a1)])) _
    refine XS.aloadN X65.here hx rfl (hb hby d21_11) rfl rfl ?_
    show Steps p.tables e below (T65.setTop (mkF m 12 #[.val (.ref a1), .val (.ref a2)] [(.ref a2), (.ref a1)])) _
    refine XS.aloadN X65.here hx rfl (hb hby d21_12) rfl rfl ?_
    show Steps p.tables e below (T65.setTop (mkF m 13 #[.val (.ref a1), .val (.ref a2)] [(.ref a1), (.ref a2), (.ref a1)])) _
    refine st66 _ ?_
    show Steps p.tables e below (T66.setTop (mkF m 16 #[.val (.ref a1), .val (.ref a2)] [(.ref dc), (.ref a2), (.ref a1)])) _
    refine XS.aloadN X66.here hx rfl (hb hby d21_16) rfl rfl ?_
    show Steps p.tables e below (T66.setTop (mkF m 17 #[.val (.ref a1), .val (.ref a2)] [(.ref a1), (.ref dc), (.ref a2), (.ref a1)])) _
    refine st67 _ ?_
    show Steps p.tables e below (T67.setTop (mkF m 20 #[.val (.ref a1), .val (.ref a2)] [(.int (0 : Int32)), (.ref dc), (.ref a2), (.ref a1)])) _
    refine st68.trans ?_
    show Steps p.tables e below (T68.setTop (mkF m 23 #[.val (.ref a1), .val (.ref a2)] [])) _
    refine XS.iconst X68.here hx rfl (hb hby d21_23) ?_
    show Steps p.tables e below (T68.setTop (mkF m 24 #[.val (.ref a1), .val (.ref a2)] [(.int (1 : Int32))])) _
    exact retN X68 hx (t := .boolean) Bd.returns (by simp) (hb hby d21_24) hr
  · show Q_21 Z a1 a2 h0 n0 _ T68.heap _
    exact ⟨rfl, N68, Kh68⟩
theorem d20_0 : decode jdk_18_method_1_code 0 = .ok (.aload_n 0, 1) := by decide +kernel
theorem d20_1 : decode jdk_18_method_1_code 1 = .ok (.invokespecial 1, 3) := by decide +kernel
theorem d20_4 : decode jdk_18_method_1_code 4 = .ok (.return_, 1) := by decide +kernel
theorem pn_20 : plainName "java/lang/Number" = true := by first | (simp [plainName, overriddenIn]; done) | decide +kernel
theorem ef_20 (m : MethodId) (x0 : Addr) : entryFrame m #[(.ref x0)] 1 = mkF m 0 #[.val (.ref x0)] [] := by first | (simp [entryFrame, mkF, argsToLocals, Value.category]; done) | rfl
def Q_20 (Z : State) (a1 : Addr) (h0 : Heap) (n0 : Nat) (v : Option Value) (h : Heap) (L : List Loc) : Prop := v = none ∧ Fr n0 L ∧ h = h0
set_option maxRecDepth 65536 in
set_option maxHeartbeats 40000000 in
theorem rm_20 (l : Launch) (Z : State) (a0 : Array Value) (hw : ∀ d ∈ tables_1, d.before a0 Z = true) (ws : List Jvm.Cond) (a1 : Addr) (h0 : Heap) (n0 : Nat) (Z0 : n0 ≤ h0.size) :
    MetFree l (⟨"java/lang/Number", "<init>", "()V"⟩ : MethodName) (head1 (Jvm.Cond.code (⟨"java/lang/Number", "<init>", "()V"⟩ : MethodName) jdk_18_method_1_code 1 none :: ws) ({ frames := 1, cells := 0, slots := 0, locals := 12 } : Room)) (fun a U => a = #[(.ref a1)] ∧ Z.Warmed39 U.vm ∧ U.heap = h0) (fun _ _ _ _ _ => True) (fun _ U o U' => ∃ v L, o = .returned v ∧ Q_20 Z a1 h0 n0 v U'.heap L ∧ FrameEnd U o U' L ({ frames := 1, cells := 0, slots := 0, locals := 12 } : Room).cells ({ frames := 1, cells := 0, slots := 0, locals := 12 } : Room).slots) := by
  refine MetFree.of_bodySF (plainFor_of_name pn_20) hisR ?_
  intro p e s m args below meth cod_ s₁ Bd hml0 hP hK
  obtain ⟨rfl, hZ, hh⟩ := hP
  have hx := Bd.exec
  have hby := Bd.bytes
  have hml : cod_.maxLocals = 1 := hml0
  have hown : s.vm.findClass "java/lang/Number" = some m.cls := findClass_of_methodNamed Bd.named
  have hnm := (name_of_methodNamed Bd.named Bd.method).1
  have X0 : Stand p l e ({ frames := 1, cells := 0, slots := 0, locals := 12 } : Room) s m #[(.ref a1)] below meth cod_ s₁ [] 0 0 := Stand.of_body Bd
  have e0 : s₁.heap = h0 := by rw [← hh, Bd.state]; rfl
  have N0 := Fr.nil n0
  have pre0 : ∀ t, Steps p.tables e below (s₁.setTop (mkF m 0 #[.val (.ref a1)] [])) t → Steps p.tables e below (s₁.setTop (entryFrame m #[(.ref a1)] 1)) t := fun t k => castTop (ef_20 m a1) k
  obtain ⟨T69, X69, e69, st69⟩ := initO X0 hx hZ hown (hw _ (List.mem_of_getElem? (i := 123) rfl)) (hw _ (List.mem_of_getElem? (i := 23) rfl)) (hw _ (List.mem_of_getElem? (i := 24) rfl)) e0 (g := (mkF m 1 #[.val (.ref a1)] [(.ref a1)])) rfl (by rw [hml]; rfl) rfl (hb hby d20_1) (by decide) (W := 0) (by show 2 * 0 + _ ≤ _; exact Nat.le_of_eq rfl) (by decide)
  obtain ⟨fs, hr, hrun, hended, hW, hsame⟩ := X69.leave (v := none) (fun _ => rfl)
  refine ⟨_, _, pre0 _ ?_, hrun, hended, _, _, rfl, ?_, ⟨_, rfl⟩, hW, hsame.mono (by decide) (by decide)⟩
  · show Steps p.tables e below (s₁.setTop (mkF m 0 #[.val (.ref a1)] [])) _
    refine XS.aloadN X0.here hx rfl (hb hby d20_0) rfl rfl ?_
    show Steps p.tables e below (s₁.setTop (mkF m 1 #[.val (.ref a1)] [(.ref a1)])) _
    refine st69 _ ?_
    show Steps p.tables e below (T69.setTop (mkF m 4 #[.val (.ref a1)] [])) _
    exact X69.returnOut hx Bd.returns (hb hby d20_4) hr
  · show Q_20 Z a1 h0 n0 _ T69.heap _
    rw [e69]
    exact ⟨rfl, N0, rfl⟩
theorem d19_0 : decode jdk_33_method_23_code 0 = .ok (.aload_n 0, 1) := by decide +kernel
theorem d19_1 : decode jdk_33_method_23_code 1 = .ok (.invokespecial 202, 3) := by decide +kernel
theorem d19_4 : decode jdk_33_method_23_code 4 = .ok (.aload_n 0, 1) := by decide +kernel
theorem d19_5 : decode jdk_33_method_23_code 5 = .ok (.iload_n 1, 1) := by decide +kernel
theorem d19_6 : decode jdk_33_method_23_code 6 = .ok (.putfield 205, 3) := by decide +kernel
theorem d19_9 : decode jdk_33_method_23_code 9 = .ok (.return_, 1) := by decide +kernel
theorem pn_19 : plainName "java/lang/Integer" = true := by first | (simp [plainName, overriddenIn]; done) | decide +kernel
theorem ef_19 (m : MethodId) (x0 : Addr) (x1 : Int32) : entryFrame m #[(.ref x0), (.int x1)] 2 = mkF m 0 #[.val (.ref x0), .val (.int x1)] [] := by first | (simp [entryFrame, mkF, argsToLocals, Value.category]; done) | rfl
def Q_19 (Z : State) (a1 : Addr) (p2 : Int32) (h0 : Heap) (n0 : Nat) (v : Option Value) (h : Heap) (L : List Loc) : Prop := v = none ∧ Fr n0 L ∧ Keep h0 h [a1] ∧ Exa Z h a1 "java/lang/Integer"
set_option maxRecDepth 65536 in
set_option maxHeartbeats 40000000 in
theorem rm_19 (l : Launch) (Z : State) (a0 : Array Value) (hw : ∀ d ∈ tables_1, d.before a0 Z = true) (ws : List Jvm.Cond) (a1 : Addr) (p2 : Int32) (h0 : Heap) (n0 : Nat) (Z0 : n0 ≤ h0.size) (E_a1 : Exa Z h0 a1 "java/lang/Integer") (g_a1 : n0 ≤ a1) (F_value : Fld Z h0 a1 "java/lang/Integer" "value" "I" (.int (0 : Int32))) :
    MetFree l (⟨"java/lang/Integer", "<init>", "(I)V"⟩ : MethodName) (head1 (Jvm.Cond.code (⟨"java/lang/Integer", "<init>", "(I)V"⟩ : MethodName) jdk_33_method_23_code 2 none :: ws) ({ frames := 2, cells := 0, slots := 0, locals := 24 } : Room)) (fun a U => a = #[(.ref a1), (.int p2)] ∧ Z.Warmed39 U.vm ∧ U.heap = h0) (fun _ _ _ _ _ => True) (fun _ U o U' => ∃ v L, o = .returned v ∧ Q_19 Z a1 p2 h0 n0 v U'.heap L ∧ FrameEnd U o U' L ({ frames := 2, cells := 0, slots := 0, locals := 24 } : Room).cells ({ frames := 2, cells := 0, slots := 0, locals := 24 } : Room).slots) := by
  refine MetFree.of_bodySF (plainFor_of_name pn_19) hisR ?_
  intro p e s m args below meth cod_ s₁ Bd hml0 hP hK
  obtain ⟨rfl, hZ, hh⟩ := hP
  have hx := Bd.exec
  have hby := Bd.bytes
  have hml : cod_.maxLocals = 2 := hml0
  have hown : s.vm.findClass "java/lang/Integer" = some m.cls := findClass_of_methodNamed Bd.named
  have hnm := (name_of_methodNamed Bd.named Bd.method).1
  have X0 : Stand p l e ({ frames := 2, cells := 0, slots := 0, locals := 24 } : Room) s m #[(.ref a1), (.int p2)] below meth cod_ s₁ [] 0 0 := Stand.of_body Bd
  have e0 : s₁.heap = h0 := by rw [← hh, Bd.state]; rfl
  have N0 := Fr.nil n0
  have pre0 : ∀ t, Steps p.tables e below (s₁.setTop (mkF m 0 #[.val (.ref a1), .val (.int p2)] [])) t → Steps p.tables e below (s₁.setTop (entryFrame m #[(.ref a1), (.int p2)] 2)) t := fun t k => castTop (ef_19 m a1 p2) k
  obtain ⟨_, _, ⟨T70, L70, c70_, n70_⟩, -, X70, ⟨Lc70, hQ70, l70, y70, z70⟩, st70⟩ := X0.specialBack hx (y := (⟨"java/lang/Number", "<init>", "()V"⟩ : MethodName)) rfl hown (mvT hZ (hw _ (List.mem_of_getElem? (i := 117) rfl))) (mvT hZ (hw _ (List.mem_of_getElem? (i := 118) rfl))) (mvT hZ (hw _ (List.mem_of_getElem? (i := 122) rfl))) (by decide) (backOf (W := 0) (rm_20 l Z a0 hw [] a1 h0 n0 (Nat.le_trans Z0 (Keep.refl h0 [a1]).1) ) hZ (hw _ (List.mem_of_getElem? (i := 122) rfl)) (hw _ (List.mem_of_getElem? (i := 121) rfl)) (by decide) (by decide)) (g := (mkF m 1 #[.val (.ref a1), .val (.int p2)] [(.ref a1)])) rfl (by rw [hml]; rfl) (Steps.refl _) (a := a1) (argsL := []) (rest := []) (lenOf pd__28_29V rfl) rfl (by show 2 * 0 + _ ≤ _; exact Nat.le_of_eq rfl) (hb hby d19_1) (fun _ _ => ⟨rfl, e0, (by decide : 0 + 0 ≤ _), (by decide : 0 + 0 ≤ _)⟩)
  dsimp only [Pt.U, Pt.locs, Pt.cells, Pt.slots] at X70 l70 y70 z70 st70 hQ70
  subst l70 y70 z70
  obtain ⟨rfl, Nq70, e70⟩ := hQ70
  have N70 := Fr.app N0 Nq70
  obtain ⟨T71, h71, X71, e71, W71, st71⟩ := putF X70 hx hZ hown (host := "") (Or.inl (hw _ (List.mem_of_getElem? (i := 124) rfl))) Via.refl e70 F_value E_a1 (Or.inr ⟨(hw _ (List.mem_of_getElem? (i := 125) rfl)), rfl, hnm⟩) (hw _ (List.mem_of_getElem? (i := 112) rfl)) (ty := .int) (by decide) rfl rfl (g := (mkF m 6 #[.val (.ref a1), .val (.int p2)] [(.int p2), (.ref a1)])) rfl rfl (hb hby d19_6)
  have Fw71 : Fld Z h71 a1 "java/lang/Integer" "value" "I" (.int p2) := F_value.same W71
  have N71 := Fr.snoc X71 N70 g_a1
  have Kh71 : Keep h0 h71 [a1] := (Keep.refl h0 [a1]).wr W71 (Or.inl (List.mem_of_getElem? (i := 0) rfl))
  obtain ⟨fs, hr, hrun, hended, hW, hsame⟩ := X71.leave (v := none) (fun _ => rfl)
  refine ⟨_, _, pre0 _ ?_, hrun, hended, _, _, rfl, ?_, ⟨_, rfl⟩, hW, hsame.mono (by decide) (by decide)⟩
  · show Steps p.tables e below (s₁.setTop (mkF m 0 #[.val (.ref a1), .val (.int p2)] [])) _
    refine XS.aloadN X0.here hx rfl (hb hby d19_0) rfl rfl ?_
    show Steps p.tables e below (s₁.setTop (mkF m 1 #[.val (.ref a1), .val (.int p2)] [(.ref a1)])) _
    refine st70.trans ?_
    show Steps p.tables e below (T70.setTop (mkF m 4 #[.val (.ref a1), .val (.int p2)] [])) _
    refine XS.aloadN X70.here hx rfl (hb hby d19_4) rfl rfl ?_
    show Steps p.tables e below (T70.setTop (mkF m 5 #[.val (.ref a1), .val (.int p2)] [(.ref a1)])) _
    refine XS.iloadN X70.here hx rfl (hb hby d19_5) rfl ?_
    show Steps p.tables e below (T70.setTop (mkF m 6 #[.val (.ref a1), .val (.int p2)] [(.int p2), (.ref a1)])) _
    refine st71 _ ?_
    show Steps p.tables e below (T71.setTop (mkF m 9 #[.val (.ref a1), .val (.int p2)] [])) _
    exact X71.returnOut hx Bd.returns (hb hby d19_9) hr
  · show Q_19 Z a1 p2 h0 n0 _ T71.heap _
    rw [e71]
    exact ⟨rfl, N71, Kh71, (E_a1.wr W71)⟩
theorem d18_0 : decode jdk_33_method_22_code 0 = .ok (.iload_n 0, 1) := by decide +kernel
theorem d18_1 : decode jdk_33_method_22_code 1 = .ok (.bipush (-128), 2) := by decide +kernel
theorem d18_3 : decode jdk_33_method_22_code 3 = .ok (.if_icmp .lt 20, 3) := by decide +kernel
theorem d18_6 : decode jdk_33_method_22_code 6 = .ok (.iload_n 0, 1) := by decide +kernel
theorem d18_7 : decode jdk_33_method_22_code 7 = .ok (.getstatic 191, 3) := by decide +kernel
theorem d18_10 : decode jdk_33_method_22_code 10 = .ok (.if_icmp .gt 13, 3) := by decide +kernel
theorem d18_13 : decode jdk_33_method_22_code 13 = .ok (.getstatic 195, 3) := by decide +kernel
theorem d18_16 : decode jdk_33_method_22_code 16 = .ok (.iload_n 0, 1) := by decide +kernel
theorem d18_17 : decode jdk_33_method_22_code 17 = .ok (.sipush 128, 3) := by decide +kernel
theorem d18_20 : decode jdk_33_method_22_code 20 = .ok (.iadd, 1) := by decide +kernel
theorem d18_21 : decode jdk_33_method_22_code 21 = .ok (.aaload, 1) := by decide +kernel
theorem d18_22 : decode jdk_33_method_22_code 22 = .ok (.areturn, 1) := by decide +kernel
theorem d18_23 : decode jdk_33_method_22_code 23 = .ok (.new 1, 3) := by decide +kernel
theorem d18_26 : decode jdk_33_method_22_code 26 = .ok (.dup, 1) := by decide +kernel
theorem d18_27 : decode jdk_33_method_22_code 27 = .ok (.iload_n 0, 1) := by decide +kernel
theorem d18_28 : decode jdk_33_method_22_code 28 = .ok (.invokespecial 199, 3) := by decide +kernel
theorem d18_31 : decode jdk_33_method_22_code 31 = .ok (.areturn, 1) := by decide +kernel
theorem pd__28I_29V : parseMethodDescriptor "(I)V" = some ⟨[.int], none⟩ := by decide +kernel
theorem pn_18 : plainName "java/lang/Integer" = true := by first | (simp [plainName, overriddenIn]; done) | decide +kernel
theorem ef_18 (m : MethodId) (x0 : Int32) : entryFrame m #[(.int x0)] 1 = mkF m 0 #[.val (.int x0)] [] := by first | (simp [entryFrame, mkF, argsToLocals, Value.category]; done) | rfl
def Q_18 (Z : State) (p1 : Int32) (h0 : Heap) (n0 : Nat) (v : Option Value) (h : Heap) (L : List Loc) : Prop := ∃ r : Addr, v = some (.ref r) ∧ Fr n0 L ∧ Keep h0 h [] ∧ Exa Z h r "java/lang/Integer"
set_option maxRecDepth 65536 in
set_option maxHeartbeats 40000000 in
theorem rm_18 (l : Launch) (Z : State) (a0 : Array Value) (hw : ∀ d ∈ tables_1, d.before a0 Z = true) (ws : List Jvm.Cond) (p1 : Int32) (ca : Addr) (cc : Cell) (h0 : Heap) (n0 : Nat) (Z0 : n0 ≤ h0.size) (S_high : Sta Z Z.heap "java/lang/Integer$IntegerCache" "high" "I" (.int (127 : Int32))) (S_cache : Sta Z Z.heap "java/lang/Integer$IntegerCache" "cache" "[Ljava/lang/Integer;" (.ref ca)) (B_c : Bxs Z ca cc "java/lang/Integer" "I" (256 : Int32) (fun j => .int (j - (128 : Int32)))) (X00 : Old Z n0 h0) :
    MetFree l (⟨"java/lang/Integer", "valueOf", "(I)Ljava/lang/Integer;"⟩ : MethodName) (head1 (Jvm.Cond.code (⟨"java/lang/Integer", "valueOf", "(I)Ljava/lang/Integer;"⟩ : MethodName) jdk_33_method_22_code 1 (some (.object "java/lang/Integer")) :: ws) ({ frames := 3, cells := 1, slots := 1, locals := 38 } : Room)) (fun a U => a = #[(.int p1)] ∧ Z.Warmed39 U.vm ∧ U.heap = h0) (fun _ _ _ _ _ => True) (fun _ U o U' => ∃ v L, o = .returned v ∧ Q_18 Z p1 h0 n0 v U'.heap L ∧ FrameEnd U o U' L ({ frames := 3, cells := 1, slots := 1, locals := 38 } : Room).cells ({ frames := 3, cells := 1, slots := 1, locals := 38 } : Room).slots) := by
  refine MetFree.of_bodySF (plainFor_of_name pn_18) hisR ?_
  intro p e s m args below meth cod_ s₁ Bd hml0 hP hK
  obtain ⟨rfl, hZ, hh⟩ := hP
  have hx := Bd.exec
  have hby := Bd.bytes
  have hml : cod_.maxLocals = 1 := hml0
  have hown : s.vm.findClass "java/lang/Integer" = some m.cls := findClass_of_methodNamed Bd.named
  have hnm := (name_of_methodNamed Bd.named Bd.method).1
  have X0 : Stand p l e ({ frames := 3, cells := 1, slots := 1, locals := 38 } : Room) s m #[(.int p1)] below meth cod_ s₁ [] 0 0 := Stand.of_body Bd
  have e0 : s₁.heap = h0 := by rw [← hh, Bd.state]; rfl
  have N0 := Fr.nil n0
  have pre0 : ∀ t, Steps p.tables e below (s₁.setTop (mkF m 0 #[.val (.int p1)] [])) t → Steps p.tables e below (s₁.setTop (entryFrame m #[(.int p1)] 1)) t := fun t k => castTop (ef_18 m p1) k
  by_cases hc3 : p1 < (-128 : Int32)
  · obtain ⟨T72, h72, X72, e72, E72, A72, D72, -, st72⟩ := newO X0 hx hZ hown (hw _ (List.mem_of_getElem? (i := 111) rfl)) (hw _ (List.mem_of_getElem? (i := 112) rfl)) (hw _ (List.mem_of_getElem? (i := 107) rfl)) e0 (g := (mkF m 23 #[.val (.int p1)] [])) rfl (hb hby d18_23) (by decide) (by decide)
    obtain ⟨b72, g72⟩ : ∃ z, z = h0.size := ⟨_, rfl⟩
    rw [← g72] at A72 D72 st72
    have g_b72 : n0 ≤ b72 := Nat.le_trans (Nat.le_trans Z0 (Keep.refl h0 []).1) (Nat.le_of_eq g72.symm)
    have sz_b72 : h0.size ≤ b72 := Nat.le_trans (Keep.refl h0 []).1 (Nat.le_of_eq g72.symm)
    have Kh72 : Keep h0 h72 [] := (Keep.refl h0 []).ext E72
    have F_value_b72 : Fld Z h72 b72 "java/lang/Integer" "value" "I" (.int (0 : Int32)) := D72 (Or.inr (hw _ (List.mem_of_getElem? (i := 125) rfl))) (ty := .int) (by decide)
    obtain ⟨_, _, ⟨T73, L73, c73_, n73_⟩, -, X73, ⟨Lc73, hQ73, l73, y73, z73⟩, st73⟩ := X72.specialBack hx (y := (⟨"java/lang/Integer", "<init>", "(I)V"⟩ : MethodName)) rfl hown (mvT hZ (hw _ (List.mem_of_getElem? (i := 113) rfl))) (mvT hZ (hw _ (List.mem_of_getElem? (i := 114) rfl))) (mvT hZ (hw _ (List.mem_of_getElem? (i := 116) rfl))) (by decide) (backOf (W := 1) (rm_19 l Z a0 hw [] b72 p1 h72 n0 (Nat.le_trans Z0 Kh72.1) A72 g_b72 F_value_b72) hZ (hw _ (List.mem_of_getElem? (i := 116) rfl)) (hw _ (List.mem_of_getElem? (i := 107) rfl)) (by decide) (by decide)) (g := (mkF m 28 #[.val (.int p1)] [(.int p1), (.ref b72), (.ref b72)])) rfl (by rw [hml]; rfl) (Steps.refl _) (a := b72) (argsL := [(.int p1)]) (rest := [(.ref b72)]) (lenOf pd__28I_29V rfl) rfl (by show 2 * 0 + _ ≤ _; exact Nat.le_of_eq rfl) (hb hby d18_28) (fun _ _ => ⟨rfl, e72, (by decide : 1 + 0 ≤ _), (by decide : 1 + 0 ≤ _)⟩)
    dsimp only [Pt.U, Pt.locs, Pt.cells, Pt.slots] at X73 l73 y73 z73 st73 hQ73
    subst l73 y73 z73
    obtain ⟨rfl, Nq73, K73, Ee73⟩ := hQ73
    have N73 := Fr.app N0 Nq73
    have Kh73 : Keep h0 T73.heap [] := Kh72.trans K73 (allS (Or.inr sz_b72) all0)
    obtain ⟨fs, hr, hrun, hended, hW, hsame⟩ := X73.leave (v := some (.ref b72)) (fun h => by rw [Bd.returns] at h; cases h)
    refine ⟨_, _, pre0 _ ?_, hrun, hended, _, _, rfl, ?_, ⟨_, rfl⟩, hW, hsame.mono (by decide) (by decide)⟩
    · show Steps p.tables e below (s₁.setTop (mkF m 0 #[.val (.int p1)] [])) _
      refine XS.iloadN X0.here hx rfl (hb hby d18_0) rfl ?_
      show Steps p.tables e below (s₁.setTop (mkF m 1 #[.val (.int p1)] [(.int p1)])) _
      refine XS.bipush X0.here hx rfl (hb hby d18_1) ?_
      show Steps p.tables e below (s₁.setTop (mkF m 3 #[.val (.int p1)] [(.int (-128 : Int32)), (.int p1)])) _
      refine XS.icmpYes X0.here hx rfl (pc0 := 3) (pc' := 23) rfl (hb hby d18_3) rfl (tlt hc3).1 (by decide) (by decide) ?_
      show Steps p.tables e below (s₁.setTop (mkF m 23 #[.val (.int p1)] [])) _
      refine st72 _ ?_
      show Steps p.tables e below (T72.setTop (mkF m 26 #[.val (.int p1)] [(.ref b72)])) _
      refine XS.dup X72.here hx rfl (hb hby d18_26) rfl rfl ?_
      show Steps p.tables e below (T72.setTop (mkF m 27 #[.val (.int p1)] [(.ref b72), (.ref b72)])) _
      refine XS.iloadN X72.here hx rfl (hb hby d18_27) rfl ?_
      show Steps p.tables e below (T72.setTop (mkF m 28 #[.val (.int p1)] [(.int p1), (.ref b72), (.ref b72)])) _
      refine st73.trans ?_
      show Steps p.tables e below (T73.setTop (mkF m 31 #[.val (.int p1)] [(.ref b72)])) _
      jvm_step X73.here [X73.here.top, hx, (hb hby d18_31), X73.method', Bd.returns, Value.isRef, FieldType.isReference]
      first | (intro acts; rw [hr _ acts rfl rfl rfl]) | rw [hr _ _ rfl rfl rfl]
      exact Steps.refl _
    · show Q_18 Z p1 h0 n0 _ T73.heap _
      exact ⟨b72, rfl, N73, Kh73, Ee73⟩
  · obtain ⟨T74, X74, e74, st74⟩ := getS2 X0 hx hZ hown (host := "") (Or.inl (hw _ (List.mem_of_getElem? (i := 109) rfl))) Via.refl e0 (S_high.ext X00.2) (g := (mkF m 7 #[.val (.int p1)] [(.int p1)])) rfl (hb hby d18_7)
    by_cases hc10 : (127 : Int32) < p1
    · obtain ⟨T75, h75, X75, e75, E75, A75, D75, -, st75⟩ := newO X74 hx hZ hown (hw _ (List.mem_of_getElem? (i := 111) rfl)) (hw _ (List.mem_of_getElem? (i := 112) rfl)) (hw _ (List.mem_of_getElem? (i := 107) rfl)) e74 (g := (mkF m 23 #[.val (.int p1)] [])) rfl (hb hby d18_23) (by decide) (by decide)
      obtain ⟨b75, g75⟩ : ∃ z, z = h0.size := ⟨_, rfl⟩
      rw [← g75] at A75 D75 st75
      have g_b75 : n0 ≤ b75 := Nat.le_trans (Nat.le_trans Z0 (Keep.refl h0 []).1) (Nat.le_of_eq g75.symm)
      have sz_b75 : h0.size ≤ b75 := Nat.le_trans (Keep.refl h0 []).1 (Nat.le_of_eq g75.symm)
      have Kh75 : Keep h0 h75 [] := (Keep.refl h0 []).ext E75
      have F_value_b75 : Fld Z h75 b75 "java/lang/Integer" "value" "I" (.int (0 : Int32)) := D75 (Or.inr (hw _ (List.mem_of_getElem? (i := 125) rfl))) (ty := .int) (by decide)
      obtain ⟨_, _, ⟨T76, L76, c76_, n76_⟩, -, X76, ⟨Lc76, hQ76, l76, y76, z76⟩, st76⟩ := X75.specialBack hx (y := (⟨"java/lang/Integer", "<init>", "(I)V"⟩ : MethodName)) rfl hown (mvT hZ (hw _ (List.mem_of_getElem? (i := 113) rfl))) (mvT hZ (hw _ (List.mem_of_getElem? (i := 114) rfl))) (mvT hZ (hw _ (List.mem_of_getElem? (i := 116) rfl))) (by decide) (backOf (W := 1) (rm_19 l Z a0 hw [] b75 p1 h75 n0 (Nat.le_trans Z0 Kh75.1) A75 g_b75 F_value_b75) hZ (hw _ (List.mem_of_getElem? (i := 116) rfl)) (hw _ (List.mem_of_getElem? (i := 107) rfl)) (by decide) (by decide)) (g := (mkF m 28 #[.val (.int p1)] [(.int p1), (.ref b75), (.ref b75)])) rfl (by rw [hml]; rfl) (Steps.refl _) (a := b75) (argsL := [(.int p1)]) (rest := [(.ref b75)]) (lenOf pd__28I_29V rfl) rfl (by show 2 * 0 + _ ≤ _; exact Nat.le_of_eq rfl) (hb hby d18_28) (fun _ _ => ⟨rfl, e75, (by decide : 1 + 0 ≤ _), (by decide : 1 + 0 ≤ _)⟩)
      dsimp only [Pt.U, Pt.locs, Pt.cells, Pt.slots] at X76 l76 y76 z76 st76 hQ76
      subst l76 y76 z76
      obtain ⟨rfl, Nq76, K76, Ee76⟩ := hQ76
      have N76 := Fr.app N0 Nq76
      have Kh76 : Keep h0 T76.heap [] := Kh75.trans K76 (allS (Or.inr sz_b75) all0)
      obtain ⟨fs, hr, hrun, hended, hW, hsame⟩ := X76.leave (v := some (.ref b75)) (fun h => by rw [Bd.returns] at h; cases h)
      refine ⟨_, _, pre0 _ ?_, hrun, hended, _, _, rfl, ?_, ⟨_, rfl⟩, hW, hsame.mono (by decide) (by decide)⟩
      · show Steps p.tables e below (s₁.setTop (mkF m 0 #[.val (.int p1)] [])) _
        refine XS.iloadN X0.here hx rfl (hb hby d18_0) rfl ?_
        show Steps p.tables e below (s₁.setTop (mkF m 1 #[.val (.int p1)] [(.int p1)])) _
        refine XS.bipush X0.here hx rfl (hb hby d18_1) ?_
        show Steps p.tables e below (s₁.setTop (mkF m 3 #[.val (.int p1)] [(.int (-128 : Int32)), (.int p1)])) _
        refine XS.icmpNo X0.here hx rfl (hb hby d18_3) rfl (flt hc3).1 ?_
        show Steps p.tables e below (s₁.setTop (mkF m 6 #[.val (.int p1)] [])) _
        refine XS.iloadN X0.here hx rfl (hb hby d18_6) rfl ?_
        show Steps p.tables e below (s₁.setTop (mkF m 7 #[.val (.int p1)] [(.int p1)])) _
        refine st74 _ ?_
        show Steps p.tables e below (T74.setTop (mkF m 10 #[.val (.int p1)] [(.int (127 : Int32)), (.int p1)])) _
        refine XS.icmpYes X74.here hx rfl (pc0 := 10) (pc' := 23) rfl (hb hby d18_10) rfl (tlt hc10).2.2.1 (by decide) (by decide) ?_
        show Steps p.tables e below (T74.setTop (mkF m 23 #[.val (.int p1)] [])) _
        refine st75 _ ?_
        show Steps p.tables e below (T75.setTop (mkF m 26 #[.val (.int p1)] [(.ref b75)])) _
        refine XS.dup X75.here hx rfl (hb hby d18_26) rfl rfl ?_
        show Steps p.tables e below (T75.setTop (mkF m 27 #[.val (.int p1)] [(.ref b75), (.ref b75)])) _
        refine XS.iloadN X75.here hx rfl (hb hby d18_27) rfl ?_
        show Steps p.tables e below (T75.setTop (mkF m 28 #[.val (.int p1)] [(.int p1), (.ref b75), (.ref b75)])) _
        refine st76.trans ?_
        show Steps p.tables e below (T76.setTop (mkF m 31 #[.val (.int p1)] [(.ref b75)])) _
        jvm_step X76.here [X76.here.top, hx, (hb hby d18_31), X76.method', Bd.returns, Value.isRef, FieldType.isReference]
        first | (intro acts; rw [hr _ acts rfl rfl rfl]) | rw [hr _ _ rfl rfl rfl]
        exact Steps.refl _
      · show Q_18 Z p1 h0 n0 _ T76.heap _
        exact ⟨b75, rfl, N76, Kh76, Ee76⟩
    · obtain ⟨T77, X77, e77, st77⟩ := getS2 X74 hx hZ hown (host := "") (Or.inl (hw _ (List.mem_of_getElem? (i := 177) rfl))) Via.refl e74 (S_cache.ext X00.2) (g := (mkF m 13 #[.val (.int p1)] [])) rfl (hb hby d18_13)
      obtain ⟨Ar78, Sz78, -⟩ := B_c.ext X00.2
      have hin78 : ¬ ((p1 + (128 : Int32)) < 0 ∨ cc.slots.size ≤ ((p1 + (128 : Int32))).toNatClampNeg) := inb_of Sz78 (own_idx p1 hc3 hc10)
      obtain ⟨r78, hat78, Er78, -⟩ := B_c.2.2.2 _ hin78
      have Ex78 := Er78.ext X00.2
      obtain ⟨fs, hr, hrun, hended, hW, hsame⟩ := X77.leave (v := some (.ref r78)) (fun h => by rw [Bd.returns] at h; cases h)
      refine ⟨_, _, pre0 _ ?_, hrun, hended, _, _, rfl, ?_, ⟨_, rfl⟩, hW, hsame.mono (by decide) (by decide)⟩
      · show Steps p.tables e below (s₁.setTop (mkF m 0 #[.val (.int p1)] [])) _
        refine XS.iloadN X0.here hx rfl (hb hby d18_0) rfl ?_
        show Steps p.tables e below (s₁.setTop (mkF m 1 #[.val (.int p1)] [(.int p1)])) _
        refine XS.bipush X0.here hx rfl (hb hby d18_1) ?_
        show Steps p.tables e below (s₁.setTop (mkF m 3 #[.val (.int p1)] [(.int (-128 : Int32)), (.int p1)])) _
        refine XS.icmpNo X0.here hx rfl (hb hby d18_3) rfl (flt hc3).1 ?_
        show Steps p.tables e below (s₁.setTop (mkF m 6 #[.val (.int p1)] [])) _
        refine XS.iloadN X0.here hx rfl (hb hby d18_6) rfl ?_
        show Steps p.tables e below (s₁.setTop (mkF m 7 #[.val (.int p1)] [(.int p1)])) _
        refine st74 _ ?_
        show Steps p.tables e below (T74.setTop (mkF m 10 #[.val (.int p1)] [(.int (127 : Int32)), (.int p1)])) _
        refine XS.icmpNo X74.here hx rfl (hb hby d18_10) rfl (flt hc10).2.2.1 ?_
        show Steps p.tables e below (T74.setTop (mkF m 13 #[.val (.int p1)] [])) _
        refine st77 _ ?_
        show Steps p.tables e below (T77.setTop (mkF m 16 #[.val (.int p1)] [(.ref ca)])) _
        refine XS.iloadN X77.here hx rfl (hb hby d18_16) rfl ?_
        show Steps p.tables e below (T77.setTop (mkF m 17 #[.val (.int p1)] [(.int p1), (.ref ca)])) _
        refine XS.sipush X77.here hx rfl (hb hby d18_17) ?_
        show Steps p.tables e below (T77.setTop (mkF m 20 #[.val (.int p1)] [(.int (128 : Int32)), (.int p1), (.ref ca)])) _
        refine XS.iadd X77.here hx rfl (hb hby d18_20) rfl ?_
        show Steps p.tables e below (T77.setTop (mkF m 21 #[.val (.int p1)] [(.int (p1 + (128 : Int32))), (.ref ca)])) _
        refine X77.aaload hx (j := (p1 + (128 : Int32))) (v := (.ref r78)) (by rw [e77]; exact Ar78.1) (State.isArrayOf_alike hZ.alike Ar78.2.1) rfl Ar78.2.2 hin78 hat78 (g := (mkF m 21 #[.val (.int p1)] [(.int (p1 + (128 : Int32))), (.ref ca)])) rfl rfl (hb hby d18_21) _ ?_
        show Steps p.tables e below (T77.setTop (mkF m 22 #[.val (.int p1)] [(.ref r78)])) _
        jvm_step X77.here [X77.here.top, hx, (hb hby d18_22), X77.method', Bd.returns, Value.isRef, FieldType.isReference]
        first | (intro acts; rw [hr _ acts rfl rfl rfl]) | rw [hr _ _ rfl rfl rfl]
        exact Steps.refl _
      · show Q_18 Z p1 h0 n0 _ T77.heap _
        rw [e77]
        exact ⟨r78, rfl, N0, (Keep.refl h0 []), Ex78⟩
theorem pd__28Ljava_2flang_2fObject_3b_29Lcom_2fexample_2fkeelson_2fkeelson_2fcore_2fEnvelope_3b : parseMethodDescriptor "(Ljava/lang/Object;)Lcom/example/keelson/keelson/core/Envelope;" = some ⟨[(.object "java/lang/Object")], some (.object "com/example/keelson/keelson/core/Envelope")⟩ := by decide +kernel
theorem pd__28_29Ljava_2flang_2fString_3b : parseMethodDescriptor "()Ljava/lang/String;" = some ⟨[], some (.object "java/lang/String")⟩ := by decide +kernel
theorem pd__28_29I : parseMethodDescriptor "()I" = some ⟨[], some .int⟩ := by decide +kernel
theorem pd__28I_29C : parseMethodDescriptor "(I)C" = some ⟨[.int], some .char⟩ := by decide +kernel
theorem pd__28_29Ljava_2flang_2fObject_3b : parseMethodDescriptor "()Ljava/lang/Object;" = some ⟨[], some (.object "java/lang/Object")⟩ := by decide +kernel
theorem pd__28I_29Ljava_2flang_2fInteger_3b : parseMethodDescriptor "(I)Ljava/lang/Integer;" = some ⟨[.int], some (.object "java/lang/Integer")⟩ := by decide +kernel
theorem pd__28_5bC_29V : parseMethodDescriptor "([C)V" = some ⟨[(.array .char)], none⟩ := by decide +kernel
theorem pd__28Ljava_2flang_2fObject_3b_29Z : parseMethodDescriptor "(Ljava/lang/Object;)Z" = some ⟨[(.object "java/lang/Object")], some .boolean⟩ := by decide +kernel
theorem pn_0 : plainName "com/example/keelson/keelson/core/EnvelopeOkPinLaw" = true := by first | (simp [plainName, overriddenIn]; done) | decide +kernel
theorem ef_0 (m : MethodId) (x0 : Int32) (x1 : Int32) (x2 : Int32) (x3 : Int32) : entryFrame m #[(.int x0), (.int x1), (.int x2), (.int x3)] maxLocals = mkF m 0 #[.val (.int x0), .val (.int x1), .val (.int x2), .val (.int x3), .unset, .unset, .unset, .unset] [] := by first | (simp [entryFrame, mkF, argsToLocals, Value.category, maxLocals]; done) | rfl
def Q_0 (Z : State) (p1 : Int32) (p2 : Int32) (p3 : Int32) (p4 : Int32) (h0 : Heap) (n0 : Nat) (v : Option Value) (h : Heap) (L : List Loc) : Prop := v = some (.int 1) ∧ Fr n0 L
set_option maxRecDepth 65536 in
set_option maxHeartbeats 40000000 in
theorem rm_0 (l : Launch) (Z : State) (a0 : Array Value) (hw : ∀ d ∈ tables_1, d.before a0 Z = true) (ws : List Jvm.Cond) (p1 : Int32) (p2 : Int32) (p3 : Int32) (p4 : Int32) (zc : Int32) (fm : Value) (dc : Addr) (kd : ClassId) (ca : Addr) (cc : Cell) (h0 : Heap) (n0 : Nat) (Z0 : n0 ≤ h0.size) (S_C : Sta Z Z.heap "java/lang/String" "COMPACT_STRINGS" "Z" (.int zc)) (hz : ¬ zc = 0) (X00 : Old Z n0 h0) (rf : fm.isRef = true) (S_F : Sta Z Z.heap "jdk/internal/util/Preconditions" "SIOOBE_FORMATTER" "Ljava/util/function/BiFunction;" fm) (S_DEFAULTCAPACITY_EMPTY_ELEMENTDATA : Sta Z Z.heap "java/util/ArrayList" "DEFAULTCAPACITY_EMPTY_ELEMENTDATA" "[Ljava/lang/Object;" (.ref dc)) (V_d : Arv Z h0 dc kd (.object "java/lang/Object") (0 : Int32) [] .null) (S_high : Sta Z Z.heap "java/lang/Integer$IntegerCache" "high" "I" (.int (127 : Int32))) (S_cache : Sta Z Z.heap "java/lang/Integer$IntegerCache" "cache" "[Ljava/lang/Integer;" (.ref ca)) (B_c : Bxs Z ca cc "java/lang/Integer" "I" (256 : Int32) (fun j => .int (j - (128 : Int32)))) :
    MetFree l x (head1 (Jvm.Cond.code x code maxLocals ret :: ws) room_1) (fun a U => a = #[(.int p1), (.int p2), (.int p3), (.int p4)] ∧ Z.Warmed39 U.vm ∧ U.heap = h0 ∧ CHv Z own_EL U.vm h0) (fun _ _ _ _ _ => True) (fun _ U o U' => ∃ v L, o = .returned v ∧ Q_0 Z p1 p2 p3 p4 h0 n0 v U'.heap L ∧ ReturnedEndW U o U' L room_1.cells room_1.slots) := by
  refine MetFree.of_bodySF (plainFor_of_name pn_0) hisR ?_
  intro p e s m args below meth cod_ s₁ Bd hml0 hP hK
  obtain ⟨rfl, hZ, hh, hC⟩ := hP
  have hx := Bd.exec
  have hby := Bd.bytes
  have hml : cod_.maxLocals = 8 := hml0
  have hown : s.vm.findClass "com/example/keelson/keelson/core/EnvelopeOkPinLaw" = some m.cls := findClass_of_methodNamed Bd.named
  have hnm := (name_of_methodNamed Bd.named Bd.method).1
  have X0 : Stand p l e room_1 s m #[(.int p1), (.int p2), (.int p3), (.int p4)] below meth cod_ s₁ [] 0 0 := Stand.of_body Bd
  have e0 : s₁.heap = h0 := by rw [← hh, Bd.state]; rfl
  have N0 := Fr.nil n0
  have pre0 : ∀ t, Steps p.tables e below (s₁.setTop (mkF m 0 #[.val (.int p1), .val (.int p2), .val (.int p3), .val (.int p4), .unset, .unset, .unset, .unset] [])) t → Steps p.tables e below (s₁.setTop (entryFrame m #[(.int p1), (.int p2), (.int p3), (.int p4)] maxLocals)) t := fun t k => castTop (ef_0 m p1 p2 p3 p4) k
  have hEL : EW Z a0 own_EL := own_EW hw
  have hstr : ∀ d ∈ Bundle.stringAtoms, d.before a0 Z = true := fun d hd => hw d ((by decide +kernel : ∀ d ∈ Bundle.stringAtoms, d ∈ tables_1) d hd)
  have hws : ∀ d ∈ StrChars.Road.words, d.before a0 Z = true := fun d hd => hw d ((by decide +kernel : ∀ d ∈ StrChars.Road.words, d ∈ tables_1) d hd)
  by_cases hc7 : (p1 &&& (3 : Int32)) = (0 : Int32)
  · obtain ⟨_, _, ⟨T79, L79, c79_, n79_⟩, -, X79, hSc79, hgc79, ⟨Lc79, hQ79, l79, y79, z79, hCr79⟩, st79⟩ := callSS (s := s) X0 hx (y := (⟨"com/example/keelson/keelson/core/Envelope", "ok", "(Ljava/lang/Object;)Lcom/example/keelson/keelson/core/Envelope;"⟩ : MethodName)) hown (mvT hZ (hw _ (List.mem_of_getElem? (i := 0) rfl))) (mvT hZ (hw _ (List.mem_of_getElem? (i := 1) rfl))) (mvT hZ (hw _ (List.mem_of_getElem? (i := 2) rfl))) (mvT hZ (hw _ (List.mem_of_getElem? (i := 3) rfl))) (by decide) (backOfSH (s := s) (vm0 := s.vm) (W := 0) (rm_1n l Z a0 hw []  h0 n0 (Nat.le_trans Z0 (Keep.refl h0 []).1) ) hZ (hw _ (List.mem_of_getElem? (i := 3) rfl)) (hw _ (List.mem_of_getElem? (i := 2) rfl)) (by decide) (by decide) hEL (CHv.keep (Keep.refl h0 []) (fun _ q_ => nomatch q_) hC)) (g := (mkF m 101 #[.val (.int p1), .val (.int p2), .val (.int p3), .val (.int p4), .val (.int (p1 &&& (3 : Int32))), .val .null, .unset, .unset] [.null])) rfl (by rw [hml]; rfl) (argsL := [.null]) (rest := []) (lenOf pd__28Ljava_2flang_2fObject_3b_29Lcom_2fexample_2fkeelson_2fkeelson_2fcore_2fEnvelope_3b rfl) rfl (by show 2 * 0 + _ ≤ _; exact Nat.le_of_eq rfl) (hb hby at_101) (fun _ _ => ⟨rfl, e0, (by decide : 0 + 3 ≤ _), (by decide : 0 + 15 ≤ _)⟩)
    dsimp only [Pt.U, Pt.locs, Pt.cells, Pt.slots] at X79 l79 y79 z79 st79 hQ79
    subst l79 y79 z79
    obtain ⟨rfl, Nq79, K79, Ee79, Fo79, Fd79, ma79, ta79, kb79, Fm79, Em79, Fc79, Fv79, Va79⟩ := hQ79
    have N79 := Fr.app N0 Nq79
    have hZ79 : Z.Warmed39 (s.setVm T79.vm).vm := State.Warmed39.trans hZ hSc79.1
    have hown79 : (s.setVm T79.vm).vm.findClass "com/example/keelson/keelson/core/EnvelopeOkPinLaw" = some m.cls := (hSc79.1.alike.findClass _ _).trans hown
    have Kh79 : Keep h0 T79.heap [] := (Keep.refl h0 []).trans K79 (fun _ q_ => nomatch q_)
    obtain ⟨b79, g79⟩ : ∃ z, z = h0.size := ⟨_, rfl⟩
    rw [← g79] at st79 Ee79 Fo79 Fd79 Fm79
    have ne_dc_b79 : dc ≠ b79 := Nat.ne_of_lt (Nat.lt_of_lt_of_le V_d.lt (Nat.le_of_eq g79.symm))
    obtain ⟨cq80, kq80, q80a, q80b, q80c⟩ := isOf hZ79 rfl Ee79
    obtain ⟨_, _, ⟨T80, L80, c80_, n80_⟩, -, X80, ⟨Lc80, hQ80, l80, y80, z80⟩, st80⟩ := X79.virtualBack hx (y := (⟨"com/example/keelson/keelson/core/Envelope", "message", "()Ljava/lang/String;"⟩ : MethodName)) (z := (⟨"com/example/keelson/keelson/core/Envelope", "message", "()Ljava/lang/String;"⟩ : MethodName)) hown79 (mvT hZ79 (hw _ (List.mem_of_getElem? (i := 31) rfl))) (mvT hZ79 (hw _ (List.mem_of_getElem? (i := 32) rfl))) (notFace_of_selects (args := #[]) (mvT hZ79 (hw _ (List.mem_of_getElem? (i := 34) rfl)))) (mvT hZ79 (hw _ (List.mem_of_getElem? (i := 34) rfl))) (mvT hZ79 (hw _ (List.mem_of_getElem? (i := 33) rfl))) (by decide) (backOf (W := 0) (rm_5 l Z a0 hw [] b79 ma79 T79.heap n0 (Nat.le_trans Z0 Kh79.1) Fm79) hZ79 (hw _ (List.mem_of_getElem? (i := 35) rfl)) (hw _ (List.mem_of_getElem? (i := 2) rfl)) (by decide) (by decide)) q80a q80c (g := (mkF m 108 #[.val (.int p1), .val (.int p2), .val (.int p3), .val (.int p4), .val (.int (p1 &&& (3 : Int32))), .val .null, .val (.ref b79), .unset] [(.ref b79)])) rfl (by rw [hml]; rfl) (Steps.refl _) (argsL := []) (rest := []) (lenOf pd__28_29Ljava_2flang_2fString_3b rfl) rfl (by show 2 * 0 + _ ≤ _; exact Nat.le_of_eq rfl) (hb hby at_108) (fun _ _ => ⟨rfl, rfl, (by decide : 3 + 0 ≤ _), (by decide : 15 + 0 ≤ _)⟩)
    dsimp only [Pt.U, Pt.locs, Pt.cells, Pt.slots] at X80 l80 y80 z80 st80 hQ80
    subst l80 y80 z80
    obtain ⟨rfl, Nq80, e80⟩ := hQ80
    have N80 := Fr.app N79 Nq80
    obtain ⟨cq81, kq81, q81a, q81b, q81c⟩ := isOf hZ79 e80 Ee79
    obtain ⟨_, _, ⟨T81, L81, c81_, n81_⟩, -, X81, ⟨Lc81, hQ81, l81, y81, z81⟩, st81⟩ := X80.virtualBack hx (y := (⟨"com/example/keelson/keelson/core/Envelope", "code", "()I"⟩ : MethodName)) (z := (⟨"com/example/keelson/keelson/core/Envelope", "code", "()I"⟩ : MethodName)) hown79 (mvT hZ79 (hw _ (List.mem_of_getElem? (i := 36) rfl))) (mvT hZ79 (hw _ (List.mem_of_getElem? (i := 37) rfl))) (notFace_of_selects (args := #[]) (mvT hZ79 (hw _ (List.mem_of_getElem? (i := 39) rfl)))) (mvT hZ79 (hw _ (List.mem_of_getElem? (i := 39) rfl))) (mvT hZ79 (hw _ (List.mem_of_getElem? (i := 38) rfl))) (by decide) (backOf (W := 0) (rm_6 l Z a0 hw [] b79 (0 : Int32) T79.heap n0 (Nat.le_trans Z0 Kh79.1) Fo79) hZ79 (hw _ (List.mem_of_getElem? (i := 40) rfl)) (hw _ (List.mem_of_getElem? (i := 2) rfl)) (by decide) (by decide)) q81a q81c (g := (mkF m 115 #[.val (.int p1), .val (.int p2), .val (.int p3), .val (.int p4), .val (.int (p1 &&& (3 : Int32))), .val .null, .val (.ref b79), .val (.ref ma79)] [(.ref b79)])) rfl (by rw [hml]; rfl) (Steps.refl _) (argsL := []) (rest := []) (lenOf pd__28_29I rfl) rfl (by show 2 * 0 + _ ≤ _; exact Nat.le_of_eq rfl) (hb hby at_115) (fun _ _ => ⟨rfl, e80, (by decide : 3 + 0 ≤ _), (by decide : 15 + 0 ≤ _)⟩)
    dsimp only [Pt.U, Pt.locs, Pt.cells, Pt.slots] at X81 l81 y81 z81 st81 hQ81
    subst l81 y81 z81
    obtain ⟨rfl, Nq81, e81⟩ := hQ81
    have N81 := Fr.app N80 Nq81
    have hc118 : (0 : Int32) = (0 : Int32) := by decide
    obtain ⟨cq82, kq82, q82a, q82b, q82c⟩ := isOf hZ79 e81 Em79
    obtain ⟨_, _, ⟨T82, L82, c82_, n82_⟩, -, X82, ⟨Lc82, hQ82, l82, y82, z82⟩, st82⟩ := X81.virtualBack hx (y := (⟨"java/lang/String", "length", "()I"⟩ : MethodName)) (z := (⟨"java/lang/String", "length", "()I"⟩ : MethodName)) hown79 (mvT hZ79 (hw _ (List.mem_of_getElem? (i := 41) rfl))) (mvT hZ79 (hw _ (List.mem_of_getElem? (i := 42) rfl))) (notFace_of_selects (args := #[]) (mvT hZ79 (hw _ (List.mem_of_getElem? (i := 44) rfl)))) (mvT hZ79 (hw _ (List.mem_of_getElem? (i := 44) rfl))) (mvT hZ79 (hw _ (List.mem_of_getElem? (i := 43) rfl))) (by decide) (backOf (W := 0) (rm_7 l Z a0 hw [] ma79 ta79 kb79 zc T79.heap n0 (Nat.le_trans Z0 Kh79.1) Va79 (S_C.ext (X00.keep K79 all0).2) hz Fc79 Fv79 Em79) hZ79 (hw _ (List.mem_of_getElem? (i := 45) rfl)) (hw _ (List.mem_of_getElem? (i := 7) rfl)) (by decide) (by decide)) q82a q82c (g := (mkF m 128 #[.val (.int p1), .val (.int p2), .val (.int p3), .val (.int p4), .val (.int (p1 &&& (3 : Int32))), .val .null, .val (.ref b79), .val (.ref ma79)] [(.ref ma79)])) rfl (by rw [hml]; rfl) (Steps.refl _) (argsL := []) (rest := []) (lenOf pd__28_29I rfl) rfl (by show 2 * 0 + _ ≤ _; exact Nat.le_of_eq rfl) (hb hby at_128) (fun _ _ => ⟨rfl, e81, (by decide : 3 + 0 ≤ _), (by decide : 15 + 0 ≤ _)⟩)
    dsimp only [Pt.U, Pt.locs, Pt.cells, Pt.slots] at X82 l82 y82 z82 st82 hQ82
    subst l82 y82 z82
    obtain ⟨rfl, Nq82, e82⟩ := hQ82
    have N82 := Fr.app N81 Nq82
    have hc132 : (2 : Int32) = (2 : Int32) := by decide
    obtain ⟨cq83, kq83, q83a, q83b, q83c⟩ := isOf hZ79 e82 Em79
    obtain ⟨_, _, ⟨T83, L83, c83_, n83_⟩, -, X83, ⟨Lc83, hQ83, l83, y83, z83⟩, st83⟩ := X82.virtualBack hx (y := (⟨"java/lang/String", "charAt", "(I)C"⟩ : MethodName)) (z := (⟨"java/lang/String", "charAt", "(I)C"⟩ : MethodName)) hown79 (mvT hZ79 (hw _ (List.mem_of_getElem? (i := 54) rfl))) (mvT hZ79 (hw _ (List.mem_of_getElem? (i := 55) rfl))) (notFace_of_selects (args := #[]) (mvT hZ79 (hw _ (List.mem_of_getElem? (i := 57) rfl)))) (mvT hZ79 (hw _ (List.mem_of_getElem? (i := 57) rfl))) (mvT hZ79 (hw _ (List.mem_of_getElem? (i := 56) rfl))) (by decide) (backOf (W := 0) (rm_ch l Z a0 hw [] ma79 (0 : Int32) (111 : Int32) ta79 kb79 (2 : Int32) [(.int (111 : Int32)), (.int (107 : Int32))] fm zc T79.heap n0 (Nat.le_trans Z0 Kh79.1) Va79 (by decide) (by decide) rfl rf (S_F.ext (X00.keep K79 all0).2) (S_C.ext (X00.keep K79 all0).2) hz Fc79 Fv79 Em79) hZ79 (hw _ (List.mem_of_getElem? (i := 58) rfl)) (hw _ (List.mem_of_getElem? (i := 7) rfl)) (by decide) (by decide)) q83a q83c (g := (mkF m 138 #[.val (.int p1), .val (.int p2), .val (.int p3), .val (.int p4), .val (.int (p1 &&& (3 : Int32))), .val .null, .val (.ref b79), .val (.ref ma79)] [(.int (0 : Int32)), (.ref ma79)])) rfl (by rw [hml]; rfl) (Steps.refl _) (argsL := [(.int (0 : Int32))]) (rest := []) (lenOf pd__28I_29C rfl) rfl (by show 2 * 0 + _ ≤ _; exact Nat.le_of_eq rfl) (hb hby at_138) (fun _ _ => ⟨rfl, e82, (by decide : 3 + 0 ≤ _), (by decide : 15 + 0 ≤ _)⟩)
    dsimp only [Pt.U, Pt.locs, Pt.cells, Pt.slots] at X83 l83 y83 z83 st83 hQ83
    subst l83 y83 z83
    obtain ⟨rfl, Nq83, e83⟩ := hQ83
    have N83 := Fr.app N82 Nq83
    have hc143 : (nar .char (nar .char (((111 : Int32) &&& (255 : Int32)).toUInt32.toUInt16.toUInt32.toInt32))) = (111 : Int32) := by decide
    obtain ⟨cq84, kq84, q84a, q84b, q84c⟩ := isOf hZ79 e83 Em79
    obtain ⟨_, _, ⟨T84, L84, c84_, n84_⟩, -, X84, ⟨Lc84, hQ84, l84, y84, z84⟩, st84⟩ := X83.virtualBack hx (y := (⟨"java/lang/String", "charAt", "(I)C"⟩ : MethodName)) (z := (⟨"java/lang/String", "charAt", "(I)C"⟩ : MethodName)) hown79 (mvT hZ79 (hw _ (List.mem_of_getElem? (i := 54) rfl))) (mvT hZ79 (hw _ (List.mem_of_getElem? (i := 55) rfl))) (notFace_of_selects (args := #[]) (mvT hZ79 (hw _ (List.mem_of_getElem? (i := 57) rfl)))) (mvT hZ79 (hw _ (List.mem_of_getElem? (i := 57) rfl))) (mvT hZ79 (hw _ (List.mem_of_getElem? (i := 56) rfl))) (by decide) (backOf (W := 0) (rm_ch l Z a0 hw [] ma79 (1 : Int32) (107 : Int32) ta79 kb79 (2 : Int32) [(.int (111 : Int32)), (.int (107 : Int32))] fm zc T79.heap n0 (Nat.le_trans Z0 Kh79.1) Va79 (by decide) (by decide) rfl rf (S_F.ext (X00.keep K79 all0).2) (S_C.ext (X00.keep K79 all0).2) hz Fc79 Fv79 Em79) hZ79 (hw _ (List.mem_of_getElem? (i := 58) rfl)) (hw _ (List.mem_of_getElem? (i := 7) rfl)) (by decide) (by decide)) q84a q84c (g := (mkF m 149 #[.val (.int p1), .val (.int p2), .val (.int p3), .val (.int p4), .val (.int (p1 &&& (3 : Int32))), .val .null, .val (.ref b79), .val (.ref ma79)] [(.int (1 : Int32)), (.ref ma79)])) rfl (by rw [hml]; rfl) (Steps.refl _) (argsL := [(.int (1 : Int32))]) (rest := []) (lenOf pd__28I_29C rfl) rfl (by show 2 * 0 + _ ≤ _; exact Nat.le_of_eq rfl) (hb hby at_149) (fun _ _ => ⟨rfl, e83, (by decide : 3 + 0 ≤ _), (by decide : 15 + 0 ≤ _)⟩)
    dsimp only [Pt.U, Pt.locs, Pt.cells, Pt.slots] at X84 l84 y84 z84 st84 hQ84
    subst l84 y84 z84
    obtain ⟨rfl, Nq84, e84⟩ := hQ84
    have N84 := Fr.app N83 Nq84
    have hc154 : (nar .char (nar .char (((107 : Int32) &&& (255 : Int32)).toUInt32.toUInt16.toUInt32.toInt32))) = (107 : Int32) := by decide
    obtain ⟨cq85, kq85, q85a, q85b, q85c⟩ := isOf hZ79 e84 Ee79
    obtain ⟨_, _, ⟨T85, L85, c85_, n85_⟩, -, X85, ⟨Lc85, hQ85, l85, y85, z85⟩, st85⟩ := X84.virtualBack hx (y := (⟨"com/example/keelson/keelson/core/Envelope", "data", "()Ljava/lang/Object;"⟩ : MethodName)) (z := (⟨"com/example/keelson/keelson/core/Envelope", "data", "()Ljava/lang/Object;"⟩ : MethodName)) hown79 (mvT hZ79 (hw _ (List.mem_of_getElem? (i := 76) rfl))) (mvT hZ79 (hw _ (List.mem_of_getElem? (i := 77) rfl))) (notFace_of_selects (args := #[]) (mvT hZ79 (hw _ (List.mem_of_getElem? (i := 79) rfl)))) (mvT hZ79 (hw _ (List.mem_of_getElem? (i := 79) rfl))) (mvT hZ79 (hw _ (List.mem_of_getElem? (i := 78) rfl))) (by decide) (backOf (W := 0) (rm_14n l Z a0 hw [] b79 T79.heap n0 (Nat.le_trans Z0 Kh79.1) Fd79) hZ79 (hw _ (List.mem_of_getElem? (i := 80) rfl)) (hw _ (List.mem_of_getElem? (i := 2) rfl)) (by decide) (by decide)) q85a q85c (g := (mkF m 159 #[.val (.int p1), .val (.int p2), .val (.int p3), .val (.int p4), .val (.int (p1 &&& (3 : Int32))), .val .null, .val (.ref b79), .val (.ref ma79)] [(.ref b79)])) rfl (by rw [hml]; rfl) (Steps.refl _) (argsL := []) (rest := []) (lenOf pd__28_29Ljava_2flang_2fObject_3b rfl) rfl (by show 2 * 0 + _ ≤ _; exact Nat.le_of_eq rfl) (hb hby at_159) (fun _ _ => ⟨rfl, e84, (by decide : 3 + 0 ≤ _), (by decide : 15 + 0 ≤ _)⟩)
    dsimp only [Pt.U, Pt.locs, Pt.cells, Pt.slots] at X85 l85 y85 z85 st85 hQ85
    subst l85 y85 z85
    obtain ⟨rfl, Nq85, e85⟩ := hQ85
    have N85 := Fr.app N84 Nq85
    obtain ⟨fs, hr, hrun, hended, hRW⟩ := X85.leaveW (s := s) (vm₁ := T79.vm) hSc79 (by rw [e85]; exact (Nat.le_refl _)) (v := some (.int (1 : Int32))) (fun h => by rw [Bd.returns] at h; cases h)
    refine ⟨_, _, pre0 _ ?_, hrun, hended, _, _, rfl, ?_, hRW.1, hRW.2.1, hRW.2.2.1, hRW.2.2.2.mono (by decide) (by decide)⟩
    · show Steps p.tables e below (s₁.setTop (mkF m 0 #[.val (.int p1), .val (.int p2), .val (.int p3), .val (.int p4), .unset, .unset, .unset, .unset] [])) _
      refine XS.iloadN X0.here hx rfl (hb hby at_0) rfl ?_
      show Steps p.tables e below (s₁.setTop (mkF m 1 #[.val (.int p1), .val (.int p2), .val (.int p3), .val (.int p4), .unset, .unset, .unset, .unset] [(.int p1)])) _
      refine XS.iconst X0.here hx rfl (hb hby at_1) ?_
      show Steps p.tables e below (s₁.setTop (mkF m 2 #[.val (.int p1), .val (.int p2), .val (.int p3), .val (.int p4), .unset, .unset, .unset, .unset] [(.int (3 : Int32)), (.int p1)])) _
      refine XS.iand X0.here hx rfl (hb hby at_2) rfl ?_
      show Steps p.tables e below (s₁.setTop (mkF m 3 #[.val (.int p1), .val (.int p2), .val (.int p3), .val (.int p4), .unset, .unset, .unset, .unset] [(.int (p1 &&& (3 : Int32)))])) _
      refine XS.istore X0.here hx rfl (hb hby at_3) rfl (l' := #[.val (.int p1), .val (.int p2), .val (.int p3), .val (.int p4), .val (.int (p1 &&& (3 : Int32))), .unset, .unset, .unset]) rfl ?_
      show Steps p.tables e below (s₁.setTop (mkF m 5 #[.val (.int p1), .val (.int p2), .val (.int p3), .val (.int p4), .val (.int (p1 &&& (3 : Int32))), .unset, .unset, .unset] [])) _
      refine XS.iload X0.here hx rfl (hb hby at_5) rfl ?_
      show Steps p.tables e below (s₁.setTop (mkF m 7 #[.val (.int p1), .val (.int p2), .val (.int p3), .val (.int p4), .val (.int (p1 &&& (3 : Int32))), .unset, .unset, .unset] [(.int (p1 &&& (3 : Int32)))])) _
      refine XS.ifNo X0.here hx rfl (hb hby at_7) rfl ((if0 _ _).trans (teq hc7).2) ?_
      show Steps p.tables e below (s₁.setTop (mkF m 10 #[.val (.int p1), .val (.int p2), .val (.int p3), .val (.int p4), .val (.int (p1 &&& (3 : Int32))), .unset, .unset, .unset] [])) _
      refine XS.aconstNull X0.here hx rfl (hb hby at_10) ?_
      show Steps p.tables e below (s₁.setTop (mkF m 11 #[.val (.int p1), .val (.int p2), .val (.int p3), .val (.int p4), .val (.int (p1 &&& (3 : Int32))), .unset, .unset, .unset] [.null])) _
      refine XS.astore X0.here hx rfl (hb hby at_11) rfl rfl (l' := #[.val (.int p1), .val (.int p2), .val (.int p3), .val (.int p4), .val (.int (p1 &&& (3 : Int32))), .val .null, .unset, .unset]) rfl ?_
      show Steps p.tables e below (s₁.setTop (mkF m 13 #[.val (.int p1), .val (.int p2), .val (.int p3), .val (.int p4), .val (.int (p1 &&& (3 : Int32))), .val .null, .unset, .unset] [])) _
      refine XS.goto X0.here hx rfl (pc0 := 13) (pc' := 99) rfl (hb hby at_13) (by decide) (by decide) ?_
      show Steps p.tables e below (s₁.setTop (mkF m 99 #[.val (.int p1), .val (.int p2), .val (.int p3), .val (.int p4), .val (.int (p1 &&& (3 : Int32))), .val .null, .unset, .unset] [])) _
      refine XS.aload X0.here hx rfl (hb hby at_99) rfl rfl ?_
      show Steps p.tables e below (s₁.setTop (mkF m 101 #[.val (.int p1), .val (.int p2), .val (.int p3), .val (.int p4), .val (.int (p1 &&& (3 : Int32))), .val .null, .unset, .unset] [.null])) _
      refine st79.trans ?_
      show Steps p.tables e below (T79.setTop (mkF m 104 #[.val (.int p1), .val (.int p2), .val (.int p3), .val (.int p4), .val (.int (p1 &&& (3 : Int32))), .val .null, .unset, .unset] [(.ref b79)])) _
      refine XS.astore X79.here hx rfl (hb hby at_104) rfl rfl (l' := #[.val (.int p1), .val (.int p2), .val (.int p3), .val (.int p4), .val (.int (p1 &&& (3 : Int32))), .val .null, .val (.ref b79), .unset]) rfl ?_
      show Steps p.tables e below (T79.setTop (mkF m 106 #[.val (.int p1), .val (.int p2), .val (.int p3), .val (.int p4), .val (.int (p1 &&& (3 : Int32))), .val .null, .val (.ref b79), .unset] [])) _
      refine XS.aload X79.here hx rfl (hb hby at_106) rfl rfl ?_
      show Steps p.tables e below (T79.setTop (mkF m 108 #[.val (.int p1), .val (.int p2), .val (.int p3), .val (.int p4), .val (.int (p1 &&& (3 : Int32))), .val .null, .val (.ref b79), .unset] [(.ref b79)])) _
      refine st80.trans ?_
      show Steps p.tables e below (T80.setTop (mkF m 111 #[.val (.int p1), .val (.int p2), .val (.int p3), .val (.int p4), .val (.int (p1 &&& (3 : Int32))), .val .null, .val (.ref b79), .unset] [(.ref ma79)])) _
      refine XS.astore X80.here hx rfl (hb hby at_111) rfl rfl (l' := #[.val (.int p1), .val (.int p2), .val (.int p3), .val (.int p4), .val (.int (p1 &&& (3 : Int32))), .val .null, .val (.ref b79), .val (.ref ma79)]) rfl ?_
      show Steps p.tables e below (T80.setTop (mkF m 113 #[.val (.int p1), .val (.int p2), .val (.int p3), .val (.int p4), .val (.int (p1 &&& (3 : Int32))), .val .null, .val (.ref b79), .val (.ref ma79)] [])) _
      refine XS.aload X80.here hx rfl (hb hby at_113) rfl rfl ?_
      show Steps p.tables e below (T80.setTop (mkF m 115 #[.val (.int p1), .val (.int p2), .val (.int p3), .val (.int p4), .val (.int (p1 &&& (3 : Int32))), .val .null, .val (.ref b79), .val (.ref ma79)] [(.ref b79)])) _
      refine st81.trans ?_
      show Steps p.tables e below (T81.setTop (mkF m 118 #[.val (.int p1), .val (.int p2), .val (.int p3), .val (.int p4), .val (.int (p1 &&& (3 : Int32))), .val .null, .val (.ref b79), .val (.ref ma79)] [(.int (0 : Int32))])) _
      refine XS.ifNo X81.here hx rfl (hb hby at_118) rfl ((if0 _ _).trans (teq hc118).2) ?_
      show Steps p.tables e below (T81.setTop (mkF m 121 #[.val (.int p1), .val (.int p2), .val (.int p3), .val (.int p4), .val (.int (p1 &&& (3 : Int32))), .val .null, .val (.ref b79), .val (.ref ma79)] [])) _
      refine XS.aload X81.here hx rfl (hb hby at_121) rfl rfl ?_
      show Steps p.tables e below (T81.setTop (mkF m 123 #[.val (.int p1), .val (.int p2), .val (.int p3), .val (.int p4), .val (.int (p1 &&& (3 : Int32))), .val .null, .val (.ref b79), .val (.ref ma79)] [(.ref ma79)])) _
      refine XS.ifnullNo X81.here hx rfl (hb hby at_123) rfl ?_
      show Steps p.tables e below (T81.setTop (mkF m 126 #[.val (.int p1), .val (.int p2), .val (.int p3), .val (.int p4), .val (.int (p1 &&& (3 : Int32))), .val .null, .val (.ref b79), .val (.ref ma79)] [])) _
      refine XS.aload X81.here hx rfl (hb hby at_126) rfl rfl ?_
      show Steps p.tables e below (T81.setTop (mkF m 128 #[.val (.int p1), .val (.int p2), .val (.int p3), .val (.int p4), .val (.int (p1 &&& (3 : Int32))), .val .null, .val (.ref b79), .val (.ref ma79)] [(.ref ma79)])) _
      refine st82.trans ?_
      show Steps p.tables e below (T82.setTop (mkF m 131 #[.val (.int p1), .val (.int p2), .val (.int p3), .val (.int p4), .val (.int (p1 &&& (3 : Int32))), .val .null, .val (.ref b79), .val (.ref ma79)] [(.int (2 : Int32))])) _
      refine XS.iconst X82.here hx rfl (hb hby at_131) ?_
      show Steps p.tables e below (T82.setTop (mkF m 132 #[.val (.int p1), .val (.int p2), .val (.int p3), .val (.int p4), .val (.int (p1 &&& (3 : Int32))), .val .null, .val (.ref b79), .val (.ref ma79)] [(.int (2 : Int32)), (.int (2 : Int32))])) _
      refine XS.icmpNo X82.here hx rfl (hb hby at_132) rfl (teq hc132).2 ?_
      show Steps p.tables e below (T82.setTop (mkF m 135 #[.val (.int p1), .val (.int p2), .val (.int p3), .val (.int p4), .val (.int (p1 &&& (3 : Int32))), .val .null, .val (.ref b79), .val (.ref ma79)] [])) _
      refine XS.aload X82.here hx rfl (hb hby at_135) rfl rfl ?_
      show Steps p.tables e below (T82.setTop (mkF m 137 #[.val (.int p1), .val (.int p2), .val (.int p3), .val (.int p4), .val (.int (p1 &&& (3 : Int32))), .val .null, .val (.ref b79), .val (.ref ma79)] [(.ref ma79)])) _
      refine XS.iconst X82.here hx rfl (hb hby at_137) ?_
      show Steps p.tables e below (T82.setTop (mkF m 138 #[.val (.int p1), .val (.int p2), .val (.int p3), .val (.int p4), .val (.int (p1 &&& (3 : Int32))), .val .null, .val (.ref b79), .val (.ref ma79)] [(.int (0 : Int32)), (.ref ma79)])) _
      refine st83.trans ?_
      show Steps p.tables e below (T83.setTop (mkF m 141 #[.val (.int p1), .val (.int p2), .val (.int p3), .val (.int p4), .val (.int (p1 &&& (3 : Int32))), .val .null, .val (.ref b79), .val (.ref ma79)] [(.int (nar .char (nar .char (((111 : Int32) &&& (255 : Int32)).toUInt32.toUInt16.toUInt32.toInt32))))])) _
      refine XS.bipush X83.here hx rfl (hb hby at_141) ?_
      show Steps p.tables e below (T83.setTop (mkF m 143 #[.val (.int p1), .val (.int p2), .val (.int p3), .val (.int p4), .val (.int (p1 &&& (3 : Int32))), .val .null, .val (.ref b79), .val (.ref ma79)] [(.int (111 : Int32)), (.int (nar .char (nar .char (((111 : Int32) &&& (255 : Int32)).toUInt32.toUInt16.toUInt32.toInt32))))])) _
      refine XS.icmpNo X83.here hx rfl (hb hby at_143) rfl (teq hc143).2 ?_
      show Steps p.tables e below (T83.setTop (mkF m 146 #[.val (.int p1), .val (.int p2), .val (.int p3), .val (.int p4), .val (.int (p1 &&& (3 : Int32))), .val .null, .val (.ref b79), .val (.ref ma79)] [])) _
      refine XS.aload X83.here hx rfl (hb hby at_146) rfl rfl ?_
      show Steps p.tables e below (T83.setTop (mkF m 148 #[.val (.int p1), .val (.int p2), .val (.int p3), .val (.int p4), .val (.int (p1 &&& (3 : Int32))), .val .null, .val (.ref b79), .val (.ref ma79)] [(.ref ma79)])) _
      refine XS.iconst X83.here hx rfl (hb hby at_148) ?_
      show Steps p.tables e below (T83.setTop (mkF m 149 #[.val (.int p1), .val (.int p2), .val (.int p3), .val (.int p4), .val (.int (p1 &&& (3 : Int32))), .val .null, .val (.ref b79), .val (.ref ma79)] [(.int (1 : Int32)), (.ref ma79)])) _
      refine st84.trans ?_
      show Steps p.tables e below (T84.setTop (mkF m 152 #[.val (.int p1), .val (.int p2), .val (.int p3), .val (.int p4), .val (.int (p1 &&& (3 : Int32))), .val .null, .val (.ref b79), .val (.ref ma79)] [(.int (nar .char (nar .char (((107 : Int32) &&& (255 : Int32)).toUInt32.toUInt16.toUInt32.toInt32))))])) _
      refine XS.bipush X84.here hx rfl (hb hby at_152) ?_
      show Steps p.tables e below (T84.setTop (mkF m 154 #[.val (.int p1), .val (.int p2), .val (.int p3), .val (.int p4), .val (.int (p1 &&& (3 : Int32))), .val .null, .val (.ref b79), .val (.ref ma79)] [(.int (107 : Int32)), (.int (nar .char (nar .char (((107 : Int32) &&& (255 : Int32)).toUInt32.toUInt16.toUInt32.toInt32))))])) _
      refine XS.icmpNo X84.here hx rfl (hb hby at_154) rfl (teq hc154).2 ?_
      show Steps p.tables e below (T84.setTop (mkF m 157 #[.val (.int p1), .val (.int p2), .val (.int p3), .val (.int p4), .val (.int (p1 &&& (3 : Int32))), .val .null, .val (.ref b79), .val (.ref ma79)] [])) _
      refine XS.aload X84.here hx rfl (hb hby at_157) rfl rfl ?_
      show Steps p.tables e below (T84.setTop (mkF m 159 #[.val (.int p1), .val (.int p2), .val (.int p3), .val (.int p4), .val (.int (p1 &&& (3 : Int32))), .val .null, .val (.ref b79), .val (.ref ma79)] [(.ref b79)])) _
      refine st85.trans ?_
      show Steps p.tables e below (T85.setTop (mkF m 162 #[.val (.int p1), .val (.int p2), .val (.int p3), .val (.int p4), .val (.int (p1 &&& (3 : Int32))), .val .null, .val (.ref b79), .val (.ref ma79)] [.null])) _
      refine XS.aload X85.here hx rfl (hb hby at_162) rfl rfl ?_
      show Steps p.tables e below (T85.setTop (mkF m 164 #[.val (.int p1), .val (.int p2), .val (.int p3), .val (.int p4), .val (.int (p1 &&& (3 : Int32))), .val .null, .val (.ref b79), .val (.ref ma79)] [.null, .null])) _
      refine Jvm.RoadKit.acmp (g := (mkF m 164 #[.val (.int p1), .val (.int p2), .val (.int p3), .val (.int p4), .val (.int (p1 &&& (3 : Int32))), .val .null, .val (.ref b79), .val (.ref ma79)] [.null, .null])) X85 hx rfl rfl rfl (pc0 := 164) (pc' := 167) (same := true) rfl (hb hby at_164) rfl (decide_eq_true rfl) (by decide) (by decide) ?_
      show Steps p.tables e below (T85.setTop (mkF m 167 #[.val (.int p1), .val (.int p2), .val (.int p3), .val (.int p4), .val (.int (p1 &&& (3 : Int32))), .val .null, .val (.ref b79), .val (.ref ma79)] [])) _
      refine XS.iconst X85.here hx rfl (hb hby at_167) ?_
      show Steps p.tables e below (T85.setTop (mkF m 168 #[.val (.int p1), .val (.int p2), .val (.int p3), .val (.int p4), .val (.int (p1 &&& (3 : Int32))), .val .null, .val (.ref b79), .val (.ref ma79)] [(.int (1 : Int32))])) _
      refine XS.goto X85.here hx rfl (pc0 := 168) (pc' := 172) rfl (hb hby at_168) (by decide) (by decide) ?_
      show Steps p.tables e below (T85.setTop (mkF m 172 #[.val (.int p1), .val (.int p2), .val (.int p3), .val (.int p4), .val (.int (p1 &&& (3 : Int32))), .val .null, .val (.ref b79), .val (.ref ma79)] [(.int (1 : Int32))])) _
      exact retN X85 hx (t := .boolean) Bd.returns (by simp) (hb hby at_172) hr
    · show Q_0 Z p1 p2 p3 p4 h0 n0 _ T85.heap _
      rw [e85]
      exact ⟨rfl, N85⟩
  · by_cases hc19 : (p1 &&& (3 : Int32)) = (1 : Int32)
    · obtain ⟨_, _, ⟨T86, L86, c86_, n86_⟩, -, X86, ⟨Lc86, hQ86, l86, y86, z86⟩, st86⟩ := Jvm.LawKit.callS X0 hx (y := (⟨"java/lang/Integer", "valueOf", "(I)Ljava/lang/Integer;"⟩ : MethodName)) hown (mvT hZ (hw _ (List.mem_of_getElem? (i := 105) rfl))) (mvT hZ (hw _ (List.mem_of_getElem? (i := 106) rfl))) (mvT hZ (hw _ (List.mem_of_getElem? (i := 107) rfl))) (mvT hZ (hw _ (List.mem_of_getElem? (i := 108) rfl))) (by decide) (backOf (W := 0) (rm_18 l Z a0 hw [] p2 ca cc h0 n0 (Nat.le_trans Z0 (Keep.refl h0 []).1) S_high S_cache B_c X00) hZ (hw _ (List.mem_of_getElem? (i := 108) rfl)) (hw _ (List.mem_of_getElem? (i := 107) rfl)) (by decide) (by decide)) (g := (mkF m 23 #[.val (.int p1), .val (.int p2), .val (.int p3), .val (.int p4), .val (.int (p1 &&& (3 : Int32))), .unset, .unset, .unset] [(.int p2)])) rfl (by rw [hml]; rfl) (argsL := [(.int p2)]) (rest := []) (lenOf pd__28I_29Ljava_2flang_2fInteger_3b rfl) rfl (by show 2 * 0 + _ ≤ _; exact Nat.le_of_eq rfl) (hb hby at_23) (fun _ _ => ⟨rfl, e0, (by decide : 0 + 1 ≤ _), (by decide : 0 + 1 ≤ _)⟩)
      dsimp only [Pt.U, Pt.locs, Pt.cells, Pt.slots] at X86 l86 y86 z86 st86 hQ86
      subst l86 y86 z86
      obtain ⟨r86, rfl, Nq86, K86, Er86⟩ := hQ86
      have N86 := Fr.app N0 Nq86
      have Kh86 : Keep h0 T86.heap [] := (Keep.refl h0 []).trans K86 (fun _ q_ => nomatch q_)
      obtain ⟨_, _, ⟨T87, L87, c87_, n87_⟩, -, X87, hSc87, hgc87, ⟨Lc87, hQ87, l87, y87, z87, hCr87⟩, st87⟩ := callSS (s := s) X86 hx (y := (⟨"com/example/keelson/keelson/core/Envelope", "ok", "(Ljava/lang/Object;)Lcom/example/keelson/keelson/core/Envelope;"⟩ : MethodName)) hown (mvT hZ (hw _ (List.mem_of_getElem? (i := 0) rfl))) (mvT hZ (hw _ (List.mem_of_getElem? (i := 1) rfl))) (mvT hZ (hw _ (List.mem_of_getElem? (i := 2) rfl))) (mvT hZ (hw _ (List.mem_of_getElem? (i := 3) rfl))) (by decide) (backOfSH (s := s) (vm0 := s.vm) (W := 0) (rm_1 l Z a0 hw [] r86 T86.heap n0 (Nat.le_trans Z0 Kh86.1) ) hZ (hw _ (List.mem_of_getElem? (i := 3) rfl)) (hw _ (List.mem_of_getElem? (i := 2) rfl)) (by decide) (by decide) hEL (CHv.keep Kh86 (fun _ q_ => nomatch q_) hC)) (g := (mkF m 101 #[.val (.int p1), .val (.int p2), .val (.int p3), .val (.int p4), .val (.int (p1 &&& (3 : Int32))), .val (.ref r86), .unset, .unset] [(.ref r86)])) rfl (by rw [hml]; rfl) (argsL := [(.ref r86)]) (rest := []) (lenOf pd__28Ljava_2flang_2fObject_3b_29Lcom_2fexample_2fkeelson_2fkeelson_2fcore_2fEnvelope_3b rfl) rfl (by show 2 * 0 + _ ≤ _; exact Nat.le_of_eq rfl) (hb hby at_101) (fun _ _ => ⟨rfl, rfl, (by decide : 1 + 3 ≤ _), (by decide : 1 + 15 ≤ _)⟩)
      dsimp only [Pt.U, Pt.locs, Pt.cells, Pt.slots] at X87 l87 y87 z87 st87 hQ87
      subst l87 y87 z87
      obtain ⟨rfl, Nq87, K87, Ee87, Fo87, Fd87, ma87, ta87, kb87, Fm87, Em87, Fc87, Fv87, Va87⟩ := hQ87
      have N87 := Fr.app N86 Nq87
      have hZ87 : Z.Warmed39 (s.setVm T87.vm).vm := State.Warmed39.trans hZ hSc87.1
      have hown87 : (s.setVm T87.vm).vm.findClass "com/example/keelson/keelson/core/EnvelopeOkPinLaw" = some m.cls := (hSc87.1.alike.findClass _ _).trans hown
      have Kh87 : Keep h0 T87.heap [] := Kh86.trans K87 (fun _ q_ => nomatch q_)
      obtain ⟨b87, g87⟩ : ∃ z, z = T86.heap.size := ⟨_, rfl⟩
      rw [← g87] at st87 Ee87 Fo87 Fd87 Fm87
      have ne_dc_b87 : dc ≠ b87 := Nat.ne_of_lt (Nat.lt_of_lt_of_le (V_d.keep K86 nin0).lt (Nat.le_of_eq g87.symm))
      have ne_r86_b87 : r86 ≠ b87 := Nat.ne_of_lt (Nat.lt_of_lt_of_le Er86.lt (Nat.le_of_eq g87.symm))
      obtain ⟨cq88, kq88, q88a, q88b, q88c⟩ := isOf hZ87 rfl Ee87
      obtain ⟨_, _, ⟨T88, L88, c88_, n88_⟩, -, X88, ⟨Lc88, hQ88, l88, y88, z88⟩, st88⟩ := X87.virtualBack hx (y := (⟨"com/example/keelson/keelson/core/Envelope", "message", "()Ljava/lang/String;"⟩ : MethodName)) (z := (⟨"com/example/keelson/keelson/core/Envelope", "message", "()Ljava/lang/String;"⟩ : MethodName)) hown87 (mvT hZ87 (hw _ (List.mem_of_getElem? (i := 31) rfl))) (mvT hZ87 (hw _ (List.mem_of_getElem? (i := 32) rfl))) (notFace_of_selects (args := #[]) (mvT hZ87 (hw _ (List.mem_of_getElem? (i := 34) rfl)))) (mvT hZ87 (hw _ (List.mem_of_getElem? (i := 34) rfl))) (mvT hZ87 (hw _ (List.mem_of_getElem? (i := 33) rfl))) (by decide) (backOf (W := 0) (rm_5 l Z a0 hw [] b87 ma87 T87.heap n0 (Nat.le_trans Z0 Kh87.1) Fm87) hZ87 (hw _ (List.mem_of_getElem? (i := 35) rfl)) (hw _ (List.mem_of_getElem? (i := 2) rfl)) (by decide) (by decide)) q88a q88c (g := (mkF m 108 #[.val (.int p1), .val (.int p2), .val (.int p3), .val (.int p4), .val (.int (p1 &&& (3 : Int32))), .val (.ref r86), .val (.ref b87), .unset] [(.ref b87)])) rfl (by rw [hml]; rfl) (Steps.refl _) (argsL := []) (rest := []) (lenOf pd__28_29Ljava_2flang_2fString_3b rfl) rfl (by show 2 * 0 + _ ≤ _; exact Nat.le_of_eq rfl) (hb hby at_108) (fun _ _ => ⟨rfl, rfl, (by decide : 4 + 0 ≤ _), (by decide : 16 + 0 ≤ _)⟩)
      dsimp only [Pt.U, Pt.locs, Pt.cells, Pt.slots] at X88 l88 y88 z88 st88 hQ88
      subst l88 y88 z88
      obtain ⟨rfl, Nq88, e88⟩ := hQ88
      have N88 := Fr.app N87 Nq88
      obtain ⟨cq89, kq89, q89a, q89b, q89c⟩ := isOf hZ87 e88 Ee87
      obtain ⟨_, _, ⟨T89, L89, c89_, n89_⟩, -, X89, ⟨Lc89, hQ89, l89, y89, z89⟩, st89⟩ := X88.virtualBack hx (y := (⟨"com/example/keelson/keelson/core/Envelope", "code", "()I"⟩ : MethodName)) (z := (⟨"com/example/keelson/keelson/core/Envelope", "code", "()I"⟩ : MethodName)) hown87 (mvT hZ87 (hw _ (List.mem_of_getElem? (i := 36) rfl))) (mvT hZ87 (hw _ (List.mem_of_getElem? (i := 37) rfl))) (notFace_of_selects (args := #[]) (mvT hZ87 (hw _ (List.mem_of_getElem? (i := 39) rfl)))) (mvT hZ87 (hw _ (List.mem_of_getElem? (i := 39) rfl))) (mvT hZ87 (hw _ (List.mem_of_getElem? (i := 38) rfl))) (by decide) (backOf (W := 0) (rm_6 l Z a0 hw [] b87 (0 : Int32) T87.heap n0 (Nat.le_trans Z0 Kh87.1) Fo87) hZ87 (hw _ (List.mem_of_getElem? (i := 40) rfl)) (hw _ (List.mem_of_getElem? (i := 2) rfl)) (by decide) (by decide)) q89a q89c (g := (mkF m 115 #[.val (.int p1), .val (.int p2), .val (.int p3), .val (.int p4), .val (.int (p1 &&& (3 : Int32))), .val (.ref r86), .val (.ref b87), .val (.ref ma87)] [(.ref b87)])) rfl (by rw [hml]; rfl) (Steps.refl _) (argsL := []) (rest := []) (lenOf pd__28_29I rfl) rfl (by show 2 * 0 + _ ≤ _; exact Nat.le_of_eq rfl) (hb hby at_115) (fun _ _ => ⟨rfl, e88, (by decide : 4 + 0 ≤ _), (by decide : 16 + 0 ≤ _)⟩)
      dsimp only [Pt.U, Pt.locs, Pt.cells, Pt.slots] at X89 l89 y89 z89 st89 hQ89
      subst l89 y89 z89
      obtain ⟨rfl, Nq89, e89⟩ := hQ89
      have N89 := Fr.app N88 Nq89
      have hc118 : (0 : Int32) = (0 : Int32) := by decide
      have f90 := ((X00.keep K86 all0).keep K87 all0)
      obtain ⟨cq91, kq91, q91a, q91b, q91c⟩ := isOf hZ87 e89 Em87
      obtain ⟨_, _, ⟨T91, L91, c91_, n91_⟩, -, X91, ⟨Lc91, hQ91, l91, y91, z91⟩, st91⟩ := X89.virtualBack hx (y := (⟨"java/lang/String", "length", "()I"⟩ : MethodName)) (z := (⟨"java/lang/String", "length", "()I"⟩ : MethodName)) hown87 (mvT hZ87 (hw _ (List.mem_of_getElem? (i := 41) rfl))) (mvT hZ87 (hw _ (List.mem_of_getElem? (i := 42) rfl))) (notFace_of_selects (args := #[]) (mvT hZ87 (hw _ (List.mem_of_getElem? (i := 44) rfl)))) (mvT hZ87 (hw _ (List.mem_of_getElem? (i := 44) rfl))) (mvT hZ87 (hw _ (List.mem_of_getElem? (i := 43) rfl))) (by decide) (backOf (W := 0) (rm_7 l Z a0 hw [] ma87 ta87 kb87 zc T87.heap n0 (Nat.le_trans Z0 Kh87.1) Va87 (S_C.ext f90.2) hz Fc87 Fv87 Em87) hZ87 (hw _ (List.mem_of_getElem? (i := 45) rfl)) (hw _ (List.mem_of_getElem? (i := 7) rfl)) (by decide) (by decide)) q91a q91c (g := (mkF m 128 #[.val (.int p1), .val (.int p2), .val (.int p3), .val (.int p4), .val (.int (p1 &&& (3 : Int32))), .val (.ref r86), .val (.ref b87), .val (.ref ma87)] [(.ref ma87)])) rfl (by rw [hml]; rfl) (Steps.refl _) (argsL := []) (rest := []) (lenOf pd__28_29I rfl) rfl (by show 2 * 0 + _ ≤ _; exact Nat.le_of_eq rfl) (hb hby at_128) (fun _ _ => ⟨rfl, e89, (by decide : 4 + 0 ≤ _), (by decide : 16 + 0 ≤ _)⟩)
      dsimp only [Pt.U, Pt.locs, Pt.cells, Pt.slots] at X91 l91 y91 z91 st91 hQ91
      subst l91 y91 z91
      obtain ⟨rfl, Nq91, e91⟩ := hQ91
      have N91 := Fr.app N89 Nq91
      have hc132 : (2 : Int32) = (2 : Int32) := by decide
      obtain ⟨cq92, kq92, q92a, q92b, q92c⟩ := isOf hZ87 e91 Em87
      obtain ⟨_, _, ⟨T92, L92, c92_, n92_⟩, -, X92, ⟨Lc92, hQ92, l92, y92, z92⟩, st92⟩ := X91.virtualBack hx (y := (⟨"java/lang/String", "charAt", "(I)C"⟩ : MethodName)) (z := (⟨"java/lang/String", "charAt", "(I)C"⟩ : MethodName)) hown87 (mvT hZ87 (hw _ (List.mem_of_getElem? (i := 54) rfl))) (mvT hZ87 (hw _ (List.mem_of_getElem? (i := 55) rfl))) (notFace_of_selects (args := #[]) (mvT hZ87 (hw _ (List.mem_of_getElem? (i := 57) rfl)))) (mvT hZ87 (hw _ (List.mem_of_getElem? (i := 57) rfl))) (mvT hZ87 (hw _ (List.mem_of_getElem? (i := 56) rfl))) (by decide) (backOf (W := 0) (rm_ch l Z a0 hw [] ma87 (0 : Int32) (111 : Int32) ta87 kb87 (2 : Int32) [(.int (111 : Int32)), (.int (107 : Int32))] fm zc T87.heap n0 (Nat.le_trans Z0 Kh87.1) Va87 (by decide) (by decide) rfl rf (S_F.ext f90.2) (S_C.ext f90.2) hz Fc87 Fv87 Em87) hZ87 (hw _ (List.mem_of_getElem? (i := 58) rfl)) (hw _ (List.mem_of_getElem? (i := 7) rfl)) (by decide) (by decide)) q92a q92c (g := (mkF m 138 #[.val (.int p1), .val (.int p2), .val (.int p3), .val (.int p4), .val (.int (p1 &&& (3 : Int32))), .val (.ref r86), .val (.ref b87), .val (.ref ma87)] [(.int (0 : Int32)), (.ref ma87)])) rfl (by rw [hml]; rfl) (Steps.refl _) (argsL := [(.int (0 : Int32))]) (rest := []) (lenOf pd__28I_29C rfl) rfl (by show 2 * 0 + _ ≤ _; exact Nat.le_of_eq rfl) (hb hby at_138) (fun _ _ => ⟨rfl, e91, (by decide : 4 + 0 ≤ _), (by decide : 16 + 0 ≤ _)⟩)
      dsimp only [Pt.U, Pt.locs, Pt.cells, Pt.slots] at X92 l92 y92 z92 st92 hQ92
      subst l92 y92 z92
      obtain ⟨rfl, Nq92, e92⟩ := hQ92
      have N92 := Fr.app N91 Nq92
      have hc143 : (nar .char (nar .char (((111 : Int32) &&& (255 : Int32)).toUInt32.toUInt16.toUInt32.toInt32))) = (111 : Int32) := by decide
      obtain ⟨cq93, kq93, q93a, q93b, q93c⟩ := isOf hZ87 e92 Em87
      obtain ⟨_, _, ⟨T93, L93, c93_, n93_⟩, -, X93, ⟨Lc93, hQ93, l93, y93, z93⟩, st93⟩ := X92.virtualBack hx (y := (⟨"java/lang/String", "charAt", "(I)C"⟩ : MethodName)) (z := (⟨"java/lang/String", "charAt", "(I)C"⟩ : MethodName)) hown87 (mvT hZ87 (hw _ (List.mem_of_getElem? (i := 54) rfl))) (mvT hZ87 (hw _ (List.mem_of_getElem? (i := 55) rfl))) (notFace_of_selects (args := #[]) (mvT hZ87 (hw _ (List.mem_of_getElem? (i := 57) rfl)))) (mvT hZ87 (hw _ (List.mem_of_getElem? (i := 57) rfl))) (mvT hZ87 (hw _ (List.mem_of_getElem? (i := 56) rfl))) (by decide) (backOf (W := 0) (rm_ch l Z a0 hw [] ma87 (1 : Int32) (107 : Int32) ta87 kb87 (2 : Int32) [(.int (111 : Int32)), (.int (107 : Int32))] fm zc T87.heap n0 (Nat.le_trans Z0 Kh87.1) Va87 (by decide) (by decide) rfl rf (S_F.ext f90.2) (S_C.ext f90.2) hz Fc87 Fv87 Em87) hZ87 (hw _ (List.mem_of_getElem? (i := 58) rfl)) (hw _ (List.mem_of_getElem? (i := 7) rfl)) (by decide) (by decide)) q93a q93c (g := (mkF m 149 #[.val (.int p1), .val (.int p2), .val (.int p3), .val (.int p4), .val (.int (p1 &&& (3 : Int32))), .val (.ref r86), .val (.ref b87), .val (.ref ma87)] [(.int (1 : Int32)), (.ref ma87)])) rfl (by rw [hml]; rfl) (Steps.refl _) (argsL := [(.int (1 : Int32))]) (rest := []) (lenOf pd__28I_29C rfl) rfl (by show 2 * 0 + _ ≤ _; exact Nat.le_of_eq rfl) (hb hby at_149) (fun _ _ => ⟨rfl, e92, (by decide : 4 + 0 ≤ _), (by decide : 16 + 0 ≤ _)⟩)
      dsimp only [Pt.U, Pt.locs, Pt.cells, Pt.slots] at X93 l93 y93 z93 st93 hQ93
      subst l93 y93 z93
      obtain ⟨rfl, Nq93, e93⟩ := hQ93
      have N93 := Fr.app N92 Nq93
      have hc154 : (nar .char (nar .char (((107 : Int32) &&& (255 : Int32)).toUInt32.toUInt16.toUInt32.toInt32))) = (107 : Int32) := by decide
      obtain ⟨cq94, kq94, q94a, q94b, q94c⟩ := isOf hZ87 e93 Ee87
      obtain ⟨_, _, ⟨T94, L94, c94_, n94_⟩, -, X94, ⟨Lc94, hQ94, l94, y94, z94⟩, st94⟩ := X93.virtualBack hx (y := (⟨"com/example/keelson/keelson/core/Envelope", "data", "()Ljava/lang/Object;"⟩ : MethodName)) (z := (⟨"com/example/keelson/keelson/core/Envelope", "data", "()Ljava/lang/Object;"⟩ : MethodName)) hown87 (mvT hZ87 (hw _ (List.mem_of_getElem? (i := 76) rfl))) (mvT hZ87 (hw _ (List.mem_of_getElem? (i := 77) rfl))) (notFace_of_selects (args := #[]) (mvT hZ87 (hw _ (List.mem_of_getElem? (i := 79) rfl)))) (mvT hZ87 (hw _ (List.mem_of_getElem? (i := 79) rfl))) (mvT hZ87 (hw _ (List.mem_of_getElem? (i := 78) rfl))) (by decide) (backOf (W := 0) (rm_14 l Z a0 hw [] b87 r86 T87.heap n0 (Nat.le_trans Z0 Kh87.1) Fd87) hZ87 (hw _ (List.mem_of_getElem? (i := 80) rfl)) (hw _ (List.mem_of_getElem? (i := 2) rfl)) (by decide) (by decide)) q94a q94c (g := (mkF m 159 #[.val (.int p1), .val (.int p2), .val (.int p3), .val (.int p4), .val (.int (p1 &&& (3 : Int32))), .val (.ref r86), .val (.ref b87), .val (.ref ma87)] [(.ref b87)])) rfl (by rw [hml]; rfl) (Steps.refl _) (argsL := []) (rest := []) (lenOf pd__28_29Ljava_2flang_2fObject_3b rfl) rfl (by show 2 * 0 + _ ≤ _; exact Nat.le_of_eq rfl) (hb hby at_159) (fun _ _ => ⟨rfl, e93, (by decide : 4 + 0 ≤ _), (by decide : 16 + 0 ≤ _)⟩)
      dsimp only [Pt.U, Pt.locs, Pt.cells, Pt.slots] at X94 l94 y94 z94 st94 hQ94
      subst l94 y94 z94
      obtain ⟨rfl, Nq94, e94⟩ := hQ94
      have N94 := Fr.app N93 Nq94
      obtain ⟨fs, hr, hrun, hended, hRW⟩ := X94.leaveW (s := s) (vm₁ := T87.vm) hSc87 (by rw [e94]; exact (Nat.le_refl _)) (v := some (.int (1 : Int32))) (fun h => by rw [Bd.returns] at h; cases h)
      refine ⟨_, _, pre0 _ ?_, hrun, hended, _, _, rfl, ?_, hRW.1, hRW.2.1, hRW.2.2.1, hRW.2.2.2.mono (by decide) (by decide)⟩
      · show Steps p.tables e below (s₁.setTop (mkF m 0 #[.val (.int p1), .val (.int p2), .val (.int p3), .val (.int p4), .unset, .unset, .unset, .unset] [])) _
        refine XS.iloadN X0.here hx rfl (hb hby at_0) rfl ?_
        show Steps p.tables e below (s₁.setTop (mkF m 1 #[.val (.int p1), .val (.int p2), .val (.int p3), .val (.int p4), .unset, .unset, .unset, .unset] [(.int p1)])) _
        refine XS.iconst X0.here hx rfl (hb hby at_1) ?_
        show Steps p.tables e below (s₁.setTop (mkF m 2 #[.val (.int p1), .val (.int p2), .val (.int p3), .val (.int p4), .unset, .unset, .unset, .unset] [(.int (3 : Int32)), (.int p1)])) _
        refine XS.iand X0.here hx rfl (hb hby at_2) rfl ?_
        show Steps p.tables e below (s₁.setTop (mkF m 3 #[.val (.int p1), .val (.int p2), .val (.int p3), .val (.int p4), .unset, .unset, .unset, .unset] [(.int (p1 &&& (3 : Int32)))])) _
        refine XS.istore X0.here hx rfl (hb hby at_3) rfl (l' := #[.val (.int p1), .val (.int p2), .val (.int p3), .val (.int p4), .val (.int (p1 &&& (3 : Int32))), .unset, .unset, .unset]) rfl ?_
        show Steps p.tables e below (s₁.setTop (mkF m 5 #[.val (.int p1), .val (.int p2), .val (.int p3), .val (.int p4), .val (.int (p1 &&& (3 : Int32))), .unset, .unset, .unset] [])) _
        refine XS.iload X0.here hx rfl (hb hby at_5) rfl ?_
        show Steps p.tables e below (s₁.setTop (mkF m 7 #[.val (.int p1), .val (.int p2), .val (.int p3), .val (.int p4), .val (.int (p1 &&& (3 : Int32))), .unset, .unset, .unset] [(.int (p1 &&& (3 : Int32)))])) _
        refine XS.ifYes X0.here hx rfl (pc0 := 7) (pc' := 16) rfl (hb hby at_7) rfl ((if0 _ _).trans (feq hc7).2) (by decide) (by decide) ?_
        show Steps p.tables e below (s₁.setTop (mkF m 16 #[.val (.int p1), .val (.int p2), .val (.int p3), .val (.int p4), .val (.int (p1 &&& (3 : Int32))), .unset, .unset, .unset] [])) _
        refine XS.iload X0.here hx rfl (hb hby at_16) rfl ?_
        show Steps p.tables e below (s₁.setTop (mkF m 18 #[.val (.int p1), .val (.int p2), .val (.int p3), .val (.int p4), .val (.int (p1 &&& (3 : Int32))), .unset, .unset, .unset] [(.int (p1 &&& (3 : Int32)))])) _
        refine XS.iconst X0.here hx rfl (hb hby at_18) ?_
        show Steps p.tables e below (s₁.setTop (mkF m 19 #[.val (.int p1), .val (.int p2), .val (.int p3), .val (.int p4), .val (.int (p1 &&& (3 : Int32))), .unset, .unset, .unset] [(.int (1 : Int32)), (.int (p1 &&& (3 : Int32)))])) _
        refine XS.icmpNo X0.here hx rfl (hb hby at_19) rfl (teq hc19).2 ?_
        show Steps p.tables e below (s₁.setTop (mkF m 22 #[.val (.int p1), .val (.int p2), .val (.int p3), .val (.int p4), .val (.int (p1 &&& (3 : Int32))), .unset, .unset, .unset] [])) _
        refine XS.iloadN X0.here hx rfl (hb hby at_22) rfl ?_
        show Steps p.tables e below (s₁.setTop (mkF m 23 #[.val (.int p1), .val (.int p2), .val (.int p3), .val (.int p4), .val (.int (p1 &&& (3 : Int32))), .unset, .unset, .unset] [(.int p2)])) _
        refine st86 _ ?_
        show Steps p.tables e below (T86.setTop (mkF m 26 #[.val (.int p1), .val (.int p2), .val (.int p3), .val (.int p4), .val (.int (p1 &&& (3 : Int32))), .unset, .unset, .unset] [(.ref r86)])) _
        refine XS.astore X86.here hx rfl (hb hby at_26) rfl rfl (l' := #[.val (.int p1), .val (.int p2), .val (.int p3), .val (.int p4), .val (.int (p1 &&& (3 : Int32))), .val (.ref r86), .unset, .unset]) rfl ?_
        show Steps p.tables e below (T86.setTop (mkF m 28 #[.val (.int p1), .val (.int p2), .val (.int p3), .val (.int p4), .val (.int (p1 &&& (3 : Int32))), .val (.ref r86), .unset, .unset] [])) _
        refine XS.goto X86.here hx rfl (pc0 := 28) (pc' := 99) rfl (hb hby at_28) (by decide) (by decide) ?_
        show Steps p.tables e below (T86.setTop (mkF m 99 #[.val (.int p1), .val (.int p2), .val (.int p3), .val (.int p4), .val (.int (p1 &&& (3 : Int32))), .val (.ref r86), .unset, .unset] [])) _
        refine XS.aload X86.here hx rfl (hb hby at_99) rfl rfl ?_
        show Steps p.tables e below (T86.setTop (mkF m 101 #[.val (.int p1), .val (.int p2), .val (.int p3), .val (.int p4), .val (.int (p1 &&& (3 : Int32))), .val (.ref r86), .unset, .unset] [(.ref r86)])) _
        refine st87.trans ?_
        show Steps p.tables e below (T87.setTop (mkF m 104 #[.val (.int p1), .val (.int p2), .val (.int p3), .val (.int p4), .val (.int (p1 &&& (3 : Int32))), .val (.ref r86), .unset, .unset] [(.ref b87)])) _
        refine XS.astore X87.here hx rfl (hb hby at_104) rfl rfl (l' := #[.val (.int p1), .val (.int p2), .val (.int p3), .val (.int p4), .val (.int (p1 &&& (3 : Int32))), .val (.ref r86), .val (.ref b87), .unset]) rfl ?_
        show Steps p.tables e below (T87.setTop (mkF m 106 #[.val (.int p1), .val (.int p2), .val (.int p3), .val (.int p4), .val (.int (p1 &&& (3 : Int32))), .val (.ref r86), .val (.ref b87), .unset] [])) _
        refine XS.aload X87.here hx rfl (hb hby at_106) rfl rfl ?_
        show Steps p.tables e below (T87.setTop (mkF m 108 #[.val (.int p1), .val (.int p2), .val (.int p3), .val (.int p4), .val (.int (p1 &&& (3 : Int32))), .val (.ref r86), .val (.ref b87), .unset] [(.ref b87)])) _
        refine st88.trans ?_
        show Steps p.tables e below (T88.setTop (mkF m 111 #[.val (.int p1), .val (.int p2), .val (.int p3), .val (.int p4), .val (.int (p1 &&& (3 : Int32))), .val (.ref r86), .val (.ref b87), .unset] [(.ref ma87)])) _
        refine XS.astore X88.here hx rfl (hb hby at_111) rfl rfl (l' := #[.val (.int p1), .val (.int p2), .val (.int p3), .val (.int p4), .val (.int (p1 &&& (3 : Int32))), .val (.ref r86), .val (.ref b87), .val (.ref ma87)]) rfl ?_
        show Steps p.tables e below (T88.setTop (mkF m 113 #[.val (.int p1), .val (.int p2), .val (.int p3), .val (.int p4), .val (.int (p1 &&& (3 : Int32))), .val (.ref r86), .val (.ref b87), .val (.ref ma87)] [])) _
        refine XS.aload X88.here hx rfl (hb hby at_113) rfl rfl ?_
        show Steps p.tables e below (T88.setTop (mkF m 115 #[.val (.int p1), .val (.int p2), .val (.int p3), .val (.int p4), .val (.int (p1 &&& (3 : Int32))), .val (.ref r86), .val (.ref b87), .val (.ref ma87)] [(.ref b87)])) _
        refine st89.trans ?_
        show Steps p.tables e below (T89.setTop (mkF m 118 #[.val (.int p1), .val (.int p2), .val (.int p3), .val (.int p4), .val (.int (p1 &&& (3 : Int32))), .val (.ref r86), .val (.ref b87), .val (.ref ma87)] [(.int (0 : Int32))])) _
        refine XS.ifNo X89.here hx rfl (hb hby at_118) rfl ((if0 _ _).trans (teq hc118).2) ?_
        show Steps p.tables e below (T89.setTop (mkF m 121 #[.val (.int p1), .val (.int p2), .val (.int p3), .val (.int p4), .val (.int (p1 &&& (3 : Int32))), .val (.ref r86), .val (.ref b87), .val (.ref ma87)] [])) _
        refine XS.aload X89.here hx rfl (hb hby at_121) rfl rfl ?_
        show Steps p.tables e below (T89.setTop (mkF m 123 #[.val (.int p1), .val (.int p2), .val (.int p3), .val (.int p4), .val (.int (p1 &&& (3 : Int32))), .val (.ref r86), .val (.ref b87), .val (.ref ma87)] [(.ref ma87)])) _
        refine XS.ifnullNo X89.here hx rfl (hb hby at_123) rfl ?_
        show Steps p.tables e below (T89.setTop (mkF m 126 #[.val (.int p1), .val (.int p2), .val (.int p3), .val (.int p4), .val (.int (p1 &&& (3 : Int32))), .val (.ref r86), .val (.ref b87), .val (.ref ma87)] [])) _
        refine XS.aload X89.here hx rfl (hb hby at_126) rfl rfl ?_
        show Steps p.tables e below (T89.setTop (mkF m 128 #[.val (.int p1), .val (.int p2), .val (.int p3), .val (.int p4), .val (.int (p1 &&& (3 : Int32))), .val (.ref r86), .val (.ref b87), .val (.ref ma87)] [(.ref ma87)])) _
        refine st91.trans ?_
        show Steps p.tables e below (T91.setTop (mkF m 131 #[.val (.int p1), .val (.int p2), .val (.int p3), .val (.int p4), .val (.int (p1 &&& (3 : Int32))), .val (.ref r86), .val (.ref b87), .val (.ref ma87)] [(.int (2 : Int32))])) _
        refine XS.iconst X91.here hx rfl (hb hby at_131) ?_
        show Steps p.tables e below (T91.setTop (mkF m 132 #[.val (.int p1), .val (.int p2), .val (.int p3), .val (.int p4), .val (.int (p1 &&& (3 : Int32))), .val (.ref r86), .val (.ref b87), .val (.ref ma87)] [(.int (2 : Int32)), (.int (2 : Int32))])) _
        refine XS.icmpNo X91.here hx rfl (hb hby at_132) rfl (teq hc132).2 ?_
        show Steps p.tables e below (T91.setTop (mkF m 135 #[.val (.int p1), .val (.int p2), .val (.int p3), .val (.int p4), .val (.int (p1 &&& (3 : Int32))), .val (.ref r86), .val (.ref b87), .val (.ref ma87)] [])) _
        refine XS.aload X91.here hx rfl (hb hby at_135) rfl rfl ?_
        show Steps p.tables e below (T91.setTop (mkF m 137 #[.val (.int p1), .val (.int p2), .val (.int p3), .val (.int p4), .val (.int (p1 &&& (3 : Int32))), .val (.ref r86), .val (.ref b87), .val (.ref ma87)] [(.ref ma87)])) _
        refine XS.iconst X91.here hx rfl (hb hby at_137) ?_
        show Steps p.tables e below (T91.setTop (mkF m 138 #[.val (.int p1), .val (.int p2), .val (.int p3), .val (.int p4), .val (.int (p1 &&& (3 : Int32))), .val (.ref r86), .val (.ref b87), .val (.ref ma87)] [(.int (0 : Int32)), (.ref ma87)])) _
        refine st92.trans ?_
        show Steps p.tables e below (T92.setTop (mkF m 141 #[.val (.int p1), .val (.int p2), .val (.int p3), .val (.int p4), .val (.int (p1 &&& (3 : Int32))), .val (.ref r86), .val (.ref b87), .val (.ref ma87)] [(.int (nar .char (nar .char (((111 : Int32) &&& (255 : Int32)).toUInt32.toUInt16.toUInt32.toInt32))))])) _
        refine XS.bipush X92.here hx rfl (hb hby at_141) ?_
        show Steps p.tables e below (T92.setTop (mkF m 143 #[.val (.int p1), .val (.int p2), .val (.int p3), .val (.int p4), .val (.int (p1 &&& (3 : Int32))), .val (.ref r86), .val (.ref b87), .val (.ref ma87)] [(.int (111 : Int32)), (.int (nar .char (nar .char (((111 : Int32) &&& (255 : Int32)).toUInt32.toUInt16.toUInt32.toInt32))))])) _
        refine XS.icmpNo X92.here hx rfl (hb hby at_143) rfl (teq hc143).2 ?_
        show Steps p.tables e below (T92.setTop (mkF m 146 #[.val (.int p1), .val (.int p2), .val (.int p3), .val (.int p4), .val (.int (p1 &&& (3 : Int32))), .val (.ref r86), .val (.ref b87), .val (.ref ma87)] [])) _
        refine XS.aload X92.here hx rfl (hb hby at_146) rfl rfl ?_
        show Steps p.tables e below (T92.setTop (mkF m 148 #[.val (.int p1), .val (.int p2), .val (.int p3), .val (.int p4), .val (.int (p1 &&& (3 : Int32))), .val (.ref r86), .val (.ref b87), .val (.ref ma87)] [(.ref ma87)])) _
        refine XS.iconst X92.here hx rfl (hb hby at_148) ?_
        show Steps p.tables e below (T92.setTop (mkF m 149 #[.val (.int p1), .val (.int p2), .val (.int p3), .val (.int p4), .val (.int (p1 &&& (3 : Int32))), .val (.ref r86), .val (.ref b87), .val (.ref ma87)] [(.int (1 : Int32)), (.ref ma87)])) _
        refine st93.trans ?_
        show Steps p.tables e below (T93.setTop (mkF m 152 #[.val (.int p1), .val (.int p2), .val (.int p3), .val (.int p4), .val (.int (p1 &&& (3 : Int32))), .val (.ref r86), .val (.ref b87), .val (.ref ma87)] [(.int (nar .char (nar .char (((107 : Int32) &&& (255 : Int32)).toUInt32.toUInt16.toUInt32.toInt32))))])) _
        refine XS.bipush X93.here hx rfl (hb hby at_152) ?_
        show Steps p.tables e below (T93.setTop (mkF m 154 #[.val (.int p1), .val (.int p2), .val (.int p3), .val (.int p4), .val (.int (p1 &&& (3 : Int32))), .val (.ref r86), .val (.ref b87), .val (.ref ma87)] [(.int (107 : Int32)), (.int (nar .char (nar .char (((107 : Int32) &&& (255 : Int32)).toUInt32.toUInt16.toUInt32.toInt32))))])) _
        refine XS.icmpNo X93.here hx rfl (hb hby at_154) rfl (teq hc154).2 ?_
        show Steps p.tables e below (T93.setTop (mkF m 157 #[.val (.int p1), .val (.int p2), .val (.int p3), .val (.int p4), .val (.int (p1 &&& (3 : Int32))), .val (.ref r86), .val (.ref b87), .val (.ref ma87)] [])) _
        refine XS.aload X93.here hx rfl (hb hby at_157) rfl rfl ?_
        show Steps p.tables e below (T93.setTop (mkF m 159 #[.val (.int p1), .val (.int p2), .val (.int p3), .val (.int p4), .val (.int (p1 &&& (3 : Int32))), .val (.ref r86), .val (.ref b87), .val (.ref ma87)] [(.ref b87)])) _
        refine st94.trans ?_
        show Steps p.tables e below (T94.setTop (mkF m 162 #[.val (.int p1), .val (.int p2), .val (.int p3), .val (.int p4), .val (.int (p1 &&& (3 : Int32))), .val (.ref r86), .val (.ref b87), .val (.ref ma87)] [(.ref r86)])) _
        refine XS.aload X94.here hx rfl (hb hby at_162) rfl rfl ?_
        show Steps p.tables e below (T94.setTop (mkF m 164 #[.val (.int p1), .val (.int p2), .val (.int p3), .val (.int p4), .val (.int (p1 &&& (3 : Int32))), .val (.ref r86), .val (.ref b87), .val (.ref ma87)] [(.ref r86), (.ref r86)])) _
        refine Jvm.RoadKit.acmp (g := (mkF m 164 #[.val (.int p1), .val (.int p2), .val (.int p3), .val (.int p4), .val (.int (p1 &&& (3 : Int32))), .val (.ref r86), .val (.ref b87), .val (.ref ma87)] [(.ref r86), (.ref r86)])) X94 hx rfl rfl rfl (pc0 := 164) (pc' := 167) (same := true) rfl (hb hby at_164) rfl (decide_eq_true rfl) (by decide) (by decide) ?_
        show Steps p.tables e below (T94.setTop (mkF m 167 #[.val (.int p1), .val (.int p2), .val (.int p3), .val (.int p4), .val (.int (p1 &&& (3 : Int32))), .val (.ref r86), .val (.ref b87), .val (.ref ma87)] [])) _
        refine XS.iconst X94.here hx rfl (hb hby at_167) ?_
        show Steps p.tables e below (T94.setTop (mkF m 168 #[.val (.int p1), .val (.int p2), .val (.int p3), .val (.int p4), .val (.int (p1 &&& (3 : Int32))), .val (.ref r86), .val (.ref b87), .val (.ref ma87)] [(.int (1 : Int32))])) _
        refine XS.goto X94.here hx rfl (pc0 := 168) (pc' := 172) rfl (hb hby at_168) (by decide) (by decide) ?_
        show Steps p.tables e below (T94.setTop (mkF m 172 #[.val (.int p1), .val (.int p2), .val (.int p3), .val (.int p4), .val (.int (p1 &&& (3 : Int32))), .val (.ref r86), .val (.ref b87), .val (.ref ma87)] [(.int (1 : Int32))])) _
        exact retN X94 hx (t := .boolean) Bd.returns (by simp) (hb hby at_172) hr
      · show Q_0 Z p1 p2 p3 p4 h0 n0 _ T94.heap _
        rw [e94]
        exact ⟨rfl, N94⟩
    · by_cases hc34 : (p1 &&& (3 : Int32)) = (2 : Int32)
      · obtain ⟨T95, h95, k95, X95, e95, E95, A95, st95⟩ := newP X0 hx hZ (hw _ (List.mem_of_getElem? (i := 157) rfl)) e0 (g := (mkF m 38 #[.val (.int p1), .val (.int p2), .val (.int p3), .val (.int p4), .val (.int (p1 &&& (3 : Int32))), .unset, .unset, .unset] [(.int (2 : Int32))])) rfl (hb hby at_38) rfl (by decide) (cap := 2) (by decide) (by decide) (by decide) (by decide)
        obtain ⟨b95, g95⟩ : ∃ z, z = h0.size := ⟨_, rfl⟩
        rw [← g95] at A95 st95
        have g_b95 : n0 ≤ b95 := Nat.le_trans (Nat.le_trans Z0 (Keep.refl h0 []).1) (Nat.le_of_eq g95.symm)
        have sz_b95 : h0.size ≤ b95 := Nat.le_trans (Keep.refl h0 []).1 (Nat.le_of_eq g95.symm)
        have ne_dc_b95 : dc ≠ b95 := Nat.ne_of_lt (Nat.lt_of_lt_of_le V_d.lt (Nat.le_of_eq g95.symm))
        have Kh95 : Keep h0 h95 [] := (Keep.refl h0 []).ext E95
        have V_b95 : Arv Z h95 b95 k95 .char (2 : Int32) [(.int (0 : Int32)), (.int (0 : Int32))] (.int (0 : Int32)) := (Arv.new A95 (by decide)).pad (pad_rep [] (.int (0 : Int32)) 2)
        obtain ⟨c0, e_c0⟩ : ∃ z : Int32, z = ((p3 &&& (255 : Int32)).toUInt32.toUInt16.toUInt32.toInt32) := ⟨_, rfl⟩
        obtain ⟨cl96, Ar96, q96, S96, M96, H96, G96⟩ := id (V_b95)
        have hin96 : ¬ ((0 : Int32) < 0 ∨ cl96.slots.size ≤ ((0 : Int32)).toNatClampNeg) := inb_of S96 ⟨by decide, by decide⟩
        obtain ⟨T96, h96, X96, e96, W96, st96⟩ := stC X95 hx hZ e95 Ar96 (j := (0 : Int32)) hin96 (g := (mkF m 51 #[.val (.int p1), .val (.int p2), .val (.int p3), .val (.int p4), .val (.int (p1 &&& (3 : Int32))), .unset, .val (.ref b95), .unset] [(.int c0), (.int (0 : Int32)), (.ref b95)])) rfl rfl (hb hby at_51)
        have V96 : Arv Z h96 b95 k95 .char (2 : Int32) [(.int (nar .char c0)), (.int (0 : Int32))] (.int (0 : Int32)) := Arv.set Ar96 q96 S96 M96 H96 G96 (fits_nar_char _) W96 0 rfl (Nat.le_of_ble_eq_true rfl)
        have Kh96 : Keep h0 h96 [] := Kh95.wr W96 (Or.inr sz_b95)
        have N96 := Fr.snoc X96 N0 g_b95
        obtain ⟨c1, e_c1⟩ : ∃ z : Int32, z = ((p4 &&& (255 : Int32)).toUInt32.toUInt16.toUInt32.toInt32) := ⟨_, rfl⟩
        obtain ⟨cl97, Ar97, q97, S97, M97, H97, G97⟩ := id (V96)
        have hin97 : ¬ ((1 : Int32) < 0 ∨ cl97.slots.size ≤ ((1 : Int32)).toNatClampNeg) := inb_of S97 ⟨by decide, by decide⟩
        obtain ⟨T97, h97, X97, e97, W97, st97⟩ := stC X96 hx hZ e96 Ar97 (j := (1 : Int32)) hin97 (g := (mkF m 61 #[.val (.int p1), .val (.int p2), .val (.int p3), .val (.int p4), .val (.int (p1 &&& (3 : Int32))), .unset, .val (.ref b95), .unset] [(.int c1), (.int (1 : Int32)), (.ref b95)])) rfl rfl (hb hby at_61)
        have V97 : Arv Z h97 b95 k95 .char (2 : Int32) [(.int (nar .char c0)), (.int (nar .char c1))] (.int (0 : Int32)) := Arv.set Ar97 q97 S97 M97 H97 G97 (fits_nar_char _) W97 1 rfl (Nat.le_of_ble_eq_true rfl)
        have Kh97 : Keep h0 h97 [] := Kh96.wr W97 (Or.inr sz_b95)
        have N97 := Fr.snoc X97 N96 g_b95
        obtain ⟨T98, h98, X98, e98, E98, A98, D98, -, st98⟩ := newO X97 hx hZ hown (hw _ (List.mem_of_getElem? (i := 158) rfl)) (hw _ (List.mem_of_getElem? (i := 8) rfl)) (hw _ (List.mem_of_getElem? (i := 7) rfl)) e97 (g := (mkF m 62 #[.val (.int p1), .val (.int p2), .val (.int p3), .val (.int p4), .val (.int (p1 &&& (3 : Int32))), .unset, .val (.ref b95), .unset] [])) rfl (hb hby at_62) (by decide) (by decide)
        obtain ⟨b98, g98⟩ : ∃ z, z = h97.size := ⟨_, rfl⟩
        rw [← g98] at A98 D98 st98
        have g_b98 : n0 ≤ b98 := Nat.le_trans (Nat.le_trans Z0 Kh97.1) (Nat.le_of_eq g98.symm)
        have sz_b98 : h0.size ≤ b98 := Nat.le_trans Kh97.1 (Nat.le_of_eq g98.symm)
        have ne_dc_b98 : dc ≠ b98 := Nat.ne_of_lt (Nat.lt_of_lt_of_le (((V_d.ext E95).other W96 ne_dc_b95).other W97 ne_dc_b95).lt (Nat.le_of_eq g98.symm))
        have ne_b95_b98 : b95 ≠ b98 := Nat.ne_of_lt (Nat.lt_of_lt_of_le V97.lt (Nat.le_of_eq g98.symm))
        have Kh98 : Keep h0 h98 [] := Kh97.ext E98
        have F_value_b98 : Fld Z h98 b98 "java/lang/String" "value" "[B" .null := D98 (Or.inr (hw _ (List.mem_of_getElem? (i := 10) rfl))) (ty := (.array .byte)) (by decide)
        have F_coder_b98 : Fld Z h98 b98 "java/lang/String" "coder" "B" (.int (0 : Int32)) := D98 (Or.inr (hw _ (List.mem_of_getElem? (i := 11) rfl))) (ty := .byte) (by decide)
        have hp99 : ∀ c ∈ ([nar .char c0, nar .char c1] : List Int32), ¬ c < 0 ∧ ¬ (255 : Int32) < c := by
          intro c hc
          simp only [List.mem_cons, List.not_mem_nil, or_false] at hc
          rcases hc with hc | hc
          · rw [hc, e_c0]; exact own_b255 _ (own_u255 _).1 (own_u255 _).2
          · rw [hc, e_c1]; exact own_b255 _ (own_u255 _).1 (own_u255 _).2
        have f100 := ((((X00.ext E95).wr W96 g_b95).wr W97 g_b95).ext E98)
        obtain ⟨_, _, ⟨T101, L101, c101_, n101_⟩, -, X101, ⟨Lc101, hQ101, l101, y101, z101⟩, st101⟩ := X98.specialBack hx (y := (⟨"java/lang/String", "<init>", "([C)V"⟩ : MethodName)) rfl hown (mvT hZ (hw _ (List.mem_of_getElem? (i := 159) rfl))) (mvT hZ (hw _ (List.mem_of_getElem? (i := 160) rfl))) (mvT hZ (hw _ (List.mem_of_getElem? (i := 161) rfl))) (by decide) (StrChars.Road.backV (W := 1) hZ hws (kI := 4) (hw _ (List.mem_of_getElem? (i := 8) rfl)) (cs := ([nar .char c0, nar .char c1] : List Int32)) (bs := (([nar .char c0, nar .char c1] : List Int32)).map (fun c => c.toInt8.toInt32)) (n := 2) g_b98 (Nat.le_trans Z0 Kh98.1) A98 F_value_b98 F_coder_b98 (V97.ext E98) (S_C.ext f100.2) hz rfl rfl (by decide) (by decide) hp99 rfl (by decide) (by decide)) (g := (mkF m 68 #[.val (.int p1), .val (.int p2), .val (.int p3), .val (.int p4), .val (.int (p1 &&& (3 : Int32))), .unset, .val (.ref b95), .unset] [(.ref b95), (.ref b98), (.ref b98)])) rfl (by rw [hml]; rfl) (Steps.refl _) (a := b98) (argsL := [(.ref b95)]) (rest := [(.ref b98)]) (lenOf pd__28_5bC_29V rfl) rfl (by show 2 * 0 + _ ≤ _; exact Nat.le_of_eq rfl) (hb hby at_68) (fun _ _ => ⟨rfl, e98, (by decide : 2 + 1 ≤ _), (by decide : 6 + 2 ≤ _)⟩)
        dsimp only [Pt.U, Pt.locs, Pt.cells, Pt.slots] at X101 l101 y101 z101 st101 hQ101
        subst l101 y101 z101
        obtain ⟨rfl, Nq101, K101, Ee101, Fc101, t101, kb101, u101, v101, w101, Fv101, Va101⟩ := hQ101
        have N101 := Fr.app N97 Nq101
        have Kh101 : Keep h0 T101.heap [] := Kh98.trans K101 (allS (Or.inr sz_b98) all0)
        have g_t101 := u101
        have ne_dc_t101 : dc ≠ t101 := Nat.ne_of_lt (Nat.lt_of_lt_of_le ((((V_d.ext E95).other W96 ne_dc_b95).other W97 ne_dc_b95).ext E98).lt v101)
        have ne_b95_t101 : b95 ≠ t101 := Nat.ne_of_lt (Nat.lt_of_lt_of_le (V97.ext E98).lt v101)
        have ne_b98_t101 : b98 ≠ t101 := Nat.ne_of_lt (Nat.lt_of_lt_of_le A98.lt v101)
        obtain ⟨_, _, ⟨T102, L102, c102_, n102_⟩, -, X102, hSc102, hgc102, ⟨Lc102, hQ102, l102, y102, z102, hCr102⟩, st102⟩ := callSS (s := s) X101 hx (y := (⟨"com/example/keelson/keelson/core/Envelope", "ok", "(Ljava/lang/Object;)Lcom/example/keelson/keelson/core/Envelope;"⟩ : MethodName)) hown (mvT hZ (hw _ (List.mem_of_getElem? (i := 0) rfl))) (mvT hZ (hw _ (List.mem_of_getElem? (i := 1) rfl))) (mvT hZ (hw _ (List.mem_of_getElem? (i := 2) rfl))) (mvT hZ (hw _ (List.mem_of_getElem? (i := 3) rfl))) (by decide) (backOfSH (s := s) (vm0 := s.vm) (W := 0) (rm_1 l Z a0 hw [] b98 T101.heap n0 (Nat.le_trans Z0 Kh101.1) ) hZ (hw _ (List.mem_of_getElem? (i := 3) rfl)) (hw _ (List.mem_of_getElem? (i := 2) rfl)) (by decide) (by decide) hEL (CHv.keep Kh101 (fun _ q_ => nomatch q_) hC)) (g := (mkF m 101 #[.val (.int p1), .val (.int p2), .val (.int p3), .val (.int p4), .val (.int (p1 &&& (3 : Int32))), .val (.ref b98), .val (.ref b95), .unset] [(.ref b98)])) rfl (by rw [hml]; rfl) (argsL := [(.ref b98)]) (rest := []) (lenOf pd__28Ljava_2flang_2fObject_3b_29Lcom_2fexample_2fkeelson_2fkeelson_2fcore_2fEnvelope_3b rfl) rfl (by show 2 * 0 + _ ≤ _; exact Nat.le_of_eq rfl) (hb hby at_101) (fun _ _ => ⟨rfl, rfl, (by decide : 3 + 3 ≤ _), (by decide : 8 + 15 ≤ _)⟩)
        dsimp only [Pt.U, Pt.locs, Pt.cells, Pt.slots] at X102 l102 y102 z102 st102 hQ102
        subst l102 y102 z102
        obtain ⟨rfl, Nq102, K102, Ee102, Fo102, Fd102, ma102, ta102, kb102, Fm102, Em102, Fc102, Fv102, Va102⟩ := hQ102
        have N102 := Fr.app N101 Nq102
        have hZ102 : Z.Warmed39 (s.setVm T102.vm).vm := State.Warmed39.trans hZ hSc102.1
        have hown102 : (s.setVm T102.vm).vm.findClass "com/example/keelson/keelson/core/EnvelopeOkPinLaw" = some m.cls := (hSc102.1.alike.findClass _ _).trans hown
        have Kh102 : Keep h0 T102.heap [] := Kh101.trans K102 (fun _ q_ => nomatch q_)
        obtain ⟨b102, g102⟩ : ∃ z, z = T101.heap.size := ⟨_, rfl⟩
        rw [← g102] at st102 Ee102 Fo102 Fd102 Fm102
        have ne_dc_b102 : dc ≠ b102 := Nat.ne_of_lt (Nat.lt_of_lt_of_le (((((V_d.ext E95).other W96 ne_dc_b95).other W97 ne_dc_b95).ext E98).keep K101 (ninS ne_dc_b98 nin0)).lt (Nat.le_of_eq g102.symm))
        have ne_b95_b102 : b95 ≠ b102 := Nat.ne_of_lt (Nat.lt_of_lt_of_le ((V97.ext E98).keep K101 (ninS ne_b95_b98 nin0)).lt (Nat.le_of_eq g102.symm))
        have ne_b98_b102 : b98 ≠ b102 := Nat.ne_of_lt (Nat.lt_of_lt_of_le Ee101.lt (Nat.le_of_eq g102.symm))
        have ne_t101_b102 : t101 ≠ b102 := Nat.ne_of_lt (Nat.lt_of_lt_of_le Va101.lt (Nat.le_of_eq g102.symm))
        obtain ⟨cq103, kq103, q103a, q103b, q103c⟩ := isOf hZ102 rfl Ee102
        obtain ⟨_, _, ⟨T103, L103, c103_, n103_⟩, -, X103, ⟨Lc103, hQ103, l103, y103, z103⟩, st103⟩ := X102.virtualBack hx (y := (⟨"com/example/keelson/keelson/core/Envelope", "message", "()Ljava/lang/String;"⟩ : MethodName)) (z := (⟨"com/example/keelson/keelson/core/Envelope", "message", "()Ljava/lang/String;"⟩ : MethodName)) hown102 (mvT hZ102 (hw _ (List.mem_of_getElem? (i := 31) rfl))) (mvT hZ102 (hw _ (List.mem_of_getElem? (i := 32) rfl))) (notFace_of_selects (args := #[]) (mvT hZ102 (hw _ (List.mem_of_getElem? (i := 34) rfl)))) (mvT hZ102 (hw _ (List.mem_of_getElem? (i := 34) rfl))) (mvT hZ102 (hw _ (List.mem_of_getElem? (i := 33) rfl))) (by decide) (backOf (W := 0) (rm_5 l Z a0 hw [] b102 ma102 T102.heap n0 (Nat.le_trans Z0 Kh102.1) Fm102) hZ102 (hw _ (List.mem_of_getElem? (i := 35) rfl)) (hw _ (List.mem_of_getElem? (i := 2) rfl)) (by decide) (by decide)) q103a q103c (g := (mkF m 108 #[.val (.int p1), .val (.int p2), .val (.int p3), .val (.int p4), .val (.int (p1 &&& (3 : Int32))), .val (.ref b98), .val (.ref b102), .unset] [(.ref b102)])) rfl (by rw [hml]; rfl) (Steps.refl _) (argsL := []) (rest := []) (lenOf pd__28_29Ljava_2flang_2fString_3b rfl) rfl (by show 2 * 0 + _ ≤ _; exact Nat.le_of_eq rfl) (hb hby at_108) (fun _ _ => ⟨rfl, rfl, (by decide : 6 + 0 ≤ _), (by decide : 23 + 0 ≤ _)⟩)
        dsimp only [Pt.U, Pt.locs, Pt.cells, Pt.slots] at X103 l103 y103 z103 st103 hQ103
        subst l103 y103 z103
        obtain ⟨rfl, Nq103, e103⟩ := hQ103
        have N103 := Fr.app N102 Nq103
        obtain ⟨cq104, kq104, q104a, q104b, q104c⟩ := isOf hZ102 e103 Ee102
        obtain ⟨_, _, ⟨T104, L104, c104_, n104_⟩, -, X104, ⟨Lc104, hQ104, l104, y104, z104⟩, st104⟩ := X103.virtualBack hx (y := (⟨"com/example/keelson/keelson/core/Envelope", "code", "()I"⟩ : MethodName)) (z := (⟨"com/example/keelson/keelson/core/Envelope", "code", "()I"⟩ : MethodName)) hown102 (mvT hZ102 (hw _ (List.mem_of_getElem? (i := 36) rfl))) (mvT hZ102 (hw _ (List.mem_of_getElem? (i := 37) rfl))) (notFace_of_selects (args := #[]) (mvT hZ102 (hw _ (List.mem_of_getElem? (i := 39) rfl)))) (mvT hZ102 (hw _ (List.mem_of_getElem? (i := 39) rfl))) (mvT hZ102 (hw _ (List.mem_of_getElem? (i := 38) rfl))) (by decide) (backOf (W := 0) (rm_6 l Z a0 hw [] b102 (0 : Int32) T102.heap n0 (Nat.le_trans Z0 Kh102.1) Fo102) hZ102 (hw _ (List.mem_of_getElem? (i := 40) rfl)) (hw _ (List.mem_of_getElem? (i := 2) rfl)) (by decide) (by decide)) q104a q104c (g := (mkF m 115 #[.val (.int p1), .val (.int p2), .val (.int p3), .val (.int p4), .val (.int (p1 &&& (3 : Int32))), .val (.ref b98), .val (.ref b102), .val (.ref ma102)] [(.ref b102)])) rfl (by rw [hml]; rfl) (Steps.refl _) (argsL := []) (rest := []) (lenOf pd__28_29I rfl) rfl (by show 2 * 0 + _ ≤ _; exact Nat.le_of_eq rfl) (hb hby at_115) (fun _ _ => ⟨rfl, e103, (by decide : 6 + 0 ≤ _), (by decide : 23 + 0 ≤ _)⟩)
        dsimp only [Pt.U, Pt.locs, Pt.cells, Pt.slots] at X104 l104 y104 z104 st104 hQ104
        subst l104 y104 z104
        obtain ⟨rfl, Nq104, e104⟩ := hQ104
        have N104 := Fr.app N103 Nq104
        have hc118 : (0 : Int32) = (0 : Int32) := by decide
        have f105 := ((f100.keep K101 (allS g_b98 all0)).keep K102 all0)
        obtain ⟨cq106, kq106, q106a, q106b, q106c⟩ := isOf hZ102 e104 Em102
        obtain ⟨_, _, ⟨T106, L106, c106_, n106_⟩, -, X106, ⟨Lc106, hQ106, l106, y106, z106⟩, st106⟩ := X104.virtualBack hx (y := (⟨"java/lang/String", "length", "()I"⟩ : MethodName)) (z := (⟨"java/lang/String", "length", "()I"⟩ : MethodName)) hown102 (mvT hZ102 (hw _ (List.mem_of_getElem? (i := 41) rfl))) (mvT hZ102 (hw _ (List.mem_of_getElem? (i := 42) rfl))) (notFace_of_selects (args := #[]) (mvT hZ102 (hw _ (List.mem_of_getElem? (i := 44) rfl)))) (mvT hZ102 (hw _ (List.mem_of_getElem? (i := 44) rfl))) (mvT hZ102 (hw _ (List.mem_of_getElem? (i := 43) rfl))) (by decide) (backOf (W := 0) (rm_7 l Z a0 hw [] ma102 ta102 kb102 zc T102.heap n0 (Nat.le_trans Z0 Kh102.1) Va102 (S_C.ext f105.2) hz Fc102 Fv102 Em102) hZ102 (hw _ (List.mem_of_getElem? (i := 45) rfl)) (hw _ (List.mem_of_getElem? (i := 7) rfl)) (by decide) (by decide)) q106a q106c (g := (mkF m 128 #[.val (.int p1), .val (.int p2), .val (.int p3), .val (.int p4), .val (.int (p1 &&& (3 : Int32))), .val (.ref b98), .val (.ref b102), .val (.ref ma102)] [(.ref ma102)])) rfl (by rw [hml]; rfl) (Steps.refl _) (argsL := []) (rest := []) (lenOf pd__28_29I rfl) rfl (by show 2 * 0 + _ ≤ _; exact Nat.le_of_eq rfl) (hb hby at_128) (fun _ _ => ⟨rfl, e104, (by decide : 6 + 0 ≤ _), (by decide : 23 + 0 ≤ _)⟩)
        dsimp only [Pt.U, Pt.locs, Pt.cells, Pt.slots] at X106 l106 y106 z106 st106 hQ106
        subst l106 y106 z106
        obtain ⟨rfl, Nq106, e106⟩ := hQ106
        have N106 := Fr.app N104 Nq106
        have hc132 : (2 : Int32) = (2 : Int32) := by decide
        obtain ⟨cq107, kq107, q107a, q107b, q107c⟩ := isOf hZ102 e106 Em102
        obtain ⟨_, _, ⟨T107, L107, c107_, n107_⟩, -, X107, ⟨Lc107, hQ107, l107, y107, z107⟩, st107⟩ := X106.virtualBack hx (y := (⟨"java/lang/String", "charAt", "(I)C"⟩ : MethodName)) (z := (⟨"java/lang/String", "charAt", "(I)C"⟩ : MethodName)) hown102 (mvT hZ102 (hw _ (List.mem_of_getElem? (i := 54) rfl))) (mvT hZ102 (hw _ (List.mem_of_getElem? (i := 55) rfl))) (notFace_of_selects (args := #[]) (mvT hZ102 (hw _ (List.mem_of_getElem? (i := 57) rfl)))) (mvT hZ102 (hw _ (List.mem_of_getElem? (i := 57) rfl))) (mvT hZ102 (hw _ (List.mem_of_getElem? (i := 56) rfl))) (by decide) (backOf (W := 0) (rm_ch l Z a0 hw [] ma102 (0 : Int32) (111 : Int32) ta102 kb102 (2 : Int32) [(.int (111 : Int32)), (.int (107 : Int32))] fm zc T102.heap n0 (Nat.le_trans Z0 Kh102.1) Va102 (by decide) (by decide) rfl rf (S_F.ext f105.2) (S_C.ext f105.2) hz Fc102 Fv102 Em102) hZ102 (hw _ (List.mem_of_getElem? (i := 58) rfl)) (hw _ (List.mem_of_getElem? (i := 7) rfl)) (by decide) (by decide)) q107a q107c (g := (mkF m 138 #[.val (.int p1), .val (.int p2), .val (.int p3), .val (.int p4), .val (.int (p1 &&& (3 : Int32))), .val (.ref b98), .val (.ref b102), .val (.ref ma102)] [(.int (0 : Int32)), (.ref ma102)])) rfl (by rw [hml]; rfl) (Steps.refl _) (argsL := [(.int (0 : Int32))]) (rest := []) (lenOf pd__28I_29C rfl) rfl (by show 2 * 0 + _ ≤ _; exact Nat.le_of_eq rfl) (hb hby at_138) (fun _ _ => ⟨rfl, e106, (by decide : 6 + 0 ≤ _), (by decide : 23 + 0 ≤ _)⟩)
        dsimp only [Pt.U, Pt.locs, Pt.cells, Pt.slots] at X107 l107 y107 z107 st107 hQ107
        subst l107 y107 z107
        obtain ⟨rfl, Nq107, e107⟩ := hQ107
        have N107 := Fr.app N106 Nq107
        have hc143 : (nar .char (nar .char (((111 : Int32) &&& (255 : Int32)).toUInt32.toUInt16.toUInt32.toInt32))) = (111 : Int32) := by decide
        obtain ⟨cq108, kq108, q108a, q108b, q108c⟩ := isOf hZ102 e107 Em102
        obtain ⟨_, _, ⟨T108, L108, c108_, n108_⟩, -, X108, ⟨Lc108, hQ108, l108, y108, z108⟩, st108⟩ := X107.virtualBack hx (y := (⟨"java/lang/String", "charAt", "(I)C"⟩ : MethodName)) (z := (⟨"java/lang/String", "charAt", "(I)C"⟩ : MethodName)) hown102 (mvT hZ102 (hw _ (List.mem_of_getElem? (i := 54) rfl))) (mvT hZ102 (hw _ (List.mem_of_getElem? (i := 55) rfl))) (notFace_of_selects (args := #[]) (mvT hZ102 (hw _ (List.mem_of_getElem? (i := 57) rfl)))) (mvT hZ102 (hw _ (List.mem_of_getElem? (i := 57) rfl))) (mvT hZ102 (hw _ (List.mem_of_getElem? (i := 56) rfl))) (by decide) (backOf (W := 0) (rm_ch l Z a0 hw [] ma102 (1 : Int32) (107 : Int32) ta102 kb102 (2 : Int32) [(.int (111 : Int32)), (.int (107 : Int32))] fm zc T102.heap n0 (Nat.le_trans Z0 Kh102.1) Va102 (by decide) (by decide) rfl rf (S_F.ext f105.2) (S_C.ext f105.2) hz Fc102 Fv102 Em102) hZ102 (hw _ (List.mem_of_getElem? (i := 58) rfl)) (hw _ (List.mem_of_getElem? (i := 7) rfl)) (by decide) (by decide)) q108a q108c (g := (mkF m 149 #[.val (.int p1), .val (.int p2), .val (.int p3), .val (.int p4), .val (.int (p1 &&& (3 : Int32))), .val (.ref b98), .val (.ref b102), .val (.ref ma102)] [(.int (1 : Int32)), (.ref ma102)])) rfl (by rw [hml]; rfl) (Steps.refl _) (argsL := [(.int (1 : Int32))]) (rest := []) (lenOf pd__28I_29C rfl) rfl (by show 2 * 0 + _ ≤ _; exact Nat.le_of_eq rfl) (hb hby at_149) (fun _ _ => ⟨rfl, e107, (by decide : 6 + 0 ≤ _), (by decide : 23 + 0 ≤ _)⟩)
        dsimp only [Pt.U, Pt.locs, Pt.cells, Pt.slots] at X108 l108 y108 z108 st108 hQ108
        subst l108 y108 z108
        obtain ⟨rfl, Nq108, e108⟩ := hQ108
        have N108 := Fr.app N107 Nq108
        have hc154 : (nar .char (nar .char (((107 : Int32) &&& (255 : Int32)).toUInt32.toUInt16.toUInt32.toInt32))) = (107 : Int32) := by decide
        obtain ⟨cq109, kq109, q109a, q109b, q109c⟩ := isOf hZ102 e108 Ee102
        obtain ⟨_, _, ⟨T109, L109, c109_, n109_⟩, -, X109, ⟨Lc109, hQ109, l109, y109, z109⟩, st109⟩ := X108.virtualBack hx (y := (⟨"com/example/keelson/keelson/core/Envelope", "data", "()Ljava/lang/Object;"⟩ : MethodName)) (z := (⟨"com/example/keelson/keelson/core/Envelope", "data", "()Ljava/lang/Object;"⟩ : MethodName)) hown102 (mvT hZ102 (hw _ (List.mem_of_getElem? (i := 76) rfl))) (mvT hZ102 (hw _ (List.mem_of_getElem? (i := 77) rfl))) (notFace_of_selects (args := #[]) (mvT hZ102 (hw _ (List.mem_of_getElem? (i := 79) rfl)))) (mvT hZ102 (hw _ (List.mem_of_getElem? (i := 79) rfl))) (mvT hZ102 (hw _ (List.mem_of_getElem? (i := 78) rfl))) (by decide) (backOf (W := 0) (rm_14 l Z a0 hw [] b102 b98 T102.heap n0 (Nat.le_trans Z0 Kh102.1) Fd102) hZ102 (hw _ (List.mem_of_getElem? (i := 80) rfl)) (hw _ (List.mem_of_getElem? (i := 2) rfl)) (by decide) (by decide)) q109a q109c (g := (mkF m 159 #[.val (.int p1), .val (.int p2), .val (.int p3), .val (.int p4), .val (.int (p1 &&& (3 : Int32))), .val (.ref b98), .val (.ref b102), .val (.ref ma102)] [(.ref b102)])) rfl (by rw [hml]; rfl) (Steps.refl _) (argsL := []) (rest := []) (lenOf pd__28_29Ljava_2flang_2fObject_3b rfl) rfl (by show 2 * 0 + _ ≤ _; exact Nat.le_of_eq rfl) (hb hby at_159) (fun _ _ => ⟨rfl, e108, (by decide : 6 + 0 ≤ _), (by decide : 23 + 0 ≤ _)⟩)
        dsimp only [Pt.U, Pt.locs, Pt.cells, Pt.slots] at X109 l109 y109 z109 st109 hQ109
        subst l109 y109 z109
        obtain ⟨rfl, Nq109, e109⟩ := hQ109
        have N109 := Fr.app N108 Nq109
        obtain ⟨fs, hr, hrun, hended, hRW⟩ := X109.leaveW (s := s) (vm₁ := T102.vm) hSc102 (by rw [e109]; exact (Nat.le_refl _)) (v := some (.int (1 : Int32))) (fun h => by rw [Bd.returns] at h; cases h)
        refine ⟨_, _, pre0 _ ?_, hrun, hended, _, _, rfl, ?_, hRW.1, hRW.2.1, hRW.2.2.1, hRW.2.2.2.mono (by decide) (by decide)⟩
        · show Steps p.tables e below (s₁.setTop (mkF m 0 #[.val (.int p1), .val (.int p2), .val (.int p3), .val (.int p4), .unset, .unset, .unset, .unset] [])) _
          refine XS.iloadN X0.here hx rfl (hb hby at_0) rfl ?_
          show Steps p.tables e below (s₁.setTop (mkF m 1 #[.val (.int p1), .val (.int p2), .val (.int p3), .val (.int p4), .unset, .unset, .unset, .unset] [(.int p1)])) _
          refine XS.iconst X0.here hx rfl (hb hby at_1) ?_
          show Steps p.tables e below (s₁.setTop (mkF m 2 #[.val (.int p1), .val (.int p2), .val (.int p3), .val (.int p4), .unset, .unset, .unset, .unset] [(.int (3 : Int32)), (.int p1)])) _
          refine XS.iand X0.here hx rfl (hb hby at_2) rfl ?_
          show Steps p.tables e below (s₁.setTop (mkF m 3 #[.val (.int p1), .val (.int p2), .val (.int p3), .val (.int p4), .unset, .unset, .unset, .unset] [(.int (p1 &&& (3 : Int32)))])) _
          refine XS.istore X0.here hx rfl (hb hby at_3) rfl (l' := #[.val (.int p1), .val (.int p2), .val (.int p3), .val (.int p4), .val (.int (p1 &&& (3 : Int32))), .unset, .unset, .unset]) rfl ?_
          show Steps p.tables e below (s₁.setTop (mkF m 5 #[.val (.int p1), .val (.int p2), .val (.int p3), .val (.int p4), .val (.int (p1 &&& (3 : Int32))), .unset, .unset, .unset] [])) _
          refine XS.iload X0.here hx rfl (hb hby at_5) rfl ?_
          show Steps p.tables e below (s₁.setTop (mkF m 7 #[.val (.int p1), .val (.int p2), .val (.int p3), .val (.int p4), .val (.int (p1 &&& (3 : Int32))), .unset, .unset, .unset] [(.int (p1 &&& (3 : Int32)))])) _
          refine XS.ifYes X0.here hx rfl (pc0 := 7) (pc' := 16) rfl (hb hby at_7) rfl ((if0 _ _).trans (feq hc7).2) (by decide) (by decide) ?_
          show Steps p.tables e below (s₁.setTop (mkF m 16 #[.val (.int p1), .val (.int p2), .val (.int p3), .val (.int p4), .val (.int (p1 &&& (3 : Int32))), .unset, .unset, .unset] [])) _
          refine XS.iload X0.here hx rfl (hb hby at_16) rfl ?_
          show Steps p.tables e below (s₁.setTop (mkF m 18 #[.val (.int p1), .val (.int p2), .val (.int p3), .val (.int p4), .val (.int (p1 &&& (3 : Int32))), .unset, .unset, .unset] [(.int (p1 &&& (3 : Int32)))])) _
          refine XS.iconst X0.here hx rfl (hb hby at_18) ?_
          show Steps p.tables e below (s₁.setTop (mkF m 19 #[.val (.int p1), .val (.int p2), .val (.int p3), .val (.int p4), .val (.int (p1 &&& (3 : Int32))), .unset, .unset, .unset] [(.int (1 : Int32)), (.int (p1 &&& (3 : Int32)))])) _
          refine XS.icmpYes X0.here hx rfl (pc0 := 19) (pc' := 31) rfl (hb hby at_19) rfl (feq hc19).2 (by decide) (by decide) ?_
          show Steps p.tables e below (s₁.setTop (mkF m 31 #[.val (.int p1), .val (.int p2), .val (.int p3), .val (.int p4), .val (.int (p1 &&& (3 : Int32))), .unset, .unset, .unset] [])) _
          refine XS.iload X0.here hx rfl (hb hby at_31) rfl ?_
          show Steps p.tables e below (s₁.setTop (mkF m 33 #[.val (.int p1), .val (.int p2), .val (.int p3), .val (.int p4), .val (.int (p1 &&& (3 : Int32))), .unset, .unset, .unset] [(.int (p1 &&& (3 : Int32)))])) _
          refine XS.iconst X0.here hx rfl (hb hby at_33) ?_
          show Steps p.tables e below (s₁.setTop (mkF m 34 #[.val (.int p1), .val (.int p2), .val (.int p3), .val (.int p4), .val (.int (p1 &&& (3 : Int32))), .unset, .unset, .unset] [(.int (2 : Int32)), (.int (p1 &&& (3 : Int32)))])) _
          refine XS.icmpNo X0.here hx rfl (hb hby at_34) rfl (teq hc34).2 ?_
          show Steps p.tables e below (s₁.setTop (mkF m 37 #[.val (.int p1), .val (.int p2), .val (.int p3), .val (.int p4), .val (.int (p1 &&& (3 : Int32))), .unset, .unset, .unset] [])) _
          refine XS.iconst X0.here hx rfl (hb hby at_37) ?_
          show Steps p.tables e below (s₁.setTop (mkF m 38 #[.val (.int p1), .val (.int p2), .val (.int p3), .val (.int p4), .val (.int (p1 &&& (3 : Int32))), .unset, .unset, .unset] [(.int (2 : Int32))])) _
          refine st95 _ ?_
          show Steps p.tables e below (T95.setTop (mkF m 40 #[.val (.int p1), .val (.int p2), .val (.int p3), .val (.int p4), .val (.int (p1 &&& (3 : Int32))), .unset, .unset, .unset] [(.ref b95)])) _
          refine XS.astore X95.here hx rfl (hb hby at_40) rfl rfl (l' := #[.val (.int p1), .val (.int p2), .val (.int p3), .val (.int p4), .val (.int (p1 &&& (3 : Int32))), .unset, .val (.ref b95), .unset]) rfl ?_
          show Steps p.tables e below (T95.setTop (mkF m 42 #[.val (.int p1), .val (.int p2), .val (.int p3), .val (.int p4), .val (.int (p1 &&& (3 : Int32))), .unset, .val (.ref b95), .unset] [])) _
          refine XS.aload X95.here hx rfl (hb hby at_42) rfl rfl ?_
          show Steps p.tables e below (T95.setTop (mkF m 44 #[.val (.int p1), .val (.int p2), .val (.int p3), .val (.int p4), .val (.int (p1 &&& (3 : Int32))), .unset, .val (.ref b95), .unset] [(.ref b95)])) _
          refine XS.iconst X95.here hx rfl (hb hby at_44) ?_
          show Steps p.tables e below (T95.setTop (mkF m 45 #[.val (.int p1), .val (.int p2), .val (.int p3), .val (.int p4), .val (.int (p1 &&& (3 : Int32))), .unset, .val (.ref b95), .unset] [(.int (0 : Int32)), (.ref b95)])) _
          refine XS.iloadN X95.here hx rfl (hb hby at_45) rfl ?_
          show Steps p.tables e below (T95.setTop (mkF m 46 #[.val (.int p1), .val (.int p2), .val (.int p3), .val (.int p4), .val (.int (p1 &&& (3 : Int32))), .unset, .val (.ref b95), .unset] [(.int p3), (.int (0 : Int32)), (.ref b95)])) _
          refine XS.sipush X95.here hx rfl (hb hby at_46) ?_
          show Steps p.tables e below (T95.setTop (mkF m 49 #[.val (.int p1), .val (.int p2), .val (.int p3), .val (.int p4), .val (.int (p1 &&& (3 : Int32))), .unset, .val (.ref b95), .unset] [(.int (255 : Int32)), (.int p3), (.int (0 : Int32)), (.ref b95)])) _
          refine XS.iand X95.here hx rfl (hb hby at_49) rfl ?_
          show Steps p.tables e below (T95.setTop (mkF m 50 #[.val (.int p1), .val (.int p2), .val (.int p3), .val (.int p4), .val (.int (p1 &&& (3 : Int32))), .unset, .val (.ref b95), .unset] [(.int (p3 &&& (255 : Int32))), (.int (0 : Int32)), (.ref b95)])) _
          refine XS.i2c X95.here hx rfl (hb hby at_50) rfl ?_
          show Steps p.tables e below (T95.setTop (mkF m 51 #[.val (.int p1), .val (.int p2), .val (.int p3), .val (.int p4), .val (.int (p1 &&& (3 : Int32))), .unset, .val (.ref b95), .unset] [(.int ((p3 &&& (255 : Int32)).toUInt32.toUInt16.toUInt32.toInt32)), (.int (0 : Int32)), (.ref b95)])) _
          rw [← e_c0]
          show Steps p.tables e below (T95.setTop (mkF m 51 #[.val (.int p1), .val (.int p2), .val (.int p3), .val (.int p4), .val (.int (p1 &&& (3 : Int32))), .unset, .val (.ref b95), .unset] [(.int c0), (.int (0 : Int32)), (.ref b95)])) _
          refine st96 _ ?_
          show Steps p.tables e below (T96.setTop (mkF m 52 #[.val (.int p1), .val (.int p2), .val (.int p3), .val (.int p4), .val (.int (p1 &&& (3 : Int32))), .unset, .val (.ref b95), .unset] [])) _
          refine XS.aload X96.here hx rfl (hb hby at_52) rfl rfl ?_
          show Steps p.tables e below (T96.setTop (mkF m 54 #[.val (.int p1), .val (.int p2), .val (.int p3), .val (.int p4), .val (.int (p1 &&& (3 : Int32))), .unset, .val (.ref b95), .unset] [(.ref b95)])) _
          refine XS.iconst X96.here hx rfl (hb hby at_54) ?_
          show Steps p.tables e below (T96.setTop (mkF m 55 #[.val (.int p1), .val (.int p2), .val (.int p3), .val (.int p4), .val (.int (p1 &&& (3 : Int32))), .unset, .val (.ref b95), .unset] [(.int (1 : Int32)), (.ref b95)])) _
          refine XS.iloadN X96.here hx rfl (hb hby at_55) rfl ?_
          show Steps p.tables e below (T96.setTop (mkF m 56 #[.val (.int p1), .val (.int p2), .val (.int p3), .val (.int p4), .val (.int (p1 &&& (3 : Int32))), .unset, .val (.ref b95), .unset] [(.int p4), (.int (1 : Int32)), (.ref b95)])) _
          refine XS.sipush X96.here hx rfl (hb hby at_56) ?_
          show Steps p.tables e below (T96.setTop (mkF m 59 #[.val (.int p1), .val (.int p2), .val (.int p3), .val (.int p4), .val (.int (p1 &&& (3 : Int32))), .unset, .val (.ref b95), .unset] [(.int (255 : Int32)), (.int p4), (.int (1 : Int32)), (.ref b95)])) _
          refine XS.iand X96.here hx rfl (hb hby at_59) rfl ?_
          show Steps p.tables e below (T96.setTop (mkF m 60 #[.val (.int p1), .val (.int p2), .val (.int p3), .val (.int p4), .val (.int (p1 &&& (3 : Int32))), .unset, .val (.ref b95), .unset] [(.int (p4 &&& (255 : Int32))), (.int (1 : Int32)), (.ref b95)])) _
          refine XS.i2c X96.here hx rfl (hb hby at_60) rfl ?_
          show Steps p.tables e below (T96.setTop (mkF m 61 #[.val (.int p1), .val (.int p2), .val (.int p3), .val (.int p4), .val (.int (p1 &&& (3 : Int32))), .unset, .val (.ref b95), .unset] [(.int ((p4 &&& (255 : Int32)).toUInt32.toUInt16.toUInt32.toInt32)), (.int (1 : Int32)), (.ref b95)])) _
          rw [← e_c1]
          show Steps p.tables e below (T96.setTop (mkF m 61 #[.val (.int p1), .val (.int p2), .val (.int p3), .val (.int p4), .val (.int (p1 &&& (3 : Int32))), .unset, .val (.ref b95), .unset] [(.int c1), (.int (1 : Int32)), (.ref b95)])) _
          refine st97 _ ?_
          show Steps p.tables e below (T97.setTop (mkF m 62 #[.val (.int p1), .val (.int p2), .val (.int p3), .val (.int p4), .val (.int (p1 &&& (3 : Int32))), .unset, .val (.ref b95), .unset] [])) _
          refine st98 _ ?_
          show Steps p.tables e below (T98.setTop (mkF m 65 #[.val (.int p1), .val (.int p2), .val (.int p3), .val (.int p4), .val (.int (p1 &&& (3 : Int32))), .unset, .val (.ref b95), .unset] [(.ref b98)])) _
          refine XS.dup X98.here hx rfl (hb hby at_65) rfl rfl ?_
          show Steps p.tables e below (T98.setTop (mkF m 66 #[.val (.int p1), .val (.int p2), .val (.int p3), .val (.int p4), .val (.int (p1 &&& (3 : Int32))), .unset, .val (.ref b95), .unset] [(.ref b98), (.ref b98)])) _
          refine XS.aload X98.here hx rfl (hb hby at_66) rfl rfl ?_
          show Steps p.tables e below (T98.setTop (mkF m 68 #[.val (.int p1), .val (.int p2), .val (.int p3), .val (.int p4), .val (.int (p1 &&& (3 : Int32))), .unset, .val (.ref b95), .unset] [(.ref b95), (.ref b98), (.ref b98)])) _
          refine st101.trans ?_
          show Steps p.tables e below (T101.setTop (mkF m 71 #[.val (.int p1), .val (.int p2), .val (.int p3), .val (.int p4), .val (.int (p1 &&& (3 : Int32))), .unset, .val (.ref b95), .unset] [(.ref b98)])) _
          refine XS.astore X101.here hx rfl (hb hby at_71) rfl rfl (l' := #[.val (.int p1), .val (.int p2), .val (.int p3), .val (.int p4), .val (.int (p1 &&& (3 : Int32))), .val (.ref b98), .val (.ref b95), .unset]) rfl ?_
          show Steps p.tables e below (T101.setTop (mkF m 73 #[.val (.int p1), .val (.int p2), .val (.int p3), .val (.int p4), .val (.int (p1 &&& (3 : Int32))), .val (.ref b98), .val (.ref b95), .unset] [])) _
          refine XS.goto X101.here hx rfl (pc0 := 73) (pc' := 99) rfl (hb hby at_73) (by decide) (by decide) ?_
          show Steps p.tables e below (T101.setTop (mkF m 99 #[.val (.int p1), .val (.int p2), .val (.int p3), .val (.int p4), .val (.int (p1 &&& (3 : Int32))), .val (.ref b98), .val (.ref b95), .unset] [])) _
          refine XS.aload X101.here hx rfl (hb hby at_99) rfl rfl ?_
          show Steps p.tables e below (T101.setTop (mkF m 101 #[.val (.int p1), .val (.int p2), .val (.int p3), .val (.int p4), .val (.int (p1 &&& (3 : Int32))), .val (.ref b98), .val (.ref b95), .unset] [(.ref b98)])) _
          refine st102.trans ?_
          show Steps p.tables e below (T102.setTop (mkF m 104 #[.val (.int p1), .val (.int p2), .val (.int p3), .val (.int p4), .val (.int (p1 &&& (3 : Int32))), .val (.ref b98), .val (.ref b95), .unset] [(.ref b102)])) _
          refine XS.astore X102.here hx rfl (hb hby at_104) rfl rfl (l' := #[.val (.int p1), .val (.int p2), .val (.int p3), .val (.int p4), .val (.int (p1 &&& (3 : Int32))), .val (.ref b98), .val (.ref b102), .unset]) rfl ?_
          show Steps p.tables e below (T102.setTop (mkF m 106 #[.val (.int p1), .val (.int p2), .val (.int p3), .val (.int p4), .val (.int (p1 &&& (3 : Int32))), .val (.ref b98), .val (.ref b102), .unset] [])) _
          refine XS.aload X102.here hx rfl (hb hby at_106) rfl rfl ?_
          show Steps p.tables e below (T102.setTop (mkF m 108 #[.val (.int p1), .val (.int p2), .val (.int p3), .val (.int p4), .val (.int (p1 &&& (3 : Int32))), .val (.ref b98), .val (.ref b102), .unset] [(.ref b102)])) _
          refine st103.trans ?_
          show Steps p.tables e below (T103.setTop (mkF m 111 #[.val (.int p1), .val (.int p2), .val (.int p3), .val (.int p4), .val (.int (p1 &&& (3 : Int32))), .val (.ref b98), .val (.ref b102), .unset] [(.ref ma102)])) _
          refine XS.astore X103.here hx rfl (hb hby at_111) rfl rfl (l' := #[.val (.int p1), .val (.int p2), .val (.int p3), .val (.int p4), .val (.int (p1 &&& (3 : Int32))), .val (.ref b98), .val (.ref b102), .val (.ref ma102)]) rfl ?_
          show Steps p.tables e below (T103.setTop (mkF m 113 #[.val (.int p1), .val (.int p2), .val (.int p3), .val (.int p4), .val (.int (p1 &&& (3 : Int32))), .val (.ref b98), .val (.ref b102), .val (.ref ma102)] [])) _
          refine XS.aload X103.here hx rfl (hb hby at_113) rfl rfl ?_
          show Steps p.tables e below (T103.setTop (mkF m 115 #[.val (.int p1), .val (.int p2), .val (.int p3), .val (.int p4), .val (.int (p1 &&& (3 : Int32))), .val (.ref b98), .val (.ref b102), .val (.ref ma102)] [(.ref b102)])) _
          refine st104.trans ?_
          show Steps p.tables e below (T104.setTop (mkF m 118 #[.val (.int p1), .val (.int p2), .val (.int p3), .val (.int p4), .val (.int (p1 &&& (3 : Int32))), .val (.ref b98), .val (.ref b102), .val (.ref ma102)] [(.int (0 : Int32))])) _
          refine XS.ifNo X104.here hx rfl (hb hby at_118) rfl ((if0 _ _).trans (teq hc118).2) ?_
          show Steps p.tables e below (T104.setTop (mkF m 121 #[.val (.int p1), .val (.int p2), .val (.int p3), .val (.int p4), .val (.int (p1 &&& (3 : Int32))), .val (.ref b98), .val (.ref b102), .val (.ref ma102)] [])) _
          refine XS.aload X104.here hx rfl (hb hby at_121) rfl rfl ?_
          show Steps p.tables e below (T104.setTop (mkF m 123 #[.val (.int p1), .val (.int p2), .val (.int p3), .val (.int p4), .val (.int (p1 &&& (3 : Int32))), .val (.ref b98), .val (.ref b102), .val (.ref ma102)] [(.ref ma102)])) _
          refine XS.ifnullNo X104.here hx rfl (hb hby at_123) rfl ?_
          show Steps p.tables e below (T104.setTop (mkF m 126 #[.val (.int p1), .val (.int p2), .val (.int p3), .val (.int p4), .val (.int (p1 &&& (3 : Int32))), .val (.ref b98), .val (.ref b102), .val (.ref ma102)] [])) _
          refine XS.aload X104.here hx rfl (hb hby at_126) rfl rfl ?_
          show Steps p.tables e below (T104.setTop (mkF m 128 #[.val (.int p1), .val (.int p2), .val (.int p3), .val (.int p4), .val (.int (p1 &&& (3 : Int32))), .val (.ref b98), .val (.ref b102), .val (.ref ma102)] [(.ref ma102)])) _
          refine st106.trans ?_
          show Steps p.tables e below (T106.setTop (mkF m 131 #[.val (.int p1), .val (.int p2), .val (.int p3), .val (.int p4), .val (.int (p1 &&& (3 : Int32))), .val (.ref b98), .val (.ref b102), .val (.ref ma102)] [(.int (2 : Int32))])) _
          refine XS.iconst X106.here hx rfl (hb hby at_131) ?_
          show Steps p.tables e below (T106.setTop (mkF m 132 #[.val (.int p1), .val (.int p2), .val (.int p3), .val (.int p4), .val (.int (p1 &&& (3 : Int32))), .val (.ref b98), .val (.ref b102), .val (.ref ma102)] [(.int (2 : Int32)), (.int (2 : Int32))])) _
          refine XS.icmpNo X106.here hx rfl (hb hby at_132) rfl (teq hc132).2 ?_
          show Steps p.tables e below (T106.setTop (mkF m 135 #[.val (.int p1), .val (.int p2), .val (.int p3), .val (.int p4), .val (.int (p1 &&& (3 : Int32))), .val (.ref b98), .val (.ref b102), .val (.ref ma102)] [])) _
          refine XS.aload X106.here hx rfl (hb hby at_135) rfl rfl ?_
          show Steps p.tables e below (T106.setTop (mkF m 137 #[.val (.int p1), .val (.int p2), .val (.int p3), .val (.int p4), .val (.int (p1 &&& (3 : Int32))), .val (.ref b98), .val (.ref b102), .val (.ref ma102)] [(.ref ma102)])) _
          refine XS.iconst X106.here hx rfl (hb hby at_137) ?_
          show Steps p.tables e below (T106.setTop (mkF m 138 #[.val (.int p1), .val (.int p2), .val (.int p3), .val (.int p4), .val (.int (p1 &&& (3 : Int32))), .val (.ref b98), .val (.ref b102), .val (.ref ma102)] [(.int (0 : Int32)), (.ref ma102)])) _
          refine st107.trans ?_
          show Steps p.tables e below (T107.setTop (mkF m 141 #[.val (.int p1), .val (.int p2), .val (.int p3), .val (.int p4), .val (.int (p1 &&& (3 : Int32))), .val (.ref b98), .val (.ref b102), .val (.ref ma102)] [(.int (nar .char (nar .char (((111 : Int32) &&& (255 : Int32)).toUInt32.toUInt16.toUInt32.toInt32))))])) _
          refine XS.bipush X107.here hx rfl (hb hby at_141) ?_
          show Steps p.tables e below (T107.setTop (mkF m 143 #[.val (.int p1), .val (.int p2), .val (.int p3), .val (.int p4), .val (.int (p1 &&& (3 : Int32))), .val (.ref b98), .val (.ref b102), .val (.ref ma102)] [(.int (111 : Int32)), (.int (nar .char (nar .char (((111 : Int32) &&& (255 : Int32)).toUInt32.toUInt16.toUInt32.toInt32))))])) _
          refine XS.icmpNo X107.here hx rfl (hb hby at_143) rfl (teq hc143).2 ?_
          show Steps p.tables e below (T107.setTop (mkF m 146 #[.val (.int p1), .val (.int p2), .val (.int p3), .val (.int p4), .val (.int (p1 &&& (3 : Int32))), .val (.ref b98), .val (.ref b102), .val (.ref ma102)] [])) _
          refine XS.aload X107.here hx rfl (hb hby at_146) rfl rfl ?_
          show Steps p.tables e below (T107.setTop (mkF m 148 #[.val (.int p1), .val (.int p2), .val (.int p3), .val (.int p4), .val (.int (p1 &&& (3 : Int32))), .val (.ref b98), .val (.ref b102), .val (.ref ma102)] [(.ref ma102)])) _
          refine XS.iconst X107.here hx rfl (hb hby at_148) ?_
          show Steps p.tables e below (T107.setTop (mkF m 149 #[.val (.int p1), .val (.int p2), .val (.int p3), .val (.int p4), .val (.int (p1 &&& (3 : Int32))), .val (.ref b98), .val (.ref b102), .val (.ref ma102)] [(.int (1 : Int32)), (.ref ma102)])) _
          refine st108.trans ?_
          show Steps p.tables e below (T108.setTop (mkF m 152 #[.val (.int p1), .val (.int p2), .val (.int p3), .val (.int p4), .val (.int (p1 &&& (3 : Int32))), .val (.ref b98), .val (.ref b102), .val (.ref ma102)] [(.int (nar .char (nar .char (((107 : Int32) &&& (255 : Int32)).toUInt32.toUInt16.toUInt32.toInt32))))])) _
          refine XS.bipush X108.here hx rfl (hb hby at_152) ?_
          show Steps p.tables e below (T108.setTop (mkF m 154 #[.val (.int p1), .val (.int p2), .val (.int p3), .val (.int p4), .val (.int (p1 &&& (3 : Int32))), .val (.ref b98), .val (.ref b102), .val (.ref ma102)] [(.int (107 : Int32)), (.int (nar .char (nar .char (((107 : Int32) &&& (255 : Int32)).toUInt32.toUInt16.toUInt32.toInt32))))])) _
          refine XS.icmpNo X108.here hx rfl (hb hby at_154) rfl (teq hc154).2 ?_
          show Steps p.tables e below (T108.setTop (mkF m 157 #[.val (.int p1), .val (.int p2), .val (.int p3), .val (.int p4), .val (.int (p1 &&& (3 : Int32))), .val (.ref b98), .val (.ref b102), .val (.ref ma102)] [])) _
          refine XS.aload X108.here hx rfl (hb hby at_157) rfl rfl ?_
          show Steps p.tables e below (T108.setTop (mkF m 159 #[.val (.int p1), .val (.int p2), .val (.int p3), .val (.int p4), .val (.int (p1 &&& (3 : Int32))), .val (.ref b98), .val (.ref b102), .val (.ref ma102)] [(.ref b102)])) _
          refine st109.trans ?_
          show Steps p.tables e below (T109.setTop (mkF m 162 #[.val (.int p1), .val (.int p2), .val (.int p3), .val (.int p4), .val (.int (p1 &&& (3 : Int32))), .val (.ref b98), .val (.ref b102), .val (.ref ma102)] [(.ref b98)])) _
          refine XS.aload X109.here hx rfl (hb hby at_162) rfl rfl ?_
          show Steps p.tables e below (T109.setTop (mkF m 164 #[.val (.int p1), .val (.int p2), .val (.int p3), .val (.int p4), .val (.int (p1 &&& (3 : Int32))), .val (.ref b98), .val (.ref b102), .val (.ref ma102)] [(.ref b98), (.ref b98)])) _
          refine Jvm.RoadKit.acmp (g := (mkF m 164 #[.val (.int p1), .val (.int p2), .val (.int p3), .val (.int p4), .val (.int (p1 &&& (3 : Int32))), .val (.ref b98), .val (.ref b102), .val (.ref ma102)] [(.ref b98), (.ref b98)])) X109 hx rfl rfl rfl (pc0 := 164) (pc' := 167) (same := true) rfl (hb hby at_164) rfl (decide_eq_true rfl) (by decide) (by decide) ?_
          show Steps p.tables e below (T109.setTop (mkF m 167 #[.val (.int p1), .val (.int p2), .val (.int p3), .val (.int p4), .val (.int (p1 &&& (3 : Int32))), .val (.ref b98), .val (.ref b102), .val (.ref ma102)] [])) _
          refine XS.iconst X109.here hx rfl (hb hby at_167) ?_
          show Steps p.tables e below (T109.setTop (mkF m 168 #[.val (.int p1), .val (.int p2), .val (.int p3), .val (.int p4), .val (.int (p1 &&& (3 : Int32))), .val (.ref b98), .val (.ref b102), .val (.ref ma102)] [(.int (1 : Int32))])) _
          refine XS.goto X109.here hx rfl (pc0 := 168) (pc' := 172) rfl (hb hby at_168) (by decide) (by decide) ?_
          show Steps p.tables e below (T109.setTop (mkF m 172 #[.val (.int p1), .val (.int p2), .val (.int p3), .val (.int p4), .val (.int (p1 &&& (3 : Int32))), .val (.ref b98), .val (.ref b102), .val (.ref ma102)] [(.int (1 : Int32))])) _
          exact retN X109 hx (t := .boolean) Bd.returns (by simp) (hb hby at_172) hr
        · show Q_0 Z p1 p2 p3 p4 h0 n0 _ T109.heap _
          rw [e109]
          exact ⟨rfl, N109⟩
      · obtain ⟨T110, h110, X110, e110, E110, A110, D110, -, st110⟩ := newO X0 hx hZ hown (hw _ (List.mem_of_getElem? (i := 81) rfl)) (hw _ (List.mem_of_getElem? (i := 82) rfl)) (hw _ (List.mem_of_getElem? (i := 83) rfl)) e0 (g := (mkF m 76 #[.val (.int p1), .val (.int p2), .val (.int p3), .val (.int p4), .val (.int (p1 &&& (3 : Int32))), .unset, .unset, .unset] [])) rfl (hb hby at_76) (by decide) (by decide)
        obtain ⟨b110, g110⟩ : ∃ z, z = h0.size := ⟨_, rfl⟩
        rw [← g110] at A110 D110 st110
        have g_b110 : n0 ≤ b110 := Nat.le_trans (Nat.le_trans Z0 (Keep.refl h0 []).1) (Nat.le_of_eq g110.symm)
        have sz_b110 : h0.size ≤ b110 := Nat.le_trans (Keep.refl h0 []).1 (Nat.le_of_eq g110.symm)
        have ne_dc_b110 : dc ≠ b110 := Nat.ne_of_lt (Nat.lt_of_lt_of_le V_d.lt (Nat.le_of_eq g110.symm))
        have Kh110 : Keep h0 h110 [] := (Keep.refl h0 []).ext E110
        have F_modCount_b110 : Fld Z h110 b110 "java/util/AbstractList" "modCount" "I" (.int (0 : Int32)) := D110 (Or.inl (hw _ (List.mem_of_getElem? (i := 101) rfl))) (ty := .int) (by decide)
        have F_elementData_b110 : Fld Z h110 b110 "java/util/ArrayList" "elementData" "[Ljava/lang/Object;" .null := D110 (Or.inl (hw _ (List.mem_of_getElem? (i := 104) rfl))) (ty := (.array (.object "java/lang/Object"))) (by decide)
        have F_size_b110 : Fld Z h110 b110 "java/util/ArrayList" "size" "I" (.int (0 : Int32)) := D110 (Or.inl (hw _ (List.mem_of_getElem? (i := 134) rfl))) (ty := .int) (by decide)
        obtain ⟨_, _, ⟨T111, L111, c111_, n111_⟩, -, X111, ⟨Lc111, hQ111, l111, y111, z111⟩, st111⟩ := X110.specialBack hx (y := (⟨"java/util/ArrayList", "<init>", "()V"⟩ : MethodName)) rfl hown (mvT hZ (hw _ (List.mem_of_getElem? (i := 84) rfl))) (mvT hZ (hw _ (List.mem_of_getElem? (i := 85) rfl))) (mvT hZ (hw _ (List.mem_of_getElem? (i := 86) rfl))) (by decide) (backOf (W := 1) (rm_15 l Z a0 hw [] b110 dc h110 n0 (Nat.le_trans Z0 Kh110.1) A110 g_b110 F_modCount_b110 F_elementData_b110 F_size_b110 S_DEFAULTCAPACITY_EMPTY_ELEMENTDATA (X00.ext E110)) hZ (hw _ (List.mem_of_getElem? (i := 86) rfl)) (hw _ (List.mem_of_getElem? (i := 83) rfl)) (by decide) (by decide)) (g := (mkF m 80 #[.val (.int p1), .val (.int p2), .val (.int p3), .val (.int p4), .val (.int (p1 &&& (3 : Int32))), .unset, .unset, .unset] [(.ref b110), (.ref b110)])) rfl (by rw [hml]; rfl) (Steps.refl _) (a := b110) (argsL := []) (rest := [(.ref b110)]) (lenOf pd__28_29V rfl) rfl (by show 2 * 0 + _ ≤ _; exact Nat.le_of_eq rfl) (hb hby at_80) (fun _ _ => ⟨rfl, e110, (by decide : 1 + 0 ≤ _), (by decide : 3 + 0 ≤ _)⟩)
        dsimp only [Pt.U, Pt.locs, Pt.cells, Pt.slots] at X111 l111 y111 z111 st111 hQ111
        subst l111 y111 z111
        obtain ⟨rfl, Nq111, K111, Ee111, Fa111, Fb111, Fc111⟩ := hQ111
        have N111 := Fr.app N0 Nq111
        have Kh111 : Keep h0 T111.heap [] := Kh110.trans K111 (allS (Or.inr sz_b110) all0)
        have f112 := ((X00.ext E110).keep K111 (allS g_b110 all0))
        obtain ⟨_, _, ⟨T113, L113, c113_, n113_⟩, -, X113, ⟨Lc113, hQ113, l113, y113, z113⟩, st113⟩ := Jvm.LawKit.callS X111 hx (y := (⟨"java/lang/Integer", "valueOf", "(I)Ljava/lang/Integer;"⟩ : MethodName)) hown (mvT hZ (hw _ (List.mem_of_getElem? (i := 105) rfl))) (mvT hZ (hw _ (List.mem_of_getElem? (i := 106) rfl))) (mvT hZ (hw _ (List.mem_of_getElem? (i := 107) rfl))) (mvT hZ (hw _ (List.mem_of_getElem? (i := 108) rfl))) (by decide) (backOf (W := 1) (rm_18 l Z a0 hw [] p2 ca cc T111.heap n0 (Nat.le_trans Z0 Kh111.1) S_high S_cache B_c f112) hZ (hw _ (List.mem_of_getElem? (i := 108) rfl)) (hw _ (List.mem_of_getElem? (i := 107) rfl)) (by decide) (by decide)) (g := (mkF m 88 #[.val (.int p1), .val (.int p2), .val (.int p3), .val (.int p4), .val (.int (p1 &&& (3 : Int32))), .unset, .val (.ref b110), .unset] [(.int p2), (.ref b110)])) rfl (by rw [hml]; rfl) (argsL := [(.int p2)]) (rest := [(.ref b110)]) (lenOf pd__28I_29Ljava_2flang_2fInteger_3b rfl) rfl (by show 2 * 0 + _ ≤ _; exact Nat.le_of_eq rfl) (hb hby at_88) (fun _ _ => ⟨rfl, rfl, (by decide : 1 + 1 ≤ _), (by decide : 3 + 1 ≤ _)⟩)
        dsimp only [Pt.U, Pt.locs, Pt.cells, Pt.slots] at X113 l113 y113 z113 st113 hQ113
        subst l113 y113 z113
        obtain ⟨r113, rfl, Nq113, K113, Er113⟩ := hQ113
        have N113 := Fr.app N111 Nq113
        have Kh113 : Keep h0 T113.heap [] := Kh111.trans K113 (fun _ q_ => nomatch q_)
        have f114 := (((V_d.ext E110).keep K111 (ninS ne_dc_b110 nin0)).keep K113 nin0)
        obtain ⟨cq115, kq115, q115a, q115b, q115c⟩ := isOf hZ rfl (Ee111.keep K113)
        obtain ⟨_, _, ⟨T115, L115, c115_, n115_⟩, -, X115, ⟨Lc115, hQ115, l115, y115, z115⟩, st115⟩ := X113.virtualBack hx (y := (⟨"java/util/ArrayList", "add", "(Ljava/lang/Object;)Z"⟩ : MethodName)) (z := (⟨"java/util/ArrayList", "add", "(Ljava/lang/Object;)Z"⟩ : MethodName)) hown (mvT hZ (hw _ (List.mem_of_getElem? (i := 126) rfl))) (mvT hZ (hw _ (List.mem_of_getElem? (i := 127) rfl))) (notFace_of_selects (args := #[]) (mvT hZ (hw _ (List.mem_of_getElem? (i := 129) rfl)))) (mvT hZ (hw _ (List.mem_of_getElem? (i := 129) rfl))) (mvT hZ (hw _ (List.mem_of_getElem? (i := 128) rfl))) (by decide) (backOf (W := 0) (rm_21 l Z a0 hw [] b110 r113 dc kd T113.heap n0 (Nat.le_trans Z0 Kh113.1) (Ee111.keep K113) g_b110 (Fa111.keep K113 nin0) (Fb111.keep K113 nin0) (Fc111.keep K113 nin0) S_DEFAULTCAPACITY_EMPTY_ELEMENTDATA (f112.keep K113 all0) f114 Er113) hZ (hw _ (List.mem_of_getElem? (i := 130) rfl)) (hw _ (List.mem_of_getElem? (i := 83) rfl)) (by decide) (by decide)) q115a q115c (g := (mkF m 91 #[.val (.int p1), .val (.int p2), .val (.int p3), .val (.int p4), .val (.int (p1 &&& (3 : Int32))), .unset, .val (.ref b110), .unset] [(.ref r113), (.ref b110)])) rfl (by rw [hml]; rfl) (Steps.refl _) (argsL := [(.ref r113)]) (rest := []) (lenOf pd__28Ljava_2flang_2fObject_3b_29Z rfl) rfl (by show 2 * 0 + _ ≤ _; exact Nat.le_of_eq rfl) (hb hby at_91) (fun _ _ => ⟨rfl, rfl, (by decide : 2 + 1 ≤ _), (by decide : 4 + 10 ≤ _)⟩)
        dsimp only [Pt.U, Pt.locs, Pt.cells, Pt.slots] at X115 l115 y115 z115 st115 hQ115
        subst l115 y115 z115
        obtain ⟨rfl, Nq115, K115⟩ := hQ115
        have N115 := Fr.app N113 Nq115
        have Kh115 : Keep h0 T115.heap [] := Kh113.trans K115 (allS (Or.inr sz_b110) all0)
        obtain ⟨_, _, ⟨T116, L116, c116_, n116_⟩, -, X116, hSc116, hgc116, ⟨Lc116, hQ116, l116, y116, z116, hCr116⟩, st116⟩ := callSS (s := s) X115 hx (y := (⟨"com/example/keelson/keelson/core/Envelope", "ok", "(Ljava/lang/Object;)Lcom/example/keelson/keelson/core/Envelope;"⟩ : MethodName)) hown (mvT hZ (hw _ (List.mem_of_getElem? (i := 0) rfl))) (mvT hZ (hw _ (List.mem_of_getElem? (i := 1) rfl))) (mvT hZ (hw _ (List.mem_of_getElem? (i := 2) rfl))) (mvT hZ (hw _ (List.mem_of_getElem? (i := 3) rfl))) (by decide) (backOfSH (s := s) (vm0 := s.vm) (W := 0) (rm_1 l Z a0 hw [] b110 T115.heap n0 (Nat.le_trans Z0 Kh115.1) ) hZ (hw _ (List.mem_of_getElem? (i := 3) rfl)) (hw _ (List.mem_of_getElem? (i := 2) rfl)) (by decide) (by decide) hEL (CHv.keep Kh115 (fun _ q_ => nomatch q_) hC)) (g := (mkF m 101 #[.val (.int p1), .val (.int p2), .val (.int p3), .val (.int p4), .val (.int (p1 &&& (3 : Int32))), .val (.ref b110), .val (.ref b110), .unset] [(.ref b110)])) rfl (by rw [hml]; rfl) (argsL := [(.ref b110)]) (rest := []) (lenOf pd__28Ljava_2flang_2fObject_3b_29Lcom_2fexample_2fkeelson_2fkeelson_2fcore_2fEnvelope_3b rfl) rfl (by show 2 * 0 + _ ≤ _; exact Nat.le_of_eq rfl) (hb hby at_101) (fun _ _ => ⟨rfl, rfl, (by decide : 3 + 3 ≤ _), (by decide : 14 + 15 ≤ _)⟩)
        dsimp only [Pt.U, Pt.locs, Pt.cells, Pt.slots] at X116 l116 y116 z116 st116 hQ116
        subst l116 y116 z116
        obtain ⟨rfl, Nq116, K116, Ee116, Fo116, Fd116, ma116, ta116, kb116, Fm116, Em116, Fc116, Fv116, Va116⟩ := hQ116
        have N116 := Fr.app N115 Nq116
        have hZ116 : Z.Warmed39 (s.setVm T116.vm).vm := State.Warmed39.trans hZ hSc116.1
        have hown116 : (s.setVm T116.vm).vm.findClass "com/example/keelson/keelson/core/EnvelopeOkPinLaw" = some m.cls := (hSc116.1.alike.findClass _ _).trans hown
        have Kh116 : Keep h0 T116.heap [] := Kh115.trans K116 (fun _ q_ => nomatch q_)
        obtain ⟨b116, g116⟩ : ∃ z, z = T115.heap.size := ⟨_, rfl⟩
        rw [← g116] at st116 Ee116 Fo116 Fd116 Fm116
        have ne_dc_b116 : dc ≠ b116 := Nat.ne_of_lt (Nat.lt_of_lt_of_le (f114.keep K115 (ninS ne_dc_b110 nin0)).lt (Nat.le_of_eq g116.symm))
        have ne_b110_b116 : b110 ≠ b116 := Nat.ne_of_lt (Nat.lt_of_lt_of_le ((Ee111.keep K113).keep K115).lt (Nat.le_of_eq g116.symm))
        have ne_r113_b116 : r113 ≠ b116 := Nat.ne_of_lt (Nat.lt_of_lt_of_le (Er113.keep K115).lt (Nat.le_of_eq g116.symm))
        obtain ⟨cq117, kq117, q117a, q117b, q117c⟩ := isOf hZ116 rfl Ee116
        obtain ⟨_, _, ⟨T117, L117, c117_, n117_⟩, -, X117, ⟨Lc117, hQ117, l117, y117, z117⟩, st117⟩ := X116.virtualBack hx (y := (⟨"com/example/keelson/keelson/core/Envelope", "message", "()Ljava/lang/String;"⟩ : MethodName)) (z := (⟨"com/example/keelson/keelson/core/Envelope", "message", "()Ljava/lang/String;"⟩ : MethodName)) hown116 (mvT hZ116 (hw _ (List.mem_of_getElem? (i := 31) rfl))) (mvT hZ116 (hw _ (List.mem_of_getElem? (i := 32) rfl))) (notFace_of_selects (args := #[]) (mvT hZ116 (hw _ (List.mem_of_getElem? (i := 34) rfl)))) (mvT hZ116 (hw _ (List.mem_of_getElem? (i := 34) rfl))) (mvT hZ116 (hw _ (List.mem_of_getElem? (i := 33) rfl))) (by decide) (backOf (W := 0) (rm_5 l Z a0 hw [] b116 ma116 T116.heap n0 (Nat.le_trans Z0 Kh116.1) Fm116) hZ116 (hw _ (List.mem_of_getElem? (i := 35) rfl)) (hw _ (List.mem_of_getElem? (i := 2) rfl)) (by decide) (by decide)) q117a q117c (g := (mkF m 108 #[.val (.int p1), .val (.int p2), .val (.int p3), .val (.int p4), .val (.int (p1 &&& (3 : Int32))), .val (.ref b110), .val (.ref b116), .unset] [(.ref b116)])) rfl (by rw [hml]; rfl) (Steps.refl _) (argsL := []) (rest := []) (lenOf pd__28_29Ljava_2flang_2fString_3b rfl) rfl (by show 2 * 0 + _ ≤ _; exact Nat.le_of_eq rfl) (hb hby at_108) (fun _ _ => ⟨rfl, rfl, (by decide : 6 + 0 ≤ _), (by decide : 29 + 0 ≤ _)⟩)
        dsimp only [Pt.U, Pt.locs, Pt.cells, Pt.slots] at X117 l117 y117 z117 st117 hQ117
        subst l117 y117 z117
        obtain ⟨rfl, Nq117, e117⟩ := hQ117
        have N117 := Fr.app N116 Nq117
        obtain ⟨cq118, kq118, q118a, q118b, q118c⟩ := isOf hZ116 e117 Ee116
        obtain ⟨_, _, ⟨T118, L118, c118_, n118_⟩, -, X118, ⟨Lc118, hQ118, l118, y118, z118⟩, st118⟩ := X117.virtualBack hx (y := (⟨"com/example/keelson/keelson/core/Envelope", "code", "()I"⟩ : MethodName)) (z := (⟨"com/example/keelson/keelson/core/Envelope", "code", "()I"⟩ : MethodName)) hown116 (mvT hZ116 (hw _ (List.mem_of_getElem? (i := 36) rfl))) (mvT hZ116 (hw _ (List.mem_of_getElem? (i := 37) rfl))) (notFace_of_selects (args := #[]) (mvT hZ116 (hw _ (List.mem_of_getElem? (i := 39) rfl)))) (mvT hZ116 (hw _ (List.mem_of_getElem? (i := 39) rfl))) (mvT hZ116 (hw _ (List.mem_of_getElem? (i := 38) rfl))) (by decide) (backOf (W := 0) (rm_6 l Z a0 hw [] b116 (0 : Int32) T116.heap n0 (Nat.le_trans Z0 Kh116.1) Fo116) hZ116 (hw _ (List.mem_of_getElem? (i := 40) rfl)) (hw _ (List.mem_of_getElem? (i := 2) rfl)) (by decide) (by decide)) q118a q118c (g := (mkF m 115 #[.val (.int p1), .val (.int p2), .val (.int p3), .val (.int p4), .val (.int (p1 &&& (3 : Int32))), .val (.ref b110), .val (.ref b116), .val (.ref ma116)] [(.ref b116)])) rfl (by rw [hml]; rfl) (Steps.refl _) (argsL := []) (rest := []) (lenOf pd__28_29I rfl) rfl (by show 2 * 0 + _ ≤ _; exact Nat.le_of_eq rfl) (hb hby at_115) (fun _ _ => ⟨rfl, e117, (by decide : 6 + 0 ≤ _), (by decide : 29 + 0 ≤ _)⟩)
        dsimp only [Pt.U, Pt.locs, Pt.cells, Pt.slots] at X118 l118 y118 z118 st118 hQ118
        subst l118 y118 z118
        obtain ⟨rfl, Nq118, e118⟩ := hQ118
        have N118 := Fr.app N117 Nq118
        have hc118 : (0 : Int32) = (0 : Int32) := by decide
        have f119 := (((f112.keep K113 all0).keep K115 (allS g_b110 all0)).keep K116 all0)
        obtain ⟨cq120, kq120, q120a, q120b, q120c⟩ := isOf hZ116 e118 Em116
        obtain ⟨_, _, ⟨T120, L120, c120_, n120_⟩, -, X120, ⟨Lc120, hQ120, l120, y120, z120⟩, st120⟩ := X118.virtualBack hx (y := (⟨"java/lang/String", "length", "()I"⟩ : MethodName)) (z := (⟨"java/lang/String", "length", "()I"⟩ : MethodName)) hown116 (mvT hZ116 (hw _ (List.mem_of_getElem? (i := 41) rfl))) (mvT hZ116 (hw _ (List.mem_of_getElem? (i := 42) rfl))) (notFace_of_selects (args := #[]) (mvT hZ116 (hw _ (List.mem_of_getElem? (i := 44) rfl)))) (mvT hZ116 (hw _ (List.mem_of_getElem? (i := 44) rfl))) (mvT hZ116 (hw _ (List.mem_of_getElem? (i := 43) rfl))) (by decide) (backOf (W := 0) (rm_7 l Z a0 hw [] ma116 ta116 kb116 zc T116.heap n0 (Nat.le_trans Z0 Kh116.1) Va116 (S_C.ext f119.2) hz Fc116 Fv116 Em116) hZ116 (hw _ (List.mem_of_getElem? (i := 45) rfl)) (hw _ (List.mem_of_getElem? (i := 7) rfl)) (by decide) (by decide)) q120a q120c (g := (mkF m 128 #[.val (.int p1), .val (.int p2), .val (.int p3), .val (.int p4), .val (.int (p1 &&& (3 : Int32))), .val (.ref b110), .val (.ref b116), .val (.ref ma116)] [(.ref ma116)])) rfl (by rw [hml]; rfl) (Steps.refl _) (argsL := []) (rest := []) (lenOf pd__28_29I rfl) rfl (by show 2 * 0 + _ ≤ _; exact Nat.le_of_eq rfl) (hb hby at_128) (fun _ _ => ⟨rfl, e118, (by decide : 6 + 0 ≤ _), (by decide : 29 + 0 ≤ _)⟩)
        dsimp only [Pt.U, Pt.locs, Pt.cells, Pt.slots] at X120 l120 y120 z120 st120 hQ120
        subst l120 y120 z120
        obtain ⟨rfl, Nq120, e120⟩ := hQ120
        have N120 := Fr.app N118 Nq120
        have hc132 : (2 : Int32) = (2 : Int32) := by decide
        obtain ⟨cq121, kq121, q121a, q121b, q121c⟩ := isOf hZ116 e120 Em116
        obtain ⟨_, _, ⟨T121, L121, c121_, n121_⟩, -, X121, ⟨Lc121, hQ121, l121, y121, z121⟩, st121⟩ := X120.virtualBack hx (y := (⟨"java/lang/String", "charAt", "(I)C"⟩ : MethodName)) (z := (⟨"java/lang/String", "charAt", "(I)C"⟩ : MethodName)) hown116 (mvT hZ116 (hw _ (List.mem_of_getElem? (i := 54) rfl))) (mvT hZ116 (hw _ (List.mem_of_getElem? (i := 55) rfl))) (notFace_of_selects (args := #[]) (mvT hZ116 (hw _ (List.mem_of_getElem? (i := 57) rfl)))) (mvT hZ116 (hw _ (List.mem_of_getElem? (i := 57) rfl))) (mvT hZ116 (hw _ (List.mem_of_getElem? (i := 56) rfl))) (by decide) (backOf (W := 0) (rm_ch l Z a0 hw [] ma116 (0 : Int32) (111 : Int32) ta116 kb116 (2 : Int32) [(.int (111 : Int32)), (.int (107 : Int32))] fm zc T116.heap n0 (Nat.le_trans Z0 Kh116.1) Va116 (by decide) (by decide) rfl rf (S_F.ext f119.2) (S_C.ext f119.2) hz Fc116 Fv116 Em116) hZ116 (hw _ (List.mem_of_getElem? (i := 58) rfl)) (hw _ (List.mem_of_getElem? (i := 7) rfl)) (by decide) (by decide)) q121a q121c (g := (mkF m 138 #[.val (.int p1), .val (.int p2), .val (.int p3), .val (.int p4), .val (.int (p1 &&& (3 : Int32))), .val (.ref b110), .val (.ref b116), .val (.ref ma116)] [(.int (0 : Int32)), (.ref ma116)])) rfl (by rw [hml]; rfl) (Steps.refl _) (argsL := [(.int (0 : Int32))]) (rest := []) (lenOf pd__28I_29C rfl) rfl (by show 2 * 0 + _ ≤ _; exact Nat.le_of_eq rfl) (hb hby at_138) (fun _ _ => ⟨rfl, e120, (by decide : 6 + 0 ≤ _), (by decide : 29 + 0 ≤ _)⟩)
        dsimp only [Pt.U, Pt.locs, Pt.cells, Pt.slots] at X121 l121 y121 z121 st121 hQ121
        subst l121 y121 z121
        obtain ⟨rfl, Nq121, e121⟩ := hQ121
        have N121 := Fr.app N120 Nq121
        have hc143 : (nar .char (nar .char (((111 : Int32) &&& (255 : Int32)).toUInt32.toUInt16.toUInt32.toInt32))) = (111 : Int32) := by decide
        obtain ⟨cq122, kq122, q122a, q122b, q122c⟩ := isOf hZ116 e121 Em116
        obtain ⟨_, _, ⟨T122, L122, c122_, n122_⟩, -, X122, ⟨Lc122, hQ122, l122, y122, z122⟩, st122⟩ := X121.virtualBack hx (y := (⟨"java/lang/String", "charAt", "(I)C"⟩ : MethodName)) (z := (⟨"java/lang/String", "charAt", "(I)C"⟩ : MethodName)) hown116 (mvT hZ116 (hw _ (List.mem_of_getElem? (i := 54) rfl))) (mvT hZ116 (hw _ (List.mem_of_getElem? (i := 55) rfl))) (notFace_of_selects (args := #[]) (mvT hZ116 (hw _ (List.mem_of_getElem? (i := 57) rfl)))) (mvT hZ116 (hw _ (List.mem_of_getElem? (i := 57) rfl))) (mvT hZ116 (hw _ (List.mem_of_getElem? (i := 56) rfl))) (by decide) (backOf (W := 0) (rm_ch l Z a0 hw [] ma116 (1 : Int32) (107 : Int32) ta116 kb116 (2 : Int32) [(.int (111 : Int32)), (.int (107 : Int32))] fm zc T116.heap n0 (Nat.le_trans Z0 Kh116.1) Va116 (by decide) (by decide) rfl rf (S_F.ext f119.2) (S_C.ext f119.2) hz Fc116 Fv116 Em116) hZ116 (hw _ (List.mem_of_getElem? (i := 58) rfl)) (hw _ (List.mem_of_getElem? (i := 7) rfl)) (by decide) (by decide)) q122a q122c (g := (mkF m 149 #[.val (.int p1), .val (.int p2), .val (.int p3), .val (.int p4), .val (.int (p1 &&& (3 : Int32))), .val (.ref b110), .val (.ref b116), .val (.ref ma116)] [(.int (1 : Int32)), (.ref ma116)])) rfl (by rw [hml]; rfl) (Steps.refl _) (argsL := [(.int (1 : Int32))]) (rest := []) (lenOf pd__28I_29C rfl) rfl (by show 2 * 0 + _ ≤ _; exact Nat.le_of_eq rfl) (hb hby at_149) (fun _ _ => ⟨rfl, e121, (by decide : 6 + 0 ≤ _), (by decide : 29 + 0 ≤ _)⟩)
        dsimp only [Pt.U, Pt.locs, Pt.cells, Pt.slots] at X122 l122 y122 z122 st122 hQ122
        subst l122 y122 z122
        obtain ⟨rfl, Nq122, e122⟩ := hQ122
        have N122 := Fr.app N121 Nq122
        have hc154 : (nar .char (nar .char (((107 : Int32) &&& (255 : Int32)).toUInt32.toUInt16.toUInt32.toInt32))) = (107 : Int32) := by decide
        obtain ⟨cq123, kq123, q123a, q123b, q123c⟩ := isOf hZ116 e122 Ee116
        obtain ⟨_, _, ⟨T123, L123, c123_, n123_⟩, -, X123, ⟨Lc123, hQ123, l123, y123, z123⟩, st123⟩ := X122.virtualBack hx (y := (⟨"com/example/keelson/keelson/core/Envelope", "data", "()Ljava/lang/Object;"⟩ : MethodName)) (z := (⟨"com/example/keelson/keelson/core/Envelope", "data", "()Ljava/lang/Object;"⟩ : MethodName)) hown116 (mvT hZ116 (hw _ (List.mem_of_getElem? (i := 76) rfl))) (mvT hZ116 (hw _ (List.mem_of_getElem? (i := 77) rfl))) (notFace_of_selects (args := #[]) (mvT hZ116 (hw _ (List.mem_of_getElem? (i := 79) rfl)))) (mvT hZ116 (hw _ (List.mem_of_getElem? (i := 79) rfl))) (mvT hZ116 (hw _ (List.mem_of_getElem? (i := 78) rfl))) (by decide) (backOf (W := 0) (rm_14 l Z a0 hw [] b116 b110 T116.heap n0 (Nat.le_trans Z0 Kh116.1) Fd116) hZ116 (hw _ (List.mem_of_getElem? (i := 80) rfl)) (hw _ (List.mem_of_getElem? (i := 2) rfl)) (by decide) (by decide)) q123a q123c (g := (mkF m 159 #[.val (.int p1), .val (.int p2), .val (.int p3), .val (.int p4), .val (.int (p1 &&& (3 : Int32))), .val (.ref b110), .val (.ref b116), .val (.ref ma116)] [(.ref b116)])) rfl (by rw [hml]; rfl) (Steps.refl _) (argsL := []) (rest := []) (lenOf pd__28_29Ljava_2flang_2fObject_3b rfl) rfl (by show 2 * 0 + _ ≤ _; exact Nat.le_of_eq rfl) (hb hby at_159) (fun _ _ => ⟨rfl, e122, (by decide : 6 + 0 ≤ _), (by decide : 29 + 0 ≤ _)⟩)
        dsimp only [Pt.U, Pt.locs, Pt.cells, Pt.slots] at X123 l123 y123 z123 st123 hQ123
        subst l123 y123 z123
        obtain ⟨rfl, Nq123, e123⟩ := hQ123
        have N123 := Fr.app N122 Nq123
        obtain ⟨fs, hr, hrun, hended, hRW⟩ := X123.leaveW (s := s) (vm₁ := T116.vm) hSc116 (by rw [e123]; exact (Nat.le_refl _)) (v := some (.int (1 : Int32))) (fun h => by rw [Bd.returns] at h; cases h)
        refine ⟨_, _, pre0 _ ?_, hrun, hended, _, _, rfl, ?_, hRW.1, hRW.2.1, hRW.2.2.1, hRW.2.2.2.mono (by decide) (by decide)⟩
        · show Steps p.tables e below (s₁.setTop (mkF m 0 #[.val (.int p1), .val (.int p2), .val (.int p3), .val (.int p4), .unset, .unset, .unset, .unset] [])) _
          refine XS.iloadN X0.here hx rfl (hb hby at_0) rfl ?_
          show Steps p.tables e below (s₁.setTop (mkF m 1 #[.val (.int p1), .val (.int p2), .val (.int p3), .val (.int p4), .unset, .unset, .unset, .unset] [(.int p1)])) _
          refine XS.iconst X0.here hx rfl (hb hby at_1) ?_
          show Steps p.tables e below (s₁.setTop (mkF m 2 #[.val (.int p1), .val (.int p2), .val (.int p3), .val (.int p4), .unset, .unset, .unset, .unset] [(.int (3 : Int32)), (.int p1)])) _
          refine XS.iand X0.here hx rfl (hb hby at_2) rfl ?_
          show Steps p.tables e below (s₁.setTop (mkF m 3 #[.val (.int p1), .val (.int p2), .val (.int p3), .val (.int p4), .unset, .unset, .unset, .unset] [(.int (p1 &&& (3 : Int32)))])) _
          refine XS.istore X0.here hx rfl (hb hby at_3) rfl (l' := #[.val (.int p1), .val (.int p2), .val (.int p3), .val (.int p4), .val (.int (p1 &&& (3 : Int32))), .unset, .unset, .unset]) rfl ?_
          show Steps p.tables e below (s₁.setTop (mkF m 5 #[.val (.int p1), .val (.int p2), .val (.int p3), .val (.int p4), .val (.int (p1 &&& (3 : Int32))), .unset, .unset, .unset] [])) _
          refine XS.iload X0.here hx rfl (hb hby at_5) rfl ?_
          show Steps p.tables e below (s₁.setTop (mkF m 7 #[.val (.int p1), .val (.int p2), .val (.int p3), .val (.int p4), .val (.int (p1 &&& (3 : Int32))), .unset, .unset, .unset] [(.int (p1 &&& (3 : Int32)))])) _
          refine XS.ifYes X0.here hx rfl (pc0 := 7) (pc' := 16) rfl (hb hby at_7) rfl ((if0 _ _).trans (feq hc7).2) (by decide) (by decide) ?_
          show Steps p.tables e below (s₁.setTop (mkF m 16 #[.val (.int p1), .val (.int p2), .val (.int p3), .val (.int p4), .val (.int (p1 &&& (3 : Int32))), .unset, .unset, .unset] [])) _
          refine XS.iload X0.here hx rfl (hb hby at_16) rfl ?_
          show Steps p.tables e below (s₁.setTop (mkF m 18 #[.val (.int p1), .val (.int p2), .val (.int p3), .val (.int p4), .val (.int (p1 &&& (3 : Int32))), .unset, .unset, .unset] [(.int (p1 &&& (3 : Int32)))])) _
          refine XS.iconst X0.here hx rfl (hb hby at_18) ?_
          show Steps p.tables e below (s₁.setTop (mkF m 19 #[.val (.int p1), .val (.int p2), .val (.int p3), .val (.int p4), .val (.int (p1 &&& (3 : Int32))), .unset, .unset, .unset] [(.int (1 : Int32)), (.int (p1 &&& (3 : Int32)))])) _
          refine XS.icmpYes X0.here hx rfl (pc0 := 19) (pc' := 31) rfl (hb hby at_19) rfl (feq hc19).2 (by decide) (by decide) ?_
          show Steps p.tables e below (s₁.setTop (mkF m 31 #[.val (.int p1), .val (.int p2), .val (.int p3), .val (.int p4), .val (.int (p1 &&& (3 : Int32))), .unset, .unset, .unset] [])) _
          refine XS.iload X0.here hx rfl (hb hby at_31) rfl ?_
          show Steps p.tables e below (s₁.setTop (mkF m 33 #[.val (.int p1), .val (.int p2), .val (.int p3), .val (.int p4), .val (.int (p1 &&& (3 : Int32))), .unset, .unset, .unset] [(.int (p1 &&& (3 : Int32)))])) _
          refine XS.iconst X0.here hx rfl (hb hby at_33) ?_
          show Steps p.tables e below (s₁.setTop (mkF m 34 #[.val (.int p1), .val (.int p2), .val (.int p3), .val (.int p4), .val (.int (p1 &&& (3 : Int32))), .unset, .unset, .unset] [(.int (2 : Int32)), (.int (p1 &&& (3 : Int32)))])) _
          refine XS.icmpYes X0.here hx rfl (pc0 := 34) (pc' := 76) rfl (hb hby at_34) rfl (feq hc34).2 (by decide) (by decide) ?_
          show Steps p.tables e below (s₁.setTop (mkF m 76 #[.val (.int p1), .val (.int p2), .val (.int p3), .val (.int p4), .val (.int (p1 &&& (3 : Int32))), .unset, .unset, .unset] [])) _
          refine st110 _ ?_
          show Steps p.tables e below (T110.setTop (mkF m 79 #[.val (.int p1), .val (.int p2), .val (.int p3), .val (.int p4), .val (.int (p1 &&& (3 : Int32))), .unset, .unset, .unset] [(.ref b110)])) _
          refine XS.dup X110.here hx rfl (hb hby at_79) rfl rfl ?_
          show Steps p.tables e below (T110.setTop (mkF m 80 #[.val (.int p1), .val (.int p2), .val (.int p3), .val (.int p4), .val (.int (p1 &&& (3 : Int32))), .unset, .unset, .unset] [(.ref b110), (.ref b110)])) _
          refine st111.trans ?_
          show Steps p.tables e below (T111.setTop (mkF m 83 #[.val (.int p1), .val (.int p2), .val (.int p3), .val (.int p4), .val (.int (p1 &&& (3 : Int32))), .unset, .unset, .unset] [(.ref b110)])) _
          refine XS.astore X111.here hx rfl (hb hby at_83) rfl rfl (l' := #[.val (.int p1), .val (.int p2), .val (.int p3), .val (.int p4), .val (.int (p1 &&& (3 : Int32))), .unset, .val (.ref b110), .unset]) rfl ?_
          show Steps p.tables e below (T111.setTop (mkF m 85 #[.val (.int p1), .val (.int p2), .val (.int p3), .val (.int p4), .val (.int (p1 &&& (3 : Int32))), .unset, .val (.ref b110), .unset] [])) _
          refine XS.aload X111.here hx rfl (hb hby at_85) rfl rfl ?_
          show Steps p.tables e below (T111.setTop (mkF m 87 #[.val (.int p1), .val (.int p2), .val (.int p3), .val (.int p4), .val (.int (p1 &&& (3 : Int32))), .unset, .val (.ref b110), .unset] [(.ref b110)])) _
          refine XS.iloadN X111.here hx rfl (hb hby at_87) rfl ?_
          show Steps p.tables e below (T111.setTop (mkF m 88 #[.val (.int p1), .val (.int p2), .val (.int p3), .val (.int p4), .val (.int (p1 &&& (3 : Int32))), .unset, .val (.ref b110), .unset] [(.int p2), (.ref b110)])) _
          refine st113 _ ?_
          show Steps p.tables e below (T113.setTop (mkF m 91 #[.val (.int p1), .val (.int p2), .val (.int p3), .val (.int p4), .val (.int (p1 &&& (3 : Int32))), .unset, .val (.ref b110), .unset] [(.ref r113), (.ref b110)])) _
          refine st115.trans ?_
          show Steps p.tables e below (T115.setTop (mkF m 94 #[.val (.int p1), .val (.int p2), .val (.int p3), .val (.int p4), .val (.int (p1 &&& (3 : Int32))), .unset, .val (.ref b110), .unset] [(.int (1 : Int32))])) _
          refine XS.pop X115.here hx rfl (hb hby at_94) rfl rfl ?_
          show Steps p.tables e below (T115.setTop (mkF m 95 #[.val (.int p1), .val (.int p2), .val (.int p3), .val (.int p4), .val (.int (p1 &&& (3 : Int32))), .unset, .val (.ref b110), .unset] [])) _
          refine XS.aload X115.here hx rfl (hb hby at_95) rfl rfl ?_
          show Steps p.tables e below (T115.setTop (mkF m 97 #[.val (.int p1), .val (.int p2), .val (.int p3), .val (.int p4), .val (.int (p1 &&& (3 : Int32))), .unset, .val (.ref b110), .unset] [(.ref b110)])) _
          refine XS.astore X115.here hx rfl (hb hby at_97) rfl rfl (l' := #[.val (.int p1), .val (.int p2), .val (.int p3), .val (.int p4), .val (.int (p1 &&& (3 : Int32))), .val (.ref b110), .val (.ref b110), .unset]) rfl ?_
          show Steps p.tables e below (T115.setTop (mkF m 99 #[.val (.int p1), .val (.int p2), .val (.int p3), .val (.int p4), .val (.int (p1 &&& (3 : Int32))), .val (.ref b110), .val (.ref b110), .unset] [])) _
          refine XS.aload X115.here hx rfl (hb hby at_99) rfl rfl ?_
          show Steps p.tables e below (T115.setTop (mkF m 101 #[.val (.int p1), .val (.int p2), .val (.int p3), .val (.int p4), .val (.int (p1 &&& (3 : Int32))), .val (.ref b110), .val (.ref b110), .unset] [(.ref b110)])) _
          refine st116.trans ?_
          show Steps p.tables e below (T116.setTop (mkF m 104 #[.val (.int p1), .val (.int p2), .val (.int p3), .val (.int p4), .val (.int (p1 &&& (3 : Int32))), .val (.ref b110), .val (.ref b110), .unset] [(.ref b116)])) _
          refine XS.astore X116.here hx rfl (hb hby at_104) rfl rfl (l' := #[.val (.int p1), .val (.int p2), .val (.int p3), .val (.int p4), .val (.int (p1 &&& (3 : Int32))), .val (.ref b110), .val (.ref b116), .unset]) rfl ?_
          show Steps p.tables e below (T116.setTop (mkF m 106 #[.val (.int p1), .val (.int p2), .val (.int p3), .val (.int p4), .val (.int (p1 &&& (3 : Int32))), .val (.ref b110), .val (.ref b116), .unset] [])) _
          refine XS.aload X116.here hx rfl (hb hby at_106) rfl rfl ?_
          show Steps p.tables e below (T116.setTop (mkF m 108 #[.val (.int p1), .val (.int p2), .val (.int p3), .val (.int p4), .val (.int (p1 &&& (3 : Int32))), .val (.ref b110), .val (.ref b116), .unset] [(.ref b116)])) _
          refine st117.trans ?_
          show Steps p.tables e below (T117.setTop (mkF m 111 #[.val (.int p1), .val (.int p2), .val (.int p3), .val (.int p4), .val (.int (p1 &&& (3 : Int32))), .val (.ref b110), .val (.ref b116), .unset] [(.ref ma116)])) _
          refine XS.astore X117.here hx rfl (hb hby at_111) rfl rfl (l' := #[.val (.int p1), .val (.int p2), .val (.int p3), .val (.int p4), .val (.int (p1 &&& (3 : Int32))), .val (.ref b110), .val (.ref b116), .val (.ref ma116)]) rfl ?_
          show Steps p.tables e below (T117.setTop (mkF m 113 #[.val (.int p1), .val (.int p2), .val (.int p3), .val (.int p4), .val (.int (p1 &&& (3 : Int32))), .val (.ref b110), .val (.ref b116), .val (.ref ma116)] [])) _
          refine XS.aload X117.here hx rfl (hb hby at_113) rfl rfl ?_
          show Steps p.tables e below (T117.setTop (mkF m 115 #[.val (.int p1), .val (.int p2), .val (.int p3), .val (.int p4), .val (.int (p1 &&& (3 : Int32))), .val (.ref b110), .val (.ref b116), .val (.ref ma116)] [(.ref b116)])) _
          refine st118.trans ?_
          show Steps p.tables e below (T118.setTop (mkF m 118 #[.val (.int p1), .val (.int p2), .val (.int p3), .val (.int p4), .val (.int (p1 &&& (3 : Int32))), .val (.ref b110), .val (.ref b116), .val (.ref ma116)] [(.int (0 : Int32))])) _
          refine XS.ifNo X118.here hx rfl (hb hby at_118) rfl ((if0 _ _).trans (teq hc118).2) ?_
          show Steps p.tables e below (T118.setTop (mkF m 121 #[.val (.int p1), .val (.int p2), .val (.int p3), .val (.int p4), .val (.int (p1 &&& (3 : Int32))), .val (.ref b110), .val (.ref b116), .val (.ref ma116)] [])) _
          refine XS.aload X118.here hx rfl (hb hby at_121) rfl rfl ?_
          show Steps p.tables e below (T118.setTop (mkF m 123 #[.val (.int p1), .val (.int p2), .val (.int p3), .val (.int p4), .val (.int (p1 &&& (3 : Int32))), .val (.ref b110), .val (.ref b116), .val (.ref ma116)] [(.ref ma116)])) _
          refine XS.ifnullNo X118.here hx rfl (hb hby at_123) rfl ?_
          show Steps p.tables e below (T118.setTop (mkF m 126 #[.val (.int p1), .val (.int p2), .val (.int p3), .val (.int p4), .val (.int (p1 &&& (3 : Int32))), .val (.ref b110), .val (.ref b116), .val (.ref ma116)] [])) _
          refine XS.aload X118.here hx rfl (hb hby at_126) rfl rfl ?_
          show Steps p.tables e below (T118.setTop (mkF m 128 #[.val (.int p1), .val (.int p2), .val (.int p3), .val (.int p4), .val (.int (p1 &&& (3 : Int32))), .val (.ref b110), .val (.ref b116), .val (.ref ma116)] [(.ref ma116)])) _
          refine st120.trans ?_
          show Steps p.tables e below (T120.setTop (mkF m 131 #[.val (.int p1), .val (.int p2), .val (.int p3), .val (.int p4), .val (.int (p1 &&& (3 : Int32))), .val (.ref b110), .val (.ref b116), .val (.ref ma116)] [(.int (2 : Int32))])) _
          refine XS.iconst X120.here hx rfl (hb hby at_131) ?_
          show Steps p.tables e below (T120.setTop (mkF m 132 #[.val (.int p1), .val (.int p2), .val (.int p3), .val (.int p4), .val (.int (p1 &&& (3 : Int32))), .val (.ref b110), .val (.ref b116), .val (.ref ma116)] [(.int (2 : Int32)), (.int (2 : Int32))])) _
          refine XS.icmpNo X120.here hx rfl (hb hby at_132) rfl (teq hc132).2 ?_
          show Steps p.tables e below (T120.setTop (mkF m 135 #[.val (.int p1), .val (.int p2), .val (.int p3), .val (.int p4), .val (.int (p1 &&& (3 : Int32))), .val (.ref b110), .val (.ref b116), .val (.ref ma116)] [])) _
          refine XS.aload X120.here hx rfl (hb hby at_135) rfl rfl ?_
          show Steps p.tables e below (T120.setTop (mkF m 137 #[.val (.int p1), .val (.int p2), .val (.int p3), .val (.int p4), .val (.int (p1 &&& (3 : Int32))), .val (.ref b110), .val (.ref b116), .val (.ref ma116)] [(.ref ma116)])) _
          refine XS.iconst X120.here hx rfl (hb hby at_137) ?_
          show Steps p.tables e below (T120.setTop (mkF m 138 #[.val (.int p1), .val (.int p2), .val (.int p3), .val (.int p4), .val (.int (p1 &&& (3 : Int32))), .val (.ref b110), .val (.ref b116), .val (.ref ma116)] [(.int (0 : Int32)), (.ref ma116)])) _
          refine st121.trans ?_
          show Steps p.tables e below (T121.setTop (mkF m 141 #[.val (.int p1), .val (.int p2), .val (.int p3), .val (.int p4), .val (.int (p1 &&& (3 : Int32))), .val (.ref b110), .val (.ref b116), .val (.ref ma116)] [(.int (nar .char (nar .char (((111 : Int32) &&& (255 : Int32)).toUInt32.toUInt16.toUInt32.toInt32))))])) _
          refine XS.bipush X121.here hx rfl (hb hby at_141) ?_
          show Steps p.tables e below (T121.setTop (mkF m 143 #[.val (.int p1), .val (.int p2), .val (.int p3), .val (.int p4), .val (.int (p1 &&& (3 : Int32))), .val (.ref b110), .val (.ref b116), .val (.ref ma116)] [(.int (111 : Int32)), (.int (nar .char (nar .char (((111 : Int32) &&& (255 : Int32)).toUInt32.toUInt16.toUInt32.toInt32))))])) _
          refine XS.icmpNo X121.here hx rfl (hb hby at_143) rfl (teq hc143).2 ?_
          show Steps p.tables e below (T121.setTop (mkF m 146 #[.val (.int p1), .val (.int p2), .val (.int p3), .val (.int p4), .val (.int (p1 &&& (3 : Int32))), .val (.ref b110), .val (.ref b116), .val (.ref ma116)] [])) _
          refine XS.aload X121.here hx rfl (hb hby at_146) rfl rfl ?_
          show Steps p.tables e below (T121.setTop (mkF m 148 #[.val (.int p1), .val (.int p2), .val (.int p3), .val (.int p4), .val (.int (p1 &&& (3 : Int32))), .val (.ref b110), .val (.ref b116), .val (.ref ma116)] [(.ref ma116)])) _
          refine XS.iconst X121.here hx rfl (hb hby at_148) ?_
          show Steps p.tables e below (T121.setTop (mkF m 149 #[.val (.int p1), .val (.int p2), .val (.int p3), .val (.int p4), .val (.int (p1 &&& (3 : Int32))), .val (.ref b110), .val (.ref b116), .val (.ref ma116)] [(.int (1 : Int32)), (.ref ma116)])) _
          refine st122.trans ?_
          show Steps p.tables e below (T122.setTop (mkF m 152 #[.val (.int p1), .val (.int p2), .val (.int p3), .val (.int p4), .val (.int (p1 &&& (3 : Int32))), .val (.ref b110), .val (.ref b116), .val (.ref ma116)] [(.int (nar .char (nar .char (((107 : Int32) &&& (255 : Int32)).toUInt32.toUInt16.toUInt32.toInt32))))])) _
          refine XS.bipush X122.here hx rfl (hb hby at_152) ?_
          show Steps p.tables e below (T122.setTop (mkF m 154 #[.val (.int p1), .val (.int p2), .val (.int p3), .val (.int p4), .val (.int (p1 &&& (3 : Int32))), .val (.ref b110), .val (.ref b116), .val (.ref ma116)] [(.int (107 : Int32)), (.int (nar .char (nar .char (((107 : Int32) &&& (255 : Int32)).toUInt32.toUInt16.toUInt32.toInt32))))])) _
          refine XS.icmpNo X122.here hx rfl (hb hby at_154) rfl (teq hc154).2 ?_
          show Steps p.tables e below (T122.setTop (mkF m 157 #[.val (.int p1), .val (.int p2), .val (.int p3), .val (.int p4), .val (.int (p1 &&& (3 : Int32))), .val (.ref b110), .val (.ref b116), .val (.ref ma116)] [])) _
          refine XS.aload X122.here hx rfl (hb hby at_157) rfl rfl ?_
          show Steps p.tables e below (T122.setTop (mkF m 159 #[.val (.int p1), .val (.int p2), .val (.int p3), .val (.int p4), .val (.int (p1 &&& (3 : Int32))), .val (.ref b110), .val (.ref b116), .val (.ref ma116)] [(.ref b116)])) _
          refine st123.trans ?_
          show Steps p.tables e below (T123.setTop (mkF m 162 #[.val (.int p1), .val (.int p2), .val (.int p3), .val (.int p4), .val (.int (p1 &&& (3 : Int32))), .val (.ref b110), .val (.ref b116), .val (.ref ma116)] [(.ref b110)])) _
          refine XS.aload X123.here hx rfl (hb hby at_162) rfl rfl ?_
          show Steps p.tables e below (T123.setTop (mkF m 164 #[.val (.int p1), .val (.int p2), .val (.int p3), .val (.int p4), .val (.int (p1 &&& (3 : Int32))), .val (.ref b110), .val (.ref b116), .val (.ref ma116)] [(.ref b110), (.ref b110)])) _
          refine Jvm.RoadKit.acmp (g := (mkF m 164 #[.val (.int p1), .val (.int p2), .val (.int p3), .val (.int p4), .val (.int (p1 &&& (3 : Int32))), .val (.ref b110), .val (.ref b116), .val (.ref ma116)] [(.ref b110), (.ref b110)])) X123 hx rfl rfl rfl (pc0 := 164) (pc' := 167) (same := true) rfl (hb hby at_164) rfl (decide_eq_true rfl) (by decide) (by decide) ?_
          show Steps p.tables e below (T123.setTop (mkF m 167 #[.val (.int p1), .val (.int p2), .val (.int p3), .val (.int p4), .val (.int (p1 &&& (3 : Int32))), .val (.ref b110), .val (.ref b116), .val (.ref ma116)] [])) _
          refine XS.iconst X123.here hx rfl (hb hby at_167) ?_
          show Steps p.tables e below (T123.setTop (mkF m 168 #[.val (.int p1), .val (.int p2), .val (.int p3), .val (.int p4), .val (.int (p1 &&& (3 : Int32))), .val (.ref b110), .val (.ref b116), .val (.ref ma116)] [(.int (1 : Int32))])) _
          refine XS.goto X123.here hx rfl (pc0 := 168) (pc' := 172) rfl (hb hby at_168) (by decide) (by decide) ?_
          show Steps p.tables e below (T123.setTop (mkF m 172 #[.val (.int p1), .val (.int p2), .val (.int p3), .val (.int p4), .val (.int (p1 &&& (3 : Int32))), .val (.ref b110), .val (.ref b116), .val (.ref ma116)] [(.int (1 : Int32))])) _
          exact retN X123 hx (t := .boolean) Bd.returns (by simp) (hb hby at_172) hr
        · show Q_0 Z p1 p2 p3 p4 h0 n0 _ T123.heap _
          rw [e123]
          exact ⟨rfl, N123⟩
set_option maxRecDepth 65536 in
set_option maxHeartbeats 40000000 in
theorem comes_1 {Post : Tables → Env → Array Value → State → Outcome → State → Prop} (hpost : ∀ tb e args s v u, (limb_1_1.after args s (.returned v) u = true ∧ limb_1_2.after args s (.returned v) u = true ∧ True) → ReturnedEndW s (.returned v) u (Jvm.fieldLocs frame_1_writes args s ++ Jvm.arrayLocs frame_1_arrays args s ++ Jvm.staticLocs frame_1_statics s) 24 1152 → Post tb e args s (.returned v) u) :
    ArmFor flags0 classFile x code maxLocals ret World_1 tables_1 room_1 Calls_1 rest_1 Pre_1 Post := by
  intro l hfl _ _ p e ha hc hk s m args below hf hA hF happ hP
  obtain ⟨hcalls, hrest, hpre⟩ := hP
  obtain ⟨-, -, -, hnamed, -, -, -, hat⟩ := (Spec.applies_iff hf).mp happ
  obtain ⟨hg, hn⟩ := and_e (Cond.before_iff.mp (show (Jvm.Cond.and given_1 narrow_1).before args s = true from hpre))
  obtain ⟨g124, g125⟩ := and_e hg
  obtain ⟨g126, g127⟩ := and_e g125
  obtain ⟨g128, g129⟩ := and_e g127
  obtain ⟨g130, g131⟩ := and_e g129
  obtain ⟨w0, w1, w2, w3, rfl⟩ : ∃ w0 w1 w2 w3 : Value, args = #[w0, w1, w2, w3] := by
    have hs : args.size = 4 := by simpa [Cond.value, given_1] using g124
    obtain ⟨L⟩ := args
    match L, hs with
    | [w0, w1, w2, w3], _ => exact ⟨w0, w1, w2, w3, rfl⟩
  have hw := fun d (hd : d ∈ tables_1) => atoms_spec (ws := Jvm.Cond.code x code maxLocals ret :: tables_1) hat d (List.mem_cons_of_mem _ hd)
  have hfit : Fit s := fun {y c} hc i hi => by
    obtain ⟨ha, rfl⟩ := Array.getElem?_eq_some_iff.mp hc
    have q := List.all_eq_true.mp ((Array.all_eq_true_iff_forall_mem.mp hF) _ (Array.getElem_mem ha)) i (List.mem_range.mpr hi)
    simpa [Array.getElem?_eq_getElem hi] using q
  obtain ⟨hsets, hown0⟩ := atoms_of _ (rest_1_c_eq ▸ (show rest_1_c.before _ s = true from hrest))
  have hr0 := Cond.before_iff.mp hown0
  obtain ⟨i0, ei0⟩ := is_v g126
  obtain rfl : w0 = (.int i0) := Option.some.inj ei0
  obtain ⟨i1, ei1⟩ := is_v g128
  obtain rfl : w1 = (.int i1) := Option.some.inj ei1
  obtain ⟨i2, ei2⟩ := is_v g130
  obtain rfl : w2 = (.int i2) := Option.some.inj ei2
  obtain ⟨i3, ei3⟩ := is_v g131
  obtain rfl : w3 = (.int i3) := Option.some.inj ei3
  obtain ⟨zc, ezc⟩ := is_v (Cond.before_iff.mp (hsets _ (List.mem_of_getElem? (i := 1) rfl)))
  have S_C : Sta s s.heap "java/lang/String" "COMPACT_STRINGS" "Z" (.int zc) := Sta.start ezc (Or.inl (hsets _ (List.mem_of_getElem? (i := 0) rfl)))
  have hz : ¬ zc = 0 := gotF (Cond.eq_ints ezc (Term.int_eval (0))) (not_v (Cond.before_iff.mp (hsets _ (List.mem_of_getElem? (i := 2) rfl))))
  obtain ⟨fm, efm, rf⟩ := isR_v (Cond.before_iff.mp (hsets _ (List.mem_of_getElem? (i := 8) rfl)))
  have S_F : Sta s s.heap "jdk/internal/util/Preconditions" "SIOOBE_FORMATTER" "Ljava/util/function/BiFunction;" fm := Sta.start efm (Or.inl (hsets _ (List.mem_of_getElem? (i := 7) rfl)))
  obtain ⟨dc, edc⟩ := exa_v (Cond.before_iff.mp (hsets _ (List.mem_of_getElem? (i := 16) rfl)))
  have S_D : Sta s s.heap "java/util/ArrayList" "DEFAULTCAPACITY_EMPTY_ELEMENTDATA" "[Ljava/lang/Object;" (.ref dc) := Sta.start edc (Or.inr ⟨(hw _ (List.mem_of_getElem? (i := 83) rfl)), hsets _ (List.mem_of_getElem? (i := 11) rfl)⟩)
  obtain ⟨cd, A_d⟩ := Arr.start edc (Cond.before_iff.mp (hsets _ (List.mem_of_getElem? (i := 15) rfl)))
  have q_d := own_len (own_eqI (Cond.before_iff.mp (hsets _ (List.mem_of_getElem? (i := 17) rfl)))) edc (A_d.fin (Vm.Alike.refl _))
  have V_d : Arv s s.heap dc cd.cls (.object "java/lang/Object") (0 : Int32) [] .null := Arv.start hfit A_d q_d.1 q_d.2 (by decide) rfl trivial
  have S_h : Sta s s.heap "java/lang/Integer$IntegerCache" "high" "I" (.int (127 : Int32)) := Sta.start (own_eqI (Cond.before_iff.mp (hsets _ (List.mem_of_getElem? (i := 21) rfl)))) (Or.inl (hsets _ (List.mem_of_getElem? (i := 19) rfl)))
  obtain ⟨ca, eca⟩ := exa_v (Cond.before_iff.mp (hsets _ (List.mem_of_getElem? (i := 23) rfl)))
  have S_a : Sta s s.heap "java/lang/Integer$IntegerCache" "cache" "[Ljava/lang/Integer;" (.ref ca) := Sta.start eca (Or.inr ⟨(hw _ (List.mem_of_getElem? (i := 110) rfl)), hsets _ (List.mem_of_getElem? (i := 20) rfl)⟩)
  obtain ⟨cc, A_c⟩ := Arr.start eca (Cond.before_iff.mp (hsets _ (List.mem_of_getElem? (i := 22) rfl)))
  have q_c := own_len (own_eqI (Cond.before_iff.mp (hsets _ (List.mem_of_getElem? (i := 24) rfl)))) eca (A_c.fin (Vm.Alike.refl _))
  have B_c : Bxs s ca cc "java/lang/Integer" "I" (256 : Int32) (fun j => .int (j - (128 : Int32))) := Bxs.start (fun _ => eca) A_c q_c.1 q_c.2 (by decide) (Cond.before_iff.mp (hsets _ (List.mem_of_getElem? (i := 25) rfl))) (fun X j nn h => eqv_i (own_sub (idx_at nn)) h)
  have hC0 : CHv s own_EL s.vm s.heap := CHv.start (own_EW hw) (show ∀ p ∈ own_EL, Jvm.Lit.constHeld s p.1 p.2 from hcalls.1) (hsets _ (List.mem_of_getElem? (i := 2) rfl)) (hw _ (List.mem_of_getElem? (i := 9) rfl)) (hw _ (List.mem_of_getElem? (i := 8) rfl))
  obtain ⟨n, o, h1, h2, h3, _, L, rfl, ⟨rfl, N⟩, hq⟩ := rm_0 l s _ hw tables_1 i0 i1 i2 i3 zc fm dc cd.cls ca cc s.heap s.heap.size (Nat.le_refl _) S_C hz (Old.start s) rf S_F S_D V_d S_h S_a B_c p e ha hc hk s m _ below hf ((Spec.applies_iff_loose hf).mp happ).1 ⟨rfl, State.Warmed39.refl s, rfl, hC0⟩ trivial
  refine ⟨n, _, h1, h2, h3, hpost _ _ _ _ _ _ ⟨Cond.after_iff.mpr rfl, Cond.after_iff.mpr (eq_i res_at (Term.int_eval (1)) rfl), trivial⟩ ⟨hq.1, hq.2.1, hq.2.2.1, (hq.2.2.2.sift fun y hy => Or.inr (N y hy)).mono (by decide) (by decide)⟩⟩
theorem main_1_1 : Claimed_1_1 := comes_1 fun _ _ _ _ _ _ h hF => ⟨h.1, hF⟩
theorem main_1_2 : Claimed_1_2 := comes_1 fun _ _ _ _ _ _ h hF => ⟨h.2.1, hF⟩
end Jvm.Pilot.@@N@@
namespace Jvm.Pilot.@@N@@
open Jvm Jvm.ClassFile Sem Op Lib Jvm.Free Jvm.Stand Jvm.Pilot.@@N@@.Jvm.D
/-! MADE BY PROGRAM (witnessworld.py) out of the Statement's table words and the real class files: 35 classes; the members and pool entries that the words name. The judged class is class 1, her method 1. -/
namespace start1
open Jvm.ClassFile
def u (s : String) : CpInfo := .utf8 (stringToUtf16 s)
/-- a pool by its gaps: so many unusable entries, then the entry; so many at the end -/
def gap : Nat → List CpInfo → List CpInfo
  | 0, r => r
  | n + 1, r => .unusable :: gap n r
def poolList (es : List (Nat × CpInfo)) (last : Nat) : List CpInfo := es.foldr (fun e r => gap e.1 (e.2 :: r)) (gap last [])
def pool (es : List (Nat × CpInfo)) (last : Nat) : Array CpInfo := ⟨poolList es last⟩
def fileOf (pool : Array CpInfo) (this : Nat) (attrs : Array Attribute := #[]) (ms : Array MethodInfo := #[]) (fl : Nat := 33) (sup : Nat := 0) (ifs : Array Nat := #[]) (fds : Array FieldInfo := #[]) : ClassFile where
  minorVersion := 0
  majorVersion := 65
  constantPool := pool
  accessFlags := fl
  thisClass := this
  superClass := sup
  interfaces := ifs
  fields := fds
  methods := ms
  attributes := attrs
def plain (name : String) (sup : Option ClassId) : Class where
  name := name
  kind := .ordinary
  loader := none
  accessFlags := 33
  super := sup
  interfaces := #[]
  cf := none
  fields := #[]
  methods := #[]
  instanceTypes := #[]
  staticTypes := #[]
  resolved := #[]
  callSites := []
  init := .initialized
  statics := none
  mirror := none

def pool0 : Array CpInfo := pool [(5, u "<init>"), (0, u "()V"), (1, .class_ 10), (1, u "java/lang/Object")] 113

def k0c0 : Code := { maxStack := 0, maxLocals := 1, code := object_method_1_code, exceptionTable := #[], attributes := #[] }
def k0m0 : Method := { name := "<init>", desc := "()V", sig := { parameters := [], returnType := none }, accessFlags := 1, code := some k0c0 }
/-- java/lang/Object -/
def k0 : Class := { plain "java/lang/Object" none with
  accessFlags := 33
  interfaces := #[]
  cf := some (fileOf pool0 8 #[] #[{ accessFlags := 1, nameIndex := 5, descriptorIndex := 6, attributes := #[] }] 33 0 #[] #[])
  fields := #[]
  methods := #[k0m0]
  instanceTypes := #[]
  staticTypes := #[]
  resolved := Array.replicate 124 none
  statics := none }

def pool1 : Array CpInfo := pool [(2, .class_ 4), (0, .nameAndType 5 6), (0, u "java/lang/Object"), (0, u "<init>"), (0, u "()V"), (0, .methodref 8 9), (0, .class_ 10), (0, .nameAndType 11 12), (0, u "java/lang/Integer"), (0, u "valueOf"), (0, u "(I)Ljava/lang/Integer;"), (0, .class_ 14), (0, u "java/lang/String"), (0, .methodref 13 16), (0, .nameAndType 5 17), (0, u "([C)V"), (0, .class_ 19), (0, u "java/util/ArrayList"), (0, .methodref 18 3), (0, .methodref 18 22), (0, .nameAndType 23 24), (0, u "add"), (0, u "(Ljava/lang/Object;)Z"), (0, .methodref 26 27), (0, .class_ 28), (0, .nameAndType 29 30), (0, u "com/example/keelson/keelson/core/Envelope"), (0, u "ok"), (0, u "(Ljava/lang/Object;)Lcom/example/keelson/keelson/core/Envelope;"), (0, .methodref 26 32), (0, .nameAndType 33 34), (0, u "message"), (0, u "()Ljava/lang/String;"), (0, .methodref 26 36), (0, .nameAndType 37 38), (0, u "code"), (0, u "()I"), (0, .methodref 13 40), (0, .nameAndType 41 38), (0, u "length"), (0, .methodref 13 43), (0, .nameAndType 44 45), (0, u "charAt"), (0, u "(I)C"), (0, .methodref 26 47), (0, .nameAndType 48 49), (0, u "data"), (0, u "()Ljava/lang/Object;"), (0, .class_ 51), (0, u "com/example/keelson/keelson/core/EnvelopeOkPinLaw"), (2, u "law"), (0, u "(IIII)Z")] 3

def k1m0 : Method := { name := "<init>", desc := "()V", sig := { parameters := [], returnType := none }, accessFlags := 1, code := none }
def k1c1 : Code := { maxStack := 4, maxLocals := 8, code := code, exceptionTable := #[], attributes := #[] }
def k1m1 : Method := { name := "law", desc := "(IIII)Z", sig := { parameters := [.int, .int, .int, .int], returnType := some .boolean }, accessFlags := 9, code := some k1c1 }
/-- com/example/keelson/keelson/core/EnvelopeOkPinLaw -/
def k1 : Class := { plain "com/example/keelson/keelson/core/EnvelopeOkPinLaw" (some 0) with
  accessFlags := 49
  interfaces := #[]
  cf := some (fileOf pool1 50 #[] #[{ accessFlags := 1, nameIndex := 5, descriptorIndex := 6, attributes := #[] }, { accessFlags := 9, nameIndex := 54, descriptorIndex := 55, attributes := #[] }] 49 2 #[] #[])
  fields := #[]
  methods := #[k1m0, k1m1]
  instanceTypes := #[]
  staticTypes := #[]
  resolved := Array.replicate 59 none
  statics := none }

def pool2 : Array CpInfo := pool [(1, .methodref 2 3), (0, .class_ 4), (0, .nameAndType 5 6), (0, u "java/lang/Object"), (0, u "<init>"), (0, u "()V"), (0, .class_ 8), (0, u "java/lang/Record")] 13

def k2c0 : Code := { maxStack := 1, maxLocals := 1, code := jdk_30_method_1_code, exceptionTable := #[], attributes := #[] }
def k2m0 : Method := { name := "<init>", desc := "()V", sig := { parameters := [], returnType := none }, accessFlags := 4, code := some k2c0 }
/-- java/lang/Record -/
def k2 : Class := { plain "java/lang/Record" (some 0) with
  accessFlags := 1057
  interfaces := #[]
  cf := some (fileOf pool2 7 #[] #[{ accessFlags := 4, nameIndex := 5, descriptorIndex := 6, attributes := #[] }] 1057 2 #[] #[])
  fields := #[]
  methods := #[k2m0]
  instanceTypes := #[]
  staticTypes := #[]
  resolved := Array.replicate 22 none
  statics := none }

def pool3 : Array CpInfo := pool [(1, .methodref 2 3), (0, .class_ 4), (0, .nameAndType 5 6), (0, u "java/lang/Record"), (0, u "<init>"), (0, u "()V"), (0, .fieldref 8 9), (0, .class_ 10), (0, .nameAndType 11 12), (0, u "com/example/keelson/keelson/core/Envelope"), (0, u "code"), (0, u "I"), (0, .fieldref 8 14), (0, .nameAndType 15 16), (0, u "message"), (0, u "Ljava/lang/String;"), (0, .fieldref 8 18), (0, .nameAndType 19 20), (0, u "data"), (0, u "Ljava/lang/Object;"), (0, .string 22), (0, u "ok"), (0, .methodref 8 24), (0, .nameAndType 5 25), (0, u "(ILjava/lang/String;Ljava/lang/Object;)V"), (4, u "()I"), (2, u "()Ljava/lang/String;"), (15, u "(Ljava/lang/Object;)Lcom/example/keelson/keelson/core/Envelope;"), (3, u "()Ljava/lang/Object;")] 22

def k3c0 : Code := { maxStack := 2, maxLocals := 4, code := prog_6_method_1_code, exceptionTable := #[], attributes := #[] }
def k3m0 : Method := { name := "<init>", desc := "(ILjava/lang/String;Ljava/lang/Object;)V", sig := { parameters := [.int, (.object "java/lang/String"), (.object "java/lang/Object")], returnType := none }, accessFlags := 1, code := some k3c0 }
def k3c1 : Code := { maxStack := 5, maxLocals := 1, code := prog_6_method_2_code, exceptionTable := #[], attributes := #[] }
def k3m1 : Method := { name := "ok", desc := "(Ljava/lang/Object;)Lcom/example/keelson/keelson/core/Envelope;", sig := { parameters := [(.object "java/lang/Object")], returnType := some (.object "com/example/keelson/keelson/core/Envelope") }, accessFlags := 9, code := some k3c1 }
def k3c2 : Code := { maxStack := 1, maxLocals := 1, code := prog_6_method_7_code, exceptionTable := #[], attributes := #[] }
def k3m2 : Method := { name := "code", desc := "()I", sig := { parameters := [], returnType := some .int }, accessFlags := 1, code := some k3c2 }
def k3c3 : Code := { maxStack := 1, maxLocals := 1, code := prog_6_method_8_code, exceptionTable := #[], attributes := #[] }
def k3m3 : Method := { name := "message", desc := "()Ljava/lang/String;", sig := { parameters := [], returnType := some (.object "java/lang/String") }, accessFlags := 1, code := some k3c3 }
def k3c4 : Code := { maxStack := 1, maxLocals := 1, code := prog_6_method_9_code, exceptionTable := #[], attributes := #[] }
def k3m4 : Method := { name := "data", desc := "()Ljava/lang/Object;", sig := { parameters := [], returnType := some (.object "java/lang/Object") }, accessFlags := 1, code := some k3c4 }
/-- com/example/keelson/keelson/core/Envelope -/
def k3 : Class := { plain "com/example/keelson/keelson/core/Envelope" (some 2) with
  accessFlags := 49
  interfaces := #[]
  cf := some (fileOf pool3 8 #[] #[{ accessFlags := 1, nameIndex := 5, descriptorIndex := 25, attributes := #[] }, { accessFlags := 9, nameIndex := 22, descriptorIndex := 49, attributes := #[] }, { accessFlags := 1, nameIndex := 11, descriptorIndex := 30, attributes := #[] }, { accessFlags := 1, nameIndex := 15, descriptorIndex := 33, attributes := #[] }, { accessFlags := 1, nameIndex := 19, descriptorIndex := 53, attributes := #[] }] 49 2 #[] #[{ accessFlags := 18, nameIndex := 11, descriptorIndex := 12, attributes := #[] }, { accessFlags := 18, nameIndex := 15, descriptorIndex := 16, attributes := #[] }, { accessFlags := 18, nameIndex := 19, descriptorIndex := 20, attributes := #[] }])
  fields := #[{ name := "code", type := .int, accessFlags := 18, slot := 0, constantValue := 0 }, { name := "message", type := (.object "java/lang/String"), accessFlags := 18, slot := 1, constantValue := 0 }, { name := "data", type := (.object "java/lang/Object"), accessFlags := 18, slot := 2, constantValue := 0 }]
  methods := #[k3m0, k3m1, k3m2, k3m3, k3m4]
  instanceTypes := #[.int, (.object "java/lang/String"), (.object "java/lang/Object")]
  staticTypes := #[]
  resolved := Array.replicate 76 none
  statics := none }

def pool4 : Array CpInfo := pool [(1, .class_ 2), (0, u "java/io/Serializable"), (0, .class_ 4), (0, u "java/lang/Object")] 2

/-- java/io/Serializable -/
def k4 : Class := { plain "java/io/Serializable" (some 0) with
  accessFlags := 1537
  interfaces := #[]
  cf := some (fileOf pool4 1 #[] #[] 1537 3 #[] #[])
  fields := #[]
  methods := #[]
  instanceTypes := #[]
  staticTypes := #[]
  resolved := Array.replicate 7 none
  statics := none }

def pool5 : Array CpInfo := pool [(1, .class_ 2), (0, u "java/lang/Comparable"), (0, .class_ 4), (0, u "java/lang/Object")] 7

/-- java/lang/Comparable -/
def k5 : Class := { plain "java/lang/Comparable" (some 0) with
  accessFlags := 1537
  interfaces := #[]
  cf := some (fileOf pool5 1 #[] #[] 1537 3 #[] #[])
  fields := #[]
  methods := #[]
  instanceTypes := #[]
  staticTypes := #[]
  resolved := Array.replicate 12 none
  statics := none }

def pool6 : Array CpInfo := pool [(2, .class_ 4), (1, u "java/lang/CharSequence"), (42, .class_ 48), (0, u "java/lang/CharSequence$1CodePointIterator"), (10, .class_ 60), (0, u "java/lang/CharSequence$1CharIterator"), (5, .class_ 67), (0, u "java/lang/Object")] 63

/-- java/lang/CharSequence -/
def k6 : Class := { plain "java/lang/CharSequence" (some 0) with
  accessFlags := 1537
  interfaces := #[]
  cf := some (fileOf pool6 2 #[.nestMembers #[47, 59]] #[] 1537 66 #[] #[])
  fields := #[]
  methods := #[]
  instanceTypes := #[]
  staticTypes := #[]
  resolved := Array.replicate 131 none
  statics := none }

def pool7 : Array CpInfo := pool [(1, .class_ 2), (0, u "java/lang/constant/Constable"), (0, .class_ 4), (0, u "java/lang/Object")] 6

/-- java/lang/constant/Constable -/
def k7 : Class := { plain "java/lang/constant/Constable" (some 0) with
  accessFlags := 1537
  interfaces := #[]
  cf := some (fileOf pool7 1 #[] #[] 1537 3 #[] #[])
  fields := #[]
  methods := #[]
  instanceTypes := #[]
  staticTypes := #[]
  resolved := Array.replicate 11 none
  statics := none }

def pool8 : Array CpInfo := pool [(1, .class_ 2), (0, u "java/lang/constant/ConstantDesc"), (0, .class_ 4), (0, u "java/lang/Object")] 32

/-- java/lang/constant/ConstantDesc -/
def k8 : Class := { plain "java/lang/constant/ConstantDesc" (some 0) with
  accessFlags := 1537
  interfaces := #[]
  cf := some (fileOf pool8 1 #[] #[] 1537 3 #[] #[])
  fields := #[]
  methods := #[]
  instanceTypes := #[]
  staticTypes := #[]
  resolved := Array.replicate 37 none
  statics := none }

def pool9 : Array CpInfo := pool [(1, .methodref 2 3), (0, .class_ 4), (0, .nameAndType 5 6), (0, u "java/lang/Object"), (0, u "<init>"), (0, u "()V"), (2, .fieldref 10 11), (0, .class_ 12), (0, .nameAndType 13 14), (0, u "java/lang/String"), (0, u "value"), (0, u "[B"), (0, .fieldref 10 16), (0, .nameAndType 17 18), (0, u "coder"), (0, u "B"), (2, u "hash"), (0, u "I"), (2, u "hashIsZero"), (0, u "Z"), (0, .methodref 10 28), (0, .nameAndType 5 29), (0, u "([CIILjava/lang/Void;)V"), (8, .fieldref 10 39), (0, .nameAndType 40 26), (0, u "COMPACT_STRINGS"), (1, .class_ 44), (1, u "java/lang/StringUTF16"), (0, u "compress"), (1, .methodref 42 48), (0, .nameAndType 49 50), (0, u "coderFromArrayLen"), (0, u "([BI)B"), (56, .class_ 109), (1, u "java/lang/StringLatin1"), (32, u "()Z"), (34, .methodref 42 178), (0, .nameAndType 45 179), (0, u "([CII)[B"), (154, u "()I"), (0, .methodref 10 336), (0, .nameAndType 17 337), (0, u "()B"), (25, u "([BI)C"), (27, u "(II)V"), (35, u "(I)C"), (64, .methodref 10 493), (0, .nameAndType 494 142), (0, u "isLatin1"), (0, .methodref 107 496), (0, .nameAndType 497 363), (0, u "charAt"), (3, u "checkIndex"), (5, u "length"), (67, .class_ 576), (0, u "java/lang/CharSequence"), (22, u "CASE_INSENSITIVE_ORDER"), (0, u "Ljava/util/Comparator;"), (409, u "([C)V"), (42, .fieldref 1054 1055), (0, .class_ 1056), (0, .nameAndType 1057 1058), (0, u "jdk/internal/util/Preconditions"), (0, u "SIOOBE_FORMATTER"), (0, u "Ljava/util/function/BiFunction;"), (0, .methodref 1054 1060), (0, .nameAndType 501 1061), (0, u "(IILjava/util/function/BiFunction;)I"), (39, u "serialPersistentFields"), (0, u "[Ljava/io/ObjectStreamField;"), (0, .class_ 1104), (0, u "java/lang/String$CaseInsensitiveComparator"), (1, .class_ 1107), (0, u "java/io/Serializable"), (0, .class_ 1109), (0, u "java/lang/Comparable"), (0, .class_ 1111), (0, u "java/lang/constant/Constable"), (0, .class_ 1113), (0, u "java/lang/constant/ConstantDesc"), (2, u "serialVersionUID"), (0, u "J"), (3, u "REPL"), (0, u "C"), (2, u "LATIN1"), (1, u "UTF16")] 323

def k9m0 : Method := { name := "<init>", desc := "()V", sig := { parameters := [], returnType := none }, accessFlags := 1, code := none }
def k9c1 : Code := { maxStack := 5, maxLocals := 2, code := jdk_42_method_3_code, exceptionTable := #[], attributes := #[] }
def k9m1 : Method := { name := "<init>", desc := "([C)V", sig := { parameters := [(.array .char)], returnType := none }, accessFlags := 1, code := some k9c1 }
def k9c2 : Code := { maxStack := 2, maxLocals := 1, code := jdk_42_method_54_code, exceptionTable := #[], attributes := #[] }
def k9m2 : Method := { name := "length", desc := "()I", sig := { parameters := [], returnType := some .int }, accessFlags := 1, code := some k9c2 }
def k9c3 : Code := { maxStack := 2, maxLocals := 2, code := jdk_42_method_56_code, exceptionTable := #[], attributes := #[] }
def k9m3 : Method := { name := "charAt", desc := "(I)C", sig := { parameters := [.int], returnType := some .char }, accessFlags := 1, code := some k9c3 }
def k9c4 : Code := { maxStack := 4, maxLocals := 6, code := jdk_42_method_149_code, exceptionTable := #[], attributes := #[] }
def k9m4 : Method := { name := "<init>", desc := "([CIILjava/lang/Void;)V", sig := { parameters := [(.array .char), .int, .int, (.object "java/lang/Void")], returnType := none }, accessFlags := 2, code := some k9c4 }
def k9c5 : Code := { maxStack := 1, maxLocals := 1, code := jdk_42_method_152_code, exceptionTable := #[], attributes := #[] }
def k9m5 : Method := { name := "coder", desc := "()B", sig := { parameters := [], returnType := some .byte }, accessFlags := 0, code := some k9c5 }
def k9c6 : Code := { maxStack := 1, maxLocals := 1, code := jdk_42_method_154_code, exceptionTable := #[], attributes := #[] }
def k9m6 : Method := { name := "isLatin1", desc := "()Z", sig := { parameters := [], returnType := some .boolean }, accessFlags := 0, code := some k9c6 }
def k9c7 : Code := { maxStack := 3, maxLocals := 2, code := jdk_42_method_155_code, exceptionTable := #[], attributes := #[] }
def k9m7 : Method := { name := "checkIndex", desc := "(II)V", sig := { parameters := [.int, .int], returnType := none }, accessFlags := 8, code := some k9c7 }
/-- java/lang/String -/
def k9 : Class := { plain "java/lang/String" (some 0) with
  accessFlags := 49
  interfaces := #[4, 5, 6, 7, 8]
  cf := some (fileOf pool9 10 #[.nestMembers #[1103]] #[{ accessFlags := 1, nameIndex := 5, descriptorIndex := 6, attributes := #[] }, { accessFlags := 1, nameIndex := 5, descriptorIndex := 1010, attributes := #[] }, { accessFlags := 1, nameIndex := 507, descriptorIndex := 334, attributes := #[] }, { accessFlags := 1, nameIndex := 497, descriptorIndex := 427, attributes := #[] }, { accessFlags := 2, nameIndex := 5, descriptorIndex := 29, attributes := #[] }, { accessFlags := 0, nameIndex := 17, descriptorIndex := 337, attributes := #[] }, { accessFlags := 0, nameIndex := 494, descriptorIndex := 142, attributes := #[] }, { accessFlags := 8, nameIndex := 501, descriptorIndex := 391, attributes := #[] }] 49 2 #[1106, 1108, 575, 1110, 1112] #[{ accessFlags := 18, nameIndex := 13, descriptorIndex := 14, attributes := #[] }, { accessFlags := 18, nameIndex := 17, descriptorIndex := 18, attributes := #[] }, { accessFlags := 2, nameIndex := 21, descriptorIndex := 22, attributes := #[] }, { accessFlags := 2, nameIndex := 25, descriptorIndex := 26, attributes := #[] }, { accessFlags := 26, nameIndex := 1116, descriptorIndex := 1117, attributes := #[] }, { accessFlags := 24, nameIndex := 40, descriptorIndex := 26, attributes := #[] }, { accessFlags := 26, nameIndex := 1101, descriptorIndex := 1102, attributes := #[] }, { accessFlags := 26, nameIndex := 1121, descriptorIndex := 1122, attributes := #[] }, { accessFlags := 25, nameIndex := 599, descriptorIndex := 600, attributes := #[] }, { accessFlags := 24, nameIndex := 1125, descriptorIndex := 18, attributes := #[] }, { accessFlags := 24, nameIndex := 1127, descriptorIndex := 18, attributes := #[] }])
  fields := #[{ name := "value", type := (.array .byte), accessFlags := 18, slot := 0, constantValue := 0 }, { name := "coder", type := .byte, accessFlags := 18, slot := 1, constantValue := 0 }, { name := "hash", type := .int, accessFlags := 2, slot := 2, constantValue := 0 }, { name := "hashIsZero", type := .boolean, accessFlags := 2, slot := 3, constantValue := 0 }, { name := "serialVersionUID", type := .long, accessFlags := 26, slot := 0, constantValue := 0 }, { name := "COMPACT_STRINGS", type := .boolean, accessFlags := 24, slot := 1, constantValue := 0 }, { name := "serialPersistentFields", type := (.array (.object "java/io/ObjectStreamField")), accessFlags := 26, slot := 2, constantValue := 0 }, { name := "REPL", type := .char, accessFlags := 26, slot := 3, constantValue := 0 }, { name := "CASE_INSENSITIVE_ORDER", type := (.object "java/util/Comparator"), accessFlags := 25, slot := 4, constantValue := 0 }, { name := "LATIN1", type := .byte, accessFlags := 24, slot := 5, constantValue := 0 }, { name := "UTF16", type := .byte, accessFlags := 24, slot := 6, constantValue := 0 }]
  methods := #[k9m0, k9m1, k9m2, k9m3, k9m4, k9m5, k9m6, k9m7]
  instanceTypes := #[(.array .byte), .byte, .int, .boolean]
  staticTypes := #[.long, .boolean, (.array (.object "java/io/ObjectStreamField")), .char, (.object "java/util/Comparator"), .byte, .byte]
  resolved := Array.replicate 1451 none
  statics := some 0 }

def pool10 : Array CpInfo := pool [(1, .class_ 2), (0, u "java/lang/String"), (1, .class_ 6), (1, u "java/lang/Object"), (0, u "<init>"), (0, u "()V"), (0, .methodref 1 10), (0, .nameAndType 11 12), (0, u "checkIndex"), (0, u "(II)V"), (1, .class_ 16), (1, u "java/lang/StringLatin1"), (36, u "([BI)C"), (67, u "$assertionsDisabled"), (0, u "Z"), (98, .class_ 223), (1, u "java/lang/StringLatin1$LinesSpliterator"), (28, u "charAt"), (137, .class_ 391), (0, u "java/lang/StringLatin1$CharsSpliterator")] 3

def k10m0 : Method := { name := "<init>", desc := "()V", sig := { parameters := [], returnType := none }, accessFlags := 0, code := none }
def k10c1 : Code := { maxStack := 2, maxLocals := 2, code := jdk_43_method_2_code, exceptionTable := #[], attributes := #[] }
def k10m1 : Method := { name := "charAt", desc := "([BI)C", sig := { parameters := [(.array .byte), .int], returnType := some .char }, accessFlags := 9, code := some k10c1 }
/-- java/lang/StringLatin1 -/
def k10 : Class := { plain "java/lang/StringLatin1" (some 0) with
  accessFlags := 48
  interfaces := #[]
  cf := some (fileOf pool10 14 #[.nestMembers #[390, 221]] #[{ accessFlags := 0, nameIndex := 7, descriptorIndex := 8, attributes := #[] }, { accessFlags := 9, nameIndex := 252, descriptorIndex := 53, attributes := #[] }] 48 4 #[] #[{ accessFlags := 4120, nameIndex := 121, descriptorIndex := 122, attributes := #[] }])
  fields := #[{ name := "$assertionsDisabled", type := .boolean, accessFlags := 4120, slot := 0, constantValue := 0 }]
  methods := #[k10m0, k10m1]
  instanceTypes := #[]
  staticTypes := #[.boolean]
  resolved := Array.replicate 395 none
  statics := none }

def pool11 : Array CpInfo := pool [(2, .class_ 4), (1, u "java/lang/Object"), (0, u "<init>"), (0, u "()V"), (17, .class_ 26), (1, u "jdk/internal/util/Preconditions"), (6, u "checkIndex"), (21, .class_ 56), (0, u "jdk/internal/util/Preconditions$4"), (57, .class_ 115), (0, u "jdk/internal/util/Preconditions$1"), (7, u "SIOOBE_FORMATTER"), (0, u "Ljava/util/function/BiFunction;"), (0, .class_ 126), (0, u "jdk/internal/util/Preconditions$2"), (3, u "AIOOBE_FORMATTER"), (0, .class_ 132), (0, u "jdk/internal/util/Preconditions$3"), (3, u "IOOBE_FORMATTER"), (41, u "(IILjava/util/function/BiFunction;)I")] 15

def k11m0 : Method := { name := "<init>", desc := "()V", sig := { parameters := [], returnType := none }, accessFlags := 1, code := none }
def k11c1 : Code := { maxStack := 3, maxLocals := 3, code := jdk_41_method_11_code, exceptionTable := #[], attributes := #[] }
def k11m1 : Method := { name := "checkIndex", desc := "(IILjava/util/function/BiFunction;)I", sig := { parameters := [.int, .int, (.object "java/util/function/BiFunction")], returnType := some .int }, accessFlags := 9, code := some k11c1 }
/-- jdk/internal/util/Preconditions -/
def k11 : Class := { plain "jdk/internal/util/Preconditions" (some 0) with
  accessFlags := 33
  interfaces := #[]
  cf := some (fileOf pool11 24 #[.nestMembers #[55, 131, 125, 114]] #[{ accessFlags := 1, nameIndex := 5, descriptorIndex := 6, attributes := #[] }, { accessFlags := 9, nameIndex := 33, descriptorIndex := 178, attributes := #[] }] 33 2 #[] #[{ accessFlags := 25, nameIndex := 123, descriptorIndex := 124, attributes := #[] }, { accessFlags := 25, nameIndex := 130, descriptorIndex := 124, attributes := #[] }, { accessFlags := 25, nameIndex := 136, descriptorIndex := 124, attributes := #[] }])
  fields := #[{ name := "SIOOBE_FORMATTER", type := (.object "java/util/function/BiFunction"), accessFlags := 25, slot := 0, constantValue := 0 }, { name := "AIOOBE_FORMATTER", type := (.object "java/util/function/BiFunction"), accessFlags := 25, slot := 1, constantValue := 0 }, { name := "IOOBE_FORMATTER", type := (.object "java/util/function/BiFunction"), accessFlags := 25, slot := 2, constantValue := 0 }]
  methods := #[k11m0, k11m1]
  instanceTypes := #[]
  staticTypes := #[(.object "java/util/function/BiFunction"), (.object "java/util/function/BiFunction"), (.object "java/util/function/BiFunction")]
  resolved := Array.replicate 194 none
  statics := some 1 }

def pool12 : Array CpInfo := pool [(8, .class_ 10), (1, u "java/lang/Iterable"), (24, .class_ 36), (0, u "java/lang/Object")] 25

/-- java/lang/Iterable -/
def k12 : Class := { plain "java/lang/Iterable" (some 0) with
  accessFlags := 1537
  interfaces := #[]
  cf := some (fileOf pool12 8 #[] #[] 1537 35 #[] #[])
  fields := #[]
  methods := #[]
  instanceTypes := #[]
  staticTypes := #[]
  resolved := Array.replicate 62 none
  statics := none }

def pool13 : Array CpInfo := pool [(10, .class_ 12), (1, u "java/util/Collection"), (47, .class_ 61), (0, u "java/lang/Object"), (0, .class_ 63), (0, u "java/lang/Iterable")] 51

/-- java/util/Collection -/
def k13 : Class := { plain "java/util/Collection" (some 0) with
  accessFlags := 1537
  interfaces := #[12]
  cf := some (fileOf pool13 10 #[] #[] 1537 60 #[62] #[])
  fields := #[]
  methods := #[]
  instanceTypes := #[]
  staticTypes := #[]
  resolved := Array.replicate 115 none
  statics := none }

def pool14 : Array CpInfo := pool [(1, .methodref 2 3), (0, .class_ 4), (0, .nameAndType 5 6), (0, u "java/lang/Object"), (0, u "<init>"), (0, u "()V"), (1, .class_ 10), (1, u "java/util/AbstractCollection"), (66, .class_ 78), (0, u "java/util/Collection")] 81

def k14c0 : Code := { maxStack := 1, maxLocals := 1, code := jdk_22_method_1_code, exceptionTable := #[], attributes := #[] }
def k14m0 : Method := { name := "<init>", desc := "()V", sig := { parameters := [], returnType := none }, accessFlags := 4, code := some k14c0 }
/-- java/util/AbstractCollection -/
def k14 : Class := { plain "java/util/AbstractCollection" (some 0) with
  accessFlags := 1057
  interfaces := #[13]
  cf := some (fileOf pool14 8 #[] #[{ accessFlags := 4, nameIndex := 5, descriptorIndex := 6, attributes := #[] }] 1057 2 #[77] #[])
  fields := #[]
  methods := #[k14m0]
  instanceTypes := #[]
  staticTypes := #[]
  resolved := Array.replicate 160 none
  statics := none }

def pool15 : Array CpInfo := pool [(8, .class_ 10), (1, u "java/util/SequencedCollection"), (15, .class_ 27), (0, u "java/lang/Object"), (0, .class_ 29), (0, u "java/util/Collection")] 27

/-- java/util/SequencedCollection -/
def k15 : Class := { plain "java/util/SequencedCollection" (some 0) with
  accessFlags := 1537
  interfaces := #[13]
  cf := some (fileOf pool15 8 #[] #[] 1537 26 #[28] #[])
  fields := #[]
  methods := #[]
  instanceTypes := #[]
  staticTypes := #[]
  resolved := Array.replicate 57 none
  statics := none }

def pool16 : Array CpInfo := pool [(8, .class_ 10), (1, u "java/util/List"), (92, .class_ 104), (0, u "java/lang/Object"), (15, .class_ 121), (0, u "java/util/SequencedCollection")] 129

/-- java/util/List -/
def k16 : Class := { plain "java/util/List" (some 0) with
  accessFlags := 1537
  interfaces := #[15]
  cf := some (fileOf pool16 8 #[] #[] 1537 103 #[120] #[])
  fields := #[]
  methods := #[]
  instanceTypes := #[]
  staticTypes := #[]
  resolved := Array.replicate 251 none
  statics := none }

def pool17 : Array CpInfo := pool [(1, .methodref 2 3), (0, .class_ 4), (0, .nameAndType 5 6), (0, u "java/util/AbstractCollection"), (0, u "<init>"), (0, u "()V"), (0, .fieldref 8 9), (0, .class_ 10), (0, .nameAndType 11 12), (0, u "java/util/AbstractList"), (0, u "modCount"), (0, u "I"), (64, .class_ 78), (0, u "java/util/AbstractList$Itr"), (3, .class_ 83), (0, u "java/util/AbstractList$ListItr"), (9, .class_ 94), (0, u "java/util/AbstractList$RandomAccessSubList"), (3, .class_ 99), (0, u "java/util/AbstractList$SubList"), (33, .class_ 134), (0, u "java/util/List"), (73, .class_ 209), (0, u "java/util/AbstractList$SubList$1"), (0, .class_ 211), (0, u "java/util/AbstractList$RandomAccessSpliterator")] 6

def k17c0 : Code := { maxStack := 2, maxLocals := 1, code := jdk_39_method_1_code, exceptionTable := #[], attributes := #[] }
def k17m0 : Method := { name := "<init>", desc := "()V", sig := { parameters := [], returnType := none }, accessFlags := 4, code := some k17c0 }
/-- java/util/AbstractList -/
def k17 : Class := { plain "java/util/AbstractList" (some 14) with
  accessFlags := 1057
  interfaces := #[16]
  cf := some (fileOf pool17 8 #[.nestMembers #[93, 98, 208, 210, 82, 77]] #[{ accessFlags := 4, nameIndex := 5, descriptorIndex := 6, attributes := #[] }] 1057 2 #[133] #[{ accessFlags := 132, nameIndex := 11, descriptorIndex := 12, attributes := #[] }])
  fields := #[{ name := "modCount", type := .int, accessFlags := 132, slot := 0, constantValue := 0 }]
  methods := #[k17m0]
  instanceTypes := #[.int]
  staticTypes := #[]
  resolved := Array.replicate 218 none
  statics := none }

def pool18 : Array CpInfo := pool [(1, .class_ 2), (0, u "java/util/RandomAccess"), (0, .class_ 4), (0, u "java/lang/Object")] 2

/-- java/util/RandomAccess -/
def k18 : Class := { plain "java/util/RandomAccess" (some 0) with
  accessFlags := 1537
  interfaces := #[]
  cf := some (fileOf pool18 1 #[] #[] 1537 3 #[] #[])
  fields := #[]
  methods := #[]
  instanceTypes := #[]
  staticTypes := #[]
  resolved := Array.replicate 7 none
  statics := none }

def pool19 : Array CpInfo := pool [(1, .class_ 2), (0, u "java/lang/Cloneable"), (0, .class_ 4), (0, u "java/lang/Object")] 2

/-- java/lang/Cloneable -/
def k19 : Class := { plain "java/lang/Cloneable" (some 0) with
  accessFlags := 1537
  interfaces := #[]
  cf := some (fileOf pool19 1 #[] #[] 1537 3 #[] #[])
  fields := #[]
  methods := #[]
  instanceTypes := #[]
  staticTypes := #[]
  resolved := Array.replicate 7 none
  statics := none }

def pool20 : Array CpInfo := pool [(1, .methodref 2 3), (0, .class_ 4), (0, .nameAndType 5 6), (0, u "java/util/AbstractList"), (0, u "<init>"), (0, u "()V"), (0, .class_ 8), (0, u "java/lang/Object"), (0, .fieldref 10 11), (0, .class_ 12), (0, .nameAndType 13 14), (0, u "java/util/ArrayList"), (0, u "elementData"), (0, u "[Ljava/lang/Object;"), (2, u "EMPTY_ELEMENTDATA"), (21, .fieldref 10 40), (0, .nameAndType 41 14), (0, u "DEFAULTCAPACITY_EMPTY_ELEMENTDATA"), (5, u "()[Ljava/lang/Object;"), (0, .fieldref 10 49), (0, .nameAndType 50 51), (0, u "size"), (0, u "I"), (11, .fieldref 10 64), (0, .nameAndType 65 51), (0, u "modCount"), (3, .methodref 10 70), (0, .nameAndType 71 72), (0, u "grow"), (0, u "(I)[Ljava/lang/Object;"), (6, .methodref 80 81), (0, .class_ 82), (0, .nameAndType 83 84), (0, u "java/lang/Math"), (0, u "max"), (0, u "(II)I"), (11, u "(Ljava/lang/Object;)Z"), (32, .methodref 10 130), (0, .nameAndType 71 47), (0, .methodref 10 132), (0, .nameAndType 133 134), (0, u "add"), (0, u "(Ljava/lang/Object;[Ljava/lang/Object;I)V"), (13, .class_ 149), (0, u "java/util/List"), (112, .class_ 263), (0, u "java/util/ArrayList$ListItr"), (3, .class_ 268), (0, u "java/util/ArrayList$Itr"), (7, .class_ 277), (0, u "java/util/ArrayList$SubList"), (12, .class_ 291), (0, u "java/util/ArrayList$ArrayListSpliterator"), (37, .class_ 330), (0, u "java/util/RandomAccess"), (0, .class_ 332), (0, u "java/lang/Cloneable"), (0, .class_ 334), (0, u "java/io/Serializable"), (0, u "serialVersionUID"), (0, u "J"), (3, u "DEFAULT_CAPACITY"), (159, .class_ 501), (0, u "java/util/ArrayList$SubList$2"), (0, .class_ 503), (0, u "java/util/ArrayList$SubList$1")] 5

def k20c0 : Code := { maxStack := 2, maxLocals := 1, code := jdk_38_method_2_code, exceptionTable := #[], attributes := #[] }
def k20m0 : Method := { name := "<init>", desc := "()V", sig := { parameters := [], returnType := none }, accessFlags := 1, code := some k20c0 }
def k20c1 : Code := { maxStack := 4, maxLocals := 4, code := jdk_38_method_6_code, exceptionTable := #[], attributes := #[] }
def k20m1 : Method := { name := "grow", desc := "(I)[Ljava/lang/Object;", sig := { parameters := [.int], returnType := some (.array (.object "java/lang/Object")) }, accessFlags := 2, code := some k20c1 }
def k20c2 : Code := { maxStack := 3, maxLocals := 1, code := jdk_38_method_7_code, exceptionTable := #[], attributes := #[] }
def k20m2 : Method := { name := "grow", desc := "()[Ljava/lang/Object;", sig := { parameters := [], returnType := some (.array (.object "java/lang/Object")) }, accessFlags := 2, code := some k20c2 }
def k20c3 : Code := { maxStack := 3, maxLocals := 4, code := jdk_38_method_24_code, exceptionTable := #[], attributes := #[] }
def k20m3 : Method := { name := "add", desc := "(Ljava/lang/Object;[Ljava/lang/Object;I)V", sig := { parameters := [(.object "java/lang/Object"), (.array (.object "java/lang/Object")), .int], returnType := none }, accessFlags := 2, code := some k20c3 }
def k20c4 : Code := { maxStack := 4, maxLocals := 2, code := jdk_38_method_25_code, exceptionTable := #[], attributes := #[] }
def k20m4 : Method := { name := "add", desc := "(Ljava/lang/Object;)Z", sig := { parameters := [(.object "java/lang/Object")], returnType := some .boolean }, accessFlags := 1, code := some k20c4 }
/-- java/util/ArrayList -/
def k20 : Class := { plain "java/util/ArrayList" (some 17) with
  accessFlags := 33
  interfaces := #[16, 18, 19, 4]
  cf := some (fileOf pool20 10 #[.nestMembers #[290, 276, 500, 502, 262, 267]] #[{ accessFlags := 1, nameIndex := 5, descriptorIndex := 6, attributes := #[] }, { accessFlags := 2, nameIndex := 71, descriptorIndex := 72, attributes := #[] }, { accessFlags := 2, nameIndex := 71, descriptorIndex := 47, attributes := #[] }, { accessFlags := 2, nameIndex := 133, descriptorIndex := 134, attributes := #[] }, { accessFlags := 1, nameIndex := 133, descriptorIndex := 96, attributes := #[] }] 33 2 #[148, 329, 331, 333] #[{ accessFlags := 26, nameIndex := 335, descriptorIndex := 336, attributes := #[] }, { accessFlags := 26, nameIndex := 340, descriptorIndex := 51, attributes := #[] }, { accessFlags := 26, nameIndex := 17, descriptorIndex := 14, attributes := #[] }, { accessFlags := 26, nameIndex := 41, descriptorIndex := 14, attributes := #[] }, { accessFlags := 128, nameIndex := 13, descriptorIndex := 14, attributes := #[] }, { accessFlags := 2, nameIndex := 50, descriptorIndex := 51, attributes := #[] }])
  fields := #[{ name := "serialVersionUID", type := .long, accessFlags := 26, slot := 0, constantValue := 0 }, { name := "DEFAULT_CAPACITY", type := .int, accessFlags := 26, slot := 1, constantValue := 0 }, { name := "EMPTY_ELEMENTDATA", type := (.array (.object "java/lang/Object")), accessFlags := 26, slot := 2, constantValue := 0 }, { name := "DEFAULTCAPACITY_EMPTY_ELEMENTDATA", type := (.array (.object "java/lang/Object")), accessFlags := 26, slot := 3, constantValue := 0 }, { name := "elementData", type := (.array (.object "java/lang/Object")), accessFlags := 128, slot := 1, constantValue := 0 }, { name := "size", type := .int, accessFlags := 2, slot := 2, constantValue := 0 }]
  methods := #[k20m0, k20m1, k20m2, k20m3, k20m4]
  instanceTypes := #[.int, (.array (.object "java/lang/Object")), .int]
  staticTypes := #[.long, .int, (.array (.object "java/lang/Object")), (.array (.object "java/lang/Object"))]
  resolved := Array.replicate 509 none
  statics := some 2 }

def pool21 : Array CpInfo := pool [(1, .methodref 2 3), (0, .class_ 4), (0, .nameAndType 5 6), (0, u "java/lang/Object"), (0, u "<init>"), (0, u "()V"), (1, .class_ 10), (1, u "java/lang/Number"), (2, .class_ 14), (0, u "java/io/Serializable"), (0, u "serialVersionUID"), (0, u "J")] 20

def k21c0 : Code := { maxStack := 1, maxLocals := 1, code := jdk_18_method_1_code, exceptionTable := #[], attributes := #[] }
def k21m0 : Method := { name := "<init>", desc := "()V", sig := { parameters := [], returnType := none }, accessFlags := 1, code := some k21c0 }
/-- java/lang/Number -/
def k21 : Class := { plain "java/lang/Number" (some 0) with
  accessFlags := 1057
  interfaces := #[4]
  cf := some (fileOf pool21 8 #[] #[{ accessFlags := 1, nameIndex := 5, descriptorIndex := 6, attributes := #[] }] 1057 2 #[13] #[{ accessFlags := 26, nameIndex := 15, descriptorIndex := 16, attributes := #[] }])
  fields := #[{ name := "serialVersionUID", type := .long, accessFlags := 26, slot := 0, constantValue := 0 }]
  methods := #[k21m0]
  instanceTypes := #[]
  staticTypes := #[.long]
  resolved := Array.replicate 37 none
  statics := none }

def pool22 : Array CpInfo := pool [(1, .class_ 2), (0, u "java/lang/Integer"), (16, u "digits"), (0, u "[C"), (46, u "<init>"), (17, u "DigitOnes"), (0, u "[B"), (2, u "DigitTens"), (10, .nameAndType 67 101), (0, u "()V"), (85, u "valueOf"), (0, u "(I)Ljava/lang/Integer;"), (0, .class_ 190), (0, u "java/lang/Integer$IntegerCache"), (0, .fieldref 189 192), (0, .nameAndType 193 194), (0, u "high"), (0, u "I"), (0, .fieldref 189 196), (0, .nameAndType 197 198), (0, u "cache"), (0, u "[Ljava/lang/Integer;"), (0, .methodref 1 200), (0, .nameAndType 67 201), (0, u "(I)V"), (0, .methodref 203 100), (0, .class_ 204), (0, u "java/lang/Number"), (0, .fieldref 1 206), (0, .nameAndType 207 194), (0, u "value"), (94, u "TYPE"), (0, u "Ljava/lang/Class;"), (0, .class_ 305), (0, u "java/lang/Comparable"), (0, .class_ 307), (0, u "java/lang/constant/Constable"), (0, .class_ 309), (0, u "java/lang/constant/ConstantDesc"), (0, u "MIN_VALUE"), (1, u "MAX_VALUE"), (3, u "SIZE"), (1, u "BYTES"), (1, u "serialVersionUID"), (0, u "J")] 131

def k22c0 : Code := { maxStack := 3, maxLocals := 1, code := jdk_33_method_22_code, exceptionTable := #[], attributes := #[] }
def k22m0 : Method := { name := "valueOf", desc := "(I)Ljava/lang/Integer;", sig := { parameters := [.int], returnType := some (.object "java/lang/Integer") }, accessFlags := 9, code := some k22c0 }
def k22c1 : Code := { maxStack := 2, maxLocals := 2, code := jdk_33_method_23_code, exceptionTable := #[], attributes := #[] }
def k22m1 : Method := { name := "<init>", desc := "(I)V", sig := { parameters := [.int], returnType := none }, accessFlags := 1, code := some k22c1 }
/-- java/lang/Integer -/
def k22 : Class := { plain "java/lang/Integer" (some 21) with
  accessFlags := 49
  interfaces := #[5, 7, 8]
  cf := some (fileOf pool22 1 #[.nestMembers #[189]] #[{ accessFlags := 9, nameIndex := 187, descriptorIndex := 188, attributes := #[] }, { accessFlags := 1, nameIndex := 67, descriptorIndex := 201, attributes := #[] }] 49 203 #[304, 306, 308] #[{ accessFlags := 25, nameIndex := 310, descriptorIndex := 194, attributes := #[] }, { accessFlags := 25, nameIndex := 312, descriptorIndex := 194, attributes := #[] }, { accessFlags := 25, nameIndex := 302, descriptorIndex := 303, attributes := #[] }, { accessFlags := 24, nameIndex := 19, descriptorIndex := 20, attributes := #[] }, { accessFlags := 24, nameIndex := 89, descriptorIndex := 86, attributes := #[] }, { accessFlags := 24, nameIndex := 85, descriptorIndex := 86, attributes := #[] }, { accessFlags := 18, nameIndex := 207, descriptorIndex := 194, attributes := #[] }, { accessFlags := 25, nameIndex := 316, descriptorIndex := 194, attributes := #[] }, { accessFlags := 25, nameIndex := 318, descriptorIndex := 194, attributes := #[] }, { accessFlags := 26, nameIndex := 320, descriptorIndex := 321, attributes := #[] }])
  fields := #[{ name := "MIN_VALUE", type := .int, accessFlags := 25, slot := 0, constantValue := 0 }, { name := "MAX_VALUE", type := .int, accessFlags := 25, slot := 1, constantValue := 0 }, { name := "TYPE", type := (.object "java/lang/Class"), accessFlags := 25, slot := 2, constantValue := 0 }, { name := "digits", type := (.array .char), accessFlags := 24, slot := 3, constantValue := 0 }, { name := "DigitTens", type := (.array .byte), accessFlags := 24, slot := 4, constantValue := 0 }, { name := "DigitOnes", type := (.array .byte), accessFlags := 24, slot := 5, constantValue := 0 }, { name := "value", type := .int, accessFlags := 18, slot := 0, constantValue := 0 }, { name := "SIZE", type := .int, accessFlags := 25, slot := 6, constantValue := 0 }, { name := "BYTES", type := .int, accessFlags := 25, slot := 7, constantValue := 0 }, { name := "serialVersionUID", type := .long, accessFlags := 26, slot := 8, constantValue := 0 }]
  methods := #[k22m0, k22m1]
  instanceTypes := #[.int]
  staticTypes := #[.int, .int, (.object "java/lang/Class"), (.array .char), (.array .byte), (.array .byte), .int, .int, .long]
  resolved := Array.replicate 453 none
  statics := none }

def pool23 : Array CpInfo := pool [(2, .class_ 4), (1, u "java/lang/Object"), (0, u "<init>"), (0, u "()V"), (0, .class_ 8), (0, u "java/lang/Integer"), (7, .class_ 18), (1, u "java/lang/Integer$IntegerCache"), (0, u "$assertionsDisabled"), (0, u "Z"), (26, u "high"), (0, u "I"), (8, u "archivedCache"), (0, u "[Ljava/lang/Integer;"), (12, u "cache"), (0, u "low")] 27

def k23m0 : Method := { name := "<init>", desc := "()V", sig := { parameters := [], returnType := none }, accessFlags := 2, code := none }
/-- java/lang/Integer$IntegerCache -/
def k23 : Class := { plain "java/lang/Integer$IntegerCache" (some 0) with
  accessFlags := 48
  interfaces := #[]
  cf := some (fileOf pool23 16 #[.nestHost 7] #[{ accessFlags := 2, nameIndex := 5, descriptorIndex := 6, attributes := #[] }] 48 2 #[] #[{ accessFlags := 24, nameIndex := 72, descriptorIndex := 48, attributes := #[] }, { accessFlags := 24, nameIndex := 47, descriptorIndex := 48, attributes := #[] }, { accessFlags := 24, nameIndex := 71, descriptorIndex := 58, attributes := #[] }, { accessFlags := 8, nameIndex := 57, descriptorIndex := 58, attributes := #[] }, { accessFlags := 4120, nameIndex := 19, descriptorIndex := 20, attributes := #[] }])
  fields := #[{ name := "low", type := .int, accessFlags := 24, slot := 0, constantValue := 0 }, { name := "high", type := .int, accessFlags := 24, slot := 1, constantValue := 0 }, { name := "cache", type := (.array (.object "java/lang/Integer")), accessFlags := 24, slot := 2, constantValue := 0 }, { name := "archivedCache", type := (.array (.object "java/lang/Integer")), accessFlags := 8, slot := 3, constantValue := 0 }, { name := "$assertionsDisabled", type := .boolean, accessFlags := 4120, slot := 4, constantValue := 0 }]
  methods := #[k23m0]
  instanceTypes := #[]
  staticTypes := #[.int, .int, (.array (.object "java/lang/Integer")), (.array (.object "java/lang/Integer")), .boolean]
  resolved := Array.replicate 100 none
  statics := some 3 }

def pool24 : Array CpInfo := pool [(1, .class_ 2), (0, u "java/lang/Math"), (1, .class_ 6), (1, u "java/lang/Object"), (0, u "<init>"), (0, u "()V"), (89, .class_ 100), (1, u "java/lang/Math$RandomNumberGeneratorHolder"), (71, u "negativeZeroFloatBits"), (0, u "J"), (2, u "negativeZeroDoubleBits"), (21, u "max"), (46, u "$assertionsDisabled"), (0, u "Z"), (88, u "(II)I"), (2, u "twoToTheDoubleScaleDown"), (0, u "D"), (4, u "twoToTheDoubleScaleUp"), (9, u "E"), (3, u "PI"), (2, u "TAU"), (2, u "DEGREES_TO_RADIANS"), (0, u "RADIANS_TO_DEGREES")] 94

def k24m0 : Method := { name := "<init>", desc := "()V", sig := { parameters := [], returnType := none }, accessFlags := 2, code := none }
def k24c1 : Code := { maxStack := 2, maxLocals := 2, code := jdk_29_method_65_code, exceptionTable := #[], attributes := #[] }
def k24m1 : Method := { name := "max", desc := "(II)I", sig := { parameters := [.int, .int], returnType := some .int }, accessFlags := 9, code := some k24c1 }
/-- java/lang/Math -/
def k24 : Class := { plain "java/lang/Math" (some 0) with
  accessFlags := 49
  interfaces := #[]
  cf := some (fileOf pool24 1 #[.nestMembers #[98]] #[{ accessFlags := 2, nameIndex := 7, descriptorIndex := 8, attributes := #[] }, { accessFlags := 9, nameIndex := 198, descriptorIndex := 335, attributes := #[] }] 49 4 #[] #[{ accessFlags := 25, nameIndex := 354, descriptorIndex := 339, attributes := #[] }, { accessFlags := 25, nameIndex := 358, descriptorIndex := 339, attributes := #[] }, { accessFlags := 25, nameIndex := 361, descriptorIndex := 339, attributes := #[] }, { accessFlags := 26, nameIndex := 364, descriptorIndex := 339, attributes := #[] }, { accessFlags := 26, nameIndex := 365, descriptorIndex := 339, attributes := #[] }, { accessFlags := 26, nameIndex := 172, descriptorIndex := 173, attributes := #[] }, { accessFlags := 26, nameIndex := 176, descriptorIndex := 173, attributes := #[] }, { accessFlags := 8, nameIndex := 344, descriptorIndex := 339, attributes := #[] }, { accessFlags := 8, nameIndex := 338, descriptorIndex := 339, attributes := #[] }, { accessFlags := 4120, nameIndex := 245, descriptorIndex := 246, attributes := #[] }])
  fields := #[{ name := "E", type := .double, accessFlags := 25, slot := 0, constantValue := 0 }, { name := "PI", type := .double, accessFlags := 25, slot := 1, constantValue := 0 }, { name := "TAU", type := .double, accessFlags := 25, slot := 2, constantValue := 0 }, { name := "DEGREES_TO_RADIANS", type := .double, accessFlags := 26, slot := 3, constantValue := 0 }, { name := "RADIANS_TO_DEGREES", type := .double, accessFlags := 26, slot := 4, constantValue := 0 }, { name := "negativeZeroFloatBits", type := .long, accessFlags := 26, slot := 5, constantValue := 0 }, { name := "negativeZeroDoubleBits", type := .long, accessFlags := 26, slot := 6, constantValue := 0 }, { name := "twoToTheDoubleScaleUp", type := .double, accessFlags := 8, slot := 7, constantValue := 0 }, { name := "twoToTheDoubleScaleDown", type := .double, accessFlags := 8, slot := 8, constantValue := 0 }, { name := "$assertionsDisabled", type := .boolean, accessFlags := 4120, slot := 9, constantValue := 0 }]
  methods := #[k24m0, k24m1]
  instanceTypes := #[]
  staticTypes := #[.double, .double, .double, .double, .double, .long, .long, .double, .double, .boolean]
  resolved := Array.replicate 460 none
  statics := none }

def pool25 : Array CpInfo := pool [(6, .class_ 8), (1, u "java/lang/Object"), (0, u "<init>"), (0, u "()V"), (1, .class_ 14), (1, u "java/lang/StringUTF16"), (31, u "$assertionsDisabled"), (0, u "Z"), (13, u "HI_BYTE_SHIFT"), (0, u "I"), (2, u "LO_BYTE_SHIFT"), (49, .methodref 12 116), (0, .nameAndType 117 118), (0, u "compress"), (0, u "([CI[BII)I"), (3, u "([CII)[B"), (138, u "coderFromArrayLen"), (0, u "([BI)B"), (106, .class_ 371), (1, u "java/lang/StringUTF16$LinesSpliterator"), (58, u "MAX_LENGTH"), (196, .class_ 628), (0, u "java/lang/StringUTF16$CodePointsSpliterator"), (0, .class_ 630), (0, u "java/lang/StringUTF16$CharsSpliterator")] 4

def k25m0 : Method := { name := "<init>", desc := "()V", sig := { parameters := [], returnType := none }, accessFlags := 0, code := none }
def k25c1 : Code := { maxStack := 2, maxLocals := 2, code := jdk_52_method_15_code, exceptionTable := #[], attributes := #[] }
def k25m1 : Method := { name := "coderFromArrayLen", desc := "([BI)B", sig := { parameters := [(.array .byte), .int], returnType := some .byte }, accessFlags := 8, code := some k25c1 }
def k25c2 : Code := { maxStack := 5, maxLocals := 6, code := jdk_52_method_16_code, exceptionTable := #[], attributes := #[] }
def k25m2 : Method := { name := "compress", desc := "([CII)[B", sig := { parameters := [(.array .char), .int, .int], returnType := some (.array .byte) }, accessFlags := 9, code := some k25c2 }
def k25c3 : Code := { maxStack := 3, maxLocals := 7, code := jdk_52_method_21_code, exceptionTable := #[], attributes := #[] }
def k25m3 : Method := { name := "compress", desc := "([CI[BII)I", sig := { parameters := [(.array .char), .int, (.array .byte), .int, .int], returnType := some .int }, accessFlags := 9, code := some k25c3 }
/-- java/lang/StringUTF16 -/
def k25 : Class := { plain "java/lang/StringUTF16" (some 0) with
  accessFlags := 48
  interfaces := #[]
  cf := some (fileOf pool25 12 #[.nestMembers #[627, 629, 369]] #[{ accessFlags := 0, nameIndex := 9, descriptorIndex := 10, attributes := #[] }, { accessFlags := 8, nameIndex := 261, descriptorIndex := 262, attributes := #[] }, { accessFlags := 9, nameIndex := 117, descriptorIndex := 122, attributes := #[] }, { accessFlags := 9, nameIndex := 117, descriptorIndex := 118, attributes := #[] }] 48 6 #[] #[{ accessFlags := 26, nameIndex := 61, descriptorIndex := 62, attributes := #[] }, { accessFlags := 26, nameIndex := 65, descriptorIndex := 62, attributes := #[] }, { accessFlags := 24, nameIndex := 430, descriptorIndex := 62, attributes := #[] }, { accessFlags := 4120, nameIndex := 46, descriptorIndex := 47, attributes := #[] }])
  fields := #[{ name := "HI_BYTE_SHIFT", type := .int, accessFlags := 26, slot := 0, constantValue := 0 }, { name := "LO_BYTE_SHIFT", type := .int, accessFlags := 26, slot := 1, constantValue := 0 }, { name := "MAX_LENGTH", type := .int, accessFlags := 24, slot := 2, constantValue := 0 }, { name := "$assertionsDisabled", type := .boolean, accessFlags := 4120, slot := 3, constantValue := 0 }]
  methods := #[k25m0, k25m1, k25m2, k25m3]
  instanceTypes := #[]
  staticTypes := #[.int, .int, .int, .boolean]
  resolved := Array.replicate 635 none
  statics := none }

def pool26 : Array CpInfo := pool [(9, u "<init>"), (6, .class_ 18), (1, u "java/lang/Object"), (0, u "()V"), (1, .class_ 23), (1, u "jdk/internal/util/ArraysSupport"), (0, u "LOG2_ARRAY_LONG_INDEX_SCALE"), (0, u "I"), (2, u "U"), (0, u "Ljdk/internal/misc/Unsafe;"), (8, u "BIG_ENDIAN"), (0, u "Z"), (8, u "LOG2_BYTE_BIT_SIZE"), (4, u "LOG2_ARRAY_INT_INDEX_SCALE"), (54, u "JLA"), (0, u "Ljdk/internal/access/JavaLangAccess;"), (11, u "LOG2_ARRAY_BOOLEAN_INDEX_SCALE"), (9, u "LOG2_ARRAY_BYTE_INDEX_SCALE"), (5, u "LOG2_ARRAY_CHAR_INDEX_SCALE"), (5, u "LOG2_ARRAY_SHORT_INDEX_SCALE"), (18, u "LOG2_ARRAY_FLOAT_INDEX_SCALE"), (24, u "LOG2_ARRAY_DOUBLE_INDEX_SCALE"), (89, u "T_BOOLEAN"), (2, u "T_CHAR"), (1, u "T_FLOAT"), (1, u "T_DOUBLE"), (1, u "T_BYTE"), (1, u "T_SHORT"), (1, u "T_INT"), (1, u "T_LONG"), (1, u "SOFT_MAX_ARRAY_LENGTH")] 83

def k26m0 : Method := { name := "<init>", desc := "()V", sig := { parameters := [], returnType := none }, accessFlags := 2, code := none }
/-- jdk/internal/util/ArraysSupport -/
def k26 : Class := { plain "jdk/internal/util/ArraysSupport" (some 0) with
  accessFlags := 33
  interfaces := #[]
  cf := some (fileOf pool26 21 #[] #[{ accessFlags := 2, nameIndex := 9, descriptorIndex := 19, attributes := #[] }] 33 16 #[] #[{ accessFlags := 24, nameIndex := 28, descriptorIndex := 29, attributes := #[] }, { accessFlags := 26, nameIndex := 38, descriptorIndex := 39, attributes := #[] }, { accessFlags := 25, nameIndex := 121, descriptorIndex := 25, attributes := #[] }, { accessFlags := 25, nameIndex := 131, descriptorIndex := 25, attributes := #[] }, { accessFlags := 25, nameIndex := 137, descriptorIndex := 25, attributes := #[] }, { accessFlags := 25, nameIndex := 143, descriptorIndex := 25, attributes := #[] }, { accessFlags := 25, nameIndex := 53, descriptorIndex := 25, attributes := #[] }, { accessFlags := 25, nameIndex := 24, descriptorIndex := 25, attributes := #[] }, { accessFlags := 25, nameIndex := 162, descriptorIndex := 25, attributes := #[] }, { accessFlags := 25, nameIndex := 187, descriptorIndex := 25, attributes := #[] }, { accessFlags := 26, nameIndex := 48, descriptorIndex := 25, attributes := #[] }, { accessFlags := 25, nameIndex := 277, descriptorIndex := 25, attributes := #[] }, { accessFlags := 25, nameIndex := 280, descriptorIndex := 25, attributes := #[] }, { accessFlags := 25, nameIndex := 282, descriptorIndex := 25, attributes := #[] }, { accessFlags := 25, nameIndex := 284, descriptorIndex := 25, attributes := #[] }, { accessFlags := 25, nameIndex := 286, descriptorIndex := 25, attributes := #[] }, { accessFlags := 25, nameIndex := 288, descriptorIndex := 25, attributes := #[] }, { accessFlags := 25, nameIndex := 290, descriptorIndex := 25, attributes := #[] }, { accessFlags := 25, nameIndex := 292, descriptorIndex := 25, attributes := #[] }, { accessFlags := 26, nameIndex := 108, descriptorIndex := 109, attributes := #[] }, { accessFlags := 25, nameIndex := 294, descriptorIndex := 25, attributes := #[] }])
  fields := #[{ name := "U", type := (.object "jdk/internal/misc/Unsafe"), accessFlags := 24, slot := 0, constantValue := 0 }, { name := "BIG_ENDIAN", type := .boolean, accessFlags := 26, slot := 1, constantValue := 0 }, { name := "LOG2_ARRAY_BOOLEAN_INDEX_SCALE", type := .int, accessFlags := 25, slot := 2, constantValue := 0 }, { name := "LOG2_ARRAY_BYTE_INDEX_SCALE", type := .int, accessFlags := 25, slot := 3, constantValue := 0 }, { name := "LOG2_ARRAY_CHAR_INDEX_SCALE", type := .int, accessFlags := 25, slot := 4, constantValue := 0 }, { name := "LOG2_ARRAY_SHORT_INDEX_SCALE", type := .int, accessFlags := 25, slot := 5, constantValue := 0 }, { name := "LOG2_ARRAY_INT_INDEX_SCALE", type := .int, accessFlags := 25, slot := 6, constantValue := 0 }, { name := "LOG2_ARRAY_LONG_INDEX_SCALE", type := .int, accessFlags := 25, slot := 7, constantValue := 0 }, { name := "LOG2_ARRAY_FLOAT_INDEX_SCALE", type := .int, accessFlags := 25, slot := 8, constantValue := 0 }, { name := "LOG2_ARRAY_DOUBLE_INDEX_SCALE", type := .int, accessFlags := 25, slot := 9, constantValue := 0 }, { name := "LOG2_BYTE_BIT_SIZE", type := .int, accessFlags := 26, slot := 10, constantValue := 0 }, { name := "T_BOOLEAN", type := .int, accessFlags := 25, slot := 11, constantValue := 0 }, { name := "T_CHAR", type := .int, accessFlags := 25, slot := 12, constantValue := 0 }, { name := "T_FLOAT", type := .int, accessFlags := 25, slot := 13, constantValue := 0 }, { name := "T_DOUBLE", type := .int, accessFlags := 25, slot := 14, constantValue := 0 }, { name := "T_BYTE", type := .int, accessFlags := 25, slot := 15, constantValue := 0 }, { name := "T_SHORT", type := .int, accessFlags := 25, slot := 16, constantValue := 0 }, { name := "T_INT", type := .int, accessFlags := 25, slot := 17, constantValue := 0 }, { name := "T_LONG", type := .int, accessFlags := 25, slot := 18, constantValue := 0 }, { name := "JLA", type := (.object "jdk/internal/access/JavaLangAccess"), accessFlags := 26, slot := 19, constantValue := 0 }, { name := "SOFT_MAX_ARRAY_LENGTH", type := .int, accessFlags := 25, slot := 20, constantValue := 0 }]
  methods := #[k26m0]
  instanceTypes := #[]
  staticTypes := #[(.object "jdk/internal/misc/Unsafe"), .boolean, .int, .int, .int, .int, .int, .int, .int, .int, .int, .int, .int, .int, .int, .int, .int, .int, .int, (.object "jdk/internal/access/JavaLangAccess"), .int]
  resolved := Array.replicate 378 none
  statics := none }

/-- the primitive byte -/
def k27 : Class := { plain "byte" none with kind := .primitive 'B', accessFlags := 0x411 }
/-- [B -/
def k28 : Class := { plain "[B" (some 0) with kind := .array 27 .byte, interfaces := #[19, 4], accessFlags := 1041 }

/-- the primitive char -/
def k29 : Class := { plain "char" none with kind := .primitive 'C', accessFlags := 0x411 }
/-- [C -/
def k30 : Class := { plain "[C" (some 0) with kind := .array 29 .char, interfaces := #[19, 4], accessFlags := 1041 }

/-- the primitive int -/
def k31 : Class := { plain "int" none with kind := .primitive 'I', accessFlags := 0x411 }
/-- [I -/
def k32 : Class := { plain "[I" (some 0) with kind := .array 31 .int, interfaces := #[19, 4], accessFlags := 1041 }

/-- [Ljava/lang/Integer; -/
def k33 : Class := { plain "[Ljava/lang/Integer;" (some 0) with kind := .array 22 (.object "java/lang/Integer"), interfaces := #[19, 4], accessFlags := 1041 }

/-- [Ljava/lang/Object; -/
def k34 : Class := { plain "[Ljava/lang/Object;" (some 0) with kind := .array 0 (.object "java/lang/Object"), interfaces := #[19, 4], accessFlags := 1041 }

def heap : Heap := #[{ cls := 9, slots := #[.long 0, .int 1, .null, .int 0, .null, .int 0, .int 0], vm := .statics 9 },
  { cls := 11, slots := #[.null, .null, .null], vm := .statics 11 },
  { cls := 20, slots := #[.long 0, .int 0, .ref 261, .ref 262], vm := .statics 20 },
  { cls := 23, slots := #[.int 0, .int 127, .ref 4, .null, .int 0], vm := .statics 23 },
  { cls := 33, slots := #[.ref 5, .ref 6, .ref 7, .ref 8, .ref 9, .ref 10, .ref 11, .ref 12, .ref 13, .ref 14, .ref 15, .ref 16, .ref 17, .ref 18, .ref 19, .ref 20, .ref 21, .ref 22, .ref 23, .ref 24, .ref 25, .ref 26, .ref 27, .ref 28, .ref 29, .ref 30, .ref 31, .ref 32, .ref 33, .ref 34, .ref 35, .ref 36, .ref 37, .ref 38, .ref 39, .ref 40, .ref 41, .ref 42, .ref 43, .ref 44, .ref 45, .ref 46, .ref 47, .ref 48, .ref 49, .ref 50, .ref 51, .ref 52, .ref 53, .ref 54, .ref 55, .ref 56, .ref 57, .ref 58, .ref 59, .ref 60, .ref 61, .ref 62, .ref 63, .ref 64, .ref 65, .ref 66, .ref 67, .ref 68, .ref 69, .ref 70, .ref 71, .ref 72, .ref 73, .ref 74, .ref 75, .ref 76, .ref 77, .ref 78, .ref 79, .ref 80, .ref 81, .ref 82, .ref 83, .ref 84, .ref 85, .ref 86, .ref 87, .ref 88, .ref 89, .ref 90, .ref 91, .ref 92, .ref 93, .ref 94, .ref 95, .ref 96, .ref 97, .ref 98, .ref 99, .ref 100, .ref 101, .ref 102, .ref 103, .ref 104, .ref 105, .ref 106, .ref 107, .ref 108, .ref 109, .ref 110, .ref 111, .ref 112, .ref 113, .ref 114, .ref 115, .ref 116, .ref 117, .ref 118, .ref 119, .ref 120, .ref 121, .ref 122, .ref 123, .ref 124, .ref 125, .ref 126, .ref 127, .ref 128, .ref 129, .ref 130, .ref 131, .ref 132, .ref 133, .ref 134, .ref 135, .ref 136, .ref 137, .ref 138, .ref 139, .ref 140, .ref 141, .ref 142, .ref 143, .ref 144, .ref 145, .ref 146, .ref 147, .ref 148, .ref 149, .ref 150, .ref 151, .ref 152, .ref 153, .ref 154, .ref 155, .ref 156, .ref 157, .ref 158, .ref 159, .ref 160, .ref 161, .ref 162, .ref 163, .ref 164, .ref 165, .ref 166, .ref 167, .ref 168, .ref 169, .ref 170, .ref 171, .ref 172, .ref 173, .ref 174, .ref 175, .ref 176, .ref 177, .ref 178, .ref 179, .ref 180, .ref 181, .ref 182, .ref 183, .ref 184, .ref 185, .ref 186, .ref 187, .ref 188, .ref 189, .ref 190, .ref 191, .ref 192, .ref 193, .ref 194, .ref 195, .ref 196, .ref 197, .ref 198, .ref 199, .ref 200, .ref 201, .ref 202, .ref 203, .ref 204, .ref 205, .ref 206, .ref 207, .ref 208, .ref 209, .ref 210, .ref 211, .ref 212, .ref 213, .ref 214, .ref 215, .ref 216, .ref 217, .ref 218, .ref 219, .ref 220, .ref 221, .ref 222, .ref 223, .ref 224, .ref 225, .ref 226, .ref 227, .ref 228, .ref 229, .ref 230, .ref 231, .ref 232, .ref 233, .ref 234, .ref 235, .ref 236, .ref 237, .ref 238, .ref 239, .ref 240, .ref 241, .ref 242, .ref 243, .ref 244, .ref 245, .ref 246, .ref 247, .ref 248, .ref 249, .ref 250, .ref 251, .ref 252, .ref 253, .ref 254, .ref 255, .ref 256, .ref 257, .ref 258, .ref 259, .ref 260], vm := .none },
  { cls := 22, slots := #[.int (-128)], vm := .none },
  { cls := 22, slots := #[.int (-127)], vm := .none },
  { cls := 22, slots := #[.int (-126)], vm := .none },
  { cls := 22, slots := #[.int (-125)], vm := .none },
  { cls := 22, slots := #[.int (-124)], vm := .none },
  { cls := 22, slots := #[.int (-123)], vm := .none },
  { cls := 22, slots := #[.int (-122)], vm := .none },
  { cls := 22, slots := #[.int (-121)], vm := .none },
  { cls := 22, slots := #[.int (-120)], vm := .none },
  { cls := 22, slots := #[.int (-119)], vm := .none },
  { cls := 22, slots := #[.int (-118)], vm := .none },
  { cls := 22, slots := #[.int (-117)], vm := .none },
  { cls := 22, slots := #[.int (-116)], vm := .none },
  { cls := 22, slots := #[.int (-115)], vm := .none },
  { cls := 22, slots := #[.int (-114)], vm := .none },
  { cls := 22, slots := #[.int (-113)], vm := .none },
  { cls := 22, slots := #[.int (-112)], vm := .none },
  { cls := 22, slots := #[.int (-111)], vm := .none },
  { cls := 22, slots := #[.int (-110)], vm := .none },
  { cls := 22, slots := #[.int (-109)], vm := .none },
  { cls := 22, slots := #[.int (-108)], vm := .none },
  { cls := 22, slots := #[.int (-107)], vm := .none },
  { cls := 22, slots := #[.int (-106)], vm := .none },
  { cls := 22, slots := #[.int (-105)], vm := .none },
  { cls := 22, slots := #[.int (-104)], vm := .none },
  { cls := 22, slots := #[.int (-103)], vm := .none },
  { cls := 22, slots := #[.int (-102)], vm := .none },
  { cls := 22, slots := #[.int (-101)], vm := .none },
  { cls := 22, slots := #[.int (-100)], vm := .none },
  { cls := 22, slots := #[.int (-99)], vm := .none },
  { cls := 22, slots := #[.int (-98)], vm := .none },
  { cls := 22, slots := #[.int (-97)], vm := .none },
  { cls := 22, slots := #[.int (-96)], vm := .none },
  { cls := 22, slots := #[.int (-95)], vm := .none },
  { cls := 22, slots := #[.int (-94)], vm := .none },
  { cls := 22, slots := #[.int (-93)], vm := .none },
  { cls := 22, slots := #[.int (-92)], vm := .none },
  { cls := 22, slots := #[.int (-91)], vm := .none },
  { cls := 22, slots := #[.int (-90)], vm := .none },
  { cls := 22, slots := #[.int (-89)], vm := .none },
  { cls := 22, slots := #[.int (-88)], vm := .none },
  { cls := 22, slots := #[.int (-87)], vm := .none },
  { cls := 22, slots := #[.int (-86)], vm := .none },
  { cls := 22, slots := #[.int (-85)], vm := .none },
  { cls := 22, slots := #[.int (-84)], vm := .none },
  { cls := 22, slots := #[.int (-83)], vm := .none },
  { cls := 22, slots := #[.int (-82)], vm := .none },
  { cls := 22, slots := #[.int (-81)], vm := .none },
  { cls := 22, slots := #[.int (-80)], vm := .none },
  { cls := 22, slots := #[.int (-79)], vm := .none },
  { cls := 22, slots := #[.int (-78)], vm := .none },
  { cls := 22, slots := #[.int (-77)], vm := .none },
  { cls := 22, slots := #[.int (-76)], vm := .none },
  { cls := 22, slots := #[.int (-75)], vm := .none },
  { cls := 22, slots := #[.int (-74)], vm := .none },
  { cls := 22, slots := #[.int (-73)], vm := .none },
  { cls := 22, slots := #[.int (-72)], vm := .none },
  { cls := 22, slots := #[.int (-71)], vm := .none },
  { cls := 22, slots := #[.int (-70)], vm := .none },
  { cls := 22, slots := #[.int (-69)], vm := .none },
  { cls := 22, slots := #[.int (-68)], vm := .none },
  { cls := 22, slots := #[.int (-67)], vm := .none },
  { cls := 22, slots := #[.int (-66)], vm := .none },
  { cls := 22, slots := #[.int (-65)], vm := .none },
  { cls := 22, slots := #[.int (-64)], vm := .none },
  { cls := 22, slots := #[.int (-63)], vm := .none },
  { cls := 22, slots := #[.int (-62)], vm := .none },
  { cls := 22, slots := #[.int (-61)], vm := .none },
  { cls := 22, slots := #[.int (-60)], vm := .none },
  { cls := 22, slots := #[.int (-59)], vm := .none },
  { cls := 22, slots := #[.int (-58)], vm := .none },
  { cls := 22, slots := #[.int (-57)], vm := .none },
  { cls := 22, slots := #[.int (-56)], vm := .none },
  { cls := 22, slots := #[.int (-55)], vm := .none },
  { cls := 22, slots := #[.int (-54)], vm := .none },
  { cls := 22, slots := #[.int (-53)], vm := .none },
  { cls := 22, slots := #[.int (-52)], vm := .none },
  { cls := 22, slots := #[.int (-51)], vm := .none },
  { cls := 22, slots := #[.int (-50)], vm := .none },
  { cls := 22, slots := #[.int (-49)], vm := .none },
  { cls := 22, slots := #[.int (-48)], vm := .none },
  { cls := 22, slots := #[.int (-47)], vm := .none },
  { cls := 22, slots := #[.int (-46)], vm := .none },
  { cls := 22, slots := #[.int (-45)], vm := .none },
  { cls := 22, slots := #[.int (-44)], vm := .none },
  { cls := 22, slots := #[.int (-43)], vm := .none },
  { cls := 22, slots := #[.int (-42)], vm := .none },
  { cls := 22, slots := #[.int (-41)], vm := .none },
  { cls := 22, slots := #[.int (-40)], vm := .none },
  { cls := 22, slots := #[.int (-39)], vm := .none },
  { cls := 22, slots := #[.int (-38)], vm := .none },
  { cls := 22, slots := #[.int (-37)], vm := .none },
  { cls := 22, slots := #[.int (-36)], vm := .none },
  { cls := 22, slots := #[.int (-35)], vm := .none },
  { cls := 22, slots := #[.int (-34)], vm := .none },
  { cls := 22, slots := #[.int (-33)], vm := .none },
  { cls := 22, slots := #[.int (-32)], vm := .none },
  { cls := 22, slots := #[.int (-31)], vm := .none },
  { cls := 22, slots := #[.int (-30)], vm := .none },
  { cls := 22, slots := #[.int (-29)], vm := .none },
  { cls := 22, slots := #[.int (-28)], vm := .none },
  { cls := 22, slots := #[.int (-27)], vm := .none },
  { cls := 22, slots := #[.int (-26)], vm := .none },
  { cls := 22, slots := #[.int (-25)], vm := .none },
  { cls := 22, slots := #[.int (-24)], vm := .none },
  { cls := 22, slots := #[.int (-23)], vm := .none },
  { cls := 22, slots := #[.int (-22)], vm := .none },
  { cls := 22, slots := #[.int (-21)], vm := .none },
  { cls := 22, slots := #[.int (-20)], vm := .none },
  { cls := 22, slots := #[.int (-19)], vm := .none },
  { cls := 22, slots := #[.int (-18)], vm := .none },
  { cls := 22, slots := #[.int (-17)], vm := .none },
  { cls := 22, slots := #[.int (-16)], vm := .none },
  { cls := 22, slots := #[.int (-15)], vm := .none },
  { cls := 22, slots := #[.int (-14)], vm := .none },
  { cls := 22, slots := #[.int (-13)], vm := .none },
  { cls := 22, slots := #[.int (-12)], vm := .none },
  { cls := 22, slots := #[.int (-11)], vm := .none },
  { cls := 22, slots := #[.int (-10)], vm := .none },
  { cls := 22, slots := #[.int (-9)], vm := .none },
  { cls := 22, slots := #[.int (-8)], vm := .none },
  { cls := 22, slots := #[.int (-7)], vm := .none },
  { cls := 22, slots := #[.int (-6)], vm := .none },
  { cls := 22, slots := #[.int (-5)], vm := .none },
  { cls := 22, slots := #[.int (-4)], vm := .none },
  { cls := 22, slots := #[.int (-3)], vm := .none },
  { cls := 22, slots := #[.int (-2)], vm := .none },
  { cls := 22, slots := #[.int (-1)], vm := .none },
  { cls := 22, slots := #[.int 0], vm := .none },
  { cls := 22, slots := #[.int 1], vm := .none },
  { cls := 22, slots := #[.int 2], vm := .none },
  { cls := 22, slots := #[.int 3], vm := .none },
  { cls := 22, slots := #[.int 4], vm := .none },
  { cls := 22, slots := #[.int 5], vm := .none },
  { cls := 22, slots := #[.int 6], vm := .none },
  { cls := 22, slots := #[.int 7], vm := .none },
  { cls := 22, slots := #[.int 8], vm := .none },
  { cls := 22, slots := #[.int 9], vm := .none },
  { cls := 22, slots := #[.int 10], vm := .none },
  { cls := 22, slots := #[.int 11], vm := .none },
  { cls := 22, slots := #[.int 12], vm := .none },
  { cls := 22, slots := #[.int 13], vm := .none },
  { cls := 22, slots := #[.int 14], vm := .none },
  { cls := 22, slots := #[.int 15], vm := .none },
  { cls := 22, slots := #[.int 16], vm := .none },
  { cls := 22, slots := #[.int 17], vm := .none },
  { cls := 22, slots := #[.int 18], vm := .none },
  { cls := 22, slots := #[.int 19], vm := .none },
  { cls := 22, slots := #[.int 20], vm := .none },
  { cls := 22, slots := #[.int 21], vm := .none },
  { cls := 22, slots := #[.int 22], vm := .none },
  { cls := 22, slots := #[.int 23], vm := .none },
  { cls := 22, slots := #[.int 24], vm := .none },
  { cls := 22, slots := #[.int 25], vm := .none },
  { cls := 22, slots := #[.int 26], vm := .none },
  { cls := 22, slots := #[.int 27], vm := .none },
  { cls := 22, slots := #[.int 28], vm := .none },
  { cls := 22, slots := #[.int 29], vm := .none },
  { cls := 22, slots := #[.int 30], vm := .none },
  { cls := 22, slots := #[.int 31], vm := .none },
  { cls := 22, slots := #[.int 32], vm := .none },
  { cls := 22, slots := #[.int 33], vm := .none },
  { cls := 22, slots := #[.int 34], vm := .none },
  { cls := 22, slots := #[.int 35], vm := .none },
  { cls := 22, slots := #[.int 36], vm := .none },
  { cls := 22, slots := #[.int 37], vm := .none },
  { cls := 22, slots := #[.int 38], vm := .none },
  { cls := 22, slots := #[.int 39], vm := .none },
  { cls := 22, slots := #[.int 40], vm := .none },
  { cls := 22, slots := #[.int 41], vm := .none },
  { cls := 22, slots := #[.int 42], vm := .none },
  { cls := 22, slots := #[.int 43], vm := .none },
  { cls := 22, slots := #[.int 44], vm := .none },
  { cls := 22, slots := #[.int 45], vm := .none },
  { cls := 22, slots := #[.int 46], vm := .none },
  { cls := 22, slots := #[.int 47], vm := .none },
  { cls := 22, slots := #[.int 48], vm := .none },
  { cls := 22, slots := #[.int 49], vm := .none },
  { cls := 22, slots := #[.int 50], vm := .none },
  { cls := 22, slots := #[.int 51], vm := .none },
  { cls := 22, slots := #[.int 52], vm := .none },
  { cls := 22, slots := #[.int 53], vm := .none },
  { cls := 22, slots := #[.int 54], vm := .none },
  { cls := 22, slots := #[.int 55], vm := .none },
  { cls := 22, slots := #[.int 56], vm := .none },
  { cls := 22, slots := #[.int 57], vm := .none },
  { cls := 22, slots := #[.int 58], vm := .none },
  { cls := 22, slots := #[.int 59], vm := .none },
  { cls := 22, slots := #[.int 60], vm := .none },
  { cls := 22, slots := #[.int 61], vm := .none },
  { cls := 22, slots := #[.int 62], vm := .none },
  { cls := 22, slots := #[.int 63], vm := .none },
  { cls := 22, slots := #[.int 64], vm := .none },
  { cls := 22, slots := #[.int 65], vm := .none },
  { cls := 22, slots := #[.int 66], vm := .none },
  { cls := 22, slots := #[.int 67], vm := .none },
  { cls := 22, slots := #[.int 68], vm := .none },
  { cls := 22, slots := #[.int 69], vm := .none },
  { cls := 22, slots := #[.int 70], vm := .none },
  { cls := 22, slots := #[.int 71], vm := .none },
  { cls := 22, slots := #[.int 72], vm := .none },
  { cls := 22, slots := #[.int 73], vm := .none },
  { cls := 22, slots := #[.int 74], vm := .none },
  { cls := 22, slots := #[.int 75], vm := .none },
  { cls := 22, slots := #[.int 76], vm := .none },
  { cls := 22, slots := #[.int 77], vm := .none },
  { cls := 22, slots := #[.int 78], vm := .none },
  { cls := 22, slots := #[.int 79], vm := .none },
  { cls := 22, slots := #[.int 80], vm := .none },
  { cls := 22, slots := #[.int 81], vm := .none },
  { cls := 22, slots := #[.int 82], vm := .none },
  { cls := 22, slots := #[.int 83], vm := .none },
  { cls := 22, slots := #[.int 84], vm := .none },
  { cls := 22, slots := #[.int 85], vm := .none },
  { cls := 22, slots := #[.int 86], vm := .none },
  { cls := 22, slots := #[.int 87], vm := .none },
  { cls := 22, slots := #[.int 88], vm := .none },
  { cls := 22, slots := #[.int 89], vm := .none },
  { cls := 22, slots := #[.int 90], vm := .none },
  { cls := 22, slots := #[.int 91], vm := .none },
  { cls := 22, slots := #[.int 92], vm := .none },
  { cls := 22, slots := #[.int 93], vm := .none },
  { cls := 22, slots := #[.int 94], vm := .none },
  { cls := 22, slots := #[.int 95], vm := .none },
  { cls := 22, slots := #[.int 96], vm := .none },
  { cls := 22, slots := #[.int 97], vm := .none },
  { cls := 22, slots := #[.int 98], vm := .none },
  { cls := 22, slots := #[.int 99], vm := .none },
  { cls := 22, slots := #[.int 100], vm := .none },
  { cls := 22, slots := #[.int 101], vm := .none },
  { cls := 22, slots := #[.int 102], vm := .none },
  { cls := 22, slots := #[.int 103], vm := .none },
  { cls := 22, slots := #[.int 104], vm := .none },
  { cls := 22, slots := #[.int 105], vm := .none },
  { cls := 22, slots := #[.int 106], vm := .none },
  { cls := 22, slots := #[.int 107], vm := .none },
  { cls := 22, slots := #[.int 108], vm := .none },
  { cls := 22, slots := #[.int 109], vm := .none },
  { cls := 22, slots := #[.int 110], vm := .none },
  { cls := 22, slots := #[.int 111], vm := .none },
  { cls := 22, slots := #[.int 112], vm := .none },
  { cls := 22, slots := #[.int 113], vm := .none },
  { cls := 22, slots := #[.int 114], vm := .none },
  { cls := 22, slots := #[.int 115], vm := .none },
  { cls := 22, slots := #[.int 116], vm := .none },
  { cls := 22, slots := #[.int 117], vm := .none },
  { cls := 22, slots := #[.int 118], vm := .none },
  { cls := 22, slots := #[.int 119], vm := .none },
  { cls := 22, slots := #[.int 120], vm := .none },
  { cls := 22, slots := #[.int 121], vm := .none },
  { cls := 22, slots := #[.int 122], vm := .none },
  { cls := 22, slots := #[.int 123], vm := .none },
  { cls := 22, slots := #[.int 124], vm := .none },
  { cls := 22, slots := #[.int 125], vm := .none },
  { cls := 22, slots := #[.int 126], vm := .none },
  { cls := 22, slots := #[.int 127], vm := .none },
  { cls := 34, slots := #[], vm := .none },
  { cls := 34, slots := #[], vm := .none }]
def classes : Array Class := #[k0, k1, k2, k3, k4, k5, k6, k7, k8, k9, k10, k11, k12, k13, k14, k15, k16, k17, k18, k19, k20, k21, k22, k23, k24, k25, k26, k27, k28, k29, k30, k31, k32, k33, k34]
def interned : List (Array UInt16 × Addr) := []
def slotsUsed : Nat := 531
def theMethod : MethodId := ⟨1, 1⟩
def args0 : Array Value := #[.int 5, .int 6, .int 7, .int 8]
def aboutOver (below : List Frame) : State where
  vm := { classes := classes, interned := interned.toArray }
  heap := heap
  slotsUsed := slotsUsed
  threads := #[{ frames := .invoking theMethod args0 :: below }]
def below0 : List Frame := [.native { method := ⟨0, 0⟩, args := #[] }]
def about1 : State := aboutOver below0
def p0 : Program := .bare "" "" ""
def e0 : Env := launch0.env 0 0 0
theorem w_frames : about1.frames = Frame.invoking theMethod args0 :: below0 := rfl
set_option maxRecDepth 65536 in
theorem w_args : argsFit about1.vm theMethod args0 = true := by decide +kernel
set_option maxRecDepth 65536 in
theorem w_heap : heapFits about1 = true := by decide +kernel
set_option maxRecDepth 65536 in
theorem w_runnable : about1.curStatus? = some .runnable := by decide +kernel
set_option maxRecDepth 65536 in
theorem w_alone : about1.alone = true := by decide +kernel
set_option maxRecDepth 65536 in
theorem w_named : about1.methodNamed? x = some theMethod := by decide +kernel
set_option maxRecDepth 65536 in
theorem w_hears : about1.hears theMethod below0 = true := by decide +kernel
set_option maxRecDepth 65536 in
theorem w_ripe : about1.ripe theMethod args0 below0 = true := by decide +kernel
theorem w_running : about1.status = .running := rfl
set_option maxRecDepth 65536 in
theorem w_room : about1.hasRoom e0.platform room_1 = true :=
  launch0.hasRoom_least _ room_1 (by decide +kernel) (by decide +kernel) (by decide +kernel) (by decide +kernel) (by decide +kernel) (by decide +kernel)
theorem allAtoms_all (ts : List Jvm.Cond) (a : Array Jvm.Value) (st : Jvm.State) : (allAtoms ts).before a st = ts.all (fun c => c.before a st) := by
  induction ts with
  | nil => rfl
  | cons c t ih =>
    show (Jvm.Cond.and c (allAtoms t)).before a st = _
    rw [Jvm.Cond.before_and, ih, List.all_cons]
def words1 : List Jvm.Cond := Jvm.Cond.code x code maxLocals ret :: tables_1
/-- a 'code' word, met by the world's own term for the bytes: nothing is compared byte by byte -/
theorem code_word {y : MethodName} {bytes : ByteArray} {mx : Nat} {rt : Option FieldType} {a : Array Value} {s : State} {m : MethodId} {meth : Method} {c : Code} (h1 : s.methodNamed? y = some m) (h2 : s.vm.method? m = some meth) (h3 : meth.code = some c) (h4 : c.code = bytes)
    (h5 : (c.maxLocals == mx && c.exceptionTable.isEmpty && decide (c.maxStack ≤ mostOperands) && decide (meth.sig.returnType = rt) && !meth.locks && decide (parseMethodDescriptor y.desc = some meth.sig)) = true) : (Jvm.Cond.code y bytes mx rt).before a s = true := by
  simp only [Bool.and_eq_true, beq_iff_eq, Bool.not_eq_true', decide_eq_true_eq] at h5
  obtain ⟨⟨⟨⟨⟨g1, g2⟩, g3⟩, g4⟩, g5⟩, g6⟩ := h5
  simp [Cond.before, Cond.holds, Cond.value, h1, h2, h3, h4, g1, g2, g3, g4, g5, g6]
def isCode : Jvm.Cond → Bool
  | .code _ _ _ _ => true
  | _ => false
theorem all_split {L : List Jvm.Cond} {P : Jvm.Cond → Bool} (h1 : L.all (fun c => isCode c || P c) = true) (h2 : ∀ c ∈ L.filter isCode, P c = true) : L.all P = true := by
  refine List.all_eq_true.mpr fun c hc => ?_
  have h := List.all_eq_true.mp h1 c hc
  rcases Bool.eq_false_or_eq_true (isCode c) with hi | hi
  · exact h2 c (List.mem_filter.mpr ⟨hc, hi⟩)
  · simpa [hi] using h
set_option maxRecDepth 65536 in
theorem w_c0 : (Jvm.Cond.code x code maxLocals ret).before args0 about1 = true := code_word (m := ⟨1, 1⟩) (meth := k1m1) (c := k1c1) (by decide +kernel) rfl rfl rfl (by decide +kernel)
set_option maxRecDepth 65536 in
theorem w_c1 : (Jvm.Cond.code ({ cls := "com/example/keelson/keelson/core/Envelope", name := "ok", desc := "(Ljava/lang/Object;)Lcom/example/keelson/keelson/core/Envelope;" } : Jvm.MethodName) prog_6_method_2_code (1 : Nat) (Option.some (Jvm.ClassFile.FieldType.object "com/example/keelson/keelson/core/Envelope"))).before args0 about1 = true := code_word (m := ⟨3, 1⟩) (meth := k3m1) (c := k3c1) (by decide +kernel) rfl rfl rfl (by decide +kernel)
set_option maxRecDepth 65536 in
theorem w_c2 : (Jvm.Cond.code ({ cls := "com/example/keelson/keelson/core/Envelope", name := "<init>", desc := "(ILjava/lang/String;Ljava/lang/Object;)V" } : Jvm.MethodName) prog_6_method_1_code (4 : Nat) (Option.none : Option Jvm.ClassFile.FieldType)).before args0 about1 = true := code_word (m := ⟨3, 0⟩) (meth := k3m0) (c := k3c0) (by decide +kernel) rfl rfl rfl (by decide +kernel)
set_option maxRecDepth 65536 in
theorem w_c3 : (Jvm.Cond.code ({ cls := "java/lang/Record", name := "<init>", desc := "()V" } : Jvm.MethodName) jdk_30_method_1_code (1 : Nat) (Option.none : Option Jvm.ClassFile.FieldType)).before args0 about1 = true := code_word (m := ⟨2, 0⟩) (meth := k2m0) (c := k2c0) (by decide +kernel) rfl rfl rfl (by decide +kernel)
set_option maxRecDepth 65536 in
theorem w_c4 : (Jvm.Cond.code ({ cls := "java/lang/Object", name := "<init>", desc := "()V" } : Jvm.MethodName) object_method_1_code (1 : Nat) (Option.none : Option Jvm.ClassFile.FieldType)).before args0 about1 = true := code_word (m := ⟨0, 0⟩) (meth := k0m0) (c := k0c0) (by decide +kernel) rfl rfl rfl (by decide +kernel)
set_option maxRecDepth 65536 in
theorem w_c5 : (Jvm.Cond.code ({ cls := "com/example/keelson/keelson/core/Envelope", name := "message", desc := "()Ljava/lang/String;" } : Jvm.MethodName) prog_6_method_8_code (1 : Nat) (Option.some (Jvm.ClassFile.FieldType.object "java/lang/String"))).before args0 about1 = true := code_word (m := ⟨3, 3⟩) (meth := k3m3) (c := k3c3) (by decide +kernel) rfl rfl rfl (by decide +kernel)
set_option maxRecDepth 65536 in
theorem w_c6 : (Jvm.Cond.code ({ cls := "com/example/keelson/keelson/core/Envelope", name := "code", desc := "()I" } : Jvm.MethodName) prog_6_method_7_code (1 : Nat) (Option.some Jvm.ClassFile.FieldType.int)).before args0 about1 = true := code_word (m := ⟨3, 2⟩) (meth := k3m2) (c := k3c2) (by decide +kernel) rfl rfl rfl (by decide +kernel)
set_option maxRecDepth 65536 in
theorem w_c7 : (Jvm.Cond.code ({ cls := "java/lang/String", name := "length", desc := "()I" } : Jvm.MethodName) jdk_42_method_54_code (1 : Nat) (Option.some Jvm.ClassFile.FieldType.int)).before args0 about1 = true := code_word (m := ⟨9, 2⟩) (meth := k9m2) (c := k9c2) (by decide +kernel) rfl rfl rfl (by decide +kernel)
set_option maxRecDepth 65536 in
theorem w_c8 : (Jvm.Cond.code ({ cls := "java/lang/String", name := "coder", desc := "()B" } : Jvm.MethodName) jdk_42_method_152_code (1 : Nat) (Option.some Jvm.ClassFile.FieldType.byte)).before args0 about1 = true := code_word (m := ⟨9, 5⟩) (meth := k9m5) (c := k9c5) (by decide +kernel) rfl rfl rfl (by decide +kernel)
set_option maxRecDepth 65536 in
theorem w_c9 : (Jvm.Cond.code ({ cls := "java/lang/String", name := "charAt", desc := "(I)C" } : Jvm.MethodName) jdk_42_method_56_code (2 : Nat) (Option.some Jvm.ClassFile.FieldType.char)).before args0 about1 = true := code_word (m := ⟨9, 3⟩) (meth := k9m3) (c := k9c3) (by decide +kernel) rfl rfl rfl (by decide +kernel)
set_option maxRecDepth 65536 in
theorem w_c10 : (Jvm.Cond.code ({ cls := "java/lang/String", name := "isLatin1", desc := "()Z" } : Jvm.MethodName) jdk_42_method_154_code (1 : Nat) (Option.some Jvm.ClassFile.FieldType.boolean)).before args0 about1 = true := code_word (m := ⟨9, 6⟩) (meth := k9m6) (c := k9c6) (by decide +kernel) rfl rfl rfl (by decide +kernel)
set_option maxRecDepth 65536 in
theorem w_c11 : (Jvm.Cond.code ({ cls := "java/lang/StringLatin1", name := "charAt", desc := "([BI)C" } : Jvm.MethodName) jdk_43_method_2_code (2 : Nat) (Option.some Jvm.ClassFile.FieldType.char)).before args0 about1 = true := code_word (m := ⟨10, 1⟩) (meth := k10m1) (c := k10c1) (by decide +kernel) rfl rfl rfl (by decide +kernel)
set_option maxRecDepth 65536 in
theorem w_c12 : (Jvm.Cond.code ({ cls := "java/lang/String", name := "checkIndex", desc := "(II)V" } : Jvm.MethodName) jdk_42_method_155_code (2 : Nat) (Option.none : Option Jvm.ClassFile.FieldType)).before args0 about1 = true := code_word (m := ⟨9, 7⟩) (meth := k9m7) (c := k9c7) (by decide +kernel) rfl rfl rfl (by decide +kernel)
set_option maxRecDepth 65536 in
theorem w_c13 : (Jvm.Cond.code ({ cls := "jdk/internal/util/Preconditions", name := "checkIndex", desc := "(IILjava/util/function/BiFunction;)I" } : Jvm.MethodName) jdk_41_method_11_code (3 : Nat) (Option.some Jvm.ClassFile.FieldType.int)).before args0 about1 = true := code_word (m := ⟨11, 1⟩) (meth := k11m1) (c := k11c1) (by decide +kernel) rfl rfl rfl (by decide +kernel)
set_option maxRecDepth 65536 in
theorem w_c14 : (Jvm.Cond.code ({ cls := "com/example/keelson/keelson/core/Envelope", name := "data", desc := "()Ljava/lang/Object;" } : Jvm.MethodName) prog_6_method_9_code (1 : Nat) (Option.some (Jvm.ClassFile.FieldType.object "java/lang/Object"))).before args0 about1 = true := code_word (m := ⟨3, 4⟩) (meth := k3m4) (c := k3c4) (by decide +kernel) rfl rfl rfl (by decide +kernel)
set_option maxRecDepth 65536 in
theorem w_c15 : (Jvm.Cond.code ({ cls := "java/util/ArrayList", name := "<init>", desc := "()V" } : Jvm.MethodName) jdk_38_method_2_code (1 : Nat) (Option.none : Option Jvm.ClassFile.FieldType)).before args0 about1 = true := code_word (m := ⟨20, 0⟩) (meth := k20m0) (c := k20c0) (by decide +kernel) rfl rfl rfl (by decide +kernel)
set_option maxRecDepth 65536 in
theorem w_c16 : (Jvm.Cond.code ({ cls := "java/util/AbstractList", name := "<init>", desc := "()V" } : Jvm.MethodName) jdk_39_method_1_code (1 : Nat) (Option.none : Option Jvm.ClassFile.FieldType)).before args0 about1 = true := code_word (m := ⟨17, 0⟩) (meth := k17m0) (c := k17c0) (by decide +kernel) rfl rfl rfl (by decide +kernel)
set_option maxRecDepth 65536 in
theorem w_c17 : (Jvm.Cond.code ({ cls := "java/util/AbstractCollection", name := "<init>", desc := "()V" } : Jvm.MethodName) jdk_22_method_1_code (1 : Nat) (Option.none : Option Jvm.ClassFile.FieldType)).before args0 about1 = true := code_word (m := ⟨14, 0⟩) (meth := k14m0) (c := k14c0) (by decide +kernel) rfl rfl rfl (by decide +kernel)
set_option maxRecDepth 65536 in
theorem w_c18 : (Jvm.Cond.code ({ cls := "java/lang/Integer", name := "valueOf", desc := "(I)Ljava/lang/Integer;" } : Jvm.MethodName) jdk_33_method_22_code (1 : Nat) (Option.some (Jvm.ClassFile.FieldType.object "java/lang/Integer"))).before args0 about1 = true := code_word (m := ⟨22, 0⟩) (meth := k22m0) (c := k22c0) (by decide +kernel) rfl rfl rfl (by decide +kernel)
set_option maxRecDepth 65536 in
theorem w_c19 : (Jvm.Cond.code ({ cls := "java/lang/Integer", name := "<init>", desc := "(I)V" } : Jvm.MethodName) jdk_33_method_23_code (2 : Nat) (Option.none : Option Jvm.ClassFile.FieldType)).before args0 about1 = true := code_word (m := ⟨22, 1⟩) (meth := k22m1) (c := k22c1) (by decide +kernel) rfl rfl rfl (by decide +kernel)
set_option maxRecDepth 65536 in
theorem w_c20 : (Jvm.Cond.code ({ cls := "java/lang/Number", name := "<init>", desc := "()V" } : Jvm.MethodName) jdk_18_method_1_code (1 : Nat) (Option.none : Option Jvm.ClassFile.FieldType)).before args0 about1 = true := code_word (m := ⟨21, 0⟩) (meth := k21m0) (c := k21c0) (by decide +kernel) rfl rfl rfl (by decide +kernel)
set_option maxRecDepth 65536 in
theorem w_c21 : (Jvm.Cond.code ({ cls := "java/util/ArrayList", name := "add", desc := "(Ljava/lang/Object;)Z" } : Jvm.MethodName) jdk_38_method_25_code (2 : Nat) (Option.some Jvm.ClassFile.FieldType.boolean)).before args0 about1 = true := code_word (m := ⟨20, 4⟩) (meth := k20m4) (c := k20c4) (by decide +kernel) rfl rfl rfl (by decide +kernel)
set_option maxRecDepth 65536 in
theorem w_c22 : (Jvm.Cond.code ({ cls := "java/util/ArrayList", name := "add", desc := "(Ljava/lang/Object;[Ljava/lang/Object;I)V" } : Jvm.MethodName) jdk_38_method_24_code (4 : Nat) (Option.none : Option Jvm.ClassFile.FieldType)).before args0 about1 = true := code_word (m := ⟨20, 3⟩) (meth := k20m3) (c := k20c3) (by decide +kernel) rfl rfl rfl (by decide +kernel)
set_option maxRecDepth 65536 in
theorem w_c23 : (Jvm.Cond.code ({ cls := "java/util/ArrayList", name := "grow", desc := "()[Ljava/lang/Object;" } : Jvm.MethodName) jdk_38_method_7_code (1 : Nat) (Option.some (Jvm.ClassFile.FieldType.array (Jvm.ClassFile.FieldType.object "java/lang/Object")))).before args0 about1 = true := code_word (m := ⟨20, 2⟩) (meth := k20m2) (c := k20c2) (by decide +kernel) rfl rfl rfl (by decide +kernel)
set_option maxRecDepth 65536 in
theorem w_c24 : (Jvm.Cond.code ({ cls := "java/util/ArrayList", name := "grow", desc := "(I)[Ljava/lang/Object;" } : Jvm.MethodName) jdk_38_method_6_code (4 : Nat) (Option.some (Jvm.ClassFile.FieldType.array (Jvm.ClassFile.FieldType.object "java/lang/Object")))).before args0 about1 = true := code_word (m := ⟨20, 1⟩) (meth := k20m1) (c := k20c1) (by decide +kernel) rfl rfl rfl (by decide +kernel)
set_option maxRecDepth 65536 in
theorem w_c25 : (Jvm.Cond.code ({ cls := "java/lang/Math", name := "max", desc := "(II)I" } : Jvm.MethodName) jdk_29_method_65_code (2 : Nat) (Option.some Jvm.ClassFile.FieldType.int)).before args0 about1 = true := code_word (m := ⟨24, 1⟩) (meth := k24m1) (c := k24c1) (by decide +kernel) rfl rfl rfl (by decide +kernel)
set_option maxRecDepth 65536 in
theorem w_c26 : (Jvm.Cond.code ({ cls := "java/lang/String", name := "<init>", desc := "([C)V" } : Jvm.MethodName) jdk_42_method_3_code (2 : Nat) (Option.none : Option Jvm.ClassFile.FieldType)).before args0 about1 = true := code_word (m := ⟨9, 1⟩) (meth := k9m1) (c := k9c1) (by decide +kernel) rfl rfl rfl (by decide +kernel)
set_option maxRecDepth 65536 in
theorem w_c27 : (Jvm.Cond.code ({ cls := "java/lang/String", name := "<init>", desc := "([CIILjava/lang/Void;)V" } : Jvm.MethodName) jdk_42_method_149_code (6 : Nat) (Option.none : Option Jvm.ClassFile.FieldType)).before args0 about1 = true := code_word (m := ⟨9, 4⟩) (meth := k9m4) (c := k9c4) (by decide +kernel) rfl rfl rfl (by decide +kernel)
set_option maxRecDepth 65536 in
theorem w_c28 : (Jvm.Cond.code ({ cls := "java/lang/StringUTF16", name := "compress", desc := "([CII)[B" } : Jvm.MethodName) jdk_52_method_16_code (6 : Nat) (Option.some (Jvm.ClassFile.FieldType.array Jvm.ClassFile.FieldType.byte))).before args0 about1 = true := code_word (m := ⟨25, 2⟩) (meth := k25m2) (c := k25c2) (by decide +kernel) rfl rfl rfl (by decide +kernel)
set_option maxRecDepth 65536 in
theorem w_c29 : (Jvm.Cond.code ({ cls := "java/lang/StringUTF16", name := "compress", desc := "([CI[BII)I" } : Jvm.MethodName) jdk_52_method_21_code (7 : Nat) (Option.some Jvm.ClassFile.FieldType.int)).before args0 about1 = true := code_word (m := ⟨25, 3⟩) (meth := k25m3) (c := k25c3) (by decide +kernel) rfl rfl rfl (by decide +kernel)
set_option maxRecDepth 65536 in
theorem w_c30 : (Jvm.Cond.code ({ cls := "java/lang/StringUTF16", name := "coderFromArrayLen", desc := "([BI)B" } : Jvm.MethodName) jdk_52_method_15_code (2 : Nat) (Option.some Jvm.ClassFile.FieldType.byte)).before args0 about1 = true := code_word (m := ⟨25, 1⟩) (meth := k25m1) (c := k25c1) (by decide +kernel) rfl rfl rfl (by decide +kernel)
def codes1 : List Jvm.Cond := [Jvm.Cond.code x code maxLocals ret, Jvm.Cond.code ({ cls := "com/example/keelson/keelson/core/Envelope", name := "ok", desc := "(Ljava/lang/Object;)Lcom/example/keelson/keelson/core/Envelope;" } : Jvm.MethodName) prog_6_method_2_code (1 : Nat) (Option.some (Jvm.ClassFile.FieldType.object "com/example/keelson/keelson/core/Envelope")), Jvm.Cond.code ({ cls := "com/example/keelson/keelson/core/Envelope", name := "<init>", desc := "(ILjava/lang/String;Ljava/lang/Object;)V" } : Jvm.MethodName) prog_6_method_1_code (4 : Nat) (Option.none : Option Jvm.ClassFile.FieldType), Jvm.Cond.code ({ cls := "java/lang/Record", name := "<init>", desc := "()V" } : Jvm.MethodName) jdk_30_method_1_code (1 : Nat) (Option.none : Option Jvm.ClassFile.FieldType), Jvm.Cond.code ({ cls := "java/lang/Object", name := "<init>", desc := "()V" } : Jvm.MethodName) object_method_1_code (1 : Nat) (Option.none : Option Jvm.ClassFile.FieldType), Jvm.Cond.code ({ cls := "com/example/keelson/keelson/core/Envelope", name := "message", desc := "()Ljava/lang/String;" } : Jvm.MethodName) prog_6_method_8_code (1 : Nat) (Option.some (Jvm.ClassFile.FieldType.object "java/lang/String")), Jvm.Cond.code ({ cls := "com/example/keelson/keelson/core/Envelope", name := "code", desc := "()I" } : Jvm.MethodName) prog_6_method_7_code (1 : Nat) (Option.some Jvm.ClassFile.FieldType.int), Jvm.Cond.code ({ cls := "java/lang/String", name := "length", desc := "()I" } : Jvm.MethodName) jdk_42_method_54_code (1 : Nat) (Option.some Jvm.ClassFile.FieldType.int), Jvm.Cond.code ({ cls := "java/lang/String", name := "coder", desc := "()B" } : Jvm.MethodName) jdk_42_method_152_code (1 : Nat) (Option.some Jvm.ClassFile.FieldType.byte), Jvm.Cond.code ({ cls := "java/lang/String", name := "charAt", desc := "(I)C" } : Jvm.MethodName) jdk_42_method_56_code (2 : Nat) (Option.some Jvm.ClassFile.FieldType.char), Jvm.Cond.code ({ cls := "java/lang/String", name := "isLatin1", desc := "()Z" } : Jvm.MethodName) jdk_42_method_154_code (1 : Nat) (Option.some Jvm.ClassFile.FieldType.boolean), Jvm.Cond.code ({ cls := "java/lang/StringLatin1", name := "charAt", desc := "([BI)C" } : Jvm.MethodName) jdk_43_method_2_code (2 : Nat) (Option.some Jvm.ClassFile.FieldType.char), Jvm.Cond.code ({ cls := "java/lang/String", name := "checkIndex", desc := "(II)V" } : Jvm.MethodName) jdk_42_method_155_code (2 : Nat) (Option.none : Option Jvm.ClassFile.FieldType), Jvm.Cond.code ({ cls := "jdk/internal/util/Preconditions", name := "checkIndex", desc := "(IILjava/util/function/BiFunction;)I" } : Jvm.MethodName) jdk_41_method_11_code (3 : Nat) (Option.some Jvm.ClassFile.FieldType.int), Jvm.Cond.code ({ cls := "com/example/keelson/keelson/core/Envelope", name := "data", desc := "()Ljava/lang/Object;" } : Jvm.MethodName) prog_6_method_9_code (1 : Nat) (Option.some (Jvm.ClassFile.FieldType.object "java/lang/Object")), Jvm.Cond.code ({ cls := "java/util/ArrayList", name := "<init>", desc := "()V" } : Jvm.MethodName) jdk_38_method_2_code (1 : Nat) (Option.none : Option Jvm.ClassFile.FieldType), Jvm.Cond.code ({ cls := "java/util/AbstractList", name := "<init>", desc := "()V" } : Jvm.MethodName) jdk_39_method_1_code (1 : Nat) (Option.none : Option Jvm.ClassFile.FieldType), Jvm.Cond.code ({ cls := "java/util/AbstractCollection", name := "<init>", desc := "()V" } : Jvm.MethodName) jdk_22_method_1_code (1 : Nat) (Option.none : Option Jvm.ClassFile.FieldType), Jvm.Cond.code ({ cls := "java/lang/Integer", name := "valueOf", desc := "(I)Ljava/lang/Integer;" } : Jvm.MethodName) jdk_33_method_22_code (1 : Nat) (Option.some (Jvm.ClassFile.FieldType.object "java/lang/Integer")), Jvm.Cond.code ({ cls := "java/lang/Integer", name := "<init>", desc := "(I)V" } : Jvm.MethodName) jdk_33_method_23_code (2 : Nat) (Option.none : Option Jvm.ClassFile.FieldType), Jvm.Cond.code ({ cls := "java/lang/Number", name := "<init>", desc := "()V" } : Jvm.MethodName) jdk_18_method_1_code (1 : Nat) (Option.none : Option Jvm.ClassFile.FieldType), Jvm.Cond.code ({ cls := "java/util/ArrayList", name := "add", desc := "(Ljava/lang/Object;)Z" } : Jvm.MethodName) jdk_38_method_25_code (2 : Nat) (Option.some Jvm.ClassFile.FieldType.boolean), Jvm.Cond.code ({ cls := "java/util/ArrayList", name := "add", desc := "(Ljava/lang/Object;[Ljava/lang/Object;I)V" } : Jvm.MethodName) jdk_38_method_24_code (4 : Nat) (Option.none : Option Jvm.ClassFile.FieldType), Jvm.Cond.code ({ cls := "java/util/ArrayList", name := "grow", desc := "()[Ljava/lang/Object;" } : Jvm.MethodName) jdk_38_method_7_code (1 : Nat) (Option.some (Jvm.ClassFile.FieldType.array (Jvm.ClassFile.FieldType.object "java/lang/Object"))), Jvm.Cond.code ({ cls := "java/util/ArrayList", name := "grow", desc := "(I)[Ljava/lang/Object;" } : Jvm.MethodName) jdk_38_method_6_code (4 : Nat) (Option.some (Jvm.ClassFile.FieldType.array (Jvm.ClassFile.FieldType.object "java/lang/Object"))), Jvm.Cond.code ({ cls := "java/lang/Math", name := "max", desc := "(II)I" } : Jvm.MethodName) jdk_29_method_65_code (2 : Nat) (Option.some Jvm.ClassFile.FieldType.int), Jvm.Cond.code ({ cls := "java/lang/String", name := "<init>", desc := "([C)V" } : Jvm.MethodName) jdk_42_method_3_code (2 : Nat) (Option.none : Option Jvm.ClassFile.FieldType), Jvm.Cond.code ({ cls := "java/lang/String", name := "<init>", desc := "([CIILjava/lang/Void;)V" } : Jvm.MethodName) jdk_42_method_149_code (6 : Nat) (Option.none : Option Jvm.ClassFile.FieldType), Jvm.Cond.code ({ cls := "java/lang/StringUTF16", name := "compress", desc := "([CII)[B" } : Jvm.MethodName) jdk_52_method_16_code (6 : Nat) (Option.some (Jvm.ClassFile.FieldType.array Jvm.ClassFile.FieldType.byte)), Jvm.Cond.code ({ cls := "java/lang/StringUTF16", name := "compress", desc := "([CI[BII)I" } : Jvm.MethodName) jdk_52_method_21_code (7 : Nat) (Option.some Jvm.ClassFile.FieldType.int), Jvm.Cond.code ({ cls := "java/lang/StringUTF16", name := "coderFromArrayLen", desc := "([BI)B" } : Jvm.MethodName) jdk_52_method_15_code (2 : Nat) (Option.some Jvm.ClassFile.FieldType.byte)]
set_option maxRecDepth 65536 in
theorem codes_eq : words1.filter isCode = codes1 := rfl
theorem w_codes : ∀ c ∈ words1.filter isCode, c.before args0 about1 = true := by
  rw [codes_eq]
  intro c hc
  simp only [codes1, List.mem_cons, List.not_mem_nil, or_false] at hc
  rcases hc with rfl | rfl | rfl | rfl | rfl | rfl | rfl | rfl | rfl | rfl | rfl | rfl | rfl | rfl | rfl | rfl | rfl | rfl | rfl | rfl | rfl | rfl | rfl | rfl | rfl | rfl | rfl | rfl | rfl | rfl | rfl
  · exact w_c0
  · exact w_c1
  · exact w_c2
  · exact w_c3
  · exact w_c4
  · exact w_c5
  · exact w_c6
  · exact w_c7
  · exact w_c8
  · exact w_c9
  · exact w_c10
  · exact w_c11
  · exact w_c12
  · exact w_c13
  · exact w_c14
  · exact w_c15
  · exact w_c16
  · exact w_c17
  · exact w_c18
  · exact w_c19
  · exact w_c20
  · exact w_c21
  · exact w_c22
  · exact w_c23
  · exact w_c24
  · exact w_c25
  · exact w_c26
  · exact w_c27
  · exact w_c28
  · exact w_c29
  · exact w_c30
set_option maxRecDepth 65536 in
theorem w_t1 : (words1.take 24).all (fun c => isCode c || c.before args0 about1) = true := by decide +kernel
set_option maxRecDepth 65536 in
theorem w_t2 : ((words1.drop 24).take 24).all (fun c => isCode c || c.before args0 about1) = true := by decide +kernel
set_option maxRecDepth 65536 in
theorem w_t3 : (((words1.drop 24).drop 24).take 24).all (fun c => isCode c || c.before args0 about1) = true := by decide +kernel
set_option maxRecDepth 65536 in
theorem w_t4 : ((((words1.drop 24).drop 24).drop 24).take 24).all (fun c => isCode c || c.before args0 about1) = true := by decide +kernel
set_option maxRecDepth 65536 in
theorem w_t5 : (((((words1.drop 24).drop 24).drop 24).drop 24).take 24).all (fun c => isCode c || c.before args0 about1) = true := by decide +kernel
set_option maxRecDepth 65536 in
theorem w_t6 : ((((((words1.drop 24).drop 24).drop 24).drop 24).drop 24).take 24).all (fun c => isCode c || c.before args0 about1) = true := by decide +kernel
set_option maxRecDepth 65536 in
theorem w_t7 : (((((((words1.drop 24).drop 24).drop 24).drop 24).drop 24).drop 24).take 24).all (fun c => isCode c || c.before args0 about1) = true := by decide +kernel
set_option maxRecDepth 65536 in
theorem w_t8 : (((((((words1.drop 24).drop 24).drop 24).drop 24).drop 24).drop 24).drop 24).all (fun c => isCode c || c.before args0 about1) = true := by decide +kernel
theorem w_tables : (allAtoms (Jvm.Cond.code x code maxLocals ret :: tables_1)).before args0 about1 = true := by
  rw [allAtoms_all]
  show words1.all (fun c => c.before args0 about1) = true
  refine all_split ?_ w_codes
  rw [← List.take_append_drop 24 words1, List.all_append, w_t1, ← List.take_append_drop 24 (words1.drop 24), List.all_append, w_t2, ← List.take_append_drop 24 ((words1.drop 24).drop 24), List.all_append, w_t3, ← List.take_append_drop 24 (((words1.drop 24).drop 24).drop 24), List.all_append, w_t4, ← List.take_append_drop 24 ((((words1.drop 24).drop 24).drop 24).drop 24), List.all_append, w_t5, ← List.take_append_drop 24 (((((words1.drop 24).drop 24).drop 24).drop 24).drop 24), List.all_append, w_t6, ← List.take_append_drop 24 ((((((words1.drop 24).drop 24).drop 24).drop 24).drop 24).drop 24), List.all_append, w_t7, w_t8]
  rfl
set_option maxRecDepth 65536 in
theorem w_rest : rest_1_c.before args0 about1 = true := by decide +kernel
set_option maxRecDepth 65536 in
theorem w_case : (Jvm.Cond.and given_1 narrow_1).before args0 about1 = true := by decide +kernel
set_option maxRecDepth 65536 in
theorem w_consts : constsHeld consts_1 about1 := Jvm.Lit.constsHeldB_iff.mp (by decide +kernel)
theorem w_applies : (headSpec (Jvm.Cond.code x code maxLocals ret :: tables_1) room_1).applies x e0.platform about1 = true :=
  (Spec.applies_iff w_frames).mpr ⟨w_running, w_runnable, w_alone, w_named, w_hears, w_ripe, w_room, w_tables⟩
theorem atStart : AtStart classFile x code maxLocals ret World_1 tables_1 room_1 Calls_1 rest_1 Pre_1 launch0 p0 e0 about1 theMethod args0 below0 :=
  ⟨lists_1, trivial, launch0.admits_env _ _ _, launch0.least_env, fairChoices_fair.cas, fairChoices_fair.clock, w_frames, w_args, w_heap, w_applies, ⟨w_consts, trivial⟩, w_rest, w_case⟩
end start1
theorem witness_1 : WitnessClaimed_1 := ⟨start1.p0, start1.e0, start1.about1, start1.theMethod, start1.args0, start1.below0, start1.atStart⟩
end Jvm.Pilot.@@N@@
