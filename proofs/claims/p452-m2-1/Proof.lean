import JvmDerived
import JvmDerived.Pilot.@@N@@Statement
import JvmDerived.Pilot.@@N@@Code
set_option linter.unusedVariables false
set_option linter.unusedSimpArgs false
namespace Jvm.RoadKit
open Sem ClassFile Op Lib Jvm.Stand Jvm.Free Jvm.LawKit
section New
variable {p : Program} {l : Launch} {e : Env} {R : Room} {s : State} {m : MethodId} {args : Array Value} {below : List Frame} {meth : Method} {c : Code} {T : State} {locs : List Loc} {cells slots : Nat}
theorem retI (X : Stand p l e R s m args below meth c T locs cells slots) (hx : p.tables.exec = Jvm.exec) {pc : Nat} {Ls : Array Slot} {z : Int32} {rest : List Value} (hret : meth.sig.returnType = some .int) (hd : decode c.code pc = .ok (.ireturn, 1)) {fs : List Frame}
    (hl : ∀ (f : JFrame) (acts : List Action), f.method = m → f.locked = none → f.entered = [] → (doReturn e (T.setTop f) acts (some (.int z))).1 = T.setFrames fs) : Steps p.tables e below (T.setTop (mkF m pc Ls (.int z :: rest))) (T.setFrames fs) := by
  have hm' : T.vm.method? m = some meth := X.method'
  have hn : narrow .int (.int z) = .int z := rfl
  show Steps p.tables e below (T.setTop { method := m, pc := pc, locals := Ls, stack := _ :: rest, locked := none }) _
  jvm_step X.here [X.here.top, hx, hd, hm', hret, hn]
  first | (intro acts; rw [hl _ acts rfl rfl rfl]) | rw [hl _ _ rfl rfl rfl]
  exact Steps.refl _
end New
end Jvm.RoadKit
/- laws to paste: Road.backV, Road.lenW, Road.chN, Road.codOf (cut by pick.py; bodies as the Statement names them) -/
namespace Jvm.Pilot.@@N@@
namespace StrChars
open Jvm Sem ClassFile Op Lib Jvm.Stand Jvm.Free.XT Jvm.Free.ALB Jvm.Free.JM Jvm.Free
open Jvm.Lib.Cold (StaticIs)
/-- a char array whose places are chars -/
def Ch (a : Addr) (A : Cell) (U : State) : Prop := Arr .char a A U ∧ Typed .char A
theorem Ch.mv {a : Addr} {A : Cell} {U U' : State} (h : Ch a A U) (hal : U.vm.Alike U'.vm) (hh : U'.heap = U.heap) : Ch a A U' := ⟨h.1.mv hal hh, h.2⟩
theorem Ch.keep {a : Addr} {A : Cell} {U U' : State} (h : Ch a A U) (hal : U.vm.Alike U'.vm) (hk : U'.heap[a]? = some A) : Ch a A U' := ⟨h.1.keep hal hk, h.2⟩
/-- what place i of a char[]'s cell holds -/
def cv (A : Cell) (i : Nat) : Int32 := match A.slots[i]? with | some (.int x) => x | _ => 0
theorem Ch.get {a : Addr} {A : Cell} {U : State} (h : Ch a A U) {i : Nat} (hi : i < A.slots.size) : A.slots[i]? = some (.int (cv A i)) := by
  have e := Array.getElem?_eq_getElem hi
  have f := h.2 i _ e
  unfold cv; rw [e]
  generalize A.slots[i] = v at f
  cases v <;> simp [fits] at f ⊢
/-- the byte that i2b leaves of a char -/
def lo8 (x : Int32) : Int32 := x.toInt8.toInt32
theorem fits_lo8 (y : Int32) : fits .byte (.int (lo8 y)) = true := by
  have h1 := y.toInt8.le_toInt
  have h2 := y.toInt8.toInt_lt
  simp only [lo8, fits, Bool.and_eq_true, decide_eq_true_eq, Int32.le_iff_toInt_le, Int8.toInt_toInt32, show (-128 : Int32).toInt = -128 from by decide, show (127 : Int32).toInt = 127 from by decide]
  omega
/-- A' is A but that each place j of lo .. hi - 1 holds f j -/
def Laid (A A' : Cell) (lo hi : Nat) (f : Nat → Value) : Prop := A'.cls = A.cls ∧ A'.vm = A.vm ∧ A'.slots.size = A.slots.size ∧ ∀ i, A'.slots[i]? = if lo ≤ i ∧ i < hi then some (f i) else A.slots[i]?
theorem Laid.zero (A : Cell) (lo : Nat) (f : Nat → Value) : Laid A A lo (lo + 0) f := ⟨rfl, rfl, rfl, fun i => by rw [if_neg (by omega)]⟩
theorem Laid.step {A Ak : Cell} {lo k : Nat} {f : Nat → Value} {v : Value} (h : Laid A Ak lo k f) (hlo : lo ≤ k) (hk : k < Ak.slots.size) (hv : v = f k) : Laid A (Ak.setSlot k v) lo (k + 1) f := by
  refine ⟨h.1, h.2.1, by simpa [Cell.setSlot] using h.2.2.1, fun i => ?_⟩
  by_cases e : k = i
  · subst e; rw [Cell.slots_setSlot_self v hk, if_pos (by omega), hv]
  · rw [Cell.slots_setSlot_ne v e, h.2.2.2 i]
    by_cases q : lo ≤ i ∧ i < k
    · rw [if_pos q, if_pos (by omega)]
    · rw [if_neg q, if_neg (by omega)]
def U16 : String := "java/lang/StringUTF16"
namespace Cmp5
def yN : MethodName := ⟨"java/lang/StringUTF16", "compress", "([CI[BII)I"⟩
abbrev yB : ByteArray := jdk_52_method_21_code
theorem d0 : decode yB 0 = .ok (.iconst 0, 1) := by decide +kernel
theorem d1 : decode yB 1 = .ok (.istore 5, 2) := by decide +kernel
theorem d3 : decode yB 3 = .ok (.iload 5, 2) := by decide +kernel
theorem d5 : decode yB 5 = .ok (.iload 4, 2) := by decide +kernel
theorem d7 : decode yB 7 = .ok (.if_icmp (.ge) 37, 3) := by decide +kernel
theorem d10 : decode yB 10 = .ok (.aload_n 0, 1) := by decide +kernel
theorem d11 : decode yB 11 = .ok (.iload_n 1, 1) := by decide +kernel
theorem d12 : decode yB 12 = .ok (.caload, 1) := by decide +kernel
theorem d13 : decode yB 13 = .ok (.istore 6, 2) := by decide +kernel
theorem d15 : decode yB 15 = .ok (.iload 6, 2) := by decide +kernel
theorem d17 : decode yB 17 = .ok (.sipush 255, 3) := by decide +kernel
theorem d20 : decode yB 20 = .ok (.if_icmp (.le) 6, 3) := by decide +kernel
theorem d26 : decode yB 26 = .ok (.aload_n 2, 1) := by decide +kernel
theorem d27 : decode yB 27 = .ok (.iload_n 3, 1) := by decide +kernel
theorem d28 : decode yB 28 = .ok (.iload 6, 2) := by decide +kernel
theorem d30 : decode yB 30 = .ok (.i2b, 1) := by decide +kernel
theorem d31 : decode yB 31 = .ok (.bastore, 1) := by decide +kernel
theorem d32 : decode yB 32 = .ok (.iinc 1 1, 3) := by decide +kernel
theorem d35 : decode yB 35 = .ok (.iinc 3 1, 3) := by decide +kernel
theorem d38 : decode yB 38 = .ok (.iinc 5 1, 3) := by decide +kernel
theorem d41 : decode yB 41 = .ok (.goto (-38), 3) := by decide +kernel
theorem d44 : decode yB 44 = .ok (.iload 4, 2) := by decide +kernel
theorem d46 : decode yB 46 = .ok (.ireturn, 1) := by decide +kernel
def site : List Cond := []
def tab : Cond := tabOf yN yB 7 (some .int) site
def P (b : Addr) (A : Cell) (d : Addr) (B : Cell) (o q len : Nat) (args : Array Value) (s : State) : Prop := args = #[.ref b, .int (Int32.ofNat o), .ref d, .int (Int32.ofNat q), .int (Int32.ofNat len)] ∧ Ch b A s ∧ Arr .byte d B s ∧ b ≠ d ∧ o + len ≤ A.slots.size ∧ q + len ≤ B.slots.size ∧ ∀ i, i < len → ¬ 255 < cv A (o + i)
def E (b : Addr) (A : Cell) (d : Addr) (B : Cell) (o q len : Nat) (r : Option Value) (s u : State) : Prop := r = some (.int (Int32.ofNat len)) ∧ ∃ B', Put d B' s u ∧ Laid B B' q (q + len) (fun j => Value.int (lo8 (cv A (o + (j - q)))))
/-- no char of the range above 255: len; the places written hold each char's low byte -/
theorem law (l : Launch) (b : Addr) (A : Cell) (d : Addr) (B : Cell) (o q len : Nat) : Law l yN 5 5 0 0 yB 7 (some .int) site (P b A d B o q len) (E b A d B o q len) (copyLocs d q len) 0 0 := by
  refine Law.of_walk (plainFor_of_name (by decide +kernel)) (by decide +kernel) (by decide +kernel) (by decide) (fun _ _ h => by rw [h.1]; rfl) (fun _ U U' hal hh h => ⟨h.1, h.2.1.mv hal hh, h.2.2.1.mv hal hh, h.2.2.2⟩) (fun r U U' V V' h1 hal h2 h => ⟨h.1, h.2.elim fun B' q => ⟨B', q.1.mv h1 h2, q.2⟩⟩) ?_
  intro p e s m args below meth c s₁ X0 hexec hbytes hml hret hlk hnm hown hh0 W hP
  obtain ⟨rfl, hA, hB, hne, l1, l2, hp⟩ := hP
  have c1 : Steps p.tables e below (s₁.setTop (entryFrame m #[.ref b, .int (Int32.ofNat o), .ref d, .int (Int32.ofNat q), .int (Int32.ofNat len)] 7)) (s₁.setTop (mkF m 0 #[.val (.ref b), .val (.int (Int32.ofNat o)), .val (.ref d), .val (.int (Int32.ofNat q)), .val (.int (Int32.ofNat len)), .unset, .unset] [])) := entry rfl
  have hA0 := hA.1.mv X0.warmed.alike hh0
  have hB0 := hB.mv X0.warmed.alike hh0
  have a31 := hA.1.2.2.2
  have c2 : Steps p.tables e below (s₁.setTop (entryFrame m #[.ref b, .int (Int32.ofNat o), .ref d, .int (Int32.ofNat q), .int (Int32.ofNat len)] 7)) (s₁.setTop (mkF m 3 #[.val (.ref b), .val (.int (Int32.ofNat o)), .val (.ref d), .val (.int (Int32.ofNat q)), .val (.int (Int32.ofNat len)), .val (.int 0), .unset] [])) := c1.trans (by
    refine iconstV X0.here hexec rfl 0 (hb hbytes d0) (by decide) ?_
    refine XS.istore X0.here hexec rfl (hb hbytes d1) rfl rfl ?_
    exact Steps.refl _)
  have loop : ∀ (r i : Nat), i + r = len → ∀ (z : Slot), (z = .unset ∨ ∃ w, z = .val w ∧ w.category = 1) → ∀ (Tl : State) (Bk : Cell), Stand p l e { frames := 0, locals := 0, cells := 0, slots := 0 } s m #[.ref b, .int (Int32.ofNat o), .ref d, .int (Int32.ofNat q), .int (Int32.ofNat len)] below meth c Tl ([] ++ copyLocs d q i) 0 0 → Put d Bk s₁ Tl → Laid B Bk q (q + i) (fun j => Value.int (lo8 (cv A (o + (j - q))))) →
      Steps p.tables e below (s₁.setTop (entryFrame m #[.ref b, .int (Int32.ofNat o), .ref d, .int (Int32.ofNat q), .int (Int32.ofNat len)] 7)) (Tl.setTop (mkF m 3 #[.val (.ref b), .val (.int (Int32.ofNat (o + i))), .val (.ref d), .val (.int (Int32.ofNat (q + i))), .val (.int (Int32.ofNat len)), .val (.int (Int32.ofNat i)), z] [])) → ∃ (T' : State) (B' : Cell) (z' : Slot), Stand p l e { frames := 0, locals := 0, cells := 0, slots := 0 } s m #[.ref b, .int (Int32.ofNat o), .ref d, .int (Int32.ofNat q), .int (Int32.ofNat len)] below meth c T' ([] ++ copyLocs d q len) 0 0 ∧ Put d B' s₁ T' ∧ Laid B B' q (q + len) (fun j => Value.int (lo8 (cv A (o + (j - q))))) ∧
      Steps p.tables e below (s₁.setTop (entryFrame m #[.ref b, .int (Int32.ofNat o), .ref d, .int (Int32.ofNat q), .int (Int32.ofNat len)] 7)) (T'.setTop (mkF m 3 #[.val (.ref b), .val (.int (Int32.ofNat (o + len))), .val (.ref d), .val (.int (Int32.ofNat (q + len))), .val (.int (Int32.ofNat len)), .val (.int (Int32.ofNat len)), z'] [])) := by
    intro r
    induction r with
    | zero =>
      intro i hi z hz Tl Bk Xl pl fl cl
      have hil : i = len := by omega
      rw [hil] at Xl fl cl
      exact ⟨Tl, Bk, z, Xl, pl, fl, cl⟩
    | succ r ih =>
      intro i hi z hz Tl Bk Xl pl fl cl
      have all := X0.warmed.alike.symm.trans Xl.warmed.alike
      have hAl := hA0.keep all (pl.other hne hA0.1)
      have hBk := hB0.like all pl.1 fl.1 fl.2.1 fl.2.2.1
      have hlt : q + i < Bk.slots.size := by rw [fl.2.2.1]; omega
      have c3 : Steps p.tables e below (s₁.setTop (entryFrame m #[.ref b, .int (Int32.ofNat o), .ref d, .int (Int32.ofNat q), .int (Int32.ofNat len)] 7)) (Tl.setTop (mkF m 12 #[.val (.ref b), .val (.int (Int32.ofNat (o + i))), .val (.ref d), .val (.int (Int32.ofNat (q + i))), .val (.int (Int32.ofNat len)), .val (.int (Int32.ofNat i)), z] [.int (Int32.ofNat (o + i)), .ref b])) := cl.trans (by
        refine XS.iload Xl.here hexec rfl (hb hbytes d3) rfl ?_
        refine XS.iload Xl.here hexec rfl (hb hbytes d5) rfl ?_
        refine XS.icmpNo Xl.here hexec rfl (hb hbytes d7) rfl (ii_ge_f (lt32 (by omega) (by omega))) ?_
        refine XS.aloadN Xl.here hexec rfl (hb hbytes d10) rfl rfl ?_
        refine XS.iloadN Xl.here hexec rfl (hb hbytes d11) rfl ?_
        exact Steps.refl _)
      have c4 : Steps p.tables e below (s₁.setTop (entryFrame m #[.ref b, .int (Int32.ofNat o), .ref d, .int (Int32.ofNat q), .int (Int32.ofNat len)] 7)) (Tl.setTop (mkF m 13 #[.val (.ref b), .val (.int (Int32.ofNat (o + i))), .val (.ref d), .val (.int (Int32.ofNat (q + i))), .val (.int (Int32.ofNat len)), .val (.int (Int32.ofNat i)), z] [.int (cv A (o + i))])) := c3.trans (by
        refine Xl.aget hexec hAl rfl (hA.get (i := o + i) (by omega)) rfl rfl (hb hbytes d12) ?_
        exact Steps.refl _)
      have c5 : Steps p.tables e below (s₁.setTop (entryFrame m #[.ref b, .int (Int32.ofNat o), .ref d, .int (Int32.ofNat q), .int (Int32.ofNat len)] 7)) (Tl.setTop (mkF m 15 #[.val (.ref b), .val (.int (Int32.ofNat (o + i))), .val (.ref d), .val (.int (Int32.ofNat (q + i))), .val (.int (Int32.ofNat len)), .val (.int (Int32.ofNat i)), .val (.int (cv A (o + i)))] [])) := c4.trans (by
        refine XS.istoreS Xl.here hexec rfl (hb hbytes d13) rfl rfl hz ?_
        exact Steps.refl _)
      have c6 : Steps p.tables e below (s₁.setTop (entryFrame m #[.ref b, .int (Int32.ofNat o), .ref d, .int (Int32.ofNat q), .int (Int32.ofNat len)] 7)) (Tl.setTop (mkF m 31 #[.val (.ref b), .val (.int (Int32.ofNat (o + i))), .val (.ref d), .val (.int (Int32.ofNat (q + i))), .val (.int (Int32.ofNat len)), .val (.int (Int32.ofNat i)), .val (.int (cv A (o + i)))] [.int (lo8 (cv A (o + i))), .int (Int32.ofNat (q + i)), .ref d])) := c5.trans (by
        refine XS.iload Xl.here hexec rfl (hb hbytes d15) rfl ?_
        refine sipushV Xl.here hexec rfl 255 (hb hbytes d17) (by decide) ?_
        refine XS.icmpYes Xl.here hexec rfl (pc0 := 20) rfl (hb hbytes d20) rfl (ii_le_t (hp i (by omega))) (by decide) rfl ?_
        refine XS.aloadN Xl.here hexec rfl (hb hbytes d26) rfl rfl ?_
        refine XS.iloadN Xl.here hexec rfl (hb hbytes d27) rfl ?_
        refine XS.iload Xl.here hexec rfl (hb hbytes d28) rfl ?_
        refine i2b Xl.here hexec rfl (hb hbytes d30) rfl ?_
        exact Steps.refl _)
      obtain ⟨T7, X7, p7, st7⟩ := Xl.aput hexec hBk rfl hlt rfl (fits_lo8 (cv A (o + i))) (g := (mkF m 31 #[.val (.ref b), .val (.int (Int32.ofNat (o + i))), .val (.ref d), .val (.int (Int32.ofNat (q + i))), .val (.int (Int32.ofNat len)), .val (.int (Int32.ofNat i)), .val (.int (cv A (o + i)))] [.int (lo8 (cv A (o + i))), .int (Int32.ofNat (q + i)), .ref d])) rfl (rest := []) rfl (hb hbytes d31)
      have c8 : Steps p.tables e below (s₁.setTop (entryFrame m #[.ref b, .int (Int32.ofNat o), .ref d, .int (Int32.ofNat q), .int (Int32.ofNat len)] 7)) (T7.setTop (mkF m 32 #[.val (.ref b), .val (.int (Int32.ofNat (o + i))), .val (.ref d), .val (.int (Int32.ofNat (q + i))), .val (.int (Int32.ofNat len)), .val (.int (Int32.ofNat i)), .val (.int (cv A (o + i)))] [])) := c6.trans (st7 _ (Steps.refl _))
      have c9 : Steps p.tables e below (s₁.setTop (entryFrame m #[.ref b, .int (Int32.ofNat o), .ref d, .int (Int32.ofNat q), .int (Int32.ofNat len)] 7)) (T7.setTop (mkF m 3 #[.val (.ref b), .val (.int (Int32.ofNat (o + i) + 1)), .val (.ref d), .val (.int (Int32.ofNat (q + i) + 1)), .val (.int (Int32.ofNat len)), .val (.int (Int32.ofNat i + 1)), .val (.int (cv A (o + i)))] [])) := c8.trans (by
        refine iincV X7.here hexec rfl 1 (hb hbytes d32) (by decide) rfl rfl ?_
        refine iincV X7.here hexec rfl 1 (hb hbytes d35) (by decide) rfl rfl ?_
        refine iincV X7.here hexec rfl 1 (hb hbytes d38) (by decide) rfl rfl ?_
        refine XS.goto X7.here hexec rfl (pc0 := 41) rfl (hb hbytes d41) (by decide) rfl ?_
        exact Steps.refl _)
      have c10 : Steps p.tables e below (s₁.setTop (entryFrame m #[.ref b, .int (Int32.ofNat o), .ref d, .int (Int32.ofNat q), .int (Int32.ofNat len)] 7)) (T7.setTop (mkF m 3 #[.val (.ref b), .val (.int (Int32.ofNat (o + (i + 1)))), .val (.ref d), .val (.int (Int32.ofNat (q + (i + 1)))), .val (.int (Int32.ofNat len)), .val (.int (Int32.ofNat (i + 1))), .val (.int (cv A (o + i)))] [])) := by
        have := c9
        rw [succ32, succ32, succ32] at this
        exact this
      exact ih (i + 1) (by omega) _ (Or.inr ⟨_, rfl, rfl⟩) T7 _ (by rw [copyLocs_step, ← List.append_assoc]; exact X7) (pl.trans p7) (fl.step (by omega) hlt (by simp)) c10
  obtain ⟨T9, B9, z9, X9, p9, f9, g9⟩ := loop len 0 (by omega) .unset (Or.inl rfl) s₁ B (by simpa [copyLocs] using X0) ⟨hB0.1, fun _ _ => rfl, rfl⟩ (Laid.zero _ _ _) c2
  have c11 : Steps p.tables e below (s₁.setTop (entryFrame m #[.ref b, .int (Int32.ofNat o), .ref d, .int (Int32.ofNat q), .int (Int32.ofNat len)] 7)) (T9.setTop (mkF m 46 #[.val (.ref b), .val (.int (Int32.ofNat (o + len))), .val (.ref d), .val (.int (Int32.ofNat (q + len))), .val (.int (Int32.ofNat len)), .val (.int (Int32.ofNat len)), z9] [.int (Int32.ofNat len)])) := g9.trans (by
    refine XS.iload X9.here hexec rfl (hb hbytes d3) rfl ?_
    refine XS.iload X9.here hexec rfl (hb hbytes d5) rfl ?_
    refine XS.icmpYes X9.here hexec rfl (pc0 := 7) rfl (hb hbytes d7) rfl (ii_ge_t (nlt32 (by omega) (Nat.le_refl _))) (by decide) rfl ?_
    refine XS.iload X9.here hexec rfl (hb hbytes d44) rfl ?_
    exact Steps.refl _)
  exact ⟨T9, some (.int (Int32.ofNat len)), _, _, _, X9, by simp, rfl, rfl, (fun h => by cases h), ⟨rfl, B9, p9.from hh0, f9⟩, fun fs hl => c11.trans (X9.ireturnOut hexec hret rfl (Or.inl rfl) (hb hbytes d46) hl)⟩
end Cmp5
namespace Cmp3
def yN : MethodName := ⟨"java/lang/StringUTF16", "compress", "([CII)[B"⟩
abbrev yB : ByteArray := jdk_52_method_16_code
theorem d0 : decode yB 0 = .ok (.iload_n 2, 1) := by decide +kernel
theorem d1 : decode yB 1 = .ok (.newarray .byte, 2) := by decide +kernel
theorem d3 : decode yB 3 = .ok (.astore_n 3, 1) := by decide +kernel
theorem d4 : decode yB 4 = .ok (.aload_n 0, 1) := by decide +kernel
theorem d5 : decode yB 5 = .ok (.iload_n 1, 1) := by decide +kernel
theorem d6 : decode yB 6 = .ok (.aload_n 3, 1) := by decide +kernel
theorem d7 : decode yB 7 = .ok (.iconst 0, 1) := by decide +kernel
theorem d8 : decode yB 8 = .ok (.iload_n 2, 1) := by decide +kernel
theorem d9 : decode yB 9 = .ok (.invokestatic 115, 3) := by decide +kernel
theorem d12 : decode yB 12 = .ok (.istore 4, 2) := by decide +kernel
theorem d14 : decode yB 14 = .ok (.iload 4, 2) := by decide +kernel
theorem d16 : decode yB 16 = .ok (.iload_n 2, 1) := by decide +kernel
theorem d17 : decode yB 17 = .ok (.if_icmp (.eq) 40, 3) := by decide +kernel
theorem d57 : decode yB 57 = .ok (.aload_n 3, 1) := by decide +kernel
theorem d58 : decode yB 58 = .ok (.areturn, 1) := by decide +kernel
def site : List Cond := [.arrayClass .byte, Cmp5.tab] ++ staticW U16 115 Cmp5.yN
def tab : Cond := tabOf yN yB 6 (some (.array .byte)) site
def P (b : Addr) (A : Cell) (o len : Nat) (args : Array Value) (s : State) : Prop := args = #[.ref b, .int (Int32.ofNat o), .int (Int32.ofNat len)] ∧ Ch b A s ∧ o + len ≤ A.slots.size ∧ len ≤ 536870912 ∧ ∀ i, i < len → ¬ 255 < cv A (o + i)
def E (b : Addr) (A : Cell) (o len : Nat) (r : Option Value) (s u : State) : Prop := NewArr .byte "[B" len (fun j => .int (lo8 (cv A (o + j)))) r s u ∧ u.heap.size = s.heap.size + 1
/-- no char of the range above 255: a new byte[] of their low bytes -/
theorem law (l : Launch) (b : Addr) (A : Cell) (o len : Nat) : Law l yN 3 3 1 18 yB 6 (some (.array .byte)) site (P b A o len) (E b A o len) [] 1 len := by
  refine Law.of_walk (plainFor_of_name (by decide +kernel)) (by decide +kernel) (by decide +kernel) (by decide) (fun _ _ h => by rw [h.1]; rfl) (fun _ U U' hal hh h => ⟨h.1, h.2.1.mv hal hh, h.2.2⟩) (fun r U U' V V' h1 hal h2 h => ⟨NewArr.mv r U U' V V' h1 hal h2 h.1, by rw [h1, h2]; exact h.2⟩) ?_
  intro p e s m args below meth c s₁ X0 hexec hbytes hml hret hlk hnm hown hh0 W hP
  obtain ⟨rfl, hA, l1, l2, hp⟩ := hP
  have a31 := hA.1.2.2.2
  have c1 : Steps p.tables e below (s₁.setTop (entryFrame m #[.ref b, .int (Int32.ofNat o), .int (Int32.ofNat len)] 6)) (s₁.setTop (mkF m 0 #[.val (.ref b), .val (.int (Int32.ofNat o)), .val (.int (Int32.ofNat len)), .unset, .unset, .unset] [])) := entry rfl
  have c2 : Steps p.tables e below (s₁.setTop (entryFrame m #[.ref b, .int (Int32.ofNat o), .int (Int32.ofNat len)] 6)) (s₁.setTop (mkF m 1 #[.val (.ref b), .val (.int (Int32.ofNat o)), .val (.int (Int32.ofNat len)), .unset, .unset, .unset] [.int (Int32.ofNat len)])) := c1.trans (by
    refine XS.iloadN X0.here hexec rfl (hb hbytes d0) rfl ?_
    exact Steps.refl _)
  obtain ⟨T3, B3, X3, ba3, bs3, bv3, bh3, bf3, st3⟩ := X0.anew hexec (atype := .byte) (wk W (.arrayClass .byte)) rfl (by show len * 1 ≤ _; omega) (by omega) (g := (mkF m 1 #[.val (.ref b), .val (.int (Int32.ofNat o)), .val (.int (Int32.ofNat len)), .unset, .unset, .unset] [.int (Int32.ofNat len)])) rfl (hb hbytes d1) (rest := []) rfl (Nat.le_refl _) (by show 0 + len ≤ len; omega)
  rw [hh0] at ba3 st3
  have kp3 : XT.Kept s T3 := (XT.Kept.of_eq hh0).push bh3
  have hA3 := hA.keep X3.warmed.alike (kp3 _ _ hA.1.1)
  have hne : b ≠ s.heap.size := hA.1.ne
  have c4 : Steps p.tables e below (s₁.setTop (entryFrame m #[.ref b, .int (Int32.ofNat o), .int (Int32.ofNat len)] 6)) (T3.setTop (mkF m 3 #[.val (.ref b), .val (.int (Int32.ofNat o)), .val (.int (Int32.ofNat len)), .unset, .unset, .unset] [.ref s.heap.size])) := c2.trans (st3 _ (Steps.refl _))
  have c5 : Steps p.tables e below (s₁.setTop (entryFrame m #[.ref b, .int (Int32.ofNat o), .int (Int32.ofNat len)] 6)) (T3.setTop (mkF m 9 #[.val (.ref b), .val (.int (Int32.ofNat o)), .val (.int (Int32.ofNat len)), .val (.ref s.heap.size), .unset, .unset] [.int (Int32.ofNat len), .int 0, .ref s.heap.size, .int (Int32.ofNat o), .ref b])) := c4.trans (by
    refine XS.astoreN X3.here hexec rfl (hb hbytes d3) rfl rfl rfl ?_
    refine XS.aloadN X3.here hexec rfl (hb hbytes d4) rfl rfl ?_
    refine XS.iloadN X3.here hexec rfl (hb hbytes d5) rfl ?_
    refine XS.aloadN X3.here hexec rfl (hb hbytes d6) rfl rfl ?_
    refine iconstV X3.here hexec rfl 0 (hb hbytes d7) (by decide) ?_
    refine XS.iloadN X3.here hexec rfl (hb hbytes d8) rfl ?_
    exact Steps.refl _)
  obtain ⟨v6, T6, X6, E6, g6⟩ := X3.callS hexec (Cmp5.law l b A s.heap.size B3 o 0 len) hown (wks W (staticW U16 115 Cmp5.yN)) (wk W Cmp5.tab) (W := 0) (Nat.le_of_ble_eq_true rfl) (Nat.le_of_ble_eq_true rfl) (Nat.le_refl _) (by show 0 + len + 0 ≤ len; omega) (g := (mkF m 9 #[.val (.ref b), .val (.int (Int32.ofNat o)), .val (.int (Int32.ofNat len)), .val (.ref s.heap.size), .unset, .unset] [.int (Int32.ofNat len), .int (Int32.ofNat 0), .ref s.heap.size, .int (Int32.ofNat o), .ref b])) rfl (by rw [hml]; rfl) c5 (argsL := [.ref b, .int (Int32.ofNat o), .ref s.heap.size, .int (Int32.ofNat 0), .int (Int32.ofNat len)]) (rest := []) rfl rfl (by show 2 * 0 + 0 ≤ _; decide) (hb hbytes d9) (⟨rfl, hA3, ba3, hne, l1, by rw [bs3]; simp, hp⟩)
  obtain ⟨rfl, B6, p6, f6⟩ := E6
  have c7 : Steps p.tables e below (s₁.setTop (entryFrame m #[.ref b, .int (Int32.ofNat o), .int (Int32.ofNat len)] 6)) (T6.setTop (mkF m 12 #[.val (.ref b), .val (.int (Int32.ofNat o)), .val (.int (Int32.ofNat len)), .val (.ref s.heap.size), .unset, .unset] [.int (Int32.ofNat len)])) := g6
  have c8 : Steps p.tables e below (s₁.setTop (entryFrame m #[.ref b, .int (Int32.ofNat o), .int (Int32.ofNat len)] 6)) (T6.setTop (mkF m 58 #[.val (.ref b), .val (.int (Int32.ofNat o)), .val (.int (Int32.ofNat len)), .val (.ref s.heap.size), .val (.int (Int32.ofNat len)), .unset] [.ref s.heap.size])) := c7.trans (by
    refine XS.istore X6.here hexec rfl (hb hbytes d12) rfl rfl ?_
    refine XS.iload X6.here hexec rfl (hb hbytes d14) rfl ?_
    refine XS.iloadN X6.here hexec rfl (hb hbytes d16) rfl ?_
    refine XS.icmpYes X6.here hexec rfl (pc0 := 17) rfl (hb hbytes d17) rfl (ii_eq_t rfl) (by decide) rfl ?_
    refine XS.aloadN X6.here hexec rfl (hb hbytes d57) rfl rfl ?_
    exact Steps.refl _)
  have X8 := X6.wide (L' := []) (cells' := 1) (slots' := len) (fun x hx hlt => by
    simp only [List.nil_append, copyLocs, List.mem_map, List.mem_range] at hx
    obtain ⟨i, -, rfl⟩ := hx
    exact absurd hlt (Nat.lt_irrefl _)) (Nat.le_refl _) (by omega)
  exact ⟨T6, some (.ref s.heap.size), _, _, _, X8, rfl, rfl, rfl, (fun h => by cases h), ⟨⟨rfl, B6, ba3.like (X3.warmed.alike.symm.trans X6.warmed.alike) p6.1 f6.1 f6.2.1 f6.2.2.1, f6.2.1.trans bv3, by rw [X6.warmed.alike.findClass, f6.1]; exact bf3, by rw [f6.2.2.1, bs3]; simp, fun j hj => by rw [f6.2.2.2 j, if_pos (by omega)]; rfl, kp3.put p6 (Nat.le_refl _)⟩, by rw [p6.2.2, bh3, hh0]; simp⟩, fun fs hl => c8.trans (X8.areturnOut hexec rfl hret rfl (hb hbytes d58) hl)⟩
end Cmp3
namespace CodL
def yN : MethodName := ⟨"java/lang/StringUTF16", "coderFromArrayLen", "([BI)B"⟩
abbrev yB : ByteArray := jdk_52_method_15_code
theorem d0 : decode yB 0 = .ok (.iload_n 1, 1) := by decide +kernel
theorem d1 : decode yB 1 = .ok (.aload_n 0, 1) := by decide +kernel
theorem d2 : decode yB 2 = .ok (.arraylength, 1) := by decide +kernel
theorem d3 : decode yB 3 = .ok (.isub, 1) := by decide +kernel
theorem d4 : decode yB 4 = .ok (.bipush 31, 2) := by decide +kernel
theorem d6 : decode yB 6 = .ok (.iushr, 1) := by decide +kernel
theorem d7 : decode yB 7 = .ok (.i2b, 1) := by decide +kernel
theorem d8 : decode yB 8 = .ok (.ireturn, 1) := by decide +kernel
def site : List Cond := []
def tab : Cond := tabOf yN yB 2 (some .byte) site
def P (d : Addr) (B : Cell) (args : Array Value) (s : State) : Prop := args = #[.ref d, .int (Int32.ofNat B.slots.size)] ∧ Arr .byte d B s
def E (r : Option Value) (s u : State) : Prop := XT.PureE (some (.int 0)) r s u
/-- an array as long as the number of chars: LATIN1 -/
theorem law (l : Launch) (d : Addr) (B : Cell) : Law l yN 2 2 0 0 yB 2 (some .byte) site (P d B) E [] 0 0 := by
  refine Law.of_walk (plainFor_of_name (by decide +kernel)) (by decide +kernel) (by decide +kernel) (by decide) (fun _ _ h => by rw [h.1]; rfl) (fun _ U U' hal hh h => ⟨h.1, h.2.mv hal hh⟩) (fun r U U' V V' h1 hal h2 h => XT.PureE.mv r U U' V V' h1 hal h2 h) ?_
  intro p e s m args below meth c s₁ X0 hexec hbytes hml hret hlk hnm hown hh0 W hP
  obtain ⟨rfl, hB⟩ := hP
  have hB0 := hB.mv X0.warmed.alike hh0
  have c1 : Steps p.tables e below (s₁.setTop (entryFrame m #[.ref d, .int (Int32.ofNat B.slots.size)] 2)) (s₁.setTop (mkF m 0 #[.val (.ref d), .val (.int (Int32.ofNat B.slots.size))] [])) := entry rfl
  have c2 : Steps p.tables e below (s₁.setTop (entryFrame m #[.ref d, .int (Int32.ofNat B.slots.size)] 2)) (s₁.setTop (mkF m 2 #[.val (.ref d), .val (.int (Int32.ofNat B.slots.size))] [.ref d, .int (Int32.ofNat B.slots.size)])) := c1.trans (by
    refine XS.iloadN X0.here hexec rfl (hb hbytes d0) rfl ?_
    refine XS.aloadN X0.here hexec rfl (hb hbytes d1) rfl rfl ?_
    exact Steps.refl _)
  have c3 : Steps p.tables e below (s₁.setTop (entryFrame m #[.ref d, .int (Int32.ofNat B.slots.size)] 2)) (s₁.setTop (mkF m 8 #[.val (.ref d), .val (.int (Int32.ofNat B.slots.size))] [.int (lo8 (ushr (Int32.ofNat B.slots.size - Int32.ofNat B.slots.size) 31))])) := c2.trans (by
    refine X0.alen hexec hB0 rfl rfl (hb hbytes d2) ?_
    refine XS.isub X0.here hexec rfl (hb hbytes d3) rfl ?_
    refine bipushV X0.here hexec rfl 31 (hb hbytes d4) (by decide) ?_
    refine iushr X0.here hexec rfl (hb hbytes d6) rfl ?_
    refine i2b X0.here hexec rfl (hb hbytes d7) rfl ?_
    exact Steps.refl _)
  have e0 : lo8 (ushr (Int32.ofNat B.slots.size - Int32.ofNat B.slots.size) 31) = 0 := by rw [Int32.sub_self]; decide
  rw [e0] at c3
  exact ⟨s₁, some (.int 0), _, _, _, X0, rfl, rfl, rfl, (fun h => by cases h), ⟨rfl, hh0⟩, fun fs hl => c3.trans (X0.ireturnOut hexec hret rfl (Or.inr (Or.inr (Or.inl rfl))) (hb hbytes d8) hl)⟩
end CodL
/-- the String at a is Latin-1 over a new byte[] (the heap's one new cell): the low bytes of the len chars of A from o on; every cell but a is kept -/
def Got (a : Addr) (D : Cell) (fV fC : Field) (A : Cell) (o len : Nat) (r : Option Value) (s u : State) : Prop := r = none ∧ ∃ D' V : Cell, Blank "java/lang/String" a D' u ∧ Same D D' [fV.slot, fC.slot] ∧ D'.slots[fV.slot]? = some (.ref s.heap.size) ∧ D'.slots[fC.slot]? = some (.int 0) ∧ Arr .byte s.heap.size V u ∧ V.vm = .none ∧ u.vm.findClass "[B" = some V.cls ∧ V.slots.size = len ∧ (∀ j, j < len → V.slots[j]? = some (.int (lo8 (cv A (o + j))))) ∧ (∀ (y : Addr) (c : Cell), y ≠ a → s.heap[y]? = some c → u.heap[y]? = some c) ∧ u.heap.size = s.heap.size + 1
theorem Got.mv {a : Addr} {D A : Cell} {fV fC : Field} {o len : Nat} : ∀ r (U U' V V' : State), U'.heap = U.heap → V.vm.Alike V'.vm → V'.heap = V.heap → Got a D fV fC A o len r U V → Got a D fV fC A o len r U' V' :=
  fun r U U' V V' h1 hal h2 ⟨e0, D', X, a1, a2, a3, a4, a5, a6, a7, a8, a9, a10, a11⟩ => ⟨e0, D', X, a1.mv hal h2, a2, by rw [h1]; exact a3, a4, by rw [h1]; exact a5.mv hal h2, a6, by rw [hal.findClass]; exact a7, a8, a9, by rw [h1, h2]; exact a10, by rw [h1, h2]; exact a11⟩
namespace New4
def yN : MethodName := ⟨"java/lang/String", "<init>", "([CIILjava/lang/Void;)V"⟩
abbrev yB : ByteArray := jdk_42_method_149_code
theorem d0 : decode yB 0 = .ok (.aload_n 0, 1) := by decide +kernel
theorem d1 : decode yB 1 = .ok (.invokespecial 1, 3) := by decide +kernel
theorem d4 : decode yB 4 = .ok (.iload_n 3, 1) := by decide +kernel
theorem d5 : decode yB 5 = .ok (.ifCond (.ne) 22, 3) := by decide +kernel
theorem d27 : decode yB 27 = .ok (.getstatic 38, 3) := by decide +kernel
theorem d30 : decode yB 30 = .ok (.ifCond (.eq) 28, 3) := by decide +kernel
theorem d33 : decode yB 33 = .ok (.aload_n 1, 1) := by decide +kernel
theorem d34 : decode yB 34 = .ok (.iload_n 2, 1) := by decide +kernel
theorem d35 : decode yB 35 = .ok (.iload_n 3, 1) := by decide +kernel
theorem d36 : decode yB 36 = .ok (.invokestatic 177, 3) := by decide +kernel
theorem d39 : decode yB 39 = .ok (.astore 5, 2) := by decide +kernel
theorem d41 : decode yB 41 = .ok (.aload_n 0, 1) := by decide +kernel
theorem d42 : decode yB 42 = .ok (.aload 5, 2) := by decide +kernel
theorem d44 : decode yB 44 = .ok (.iload_n 3, 1) := by decide +kernel
theorem d45 : decode yB 45 = .ok (.invokestatic 47, 3) := by decide +kernel
theorem d48 : decode yB 48 = .ok (.putfield 15, 3) := by decide +kernel
theorem d51 : decode yB 51 = .ok (.aload_n 0, 1) := by decide +kernel
theorem d52 : decode yB 52 = .ok (.aload 5, 2) := by decide +kernel
theorem d54 : decode yB 54 = .ok (.putfield 9, 3) := by decide +kernel
theorem d57 : decode yB 57 = .ok (.return_, 1) := by decide +kernel
def site : List Cond := [.fieldLink "java/lang/String" 38 "java/lang/String" "COMPACT_STRINGS" "Z", Cmp3.tab, CodL.tab, .laysFinal "java/lang/String" "java/lang/String" "value" "[B", .fieldLink "java/lang/String" 9 "java/lang/String" "value" "[B", .laysFinal "java/lang/String" "java/lang/String" "coder" "B", .fieldLink "java/lang/String" 15 "java/lang/String" "coder" "B"] ++ objW "java/lang/String" 1 ++ staticW "java/lang/String" 177 Cmp3.yN ++ staticW "java/lang/String" 47 CodL.yN
def tab : Cond := tabOf yN yB 6 none site
def P (a : Addr) (D : Cell) (fV fC : Field) (b : Addr) (A : Cell) (z : Int32) (o len : Nat) (args : Array Value) (s : State) : Prop := args = #[.ref a, .ref b, .int (Int32.ofNat o), .int (Int32.ofNat len), .null] ∧ Blank "java/lang/String" a D s ∧ Found "java/lang/String" "value" "[B" fV s ∧ Found "java/lang/String" "coder" "B" fC s ∧ Ch b A s ∧ StaticIs s "java/lang/String" "COMPACT_STRINGS" "Z" (.int z) ∧ ¬ z = 0 ∧ 0 < len ∧ o + len ≤ A.slots.size ∧ len ≤ 536870912 ∧ ∀ i, i < len → ¬ 255 < cv A (o + i)
def E (a : Addr) (D : Cell) (fV fC : Field) (A : Cell) (o len : Nat) (r : Option Value) (s u : State) : Prop := Got a D fV fC A o len r s u
/-- len > 0, no char of the range above 255: a Latin-1 String of their low bytes -/
theorem law (l : Launch) (a : Addr) (D : Cell) (fV fC : Field) (b : Addr) (A : Cell) (z : Int32) (o len : Nat) : Law l yN 5 4 2 35 yB 6 none site (P a D fV fC b A z o len) (E a D fV fC A o len) [⟨a, fC.slot⟩, ⟨a, fV.slot⟩] 1 len := by
  refine Law.of_walk (plainFor_of_name (by decide +kernel)) (by decide +kernel) (by decide +kernel) (by decide) (fun _ _ h => by rw [h.1]; rfl) (fun _ U U' hal hh h => ⟨h.1, h.2.1.mv hal hh, h.2.2.1.al hal, h.2.2.2.1.al hal, h.2.2.2.2.1.mv hal hh, h.2.2.2.2.2.1.there hal hh, h.2.2.2.2.2.2⟩) (fun r U U' V V' h1 hal h2 h => Got.mv r U U' V V' h1 hal h2 h) ?_
  intro p e s m args below meth c s₁ X0 hexec hbytes hml hret hlk hnm hown hh0 W hP
  obtain ⟨rfl, hB, f1, f2, hA, s1, hz, l0, l1, l2, hp⟩ := hP
  have a31 := hA.1.2.2.2
  have c1 : Steps p.tables e below (s₁.setTop (entryFrame m #[.ref a, .ref b, .int (Int32.ofNat o), .int (Int32.ofNat len), .null] 6)) (s₁.setTop (mkF m 0 #[.val (.ref a), .val (.ref b), .val (.int (Int32.ofNat o)), .val (.int (Int32.ofNat len)), .val .null, .unset] [])) := entry rfl
  have c2 : Steps p.tables e below (s₁.setTop (entryFrame m #[.ref a, .ref b, .int (Int32.ofNat o), .int (Int32.ofNat len), .null] 6)) (s₁.setTop (mkF m 1 #[.val (.ref a), .val (.ref b), .val (.int (Int32.ofNat o)), .val (.int (Int32.ofNat len)), .val .null, .unset] [.ref a])) := c1.trans (by
    refine XS.aloadN X0.here hexec rfl (hb hbytes d0) rfl rfl ?_
    exact Steps.refl _)
  obtain ⟨T3, X3, q3, st3⟩ := X0.oinit hexec hown (wks W (objW "java/lang/String" 1)) (g := (mkF m 1 #[.val (.ref a), .val (.ref b), .val (.int (Int32.ofNat o)), .val (.int (Int32.ofNat len)), .val .null, .unset] [.ref a])) rfl (by rw [hml]; rfl) (rest := []) rfl (hb hbytes d1) (W := 0) (by show 2 * 0 + 0 ≤ _; decide) (Nat.le_of_ble_eq_true rfl) (Nat.le_of_ble_eq_true rfl)
  have hh3 := q3.trans hh0
  have c4 : Steps p.tables e below (s₁.setTop (entryFrame m #[.ref a, .ref b, .int (Int32.ofNat o), .int (Int32.ofNat len), .null] 6)) (T3.setTop (mkF m 27 #[.val (.ref a), .val (.ref b), .val (.int (Int32.ofNat o)), .val (.int (Int32.ofNat len)), .val .null, .unset] [])) := (c2.trans (st3 _ (Steps.refl _))).trans (by
    refine XS.iloadN X3.here hexec rfl (hb hbytes d4) rfl ?_
    refine XS.ifYes X3.here hexec rfl (pc0 := 5) rfl (hb hbytes d5) rfl (i0_ne_t (nz32 (by omega) l0)) (by decide) rfl ?_
    exact Steps.refl _)
  obtain ⟨T5, X5, q5, st5⟩ := X3.sget hexec hown (wk W (.fieldLink "java/lang/String" 38 "java/lang/String" "COMPACT_STRINGS" "Z")) s1 (fun _ _ h => by rw [hh3]; exact h) (g := (mkF m 27 #[.val (.ref a), .val (.ref b), .val (.int (Int32.ofNat o)), .val (.int (Int32.ofNat len)), .val .null, .unset] [])) rfl (hb hbytes d27)
  have hh5 := q5.trans hh3
  have c6 : Steps p.tables e below (s₁.setTop (entryFrame m #[.ref a, .ref b, .int (Int32.ofNat o), .int (Int32.ofNat len), .null] 6)) (T5.setTop (mkF m 30 #[.val (.ref a), .val (.ref b), .val (.int (Int32.ofNat o)), .val (.int (Int32.ofNat len)), .val .null, .unset] [.int z])) := c4.trans (st5 _ (Steps.refl _))
  have c7 : Steps p.tables e below (s₁.setTop (entryFrame m #[.ref a, .ref b, .int (Int32.ofNat o), .int (Int32.ofNat len), .null] 6)) (T5.setTop (mkF m 36 #[.val (.ref a), .val (.ref b), .val (.int (Int32.ofNat o)), .val (.int (Int32.ofNat len)), .val .null, .unset] [.int (Int32.ofNat len), .int (Int32.ofNat o), .ref b])) := c6.trans (by
    refine XS.ifNo X5.here hexec rfl (hb hbytes d30) rfl (i0_eq_f hz) ?_
    refine XS.aloadN X5.here hexec rfl (hb hbytes d33) rfl rfl ?_
    refine XS.iloadN X5.here hexec rfl (hb hbytes d34) rfl ?_
    refine XS.iloadN X5.here hexec rfl (hb hbytes d35) rfl ?_
    exact Steps.refl _)
  obtain ⟨v8, T8, X8, E8, g8⟩ := X5.callS hexec (Cmp3.law l b A o len) hown (wks W (staticW "java/lang/String" 177 Cmp3.yN)) (wk W Cmp3.tab) (W := 0) (Nat.le_of_ble_eq_true rfl) (Nat.le_of_ble_eq_true rfl) (Nat.le_refl _) (by show 0 + len ≤ len; omega) (g := (mkF m 36 #[.val (.ref a), .val (.ref b), .val (.int (Int32.ofNat o)), .val (.int (Int32.ofNat len)), .val .null, .unset] [.int (Int32.ofNat len), .int (Int32.ofNat o), .ref b])) rfl (by rw [hml]; rfl) c7 (argsL := [.ref b, .int (Int32.ofNat o), .int (Int32.ofNat len)]) (rest := []) rfl rfl (by show 2 * 0 + 0 ≤ _; decide) (hb hbytes d36) (⟨rfl, hA.mv X5.warmed.alike hh5, l1, l2, hp⟩)
  obtain ⟨e8, z8⟩ := E8
  obtain ⟨rfl, N, n1, n2, n3, n4, n5, n6⟩ := NewArr.mv _ T5 s _ _ hh5.symm (Vm.Alike.refl _) rfl e8
  rw [hh5] at z8
  have hB1 := hB.keep X8.warmed.alike (n6 _ _ hB.1)
  have hne : s.heap.size ≠ a := (Nat.ne_of_lt (Array.getElem?_eq_some_iff.mp hB.1).1).symm
  have c9 : Steps p.tables e below (s₁.setTop (entryFrame m #[.ref a, .ref b, .int (Int32.ofNat o), .int (Int32.ofNat len), .null] 6)) (T8.setTop (mkF m 39 #[.val (.ref a), .val (.ref b), .val (.int (Int32.ofNat o)), .val (.int (Int32.ofNat len)), .val .null, .unset] [.ref s.heap.size])) := g8
  have c10 : Steps p.tables e below (s₁.setTop (entryFrame m #[.ref a, .ref b, .int (Int32.ofNat o), .int (Int32.ofNat len), .null] 6)) (T8.setTop (mkF m 45 #[.val (.ref a), .val (.ref b), .val (.int (Int32.ofNat o)), .val (.int (Int32.ofNat len)), .val .null, .val (.ref s.heap.size)] [.int (Int32.ofNat N.slots.size), .ref s.heap.size, .ref a])) := by
    have hc : Steps p.tables e below (s₁.setTop (entryFrame m #[.ref a, .ref b, .int (Int32.ofNat o), .int (Int32.ofNat len), .null] 6)) (T8.setTop (mkF m 45 #[.val (.ref a), .val (.ref b), .val (.int (Int32.ofNat o)), .val (.int (Int32.ofNat len)), .val .null, .val (.ref s.heap.size)] [.int (Int32.ofNat len), .ref s.heap.size, .ref a])) := c9.trans (by
      refine XS.astore X8.here hexec rfl (hb hbytes d39) rfl rfl rfl ?_
      refine XS.aloadN X8.here hexec rfl (hb hbytes d41) rfl rfl ?_
      refine XS.aload X8.here hexec rfl (hb hbytes d42) rfl rfl ?_
      refine XS.iloadN X8.here hexec rfl (hb hbytes d44) rfl ?_
      exact Steps.refl _)
    rw [n4]; exact hc
  obtain ⟨v11, T11, X11, E11, g11⟩ := X8.callS hexec (CodL.law l s.heap.size N) hown (wks W (staticW "java/lang/String" 47 CodL.yN)) (wk W CodL.tab) (W := 1) (Nat.le_of_ble_eq_true rfl) (Nat.le_of_ble_eq_true rfl) (Nat.le_refl _) (by show 0 + len + 0 ≤ len; omega) (g := (mkF m 45 #[.val (.ref a), .val (.ref b), .val (.int (Int32.ofNat o)), .val (.int (Int32.ofNat len)), .val .null, .val (.ref s.heap.size)] [.int (Int32.ofNat N.slots.size), .ref s.heap.size, .ref a])) rfl (by rw [hml]; rfl) c10 (argsL := [.ref s.heap.size, .int (Int32.ofNat N.slots.size)]) (rest := [.ref a]) rfl rfl (by show 2 * 0 + (1 + 0) ≤ _; decide) (hb hbytes d45) (⟨rfl, n1⟩)
  obtain ⟨rfl, q11⟩ := E11
  have hB11 := hB1.mv (X8.warmed.alike.symm.trans X11.warmed.alike) q11
  have c12 : Steps p.tables e below (s₁.setTop (entryFrame m #[.ref a, .ref b, .int (Int32.ofNat o), .int (Int32.ofNat len), .null] 6)) (T11.setTop (mkF m 48 #[.val (.ref a), .val (.ref b), .val (.int (Int32.ofNat o)), .val (.int (Int32.ofNat len)), .val .null, .val (.ref s.heap.size)] [.int 0, .ref a])) := g11
  obtain ⟨T13, X13, p13, bl13, sl13, st13⟩ := X11.finit hexec hown (wk W (.fieldLink "java/lang/String" 15 "java/lang/String" "coder" "B")) (Or.inr ⟨_, (wk W (.laysFinal "java/lang/String" "java/lang/String" "coder" "B"))⟩) (Or.inl ⟨rfl, hnm⟩) f2 (Or.inl rfl) hB11 (t := .byte) (by decide +kernel) rfl (g := (mkF m 48 #[.val (.ref a), .val (.ref b), .val (.int (Int32.ofNat o)), .val (.int (Int32.ofNat len)), .val .null, .val (.ref s.heap.size)] [.int 0, .ref a])) rfl (rest := []) rfl (hb hbytes d48)
  have c14 : Steps p.tables e below (s₁.setTop (entryFrame m #[.ref a, .ref b, .int (Int32.ofNat o), .int (Int32.ofNat len), .null] 6)) (T13.setTop (mkF m 54 #[.val (.ref a), .val (.ref b), .val (.int (Int32.ofNat o)), .val (.int (Int32.ofNat len)), .val .null, .val (.ref s.heap.size)] [.ref s.heap.size, .ref a])) := (c12.trans (st13 _ (Steps.refl _))).trans (by
    refine XS.aloadN X13.here hexec rfl (hb hbytes d51) rfl rfl ?_
    refine XS.aload X13.here hexec rfl (hb hbytes d52) rfl rfl ?_
    exact Steps.refl _)
  obtain ⟨T15, X15, p15, bl15, sl15, st15⟩ := X13.finit hexec hown (wk W (.fieldLink "java/lang/String" 9 "java/lang/String" "value" "[B")) (Or.inr ⟨_, (wk W (.laysFinal "java/lang/String" "java/lang/String" "value" "[B"))⟩) (Or.inl ⟨rfl, hnm⟩) f1 (Or.inl rfl) bl13 (t := (.array .byte)) (by decide +kernel) rfl (g := (mkF m 54 #[.val (.ref a), .val (.ref b), .val (.int (Int32.ofNat o)), .val (.int (Int32.ofNat len)), .val .null, .val (.ref s.heap.size)] [.ref s.heap.size, .ref a])) rfl (rest := []) rfl (hb hbytes d54)
  have c16 : Steps p.tables e below (s₁.setTop (entryFrame m #[.ref a, .ref b, .int (Int32.ofNat o), .int (Int32.ofNat len), .null] 6)) (T15.setTop (mkF m 57 #[.val (.ref a), .val (.ref b), .val (.int (Int32.ofNat o)), .val (.int (Int32.ofNat len)), .val .null, .val (.ref s.heap.size)] [])) := c14.trans (st15 _ (Steps.refl _))
  have ap := apart (Or.inr ⟨_, (wk W (.laysFinal "java/lang/String" "java/lang/String" "value" "[B"))⟩) (Or.inr ⟨_, (wk W (.laysFinal "java/lang/String" "java/lang/String" "coder" "B"))⟩) f1 f2 (t₁ := .array .byte) (t₂ := .byte) (by decide +kernel) (by decide +kernel) (by decide)
  have al := X8.warmed.alike.symm.trans X15.warmed.alike
  have n7 : T11.heap[s.heap.size]? = some N := by rw [q11]; exact n1.1
  exact ⟨T15, none, _, _, _, X15, by simp, rfl, by omega, (fun _ => rfl), ⟨rfl, _, N, bl15, ((Same.refl D _).set _ (by simp)).set _ (by simp), sl15, (Cell.slots_setSlot_ne _ ap).trans sl13, n1.keep al (p15.other hne (p13.other hne n7)), n2, by rw [al.findClass]; exact n3, n4, n5, fun y c h1 h2 => p15.other h1 (p13.other h1 (by rw [q11]; exact n6 y c h2)), by rw [p15.2.2, p13.2.2, q11]; exact z8⟩, fun fs hl => c16.trans (X15.returnOut hexec hret (hb hbytes d57) hl)⟩
end New4
namespace New1
def yN : MethodName := ⟨"java/lang/String", "<init>", "([C)V"⟩
abbrev yB : ByteArray := jdk_42_method_3_code
theorem d0 : decode yB 0 = .ok (.aload_n 0, 1) := by decide +kernel
theorem d1 : decode yB 1 = .ok (.aload_n 1, 1) := by decide +kernel
theorem d2 : decode yB 2 = .ok (.iconst 0, 1) := by decide +kernel
theorem d3 : decode yB 3 = .ok (.aload_n 1, 1) := by decide +kernel
theorem d4 : decode yB 4 = .ok (.arraylength, 1) := by decide +kernel
theorem d5 : decode yB 5 = .ok (.aconst_null, 1) := by decide +kernel
theorem d6 : decode yB 6 = .ok (.invokespecial 27, 3) := by decide +kernel
theorem d9 : decode yB 9 = .ok (.return_, 1) := by decide +kernel
def site : List Cond := [New4.tab] ++ initW "java/lang/String" 27 New4.yN
def tab : Cond := tabOf yN yB 2 none site
def P (a : Addr) (D : Cell) (fV fC : Field) (b : Addr) (A : Cell) (z : Int32) (args : Array Value) (s : State) : Prop := args = #[.ref a, .ref b] ∧ Blank "java/lang/String" a D s ∧ Found "java/lang/String" "value" "[B" fV s ∧ Found "java/lang/String" "coder" "B" fC s ∧ Ch b A s ∧ StaticIs s "java/lang/String" "COMPACT_STRINGS" "Z" (.int z) ∧ ¬ z = 0 ∧ 0 < A.slots.size ∧ A.slots.size ≤ 536870912 ∧ ∀ i, i < A.slots.size → ¬ 255 < cv A i
def E (a : Addr) (D : Cell) (fV fC : Field) (A : Cell) (r : Option Value) (s u : State) : Prop := Got a D fV fC A 0 A.slots.size r s u
/-- new String(chars), not empty, no char above 255: a Latin-1 String of their low bytes -/
theorem law (l : Launch) (a : Addr) (D : Cell) (fV fC : Field) (b : Addr) (A : Cell) (z : Int32) : Law l yN 2 1 3 52 yB 2 none site (P a D fV fC b A z) (E a D fV fC A) [⟨a, fC.slot⟩, ⟨a, fV.slot⟩] 1 A.slots.size := by
  refine Law.of_walk (plainFor_of_name (by decide +kernel)) (by decide +kernel) (by decide +kernel) (by decide) (fun _ _ h => by rw [h.1]; rfl) (fun _ U U' hal hh h => ⟨h.1, h.2.1.mv hal hh, h.2.2.1.al hal, h.2.2.2.1.al hal, h.2.2.2.2.1.mv hal hh, h.2.2.2.2.2.1.there hal hh, h.2.2.2.2.2.2⟩) (fun r U U' V V' h1 hal h2 h => Got.mv r U U' V V' h1 hal h2 h) ?_
  intro p e s m args below meth c s₁ X0 hexec hbytes hml hret hlk hnm hown hh0 W hP
  obtain ⟨rfl, hB, f1, f2, hA, s1, hz, l0, l2, hp⟩ := hP
  have c1 : Steps p.tables e below (s₁.setTop (entryFrame m #[.ref a, .ref b] 2)) (s₁.setTop (mkF m 0 #[.val (.ref a), .val (.ref b)] [])) := entry rfl
  have c2 : Steps p.tables e below (s₁.setTop (entryFrame m #[.ref a, .ref b] 2)) (s₁.setTop (mkF m 6 #[.val (.ref a), .val (.ref b)] [.null, .int (Int32.ofNat A.slots.size), .int 0, .ref b, .ref a])) := c1.trans (by
    refine XS.aloadN X0.here hexec rfl (hb hbytes d0) rfl rfl ?_
    refine XS.aloadN X0.here hexec rfl (hb hbytes d1) rfl rfl ?_
    refine iconstV X0.here hexec rfl 0 (hb hbytes d2) (by decide) ?_
    refine XS.aloadN X0.here hexec rfl (hb hbytes d3) rfl rfl ?_
    refine X0.alen hexec (hA.1.mv X0.warmed.alike hh0) rfl rfl (hb hbytes d4) ?_
    refine XS.aconstNull X0.here hexec rfl (hb hbytes d5) ?_
    exact Steps.refl _)
  obtain ⟨v3, T3, X3, E3, g3⟩ := X0.callN hexec (New4.law l a D fV fC b A z 0 A.slots.size) rfl hown (wks W (initW "java/lang/String" 27 New4.yN)) (W New4.tab (by simp only [site, List.mem_cons, List.mem_append, true_or, or_true])) (W := 0) (Nat.le_of_ble_eq_true rfl) (Nat.le_of_ble_eq_true rfl) (Nat.le_refl _) (by show 0 + A.slots.size ≤ A.slots.size; omega) (g := (mkF m 6 #[.val (.ref a), .val (.ref b)] [.null, .int (Int32.ofNat A.slots.size), .int (Int32.ofNat 0), .ref b, .ref a])) rfl (by rw [hml]; rfl) c2 (argsL := [.ref b, .int (Int32.ofNat 0), .int (Int32.ofNat A.slots.size), .null]) (rest := []) rfl rfl (by show 2 * 0 + 0 ≤ _; decide) (hb hbytes d6) (⟨rfl, hB.mv X0.warmed.alike hh0, f1.al X0.warmed.alike, f2.al X0.warmed.alike, hA.mv X0.warmed.alike hh0, s1.there X0.warmed.alike hh0, hz, l0, by omega, l2, fun i hi => by rw [Nat.zero_add]; exact hp i hi⟩)
  have e0 := Got.mv _ s₁ s _ _ hh0.symm (Vm.Alike.refl _) rfl E3
  obtain rfl := e0.1
  have c4 : Steps p.tables e below (s₁.setTop (entryFrame m #[.ref a, .ref b] 2)) (T3.setTop (mkF m 9 #[.val (.ref a), .val (.ref b)] [])) := g3
  exact ⟨T3, none, _, _, _, X3, by simp, rfl, by omega, (fun _ => rfl), e0, fun fs hl => c4.trans (X3.returnOut hexec hret (hb hbytes d9) hl)⟩
theorem pays {l : Launch} {R : Room} {p : Program} {e : Env} {below : List Frame} {s : State} {sargs : Array Value} {len W : Nat} (a : Addr) (D : Cell) (fV fC : Field) (b : Addr) (A : Cell) (z : Int32) (htab : tab.before sargs s = true) (hfr : 4 ≤ R.frames) (hlo : W + 65 ≤ R.locals) :
    Back l R p e below s sargs yN len W (fun A₁ a₁ => A₁.cells + 1 ≤ R.cells ∧ A₁.slots + A.slots.size ≤ R.slots ∧ P a D fV fC b A z a₁ A₁.U) (fun A₁ _ v₁ B₁ => E a D fV fC A v₁ A₁.U B₁.U ∧ B₁.locs = A₁.locs ++ [⟨a, fC.slot⟩, ⟨a, fV.slot⟩] ∧ B₁.cells = A₁.cells + 1 ∧ B₁.slots = A₁.slots + A.slots.size) :=
  (law l a D fV fC b A z).pays htab hfr (by omega)
end New1
/-- the byte, read back as charAt reads it, is the char -/
theorem lo8_mask {x : Int32} (h0 : ¬ x < 0) (h1 : ¬ 255 < x) : lo8 x &&& 255 = x := by
  have t : ∀ k : Fin 256, lo8 (Int32.ofNat k.val) &&& 255 = Int32.ofNat k.val := by decide +kernel
  rw [Int32.lt_iff_toInt_lt] at h0 h1
  have e0 : (0 : Int32).toInt = 0 := rfl
  have e1 : (255 : Int32).toInt = 255 := rfl
  obtain ⟨k, hk⟩ : ∃ k : Nat, x.toInt = k := ⟨x.toInt.toNat, by omega⟩
  have hx : x = Int32.ofNat k := Int32.toInt_inj.mp (by rw [hk, Int32.toInt_ofNat_small (by omega)])
  rw [hx]
  exact t ⟨k, by omega⟩
end StrChars
namespace StrChars.Road
open Jvm Sem ClassFile Op Lib Jvm.Stand Jvm.Free Jvm.Free.XT
open Jvm.Lib.Cold (StaticIs)
abbrev ST : String := "java/lang/String"
/-- every table word that New1's law asks, flat -/
abbrev words : List Jvm.Cond := [.code New1.yN New1.yB 2 none, .initialized ST, .methodLink ST 27 New4.yN, .instanceMethod New4.yN,
  .code New4.yN New4.yB 6 none, .fieldLink ST 38 ST "COMPACT_STRINGS" "Z", .laysFinal ST ST "value" "[B", .fieldLink ST 9 ST "value" "[B", .laysFinal ST ST "coder" "B", .fieldLink ST 15 ST "coder" "B",
  .methodLink ST 1 Lib.objectInit, .instanceMethod Lib.objectInit, .code Lib.objectInit ⟨#[0xb1]⟩ 1 none, .methodLink ST 177 Cmp3.yN, .static Cmp3.yN, .methodLink ST 47 CodL.yN, .static CodL.yN,
  .code Cmp3.yN Cmp3.yB 6 (some (.array .byte)), .initialized U16, .arrayClass .byte, .methodLink U16 115 Cmp5.yN, .static Cmp5.yN, .code Cmp5.yN Cmp5.yB 7 (some .int), .code CodL.yN CodL.yB 2 (some .byte)]
theorem tab_of {a : Array Value} {s : State} (h : ∀ w ∈ words, w.before a s = true) : New1.tab.before a s = true := by
  have h5 : Cmp5.tab.before a s = true := unparts (wk h (.code Cmp5.yN Cmp5.yB 7 (some .int))) (wks h (.initialized Cmp5.yN.cls :: Cmp5.site))
  have hc : CodL.tab.before a s = true := unparts (wk h (.code CodL.yN CodL.yB 2 (some .byte))) (wks h (.initialized CodL.yN.cls :: CodL.site))
  have q5 : ∀ w ∈ Cmp5.tab :: words, w.before a s = true := fun w hw => (List.mem_cons.mp hw).elim (fun e => e ▸ h5) (h w)
  have h3 : Cmp3.tab.before a s = true := unparts (wk q5 (.code Cmp3.yN Cmp3.yB 6 (some (.array .byte)))) (wks q5 (.initialized Cmp3.yN.cls :: Cmp3.site))
  have q3 : ∀ w ∈ Cmp3.tab :: CodL.tab :: words, w.before a s = true := fun w hw => (List.mem_cons.mp hw).elim (fun e => e ▸ h3) fun hw => (List.mem_cons.mp hw).elim (fun e => e ▸ hc) (h w)
  have h4 : New4.tab.before a s = true := unparts (wk q3 (.code New4.yN New4.yB 6 none)) (wks q3 (.initialized New4.yN.cls :: New4.site))
  have q4 : ∀ w ∈ New4.tab :: words, w.before a s = true := fun w hw => (List.mem_cons.mp hw).elim (fun e => e ▸ h4) (h w)
  exact unparts (wk q4 (.code New1.yN New1.yB 2 none)) (wks q4 (.initialized New1.yN.cls :: New1.site))
/-- the words ride from the start Z to the walk's own state -/
theorem moved {Z s : State} {a0 args : Array Value} (hZ : Z.Warmed39 s.vm) (hw : ∀ d ∈ words, d.before a0 Z = true) : ∀ d ∈ words, d.before args s = true := fun d hd => by
  have q := hw d hd
  have t : ∀ d ∈ words, d = .arrayClass .byte ∨ (d.onTables && d.keepsFace) = true := by decide +kernel
  rcases t d hd with rfl | t
  · exact RoadKit.mvA hZ q
  · exact RoadKit.mv hZ q t
/-- WHAT COMES BACK, over the tables of the start Z: h the heap at the call, h' behind it -/
def Q (Z : State) (x : Addr) (A : Cell) (h : Heap) (v : Option Value) (h' : Heap) (L : List Loc) : Prop := v = none ∧ (∀ y ∈ L, y.base = x) ∧ RoadKit.Keep h h' [x] ∧ h'.size = h.size + 1 ∧ RoadKit.Exa Z h' x ST ∧ RoadKit.Fld Z h' x ST "value" "[B" (.ref h.size) ∧ RoadKit.Fld Z h' x ST "coder" "B" (.int 0) ∧
  (∃ V : Cell, RoadKit.Arr Z h' h.size V .byte ∧ V.vm = .none ∧ Z.vm.findClass "[B" = some V.cls ∧ V.slots.size = A.slots.size ∧ ∀ j, j < A.slots.size → V.slots[j]? = some (.int (lo8 (cv A j)))) ∧
  ∀ (O n d : String) (w : Value), RoadKit.Fld Z h x O n d w → RoadKit.slotOf Z O n d ≠ RoadKit.slotOf Z ST "value" "[B" → RoadKit.slotOf Z O n d ≠ RoadKit.slotOf Z ST "coder" "B" → RoadKit.Fld Z h' x O n d w
/-- **new String(chars) AT A CALL, IN THE ROAD'S FORM**: for specialBack behind newO: x the fresh String, b the char[] with the cell A -/
theorem back {p : Program} {l : Launch} {e : Env} {R : Room} {s : State} {args : Array Value} {below : List Frame} {len W : Nat} {Z : State} {a0 : Array Value} {h : Heap} (hZ : Z.Warmed39 s.vm) (hw : ∀ d ∈ words, d.before a0 Z = true) {kI : Nat} (wi : (Jvm.Cond.instantiable ST kI).before a0 Z = true)
    {x b : Addr} {A : Cell} {z : Int32} {v0 c0 : Value} (E : RoadKit.Exa Z h x ST) (V : RoadKit.Fld Z h x ST "value" "[B" v0) (C : RoadKit.Fld Z h x ST "coder" "B" c0) (K : RoadKit.Arr Z h b A .char) (hty : Typed .char A) (S : RoadKit.Sta Z h ST "COMPACT_STRINGS" "Z" (.int z)) (hz : ¬ z = 0)
    (l0 : 0 < A.slots.size) (l2 : A.slots.size ≤ 536870912) (hp : ∀ i, i < A.slots.size → ¬ 255 < cv A i) (hfr : 4 ≤ R.frames) (hlo : W + 65 ≤ R.locals) :
    Back l R p e below s args New1.yN len W (fun P a => a = #[.ref x, .ref b] ∧ P.U.heap = h ∧ P.cells + 1 ≤ R.cells ∧ P.slots + A.slots.size ≤ R.slots)
      (fun P _ v B => ∃ L, Q Z x A h v B.U.heap L ∧ B.locs = P.locs ++ L ∧ B.cells = P.cells + 1 ∧ B.slots = P.slots + A.slots.size) := by
  intro m meth c P g ig mk a X hg hsize hdg hW hn hp'
  obtain ⟨rfl, rfl, r1, r2⟩ := hp'
  have al : Z.vm.Alike P.U.vm := hZ.alike.trans X.warmed.alike
  obtain ⟨D, cfV, kV, iV, fV, hD, gV, stV, knV, obV, asV, slV⟩ := id V
  obtain ⟨D', cfC, kC, iC, fC, hD', gC, stC, -, -, asC, slC⟩ := id C
  cases hD.symm.trans hD'
  obtain ⟨D2, kD, e1, e2, e3, e4, e5⟩ := id E
  cases hD.symm.trans e1
  obtain ⟨c2, k2, i1, i2, i3, -⟩ := Cond.instantiable_spec wi
  cases e2.symm.trans i1
  cases e3.symm.trans i2
  obtain ⟨kU, u1, u2⟩ := al.2.2 _ _ e3
  have hB : Blank ST x D P.U := ⟨hD, ⟨knV, fun q hq => by rw [hq] at obV; cases obV⟩, by rw [al.findClass]; exact e2, kU, u1, by rw [u2]; exact i3, by rw [u2]; exact e5 i3⟩
  have F1 : Found ST "value" "[B" fV P.U := ⟨SBG.found_only al ⟨cfV, kV, iV, gV⟩, stV⟩
  have F2 : Found ST "coder" "B" fC P.U := ⟨SBG.found_only al ⟨cfC, kC, iC, gC⟩, stC⟩
  have hA : Ch b A P.U := ⟨⟨K.1, State.isArrayOf_alike al K.2.1, K.2.2, by omega⟩, hty⟩
  have hS : StaticIs P.U ST "COMPACT_STRINGS" "Z" (.int z) := by
    obtain ⟨cfS, iS, kS, fS, st, cS, t1, t2, t3, t4, t5, t6, t7⟩ := S
    exact StaticIs.there (s := { Z with heap := P.U.heap }) ⟨cfS, iS, kS, fS, st, cS, t1, t2, t3, t4, t5, (fun q => by rw [q] at t6; cases t6), t7⟩ al rfl
  obtain ⟨v, B, X', ⟨⟨hv, E', V', q1, q2, q3, q4, q5, q6, q7, q8, q9, q10, q11⟩, hl, hc, hs⟩, st⟩ := New1.pays x D fV fC b A z (tab_of (moved hZ hw)) hfr hlo m meth c P g ig mk _ X hg hsize hdg hW hn ⟨r1, r2, rfl, hB, F1, F2, hA, hS, hz, l0, l2, hp⟩
  have al' : Z.vm.Alike B.U.vm := hZ.alike.trans X'.warmed.alike
  have hsz : E'.slots.size = D.slots.size := by
    obtain ⟨-, -, -, kB, w1, w2, w3⟩ := q1
    obtain ⟨kB', y1, y2⟩ := al'.2.2 _ _ e3
    rw [q2.2.1] at w1
    cases w1.symm.trans y1
    rw [w3, e5 i3, y2]
  refine ⟨v, B, X', ⟨_, ⟨hv, ?_, ⟨by omega, fun y cy hy hn' => q10 y cy (by simpa using hn') hy, fun y cy hy => ?_⟩, q11, ⟨E', _, q1.1, by rw [q2.2.1]; exact e2, by rw [q2.2.1]; exact e3, by rw [q2.1]; exact obV, fun _ => by rw [hsz]; exact e5 i3⟩,
    ⟨E', cfV, kV, iV, fV, q1.1, gV, stV, by rw [q2.1]; exact knV, by rw [q2.1]; exact obV, by rw [q2.2.1]; exact asV, q3⟩, ⟨E', cfC, kC, iC, fC, q1.1, gC, stC, by rw [q2.1]; exact knV, by rw [q2.1]; exact obV, by rw [q2.2.1]; exact asC, q4⟩,
    ⟨V', ⟨q5.1, State.isArrayOf_alike al'.symm q5.2.1, q5.2.2.1⟩, q6, by rw [← al'.findClass]; exact q7, q8, fun j hj => by have := q9 j hj; rwa [Nat.zero_add] at this⟩, fun O n d w F n1 n2 => ?_⟩, hl, hc, hs⟩, st⟩
  · intro y hy
    simp only [List.mem_cons, List.not_mem_nil, or_false] at hy
    rcases hy with rfl | rfl <;> rfl
  · by_cases q : y = x
    · subst q
      cases hD.symm.trans hy
      exact ⟨E', q1.1, q2.2.1, q2.1, hsz⟩
    · exact ⟨cy, q10 y cy q hy, rfl, rfl, rfl⟩
  · obtain ⟨D3, cf, k, i, f, g1, g2, g3, g4, g5, g6, g7⟩ := F
    cases hD.symm.trans g1
    simp only [RoadKit.slotOf, g2, gV, gC, Option.map_some, Option.getD_some] at n1 n2
    exact ⟨E', cf, k, i, f, q1.1, g2, g3, by rw [q2.1]; exact g4, by rw [q2.1]; exact g5, by rw [q2.2.1]; exact g6, by rw [q2.2.2 f.slot (by simp [n1, n2])]; exact g7⟩
end StrChars.Road
namespace StrChars.Road
open Jvm Sem ClassFile Op Lib Jvm.Stand Jvm.Free Jvm.Free.XT
/-- WHAT COMES BACK, the byte[] as a list of values -/
def QA (Z : State) (x : Addr) (zn : Int32) (cs : List Int32) (h : Heap) (v : Option Value) (h' : Heap) (L : List Loc) : Prop := v = none ∧ (∀ y ∈ L, y.base = x) ∧ RoadKit.Keep h h' [x] ∧ h'.size = h.size + 1 ∧ RoadKit.Exa Z h' x ST ∧ RoadKit.Fld Z h' x ST "value" "[B" (.ref h.size) ∧ RoadKit.Fld Z h' x ST "coder" "B" (.int 0) ∧
  (∃ kb, Z.vm.findClass "[B" = some kb ∧ RoadKit.Arv Z h' h.size kb .byte zn (cs.map fun c => .int (lo8 c)) (.int 0)) ∧
  ∀ (O n d : String) (w : Value), RoadKit.Fld Z h x O n d w → RoadKit.slotOf Z O n d ≠ RoadKit.slotOf Z ST "value" "[B" → RoadKit.slotOf Z O n d ≠ RoadKit.slotOf Z ST "coder" "B" → RoadKit.Fld Z h' x O n d w
/-- **new String(chars) AT A CALL, THE ARRAYS AS LISTS**: the char[] at b holds cs, not empty, no char above 255 -/
theorem backArv {p : Program} {l : Launch} {e : Env} {R : Room} {s : State} {args : Array Value} {below : List Frame} {len W : Nat} {Z : State} {a0 : Array Value} {h : Heap} (hZ : Z.Warmed39 s.vm) (hw : ∀ d ∈ words, d.before a0 Z = true) {kI : Nat} (wi : (Jvm.Cond.instantiable ST kI).before a0 Z = true)
    {x b : Addr} {k : ClassId} {zn z : Int32} {cs : List Int32} {dv v0 c0 : Value} (E : RoadKit.Exa Z h x ST) (V : RoadKit.Fld Z h x ST "value" "[B" v0) (C : RoadKit.Fld Z h x ST "coder" "B" c0) (K : RoadKit.Arv Z h b k .char zn (cs.map Value.int) dv) (S : RoadKit.Sta Z h ST "COMPACT_STRINGS" "Z" (.int z)) (hz : ¬ z = 0)
    (hlen : zn.toNatClampNeg = cs.length) (h0 : 0 < cs.length) (hbig : cs.length ≤ 536870912) (hall : ∀ c ∈ cs, ¬ 255 < c) (hfr : 4 ≤ R.frames) (hlo : W + 65 ≤ R.locals) :
    Back l R p e below s args New1.yN len W (fun P a => a = #[.ref x, .ref b] ∧ P.U.heap = h ∧ P.cells + 1 ≤ R.cells ∧ P.slots + cs.length ≤ R.slots)
      (fun P _ v B => ∃ L, QA Z x zn cs h v B.U.heap L ∧ B.locs = P.locs ++ L ∧ B.cells = P.cells + 1 ∧ B.slots = P.slots + cs.length) := by
  obtain ⟨A, K1, K2, K3, K4, K5, K6⟩ := K
  have e : A.slots.size = cs.length := K3.trans hlen
  have hat : ∀ (i : Nat) (hi : i < cs.length), A.slots[i]? = some (.int cs[i]) := fun i hi => by rw [K5 i (by omega)]; simp [List.getD_eq_getElem?_getD, hi]
  have hcv : ∀ (i : Nat) (hi : i < cs.length), cv A i = cs[i] := fun i hi => by unfold cv; rw [hat i hi]
  have hty : Typed .char A := fun i v hv => by
    have hi : i < A.slots.size := (Array.getElem?_eq_some_iff.mp hv).1
    have q := K5 i hi
    rw [hv] at q
    rw [Option.some.inj q]
    exact K6 i hi
  refine Back.mono (back hZ hw wi E V C K1 hty S hz (by omega) (by omega) (fun i hi => by rw [hcv i (by omega)]; exact hall _ (List.getElem_mem _)) hfr hlo) (fun P a hp => ⟨hp.1, hp.2.1, hp.2.2.1, by rw [e]; exact hp.2.2.2⟩) (fun P a v B hp hq => ?_)
  obtain ⟨L, ⟨q1, q2, q3, q4, q5, q6, q7, ⟨V', v1, v2, v3, v4, v5⟩, q9⟩, hl, hc, hs⟩ := hq
  refine ⟨L, ⟨q1, q2, q3, q4, q5, q6, q7, ⟨V'.cls, v3, V', v1, rfl, by rw [v4, e, hlen], K4, fun i hi => ?_, fun i hi => ?_⟩, q9⟩, hl, hc, by rw [hs, e]⟩
  · have hi' : i < cs.length := by omega
    rw [v5 i (by omega), hcv i hi']; simp [List.getD_eq_getElem?_getD, hi']
  · have hi' : i < cs.length := by omega
    simp only [List.getD_eq_getElem?_getD, List.getElem?_map, List.getElem?_eq_getElem hi', Option.map_some, Option.getD_some]
    exact fits_lo8 _
end StrChars.Road
namespace StrChars.Road
open Jvm Sem ClassFile Op Lib Jvm.Stand Jvm.Free Jvm.Free.XT
/-- WHAT COMES BACK, in the writer's own shape -/
def QV (Z : State) (x : Addr) (N : Int32) (bs : List Int32) (h : Heap) (n0 : Nat) (v : Option Value) (h' : Heap) (L : List Loc) : Prop := v = none ∧ RoadKit.Fr n0 L ∧ RoadKit.Keep h h' [x] ∧ RoadKit.Exa Z h' x ST ∧ RoadKit.Fld Z h' x ST "coder" "B" (.int 0) ∧
  ∃ (t : Addr) (kb : ClassId), n0 ≤ t ∧ h.size ≤ t ∧ ¬ t = x ∧ RoadKit.Fld Z h' x ST "value" "[B" (.ref t) ∧ RoadKit.Arv Z h' t kb .byte N (bs.map Value.int) (.int 0)
/-- **new String(chars) AT A CALL, FOR THE WRITER**: a char[] of n known ints, each 0 to 255 -/
theorem backV {p : Program} {l : Launch} {e : Env} {R : Room} {s : State} {args : Array Value} {below : List Frame} {len W : Nat} {Z : State} {a0 : Array Value} {h : Heap} (hZ : Z.Warmed39 s.vm) (hw : ∀ d ∈ words, d.before a0 Z = true) {kI : Nat} (wi : (Jvm.Cond.instantiable ST kI).before a0 Z = true)
    {x b : Addr} {kC : ClassId} {cs bs : List Int32} {d v0 c0 : Value} {z N : Int32} {n n0 : Nat} (hx0 : n0 ≤ x) (hh0 : n0 ≤ h.size) (E : RoadKit.Exa Z h x ST) (V : RoadKit.Fld Z h x ST "value" "[B" v0) (C : RoadKit.Fld Z h x ST "coder" "B" c0) (K : RoadKit.Arv Z h b kC .char N (cs.map Value.int) d) (S : RoadKit.Sta Z h ST "COMPACT_STRINGS" "Z" (.int z)) (hz : ¬ z = 0)
    (hn : cs.length = n) (hN : N = Int32.ofNat n) (l0 : 0 < n) (l2 : n ≤ 4000) (hp : ∀ c ∈ cs, ¬ c < 0 ∧ ¬ (255 : Int32) < c) (hb : bs = cs.map (fun c => c.toInt8.toInt32)) (hfr : 4 ≤ R.frames) (hlo : W + 65 ≤ R.locals) :
    Back l R p e below s args (⟨"java/lang/String", "<init>", "([C)V"⟩ : MethodName) len W (fun P a => a = #[.ref x, .ref b] ∧ P.U.heap = h ∧ P.cells + 1 ≤ R.cells ∧ P.slots + n ≤ R.slots)
      (fun P _ v B => ∃ L, QV Z x N bs h n0 v B.U.heap L ∧ B.locs = P.locs ++ L ∧ B.cells = P.cells + 1 ∧ B.slots = P.slots + n) := by
  subst hn hN hb
  refine Back.mono (backArv hZ hw wi E V C K S hz (n32 (by omega)) l0 (by omega) (fun c hc => (hp c hc).2) hfr hlo) (fun P a hp => hp) (fun P a v B hp hq => ?_)
  obtain ⟨L, ⟨q1, q2, q3, q4, q5, q6, q7, ⟨kb, v1, v2⟩, q9⟩, hl, hc, hs⟩ := hq
  exact ⟨L, ⟨q1, fun y hy => by rw [q2 y hy]; exact hx0, q3, q5, q7, h.size, kb, hh0, Nat.le_refl _, Nat.ne_of_gt E.lt, q6, by rw [List.map_map]; exact v2⟩, hl, hc, hs⟩
end StrChars.Road
namespace StrChars
open Jvm Sem ClassFile Op Lib Jvm.Stand Jvm.Free.XT Jvm.Free.ALB Jvm.Free.JM Jvm.Free
open Jvm.Lib.Cold (StaticIs)
def hi8 (x : Int32) : Int32 := lo8 (x >>> ((8 : Int32) &&& 31))
/-- what StringUTF16.getChar makes of two bytes -/
def pairCh (u v : Int32) : Int32 := (((u &&& 255) <<< ((0 : Int32) &&& 31)) ||| ((v &&& 255) <<< ((8 : Int32) &&& 31))).toUInt32.toUInt16.toUInt32.toInt32
theorem shr0 (c : Int32) : c >>> ((0 : Int32) &&& 31) = c := by
  have e : ((0 : Int32) &&& 31) = 0 := by decide
  rw [e]
  apply Int32.toBitVec_inj.mp
  rw [Int32.toBitVec_shiftRight]
  have e1 : ((0 : Int32).toBitVec.smod 32) = 0#32 := by decide
  rw [e1, BitVec.sshiftRight_eq']
  exact BitVec.sshiftRight_zero
theorem lo8_and (x : Int32) : (lo8 x &&& 255).toBitVec.toNat = x.toBitVec.toNat % 256 := by
  have h : (lo8 x).toBitVec = (x.toBitVec.signExtend 8).signExtend 32 := by rw [lo8, Int8.toBitVec_toInt32, Int32.toBitVec_toInt8]
  rw [Int32.toBitVec_and, BitVec.toNat_and, h]
  have e : ((x.toBitVec.signExtend 8).signExtend 32).toNat % 256 = x.toBitVec.toNat % 256 := by
    rw [BitVec.toNat_signExtend]
    have hlt := x.toBitVec.isLt
    simp only [BitVec.toNat_setWidth, BitVec.toNat_signExtend]
    split <;> split <;> omega
  rw [← e]
  exact Nat.and_two_pow_sub_one_eq_mod _ 8
theorem pair_says {c : Int32} (h0 : ¬ c < 0) (h1 : ¬ 65535 < c) : pairCh (lo8 c) (hi8 c) = c := by
  rw [Int32.lt_iff_toInt_lt] at h0 h1
  have e0 : (0 : Int32).toInt = 0 := rfl
  have e1 : (65535 : Int32).toInt = 65535 := rfl
  have hc : c.toInt = c.toBitVec.toNat := by
    have := c.toBitVec.isLt
    have e : c.toInt = c.toBitVec.toInt := rfl
    rw [e] at h0 h1
    rw [e]
    rw [BitVec.toInt_eq_toNat_cond] at h0 h1 ⊢
    split at h0 <;> split <;> omega
  have hn : c.toBitVec.toNat < 65536 := by omega
  have a1 := lo8_and c
  have a2 : (hi8 c &&& 255).toBitVec.toNat = c.toBitVec.toNat / 256 := by
    rw [hi8, lo8_and]
    have e : ((8 : Int32) &&& 31) = 8 := by decide
    rw [e, Int32.toBitVec_shiftRight]
    have e2 : ((8 : Int32).toBitVec.smod 32) = 8#32 := by decide
    rw [e2, BitVec.sshiftRight_eq', BitVec.toNat_sshiftRight_of_msb_false (by rw [BitVec.msb_eq_false_iff_two_mul_lt]; omega)]
    show c.toBitVec.toNat >>> 8 % 256 = _
    rw [Nat.shiftRight_eq_div_pow]
    omega
  unfold pairCh
  apply Int32.toBitVec_inj.mp
  apply BitVec.eq_of_toNat_eq
  have f0 : ((0 : Int32) &&& 31) = 0 := by decide
  have f8 : ((8 : Int32) &&& 31) = 8 := by decide
  rw [f0, f8]
  have g : (((lo8 c &&& 255) <<< (0 : Int32)) ||| ((hi8 c &&& 255) <<< (8 : Int32))).toBitVec.toNat = c.toBitVec.toNat := by
    rw [Int32.toBitVec_or, Int32.toBitVec_shiftLeft, Int32.toBitVec_shiftLeft]
    have s0 : ((0 : Int32).toBitVec.smod 32) = 0#32 := by decide
    have s8 : ((8 : Int32).toBitVec.smod 32) = 8#32 := by decide
    rw [s0, s8, BitVec.toNat_or]
    simp only [BitVec.shiftLeft_eq', BitVec.toNat_shiftLeft, a1, a2]
    show (c.toBitVec.toNat % 256) <<< 0 % 2 ^ 32 ||| (c.toBitVec.toNat / 256) <<< 8 % 2 ^ 32 = _
    rw [Nat.shiftLeft_zero, Nat.mod_eq_of_lt (show c.toBitVec.toNat % 256 < 2 ^ 32 by omega), Nat.mod_eq_of_lt (show (c.toBitVec.toNat / 256) <<< 8 < 2 ^ 32 by rw [Nat.shiftLeft_eq]; omega), Nat.or_comm, ← Nat.shiftLeft_add_eq_or_of_lt (by omega), Nat.shiftLeft_eq]
    omega
  show BitVec.toNat (((((lo8 c &&& 255) <<< (0 : Int32)) ||| ((hi8 c &&& 255) <<< (8 : Int32))).toBitVec.setWidth 16).setWidth 32) = _
  rw [BitVec.toNat_setWidth, BitVec.toNat_setWidth, g]
  omega
end StrChars
namespace StrChars
open Jvm Sem ClassFile Op Lib Jvm.Stand Jvm.Free.XT Jvm.Free.ALB Jvm.Free.JM Jvm.Free
open Jvm.Lib.Cold (StaticIs)
theorem shr1 {n : Nat} (h : 2 * n < 2 ^ 31) : Int32.ofNat (2 * n) >>> ((1 : Int32) &&& 31) = Int32.ofNat n := by
  have e : ((1 : Int32) &&& 31) = 1 := by decide
  rw [e]
  apply Int32.toBitVec_inj.mp
  rw [Int32.toBitVec_shiftRight]
  have e1 : ((1 : Int32).toBitVec.smod 32) = 1#32 := by decide
  have hm : (BitVec.ofNat 32 (2 * n)).toNat = 2 * n := by rw [BitVec.toNat_ofNat, Nat.mod_eq_of_lt (by omega)]
  rw [e1, BitVec.sshiftRight_eq']
  apply BitVec.eq_of_toNat_eq
  show ((BitVec.ofNat 32 (2 * n)).sshiftRight 1).toNat = (BitVec.ofNat 32 n).toNat
  rw [BitVec.toNat_sshiftRight_of_msb_false (by rw [BitVec.msb_eq_false_iff_two_mul_lt, hm]; omega), hm, BitVec.toNat_ofNat, Nat.shiftRight_eq_div_pow]
  omega
/-- charAt's cast of a byte read back -/
def chr8 (u : Int32) : Int32 := (u &&& 255).toUInt32.toUInt16.toUInt32.toInt32
theorem chr8_lo8 {c : Int32} (h0 : ¬ c < 0) (h1 : ¬ 255 < c) : chr8 (lo8 c) = c := by
  have t : ∀ k : Fin 256, (Int32.ofNat k.val).toUInt32.toUInt16.toUInt32.toInt32 = Int32.ofNat k.val := by decide +kernel
  unfold chr8
  rw [lo8_mask h0 h1]
  rw [Int32.lt_iff_toInt_lt] at h0 h1
  have e0 : (0 : Int32).toInt = 0 := rfl
  have e1 : (255 : Int32).toInt = 255 := rfl
  obtain ⟨k, hk⟩ : ∃ k : Nat, c.toInt = k := ⟨c.toInt.toNat, by omega⟩
  have hx : c = Int32.ofNat k := Int32.toInt_inj.mp (by rw [hk, Int32.toInt_ofNat_small (by omega)])
  rw [hx]
  exact t ⟨k, by omega⟩
theorem narrow_ch {c : Int32} (h0 : ¬ c < 0) (h1 : ¬ 65535 < c) : narrow .char (.int c) = .int c := by
  have q : narrow .char (.int (pairCh (lo8 c) (hi8 c))) = .int (pairCh (lo8 c) (hi8 c)) := narrow_c _
  rwa [pair_says h0 h1] at q
/-- the array's cell V codes the n chars f 0 .. f (n - 1) by the coder cd, as the JDK does: coder 1 just where some char is above 255 -/
def Cod (cd : Int32) (n : Nat) (f : Nat → Int32) (V : Cell) : Prop := (cd = 0 ∧ V.slots.size = n ∧ ∀ j, j < n → V.slots[j]? = some (.int (lo8 (f j))) ∧ ¬ 255 < f j) ∨ (cd = 1 ∧ V.slots.size = 2 * n ∧ (∀ j, j < n → V.slots[2 * j]? = some (.int (lo8 (f j))) ∧ V.slots[2 * j + 1]? = some (.int (hi8 (f j)))) ∧ ∃ j, j < n ∧ 255 < f j)
theorem Cod.cd {cd : Int32} {n : Nat} {f : Nat → Int32} {V : Cell} (h : Cod cd n f V) : cd = 0 ∨ cd = 1 := h.imp (fun q => q.1) fun q => q.1
theorem Cod.len {cd : Int32} {n : Nat} {f : Nat → Int32} {V : Cell} (h : Cod cd n f V) (hs : V.slots.size < 2 ^ 31) : Int32.ofNat V.slots.size >>> (cd &&& 31) = Int32.ofNat n := by
  rcases h with ⟨rfl, h, -⟩ | ⟨rfl, h, -⟩
  · rw [shr0, h]
  · rw [h, shr1 (by omega)]
/-- **x is a String of the n chars f 0 .. f (n - 1)**, Latin-1 or UTF-16; its array at t has the cell V -/
def Txt (x t : Addr) (V : Cell) (cd : Int32) (n : Nat) (f : Nat → Int32) (U : State) : Prop := Exact "java/lang/String" x U ∧ Has x "java/lang/String" "value" "[B" (.ref t) U ∧ Has x "java/lang/String" "coder" "B" (.int cd) U ∧ XT.Arr .byte t V U ∧ Cod cd n f V ∧ ∀ j, j < n → ¬ f j < 0 ∧ ¬ 65535 < f j
theorem Txt.mv {x t : Addr} {V : Cell} {cd : Int32} {n : Nat} {f : Nat → Int32} {U U' : State} (h : Txt x t V cd n f U) (hal : U.vm.Alike U'.vm) (hh : U'.heap = U.heap) : Txt x t V cd n f U' := ⟨h.1.mv hal hh, h.2.1.mv hal hh, h.2.2.1.mv hal hh, h.2.2.2.1.mv hal hh, h.2.2.2.2⟩
namespace Cdr
def yN : MethodName := ⟨"java/lang/String", "coder", "()B"⟩
abbrev yB : ByteArray := jdk_42_method_152_code
theorem d0 : decode yB 0 = .ok (.getstatic 38, 3) := by decide +kernel
theorem d3 : decode yB 3 = .ok (.ifCond (.eq) 10, 3) := by decide +kernel
theorem d6 : decode yB 6 = .ok (.aload_n 0, 1) := by decide +kernel
theorem d7 : decode yB 7 = .ok (.getfield 15, 3) := by decide +kernel
theorem d10 : decode yB 10 = .ok (.goto 4, 3) := by decide +kernel
theorem d14 : decode yB 14 = .ok (.ireturn, 1) := by decide +kernel
def site : List Cond := [.fieldLink "java/lang/String" 38 "java/lang/String" "COMPACT_STRINGS" "Z", .fieldLink "java/lang/String" 15 "java/lang/String" "coder" "B"]
def tab : Cond := tabOf yN yB 1 (some .byte) site
def P (x : Addr) (cd z : Int32) (args : Array Value) (s : State) : Prop := args = #[.ref x] ∧ Has x "java/lang/String" "coder" "B" (.int cd) s ∧ (cd = 0 ∨ cd = 1) ∧ StaticIs s "java/lang/String" "COMPACT_STRINGS" "Z" (.int z) ∧ ¬ z = 0
def E (cd : Int32) (r : Option Value) (s u : State) : Prop := XT.PureE (some (.int cd)) r s u
theorem law (l : Launch) (x : Addr) (cd z : Int32) : Law l yN 1 0 0 0 yB 1 (some .byte) site (P x cd z) (E cd) [] 0 0 := by
  refine Law.of_walk (plainFor_of_name (by decide +kernel)) (by decide +kernel) (by decide +kernel) (by decide) (fun _ _ h => by rw [h.1]; rfl) (fun _ U U' hal hh h => ⟨h.1, h.2.1.mv hal hh, h.2.2.1, h.2.2.2.1.there hal hh, h.2.2.2.2⟩) (fun r U U' V V' h1 hal h2 h => XT.PureE.mv r U U' V V' h1 hal h2 h) ?_
  intro p e s m args below meth c s₁ X0 hexec hbytes hml hret hlk hnm hown hh0 W hP
  obtain ⟨rfl, hx, hc, s1, hz⟩ := hP
  have c1 : Steps p.tables e below (s₁.setTop (entryFrame m #[.ref x] 1)) (s₁.setTop (mkF m 0 #[.val (.ref x)] [])) := entry rfl
  obtain ⟨T2, X2, q2, st2⟩ := X0.sget hexec hown (wk W (.fieldLink "java/lang/String" 38 "java/lang/String" "COMPACT_STRINGS" "Z")) s1 (fun _ _ h => by rw [hh0]; exact h) (g := (mkF m 0 #[.val (.ref x)] [])) rfl (hb hbytes d0)
  have hh2 := q2.trans hh0
  have c3 : Steps p.tables e below (s₁.setTop (entryFrame m #[.ref x] 1)) (T2.setTop (mkF m 7 #[.val (.ref x)] [.ref x])) := (c1.trans (st2 _ (Steps.refl _))).trans (by
    refine XS.ifNo X2.here hexec rfl (hb hbytes d3) rfl (i0_eq_f hz) ?_
    refine XS.aloadN X2.here hexec rfl (hb hbytes d6) rfl rfl ?_
    exact Steps.refl _)
  obtain ⟨T4, X4, q4, st4⟩ := X2.hget hexec hown (wk W (.fieldLink "java/lang/String" 15 "java/lang/String" "coder" "B")) (hx.mv X2.warmed.alike hh2) (g := (mkF m 7 #[.val (.ref x)] [.ref x])) rfl (rest := []) rfl (hb hbytes d7)
  have c5 : Steps p.tables e below (s₁.setTop (entryFrame m #[.ref x] 1)) (T4.setTop (mkF m 14 #[.val (.ref x)] [.int cd])) := (c3.trans (st4 _ (Steps.refl _))).trans (by
    refine XS.goto X4.here hexec rfl (pc0 := 10) rfl (hb hbytes d10) (by decide) rfl ?_
    exact Steps.refl _)
  exact ⟨T4, some (.int cd), _, _, _, X4, rfl, rfl, rfl, (fun h => by cases h), ⟨rfl, q4.trans hh2⟩, fun fs hl => c5.trans (X4.ireturnOut hexec hret (by rcases hc with rfl | rfl <;> rfl) (Or.inr (Or.inr (Or.inl rfl))) (hb hbytes d14) hl)⟩
end Cdr
namespace Len
def yN : MethodName := ⟨"java/lang/String", "length", "()I"⟩
abbrev yB : ByteArray := jdk_42_method_54_code
theorem d0 : decode yB 0 = .ok (.aload_n 0, 1) := by decide +kernel
theorem d1 : decode yB 1 = .ok (.getfield 9, 3) := by decide +kernel
theorem d4 : decode yB 4 = .ok (.arraylength, 1) := by decide +kernel
theorem d5 : decode yB 5 = .ok (.aload_n 0, 1) := by decide +kernel
theorem d6 : decode yB 6 = .ok (.invokevirtual 335, 3) := by decide +kernel
theorem d9 : decode yB 9 = .ok (.ishr, 1) := by decide +kernel
theorem d10 : decode yB 10 = .ok (.ireturn, 1) := by decide +kernel
def site : List Cond := [.fieldLink "java/lang/String" 9 "java/lang/String" "value" "[B", Cdr.tab] ++ virtW "java/lang/String" 335 "java/lang/String" Cdr.yN Cdr.yN
def tab : Cond := tabOf yN yB 1 (some .int) site
def P (x t : Addr) (V : Cell) (cd : Int32) (n : Nat) (f : Nat → Int32) (z : Int32) (args : Array Value) (s : State) : Prop := args = #[.ref x] ∧ Txt x t V cd n f s ∧ StaticIs s "java/lang/String" "COMPACT_STRINGS" "Z" (.int z) ∧ ¬ z = 0
def E (n : Nat) (r : Option Value) (s u : State) : Prop := XT.PureE (some (.int (Int32.ofNat n))) r s u
/-- length() of a String of n chars, in either coding -/
theorem law (l : Launch) (x t : Addr) (V : Cell) (cd : Int32) (n : Nat) (f : Nat → Int32) (z : Int32) : Law l yN 1 0 1 13 yB 1 (some .int) site (P x t V cd n f z) (E n) [] 0 0 := by
  refine Law.of_walk (plainFor_of_name (by decide +kernel)) (by decide +kernel) (by decide +kernel) (by decide) (fun _ _ h => by rw [h.1]; rfl) (fun _ U U' hal hh h => ⟨h.1, h.2.1.mv hal hh, h.2.2.1.there hal hh, h.2.2.2⟩) (fun r U U' V V' h1 hal h2 h => XT.PureE.mv r U U' V V' h1 hal h2 h) ?_
  intro p e s m args below meth c s₁ X0 hexec hbytes hml hret hlk hnm hown hh0 W hP
  obtain ⟨rfl, hx, s1, hz⟩ := hP
  have v31 := hx.2.2.2.1.2.2.2
  have c1 : Steps p.tables e below (s₁.setTop (entryFrame m #[.ref x] 1)) (s₁.setTop (mkF m 1 #[.val (.ref x)] [.ref x])) := Steps.trans (entry rfl) (by
    show Steps p.tables e below (s₁.setTop (mkF m 0 #[.val (.ref x)] [])) _
    refine XS.aloadN X0.here hexec rfl (hb hbytes d0) rfl rfl ?_
    exact Steps.refl _)
  obtain ⟨T2, X2, q2, st2⟩ := X0.hget hexec hown (wk W (.fieldLink "java/lang/String" 9 "java/lang/String" "value" "[B")) (hx.mv X0.warmed.alike hh0).2.1 (g := (mkF m 1 #[.val (.ref x)] [.ref x])) rfl (rest := []) rfl (hb hbytes d1)
  have hh2 := q2.trans hh0
  have hx2 := hx.mv X2.warmed.alike hh2
  have c3 : Steps p.tables e below (s₁.setTop (entryFrame m #[.ref x] 1)) (T2.setTop (mkF m 6 #[.val (.ref x)] [.ref x, .int (Int32.ofNat V.slots.size)])) := (c1.trans (st2 _ (Steps.refl _))).trans (by
    refine X2.alen hexec hx2.2.2.2.1 rfl rfl (hb hbytes d4) ?_
    refine XS.aloadN X2.here hexec rfl (hb hbytes d5) rfl rfl ?_
    exact Steps.refl _)
  obtain ⟨v4, T4, X4, E4, g4⟩ := X2.callV hexec (Cdr.law l x cd z) hown (wks W (virtW "java/lang/String" 335 "java/lang/String" Cdr.yN Cdr.yN)) rfl (by decide) (wk W Cdr.tab) (W := 1) (Nat.le_of_ble_eq_true rfl) (Nat.le_of_ble_eq_true rfl) (Nat.le_refl _) (Nat.le_refl _) (hx2.1.fc X2.warmed.alike) hx2.1.is (g := (mkF m 6 #[.val (.ref x)] [.ref x, .int (Int32.ofNat V.slots.size)])) rfl (by rw [hml]; rfl) c3 (argsL := []) (rest := [.int (Int32.ofNat V.slots.size)]) rfl rfl (by show 2 * 0 + (1 + 0) ≤ _; decide) (hb hbytes d6) (⟨rfl, hx2.2.2.1, hx.2.2.2.2.1.cd, s1.there X2.warmed.alike hh2, hz⟩)
  obtain ⟨rfl, q4⟩ := E4
  have c5 : Steps p.tables e below (s₁.setTop (entryFrame m #[.ref x] 1)) (T4.setTop (mkF m 10 #[.val (.ref x)] [.int (Int32.ofNat V.slots.size >>> (cd &&& 31))])) := Steps.trans g4 (by
    refine ishr X4.here hexec rfl (hb hbytes d9) rfl ?_
    exact Steps.refl _)
  rw [hx.2.2.2.2.1.len v31] at c5
  exact ⟨T4, some (.int (Int32.ofNat n)), _, _, _, X4, rfl, rfl, rfl, (fun h => by cases h), ⟨rfl, q4.trans hh2⟩, fun fs hl => c5.trans (X4.ireturnOut hexec hret rfl (Or.inl rfl) (hb hbytes d10) hl)⟩
theorem pays {l : Launch} {R : Room} {p : Program} {e : Env} {below : List Frame} {s : State} {sargs : Array Value} {len W : Nat} (x t : Addr) (V : Cell) (cd : Int32) (n : Nat) (f : Nat → Int32) (z : Int32) (htab : tab.before sargs s = true) (hfr : 2 ≤ R.frames) (hlo : W + 25 ≤ R.locals) :
    Back l R p e below s sargs yN len W (fun A₁ a₁ => A₁.cells + 0 ≤ R.cells ∧ A₁.slots + 0 ≤ R.slots ∧ P x t V cd n f z a₁ A₁.U) (fun A₁ _ v₁ B₁ => E n v₁ A₁.U B₁.U ∧ B₁.locs = A₁.locs ++ [] ∧ B₁.cells = A₁.cells + 0 ∧ B₁.slots = A₁.slots + 0) :=
  (law l x t V cd n f z).pays htab hfr (by omega)
end Len
namespace IsL
def yN : MethodName := ⟨"java/lang/String", "isLatin1", "()Z"⟩
abbrev yB : ByteArray := jdk_42_method_154_code
theorem d0 : decode yB 0 = .ok (.getstatic 38, 3) := by decide +kernel
theorem d3 : decode yB 3 = .ok (.ifCond (.eq) 14, 3) := by decide +kernel
theorem d6 : decode yB 6 = .ok (.aload_n 0, 1) := by decide +kernel
theorem d7 : decode yB 7 = .ok (.getfield 15, 3) := by decide +kernel
theorem d10 : decode yB 10 = .ok (.ifCond (.ne) 7, 3) := by decide +kernel
theorem d13 : decode yB 13 = .ok (.iconst 1, 1) := by decide +kernel
theorem d14 : decode yB 14 = .ok (.goto 4, 3) := by decide +kernel
theorem d17 : decode yB 17 = .ok (.iconst 0, 1) := by decide +kernel
theorem d18 : decode yB 18 = .ok (.ireturn, 1) := by decide +kernel
def site : List Cond := [.fieldLink "java/lang/String" 38 "java/lang/String" "COMPACT_STRINGS" "Z", .fieldLink "java/lang/String" 15 "java/lang/String" "coder" "B"]
def tab : Cond := tabOf yN yB 1 (some .boolean) site
def P (x : Addr) (cd z : Int32) (args : Array Value) (s : State) : Prop := args = #[.ref x] ∧ Has x "java/lang/String" "coder" "B" (.int cd) s ∧ (cd = 0 ∨ cd = 1) ∧ StaticIs s "java/lang/String" "COMPACT_STRINGS" "Z" (.int z) ∧ ¬ z = 0
def E (cd : Int32) (r : Option Value) (s u : State) : Prop := XT.PureE (some (.int (1 - cd))) r s u
theorem law (l : Launch) (x : Addr) (cd z : Int32) : Law l yN 1 0 0 0 yB 1 (some .boolean) site (P x cd z) (E cd) [] 0 0 := by
  refine Law.of_walk (plainFor_of_name (by decide +kernel)) (by decide +kernel) (by decide +kernel) (by decide) (fun _ _ h => by rw [h.1]; rfl) (fun _ U U' hal hh h => ⟨h.1, h.2.1.mv hal hh, h.2.2.1, h.2.2.2.1.there hal hh, h.2.2.2.2⟩) (fun r U U' V V' h1 hal h2 h => XT.PureE.mv r U U' V V' h1 hal h2 h) ?_
  intro p e s m args below meth c s₁ X0 hexec hbytes hml hret hlk hnm hown hh0 W hP
  obtain ⟨rfl, hx, hc, s1, hz⟩ := hP
  have c1 : Steps p.tables e below (s₁.setTop (entryFrame m #[.ref x] 1)) (s₁.setTop (mkF m 0 #[.val (.ref x)] [])) := entry rfl
  obtain ⟨T2, X2, q2, st2⟩ := X0.sget hexec hown (wk W (.fieldLink "java/lang/String" 38 "java/lang/String" "COMPACT_STRINGS" "Z")) s1 (fun _ _ h => by rw [hh0]; exact h) (g := (mkF m 0 #[.val (.ref x)] [])) rfl (hb hbytes d0)
  have hh2 := q2.trans hh0
  have c3 : Steps p.tables e below (s₁.setTop (entryFrame m #[.ref x] 1)) (T2.setTop (mkF m 7 #[.val (.ref x)] [.ref x])) := (c1.trans (st2 _ (Steps.refl _))).trans (by
    refine XS.ifNo X2.here hexec rfl (hb hbytes d3) rfl (i0_eq_f hz) ?_
    refine XS.aloadN X2.here hexec rfl (hb hbytes d6) rfl rfl ?_
    exact Steps.refl _)
  obtain ⟨T4, X4, q4, st4⟩ := X2.hget hexec hown (wk W (.fieldLink "java/lang/String" 15 "java/lang/String" "coder" "B")) (hx.mv X2.warmed.alike hh2) (g := (mkF m 7 #[.val (.ref x)] [.ref x])) rfl (rest := []) rfl (hb hbytes d7)
  have c5 : Steps p.tables e below (s₁.setTop (entryFrame m #[.ref x] 1)) (T4.setTop (mkF m 10 #[.val (.ref x)] [.int cd])) := c3.trans (st4 _ (Steps.refl _))
  have c6 : Steps p.tables e below (s₁.setTop (entryFrame m #[.ref x] 1)) (T4.setTop (mkF m 18 #[.val (.ref x)] [.int (1 - cd)])) := by
    rcases hc with rfl | rfl
    · exact c5.trans (by
        refine XS.ifNo X4.here hexec rfl (hb hbytes d10) rfl (i0_ne_f rfl) ?_
        refine iconstV X4.here hexec rfl 1 (hb hbytes d13) (by decide) ?_
        refine XS.goto X4.here hexec rfl (pc0 := 14) rfl (hb hbytes d14) (by decide) rfl ?_
        exact Steps.refl _)
    · exact c5.trans (by
        refine XS.ifYes X4.here hexec rfl (pc0 := 10) rfl (hb hbytes d10) rfl (i0_ne_t (by decide)) (by decide) rfl ?_
        refine iconstV X4.here hexec rfl 0 (hb hbytes d17) (by decide) ?_
        exact Steps.refl _)
  exact ⟨T4, some (.int (1 - cd)), _, _, _, X4, rfl, rfl, rfl, (fun h => by cases h), ⟨rfl, q4.trans hh2⟩, fun fs hl => c6.trans (X4.ireturnOut hexec hret (by rcases hc with rfl | rfl <;> rfl) (Or.inr (Or.inl rfl)) (hb hbytes d18) hl)⟩
end IsL
namespace LChA
def yN : MethodName := ⟨"java/lang/StringLatin1", "charAt", "([BI)C"⟩
abbrev yB : ByteArray := jdk_43_method_2_code
theorem d0 : decode yB 0 = .ok (.iload_n 1, 1) := by decide +kernel
theorem d1 : decode yB 1 = .ok (.aload_n 0, 1) := by decide +kernel
theorem d2 : decode yB 2 = .ok (.arraylength, 1) := by decide +kernel
theorem d3 : decode yB 3 = .ok (.invokestatic 9, 3) := by decide +kernel
theorem d6 : decode yB 6 = .ok (.aload_n 0, 1) := by decide +kernel
theorem d7 : decode yB 7 = .ok (.iload_n 1, 1) := by decide +kernel
theorem d8 : decode yB 8 = .ok (.baload, 1) := by decide +kernel
theorem d9 : decode yB 9 = .ok (.sipush 255, 3) := by decide +kernel
theorem d12 : decode yB 12 = .ok (.iand, 1) := by decide +kernel
theorem d13 : decode yB 13 = .ok (.i2c, 1) := by decide +kernel
theorem d14 : decode yB 14 = .ok (.ireturn, 1) := by decide +kernel
def site : List Cond := [JO.Str_checkIndex.tab] ++ staticW "java/lang/StringLatin1" 9 JO.Str_checkIndex.yN
def tab : Cond := tabOf yN yB 2 (some .char) site
def P (t : Addr) (V : Cell) (i : Nat) (u : Int32) (fm : Value) (args : Array Value) (s : State) : Prop := args = #[.ref t, .int (Int32.ofNat i)] ∧ XT.Arr .byte t V s ∧ V.slots[i]? = some (.int u) ∧ (StaticIs s "jdk/internal/util/Preconditions" "SIOOBE_FORMATTER" "Ljava/util/function/BiFunction;" fm ∧ fm.isRef = true)
def E (u : Int32) (r : Option Value) (s w : State) : Prop := XT.PureE (some (.int (chr8 u))) r s w
theorem law (l : Launch) (t : Addr) (V : Cell) (i : Nat) (u : Int32) (fm : Value) : Law l yN 2 2 2 27 yB 2 (some .char) site (P t V i u fm) (E u) [] 0 0 := by
  refine Law.of_walk (plainFor_of_name (by decide +kernel)) (by decide +kernel) (by decide +kernel) (by decide) (fun _ _ h => by rw [h.1]; rfl) (fun _ U U' hal hh h => ⟨h.1, h.2.1.mv hal hh, h.2.2.1, h.2.2.2.1.there hal hh, h.2.2.2.2⟩) (fun r U U' V V' h1 hal h2 h => XT.PureE.mv r U U' V V' h1 hal h2 h) ?_
  intro p e s m args below meth c s₁ X0 hexec hbytes hml hret hlk hnm hown hh0 W hP
  obtain ⟨rfl, hV, hu, s1, rf⟩ := hP
  have v31 := hV.2.2.2
  have hi : i < V.slots.size := (Array.getElem?_eq_some_iff.mp hu).1
  have c1 : Steps p.tables e below (s₁.setTop (entryFrame m #[.ref t, .int (Int32.ofNat i)] 2)) (s₁.setTop (mkF m 0 #[.val (.ref t), .val (.int (Int32.ofNat i))] [])) := entry rfl
  have c2 : Steps p.tables e below (s₁.setTop (entryFrame m #[.ref t, .int (Int32.ofNat i)] 2)) (s₁.setTop (mkF m 3 #[.val (.ref t), .val (.int (Int32.ofNat i))] [.int (Int32.ofNat V.slots.size), .int (Int32.ofNat i)])) := c1.trans (by
    refine XS.iloadN X0.here hexec rfl (hb hbytes d0) rfl ?_
    refine XS.aloadN X0.here hexec rfl (hb hbytes d1) rfl rfl ?_
    refine X0.alen hexec (hV.mv X0.warmed.alike hh0) rfl rfl (hb hbytes d2) ?_
    exact Steps.refl _)
  obtain ⟨v3, T3, X3, E3, g3⟩ := X0.callS hexec (JO.Str_checkIndex.law l (Int32.ofNat i) (Int32.ofNat V.slots.size) fm) hown (wks W (staticW "java/lang/StringLatin1" 9 JO.Str_checkIndex.yN)) (wk W JO.Str_checkIndex.tab) (W := 0) (Nat.le_of_ble_eq_true rfl) (Nat.le_of_ble_eq_true rfl) (Nat.le_refl _) (Nat.le_refl _) (g := (mkF m 3 #[.val (.ref t), .val (.int (Int32.ofNat i))] [.int (Int32.ofNat V.slots.size), .int (Int32.ofNat i)])) rfl (by rw [hml]; rfl) c2 (argsL := [.int (Int32.ofNat i), .int (Int32.ofNat V.slots.size)]) (rest := []) rfl rfl (by show 2 * 0 + 0 ≤ _; decide) (hb hbytes d3) (⟨rfl, rf, s1.there X0.warmed.alike hh0, Int32.ofNat_not_neg (by omega), lt32 v31 hi⟩)
  obtain ⟨rfl, q3⟩ := E3
  have hh3 := q3.trans hh0
  have c4 : Steps p.tables e below (s₁.setTop (entryFrame m #[.ref t, .int (Int32.ofNat i)] 2)) (T3.setTop (mkF m 14 #[.val (.ref t), .val (.int (Int32.ofNat i))] [.int (chr8 u)])) := Steps.trans g3 (by
    refine XS.aloadN X3.here hexec rfl (hb hbytes d6) rfl rfl ?_
    refine XS.iloadN X3.here hexec rfl (hb hbytes d7) rfl ?_
    refine X3.aget hexec (hV.mv X3.warmed.alike hh3) rfl hu rfl rfl (hb hbytes d8) ?_
    refine sipushV X3.here hexec rfl 255 (hb hbytes d9) (by decide) ?_
    refine XS.iand X3.here hexec rfl (hb hbytes d12) rfl ?_
    refine i2c X3.here hexec rfl (hb hbytes d13) rfl ?_
    exact Steps.refl _)
  exact ⟨T3, some (.int (chr8 u)), _, _, _, X3, rfl, rfl, rfl, (fun h => by cases h), ⟨rfl, hh3⟩, fun fs hl => c4.trans (X3.ireturnOut hexec hret (narrow_c _) (Or.inr (Or.inr (Or.inr (Or.inl rfl)))) (hb hbytes d14) hl)⟩
end LChA
end StrChars
namespace StrChars.Road
open Jvm Sem ClassFile Op Lib Jvm.Stand Jvm.Free Jvm.Free.XT
open Jvm.Lib.Cold (StaticIs)
theorem consq {a : Array Value} {s : State} {c : Jvm.Cond} {L : List Jvm.Cond} (h0 : c.before a s = true) (h : ∀ w ∈ L, w.before a s = true) : ∀ w ∈ c :: L, w.before a s = true := fun w hw => (List.mem_cons.mp hw).elim (fun e => e ▸ h0) (h w)
/-- the words of String.length(), either coding -/
abbrev wordsLen : List Jvm.Cond := [.code Len.yN Len.yB 1 (some .int), .initialized ST, .fieldLink ST 9 ST "value" "[B", .fieldLink ST 38 ST "COMPACT_STRINGS" "Z", .fieldLink ST 15 ST "coder" "B", .code Cdr.yN Cdr.yB 1 (some .byte), .methodLink ST 335 Cdr.yN, .declares Cdr.yN, .selects ST Cdr.yN Cdr.yN, .instanceMethod Cdr.yN]
theorem tabLen_of {a : Array Value} {s : State} (h : ∀ w ∈ wordsLen, w.before a s = true) : Len.tab.before a s = true := by
  have hc : Cdr.tab.before a s = true := unparts (wk h (.code Cdr.yN Cdr.yB 1 (some .byte))) (wks h (.initialized Cdr.yN.cls :: Cdr.site))
  have q := consq hc h
  exact unparts (wk q (.code Len.yN Len.yB 1 (some .int))) (wks q (.initialized Len.yN.cls :: Len.site))
theorem movedLen {Z s : State} {a0 args : Array Value} (hZ : Z.Warmed39 s.vm) (hw : ∀ d ∈ wordsLen, d.before a0 Z = true) : ∀ d ∈ wordsLen, d.before args s = true := fun d hd => by
  have q := hw d hd
  have t : ∀ d ∈ wordsLen, d = .arrayClass .byte ∨ (d.onTables && d.keepsFace) = true := by decide +kernel
  rcases t d hd with rfl | t
  · exact RoadKit.mvA hZ q
  · exact RoadKit.mv hZ q t
/-- the bytes of the chars cs, low before high -/
def wideBytes : List Int32 → List Value
  | [] => []
  | c :: cs => .int (lo8 c) :: .int (hi8 c) :: wideBytes cs
theorem wide_lo (d : Value) : ∀ (cs : List Int32) (j : Nat), j < cs.length → (wideBytes cs).getD (2 * j) d = .int (lo8 (cs.getD j 0))
  | [], j, h => absurd h (Nat.not_lt_zero j)
  | c :: cs, 0, _ => rfl
  | c :: cs, j + 1, h => by
    have q := wide_lo d cs j (by simpa using h)
    rw [show 2 * (j + 1) = 2 * j + 1 + 1 from by omega]
    simpa [wideBytes] using q
theorem wide_hi (d : Value) : ∀ (cs : List Int32) (j : Nat), j < cs.length → (wideBytes cs).getD (2 * j + 1) d = .int (hi8 (cs.getD j 0))
  | [], j, h => absurd h (Nat.not_lt_zero j)
  | c :: cs, 0, _ => rfl
  | c :: cs, j + 1, h => by
    have q := wide_hi d cs j (by simpa using h)
    rw [show 2 * (j + 1) + 1 = 2 * j + 1 + 1 + 1 from by omega]
    simpa [wideBytes] using q
theorem low_at (d : Value) (cs : List Int32) (j : Nat) (h : j < cs.length) : (cs.map fun c => Value.int (lo8 c)).getD j d = .int (lo8 (cs.getD j 0)) := by
  simp [List.getD_eq_getElem?_getD, h]
/-- an array of N2 bytes vs codes the chars cs by the coder cd -/
def CodA (cs : List Int32) (cd N2 : Int32) (vs : List Value) : Prop := (cd = 0 ∧ N2 = Int32.ofNat cs.length ∧ vs = (cs.map fun c => Value.int (lo8 c)) ∧ ∀ c ∈ cs, ¬ 255 < c) ∨ (cd = 1 ∧ N2 = Int32.ofNat (2 * cs.length) ∧ vs = wideBytes cs ∧ ∃ c ∈ cs, 255 < c)
theorem CodA.cod {cs : List Int32} {cd N2 : Int32} {vs : List Value} {V : Cell} (h : CodA cs cd N2 vs) (hn : 2 * cs.length < 2 ^ 31) (hs : V.slots.size = N2.toNatClampNeg) (hv : RoadKit.Has V vs (.int 0)) : Cod cd cs.length (fun j => cs.getD j 0) V := by
  rcases h with ⟨rfl, rfl, rfl, h⟩ | ⟨rfl, rfl, rfl, c, hc, hw⟩
  · rw [n32 (by omega)] at hs
    exact Or.inl ⟨rfl, hs, fun j hj => ⟨by rw [hv j (by omega), low_at _ _ _ hj], by
      have e : cs.getD j 0 = cs[j] := by simp [List.getD_eq_getElem?_getD, hj]
      show ¬ 255 < cs.getD j 0
      rw [e]; exact h _ (List.getElem_mem _)⟩⟩
  · rw [n32 (by omega)] at hs
    obtain ⟨j, hj, rfl⟩ := List.getElem_of_mem hc
    exact Or.inr ⟨rfl, hs, fun j hj => ⟨by rw [hv _ (by omega), wide_lo _ _ _ hj], by rw [hv _ (by omega), wide_hi _ _ _ hj]⟩, j, hj, by
      have e : cs.getD j 0 = cs[j] := by simp [List.getD_eq_getElem?_getD, hj]
      show 255 < cs.getD j 0
      rw [e]; exact hw⟩
/-- an object of exactly java/lang/String, its two fields found: as the laws ask it -/
theorem strObj {Z U : State} {a0 : Array Value} {kI : Nat} (wi : (Jvm.Cond.instantiable ST kI).before a0 Z = true) (al : Z.vm.Alike U.vm) {x : Addr} {v0 c0 : Value} (E : RoadKit.Exa Z U.heap x ST) (V : RoadKit.Fld Z U.heap x ST "value" "[B" v0) (C : RoadKit.Fld Z U.heap x ST "coder" "B" c0) :
    ∃ (D : Cell) (fV fC : Field), Blank ST x D U ∧ Found ST "value" "[B" fV U ∧ Found ST "coder" "B" fC U ∧ D.slots[fV.slot]? = some v0 ∧ D.slots[fC.slot]? = some c0 ∧ RoadKit.slotOf Z ST "value" "[B" = fV.slot ∧ RoadKit.slotOf Z ST "coder" "B" = fC.slot := by
  obtain ⟨D, cfV, kV, iV, fV, hD, gV, stV, knV, obV, asV, slV⟩ := V
  obtain ⟨D', cfC, kC, iC, fC, hD', gC, stC, -, -, asC, slC⟩ := C
  cases hD.symm.trans hD'
  obtain ⟨D2, kD, e1, e2, e3, e4, e5⟩ := E
  cases hD.symm.trans e1
  obtain ⟨c2, k2, i1, i2, i3, -⟩ := Cond.instantiable_spec wi
  cases e2.symm.trans i1
  cases e3.symm.trans i2
  obtain ⟨kU, u1, u2⟩ := al.2.2 _ _ e3
  exact ⟨D, fV, fC, ⟨hD, ⟨knV, fun q hq => by rw [hq] at obV; cases obV⟩, by rw [al.findClass]; exact e2, kU, u1, by rw [u2]; exact i3, by rw [u2]; exact e5 i3⟩, ⟨SBG.found_only al ⟨cfV, kV, iV, gV⟩, stV⟩, ⟨SBG.found_only al ⟨cfC, kC, iC, gC⟩, stC⟩, slV, slC, by simp [RoadKit.slotOf, gV], by simp [RoadKit.slotOf, gC]⟩
theorem sta_is {Z U : State} (al : Z.vm.Alike U.vm) {C n d : String} {v : Value} (S : RoadKit.Sta Z U.heap C n d v) : StaticIs U C n d v := by
  obtain ⟨cfS, iS, kS, fS, st, cS, t1, t2, t3, t4, t5, t6, t7⟩ := S
  exact StaticIs.there (s := { Z with heap := U.heap }) ⟨cfS, iS, kS, fS, st, cS, t1, t2, t3, t4, t5, (fun q => by rw [q] at t6; cases t6), t7⟩ al rfl
/-- **length() OF SUCH A STRING** -/
theorem lenW {p : Program} {l : Launch} {e : Env} {R : Room} {s : State} {args : Array Value} {below : List Frame} {len W : Nat} {Z : State} {a0 : Array Value} {h : Heap} (hZ : Z.Warmed39 s.vm) (hw : ∀ d ∈ wordsLen, d.before a0 Z = true) {kI : Nat} (wi : (Jvm.Cond.instantiable ST kI).before a0 Z = true)
    {x t : Addr} {kb : ClassId} {cs : List Int32} {cd N2 z : Int32} {vs : List Value} (E : RoadKit.Exa Z h x ST) (V : RoadKit.Fld Z h x ST "value" "[B" (.ref t)) (C : RoadKit.Fld Z h x ST "coder" "B" (.int cd)) (K : RoadKit.Arv Z h t kb .byte N2 vs (.int 0)) (hc : CodA cs cd N2 vs) (hb : ∀ c ∈ cs, ¬ c < 0 ∧ ¬ (65535 : Int32) < c)
    (S : RoadKit.Sta Z h ST "COMPACT_STRINGS" "Z" (.int z)) (hz : ¬ z = 0) (l2 : cs.length ≤ 4000) (hfr : 2 ≤ R.frames) (hlo : W + 25 ≤ R.locals) :
    Back l R p e below s args (⟨"java/lang/String", "length", "()I"⟩ : MethodName) len W (fun P a => a = #[.ref x] ∧ P.U.heap = h ∧ P.cells + 0 ≤ R.cells ∧ P.slots + 0 ≤ R.slots)
      (fun P _ v B => ∃ L, (v = some (.int (Int32.ofNat cs.length)) ∧ L = [] ∧ B.U.heap = h) ∧ B.locs = P.locs ++ L ∧ B.cells = P.cells + 0 ∧ B.slots = P.slots + 0) := by
  obtain ⟨A, K1, K2, K3, K4, K5, K6⟩ := K
  have hcod := hc.cod (by omega) K3 K5
  intro m meth c P g ig mk a X hg hsize hdg hW hn hp'
  obtain ⟨rfl, rfl, r1, r2⟩ := hp'
  have al : Z.vm.Alike P.U.vm := hZ.alike.trans X.warmed.alike
  obtain ⟨D, fV, fC, hB, F1, F2, g1, g2, -, -⟩ := strObj wi al E V C
  have hx : Txt x t A cd cs.length (fun j => cs.getD j 0) P.U := ⟨⟨_, hB.2.2.1, D, hB.1, rfl, by cases q : D.vm <;> first | rfl | exact absurd q (hB.2.1.2 _)⟩, Has.of hB F1 g1, Has.of hB F2 g2, ⟨K1.1, State.isArrayOf_alike al K1.2.1, K1.2.2, by rcases hcod with ⟨-, q, -⟩ | ⟨-, q, -⟩ <;> omega⟩, hcod, fun j hj => by
    have e : cs.getD j 0 = cs[j] := by simp [List.getD_eq_getElem?_getD, hj]
    show ¬ cs.getD j 0 < 0 ∧ ¬ 65535 < cs.getD j 0
    rw [e]; exact hb _ (List.getElem_mem _)⟩
  obtain ⟨v, B, X', ⟨⟨hv, hh⟩, hl, hk, hs⟩, st⟩ := Len.pays x t A cd cs.length (fun j => cs.getD j 0) z (tabLen_of (movedLen hZ hw)) hfr hlo m meth c P g ig mk _ X hg hsize hdg hW hn ⟨r1, r2, rfl, hx, sta_is al S, hz⟩
  exact ⟨v, B, X', ⟨[], ⟨hv, rfl, hh⟩, hl, hk, hs⟩, st⟩
end StrChars.Road
namespace StrChars.Road
open Jvm Sem ClassFile Op Lib Jvm.Stand Jvm.Free Jvm.Free.XT
open Jvm.Lib.Cold (StaticIs)
/-- the road's facts of a String, as the laws ask it -/
theorem txt_of {Z U : State} {a0 : Array Value} {kI : Nat} (wi : (Jvm.Cond.instantiable ST kI).before a0 Z = true) (al : Z.vm.Alike U.vm) {x t : Addr} {kb : ClassId} {cs : List Int32} {cd N2 : Int32} {vs : List Value} (E : RoadKit.Exa Z U.heap x ST) (V : RoadKit.Fld Z U.heap x ST "value" "[B" (.ref t)) (C : RoadKit.Fld Z U.heap x ST "coder" "B" (.int cd)) (K : RoadKit.Arv Z U.heap t kb .byte N2 vs (.int 0)) (hc : CodA cs cd N2 vs) (hb : ∀ c ∈ cs, ¬ c < 0 ∧ ¬ (65535 : Int32) < c) (l2 : cs.length ≤ 4000) :
    ∃ A, Txt x t A cd cs.length (fun j => cs.getD j 0) U := by
  obtain ⟨A, K1, K2, K3, K4, K5, K6⟩ := K
  have hcod := hc.cod (by omega) K3 K5
  obtain ⟨D, fV, fC, hB, F1, F2, g1, g2, -, -⟩ := strObj wi al E V C
  exact ⟨A, ⟨_, hB.2.2.1, D, hB.1, rfl, by cases q : D.vm <;> first | rfl | exact absurd q (hB.2.1.2 _)⟩, Has.of hB F1 g1, Has.of hB F2 g2, ⟨K1.1, State.isArrayOf_alike al K1.2.1, K1.2.2, by rcases hcod with ⟨-, q, -⟩ | ⟨-, q, -⟩ <;> omega⟩, hcod, fun j hj => by
    have e : cs.getD j 0 = cs[j] := by simp [List.getD_eq_getElem?_getD, hj]
    show ¬ cs.getD j 0 < 0 ∧ ¬ 65535 < cs.getD j 0
    rw [e]; exact hb _ (List.getElem_mem _)⟩
end StrChars.Road
namespace StrChars
open Jvm Sem ClassFile Op Lib Jvm.Stand Jvm.Free.XT Jvm.Free.ALB Jvm.Free.JM Jvm.Free
open Jvm.Lib.Cold (StaticIs)
namespace ChN
def yN : MethodName := ⟨"java/lang/String", "charAt", "(I)C"⟩
abbrev yB : ByteArray := jdk_42_method_56_code
theorem d0 : decode yB 0 = .ok (.aload_n 0, 1) := by decide +kernel
theorem d1 : decode yB 1 = .ok (.invokevirtual 492, 3) := by decide +kernel
theorem d4 : decode yB 4 = .ok (.ifCond (.eq) 12, 3) := by decide +kernel
theorem d7 : decode yB 7 = .ok (.aload_n 0, 1) := by decide +kernel
theorem d8 : decode yB 8 = .ok (.getfield 9, 3) := by decide +kernel
theorem d11 : decode yB 11 = .ok (.iload_n 1, 1) := by decide +kernel
theorem d12 : decode yB 12 = .ok (.invokestatic 495, 3) := by decide +kernel
theorem d15 : decode yB 15 = .ok (.ireturn, 1) := by decide +kernel
def site : List Cond := [.fieldLink "java/lang/String" 9 "java/lang/String" "value" "[B", IsL.tab, LChA.tab] ++ virtW "java/lang/String" 492 "java/lang/String" IsL.yN IsL.yN ++ staticW "java/lang/String" 495 LChA.yN
def tab : Cond := tabOf yN yB 2 (some .char) site
def P (x t : Addr) (V : Cell) (n : Nat) (f : Nat → Int32) (z : Int32) (fm : Value) (i : Nat) (args : Array Value) (s : State) : Prop := args = #[.ref x, .int (Int32.ofNat i)] ∧ Txt x t V 0 n f s ∧ i < n ∧ StaticIs s "java/lang/String" "COMPACT_STRINGS" "Z" (.int z) ∧ ¬ z = 0 ∧ StaticIs s "jdk/internal/util/Preconditions" "SIOOBE_FORMATTER" "Ljava/util/function/BiFunction;" fm ∧ fm.isRef = true
def E (f : Nat → Int32) (i : Nat) (r : Option Value) (s u : State) : Prop := XT.PureE (some (.int (f i))) r s u
/-- charAt(i) of a Latin-1 String of n chars, i < n: f i -/
theorem law (l : Launch) (x t : Addr) (V : Cell) (n : Nat) (f : Nat → Int32) (z : Int32) (fm : Value) (i : Nat) : Law l yN 2 1 3 40 yB 2 (some .char) site (P x t V n f z fm i) (E f i) [] 0 0 := by
  refine Law.of_walk (plainFor_of_name (by decide +kernel)) (by decide +kernel) (by decide +kernel) (by decide) (fun _ _ h => by rw [h.1]; rfl) (fun _ U U' hal hh h => ⟨h.1, h.2.1.mv hal hh, h.2.2.1, h.2.2.2.1.there hal hh, h.2.2.2.2.1, h.2.2.2.2.2.1.there hal hh, h.2.2.2.2.2.2⟩) (fun r U U' V V' h1 hal h2 h => XT.PureE.mv r U U' V V' h1 hal h2 h) ?_
  intro p e s m args below meth c s₁ X0 hexec hbytes hml hret hlk hnm hown hh0 W hP
  obtain ⟨rfl, hx, hi, s1, hz, s3, rf⟩ := hP
  have v31 := hx.2.2.2.1.2.2.2
  have hr := hx.2.2.2.2.2 i hi
  have hx0 := hx.mv X0.warmed.alike hh0
  have c1 : Steps p.tables e below (s₁.setTop (entryFrame m #[.ref x, .int (Int32.ofNat i)] 2)) (s₁.setTop (mkF m 1 #[.val (.ref x), .val (.int (Int32.ofNat i))] [.ref x])) := Steps.trans (entry rfl) (by
    show Steps p.tables e below (s₁.setTop (mkF m 0 #[.val (.ref x), .val (.int (Int32.ofNat i))] [])) _
    refine XS.aloadN X0.here hexec rfl (hb hbytes d0) rfl rfl ?_
    exact Steps.refl _)
  obtain ⟨v2, T2, X2, E2, g2⟩ := X0.callV hexec (IsL.law l x 0 z) hown (wks W (virtW "java/lang/String" 492 "java/lang/String" IsL.yN IsL.yN)) rfl (by decide) (wk W IsL.tab) (W := 0) (Nat.le_of_ble_eq_true rfl) (Nat.le_of_ble_eq_true rfl) (Nat.le_refl _) (Nat.le_refl _) (hx0.1.fc X0.warmed.alike) hx0.1.is (g := (mkF m 1 #[.val (.ref x), .val (.int (Int32.ofNat i))] [.ref x])) rfl (by rw [hml]; rfl) c1 (argsL := []) (rest := []) rfl rfl (by show 2 * 0 + 0 ≤ _; decide) (hb hbytes d1) (⟨rfl, hx0.2.2.1, hx.2.2.2.2.1.cd, s1.there X0.warmed.alike hh0, hz⟩)
  obtain ⟨rfl, q2⟩ := E2
  have hh2 := q2.trans hh0
  have hx2 := hx.mv X2.warmed.alike hh2
  obtain ⟨-, k1, k2⟩ | ⟨k0, -⟩ := hx.2.2.2.2.1
  · have c3 : Steps p.tables e below (s₁.setTop (entryFrame m #[.ref x, .int (Int32.ofNat i)] 2)) (T2.setTop (mkF m 8 #[.val (.ref x), .val (.int (Int32.ofNat i))] [.ref x])) := Steps.trans g2 (by
      refine XS.ifNo X2.here hexec rfl (hb hbytes d4) rfl (i0_eq_f (by decide)) ?_
      refine XS.aloadN X2.here hexec rfl (hb hbytes d7) rfl rfl ?_
      exact Steps.refl _)
    obtain ⟨T4, X4, q4, st4⟩ := X2.hget hexec hown (wk W (.fieldLink "java/lang/String" 9 "java/lang/String" "value" "[B")) hx2.2.1 (g := (mkF m 8 #[.val (.ref x), .val (.int (Int32.ofNat i))] [.ref x])) rfl (rest := []) rfl (hb hbytes d8)
    have hh4 := q4.trans hh2
    have c5 : Steps p.tables e below (s₁.setTop (entryFrame m #[.ref x, .int (Int32.ofNat i)] 2)) (T4.setTop (mkF m 12 #[.val (.ref x), .val (.int (Int32.ofNat i))] [.int (Int32.ofNat i), .ref t])) := (c3.trans (st4 _ (Steps.refl _))).trans (by
      refine XS.iloadN X4.here hexec rfl (hb hbytes d11) rfl ?_
      exact Steps.refl _)
    obtain ⟨v6, T6, X6, E6, g6⟩ := X4.callS hexec (LChA.law l t V i (lo8 (f i)) fm) hown (wks W (staticW "java/lang/String" 495 LChA.yN)) (wk W LChA.tab) (W := 0) (Nat.le_of_ble_eq_true rfl) (Nat.le_of_ble_eq_true rfl) (Nat.le_refl _) (Nat.le_refl _) (g := (mkF m 12 #[.val (.ref x), .val (.int (Int32.ofNat i))] [.int (Int32.ofNat i), .ref t])) rfl (by rw [hml]; rfl) c5 (argsL := [.ref t, .int (Int32.ofNat i)]) (rest := []) rfl rfl (by show 2 * 0 + 0 ≤ _; decide) (hb hbytes d12) (⟨rfl, hx.2.2.2.1.mv X4.warmed.alike hh4, (k2 i hi).1, s3.there X4.warmed.alike hh4, rf⟩)
    obtain ⟨rfl, q6⟩ := E6
    rw [chr8_lo8 hr.1 (k2 i hi).2] at g6
    exact ⟨T6, some (.int (f i)), _, _, _, X6, rfl, rfl, rfl, (fun h => by cases h), ⟨rfl, q6.trans hh4⟩, fun fs hl => Steps.trans g6 (X6.ireturnOut hexec hret (narrow_ch hr.1 hr.2) (Or.inr (Or.inr (Or.inr (Or.inl rfl)))) (hb hbytes d15) hl)⟩
  · exact absurd k0 (by decide)
theorem pays {l : Launch} {R : Room} {p : Program} {e : Env} {below : List Frame} {s : State} {sargs : Array Value} {len W : Nat} (x t : Addr) (V : Cell) (n : Nat) (f : Nat → Int32) (z : Int32) (fm : Value) (i : Nat) (htab : tab.before sargs s = true) (hfr : 4 ≤ R.frames) (hlo : W + 53 ≤ R.locals) :
    Back l R p e below s sargs yN len W (fun A₁ a₁ => A₁.cells + 0 ≤ R.cells ∧ A₁.slots + 0 ≤ R.slots ∧ P x t V n f z fm i a₁ A₁.U) (fun A₁ _ v₁ B₁ => E f i v₁ A₁.U B₁.U ∧ B₁.locs = A₁.locs ++ [] ∧ B₁.cells = A₁.cells + 0 ∧ B₁.slots = A₁.slots + 0) :=
  (law l x t V n f z fm i).pays htab hfr (by omega)
end ChN
end StrChars
namespace StrChars.Road
open Jvm Sem ClassFile Op Lib Jvm.Stand Jvm.Free Jvm.Free.XT
open Jvm.Lib.Cold (StaticIs)
/-- the words of String.charAt(int), the Latin-1 road alone -/
abbrev wordsChN : List Jvm.Cond := [.code ChN.yN ChN.yB 2 (some .char), .initialized ST, .fieldLink ST 9 ST "value" "[B", .fieldLink ST 38 ST "COMPACT_STRINGS" "Z", .fieldLink ST 15 ST "coder" "B", .code IsL.yN IsL.yB 1 (some .boolean), .methodLink ST 492 IsL.yN, .declares IsL.yN, .selects ST IsL.yN IsL.yN, .instanceMethod IsL.yN,
  .methodLink ST 495 LChA.yN, .static LChA.yN, .code LChA.yN LChA.yB 2 (some .char), .initialized "java/lang/StringLatin1", .methodLink "java/lang/StringLatin1" 9 JO.Str_checkIndex.yN, .static JO.Str_checkIndex.yN, .code JO.Str_checkIndex.yN JO.Str_checkIndex.yB 2 none,
  .fieldLink ST 1053 "jdk/internal/util/Preconditions" "SIOOBE_FORMATTER" "Ljava/util/function/BiFunction;", .methodLink ST 1059 JC.PreCheck.yN, .static JC.PreCheck.yN, .code JC.PreCheck.yN JC.PreCheck.yB 3 (some .int), .initialized "jdk/internal/util/Preconditions"]
theorem tabChN_of {a : Array Value} {s : State} (h : ∀ w ∈ wordsChN, w.before a s = true) : ChN.tab.before a s = true := by
  have hp : JC.PreCheck.tab.before a s = true := unparts (wk h (.code JC.PreCheck.yN JC.PreCheck.yB 3 (some .int))) (wks h (.initialized JC.PreCheck.yN.cls :: JC.PreCheck.site))
  have qk := consq hp h
  have hk : JO.Str_checkIndex.tab.before a s = true := unparts (wk qk (.code JO.Str_checkIndex.yN JO.Str_checkIndex.yB 2 none)) (wks qk (.initialized JO.Str_checkIndex.yN.cls :: JO.Str_checkIndex.site))
  have ql := consq hk h
  have hl : LChA.tab.before a s = true := unparts (wk ql (.code LChA.yN LChA.yB 2 (some .char))) (wks ql (.initialized LChA.yN.cls :: LChA.site))
  have hi : IsL.tab.before a s = true := unparts (wk h (.code IsL.yN IsL.yB 1 (some .boolean))) (wks h (.initialized IsL.yN.cls :: IsL.site))
  have q := consq hi (consq hl h)
  exact unparts (wk q (.code ChN.yN ChN.yB 2 (some .char))) (wks q (.initialized ChN.yN.cls :: ChN.site))
theorem movedChN {Z s : State} {a0 args : Array Value} (hZ : Z.Warmed39 s.vm) (hw : ∀ d ∈ wordsChN, d.before a0 Z = true) : ∀ d ∈ wordsChN, d.before args s = true := fun d hd => by
  have t : ∀ d ∈ wordsChN, (d.onTables && d.keepsFace) = true := by decide +kernel
  exact RoadKit.mv hZ (hw d hd) (t d hd)
/-- **charAt(i) OF A LATIN-1 STRING**, i < n: the char -/
theorem chN {p : Program} {l : Launch} {e : Env} {R : Room} {s : State} {args : Array Value} {below : List Frame} {len W : Nat} {Z : State} {a0 : Array Value} {h : Heap} (hZ : Z.Warmed39 s.vm) (hw : ∀ d ∈ wordsChN, d.before a0 Z = true) {kI : Nat} (wi : (Jvm.Cond.instantiable ST kI).before a0 Z = true)
    {x t : Addr} {kb : ClassId} {cs : List Int32} {N2 z : Int32} {vs : List Value} {fm : Value} {i : Nat} {j : Int32} (E : RoadKit.Exa Z h x ST) (V : RoadKit.Fld Z h x ST "value" "[B" (.ref t)) (C : RoadKit.Fld Z h x ST "coder" "B" (.int 0)) (K : RoadKit.Arv Z h t kb .byte N2 vs (.int 0)) (hc : CodA cs 0 N2 vs) (hb : ∀ c ∈ cs, ¬ c < 0 ∧ ¬ (65535 : Int32) < c)
    (S : RoadKit.Sta Z h ST "COMPACT_STRINGS" "Z" (.int z)) (hz : ¬ z = 0) (F : RoadKit.Sta Z h "jdk/internal/util/Preconditions" "SIOOBE_FORMATTER" "Ljava/util/function/BiFunction;" fm) (rf : fm.isRef = true) (l2 : cs.length ≤ 4000) (hi : i < cs.length) (hj : j = Int32.ofNat i) (hfr : 4 ≤ R.frames) (hlo : W + 53 ≤ R.locals) :
    Back l R p e below s args (⟨"java/lang/String", "charAt", "(I)C"⟩ : MethodName) len W (fun P a => a = #[.ref x, .int j] ∧ P.U.heap = h ∧ P.cells + 0 ≤ R.cells ∧ P.slots + 0 ≤ R.slots)
      (fun P _ v B => ∃ L, (v = some (.int (cs.getD i 0)) ∧ L = [] ∧ B.U.heap = h) ∧ B.locs = P.locs ++ L ∧ B.cells = P.cells + 0 ∧ B.slots = P.slots + 0) := by
  subst hj
  intro m meth c P g ig mk a X hg hsize hdg hW hn hp'
  obtain ⟨rfl, rfl, r1, r2⟩ := hp'
  have al : Z.vm.Alike P.U.vm := hZ.alike.trans X.warmed.alike
  obtain ⟨A, hx⟩ := txt_of wi al E V C K hc hb l2
  obtain ⟨v, B, X', ⟨⟨hv, hh⟩, hl, hk, hs⟩, st⟩ := ChN.pays x t A cs.length (fun j => cs.getD j 0) z fm i (tabChN_of (movedChN hZ hw)) hfr hlo m meth c P g ig mk _ X hg hsize hdg hW hn ⟨r1, r2, rfl, hx, hi, sta_is al S, hz, sta_is al F, rf⟩
  exact ⟨v, B, X', ⟨[], ⟨hv, rfl, hh⟩, hl, hk, hs⟩, st⟩
/-- what backV says of its String, as the contracts of this text ask it: cs's low bytes, coder 0 -/
theorem codOf {cs : List Int32} {n : Nat} (hn : cs.length = n) (hb : ∀ c ∈ cs, ¬ 255 < c) : CodA cs 0 (Int32.ofNat n) ((cs.map lo8).map Value.int) := Or.inl ⟨rfl, by rw [hn], by simp [List.map_map, Function.comp_def], hb⟩
end StrChars.Road
end Jvm.Pilot.@@N@@
namespace Jvm.Pilot.@@N@@
open Jvm Jvm.ClassFile Sem Op Lib Jvm.Free Jvm.Stand Jvm.LawKit Jvm.RoadKit Bundle Jvm.Pilot.@@N@@.Jvm.D

theorem own_up (cs : List Int32) (h : ∀ c ∈ cs, ¬ c < 0 ∧ ¬ (255 : Int32) < c) : ∀ c ∈ cs, ¬ c < 0 ∧ ¬ (65535 : Int32) < c := fun c hc => ⟨(h c hc).1, fun q => (h c hc).2 (by rw [Int32.lt_iff_toInt_lt] at q ⊢; have e1 : (65535 : Int32).toInt = 65535 := rfl; have e2 : (255 : Int32).toInt = 255 := rfl; omega)⟩
theorem own_chr (y : Int32) (h0 : 0 ≤ y.toInt) (h1 : y.toInt < 65536) : y.toUInt32.toUInt16.toUInt32.toInt32 = y := Int32.toInt_inj.mp (by have := c_i2c y; omega)
theorem own_nn (x : Int32) : nar .char (x.toUInt32.toUInt16.toUInt32.toInt32) = x.toUInt32.toUInt16.toUInt32.toInt32 := own_chr _ (c_i2c x).2.1 (c_i2c x).2.2
theorem own_b255 (x : Int32) (h0 : 0 ≤ x.toInt) (h1 : x.toInt < 256) : ¬ nar .char (x.toUInt32.toUInt16.toUInt32.toInt32) < 0 ∧ ¬ (255 : Int32) < nar .char (x.toUInt32.toUInt16.toUInt32.toInt32) := by
  rw [own_nn, own_chr x h0 (by omega)]
  simp only [Int32.lt_iff_toInt_lt, Int32.reduceToInt]
  omega

def own_nth (i : Int32) (a b c d : Addr) : Addr := if i = (0 : Int32) then a else if i = (1 : Int32) then b else if i = (2 : Int32) then c else d
theorem own_four (i : Int32) (h0 : ¬ i < 0) (h1 : i < 4) : i = 0 ∨ i = 1 ∨ i = 2 ∨ i = 3 := by
  simp only [Int32.lt_iff_toInt_lt, ← Int32.toInt_inj, Int32.reduceToInt] at *
  omega
theorem own_five (i : Int32) (h0 : ¬ i < 0) (h1 : i < 5) : i = 0 ∨ i = 1 ∨ i = 2 ∨ i = 3 ∨ i = 4 := by
  simp only [Int32.lt_iff_toInt_lt, ← Int32.toInt_inj, Int32.reduceToInt] at *
  omega
theorem own_get (i : Int32) (h0 : ¬ i < 0) (h1 : i < 4) (a b c d : Addr) : [Value.ref a, .ref b, .ref c, .ref d].getD i.toNatClampNeg .null = .ref (own_nth i a b c d) := by
  rcases own_four i h0 h1 with rfl | rfl | rfl | rfl <;> rfl
theorem own_sh0 (p : Int32) : (p.toUInt32 >>> (((2 : Int32) * (0 : Int32)) &&& 31).toUInt32).toInt32 = p := by
  have e : (((2 : Int32) * (0 : Int32)) &&& 31).toUInt32 = 0 := by decide
  rw [e]
  apply Int32.toBitVec_inj.mp
  simp
theorem own_sh0L (q : Int64) : (q.toUInt64 >>> (((8 : Int32) * (0 : Int32)) &&& 0x3f).toInt64.toUInt64).toInt64 = q := by
  have e : (((8 : Int32) * (0 : Int32)) &&& 0x3f).toInt64.toUInt64 = 0 := by decide
  rw [e]
  apply Int64.toBitVec_inj.mp
  simp
theorem own_num (p2 j : Int32) (h0 : ¬ j < 0) (h1 : j < 5) : [Value.int (p2 &&& (3 : Int32)), .int (((p2.toUInt32 >>> ((2 : Int32) &&& 31).toUInt32).toInt32) &&& (3 : Int32)), .int (((p2.toUInt32 >>> ((4 : Int32) &&& 31).toUInt32).toInt32) &&& (3 : Int32)), .int (((p2.toUInt32 >>> ((6 : Int32) &&& 31).toUInt32).toInt32) &&& (3 : Int32)), .int (((p2.toUInt32 >>> ((8 : Int32) &&& 31).toUInt32).toInt32) &&& (3 : Int32))].getD j.toNatClampNeg (.int (0 : Int32)) = .int (((p2.toUInt32 >>> (((2 : Int32) * j) &&& 31).toUInt32).toInt32) &&& (3 : Int32)) := by
  rcases own_five j h0 h1 with rfl | rfl | rfl | rfl | rfl
  · rw [own_sh0]; rfl
  all_goals rfl
theorem own_r255 (q : Int64) : 0 ≤ ((q &&& (255 : Int64)).toInt32).toInt ∧ ((q &&& (255 : Int64)).toInt32).toInt < 256 := by
  have a := c_maskL q 255 8 (by decide) (by decide)
  have b := c_l2i (q &&& 255)
  have r := rng32 (q &&& (255 : Int64)).toInt32
  omega
theorem own_r3 (x : Int32) : ¬ (x &&& (3 : Int32)) < 0 ∧ (x &&& (3 : Int32)) < 4 := by
  have a := c_mask x 3 2 (by decide) (by decide)
  simp only [Int32.lt_iff_toInt_lt, Int32.reduceToInt]
  omega
theorem own_fr (x : Int32) : 0 ≤ ((x &&& (2147483647 : Int32)) % (3 : Int32)).toInt ∧ ((x &&& (2147483647 : Int32)) % (3 : Int32)).toInt < 3 := by
  have a := c_mask x 2147483647 31 (by decide) (by decide)
  have b := (c_irem (x &&& 2147483647) 3 3 (by decide)).1 (by omega)
  omega
theorem own_ln (x : Int32) : 1 ≤ ((1 : Int32) + ((x.toUInt32 >>> ((8 : Int32) &&& 31).toUInt32).toInt32) % (3 : Int32)).toInt ∧ ((1 : Int32) + ((x.toUInt32 >>> ((8 : Int32) &&& 31).toUInt32).toInt32) % (3 : Int32)).toInt < 4 := by
  have a := c_iushr x 8 8 (by decide) (by decide)
  generalize (x.toUInt32 >>> ((8 : Int32) &&& 31).toUInt32).toInt32 = y at *
  have b := (c_irem y 3 3 (by decide)).1 (by omega)
  have c := c_iadd 1 (y % 3)
  have r := rng32 ((1 : Int32) + y % 3)
  simp only [Int32.reduceToInt] at c
  omega
theorem own_ii (x y : Int32) (h0 : 1 ≤ y.toInt) : 0 ≤ ((x &&& (2147483647 : Int32)) % y).toInt ∧ ((x &&& (2147483647 : Int32)) % y).toInt < y.toInt := by
  have a := c_mask x 2147483647 31 (by decide) (by decide)
  have b := (c_iremV (x &&& 2147483647) y).1 (by omega) (by omega)
  omega
theorem own_nz (y : Int32) (h0 : 1 ≤ y.toInt) : y ≠ 0 := fun e => by subst e; exact absurd h0 (by decide)
theorem own_sz (f l i : Int32) (f0 : 0 ≤ f.toInt) (f1 : f.toInt < 3) (l0 : 1 ≤ l.toInt) (l1 : l.toInt < 4) (i0 : 0 ≤ i.toInt) (i1 : i.toInt < l.toInt) : (¬ i < 0 ∧ i < ((f + l) - f)) ∧ (¬ (f + i) < 0 ∧ (f + i) < 5) := by
  have a := c_iadd f l
  have b := c_iadd f i
  have c := c_isub (f + l) f
  have r1 := rng32 (f + l)
  have r2 := rng32 (f + i)
  have r3 := rng32 ((f + l) - f)
  simp only [Int32.lt_iff_toInt_lt, Int32.reduceToInt]
  omega
theorem d7_0 : decode prog_5_method_1_code 0 = .ok (.aload_n 0, 1) := by decide +kernel
theorem d7_1 : decode prog_5_method_1_code 1 = .ok (.invokespecial 1, 3) := by decide +kernel
theorem d7_4 : decode prog_5_method_1_code 4 = .ok (.aload_n 0, 1) := by decide +kernel
theorem d7_5 : decode prog_5_method_1_code 5 = .ok (.aload_n 1, 1) := by decide +kernel
theorem d7_6 : decode prog_5_method_1_code 6 = .ok (.putfield 7, 3) := by decide +kernel
theorem d7_9 : decode prog_5_method_1_code 9 = .ok (.aload_n 0, 1) := by decide +kernel
theorem d7_10 : decode prog_5_method_1_code 10 = .ok (.aload_n 2, 1) := by decide +kernel
theorem d7_11 : decode prog_5_method_1_code 11 = .ok (.putfield 13, 3) := by decide +kernel
theorem d7_14 : decode prog_5_method_1_code 14 = .ok (.aload_n 0, 1) := by decide +kernel
theorem d7_15 : decode prog_5_method_1_code 15 = .ok (.aload_n 3, 1) := by decide +kernel
theorem d7_16 : decode prog_5_method_1_code 16 = .ok (.putfield 17, 3) := by decide +kernel
theorem d7_19 : decode prog_5_method_1_code 19 = .ok (.aload_n 0, 1) := by decide +kernel
theorem d7_20 : decode prog_5_method_1_code 20 = .ok (.iload 4, 2) := by decide +kernel
theorem d7_22 : decode prog_5_method_1_code 22 = .ok (.putfield 20, 3) := by decide +kernel
theorem d7_25 : decode prog_5_method_1_code 25 = .ok (.aload_n 0, 1) := by decide +kernel
theorem d7_26 : decode prog_5_method_1_code 26 = .ok (.iload 5, 2) := by decide +kernel
theorem d7_28 : decode prog_5_method_1_code 28 = .ok (.putfield 24, 3) := by decide +kernel
theorem d7_31 : decode prog_5_method_1_code 31 = .ok (.return_, 1) := by decide +kernel
theorem pn_7 : plainName "com/example/vrabec/vrabec/index/PostTerms" = true := by first | (simp [plainName, overriddenIn]; done) | decide +kernel
theorem ef_7 (m : MethodId) (x0 : Addr) (x1 : Addr) (x2 : Addr) (x3 : Addr) (x4 : Int32) (x5 : Int32) : entryFrame m #[(.ref x0), (.ref x1), (.ref x2), (.ref x3), (.int x4), (.int x5)] 6 = mkF m 0 #[.val (.ref x0), .val (.ref x1), .val (.ref x2), .val (.ref x3), .val (.int x4), .val (.int x5)] [] := by first | (simp [entryFrame, mkF, argsToLocals, Value.category]; done) | rfl
def Q_7 (Z : State) (a1 : Addr) (a2 : Addr) (a3 : Addr) (a4 : Addr) (p5 : Int32) (p6 : Int32) (h0 : Heap) (n0 : Nat) (v : Option Value) (h : Heap) (L : List Loc) : Prop := v = none ∧ Fr n0 L ∧ Keep h0 h [a1] ∧ Exa Z h a1 "com/example/vrabec/vrabec/index/PostTerms" ∧ Fld Z h a1 "com/example/vrabec/vrabec/index/PostTerms" "terms" "[Ljava/lang/String;" (.ref a2) ∧ Fld Z h a1 "com/example/vrabec/vrabec/index/PostTerms" "numbers" "[I" (.ref a3) ∧ Fld Z h a1 "com/example/vrabec/vrabec/index/PostTerms" "from" "I" (.int p5) ∧ Fld Z h a1 "com/example/vrabec/vrabec/index/PostTerms" "to" "I" (.int p6)
set_option maxRecDepth 65536 in
set_option maxHeartbeats 40000000 in
theorem rm_7 (l : Launch) (Z : State) (a0 : Array Value) (hw : ∀ d ∈ tables_1, d.before a0 Z = true) (ws : List Jvm.Cond) (a1 : Addr) (a2 : Addr) (a3 : Addr) (a4 : Addr) (p5 : Int32) (p6 : Int32) (h0 : Heap) (n0 : Nat) (Z0 : n0 ≤ h0.size) (E_a1 : Exa Z h0 a1 "com/example/vrabec/vrabec/index/PostTerms") (g_a1 : n0 ≤ a1) (F_terms : Fld Z h0 a1 "com/example/vrabec/vrabec/index/PostTerms" "terms" "[Ljava/lang/String;" .null) (F_numbers : Fld Z h0 a1 "com/example/vrabec/vrabec/index/PostTerms" "numbers" "[I" .null) (F_frequencies : Fld Z h0 a1 "com/example/vrabec/vrabec/index/PostTerms" "frequencies" "[I" .null) (F_from : Fld Z h0 a1 "com/example/vrabec/vrabec/index/PostTerms" "from" "I" (.int (0 : Int32))) (F_to : Fld Z h0 a1 "com/example/vrabec/vrabec/index/PostTerms" "to" "I" (.int (0 : Int32))) :
    MetFree l (⟨"com/example/vrabec/vrabec/index/PostTerms", "<init>", "([Ljava/lang/String;[I[III)V"⟩ : MethodName) (head1 (Jvm.Cond.code (⟨"com/example/vrabec/vrabec/index/PostTerms", "<init>", "([Ljava/lang/String;[I[III)V"⟩ : MethodName) prog_5_method_1_code 6 none :: ws) ({ frames := 1, cells := 0, slots := 0, locals := 12 } : Room)) (fun a U => a = #[(.ref a1), (.ref a2), (.ref a3), (.ref a4), (.int p5), (.int p6)] ∧ Z.Warmed39 U.vm ∧ U.heap = h0) (fun _ _ _ _ _ => True) (fun _ U o U' => ∃ v L, o = .returned v ∧ Q_7 Z a1 a2 a3 a4 p5 p6 h0 n0 v U'.heap L ∧ FrameEnd U o U' L ({ frames := 1, cells := 0, slots := 0, locals := 12 } : Room).cells ({ frames := 1, cells := 0, slots := 0, locals := 12 } : Room).slots) := by
  refine MetFree.of_bodySF (plainFor_of_name pn_7) hisR ?_
  intro p e s m args below meth cod_ s₁ Bd hml0 hP hK
  obtain ⟨rfl, hZ, hh⟩ := hP
  have hx := Bd.exec
  have hby := Bd.bytes
  have hml : cod_.maxLocals = 6 := hml0
  have hown : s.vm.findClass "com/example/vrabec/vrabec/index/PostTerms" = some m.cls := findClass_of_methodNamed Bd.named
  have hnm := (name_of_methodNamed Bd.named Bd.method).1
  have X0 : Stand p l e ({ frames := 1, cells := 0, slots := 0, locals := 12 } : Room) s m #[(.ref a1), (.ref a2), (.ref a3), (.ref a4), (.int p5), (.int p6)] below meth cod_ s₁ [] 0 0 := Stand.of_body Bd
  have e0 : s₁.heap = h0 := by rw [← hh, Bd.state]; rfl
  have N0 := Fr.nil n0
  have pre0 : ∀ t, Steps p.tables e below (s₁.setTop (mkF m 0 #[.val (.ref a1), .val (.ref a2), .val (.ref a3), .val (.ref a4), .val (.int p5), .val (.int p6)] [])) t → Steps p.tables e below (s₁.setTop (entryFrame m #[(.ref a1), (.ref a2), (.ref a3), (.ref a4), (.int p5), (.int p6)] 6)) t := fun t k => castTop (ef_7 m a1 a2 a3 a4 p5 p6) k
  obtain ⟨T1, X1, e1, st1⟩ := initO X0 hx hZ hown (hw _ (List.mem_of_getElem? (i := 40) rfl)) (hw _ (List.mem_of_getElem? (i := 14) rfl)) (hw _ (List.mem_of_getElem? (i := 15) rfl)) e0 (g := (mkF m 1 #[.val (.ref a1), .val (.ref a2), .val (.ref a3), .val (.ref a4), .val (.int p5), .val (.int p6)] [(.ref a1)])) rfl (by rw [hml]; rfl) rfl (hb hby d7_1) (by decide) (W := 0) (by show 2 * 0 + _ ≤ _; exact Nat.le_of_eq rfl) (by decide)
  obtain ⟨T2, h2, X2, e2, W2, st2⟩ := putF X1 hx hZ hown (host := "") (Or.inl (hw _ (List.mem_of_getElem? (i := 41) rfl))) Via.refl e1 F_terms E_a1 (Or.inr ⟨(hw _ (List.mem_of_getElem? (i := 42) rfl)), rfl, hnm⟩) (hw _ (List.mem_of_getElem? (i := 35) rfl)) (ty := (.array (.object "java/lang/String"))) (by decide) rfl rfl (g := (mkF m 6 #[.val (.ref a1), .val (.ref a2), .val (.ref a3), .val (.ref a4), .val (.int p5), .val (.int p6)] [(.ref a2), (.ref a1)])) rfl rfl (hb hby d7_6)
  have Fw2 : Fld Z h2 a1 "com/example/vrabec/vrabec/index/PostTerms" "terms" "[Ljava/lang/String;" (.ref a2) := F_terms.same W2
  have N2 := Fr.snoc X2 N0 g_a1
  have Kh2 : Keep h0 h2 [a1] := (Keep.refl h0 [a1]).wr W2 (Or.inl (List.mem_of_getElem? (i := 0) rfl))
  obtain ⟨T3, h3, X3, e3, W3, st3⟩ := putF X2 hx hZ hown (host := "") (Or.inl (hw _ (List.mem_of_getElem? (i := 43) rfl))) Via.refl e2 (F_numbers.other W2 (Or.inr (slot_ne (Or.inr (hw _ (List.mem_of_getElem? (i := 44) rfl))) (Or.inr (hw _ (List.mem_of_getElem? (i := 42) rfl))) (by decide) (t := (.array .int)) (t' := (.array (.object "java/lang/String"))) (by decide) (by decide)))) (E_a1.wr W2) (Or.inr ⟨(hw _ (List.mem_of_getElem? (i := 44) rfl)), rfl, hnm⟩) (hw _ (List.mem_of_getElem? (i := 35) rfl)) (ty := (.array .int)) (by decide) rfl rfl (g := (mkF m 11 #[.val (.ref a1), .val (.ref a2), .val (.ref a3), .val (.ref a4), .val (.int p5), .val (.int p6)] [(.ref a3), (.ref a1)])) rfl rfl (hb hby d7_11)
  have Fw3 : Fld Z h3 a1 "com/example/vrabec/vrabec/index/PostTerms" "numbers" "[I" (.ref a3) := (F_numbers.other W2 (Or.inr (slot_ne (Or.inr (hw _ (List.mem_of_getElem? (i := 44) rfl))) (Or.inr (hw _ (List.mem_of_getElem? (i := 42) rfl))) (by decide) (t := (.array .int)) (t' := (.array (.object "java/lang/String"))) (by decide) (by decide)))).same W3
  have N3 := Fr.snoc X3 N2 g_a1
  have Kh3 : Keep h0 h3 [a1] := Kh2.wr W3 (Or.inl (List.mem_of_getElem? (i := 0) rfl))
  have f4 := ((F_frequencies.other W2 (Or.inr (slot_ne (Or.inr (hw _ (List.mem_of_getElem? (i := 46) rfl))) (Or.inr (hw _ (List.mem_of_getElem? (i := 42) rfl))) (by decide) (t := (.array .int)) (t' := (.array (.object "java/lang/String"))) (by decide) (by decide)))).other W3 (Or.inr (slot_ne (Or.inr (hw _ (List.mem_of_getElem? (i := 46) rfl))) (Or.inr (hw _ (List.mem_of_getElem? (i := 44) rfl))) (by decide) (t := (.array .int)) (t' := (.array .int)) (by decide) (by decide))))
  have f5 := ((E_a1.wr W2).wr W3)
  obtain ⟨T6, h6, X6, e6, W6, st6⟩ := putF X3 hx hZ hown (host := "") (Or.inl (hw _ (List.mem_of_getElem? (i := 45) rfl))) Via.refl e3 f4 f5 (Or.inr ⟨(hw _ (List.mem_of_getElem? (i := 46) rfl)), rfl, hnm⟩) (hw _ (List.mem_of_getElem? (i := 35) rfl)) (ty := (.array .int)) (by decide) rfl rfl (g := (mkF m 16 #[.val (.ref a1), .val (.ref a2), .val (.ref a3), .val (.ref a4), .val (.int p5), .val (.int p6)] [(.ref a4), (.ref a1)])) rfl rfl (hb hby d7_16)
  have Fw6 : Fld Z h6 a1 "com/example/vrabec/vrabec/index/PostTerms" "frequencies" "[I" (.ref a4) := f4.same W6
  have N6 := Fr.snoc X6 N3 g_a1
  have Kh6 : Keep h0 h6 [a1] := Kh3.wr W6 (Or.inl (List.mem_of_getElem? (i := 0) rfl))
  have f7 := (((F_from.other W2 (Or.inr (slot_ne (Or.inr (hw _ (List.mem_of_getElem? (i := 48) rfl))) (Or.inr (hw _ (List.mem_of_getElem? (i := 42) rfl))) (by decide) (t := .int) (t' := (.array (.object "java/lang/String"))) (by decide) (by decide)))).other W3 (Or.inr (slot_ne (Or.inr (hw _ (List.mem_of_getElem? (i := 48) rfl))) (Or.inr (hw _ (List.mem_of_getElem? (i := 44) rfl))) (by decide) (t := .int) (t' := (.array .int)) (by decide) (by decide)))).other W6 (Or.inr (slot_ne (Or.inr (hw _ (List.mem_of_getElem? (i := 48) rfl))) (Or.inr (hw _ (List.mem_of_getElem? (i := 46) rfl))) (by decide) (t := .int) (t' := (.array .int)) (by decide) (by decide))))
  obtain ⟨T8, h8, X8, e8, W8, st8⟩ := putF X6 hx hZ hown (host := "") (Or.inl (hw _ (List.mem_of_getElem? (i := 47) rfl))) Via.refl e6 f7 (f5.wr W6) (Or.inr ⟨(hw _ (List.mem_of_getElem? (i := 48) rfl)), rfl, hnm⟩) (hw _ (List.mem_of_getElem? (i := 35) rfl)) (ty := .int) (by decide) rfl rfl (g := (mkF m 22 #[.val (.ref a1), .val (.ref a2), .val (.ref a3), .val (.ref a4), .val (.int p5), .val (.int p6)] [(.int p5), (.ref a1)])) rfl rfl (hb hby d7_22)
  have Fw8 : Fld Z h8 a1 "com/example/vrabec/vrabec/index/PostTerms" "from" "I" (.int p5) := f7.same W8
  have N8 := Fr.snoc X8 N6 g_a1
  have Kh8 : Keep h0 h8 [a1] := Kh6.wr W8 (Or.inl (List.mem_of_getElem? (i := 0) rfl))
  have f9 := ((((F_to.other W2 (Or.inr (slot_ne (Or.inr (hw _ (List.mem_of_getElem? (i := 50) rfl))) (Or.inr (hw _ (List.mem_of_getElem? (i := 42) rfl))) (by decide) (t := .int) (t' := (.array (.object "java/lang/String"))) (by decide) (by decide)))).other W3 (Or.inr (slot_ne (Or.inr (hw _ (List.mem_of_getElem? (i := 50) rfl))) (Or.inr (hw _ (List.mem_of_getElem? (i := 44) rfl))) (by decide) (t := .int) (t' := (.array .int)) (by decide) (by decide)))).other W6 (Or.inr (slot_ne (Or.inr (hw _ (List.mem_of_getElem? (i := 50) rfl))) (Or.inr (hw _ (List.mem_of_getElem? (i := 46) rfl))) (by decide) (t := .int) (t' := (.array .int)) (by decide) (by decide)))).other W8 (Or.inr (slot_ne (Or.inr (hw _ (List.mem_of_getElem? (i := 50) rfl))) (Or.inr (hw _ (List.mem_of_getElem? (i := 48) rfl))) (by decide) (t := .int) (t' := .int) (by decide) (by decide))))
  have f10 := ((f5.wr W6).wr W8)
  obtain ⟨T11, h11, X11, e11, W11, st11⟩ := putF X8 hx hZ hown (host := "") (Or.inl (hw _ (List.mem_of_getElem? (i := 49) rfl))) Via.refl e8 f9 f10 (Or.inr ⟨(hw _ (List.mem_of_getElem? (i := 50) rfl)), rfl, hnm⟩) (hw _ (List.mem_of_getElem? (i := 35) rfl)) (ty := .int) (by decide) rfl rfl (g := (mkF m 28 #[.val (.ref a1), .val (.ref a2), .val (.ref a3), .val (.ref a4), .val (.int p5), .val (.int p6)] [(.int p6), (.ref a1)])) rfl rfl (hb hby d7_28)
  have Fw11 : Fld Z h11 a1 "com/example/vrabec/vrabec/index/PostTerms" "to" "I" (.int p6) := f9.same W11
  have N11 := Fr.snoc X11 N8 g_a1
  have Kh11 : Keep h0 h11 [a1] := Kh8.wr W11 (Or.inl (List.mem_of_getElem? (i := 0) rfl))
  have f12 := ((((Fw2.other W3 (Or.inr (slot_ne (Or.inr (hw _ (List.mem_of_getElem? (i := 42) rfl))) (Or.inr (hw _ (List.mem_of_getElem? (i := 44) rfl))) (by decide) (t := (.array (.object "java/lang/String"))) (t' := (.array .int)) (by decide) (by decide)))).other W6 (Or.inr (slot_ne (Or.inr (hw _ (List.mem_of_getElem? (i := 42) rfl))) (Or.inr (hw _ (List.mem_of_getElem? (i := 46) rfl))) (by decide) (t := (.array (.object "java/lang/String"))) (t' := (.array .int)) (by decide) (by decide)))).other W8 (Or.inr (slot_ne (Or.inr (hw _ (List.mem_of_getElem? (i := 42) rfl))) (Or.inr (hw _ (List.mem_of_getElem? (i := 48) rfl))) (by decide) (t := (.array (.object "java/lang/String"))) (t' := .int) (by decide) (by decide)))).other W11 (Or.inr (slot_ne (Or.inr (hw _ (List.mem_of_getElem? (i := 42) rfl))) (Or.inr (hw _ (List.mem_of_getElem? (i := 50) rfl))) (by decide) (t := (.array (.object "java/lang/String"))) (t' := .int) (by decide) (by decide))))
  have f13 := (((Fw3.other W6 (Or.inr (slot_ne (Or.inr (hw _ (List.mem_of_getElem? (i := 44) rfl))) (Or.inr (hw _ (List.mem_of_getElem? (i := 46) rfl))) (by decide) (t := (.array .int)) (t' := (.array .int)) (by decide) (by decide)))).other W8 (Or.inr (slot_ne (Or.inr (hw _ (List.mem_of_getElem? (i := 44) rfl))) (Or.inr (hw _ (List.mem_of_getElem? (i := 48) rfl))) (by decide) (t := (.array .int)) (t' := .int) (by decide) (by decide)))).other W11 (Or.inr (slot_ne (Or.inr (hw _ (List.mem_of_getElem? (i := 44) rfl))) (Or.inr (hw _ (List.mem_of_getElem? (i := 50) rfl))) (by decide) (t := (.array .int)) (t' := .int) (by decide) (by decide))))
  obtain ⟨fs, hr, hrun, hended, hW, hsame⟩ := X11.leave (v := none) (fun _ => rfl)
  refine ⟨_, _, pre0 _ ?_, hrun, hended, _, _, rfl, ?_, ⟨_, rfl⟩, hW, hsame.mono (by decide) (by decide)⟩
  · show Steps p.tables e below (s₁.setTop (mkF m 0 #[.val (.ref a1), .val (.ref a2), .val (.ref a3), .val (.ref a4), .val (.int p5), .val (.int p6)] [])) _
    refine XS.aloadN X0.here hx rfl (hb hby d7_0) rfl rfl ?_
    show Steps p.tables e below (s₁.setTop (mkF m 1 #[.val (.ref a1), .val (.ref a2), .val (.ref a3), .val (.ref a4), .val (.int p5), .val (.int p6)] [(.ref a1)])) _
    refine st1 _ ?_
    show Steps p.tables e below (T1.setTop (mkF m 4 #[.val (.ref a1), .val (.ref a2), .val (.ref a3), .val (.ref a4), .val (.int p5), .val (.int p6)] [])) _
    refine XS.aloadN X1.here hx rfl (hb hby d7_4) rfl rfl ?_
    show Steps p.tables e below (T1.setTop (mkF m 5 #[.val (.ref a1), .val (.ref a2), .val (.ref a3), .val (.ref a4), .val (.int p5), .val (.int p6)] [(.ref a1)])) _
    refine XS.aloadN X1.here hx rfl (hb hby d7_5) rfl rfl ?_
    show Steps p.tables e below (T1.setTop (mkF m 6 #[.val (.ref a1), .val (.ref a2), .val (.ref a3), .val (.ref a4), .val (.int p5), .val (.int p6)] [(.ref a2), (.ref a1)])) _
    refine st2 _ ?_
    show Steps p.tables e below (T2.setTop (mkF m 9 #[.val (.ref a1), .val (.ref a2), .val (.ref a3), .val (.ref a4), .val (.int p5), .val (.int p6)] [])) _
    refine XS.aloadN X2.here hx rfl (hb hby d7_9) rfl rfl ?_
    show Steps p.tables e below (T2.setTop (mkF m 10 #[.val (.ref a1), .val (.ref a2), .val (.ref a3), .val (.ref a4), .val (.int p5), .val (.int p6)] [(.ref a1)])) _
    refine XS.aloadN X2.here hx rfl (hb hby d7_10) rfl rfl ?_
    show Steps p.tables e below (T2.setTop (mkF m 11 #[.val (.ref a1), .val (.ref a2), .val (.ref a3), .val (.ref a4), .val (.int p5), .val (.int p6)] [(.ref a3), (.ref a1)])) _
    refine st3 _ ?_
    show Steps p.tables e below (T3.setTop (mkF m 14 #[.val (.ref a1), .val (.ref a2), .val (.ref a3), .val (.ref a4), .val (.int p5), .val (.int p6)] [])) _
    refine XS.aloadN X3.here hx rfl (hb hby d7_14) rfl rfl ?_
    show Steps p.tables e below (T3.setTop (mkF m 15 #[.val (.ref a1), .val (.ref a2), .val (.ref a3), .val (.ref a4), .val (.int p5), .val (.int p6)] [(.ref a1)])) _
    refine XS.aloadN X3.here hx rfl (hb hby d7_15) rfl rfl ?_
    show Steps p.tables e below (T3.setTop (mkF m 16 #[.val (.ref a1), .val (.ref a2), .val (.ref a3), .val (.ref a4), .val (.int p5), .val (.int p6)] [(.ref a4), (.ref a1)])) _
    refine st6 _ ?_
    show Steps p.tables e below (T6.setTop (mkF m 19 #[.val (.ref a1), .val (.ref a2), .val (.ref a3), .val (.ref a4), .val (.int p5), .val (.int p6)] [])) _
    refine XS.aloadN X6.here hx rfl (hb hby d7_19) rfl rfl ?_
    show Steps p.tables e below (T6.setTop (mkF m 20 #[.val (.ref a1), .val (.ref a2), .val (.ref a3), .val (.ref a4), .val (.int p5), .val (.int p6)] [(.ref a1)])) _
    refine XS.iload X6.here hx rfl (hb hby d7_20) rfl ?_
    show Steps p.tables e below (T6.setTop (mkF m 22 #[.val (.ref a1), .val (.ref a2), .val (.ref a3), .val (.ref a4), .val (.int p5), .val (.int p6)] [(.int p5), (.ref a1)])) _
    refine st8 _ ?_
    show Steps p.tables e below (T8.setTop (mkF m 25 #[.val (.ref a1), .val (.ref a2), .val (.ref a3), .val (.ref a4), .val (.int p5), .val (.int p6)] [])) _
    refine XS.aloadN X8.here hx rfl (hb hby d7_25) rfl rfl ?_
    show Steps p.tables e below (T8.setTop (mkF m 26 #[.val (.ref a1), .val (.ref a2), .val (.ref a3), .val (.ref a4), .val (.int p5), .val (.int p6)] [(.ref a1)])) _
    refine XS.iload X8.here hx rfl (hb hby d7_26) rfl ?_
    show Steps p.tables e below (T8.setTop (mkF m 28 #[.val (.ref a1), .val (.ref a2), .val (.ref a3), .val (.ref a4), .val (.int p5), .val (.int p6)] [(.int p6), (.ref a1)])) _
    refine st11 _ ?_
    show Steps p.tables e below (T11.setTop (mkF m 31 #[.val (.ref a1), .val (.ref a2), .val (.ref a3), .val (.ref a4), .val (.int p5), .val (.int p6)] [])) _
    exact X11.returnOut hx Bd.returns (hb hby d7_31) hr
  · show Q_7 Z a1 a2 a3 a4 p5 p6 h0 n0 _ T11.heap _
    rw [e11]
    exact ⟨rfl, N11, Kh11, (f10.wr W11), f12, f13, (Fw8.other W11 (Or.inr (slot_ne (Or.inr (hw _ (List.mem_of_getElem? (i := 48) rfl))) (Or.inr (hw _ (List.mem_of_getElem? (i := 50) rfl))) (by decide) (t := .int) (t' := .int) (by decide) (by decide)))), Fw11⟩
theorem d9_0 : decode prog_5_method_2_code 0 = .ok (.aload_n 0, 1) := by decide +kernel
theorem d9_1 : decode prog_5_method_2_code 1 = .ok (.getfield 24, 3) := by decide +kernel
theorem d9_4 : decode prog_5_method_2_code 4 = .ok (.aload_n 0, 1) := by decide +kernel
theorem d9_5 : decode prog_5_method_2_code 5 = .ok (.getfield 20, 3) := by decide +kernel
theorem d9_8 : decode prog_5_method_2_code 8 = .ok (.isub, 1) := by decide +kernel
theorem d9_9 : decode prog_5_method_2_code 9 = .ok (.ireturn, 1) := by decide +kernel
theorem pn_9 : plainName "com/example/vrabec/vrabec/index/PostTerms" = true := by first | (simp [plainName, overriddenIn]; done) | decide +kernel
theorem ef_9 (m : MethodId) (x0 : Addr) : entryFrame m #[(.ref x0)] 1 = mkF m 0 #[.val (.ref x0)] [] := by first | (simp [entryFrame, mkF, argsToLocals, Value.category]; done) | rfl
def Q_9 (Z : State) (a1 : Addr) (f t : Int32) (h0 : Heap) (n0 : Nat) (v : Option Value) (h : Heap) (L : List Loc) : Prop := v = some (.int (t - f)) ∧ Fr n0 L ∧ h = h0
set_option maxRecDepth 65536 in
set_option maxHeartbeats 40000000 in
theorem rm_9 (l : Launch) (Z : State) (a0 : Array Value) (hw : ∀ d ∈ tables_1, d.before a0 Z = true) (ws : List Jvm.Cond) (a1 : Addr) (f t : Int32) (h0 : Heap) (n0 : Nat) (Z0 : n0 ≤ h0.size) (F_f : Fld Z h0 a1 "com/example/vrabec/vrabec/index/PostTerms" "from" "I" (.int f)) (F_t : Fld Z h0 a1 "com/example/vrabec/vrabec/index/PostTerms" "to" "I" (.int t)) :
    MetFree l (⟨"com/example/vrabec/vrabec/index/PostTerms", "size", "()I"⟩ : MethodName) (head1 (Jvm.Cond.code (⟨"com/example/vrabec/vrabec/index/PostTerms", "size", "()I"⟩ : MethodName) prog_5_method_2_code 1 (some .int) :: ws) ({ frames := 0, cells := 0, slots := 0, locals := 0 } : Room)) (fun a U => a = #[(.ref a1)] ∧ Z.Warmed39 U.vm ∧ U.heap = h0) (fun _ _ _ _ _ => True) (fun _ U o U' => ∃ v L, o = .returned v ∧ Q_9 Z a1 f t h0 n0 v U'.heap L ∧ FrameEnd U o U' L ({ frames := 0, cells := 0, slots := 0, locals := 0 } : Room).cells ({ frames := 0, cells := 0, slots := 0, locals := 0 } : Room).slots) := by
  refine MetFree.of_bodySF (plainFor_of_name pn_9) hisR ?_
  intro p e s m args below meth cod_ s₁ Bd hml0 hP hK
  obtain ⟨rfl, hZ, hh⟩ := hP
  have hx := Bd.exec
  have hby := Bd.bytes
  have hml : cod_.maxLocals = 1 := hml0
  have hown : s.vm.findClass "com/example/vrabec/vrabec/index/PostTerms" = some m.cls := findClass_of_methodNamed Bd.named
  have hnm := (name_of_methodNamed Bd.named Bd.method).1
  have X0 : Stand p l e ({ frames := 0, cells := 0, slots := 0, locals := 0 } : Room) s m #[(.ref a1)] below meth cod_ s₁ [] 0 0 := Stand.of_body Bd
  have e0 : s₁.heap = h0 := by rw [← hh, Bd.state]; rfl
  have N0 := Fr.nil n0
  have pre0 : ∀ t, Steps p.tables e below (s₁.setTop (mkF m 0 #[.val (.ref a1)] [])) t → Steps p.tables e below (s₁.setTop (entryFrame m #[(.ref a1)] 1)) t := fun t k => castTop (ef_9 m a1) k
  obtain ⟨T14, X14, e14, st14⟩ := getF X0 hx hZ hown (host := "") (Or.inl (hw _ (List.mem_of_getElem? (i := 49) rfl))) Via.refl e0 F_t (g := (mkF m 1 #[.val (.ref a1)] [(.ref a1)])) rfl rfl (hb hby d9_1)
  obtain ⟨T15, X15, e15, st15⟩ := getF X14 hx hZ hown (host := "") (Or.inl (hw _ (List.mem_of_getElem? (i := 47) rfl))) Via.refl e14 F_f (g := (mkF m 5 #[.val (.ref a1)] [(.ref a1), (.int t)])) rfl rfl (hb hby d9_5)
  obtain ⟨fs, hr, hrun, hended, hW, hsame⟩ := X15.leave (v := some (.int (t - f))) (fun h => by rw [Bd.returns] at h; cases h)
  refine ⟨_, _, pre0 _ ?_, hrun, hended, _, _, rfl, ?_, ⟨_, rfl⟩, hW, hsame.mono (by decide) (by decide)⟩
  · show Steps p.tables e below (s₁.setTop (mkF m 0 #[.val (.ref a1)] [])) _
    refine XS.aloadN X0.here hx rfl (hb hby d9_0) rfl rfl ?_
    show Steps p.tables e below (s₁.setTop (mkF m 1 #[.val (.ref a1)] [(.ref a1)])) _
    refine st14 _ ?_
    show Steps p.tables e below (T14.setTop (mkF m 4 #[.val (.ref a1)] [(.int t)])) _
    refine XS.aloadN X14.here hx rfl (hb hby d9_4) rfl rfl ?_
    show Steps p.tables e below (T14.setTop (mkF m 5 #[.val (.ref a1)] [(.ref a1), (.int t)])) _
    refine st15 _ ?_
    show Steps p.tables e below (T15.setTop (mkF m 8 #[.val (.ref a1)] [(.int f), (.int t)])) _
    refine XS.isub X15.here hx rfl (hb hby d9_8) rfl ?_
    show Steps p.tables e below (T15.setTop (mkF m 9 #[.val (.ref a1)] [(.int (t - f))])) _
    exact retI X15 hx Bd.returns (hb hby d9_9) hr
  · show Q_9 Z a1 f t h0 n0 _ T15.heap _
    rw [e15]
    exact ⟨rfl, N0, rfl⟩
theorem d11_0 : decode jdk_41_method_11_code 0 = .ok (.iload_n 0, 1) := by decide +kernel
theorem d11_1 : decode jdk_41_method_11_code 1 = .ok (.ifCond .lt 8, 3) := by decide +kernel
theorem d11_4 : decode jdk_41_method_11_code 4 = .ok (.iload_n 0, 1) := by decide +kernel
theorem d11_5 : decode jdk_41_method_11_code 5 = .ok (.iload_n 1, 1) := by decide +kernel
theorem d11_6 : decode jdk_41_method_11_code 6 = .ok (.if_icmp .lt 10, 3) := by decide +kernel
theorem d11_16 : decode jdk_41_method_11_code 16 = .ok (.iload_n 0, 1) := by decide +kernel
theorem d11_17 : decode jdk_41_method_11_code 17 = .ok (.ireturn, 1) := by decide +kernel
theorem pn_11 : plainName "jdk/internal/util/Preconditions" = true := by first | (simp [plainName, overriddenIn]; done) | decide +kernel
theorem ef_11n2 (m : MethodId) (x0 : Int32) (x1 : Int32) : entryFrame m #[(.int x0), (.int x1), .null] 3 = mkF m 0 #[.val (.int x0), .val (.int x1), .val .null] [] := by first | (simp [entryFrame, mkF, argsToLocals, Value.category]; done) | rfl
def Q_pcn (Z : State) (p1 : Int32) (p2 : Int32) (h0 : Heap) (n0 : Nat) (v : Option Value) (h : Heap) (L : List Loc) : Prop := v = some (.int p1) ∧ Fr n0 L ∧ h = h0
set_option maxRecDepth 65536 in
set_option maxHeartbeats 40000000 in
theorem rm_pcn (l : Launch) (Z : State) (a0 : Array Value) (hw : ∀ d ∈ tables_1, d.before a0 Z = true) (ws : List Jvm.Cond) (p1 : Int32) (p2 : Int32) (h0 : Heap) (n0 : Nat) (Z0 : n0 ≤ h0.size) (u0 : ¬ p1 < 0) (u1 : p1 < p2) :
    MetFree l (⟨"jdk/internal/util/Preconditions", "checkIndex", "(IILjava/util/function/BiFunction;)I"⟩ : MethodName) (head1 (Jvm.Cond.code (⟨"jdk/internal/util/Preconditions", "checkIndex", "(IILjava/util/function/BiFunction;)I"⟩ : MethodName) jdk_41_method_11_code 3 (some .int) :: ws) ({ frames := 0, cells := 0, slots := 0, locals := 0 } : Room)) (fun a U => a = #[(.int p1), (.int p2), .null] ∧ Z.Warmed39 U.vm ∧ U.heap = h0) (fun _ _ _ _ _ => True) (fun _ U o U' => ∃ v L, o = .returned v ∧ Q_pcn Z p1 p2 h0 n0 v U'.heap L ∧ FrameEnd U o U' L ({ frames := 0, cells := 0, slots := 0, locals := 0 } : Room).cells ({ frames := 0, cells := 0, slots := 0, locals := 0 } : Room).slots) := by
  refine MetFree.of_bodySF (plainFor_of_name pn_11) hisR ?_
  intro p e s m args below meth cod_ s₁ Bd hml0 hP hK
  obtain ⟨rfl, hZ, hh⟩ := hP
  have hx := Bd.exec
  have hby := Bd.bytes
  have hml : cod_.maxLocals = 3 := hml0
  have hown : s.vm.findClass "jdk/internal/util/Preconditions" = some m.cls := findClass_of_methodNamed Bd.named
  have hnm := (name_of_methodNamed Bd.named Bd.method).1
  have X0 : Stand p l e ({ frames := 0, cells := 0, slots := 0, locals := 0 } : Room) s m #[(.int p1), (.int p2), .null] below meth cod_ s₁ [] 0 0 := Stand.of_body Bd
  have e0 : s₁.heap = h0 := by rw [← hh, Bd.state]; rfl
  have N0 := Fr.nil n0
  have pre0 : ∀ t, Steps p.tables e below (s₁.setTop (mkF m 0 #[.val (.int p1), .val (.int p2), .val .null] [])) t → Steps p.tables e below (s₁.setTop (entryFrame m #[(.int p1), (.int p2), .null] 3)) t := fun t k => castTop (ef_11n2 m p1 p2) k
  have hc1 : ¬ (p1 < (0 : Int32)) := u0
  have hc6 : p1 < p2 := u1
  obtain ⟨fs, hr, hrun, hended, hW, hsame⟩ := X0.leave (v := some (.int p1)) (fun h => by rw [Bd.returns] at h; cases h)
  refine ⟨_, _, pre0 _ ?_, hrun, hended, _, _, rfl, ?_, ⟨_, rfl⟩, hW, hsame.mono (by decide) (by decide)⟩
  · show Steps p.tables e below (s₁.setTop (mkF m 0 #[.val (.int p1), .val (.int p2), .val .null] [])) _
    refine XS.iloadN X0.here hx rfl (hb hby d11_0) rfl ?_
    show Steps p.tables e below (s₁.setTop (mkF m 1 #[.val (.int p1), .val (.int p2), .val .null] [(.int p1)])) _
    refine XS.ifNo X0.here hx rfl (hb hby d11_1) rfl ((if0 _ _).trans (flt hc1).1) ?_
    show Steps p.tables e below (s₁.setTop (mkF m 4 #[.val (.int p1), .val (.int p2), .val .null] [])) _
    refine XS.iloadN X0.here hx rfl (hb hby d11_4) rfl ?_
    show Steps p.tables e below (s₁.setTop (mkF m 5 #[.val (.int p1), .val (.int p2), .val .null] [(.int p1)])) _
    refine XS.iloadN X0.here hx rfl (hb hby d11_5) rfl ?_
    show Steps p.tables e below (s₁.setTop (mkF m 6 #[.val (.int p1), .val (.int p2), .val .null] [(.int p2), (.int p1)])) _
    refine XS.icmpYes X0.here hx rfl (pc0 := 6) (pc' := 16) rfl (hb hby d11_6) rfl (tlt hc6).1 (by decide) (by decide) ?_
    show Steps p.tables e below (s₁.setTop (mkF m 16 #[.val (.int p1), .val (.int p2), .val .null] [])) _
    refine XS.iloadN X0.here hx rfl (hb hby d11_16) rfl ?_
    show Steps p.tables e below (s₁.setTop (mkF m 17 #[.val (.int p1), .val (.int p2), .val .null] [(.int p1)])) _
    exact retI X0 hx Bd.returns (hb hby d11_17) hr
  · show Q_pcn Z p1 p2 h0 n0 _ s₁.heap _
    rw [e0]
    exact ⟨rfl, N0, rfl⟩
theorem d10_0 : decode jdk_31_method_17_code 0 = .ok (.iload_n 0, 1) := by decide +kernel
theorem d10_1 : decode jdk_31_method_17_code 1 = .ok (.iload_n 1, 1) := by decide +kernel
theorem d10_2 : decode jdk_31_method_17_code 2 = .ok (.aconst_null, 1) := by decide +kernel
theorem d10_3 : decode jdk_31_method_17_code 3 = .ok (.invokestatic 105, 3) := by decide +kernel
theorem d10_6 : decode jdk_31_method_17_code 6 = .ok (.ireturn, 1) := by decide +kernel
theorem pd__28IILjava_2futil_2ffunction_2fBiFunction_3b_29I : parseMethodDescriptor "(IILjava/util/function/BiFunction;)I" = some ⟨[.int, .int, (.object "java/util/function/BiFunction")], some .int⟩ := by decide +kernel
theorem pn_10 : plainName "java/util/Objects" = true := by first | (simp [plainName, overriddenIn]; done) | decide +kernel
theorem ef_10 (m : MethodId) (x0 : Int32) (x1 : Int32) : entryFrame m #[(.int x0), (.int x1)] 2 = mkF m 0 #[.val (.int x0), .val (.int x1)] [] := by first | (simp [entryFrame, mkF, argsToLocals, Value.category]; done) | rfl
def Q_10 (Z : State) (p1 : Int32) (p2 : Int32) (h0 : Heap) (n0 : Nat) (v : Option Value) (h : Heap) (L : List Loc) : Prop := v = some (.int p1) ∧ Fr n0 L ∧ h = h0
set_option maxRecDepth 65536 in
set_option maxHeartbeats 40000000 in
theorem rm_10 (l : Launch) (Z : State) (a0 : Array Value) (hw : ∀ d ∈ tables_1, d.before a0 Z = true) (ws : List Jvm.Cond) (p1 : Int32) (p2 : Int32) (h0 : Heap) (n0 : Nat) (Z0 : n0 ≤ h0.size) (u0 : ¬ p1 < 0) (u1 : p1 < p2) :
    MetFree l (⟨"java/util/Objects", "checkIndex", "(II)I"⟩ : MethodName) (head1 (Jvm.Cond.code (⟨"java/util/Objects", "checkIndex", "(II)I"⟩ : MethodName) jdk_31_method_17_code 2 (some .int) :: ws) ({ frames := 1, cells := 0, slots := 0, locals := 14 } : Room)) (fun a U => a = #[(.int p1), (.int p2)] ∧ Z.Warmed39 U.vm ∧ U.heap = h0) (fun _ _ _ _ _ => True) (fun _ U o U' => ∃ v L, o = .returned v ∧ Q_10 Z p1 p2 h0 n0 v U'.heap L ∧ FrameEnd U o U' L ({ frames := 1, cells := 0, slots := 0, locals := 14 } : Room).cells ({ frames := 1, cells := 0, slots := 0, locals := 14 } : Room).slots) := by
  refine MetFree.of_bodySF (plainFor_of_name pn_10) hisR ?_
  intro p e s m args below meth cod_ s₁ Bd hml0 hP hK
  obtain ⟨rfl, hZ, hh⟩ := hP
  have hx := Bd.exec
  have hby := Bd.bytes
  have hml : cod_.maxLocals = 2 := hml0
  have hown : s.vm.findClass "java/util/Objects" = some m.cls := findClass_of_methodNamed Bd.named
  have hnm := (name_of_methodNamed Bd.named Bd.method).1
  have X0 : Stand p l e ({ frames := 1, cells := 0, slots := 0, locals := 14 } : Room) s m #[(.int p1), (.int p2)] below meth cod_ s₁ [] 0 0 := Stand.of_body Bd
  have e0 : s₁.heap = h0 := by rw [← hh, Bd.state]; rfl
  have N0 := Fr.nil n0
  have pre0 : ∀ t, Steps p.tables e below (s₁.setTop (mkF m 0 #[.val (.int p1), .val (.int p2)] [])) t → Steps p.tables e below (s₁.setTop (entryFrame m #[(.int p1), (.int p2)] 2)) t := fun t k => castTop (ef_10 m p1 p2) k
  obtain ⟨_, _, ⟨T16, L16, c16_, n16_⟩, -, X16, ⟨Lc16, hQ16, l16, y16, z16⟩, st16⟩ := Jvm.LawKit.callS X0 hx (y := (⟨"jdk/internal/util/Preconditions", "checkIndex", "(IILjava/util/function/BiFunction;)I"⟩ : MethodName)) hown (mvT hZ (hw _ (List.mem_of_getElem? (i := 65) rfl))) (mvT hZ (hw _ (List.mem_of_getElem? (i := 66) rfl))) (mvT hZ (hw _ (List.mem_of_getElem? (i := 67) rfl))) (mvT hZ (hw _ (List.mem_of_getElem? (i := 68) rfl))) (by decide) (backOf (W := 0) (rm_pcn l Z a0 hw [] p1 p2 h0 n0 (Nat.le_trans Z0 (Keep.refl h0 []).1) u0 u1) hZ (hw _ (List.mem_of_getElem? (i := 68) rfl)) (hw _ (List.mem_of_getElem? (i := 67) rfl)) (by decide) (by decide)) (g := (mkF m 3 #[.val (.int p1), .val (.int p2)] [.null, (.int p2), (.int p1)])) rfl (by rw [hml]; rfl) (argsL := [(.int p1), (.int p2), .null]) (rest := []) (lenOf pd__28IILjava_2futil_2ffunction_2fBiFunction_3b_29I rfl) rfl (by show 2 * 0 + _ ≤ _; exact Nat.le_of_eq rfl) (hb hby d10_3) (fun _ _ => ⟨rfl, e0, (by decide : 0 + 0 ≤ _), (by decide : 0 + 0 ≤ _)⟩)
  dsimp only [Pt.U, Pt.locs, Pt.cells, Pt.slots] at X16 l16 y16 z16 st16 hQ16
  subst l16 y16 z16
  obtain ⟨rfl, Nq16, e16⟩ := hQ16
  have N16 := Fr.app N0 Nq16
  obtain ⟨fs, hr, hrun, hended, hW, hsame⟩ := X16.leave (v := some (.int p1)) (fun h => by rw [Bd.returns] at h; cases h)
  refine ⟨_, _, pre0 _ ?_, hrun, hended, _, _, rfl, ?_, ⟨_, rfl⟩, hW, hsame.mono (by decide) (by decide)⟩
  · show Steps p.tables e below (s₁.setTop (mkF m 0 #[.val (.int p1), .val (.int p2)] [])) _
    refine XS.iloadN X0.here hx rfl (hb hby d10_0) rfl ?_
    show Steps p.tables e below (s₁.setTop (mkF m 1 #[.val (.int p1), .val (.int p2)] [(.int p1)])) _
    refine XS.iloadN X0.here hx rfl (hb hby d10_1) rfl ?_
    show Steps p.tables e below (s₁.setTop (mkF m 2 #[.val (.int p1), .val (.int p2)] [(.int p2), (.int p1)])) _
    refine XS.aconstNull X0.here hx rfl (hb hby d10_2) ?_
    show Steps p.tables e below (s₁.setTop (mkF m 3 #[.val (.int p1), .val (.int p2)] [.null, (.int p2), (.int p1)])) _
    refine st16 _ ?_
    show Steps p.tables e below (T16.setTop (mkF m 6 #[.val (.int p1), .val (.int p2)] [(.int p1)])) _
    exact retI X16 hx Bd.returns (hb hby d10_6) hr
  · show Q_10 Z p1 p2 h0 n0 _ T16.heap _
    rw [e16]
    exact ⟨rfl, N16, rfl⟩
theorem d8_0 : decode prog_5_method_3_code 0 = .ok (.aload_n 0, 1) := by decide +kernel
theorem d8_1 : decode prog_5_method_3_code 1 = .ok (.getfield 7, 3) := by decide +kernel
theorem d8_4 : decode prog_5_method_3_code 4 = .ok (.aload_n 0, 1) := by decide +kernel
theorem d8_5 : decode prog_5_method_3_code 5 = .ok (.getfield 13, 3) := by decide +kernel
theorem d8_8 : decode prog_5_method_3_code 8 = .ok (.aload_n 0, 1) := by decide +kernel
theorem d8_9 : decode prog_5_method_3_code 9 = .ok (.getfield 20, 3) := by decide +kernel
theorem d8_12 : decode prog_5_method_3_code 12 = .ok (.iload_n 1, 1) := by decide +kernel
theorem d8_13 : decode prog_5_method_3_code 13 = .ok (.aload_n 0, 1) := by decide +kernel
theorem d8_14 : decode prog_5_method_3_code 14 = .ok (.invokevirtual 27, 3) := by decide +kernel
theorem d8_17 : decode prog_5_method_3_code 17 = .ok (.invokestatic 31, 3) := by decide +kernel
theorem d8_20 : decode prog_5_method_3_code 20 = .ok (.iadd, 1) := by decide +kernel
theorem d8_21 : decode prog_5_method_3_code 21 = .ok (.iaload, 1) := by decide +kernel
theorem d8_22 : decode prog_5_method_3_code 22 = .ok (.aaload, 1) := by decide +kernel
theorem d8_23 : decode prog_5_method_3_code 23 = .ok (.areturn, 1) := by decide +kernel
theorem pd__28_29I : parseMethodDescriptor "()I" = some ⟨[], some .int⟩ := by decide +kernel
theorem pd__28II_29I : parseMethodDescriptor "(II)I" = some ⟨[.int, .int], some .int⟩ := by decide +kernel
theorem pn_8 : plainName "com/example/vrabec/vrabec/index/PostTerms" = true := by first | (simp [plainName, overriddenIn]; done) | decide +kernel
theorem ef_8 (m : MethodId) (x0 : Addr) (x1 : Int32) : entryFrame m #[(.ref x0), (.int x1)] 2 = mkF m 0 #[.val (.ref x0), .val (.int x1)] [] := by first | (simp [entryFrame, mkF, argsToLocals, Value.category]; done) | rfl
def Q_8 (Z : State) (a1 : Addr) (p2 : Int32) (r : Addr) (h0 : Heap) (n0 : Nat) (v : Option Value) (h : Heap) (L : List Loc) : Prop := v = some (.ref r) ∧ Fr n0 L ∧ h = h0
set_option maxRecDepth 65536 in
set_option maxHeartbeats 40000000 in
theorem rm_8 (l : Launch) (Z : State) (a0 : Array Value) (hw : ∀ d ∈ tables_1, d.before a0 Z = true) (ws : List Jvm.Cond) (a1 : Addr) (p2 : Int32) (r : Addr) (ta na : Addr) (kt kn : ClassId) (f t x : Int32) (tvs nvs : List Value) (h0 : Heap) (n0 : Nat) (Z0 : n0 ≤ h0.size) (E_1 : Exa Z h0 a1 "com/example/vrabec/vrabec/index/PostTerms") (F_te : Fld Z h0 a1 "com/example/vrabec/vrabec/index/PostTerms" "terms" "[Ljava/lang/String;" (.ref ta)) (F_nu : Fld Z h0 a1 "com/example/vrabec/vrabec/index/PostTerms" "numbers" "[I" (.ref na)) (F_f : Fld Z h0 a1 "com/example/vrabec/vrabec/index/PostTerms" "from" "I" (.int f)) (F_t : Fld Z h0 a1 "com/example/vrabec/vrabec/index/PostTerms" "to" "I" (.int t)) (V_t : Arv Z h0 ta kt (.object "java/lang/String") (4 : Int32) tvs .null) (V_n : Arv Z h0 na kn .int (5 : Int32) nvs (.int (0 : Int32))) (u0 : ¬ p2 < 0) (u1 : p2 < (t - f)) (u2 : ¬ (f + p2) < 0 ∧ (f + p2) < 5) (u3 : nvs.getD (f + p2).toNatClampNeg (.int (0 : Int32)) = .int x) (u4 : ¬ x < 0 ∧ x < 4) (u5 : tvs.getD x.toNatClampNeg .null = .ref r) :
    MetFree l (⟨"com/example/vrabec/vrabec/index/PostTerms", "term", "(I)Ljava/lang/String;"⟩ : MethodName) (head1 (Jvm.Cond.code (⟨"com/example/vrabec/vrabec/index/PostTerms", "term", "(I)Ljava/lang/String;"⟩ : MethodName) prog_5_method_3_code 2 (some (.object "java/lang/String")) :: ws) ({ frames := 2, cells := 0, slots := 0, locals := 30 } : Room)) (fun a U => a = #[(.ref a1), (.int p2)] ∧ Z.Warmed39 U.vm ∧ U.heap = h0) (fun _ _ _ _ _ => True) (fun _ U o U' => ∃ v L, o = .returned v ∧ Q_8 Z a1 p2 r h0 n0 v U'.heap L ∧ FrameEnd U o U' L ({ frames := 2, cells := 0, slots := 0, locals := 30 } : Room).cells ({ frames := 2, cells := 0, slots := 0, locals := 30 } : Room).slots) := by
  refine MetFree.of_bodySF (plainFor_of_name pn_8) hisR ?_
  intro p e s m args below meth cod_ s₁ Bd hml0 hP hK
  obtain ⟨rfl, hZ, hh⟩ := hP
  have hx := Bd.exec
  have hby := Bd.bytes
  have hml : cod_.maxLocals = 2 := hml0
  have hown : s.vm.findClass "com/example/vrabec/vrabec/index/PostTerms" = some m.cls := findClass_of_methodNamed Bd.named
  have hnm := (name_of_methodNamed Bd.named Bd.method).1
  have X0 : Stand p l e ({ frames := 2, cells := 0, slots := 0, locals := 30 } : Room) s m #[(.ref a1), (.int p2)] below meth cod_ s₁ [] 0 0 := Stand.of_body Bd
  have e0 : s₁.heap = h0 := by rw [← hh, Bd.state]; rfl
  have N0 := Fr.nil n0
  have pre0 : ∀ t, Steps p.tables e below (s₁.setTop (mkF m 0 #[.val (.ref a1), .val (.int p2)] [])) t → Steps p.tables e below (s₁.setTop (entryFrame m #[(.ref a1), (.int p2)] 2)) t := fun t k => castTop (ef_8 m a1 p2) k
  obtain ⟨T17, X17, e17, st17⟩ := getF X0 hx hZ hown (host := "") (Or.inl (hw _ (List.mem_of_getElem? (i := 41) rfl))) Via.refl e0 F_te (g := (mkF m 1 #[.val (.ref a1), .val (.int p2)] [(.ref a1)])) rfl rfl (hb hby d8_1)
  obtain ⟨T18, X18, e18, st18⟩ := getF X17 hx hZ hown (host := "") (Or.inl (hw _ (List.mem_of_getElem? (i := 43) rfl))) Via.refl e17 F_nu (g := (mkF m 5 #[.val (.ref a1), .val (.int p2)] [(.ref a1), (.ref ta)])) rfl rfl (hb hby d8_5)
  obtain ⟨T19, X19, e19, st19⟩ := getF X18 hx hZ hown (host := "") (Or.inl (hw _ (List.mem_of_getElem? (i := 47) rfl))) Via.refl e18 F_f (g := (mkF m 9 #[.val (.ref a1), .val (.int p2)] [(.ref a1), (.ref na), (.ref ta)])) rfl rfl (hb hby d8_9)
  obtain ⟨cq20, kq20, q20a, q20b, q20c⟩ := isOf hZ e19 E_1
  obtain ⟨_, _, ⟨T20, L20, c20_, n20_⟩, -, X20, ⟨Lc20, hQ20, l20, y20, z20⟩, st20⟩ := X19.virtualBack hx (y := (⟨"com/example/vrabec/vrabec/index/PostTerms", "size", "()I"⟩ : MethodName)) (z := (⟨"com/example/vrabec/vrabec/index/PostTerms", "size", "()I"⟩ : MethodName)) hown (mvT hZ (hw _ (List.mem_of_getElem? (i := 56) rfl))) (mvT hZ (hw _ (List.mem_of_getElem? (i := 57) rfl))) (notFace_of_selects (args := #[]) (mvT hZ (hw _ (List.mem_of_getElem? (i := 59) rfl)))) (mvT hZ (hw _ (List.mem_of_getElem? (i := 59) rfl))) (mvT hZ (hw _ (List.mem_of_getElem? (i := 58) rfl))) (by decide) (backOf (W := 4) (rm_9 l Z a0 hw [] a1 f t h0 n0 (Nat.le_trans Z0 (Keep.refl h0 []).1) F_f F_t) hZ (hw _ (List.mem_of_getElem? (i := 60) rfl)) (hw _ (List.mem_of_getElem? (i := 36) rfl)) (by decide) (by decide)) q20a q20c (g := (mkF m 14 #[.val (.ref a1), .val (.int p2)] [(.ref a1), (.int p2), (.int f), (.ref na), (.ref ta)])) rfl (by rw [hml]; rfl) (Steps.refl _) (argsL := []) (rest := [(.int p2), (.int f), (.ref na), (.ref ta)]) (lenOf pd__28_29I rfl) rfl (by show 2 * 0 + _ ≤ _; exact Nat.le_of_eq rfl) (hb hby d8_14) (fun _ _ => ⟨rfl, e19, (by decide : 0 + 0 ≤ _), (by decide : 0 + 0 ≤ _)⟩)
  dsimp only [Pt.U, Pt.locs, Pt.cells, Pt.slots] at X20 l20 y20 z20 st20 hQ20
  subst l20 y20 z20
  obtain ⟨rfl, Nq20, e20⟩ := hQ20
  have N20 := Fr.app N0 Nq20
  obtain ⟨_, _, ⟨T21, L21, c21_, n21_⟩, -, X21, ⟨Lc21, hQ21, l21, y21, z21⟩, st21⟩ := Jvm.LawKit.callS X20 hx (y := (⟨"java/util/Objects", "checkIndex", "(II)I"⟩ : MethodName)) hown (mvT hZ (hw _ (List.mem_of_getElem? (i := 61) rfl))) (mvT hZ (hw _ (List.mem_of_getElem? (i := 62) rfl))) (mvT hZ (hw _ (List.mem_of_getElem? (i := 63) rfl))) (mvT hZ (hw _ (List.mem_of_getElem? (i := 64) rfl))) (by decide) (backOf (W := 3) (rm_10 l Z a0 hw [] p2 (t - f) h0 n0 (Nat.le_trans Z0 (Keep.refl h0 []).1) u0 u1) hZ (hw _ (List.mem_of_getElem? (i := 64) rfl)) (hw _ (List.mem_of_getElem? (i := 63) rfl)) (by decide) (by decide)) (g := (mkF m 17 #[.val (.ref a1), .val (.int p2)] [(.int (t - f)), (.int p2), (.int f), (.ref na), (.ref ta)])) rfl (by rw [hml]; rfl) (argsL := [(.int p2), (.int (t - f))]) (rest := [(.int f), (.ref na), (.ref ta)]) (lenOf pd__28II_29I rfl) rfl (by show 2 * 0 + _ ≤ _; exact Nat.le_of_eq rfl) (hb hby d8_17) (fun _ _ => ⟨rfl, e20, (by decide : 0 + 0 ≤ _), (by decide : 0 + 0 ≤ _)⟩)
  dsimp only [Pt.U, Pt.locs, Pt.cells, Pt.slots] at X21 l21 y21 z21 st21 hQ21
  subst l21 y21 z21
  obtain ⟨rfl, Nq21, e21⟩ := hQ21
  have N21 := Fr.app N20 Nq21
  obtain ⟨cl22, Ar22, -, S22, M22, H22, G22⟩ := id (V_n)
  have hin22 : ¬ ((f + p2) < 0 ∨ cl22.slots.size ≤ ((f + p2)).toNatClampNeg) := inb_of S22 u2
  have hat22 : cl22.slots[((f + p2)).toNatClampNeg]? = some (.int x) := Has.at H22 hin22 u3
  obtain ⟨cl23, Ar23, -, S23, M23, H23, G23⟩ := id (V_t)
  have hin23 : ¬ (x < 0 ∨ cl23.slots.size ≤ (x).toNatClampNeg) := inb_of S23 u4
  have hat23 : cl23.slots[(x).toNatClampNeg]? = some (.ref r) := Has.at H23 hin23 u5
  obtain ⟨fs, hr, hrun, hended, hW, hsame⟩ := X21.leave (v := some (.ref r)) (fun h => by rw [Bd.returns] at h; cases h)
  refine ⟨_, _, pre0 _ ?_, hrun, hended, _, _, rfl, ?_, ⟨_, rfl⟩, hW, hsame.mono (by decide) (by decide)⟩
  · show Steps p.tables e below (s₁.setTop (mkF m 0 #[.val (.ref a1), .val (.int p2)] [])) _
    refine XS.aloadN X0.here hx rfl (hb hby d8_0) rfl rfl ?_
    show Steps p.tables e below (s₁.setTop (mkF m 1 #[.val (.ref a1), .val (.int p2)] [(.ref a1)])) _
    refine st17 _ ?_
    show Steps p.tables e below (T17.setTop (mkF m 4 #[.val (.ref a1), .val (.int p2)] [(.ref ta)])) _
    refine XS.aloadN X17.here hx rfl (hb hby d8_4) rfl rfl ?_
    show Steps p.tables e below (T17.setTop (mkF m 5 #[.val (.ref a1), .val (.int p2)] [(.ref a1), (.ref ta)])) _
    refine st18 _ ?_
    show Steps p.tables e below (T18.setTop (mkF m 8 #[.val (.ref a1), .val (.int p2)] [(.ref na), (.ref ta)])) _
    refine XS.aloadN X18.here hx rfl (hb hby d8_8) rfl rfl ?_
    show Steps p.tables e below (T18.setTop (mkF m 9 #[.val (.ref a1), .val (.int p2)] [(.ref a1), (.ref na), (.ref ta)])) _
    refine st19 _ ?_
    show Steps p.tables e below (T19.setTop (mkF m 12 #[.val (.ref a1), .val (.int p2)] [(.int f), (.ref na), (.ref ta)])) _
    refine XS.iloadN X19.here hx rfl (hb hby d8_12) rfl ?_
    show Steps p.tables e below (T19.setTop (mkF m 13 #[.val (.ref a1), .val (.int p2)] [(.int p2), (.int f), (.ref na), (.ref ta)])) _
    refine XS.aloadN X19.here hx rfl (hb hby d8_13) rfl rfl ?_
    show Steps p.tables e below (T19.setTop (mkF m 14 #[.val (.ref a1), .val (.int p2)] [(.ref a1), (.int p2), (.int f), (.ref na), (.ref ta)])) _
    refine st20.trans ?_
    show Steps p.tables e below (T20.setTop (mkF m 17 #[.val (.ref a1), .val (.int p2)] [(.int (t - f)), (.int p2), (.int f), (.ref na), (.ref ta)])) _
    refine st21 _ ?_
    show Steps p.tables e below (T21.setTop (mkF m 20 #[.val (.ref a1), .val (.int p2)] [(.int p2), (.int f), (.ref na), (.ref ta)])) _
    refine XS.iadd X21.here hx rfl (hb hby d8_20) rfl ?_
    show Steps p.tables e below (T21.setTop (mkF m 21 #[.val (.ref a1), .val (.int p2)] [(.int (f + p2)), (.ref na), (.ref ta)])) _
    refine X21.iaload hx (j := (f + p2)) (v := (.int x)) (by rw [e21]; exact Ar22.1) (State.isArrayOf_alike hZ.alike Ar22.2.1) Ar22.2.2 hin22 hat22 (g := (mkF m 21 #[.val (.ref a1), .val (.int p2)] [(.int (f + p2)), (.ref na), (.ref ta)])) rfl rfl (hb hby d8_21) _ ?_
    show Steps p.tables e below (T21.setTop (mkF m 22 #[.val (.ref a1), .val (.int p2)] [(.int x), (.ref ta)])) _
    refine X21.aaload hx (j := x) (v := (.ref r)) (by rw [e21]; exact Ar23.1) (State.isArrayOf_alike hZ.alike Ar23.2.1) rfl Ar23.2.2 hin23 hat23 (g := (mkF m 22 #[.val (.ref a1), .val (.int p2)] [(.int x), (.ref ta)])) rfl rfl (hb hby d8_22) _ ?_
    show Steps p.tables e below (T21.setTop (mkF m 23 #[.val (.ref a1), .val (.int p2)] [(.ref r)])) _
    jvm_step X21.here [X21.here.top, hx, (hb hby d8_23), X21.method', Bd.returns, Value.isRef, FieldType.isReference]
    first | (intro acts; rw [hr _ acts rfl rfl rfl]) | rw [hr _ _ rfl rfl rfl]
    exact Steps.refl _
  · show Q_8 Z a1 p2 r h0 n0 _ T21.heap _
    rw [e21]
    exact ⟨rfl, N21, rfl⟩
theorem pd__28_5bC_29V : parseMethodDescriptor "([C)V" = some ⟨[(.array .char)], none⟩ := by decide +kernel
theorem pd__28_5bLjava_2flang_2fString_3b_5bI_5bIII_29V : parseMethodDescriptor "([Ljava/lang/String;[I[III)V" = some ⟨[(.array (.object "java/lang/String")), (.array .int), (.array .int), .int, .int], none⟩ := by decide +kernel
theorem pd__28I_29Ljava_2flang_2fString_3b : parseMethodDescriptor "(I)Ljava/lang/String;" = some ⟨[.int], some (.object "java/lang/String")⟩ := by decide +kernel
theorem pd__28I_29C : parseMethodDescriptor "(I)C" = some ⟨[.int], some .char⟩ := by decide +kernel
theorem pn_0 : plainName "com/example/vrabec/vrabec/index/PostTermsTermPinLaw" = true := by first | (simp [plainName, overriddenIn]; done) | decide +kernel
theorem ef_0 (m : MethodId) (x0 : Int64) (x1 : Int32) (x2 : Int32) (x3 : Int32) : entryFrame m #[(.long x0), (.int x1), (.int x2), (.int x3)] maxLocals = mkF m 0 #[.val (.long x0), .second, .val (.int x1), .val (.int x2), .val (.int x3), .unset, .unset, .unset, .unset, .unset, .unset, .unset, .unset, .unset, .unset, .unset, .unset, .unset, .unset, .unset] [] := by first | (simp [entryFrame, mkF, argsToLocals, Value.category, maxLocals]; done) | rfl
def Q_0 (Z : State) (q1 : Int64) (p2 : Int32) (p3 : Int32) (p4 : Int32) (h0 : Heap) (n0 : Nat) (v : Option Value) (h : Heap) (L : List Loc) : Prop := v = some (.int 1) ∧ Fr n0 L
set_option maxRecDepth 65536 in
set_option maxHeartbeats 40000000 in
theorem rm_0 (l : Launch) (Z : State) (a0 : Array Value) (hw : ∀ d ∈ tables_1, d.before a0 Z = true) (ws : List Jvm.Cond) (q1 : Int64) (p2 : Int32) (p3 : Int32) (p4 : Int32) (fm : Value) (zc : Int32) (h0 : Heap) (n0 : Nat) (Z0 : n0 ≤ h0.size) (S_C : Sta Z Z.heap "java/lang/String" "COMPACT_STRINGS" "Z" (.int zc)) (hz : ¬ zc = 0) (X00 : Old Z n0 h0) (rf : fm.isRef = true) (S_F : Sta Z Z.heap "jdk/internal/util/Preconditions" "SIOOBE_FORMATTER" "Ljava/util/function/BiFunction;" fm) :
    MetFree l x (head1 (Jvm.Cond.code x code maxLocals ret :: ws) room_1) (fun a U => a = #[(.long q1), (.int p2), (.int p3), (.int p4)] ∧ Z.Warmed39 U.vm ∧ U.heap = h0) (fun _ _ _ _ _ => True) (fun _ U o U' => ∃ v L, o = .returned v ∧ Q_0 Z q1 p2 p3 p4 h0 n0 v U'.heap L ∧ FrameEnd U o U' L room_1.cells room_1.slots) := by
  refine MetFree.of_bodySF (plainFor_of_name pn_0) hisR ?_
  intro p e s m args below meth cod_ s₁ Bd hml0 hP hK
  obtain ⟨rfl, hZ, hh⟩ := hP
  have hx := Bd.exec
  have hby := Bd.bytes
  have hml : cod_.maxLocals = 20 := hml0
  have hown : s.vm.findClass "com/example/vrabec/vrabec/index/PostTermsTermPinLaw" = some m.cls := findClass_of_methodNamed Bd.named
  have hnm := (name_of_methodNamed Bd.named Bd.method).1
  have X0 : Stand p l e room_1 s m #[(.long q1), (.int p2), (.int p3), (.int p4)] below meth cod_ s₁ [] 0 0 := Stand.of_body Bd
  have e0 : s₁.heap = h0 := by rw [← hh, Bd.state]; rfl
  have N0 := Fr.nil n0
  have pre0 : ∀ t, Steps p.tables e below (s₁.setTop (mkF m 0 #[.val (.long q1), .second, .val (.int p2), .val (.int p3), .val (.int p4), .unset, .unset, .unset, .unset, .unset, .unset, .unset, .unset, .unset, .unset, .unset, .unset, .unset, .unset, .unset] [])) t → Steps p.tables e below (s₁.setTop (entryFrame m #[(.long q1), (.int p2), (.int p3), (.int p4)] maxLocals)) t := fun t k => castTop (ef_0 m q1 p2 p3 p4) k
  have hws : ∀ d ∈ StrChars.Road.words, d.before a0 Z = true := fun d hd => hw d ((by decide +kernel : ∀ d ∈ StrChars.Road.words, d ∈ tables_1) d hd)
  have hlw : ∀ d ∈ StrChars.Road.wordsLen, d.before a0 Z = true := fun d hd => hw d ((by decide +kernel : ∀ d ∈ StrChars.Road.wordsLen, d ∈ tables_1) d hd)
  have hch : ∀ d ∈ StrChars.Road.wordsChN, d.before a0 Z = true := fun d hd => hw d ((by decide +kernel : ∀ d ∈ StrChars.Road.wordsChN, d ∈ tables_1) d hd)
  obtain ⟨T24, h24, k24, X24, e24, E24, A24, st24⟩ := newP X0 hx hZ (hw _ (List.mem_of_getElem? (i := 0) rfl)) e0 (g := (mkF m 1 #[.val (.long q1), .second, .val (.int p2), .val (.int p3), .val (.int p4), .unset, .unset, .unset, .unset, .unset, .unset, .unset, .unset, .unset, .unset, .unset, .unset, .unset, .unset, .unset] [(.int (1 : Int32))])) rfl (hb hby at_1) rfl (by decide) (cap := 1) (by decide) (by decide) (by decide) (by decide)
  obtain ⟨b24, g24⟩ : ∃ z, z = h0.size := ⟨_, rfl⟩
  rw [← g24] at A24 st24
  have g_b24 : n0 ≤ b24 := Nat.le_trans (Nat.le_trans Z0 (Keep.refl h0 []).1) (Nat.le_of_eq g24.symm)
  have sz_b24 : h0.size ≤ b24 := Nat.le_trans (Keep.refl h0 []).1 (Nat.le_of_eq g24.symm)
  have Kh24 : Keep h0 h24 [] := (Keep.refl h0 []).ext E24
  have V_b24 : Arv Z h24 b24 k24 .char (1 : Int32) [(.int (0 : Int32))] (.int (0 : Int32)) := (Arv.new A24 (by decide)).pad (pad_rep [] (.int (0 : Int32)) 1)
  obtain ⟨c0, e_c0⟩ : ∃ z : Int32, z = (((q1 &&& (255 : Int64)).toInt32).toUInt32.toUInt16.toUInt32.toInt32) := ⟨_, rfl⟩
  obtain ⟨cl25, Ar25, q25, S25, M25, H25, G25⟩ := id (V_b24)
  have hin25 : ¬ ((0 : Int32) < 0 ∨ cl25.slots.size ≤ ((0 : Int32)).toNatClampNeg) := inb_of S25 ⟨by decide, by decide⟩
  obtain ⟨T25, h25, X25, e25, W25, st25⟩ := stC X24 hx hZ e24 Ar25 (j := (0 : Int32)) hin25 (g := (mkF m 12 #[.val (.long q1), .second, .val (.int p2), .val (.int p3), .val (.int p4), .unset, .unset, .unset, .unset, .unset, .unset, .unset, .unset, .unset, .unset, .unset, .unset, .unset, .unset, .unset] [(.int c0), (.int (0 : Int32)), (.ref b24), (.ref b24)])) rfl rfl (hb hby at_12)
  have V25 : Arv Z h25 b24 k24 .char (1 : Int32) [(.int (nar .char c0))] (.int (0 : Int32)) := Arv.set Ar25 q25 S25 M25 H25 G25 (fits_nar_char _) W25 0 rfl (Nat.le_of_ble_eq_true rfl)
  have Kh25 : Keep h0 h25 [] := Kh24.wr W25 (Or.inr sz_b24)
  have N25 := Fr.snoc X25 N0 g_b24
  obtain ⟨T26, h26, k26, X26, e26, E26, A26, st26⟩ := newP X25 hx hZ (hw _ (List.mem_of_getElem? (i := 0) rfl)) e25 (g := (mkF m 16 #[.val (.long q1), .second, .val (.int p2), .val (.int p3), .val (.int p4), .val (.ref b24), .unset, .unset, .unset, .unset, .unset, .unset, .unset, .unset, .unset, .unset, .unset, .unset, .unset, .unset] [(.int (1 : Int32))])) rfl (hb hby at_16) rfl (by decide) (cap := 1) (by decide) (by decide) (by decide) (by decide)
  obtain ⟨b26, g26⟩ : ∃ z, z = h25.size := ⟨_, rfl⟩
  rw [← g26] at A26 st26
  have g_b26 : n0 ≤ b26 := Nat.le_trans (Nat.le_trans Z0 Kh25.1) (Nat.le_of_eq g26.symm)
  have sz_b26 : h0.size ≤ b26 := Nat.le_trans Kh25.1 (Nat.le_of_eq g26.symm)
  have ne_b24_b26 : b24 ≠ b26 := Nat.ne_of_lt (Nat.lt_of_lt_of_le V25.lt (Nat.le_of_eq g26.symm))
  have Kh26 : Keep h0 h26 [] := Kh25.ext E26
  have V_b26 : Arv Z h26 b26 k26 .char (1 : Int32) [(.int (0 : Int32))] (.int (0 : Int32)) := (Arv.new A26 (by decide)).pad (pad_rep [] (.int (0 : Int32)) 1)
  obtain ⟨c1, e_c1⟩ : ∃ z : Int32, z = (((((q1.toUInt64 >>> ((8 : Int32) &&& 0x3f).toInt64.toUInt64).toInt64) &&& (255 : Int64)).toInt32).toUInt32.toUInt16.toUInt32.toInt32) := ⟨_, rfl⟩
  obtain ⟨cl27, Ar27, q27, S27, M27, H27, G27⟩ := id (V_b26)
  have hin27 : ¬ ((0 : Int32) < 0 ∨ cl27.slots.size ≤ ((0 : Int32)).toNatClampNeg) := inb_of S27 ⟨by decide, by decide⟩
  obtain ⟨T27, h27, X27, e27, W27, st27⟩ := stC X26 hx hZ e26 Ar27 (j := (0 : Int32)) hin27 (g := (mkF m 30 #[.val (.long q1), .second, .val (.int p2), .val (.int p3), .val (.int p4), .val (.ref b24), .unset, .unset, .unset, .unset, .unset, .unset, .unset, .unset, .unset, .unset, .unset, .unset, .unset, .unset] [(.int c1), (.int (0 : Int32)), (.ref b26), (.ref b26)])) rfl rfl (hb hby at_30)
  have V27 : Arv Z h27 b26 k26 .char (1 : Int32) [(.int (nar .char c1))] (.int (0 : Int32)) := Arv.set Ar27 q27 S27 M27 H27 G27 (fits_nar_char _) W27 0 rfl (Nat.le_of_ble_eq_true rfl)
  have Kh27 : Keep h0 h27 [] := Kh26.wr W27 (Or.inr sz_b26)
  have N27 := Fr.snoc X27 N25 g_b26
  obtain ⟨T28, h28, k28, X28, e28, E28, A28, st28⟩ := newP X27 hx hZ (hw _ (List.mem_of_getElem? (i := 0) rfl)) e27 (g := (mkF m 34 #[.val (.long q1), .second, .val (.int p2), .val (.int p3), .val (.int p4), .val (.ref b24), .val (.ref b26), .unset, .unset, .unset, .unset, .unset, .unset, .unset, .unset, .unset, .unset, .unset, .unset, .unset] [(.int (1 : Int32))])) rfl (hb hby at_34) rfl (by decide) (cap := 1) (by decide) (by decide) (by decide) (by decide)
  obtain ⟨b28, g28⟩ : ∃ z, z = h27.size := ⟨_, rfl⟩
  rw [← g28] at A28 st28
  have g_b28 : n0 ≤ b28 := Nat.le_trans (Nat.le_trans Z0 Kh27.1) (Nat.le_of_eq g28.symm)
  have sz_b28 : h0.size ≤ b28 := Nat.le_trans Kh27.1 (Nat.le_of_eq g28.symm)
  have ne_b24_b28 : b24 ≠ b28 := Nat.ne_of_lt (Nat.lt_of_lt_of_le ((V25.ext E26).other W27 ne_b24_b26).lt (Nat.le_of_eq g28.symm))
  have ne_b26_b28 : b26 ≠ b28 := Nat.ne_of_lt (Nat.lt_of_lt_of_le V27.lt (Nat.le_of_eq g28.symm))
  have Kh28 : Keep h0 h28 [] := Kh27.ext E28
  have V_b28 : Arv Z h28 b28 k28 .char (1 : Int32) [(.int (0 : Int32))] (.int (0 : Int32)) := (Arv.new A28 (by decide)).pad (pad_rep [] (.int (0 : Int32)) 1)
  obtain ⟨c2, e_c2⟩ : ∃ z : Int32, z = (((((q1.toUInt64 >>> ((16 : Int32) &&& 0x3f).toInt64.toUInt64).toInt64) &&& (255 : Int64)).toInt32).toUInt32.toUInt16.toUInt32.toInt32) := ⟨_, rfl⟩
  obtain ⟨cl29, Ar29, q29, S29, M29, H29, G29⟩ := id (V_b28)
  have hin29 : ¬ ((0 : Int32) < 0 ∨ cl29.slots.size ≤ ((0 : Int32)).toNatClampNeg) := inb_of S29 ⟨by decide, by decide⟩
  obtain ⟨T29, h29, X29, e29, W29, st29⟩ := stC X28 hx hZ e28 Ar29 (j := (0 : Int32)) hin29 (g := (mkF m 48 #[.val (.long q1), .second, .val (.int p2), .val (.int p3), .val (.int p4), .val (.ref b24), .val (.ref b26), .unset, .unset, .unset, .unset, .unset, .unset, .unset, .unset, .unset, .unset, .unset, .unset, .unset] [(.int c2), (.int (0 : Int32)), (.ref b28), (.ref b28)])) rfl rfl (hb hby at_48)
  have V29 : Arv Z h29 b28 k28 .char (1 : Int32) [(.int (nar .char c2))] (.int (0 : Int32)) := Arv.set Ar29 q29 S29 M29 H29 G29 (fits_nar_char _) W29 0 rfl (Nat.le_of_ble_eq_true rfl)
  have Kh29 : Keep h0 h29 [] := Kh28.wr W29 (Or.inr sz_b28)
  have N29 := Fr.snoc X29 N27 g_b28
  obtain ⟨T30, h30, k30, X30, e30, E30, A30, st30⟩ := newP X29 hx hZ (hw _ (List.mem_of_getElem? (i := 0) rfl)) e29 (g := (mkF m 52 #[.val (.long q1), .second, .val (.int p2), .val (.int p3), .val (.int p4), .val (.ref b24), .val (.ref b26), .val (.ref b28), .unset, .unset, .unset, .unset, .unset, .unset, .unset, .unset, .unset, .unset, .unset, .unset] [(.int (1 : Int32))])) rfl (hb hby at_52) rfl (by decide) (cap := 1) (by decide) (by decide) (by decide) (by decide)
  obtain ⟨b30, g30⟩ : ∃ z, z = h29.size := ⟨_, rfl⟩
  rw [← g30] at A30 st30
  have g_b30 : n0 ≤ b30 := Nat.le_trans (Nat.le_trans Z0 Kh29.1) (Nat.le_of_eq g30.symm)
  have sz_b30 : h0.size ≤ b30 := Nat.le_trans Kh29.1 (Nat.le_of_eq g30.symm)
  have ne_b24_b30 : b24 ≠ b30 := Nat.ne_of_lt (Nat.lt_of_lt_of_le ((((V25.ext E26).other W27 ne_b24_b26).ext E28).other W29 ne_b24_b28).lt (Nat.le_of_eq g30.symm))
  have ne_b26_b30 : b26 ≠ b30 := Nat.ne_of_lt (Nat.lt_of_lt_of_le ((V27.ext E28).other W29 ne_b26_b28).lt (Nat.le_of_eq g30.symm))
  have ne_b28_b30 : b28 ≠ b30 := Nat.ne_of_lt (Nat.lt_of_lt_of_le V29.lt (Nat.le_of_eq g30.symm))
  have Kh30 : Keep h0 h30 [] := Kh29.ext E30
  have V_b30 : Arv Z h30 b30 k30 .char (1 : Int32) [(.int (0 : Int32))] (.int (0 : Int32)) := (Arv.new A30 (by decide)).pad (pad_rep [] (.int (0 : Int32)) 1)
  obtain ⟨c3, e_c3⟩ : ∃ z : Int32, z = (((((q1.toUInt64 >>> ((24 : Int32) &&& 0x3f).toInt64.toUInt64).toInt64) &&& (255 : Int64)).toInt32).toUInt32.toUInt16.toUInt32.toInt32) := ⟨_, rfl⟩
  obtain ⟨cl31, Ar31, q31, S31, M31, H31, G31⟩ := id (V_b30)
  have hin31 : ¬ ((0 : Int32) < 0 ∨ cl31.slots.size ≤ ((0 : Int32)).toNatClampNeg) := inb_of S31 ⟨by decide, by decide⟩
  obtain ⟨T31, h31, X31, e31, W31, st31⟩ := stC X30 hx hZ e30 Ar31 (j := (0 : Int32)) hin31 (g := (mkF m 66 #[.val (.long q1), .second, .val (.int p2), .val (.int p3), .val (.int p4), .val (.ref b24), .val (.ref b26), .val (.ref b28), .unset, .unset, .unset, .unset, .unset, .unset, .unset, .unset, .unset, .unset, .unset, .unset] [(.int c3), (.int (0 : Int32)), (.ref b30), (.ref b30)])) rfl rfl (hb hby at_66)
  have V31 : Arv Z h31 b30 k30 .char (1 : Int32) [(.int (nar .char c3))] (.int (0 : Int32)) := Arv.set Ar31 q31 S31 M31 H31 G31 (fits_nar_char _) W31 0 rfl (Nat.le_of_ble_eq_true rfl)
  have Kh31 : Keep h0 h31 [] := Kh30.wr W31 (Or.inr sz_b30)
  have N31 := Fr.snoc X31 N29 g_b30
  obtain ⟨T32, h32, k32, X32, e32, E32, A32, O32, st32⟩ := newR X31 hx hZ hown (hw _ (List.mem_of_getElem? (i := 2) rfl)) (hw _ (List.mem_of_getElem? (i := 3) rfl)) e31 (g := (mkF m 70 #[.val (.long q1), .second, .val (.int p2), .val (.int p3), .val (.int p4), .val (.ref b24), .val (.ref b26), .val (.ref b28), .val (.ref b30), .unset, .unset, .unset, .unset, .unset, .unset, .unset, .unset, .unset, .unset, .unset] [(.int (4 : Int32))])) rfl (hb hby at_70) rfl (by decide) (cap := 4) (by decide) (by decide) (by decide) (by decide)
  obtain ⟨b32, g32⟩ : ∃ z, z = h31.size := ⟨_, rfl⟩
  rw [← g32] at A32 st32
  have g_b32 : n0 ≤ b32 := Nat.le_trans (Nat.le_trans Z0 Kh31.1) (Nat.le_of_eq g32.symm)
  have sz_b32 : h0.size ≤ b32 := Nat.le_trans Kh31.1 (Nat.le_of_eq g32.symm)
  have ne_b24_b32 : b24 ≠ b32 := Nat.ne_of_lt (Nat.lt_of_lt_of_le ((((((V25.ext E26).other W27 ne_b24_b26).ext E28).other W29 ne_b24_b28).ext E30).other W31 ne_b24_b30).lt (Nat.le_of_eq g32.symm))
  have ne_b26_b32 : b26 ≠ b32 := Nat.ne_of_lt (Nat.lt_of_lt_of_le ((((V27.ext E28).other W29 ne_b26_b28).ext E30).other W31 ne_b26_b30).lt (Nat.le_of_eq g32.symm))
  have ne_b28_b32 : b28 ≠ b32 := Nat.ne_of_lt (Nat.lt_of_lt_of_le ((V29.ext E30).other W31 ne_b28_b30).lt (Nat.le_of_eq g32.symm))
  have ne_b30_b32 : b30 ≠ b32 := Nat.ne_of_lt (Nat.lt_of_lt_of_le V31.lt (Nat.le_of_eq g32.symm))
  have Kh32 : Keep h0 h32 [] := Kh31.ext E32
  have V_b32 : Arv Z h32 b32 k32 (.object "java/lang/String") (4 : Int32) [.null, .null, .null, .null] .null := (Arv.new A32 (by decide)).pad (pad_rep [] .null 4)
  have cut33 : ∀ t, Steps p.tables e below (T32.setTop (mkF m 74 #[.val (.long q1), .second, .val (.int p2), .val (.int p3), .val (.int p4), .val (.ref b24), .val (.ref b26), .val (.ref b28), .val (.ref b30), .unset, .unset, .unset, .unset, .unset, .unset, .unset, .unset, .unset, .unset, .unset] [(.ref b32), (.ref b32)])) t → Steps p.tables e below (s₁.setTop (mkF m 0 #[.val (.long q1), .second, .val (.int p2), .val (.int p3), .val (.int p4), .unset, .unset, .unset, .unset, .unset, .unset, .unset, .unset, .unset, .unset, .unset, .unset, .unset, .unset, .unset] [])) t := by
    intro t kt
    show Steps p.tables e below (s₁.setTop (mkF m 0 #[.val (.long q1), .second, .val (.int p2), .val (.int p3), .val (.int p4), .unset, .unset, .unset, .unset, .unset, .unset, .unset, .unset, .unset, .unset, .unset, .unset, .unset, .unset, .unset] [])) _
    refine XS.iconst X0.here hx rfl (hb hby at_0) ?_
    show Steps p.tables e below (s₁.setTop (mkF m 1 #[.val (.long q1), .second, .val (.int p2), .val (.int p3), .val (.int p4), .unset, .unset, .unset, .unset, .unset, .unset, .unset, .unset, .unset, .unset, .unset, .unset, .unset, .unset, .unset] [(.int (1 : Int32))])) _
    refine st24 _ ?_
    show Steps p.tables e below (T24.setTop (mkF m 3 #[.val (.long q1), .second, .val (.int p2), .val (.int p3), .val (.int p4), .unset, .unset, .unset, .unset, .unset, .unset, .unset, .unset, .unset, .unset, .unset, .unset, .unset, .unset, .unset] [(.ref b24)])) _
    refine XS.dup X24.here hx rfl (hb hby at_3) rfl rfl ?_
    show Steps p.tables e below (T24.setTop (mkF m 4 #[.val (.long q1), .second, .val (.int p2), .val (.int p3), .val (.int p4), .unset, .unset, .unset, .unset, .unset, .unset, .unset, .unset, .unset, .unset, .unset, .unset, .unset, .unset, .unset] [(.ref b24), (.ref b24)])) _
    refine XS.iconst X24.here hx rfl (hb hby at_4) ?_
    show Steps p.tables e below (T24.setTop (mkF m 5 #[.val (.long q1), .second, .val (.int p2), .val (.int p3), .val (.int p4), .unset, .unset, .unset, .unset, .unset, .unset, .unset, .unset, .unset, .unset, .unset, .unset, .unset, .unset, .unset] [(.int (0 : Int32)), (.ref b24), (.ref b24)])) _
    refine XS.lloadN X24.here hx rfl (hb hby at_5) rfl ?_
    show Steps p.tables e below (T24.setTop (mkF m 6 #[.val (.long q1), .second, .val (.int p2), .val (.int p3), .val (.int p4), .unset, .unset, .unset, .unset, .unset, .unset, .unset, .unset, .unset, .unset, .unset, .unset, .unset, .unset, .unset] [(.long q1), (.int (0 : Int32)), (.ref b24), (.ref b24)])) _
    refine X24.ldc2Long hx hown (mvT hZ (hw _ (List.mem_of_getElem? (i := 1) rfl))) (g := (mkF m 6 #[.val (.long q1), .second, .val (.int p2), .val (.int p3), .val (.int p4), .unset, .unset, .unset, .unset, .unset, .unset, .unset, .unset, .unset, .unset, .unset, .unset, .unset, .unset, .unset] [(.long q1), (.int (0 : Int32)), (.ref b24), (.ref b24)])) rfl (hb hby at_6) _ ?_
    show Steps p.tables e below (T24.setTop (mkF m 9 #[.val (.long q1), .second, .val (.int p2), .val (.int p3), .val (.int p4), .unset, .unset, .unset, .unset, .unset, .unset, .unset, .unset, .unset, .unset, .unset, .unset, .unset, .unset, .unset] [(.long (255 : Int64)), (.long q1), (.int (0 : Int32)), (.ref b24), (.ref b24)])) _
    refine XS.land X24.here hx rfl (hb hby at_9) rfl ?_
    show Steps p.tables e below (T24.setTop (mkF m 10 #[.val (.long q1), .second, .val (.int p2), .val (.int p3), .val (.int p4), .unset, .unset, .unset, .unset, .unset, .unset, .unset, .unset, .unset, .unset, .unset, .unset, .unset, .unset, .unset] [(.long (q1 &&& (255 : Int64))), (.int (0 : Int32)), (.ref b24), (.ref b24)])) _
    refine XS.l2i X24.here hx rfl (hb hby at_10) rfl ?_
    show Steps p.tables e below (T24.setTop (mkF m 11 #[.val (.long q1), .second, .val (.int p2), .val (.int p3), .val (.int p4), .unset, .unset, .unset, .unset, .unset, .unset, .unset, .unset, .unset, .unset, .unset, .unset, .unset, .unset, .unset] [(.int ((q1 &&& (255 : Int64)).toInt32)), (.int (0 : Int32)), (.ref b24), (.ref b24)])) _
    refine XS.i2c X24.here hx rfl (hb hby at_11) rfl ?_
    show Steps p.tables e below (T24.setTop (mkF m 12 #[.val (.long q1), .second, .val (.int p2), .val (.int p3), .val (.int p4), .unset, .unset, .unset, .unset, .unset, .unset, .unset, .unset, .unset, .unset, .unset, .unset, .unset, .unset, .unset] [(.int (((q1 &&& (255 : Int64)).toInt32).toUInt32.toUInt16.toUInt32.toInt32)), (.int (0 : Int32)), (.ref b24), (.ref b24)])) _
    rw [← e_c0]
    show Steps p.tables e below (T24.setTop (mkF m 12 #[.val (.long q1), .second, .val (.int p2), .val (.int p3), .val (.int p4), .unset, .unset, .unset, .unset, .unset, .unset, .unset, .unset, .unset, .unset, .unset, .unset, .unset, .unset, .unset] [(.int c0), (.int (0 : Int32)), (.ref b24), (.ref b24)])) _
    refine st25 _ ?_
    show Steps p.tables e below (T25.setTop (mkF m 13 #[.val (.long q1), .second, .val (.int p2), .val (.int p3), .val (.int p4), .unset, .unset, .unset, .unset, .unset, .unset, .unset, .unset, .unset, .unset, .unset, .unset, .unset, .unset, .unset] [(.ref b24)])) _
    refine XS.astore X25.here hx rfl (hb hby at_13) rfl rfl (l' := #[.val (.long q1), .second, .val (.int p2), .val (.int p3), .val (.int p4), .val (.ref b24), .unset, .unset, .unset, .unset, .unset, .unset, .unset, .unset, .unset, .unset, .unset, .unset, .unset, .unset]) rfl ?_
    show Steps p.tables e below (T25.setTop (mkF m 15 #[.val (.long q1), .second, .val (.int p2), .val (.int p3), .val (.int p4), .val (.ref b24), .unset, .unset, .unset, .unset, .unset, .unset, .unset, .unset, .unset, .unset, .unset, .unset, .unset, .unset] [])) _
    refine XS.iconst X25.here hx rfl (hb hby at_15) ?_
    show Steps p.tables e below (T25.setTop (mkF m 16 #[.val (.long q1), .second, .val (.int p2), .val (.int p3), .val (.int p4), .val (.ref b24), .unset, .unset, .unset, .unset, .unset, .unset, .unset, .unset, .unset, .unset, .unset, .unset, .unset, .unset] [(.int (1 : Int32))])) _
    refine st26 _ ?_
    show Steps p.tables e below (T26.setTop (mkF m 18 #[.val (.long q1), .second, .val (.int p2), .val (.int p3), .val (.int p4), .val (.ref b24), .unset, .unset, .unset, .unset, .unset, .unset, .unset, .unset, .unset, .unset, .unset, .unset, .unset, .unset] [(.ref b26)])) _
    refine XS.dup X26.here hx rfl (hb hby at_18) rfl rfl ?_
    show Steps p.tables e below (T26.setTop (mkF m 19 #[.val (.long q1), .second, .val (.int p2), .val (.int p3), .val (.int p4), .val (.ref b24), .unset, .unset, .unset, .unset, .unset, .unset, .unset, .unset, .unset, .unset, .unset, .unset, .unset, .unset] [(.ref b26), (.ref b26)])) _
    refine XS.iconst X26.here hx rfl (hb hby at_19) ?_
    show Steps p.tables e below (T26.setTop (mkF m 20 #[.val (.long q1), .second, .val (.int p2), .val (.int p3), .val (.int p4), .val (.ref b24), .unset, .unset, .unset, .unset, .unset, .unset, .unset, .unset, .unset, .unset, .unset, .unset, .unset, .unset] [(.int (0 : Int32)), (.ref b26), (.ref b26)])) _
    refine XS.lloadN X26.here hx rfl (hb hby at_20) rfl ?_
    show Steps p.tables e below (T26.setTop (mkF m 21 #[.val (.long q1), .second, .val (.int p2), .val (.int p3), .val (.int p4), .val (.ref b24), .unset, .unset, .unset, .unset, .unset, .unset, .unset, .unset, .unset, .unset, .unset, .unset, .unset, .unset] [(.long q1), (.int (0 : Int32)), (.ref b26), (.ref b26)])) _
    refine XS.bipush X26.here hx rfl (hb hby at_21) ?_
    show Steps p.tables e below (T26.setTop (mkF m 23 #[.val (.long q1), .second, .val (.int p2), .val (.int p3), .val (.int p4), .val (.ref b24), .unset, .unset, .unset, .unset, .unset, .unset, .unset, .unset, .unset, .unset, .unset, .unset, .unset, .unset] [(.int (8 : Int32)), (.long q1), (.int (0 : Int32)), (.ref b26), (.ref b26)])) _
    refine XS.lushr X26.here hx rfl (hb hby at_23) rfl ?_
    show Steps p.tables e below (T26.setTop (mkF m 24 #[.val (.long q1), .second, .val (.int p2), .val (.int p3), .val (.int p4), .val (.ref b24), .unset, .unset, .unset, .unset, .unset, .unset, .unset, .unset, .unset, .unset, .unset, .unset, .unset, .unset] [(.long ((q1.toUInt64 >>> ((8 : Int32) &&& 0x3f).toInt64.toUInt64).toInt64)), (.int (0 : Int32)), (.ref b26), (.ref b26)])) _
    refine X26.ldc2Long hx hown (mvT hZ (hw _ (List.mem_of_getElem? (i := 1) rfl))) (g := (mkF m 24 #[.val (.long q1), .second, .val (.int p2), .val (.int p3), .val (.int p4), .val (.ref b24), .unset, .unset, .unset, .unset, .unset, .unset, .unset, .unset, .unset, .unset, .unset, .unset, .unset, .unset] [(.long ((q1.toUInt64 >>> ((8 : Int32) &&& 0x3f).toInt64.toUInt64).toInt64)), (.int (0 : Int32)), (.ref b26), (.ref b26)])) rfl (hb hby at_24) _ ?_
    show Steps p.tables e below (T26.setTop (mkF m 27 #[.val (.long q1), .second, .val (.int p2), .val (.int p3), .val (.int p4), .val (.ref b24), .unset, .unset, .unset, .unset, .unset, .unset, .unset, .unset, .unset, .unset, .unset, .unset, .unset, .unset] [(.long (255 : Int64)), (.long ((q1.toUInt64 >>> ((8 : Int32) &&& 0x3f).toInt64.toUInt64).toInt64)), (.int (0 : Int32)), (.ref b26), (.ref b26)])) _
    refine XS.land X26.here hx rfl (hb hby at_27) rfl ?_
    show Steps p.tables e below (T26.setTop (mkF m 28 #[.val (.long q1), .second, .val (.int p2), .val (.int p3), .val (.int p4), .val (.ref b24), .unset, .unset, .unset, .unset, .unset, .unset, .unset, .unset, .unset, .unset, .unset, .unset, .unset, .unset] [(.long (((q1.toUInt64 >>> ((8 : Int32) &&& 0x3f).toInt64.toUInt64).toInt64) &&& (255 : Int64))), (.int (0 : Int32)), (.ref b26), (.ref b26)])) _
    refine XS.l2i X26.here hx rfl (hb hby at_28) rfl ?_
    show Steps p.tables e below (T26.setTop (mkF m 29 #[.val (.long q1), .second, .val (.int p2), .val (.int p3), .val (.int p4), .val (.ref b24), .unset, .unset, .unset, .unset, .unset, .unset, .unset, .unset, .unset, .unset, .unset, .unset, .unset, .unset] [(.int ((((q1.toUInt64 >>> ((8 : Int32) &&& 0x3f).toInt64.toUInt64).toInt64) &&& (255 : Int64)).toInt32)), (.int (0 : Int32)), (.ref b26), (.ref b26)])) _
    refine XS.i2c X26.here hx rfl (hb hby at_29) rfl ?_
    show Steps p.tables e below (T26.setTop (mkF m 30 #[.val (.long q1), .second, .val (.int p2), .val (.int p3), .val (.int p4), .val (.ref b24), .unset, .unset, .unset, .unset, .unset, .unset, .unset, .unset, .unset, .unset, .unset, .unset, .unset, .unset] [(.int (((((q1.toUInt64 >>> ((8 : Int32) &&& 0x3f).toInt64.toUInt64).toInt64) &&& (255 : Int64)).toInt32).toUInt32.toUInt16.toUInt32.toInt32)), (.int (0 : Int32)), (.ref b26), (.ref b26)])) _
    rw [← e_c1]
    show Steps p.tables e below (T26.setTop (mkF m 30 #[.val (.long q1), .second, .val (.int p2), .val (.int p3), .val (.int p4), .val (.ref b24), .unset, .unset, .unset, .unset, .unset, .unset, .unset, .unset, .unset, .unset, .unset, .unset, .unset, .unset] [(.int c1), (.int (0 : Int32)), (.ref b26), (.ref b26)])) _
    refine st27 _ ?_
    show Steps p.tables e below (T27.setTop (mkF m 31 #[.val (.long q1), .second, .val (.int p2), .val (.int p3), .val (.int p4), .val (.ref b24), .unset, .unset, .unset, .unset, .unset, .unset, .unset, .unset, .unset, .unset, .unset, .unset, .unset, .unset] [(.ref b26)])) _
    refine XS.astore X27.here hx rfl (hb hby at_31) rfl rfl (l' := #[.val (.long q1), .second, .val (.int p2), .val (.int p3), .val (.int p4), .val (.ref b24), .val (.ref b26), .unset, .unset, .unset, .unset, .unset, .unset, .unset, .unset, .unset, .unset, .unset, .unset, .unset]) rfl ?_
    show Steps p.tables e below (T27.setTop (mkF m 33 #[.val (.long q1), .second, .val (.int p2), .val (.int p3), .val (.int p4), .val (.ref b24), .val (.ref b26), .unset, .unset, .unset, .unset, .unset, .unset, .unset, .unset, .unset, .unset, .unset, .unset, .unset] [])) _
    refine XS.iconst X27.here hx rfl (hb hby at_33) ?_
    show Steps p.tables e below (T27.setTop (mkF m 34 #[.val (.long q1), .second, .val (.int p2), .val (.int p3), .val (.int p4), .val (.ref b24), .val (.ref b26), .unset, .unset, .unset, .unset, .unset, .unset, .unset, .unset, .unset, .unset, .unset, .unset, .unset] [(.int (1 : Int32))])) _
    refine st28 _ ?_
    show Steps p.tables e below (T28.setTop (mkF m 36 #[.val (.long q1), .second, .val (.int p2), .val (.int p3), .val (.int p4), .val (.ref b24), .val (.ref b26), .unset, .unset, .unset, .unset, .unset, .unset, .unset, .unset, .unset, .unset, .unset, .unset, .unset] [(.ref b28)])) _
    refine XS.dup X28.here hx rfl (hb hby at_36) rfl rfl ?_
    show Steps p.tables e below (T28.setTop (mkF m 37 #[.val (.long q1), .second, .val (.int p2), .val (.int p3), .val (.int p4), .val (.ref b24), .val (.ref b26), .unset, .unset, .unset, .unset, .unset, .unset, .unset, .unset, .unset, .unset, .unset, .unset, .unset] [(.ref b28), (.ref b28)])) _
    refine XS.iconst X28.here hx rfl (hb hby at_37) ?_
    show Steps p.tables e below (T28.setTop (mkF m 38 #[.val (.long q1), .second, .val (.int p2), .val (.int p3), .val (.int p4), .val (.ref b24), .val (.ref b26), .unset, .unset, .unset, .unset, .unset, .unset, .unset, .unset, .unset, .unset, .unset, .unset, .unset] [(.int (0 : Int32)), (.ref b28), (.ref b28)])) _
    refine XS.lloadN X28.here hx rfl (hb hby at_38) rfl ?_
    show Steps p.tables e below (T28.setTop (mkF m 39 #[.val (.long q1), .second, .val (.int p2), .val (.int p3), .val (.int p4), .val (.ref b24), .val (.ref b26), .unset, .unset, .unset, .unset, .unset, .unset, .unset, .unset, .unset, .unset, .unset, .unset, .unset] [(.long q1), (.int (0 : Int32)), (.ref b28), (.ref b28)])) _
    refine XS.bipush X28.here hx rfl (hb hby at_39) ?_
    show Steps p.tables e below (T28.setTop (mkF m 41 #[.val (.long q1), .second, .val (.int p2), .val (.int p3), .val (.int p4), .val (.ref b24), .val (.ref b26), .unset, .unset, .unset, .unset, .unset, .unset, .unset, .unset, .unset, .unset, .unset, .unset, .unset] [(.int (16 : Int32)), (.long q1), (.int (0 : Int32)), (.ref b28), (.ref b28)])) _
    refine XS.lushr X28.here hx rfl (hb hby at_41) rfl ?_
    show Steps p.tables e below (T28.setTop (mkF m 42 #[.val (.long q1), .second, .val (.int p2), .val (.int p3), .val (.int p4), .val (.ref b24), .val (.ref b26), .unset, .unset, .unset, .unset, .unset, .unset, .unset, .unset, .unset, .unset, .unset, .unset, .unset] [(.long ((q1.toUInt64 >>> ((16 : Int32) &&& 0x3f).toInt64.toUInt64).toInt64)), (.int (0 : Int32)), (.ref b28), (.ref b28)])) _
    refine X28.ldc2Long hx hown (mvT hZ (hw _ (List.mem_of_getElem? (i := 1) rfl))) (g := (mkF m 42 #[.val (.long q1), .second, .val (.int p2), .val (.int p3), .val (.int p4), .val (.ref b24), .val (.ref b26), .unset, .unset, .unset, .unset, .unset, .unset, .unset, .unset, .unset, .unset, .unset, .unset, .unset] [(.long ((q1.toUInt64 >>> ((16 : Int32) &&& 0x3f).toInt64.toUInt64).toInt64)), (.int (0 : Int32)), (.ref b28), (.ref b28)])) rfl (hb hby at_42) _ ?_
    show Steps p.tables e below (T28.setTop (mkF m 45 #[.val (.long q1), .second, .val (.int p2), .val (.int p3), .val (.int p4), .val (.ref b24), .val (.ref b26), .unset, .unset, .unset, .unset, .unset, .unset, .unset, .unset, .unset, .unset, .unset, .unset, .unset] [(.long (255 : Int64)), (.long ((q1.toUInt64 >>> ((16 : Int32) &&& 0x3f).toInt64.toUInt64).toInt64)), (.int (0 : Int32)), (.ref b28), (.ref b28)])) _
    refine XS.land X28.here hx rfl (hb hby at_45) rfl ?_
    show Steps p.tables e below (T28.setTop (mkF m 46 #[.val (.long q1), .second, .val (.int p2), .val (.int p3), .val (.int p4), .val (.ref b24), .val (.ref b26), .unset, .unset, .unset, .unset, .unset, .unset, .unset, .unset, .unset, .unset, .unset, .unset, .unset] [(.long (((q1.toUInt64 >>> ((16 : Int32) &&& 0x3f).toInt64.toUInt64).toInt64) &&& (255 : Int64))), (.int (0 : Int32)), (.ref b28), (.ref b28)])) _
    refine XS.l2i X28.here hx rfl (hb hby at_46) rfl ?_
    show Steps p.tables e below (T28.setTop (mkF m 47 #[.val (.long q1), .second, .val (.int p2), .val (.int p3), .val (.int p4), .val (.ref b24), .val (.ref b26), .unset, .unset, .unset, .unset, .unset, .unset, .unset, .unset, .unset, .unset, .unset, .unset, .unset] [(.int ((((q1.toUInt64 >>> ((16 : Int32) &&& 0x3f).toInt64.toUInt64).toInt64) &&& (255 : Int64)).toInt32)), (.int (0 : Int32)), (.ref b28), (.ref b28)])) _
    refine XS.i2c X28.here hx rfl (hb hby at_47) rfl ?_
    show Steps p.tables e below (T28.setTop (mkF m 48 #[.val (.long q1), .second, .val (.int p2), .val (.int p3), .val (.int p4), .val (.ref b24), .val (.ref b26), .unset, .unset, .unset, .unset, .unset, .unset, .unset, .unset, .unset, .unset, .unset, .unset, .unset] [(.int (((((q1.toUInt64 >>> ((16 : Int32) &&& 0x3f).toInt64.toUInt64).toInt64) &&& (255 : Int64)).toInt32).toUInt32.toUInt16.toUInt32.toInt32)), (.int (0 : Int32)), (.ref b28), (.ref b28)])) _
    rw [← e_c2]
    show Steps p.tables e below (T28.setTop (mkF m 48 #[.val (.long q1), .second, .val (.int p2), .val (.int p3), .val (.int p4), .val (.ref b24), .val (.ref b26), .unset, .unset, .unset, .unset, .unset, .unset, .unset, .unset, .unset, .unset, .unset, .unset, .unset] [(.int c2), (.int (0 : Int32)), (.ref b28), (.ref b28)])) _
    refine st29 _ ?_
    show Steps p.tables e below (T29.setTop (mkF m 49 #[.val (.long q1), .second, .val (.int p2), .val (.int p3), .val (.int p4), .val (.ref b24), .val (.ref b26), .unset, .unset, .unset, .unset, .unset, .unset, .unset, .unset, .unset, .unset, .unset, .unset, .unset] [(.ref b28)])) _
    refine XS.astore X29.here hx rfl (hb hby at_49) rfl rfl (l' := #[.val (.long q1), .second, .val (.int p2), .val (.int p3), .val (.int p4), .val (.ref b24), .val (.ref b26), .val (.ref b28), .unset, .unset, .unset, .unset, .unset, .unset, .unset, .unset, .unset, .unset, .unset, .unset]) rfl ?_
    show Steps p.tables e below (T29.setTop (mkF m 51 #[.val (.long q1), .second, .val (.int p2), .val (.int p3), .val (.int p4), .val (.ref b24), .val (.ref b26), .val (.ref b28), .unset, .unset, .unset, .unset, .unset, .unset, .unset, .unset, .unset, .unset, .unset, .unset] [])) _
    refine XS.iconst X29.here hx rfl (hb hby at_51) ?_
    show Steps p.tables e below (T29.setTop (mkF m 52 #[.val (.long q1), .second, .val (.int p2), .val (.int p3), .val (.int p4), .val (.ref b24), .val (.ref b26), .val (.ref b28), .unset, .unset, .unset, .unset, .unset, .unset, .unset, .unset, .unset, .unset, .unset, .unset] [(.int (1 : Int32))])) _
    refine st30 _ ?_
    show Steps p.tables e below (T30.setTop (mkF m 54 #[.val (.long q1), .second, .val (.int p2), .val (.int p3), .val (.int p4), .val (.ref b24), .val (.ref b26), .val (.ref b28), .unset, .unset, .unset, .unset, .unset, .unset, .unset, .unset, .unset, .unset, .unset, .unset] [(.ref b30)])) _
    refine XS.dup X30.here hx rfl (hb hby at_54) rfl rfl ?_
    show Steps p.tables e below (T30.setTop (mkF m 55 #[.val (.long q1), .second, .val (.int p2), .val (.int p3), .val (.int p4), .val (.ref b24), .val (.ref b26), .val (.ref b28), .unset, .unset, .unset, .unset, .unset, .unset, .unset, .unset, .unset, .unset, .unset, .unset] [(.ref b30), (.ref b30)])) _
    refine XS.iconst X30.here hx rfl (hb hby at_55) ?_
    show Steps p.tables e below (T30.setTop (mkF m 56 #[.val (.long q1), .second, .val (.int p2), .val (.int p3), .val (.int p4), .val (.ref b24), .val (.ref b26), .val (.ref b28), .unset, .unset, .unset, .unset, .unset, .unset, .unset, .unset, .unset, .unset, .unset, .unset] [(.int (0 : Int32)), (.ref b30), (.ref b30)])) _
    refine XS.lloadN X30.here hx rfl (hb hby at_56) rfl ?_
    show Steps p.tables e below (T30.setTop (mkF m 57 #[.val (.long q1), .second, .val (.int p2), .val (.int p3), .val (.int p4), .val (.ref b24), .val (.ref b26), .val (.ref b28), .unset, .unset, .unset, .unset, .unset, .unset, .unset, .unset, .unset, .unset, .unset, .unset] [(.long q1), (.int (0 : Int32)), (.ref b30), (.ref b30)])) _
    refine XS.bipush X30.here hx rfl (hb hby at_57) ?_
    show Steps p.tables e below (T30.setTop (mkF m 59 #[.val (.long q1), .second, .val (.int p2), .val (.int p3), .val (.int p4), .val (.ref b24), .val (.ref b26), .val (.ref b28), .unset, .unset, .unset, .unset, .unset, .unset, .unset, .unset, .unset, .unset, .unset, .unset] [(.int (24 : Int32)), (.long q1), (.int (0 : Int32)), (.ref b30), (.ref b30)])) _
    refine XS.lushr X30.here hx rfl (hb hby at_59) rfl ?_
    show Steps p.tables e below (T30.setTop (mkF m 60 #[.val (.long q1), .second, .val (.int p2), .val (.int p3), .val (.int p4), .val (.ref b24), .val (.ref b26), .val (.ref b28), .unset, .unset, .unset, .unset, .unset, .unset, .unset, .unset, .unset, .unset, .unset, .unset] [(.long ((q1.toUInt64 >>> ((24 : Int32) &&& 0x3f).toInt64.toUInt64).toInt64)), (.int (0 : Int32)), (.ref b30), (.ref b30)])) _
    refine X30.ldc2Long hx hown (mvT hZ (hw _ (List.mem_of_getElem? (i := 1) rfl))) (g := (mkF m 60 #[.val (.long q1), .second, .val (.int p2), .val (.int p3), .val (.int p4), .val (.ref b24), .val (.ref b26), .val (.ref b28), .unset, .unset, .unset, .unset, .unset, .unset, .unset, .unset, .unset, .unset, .unset, .unset] [(.long ((q1.toUInt64 >>> ((24 : Int32) &&& 0x3f).toInt64.toUInt64).toInt64)), (.int (0 : Int32)), (.ref b30), (.ref b30)])) rfl (hb hby at_60) _ ?_
    show Steps p.tables e below (T30.setTop (mkF m 63 #[.val (.long q1), .second, .val (.int p2), .val (.int p3), .val (.int p4), .val (.ref b24), .val (.ref b26), .val (.ref b28), .unset, .unset, .unset, .unset, .unset, .unset, .unset, .unset, .unset, .unset, .unset, .unset] [(.long (255 : Int64)), (.long ((q1.toUInt64 >>> ((24 : Int32) &&& 0x3f).toInt64.toUInt64).toInt64)), (.int (0 : Int32)), (.ref b30), (.ref b30)])) _
    refine XS.land X30.here hx rfl (hb hby at_63) rfl ?_
    show Steps p.tables e below (T30.setTop (mkF m 64 #[.val (.long q1), .second, .val (.int p2), .val (.int p3), .val (.int p4), .val (.ref b24), .val (.ref b26), .val (.ref b28), .unset, .unset, .unset, .unset, .unset, .unset, .unset, .unset, .unset, .unset, .unset, .unset] [(.long (((q1.toUInt64 >>> ((24 : Int32) &&& 0x3f).toInt64.toUInt64).toInt64) &&& (255 : Int64))), (.int (0 : Int32)), (.ref b30), (.ref b30)])) _
    refine XS.l2i X30.here hx rfl (hb hby at_64) rfl ?_
    show Steps p.tables e below (T30.setTop (mkF m 65 #[.val (.long q1), .second, .val (.int p2), .val (.int p3), .val (.int p4), .val (.ref b24), .val (.ref b26), .val (.ref b28), .unset, .unset, .unset, .unset, .unset, .unset, .unset, .unset, .unset, .unset, .unset, .unset] [(.int ((((q1.toUInt64 >>> ((24 : Int32) &&& 0x3f).toInt64.toUInt64).toInt64) &&& (255 : Int64)).toInt32)), (.int (0 : Int32)), (.ref b30), (.ref b30)])) _
    refine XS.i2c X30.here hx rfl (hb hby at_65) rfl ?_
    show Steps p.tables e below (T30.setTop (mkF m 66 #[.val (.long q1), .second, .val (.int p2), .val (.int p3), .val (.int p4), .val (.ref b24), .val (.ref b26), .val (.ref b28), .unset, .unset, .unset, .unset, .unset, .unset, .unset, .unset, .unset, .unset, .unset, .unset] [(.int (((((q1.toUInt64 >>> ((24 : Int32) &&& 0x3f).toInt64.toUInt64).toInt64) &&& (255 : Int64)).toInt32).toUInt32.toUInt16.toUInt32.toInt32)), (.int (0 : Int32)), (.ref b30), (.ref b30)])) _
    rw [← e_c3]
    show Steps p.tables e below (T30.setTop (mkF m 66 #[.val (.long q1), .second, .val (.int p2), .val (.int p3), .val (.int p4), .val (.ref b24), .val (.ref b26), .val (.ref b28), .unset, .unset, .unset, .unset, .unset, .unset, .unset, .unset, .unset, .unset, .unset, .unset] [(.int c3), (.int (0 : Int32)), (.ref b30), (.ref b30)])) _
    refine st31 _ ?_
    show Steps p.tables e below (T31.setTop (mkF m 67 #[.val (.long q1), .second, .val (.int p2), .val (.int p3), .val (.int p4), .val (.ref b24), .val (.ref b26), .val (.ref b28), .unset, .unset, .unset, .unset, .unset, .unset, .unset, .unset, .unset, .unset, .unset, .unset] [(.ref b30)])) _
    refine XS.astore X31.here hx rfl (hb hby at_67) rfl rfl (l' := #[.val (.long q1), .second, .val (.int p2), .val (.int p3), .val (.int p4), .val (.ref b24), .val (.ref b26), .val (.ref b28), .val (.ref b30), .unset, .unset, .unset, .unset, .unset, .unset, .unset, .unset, .unset, .unset, .unset]) rfl ?_
    show Steps p.tables e below (T31.setTop (mkF m 69 #[.val (.long q1), .second, .val (.int p2), .val (.int p3), .val (.int p4), .val (.ref b24), .val (.ref b26), .val (.ref b28), .val (.ref b30), .unset, .unset, .unset, .unset, .unset, .unset, .unset, .unset, .unset, .unset, .unset] [])) _
    refine XS.iconst X31.here hx rfl (hb hby at_69) ?_
    show Steps p.tables e below (T31.setTop (mkF m 70 #[.val (.long q1), .second, .val (.int p2), .val (.int p3), .val (.int p4), .val (.ref b24), .val (.ref b26), .val (.ref b28), .val (.ref b30), .unset, .unset, .unset, .unset, .unset, .unset, .unset, .unset, .unset, .unset, .unset] [(.int (4 : Int32))])) _
    refine st32 _ ?_
    show Steps p.tables e below (T32.setTop (mkF m 73 #[.val (.long q1), .second, .val (.int p2), .val (.int p3), .val (.int p4), .val (.ref b24), .val (.ref b26), .val (.ref b28), .val (.ref b30), .unset, .unset, .unset, .unset, .unset, .unset, .unset, .unset, .unset, .unset, .unset] [(.ref b32)])) _
    refine XS.dup X32.here hx rfl (hb hby at_73) rfl rfl ?_
    exact kt
  obtain ⟨T34, h34, X34, e34, E34, A34, D34, -, st34⟩ := newO X32 hx hZ hown (hw _ (List.mem_of_getElem? (i := 2) rfl)) (hw _ (List.mem_of_getElem? (i := 4) rfl)) (hw _ (List.mem_of_getElem? (i := 5) rfl)) e32 (g := (mkF m 75 #[.val (.long q1), .second, .val (.int p2), .val (.int p3), .val (.int p4), .val (.ref b24), .val (.ref b26), .val (.ref b28), .val (.ref b30), .unset, .unset, .unset, .unset, .unset, .unset, .unset, .unset, .unset, .unset, .unset] [(.int (0 : Int32)), (.ref b32), (.ref b32)])) rfl (hb hby at_75) (by decide) (by decide)
  obtain ⟨b34, g34⟩ : ∃ z, z = h32.size := ⟨_, rfl⟩
  rw [← g34] at A34 D34 st34
  have g_b34 : n0 ≤ b34 := Nat.le_trans (Nat.le_trans Z0 Kh32.1) (Nat.le_of_eq g34.symm)
  have sz_b34 : h0.size ≤ b34 := Nat.le_trans Kh32.1 (Nat.le_of_eq g34.symm)
  have ne_b24_b34 : b24 ≠ b34 := Nat.ne_of_lt (Nat.lt_of_lt_of_le (((((((V25.ext E26).other W27 ne_b24_b26).ext E28).other W29 ne_b24_b28).ext E30).other W31 ne_b24_b30).ext E32).lt (Nat.le_of_eq g34.symm))
  have ne_b26_b34 : b26 ≠ b34 := Nat.ne_of_lt (Nat.lt_of_lt_of_le (((((V27.ext E28).other W29 ne_b26_b28).ext E30).other W31 ne_b26_b30).ext E32).lt (Nat.le_of_eq g34.symm))
  have ne_b28_b34 : b28 ≠ b34 := Nat.ne_of_lt (Nat.lt_of_lt_of_le (((V29.ext E30).other W31 ne_b28_b30).ext E32).lt (Nat.le_of_eq g34.symm))
  have ne_b30_b34 : b30 ≠ b34 := Nat.ne_of_lt (Nat.lt_of_lt_of_le (V31.ext E32).lt (Nat.le_of_eq g34.symm))
  have ne_b32_b34 : b32 ≠ b34 := Nat.ne_of_lt (Nat.lt_of_lt_of_le V_b32.lt (Nat.le_of_eq g34.symm))
  have Kh34 : Keep h0 h34 [] := Kh32.ext E34
  have F_coder_b34 : Fld Z h34 b34 "java/lang/String" "coder" "B" (.int (0 : Int32)) := D34 (Or.inr (hw _ (List.mem_of_getElem? (i := 29) rfl))) (ty := .byte) (by decide)
  have F_value_b34 : Fld Z h34 b34 "java/lang/String" "value" "[B" .null := D34 (Or.inr (hw _ (List.mem_of_getElem? (i := 31) rfl))) (ty := (.array .byte)) (by decide)
  have hp35 : ∀ c ∈ ([nar .char c0] : List Int32), ¬ c < 0 ∧ ¬ (255 : Int32) < c := by
    intro c hc
    simp only [List.mem_cons, List.not_mem_nil, or_false] at hc
    rw [hc, e_c0]
    exact own_b255 _ (own_r255 _).1 (own_r255 _).2
  have f36 := ((((((((V25.ext E26).other W27 ne_b24_b26).ext E28).other W29 ne_b24_b28).ext E30).other W31 ne_b24_b30).ext E32).ext E34)
  have f37 := ((((((((((X00.ext E24).wr W25 g_b24).ext E26).wr W27 g_b26).ext E28).wr W29 g_b28).ext E30).wr W31 g_b30).ext E32).ext E34)
  obtain ⟨_, _, ⟨T38, L38, c38_, n38_⟩, -, X38, ⟨Lc38, hQ38, l38, y38, z38⟩, st38⟩ := X34.specialBack hx (y := (⟨"java/lang/String", "<init>", "([C)V"⟩ : MethodName)) rfl hown (mvT hZ (hw _ (List.mem_of_getElem? (i := 6) rfl))) (mvT hZ (hw _ (List.mem_of_getElem? (i := 7) rfl))) (mvT hZ (hw _ (List.mem_of_getElem? (i := 8) rfl))) (by decide) (StrChars.Road.backV (W := 4) hZ hws (kI := 4) (hw _ (List.mem_of_getElem? (i := 4) rfl)) (cs := ([nar .char c0] : List Int32)) (bs := (([nar .char c0] : List Int32)).map (fun c => c.toInt8.toInt32)) (n := 1) g_b34 (Nat.le_trans Z0 Kh34.1) A34 F_value_b34 F_coder_b34 f36 (S_C.ext f37.2) hz rfl rfl (by decide) (by decide) hp35 rfl (by decide) (by decide)) (g := (mkF m 81 #[.val (.long q1), .second, .val (.int p2), .val (.int p3), .val (.int p4), .val (.ref b24), .val (.ref b26), .val (.ref b28), .val (.ref b30), .unset, .unset, .unset, .unset, .unset, .unset, .unset, .unset, .unset, .unset, .unset] [(.ref b24), (.ref b34), (.ref b34), (.int (0 : Int32)), (.ref b32), (.ref b32)])) rfl (by rw [hml]; rfl) (Steps.refl _) (a := b34) (argsL := [(.ref b24)]) (rest := [(.ref b34), (.int (0 : Int32)), (.ref b32), (.ref b32)]) (lenOf pd__28_5bC_29V rfl) rfl (by show 2 * 0 + _ ≤ _; exact Nat.le_of_eq rfl) (hb hby at_81) (fun _ _ => ⟨rfl, e34, (by decide : 6 + 1 ≤ _), (by decide : 12 + 1 ≤ _)⟩)
  dsimp only [Pt.U, Pt.locs, Pt.cells, Pt.slots] at X38 l38 y38 z38 st38 hQ38
  rw [l38, y38, z38] at X38
  obtain ⟨rfl, Nq38, K38, Ee38, Fc38, t38, kb38, u38, v38, w38, Fv38, Va38⟩ := hQ38
  have N38 := Fr.app N31 Nq38
  have Kh38 : Keep h0 T38.heap [] := Kh34.trans K38 (allS (Or.inr sz_b34) all0)
  have g_t38 := u38
  have ne_b24_t38 : b24 ≠ t38 := Nat.ne_of_lt (Nat.lt_of_lt_of_le f36.lt v38)
  have ne_b26_t38 : b26 ≠ t38 := Nat.ne_of_lt (Nat.lt_of_lt_of_le ((((((V27.ext E28).other W29 ne_b26_b28).ext E30).other W31 ne_b26_b30).ext E32).ext E34).lt v38)
  have ne_b28_t38 : b28 ≠ t38 := Nat.ne_of_lt (Nat.lt_of_lt_of_le ((((V29.ext E30).other W31 ne_b28_b30).ext E32).ext E34).lt v38)
  have ne_b30_t38 : b30 ≠ t38 := Nat.ne_of_lt (Nat.lt_of_lt_of_le ((V31.ext E32).ext E34).lt v38)
  have ne_b32_t38 : b32 ≠ t38 := Nat.ne_of_lt (Nat.lt_of_lt_of_le (V_b32.ext E34).lt v38)
  have ne_b34_t38 : b34 ≠ t38 := Nat.ne_of_lt (Nat.lt_of_lt_of_le A34.lt v38)
  have f40 := ((V_b32.ext E34).keep K38 (ninS ne_b32_b34 nin0))
  obtain ⟨cl39, Ar39, q39, S39, M39, H39, G39⟩ := id (f40)
  have hin39 : ¬ ((0 : Int32) < 0 ∨ cl39.slots.size ≤ ((0 : Int32)).toNatClampNeg) := inb_of S39 ⟨by decide, by decide⟩
  have Sto39 : Sto Z T38.heap b32 (.ref b34) := Sto.ofV Ar39 q39 O32 (Ins.self Ee38)
  obtain ⟨T39, h39, X39, e39, W39, st39⟩ := stR X38 hx hZ rfl Ar39 (j := (0 : Int32)) hin39 rfl Sto39 (g := (mkF m 84 #[.val (.long q1), .second, .val (.int p2), .val (.int p3), .val (.int p4), .val (.ref b24), .val (.ref b26), .val (.ref b28), .val (.ref b30), .unset, .unset, .unset, .unset, .unset, .unset, .unset, .unset, .unset, .unset, .unset] [(.ref b34), (.int (0 : Int32)), (.ref b32), (.ref b32)])) rfl rfl (hb hby at_84)
  have V39 : Arv Z h39 b32 k32 (.object "java/lang/String") (4 : Int32) [(.ref b34), .null, .null, .null] .null := Arv.set Ar39 q39 S39 M39 H39 G39 rfl W39 0 rfl (Nat.le_of_ble_eq_true rfl)
  have Kh39 : Keep h0 h39 [] := Kh38.wr W39 (Or.inr sz_b32)
  have N39 := Fr.snoc X39 N38 g_b32
  obtain ⟨T41, h41, X41, e41, E41, A41, D41, -, st41⟩ := newO X39 hx hZ hown (hw _ (List.mem_of_getElem? (i := 2) rfl)) (hw _ (List.mem_of_getElem? (i := 4) rfl)) (hw _ (List.mem_of_getElem? (i := 5) rfl)) e39 (g := (mkF m 87 #[.val (.long q1), .second, .val (.int p2), .val (.int p3), .val (.int p4), .val (.ref b24), .val (.ref b26), .val (.ref b28), .val (.ref b30), .unset, .unset, .unset, .unset, .unset, .unset, .unset, .unset, .unset, .unset, .unset] [(.int (1 : Int32)), (.ref b32), (.ref b32)])) rfl (hb hby at_87) (by decide) (by decide)
  obtain ⟨b41, g41⟩ : ∃ z, z = h39.size := ⟨_, rfl⟩
  rw [← g41] at A41 D41 st41
  have g_b41 : n0 ≤ b41 := Nat.le_trans (Nat.le_trans Z0 Kh39.1) (Nat.le_of_eq g41.symm)
  have sz_b41 : h0.size ≤ b41 := Nat.le_trans Kh39.1 (Nat.le_of_eq g41.symm)
  have ne_b24_b41 : b24 ≠ b41 := Nat.ne_of_lt (Nat.lt_of_lt_of_le ((f36.keep K38 (ninS ne_b24_b34 nin0)).other W39 ne_b24_b32).lt (Nat.le_of_eq g41.symm))
  have ne_b26_b41 : b26 ≠ b41 := Nat.ne_of_lt (Nat.lt_of_lt_of_le ((((((((V27.ext E28).other W29 ne_b26_b28).ext E30).other W31 ne_b26_b30).ext E32).ext E34).keep K38 (ninS ne_b26_b34 nin0)).other W39 ne_b26_b32).lt (Nat.le_of_eq g41.symm))
  have ne_b28_b41 : b28 ≠ b41 := Nat.ne_of_lt (Nat.lt_of_lt_of_le ((((((V29.ext E30).other W31 ne_b28_b30).ext E32).ext E34).keep K38 (ninS ne_b28_b34 nin0)).other W39 ne_b28_b32).lt (Nat.le_of_eq g41.symm))
  have ne_b30_b41 : b30 ≠ b41 := Nat.ne_of_lt (Nat.lt_of_lt_of_le ((((V31.ext E32).ext E34).keep K38 (ninS ne_b30_b34 nin0)).other W39 ne_b30_b32).lt (Nat.le_of_eq g41.symm))
  have ne_b32_b41 : b32 ≠ b41 := Nat.ne_of_lt (Nat.lt_of_lt_of_le V39.lt (Nat.le_of_eq g41.symm))
  have ne_b34_b41 : b34 ≠ b41 := Nat.ne_of_lt (Nat.lt_of_lt_of_le (Ee38.wr W39).lt (Nat.le_of_eq g41.symm))
  have ne_t38_b41 : t38 ≠ b41 := Nat.ne_of_lt (Nat.lt_of_lt_of_le (Va38.other W39 (Ne.symm ne_b32_t38)).lt (Nat.le_of_eq g41.symm))
  have Kh41 : Keep h0 h41 [] := Kh39.ext E41
  have F_coder_b41 : Fld Z h41 b41 "java/lang/String" "coder" "B" (.int (0 : Int32)) := D41 (Or.inr (hw _ (List.mem_of_getElem? (i := 29) rfl))) (ty := .byte) (by decide)
  have F_value_b41 : Fld Z h41 b41 "java/lang/String" "value" "[B" .null := D41 (Or.inr (hw _ (List.mem_of_getElem? (i := 31) rfl))) (ty := (.array .byte)) (by decide)
  have hp42 : ∀ c ∈ ([nar .char c1] : List Int32), ¬ c < 0 ∧ ¬ (255 : Int32) < c := by
    intro c hc
    simp only [List.mem_cons, List.not_mem_nil, or_false] at hc
    rw [hc, e_c1]
    exact own_b255 _ (own_r255 _).1 (own_r255 _).2
  have f43 := (((((((((V27.ext E28).other W29 ne_b26_b28).ext E30).other W31 ne_b26_b30).ext E32).ext E34).keep K38 (ninS ne_b26_b34 nin0)).other W39 ne_b26_b32).ext E41)
  have f44 := (((f37.keep K38 (allS g_b34 all0)).wr W39 g_b32).ext E41)
  obtain ⟨_, _, ⟨T45, L45, c45_, n45_⟩, -, X45, ⟨Lc45, hQ45, l45, y45, z45⟩, st45⟩ := X41.specialBack hx (y := (⟨"java/lang/String", "<init>", "([C)V"⟩ : MethodName)) rfl hown (mvT hZ (hw _ (List.mem_of_getElem? (i := 6) rfl))) (mvT hZ (hw _ (List.mem_of_getElem? (i := 7) rfl))) (mvT hZ (hw _ (List.mem_of_getElem? (i := 8) rfl))) (by decide) (StrChars.Road.backV (W := 4) hZ hws (kI := 4) (hw _ (List.mem_of_getElem? (i := 4) rfl)) (cs := ([nar .char c1] : List Int32)) (bs := (([nar .char c1] : List Int32)).map (fun c => c.toInt8.toInt32)) (n := 1) g_b41 (Nat.le_trans Z0 Kh41.1) A41 F_value_b41 F_coder_b41 f43 (S_C.ext f44.2) hz rfl rfl (by decide) (by decide) hp42 rfl (by decide) (by decide)) (g := (mkF m 93 #[.val (.long q1), .second, .val (.int p2), .val (.int p3), .val (.int p4), .val (.ref b24), .val (.ref b26), .val (.ref b28), .val (.ref b30), .unset, .unset, .unset, .unset, .unset, .unset, .unset, .unset, .unset, .unset, .unset] [(.ref b26), (.ref b41), (.ref b41), (.int (1 : Int32)), (.ref b32), (.ref b32)])) rfl (by rw [hml]; rfl) (Steps.refl _) (a := b41) (argsL := [(.ref b26)]) (rest := [(.ref b41), (.int (1 : Int32)), (.ref b32), (.ref b32)]) (lenOf pd__28_5bC_29V rfl) rfl (by show 2 * 0 + _ ≤ _; exact Nat.le_of_eq rfl) (hb hby at_93) (fun _ _ => ⟨rfl, e41, (by decide : 8 + 1 ≤ _), (by decide : 17 + 1 ≤ _)⟩)
  dsimp only [Pt.U, Pt.locs, Pt.cells, Pt.slots] at X45 l45 y45 z45 st45 hQ45
  rw [l45, y45, z45] at X45
  obtain ⟨rfl, Nq45, K45, Ee45, Fc45, t45, kb45, u45, v45, w45, Fv45, Va45⟩ := hQ45
  have N45 := Fr.app N39 Nq45
  have Kh45 : Keep h0 T45.heap [] := Kh41.trans K45 (allS (Or.inr sz_b41) all0)
  have g_t45 := u45
  have ne_b24_t45 : b24 ≠ t45 := Nat.ne_of_lt (Nat.lt_of_lt_of_le (((f36.keep K38 (ninS ne_b24_b34 nin0)).other W39 ne_b24_b32).ext E41).lt v45)
  have ne_b26_t45 : b26 ≠ t45 := Nat.ne_of_lt (Nat.lt_of_lt_of_le f43.lt v45)
  have ne_b28_t45 : b28 ≠ t45 := Nat.ne_of_lt (Nat.lt_of_lt_of_le (((((((V29.ext E30).other W31 ne_b28_b30).ext E32).ext E34).keep K38 (ninS ne_b28_b34 nin0)).other W39 ne_b28_b32).ext E41).lt v45)
  have ne_b30_t45 : b30 ≠ t45 := Nat.ne_of_lt (Nat.lt_of_lt_of_le (((((V31.ext E32).ext E34).keep K38 (ninS ne_b30_b34 nin0)).other W39 ne_b30_b32).ext E41).lt v45)
  have ne_b32_t45 : b32 ≠ t45 := Nat.ne_of_lt (Nat.lt_of_lt_of_le (V39.ext E41).lt v45)
  have ne_b34_t45 : b34 ≠ t45 := Nat.ne_of_lt (Nat.lt_of_lt_of_le ((Ee38.wr W39).ext E41).lt v45)
  have ne_t38_t45 : t38 ≠ t45 := Nat.ne_of_lt (Nat.lt_of_lt_of_le ((Va38.other W39 (Ne.symm ne_b32_t38)).ext E41).lt v45)
  have ne_b41_t45 : b41 ≠ t45 := Nat.ne_of_lt (Nat.lt_of_lt_of_le A41.lt v45)
  have f47 := ((V39.ext E41).keep K45 (ninS ne_b32_b41 nin0))
  obtain ⟨cl46, Ar46, q46, S46, M46, H46, G46⟩ := id (f47)
  have hin46 : ¬ ((1 : Int32) < 0 ∨ cl46.slots.size ≤ ((1 : Int32)).toNatClampNeg) := inb_of S46 ⟨by decide, by decide⟩
  have Sto46 : Sto Z T45.heap b32 (.ref b41) := Sto.ofV Ar46 q46 O32 (Ins.self Ee45)
  obtain ⟨T46, h46, X46, e46, W46, st46⟩ := stR X45 hx hZ rfl Ar46 (j := (1 : Int32)) hin46 rfl Sto46 (g := (mkF m 96 #[.val (.long q1), .second, .val (.int p2), .val (.int p3), .val (.int p4), .val (.ref b24), .val (.ref b26), .val (.ref b28), .val (.ref b30), .unset, .unset, .unset, .unset, .unset, .unset, .unset, .unset, .unset, .unset, .unset] [(.ref b41), (.int (1 : Int32)), (.ref b32), (.ref b32)])) rfl rfl (hb hby at_96)
  have V46 : Arv Z h46 b32 k32 (.object "java/lang/String") (4 : Int32) [(.ref b34), (.ref b41), .null, .null] .null := Arv.set Ar46 q46 S46 M46 H46 G46 rfl W46 1 rfl (Nat.le_of_ble_eq_true rfl)
  have Kh46 : Keep h0 h46 [] := Kh45.wr W46 (Or.inr sz_b32)
  have N46 := Fr.snoc X46 N45 g_b32
  obtain ⟨T48, h48, X48, e48, E48, A48, D48, -, st48⟩ := newO X46 hx hZ hown (hw _ (List.mem_of_getElem? (i := 2) rfl)) (hw _ (List.mem_of_getElem? (i := 4) rfl)) (hw _ (List.mem_of_getElem? (i := 5) rfl)) e46 (g := (mkF m 99 #[.val (.long q1), .second, .val (.int p2), .val (.int p3), .val (.int p4), .val (.ref b24), .val (.ref b26), .val (.ref b28), .val (.ref b30), .unset, .unset, .unset, .unset, .unset, .unset, .unset, .unset, .unset, .unset, .unset] [(.int (2 : Int32)), (.ref b32), (.ref b32)])) rfl (hb hby at_99) (by decide) (by decide)
  obtain ⟨b48, g48⟩ : ∃ z, z = h46.size := ⟨_, rfl⟩
  rw [← g48] at A48 D48 st48
  have g_b48 : n0 ≤ b48 := Nat.le_trans (Nat.le_trans Z0 Kh46.1) (Nat.le_of_eq g48.symm)
  have sz_b48 : h0.size ≤ b48 := Nat.le_trans Kh46.1 (Nat.le_of_eq g48.symm)
  have ne_b24_b48 : b24 ≠ b48 := Nat.ne_of_lt (Nat.lt_of_lt_of_le (((((f36.keep K38 (ninS ne_b24_b34 nin0)).other W39 ne_b24_b32).ext E41).keep K45 (ninS ne_b24_b41 nin0)).other W46 ne_b24_b32).lt (Nat.le_of_eq g48.symm))
  have ne_b26_b48 : b26 ≠ b48 := Nat.ne_of_lt (Nat.lt_of_lt_of_le ((f43.keep K45 (ninS ne_b26_b41 nin0)).other W46 ne_b26_b32).lt (Nat.le_of_eq g48.symm))
  have ne_b28_b48 : b28 ≠ b48 := Nat.ne_of_lt (Nat.lt_of_lt_of_le (((((((((V29.ext E30).other W31 ne_b28_b30).ext E32).ext E34).keep K38 (ninS ne_b28_b34 nin0)).other W39 ne_b28_b32).ext E41).keep K45 (ninS ne_b28_b41 nin0)).other W46 ne_b28_b32).lt (Nat.le_of_eq g48.symm))
  have ne_b30_b48 : b30 ≠ b48 := Nat.ne_of_lt (Nat.lt_of_lt_of_le (((((((V31.ext E32).ext E34).keep K38 (ninS ne_b30_b34 nin0)).other W39 ne_b30_b32).ext E41).keep K45 (ninS ne_b30_b41 nin0)).other W46 ne_b30_b32).lt (Nat.le_of_eq g48.symm))
  have ne_b32_b48 : b32 ≠ b48 := Nat.ne_of_lt (Nat.lt_of_lt_of_le V46.lt (Nat.le_of_eq g48.symm))
  have ne_b34_b48 : b34 ≠ b48 := Nat.ne_of_lt (Nat.lt_of_lt_of_le ((((Ee38.wr W39).ext E41).keep K45).wr W46).lt (Nat.le_of_eq g48.symm))
  have ne_t38_b48 : t38 ≠ b48 := Nat.ne_of_lt (Nat.lt_of_lt_of_le ((((Va38.other W39 (Ne.symm ne_b32_t38)).ext E41).keep K45 (ninS ne_t38_b41 nin0)).other W46 (Ne.symm ne_b32_t38)).lt (Nat.le_of_eq g48.symm))
  have ne_b41_b48 : b41 ≠ b48 := Nat.ne_of_lt (Nat.lt_of_lt_of_le (Ee45.wr W46).lt (Nat.le_of_eq g48.symm))
  have ne_t45_b48 : t45 ≠ b48 := Nat.ne_of_lt (Nat.lt_of_lt_of_le (Va45.other W46 (Ne.symm ne_b32_t45)).lt (Nat.le_of_eq g48.symm))
  have Kh48 : Keep h0 h48 [] := Kh46.ext E48
  have F_coder_b48 : Fld Z h48 b48 "java/lang/String" "coder" "B" (.int (0 : Int32)) := D48 (Or.inr (hw _ (List.mem_of_getElem? (i := 29) rfl))) (ty := .byte) (by decide)
  have F_value_b48 : Fld Z h48 b48 "java/lang/String" "value" "[B" .null := D48 (Or.inr (hw _ (List.mem_of_getElem? (i := 31) rfl))) (ty := (.array .byte)) (by decide)
  have hp49 : ∀ c ∈ ([nar .char c2] : List Int32), ¬ c < 0 ∧ ¬ (255 : Int32) < c := by
    intro c hc
    simp only [List.mem_cons, List.not_mem_nil, or_false] at hc
    rw [hc, e_c2]
    exact own_b255 _ (own_r255 _).1 (own_r255 _).2
  have f50 := ((((((((((V29.ext E30).other W31 ne_b28_b30).ext E32).ext E34).keep K38 (ninS ne_b28_b34 nin0)).other W39 ne_b28_b32).ext E41).keep K45 (ninS ne_b28_b41 nin0)).other W46 ne_b28_b32).ext E48)
  have f51 := (((f44.keep K45 (allS g_b41 all0)).wr W46 g_b32).ext E48)
  obtain ⟨_, _, ⟨T52, L52, c52_, n52_⟩, -, X52, ⟨Lc52, hQ52, l52, y52, z52⟩, st52⟩ := X48.specialBack hx (y := (⟨"java/lang/String", "<init>", "([C)V"⟩ : MethodName)) rfl hown (mvT hZ (hw _ (List.mem_of_getElem? (i := 6) rfl))) (mvT hZ (hw _ (List.mem_of_getElem? (i := 7) rfl))) (mvT hZ (hw _ (List.mem_of_getElem? (i := 8) rfl))) (by decide) (StrChars.Road.backV (W := 4) hZ hws (kI := 4) (hw _ (List.mem_of_getElem? (i := 4) rfl)) (cs := ([nar .char c2] : List Int32)) (bs := (([nar .char c2] : List Int32)).map (fun c => c.toInt8.toInt32)) (n := 1) g_b48 (Nat.le_trans Z0 Kh48.1) A48 F_value_b48 F_coder_b48 f50 (S_C.ext f51.2) hz rfl rfl (by decide) (by decide) hp49 rfl (by decide) (by decide)) (g := (mkF m 105 #[.val (.long q1), .second, .val (.int p2), .val (.int p3), .val (.int p4), .val (.ref b24), .val (.ref b26), .val (.ref b28), .val (.ref b30), .unset, .unset, .unset, .unset, .unset, .unset, .unset, .unset, .unset, .unset, .unset] [(.ref b28), (.ref b48), (.ref b48), (.int (2 : Int32)), (.ref b32), (.ref b32)])) rfl (by rw [hml]; rfl) (Steps.refl _) (a := b48) (argsL := [(.ref b28)]) (rest := [(.ref b48), (.int (2 : Int32)), (.ref b32), (.ref b32)]) (lenOf pd__28_5bC_29V rfl) rfl (by show 2 * 0 + _ ≤ _; exact Nat.le_of_eq rfl) (hb hby at_105) (fun _ _ => ⟨rfl, e48, (by decide : 10 + 1 ≤ _), (by decide : 22 + 1 ≤ _)⟩)
  dsimp only [Pt.U, Pt.locs, Pt.cells, Pt.slots] at X52 l52 y52 z52 st52 hQ52
  rw [l52, y52, z52] at X52
  obtain ⟨rfl, Nq52, K52, Ee52, Fc52, t52, kb52, u52, v52, w52, Fv52, Va52⟩ := hQ52
  have N52 := Fr.app N46 Nq52
  have Kh52 : Keep h0 T52.heap [] := Kh48.trans K52 (allS (Or.inr sz_b48) all0)
  have g_t52 := u52
  have ne_b24_t52 : b24 ≠ t52 := Nat.ne_of_lt (Nat.lt_of_lt_of_le ((((((f36.keep K38 (ninS ne_b24_b34 nin0)).other W39 ne_b24_b32).ext E41).keep K45 (ninS ne_b24_b41 nin0)).other W46 ne_b24_b32).ext E48).lt v52)
  have ne_b26_t52 : b26 ≠ t52 := Nat.ne_of_lt (Nat.lt_of_lt_of_le (((f43.keep K45 (ninS ne_b26_b41 nin0)).other W46 ne_b26_b32).ext E48).lt v52)
  have ne_b28_t52 : b28 ≠ t52 := Nat.ne_of_lt (Nat.lt_of_lt_of_le f50.lt v52)
  have ne_b30_t52 : b30 ≠ t52 := Nat.ne_of_lt (Nat.lt_of_lt_of_le ((((((((V31.ext E32).ext E34).keep K38 (ninS ne_b30_b34 nin0)).other W39 ne_b30_b32).ext E41).keep K45 (ninS ne_b30_b41 nin0)).other W46 ne_b30_b32).ext E48).lt v52)
  have ne_b32_t52 : b32 ≠ t52 := Nat.ne_of_lt (Nat.lt_of_lt_of_le (V46.ext E48).lt v52)
  have ne_b34_t52 : b34 ≠ t52 := Nat.ne_of_lt (Nat.lt_of_lt_of_le (((((Ee38.wr W39).ext E41).keep K45).wr W46).ext E48).lt v52)
  have ne_t38_t52 : t38 ≠ t52 := Nat.ne_of_lt (Nat.lt_of_lt_of_le (((((Va38.other W39 (Ne.symm ne_b32_t38)).ext E41).keep K45 (ninS ne_t38_b41 nin0)).other W46 (Ne.symm ne_b32_t38)).ext E48).lt v52)
  have ne_b41_t52 : b41 ≠ t52 := Nat.ne_of_lt (Nat.lt_of_lt_of_le ((Ee45.wr W46).ext E48).lt v52)
  have ne_t45_t52 : t45 ≠ t52 := Nat.ne_of_lt (Nat.lt_of_lt_of_le ((Va45.other W46 (Ne.symm ne_b32_t45)).ext E48).lt v52)
  have ne_b48_t52 : b48 ≠ t52 := Nat.ne_of_lt (Nat.lt_of_lt_of_le A48.lt v52)
  have f54 := ((V46.ext E48).keep K52 (ninS ne_b32_b48 nin0))
  obtain ⟨cl53, Ar53, q53, S53, M53, H53, G53⟩ := id (f54)
  have hin53 : ¬ ((2 : Int32) < 0 ∨ cl53.slots.size ≤ ((2 : Int32)).toNatClampNeg) := inb_of S53 ⟨by decide, by decide⟩
  have Sto53 : Sto Z T52.heap b32 (.ref b48) := Sto.ofV Ar53 q53 O32 (Ins.self Ee52)
  obtain ⟨T53, h53, X53, e53, W53, st53⟩ := stR X52 hx hZ rfl Ar53 (j := (2 : Int32)) hin53 rfl Sto53 (g := (mkF m 108 #[.val (.long q1), .second, .val (.int p2), .val (.int p3), .val (.int p4), .val (.ref b24), .val (.ref b26), .val (.ref b28), .val (.ref b30), .unset, .unset, .unset, .unset, .unset, .unset, .unset, .unset, .unset, .unset, .unset] [(.ref b48), (.int (2 : Int32)), (.ref b32), (.ref b32)])) rfl rfl (hb hby at_108)
  have V53 : Arv Z h53 b32 k32 (.object "java/lang/String") (4 : Int32) [(.ref b34), (.ref b41), (.ref b48), .null] .null := Arv.set Ar53 q53 S53 M53 H53 G53 rfl W53 2 rfl (Nat.le_of_ble_eq_true rfl)
  have Kh53 : Keep h0 h53 [] := Kh52.wr W53 (Or.inr sz_b32)
  have N53 := Fr.snoc X53 N52 g_b32
  obtain ⟨T55, h55, X55, e55, E55, A55, D55, -, st55⟩ := newO X53 hx hZ hown (hw _ (List.mem_of_getElem? (i := 2) rfl)) (hw _ (List.mem_of_getElem? (i := 4) rfl)) (hw _ (List.mem_of_getElem? (i := 5) rfl)) e53 (g := (mkF m 111 #[.val (.long q1), .second, .val (.int p2), .val (.int p3), .val (.int p4), .val (.ref b24), .val (.ref b26), .val (.ref b28), .val (.ref b30), .unset, .unset, .unset, .unset, .unset, .unset, .unset, .unset, .unset, .unset, .unset] [(.int (3 : Int32)), (.ref b32), (.ref b32)])) rfl (hb hby at_111) (by decide) (by decide)
  obtain ⟨b55, g55⟩ : ∃ z, z = h53.size := ⟨_, rfl⟩
  rw [← g55] at A55 D55 st55
  have g_b55 : n0 ≤ b55 := Nat.le_trans (Nat.le_trans Z0 Kh53.1) (Nat.le_of_eq g55.symm)
  have sz_b55 : h0.size ≤ b55 := Nat.le_trans Kh53.1 (Nat.le_of_eq g55.symm)
  have ne_b24_b55 : b24 ≠ b55 := Nat.ne_of_lt (Nat.lt_of_lt_of_le ((((((((f36.keep K38 (ninS ne_b24_b34 nin0)).other W39 ne_b24_b32).ext E41).keep K45 (ninS ne_b24_b41 nin0)).other W46 ne_b24_b32).ext E48).keep K52 (ninS ne_b24_b48 nin0)).other W53 ne_b24_b32).lt (Nat.le_of_eq g55.symm))
  have ne_b26_b55 : b26 ≠ b55 := Nat.ne_of_lt (Nat.lt_of_lt_of_le (((((f43.keep K45 (ninS ne_b26_b41 nin0)).other W46 ne_b26_b32).ext E48).keep K52 (ninS ne_b26_b48 nin0)).other W53 ne_b26_b32).lt (Nat.le_of_eq g55.symm))
  have ne_b28_b55 : b28 ≠ b55 := Nat.ne_of_lt (Nat.lt_of_lt_of_le ((f50.keep K52 (ninS ne_b28_b48 nin0)).other W53 ne_b28_b32).lt (Nat.le_of_eq g55.symm))
  have ne_b30_b55 : b30 ≠ b55 := Nat.ne_of_lt (Nat.lt_of_lt_of_le ((((((((((V31.ext E32).ext E34).keep K38 (ninS ne_b30_b34 nin0)).other W39 ne_b30_b32).ext E41).keep K45 (ninS ne_b30_b41 nin0)).other W46 ne_b30_b32).ext E48).keep K52 (ninS ne_b30_b48 nin0)).other W53 ne_b30_b32).lt (Nat.le_of_eq g55.symm))
  have ne_b32_b55 : b32 ≠ b55 := Nat.ne_of_lt (Nat.lt_of_lt_of_le V53.lt (Nat.le_of_eq g55.symm))
  have ne_b34_b55 : b34 ≠ b55 := Nat.ne_of_lt (Nat.lt_of_lt_of_le (((((((Ee38.wr W39).ext E41).keep K45).wr W46).ext E48).keep K52).wr W53).lt (Nat.le_of_eq g55.symm))
  have ne_t38_b55 : t38 ≠ b55 := Nat.ne_of_lt (Nat.lt_of_lt_of_le (((((((Va38.other W39 (Ne.symm ne_b32_t38)).ext E41).keep K45 (ninS ne_t38_b41 nin0)).other W46 (Ne.symm ne_b32_t38)).ext E48).keep K52 (ninS ne_t38_b48 nin0)).other W53 (Ne.symm ne_b32_t38)).lt (Nat.le_of_eq g55.symm))
  have ne_b41_b55 : b41 ≠ b55 := Nat.ne_of_lt (Nat.lt_of_lt_of_le ((((Ee45.wr W46).ext E48).keep K52).wr W53).lt (Nat.le_of_eq g55.symm))
  have ne_t45_b55 : t45 ≠ b55 := Nat.ne_of_lt (Nat.lt_of_lt_of_le ((((Va45.other W46 (Ne.symm ne_b32_t45)).ext E48).keep K52 (ninS ne_t45_b48 nin0)).other W53 (Ne.symm ne_b32_t45)).lt (Nat.le_of_eq g55.symm))
  have ne_b48_b55 : b48 ≠ b55 := Nat.ne_of_lt (Nat.lt_of_lt_of_le (Ee52.wr W53).lt (Nat.le_of_eq g55.symm))
  have ne_t52_b55 : t52 ≠ b55 := Nat.ne_of_lt (Nat.lt_of_lt_of_le (Va52.other W53 (Ne.symm ne_b32_t52)).lt (Nat.le_of_eq g55.symm))
  have Kh55 : Keep h0 h55 [] := Kh53.ext E55
  have F_coder_b55 : Fld Z h55 b55 "java/lang/String" "coder" "B" (.int (0 : Int32)) := D55 (Or.inr (hw _ (List.mem_of_getElem? (i := 29) rfl))) (ty := .byte) (by decide)
  have F_value_b55 : Fld Z h55 b55 "java/lang/String" "value" "[B" .null := D55 (Or.inr (hw _ (List.mem_of_getElem? (i := 31) rfl))) (ty := (.array .byte)) (by decide)
  have hp56 : ∀ c ∈ ([nar .char c3] : List Int32), ¬ c < 0 ∧ ¬ (255 : Int32) < c := by
    intro c hc
    simp only [List.mem_cons, List.not_mem_nil, or_false] at hc
    rw [hc, e_c3]
    exact own_b255 _ (own_r255 _).1 (own_r255 _).2
  have f57 := (((((((((((V31.ext E32).ext E34).keep K38 (ninS ne_b30_b34 nin0)).other W39 ne_b30_b32).ext E41).keep K45 (ninS ne_b30_b41 nin0)).other W46 ne_b30_b32).ext E48).keep K52 (ninS ne_b30_b48 nin0)).other W53 ne_b30_b32).ext E55)
  have f58 := (((f51.keep K52 (allS g_b48 all0)).wr W53 g_b32).ext E55)
  obtain ⟨_, _, ⟨T59, L59, c59_, n59_⟩, -, X59, ⟨Lc59, hQ59, l59, y59, z59⟩, st59⟩ := X55.specialBack hx (y := (⟨"java/lang/String", "<init>", "([C)V"⟩ : MethodName)) rfl hown (mvT hZ (hw _ (List.mem_of_getElem? (i := 6) rfl))) (mvT hZ (hw _ (List.mem_of_getElem? (i := 7) rfl))) (mvT hZ (hw _ (List.mem_of_getElem? (i := 8) rfl))) (by decide) (StrChars.Road.backV (W := 4) hZ hws (kI := 4) (hw _ (List.mem_of_getElem? (i := 4) rfl)) (cs := ([nar .char c3] : List Int32)) (bs := (([nar .char c3] : List Int32)).map (fun c => c.toInt8.toInt32)) (n := 1) g_b55 (Nat.le_trans Z0 Kh55.1) A55 F_value_b55 F_coder_b55 f57 (S_C.ext f58.2) hz rfl rfl (by decide) (by decide) hp56 rfl (by decide) (by decide)) (g := (mkF m 117 #[.val (.long q1), .second, .val (.int p2), .val (.int p3), .val (.int p4), .val (.ref b24), .val (.ref b26), .val (.ref b28), .val (.ref b30), .unset, .unset, .unset, .unset, .unset, .unset, .unset, .unset, .unset, .unset, .unset] [(.ref b30), (.ref b55), (.ref b55), (.int (3 : Int32)), (.ref b32), (.ref b32)])) rfl (by rw [hml]; rfl) (Steps.refl _) (a := b55) (argsL := [(.ref b30)]) (rest := [(.ref b55), (.int (3 : Int32)), (.ref b32), (.ref b32)]) (lenOf pd__28_5bC_29V rfl) rfl (by show 2 * 0 + _ ≤ _; exact Nat.le_of_eq rfl) (hb hby at_117) (fun _ _ => ⟨rfl, e55, (by decide : 12 + 1 ≤ _), (by decide : 27 + 1 ≤ _)⟩)
  dsimp only [Pt.U, Pt.locs, Pt.cells, Pt.slots] at X59 l59 y59 z59 st59 hQ59
  rw [l59, y59, z59] at X59
  obtain ⟨rfl, Nq59, K59, Ee59, Fc59, t59, kb59, u59, v59, w59, Fv59, Va59⟩ := hQ59
  have N59 := Fr.app N53 Nq59
  have Kh59 : Keep h0 T59.heap [] := Kh55.trans K59 (allS (Or.inr sz_b55) all0)
  have g_t59 := u59
  have ne_b24_t59 : b24 ≠ t59 := Nat.ne_of_lt (Nat.lt_of_lt_of_le (((((((((f36.keep K38 (ninS ne_b24_b34 nin0)).other W39 ne_b24_b32).ext E41).keep K45 (ninS ne_b24_b41 nin0)).other W46 ne_b24_b32).ext E48).keep K52 (ninS ne_b24_b48 nin0)).other W53 ne_b24_b32).ext E55).lt v59)
  have ne_b26_t59 : b26 ≠ t59 := Nat.ne_of_lt (Nat.lt_of_lt_of_le ((((((f43.keep K45 (ninS ne_b26_b41 nin0)).other W46 ne_b26_b32).ext E48).keep K52 (ninS ne_b26_b48 nin0)).other W53 ne_b26_b32).ext E55).lt v59)
  have ne_b28_t59 : b28 ≠ t59 := Nat.ne_of_lt (Nat.lt_of_lt_of_le (((f50.keep K52 (ninS ne_b28_b48 nin0)).other W53 ne_b28_b32).ext E55).lt v59)
  have ne_b30_t59 : b30 ≠ t59 := Nat.ne_of_lt (Nat.lt_of_lt_of_le f57.lt v59)
  have ne_b32_t59 : b32 ≠ t59 := Nat.ne_of_lt (Nat.lt_of_lt_of_le (V53.ext E55).lt v59)
  have ne_b34_t59 : b34 ≠ t59 := Nat.ne_of_lt (Nat.lt_of_lt_of_le ((((((((Ee38.wr W39).ext E41).keep K45).wr W46).ext E48).keep K52).wr W53).ext E55).lt v59)
  have ne_t38_t59 : t38 ≠ t59 := Nat.ne_of_lt (Nat.lt_of_lt_of_le ((((((((Va38.other W39 (Ne.symm ne_b32_t38)).ext E41).keep K45 (ninS ne_t38_b41 nin0)).other W46 (Ne.symm ne_b32_t38)).ext E48).keep K52 (ninS ne_t38_b48 nin0)).other W53 (Ne.symm ne_b32_t38)).ext E55).lt v59)
  have ne_b41_t59 : b41 ≠ t59 := Nat.ne_of_lt (Nat.lt_of_lt_of_le (((((Ee45.wr W46).ext E48).keep K52).wr W53).ext E55).lt v59)
  have ne_t45_t59 : t45 ≠ t59 := Nat.ne_of_lt (Nat.lt_of_lt_of_le (((((Va45.other W46 (Ne.symm ne_b32_t45)).ext E48).keep K52 (ninS ne_t45_b48 nin0)).other W53 (Ne.symm ne_b32_t45)).ext E55).lt v59)
  have ne_b48_t59 : b48 ≠ t59 := Nat.ne_of_lt (Nat.lt_of_lt_of_le ((Ee52.wr W53).ext E55).lt v59)
  have ne_t52_t59 : t52 ≠ t59 := Nat.ne_of_lt (Nat.lt_of_lt_of_le ((Va52.other W53 (Ne.symm ne_b32_t52)).ext E55).lt v59)
  have ne_b55_t59 : b55 ≠ t59 := Nat.ne_of_lt (Nat.lt_of_lt_of_le A55.lt v59)
  have cut60 : ∀ t, Steps p.tables e below (T59.setTop (mkF m 120 #[.val (.long q1), .second, .val (.int p2), .val (.int p3), .val (.int p4), .val (.ref b24), .val (.ref b26), .val (.ref b28), .val (.ref b30), .unset, .unset, .unset, .unset, .unset, .unset, .unset, .unset, .unset, .unset, .unset] [(.ref b55), (.int (3 : Int32)), (.ref b32), (.ref b32)])) t → Steps p.tables e below (T32.setTop (mkF m 74 #[.val (.long q1), .second, .val (.int p2), .val (.int p3), .val (.int p4), .val (.ref b24), .val (.ref b26), .val (.ref b28), .val (.ref b30), .unset, .unset, .unset, .unset, .unset, .unset, .unset, .unset, .unset, .unset, .unset] [(.ref b32), (.ref b32)])) t := by
    intro t kt
    show Steps p.tables e below (T32.setTop (mkF m 74 #[.val (.long q1), .second, .val (.int p2), .val (.int p3), .val (.int p4), .val (.ref b24), .val (.ref b26), .val (.ref b28), .val (.ref b30), .unset, .unset, .unset, .unset, .unset, .unset, .unset, .unset, .unset, .unset, .unset] [(.ref b32), (.ref b32)])) _
    refine XS.iconst X32.here hx rfl (hb hby at_74) ?_
    show Steps p.tables e below (T32.setTop (mkF m 75 #[.val (.long q1), .second, .val (.int p2), .val (.int p3), .val (.int p4), .val (.ref b24), .val (.ref b26), .val (.ref b28), .val (.ref b30), .unset, .unset, .unset, .unset, .unset, .unset, .unset, .unset, .unset, .unset, .unset] [(.int (0 : Int32)), (.ref b32), (.ref b32)])) _
    refine st34 _ ?_
    show Steps p.tables e below (T34.setTop (mkF m 78 #[.val (.long q1), .second, .val (.int p2), .val (.int p3), .val (.int p4), .val (.ref b24), .val (.ref b26), .val (.ref b28), .val (.ref b30), .unset, .unset, .unset, .unset, .unset, .unset, .unset, .unset, .unset, .unset, .unset] [(.ref b34), (.int (0 : Int32)), (.ref b32), (.ref b32)])) _
    refine XS.dup X34.here hx rfl (hb hby at_78) rfl rfl ?_
    show Steps p.tables e below (T34.setTop (mkF m 79 #[.val (.long q1), .second, .val (.int p2), .val (.int p3), .val (.int p4), .val (.ref b24), .val (.ref b26), .val (.ref b28), .val (.ref b30), .unset, .unset, .unset, .unset, .unset, .unset, .unset, .unset, .unset, .unset, .unset] [(.ref b34), (.ref b34), (.int (0 : Int32)), (.ref b32), (.ref b32)])) _
    refine XS.aload X34.here hx rfl (hb hby at_79) rfl rfl ?_
    show Steps p.tables e below (T34.setTop (mkF m 81 #[.val (.long q1), .second, .val (.int p2), .val (.int p3), .val (.int p4), .val (.ref b24), .val (.ref b26), .val (.ref b28), .val (.ref b30), .unset, .unset, .unset, .unset, .unset, .unset, .unset, .unset, .unset, .unset, .unset] [(.ref b24), (.ref b34), (.ref b34), (.int (0 : Int32)), (.ref b32), (.ref b32)])) _
    refine st38.trans ?_
    show Steps p.tables e below (T38.setTop (mkF m 84 #[.val (.long q1), .second, .val (.int p2), .val (.int p3), .val (.int p4), .val (.ref b24), .val (.ref b26), .val (.ref b28), .val (.ref b30), .unset, .unset, .unset, .unset, .unset, .unset, .unset, .unset, .unset, .unset, .unset] [(.ref b34), (.int (0 : Int32)), (.ref b32), (.ref b32)])) _
    refine st39 _ ?_
    show Steps p.tables e below (T39.setTop (mkF m 85 #[.val (.long q1), .second, .val (.int p2), .val (.int p3), .val (.int p4), .val (.ref b24), .val (.ref b26), .val (.ref b28), .val (.ref b30), .unset, .unset, .unset, .unset, .unset, .unset, .unset, .unset, .unset, .unset, .unset] [(.ref b32)])) _
    refine XS.dup X39.here hx rfl (hb hby at_85) rfl rfl ?_
    show Steps p.tables e below (T39.setTop (mkF m 86 #[.val (.long q1), .second, .val (.int p2), .val (.int p3), .val (.int p4), .val (.ref b24), .val (.ref b26), .val (.ref b28), .val (.ref b30), .unset, .unset, .unset, .unset, .unset, .unset, .unset, .unset, .unset, .unset, .unset] [(.ref b32), (.ref b32)])) _
    refine XS.iconst X39.here hx rfl (hb hby at_86) ?_
    show Steps p.tables e below (T39.setTop (mkF m 87 #[.val (.long q1), .second, .val (.int p2), .val (.int p3), .val (.int p4), .val (.ref b24), .val (.ref b26), .val (.ref b28), .val (.ref b30), .unset, .unset, .unset, .unset, .unset, .unset, .unset, .unset, .unset, .unset, .unset] [(.int (1 : Int32)), (.ref b32), (.ref b32)])) _
    refine st41 _ ?_
    show Steps p.tables e below (T41.setTop (mkF m 90 #[.val (.long q1), .second, .val (.int p2), .val (.int p3), .val (.int p4), .val (.ref b24), .val (.ref b26), .val (.ref b28), .val (.ref b30), .unset, .unset, .unset, .unset, .unset, .unset, .unset, .unset, .unset, .unset, .unset] [(.ref b41), (.int (1 : Int32)), (.ref b32), (.ref b32)])) _
    refine XS.dup X41.here hx rfl (hb hby at_90) rfl rfl ?_
    show Steps p.tables e below (T41.setTop (mkF m 91 #[.val (.long q1), .second, .val (.int p2), .val (.int p3), .val (.int p4), .val (.ref b24), .val (.ref b26), .val (.ref b28), .val (.ref b30), .unset, .unset, .unset, .unset, .unset, .unset, .unset, .unset, .unset, .unset, .unset] [(.ref b41), (.ref b41), (.int (1 : Int32)), (.ref b32), (.ref b32)])) _
    refine XS.aload X41.here hx rfl (hb hby at_91) rfl rfl ?_
    show Steps p.tables e below (T41.setTop (mkF m 93 #[.val (.long q1), .second, .val (.int p2), .val (.int p3), .val (.int p4), .val (.ref b24), .val (.ref b26), .val (.ref b28), .val (.ref b30), .unset, .unset, .unset, .unset, .unset, .unset, .unset, .unset, .unset, .unset, .unset] [(.ref b26), (.ref b41), (.ref b41), (.int (1 : Int32)), (.ref b32), (.ref b32)])) _
    refine st45.trans ?_
    show Steps p.tables e below (T45.setTop (mkF m 96 #[.val (.long q1), .second, .val (.int p2), .val (.int p3), .val (.int p4), .val (.ref b24), .val (.ref b26), .val (.ref b28), .val (.ref b30), .unset, .unset, .unset, .unset, .unset, .unset, .unset, .unset, .unset, .unset, .unset] [(.ref b41), (.int (1 : Int32)), (.ref b32), (.ref b32)])) _
    refine st46 _ ?_
    show Steps p.tables e below (T46.setTop (mkF m 97 #[.val (.long q1), .second, .val (.int p2), .val (.int p3), .val (.int p4), .val (.ref b24), .val (.ref b26), .val (.ref b28), .val (.ref b30), .unset, .unset, .unset, .unset, .unset, .unset, .unset, .unset, .unset, .unset, .unset] [(.ref b32)])) _
    refine XS.dup X46.here hx rfl (hb hby at_97) rfl rfl ?_
    show Steps p.tables e below (T46.setTop (mkF m 98 #[.val (.long q1), .second, .val (.int p2), .val (.int p3), .val (.int p4), .val (.ref b24), .val (.ref b26), .val (.ref b28), .val (.ref b30), .unset, .unset, .unset, .unset, .unset, .unset, .unset, .unset, .unset, .unset, .unset] [(.ref b32), (.ref b32)])) _
    refine XS.iconst X46.here hx rfl (hb hby at_98) ?_
    show Steps p.tables e below (T46.setTop (mkF m 99 #[.val (.long q1), .second, .val (.int p2), .val (.int p3), .val (.int p4), .val (.ref b24), .val (.ref b26), .val (.ref b28), .val (.ref b30), .unset, .unset, .unset, .unset, .unset, .unset, .unset, .unset, .unset, .unset, .unset] [(.int (2 : Int32)), (.ref b32), (.ref b32)])) _
    refine st48 _ ?_
    show Steps p.tables e below (T48.setTop (mkF m 102 #[.val (.long q1), .second, .val (.int p2), .val (.int p3), .val (.int p4), .val (.ref b24), .val (.ref b26), .val (.ref b28), .val (.ref b30), .unset, .unset, .unset, .unset, .unset, .unset, .unset, .unset, .unset, .unset, .unset] [(.ref b48), (.int (2 : Int32)), (.ref b32), (.ref b32)])) _
    refine XS.dup X48.here hx rfl (hb hby at_102) rfl rfl ?_
    show Steps p.tables e below (T48.setTop (mkF m 103 #[.val (.long q1), .second, .val (.int p2), .val (.int p3), .val (.int p4), .val (.ref b24), .val (.ref b26), .val (.ref b28), .val (.ref b30), .unset, .unset, .unset, .unset, .unset, .unset, .unset, .unset, .unset, .unset, .unset] [(.ref b48), (.ref b48), (.int (2 : Int32)), (.ref b32), (.ref b32)])) _
    refine XS.aload X48.here hx rfl (hb hby at_103) rfl rfl ?_
    show Steps p.tables e below (T48.setTop (mkF m 105 #[.val (.long q1), .second, .val (.int p2), .val (.int p3), .val (.int p4), .val (.ref b24), .val (.ref b26), .val (.ref b28), .val (.ref b30), .unset, .unset, .unset, .unset, .unset, .unset, .unset, .unset, .unset, .unset, .unset] [(.ref b28), (.ref b48), (.ref b48), (.int (2 : Int32)), (.ref b32), (.ref b32)])) _
    refine st52.trans ?_
    show Steps p.tables e below (T52.setTop (mkF m 108 #[.val (.long q1), .second, .val (.int p2), .val (.int p3), .val (.int p4), .val (.ref b24), .val (.ref b26), .val (.ref b28), .val (.ref b30), .unset, .unset, .unset, .unset, .unset, .unset, .unset, .unset, .unset, .unset, .unset] [(.ref b48), (.int (2 : Int32)), (.ref b32), (.ref b32)])) _
    refine st53 _ ?_
    show Steps p.tables e below (T53.setTop (mkF m 109 #[.val (.long q1), .second, .val (.int p2), .val (.int p3), .val (.int p4), .val (.ref b24), .val (.ref b26), .val (.ref b28), .val (.ref b30), .unset, .unset, .unset, .unset, .unset, .unset, .unset, .unset, .unset, .unset, .unset] [(.ref b32)])) _
    refine XS.dup X53.here hx rfl (hb hby at_109) rfl rfl ?_
    show Steps p.tables e below (T53.setTop (mkF m 110 #[.val (.long q1), .second, .val (.int p2), .val (.int p3), .val (.int p4), .val (.ref b24), .val (.ref b26), .val (.ref b28), .val (.ref b30), .unset, .unset, .unset, .unset, .unset, .unset, .unset, .unset, .unset, .unset, .unset] [(.ref b32), (.ref b32)])) _
    refine XS.iconst X53.here hx rfl (hb hby at_110) ?_
    show Steps p.tables e below (T53.setTop (mkF m 111 #[.val (.long q1), .second, .val (.int p2), .val (.int p3), .val (.int p4), .val (.ref b24), .val (.ref b26), .val (.ref b28), .val (.ref b30), .unset, .unset, .unset, .unset, .unset, .unset, .unset, .unset, .unset, .unset, .unset] [(.int (3 : Int32)), (.ref b32), (.ref b32)])) _
    refine st55 _ ?_
    show Steps p.tables e below (T55.setTop (mkF m 114 #[.val (.long q1), .second, .val (.int p2), .val (.int p3), .val (.int p4), .val (.ref b24), .val (.ref b26), .val (.ref b28), .val (.ref b30), .unset, .unset, .unset, .unset, .unset, .unset, .unset, .unset, .unset, .unset, .unset] [(.ref b55), (.int (3 : Int32)), (.ref b32), (.ref b32)])) _
    refine XS.dup X55.here hx rfl (hb hby at_114) rfl rfl ?_
    show Steps p.tables e below (T55.setTop (mkF m 115 #[.val (.long q1), .second, .val (.int p2), .val (.int p3), .val (.int p4), .val (.ref b24), .val (.ref b26), .val (.ref b28), .val (.ref b30), .unset, .unset, .unset, .unset, .unset, .unset, .unset, .unset, .unset, .unset, .unset] [(.ref b55), (.ref b55), (.int (3 : Int32)), (.ref b32), (.ref b32)])) _
    refine XS.aload X55.here hx rfl (hb hby at_115) rfl rfl ?_
    show Steps p.tables e below (T55.setTop (mkF m 117 #[.val (.long q1), .second, .val (.int p2), .val (.int p3), .val (.int p4), .val (.ref b24), .val (.ref b26), .val (.ref b28), .val (.ref b30), .unset, .unset, .unset, .unset, .unset, .unset, .unset, .unset, .unset, .unset, .unset] [(.ref b30), (.ref b55), (.ref b55), (.int (3 : Int32)), (.ref b32), (.ref b32)])) _
    refine st59.trans ?_
    exact kt
  have f62 := ((V53.ext E55).keep K59 (ninS ne_b32_b55 nin0))
  obtain ⟨cl61, Ar61, q61, S61, M61, H61, G61⟩ := id (f62)
  have hin61 : ¬ ((3 : Int32) < 0 ∨ cl61.slots.size ≤ ((3 : Int32)).toNatClampNeg) := inb_of S61 ⟨by decide, by decide⟩
  have Sto61 : Sto Z T59.heap b32 (.ref b55) := Sto.ofV Ar61 q61 O32 (Ins.self Ee59)
  obtain ⟨T61, h61, X61, e61, W61, st61⟩ := stR X59 hx hZ rfl Ar61 (j := (3 : Int32)) hin61 rfl Sto61 (g := (mkF m 120 #[.val (.long q1), .second, .val (.int p2), .val (.int p3), .val (.int p4), .val (.ref b24), .val (.ref b26), .val (.ref b28), .val (.ref b30), .unset, .unset, .unset, .unset, .unset, .unset, .unset, .unset, .unset, .unset, .unset] [(.ref b55), (.int (3 : Int32)), (.ref b32), (.ref b32)])) rfl rfl (hb hby at_120)
  have V61 : Arv Z h61 b32 k32 (.object "java/lang/String") (4 : Int32) [(.ref b34), (.ref b41), (.ref b48), (.ref b55)] .null := Arv.set Ar61 q61 S61 M61 H61 G61 rfl W61 3 rfl (Nat.le_of_ble_eq_true rfl)
  have Kh61 : Keep h0 h61 [] := Kh59.wr W61 (Or.inr sz_b32)
  have N61 := Fr.snoc X61 N59 g_b32
  obtain ⟨T63, h63, k63, X63, e63, E63, A63, st63⟩ := newP X61 hx hZ (hw _ (List.mem_of_getElem? (i := 32) rfl)) e61 (g := (mkF m 124 #[.val (.long q1), .second, .val (.int p2), .val (.int p3), .val (.int p4), .val (.ref b24), .val (.ref b26), .val (.ref b28), .val (.ref b30), .val (.ref b32), .unset, .unset, .unset, .unset, .unset, .unset, .unset, .unset, .unset, .unset] [(.int (5 : Int32))])) rfl (hb hby at_124) rfl (by decide) (cap := 5) (by decide) (by decide) (by decide) (by decide)
  obtain ⟨b63, g63⟩ : ∃ z, z = h61.size := ⟨_, rfl⟩
  rw [← g63] at A63 st63
  have g_b63 : n0 ≤ b63 := Nat.le_trans (Nat.le_trans Z0 Kh61.1) (Nat.le_of_eq g63.symm)
  have sz_b63 : h0.size ≤ b63 := Nat.le_trans Kh61.1 (Nat.le_of_eq g63.symm)
  have ne_b24_b63 : b24 ≠ b63 := Nat.ne_of_lt (Nat.lt_of_lt_of_le (((((((((((f36.keep K38 (ninS ne_b24_b34 nin0)).other W39 ne_b24_b32).ext E41).keep K45 (ninS ne_b24_b41 nin0)).other W46 ne_b24_b32).ext E48).keep K52 (ninS ne_b24_b48 nin0)).other W53 ne_b24_b32).ext E55).keep K59 (ninS ne_b24_b55 nin0)).other W61 ne_b24_b32).lt (Nat.le_of_eq g63.symm))
  have ne_b26_b63 : b26 ≠ b63 := Nat.ne_of_lt (Nat.lt_of_lt_of_le ((((((((f43.keep K45 (ninS ne_b26_b41 nin0)).other W46 ne_b26_b32).ext E48).keep K52 (ninS ne_b26_b48 nin0)).other W53 ne_b26_b32).ext E55).keep K59 (ninS ne_b26_b55 nin0)).other W61 ne_b26_b32).lt (Nat.le_of_eq g63.symm))
  have ne_b28_b63 : b28 ≠ b63 := Nat.ne_of_lt (Nat.lt_of_lt_of_le (((((f50.keep K52 (ninS ne_b28_b48 nin0)).other W53 ne_b28_b32).ext E55).keep K59 (ninS ne_b28_b55 nin0)).other W61 ne_b28_b32).lt (Nat.le_of_eq g63.symm))
  have ne_b30_b63 : b30 ≠ b63 := Nat.ne_of_lt (Nat.lt_of_lt_of_le ((f57.keep K59 (ninS ne_b30_b55 nin0)).other W61 ne_b30_b32).lt (Nat.le_of_eq g63.symm))
  have ne_b32_b63 : b32 ≠ b63 := Nat.ne_of_lt (Nat.lt_of_lt_of_le V61.lt (Nat.le_of_eq g63.symm))
  have ne_b34_b63 : b34 ≠ b63 := Nat.ne_of_lt (Nat.lt_of_lt_of_le ((((((((((Ee38.wr W39).ext E41).keep K45).wr W46).ext E48).keep K52).wr W53).ext E55).keep K59).wr W61).lt (Nat.le_of_eq g63.symm))
  have ne_t38_b63 : t38 ≠ b63 := Nat.ne_of_lt (Nat.lt_of_lt_of_le ((((((((((Va38.other W39 (Ne.symm ne_b32_t38)).ext E41).keep K45 (ninS ne_t38_b41 nin0)).other W46 (Ne.symm ne_b32_t38)).ext E48).keep K52 (ninS ne_t38_b48 nin0)).other W53 (Ne.symm ne_b32_t38)).ext E55).keep K59 (ninS ne_t38_b55 nin0)).other W61 (Ne.symm ne_b32_t38)).lt (Nat.le_of_eq g63.symm))
  have ne_b41_b63 : b41 ≠ b63 := Nat.ne_of_lt (Nat.lt_of_lt_of_le (((((((Ee45.wr W46).ext E48).keep K52).wr W53).ext E55).keep K59).wr W61).lt (Nat.le_of_eq g63.symm))
  have ne_t45_b63 : t45 ≠ b63 := Nat.ne_of_lt (Nat.lt_of_lt_of_le (((((((Va45.other W46 (Ne.symm ne_b32_t45)).ext E48).keep K52 (ninS ne_t45_b48 nin0)).other W53 (Ne.symm ne_b32_t45)).ext E55).keep K59 (ninS ne_t45_b55 nin0)).other W61 (Ne.symm ne_b32_t45)).lt (Nat.le_of_eq g63.symm))
  have ne_b48_b63 : b48 ≠ b63 := Nat.ne_of_lt (Nat.lt_of_lt_of_le ((((Ee52.wr W53).ext E55).keep K59).wr W61).lt (Nat.le_of_eq g63.symm))
  have ne_t52_b63 : t52 ≠ b63 := Nat.ne_of_lt (Nat.lt_of_lt_of_le ((((Va52.other W53 (Ne.symm ne_b32_t52)).ext E55).keep K59 (ninS ne_t52_b55 nin0)).other W61 (Ne.symm ne_b32_t52)).lt (Nat.le_of_eq g63.symm))
  have ne_b55_b63 : b55 ≠ b63 := Nat.ne_of_lt (Nat.lt_of_lt_of_le (Ee59.wr W61).lt (Nat.le_of_eq g63.symm))
  have ne_t59_b63 : t59 ≠ b63 := Nat.ne_of_lt (Nat.lt_of_lt_of_le (Va59.other W61 (Ne.symm ne_b32_t59)).lt (Nat.le_of_eq g63.symm))
  have Kh63 : Keep h0 h63 [] := Kh61.ext E63
  have V_b63 : Arv Z h63 b63 k63 .int (5 : Int32) [(.int (0 : Int32)), (.int (0 : Int32)), (.int (0 : Int32)), (.int (0 : Int32)), (.int (0 : Int32))] (.int (0 : Int32)) := (Arv.new A63 (by decide)).pad (pad_rep [] (.int (0 : Int32)) 5)
  obtain ⟨cl64, Ar64, q64, S64, M64, H64, G64⟩ := id (V_b63)
  have hin64 : ¬ ((0 : Int32) < 0 ∨ cl64.slots.size ≤ ((0 : Int32)).toNatClampNeg) := inb_of S64 ⟨by decide, by decide⟩
  obtain ⟨T64, h64, X64, e64, W64, st64⟩ := stI X63 hx hZ e63 Ar64 (j := (0 : Int32)) hin64 (g := (mkF m 131 #[.val (.long q1), .second, .val (.int p2), .val (.int p3), .val (.int p4), .val (.ref b24), .val (.ref b26), .val (.ref b28), .val (.ref b30), .val (.ref b32), .unset, .unset, .unset, .unset, .unset, .unset, .unset, .unset, .unset, .unset] [(.int (p2 &&& (3 : Int32))), (.int (0 : Int32)), (.ref b63), (.ref b63)])) rfl rfl (hb hby at_131)
  have V64 : Arv Z h64 b63 k63 .int (5 : Int32) [(.int (p2 &&& (3 : Int32))), (.int (0 : Int32)), (.int (0 : Int32)), (.int (0 : Int32)), (.int (0 : Int32))] (.int (0 : Int32)) := Arv.set Ar64 q64 S64 M64 H64 G64 rfl W64 0 rfl (Nat.le_of_ble_eq_true rfl)
  have Kh64 : Keep h0 h64 [] := Kh63.wr W64 (Or.inr sz_b63)
  have N64 := Fr.snoc X64 N61 g_b63
  obtain ⟨cl65, Ar65, q65, S65, M65, H65, G65⟩ := id (V64)
  have hin65 : ¬ ((1 : Int32) < 0 ∨ cl65.slots.size ≤ ((1 : Int32)).toNatClampNeg) := inb_of S65 ⟨by decide, by decide⟩
  obtain ⟨T65, h65, X65, e65, W65, st65⟩ := stI X64 hx hZ e64 Ar65 (j := (1 : Int32)) hin65 (g := (mkF m 139 #[.val (.long q1), .second, .val (.int p2), .val (.int p3), .val (.int p4), .val (.ref b24), .val (.ref b26), .val (.ref b28), .val (.ref b30), .val (.ref b32), .unset, .unset, .unset, .unset, .unset, .unset, .unset, .unset, .unset, .unset] [(.int (((p2.toUInt32 >>> ((2 : Int32) &&& 31).toUInt32).toInt32) &&& (3 : Int32))), (.int (1 : Int32)), (.ref b63), (.ref b63)])) rfl rfl (hb hby at_139)
  have V65 : Arv Z h65 b63 k63 .int (5 : Int32) [(.int (p2 &&& (3 : Int32))), (.int (((p2.toUInt32 >>> ((2 : Int32) &&& 31).toUInt32).toInt32) &&& (3 : Int32))), (.int (0 : Int32)), (.int (0 : Int32)), (.int (0 : Int32))] (.int (0 : Int32)) := Arv.set Ar65 q65 S65 M65 H65 G65 rfl W65 1 rfl (Nat.le_of_ble_eq_true rfl)
  have Kh65 : Keep h0 h65 [] := Kh64.wr W65 (Or.inr sz_b63)
  have N65 := Fr.snoc X65 N64 g_b63
  obtain ⟨cl66, Ar66, q66, S66, M66, H66, G66⟩ := id (V65)
  have hin66 : ¬ ((2 : Int32) < 0 ∨ cl66.slots.size ≤ ((2 : Int32)).toNatClampNeg) := inb_of S66 ⟨by decide, by decide⟩
  obtain ⟨T66, h66, X66, e66, W66, st66⟩ := stI X65 hx hZ e65 Ar66 (j := (2 : Int32)) hin66 (g := (mkF m 147 #[.val (.long q1), .second, .val (.int p2), .val (.int p3), .val (.int p4), .val (.ref b24), .val (.ref b26), .val (.ref b28), .val (.ref b30), .val (.ref b32), .unset, .unset, .unset, .unset, .unset, .unset, .unset, .unset, .unset, .unset] [(.int (((p2.toUInt32 >>> ((4 : Int32) &&& 31).toUInt32).toInt32) &&& (3 : Int32))), (.int (2 : Int32)), (.ref b63), (.ref b63)])) rfl rfl (hb hby at_147)
  have V66 : Arv Z h66 b63 k63 .int (5 : Int32) [(.int (p2 &&& (3 : Int32))), (.int (((p2.toUInt32 >>> ((2 : Int32) &&& 31).toUInt32).toInt32) &&& (3 : Int32))), (.int (((p2.toUInt32 >>> ((4 : Int32) &&& 31).toUInt32).toInt32) &&& (3 : Int32))), (.int (0 : Int32)), (.int (0 : Int32))] (.int (0 : Int32)) := Arv.set Ar66 q66 S66 M66 H66 G66 rfl W66 2 rfl (Nat.le_of_ble_eq_true rfl)
  have Kh66 : Keep h0 h66 [] := Kh65.wr W66 (Or.inr sz_b63)
  have N66 := Fr.snoc X66 N65 g_b63
  obtain ⟨cl67, Ar67, q67, S67, M67, H67, G67⟩ := id (V66)
  have hin67 : ¬ ((3 : Int32) < 0 ∨ cl67.slots.size ≤ ((3 : Int32)).toNatClampNeg) := inb_of S67 ⟨by decide, by decide⟩
  obtain ⟨T67, h67, X67, e67, W67, st67⟩ := stI X66 hx hZ e66 Ar67 (j := (3 : Int32)) hin67 (g := (mkF m 156 #[.val (.long q1), .second, .val (.int p2), .val (.int p3), .val (.int p4), .val (.ref b24), .val (.ref b26), .val (.ref b28), .val (.ref b30), .val (.ref b32), .unset, .unset, .unset, .unset, .unset, .unset, .unset, .unset, .unset, .unset] [(.int (((p2.toUInt32 >>> ((6 : Int32) &&& 31).toUInt32).toInt32) &&& (3 : Int32))), (.int (3 : Int32)), (.ref b63), (.ref b63)])) rfl rfl (hb hby at_156)
  have V67 : Arv Z h67 b63 k63 .int (5 : Int32) [(.int (p2 &&& (3 : Int32))), (.int (((p2.toUInt32 >>> ((2 : Int32) &&& 31).toUInt32).toInt32) &&& (3 : Int32))), (.int (((p2.toUInt32 >>> ((4 : Int32) &&& 31).toUInt32).toInt32) &&& (3 : Int32))), (.int (((p2.toUInt32 >>> ((6 : Int32) &&& 31).toUInt32).toInt32) &&& (3 : Int32))), (.int (0 : Int32))] (.int (0 : Int32)) := Arv.set Ar67 q67 S67 M67 H67 G67 rfl W67 3 rfl (Nat.le_of_ble_eq_true rfl)
  have Kh67 : Keep h0 h67 [] := Kh66.wr W67 (Or.inr sz_b63)
  have N67 := Fr.snoc X67 N66 g_b63
  obtain ⟨cl68, Ar68, q68, S68, M68, H68, G68⟩ := id (V67)
  have hin68 : ¬ ((4 : Int32) < 0 ∨ cl68.slots.size ≤ ((4 : Int32)).toNatClampNeg) := inb_of S68 ⟨by decide, by decide⟩
  obtain ⟨T68, h68, X68, e68, W68, st68⟩ := stI X67 hx hZ e67 Ar68 (j := (4 : Int32)) hin68 (g := (mkF m 165 #[.val (.long q1), .second, .val (.int p2), .val (.int p3), .val (.int p4), .val (.ref b24), .val (.ref b26), .val (.ref b28), .val (.ref b30), .val (.ref b32), .unset, .unset, .unset, .unset, .unset, .unset, .unset, .unset, .unset, .unset] [(.int (((p2.toUInt32 >>> ((8 : Int32) &&& 31).toUInt32).toInt32) &&& (3 : Int32))), (.int (4 : Int32)), (.ref b63), (.ref b63)])) rfl rfl (hb hby at_165)
  have V68 : Arv Z h68 b63 k63 .int (5 : Int32) [(.int (p2 &&& (3 : Int32))), (.int (((p2.toUInt32 >>> ((2 : Int32) &&& 31).toUInt32).toInt32) &&& (3 : Int32))), (.int (((p2.toUInt32 >>> ((4 : Int32) &&& 31).toUInt32).toInt32) &&& (3 : Int32))), (.int (((p2.toUInt32 >>> ((6 : Int32) &&& 31).toUInt32).toInt32) &&& (3 : Int32))), (.int (((p2.toUInt32 >>> ((8 : Int32) &&& 31).toUInt32).toInt32) &&& (3 : Int32)))] (.int (0 : Int32)) := Arv.set Ar68 q68 S68 M68 H68 G68 rfl W68 4 rfl (Nat.le_of_ble_eq_true rfl)
  have Kh68 : Keep h0 h68 [] := Kh67.wr W68 (Or.inr sz_b63)
  have N68 := Fr.snoc X68 N67 g_b63
  obtain ⟨T69, h69, k69, X69, e69, E69, A69, st69⟩ := newP X68 hx hZ (hw _ (List.mem_of_getElem? (i := 32) rfl)) e68 (g := (mkF m 169 #[.val (.long q1), .second, .val (.int p2), .val (.int p3), .val (.int p4), .val (.ref b24), .val (.ref b26), .val (.ref b28), .val (.ref b30), .val (.ref b32), .val (.ref b63), .unset, .unset, .unset, .unset, .unset, .unset, .unset, .unset, .unset] [(.int (5 : Int32))])) rfl (hb hby at_169) rfl (by decide) (cap := 5) (by decide) (by decide) (by decide) (by decide)
  obtain ⟨b69, g69⟩ : ∃ z, z = h68.size := ⟨_, rfl⟩
  rw [← g69] at A69 st69
  have g_b69 : n0 ≤ b69 := Nat.le_trans (Nat.le_trans Z0 Kh68.1) (Nat.le_of_eq g69.symm)
  have sz_b69 : h0.size ≤ b69 := Nat.le_trans Kh68.1 (Nat.le_of_eq g69.symm)
  have ne_b24_b69 : b24 ≠ b69 := Nat.ne_of_lt (Nat.lt_of_lt_of_le (((((((((((((((((f36.keep K38 (ninS ne_b24_b34 nin0)).other W39 ne_b24_b32).ext E41).keep K45 (ninS ne_b24_b41 nin0)).other W46 ne_b24_b32).ext E48).keep K52 (ninS ne_b24_b48 nin0)).other W53 ne_b24_b32).ext E55).keep K59 (ninS ne_b24_b55 nin0)).other W61 ne_b24_b32).ext E63).other W64 ne_b24_b63).other W65 ne_b24_b63).other W66 ne_b24_b63).other W67 ne_b24_b63).other W68 ne_b24_b63).lt (Nat.le_of_eq g69.symm))
  have ne_b26_b69 : b26 ≠ b69 := Nat.ne_of_lt (Nat.lt_of_lt_of_le ((((((((((((((f43.keep K45 (ninS ne_b26_b41 nin0)).other W46 ne_b26_b32).ext E48).keep K52 (ninS ne_b26_b48 nin0)).other W53 ne_b26_b32).ext E55).keep K59 (ninS ne_b26_b55 nin0)).other W61 ne_b26_b32).ext E63).other W64 ne_b26_b63).other W65 ne_b26_b63).other W66 ne_b26_b63).other W67 ne_b26_b63).other W68 ne_b26_b63).lt (Nat.le_of_eq g69.symm))
  have ne_b28_b69 : b28 ≠ b69 := Nat.ne_of_lt (Nat.lt_of_lt_of_le (((((((((((f50.keep K52 (ninS ne_b28_b48 nin0)).other W53 ne_b28_b32).ext E55).keep K59 (ninS ne_b28_b55 nin0)).other W61 ne_b28_b32).ext E63).other W64 ne_b28_b63).other W65 ne_b28_b63).other W66 ne_b28_b63).other W67 ne_b28_b63).other W68 ne_b28_b63).lt (Nat.le_of_eq g69.symm))
  have ne_b30_b69 : b30 ≠ b69 := Nat.ne_of_lt (Nat.lt_of_lt_of_le ((((((((f57.keep K59 (ninS ne_b30_b55 nin0)).other W61 ne_b30_b32).ext E63).other W64 ne_b30_b63).other W65 ne_b30_b63).other W66 ne_b30_b63).other W67 ne_b30_b63).other W68 ne_b30_b63).lt (Nat.le_of_eq g69.symm))
  have ne_b32_b69 : b32 ≠ b69 := Nat.ne_of_lt (Nat.lt_of_lt_of_le ((((((V61.ext E63).other W64 ne_b32_b63).other W65 ne_b32_b63).other W66 ne_b32_b63).other W67 ne_b32_b63).other W68 ne_b32_b63).lt (Nat.le_of_eq g69.symm))
  have ne_b34_b69 : b34 ≠ b69 := Nat.ne_of_lt (Nat.lt_of_lt_of_le ((((((((((((((((Ee38.wr W39).ext E41).keep K45).wr W46).ext E48).keep K52).wr W53).ext E55).keep K59).wr W61).ext E63).wr W64).wr W65).wr W66).wr W67).wr W68).lt (Nat.le_of_eq g69.symm))
  have ne_t38_b69 : t38 ≠ b69 := Nat.ne_of_lt (Nat.lt_of_lt_of_le ((((((((((((((((Va38.other W39 (Ne.symm ne_b32_t38)).ext E41).keep K45 (ninS ne_t38_b41 nin0)).other W46 (Ne.symm ne_b32_t38)).ext E48).keep K52 (ninS ne_t38_b48 nin0)).other W53 (Ne.symm ne_b32_t38)).ext E55).keep K59 (ninS ne_t38_b55 nin0)).other W61 (Ne.symm ne_b32_t38)).ext E63).other W64 ne_t38_b63).other W65 ne_t38_b63).other W66 ne_t38_b63).other W67 ne_t38_b63).other W68 ne_t38_b63).lt (Nat.le_of_eq g69.symm))
  have ne_b41_b69 : b41 ≠ b69 := Nat.ne_of_lt (Nat.lt_of_lt_of_le (((((((((((((Ee45.wr W46).ext E48).keep K52).wr W53).ext E55).keep K59).wr W61).ext E63).wr W64).wr W65).wr W66).wr W67).wr W68).lt (Nat.le_of_eq g69.symm))
  have ne_t45_b69 : t45 ≠ b69 := Nat.ne_of_lt (Nat.lt_of_lt_of_le (((((((((((((Va45.other W46 (Ne.symm ne_b32_t45)).ext E48).keep K52 (ninS ne_t45_b48 nin0)).other W53 (Ne.symm ne_b32_t45)).ext E55).keep K59 (ninS ne_t45_b55 nin0)).other W61 (Ne.symm ne_b32_t45)).ext E63).other W64 ne_t45_b63).other W65 ne_t45_b63).other W66 ne_t45_b63).other W67 ne_t45_b63).other W68 ne_t45_b63).lt (Nat.le_of_eq g69.symm))
  have ne_b48_b69 : b48 ≠ b69 := Nat.ne_of_lt (Nat.lt_of_lt_of_le ((((((((((Ee52.wr W53).ext E55).keep K59).wr W61).ext E63).wr W64).wr W65).wr W66).wr W67).wr W68).lt (Nat.le_of_eq g69.symm))
  have ne_t52_b69 : t52 ≠ b69 := Nat.ne_of_lt (Nat.lt_of_lt_of_le ((((((((((Va52.other W53 (Ne.symm ne_b32_t52)).ext E55).keep K59 (ninS ne_t52_b55 nin0)).other W61 (Ne.symm ne_b32_t52)).ext E63).other W64 ne_t52_b63).other W65 ne_t52_b63).other W66 ne_t52_b63).other W67 ne_t52_b63).other W68 ne_t52_b63).lt (Nat.le_of_eq g69.symm))
  have ne_b55_b69 : b55 ≠ b69 := Nat.ne_of_lt (Nat.lt_of_lt_of_le (((((((Ee59.wr W61).ext E63).wr W64).wr W65).wr W66).wr W67).wr W68).lt (Nat.le_of_eq g69.symm))
  have ne_t59_b69 : t59 ≠ b69 := Nat.ne_of_lt (Nat.lt_of_lt_of_le (((((((Va59.other W61 (Ne.symm ne_b32_t59)).ext E63).other W64 ne_t59_b63).other W65 ne_t59_b63).other W66 ne_t59_b63).other W67 ne_t59_b63).other W68 ne_t59_b63).lt (Nat.le_of_eq g69.symm))
  have ne_b63_b69 : b63 ≠ b69 := Nat.ne_of_lt (Nat.lt_of_lt_of_le V68.lt (Nat.le_of_eq g69.symm))
  have Kh69 : Keep h0 h69 [] := Kh68.ext E69
  have V_b69 : Arv Z h69 b69 k69 .int (5 : Int32) [(.int (0 : Int32)), (.int (0 : Int32)), (.int (0 : Int32)), (.int (0 : Int32)), (.int (0 : Int32))] (.int (0 : Int32)) := (Arv.new A69 (by decide)).pad (pad_rep [] (.int (0 : Int32)) 5)
  obtain ⟨cl70, Ar70, q70, S70, M70, H70, G70⟩ := id (V_b69)
  have hin70 : ¬ ((0 : Int32) < 0 ∨ cl70.slots.size ≤ ((0 : Int32)).toNatClampNeg) := inb_of S70 ⟨by decide, by decide⟩
  obtain ⟨T70, h70, X70, e70, W70, st70⟩ := stI X69 hx hZ e69 Ar70 (j := (0 : Int32)) hin70 (g := (mkF m 174 #[.val (.long q1), .second, .val (.int p2), .val (.int p3), .val (.int p4), .val (.ref b24), .val (.ref b26), .val (.ref b28), .val (.ref b30), .val (.ref b32), .val (.ref b63), .unset, .unset, .unset, .unset, .unset, .unset, .unset, .unset, .unset] [(.int (1 : Int32)), (.int (0 : Int32)), (.ref b69), (.ref b69)])) rfl rfl (hb hby at_174)
  have V70 : Arv Z h70 b69 k69 .int (5 : Int32) [(.int (1 : Int32)), (.int (0 : Int32)), (.int (0 : Int32)), (.int (0 : Int32)), (.int (0 : Int32))] (.int (0 : Int32)) := Arv.set Ar70 q70 S70 M70 H70 G70 rfl W70 0 rfl (Nat.le_of_ble_eq_true rfl)
  have Kh70 : Keep h0 h70 [] := Kh69.wr W70 (Or.inr sz_b69)
  have N70 := Fr.snoc X70 N68 g_b69
  obtain ⟨cl71, Ar71, q71, S71, M71, H71, G71⟩ := id (V70)
  have hin71 : ¬ ((1 : Int32) < 0 ∨ cl71.slots.size ≤ ((1 : Int32)).toNatClampNeg) := inb_of S71 ⟨by decide, by decide⟩
  obtain ⟨T71, h71, X71, e71, W71, st71⟩ := stI X70 hx hZ e70 Ar71 (j := (1 : Int32)) hin71 (g := (mkF m 178 #[.val (.long q1), .second, .val (.int p2), .val (.int p3), .val (.int p4), .val (.ref b24), .val (.ref b26), .val (.ref b28), .val (.ref b30), .val (.ref b32), .val (.ref b63), .unset, .unset, .unset, .unset, .unset, .unset, .unset, .unset, .unset] [(.int (1 : Int32)), (.int (1 : Int32)), (.ref b69), (.ref b69)])) rfl rfl (hb hby at_178)
  have V71 : Arv Z h71 b69 k69 .int (5 : Int32) [(.int (1 : Int32)), (.int (1 : Int32)), (.int (0 : Int32)), (.int (0 : Int32)), (.int (0 : Int32))] (.int (0 : Int32)) := Arv.set Ar71 q71 S71 M71 H71 G71 rfl W71 1 rfl (Nat.le_of_ble_eq_true rfl)
  have Kh71 : Keep h0 h71 [] := Kh70.wr W71 (Or.inr sz_b69)
  have N71 := Fr.snoc X71 N70 g_b69
  obtain ⟨cl72, Ar72, q72, S72, M72, H72, G72⟩ := id (V71)
  have hin72 : ¬ ((2 : Int32) < 0 ∨ cl72.slots.size ≤ ((2 : Int32)).toNatClampNeg) := inb_of S72 ⟨by decide, by decide⟩
  obtain ⟨T72, h72, X72, e72, W72, st72⟩ := stI X71 hx hZ e71 Ar72 (j := (2 : Int32)) hin72 (g := (mkF m 182 #[.val (.long q1), .second, .val (.int p2), .val (.int p3), .val (.int p4), .val (.ref b24), .val (.ref b26), .val (.ref b28), .val (.ref b30), .val (.ref b32), .val (.ref b63), .unset, .unset, .unset, .unset, .unset, .unset, .unset, .unset, .unset] [(.int (1 : Int32)), (.int (2 : Int32)), (.ref b69), (.ref b69)])) rfl rfl (hb hby at_182)
  have V72 : Arv Z h72 b69 k69 .int (5 : Int32) [(.int (1 : Int32)), (.int (1 : Int32)), (.int (1 : Int32)), (.int (0 : Int32)), (.int (0 : Int32))] (.int (0 : Int32)) := Arv.set Ar72 q72 S72 M72 H72 G72 rfl W72 2 rfl (Nat.le_of_ble_eq_true rfl)
  have Kh72 : Keep h0 h72 [] := Kh71.wr W72 (Or.inr sz_b69)
  have N72 := Fr.snoc X72 N71 g_b69
  obtain ⟨cl73, Ar73, q73, S73, M73, H73, G73⟩ := id (V72)
  have hin73 : ¬ ((3 : Int32) < 0 ∨ cl73.slots.size ≤ ((3 : Int32)).toNatClampNeg) := inb_of S73 ⟨by decide, by decide⟩
  obtain ⟨T73, h73, X73, e73, W73, st73⟩ := stI X72 hx hZ e72 Ar73 (j := (3 : Int32)) hin73 (g := (mkF m 186 #[.val (.long q1), .second, .val (.int p2), .val (.int p3), .val (.int p4), .val (.ref b24), .val (.ref b26), .val (.ref b28), .val (.ref b30), .val (.ref b32), .val (.ref b63), .unset, .unset, .unset, .unset, .unset, .unset, .unset, .unset, .unset] [(.int (1 : Int32)), (.int (3 : Int32)), (.ref b69), (.ref b69)])) rfl rfl (hb hby at_186)
  have V73 : Arv Z h73 b69 k69 .int (5 : Int32) [(.int (1 : Int32)), (.int (1 : Int32)), (.int (1 : Int32)), (.int (1 : Int32)), (.int (0 : Int32))] (.int (0 : Int32)) := Arv.set Ar73 q73 S73 M73 H73 G73 rfl W73 3 rfl (Nat.le_of_ble_eq_true rfl)
  have Kh73 : Keep h0 h73 [] := Kh72.wr W73 (Or.inr sz_b69)
  have N73 := Fr.snoc X73 N72 g_b69
  obtain ⟨cl74, Ar74, q74, S74, M74, H74, G74⟩ := id (V73)
  have hin74 : ¬ ((4 : Int32) < 0 ∨ cl74.slots.size ≤ ((4 : Int32)).toNatClampNeg) := inb_of S74 ⟨by decide, by decide⟩
  obtain ⟨T74, h74, X74, e74, W74, st74⟩ := stI X73 hx hZ e73 Ar74 (j := (4 : Int32)) hin74 (g := (mkF m 190 #[.val (.long q1), .second, .val (.int p2), .val (.int p3), .val (.int p4), .val (.ref b24), .val (.ref b26), .val (.ref b28), .val (.ref b30), .val (.ref b32), .val (.ref b63), .unset, .unset, .unset, .unset, .unset, .unset, .unset, .unset, .unset] [(.int (1 : Int32)), (.int (4 : Int32)), (.ref b69), (.ref b69)])) rfl rfl (hb hby at_190)
  have V74 : Arv Z h74 b69 k69 .int (5 : Int32) [(.int (1 : Int32)), (.int (1 : Int32)), (.int (1 : Int32)), (.int (1 : Int32)), (.int (1 : Int32))] (.int (0 : Int32)) := Arv.set Ar74 q74 S74 M74 H74 G74 rfl W74 4 rfl (Nat.le_of_ble_eq_true rfl)
  have Kh74 : Keep h0 h74 [] := Kh73.wr W74 (Or.inr sz_b69)
  have N74 := Fr.snoc X74 N73 g_b69
  have cut75 : ∀ t, Steps p.tables e below (T74.setTop (mkF m 199 #[.val (.long q1), .second, .val (.int p2), .val (.int p3), .val (.int p4), .val (.ref b24), .val (.ref b26), .val (.ref b28), .val (.ref b30), .val (.ref b32), .val (.ref b63), .val (.ref b69), .unset, .unset, .unset, .unset, .unset, .unset, .unset, .unset] [(.int ((p3 &&& (2147483647 : Int32)) % (3 : Int32)))])) t → Steps p.tables e below (T59.setTop (mkF m 120 #[.val (.long q1), .second, .val (.int p2), .val (.int p3), .val (.int p4), .val (.ref b24), .val (.ref b26), .val (.ref b28), .val (.ref b30), .unset, .unset, .unset, .unset, .unset, .unset, .unset, .unset, .unset, .unset, .unset] [(.ref b55), (.int (3 : Int32)), (.ref b32), (.ref b32)])) t := by
    intro t kt
    show Steps p.tables e below (T59.setTop (mkF m 120 #[.val (.long q1), .second, .val (.int p2), .val (.int p3), .val (.int p4), .val (.ref b24), .val (.ref b26), .val (.ref b28), .val (.ref b30), .unset, .unset, .unset, .unset, .unset, .unset, .unset, .unset, .unset, .unset, .unset] [(.ref b55), (.int (3 : Int32)), (.ref b32), (.ref b32)])) _
    refine st61 _ ?_
    show Steps p.tables e below (T61.setTop (mkF m 121 #[.val (.long q1), .second, .val (.int p2), .val (.int p3), .val (.int p4), .val (.ref b24), .val (.ref b26), .val (.ref b28), .val (.ref b30), .unset, .unset, .unset, .unset, .unset, .unset, .unset, .unset, .unset, .unset, .unset] [(.ref b32)])) _
    refine XS.astore X61.here hx rfl (hb hby at_121) rfl rfl (l' := #[.val (.long q1), .second, .val (.int p2), .val (.int p3), .val (.int p4), .val (.ref b24), .val (.ref b26), .val (.ref b28), .val (.ref b30), .val (.ref b32), .unset, .unset, .unset, .unset, .unset, .unset, .unset, .unset, .unset, .unset]) rfl ?_
    show Steps p.tables e below (T61.setTop (mkF m 123 #[.val (.long q1), .second, .val (.int p2), .val (.int p3), .val (.int p4), .val (.ref b24), .val (.ref b26), .val (.ref b28), .val (.ref b30), .val (.ref b32), .unset, .unset, .unset, .unset, .unset, .unset, .unset, .unset, .unset, .unset] [])) _
    refine XS.iconst X61.here hx rfl (hb hby at_123) ?_
    show Steps p.tables e below (T61.setTop (mkF m 124 #[.val (.long q1), .second, .val (.int p2), .val (.int p3), .val (.int p4), .val (.ref b24), .val (.ref b26), .val (.ref b28), .val (.ref b30), .val (.ref b32), .unset, .unset, .unset, .unset, .unset, .unset, .unset, .unset, .unset, .unset] [(.int (5 : Int32))])) _
    refine st63 _ ?_
    show Steps p.tables e below (T63.setTop (mkF m 126 #[.val (.long q1), .second, .val (.int p2), .val (.int p3), .val (.int p4), .val (.ref b24), .val (.ref b26), .val (.ref b28), .val (.ref b30), .val (.ref b32), .unset, .unset, .unset, .unset, .unset, .unset, .unset, .unset, .unset, .unset] [(.ref b63)])) _
    refine XS.dup X63.here hx rfl (hb hby at_126) rfl rfl ?_
    show Steps p.tables e below (T63.setTop (mkF m 127 #[.val (.long q1), .second, .val (.int p2), .val (.int p3), .val (.int p4), .val (.ref b24), .val (.ref b26), .val (.ref b28), .val (.ref b30), .val (.ref b32), .unset, .unset, .unset, .unset, .unset, .unset, .unset, .unset, .unset, .unset] [(.ref b63), (.ref b63)])) _
    refine XS.iconst X63.here hx rfl (hb hby at_127) ?_
    show Steps p.tables e below (T63.setTop (mkF m 128 #[.val (.long q1), .second, .val (.int p2), .val (.int p3), .val (.int p4), .val (.ref b24), .val (.ref b26), .val (.ref b28), .val (.ref b30), .val (.ref b32), .unset, .unset, .unset, .unset, .unset, .unset, .unset, .unset, .unset, .unset] [(.int (0 : Int32)), (.ref b63), (.ref b63)])) _
    refine XS.iloadN X63.here hx rfl (hb hby at_128) rfl ?_
    show Steps p.tables e below (T63.setTop (mkF m 129 #[.val (.long q1), .second, .val (.int p2), .val (.int p3), .val (.int p4), .val (.ref b24), .val (.ref b26), .val (.ref b28), .val (.ref b30), .val (.ref b32), .unset, .unset, .unset, .unset, .unset, .unset, .unset, .unset, .unset, .unset] [(.int p2), (.int (0 : Int32)), (.ref b63), (.ref b63)])) _
    refine XS.iconst X63.here hx rfl (hb hby at_129) ?_
    show Steps p.tables e below (T63.setTop (mkF m 130 #[.val (.long q1), .second, .val (.int p2), .val (.int p3), .val (.int p4), .val (.ref b24), .val (.ref b26), .val (.ref b28), .val (.ref b30), .val (.ref b32), .unset, .unset, .unset, .unset, .unset, .unset, .unset, .unset, .unset, .unset] [(.int (3 : Int32)), (.int p2), (.int (0 : Int32)), (.ref b63), (.ref b63)])) _
    refine XS.iand X63.here hx rfl (hb hby at_130) rfl ?_
    show Steps p.tables e below (T63.setTop (mkF m 131 #[.val (.long q1), .second, .val (.int p2), .val (.int p3), .val (.int p4), .val (.ref b24), .val (.ref b26), .val (.ref b28), .val (.ref b30), .val (.ref b32), .unset, .unset, .unset, .unset, .unset, .unset, .unset, .unset, .unset, .unset] [(.int (p2 &&& (3 : Int32))), (.int (0 : Int32)), (.ref b63), (.ref b63)])) _
    refine st64 _ ?_
    show Steps p.tables e below (T64.setTop (mkF m 132 #[.val (.long q1), .second, .val (.int p2), .val (.int p3), .val (.int p4), .val (.ref b24), .val (.ref b26), .val (.ref b28), .val (.ref b30), .val (.ref b32), .unset, .unset, .unset, .unset, .unset, .unset, .unset, .unset, .unset, .unset] [(.ref b63)])) _
    refine XS.dup X64.here hx rfl (hb hby at_132) rfl rfl ?_
    show Steps p.tables e below (T64.setTop (mkF m 133 #[.val (.long q1), .second, .val (.int p2), .val (.int p3), .val (.int p4), .val (.ref b24), .val (.ref b26), .val (.ref b28), .val (.ref b30), .val (.ref b32), .unset, .unset, .unset, .unset, .unset, .unset, .unset, .unset, .unset, .unset] [(.ref b63), (.ref b63)])) _
    refine XS.iconst X64.here hx rfl (hb hby at_133) ?_
    show Steps p.tables e below (T64.setTop (mkF m 134 #[.val (.long q1), .second, .val (.int p2), .val (.int p3), .val (.int p4), .val (.ref b24), .val (.ref b26), .val (.ref b28), .val (.ref b30), .val (.ref b32), .unset, .unset, .unset, .unset, .unset, .unset, .unset, .unset, .unset, .unset] [(.int (1 : Int32)), (.ref b63), (.ref b63)])) _
    refine XS.iloadN X64.here hx rfl (hb hby at_134) rfl ?_
    show Steps p.tables e below (T64.setTop (mkF m 135 #[.val (.long q1), .second, .val (.int p2), .val (.int p3), .val (.int p4), .val (.ref b24), .val (.ref b26), .val (.ref b28), .val (.ref b30), .val (.ref b32), .unset, .unset, .unset, .unset, .unset, .unset, .unset, .unset, .unset, .unset] [(.int p2), (.int (1 : Int32)), (.ref b63), (.ref b63)])) _
    refine XS.iconst X64.here hx rfl (hb hby at_135) ?_
    show Steps p.tables e below (T64.setTop (mkF m 136 #[.val (.long q1), .second, .val (.int p2), .val (.int p3), .val (.int p4), .val (.ref b24), .val (.ref b26), .val (.ref b28), .val (.ref b30), .val (.ref b32), .unset, .unset, .unset, .unset, .unset, .unset, .unset, .unset, .unset, .unset] [(.int (2 : Int32)), (.int p2), (.int (1 : Int32)), (.ref b63), (.ref b63)])) _
    refine XS.iushr X64.here hx rfl (hb hby at_136) rfl ?_
    show Steps p.tables e below (T64.setTop (mkF m 137 #[.val (.long q1), .second, .val (.int p2), .val (.int p3), .val (.int p4), .val (.ref b24), .val (.ref b26), .val (.ref b28), .val (.ref b30), .val (.ref b32), .unset, .unset, .unset, .unset, .unset, .unset, .unset, .unset, .unset, .unset] [(.int ((p2.toUInt32 >>> ((2 : Int32) &&& 31).toUInt32).toInt32)), (.int (1 : Int32)), (.ref b63), (.ref b63)])) _
    refine XS.iconst X64.here hx rfl (hb hby at_137) ?_
    show Steps p.tables e below (T64.setTop (mkF m 138 #[.val (.long q1), .second, .val (.int p2), .val (.int p3), .val (.int p4), .val (.ref b24), .val (.ref b26), .val (.ref b28), .val (.ref b30), .val (.ref b32), .unset, .unset, .unset, .unset, .unset, .unset, .unset, .unset, .unset, .unset] [(.int (3 : Int32)), (.int ((p2.toUInt32 >>> ((2 : Int32) &&& 31).toUInt32).toInt32)), (.int (1 : Int32)), (.ref b63), (.ref b63)])) _
    refine XS.iand X64.here hx rfl (hb hby at_138) rfl ?_
    show Steps p.tables e below (T64.setTop (mkF m 139 #[.val (.long q1), .second, .val (.int p2), .val (.int p3), .val (.int p4), .val (.ref b24), .val (.ref b26), .val (.ref b28), .val (.ref b30), .val (.ref b32), .unset, .unset, .unset, .unset, .unset, .unset, .unset, .unset, .unset, .unset] [(.int (((p2.toUInt32 >>> ((2 : Int32) &&& 31).toUInt32).toInt32) &&& (3 : Int32))), (.int (1 : Int32)), (.ref b63), (.ref b63)])) _
    refine st65 _ ?_
    show Steps p.tables e below (T65.setTop (mkF m 140 #[.val (.long q1), .second, .val (.int p2), .val (.int p3), .val (.int p4), .val (.ref b24), .val (.ref b26), .val (.ref b28), .val (.ref b30), .val (.ref b32), .unset, .unset, .unset, .unset, .unset, .unset, .unset, .unset, .unset, .unset] [(.ref b63)])) _
    refine XS.dup X65.here hx rfl (hb hby at_140) rfl rfl ?_
    show Steps p.tables e below (T65.setTop (mkF m 141 #[.val (.long q1), .second, .val (.int p2), .val (.int p3), .val (.int p4), .val (.ref b24), .val (.ref b26), .val (.ref b28), .val (.ref b30), .val (.ref b32), .unset, .unset, .unset, .unset, .unset, .unset, .unset, .unset, .unset, .unset] [(.ref b63), (.ref b63)])) _
    refine XS.iconst X65.here hx rfl (hb hby at_141) ?_
    show Steps p.tables e below (T65.setTop (mkF m 142 #[.val (.long q1), .second, .val (.int p2), .val (.int p3), .val (.int p4), .val (.ref b24), .val (.ref b26), .val (.ref b28), .val (.ref b30), .val (.ref b32), .unset, .unset, .unset, .unset, .unset, .unset, .unset, .unset, .unset, .unset] [(.int (2 : Int32)), (.ref b63), (.ref b63)])) _
    refine XS.iloadN X65.here hx rfl (hb hby at_142) rfl ?_
    show Steps p.tables e below (T65.setTop (mkF m 143 #[.val (.long q1), .second, .val (.int p2), .val (.int p3), .val (.int p4), .val (.ref b24), .val (.ref b26), .val (.ref b28), .val (.ref b30), .val (.ref b32), .unset, .unset, .unset, .unset, .unset, .unset, .unset, .unset, .unset, .unset] [(.int p2), (.int (2 : Int32)), (.ref b63), (.ref b63)])) _
    refine XS.iconst X65.here hx rfl (hb hby at_143) ?_
    show Steps p.tables e below (T65.setTop (mkF m 144 #[.val (.long q1), .second, .val (.int p2), .val (.int p3), .val (.int p4), .val (.ref b24), .val (.ref b26), .val (.ref b28), .val (.ref b30), .val (.ref b32), .unset, .unset, .unset, .unset, .unset, .unset, .unset, .unset, .unset, .unset] [(.int (4 : Int32)), (.int p2), (.int (2 : Int32)), (.ref b63), (.ref b63)])) _
    refine XS.iushr X65.here hx rfl (hb hby at_144) rfl ?_
    show Steps p.tables e below (T65.setTop (mkF m 145 #[.val (.long q1), .second, .val (.int p2), .val (.int p3), .val (.int p4), .val (.ref b24), .val (.ref b26), .val (.ref b28), .val (.ref b30), .val (.ref b32), .unset, .unset, .unset, .unset, .unset, .unset, .unset, .unset, .unset, .unset] [(.int ((p2.toUInt32 >>> ((4 : Int32) &&& 31).toUInt32).toInt32)), (.int (2 : Int32)), (.ref b63), (.ref b63)])) _
    refine XS.iconst X65.here hx rfl (hb hby at_145) ?_
    show Steps p.tables e below (T65.setTop (mkF m 146 #[.val (.long q1), .second, .val (.int p2), .val (.int p3), .val (.int p4), .val (.ref b24), .val (.ref b26), .val (.ref b28), .val (.ref b30), .val (.ref b32), .unset, .unset, .unset, .unset, .unset, .unset, .unset, .unset, .unset, .unset] [(.int (3 : Int32)), (.int ((p2.toUInt32 >>> ((4 : Int32) &&& 31).toUInt32).toInt32)), (.int (2 : Int32)), (.ref b63), (.ref b63)])) _
    refine XS.iand X65.here hx rfl (hb hby at_146) rfl ?_
    show Steps p.tables e below (T65.setTop (mkF m 147 #[.val (.long q1), .second, .val (.int p2), .val (.int p3), .val (.int p4), .val (.ref b24), .val (.ref b26), .val (.ref b28), .val (.ref b30), .val (.ref b32), .unset, .unset, .unset, .unset, .unset, .unset, .unset, .unset, .unset, .unset] [(.int (((p2.toUInt32 >>> ((4 : Int32) &&& 31).toUInt32).toInt32) &&& (3 : Int32))), (.int (2 : Int32)), (.ref b63), (.ref b63)])) _
    refine st66 _ ?_
    show Steps p.tables e below (T66.setTop (mkF m 148 #[.val (.long q1), .second, .val (.int p2), .val (.int p3), .val (.int p4), .val (.ref b24), .val (.ref b26), .val (.ref b28), .val (.ref b30), .val (.ref b32), .unset, .unset, .unset, .unset, .unset, .unset, .unset, .unset, .unset, .unset] [(.ref b63)])) _
    refine XS.dup X66.here hx rfl (hb hby at_148) rfl rfl ?_
    show Steps p.tables e below (T66.setTop (mkF m 149 #[.val (.long q1), .second, .val (.int p2), .val (.int p3), .val (.int p4), .val (.ref b24), .val (.ref b26), .val (.ref b28), .val (.ref b30), .val (.ref b32), .unset, .unset, .unset, .unset, .unset, .unset, .unset, .unset, .unset, .unset] [(.ref b63), (.ref b63)])) _
    refine XS.iconst X66.here hx rfl (hb hby at_149) ?_
    show Steps p.tables e below (T66.setTop (mkF m 150 #[.val (.long q1), .second, .val (.int p2), .val (.int p3), .val (.int p4), .val (.ref b24), .val (.ref b26), .val (.ref b28), .val (.ref b30), .val (.ref b32), .unset, .unset, .unset, .unset, .unset, .unset, .unset, .unset, .unset, .unset] [(.int (3 : Int32)), (.ref b63), (.ref b63)])) _
    refine XS.iloadN X66.here hx rfl (hb hby at_150) rfl ?_
    show Steps p.tables e below (T66.setTop (mkF m 151 #[.val (.long q1), .second, .val (.int p2), .val (.int p3), .val (.int p4), .val (.ref b24), .val (.ref b26), .val (.ref b28), .val (.ref b30), .val (.ref b32), .unset, .unset, .unset, .unset, .unset, .unset, .unset, .unset, .unset, .unset] [(.int p2), (.int (3 : Int32)), (.ref b63), (.ref b63)])) _
    refine XS.bipush X66.here hx rfl (hb hby at_151) ?_
    show Steps p.tables e below (T66.setTop (mkF m 153 #[.val (.long q1), .second, .val (.int p2), .val (.int p3), .val (.int p4), .val (.ref b24), .val (.ref b26), .val (.ref b28), .val (.ref b30), .val (.ref b32), .unset, .unset, .unset, .unset, .unset, .unset, .unset, .unset, .unset, .unset] [(.int (6 : Int32)), (.int p2), (.int (3 : Int32)), (.ref b63), (.ref b63)])) _
    refine XS.iushr X66.here hx rfl (hb hby at_153) rfl ?_
    show Steps p.tables e below (T66.setTop (mkF m 154 #[.val (.long q1), .second, .val (.int p2), .val (.int p3), .val (.int p4), .val (.ref b24), .val (.ref b26), .val (.ref b28), .val (.ref b30), .val (.ref b32), .unset, .unset, .unset, .unset, .unset, .unset, .unset, .unset, .unset, .unset] [(.int ((p2.toUInt32 >>> ((6 : Int32) &&& 31).toUInt32).toInt32)), (.int (3 : Int32)), (.ref b63), (.ref b63)])) _
    refine XS.iconst X66.here hx rfl (hb hby at_154) ?_
    show Steps p.tables e below (T66.setTop (mkF m 155 #[.val (.long q1), .second, .val (.int p2), .val (.int p3), .val (.int p4), .val (.ref b24), .val (.ref b26), .val (.ref b28), .val (.ref b30), .val (.ref b32), .unset, .unset, .unset, .unset, .unset, .unset, .unset, .unset, .unset, .unset] [(.int (3 : Int32)), (.int ((p2.toUInt32 >>> ((6 : Int32) &&& 31).toUInt32).toInt32)), (.int (3 : Int32)), (.ref b63), (.ref b63)])) _
    refine XS.iand X66.here hx rfl (hb hby at_155) rfl ?_
    show Steps p.tables e below (T66.setTop (mkF m 156 #[.val (.long q1), .second, .val (.int p2), .val (.int p3), .val (.int p4), .val (.ref b24), .val (.ref b26), .val (.ref b28), .val (.ref b30), .val (.ref b32), .unset, .unset, .unset, .unset, .unset, .unset, .unset, .unset, .unset, .unset] [(.int (((p2.toUInt32 >>> ((6 : Int32) &&& 31).toUInt32).toInt32) &&& (3 : Int32))), (.int (3 : Int32)), (.ref b63), (.ref b63)])) _
    refine st67 _ ?_
    show Steps p.tables e below (T67.setTop (mkF m 157 #[.val (.long q1), .second, .val (.int p2), .val (.int p3), .val (.int p4), .val (.ref b24), .val (.ref b26), .val (.ref b28), .val (.ref b30), .val (.ref b32), .unset, .unset, .unset, .unset, .unset, .unset, .unset, .unset, .unset, .unset] [(.ref b63)])) _
    refine XS.dup X67.here hx rfl (hb hby at_157) rfl rfl ?_
    show Steps p.tables e below (T67.setTop (mkF m 158 #[.val (.long q1), .second, .val (.int p2), .val (.int p3), .val (.int p4), .val (.ref b24), .val (.ref b26), .val (.ref b28), .val (.ref b30), .val (.ref b32), .unset, .unset, .unset, .unset, .unset, .unset, .unset, .unset, .unset, .unset] [(.ref b63), (.ref b63)])) _
    refine XS.iconst X67.here hx rfl (hb hby at_158) ?_
    show Steps p.tables e below (T67.setTop (mkF m 159 #[.val (.long q1), .second, .val (.int p2), .val (.int p3), .val (.int p4), .val (.ref b24), .val (.ref b26), .val (.ref b28), .val (.ref b30), .val (.ref b32), .unset, .unset, .unset, .unset, .unset, .unset, .unset, .unset, .unset, .unset] [(.int (4 : Int32)), (.ref b63), (.ref b63)])) _
    refine XS.iloadN X67.here hx rfl (hb hby at_159) rfl ?_
    show Steps p.tables e below (T67.setTop (mkF m 160 #[.val (.long q1), .second, .val (.int p2), .val (.int p3), .val (.int p4), .val (.ref b24), .val (.ref b26), .val (.ref b28), .val (.ref b30), .val (.ref b32), .unset, .unset, .unset, .unset, .unset, .unset, .unset, .unset, .unset, .unset] [(.int p2), (.int (4 : Int32)), (.ref b63), (.ref b63)])) _
    refine XS.bipush X67.here hx rfl (hb hby at_160) ?_
    show Steps p.tables e below (T67.setTop (mkF m 162 #[.val (.long q1), .second, .val (.int p2), .val (.int p3), .val (.int p4), .val (.ref b24), .val (.ref b26), .val (.ref b28), .val (.ref b30), .val (.ref b32), .unset, .unset, .unset, .unset, .unset, .unset, .unset, .unset, .unset, .unset] [(.int (8 : Int32)), (.int p2), (.int (4 : Int32)), (.ref b63), (.ref b63)])) _
    refine XS.iushr X67.here hx rfl (hb hby at_162) rfl ?_
    show Steps p.tables e below (T67.setTop (mkF m 163 #[.val (.long q1), .second, .val (.int p2), .val (.int p3), .val (.int p4), .val (.ref b24), .val (.ref b26), .val (.ref b28), .val (.ref b30), .val (.ref b32), .unset, .unset, .unset, .unset, .unset, .unset, .unset, .unset, .unset, .unset] [(.int ((p2.toUInt32 >>> ((8 : Int32) &&& 31).toUInt32).toInt32)), (.int (4 : Int32)), (.ref b63), (.ref b63)])) _
    refine XS.iconst X67.here hx rfl (hb hby at_163) ?_
    show Steps p.tables e below (T67.setTop (mkF m 164 #[.val (.long q1), .second, .val (.int p2), .val (.int p3), .val (.int p4), .val (.ref b24), .val (.ref b26), .val (.ref b28), .val (.ref b30), .val (.ref b32), .unset, .unset, .unset, .unset, .unset, .unset, .unset, .unset, .unset, .unset] [(.int (3 : Int32)), (.int ((p2.toUInt32 >>> ((8 : Int32) &&& 31).toUInt32).toInt32)), (.int (4 : Int32)), (.ref b63), (.ref b63)])) _
    refine XS.iand X67.here hx rfl (hb hby at_164) rfl ?_
    show Steps p.tables e below (T67.setTop (mkF m 165 #[.val (.long q1), .second, .val (.int p2), .val (.int p3), .val (.int p4), .val (.ref b24), .val (.ref b26), .val (.ref b28), .val (.ref b30), .val (.ref b32), .unset, .unset, .unset, .unset, .unset, .unset, .unset, .unset, .unset, .unset] [(.int (((p2.toUInt32 >>> ((8 : Int32) &&& 31).toUInt32).toInt32) &&& (3 : Int32))), (.int (4 : Int32)), (.ref b63), (.ref b63)])) _
    refine st68 _ ?_
    show Steps p.tables e below (T68.setTop (mkF m 166 #[.val (.long q1), .second, .val (.int p2), .val (.int p3), .val (.int p4), .val (.ref b24), .val (.ref b26), .val (.ref b28), .val (.ref b30), .val (.ref b32), .unset, .unset, .unset, .unset, .unset, .unset, .unset, .unset, .unset, .unset] [(.ref b63)])) _
    refine XS.astore X68.here hx rfl (hb hby at_166) rfl rfl (l' := #[.val (.long q1), .second, .val (.int p2), .val (.int p3), .val (.int p4), .val (.ref b24), .val (.ref b26), .val (.ref b28), .val (.ref b30), .val (.ref b32), .val (.ref b63), .unset, .unset, .unset, .unset, .unset, .unset, .unset, .unset, .unset]) rfl ?_
    show Steps p.tables e below (T68.setTop (mkF m 168 #[.val (.long q1), .second, .val (.int p2), .val (.int p3), .val (.int p4), .val (.ref b24), .val (.ref b26), .val (.ref b28), .val (.ref b30), .val (.ref b32), .val (.ref b63), .unset, .unset, .unset, .unset, .unset, .unset, .unset, .unset, .unset] [])) _
    refine XS.iconst X68.here hx rfl (hb hby at_168) ?_
    show Steps p.tables e below (T68.setTop (mkF m 169 #[.val (.long q1), .second, .val (.int p2), .val (.int p3), .val (.int p4), .val (.ref b24), .val (.ref b26), .val (.ref b28), .val (.ref b30), .val (.ref b32), .val (.ref b63), .unset, .unset, .unset, .unset, .unset, .unset, .unset, .unset, .unset] [(.int (5 : Int32))])) _
    refine st69 _ ?_
    show Steps p.tables e below (T69.setTop (mkF m 171 #[.val (.long q1), .second, .val (.int p2), .val (.int p3), .val (.int p4), .val (.ref b24), .val (.ref b26), .val (.ref b28), .val (.ref b30), .val (.ref b32), .val (.ref b63), .unset, .unset, .unset, .unset, .unset, .unset, .unset, .unset, .unset] [(.ref b69)])) _
    refine XS.dup X69.here hx rfl (hb hby at_171) rfl rfl ?_
    show Steps p.tables e below (T69.setTop (mkF m 172 #[.val (.long q1), .second, .val (.int p2), .val (.int p3), .val (.int p4), .val (.ref b24), .val (.ref b26), .val (.ref b28), .val (.ref b30), .val (.ref b32), .val (.ref b63), .unset, .unset, .unset, .unset, .unset, .unset, .unset, .unset, .unset] [(.ref b69), (.ref b69)])) _
    refine XS.iconst X69.here hx rfl (hb hby at_172) ?_
    show Steps p.tables e below (T69.setTop (mkF m 173 #[.val (.long q1), .second, .val (.int p2), .val (.int p3), .val (.int p4), .val (.ref b24), .val (.ref b26), .val (.ref b28), .val (.ref b30), .val (.ref b32), .val (.ref b63), .unset, .unset, .unset, .unset, .unset, .unset, .unset, .unset, .unset] [(.int (0 : Int32)), (.ref b69), (.ref b69)])) _
    refine XS.iconst X69.here hx rfl (hb hby at_173) ?_
    show Steps p.tables e below (T69.setTop (mkF m 174 #[.val (.long q1), .second, .val (.int p2), .val (.int p3), .val (.int p4), .val (.ref b24), .val (.ref b26), .val (.ref b28), .val (.ref b30), .val (.ref b32), .val (.ref b63), .unset, .unset, .unset, .unset, .unset, .unset, .unset, .unset, .unset] [(.int (1 : Int32)), (.int (0 : Int32)), (.ref b69), (.ref b69)])) _
    refine st70 _ ?_
    show Steps p.tables e below (T70.setTop (mkF m 175 #[.val (.long q1), .second, .val (.int p2), .val (.int p3), .val (.int p4), .val (.ref b24), .val (.ref b26), .val (.ref b28), .val (.ref b30), .val (.ref b32), .val (.ref b63), .unset, .unset, .unset, .unset, .unset, .unset, .unset, .unset, .unset] [(.ref b69)])) _
    refine XS.dup X70.here hx rfl (hb hby at_175) rfl rfl ?_
    show Steps p.tables e below (T70.setTop (mkF m 176 #[.val (.long q1), .second, .val (.int p2), .val (.int p3), .val (.int p4), .val (.ref b24), .val (.ref b26), .val (.ref b28), .val (.ref b30), .val (.ref b32), .val (.ref b63), .unset, .unset, .unset, .unset, .unset, .unset, .unset, .unset, .unset] [(.ref b69), (.ref b69)])) _
    refine XS.iconst X70.here hx rfl (hb hby at_176) ?_
    show Steps p.tables e below (T70.setTop (mkF m 177 #[.val (.long q1), .second, .val (.int p2), .val (.int p3), .val (.int p4), .val (.ref b24), .val (.ref b26), .val (.ref b28), .val (.ref b30), .val (.ref b32), .val (.ref b63), .unset, .unset, .unset, .unset, .unset, .unset, .unset, .unset, .unset] [(.int (1 : Int32)), (.ref b69), (.ref b69)])) _
    refine XS.iconst X70.here hx rfl (hb hby at_177) ?_
    show Steps p.tables e below (T70.setTop (mkF m 178 #[.val (.long q1), .second, .val (.int p2), .val (.int p3), .val (.int p4), .val (.ref b24), .val (.ref b26), .val (.ref b28), .val (.ref b30), .val (.ref b32), .val (.ref b63), .unset, .unset, .unset, .unset, .unset, .unset, .unset, .unset, .unset] [(.int (1 : Int32)), (.int (1 : Int32)), (.ref b69), (.ref b69)])) _
    refine st71 _ ?_
    show Steps p.tables e below (T71.setTop (mkF m 179 #[.val (.long q1), .second, .val (.int p2), .val (.int p3), .val (.int p4), .val (.ref b24), .val (.ref b26), .val (.ref b28), .val (.ref b30), .val (.ref b32), .val (.ref b63), .unset, .unset, .unset, .unset, .unset, .unset, .unset, .unset, .unset] [(.ref b69)])) _
    refine XS.dup X71.here hx rfl (hb hby at_179) rfl rfl ?_
    show Steps p.tables e below (T71.setTop (mkF m 180 #[.val (.long q1), .second, .val (.int p2), .val (.int p3), .val (.int p4), .val (.ref b24), .val (.ref b26), .val (.ref b28), .val (.ref b30), .val (.ref b32), .val (.ref b63), .unset, .unset, .unset, .unset, .unset, .unset, .unset, .unset, .unset] [(.ref b69), (.ref b69)])) _
    refine XS.iconst X71.here hx rfl (hb hby at_180) ?_
    show Steps p.tables e below (T71.setTop (mkF m 181 #[.val (.long q1), .second, .val (.int p2), .val (.int p3), .val (.int p4), .val (.ref b24), .val (.ref b26), .val (.ref b28), .val (.ref b30), .val (.ref b32), .val (.ref b63), .unset, .unset, .unset, .unset, .unset, .unset, .unset, .unset, .unset] [(.int (2 : Int32)), (.ref b69), (.ref b69)])) _
    refine XS.iconst X71.here hx rfl (hb hby at_181) ?_
    show Steps p.tables e below (T71.setTop (mkF m 182 #[.val (.long q1), .second, .val (.int p2), .val (.int p3), .val (.int p4), .val (.ref b24), .val (.ref b26), .val (.ref b28), .val (.ref b30), .val (.ref b32), .val (.ref b63), .unset, .unset, .unset, .unset, .unset, .unset, .unset, .unset, .unset] [(.int (1 : Int32)), (.int (2 : Int32)), (.ref b69), (.ref b69)])) _
    refine st72 _ ?_
    show Steps p.tables e below (T72.setTop (mkF m 183 #[.val (.long q1), .second, .val (.int p2), .val (.int p3), .val (.int p4), .val (.ref b24), .val (.ref b26), .val (.ref b28), .val (.ref b30), .val (.ref b32), .val (.ref b63), .unset, .unset, .unset, .unset, .unset, .unset, .unset, .unset, .unset] [(.ref b69)])) _
    refine XS.dup X72.here hx rfl (hb hby at_183) rfl rfl ?_
    show Steps p.tables e below (T72.setTop (mkF m 184 #[.val (.long q1), .second, .val (.int p2), .val (.int p3), .val (.int p4), .val (.ref b24), .val (.ref b26), .val (.ref b28), .val (.ref b30), .val (.ref b32), .val (.ref b63), .unset, .unset, .unset, .unset, .unset, .unset, .unset, .unset, .unset] [(.ref b69), (.ref b69)])) _
    refine XS.iconst X72.here hx rfl (hb hby at_184) ?_
    show Steps p.tables e below (T72.setTop (mkF m 185 #[.val (.long q1), .second, .val (.int p2), .val (.int p3), .val (.int p4), .val (.ref b24), .val (.ref b26), .val (.ref b28), .val (.ref b30), .val (.ref b32), .val (.ref b63), .unset, .unset, .unset, .unset, .unset, .unset, .unset, .unset, .unset] [(.int (3 : Int32)), (.ref b69), (.ref b69)])) _
    refine XS.iconst X72.here hx rfl (hb hby at_185) ?_
    show Steps p.tables e below (T72.setTop (mkF m 186 #[.val (.long q1), .second, .val (.int p2), .val (.int p3), .val (.int p4), .val (.ref b24), .val (.ref b26), .val (.ref b28), .val (.ref b30), .val (.ref b32), .val (.ref b63), .unset, .unset, .unset, .unset, .unset, .unset, .unset, .unset, .unset] [(.int (1 : Int32)), (.int (3 : Int32)), (.ref b69), (.ref b69)])) _
    refine st73 _ ?_
    show Steps p.tables e below (T73.setTop (mkF m 187 #[.val (.long q1), .second, .val (.int p2), .val (.int p3), .val (.int p4), .val (.ref b24), .val (.ref b26), .val (.ref b28), .val (.ref b30), .val (.ref b32), .val (.ref b63), .unset, .unset, .unset, .unset, .unset, .unset, .unset, .unset, .unset] [(.ref b69)])) _
    refine XS.dup X73.here hx rfl (hb hby at_187) rfl rfl ?_
    show Steps p.tables e below (T73.setTop (mkF m 188 #[.val (.long q1), .second, .val (.int p2), .val (.int p3), .val (.int p4), .val (.ref b24), .val (.ref b26), .val (.ref b28), .val (.ref b30), .val (.ref b32), .val (.ref b63), .unset, .unset, .unset, .unset, .unset, .unset, .unset, .unset, .unset] [(.ref b69), (.ref b69)])) _
    refine XS.iconst X73.here hx rfl (hb hby at_188) ?_
    show Steps p.tables e below (T73.setTop (mkF m 189 #[.val (.long q1), .second, .val (.int p2), .val (.int p3), .val (.int p4), .val (.ref b24), .val (.ref b26), .val (.ref b28), .val (.ref b30), .val (.ref b32), .val (.ref b63), .unset, .unset, .unset, .unset, .unset, .unset, .unset, .unset, .unset] [(.int (4 : Int32)), (.ref b69), (.ref b69)])) _
    refine XS.iconst X73.here hx rfl (hb hby at_189) ?_
    show Steps p.tables e below (T73.setTop (mkF m 190 #[.val (.long q1), .second, .val (.int p2), .val (.int p3), .val (.int p4), .val (.ref b24), .val (.ref b26), .val (.ref b28), .val (.ref b30), .val (.ref b32), .val (.ref b63), .unset, .unset, .unset, .unset, .unset, .unset, .unset, .unset, .unset] [(.int (1 : Int32)), (.int (4 : Int32)), (.ref b69), (.ref b69)])) _
    refine st74 _ ?_
    show Steps p.tables e below (T74.setTop (mkF m 191 #[.val (.long q1), .second, .val (.int p2), .val (.int p3), .val (.int p4), .val (.ref b24), .val (.ref b26), .val (.ref b28), .val (.ref b30), .val (.ref b32), .val (.ref b63), .unset, .unset, .unset, .unset, .unset, .unset, .unset, .unset, .unset] [(.ref b69)])) _
    refine XS.astore X74.here hx rfl (hb hby at_191) rfl rfl (l' := #[.val (.long q1), .second, .val (.int p2), .val (.int p3), .val (.int p4), .val (.ref b24), .val (.ref b26), .val (.ref b28), .val (.ref b30), .val (.ref b32), .val (.ref b63), .val (.ref b69), .unset, .unset, .unset, .unset, .unset, .unset, .unset, .unset]) rfl ?_
    show Steps p.tables e below (T74.setTop (mkF m 193 #[.val (.long q1), .second, .val (.int p2), .val (.int p3), .val (.int p4), .val (.ref b24), .val (.ref b26), .val (.ref b28), .val (.ref b30), .val (.ref b32), .val (.ref b63), .val (.ref b69), .unset, .unset, .unset, .unset, .unset, .unset, .unset, .unset] [])) _
    refine XS.iloadN X74.here hx rfl (hb hby at_193) rfl ?_
    show Steps p.tables e below (T74.setTop (mkF m 194 #[.val (.long q1), .second, .val (.int p2), .val (.int p3), .val (.int p4), .val (.ref b24), .val (.ref b26), .val (.ref b28), .val (.ref b30), .val (.ref b32), .val (.ref b63), .val (.ref b69), .unset, .unset, .unset, .unset, .unset, .unset, .unset, .unset] [(.int p3)])) _
    refine X74.ldcInt hx hown (mvT hZ (hw _ (List.mem_of_getElem? (i := 33) rfl))) (g := (mkF m 194 #[.val (.long q1), .second, .val (.int p2), .val (.int p3), .val (.int p4), .val (.ref b24), .val (.ref b26), .val (.ref b28), .val (.ref b30), .val (.ref b32), .val (.ref b63), .val (.ref b69), .unset, .unset, .unset, .unset, .unset, .unset, .unset, .unset] [(.int p3)])) rfl (hb hby at_194) _ ?_
    show Steps p.tables e below (T74.setTop (mkF m 196 #[.val (.long q1), .second, .val (.int p2), .val (.int p3), .val (.int p4), .val (.ref b24), .val (.ref b26), .val (.ref b28), .val (.ref b30), .val (.ref b32), .val (.ref b63), .val (.ref b69), .unset, .unset, .unset, .unset, .unset, .unset, .unset, .unset] [(.int (2147483647 : Int32)), (.int p3)])) _
    refine XS.iand X74.here hx rfl (hb hby at_196) rfl ?_
    show Steps p.tables e below (T74.setTop (mkF m 197 #[.val (.long q1), .second, .val (.int p2), .val (.int p3), .val (.int p4), .val (.ref b24), .val (.ref b26), .val (.ref b28), .val (.ref b30), .val (.ref b32), .val (.ref b63), .val (.ref b69), .unset, .unset, .unset, .unset, .unset, .unset, .unset, .unset] [(.int (p3 &&& (2147483647 : Int32)))])) _
    refine XS.iconst X74.here hx rfl (hb hby at_197) ?_
    show Steps p.tables e below (T74.setTop (mkF m 198 #[.val (.long q1), .second, .val (.int p2), .val (.int p3), .val (.int p4), .val (.ref b24), .val (.ref b26), .val (.ref b28), .val (.ref b30), .val (.ref b32), .val (.ref b63), .val (.ref b69), .unset, .unset, .unset, .unset, .unset, .unset, .unset, .unset] [(.int (3 : Int32)), (.int (p3 &&& (2147483647 : Int32)))])) _
    refine iremM X74 hx rfl (hb hby at_198) rfl (by decide) ?_
    exact kt
  obtain ⟨fr, e_fr⟩ : ∃ z : Int32, z = ((p3 &&& (2147483647 : Int32)) % (3 : Int32)) := ⟨_, rfl⟩
  obtain ⟨ln, e_ln⟩ : ∃ z : Int32, z = ((1 : Int32) + (((p3.toUInt32 >>> ((8 : Int32) &&& 31).toUInt32).toInt32) % (3 : Int32))) := ⟨_, rfl⟩
  have hlnz : ln ≠ 0 := own_nz ln (e_ln ▸ own_ln p3).1
  obtain ⟨ii, e_ii⟩ : ∃ z : Int32, z = ((p4 &&& (2147483647 : Int32)) % ln) := ⟨_, rfl⟩
  have hfr := e_fr ▸ own_fr p3
  have hln := e_ln ▸ own_ln p3
  have hii := own_ii p4 ln hln.1
  rw [← e_ii] at hii
  have hsz := own_sz fr ln ii hfr.1 hfr.2 hln.1 hln.2 hii.1 hii.2
  obtain ⟨kk, e_kk⟩ : ∃ z : Int32, z = (((p2.toUInt32 >>> (((2 : Int32) * (fr + ii)) &&& 31).toUInt32).toInt32) &&& (3 : Int32)) := ⟨_, rfl⟩
  have hkk : ¬ kk < 0 ∧ kk < 4 := e_kk ▸ own_r3 _
  obtain ⟨T76, h76, X76, e76, E76, A76, D76, -, st76⟩ := newO X74 hx hZ hown (hw _ (List.mem_of_getElem? (i := 34) rfl)) (hw _ (List.mem_of_getElem? (i := 35) rfl)) (hw _ (List.mem_of_getElem? (i := 36) rfl)) e74 (g := (mkF m 228 #[.val (.long q1), .second, .val (.int p2), .val (.int p3), .val (.int p4), .val (.ref b24), .val (.ref b26), .val (.ref b28), .val (.ref b30), .val (.ref b32), .val (.ref b63), .val (.ref b69), .val (.int fr), .val (.int ln), .val (.int (fr + ln)), .val (.int ii), .unset, .unset, .unset, .unset] [])) rfl (hb hby at_228) (by decide) (by decide)
  obtain ⟨b76, g76⟩ : ∃ z, z = h74.size := ⟨_, rfl⟩
  rw [← g76] at A76 D76 st76
  have g_b76 : n0 ≤ b76 := Nat.le_trans (Nat.le_trans Z0 Kh74.1) (Nat.le_of_eq g76.symm)
  have sz_b76 : h0.size ≤ b76 := Nat.le_trans Kh74.1 (Nat.le_of_eq g76.symm)
  have ne_b24_b76 : b24 ≠ b76 := Nat.ne_of_lt (Nat.lt_of_lt_of_le (((((((((((((((((((((((f36.keep K38 (ninS ne_b24_b34 nin0)).other W39 ne_b24_b32).ext E41).keep K45 (ninS ne_b24_b41 nin0)).other W46 ne_b24_b32).ext E48).keep K52 (ninS ne_b24_b48 nin0)).other W53 ne_b24_b32).ext E55).keep K59 (ninS ne_b24_b55 nin0)).other W61 ne_b24_b32).ext E63).other W64 ne_b24_b63).other W65 ne_b24_b63).other W66 ne_b24_b63).other W67 ne_b24_b63).other W68 ne_b24_b63).ext E69).other W70 ne_b24_b69).other W71 ne_b24_b69).other W72 ne_b24_b69).other W73 ne_b24_b69).other W74 ne_b24_b69).lt (Nat.le_of_eq g76.symm))
  have ne_b26_b76 : b26 ≠ b76 := Nat.ne_of_lt (Nat.lt_of_lt_of_le ((((((((((((((((((((f43.keep K45 (ninS ne_b26_b41 nin0)).other W46 ne_b26_b32).ext E48).keep K52 (ninS ne_b26_b48 nin0)).other W53 ne_b26_b32).ext E55).keep K59 (ninS ne_b26_b55 nin0)).other W61 ne_b26_b32).ext E63).other W64 ne_b26_b63).other W65 ne_b26_b63).other W66 ne_b26_b63).other W67 ne_b26_b63).other W68 ne_b26_b63).ext E69).other W70 ne_b26_b69).other W71 ne_b26_b69).other W72 ne_b26_b69).other W73 ne_b26_b69).other W74 ne_b26_b69).lt (Nat.le_of_eq g76.symm))
  have ne_b28_b76 : b28 ≠ b76 := Nat.ne_of_lt (Nat.lt_of_lt_of_le (((((((((((((((((f50.keep K52 (ninS ne_b28_b48 nin0)).other W53 ne_b28_b32).ext E55).keep K59 (ninS ne_b28_b55 nin0)).other W61 ne_b28_b32).ext E63).other W64 ne_b28_b63).other W65 ne_b28_b63).other W66 ne_b28_b63).other W67 ne_b28_b63).other W68 ne_b28_b63).ext E69).other W70 ne_b28_b69).other W71 ne_b28_b69).other W72 ne_b28_b69).other W73 ne_b28_b69).other W74 ne_b28_b69).lt (Nat.le_of_eq g76.symm))
  have ne_b30_b76 : b30 ≠ b76 := Nat.ne_of_lt (Nat.lt_of_lt_of_le ((((((((((((((f57.keep K59 (ninS ne_b30_b55 nin0)).other W61 ne_b30_b32).ext E63).other W64 ne_b30_b63).other W65 ne_b30_b63).other W66 ne_b30_b63).other W67 ne_b30_b63).other W68 ne_b30_b63).ext E69).other W70 ne_b30_b69).other W71 ne_b30_b69).other W72 ne_b30_b69).other W73 ne_b30_b69).other W74 ne_b30_b69).lt (Nat.le_of_eq g76.symm))
  have ne_b32_b76 : b32 ≠ b76 := Nat.ne_of_lt (Nat.lt_of_lt_of_le ((((((((((((V61.ext E63).other W64 ne_b32_b63).other W65 ne_b32_b63).other W66 ne_b32_b63).other W67 ne_b32_b63).other W68 ne_b32_b63).ext E69).other W70 ne_b32_b69).other W71 ne_b32_b69).other W72 ne_b32_b69).other W73 ne_b32_b69).other W74 ne_b32_b69).lt (Nat.le_of_eq g76.symm))
  have ne_b34_b76 : b34 ≠ b76 := Nat.ne_of_lt (Nat.lt_of_lt_of_le ((((((((((((((((((((((Ee38.wr W39).ext E41).keep K45).wr W46).ext E48).keep K52).wr W53).ext E55).keep K59).wr W61).ext E63).wr W64).wr W65).wr W66).wr W67).wr W68).ext E69).wr W70).wr W71).wr W72).wr W73).wr W74).lt (Nat.le_of_eq g76.symm))
  have ne_t38_b76 : t38 ≠ b76 := Nat.ne_of_lt (Nat.lt_of_lt_of_le ((((((((((((((((((((((Va38.other W39 (Ne.symm ne_b32_t38)).ext E41).keep K45 (ninS ne_t38_b41 nin0)).other W46 (Ne.symm ne_b32_t38)).ext E48).keep K52 (ninS ne_t38_b48 nin0)).other W53 (Ne.symm ne_b32_t38)).ext E55).keep K59 (ninS ne_t38_b55 nin0)).other W61 (Ne.symm ne_b32_t38)).ext E63).other W64 ne_t38_b63).other W65 ne_t38_b63).other W66 ne_t38_b63).other W67 ne_t38_b63).other W68 ne_t38_b63).ext E69).other W70 ne_t38_b69).other W71 ne_t38_b69).other W72 ne_t38_b69).other W73 ne_t38_b69).other W74 ne_t38_b69).lt (Nat.le_of_eq g76.symm))
  have ne_b41_b76 : b41 ≠ b76 := Nat.ne_of_lt (Nat.lt_of_lt_of_le (((((((((((((((((((Ee45.wr W46).ext E48).keep K52).wr W53).ext E55).keep K59).wr W61).ext E63).wr W64).wr W65).wr W66).wr W67).wr W68).ext E69).wr W70).wr W71).wr W72).wr W73).wr W74).lt (Nat.le_of_eq g76.symm))
  have ne_t45_b76 : t45 ≠ b76 := Nat.ne_of_lt (Nat.lt_of_lt_of_le (((((((((((((((((((Va45.other W46 (Ne.symm ne_b32_t45)).ext E48).keep K52 (ninS ne_t45_b48 nin0)).other W53 (Ne.symm ne_b32_t45)).ext E55).keep K59 (ninS ne_t45_b55 nin0)).other W61 (Ne.symm ne_b32_t45)).ext E63).other W64 ne_t45_b63).other W65 ne_t45_b63).other W66 ne_t45_b63).other W67 ne_t45_b63).other W68 ne_t45_b63).ext E69).other W70 ne_t45_b69).other W71 ne_t45_b69).other W72 ne_t45_b69).other W73 ne_t45_b69).other W74 ne_t45_b69).lt (Nat.le_of_eq g76.symm))
  have ne_b48_b76 : b48 ≠ b76 := Nat.ne_of_lt (Nat.lt_of_lt_of_le ((((((((((((((((Ee52.wr W53).ext E55).keep K59).wr W61).ext E63).wr W64).wr W65).wr W66).wr W67).wr W68).ext E69).wr W70).wr W71).wr W72).wr W73).wr W74).lt (Nat.le_of_eq g76.symm))
  have ne_t52_b76 : t52 ≠ b76 := Nat.ne_of_lt (Nat.lt_of_lt_of_le ((((((((((((((((Va52.other W53 (Ne.symm ne_b32_t52)).ext E55).keep K59 (ninS ne_t52_b55 nin0)).other W61 (Ne.symm ne_b32_t52)).ext E63).other W64 ne_t52_b63).other W65 ne_t52_b63).other W66 ne_t52_b63).other W67 ne_t52_b63).other W68 ne_t52_b63).ext E69).other W70 ne_t52_b69).other W71 ne_t52_b69).other W72 ne_t52_b69).other W73 ne_t52_b69).other W74 ne_t52_b69).lt (Nat.le_of_eq g76.symm))
  have ne_b55_b76 : b55 ≠ b76 := Nat.ne_of_lt (Nat.lt_of_lt_of_le (((((((((((((Ee59.wr W61).ext E63).wr W64).wr W65).wr W66).wr W67).wr W68).ext E69).wr W70).wr W71).wr W72).wr W73).wr W74).lt (Nat.le_of_eq g76.symm))
  have ne_t59_b76 : t59 ≠ b76 := Nat.ne_of_lt (Nat.lt_of_lt_of_le (((((((((((((Va59.other W61 (Ne.symm ne_b32_t59)).ext E63).other W64 ne_t59_b63).other W65 ne_t59_b63).other W66 ne_t59_b63).other W67 ne_t59_b63).other W68 ne_t59_b63).ext E69).other W70 ne_t59_b69).other W71 ne_t59_b69).other W72 ne_t59_b69).other W73 ne_t59_b69).other W74 ne_t59_b69).lt (Nat.le_of_eq g76.symm))
  have ne_b63_b76 : b63 ≠ b76 := Nat.ne_of_lt (Nat.lt_of_lt_of_le ((((((V68.ext E69).other W70 ne_b63_b69).other W71 ne_b63_b69).other W72 ne_b63_b69).other W73 ne_b63_b69).other W74 ne_b63_b69).lt (Nat.le_of_eq g76.symm))
  have ne_b69_b76 : b69 ≠ b76 := Nat.ne_of_lt (Nat.lt_of_lt_of_le V74.lt (Nat.le_of_eq g76.symm))
  have Kh76 : Keep h0 h76 [] := Kh74.ext E76
  have F_terms_b76 : Fld Z h76 b76 "com/example/vrabec/vrabec/index/PostTerms" "terms" "[Ljava/lang/String;" .null := D76 (Or.inr (hw _ (List.mem_of_getElem? (i := 42) rfl))) (ty := (.array (.object "java/lang/String"))) (by decide)
  have F_numbers_b76 : Fld Z h76 b76 "com/example/vrabec/vrabec/index/PostTerms" "numbers" "[I" .null := D76 (Or.inr (hw _ (List.mem_of_getElem? (i := 44) rfl))) (ty := (.array .int)) (by decide)
  have F_frequencies_b76 : Fld Z h76 b76 "com/example/vrabec/vrabec/index/PostTerms" "frequencies" "[I" .null := D76 (Or.inr (hw _ (List.mem_of_getElem? (i := 46) rfl))) (ty := (.array .int)) (by decide)
  have F_from_b76 : Fld Z h76 b76 "com/example/vrabec/vrabec/index/PostTerms" "from" "I" (.int (0 : Int32)) := D76 (Or.inr (hw _ (List.mem_of_getElem? (i := 48) rfl))) (ty := .int) (by decide)
  have F_to_b76 : Fld Z h76 b76 "com/example/vrabec/vrabec/index/PostTerms" "to" "I" (.int (0 : Int32)) := D76 (Or.inr (hw _ (List.mem_of_getElem? (i := 50) rfl))) (ty := .int) (by decide)
  obtain ⟨_, _, ⟨T77, L77, c77_, n77_⟩, -, X77, ⟨Lc77, hQ77, l77, y77, z77⟩, st77⟩ := X76.specialBack hx (y := (⟨"com/example/vrabec/vrabec/index/PostTerms", "<init>", "([Ljava/lang/String;[I[III)V"⟩ : MethodName)) rfl hown (mvT hZ (hw _ (List.mem_of_getElem? (i := 37) rfl))) (mvT hZ (hw _ (List.mem_of_getElem? (i := 38) rfl))) (mvT hZ (hw _ (List.mem_of_getElem? (i := 39) rfl))) (by decide) (backOf (W := 1) (rm_7 l Z a0 hw [] b76 b32 b63 b69 fr (fr + ln) h76 n0 (Nat.le_trans Z0 Kh76.1) A76 g_b76 F_terms_b76 F_numbers_b76 F_frequencies_b76 F_from_b76 F_to_b76) hZ (hw _ (List.mem_of_getElem? (i := 39) rfl)) (hw _ (List.mem_of_getElem? (i := 36) rfl)) (by decide) (by decide)) (g := (mkF m 242 #[.val (.long q1), .second, .val (.int p2), .val (.int p3), .val (.int p4), .val (.ref b24), .val (.ref b26), .val (.ref b28), .val (.ref b30), .val (.ref b32), .val (.ref b63), .val (.ref b69), .val (.int fr), .val (.int ln), .val (.int (fr + ln)), .val (.int ii), .unset, .unset, .unset, .unset] [(.int (fr + ln)), (.int fr), (.ref b69), (.ref b63), (.ref b32), (.ref b76), (.ref b76)])) rfl (by rw [hml]; rfl) (Steps.refl _) (a := b76) (argsL := [(.ref b32), (.ref b63), (.ref b69), (.int fr), (.int (fr + ln))]) (rest := [(.ref b76)]) (lenOf pd__28_5bLjava_2flang_2fString_3b_5bI_5bIII_29V rfl) rfl (by show 2 * 0 + _ ≤ _; exact Nat.le_of_eq rfl) (hb hby at_242) (fun _ _ => ⟨rfl, e76, (by decide : 16 + 0 ≤ _), (by decide : 43 + 0 ≤ _)⟩)
  dsimp only [Pt.U, Pt.locs, Pt.cells, Pt.slots] at X77 l77 y77 z77 st77 hQ77
  rw [l77, y77, z77] at X77
  obtain ⟨rfl, Nq77, K77, Ee77, Ft77, Fn77, Ff77, Fo77⟩ := hQ77
  have N77 := Fr.app N74 Nq77
  have Kh77 : Keep h0 T77.heap [] := Kh76.trans K77 (allS (Or.inr sz_b76) all0)
  have f78 := ((((((((((((((V61.ext E63).other W64 ne_b32_b63).other W65 ne_b32_b63).other W66 ne_b32_b63).other W67 ne_b32_b63).other W68 ne_b32_b63).ext E69).other W70 ne_b32_b69).other W71 ne_b32_b69).other W72 ne_b32_b69).other W73 ne_b32_b69).other W74 ne_b32_b69).ext E76).keep K77 (ninS ne_b32_b76 nin0))
  have f79 := ((((((((V68.ext E69).other W70 ne_b63_b69).other W71 ne_b63_b69).other W72 ne_b63_b69).other W73 ne_b63_b69).other W74 ne_b63_b69).ext E76).keep K77 (ninS ne_b63_b76 nin0))
  obtain ⟨cq80, kq80, q80a, q80b, q80c⟩ := isOf hZ rfl Ee77
  obtain ⟨_, _, ⟨T80, L80, c80_, n80_⟩, -, X80, ⟨Lc80, hQ80, l80, y80, z80⟩, st80⟩ := X77.virtualBack hx (y := (⟨"com/example/vrabec/vrabec/index/PostTerms", "term", "(I)Ljava/lang/String;"⟩ : MethodName)) (z := (⟨"com/example/vrabec/vrabec/index/PostTerms", "term", "(I)Ljava/lang/String;"⟩ : MethodName)) hown (mvT hZ (hw _ (List.mem_of_getElem? (i := 51) rfl))) (mvT hZ (hw _ (List.mem_of_getElem? (i := 52) rfl))) (notFace_of_selects (args := #[]) (mvT hZ (hw _ (List.mem_of_getElem? (i := 54) rfl)))) (mvT hZ (hw _ (List.mem_of_getElem? (i := 54) rfl))) (mvT hZ (hw _ (List.mem_of_getElem? (i := 53) rfl))) (by decide) (backOf (W := 0) (rm_8 l Z a0 hw [] b76 ii (own_nth kk b34 b41 b48 b55) b32 b63 k32 k63 fr (fr + ln) kk [(.ref b34), (.ref b41), (.ref b48), (.ref b55)] [(.int (p2 &&& (3 : Int32))), (.int (((p2.toUInt32 >>> ((2 : Int32) &&& 31).toUInt32).toInt32) &&& (3 : Int32))), (.int (((p2.toUInt32 >>> ((4 : Int32) &&& 31).toUInt32).toInt32) &&& (3 : Int32))), (.int (((p2.toUInt32 >>> ((6 : Int32) &&& 31).toUInt32).toInt32) &&& (3 : Int32))), (.int (((p2.toUInt32 >>> ((8 : Int32) &&& 31).toUInt32).toInt32) &&& (3 : Int32)))] T77.heap n0 (Nat.le_trans Z0 Kh77.1) Ee77 Ft77 Fn77 Ff77 Fo77 f78 f79 hsz.1.1 hsz.1.2 hsz.2 (e_kk ▸ own_num p2 (fr + ii) hsz.2.1 hsz.2.2) hkk (own_get kk hkk.1 hkk.2 b34 b41 b48 b55)) hZ (hw _ (List.mem_of_getElem? (i := 55) rfl)) (hw _ (List.mem_of_getElem? (i := 36) rfl)) (by decide) (by decide)) q80a q80c (g := (mkF m 251 #[.val (.long q1), .second, .val (.int p2), .val (.int p3), .val (.int p4), .val (.ref b24), .val (.ref b26), .val (.ref b28), .val (.ref b30), .val (.ref b32), .val (.ref b63), .val (.ref b69), .val (.int fr), .val (.int ln), .val (.int (fr + ln)), .val (.int ii), .val (.ref b76), .unset, .unset, .unset] [(.int ii), (.ref b76)])) rfl (by rw [hml]; rfl) (Steps.refl _) (argsL := [(.int ii)]) (rest := []) (lenOf pd__28I_29Ljava_2flang_2fString_3b rfl) rfl (by show 2 * 0 + _ ≤ _; exact Nat.le_of_eq rfl) (hb hby at_251) (fun _ _ => ⟨rfl, rfl, (by decide : 16 + 0 ≤ _), (by decide : 43 + 0 ≤ _)⟩)
  dsimp only [Pt.U, Pt.locs, Pt.cells, Pt.slots] at X80 l80 y80 z80 st80 hQ80
  rw [l80, y80, z80] at X80
  obtain ⟨rfl, Nq80, e80⟩ := hQ80
  have N80 := Fr.app N77 Nq80
  have cut81 : ∀ t, Steps p.tables e below (T80.setTop (mkF m 254 #[.val (.long q1), .second, .val (.int p2), .val (.int p3), .val (.int p4), .val (.ref b24), .val (.ref b26), .val (.ref b28), .val (.ref b30), .val (.ref b32), .val (.ref b63), .val (.ref b69), .val (.int fr), .val (.int ln), .val (.int (fr + ln)), .val (.int ii), .val (.ref b76), .unset, .unset, .unset] [(.ref (own_nth kk b34 b41 b48 b55))])) t → Steps p.tables e below (T74.setTop (mkF m 199 #[.val (.long q1), .second, .val (.int p2), .val (.int p3), .val (.int p4), .val (.ref b24), .val (.ref b26), .val (.ref b28), .val (.ref b30), .val (.ref b32), .val (.ref b63), .val (.ref b69), .unset, .unset, .unset, .unset, .unset, .unset, .unset, .unset] [(.int ((p3 &&& (2147483647 : Int32)) % (3 : Int32)))])) t := by
    intro t kt
    show Steps p.tables e below (T74.setTop (mkF m 199 #[.val (.long q1), .second, .val (.int p2), .val (.int p3), .val (.int p4), .val (.ref b24), .val (.ref b26), .val (.ref b28), .val (.ref b30), .val (.ref b32), .val (.ref b63), .val (.ref b69), .unset, .unset, .unset, .unset, .unset, .unset, .unset, .unset] [(.int ((p3 &&& (2147483647 : Int32)) % (3 : Int32)))])) _
    refine XS.istore X74.here hx rfl (hb hby at_199) rfl (l' := #[.val (.long q1), .second, .val (.int p2), .val (.int p3), .val (.int p4), .val (.ref b24), .val (.ref b26), .val (.ref b28), .val (.ref b30), .val (.ref b32), .val (.ref b63), .val (.ref b69), .val (.int ((p3 &&& (2147483647 : Int32)) % (3 : Int32))), .unset, .unset, .unset, .unset, .unset, .unset, .unset]) rfl ?_
    show Steps p.tables e below (T74.setTop (mkF m 201 #[.val (.long q1), .second, .val (.int p2), .val (.int p3), .val (.int p4), .val (.ref b24), .val (.ref b26), .val (.ref b28), .val (.ref b30), .val (.ref b32), .val (.ref b63), .val (.ref b69), .val (.int ((p3 &&& (2147483647 : Int32)) % (3 : Int32))), .unset, .unset, .unset, .unset, .unset, .unset, .unset] [])) _
    rw [← e_fr]
    show Steps p.tables e below (T74.setTop (mkF m 201 #[.val (.long q1), .second, .val (.int p2), .val (.int p3), .val (.int p4), .val (.ref b24), .val (.ref b26), .val (.ref b28), .val (.ref b30), .val (.ref b32), .val (.ref b63), .val (.ref b69), .val (.int fr), .unset, .unset, .unset, .unset, .unset, .unset, .unset] [])) _
    refine XS.iconst X74.here hx rfl (hb hby at_201) ?_
    show Steps p.tables e below (T74.setTop (mkF m 202 #[.val (.long q1), .second, .val (.int p2), .val (.int p3), .val (.int p4), .val (.ref b24), .val (.ref b26), .val (.ref b28), .val (.ref b30), .val (.ref b32), .val (.ref b63), .val (.ref b69), .val (.int fr), .unset, .unset, .unset, .unset, .unset, .unset, .unset] [(.int (1 : Int32))])) _
    refine XS.iloadN X74.here hx rfl (hb hby at_202) rfl ?_
    show Steps p.tables e below (T74.setTop (mkF m 203 #[.val (.long q1), .second, .val (.int p2), .val (.int p3), .val (.int p4), .val (.ref b24), .val (.ref b26), .val (.ref b28), .val (.ref b30), .val (.ref b32), .val (.ref b63), .val (.ref b69), .val (.int fr), .unset, .unset, .unset, .unset, .unset, .unset, .unset] [(.int p3), (.int (1 : Int32))])) _
    refine XS.bipush X74.here hx rfl (hb hby at_203) ?_
    show Steps p.tables e below (T74.setTop (mkF m 205 #[.val (.long q1), .second, .val (.int p2), .val (.int p3), .val (.int p4), .val (.ref b24), .val (.ref b26), .val (.ref b28), .val (.ref b30), .val (.ref b32), .val (.ref b63), .val (.ref b69), .val (.int fr), .unset, .unset, .unset, .unset, .unset, .unset, .unset] [(.int (8 : Int32)), (.int p3), (.int (1 : Int32))])) _
    refine XS.iushr X74.here hx rfl (hb hby at_205) rfl ?_
    show Steps p.tables e below (T74.setTop (mkF m 206 #[.val (.long q1), .second, .val (.int p2), .val (.int p3), .val (.int p4), .val (.ref b24), .val (.ref b26), .val (.ref b28), .val (.ref b30), .val (.ref b32), .val (.ref b63), .val (.ref b69), .val (.int fr), .unset, .unset, .unset, .unset, .unset, .unset, .unset] [(.int ((p3.toUInt32 >>> ((8 : Int32) &&& 31).toUInt32).toInt32)), (.int (1 : Int32))])) _
    refine XS.iconst X74.here hx rfl (hb hby at_206) ?_
    show Steps p.tables e below (T74.setTop (mkF m 207 #[.val (.long q1), .second, .val (.int p2), .val (.int p3), .val (.int p4), .val (.ref b24), .val (.ref b26), .val (.ref b28), .val (.ref b30), .val (.ref b32), .val (.ref b63), .val (.ref b69), .val (.int fr), .unset, .unset, .unset, .unset, .unset, .unset, .unset] [(.int (3 : Int32)), (.int ((p3.toUInt32 >>> ((8 : Int32) &&& 31).toUInt32).toInt32)), (.int (1 : Int32))])) _
    refine iremM X74 hx rfl (hb hby at_207) rfl (by decide) ?_
    show Steps p.tables e below (T74.setTop (mkF m 208 #[.val (.long q1), .second, .val (.int p2), .val (.int p3), .val (.int p4), .val (.ref b24), .val (.ref b26), .val (.ref b28), .val (.ref b30), .val (.ref b32), .val (.ref b63), .val (.ref b69), .val (.int fr), .unset, .unset, .unset, .unset, .unset, .unset, .unset] [(.int (((p3.toUInt32 >>> ((8 : Int32) &&& 31).toUInt32).toInt32) % (3 : Int32))), (.int (1 : Int32))])) _
    refine XS.iadd X74.here hx rfl (hb hby at_208) rfl ?_
    show Steps p.tables e below (T74.setTop (mkF m 209 #[.val (.long q1), .second, .val (.int p2), .val (.int p3), .val (.int p4), .val (.ref b24), .val (.ref b26), .val (.ref b28), .val (.ref b30), .val (.ref b32), .val (.ref b63), .val (.ref b69), .val (.int fr), .unset, .unset, .unset, .unset, .unset, .unset, .unset] [(.int ((1 : Int32) + (((p3.toUInt32 >>> ((8 : Int32) &&& 31).toUInt32).toInt32) % (3 : Int32))))])) _
    refine XS.istore X74.here hx rfl (hb hby at_209) rfl (l' := #[.val (.long q1), .second, .val (.int p2), .val (.int p3), .val (.int p4), .val (.ref b24), .val (.ref b26), .val (.ref b28), .val (.ref b30), .val (.ref b32), .val (.ref b63), .val (.ref b69), .val (.int fr), .val (.int ((1 : Int32) + (((p3.toUInt32 >>> ((8 : Int32) &&& 31).toUInt32).toInt32) % (3 : Int32)))), .unset, .unset, .unset, .unset, .unset, .unset]) rfl ?_
    show Steps p.tables e below (T74.setTop (mkF m 211 #[.val (.long q1), .second, .val (.int p2), .val (.int p3), .val (.int p4), .val (.ref b24), .val (.ref b26), .val (.ref b28), .val (.ref b30), .val (.ref b32), .val (.ref b63), .val (.ref b69), .val (.int fr), .val (.int ((1 : Int32) + (((p3.toUInt32 >>> ((8 : Int32) &&& 31).toUInt32).toInt32) % (3 : Int32)))), .unset, .unset, .unset, .unset, .unset, .unset] [])) _
    rw [← e_ln]
    show Steps p.tables e below (T74.setTop (mkF m 211 #[.val (.long q1), .second, .val (.int p2), .val (.int p3), .val (.int p4), .val (.ref b24), .val (.ref b26), .val (.ref b28), .val (.ref b30), .val (.ref b32), .val (.ref b63), .val (.ref b69), .val (.int fr), .val (.int ln), .unset, .unset, .unset, .unset, .unset, .unset] [])) _
    refine XS.iload X74.here hx rfl (hb hby at_211) rfl ?_
    show Steps p.tables e below (T74.setTop (mkF m 213 #[.val (.long q1), .second, .val (.int p2), .val (.int p3), .val (.int p4), .val (.ref b24), .val (.ref b26), .val (.ref b28), .val (.ref b30), .val (.ref b32), .val (.ref b63), .val (.ref b69), .val (.int fr), .val (.int ln), .unset, .unset, .unset, .unset, .unset, .unset] [(.int fr)])) _
    refine XS.iload X74.here hx rfl (hb hby at_213) rfl ?_
    show Steps p.tables e below (T74.setTop (mkF m 215 #[.val (.long q1), .second, .val (.int p2), .val (.int p3), .val (.int p4), .val (.ref b24), .val (.ref b26), .val (.ref b28), .val (.ref b30), .val (.ref b32), .val (.ref b63), .val (.ref b69), .val (.int fr), .val (.int ln), .unset, .unset, .unset, .unset, .unset, .unset] [(.int ln), (.int fr)])) _
    refine XS.iadd X74.here hx rfl (hb hby at_215) rfl ?_
    show Steps p.tables e below (T74.setTop (mkF m 216 #[.val (.long q1), .second, .val (.int p2), .val (.int p3), .val (.int p4), .val (.ref b24), .val (.ref b26), .val (.ref b28), .val (.ref b30), .val (.ref b32), .val (.ref b63), .val (.ref b69), .val (.int fr), .val (.int ln), .unset, .unset, .unset, .unset, .unset, .unset] [(.int (fr + ln))])) _
    refine XS.istore X74.here hx rfl (hb hby at_216) rfl (l' := #[.val (.long q1), .second, .val (.int p2), .val (.int p3), .val (.int p4), .val (.ref b24), .val (.ref b26), .val (.ref b28), .val (.ref b30), .val (.ref b32), .val (.ref b63), .val (.ref b69), .val (.int fr), .val (.int ln), .val (.int (fr + ln)), .unset, .unset, .unset, .unset, .unset]) rfl ?_
    show Steps p.tables e below (T74.setTop (mkF m 218 #[.val (.long q1), .second, .val (.int p2), .val (.int p3), .val (.int p4), .val (.ref b24), .val (.ref b26), .val (.ref b28), .val (.ref b30), .val (.ref b32), .val (.ref b63), .val (.ref b69), .val (.int fr), .val (.int ln), .val (.int (fr + ln)), .unset, .unset, .unset, .unset, .unset] [])) _
    refine XS.iload X74.here hx rfl (hb hby at_218) rfl ?_
    show Steps p.tables e below (T74.setTop (mkF m 220 #[.val (.long q1), .second, .val (.int p2), .val (.int p3), .val (.int p4), .val (.ref b24), .val (.ref b26), .val (.ref b28), .val (.ref b30), .val (.ref b32), .val (.ref b63), .val (.ref b69), .val (.int fr), .val (.int ln), .val (.int (fr + ln)), .unset, .unset, .unset, .unset, .unset] [(.int p4)])) _
    refine X74.ldcInt hx hown (mvT hZ (hw _ (List.mem_of_getElem? (i := 33) rfl))) (g := (mkF m 220 #[.val (.long q1), .second, .val (.int p2), .val (.int p3), .val (.int p4), .val (.ref b24), .val (.ref b26), .val (.ref b28), .val (.ref b30), .val (.ref b32), .val (.ref b63), .val (.ref b69), .val (.int fr), .val (.int ln), .val (.int (fr + ln)), .unset, .unset, .unset, .unset, .unset] [(.int p4)])) rfl (hb hby at_220) _ ?_
    show Steps p.tables e below (T74.setTop (mkF m 222 #[.val (.long q1), .second, .val (.int p2), .val (.int p3), .val (.int p4), .val (.ref b24), .val (.ref b26), .val (.ref b28), .val (.ref b30), .val (.ref b32), .val (.ref b63), .val (.ref b69), .val (.int fr), .val (.int ln), .val (.int (fr + ln)), .unset, .unset, .unset, .unset, .unset] [(.int (2147483647 : Int32)), (.int p4)])) _
    refine XS.iand X74.here hx rfl (hb hby at_222) rfl ?_
    show Steps p.tables e below (T74.setTop (mkF m 223 #[.val (.long q1), .second, .val (.int p2), .val (.int p3), .val (.int p4), .val (.ref b24), .val (.ref b26), .val (.ref b28), .val (.ref b30), .val (.ref b32), .val (.ref b63), .val (.ref b69), .val (.int fr), .val (.int ln), .val (.int (fr + ln)), .unset, .unset, .unset, .unset, .unset] [(.int (p4 &&& (2147483647 : Int32)))])) _
    refine XS.iload X74.here hx rfl (hb hby at_223) rfl ?_
    show Steps p.tables e below (T74.setTop (mkF m 225 #[.val (.long q1), .second, .val (.int p2), .val (.int p3), .val (.int p4), .val (.ref b24), .val (.ref b26), .val (.ref b28), .val (.ref b30), .val (.ref b32), .val (.ref b63), .val (.ref b69), .val (.int fr), .val (.int ln), .val (.int (fr + ln)), .unset, .unset, .unset, .unset, .unset] [(.int ln), (.int (p4 &&& (2147483647 : Int32)))])) _
    refine iremM X74 hx rfl (hb hby at_225) rfl hlnz ?_
    show Steps p.tables e below (T74.setTop (mkF m 226 #[.val (.long q1), .second, .val (.int p2), .val (.int p3), .val (.int p4), .val (.ref b24), .val (.ref b26), .val (.ref b28), .val (.ref b30), .val (.ref b32), .val (.ref b63), .val (.ref b69), .val (.int fr), .val (.int ln), .val (.int (fr + ln)), .unset, .unset, .unset, .unset, .unset] [(.int ((p4 &&& (2147483647 : Int32)) % ln))])) _
    refine XS.istore X74.here hx rfl (hb hby at_226) rfl (l' := #[.val (.long q1), .second, .val (.int p2), .val (.int p3), .val (.int p4), .val (.ref b24), .val (.ref b26), .val (.ref b28), .val (.ref b30), .val (.ref b32), .val (.ref b63), .val (.ref b69), .val (.int fr), .val (.int ln), .val (.int (fr + ln)), .val (.int ((p4 &&& (2147483647 : Int32)) % ln)), .unset, .unset, .unset, .unset]) rfl ?_
    show Steps p.tables e below (T74.setTop (mkF m 228 #[.val (.long q1), .second, .val (.int p2), .val (.int p3), .val (.int p4), .val (.ref b24), .val (.ref b26), .val (.ref b28), .val (.ref b30), .val (.ref b32), .val (.ref b63), .val (.ref b69), .val (.int fr), .val (.int ln), .val (.int (fr + ln)), .val (.int ((p4 &&& (2147483647 : Int32)) % ln)), .unset, .unset, .unset, .unset] [])) _
    rw [← e_ii]
    show Steps p.tables e below (T74.setTop (mkF m 228 #[.val (.long q1), .second, .val (.int p2), .val (.int p3), .val (.int p4), .val (.ref b24), .val (.ref b26), .val (.ref b28), .val (.ref b30), .val (.ref b32), .val (.ref b63), .val (.ref b69), .val (.int fr), .val (.int ln), .val (.int (fr + ln)), .val (.int ii), .unset, .unset, .unset, .unset] [])) _
    refine st76 _ ?_
    show Steps p.tables e below (T76.setTop (mkF m 231 #[.val (.long q1), .second, .val (.int p2), .val (.int p3), .val (.int p4), .val (.ref b24), .val (.ref b26), .val (.ref b28), .val (.ref b30), .val (.ref b32), .val (.ref b63), .val (.ref b69), .val (.int fr), .val (.int ln), .val (.int (fr + ln)), .val (.int ii), .unset, .unset, .unset, .unset] [(.ref b76)])) _
    refine XS.dup X76.here hx rfl (hb hby at_231) rfl rfl ?_
    show Steps p.tables e below (T76.setTop (mkF m 232 #[.val (.long q1), .second, .val (.int p2), .val (.int p3), .val (.int p4), .val (.ref b24), .val (.ref b26), .val (.ref b28), .val (.ref b30), .val (.ref b32), .val (.ref b63), .val (.ref b69), .val (.int fr), .val (.int ln), .val (.int (fr + ln)), .val (.int ii), .unset, .unset, .unset, .unset] [(.ref b76), (.ref b76)])) _
    refine XS.aload X76.here hx rfl (hb hby at_232) rfl rfl ?_
    show Steps p.tables e below (T76.setTop (mkF m 234 #[.val (.long q1), .second, .val (.int p2), .val (.int p3), .val (.int p4), .val (.ref b24), .val (.ref b26), .val (.ref b28), .val (.ref b30), .val (.ref b32), .val (.ref b63), .val (.ref b69), .val (.int fr), .val (.int ln), .val (.int (fr + ln)), .val (.int ii), .unset, .unset, .unset, .unset] [(.ref b32), (.ref b76), (.ref b76)])) _
    refine XS.aload X76.here hx rfl (hb hby at_234) rfl rfl ?_
    show Steps p.tables e below (T76.setTop (mkF m 236 #[.val (.long q1), .second, .val (.int p2), .val (.int p3), .val (.int p4), .val (.ref b24), .val (.ref b26), .val (.ref b28), .val (.ref b30), .val (.ref b32), .val (.ref b63), .val (.ref b69), .val (.int fr), .val (.int ln), .val (.int (fr + ln)), .val (.int ii), .unset, .unset, .unset, .unset] [(.ref b63), (.ref b32), (.ref b76), (.ref b76)])) _
    refine XS.aload X76.here hx rfl (hb hby at_236) rfl rfl ?_
    show Steps p.tables e below (T76.setTop (mkF m 238 #[.val (.long q1), .second, .val (.int p2), .val (.int p3), .val (.int p4), .val (.ref b24), .val (.ref b26), .val (.ref b28), .val (.ref b30), .val (.ref b32), .val (.ref b63), .val (.ref b69), .val (.int fr), .val (.int ln), .val (.int (fr + ln)), .val (.int ii), .unset, .unset, .unset, .unset] [(.ref b69), (.ref b63), (.ref b32), (.ref b76), (.ref b76)])) _
    refine XS.iload X76.here hx rfl (hb hby at_238) rfl ?_
    show Steps p.tables e below (T76.setTop (mkF m 240 #[.val (.long q1), .second, .val (.int p2), .val (.int p3), .val (.int p4), .val (.ref b24), .val (.ref b26), .val (.ref b28), .val (.ref b30), .val (.ref b32), .val (.ref b63), .val (.ref b69), .val (.int fr), .val (.int ln), .val (.int (fr + ln)), .val (.int ii), .unset, .unset, .unset, .unset] [(.int fr), (.ref b69), (.ref b63), (.ref b32), (.ref b76), (.ref b76)])) _
    refine XS.iload X76.here hx rfl (hb hby at_240) rfl ?_
    show Steps p.tables e below (T76.setTop (mkF m 242 #[.val (.long q1), .second, .val (.int p2), .val (.int p3), .val (.int p4), .val (.ref b24), .val (.ref b26), .val (.ref b28), .val (.ref b30), .val (.ref b32), .val (.ref b63), .val (.ref b69), .val (.int fr), .val (.int ln), .val (.int (fr + ln)), .val (.int ii), .unset, .unset, .unset, .unset] [(.int (fr + ln)), (.int fr), (.ref b69), (.ref b63), (.ref b32), (.ref b76), (.ref b76)])) _
    refine st77.trans ?_
    show Steps p.tables e below (T77.setTop (mkF m 245 #[.val (.long q1), .second, .val (.int p2), .val (.int p3), .val (.int p4), .val (.ref b24), .val (.ref b26), .val (.ref b28), .val (.ref b30), .val (.ref b32), .val (.ref b63), .val (.ref b69), .val (.int fr), .val (.int ln), .val (.int (fr + ln)), .val (.int ii), .unset, .unset, .unset, .unset] [(.ref b76)])) _
    refine XS.astore X77.here hx rfl (hb hby at_245) rfl rfl (l' := #[.val (.long q1), .second, .val (.int p2), .val (.int p3), .val (.int p4), .val (.ref b24), .val (.ref b26), .val (.ref b28), .val (.ref b30), .val (.ref b32), .val (.ref b63), .val (.ref b69), .val (.int fr), .val (.int ln), .val (.int (fr + ln)), .val (.int ii), .val (.ref b76), .unset, .unset, .unset]) rfl ?_
    show Steps p.tables e below (T77.setTop (mkF m 247 #[.val (.long q1), .second, .val (.int p2), .val (.int p3), .val (.int p4), .val (.ref b24), .val (.ref b26), .val (.ref b28), .val (.ref b30), .val (.ref b32), .val (.ref b63), .val (.ref b69), .val (.int fr), .val (.int ln), .val (.int (fr + ln)), .val (.int ii), .val (.ref b76), .unset, .unset, .unset] [])) _
    refine XS.aload X77.here hx rfl (hb hby at_247) rfl rfl ?_
    show Steps p.tables e below (T77.setTop (mkF m 249 #[.val (.long q1), .second, .val (.int p2), .val (.int p3), .val (.int p4), .val (.ref b24), .val (.ref b26), .val (.ref b28), .val (.ref b30), .val (.ref b32), .val (.ref b63), .val (.ref b69), .val (.int fr), .val (.int ln), .val (.int (fr + ln)), .val (.int ii), .val (.ref b76), .unset, .unset, .unset] [(.ref b76)])) _
    refine XS.iload X77.here hx rfl (hb hby at_249) rfl ?_
    show Steps p.tables e below (T77.setTop (mkF m 251 #[.val (.long q1), .second, .val (.int p2), .val (.int p3), .val (.int p4), .val (.ref b24), .val (.ref b26), .val (.ref b28), .val (.ref b30), .val (.ref b32), .val (.ref b63), .val (.ref b69), .val (.int fr), .val (.int ln), .val (.int (fr + ln)), .val (.int ii), .val (.ref b76), .unset, .unset, .unset] [(.int ii), (.ref b76)])) _
    refine st80.trans ?_
    exact kt
  rcases own_four kk hkk.1 hkk.2 with hk | hk | hk | hk
  · have hnr : (own_nth kk b34 b41 b48 b55) = b34 := by rw [hk]; rfl
    obtain ⟨ex, e_ex⟩ : ∃ z : Int32, z = (((((q1.toUInt64 >>> (((8 : Int32) * kk) &&& 0x3f).toInt64.toUInt64).toInt64) &&& (255 : Int64)).toInt32).toUInt32.toUInt16.toUInt32.toInt32) := ⟨_, rfl⟩
    have hcd82 : StrChars.Road.CodA ([nar .char c0] : List Int32) 0 (1 : Int32) (((([nar .char c0] : List Int32)).map (fun c => c.toInt8.toInt32)).map Value.int) := StrChars.Road.codOf (n := 1) rfl (fun c hc => (hp35 c hc).2)
    have hbd82 : ∀ c ∈ ([nar .char c0] : List Int32), ¬ c < 0 ∧ ¬ (65535 : Int32) < c := own_up _ hp35
    have f83 := ((((((((((((((((((((((((Ee38.wr W39).ext E41).keep K45).wr W46).ext E48).keep K52).wr W53).ext E55).keep K59).wr W61).ext E63).wr W64).wr W65).wr W66).wr W67).wr W68).ext E69).wr W70).wr W71).wr W72).wr W73).wr W74).ext E76).keep K77)
    have f84 := ((((((((((((((((((((((((Fv38.other W39 (Or.inl (Ne.symm ne_b32_b34))).ext E41).keep K45 (ninS ne_b34_b41 nin0)).other W46 (Or.inl (Ne.symm ne_b32_b34))).ext E48).keep K52 (ninS ne_b34_b48 nin0)).other W53 (Or.inl (Ne.symm ne_b32_b34))).ext E55).keep K59 (ninS ne_b34_b55 nin0)).other W61 (Or.inl (Ne.symm ne_b32_b34))).ext E63).other W64 (Or.inl ne_b34_b63)).other W65 (Or.inl ne_b34_b63)).other W66 (Or.inl ne_b34_b63)).other W67 (Or.inl ne_b34_b63)).other W68 (Or.inl ne_b34_b63)).ext E69).other W70 (Or.inl ne_b34_b69)).other W71 (Or.inl ne_b34_b69)).other W72 (Or.inl ne_b34_b69)).other W73 (Or.inl ne_b34_b69)).other W74 (Or.inl ne_b34_b69)).ext E76).keep K77 (ninS ne_b34_b76 nin0))
    have f85 := ((((((((((((((((((((((((Fc38.other W39 (Or.inl (Ne.symm ne_b32_b34))).ext E41).keep K45 (ninS ne_b34_b41 nin0)).other W46 (Or.inl (Ne.symm ne_b32_b34))).ext E48).keep K52 (ninS ne_b34_b48 nin0)).other W53 (Or.inl (Ne.symm ne_b32_b34))).ext E55).keep K59 (ninS ne_b34_b55 nin0)).other W61 (Or.inl (Ne.symm ne_b32_b34))).ext E63).other W64 (Or.inl ne_b34_b63)).other W65 (Or.inl ne_b34_b63)).other W66 (Or.inl ne_b34_b63)).other W67 (Or.inl ne_b34_b63)).other W68 (Or.inl ne_b34_b63)).ext E69).other W70 (Or.inl ne_b34_b69)).other W71 (Or.inl ne_b34_b69)).other W72 (Or.inl ne_b34_b69)).other W73 (Or.inl ne_b34_b69)).other W74 (Or.inl ne_b34_b69)).ext E76).keep K77 (ninS ne_b34_b76 nin0))
    have f86 := ((((((((((((((((((((((((Va38.other W39 (Ne.symm ne_b32_t38)).ext E41).keep K45 (ninS ne_t38_b41 nin0)).other W46 (Ne.symm ne_b32_t38)).ext E48).keep K52 (ninS ne_t38_b48 nin0)).other W53 (Ne.symm ne_b32_t38)).ext E55).keep K59 (ninS ne_t38_b55 nin0)).other W61 (Ne.symm ne_b32_t38)).ext E63).other W64 ne_t38_b63).other W65 ne_t38_b63).other W66 ne_t38_b63).other W67 ne_t38_b63).other W68 ne_t38_b63).ext E69).other W70 ne_t38_b69).other W71 ne_t38_b69).other W72 ne_t38_b69).other W73 ne_t38_b69).other W74 ne_t38_b69).ext E76).keep K77 (ninS ne_t38_b76 nin0))
    have f87 := ((((((((((((((((f58.keep K59 (allS g_b55 all0)).wr W61 g_b32).ext E63).wr W64 g_b63).wr W65 g_b63).wr W66 g_b63).wr W67 g_b63).wr W68 g_b63).ext E69).wr W70 g_b69).wr W71 g_b69).wr W72 g_b69).wr W73 g_b69).wr W74 g_b69).ext E76).keep K77 (allS g_b76 all0))
    obtain ⟨cq88, kq88, q88a, q88b, q88c⟩ := isOf hZ e80 f83
    obtain ⟨_, _, ⟨T88, L88, c88_, n88_⟩, -, X88, ⟨Lc88, hQ88, l88, y88, z88⟩, st88⟩ := X80.virtualBack hx (y := (⟨"java/lang/String", "length", "()I"⟩ : MethodName)) (z := (⟨"java/lang/String", "length", "()I"⟩ : MethodName)) hown (mvT hZ (hw _ (List.mem_of_getElem? (i := 69) rfl))) (mvT hZ (hw _ (List.mem_of_getElem? (i := 70) rfl))) (notFace_of_selects (args := #[]) (mvT hZ (hw _ (List.mem_of_getElem? (i := 72) rfl)))) (mvT hZ (hw _ (List.mem_of_getElem? (i := 72) rfl))) (mvT hZ (hw _ (List.mem_of_getElem? (i := 71) rfl))) (by decide) (StrChars.Road.lenW (W := 0) hZ hlw (kI := 4) (hw _ (List.mem_of_getElem? (i := 4) rfl)) f83 f84 f85 f86 hcd82 hbd82 (S_C.ext f87.2) hz (Nat.le_of_ble_eq_true rfl) (by decide) (by decide)) q88a q88c (g := (mkF m 286 #[.val (.long q1), .second, .val (.int p2), .val (.int p3), .val (.int p4), .val (.ref b24), .val (.ref b26), .val (.ref b28), .val (.ref b30), .val (.ref b32), .val (.ref b63), .val (.ref b69), .val (.int fr), .val (.int ln), .val (.int (fr + ln)), .val (.int ii), .val (.ref b76), .val (.ref b34), .val (.int kk), .val (.int ex)] [(.ref b34)])) rfl (by rw [hml]; rfl) (Steps.refl _) (argsL := []) (rest := []) (lenOf pd__28_29I rfl) rfl (by show 2 * 0 + _ ≤ _; exact Nat.le_of_eq rfl) (hb hby at_286) (fun _ _ => ⟨rfl, e80, (by decide : 16 + 0 ≤ _), (by decide : 43 + 0 ≤ _)⟩)
    dsimp only [Pt.U, Pt.locs, Pt.cells, Pt.slots] at X88 l88 y88 z88 st88 hQ88
    rw [l88, y88, z88] at X88
    obtain ⟨rfl, rfl, e88⟩ := hQ88
    have Nq88 : Fr n0 ([] : List Loc) := Fr.nil n0
    have N88 := Fr.app N80 Nq88
    have hc290 : (Int32.ofNat (([nar .char c0] : List Int32)).length) = (1 : Int32) := rfl
    have hcd89 : StrChars.Road.CodA ([nar .char c0] : List Int32) 0 (1 : Int32) (((([nar .char c0] : List Int32)).map (fun c => c.toInt8.toInt32)).map Value.int) := StrChars.Road.codOf (n := 1) rfl (fun c hc => (hp35 c hc).2)
    have hbd89 : ∀ c ∈ ([nar .char c0] : List Int32), ¬ c < 0 ∧ ¬ (65535 : Int32) < c := own_up _ hp35
    obtain ⟨cq90, kq90, q90a, q90b, q90c⟩ := isOf hZ e88 f83
    obtain ⟨_, _, ⟨T90, L90, c90_, n90_⟩, -, X90, ⟨Lc90, hQ90, l90, y90, z90⟩, st90⟩ := X88.virtualBack hx (y := (⟨"java/lang/String", "charAt", "(I)C"⟩ : MethodName)) (z := (⟨"java/lang/String", "charAt", "(I)C"⟩ : MethodName)) hown (mvT hZ (hw _ (List.mem_of_getElem? (i := 79) rfl))) (mvT hZ (hw _ (List.mem_of_getElem? (i := 80) rfl))) (notFace_of_selects (args := #[]) (mvT hZ (hw _ (List.mem_of_getElem? (i := 82) rfl)))) (mvT hZ (hw _ (List.mem_of_getElem? (i := 82) rfl))) (mvT hZ (hw _ (List.mem_of_getElem? (i := 81) rfl))) (by decide) (StrChars.Road.chN (W := 0) hZ hch (kI := 4) (hw _ (List.mem_of_getElem? (i := 4) rfl)) f83 f84 f85 f86 hcd89 hbd89 (S_C.ext f87.2) hz (S_F.ext f87.2) rf (Nat.le_of_ble_eq_true rfl) (i := 0) (Nat.le_of_ble_eq_true rfl) (j := 0) rfl (by decide) (by decide)) q90a q90c (g := (mkF m 296 #[.val (.long q1), .second, .val (.int p2), .val (.int p3), .val (.int p4), .val (.ref b24), .val (.ref b26), .val (.ref b28), .val (.ref b30), .val (.ref b32), .val (.ref b63), .val (.ref b69), .val (.int fr), .val (.int ln), .val (.int (fr + ln)), .val (.int ii), .val (.ref b76), .val (.ref b34), .val (.int kk), .val (.int ex)] [(.int (0 : Int32)), (.ref b34)])) rfl (by rw [hml]; rfl) (Steps.refl _) (argsL := [(.int (0 : Int32))]) (rest := []) (lenOf pd__28I_29C rfl) rfl (by show 2 * 0 + _ ≤ _; exact Nat.le_of_eq rfl) (hb hby at_296) (fun _ _ => ⟨rfl, e88, (by decide : 16 + 0 ≤ _), (by decide : 43 + 0 ≤ _)⟩)
    dsimp only [Pt.U, Pt.locs, Pt.cells, Pt.slots] at X90 l90 y90 z90 st90 hQ90
    rw [l90, y90, z90] at X90
    obtain ⟨rfl, rfl, e90⟩ := hQ90
    have Nq90 : Fr n0 ([] : List Loc) := Fr.nil n0
    have N90 := Fr.app N88 Nq90
    have hc301 : ((([nar .char c0] : List Int32)).getD 0 0) = ex := (by rw [e_ex, hk]; show nar .char c0 = _; rw [e_c0, own_nn]; rw [own_sh0L])
    obtain ⟨fs, hr, hrun, hended, hW, hsame⟩ := X90.leave (v := some (.int (1 : Int32))) (fun h => by rw [Bd.returns] at h; cases h)
    refine ⟨_, _, pre0 _ ?_, hrun, hended, _, _, rfl, ?_, ⟨_, rfl⟩, hW, hsame.mono (by decide) (by decide)⟩
    · refine cut33 _ ?_
      refine cut60 _ ?_
      refine cut75 _ ?_
      refine cut81 _ ?_
      show Steps p.tables e below (T80.setTop (mkF m 254 #[.val (.long q1), .second, .val (.int p2), .val (.int p3), .val (.int p4), .val (.ref b24), .val (.ref b26), .val (.ref b28), .val (.ref b30), .val (.ref b32), .val (.ref b63), .val (.ref b69), .val (.int fr), .val (.int ln), .val (.int (fr + ln)), .val (.int ii), .val (.ref b76), .unset, .unset, .unset] [(.ref (own_nth kk b34 b41 b48 b55))])) _
      rw [hnr]
      show Steps p.tables e below (T80.setTop (mkF m 254 #[.val (.long q1), .second, .val (.int p2), .val (.int p3), .val (.int p4), .val (.ref b24), .val (.ref b26), .val (.ref b28), .val (.ref b30), .val (.ref b32), .val (.ref b63), .val (.ref b69), .val (.int fr), .val (.int ln), .val (.int (fr + ln)), .val (.int ii), .val (.ref b76), .unset, .unset, .unset] [(.ref b34)])) _
      refine XS.astore X80.here hx rfl (hb hby at_254) rfl rfl (l' := #[.val (.long q1), .second, .val (.int p2), .val (.int p3), .val (.int p4), .val (.ref b24), .val (.ref b26), .val (.ref b28), .val (.ref b30), .val (.ref b32), .val (.ref b63), .val (.ref b69), .val (.int fr), .val (.int ln), .val (.int (fr + ln)), .val (.int ii), .val (.ref b76), .val (.ref b34), .unset, .unset]) rfl ?_
      show Steps p.tables e below (T80.setTop (mkF m 256 #[.val (.long q1), .second, .val (.int p2), .val (.int p3), .val (.int p4), .val (.ref b24), .val (.ref b26), .val (.ref b28), .val (.ref b30), .val (.ref b32), .val (.ref b63), .val (.ref b69), .val (.int fr), .val (.int ln), .val (.int (fr + ln)), .val (.int ii), .val (.ref b76), .val (.ref b34), .unset, .unset] [])) _
      refine XS.iloadN X80.here hx rfl (hb hby at_256) rfl ?_
      show Steps p.tables e below (T80.setTop (mkF m 257 #[.val (.long q1), .second, .val (.int p2), .val (.int p3), .val (.int p4), .val (.ref b24), .val (.ref b26), .val (.ref b28), .val (.ref b30), .val (.ref b32), .val (.ref b63), .val (.ref b69), .val (.int fr), .val (.int ln), .val (.int (fr + ln)), .val (.int ii), .val (.ref b76), .val (.ref b34), .unset, .unset] [(.int p2)])) _
      refine XS.iconst X80.here hx rfl (hb hby at_257) ?_
      show Steps p.tables e below (T80.setTop (mkF m 258 #[.val (.long q1), .second, .val (.int p2), .val (.int p3), .val (.int p4), .val (.ref b24), .val (.ref b26), .val (.ref b28), .val (.ref b30), .val (.ref b32), .val (.ref b63), .val (.ref b69), .val (.int fr), .val (.int ln), .val (.int (fr + ln)), .val (.int ii), .val (.ref b76), .val (.ref b34), .unset, .unset] [(.int (2 : Int32)), (.int p2)])) _
      refine XS.iload X80.here hx rfl (hb hby at_258) rfl ?_
      show Steps p.tables e below (T80.setTop (mkF m 260 #[.val (.long q1), .second, .val (.int p2), .val (.int p3), .val (.int p4), .val (.ref b24), .val (.ref b26), .val (.ref b28), .val (.ref b30), .val (.ref b32), .val (.ref b63), .val (.ref b69), .val (.int fr), .val (.int ln), .val (.int (fr + ln)), .val (.int ii), .val (.ref b76), .val (.ref b34), .unset, .unset] [(.int fr), (.int (2 : Int32)), (.int p2)])) _
      refine XS.iload X80.here hx rfl (hb hby at_260) rfl ?_
      show Steps p.tables e below (T80.setTop (mkF m 262 #[.val (.long q1), .second, .val (.int p2), .val (.int p3), .val (.int p4), .val (.ref b24), .val (.ref b26), .val (.ref b28), .val (.ref b30), .val (.ref b32), .val (.ref b63), .val (.ref b69), .val (.int fr), .val (.int ln), .val (.int (fr + ln)), .val (.int ii), .val (.ref b76), .val (.ref b34), .unset, .unset] [(.int ii), (.int fr), (.int (2 : Int32)), (.int p2)])) _
      refine XS.iadd X80.here hx rfl (hb hby at_262) rfl ?_
      show Steps p.tables e below (T80.setTop (mkF m 263 #[.val (.long q1), .second, .val (.int p2), .val (.int p3), .val (.int p4), .val (.ref b24), .val (.ref b26), .val (.ref b28), .val (.ref b30), .val (.ref b32), .val (.ref b63), .val (.ref b69), .val (.int fr), .val (.int ln), .val (.int (fr + ln)), .val (.int ii), .val (.ref b76), .val (.ref b34), .unset, .unset] [(.int (fr + ii)), (.int (2 : Int32)), (.int p2)])) _
      refine XS.imul X80.here hx rfl (hb hby at_263) rfl ?_
      show Steps p.tables e below (T80.setTop (mkF m 264 #[.val (.long q1), .second, .val (.int p2), .val (.int p3), .val (.int p4), .val (.ref b24), .val (.ref b26), .val (.ref b28), .val (.ref b30), .val (.ref b32), .val (.ref b63), .val (.ref b69), .val (.int fr), .val (.int ln), .val (.int (fr + ln)), .val (.int ii), .val (.ref b76), .val (.ref b34), .unset, .unset] [(.int ((2 : Int32) * (fr + ii))), (.int p2)])) _
      refine XS.iushr X80.here hx rfl (hb hby at_264) rfl ?_
      show Steps p.tables e below (T80.setTop (mkF m 265 #[.val (.long q1), .second, .val (.int p2), .val (.int p3), .val (.int p4), .val (.ref b24), .val (.ref b26), .val (.ref b28), .val (.ref b30), .val (.ref b32), .val (.ref b63), .val (.ref b69), .val (.int fr), .val (.int ln), .val (.int (fr + ln)), .val (.int ii), .val (.ref b76), .val (.ref b34), .unset, .unset] [(.int ((p2.toUInt32 >>> (((2 : Int32) * (fr + ii)) &&& 31).toUInt32).toInt32))])) _
      refine XS.iconst X80.here hx rfl (hb hby at_265) ?_
      show Steps p.tables e below (T80.setTop (mkF m 266 #[.val (.long q1), .second, .val (.int p2), .val (.int p3), .val (.int p4), .val (.ref b24), .val (.ref b26), .val (.ref b28), .val (.ref b30), .val (.ref b32), .val (.ref b63), .val (.ref b69), .val (.int fr), .val (.int ln), .val (.int (fr + ln)), .val (.int ii), .val (.ref b76), .val (.ref b34), .unset, .unset] [(.int (3 : Int32)), (.int ((p2.toUInt32 >>> (((2 : Int32) * (fr + ii)) &&& 31).toUInt32).toInt32))])) _
      refine XS.iand X80.here hx rfl (hb hby at_266) rfl ?_
      show Steps p.tables e below (T80.setTop (mkF m 267 #[.val (.long q1), .second, .val (.int p2), .val (.int p3), .val (.int p4), .val (.ref b24), .val (.ref b26), .val (.ref b28), .val (.ref b30), .val (.ref b32), .val (.ref b63), .val (.ref b69), .val (.int fr), .val (.int ln), .val (.int (fr + ln)), .val (.int ii), .val (.ref b76), .val (.ref b34), .unset, .unset] [(.int (((p2.toUInt32 >>> (((2 : Int32) * (fr + ii)) &&& 31).toUInt32).toInt32) &&& (3 : Int32)))])) _
      rw [← e_kk]
      show Steps p.tables e below (T80.setTop (mkF m 267 #[.val (.long q1), .second, .val (.int p2), .val (.int p3), .val (.int p4), .val (.ref b24), .val (.ref b26), .val (.ref b28), .val (.ref b30), .val (.ref b32), .val (.ref b63), .val (.ref b69), .val (.int fr), .val (.int ln), .val (.int (fr + ln)), .val (.int ii), .val (.ref b76), .val (.ref b34), .unset, .unset] [(.int kk)])) _
      refine XS.istore X80.here hx rfl (hb hby at_267) rfl (l' := #[.val (.long q1), .second, .val (.int p2), .val (.int p3), .val (.int p4), .val (.ref b24), .val (.ref b26), .val (.ref b28), .val (.ref b30), .val (.ref b32), .val (.ref b63), .val (.ref b69), .val (.int fr), .val (.int ln), .val (.int (fr + ln)), .val (.int ii), .val (.ref b76), .val (.ref b34), .val (.int kk), .unset]) rfl ?_
      show Steps p.tables e below (T80.setTop (mkF m 269 #[.val (.long q1), .second, .val (.int p2), .val (.int p3), .val (.int p4), .val (.ref b24), .val (.ref b26), .val (.ref b28), .val (.ref b30), .val (.ref b32), .val (.ref b63), .val (.ref b69), .val (.int fr), .val (.int ln), .val (.int (fr + ln)), .val (.int ii), .val (.ref b76), .val (.ref b34), .val (.int kk), .unset] [])) _
      refine XS.lloadN X80.here hx rfl (hb hby at_269) rfl ?_
      show Steps p.tables e below (T80.setTop (mkF m 270 #[.val (.long q1), .second, .val (.int p2), .val (.int p3), .val (.int p4), .val (.ref b24), .val (.ref b26), .val (.ref b28), .val (.ref b30), .val (.ref b32), .val (.ref b63), .val (.ref b69), .val (.int fr), .val (.int ln), .val (.int (fr + ln)), .val (.int ii), .val (.ref b76), .val (.ref b34), .val (.int kk), .unset] [(.long q1)])) _
      refine XS.bipush X80.here hx rfl (hb hby at_270) ?_
      show Steps p.tables e below (T80.setTop (mkF m 272 #[.val (.long q1), .second, .val (.int p2), .val (.int p3), .val (.int p4), .val (.ref b24), .val (.ref b26), .val (.ref b28), .val (.ref b30), .val (.ref b32), .val (.ref b63), .val (.ref b69), .val (.int fr), .val (.int ln), .val (.int (fr + ln)), .val (.int ii), .val (.ref b76), .val (.ref b34), .val (.int kk), .unset] [(.int (8 : Int32)), (.long q1)])) _
      refine XS.iload X80.here hx rfl (hb hby at_272) rfl ?_
      show Steps p.tables e below (T80.setTop (mkF m 274 #[.val (.long q1), .second, .val (.int p2), .val (.int p3), .val (.int p4), .val (.ref b24), .val (.ref b26), .val (.ref b28), .val (.ref b30), .val (.ref b32), .val (.ref b63), .val (.ref b69), .val (.int fr), .val (.int ln), .val (.int (fr + ln)), .val (.int ii), .val (.ref b76), .val (.ref b34), .val (.int kk), .unset] [(.int kk), (.int (8 : Int32)), (.long q1)])) _
      refine XS.imul X80.here hx rfl (hb hby at_274) rfl ?_
      show Steps p.tables e below (T80.setTop (mkF m 275 #[.val (.long q1), .second, .val (.int p2), .val (.int p3), .val (.int p4), .val (.ref b24), .val (.ref b26), .val (.ref b28), .val (.ref b30), .val (.ref b32), .val (.ref b63), .val (.ref b69), .val (.int fr), .val (.int ln), .val (.int (fr + ln)), .val (.int ii), .val (.ref b76), .val (.ref b34), .val (.int kk), .unset] [(.int ((8 : Int32) * kk)), (.long q1)])) _
      refine XS.lushr X80.here hx rfl (hb hby at_275) rfl ?_
      show Steps p.tables e below (T80.setTop (mkF m 276 #[.val (.long q1), .second, .val (.int p2), .val (.int p3), .val (.int p4), .val (.ref b24), .val (.ref b26), .val (.ref b28), .val (.ref b30), .val (.ref b32), .val (.ref b63), .val (.ref b69), .val (.int fr), .val (.int ln), .val (.int (fr + ln)), .val (.int ii), .val (.ref b76), .val (.ref b34), .val (.int kk), .unset] [(.long ((q1.toUInt64 >>> (((8 : Int32) * kk) &&& 0x3f).toInt64.toUInt64).toInt64))])) _
      refine X80.ldc2Long hx hown (mvT hZ (hw _ (List.mem_of_getElem? (i := 1) rfl))) (g := (mkF m 276 #[.val (.long q1), .second, .val (.int p2), .val (.int p3), .val (.int p4), .val (.ref b24), .val (.ref b26), .val (.ref b28), .val (.ref b30), .val (.ref b32), .val (.ref b63), .val (.ref b69), .val (.int fr), .val (.int ln), .val (.int (fr + ln)), .val (.int ii), .val (.ref b76), .val (.ref b34), .val (.int kk), .unset] [(.long ((q1.toUInt64 >>> (((8 : Int32) * kk) &&& 0x3f).toInt64.toUInt64).toInt64))])) rfl (hb hby at_276) _ ?_
      show Steps p.tables e below (T80.setTop (mkF m 279 #[.val (.long q1), .second, .val (.int p2), .val (.int p3), .val (.int p4), .val (.ref b24), .val (.ref b26), .val (.ref b28), .val (.ref b30), .val (.ref b32), .val (.ref b63), .val (.ref b69), .val (.int fr), .val (.int ln), .val (.int (fr + ln)), .val (.int ii), .val (.ref b76), .val (.ref b34), .val (.int kk), .unset] [(.long (255 : Int64)), (.long ((q1.toUInt64 >>> (((8 : Int32) * kk) &&& 0x3f).toInt64.toUInt64).toInt64))])) _
      refine XS.land X80.here hx rfl (hb hby at_279) rfl ?_
      show Steps p.tables e below (T80.setTop (mkF m 280 #[.val (.long q1), .second, .val (.int p2), .val (.int p3), .val (.int p4), .val (.ref b24), .val (.ref b26), .val (.ref b28), .val (.ref b30), .val (.ref b32), .val (.ref b63), .val (.ref b69), .val (.int fr), .val (.int ln), .val (.int (fr + ln)), .val (.int ii), .val (.ref b76), .val (.ref b34), .val (.int kk), .unset] [(.long (((q1.toUInt64 >>> (((8 : Int32) * kk) &&& 0x3f).toInt64.toUInt64).toInt64) &&& (255 : Int64)))])) _
      refine XS.l2i X80.here hx rfl (hb hby at_280) rfl ?_
      show Steps p.tables e below (T80.setTop (mkF m 281 #[.val (.long q1), .second, .val (.int p2), .val (.int p3), .val (.int p4), .val (.ref b24), .val (.ref b26), .val (.ref b28), .val (.ref b30), .val (.ref b32), .val (.ref b63), .val (.ref b69), .val (.int fr), .val (.int ln), .val (.int (fr + ln)), .val (.int ii), .val (.ref b76), .val (.ref b34), .val (.int kk), .unset] [(.int ((((q1.toUInt64 >>> (((8 : Int32) * kk) &&& 0x3f).toInt64.toUInt64).toInt64) &&& (255 : Int64)).toInt32))])) _
      refine XS.i2c X80.here hx rfl (hb hby at_281) rfl ?_
      show Steps p.tables e below (T80.setTop (mkF m 282 #[.val (.long q1), .second, .val (.int p2), .val (.int p3), .val (.int p4), .val (.ref b24), .val (.ref b26), .val (.ref b28), .val (.ref b30), .val (.ref b32), .val (.ref b63), .val (.ref b69), .val (.int fr), .val (.int ln), .val (.int (fr + ln)), .val (.int ii), .val (.ref b76), .val (.ref b34), .val (.int kk), .unset] [(.int (((((q1.toUInt64 >>> (((8 : Int32) * kk) &&& 0x3f).toInt64.toUInt64).toInt64) &&& (255 : Int64)).toInt32).toUInt32.toUInt16.toUInt32.toInt32))])) _
      refine XS.istore X80.here hx rfl (hb hby at_282) rfl (l' := #[.val (.long q1), .second, .val (.int p2), .val (.int p3), .val (.int p4), .val (.ref b24), .val (.ref b26), .val (.ref b28), .val (.ref b30), .val (.ref b32), .val (.ref b63), .val (.ref b69), .val (.int fr), .val (.int ln), .val (.int (fr + ln)), .val (.int ii), .val (.ref b76), .val (.ref b34), .val (.int kk), .val (.int (((((q1.toUInt64 >>> (((8 : Int32) * kk) &&& 0x3f).toInt64.toUInt64).toInt64) &&& (255 : Int64)).toInt32).toUInt32.toUInt16.toUInt32.toInt32))]) rfl ?_
      show Steps p.tables e below (T80.setTop (mkF m 284 #[.val (.long q1), .second, .val (.int p2), .val (.int p3), .val (.int p4), .val (.ref b24), .val (.ref b26), .val (.ref b28), .val (.ref b30), .val (.ref b32), .val (.ref b63), .val (.ref b69), .val (.int fr), .val (.int ln), .val (.int (fr + ln)), .val (.int ii), .val (.ref b76), .val (.ref b34), .val (.int kk), .val (.int (((((q1.toUInt64 >>> (((8 : Int32) * kk) &&& 0x3f).toInt64.toUInt64).toInt64) &&& (255 : Int64)).toInt32).toUInt32.toUInt16.toUInt32.toInt32))] [])) _
      rw [← e_ex]
      show Steps p.tables e below (T80.setTop (mkF m 284 #[.val (.long q1), .second, .val (.int p2), .val (.int p3), .val (.int p4), .val (.ref b24), .val (.ref b26), .val (.ref b28), .val (.ref b30), .val (.ref b32), .val (.ref b63), .val (.ref b69), .val (.int fr), .val (.int ln), .val (.int (fr + ln)), .val (.int ii), .val (.ref b76), .val (.ref b34), .val (.int kk), .val (.int ex)] [])) _
      refine XS.aload X80.here hx rfl (hb hby at_284) rfl rfl ?_
      show Steps p.tables e below (T80.setTop (mkF m 286 #[.val (.long q1), .second, .val (.int p2), .val (.int p3), .val (.int p4), .val (.ref b24), .val (.ref b26), .val (.ref b28), .val (.ref b30), .val (.ref b32), .val (.ref b63), .val (.ref b69), .val (.int fr), .val (.int ln), .val (.int (fr + ln)), .val (.int ii), .val (.ref b76), .val (.ref b34), .val (.int kk), .val (.int ex)] [(.ref b34)])) _
      refine st88.trans ?_
      show Steps p.tables e below (T88.setTop (mkF m 289 #[.val (.long q1), .second, .val (.int p2), .val (.int p3), .val (.int p4), .val (.ref b24), .val (.ref b26), .val (.ref b28), .val (.ref b30), .val (.ref b32), .val (.ref b63), .val (.ref b69), .val (.int fr), .val (.int ln), .val (.int (fr + ln)), .val (.int ii), .val (.ref b76), .val (.ref b34), .val (.int kk), .val (.int ex)] [(.int (Int32.ofNat (([nar .char c0] : List Int32)).length))])) _
      refine XS.iconst X88.here hx rfl (hb hby at_289) ?_
      show Steps p.tables e below (T88.setTop (mkF m 290 #[.val (.long q1), .second, .val (.int p2), .val (.int p3), .val (.int p4), .val (.ref b24), .val (.ref b26), .val (.ref b28), .val (.ref b30), .val (.ref b32), .val (.ref b63), .val (.ref b69), .val (.int fr), .val (.int ln), .val (.int (fr + ln)), .val (.int ii), .val (.ref b76), .val (.ref b34), .val (.int kk), .val (.int ex)] [(.int (1 : Int32)), (.int (Int32.ofNat (([nar .char c0] : List Int32)).length))])) _
      refine XS.icmpNo X88.here hx rfl (hb hby at_290) rfl (teq hc290).2 ?_
      show Steps p.tables e below (T88.setTop (mkF m 293 #[.val (.long q1), .second, .val (.int p2), .val (.int p3), .val (.int p4), .val (.ref b24), .val (.ref b26), .val (.ref b28), .val (.ref b30), .val (.ref b32), .val (.ref b63), .val (.ref b69), .val (.int fr), .val (.int ln), .val (.int (fr + ln)), .val (.int ii), .val (.ref b76), .val (.ref b34), .val (.int kk), .val (.int ex)] [])) _
      refine XS.aload X88.here hx rfl (hb hby at_293) rfl rfl ?_
      show Steps p.tables e below (T88.setTop (mkF m 295 #[.val (.long q1), .second, .val (.int p2), .val (.int p3), .val (.int p4), .val (.ref b24), .val (.ref b26), .val (.ref b28), .val (.ref b30), .val (.ref b32), .val (.ref b63), .val (.ref b69), .val (.int fr), .val (.int ln), .val (.int (fr + ln)), .val (.int ii), .val (.ref b76), .val (.ref b34), .val (.int kk), .val (.int ex)] [(.ref b34)])) _
      refine XS.iconst X88.here hx rfl (hb hby at_295) ?_
      show Steps p.tables e below (T88.setTop (mkF m 296 #[.val (.long q1), .second, .val (.int p2), .val (.int p3), .val (.int p4), .val (.ref b24), .val (.ref b26), .val (.ref b28), .val (.ref b30), .val (.ref b32), .val (.ref b63), .val (.ref b69), .val (.int fr), .val (.int ln), .val (.int (fr + ln)), .val (.int ii), .val (.ref b76), .val (.ref b34), .val (.int kk), .val (.int ex)] [(.int (0 : Int32)), (.ref b34)])) _
      refine st90.trans ?_
      show Steps p.tables e below (T90.setTop (mkF m 299 #[.val (.long q1), .second, .val (.int p2), .val (.int p3), .val (.int p4), .val (.ref b24), .val (.ref b26), .val (.ref b28), .val (.ref b30), .val (.ref b32), .val (.ref b63), .val (.ref b69), .val (.int fr), .val (.int ln), .val (.int (fr + ln)), .val (.int ii), .val (.ref b76), .val (.ref b34), .val (.int kk), .val (.int ex)] [(.int ((([nar .char c0] : List Int32)).getD 0 0))])) _
      refine XS.iload X90.here hx rfl (hb hby at_299) rfl ?_
      show Steps p.tables e below (T90.setTop (mkF m 301 #[.val (.long q1), .second, .val (.int p2), .val (.int p3), .val (.int p4), .val (.ref b24), .val (.ref b26), .val (.ref b28), .val (.ref b30), .val (.ref b32), .val (.ref b63), .val (.ref b69), .val (.int fr), .val (.int ln), .val (.int (fr + ln)), .val (.int ii), .val (.ref b76), .val (.ref b34), .val (.int kk), .val (.int ex)] [(.int ex), (.int ((([nar .char c0] : List Int32)).getD 0 0))])) _
      refine XS.icmpNo X90.here hx rfl (hb hby at_301) rfl (teq hc301).2 ?_
      show Steps p.tables e below (T90.setTop (mkF m 304 #[.val (.long q1), .second, .val (.int p2), .val (.int p3), .val (.int p4), .val (.ref b24), .val (.ref b26), .val (.ref b28), .val (.ref b30), .val (.ref b32), .val (.ref b63), .val (.ref b69), .val (.int fr), .val (.int ln), .val (.int (fr + ln)), .val (.int ii), .val (.ref b76), .val (.ref b34), .val (.int kk), .val (.int ex)] [])) _
      refine XS.iconst X90.here hx rfl (hb hby at_304) ?_
      show Steps p.tables e below (T90.setTop (mkF m 305 #[.val (.long q1), .second, .val (.int p2), .val (.int p3), .val (.int p4), .val (.ref b24), .val (.ref b26), .val (.ref b28), .val (.ref b30), .val (.ref b32), .val (.ref b63), .val (.ref b69), .val (.int fr), .val (.int ln), .val (.int (fr + ln)), .val (.int ii), .val (.ref b76), .val (.ref b34), .val (.int kk), .val (.int ex)] [(.int (1 : Int32))])) _
      refine XS.goto X90.here hx rfl (pc0 := 305) (pc' := 309) rfl (hb hby at_305) (by decide) (by decide) ?_
      show Steps p.tables e below (T90.setTop (mkF m 309 #[.val (.long q1), .second, .val (.int p2), .val (.int p3), .val (.int p4), .val (.ref b24), .val (.ref b26), .val (.ref b28), .val (.ref b30), .val (.ref b32), .val (.ref b63), .val (.ref b69), .val (.int fr), .val (.int ln), .val (.int (fr + ln)), .val (.int ii), .val (.ref b76), .val (.ref b34), .val (.int kk), .val (.int ex)] [(.int (1 : Int32))])) _
      exact retN X90 hx (t := .boolean) Bd.returns (by simp) (hb hby at_309) hr
    · show Q_0 Z q1 p2 p3 p4 h0 n0 _ T90.heap _
      rw [e90]
      exact ⟨rfl, N90⟩
  · have hnr : (own_nth kk b34 b41 b48 b55) = b41 := by rw [hk]; rfl
    obtain ⟨ex, e_ex⟩ : ∃ z : Int32, z = (((((q1.toUInt64 >>> (((8 : Int32) * kk) &&& 0x3f).toInt64.toUInt64).toInt64) &&& (255 : Int64)).toInt32).toUInt32.toUInt16.toUInt32.toInt32) := ⟨_, rfl⟩
    have hcd91 : StrChars.Road.CodA ([nar .char c1] : List Int32) 0 (1 : Int32) (((([nar .char c1] : List Int32)).map (fun c => c.toInt8.toInt32)).map Value.int) := StrChars.Road.codOf (n := 1) rfl (fun c hc => (hp42 c hc).2)
    have hbd91 : ∀ c ∈ ([nar .char c1] : List Int32), ¬ c < 0 ∧ ¬ (65535 : Int32) < c := own_up _ hp42
    have f92 := (((((((((((((((((((((Ee45.wr W46).ext E48).keep K52).wr W53).ext E55).keep K59).wr W61).ext E63).wr W64).wr W65).wr W66).wr W67).wr W68).ext E69).wr W70).wr W71).wr W72).wr W73).wr W74).ext E76).keep K77)
    have f93 := (((((((((((((((((((((Fv45.other W46 (Or.inl (Ne.symm ne_b32_b41))).ext E48).keep K52 (ninS ne_b41_b48 nin0)).other W53 (Or.inl (Ne.symm ne_b32_b41))).ext E55).keep K59 (ninS ne_b41_b55 nin0)).other W61 (Or.inl (Ne.symm ne_b32_b41))).ext E63).other W64 (Or.inl ne_b41_b63)).other W65 (Or.inl ne_b41_b63)).other W66 (Or.inl ne_b41_b63)).other W67 (Or.inl ne_b41_b63)).other W68 (Or.inl ne_b41_b63)).ext E69).other W70 (Or.inl ne_b41_b69)).other W71 (Or.inl ne_b41_b69)).other W72 (Or.inl ne_b41_b69)).other W73 (Or.inl ne_b41_b69)).other W74 (Or.inl ne_b41_b69)).ext E76).keep K77 (ninS ne_b41_b76 nin0))
    have f94 := (((((((((((((((((((((Fc45.other W46 (Or.inl (Ne.symm ne_b32_b41))).ext E48).keep K52 (ninS ne_b41_b48 nin0)).other W53 (Or.inl (Ne.symm ne_b32_b41))).ext E55).keep K59 (ninS ne_b41_b55 nin0)).other W61 (Or.inl (Ne.symm ne_b32_b41))).ext E63).other W64 (Or.inl ne_b41_b63)).other W65 (Or.inl ne_b41_b63)).other W66 (Or.inl ne_b41_b63)).other W67 (Or.inl ne_b41_b63)).other W68 (Or.inl ne_b41_b63)).ext E69).other W70 (Or.inl ne_b41_b69)).other W71 (Or.inl ne_b41_b69)).other W72 (Or.inl ne_b41_b69)).other W73 (Or.inl ne_b41_b69)).other W74 (Or.inl ne_b41_b69)).ext E76).keep K77 (ninS ne_b41_b76 nin0))
    have f95 := (((((((((((((((((((((Va45.other W46 (Ne.symm ne_b32_t45)).ext E48).keep K52 (ninS ne_t45_b48 nin0)).other W53 (Ne.symm ne_b32_t45)).ext E55).keep K59 (ninS ne_t45_b55 nin0)).other W61 (Ne.symm ne_b32_t45)).ext E63).other W64 ne_t45_b63).other W65 ne_t45_b63).other W66 ne_t45_b63).other W67 ne_t45_b63).other W68 ne_t45_b63).ext E69).other W70 ne_t45_b69).other W71 ne_t45_b69).other W72 ne_t45_b69).other W73 ne_t45_b69).other W74 ne_t45_b69).ext E76).keep K77 (ninS ne_t45_b76 nin0))
    have f96 := ((((((((((((((((f58.keep K59 (allS g_b55 all0)).wr W61 g_b32).ext E63).wr W64 g_b63).wr W65 g_b63).wr W66 g_b63).wr W67 g_b63).wr W68 g_b63).ext E69).wr W70 g_b69).wr W71 g_b69).wr W72 g_b69).wr W73 g_b69).wr W74 g_b69).ext E76).keep K77 (allS g_b76 all0))
    obtain ⟨cq97, kq97, q97a, q97b, q97c⟩ := isOf hZ e80 f92
    obtain ⟨_, _, ⟨T97, L97, c97_, n97_⟩, -, X97, ⟨Lc97, hQ97, l97, y97, z97⟩, st97⟩ := X80.virtualBack hx (y := (⟨"java/lang/String", "length", "()I"⟩ : MethodName)) (z := (⟨"java/lang/String", "length", "()I"⟩ : MethodName)) hown (mvT hZ (hw _ (List.mem_of_getElem? (i := 69) rfl))) (mvT hZ (hw _ (List.mem_of_getElem? (i := 70) rfl))) (notFace_of_selects (args := #[]) (mvT hZ (hw _ (List.mem_of_getElem? (i := 72) rfl)))) (mvT hZ (hw _ (List.mem_of_getElem? (i := 72) rfl))) (mvT hZ (hw _ (List.mem_of_getElem? (i := 71) rfl))) (by decide) (StrChars.Road.lenW (W := 0) hZ hlw (kI := 4) (hw _ (List.mem_of_getElem? (i := 4) rfl)) f92 f93 f94 f95 hcd91 hbd91 (S_C.ext f96.2) hz (Nat.le_of_ble_eq_true rfl) (by decide) (by decide)) q97a q97c (g := (mkF m 286 #[.val (.long q1), .second, .val (.int p2), .val (.int p3), .val (.int p4), .val (.ref b24), .val (.ref b26), .val (.ref b28), .val (.ref b30), .val (.ref b32), .val (.ref b63), .val (.ref b69), .val (.int fr), .val (.int ln), .val (.int (fr + ln)), .val (.int ii), .val (.ref b76), .val (.ref b41), .val (.int kk), .val (.int ex)] [(.ref b41)])) rfl (by rw [hml]; rfl) (Steps.refl _) (argsL := []) (rest := []) (lenOf pd__28_29I rfl) rfl (by show 2 * 0 + _ ≤ _; exact Nat.le_of_eq rfl) (hb hby at_286) (fun _ _ => ⟨rfl, e80, (by decide : 16 + 0 ≤ _), (by decide : 43 + 0 ≤ _)⟩)
    dsimp only [Pt.U, Pt.locs, Pt.cells, Pt.slots] at X97 l97 y97 z97 st97 hQ97
    rw [l97, y97, z97] at X97
    obtain ⟨rfl, rfl, e97⟩ := hQ97
    have Nq97 : Fr n0 ([] : List Loc) := Fr.nil n0
    have N97 := Fr.app N80 Nq97
    have hc290 : (Int32.ofNat (([nar .char c1] : List Int32)).length) = (1 : Int32) := rfl
    have hcd98 : StrChars.Road.CodA ([nar .char c1] : List Int32) 0 (1 : Int32) (((([nar .char c1] : List Int32)).map (fun c => c.toInt8.toInt32)).map Value.int) := StrChars.Road.codOf (n := 1) rfl (fun c hc => (hp42 c hc).2)
    have hbd98 : ∀ c ∈ ([nar .char c1] : List Int32), ¬ c < 0 ∧ ¬ (65535 : Int32) < c := own_up _ hp42
    obtain ⟨cq99, kq99, q99a, q99b, q99c⟩ := isOf hZ e97 f92
    obtain ⟨_, _, ⟨T99, L99, c99_, n99_⟩, -, X99, ⟨Lc99, hQ99, l99, y99, z99⟩, st99⟩ := X97.virtualBack hx (y := (⟨"java/lang/String", "charAt", "(I)C"⟩ : MethodName)) (z := (⟨"java/lang/String", "charAt", "(I)C"⟩ : MethodName)) hown (mvT hZ (hw _ (List.mem_of_getElem? (i := 79) rfl))) (mvT hZ (hw _ (List.mem_of_getElem? (i := 80) rfl))) (notFace_of_selects (args := #[]) (mvT hZ (hw _ (List.mem_of_getElem? (i := 82) rfl)))) (mvT hZ (hw _ (List.mem_of_getElem? (i := 82) rfl))) (mvT hZ (hw _ (List.mem_of_getElem? (i := 81) rfl))) (by decide) (StrChars.Road.chN (W := 0) hZ hch (kI := 4) (hw _ (List.mem_of_getElem? (i := 4) rfl)) f92 f93 f94 f95 hcd98 hbd98 (S_C.ext f96.2) hz (S_F.ext f96.2) rf (Nat.le_of_ble_eq_true rfl) (i := 0) (Nat.le_of_ble_eq_true rfl) (j := 0) rfl (by decide) (by decide)) q99a q99c (g := (mkF m 296 #[.val (.long q1), .second, .val (.int p2), .val (.int p3), .val (.int p4), .val (.ref b24), .val (.ref b26), .val (.ref b28), .val (.ref b30), .val (.ref b32), .val (.ref b63), .val (.ref b69), .val (.int fr), .val (.int ln), .val (.int (fr + ln)), .val (.int ii), .val (.ref b76), .val (.ref b41), .val (.int kk), .val (.int ex)] [(.int (0 : Int32)), (.ref b41)])) rfl (by rw [hml]; rfl) (Steps.refl _) (argsL := [(.int (0 : Int32))]) (rest := []) (lenOf pd__28I_29C rfl) rfl (by show 2 * 0 + _ ≤ _; exact Nat.le_of_eq rfl) (hb hby at_296) (fun _ _ => ⟨rfl, e97, (by decide : 16 + 0 ≤ _), (by decide : 43 + 0 ≤ _)⟩)
    dsimp only [Pt.U, Pt.locs, Pt.cells, Pt.slots] at X99 l99 y99 z99 st99 hQ99
    rw [l99, y99, z99] at X99
    obtain ⟨rfl, rfl, e99⟩ := hQ99
    have Nq99 : Fr n0 ([] : List Loc) := Fr.nil n0
    have N99 := Fr.app N97 Nq99
    have hc301 : ((([nar .char c1] : List Int32)).getD 0 0) = ex := (by rw [e_ex, hk]; show nar .char c1 = _; rw [e_c1, own_nn]; rfl)
    obtain ⟨fs, hr, hrun, hended, hW, hsame⟩ := X99.leave (v := some (.int (1 : Int32))) (fun h => by rw [Bd.returns] at h; cases h)
    refine ⟨_, _, pre0 _ ?_, hrun, hended, _, _, rfl, ?_, ⟨_, rfl⟩, hW, hsame.mono (by decide) (by decide)⟩
    · refine cut33 _ ?_
      refine cut60 _ ?_
      refine cut75 _ ?_
      refine cut81 _ ?_
      show Steps p.tables e below (T80.setTop (mkF m 254 #[.val (.long q1), .second, .val (.int p2), .val (.int p3), .val (.int p4), .val (.ref b24), .val (.ref b26), .val (.ref b28), .val (.ref b30), .val (.ref b32), .val (.ref b63), .val (.ref b69), .val (.int fr), .val (.int ln), .val (.int (fr + ln)), .val (.int ii), .val (.ref b76), .unset, .unset, .unset] [(.ref (own_nth kk b34 b41 b48 b55))])) _
      rw [hnr]
      show Steps p.tables e below (T80.setTop (mkF m 254 #[.val (.long q1), .second, .val (.int p2), .val (.int p3), .val (.int p4), .val (.ref b24), .val (.ref b26), .val (.ref b28), .val (.ref b30), .val (.ref b32), .val (.ref b63), .val (.ref b69), .val (.int fr), .val (.int ln), .val (.int (fr + ln)), .val (.int ii), .val (.ref b76), .unset, .unset, .unset] [(.ref b41)])) _
      refine XS.astore X80.here hx rfl (hb hby at_254) rfl rfl (l' := #[.val (.long q1), .second, .val (.int p2), .val (.int p3), .val (.int p4), .val (.ref b24), .val (.ref b26), .val (.ref b28), .val (.ref b30), .val (.ref b32), .val (.ref b63), .val (.ref b69), .val (.int fr), .val (.int ln), .val (.int (fr + ln)), .val (.int ii), .val (.ref b76), .val (.ref b41), .unset, .unset]) rfl ?_
      show Steps p.tables e below (T80.setTop (mkF m 256 #[.val (.long q1), .second, .val (.int p2), .val (.int p3), .val (.int p4), .val (.ref b24), .val (.ref b26), .val (.ref b28), .val (.ref b30), .val (.ref b32), .val (.ref b63), .val (.ref b69), .val (.int fr), .val (.int ln), .val (.int (fr + ln)), .val (.int ii), .val (.ref b76), .val (.ref b41), .unset, .unset] [])) _
      refine XS.iloadN X80.here hx rfl (hb hby at_256) rfl ?_
      show Steps p.tables e below (T80.setTop (mkF m 257 #[.val (.long q1), .second, .val (.int p2), .val (.int p3), .val (.int p4), .val (.ref b24), .val (.ref b26), .val (.ref b28), .val (.ref b30), .val (.ref b32), .val (.ref b63), .val (.ref b69), .val (.int fr), .val (.int ln), .val (.int (fr + ln)), .val (.int ii), .val (.ref b76), .val (.ref b41), .unset, .unset] [(.int p2)])) _
      refine XS.iconst X80.here hx rfl (hb hby at_257) ?_
      show Steps p.tables e below (T80.setTop (mkF m 258 #[.val (.long q1), .second, .val (.int p2), .val (.int p3), .val (.int p4), .val (.ref b24), .val (.ref b26), .val (.ref b28), .val (.ref b30), .val (.ref b32), .val (.ref b63), .val (.ref b69), .val (.int fr), .val (.int ln), .val (.int (fr + ln)), .val (.int ii), .val (.ref b76), .val (.ref b41), .unset, .unset] [(.int (2 : Int32)), (.int p2)])) _
      refine XS.iload X80.here hx rfl (hb hby at_258) rfl ?_
      show Steps p.tables e below (T80.setTop (mkF m 260 #[.val (.long q1), .second, .val (.int p2), .val (.int p3), .val (.int p4), .val (.ref b24), .val (.ref b26), .val (.ref b28), .val (.ref b30), .val (.ref b32), .val (.ref b63), .val (.ref b69), .val (.int fr), .val (.int ln), .val (.int (fr + ln)), .val (.int ii), .val (.ref b76), .val (.ref b41), .unset, .unset] [(.int fr), (.int (2 : Int32)), (.int p2)])) _
      refine XS.iload X80.here hx rfl (hb hby at_260) rfl ?_
      show Steps p.tables e below (T80.setTop (mkF m 262 #[.val (.long q1), .second, .val (.int p2), .val (.int p3), .val (.int p4), .val (.ref b24), .val (.ref b26), .val (.ref b28), .val (.ref b30), .val (.ref b32), .val (.ref b63), .val (.ref b69), .val (.int fr), .val (.int ln), .val (.int (fr + ln)), .val (.int ii), .val (.ref b76), .val (.ref b41), .unset, .unset] [(.int ii), (.int fr), (.int (2 : Int32)), (.int p2)])) _
      refine XS.iadd X80.here hx rfl (hb hby at_262) rfl ?_
      show Steps p.tables e below (T80.setTop (mkF m 263 #[.val (.long q1), .second, .val (.int p2), .val (.int p3), .val (.int p4), .val (.ref b24), .val (.ref b26), .val (.ref b28), .val (.ref b30), .val (.ref b32), .val (.ref b63), .val (.ref b69), .val (.int fr), .val (.int ln), .val (.int (fr + ln)), .val (.int ii), .val (.ref b76), .val (.ref b41), .unset, .unset] [(.int (fr + ii)), (.int (2 : Int32)), (.int p2)])) _
      refine XS.imul X80.here hx rfl (hb hby at_263) rfl ?_
      show Steps p.tables e below (T80.setTop (mkF m 264 #[.val (.long q1), .second, .val (.int p2), .val (.int p3), .val (.int p4), .val (.ref b24), .val (.ref b26), .val (.ref b28), .val (.ref b30), .val (.ref b32), .val (.ref b63), .val (.ref b69), .val (.int fr), .val (.int ln), .val (.int (fr + ln)), .val (.int ii), .val (.ref b76), .val (.ref b41), .unset, .unset] [(.int ((2 : Int32) * (fr + ii))), (.int p2)])) _
      refine XS.iushr X80.here hx rfl (hb hby at_264) rfl ?_
      show Steps p.tables e below (T80.setTop (mkF m 265 #[.val (.long q1), .second, .val (.int p2), .val (.int p3), .val (.int p4), .val (.ref b24), .val (.ref b26), .val (.ref b28), .val (.ref b30), .val (.ref b32), .val (.ref b63), .val (.ref b69), .val (.int fr), .val (.int ln), .val (.int (fr + ln)), .val (.int ii), .val (.ref b76), .val (.ref b41), .unset, .unset] [(.int ((p2.toUInt32 >>> (((2 : Int32) * (fr + ii)) &&& 31).toUInt32).toInt32))])) _
      refine XS.iconst X80.here hx rfl (hb hby at_265) ?_
      show Steps p.tables e below (T80.setTop (mkF m 266 #[.val (.long q1), .second, .val (.int p2), .val (.int p3), .val (.int p4), .val (.ref b24), .val (.ref b26), .val (.ref b28), .val (.ref b30), .val (.ref b32), .val (.ref b63), .val (.ref b69), .val (.int fr), .val (.int ln), .val (.int (fr + ln)), .val (.int ii), .val (.ref b76), .val (.ref b41), .unset, .unset] [(.int (3 : Int32)), (.int ((p2.toUInt32 >>> (((2 : Int32) * (fr + ii)) &&& 31).toUInt32).toInt32))])) _
      refine XS.iand X80.here hx rfl (hb hby at_266) rfl ?_
      show Steps p.tables e below (T80.setTop (mkF m 267 #[.val (.long q1), .second, .val (.int p2), .val (.int p3), .val (.int p4), .val (.ref b24), .val (.ref b26), .val (.ref b28), .val (.ref b30), .val (.ref b32), .val (.ref b63), .val (.ref b69), .val (.int fr), .val (.int ln), .val (.int (fr + ln)), .val (.int ii), .val (.ref b76), .val (.ref b41), .unset, .unset] [(.int (((p2.toUInt32 >>> (((2 : Int32) * (fr + ii)) &&& 31).toUInt32).toInt32) &&& (3 : Int32)))])) _
      rw [← e_kk]
      show Steps p.tables e below (T80.setTop (mkF m 267 #[.val (.long q1), .second, .val (.int p2), .val (.int p3), .val (.int p4), .val (.ref b24), .val (.ref b26), .val (.ref b28), .val (.ref b30), .val (.ref b32), .val (.ref b63), .val (.ref b69), .val (.int fr), .val (.int ln), .val (.int (fr + ln)), .val (.int ii), .val (.ref b76), .val (.ref b41), .unset, .unset] [(.int kk)])) _
      refine XS.istore X80.here hx rfl (hb hby at_267) rfl (l' := #[.val (.long q1), .second, .val (.int p2), .val (.int p3), .val (.int p4), .val (.ref b24), .val (.ref b26), .val (.ref b28), .val (.ref b30), .val (.ref b32), .val (.ref b63), .val (.ref b69), .val (.int fr), .val (.int ln), .val (.int (fr + ln)), .val (.int ii), .val (.ref b76), .val (.ref b41), .val (.int kk), .unset]) rfl ?_
      show Steps p.tables e below (T80.setTop (mkF m 269 #[.val (.long q1), .second, .val (.int p2), .val (.int p3), .val (.int p4), .val (.ref b24), .val (.ref b26), .val (.ref b28), .val (.ref b30), .val (.ref b32), .val (.ref b63), .val (.ref b69), .val (.int fr), .val (.int ln), .val (.int (fr + ln)), .val (.int ii), .val (.ref b76), .val (.ref b41), .val (.int kk), .unset] [])) _
      refine XS.lloadN X80.here hx rfl (hb hby at_269) rfl ?_
      show Steps p.tables e below (T80.setTop (mkF m 270 #[.val (.long q1), .second, .val (.int p2), .val (.int p3), .val (.int p4), .val (.ref b24), .val (.ref b26), .val (.ref b28), .val (.ref b30), .val (.ref b32), .val (.ref b63), .val (.ref b69), .val (.int fr), .val (.int ln), .val (.int (fr + ln)), .val (.int ii), .val (.ref b76), .val (.ref b41), .val (.int kk), .unset] [(.long q1)])) _
      refine XS.bipush X80.here hx rfl (hb hby at_270) ?_
      show Steps p.tables e below (T80.setTop (mkF m 272 #[.val (.long q1), .second, .val (.int p2), .val (.int p3), .val (.int p4), .val (.ref b24), .val (.ref b26), .val (.ref b28), .val (.ref b30), .val (.ref b32), .val (.ref b63), .val (.ref b69), .val (.int fr), .val (.int ln), .val (.int (fr + ln)), .val (.int ii), .val (.ref b76), .val (.ref b41), .val (.int kk), .unset] [(.int (8 : Int32)), (.long q1)])) _
      refine XS.iload X80.here hx rfl (hb hby at_272) rfl ?_
      show Steps p.tables e below (T80.setTop (mkF m 274 #[.val (.long q1), .second, .val (.int p2), .val (.int p3), .val (.int p4), .val (.ref b24), .val (.ref b26), .val (.ref b28), .val (.ref b30), .val (.ref b32), .val (.ref b63), .val (.ref b69), .val (.int fr), .val (.int ln), .val (.int (fr + ln)), .val (.int ii), .val (.ref b76), .val (.ref b41), .val (.int kk), .unset] [(.int kk), (.int (8 : Int32)), (.long q1)])) _
      refine XS.imul X80.here hx rfl (hb hby at_274) rfl ?_
      show Steps p.tables e below (T80.setTop (mkF m 275 #[.val (.long q1), .second, .val (.int p2), .val (.int p3), .val (.int p4), .val (.ref b24), .val (.ref b26), .val (.ref b28), .val (.ref b30), .val (.ref b32), .val (.ref b63), .val (.ref b69), .val (.int fr), .val (.int ln), .val (.int (fr + ln)), .val (.int ii), .val (.ref b76), .val (.ref b41), .val (.int kk), .unset] [(.int ((8 : Int32) * kk)), (.long q1)])) _
      refine XS.lushr X80.here hx rfl (hb hby at_275) rfl ?_
      show Steps p.tables e below (T80.setTop (mkF m 276 #[.val (.long q1), .second, .val (.int p2), .val (.int p3), .val (.int p4), .val (.ref b24), .val (.ref b26), .val (.ref b28), .val (.ref b30), .val (.ref b32), .val (.ref b63), .val (.ref b69), .val (.int fr), .val (.int ln), .val (.int (fr + ln)), .val (.int ii), .val (.ref b76), .val (.ref b41), .val (.int kk), .unset] [(.long ((q1.toUInt64 >>> (((8 : Int32) * kk) &&& 0x3f).toInt64.toUInt64).toInt64))])) _
      refine X80.ldc2Long hx hown (mvT hZ (hw _ (List.mem_of_getElem? (i := 1) rfl))) (g := (mkF m 276 #[.val (.long q1), .second, .val (.int p2), .val (.int p3), .val (.int p4), .val (.ref b24), .val (.ref b26), .val (.ref b28), .val (.ref b30), .val (.ref b32), .val (.ref b63), .val (.ref b69), .val (.int fr), .val (.int ln), .val (.int (fr + ln)), .val (.int ii), .val (.ref b76), .val (.ref b41), .val (.int kk), .unset] [(.long ((q1.toUInt64 >>> (((8 : Int32) * kk) &&& 0x3f).toInt64.toUInt64).toInt64))])) rfl (hb hby at_276) _ ?_
      show Steps p.tables e below (T80.setTop (mkF m 279 #[.val (.long q1), .second, .val (.int p2), .val (.int p3), .val (.int p4), .val (.ref b24), .val (.ref b26), .val (.ref b28), .val (.ref b30), .val (.ref b32), .val (.ref b63), .val (.ref b69), .val (.int fr), .val (.int ln), .val (.int (fr + ln)), .val (.int ii), .val (.ref b76), .val (.ref b41), .val (.int kk), .unset] [(.long (255 : Int64)), (.long ((q1.toUInt64 >>> (((8 : Int32) * kk) &&& 0x3f).toInt64.toUInt64).toInt64))])) _
      refine XS.land X80.here hx rfl (hb hby at_279) rfl ?_
      show Steps p.tables e below (T80.setTop (mkF m 280 #[.val (.long q1), .second, .val (.int p2), .val (.int p3), .val (.int p4), .val (.ref b24), .val (.ref b26), .val (.ref b28), .val (.ref b30), .val (.ref b32), .val (.ref b63), .val (.ref b69), .val (.int fr), .val (.int ln), .val (.int (fr + ln)), .val (.int ii), .val (.ref b76), .val (.ref b41), .val (.int kk), .unset] [(.long (((q1.toUInt64 >>> (((8 : Int32) * kk) &&& 0x3f).toInt64.toUInt64).toInt64) &&& (255 : Int64)))])) _
      refine XS.l2i X80.here hx rfl (hb hby at_280) rfl ?_
      show Steps p.tables e below (T80.setTop (mkF m 281 #[.val (.long q1), .second, .val (.int p2), .val (.int p3), .val (.int p4), .val (.ref b24), .val (.ref b26), .val (.ref b28), .val (.ref b30), .val (.ref b32), .val (.ref b63), .val (.ref b69), .val (.int fr), .val (.int ln), .val (.int (fr + ln)), .val (.int ii), .val (.ref b76), .val (.ref b41), .val (.int kk), .unset] [(.int ((((q1.toUInt64 >>> (((8 : Int32) * kk) &&& 0x3f).toInt64.toUInt64).toInt64) &&& (255 : Int64)).toInt32))])) _
      refine XS.i2c X80.here hx rfl (hb hby at_281) rfl ?_
      show Steps p.tables e below (T80.setTop (mkF m 282 #[.val (.long q1), .second, .val (.int p2), .val (.int p3), .val (.int p4), .val (.ref b24), .val (.ref b26), .val (.ref b28), .val (.ref b30), .val (.ref b32), .val (.ref b63), .val (.ref b69), .val (.int fr), .val (.int ln), .val (.int (fr + ln)), .val (.int ii), .val (.ref b76), .val (.ref b41), .val (.int kk), .unset] [(.int (((((q1.toUInt64 >>> (((8 : Int32) * kk) &&& 0x3f).toInt64.toUInt64).toInt64) &&& (255 : Int64)).toInt32).toUInt32.toUInt16.toUInt32.toInt32))])) _
      refine XS.istore X80.here hx rfl (hb hby at_282) rfl (l' := #[.val (.long q1), .second, .val (.int p2), .val (.int p3), .val (.int p4), .val (.ref b24), .val (.ref b26), .val (.ref b28), .val (.ref b30), .val (.ref b32), .val (.ref b63), .val (.ref b69), .val (.int fr), .val (.int ln), .val (.int (fr + ln)), .val (.int ii), .val (.ref b76), .val (.ref b41), .val (.int kk), .val (.int (((((q1.toUInt64 >>> (((8 : Int32) * kk) &&& 0x3f).toInt64.toUInt64).toInt64) &&& (255 : Int64)).toInt32).toUInt32.toUInt16.toUInt32.toInt32))]) rfl ?_
      show Steps p.tables e below (T80.setTop (mkF m 284 #[.val (.long q1), .second, .val (.int p2), .val (.int p3), .val (.int p4), .val (.ref b24), .val (.ref b26), .val (.ref b28), .val (.ref b30), .val (.ref b32), .val (.ref b63), .val (.ref b69), .val (.int fr), .val (.int ln), .val (.int (fr + ln)), .val (.int ii), .val (.ref b76), .val (.ref b41), .val (.int kk), .val (.int (((((q1.toUInt64 >>> (((8 : Int32) * kk) &&& 0x3f).toInt64.toUInt64).toInt64) &&& (255 : Int64)).toInt32).toUInt32.toUInt16.toUInt32.toInt32))] [])) _
      rw [← e_ex]
      show Steps p.tables e below (T80.setTop (mkF m 284 #[.val (.long q1), .second, .val (.int p2), .val (.int p3), .val (.int p4), .val (.ref b24), .val (.ref b26), .val (.ref b28), .val (.ref b30), .val (.ref b32), .val (.ref b63), .val (.ref b69), .val (.int fr), .val (.int ln), .val (.int (fr + ln)), .val (.int ii), .val (.ref b76), .val (.ref b41), .val (.int kk), .val (.int ex)] [])) _
      refine XS.aload X80.here hx rfl (hb hby at_284) rfl rfl ?_
      show Steps p.tables e below (T80.setTop (mkF m 286 #[.val (.long q1), .second, .val (.int p2), .val (.int p3), .val (.int p4), .val (.ref b24), .val (.ref b26), .val (.ref b28), .val (.ref b30), .val (.ref b32), .val (.ref b63), .val (.ref b69), .val (.int fr), .val (.int ln), .val (.int (fr + ln)), .val (.int ii), .val (.ref b76), .val (.ref b41), .val (.int kk), .val (.int ex)] [(.ref b41)])) _
      refine st97.trans ?_
      show Steps p.tables e below (T97.setTop (mkF m 289 #[.val (.long q1), .second, .val (.int p2), .val (.int p3), .val (.int p4), .val (.ref b24), .val (.ref b26), .val (.ref b28), .val (.ref b30), .val (.ref b32), .val (.ref b63), .val (.ref b69), .val (.int fr), .val (.int ln), .val (.int (fr + ln)), .val (.int ii), .val (.ref b76), .val (.ref b41), .val (.int kk), .val (.int ex)] [(.int (Int32.ofNat (([nar .char c1] : List Int32)).length))])) _
      refine XS.iconst X97.here hx rfl (hb hby at_289) ?_
      show Steps p.tables e below (T97.setTop (mkF m 290 #[.val (.long q1), .second, .val (.int p2), .val (.int p3), .val (.int p4), .val (.ref b24), .val (.ref b26), .val (.ref b28), .val (.ref b30), .val (.ref b32), .val (.ref b63), .val (.ref b69), .val (.int fr), .val (.int ln), .val (.int (fr + ln)), .val (.int ii), .val (.ref b76), .val (.ref b41), .val (.int kk), .val (.int ex)] [(.int (1 : Int32)), (.int (Int32.ofNat (([nar .char c1] : List Int32)).length))])) _
      refine XS.icmpNo X97.here hx rfl (hb hby at_290) rfl (teq hc290).2 ?_
      show Steps p.tables e below (T97.setTop (mkF m 293 #[.val (.long q1), .second, .val (.int p2), .val (.int p3), .val (.int p4), .val (.ref b24), .val (.ref b26), .val (.ref b28), .val (.ref b30), .val (.ref b32), .val (.ref b63), .val (.ref b69), .val (.int fr), .val (.int ln), .val (.int (fr + ln)), .val (.int ii), .val (.ref b76), .val (.ref b41), .val (.int kk), .val (.int ex)] [])) _
      refine XS.aload X97.here hx rfl (hb hby at_293) rfl rfl ?_
      show Steps p.tables e below (T97.setTop (mkF m 295 #[.val (.long q1), .second, .val (.int p2), .val (.int p3), .val (.int p4), .val (.ref b24), .val (.ref b26), .val (.ref b28), .val (.ref b30), .val (.ref b32), .val (.ref b63), .val (.ref b69), .val (.int fr), .val (.int ln), .val (.int (fr + ln)), .val (.int ii), .val (.ref b76), .val (.ref b41), .val (.int kk), .val (.int ex)] [(.ref b41)])) _
      refine XS.iconst X97.here hx rfl (hb hby at_295) ?_
      show Steps p.tables e below (T97.setTop (mkF m 296 #[.val (.long q1), .second, .val (.int p2), .val (.int p3), .val (.int p4), .val (.ref b24), .val (.ref b26), .val (.ref b28), .val (.ref b30), .val (.ref b32), .val (.ref b63), .val (.ref b69), .val (.int fr), .val (.int ln), .val (.int (fr + ln)), .val (.int ii), .val (.ref b76), .val (.ref b41), .val (.int kk), .val (.int ex)] [(.int (0 : Int32)), (.ref b41)])) _
      refine st99.trans ?_
      show Steps p.tables e below (T99.setTop (mkF m 299 #[.val (.long q1), .second, .val (.int p2), .val (.int p3), .val (.int p4), .val (.ref b24), .val (.ref b26), .val (.ref b28), .val (.ref b30), .val (.ref b32), .val (.ref b63), .val (.ref b69), .val (.int fr), .val (.int ln), .val (.int (fr + ln)), .val (.int ii), .val (.ref b76), .val (.ref b41), .val (.int kk), .val (.int ex)] [(.int ((([nar .char c1] : List Int32)).getD 0 0))])) _
      refine XS.iload X99.here hx rfl (hb hby at_299) rfl ?_
      show Steps p.tables e below (T99.setTop (mkF m 301 #[.val (.long q1), .second, .val (.int p2), .val (.int p3), .val (.int p4), .val (.ref b24), .val (.ref b26), .val (.ref b28), .val (.ref b30), .val (.ref b32), .val (.ref b63), .val (.ref b69), .val (.int fr), .val (.int ln), .val (.int (fr + ln)), .val (.int ii), .val (.ref b76), .val (.ref b41), .val (.int kk), .val (.int ex)] [(.int ex), (.int ((([nar .char c1] : List Int32)).getD 0 0))])) _
      refine XS.icmpNo X99.here hx rfl (hb hby at_301) rfl (teq hc301).2 ?_
      show Steps p.tables e below (T99.setTop (mkF m 304 #[.val (.long q1), .second, .val (.int p2), .val (.int p3), .val (.int p4), .val (.ref b24), .val (.ref b26), .val (.ref b28), .val (.ref b30), .val (.ref b32), .val (.ref b63), .val (.ref b69), .val (.int fr), .val (.int ln), .val (.int (fr + ln)), .val (.int ii), .val (.ref b76), .val (.ref b41), .val (.int kk), .val (.int ex)] [])) _
      refine XS.iconst X99.here hx rfl (hb hby at_304) ?_
      show Steps p.tables e below (T99.setTop (mkF m 305 #[.val (.long q1), .second, .val (.int p2), .val (.int p3), .val (.int p4), .val (.ref b24), .val (.ref b26), .val (.ref b28), .val (.ref b30), .val (.ref b32), .val (.ref b63), .val (.ref b69), .val (.int fr), .val (.int ln), .val (.int (fr + ln)), .val (.int ii), .val (.ref b76), .val (.ref b41), .val (.int kk), .val (.int ex)] [(.int (1 : Int32))])) _
      refine XS.goto X99.here hx rfl (pc0 := 305) (pc' := 309) rfl (hb hby at_305) (by decide) (by decide) ?_
      show Steps p.tables e below (T99.setTop (mkF m 309 #[.val (.long q1), .second, .val (.int p2), .val (.int p3), .val (.int p4), .val (.ref b24), .val (.ref b26), .val (.ref b28), .val (.ref b30), .val (.ref b32), .val (.ref b63), .val (.ref b69), .val (.int fr), .val (.int ln), .val (.int (fr + ln)), .val (.int ii), .val (.ref b76), .val (.ref b41), .val (.int kk), .val (.int ex)] [(.int (1 : Int32))])) _
      exact retN X99 hx (t := .boolean) Bd.returns (by simp) (hb hby at_309) hr
    · show Q_0 Z q1 p2 p3 p4 h0 n0 _ T99.heap _
      rw [e99]
      exact ⟨rfl, N99⟩
  · have hnr : (own_nth kk b34 b41 b48 b55) = b48 := by rw [hk]; rfl
    obtain ⟨ex, e_ex⟩ : ∃ z : Int32, z = (((((q1.toUInt64 >>> (((8 : Int32) * kk) &&& 0x3f).toInt64.toUInt64).toInt64) &&& (255 : Int64)).toInt32).toUInt32.toUInt16.toUInt32.toInt32) := ⟨_, rfl⟩
    have hcd100 : StrChars.Road.CodA ([nar .char c2] : List Int32) 0 (1 : Int32) (((([nar .char c2] : List Int32)).map (fun c => c.toInt8.toInt32)).map Value.int) := StrChars.Road.codOf (n := 1) rfl (fun c hc => (hp49 c hc).2)
    have hbd100 : ∀ c ∈ ([nar .char c2] : List Int32), ¬ c < 0 ∧ ¬ (65535 : Int32) < c := own_up _ hp49
    have f101 := ((((((((((((((((((Ee52.wr W53).ext E55).keep K59).wr W61).ext E63).wr W64).wr W65).wr W66).wr W67).wr W68).ext E69).wr W70).wr W71).wr W72).wr W73).wr W74).ext E76).keep K77)
    have f102 := ((((((((((((((((((Fv52.other W53 (Or.inl (Ne.symm ne_b32_b48))).ext E55).keep K59 (ninS ne_b48_b55 nin0)).other W61 (Or.inl (Ne.symm ne_b32_b48))).ext E63).other W64 (Or.inl ne_b48_b63)).other W65 (Or.inl ne_b48_b63)).other W66 (Or.inl ne_b48_b63)).other W67 (Or.inl ne_b48_b63)).other W68 (Or.inl ne_b48_b63)).ext E69).other W70 (Or.inl ne_b48_b69)).other W71 (Or.inl ne_b48_b69)).other W72 (Or.inl ne_b48_b69)).other W73 (Or.inl ne_b48_b69)).other W74 (Or.inl ne_b48_b69)).ext E76).keep K77 (ninS ne_b48_b76 nin0))
    have f103 := ((((((((((((((((((Fc52.other W53 (Or.inl (Ne.symm ne_b32_b48))).ext E55).keep K59 (ninS ne_b48_b55 nin0)).other W61 (Or.inl (Ne.symm ne_b32_b48))).ext E63).other W64 (Or.inl ne_b48_b63)).other W65 (Or.inl ne_b48_b63)).other W66 (Or.inl ne_b48_b63)).other W67 (Or.inl ne_b48_b63)).other W68 (Or.inl ne_b48_b63)).ext E69).other W70 (Or.inl ne_b48_b69)).other W71 (Or.inl ne_b48_b69)).other W72 (Or.inl ne_b48_b69)).other W73 (Or.inl ne_b48_b69)).other W74 (Or.inl ne_b48_b69)).ext E76).keep K77 (ninS ne_b48_b76 nin0))
    have f104 := ((((((((((((((((((Va52.other W53 (Ne.symm ne_b32_t52)).ext E55).keep K59 (ninS ne_t52_b55 nin0)).other W61 (Ne.symm ne_b32_t52)).ext E63).other W64 ne_t52_b63).other W65 ne_t52_b63).other W66 ne_t52_b63).other W67 ne_t52_b63).other W68 ne_t52_b63).ext E69).other W70 ne_t52_b69).other W71 ne_t52_b69).other W72 ne_t52_b69).other W73 ne_t52_b69).other W74 ne_t52_b69).ext E76).keep K77 (ninS ne_t52_b76 nin0))
    have f105 := ((((((((((((((((f58.keep K59 (allS g_b55 all0)).wr W61 g_b32).ext E63).wr W64 g_b63).wr W65 g_b63).wr W66 g_b63).wr W67 g_b63).wr W68 g_b63).ext E69).wr W70 g_b69).wr W71 g_b69).wr W72 g_b69).wr W73 g_b69).wr W74 g_b69).ext E76).keep K77 (allS g_b76 all0))
    obtain ⟨cq106, kq106, q106a, q106b, q106c⟩ := isOf hZ e80 f101
    obtain ⟨_, _, ⟨T106, L106, c106_, n106_⟩, -, X106, ⟨Lc106, hQ106, l106, y106, z106⟩, st106⟩ := X80.virtualBack hx (y := (⟨"java/lang/String", "length", "()I"⟩ : MethodName)) (z := (⟨"java/lang/String", "length", "()I"⟩ : MethodName)) hown (mvT hZ (hw _ (List.mem_of_getElem? (i := 69) rfl))) (mvT hZ (hw _ (List.mem_of_getElem? (i := 70) rfl))) (notFace_of_selects (args := #[]) (mvT hZ (hw _ (List.mem_of_getElem? (i := 72) rfl)))) (mvT hZ (hw _ (List.mem_of_getElem? (i := 72) rfl))) (mvT hZ (hw _ (List.mem_of_getElem? (i := 71) rfl))) (by decide) (StrChars.Road.lenW (W := 0) hZ hlw (kI := 4) (hw _ (List.mem_of_getElem? (i := 4) rfl)) f101 f102 f103 f104 hcd100 hbd100 (S_C.ext f105.2) hz (Nat.le_of_ble_eq_true rfl) (by decide) (by decide)) q106a q106c (g := (mkF m 286 #[.val (.long q1), .second, .val (.int p2), .val (.int p3), .val (.int p4), .val (.ref b24), .val (.ref b26), .val (.ref b28), .val (.ref b30), .val (.ref b32), .val (.ref b63), .val (.ref b69), .val (.int fr), .val (.int ln), .val (.int (fr + ln)), .val (.int ii), .val (.ref b76), .val (.ref b48), .val (.int kk), .val (.int ex)] [(.ref b48)])) rfl (by rw [hml]; rfl) (Steps.refl _) (argsL := []) (rest := []) (lenOf pd__28_29I rfl) rfl (by show 2 * 0 + _ ≤ _; exact Nat.le_of_eq rfl) (hb hby at_286) (fun _ _ => ⟨rfl, e80, (by decide : 16 + 0 ≤ _), (by decide : 43 + 0 ≤ _)⟩)
    dsimp only [Pt.U, Pt.locs, Pt.cells, Pt.slots] at X106 l106 y106 z106 st106 hQ106
    rw [l106, y106, z106] at X106
    obtain ⟨rfl, rfl, e106⟩ := hQ106
    have Nq106 : Fr n0 ([] : List Loc) := Fr.nil n0
    have N106 := Fr.app N80 Nq106
    have hc290 : (Int32.ofNat (([nar .char c2] : List Int32)).length) = (1 : Int32) := rfl
    have hcd107 : StrChars.Road.CodA ([nar .char c2] : List Int32) 0 (1 : Int32) (((([nar .char c2] : List Int32)).map (fun c => c.toInt8.toInt32)).map Value.int) := StrChars.Road.codOf (n := 1) rfl (fun c hc => (hp49 c hc).2)
    have hbd107 : ∀ c ∈ ([nar .char c2] : List Int32), ¬ c < 0 ∧ ¬ (65535 : Int32) < c := own_up _ hp49
    obtain ⟨cq108, kq108, q108a, q108b, q108c⟩ := isOf hZ e106 f101
    obtain ⟨_, _, ⟨T108, L108, c108_, n108_⟩, -, X108, ⟨Lc108, hQ108, l108, y108, z108⟩, st108⟩ := X106.virtualBack hx (y := (⟨"java/lang/String", "charAt", "(I)C"⟩ : MethodName)) (z := (⟨"java/lang/String", "charAt", "(I)C"⟩ : MethodName)) hown (mvT hZ (hw _ (List.mem_of_getElem? (i := 79) rfl))) (mvT hZ (hw _ (List.mem_of_getElem? (i := 80) rfl))) (notFace_of_selects (args := #[]) (mvT hZ (hw _ (List.mem_of_getElem? (i := 82) rfl)))) (mvT hZ (hw _ (List.mem_of_getElem? (i := 82) rfl))) (mvT hZ (hw _ (List.mem_of_getElem? (i := 81) rfl))) (by decide) (StrChars.Road.chN (W := 0) hZ hch (kI := 4) (hw _ (List.mem_of_getElem? (i := 4) rfl)) f101 f102 f103 f104 hcd107 hbd107 (S_C.ext f105.2) hz (S_F.ext f105.2) rf (Nat.le_of_ble_eq_true rfl) (i := 0) (Nat.le_of_ble_eq_true rfl) (j := 0) rfl (by decide) (by decide)) q108a q108c (g := (mkF m 296 #[.val (.long q1), .second, .val (.int p2), .val (.int p3), .val (.int p4), .val (.ref b24), .val (.ref b26), .val (.ref b28), .val (.ref b30), .val (.ref b32), .val (.ref b63), .val (.ref b69), .val (.int fr), .val (.int ln), .val (.int (fr + ln)), .val (.int ii), .val (.ref b76), .val (.ref b48), .val (.int kk), .val (.int ex)] [(.int (0 : Int32)), (.ref b48)])) rfl (by rw [hml]; rfl) (Steps.refl _) (argsL := [(.int (0 : Int32))]) (rest := []) (lenOf pd__28I_29C rfl) rfl (by show 2 * 0 + _ ≤ _; exact Nat.le_of_eq rfl) (hb hby at_296) (fun _ _ => ⟨rfl, e106, (by decide : 16 + 0 ≤ _), (by decide : 43 + 0 ≤ _)⟩)
    dsimp only [Pt.U, Pt.locs, Pt.cells, Pt.slots] at X108 l108 y108 z108 st108 hQ108
    rw [l108, y108, z108] at X108
    obtain ⟨rfl, rfl, e108⟩ := hQ108
    have Nq108 : Fr n0 ([] : List Loc) := Fr.nil n0
    have N108 := Fr.app N106 Nq108
    have hc301 : ((([nar .char c2] : List Int32)).getD 0 0) = ex := (by rw [e_ex, hk]; show nar .char c2 = _; rw [e_c2, own_nn]; rfl)
    obtain ⟨fs, hr, hrun, hended, hW, hsame⟩ := X108.leave (v := some (.int (1 : Int32))) (fun h => by rw [Bd.returns] at h; cases h)
    refine ⟨_, _, pre0 _ ?_, hrun, hended, _, _, rfl, ?_, ⟨_, rfl⟩, hW, hsame.mono (by decide) (by decide)⟩
    · refine cut33 _ ?_
      refine cut60 _ ?_
      refine cut75 _ ?_
      refine cut81 _ ?_
      show Steps p.tables e below (T80.setTop (mkF m 254 #[.val (.long q1), .second, .val (.int p2), .val (.int p3), .val (.int p4), .val (.ref b24), .val (.ref b26), .val (.ref b28), .val (.ref b30), .val (.ref b32), .val (.ref b63), .val (.ref b69), .val (.int fr), .val (.int ln), .val (.int (fr + ln)), .val (.int ii), .val (.ref b76), .unset, .unset, .unset] [(.ref (own_nth kk b34 b41 b48 b55))])) _
      rw [hnr]
      show Steps p.tables e below (T80.setTop (mkF m 254 #[.val (.long q1), .second, .val (.int p2), .val (.int p3), .val (.int p4), .val (.ref b24), .val (.ref b26), .val (.ref b28), .val (.ref b30), .val (.ref b32), .val (.ref b63), .val (.ref b69), .val (.int fr), .val (.int ln), .val (.int (fr + ln)), .val (.int ii), .val (.ref b76), .unset, .unset, .unset] [(.ref b48)])) _
      refine XS.astore X80.here hx rfl (hb hby at_254) rfl rfl (l' := #[.val (.long q1), .second, .val (.int p2), .val (.int p3), .val (.int p4), .val (.ref b24), .val (.ref b26), .val (.ref b28), .val (.ref b30), .val (.ref b32), .val (.ref b63), .val (.ref b69), .val (.int fr), .val (.int ln), .val (.int (fr + ln)), .val (.int ii), .val (.ref b76), .val (.ref b48), .unset, .unset]) rfl ?_
      show Steps p.tables e below (T80.setTop (mkF m 256 #[.val (.long q1), .second, .val (.int p2), .val (.int p3), .val (.int p4), .val (.ref b24), .val (.ref b26), .val (.ref b28), .val (.ref b30), .val (.ref b32), .val (.ref b63), .val (.ref b69), .val (.int fr), .val (.int ln), .val (.int (fr + ln)), .val (.int ii), .val (.ref b76), .val (.ref b48), .unset, .unset] [])) _
      refine XS.iloadN X80.here hx rfl (hb hby at_256) rfl ?_
      show Steps p.tables e below (T80.setTop (mkF m 257 #[.val (.long q1), .second, .val (.int p2), .val (.int p3), .val (.int p4), .val (.ref b24), .val (.ref b26), .val (.ref b28), .val (.ref b30), .val (.ref b32), .val (.ref b63), .val (.ref b69), .val (.int fr), .val (.int ln), .val (.int (fr + ln)), .val (.int ii), .val (.ref b76), .val (.ref b48), .unset, .unset] [(.int p2)])) _
      refine XS.iconst X80.here hx rfl (hb hby at_257) ?_
      show Steps p.tables e below (T80.setTop (mkF m 258 #[.val (.long q1), .second, .val (.int p2), .val (.int p3), .val (.int p4), .val (.ref b24), .val (.ref b26), .val (.ref b28), .val (.ref b30), .val (.ref b32), .val (.ref b63), .val (.ref b69), .val (.int fr), .val (.int ln), .val (.int (fr + ln)), .val (.int ii), .val (.ref b76), .val (.ref b48), .unset, .unset] [(.int (2 : Int32)), (.int p2)])) _
      refine XS.iload X80.here hx rfl (hb hby at_258) rfl ?_
      show Steps p.tables e below (T80.setTop (mkF m 260 #[.val (.long q1), .second, .val (.int p2), .val (.int p3), .val (.int p4), .val (.ref b24), .val (.ref b26), .val (.ref b28), .val (.ref b30), .val (.ref b32), .val (.ref b63), .val (.ref b69), .val (.int fr), .val (.int ln), .val (.int (fr + ln)), .val (.int ii), .val (.ref b76), .val (.ref b48), .unset, .unset] [(.int fr), (.int (2 : Int32)), (.int p2)])) _
      refine XS.iload X80.here hx rfl (hb hby at_260) rfl ?_
      show Steps p.tables e below (T80.setTop (mkF m 262 #[.val (.long q1), .second, .val (.int p2), .val (.int p3), .val (.int p4), .val (.ref b24), .val (.ref b26), .val (.ref b28), .val (.ref b30), .val (.ref b32), .val (.ref b63), .val (.ref b69), .val (.int fr), .val (.int ln), .val (.int (fr + ln)), .val (.int ii), .val (.ref b76), .val (.ref b48), .unset, .unset] [(.int ii), (.int fr), (.int (2 : Int32)), (.int p2)])) _
      refine XS.iadd X80.here hx rfl (hb hby at_262) rfl ?_
      show Steps p.tables e below (T80.setTop (mkF m 263 #[.val (.long q1), .second, .val (.int p2), .val (.int p3), .val (.int p4), .val (.ref b24), .val (.ref b26), .val (.ref b28), .val (.ref b30), .val (.ref b32), .val (.ref b63), .val (.ref b69), .val (.int fr), .val (.int ln), .val (.int (fr + ln)), .val (.int ii), .val (.ref b76), .val (.ref b48), .unset, .unset] [(.int (fr + ii)), (.int (2 : Int32)), (.int p2)])) _
      refine XS.imul X80.here hx rfl (hb hby at_263) rfl ?_
      show Steps p.tables e below (T80.setTop (mkF m 264 #[.val (.long q1), .second, .val (.int p2), .val (.int p3), .val (.int p4), .val (.ref b24), .val (.ref b26), .val (.ref b28), .val (.ref b30), .val (.ref b32), .val (.ref b63), .val (.ref b69), .val (.int fr), .val (.int ln), .val (.int (fr + ln)), .val (.int ii), .val (.ref b76), .val (.ref b48), .unset, .unset] [(.int ((2 : Int32) * (fr + ii))), (.int p2)])) _
      refine XS.iushr X80.here hx rfl (hb hby at_264) rfl ?_
      show Steps p.tables e below (T80.setTop (mkF m 265 #[.val (.long q1), .second, .val (.int p2), .val (.int p3), .val (.int p4), .val (.ref b24), .val (.ref b26), .val (.ref b28), .val (.ref b30), .val (.ref b32), .val (.ref b63), .val (.ref b69), .val (.int fr), .val (.int ln), .val (.int (fr + ln)), .val (.int ii), .val (.ref b76), .val (.ref b48), .unset, .unset] [(.int ((p2.toUInt32 >>> (((2 : Int32) * (fr + ii)) &&& 31).toUInt32).toInt32))])) _
      refine XS.iconst X80.here hx rfl (hb hby at_265) ?_
      show Steps p.tables e below (T80.setTop (mkF m 266 #[.val (.long q1), .second, .val (.int p2), .val (.int p3), .val (.int p4), .val (.ref b24), .val (.ref b26), .val (.ref b28), .val (.ref b30), .val (.ref b32), .val (.ref b63), .val (.ref b69), .val (.int fr), .val (.int ln), .val (.int (fr + ln)), .val (.int ii), .val (.ref b76), .val (.ref b48), .unset, .unset] [(.int (3 : Int32)), (.int ((p2.toUInt32 >>> (((2 : Int32) * (fr + ii)) &&& 31).toUInt32).toInt32))])) _
      refine XS.iand X80.here hx rfl (hb hby at_266) rfl ?_
      show Steps p.tables e below (T80.setTop (mkF m 267 #[.val (.long q1), .second, .val (.int p2), .val (.int p3), .val (.int p4), .val (.ref b24), .val (.ref b26), .val (.ref b28), .val (.ref b30), .val (.ref b32), .val (.ref b63), .val (.ref b69), .val (.int fr), .val (.int ln), .val (.int (fr + ln)), .val (.int ii), .val (.ref b76), .val (.ref b48), .unset, .unset] [(.int (((p2.toUInt32 >>> (((2 : Int32) * (fr + ii)) &&& 31).toUInt32).toInt32) &&& (3 : Int32)))])) _
      rw [← e_kk]
      show Steps p.tables e below (T80.setTop (mkF m 267 #[.val (.long q1), .second, .val (.int p2), .val (.int p3), .val (.int p4), .val (.ref b24), .val (.ref b26), .val (.ref b28), .val (.ref b30), .val (.ref b32), .val (.ref b63), .val (.ref b69), .val (.int fr), .val (.int ln), .val (.int (fr + ln)), .val (.int ii), .val (.ref b76), .val (.ref b48), .unset, .unset] [(.int kk)])) _
      refine XS.istore X80.here hx rfl (hb hby at_267) rfl (l' := #[.val (.long q1), .second, .val (.int p2), .val (.int p3), .val (.int p4), .val (.ref b24), .val (.ref b26), .val (.ref b28), .val (.ref b30), .val (.ref b32), .val (.ref b63), .val (.ref b69), .val (.int fr), .val (.int ln), .val (.int (fr + ln)), .val (.int ii), .val (.ref b76), .val (.ref b48), .val (.int kk), .unset]) rfl ?_
      show Steps p.tables e below (T80.setTop (mkF m 269 #[.val (.long q1), .second, .val (.int p2), .val (.int p3), .val (.int p4), .val (.ref b24), .val (.ref b26), .val (.ref b28), .val (.ref b30), .val (.ref b32), .val (.ref b63), .val (.ref b69), .val (.int fr), .val (.int ln), .val (.int (fr + ln)), .val (.int ii), .val (.ref b76), .val (.ref b48), .val (.int kk), .unset] [])) _
      refine XS.lloadN X80.here hx rfl (hb hby at_269) rfl ?_
      show Steps p.tables e below (T80.setTop (mkF m 270 #[.val (.long q1), .second, .val (.int p2), .val (.int p3), .val (.int p4), .val (.ref b24), .val (.ref b26), .val (.ref b28), .val (.ref b30), .val (.ref b32), .val (.ref b63), .val (.ref b69), .val (.int fr), .val (.int ln), .val (.int (fr + ln)), .val (.int ii), .val (.ref b76), .val (.ref b48), .val (.int kk), .unset] [(.long q1)])) _
      refine XS.bipush X80.here hx rfl (hb hby at_270) ?_
      show Steps p.tables e below (T80.setTop (mkF m 272 #[.val (.long q1), .second, .val (.int p2), .val (.int p3), .val (.int p4), .val (.ref b24), .val (.ref b26), .val (.ref b28), .val (.ref b30), .val (.ref b32), .val (.ref b63), .val (.ref b69), .val (.int fr), .val (.int ln), .val (.int (fr + ln)), .val (.int ii), .val (.ref b76), .val (.ref b48), .val (.int kk), .unset] [(.int (8 : Int32)), (.long q1)])) _
      refine XS.iload X80.here hx rfl (hb hby at_272) rfl ?_
      show Steps p.tables e below (T80.setTop (mkF m 274 #[.val (.long q1), .second, .val (.int p2), .val (.int p3), .val (.int p4), .val (.ref b24), .val (.ref b26), .val (.ref b28), .val (.ref b30), .val (.ref b32), .val (.ref b63), .val (.ref b69), .val (.int fr), .val (.int ln), .val (.int (fr + ln)), .val (.int ii), .val (.ref b76), .val (.ref b48), .val (.int kk), .unset] [(.int kk), (.int (8 : Int32)), (.long q1)])) _
      refine XS.imul X80.here hx rfl (hb hby at_274) rfl ?_
      show Steps p.tables e below (T80.setTop (mkF m 275 #[.val (.long q1), .second, .val (.int p2), .val (.int p3), .val (.int p4), .val (.ref b24), .val (.ref b26), .val (.ref b28), .val (.ref b30), .val (.ref b32), .val (.ref b63), .val (.ref b69), .val (.int fr), .val (.int ln), .val (.int (fr + ln)), .val (.int ii), .val (.ref b76), .val (.ref b48), .val (.int kk), .unset] [(.int ((8 : Int32) * kk)), (.long q1)])) _
      refine XS.lushr X80.here hx rfl (hb hby at_275) rfl ?_
      show Steps p.tables e below (T80.setTop (mkF m 276 #[.val (.long q1), .second, .val (.int p2), .val (.int p3), .val (.int p4), .val (.ref b24), .val (.ref b26), .val (.ref b28), .val (.ref b30), .val (.ref b32), .val (.ref b63), .val (.ref b69), .val (.int fr), .val (.int ln), .val (.int (fr + ln)), .val (.int ii), .val (.ref b76), .val (.ref b48), .val (.int kk), .unset] [(.long ((q1.toUInt64 >>> (((8 : Int32) * kk) &&& 0x3f).toInt64.toUInt64).toInt64))])) _
      refine X80.ldc2Long hx hown (mvT hZ (hw _ (List.mem_of_getElem? (i := 1) rfl))) (g := (mkF m 276 #[.val (.long q1), .second, .val (.int p2), .val (.int p3), .val (.int p4), .val (.ref b24), .val (.ref b26), .val (.ref b28), .val (.ref b30), .val (.ref b32), .val (.ref b63), .val (.ref b69), .val (.int fr), .val (.int ln), .val (.int (fr + ln)), .val (.int ii), .val (.ref b76), .val (.ref b48), .val (.int kk), .unset] [(.long ((q1.toUInt64 >>> (((8 : Int32) * kk) &&& 0x3f).toInt64.toUInt64).toInt64))])) rfl (hb hby at_276) _ ?_
      show Steps p.tables e below (T80.setTop (mkF m 279 #[.val (.long q1), .second, .val (.int p2), .val (.int p3), .val (.int p4), .val (.ref b24), .val (.ref b26), .val (.ref b28), .val (.ref b30), .val (.ref b32), .val (.ref b63), .val (.ref b69), .val (.int fr), .val (.int ln), .val (.int (fr + ln)), .val (.int ii), .val (.ref b76), .val (.ref b48), .val (.int kk), .unset] [(.long (255 : Int64)), (.long ((q1.toUInt64 >>> (((8 : Int32) * kk) &&& 0x3f).toInt64.toUInt64).toInt64))])) _
      refine XS.land X80.here hx rfl (hb hby at_279) rfl ?_
      show Steps p.tables e below (T80.setTop (mkF m 280 #[.val (.long q1), .second, .val (.int p2), .val (.int p3), .val (.int p4), .val (.ref b24), .val (.ref b26), .val (.ref b28), .val (.ref b30), .val (.ref b32), .val (.ref b63), .val (.ref b69), .val (.int fr), .val (.int ln), .val (.int (fr + ln)), .val (.int ii), .val (.ref b76), .val (.ref b48), .val (.int kk), .unset] [(.long (((q1.toUInt64 >>> (((8 : Int32) * kk) &&& 0x3f).toInt64.toUInt64).toInt64) &&& (255 : Int64)))])) _
      refine XS.l2i X80.here hx rfl (hb hby at_280) rfl ?_
      show Steps p.tables e below (T80.setTop (mkF m 281 #[.val (.long q1), .second, .val (.int p2), .val (.int p3), .val (.int p4), .val (.ref b24), .val (.ref b26), .val (.ref b28), .val (.ref b30), .val (.ref b32), .val (.ref b63), .val (.ref b69), .val (.int fr), .val (.int ln), .val (.int (fr + ln)), .val (.int ii), .val (.ref b76), .val (.ref b48), .val (.int kk), .unset] [(.int ((((q1.toUInt64 >>> (((8 : Int32) * kk) &&& 0x3f).toInt64.toUInt64).toInt64) &&& (255 : Int64)).toInt32))])) _
      refine XS.i2c X80.here hx rfl (hb hby at_281) rfl ?_
      show Steps p.tables e below (T80.setTop (mkF m 282 #[.val (.long q1), .second, .val (.int p2), .val (.int p3), .val (.int p4), .val (.ref b24), .val (.ref b26), .val (.ref b28), .val (.ref b30), .val (.ref b32), .val (.ref b63), .val (.ref b69), .val (.int fr), .val (.int ln), .val (.int (fr + ln)), .val (.int ii), .val (.ref b76), .val (.ref b48), .val (.int kk), .unset] [(.int (((((q1.toUInt64 >>> (((8 : Int32) * kk) &&& 0x3f).toInt64.toUInt64).toInt64) &&& (255 : Int64)).toInt32).toUInt32.toUInt16.toUInt32.toInt32))])) _
      refine XS.istore X80.here hx rfl (hb hby at_282) rfl (l' := #[.val (.long q1), .second, .val (.int p2), .val (.int p3), .val (.int p4), .val (.ref b24), .val (.ref b26), .val (.ref b28), .val (.ref b30), .val (.ref b32), .val (.ref b63), .val (.ref b69), .val (.int fr), .val (.int ln), .val (.int (fr + ln)), .val (.int ii), .val (.ref b76), .val (.ref b48), .val (.int kk), .val (.int (((((q1.toUInt64 >>> (((8 : Int32) * kk) &&& 0x3f).toInt64.toUInt64).toInt64) &&& (255 : Int64)).toInt32).toUInt32.toUInt16.toUInt32.toInt32))]) rfl ?_
      show Steps p.tables e below (T80.setTop (mkF m 284 #[.val (.long q1), .second, .val (.int p2), .val (.int p3), .val (.int p4), .val (.ref b24), .val (.ref b26), .val (.ref b28), .val (.ref b30), .val (.ref b32), .val (.ref b63), .val (.ref b69), .val (.int fr), .val (.int ln), .val (.int (fr + ln)), .val (.int ii), .val (.ref b76), .val (.ref b48), .val (.int kk), .val (.int (((((q1.toUInt64 >>> (((8 : Int32) * kk) &&& 0x3f).toInt64.toUInt64).toInt64) &&& (255 : Int64)).toInt32).toUInt32.toUInt16.toUInt32.toInt32))] [])) _
      rw [← e_ex]
      show Steps p.tables e below (T80.setTop (mkF m 284 #[.val (.long q1), .second, .val (.int p2), .val (.int p3), .val (.int p4), .val (.ref b24), .val (.ref b26), .val (.ref b28), .val (.ref b30), .val (.ref b32), .val (.ref b63), .val (.ref b69), .val (.int fr), .val (.int ln), .val (.int (fr + ln)), .val (.int ii), .val (.ref b76), .val (.ref b48), .val (.int kk), .val (.int ex)] [])) _
      refine XS.aload X80.here hx rfl (hb hby at_284) rfl rfl ?_
      show Steps p.tables e below (T80.setTop (mkF m 286 #[.val (.long q1), .second, .val (.int p2), .val (.int p3), .val (.int p4), .val (.ref b24), .val (.ref b26), .val (.ref b28), .val (.ref b30), .val (.ref b32), .val (.ref b63), .val (.ref b69), .val (.int fr), .val (.int ln), .val (.int (fr + ln)), .val (.int ii), .val (.ref b76), .val (.ref b48), .val (.int kk), .val (.int ex)] [(.ref b48)])) _
      refine st106.trans ?_
      show Steps p.tables e below (T106.setTop (mkF m 289 #[.val (.long q1), .second, .val (.int p2), .val (.int p3), .val (.int p4), .val (.ref b24), .val (.ref b26), .val (.ref b28), .val (.ref b30), .val (.ref b32), .val (.ref b63), .val (.ref b69), .val (.int fr), .val (.int ln), .val (.int (fr + ln)), .val (.int ii), .val (.ref b76), .val (.ref b48), .val (.int kk), .val (.int ex)] [(.int (Int32.ofNat (([nar .char c2] : List Int32)).length))])) _
      refine XS.iconst X106.here hx rfl (hb hby at_289) ?_
      show Steps p.tables e below (T106.setTop (mkF m 290 #[.val (.long q1), .second, .val (.int p2), .val (.int p3), .val (.int p4), .val (.ref b24), .val (.ref b26), .val (.ref b28), .val (.ref b30), .val (.ref b32), .val (.ref b63), .val (.ref b69), .val (.int fr), .val (.int ln), .val (.int (fr + ln)), .val (.int ii), .val (.ref b76), .val (.ref b48), .val (.int kk), .val (.int ex)] [(.int (1 : Int32)), (.int (Int32.ofNat (([nar .char c2] : List Int32)).length))])) _
      refine XS.icmpNo X106.here hx rfl (hb hby at_290) rfl (teq hc290).2 ?_
      show Steps p.tables e below (T106.setTop (mkF m 293 #[.val (.long q1), .second, .val (.int p2), .val (.int p3), .val (.int p4), .val (.ref b24), .val (.ref b26), .val (.ref b28), .val (.ref b30), .val (.ref b32), .val (.ref b63), .val (.ref b69), .val (.int fr), .val (.int ln), .val (.int (fr + ln)), .val (.int ii), .val (.ref b76), .val (.ref b48), .val (.int kk), .val (.int ex)] [])) _
      refine XS.aload X106.here hx rfl (hb hby at_293) rfl rfl ?_
      show Steps p.tables e below (T106.setTop (mkF m 295 #[.val (.long q1), .second, .val (.int p2), .val (.int p3), .val (.int p4), .val (.ref b24), .val (.ref b26), .val (.ref b28), .val (.ref b30), .val (.ref b32), .val (.ref b63), .val (.ref b69), .val (.int fr), .val (.int ln), .val (.int (fr + ln)), .val (.int ii), .val (.ref b76), .val (.ref b48), .val (.int kk), .val (.int ex)] [(.ref b48)])) _
      refine XS.iconst X106.here hx rfl (hb hby at_295) ?_
      show Steps p.tables e below (T106.setTop (mkF m 296 #[.val (.long q1), .second, .val (.int p2), .val (.int p3), .val (.int p4), .val (.ref b24), .val (.ref b26), .val (.ref b28), .val (.ref b30), .val (.ref b32), .val (.ref b63), .val (.ref b69), .val (.int fr), .val (.int ln), .val (.int (fr + ln)), .val (.int ii), .val (.ref b76), .val (.ref b48), .val (.int kk), .val (.int ex)] [(.int (0 : Int32)), (.ref b48)])) _
      refine st108.trans ?_
      show Steps p.tables e below (T108.setTop (mkF m 299 #[.val (.long q1), .second, .val (.int p2), .val (.int p3), .val (.int p4), .val (.ref b24), .val (.ref b26), .val (.ref b28), .val (.ref b30), .val (.ref b32), .val (.ref b63), .val (.ref b69), .val (.int fr), .val (.int ln), .val (.int (fr + ln)), .val (.int ii), .val (.ref b76), .val (.ref b48), .val (.int kk), .val (.int ex)] [(.int ((([nar .char c2] : List Int32)).getD 0 0))])) _
      refine XS.iload X108.here hx rfl (hb hby at_299) rfl ?_
      show Steps p.tables e below (T108.setTop (mkF m 301 #[.val (.long q1), .second, .val (.int p2), .val (.int p3), .val (.int p4), .val (.ref b24), .val (.ref b26), .val (.ref b28), .val (.ref b30), .val (.ref b32), .val (.ref b63), .val (.ref b69), .val (.int fr), .val (.int ln), .val (.int (fr + ln)), .val (.int ii), .val (.ref b76), .val (.ref b48), .val (.int kk), .val (.int ex)] [(.int ex), (.int ((([nar .char c2] : List Int32)).getD 0 0))])) _
      refine XS.icmpNo X108.here hx rfl (hb hby at_301) rfl (teq hc301).2 ?_
      show Steps p.tables e below (T108.setTop (mkF m 304 #[.val (.long q1), .second, .val (.int p2), .val (.int p3), .val (.int p4), .val (.ref b24), .val (.ref b26), .val (.ref b28), .val (.ref b30), .val (.ref b32), .val (.ref b63), .val (.ref b69), .val (.int fr), .val (.int ln), .val (.int (fr + ln)), .val (.int ii), .val (.ref b76), .val (.ref b48), .val (.int kk), .val (.int ex)] [])) _
      refine XS.iconst X108.here hx rfl (hb hby at_304) ?_
      show Steps p.tables e below (T108.setTop (mkF m 305 #[.val (.long q1), .second, .val (.int p2), .val (.int p3), .val (.int p4), .val (.ref b24), .val (.ref b26), .val (.ref b28), .val (.ref b30), .val (.ref b32), .val (.ref b63), .val (.ref b69), .val (.int fr), .val (.int ln), .val (.int (fr + ln)), .val (.int ii), .val (.ref b76), .val (.ref b48), .val (.int kk), .val (.int ex)] [(.int (1 : Int32))])) _
      refine XS.goto X108.here hx rfl (pc0 := 305) (pc' := 309) rfl (hb hby at_305) (by decide) (by decide) ?_
      show Steps p.tables e below (T108.setTop (mkF m 309 #[.val (.long q1), .second, .val (.int p2), .val (.int p3), .val (.int p4), .val (.ref b24), .val (.ref b26), .val (.ref b28), .val (.ref b30), .val (.ref b32), .val (.ref b63), .val (.ref b69), .val (.int fr), .val (.int ln), .val (.int (fr + ln)), .val (.int ii), .val (.ref b76), .val (.ref b48), .val (.int kk), .val (.int ex)] [(.int (1 : Int32))])) _
      exact retN X108 hx (t := .boolean) Bd.returns (by simp) (hb hby at_309) hr
    · show Q_0 Z q1 p2 p3 p4 h0 n0 _ T108.heap _
      rw [e108]
      exact ⟨rfl, N108⟩
  · have hnr : (own_nth kk b34 b41 b48 b55) = b55 := by rw [hk]; rfl
    obtain ⟨ex, e_ex⟩ : ∃ z : Int32, z = (((((q1.toUInt64 >>> (((8 : Int32) * kk) &&& 0x3f).toInt64.toUInt64).toInt64) &&& (255 : Int64)).toInt32).toUInt32.toUInt16.toUInt32.toInt32) := ⟨_, rfl⟩
    have hcd109 : StrChars.Road.CodA ([nar .char c3] : List Int32) 0 (1 : Int32) (((([nar .char c3] : List Int32)).map (fun c => c.toInt8.toInt32)).map Value.int) := StrChars.Road.codOf (n := 1) rfl (fun c hc => (hp56 c hc).2)
    have hbd109 : ∀ c ∈ ([nar .char c3] : List Int32), ¬ c < 0 ∧ ¬ (65535 : Int32) < c := own_up _ hp56
    have f110 := (((((((((((((((Ee59.wr W61).ext E63).wr W64).wr W65).wr W66).wr W67).wr W68).ext E69).wr W70).wr W71).wr W72).wr W73).wr W74).ext E76).keep K77)
    have f111 := (((((((((((((((Fv59.other W61 (Or.inl (Ne.symm ne_b32_b55))).ext E63).other W64 (Or.inl ne_b55_b63)).other W65 (Or.inl ne_b55_b63)).other W66 (Or.inl ne_b55_b63)).other W67 (Or.inl ne_b55_b63)).other W68 (Or.inl ne_b55_b63)).ext E69).other W70 (Or.inl ne_b55_b69)).other W71 (Or.inl ne_b55_b69)).other W72 (Or.inl ne_b55_b69)).other W73 (Or.inl ne_b55_b69)).other W74 (Or.inl ne_b55_b69)).ext E76).keep K77 (ninS ne_b55_b76 nin0))
    have f112 := (((((((((((((((Fc59.other W61 (Or.inl (Ne.symm ne_b32_b55))).ext E63).other W64 (Or.inl ne_b55_b63)).other W65 (Or.inl ne_b55_b63)).other W66 (Or.inl ne_b55_b63)).other W67 (Or.inl ne_b55_b63)).other W68 (Or.inl ne_b55_b63)).ext E69).other W70 (Or.inl ne_b55_b69)).other W71 (Or.inl ne_b55_b69)).other W72 (Or.inl ne_b55_b69)).other W73 (Or.inl ne_b55_b69)).other W74 (Or.inl ne_b55_b69)).ext E76).keep K77 (ninS ne_b55_b76 nin0))
    have f113 := (((((((((((((((Va59.other W61 (Ne.symm ne_b32_t59)).ext E63).other W64 ne_t59_b63).other W65 ne_t59_b63).other W66 ne_t59_b63).other W67 ne_t59_b63).other W68 ne_t59_b63).ext E69).other W70 ne_t59_b69).other W71 ne_t59_b69).other W72 ne_t59_b69).other W73 ne_t59_b69).other W74 ne_t59_b69).ext E76).keep K77 (ninS ne_t59_b76 nin0))
    have f114 := ((((((((((((((((f58.keep K59 (allS g_b55 all0)).wr W61 g_b32).ext E63).wr W64 g_b63).wr W65 g_b63).wr W66 g_b63).wr W67 g_b63).wr W68 g_b63).ext E69).wr W70 g_b69).wr W71 g_b69).wr W72 g_b69).wr W73 g_b69).wr W74 g_b69).ext E76).keep K77 (allS g_b76 all0))
    obtain ⟨cq115, kq115, q115a, q115b, q115c⟩ := isOf hZ e80 f110
    obtain ⟨_, _, ⟨T115, L115, c115_, n115_⟩, -, X115, ⟨Lc115, hQ115, l115, y115, z115⟩, st115⟩ := X80.virtualBack hx (y := (⟨"java/lang/String", "length", "()I"⟩ : MethodName)) (z := (⟨"java/lang/String", "length", "()I"⟩ : MethodName)) hown (mvT hZ (hw _ (List.mem_of_getElem? (i := 69) rfl))) (mvT hZ (hw _ (List.mem_of_getElem? (i := 70) rfl))) (notFace_of_selects (args := #[]) (mvT hZ (hw _ (List.mem_of_getElem? (i := 72) rfl)))) (mvT hZ (hw _ (List.mem_of_getElem? (i := 72) rfl))) (mvT hZ (hw _ (List.mem_of_getElem? (i := 71) rfl))) (by decide) (StrChars.Road.lenW (W := 0) hZ hlw (kI := 4) (hw _ (List.mem_of_getElem? (i := 4) rfl)) f110 f111 f112 f113 hcd109 hbd109 (S_C.ext f114.2) hz (Nat.le_of_ble_eq_true rfl) (by decide) (by decide)) q115a q115c (g := (mkF m 286 #[.val (.long q1), .second, .val (.int p2), .val (.int p3), .val (.int p4), .val (.ref b24), .val (.ref b26), .val (.ref b28), .val (.ref b30), .val (.ref b32), .val (.ref b63), .val (.ref b69), .val (.int fr), .val (.int ln), .val (.int (fr + ln)), .val (.int ii), .val (.ref b76), .val (.ref b55), .val (.int kk), .val (.int ex)] [(.ref b55)])) rfl (by rw [hml]; rfl) (Steps.refl _) (argsL := []) (rest := []) (lenOf pd__28_29I rfl) rfl (by show 2 * 0 + _ ≤ _; exact Nat.le_of_eq rfl) (hb hby at_286) (fun _ _ => ⟨rfl, e80, (by decide : 16 + 0 ≤ _), (by decide : 43 + 0 ≤ _)⟩)
    dsimp only [Pt.U, Pt.locs, Pt.cells, Pt.slots] at X115 l115 y115 z115 st115 hQ115
    rw [l115, y115, z115] at X115
    obtain ⟨rfl, rfl, e115⟩ := hQ115
    have Nq115 : Fr n0 ([] : List Loc) := Fr.nil n0
    have N115 := Fr.app N80 Nq115
    have hc290 : (Int32.ofNat (([nar .char c3] : List Int32)).length) = (1 : Int32) := rfl
    have hcd116 : StrChars.Road.CodA ([nar .char c3] : List Int32) 0 (1 : Int32) (((([nar .char c3] : List Int32)).map (fun c => c.toInt8.toInt32)).map Value.int) := StrChars.Road.codOf (n := 1) rfl (fun c hc => (hp56 c hc).2)
    have hbd116 : ∀ c ∈ ([nar .char c3] : List Int32), ¬ c < 0 ∧ ¬ (65535 : Int32) < c := own_up _ hp56
    obtain ⟨cq117, kq117, q117a, q117b, q117c⟩ := isOf hZ e115 f110
    obtain ⟨_, _, ⟨T117, L117, c117_, n117_⟩, -, X117, ⟨Lc117, hQ117, l117, y117, z117⟩, st117⟩ := X115.virtualBack hx (y := (⟨"java/lang/String", "charAt", "(I)C"⟩ : MethodName)) (z := (⟨"java/lang/String", "charAt", "(I)C"⟩ : MethodName)) hown (mvT hZ (hw _ (List.mem_of_getElem? (i := 79) rfl))) (mvT hZ (hw _ (List.mem_of_getElem? (i := 80) rfl))) (notFace_of_selects (args := #[]) (mvT hZ (hw _ (List.mem_of_getElem? (i := 82) rfl)))) (mvT hZ (hw _ (List.mem_of_getElem? (i := 82) rfl))) (mvT hZ (hw _ (List.mem_of_getElem? (i := 81) rfl))) (by decide) (StrChars.Road.chN (W := 0) hZ hch (kI := 4) (hw _ (List.mem_of_getElem? (i := 4) rfl)) f110 f111 f112 f113 hcd116 hbd116 (S_C.ext f114.2) hz (S_F.ext f114.2) rf (Nat.le_of_ble_eq_true rfl) (i := 0) (Nat.le_of_ble_eq_true rfl) (j := 0) rfl (by decide) (by decide)) q117a q117c (g := (mkF m 296 #[.val (.long q1), .second, .val (.int p2), .val (.int p3), .val (.int p4), .val (.ref b24), .val (.ref b26), .val (.ref b28), .val (.ref b30), .val (.ref b32), .val (.ref b63), .val (.ref b69), .val (.int fr), .val (.int ln), .val (.int (fr + ln)), .val (.int ii), .val (.ref b76), .val (.ref b55), .val (.int kk), .val (.int ex)] [(.int (0 : Int32)), (.ref b55)])) rfl (by rw [hml]; rfl) (Steps.refl _) (argsL := [(.int (0 : Int32))]) (rest := []) (lenOf pd__28I_29C rfl) rfl (by show 2 * 0 + _ ≤ _; exact Nat.le_of_eq rfl) (hb hby at_296) (fun _ _ => ⟨rfl, e115, (by decide : 16 + 0 ≤ _), (by decide : 43 + 0 ≤ _)⟩)
    dsimp only [Pt.U, Pt.locs, Pt.cells, Pt.slots] at X117 l117 y117 z117 st117 hQ117
    rw [l117, y117, z117] at X117
    obtain ⟨rfl, rfl, e117⟩ := hQ117
    have Nq117 : Fr n0 ([] : List Loc) := Fr.nil n0
    have N117 := Fr.app N115 Nq117
    have hc301 : ((([nar .char c3] : List Int32)).getD 0 0) = ex := (by rw [e_ex, hk]; show nar .char c3 = _; rw [e_c3, own_nn]; rfl)
    obtain ⟨fs, hr, hrun, hended, hW, hsame⟩ := X117.leave (v := some (.int (1 : Int32))) (fun h => by rw [Bd.returns] at h; cases h)
    refine ⟨_, _, pre0 _ ?_, hrun, hended, _, _, rfl, ?_, ⟨_, rfl⟩, hW, hsame.mono (by decide) (by decide)⟩
    · refine cut33 _ ?_
      refine cut60 _ ?_
      refine cut75 _ ?_
      refine cut81 _ ?_
      show Steps p.tables e below (T80.setTop (mkF m 254 #[.val (.long q1), .second, .val (.int p2), .val (.int p3), .val (.int p4), .val (.ref b24), .val (.ref b26), .val (.ref b28), .val (.ref b30), .val (.ref b32), .val (.ref b63), .val (.ref b69), .val (.int fr), .val (.int ln), .val (.int (fr + ln)), .val (.int ii), .val (.ref b76), .unset, .unset, .unset] [(.ref (own_nth kk b34 b41 b48 b55))])) _
      rw [hnr]
      show Steps p.tables e below (T80.setTop (mkF m 254 #[.val (.long q1), .second, .val (.int p2), .val (.int p3), .val (.int p4), .val (.ref b24), .val (.ref b26), .val (.ref b28), .val (.ref b30), .val (.ref b32), .val (.ref b63), .val (.ref b69), .val (.int fr), .val (.int ln), .val (.int (fr + ln)), .val (.int ii), .val (.ref b76), .unset, .unset, .unset] [(.ref b55)])) _
      refine XS.astore X80.here hx rfl (hb hby at_254) rfl rfl (l' := #[.val (.long q1), .second, .val (.int p2), .val (.int p3), .val (.int p4), .val (.ref b24), .val (.ref b26), .val (.ref b28), .val (.ref b30), .val (.ref b32), .val (.ref b63), .val (.ref b69), .val (.int fr), .val (.int ln), .val (.int (fr + ln)), .val (.int ii), .val (.ref b76), .val (.ref b55), .unset, .unset]) rfl ?_
      show Steps p.tables e below (T80.setTop (mkF m 256 #[.val (.long q1), .second, .val (.int p2), .val (.int p3), .val (.int p4), .val (.ref b24), .val (.ref b26), .val (.ref b28), .val (.ref b30), .val (.ref b32), .val (.ref b63), .val (.ref b69), .val (.int fr), .val (.int ln), .val (.int (fr + ln)), .val (.int ii), .val (.ref b76), .val (.ref b55), .unset, .unset] [])) _
      refine XS.iloadN X80.here hx rfl (hb hby at_256) rfl ?_
      show Steps p.tables e below (T80.setTop (mkF m 257 #[.val (.long q1), .second, .val (.int p2), .val (.int p3), .val (.int p4), .val (.ref b24), .val (.ref b26), .val (.ref b28), .val (.ref b30), .val (.ref b32), .val (.ref b63), .val (.ref b69), .val (.int fr), .val (.int ln), .val (.int (fr + ln)), .val (.int ii), .val (.ref b76), .val (.ref b55), .unset, .unset] [(.int p2)])) _
      refine XS.iconst X80.here hx rfl (hb hby at_257) ?_
      show Steps p.tables e below (T80.setTop (mkF m 258 #[.val (.long q1), .second, .val (.int p2), .val (.int p3), .val (.int p4), .val (.ref b24), .val (.ref b26), .val (.ref b28), .val (.ref b30), .val (.ref b32), .val (.ref b63), .val (.ref b69), .val (.int fr), .val (.int ln), .val (.int (fr + ln)), .val (.int ii), .val (.ref b76), .val (.ref b55), .unset, .unset] [(.int (2 : Int32)), (.int p2)])) _
      refine XS.iload X80.here hx rfl (hb hby at_258) rfl ?_
      show Steps p.tables e below (T80.setTop (mkF m 260 #[.val (.long q1), .second, .val (.int p2), .val (.int p3), .val (.int p4), .val (.ref b24), .val (.ref b26), .val (.ref b28), .val (.ref b30), .val (.ref b32), .val (.ref b63), .val (.ref b69), .val (.int fr), .val (.int ln), .val (.int (fr + ln)), .val (.int ii), .val (.ref b76), .val (.ref b55), .unset, .unset] [(.int fr), (.int (2 : Int32)), (.int p2)])) _
      refine XS.iload X80.here hx rfl (hb hby at_260) rfl ?_
      show Steps p.tables e below (T80.setTop (mkF m 262 #[.val (.long q1), .second, .val (.int p2), .val (.int p3), .val (.int p4), .val (.ref b24), .val (.ref b26), .val (.ref b28), .val (.ref b30), .val (.ref b32), .val (.ref b63), .val (.ref b69), .val (.int fr), .val (.int ln), .val (.int (fr + ln)), .val (.int ii), .val (.ref b76), .val (.ref b55), .unset, .unset] [(.int ii), (.int fr), (.int (2 : Int32)), (.int p2)])) _
      refine XS.iadd X80.here hx rfl (hb hby at_262) rfl ?_
      show Steps p.tables e below (T80.setTop (mkF m 263 #[.val (.long q1), .second, .val (.int p2), .val (.int p3), .val (.int p4), .val (.ref b24), .val (.ref b26), .val (.ref b28), .val (.ref b30), .val (.ref b32), .val (.ref b63), .val (.ref b69), .val (.int fr), .val (.int ln), .val (.int (fr + ln)), .val (.int ii), .val (.ref b76), .val (.ref b55), .unset, .unset] [(.int (fr + ii)), (.int (2 : Int32)), (.int p2)])) _
      refine XS.imul X80.here hx rfl (hb hby at_263) rfl ?_
      show Steps p.tables e below (T80.setTop (mkF m 264 #[.val (.long q1), .second, .val (.int p2), .val (.int p3), .val (.int p4), .val (.ref b24), .val (.ref b26), .val (.ref b28), .val (.ref b30), .val (.ref b32), .val (.ref b63), .val (.ref b69), .val (.int fr), .val (.int ln), .val (.int (fr + ln)), .val (.int ii), .val (.ref b76), .val (.ref b55), .unset, .unset] [(.int ((2 : Int32) * (fr + ii))), (.int p2)])) _
      refine XS.iushr X80.here hx rfl (hb hby at_264) rfl ?_
      show Steps p.tables e below (T80.setTop (mkF m 265 #[.val (.long q1), .second, .val (.int p2), .val (.int p3), .val (.int p4), .val (.ref b24), .val (.ref b26), .val (.ref b28), .val (.ref b30), .val (.ref b32), .val (.ref b63), .val (.ref b69), .val (.int fr), .val (.int ln), .val (.int (fr + ln)), .val (.int ii), .val (.ref b76), .val (.ref b55), .unset, .unset] [(.int ((p2.toUInt32 >>> (((2 : Int32) * (fr + ii)) &&& 31).toUInt32).toInt32))])) _
      refine XS.iconst X80.here hx rfl (hb hby at_265) ?_
      show Steps p.tables e below (T80.setTop (mkF m 266 #[.val (.long q1), .second, .val (.int p2), .val (.int p3), .val (.int p4), .val (.ref b24), .val (.ref b26), .val (.ref b28), .val (.ref b30), .val (.ref b32), .val (.ref b63), .val (.ref b69), .val (.int fr), .val (.int ln), .val (.int (fr + ln)), .val (.int ii), .val (.ref b76), .val (.ref b55), .unset, .unset] [(.int (3 : Int32)), (.int ((p2.toUInt32 >>> (((2 : Int32) * (fr + ii)) &&& 31).toUInt32).toInt32))])) _
      refine XS.iand X80.here hx rfl (hb hby at_266) rfl ?_
      show Steps p.tables e below (T80.setTop (mkF m 267 #[.val (.long q1), .second, .val (.int p2), .val (.int p3), .val (.int p4), .val (.ref b24), .val (.ref b26), .val (.ref b28), .val (.ref b30), .val (.ref b32), .val (.ref b63), .val (.ref b69), .val (.int fr), .val (.int ln), .val (.int (fr + ln)), .val (.int ii), .val (.ref b76), .val (.ref b55), .unset, .unset] [(.int (((p2.toUInt32 >>> (((2 : Int32) * (fr + ii)) &&& 31).toUInt32).toInt32) &&& (3 : Int32)))])) _
      rw [← e_kk]
      show Steps p.tables e below (T80.setTop (mkF m 267 #[.val (.long q1), .second, .val (.int p2), .val (.int p3), .val (.int p4), .val (.ref b24), .val (.ref b26), .val (.ref b28), .val (.ref b30), .val (.ref b32), .val (.ref b63), .val (.ref b69), .val (.int fr), .val (.int ln), .val (.int (fr + ln)), .val (.int ii), .val (.ref b76), .val (.ref b55), .unset, .unset] [(.int kk)])) _
      refine XS.istore X80.here hx rfl (hb hby at_267) rfl (l' := #[.val (.long q1), .second, .val (.int p2), .val (.int p3), .val (.int p4), .val (.ref b24), .val (.ref b26), .val (.ref b28), .val (.ref b30), .val (.ref b32), .val (.ref b63), .val (.ref b69), .val (.int fr), .val (.int ln), .val (.int (fr + ln)), .val (.int ii), .val (.ref b76), .val (.ref b55), .val (.int kk), .unset]) rfl ?_
      show Steps p.tables e below (T80.setTop (mkF m 269 #[.val (.long q1), .second, .val (.int p2), .val (.int p3), .val (.int p4), .val (.ref b24), .val (.ref b26), .val (.ref b28), .val (.ref b30), .val (.ref b32), .val (.ref b63), .val (.ref b69), .val (.int fr), .val (.int ln), .val (.int (fr + ln)), .val (.int ii), .val (.ref b76), .val (.ref b55), .val (.int kk), .unset] [])) _
      refine XS.lloadN X80.here hx rfl (hb hby at_269) rfl ?_
      show Steps p.tables e below (T80.setTop (mkF m 270 #[.val (.long q1), .second, .val (.int p2), .val (.int p3), .val (.int p4), .val (.ref b24), .val (.ref b26), .val (.ref b28), .val (.ref b30), .val (.ref b32), .val (.ref b63), .val (.ref b69), .val (.int fr), .val (.int ln), .val (.int (fr + ln)), .val (.int ii), .val (.ref b76), .val (.ref b55), .val (.int kk), .unset] [(.long q1)])) _
      refine XS.bipush X80.here hx rfl (hb hby at_270) ?_
      show Steps p.tables e below (T80.setTop (mkF m 272 #[.val (.long q1), .second, .val (.int p2), .val (.int p3), .val (.int p4), .val (.ref b24), .val (.ref b26), .val (.ref b28), .val (.ref b30), .val (.ref b32), .val (.ref b63), .val (.ref b69), .val (.int fr), .val (.int ln), .val (.int (fr + ln)), .val (.int ii), .val (.ref b76), .val (.ref b55), .val (.int kk), .unset] [(.int (8 : Int32)), (.long q1)])) _
      refine XS.iload X80.here hx rfl (hb hby at_272) rfl ?_
      show Steps p.tables e below (T80.setTop (mkF m 274 #[.val (.long q1), .second, .val (.int p2), .val (.int p3), .val (.int p4), .val (.ref b24), .val (.ref b26), .val (.ref b28), .val (.ref b30), .val (.ref b32), .val (.ref b63), .val (.ref b69), .val (.int fr), .val (.int ln), .val (.int (fr + ln)), .val (.int ii), .val (.ref b76), .val (.ref b55), .val (.int kk), .unset] [(.int kk), (.int (8 : Int32)), (.long q1)])) _
      refine XS.imul X80.here hx rfl (hb hby at_274) rfl ?_
      show Steps p.tables e below (T80.setTop (mkF m 275 #[.val (.long q1), .second, .val (.int p2), .val (.int p3), .val (.int p4), .val (.ref b24), .val (.ref b26), .val (.ref b28), .val (.ref b30), .val (.ref b32), .val (.ref b63), .val (.ref b69), .val (.int fr), .val (.int ln), .val (.int (fr + ln)), .val (.int ii), .val (.ref b76), .val (.ref b55), .val (.int kk), .unset] [(.int ((8 : Int32) * kk)), (.long q1)])) _
      refine XS.lushr X80.here hx rfl (hb hby at_275) rfl ?_
      show Steps p.tables e below (T80.setTop (mkF m 276 #[.val (.long q1), .second, .val (.int p2), .val (.int p3), .val (.int p4), .val (.ref b24), .val (.ref b26), .val (.ref b28), .val (.ref b30), .val (.ref b32), .val (.ref b63), .val (.ref b69), .val (.int fr), .val (.int ln), .val (.int (fr + ln)), .val (.int ii), .val (.ref b76), .val (.ref b55), .val (.int kk), .unset] [(.long ((q1.toUInt64 >>> (((8 : Int32) * kk) &&& 0x3f).toInt64.toUInt64).toInt64))])) _
      refine X80.ldc2Long hx hown (mvT hZ (hw _ (List.mem_of_getElem? (i := 1) rfl))) (g := (mkF m 276 #[.val (.long q1), .second, .val (.int p2), .val (.int p3), .val (.int p4), .val (.ref b24), .val (.ref b26), .val (.ref b28), .val (.ref b30), .val (.ref b32), .val (.ref b63), .val (.ref b69), .val (.int fr), .val (.int ln), .val (.int (fr + ln)), .val (.int ii), .val (.ref b76), .val (.ref b55), .val (.int kk), .unset] [(.long ((q1.toUInt64 >>> (((8 : Int32) * kk) &&& 0x3f).toInt64.toUInt64).toInt64))])) rfl (hb hby at_276) _ ?_
      show Steps p.tables e below (T80.setTop (mkF m 279 #[.val (.long q1), .second, .val (.int p2), .val (.int p3), .val (.int p4), .val (.ref b24), .val (.ref b26), .val (.ref b28), .val (.ref b30), .val (.ref b32), .val (.ref b63), .val (.ref b69), .val (.int fr), .val (.int ln), .val (.int (fr + ln)), .val (.int ii), .val (.ref b76), .val (.ref b55), .val (.int kk), .unset] [(.long (255 : Int64)), (.long ((q1.toUInt64 >>> (((8 : Int32) * kk) &&& 0x3f).toInt64.toUInt64).toInt64))])) _
      refine XS.land X80.here hx rfl (hb hby at_279) rfl ?_
      show Steps p.tables e below (T80.setTop (mkF m 280 #[.val (.long q1), .second, .val (.int p2), .val (.int p3), .val (.int p4), .val (.ref b24), .val (.ref b26), .val (.ref b28), .val (.ref b30), .val (.ref b32), .val (.ref b63), .val (.ref b69), .val (.int fr), .val (.int ln), .val (.int (fr + ln)), .val (.int ii), .val (.ref b76), .val (.ref b55), .val (.int kk), .unset] [(.long (((q1.toUInt64 >>> (((8 : Int32) * kk) &&& 0x3f).toInt64.toUInt64).toInt64) &&& (255 : Int64)))])) _
      refine XS.l2i X80.here hx rfl (hb hby at_280) rfl ?_
      show Steps p.tables e below (T80.setTop (mkF m 281 #[.val (.long q1), .second, .val (.int p2), .val (.int p3), .val (.int p4), .val (.ref b24), .val (.ref b26), .val (.ref b28), .val (.ref b30), .val (.ref b32), .val (.ref b63), .val (.ref b69), .val (.int fr), .val (.int ln), .val (.int (fr + ln)), .val (.int ii), .val (.ref b76), .val (.ref b55), .val (.int kk), .unset] [(.int ((((q1.toUInt64 >>> (((8 : Int32) * kk) &&& 0x3f).toInt64.toUInt64).toInt64) &&& (255 : Int64)).toInt32))])) _
      refine XS.i2c X80.here hx rfl (hb hby at_281) rfl ?_
      show Steps p.tables e below (T80.setTop (mkF m 282 #[.val (.long q1), .second, .val (.int p2), .val (.int p3), .val (.int p4), .val (.ref b24), .val (.ref b26), .val (.ref b28), .val (.ref b30), .val (.ref b32), .val (.ref b63), .val (.ref b69), .val (.int fr), .val (.int ln), .val (.int (fr + ln)), .val (.int ii), .val (.ref b76), .val (.ref b55), .val (.int kk), .unset] [(.int (((((q1.toUInt64 >>> (((8 : Int32) * kk) &&& 0x3f).toInt64.toUInt64).toInt64) &&& (255 : Int64)).toInt32).toUInt32.toUInt16.toUInt32.toInt32))])) _
      refine XS.istore X80.here hx rfl (hb hby at_282) rfl (l' := #[.val (.long q1), .second, .val (.int p2), .val (.int p3), .val (.int p4), .val (.ref b24), .val (.ref b26), .val (.ref b28), .val (.ref b30), .val (.ref b32), .val (.ref b63), .val (.ref b69), .val (.int fr), .val (.int ln), .val (.int (fr + ln)), .val (.int ii), .val (.ref b76), .val (.ref b55), .val (.int kk), .val (.int (((((q1.toUInt64 >>> (((8 : Int32) * kk) &&& 0x3f).toInt64.toUInt64).toInt64) &&& (255 : Int64)).toInt32).toUInt32.toUInt16.toUInt32.toInt32))]) rfl ?_
      show Steps p.tables e below (T80.setTop (mkF m 284 #[.val (.long q1), .second, .val (.int p2), .val (.int p3), .val (.int p4), .val (.ref b24), .val (.ref b26), .val (.ref b28), .val (.ref b30), .val (.ref b32), .val (.ref b63), .val (.ref b69), .val (.int fr), .val (.int ln), .val (.int (fr + ln)), .val (.int ii), .val (.ref b76), .val (.ref b55), .val (.int kk), .val (.int (((((q1.toUInt64 >>> (((8 : Int32) * kk) &&& 0x3f).toInt64.toUInt64).toInt64) &&& (255 : Int64)).toInt32).toUInt32.toUInt16.toUInt32.toInt32))] [])) _
      rw [← e_ex]
      show Steps p.tables e below (T80.setTop (mkF m 284 #[.val (.long q1), .second, .val (.int p2), .val (.int p3), .val (.int p4), .val (.ref b24), .val (.ref b26), .val (.ref b28), .val (.ref b30), .val (.ref b32), .val (.ref b63), .val (.ref b69), .val (.int fr), .val (.int ln), .val (.int (fr + ln)), .val (.int ii), .val (.ref b76), .val (.ref b55), .val (.int kk), .val (.int ex)] [])) _
      refine XS.aload X80.here hx rfl (hb hby at_284) rfl rfl ?_
      show Steps p.tables e below (T80.setTop (mkF m 286 #[.val (.long q1), .second, .val (.int p2), .val (.int p3), .val (.int p4), .val (.ref b24), .val (.ref b26), .val (.ref b28), .val (.ref b30), .val (.ref b32), .val (.ref b63), .val (.ref b69), .val (.int fr), .val (.int ln), .val (.int (fr + ln)), .val (.int ii), .val (.ref b76), .val (.ref b55), .val (.int kk), .val (.int ex)] [(.ref b55)])) _
      refine st115.trans ?_
      show Steps p.tables e below (T115.setTop (mkF m 289 #[.val (.long q1), .second, .val (.int p2), .val (.int p3), .val (.int p4), .val (.ref b24), .val (.ref b26), .val (.ref b28), .val (.ref b30), .val (.ref b32), .val (.ref b63), .val (.ref b69), .val (.int fr), .val (.int ln), .val (.int (fr + ln)), .val (.int ii), .val (.ref b76), .val (.ref b55), .val (.int kk), .val (.int ex)] [(.int (Int32.ofNat (([nar .char c3] : List Int32)).length))])) _
      refine XS.iconst X115.here hx rfl (hb hby at_289) ?_
      show Steps p.tables e below (T115.setTop (mkF m 290 #[.val (.long q1), .second, .val (.int p2), .val (.int p3), .val (.int p4), .val (.ref b24), .val (.ref b26), .val (.ref b28), .val (.ref b30), .val (.ref b32), .val (.ref b63), .val (.ref b69), .val (.int fr), .val (.int ln), .val (.int (fr + ln)), .val (.int ii), .val (.ref b76), .val (.ref b55), .val (.int kk), .val (.int ex)] [(.int (1 : Int32)), (.int (Int32.ofNat (([nar .char c3] : List Int32)).length))])) _
      refine XS.icmpNo X115.here hx rfl (hb hby at_290) rfl (teq hc290).2 ?_
      show Steps p.tables e below (T115.setTop (mkF m 293 #[.val (.long q1), .second, .val (.int p2), .val (.int p3), .val (.int p4), .val (.ref b24), .val (.ref b26), .val (.ref b28), .val (.ref b30), .val (.ref b32), .val (.ref b63), .val (.ref b69), .val (.int fr), .val (.int ln), .val (.int (fr + ln)), .val (.int ii), .val (.ref b76), .val (.ref b55), .val (.int kk), .val (.int ex)] [])) _
      refine XS.aload X115.here hx rfl (hb hby at_293) rfl rfl ?_
      show Steps p.tables e below (T115.setTop (mkF m 295 #[.val (.long q1), .second, .val (.int p2), .val (.int p3), .val (.int p4), .val (.ref b24), .val (.ref b26), .val (.ref b28), .val (.ref b30), .val (.ref b32), .val (.ref b63), .val (.ref b69), .val (.int fr), .val (.int ln), .val (.int (fr + ln)), .val (.int ii), .val (.ref b76), .val (.ref b55), .val (.int kk), .val (.int ex)] [(.ref b55)])) _
      refine XS.iconst X115.here hx rfl (hb hby at_295) ?_
      show Steps p.tables e below (T115.setTop (mkF m 296 #[.val (.long q1), .second, .val (.int p2), .val (.int p3), .val (.int p4), .val (.ref b24), .val (.ref b26), .val (.ref b28), .val (.ref b30), .val (.ref b32), .val (.ref b63), .val (.ref b69), .val (.int fr), .val (.int ln), .val (.int (fr + ln)), .val (.int ii), .val (.ref b76), .val (.ref b55), .val (.int kk), .val (.int ex)] [(.int (0 : Int32)), (.ref b55)])) _
      refine st117.trans ?_
      show Steps p.tables e below (T117.setTop (mkF m 299 #[.val (.long q1), .second, .val (.int p2), .val (.int p3), .val (.int p4), .val (.ref b24), .val (.ref b26), .val (.ref b28), .val (.ref b30), .val (.ref b32), .val (.ref b63), .val (.ref b69), .val (.int fr), .val (.int ln), .val (.int (fr + ln)), .val (.int ii), .val (.ref b76), .val (.ref b55), .val (.int kk), .val (.int ex)] [(.int ((([nar .char c3] : List Int32)).getD 0 0))])) _
      refine XS.iload X117.here hx rfl (hb hby at_299) rfl ?_
      show Steps p.tables e below (T117.setTop (mkF m 301 #[.val (.long q1), .second, .val (.int p2), .val (.int p3), .val (.int p4), .val (.ref b24), .val (.ref b26), .val (.ref b28), .val (.ref b30), .val (.ref b32), .val (.ref b63), .val (.ref b69), .val (.int fr), .val (.int ln), .val (.int (fr + ln)), .val (.int ii), .val (.ref b76), .val (.ref b55), .val (.int kk), .val (.int ex)] [(.int ex), (.int ((([nar .char c3] : List Int32)).getD 0 0))])) _
      refine XS.icmpNo X117.here hx rfl (hb hby at_301) rfl (teq hc301).2 ?_
      show Steps p.tables e below (T117.setTop (mkF m 304 #[.val (.long q1), .second, .val (.int p2), .val (.int p3), .val (.int p4), .val (.ref b24), .val (.ref b26), .val (.ref b28), .val (.ref b30), .val (.ref b32), .val (.ref b63), .val (.ref b69), .val (.int fr), .val (.int ln), .val (.int (fr + ln)), .val (.int ii), .val (.ref b76), .val (.ref b55), .val (.int kk), .val (.int ex)] [])) _
      refine XS.iconst X117.here hx rfl (hb hby at_304) ?_
      show Steps p.tables e below (T117.setTop (mkF m 305 #[.val (.long q1), .second, .val (.int p2), .val (.int p3), .val (.int p4), .val (.ref b24), .val (.ref b26), .val (.ref b28), .val (.ref b30), .val (.ref b32), .val (.ref b63), .val (.ref b69), .val (.int fr), .val (.int ln), .val (.int (fr + ln)), .val (.int ii), .val (.ref b76), .val (.ref b55), .val (.int kk), .val (.int ex)] [(.int (1 : Int32))])) _
      refine XS.goto X117.here hx rfl (pc0 := 305) (pc' := 309) rfl (hb hby at_305) (by decide) (by decide) ?_
      show Steps p.tables e below (T117.setTop (mkF m 309 #[.val (.long q1), .second, .val (.int p2), .val (.int p3), .val (.int p4), .val (.ref b24), .val (.ref b26), .val (.ref b28), .val (.ref b30), .val (.ref b32), .val (.ref b63), .val (.ref b69), .val (.int fr), .val (.int ln), .val (.int (fr + ln)), .val (.int ii), .val (.ref b76), .val (.ref b55), .val (.int kk), .val (.int ex)] [(.int (1 : Int32))])) _
      exact retN X117 hx (t := .boolean) Bd.returns (by simp) (hb hby at_309) hr
    · show Q_0 Z q1 p2 p3 p4 h0 n0 _ T117.heap _
      rw [e117]
      exact ⟨rfl, N117⟩
set_option maxRecDepth 65536 in
set_option maxHeartbeats 40000000 in
theorem comes_1 {Post : Tables → Env → Array Value → State → Outcome → State → Prop} (hpost : ∀ tb e args s v u, (limb_1_1.after args s (.returned v) u = true ∧ limb_1_2.after args s (.returned v) u = true ∧ True) → FrameEnd s (.returned v) u (Jvm.fieldLocs frame_1_writes args s ++ Jvm.arrayLocs frame_1_arrays args s ++ Jvm.staticLocs frame_1_statics s) 40 192 → Post tb e args s (.returned v) u) :
    ArmFor flags0 classFile x code maxLocals ret World_1 tables_1 room_1 Calls_1 rest_1 Pre_1 Post := by
  intro l hfl _ _ p e ha hc hk s m args below hf hA hF happ hP
  obtain ⟨hcalls, hrest, hpre⟩ := hP
  obtain ⟨-, -, -, hnamed, -, -, -, hat⟩ := (Spec.applies_iff hf).mp happ
  obtain ⟨hg, hn⟩ := and_e (Cond.before_iff.mp (show (Jvm.Cond.and given_1 narrow_1).before args s = true from hpre))
  obtain ⟨g118, g119⟩ := and_e hg
  obtain ⟨g120, g121⟩ := and_e g119
  obtain ⟨g122, g123⟩ := and_e g121
  obtain ⟨g124, g125⟩ := and_e g123
  obtain ⟨w0, w1, w2, w3, rfl⟩ : ∃ w0 w1 w2 w3 : Value, args = #[w0, w1, w2, w3] := by
    have hs : args.size = 4 := by simpa [Cond.value, given_1] using g118
    obtain ⟨L⟩ := args
    match L, hs with
    | [w0, w1, w2, w3], _ => exact ⟨w0, w1, w2, w3, rfl⟩
  have hw := fun d (hd : d ∈ tables_1) => atoms_spec (ws := Jvm.Cond.code x code maxLocals ret :: tables_1) hat d (List.mem_cons_of_mem _ hd)
  have hfit : Fit s := fun {y c} hc i hi => by
    obtain ⟨ha, rfl⟩ := Array.getElem?_eq_some_iff.mp hc
    have q := List.all_eq_true.mp ((Array.all_eq_true_iff_forall_mem.mp hF) _ (Array.getElem_mem ha)) i (List.mem_range.mpr hi)
    simpa [Array.getElem?_eq_getElem hi] using q
  obtain ⟨hsets, hown0⟩ := atoms_of _ (rest_1_c_eq ▸ (show rest_1_c.before _ s = true from hrest))
  have hr0 := Cond.before_iff.mp hown0
  obtain ⟨i0, ei0⟩ := isL_v g120
  obtain rfl : w0 = (.long i0) := Option.some.inj ei0
  obtain ⟨i1, ei1⟩ := is_v g122
  obtain rfl : w1 = (.int i1) := Option.some.inj ei1
  obtain ⟨i2, ei2⟩ := is_v g124
  obtain rfl : w2 = (.int i2) := Option.some.inj ei2
  obtain ⟨i3, ei3⟩ := is_v g125
  obtain rfl : w3 = (.int i3) := Option.some.inj ei3
  obtain ⟨zc, ezc⟩ := is_v (Cond.before_iff.mp (hsets _ (List.mem_of_getElem? (i := 1) rfl)))
  have S_C : Sta s s.heap "java/lang/String" "COMPACT_STRINGS" "Z" (.int zc) := Sta.start ezc (Or.inl (hsets _ (List.mem_of_getElem? (i := 0) rfl)))
  have hz : ¬ zc = 0 := gotF (Cond.eq_ints ezc (Term.int_eval (0))) (not_v (Cond.before_iff.mp (hsets _ (List.mem_of_getElem? (i := 2) rfl))))
  obtain ⟨fm, efm, rf⟩ := isR_v (Cond.before_iff.mp (hsets _ (List.mem_of_getElem? (i := 8) rfl)))
  have S_F : Sta s s.heap "jdk/internal/util/Preconditions" "SIOOBE_FORMATTER" "Ljava/util/function/BiFunction;" fm := Sta.start efm (Or.inl (hsets _ (List.mem_of_getElem? (i := 7) rfl)))
  obtain ⟨n, o, h1, h2, h3, _, L, rfl, ⟨rfl, N⟩, hq⟩ := rm_0 l s _ hw tables_1 i0 i1 i2 i3 fm zc s.heap s.heap.size (Nat.le_refl _) S_C hz (Old.start s) rf S_F p e ha hc hk s m _ below hf ((Spec.applies_iff_loose hf).mp happ).1 ⟨rfl, State.Warmed39.refl s, rfl⟩ trivial
  refine ⟨n, _, h1, h2, h3, hpost _ _ _ _ _ _ ⟨Cond.after_iff.mpr rfl, Cond.after_iff.mpr (eq_i res_at (Term.int_eval (1)) rfl), trivial⟩ ⟨hq.1, hq.2.1, (hq.2.2.sift fun y hy => Or.inr (N y hy)).mono (by decide) (by decide)⟩⟩
theorem main_1_1 : Claimed_1_1 := comes_1 fun _ _ _ _ _ _ h hF => ⟨h.1, hF⟩
theorem main_1_2 : Claimed_1_2 := comes_1 fun _ _ _ _ _ _ h hF => ⟨h.2.1, hF⟩
end Jvm.Pilot.@@N@@
namespace Jvm.Pilot.@@N@@
open Jvm Jvm.ClassFile Sem Op Lib Jvm.Free Jvm.Stand Jvm.Pilot.@@N@@.Jvm.D
/-! MADE BY PROGRAM (witnessworld.py) out of the Statement's table words and the real class files: 22 classes; the members and pool entries that the words name. The judged class is class 1, her method 1. -/
namespace start1
open Jvm.ClassFile
def u (s : String) : CpInfo := .utf8 (stringToUtf16 s)
/-- a pool by its gaps: so many unusable entries, then the entry; so many at the end -/
def gap : Nat → List CpInfo → List CpInfo
  | 0, r => r
  | n + 1, r => .unusable :: gap n r
def poolList (es : List (Nat × CpInfo)) (last : Nat) : List CpInfo := es.foldr (fun e r => gap e.1 (e.2 :: r)) (gap last [])
def pool (es : List (Nat × CpInfo)) (last : Nat) : Array CpInfo := ⟨poolList es last⟩
def fileOf (pool : Array CpInfo) (this : Nat) (attrs : Array Attribute := #[]) (ms : Array MethodInfo := #[]) (fl : Nat := 33) (sup : Nat := 0) (ifs : Array Nat := #[]) (fds : Array FieldInfo := #[]) : ClassFile where
  minorVersion := 0
  majorVersion := 65
  constantPool := pool
  accessFlags := fl
  thisClass := this
  superClass := sup
  interfaces := ifs
  fields := fds
  methods := ms
  attributes := attrs
def plain (name : String) (sup : Option ClassId) : Class where
  name := name
  kind := .ordinary
  loader := none
  accessFlags := 33
  super := sup
  interfaces := #[]
  cf := none
  fields := #[]
  methods := #[]
  instanceTypes := #[]
  staticTypes := #[]
  resolved := #[]
  callSites := []
  init := .initialized
  statics := none
  mirror := none

def pool0 : Array CpInfo := pool [(5, u "<init>"), (0, u "()V"), (1, .class_ 10), (1, u "java/lang/Object")] 113

def k0c0 : Code := { maxStack := 0, maxLocals := 1, code := object_method_1_code, exceptionTable := #[], attributes := #[] }
def k0m0 : Method := { name := "<init>", desc := "()V", sig := { parameters := [], returnType := none }, accessFlags := 1, code := some k0c0 }
/-- java/lang/Object -/
def k0 : Class := { plain "java/lang/Object" none with
  accessFlags := 33
  interfaces := #[]
  cf := some (fileOf pool0 8 #[] #[{ accessFlags := 1, nameIndex := 5, descriptorIndex := 6, attributes := #[] }] 33 0 #[] #[])
  fields := #[]
  methods := #[k0m0]
  instanceTypes := #[]
  staticTypes := #[]
  resolved := Array.replicate 124 none
  statics := none }

def pool1 : Array CpInfo := pool [(2, .class_ 4), (1, u "java/lang/Object"), (0, u "<init>"), (0, u "()V"), (0, .long 255), (1, .class_ 10), (0, u "java/lang/String"), (0, .methodref 9 12), (0, .nameAndType 5 13), (0, u "([C)V"), (0, .integer 2147483647), (0, .class_ 16), (0, u "com/example/vrabec/vrabec/index/PostTerms"), (0, .methodref 15 18), (0, .nameAndType 5 19), (0, u "([Ljava/lang/String;[I[III)V"), (0, .methodref 15 21), (0, .nameAndType 22 23), (0, u "term"), (0, u "(I)Ljava/lang/String;"), (0, .methodref 9 25), (0, .nameAndType 26 27), (0, u "length"), (0, u "()I"), (0, .methodref 9 29), (0, .nameAndType 30 31), (0, u "charAt"), (0, u "(I)C"), (0, .class_ 33), (0, u "com/example/vrabec/vrabec/index/PostTermsTermPinLaw"), (2, u "law"), (0, u "(JIII)Z")] 9

def k1m0 : Method := { name := "<init>", desc := "()V", sig := { parameters := [], returnType := none }, accessFlags := 1, code := none }
def k1c1 : Code := { maxStack := 7, maxLocals := 20, code := code, exceptionTable := #[], attributes := #[] }
def k1m1 : Method := { name := "law", desc := "(JIII)Z", sig := { parameters := [.long, .int, .int, .int], returnType := some .boolean }, accessFlags := 9, code := some k1c1 }
/-- com/example/vrabec/vrabec/index/PostTermsTermPinLaw -/
def k1 : Class := { plain "com/example/vrabec/vrabec/index/PostTermsTermPinLaw" (some 0) with
  accessFlags := 49
  interfaces := #[]
  cf := some (fileOf pool1 32 #[] #[{ accessFlags := 1, nameIndex := 5, descriptorIndex := 6, attributes := #[] }, { accessFlags := 9, nameIndex := 36, descriptorIndex := 37, attributes := #[] }] 49 2 #[] #[])
  fields := #[]
  methods := #[k1m0, k1m1]
  instanceTypes := #[]
  staticTypes := #[]
  resolved := Array.replicate 47 none
  statics := none }

def pool2 : Array CpInfo := pool [(1, .class_ 2), (0, u "java/io/Serializable"), (0, .class_ 4), (0, u "java/lang/Object")] 2

/-- java/io/Serializable -/
def k2 : Class := { plain "java/io/Serializable" (some 0) with
  accessFlags := 1537
  interfaces := #[]
  cf := some (fileOf pool2 1 #[] #[] 1537 3 #[] #[])
  fields := #[]
  methods := #[]
  instanceTypes := #[]
  staticTypes := #[]
  resolved := Array.replicate 7 none
  statics := none }

def pool3 : Array CpInfo := pool [(1, .class_ 2), (0, u "java/lang/Comparable"), (0, .class_ 4), (0, u "java/lang/Object")] 7

/-- java/lang/Comparable -/
def k3 : Class := { plain "java/lang/Comparable" (some 0) with
  accessFlags := 1537
  interfaces := #[]
  cf := some (fileOf pool3 1 #[] #[] 1537 3 #[] #[])
  fields := #[]
  methods := #[]
  instanceTypes := #[]
  staticTypes := #[]
  resolved := Array.replicate 12 none
  statics := none }

def pool4 : Array CpInfo := pool [(2, .class_ 4), (1, u "java/lang/CharSequence"), (42, .class_ 48), (0, u "java/lang/CharSequence$1CodePointIterator"), (10, .class_ 60), (0, u "java/lang/CharSequence$1CharIterator"), (5, .class_ 67), (0, u "java/lang/Object")] 63

/-- java/lang/CharSequence -/
def k4 : Class := { plain "java/lang/CharSequence" (some 0) with
  accessFlags := 1537
  interfaces := #[]
  cf := some (fileOf pool4 2 #[.nestMembers #[47, 59]] #[] 1537 66 #[] #[])
  fields := #[]
  methods := #[]
  instanceTypes := #[]
  staticTypes := #[]
  resolved := Array.replicate 131 none
  statics := none }

def pool5 : Array CpInfo := pool [(1, .class_ 2), (0, u "java/lang/constant/Constable"), (0, .class_ 4), (0, u "java/lang/Object")] 6

/-- java/lang/constant/Constable -/
def k5 : Class := { plain "java/lang/constant/Constable" (some 0) with
  accessFlags := 1537
  interfaces := #[]
  cf := some (fileOf pool5 1 #[] #[] 1537 3 #[] #[])
  fields := #[]
  methods := #[]
  instanceTypes := #[]
  staticTypes := #[]
  resolved := Array.replicate 11 none
  statics := none }

def pool6 : Array CpInfo := pool [(1, .class_ 2), (0, u "java/lang/constant/ConstantDesc"), (0, .class_ 4), (0, u "java/lang/Object")] 32

/-- java/lang/constant/ConstantDesc -/
def k6 : Class := { plain "java/lang/constant/ConstantDesc" (some 0) with
  accessFlags := 1537
  interfaces := #[]
  cf := some (fileOf pool6 1 #[] #[] 1537 3 #[] #[])
  fields := #[]
  methods := #[]
  instanceTypes := #[]
  staticTypes := #[]
  resolved := Array.replicate 37 none
  statics := none }

def pool7 : Array CpInfo := pool [(1, .methodref 2 3), (0, .class_ 4), (0, .nameAndType 5 6), (0, u "java/lang/Object"), (0, u "<init>"), (0, u "()V"), (2, .fieldref 10 11), (0, .class_ 12), (0, .nameAndType 13 14), (0, u "java/lang/String"), (0, u "value"), (0, u "[B"), (0, .fieldref 10 16), (0, .nameAndType 17 18), (0, u "coder"), (0, u "B"), (2, u "hash"), (0, u "I"), (2, u "hashIsZero"), (0, u "Z"), (0, .methodref 10 28), (0, .nameAndType 5 29), (0, u "([CIILjava/lang/Void;)V"), (8, .fieldref 10 39), (0, .nameAndType 40 26), (0, u "COMPACT_STRINGS"), (1, .class_ 44), (1, u "java/lang/StringUTF16"), (0, u "compress"), (1, .methodref 42 48), (0, .nameAndType 49 50), (0, u "coderFromArrayLen"), (0, u "([BI)B"), (56, .class_ 109), (1, u "java/lang/StringLatin1"), (32, u "()Z"), (34, .methodref 42 178), (0, .nameAndType 45 179), (0, u "([CII)[B"), (154, u "()I"), (0, .methodref 10 336), (0, .nameAndType 17 337), (0, u "()B"), (25, u "([BI)C"), (27, u "(II)V"), (35, u "(I)C"), (64, .methodref 10 493), (0, .nameAndType 494 142), (0, u "isLatin1"), (0, .methodref 107 496), (0, .nameAndType 497 363), (0, u "charAt"), (3, u "checkIndex"), (5, u "length"), (67, .class_ 576), (0, u "java/lang/CharSequence"), (22, u "CASE_INSENSITIVE_ORDER"), (0, u "Ljava/util/Comparator;"), (409, u "([C)V"), (42, .fieldref 1054 1055), (0, .class_ 1056), (0, .nameAndType 1057 1058), (0, u "jdk/internal/util/Preconditions"), (0, u "SIOOBE_FORMATTER"), (0, u "Ljava/util/function/BiFunction;"), (0, .methodref 1054 1060), (0, .nameAndType 501 1061), (0, u "(IILjava/util/function/BiFunction;)I"), (39, u "serialPersistentFields"), (0, u "[Ljava/io/ObjectStreamField;"), (0, .class_ 1104), (0, u "java/lang/String$CaseInsensitiveComparator"), (1, .class_ 1107), (0, u "java/io/Serializable"), (0, .class_ 1109), (0, u "java/lang/Comparable"), (0, .class_ 1111), (0, u "java/lang/constant/Constable"), (0, .class_ 1113), (0, u "java/lang/constant/ConstantDesc"), (2, u "serialVersionUID"), (0, u "J"), (3, u "REPL"), (0, u "C"), (2, u "LATIN1"), (1, u "UTF16")] 323

def k7m0 : Method := { name := "<init>", desc := "()V", sig := { parameters := [], returnType := none }, accessFlags := 1, code := none }
def k7c1 : Code := { maxStack := 5, maxLocals := 2, code := jdk_42_method_3_code, exceptionTable := #[], attributes := #[] }
def k7m1 : Method := { name := "<init>", desc := "([C)V", sig := { parameters := [(.array .char)], returnType := none }, accessFlags := 1, code := some k7c1 }
def k7c2 : Code := { maxStack := 2, maxLocals := 1, code := jdk_42_method_54_code, exceptionTable := #[], attributes := #[] }
def k7m2 : Method := { name := "length", desc := "()I", sig := { parameters := [], returnType := some .int }, accessFlags := 1, code := some k7c2 }
def k7c3 : Code := { maxStack := 2, maxLocals := 2, code := jdk_42_method_56_code, exceptionTable := #[], attributes := #[] }
def k7m3 : Method := { name := "charAt", desc := "(I)C", sig := { parameters := [.int], returnType := some .char }, accessFlags := 1, code := some k7c3 }
def k7c4 : Code := { maxStack := 4, maxLocals := 6, code := jdk_42_method_149_code, exceptionTable := #[], attributes := #[] }
def k7m4 : Method := { name := "<init>", desc := "([CIILjava/lang/Void;)V", sig := { parameters := [(.array .char), .int, .int, (.object "java/lang/Void")], returnType := none }, accessFlags := 2, code := some k7c4 }
def k7c5 : Code := { maxStack := 1, maxLocals := 1, code := jdk_42_method_152_code, exceptionTable := #[], attributes := #[] }
def k7m5 : Method := { name := "coder", desc := "()B", sig := { parameters := [], returnType := some .byte }, accessFlags := 0, code := some k7c5 }
def k7c6 : Code := { maxStack := 1, maxLocals := 1, code := jdk_42_method_154_code, exceptionTable := #[], attributes := #[] }
def k7m6 : Method := { name := "isLatin1", desc := "()Z", sig := { parameters := [], returnType := some .boolean }, accessFlags := 0, code := some k7c6 }
def k7c7 : Code := { maxStack := 3, maxLocals := 2, code := jdk_42_method_155_code, exceptionTable := #[], attributes := #[] }
def k7m7 : Method := { name := "checkIndex", desc := "(II)V", sig := { parameters := [.int, .int], returnType := none }, accessFlags := 8, code := some k7c7 }
/-- java/lang/String -/
def k7 : Class := { plain "java/lang/String" (some 0) with
  accessFlags := 49
  interfaces := #[2, 3, 4, 5, 6]
  cf := some (fileOf pool7 10 #[.nestMembers #[1103]] #[{ accessFlags := 1, nameIndex := 5, descriptorIndex := 6, attributes := #[] }, { accessFlags := 1, nameIndex := 5, descriptorIndex := 1010, attributes := #[] }, { accessFlags := 1, nameIndex := 507, descriptorIndex := 334, attributes := #[] }, { accessFlags := 1, nameIndex := 497, descriptorIndex := 427, attributes := #[] }, { accessFlags := 2, nameIndex := 5, descriptorIndex := 29, attributes := #[] }, { accessFlags := 0, nameIndex := 17, descriptorIndex := 337, attributes := #[] }, { accessFlags := 0, nameIndex := 494, descriptorIndex := 142, attributes := #[] }, { accessFlags := 8, nameIndex := 501, descriptorIndex := 391, attributes := #[] }] 49 2 #[1106, 1108, 575, 1110, 1112] #[{ accessFlags := 18, nameIndex := 13, descriptorIndex := 14, attributes := #[] }, { accessFlags := 18, nameIndex := 17, descriptorIndex := 18, attributes := #[] }, { accessFlags := 2, nameIndex := 21, descriptorIndex := 22, attributes := #[] }, { accessFlags := 2, nameIndex := 25, descriptorIndex := 26, attributes := #[] }, { accessFlags := 26, nameIndex := 1116, descriptorIndex := 1117, attributes := #[] }, { accessFlags := 24, nameIndex := 40, descriptorIndex := 26, attributes := #[] }, { accessFlags := 26, nameIndex := 1101, descriptorIndex := 1102, attributes := #[] }, { accessFlags := 26, nameIndex := 1121, descriptorIndex := 1122, attributes := #[] }, { accessFlags := 25, nameIndex := 599, descriptorIndex := 600, attributes := #[] }, { accessFlags := 24, nameIndex := 1125, descriptorIndex := 18, attributes := #[] }, { accessFlags := 24, nameIndex := 1127, descriptorIndex := 18, attributes := #[] }])
  fields := #[{ name := "value", type := (.array .byte), accessFlags := 18, slot := 0, constantValue := 0 }, { name := "coder", type := .byte, accessFlags := 18, slot := 1, constantValue := 0 }, { name := "hash", type := .int, accessFlags := 2, slot := 2, constantValue := 0 }, { name := "hashIsZero", type := .boolean, accessFlags := 2, slot := 3, constantValue := 0 }, { name := "serialVersionUID", type := .long, accessFlags := 26, slot := 0, constantValue := 0 }, { name := "COMPACT_STRINGS", type := .boolean, accessFlags := 24, slot := 1, constantValue := 0 }, { name := "serialPersistentFields", type := (.array (.object "java/io/ObjectStreamField")), accessFlags := 26, slot := 2, constantValue := 0 }, { name := "REPL", type := .char, accessFlags := 26, slot := 3, constantValue := 0 }, { name := "CASE_INSENSITIVE_ORDER", type := (.object "java/util/Comparator"), accessFlags := 25, slot := 4, constantValue := 0 }, { name := "LATIN1", type := .byte, accessFlags := 24, slot := 5, constantValue := 0 }, { name := "UTF16", type := .byte, accessFlags := 24, slot := 6, constantValue := 0 }]
  methods := #[k7m0, k7m1, k7m2, k7m3, k7m4, k7m5, k7m6, k7m7]
  instanceTypes := #[(.array .byte), .byte, .int, .boolean]
  staticTypes := #[.long, .boolean, (.array (.object "java/io/ObjectStreamField")), .char, (.object "java/util/Comparator"), .byte, .byte]
  resolved := Array.replicate 1451 none
  statics := some 0 }

def pool8 : Array CpInfo := pool [(6, .class_ 8), (1, u "java/lang/Object"), (0, u "<init>"), (0, u "()V"), (1, .class_ 14), (1, u "java/lang/StringUTF16"), (31, u "$assertionsDisabled"), (0, u "Z"), (13, u "HI_BYTE_SHIFT"), (0, u "I"), (2, u "LO_BYTE_SHIFT"), (49, .methodref 12 116), (0, .nameAndType 117 118), (0, u "compress"), (0, u "([CI[BII)I"), (3, u "([CII)[B"), (138, u "coderFromArrayLen"), (0, u "([BI)B"), (106, .class_ 371), (1, u "java/lang/StringUTF16$LinesSpliterator"), (58, u "MAX_LENGTH"), (196, .class_ 628), (0, u "java/lang/StringUTF16$CodePointsSpliterator"), (0, .class_ 630), (0, u "java/lang/StringUTF16$CharsSpliterator")] 4

def k8m0 : Method := { name := "<init>", desc := "()V", sig := { parameters := [], returnType := none }, accessFlags := 0, code := none }
def k8c1 : Code := { maxStack := 2, maxLocals := 2, code := jdk_52_method_15_code, exceptionTable := #[], attributes := #[] }
def k8m1 : Method := { name := "coderFromArrayLen", desc := "([BI)B", sig := { parameters := [(.array .byte), .int], returnType := some .byte }, accessFlags := 8, code := some k8c1 }
def k8c2 : Code := { maxStack := 5, maxLocals := 6, code := jdk_52_method_16_code, exceptionTable := #[], attributes := #[] }
def k8m2 : Method := { name := "compress", desc := "([CII)[B", sig := { parameters := [(.array .char), .int, .int], returnType := some (.array .byte) }, accessFlags := 9, code := some k8c2 }
def k8c3 : Code := { maxStack := 3, maxLocals := 7, code := jdk_52_method_21_code, exceptionTable := #[], attributes := #[] }
def k8m3 : Method := { name := "compress", desc := "([CI[BII)I", sig := { parameters := [(.array .char), .int, (.array .byte), .int, .int], returnType := some .int }, accessFlags := 9, code := some k8c3 }
/-- java/lang/StringUTF16 -/
def k8 : Class := { plain "java/lang/StringUTF16" (some 0) with
  accessFlags := 48
  interfaces := #[]
  cf := some (fileOf pool8 12 #[.nestMembers #[627, 629, 369]] #[{ accessFlags := 0, nameIndex := 9, descriptorIndex := 10, attributes := #[] }, { accessFlags := 8, nameIndex := 261, descriptorIndex := 262, attributes := #[] }, { accessFlags := 9, nameIndex := 117, descriptorIndex := 122, attributes := #[] }, { accessFlags := 9, nameIndex := 117, descriptorIndex := 118, attributes := #[] }] 48 6 #[] #[{ accessFlags := 26, nameIndex := 61, descriptorIndex := 62, attributes := #[] }, { accessFlags := 26, nameIndex := 65, descriptorIndex := 62, attributes := #[] }, { accessFlags := 24, nameIndex := 430, descriptorIndex := 62, attributes := #[] }, { accessFlags := 4120, nameIndex := 46, descriptorIndex := 47, attributes := #[] }])
  fields := #[{ name := "HI_BYTE_SHIFT", type := .int, accessFlags := 26, slot := 0, constantValue := 0 }, { name := "LO_BYTE_SHIFT", type := .int, accessFlags := 26, slot := 1, constantValue := 0 }, { name := "MAX_LENGTH", type := .int, accessFlags := 24, slot := 2, constantValue := 0 }, { name := "$assertionsDisabled", type := .boolean, accessFlags := 4120, slot := 3, constantValue := 0 }]
  methods := #[k8m0, k8m1, k8m2, k8m3]
  instanceTypes := #[]
  staticTypes := #[.int, .int, .int, .boolean]
  resolved := Array.replicate 635 none
  statics := none }

def pool9 : Array CpInfo := pool [(1, .methodref 2 3), (0, .class_ 4), (0, .nameAndType 5 6), (0, u "java/lang/Object"), (0, u "<init>"), (0, u "()V"), (0, .fieldref 8 9), (0, .class_ 10), (0, .nameAndType 11 12), (0, u "com/example/vrabec/vrabec/index/PostTerms"), (0, u "terms"), (0, u "[Ljava/lang/String;"), (0, .fieldref 8 14), (0, .nameAndType 15 16), (0, u "numbers"), (0, u "[I"), (0, .fieldref 8 18), (0, .nameAndType 19 16), (0, u "frequencies"), (0, .fieldref 8 21), (0, .nameAndType 22 23), (0, u "from"), (0, u "I"), (0, .fieldref 8 25), (0, .nameAndType 26 23), (0, u "to"), (0, .methodref 8 28), (0, .nameAndType 29 30), (0, u "size"), (0, u "()I"), (0, .methodref 32 33), (0, .class_ 34), (0, .nameAndType 35 36), (0, u "java/util/Objects"), (0, u "checkIndex"), (0, u "(II)I"), (6, u "term"), (0, u "(I)Ljava/lang/String;"), (9, u "([Ljava/lang/String;[I[III)V")] 5

def k9c0 : Code := { maxStack := 2, maxLocals := 6, code := prog_5_method_1_code, exceptionTable := #[], attributes := #[] }
def k9m0 : Method := { name := "<init>", desc := "([Ljava/lang/String;[I[III)V", sig := { parameters := [(.array (.object "java/lang/String")), (.array .int), (.array .int), .int, .int], returnType := none }, accessFlags := 0, code := some k9c0 }
def k9c1 : Code := { maxStack := 2, maxLocals := 1, code := prog_5_method_2_code, exceptionTable := #[], attributes := #[] }
def k9m1 : Method := { name := "size", desc := "()I", sig := { parameters := [], returnType := some .int }, accessFlags := 1, code := some k9c1 }
def k9c2 : Code := { maxStack := 5, maxLocals := 2, code := prog_5_method_3_code, exceptionTable := #[], attributes := #[] }
def k9m2 : Method := { name := "term", desc := "(I)Ljava/lang/String;", sig := { parameters := [.int], returnType := some (.object "java/lang/String") }, accessFlags := 1, code := some k9c2 }
/-- com/example/vrabec/vrabec/index/PostTerms -/
def k9 : Class := { plain "com/example/vrabec/vrabec/index/PostTerms" (some 0) with
  accessFlags := 33
  interfaces := #[]
  cf := some (fileOf pool9 8 #[] #[{ accessFlags := 0, nameIndex := 5, descriptorIndex := 54, attributes := #[] }, { accessFlags := 1, nameIndex := 29, descriptorIndex := 30, attributes := #[] }, { accessFlags := 1, nameIndex := 43, descriptorIndex := 44, attributes := #[] }] 33 2 #[] #[{ accessFlags := 18, nameIndex := 11, descriptorIndex := 12, attributes := #[] }, { accessFlags := 18, nameIndex := 15, descriptorIndex := 16, attributes := #[] }, { accessFlags := 18, nameIndex := 19, descriptorIndex := 16, attributes := #[] }, { accessFlags := 18, nameIndex := 22, descriptorIndex := 23, attributes := #[] }, { accessFlags := 18, nameIndex := 26, descriptorIndex := 23, attributes := #[] }])
  fields := #[{ name := "terms", type := (.array (.object "java/lang/String")), accessFlags := 18, slot := 0, constantValue := 0 }, { name := "numbers", type := (.array .int), accessFlags := 18, slot := 1, constantValue := 0 }, { name := "frequencies", type := (.array .int), accessFlags := 18, slot := 2, constantValue := 0 }, { name := "from", type := .int, accessFlags := 18, slot := 3, constantValue := 0 }, { name := "to", type := .int, accessFlags := 18, slot := 4, constantValue := 0 }]
  methods := #[k9m0, k9m1, k9m2]
  instanceTypes := #[(.array (.object "java/lang/String")), (.array .int), (.array .int), .int, .int]
  staticTypes := #[]
  resolved := Array.replicate 60 none
  statics := none }

def pool10 : Array CpInfo := pool [(2, .class_ 4), (1, u "java/lang/Object"), (0, u "<init>"), (0, u "()V"), (35, .class_ 44), (1, u "java/util/Objects"), (60, .methodref 106 107), (0, .class_ 108), (0, .nameAndType 109 110), (0, u "jdk/internal/util/Preconditions"), (0, u "checkIndex"), (0, u "(IILjava/util/function/BiFunction;)I"), (60, u "(II)I")] 12

def k10m0 : Method := { name := "<init>", desc := "()V", sig := { parameters := [], returnType := none }, accessFlags := 2, code := none }
def k10c1 : Code := { maxStack := 3, maxLocals := 2, code := jdk_31_method_17_code, exceptionTable := #[], attributes := #[] }
def k10m1 : Method := { name := "checkIndex", desc := "(II)I", sig := { parameters := [.int, .int], returnType := some .int }, accessFlags := 9, code := some k10c1 }
/-- java/util/Objects -/
def k10 : Class := { plain "java/util/Objects" (some 0) with
  accessFlags := 49
  interfaces := #[]
  cf := some (fileOf pool10 42 #[] #[{ accessFlags := 2, nameIndex := 5, descriptorIndex := 6, attributes := #[] }, { accessFlags := 9, nameIndex := 109, descriptorIndex := 171, attributes := #[] }] 49 2 #[] #[])
  fields := #[]
  methods := #[k10m0, k10m1]
  instanceTypes := #[]
  staticTypes := #[]
  resolved := Array.replicate 184 none
  statics := none }

def pool11 : Array CpInfo := pool [(2, .class_ 4), (1, u "java/lang/Object"), (0, u "<init>"), (0, u "()V"), (17, .class_ 26), (1, u "jdk/internal/util/Preconditions"), (6, u "checkIndex"), (21, .class_ 56), (0, u "jdk/internal/util/Preconditions$4"), (57, .class_ 115), (0, u "jdk/internal/util/Preconditions$1"), (7, u "SIOOBE_FORMATTER"), (0, u "Ljava/util/function/BiFunction;"), (0, .class_ 126), (0, u "jdk/internal/util/Preconditions$2"), (3, u "AIOOBE_FORMATTER"), (0, .class_ 132), (0, u "jdk/internal/util/Preconditions$3"), (3, u "IOOBE_FORMATTER"), (41, u "(IILjava/util/function/BiFunction;)I")] 15

def k11m0 : Method := { name := "<init>", desc := "()V", sig := { parameters := [], returnType := none }, accessFlags := 1, code := none }
def k11c1 : Code := { maxStack := 3, maxLocals := 3, code := jdk_41_method_11_code, exceptionTable := #[], attributes := #[] }
def k11m1 : Method := { name := "checkIndex", desc := "(IILjava/util/function/BiFunction;)I", sig := { parameters := [.int, .int, (.object "java/util/function/BiFunction")], returnType := some .int }, accessFlags := 9, code := some k11c1 }
/-- jdk/internal/util/Preconditions -/
def k11 : Class := { plain "jdk/internal/util/Preconditions" (some 0) with
  accessFlags := 33
  interfaces := #[]
  cf := some (fileOf pool11 24 #[.nestMembers #[55, 131, 125, 114]] #[{ accessFlags := 1, nameIndex := 5, descriptorIndex := 6, attributes := #[] }, { accessFlags := 9, nameIndex := 33, descriptorIndex := 178, attributes := #[] }] 33 2 #[] #[{ accessFlags := 25, nameIndex := 123, descriptorIndex := 124, attributes := #[] }, { accessFlags := 25, nameIndex := 130, descriptorIndex := 124, attributes := #[] }, { accessFlags := 25, nameIndex := 136, descriptorIndex := 124, attributes := #[] }])
  fields := #[{ name := "SIOOBE_FORMATTER", type := (.object "java/util/function/BiFunction"), accessFlags := 25, slot := 0, constantValue := 0 }, { name := "AIOOBE_FORMATTER", type := (.object "java/util/function/BiFunction"), accessFlags := 25, slot := 1, constantValue := 0 }, { name := "IOOBE_FORMATTER", type := (.object "java/util/function/BiFunction"), accessFlags := 25, slot := 2, constantValue := 0 }]
  methods := #[k11m0, k11m1]
  instanceTypes := #[]
  staticTypes := #[(.object "java/util/function/BiFunction"), (.object "java/util/function/BiFunction"), (.object "java/util/function/BiFunction")]
  resolved := Array.replicate 194 none
  statics := some 1 }

def pool12 : Array CpInfo := pool [(1, .class_ 2), (0, u "java/lang/String"), (1, .class_ 6), (1, u "java/lang/Object"), (0, u "<init>"), (0, u "()V"), (0, .methodref 1 10), (0, .nameAndType 11 12), (0, u "checkIndex"), (0, u "(II)V"), (1, .class_ 16), (1, u "java/lang/StringLatin1"), (36, u "([BI)C"), (67, u "$assertionsDisabled"), (0, u "Z"), (98, .class_ 223), (1, u "java/lang/StringLatin1$LinesSpliterator"), (28, u "charAt"), (137, .class_ 391), (0, u "java/lang/StringLatin1$CharsSpliterator")] 3

def k12m0 : Method := { name := "<init>", desc := "()V", sig := { parameters := [], returnType := none }, accessFlags := 0, code := none }
def k12c1 : Code := { maxStack := 2, maxLocals := 2, code := jdk_43_method_2_code, exceptionTable := #[], attributes := #[] }
def k12m1 : Method := { name := "charAt", desc := "([BI)C", sig := { parameters := [(.array .byte), .int], returnType := some .char }, accessFlags := 9, code := some k12c1 }
/-- java/lang/StringLatin1 -/
def k12 : Class := { plain "java/lang/StringLatin1" (some 0) with
  accessFlags := 48
  interfaces := #[]
  cf := some (fileOf pool12 14 #[.nestMembers #[390, 221]] #[{ accessFlags := 0, nameIndex := 7, descriptorIndex := 8, attributes := #[] }, { accessFlags := 9, nameIndex := 252, descriptorIndex := 53, attributes := #[] }] 48 4 #[] #[{ accessFlags := 4120, nameIndex := 121, descriptorIndex := 122, attributes := #[] }])
  fields := #[{ name := "$assertionsDisabled", type := .boolean, accessFlags := 4120, slot := 0, constantValue := 0 }]
  methods := #[k12m0, k12m1]
  instanceTypes := #[]
  staticTypes := #[.boolean]
  resolved := Array.replicate 395 none
  statics := none }

def pool13 : Array CpInfo := pool [(9, u "<init>"), (6, .class_ 18), (1, u "java/lang/Object"), (0, u "()V"), (1, .class_ 23), (1, u "jdk/internal/util/ArraysSupport"), (0, u "LOG2_ARRAY_LONG_INDEX_SCALE"), (0, u "I"), (2, u "U"), (0, u "Ljdk/internal/misc/Unsafe;"), (8, u "BIG_ENDIAN"), (0, u "Z"), (8, u "LOG2_BYTE_BIT_SIZE"), (4, u "LOG2_ARRAY_INT_INDEX_SCALE"), (54, u "JLA"), (0, u "Ljdk/internal/access/JavaLangAccess;"), (11, u "LOG2_ARRAY_BOOLEAN_INDEX_SCALE"), (9, u "LOG2_ARRAY_BYTE_INDEX_SCALE"), (5, u "LOG2_ARRAY_CHAR_INDEX_SCALE"), (5, u "LOG2_ARRAY_SHORT_INDEX_SCALE"), (18, u "LOG2_ARRAY_FLOAT_INDEX_SCALE"), (24, u "LOG2_ARRAY_DOUBLE_INDEX_SCALE"), (89, u "T_BOOLEAN"), (2, u "T_CHAR"), (1, u "T_FLOAT"), (1, u "T_DOUBLE"), (1, u "T_BYTE"), (1, u "T_SHORT"), (1, u "T_INT"), (1, u "T_LONG"), (1, u "SOFT_MAX_ARRAY_LENGTH")] 83

def k13m0 : Method := { name := "<init>", desc := "()V", sig := { parameters := [], returnType := none }, accessFlags := 2, code := none }
/-- jdk/internal/util/ArraysSupport -/
def k13 : Class := { plain "jdk/internal/util/ArraysSupport" (some 0) with
  accessFlags := 33
  interfaces := #[]
  cf := some (fileOf pool13 21 #[] #[{ accessFlags := 2, nameIndex := 9, descriptorIndex := 19, attributes := #[] }] 33 16 #[] #[{ accessFlags := 24, nameIndex := 28, descriptorIndex := 29, attributes := #[] }, { accessFlags := 26, nameIndex := 38, descriptorIndex := 39, attributes := #[] }, { accessFlags := 25, nameIndex := 121, descriptorIndex := 25, attributes := #[] }, { accessFlags := 25, nameIndex := 131, descriptorIndex := 25, attributes := #[] }, { accessFlags := 25, nameIndex := 137, descriptorIndex := 25, attributes := #[] }, { accessFlags := 25, nameIndex := 143, descriptorIndex := 25, attributes := #[] }, { accessFlags := 25, nameIndex := 53, descriptorIndex := 25, attributes := #[] }, { accessFlags := 25, nameIndex := 24, descriptorIndex := 25, attributes := #[] }, { accessFlags := 25, nameIndex := 162, descriptorIndex := 25, attributes := #[] }, { accessFlags := 25, nameIndex := 187, descriptorIndex := 25, attributes := #[] }, { accessFlags := 26, nameIndex := 48, descriptorIndex := 25, attributes := #[] }, { accessFlags := 25, nameIndex := 277, descriptorIndex := 25, attributes := #[] }, { accessFlags := 25, nameIndex := 280, descriptorIndex := 25, attributes := #[] }, { accessFlags := 25, nameIndex := 282, descriptorIndex := 25, attributes := #[] }, { accessFlags := 25, nameIndex := 284, descriptorIndex := 25, attributes := #[] }, { accessFlags := 25, nameIndex := 286, descriptorIndex := 25, attributes := #[] }, { accessFlags := 25, nameIndex := 288, descriptorIndex := 25, attributes := #[] }, { accessFlags := 25, nameIndex := 290, descriptorIndex := 25, attributes := #[] }, { accessFlags := 25, nameIndex := 292, descriptorIndex := 25, attributes := #[] }, { accessFlags := 26, nameIndex := 108, descriptorIndex := 109, attributes := #[] }, { accessFlags := 25, nameIndex := 294, descriptorIndex := 25, attributes := #[] }])
  fields := #[{ name := "U", type := (.object "jdk/internal/misc/Unsafe"), accessFlags := 24, slot := 0, constantValue := 0 }, { name := "BIG_ENDIAN", type := .boolean, accessFlags := 26, slot := 1, constantValue := 0 }, { name := "LOG2_ARRAY_BOOLEAN_INDEX_SCALE", type := .int, accessFlags := 25, slot := 2, constantValue := 0 }, { name := "LOG2_ARRAY_BYTE_INDEX_SCALE", type := .int, accessFlags := 25, slot := 3, constantValue := 0 }, { name := "LOG2_ARRAY_CHAR_INDEX_SCALE", type := .int, accessFlags := 25, slot := 4, constantValue := 0 }, { name := "LOG2_ARRAY_SHORT_INDEX_SCALE", type := .int, accessFlags := 25, slot := 5, constantValue := 0 }, { name := "LOG2_ARRAY_INT_INDEX_SCALE", type := .int, accessFlags := 25, slot := 6, constantValue := 0 }, { name := "LOG2_ARRAY_LONG_INDEX_SCALE", type := .int, accessFlags := 25, slot := 7, constantValue := 0 }, { name := "LOG2_ARRAY_FLOAT_INDEX_SCALE", type := .int, accessFlags := 25, slot := 8, constantValue := 0 }, { name := "LOG2_ARRAY_DOUBLE_INDEX_SCALE", type := .int, accessFlags := 25, slot := 9, constantValue := 0 }, { name := "LOG2_BYTE_BIT_SIZE", type := .int, accessFlags := 26, slot := 10, constantValue := 0 }, { name := "T_BOOLEAN", type := .int, accessFlags := 25, slot := 11, constantValue := 0 }, { name := "T_CHAR", type := .int, accessFlags := 25, slot := 12, constantValue := 0 }, { name := "T_FLOAT", type := .int, accessFlags := 25, slot := 13, constantValue := 0 }, { name := "T_DOUBLE", type := .int, accessFlags := 25, slot := 14, constantValue := 0 }, { name := "T_BYTE", type := .int, accessFlags := 25, slot := 15, constantValue := 0 }, { name := "T_SHORT", type := .int, accessFlags := 25, slot := 16, constantValue := 0 }, { name := "T_INT", type := .int, accessFlags := 25, slot := 17, constantValue := 0 }, { name := "T_LONG", type := .int, accessFlags := 25, slot := 18, constantValue := 0 }, { name := "JLA", type := (.object "jdk/internal/access/JavaLangAccess"), accessFlags := 26, slot := 19, constantValue := 0 }, { name := "SOFT_MAX_ARRAY_LENGTH", type := .int, accessFlags := 25, slot := 20, constantValue := 0 }]
  methods := #[k13m0]
  instanceTypes := #[]
  staticTypes := #[(.object "jdk/internal/misc/Unsafe"), .boolean, .int, .int, .int, .int, .int, .int, .int, .int, .int, .int, .int, .int, .int, .int, .int, .int, .int, (.object "jdk/internal/access/JavaLangAccess"), .int]
  resolved := Array.replicate 378 none
  statics := none }

def pool14 : Array CpInfo := pool [(1, u "java/lang/Cloneable"), (0, .class_ 1), (0, u "java/lang/Object"), (0, .class_ 3)] 3

/-- java/lang/Cloneable -/
def k14 : Class := { plain "java/lang/Cloneable" (some 0) with
  accessFlags := 1537
  interfaces := #[]
  cf := some (fileOf pool14 2 #[] #[] 1537 4 #[] #[])
  fields := #[]
  methods := #[]
  instanceTypes := #[]
  staticTypes := #[]
  resolved := Array.replicate 8 none
  statics := none }

/-- the primitive byte -/
def k15 : Class := { plain "byte" none with kind := .primitive 'B', accessFlags := 0x411 }
/-- [B -/
def k16 : Class := { plain "[B" (some 0) with kind := .array 15 .byte, interfaces := #[14, 2], accessFlags := 1041 }

/-- the primitive char -/
def k17 : Class := { plain "char" none with kind := .primitive 'C', accessFlags := 0x411 }
/-- [C -/
def k18 : Class := { plain "[C" (some 0) with kind := .array 17 .char, interfaces := #[14, 2], accessFlags := 1041 }

/-- the primitive int -/
def k19 : Class := { plain "int" none with kind := .primitive 'I', accessFlags := 0x411 }
/-- [I -/
def k20 : Class := { plain "[I" (some 0) with kind := .array 19 .int, interfaces := #[14, 2], accessFlags := 1041 }

/-- [Ljava/lang/String; -/
def k21 : Class := { plain "[Ljava/lang/String;" (some 0) with kind := .array 7 (.object "java/lang/String"), interfaces := #[14, 2], accessFlags := 1041 }

def heap : Heap := #[{ cls := 7, slots := #[.long 0, .int 1, .null, .int 0, .null, .int 0, .int 0], vm := .statics 7 },
  { cls := 11, slots := #[.null, .null, .null], vm := .statics 11 }]
def classes : Array Class := #[k0, k1, k2, k3, k4, k5, k6, k7, k8, k9, k10, k11, k12, k13, k14, k15, k16, k17, k18, k19, k20, k21]
def interned : List (Array UInt16 × Addr) := []
def slotsUsed : Nat := 10
def theMethod : MethodId := ⟨1, 1⟩
def args0 : Array Value := #[.long 5, .int 6, .int 7, .int 8]
def aboutOver (below : List Frame) : State where
  vm := { classes := classes, interned := interned.toArray }
  heap := heap
  slotsUsed := slotsUsed
  threads := #[{ frames := .invoking theMethod args0 :: below }]
def below0 : List Frame := [.native { method := ⟨0, 0⟩, args := #[] }]
def about1 : State := aboutOver below0
def p0 : Program := .bare "" "" ""
def e0 : Env := launch0.env 0 0 0
theorem w_frames : about1.frames = Frame.invoking theMethod args0 :: below0 := rfl
set_option maxRecDepth 65536 in
theorem w_args : argsFit about1.vm theMethod args0 = true := by decide +kernel
set_option maxRecDepth 65536 in
theorem w_heap : heapFits about1 = true := by decide +kernel
set_option maxRecDepth 65536 in
theorem w_runnable : about1.curStatus? = some .runnable := by decide +kernel
set_option maxRecDepth 65536 in
theorem w_alone : about1.alone = true := by decide +kernel
set_option maxRecDepth 65536 in
theorem w_named : about1.methodNamed? x = some theMethod := by decide +kernel
set_option maxRecDepth 65536 in
theorem w_hears : about1.hears theMethod below0 = true := by decide +kernel
set_option maxRecDepth 65536 in
theorem w_ripe : about1.ripe theMethod args0 below0 = true := by decide +kernel
theorem w_running : about1.status = .running := rfl
set_option maxRecDepth 65536 in
theorem w_room : about1.hasRoom e0.platform room_1 = true :=
  launch0.hasRoom_least _ room_1 (by decide +kernel) (by decide +kernel) (by decide +kernel) (by decide +kernel) (by decide +kernel) (by decide +kernel)
theorem allAtoms_all (ts : List Jvm.Cond) (a : Array Jvm.Value) (st : Jvm.State) : (allAtoms ts).before a st = ts.all (fun c => c.before a st) := by
  induction ts with
  | nil => rfl
  | cons c t ih =>
    show (Jvm.Cond.and c (allAtoms t)).before a st = _
    rw [Jvm.Cond.before_and, ih, List.all_cons]
def words1 : List Jvm.Cond := Jvm.Cond.code x code maxLocals ret :: tables_1
/-- a 'code' word, met by the world's own term for the bytes: nothing is compared byte by byte -/
theorem code_word {y : MethodName} {bytes : ByteArray} {mx : Nat} {rt : Option FieldType} {a : Array Value} {s : State} {m : MethodId} {meth : Method} {c : Code} (h1 : s.methodNamed? y = some m) (h2 : s.vm.method? m = some meth) (h3 : meth.code = some c) (h4 : c.code = bytes)
    (h5 : (c.maxLocals == mx && c.exceptionTable.isEmpty && decide (c.maxStack ≤ mostOperands) && decide (meth.sig.returnType = rt) && !meth.locks && decide (parseMethodDescriptor y.desc = some meth.sig)) = true) : (Jvm.Cond.code y bytes mx rt).before a s = true := by
  simp only [Bool.and_eq_true, beq_iff_eq, Bool.not_eq_true', decide_eq_true_eq] at h5
  obtain ⟨⟨⟨⟨⟨g1, g2⟩, g3⟩, g4⟩, g5⟩, g6⟩ := h5
  simp [Cond.before, Cond.holds, Cond.value, h1, h2, h3, h4, g1, g2, g3, g4, g5, g6]
def isCode : Jvm.Cond → Bool
  | .code _ _ _ _ => true
  | _ => false
theorem all_split {L : List Jvm.Cond} {P : Jvm.Cond → Bool} (h1 : L.all (fun c => isCode c || P c) = true) (h2 : ∀ c ∈ L.filter isCode, P c = true) : L.all P = true := by
  refine List.all_eq_true.mpr fun c hc => ?_
  have h := List.all_eq_true.mp h1 c hc
  rcases Bool.eq_false_or_eq_true (isCode c) with hi | hi
  · exact h2 c (List.mem_filter.mpr ⟨hc, hi⟩)
  · simpa [hi] using h
set_option maxRecDepth 65536 in
theorem w_c0 : (Jvm.Cond.code x code maxLocals ret).before args0 about1 = true := code_word (m := ⟨1, 1⟩) (meth := k1m1) (c := k1c1) (by decide +kernel) rfl rfl rfl (by decide +kernel)
set_option maxRecDepth 65536 in
theorem w_c1 : (Jvm.Cond.code ({ cls := "java/lang/String", name := "<init>", desc := "([C)V" } : Jvm.MethodName) jdk_42_method_3_code (2 : Nat) (Option.none : Option Jvm.ClassFile.FieldType)).before args0 about1 = true := code_word (m := ⟨7, 1⟩) (meth := k7m1) (c := k7c1) (by decide +kernel) rfl rfl rfl (by decide +kernel)
set_option maxRecDepth 65536 in
theorem w_c2 : (Jvm.Cond.code ({ cls := "java/lang/String", name := "<init>", desc := "([CIILjava/lang/Void;)V" } : Jvm.MethodName) jdk_42_method_149_code (6 : Nat) (Option.none : Option Jvm.ClassFile.FieldType)).before args0 about1 = true := code_word (m := ⟨7, 4⟩) (meth := k7m4) (c := k7c4) (by decide +kernel) rfl rfl rfl (by decide +kernel)
set_option maxRecDepth 65536 in
theorem w_c3 : (Jvm.Cond.code ({ cls := "java/lang/Object", name := "<init>", desc := "()V" } : Jvm.MethodName) object_method_1_code (1 : Nat) (Option.none : Option Jvm.ClassFile.FieldType)).before args0 about1 = true := code_word (m := ⟨0, 0⟩) (meth := k0m0) (c := k0c0) (by decide +kernel) rfl rfl rfl (by decide +kernel)
set_option maxRecDepth 65536 in
theorem w_c4 : (Jvm.Cond.code ({ cls := "java/lang/StringUTF16", name := "compress", desc := "([CII)[B" } : Jvm.MethodName) jdk_52_method_16_code (6 : Nat) (Option.some (Jvm.ClassFile.FieldType.array Jvm.ClassFile.FieldType.byte))).before args0 about1 = true := code_word (m := ⟨8, 2⟩) (meth := k8m2) (c := k8c2) (by decide +kernel) rfl rfl rfl (by decide +kernel)
set_option maxRecDepth 65536 in
theorem w_c5 : (Jvm.Cond.code ({ cls := "java/lang/StringUTF16", name := "compress", desc := "([CI[BII)I" } : Jvm.MethodName) jdk_52_method_21_code (7 : Nat) (Option.some Jvm.ClassFile.FieldType.int)).before args0 about1 = true := code_word (m := ⟨8, 3⟩) (meth := k8m3) (c := k8c3) (by decide +kernel) rfl rfl rfl (by decide +kernel)
set_option maxRecDepth 65536 in
theorem w_c6 : (Jvm.Cond.code ({ cls := "java/lang/StringUTF16", name := "coderFromArrayLen", desc := "([BI)B" } : Jvm.MethodName) jdk_52_method_15_code (2 : Nat) (Option.some Jvm.ClassFile.FieldType.byte)).before args0 about1 = true := code_word (m := ⟨8, 1⟩) (meth := k8m1) (c := k8c1) (by decide +kernel) rfl rfl rfl (by decide +kernel)
set_option maxRecDepth 65536 in
theorem w_c7 : (Jvm.Cond.code ({ cls := "com/example/vrabec/vrabec/index/PostTerms", name := "<init>", desc := "([Ljava/lang/String;[I[III)V" } : Jvm.MethodName) prog_5_method_1_code (6 : Nat) (Option.none : Option Jvm.ClassFile.FieldType)).before args0 about1 = true := code_word (m := ⟨9, 0⟩) (meth := k9m0) (c := k9c0) (by decide +kernel) rfl rfl rfl (by decide +kernel)
set_option maxRecDepth 65536 in
theorem w_c8 : (Jvm.Cond.code ({ cls := "com/example/vrabec/vrabec/index/PostTerms", name := "term", desc := "(I)Ljava/lang/String;" } : Jvm.MethodName) prog_5_method_3_code (2 : Nat) (Option.some (Jvm.ClassFile.FieldType.object "java/lang/String"))).before args0 about1 = true := code_word (m := ⟨9, 2⟩) (meth := k9m2) (c := k9c2) (by decide +kernel) rfl rfl rfl (by decide +kernel)
set_option maxRecDepth 65536 in
theorem w_c9 : (Jvm.Cond.code ({ cls := "com/example/vrabec/vrabec/index/PostTerms", name := "size", desc := "()I" } : Jvm.MethodName) prog_5_method_2_code (1 : Nat) (Option.some Jvm.ClassFile.FieldType.int)).before args0 about1 = true := code_word (m := ⟨9, 1⟩) (meth := k9m1) (c := k9c1) (by decide +kernel) rfl rfl rfl (by decide +kernel)
set_option maxRecDepth 65536 in
theorem w_c10 : (Jvm.Cond.code ({ cls := "java/util/Objects", name := "checkIndex", desc := "(II)I" } : Jvm.MethodName) jdk_31_method_17_code (2 : Nat) (Option.some Jvm.ClassFile.FieldType.int)).before args0 about1 = true := code_word (m := ⟨10, 1⟩) (meth := k10m1) (c := k10c1) (by decide +kernel) rfl rfl rfl (by decide +kernel)
set_option maxRecDepth 65536 in
theorem w_c11 : (Jvm.Cond.code ({ cls := "jdk/internal/util/Preconditions", name := "checkIndex", desc := "(IILjava/util/function/BiFunction;)I" } : Jvm.MethodName) jdk_41_method_11_code (3 : Nat) (Option.some Jvm.ClassFile.FieldType.int)).before args0 about1 = true := code_word (m := ⟨11, 1⟩) (meth := k11m1) (c := k11c1) (by decide +kernel) rfl rfl rfl (by decide +kernel)
set_option maxRecDepth 65536 in
theorem w_c12 : (Jvm.Cond.code ({ cls := "java/lang/String", name := "length", desc := "()I" } : Jvm.MethodName) jdk_42_method_54_code (1 : Nat) (Option.some Jvm.ClassFile.FieldType.int)).before args0 about1 = true := code_word (m := ⟨7, 2⟩) (meth := k7m2) (c := k7c2) (by decide +kernel) rfl rfl rfl (by decide +kernel)
set_option maxRecDepth 65536 in
theorem w_c13 : (Jvm.Cond.code ({ cls := "java/lang/String", name := "coder", desc := "()B" } : Jvm.MethodName) jdk_42_method_152_code (1 : Nat) (Option.some Jvm.ClassFile.FieldType.byte)).before args0 about1 = true := code_word (m := ⟨7, 5⟩) (meth := k7m5) (c := k7c5) (by decide +kernel) rfl rfl rfl (by decide +kernel)
set_option maxRecDepth 65536 in
theorem w_c14 : (Jvm.Cond.code ({ cls := "java/lang/String", name := "charAt", desc := "(I)C" } : Jvm.MethodName) jdk_42_method_56_code (2 : Nat) (Option.some Jvm.ClassFile.FieldType.char)).before args0 about1 = true := code_word (m := ⟨7, 3⟩) (meth := k7m3) (c := k7c3) (by decide +kernel) rfl rfl rfl (by decide +kernel)
set_option maxRecDepth 65536 in
theorem w_c15 : (Jvm.Cond.code ({ cls := "java/lang/String", name := "isLatin1", desc := "()Z" } : Jvm.MethodName) jdk_42_method_154_code (1 : Nat) (Option.some Jvm.ClassFile.FieldType.boolean)).before args0 about1 = true := code_word (m := ⟨7, 6⟩) (meth := k7m6) (c := k7c6) (by decide +kernel) rfl rfl rfl (by decide +kernel)
set_option maxRecDepth 65536 in
theorem w_c16 : (Jvm.Cond.code ({ cls := "java/lang/StringLatin1", name := "charAt", desc := "([BI)C" } : Jvm.MethodName) jdk_43_method_2_code (2 : Nat) (Option.some Jvm.ClassFile.FieldType.char)).before args0 about1 = true := code_word (m := ⟨12, 1⟩) (meth := k12m1) (c := k12c1) (by decide +kernel) rfl rfl rfl (by decide +kernel)
set_option maxRecDepth 65536 in
theorem w_c17 : (Jvm.Cond.code ({ cls := "java/lang/String", name := "checkIndex", desc := "(II)V" } : Jvm.MethodName) jdk_42_method_155_code (2 : Nat) (Option.none : Option Jvm.ClassFile.FieldType)).before args0 about1 = true := code_word (m := ⟨7, 7⟩) (meth := k7m7) (c := k7c7) (by decide +kernel) rfl rfl rfl (by decide +kernel)
def codes1 : List Jvm.Cond := [Jvm.Cond.code x code maxLocals ret, Jvm.Cond.code ({ cls := "java/lang/String", name := "<init>", desc := "([C)V" } : Jvm.MethodName) jdk_42_method_3_code (2 : Nat) (Option.none : Option Jvm.ClassFile.FieldType), Jvm.Cond.code ({ cls := "java/lang/String", name := "<init>", desc := "([CIILjava/lang/Void;)V" } : Jvm.MethodName) jdk_42_method_149_code (6 : Nat) (Option.none : Option Jvm.ClassFile.FieldType), Jvm.Cond.code ({ cls := "java/lang/Object", name := "<init>", desc := "()V" } : Jvm.MethodName) object_method_1_code (1 : Nat) (Option.none : Option Jvm.ClassFile.FieldType), Jvm.Cond.code ({ cls := "java/lang/StringUTF16", name := "compress", desc := "([CII)[B" } : Jvm.MethodName) jdk_52_method_16_code (6 : Nat) (Option.some (Jvm.ClassFile.FieldType.array Jvm.ClassFile.FieldType.byte)), Jvm.Cond.code ({ cls := "java/lang/StringUTF16", name := "compress", desc := "([CI[BII)I" } : Jvm.MethodName) jdk_52_method_21_code (7 : Nat) (Option.some Jvm.ClassFile.FieldType.int), Jvm.Cond.code ({ cls := "java/lang/StringUTF16", name := "coderFromArrayLen", desc := "([BI)B" } : Jvm.MethodName) jdk_52_method_15_code (2 : Nat) (Option.some Jvm.ClassFile.FieldType.byte), Jvm.Cond.code ({ cls := "com/example/vrabec/vrabec/index/PostTerms", name := "<init>", desc := "([Ljava/lang/String;[I[III)V" } : Jvm.MethodName) prog_5_method_1_code (6 : Nat) (Option.none : Option Jvm.ClassFile.FieldType), Jvm.Cond.code ({ cls := "com/example/vrabec/vrabec/index/PostTerms", name := "term", desc := "(I)Ljava/lang/String;" } : Jvm.MethodName) prog_5_method_3_code (2 : Nat) (Option.some (Jvm.ClassFile.FieldType.object "java/lang/String")), Jvm.Cond.code ({ cls := "com/example/vrabec/vrabec/index/PostTerms", name := "size", desc := "()I" } : Jvm.MethodName) prog_5_method_2_code (1 : Nat) (Option.some Jvm.ClassFile.FieldType.int), Jvm.Cond.code ({ cls := "java/util/Objects", name := "checkIndex", desc := "(II)I" } : Jvm.MethodName) jdk_31_method_17_code (2 : Nat) (Option.some Jvm.ClassFile.FieldType.int), Jvm.Cond.code ({ cls := "jdk/internal/util/Preconditions", name := "checkIndex", desc := "(IILjava/util/function/BiFunction;)I" } : Jvm.MethodName) jdk_41_method_11_code (3 : Nat) (Option.some Jvm.ClassFile.FieldType.int), Jvm.Cond.code ({ cls := "java/lang/String", name := "length", desc := "()I" } : Jvm.MethodName) jdk_42_method_54_code (1 : Nat) (Option.some Jvm.ClassFile.FieldType.int), Jvm.Cond.code ({ cls := "java/lang/String", name := "coder", desc := "()B" } : Jvm.MethodName) jdk_42_method_152_code (1 : Nat) (Option.some Jvm.ClassFile.FieldType.byte), Jvm.Cond.code ({ cls := "java/lang/String", name := "charAt", desc := "(I)C" } : Jvm.MethodName) jdk_42_method_56_code (2 : Nat) (Option.some Jvm.ClassFile.FieldType.char), Jvm.Cond.code ({ cls := "java/lang/String", name := "isLatin1", desc := "()Z" } : Jvm.MethodName) jdk_42_method_154_code (1 : Nat) (Option.some Jvm.ClassFile.FieldType.boolean), Jvm.Cond.code ({ cls := "java/lang/StringLatin1", name := "charAt", desc := "([BI)C" } : Jvm.MethodName) jdk_43_method_2_code (2 : Nat) (Option.some Jvm.ClassFile.FieldType.char), Jvm.Cond.code ({ cls := "java/lang/String", name := "checkIndex", desc := "(II)V" } : Jvm.MethodName) jdk_42_method_155_code (2 : Nat) (Option.none : Option Jvm.ClassFile.FieldType)]
set_option maxRecDepth 65536 in
theorem codes_eq : words1.filter isCode = codes1 := rfl
theorem w_codes : ∀ c ∈ words1.filter isCode, c.before args0 about1 = true := by
  rw [codes_eq]
  intro c hc
  simp only [codes1, List.mem_cons, List.not_mem_nil, or_false] at hc
  rcases hc with rfl | rfl | rfl | rfl | rfl | rfl | rfl | rfl | rfl | rfl | rfl | rfl | rfl | rfl | rfl | rfl | rfl | rfl
  · exact w_c0
  · exact w_c1
  · exact w_c2
  · exact w_c3
  · exact w_c4
  · exact w_c5
  · exact w_c6
  · exact w_c7
  · exact w_c8
  · exact w_c9
  · exact w_c10
  · exact w_c11
  · exact w_c12
  · exact w_c13
  · exact w_c14
  · exact w_c15
  · exact w_c16
  · exact w_c17
set_option maxRecDepth 65536 in
theorem w_t1 : (words1.take 24).all (fun c => isCode c || c.before args0 about1) = true := by decide +kernel
set_option maxRecDepth 65536 in
theorem w_t2 : ((words1.drop 24).take 24).all (fun c => isCode c || c.before args0 about1) = true := by decide +kernel
set_option maxRecDepth 65536 in
theorem w_t3 : (((words1.drop 24).drop 24).take 24).all (fun c => isCode c || c.before args0 about1) = true := by decide +kernel
set_option maxRecDepth 65536 in
theorem w_t4 : ((((words1.drop 24).drop 24).drop 24).take 24).all (fun c => isCode c || c.before args0 about1) = true := by decide +kernel
set_option maxRecDepth 65536 in
theorem w_t5 : ((((words1.drop 24).drop 24).drop 24).drop 24).all (fun c => isCode c || c.before args0 about1) = true := by decide +kernel
theorem w_tables : (allAtoms (Jvm.Cond.code x code maxLocals ret :: tables_1)).before args0 about1 = true := by
  rw [allAtoms_all]
  show words1.all (fun c => c.before args0 about1) = true
  refine all_split ?_ w_codes
  rw [← List.take_append_drop 24 words1, List.all_append, w_t1, ← List.take_append_drop 24 (words1.drop 24), List.all_append, w_t2, ← List.take_append_drop 24 ((words1.drop 24).drop 24), List.all_append, w_t3, ← List.take_append_drop 24 (((words1.drop 24).drop 24).drop 24), List.all_append, w_t4, w_t5]
  rfl
set_option maxRecDepth 65536 in
theorem w_rest : rest_1_c.before args0 about1 = true := by decide +kernel
set_option maxRecDepth 65536 in
theorem w_case : (Jvm.Cond.and given_1 narrow_1).before args0 about1 = true := by decide +kernel
theorem w_applies : (headSpec (Jvm.Cond.code x code maxLocals ret :: tables_1) room_1).applies x e0.platform about1 = true :=
  (Spec.applies_iff w_frames).mpr ⟨w_running, w_runnable, w_alone, w_named, w_hears, w_ripe, w_room, w_tables⟩
theorem atStart : AtStart classFile x code maxLocals ret World_1 tables_1 room_1 Calls_1 rest_1 Pre_1 launch0 p0 e0 about1 theMethod args0 below0 :=
  ⟨lists_1, trivial, launch0.admits_env _ _ _, launch0.least_env, fairChoices_fair.cas, fairChoices_fair.clock, w_frames, w_args, w_heap, w_applies, trivial, w_rest, w_case⟩
end start1
theorem witness_1 : WitnessClaimed_1 := ⟨start1.p0, start1.e0, start1.about1, start1.theMethod, start1.args0, start1.below0, start1.atStart⟩
end Jvm.Pilot.@@N@@
