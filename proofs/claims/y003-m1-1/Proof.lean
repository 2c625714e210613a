import JvmDerived
import JvmDerived.Pilot.@@N@@Statement
import JvmDerived.Pilot.@@N@@Code
set_option linter.unusedVariables false
set_option linter.unusedSimpArgs false
namespace Jvm.RoadKit
open Sem ClassFile Op Lib Jvm.Stand Jvm.Free Jvm.LawKit
section New
variable {p : Program} {l : Launch} {e : Env} {R : Room} {s : State} {m : MethodId} {args : Array Value} {below : List Frame} {meth : Method} {c : Code} {T : State} {locs : List Loc} {cells slots : Nat}
theorem retI (X : Stand p l e R s m args below meth c T locs cells slots) (hx : p.tables.exec = Jvm.exec) {pc : Nat} {Ls : Array Slot} {z : Int32} {rest : List Value} (hret : meth.sig.returnType = some .int) (hd : decode c.code pc = .ok (.ireturn, 1)) {fs : List Frame}
    (hl : ∀ (f : JFrame) (acts : List Action), f.method = m → f.locked = none → f.entered = [] → (doReturn e (T.setTop f) acts (some (.int z))).1 = T.setFrames fs) : Steps p.tables e below (T.setTop (mkF m pc Ls (.int z :: rest))) (T.setFrames fs) := by
  have hm' : T.vm.method? m = some meth := X.method'
  have hn : narrow .int (.int z) = .int z := rfl
  show Steps p.tables e below (T.setTop { method := m, pc := pc, locals := Ls, stack := _ :: rest, locked := none }) _
  jvm_step X.here [X.here.top, hx, hd, hm', hret, hn]
  first | (intro acts; rw [hl _ acts rfl rfl rfl]) | rw [hl _ _ rfl rfl rfl]
  exact Steps.refl _
end New
end Jvm.RoadKit
/- laws to paste: Road.backV (cut by pick.py; bodies as the Statement names them) -/
namespace Jvm.Pilot.@@N@@
namespace StrChars
open Jvm Sem ClassFile Op Lib Jvm.Stand Jvm.Free.XT Jvm.Free.ALB Jvm.Free.JM Jvm.Free
open Jvm.Lib.Cold (StaticIs)
/-- a char array whose places are chars -/
def Ch (a : Addr) (A : Cell) (U : State) : Prop := Arr .char a A U ∧ Typed .char A
theorem Ch.mv {a : Addr} {A : Cell} {U U' : State} (h : Ch a A U) (hal : U.vm.Alike U'.vm) (hh : U'.heap = U.heap) : Ch a A U' := ⟨h.1.mv hal hh, h.2⟩
theorem Ch.keep {a : Addr} {A : Cell} {U U' : State} (h : Ch a A U) (hal : U.vm.Alike U'.vm) (hk : U'.heap[a]? = some A) : Ch a A U' := ⟨h.1.keep hal hk, h.2⟩
/-- what place i of a char[]'s cell holds -/
def cv (A : Cell) (i : Nat) : Int32 := match A.slots[i]? with | some (.int x) => x | _ => 0
theorem Ch.get {a : Addr} {A : Cell} {U : State} (h : Ch a A U) {i : Nat} (hi : i < A.slots.size) : A.slots[i]? = some (.int (cv A i)) := by
  have e := Array.getElem?_eq_getElem hi
  have f := h.2 i _ e
  unfold cv; rw [e]
  generalize A.slots[i] = v at f
  cases v <;> simp [fits] at f ⊢
/-- the byte that i2b leaves of a char -/
def lo8 (x : Int32) : Int32 := x.toInt8.toInt32
theorem fits_lo8 (y : Int32) : fits .byte (.int (lo8 y)) = true := by
  have h1 := y.toInt8.le_toInt
  have h2 := y.toInt8.toInt_lt
  simp only [lo8, fits, Bool.and_eq_true, decide_eq_true_eq, Int32.le_iff_toInt_le, Int8.toInt_toInt32, show (-128 : Int32).toInt = -128 from by decide, show (127 : Int32).toInt = 127 from by decide]
  omega
/-- A' is A but that each place j of lo .. hi - 1 holds f j -/
def Laid (A A' : Cell) (lo hi : Nat) (f : Nat → Value) : Prop := A'.cls = A.cls ∧ A'.vm = A.vm ∧ A'.slots.size = A.slots.size ∧ ∀ i, A'.slots[i]? = if lo ≤ i ∧ i < hi then some (f i) else A.slots[i]?
theorem Laid.zero (A : Cell) (lo : Nat) (f : Nat → Value) : Laid A A lo (lo + 0) f := ⟨rfl, rfl, rfl, fun i => by rw [if_neg (by omega)]⟩
theorem Laid.step {A Ak : Cell} {lo k : Nat} {f : Nat → Value} {v : Value} (h : Laid A Ak lo k f) (hlo : lo ≤ k) (hk : k < Ak.slots.size) (hv : v = f k) : Laid A (Ak.setSlot k v) lo (k + 1) f := by
  refine ⟨h.1, h.2.1, by simpa [Cell.setSlot] using h.2.2.1, fun i => ?_⟩
  by_cases e : k = i
  · subst e; rw [Cell.slots_setSlot_self v hk, if_pos (by omega), hv]
  · rw [Cell.slots_setSlot_ne v e, h.2.2.2 i]
    by_cases q : lo ≤ i ∧ i < k
    · rw [if_pos q, if_pos (by omega)]
    · rw [if_neg q, if_neg (by omega)]
def U16 : String := "java/lang/StringUTF16"
namespace Cmp5
def yN : MethodName := ⟨"java/lang/StringUTF16", "compress", "([CI[BII)I"⟩
abbrev yB : ByteArray := jdk_52_method_21_code
theorem d0 : decode yB 0 = .ok (.iconst 0, 1) := by decide +kernel
theorem d1 : decode yB 1 = .ok (.istore 5, 2) := by decide +kernel
theorem d3 : decode yB 3 = .ok (.iload 5, 2) := by decide +kernel
theorem d5 : decode yB 5 = .ok (.iload 4, 2) := by decide +kernel
theorem d7 : decode yB 7 = .ok (.if_icmp (.ge) 37, 3) := by decide +kernel
theorem d10 : decode yB 10 = .ok (.aload_n 0, 1) := by decide +kernel
theorem d11 : decode yB 11 = .ok (.iload_n 1, 1) := by decide +kernel
theorem d12 : decode yB 12 = .ok (.caload, 1) := by decide +kernel
theorem d13 : decode yB 13 = .ok (.istore 6, 2) := by decide +kernel
theorem d15 : decode yB 15 = .ok (.iload 6, 2) := by decide +kernel
theorem d17 : decode yB 17 = .ok (.sipush 255, 3) := by decide +kernel
theorem d20 : decode yB 20 = .ok (.if_icmp (.le) 6, 3) := by decide +kernel
theorem d26 : decode yB 26 = .ok (.aload_n 2, 1) := by decide +kernel
theorem d27 : decode yB 27 = .ok (.iload_n 3, 1) := by decide +kernel
theorem d28 : decode yB 28 = .ok (.iload 6, 2) := by decide +kernel
theorem d30 : decode yB 30 = .ok (.i2b, 1) := by decide +kernel
theorem d31 : decode yB 31 = .ok (.bastore, 1) := by decide +kernel
theorem d32 : decode yB 32 = .ok (.iinc 1 1, 3) := by decide +kernel
theorem d35 : decode yB 35 = .ok (.iinc 3 1, 3) := by decide +kernel
theorem d38 : decode yB 38 = .ok (.iinc 5 1, 3) := by decide +kernel
theorem d41 : decode yB 41 = .ok (.goto (-38), 3) := by decide +kernel
theorem d44 : decode yB 44 = .ok (.iload 4, 2) := by decide +kernel
theorem d46 : decode yB 46 = .ok (.ireturn, 1) := by decide +kernel
def site : List Cond := []
def tab : Cond := tabOf yN yB 7 (some .int) site
def P (b : Addr) (A : Cell) (d : Addr) (B : Cell) (o q len : Nat) (args : Array Value) (s : State) : Prop := args = #[.ref b, .int (Int32.ofNat o), .ref d, .int (Int32.ofNat q), .int (Int32.ofNat len)] ∧ Ch b A s ∧ Arr .byte d B s ∧ b ≠ d ∧ o + len ≤ A.slots.size ∧ q + len ≤ B.slots.size ∧ ∀ i, i < len → ¬ 255 < cv A (o + i)
def E (b : Addr) (A : Cell) (d : Addr) (B : Cell) (o q len : Nat) (r : Option Value) (s u : State) : Prop := r = some (.int (Int32.ofNat len)) ∧ ∃ B', Put d B' s u ∧ Laid B B' q (q + len) (fun j => Value.int (lo8 (cv A (o + (j - q)))))
/-- no char of the range above 255: len; the places written hold each char's low byte -/
theorem law (l : Launch) (b : Addr) (A : Cell) (d : Addr) (B : Cell) (o q len : Nat) : Law l yN 5 5 0 0 yB 7 (some .int) site (P b A d B o q len) (E b A d B o q len) (copyLocs d q len) 0 0 := by
  refine Law.of_walk (plainFor_of_name (by decide +kernel)) (by decide +kernel) (by decide +kernel) (by decide) (fun _ _ h => by rw [h.1]; rfl) (fun _ U U' hal hh h => ⟨h.1, h.2.1.mv hal hh, h.2.2.1.mv hal hh, h.2.2.2⟩) (fun r U U' V V' h1 hal h2 h => ⟨h.1, h.2.elim fun B' q => ⟨B', q.1.mv h1 h2, q.2⟩⟩) ?_
  intro p e s m args below meth c s₁ X0 hexec hbytes hml hret hlk hnm hown hh0 W hP
  obtain ⟨rfl, hA, hB, hne, l1, l2, hp⟩ := hP
  have c1 : Steps p.tables e below (s₁.setTop (entryFrame m #[.ref b, .int (Int32.ofNat o), .ref d, .int (Int32.ofNat q), .int (Int32.ofNat len)] 7)) (s₁.setTop (mkF m 0 #[.val (.ref b), .val (.int (Int32.ofNat o)), .val (.ref d), .val (.int (Int32.ofNat q)), .val (.int (Int32.ofNat len)), .unset, .unset] [])) := entry rfl
  have hA0 := hA.1.mv X0.warmed.alike hh0
  have hB0 := hB.mv X0.warmed.alike hh0
  have a31 := hA.1.2.2.2
  have c2 : Steps p.tables e below (s₁.setTop (entryFrame m #[.ref b, .int (Int32.ofNat o), .ref d, .int (Int32.ofNat q), .int (Int32.ofNat len)] 7)) (s₁.setTop (mkF m 3 #[.val (.ref b), .val (.int (Int32.ofNat o)), .val (.ref d), .val (.int (Int32.ofNat q)), .val (.int (Int32.ofNat len)), .val (.int 0), .unset] [])) := c1.trans (by
    refine iconstV X0.here hexec rfl 0 (hb hbytes d0) (by decide) ?_
    refine XS.istore X0.here hexec rfl (hb hbytes d1) rfl rfl ?_
    exact Steps.refl _)
  have loop : ∀ (r i : Nat), i + r = len → ∀ (z : Slot), (z = .unset ∨ ∃ w, z = .val w ∧ w.category = 1) → ∀ (Tl : State) (Bk : Cell), Stand p l e { frames := 0, locals := 0, cells := 0, slots := 0 } s m #[.ref b, .int (Int32.ofNat o), .ref d, .int (Int32.ofNat q), .int (Int32.ofNat len)] below meth c Tl ([] ++ copyLocs d q i) 0 0 → Put d Bk s₁ Tl → Laid B Bk q (q + i) (fun j => Value.int (lo8 (cv A (o + (j - q))))) →
      Steps p.tables e below (s₁.setTop (entryFrame m #[.ref b, .int (Int32.ofNat o), .ref d, .int (Int32.ofNat q), .int (Int32.ofNat len)] 7)) (Tl.setTop (mkF m 3 #[.val (.ref b), .val (.int (Int32.ofNat (o + i))), .val (.ref d), .val (.int (Int32.ofNat (q + i))), .val (.int (Int32.ofNat len)), .val (.int (Int32.ofNat i)), z] [])) → ∃ (T' : State) (B' : Cell) (z' : Slot), Stand p l e { frames := 0, locals := 0, cells := 0, slots := 0 } s m #[.ref b, .int (Int32.ofNat o), .ref d, .int (Int32.ofNat q), .int (Int32.ofNat len)] below meth c T' ([] ++ copyLocs d q len) 0 0 ∧ Put d B' s₁ T' ∧ Laid B B' q (q + len) (fun j => Value.int (lo8 (cv A (o + (j - q))))) ∧
      Steps p.tables e below (s₁.setTop (entryFrame m #[.ref b, .int (Int32.ofNat o), .ref d, .int (Int32.ofNat q), .int (Int32.ofNat len)] 7)) (T'.setTop (mkF m 3 #[.val (.ref b), .val (.int (Int32.ofNat (o + len))), .val (.ref d), .val (.int (Int32.ofNat (q + len))), .val (.int (Int32.ofNat len)), .val (.int (Int32.ofNat len)), z'] [])) := by
    intro r
    induction r with
    | zero =>
      intro i hi z hz Tl Bk Xl pl fl cl
      have hil : i = len := by omega
      rw [hil] at Xl fl cl
      exact ⟨Tl, Bk, z, Xl, pl, fl, cl⟩
    | succ r ih =>
      intro i hi z hz Tl Bk Xl pl fl cl
      have all := X0.warmed.alike.symm.trans Xl.warmed.alike
      have hAl := hA0.keep all (pl.other hne hA0.1)
      have hBk := hB0.like all pl.1 fl.1 fl.2.1 fl.2.2.1
      have hlt : q + i < Bk.slots.size := by rw [fl.2.2.1]; omega
      have c3 : Steps p.tables e below (s₁.setTop (entryFrame m #[.ref b, .int (Int32.ofNat o), .ref d, .int (Int32.ofNat q), .int (Int32.ofNat len)] 7)) (Tl.setTop (mkF m 12 #[.val (.ref b), .val (.int (Int32.ofNat (o + i))), .val (.ref d), .val (.int (Int32.ofNat (q + i))), .val (.int (Int32.ofNat len)), .val (.int (Int32.ofNat i)), z] [.int (Int32.ofNat (o + i)), .ref b])) := cl.trans (by
        refine XS.iload Xl.here hexec rfl (hb hbytes d3) rfl ?_
        refine XS.iload Xl.here hexec rfl (hb hbytes d5) rfl ?_
        refine XS.icmpNo Xl.here hexec rfl (hb hbytes d7) rfl (ii_ge_f (lt32 (by omega) (by omega))) ?_
        refine XS.aloadN Xl.here hexec rfl (hb hbytes d10) rfl rfl ?_
        refine XS.iloadN Xl.here hexec rfl (hb hbytes d11) rfl ?_
        exact Steps.refl _)
      have c4 : Steps p.tables e below (s₁.setTop (entryFrame m #[.ref b, .int (Int32.ofNat o), .ref d, .int (Int32.ofNat q), .int (Int32.ofNat len)] 7)) (Tl.setTop (mkF m 13 #[.val (.ref b), .val (.int (Int32.ofNat (o + i))), .val (.ref d), .val (.int (Int32.ofNat (q + i))), .val (.int (Int32.ofNat len)), .val (.int (Int32.ofNat i)), z] [.int (cv A (o + i))])) := c3.trans (by
        refine Xl.aget hexec hAl rfl (hA.get (i := o + i) (by omega)) rfl rfl (hb hbytes d12) ?_
        exact Steps.refl _)
      have c5 : Steps p.tables e below (s₁.setTop (entryFrame m #[.ref b, .int (Int32.ofNat o), .ref d, .int (Int32.ofNat q), .int (Int32.ofNat len)] 7)) (Tl.setTop (mkF m 15 #[.val (.ref b), .val (.int (Int32.ofNat (o + i))), .val (.ref d), .val (.int (Int32.ofNat (q + i))), .val (.int (Int32.ofNat len)), .val (.int (Int32.ofNat i)), .val (.int (cv A (o + i)))] [])) := c4.trans (by
        refine XS.istoreS Xl.here hexec rfl (hb hbytes d13) rfl rfl hz ?_
        exact Steps.refl _)
      have c6 : Steps p.tables e below (s₁.setTop (entryFrame m #[.ref b, .int (Int32.ofNat o), .ref d, .int (Int32.ofNat q), .int (Int32.ofNat len)] 7)) (Tl.setTop (mkF m 31 #[.val (.ref b), .val (.int (Int32.ofNat (o + i))), .val (.ref d), .val (.int (Int32.ofNat (q + i))), .val (.int (Int32.ofNat len)), .val (.int (Int32.ofNat i)), .val (.int (cv A (o + i)))] [.int (lo8 (cv A (o + i))), .int (Int32.ofNat (q + i)), .ref d])) := c5.trans (by
        refine XS.iload Xl.here hexec rfl (hb hbytes d15) rfl ?_
        refine sipushV Xl.here hexec rfl 255 (hb hbytes d17) (by decide) ?_
        refine XS.icmpYes Xl.here hexec rfl (pc0 := 20) rfl (hb hbytes d20) rfl (ii_le_t (hp i (by omega))) (by decide) rfl ?_
        refine XS.aloadN Xl.here hexec rfl (hb hbytes d26) rfl rfl ?_
        refine XS.iloadN Xl.here hexec rfl (hb hbytes d27) rfl ?_
        refine XS.iload Xl.here hexec rfl (hb hbytes d28) rfl ?_
        refine i2b Xl.here hexec rfl (hb hbytes d30) rfl ?_
        exact Steps.refl _)
      obtain ⟨T7, X7, p7, st7⟩ := Xl.aput hexec hBk rfl hlt rfl (fits_lo8 (cv A (o + i))) (g := (mkF m 31 #[.val (.ref b), .val (.int (Int32.ofNat (o + i))), .val (.ref d), .val (.int (Int32.ofNat (q + i))), .val (.int (Int32.ofNat len)), .val (.int (Int32.ofNat i)), .val (.int (cv A (o + i)))] [.int (lo8 (cv A (o + i))), .int (Int32.ofNat (q + i)), .ref d])) rfl (rest := []) rfl (hb hbytes d31)
      have c8 : Steps p.tables e below (s₁.setTop (entryFrame m #[.ref b, .int (Int32.ofNat o), .ref d, .int (Int32.ofNat q), .int (Int32.ofNat len)] 7)) (T7.setTop (mkF m 32 #[.val (.ref b), .val (.int (Int32.ofNat (o + i))), .val (.ref d), .val (.int (Int32.ofNat (q + i))), .val (.int (Int32.ofNat len)), .val (.int (Int32.ofNat i)), .val (.int (cv A (o + i)))] [])) := c6.trans (st7 _ (Steps.refl _))
      have c9 : Steps p.tables e below (s₁.setTop (entryFrame m #[.ref b, .int (Int32.ofNat o), .ref d, .int (Int32.ofNat q), .int (Int32.ofNat len)] 7)) (T7.setTop (mkF m 3 #[.val (.ref b), .val (.int (Int32.ofNat (o + i) + 1)), .val (.ref d), .val (.int (Int32.ofNat (q + i) + 1)), .val (.int (Int32.ofNat len)), .val (.int (Int32.ofNat i + 1)), .val (.int (cv A (o + i)))] [])) := c8.trans (by
        refine iincV X7.here hexec rfl 1 (hb hbytes d32) (by decide) rfl rfl ?_
        refine iincV X7.here hexec rfl 1 (hb hbytes d35) (by decide) rfl rfl ?_
        refine iincV X7.here hexec rfl 1 (hb hbytes d38) (by decide) rfl rfl ?_
        refine XS.goto X7.here hexec rfl (pc0 := 41) rfl (hb hbytes d41) (by decide) rfl ?_
        exact Steps.refl _)
      have c10 : Steps p.tables e below (s₁.setTop (entryFrame m #[.ref b, .int (Int32.ofNat o), .ref d, .int (Int32.ofNat q), .int (Int32.ofNat len)] 7)) (T7.setTop (mkF m 3 #[.val (.ref b), .val (.int (Int32.ofNat (o + (i + 1)))), .val (.ref d), .val (.int (Int32.ofNat (q + (i + 1)))), .val (.int (Int32.ofNat len)), .val (.int (Int32.ofNat (i + 1))), .val (.int (cv A (o + i)))] [])) := by
        have := c9
        rw [succ32, succ32, succ32] at this
        exact this
      exact ih (i + 1) (by omega) _ (Or.inr ⟨_, rfl, rfl⟩) T7 _ (by rw [copyLocs_step, ← List.append_assoc]; exact X7) (pl.trans p7) (fl.step (by omega) hlt (by simp)) c10
  obtain ⟨T9, B9, z9, X9, p9, f9, g9⟩ := loop len 0 (by omega) .unset (Or.inl rfl) s₁ B (by simpa [copyLocs] using X0) ⟨hB0.1, fun _ _ => rfl, rfl⟩ (Laid.zero _ _ _) c2
  have c11 : Steps p.tables e below (s₁.setTop (entryFrame m #[.ref b, .int (Int32.ofNat o), .ref d, .int (Int32.ofNat q), .int (Int32.ofNat len)] 7)) (T9.setTop (mkF m 46 #[.val (.ref b), .val (.int (Int32.ofNat (o + len))), .val (.ref d), .val (.int (Int32.ofNat (q + len))), .val (.int (Int32.ofNat len)), .val (.int (Int32.ofNat len)), z9] [.int (Int32.ofNat len)])) := g9.trans (by
    refine XS.iload X9.here hexec rfl (hb hbytes d3) rfl ?_
    refine XS.iload X9.here hexec rfl (hb hbytes d5) rfl ?_
    refine XS.icmpYes X9.here hexec rfl (pc0 := 7) rfl (hb hbytes d7) rfl (ii_ge_t (nlt32 (by omega) (Nat.le_refl _))) (by decide) rfl ?_
    refine XS.iload X9.here hexec rfl (hb hbytes d44) rfl ?_
    exact Steps.refl _)
  exact ⟨T9, some (.int (Int32.ofNat len)), _, _, _, X9, by simp, rfl, rfl, (fun h => by cases h), ⟨rfl, B9, p9.from hh0, f9⟩, fun fs hl => c11.trans (X9.ireturnOut hexec hret rfl (Or.inl rfl) (hb hbytes d46) hl)⟩
end Cmp5
namespace Cmp3
def yN : MethodName := ⟨"java/lang/StringUTF16", "compress", "([CII)[B"⟩
abbrev yB : ByteArray := jdk_52_method_16_code
theorem d0 : decode yB 0 = .ok (.iload_n 2, 1) := by decide +kernel
theorem d1 : decode yB 1 = .ok (.newarray .byte, 2) := by decide +kernel
theorem d3 : decode yB 3 = .ok (.astore_n 3, 1) := by decide +kernel
theorem d4 : decode yB 4 = .ok (.aload_n 0, 1) := by decide +kernel
theorem d5 : decode yB 5 = .ok (.iload_n 1, 1) := by decide +kernel
theorem d6 : decode yB 6 = .ok (.aload_n 3, 1) := by decide +kernel
theorem d7 : decode yB 7 = .ok (.iconst 0, 1) := by decide +kernel
theorem d8 : decode yB 8 = .ok (.iload_n 2, 1) := by decide +kernel
theorem d9 : decode yB 9 = .ok (.invokestatic 115, 3) := by decide +kernel
theorem d12 : decode yB 12 = .ok (.istore 4, 2) := by decide +kernel
theorem d14 : decode yB 14 = .ok (.iload 4, 2) := by decide +kernel
theorem d16 : decode yB 16 = .ok (.iload_n 2, 1) := by decide +kernel
theorem d17 : decode yB 17 = .ok (.if_icmp (.eq) 40, 3) := by decide +kernel
theorem d57 : decode yB 57 = .ok (.aload_n 3, 1) := by decide +kernel
theorem d58 : decode yB 58 = .ok (.areturn, 1) := by decide +kernel
def site : List Cond := [.arrayClass .byte, Cmp5.tab] ++ staticW U16 115 Cmp5.yN
def tab : Cond := tabOf yN yB 6 (some (.array .byte)) site
def P (b : Addr) (A : Cell) (o len : Nat) (args : Array Value) (s : State) : Prop := args = #[.ref b, .int (Int32.ofNat o), .int (Int32.ofNat len)] ∧ Ch b A s ∧ o + len ≤ A.slots.size ∧ len ≤ 536870912 ∧ ∀ i, i < len → ¬ 255 < cv A (o + i)
def E (b : Addr) (A : Cell) (o len : Nat) (r : Option Value) (s u : State) : Prop := NewArr .byte "[B" len (fun j => .int (lo8 (cv A (o + j)))) r s u ∧ u.heap.size = s.heap.size + 1
/-- no char of the range above 255: a new byte[] of their low bytes -/
theorem law (l : Launch) (b : Addr) (A : Cell) (o len : Nat) : Law l yN 3 3 1 18 yB 6 (some (.array .byte)) site (P b A o len) (E b A o len) [] 1 len := by
  refine Law.of_walk (plainFor_of_name (by decide +kernel)) (by decide +kernel) (by decide +kernel) (by decide) (fun _ _ h => by rw [h.1]; rfl) (fun _ U U' hal hh h => ⟨h.1, h.2.1.mv hal hh, h.2.2⟩) (fun r U U' V V' h1 hal h2 h => ⟨NewArr.mv r U U' V V' h1 hal h2 h.1, by rw [h1, h2]; exact h.2⟩) ?_
  intro p e s m args below meth c s₁ X0 hexec hbytes hml hret hlk hnm hown hh0 W hP
  obtain ⟨rfl, hA, l1, l2, hp⟩ := hP
  have a31 := hA.1.2.2.2
  have c1 : Steps p.tables e below (s₁.setTop (entryFrame m #[.ref b, .int (Int32.ofNat o), .int (Int32.ofNat len)] 6)) (s₁.setTop (mkF m 0 #[.val (.ref b), .val (.int (Int32.ofNat o)), .val (.int (Int32.ofNat len)), .unset, .unset, .unset] [])) := entry rfl
  have c2 : Steps p.tables e below (s₁.setTop (entryFrame m #[.ref b, .int (Int32.ofNat o), .int (Int32.ofNat len)] 6)) (s₁.setTop (mkF m 1 #[.val (.ref b), .val (.int (Int32.ofNat o)), .val (.int (Int32.ofNat len)), .unset, .unset, .unset] [.int (Int32.ofNat len)])) := c1.trans (by
    refine XS.iloadN X0.here hexec rfl (hb hbytes d0) rfl ?_
    exact Steps.refl _)
  obtain ⟨T3, B3, X3, ba3, bs3, bv3, bh3, bf3, st3⟩ := X0.anew hexec (atype := .byte) (wk W (.arrayClass .byte)) rfl (by show len * 1 ≤ _; omega) (by omega) (g := (mkF m 1 #[.val (.ref b), .val (.int (Int32.ofNat o)), .val (.int (Int32.ofNat len)), .unset, .unset, .unset] [.int (Int32.ofNat len)])) rfl (hb hbytes d1) (rest := []) rfl (Nat.le_refl _) (by show 0 + len ≤ len; omega)
  rw [hh0] at ba3 st3
  have kp3 : XT.Kept s T3 := (XT.Kept.of_eq hh0).push bh3
  have hA3 := hA.keep X3.warmed.alike (kp3 _ _ hA.1.1)
  have hne : b ≠ s.heap.size := hA.1.ne
  have c4 : Steps p.tables e below (s₁.setTop (entryFrame m #[.ref b, .int (Int32.ofNat o), .int (Int32.ofNat len)] 6)) (T3.setTop (mkF m 3 #[.val (.ref b), .val (.int (Int32.ofNat o)), .val (.int (Int32.ofNat len)), .unset, .unset, .unset] [.ref s.heap.size])) := c2.trans (st3 _ (Steps.refl _))
  have c5 : Steps p.tables e below (s₁.setTop (entryFrame m #[.ref b, .int (Int32.ofNat o), .int (Int32.ofNat len)] 6)) (T3.setTop (mkF m 9 #[.val (.ref b), .val (.int (Int32.ofNat o)), .val (.int (Int32.ofNat len)), .val (.ref s.heap.size), .unset, .unset] [.int (Int32.ofNat len), .int 0, .ref s.heap.size, .int (Int32.ofNat o), .ref b])) := c4.trans (by
    refine XS.astoreN X3.here hexec rfl (hb hbytes d3) rfl rfl rfl ?_
    refine XS.aloadN X3.here hexec rfl (hb hbytes d4) rfl rfl ?_
    refine XS.iloadN X3.here hexec rfl (hb hbytes d5) rfl ?_
    refine XS.aloadN X3.here hexec rfl (hb hbytes d6) rfl rfl ?_
    refine iconstV X3.here hexec rfl 0 (hb hbytes d7) (by decide) ?_
    refine XS.iloadN X3.here hexec rfl (hb hbytes d8) rfl ?_
    exact Steps.refl _)
  obtain ⟨v6, T6, X6, E6, g6⟩ := X3.callS hexec (Cmp5.law l b A s.heap.size B3 o 0 len) hown (wks W (staticW U16 115 Cmp5.yN)) (wk W Cmp5.tab) (W := 0) (Nat.le_of_ble_eq_true rfl) (Nat.le_of_ble_eq_true rfl) (Nat.le_refl _) (by show 0 + len + 0 ≤ len; omega) (g := (mkF m 9 #[.val (.ref b), .val (.int (Int32.ofNat o)), .val (.int (Int32.ofNat len)), .val (.ref s.heap.size), .unset, .unset] [.int (Int32.ofNat len), .int (Int32.ofNat 0), .ref s.heap.size, .int (Int32.ofNat o), .ref b])) rfl (by rw [hml]; rfl) c5 (argsL := [.ref b, .int (Int32.ofNat o), .ref s.heap.size, .int (Int32.ofNat 0), .int (Int32.ofNat len)]) (rest := []) rfl rfl (by show 2 * 0 + 0 ≤ _; decide) (hb hbytes d9) (⟨rfl, hA3, ba3, hne, l1, by rw [bs3]; simp, hp⟩)
  obtain ⟨rfl, B6, p6, f6⟩ := E6
  have c7 : Steps p.tables e below (s₁.setTop (entryFrame m #[.ref b, .int (Int32.ofNat o), .int (Int32.ofNat len)] 6)) (T6.setTop (mkF m 12 #[.val (.ref b), .val (.int (Int32.ofNat o)), .val (.int (Int32.ofNat len)), .val (.ref s.heap.size), .unset, .unset] [.int (Int32.ofNat len)])) := g6
  have c8 : Steps p.tables e below (s₁.setTop (entryFrame m #[.ref b, .int (Int32.ofNat o), .int (Int32.ofNat len)] 6)) (T6.setTop (mkF m 58 #[.val (.ref b), .val (.int (Int32.ofNat o)), .val (.int (Int32.ofNat len)), .val (.ref s.heap.size), .val (.int (Int32.ofNat len)), .unset] [.ref s.heap.size])) := c7.trans (by
    refine XS.istore X6.here hexec rfl (hb hbytes d12) rfl rfl ?_
    refine XS.iload X6.here hexec rfl (hb hbytes d14) rfl ?_
    refine XS.iloadN X6.here hexec rfl (hb hbytes d16) rfl ?_
    refine XS.icmpYes X6.here hexec rfl (pc0 := 17) rfl (hb hbytes d17) rfl (ii_eq_t rfl) (by decide) rfl ?_
    refine XS.aloadN X6.here hexec rfl (hb hbytes d57) rfl rfl ?_
    exact Steps.refl _)
  have X8 := X6.wide (L' := []) (cells' := 1) (slots' := len) (fun x hx hlt => by
    simp only [List.nil_append, copyLocs, List.mem_map, List.mem_range] at hx
    obtain ⟨i, -, rfl⟩ := hx
    exact absurd hlt (Nat.lt_irrefl _)) (Nat.le_refl _) (by omega)
  exact ⟨T6, some (.ref s.heap.size), _, _, _, X8, rfl, rfl, rfl, (fun h => by cases h), ⟨⟨rfl, B6, ba3.like (X3.warmed.alike.symm.trans X6.warmed.alike) p6.1 f6.1 f6.2.1 f6.2.2.1, f6.2.1.trans bv3, by rw [X6.warmed.alike.findClass, f6.1]; exact bf3, by rw [f6.2.2.1, bs3]; simp, fun j hj => by rw [f6.2.2.2 j, if_pos (by omega)]; rfl, kp3.put p6 (Nat.le_refl _)⟩, by rw [p6.2.2, bh3, hh0]; simp⟩, fun fs hl => c8.trans (X8.areturnOut hexec rfl hret rfl (hb hbytes d58) hl)⟩
end Cmp3
namespace CodL
def yN : MethodName := ⟨"java/lang/StringUTF16", "coderFromArrayLen", "([BI)B"⟩
abbrev yB : ByteArray := jdk_52_method_15_code
theorem d0 : decode yB 0 = .ok (.iload_n 1, 1) := by decide +kernel
theorem d1 : decode yB 1 = .ok (.aload_n 0, 1) := by decide +kernel
theorem d2 : decode yB 2 = .ok (.arraylength, 1) := by decide +kernel
theorem d3 : decode yB 3 = .ok (.isub, 1) := by decide +kernel
theorem d4 : decode yB 4 = .ok (.bipush 31, 2) := by decide +kernel
theorem d6 : decode yB 6 = .ok (.iushr, 1) := by decide +kernel
theorem d7 : decode yB 7 = .ok (.i2b, 1) := by decide +kernel
theorem d8 : decode yB 8 = .ok (.ireturn, 1) := by decide +kernel
def site : List Cond := []
def tab : Cond := tabOf yN yB 2 (some .byte) site
def P (d : Addr) (B : Cell) (args : Array Value) (s : State) : Prop := args = #[.ref d, .int (Int32.ofNat B.slots.size)] ∧ Arr .byte d B s
def E (r : Option Value) (s u : State) : Prop := XT.PureE (some (.int 0)) r s u
/-- an array as long as the number of chars: LATIN1 -/
theorem law (l : Launch) (d : Addr) (B : Cell) : Law l yN 2 2 0 0 yB 2 (some .byte) site (P d B) E [] 0 0 := by
  refine Law.of_walk (plainFor_of_name (by decide +kernel)) (by decide +kernel) (by decide +kernel) (by decide) (fun _ _ h => by rw [h.1]; rfl) (fun _ U U' hal hh h => ⟨h.1, h.2.mv hal hh⟩) (fun r U U' V V' h1 hal h2 h => XT.PureE.mv r U U' V V' h1 hal h2 h) ?_
  intro p e s m args below meth c s₁ X0 hexec hbytes hml hret hlk hnm hown hh0 W hP
  obtain ⟨rfl, hB⟩ := hP
  have hB0 := hB.mv X0.warmed.alike hh0
  have c1 : Steps p.tables e below (s₁.setTop (entryFrame m #[.ref d, .int (Int32.ofNat B.slots.size)] 2)) (s₁.setTop (mkF m 0 #[.val (.ref d), .val (.int (Int32.ofNat B.slots.size))] [])) := entry rfl
  have c2 : Steps p.tables e below (s₁.setTop (entryFrame m #[.ref d, .int (Int32.ofNat B.slots.size)] 2)) (s₁.setTop (mkF m 2 #[.val (.ref d), .val (.int (Int32.ofNat B.slots.size))] [.ref d, .int (Int32.ofNat B.slots.size)])) := c1.trans (by
    refine XS.iloadN X0.here hexec rfl (hb hbytes d0) rfl ?_
    refine XS.aloadN X0.here hexec rfl (hb hbytes d1) rfl rfl ?_
    exact Steps.refl _)
  have c3 : Steps p.tables e below (s₁.setTop (entryFrame m #[.ref d, .int (Int32.ofNat B.slots.size)] 2)) (s₁.setTop (mkF m 8 #[.val (.ref d), .val (.int (Int32.ofNat B.slots.size))] [.int (lo8 (ushr (Int32.ofNat B.slots.size - Int32.ofNat B.slots.size) 31))])) := c2.trans (by
    refine X0.alen hexec hB0 rfl rfl (hb hbytes d2) ?_
    refine XS.isub X0.here hexec rfl (hb hbytes d3) rfl ?_
    refine bipushV X0.here hexec rfl 31 (hb hbytes d4) (by decide) ?_
    refine iushr X0.here hexec rfl (hb hbytes d6) rfl ?_
    refine i2b X0.here hexec rfl (hb hbytes d7) rfl ?_
    exact Steps.refl _)
  have e0 : lo8 (ushr (Int32.ofNat B.slots.size - Int32.ofNat B.slots.size) 31) = 0 := by rw [Int32.sub_self]; decide
  rw [e0] at c3
  exact ⟨s₁, some (.int 0), _, _, _, X0, rfl, rfl, rfl, (fun h => by cases h), ⟨rfl, hh0⟩, fun fs hl => c3.trans (X0.ireturnOut hexec hret rfl (Or.inr (Or.inr (Or.inl rfl))) (hb hbytes d8) hl)⟩
end CodL
/-- the String at a is Latin-1 over a new byte[] (the heap's one new cell): the low bytes of the len chars of A from o on; every cell but a is kept -/
def Got (a : Addr) (D : Cell) (fV fC : Field) (A : Cell) (o len : Nat) (r : Option Value) (s u : State) : Prop := r = none ∧ ∃ D' V : Cell, Blank "java/lang/String" a D' u ∧ Same D D' [fV.slot, fC.slot] ∧ D'.slots[fV.slot]? = some (.ref s.heap.size) ∧ D'.slots[fC.slot]? = some (.int 0) ∧ Arr .byte s.heap.size V u ∧ V.vm = .none ∧ u.vm.findClass "[B" = some V.cls ∧ V.slots.size = len ∧ (∀ j, j < len → V.slots[j]? = some (.int (lo8 (cv A (o + j))))) ∧ (∀ (y : Addr) (c : Cell), y ≠ a → s.heap[y]? = some c → u.heap[y]? = some c) ∧ u.heap.size = s.heap.size + 1
theorem Got.mv {a : Addr} {D A : Cell} {fV fC : Field} {o len : Nat} : ∀ r (U U' V V' : State), U'.heap = U.heap → V.vm.Alike V'.vm → V'.heap = V.heap → Got a D fV fC A o len r U V → Got a D fV fC A o len r U' V' :=
  fun r U U' V V' h1 hal h2 ⟨e0, D', X, a1, a2, a3, a4, a5, a6, a7, a8, a9, a10, a11⟩ => ⟨e0, D', X, a1.mv hal h2, a2, by rw [h1]; exact a3, a4, by rw [h1]; exact a5.mv hal h2, a6, by rw [hal.findClass]; exact a7, a8, a9, by rw [h1, h2]; exact a10, by rw [h1, h2]; exact a11⟩
namespace New4
def yN : MethodName := ⟨"java/lang/String", "<init>", "([CIILjava/lang/Void;)V"⟩
abbrev yB : ByteArray := jdk_42_method_149_code
theorem d0 : decode yB 0 = .ok (.aload_n 0, 1) := by decide +kernel
theorem d1 : decode yB 1 = .ok (.invokespecial 1, 3) := by decide +kernel
theorem d4 : decode yB 4 = .ok (.iload_n 3, 1) := by decide +kernel
theorem d5 : decode yB 5 = .ok (.ifCond (.ne) 22, 3) := by decide +kernel
theorem d27 : decode yB 27 = .ok (.getstatic 38, 3) := by decide +kernel
theorem d30 : decode yB 30 = .ok (.ifCond (.eq) 28, 3) := by decide +kernel
theorem d33 : decode yB 33 = .ok (.aload_n 1, 1) := by decide +kernel
theorem d34 : decode yB 34 = .ok (.iload_n 2, 1) := by decide +kernel
theorem d35 : decode yB 35 = .ok (.iload_n 3, 1) := by decide +kernel
theorem d36 : decode yB 36 = .ok (.invokestatic 177, 3) := by decide +kernel
theorem d39 : decode yB 39 = .ok (.astore 5, 2) := by decide +kernel
theorem d41 : decode yB 41 = .ok (.aload_n 0, 1) := by decide +kernel
theorem d42 : decode yB 42 = .ok (.aload 5, 2) := by decide +kernel
theorem d44 : decode yB 44 = .ok (.iload_n 3, 1) := by decide +kernel
theorem d45 : decode yB 45 = .ok (.invokestatic 47, 3) := by decide +kernel
theorem d48 : decode yB 48 = .ok (.putfield 15, 3) := by decide +kernel
theorem d51 : decode yB 51 = .ok (.aload_n 0, 1) := by decide +kernel
theorem d52 : decode yB 52 = .ok (.aload 5, 2) := by decide +kernel
theorem d54 : decode yB 54 = .ok (.putfield 9, 3) := by decide +kernel
theorem d57 : decode yB 57 = .ok (.return_, 1) := by decide +kernel
def site : List Cond := [.fieldLink "java/lang/String" 38 "java/lang/String" "COMPACT_STRINGS" "Z", Cmp3.tab, CodL.tab, .laysFinal "java/lang/String" "java/lang/String" "value" "[B", .fieldLink "java/lang/String" 9 "java/lang/String" "value" "[B", .laysFinal "java/lang/String" "java/lang/String" "coder" "B", .fieldLink "java/lang/String" 15 "java/lang/String" "coder" "B"] ++ objW "java/lang/String" 1 ++ staticW "java/lang/String" 177 Cmp3.yN ++ staticW "java/lang/String" 47 CodL.yN
def tab : Cond := tabOf yN yB 6 none site
def P (a : Addr) (D : Cell) (fV fC : Field) (b : Addr) (A : Cell) (z : Int32) (o len : Nat) (args : Array Value) (s : State) : Prop := args = #[.ref a, .ref b, .int (Int32.ofNat o), .int (Int32.ofNat len), .null] ∧ Blank "java/lang/String" a D s ∧ Found "java/lang/String" "value" "[B" fV s ∧ Found "java/lang/String" "coder" "B" fC s ∧ Ch b A s ∧ StaticIs s "java/lang/String" "COMPACT_STRINGS" "Z" (.int z) ∧ ¬ z = 0 ∧ 0 < len ∧ o + len ≤ A.slots.size ∧ len ≤ 536870912 ∧ ∀ i, i < len → ¬ 255 < cv A (o + i)
def E (a : Addr) (D : Cell) (fV fC : Field) (A : Cell) (o len : Nat) (r : Option Value) (s u : State) : Prop := Got a D fV fC A o len r s u
/-- len > 0, no char of the range above 255: a Latin-1 String of their low bytes -/
theorem law (l : Launch) (a : Addr) (D : Cell) (fV fC : Field) (b : Addr) (A : Cell) (z : Int32) (o len : Nat) : Law l yN 5 4 2 35 yB 6 none site (P a D fV fC b A z o len) (E a D fV fC A o len) [⟨a, fC.slot⟩, ⟨a, fV.slot⟩] 1 len := by
  refine Law.of_walk (plainFor_of_name (by decide +kernel)) (by decide +kernel) (by decide +kernel) (by decide) (fun _ _ h => by rw [h.1]; rfl) (fun _ U U' hal hh h => ⟨h.1, h.2.1.mv hal hh, h.2.2.1.al hal, h.2.2.2.1.al hal, h.2.2.2.2.1.mv hal hh, h.2.2.2.2.2.1.there hal hh, h.2.2.2.2.2.2⟩) (fun r U U' V V' h1 hal h2 h => Got.mv r U U' V V' h1 hal h2 h) ?_
  intro p e s m args below meth c s₁ X0 hexec hbytes hml hret hlk hnm hown hh0 W hP
  obtain ⟨rfl, hB, f1, f2, hA, s1, hz, l0, l1, l2, hp⟩ := hP
  have a31 := hA.1.2.2.2
  have c1 : Steps p.tables e below (s₁.setTop (entryFrame m #[.ref a, .ref b, .int (Int32.ofNat o), .int (Int32.ofNat len), .null] 6)) (s₁.setTop (mkF m 0 #[.val (.ref a), .val (.ref b), .val (.int (Int32.ofNat o)), .val (.int (Int32.ofNat len)), .val .null, .unset] [])) := entry rfl
  have c2 : Steps p.tables e below (s₁.setTop (entryFrame m #[.ref a, .ref b, .int (Int32.ofNat o), .int (Int32.ofNat len), .null] 6)) (s₁.setTop (mkF m 1 #[.val (.ref a), .val (.ref b), .val (.int (Int32.ofNat o)), .val (.int (Int32.ofNat len)), .val .null, .unset] [.ref a])) := c1.trans (by
    refine XS.aloadN X0.here hexec rfl (hb hbytes d0) rfl rfl ?_
    exact Steps.refl _)
  obtain ⟨T3, X3, q3, st3⟩ := X0.oinit hexec hown (wks W (objW "java/lang/String" 1)) (g := (mkF m 1 #[.val (.ref a), .val (.ref b), .val (.int (Int32.ofNat o)), .val (.int (Int32.ofNat len)), .val .null, .unset] [.ref a])) rfl (by rw [hml]; rfl) (rest := []) rfl (hb hbytes d1) (W := 0) (by show 2 * 0 + 0 ≤ _; decide) (Nat.le_of_ble_eq_true rfl) (Nat.le_of_ble_eq_true rfl)
  have hh3 := q3.trans hh0
  have c4 : Steps p.tables e below (s₁.setTop (entryFrame m #[.ref a, .ref b, .int (Int32.ofNat o), .int (Int32.ofNat len), .null] 6)) (T3.setTop (mkF m 27 #[.val (.ref a), .val (.ref b), .val (.int (Int32.ofNat o)), .val (.int (Int32.ofNat len)), .val .null, .unset] [])) := (c2.trans (st3 _ (Steps.refl _))).trans (by
    refine XS.iloadN X3.here hexec rfl (hb hbytes d4) rfl ?_
    refine XS.ifYes X3.here hexec rfl (pc0 := 5) rfl (hb hbytes d5) rfl (i0_ne_t (nz32 (by omega) l0)) (by decide) rfl ?_
    exact Steps.refl _)
  obtain ⟨T5, X5, q5, st5⟩ := X3.sget hexec hown (wk W (.fieldLink "java/lang/String" 38 "java/lang/String" "COMPACT_STRINGS" "Z")) s1 (fun _ _ h => by rw [hh3]; exact h) (g := (mkF m 27 #[.val (.ref a), .val (.ref b), .val (.int (Int32.ofNat o)), .val (.int (Int32.ofNat len)), .val .null, .unset] [])) rfl (hb hbytes d27)
  have hh5 := q5.trans hh3
  have c6 : Steps p.tables e below (s₁.setTop (entryFrame m #[.ref a, .ref b, .int (Int32.ofNat o), .int (Int32.ofNat len), .null] 6)) (T5.setTop (mkF m 30 #[.val (.ref a), .val (.ref b), .val (.int (Int32.ofNat o)), .val (.int (Int32.ofNat len)), .val .null, .unset] [.int z])) := c4.trans (st5 _ (Steps.refl _))
  have c7 : Steps p.tables e below (s₁.setTop (entryFrame m #[.ref a, .ref b, .int (Int32.ofNat o), .int (Int32.ofNat len), .null] 6)) (T5.setTop (mkF m 36 #[.val (.ref a), .val (.ref b), .val (.int (Int32.ofNat o)), .val (.int (Int32.ofNat len)), .val .null, .unset] [.int (Int32.ofNat len), .int (Int32.ofNat o), .ref b])) := c6.trans (by
    refine XS.ifNo X5.here hexec rfl (hb hbytes d30) rfl (i0_eq_f hz) ?_
    refine XS.aloadN X5.here hexec rfl (hb hbytes d33) rfl rfl ?_
    refine XS.iloadN X5.here hexec rfl (hb hbytes d34) rfl ?_
    refine XS.iloadN X5.here hexec rfl (hb hbytes d35) rfl ?_
    exact Steps.refl _)
  obtain ⟨v8, T8, X8, E8, g8⟩ := X5.callS hexec (Cmp3.law l b A o len) hown (wks W (staticW "java/lang/String" 177 Cmp3.yN)) (wk W Cmp3.tab) (W := 0) (Nat.le_of_ble_eq_true rfl) (Nat.le_of_ble_eq_true rfl) (Nat.le_refl _) (by show 0 + len ≤ len; omega) (g := (mkF m 36 #[.val (.ref a), .val (.ref b), .val (.int (Int32.ofNat o)), .val (.int (Int32.ofNat len)), .val .null, .unset] [.int (Int32.ofNat len), .int (Int32.ofNat o), .ref b])) rfl (by rw [hml]; rfl) c7 (argsL := [.ref b, .int (Int32.ofNat o), .int (Int32.ofNat len)]) (rest := []) rfl rfl (by show 2 * 0 + 0 ≤ _; decide) (hb hbytes d36) (⟨rfl, hA.mv X5.warmed.alike hh5, l1, l2, hp⟩)
  obtain ⟨e8, z8⟩ := E8
  obtain ⟨rfl, N, n1, n2, n3, n4, n5, n6⟩ := NewArr.mv _ T5 s _ _ hh5.symm (Vm.Alike.refl _) rfl e8
  rw [hh5] at z8
  have hB1 := hB.keep X8.warmed.alike (n6 _ _ hB.1)
  have hne : s.heap.size ≠ a := (Nat.ne_of_lt (Array.getElem?_eq_some_iff.mp hB.1).1).symm
  have c9 : Steps p.tables e below (s₁.setTop (entryFrame m #[.ref a, .ref b, .int (Int32.ofNat o), .int (Int32.ofNat len), .null] 6)) (T8.setTop (mkF m 39 #[.val (.ref a), .val (.ref b), .val (.int (Int32.ofNat o)), .val (.int (Int32.ofNat len)), .val .null, .unset] [.ref s.heap.size])) := g8
  have c10 : Steps p.tables e below (s₁.setTop (entryFrame m #[.ref a, .ref b, .int (Int32.ofNat o), .int (Int32.ofNat len), .null] 6)) (T8.setTop (mkF m 45 #[.val (.ref a), .val (.ref b), .val (.int (Int32.ofNat o)), .val (.int (Int32.ofNat len)), .val .null, .val (.ref s.heap.size)] [.int (Int32.ofNat N.slots.size), .ref s.heap.size, .ref a])) := by
    have hc : Steps p.tables e below (s₁.setTop (entryFrame m #[.ref a, .ref b, .int (Int32.ofNat o), .int (Int32.ofNat len), .null] 6)) (T8.setTop (mkF m 45 #[.val (.ref a), .val (.ref b), .val (.int (Int32.ofNat o)), .val (.int (Int32.ofNat len)), .val .null, .val (.ref s.heap.size)] [.int (Int32.ofNat len), .ref s.heap.size, .ref a])) := c9.trans (by
      refine XS.astore X8.here hexec rfl (hb hbytes d39) rfl rfl rfl ?_
      refine XS.aloadN X8.here hexec rfl (hb hbytes d41) rfl rfl ?_
      refine XS.aload X8.here hexec rfl (hb hbytes d42) rfl rfl ?_
      refine XS.iloadN X8.here hexec rfl (hb hbytes d44) rfl ?_
      exact Steps.refl _)
    rw [n4]; exact hc
  obtain ⟨v11, T11, X11, E11, g11⟩ := X8.callS hexec (CodL.law l s.heap.size N) hown (wks W (staticW "java/lang/String" 47 CodL.yN)) (wk W CodL.tab) (W := 1) (Nat.le_of_ble_eq_true rfl) (Nat.le_of_ble_eq_true rfl) (Nat.le_refl _) (by show 0 + len + 0 ≤ len; omega) (g := (mkF m 45 #[.val (.ref a), .val (.ref b), .val (.int (Int32.ofNat o)), .val (.int (Int32.ofNat len)), .val .null, .val (.ref s.heap.size)] [.int (Int32.ofNat N.slots.size), .ref s.heap.size, .ref a])) rfl (by rw [hml]; rfl) c10 (argsL := [.ref s.heap.size, .int (Int32.ofNat N.slots.size)]) (rest := [.ref a]) rfl rfl (by show 2 * 0 + (1 + 0) ≤ _; decide) (hb hbytes d45) (⟨rfl, n1⟩)
  obtain ⟨rfl, q11⟩ := E11
  have hB11 := hB1.mv (X8.warmed.alike.symm.trans X11.warmed.alike) q11
  have c12 : Steps p.tables e below (s₁.setTop (entryFrame m #[.ref a, .ref b, .int (Int32.ofNat o), .int (Int32.ofNat len), .null] 6)) (T11.setTop (mkF m 48 #[.val (.ref a), .val (.ref b), .val (.int (Int32.ofNat o)), .val (.int (Int32.ofNat len)), .val .null, .val (.ref s.heap.size)] [.int 0, .ref a])) := g11
  obtain ⟨T13, X13, p13, bl13, sl13, st13⟩ := X11.finit hexec hown (wk W (.fieldLink "java/lang/String" 15 "java/lang/String" "coder" "B")) (Or.inr ⟨_, (wk W (.laysFinal "java/lang/String" "java/lang/String" "coder" "B"))⟩) (Or.inl ⟨rfl, hnm⟩) f2 (Or.inl rfl) hB11 (t := .byte) (by decide +kernel) rfl (g := (mkF m 48 #[.val (.ref a), .val (.ref b), .val (.int (Int32.ofNat o)), .val (.int (Int32.ofNat len)), .val .null, .val (.ref s.heap.size)] [.int 0, .ref a])) rfl (rest := []) rfl (hb hbytes d48)
  have c14 : Steps p.tables e below (s₁.setTop (entryFrame m #[.ref a, .ref b, .int (Int32.ofNat o), .int (Int32.ofNat len), .null] 6)) (T13.setTop (mkF m 54 #[.val (.ref a), .val (.ref b), .val (.int (Int32.ofNat o)), .val (.int (Int32.ofNat len)), .val .null, .val (.ref s.heap.size)] [.ref s.heap.size, .ref a])) := (c12.trans (st13 _ (Steps.refl _))).trans (by
    refine XS.aloadN X13.here hexec rfl (hb hbytes d51) rfl rfl ?_
    refine XS.aload X13.here hexec rfl (hb hbytes d52) rfl rfl ?_
    exact Steps.refl _)
  obtain ⟨T15, X15, p15, bl15, sl15, st15⟩ := X13.finit hexec hown (wk W (.fieldLink "java/lang/String" 9 "java/lang/String" "value" "[B")) (Or.inr ⟨_, (wk W (.laysFinal "java/lang/String" "java/lang/String" "value" "[B"))⟩) (Or.inl ⟨rfl, hnm⟩) f1 (Or.inl rfl) bl13 (t := (.array .byte)) (by decide +kernel) rfl (g := (mkF m 54 #[.val (.ref a), .val (.ref b), .val (.int (Int32.ofNat o)), .val (.int (Int32.ofNat len)), .val .null, .val (.ref s.heap.size)] [.ref s.heap.size, .ref a])) rfl (rest := []) rfl (hb hbytes d54)
  have c16 : Steps p.tables e below (s₁.setTop (entryFrame m #[.ref a, .ref b, .int (Int32.ofNat o), .int (Int32.ofNat len), .null] 6)) (T15.setTop (mkF m 57 #[.val (.ref a), .val (.ref b), .val (.int (Int32.ofNat o)), .val (.int (Int32.ofNat len)), .val .null, .val (.ref s.heap.size)] [])) := c14.trans (st15 _ (Steps.refl _))
  have ap := apart (Or.inr ⟨_, (wk W (.laysFinal "java/lang/String" "java/lang/String" "value" "[B"))⟩) (Or.inr ⟨_, (wk W (.laysFinal "java/lang/String" "java/lang/String" "coder" "B"))⟩) f1 f2 (t₁ := .array .byte) (t₂ := .byte) (by decide +kernel) (by decide +kernel) (by decide)
  have al := X8.warmed.alike.symm.trans X15.warmed.alike
  have n7 : T11.heap[s.heap.size]? = some N := by rw [q11]; exact n1.1
  exact ⟨T15, none, _, _, _, X15, by simp, rfl, by omega, (fun _ => rfl), ⟨rfl, _, N, bl15, ((Same.refl D _).set _ (by simp)).set _ (by simp), sl15, (Cell.slots_setSlot_ne _ ap).trans sl13, n1.keep al (p15.other hne (p13.other hne n7)), n2, by rw [al.findClass]; exact n3, n4, n5, fun y c h1 h2 => p15.other h1 (p13.other h1 (by rw [q11]; exact n6 y c h2)), by rw [p15.2.2, p13.2.2, q11]; exact z8⟩, fun fs hl => c16.trans (X15.returnOut hexec hret (hb hbytes d57) hl)⟩
end New4
namespace New1
def yN : MethodName := ⟨"java/lang/String", "<init>", "([C)V"⟩
abbrev yB : ByteArray := jdk_42_method_3_code
theorem d0 : decode yB 0 = .ok (.aload_n 0, 1) := by decide +kernel
theorem d1 : decode yB 1 = .ok (.aload_n 1, 1) := by decide +kernel
theorem d2 : decode yB 2 = .ok (.iconst 0, 1) := by decide +kernel
theorem d3 : decode yB 3 = .ok (.aload_n 1, 1) := by decide +kernel
theorem d4 : decode yB 4 = .ok (.arraylength, 1) := by decide +kernel
theorem d5 : decode yB 5 = .ok (.aconst_null, 1) := by decide +kernel
theorem d6 : decode yB 6 = .ok (.invokespecial 27, 3) := by decide +kernel
theorem d9 : decode yB 9 = .ok (.return_, 1) := by decide +kernel
def site : List Cond := [New4.tab] ++ initW "java/lang/String" 27 New4.yN
def tab : Cond := tabOf yN yB 2 none site
def P (a : Addr) (D : Cell) (fV fC : Field) (b : Addr) (A : Cell) (z : Int32) (args : Array Value) (s : State) : Prop := args = #[.ref a, .ref b] ∧ Blank "java/lang/String" a D s ∧ Found "java/lang/String" "value" "[B" fV s ∧ Found "java/lang/String" "coder" "B" fC s ∧ Ch b A s ∧ StaticIs s "java/lang/String" "COMPACT_STRINGS" "Z" (.int z) ∧ ¬ z = 0 ∧ 0 < A.slots.size ∧ A.slots.size ≤ 536870912 ∧ ∀ i, i < A.slots.size → ¬ 255 < cv A i
def E (a : Addr) (D : Cell) (fV fC : Field) (A : Cell) (r : Option Value) (s u : State) : Prop := Got a D fV fC A 0 A.slots.size r s u
/-- new String(chars), not empty, no char above 255: a Latin-1 String of their low bytes -/
theorem law (l : Launch) (a : Addr) (D : Cell) (fV fC : Field) (b : Addr) (A : Cell) (z : Int32) : Law l yN 2 1 3 52 yB 2 none site (P a D fV fC b A z) (E a D fV fC A) [⟨a, fC.slot⟩, ⟨a, fV.slot⟩] 1 A.slots.size := by
  refine Law.of_walk (plainFor_of_name (by decide +kernel)) (by decide +kernel) (by decide +kernel) (by decide) (fun _ _ h => by rw [h.1]; rfl) (fun _ U U' hal hh h => ⟨h.1, h.2.1.mv hal hh, h.2.2.1.al hal, h.2.2.2.1.al hal, h.2.2.2.2.1.mv hal hh, h.2.2.2.2.2.1.there hal hh, h.2.2.2.2.2.2⟩) (fun r U U' V V' h1 hal h2 h => Got.mv r U U' V V' h1 hal h2 h) ?_
  intro p e s m args below meth c s₁ X0 hexec hbytes hml hret hlk hnm hown hh0 W hP
  obtain ⟨rfl, hB, f1, f2, hA, s1, hz, l0, l2, hp⟩ := hP
  have c1 : Steps p.tables e below (s₁.setTop (entryFrame m #[.ref a, .ref b] 2)) (s₁.setTop (mkF m 0 #[.val (.ref a), .val (.ref b)] [])) := entry rfl
  have c2 : Steps p.tables e below (s₁.setTop (entryFrame m #[.ref a, .ref b] 2)) (s₁.setTop (mkF m 6 #[.val (.ref a), .val (.ref b)] [.null, .int (Int32.ofNat A.slots.size), .int 0, .ref b, .ref a])) := c1.trans (by
    refine XS.aloadN X0.here hexec rfl (hb hbytes d0) rfl rfl ?_
    refine XS.aloadN X0.here hexec rfl (hb hbytes d1) rfl rfl ?_
    refine iconstV X0.here hexec rfl 0 (hb hbytes d2) (by decide) ?_
    refine XS.aloadN X0.here hexec rfl (hb hbytes d3) rfl rfl ?_
    refine X0.alen hexec (hA.1.mv X0.warmed.alike hh0) rfl rfl (hb hbytes d4) ?_
    refine XS.aconstNull X0.here hexec rfl (hb hbytes d5) ?_
    exact Steps.refl _)
  obtain ⟨v3, T3, X3, E3, g3⟩ := X0.callN hexec (New4.law l a D fV fC b A z 0 A.slots.size) rfl hown (wks W (initW "java/lang/String" 27 New4.yN)) (W New4.tab (by simp only [site, List.mem_cons, List.mem_append, true_or, or_true])) (W := 0) (Nat.le_of_ble_eq_true rfl) (Nat.le_of_ble_eq_true rfl) (Nat.le_refl _) (by show 0 + A.slots.size ≤ A.slots.size; omega) (g := (mkF m 6 #[.val (.ref a), .val (.ref b)] [.null, .int (Int32.ofNat A.slots.size), .int (Int32.ofNat 0), .ref b, .ref a])) rfl (by rw [hml]; rfl) c2 (argsL := [.ref b, .int (Int32.ofNat 0), .int (Int32.ofNat A.slots.size), .null]) (rest := []) rfl rfl (by show 2 * 0 + 0 ≤ _; decide) (hb hbytes d6) (⟨rfl, hB.mv X0.warmed.alike hh0, f1.al X0.warmed.alike, f2.al X0.warmed.alike, hA.mv X0.warmed.alike hh0, s1.there X0.warmed.alike hh0, hz, l0, by omega, l2, fun i hi => by rw [Nat.zero_add]; exact hp i hi⟩)
  have e0 := Got.mv _ s₁ s _ _ hh0.symm (Vm.Alike.refl _) rfl E3
  obtain rfl := e0.1
  have c4 : Steps p.tables e below (s₁.setTop (entryFrame m #[.ref a, .ref b] 2)) (T3.setTop (mkF m 9 #[.val (.ref a), .val (.ref b)] [])) := g3
  exact ⟨T3, none, _, _, _, X3, by simp, rfl, by omega, (fun _ => rfl), e0, fun fs hl => c4.trans (X3.returnOut hexec hret (hb hbytes d9) hl)⟩
theorem pays {l : Launch} {R : Room} {p : Program} {e : Env} {below : List Frame} {s : State} {sargs : Array Value} {len W : Nat} (a : Addr) (D : Cell) (fV fC : Field) (b : Addr) (A : Cell) (z : Int32) (htab : tab.before sargs s = true) (hfr : 4 ≤ R.frames) (hlo : W + 65 ≤ R.locals) :
    Back l R p e below s sargs yN len W (fun A₁ a₁ => A₁.cells + 1 ≤ R.cells ∧ A₁.slots + A.slots.size ≤ R.slots ∧ P a D fV fC b A z a₁ A₁.U) (fun A₁ _ v₁ B₁ => E a D fV fC A v₁ A₁.U B₁.U ∧ B₁.locs = A₁.locs ++ [⟨a, fC.slot⟩, ⟨a, fV.slot⟩] ∧ B₁.cells = A₁.cells + 1 ∧ B₁.slots = A₁.slots + A.slots.size) :=
  (law l a D fV fC b A z).pays htab hfr (by omega)
end New1
end StrChars
namespace StrChars.Road
open Jvm Sem ClassFile Op Lib Jvm.Stand Jvm.Free Jvm.Free.XT
open Jvm.Lib.Cold (StaticIs)
abbrev ST : String := "java/lang/String"
/-- every table word that New1's law asks, flat -/
abbrev words : List Jvm.Cond := [.code New1.yN New1.yB 2 none, .initialized ST, .methodLink ST 27 New4.yN, .instanceMethod New4.yN,
  .code New4.yN New4.yB 6 none, .fieldLink ST 38 ST "COMPACT_STRINGS" "Z", .laysFinal ST ST "value" "[B", .fieldLink ST 9 ST "value" "[B", .laysFinal ST ST "coder" "B", .fieldLink ST 15 ST "coder" "B",
  .methodLink ST 1 Lib.objectInit, .instanceMethod Lib.objectInit, .code Lib.objectInit ⟨#[0xb1]⟩ 1 none, .methodLink ST 177 Cmp3.yN, .static Cmp3.yN, .methodLink ST 47 CodL.yN, .static CodL.yN,
  .code Cmp3.yN Cmp3.yB 6 (some (.array .byte)), .initialized U16, .arrayClass .byte, .methodLink U16 115 Cmp5.yN, .static Cmp5.yN, .code Cmp5.yN Cmp5.yB 7 (some .int), .code CodL.yN CodL.yB 2 (some .byte)]
theorem tab_of {a : Array Value} {s : State} (h : ∀ w ∈ words, w.before a s = true) : New1.tab.before a s = true := by
  have h5 : Cmp5.tab.before a s = true := unparts (wk h (.code Cmp5.yN Cmp5.yB 7 (some .int))) (wks h (.initialized Cmp5.yN.cls :: Cmp5.site))
  have hc : CodL.tab.before a s = true := unparts (wk h (.code CodL.yN CodL.yB 2 (some .byte))) (wks h (.initialized CodL.yN.cls :: CodL.site))
  have q5 : ∀ w ∈ Cmp5.tab :: words, w.before a s = true := fun w hw => (List.mem_cons.mp hw).elim (fun e => e ▸ h5) (h w)
  have h3 : Cmp3.tab.before a s = true := unparts (wk q5 (.code Cmp3.yN Cmp3.yB 6 (some (.array .byte)))) (wks q5 (.initialized Cmp3.yN.cls :: Cmp3.site))
  have q3 : ∀ w ∈ Cmp3.tab :: CodL.tab :: words, w.before a s = true := fun w hw => (List.mem_cons.mp hw).elim (fun e => e ▸ h3) fun hw => (List.mem_cons.mp hw).elim (fun e => e ▸ hc) (h w)
  have h4 : New4.tab.before a s = true := unparts (wk q3 (.code New4.yN New4.yB 6 none)) (wks q3 (.initialized New4.yN.cls :: New4.site))
  have q4 : ∀ w ∈ New4.tab :: words, w.before a s = true := fun w hw => (List.mem_cons.mp hw).elim (fun e => e ▸ h4) (h w)
  exact unparts (wk q4 (.code New1.yN New1.yB 2 none)) (wks q4 (.initialized New1.yN.cls :: New1.site))
/-- the words ride from the start Z to the walk's own state -/
theorem moved {Z s : State} {a0 args : Array Value} (hZ : Z.Warmed39 s.vm) (hw : ∀ d ∈ words, d.before a0 Z = true) : ∀ d ∈ words, d.before args s = true := fun d hd => by
  have q := hw d hd
  have t : ∀ d ∈ words, d = .arrayClass .byte ∨ (d.onTables && d.keepsFace) = true := by decide +kernel
  rcases t d hd with rfl | t
  · exact RoadKit.mvA hZ q
  · exact RoadKit.mv hZ q t
/-- WHAT COMES BACK, over the tables of the start Z: h the heap at the call, h' behind it -/
def Q (Z : State) (x : Addr) (A : Cell) (h : Heap) (v : Option Value) (h' : Heap) (L : List Loc) : Prop := v = none ∧ (∀ y ∈ L, y.base = x) ∧ RoadKit.Keep h h' [x] ∧ h'.size = h.size + 1 ∧ RoadKit.Exa Z h' x ST ∧ RoadKit.Fld Z h' x ST "value" "[B" (.ref h.size) ∧ RoadKit.Fld Z h' x ST "coder" "B" (.int 0) ∧
  (∃ V : Cell, RoadKit.Arr Z h' h.size V .byte ∧ V.vm = .none ∧ Z.vm.findClass "[B" = some V.cls ∧ V.slots.size = A.slots.size ∧ ∀ j, j < A.slots.size → V.slots[j]? = some (.int (lo8 (cv A j)))) ∧
  ∀ (O n d : String) (w : Value), RoadKit.Fld Z h x O n d w → RoadKit.slotOf Z O n d ≠ RoadKit.slotOf Z ST "value" "[B" → RoadKit.slotOf Z O n d ≠ RoadKit.slotOf Z ST "coder" "B" → RoadKit.Fld Z h' x O n d w
/-- **new String(chars) AT A CALL, IN THE ROAD'S FORM**: for specialBack behind newO: x the fresh String, b the char[] with the cell A -/
theorem back {p : Program} {l : Launch} {e : Env} {R : Room} {s : State} {args : Array Value} {below : List Frame} {len W : Nat} {Z : State} {a0 : Array Value} {h : Heap} (hZ : Z.Warmed39 s.vm) (hw : ∀ d ∈ words, d.before a0 Z = true) {kI : Nat} (wi : (Jvm.Cond.instantiable ST kI).before a0 Z = true)
    {x b : Addr} {A : Cell} {z : Int32} {v0 c0 : Value} (E : RoadKit.Exa Z h x ST) (V : RoadKit.Fld Z h x ST "value" "[B" v0) (C : RoadKit.Fld Z h x ST "coder" "B" c0) (K : RoadKit.Arr Z h b A .char) (hty : Typed .char A) (S : RoadKit.Sta Z h ST "COMPACT_STRINGS" "Z" (.int z)) (hz : ¬ z = 0)
    (l0 : 0 < A.slots.size) (l2 : A.slots.size ≤ 536870912) (hp : ∀ i, i < A.slots.size → ¬ 255 < cv A i) (hfr : 4 ≤ R.frames) (hlo : W + 65 ≤ R.locals) :
    Back l R p e below s args New1.yN len W (fun P a => a = #[.ref x, .ref b] ∧ P.U.heap = h ∧ P.cells + 1 ≤ R.cells ∧ P.slots + A.slots.size ≤ R.slots)
      (fun P _ v B => ∃ L, Q Z x A h v B.U.heap L ∧ B.locs = P.locs ++ L ∧ B.cells = P.cells + 1 ∧ B.slots = P.slots + A.slots.size) := by
  intro m meth c P g ig mk a X hg hsize hdg hW hn hp'
  obtain ⟨rfl, rfl, r1, r2⟩ := hp'
  have al : Z.vm.Alike P.U.vm := hZ.alike.trans X.warmed.alike
  obtain ⟨D, cfV, kV, iV, fV, hD, gV, stV, knV, obV, asV, slV⟩ := id V
  obtain ⟨D', cfC, kC, iC, fC, hD', gC, stC, -, -, asC, slC⟩ := id C
  cases hD.symm.trans hD'
  obtain ⟨D2, kD, e1, e2, e3, e4, e5⟩ := id E
  cases hD.symm.trans e1
  obtain ⟨c2, k2, i1, i2, i3, -⟩ := Cond.instantiable_spec wi
  cases e2.symm.trans i1
  cases e3.symm.trans i2
  obtain ⟨kU, u1, u2⟩ := al.2.2 _ _ e3
  have hB : Blank ST x D P.U := ⟨hD, ⟨knV, fun q hq => by rw [hq] at obV; cases obV⟩, by rw [al.findClass]; exact e2, kU, u1, by rw [u2]; exact i3, by rw [u2]; exact e5 i3⟩
  have F1 : Found ST "value" "[B" fV P.U := ⟨SBG.found_only al ⟨cfV, kV, iV, gV⟩, stV⟩
  have F2 : Found ST "coder" "B" fC P.U := ⟨SBG.found_only al ⟨cfC, kC, iC, gC⟩, stC⟩
  have hA : Ch b A P.U := ⟨⟨K.1, State.isArrayOf_alike al K.2.1, K.2.2, by omega⟩, hty⟩
  have hS : StaticIs P.U ST "COMPACT_STRINGS" "Z" (.int z) := by
    obtain ⟨cfS, iS, kS, fS, st, cS, t1, t2, t3, t4, t5, t6, t7⟩ := S
    exact StaticIs.there (s := { Z with heap := P.U.heap }) ⟨cfS, iS, kS, fS, st, cS, t1, t2, t3, t4, t5, (fun q => by rw [q] at t6; cases t6), t7⟩ al rfl
  obtain ⟨v, B, X', ⟨⟨hv, E', V', q1, q2, q3, q4, q5, q6, q7, q8, q9, q10, q11⟩, hl, hc, hs⟩, st⟩ := New1.pays x D fV fC b A z (tab_of (moved hZ hw)) hfr hlo m meth c P g ig mk _ X hg hsize hdg hW hn ⟨r1, r2, rfl, hB, F1, F2, hA, hS, hz, l0, l2, hp⟩
  have al' : Z.vm.Alike B.U.vm := hZ.alike.trans X'.warmed.alike
  have hsz : E'.slots.size = D.slots.size := by
    obtain ⟨-, -, -, kB, w1, w2, w3⟩ := q1
    obtain ⟨kB', y1, y2⟩ := al'.2.2 _ _ e3
    rw [q2.2.1] at w1
    cases w1.symm.trans y1
    rw [w3, e5 i3, y2]
  refine ⟨v, B, X', ⟨_, ⟨hv, ?_, ⟨by omega, fun y cy hy hn' => q10 y cy (by simpa using hn') hy, fun y cy hy => ?_⟩, q11, ⟨E', _, q1.1, by rw [q2.2.1]; exact e2, by rw [q2.2.1]; exact e3, by rw [q2.1]; exact obV, fun _ => by rw [hsz]; exact e5 i3⟩,
    ⟨E', cfV, kV, iV, fV, q1.1, gV, stV, by rw [q2.1]; exact knV, by rw [q2.1]; exact obV, by rw [q2.2.1]; exact asV, q3⟩, ⟨E', cfC, kC, iC, fC, q1.1, gC, stC, by rw [q2.1]; exact knV, by rw [q2.1]; exact obV, by rw [q2.2.1]; exact asC, q4⟩,
    ⟨V', ⟨q5.1, State.isArrayOf_alike al'.symm q5.2.1, q5.2.2.1⟩, q6, by rw [← al'.findClass]; exact q7, q8, fun j hj => by have := q9 j hj; rwa [Nat.zero_add] at this⟩, fun O n d w F n1 n2 => ?_⟩, hl, hc, hs⟩, st⟩
  · intro y hy
    simp only [List.mem_cons, List.not_mem_nil, or_false] at hy
    rcases hy with rfl | rfl <;> rfl
  · by_cases q : y = x
    · subst q
      cases hD.symm.trans hy
      exact ⟨E', q1.1, q2.2.1, q2.1, hsz⟩
    · exact ⟨cy, q10 y cy q hy, rfl, rfl, rfl⟩
  · obtain ⟨D3, cf, k, i, f, g1, g2, g3, g4, g5, g6, g7⟩ := F
    cases hD.symm.trans g1
    simp only [RoadKit.slotOf, g2, gV, gC, Option.map_some, Option.getD_some] at n1 n2
    exact ⟨E', cf, k, i, f, q1.1, g2, g3, by rw [q2.1]; exact g4, by rw [q2.1]; exact g5, by rw [q2.2.1]; exact g6, by rw [q2.2.2 f.slot (by simp [n1, n2])]; exact g7⟩
end StrChars.Road
namespace StrChars.Road
open Jvm Sem ClassFile Op Lib Jvm.Stand Jvm.Free Jvm.Free.XT
/-- WHAT COMES BACK, the byte[] as a list of values -/
def QA (Z : State) (x : Addr) (zn : Int32) (cs : List Int32) (h : Heap) (v : Option Value) (h' : Heap) (L : List Loc) : Prop := v = none ∧ (∀ y ∈ L, y.base = x) ∧ RoadKit.Keep h h' [x] ∧ h'.size = h.size + 1 ∧ RoadKit.Exa Z h' x ST ∧ RoadKit.Fld Z h' x ST "value" "[B" (.ref h.size) ∧ RoadKit.Fld Z h' x ST "coder" "B" (.int 0) ∧
  (∃ kb, Z.vm.findClass "[B" = some kb ∧ RoadKit.Arv Z h' h.size kb .byte zn (cs.map fun c => .int (lo8 c)) (.int 0)) ∧
  ∀ (O n d : String) (w : Value), RoadKit.Fld Z h x O n d w → RoadKit.slotOf Z O n d ≠ RoadKit.slotOf Z ST "value" "[B" → RoadKit.slotOf Z O n d ≠ RoadKit.slotOf Z ST "coder" "B" → RoadKit.Fld Z h' x O n d w
/-- **new String(chars) AT A CALL, THE ARRAYS AS LISTS**: the char[] at b holds cs, not empty, no char above 255 -/
theorem backArv {p : Program} {l : Launch} {e : Env} {R : Room} {s : State} {args : Array Value} {below : List Frame} {len W : Nat} {Z : State} {a0 : Array Value} {h : Heap} (hZ : Z.Warmed39 s.vm) (hw : ∀ d ∈ words, d.before a0 Z = true) {kI : Nat} (wi : (Jvm.Cond.instantiable ST kI).before a0 Z = true)
    {x b : Addr} {k : ClassId} {zn z : Int32} {cs : List Int32} {dv v0 c0 : Value} (E : RoadKit.Exa Z h x ST) (V : RoadKit.Fld Z h x ST "value" "[B" v0) (C : RoadKit.Fld Z h x ST "coder" "B" c0) (K : RoadKit.Arv Z h b k .char zn (cs.map Value.int) dv) (S : RoadKit.Sta Z h ST "COMPACT_STRINGS" "Z" (.int z)) (hz : ¬ z = 0)
    (hlen : zn.toNatClampNeg = cs.length) (h0 : 0 < cs.length) (hbig : cs.length ≤ 536870912) (hall : ∀ c ∈ cs, ¬ 255 < c) (hfr : 4 ≤ R.frames) (hlo : W + 65 ≤ R.locals) :
    Back l R p e below s args New1.yN len W (fun P a => a = #[.ref x, .ref b] ∧ P.U.heap = h ∧ P.cells + 1 ≤ R.cells ∧ P.slots + cs.length ≤ R.slots)
      (fun P _ v B => ∃ L, QA Z x zn cs h v B.U.heap L ∧ B.locs = P.locs ++ L ∧ B.cells = P.cells + 1 ∧ B.slots = P.slots + cs.length) := by
  obtain ⟨A, K1, K2, K3, K4, K5, K6⟩ := K
  have e : A.slots.size = cs.length := K3.trans hlen
  have hat : ∀ (i : Nat) (hi : i < cs.length), A.slots[i]? = some (.int cs[i]) := fun i hi => by rw [K5 i (by omega)]; simp [List.getD_eq_getElem?_getD, hi]
  have hcv : ∀ (i : Nat) (hi : i < cs.length), cv A i = cs[i] := fun i hi => by unfold cv; rw [hat i hi]
  have hty : Typed .char A := fun i v hv => by
    have hi : i < A.slots.size := (Array.getElem?_eq_some_iff.mp hv).1
    have q := K5 i hi
    rw [hv] at q
    rw [Option.some.inj q]
    exact K6 i hi
  refine Back.mono (back hZ hw wi E V C K1 hty S hz (by omega) (by omega) (fun i hi => by rw [hcv i (by omega)]; exact hall _ (List.getElem_mem _)) hfr hlo) (fun P a hp => ⟨hp.1, hp.2.1, hp.2.2.1, by rw [e]; exact hp.2.2.2⟩) (fun P a v B hp hq => ?_)
  obtain ⟨L, ⟨q1, q2, q3, q4, q5, q6, q7, ⟨V', v1, v2, v3, v4, v5⟩, q9⟩, hl, hc, hs⟩ := hq
  refine ⟨L, ⟨q1, q2, q3, q4, q5, q6, q7, ⟨V'.cls, v3, V', v1, rfl, by rw [v4, e, hlen], K4, fun i hi => ?_, fun i hi => ?_⟩, q9⟩, hl, hc, by rw [hs, e]⟩
  · have hi' : i < cs.length := by omega
    rw [v5 i (by omega), hcv i hi']; simp [List.getD_eq_getElem?_getD, hi']
  · have hi' : i < cs.length := by omega
    simp only [List.getD_eq_getElem?_getD, List.getElem?_map, List.getElem?_eq_getElem hi', Option.map_some, Option.getD_some]
    exact fits_lo8 _
end StrChars.Road
namespace StrChars.Road
open Jvm Sem ClassFile Op Lib Jvm.Stand Jvm.Free Jvm.Free.XT
/-- WHAT COMES BACK, in the writer's own shape -/
def QV (Z : State) (x : Addr) (N : Int32) (bs : List Int32) (h : Heap) (n0 : Nat) (v : Option Value) (h' : Heap) (L : List Loc) : Prop := v = none ∧ RoadKit.Fr n0 L ∧ RoadKit.Keep h h' [x] ∧ RoadKit.Exa Z h' x ST ∧ RoadKit.Fld Z h' x ST "coder" "B" (.int 0) ∧
  ∃ (t : Addr) (kb : ClassId), n0 ≤ t ∧ h.size ≤ t ∧ ¬ t = x ∧ RoadKit.Fld Z h' x ST "value" "[B" (.ref t) ∧ RoadKit.Arv Z h' t kb .byte N (bs.map Value.int) (.int 0)
/-- **new String(chars) AT A CALL, FOR THE WRITER**: a char[] of n known ints, each 0 to 255 -/
theorem backV {p : Program} {l : Launch} {e : Env} {R : Room} {s : State} {args : Array Value} {below : List Frame} {len W : Nat} {Z : State} {a0 : Array Value} {h : Heap} (hZ : Z.Warmed39 s.vm) (hw : ∀ d ∈ words, d.before a0 Z = true) {kI : Nat} (wi : (Jvm.Cond.instantiable ST kI).before a0 Z = true)
    {x b : Addr} {kC : ClassId} {cs bs : List Int32} {d v0 c0 : Value} {z N : Int32} {n n0 : Nat} (hx0 : n0 ≤ x) (hh0 : n0 ≤ h.size) (E : RoadKit.Exa Z h x ST) (V : RoadKit.Fld Z h x ST "value" "[B" v0) (C : RoadKit.Fld Z h x ST "coder" "B" c0) (K : RoadKit.Arv Z h b kC .char N (cs.map Value.int) d) (S : RoadKit.Sta Z h ST "COMPACT_STRINGS" "Z" (.int z)) (hz : ¬ z = 0)
    (hn : cs.length = n) (hN : N = Int32.ofNat n) (l0 : 0 < n) (l2 : n ≤ 4000) (hp : ∀ c ∈ cs, ¬ c < 0 ∧ ¬ (255 : Int32) < c) (hb : bs = cs.map (fun c => c.toInt8.toInt32)) (hfr : 4 ≤ R.frames) (hlo : W + 65 ≤ R.locals) :
    Back l R p e below s args (⟨"java/lang/String", "<init>", "([C)V"⟩ : MethodName) len W (fun P a => a = #[.ref x, .ref b] ∧ P.U.heap = h ∧ P.cells + 1 ≤ R.cells ∧ P.slots + n ≤ R.slots)
      (fun P _ v B => ∃ L, QV Z x N bs h n0 v B.U.heap L ∧ B.locs = P.locs ++ L ∧ B.cells = P.cells + 1 ∧ B.slots = P.slots + n) := by
  subst hn hN hb
  refine Back.mono (backArv hZ hw wi E V C K S hz (n32 (by omega)) l0 (by omega) (fun c hc => (hp c hc).2) hfr hlo) (fun P a hp => hp) (fun P a v B hp hq => ?_)
  obtain ⟨L, ⟨q1, q2, q3, q4, q5, q6, q7, ⟨kb, v1, v2⟩, q9⟩, hl, hc, hs⟩ := hq
  exact ⟨L, ⟨q1, fun y hy => by rw [q2 y hy]; exact hx0, q3, q5, q7, h.size, kb, hh0, Nat.le_refl _, Nat.ne_of_gt E.lt, q6, by rw [List.map_map]; exact v2⟩, hl, hc, hs⟩
end StrChars.Road
end Jvm.Pilot.@@N@@

namespace Jvm.Pilot.@@N@@
open Jvm Jvm.ClassFile Sem Op Lib Jvm.Free Jvm.Stand Jvm.LawKit Jvm.RoadKit Bundle Jvm.Pilot.@@N@@.Jvm.D
def own_irem (x y : Int32) : Int32 := x - (x / y) * y
theorem own_irem_mod (x y : Int32) : own_irem x y = x % y := by
  unfold own_irem
  apply Int32.toInt_inj.mp
  have h1 := Int32.le_toInt (x % y)
  have h2 := Int32.toInt_lt (x % y)
  rw [Int32.toInt_sub, Int32.toInt_mul, Int32.toInt_div, Int.bmod_mul_bmod, Int.sub_bmod_bmod, Int.mul_comm (x.toInt.tdiv y.toInt), ← Int.tmod_def, ← Int32.toInt_mod]
  exact Int.bmod_eq_of_le_mul_two (by omega) (by omega)
theorem own_fld_eq {args : Array Value} {s : State} {t : Term} {C n d : String} {w : Addr} {k : Int32} (ht : t.eval args s none [] s = some (.ref w)) (h : (Jvm.Cond.eq (Term.field t C n d) (Term.int k)).value args s none s [] = some true) : Fld s s.heap w C n d (.int k) := by
  obtain ⟨x, y, ha, hb, -, -⟩ := cmp_v (Or.inl h)
  have hy : y = .int k := (Option.some.inj ((Term.int_eval k).symm.trans hb)).symm
  subst hy
  have hx : x = .int k := by
    cases x <;> simp [Cond.value, ha, hb] at h ⊢
    exact h
  subst hx
  exact Fld.start (by rw [← fld_at ht]; exact ha)
theorem own_fld_ref {args : Array Value} {s : State} {t u : Term} {C n d : String} {w : Addr} {k : Addr} (ht : t.eval args s none [] s = some (.ref w)) (hu : u.eval args s none [] s = some (.ref k)) (h : (Jvm.Cond.eq (Term.field t C n d) u).value args s none s [] = some true) : Fld s s.heap w C n d (.ref k) := by
  obtain ⟨x, y, ha, hb, -, -⟩ := cmp_v (Or.inl h)
  cases hu.symm.trans hb
  have hx : x = .ref k := by
    cases x <;> simp [Cond.value, ha, hb] at h ⊢
    exact h
  subst hx
  exact Fld.start (by rw [← fld_at ht]; exact ha)
theorem own_sel_priv {s : State} {args : Array Value} {y z : MethodName} (hsel : (Jvm.Cond.selects z.cls z z).before args s = true) (hz : z.cls = y.cls) (hpriv : (Jvm.Cond.privateMethod y).before args s = true) (hinst : (Jvm.Cond.instanceMethod y).before args s = true) (hy : y.cls ≠ "java/lang/invoke/MethodHandle" ∧ y.cls ≠ "java/lang/invoke/VarHandle") : (Jvm.Cond.selects y.cls y y).before args s = true := by
  obtain ⟨c, r, m, h1, h2, h3, h4, mk, h5, h6⟩ := Cond.selects_spec hsel
  have hc := findClass_of_methodNamed h3
  rw [hz] at hc
  exact selects_self_of_private hc h5 h6 (Cond.privateMethod_at hpriv) hinst hy
theorem own_nm_int : "[" ++ (newarray.typeOf .int).toString = "[I" := by decide
theorem own_nm_long : "[" ++ (newarray.typeOf .long).toString = "[J" := by decide
theorem own_nm_char : "[" ++ (newarray.typeOf .char).toString = "[C" := by decide
theorem own_nm_boolean : "[" ++ (newarray.typeOf .boolean).toString = "[Z" := by decide
theorem own_ns_exa {Z : State} {h : Heap} {a : Addr} {C : String} (E : Exa Z h a C) : ∀ c : Cell, h[a]? = some c → c.vm.isStatics = false := fun c hc => by
  obtain ⟨cell, k, h1, -, -, h4, -⟩ := E
  cases h1.symm.trans hc
  exact h4
theorem own_ns_arr {Z : State} {h : Heap} {a : Addr} {cl : Cell} {ty : FieldType} (A : Arr Z h a cl ty) : ∀ c : Cell, h[a]? = some c → c.vm.isStatics = false := fun c hc => by
  cases A.1.symm.trans hc
  exact A.plain
theorem own_arr_keep {Z : State} {h h' : Heap} {a : Addr} {cl : Cell} {ty : FieldType} {ws : List Addr} (A : Arr Z h a cl ty) (K : Keep h h' ws) (q : a ∉ ws) : Arr Z h' a cl ty := ⟨K.2.1 a cl A.1 q, A.2⟩
theorem own_ns_arv {Z : State} {h : Heap} {a : Addr} {k : ClassId} {ty : FieldType} {z : Int32} {vs : List Value} {dv : Value} (F : Arv Z h a k ty z vs dv) : ∀ c : Cell, h[a]? = some c → c.vm.isStatics = false := by
  obtain ⟨c, A, -⟩ := F
  exact own_ns_arr A
theorem own_sta_keep {Z : State} {h h' : Heap} {C n d : String} {v : Value} {ws : List Addr} (F : Sta Z h C n d v) (K : Keep h h' ws) (q : ∀ x ∈ ws, ∀ c : Cell, h[x]? = some c → c.vm.isStatics = false) : Sta Z h' C n d v := by
  obtain ⟨cf, i, k, f, st, cell, h1, h2, h3, h4, h5, h6, h7⟩ := F
  exact ⟨cf, i, k, f, st, cell, h1, h2, h3, h4, K.2.1 st cell h5 (fun hm => by rw [q st hm cell h5] at h6; cases h6), h6, h7⟩
theorem own_len {args : Array Value} {s : State} {t : Term} {a : Addr} {cl : Cell} {n : Int32} (ht : t.eval args s none [] s = some (.ref a)) (hc : s.heap[a]? = some cl) (h : (Jvm.Cond.eq (Term.length t) (Term.int n)).value args s none s [] = some true) : cl.slots.size < 2 ^ 31 ∧ cl.slots.size.toInt32 = n := by
  obtain ⟨x, y, ha, hb, -, -⟩ := cmp_v (Or.inl h)
  have hy : y = .int n := (Option.some.inj ((Term.int_eval n).symm.trans hb)).symm
  subst hy
  have hx : x = .int n := by
    cases x <;> simp [Cond.value, ha, hb] at h ⊢
    exact h
  subst hx
  simp only [Term.eval, ht, Option.bind_eq_bind, Option.bind_some] at ha
  cases hq : s.arrayAt? a with
  | none => simp [hq] at ha
  | some c2 =>
    cases (State.arrayAt?_spec hq).1.symm.trans hc
    simp only [hq, Option.bind_some] at ha
    split at ha
    · rename_i hlt
      exact ⟨hlt, Value.int.inj (Option.some.inj ha)⟩
    · cases ha
theorem own_elem {args : Array Value} {s : State} {t u : Term} {a k : Addr} {cl : Cell} {j : Int32} (ht : t.eval args s none [] s = some (.ref a)) (hu : u.eval args s none [] s = some (.ref k)) (hc : s.heap[a]? = some cl) (h : (Jvm.Cond.eq (Term.elem t (Term.int j)) u).value args s none s [] = some true) : cl.slots[j.toNatClampNeg]? = some (.ref k) := by
  obtain ⟨x, y, ha, hb, -, -⟩ := cmp_v (Or.inl h)
  cases hu.symm.trans hb
  have hx : x = .ref k := by
    cases x <;> simp [Cond.value, ha, hb] at h ⊢
    exact h
  subst hx
  exact (elem_in ha ht (Term.int_eval j) hc).2
theorem own_lat (x : Int32) : ¬ (nar .char ((x &&& (255 : Int32)).toUInt32.toUInt16.toUInt32.toInt32)) < 0 ∧ ¬ (255 : Int32) < (nar .char ((x &&& (255 : Int32)).toUInt32.toUInt16.toUInt32.toInt32)) := by
  rw [show nar .char ((x &&& (255 : Int32)).toUInt32.toUInt16.toUInt32.toInt32) = x &&& 255 from by simp only [nar, i2c_mask]]
  have q := c_mask x 255 8 (by decide) (by decide)
  rw [Int32.lt_iff_toInt_lt, Int32.lt_iff_toInt_lt, q, show (0 : Int32).toInt = 0 from rfl, show (255 : Int32).toInt = 255 from rfl]
  omega
theorem own_gt {x y : Int32} (h1 : (0 : Int32) < x) (h2 : ¬ (0 : Int32) < y) : y < x := by
  rw [Int32.lt_iff_toInt_lt] at *
  omega
theorem own_ne0 {args : Array Value} {s : State} {t : Term} {z : Int32} (ht : t.eval args s none [] s = some (.int z)) (h : (Jvm.Cond.not (Jvm.Cond.eq t (Term.int (0 : Int32)))).value args s none s [] = some true) : ¬ z = (0 : Int32) := fun e => by
  have q := not_v h
  rw [eq_i ht (Term.int_eval (0 : Int32)) (by rw [e])] at q
  cases q
theorem d7_0 : decode prog_11_method_1_code 0 = .ok (.aload_n 0, 1) := by decide +kernel
theorem d7_1 : decode prog_11_method_1_code 1 = .ok (.invokespecial 1, 3) := by decide +kernel
theorem d7_4 : decode prog_11_method_1_code 4 = .ok (.aload_n 1, 1) := by decide +kernel
theorem d7_5 : decode prog_11_method_1_code 5 = .ok (.ldc 7, 2) := by decide +kernel
theorem d7_7 : decode prog_11_method_1_code 7 = .ok (.invokestatic 9, 3) := by decide +kernel
theorem d7_10 : decode prog_11_method_1_code 10 = .ok (.pop, 1) := by decide +kernel
theorem d7_11 : decode prog_11_method_1_code 11 = .ok (.aload_n 2, 1) := by decide +kernel
theorem d7_12 : decode prog_11_method_1_code 12 = .ok (.ldc 15, 2) := by decide +kernel
theorem d7_14 : decode prog_11_method_1_code 14 = .ok (.invokestatic 9, 3) := by decide +kernel
theorem d7_17 : decode prog_11_method_1_code 17 = .ok (.pop, 1) := by decide +kernel
theorem d7_18 : decode prog_11_method_1_code 18 = .ok (.aload_n 0, 1) := by decide +kernel
theorem d7_19 : decode prog_11_method_1_code 19 = .ok (.aload_n 1, 1) := by decide +kernel
theorem d7_20 : decode prog_11_method_1_code 20 = .ok (.putfield 17, 3) := by decide +kernel
theorem d7_23 : decode prog_11_method_1_code 23 = .ok (.aload_n 0, 1) := by decide +kernel
theorem d7_24 : decode prog_11_method_1_code 24 = .ok (.aload_n 2, 1) := by decide +kernel
theorem d7_25 : decode prog_11_method_1_code 25 = .ok (.putfield 22, 3) := by decide +kernel
theorem d7_28 : decode prog_11_method_1_code 28 = .ok (.aload_n 0, 1) := by decide +kernel
theorem d7_29 : decode prog_11_method_1_code 29 = .ok (.iload_n 3, 1) := by decide +kernel
theorem d7_30 : decode prog_11_method_1_code 30 = .ok (.putfield 24, 3) := by decide +kernel
theorem d7_33 : decode prog_11_method_1_code 33 = .ok (.return_, 1) := by decide +kernel
theorem d8_0 : decode jdk_30_method_1_code 0 = .ok (.aload_n 0, 1) := by decide +kernel
theorem d8_1 : decode jdk_30_method_1_code 1 = .ok (.invokespecial 1, 3) := by decide +kernel
theorem d8_4 : decode jdk_30_method_1_code 4 = .ok (.return_, 1) := by decide +kernel
theorem d9_0 : decode jdk_31_method_11_code 0 = .ok (.aload_n 0, 1) := by decide +kernel
theorem d9_1 : decode jdk_31_method_11_code 1 = .ok (.ifnonnull 12, 3) := by decide +kernel
theorem d9_13 : decode jdk_31_method_11_code 13 = .ok (.aload_n 0, 1) := by decide +kernel
theorem d9_14 : decode jdk_31_method_11_code 14 = .ok (.areturn, 1) := by decide +kernel
theorem d10_0 : decode prog_11_method_3_code 0 = .ok (.aload_n 0, 1) := by decide +kernel
theorem d10_1 : decode prog_11_method_3_code 1 = .ok (.getfield 24, 3) := by decide +kernel
theorem d10_4 : decode prog_11_method_3_code 4 = .ok (.ifCond .le 7, 3) := by decide +kernel
theorem d10_7 : decode prog_11_method_3_code 7 = .ok (.iconst 1, 1) := by decide +kernel
theorem d10_8 : decode prog_11_method_3_code 8 = .ok (.goto 4, 3) := by decide +kernel
theorem d10_11 : decode prog_11_method_3_code 11 = .ok (.iconst 0, 1) := by decide +kernel
theorem d10_12 : decode prog_11_method_3_code 12 = .ok (.ireturn, 1) := by decide +kernel
theorem pn_0 : plainName "java/lang/Record" = true := by first | (simp [plainName, overriddenIn]; done) | decide +kernel
theorem pn_1 : plainName "java/util/Objects" = true := by first | (simp [plainName, overriddenIn]; done) | decide +kernel
theorem pn_2 : plainName "com/example/arc3/arc3/Judgment" = true := by first | (simp [plainName, overriddenIn]; done) | decide +kernel
theorem pn_3 : plainName "com/example/arc3/arc3/JudgmentIsRelevantPinLaw" = true := by first | (simp [plainName, overriddenIn]; done) | decide +kernel
theorem pd_0 : parseMethodDescriptor "()V" = some ⟨[], none⟩ := by decide +kernel
theorem pd_1 : parseMethodDescriptor "(Ljava/lang/Object;Ljava/lang/String;)Ljava/lang/Object;" = some ⟨[(.object "java/lang/Object"), (.object "java/lang/String")], some (.object "java/lang/Object")⟩ := by decide +kernel
theorem pd_2 : parseMethodDescriptor "([C)V" = some ⟨[(.array .char)], none⟩ := by decide +kernel
theorem pd_3 : parseMethodDescriptor "(Ljava/lang/String;Ljava/lang/String;I)V" = some ⟨[(.object "java/lang/String"), (.object "java/lang/String"), .int], none⟩ := by decide +kernel
theorem pd_4 : parseMethodDescriptor "()Z" = some ⟨[], some .boolean⟩ := by decide +kernel
theorem ef_rec (m : MethodId) (x0 : Addr) : entryFrame m #[(.ref x0)] 1 = mkF m 0 #[.val (.ref x0)] [] := by first | (simp [entryFrame, mkF, argsToLocals, Value.category]; done) | rfl
def Q_rec (Z : State) (a : Addr) (h0 : Heap) (n0 : Nat) (v : Option Value) (h : Heap) (L : List Loc) : Prop := v = none ∧ Fr n0 L ∧ h = h0
set_option maxRecDepth 65536 in
set_option maxHeartbeats 40000000 in
theorem rm_rec (l : Launch) (Z : State) (a0 : Array Value) (hw : ∀ d ∈ tables_1, d.before a0 Z = true) (ws : List Jvm.Cond) (a : Addr) (h0 : Heap) (n0 : Nat) (Z0 : n0 ≤ h0.size) :
    MetFree l (⟨"java/lang/Record", "<init>", "()V"⟩ : MethodName) (head1 (Jvm.Cond.code (⟨"java/lang/Record", "<init>", "()V"⟩ : MethodName) jdk_30_method_1_code 1 none :: ws) ({ frames := 1, cells := 0, slots := 0, locals := 12 } : Room)) (fun as_ U_ => as_ = #[(.ref a)] ∧ Z.Warmed39 U_.vm ∧ U_.heap = h0) (fun _ _ _ _ _ => True) (fun _ U o U' => ∃ v L, o = .returned v ∧ Q_rec Z a h0 n0 v U'.heap L ∧ FrameEnd U o U' L ({ frames := 1, cells := 0, slots := 0, locals := 12 } : Room).cells ({ frames := 1, cells := 0, slots := 0, locals := 12 } : Room).slots) := by
  refine MetFree.of_bodySF (plainFor_of_name pn_0) hisR ?_
  intro p e s m args below meth c s₁ Bd hml0 hP hK
  obtain ⟨rfl, hZ, hh⟩ := hP
  have hx := Bd.exec
  have hby := Bd.bytes
  have hml : c.maxLocals = 1 := hml0
  have hown : s.vm.findClass "java/lang/Record" = some m.cls := findClass_of_methodNamed Bd.named
  have hnm := (name_of_methodNamed Bd.named Bd.method).1
  have X0 : Stand p l e ({ frames := 1, cells := 0, slots := 0, locals := 12 } : Room) s m #[(.ref a)] below meth c s₁ [] 0 0 := Stand.of_body Bd
  have e0 : s₁.heap = h0 := by rw [← hh, Bd.state]; rfl
  have N0 := Fr.nil n0
  have pre0 : ∀ t, Steps p.tables e below (s₁.setTop (mkF m 0 #[.val (.ref a)] [])) t → Steps p.tables e below (s₁.setTop (entryFrame m #[(.ref a)] 1)) t := fun t k => castTop (ef_rec m a) k
  obtain ⟨T1, X1, e1, st1⟩ := initO X0 hx hZ hown (hw _ (List.mem_of_getElem? (i := 41) rfl)) (hw _ (List.mem_of_getElem? (i := 12) rfl)) (hw _ (List.mem_of_getElem? (i := 13) rfl)) e0 (g := (mkF m 1 #[.val (.ref a)] [(.ref a)])) rfl (by rw [hml]; rfl) rfl (hb hby d8_1) (by decide) (W := 0) (by show 2 * 0 + _ ≤ _; exact Nat.le_of_eq rfl) (by decide)
  have pre2 := fun (t : State) (k : Steps p.tables e below (T1.setTop (mkF m 4 #[.val (.ref a)] [])) t) => pre0 t (by
    refine XS.aloadN X0.here hx rfl (hb hby d8_0) rfl rfl ?_
    show Steps p.tables e below (s₁.setTop (mkF m 1 #[.val (.ref a)] [(.ref a)])) _
    refine st1 _ ?_
    show Steps p.tables e below (T1.setTop (mkF m 4 #[.val (.ref a)] [])) _
    exact k)
  obtain ⟨fs, hr, hrun, hended, hW, hsame⟩ := X1.leave (v := none) (hlocks := BodyLoose.notSynchronized Bd) (fun _ => rfl)
  refine ⟨_, _, pre2 _ ?_, hrun, hended, _, _, rfl, ?_, ⟨_, rfl⟩, hW, hsame.mono (by decide) (by decide)⟩
  · exact X1.returnOut hx Bd.returns (hb hby d8_4) hr
  · show Q_rec Z a h0 n0 _ T1.heap _
    rw [e1]
    exact ⟨rfl, N0, rfl⟩

theorem ef_rnn (m : MethodId) (x0 : Addr) (x1 : Addr) : entryFrame m #[(.ref x0), (.ref x1)] 2 = mkF m 0 #[.val (.ref x0), .val (.ref x1)] [] := by first | (simp [entryFrame, mkF, argsToLocals, Value.category]; done) | rfl
def Q_rnn (Z : State) (oo : Addr) (mm : Addr) (h0 : Heap) (n0 : Nat) (v : Option Value) (h : Heap) (L : List Loc) : Prop := v = some (.ref oo) ∧ Fr n0 L ∧ h = h0
set_option maxRecDepth 65536 in
set_option maxHeartbeats 40000000 in
theorem rm_rnn (l : Launch) (Z : State) (a0 : Array Value) (hw : ∀ d ∈ tables_1, d.before a0 Z = true) (ws : List Jvm.Cond) (oo : Addr) (mm : Addr) (h0 : Heap) (n0 : Nat) (Z0 : n0 ≤ h0.size) :
    MetFree l (⟨"java/util/Objects", "requireNonNull", "(Ljava/lang/Object;Ljava/lang/String;)Ljava/lang/Object;"⟩ : MethodName) (head1 (Jvm.Cond.code (⟨"java/util/Objects", "requireNonNull", "(Ljava/lang/Object;Ljava/lang/String;)Ljava/lang/Object;"⟩ : MethodName) jdk_31_method_11_code 2 (some (.object "java/lang/Object")) :: ws) ({ frames := 0, cells := 0, slots := 0, locals := 0 } : Room)) (fun as_ U_ => as_ = #[(.ref oo), (.ref mm)] ∧ Z.Warmed39 U_.vm ∧ U_.heap = h0) (fun _ _ _ _ _ => True) (fun _ U o U' => ∃ v L, o = .returned v ∧ Q_rnn Z oo mm h0 n0 v U'.heap L ∧ FrameEnd U o U' L ({ frames := 0, cells := 0, slots := 0, locals := 0 } : Room).cells ({ frames := 0, cells := 0, slots := 0, locals := 0 } : Room).slots) := by
  refine MetFree.of_bodySF (plainFor_of_name pn_1) hisR ?_
  intro p e s m args below meth c s₁ Bd hml0 hP hK
  obtain ⟨rfl, hZ, hh⟩ := hP
  have hx := Bd.exec
  have hby := Bd.bytes
  have hml : c.maxLocals = 2 := hml0
  have hown : s.vm.findClass "java/util/Objects" = some m.cls := findClass_of_methodNamed Bd.named
  have hnm := (name_of_methodNamed Bd.named Bd.method).1
  have X0 : Stand p l e ({ frames := 0, cells := 0, slots := 0, locals := 0 } : Room) s m #[(.ref oo), (.ref mm)] below meth c s₁ [] 0 0 := Stand.of_body Bd
  have e0 : s₁.heap = h0 := by rw [← hh, Bd.state]; rfl
  have N0 := Fr.nil n0
  have pre0 : ∀ t, Steps p.tables e below (s₁.setTop (mkF m 0 #[.val (.ref oo), .val (.ref mm)] [])) t → Steps p.tables e below (s₁.setTop (entryFrame m #[(.ref oo), (.ref mm)] 2)) t := fun t k => castTop (ef_rnn m oo mm) k
  have pre1 := fun (t : State) (k : Steps p.tables e below (s₁.setTop (mkF m 14 #[.val (.ref oo), .val (.ref mm)] [(.ref oo)])) t) => pre0 t (by
    refine XS.aloadN X0.here hx rfl (hb hby d9_0) rfl rfl ?_
    show Steps p.tables e below (s₁.setTop (mkF m 1 #[.val (.ref oo), .val (.ref mm)] [(.ref oo)])) _
    refine XS.ifnonnullYes X0.here hx rfl (pc0 := 1) (pc' := 13) rfl (hb hby d9_1) rfl (by decide) (by decide) ?_
    show Steps p.tables e below (s₁.setTop (mkF m 13 #[.val (.ref oo), .val (.ref mm)] [])) _
    refine XS.aloadN X0.here hx rfl (hb hby d9_13) rfl rfl ?_
    show Steps p.tables e below (s₁.setTop (mkF m 14 #[.val (.ref oo), .val (.ref mm)] [(.ref oo)])) _
    exact k)
  obtain ⟨fs, hr, hrun, hended, hW, hsame⟩ := X0.leave (v := some (.ref oo)) (hlocks := BodyLoose.notSynchronized Bd) (fun h => by rw [Bd.returns] at h; cases h)
  refine ⟨_, _, pre1 _ ?_, hrun, hended, _, _, rfl, ?_, ⟨_, rfl⟩, hW, hsame.mono (by decide) (by decide)⟩
  · jvm_step X0.here [X0.here.top, hx, (hb hby d9_14), X0.method', Bd.returns, Value.isRef, FieldType.isReference]
    first | (intro acts; rw [hr _ acts rfl rfl rfl]) | rw [hr _ _ rfl rfl rfl]
    exact Steps.refl _
  · show Q_rnn Z oo mm h0 n0 _ s₁.heap _
    rw [e0]
    exact ⟨rfl, N0, rfl⟩

theorem ef_ini (m : MethodId) (x0 : Addr) (x1 : Addr) (x2 : Addr) (x3 : Int32) : entryFrame m #[(.ref x0), (.ref x1), (.ref x2), (.int x3)] 4 = mkF m 0 #[.val (.ref x0), .val (.ref x1), .val (.ref x2), .val (.int x3)] [] := by first | (simp [entryFrame, mkF, argsToLocals, Value.category]; done) | rfl
def Q_ini (Z : State) (a : Addr) (tt : Addr) (dd : Addr) (pp : Int32) (h0 : Heap) (n0 : Nat) (v : Option Value) (h : Heap) (L : List Loc) : Prop := v = none ∧ Fr n0 L ∧ Keep h0 h [a] ∧ Exa Z h a "com/example/arc3/arc3/Judgment" ∧ Fld Z h a "com/example/arc3/arc3/Judgment" "relevance" "I" (.int pp)
set_option maxRecDepth 65536 in
set_option maxHeartbeats 40000000 in
theorem rm_ini (l : Launch) (Z : State) (a0 : Array Value) (hw : ∀ d ∈ tables_1, d.before a0 Z = true) (ws : List Jvm.Cond) (a : Addr) (tt : Addr) (dd : Addr) (pp : Int32) (h0 : Heap) (n0 : Nat) (Z0 : n0 ≤ h0.size) (H0_E : Exa Z h0 a "com/example/arc3/arc3/Judgment") (H1_F : Fld Z h0 a "com/example/arc3/arc3/Judgment" "topic" "Ljava/lang/String;" .null) (H2_F : Fld Z h0 a "com/example/arc3/arc3/Judgment" "docno" "Ljava/lang/String;" .null) (H3_F : Fld Z h0 a "com/example/arc3/arc3/Judgment" "relevance" "I" (.int (0 : Int32))) (ga : n0 ≤ a) :
    MetFree l (⟨"com/example/arc3/arc3/Judgment", "<init>", "(Ljava/lang/String;Ljava/lang/String;I)V"⟩ : MethodName) (head1 (Jvm.Cond.code (⟨"com/example/arc3/arc3/Judgment", "<init>", "(Ljava/lang/String;Ljava/lang/String;I)V"⟩ : MethodName) prog_11_method_1_code 4 none :: ws) ({ frames := 2, cells := 4, slots := 48, locals := 24 } : Room)) (fun as_ U_ => as_ = #[(.ref a), (.ref tt), (.ref dd), (.int pp)] ∧ Z.Warmed39 U_.vm ∧ U_.heap = h0) (fun _ _ _ _ _ => True) (fun _ U o U' => ∃ v L, o = .returned v ∧ Q_ini Z a tt dd pp h0 n0 v U'.heap L ∧ ReturnedEndW U o U' L ({ frames := 2, cells := 4, slots := 48, locals := 24 } : Room).cells ({ frames := 2, cells := 4, slots := 48, locals := 24 } : Room).slots) := by
  refine MetFree.of_bodySF (plainFor_of_name pn_2) hisR ?_
  intro p e s m args below meth c s₁ Bd hml0 hP hK
  obtain ⟨rfl, hZ, hh⟩ := hP
  have hx := Bd.exec
  have hby := Bd.bytes
  have hml : c.maxLocals = 4 := hml0
  have hown : s.vm.findClass "com/example/arc3/arc3/Judgment" = some m.cls := findClass_of_methodNamed Bd.named
  have hnm := (name_of_methodNamed Bd.named Bd.method).1
  have X0 : Stand p l e ({ frames := 2, cells := 4, slots := 48, locals := 24 } : Room) s m #[(.ref a), (.ref tt), (.ref dd), (.int pp)] below meth c s₁ [] 0 0 := Stand.of_body Bd
  have e0 : s₁.heap = h0 := by rw [← hh, Bd.state]; rfl
  have N0 := Fr.nil n0
  have pre0 : ∀ t, Steps p.tables e below (s₁.setTop (mkF m 0 #[.val (.ref a), .val (.ref tt), .val (.ref dd), .val (.int pp)] [])) t → Steps p.tables e below (s₁.setTop (entryFrame m #[(.ref a), (.ref tt), (.ref dd), (.int pp)] 4)) t := fun t k => castTop (ef_ini m a tt dd pp) k
  have XS0 : Stand p l e ({ frames := 2, cells := 4, slots := 48, locals := 24 } : Room) (s.setVm s.vm) m #[(.ref a), (.ref tt), (.ref dd), (.int pp)] below meth c s₁ [] 0 0 := X0
  have hZS0 : Z.Warmed39 (s.setVm s.vm).vm := hZ
  have hownS0 : (s.setVm s.vm).vm.findClass "com/example/arc3/arc3/Judgment" = some m.cls := hown
  have hSS0 : s.Since s.vm h0.size := (State.WarmedH.refl s).since _
  have hkS0 : h0.size ≤ h0.size := Nat.le_refl _
  have K0 : Keep h0 h0 [a] := Keep.refl h0 [a]
  have own_sa : ∀ d ∈ Bundle.stringAtoms, d.before a0 Z = true := fun d hd => hw d ((by decide +kernel : ∀ d ∈ Bundle.stringAtoms, d ∈ tables_1) d hd)
  obtain ⟨_, _, ⟨T1, L1, k1, n1⟩, -, X1, ⟨Lc1, hQ1, l1, y1, z1⟩, st1⟩ := XS0.specialBack hx (y := (⟨"java/lang/Record", "<init>", "()V"⟩ : MethodName)) rfl hownS0 (mvT hZS0 (hw _ (List.mem_of_getElem? (i := 36) rfl))) (mvT hZS0 (hw _ (List.mem_of_getElem? (i := 37) rfl))) (mvT hZS0 (hw _ (List.mem_of_getElem? (i := 40) rfl))) (by decide) (backOf (W := 0) (rm_rec l Z a0 hw [] a h0 n0 Z0 ) hZS0 (hw _ (List.mem_of_getElem? (i := 40) rfl)) (hw _ (List.mem_of_getElem? (i := 39) rfl)) (by decide) (by decide)) (g := (mkF m 1 #[.val (.ref a), .val (.ref tt), .val (.ref dd), .val (.int pp)] [(.ref a)])) rfl (by rw [hml]; rfl) (Steps.refl _) (a := a) (argsL := []) (rest := []) (lenOf pd_0 rfl) rfl (by show 2 * 0 + _ ≤ _; exact Nat.le_of_eq rfl) (hb hby d7_1) (fun _ _ => ⟨rfl, e0, (by decide : 0 + 0 ≤ _), (by decide : 0 + 0 ≤ _)⟩)
  dsimp only [Pt.U, Pt.locs, Pt.cells, Pt.slots] at X1 l1 y1 z1 st1 hQ1
  subst l1 y1 z1
  obtain ⟨rfl, N1q, hq2⟩ := hQ1
  have N1 := Fr.app N0 N1q
  obtain ⟨sa3, T3, h3, k3, X3, e3, E3, hS3, hk3, hZ3, ho3, st3⟩ := ldcS (s := s) X1 hx hZS0 hownS0 (hw _ (List.mem_of_getElem? (i := 42) rfl)) own_sa hq2 hSS0 hkS0 (g := (mkF m 5 #[.val (.ref a), .val (.ref tt), .val (.ref dd), .val (.int pp)] [(.ref tt)])) rfl (hb hby d7_5) (n := 20) (by decide) (by decide) (by decide) (by decide)
  have E4 : Exa Z h3 a "com/example/arc3/arc3/Judgment" := H0_E.ext E3
  have F5 : Fld Z h3 a "com/example/arc3/arc3/Judgment" "topic" "Ljava/lang/String;" .null := H1_F.ext E3
  have F6 : Fld Z h3 a "com/example/arc3/arc3/Judgment" "docno" "Ljava/lang/String;" .null := H2_F.ext E3
  have F7 : Fld Z h3 a "com/example/arc3/arc3/Judgment" "relevance" "I" (.int (0 : Int32)) := H3_F.ext E3
  have K3 : Keep h0 h3 [a] := K0.ext E3
  have Zs8 : n0 ≤ h3.size := (Nat.le_trans Z0 E3.1)
  obtain ⟨_, _, ⟨T9, L9, k9, n9⟩, -, X9, ⟨Lc9, hQ9, l9, y9, z9⟩, st9⟩ := Jvm.LawKit.callS X3 hx (y := (⟨"java/util/Objects", "requireNonNull", "(Ljava/lang/Object;Ljava/lang/String;)Ljava/lang/Object;"⟩ : MethodName)) ho3 (mvT hZ3 (hw _ (List.mem_of_getElem? (i := 45) rfl))) (mvT hZ3 (hw _ (List.mem_of_getElem? (i := 46) rfl))) (mvT hZ3 (hw _ (List.mem_of_getElem? (i := 47) rfl))) (mvT hZ3 (hw _ (List.mem_of_getElem? (i := 48) rfl))) (by decide) (backOf (W := 0) (rm_rnn l Z a0 hw [] tt sa3 h3 n0 Zs8 ) hZ3 (hw _ (List.mem_of_getElem? (i := 48) rfl)) (hw _ (List.mem_of_getElem? (i := 47) rfl)) (by decide) (by decide)) (g := (mkF m 7 #[.val (.ref a), .val (.ref tt), .val (.ref dd), .val (.int pp)] [(.ref sa3), (.ref tt)])) rfl (by rw [hml]; rfl) (argsL := [(.ref tt), (.ref sa3)]) (rest := []) (lenOf pd_1 rfl) rfl (by show 2 * 0 + _ ≤ _; exact Nat.le_of_eq rfl) (hb hby d7_7) (fun _ _ => ⟨rfl, e3, (by decide : 2 + 0 ≤ _), (by decide : 24 + 0 ≤ _)⟩)
  dsimp only [Pt.U, Pt.locs, Pt.cells, Pt.slots] at X9 l9 y9 z9 st9 hQ9
  subst l9 y9 z9
  obtain ⟨rfl, N9q, hq10⟩ := hQ9
  have N9 := Fr.app N1 N9q
  obtain ⟨sa11, T11, h11, k11, X11, e11, E11, hS11, hk11, hZ11, ho11, st11⟩ := ldcS (s := s) X9 hx hZ3 ho3 (hw _ (List.mem_of_getElem? (i := 49) rfl)) own_sa hq10 hS3 hk3 (g := (mkF m 12 #[.val (.ref a), .val (.ref tt), .val (.ref dd), .val (.int pp)] [(.ref dd)])) rfl (hb hby d7_12) (n := 20) (by decide) (by decide) (by decide) (by decide)
  have E12 : Exa Z h11 a "com/example/arc3/arc3/Judgment" := E4.ext E11
  have F13 : Fld Z h11 a "com/example/arc3/arc3/Judgment" "topic" "Ljava/lang/String;" .null := F5.ext E11
  have F14 : Fld Z h11 a "com/example/arc3/arc3/Judgment" "docno" "Ljava/lang/String;" .null := F6.ext E11
  have F15 : Fld Z h11 a "com/example/arc3/arc3/Judgment" "relevance" "I" (.int (0 : Int32)) := F7.ext E11
  have K11 : Keep h0 h11 [a] := K3.ext E11
  have Zs16 : n0 ≤ h11.size := (Nat.le_trans Zs8 E11.1)
  obtain ⟨_, _, ⟨T17, L17, k17, n17⟩, -, X17, ⟨Lc17, hQ17, l17, y17, z17⟩, st17⟩ := Jvm.LawKit.callS X11 hx (y := (⟨"java/util/Objects", "requireNonNull", "(Ljava/lang/Object;Ljava/lang/String;)Ljava/lang/Object;"⟩ : MethodName)) ho11 (mvT hZ11 (hw _ (List.mem_of_getElem? (i := 45) rfl))) (mvT hZ11 (hw _ (List.mem_of_getElem? (i := 46) rfl))) (mvT hZ11 (hw _ (List.mem_of_getElem? (i := 47) rfl))) (mvT hZ11 (hw _ (List.mem_of_getElem? (i := 48) rfl))) (by decide) (backOf (W := 0) (rm_rnn l Z a0 hw [] dd sa11 h11 n0 Zs16 ) hZ11 (hw _ (List.mem_of_getElem? (i := 48) rfl)) (hw _ (List.mem_of_getElem? (i := 47) rfl)) (by decide) (by decide)) (g := (mkF m 14 #[.val (.ref a), .val (.ref tt), .val (.ref dd), .val (.int pp)] [(.ref sa11), (.ref dd)])) rfl (by rw [hml]; rfl) (argsL := [(.ref dd), (.ref sa11)]) (rest := []) (lenOf pd_1 rfl) rfl (by show 2 * 0 + _ ≤ _; exact Nat.le_of_eq rfl) (hb hby d7_14) (fun _ _ => ⟨rfl, e11, (by decide : 4 + 0 ≤ _), (by decide : 48 + 0 ≤ _)⟩)
  dsimp only [Pt.U, Pt.locs, Pt.cells, Pt.slots] at X17 l17 y17 z17 st17 hQ17
  subst l17 y17 z17
  obtain ⟨rfl, N17q, hq18⟩ := hQ17
  have N17 := Fr.app N9 N17q
  obtain ⟨T19, h19, X19, e19, W19, st19⟩ := putF X17 hx hZ11 ho11 (host := "") (Or.inl (hw _ (List.mem_of_getElem? (i := 50) rfl))) Via.refl hq18 F13 E12 (Or.inr ⟨(hw _ (List.mem_of_getElem? (i := 51) rfl)), rfl, hnm⟩) (hw _ (List.mem_of_getElem? (i := 31) rfl)) (ty := (.object "java/lang/String")) (by decide) rfl rfl (g := (mkF m 20 #[.val (.ref a), .val (.ref tt), .val (.ref dd), .val (.int pp)] [(.ref tt), (.ref a)])) rfl rfl (hb hby d7_20)
  have Fw19 : Fld Z h19 a "com/example/arc3/arc3/Judgment" "topic" "Ljava/lang/String;" (.ref tt) := F13.same W19
  have E20 : Exa Z h19 a "com/example/arc3/arc3/Judgment" := E12.wr W19
  have F21 : Fld Z h19 a "com/example/arc3/arc3/Judgment" "docno" "Ljava/lang/String;" .null := F14.other W19 (Or.inr (slot_ne (Or.inr (hw _ (List.mem_of_getElem? (i := 53) rfl))) (Or.inr (hw _ (List.mem_of_getElem? (i := 51) rfl))) (by decide) (t := (.object "java/lang/String")) (t' := (.object "java/lang/String")) (by decide) (by decide)))
  have F22 : Fld Z h19 a "com/example/arc3/arc3/Judgment" "relevance" "I" (.int (0 : Int32)) := F15.other W19 (Or.inr (slot_ne (Or.inr (hw _ (List.mem_of_getElem? (i := 55) rfl))) (Or.inr (hw _ (List.mem_of_getElem? (i := 51) rfl))) (by decide) (t := .int) (t' := (.object "java/lang/String")) (by decide) (by decide)))
  have N19 := Fr.snoc X19 N17 ga
  have K19 : Keep h0 h19 [a] := K11.wr W19 (Or.inl (List.mem_of_getElem? (i := 0) rfl))
  have hkk23 : k11 ≤ h19.size := (Nat.le_trans hk11 (Keep.of_wr W19).1)
  have Zs24 : n0 ≤ h19.size := (Nat.le_trans Zs16 (Keep.of_wr W19).1)
  obtain ⟨T25, h25, X25, e25, W25, st25⟩ := putF X19 hx hZ11 ho11 (host := "") (Or.inl (hw _ (List.mem_of_getElem? (i := 52) rfl))) Via.refl e19 F21 E20 (Or.inr ⟨(hw _ (List.mem_of_getElem? (i := 53) rfl)), rfl, hnm⟩) (hw _ (List.mem_of_getElem? (i := 31) rfl)) (ty := (.object "java/lang/String")) (by decide) rfl rfl (g := (mkF m 25 #[.val (.ref a), .val (.ref tt), .val (.ref dd), .val (.int pp)] [(.ref dd), (.ref a)])) rfl rfl (hb hby d7_25)
  have Fw25 : Fld Z h25 a "com/example/arc3/arc3/Judgment" "docno" "Ljava/lang/String;" (.ref dd) := F21.same W25
  have E26 : Exa Z h25 a "com/example/arc3/arc3/Judgment" := E20.wr W25
  have F27 : Fld Z h25 a "com/example/arc3/arc3/Judgment" "relevance" "I" (.int (0 : Int32)) := F22.other W25 (Or.inr (slot_ne (Or.inr (hw _ (List.mem_of_getElem? (i := 55) rfl))) (Or.inr (hw _ (List.mem_of_getElem? (i := 53) rfl))) (by decide) (t := .int) (t' := (.object "java/lang/String")) (by decide) (by decide)))
  have F28 : Fld Z h25 a "com/example/arc3/arc3/Judgment" "topic" "Ljava/lang/String;" (.ref tt) := Fw19.other W25 (Or.inr (slot_ne (Or.inr (hw _ (List.mem_of_getElem? (i := 51) rfl))) (Or.inr (hw _ (List.mem_of_getElem? (i := 53) rfl))) (by decide) (t := (.object "java/lang/String")) (t' := (.object "java/lang/String")) (by decide) (by decide)))
  have N25 := Fr.snoc X25 N19 ga
  have K25 : Keep h0 h25 [a] := K19.wr W25 (Or.inl (List.mem_of_getElem? (i := 0) rfl))
  have hkk29 : k11 ≤ h25.size := (Nat.le_trans hkk23 (Keep.of_wr W25).1)
  have Zs30 : n0 ≤ h25.size := (Nat.le_trans Zs24 (Keep.of_wr W25).1)
  obtain ⟨T31, h31, X31, e31, W31, st31⟩ := putF X25 hx hZ11 ho11 (host := "") (Or.inl (hw _ (List.mem_of_getElem? (i := 54) rfl))) Via.refl e25 F27 E26 (Or.inr ⟨(hw _ (List.mem_of_getElem? (i := 55) rfl)), rfl, hnm⟩) (hw _ (List.mem_of_getElem? (i := 31) rfl)) (ty := .int) (by decide) rfl rfl (g := (mkF m 30 #[.val (.ref a), .val (.ref tt), .val (.ref dd), .val (.int pp)] [(.int pp), (.ref a)])) rfl rfl (hb hby d7_30)
  have Fw31 : Fld Z h31 a "com/example/arc3/arc3/Judgment" "relevance" "I" (.int pp) := F27.same W31
  have E32 : Exa Z h31 a "com/example/arc3/arc3/Judgment" := E26.wr W31
  have F33 : Fld Z h31 a "com/example/arc3/arc3/Judgment" "topic" "Ljava/lang/String;" (.ref tt) := F28.other W31 (Or.inr (slot_ne (Or.inr (hw _ (List.mem_of_getElem? (i := 51) rfl))) (Or.inr (hw _ (List.mem_of_getElem? (i := 55) rfl))) (by decide) (t := (.object "java/lang/String")) (t' := .int) (by decide) (by decide)))
  have F34 : Fld Z h31 a "com/example/arc3/arc3/Judgment" "docno" "Ljava/lang/String;" (.ref dd) := Fw25.other W31 (Or.inr (slot_ne (Or.inr (hw _ (List.mem_of_getElem? (i := 53) rfl))) (Or.inr (hw _ (List.mem_of_getElem? (i := 55) rfl))) (by decide) (t := (.object "java/lang/String")) (t' := .int) (by decide) (by decide)))
  have N31 := Fr.snoc X31 N25 ga
  have K31 : Keep h0 h31 [a] := K25.wr W31 (Or.inl (List.mem_of_getElem? (i := 0) rfl))
  have hkk35 : k11 ≤ h31.size := (Nat.le_trans hkk29 (Keep.of_wr W31).1)
  have Zs36 : n0 ≤ h31.size := (Nat.le_trans Zs30 (Keep.of_wr W31).1)
  have pre37 := fun (t : State) (k : Steps p.tables e below (T31.setTop (mkF m 33 #[.val (.ref a), .val (.ref tt), .val (.ref dd), .val (.int pp)] [])) t) => pre0 t (by
    refine XS.aloadN XS0.here hx rfl (hb hby d7_0) rfl rfl ?_
    show Steps p.tables e below (s₁.setTop (mkF m 1 #[.val (.ref a), .val (.ref tt), .val (.ref dd), .val (.int pp)] [(.ref a)])) _
    refine st1.trans ?_
    show Steps p.tables e below (T1.setTop (mkF m 4 #[.val (.ref a), .val (.ref tt), .val (.ref dd), .val (.int pp)] [])) _
    refine XS.aloadN X1.here hx rfl (hb hby d7_4) rfl rfl ?_
    show Steps p.tables e below (T1.setTop (mkF m 5 #[.val (.ref a), .val (.ref tt), .val (.ref dd), .val (.int pp)] [(.ref tt)])) _
    refine st3 _ ?_
    show Steps p.tables e below (T3.setTop (mkF m 7 #[.val (.ref a), .val (.ref tt), .val (.ref dd), .val (.int pp)] [(.ref sa3), (.ref tt)])) _
    refine st9 _ ?_
    show Steps p.tables e below (T9.setTop (mkF m 10 #[.val (.ref a), .val (.ref tt), .val (.ref dd), .val (.int pp)] [(.ref tt)])) _
    refine XS.pop X9.here hx rfl (hb hby d7_10) rfl rfl ?_
    show Steps p.tables e below (T9.setTop (mkF m 11 #[.val (.ref a), .val (.ref tt), .val (.ref dd), .val (.int pp)] [])) _
    refine XS.aloadN X9.here hx rfl (hb hby d7_11) rfl rfl ?_
    show Steps p.tables e below (T9.setTop (mkF m 12 #[.val (.ref a), .val (.ref tt), .val (.ref dd), .val (.int pp)] [(.ref dd)])) _
    refine st11 _ ?_
    show Steps p.tables e below (T11.setTop (mkF m 14 #[.val (.ref a), .val (.ref tt), .val (.ref dd), .val (.int pp)] [(.ref sa11), (.ref dd)])) _
    refine st17 _ ?_
    show Steps p.tables e below (T17.setTop (mkF m 17 #[.val (.ref a), .val (.ref tt), .val (.ref dd), .val (.int pp)] [(.ref dd)])) _
    refine XS.pop X17.here hx rfl (hb hby d7_17) rfl rfl ?_
    show Steps p.tables e below (T17.setTop (mkF m 18 #[.val (.ref a), .val (.ref tt), .val (.ref dd), .val (.int pp)] [])) _
    refine XS.aloadN X17.here hx rfl (hb hby d7_18) rfl rfl ?_
    show Steps p.tables e below (T17.setTop (mkF m 19 #[.val (.ref a), .val (.ref tt), .val (.ref dd), .val (.int pp)] [(.ref a)])) _
    refine XS.aloadN X17.here hx rfl (hb hby d7_19) rfl rfl ?_
    show Steps p.tables e below (T17.setTop (mkF m 20 #[.val (.ref a), .val (.ref tt), .val (.ref dd), .val (.int pp)] [(.ref tt), (.ref a)])) _
    refine st19 _ ?_
    show Steps p.tables e below (T19.setTop (mkF m 23 #[.val (.ref a), .val (.ref tt), .val (.ref dd), .val (.int pp)] [])) _
    refine XS.aloadN X19.here hx rfl (hb hby d7_23) rfl rfl ?_
    show Steps p.tables e below (T19.setTop (mkF m 24 #[.val (.ref a), .val (.ref tt), .val (.ref dd), .val (.int pp)] [(.ref a)])) _
    refine XS.aloadN X19.here hx rfl (hb hby d7_24) rfl rfl ?_
    show Steps p.tables e below (T19.setTop (mkF m 25 #[.val (.ref a), .val (.ref tt), .val (.ref dd), .val (.int pp)] [(.ref dd), (.ref a)])) _
    refine st25 _ ?_
    show Steps p.tables e below (T25.setTop (mkF m 28 #[.val (.ref a), .val (.ref tt), .val (.ref dd), .val (.int pp)] [])) _
    refine XS.aloadN X25.here hx rfl (hb hby d7_28) rfl rfl ?_
    show Steps p.tables e below (T25.setTop (mkF m 29 #[.val (.ref a), .val (.ref tt), .val (.ref dd), .val (.int pp)] [(.ref a)])) _
    refine XS.iloadN X25.here hx rfl (hb hby d7_29) rfl ?_
    show Steps p.tables e below (T25.setTop (mkF m 30 #[.val (.ref a), .val (.ref tt), .val (.ref dd), .val (.int pp)] [(.int pp), (.ref a)])) _
    refine st31 _ ?_
    show Steps p.tables e below (T31.setTop (mkF m 33 #[.val (.ref a), .val (.ref tt), .val (.ref dd), .val (.int pp)] [])) _
    exact k)
  obtain ⟨fs, hr, hrun, hended, hE1, hE2, hE3, hE4⟩ := X31.leaveW hS11 (by rw [e31]; exact hkk35) (v := none) (hlocks := BodyLoose.notSynchronized Bd) (fun _ => rfl)
  refine ⟨_, _, pre37 _ ?_, hrun, hended, _, _, rfl, ?_, hE1, hE2, hE3, hE4.mono (by decide) (by decide)⟩
  · exact X31.returnOut hx Bd.returns (hb hby d7_33) hr
  · show Q_ini Z a tt dd pp h0 n0 _ T31.heap _
    rw [e31]
    exact ⟨rfl, N31, K31, E32, Fw31⟩

theorem ef_isr (m : MethodId) (x0 : Addr) : entryFrame m #[(.ref x0)] 1 = mkF m 0 #[.val (.ref x0)] [] := by first | (simp [entryFrame, mkF, argsToLocals, Value.category]; done) | rfl
def Q_isr (Z : State) (a : Addr) (rr : Int32) (r : Int32) (h0 : Heap) (n0 : Nat) (v : Option Value) (h : Heap) (L : List Loc) : Prop := v = some (.int r) ∧ Fr n0 L ∧ h = h0
set_option maxRecDepth 65536 in
set_option maxHeartbeats 40000000 in
theorem rm_isr (l : Launch) (Z : State) (a0 : Array Value) (hw : ∀ d ∈ tables_1, d.before a0 Z = true) (ws : List Jvm.Cond) (a : Addr) (rr : Int32) (r : Int32) (h0 : Heap) (n0 : Nat) (Z0 : n0 ≤ h0.size) (H0_F : Fld Z h0 a "com/example/arc3/arc3/Judgment" "relevance" "I" (.int rr)) (hr0 : (0 : Int32) < rr → r = (1 : Int32)) (hr1 : ¬ (0 : Int32) < rr → r = (0 : Int32)) :
    MetFree l (⟨"com/example/arc3/arc3/Judgment", "isRelevant", "()Z"⟩ : MethodName) (head1 (Jvm.Cond.code (⟨"com/example/arc3/arc3/Judgment", "isRelevant", "()Z"⟩ : MethodName) prog_11_method_3_code 1 (some .boolean) :: ws) ({ frames := 0, cells := 0, slots := 0, locals := 0 } : Room)) (fun as_ U_ => as_ = #[(.ref a)] ∧ Z.Warmed39 U_.vm ∧ U_.heap = h0) (fun _ _ _ _ _ => True) (fun _ U o U' => ∃ v L, o = .returned v ∧ Q_isr Z a rr r h0 n0 v U'.heap L ∧ FrameEnd U o U' L ({ frames := 0, cells := 0, slots := 0, locals := 0 } : Room).cells ({ frames := 0, cells := 0, slots := 0, locals := 0 } : Room).slots) := by
  refine MetFree.of_bodySF (plainFor_of_name pn_2) hisR ?_
  intro p e s m args below meth c s₁ Bd hml0 hP hK
  obtain ⟨rfl, hZ, hh⟩ := hP
  have hx := Bd.exec
  have hby := Bd.bytes
  have hml : c.maxLocals = 1 := hml0
  have hown : s.vm.findClass "com/example/arc3/arc3/Judgment" = some m.cls := findClass_of_methodNamed Bd.named
  have hnm := (name_of_methodNamed Bd.named Bd.method).1
  have X0 : Stand p l e ({ frames := 0, cells := 0, slots := 0, locals := 0 } : Room) s m #[(.ref a)] below meth c s₁ [] 0 0 := Stand.of_body Bd
  have e0 : s₁.heap = h0 := by rw [← hh, Bd.state]; rfl
  have N0 := Fr.nil n0
  have pre0 : ∀ t, Steps p.tables e below (s₁.setTop (mkF m 0 #[.val (.ref a)] [])) t → Steps p.tables e below (s₁.setTop (entryFrame m #[(.ref a)] 1)) t := fun t k => castTop (ef_isr m a) k
  obtain ⟨T1, X1, e1, st1⟩ := getF X0 hx hZ hown (host := "") (Or.inl (hw _ (List.mem_of_getElem? (i := 54) rfl))) Via.refl e0 H0_F (g := (mkF m 1 #[.val (.ref a)] [(.ref a)])) rfl rfl (hb hby d10_1)
  have pre2 := fun (t : State) (k : Steps p.tables e below (T1.setTop (mkF m 4 #[.val (.ref a)] [(.int rr)])) t) => pre0 t (by
    refine XS.aloadN X0.here hx rfl (hb hby d10_0) rfl rfl ?_
    show Steps p.tables e below (s₁.setTop (mkF m 1 #[.val (.ref a)] [(.ref a)])) _
    refine st1 _ ?_
    show Steps p.tables e below (T1.setTop (mkF m 4 #[.val (.ref a)] [(.int rr)])) _
    exact k)
  by_cases hc3 : (0 : Int32) < rr
  · have pre4 := fun (t : State) (k : Steps p.tables e below (T1.setTop (mkF m 12 #[.val (.ref a)] [(.int (1 : Int32))])) t) => pre2 t (by
      refine XS.ifNo X1.here hx rfl (hb hby d10_4) rfl ((if0 _ _).trans (tlt hc3).2.2.2) ?_
      show Steps p.tables e below (T1.setTop (mkF m 7 #[.val (.ref a)] [])) _
      refine XS.iconst X1.here hx rfl (hb hby d10_7) ?_
      show Steps p.tables e below (T1.setTop (mkF m 8 #[.val (.ref a)] [(.int (1 : Int32))])) _
      refine XS.goto X1.here hx rfl (pc0 := 8) (pc' := 12) rfl (hb hby d10_8) (by decide) (by decide) ?_
      show Steps p.tables e below (T1.setTop (mkF m 12 #[.val (.ref a)] [(.int (1 : Int32))])) _
      exact k)
    obtain ⟨fs, hr, hrun, hended, hW, hsame⟩ := X1.leave (v := some (.int (1 : Int32))) (hlocks := BodyLoose.notSynchronized Bd) (fun h => by rw [Bd.returns] at h; cases h)
    refine ⟨_, _, pre4 _ ?_, hrun, hended, _, _, rfl, ?_, ⟨_, rfl⟩, hW, hsame.mono (by decide) (by decide)⟩
    · exact retN X1 hx (t := .boolean) Bd.returns (by simp) (hb hby d10_12) hr
    · show Q_isr Z a rr r h0 n0 _ T1.heap _
      rw [e1]
      exact ⟨(by first | rw [hr0 (by assumption)] | rw [hr1 (by assumption)]), N0, rfl⟩
  · have pre5 := fun (t : State) (k : Steps p.tables e below (T1.setTop (mkF m 12 #[.val (.ref a)] [(.int (0 : Int32))])) t) => pre2 t (by
      refine XS.ifYes X1.here hx rfl (pc0 := 4) (pc' := 11) rfl (hb hby d10_4) rfl ((if0 _ _).trans (flt hc3).2.2.2) (by decide) (by decide) ?_
      show Steps p.tables e below (T1.setTop (mkF m 11 #[.val (.ref a)] [])) _
      refine XS.iconst X1.here hx rfl (hb hby d10_11) ?_
      show Steps p.tables e below (T1.setTop (mkF m 12 #[.val (.ref a)] [(.int (0 : Int32))])) _
      exact k)
    obtain ⟨fs, hr, hrun, hended, hW, hsame⟩ := X1.leave (v := some (.int (0 : Int32))) (hlocks := BodyLoose.notSynchronized Bd) (fun h => by rw [Bd.returns] at h; cases h)
    refine ⟨_, _, pre5 _ ?_, hrun, hended, _, _, rfl, ?_, ⟨_, rfl⟩, hW, hsame.mono (by decide) (by decide)⟩
    · exact retN X1 hx (t := .boolean) Bd.returns (by simp) (hb hby d10_12) hr
    · show Q_isr Z a rr r h0 n0 _ T1.heap _
      rw [e1]
      exact ⟨(by first | rw [hr0 (by assumption)] | rw [hr1 (by assumption)]), N0, rfl⟩

theorem ef_law (m : MethodId) (x0 : Int32) (x1 : Int32) (x2 : Int32) : entryFrame m #[(.int x0), (.int x1), (.int x2)] maxLocals = mkF m 0 #[.val (.int x0), .val (.int x1), .val (.int x2), .unset, .unset, .unset, .unset, .unset, .unset, .unset, .unset, .unset, .unset] [] := by first | (simp [entryFrame, mkF, argsToLocals, Value.category, maxLocals]; done) | rfl
def Q_law (Z : State) (p1 : Int32) (p2 : Int32) (p3 : Int32) (zc : Int32) (h0 : Heap) (n0 : Nat) (v : Option Value) (h : Heap) (L : List Loc) : Prop := v = some (.int (1 : Int32)) ∧ Fr n0 L ∧ Keep h0 h []
set_option maxRecDepth 65536 in
set_option maxHeartbeats 40000000 in
theorem rm_law (l : Launch) (Z : State) (a0 : Array Value) (hw : ∀ d ∈ tables_1, d.before a0 Z = true) (ws : List Jvm.Cond) (p1 : Int32) (p2 : Int32) (p3 : Int32) (zc : Int32) (h0 : Heap) (n0 : Nat) (Z0 : n0 ≤ h0.size) (H0_S : Sta Z h0 "java/lang/String" "COMPACT_STRINGS" "Z" (.int zc)) (hzc : ¬ zc = (0 : Int32)) :
    MetFree l x (head1 (Jvm.Cond.code x code maxLocals ret :: ws) room_1) (fun as_ U_ => as_ = #[(.int p1), (.int p2), (.int p3)] ∧ Z.Warmed39 U_.vm ∧ U_.heap = h0) (fun _ _ _ _ _ => True) (fun _ U o U' => ∃ v L, o = .returned v ∧ Q_law Z p1 p2 p3 zc h0 n0 v U'.heap L ∧ ReturnedEndW U o U' L 26 218) := by
  refine MetFree.of_bodySF (plainFor_of_name pn_3) hisR ?_
  intro p e s m args below meth c s₁ Bd hml0 hP hK
  obtain ⟨rfl, hZ, hh⟩ := hP
  have hx := Bd.exec
  have hby := Bd.bytes
  have hml : c.maxLocals = 13 := hml0
  have hown : s.vm.findClass "com/example/arc3/arc3/JudgmentIsRelevantPinLaw" = some m.cls := findClass_of_methodNamed Bd.named
  have hnm := (name_of_methodNamed Bd.named Bd.method).1
  have X0 : Stand p l e room_1 s m #[(.int p1), (.int p2), (.int p3)] below meth c s₁ [] 0 0 := Stand.of_body Bd
  have e0 : s₁.heap = h0 := by rw [← hh, Bd.state]; rfl
  have N0 := Fr.nil n0
  have pre0 : ∀ t, Steps p.tables e below (s₁.setTop (mkF m 0 #[.val (.int p1), .val (.int p2), .val (.int p3), .unset, .unset, .unset, .unset, .unset, .unset, .unset, .unset, .unset, .unset] [])) t → Steps p.tables e below (s₁.setTop (entryFrame m #[(.int p1), (.int p2), (.int p3)] maxLocals)) t := fun t k => castTop (ef_law m p1 p2 p3) k
  have XS0 : Stand p l e room_1 (s.setVm s.vm) m #[(.int p1), (.int p2), (.int p3)] below meth c s₁ [] 0 0 := X0
  have hZS0 : Z.Warmed39 (s.setVm s.vm).vm := hZ
  have hownS0 : (s.setVm s.vm).vm.findClass "com/example/arc3/arc3/JudgmentIsRelevantPinLaw" = some m.cls := hown
  have hSS0 : s.Since s.vm h0.size := (State.WarmedH.refl s).since _
  have hkS0 : h0.size ≤ h0.size := Nat.le_refl _
  have K0 : Keep h0 h0 [] := Keep.refl h0 []
  have own_sa : ∀ d ∈ Bundle.stringAtoms, d.before a0 Z = true := fun d hd => hw d ((by decide +kernel : ∀ d ∈ Bundle.stringAtoms, d ∈ tables_1) d hd)
  have hws : ∀ d ∈ StrChars.Road.words, d.before a0 Z = true := fun d hd => hw d ((by decide +kernel : ∀ d ∈ StrChars.Road.words, d ∈ tables_1) d hd)
  obtain ⟨T1, h1, X1, e1, E1, A1, D1, -, st1⟩ := newO XS0 hx hZS0 hownS0 (hw _ (List.mem_of_getElem? (i := 0) rfl)) (hw _ (List.mem_of_getElem? (i := 1) rfl)) (hw _ (List.mem_of_getElem? (i := 2) rfl)) e0 (g := (mkF m 0 #[.val (.int p1), .val (.int p2), .val (.int p3), .unset, .unset, .unset, .unset, .unset, .unset, .unset, .unset, .unset, .unset] [])) rfl (hb hby at_0) (by decide) (by decide)
  obtain ⟨b1, g1⟩ : ∃ z, z = h0.size := ⟨_, rfl⟩
  have ge_b1 : n0 ≤ b1 := Nat.le_trans Z0 (Nat.le_of_eq g1.symm)
  have sz_b1 : h0.size ≤ b1 := Nat.le_trans K0.1 (Nat.le_of_eq g1.symm)
  rw [← g1] at A1 D1 st1
  have S2 : Sta Z h1 "java/lang/String" "COMPACT_STRINGS" "Z" (.int zc) := H0_S.ext E1
  have K1 : Keep h0 h1 [] := K0.ext E1
  have hkk3 : h0.size ≤ h1.size := (Nat.le_trans hkS0 E1.1)
  have Zs4 : n0 ≤ h1.size := (Nat.le_trans Z0 E1.1)
  have F5 : Fld Z h1 b1 "java/lang/String" "coder" "B" (.int (0 : Int32)) := D1 (Or.inr (hw _ (List.mem_of_getElem? (i := 27) rfl))) (ty := .byte) (by decide)
  have F6 : Fld Z h1 b1 "java/lang/String" "value" "[B" .null := D1 (Or.inr (hw _ (List.mem_of_getElem? (i := 29) rfl))) (ty := (.array .byte)) (by decide)
  obtain ⟨T7, h7, k7, X7, e7, E7, A7, Ea7, st7⟩ := newPE X1 hx hZS0 (hw _ (List.mem_of_getElem? (i := 3) rfl)) e1 (g := (mkF m 5 #[.val (.int p1), .val (.int p2), .val (.int p3), .unset, .unset, .unset, .unset, .unset, .unset, .unset, .unset, .unset, .unset] [(.int (1 : Int32)), (.ref b1), (.ref b1)])) rfl (hb hby at_5) rfl (by decide) (cap := 1) (by decide) (by decide) (by decide) (by decide) (ad := "[C") own_nm_char
  obtain ⟨b7, g7⟩ : ∃ z, z = h1.size := ⟨_, rfl⟩
  have ne_b1_b7 : b1 ≠ b7 := Nat.ne_of_lt (Nat.lt_of_lt_of_le A1.lt (Nat.le_of_eq g7.symm))
  have ge_b7 : n0 ≤ b7 := Nat.le_trans Zs4 (Nat.le_of_eq g7.symm)
  have sz_b7 : h0.size ≤ b7 := Nat.le_trans K1.1 (Nat.le_of_eq g7.symm)
  rw [← g7] at A7 Ea7 st7
  have S8 : Sta Z h7 "java/lang/String" "COMPACT_STRINGS" "Z" (.int zc) := S2.ext E7
  have E9 : Exa Z h7 b1 "java/lang/String" := A1.ext E7
  have F10 : Fld Z h7 b1 "java/lang/String" "coder" "B" (.int (0 : Int32)) := F5.ext E7
  have F11 : Fld Z h7 b1 "java/lang/String" "value" "[B" .null := F6.ext E7
  have K7 : Keep h0 h7 [] := K1.ext E7
  have hkk12 : h0.size ≤ h7.size := (Nat.le_trans hkk3 E7.1)
  have Zs13 : n0 ≤ h7.size := (Nat.le_trans Zs4 E7.1)
  have V7 : Arv Z h7 b7 k7 .char (1 : Int32) [(.int (0 : Int32))] (.int (0 : Int32)) := (Arv.new A7 (by decide)).pad (pad_rep [] (.int (0 : Int32)) 1)
  have oc14 := V7
  obtain ⟨c14, Arc14, qc14, Sc14, Nc14, Hc14, Gc14⟩ := oc14
  have hin15 : ¬ ((0 : Int32) < 0 ∨ c14.slots.size ≤ ((0 : Int32)).toNatClampNeg) := (inb_of Sc14 ⟨by decide, by decide⟩)
  obtain ⟨T15, h15, X15, e15, W15, st15⟩ := stC X7 hx hZS0 e7 Arc14 (j := (0 : Int32)) hin15 (g := (mkF m 15 #[.val (.int p1), .val (.int p2), .val (.int p3), .unset, .unset, .unset, .unset, .unset, .unset, .unset, .unset, .unset, .unset] [(.int ((p3 &&& (255 : Int32)).toUInt32.toUInt16.toUInt32.toInt32)), (.int (0 : Int32)), (.ref b7), (.ref b7), (.ref b1), (.ref b1)])) rfl rfl (hb hby at_15)
  have V15 : Arv Z h15 b7 k7 .char (1 : Int32) [(.int (nar .char ((p3 &&& (255 : Int32)).toUInt32.toUInt16.toUInt32.toInt32)))] (.int (0 : Int32)) := Arv.set Arc14 qc14 Sc14 Nc14 Hc14 Gc14 (fits_nar_char _) W15 0 rfl (Nat.le_of_ble_eq_true rfl)
  have S16 : Sta Z h15 "java/lang/String" "COMPACT_STRINGS" "Z" (.int zc) := S8.wr W15
  have E17 : Exa Z h15 b1 "java/lang/String" := E9.wr W15
  have F18 : Fld Z h15 b1 "java/lang/String" "coder" "B" (.int (0 : Int32)) := F10.other W15 (Or.inl ne_b1_b7)
  have F19 : Fld Z h15 b1 "java/lang/String" "value" "[B" .null := F11.other W15 (Or.inl ne_b1_b7)
  have E20 : Exa Z h15 b7 "[C" := Ea7.wr W15
  have N15 := Fr.snoc X15 N0 ge_b7
  have K15 : Keep h0 h15 [] := K7.wr W15 (Or.inr sz_b7)
  have hkk21 : h0.size ≤ h15.size := (Nat.le_trans hkk12 (Keep.of_wr W15).1)
  have Zs22 : n0 ≤ h15.size := (Nat.le_trans Zs13 (Keep.of_wr W15).1)
  have hlat23 : ∀ c ∈ [(nar .char ((p3 &&& (255 : Int32)).toUInt32.toUInt16.toUInt32.toInt32))], ¬ c < 0 ∧ ¬ (255 : Int32) < c := by
    intro c hc
    simp only [List.mem_cons, List.not_mem_nil, or_false] at hc
    rcases hc with rfl
    · exact own_lat _
  obtain ⟨_, _, ⟨T23, L23, k23, n23⟩, -, X23, ⟨Lc23, hQ23, l23, y23, z23⟩, st23⟩ := X15.specialBack hx (y := (⟨"java/lang/String", "<init>", "([C)V"⟩ : MethodName)) rfl hownS0 (mvT hZS0 (hw _ (List.mem_of_getElem? (i := 4) rfl))) (mvT hZS0 (hw _ (List.mem_of_getElem? (i := 5) rfl))) (mvT hZS0 (hw _ (List.mem_of_getElem? (i := 6) rfl))) (by decide) (StrChars.Road.backV (W := 1) hZS0 hws (kI := 4) (hw _ (List.mem_of_getElem? (i := 1) rfl)) (cs := [(nar .char ((p3 &&& (255 : Int32)).toUInt32.toUInt16.toUInt32.toInt32))]) (bs := [((nar .char ((p3 &&& (255 : Int32)).toUInt32.toUInt16.toUInt32.toInt32))).toInt8.toInt32]) (n := 1) ge_b1 Zs22 E17 F19 F18 V15 S16 hzc rfl rfl (by decide) (by decide) hlat23 rfl (by decide) (by decide)) (g := (mkF m 16 #[.val (.int p1), .val (.int p2), .val (.int p3), .unset, .unset, .unset, .unset, .unset, .unset, .unset, .unset, .unset, .unset] [(.ref b7), (.ref b1), (.ref b1)])) rfl (by rw [hml]; rfl) (Steps.refl _) (a := b1) (argsL := [(.ref b7)]) (rest := [(.ref b1)]) (lenOf pd_2 rfl) rfl (by show 2 * 0 + _ ≤ _; exact Nat.le_of_eq rfl) (hb hby at_16) (fun _ _ => ⟨rfl, e15, (by decide : 2 + 1 ≤ _), (by decide : 5 + 1 ≤ _)⟩)
  dsimp only [Pt.U, Pt.locs, Pt.cells, Pt.slots] at X23 l23 y23 z23 st23 hQ23
  subst l23 y23 z23
  obtain ⟨rfl, N23q, K23q, Ex23, -, -, -, -, -, -, -, -⟩ := hQ23
  have N23 := Fr.app N15 N23q
  have S24 : Sta Z T23.heap "java/lang/String" "COMPACT_STRINGS" "Z" (.int zc) := own_sta_keep S16 K23q (allS (own_ns_exa E17) all0)
  have K23 : Keep h0 T23.heap [] := K15.trans K23q (allS (Or.inr sz_b1) all0)
  have hkk25 : h0.size ≤ T23.heap.size := (Nat.le_trans hkk21 K23q.1)
  have Zs26 : n0 ≤ T23.heap.size := (Nat.le_trans Zs22 K23q.1)
  obtain ⟨T27, h27, X27, e27, E27, A27, D27, -, st27⟩ := newO X23 hx hZS0 hownS0 (hw _ (List.mem_of_getElem? (i := 0) rfl)) (hw _ (List.mem_of_getElem? (i := 1) rfl)) (hw _ (List.mem_of_getElem? (i := 2) rfl)) rfl (g := (mkF m 20 #[.val (.int p1), .val (.int p2), .val (.int p3), .val (.ref b1), .unset, .unset, .unset, .unset, .unset, .unset, .unset, .unset, .unset] [])) rfl (hb hby at_20) (by decide) (by decide)
  obtain ⟨b27, g27⟩ : ∃ z, z = T23.heap.size := ⟨_, rfl⟩
  have ne_b1_b27 : b1 ≠ b27 := Nat.ne_of_lt (Nat.lt_of_lt_of_le Ex23.lt (Nat.le_of_eq g27.symm))
  have ge_b27 : n0 ≤ b27 := Nat.le_trans Zs26 (Nat.le_of_eq g27.symm)
  have sz_b27 : h0.size ≤ b27 := Nat.le_trans K23.1 (Nat.le_of_eq g27.symm)
  rw [← g27] at A27 D27 st27
  have S28 : Sta Z h27 "java/lang/String" "COMPACT_STRINGS" "Z" (.int zc) := S24.ext E27
  have E29 : Exa Z h27 b1 "java/lang/String" := Ex23.ext E27
  have K27 : Keep h0 h27 [] := K23.ext E27
  have hkk30 : h0.size ≤ h27.size := (Nat.le_trans hkk25 E27.1)
  have Zs31 : n0 ≤ h27.size := (Nat.le_trans Zs26 E27.1)
  have F32 : Fld Z h27 b27 "java/lang/String" "coder" "B" (.int (0 : Int32)) := D27 (Or.inr (hw _ (List.mem_of_getElem? (i := 27) rfl))) (ty := .byte) (by decide)
  have F33 : Fld Z h27 b27 "java/lang/String" "value" "[B" .null := D27 (Or.inr (hw _ (List.mem_of_getElem? (i := 29) rfl))) (ty := (.array .byte)) (by decide)
  obtain ⟨T34, h34, k34, X34, e34, E34, A34, Ea34, st34⟩ := newPE X27 hx hZS0 (hw _ (List.mem_of_getElem? (i := 3) rfl)) e27 (g := (mkF m 25 #[.val (.int p1), .val (.int p2), .val (.int p3), .val (.ref b1), .unset, .unset, .unset, .unset, .unset, .unset, .unset, .unset, .unset] [(.int (2 : Int32)), (.ref b27), (.ref b27)])) rfl (hb hby at_25) rfl (by decide) (cap := 2) (by decide) (by decide) (by decide) (by decide) (ad := "[C") own_nm_char
  obtain ⟨b34, g34⟩ : ∃ z, z = h27.size := ⟨_, rfl⟩
  have ne_b1_b34 : b1 ≠ b34 := Nat.ne_of_lt (Nat.lt_of_lt_of_le E29.lt (Nat.le_of_eq g34.symm))
  have ne_b27_b34 : b27 ≠ b34 := Nat.ne_of_lt (Nat.lt_of_lt_of_le A27.lt (Nat.le_of_eq g34.symm))
  have ge_b34 : n0 ≤ b34 := Nat.le_trans Zs31 (Nat.le_of_eq g34.symm)
  have sz_b34 : h0.size ≤ b34 := Nat.le_trans K27.1 (Nat.le_of_eq g34.symm)
  rw [← g34] at A34 Ea34 st34
  have S35 : Sta Z h34 "java/lang/String" "COMPACT_STRINGS" "Z" (.int zc) := S28.ext E34
  have E36 : Exa Z h34 b1 "java/lang/String" := E29.ext E34
  have E37 : Exa Z h34 b27 "java/lang/String" := A27.ext E34
  have F38 : Fld Z h34 b27 "java/lang/String" "coder" "B" (.int (0 : Int32)) := F32.ext E34
  have F39 : Fld Z h34 b27 "java/lang/String" "value" "[B" .null := F33.ext E34
  have K34 : Keep h0 h34 [] := K27.ext E34
  have hkk40 : h0.size ≤ h34.size := (Nat.le_trans hkk30 E34.1)
  have Zs41 : n0 ≤ h34.size := (Nat.le_trans Zs31 E34.1)
  have V34 : Arv Z h34 b34 k34 .char (2 : Int32) [(.int (0 : Int32)), (.int (0 : Int32))] (.int (0 : Int32)) := (Arv.new A34 (by decide)).pad (pad_rep [] (.int (0 : Int32)) 2)
  have oc42 := V34
  obtain ⟨c42, Arc42, qc42, Sc42, Nc42, Hc42, Gc42⟩ := oc42
  have hin43 : ¬ ((0 : Int32) < 0 ∨ c42.slots.size ≤ ((0 : Int32)).toNatClampNeg) := (inb_of Sc42 ⟨by decide, by decide⟩)
  obtain ⟨T43, h43, X43, e43, W43, st43⟩ := stC X34 hx hZS0 e34 Arc42 (j := (0 : Int32)) hin43 (g := (mkF m 38 #[.val (.int p1), .val (.int p2), .val (.int p3), .val (.ref b1), .unset, .unset, .unset, .unset, .unset, .unset, .unset, .unset, .unset] [(.int ((((p3.toUInt32 >>> ((8 : Int32) &&& 31).toUInt32).toInt32) &&& (255 : Int32)).toUInt32.toUInt16.toUInt32.toInt32)), (.int (0 : Int32)), (.ref b34), (.ref b34), (.ref b27), (.ref b27)])) rfl rfl (hb hby at_38)
  have V43 : Arv Z h43 b34 k34 .char (2 : Int32) [(.int (nar .char ((((p3.toUInt32 >>> ((8 : Int32) &&& 31).toUInt32).toInt32) &&& (255 : Int32)).toUInt32.toUInt16.toUInt32.toInt32))), (.int (0 : Int32))] (.int (0 : Int32)) := Arv.set Arc42 qc42 Sc42 Nc42 Hc42 Gc42 (fits_nar_char _) W43 0 rfl (Nat.le_of_ble_eq_true rfl)
  have S44 : Sta Z h43 "java/lang/String" "COMPACT_STRINGS" "Z" (.int zc) := S35.wr W43
  have E45 : Exa Z h43 b1 "java/lang/String" := E36.wr W43
  have E46 : Exa Z h43 b27 "java/lang/String" := E37.wr W43
  have F47 : Fld Z h43 b27 "java/lang/String" "coder" "B" (.int (0 : Int32)) := F38.other W43 (Or.inl ne_b27_b34)
  have F48 : Fld Z h43 b27 "java/lang/String" "value" "[B" .null := F39.other W43 (Or.inl ne_b27_b34)
  have E49 : Exa Z h43 b34 "[C" := Ea34.wr W43
  have N43 := Fr.snoc X43 N23 ge_b34
  have K43 : Keep h0 h43 [] := K34.wr W43 (Or.inr sz_b34)
  have hkk50 : h0.size ≤ h43.size := (Nat.le_trans hkk40 (Keep.of_wr W43).1)
  have Zs51 : n0 ≤ h43.size := (Nat.le_trans Zs41 (Keep.of_wr W43).1)
  have oc52 := V43
  obtain ⟨c52, Arc52, qc52, Sc52, Nc52, Hc52, Gc52⟩ := oc52
  have hin53 : ¬ ((1 : Int32) < 0 ∨ c52.slots.size ≤ ((1 : Int32)).toNatClampNeg) := (inb_of Sc52 ⟨by decide, by decide⟩)
  obtain ⟨T53, h53, X53, e53, W53, st53⟩ := stC X43 hx hZS0 e43 Arc52 (j := (1 : Int32)) hin53 (g := (mkF m 50 #[.val (.int p1), .val (.int p2), .val (.int p3), .val (.ref b1), .unset, .unset, .unset, .unset, .unset, .unset, .unset, .unset, .unset] [(.int ((((p3.toUInt32 >>> ((16 : Int32) &&& 31).toUInt32).toInt32) &&& (255 : Int32)).toUInt32.toUInt16.toUInt32.toInt32)), (.int (1 : Int32)), (.ref b34), (.ref b34), (.ref b27), (.ref b27)])) rfl rfl (hb hby at_50)
  have V53 : Arv Z h53 b34 k34 .char (2 : Int32) [(.int (nar .char ((((p3.toUInt32 >>> ((8 : Int32) &&& 31).toUInt32).toInt32) &&& (255 : Int32)).toUInt32.toUInt16.toUInt32.toInt32))), (.int (nar .char ((((p3.toUInt32 >>> ((16 : Int32) &&& 31).toUInt32).toInt32) &&& (255 : Int32)).toUInt32.toUInt16.toUInt32.toInt32)))] (.int (0 : Int32)) := Arv.set Arc52 qc52 Sc52 Nc52 Hc52 Gc52 (fits_nar_char _) W53 1 rfl (Nat.le_of_ble_eq_true rfl)
  have S54 : Sta Z h53 "java/lang/String" "COMPACT_STRINGS" "Z" (.int zc) := S44.wr W53
  have E55 : Exa Z h53 b1 "java/lang/String" := E45.wr W53
  have E56 : Exa Z h53 b27 "java/lang/String" := E46.wr W53
  have F57 : Fld Z h53 b27 "java/lang/String" "coder" "B" (.int (0 : Int32)) := F47.other W53 (Or.inl ne_b27_b34)
  have F58 : Fld Z h53 b27 "java/lang/String" "value" "[B" .null := F48.other W53 (Or.inl ne_b27_b34)
  have E59 : Exa Z h53 b34 "[C" := E49.wr W53
  have N53 := Fr.snoc X53 N43 ge_b34
  have K53 : Keep h0 h53 [] := K43.wr W53 (Or.inr sz_b34)
  have hkk60 : h0.size ≤ h53.size := (Nat.le_trans hkk50 (Keep.of_wr W53).1)
  have Zs61 : n0 ≤ h53.size := (Nat.le_trans Zs51 (Keep.of_wr W53).1)
  have hlat62 : ∀ c ∈ [(nar .char ((((p3.toUInt32 >>> ((8 : Int32) &&& 31).toUInt32).toInt32) &&& (255 : Int32)).toUInt32.toUInt16.toUInt32.toInt32)), (nar .char ((((p3.toUInt32 >>> ((16 : Int32) &&& 31).toUInt32).toInt32) &&& (255 : Int32)).toUInt32.toUInt16.toUInt32.toInt32))], ¬ c < 0 ∧ ¬ (255 : Int32) < c := by
    intro c hc
    simp only [List.mem_cons, List.not_mem_nil, or_false] at hc
    rcases hc with rfl | rfl
    · exact own_lat _
    · exact own_lat _
  obtain ⟨_, _, ⟨T62, L62, k62, n62⟩, -, X62, ⟨Lc62, hQ62, l62, y62, z62⟩, st62⟩ := X53.specialBack hx (y := (⟨"java/lang/String", "<init>", "([C)V"⟩ : MethodName)) rfl hownS0 (mvT hZS0 (hw _ (List.mem_of_getElem? (i := 4) rfl))) (mvT hZS0 (hw _ (List.mem_of_getElem? (i := 5) rfl))) (mvT hZS0 (hw _ (List.mem_of_getElem? (i := 6) rfl))) (by decide) (StrChars.Road.backV (W := 1) hZS0 hws (kI := 4) (hw _ (List.mem_of_getElem? (i := 1) rfl)) (cs := [(nar .char ((((p3.toUInt32 >>> ((8 : Int32) &&& 31).toUInt32).toInt32) &&& (255 : Int32)).toUInt32.toUInt16.toUInt32.toInt32)), (nar .char ((((p3.toUInt32 >>> ((16 : Int32) &&& 31).toUInt32).toInt32) &&& (255 : Int32)).toUInt32.toUInt16.toUInt32.toInt32))]) (bs := [((nar .char ((((p3.toUInt32 >>> ((8 : Int32) &&& 31).toUInt32).toInt32) &&& (255 : Int32)).toUInt32.toUInt16.toUInt32.toInt32))).toInt8.toInt32, ((nar .char ((((p3.toUInt32 >>> ((16 : Int32) &&& 31).toUInt32).toInt32) &&& (255 : Int32)).toUInt32.toUInt16.toUInt32.toInt32))).toInt8.toInt32]) (n := 2) ge_b27 Zs61 E56 F58 F57 V53 S54 hzc rfl rfl (by decide) (by decide) hlat62 rfl (by decide) (by decide)) (g := (mkF m 51 #[.val (.int p1), .val (.int p2), .val (.int p3), .val (.ref b1), .unset, .unset, .unset, .unset, .unset, .unset, .unset, .unset, .unset] [(.ref b34), (.ref b27), (.ref b27)])) rfl (by rw [hml]; rfl) (Steps.refl _) (a := b27) (argsL := [(.ref b34)]) (rest := [(.ref b27)]) (lenOf pd_2 rfl) rfl (by show 2 * 0 + _ ≤ _; exact Nat.le_of_eq rfl) (hb hby at_51) (fun _ _ => ⟨rfl, e53, (by decide : 5 + 1 ≤ _), (by decide : 12 + 2 ≤ _)⟩)
  dsimp only [Pt.U, Pt.locs, Pt.cells, Pt.slots] at X62 l62 y62 z62 st62 hQ62
  subst l62 y62 z62
  obtain ⟨rfl, N62q, K62q, Ex62, -, -, -, -, -, -, -, -⟩ := hQ62
  have N62 := Fr.app N53 N62q
  have S63 : Sta Z T62.heap "java/lang/String" "COMPACT_STRINGS" "Z" (.int zc) := own_sta_keep S54 K62q (allS (own_ns_exa E56) all0)
  have E64 : Exa Z T62.heap b1 "java/lang/String" := E55.keep K62q
  have K62 : Keep h0 T62.heap [] := K53.trans K62q (allS (Or.inr sz_b27) all0)
  have hkk65 : h0.size ≤ T62.heap.size := (Nat.le_trans hkk60 K62q.1)
  have Zs66 : n0 ≤ T62.heap.size := (Nat.le_trans Zs61 K62q.1)
  obtain ⟨T67, h67, X67, e67, E67, A67, D67, -, st67⟩ := newO X62 hx hZS0 hownS0 (hw _ (List.mem_of_getElem? (i := 30) rfl)) (hw _ (List.mem_of_getElem? (i := 31) rfl)) (hw _ (List.mem_of_getElem? (i := 32) rfl)) rfl (g := (mkF m 56 #[.val (.int p1), .val (.int p2), .val (.int p3), .val (.ref b1), .val (.ref b27), .unset, .unset, .unset, .unset, .unset, .unset, .unset, .unset] [])) rfl (hb hby at_56) (by decide) (by decide)
  obtain ⟨b67, g67⟩ : ∃ z, z = T62.heap.size := ⟨_, rfl⟩
  have ne_b1_b67 : b1 ≠ b67 := Nat.ne_of_lt (Nat.lt_of_lt_of_le E64.lt (Nat.le_of_eq g67.symm))
  have ne_b27_b67 : b27 ≠ b67 := Nat.ne_of_lt (Nat.lt_of_lt_of_le Ex62.lt (Nat.le_of_eq g67.symm))
  have ge_b67 : n0 ≤ b67 := Nat.le_trans Zs66 (Nat.le_of_eq g67.symm)
  have sz_b67 : h0.size ≤ b67 := Nat.le_trans K62.1 (Nat.le_of_eq g67.symm)
  rw [← g67] at A67 D67 st67
  have S68 : Sta Z h67 "java/lang/String" "COMPACT_STRINGS" "Z" (.int zc) := S63.ext E67
  have E69 : Exa Z h67 b1 "java/lang/String" := E64.ext E67
  have E70 : Exa Z h67 b27 "java/lang/String" := Ex62.ext E67
  have K67 : Keep h0 h67 [] := K62.ext E67
  have hkk71 : h0.size ≤ h67.size := (Nat.le_trans hkk65 E67.1)
  have Zs72 : n0 ≤ h67.size := (Nat.le_trans Zs66 E67.1)
  have F73 : Fld Z h67 b67 "com/example/arc3/arc3/Judgment" "topic" "Ljava/lang/String;" .null := D67 (Or.inr (hw _ (List.mem_of_getElem? (i := 51) rfl))) (ty := (.object "java/lang/String")) (by decide)
  have F74 : Fld Z h67 b67 "com/example/arc3/arc3/Judgment" "docno" "Ljava/lang/String;" .null := D67 (Or.inr (hw _ (List.mem_of_getElem? (i := 53) rfl))) (ty := (.object "java/lang/String")) (by decide)
  have F75 : Fld Z h67 b67 "com/example/arc3/arc3/Judgment" "relevance" "I" (.int (0 : Int32)) := D67 (Or.inr (hw _ (List.mem_of_getElem? (i := 55) rfl))) (ty := .int) (by decide)
  obtain ⟨_, _, ⟨T76, L76, k76, n76⟩, -, X76, hSq76, hgr76, ⟨Lc76, hQ76, l76, y76, z76⟩, st76⟩ := X67.specialBackS hx (y := (⟨"com/example/arc3/arc3/Judgment", "<init>", "(Ljava/lang/String;Ljava/lang/String;I)V"⟩ : MethodName)) rfl hownS0 (mvT hZS0 (hw _ (List.mem_of_getElem? (i := 33) rfl))) (mvT hZS0 (hw _ (List.mem_of_getElem? (i := 34) rfl))) (mvT hZS0 (hw _ (List.mem_of_getElem? (i := 35) rfl))) (by decide) (backOfS (W := 1) (rm_ini l Z a0 hw [] b67 b1 b27 p1 h67 n0 Zs72 A67 F73 F74 F75 ge_b67) hZS0 (hw _ (List.mem_of_getElem? (i := 35) rfl)) (hw _ (List.mem_of_getElem? (i := 32) rfl)) (by decide) (by decide)) (g := (mkF m 64 #[.val (.int p1), .val (.int p2), .val (.int p3), .val (.ref b1), .val (.ref b27), .unset, .unset, .unset, .unset, .unset, .unset, .unset, .unset] [(.int p1), (.ref b27), (.ref b1), (.ref b67), (.ref b67)])) rfl (by rw [hml]; rfl) (Steps.refl _) (a := b67) (argsL := [(.ref b1), (.ref b27), (.int p1)]) (rest := [(.ref b67)]) (lenOf pd_3 rfl) rfl (by show 2 * 0 + _ ≤ _; exact Nat.le_of_eq rfl) (hb hby at_64) (fun _ _ => ⟨rfl, e67, (by decide : 7 + 4 ≤ _), (by decide : 17 + 48 ≤ _)⟩)
  dsimp only [Pt.U, Pt.locs, Pt.cells, Pt.slots] at X76 l76 y76 z76 st76 hQ76 hSq76 hgr76
  subst l76 y76 z76
  obtain ⟨rfl, N76q, hq77, E78, F79⟩ := hQ76
  have N76 := Fr.app N62 N76q
  have S80 : Sta Z T76.heap "java/lang/String" "COMPACT_STRINGS" "Z" (.int zc) := own_sta_keep S68 hq77 (allS (own_ns_exa A67) all0)
  have E81 : Exa Z T76.heap b1 "java/lang/String" := E69.keep hq77
  have E82 : Exa Z T76.heap b27 "java/lang/String" := E70.keep hq77
  have K76 : Keep h0 T76.heap [] := K67.trans hq77 (allS (Or.inr sz_b67) all0)
  have XS76 : Stand p l e room_1 (s.setVm T76.vm) m #[(.int p1), (.int p2), (.int p3)] below meth c T76 _ _ _ := X76
  have hS76 : s.Since T76.vm T76.heap.size := hSS0.trans hSq76 (Nat.le_trans hkk71 (e67 ▸ hgr76))
  have hZ76 : Z.Warmed39 (s.setVm T76.vm).vm := State.Warmed39.trans (t := s.setVm s.vm) hZS0 hSq76.1
  have ho76 : (s.setVm T76.vm).vm.findClass "com/example/arc3/arc3/JudgmentIsRelevantPinLaw" = some m.cls := by rw [show (s.setVm T76.vm).vm = T76.vm from rfl, hSq76.1.alike.findClass]; exact hownS0
  have hk76 : T76.heap.size ≤ T76.heap.size := Nat.le_refl _
  have Zs83 : n0 ≤ T76.heap.size := (Nat.le_trans Zs72 hq77.1)
  obtain ⟨T84, h84, X84, e84, E84, A84, D84, -, st84⟩ := newO XS76 hx hZ76 ho76 (hw _ (List.mem_of_getElem? (i := 30) rfl)) (hw _ (List.mem_of_getElem? (i := 31) rfl)) (hw _ (List.mem_of_getElem? (i := 32) rfl)) rfl (g := (mkF m 69 #[.val (.int p1), .val (.int p2), .val (.int p3), .val (.ref b1), .val (.ref b27), .val (.ref b67), .unset, .unset, .unset, .unset, .unset, .unset, .unset] [])) rfl (hb hby at_69) (by decide) (by decide)
  obtain ⟨b84, g84⟩ : ∃ z, z = T76.heap.size := ⟨_, rfl⟩
  have ne_b1_b84 : b1 ≠ b84 := Nat.ne_of_lt (Nat.lt_of_lt_of_le E81.lt (Nat.le_of_eq g84.symm))
  have ne_b27_b84 : b27 ≠ b84 := Nat.ne_of_lt (Nat.lt_of_lt_of_le E82.lt (Nat.le_of_eq g84.symm))
  have ne_b67_b84 : b67 ≠ b84 := Nat.ne_of_lt (Nat.lt_of_lt_of_le E78.lt (Nat.le_of_eq g84.symm))
  have ge_b84 : n0 ≤ b84 := Nat.le_trans Zs83 (Nat.le_of_eq g84.symm)
  have sz_b84 : h0.size ≤ b84 := Nat.le_trans K76.1 (Nat.le_of_eq g84.symm)
  rw [← g84] at A84 D84 st84
  have S85 : Sta Z h84 "java/lang/String" "COMPACT_STRINGS" "Z" (.int zc) := S80.ext E84
  have E86 : Exa Z h84 b1 "java/lang/String" := E81.ext E84
  have E87 : Exa Z h84 b27 "java/lang/String" := E82.ext E84
  have E88 : Exa Z h84 b67 "com/example/arc3/arc3/Judgment" := E78.ext E84
  have F89 : Fld Z h84 b67 "com/example/arc3/arc3/Judgment" "relevance" "I" (.int p1) := F79.ext E84
  have K84 : Keep h0 h84 [] := K76.ext E84
  have hkk90 : T76.heap.size ≤ h84.size := (Nat.le_trans hk76 E84.1)
  have Zs91 : n0 ≤ h84.size := (Nat.le_trans Zs83 E84.1)
  have F92 : Fld Z h84 b84 "com/example/arc3/arc3/Judgment" "topic" "Ljava/lang/String;" .null := D84 (Or.inr (hw _ (List.mem_of_getElem? (i := 51) rfl))) (ty := (.object "java/lang/String")) (by decide)
  have F93 : Fld Z h84 b84 "com/example/arc3/arc3/Judgment" "docno" "Ljava/lang/String;" .null := D84 (Or.inr (hw _ (List.mem_of_getElem? (i := 53) rfl))) (ty := (.object "java/lang/String")) (by decide)
  have F94 : Fld Z h84 b84 "com/example/arc3/arc3/Judgment" "relevance" "I" (.int (0 : Int32)) := D84 (Or.inr (hw _ (List.mem_of_getElem? (i := 55) rfl))) (ty := .int) (by decide)
  obtain ⟨_, _, ⟨T95, L95, k95, n95⟩, -, X95, hSq95, hgr95, ⟨Lc95, hQ95, l95, y95, z95⟩, st95⟩ := X84.specialBackS hx (y := (⟨"com/example/arc3/arc3/Judgment", "<init>", "(Ljava/lang/String;Ljava/lang/String;I)V"⟩ : MethodName)) rfl ho76 (mvT hZ76 (hw _ (List.mem_of_getElem? (i := 33) rfl))) (mvT hZ76 (hw _ (List.mem_of_getElem? (i := 34) rfl))) (mvT hZ76 (hw _ (List.mem_of_getElem? (i := 35) rfl))) (by decide) (backOfS (W := 1) (rm_ini l Z a0 hw [] b84 b27 b1 p2 h84 n0 Zs91 A84 F92 F93 F94 ge_b84) hZ76 (hw _ (List.mem_of_getElem? (i := 35) rfl)) (hw _ (List.mem_of_getElem? (i := 32) rfl)) (by decide) (by decide)) (g := (mkF m 77 #[.val (.int p1), .val (.int p2), .val (.int p3), .val (.ref b1), .val (.ref b27), .val (.ref b67), .unset, .unset, .unset, .unset, .unset, .unset, .unset] [(.int p2), (.ref b1), (.ref b27), (.ref b84), (.ref b84)])) rfl (by rw [hml]; rfl) (Steps.refl _) (a := b84) (argsL := [(.ref b27), (.ref b1), (.int p2)]) (rest := [(.ref b84)]) (lenOf pd_3 rfl) rfl (by show 2 * 0 + _ ≤ _; exact Nat.le_of_eq rfl) (hb hby at_77) (fun _ _ => ⟨rfl, e84, (by decide : 12 + 4 ≤ _), (by decide : 68 + 48 ≤ _)⟩)
  dsimp only [Pt.U, Pt.locs, Pt.cells, Pt.slots] at X95 l95 y95 z95 st95 hQ95 hSq95 hgr95
  subst l95 y95 z95
  obtain ⟨rfl, N95q, hq96, E97, F98⟩ := hQ95
  have N95 := Fr.app N76 N95q
  have S99 : Sta Z T95.heap "java/lang/String" "COMPACT_STRINGS" "Z" (.int zc) := own_sta_keep S85 hq96 (allS (own_ns_exa A84) all0)
  have E100 : Exa Z T95.heap b1 "java/lang/String" := E86.keep hq96
  have E101 : Exa Z T95.heap b27 "java/lang/String" := E87.keep hq96
  have E102 : Exa Z T95.heap b67 "com/example/arc3/arc3/Judgment" := E88.keep hq96
  have F103 : Fld Z T95.heap b67 "com/example/arc3/arc3/Judgment" "relevance" "I" (.int p1) := F89.keep hq96 (ninS ne_b67_b84 nin0)
  have K95 : Keep h0 T95.heap [] := K84.trans hq96 (allS (Or.inr sz_b84) all0)
  have XS95 : Stand p l e room_1 (s.setVm T95.vm) m #[(.int p1), (.int p2), (.int p3)] below meth c T95 _ _ _ := X95
  have hS95 : s.Since T95.vm T95.heap.size := hS76.trans hSq95 (Nat.le_trans hkk90 (e84 ▸ hgr95))
  have hZ95 : Z.Warmed39 (s.setVm T95.vm).vm := State.Warmed39.trans (t := s.setVm T76.vm) hZ76 hSq95.1
  have ho95 : (s.setVm T95.vm).vm.findClass "com/example/arc3/arc3/JudgmentIsRelevantPinLaw" = some m.cls := by rw [show (s.setVm T95.vm).vm = T95.vm from rfl, hSq95.1.alike.findClass]; exact ho76
  have hk95 : T95.heap.size ≤ T95.heap.size := Nat.le_refl _
  have Zs104 : n0 ≤ T95.heap.size := (Nat.le_trans Zs91 hq96.1)
  obtain ⟨T105, h105, X105, e105, E105, A105, D105, -, st105⟩ := newO XS95 hx hZ95 ho95 (hw _ (List.mem_of_getElem? (i := 30) rfl)) (hw _ (List.mem_of_getElem? (i := 31) rfl)) (hw _ (List.mem_of_getElem? (i := 32) rfl)) rfl (g := (mkF m 82 #[.val (.int p1), .val (.int p2), .val (.int p3), .val (.ref b1), .val (.ref b27), .val (.ref b67), .val (.ref b84), .unset, .unset, .unset, .unset, .unset, .unset] [])) rfl (hb hby at_82) (by decide) (by decide)
  obtain ⟨b105, g105⟩ : ∃ z, z = T95.heap.size := ⟨_, rfl⟩
  have ne_b1_b105 : b1 ≠ b105 := Nat.ne_of_lt (Nat.lt_of_lt_of_le E100.lt (Nat.le_of_eq g105.symm))
  have ne_b27_b105 : b27 ≠ b105 := Nat.ne_of_lt (Nat.lt_of_lt_of_le E101.lt (Nat.le_of_eq g105.symm))
  have ne_b67_b105 : b67 ≠ b105 := Nat.ne_of_lt (Nat.lt_of_lt_of_le E102.lt (Nat.le_of_eq g105.symm))
  have ne_b84_b105 : b84 ≠ b105 := Nat.ne_of_lt (Nat.lt_of_lt_of_le E97.lt (Nat.le_of_eq g105.symm))
  have ge_b105 : n0 ≤ b105 := Nat.le_trans Zs104 (Nat.le_of_eq g105.symm)
  have sz_b105 : h0.size ≤ b105 := Nat.le_trans K95.1 (Nat.le_of_eq g105.symm)
  rw [← g105] at A105 D105 st105
  have S106 : Sta Z h105 "java/lang/String" "COMPACT_STRINGS" "Z" (.int zc) := S99.ext E105
  have E107 : Exa Z h105 b1 "java/lang/String" := E100.ext E105
  have E108 : Exa Z h105 b27 "java/lang/String" := E101.ext E105
  have E109 : Exa Z h105 b67 "com/example/arc3/arc3/Judgment" := E102.ext E105
  have F110 : Fld Z h105 b67 "com/example/arc3/arc3/Judgment" "relevance" "I" (.int p1) := F103.ext E105
  have E111 : Exa Z h105 b84 "com/example/arc3/arc3/Judgment" := E97.ext E105
  have F112 : Fld Z h105 b84 "com/example/arc3/arc3/Judgment" "relevance" "I" (.int p2) := F98.ext E105
  have K105 : Keep h0 h105 [] := K95.ext E105
  have hkk113 : T95.heap.size ≤ h105.size := (Nat.le_trans hk95 E105.1)
  have Zs114 : n0 ≤ h105.size := (Nat.le_trans Zs104 E105.1)
  have F115 : Fld Z h105 b105 "com/example/arc3/arc3/Judgment" "topic" "Ljava/lang/String;" .null := D105 (Or.inr (hw _ (List.mem_of_getElem? (i := 51) rfl))) (ty := (.object "java/lang/String")) (by decide)
  have F116 : Fld Z h105 b105 "com/example/arc3/arc3/Judgment" "docno" "Ljava/lang/String;" .null := D105 (Or.inr (hw _ (List.mem_of_getElem? (i := 53) rfl))) (ty := (.object "java/lang/String")) (by decide)
  have F117 : Fld Z h105 b105 "com/example/arc3/arc3/Judgment" "relevance" "I" (.int (0 : Int32)) := D105 (Or.inr (hw _ (List.mem_of_getElem? (i := 55) rfl))) (ty := .int) (by decide)
  obtain ⟨_, _, ⟨T118, L118, k118, n118⟩, -, X118, hSq118, hgr118, ⟨Lc118, hQ118, l118, y118, z118⟩, st118⟩ := X105.specialBackS hx (y := (⟨"com/example/arc3/arc3/Judgment", "<init>", "(Ljava/lang/String;Ljava/lang/String;I)V"⟩ : MethodName)) rfl ho95 (mvT hZ95 (hw _ (List.mem_of_getElem? (i := 33) rfl))) (mvT hZ95 (hw _ (List.mem_of_getElem? (i := 34) rfl))) (mvT hZ95 (hw _ (List.mem_of_getElem? (i := 35) rfl))) (by decide) (backOfS (W := 1) (rm_ini l Z a0 hw [] b105 b1 b27 (0 : Int32) h105 n0 Zs114 A105 F115 F116 F117 ge_b105) hZ95 (hw _ (List.mem_of_getElem? (i := 35) rfl)) (hw _ (List.mem_of_getElem? (i := 32) rfl)) (by decide) (by decide)) (g := (mkF m 90 #[.val (.int p1), .val (.int p2), .val (.int p3), .val (.ref b1), .val (.ref b27), .val (.ref b67), .val (.ref b84), .unset, .unset, .unset, .unset, .unset, .unset] [(.int (0 : Int32)), (.ref b27), (.ref b1), (.ref b105), (.ref b105)])) rfl (by rw [hml]; rfl) (Steps.refl _) (a := b105) (argsL := [(.ref b1), (.ref b27), (.int (0 : Int32))]) (rest := [(.ref b105)]) (lenOf pd_3 rfl) rfl (by show 2 * 0 + _ ≤ _; exact Nat.le_of_eq rfl) (hb hby at_90) (fun _ _ => ⟨rfl, e105, (by decide : 17 + 4 ≤ _), (by decide : 119 + 48 ≤ _)⟩)
  dsimp only [Pt.U, Pt.locs, Pt.cells, Pt.slots] at X118 l118 y118 z118 st118 hQ118 hSq118 hgr118
  subst l118 y118 z118
  obtain ⟨rfl, N118q, hq119, E120, F121⟩ := hQ118
  have N118 := Fr.app N95 N118q
  have S122 : Sta Z T118.heap "java/lang/String" "COMPACT_STRINGS" "Z" (.int zc) := own_sta_keep S106 hq119 (allS (own_ns_exa A105) all0)
  have E123 : Exa Z T118.heap b1 "java/lang/String" := E107.keep hq119
  have E124 : Exa Z T118.heap b27 "java/lang/String" := E108.keep hq119
  have E125 : Exa Z T118.heap b67 "com/example/arc3/arc3/Judgment" := E109.keep hq119
  have F126 : Fld Z T118.heap b67 "com/example/arc3/arc3/Judgment" "relevance" "I" (.int p1) := F110.keep hq119 (ninS ne_b67_b105 nin0)
  have E127 : Exa Z T118.heap b84 "com/example/arc3/arc3/Judgment" := E111.keep hq119
  have F128 : Fld Z T118.heap b84 "com/example/arc3/arc3/Judgment" "relevance" "I" (.int p2) := F112.keep hq119 (ninS ne_b84_b105 nin0)
  have K118 : Keep h0 T118.heap [] := K105.trans hq119 (allS (Or.inr sz_b105) all0)
  have XS118 : Stand p l e room_1 (s.setVm T118.vm) m #[(.int p1), (.int p2), (.int p3)] below meth c T118 _ _ _ := X118
  have hS118 : s.Since T118.vm T118.heap.size := hS95.trans hSq118 (Nat.le_trans hkk113 (e105 ▸ hgr118))
  have hZ118 : Z.Warmed39 (s.setVm T118.vm).vm := State.Warmed39.trans (t := s.setVm T95.vm) hZ95 hSq118.1
  have ho118 : (s.setVm T118.vm).vm.findClass "com/example/arc3/arc3/JudgmentIsRelevantPinLaw" = some m.cls := by rw [show (s.setVm T118.vm).vm = T118.vm from rfl, hSq118.1.alike.findClass]; exact ho95
  have hk118 : T118.heap.size ≤ T118.heap.size := Nat.le_refl _
  have Zs129 : n0 ≤ T118.heap.size := (Nat.le_trans Zs114 hq119.1)
  obtain ⟨T130, h130, X130, e130, E130, A130, D130, -, st130⟩ := newO XS118 hx hZ118 ho118 (hw _ (List.mem_of_getElem? (i := 30) rfl)) (hw _ (List.mem_of_getElem? (i := 31) rfl)) (hw _ (List.mem_of_getElem? (i := 32) rfl)) rfl (g := (mkF m 95 #[.val (.int p1), .val (.int p2), .val (.int p3), .val (.ref b1), .val (.ref b27), .val (.ref b67), .val (.ref b84), .val (.ref b105), .unset, .unset, .unset, .unset, .unset] [])) rfl (hb hby at_95) (by decide) (by decide)
  obtain ⟨b130, g130⟩ : ∃ z, z = T118.heap.size := ⟨_, rfl⟩
  have ne_b1_b130 : b1 ≠ b130 := Nat.ne_of_lt (Nat.lt_of_lt_of_le E123.lt (Nat.le_of_eq g130.symm))
  have ne_b27_b130 : b27 ≠ b130 := Nat.ne_of_lt (Nat.lt_of_lt_of_le E124.lt (Nat.le_of_eq g130.symm))
  have ne_b67_b130 : b67 ≠ b130 := Nat.ne_of_lt (Nat.lt_of_lt_of_le E125.lt (Nat.le_of_eq g130.symm))
  have ne_b84_b130 : b84 ≠ b130 := Nat.ne_of_lt (Nat.lt_of_lt_of_le E127.lt (Nat.le_of_eq g130.symm))
  have ne_b105_b130 : b105 ≠ b130 := Nat.ne_of_lt (Nat.lt_of_lt_of_le E120.lt (Nat.le_of_eq g130.symm))
  have ge_b130 : n0 ≤ b130 := Nat.le_trans Zs129 (Nat.le_of_eq g130.symm)
  have sz_b130 : h0.size ≤ b130 := Nat.le_trans K118.1 (Nat.le_of_eq g130.symm)
  rw [← g130] at A130 D130 st130
  have S131 : Sta Z h130 "java/lang/String" "COMPACT_STRINGS" "Z" (.int zc) := S122.ext E130
  have E132 : Exa Z h130 b1 "java/lang/String" := E123.ext E130
  have E133 : Exa Z h130 b27 "java/lang/String" := E124.ext E130
  have E134 : Exa Z h130 b67 "com/example/arc3/arc3/Judgment" := E125.ext E130
  have F135 : Fld Z h130 b67 "com/example/arc3/arc3/Judgment" "relevance" "I" (.int p1) := F126.ext E130
  have E136 : Exa Z h130 b84 "com/example/arc3/arc3/Judgment" := E127.ext E130
  have F137 : Fld Z h130 b84 "com/example/arc3/arc3/Judgment" "relevance" "I" (.int p2) := F128.ext E130
  have E138 : Exa Z h130 b105 "com/example/arc3/arc3/Judgment" := E120.ext E130
  have F139 : Fld Z h130 b105 "com/example/arc3/arc3/Judgment" "relevance" "I" (.int (0 : Int32)) := F121.ext E130
  have K130 : Keep h0 h130 [] := K118.ext E130
  have hkk140 : T118.heap.size ≤ h130.size := (Nat.le_trans hk118 E130.1)
  have Zs141 : n0 ≤ h130.size := (Nat.le_trans Zs129 E130.1)
  have F142 : Fld Z h130 b130 "com/example/arc3/arc3/Judgment" "topic" "Ljava/lang/String;" .null := D130 (Or.inr (hw _ (List.mem_of_getElem? (i := 51) rfl))) (ty := (.object "java/lang/String")) (by decide)
  have F143 : Fld Z h130 b130 "com/example/arc3/arc3/Judgment" "docno" "Ljava/lang/String;" .null := D130 (Or.inr (hw _ (List.mem_of_getElem? (i := 53) rfl))) (ty := (.object "java/lang/String")) (by decide)
  have F144 : Fld Z h130 b130 "com/example/arc3/arc3/Judgment" "relevance" "I" (.int (0 : Int32)) := D130 (Or.inr (hw _ (List.mem_of_getElem? (i := 55) rfl))) (ty := .int) (by decide)
  obtain ⟨_, _, ⟨T145, L145, k145, n145⟩, -, X145, hSq145, hgr145, ⟨Lc145, hQ145, l145, y145, z145⟩, st145⟩ := X130.specialBackS hx (y := (⟨"com/example/arc3/arc3/Judgment", "<init>", "(Ljava/lang/String;Ljava/lang/String;I)V"⟩ : MethodName)) rfl ho118 (mvT hZ118 (hw _ (List.mem_of_getElem? (i := 33) rfl))) (mvT hZ118 (hw _ (List.mem_of_getElem? (i := 34) rfl))) (mvT hZ118 (hw _ (List.mem_of_getElem? (i := 35) rfl))) (by decide) (backOfS (W := 1) (rm_ini l Z a0 hw [] b130 b27 b1 (1 : Int32) h130 n0 Zs141 A130 F142 F143 F144 ge_b130) hZ118 (hw _ (List.mem_of_getElem? (i := 35) rfl)) (hw _ (List.mem_of_getElem? (i := 32) rfl)) (by decide) (by decide)) (g := (mkF m 103 #[.val (.int p1), .val (.int p2), .val (.int p3), .val (.ref b1), .val (.ref b27), .val (.ref b67), .val (.ref b84), .val (.ref b105), .unset, .unset, .unset, .unset, .unset] [(.int (1 : Int32)), (.ref b1), (.ref b27), (.ref b130), (.ref b130)])) rfl (by rw [hml]; rfl) (Steps.refl _) (a := b130) (argsL := [(.ref b27), (.ref b1), (.int (1 : Int32))]) (rest := [(.ref b130)]) (lenOf pd_3 rfl) rfl (by show 2 * 0 + _ ≤ _; exact Nat.le_of_eq rfl) (hb hby at_103) (fun _ _ => ⟨rfl, e130, (by decide : 22 + 4 ≤ _), (by decide : 170 + 48 ≤ _)⟩)
  dsimp only [Pt.U, Pt.locs, Pt.cells, Pt.slots] at X145 l145 y145 z145 st145 hQ145 hSq145 hgr145
  subst l145 y145 z145
  obtain ⟨rfl, N145q, hq146, E147, F148⟩ := hQ145
  have N145 := Fr.app N118 N145q
  have S149 : Sta Z T145.heap "java/lang/String" "COMPACT_STRINGS" "Z" (.int zc) := own_sta_keep S131 hq146 (allS (own_ns_exa A130) all0)
  have E150 : Exa Z T145.heap b1 "java/lang/String" := E132.keep hq146
  have E151 : Exa Z T145.heap b27 "java/lang/String" := E133.keep hq146
  have E152 : Exa Z T145.heap b67 "com/example/arc3/arc3/Judgment" := E134.keep hq146
  have F153 : Fld Z T145.heap b67 "com/example/arc3/arc3/Judgment" "relevance" "I" (.int p1) := F135.keep hq146 (ninS ne_b67_b130 nin0)
  have E154 : Exa Z T145.heap b84 "com/example/arc3/arc3/Judgment" := E136.keep hq146
  have F155 : Fld Z T145.heap b84 "com/example/arc3/arc3/Judgment" "relevance" "I" (.int p2) := F137.keep hq146 (ninS ne_b84_b130 nin0)
  have E156 : Exa Z T145.heap b105 "com/example/arc3/arc3/Judgment" := E138.keep hq146
  have F157 : Fld Z T145.heap b105 "com/example/arc3/arc3/Judgment" "relevance" "I" (.int (0 : Int32)) := F139.keep hq146 (ninS ne_b105_b130 nin0)
  have K145 : Keep h0 T145.heap [] := K130.trans hq146 (allS (Or.inr sz_b130) all0)
  have XS145 : Stand p l e room_1 (s.setVm T145.vm) m #[(.int p1), (.int p2), (.int p3)] below meth c T145 _ _ _ := X145
  have hS145 : s.Since T145.vm T145.heap.size := hS118.trans hSq145 (Nat.le_trans hkk140 (e130 ▸ hgr145))
  have hZ145 : Z.Warmed39 (s.setVm T145.vm).vm := State.Warmed39.trans (t := s.setVm T118.vm) hZ118 hSq145.1
  have ho145 : (s.setVm T145.vm).vm.findClass "com/example/arc3/arc3/JudgmentIsRelevantPinLaw" = some m.cls := by rw [show (s.setVm T145.vm).vm = T145.vm from rfl, hSq145.1.alike.findClass]; exact ho118
  have hk145 : T145.heap.size ≤ T145.heap.size := Nat.le_refl _
  have Zs158 : n0 ≤ T145.heap.size := (Nat.le_trans Zs141 hq146.1)
  have pre159 := fun (t : State) (k : Steps p.tables e below (T145.setTop (mkF m 110 #[.val (.int p1), .val (.int p2), .val (.int p3), .val (.ref b1), .val (.ref b27), .val (.ref b67), .val (.ref b84), .val (.ref b105), .val (.ref b130), .unset, .unset, .unset, .unset] [(.ref b67)])) t) => pre0 t (by
    refine st1 _ ?_
    show Steps p.tables e below (T1.setTop (mkF m 3 #[.val (.int p1), .val (.int p2), .val (.int p3), .unset, .unset, .unset, .unset, .unset, .unset, .unset, .unset, .unset, .unset] [(.ref b1)])) _
    refine XS.dup X1.here hx rfl (hb hby at_3) rfl rfl ?_
    show Steps p.tables e below (T1.setTop (mkF m 4 #[.val (.int p1), .val (.int p2), .val (.int p3), .unset, .unset, .unset, .unset, .unset, .unset, .unset, .unset, .unset, .unset] [(.ref b1), (.ref b1)])) _
    refine XS.iconst X1.here hx rfl (hb hby at_4) ?_
    show Steps p.tables e below (T1.setTop (mkF m 5 #[.val (.int p1), .val (.int p2), .val (.int p3), .unset, .unset, .unset, .unset, .unset, .unset, .unset, .unset, .unset, .unset] [(.int (1 : Int32)), (.ref b1), (.ref b1)])) _
    refine st7 _ ?_
    show Steps p.tables e below (T7.setTop (mkF m 7 #[.val (.int p1), .val (.int p2), .val (.int p3), .unset, .unset, .unset, .unset, .unset, .unset, .unset, .unset, .unset, .unset] [(.ref b7), (.ref b1), (.ref b1)])) _
    refine XS.dup X7.here hx rfl (hb hby at_7) rfl rfl ?_
    show Steps p.tables e below (T7.setTop (mkF m 8 #[.val (.int p1), .val (.int p2), .val (.int p3), .unset, .unset, .unset, .unset, .unset, .unset, .unset, .unset, .unset, .unset] [(.ref b7), (.ref b7), (.ref b1), (.ref b1)])) _
    refine XS.iconst X7.here hx rfl (hb hby at_8) ?_
    show Steps p.tables e below (T7.setTop (mkF m 9 #[.val (.int p1), .val (.int p2), .val (.int p3), .unset, .unset, .unset, .unset, .unset, .unset, .unset, .unset, .unset, .unset] [(.int (0 : Int32)), (.ref b7), (.ref b7), (.ref b1), (.ref b1)])) _
    refine XS.iloadN X7.here hx rfl (hb hby at_9) rfl ?_
    show Steps p.tables e below (T7.setTop (mkF m 10 #[.val (.int p1), .val (.int p2), .val (.int p3), .unset, .unset, .unset, .unset, .unset, .unset, .unset, .unset, .unset, .unset] [(.int p3), (.int (0 : Int32)), (.ref b7), (.ref b7), (.ref b1), (.ref b1)])) _
    refine XS.sipush X7.here hx rfl (hb hby at_10) ?_
    show Steps p.tables e below (T7.setTop (mkF m 13 #[.val (.int p1), .val (.int p2), .val (.int p3), .unset, .unset, .unset, .unset, .unset, .unset, .unset, .unset, .unset, .unset] [(.int (255 : Int32)), (.int p3), (.int (0 : Int32)), (.ref b7), (.ref b7), (.ref b1), (.ref b1)])) _
    refine XS.iand X7.here hx rfl (hb hby at_13) rfl ?_
    show Steps p.tables e below (T7.setTop (mkF m 14 #[.val (.int p1), .val (.int p2), .val (.int p3), .unset, .unset, .unset, .unset, .unset, .unset, .unset, .unset, .unset, .unset] [(.int (p3 &&& (255 : Int32))), (.int (0 : Int32)), (.ref b7), (.ref b7), (.ref b1), (.ref b1)])) _
    refine XS.i2c X7.here hx rfl (hb hby at_14) rfl ?_
    show Steps p.tables e below (T7.setTop (mkF m 15 #[.val (.int p1), .val (.int p2), .val (.int p3), .unset, .unset, .unset, .unset, .unset, .unset, .unset, .unset, .unset, .unset] [(.int ((p3 &&& (255 : Int32)).toUInt32.toUInt16.toUInt32.toInt32)), (.int (0 : Int32)), (.ref b7), (.ref b7), (.ref b1), (.ref b1)])) _
    refine st15 _ ?_
    show Steps p.tables e below (T15.setTop (mkF m 16 #[.val (.int p1), .val (.int p2), .val (.int p3), .unset, .unset, .unset, .unset, .unset, .unset, .unset, .unset, .unset, .unset] [(.ref b7), (.ref b1), (.ref b1)])) _
    refine st23.trans ?_
    show Steps p.tables e below (T23.setTop (mkF m 19 #[.val (.int p1), .val (.int p2), .val (.int p3), .unset, .unset, .unset, .unset, .unset, .unset, .unset, .unset, .unset, .unset] [(.ref b1)])) _
    refine XS.astoreN X23.here hx rfl (hb hby at_19) rfl rfl (l' := #[.val (.int p1), .val (.int p2), .val (.int p3), .val (.ref b1), .unset, .unset, .unset, .unset, .unset, .unset, .unset, .unset, .unset]) rfl ?_
    show Steps p.tables e below (T23.setTop (mkF m 20 #[.val (.int p1), .val (.int p2), .val (.int p3), .val (.ref b1), .unset, .unset, .unset, .unset, .unset, .unset, .unset, .unset, .unset] [])) _
    refine st27 _ ?_
    show Steps p.tables e below (T27.setTop (mkF m 23 #[.val (.int p1), .val (.int p2), .val (.int p3), .val (.ref b1), .unset, .unset, .unset, .unset, .unset, .unset, .unset, .unset, .unset] [(.ref b27)])) _
    refine XS.dup X27.here hx rfl (hb hby at_23) rfl rfl ?_
    show Steps p.tables e below (T27.setTop (mkF m 24 #[.val (.int p1), .val (.int p2), .val (.int p3), .val (.ref b1), .unset, .unset, .unset, .unset, .unset, .unset, .unset, .unset, .unset] [(.ref b27), (.ref b27)])) _
    refine XS.iconst X27.here hx rfl (hb hby at_24) ?_
    show Steps p.tables e below (T27.setTop (mkF m 25 #[.val (.int p1), .val (.int p2), .val (.int p3), .val (.ref b1), .unset, .unset, .unset, .unset, .unset, .unset, .unset, .unset, .unset] [(.int (2 : Int32)), (.ref b27), (.ref b27)])) _
    refine st34 _ ?_
    show Steps p.tables e below (T34.setTop (mkF m 27 #[.val (.int p1), .val (.int p2), .val (.int p3), .val (.ref b1), .unset, .unset, .unset, .unset, .unset, .unset, .unset, .unset, .unset] [(.ref b34), (.ref b27), (.ref b27)])) _
    refine XS.dup X34.here hx rfl (hb hby at_27) rfl rfl ?_
    show Steps p.tables e below (T34.setTop (mkF m 28 #[.val (.int p1), .val (.int p2), .val (.int p3), .val (.ref b1), .unset, .unset, .unset, .unset, .unset, .unset, .unset, .unset, .unset] [(.ref b34), (.ref b34), (.ref b27), (.ref b27)])) _
    refine XS.iconst X34.here hx rfl (hb hby at_28) ?_
    show Steps p.tables e below (T34.setTop (mkF m 29 #[.val (.int p1), .val (.int p2), .val (.int p3), .val (.ref b1), .unset, .unset, .unset, .unset, .unset, .unset, .unset, .unset, .unset] [(.int (0 : Int32)), (.ref b34), (.ref b34), (.ref b27), (.ref b27)])) _
    refine XS.iloadN X34.here hx rfl (hb hby at_29) rfl ?_
    show Steps p.tables e below (T34.setTop (mkF m 30 #[.val (.int p1), .val (.int p2), .val (.int p3), .val (.ref b1), .unset, .unset, .unset, .unset, .unset, .unset, .unset, .unset, .unset] [(.int p3), (.int (0 : Int32)), (.ref b34), (.ref b34), (.ref b27), (.ref b27)])) _
    refine XS.bipush X34.here hx rfl (hb hby at_30) ?_
    show Steps p.tables e below (T34.setTop (mkF m 32 #[.val (.int p1), .val (.int p2), .val (.int p3), .val (.ref b1), .unset, .unset, .unset, .unset, .unset, .unset, .unset, .unset, .unset] [(.int (8 : Int32)), (.int p3), (.int (0 : Int32)), (.ref b34), (.ref b34), (.ref b27), (.ref b27)])) _
    refine XS.iushr X34.here hx rfl (hb hby at_32) rfl ?_
    show Steps p.tables e below (T34.setTop (mkF m 33 #[.val (.int p1), .val (.int p2), .val (.int p3), .val (.ref b1), .unset, .unset, .unset, .unset, .unset, .unset, .unset, .unset, .unset] [(.int ((p3.toUInt32 >>> ((8 : Int32) &&& 31).toUInt32).toInt32)), (.int (0 : Int32)), (.ref b34), (.ref b34), (.ref b27), (.ref b27)])) _
    refine XS.sipush X34.here hx rfl (hb hby at_33) ?_
    show Steps p.tables e below (T34.setTop (mkF m 36 #[.val (.int p1), .val (.int p2), .val (.int p3), .val (.ref b1), .unset, .unset, .unset, .unset, .unset, .unset, .unset, .unset, .unset] [(.int (255 : Int32)), (.int ((p3.toUInt32 >>> ((8 : Int32) &&& 31).toUInt32).toInt32)), (.int (0 : Int32)), (.ref b34), (.ref b34), (.ref b27), (.ref b27)])) _
    refine XS.iand X34.here hx rfl (hb hby at_36) rfl ?_
    show Steps p.tables e below (T34.setTop (mkF m 37 #[.val (.int p1), .val (.int p2), .val (.int p3), .val (.ref b1), .unset, .unset, .unset, .unset, .unset, .unset, .unset, .unset, .unset] [(.int (((p3.toUInt32 >>> ((8 : Int32) &&& 31).toUInt32).toInt32) &&& (255 : Int32))), (.int (0 : Int32)), (.ref b34), (.ref b34), (.ref b27), (.ref b27)])) _
    refine XS.i2c X34.here hx rfl (hb hby at_37) rfl ?_
    show Steps p.tables e below (T34.setTop (mkF m 38 #[.val (.int p1), .val (.int p2), .val (.int p3), .val (.ref b1), .unset, .unset, .unset, .unset, .unset, .unset, .unset, .unset, .unset] [(.int ((((p3.toUInt32 >>> ((8 : Int32) &&& 31).toUInt32).toInt32) &&& (255 : Int32)).toUInt32.toUInt16.toUInt32.toInt32)), (.int (0 : Int32)), (.ref b34), (.ref b34), (.ref b27), (.ref b27)])) _
    refine st43 _ ?_
    show Steps p.tables e below (T43.setTop (mkF m 39 #[.val (.int p1), .val (.int p2), .val (.int p3), .val (.ref b1), .unset, .unset, .unset, .unset, .unset, .unset, .unset, .unset, .unset] [(.ref b34), (.ref b27), (.ref b27)])) _
    refine XS.dup X43.here hx rfl (hb hby at_39) rfl rfl ?_
    show Steps p.tables e below (T43.setTop (mkF m 40 #[.val (.int p1), .val (.int p2), .val (.int p3), .val (.ref b1), .unset, .unset, .unset, .unset, .unset, .unset, .unset, .unset, .unset] [(.ref b34), (.ref b34), (.ref b27), (.ref b27)])) _
    refine XS.iconst X43.here hx rfl (hb hby at_40) ?_
    show Steps p.tables e below (T43.setTop (mkF m 41 #[.val (.int p1), .val (.int p2), .val (.int p3), .val (.ref b1), .unset, .unset, .unset, .unset, .unset, .unset, .unset, .unset, .unset] [(.int (1 : Int32)), (.ref b34), (.ref b34), (.ref b27), (.ref b27)])) _
    refine XS.iloadN X43.here hx rfl (hb hby at_41) rfl ?_
    show Steps p.tables e below (T43.setTop (mkF m 42 #[.val (.int p1), .val (.int p2), .val (.int p3), .val (.ref b1), .unset, .unset, .unset, .unset, .unset, .unset, .unset, .unset, .unset] [(.int p3), (.int (1 : Int32)), (.ref b34), (.ref b34), (.ref b27), (.ref b27)])) _
    refine XS.bipush X43.here hx rfl (hb hby at_42) ?_
    show Steps p.tables e below (T43.setTop (mkF m 44 #[.val (.int p1), .val (.int p2), .val (.int p3), .val (.ref b1), .unset, .unset, .unset, .unset, .unset, .unset, .unset, .unset, .unset] [(.int (16 : Int32)), (.int p3), (.int (1 : Int32)), (.ref b34), (.ref b34), (.ref b27), (.ref b27)])) _
    refine XS.iushr X43.here hx rfl (hb hby at_44) rfl ?_
    show Steps p.tables e below (T43.setTop (mkF m 45 #[.val (.int p1), .val (.int p2), .val (.int p3), .val (.ref b1), .unset, .unset, .unset, .unset, .unset, .unset, .unset, .unset, .unset] [(.int ((p3.toUInt32 >>> ((16 : Int32) &&& 31).toUInt32).toInt32)), (.int (1 : Int32)), (.ref b34), (.ref b34), (.ref b27), (.ref b27)])) _
    refine XS.sipush X43.here hx rfl (hb hby at_45) ?_
    show Steps p.tables e below (T43.setTop (mkF m 48 #[.val (.int p1), .val (.int p2), .val (.int p3), .val (.ref b1), .unset, .unset, .unset, .unset, .unset, .unset, .unset, .unset, .unset] [(.int (255 : Int32)), (.int ((p3.toUInt32 >>> ((16 : Int32) &&& 31).toUInt32).toInt32)), (.int (1 : Int32)), (.ref b34), (.ref b34), (.ref b27), (.ref b27)])) _
    refine XS.iand X43.here hx rfl (hb hby at_48) rfl ?_
    show Steps p.tables e below (T43.setTop (mkF m 49 #[.val (.int p1), .val (.int p2), .val (.int p3), .val (.ref b1), .unset, .unset, .unset, .unset, .unset, .unset, .unset, .unset, .unset] [(.int (((p3.toUInt32 >>> ((16 : Int32) &&& 31).toUInt32).toInt32) &&& (255 : Int32))), (.int (1 : Int32)), (.ref b34), (.ref b34), (.ref b27), (.ref b27)])) _
    refine XS.i2c X43.here hx rfl (hb hby at_49) rfl ?_
    show Steps p.tables e below (T43.setTop (mkF m 50 #[.val (.int p1), .val (.int p2), .val (.int p3), .val (.ref b1), .unset, .unset, .unset, .unset, .unset, .unset, .unset, .unset, .unset] [(.int ((((p3.toUInt32 >>> ((16 : Int32) &&& 31).toUInt32).toInt32) &&& (255 : Int32)).toUInt32.toUInt16.toUInt32.toInt32)), (.int (1 : Int32)), (.ref b34), (.ref b34), (.ref b27), (.ref b27)])) _
    refine st53 _ ?_
    show Steps p.tables e below (T53.setTop (mkF m 51 #[.val (.int p1), .val (.int p2), .val (.int p3), .val (.ref b1), .unset, .unset, .unset, .unset, .unset, .unset, .unset, .unset, .unset] [(.ref b34), (.ref b27), (.ref b27)])) _
    refine st62.trans ?_
    show Steps p.tables e below (T62.setTop (mkF m 54 #[.val (.int p1), .val (.int p2), .val (.int p3), .val (.ref b1), .unset, .unset, .unset, .unset, .unset, .unset, .unset, .unset, .unset] [(.ref b27)])) _
    refine XS.astore X62.here hx rfl (hb hby at_54) rfl rfl (l' := #[.val (.int p1), .val (.int p2), .val (.int p3), .val (.ref b1), .val (.ref b27), .unset, .unset, .unset, .unset, .unset, .unset, .unset, .unset]) rfl ?_
    show Steps p.tables e below (T62.setTop (mkF m 56 #[.val (.int p1), .val (.int p2), .val (.int p3), .val (.ref b1), .val (.ref b27), .unset, .unset, .unset, .unset, .unset, .unset, .unset, .unset] [])) _
    refine st67 _ ?_
    show Steps p.tables e below (T67.setTop (mkF m 59 #[.val (.int p1), .val (.int p2), .val (.int p3), .val (.ref b1), .val (.ref b27), .unset, .unset, .unset, .unset, .unset, .unset, .unset, .unset] [(.ref b67)])) _
    refine XS.dup X67.here hx rfl (hb hby at_59) rfl rfl ?_
    show Steps p.tables e below (T67.setTop (mkF m 60 #[.val (.int p1), .val (.int p2), .val (.int p3), .val (.ref b1), .val (.ref b27), .unset, .unset, .unset, .unset, .unset, .unset, .unset, .unset] [(.ref b67), (.ref b67)])) _
    refine XS.aloadN X67.here hx rfl (hb hby at_60) rfl rfl ?_
    show Steps p.tables e below (T67.setTop (mkF m 61 #[.val (.int p1), .val (.int p2), .val (.int p3), .val (.ref b1), .val (.ref b27), .unset, .unset, .unset, .unset, .unset, .unset, .unset, .unset] [(.ref b1), (.ref b67), (.ref b67)])) _
    refine XS.aload X67.here hx rfl (hb hby at_61) rfl rfl ?_
    show Steps p.tables e below (T67.setTop (mkF m 63 #[.val (.int p1), .val (.int p2), .val (.int p3), .val (.ref b1), .val (.ref b27), .unset, .unset, .unset, .unset, .unset, .unset, .unset, .unset] [(.ref b27), (.ref b1), (.ref b67), (.ref b67)])) _
    refine XS.iloadN X67.here hx rfl (hb hby at_63) rfl ?_
    show Steps p.tables e below (T67.setTop (mkF m 64 #[.val (.int p1), .val (.int p2), .val (.int p3), .val (.ref b1), .val (.ref b27), .unset, .unset, .unset, .unset, .unset, .unset, .unset, .unset] [(.int p1), (.ref b27), (.ref b1), (.ref b67), (.ref b67)])) _
    refine st76.trans ?_
    show Steps p.tables e below (T76.setTop (mkF m 67 #[.val (.int p1), .val (.int p2), .val (.int p3), .val (.ref b1), .val (.ref b27), .unset, .unset, .unset, .unset, .unset, .unset, .unset, .unset] [(.ref b67)])) _
    refine XS.astore XS76.here hx rfl (hb hby at_67) rfl rfl (l' := #[.val (.int p1), .val (.int p2), .val (.int p3), .val (.ref b1), .val (.ref b27), .val (.ref b67), .unset, .unset, .unset, .unset, .unset, .unset, .unset]) rfl ?_
    show Steps p.tables e below (T76.setTop (mkF m 69 #[.val (.int p1), .val (.int p2), .val (.int p3), .val (.ref b1), .val (.ref b27), .val (.ref b67), .unset, .unset, .unset, .unset, .unset, .unset, .unset] [])) _
    refine st84 _ ?_
    show Steps p.tables e below (T84.setTop (mkF m 72 #[.val (.int p1), .val (.int p2), .val (.int p3), .val (.ref b1), .val (.ref b27), .val (.ref b67), .unset, .unset, .unset, .unset, .unset, .unset, .unset] [(.ref b84)])) _
    refine XS.dup X84.here hx rfl (hb hby at_72) rfl rfl ?_
    show Steps p.tables e below (T84.setTop (mkF m 73 #[.val (.int p1), .val (.int p2), .val (.int p3), .val (.ref b1), .val (.ref b27), .val (.ref b67), .unset, .unset, .unset, .unset, .unset, .unset, .unset] [(.ref b84), (.ref b84)])) _
    refine XS.aload X84.here hx rfl (hb hby at_73) rfl rfl ?_
    show Steps p.tables e below (T84.setTop (mkF m 75 #[.val (.int p1), .val (.int p2), .val (.int p3), .val (.ref b1), .val (.ref b27), .val (.ref b67), .unset, .unset, .unset, .unset, .unset, .unset, .unset] [(.ref b27), (.ref b84), (.ref b84)])) _
    refine XS.aloadN X84.here hx rfl (hb hby at_75) rfl rfl ?_
    show Steps p.tables e below (T84.setTop (mkF m 76 #[.val (.int p1), .val (.int p2), .val (.int p3), .val (.ref b1), .val (.ref b27), .val (.ref b67), .unset, .unset, .unset, .unset, .unset, .unset, .unset] [(.ref b1), (.ref b27), (.ref b84), (.ref b84)])) _
    refine XS.iloadN X84.here hx rfl (hb hby at_76) rfl ?_
    show Steps p.tables e below (T84.setTop (mkF m 77 #[.val (.int p1), .val (.int p2), .val (.int p3), .val (.ref b1), .val (.ref b27), .val (.ref b67), .unset, .unset, .unset, .unset, .unset, .unset, .unset] [(.int p2), (.ref b1), (.ref b27), (.ref b84), (.ref b84)])) _
    refine st95.trans ?_
    show Steps p.tables e below (T95.setTop (mkF m 80 #[.val (.int p1), .val (.int p2), .val (.int p3), .val (.ref b1), .val (.ref b27), .val (.ref b67), .unset, .unset, .unset, .unset, .unset, .unset, .unset] [(.ref b84)])) _
    refine XS.astore XS95.here hx rfl (hb hby at_80) rfl rfl (l' := #[.val (.int p1), .val (.int p2), .val (.int p3), .val (.ref b1), .val (.ref b27), .val (.ref b67), .val (.ref b84), .unset, .unset, .unset, .unset, .unset, .unset]) rfl ?_
    show Steps p.tables e below (T95.setTop (mkF m 82 #[.val (.int p1), .val (.int p2), .val (.int p3), .val (.ref b1), .val (.ref b27), .val (.ref b67), .val (.ref b84), .unset, .unset, .unset, .unset, .unset, .unset] [])) _
    refine st105 _ ?_
    show Steps p.tables e below (T105.setTop (mkF m 85 #[.val (.int p1), .val (.int p2), .val (.int p3), .val (.ref b1), .val (.ref b27), .val (.ref b67), .val (.ref b84), .unset, .unset, .unset, .unset, .unset, .unset] [(.ref b105)])) _
    refine XS.dup X105.here hx rfl (hb hby at_85) rfl rfl ?_
    show Steps p.tables e below (T105.setTop (mkF m 86 #[.val (.int p1), .val (.int p2), .val (.int p3), .val (.ref b1), .val (.ref b27), .val (.ref b67), .val (.ref b84), .unset, .unset, .unset, .unset, .unset, .unset] [(.ref b105), (.ref b105)])) _
    refine XS.aloadN X105.here hx rfl (hb hby at_86) rfl rfl ?_
    show Steps p.tables e below (T105.setTop (mkF m 87 #[.val (.int p1), .val (.int p2), .val (.int p3), .val (.ref b1), .val (.ref b27), .val (.ref b67), .val (.ref b84), .unset, .unset, .unset, .unset, .unset, .unset] [(.ref b1), (.ref b105), (.ref b105)])) _
    refine XS.aload X105.here hx rfl (hb hby at_87) rfl rfl ?_
    show Steps p.tables e below (T105.setTop (mkF m 89 #[.val (.int p1), .val (.int p2), .val (.int p3), .val (.ref b1), .val (.ref b27), .val (.ref b67), .val (.ref b84), .unset, .unset, .unset, .unset, .unset, .unset] [(.ref b27), (.ref b1), (.ref b105), (.ref b105)])) _
    refine XS.iconst X105.here hx rfl (hb hby at_89) ?_
    show Steps p.tables e below (T105.setTop (mkF m 90 #[.val (.int p1), .val (.int p2), .val (.int p3), .val (.ref b1), .val (.ref b27), .val (.ref b67), .val (.ref b84), .unset, .unset, .unset, .unset, .unset, .unset] [(.int (0 : Int32)), (.ref b27), (.ref b1), (.ref b105), (.ref b105)])) _
    refine st118.trans ?_
    show Steps p.tables e below (T118.setTop (mkF m 93 #[.val (.int p1), .val (.int p2), .val (.int p3), .val (.ref b1), .val (.ref b27), .val (.ref b67), .val (.ref b84), .unset, .unset, .unset, .unset, .unset, .unset] [(.ref b105)])) _
    refine XS.astore XS118.here hx rfl (hb hby at_93) rfl rfl (l' := #[.val (.int p1), .val (.int p2), .val (.int p3), .val (.ref b1), .val (.ref b27), .val (.ref b67), .val (.ref b84), .val (.ref b105), .unset, .unset, .unset, .unset, .unset]) rfl ?_
    show Steps p.tables e below (T118.setTop (mkF m 95 #[.val (.int p1), .val (.int p2), .val (.int p3), .val (.ref b1), .val (.ref b27), .val (.ref b67), .val (.ref b84), .val (.ref b105), .unset, .unset, .unset, .unset, .unset] [])) _
    refine st130 _ ?_
    show Steps p.tables e below (T130.setTop (mkF m 98 #[.val (.int p1), .val (.int p2), .val (.int p3), .val (.ref b1), .val (.ref b27), .val (.ref b67), .val (.ref b84), .val (.ref b105), .unset, .unset, .unset, .unset, .unset] [(.ref b130)])) _
    refine XS.dup X130.here hx rfl (hb hby at_98) rfl rfl ?_
    show Steps p.tables e below (T130.setTop (mkF m 99 #[.val (.int p1), .val (.int p2), .val (.int p3), .val (.ref b1), .val (.ref b27), .val (.ref b67), .val (.ref b84), .val (.ref b105), .unset, .unset, .unset, .unset, .unset] [(.ref b130), (.ref b130)])) _
    refine XS.aload X130.here hx rfl (hb hby at_99) rfl rfl ?_
    show Steps p.tables e below (T130.setTop (mkF m 101 #[.val (.int p1), .val (.int p2), .val (.int p3), .val (.ref b1), .val (.ref b27), .val (.ref b67), .val (.ref b84), .val (.ref b105), .unset, .unset, .unset, .unset, .unset] [(.ref b27), (.ref b130), (.ref b130)])) _
    refine XS.aloadN X130.here hx rfl (hb hby at_101) rfl rfl ?_
    show Steps p.tables e below (T130.setTop (mkF m 102 #[.val (.int p1), .val (.int p2), .val (.int p3), .val (.ref b1), .val (.ref b27), .val (.ref b67), .val (.ref b84), .val (.ref b105), .unset, .unset, .unset, .unset, .unset] [(.ref b1), (.ref b27), (.ref b130), (.ref b130)])) _
    refine XS.iconst X130.here hx rfl (hb hby at_102) ?_
    show Steps p.tables e below (T130.setTop (mkF m 103 #[.val (.int p1), .val (.int p2), .val (.int p3), .val (.ref b1), .val (.ref b27), .val (.ref b67), .val (.ref b84), .val (.ref b105), .unset, .unset, .unset, .unset, .unset] [(.int (1 : Int32)), (.ref b1), (.ref b27), (.ref b130), (.ref b130)])) _
    refine st145.trans ?_
    show Steps p.tables e below (T145.setTop (mkF m 106 #[.val (.int p1), .val (.int p2), .val (.int p3), .val (.ref b1), .val (.ref b27), .val (.ref b67), .val (.ref b84), .val (.ref b105), .unset, .unset, .unset, .unset, .unset] [(.ref b130)])) _
    refine XS.astore XS145.here hx rfl (hb hby at_106) rfl rfl (l' := #[.val (.int p1), .val (.int p2), .val (.int p3), .val (.ref b1), .val (.ref b27), .val (.ref b67), .val (.ref b84), .val (.ref b105), .val (.ref b130), .unset, .unset, .unset, .unset]) rfl ?_
    show Steps p.tables e below (T145.setTop (mkF m 108 #[.val (.int p1), .val (.int p2), .val (.int p3), .val (.ref b1), .val (.ref b27), .val (.ref b67), .val (.ref b84), .val (.ref b105), .val (.ref b130), .unset, .unset, .unset, .unset] [])) _
    refine XS.aload XS145.here hx rfl (hb hby at_108) rfl rfl ?_
    show Steps p.tables e below (T145.setTop (mkF m 110 #[.val (.int p1), .val (.int p2), .val (.int p3), .val (.ref b1), .val (.ref b27), .val (.ref b67), .val (.ref b84), .val (.ref b105), .val (.ref b130), .unset, .unset, .unset, .unset] [(.ref b67)])) _
    exact k)
  by_cases hs160 : (0 : Int32) < p1
  · obtain ⟨cq161, kq161, q161a, q161b, q161c⟩ := isOf hZ145 rfl E152
    obtain ⟨_, _, ⟨T161, L161, k161, n161⟩, -, X161, ⟨Lc161, hQ161, l161, y161, z161⟩, st161⟩ := XS145.virtualBack hx (y := (⟨"com/example/arc3/arc3/Judgment", "isRelevant", "()Z"⟩ : MethodName)) (z := (⟨"com/example/arc3/arc3/Judgment", "isRelevant", "()Z"⟩ : MethodName)) ho145 (mvT hZ145 (hw _ (List.mem_of_getElem? (i := 56) rfl))) (mvT hZ145 (hw _ (List.mem_of_getElem? (i := 57) rfl))) (notFace_of_selects (args := #[]) (mvT hZ145 (hw _ (List.mem_of_getElem? (i := 59) rfl)))) (mvT hZ145 (hw _ (List.mem_of_getElem? (i := 59) rfl))) (mvT hZ145 (hw _ (List.mem_of_getElem? (i := 58) rfl))) (by decide) (backOf (W := 0) (rm_isr l Z a0 hw [] b67 p1 (1 : Int32) T145.heap n0 Zs158 F153 (fun _ => rfl) (fun q => absurd hs160 q)) hZ145 (hw _ (List.mem_of_getElem? (i := 60) rfl)) (hw _ (List.mem_of_getElem? (i := 32) rfl)) (by decide) (by decide)) q161a q161c (g := (mkF m 110 #[.val (.int p1), .val (.int p2), .val (.int p3), .val (.ref b1), .val (.ref b27), .val (.ref b67), .val (.ref b84), .val (.ref b105), .val (.ref b130), .unset, .unset, .unset, .unset] [(.ref b67)])) rfl (by rw [hml]; rfl) (Steps.refl _) (argsL := []) (rest := []) (lenOf pd_4 rfl) rfl (by show 2 * 0 + _ ≤ _; exact Nat.le_of_eq rfl) (hb hby at_110) (fun _ _ => ⟨rfl, rfl, (by decide : 26 + 0 ≤ _), (by decide : 218 + 0 ≤ _)⟩)
    dsimp only [Pt.U, Pt.locs, Pt.cells, Pt.slots] at X161 l161 y161 z161 st161 hQ161
    subst l161 y161 z161
    obtain ⟨rfl, N161q, hq162⟩ := hQ161
    have N161 := Fr.app N145 N161q
    have pre163 := fun (t : State) (k : Steps p.tables e below (T161.setTop (mkF m 117 #[.val (.int p1), .val (.int p2), .val (.int p3), .val (.ref b1), .val (.ref b27), .val (.ref b67), .val (.ref b84), .val (.ref b105), .val (.ref b130), .val (.int (1 : Int32)), .unset, .unset, .unset] [(.ref b84)])) t) => pre159 t (by
      refine st161.trans ?_
      show Steps p.tables e below (T161.setTop (mkF m 113 #[.val (.int p1), .val (.int p2), .val (.int p3), .val (.ref b1), .val (.ref b27), .val (.ref b67), .val (.ref b84), .val (.ref b105), .val (.ref b130), .unset, .unset, .unset, .unset] [(.int (1 : Int32))])) _
      refine XS.istore X161.here hx rfl (hb hby at_113) rfl (l' := #[.val (.int p1), .val (.int p2), .val (.int p3), .val (.ref b1), .val (.ref b27), .val (.ref b67), .val (.ref b84), .val (.ref b105), .val (.ref b130), .val (.int (1 : Int32)), .unset, .unset, .unset]) rfl ?_
      show Steps p.tables e below (T161.setTop (mkF m 115 #[.val (.int p1), .val (.int p2), .val (.int p3), .val (.ref b1), .val (.ref b27), .val (.ref b67), .val (.ref b84), .val (.ref b105), .val (.ref b130), .val (.int (1 : Int32)), .unset, .unset, .unset] [])) _
      refine XS.aload X161.here hx rfl (hb hby at_115) rfl rfl ?_
      show Steps p.tables e below (T161.setTop (mkF m 117 #[.val (.int p1), .val (.int p2), .val (.int p3), .val (.ref b1), .val (.ref b27), .val (.ref b67), .val (.ref b84), .val (.ref b105), .val (.ref b130), .val (.int (1 : Int32)), .unset, .unset, .unset] [(.ref b84)])) _
      exact k)
    by_cases hs164 : (0 : Int32) < p2
    · obtain ⟨cq165, kq165, q165a, q165b, q165c⟩ := isOf hZ145 hq162 E154
      obtain ⟨_, _, ⟨T165, L165, k165, n165⟩, -, X165, ⟨Lc165, hQ165, l165, y165, z165⟩, st165⟩ := X161.virtualBack hx (y := (⟨"com/example/arc3/arc3/Judgment", "isRelevant", "()Z"⟩ : MethodName)) (z := (⟨"com/example/arc3/arc3/Judgment", "isRelevant", "()Z"⟩ : MethodName)) ho145 (mvT hZ145 (hw _ (List.mem_of_getElem? (i := 56) rfl))) (mvT hZ145 (hw _ (List.mem_of_getElem? (i := 57) rfl))) (notFace_of_selects (args := #[]) (mvT hZ145 (hw _ (List.mem_of_getElem? (i := 59) rfl)))) (mvT hZ145 (hw _ (List.mem_of_getElem? (i := 59) rfl))) (mvT hZ145 (hw _ (List.mem_of_getElem? (i := 58) rfl))) (by decide) (backOf (W := 0) (rm_isr l Z a0 hw [] b84 p2 (1 : Int32) T145.heap n0 Zs158 F155 (fun _ => rfl) (fun q => absurd hs164 q)) hZ145 (hw _ (List.mem_of_getElem? (i := 60) rfl)) (hw _ (List.mem_of_getElem? (i := 32) rfl)) (by decide) (by decide)) q165a q165c (g := (mkF m 117 #[.val (.int p1), .val (.int p2), .val (.int p3), .val (.ref b1), .val (.ref b27), .val (.ref b67), .val (.ref b84), .val (.ref b105), .val (.ref b130), .val (.int (1 : Int32)), .unset, .unset, .unset] [(.ref b84)])) rfl (by rw [hml]; rfl) (Steps.refl _) (argsL := []) (rest := []) (lenOf pd_4 rfl) rfl (by show 2 * 0 + _ ≤ _; exact Nat.le_of_eq rfl) (hb hby at_117) (fun _ _ => ⟨rfl, hq162, (by decide : 26 + 0 ≤ _), (by decide : 218 + 0 ≤ _)⟩)
      dsimp only [Pt.U, Pt.locs, Pt.cells, Pt.slots] at X165 l165 y165 z165 st165 hQ165
      subst l165 y165 z165
      obtain ⟨rfl, N165q, hq166⟩ := hQ165
      have N165 := Fr.app N161 N165q
      obtain ⟨cq167, kq167, q167a, q167b, q167c⟩ := isOf hZ145 hq166 E156
      obtain ⟨_, _, ⟨T167, L167, k167, n167⟩, -, X167, ⟨Lc167, hQ167, l167, y167, z167⟩, st167⟩ := X165.virtualBack hx (y := (⟨"com/example/arc3/arc3/Judgment", "isRelevant", "()Z"⟩ : MethodName)) (z := (⟨"com/example/arc3/arc3/Judgment", "isRelevant", "()Z"⟩ : MethodName)) ho145 (mvT hZ145 (hw _ (List.mem_of_getElem? (i := 56) rfl))) (mvT hZ145 (hw _ (List.mem_of_getElem? (i := 57) rfl))) (notFace_of_selects (args := #[]) (mvT hZ145 (hw _ (List.mem_of_getElem? (i := 59) rfl)))) (mvT hZ145 (hw _ (List.mem_of_getElem? (i := 59) rfl))) (mvT hZ145 (hw _ (List.mem_of_getElem? (i := 58) rfl))) (by decide) (backOf (W := 0) (rm_isr l Z a0 hw [] b105 (0 : Int32) (0 : Int32) T145.heap n0 Zs158 F157 (fun q => absurd q (by decide)) (fun _ => rfl)) hZ145 (hw _ (List.mem_of_getElem? (i := 60) rfl)) (hw _ (List.mem_of_getElem? (i := 32) rfl)) (by decide) (by decide)) q167a q167c (g := (mkF m 124 #[.val (.int p1), .val (.int p2), .val (.int p3), .val (.ref b1), .val (.ref b27), .val (.ref b67), .val (.ref b84), .val (.ref b105), .val (.ref b130), .val (.int (1 : Int32)), .val (.int (1 : Int32)), .unset, .unset] [(.ref b105)])) rfl (by rw [hml]; rfl) (Steps.refl _) (argsL := []) (rest := []) (lenOf pd_4 rfl) rfl (by show 2 * 0 + _ ≤ _; exact Nat.le_of_eq rfl) (hb hby at_124) (fun _ _ => ⟨rfl, hq166, (by decide : 26 + 0 ≤ _), (by decide : 218 + 0 ≤ _)⟩)
      dsimp only [Pt.U, Pt.locs, Pt.cells, Pt.slots] at X167 l167 y167 z167 st167 hQ167
      subst l167 y167 z167
      obtain ⟨rfl, N167q, hq168⟩ := hQ167
      have N167 := Fr.app N165 N167q
      obtain ⟨cq169, kq169, q169a, q169b, q169c⟩ := isOf hZ145 hq168 E147
      obtain ⟨_, _, ⟨T169, L169, k169, n169⟩, -, X169, ⟨Lc169, hQ169, l169, y169, z169⟩, st169⟩ := X167.virtualBack hx (y := (⟨"com/example/arc3/arc3/Judgment", "isRelevant", "()Z"⟩ : MethodName)) (z := (⟨"com/example/arc3/arc3/Judgment", "isRelevant", "()Z"⟩ : MethodName)) ho145 (mvT hZ145 (hw _ (List.mem_of_getElem? (i := 56) rfl))) (mvT hZ145 (hw _ (List.mem_of_getElem? (i := 57) rfl))) (notFace_of_selects (args := #[]) (mvT hZ145 (hw _ (List.mem_of_getElem? (i := 59) rfl)))) (mvT hZ145 (hw _ (List.mem_of_getElem? (i := 59) rfl))) (mvT hZ145 (hw _ (List.mem_of_getElem? (i := 58) rfl))) (by decide) (backOf (W := 0) (rm_isr l Z a0 hw [] b130 (1 : Int32) (1 : Int32) T145.heap n0 Zs158 F148 (fun _ => rfl) (fun q => absurd (by decide) q)) hZ145 (hw _ (List.mem_of_getElem? (i := 60) rfl)) (hw _ (List.mem_of_getElem? (i := 32) rfl)) (by decide) (by decide)) q169a q169c (g := (mkF m 131 #[.val (.int p1), .val (.int p2), .val (.int p3), .val (.ref b1), .val (.ref b27), .val (.ref b67), .val (.ref b84), .val (.ref b105), .val (.ref b130), .val (.int (1 : Int32)), .val (.int (1 : Int32)), .val (.int (0 : Int32)), .unset] [(.ref b130)])) rfl (by rw [hml]; rfl) (Steps.refl _) (argsL := []) (rest := []) (lenOf pd_4 rfl) rfl (by show 2 * 0 + _ ≤ _; exact Nat.le_of_eq rfl) (hb hby at_131) (fun _ _ => ⟨rfl, hq168, (by decide : 26 + 0 ≤ _), (by decide : 218 + 0 ≤ _)⟩)
      dsimp only [Pt.U, Pt.locs, Pt.cells, Pt.slots] at X169 l169 y169 z169 st169 hQ169
      subst l169 y169 z169
      obtain ⟨rfl, N169q, hq170⟩ := hQ169
      have N169 := Fr.app N167 N169q
      have pre171 := fun (t : State) (k : Steps p.tables e below (T169.setTop (mkF m 152 #[.val (.int p1), .val (.int p2), .val (.int p3), .val (.ref b1), .val (.ref b27), .val (.ref b67), .val (.ref b84), .val (.ref b105), .val (.ref b130), .val (.int (1 : Int32)), .val (.int (1 : Int32)), .val (.int (0 : Int32)), .val (.int (1 : Int32))] [(.int p2), (.int p1)])) t) => pre163 t (by
        refine st165.trans ?_
        show Steps p.tables e below (T165.setTop (mkF m 120 #[.val (.int p1), .val (.int p2), .val (.int p3), .val (.ref b1), .val (.ref b27), .val (.ref b67), .val (.ref b84), .val (.ref b105), .val (.ref b130), .val (.int (1 : Int32)), .unset, .unset, .unset] [(.int (1 : Int32))])) _
        refine XS.istore X165.here hx rfl (hb hby at_120) rfl (l' := #[.val (.int p1), .val (.int p2), .val (.int p3), .val (.ref b1), .val (.ref b27), .val (.ref b67), .val (.ref b84), .val (.ref b105), .val (.ref b130), .val (.int (1 : Int32)), .val (.int (1 : Int32)), .unset, .unset]) rfl ?_
        show Steps p.tables e below (T165.setTop (mkF m 122 #[.val (.int p1), .val (.int p2), .val (.int p3), .val (.ref b1), .val (.ref b27), .val (.ref b67), .val (.ref b84), .val (.ref b105), .val (.ref b130), .val (.int (1 : Int32)), .val (.int (1 : Int32)), .unset, .unset] [])) _
        refine XS.aload X165.here hx rfl (hb hby at_122) rfl rfl ?_
        show Steps p.tables e below (T165.setTop (mkF m 124 #[.val (.int p1), .val (.int p2), .val (.int p3), .val (.ref b1), .val (.ref b27), .val (.ref b67), .val (.ref b84), .val (.ref b105), .val (.ref b130), .val (.int (1 : Int32)), .val (.int (1 : Int32)), .unset, .unset] [(.ref b105)])) _
        refine st167.trans ?_
        show Steps p.tables e below (T167.setTop (mkF m 127 #[.val (.int p1), .val (.int p2), .val (.int p3), .val (.ref b1), .val (.ref b27), .val (.ref b67), .val (.ref b84), .val (.ref b105), .val (.ref b130), .val (.int (1 : Int32)), .val (.int (1 : Int32)), .unset, .unset] [(.int (0 : Int32))])) _
        refine XS.istore X167.here hx rfl (hb hby at_127) rfl (l' := #[.val (.int p1), .val (.int p2), .val (.int p3), .val (.ref b1), .val (.ref b27), .val (.ref b67), .val (.ref b84), .val (.ref b105), .val (.ref b130), .val (.int (1 : Int32)), .val (.int (1 : Int32)), .val (.int (0 : Int32)), .unset]) rfl ?_
        show Steps p.tables e below (T167.setTop (mkF m 129 #[.val (.int p1), .val (.int p2), .val (.int p3), .val (.ref b1), .val (.ref b27), .val (.ref b67), .val (.ref b84), .val (.ref b105), .val (.ref b130), .val (.int (1 : Int32)), .val (.int (1 : Int32)), .val (.int (0 : Int32)), .unset] [])) _
        refine XS.aload X167.here hx rfl (hb hby at_129) rfl rfl ?_
        show Steps p.tables e below (T167.setTop (mkF m 131 #[.val (.int p1), .val (.int p2), .val (.int p3), .val (.ref b1), .val (.ref b27), .val (.ref b67), .val (.ref b84), .val (.ref b105), .val (.ref b130), .val (.int (1 : Int32)), .val (.int (1 : Int32)), .val (.int (0 : Int32)), .unset] [(.ref b130)])) _
        refine st169.trans ?_
        show Steps p.tables e below (T169.setTop (mkF m 134 #[.val (.int p1), .val (.int p2), .val (.int p3), .val (.ref b1), .val (.ref b27), .val (.ref b67), .val (.ref b84), .val (.ref b105), .val (.ref b130), .val (.int (1 : Int32)), .val (.int (1 : Int32)), .val (.int (0 : Int32)), .unset] [(.int (1 : Int32))])) _
        refine XS.istore X169.here hx rfl (hb hby at_134) rfl (l' := #[.val (.int p1), .val (.int p2), .val (.int p3), .val (.ref b1), .val (.ref b27), .val (.ref b67), .val (.ref b84), .val (.ref b105), .val (.ref b130), .val (.int (1 : Int32)), .val (.int (1 : Int32)), .val (.int (0 : Int32)), .val (.int (1 : Int32))]) rfl ?_
        show Steps p.tables e below (T169.setTop (mkF m 136 #[.val (.int p1), .val (.int p2), .val (.int p3), .val (.ref b1), .val (.ref b27), .val (.ref b67), .val (.ref b84), .val (.ref b105), .val (.ref b130), .val (.int (1 : Int32)), .val (.int (1 : Int32)), .val (.int (0 : Int32)), .val (.int (1 : Int32))] [])) _
        refine XS.iload X169.here hx rfl (hb hby at_136) rfl ?_
        show Steps p.tables e below (T169.setTop (mkF m 138 #[.val (.int p1), .val (.int p2), .val (.int p3), .val (.ref b1), .val (.ref b27), .val (.ref b67), .val (.ref b84), .val (.ref b105), .val (.ref b130), .val (.int (1 : Int32)), .val (.int (1 : Int32)), .val (.int (0 : Int32)), .val (.int (1 : Int32))] [(.int (0 : Int32))])) _
        refine XS.ifYes X169.here hx rfl (pc0 := 138) (pc' := 143) rfl (hb hby at_138) rfl ((if0 _ _).trans (teq (by decide : (0 : Int32) = (0 : Int32))).1) (by decide) (by decide) ?_
        show Steps p.tables e below (T169.setTop (mkF m 143 #[.val (.int p1), .val (.int p2), .val (.int p3), .val (.ref b1), .val (.ref b27), .val (.ref b67), .val (.ref b84), .val (.ref b105), .val (.ref b130), .val (.int (1 : Int32)), .val (.int (1 : Int32)), .val (.int (0 : Int32)), .val (.int (1 : Int32))] [])) _
        refine XS.iload X169.here hx rfl (hb hby at_143) rfl ?_
        show Steps p.tables e below (T169.setTop (mkF m 145 #[.val (.int p1), .val (.int p2), .val (.int p3), .val (.ref b1), .val (.ref b27), .val (.ref b67), .val (.ref b84), .val (.ref b105), .val (.ref b130), .val (.int (1 : Int32)), .val (.int (1 : Int32)), .val (.int (0 : Int32)), .val (.int (1 : Int32))] [(.int (1 : Int32))])) _
        refine XS.ifYes X169.here hx rfl (pc0 := 145) (pc' := 150) rfl (hb hby at_145) rfl ((if0 _ _).trans (feq (by decide : ¬ ((1 : Int32) = (0 : Int32)))).2) (by decide) (by decide) ?_
        show Steps p.tables e below (T169.setTop (mkF m 150 #[.val (.int p1), .val (.int p2), .val (.int p3), .val (.ref b1), .val (.ref b27), .val (.ref b67), .val (.ref b84), .val (.ref b105), .val (.ref b130), .val (.int (1 : Int32)), .val (.int (1 : Int32)), .val (.int (0 : Int32)), .val (.int (1 : Int32))] [])) _
        refine XS.iloadN X169.here hx rfl (hb hby at_150) rfl ?_
        show Steps p.tables e below (T169.setTop (mkF m 151 #[.val (.int p1), .val (.int p2), .val (.int p3), .val (.ref b1), .val (.ref b27), .val (.ref b67), .val (.ref b84), .val (.ref b105), .val (.ref b130), .val (.int (1 : Int32)), .val (.int (1 : Int32)), .val (.int (0 : Int32)), .val (.int (1 : Int32))] [(.int p1)])) _
        refine XS.iloadN X169.here hx rfl (hb hby at_151) rfl ?_
        show Steps p.tables e below (T169.setTop (mkF m 152 #[.val (.int p1), .val (.int p2), .val (.int p3), .val (.ref b1), .val (.ref b27), .val (.ref b67), .val (.ref b84), .val (.ref b105), .val (.ref b130), .val (.int (1 : Int32)), .val (.int (1 : Int32)), .val (.int (0 : Int32)), .val (.int (1 : Int32))] [(.int p2), (.int p1)])) _
        exact k)
      by_cases hc172 : p2 < p1
      · have pre173 := fun (t : State) (k : Steps p.tables e below (T169.setTop (mkF m 169 #[.val (.int p1), .val (.int p2), .val (.int p3), .val (.ref b1), .val (.ref b27), .val (.ref b67), .val (.ref b84), .val (.ref b105), .val (.ref b130), .val (.int (1 : Int32)), .val (.int (1 : Int32)), .val (.int (0 : Int32)), .val (.int (1 : Int32))] [(.int p1), (.int p2)])) t) => pre171 t (by
          refine XS.icmpYes X169.here hx rfl (pc0 := 152) (pc' := 167) rfl (hb hby at_152) rfl (tlt hc172).2.2.1 (by decide) (by decide) ?_
          show Steps p.tables e below (T169.setTop (mkF m 167 #[.val (.int p1), .val (.int p2), .val (.int p3), .val (.ref b1), .val (.ref b27), .val (.ref b67), .val (.ref b84), .val (.ref b105), .val (.ref b130), .val (.int (1 : Int32)), .val (.int (1 : Int32)), .val (.int (0 : Int32)), .val (.int (1 : Int32))] [])) _
          refine XS.iloadN X169.here hx rfl (hb hby at_167) rfl ?_
          show Steps p.tables e below (T169.setTop (mkF m 168 #[.val (.int p1), .val (.int p2), .val (.int p3), .val (.ref b1), .val (.ref b27), .val (.ref b67), .val (.ref b84), .val (.ref b105), .val (.ref b130), .val (.int (1 : Int32)), .val (.int (1 : Int32)), .val (.int (0 : Int32)), .val (.int (1 : Int32))] [(.int p2)])) _
          refine XS.iloadN X169.here hx rfl (hb hby at_168) rfl ?_
          show Steps p.tables e below (T169.setTop (mkF m 169 #[.val (.int p1), .val (.int p2), .val (.int p3), .val (.ref b1), .val (.ref b27), .val (.ref b67), .val (.ref b84), .val (.ref b105), .val (.ref b130), .val (.int (1 : Int32)), .val (.int (1 : Int32)), .val (.int (0 : Int32)), .val (.int (1 : Int32))] [(.int p1), (.int p2)])) _
          exact k)
        by_cases hc174 : p1 < p2
        · have pre175 := fun (t : State) (k : Steps p.tables e below (T169.setTop (mkF m 185 #[.val (.int p1), .val (.int p2), .val (.int p3), .val (.ref b1), .val (.ref b27), .val (.ref b67), .val (.ref b84), .val (.ref b105), .val (.ref b130), .val (.int (1 : Int32)), .val (.int (1 : Int32)), .val (.int (0 : Int32)), .val (.int (1 : Int32))] [(.int (1 : Int32))])) t) => pre173 t (by
            refine XS.icmpYes X169.here hx rfl (pc0 := 169) (pc' := 184) rfl (hb hby at_169) rfl (tlt hc174).2.2.1 (by decide) (by decide) ?_
            show Steps p.tables e below (T169.setTop (mkF m 184 #[.val (.int p1), .val (.int p2), .val (.int p3), .val (.ref b1), .val (.ref b27), .val (.ref b67), .val (.ref b84), .val (.ref b105), .val (.ref b130), .val (.int (1 : Int32)), .val (.int (1 : Int32)), .val (.int (0 : Int32)), .val (.int (1 : Int32))] [])) _
            refine XS.iconst X169.here hx rfl (hb hby at_184) ?_
            show Steps p.tables e below (T169.setTop (mkF m 185 #[.val (.int p1), .val (.int p2), .val (.int p3), .val (.ref b1), .val (.ref b27), .val (.ref b67), .val (.ref b84), .val (.ref b105), .val (.ref b130), .val (.int (1 : Int32)), .val (.int (1 : Int32)), .val (.int (0 : Int32)), .val (.int (1 : Int32))] [(.int (1 : Int32))])) _
            exact k)
          obtain ⟨fs, hr, hrun, hended, hE1, hE2, hE3, hE4⟩ := X169.leaveW hS145 (by rw [hq170]; exact hk145) (v := some (.int (1 : Int32))) (hlocks := BodyLoose.notSynchronized Bd) (fun h => by rw [Bd.returns] at h; cases h)
          refine ⟨_, _, pre175 _ ?_, hrun, hended, _, _, rfl, ?_, hE1, hE2, hE3, hE4.mono (by decide) (by decide)⟩
          · exact retN X169 hx (t := .boolean) Bd.returns (by simp) (hb hby at_185) hr
          · show Q_law Z p1 p2 p3 zc h0 n0 _ T169.heap _
            rw [hq170]
            exact ⟨rfl, N169, K145⟩
        · have pre176 := fun (t : State) (k : Steps p.tables e below (T169.setTop (mkF m 185 #[.val (.int p1), .val (.int p2), .val (.int p3), .val (.ref b1), .val (.ref b27), .val (.ref b67), .val (.ref b84), .val (.ref b105), .val (.ref b130), .val (.int (1 : Int32)), .val (.int (1 : Int32)), .val (.int (0 : Int32)), .val (.int (1 : Int32))] [(.int (1 : Int32))])) t) => pre173 t (by
            refine XS.icmpNo X169.here hx rfl (hb hby at_169) rfl (flt hc174).2.2.1 ?_
            show Steps p.tables e below (T169.setTop (mkF m 172 #[.val (.int p1), .val (.int p2), .val (.int p3), .val (.ref b1), .val (.ref b27), .val (.ref b67), .val (.ref b84), .val (.ref b105), .val (.ref b130), .val (.int (1 : Int32)), .val (.int (1 : Int32)), .val (.int (0 : Int32)), .val (.int (1 : Int32))] [])) _
            refine XS.iload X169.here hx rfl (hb hby at_172) rfl ?_
            show Steps p.tables e below (T169.setTop (mkF m 174 #[.val (.int p1), .val (.int p2), .val (.int p3), .val (.ref b1), .val (.ref b27), .val (.ref b67), .val (.ref b84), .val (.ref b105), .val (.ref b130), .val (.int (1 : Int32)), .val (.int (1 : Int32)), .val (.int (0 : Int32)), .val (.int (1 : Int32))] [(.int (1 : Int32))])) _
            refine XS.ifNo X169.here hx rfl (hb hby at_174) rfl ((if0 _ _).trans (feq (by decide : ¬ ((1 : Int32) = (0 : Int32)))).1) ?_
            show Steps p.tables e below (T169.setTop (mkF m 177 #[.val (.int p1), .val (.int p2), .val (.int p3), .val (.ref b1), .val (.ref b27), .val (.ref b67), .val (.ref b84), .val (.ref b105), .val (.ref b130), .val (.int (1 : Int32)), .val (.int (1 : Int32)), .val (.int (0 : Int32)), .val (.int (1 : Int32))] [])) _
            refine XS.iload X169.here hx rfl (hb hby at_177) rfl ?_
            show Steps p.tables e below (T169.setTop (mkF m 179 #[.val (.int p1), .val (.int p2), .val (.int p3), .val (.ref b1), .val (.ref b27), .val (.ref b67), .val (.ref b84), .val (.ref b105), .val (.ref b130), .val (.int (1 : Int32)), .val (.int (1 : Int32)), .val (.int (0 : Int32)), .val (.int (1 : Int32))] [(.int (1 : Int32))])) _
            refine XS.ifYes X169.here hx rfl (pc0 := 179) (pc' := 184) rfl (hb hby at_179) rfl ((if0 _ _).trans (feq (by decide : ¬ ((1 : Int32) = (0 : Int32)))).2) (by decide) (by decide) ?_
            show Steps p.tables e below (T169.setTop (mkF m 184 #[.val (.int p1), .val (.int p2), .val (.int p3), .val (.ref b1), .val (.ref b27), .val (.ref b67), .val (.ref b84), .val (.ref b105), .val (.ref b130), .val (.int (1 : Int32)), .val (.int (1 : Int32)), .val (.int (0 : Int32)), .val (.int (1 : Int32))] [])) _
            refine XS.iconst X169.here hx rfl (hb hby at_184) ?_
            show Steps p.tables e below (T169.setTop (mkF m 185 #[.val (.int p1), .val (.int p2), .val (.int p3), .val (.ref b1), .val (.ref b27), .val (.ref b67), .val (.ref b84), .val (.ref b105), .val (.ref b130), .val (.int (1 : Int32)), .val (.int (1 : Int32)), .val (.int (0 : Int32)), .val (.int (1 : Int32))] [(.int (1 : Int32))])) _
            exact k)
          obtain ⟨fs, hr, hrun, hended, hE1, hE2, hE3, hE4⟩ := X169.leaveW hS145 (by rw [hq170]; exact hk145) (v := some (.int (1 : Int32))) (hlocks := BodyLoose.notSynchronized Bd) (fun h => by rw [Bd.returns] at h; cases h)
          refine ⟨_, _, pre176 _ ?_, hrun, hended, _, _, rfl, ?_, hE1, hE2, hE3, hE4.mono (by decide) (by decide)⟩
          · exact retN X169 hx (t := .boolean) Bd.returns (by simp) (hb hby at_185) hr
          · show Q_law Z p1 p2 p3 zc h0 n0 _ T169.heap _
            rw [hq170]
            exact ⟨rfl, N169, K145⟩
      · have pre177 := fun (t : State) (k : Steps p.tables e below (T169.setTop (mkF m 169 #[.val (.int p1), .val (.int p2), .val (.int p3), .val (.ref b1), .val (.ref b27), .val (.ref b67), .val (.ref b84), .val (.ref b105), .val (.ref b130), .val (.int (1 : Int32)), .val (.int (1 : Int32)), .val (.int (0 : Int32)), .val (.int (1 : Int32))] [(.int p1), (.int p2)])) t) => pre171 t (by
          refine XS.icmpNo X169.here hx rfl (hb hby at_152) rfl (flt hc172).2.2.1 ?_
          show Steps p.tables e below (T169.setTop (mkF m 155 #[.val (.int p1), .val (.int p2), .val (.int p3), .val (.ref b1), .val (.ref b27), .val (.ref b67), .val (.ref b84), .val (.ref b105), .val (.ref b130), .val (.int (1 : Int32)), .val (.int (1 : Int32)), .val (.int (0 : Int32)), .val (.int (1 : Int32))] [])) _
          refine XS.iload X169.here hx rfl (hb hby at_155) rfl ?_
          show Steps p.tables e below (T169.setTop (mkF m 157 #[.val (.int p1), .val (.int p2), .val (.int p3), .val (.ref b1), .val (.ref b27), .val (.ref b67), .val (.ref b84), .val (.ref b105), .val (.ref b130), .val (.int (1 : Int32)), .val (.int (1 : Int32)), .val (.int (0 : Int32)), .val (.int (1 : Int32))] [(.int (1 : Int32))])) _
          refine XS.ifNo X169.here hx rfl (hb hby at_157) rfl ((if0 _ _).trans (feq (by decide : ¬ ((1 : Int32) = (0 : Int32)))).1) ?_
          show Steps p.tables e below (T169.setTop (mkF m 160 #[.val (.int p1), .val (.int p2), .val (.int p3), .val (.ref b1), .val (.ref b27), .val (.ref b67), .val (.ref b84), .val (.ref b105), .val (.ref b130), .val (.int (1 : Int32)), .val (.int (1 : Int32)), .val (.int (0 : Int32)), .val (.int (1 : Int32))] [])) _
          refine XS.iload X169.here hx rfl (hb hby at_160) rfl ?_
          show Steps p.tables e below (T169.setTop (mkF m 162 #[.val (.int p1), .val (.int p2), .val (.int p3), .val (.ref b1), .val (.ref b27), .val (.ref b67), .val (.ref b84), .val (.ref b105), .val (.ref b130), .val (.int (1 : Int32)), .val (.int (1 : Int32)), .val (.int (0 : Int32)), .val (.int (1 : Int32))] [(.int (1 : Int32))])) _
          refine XS.ifYes X169.here hx rfl (pc0 := 162) (pc' := 167) rfl (hb hby at_162) rfl ((if0 _ _).trans (feq (by decide : ¬ ((1 : Int32) = (0 : Int32)))).2) (by decide) (by decide) ?_
          show Steps p.tables e below (T169.setTop (mkF m 167 #[.val (.int p1), .val (.int p2), .val (.int p3), .val (.ref b1), .val (.ref b27), .val (.ref b67), .val (.ref b84), .val (.ref b105), .val (.ref b130), .val (.int (1 : Int32)), .val (.int (1 : Int32)), .val (.int (0 : Int32)), .val (.int (1 : Int32))] [])) _
          refine XS.iloadN X169.here hx rfl (hb hby at_167) rfl ?_
          show Steps p.tables e below (T169.setTop (mkF m 168 #[.val (.int p1), .val (.int p2), .val (.int p3), .val (.ref b1), .val (.ref b27), .val (.ref b67), .val (.ref b84), .val (.ref b105), .val (.ref b130), .val (.int (1 : Int32)), .val (.int (1 : Int32)), .val (.int (0 : Int32)), .val (.int (1 : Int32))] [(.int p2)])) _
          refine XS.iloadN X169.here hx rfl (hb hby at_168) rfl ?_
          show Steps p.tables e below (T169.setTop (mkF m 169 #[.val (.int p1), .val (.int p2), .val (.int p3), .val (.ref b1), .val (.ref b27), .val (.ref b67), .val (.ref b84), .val (.ref b105), .val (.ref b130), .val (.int (1 : Int32)), .val (.int (1 : Int32)), .val (.int (0 : Int32)), .val (.int (1 : Int32))] [(.int p1), (.int p2)])) _
          exact k)
        by_cases hc178 : p1 < p2
        · have pre179 := fun (t : State) (k : Steps p.tables e below (T169.setTop (mkF m 185 #[.val (.int p1), .val (.int p2), .val (.int p3), .val (.ref b1), .val (.ref b27), .val (.ref b67), .val (.ref b84), .val (.ref b105), .val (.ref b130), .val (.int (1 : Int32)), .val (.int (1 : Int32)), .val (.int (0 : Int32)), .val (.int (1 : Int32))] [(.int (1 : Int32))])) t) => pre177 t (by
            refine XS.icmpYes X169.here hx rfl (pc0 := 169) (pc' := 184) rfl (hb hby at_169) rfl (tlt hc178).2.2.1 (by decide) (by decide) ?_
            show Steps p.tables e below (T169.setTop (mkF m 184 #[.val (.int p1), .val (.int p2), .val (.int p3), .val (.ref b1), .val (.ref b27), .val (.ref b67), .val (.ref b84), .val (.ref b105), .val (.ref b130), .val (.int (1 : Int32)), .val (.int (1 : Int32)), .val (.int (0 : Int32)), .val (.int (1 : Int32))] [])) _
            refine XS.iconst X169.here hx rfl (hb hby at_184) ?_
            show Steps p.tables e below (T169.setTop (mkF m 185 #[.val (.int p1), .val (.int p2), .val (.int p3), .val (.ref b1), .val (.ref b27), .val (.ref b67), .val (.ref b84), .val (.ref b105), .val (.ref b130), .val (.int (1 : Int32)), .val (.int (1 : Int32)), .val (.int (0 : Int32)), .val (.int (1 : Int32))] [(.int (1 : Int32))])) _
            exact k)
          obtain ⟨fs, hr, hrun, hended, hE1, hE2, hE3, hE4⟩ := X169.leaveW hS145 (by rw [hq170]; exact hk145) (v := some (.int (1 : Int32))) (hlocks := BodyLoose.notSynchronized Bd) (fun h => by rw [Bd.returns] at h; cases h)
          refine ⟨_, _, pre179 _ ?_, hrun, hended, _, _, rfl, ?_, hE1, hE2, hE3, hE4.mono (by decide) (by decide)⟩
          · exact retN X169 hx (t := .boolean) Bd.returns (by simp) (hb hby at_185) hr
          · show Q_law Z p1 p2 p3 zc h0 n0 _ T169.heap _
            rw [hq170]
            exact ⟨rfl, N169, K145⟩
        · have pre180 := fun (t : State) (k : Steps p.tables e below (T169.setTop (mkF m 185 #[.val (.int p1), .val (.int p2), .val (.int p3), .val (.ref b1), .val (.ref b27), .val (.ref b67), .val (.ref b84), .val (.ref b105), .val (.ref b130), .val (.int (1 : Int32)), .val (.int (1 : Int32)), .val (.int (0 : Int32)), .val (.int (1 : Int32))] [(.int (1 : Int32))])) t) => pre177 t (by
            refine XS.icmpNo X169.here hx rfl (hb hby at_169) rfl (flt hc178).2.2.1 ?_
            show Steps p.tables e below (T169.setTop (mkF m 172 #[.val (.int p1), .val (.int p2), .val (.int p3), .val (.ref b1), .val (.ref b27), .val (.ref b67), .val (.ref b84), .val (.ref b105), .val (.ref b130), .val (.int (1 : Int32)), .val (.int (1 : Int32)), .val (.int (0 : Int32)), .val (.int (1 : Int32))] [])) _
            refine XS.iload X169.here hx rfl (hb hby at_172) rfl ?_
            show Steps p.tables e below (T169.setTop (mkF m 174 #[.val (.int p1), .val (.int p2), .val (.int p3), .val (.ref b1), .val (.ref b27), .val (.ref b67), .val (.ref b84), .val (.ref b105), .val (.ref b130), .val (.int (1 : Int32)), .val (.int (1 : Int32)), .val (.int (0 : Int32)), .val (.int (1 : Int32))] [(.int (1 : Int32))])) _
            refine XS.ifNo X169.here hx rfl (hb hby at_174) rfl ((if0 _ _).trans (feq (by decide : ¬ ((1 : Int32) = (0 : Int32)))).1) ?_
            show Steps p.tables e below (T169.setTop (mkF m 177 #[.val (.int p1), .val (.int p2), .val (.int p3), .val (.ref b1), .val (.ref b27), .val (.ref b67), .val (.ref b84), .val (.ref b105), .val (.ref b130), .val (.int (1 : Int32)), .val (.int (1 : Int32)), .val (.int (0 : Int32)), .val (.int (1 : Int32))] [])) _
            refine XS.iload X169.here hx rfl (hb hby at_177) rfl ?_
            show Steps p.tables e below (T169.setTop (mkF m 179 #[.val (.int p1), .val (.int p2), .val (.int p3), .val (.ref b1), .val (.ref b27), .val (.ref b67), .val (.ref b84), .val (.ref b105), .val (.ref b130), .val (.int (1 : Int32)), .val (.int (1 : Int32)), .val (.int (0 : Int32)), .val (.int (1 : Int32))] [(.int (1 : Int32))])) _
            refine XS.ifYes X169.here hx rfl (pc0 := 179) (pc' := 184) rfl (hb hby at_179) rfl ((if0 _ _).trans (feq (by decide : ¬ ((1 : Int32) = (0 : Int32)))).2) (by decide) (by decide) ?_
            show Steps p.tables e below (T169.setTop (mkF m 184 #[.val (.int p1), .val (.int p2), .val (.int p3), .val (.ref b1), .val (.ref b27), .val (.ref b67), .val (.ref b84), .val (.ref b105), .val (.ref b130), .val (.int (1 : Int32)), .val (.int (1 : Int32)), .val (.int (0 : Int32)), .val (.int (1 : Int32))] [])) _
            refine XS.iconst X169.here hx rfl (hb hby at_184) ?_
            show Steps p.tables e below (T169.setTop (mkF m 185 #[.val (.int p1), .val (.int p2), .val (.int p3), .val (.ref b1), .val (.ref b27), .val (.ref b67), .val (.ref b84), .val (.ref b105), .val (.ref b130), .val (.int (1 : Int32)), .val (.int (1 : Int32)), .val (.int (0 : Int32)), .val (.int (1 : Int32))] [(.int (1 : Int32))])) _
            exact k)
          obtain ⟨fs, hr, hrun, hended, hE1, hE2, hE3, hE4⟩ := X169.leaveW hS145 (by rw [hq170]; exact hk145) (v := some (.int (1 : Int32))) (hlocks := BodyLoose.notSynchronized Bd) (fun h => by rw [Bd.returns] at h; cases h)
          refine ⟨_, _, pre180 _ ?_, hrun, hended, _, _, rfl, ?_, hE1, hE2, hE3, hE4.mono (by decide) (by decide)⟩
          · exact retN X169 hx (t := .boolean) Bd.returns (by simp) (hb hby at_185) hr
          · show Q_law Z p1 p2 p3 zc h0 n0 _ T169.heap _
            rw [hq170]
            exact ⟨rfl, N169, K145⟩
    · obtain ⟨cq181, kq181, q181a, q181b, q181c⟩ := isOf hZ145 hq162 E154
      obtain ⟨_, _, ⟨T181, L181, k181, n181⟩, -, X181, ⟨Lc181, hQ181, l181, y181, z181⟩, st181⟩ := X161.virtualBack hx (y := (⟨"com/example/arc3/arc3/Judgment", "isRelevant", "()Z"⟩ : MethodName)) (z := (⟨"com/example/arc3/arc3/Judgment", "isRelevant", "()Z"⟩ : MethodName)) ho145 (mvT hZ145 (hw _ (List.mem_of_getElem? (i := 56) rfl))) (mvT hZ145 (hw _ (List.mem_of_getElem? (i := 57) rfl))) (notFace_of_selects (args := #[]) (mvT hZ145 (hw _ (List.mem_of_getElem? (i := 59) rfl)))) (mvT hZ145 (hw _ (List.mem_of_getElem? (i := 59) rfl))) (mvT hZ145 (hw _ (List.mem_of_getElem? (i := 58) rfl))) (by decide) (backOf (W := 0) (rm_isr l Z a0 hw [] b84 p2 (0 : Int32) T145.heap n0 Zs158 F155 (fun q => absurd q hs164) (fun _ => rfl)) hZ145 (hw _ (List.mem_of_getElem? (i := 60) rfl)) (hw _ (List.mem_of_getElem? (i := 32) rfl)) (by decide) (by decide)) q181a q181c (g := (mkF m 117 #[.val (.int p1), .val (.int p2), .val (.int p3), .val (.ref b1), .val (.ref b27), .val (.ref b67), .val (.ref b84), .val (.ref b105), .val (.ref b130), .val (.int (1 : Int32)), .unset, .unset, .unset] [(.ref b84)])) rfl (by rw [hml]; rfl) (Steps.refl _) (argsL := []) (rest := []) (lenOf pd_4 rfl) rfl (by show 2 * 0 + _ ≤ _; exact Nat.le_of_eq rfl) (hb hby at_117) (fun _ _ => ⟨rfl, hq162, (by decide : 26 + 0 ≤ _), (by decide : 218 + 0 ≤ _)⟩)
      dsimp only [Pt.U, Pt.locs, Pt.cells, Pt.slots] at X181 l181 y181 z181 st181 hQ181
      subst l181 y181 z181
      obtain ⟨rfl, N181q, hq182⟩ := hQ181
      have N181 := Fr.app N161 N181q
      obtain ⟨cq183, kq183, q183a, q183b, q183c⟩ := isOf hZ145 hq182 E156
      obtain ⟨_, _, ⟨T183, L183, k183, n183⟩, -, X183, ⟨Lc183, hQ183, l183, y183, z183⟩, st183⟩ := X181.virtualBack hx (y := (⟨"com/example/arc3/arc3/Judgment", "isRelevant", "()Z"⟩ : MethodName)) (z := (⟨"com/example/arc3/arc3/Judgment", "isRelevant", "()Z"⟩ : MethodName)) ho145 (mvT hZ145 (hw _ (List.mem_of_getElem? (i := 56) rfl))) (mvT hZ145 (hw _ (List.mem_of_getElem? (i := 57) rfl))) (notFace_of_selects (args := #[]) (mvT hZ145 (hw _ (List.mem_of_getElem? (i := 59) rfl)))) (mvT hZ145 (hw _ (List.mem_of_getElem? (i := 59) rfl))) (mvT hZ145 (hw _ (List.mem_of_getElem? (i := 58) rfl))) (by decide) (backOf (W := 0) (rm_isr l Z a0 hw [] b105 (0 : Int32) (0 : Int32) T145.heap n0 Zs158 F157 (fun q => absurd q (by decide)) (fun _ => rfl)) hZ145 (hw _ (List.mem_of_getElem? (i := 60) rfl)) (hw _ (List.mem_of_getElem? (i := 32) rfl)) (by decide) (by decide)) q183a q183c (g := (mkF m 124 #[.val (.int p1), .val (.int p2), .val (.int p3), .val (.ref b1), .val (.ref b27), .val (.ref b67), .val (.ref b84), .val (.ref b105), .val (.ref b130), .val (.int (1 : Int32)), .val (.int (0 : Int32)), .unset, .unset] [(.ref b105)])) rfl (by rw [hml]; rfl) (Steps.refl _) (argsL := []) (rest := []) (lenOf pd_4 rfl) rfl (by show 2 * 0 + _ ≤ _; exact Nat.le_of_eq rfl) (hb hby at_124) (fun _ _ => ⟨rfl, hq182, (by decide : 26 + 0 ≤ _), (by decide : 218 + 0 ≤ _)⟩)
      dsimp only [Pt.U, Pt.locs, Pt.cells, Pt.slots] at X183 l183 y183 z183 st183 hQ183
      subst l183 y183 z183
      obtain ⟨rfl, N183q, hq184⟩ := hQ183
      have N183 := Fr.app N181 N183q
      obtain ⟨cq185, kq185, q185a, q185b, q185c⟩ := isOf hZ145 hq184 E147
      obtain ⟨_, _, ⟨T185, L185, k185, n185⟩, -, X185, ⟨Lc185, hQ185, l185, y185, z185⟩, st185⟩ := X183.virtualBack hx (y := (⟨"com/example/arc3/arc3/Judgment", "isRelevant", "()Z"⟩ : MethodName)) (z := (⟨"com/example/arc3/arc3/Judgment", "isRelevant", "()Z"⟩ : MethodName)) ho145 (mvT hZ145 (hw _ (List.mem_of_getElem? (i := 56) rfl))) (mvT hZ145 (hw _ (List.mem_of_getElem? (i := 57) rfl))) (notFace_of_selects (args := #[]) (mvT hZ145 (hw _ (List.mem_of_getElem? (i := 59) rfl)))) (mvT hZ145 (hw _ (List.mem_of_getElem? (i := 59) rfl))) (mvT hZ145 (hw _ (List.mem_of_getElem? (i := 58) rfl))) (by decide) (backOf (W := 0) (rm_isr l Z a0 hw [] b130 (1 : Int32) (1 : Int32) T145.heap n0 Zs158 F148 (fun _ => rfl) (fun q => absurd (by decide) q)) hZ145 (hw _ (List.mem_of_getElem? (i := 60) rfl)) (hw _ (List.mem_of_getElem? (i := 32) rfl)) (by decide) (by decide)) q185a q185c (g := (mkF m 131 #[.val (.int p1), .val (.int p2), .val (.int p3), .val (.ref b1), .val (.ref b27), .val (.ref b67), .val (.ref b84), .val (.ref b105), .val (.ref b130), .val (.int (1 : Int32)), .val (.int (0 : Int32)), .val (.int (0 : Int32)), .unset] [(.ref b130)])) rfl (by rw [hml]; rfl) (Steps.refl _) (argsL := []) (rest := []) (lenOf pd_4 rfl) rfl (by show 2 * 0 + _ ≤ _; exact Nat.le_of_eq rfl) (hb hby at_131) (fun _ _ => ⟨rfl, hq184, (by decide : 26 + 0 ≤ _), (by decide : 218 + 0 ≤ _)⟩)
      dsimp only [Pt.U, Pt.locs, Pt.cells, Pt.slots] at X185 l185 y185 z185 st185 hQ185
      subst l185 y185 z185
      obtain ⟨rfl, N185q, hq186⟩ := hQ185
      have N185 := Fr.app N183 N185q
      have pre187 := fun (t : State) (k : Steps p.tables e below (T185.setTop (mkF m 169 #[.val (.int p1), .val (.int p2), .val (.int p3), .val (.ref b1), .val (.ref b27), .val (.ref b67), .val (.ref b84), .val (.ref b105), .val (.ref b130), .val (.int (1 : Int32)), .val (.int (0 : Int32)), .val (.int (0 : Int32)), .val (.int (1 : Int32))] [(.int p1), (.int p2)])) t) => pre163 t (by
        refine st181.trans ?_
        show Steps p.tables e below (T181.setTop (mkF m 120 #[.val (.int p1), .val (.int p2), .val (.int p3), .val (.ref b1), .val (.ref b27), .val (.ref b67), .val (.ref b84), .val (.ref b105), .val (.ref b130), .val (.int (1 : Int32)), .unset, .unset, .unset] [(.int (0 : Int32))])) _
        refine XS.istore X181.here hx rfl (hb hby at_120) rfl (l' := #[.val (.int p1), .val (.int p2), .val (.int p3), .val (.ref b1), .val (.ref b27), .val (.ref b67), .val (.ref b84), .val (.ref b105), .val (.ref b130), .val (.int (1 : Int32)), .val (.int (0 : Int32)), .unset, .unset]) rfl ?_
        show Steps p.tables e below (T181.setTop (mkF m 122 #[.val (.int p1), .val (.int p2), .val (.int p3), .val (.ref b1), .val (.ref b27), .val (.ref b67), .val (.ref b84), .val (.ref b105), .val (.ref b130), .val (.int (1 : Int32)), .val (.int (0 : Int32)), .unset, .unset] [])) _
        refine XS.aload X181.here hx rfl (hb hby at_122) rfl rfl ?_
        show Steps p.tables e below (T181.setTop (mkF m 124 #[.val (.int p1), .val (.int p2), .val (.int p3), .val (.ref b1), .val (.ref b27), .val (.ref b67), .val (.ref b84), .val (.ref b105), .val (.ref b130), .val (.int (1 : Int32)), .val (.int (0 : Int32)), .unset, .unset] [(.ref b105)])) _
        refine st183.trans ?_
        show Steps p.tables e below (T183.setTop (mkF m 127 #[.val (.int p1), .val (.int p2), .val (.int p3), .val (.ref b1), .val (.ref b27), .val (.ref b67), .val (.ref b84), .val (.ref b105), .val (.ref b130), .val (.int (1 : Int32)), .val (.int (0 : Int32)), .unset, .unset] [(.int (0 : Int32))])) _
        refine XS.istore X183.here hx rfl (hb hby at_127) rfl (l' := #[.val (.int p1), .val (.int p2), .val (.int p3), .val (.ref b1), .val (.ref b27), .val (.ref b67), .val (.ref b84), .val (.ref b105), .val (.ref b130), .val (.int (1 : Int32)), .val (.int (0 : Int32)), .val (.int (0 : Int32)), .unset]) rfl ?_
        show Steps p.tables e below (T183.setTop (mkF m 129 #[.val (.int p1), .val (.int p2), .val (.int p3), .val (.ref b1), .val (.ref b27), .val (.ref b67), .val (.ref b84), .val (.ref b105), .val (.ref b130), .val (.int (1 : Int32)), .val (.int (0 : Int32)), .val (.int (0 : Int32)), .unset] [])) _
        refine XS.aload X183.here hx rfl (hb hby at_129) rfl rfl ?_
        show Steps p.tables e below (T183.setTop (mkF m 131 #[.val (.int p1), .val (.int p2), .val (.int p3), .val (.ref b1), .val (.ref b27), .val (.ref b67), .val (.ref b84), .val (.ref b105), .val (.ref b130), .val (.int (1 : Int32)), .val (.int (0 : Int32)), .val (.int (0 : Int32)), .unset] [(.ref b130)])) _
        refine st185.trans ?_
        show Steps p.tables e below (T185.setTop (mkF m 134 #[.val (.int p1), .val (.int p2), .val (.int p3), .val (.ref b1), .val (.ref b27), .val (.ref b67), .val (.ref b84), .val (.ref b105), .val (.ref b130), .val (.int (1 : Int32)), .val (.int (0 : Int32)), .val (.int (0 : Int32)), .unset] [(.int (1 : Int32))])) _
        refine XS.istore X185.here hx rfl (hb hby at_134) rfl (l' := #[.val (.int p1), .val (.int p2), .val (.int p3), .val (.ref b1), .val (.ref b27), .val (.ref b67), .val (.ref b84), .val (.ref b105), .val (.ref b130), .val (.int (1 : Int32)), .val (.int (0 : Int32)), .val (.int (0 : Int32)), .val (.int (1 : Int32))]) rfl ?_
        show Steps p.tables e below (T185.setTop (mkF m 136 #[.val (.int p1), .val (.int p2), .val (.int p3), .val (.ref b1), .val (.ref b27), .val (.ref b67), .val (.ref b84), .val (.ref b105), .val (.ref b130), .val (.int (1 : Int32)), .val (.int (0 : Int32)), .val (.int (0 : Int32)), .val (.int (1 : Int32))] [])) _
        refine XS.iload X185.here hx rfl (hb hby at_136) rfl ?_
        show Steps p.tables e below (T185.setTop (mkF m 138 #[.val (.int p1), .val (.int p2), .val (.int p3), .val (.ref b1), .val (.ref b27), .val (.ref b67), .val (.ref b84), .val (.ref b105), .val (.ref b130), .val (.int (1 : Int32)), .val (.int (0 : Int32)), .val (.int (0 : Int32)), .val (.int (1 : Int32))] [(.int (0 : Int32))])) _
        refine XS.ifYes X185.here hx rfl (pc0 := 138) (pc' := 143) rfl (hb hby at_138) rfl ((if0 _ _).trans (teq (by decide : (0 : Int32) = (0 : Int32))).1) (by decide) (by decide) ?_
        show Steps p.tables e below (T185.setTop (mkF m 143 #[.val (.int p1), .val (.int p2), .val (.int p3), .val (.ref b1), .val (.ref b27), .val (.ref b67), .val (.ref b84), .val (.ref b105), .val (.ref b130), .val (.int (1 : Int32)), .val (.int (0 : Int32)), .val (.int (0 : Int32)), .val (.int (1 : Int32))] [])) _
        refine XS.iload X185.here hx rfl (hb hby at_143) rfl ?_
        show Steps p.tables e below (T185.setTop (mkF m 145 #[.val (.int p1), .val (.int p2), .val (.int p3), .val (.ref b1), .val (.ref b27), .val (.ref b67), .val (.ref b84), .val (.ref b105), .val (.ref b130), .val (.int (1 : Int32)), .val (.int (0 : Int32)), .val (.int (0 : Int32)), .val (.int (1 : Int32))] [(.int (1 : Int32))])) _
        refine XS.ifYes X185.here hx rfl (pc0 := 145) (pc' := 150) rfl (hb hby at_145) rfl ((if0 _ _).trans (feq (by decide : ¬ ((1 : Int32) = (0 : Int32)))).2) (by decide) (by decide) ?_
        show Steps p.tables e below (T185.setTop (mkF m 150 #[.val (.int p1), .val (.int p2), .val (.int p3), .val (.ref b1), .val (.ref b27), .val (.ref b67), .val (.ref b84), .val (.ref b105), .val (.ref b130), .val (.int (1 : Int32)), .val (.int (0 : Int32)), .val (.int (0 : Int32)), .val (.int (1 : Int32))] [])) _
        refine XS.iloadN X185.here hx rfl (hb hby at_150) rfl ?_
        show Steps p.tables e below (T185.setTop (mkF m 151 #[.val (.int p1), .val (.int p2), .val (.int p3), .val (.ref b1), .val (.ref b27), .val (.ref b67), .val (.ref b84), .val (.ref b105), .val (.ref b130), .val (.int (1 : Int32)), .val (.int (0 : Int32)), .val (.int (0 : Int32)), .val (.int (1 : Int32))] [(.int p1)])) _
        refine XS.iloadN X185.here hx rfl (hb hby at_151) rfl ?_
        show Steps p.tables e below (T185.setTop (mkF m 152 #[.val (.int p1), .val (.int p2), .val (.int p3), .val (.ref b1), .val (.ref b27), .val (.ref b67), .val (.ref b84), .val (.ref b105), .val (.ref b130), .val (.int (1 : Int32)), .val (.int (0 : Int32)), .val (.int (0 : Int32)), .val (.int (1 : Int32))] [(.int p2), (.int p1)])) _
        refine XS.icmpYes X185.here hx rfl (pc0 := 152) (pc' := 167) rfl (hb hby at_152) rfl (tlt (own_gt hs160 hs164)).2.2.1 (by decide) (by decide) ?_
        show Steps p.tables e below (T185.setTop (mkF m 167 #[.val (.int p1), .val (.int p2), .val (.int p3), .val (.ref b1), .val (.ref b27), .val (.ref b67), .val (.ref b84), .val (.ref b105), .val (.ref b130), .val (.int (1 : Int32)), .val (.int (0 : Int32)), .val (.int (0 : Int32)), .val (.int (1 : Int32))] [])) _
        refine XS.iloadN X185.here hx rfl (hb hby at_167) rfl ?_
        show Steps p.tables e below (T185.setTop (mkF m 168 #[.val (.int p1), .val (.int p2), .val (.int p3), .val (.ref b1), .val (.ref b27), .val (.ref b67), .val (.ref b84), .val (.ref b105), .val (.ref b130), .val (.int (1 : Int32)), .val (.int (0 : Int32)), .val (.int (0 : Int32)), .val (.int (1 : Int32))] [(.int p2)])) _
        refine XS.iloadN X185.here hx rfl (hb hby at_168) rfl ?_
        show Steps p.tables e below (T185.setTop (mkF m 169 #[.val (.int p1), .val (.int p2), .val (.int p3), .val (.ref b1), .val (.ref b27), .val (.ref b67), .val (.ref b84), .val (.ref b105), .val (.ref b130), .val (.int (1 : Int32)), .val (.int (0 : Int32)), .val (.int (0 : Int32)), .val (.int (1 : Int32))] [(.int p1), (.int p2)])) _
        exact k)
      by_cases hc188 : p1 < p2
      · have pre189 := fun (t : State) (k : Steps p.tables e below (T185.setTop (mkF m 185 #[.val (.int p1), .val (.int p2), .val (.int p3), .val (.ref b1), .val (.ref b27), .val (.ref b67), .val (.ref b84), .val (.ref b105), .val (.ref b130), .val (.int (1 : Int32)), .val (.int (0 : Int32)), .val (.int (0 : Int32)), .val (.int (1 : Int32))] [(.int (1 : Int32))])) t) => pre187 t (by
          refine XS.icmpYes X185.here hx rfl (pc0 := 169) (pc' := 184) rfl (hb hby at_169) rfl (tlt hc188).2.2.1 (by decide) (by decide) ?_
          show Steps p.tables e below (T185.setTop (mkF m 184 #[.val (.int p1), .val (.int p2), .val (.int p3), .val (.ref b1), .val (.ref b27), .val (.ref b67), .val (.ref b84), .val (.ref b105), .val (.ref b130), .val (.int (1 : Int32)), .val (.int (0 : Int32)), .val (.int (0 : Int32)), .val (.int (1 : Int32))] [])) _
          refine XS.iconst X185.here hx rfl (hb hby at_184) ?_
          show Steps p.tables e below (T185.setTop (mkF m 185 #[.val (.int p1), .val (.int p2), .val (.int p3), .val (.ref b1), .val (.ref b27), .val (.ref b67), .val (.ref b84), .val (.ref b105), .val (.ref b130), .val (.int (1 : Int32)), .val (.int (0 : Int32)), .val (.int (0 : Int32)), .val (.int (1 : Int32))] [(.int (1 : Int32))])) _
          exact k)
        obtain ⟨fs, hr, hrun, hended, hE1, hE2, hE3, hE4⟩ := X185.leaveW hS145 (by rw [hq186]; exact hk145) (v := some (.int (1 : Int32))) (hlocks := BodyLoose.notSynchronized Bd) (fun h => by rw [Bd.returns] at h; cases h)
        refine ⟨_, _, pre189 _ ?_, hrun, hended, _, _, rfl, ?_, hE1, hE2, hE3, hE4.mono (by decide) (by decide)⟩
        · exact retN X185 hx (t := .boolean) Bd.returns (by simp) (hb hby at_185) hr
        · show Q_law Z p1 p2 p3 zc h0 n0 _ T185.heap _
          rw [hq186]
          exact ⟨rfl, N185, K145⟩
      · have pre190 := fun (t : State) (k : Steps p.tables e below (T185.setTop (mkF m 185 #[.val (.int p1), .val (.int p2), .val (.int p3), .val (.ref b1), .val (.ref b27), .val (.ref b67), .val (.ref b84), .val (.ref b105), .val (.ref b130), .val (.int (1 : Int32)), .val (.int (0 : Int32)), .val (.int (0 : Int32)), .val (.int (1 : Int32))] [(.int (1 : Int32))])) t) => pre187 t (by
          refine XS.icmpNo X185.here hx rfl (hb hby at_169) rfl (flt hc188).2.2.1 ?_
          show Steps p.tables e below (T185.setTop (mkF m 172 #[.val (.int p1), .val (.int p2), .val (.int p3), .val (.ref b1), .val (.ref b27), .val (.ref b67), .val (.ref b84), .val (.ref b105), .val (.ref b130), .val (.int (1 : Int32)), .val (.int (0 : Int32)), .val (.int (0 : Int32)), .val (.int (1 : Int32))] [])) _
          refine XS.iload X185.here hx rfl (hb hby at_172) rfl ?_
          show Steps p.tables e below (T185.setTop (mkF m 174 #[.val (.int p1), .val (.int p2), .val (.int p3), .val (.ref b1), .val (.ref b27), .val (.ref b67), .val (.ref b84), .val (.ref b105), .val (.ref b130), .val (.int (1 : Int32)), .val (.int (0 : Int32)), .val (.int (0 : Int32)), .val (.int (1 : Int32))] [(.int (0 : Int32))])) _
          refine XS.ifYes X185.here hx rfl (pc0 := 174) (pc' := 184) rfl (hb hby at_174) rfl ((if0 _ _).trans (teq (by decide : (0 : Int32) = (0 : Int32))).1) (by decide) (by decide) ?_
          show Steps p.tables e below (T185.setTop (mkF m 184 #[.val (.int p1), .val (.int p2), .val (.int p3), .val (.ref b1), .val (.ref b27), .val (.ref b67), .val (.ref b84), .val (.ref b105), .val (.ref b130), .val (.int (1 : Int32)), .val (.int (0 : Int32)), .val (.int (0 : Int32)), .val (.int (1 : Int32))] [])) _
          refine XS.iconst X185.here hx rfl (hb hby at_184) ?_
          show Steps p.tables e below (T185.setTop (mkF m 185 #[.val (.int p1), .val (.int p2), .val (.int p3), .val (.ref b1), .val (.ref b27), .val (.ref b67), .val (.ref b84), .val (.ref b105), .val (.ref b130), .val (.int (1 : Int32)), .val (.int (0 : Int32)), .val (.int (0 : Int32)), .val (.int (1 : Int32))] [(.int (1 : Int32))])) _
          exact k)
        obtain ⟨fs, hr, hrun, hended, hE1, hE2, hE3, hE4⟩ := X185.leaveW hS145 (by rw [hq186]; exact hk145) (v := some (.int (1 : Int32))) (hlocks := BodyLoose.notSynchronized Bd) (fun h => by rw [Bd.returns] at h; cases h)
        refine ⟨_, _, pre190 _ ?_, hrun, hended, _, _, rfl, ?_, hE1, hE2, hE3, hE4.mono (by decide) (by decide)⟩
        · exact retN X185 hx (t := .boolean) Bd.returns (by simp) (hb hby at_185) hr
        · show Q_law Z p1 p2 p3 zc h0 n0 _ T185.heap _
          rw [hq186]
          exact ⟨rfl, N185, K145⟩
  · obtain ⟨cq191, kq191, q191a, q191b, q191c⟩ := isOf hZ145 rfl E152
    obtain ⟨_, _, ⟨T191, L191, k191, n191⟩, -, X191, ⟨Lc191, hQ191, l191, y191, z191⟩, st191⟩ := XS145.virtualBack hx (y := (⟨"com/example/arc3/arc3/Judgment", "isRelevant", "()Z"⟩ : MethodName)) (z := (⟨"com/example/arc3/arc3/Judgment", "isRelevant", "()Z"⟩ : MethodName)) ho145 (mvT hZ145 (hw _ (List.mem_of_getElem? (i := 56) rfl))) (mvT hZ145 (hw _ (List.mem_of_getElem? (i := 57) rfl))) (notFace_of_selects (args := #[]) (mvT hZ145 (hw _ (List.mem_of_getElem? (i := 59) rfl)))) (mvT hZ145 (hw _ (List.mem_of_getElem? (i := 59) rfl))) (mvT hZ145 (hw _ (List.mem_of_getElem? (i := 58) rfl))) (by decide) (backOf (W := 0) (rm_isr l Z a0 hw [] b67 p1 (0 : Int32) T145.heap n0 Zs158 F153 (fun q => absurd q hs160) (fun _ => rfl)) hZ145 (hw _ (List.mem_of_getElem? (i := 60) rfl)) (hw _ (List.mem_of_getElem? (i := 32) rfl)) (by decide) (by decide)) q191a q191c (g := (mkF m 110 #[.val (.int p1), .val (.int p2), .val (.int p3), .val (.ref b1), .val (.ref b27), .val (.ref b67), .val (.ref b84), .val (.ref b105), .val (.ref b130), .unset, .unset, .unset, .unset] [(.ref b67)])) rfl (by rw [hml]; rfl) (Steps.refl _) (argsL := []) (rest := []) (lenOf pd_4 rfl) rfl (by show 2 * 0 + _ ≤ _; exact Nat.le_of_eq rfl) (hb hby at_110) (fun _ _ => ⟨rfl, rfl, (by decide : 26 + 0 ≤ _), (by decide : 218 + 0 ≤ _)⟩)
    dsimp only [Pt.U, Pt.locs, Pt.cells, Pt.slots] at X191 l191 y191 z191 st191 hQ191
    subst l191 y191 z191
    obtain ⟨rfl, N191q, hq192⟩ := hQ191
    have N191 := Fr.app N145 N191q
    have pre193 := fun (t : State) (k : Steps p.tables e below (T191.setTop (mkF m 117 #[.val (.int p1), .val (.int p2), .val (.int p3), .val (.ref b1), .val (.ref b27), .val (.ref b67), .val (.ref b84), .val (.ref b105), .val (.ref b130), .val (.int (0 : Int32)), .unset, .unset, .unset] [(.ref b84)])) t) => pre159 t (by
      refine st191.trans ?_
      show Steps p.tables e below (T191.setTop (mkF m 113 #[.val (.int p1), .val (.int p2), .val (.int p3), .val (.ref b1), .val (.ref b27), .val (.ref b67), .val (.ref b84), .val (.ref b105), .val (.ref b130), .unset, .unset, .unset, .unset] [(.int (0 : Int32))])) _
      refine XS.istore X191.here hx rfl (hb hby at_113) rfl (l' := #[.val (.int p1), .val (.int p2), .val (.int p3), .val (.ref b1), .val (.ref b27), .val (.ref b67), .val (.ref b84), .val (.ref b105), .val (.ref b130), .val (.int (0 : Int32)), .unset, .unset, .unset]) rfl ?_
      show Steps p.tables e below (T191.setTop (mkF m 115 #[.val (.int p1), .val (.int p2), .val (.int p3), .val (.ref b1), .val (.ref b27), .val (.ref b67), .val (.ref b84), .val (.ref b105), .val (.ref b130), .val (.int (0 : Int32)), .unset, .unset, .unset] [])) _
      refine XS.aload X191.here hx rfl (hb hby at_115) rfl rfl ?_
      show Steps p.tables e below (T191.setTop (mkF m 117 #[.val (.int p1), .val (.int p2), .val (.int p3), .val (.ref b1), .val (.ref b27), .val (.ref b67), .val (.ref b84), .val (.ref b105), .val (.ref b130), .val (.int (0 : Int32)), .unset, .unset, .unset] [(.ref b84)])) _
      exact k)
    by_cases hs194 : (0 : Int32) < p2
    · obtain ⟨cq195, kq195, q195a, q195b, q195c⟩ := isOf hZ145 hq192 E154
      obtain ⟨_, _, ⟨T195, L195, k195, n195⟩, -, X195, ⟨Lc195, hQ195, l195, y195, z195⟩, st195⟩ := X191.virtualBack hx (y := (⟨"com/example/arc3/arc3/Judgment", "isRelevant", "()Z"⟩ : MethodName)) (z := (⟨"com/example/arc3/arc3/Judgment", "isRelevant", "()Z"⟩ : MethodName)) ho145 (mvT hZ145 (hw _ (List.mem_of_getElem? (i := 56) rfl))) (mvT hZ145 (hw _ (List.mem_of_getElem? (i := 57) rfl))) (notFace_of_selects (args := #[]) (mvT hZ145 (hw _ (List.mem_of_getElem? (i := 59) rfl)))) (mvT hZ145 (hw _ (List.mem_of_getElem? (i := 59) rfl))) (mvT hZ145 (hw _ (List.mem_of_getElem? (i := 58) rfl))) (by decide) (backOf (W := 0) (rm_isr l Z a0 hw [] b84 p2 (1 : Int32) T145.heap n0 Zs158 F155 (fun _ => rfl) (fun q => absurd hs194 q)) hZ145 (hw _ (List.mem_of_getElem? (i := 60) rfl)) (hw _ (List.mem_of_getElem? (i := 32) rfl)) (by decide) (by decide)) q195a q195c (g := (mkF m 117 #[.val (.int p1), .val (.int p2), .val (.int p3), .val (.ref b1), .val (.ref b27), .val (.ref b67), .val (.ref b84), .val (.ref b105), .val (.ref b130), .val (.int (0 : Int32)), .unset, .unset, .unset] [(.ref b84)])) rfl (by rw [hml]; rfl) (Steps.refl _) (argsL := []) (rest := []) (lenOf pd_4 rfl) rfl (by show 2 * 0 + _ ≤ _; exact Nat.le_of_eq rfl) (hb hby at_117) (fun _ _ => ⟨rfl, hq192, (by decide : 26 + 0 ≤ _), (by decide : 218 + 0 ≤ _)⟩)
      dsimp only [Pt.U, Pt.locs, Pt.cells, Pt.slots] at X195 l195 y195 z195 st195 hQ195
      subst l195 y195 z195
      obtain ⟨rfl, N195q, hq196⟩ := hQ195
      have N195 := Fr.app N191 N195q
      obtain ⟨cq197, kq197, q197a, q197b, q197c⟩ := isOf hZ145 hq196 E156
      obtain ⟨_, _, ⟨T197, L197, k197, n197⟩, -, X197, ⟨Lc197, hQ197, l197, y197, z197⟩, st197⟩ := X195.virtualBack hx (y := (⟨"com/example/arc3/arc3/Judgment", "isRelevant", "()Z"⟩ : MethodName)) (z := (⟨"com/example/arc3/arc3/Judgment", "isRelevant", "()Z"⟩ : MethodName)) ho145 (mvT hZ145 (hw _ (List.mem_of_getElem? (i := 56) rfl))) (mvT hZ145 (hw _ (List.mem_of_getElem? (i := 57) rfl))) (notFace_of_selects (args := #[]) (mvT hZ145 (hw _ (List.mem_of_getElem? (i := 59) rfl)))) (mvT hZ145 (hw _ (List.mem_of_getElem? (i := 59) rfl))) (mvT hZ145 (hw _ (List.mem_of_getElem? (i := 58) rfl))) (by decide) (backOf (W := 0) (rm_isr l Z a0 hw [] b105 (0 : Int32) (0 : Int32) T145.heap n0 Zs158 F157 (fun q => absurd q (by decide)) (fun _ => rfl)) hZ145 (hw _ (List.mem_of_getElem? (i := 60) rfl)) (hw _ (List.mem_of_getElem? (i := 32) rfl)) (by decide) (by decide)) q197a q197c (g := (mkF m 124 #[.val (.int p1), .val (.int p2), .val (.int p3), .val (.ref b1), .val (.ref b27), .val (.ref b67), .val (.ref b84), .val (.ref b105), .val (.ref b130), .val (.int (0 : Int32)), .val (.int (1 : Int32)), .unset, .unset] [(.ref b105)])) rfl (by rw [hml]; rfl) (Steps.refl _) (argsL := []) (rest := []) (lenOf pd_4 rfl) rfl (by show 2 * 0 + _ ≤ _; exact Nat.le_of_eq rfl) (hb hby at_124) (fun _ _ => ⟨rfl, hq196, (by decide : 26 + 0 ≤ _), (by decide : 218 + 0 ≤ _)⟩)
      dsimp only [Pt.U, Pt.locs, Pt.cells, Pt.slots] at X197 l197 y197 z197 st197 hQ197
      subst l197 y197 z197
      obtain ⟨rfl, N197q, hq198⟩ := hQ197
      have N197 := Fr.app N195 N197q
      obtain ⟨cq199, kq199, q199a, q199b, q199c⟩ := isOf hZ145 hq198 E147
      obtain ⟨_, _, ⟨T199, L199, k199, n199⟩, -, X199, ⟨Lc199, hQ199, l199, y199, z199⟩, st199⟩ := X197.virtualBack hx (y := (⟨"com/example/arc3/arc3/Judgment", "isRelevant", "()Z"⟩ : MethodName)) (z := (⟨"com/example/arc3/arc3/Judgment", "isRelevant", "()Z"⟩ : MethodName)) ho145 (mvT hZ145 (hw _ (List.mem_of_getElem? (i := 56) rfl))) (mvT hZ145 (hw _ (List.mem_of_getElem? (i := 57) rfl))) (notFace_of_selects (args := #[]) (mvT hZ145 (hw _ (List.mem_of_getElem? (i := 59) rfl)))) (mvT hZ145 (hw _ (List.mem_of_getElem? (i := 59) rfl))) (mvT hZ145 (hw _ (List.mem_of_getElem? (i := 58) rfl))) (by decide) (backOf (W := 0) (rm_isr l Z a0 hw [] b130 (1 : Int32) (1 : Int32) T145.heap n0 Zs158 F148 (fun _ => rfl) (fun q => absurd (by decide) q)) hZ145 (hw _ (List.mem_of_getElem? (i := 60) rfl)) (hw _ (List.mem_of_getElem? (i := 32) rfl)) (by decide) (by decide)) q199a q199c (g := (mkF m 131 #[.val (.int p1), .val (.int p2), .val (.int p3), .val (.ref b1), .val (.ref b27), .val (.ref b67), .val (.ref b84), .val (.ref b105), .val (.ref b130), .val (.int (0 : Int32)), .val (.int (1 : Int32)), .val (.int (0 : Int32)), .unset] [(.ref b130)])) rfl (by rw [hml]; rfl) (Steps.refl _) (argsL := []) (rest := []) (lenOf pd_4 rfl) rfl (by show 2 * 0 + _ ≤ _; exact Nat.le_of_eq rfl) (hb hby at_131) (fun _ _ => ⟨rfl, hq198, (by decide : 26 + 0 ≤ _), (by decide : 218 + 0 ≤ _)⟩)
      dsimp only [Pt.U, Pt.locs, Pt.cells, Pt.slots] at X199 l199 y199 z199 st199 hQ199
      subst l199 y199 z199
      obtain ⟨rfl, N199q, hq200⟩ := hQ199
      have N199 := Fr.app N197 N199q
      have pre201 := fun (t : State) (k : Steps p.tables e below (T199.setTop (mkF m 152 #[.val (.int p1), .val (.int p2), .val (.int p3), .val (.ref b1), .val (.ref b27), .val (.ref b67), .val (.ref b84), .val (.ref b105), .val (.ref b130), .val (.int (0 : Int32)), .val (.int (1 : Int32)), .val (.int (0 : Int32)), .val (.int (1 : Int32))] [(.int p2), (.int p1)])) t) => pre193 t (by
        refine st195.trans ?_
        show Steps p.tables e below (T195.setTop (mkF m 120 #[.val (.int p1), .val (.int p2), .val (.int p3), .val (.ref b1), .val (.ref b27), .val (.ref b67), .val (.ref b84), .val (.ref b105), .val (.ref b130), .val (.int (0 : Int32)), .unset, .unset, .unset] [(.int (1 : Int32))])) _
        refine XS.istore X195.here hx rfl (hb hby at_120) rfl (l' := #[.val (.int p1), .val (.int p2), .val (.int p3), .val (.ref b1), .val (.ref b27), .val (.ref b67), .val (.ref b84), .val (.ref b105), .val (.ref b130), .val (.int (0 : Int32)), .val (.int (1 : Int32)), .unset, .unset]) rfl ?_
        show Steps p.tables e below (T195.setTop (mkF m 122 #[.val (.int p1), .val (.int p2), .val (.int p3), .val (.ref b1), .val (.ref b27), .val (.ref b67), .val (.ref b84), .val (.ref b105), .val (.ref b130), .val (.int (0 : Int32)), .val (.int (1 : Int32)), .unset, .unset] [])) _
        refine XS.aload X195.here hx rfl (hb hby at_122) rfl rfl ?_
        show Steps p.tables e below (T195.setTop (mkF m 124 #[.val (.int p1), .val (.int p2), .val (.int p3), .val (.ref b1), .val (.ref b27), .val (.ref b67), .val (.ref b84), .val (.ref b105), .val (.ref b130), .val (.int (0 : Int32)), .val (.int (1 : Int32)), .unset, .unset] [(.ref b105)])) _
        refine st197.trans ?_
        show Steps p.tables e below (T197.setTop (mkF m 127 #[.val (.int p1), .val (.int p2), .val (.int p3), .val (.ref b1), .val (.ref b27), .val (.ref b67), .val (.ref b84), .val (.ref b105), .val (.ref b130), .val (.int (0 : Int32)), .val (.int (1 : Int32)), .unset, .unset] [(.int (0 : Int32))])) _
        refine XS.istore X197.here hx rfl (hb hby at_127) rfl (l' := #[.val (.int p1), .val (.int p2), .val (.int p3), .val (.ref b1), .val (.ref b27), .val (.ref b67), .val (.ref b84), .val (.ref b105), .val (.ref b130), .val (.int (0 : Int32)), .val (.int (1 : Int32)), .val (.int (0 : Int32)), .unset]) rfl ?_
        show Steps p.tables e below (T197.setTop (mkF m 129 #[.val (.int p1), .val (.int p2), .val (.int p3), .val (.ref b1), .val (.ref b27), .val (.ref b67), .val (.ref b84), .val (.ref b105), .val (.ref b130), .val (.int (0 : Int32)), .val (.int (1 : Int32)), .val (.int (0 : Int32)), .unset] [])) _
        refine XS.aload X197.here hx rfl (hb hby at_129) rfl rfl ?_
        show Steps p.tables e below (T197.setTop (mkF m 131 #[.val (.int p1), .val (.int p2), .val (.int p3), .val (.ref b1), .val (.ref b27), .val (.ref b67), .val (.ref b84), .val (.ref b105), .val (.ref b130), .val (.int (0 : Int32)), .val (.int (1 : Int32)), .val (.int (0 : Int32)), .unset] [(.ref b130)])) _
        refine st199.trans ?_
        show Steps p.tables e below (T199.setTop (mkF m 134 #[.val (.int p1), .val (.int p2), .val (.int p3), .val (.ref b1), .val (.ref b27), .val (.ref b67), .val (.ref b84), .val (.ref b105), .val (.ref b130), .val (.int (0 : Int32)), .val (.int (1 : Int32)), .val (.int (0 : Int32)), .unset] [(.int (1 : Int32))])) _
        refine XS.istore X199.here hx rfl (hb hby at_134) rfl (l' := #[.val (.int p1), .val (.int p2), .val (.int p3), .val (.ref b1), .val (.ref b27), .val (.ref b67), .val (.ref b84), .val (.ref b105), .val (.ref b130), .val (.int (0 : Int32)), .val (.int (1 : Int32)), .val (.int (0 : Int32)), .val (.int (1 : Int32))]) rfl ?_
        show Steps p.tables e below (T199.setTop (mkF m 136 #[.val (.int p1), .val (.int p2), .val (.int p3), .val (.ref b1), .val (.ref b27), .val (.ref b67), .val (.ref b84), .val (.ref b105), .val (.ref b130), .val (.int (0 : Int32)), .val (.int (1 : Int32)), .val (.int (0 : Int32)), .val (.int (1 : Int32))] [])) _
        refine XS.iload X199.here hx rfl (hb hby at_136) rfl ?_
        show Steps p.tables e below (T199.setTop (mkF m 138 #[.val (.int p1), .val (.int p2), .val (.int p3), .val (.ref b1), .val (.ref b27), .val (.ref b67), .val (.ref b84), .val (.ref b105), .val (.ref b130), .val (.int (0 : Int32)), .val (.int (1 : Int32)), .val (.int (0 : Int32)), .val (.int (1 : Int32))] [(.int (0 : Int32))])) _
        refine XS.ifYes X199.here hx rfl (pc0 := 138) (pc' := 143) rfl (hb hby at_138) rfl ((if0 _ _).trans (teq (by decide : (0 : Int32) = (0 : Int32))).1) (by decide) (by decide) ?_
        show Steps p.tables e below (T199.setTop (mkF m 143 #[.val (.int p1), .val (.int p2), .val (.int p3), .val (.ref b1), .val (.ref b27), .val (.ref b67), .val (.ref b84), .val (.ref b105), .val (.ref b130), .val (.int (0 : Int32)), .val (.int (1 : Int32)), .val (.int (0 : Int32)), .val (.int (1 : Int32))] [])) _
        refine XS.iload X199.here hx rfl (hb hby at_143) rfl ?_
        show Steps p.tables e below (T199.setTop (mkF m 145 #[.val (.int p1), .val (.int p2), .val (.int p3), .val (.ref b1), .val (.ref b27), .val (.ref b67), .val (.ref b84), .val (.ref b105), .val (.ref b130), .val (.int (0 : Int32)), .val (.int (1 : Int32)), .val (.int (0 : Int32)), .val (.int (1 : Int32))] [(.int (1 : Int32))])) _
        refine XS.ifYes X199.here hx rfl (pc0 := 145) (pc' := 150) rfl (hb hby at_145) rfl ((if0 _ _).trans (feq (by decide : ¬ ((1 : Int32) = (0 : Int32)))).2) (by decide) (by decide) ?_
        show Steps p.tables e below (T199.setTop (mkF m 150 #[.val (.int p1), .val (.int p2), .val (.int p3), .val (.ref b1), .val (.ref b27), .val (.ref b67), .val (.ref b84), .val (.ref b105), .val (.ref b130), .val (.int (0 : Int32)), .val (.int (1 : Int32)), .val (.int (0 : Int32)), .val (.int (1 : Int32))] [])) _
        refine XS.iloadN X199.here hx rfl (hb hby at_150) rfl ?_
        show Steps p.tables e below (T199.setTop (mkF m 151 #[.val (.int p1), .val (.int p2), .val (.int p3), .val (.ref b1), .val (.ref b27), .val (.ref b67), .val (.ref b84), .val (.ref b105), .val (.ref b130), .val (.int (0 : Int32)), .val (.int (1 : Int32)), .val (.int (0 : Int32)), .val (.int (1 : Int32))] [(.int p1)])) _
        refine XS.iloadN X199.here hx rfl (hb hby at_151) rfl ?_
        show Steps p.tables e below (T199.setTop (mkF m 152 #[.val (.int p1), .val (.int p2), .val (.int p3), .val (.ref b1), .val (.ref b27), .val (.ref b67), .val (.ref b84), .val (.ref b105), .val (.ref b130), .val (.int (0 : Int32)), .val (.int (1 : Int32)), .val (.int (0 : Int32)), .val (.int (1 : Int32))] [(.int p2), (.int p1)])) _
        exact k)
      by_cases hc202 : p2 < p1
      · have pre203 := fun (t : State) (k : Steps p.tables e below (T199.setTop (mkF m 185 #[.val (.int p1), .val (.int p2), .val (.int p3), .val (.ref b1), .val (.ref b27), .val (.ref b67), .val (.ref b84), .val (.ref b105), .val (.ref b130), .val (.int (0 : Int32)), .val (.int (1 : Int32)), .val (.int (0 : Int32)), .val (.int (1 : Int32))] [(.int (1 : Int32))])) t) => pre201 t (by
          refine XS.icmpYes X199.here hx rfl (pc0 := 152) (pc' := 167) rfl (hb hby at_152) rfl (tlt hc202).2.2.1 (by decide) (by decide) ?_
          show Steps p.tables e below (T199.setTop (mkF m 167 #[.val (.int p1), .val (.int p2), .val (.int p3), .val (.ref b1), .val (.ref b27), .val (.ref b67), .val (.ref b84), .val (.ref b105), .val (.ref b130), .val (.int (0 : Int32)), .val (.int (1 : Int32)), .val (.int (0 : Int32)), .val (.int (1 : Int32))] [])) _
          refine XS.iloadN X199.here hx rfl (hb hby at_167) rfl ?_
          show Steps p.tables e below (T199.setTop (mkF m 168 #[.val (.int p1), .val (.int p2), .val (.int p3), .val (.ref b1), .val (.ref b27), .val (.ref b67), .val (.ref b84), .val (.ref b105), .val (.ref b130), .val (.int (0 : Int32)), .val (.int (1 : Int32)), .val (.int (0 : Int32)), .val (.int (1 : Int32))] [(.int p2)])) _
          refine XS.iloadN X199.here hx rfl (hb hby at_168) rfl ?_
          show Steps p.tables e below (T199.setTop (mkF m 169 #[.val (.int p1), .val (.int p2), .val (.int p3), .val (.ref b1), .val (.ref b27), .val (.ref b67), .val (.ref b84), .val (.ref b105), .val (.ref b130), .val (.int (0 : Int32)), .val (.int (1 : Int32)), .val (.int (0 : Int32)), .val (.int (1 : Int32))] [(.int p1), (.int p2)])) _
          refine XS.icmpYes X199.here hx rfl (pc0 := 169) (pc' := 184) rfl (hb hby at_169) rfl (tlt (own_gt hs194 hs160)).2.2.1 (by decide) (by decide) ?_
          show Steps p.tables e below (T199.setTop (mkF m 184 #[.val (.int p1), .val (.int p2), .val (.int p3), .val (.ref b1), .val (.ref b27), .val (.ref b67), .val (.ref b84), .val (.ref b105), .val (.ref b130), .val (.int (0 : Int32)), .val (.int (1 : Int32)), .val (.int (0 : Int32)), .val (.int (1 : Int32))] [])) _
          refine XS.iconst X199.here hx rfl (hb hby at_184) ?_
          show Steps p.tables e below (T199.setTop (mkF m 185 #[.val (.int p1), .val (.int p2), .val (.int p3), .val (.ref b1), .val (.ref b27), .val (.ref b67), .val (.ref b84), .val (.ref b105), .val (.ref b130), .val (.int (0 : Int32)), .val (.int (1 : Int32)), .val (.int (0 : Int32)), .val (.int (1 : Int32))] [(.int (1 : Int32))])) _
          exact k)
        obtain ⟨fs, hr, hrun, hended, hE1, hE2, hE3, hE4⟩ := X199.leaveW hS145 (by rw [hq200]; exact hk145) (v := some (.int (1 : Int32))) (hlocks := BodyLoose.notSynchronized Bd) (fun h => by rw [Bd.returns] at h; cases h)
        refine ⟨_, _, pre203 _ ?_, hrun, hended, _, _, rfl, ?_, hE1, hE2, hE3, hE4.mono (by decide) (by decide)⟩
        · exact retN X199 hx (t := .boolean) Bd.returns (by simp) (hb hby at_185) hr
        · show Q_law Z p1 p2 p3 zc h0 n0 _ T199.heap _
          rw [hq200]
          exact ⟨rfl, N199, K145⟩
      · have pre204 := fun (t : State) (k : Steps p.tables e below (T199.setTop (mkF m 185 #[.val (.int p1), .val (.int p2), .val (.int p3), .val (.ref b1), .val (.ref b27), .val (.ref b67), .val (.ref b84), .val (.ref b105), .val (.ref b130), .val (.int (0 : Int32)), .val (.int (1 : Int32)), .val (.int (0 : Int32)), .val (.int (1 : Int32))] [(.int (1 : Int32))])) t) => pre201 t (by
          refine XS.icmpNo X199.here hx rfl (hb hby at_152) rfl (flt hc202).2.2.1 ?_
          show Steps p.tables e below (T199.setTop (mkF m 155 #[.val (.int p1), .val (.int p2), .val (.int p3), .val (.ref b1), .val (.ref b27), .val (.ref b67), .val (.ref b84), .val (.ref b105), .val (.ref b130), .val (.int (0 : Int32)), .val (.int (1 : Int32)), .val (.int (0 : Int32)), .val (.int (1 : Int32))] [])) _
          refine XS.iload X199.here hx rfl (hb hby at_155) rfl ?_
          show Steps p.tables e below (T199.setTop (mkF m 157 #[.val (.int p1), .val (.int p2), .val (.int p3), .val (.ref b1), .val (.ref b27), .val (.ref b67), .val (.ref b84), .val (.ref b105), .val (.ref b130), .val (.int (0 : Int32)), .val (.int (1 : Int32)), .val (.int (0 : Int32)), .val (.int (1 : Int32))] [(.int (0 : Int32))])) _
          refine XS.ifYes X199.here hx rfl (pc0 := 157) (pc' := 167) rfl (hb hby at_157) rfl ((if0 _ _).trans (teq (by decide : (0 : Int32) = (0 : Int32))).1) (by decide) (by decide) ?_
          show Steps p.tables e below (T199.setTop (mkF m 167 #[.val (.int p1), .val (.int p2), .val (.int p3), .val (.ref b1), .val (.ref b27), .val (.ref b67), .val (.ref b84), .val (.ref b105), .val (.ref b130), .val (.int (0 : Int32)), .val (.int (1 : Int32)), .val (.int (0 : Int32)), .val (.int (1 : Int32))] [])) _
          refine XS.iloadN X199.here hx rfl (hb hby at_167) rfl ?_
          show Steps p.tables e below (T199.setTop (mkF m 168 #[.val (.int p1), .val (.int p2), .val (.int p3), .val (.ref b1), .val (.ref b27), .val (.ref b67), .val (.ref b84), .val (.ref b105), .val (.ref b130), .val (.int (0 : Int32)), .val (.int (1 : Int32)), .val (.int (0 : Int32)), .val (.int (1 : Int32))] [(.int p2)])) _
          refine XS.iloadN X199.here hx rfl (hb hby at_168) rfl ?_
          show Steps p.tables e below (T199.setTop (mkF m 169 #[.val (.int p1), .val (.int p2), .val (.int p3), .val (.ref b1), .val (.ref b27), .val (.ref b67), .val (.ref b84), .val (.ref b105), .val (.ref b130), .val (.int (0 : Int32)), .val (.int (1 : Int32)), .val (.int (0 : Int32)), .val (.int (1 : Int32))] [(.int p1), (.int p2)])) _
          refine XS.icmpYes X199.here hx rfl (pc0 := 169) (pc' := 184) rfl (hb hby at_169) rfl (tlt (own_gt hs194 hs160)).2.2.1 (by decide) (by decide) ?_
          show Steps p.tables e below (T199.setTop (mkF m 184 #[.val (.int p1), .val (.int p2), .val (.int p3), .val (.ref b1), .val (.ref b27), .val (.ref b67), .val (.ref b84), .val (.ref b105), .val (.ref b130), .val (.int (0 : Int32)), .val (.int (1 : Int32)), .val (.int (0 : Int32)), .val (.int (1 : Int32))] [])) _
          refine XS.iconst X199.here hx rfl (hb hby at_184) ?_
          show Steps p.tables e below (T199.setTop (mkF m 185 #[.val (.int p1), .val (.int p2), .val (.int p3), .val (.ref b1), .val (.ref b27), .val (.ref b67), .val (.ref b84), .val (.ref b105), .val (.ref b130), .val (.int (0 : Int32)), .val (.int (1 : Int32)), .val (.int (0 : Int32)), .val (.int (1 : Int32))] [(.int (1 : Int32))])) _
          exact k)
        obtain ⟨fs, hr, hrun, hended, hE1, hE2, hE3, hE4⟩ := X199.leaveW hS145 (by rw [hq200]; exact hk145) (v := some (.int (1 : Int32))) (hlocks := BodyLoose.notSynchronized Bd) (fun h => by rw [Bd.returns] at h; cases h)
        refine ⟨_, _, pre204 _ ?_, hrun, hended, _, _, rfl, ?_, hE1, hE2, hE3, hE4.mono (by decide) (by decide)⟩
        · exact retN X199 hx (t := .boolean) Bd.returns (by simp) (hb hby at_185) hr
        · show Q_law Z p1 p2 p3 zc h0 n0 _ T199.heap _
          rw [hq200]
          exact ⟨rfl, N199, K145⟩
    · obtain ⟨cq205, kq205, q205a, q205b, q205c⟩ := isOf hZ145 hq192 E154
      obtain ⟨_, _, ⟨T205, L205, k205, n205⟩, -, X205, ⟨Lc205, hQ205, l205, y205, z205⟩, st205⟩ := X191.virtualBack hx (y := (⟨"com/example/arc3/arc3/Judgment", "isRelevant", "()Z"⟩ : MethodName)) (z := (⟨"com/example/arc3/arc3/Judgment", "isRelevant", "()Z"⟩ : MethodName)) ho145 (mvT hZ145 (hw _ (List.mem_of_getElem? (i := 56) rfl))) (mvT hZ145 (hw _ (List.mem_of_getElem? (i := 57) rfl))) (notFace_of_selects (args := #[]) (mvT hZ145 (hw _ (List.mem_of_getElem? (i := 59) rfl)))) (mvT hZ145 (hw _ (List.mem_of_getElem? (i := 59) rfl))) (mvT hZ145 (hw _ (List.mem_of_getElem? (i := 58) rfl))) (by decide) (backOf (W := 0) (rm_isr l Z a0 hw [] b84 p2 (0 : Int32) T145.heap n0 Zs158 F155 (fun q => absurd q hs194) (fun _ => rfl)) hZ145 (hw _ (List.mem_of_getElem? (i := 60) rfl)) (hw _ (List.mem_of_getElem? (i := 32) rfl)) (by decide) (by decide)) q205a q205c (g := (mkF m 117 #[.val (.int p1), .val (.int p2), .val (.int p3), .val (.ref b1), .val (.ref b27), .val (.ref b67), .val (.ref b84), .val (.ref b105), .val (.ref b130), .val (.int (0 : Int32)), .unset, .unset, .unset] [(.ref b84)])) rfl (by rw [hml]; rfl) (Steps.refl _) (argsL := []) (rest := []) (lenOf pd_4 rfl) rfl (by show 2 * 0 + _ ≤ _; exact Nat.le_of_eq rfl) (hb hby at_117) (fun _ _ => ⟨rfl, hq192, (by decide : 26 + 0 ≤ _), (by decide : 218 + 0 ≤ _)⟩)
      dsimp only [Pt.U, Pt.locs, Pt.cells, Pt.slots] at X205 l205 y205 z205 st205 hQ205
      subst l205 y205 z205
      obtain ⟨rfl, N205q, hq206⟩ := hQ205
      have N205 := Fr.app N191 N205q
      obtain ⟨cq207, kq207, q207a, q207b, q207c⟩ := isOf hZ145 hq206 E156
      obtain ⟨_, _, ⟨T207, L207, k207, n207⟩, -, X207, ⟨Lc207, hQ207, l207, y207, z207⟩, st207⟩ := X205.virtualBack hx (y := (⟨"com/example/arc3/arc3/Judgment", "isRelevant", "()Z"⟩ : MethodName)) (z := (⟨"com/example/arc3/arc3/Judgment", "isRelevant", "()Z"⟩ : MethodName)) ho145 (mvT hZ145 (hw _ (List.mem_of_getElem? (i := 56) rfl))) (mvT hZ145 (hw _ (List.mem_of_getElem? (i := 57) rfl))) (notFace_of_selects (args := #[]) (mvT hZ145 (hw _ (List.mem_of_getElem? (i := 59) rfl)))) (mvT hZ145 (hw _ (List.mem_of_getElem? (i := 59) rfl))) (mvT hZ145 (hw _ (List.mem_of_getElem? (i := 58) rfl))) (by decide) (backOf (W := 0) (rm_isr l Z a0 hw [] b105 (0 : Int32) (0 : Int32) T145.heap n0 Zs158 F157 (fun q => absurd q (by decide)) (fun _ => rfl)) hZ145 (hw _ (List.mem_of_getElem? (i := 60) rfl)) (hw _ (List.mem_of_getElem? (i := 32) rfl)) (by decide) (by decide)) q207a q207c (g := (mkF m 124 #[.val (.int p1), .val (.int p2), .val (.int p3), .val (.ref b1), .val (.ref b27), .val (.ref b67), .val (.ref b84), .val (.ref b105), .val (.ref b130), .val (.int (0 : Int32)), .val (.int (0 : Int32)), .unset, .unset] [(.ref b105)])) rfl (by rw [hml]; rfl) (Steps.refl _) (argsL := []) (rest := []) (lenOf pd_4 rfl) rfl (by show 2 * 0 + _ ≤ _; exact Nat.le_of_eq rfl) (hb hby at_124) (fun _ _ => ⟨rfl, hq206, (by decide : 26 + 0 ≤ _), (by decide : 218 + 0 ≤ _)⟩)
      dsimp only [Pt.U, Pt.locs, Pt.cells, Pt.slots] at X207 l207 y207 z207 st207 hQ207
      subst l207 y207 z207
      obtain ⟨rfl, N207q, hq208⟩ := hQ207
      have N207 := Fr.app N205 N207q
      obtain ⟨cq209, kq209, q209a, q209b, q209c⟩ := isOf hZ145 hq208 E147
      obtain ⟨_, _, ⟨T209, L209, k209, n209⟩, -, X209, ⟨Lc209, hQ209, l209, y209, z209⟩, st209⟩ := X207.virtualBack hx (y := (⟨"com/example/arc3/arc3/Judgment", "isRelevant", "()Z"⟩ : MethodName)) (z := (⟨"com/example/arc3/arc3/Judgment", "isRelevant", "()Z"⟩ : MethodName)) ho145 (mvT hZ145 (hw _ (List.mem_of_getElem? (i := 56) rfl))) (mvT hZ145 (hw _ (List.mem_of_getElem? (i := 57) rfl))) (notFace_of_selects (args := #[]) (mvT hZ145 (hw _ (List.mem_of_getElem? (i := 59) rfl)))) (mvT hZ145 (hw _ (List.mem_of_getElem? (i := 59) rfl))) (mvT hZ145 (hw _ (List.mem_of_getElem? (i := 58) rfl))) (by decide) (backOf (W := 0) (rm_isr l Z a0 hw [] b130 (1 : Int32) (1 : Int32) T145.heap n0 Zs158 F148 (fun _ => rfl) (fun q => absurd (by decide) q)) hZ145 (hw _ (List.mem_of_getElem? (i := 60) rfl)) (hw _ (List.mem_of_getElem? (i := 32) rfl)) (by decide) (by decide)) q209a q209c (g := (mkF m 131 #[.val (.int p1), .val (.int p2), .val (.int p3), .val (.ref b1), .val (.ref b27), .val (.ref b67), .val (.ref b84), .val (.ref b105), .val (.ref b130), .val (.int (0 : Int32)), .val (.int (0 : Int32)), .val (.int (0 : Int32)), .unset] [(.ref b130)])) rfl (by rw [hml]; rfl) (Steps.refl _) (argsL := []) (rest := []) (lenOf pd_4 rfl) rfl (by show 2 * 0 + _ ≤ _; exact Nat.le_of_eq rfl) (hb hby at_131) (fun _ _ => ⟨rfl, hq208, (by decide : 26 + 0 ≤ _), (by decide : 218 + 0 ≤ _)⟩)
      dsimp only [Pt.U, Pt.locs, Pt.cells, Pt.slots] at X209 l209 y209 z209 st209 hQ209
      subst l209 y209 z209
      obtain ⟨rfl, N209q, hq210⟩ := hQ209
      have N209 := Fr.app N207 N209q
      have pre211 := fun (t : State) (k : Steps p.tables e below (T209.setTop (mkF m 152 #[.val (.int p1), .val (.int p2), .val (.int p3), .val (.ref b1), .val (.ref b27), .val (.ref b67), .val (.ref b84), .val (.ref b105), .val (.ref b130), .val (.int (0 : Int32)), .val (.int (0 : Int32)), .val (.int (0 : Int32)), .val (.int (1 : Int32))] [(.int p2), (.int p1)])) t) => pre193 t (by
        refine st205.trans ?_
        show Steps p.tables e below (T205.setTop (mkF m 120 #[.val (.int p1), .val (.int p2), .val (.int p3), .val (.ref b1), .val (.ref b27), .val (.ref b67), .val (.ref b84), .val (.ref b105), .val (.ref b130), .val (.int (0 : Int32)), .unset, .unset, .unset] [(.int (0 : Int32))])) _
        refine XS.istore X205.here hx rfl (hb hby at_120) rfl (l' := #[.val (.int p1), .val (.int p2), .val (.int p3), .val (.ref b1), .val (.ref b27), .val (.ref b67), .val (.ref b84), .val (.ref b105), .val (.ref b130), .val (.int (0 : Int32)), .val (.int (0 : Int32)), .unset, .unset]) rfl ?_
        show Steps p.tables e below (T205.setTop (mkF m 122 #[.val (.int p1), .val (.int p2), .val (.int p3), .val (.ref b1), .val (.ref b27), .val (.ref b67), .val (.ref b84), .val (.ref b105), .val (.ref b130), .val (.int (0 : Int32)), .val (.int (0 : Int32)), .unset, .unset] [])) _
        refine XS.aload X205.here hx rfl (hb hby at_122) rfl rfl ?_
        show Steps p.tables e below (T205.setTop (mkF m 124 #[.val (.int p1), .val (.int p2), .val (.int p3), .val (.ref b1), .val (.ref b27), .val (.ref b67), .val (.ref b84), .val (.ref b105), .val (.ref b130), .val (.int (0 : Int32)), .val (.int (0 : Int32)), .unset, .unset] [(.ref b105)])) _
        refine st207.trans ?_
        show Steps p.tables e below (T207.setTop (mkF m 127 #[.val (.int p1), .val (.int p2), .val (.int p3), .val (.ref b1), .val (.ref b27), .val (.ref b67), .val (.ref b84), .val (.ref b105), .val (.ref b130), .val (.int (0 : Int32)), .val (.int (0 : Int32)), .unset, .unset] [(.int (0 : Int32))])) _
        refine XS.istore X207.here hx rfl (hb hby at_127) rfl (l' := #[.val (.int p1), .val (.int p2), .val (.int p3), .val (.ref b1), .val (.ref b27), .val (.ref b67), .val (.ref b84), .val (.ref b105), .val (.ref b130), .val (.int (0 : Int32)), .val (.int (0 : Int32)), .val (.int (0 : Int32)), .unset]) rfl ?_
        show Steps p.tables e below (T207.setTop (mkF m 129 #[.val (.int p1), .val (.int p2), .val (.int p3), .val (.ref b1), .val (.ref b27), .val (.ref b67), .val (.ref b84), .val (.ref b105), .val (.ref b130), .val (.int (0 : Int32)), .val (.int (0 : Int32)), .val (.int (0 : Int32)), .unset] [])) _
        refine XS.aload X207.here hx rfl (hb hby at_129) rfl rfl ?_
        show Steps p.tables e below (T207.setTop (mkF m 131 #[.val (.int p1), .val (.int p2), .val (.int p3), .val (.ref b1), .val (.ref b27), .val (.ref b67), .val (.ref b84), .val (.ref b105), .val (.ref b130), .val (.int (0 : Int32)), .val (.int (0 : Int32)), .val (.int (0 : Int32)), .unset] [(.ref b130)])) _
        refine st209.trans ?_
        show Steps p.tables e below (T209.setTop (mkF m 134 #[.val (.int p1), .val (.int p2), .val (.int p3), .val (.ref b1), .val (.ref b27), .val (.ref b67), .val (.ref b84), .val (.ref b105), .val (.ref b130), .val (.int (0 : Int32)), .val (.int (0 : Int32)), .val (.int (0 : Int32)), .unset] [(.int (1 : Int32))])) _
        refine XS.istore X209.here hx rfl (hb hby at_134) rfl (l' := #[.val (.int p1), .val (.int p2), .val (.int p3), .val (.ref b1), .val (.ref b27), .val (.ref b67), .val (.ref b84), .val (.ref b105), .val (.ref b130), .val (.int (0 : Int32)), .val (.int (0 : Int32)), .val (.int (0 : Int32)), .val (.int (1 : Int32))]) rfl ?_
        show Steps p.tables e below (T209.setTop (mkF m 136 #[.val (.int p1), .val (.int p2), .val (.int p3), .val (.ref b1), .val (.ref b27), .val (.ref b67), .val (.ref b84), .val (.ref b105), .val (.ref b130), .val (.int (0 : Int32)), .val (.int (0 : Int32)), .val (.int (0 : Int32)), .val (.int (1 : Int32))] [])) _
        refine XS.iload X209.here hx rfl (hb hby at_136) rfl ?_
        show Steps p.tables e below (T209.setTop (mkF m 138 #[.val (.int p1), .val (.int p2), .val (.int p3), .val (.ref b1), .val (.ref b27), .val (.ref b67), .val (.ref b84), .val (.ref b105), .val (.ref b130), .val (.int (0 : Int32)), .val (.int (0 : Int32)), .val (.int (0 : Int32)), .val (.int (1 : Int32))] [(.int (0 : Int32))])) _
        refine XS.ifYes X209.here hx rfl (pc0 := 138) (pc' := 143) rfl (hb hby at_138) rfl ((if0 _ _).trans (teq (by decide : (0 : Int32) = (0 : Int32))).1) (by decide) (by decide) ?_
        show Steps p.tables e below (T209.setTop (mkF m 143 #[.val (.int p1), .val (.int p2), .val (.int p3), .val (.ref b1), .val (.ref b27), .val (.ref b67), .val (.ref b84), .val (.ref b105), .val (.ref b130), .val (.int (0 : Int32)), .val (.int (0 : Int32)), .val (.int (0 : Int32)), .val (.int (1 : Int32))] [])) _
        refine XS.iload X209.here hx rfl (hb hby at_143) rfl ?_
        show Steps p.tables e below (T209.setTop (mkF m 145 #[.val (.int p1), .val (.int p2), .val (.int p3), .val (.ref b1), .val (.ref b27), .val (.ref b67), .val (.ref b84), .val (.ref b105), .val (.ref b130), .val (.int (0 : Int32)), .val (.int (0 : Int32)), .val (.int (0 : Int32)), .val (.int (1 : Int32))] [(.int (1 : Int32))])) _
        refine XS.ifYes X209.here hx rfl (pc0 := 145) (pc' := 150) rfl (hb hby at_145) rfl ((if0 _ _).trans (feq (by decide : ¬ ((1 : Int32) = (0 : Int32)))).2) (by decide) (by decide) ?_
        show Steps p.tables e below (T209.setTop (mkF m 150 #[.val (.int p1), .val (.int p2), .val (.int p3), .val (.ref b1), .val (.ref b27), .val (.ref b67), .val (.ref b84), .val (.ref b105), .val (.ref b130), .val (.int (0 : Int32)), .val (.int (0 : Int32)), .val (.int (0 : Int32)), .val (.int (1 : Int32))] [])) _
        refine XS.iloadN X209.here hx rfl (hb hby at_150) rfl ?_
        show Steps p.tables e below (T209.setTop (mkF m 151 #[.val (.int p1), .val (.int p2), .val (.int p3), .val (.ref b1), .val (.ref b27), .val (.ref b67), .val (.ref b84), .val (.ref b105), .val (.ref b130), .val (.int (0 : Int32)), .val (.int (0 : Int32)), .val (.int (0 : Int32)), .val (.int (1 : Int32))] [(.int p1)])) _
        refine XS.iloadN X209.here hx rfl (hb hby at_151) rfl ?_
        show Steps p.tables e below (T209.setTop (mkF m 152 #[.val (.int p1), .val (.int p2), .val (.int p3), .val (.ref b1), .val (.ref b27), .val (.ref b67), .val (.ref b84), .val (.ref b105), .val (.ref b130), .val (.int (0 : Int32)), .val (.int (0 : Int32)), .val (.int (0 : Int32)), .val (.int (1 : Int32))] [(.int p2), (.int p1)])) _
        exact k)
      by_cases hc212 : p2 < p1
      · have pre213 := fun (t : State) (k : Steps p.tables e below (T209.setTop (mkF m 169 #[.val (.int p1), .val (.int p2), .val (.int p3), .val (.ref b1), .val (.ref b27), .val (.ref b67), .val (.ref b84), .val (.ref b105), .val (.ref b130), .val (.int (0 : Int32)), .val (.int (0 : Int32)), .val (.int (0 : Int32)), .val (.int (1 : Int32))] [(.int p1), (.int p2)])) t) => pre211 t (by
          refine XS.icmpYes X209.here hx rfl (pc0 := 152) (pc' := 167) rfl (hb hby at_152) rfl (tlt hc212).2.2.1 (by decide) (by decide) ?_
          show Steps p.tables e below (T209.setTop (mkF m 167 #[.val (.int p1), .val (.int p2), .val (.int p3), .val (.ref b1), .val (.ref b27), .val (.ref b67), .val (.ref b84), .val (.ref b105), .val (.ref b130), .val (.int (0 : Int32)), .val (.int (0 : Int32)), .val (.int (0 : Int32)), .val (.int (1 : Int32))] [])) _
          refine XS.iloadN X209.here hx rfl (hb hby at_167) rfl ?_
          show Steps p.tables e below (T209.setTop (mkF m 168 #[.val (.int p1), .val (.int p2), .val (.int p3), .val (.ref b1), .val (.ref b27), .val (.ref b67), .val (.ref b84), .val (.ref b105), .val (.ref b130), .val (.int (0 : Int32)), .val (.int (0 : Int32)), .val (.int (0 : Int32)), .val (.int (1 : Int32))] [(.int p2)])) _
          refine XS.iloadN X209.here hx rfl (hb hby at_168) rfl ?_
          show Steps p.tables e below (T209.setTop (mkF m 169 #[.val (.int p1), .val (.int p2), .val (.int p3), .val (.ref b1), .val (.ref b27), .val (.ref b67), .val (.ref b84), .val (.ref b105), .val (.ref b130), .val (.int (0 : Int32)), .val (.int (0 : Int32)), .val (.int (0 : Int32)), .val (.int (1 : Int32))] [(.int p1), (.int p2)])) _
          exact k)
        by_cases hc214 : p1 < p2
        · have pre215 := fun (t : State) (k : Steps p.tables e below (T209.setTop (mkF m 185 #[.val (.int p1), .val (.int p2), .val (.int p3), .val (.ref b1), .val (.ref b27), .val (.ref b67), .val (.ref b84), .val (.ref b105), .val (.ref b130), .val (.int (0 : Int32)), .val (.int (0 : Int32)), .val (.int (0 : Int32)), .val (.int (1 : Int32))] [(.int (1 : Int32))])) t) => pre213 t (by
            refine XS.icmpYes X209.here hx rfl (pc0 := 169) (pc' := 184) rfl (hb hby at_169) rfl (tlt hc214).2.2.1 (by decide) (by decide) ?_
            show Steps p.tables e below (T209.setTop (mkF m 184 #[.val (.int p1), .val (.int p2), .val (.int p3), .val (.ref b1), .val (.ref b27), .val (.ref b67), .val (.ref b84), .val (.ref b105), .val (.ref b130), .val (.int (0 : Int32)), .val (.int (0 : Int32)), .val (.int (0 : Int32)), .val (.int (1 : Int32))] [])) _
            refine XS.iconst X209.here hx rfl (hb hby at_184) ?_
            show Steps p.tables e below (T209.setTop (mkF m 185 #[.val (.int p1), .val (.int p2), .val (.int p3), .val (.ref b1), .val (.ref b27), .val (.ref b67), .val (.ref b84), .val (.ref b105), .val (.ref b130), .val (.int (0 : Int32)), .val (.int (0 : Int32)), .val (.int (0 : Int32)), .val (.int (1 : Int32))] [(.int (1 : Int32))])) _
            exact k)
          obtain ⟨fs, hr, hrun, hended, hE1, hE2, hE3, hE4⟩ := X209.leaveW hS145 (by rw [hq210]; exact hk145) (v := some (.int (1 : Int32))) (hlocks := BodyLoose.notSynchronized Bd) (fun h => by rw [Bd.returns] at h; cases h)
          refine ⟨_, _, pre215 _ ?_, hrun, hended, _, _, rfl, ?_, hE1, hE2, hE3, hE4.mono (by decide) (by decide)⟩
          · exact retN X209 hx (t := .boolean) Bd.returns (by simp) (hb hby at_185) hr
          · show Q_law Z p1 p2 p3 zc h0 n0 _ T209.heap _
            rw [hq210]
            exact ⟨rfl, N209, K145⟩
        · have pre216 := fun (t : State) (k : Steps p.tables e below (T209.setTop (mkF m 185 #[.val (.int p1), .val (.int p2), .val (.int p3), .val (.ref b1), .val (.ref b27), .val (.ref b67), .val (.ref b84), .val (.ref b105), .val (.ref b130), .val (.int (0 : Int32)), .val (.int (0 : Int32)), .val (.int (0 : Int32)), .val (.int (1 : Int32))] [(.int (1 : Int32))])) t) => pre213 t (by
            refine XS.icmpNo X209.here hx rfl (hb hby at_169) rfl (flt hc214).2.2.1 ?_
            show Steps p.tables e below (T209.setTop (mkF m 172 #[.val (.int p1), .val (.int p2), .val (.int p3), .val (.ref b1), .val (.ref b27), .val (.ref b67), .val (.ref b84), .val (.ref b105), .val (.ref b130), .val (.int (0 : Int32)), .val (.int (0 : Int32)), .val (.int (0 : Int32)), .val (.int (1 : Int32))] [])) _
            refine XS.iload X209.here hx rfl (hb hby at_172) rfl ?_
            show Steps p.tables e below (T209.setTop (mkF m 174 #[.val (.int p1), .val (.int p2), .val (.int p3), .val (.ref b1), .val (.ref b27), .val (.ref b67), .val (.ref b84), .val (.ref b105), .val (.ref b130), .val (.int (0 : Int32)), .val (.int (0 : Int32)), .val (.int (0 : Int32)), .val (.int (1 : Int32))] [(.int (0 : Int32))])) _
            refine XS.ifYes X209.here hx rfl (pc0 := 174) (pc' := 184) rfl (hb hby at_174) rfl ((if0 _ _).trans (teq (by decide : (0 : Int32) = (0 : Int32))).1) (by decide) (by decide) ?_
            show Steps p.tables e below (T209.setTop (mkF m 184 #[.val (.int p1), .val (.int p2), .val (.int p3), .val (.ref b1), .val (.ref b27), .val (.ref b67), .val (.ref b84), .val (.ref b105), .val (.ref b130), .val (.int (0 : Int32)), .val (.int (0 : Int32)), .val (.int (0 : Int32)), .val (.int (1 : Int32))] [])) _
            refine XS.iconst X209.here hx rfl (hb hby at_184) ?_
            show Steps p.tables e below (T209.setTop (mkF m 185 #[.val (.int p1), .val (.int p2), .val (.int p3), .val (.ref b1), .val (.ref b27), .val (.ref b67), .val (.ref b84), .val (.ref b105), .val (.ref b130), .val (.int (0 : Int32)), .val (.int (0 : Int32)), .val (.int (0 : Int32)), .val (.int (1 : Int32))] [(.int (1 : Int32))])) _
            exact k)
          obtain ⟨fs, hr, hrun, hended, hE1, hE2, hE3, hE4⟩ := X209.leaveW hS145 (by rw [hq210]; exact hk145) (v := some (.int (1 : Int32))) (hlocks := BodyLoose.notSynchronized Bd) (fun h => by rw [Bd.returns] at h; cases h)
          refine ⟨_, _, pre216 _ ?_, hrun, hended, _, _, rfl, ?_, hE1, hE2, hE3, hE4.mono (by decide) (by decide)⟩
          · exact retN X209 hx (t := .boolean) Bd.returns (by simp) (hb hby at_185) hr
          · show Q_law Z p1 p2 p3 zc h0 n0 _ T209.heap _
            rw [hq210]
            exact ⟨rfl, N209, K145⟩
      · have pre217 := fun (t : State) (k : Steps p.tables e below (T209.setTop (mkF m 169 #[.val (.int p1), .val (.int p2), .val (.int p3), .val (.ref b1), .val (.ref b27), .val (.ref b67), .val (.ref b84), .val (.ref b105), .val (.ref b130), .val (.int (0 : Int32)), .val (.int (0 : Int32)), .val (.int (0 : Int32)), .val (.int (1 : Int32))] [(.int p1), (.int p2)])) t) => pre211 t (by
          refine XS.icmpNo X209.here hx rfl (hb hby at_152) rfl (flt hc212).2.2.1 ?_
          show Steps p.tables e below (T209.setTop (mkF m 155 #[.val (.int p1), .val (.int p2), .val (.int p3), .val (.ref b1), .val (.ref b27), .val (.ref b67), .val (.ref b84), .val (.ref b105), .val (.ref b130), .val (.int (0 : Int32)), .val (.int (0 : Int32)), .val (.int (0 : Int32)), .val (.int (1 : Int32))] [])) _
          refine XS.iload X209.here hx rfl (hb hby at_155) rfl ?_
          show Steps p.tables e below (T209.setTop (mkF m 157 #[.val (.int p1), .val (.int p2), .val (.int p3), .val (.ref b1), .val (.ref b27), .val (.ref b67), .val (.ref b84), .val (.ref b105), .val (.ref b130), .val (.int (0 : Int32)), .val (.int (0 : Int32)), .val (.int (0 : Int32)), .val (.int (1 : Int32))] [(.int (0 : Int32))])) _
          refine XS.ifYes X209.here hx rfl (pc0 := 157) (pc' := 167) rfl (hb hby at_157) rfl ((if0 _ _).trans (teq (by decide : (0 : Int32) = (0 : Int32))).1) (by decide) (by decide) ?_
          show Steps p.tables e below (T209.setTop (mkF m 167 #[.val (.int p1), .val (.int p2), .val (.int p3), .val (.ref b1), .val (.ref b27), .val (.ref b67), .val (.ref b84), .val (.ref b105), .val (.ref b130), .val (.int (0 : Int32)), .val (.int (0 : Int32)), .val (.int (0 : Int32)), .val (.int (1 : Int32))] [])) _
          refine XS.iloadN X209.here hx rfl (hb hby at_167) rfl ?_
          show Steps p.tables e below (T209.setTop (mkF m 168 #[.val (.int p1), .val (.int p2), .val (.int p3), .val (.ref b1), .val (.ref b27), .val (.ref b67), .val (.ref b84), .val (.ref b105), .val (.ref b130), .val (.int (0 : Int32)), .val (.int (0 : Int32)), .val (.int (0 : Int32)), .val (.int (1 : Int32))] [(.int p2)])) _
          refine XS.iloadN X209.here hx rfl (hb hby at_168) rfl ?_
          show Steps p.tables e below (T209.setTop (mkF m 169 #[.val (.int p1), .val (.int p2), .val (.int p3), .val (.ref b1), .val (.ref b27), .val (.ref b67), .val (.ref b84), .val (.ref b105), .val (.ref b130), .val (.int (0 : Int32)), .val (.int (0 : Int32)), .val (.int (0 : Int32)), .val (.int (1 : Int32))] [(.int p1), (.int p2)])) _
          exact k)
        by_cases hc218 : p1 < p2
        · have pre219 := fun (t : State) (k : Steps p.tables e below (T209.setTop (mkF m 185 #[.val (.int p1), .val (.int p2), .val (.int p3), .val (.ref b1), .val (.ref b27), .val (.ref b67), .val (.ref b84), .val (.ref b105), .val (.ref b130), .val (.int (0 : Int32)), .val (.int (0 : Int32)), .val (.int (0 : Int32)), .val (.int (1 : Int32))] [(.int (1 : Int32))])) t) => pre217 t (by
            refine XS.icmpYes X209.here hx rfl (pc0 := 169) (pc' := 184) rfl (hb hby at_169) rfl (tlt hc218).2.2.1 (by decide) (by decide) ?_
            show Steps p.tables e below (T209.setTop (mkF m 184 #[.val (.int p1), .val (.int p2), .val (.int p3), .val (.ref b1), .val (.ref b27), .val (.ref b67), .val (.ref b84), .val (.ref b105), .val (.ref b130), .val (.int (0 : Int32)), .val (.int (0 : Int32)), .val (.int (0 : Int32)), .val (.int (1 : Int32))] [])) _
            refine XS.iconst X209.here hx rfl (hb hby at_184) ?_
            show Steps p.tables e below (T209.setTop (mkF m 185 #[.val (.int p1), .val (.int p2), .val (.int p3), .val (.ref b1), .val (.ref b27), .val (.ref b67), .val (.ref b84), .val (.ref b105), .val (.ref b130), .val (.int (0 : Int32)), .val (.int (0 : Int32)), .val (.int (0 : Int32)), .val (.int (1 : Int32))] [(.int (1 : Int32))])) _
            exact k)
          obtain ⟨fs, hr, hrun, hended, hE1, hE2, hE3, hE4⟩ := X209.leaveW hS145 (by rw [hq210]; exact hk145) (v := some (.int (1 : Int32))) (hlocks := BodyLoose.notSynchronized Bd) (fun h => by rw [Bd.returns] at h; cases h)
          refine ⟨_, _, pre219 _ ?_, hrun, hended, _, _, rfl, ?_, hE1, hE2, hE3, hE4.mono (by decide) (by decide)⟩
          · exact retN X209 hx (t := .boolean) Bd.returns (by simp) (hb hby at_185) hr
          · show Q_law Z p1 p2 p3 zc h0 n0 _ T209.heap _
            rw [hq210]
            exact ⟨rfl, N209, K145⟩
        · have pre220 := fun (t : State) (k : Steps p.tables e below (T209.setTop (mkF m 185 #[.val (.int p1), .val (.int p2), .val (.int p3), .val (.ref b1), .val (.ref b27), .val (.ref b67), .val (.ref b84), .val (.ref b105), .val (.ref b130), .val (.int (0 : Int32)), .val (.int (0 : Int32)), .val (.int (0 : Int32)), .val (.int (1 : Int32))] [(.int (1 : Int32))])) t) => pre217 t (by
            refine XS.icmpNo X209.here hx rfl (hb hby at_169) rfl (flt hc218).2.2.1 ?_
            show Steps p.tables e below (T209.setTop (mkF m 172 #[.val (.int p1), .val (.int p2), .val (.int p3), .val (.ref b1), .val (.ref b27), .val (.ref b67), .val (.ref b84), .val (.ref b105), .val (.ref b130), .val (.int (0 : Int32)), .val (.int (0 : Int32)), .val (.int (0 : Int32)), .val (.int (1 : Int32))] [])) _
            refine XS.iload X209.here hx rfl (hb hby at_172) rfl ?_
            show Steps p.tables e below (T209.setTop (mkF m 174 #[.val (.int p1), .val (.int p2), .val (.int p3), .val (.ref b1), .val (.ref b27), .val (.ref b67), .val (.ref b84), .val (.ref b105), .val (.ref b130), .val (.int (0 : Int32)), .val (.int (0 : Int32)), .val (.int (0 : Int32)), .val (.int (1 : Int32))] [(.int (0 : Int32))])) _
            refine XS.ifYes X209.here hx rfl (pc0 := 174) (pc' := 184) rfl (hb hby at_174) rfl ((if0 _ _).trans (teq (by decide : (0 : Int32) = (0 : Int32))).1) (by decide) (by decide) ?_
            show Steps p.tables e below (T209.setTop (mkF m 184 #[.val (.int p1), .val (.int p2), .val (.int p3), .val (.ref b1), .val (.ref b27), .val (.ref b67), .val (.ref b84), .val (.ref b105), .val (.ref b130), .val (.int (0 : Int32)), .val (.int (0 : Int32)), .val (.int (0 : Int32)), .val (.int (1 : Int32))] [])) _
            refine XS.iconst X209.here hx rfl (hb hby at_184) ?_
            show Steps p.tables e below (T209.setTop (mkF m 185 #[.val (.int p1), .val (.int p2), .val (.int p3), .val (.ref b1), .val (.ref b27), .val (.ref b67), .val (.ref b84), .val (.ref b105), .val (.ref b130), .val (.int (0 : Int32)), .val (.int (0 : Int32)), .val (.int (0 : Int32)), .val (.int (1 : Int32))] [(.int (1 : Int32))])) _
            exact k)
          obtain ⟨fs, hr, hrun, hended, hE1, hE2, hE3, hE4⟩ := X209.leaveW hS145 (by rw [hq210]; exact hk145) (v := some (.int (1 : Int32))) (hlocks := BodyLoose.notSynchronized Bd) (fun h => by rw [Bd.returns] at h; cases h)
          refine ⟨_, _, pre220 _ ?_, hrun, hended, _, _, rfl, ?_, hE1, hE2, hE3, hE4.mono (by decide) (by decide)⟩
          · exact retN X209 hx (t := .boolean) Bd.returns (by simp) (hb hby at_185) hr
          · show Q_law Z p1 p2 p3 zc h0 n0 _ T209.heap _
            rw [hq210]
            exact ⟨rfl, N209, K145⟩

set_option maxRecDepth 65536 in
set_option maxHeartbeats 40000000 in
theorem comes_1 {Post : Tables → Env → Array Value → State → Outcome → State → Prop} (hpost : ∀ tb e args s v u, (limb_1_1.after args s (.returned v) u = true ∧ limb_1_2.after args s (.returned v) u = true ∧ True) → ReturnedEndW s (.returned v) u (Jvm.fieldLocs frame_1_writes args s ++ Jvm.arrayLocs frame_1_arrays args s ++ Jvm.staticLocs frame_1_statics s) 32 2176 → Post tb e args s (.returned v) u) :
    ArmFor flags0 classFile x code maxLocals ret World_1 tables_1 room_1 Calls_1 rest_1 Pre_1 Post := by
  intro l hfl _ _ p e ha hc hk s m args below hf hA hF happ hP
  obtain ⟨hcalls, hrest, hpre⟩ := hP
  obtain ⟨-, -, -, hnamed, -, -, -, hat⟩ := (Spec.applies_iff hf).mp happ
  obtain ⟨hg, hn⟩ := and_e (Cond.before_iff.mp (show (Jvm.Cond.and given_1 narrow_1).before args s = true from hpre))
  obtain ⟨g1, g2⟩ := and_e hg
  obtain ⟨g3, g4⟩ := and_e g2
  obtain ⟨g5, g6⟩ := and_e g4
  obtain ⟨w0, w1, w2, rfl⟩ : ∃ w0 w1 w2 : Value, args = #[w0, w1, w2] := by
    have hs : args.size = 3 := by simpa [Cond.value, given_1] using g1
    obtain ⟨L⟩ := args
    match L, hs with
    | [w0, w1, w2], _ => exact ⟨w0, w1, w2, rfl⟩
  have hw := fun d (hd : d ∈ tables_1) => atoms_spec (ws := Jvm.Cond.code x code maxLocals ret :: tables_1) hat d (List.mem_cons_of_mem _ hd)
  have hfit : Fit s := fun {y c} hc i hi => by
    obtain ⟨ha, rfl⟩ := Array.getElem?_eq_some_iff.mp hc
    have q := List.all_eq_true.mp ((Array.all_eq_true_iff_forall_mem.mp hF) _ (Array.getElem_mem ha)) i (List.mem_range.mpr hi)
    simpa [Array.getElem?_eq_getElem hi] using q
  obtain ⟨hsets, hown0⟩ := atoms_of _ (rest_1_c_eq ▸ (show rest_1_c.before _ s = true from hrest))
  have hr0 := Cond.before_iff.mp hown0
  obtain ⟨i0, ei0⟩ := is_v g3
  obtain rfl : w0 = (.int i0) := Option.some.inj ei0
  obtain ⟨i1, ei1⟩ := is_v g5
  obtain rfl : w1 = (.int i1) := Option.some.inj ei1
  obtain ⟨i2, ei2⟩ := is_v g6
  obtain rfl : w2 = (.int i2) := Option.some.inj ei2
  obtain ⟨zc, ezc⟩ := is_v (Cond.before_iff.mp (hsets _ (List.mem_of_getElem? (i := 1) rfl)))
  have S_zc := Sta.start (Z := s) ezc (Or.inl (hsets _ (List.mem_of_getElem? (i := 0) rfl)))
  have hzc : ¬ zc = (0 : Int32) := own_ne0 ezc (Cond.before_iff.mp (hsets _ (List.mem_of_getElem? (i := 2) rfl)))
  obtain ⟨n, o, h1, h2, h3, _, L, rfl, ⟨rfl, N, -⟩, hq⟩ := rm_law l s _ hw tables_1 i0 i1 i2 zc s.heap s.heap.size (Nat.le_refl _) S_zc (by first | assumption | omega | decide) p e ha hc hk s m _ below hf ((Spec.applies_iff_loose hf).mp happ).1 ⟨rfl, State.Warmed39.refl s, rfl⟩ trivial
  refine ⟨n, _, h1, h2, h3, hpost _ _ _ _ _ _ ⟨Cond.after_iff.mpr rfl, Cond.after_iff.mpr (eq_i res_at (Term.int_eval (1)) rfl), trivial⟩ ⟨hq.1, hq.2.1, hq.2.2.1, (hq.2.2.2.sift fun y hy => Or.inr (N y hy)).mono (by decide) (by decide)⟩⟩
theorem main_1_1 : Claimed_1_1 := comes_1 fun _ _ _ _ _ _ h hF => ⟨h.1, hF⟩
theorem main_1_2 : Claimed_1_2 := comes_1 fun _ _ _ _ _ _ h hF => ⟨h.2.1, hF⟩
end Jvm.Pilot.@@N@@
namespace Jvm.Pilot.@@N@@
open Jvm Jvm.ClassFile Sem Op Lib Jvm.Free Jvm.Stand Jvm.Pilot.@@N@@.Jvm.D
/-! MADE BY PROGRAM (witnessworld.py) out of the Statement's table words and the real class files: 22 classes; the members and pool entries that the words name. The judged class is class 1, her method 1. -/
namespace start1
open Jvm.ClassFile
def u (s : String) : CpInfo := .utf8 (stringToUtf16 s)
/-- a pool by its gaps: so many unusable entries, then the entry; so many at the end -/
def gap : Nat → List CpInfo → List CpInfo
  | 0, r => r
  | n + 1, r => .unusable :: gap n r
def poolList (es : List (Nat × CpInfo)) (last : Nat) : List CpInfo := es.foldr (fun e r => gap e.1 (e.2 :: r)) (gap last [])
def pool (es : List (Nat × CpInfo)) (last : Nat) : Array CpInfo := ⟨poolList es last⟩
def fileOf (pool : Array CpInfo) (this : Nat) (attrs : Array Attribute := #[]) (ms : Array MethodInfo := #[]) (fl : Nat := 33) (sup : Nat := 0) (ifs : Array Nat := #[]) (fds : Array FieldInfo := #[]) : ClassFile where
  minorVersion := 0
  majorVersion := 65
  constantPool := pool
  accessFlags := fl
  thisClass := this
  superClass := sup
  interfaces := ifs
  fields := fds
  methods := ms
  attributes := attrs
def plain (name : String) (sup : Option ClassId) : Class where
  name := name
  kind := .ordinary
  loader := none
  accessFlags := 33
  super := sup
  interfaces := #[]
  cf := none
  fields := #[]
  methods := #[]
  instanceTypes := #[]
  staticTypes := #[]
  resolved := #[]
  callSites := []
  init := .initialized
  statics := none
  mirror := none

def pool0 : Array CpInfo := pool [(5, u "<init>"), (0, u "()V"), (1, .class_ 10), (1, u "java/lang/Object")] 113

def k0c0 : Code := { maxStack := 0, maxLocals := 1, code := object_method_1_code, exceptionTable := #[], attributes := #[] }
def k0m0 : Method := { name := "<init>", desc := "()V", sig := { parameters := [], returnType := none }, accessFlags := 1, code := some k0c0 }
/-- java/lang/Object -/
def k0 : Class := { plain "java/lang/Object" none with
  accessFlags := 33
  interfaces := #[]
  cf := some (fileOf pool0 8 #[] #[{ accessFlags := 1, nameIndex := 5, descriptorIndex := 6, attributes := #[] }] 33 0 #[] #[])
  fields := #[]
  methods := #[k0m0]
  instanceTypes := #[]
  staticTypes := #[]
  resolved := Array.replicate 124 none
  statics := none }

def pool1 : Array CpInfo := pool [(2, .class_ 4), (1, u "java/lang/Object"), (0, u "<init>"), (0, u "()V"), (0, .class_ 8), (0, u "java/lang/String"), (0, .methodref 7 10), (0, .nameAndType 5 11), (0, u "([C)V"), (0, .class_ 13), (0, u "com/example/arc3/arc3/Judgment"), (0, .methodref 12 15), (0, .nameAndType 5 16), (0, u "(Ljava/lang/String;Ljava/lang/String;I)V"), (0, .methodref 12 18), (0, .nameAndType 19 20), (0, u "isRelevant"), (0, u "()Z"), (0, .class_ 22), (0, u "com/example/arc3/arc3/JudgmentIsRelevantPinLaw"), (2, u "law"), (0, u "(III)Z")] 3

def k1m0 : Method := { name := "<init>", desc := "()V", sig := { parameters := [], returnType := none }, accessFlags := 2, code := none }
def k1c1 : Code := { maxStack := 7, maxLocals := 13, code := code, exceptionTable := #[], attributes := #[] }
def k1m1 : Method := { name := "law", desc := "(III)Z", sig := { parameters := [.int, .int, .int], returnType := some .boolean }, accessFlags := 9, code := some k1c1 }
/-- com/example/arc3/arc3/JudgmentIsRelevantPinLaw -/
def k1 : Class := { plain "com/example/arc3/arc3/JudgmentIsRelevantPinLaw" (some 0) with
  accessFlags := 49
  interfaces := #[]
  cf := some (fileOf pool1 21 #[] #[{ accessFlags := 2, nameIndex := 5, descriptorIndex := 6, attributes := #[] }, { accessFlags := 9, nameIndex := 25, descriptorIndex := 26, attributes := #[] }] 49 2 #[] #[])
  fields := #[]
  methods := #[k1m0, k1m1]
  instanceTypes := #[]
  staticTypes := #[]
  resolved := Array.replicate 30 none
  statics := none }

def pool2 : Array CpInfo := pool [(1, .class_ 2), (0, u "java/io/Serializable"), (0, .class_ 4), (0, u "java/lang/Object")] 2

/-- java/io/Serializable -/
def k2 : Class := { plain "java/io/Serializable" (some 0) with
  accessFlags := 1537
  interfaces := #[]
  cf := some (fileOf pool2 1 #[] #[] 1537 3 #[] #[])
  fields := #[]
  methods := #[]
  instanceTypes := #[]
  staticTypes := #[]
  resolved := Array.replicate 7 none
  statics := none }

def pool3 : Array CpInfo := pool [(1, .class_ 2), (0, u "java/lang/Comparable"), (0, .class_ 4), (0, u "java/lang/Object")] 7

/-- java/lang/Comparable -/
def k3 : Class := { plain "java/lang/Comparable" (some 0) with
  accessFlags := 1537
  interfaces := #[]
  cf := some (fileOf pool3 1 #[] #[] 1537 3 #[] #[])
  fields := #[]
  methods := #[]
  instanceTypes := #[]
  staticTypes := #[]
  resolved := Array.replicate 12 none
  statics := none }

def pool4 : Array CpInfo := pool [(2, .class_ 4), (1, u "java/lang/CharSequence"), (42, .class_ 48), (0, u "java/lang/CharSequence$1CodePointIterator"), (10, .class_ 60), (0, u "java/lang/CharSequence$1CharIterator"), (5, .class_ 67), (0, u "java/lang/Object")] 63

/-- java/lang/CharSequence -/
def k4 : Class := { plain "java/lang/CharSequence" (some 0) with
  accessFlags := 1537
  interfaces := #[]
  cf := some (fileOf pool4 2 #[.nestMembers #[47, 59]] #[] 1537 66 #[] #[])
  fields := #[]
  methods := #[]
  instanceTypes := #[]
  staticTypes := #[]
  resolved := Array.replicate 131 none
  statics := none }

def pool5 : Array CpInfo := pool [(1, .class_ 2), (0, u "java/lang/constant/Constable"), (0, .class_ 4), (0, u "java/lang/Object")] 6

/-- java/lang/constant/Constable -/
def k5 : Class := { plain "java/lang/constant/Constable" (some 0) with
  accessFlags := 1537
  interfaces := #[]
  cf := some (fileOf pool5 1 #[] #[] 1537 3 #[] #[])
  fields := #[]
  methods := #[]
  instanceTypes := #[]
  staticTypes := #[]
  resolved := Array.replicate 11 none
  statics := none }

def pool6 : Array CpInfo := pool [(1, .class_ 2), (0, u "java/lang/constant/ConstantDesc"), (0, .class_ 4), (0, u "java/lang/Object")] 32

/-- java/lang/constant/ConstantDesc -/
def k6 : Class := { plain "java/lang/constant/ConstantDesc" (some 0) with
  accessFlags := 1537
  interfaces := #[]
  cf := some (fileOf pool6 1 #[] #[] 1537 3 #[] #[])
  fields := #[]
  methods := #[]
  instanceTypes := #[]
  staticTypes := #[]
  resolved := Array.replicate 37 none
  statics := none }

def pool7 : Array CpInfo := pool [(1, .methodref 2 3), (0, .class_ 4), (0, .nameAndType 5 6), (0, u "java/lang/Object"), (0, u "<init>"), (0, u "()V"), (2, .fieldref 10 11), (0, .class_ 12), (0, .nameAndType 13 14), (0, u "java/lang/String"), (0, u "value"), (0, u "[B"), (0, .fieldref 10 16), (0, .nameAndType 17 18), (0, u "coder"), (0, u "B"), (2, u "hash"), (0, u "I"), (2, u "hashIsZero"), (0, u "Z"), (0, .methodref 10 28), (0, .nameAndType 5 29), (0, u "([CIILjava/lang/Void;)V"), (8, .fieldref 10 39), (0, .nameAndType 40 26), (0, u "COMPACT_STRINGS"), (1, .class_ 44), (1, u "java/lang/StringUTF16"), (0, u "compress"), (1, .methodref 42 48), (0, .nameAndType 49 50), (0, u "coderFromArrayLen"), (0, u "([BI)B"), (126, .methodref 42 178), (0, .nameAndType 45 179), (0, u "([CII)[B"), (395, .class_ 576), (0, u "java/lang/CharSequence"), (22, u "CASE_INSENSITIVE_ORDER"), (0, u "Ljava/util/Comparator;"), (409, u "([C)V"), (90, u "serialPersistentFields"), (0, u "[Ljava/io/ObjectStreamField;"), (0, .class_ 1104), (0, u "java/lang/String$CaseInsensitiveComparator"), (1, .class_ 1107), (0, u "java/io/Serializable"), (0, .class_ 1109), (0, u "java/lang/Comparable"), (0, .class_ 1111), (0, u "java/lang/constant/Constable"), (0, .class_ 1113), (0, u "java/lang/constant/ConstantDesc"), (2, u "serialVersionUID"), (0, u "J"), (3, u "REPL"), (0, u "C"), (2, u "LATIN1"), (1, u "UTF16")] 323

def k7m0 : Method := { name := "<init>", desc := "()V", sig := { parameters := [], returnType := none }, accessFlags := 1, code := none }
def k7c1 : Code := { maxStack := 5, maxLocals := 2, code := jdk_42_method_3_code, exceptionTable := #[], attributes := #[] }
def k7m1 : Method := { name := "<init>", desc := "([C)V", sig := { parameters := [(.array .char)], returnType := none }, accessFlags := 1, code := some k7c1 }
def k7c2 : Code := { maxStack := 4, maxLocals := 6, code := jdk_42_method_149_code, exceptionTable := #[], attributes := #[] }
def k7m2 : Method := { name := "<init>", desc := "([CIILjava/lang/Void;)V", sig := { parameters := [(.array .char), .int, .int, (.object "java/lang/Void")], returnType := none }, accessFlags := 2, code := some k7c2 }
/-- java/lang/String -/
def k7 : Class := { plain "java/lang/String" (some 0) with
  accessFlags := 49
  interfaces := #[2, 3, 4, 5, 6]
  cf := some (fileOf pool7 10 #[.nestMembers #[1103]] #[{ accessFlags := 1, nameIndex := 5, descriptorIndex := 6, attributes := #[] }, { accessFlags := 1, nameIndex := 5, descriptorIndex := 1010, attributes := #[] }, { accessFlags := 2, nameIndex := 5, descriptorIndex := 29, attributes := #[] }] 49 2 #[1106, 1108, 575, 1110, 1112] #[{ accessFlags := 18, nameIndex := 13, descriptorIndex := 14, attributes := #[] }, { accessFlags := 18, nameIndex := 17, descriptorIndex := 18, attributes := #[] }, { accessFlags := 2, nameIndex := 21, descriptorIndex := 22, attributes := #[] }, { accessFlags := 2, nameIndex := 25, descriptorIndex := 26, attributes := #[] }, { accessFlags := 26, nameIndex := 1116, descriptorIndex := 1117, attributes := #[] }, { accessFlags := 24, nameIndex := 40, descriptorIndex := 26, attributes := #[] }, { accessFlags := 26, nameIndex := 1101, descriptorIndex := 1102, attributes := #[] }, { accessFlags := 26, nameIndex := 1121, descriptorIndex := 1122, attributes := #[] }, { accessFlags := 25, nameIndex := 599, descriptorIndex := 600, attributes := #[] }, { accessFlags := 24, nameIndex := 1125, descriptorIndex := 18, attributes := #[] }, { accessFlags := 24, nameIndex := 1127, descriptorIndex := 18, attributes := #[] }])
  fields := #[{ name := "value", type := (.array .byte), accessFlags := 18, slot := 0, constantValue := 0 }, { name := "coder", type := .byte, accessFlags := 18, slot := 1, constantValue := 0 }, { name := "hash", type := .int, accessFlags := 2, slot := 2, constantValue := 0 }, { name := "hashIsZero", type := .boolean, accessFlags := 2, slot := 3, constantValue := 0 }, { name := "serialVersionUID", type := .long, accessFlags := 26, slot := 0, constantValue := 0 }, { name := "COMPACT_STRINGS", type := .boolean, accessFlags := 24, slot := 1, constantValue := 0 }, { name := "serialPersistentFields", type := (.array (.object "java/io/ObjectStreamField")), accessFlags := 26, slot := 2, constantValue := 0 }, { name := "REPL", type := .char, accessFlags := 26, slot := 3, constantValue := 0 }, { name := "CASE_INSENSITIVE_ORDER", type := (.object "java/util/Comparator"), accessFlags := 25, slot := 4, constantValue := 0 }, { name := "LATIN1", type := .byte, accessFlags := 24, slot := 5, constantValue := 0 }, { name := "UTF16", type := .byte, accessFlags := 24, slot := 6, constantValue := 0 }]
  methods := #[k7m0, k7m1, k7m2]
  instanceTypes := #[(.array .byte), .byte, .int, .boolean]
  staticTypes := #[.long, .boolean, (.array (.object "java/io/ObjectStreamField")), .char, (.object "java/util/Comparator"), .byte, .byte]
  resolved := Array.replicate 1451 none
  statics := some 0 }

def pool8 : Array CpInfo := pool [(6, .class_ 8), (1, u "java/lang/Object"), (0, u "<init>"), (0, u "()V"), (1, .class_ 14), (1, u "java/lang/StringUTF16"), (31, u "$assertionsDisabled"), (0, u "Z"), (13, u "HI_BYTE_SHIFT"), (0, u "I"), (2, u "LO_BYTE_SHIFT"), (49, .methodref 12 116), (0, .nameAndType 117 118), (0, u "compress"), (0, u "([CI[BII)I"), (3, u "([CII)[B"), (138, u "coderFromArrayLen"), (0, u "([BI)B"), (106, .class_ 371), (1, u "java/lang/StringUTF16$LinesSpliterator"), (58, u "MAX_LENGTH"), (196, .class_ 628), (0, u "java/lang/StringUTF16$CodePointsSpliterator"), (0, .class_ 630), (0, u "java/lang/StringUTF16$CharsSpliterator")] 4

def k8m0 : Method := { name := "<init>", desc := "()V", sig := { parameters := [], returnType := none }, accessFlags := 0, code := none }
def k8c1 : Code := { maxStack := 2, maxLocals := 2, code := jdk_52_method_15_code, exceptionTable := #[], attributes := #[] }
def k8m1 : Method := { name := "coderFromArrayLen", desc := "([BI)B", sig := { parameters := [(.array .byte), .int], returnType := some .byte }, accessFlags := 8, code := some k8c1 }
def k8c2 : Code := { maxStack := 5, maxLocals := 6, code := jdk_52_method_16_code, exceptionTable := #[], attributes := #[] }
def k8m2 : Method := { name := "compress", desc := "([CII)[B", sig := { parameters := [(.array .char), .int, .int], returnType := some (.array .byte) }, accessFlags := 9, code := some k8c2 }
def k8c3 : Code := { maxStack := 3, maxLocals := 7, code := jdk_52_method_21_code, exceptionTable := #[], attributes := #[] }
def k8m3 : Method := { name := "compress", desc := "([CI[BII)I", sig := { parameters := [(.array .char), .int, (.array .byte), .int, .int], returnType := some .int }, accessFlags := 9, code := some k8c3 }
/-- java/lang/StringUTF16 -/
def k8 : Class := { plain "java/lang/StringUTF16" (some 0) with
  accessFlags := 48
  interfaces := #[]
  cf := some (fileOf pool8 12 #[.nestMembers #[627, 629, 369]] #[{ accessFlags := 0, nameIndex := 9, descriptorIndex := 10, attributes := #[] }, { accessFlags := 8, nameIndex := 261, descriptorIndex := 262, attributes := #[] }, { accessFlags := 9, nameIndex := 117, descriptorIndex := 122, attributes := #[] }, { accessFlags := 9, nameIndex := 117, descriptorIndex := 118, attributes := #[] }] 48 6 #[] #[{ accessFlags := 26, nameIndex := 61, descriptorIndex := 62, attributes := #[] }, { accessFlags := 26, nameIndex := 65, descriptorIndex := 62, attributes := #[] }, { accessFlags := 24, nameIndex := 430, descriptorIndex := 62, attributes := #[] }, { accessFlags := 4120, nameIndex := 46, descriptorIndex := 47, attributes := #[] }])
  fields := #[{ name := "HI_BYTE_SHIFT", type := .int, accessFlags := 26, slot := 0, constantValue := 0 }, { name := "LO_BYTE_SHIFT", type := .int, accessFlags := 26, slot := 1, constantValue := 0 }, { name := "MAX_LENGTH", type := .int, accessFlags := 24, slot := 2, constantValue := 0 }, { name := "$assertionsDisabled", type := .boolean, accessFlags := 4120, slot := 3, constantValue := 0 }]
  methods := #[k8m0, k8m1, k8m2, k8m3]
  instanceTypes := #[]
  staticTypes := #[.int, .int, .int, .boolean]
  resolved := Array.replicate 635 none
  statics := none }

def pool9 : Array CpInfo := pool [(1, .methodref 2 3), (0, .class_ 4), (0, .nameAndType 5 6), (0, u "java/lang/Object"), (0, u "<init>"), (0, u "()V"), (0, .class_ 8), (0, u "java/lang/Record")] 13

def k9c0 : Code := { maxStack := 1, maxLocals := 1, code := jdk_30_method_1_code, exceptionTable := #[], attributes := #[] }
def k9m0 : Method := { name := "<init>", desc := "()V", sig := { parameters := [], returnType := none }, accessFlags := 4, code := some k9c0 }
/-- java/lang/Record -/
def k9 : Class := { plain "java/lang/Record" (some 0) with
  accessFlags := 1057
  interfaces := #[]
  cf := some (fileOf pool9 7 #[] #[{ accessFlags := 4, nameIndex := 5, descriptorIndex := 6, attributes := #[] }] 1057 2 #[] #[])
  fields := #[]
  methods := #[k9m0]
  instanceTypes := #[]
  staticTypes := #[]
  resolved := Array.replicate 22 none
  statics := none }

def pool10 : Array CpInfo := pool [(1, .methodref 2 3), (0, .class_ 4), (0, .nameAndType 5 6), (0, u "java/lang/Record"), (0, u "<init>"), (0, u "()V"), (0, .string 8), (0, u "topic"), (0, .methodref 10 11), (0, .class_ 12), (0, .nameAndType 13 14), (0, u "java/util/Objects"), (0, u "requireNonNull"), (0, u "(Ljava/lang/Object;Ljava/lang/String;)Ljava/lang/Object;"), (0, .string 16), (0, u "docno"), (0, .fieldref 18 19), (0, .class_ 20), (0, .nameAndType 8 21), (0, u "com/example/arc3/arc3/Judgment"), (0, u "Ljava/lang/String;"), (0, .fieldref 18 23), (0, .nameAndType 16 21), (0, .fieldref 18 25), (0, .nameAndType 26 27), (0, u "relevance"), (0, u "I"), (17, u "WHOLE_NUMBER"), (0, u "Ljava/util/regex/Pattern;"), (11, u "()Z"), (11, u "(Ljava/lang/String;Ljava/lang/String;I)V"), (34, u "isRelevant")] 38

def k10c0 : Code := { maxStack := 2, maxLocals := 4, code := prog_11_method_1_code, exceptionTable := #[], attributes := #[] }
def k10m0 : Method := { name := "<init>", desc := "(Ljava/lang/String;Ljava/lang/String;I)V", sig := { parameters := [(.object "java/lang/String"), (.object "java/lang/String"), .int], returnType := none }, accessFlags := 1, code := some k10c0 }
def k10c1 : Code := { maxStack := 1, maxLocals := 1, code := prog_11_method_3_code, exceptionTable := #[], attributes := #[] }
def k10m1 : Method := { name := "isRelevant", desc := "()Z", sig := { parameters := [], returnType := some .boolean }, accessFlags := 1, code := some k10c1 }
/-- com/example/arc3/arc3/Judgment -/
def k10 : Class := { plain "com/example/arc3/arc3/Judgment" (some 9) with
  accessFlags := 49
  interfaces := #[]
  cf := some (fileOf pool10 18 #[] #[{ accessFlags := 1, nameIndex := 5, descriptorIndex := 70, attributes := #[] }, { accessFlags := 1, nameIndex := 105, descriptorIndex := 58, attributes := #[] }] 49 2 #[] #[{ accessFlags := 18, nameIndex := 8, descriptorIndex := 21, attributes := #[] }, { accessFlags := 18, nameIndex := 16, descriptorIndex := 21, attributes := #[] }, { accessFlags := 18, nameIndex := 26, descriptorIndex := 27, attributes := #[] }, { accessFlags := 26, nameIndex := 45, descriptorIndex := 46, attributes := #[] }])
  fields := #[{ name := "topic", type := (.object "java/lang/String"), accessFlags := 18, slot := 0, constantValue := 0 }, { name := "docno", type := (.object "java/lang/String"), accessFlags := 18, slot := 1, constantValue := 0 }, { name := "relevance", type := .int, accessFlags := 18, slot := 2, constantValue := 0 }, { name := "WHOLE_NUMBER", type := (.object "java/util/regex/Pattern"), accessFlags := 26, slot := 0, constantValue := 0 }]
  methods := #[k10m0, k10m1]
  instanceTypes := #[(.object "java/lang/String"), (.object "java/lang/String"), .int]
  staticTypes := #[(.object "java/util/regex/Pattern")]
  resolved := Array.replicate 144 none
  statics := none }

def pool11 : Array CpInfo := pool [(2, .class_ 4), (1, u "java/lang/Object"), (0, u "<init>"), (0, u "()V"), (35, .class_ 44), (1, u "java/util/Objects"), (0, u "requireNonNull"), (48, u "(Ljava/lang/Object;Ljava/lang/String;)Ljava/lang/Object;")] 89

def k11m0 : Method := { name := "<init>", desc := "()V", sig := { parameters := [], returnType := none }, accessFlags := 2, code := none }
def k11c1 : Code := { maxStack := 3, maxLocals := 2, code := jdk_31_method_11_code, exceptionTable := #[], attributes := #[] }
def k11m1 : Method := { name := "requireNonNull", desc := "(Ljava/lang/Object;Ljava/lang/String;)Ljava/lang/Object;", sig := { parameters := [(.object "java/lang/Object"), (.object "java/lang/String")], returnType := some (.object "java/lang/Object") }, accessFlags := 9, code := some k11c1 }
/-- java/util/Objects -/
def k11 : Class := { plain "java/util/Objects" (some 0) with
  accessFlags := 49
  interfaces := #[]
  cf := some (fileOf pool11 42 #[] #[{ accessFlags := 2, nameIndex := 5, descriptorIndex := 6, attributes := #[] }, { accessFlags := 9, nameIndex := 45, descriptorIndex := 94, attributes := #[] }] 49 2 #[] #[])
  fields := #[]
  methods := #[k11m0, k11m1]
  instanceTypes := #[]
  staticTypes := #[]
  resolved := Array.replicate 184 none
  statics := none }

def pool12 : Array CpInfo := pool [(4, .class_ 6), (1, u "java/lang/Object"), (0, u "<init>"), (0, u "()V"), (5, .class_ 16), (1, u "java/lang/StringLatin1"), (104, u "$assertionsDisabled"), (0, u "Z"), (98, .class_ 223), (1, u "java/lang/StringLatin1$LinesSpliterator"), (166, .class_ 391), (0, u "java/lang/StringLatin1$CharsSpliterator")] 3

def k12m0 : Method := { name := "<init>", desc := "()V", sig := { parameters := [], returnType := none }, accessFlags := 0, code := none }
/-- java/lang/StringLatin1 -/
def k12 : Class := { plain "java/lang/StringLatin1" (some 0) with
  accessFlags := 48
  interfaces := #[]
  cf := some (fileOf pool12 14 #[.nestMembers #[390, 221]] #[{ accessFlags := 0, nameIndex := 7, descriptorIndex := 8, attributes := #[] }] 48 4 #[] #[{ accessFlags := 4120, nameIndex := 121, descriptorIndex := 122, attributes := #[] }])
  fields := #[{ name := "$assertionsDisabled", type := .boolean, accessFlags := 4120, slot := 0, constantValue := 0 }]
  methods := #[k12m0]
  instanceTypes := #[]
  staticTypes := #[.boolean]
  resolved := Array.replicate 395 none
  statics := none }

def pool13 : Array CpInfo := pool [(2, .class_ 4), (1, u "java/lang/Object"), (0, u "<init>"), (0, u "()V"), (17, .class_ 26), (1, u "jdk/internal/util/Preconditions"), (28, .class_ 56), (0, u "jdk/internal/util/Preconditions$4"), (57, .class_ 115), (0, u "jdk/internal/util/Preconditions$1"), (7, u "SIOOBE_FORMATTER"), (0, u "Ljava/util/function/BiFunction;"), (0, .class_ 126), (0, u "jdk/internal/util/Preconditions$2"), (3, u "AIOOBE_FORMATTER"), (0, .class_ 132), (0, u "jdk/internal/util/Preconditions$3"), (3, u "IOOBE_FORMATTER")] 57

def k13m0 : Method := { name := "<init>", desc := "()V", sig := { parameters := [], returnType := none }, accessFlags := 1, code := none }
/-- jdk/internal/util/Preconditions -/
def k13 : Class := { plain "jdk/internal/util/Preconditions" (some 0) with
  accessFlags := 33
  interfaces := #[]
  cf := some (fileOf pool13 24 #[.nestMembers #[55, 131, 125, 114]] #[{ accessFlags := 1, nameIndex := 5, descriptorIndex := 6, attributes := #[] }] 33 2 #[] #[{ accessFlags := 25, nameIndex := 123, descriptorIndex := 124, attributes := #[] }, { accessFlags := 25, nameIndex := 130, descriptorIndex := 124, attributes := #[] }, { accessFlags := 25, nameIndex := 136, descriptorIndex := 124, attributes := #[] }])
  fields := #[{ name := "SIOOBE_FORMATTER", type := (.object "java/util/function/BiFunction"), accessFlags := 25, slot := 0, constantValue := 0 }, { name := "AIOOBE_FORMATTER", type := (.object "java/util/function/BiFunction"), accessFlags := 25, slot := 1, constantValue := 0 }, { name := "IOOBE_FORMATTER", type := (.object "java/util/function/BiFunction"), accessFlags := 25, slot := 2, constantValue := 0 }]
  methods := #[k13m0]
  instanceTypes := #[]
  staticTypes := #[(.object "java/util/function/BiFunction"), (.object "java/util/function/BiFunction"), (.object "java/util/function/BiFunction")]
  resolved := Array.replicate 194 none
  statics := some 1 }

def pool14 : Array CpInfo := pool [(9, u "<init>"), (6, .class_ 18), (1, u "java/lang/Object"), (0, u "()V"), (1, .class_ 23), (1, u "jdk/internal/util/ArraysSupport"), (0, u "LOG2_ARRAY_LONG_INDEX_SCALE"), (0, u "I"), (2, u "U"), (0, u "Ljdk/internal/misc/Unsafe;"), (8, u "BIG_ENDIAN"), (0, u "Z"), (8, u "LOG2_BYTE_BIT_SIZE"), (4, u "LOG2_ARRAY_INT_INDEX_SCALE"), (54, u "JLA"), (0, u "Ljdk/internal/access/JavaLangAccess;"), (11, u "LOG2_ARRAY_BOOLEAN_INDEX_SCALE"), (9, u "LOG2_ARRAY_BYTE_INDEX_SCALE"), (5, u "LOG2_ARRAY_CHAR_INDEX_SCALE"), (5, u "LOG2_ARRAY_SHORT_INDEX_SCALE"), (18, u "LOG2_ARRAY_FLOAT_INDEX_SCALE"), (24, u "LOG2_ARRAY_DOUBLE_INDEX_SCALE"), (89, u "T_BOOLEAN"), (2, u "T_CHAR"), (1, u "T_FLOAT"), (1, u "T_DOUBLE"), (1, u "T_BYTE"), (1, u "T_SHORT"), (1, u "T_INT"), (1, u "T_LONG"), (1, u "SOFT_MAX_ARRAY_LENGTH")] 83

def k14m0 : Method := { name := "<init>", desc := "()V", sig := { parameters := [], returnType := none }, accessFlags := 2, code := none }
/-- jdk/internal/util/ArraysSupport -/
def k14 : Class := { plain "jdk/internal/util/ArraysSupport" (some 0) with
  accessFlags := 33
  interfaces := #[]
  cf := some (fileOf pool14 21 #[] #[{ accessFlags := 2, nameIndex := 9, descriptorIndex := 19, attributes := #[] }] 33 16 #[] #[{ accessFlags := 24, nameIndex := 28, descriptorIndex := 29, attributes := #[] }, { accessFlags := 26, nameIndex := 38, descriptorIndex := 39, attributes := #[] }, { accessFlags := 25, nameIndex := 121, descriptorIndex := 25, attributes := #[] }, { accessFlags := 25, nameIndex := 131, descriptorIndex := 25, attributes := #[] }, { accessFlags := 25, nameIndex := 137, descriptorIndex := 25, attributes := #[] }, { accessFlags := 25, nameIndex := 143, descriptorIndex := 25, attributes := #[] }, { accessFlags := 25, nameIndex := 53, descriptorIndex := 25, attributes := #[] }, { accessFlags := 25, nameIndex := 24, descriptorIndex := 25, attributes := #[] }, { accessFlags := 25, nameIndex := 162, descriptorIndex := 25, attributes := #[] }, { accessFlags := 25, nameIndex := 187, descriptorIndex := 25, attributes := #[] }, { accessFlags := 26, nameIndex := 48, descriptorIndex := 25, attributes := #[] }, { accessFlags := 25, nameIndex := 277, descriptorIndex := 25, attributes := #[] }, { accessFlags := 25, nameIndex := 280, descriptorIndex := 25, attributes := #[] }, { accessFlags := 25, nameIndex := 282, descriptorIndex := 25, attributes := #[] }, { accessFlags := 25, nameIndex := 284, descriptorIndex := 25, attributes := #[] }, { accessFlags := 25, nameIndex := 286, descriptorIndex := 25, attributes := #[] }, { accessFlags := 25, nameIndex := 288, descriptorIndex := 25, attributes := #[] }, { accessFlags := 25, nameIndex := 290, descriptorIndex := 25, attributes := #[] }, { accessFlags := 25, nameIndex := 292, descriptorIndex := 25, attributes := #[] }, { accessFlags := 26, nameIndex := 108, descriptorIndex := 109, attributes := #[] }, { accessFlags := 25, nameIndex := 294, descriptorIndex := 25, attributes := #[] }])
  fields := #[{ name := "U", type := (.object "jdk/internal/misc/Unsafe"), accessFlags := 24, slot := 0, constantValue := 0 }, { name := "BIG_ENDIAN", type := .boolean, accessFlags := 26, slot := 1, constantValue := 0 }, { name := "LOG2_ARRAY_BOOLEAN_INDEX_SCALE", type := .int, accessFlags := 25, slot := 2, constantValue := 0 }, { name := "LOG2_ARRAY_BYTE_INDEX_SCALE", type := .int, accessFlags := 25, slot := 3, constantValue := 0 }, { name := "LOG2_ARRAY_CHAR_INDEX_SCALE", type := .int, accessFlags := 25, slot := 4, constantValue := 0 }, { name := "LOG2_ARRAY_SHORT_INDEX_SCALE", type := .int, accessFlags := 25, slot := 5, constantValue := 0 }, { name := "LOG2_ARRAY_INT_INDEX_SCALE", type := .int, accessFlags := 25, slot := 6, constantValue := 0 }, { name := "LOG2_ARRAY_LONG_INDEX_SCALE", type := .int, accessFlags := 25, slot := 7, constantValue := 0 }, { name := "LOG2_ARRAY_FLOAT_INDEX_SCALE", type := .int, accessFlags := 25, slot := 8, constantValue := 0 }, { name := "LOG2_ARRAY_DOUBLE_INDEX_SCALE", type := .int, accessFlags := 25, slot := 9, constantValue := 0 }, { name := "LOG2_BYTE_BIT_SIZE", type := .int, accessFlags := 26, slot := 10, constantValue := 0 }, { name := "T_BOOLEAN", type := .int, accessFlags := 25, slot := 11, constantValue := 0 }, { name := "T_CHAR", type := .int, accessFlags := 25, slot := 12, constantValue := 0 }, { name := "T_FLOAT", type := .int, accessFlags := 25, slot := 13, constantValue := 0 }, { name := "T_DOUBLE", type := .int, accessFlags := 25, slot := 14, constantValue := 0 }, { name := "T_BYTE", type := .int, accessFlags := 25, slot := 15, constantValue := 0 }, { name := "T_SHORT", type := .int, accessFlags := 25, slot := 16, constantValue := 0 }, { name := "T_INT", type := .int, accessFlags := 25, slot := 17, constantValue := 0 }, { name := "T_LONG", type := .int, accessFlags := 25, slot := 18, constantValue := 0 }, { name := "JLA", type := (.object "jdk/internal/access/JavaLangAccess"), accessFlags := 26, slot := 19, constantValue := 0 }, { name := "SOFT_MAX_ARRAY_LENGTH", type := .int, accessFlags := 25, slot := 20, constantValue := 0 }]
  methods := #[k14m0]
  instanceTypes := #[]
  staticTypes := #[(.object "jdk/internal/misc/Unsafe"), .boolean, .int, .int, .int, .int, .int, .int, .int, .int, .int, .int, .int, .int, .int, .int, .int, .int, .int, (.object "jdk/internal/access/JavaLangAccess"), .int]
  resolved := Array.replicate 378 none
  statics := none }

def pool15 : Array CpInfo := pool [(1, u "java/lang/Cloneable"), (0, .class_ 1), (0, u "java/lang/Object"), (0, .class_ 3)] 3

/-- java/lang/Cloneable -/
def k15 : Class := { plain "java/lang/Cloneable" (some 0) with
  accessFlags := 1537
  interfaces := #[]
  cf := some (fileOf pool15 2 #[] #[] 1537 4 #[] #[])
  fields := #[]
  methods := #[]
  instanceTypes := #[]
  staticTypes := #[]
  resolved := Array.replicate 8 none
  statics := none }

/-- the primitive byte -/
def k16 : Class := { plain "byte" none with kind := .primitive 'B', accessFlags := 0x411 }
/-- [B -/
def k17 : Class := { plain "[B" (some 0) with kind := .array 16 .byte, interfaces := #[15, 2], accessFlags := 1041 }

/-- the primitive char -/
def k18 : Class := { plain "char" none with kind := .primitive 'C', accessFlags := 0x411 }
/-- [C -/
def k19 : Class := { plain "[C" (some 0) with kind := .array 18 .char, interfaces := #[15, 2], accessFlags := 1041 }

/-- the primitive int -/
def k20 : Class := { plain "int" none with kind := .primitive 'I', accessFlags := 0x411 }
/-- [I -/
def k21 : Class := { plain "[I" (some 0) with kind := .array 20 .int, interfaces := #[15, 2], accessFlags := 1041 }

def heap : Heap := #[{ cls := 7, slots := #[.long 0, .int 1, .null, .int 0, .null, .int 0, .int 0], vm := .statics 7 },
  { cls := 13, slots := #[.null, .null, .null], vm := .statics 13 }]
def classes : Array Class := #[k0, k1, k2, k3, k4, k5, k6, k7, k8, k9, k10, k11, k12, k13, k14, k15, k16, k17, k18, k19, k20, k21]
def interned : List (Array UInt16 × Addr) := []
def slotsUsed : Nat := 10
def theMethod : MethodId := ⟨1, 1⟩
def args0 : Array Value := #[.int 5, .int 3, .int 9]
def aboutOver (below : List Frame) : State where
  vm := { classes := classes, interned := interned.toArray }
  heap := heap
  slotsUsed := slotsUsed
  threads := #[{ frames := .invoking theMethod args0 :: below }]
def below0 : List Frame := [.native { method := ⟨0, 0⟩, args := #[] }]
def about1 : State := aboutOver below0
def p0 : Program := .bare "" "" ""
def e0 : Env := launch0.env 0 0 0
theorem w_frames : about1.frames = Frame.invoking theMethod args0 :: below0 := rfl
set_option maxRecDepth 65536 in
theorem w_args : argsFit about1.vm theMethod args0 = true := by decide +kernel
set_option maxRecDepth 65536 in
theorem w_heap : heapFits about1 = true := by decide +kernel
set_option maxRecDepth 65536 in
theorem w_runnable : about1.curStatus? = some .runnable := by decide +kernel
set_option maxRecDepth 65536 in
theorem w_alone : about1.alone = true := by decide +kernel
set_option maxRecDepth 65536 in
theorem w_named : about1.methodNamed? x = some theMethod := by decide +kernel
set_option maxRecDepth 65536 in
theorem w_hears : about1.hears theMethod below0 = true := by decide +kernel
set_option maxRecDepth 65536 in
theorem w_ripe : about1.ripe theMethod args0 below0 = true := by decide +kernel
theorem w_running : about1.status = .running := rfl
set_option maxRecDepth 65536 in
theorem w_room : about1.hasRoom e0.platform room_1 = true :=
  launch0.hasRoom_least _ room_1 (by decide +kernel) (by decide +kernel) (by decide +kernel) (by decide +kernel) (by decide +kernel) (by decide +kernel)
theorem allAtoms_all (ts : List Jvm.Cond) (a : Array Jvm.Value) (st : Jvm.State) : (allAtoms ts).before a st = ts.all (fun c => c.before a st) := by
  induction ts with
  | nil => rfl
  | cons c t ih =>
    show (Jvm.Cond.and c (allAtoms t)).before a st = _
    rw [Jvm.Cond.before_and, ih, List.all_cons]
def words1 : List Jvm.Cond := Jvm.Cond.code x code maxLocals ret :: tables_1
/-- a 'code' word, met by the world's own term for the bytes: nothing is compared byte by byte -/
theorem code_word {y : MethodName} {bytes : ByteArray} {mx : Nat} {rt : Option FieldType} {a : Array Value} {s : State} {m : MethodId} {meth : Method} {c : Code} (h1 : s.methodNamed? y = some m) (h2 : s.vm.method? m = some meth) (h3 : meth.code = some c) (h4 : c.code = bytes)
    (h5 : (c.maxLocals == mx && c.exceptionTable.isEmpty && decide (c.maxStack ≤ mostOperands) && decide (meth.sig.returnType = rt) && !meth.locks && decide (parseMethodDescriptor y.desc = some meth.sig)) = true) : (Jvm.Cond.code y bytes mx rt).before a s = true := by
  simp only [Bool.and_eq_true, beq_iff_eq, Bool.not_eq_true', decide_eq_true_eq] at h5
  obtain ⟨⟨⟨⟨⟨g1, g2⟩, g3⟩, g4⟩, g5⟩, g6⟩ := h5
  simp [Cond.before, Cond.holds, Cond.value, h1, h2, h3, h4, g1, g2, g3, g4, g5, g6]
def isCode : Jvm.Cond → Bool
  | .code _ _ _ _ => true
  | _ => false
theorem all_split {L : List Jvm.Cond} {P : Jvm.Cond → Bool} (h1 : L.all (fun c => isCode c || P c) = true) (h2 : ∀ c ∈ L.filter isCode, P c = true) : L.all P = true := by
  refine List.all_eq_true.mpr fun c hc => ?_
  have h := List.all_eq_true.mp h1 c hc
  rcases Bool.eq_false_or_eq_true (isCode c) with hi | hi
  · exact h2 c (List.mem_filter.mpr ⟨hc, hi⟩)
  · simpa [hi] using h
set_option maxRecDepth 65536 in
theorem w_c0 : (Jvm.Cond.code x code maxLocals ret).before args0 about1 = true := code_word (m := ⟨1, 1⟩) (meth := k1m1) (c := k1c1) (by decide +kernel) rfl rfl rfl (by decide +kernel)
set_option maxRecDepth 65536 in
theorem w_c1 : (Jvm.Cond.code ({ cls := "java/lang/String", name := "<init>", desc := "([C)V" } : Jvm.MethodName) jdk_42_method_3_code (2 : Nat) (Option.none : Option Jvm.ClassFile.FieldType)).before args0 about1 = true := code_word (m := ⟨7, 1⟩) (meth := k7m1) (c := k7c1) (by decide +kernel) rfl rfl rfl (by decide +kernel)
set_option maxRecDepth 65536 in
theorem w_c2 : (Jvm.Cond.code ({ cls := "java/lang/String", name := "<init>", desc := "([CIILjava/lang/Void;)V" } : Jvm.MethodName) jdk_42_method_149_code (6 : Nat) (Option.none : Option Jvm.ClassFile.FieldType)).before args0 about1 = true := code_word (m := ⟨7, 2⟩) (meth := k7m2) (c := k7c2) (by decide +kernel) rfl rfl rfl (by decide +kernel)
set_option maxRecDepth 65536 in
theorem w_c3 : (Jvm.Cond.code ({ cls := "java/lang/Object", name := "<init>", desc := "()V" } : Jvm.MethodName) object_method_1_code (1 : Nat) (Option.none : Option Jvm.ClassFile.FieldType)).before args0 about1 = true := code_word (m := ⟨0, 0⟩) (meth := k0m0) (c := k0c0) (by decide +kernel) rfl rfl rfl (by decide +kernel)
set_option maxRecDepth 65536 in
theorem w_c4 : (Jvm.Cond.code ({ cls := "java/lang/StringUTF16", name := "compress", desc := "([CII)[B" } : Jvm.MethodName) jdk_52_method_16_code (6 : Nat) (Option.some (Jvm.ClassFile.FieldType.array Jvm.ClassFile.FieldType.byte))).before args0 about1 = true := code_word (m := ⟨8, 2⟩) (meth := k8m2) (c := k8c2) (by decide +kernel) rfl rfl rfl (by decide +kernel)
set_option maxRecDepth 65536 in
theorem w_c5 : (Jvm.Cond.code ({ cls := "java/lang/StringUTF16", name := "compress", desc := "([CI[BII)I" } : Jvm.MethodName) jdk_52_method_21_code (7 : Nat) (Option.some Jvm.ClassFile.FieldType.int)).before args0 about1 = true := code_word (m := ⟨8, 3⟩) (meth := k8m3) (c := k8c3) (by decide +kernel) rfl rfl rfl (by decide +kernel)
set_option maxRecDepth 65536 in
theorem w_c6 : (Jvm.Cond.code ({ cls := "java/lang/StringUTF16", name := "coderFromArrayLen", desc := "([BI)B" } : Jvm.MethodName) jdk_52_method_15_code (2 : Nat) (Option.some Jvm.ClassFile.FieldType.byte)).before args0 about1 = true := code_word (m := ⟨8, 1⟩) (meth := k8m1) (c := k8c1) (by decide +kernel) rfl rfl rfl (by decide +kernel)
set_option maxRecDepth 65536 in
theorem w_c7 : (Jvm.Cond.code ({ cls := "com/example/arc3/arc3/Judgment", name := "<init>", desc := "(Ljava/lang/String;Ljava/lang/String;I)V" } : Jvm.MethodName) prog_11_method_1_code (4 : Nat) (Option.none : Option Jvm.ClassFile.FieldType)).before args0 about1 = true := code_word (m := ⟨10, 0⟩) (meth := k10m0) (c := k10c0) (by decide +kernel) rfl rfl rfl (by decide +kernel)
set_option maxRecDepth 65536 in
theorem w_c8 : (Jvm.Cond.code ({ cls := "java/lang/Record", name := "<init>", desc := "()V" } : Jvm.MethodName) jdk_30_method_1_code (1 : Nat) (Option.none : Option Jvm.ClassFile.FieldType)).before args0 about1 = true := code_word (m := ⟨9, 0⟩) (meth := k9m0) (c := k9c0) (by decide +kernel) rfl rfl rfl (by decide +kernel)
set_option maxRecDepth 65536 in
theorem w_c9 : (Jvm.Cond.code ({ cls := "java/util/Objects", name := "requireNonNull", desc := "(Ljava/lang/Object;Ljava/lang/String;)Ljava/lang/Object;" } : Jvm.MethodName) jdk_31_method_11_code (2 : Nat) (Option.some (Jvm.ClassFile.FieldType.object "java/lang/Object"))).before args0 about1 = true := code_word (m := ⟨11, 1⟩) (meth := k11m1) (c := k11c1) (by decide +kernel) rfl rfl rfl (by decide +kernel)
set_option maxRecDepth 65536 in
theorem w_c10 : (Jvm.Cond.code ({ cls := "com/example/arc3/arc3/Judgment", name := "isRelevant", desc := "()Z" } : Jvm.MethodName) prog_11_method_3_code (1 : Nat) (Option.some Jvm.ClassFile.FieldType.boolean)).before args0 about1 = true := code_word (m := ⟨10, 1⟩) (meth := k10m1) (c := k10c1) (by decide +kernel) rfl rfl rfl (by decide +kernel)
def codes1 : List Jvm.Cond := [Jvm.Cond.code x code maxLocals ret, Jvm.Cond.code ({ cls := "java/lang/String", name := "<init>", desc := "([C)V" } : Jvm.MethodName) jdk_42_method_3_code (2 : Nat) (Option.none : Option Jvm.ClassFile.FieldType), Jvm.Cond.code ({ cls := "java/lang/String", name := "<init>", desc := "([CIILjava/lang/Void;)V" } : Jvm.MethodName) jdk_42_method_149_code (6 : Nat) (Option.none : Option Jvm.ClassFile.FieldType), Jvm.Cond.code ({ cls := "java/lang/Object", name := "<init>", desc := "()V" } : Jvm.MethodName) object_method_1_code (1 : Nat) (Option.none : Option Jvm.ClassFile.FieldType), Jvm.Cond.code ({ cls := "java/lang/StringUTF16", name := "compress", desc := "([CII)[B" } : Jvm.MethodName) jdk_52_method_16_code (6 : Nat) (Option.some (Jvm.ClassFile.FieldType.array Jvm.ClassFile.FieldType.byte)), Jvm.Cond.code ({ cls := "java/lang/StringUTF16", name := "compress", desc := "([CI[BII)I" } : Jvm.MethodName) jdk_52_method_21_code (7 : Nat) (Option.some Jvm.ClassFile.FieldType.int), Jvm.Cond.code ({ cls := "java/lang/StringUTF16", name := "coderFromArrayLen", desc := "([BI)B" } : Jvm.MethodName) jdk_52_method_15_code (2 : Nat) (Option.some Jvm.ClassFile.FieldType.byte), Jvm.Cond.code ({ cls := "com/example/arc3/arc3/Judgment", name := "<init>", desc := "(Ljava/lang/String;Ljava/lang/String;I)V" } : Jvm.MethodName) prog_11_method_1_code (4 : Nat) (Option.none : Option Jvm.ClassFile.FieldType), Jvm.Cond.code ({ cls := "java/lang/Record", name := "<init>", desc := "()V" } : Jvm.MethodName) jdk_30_method_1_code (1 : Nat) (Option.none : Option Jvm.ClassFile.FieldType), Jvm.Cond.code ({ cls := "java/util/Objects", name := "requireNonNull", desc := "(Ljava/lang/Object;Ljava/lang/String;)Ljava/lang/Object;" } : Jvm.MethodName) jdk_31_method_11_code (2 : Nat) (Option.some (Jvm.ClassFile.FieldType.object "java/lang/Object")), Jvm.Cond.code ({ cls := "com/example/arc3/arc3/Judgment", name := "isRelevant", desc := "()Z" } : Jvm.MethodName) prog_11_method_3_code (1 : Nat) (Option.some Jvm.ClassFile.FieldType.boolean)]
set_option maxRecDepth 65536 in
theorem codes_eq : words1.filter isCode = codes1 := rfl
theorem w_codes : ∀ c ∈ words1.filter isCode, c.before args0 about1 = true := by
  rw [codes_eq]
  intro c hc
  simp only [codes1, List.mem_cons, List.not_mem_nil, or_false] at hc
  rcases hc with rfl | rfl | rfl | rfl | rfl | rfl | rfl | rfl | rfl | rfl | rfl
  · exact w_c0
  · exact w_c1
  · exact w_c2
  · exact w_c3
  · exact w_c4
  · exact w_c5
  · exact w_c6
  · exact w_c7
  · exact w_c8
  · exact w_c9
  · exact w_c10
set_option maxRecDepth 65536 in
theorem w_t1 : (words1.take 24).all (fun c => isCode c || c.before args0 about1) = true := by decide +kernel
set_option maxRecDepth 65536 in
theorem w_t2 : ((words1.drop 24).take 24).all (fun c => isCode c || c.before args0 about1) = true := by decide +kernel
set_option maxRecDepth 65536 in
theorem w_t3 : ((words1.drop 24).drop 24).all (fun c => isCode c || c.before args0 about1) = true := by decide +kernel
theorem w_tables : (allAtoms (Jvm.Cond.code x code maxLocals ret :: tables_1)).before args0 about1 = true := by
  rw [allAtoms_all]
  show words1.all (fun c => c.before args0 about1) = true
  refine all_split ?_ w_codes
  rw [← List.take_append_drop 24 words1, List.all_append, w_t1, ← List.take_append_drop 24 (words1.drop 24), List.all_append, w_t2, w_t3]
  rfl
set_option maxRecDepth 65536 in
theorem w_rest : rest_1_c.before args0 about1 = true := by decide +kernel
set_option maxRecDepth 65536 in
theorem w_case : (Jvm.Cond.and given_1 narrow_1).before args0 about1 = true := by decide +kernel
theorem w_applies : (headSpec (Jvm.Cond.code x code maxLocals ret :: tables_1) room_1).applies x e0.platform about1 = true :=
  (Spec.applies_iff w_frames).mpr ⟨w_running, w_runnable, w_alone, w_named, w_hears, w_ripe, w_room, w_tables⟩
theorem atStart : AtStart classFile x code maxLocals ret World_1 tables_1 room_1 Calls_1 rest_1 Pre_1 launch0 p0 e0 about1 theMethod args0 below0 :=
  ⟨lists_1, trivial, launch0.admits_env _ _ _, launch0.least_env, fairChoices_fair.cas, fairChoices_fair.clock, w_frames, w_args, w_heap, w_applies, trivial, w_rest, w_case⟩
end start1
theorem witness_1 : WitnessClaimed_1 := ⟨start1.p0, start1.e0, start1.about1, start1.theMethod, start1.args0, start1.below0, start1.atStart⟩
end Jvm.Pilot.@@N@@
