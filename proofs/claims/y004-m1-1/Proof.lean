import JvmDerived
import JvmDerived.Pilot.@@N@@Statement
import JvmDerived.Pilot.@@N@@Code
set_option linter.unusedVariables false
set_option linter.unusedSimpArgs false
namespace Jvm.RoadKit
open Sem ClassFile Op Lib Jvm.Stand Jvm.Free Jvm.LawKit
section New
variable {p : Program} {l : Launch} {e : Env} {R : Room} {s : State} {m : MethodId} {args : Array Value} {below : List Frame} {meth : Method} {c : Code} {T : State} {locs : List Loc} {cells slots : Nat}
theorem retI (X : Stand p l e R s m args below meth c T locs cells slots) (hx : p.tables.exec = Jvm.exec) {pc : Nat} {Ls : Array Slot} {z : Int32} {rest : List Value} (hret : meth.sig.returnType = some .int) (hd : decode c.code pc = .ok (.ireturn, 1)) {fs : List Frame}
    (hl : ∀ (f : JFrame) (acts : List Action), f.method = m → f.locked = none → f.entered = [] → (doReturn e (T.setTop f) acts (some (.int z))).1 = T.setFrames fs) : Steps p.tables e below (T.setTop (mkF m pc Ls (.int z :: rest))) (T.setFrames fs) := by
  have hm' : T.vm.method? m = some meth := X.method'
  have hn : narrow .int (.int z) = .int z := rfl
  show Steps p.tables e below (T.setTop { method := m, pc := pc, locals := Ls, stack := _ :: rest, locked := none }) _
  jvm_step X.here [X.here.top, hx, hd, hm', hret, hn]
  first | (intro acts; rw [hl _ acts rfl rfl rfl]) | rw [hl _ _ rfl rfl rfl]
  exact Steps.refl _
theorem retJ (X : Stand p l e R s m args below meth c T locs cells slots) (hx : p.tables.exec = Jvm.exec) {pc : Nat} {Ls : Array Slot} {z : Int64} {rest : List Value} (hret : meth.sig.returnType = some .long) (hd : decode c.code pc = .ok (.lreturn, 1)) {fs : List Frame}
    (hl : ∀ (f : JFrame) (acts : List Action), f.method = m → f.locked = none → f.entered = [] → (doReturn e (T.setTop f) acts (some (.long z))).1 = T.setFrames fs) : Steps p.tables e below (T.setTop (mkF m pc Ls (.long z :: rest))) (T.setFrames fs) := by
  have hm' : T.vm.method? m = some meth := X.method'
  have hn : narrow .long (.long z) = .long z := rfl
  show Steps p.tables e below (T.setTop { method := m, pc := pc, locals := Ls, stack := _ :: rest, locked := none }) _
  jvm_step X.here [X.here.top, hx, hd, hm', hret, hn]
  first | (intro acts; rw [hl _ acts rfl rfl rfl]) | rw [hl _ _ rfl rfl rfl]
  exact Steps.refl _
end New
end Jvm.RoadKit
namespace Jvm.Pilot.@@N@@
open Jvm Jvm.ClassFile Sem Op Lib Jvm.Free Jvm.Stand Jvm.LawKit Jvm.RoadKit Bundle Jvm.Pilot.@@N@@.Jvm.D
def own_irem (x y : Int32) : Int32 := x - (x / y) * y
theorem own_irem_mod (x y : Int32) : own_irem x y = x % y := by
  unfold own_irem
  apply Int32.toInt_inj.mp
  have h1 := Int32.le_toInt (x % y)
  have h2 := Int32.toInt_lt (x % y)
  rw [Int32.toInt_sub, Int32.toInt_mul, Int32.toInt_div, Int.bmod_mul_bmod, Int.sub_bmod_bmod, Int.mul_comm (x.toInt.tdiv y.toInt), ← Int.tmod_def, ← Int32.toInt_mod]
  exact Int.bmod_eq_of_le_mul_two (by omega) (by omega)
theorem own_fld_eq {args : Array Value} {s : State} {t : Term} {C n d : String} {w : Addr} {k : Int32} (ht : t.eval args s none [] s = some (.ref w)) (h : (Jvm.Cond.eq (Term.field t C n d) (Term.int k)).value args s none s [] = some true) : Fld s s.heap w C n d (.int k) := by
  obtain ⟨x, y, ha, hb, -, -⟩ := cmp_v (Or.inl h)
  have hy : y = .int k := (Option.some.inj ((Term.int_eval k).symm.trans hb)).symm
  subst hy
  have hx : x = .int k := by
    cases x <;> simp [Cond.value, ha, hb] at h ⊢
    exact h
  subst hx
  exact Fld.start (by rw [← fld_at ht]; exact ha)
theorem own_fld_ref {args : Array Value} {s : State} {t u : Term} {C n d : String} {w : Addr} {k : Addr} (ht : t.eval args s none [] s = some (.ref w)) (hu : u.eval args s none [] s = some (.ref k)) (h : (Jvm.Cond.eq (Term.field t C n d) u).value args s none s [] = some true) : Fld s s.heap w C n d (.ref k) := by
  obtain ⟨x, y, ha, hb, -, -⟩ := cmp_v (Or.inl h)
  cases hu.symm.trans hb
  have hx : x = .ref k := by
    cases x <;> simp [Cond.value, ha, hb] at h ⊢
    exact h
  subst hx
  exact Fld.start (by rw [← fld_at ht]; exact ha)
theorem own_sel_priv {s : State} {args : Array Value} {y z : MethodName} (hsel : (Jvm.Cond.selects z.cls z z).before args s = true) (hz : z.cls = y.cls) (hpriv : (Jvm.Cond.privateMethod y).before args s = true) (hinst : (Jvm.Cond.instanceMethod y).before args s = true) (hy : y.cls ≠ "java/lang/invoke/MethodHandle" ∧ y.cls ≠ "java/lang/invoke/VarHandle") : (Jvm.Cond.selects y.cls y y).before args s = true := by
  obtain ⟨c, r, m, h1, h2, h3, h4, mk, h5, h6⟩ := Cond.selects_spec hsel
  have hc := findClass_of_methodNamed h3
  rw [hz] at hc
  exact selects_self_of_private hc h5 h6 (Cond.privateMethod_at hpriv) hinst hy
theorem own_nm_int : "[" ++ (newarray.typeOf .int).toString = "[I" := by decide
theorem own_nm_long : "[" ++ (newarray.typeOf .long).toString = "[J" := by decide
theorem own_nm_char : "[" ++ (newarray.typeOf .char).toString = "[C" := by decide
theorem own_nm_boolean : "[" ++ (newarray.typeOf .boolean).toString = "[Z" := by decide
theorem own_ns_exa {Z : State} {h : Heap} {a : Addr} {C : String} (E : Exa Z h a C) : ∀ c : Cell, h[a]? = some c → c.vm.isStatics = false := fun c hc => by
  obtain ⟨cell, k, h1, -, -, h4, -⟩ := E
  cases h1.symm.trans hc
  exact h4
theorem own_ns_arr {Z : State} {h : Heap} {a : Addr} {cl : Cell} {ty : FieldType} (A : Arr Z h a cl ty) : ∀ c : Cell, h[a]? = some c → c.vm.isStatics = false := fun c hc => by
  cases A.1.symm.trans hc
  exact A.plain
theorem own_arr_keep {Z : State} {h h' : Heap} {a : Addr} {cl : Cell} {ty : FieldType} {ws : List Addr} (A : Arr Z h a cl ty) (K : Keep h h' ws) (q : a ∉ ws) : Arr Z h' a cl ty := ⟨K.2.1 a cl A.1 q, A.2⟩
theorem own_ns_arv {Z : State} {h : Heap} {a : Addr} {k : ClassId} {ty : FieldType} {z : Int32} {vs : List Value} {dv : Value} (F : Arv Z h a k ty z vs dv) : ∀ c : Cell, h[a]? = some c → c.vm.isStatics = false := by
  obtain ⟨c, A, -⟩ := F
  exact own_ns_arr A
theorem own_sta_keep {Z : State} {h h' : Heap} {C n d : String} {v : Value} {ws : List Addr} (F : Sta Z h C n d v) (K : Keep h h' ws) (q : ∀ x ∈ ws, ∀ c : Cell, h[x]? = some c → c.vm.isStatics = false) : Sta Z h' C n d v := by
  obtain ⟨cf, i, k, f, st, cell, h1, h2, h3, h4, h5, h6, h7⟩ := F
  exact ⟨cf, i, k, f, st, cell, h1, h2, h3, h4, K.2.1 st cell h5 (fun hm => by rw [q st hm cell h5] at h6; cases h6), h6, h7⟩
theorem own_len {args : Array Value} {s : State} {t : Term} {a : Addr} {cl : Cell} {n : Int32} (ht : t.eval args s none [] s = some (.ref a)) (hc : s.heap[a]? = some cl) (h : (Jvm.Cond.eq (Term.length t) (Term.int n)).value args s none s [] = some true) : cl.slots.size < 2 ^ 31 ∧ cl.slots.size.toInt32 = n := by
  obtain ⟨x, y, ha, hb, -, -⟩ := cmp_v (Or.inl h)
  have hy : y = .int n := (Option.some.inj ((Term.int_eval n).symm.trans hb)).symm
  subst hy
  have hx : x = .int n := by
    cases x <;> simp [Cond.value, ha, hb] at h ⊢
    exact h
  subst hx
  simp only [Term.eval, ht, Option.bind_eq_bind, Option.bind_some] at ha
  cases hq : s.arrayAt? a with
  | none => simp [hq] at ha
  | some c2 =>
    cases (State.arrayAt?_spec hq).1.symm.trans hc
    simp only [hq, Option.bind_some] at ha
    split at ha
    · rename_i hlt
      exact ⟨hlt, Value.int.inj (Option.some.inj ha)⟩
    · cases ha
theorem own_elem {args : Array Value} {s : State} {t u : Term} {a k : Addr} {cl : Cell} {j : Int32} (ht : t.eval args s none [] s = some (.ref a)) (hu : u.eval args s none [] s = some (.ref k)) (hc : s.heap[a]? = some cl) (h : (Jvm.Cond.eq (Term.elem t (Term.int j)) u).value args s none s [] = some true) : cl.slots[j.toNatClampNeg]? = some (.ref k) := by
  obtain ⟨x, y, ha, hb, -, -⟩ := cmp_v (Or.inl h)
  cases hu.symm.trans hb
  have hx : x = .ref k := by
    cases x <;> simp [Cond.value, ha, hb] at h ⊢
    exact h
  subst hx
  exact (elem_in ha ht (Term.int_eval j) hc).2
theorem own_w {a0 : Array Value} {Z : State} (hw : ∀ d ∈ tables_1, d.before a0 Z = true) (i : Nat) {d : Jvm.Cond} (h : tables_1[i]? = some d) : d.before a0 Z = true := hw d (List.mem_of_getElem? h)
abbrev own_key (z : Int32) : Int32 := ((z.toUInt32 >>> ((6 : Int32) &&& 31).toUInt32).toInt32)
abbrev own_bit (z : Int32) : Int64 := ((1 : Int64) <<< (z &&& 0x3f).toInt64)
def own_b (z : Int32) : Nat := (z.toInt % 64).toNat
theorem own_key_int (z : Int32) : (own_key z).toInt = z.toInt % 4294967296 / 64 := c_iushr z 6 6 (by decide) (by decide)
theorem own_b_int (z : Int32) : (own_b z : Int) = z.toInt % 64 := by unfold own_b; omega
theorem own_b_lt (z : Int32) : own_b z < 64 := by unfold own_b; omega
theorem own_b_bv (z : Int32) : z.toBitVec.toNat % 64 = own_b z := by
  have h : z.toInt = z.toBitVec.toInt := rfl
  have h2 := BitVec.toInt_eq_toNat_cond z.toBitVec
  unfold own_b
  rw [h]
  split at h2 <;> omega
theorem own_bit_nat (z : Int32) : (own_bit z).toBitVec.toNat = 2 ^ own_b z := by
  have h := c_lshl 1 z (own_b z) (own_b_bv z)
  have h1 : (1 : Int64).toInt = 1 := rfl
  have hl := own_b_lt z
  have hp : 2 ^ own_b z ≤ 2 ^ 63 := Nat.pow_le_pow_right (by decide) (by omega)
  have e : (own_bit z).toInt = (own_bit z).toBitVec.toInt := rfl
  have h2 := BitVec.toInt_eq_toNat_cond (own_bit z).toBitVec
  have h3 := (own_bit z).toBitVec.isLt
  rw [h1, Int.one_mul] at h
  change ((own_bit z).toInt - _) % _ = 0 at h
  rw [e] at h
  generalize (own_bit z).toBitVec.toNat = q at *
  generalize (own_bit z).toBitVec.toInt = qi at *
  have hz : ((2 ^ own_b z : Nat) : Int) = ((2 ^ own_b z : Nat) : Int) := rfl
  generalize 2 ^ own_b z = r at *
  split at h2 <;> omega
theorem own_key_b {y z : Int32} (h : own_key y = own_key z) (h2 : own_b y = own_b z) : y = z := by
  apply Int32.toInt_inj.mp
  have a := own_key_int y
  have b := own_key_int z
  rw [h] at a
  have c := own_b_int y
  have d := own_b_int z
  have := Int32.le_toInt y; have := Int32.toInt_lt y; have := Int32.le_toInt z; have := Int32.toInt_lt z
  rw [h2] at c
  omega
def own_tb (w : Int64) (i : Nat) : Bool := w.toBitVec.toNat.testBit i
theorem own_tb_bit (z : Int32) (i : Nat) : own_tb (own_bit z) i = decide (own_b z = i) := by
  unfold own_tb; rw [own_bit_nat, Nat.testBit_two_pow]
theorem own_tb_and (w v : Int64) (i : Nat) : own_tb (w &&& v) i = (own_tb w i && own_tb v i) := by
  unfold own_tb; rw [Int64.toBitVec_and, BitVec.toNat_and, Nat.testBit_and]
theorem own_tb_or (w v : Int64) (i : Nat) : own_tb (w ||| v) i = (own_tb w i || own_tb v i) := by
  unfold own_tb; rw [Int64.toBitVec_or, BitVec.toNat_or, Nat.testBit_or]
theorem own_tb_xor (w v : Int64) (i : Nat) : own_tb (w ^^^ v) i = (own_tb w i != own_tb v i) := by
  unfold own_tb; rw [Int64.toBitVec_xor, BitVec.toNat_xor, Nat.testBit_xor]
theorem own_tb_m1 {i : Nat} (h : i < 64) : own_tb (-1) i = true := by
  unfold own_tb
  rw [show ((-1 : Int64)).toBitVec.toNat = 2 ^ 64 - 1 from by decide, Nat.testBit_two_pow_sub_one]
  simpa using h
theorem own_tb_ext {w v : Int64} (h : ∀ i, i < 64 → own_tb w i = own_tb v i) : w = v := by
  apply Int64.toBitVec_inj.mp
  apply BitVec.eq_of_toNat_eq
  apply Nat.eq_of_testBit_eq
  intro i
  by_cases q : i < 64
  · exact h i q
  · rw [Nat.testBit_lt_two_pow (Nat.lt_of_lt_of_le w.toBitVec.isLt (Nat.pow_le_pow_right (by decide) (by omega))), Nat.testBit_lt_two_pow (Nat.lt_of_lt_of_le v.toBitVec.isLt (Nat.pow_le_pow_right (by decide) (by omega)))]
theorem own_tb_0 (i : Nat) : own_tb 0 i = false := by
  unfold own_tb
  rw [show ((0 : Int64)).toBitVec.toNat = 0 from by decide, Nat.zero_testBit]
theorem own_and_iff (w : Int64) (z : Int32) : w &&& own_bit z = 0 ↔ own_tb w (own_b z) = false := by
  constructor
  · intro h
    have := congrArg (fun v => own_tb v (own_b z)) h
    simp only [own_tb_and, own_tb_bit, own_tb_0, decide_true, Bool.and_true] at this
    exact this
  · intro h
    apply own_tb_ext
    intro i hi
    rw [own_tb_and, own_tb_bit, own_tb_0]
    by_cases q : own_b z = i
    · rw [← q, h]; rfl
    · simp [q]
def own_in (e : Int32 × Int64) (z : Int32) : Prop := own_key z = e.1 ∧ own_tb e.2 (own_b z) = true
def own_kok (k : Int32) : Prop := 0 ≤ k.toInt ∧ k.toInt < 33554432
def own_ins (S : Int32 → Prop) (v : Int32) : Int32 → Prop := fun z => S z ∨ z = v
def own_del (S : Int32 → Prop) (v : Int32) : Int32 → Prop := fun z => S z ∧ z ≠ v
def own_r (L : List (Int32 × Int64)) (S : Int32 → Prop) : Prop := L.Pairwise (fun a b => a.1.toInt < b.1.toInt) ∧ (∀ e ∈ L, own_kok e.1 ∧ e.2 ≠ 0) ∧ ∀ z, S z ↔ ∃ e ∈ L, own_in e z
theorem own_key_ok {v : Int32} (h : ¬ v < 0) : own_kok (own_key v) := by
  have a0 : (0 : Int32).toInt = 0 := rfl
  rw [Int32.lt_iff_toInt_lt, a0] at h
  have := own_key_int v
  have := Int32.toInt_lt v
  unfold own_kok
  omega
theorem own_bit_ne (v : Int32) : own_bit v ≠ 0 := fun h => by
  have := congrArg (fun w => own_tb w (own_b v)) h
  simp [own_tb_bit, own_tb_0] at this
section OwnR
variable {A B L : List (Int32 × Int64)} {S : Int32 → Prop} {k : Int32} {w : Int64} {v : Int32}
theorem own_r_nil (h : ∀ z, ¬ S z) : own_r [] S := ⟨List.Pairwise.nil, nofun, fun z => ⟨fun q => absurd q (h z), fun ⟨_, q, _⟩ => nomatch q⟩⟩
theorem own_pair_lt {a : Int32 × Int64} (h : (A ++ a :: B).Pairwise (fun a b => a.1.toInt < b.1.toInt)) : (∀ e ∈ A, e.1.toInt < a.1.toInt) ∧ (∀ e ∈ B, a.1.toInt < e.1.toInt) := by
  rw [List.pairwise_append] at h
  exact ⟨fun e he => h.2.2 e he a (by simp), fun e he => (List.pairwise_cons.mp h.2.1).1 e he⟩
theorem own_uniq (h : (A ++ (k, w) :: B).Pairwise (fun a b => a.1.toInt < b.1.toInt)) {e : Int32 × Int64} (he : e ∈ A ++ B) : e.1 ≠ k := fun q => by
  obtain ⟨h1, h2⟩ := own_pair_lt h
  have e' : (k, w).1.toInt = k.toInt := rfl
  rcases List.mem_append.mp he with c | c
  · have := h1 e c; rw [q, e'] at this; omega
  · have := h2 e c; rw [q, e'] at this; omega
theorem own_pair_swap {w' : Int64} (h : (A ++ (k, w) :: B).Pairwise (fun a b => a.1.toInt < b.1.toInt)) : (A ++ (k, w') :: B).Pairwise (fun a b => a.1.toInt < b.1.toInt) := by
  rw [List.pairwise_append, List.pairwise_cons] at h ⊢
  refine ⟨h.1, ⟨fun b hb => h.2.1.1 b hb, h.2.1.2⟩, fun a ha b hb => ?_⟩
  rcases List.mem_cons.mp hb with rfl | hb
  · exact h.2.2 a ha (k, w) (by simp)
  · exact h.2.2 a ha b (by simp [hb])
theorem own_mem_mid {e a : Int32 × Int64} : e ∈ A ++ a :: B ↔ e = a ∨ e ∈ A ++ B := by
  simp only [List.mem_append, List.mem_cons]
  constructor
  · rintro (h | h | h)
    · exact Or.inr (Or.inl h)
    · exact Or.inl h
    · exact Or.inr (Or.inr h)
  · rintro (h | h | h)
    · exact Or.inr (Or.inl h)
    · exact Or.inl h
    · exact Or.inr (Or.inr h)
theorem own_r_ins (h : own_r (A ++ B) S) (hv : ¬ v < 0) (hA : ∀ e ∈ A, e.1 < own_key v) (hB : ∀ e ∈ B, own_key v < e.1) : own_r (A ++ (own_key v, own_bit v) :: B) (own_ins S v) := by
  obtain ⟨h1, h2, h3⟩ := h
  refine ⟨?_, ?_, ?_⟩
  · rw [List.pairwise_append] at h1 ⊢
    refine ⟨h1.1, List.pairwise_cons.mpr ⟨fun b hb => Int32.lt_iff_toInt_lt.mp (hB b hb), h1.2.1⟩, fun a ha b hb => ?_⟩
    rcases List.mem_cons.mp hb with rfl | hb
    · exact Int32.lt_iff_toInt_lt.mp (hA a ha)
    · exact h1.2.2 a ha b hb
  · intro e he
    rcases own_mem_mid.mp he with rfl | he
    · exact ⟨own_key_ok hv, own_bit_ne v⟩
    · exact h2 e he
  · intro z
    constructor
    · rintro (q | rfl)
      · obtain ⟨e, he, hi⟩ := (h3 z).mp q
        exact ⟨e, own_mem_mid.mpr (Or.inr he), hi⟩
      · exact ⟨_, own_mem_mid.mpr (Or.inl rfl), rfl, by rw [own_tb_bit]; simp⟩
    · rintro ⟨e, he, hi⟩
      rcases own_mem_mid.mp he with rfl | he
      · refine Or.inr (own_key_b hi.1 ?_)
        have := hi.2
        rw [own_tb_bit] at this
        exact (of_decide_eq_true this).symm
      · exact Or.inl ((h3 z).mpr ⟨e, he, hi⟩)
theorem own_r_or (h : own_r (A ++ (k, w) :: B) S) (hk : own_key v = k) : own_r (A ++ (k, w ||| own_bit v) :: B) (own_ins S v) := by
  obtain ⟨h1, h2, h3⟩ := h
  refine ⟨own_pair_swap h1, ?_, ?_⟩
  · intro e he
    rcases own_mem_mid.mp he with rfl | he
    · refine ⟨(h2 _ (own_mem_mid.mpr (Or.inl rfl))).1, fun q => ?_⟩
      have := congrArg (fun w => own_tb w (own_b v)) q
      simp [own_tb_or, own_tb_bit, own_tb_0] at this
    · exact h2 e (own_mem_mid.mpr (Or.inr he))
  · intro z
    constructor
    · rintro (q | rfl)
      · obtain ⟨e, he, hi⟩ := (h3 z).mp q
        rcases own_mem_mid.mp he with rfl | he
        · exact ⟨_, own_mem_mid.mpr (Or.inl rfl), hi.1, by show own_tb (w ||| own_bit v) _ = true; rw [own_tb_or, hi.2]; rfl⟩
        · exact ⟨e, own_mem_mid.mpr (Or.inr he), hi⟩
      · exact ⟨_, own_mem_mid.mpr (Or.inl rfl), hk, by show own_tb (w ||| own_bit z) _ = true; rw [own_tb_or, own_tb_bit]; simp⟩
    · rintro ⟨e, he, hi⟩
      rcases own_mem_mid.mp he with rfl | he
      · have q : own_tb (w ||| own_bit v) (own_b z) = true := hi.2
        rw [own_tb_or, own_tb_bit, Bool.or_eq_true] at q
        rcases q with q | q
        · exact Or.inl ((h3 z).mpr ⟨_, own_mem_mid.mpr (Or.inl rfl), hi.1, q⟩)
        · exact Or.inr (own_key_b (hi.1.trans hk.symm) (of_decide_eq_true q).symm)
      · exact Or.inl ((h3 z).mpr ⟨e, own_mem_mid.mpr (Or.inr he), hi⟩)
theorem own_r_had (h : own_r (A ++ (k, w) :: B) S) (hk : own_key v = k) (hb : ¬ (w &&& own_bit v = 0)) : own_r (A ++ (k, w) :: B) (own_ins S v) := by
  rw [own_and_iff, Bool.not_eq_false] at hb
  refine ⟨h.1, h.2.1, fun z => ⟨?_, fun q => Or.inl ((h.2.2 z).mpr q)⟩⟩
  rintro (q | rfl)
  · exact (h.2.2 z).mp q
  · exact ⟨_, own_mem_mid.mpr (Or.inl rfl), hk, hb⟩
theorem own_r_no (h : own_r L S) (hn : ∀ e ∈ L, own_key v ≠ e.1) : own_r L (own_del S v) := by
  refine ⟨h.1, h.2.1, fun z => ⟨fun q => (h.2.2 z).mp q.1, fun q => ⟨(h.2.2 z).mpr q, ?_⟩⟩⟩
  rintro rfl
  obtain ⟨e, he, hi⟩ := q
  exact hn e he hi.1
theorem own_r_off (h : own_r (A ++ (k, w) :: B) S) (hk : own_key v = k) (hb : w &&& own_bit v = 0) : own_r (A ++ (k, w) :: B) (own_del S v) := by
  rw [own_and_iff] at hb
  refine ⟨h.1, h.2.1, fun z => ⟨fun q => (h.2.2 z).mp q.1, fun q => ⟨(h.2.2 z).mpr q, ?_⟩⟩⟩
  rintro rfl
  obtain ⟨e, he, hi⟩ := q
  rcases own_mem_mid.mp he with rfl | he
  · rw [show own_tb w (own_b z) = true from hi.2] at hb; cases hb
  · exact own_uniq h.1 he (hi.1.symm.trans hk)
theorem own_tb_clr (z : Int32) : own_tb (w &&& (own_bit v ^^^ (-1 : Int64))) (own_b z) = (own_tb w (own_b z) && !decide (own_b v = own_b z)) := by
  rw [own_tb_and, own_tb_xor, own_tb_bit, own_tb_m1 (own_b_lt z)]
  cases decide (own_b v = own_b z) <;> rfl
theorem own_r_clr (h : own_r (A ++ (k, w) :: B) S) (hk : own_key v = k) (hne : ¬ (w &&& (own_bit v ^^^ (-1 : Int64)) = 0)) : own_r (A ++ (k, w &&& (own_bit v ^^^ (-1 : Int64))) :: B) (own_del S v) := by
  obtain ⟨h1, h2, h3⟩ := h
  refine ⟨own_pair_swap h1, ?_, ?_⟩
  · intro e he
    rcases own_mem_mid.mp he with rfl | he
    · exact ⟨(h2 _ (own_mem_mid.mpr (Or.inl rfl))).1, hne⟩
    · exact h2 e (own_mem_mid.mpr (Or.inr he))
  · intro z
    constructor
    · rintro ⟨q, hz⟩
      obtain ⟨e, he, hi⟩ := (h3 z).mp q
      rcases own_mem_mid.mp he with rfl | he
      · refine ⟨_, own_mem_mid.mpr (Or.inl rfl), hi.1, ?_⟩
        show own_tb (w &&& (own_bit v ^^^ (-1 : Int64))) (own_b z) = true
        rw [own_tb_clr, hi.2]
        simp only [Bool.true_and, Bool.not_eq_true', decide_eq_false_iff_not]
        exact fun q => hz (own_key_b (hi.1.trans hk.symm) q.symm)
      · exact ⟨e, own_mem_mid.mpr (Or.inr he), hi⟩
    · rintro ⟨e, he, hi⟩
      rcases own_mem_mid.mp he with rfl | he
      · have q : own_tb (w &&& (own_bit v ^^^ (-1 : Int64))) (own_b z) = true := hi.2
        rw [own_tb_clr, Bool.and_eq_true] at q
        refine ⟨(h3 z).mpr ⟨_, own_mem_mid.mpr (Or.inl rfl), hi.1, q.1⟩, ?_⟩
        rintro rfl
        simp at q
      · exact ⟨(h3 z).mpr ⟨e, own_mem_mid.mpr (Or.inr he), hi⟩, fun q => own_uniq h1 he (hi.1.symm.trans (q ▸ hk))⟩
theorem own_r_out (h : own_r (A ++ (k, w) :: B) S) (hk : own_key v = k) (he0 : w &&& (own_bit v ^^^ (-1 : Int64)) = 0) : own_r (A ++ B) (own_del S v) := by
  obtain ⟨h1, h2, h3⟩ := h
  refine ⟨h1.sublist (List.Sublist.append_left (List.sublist_cons_self _ _) A), fun e he => h2 e (own_mem_mid.mpr (Or.inr he)), ?_⟩
  intro z
  constructor
  · rintro ⟨q, hz⟩
    obtain ⟨e, he, hi⟩ := (h3 z).mp q
    rcases own_mem_mid.mp he with rfl | he
    · exfalso
      have := own_tb_clr (w := w) (v := v) z
      rw [he0, own_tb_0, show own_tb w (own_b z) = true from hi.2] at this
      simp only [Bool.true_and, Bool.false_eq, Bool.not_eq_false', decide_eq_true_eq] at this
      exact hz (own_key_b (hi.1.trans hk.symm) this.symm)
    · exact ⟨e, he, hi⟩
  · rintro ⟨e, he, hi⟩
    refine ⟨(h3 z).mpr ⟨e, own_mem_mid.mpr (Or.inr he), hi⟩, ?_⟩
    rintro rfl
    exact own_uniq h1 he (hi.1.symm.trans hk)
def own_n32 (x r : Int32) : Prop := (x = 0 → r = 32) ∧ (x ≠ 0 → ∃ i : Nat, i < 32 ∧ 2 ^ i ≤ x.toBitVec.toNat ∧ x.toBitVec.toNat < 2 ^ (i + 1) ∧ r.toInt = 31 - (i : Int))
def own_n64 (x : Int64) (r : Int32) : Prop := x ≠ 0 → ∃ i : Nat, i < 64 ∧ 2 ^ i ≤ x.toBitVec.toNat ∧ x.toBitVec.toNat < 2 ^ (i + 1) ∧ r.toInt = 63 - (i : Int)
def own_top (S : Int32 → Prop) (r : Int32) : Prop := ((∀ z, ¬ S z) ∧ r = -1) ∨ (S r ∧ ∀ z, S z → z.toInt ≤ r.toInt)
theorem own_top_nil (h : own_r [] S) : own_top S (-1) := Or.inl ⟨fun z q => (by obtain ⟨e, he, -⟩ := (h.2.2 z).mp q; cases he), rfl⟩
theorem own_r_top {r : Int32} (h : own_r (A ++ [(k, w)]) S) (hr : own_n64 w r) : own_top S ((k <<< ((6 : Int32) &&& 31)) ||| ((63 : Int32) - r)) := by
  obtain ⟨h1, h2, h3⟩ := h
  obtain ⟨⟨k0, k1⟩, w0⟩ := h2 (k, w) (by simp)
  replace k0 : 0 ≤ k.toInt := k0
  replace k1 : k.toInt < 33554432 := k1
  obtain ⟨i, hi, b1, b2, hri⟩ := hr w0
  have s1 := c_ishl k 6 6 (by decide)
  have s2 := c_isub 63 r
  have s3 : (63 : Int32).toInt = 63 := rfl
  generalize e1 : k <<< ((6 : Int32) &&& 31) = u at *
  generalize e2 : (63 : Int32) - r = x at *
  have u1 := Int32.le_toInt u; have u2 := Int32.toInt_lt u; have x1 := Int32.le_toInt x; have x2 := Int32.toInt_lt x
  have hu : u.toInt = k.toInt * 64 := by
    rw [show (((2 ^ 6 : Nat) : Int)) = 64 from rfl] at s1
    omega
  have hx : x.toInt = i := by omega
  have s4 := c_or u x 6 (by decide) 64 rfl (by omega) (by omega) (by omega)
  generalize e3 : u ||| x = r0 at *
  have r1 := Int32.le_toInt r0; have r2 := Int32.toInt_lt r0
  have hr0 : r0.toInt = k.toInt * 64 + i := by omega
  have hkey : own_key r0 = k := by
    apply Int32.toInt_inj.mp
    rw [own_key_int]
    omega
  have hb : own_b r0 = i := by unfold own_b; omega
  refine Or.inr ⟨(h3 r0).mpr ⟨(k, w), by simp, hkey, ?_⟩, fun z hz => ?_⟩
  · show own_tb w (own_b r0) = true
    rw [hb]
    exact Nat.testBit_of_two_pow_le_and_two_pow_add_one_gt b1 b2
  · obtain ⟨e, he, hi1, hi2⟩ := (h3 z).mp hz
    have kz := own_key_int z
    have bz := own_b_int z
    have := Int32.le_toInt z; have := Int32.toInt_lt z
    obtain ⟨⟨ke0, ke1⟩, -⟩ := h2 e he
    rw [hi1] at kz
    rcases List.mem_append.mp he with he | he
    · have := (own_pair_lt h1).1 e he
      have e' : (k, w).1.toInt = k.toInt := rfl
      omega
    · simp only [List.mem_cons, List.not_mem_nil, or_false] at he
      subst he
      replace kz : k.toInt = z.toInt % 4294967296 / 64 := kz
      have : own_b z ≤ i := by
        refine Nat.le_of_not_lt fun q => ?_
        have : own_tb w (own_b z) = false := Nat.testBit_lt_two_pow (Nat.lt_of_lt_of_le b2 (Nat.pow_le_pow_right (by decide) q))
        rw [show own_tb w (own_b z) = true from hi2] at this
        cases this
      omega
end OwnR
theorem own_top_uniq {S : Int32 → Prop} {a b : Int32} (h : own_top S a) (g : own_top S b) : a = b := by
  rcases h with ⟨h, rfl⟩ | ⟨h, h'⟩ <;> rcases g with ⟨g, rfl⟩ | ⟨g, g'⟩
  · rfl
  · exact absurd g (h _)
  · exact absurd h (g _)
  · apply Int32.toInt_inj.mp
    have := h' b g
    have := g' a h
    omega
def own_mx (a b : Int32) : Int32 := if a < b then b else a
theorem own_top_e : own_top (fun _ => False) (-1) := Or.inl ⟨fun _ q => q, rfl⟩
theorem own_top_mx {S : Int32 → Prop} {a v : Int32} (h : own_top S a) (hv : ¬ v < 0) : own_top (own_ins S v) (own_mx a v) := by
  have a0 : (0 : Int32).toInt = 0 := rfl
  have am : (-1 : Int32).toInt = -1 := rfl
  rw [Int32.lt_iff_toInt_lt, a0] at hv
  unfold own_mx
  by_cases q : a < v
  · rw [if_pos q]
    refine Or.inr ⟨Or.inr rfl, fun z hz => ?_⟩
    rw [Int32.lt_iff_toInt_lt] at q
    rcases hz with hz | rfl
    · rcases h with ⟨h, -⟩ | ⟨-, h⟩
      · exact absurd hz (h z)
      · have := h z hz; omega
    · omega
  · rw [if_neg q]
    rw [Int32.lt_iff_toInt_lt] at q
    rcases h with ⟨h, rfl⟩ | ⟨h, h'⟩
    · rw [am] at q; omega
    · refine Or.inr ⟨Or.inl h, fun z hz => ?_⟩
      rcases hz with hz | rfl
      · exact h' z hz
      · omega
theorem own_top_congr {S T : Int32 → Prop} {a : Int32} (h : own_top S a) (e : ∀ z, S z ↔ T z) : own_top T a := by
  have : S = T := funext fun z => propext (e z)
  rw [← this]; exact h
theorem own_bv_mod32 (w : Int32) : (w.toBitVec.toNat : Int) = w.toInt % 4294967296 := by
  have e : w.toInt = w.toBitVec.toInt := rfl
  have h2 := BitVec.toInt_eq_toNat_cond w.toBitVec
  have h3 := w.toBitVec.isLt
  rw [e]
  split at h2 <;> omega
theorem own_n32_pos {x r u K : Int32} (s : Nat) (hs : s ≤ 30) (h0 : ((2 ^ s : Nat) : Int) ≤ x.toInt) (h1 : x.toInt < 4 * ((2 ^ s : Nat) : Int)) (hu : u.toInt = x.toInt / ((2 ^ s : Nat) : Int)) (hK : K.toInt = 31 - (s : Int)) (hr : r = (K - ((u.toUInt32 >>> ((1 : Int32) &&& 31).toUInt32).toInt32))) : own_n32 x r := by
  have hp : 0 < 2 ^ s := Nat.two_pow_pos s
  have hn : (x.toBitVec.toNat : Int) = x.toInt := by
    rw [own_bv_mod32]
    have := Int32.toInt_lt x
    omega
  have a0 : (0 : Int32).toInt = 0 := rfl
  refine ⟨fun q => by subst q; rw [a0] at h0; omega, fun _ => ?_⟩
  have hq := c_iushr u 1 1 (by decide) (by decide)
  rw [show ((2 ^ 1 : Nat) : Int) = 2 from rfl] at hq
  have hm := c_isub K ((u.toUInt32 >>> ((1 : Int32) &&& 31).toUInt32).toInt32)
  rw [← hr, hq] at hm
  have r1 := Int32.le_toInt r; have r2 := Int32.toInt_lt r
  have hu1 : 1 ≤ u.toInt := by rw [hu]; exact (Int.le_ediv_iff_mul_le (by omega)).mpr (by omega)
  have hu2 : u.toInt < 4 := by rw [hu]; exact (Int.ediv_lt_iff_lt_mul (by omega)).mpr (by omega)
  have hd := Int.mul_ediv_self_le (x := x.toInt) (k := ((2 ^ s : Nat) : Int)) (by omega)
  have hd2 := Int.lt_mul_ediv_self_add (x := x.toInt) (k := ((2 ^ s : Nat) : Int)) (by omega)
  rw [← hu] at hd hd2
  have hp1 : 2 ^ (s + 1) = 2 * 2 ^ s := by rw [Nat.pow_succ]; omega
  have hp2 : 2 ^ (s + 1 + 1) = 4 * 2 ^ s := by rw [Nat.pow_succ, Nat.pow_succ]; omega
  by_cases q : u.toInt = 1
  · rw [q] at hd hd2 hm
    refine ⟨s, by omega, by omega, by omega, by omega⟩
  · refine ⟨s + 1, by omega, ?_, by omega, by omega⟩
    rw [hp1]
    have : 2 ≤ u.toInt := by omega
    have := Int.mul_le_mul_of_nonneg_left this (show (0 : Int) ≤ ((2 ^ s : Nat) : Int) by omega)
    omega
theorem own_n32_neg {x : Int32} (h : ¬ (0 : Int32) < x) (h0 : ¬ (x = 0)) : own_n32 x 0 := by
  have e : x.toInt = x.toBitVec.toInt := rfl
  have a0 : (0 : Int32).toInt = 0 := rfl
  have h2 := BitVec.toInt_eq_toNat_cond x.toBitVec
  have h3 := x.toBitVec.isLt
  rw [Int32.lt_iff_toInt_lt, a0] at h
  have h4 : x.toInt ≠ 0 := fun q => h0 (Int32.toInt_inj.mp (q.trans a0.symm))
  refine ⟨fun q => absurd q h0, fun _ => ⟨31, by decide, ?_, by simpa using h3, rfl⟩⟩
  rw [e] at h h4
  split at h2 <;> omega
theorem own_n32_0 : own_n32 0 32 := ⟨fun _ => rfl, fun h => absurd rfl h⟩
theorem own_u32 {x u q : Int32} (k : Nat) (hk : q.toBitVec.toNat % 32 = k) (k0 : 0 < k) (hu : u = ((x.toUInt32 >>> (q &&& 31).toUInt32).toInt32)) (hx : 0 ≤ x.toInt) : u.toInt = x.toInt / ((2 ^ k : Nat) : Int) := by
  have := c_iushr x q k hk k0
  rw [← hu] at this
  rw [this, Int.emod_eq_of_lt hx (by have := Int32.toInt_lt x; omega)]
theorem own_bv_mod (w : Int64) : (w.toBitVec.toNat : Int) = w.toInt % 18446744073709551616 := by
  have e : w.toInt = w.toBitVec.toInt := rfl
  have h2 := BitVec.toInt_eq_toNat_cond w.toBitVec
  have h3 := w.toBitVec.isLt
  rw [e]
  split at h2 <;> omega
abbrev own_hi64 (w : Int64) : Int32 := ((w.toUInt64 >>> ((32 : Int32) &&& 0x3f).toInt64.toUInt64).toInt64).toInt32
theorem own_hi64_nat (w : Int64) : ((own_hi64 w).toBitVec.toNat) = w.toBitVec.toNat / 4294967296 := by
  have h1 := c_lushr w 32 32 (by decide) (by decide)
  have h2 := c_l2i ((w.toUInt64 >>> ((32 : Int32) &&& 0x3f).toInt64.toUInt64).toInt64)
  have h3 := own_bv_mod w
  have h4 := own_bv_mod32 (own_hi64 w)
  rw [h1, show (((2 ^ 32 : Nat) : Int)) = 4294967296 from rfl] at h2
  have h5 := w.toBitVec.isLt
  change ((own_hi64 w).toInt - _) % _ = 0 at h2
  omega
theorem own_lo64_nat (w : Int64) : (w.toInt32.toBitVec.toNat) = w.toBitVec.toNat % 4294967296 := by
  have h2 := c_l2i w
  have h3 := own_bv_mod w
  have h4 := own_bv_mod32 w.toInt32
  omega
theorem own_n64_hi {w : Int64} {r : Int32} (h : own_n32 (own_hi64 w) r) (hz : ¬ (own_hi64 w = 0)) : own_n64 w r := fun _ => by
  obtain ⟨i, hi, b1, b2, b3⟩ := h.2 hz
  rw [own_hi64_nat] at b1 b2
  refine ⟨i + 32, by omega, ?_, ?_, by omega⟩
  · rw [Nat.pow_add]
    have := (Nat.le_div_iff_mul_le (by decide)).mp b1
    exact this
  · rw [show i + 32 + 1 = (i + 1) + 32 by omega, Nat.pow_add]
    exact (Nat.div_lt_iff_lt_mul (by decide)).mp b2
theorem own_n64_lo {w : Int64} {r : Int32} (h : own_n32 w.toInt32 r) (hz : own_hi64 w = 0) : own_n64 w ((32 : Int32) + r) := fun hw => by
  have h1 := own_hi64_nat w
  rw [hz, show ((0 : Int32)).toBitVec.toNat = 0 from by decide] at h1
  have h2 := own_lo64_nat w
  have h3 : w.toBitVec.toNat < 4294967296 := by omega
  rw [Nat.mod_eq_of_lt h3] at h2
  have hn : w.toInt32 ≠ 0 := fun q => by
    rw [q, show ((0 : Int32)).toBitVec.toNat = 0 from by decide] at h2
    exact hw (Int64.toBitVec_inj.mp (BitVec.eq_of_toNat_eq (by rw [← h2]; decide)))
  obtain ⟨i, hi, b1, b2, b3⟩ := h.2 hn
  rw [h2] at b1 b2
  have := c_iadd 32 r
  rw [show (32 : Int32).toInt = 32 from rfl] at this
  have r1 := Int32.le_toInt ((32 : Int32) + r); have r2 := Int32.toInt_lt ((32 : Int32) + r)
  exact ⟨i, by omega, b1, b2, by omega⟩
def own_sh (x u m : Int32) (b : Int) : Prop := 0 < u.toInt ∧ u.toInt < b ∧ ∃ s : Nat, s ≤ 30 ∧ m.toInt = 31 - (s : Int) ∧ u.toInt = x.toInt / ((2 ^ s : Nat) : Int)
theorem own_sh_init {x : Int32} (h : (0 : Int32) < x) : own_sh x x 31 2147483648 := by
  rw [Int32.lt_iff_toInt_lt, show (0 : Int32).toInt = 0 from rfl] at h
  have := Int32.toInt_lt x
  exact ⟨h, by omega, 0, by decide, rfl, by simp⟩
theorem own_sh_stay {x u m q : Int32} {b b' : Int} (h : own_sh x u m b) (hu : u < q) (hq : q.toInt = b') : own_sh x u m b' := ⟨h.1, by rw [← hq]; exact Int32.lt_iff_toInt_lt.mp hu, h.2.2⟩
theorem own_sh_step {x u m m' q d sh : Int32} {b b' B : Int} (h : own_sh x u m b) (hu : ¬ u < q) (hq : q.toInt = B) (k : Nat) (hk : sh.toBitVec.toNat % 32 = k) (k0 : 0 < k) (hd : d.toInt = -(k : Int)) (hb : b ≤ b' * ((2 ^ k : Nat) : Int)) (hB : ((2 ^ k : Nat) : Int) = B) (hm : m + d = m') : own_sh x ((u.toUInt32 >>> (sh &&& 31).toUInt32).toInt32) m' b' := by
  subst hm
  obtain ⟨h1, h2, s, s1, s2, s3⟩ := h
  have e := own_u32 (x := u) k hk k0 rfl (by omega)
  rw [Int32.lt_iff_toInt_lt, hq, ← hB] at hu
  have hp : (0 : Int) < ((2 ^ k : Nat) : Int) := by have := Nat.two_pow_pos k; omega
  have hps : (0 : Int) ≤ ((2 ^ s : Nat) : Int) := by have := Nat.two_pow_pos s; omega
  have g1 : 1 ≤ u.toInt / ((2 ^ k : Nat) : Int) := (Int.le_ediv_iff_mul_le hp).mpr (by omega)
  have g2 : u.toInt / ((2 ^ k : Nat) : Int) < b' := (Int.ediv_lt_iff_lt_mul hp).mpr (by omega)
  have g3 := c_iadd m d
  have := Int32.le_toInt (m + d); have := Int32.toInt_lt (m + d)
  have hs : s + k ≤ 30 := by
    refine Nat.le_of_not_lt fun q => ?_
    have hx := Int32.toInt_lt x
    have e2 : u.toInt / ((2 ^ k : Nat) : Int) = x.toInt / ((2 ^ (s + k) : Nat) : Int) := by rw [s3, Int.ediv_ediv_of_nonneg hps, Nat.pow_add]; rfl
    have : x.toInt / ((2 ^ (s + k) : Nat) : Int) ≤ 0 := by
      have hz : (2 : Nat) ^ 31 ≤ 2 ^ (s + k) := Nat.pow_le_pow_right (by decide) q
      have hq2 : (0 : Int) < ((2 ^ (s + k) : Nat) : Int) := by have := Nat.two_pow_pos (s + k); omega
      have : x.toInt / ((2 ^ (s + k) : Nat) : Int) < 1 := (Int.ediv_lt_iff_lt_mul hq2).mpr (by omega)
      omega
    omega
  refine ⟨by omega, by omega, s + k, hs, by omega, ?_⟩
  rw [e, s3, Int.ediv_ediv_of_nonneg hps, Nat.pow_add]
  rfl
theorem own_sh_end {x u m : Int32} (h : own_sh x u m 4) : own_n32 x (m - ((u.toUInt32 >>> ((1 : Int32) &&& 31).toUInt32).toInt32)) := by
  obtain ⟨h1, h2, s, s1, s2, s3⟩ := h
  have hp : (0 : Int) < ((2 ^ s : Nat) : Int) := by have := Nat.two_pow_pos s; omega
  have g := Int.mul_ediv_self_le (x := x.toInt) (k := ((2 ^ s : Nat) : Int)) (by omega)
  have g' := Int.lt_mul_ediv_self_add (x := x.toInt) (k := ((2 ^ s : Nat) : Int)) (by omega)
  rw [← s3] at g g'
  refine own_n32_pos (u := u) (K := m) s s1 ?_ ?_ s3 s2 rfl
  · have := Int.mul_le_mul_of_nonneg_left (show (1 : Int) ≤ u.toInt by omega) (Int.le_of_lt hp)
    omega
  · have := Int.mul_le_mul_of_nonneg_left (show u.toInt ≤ (3 : Int) by omega) (Int.le_of_lt hp)
    omega
def own_s_0_0 (cap sz : Int32) (kv wv : List Value) (SS : Int32 → Prop) : Prop := cap = (0 : Int32) ∧ sz = (0 : Int32) ∧ kv = [] ∧ wv = [] ∧ own_r [] SS
def own_s_1_0 (cap sz : Int32) (kv wv : List Value) (SS : Int32 → Prop) : Prop := ∃ (g0 : Int32) (q0 : Int64), cap = (1 : Int32) ∧ sz = (0 : Int32) ∧ kv = [(.int g0)] ∧ wv = [(.long q0)] ∧ own_r [] SS
def own_s_1_1 (cap sz : Int32) (kv wv : List Value) (SS : Int32 → Prop) : Prop := ∃ (k0 : Int32) (w0 : Int64), cap = (1 : Int32) ∧ sz = (1 : Int32) ∧ kv = [(.int k0)] ∧ wv = [(.long w0)] ∧ own_r [(k0, w0)] SS
def own_s_3_1 (cap sz : Int32) (kv wv : List Value) (SS : Int32 → Prop) : Prop := ∃ (k0 g1 g2 : Int32) (w0 q1 q2 : Int64), cap = (3 : Int32) ∧ sz = (1 : Int32) ∧ kv = [(.int k0), (.int g1), (.int g2)] ∧ wv = [(.long w0), (.long q1), (.long q2)] ∧ own_r [(k0, w0)] SS
def own_s_3_2 (cap sz : Int32) (kv wv : List Value) (SS : Int32 → Prop) : Prop := ∃ (k0 k1 g2 : Int32) (w0 w1 q2 : Int64), cap = (3 : Int32) ∧ sz = (2 : Int32) ∧ kv = [(.int k0), (.int k1), (.int g2)] ∧ wv = [(.long w0), (.long w1), (.long q2)] ∧ own_r [(k0, w0), (k1, w1)] SS
def own_s_3_3 (cap sz : Int32) (kv wv : List Value) (SS : Int32 → Prop) : Prop := ∃ (k0 k1 k2 : Int32) (w0 w1 w2 : Int64), cap = (3 : Int32) ∧ sz = (3 : Int32) ∧ kv = [(.int k0), (.int k1), (.int k2)] ∧ wv = [(.long w0), (.long w1), (.long w2)] ∧ own_r [(k0, w0), (k1, w1), (k2, w2)] SS
theorem own_o0 {a b : Int32 × Int64} {L : List (Int32 × Int64)} {S : Int32 → Prop} (h : own_r (a :: b :: L) S) : a.1 < b.1 := Int32.lt_iff_toInt_lt.mpr ((List.pairwise_cons.mp h.1).1 b (by simp))
theorem own_o1 {a b c : Int32 × Int64} {L : List (Int32 × Int64)} {S : Int32 → Prop} (h : own_r (c :: a :: b :: L) S) : a.1 < b.1 := Int32.lt_iff_toInt_lt.mpr ((List.pairwise_cons.mp (List.pairwise_cons.mp h.1).2).1 b (by simp))
theorem own_eq_of {a b : Int32} (h1 : ¬ a < b) (h2 : ¬ b < a) : b = a := by
  apply Int32.toInt_inj.mp
  rw [Int32.lt_iff_toInt_lt] at h1 h2
  omega
theorem own_ne_lt {a b : Int32} (h : a < b) : b ≠ a := fun q => by rw [q, Int32.lt_iff_toInt_lt] at h; omega
theorem own_ne_gt {a b : Int32} (h : b < a) : b ≠ a := fun q => by rw [q, Int32.lt_iff_toInt_lt] at h; omega
theorem own_nn (x : Int32) : ¬ (x &&& (2147483647 : Int32)) < (0 : Int32) := by
  have q := c_mask x 2147483647 31 (by decide) (by decide)
  have a0 : (0 : Int32).toInt = 0 := rfl
  rw [Int32.lt_iff_toInt_lt, q, a0]
  omega
theorem own_c0 {x r : Int32} (h0 : x = r) : ∀ v, (fun _ => False) v ↔ own_del (own_ins (fun _ => False) x) r v := by
  intro v
  simp only [own_ins, own_del, false_or]
  constructor <;> intro q <;> grind
theorem own_c1 {x r : Int32} (h0 : ¬ x = r) : ∀ v, (own_ins (fun _ => False) x) v ↔ own_del (own_ins (fun _ => False) x) r v := by
  intro v
  simp only [own_ins, own_del, false_or]
  constructor <;> intro q <;> grind
theorem own_c00 {x y r : Int32} (h0 : x = r) (h1 : y = r) : ∀ v, (fun _ => False) v ↔ own_del (own_ins (own_ins (fun _ => False) x) y) r v := by
  intro v
  simp only [own_ins, own_del, false_or]
  constructor <;> intro q <;> grind
theorem own_c01 {x y r : Int32} (h0 : x = r) (h1 : ¬ y = r) : ∀ v, (own_ins (fun _ => False) y) v ↔ own_del (own_ins (own_ins (fun _ => False) x) y) r v := by
  intro v
  simp only [own_ins, own_del, false_or]
  constructor <;> intro q <;> grind
theorem own_c10 {x y r : Int32} (h0 : ¬ x = r) (h1 : y = r) : ∀ v, (own_ins (fun _ => False) x) v ↔ own_del (own_ins (own_ins (fun _ => False) x) y) r v := by
  intro v
  simp only [own_ins, own_del, false_or]
  constructor <;> intro q <;> grind
theorem own_c11 {x y r : Int32} (h0 : ¬ x = r) (h1 : ¬ y = r) : ∀ v, (own_ins (own_ins (fun _ => False) x) y) v ↔ own_del (own_ins (own_ins (fun _ => False) x) y) r v := by
  intro v
  simp only [own_ins, own_del, false_or]
  constructor <;> intro q <;> grind
theorem own_c000 {x y z r : Int32} (h0 : x = r) (h1 : y = r) (h2 : z = r) : ∀ v, (fun _ => False) v ↔ own_del (own_ins (own_ins (own_ins (fun _ => False) x) y) z) r v := by
  intro v
  simp only [own_ins, own_del, false_or]
  constructor <;> intro q <;> grind
theorem own_c001 {x y z r : Int32} (h0 : x = r) (h1 : y = r) (h2 : ¬ z = r) : ∀ v, (own_ins (fun _ => False) z) v ↔ own_del (own_ins (own_ins (own_ins (fun _ => False) x) y) z) r v := by
  intro v
  simp only [own_ins, own_del, false_or]
  constructor <;> intro q <;> grind
theorem own_c010 {x y z r : Int32} (h0 : x = r) (h1 : ¬ y = r) (h2 : z = r) : ∀ v, (own_ins (fun _ => False) y) v ↔ own_del (own_ins (own_ins (own_ins (fun _ => False) x) y) z) r v := by
  intro v
  simp only [own_ins, own_del, false_or]
  constructor <;> intro q <;> grind
theorem own_c011 {x y z r : Int32} (h0 : x = r) (h1 : ¬ y = r) (h2 : ¬ z = r) : ∀ v, (own_ins (own_ins (fun _ => False) y) z) v ↔ own_del (own_ins (own_ins (own_ins (fun _ => False) x) y) z) r v := by
  intro v
  simp only [own_ins, own_del, false_or]
  constructor <;> intro q <;> grind
theorem own_c100 {x y z r : Int32} (h0 : ¬ x = r) (h1 : y = r) (h2 : z = r) : ∀ v, (own_ins (fun _ => False) x) v ↔ own_del (own_ins (own_ins (own_ins (fun _ => False) x) y) z) r v := by
  intro v
  simp only [own_ins, own_del, false_or]
  constructor <;> intro q <;> grind
theorem own_c101 {x y z r : Int32} (h0 : ¬ x = r) (h1 : y = r) (h2 : ¬ z = r) : ∀ v, (own_ins (own_ins (fun _ => False) x) z) v ↔ own_del (own_ins (own_ins (own_ins (fun _ => False) x) y) z) r v := by
  intro v
  simp only [own_ins, own_del, false_or]
  constructor <;> intro q <;> grind
theorem own_c110 {x y z r : Int32} (h0 : ¬ x = r) (h1 : ¬ y = r) (h2 : z = r) : ∀ v, (own_ins (own_ins (fun _ => False) x) y) v ↔ own_del (own_ins (own_ins (own_ins (fun _ => False) x) y) z) r v := by
  intro v
  simp only [own_ins, own_del, false_or]
  constructor <;> intro q <;> grind
theorem own_c111 {x y z r : Int32} (h0 : ¬ x = r) (h1 : ¬ y = r) (h2 : ¬ z = r) : ∀ v, (own_ins (own_ins (own_ins (fun _ => False) x) y) z) v ↔ own_del (own_ins (own_ins (own_ins (fun _ => False) x) y) z) r v := by
  intro v
  simp only [own_ins, own_del, false_or]
  constructor <;> intro q <;> grind
theorem own_sz11 {cap sz : Int32} {kv wv : List Value} {SS : Int32 → Prop} (h : own_s_1_1 cap sz kv wv SS) : sz = (1 : Int32) := by obtain ⟨_, _, -, h, -⟩ := h; exact h
theorem own_mix {x : Int32} (h : ¬ x < (0 : Int32)) (y : Int32) : ¬ ((x &&& (-64 : Int32)) ||| (y &&& (63 : Int32))) < (0 : Int32) := by
  have a0 : (0 : Int32).toInt = 0 := rfl
  rw [Int32.lt_iff_toInt_lt, a0] at h ⊢
  have h1 := (c_andS x (-64)).2.1 (by omega)
  have h2 := (c_andS y 63).2.2 (by decide)
  have := (c_orS _ _).1 h1 h2
  omega
theorem own_and3 (x : Int32) : (x &&& (3 : Int32)) = (0 : Int32) ∨ (x &&& (3 : Int32)) = (1 : Int32) ∨ (x &&& (3 : Int32)) = (2 : Int32) ∨ (x &&& (3 : Int32)) = (3 : Int32) := by
  have q := c_mask x 3 2 (by decide) (by decide)
  simp only [← Int32.toInt_inj]
  rw [q, show (0 : Int32).toInt = 0 from rfl, show (1 : Int32).toInt = 1 from rfl, show (2 : Int32).toInt = 2 from rfl, show (3 : Int32).toInt = 3 from rfl, show ((2 ^ 2 : Nat) : Int) = 4 from rfl]
  omega

theorem d1_0 : decode prog_36_method_1_code 0 = .ok (.aload_n 0, 1) := by decide +kernel
theorem d1_1 : decode prog_36_method_1_code 1 = .ok (.invokespecial 1, 3) := by decide +kernel
theorem d1_4 : decode prog_36_method_1_code 4 = .ok (.aload_n 0, 1) := by decide +kernel
theorem d1_5 : decode prog_36_method_1_code 5 = .ok (.getstatic 7, 3) := by decide +kernel
theorem d1_8 : decode prog_36_method_1_code 8 = .ok (.putfield 13, 3) := by decide +kernel
theorem d1_11 : decode prog_36_method_1_code 11 = .ok (.aload_n 0, 1) := by decide +kernel
theorem d1_12 : decode prog_36_method_1_code 12 = .ok (.getstatic 16, 3) := by decide +kernel
theorem d1_15 : decode prog_36_method_1_code 15 = .ok (.putfield 20, 3) := by decide +kernel
theorem d1_18 : decode prog_36_method_1_code 18 = .ok (.return_, 1) := by decide +kernel
theorem d3_0 : decode prog_36_method_5_code 0 = .ok (.iload_n 1, 1) := by decide +kernel
theorem d3_1 : decode prog_36_method_5_code 1 = .ok (.bipush 6, 2) := by decide +kernel
theorem d3_3 : decode prog_36_method_5_code 3 = .ok (.iushr, 1) := by decide +kernel
theorem d3_4 : decode prog_36_method_5_code 4 = .ok (.istore_n 2, 1) := by decide +kernel
theorem d3_5 : decode prog_36_method_5_code 5 = .ok (.lconst 1, 1) := by decide +kernel
theorem d3_6 : decode prog_36_method_5_code 6 = .ok (.iload_n 1, 1) := by decide +kernel
theorem d3_7 : decode prog_36_method_5_code 7 = .ok (.lshl, 1) := by decide +kernel
theorem d3_8 : decode prog_36_method_5_code 8 = .ok (.lstore_n 3, 1) := by decide +kernel
theorem d3_9 : decode prog_36_method_5_code 9 = .ok (.aload_n 0, 1) := by decide +kernel
theorem d3_10 : decode prog_36_method_5_code 10 = .ok (.getfield 13, 3) := by decide +kernel
theorem d3_13 : decode prog_36_method_5_code 13 = .ok (.iconst 0, 1) := by decide +kernel
theorem d3_14 : decode prog_36_method_5_code 14 = .ok (.aload_n 0, 1) := by decide +kernel
theorem d3_15 : decode prog_36_method_5_code 15 = .ok (.getfield 23, 3) := by decide +kernel
theorem d3_18 : decode prog_36_method_5_code 18 = .ok (.iload_n 2, 1) := by decide +kernel
theorem d3_19 : decode prog_36_method_5_code 19 = .ok (.invokestatic 43, 3) := by decide +kernel
theorem d3_22 : decode prog_36_method_5_code 22 = .ok (.istore 5, 2) := by decide +kernel
theorem d3_24 : decode prog_36_method_5_code 24 = .ok (.iload 5, 2) := by decide +kernel
theorem d3_26 : decode prog_36_method_5_code 26 = .ok (.ifCond .ge 97, 3) := by decide +kernel
theorem d3_29 : decode prog_36_method_5_code 29 = .ok (.iload 5, 2) := by decide +kernel
theorem d3_31 : decode prog_36_method_5_code 31 = .ok (.ineg, 1) := by decide +kernel
theorem d3_32 : decode prog_36_method_5_code 32 = .ok (.iconst 1, 1) := by decide +kernel
theorem d3_33 : decode prog_36_method_5_code 33 = .ok (.isub, 1) := by decide +kernel
theorem d3_34 : decode prog_36_method_5_code 34 = .ok (.istore 6, 2) := by decide +kernel
theorem d3_36 : decode prog_36_method_5_code 36 = .ok (.aload_n 0, 1) := by decide +kernel
theorem d3_37 : decode prog_36_method_5_code 37 = .ok (.aload_n 0, 1) := by decide +kernel
theorem d3_38 : decode prog_36_method_5_code 38 = .ok (.getfield 23, 3) := by decide +kernel
theorem d3_41 : decode prog_36_method_5_code 41 = .ok (.iconst 1, 1) := by decide +kernel
theorem d3_42 : decode prog_36_method_5_code 42 = .ok (.iadd, 1) := by decide +kernel
theorem d3_43 : decode prog_36_method_5_code 43 = .ok (.invokevirtual 49, 3) := by decide +kernel
theorem d3_46 : decode prog_36_method_5_code 46 = .ok (.aload_n 0, 1) := by decide +kernel
theorem d3_47 : decode prog_36_method_5_code 47 = .ok (.getfield 13, 3) := by decide +kernel
theorem d3_50 : decode prog_36_method_5_code 50 = .ok (.iload 6, 2) := by decide +kernel
theorem d3_52 : decode prog_36_method_5_code 52 = .ok (.aload_n 0, 1) := by decide +kernel
theorem d3_53 : decode prog_36_method_5_code 53 = .ok (.getfield 13, 3) := by decide +kernel
theorem d3_56 : decode prog_36_method_5_code 56 = .ok (.iload 6, 2) := by decide +kernel
theorem d3_58 : decode prog_36_method_5_code 58 = .ok (.iconst 1, 1) := by decide +kernel
theorem d3_59 : decode prog_36_method_5_code 59 = .ok (.iadd, 1) := by decide +kernel
theorem d3_60 : decode prog_36_method_5_code 60 = .ok (.aload_n 0, 1) := by decide +kernel
theorem d3_61 : decode prog_36_method_5_code 61 = .ok (.getfield 23, 3) := by decide +kernel
theorem d3_64 : decode prog_36_method_5_code 64 = .ok (.iload 6, 2) := by decide +kernel
theorem d3_66 : decode prog_36_method_5_code 66 = .ok (.isub, 1) := by decide +kernel
theorem d3_67 : decode prog_36_method_5_code 67 = .ok (.invokestatic 53, 3) := by decide +kernel
theorem d3_70 : decode prog_36_method_5_code 70 = .ok (.aload_n 0, 1) := by decide +kernel
theorem d3_71 : decode prog_36_method_5_code 71 = .ok (.getfield 20, 3) := by decide +kernel
theorem d3_74 : decode prog_36_method_5_code 74 = .ok (.iload 6, 2) := by decide +kernel
theorem d3_76 : decode prog_36_method_5_code 76 = .ok (.aload_n 0, 1) := by decide +kernel
theorem d3_77 : decode prog_36_method_5_code 77 = .ok (.getfield 20, 3) := by decide +kernel
theorem d3_80 : decode prog_36_method_5_code 80 = .ok (.iload 6, 2) := by decide +kernel
theorem d3_82 : decode prog_36_method_5_code 82 = .ok (.iconst 1, 1) := by decide +kernel
theorem d3_83 : decode prog_36_method_5_code 83 = .ok (.iadd, 1) := by decide +kernel
theorem d3_84 : decode prog_36_method_5_code 84 = .ok (.aload_n 0, 1) := by decide +kernel
theorem d3_85 : decode prog_36_method_5_code 85 = .ok (.getfield 23, 3) := by decide +kernel
theorem d3_88 : decode prog_36_method_5_code 88 = .ok (.iload 6, 2) := by decide +kernel
theorem d3_90 : decode prog_36_method_5_code 90 = .ok (.isub, 1) := by decide +kernel
theorem d3_91 : decode prog_36_method_5_code 91 = .ok (.invokestatic 53, 3) := by decide +kernel
theorem d3_94 : decode prog_36_method_5_code 94 = .ok (.aload_n 0, 1) := by decide +kernel
theorem d3_95 : decode prog_36_method_5_code 95 = .ok (.getfield 13, 3) := by decide +kernel
theorem d3_98 : decode prog_36_method_5_code 98 = .ok (.iload 6, 2) := by decide +kernel
theorem d3_100 : decode prog_36_method_5_code 100 = .ok (.iload_n 2, 1) := by decide +kernel
theorem d3_101 : decode prog_36_method_5_code 101 = .ok (.iastore, 1) := by decide +kernel
theorem d3_102 : decode prog_36_method_5_code 102 = .ok (.aload_n 0, 1) := by decide +kernel
theorem d3_103 : decode prog_36_method_5_code 103 = .ok (.getfield 20, 3) := by decide +kernel
theorem d3_106 : decode prog_36_method_5_code 106 = .ok (.iload 6, 2) := by decide +kernel
theorem d3_108 : decode prog_36_method_5_code 108 = .ok (.lload_n 3, 1) := by decide +kernel
theorem d3_109 : decode prog_36_method_5_code 109 = .ok (.lastore, 1) := by decide +kernel
theorem d3_110 : decode prog_36_method_5_code 110 = .ok (.aload_n 0, 1) := by decide +kernel
theorem d3_111 : decode prog_36_method_5_code 111 = .ok (.dup, 1) := by decide +kernel
theorem d3_112 : decode prog_36_method_5_code 112 = .ok (.getfield 23, 3) := by decide +kernel
theorem d3_115 : decode prog_36_method_5_code 115 = .ok (.iconst 1, 1) := by decide +kernel
theorem d3_116 : decode prog_36_method_5_code 116 = .ok (.iadd, 1) := by decide +kernel
theorem d3_117 : decode prog_36_method_5_code 117 = .ok (.putfield 23, 3) := by decide +kernel
theorem d3_120 : decode prog_36_method_5_code 120 = .ok (.goto 36, 3) := by decide +kernel
theorem d3_123 : decode prog_36_method_5_code 123 = .ok (.aload_n 0, 1) := by decide +kernel
theorem d3_124 : decode prog_36_method_5_code 124 = .ok (.getfield 20, 3) := by decide +kernel
theorem d3_127 : decode prog_36_method_5_code 127 = .ok (.iload 5, 2) := by decide +kernel
theorem d3_129 : decode prog_36_method_5_code 129 = .ok (.laload, 1) := by decide +kernel
theorem d3_130 : decode prog_36_method_5_code 130 = .ok (.lload_n 3, 1) := by decide +kernel
theorem d3_131 : decode prog_36_method_5_code 131 = .ok (.land, 1) := by decide +kernel
theorem d3_132 : decode prog_36_method_5_code 132 = .ok (.lconst 0, 1) := by decide +kernel
theorem d3_133 : decode prog_36_method_5_code 133 = .ok (.lcmp, 1) := by decide +kernel
theorem d3_134 : decode prog_36_method_5_code 134 = .ok (.ifCond .ne 22, 3) := by decide +kernel
theorem d3_137 : decode prog_36_method_5_code 137 = .ok (.aload_n 0, 1) := by decide +kernel
theorem d3_138 : decode prog_36_method_5_code 138 = .ok (.aload_n 0, 1) := by decide +kernel
theorem d3_139 : decode prog_36_method_5_code 139 = .ok (.getfield 23, 3) := by decide +kernel
theorem d3_142 : decode prog_36_method_5_code 142 = .ok (.invokevirtual 49, 3) := by decide +kernel
theorem d3_145 : decode prog_36_method_5_code 145 = .ok (.aload_n 0, 1) := by decide +kernel
theorem d3_146 : decode prog_36_method_5_code 146 = .ok (.getfield 20, 3) := by decide +kernel
theorem d3_149 : decode prog_36_method_5_code 149 = .ok (.iload 5, 2) := by decide +kernel
theorem d3_151 : decode prog_36_method_5_code 151 = .ok (.dup2, 1) := by decide +kernel
theorem d3_152 : decode prog_36_method_5_code 152 = .ok (.laload, 1) := by decide +kernel
theorem d3_153 : decode prog_36_method_5_code 153 = .ok (.lload_n 3, 1) := by decide +kernel
theorem d3_154 : decode prog_36_method_5_code 154 = .ok (.lor, 1) := by decide +kernel
theorem d3_155 : decode prog_36_method_5_code 155 = .ok (.lastore, 1) := by decide +kernel
theorem d3_156 : decode prog_36_method_5_code 156 = .ok (.return_, 1) := by decide +kernel
theorem d4_0 : decode jdk_65_method_58_code 0 = .ok (.aload_n 0, 1) := by decide +kernel
theorem d4_1 : decode jdk_65_method_58_code 1 = .ok (.arraylength, 1) := by decide +kernel
theorem d4_2 : decode jdk_65_method_58_code 2 = .ok (.iload_n 1, 1) := by decide +kernel
theorem d4_3 : decode jdk_65_method_58_code 3 = .ok (.iload_n 2, 1) := by decide +kernel
theorem d4_4 : decode jdk_65_method_58_code 4 = .ok (.invokestatic 13, 3) := by decide +kernel
theorem d4_7 : decode jdk_65_method_58_code 7 = .ok (.aload_n 0, 1) := by decide +kernel
theorem d4_8 : decode jdk_65_method_58_code 8 = .ok (.iload_n 1, 1) := by decide +kernel
theorem d4_9 : decode jdk_65_method_58_code 9 = .ok (.iload_n 2, 1) := by decide +kernel
theorem d4_10 : decode jdk_65_method_58_code 10 = .ok (.iload_n 3, 1) := by decide +kernel
theorem d4_11 : decode jdk_65_method_58_code 11 = .ok (.invokestatic 209, 3) := by decide +kernel
theorem d4_14 : decode jdk_65_method_58_code 14 = .ok (.ireturn, 1) := by decide +kernel
theorem d5_0 : decode jdk_65_method_30_code 0 = .ok (.iload_n 1, 1) := by decide +kernel
theorem d5_1 : decode jdk_65_method_30_code 1 = .ok (.iload_n 2, 1) := by decide +kernel
theorem d5_2 : decode jdk_65_method_30_code 2 = .ok (.if_icmp .le 44, 3) := by decide +kernel
theorem d5_46 : decode jdk_65_method_30_code 46 = .ok (.iload_n 1, 1) := by decide +kernel
theorem d5_47 : decode jdk_65_method_30_code 47 = .ok (.ifCond .ge 12, 3) := by decide +kernel
theorem d5_59 : decode jdk_65_method_30_code 59 = .ok (.iload_n 2, 1) := by decide +kernel
theorem d5_60 : decode jdk_65_method_30_code 60 = .ok (.iload_n 0, 1) := by decide +kernel
theorem d5_61 : decode jdk_65_method_30_code 61 = .ok (.if_icmp .le 12, 3) := by decide +kernel
theorem d5_73 : decode jdk_65_method_30_code 73 = .ok (.return_, 1) := by decide +kernel
theorem d6_0 : decode jdk_65_method_59_code 0 = .ok (.iload_n 1, 1) := by decide +kernel
theorem d6_1 : decode jdk_65_method_59_code 1 = .ok (.istore 4, 2) := by decide +kernel
theorem d6_3 : decode jdk_65_method_59_code 3 = .ok (.iload_n 2, 1) := by decide +kernel
theorem d6_4 : decode jdk_65_method_59_code 4 = .ok (.iconst 1, 1) := by decide +kernel
theorem d6_5 : decode jdk_65_method_59_code 5 = .ok (.isub, 1) := by decide +kernel
theorem d6_6 : decode jdk_65_method_59_code 6 = .ok (.istore 5, 2) := by decide +kernel
theorem d6_8 : decode jdk_65_method_59_code 8 = .ok (.iload 4, 2) := by decide +kernel
theorem d6_10 : decode jdk_65_method_59_code 10 = .ok (.iload 5, 2) := by decide +kernel
theorem d6_12 : decode jdk_65_method_59_code 12 = .ok (.if_icmp .gt 54, 3) := by decide +kernel
theorem d6_15 : decode jdk_65_method_59_code 15 = .ok (.iload 4, 2) := by decide +kernel
theorem d6_17 : decode jdk_65_method_59_code 17 = .ok (.iload 5, 2) := by decide +kernel
theorem d6_19 : decode jdk_65_method_59_code 19 = .ok (.iadd, 1) := by decide +kernel
theorem d6_20 : decode jdk_65_method_59_code 20 = .ok (.iconst 1, 1) := by decide +kernel
theorem d6_21 : decode jdk_65_method_59_code 21 = .ok (.iushr, 1) := by decide +kernel
theorem d6_22 : decode jdk_65_method_59_code 22 = .ok (.istore 6, 2) := by decide +kernel
theorem d6_24 : decode jdk_65_method_59_code 24 = .ok (.aload_n 0, 1) := by decide +kernel
theorem d6_25 : decode jdk_65_method_59_code 25 = .ok (.iload 6, 2) := by decide +kernel
theorem d6_27 : decode jdk_65_method_59_code 27 = .ok (.iaload, 1) := by decide +kernel
theorem d6_28 : decode jdk_65_method_59_code 28 = .ok (.istore 7, 2) := by decide +kernel
theorem d6_30 : decode jdk_65_method_59_code 30 = .ok (.iload 7, 2) := by decide +kernel
theorem d6_32 : decode jdk_65_method_59_code 32 = .ok (.iload_n 3, 1) := by decide +kernel
theorem d6_33 : decode jdk_65_method_59_code 33 = .ok (.if_icmp .ge 12, 3) := by decide +kernel
theorem d6_36 : decode jdk_65_method_59_code 36 = .ok (.iload 6, 2) := by decide +kernel
theorem d6_38 : decode jdk_65_method_59_code 38 = .ok (.iconst 1, 1) := by decide +kernel
theorem d6_39 : decode jdk_65_method_59_code 39 = .ok (.iadd, 1) := by decide +kernel
theorem d6_40 : decode jdk_65_method_59_code 40 = .ok (.istore 4, 2) := by decide +kernel
theorem d6_42 : decode jdk_65_method_59_code 42 = .ok (.goto 21, 3) := by decide +kernel
theorem d6_45 : decode jdk_65_method_59_code 45 = .ok (.iload 7, 2) := by decide +kernel
theorem d6_47 : decode jdk_65_method_59_code 47 = .ok (.iload_n 3, 1) := by decide +kernel
theorem d6_48 : decode jdk_65_method_59_code 48 = .ok (.if_icmp .le 12, 3) := by decide +kernel
theorem d6_51 : decode jdk_65_method_59_code 51 = .ok (.iload 6, 2) := by decide +kernel
theorem d6_53 : decode jdk_65_method_59_code 53 = .ok (.iconst 1, 1) := by decide +kernel
theorem d6_54 : decode jdk_65_method_59_code 54 = .ok (.isub, 1) := by decide +kernel
theorem d6_55 : decode jdk_65_method_59_code 55 = .ok (.istore 5, 2) := by decide +kernel
theorem d6_57 : decode jdk_65_method_59_code 57 = .ok (.goto 6, 3) := by decide +kernel
theorem d6_60 : decode jdk_65_method_59_code 60 = .ok (.iload 6, 2) := by decide +kernel
theorem d6_62 : decode jdk_65_method_59_code 62 = .ok (.ireturn, 1) := by decide +kernel
theorem d6_63 : decode jdk_65_method_59_code 63 = .ok (.goto (-55), 3) := by decide +kernel
theorem d6_66 : decode jdk_65_method_59_code 66 = .ok (.iload 4, 2) := by decide +kernel
theorem d6_68 : decode jdk_65_method_59_code 68 = .ok (.iconst 1, 1) := by decide +kernel
theorem d6_69 : decode jdk_65_method_59_code 69 = .ok (.iadd, 1) := by decide +kernel
theorem d6_70 : decode jdk_65_method_59_code 70 = .ok (.ineg, 1) := by decide +kernel
theorem d6_71 : decode jdk_65_method_59_code 71 = .ok (.ireturn, 1) := by decide +kernel
theorem d7_0 : decode prog_36_method_10_code 0 = .ok (.aload_n 0, 1) := by decide +kernel
theorem d7_1 : decode prog_36_method_10_code 1 = .ok (.getfield 13, 3) := by decide +kernel
theorem d7_4 : decode prog_36_method_10_code 4 = .ok (.arraylength, 1) := by decide +kernel
theorem d7_5 : decode prog_36_method_10_code 5 = .ok (.istore_n 2, 1) := by decide +kernel
theorem d7_6 : decode prog_36_method_10_code 6 = .ok (.aload_n 0, 1) := by decide +kernel
theorem d7_7 : decode prog_36_method_10_code 7 = .ok (.getfield 27, 3) := by decide +kernel
theorem d7_10 : decode prog_36_method_10_code 10 = .ok (.ifCond .eq 8, 3) := by decide +kernel
theorem d7_18 : decode prog_36_method_10_code 18 = .ok (.iload_n 1, 1) := by decide +kernel
theorem d7_19 : decode prog_36_method_10_code 19 = .ok (.iload_n 2, 1) := by decide +kernel
theorem d7_20 : decode prog_36_method_10_code 20 = .ok (.if_icmp .le 9, 3) := by decide +kernel
theorem d7_23 : decode prog_36_method_10_code 23 = .ok (.iload_n 1, 1) := by decide +kernel
theorem d7_24 : decode prog_36_method_10_code 24 = .ok (.iload_n 1, 1) := by decide +kernel
theorem d7_25 : decode prog_36_method_10_code 25 = .ok (.iconst 2, 1) := by decide +kernel
theorem d7_26 : decode prog_36_method_10_code 26 = .ok (.idiv, 1) := by decide +kernel
theorem d7_27 : decode prog_36_method_10_code 27 = .ok (.iadd, 1) := by decide +kernel
theorem d7_28 : decode prog_36_method_10_code 28 = .ok (.istore_n 2, 1) := by decide +kernel
theorem d7_29 : decode prog_36_method_10_code 29 = .ok (.iload_n 2, 1) := by decide +kernel
theorem d7_30 : decode prog_36_method_10_code 30 = .ok (.aload_n 0, 1) := by decide +kernel
theorem d7_31 : decode prog_36_method_10_code 31 = .ok (.getfield 13, 3) := by decide +kernel
theorem d7_34 : decode prog_36_method_10_code 34 = .ok (.arraylength, 1) := by decide +kernel
theorem d7_35 : decode prog_36_method_10_code 35 = .ok (.if_icmp .ne 10, 3) := by decide +kernel
theorem d7_38 : decode prog_36_method_10_code 38 = .ok (.aload_n 0, 1) := by decide +kernel
theorem d7_39 : decode prog_36_method_10_code 39 = .ok (.getfield 27, 3) := by decide +kernel
theorem d7_42 : decode prog_36_method_10_code 42 = .ok (.ifCond .eq 32, 3) := by decide +kernel
theorem d7_45 : decode prog_36_method_10_code 45 = .ok (.aload_n 0, 1) := by decide +kernel
theorem d7_46 : decode prog_36_method_10_code 46 = .ok (.aload_n 0, 1) := by decide +kernel
theorem d7_47 : decode prog_36_method_10_code 47 = .ok (.getfield 13, 3) := by decide +kernel
theorem d7_50 : decode prog_36_method_10_code 50 = .ok (.iload_n 2, 1) := by decide +kernel
theorem d7_51 : decode prog_36_method_10_code 51 = .ok (.invokestatic 71, 3) := by decide +kernel
theorem d7_54 : decode prog_36_method_10_code 54 = .ok (.putfield 13, 3) := by decide +kernel
theorem d7_57 : decode prog_36_method_10_code 57 = .ok (.aload_n 0, 1) := by decide +kernel
theorem d7_58 : decode prog_36_method_10_code 58 = .ok (.aload_n 0, 1) := by decide +kernel
theorem d7_59 : decode prog_36_method_10_code 59 = .ok (.getfield 20, 3) := by decide +kernel
theorem d7_62 : decode prog_36_method_10_code 62 = .ok (.iload_n 2, 1) := by decide +kernel
theorem d7_63 : decode prog_36_method_10_code 63 = .ok (.invokestatic 75, 3) := by decide +kernel
theorem d7_66 : decode prog_36_method_10_code 66 = .ok (.putfield 20, 3) := by decide +kernel
theorem d7_69 : decode prog_36_method_10_code 69 = .ok (.aload_n 0, 1) := by decide +kernel
theorem d7_70 : decode prog_36_method_10_code 70 = .ok (.iconst 0, 1) := by decide +kernel
theorem d7_71 : decode prog_36_method_10_code 71 = .ok (.putfield 27, 3) := by decide +kernel
theorem d7_74 : decode prog_36_method_10_code 74 = .ok (.return_, 1) := by decide +kernel
theorem d8_0 : decode jdk_65_method_123_code 0 = .ok (.iload_n 1, 1) := by decide +kernel
theorem d8_1 : decode jdk_65_method_123_code 1 = .ok (.aload_n 0, 1) := by decide +kernel
theorem d8_2 : decode jdk_65_method_123_code 2 = .ok (.arraylength, 1) := by decide +kernel
theorem d8_3 : decode jdk_65_method_123_code 3 = .ok (.if_icmp .ne 11, 3) := by decide +kernel
theorem d8_14 : decode jdk_65_method_123_code 14 = .ok (.iload_n 1, 1) := by decide +kernel
theorem d8_15 : decode jdk_65_method_123_code 15 = .ok (.newarray .int, 2) := by decide +kernel
theorem d8_17 : decode jdk_65_method_123_code 17 = .ok (.astore_n 2, 1) := by decide +kernel
theorem d8_18 : decode jdk_65_method_123_code 18 = .ok (.aload_n 0, 1) := by decide +kernel
theorem d8_19 : decode jdk_65_method_123_code 19 = .ok (.iconst 0, 1) := by decide +kernel
theorem d8_20 : decode jdk_65_method_123_code 20 = .ok (.aload_n 2, 1) := by decide +kernel
theorem d8_21 : decode jdk_65_method_123_code 21 = .ok (.iconst 0, 1) := by decide +kernel
theorem d8_22 : decode jdk_65_method_123_code 22 = .ok (.aload_n 0, 1) := by decide +kernel
theorem d8_23 : decode jdk_65_method_123_code 23 = .ok (.arraylength, 1) := by decide +kernel
theorem d8_24 : decode jdk_65_method_123_code 24 = .ok (.iload_n 1, 1) := by decide +kernel
theorem d8_25 : decode jdk_65_method_123_code 25 = .ok (.invokestatic 304, 3) := by decide +kernel
theorem d8_28 : decode jdk_65_method_123_code 28 = .ok (.invokestatic 150, 3) := by decide +kernel
theorem d8_31 : decode jdk_65_method_123_code 31 = .ok (.aload_n 2, 1) := by decide +kernel
theorem d8_32 : decode jdk_65_method_123_code 32 = .ok (.areturn, 1) := by decide +kernel
theorem d9_0 : decode jdk_29_method_69_code 0 = .ok (.iload_n 0, 1) := by decide +kernel
theorem d9_1 : decode jdk_29_method_69_code 1 = .ok (.iload_n 1, 1) := by decide +kernel
theorem d9_2 : decode jdk_29_method_69_code 2 = .ok (.if_icmp .gt 7, 3) := by decide +kernel
theorem d9_5 : decode jdk_29_method_69_code 5 = .ok (.iload_n 0, 1) := by decide +kernel
theorem d9_6 : decode jdk_29_method_69_code 6 = .ok (.goto 4, 3) := by decide +kernel
theorem d9_9 : decode jdk_29_method_69_code 9 = .ok (.iload_n 1, 1) := by decide +kernel
theorem d9_10 : decode jdk_29_method_69_code 10 = .ok (.ireturn, 1) := by decide +kernel
theorem d10_0 : decode jdk_65_method_124_code 0 = .ok (.iload_n 1, 1) := by decide +kernel
theorem d10_1 : decode jdk_65_method_124_code 1 = .ok (.aload_n 0, 1) := by decide +kernel
theorem d10_2 : decode jdk_65_method_124_code 2 = .ok (.arraylength, 1) := by decide +kernel
theorem d10_3 : decode jdk_65_method_124_code 3 = .ok (.if_icmp .ne 11, 3) := by decide +kernel
theorem d10_14 : decode jdk_65_method_124_code 14 = .ok (.iload_n 1, 1) := by decide +kernel
theorem d10_15 : decode jdk_65_method_124_code 15 = .ok (.newarray .long, 2) := by decide +kernel
theorem d10_17 : decode jdk_65_method_124_code 17 = .ok (.astore_n 2, 1) := by decide +kernel
theorem d10_18 : decode jdk_65_method_124_code 18 = .ok (.aload_n 0, 1) := by decide +kernel
theorem d10_19 : decode jdk_65_method_124_code 19 = .ok (.iconst 0, 1) := by decide +kernel
theorem d10_20 : decode jdk_65_method_124_code 20 = .ok (.aload_n 2, 1) := by decide +kernel
theorem d10_21 : decode jdk_65_method_124_code 21 = .ok (.iconst 0, 1) := by decide +kernel
theorem d10_22 : decode jdk_65_method_124_code 22 = .ok (.aload_n 0, 1) := by decide +kernel
theorem d10_23 : decode jdk_65_method_124_code 23 = .ok (.arraylength, 1) := by decide +kernel
theorem d10_24 : decode jdk_65_method_124_code 24 = .ok (.iload_n 1, 1) := by decide +kernel
theorem d10_25 : decode jdk_65_method_124_code 25 = .ok (.invokestatic 304, 3) := by decide +kernel
theorem d10_28 : decode jdk_65_method_124_code 28 = .ok (.invokestatic 150, 3) := by decide +kernel
theorem d10_31 : decode jdk_65_method_124_code 31 = .ok (.aload_n 2, 1) := by decide +kernel
theorem d10_32 : decode jdk_65_method_124_code 32 = .ok (.areturn, 1) := by decide +kernel
theorem d11_0 : decode jdk_29_method_65_code 0 = .ok (.iload_n 0, 1) := by decide +kernel
theorem d11_1 : decode jdk_29_method_65_code 1 = .ok (.iload_n 1, 1) := by decide +kernel
theorem d11_2 : decode jdk_29_method_65_code 2 = .ok (.if_icmp .lt 7, 3) := by decide +kernel
theorem d11_5 : decode jdk_29_method_65_code 5 = .ok (.iload_n 0, 1) := by decide +kernel
theorem d11_6 : decode jdk_29_method_65_code 6 = .ok (.goto 4, 3) := by decide +kernel
theorem d11_9 : decode jdk_29_method_65_code 9 = .ok (.iload_n 1, 1) := by decide +kernel
theorem d11_10 : decode jdk_29_method_65_code 10 = .ok (.ireturn, 1) := by decide +kernel
theorem d12_0 : decode prog_36_method_9_code 0 = .ok (.aload_n 0, 1) := by decide +kernel
theorem d12_1 : decode prog_36_method_9_code 1 = .ok (.getfield 23, 3) := by decide +kernel
theorem d12_4 : decode prog_36_method_9_code 4 = .ok (.ifCond .ne 7, 3) := by decide +kernel
theorem d12_7 : decode prog_36_method_9_code 7 = .ok (.iconst (-1), 1) := by decide +kernel
theorem d12_8 : decode prog_36_method_9_code 8 = .ok (.goto 35, 3) := by decide +kernel
theorem d12_11 : decode prog_36_method_9_code 11 = .ok (.aload_n 0, 1) := by decide +kernel
theorem d12_12 : decode prog_36_method_9_code 12 = .ok (.getfield 13, 3) := by decide +kernel
theorem d12_15 : decode prog_36_method_9_code 15 = .ok (.aload_n 0, 1) := by decide +kernel
theorem d12_16 : decode prog_36_method_9_code 16 = .ok (.getfield 23, 3) := by decide +kernel
theorem d12_19 : decode prog_36_method_9_code 19 = .ok (.iconst 1, 1) := by decide +kernel
theorem d12_20 : decode prog_36_method_9_code 20 = .ok (.isub, 1) := by decide +kernel
theorem d12_21 : decode prog_36_method_9_code 21 = .ok (.iaload, 1) := by decide +kernel
theorem d12_22 : decode prog_36_method_9_code 22 = .ok (.bipush 6, 2) := by decide +kernel
theorem d12_24 : decode prog_36_method_9_code 24 = .ok (.ishl, 1) := by decide +kernel
theorem d12_25 : decode prog_36_method_9_code 25 = .ok (.bipush 63, 2) := by decide +kernel
theorem d12_27 : decode prog_36_method_9_code 27 = .ok (.aload_n 0, 1) := by decide +kernel
theorem d12_28 : decode prog_36_method_9_code 28 = .ok (.getfield 20, 3) := by decide +kernel
theorem d12_31 : decode prog_36_method_9_code 31 = .ok (.aload_n 0, 1) := by decide +kernel
theorem d12_32 : decode prog_36_method_9_code 32 = .ok (.getfield 23, 3) := by decide +kernel
theorem d12_35 : decode prog_36_method_9_code 35 = .ok (.iconst 1, 1) := by decide +kernel
theorem d12_36 : decode prog_36_method_9_code 36 = .ok (.isub, 1) := by decide +kernel
theorem d12_37 : decode prog_36_method_9_code 37 = .ok (.laload, 1) := by decide +kernel
theorem d12_38 : decode prog_36_method_9_code 38 = .ok (.invokestatic 65, 3) := by decide +kernel
theorem d12_41 : decode prog_36_method_9_code 41 = .ok (.isub, 1) := by decide +kernel
theorem d12_42 : decode prog_36_method_9_code 42 = .ok (.ior, 1) := by decide +kernel
theorem d12_43 : decode prog_36_method_9_code 43 = .ok (.ireturn, 1) := by decide +kernel
theorem d13_0 : decode jdk_35_method_48_code 0 = .ok (.lload_n 0, 1) := by decide +kernel
theorem d13_1 : decode jdk_35_method_48_code 1 = .ok (.bipush 32, 2) := by decide +kernel
theorem d13_3 : decode jdk_35_method_48_code 3 = .ok (.lushr, 1) := by decide +kernel
theorem d13_4 : decode jdk_35_method_48_code 4 = .ok (.l2i, 1) := by decide +kernel
theorem d13_5 : decode jdk_35_method_48_code 5 = .ok (.istore_n 2, 1) := by decide +kernel
theorem d13_6 : decode jdk_35_method_48_code 6 = .ok (.iload_n 2, 1) := by decide +kernel
theorem d13_7 : decode jdk_35_method_48_code 7 = .ok (.ifCond .ne 14, 3) := by decide +kernel
theorem d13_10 : decode jdk_35_method_48_code 10 = .ok (.bipush 32, 2) := by decide +kernel
theorem d13_12 : decode jdk_35_method_48_code 12 = .ok (.lload_n 0, 1) := by decide +kernel
theorem d13_13 : decode jdk_35_method_48_code 13 = .ok (.l2i, 1) := by decide +kernel
theorem d13_14 : decode jdk_35_method_48_code 14 = .ok (.invokestatic 308, 3) := by decide +kernel
theorem d13_17 : decode jdk_35_method_48_code 17 = .ok (.iadd, 1) := by decide +kernel
theorem d13_18 : decode jdk_35_method_48_code 18 = .ok (.goto 7, 3) := by decide +kernel
theorem d13_21 : decode jdk_35_method_48_code 21 = .ok (.iload_n 2, 1) := by decide +kernel
theorem d13_22 : decode jdk_35_method_48_code 22 = .ok (.invokestatic 308, 3) := by decide +kernel
theorem d13_25 : decode jdk_35_method_48_code 25 = .ok (.ireturn, 1) := by decide +kernel
theorem d14_0 : decode jdk_33_method_47_code 0 = .ok (.iload_n 0, 1) := by decide +kernel
theorem d14_1 : decode jdk_33_method_47_code 1 = .ok (.ifCond .gt 14, 3) := by decide +kernel
theorem d14_4 : decode jdk_33_method_47_code 4 = .ok (.iload_n 0, 1) := by decide +kernel
theorem d14_5 : decode jdk_33_method_47_code 5 = .ok (.ifCond .ne 8, 3) := by decide +kernel
theorem d14_8 : decode jdk_33_method_47_code 8 = .ok (.bipush 32, 2) := by decide +kernel
theorem d14_10 : decode jdk_33_method_47_code 10 = .ok (.goto 4, 3) := by decide +kernel
theorem d14_13 : decode jdk_33_method_47_code 13 = .ok (.iconst 0, 1) := by decide +kernel
theorem d14_14 : decode jdk_33_method_47_code 14 = .ok (.ireturn, 1) := by decide +kernel
theorem d14_15 : decode jdk_33_method_47_code 15 = .ok (.bipush 31, 2) := by decide +kernel
theorem d14_17 : decode jdk_33_method_47_code 17 = .ok (.istore_n 1, 1) := by decide +kernel
theorem d14_18 : decode jdk_33_method_47_code 18 = .ok (.iload_n 0, 1) := by decide +kernel
theorem d14_19 : decode jdk_33_method_47_code 19 = .ok (.ldc_w 264, 3) := by decide +kernel
theorem d14_22 : decode jdk_33_method_47_code 22 = .ok (.if_icmp .lt 11, 3) := by decide +kernel
theorem d14_25 : decode jdk_33_method_47_code 25 = .ok (.iinc 1 (-16), 3) := by decide +kernel
theorem d14_28 : decode jdk_33_method_47_code 28 = .ok (.iload_n 0, 1) := by decide +kernel
theorem d14_29 : decode jdk_33_method_47_code 29 = .ok (.bipush 16, 2) := by decide +kernel
theorem d14_31 : decode jdk_33_method_47_code 31 = .ok (.iushr, 1) := by decide +kernel
theorem d14_32 : decode jdk_33_method_47_code 32 = .ok (.istore_n 0, 1) := by decide +kernel
theorem d14_33 : decode jdk_33_method_47_code 33 = .ok (.iload_n 0, 1) := by decide +kernel
theorem d14_34 : decode jdk_33_method_47_code 34 = .ok (.sipush 256, 3) := by decide +kernel
theorem d14_37 : decode jdk_33_method_47_code 37 = .ok (.if_icmp .lt 11, 3) := by decide +kernel
theorem d14_40 : decode jdk_33_method_47_code 40 = .ok (.iinc 1 (-8), 3) := by decide +kernel
theorem d14_43 : decode jdk_33_method_47_code 43 = .ok (.iload_n 0, 1) := by decide +kernel
theorem d14_44 : decode jdk_33_method_47_code 44 = .ok (.bipush 8, 2) := by decide +kernel
theorem d14_46 : decode jdk_33_method_47_code 46 = .ok (.iushr, 1) := by decide +kernel
theorem d14_47 : decode jdk_33_method_47_code 47 = .ok (.istore_n 0, 1) := by decide +kernel
theorem d14_48 : decode jdk_33_method_47_code 48 = .ok (.iload_n 0, 1) := by decide +kernel
theorem d14_49 : decode jdk_33_method_47_code 49 = .ok (.bipush 16, 2) := by decide +kernel
theorem d14_51 : decode jdk_33_method_47_code 51 = .ok (.if_icmp .lt 10, 3) := by decide +kernel
theorem d14_54 : decode jdk_33_method_47_code 54 = .ok (.iinc 1 (-4), 3) := by decide +kernel
theorem d14_57 : decode jdk_33_method_47_code 57 = .ok (.iload_n 0, 1) := by decide +kernel
theorem d14_58 : decode jdk_33_method_47_code 58 = .ok (.iconst 4, 1) := by decide +kernel
theorem d14_59 : decode jdk_33_method_47_code 59 = .ok (.iushr, 1) := by decide +kernel
theorem d14_60 : decode jdk_33_method_47_code 60 = .ok (.istore_n 0, 1) := by decide +kernel
theorem d14_61 : decode jdk_33_method_47_code 61 = .ok (.iload_n 0, 1) := by decide +kernel
theorem d14_62 : decode jdk_33_method_47_code 62 = .ok (.iconst 4, 1) := by decide +kernel
theorem d14_63 : decode jdk_33_method_47_code 63 = .ok (.if_icmp .lt 10, 3) := by decide +kernel
theorem d14_66 : decode jdk_33_method_47_code 66 = .ok (.iinc 1 (-2), 3) := by decide +kernel
theorem d14_69 : decode jdk_33_method_47_code 69 = .ok (.iload_n 0, 1) := by decide +kernel
theorem d14_70 : decode jdk_33_method_47_code 70 = .ok (.iconst 2, 1) := by decide +kernel
theorem d14_71 : decode jdk_33_method_47_code 71 = .ok (.iushr, 1) := by decide +kernel
theorem d14_72 : decode jdk_33_method_47_code 72 = .ok (.istore_n 0, 1) := by decide +kernel
theorem d14_73 : decode jdk_33_method_47_code 73 = .ok (.iload_n 1, 1) := by decide +kernel
theorem d14_74 : decode jdk_33_method_47_code 74 = .ok (.iload_n 0, 1) := by decide +kernel
theorem d14_75 : decode jdk_33_method_47_code 75 = .ok (.iconst 1, 1) := by decide +kernel
theorem d14_76 : decode jdk_33_method_47_code 76 = .ok (.iushr, 1) := by decide +kernel
theorem d14_77 : decode jdk_33_method_47_code 77 = .ok (.isub, 1) := by decide +kernel
theorem d14_78 : decode jdk_33_method_47_code 78 = .ok (.ireturn, 1) := by decide +kernel
theorem d15_0 : decode prog_36_method_8_code 0 = .ok (.aload_n 0, 1) := by decide +kernel
theorem d15_1 : decode prog_36_method_8_code 1 = .ok (.getfield 13, 3) := by decide +kernel
theorem d15_4 : decode prog_36_method_8_code 4 = .ok (.iconst 0, 1) := by decide +kernel
theorem d15_5 : decode prog_36_method_8_code 5 = .ok (.aload_n 0, 1) := by decide +kernel
theorem d15_6 : decode prog_36_method_8_code 6 = .ok (.getfield 23, 3) := by decide +kernel
theorem d15_9 : decode prog_36_method_8_code 9 = .ok (.iload_n 1, 1) := by decide +kernel
theorem d15_10 : decode prog_36_method_8_code 10 = .ok (.bipush 6, 2) := by decide +kernel
theorem d15_12 : decode prog_36_method_8_code 12 = .ok (.iushr, 1) := by decide +kernel
theorem d15_13 : decode prog_36_method_8_code 13 = .ok (.invokestatic 43, 3) := by decide +kernel
theorem d15_16 : decode prog_36_method_8_code 16 = .ok (.istore_n 2, 1) := by decide +kernel
theorem d15_17 : decode prog_36_method_8_code 17 = .ok (.lconst 1, 1) := by decide +kernel
theorem d15_18 : decode prog_36_method_8_code 18 = .ok (.iload_n 1, 1) := by decide +kernel
theorem d15_19 : decode prog_36_method_8_code 19 = .ok (.lshl, 1) := by decide +kernel
theorem d15_20 : decode prog_36_method_8_code 20 = .ok (.lstore_n 3, 1) := by decide +kernel
theorem d15_21 : decode prog_36_method_8_code 21 = .ok (.iload_n 2, 1) := by decide +kernel
theorem d15_22 : decode prog_36_method_8_code 22 = .ok (.ifCond .lt 105, 3) := by decide +kernel
theorem d15_25 : decode prog_36_method_8_code 25 = .ok (.aload_n 0, 1) := by decide +kernel
theorem d15_26 : decode prog_36_method_8_code 26 = .ok (.getfield 20, 3) := by decide +kernel
theorem d15_29 : decode prog_36_method_8_code 29 = .ok (.iload_n 2, 1) := by decide +kernel
theorem d15_30 : decode prog_36_method_8_code 30 = .ok (.laload, 1) := by decide +kernel
theorem d15_31 : decode prog_36_method_8_code 31 = .ok (.lload_n 3, 1) := by decide +kernel
theorem d15_32 : decode prog_36_method_8_code 32 = .ok (.land, 1) := by decide +kernel
theorem d15_33 : decode prog_36_method_8_code 33 = .ok (.lconst 0, 1) := by decide +kernel
theorem d15_34 : decode prog_36_method_8_code 34 = .ok (.lcmp, 1) := by decide +kernel
theorem d15_35 : decode prog_36_method_8_code 35 = .ok (.ifCond .eq 92, 3) := by decide +kernel
theorem d15_38 : decode prog_36_method_8_code 38 = .ok (.aload_n 0, 1) := by decide +kernel
theorem d15_39 : decode prog_36_method_8_code 39 = .ok (.aload_n 0, 1) := by decide +kernel
theorem d15_40 : decode prog_36_method_8_code 40 = .ok (.getfield 23, 3) := by decide +kernel
theorem d15_43 : decode prog_36_method_8_code 43 = .ok (.invokevirtual 49, 3) := by decide +kernel
theorem d15_46 : decode prog_36_method_8_code 46 = .ok (.aload_n 0, 1) := by decide +kernel
theorem d15_47 : decode prog_36_method_8_code 47 = .ok (.getfield 20, 3) := by decide +kernel
theorem d15_50 : decode prog_36_method_8_code 50 = .ok (.iload_n 2, 1) := by decide +kernel
theorem d15_51 : decode prog_36_method_8_code 51 = .ok (.dup2, 1) := by decide +kernel
theorem d15_52 : decode prog_36_method_8_code 52 = .ok (.laload, 1) := by decide +kernel
theorem d15_53 : decode prog_36_method_8_code 53 = .ok (.lload_n 3, 1) := by decide +kernel
theorem d15_54 : decode prog_36_method_8_code 54 = .ok (.ldc2_w 63, 3) := by decide +kernel
theorem d15_57 : decode prog_36_method_8_code 57 = .ok (.lxor, 1) := by decide +kernel
theorem d15_58 : decode prog_36_method_8_code 58 = .ok (.land, 1) := by decide +kernel
theorem d15_59 : decode prog_36_method_8_code 59 = .ok (.lastore, 1) := by decide +kernel
theorem d15_60 : decode prog_36_method_8_code 60 = .ok (.aload_n 0, 1) := by decide +kernel
theorem d15_61 : decode prog_36_method_8_code 61 = .ok (.getfield 20, 3) := by decide +kernel
theorem d15_64 : decode prog_36_method_8_code 64 = .ok (.iload_n 2, 1) := by decide +kernel
theorem d15_65 : decode prog_36_method_8_code 65 = .ok (.laload, 1) := by decide +kernel
theorem d15_66 : decode prog_36_method_8_code 66 = .ok (.lconst 0, 1) := by decide +kernel
theorem d15_67 : decode prog_36_method_8_code 67 = .ok (.lcmp, 1) := by decide +kernel
theorem d15_68 : decode prog_36_method_8_code 68 = .ok (.ifCond .ne 59, 3) := by decide +kernel
theorem d15_71 : decode prog_36_method_8_code 71 = .ok (.aload_n 0, 1) := by decide +kernel
theorem d15_72 : decode prog_36_method_8_code 72 = .ok (.getfield 13, 3) := by decide +kernel
theorem d15_75 : decode prog_36_method_8_code 75 = .ok (.iload_n 2, 1) := by decide +kernel
theorem d15_76 : decode prog_36_method_8_code 76 = .ok (.iconst 1, 1) := by decide +kernel
theorem d15_77 : decode prog_36_method_8_code 77 = .ok (.iadd, 1) := by decide +kernel
theorem d15_78 : decode prog_36_method_8_code 78 = .ok (.aload_n 0, 1) := by decide +kernel
theorem d15_79 : decode prog_36_method_8_code 79 = .ok (.getfield 13, 3) := by decide +kernel
theorem d15_82 : decode prog_36_method_8_code 82 = .ok (.iload_n 2, 1) := by decide +kernel
theorem d15_83 : decode prog_36_method_8_code 83 = .ok (.aload_n 0, 1) := by decide +kernel
theorem d15_84 : decode prog_36_method_8_code 84 = .ok (.getfield 23, 3) := by decide +kernel
theorem d15_87 : decode prog_36_method_8_code 87 = .ok (.iload_n 2, 1) := by decide +kernel
theorem d15_88 : decode prog_36_method_8_code 88 = .ok (.isub, 1) := by decide +kernel
theorem d15_89 : decode prog_36_method_8_code 89 = .ok (.iconst 1, 1) := by decide +kernel
theorem d15_90 : decode prog_36_method_8_code 90 = .ok (.isub, 1) := by decide +kernel
theorem d15_91 : decode prog_36_method_8_code 91 = .ok (.invokestatic 53, 3) := by decide +kernel
theorem d15_94 : decode prog_36_method_8_code 94 = .ok (.aload_n 0, 1) := by decide +kernel
theorem d15_95 : decode prog_36_method_8_code 95 = .ok (.getfield 20, 3) := by decide +kernel
theorem d15_98 : decode prog_36_method_8_code 98 = .ok (.iload_n 2, 1) := by decide +kernel
theorem d15_99 : decode prog_36_method_8_code 99 = .ok (.iconst 1, 1) := by decide +kernel
theorem d15_100 : decode prog_36_method_8_code 100 = .ok (.iadd, 1) := by decide +kernel
theorem d15_101 : decode prog_36_method_8_code 101 = .ok (.aload_n 0, 1) := by decide +kernel
theorem d15_102 : decode prog_36_method_8_code 102 = .ok (.getfield 20, 3) := by decide +kernel
theorem d15_105 : decode prog_36_method_8_code 105 = .ok (.iload_n 2, 1) := by decide +kernel
theorem d15_106 : decode prog_36_method_8_code 106 = .ok (.aload_n 0, 1) := by decide +kernel
theorem d15_107 : decode prog_36_method_8_code 107 = .ok (.getfield 23, 3) := by decide +kernel
theorem d15_110 : decode prog_36_method_8_code 110 = .ok (.iload_n 2, 1) := by decide +kernel
theorem d15_111 : decode prog_36_method_8_code 111 = .ok (.isub, 1) := by decide +kernel
theorem d15_112 : decode prog_36_method_8_code 112 = .ok (.iconst 1, 1) := by decide +kernel
theorem d15_113 : decode prog_36_method_8_code 113 = .ok (.isub, 1) := by decide +kernel
theorem d15_114 : decode prog_36_method_8_code 114 = .ok (.invokestatic 53, 3) := by decide +kernel
theorem d15_117 : decode prog_36_method_8_code 117 = .ok (.aload_n 0, 1) := by decide +kernel
theorem d15_118 : decode prog_36_method_8_code 118 = .ok (.dup, 1) := by decide +kernel
theorem d15_119 : decode prog_36_method_8_code 119 = .ok (.getfield 23, 3) := by decide +kernel
theorem d15_122 : decode prog_36_method_8_code 122 = .ok (.iconst 1, 1) := by decide +kernel
theorem d15_123 : decode prog_36_method_8_code 123 = .ok (.isub, 1) := by decide +kernel
theorem d15_124 : decode prog_36_method_8_code 124 = .ok (.putfield 23, 3) := by decide +kernel
theorem d15_127 : decode prog_36_method_8_code 127 = .ok (.return_, 1) := by decide +kernel
theorem pn_0 : plainName "java/util/Arrays" = true := by first | (simp [plainName, overriddenIn]; done) | decide +kernel
theorem pn_1 : plainName "org/tallyrole/core/Dependencies" = true := by first | (simp [plainName, overriddenIn]; done) | decide +kernel
theorem pn_2 : plainName "java/lang/Integer" = true := by first | (simp [plainName, overriddenIn]; done) | decide +kernel
theorem pn_3 : plainName "java/lang/Long" = true := by first | (simp [plainName, overriddenIn]; done) | decide +kernel
theorem pn_4 : plainName "org/tallyrole/core/DependenciesLatestPinLaw" = true := by first | (simp [plainName, overriddenIn]; done) | decide +kernel
theorem pd_0 : parseMethodDescriptor "(III)V" = some ⟨[.int, .int, .int], none⟩ := by decide +kernel
theorem pd_1 : parseMethodDescriptor "([IIII)I" = some ⟨[(.array .int), .int, .int, .int], some .int⟩ := by decide +kernel
theorem pd_2 : parseMethodDescriptor "(II)I" = some ⟨[.int, .int], some .int⟩ := by decide +kernel
theorem pd_3 : parseMethodDescriptor "([II)[I" = some ⟨[(.array .int), .int], some (.array .int)⟩ := by decide +kernel
theorem pd_4 : parseMethodDescriptor "([JI)[J" = some ⟨[(.array .long), .int], some (.array .long)⟩ := by decide +kernel
theorem pd_5 : parseMethodDescriptor "(I)I" = some ⟨[.int], some .int⟩ := by decide +kernel
theorem pd_6 : parseMethodDescriptor "(J)I" = some ⟨[.long], some .int⟩ := by decide +kernel
theorem pd_7 : parseMethodDescriptor "(I)V" = some ⟨[.int], none⟩ := by decide +kernel
theorem pd_8 : parseMethodDescriptor "()V" = some ⟨[], none⟩ := by decide +kernel
theorem pd_9 : parseMethodDescriptor "()I" = some ⟨[], some .int⟩ := by decide +kernel
theorem ef_rc (m : MethodId) (x0 : Int32) (x1 : Int32) (x2 : Int32) : entryFrame m #[(.int x0), (.int x1), (.int x2)] 3 = mkF m 0 #[.val (.int x0), .val (.int x1), .val (.int x2)] [] := by first | (simp [entryFrame, mkF, argsToLocals, Value.category]; done) | rfl
def Q_rc (Z : State) (ll : Int32) (ff : Int32) (tt : Int32) (h0 : Heap) (n0 : Nat) (v : Option Value) (h : Heap) (L : List Loc) : Prop := v = none ∧ Fr n0 L ∧ h = h0
set_option maxRecDepth 65536 in
set_option maxHeartbeats 40000000 in
theorem rm_rc (l : Launch) (Z : State) (a0 : Array Value) (hw : ∀ d ∈ tables_1, d.before a0 Z = true) (ws : List Jvm.Cond) (ll : Int32) (ff : Int32) (tt : Int32) (h0 : Heap) (n0 : Nat) (Z0 : n0 ≤ h0.size) (h1 : ¬ (tt < ff)) (h2 : ¬ (ff < (0 : Int32))) (h3 : ¬ (ll < tt)) :
    MetFree l (⟨"java/util/Arrays", "rangeCheck", "(III)V"⟩ : MethodName) (head1 (Jvm.Cond.code (⟨"java/util/Arrays", "rangeCheck", "(III)V"⟩ : MethodName) jdk_65_method_30_code 3 none :: ws) ({ frames := 0, cells := 0, slots := 0, locals := 0 } : Room)) (fun as_ U_ => as_ = #[(.int ll), (.int ff), (.int tt)] ∧ Z.Warmed39 U_.vm ∧ U_.heap = h0) (fun _ _ _ _ _ => True) (fun _ U o U' => ∃ v L, o = .returned v ∧ Q_rc Z ll ff tt h0 n0 v U'.heap L ∧ FrameEnd U o U' L ({ frames := 0, cells := 0, slots := 0, locals := 0 } : Room).cells ({ frames := 0, cells := 0, slots := 0, locals := 0 } : Room).slots) := by
  refine MetFree.of_bodySF (plainFor_of_name pn_0) hisR ?_
  intro p e s m args below meth c s₁ Bd hml0 hP hK
  obtain ⟨rfl, hZ, hhp_⟩ := hP
  have hx := Bd.exec
  have hby := Bd.bytes
  have hml : c.maxLocals = 3 := hml0
  have hown : s.vm.findClass "java/util/Arrays" = some m.cls := findClass_of_methodNamed Bd.named
  have hnm := (name_of_methodNamed Bd.named Bd.method).1
  have X0 : Stand p l e ({ frames := 0, cells := 0, slots := 0, locals := 0 } : Room) s m #[(.int ll), (.int ff), (.int tt)] below meth c s₁ [] 0 0 := Stand.of_body Bd
  have e0 : s₁.heap = h0 := by rw [← hhp_, Bd.state]; rfl
  have N0 := Fr.nil n0
  have pre0 : ∀ t, Steps p.tables e below (s₁.setTop (mkF m 0 #[.val (.int ll), .val (.int ff), .val (.int tt)] [])) t → Steps p.tables e below (s₁.setTop (entryFrame m #[(.int ll), (.int ff), (.int tt)] 3)) t := fun t k => castTop (ef_rc m ll ff tt) k
  have pre1 := fun (t : State) (k : Steps p.tables e below (s₁.setTop (mkF m 73 #[.val (.int ll), .val (.int ff), .val (.int tt)] [])) t) => pre0 t (by
    refine XS.iloadN X0.here hx rfl (hb hby d5_0) rfl ?_
    refine XS.iloadN X0.here hx rfl (hb hby d5_1) rfl ?_
    refine XS.icmpYes X0.here hx rfl (pc0 := 2) (pc' := 46) rfl (hb hby d5_2) rfl (flt h1).2.2.2 (by decide) (by decide) ?_
    refine XS.iloadN X0.here hx rfl (hb hby d5_46) rfl ?_
    refine XS.ifYes X0.here hx rfl (pc0 := 47) (pc' := 59) rfl (hb hby d5_47) rfl ((if0 _ _).trans (flt h2).2.1) (by decide) (by decide) ?_
    refine XS.iloadN X0.here hx rfl (hb hby d5_59) rfl ?_
    refine XS.iloadN X0.here hx rfl (hb hby d5_60) rfl ?_
    refine XS.icmpYes X0.here hx rfl (pc0 := 61) (pc' := 73) rfl (hb hby d5_61) rfl (flt h3).2.2.2 (by decide) (by decide) ?_
    exact k)
  obtain ⟨fs, hr, hrun, hended, hW, hsame⟩ := X0.leave (v := none) (hlocks := BodyLoose.notSynchronized Bd) (fun _ => rfl)
  refine ⟨_, _, pre1 _ ?_, hrun, hended, _, _, rfl, ?_, ⟨_, rfl⟩, hW, hsame.mono (by decide) (by decide)⟩
  · exact X0.returnOut hx Bd.returns (hb hby d5_73) hr
  · show Q_rc Z ll ff tt h0 n0 _ s₁.heap _
    rw [e0]
    exact ⟨rfl, N0, rfl⟩

theorem ef_mi (m : MethodId) (x0 : Int32) (x1 : Int32) : entryFrame m #[(.int x0), (.int x1)] 2 = mkF m 0 #[.val (.int x0), .val (.int x1)] [] := by first | (simp [entryFrame, mkF, argsToLocals, Value.category]; done) | rfl
def Q_mi (Z : State) (xx : Int32) (yy : Int32) (r : Int32) (h0 : Heap) (n0 : Nat) (v : Option Value) (h : Heap) (L : List Loc) : Prop := v = some (.int r) ∧ Fr n0 L ∧ h = h0
set_option maxRecDepth 65536 in
set_option maxHeartbeats 40000000 in
theorem rm_mi (l : Launch) (Z : State) (a0 : Array Value) (hw : ∀ d ∈ tables_1, d.before a0 Z = true) (ws : List Jvm.Cond) (xx : Int32) (yy : Int32) (r : Int32) (h0 : Heap) (n0 : Nat) (Z0 : n0 ≤ h0.size) (hr0 : yy < xx → r = yy) (hr1 : ¬ yy < xx → r = xx) :
    MetFree l (⟨"java/lang/Math", "min", "(II)I"⟩ : MethodName) (head1 (Jvm.Cond.code (⟨"java/lang/Math", "min", "(II)I"⟩ : MethodName) jdk_29_method_69_code 2 (some .int) :: ws) ({ frames := 0, cells := 0, slots := 0, locals := 0 } : Room)) (fun as_ U_ => as_ = #[(.int xx), (.int yy)] ∧ Z.Warmed39 U_.vm ∧ U_.heap = h0) (fun _ _ _ _ _ => True) (fun _ U o U' => ∃ v L, o = .returned v ∧ Q_mi Z xx yy r h0 n0 v U'.heap L ∧ FrameEnd U o U' L ({ frames := 0, cells := 0, slots := 0, locals := 0 } : Room).cells ({ frames := 0, cells := 0, slots := 0, locals := 0 } : Room).slots) := by
  refine MetFree.of_bodySF (Jvm.Free.JP.mathPlain rfl (by decide +kernel)) hisR ?_
  intro p e s m args below meth c s₁ Bd hml0 hP hK
  obtain ⟨rfl, hZ, hhp_⟩ := hP
  have hx := Bd.exec
  have hby := Bd.bytes
  have hml : c.maxLocals = 2 := hml0
  have hown : s.vm.findClass "java/lang/Math" = some m.cls := findClass_of_methodNamed Bd.named
  have hnm := (name_of_methodNamed Bd.named Bd.method).1
  have X0 : Stand p l e ({ frames := 0, cells := 0, slots := 0, locals := 0 } : Room) s m #[(.int xx), (.int yy)] below meth c s₁ [] 0 0 := Stand.of_body Bd
  have e0 : s₁.heap = h0 := by rw [← hhp_, Bd.state]; rfl
  have N0 := Fr.nil n0
  have pre0 : ∀ t, Steps p.tables e below (s₁.setTop (mkF m 0 #[.val (.int xx), .val (.int yy)] [])) t → Steps p.tables e below (s₁.setTop (entryFrame m #[(.int xx), (.int yy)] 2)) t := fun t k => castTop (ef_mi m xx yy) k
  have pre1 := fun (t : State) (k : Steps p.tables e below (s₁.setTop (mkF m 2 #[.val (.int xx), .val (.int yy)] [(.int yy), (.int xx)])) t) => pre0 t (by
    refine XS.iloadN X0.here hx rfl (hb hby d9_0) rfl ?_
    refine XS.iloadN X0.here hx rfl (hb hby d9_1) rfl ?_
    exact k)
  by_cases hc2 : yy < xx
  · have pre3 := fun (t : State) (k : Steps p.tables e below (s₁.setTop (mkF m 10 #[.val (.int xx), .val (.int yy)] [(.int yy)])) t) => pre1 t (by
      refine XS.icmpYes X0.here hx rfl (pc0 := 2) (pc' := 9) rfl (hb hby d9_2) rfl (tlt hc2).2.2.1 (by decide) (by decide) ?_
      refine XS.iloadN X0.here hx rfl (hb hby d9_9) rfl ?_
      exact k)
    obtain ⟨fs, hr, hrun, hended, hW, hsame⟩ := X0.leave (v := some (.int yy)) (hlocks := BodyLoose.notSynchronized Bd) (fun h => by rw [Bd.returns] at h; cases h)
    refine ⟨_, _, pre3 _ ?_, hrun, hended, _, _, rfl, ?_, ⟨_, rfl⟩, hW, hsame.mono (by decide) (by decide)⟩
    · exact retI X0 hx Bd.returns (hb hby d9_10) hr
    · show Q_mi Z xx yy r h0 n0 _ s₁.heap _
      rw [e0]
      exact ⟨(by first | rw [hr0 (by assumption)] | rw [hr1 (by assumption)]), N0, rfl⟩
  · have pre4 := fun (t : State) (k : Steps p.tables e below (s₁.setTop (mkF m 10 #[.val (.int xx), .val (.int yy)] [(.int xx)])) t) => pre1 t (by
      refine XS.icmpNo X0.here hx rfl (hb hby d9_2) rfl (flt hc2).2.2.1 ?_
      refine XS.iloadN X0.here hx rfl (hb hby d9_5) rfl ?_
      refine XS.goto X0.here hx rfl (pc0 := 6) (pc' := 10) rfl (hb hby d9_6) (by decide) (by decide) ?_
      exact k)
    obtain ⟨fs, hr, hrun, hended, hW, hsame⟩ := X0.leave (v := some (.int xx)) (hlocks := BodyLoose.notSynchronized Bd) (fun h => by rw [Bd.returns] at h; cases h)
    refine ⟨_, _, pre4 _ ?_, hrun, hended, _, _, rfl, ?_, ⟨_, rfl⟩, hW, hsame.mono (by decide) (by decide)⟩
    · exact retI X0 hx Bd.returns (hb hby d9_10) hr
    · show Q_mi Z xx yy r h0 n0 _ s₁.heap _
      rw [e0]
      exact ⟨(by first | rw [hr0 (by assumption)] | rw [hr1 (by assumption)]), N0, rfl⟩

theorem ef_mx (m : MethodId) (x0 : Int32) (x1 : Int32) : entryFrame m #[(.int x0), (.int x1)] 2 = mkF m 0 #[.val (.int x0), .val (.int x1)] [] := by first | (simp [entryFrame, mkF, argsToLocals, Value.category]; done) | rfl
def Q_mx (Z : State) (xx : Int32) (yy : Int32) (h0 : Heap) (n0 : Nat) (v : Option Value) (h : Heap) (L : List Loc) : Prop := v = some (.int (own_mx xx yy)) ∧ Fr n0 L ∧ h = h0
set_option maxRecDepth 65536 in
set_option maxHeartbeats 40000000 in
theorem rm_mx (l : Launch) (Z : State) (a0 : Array Value) (hw : ∀ d ∈ tables_1, d.before a0 Z = true) (ws : List Jvm.Cond) (xx : Int32) (yy : Int32) (h0 : Heap) (n0 : Nat) (Z0 : n0 ≤ h0.size) :
    MetFree l (⟨"java/lang/Math", "max", "(II)I"⟩ : MethodName) (head1 (Jvm.Cond.code (⟨"java/lang/Math", "max", "(II)I"⟩ : MethodName) jdk_29_method_65_code 2 (some .int) :: ws) ({ frames := 0, cells := 0, slots := 0, locals := 0 } : Room)) (fun as_ U_ => as_ = #[(.int xx), (.int yy)] ∧ Z.Warmed39 U_.vm ∧ U_.heap = h0) (fun _ _ _ _ _ => True) (fun _ U o U' => ∃ v L, o = .returned v ∧ Q_mx Z xx yy h0 n0 v U'.heap L ∧ FrameEnd U o U' L ({ frames := 0, cells := 0, slots := 0, locals := 0 } : Room).cells ({ frames := 0, cells := 0, slots := 0, locals := 0 } : Room).slots) := by
  refine MetFree.of_bodySF (Jvm.Free.JP.mathPlain rfl (by decide +kernel)) hisR ?_
  intro p e s m args below meth c s₁ Bd hml0 hP hK
  obtain ⟨rfl, hZ, hhp_⟩ := hP
  have hx := Bd.exec
  have hby := Bd.bytes
  have hml : c.maxLocals = 2 := hml0
  have hown : s.vm.findClass "java/lang/Math" = some m.cls := findClass_of_methodNamed Bd.named
  have hnm := (name_of_methodNamed Bd.named Bd.method).1
  have X0 : Stand p l e ({ frames := 0, cells := 0, slots := 0, locals := 0 } : Room) s m #[(.int xx), (.int yy)] below meth c s₁ [] 0 0 := Stand.of_body Bd
  have e0 : s₁.heap = h0 := by rw [← hhp_, Bd.state]; rfl
  have N0 := Fr.nil n0
  have pre0 : ∀ t, Steps p.tables e below (s₁.setTop (mkF m 0 #[.val (.int xx), .val (.int yy)] [])) t → Steps p.tables e below (s₁.setTop (entryFrame m #[(.int xx), (.int yy)] 2)) t := fun t k => castTop (ef_mx m xx yy) k
  have pre1 := fun (t : State) (k : Steps p.tables e below (s₁.setTop (mkF m 2 #[.val (.int xx), .val (.int yy)] [(.int yy), (.int xx)])) t) => pre0 t (by
    refine XS.iloadN X0.here hx rfl (hb hby d11_0) rfl ?_
    refine XS.iloadN X0.here hx rfl (hb hby d11_1) rfl ?_
    exact k)
  by_cases hc2 : xx < yy
  · have pre3 := fun (t : State) (k : Steps p.tables e below (s₁.setTop (mkF m 10 #[.val (.int xx), .val (.int yy)] [(.int yy)])) t) => pre1 t (by
      refine XS.icmpYes X0.here hx rfl (pc0 := 2) (pc' := 9) rfl (hb hby d11_2) rfl (tlt hc2).1 (by decide) (by decide) ?_
      refine XS.iloadN X0.here hx rfl (hb hby d11_9) rfl ?_
      exact k)
    obtain ⟨fs, hr, hrun, hended, hW, hsame⟩ := X0.leave (v := some (.int yy)) (hlocks := BodyLoose.notSynchronized Bd) (fun h => by rw [Bd.returns] at h; cases h)
    refine ⟨_, _, pre3 _ ?_, hrun, hended, _, _, rfl, ?_, ⟨_, rfl⟩, hW, hsame.mono (by decide) (by decide)⟩
    · exact retI X0 hx Bd.returns (hb hby d11_10) hr
    · show Q_mx Z xx yy h0 n0 _ s₁.heap _
      rw [e0]
      exact ⟨(by simp only [own_mx]; first | rw [if_pos (by assumption)] | rw [if_neg (by assumption)]), N0, rfl⟩
  · have pre4 := fun (t : State) (k : Steps p.tables e below (s₁.setTop (mkF m 10 #[.val (.int xx), .val (.int yy)] [(.int xx)])) t) => pre1 t (by
      refine XS.icmpNo X0.here hx rfl (hb hby d11_2) rfl (flt hc2).1 ?_
      refine XS.iloadN X0.here hx rfl (hb hby d11_5) rfl ?_
      refine XS.goto X0.here hx rfl (pc0 := 6) (pc' := 10) rfl (hb hby d11_6) (by decide) (by decide) ?_
      exact k)
    obtain ⟨fs, hr, hrun, hended, hW, hsame⟩ := X0.leave (v := some (.int xx)) (hlocks := BodyLoose.notSynchronized Bd) (fun h => by rw [Bd.returns] at h; cases h)
    refine ⟨_, _, pre4 _ ?_, hrun, hended, _, _, rfl, ?_, ⟨_, rfl⟩, hW, hsame.mono (by decide) (by decide)⟩
    · exact retI X0 hx Bd.returns (hb hby d11_10) hr
    · show Q_mx Z xx yy h0 n0 _ s₁.heap _
      rw [e0]
      exact ⟨(by simp only [own_mx]; first | rw [if_pos (by assumption)] | rw [if_neg (by assumption)]), N0, rfl⟩

theorem ef_bz0_0 (m : MethodId) (x0 : Addr) (x1 : Int32) (x2 : Int32) (x3 : Int32) : entryFrame m #[(.ref x0), (.int x1), (.int x2), (.int x3)] 8 = mkF m 0 #[.val (.ref x0), .val (.int x1), .val (.int x2), .val (.int x3), .unset, .unset, .unset, .unset] [] := by first | (simp [entryFrame, mkF, argsToLocals, Value.category]; done) | rfl
def Q_bz0_0 (Z : State) (oo : Addr) (ko : ClassId) (ky : Int32) (h0 : Heap) (n0 : Nat) (v : Option Value) (h : Heap) (L : List Loc) : Prop := ∃ r : Int32, v = some (.int r) ∧ Fr n0 L ∧ h = h0 ∧ (r = (-1 : Int32))
set_option maxRecDepth 65536 in
set_option maxHeartbeats 40000000 in
theorem rm_bz0_0 (l : Launch) (Z : State) (a0 : Array Value) (hw : ∀ d ∈ tables_1, d.before a0 Z = true) (ws : List Jvm.Cond) (oo : Addr) (ko : ClassId) (ky : Int32) (h0 : Heap) (n0 : Nat) (Z0 : n0 ≤ h0.size) (H0_A : Arv Z h0 oo ko .int (0 : Int32) [] (.int (0 : Int32))) :
    MetFree l (⟨"java/util/Arrays", "binarySearch0", "([IIII)I"⟩ : MethodName) (head1 (Jvm.Cond.code (⟨"java/util/Arrays", "binarySearch0", "([IIII)I"⟩ : MethodName) jdk_65_method_59_code 8 (some .int) :: ws) ({ frames := 0, cells := 0, slots := 0, locals := 0 } : Room)) (fun as_ U_ => as_ = #[(.ref oo), (.int (0 : Int32)), (.int (0 : Int32)), (.int ky)] ∧ Z.Warmed39 U_.vm ∧ U_.heap = h0) (fun _ _ _ _ _ => True) (fun _ U o U' => ∃ v L, o = .returned v ∧ Q_bz0_0 Z oo ko ky h0 n0 v U'.heap L ∧ FrameEnd U o U' L ({ frames := 0, cells := 0, slots := 0, locals := 0 } : Room).cells ({ frames := 0, cells := 0, slots := 0, locals := 0 } : Room).slots) := by
  refine MetFree.of_bodySF (plainFor_of_name pn_0) hisR ?_
  intro p e s m args below meth c s₁ Bd hml0 hP hK
  obtain ⟨rfl, hZ, hhp_⟩ := hP
  have hx := Bd.exec
  have hby := Bd.bytes
  have hml : c.maxLocals = 8 := hml0
  have hown : s.vm.findClass "java/util/Arrays" = some m.cls := findClass_of_methodNamed Bd.named
  have hnm := (name_of_methodNamed Bd.named Bd.method).1
  have X0 : Stand p l e ({ frames := 0, cells := 0, slots := 0, locals := 0 } : Room) s m #[(.ref oo), (.int (0 : Int32)), (.int (0 : Int32)), (.int ky)] below meth c s₁ [] 0 0 := Stand.of_body Bd
  have e0 : s₁.heap = h0 := by rw [← hhp_, Bd.state]; rfl
  have N0 := Fr.nil n0
  have pre0 : ∀ t, Steps p.tables e below (s₁.setTop (mkF m 0 #[.val (.ref oo), .val (.int (0 : Int32)), .val (.int (0 : Int32)), .val (.int ky), .unset, .unset, .unset, .unset] [])) t → Steps p.tables e below (s₁.setTop (entryFrame m #[(.ref oo), (.int (0 : Int32)), (.int (0 : Int32)), (.int ky)] 8)) t := fun t k => castTop (ef_bz0_0 m oo (0 : Int32) (0 : Int32) ky) k
  have pre1 := fun (t : State) (k : Steps p.tables e below (s₁.setTop (mkF m 71 #[.val (.ref oo), .val (.int (0 : Int32)), .val (.int (0 : Int32)), .val (.int ky), .val (.int (0 : Int32)), .val (.int (-1 : Int32)), .unset, .unset] [(.int (-1 : Int32))])) t) => pre0 t (by
    refine XS.iloadN X0.here hx rfl (hb hby d6_0) rfl ?_
    refine XS.istore X0.here hx rfl (hb hby d6_1) rfl (l' := #[.val (.ref oo), .val (.int (0 : Int32)), .val (.int (0 : Int32)), .val (.int ky), .val (.int (0 : Int32)), .unset, .unset, .unset]) rfl ?_
    refine XS.iloadN X0.here hx rfl (hb hby d6_3) rfl ?_
    refine XS.iconst X0.here hx rfl (hb hby d6_4) ?_
    refine XS.isub X0.here hx rfl (hb hby d6_5) rfl ?_
    refine XS.istore X0.here hx rfl (hb hby d6_6) rfl (l' := #[.val (.ref oo), .val (.int (0 : Int32)), .val (.int (0 : Int32)), .val (.int ky), .val (.int (0 : Int32)), .val (.int (-1 : Int32)), .unset, .unset]) rfl ?_
    refine XS.iload X0.here hx rfl (hb hby d6_8) rfl ?_
    refine XS.iload X0.here hx rfl (hb hby d6_10) rfl ?_
    refine XS.icmpYes X0.here hx rfl (pc0 := 12) (pc' := 66) rfl (hb hby d6_12) rfl (tlt (by decide : (-1 : Int32) < (0 : Int32))).2.2.1 (by decide) (by decide) ?_
    refine XS.iload X0.here hx rfl (hb hby d6_66) rfl ?_
    refine XS.iconst X0.here hx rfl (hb hby d6_68) ?_
    refine XS.iadd X0.here hx rfl (hb hby d6_69) rfl ?_
    refine XS.ineg X0.here hx rfl (hb hby d6_70) rfl ?_
    exact k)
  obtain ⟨fs, hr, hrun, hended, hW, hsame⟩ := X0.leave (v := some (.int (-1 : Int32))) (hlocks := BodyLoose.notSynchronized Bd) (fun h => by rw [Bd.returns] at h; cases h)
  refine ⟨_, _, pre1 _ ?_, hrun, hended, _, _, rfl, ?_, ⟨_, rfl⟩, hW, hsame.mono (by decide) (by decide)⟩
  · exact retI X0 hx Bd.returns (hb hby d6_71) hr
  · show Q_bz0_0 Z oo ko ky h0 n0 _ s₁.heap _
    rw [e0]
    exact ⟨(-1 : Int32), rfl, N0, rfl, rfl⟩

theorem ef_bs0_0 (m : MethodId) (x0 : Addr) (x1 : Int32) (x2 : Int32) (x3 : Int32) : entryFrame m #[(.ref x0), (.int x1), (.int x2), (.int x3)] 4 = mkF m 0 #[.val (.ref x0), .val (.int x1), .val (.int x2), .val (.int x3)] [] := by first | (simp [entryFrame, mkF, argsToLocals, Value.category]; done) | rfl
def Q_bs0_0 (Z : State) (oo : Addr) (ko : ClassId) (ky : Int32) (h0 : Heap) (n0 : Nat) (v : Option Value) (h : Heap) (L : List Loc) : Prop := ∃ r : Int32, v = some (.int r) ∧ Fr n0 L ∧ h = h0 ∧ (r = (-1 : Int32))
set_option maxRecDepth 65536 in
set_option maxHeartbeats 40000000 in
theorem rm_bs0_0 (l : Launch) (Z : State) (a0 : Array Value) (hw : ∀ d ∈ tables_1, d.before a0 Z = true) (ws : List Jvm.Cond) (oo : Addr) (ko : ClassId) (ky : Int32) (h0 : Heap) (n0 : Nat) (Z0 : n0 ≤ h0.size) (H0_A : Arv Z h0 oo ko .int (0 : Int32) [] (.int (0 : Int32))) :
    MetFree l (⟨"java/util/Arrays", "binarySearch", "([IIII)I"⟩ : MethodName) (head1 (Jvm.Cond.code (⟨"java/util/Arrays", "binarySearch", "([IIII)I"⟩ : MethodName) jdk_65_method_58_code 4 (some .int) :: ws) ({ frames := 1, cells := 0, slots := 0, locals := 19 } : Room)) (fun as_ U_ => as_ = #[(.ref oo), (.int (0 : Int32)), (.int (0 : Int32)), (.int ky)] ∧ Z.Warmed39 U_.vm ∧ U_.heap = h0) (fun _ _ _ _ _ => True) (fun _ U o U' => ∃ v L, o = .returned v ∧ Q_bs0_0 Z oo ko ky h0 n0 v U'.heap L ∧ FrameEnd U o U' L ({ frames := 1, cells := 0, slots := 0, locals := 19 } : Room).cells ({ frames := 1, cells := 0, slots := 0, locals := 19 } : Room).slots) := by
  refine MetFree.of_bodySF (plainFor_of_name pn_0) hisR ?_
  intro p e s m args below meth c s₁ Bd hml0 hP hK
  obtain ⟨rfl, hZ, hhp_⟩ := hP
  have hx := Bd.exec
  have hby := Bd.bytes
  have hml : c.maxLocals = 4 := hml0
  have hown : s.vm.findClass "java/util/Arrays" = some m.cls := findClass_of_methodNamed Bd.named
  have hnm := (name_of_methodNamed Bd.named Bd.method).1
  have X0 : Stand p l e ({ frames := 1, cells := 0, slots := 0, locals := 19 } : Room) s m #[(.ref oo), (.int (0 : Int32)), (.int (0 : Int32)), (.int ky)] below meth c s₁ [] 0 0 := Stand.of_body Bd
  have e0 : s₁.heap = h0 := by rw [← hhp_, Bd.state]; rfl
  have N0 := Fr.nil n0
  have pre0 : ∀ t, Steps p.tables e below (s₁.setTop (mkF m 0 #[.val (.ref oo), .val (.int (0 : Int32)), .val (.int (0 : Int32)), .val (.int ky)] [])) t → Steps p.tables e below (s₁.setTop (entryFrame m #[(.ref oo), (.int (0 : Int32)), (.int (0 : Int32)), (.int ky)] 4)) t := fun t k => castTop (ef_bs0_0 m oo (0 : Int32) (0 : Int32) ky) k
  have oc1 := H0_A
  obtain ⟨c1, Arc1, qc1, Sc1, Nc1, Hc1, Gc1⟩ := oc1
  obtain ⟨_, _, ⟨T2, L2, k2, n2⟩, -, X2, ⟨Lc2, hQ2, l2, y2, z2⟩, st2⟩ := Jvm.LawKit.callS X0 hx (y := (⟨"java/util/Arrays", "rangeCheck", "(III)V"⟩ : MethodName)) hown (mvT hZ (own_w hw 29 rfl)) (mvT hZ (own_w hw 30 rfl)) (mvT hZ (own_w hw 27 rfl)) (mvT hZ (own_w hw 31 rfl)) (by decide) (backOf (W := 0) (rm_rc l Z a0 hw [] (0 : Int32) (0 : Int32) (0 : Int32) h0 n0 Z0 (by decide) (by decide) (by decide)) hZ (own_w hw 31 rfl) (own_w hw 27 rfl) (by decide) (by decide)) (g := (mkF m 4 #[.val (.ref oo), .val (.int (0 : Int32)), .val (.int (0 : Int32)), .val (.int ky)] [(.int (0 : Int32)), (.int (0 : Int32)), (.int (0 : Int32))])) rfl (by rw [hml]; rfl) (argsL := [(.int (0 : Int32)), (.int (0 : Int32)), (.int (0 : Int32))]) (rest := []) (lenOf pd_0 rfl) rfl (by show 2 * 0 + _ ≤ _; exact Nat.le_of_eq rfl) (hb hby d4_4) (fun _ _ => ⟨rfl, e0, (by decide : 0 + 0 ≤ _), (by decide : 0 + 0 ≤ _)⟩)
  dsimp only [Pt.U, Pt.locs, Pt.cells, Pt.slots] at X2 l2 y2 z2 st2 hQ2
  subst l2 y2 z2
  obtain ⟨rfl, N2q, hq3⟩ := hQ2
  have N2 := Fr.app N0 N2q
  obtain ⟨_, _, ⟨T4, L4, k4, n4⟩, -, X4, ⟨Lc4, hQ4, l4, y4, z4⟩, st4⟩ := Jvm.LawKit.callS X2 hx (y := (⟨"java/util/Arrays", "binarySearch0", "([IIII)I"⟩ : MethodName)) hown (mvT hZ (own_w hw 32 rfl)) (mvT hZ (own_w hw 33 rfl)) (mvT hZ (own_w hw 27 rfl)) (mvT hZ (own_w hw 34 rfl)) (by decide) (backOf (W := 0) (rm_bz0_0 l Z a0 hw [] oo ko ky h0 n0 Z0 H0_A) hZ (own_w hw 34 rfl) (own_w hw 27 rfl) (by decide) (by decide)) (g := (mkF m 11 #[.val (.ref oo), .val (.int (0 : Int32)), .val (.int (0 : Int32)), .val (.int ky)] [(.int ky), (.int (0 : Int32)), (.int (0 : Int32)), (.ref oo)])) rfl (by rw [hml]; rfl) (argsL := [(.ref oo), (.int (0 : Int32)), (.int (0 : Int32)), (.int ky)]) (rest := []) (lenOf pd_1 rfl) rfl (by show 2 * 0 + _ ≤ _; exact Nat.le_of_eq rfl) (hb hby d4_11) (fun _ _ => ⟨rfl, hq3, (by decide : 0 + 0 ≤ _), (by decide : 0 + 0 ≤ _)⟩)
  dsimp only [Pt.U, Pt.locs, Pt.cells, Pt.slots] at X4 l4 y4 z4 st4 hQ4
  subst l4 y4 z4
  obtain ⟨x5, rfl, N4q, hq6, hpq7⟩ := hQ4
  have N4 := Fr.app N2 N4q
  have pre8 := fun (t : State) (k : Steps p.tables e below (T4.setTop (mkF m 14 #[.val (.ref oo), .val (.int (0 : Int32)), .val (.int (0 : Int32)), .val (.int ky)] [(.int x5)])) t) => pre0 t (by
    refine XS.aloadN X0.here hx rfl (hb hby d4_0) rfl rfl ?_
    refine X0.arraylength hx (by rw [e0]; exact Arc1.1) (State.isArrayOf_alike hZ.alike Arc1.2.1) (g := (mkF m 1 #[.val (.ref oo), .val (.int (0 : Int32)), .val (.int (0 : Int32)), .val (.int ky)] [(.ref oo)])) rfl rfl (hb hby d4_1) _ ?_
    rw [show c1.slots.size.toInt32 = (0 : Int32) from (len_of Sc1 Nc1)]
    refine XS.iloadN X0.here hx rfl (hb hby d4_2) rfl ?_
    refine XS.iloadN X0.here hx rfl (hb hby d4_3) rfl ?_
    refine st2 _ ?_
    refine XS.aloadN X2.here hx rfl (hb hby d4_7) rfl rfl ?_
    refine XS.iloadN X2.here hx rfl (hb hby d4_8) rfl ?_
    refine XS.iloadN X2.here hx rfl (hb hby d4_9) rfl ?_
    refine XS.iloadN X2.here hx rfl (hb hby d4_10) rfl ?_
    refine st4 _ ?_
    exact k)
  obtain ⟨fs, hr, hrun, hended, hW, hsame⟩ := X4.leave (v := some (.int x5)) (hlocks := BodyLoose.notSynchronized Bd) (fun h => by rw [Bd.returns] at h; cases h)
  refine ⟨_, _, pre8 _ ?_, hrun, hended, _, _, rfl, ?_, ⟨_, rfl⟩, hW, hsame.mono (by decide) (by decide)⟩
  · exact retI X4 hx Bd.returns (hb hby d4_14) hr
  · show Q_bs0_0 Z oo ko ky h0 n0 _ T4.heap _
    rw [hq6]
    exact ⟨x5, rfl, N4, rfl, hpq7⟩

theorem ef_bz1_1 (m : MethodId) (x0 : Addr) (x1 : Int32) (x2 : Int32) (x3 : Int32) : entryFrame m #[(.ref x0), (.int x1), (.int x2), (.int x3)] 8 = mkF m 0 #[.val (.ref x0), .val (.int x1), .val (.int x2), .val (.int x3), .unset, .unset, .unset, .unset] [] := by first | (simp [entryFrame, mkF, argsToLocals, Value.category]; done) | rfl
def Q_bz1_1 (Z : State) (oo : Addr) (ko : ClassId) (k0 : Int32) (ky : Int32) (h0 : Heap) (n0 : Nat) (v : Option Value) (h : Heap) (L : List Loc) : Prop := ∃ r : Int32, v = some (.int r) ∧ Fr n0 L ∧ h = h0 ∧ ((r = (-2 : Int32) ∧ k0 < ky) ∨ (r = (-1 : Int32) ∧ ¬ (k0 < ky) ∧ ky < k0) ∨ (r = (0 : Int32) ∧ ¬ (k0 < ky) ∧ ¬ (ky < k0)))
set_option maxRecDepth 65536 in
set_option maxHeartbeats 40000000 in
theorem rm_bz1_1 (l : Launch) (Z : State) (a0 : Array Value) (hw : ∀ d ∈ tables_1, d.before a0 Z = true) (ws : List Jvm.Cond) (oo : Addr) (ko : ClassId) (k0 : Int32) (ky : Int32) (h0 : Heap) (n0 : Nat) (Z0 : n0 ≤ h0.size) (H0_A : Arv Z h0 oo ko .int (1 : Int32) [(.int k0)] (.int (0 : Int32))) :
    MetFree l (⟨"java/util/Arrays", "binarySearch0", "([IIII)I"⟩ : MethodName) (head1 (Jvm.Cond.code (⟨"java/util/Arrays", "binarySearch0", "([IIII)I"⟩ : MethodName) jdk_65_method_59_code 8 (some .int) :: ws) ({ frames := 0, cells := 0, slots := 0, locals := 0 } : Room)) (fun as_ U_ => as_ = #[(.ref oo), (.int (0 : Int32)), (.int (1 : Int32)), (.int ky)] ∧ Z.Warmed39 U_.vm ∧ U_.heap = h0) (fun _ _ _ _ _ => True) (fun _ U o U' => ∃ v L, o = .returned v ∧ Q_bz1_1 Z oo ko k0 ky h0 n0 v U'.heap L ∧ FrameEnd U o U' L ({ frames := 0, cells := 0, slots := 0, locals := 0 } : Room).cells ({ frames := 0, cells := 0, slots := 0, locals := 0 } : Room).slots) := by
  refine MetFree.of_bodySF (plainFor_of_name pn_0) hisR ?_
  intro p e s m args below meth c s₁ Bd hml0 hP hK
  obtain ⟨rfl, hZ, hhp_⟩ := hP
  have hx := Bd.exec
  have hby := Bd.bytes
  have hml : c.maxLocals = 8 := hml0
  have hown : s.vm.findClass "java/util/Arrays" = some m.cls := findClass_of_methodNamed Bd.named
  have hnm := (name_of_methodNamed Bd.named Bd.method).1
  have X0 : Stand p l e ({ frames := 0, cells := 0, slots := 0, locals := 0 } : Room) s m #[(.ref oo), (.int (0 : Int32)), (.int (1 : Int32)), (.int ky)] below meth c s₁ [] 0 0 := Stand.of_body Bd
  have e0 : s₁.heap = h0 := by rw [← hhp_, Bd.state]; rfl
  have N0 := Fr.nil n0
  have pre0 : ∀ t, Steps p.tables e below (s₁.setTop (mkF m 0 #[.val (.ref oo), .val (.int (0 : Int32)), .val (.int (1 : Int32)), .val (.int ky), .unset, .unset, .unset, .unset] [])) t → Steps p.tables e below (s₁.setTop (entryFrame m #[(.ref oo), (.int (0 : Int32)), (.int (1 : Int32)), (.int ky)] 8)) t := fun t k => castTop (ef_bz1_1 m oo (0 : Int32) (1 : Int32) ky) k
  have oc1 := H0_A
  obtain ⟨c1, Arc1, qc1, Sc1, Nc1, Hc1, Gc1⟩ := oc1
  have hin2 : ¬ ((0 : Int32) < 0 ∨ c1.slots.size ≤ ((0 : Int32)).toNatClampNeg) := (inb_of Sc1 ⟨by decide, by decide⟩)
  have pre3 := fun (t : State) (k : Steps p.tables e below (s₁.setTop (mkF m 33 #[.val (.ref oo), .val (.int (0 : Int32)), .val (.int (1 : Int32)), .val (.int ky), .val (.int (0 : Int32)), .val (.int (0 : Int32)), .val (.int (0 : Int32)), .val (.int k0)] [(.int ky), (.int k0)])) t) => pre0 t (by
    refine XS.iloadN X0.here hx rfl (hb hby d6_0) rfl ?_
    refine XS.istore X0.here hx rfl (hb hby d6_1) rfl (l' := #[.val (.ref oo), .val (.int (0 : Int32)), .val (.int (1 : Int32)), .val (.int ky), .val (.int (0 : Int32)), .unset, .unset, .unset]) rfl ?_
    refine XS.iloadN X0.here hx rfl (hb hby d6_3) rfl ?_
    refine XS.iconst X0.here hx rfl (hb hby d6_4) ?_
    refine XS.isub X0.here hx rfl (hb hby d6_5) rfl ?_
    refine XS.istore X0.here hx rfl (hb hby d6_6) rfl (l' := #[.val (.ref oo), .val (.int (0 : Int32)), .val (.int (1 : Int32)), .val (.int ky), .val (.int (0 : Int32)), .val (.int (0 : Int32)), .unset, .unset]) rfl ?_
    refine XS.iload X0.here hx rfl (hb hby d6_8) rfl ?_
    refine XS.iload X0.here hx rfl (hb hby d6_10) rfl ?_
    refine XS.icmpNo X0.here hx rfl (hb hby d6_12) rfl (flt (by decide : ¬ ((0 : Int32) < (0 : Int32)))).2.2.1 ?_
    refine XS.iload X0.here hx rfl (hb hby d6_15) rfl ?_
    refine XS.iload X0.here hx rfl (hb hby d6_17) rfl ?_
    refine XS.iadd X0.here hx rfl (hb hby d6_19) rfl ?_
    refine XS.iconst X0.here hx rfl (hb hby d6_20) ?_
    refine XS.iushr X0.here hx rfl (hb hby d6_21) rfl ?_
    refine XS.istore X0.here hx rfl (hb hby d6_22) rfl (l' := #[.val (.ref oo), .val (.int (0 : Int32)), .val (.int (1 : Int32)), .val (.int ky), .val (.int (0 : Int32)), .val (.int (0 : Int32)), .val (.int (0 : Int32)), .unset]) rfl ?_
    refine XS.aloadN X0.here hx rfl (hb hby d6_24) rfl rfl ?_
    refine XS.iload X0.here hx rfl (hb hby d6_25) rfl ?_
    refine X0.iaload hx (j := (0 : Int32)) (v := (.int k0)) (by rw [e0]; exact Arc1.1) (State.isArrayOf_alike hZ.alike Arc1.2.1) Arc1.2.2 hin2 (Has.at Hc1 hin2 rfl) (g := (mkF m 27 #[.val (.ref oo), .val (.int (0 : Int32)), .val (.int (1 : Int32)), .val (.int ky), .val (.int (0 : Int32)), .val (.int (0 : Int32)), .val (.int (0 : Int32)), .unset] [(.int (0 : Int32)), (.ref oo)])) rfl rfl (hb hby d6_27) _ ?_
    refine XS.istore X0.here hx rfl (hb hby d6_28) rfl (l' := #[.val (.ref oo), .val (.int (0 : Int32)), .val (.int (1 : Int32)), .val (.int ky), .val (.int (0 : Int32)), .val (.int (0 : Int32)), .val (.int (0 : Int32)), .val (.int k0)]) rfl ?_
    refine XS.iload X0.here hx rfl (hb hby d6_30) rfl ?_
    refine XS.iloadN X0.here hx rfl (hb hby d6_32) rfl ?_
    exact k)
  by_cases hc4 : k0 < ky
  · have pre5 := fun (t : State) (k : Steps p.tables e below (s₁.setTop (mkF m 71 #[.val (.ref oo), .val (.int (0 : Int32)), .val (.int (1 : Int32)), .val (.int ky), .val (.int (1 : Int32)), .val (.int (0 : Int32)), .val (.int (0 : Int32)), .val (.int k0)] [(.int (-2 : Int32))])) t) => pre3 t (by
      refine XS.icmpNo X0.here hx rfl (hb hby d6_33) rfl (tlt hc4).2.1 ?_
      refine XS.iload X0.here hx rfl (hb hby d6_36) rfl ?_
      refine XS.iconst X0.here hx rfl (hb hby d6_38) ?_
      refine XS.iadd X0.here hx rfl (hb hby d6_39) rfl ?_
      refine XS.istore X0.here hx rfl (hb hby d6_40) rfl (l' := #[.val (.ref oo), .val (.int (0 : Int32)), .val (.int (1 : Int32)), .val (.int ky), .val (.int (1 : Int32)), .val (.int (0 : Int32)), .val (.int (0 : Int32)), .val (.int k0)]) rfl ?_
      refine XS.goto X0.here hx rfl (pc0 := 42) (pc' := 63) rfl (hb hby d6_42) (by decide) (by decide) ?_
      refine XS.goto X0.here hx rfl (pc0 := 63) (pc' := 8) rfl (hb hby d6_63) (by decide) (by decide) ?_
      refine XS.iload X0.here hx rfl (hb hby d6_8) rfl ?_
      refine XS.iload X0.here hx rfl (hb hby d6_10) rfl ?_
      refine XS.icmpYes X0.here hx rfl (pc0 := 12) (pc' := 66) rfl (hb hby d6_12) rfl (tlt (by decide : (0 : Int32) < (1 : Int32))).2.2.1 (by decide) (by decide) ?_
      refine XS.iload X0.here hx rfl (hb hby d6_66) rfl ?_
      refine XS.iconst X0.here hx rfl (hb hby d6_68) ?_
      refine XS.iadd X0.here hx rfl (hb hby d6_69) rfl ?_
      refine XS.ineg X0.here hx rfl (hb hby d6_70) rfl ?_
      exact k)
    obtain ⟨fs, hr, hrun, hended, hW, hsame⟩ := X0.leave (v := some (.int (-2 : Int32))) (hlocks := BodyLoose.notSynchronized Bd) (fun h => by rw [Bd.returns] at h; cases h)
    refine ⟨_, _, pre5 _ ?_, hrun, hended, _, _, rfl, ?_, ⟨_, rfl⟩, hW, hsame.mono (by decide) (by decide)⟩
    · exact retI X0 hx Bd.returns (hb hby d6_71) hr
    · show Q_bz1_1 Z oo ko k0 ky h0 n0 _ s₁.heap _
      rw [e0]
      exact ⟨(-2 : Int32), rfl, N0, rfl, (Or.inl ⟨rfl, hc4⟩)⟩
  · have pre6 := fun (t : State) (k : Steps p.tables e below (s₁.setTop (mkF m 48 #[.val (.ref oo), .val (.int (0 : Int32)), .val (.int (1 : Int32)), .val (.int ky), .val (.int (0 : Int32)), .val (.int (0 : Int32)), .val (.int (0 : Int32)), .val (.int k0)] [(.int ky), (.int k0)])) t) => pre3 t (by
      refine XS.icmpYes X0.here hx rfl (pc0 := 33) (pc' := 45) rfl (hb hby d6_33) rfl (flt hc4).2.1 (by decide) (by decide) ?_
      refine XS.iload X0.here hx rfl (hb hby d6_45) rfl ?_
      refine XS.iloadN X0.here hx rfl (hb hby d6_47) rfl ?_
      exact k)
    by_cases hc7 : ky < k0
    · have pre8 := fun (t : State) (k : Steps p.tables e below (s₁.setTop (mkF m 71 #[.val (.ref oo), .val (.int (0 : Int32)), .val (.int (1 : Int32)), .val (.int ky), .val (.int (0 : Int32)), .val (.int (-1 : Int32)), .val (.int (0 : Int32)), .val (.int k0)] [(.int (-1 : Int32))])) t) => pre6 t (by
        refine XS.icmpNo X0.here hx rfl (hb hby d6_48) rfl (tlt hc7).2.2.2 ?_
        refine XS.iload X0.here hx rfl (hb hby d6_51) rfl ?_
        refine XS.iconst X0.here hx rfl (hb hby d6_53) ?_
        refine XS.isub X0.here hx rfl (hb hby d6_54) rfl ?_
        refine XS.istore X0.here hx rfl (hb hby d6_55) rfl (l' := #[.val (.ref oo), .val (.int (0 : Int32)), .val (.int (1 : Int32)), .val (.int ky), .val (.int (0 : Int32)), .val (.int (-1 : Int32)), .val (.int (0 : Int32)), .val (.int k0)]) rfl ?_
        refine XS.goto X0.here hx rfl (pc0 := 57) (pc' := 63) rfl (hb hby d6_57) (by decide) (by decide) ?_
        refine XS.goto X0.here hx rfl (pc0 := 63) (pc' := 8) rfl (hb hby d6_63) (by decide) (by decide) ?_
        refine XS.iload X0.here hx rfl (hb hby d6_8) rfl ?_
        refine XS.iload X0.here hx rfl (hb hby d6_10) rfl ?_
        refine XS.icmpYes X0.here hx rfl (pc0 := 12) (pc' := 66) rfl (hb hby d6_12) rfl (tlt (by decide : (-1 : Int32) < (0 : Int32))).2.2.1 (by decide) (by decide) ?_
        refine XS.iload X0.here hx rfl (hb hby d6_66) rfl ?_
        refine XS.iconst X0.here hx rfl (hb hby d6_68) ?_
        refine XS.iadd X0.here hx rfl (hb hby d6_69) rfl ?_
        refine XS.ineg X0.here hx rfl (hb hby d6_70) rfl ?_
        exact k)
      obtain ⟨fs, hr, hrun, hended, hW, hsame⟩ := X0.leave (v := some (.int (-1 : Int32))) (hlocks := BodyLoose.notSynchronized Bd) (fun h => by rw [Bd.returns] at h; cases h)
      refine ⟨_, _, pre8 _ ?_, hrun, hended, _, _, rfl, ?_, ⟨_, rfl⟩, hW, hsame.mono (by decide) (by decide)⟩
      · exact retI X0 hx Bd.returns (hb hby d6_71) hr
      · show Q_bz1_1 Z oo ko k0 ky h0 n0 _ s₁.heap _
        rw [e0]
        exact ⟨(-1 : Int32), rfl, N0, rfl, (Or.inr (Or.inl ⟨rfl, hc4, hc7⟩))⟩
    · have pre9 := fun (t : State) (k : Steps p.tables e below (s₁.setTop (mkF m 62 #[.val (.ref oo), .val (.int (0 : Int32)), .val (.int (1 : Int32)), .val (.int ky), .val (.int (0 : Int32)), .val (.int (0 : Int32)), .val (.int (0 : Int32)), .val (.int k0)] [(.int (0 : Int32))])) t) => pre6 t (by
        refine XS.icmpYes X0.here hx rfl (pc0 := 48) (pc' := 60) rfl (hb hby d6_48) rfl (flt hc7).2.2.2 (by decide) (by decide) ?_
        refine XS.iload X0.here hx rfl (hb hby d6_60) rfl ?_
        exact k)
      obtain ⟨fs, hr, hrun, hended, hW, hsame⟩ := X0.leave (v := some (.int (0 : Int32))) (hlocks := BodyLoose.notSynchronized Bd) (fun h => by rw [Bd.returns] at h; cases h)
      refine ⟨_, _, pre9 _ ?_, hrun, hended, _, _, rfl, ?_, ⟨_, rfl⟩, hW, hsame.mono (by decide) (by decide)⟩
      · exact retI X0 hx Bd.returns (hb hby d6_62) hr
      · show Q_bz1_1 Z oo ko k0 ky h0 n0 _ s₁.heap _
        rw [e0]
        exact ⟨(0 : Int32), rfl, N0, rfl, (Or.inr (Or.inr ⟨rfl, hc4, hc7⟩))⟩

theorem ef_bs1_1 (m : MethodId) (x0 : Addr) (x1 : Int32) (x2 : Int32) (x3 : Int32) : entryFrame m #[(.ref x0), (.int x1), (.int x2), (.int x3)] 4 = mkF m 0 #[.val (.ref x0), .val (.int x1), .val (.int x2), .val (.int x3)] [] := by first | (simp [entryFrame, mkF, argsToLocals, Value.category]; done) | rfl
def Q_bs1_1 (Z : State) (oo : Addr) (ko : ClassId) (k0 : Int32) (ky : Int32) (h0 : Heap) (n0 : Nat) (v : Option Value) (h : Heap) (L : List Loc) : Prop := ∃ r : Int32, v = some (.int r) ∧ Fr n0 L ∧ h = h0 ∧ ((r = (-2 : Int32) ∧ k0 < ky) ∨ (r = (-1 : Int32) ∧ ¬ (k0 < ky) ∧ ky < k0) ∨ (r = (0 : Int32) ∧ ¬ (k0 < ky) ∧ ¬ (ky < k0)))
set_option maxRecDepth 65536 in
set_option maxHeartbeats 40000000 in
theorem rm_bs1_1 (l : Launch) (Z : State) (a0 : Array Value) (hw : ∀ d ∈ tables_1, d.before a0 Z = true) (ws : List Jvm.Cond) (oo : Addr) (ko : ClassId) (k0 : Int32) (ky : Int32) (h0 : Heap) (n0 : Nat) (Z0 : n0 ≤ h0.size) (H0_A : Arv Z h0 oo ko .int (1 : Int32) [(.int k0)] (.int (0 : Int32))) :
    MetFree l (⟨"java/util/Arrays", "binarySearch", "([IIII)I"⟩ : MethodName) (head1 (Jvm.Cond.code (⟨"java/util/Arrays", "binarySearch", "([IIII)I"⟩ : MethodName) jdk_65_method_58_code 4 (some .int) :: ws) ({ frames := 1, cells := 0, slots := 0, locals := 19 } : Room)) (fun as_ U_ => as_ = #[(.ref oo), (.int (0 : Int32)), (.int (1 : Int32)), (.int ky)] ∧ Z.Warmed39 U_.vm ∧ U_.heap = h0) (fun _ _ _ _ _ => True) (fun _ U o U' => ∃ v L, o = .returned v ∧ Q_bs1_1 Z oo ko k0 ky h0 n0 v U'.heap L ∧ FrameEnd U o U' L ({ frames := 1, cells := 0, slots := 0, locals := 19 } : Room).cells ({ frames := 1, cells := 0, slots := 0, locals := 19 } : Room).slots) := by
  refine MetFree.of_bodySF (plainFor_of_name pn_0) hisR ?_
  intro p e s m args below meth c s₁ Bd hml0 hP hK
  obtain ⟨rfl, hZ, hhp_⟩ := hP
  have hx := Bd.exec
  have hby := Bd.bytes
  have hml : c.maxLocals = 4 := hml0
  have hown : s.vm.findClass "java/util/Arrays" = some m.cls := findClass_of_methodNamed Bd.named
  have hnm := (name_of_methodNamed Bd.named Bd.method).1
  have X0 : Stand p l e ({ frames := 1, cells := 0, slots := 0, locals := 19 } : Room) s m #[(.ref oo), (.int (0 : Int32)), (.int (1 : Int32)), (.int ky)] below meth c s₁ [] 0 0 := Stand.of_body Bd
  have e0 : s₁.heap = h0 := by rw [← hhp_, Bd.state]; rfl
  have N0 := Fr.nil n0
  have pre0 : ∀ t, Steps p.tables e below (s₁.setTop (mkF m 0 #[.val (.ref oo), .val (.int (0 : Int32)), .val (.int (1 : Int32)), .val (.int ky)] [])) t → Steps p.tables e below (s₁.setTop (entryFrame m #[(.ref oo), (.int (0 : Int32)), (.int (1 : Int32)), (.int ky)] 4)) t := fun t k => castTop (ef_bs1_1 m oo (0 : Int32) (1 : Int32) ky) k
  have oc1 := H0_A
  obtain ⟨c1, Arc1, qc1, Sc1, Nc1, Hc1, Gc1⟩ := oc1
  obtain ⟨_, _, ⟨T2, L2, k2, n2⟩, -, X2, ⟨Lc2, hQ2, l2, y2, z2⟩, st2⟩ := Jvm.LawKit.callS X0 hx (y := (⟨"java/util/Arrays", "rangeCheck", "(III)V"⟩ : MethodName)) hown (mvT hZ (own_w hw 29 rfl)) (mvT hZ (own_w hw 30 rfl)) (mvT hZ (own_w hw 27 rfl)) (mvT hZ (own_w hw 31 rfl)) (by decide) (backOf (W := 0) (rm_rc l Z a0 hw [] (1 : Int32) (0 : Int32) (1 : Int32) h0 n0 Z0 (by decide) (by decide) (by decide)) hZ (own_w hw 31 rfl) (own_w hw 27 rfl) (by decide) (by decide)) (g := (mkF m 4 #[.val (.ref oo), .val (.int (0 : Int32)), .val (.int (1 : Int32)), .val (.int ky)] [(.int (1 : Int32)), (.int (0 : Int32)), (.int (1 : Int32))])) rfl (by rw [hml]; rfl) (argsL := [(.int (1 : Int32)), (.int (0 : Int32)), (.int (1 : Int32))]) (rest := []) (lenOf pd_0 rfl) rfl (by show 2 * 0 + _ ≤ _; exact Nat.le_of_eq rfl) (hb hby d4_4) (fun _ _ => ⟨rfl, e0, (by decide : 0 + 0 ≤ _), (by decide : 0 + 0 ≤ _)⟩)
  dsimp only [Pt.U, Pt.locs, Pt.cells, Pt.slots] at X2 l2 y2 z2 st2 hQ2
  subst l2 y2 z2
  obtain ⟨rfl, N2q, hq3⟩ := hQ2
  have N2 := Fr.app N0 N2q
  obtain ⟨_, _, ⟨T4, L4, k4, n4⟩, -, X4, ⟨Lc4, hQ4, l4, y4, z4⟩, st4⟩ := Jvm.LawKit.callS X2 hx (y := (⟨"java/util/Arrays", "binarySearch0", "([IIII)I"⟩ : MethodName)) hown (mvT hZ (own_w hw 32 rfl)) (mvT hZ (own_w hw 33 rfl)) (mvT hZ (own_w hw 27 rfl)) (mvT hZ (own_w hw 34 rfl)) (by decide) (backOf (W := 0) (rm_bz1_1 l Z a0 hw [] oo ko k0 ky h0 n0 Z0 H0_A) hZ (own_w hw 34 rfl) (own_w hw 27 rfl) (by decide) (by decide)) (g := (mkF m 11 #[.val (.ref oo), .val (.int (0 : Int32)), .val (.int (1 : Int32)), .val (.int ky)] [(.int ky), (.int (1 : Int32)), (.int (0 : Int32)), (.ref oo)])) rfl (by rw [hml]; rfl) (argsL := [(.ref oo), (.int (0 : Int32)), (.int (1 : Int32)), (.int ky)]) (rest := []) (lenOf pd_1 rfl) rfl (by show 2 * 0 + _ ≤ _; exact Nat.le_of_eq rfl) (hb hby d4_11) (fun _ _ => ⟨rfl, hq3, (by decide : 0 + 0 ≤ _), (by decide : 0 + 0 ≤ _)⟩)
  dsimp only [Pt.U, Pt.locs, Pt.cells, Pt.slots] at X4 l4 y4 z4 st4 hQ4
  subst l4 y4 z4
  obtain ⟨x5, rfl, N4q, hq6, hpq7⟩ := hQ4
  have N4 := Fr.app N2 N4q
  have pre8 := fun (t : State) (k : Steps p.tables e below (T4.setTop (mkF m 14 #[.val (.ref oo), .val (.int (0 : Int32)), .val (.int (1 : Int32)), .val (.int ky)] [(.int x5)])) t) => pre0 t (by
    refine XS.aloadN X0.here hx rfl (hb hby d4_0) rfl rfl ?_
    refine X0.arraylength hx (by rw [e0]; exact Arc1.1) (State.isArrayOf_alike hZ.alike Arc1.2.1) (g := (mkF m 1 #[.val (.ref oo), .val (.int (0 : Int32)), .val (.int (1 : Int32)), .val (.int ky)] [(.ref oo)])) rfl rfl (hb hby d4_1) _ ?_
    rw [show c1.slots.size.toInt32 = (1 : Int32) from (len_of Sc1 Nc1)]
    refine XS.iloadN X0.here hx rfl (hb hby d4_2) rfl ?_
    refine XS.iloadN X0.here hx rfl (hb hby d4_3) rfl ?_
    refine st2 _ ?_
    refine XS.aloadN X2.here hx rfl (hb hby d4_7) rfl rfl ?_
    refine XS.iloadN X2.here hx rfl (hb hby d4_8) rfl ?_
    refine XS.iloadN X2.here hx rfl (hb hby d4_9) rfl ?_
    refine XS.iloadN X2.here hx rfl (hb hby d4_10) rfl ?_
    refine st4 _ ?_
    exact k)
  obtain ⟨fs, hr, hrun, hended, hW, hsame⟩ := X4.leave (v := some (.int x5)) (hlocks := BodyLoose.notSynchronized Bd) (fun h => by rw [Bd.returns] at h; cases h)
  refine ⟨_, _, pre8 _ ?_, hrun, hended, _, _, rfl, ?_, ⟨_, rfl⟩, hW, hsame.mono (by decide) (by decide)⟩
  · exact retI X4 hx Bd.returns (hb hby d4_14) hr
  · show Q_bs1_1 Z oo ko k0 ky h0 n0 _ T4.heap _
    rw [hq6]
    exact ⟨x5, rfl, N4, rfl, hpq7⟩

theorem ef_bz2_3 (m : MethodId) (x0 : Addr) (x1 : Int32) (x2 : Int32) (x3 : Int32) : entryFrame m #[(.ref x0), (.int x1), (.int x2), (.int x3)] 8 = mkF m 0 #[.val (.ref x0), .val (.int x1), .val (.int x2), .val (.int x3), .unset, .unset, .unset, .unset] [] := by first | (simp [entryFrame, mkF, argsToLocals, Value.category]; done) | rfl
def Q_bz2_3 (Z : State) (oo : Addr) (ko : ClassId) (k0 : Int32) (k1 : Int32) (g2 : Int32) (ky : Int32) (h0 : Heap) (n0 : Nat) (v : Option Value) (h : Heap) (L : List Loc) : Prop := ∃ r : Int32, v = some (.int r) ∧ Fr n0 L ∧ h = h0 ∧ ((r = (-3 : Int32) ∧ k0 < ky ∧ k1 < ky) ∨ (r = (-2 : Int32) ∧ k0 < ky ∧ ¬ (k1 < ky) ∧ ky < k1) ∨ (r = (1 : Int32) ∧ k0 < ky ∧ ¬ (k1 < ky) ∧ ¬ (ky < k1)) ∨ (r = (-1 : Int32) ∧ ¬ (k0 < ky) ∧ ky < k0) ∨ (r = (0 : Int32) ∧ ¬ (k0 < ky) ∧ ¬ (ky < k0)))
set_option maxRecDepth 65536 in
set_option maxHeartbeats 40000000 in
theorem rm_bz2_3 (l : Launch) (Z : State) (a0 : Array Value) (hw : ∀ d ∈ tables_1, d.before a0 Z = true) (ws : List Jvm.Cond) (oo : Addr) (ko : ClassId) (k0 : Int32) (k1 : Int32) (g2 : Int32) (ky : Int32) (h0 : Heap) (n0 : Nat) (Z0 : n0 ≤ h0.size) (H0_A : Arv Z h0 oo ko .int (3 : Int32) [(.int k0), (.int k1), (.int g2)] (.int (0 : Int32))) :
    MetFree l (⟨"java/util/Arrays", "binarySearch0", "([IIII)I"⟩ : MethodName) (head1 (Jvm.Cond.code (⟨"java/util/Arrays", "binarySearch0", "([IIII)I"⟩ : MethodName) jdk_65_method_59_code 8 (some .int) :: ws) ({ frames := 0, cells := 0, slots := 0, locals := 0 } : Room)) (fun as_ U_ => as_ = #[(.ref oo), (.int (0 : Int32)), (.int (2 : Int32)), (.int ky)] ∧ Z.Warmed39 U_.vm ∧ U_.heap = h0) (fun _ _ _ _ _ => True) (fun _ U o U' => ∃ v L, o = .returned v ∧ Q_bz2_3 Z oo ko k0 k1 g2 ky h0 n0 v U'.heap L ∧ FrameEnd U o U' L ({ frames := 0, cells := 0, slots := 0, locals := 0 } : Room).cells ({ frames := 0, cells := 0, slots := 0, locals := 0 } : Room).slots) := by
  refine MetFree.of_bodySF (plainFor_of_name pn_0) hisR ?_
  intro p e s m args below meth c s₁ Bd hml0 hP hK
  obtain ⟨rfl, hZ, hhp_⟩ := hP
  have hx := Bd.exec
  have hby := Bd.bytes
  have hml : c.maxLocals = 8 := hml0
  have hown : s.vm.findClass "java/util/Arrays" = some m.cls := findClass_of_methodNamed Bd.named
  have hnm := (name_of_methodNamed Bd.named Bd.method).1
  have X0 : Stand p l e ({ frames := 0, cells := 0, slots := 0, locals := 0 } : Room) s m #[(.ref oo), (.int (0 : Int32)), (.int (2 : Int32)), (.int ky)] below meth c s₁ [] 0 0 := Stand.of_body Bd
  have e0 : s₁.heap = h0 := by rw [← hhp_, Bd.state]; rfl
  have N0 := Fr.nil n0
  have pre0 : ∀ t, Steps p.tables e below (s₁.setTop (mkF m 0 #[.val (.ref oo), .val (.int (0 : Int32)), .val (.int (2 : Int32)), .val (.int ky), .unset, .unset, .unset, .unset] [])) t → Steps p.tables e below (s₁.setTop (entryFrame m #[(.ref oo), (.int (0 : Int32)), (.int (2 : Int32)), (.int ky)] 8)) t := fun t k => castTop (ef_bz2_3 m oo (0 : Int32) (2 : Int32) ky) k
  have oc1 := H0_A
  obtain ⟨c1, Arc1, qc1, Sc1, Nc1, Hc1, Gc1⟩ := oc1
  have hin2 : ¬ ((0 : Int32) < 0 ∨ c1.slots.size ≤ ((0 : Int32)).toNatClampNeg) := (inb_of Sc1 ⟨by decide, by decide⟩)
  have pre3 := fun (t : State) (k : Steps p.tables e below (s₁.setTop (mkF m 33 #[.val (.ref oo), .val (.int (0 : Int32)), .val (.int (2 : Int32)), .val (.int ky), .val (.int (0 : Int32)), .val (.int (1 : Int32)), .val (.int (0 : Int32)), .val (.int k0)] [(.int ky), (.int k0)])) t) => pre0 t (by
    refine XS.iloadN X0.here hx rfl (hb hby d6_0) rfl ?_
    refine XS.istore X0.here hx rfl (hb hby d6_1) rfl (l' := #[.val (.ref oo), .val (.int (0 : Int32)), .val (.int (2 : Int32)), .val (.int ky), .val (.int (0 : Int32)), .unset, .unset, .unset]) rfl ?_
    refine XS.iloadN X0.here hx rfl (hb hby d6_3) rfl ?_
    refine XS.iconst X0.here hx rfl (hb hby d6_4) ?_
    refine XS.isub X0.here hx rfl (hb hby d6_5) rfl ?_
    refine XS.istore X0.here hx rfl (hb hby d6_6) rfl (l' := #[.val (.ref oo), .val (.int (0 : Int32)), .val (.int (2 : Int32)), .val (.int ky), .val (.int (0 : Int32)), .val (.int (1 : Int32)), .unset, .unset]) rfl ?_
    refine XS.iload X0.here hx rfl (hb hby d6_8) rfl ?_
    refine XS.iload X0.here hx rfl (hb hby d6_10) rfl ?_
    refine XS.icmpNo X0.here hx rfl (hb hby d6_12) rfl (flt (by decide : ¬ ((1 : Int32) < (0 : Int32)))).2.2.1 ?_
    refine XS.iload X0.here hx rfl (hb hby d6_15) rfl ?_
    refine XS.iload X0.here hx rfl (hb hby d6_17) rfl ?_
    refine XS.iadd X0.here hx rfl (hb hby d6_19) rfl ?_
    refine XS.iconst X0.here hx rfl (hb hby d6_20) ?_
    refine XS.iushr X0.here hx rfl (hb hby d6_21) rfl ?_
    refine XS.istore X0.here hx rfl (hb hby d6_22) rfl (l' := #[.val (.ref oo), .val (.int (0 : Int32)), .val (.int (2 : Int32)), .val (.int ky), .val (.int (0 : Int32)), .val (.int (1 : Int32)), .val (.int (0 : Int32)), .unset]) rfl ?_
    refine XS.aloadN X0.here hx rfl (hb hby d6_24) rfl rfl ?_
    refine XS.iload X0.here hx rfl (hb hby d6_25) rfl ?_
    refine X0.iaload hx (j := (0 : Int32)) (v := (.int k0)) (by rw [e0]; exact Arc1.1) (State.isArrayOf_alike hZ.alike Arc1.2.1) Arc1.2.2 hin2 (Has.at Hc1 hin2 rfl) (g := (mkF m 27 #[.val (.ref oo), .val (.int (0 : Int32)), .val (.int (2 : Int32)), .val (.int ky), .val (.int (0 : Int32)), .val (.int (1 : Int32)), .val (.int (0 : Int32)), .unset] [(.int (0 : Int32)), (.ref oo)])) rfl rfl (hb hby d6_27) _ ?_
    refine XS.istore X0.here hx rfl (hb hby d6_28) rfl (l' := #[.val (.ref oo), .val (.int (0 : Int32)), .val (.int (2 : Int32)), .val (.int ky), .val (.int (0 : Int32)), .val (.int (1 : Int32)), .val (.int (0 : Int32)), .val (.int k0)]) rfl ?_
    refine XS.iload X0.here hx rfl (hb hby d6_30) rfl ?_
    refine XS.iloadN X0.here hx rfl (hb hby d6_32) rfl ?_
    exact k)
  by_cases hc4 : k0 < ky
  · have oc5 := H0_A
    obtain ⟨c5, Arc5, qc5, Sc5, Nc5, Hc5, Gc5⟩ := oc5
    have hin6 : ¬ ((1 : Int32) < 0 ∨ c5.slots.size ≤ ((1 : Int32)).toNatClampNeg) := (inb_of Sc5 ⟨by decide, by decide⟩)
    have pre7 := fun (t : State) (k : Steps p.tables e below (s₁.setTop (mkF m 33 #[.val (.ref oo), .val (.int (0 : Int32)), .val (.int (2 : Int32)), .val (.int ky), .val (.int (1 : Int32)), .val (.int (1 : Int32)), .val (.int (1 : Int32)), .val (.int k1)] [(.int ky), (.int k1)])) t) => pre3 t (by
      refine XS.icmpNo X0.here hx rfl (hb hby d6_33) rfl (tlt hc4).2.1 ?_
      refine XS.iload X0.here hx rfl (hb hby d6_36) rfl ?_
      refine XS.iconst X0.here hx rfl (hb hby d6_38) ?_
      refine XS.iadd X0.here hx rfl (hb hby d6_39) rfl ?_
      refine XS.istore X0.here hx rfl (hb hby d6_40) rfl (l' := #[.val (.ref oo), .val (.int (0 : Int32)), .val (.int (2 : Int32)), .val (.int ky), .val (.int (1 : Int32)), .val (.int (1 : Int32)), .val (.int (0 : Int32)), .val (.int k0)]) rfl ?_
      refine XS.goto X0.here hx rfl (pc0 := 42) (pc' := 63) rfl (hb hby d6_42) (by decide) (by decide) ?_
      refine XS.goto X0.here hx rfl (pc0 := 63) (pc' := 8) rfl (hb hby d6_63) (by decide) (by decide) ?_
      refine XS.iload X0.here hx rfl (hb hby d6_8) rfl ?_
      refine XS.iload X0.here hx rfl (hb hby d6_10) rfl ?_
      refine XS.icmpNo X0.here hx rfl (hb hby d6_12) rfl (flt (by decide : ¬ ((1 : Int32) < (1 : Int32)))).2.2.1 ?_
      refine XS.iload X0.here hx rfl (hb hby d6_15) rfl ?_
      refine XS.iload X0.here hx rfl (hb hby d6_17) rfl ?_
      refine XS.iadd X0.here hx rfl (hb hby d6_19) rfl ?_
      refine XS.iconst X0.here hx rfl (hb hby d6_20) ?_
      refine XS.iushr X0.here hx rfl (hb hby d6_21) rfl ?_
      refine XS.istore X0.here hx rfl (hb hby d6_22) rfl (l' := #[.val (.ref oo), .val (.int (0 : Int32)), .val (.int (2 : Int32)), .val (.int ky), .val (.int (1 : Int32)), .val (.int (1 : Int32)), .val (.int (1 : Int32)), .val (.int k0)]) rfl ?_
      refine XS.aloadN X0.here hx rfl (hb hby d6_24) rfl rfl ?_
      refine XS.iload X0.here hx rfl (hb hby d6_25) rfl ?_
      refine X0.iaload hx (j := (1 : Int32)) (v := (.int k1)) (by rw [e0]; exact Arc5.1) (State.isArrayOf_alike hZ.alike Arc5.2.1) Arc5.2.2 hin6 (Has.at Hc5 hin6 rfl) (g := (mkF m 27 #[.val (.ref oo), .val (.int (0 : Int32)), .val (.int (2 : Int32)), .val (.int ky), .val (.int (1 : Int32)), .val (.int (1 : Int32)), .val (.int (1 : Int32)), .val (.int k0)] [(.int (1 : Int32)), (.ref oo)])) rfl rfl (hb hby d6_27) _ ?_
      refine XS.istore X0.here hx rfl (hb hby d6_28) rfl (l' := #[.val (.ref oo), .val (.int (0 : Int32)), .val (.int (2 : Int32)), .val (.int ky), .val (.int (1 : Int32)), .val (.int (1 : Int32)), .val (.int (1 : Int32)), .val (.int k1)]) rfl ?_
      refine XS.iload X0.here hx rfl (hb hby d6_30) rfl ?_
      refine XS.iloadN X0.here hx rfl (hb hby d6_32) rfl ?_
      exact k)
    by_cases hc8 : k1 < ky
    · have pre9 := fun (t : State) (k : Steps p.tables e below (s₁.setTop (mkF m 71 #[.val (.ref oo), .val (.int (0 : Int32)), .val (.int (2 : Int32)), .val (.int ky), .val (.int (2 : Int32)), .val (.int (1 : Int32)), .val (.int (1 : Int32)), .val (.int k1)] [(.int (-3 : Int32))])) t) => pre7 t (by
        refine XS.icmpNo X0.here hx rfl (hb hby d6_33) rfl (tlt hc8).2.1 ?_
        refine XS.iload X0.here hx rfl (hb hby d6_36) rfl ?_
        refine XS.iconst X0.here hx rfl (hb hby d6_38) ?_
        refine XS.iadd X0.here hx rfl (hb hby d6_39) rfl ?_
        refine XS.istore X0.here hx rfl (hb hby d6_40) rfl (l' := #[.val (.ref oo), .val (.int (0 : Int32)), .val (.int (2 : Int32)), .val (.int ky), .val (.int (2 : Int32)), .val (.int (1 : Int32)), .val (.int (1 : Int32)), .val (.int k1)]) rfl ?_
        refine XS.goto X0.here hx rfl (pc0 := 42) (pc' := 63) rfl (hb hby d6_42) (by decide) (by decide) ?_
        refine XS.goto X0.here hx rfl (pc0 := 63) (pc' := 8) rfl (hb hby d6_63) (by decide) (by decide) ?_
        refine XS.iload X0.here hx rfl (hb hby d6_8) rfl ?_
        refine XS.iload X0.here hx rfl (hb hby d6_10) rfl ?_
        refine XS.icmpYes X0.here hx rfl (pc0 := 12) (pc' := 66) rfl (hb hby d6_12) rfl (tlt (by decide : (1 : Int32) < (2 : Int32))).2.2.1 (by decide) (by decide) ?_
        refine XS.iload X0.here hx rfl (hb hby d6_66) rfl ?_
        refine XS.iconst X0.here hx rfl (hb hby d6_68) ?_
        refine XS.iadd X0.here hx rfl (hb hby d6_69) rfl ?_
        refine XS.ineg X0.here hx rfl (hb hby d6_70) rfl ?_
        exact k)
      obtain ⟨fs, hr, hrun, hended, hW, hsame⟩ := X0.leave (v := some (.int (-3 : Int32))) (hlocks := BodyLoose.notSynchronized Bd) (fun h => by rw [Bd.returns] at h; cases h)
      refine ⟨_, _, pre9 _ ?_, hrun, hended, _, _, rfl, ?_, ⟨_, rfl⟩, hW, hsame.mono (by decide) (by decide)⟩
      · exact retI X0 hx Bd.returns (hb hby d6_71) hr
      · show Q_bz2_3 Z oo ko k0 k1 g2 ky h0 n0 _ s₁.heap _
        rw [e0]
        exact ⟨(-3 : Int32), rfl, N0, rfl, (Or.inl ⟨rfl, hc4, hc8⟩)⟩
    · have pre10 := fun (t : State) (k : Steps p.tables e below (s₁.setTop (mkF m 48 #[.val (.ref oo), .val (.int (0 : Int32)), .val (.int (2 : Int32)), .val (.int ky), .val (.int (1 : Int32)), .val (.int (1 : Int32)), .val (.int (1 : Int32)), .val (.int k1)] [(.int ky), (.int k1)])) t) => pre7 t (by
        refine XS.icmpYes X0.here hx rfl (pc0 := 33) (pc' := 45) rfl (hb hby d6_33) rfl (flt hc8).2.1 (by decide) (by decide) ?_
        refine XS.iload X0.here hx rfl (hb hby d6_45) rfl ?_
        refine XS.iloadN X0.here hx rfl (hb hby d6_47) rfl ?_
        exact k)
      by_cases hc11 : ky < k1
      · have pre12 := fun (t : State) (k : Steps p.tables e below (s₁.setTop (mkF m 71 #[.val (.ref oo), .val (.int (0 : Int32)), .val (.int (2 : Int32)), .val (.int ky), .val (.int (1 : Int32)), .val (.int (0 : Int32)), .val (.int (1 : Int32)), .val (.int k1)] [(.int (-2 : Int32))])) t) => pre10 t (by
          refine XS.icmpNo X0.here hx rfl (hb hby d6_48) rfl (tlt hc11).2.2.2 ?_
          refine XS.iload X0.here hx rfl (hb hby d6_51) rfl ?_
          refine XS.iconst X0.here hx rfl (hb hby d6_53) ?_
          refine XS.isub X0.here hx rfl (hb hby d6_54) rfl ?_
          refine XS.istore X0.here hx rfl (hb hby d6_55) rfl (l' := #[.val (.ref oo), .val (.int (0 : Int32)), .val (.int (2 : Int32)), .val (.int ky), .val (.int (1 : Int32)), .val (.int (0 : Int32)), .val (.int (1 : Int32)), .val (.int k1)]) rfl ?_
          refine XS.goto X0.here hx rfl (pc0 := 57) (pc' := 63) rfl (hb hby d6_57) (by decide) (by decide) ?_
          refine XS.goto X0.here hx rfl (pc0 := 63) (pc' := 8) rfl (hb hby d6_63) (by decide) (by decide) ?_
          refine XS.iload X0.here hx rfl (hb hby d6_8) rfl ?_
          refine XS.iload X0.here hx rfl (hb hby d6_10) rfl ?_
          refine XS.icmpYes X0.here hx rfl (pc0 := 12) (pc' := 66) rfl (hb hby d6_12) rfl (tlt (by decide : (0 : Int32) < (1 : Int32))).2.2.1 (by decide) (by decide) ?_
          refine XS.iload X0.here hx rfl (hb hby d6_66) rfl ?_
          refine XS.iconst X0.here hx rfl (hb hby d6_68) ?_
          refine XS.iadd X0.here hx rfl (hb hby d6_69) rfl ?_
          refine XS.ineg X0.here hx rfl (hb hby d6_70) rfl ?_
          exact k)
        obtain ⟨fs, hr, hrun, hended, hW, hsame⟩ := X0.leave (v := some (.int (-2 : Int32))) (hlocks := BodyLoose.notSynchronized Bd) (fun h => by rw [Bd.returns] at h; cases h)
        refine ⟨_, _, pre12 _ ?_, hrun, hended, _, _, rfl, ?_, ⟨_, rfl⟩, hW, hsame.mono (by decide) (by decide)⟩
        · exact retI X0 hx Bd.returns (hb hby d6_71) hr
        · show Q_bz2_3 Z oo ko k0 k1 g2 ky h0 n0 _ s₁.heap _
          rw [e0]
          exact ⟨(-2 : Int32), rfl, N0, rfl, (Or.inr (Or.inl ⟨rfl, hc4, hc8, hc11⟩))⟩
      · have pre13 := fun (t : State) (k : Steps p.tables e below (s₁.setTop (mkF m 62 #[.val (.ref oo), .val (.int (0 : Int32)), .val (.int (2 : Int32)), .val (.int ky), .val (.int (1 : Int32)), .val (.int (1 : Int32)), .val (.int (1 : Int32)), .val (.int k1)] [(.int (1 : Int32))])) t) => pre10 t (by
          refine XS.icmpYes X0.here hx rfl (pc0 := 48) (pc' := 60) rfl (hb hby d6_48) rfl (flt hc11).2.2.2 (by decide) (by decide) ?_
          refine XS.iload X0.here hx rfl (hb hby d6_60) rfl ?_
          exact k)
        obtain ⟨fs, hr, hrun, hended, hW, hsame⟩ := X0.leave (v := some (.int (1 : Int32))) (hlocks := BodyLoose.notSynchronized Bd) (fun h => by rw [Bd.returns] at h; cases h)
        refine ⟨_, _, pre13 _ ?_, hrun, hended, _, _, rfl, ?_, ⟨_, rfl⟩, hW, hsame.mono (by decide) (by decide)⟩
        · exact retI X0 hx Bd.returns (hb hby d6_62) hr
        · show Q_bz2_3 Z oo ko k0 k1 g2 ky h0 n0 _ s₁.heap _
          rw [e0]
          exact ⟨(1 : Int32), rfl, N0, rfl, (Or.inr (Or.inr (Or.inl ⟨rfl, hc4, hc8, hc11⟩)))⟩
  · have pre14 := fun (t : State) (k : Steps p.tables e below (s₁.setTop (mkF m 48 #[.val (.ref oo), .val (.int (0 : Int32)), .val (.int (2 : Int32)), .val (.int ky), .val (.int (0 : Int32)), .val (.int (1 : Int32)), .val (.int (0 : Int32)), .val (.int k0)] [(.int ky), (.int k0)])) t) => pre3 t (by
      refine XS.icmpYes X0.here hx rfl (pc0 := 33) (pc' := 45) rfl (hb hby d6_33) rfl (flt hc4).2.1 (by decide) (by decide) ?_
      refine XS.iload X0.here hx rfl (hb hby d6_45) rfl ?_
      refine XS.iloadN X0.here hx rfl (hb hby d6_47) rfl ?_
      exact k)
    by_cases hc15 : ky < k0
    · have pre16 := fun (t : State) (k : Steps p.tables e below (s₁.setTop (mkF m 71 #[.val (.ref oo), .val (.int (0 : Int32)), .val (.int (2 : Int32)), .val (.int ky), .val (.int (0 : Int32)), .val (.int (-1 : Int32)), .val (.int (0 : Int32)), .val (.int k0)] [(.int (-1 : Int32))])) t) => pre14 t (by
        refine XS.icmpNo X0.here hx rfl (hb hby d6_48) rfl (tlt hc15).2.2.2 ?_
        refine XS.iload X0.here hx rfl (hb hby d6_51) rfl ?_
        refine XS.iconst X0.here hx rfl (hb hby d6_53) ?_
        refine XS.isub X0.here hx rfl (hb hby d6_54) rfl ?_
        refine XS.istore X0.here hx rfl (hb hby d6_55) rfl (l' := #[.val (.ref oo), .val (.int (0 : Int32)), .val (.int (2 : Int32)), .val (.int ky), .val (.int (0 : Int32)), .val (.int (-1 : Int32)), .val (.int (0 : Int32)), .val (.int k0)]) rfl ?_
        refine XS.goto X0.here hx rfl (pc0 := 57) (pc' := 63) rfl (hb hby d6_57) (by decide) (by decide) ?_
        refine XS.goto X0.here hx rfl (pc0 := 63) (pc' := 8) rfl (hb hby d6_63) (by decide) (by decide) ?_
        refine XS.iload X0.here hx rfl (hb hby d6_8) rfl ?_
        refine XS.iload X0.here hx rfl (hb hby d6_10) rfl ?_
        refine XS.icmpYes X0.here hx rfl (pc0 := 12) (pc' := 66) rfl (hb hby d6_12) rfl (tlt (by decide : (-1 : Int32) < (0 : Int32))).2.2.1 (by decide) (by decide) ?_
        refine XS.iload X0.here hx rfl (hb hby d6_66) rfl ?_
        refine XS.iconst X0.here hx rfl (hb hby d6_68) ?_
        refine XS.iadd X0.here hx rfl (hb hby d6_69) rfl ?_
        refine XS.ineg X0.here hx rfl (hb hby d6_70) rfl ?_
        exact k)
      obtain ⟨fs, hr, hrun, hended, hW, hsame⟩ := X0.leave (v := some (.int (-1 : Int32))) (hlocks := BodyLoose.notSynchronized Bd) (fun h => by rw [Bd.returns] at h; cases h)
      refine ⟨_, _, pre16 _ ?_, hrun, hended, _, _, rfl, ?_, ⟨_, rfl⟩, hW, hsame.mono (by decide) (by decide)⟩
      · exact retI X0 hx Bd.returns (hb hby d6_71) hr
      · show Q_bz2_3 Z oo ko k0 k1 g2 ky h0 n0 _ s₁.heap _
        rw [e0]
        exact ⟨(-1 : Int32), rfl, N0, rfl, (Or.inr (Or.inr (Or.inr (Or.inl ⟨rfl, hc4, hc15⟩))))⟩
    · have pre17 := fun (t : State) (k : Steps p.tables e below (s₁.setTop (mkF m 62 #[.val (.ref oo), .val (.int (0 : Int32)), .val (.int (2 : Int32)), .val (.int ky), .val (.int (0 : Int32)), .val (.int (1 : Int32)), .val (.int (0 : Int32)), .val (.int k0)] [(.int (0 : Int32))])) t) => pre14 t (by
        refine XS.icmpYes X0.here hx rfl (pc0 := 48) (pc' := 60) rfl (hb hby d6_48) rfl (flt hc15).2.2.2 (by decide) (by decide) ?_
        refine XS.iload X0.here hx rfl (hb hby d6_60) rfl ?_
        exact k)
      obtain ⟨fs, hr, hrun, hended, hW, hsame⟩ := X0.leave (v := some (.int (0 : Int32))) (hlocks := BodyLoose.notSynchronized Bd) (fun h => by rw [Bd.returns] at h; cases h)
      refine ⟨_, _, pre17 _ ?_, hrun, hended, _, _, rfl, ?_, ⟨_, rfl⟩, hW, hsame.mono (by decide) (by decide)⟩
      · exact retI X0 hx Bd.returns (hb hby d6_62) hr
      · show Q_bz2_3 Z oo ko k0 k1 g2 ky h0 n0 _ s₁.heap _
        rw [e0]
        exact ⟨(0 : Int32), rfl, N0, rfl, (Or.inr (Or.inr (Or.inr (Or.inr ⟨rfl, hc4, hc15⟩))))⟩

theorem ef_bs2_3 (m : MethodId) (x0 : Addr) (x1 : Int32) (x2 : Int32) (x3 : Int32) : entryFrame m #[(.ref x0), (.int x1), (.int x2), (.int x3)] 4 = mkF m 0 #[.val (.ref x0), .val (.int x1), .val (.int x2), .val (.int x3)] [] := by first | (simp [entryFrame, mkF, argsToLocals, Value.category]; done) | rfl
def Q_bs2_3 (Z : State) (oo : Addr) (ko : ClassId) (k0 : Int32) (k1 : Int32) (g2 : Int32) (ky : Int32) (h0 : Heap) (n0 : Nat) (v : Option Value) (h : Heap) (L : List Loc) : Prop := ∃ r : Int32, v = some (.int r) ∧ Fr n0 L ∧ h = h0 ∧ ((r = (-3 : Int32) ∧ k0 < ky ∧ k1 < ky) ∨ (r = (-2 : Int32) ∧ k0 < ky ∧ ¬ (k1 < ky) ∧ ky < k1) ∨ (r = (1 : Int32) ∧ k0 < ky ∧ ¬ (k1 < ky) ∧ ¬ (ky < k1)) ∨ (r = (-1 : Int32) ∧ ¬ (k0 < ky) ∧ ky < k0) ∨ (r = (0 : Int32) ∧ ¬ (k0 < ky) ∧ ¬ (ky < k0)))
set_option maxRecDepth 65536 in
set_option maxHeartbeats 40000000 in
theorem rm_bs2_3 (l : Launch) (Z : State) (a0 : Array Value) (hw : ∀ d ∈ tables_1, d.before a0 Z = true) (ws : List Jvm.Cond) (oo : Addr) (ko : ClassId) (k0 : Int32) (k1 : Int32) (g2 : Int32) (ky : Int32) (h0 : Heap) (n0 : Nat) (Z0 : n0 ≤ h0.size) (H0_A : Arv Z h0 oo ko .int (3 : Int32) [(.int k0), (.int k1), (.int g2)] (.int (0 : Int32))) :
    MetFree l (⟨"java/util/Arrays", "binarySearch", "([IIII)I"⟩ : MethodName) (head1 (Jvm.Cond.code (⟨"java/util/Arrays", "binarySearch", "([IIII)I"⟩ : MethodName) jdk_65_method_58_code 4 (some .int) :: ws) ({ frames := 1, cells := 0, slots := 0, locals := 19 } : Room)) (fun as_ U_ => as_ = #[(.ref oo), (.int (0 : Int32)), (.int (2 : Int32)), (.int ky)] ∧ Z.Warmed39 U_.vm ∧ U_.heap = h0) (fun _ _ _ _ _ => True) (fun _ U o U' => ∃ v L, o = .returned v ∧ Q_bs2_3 Z oo ko k0 k1 g2 ky h0 n0 v U'.heap L ∧ FrameEnd U o U' L ({ frames := 1, cells := 0, slots := 0, locals := 19 } : Room).cells ({ frames := 1, cells := 0, slots := 0, locals := 19 } : Room).slots) := by
  refine MetFree.of_bodySF (plainFor_of_name pn_0) hisR ?_
  intro p e s m args below meth c s₁ Bd hml0 hP hK
  obtain ⟨rfl, hZ, hhp_⟩ := hP
  have hx := Bd.exec
  have hby := Bd.bytes
  have hml : c.maxLocals = 4 := hml0
  have hown : s.vm.findClass "java/util/Arrays" = some m.cls := findClass_of_methodNamed Bd.named
  have hnm := (name_of_methodNamed Bd.named Bd.method).1
  have X0 : Stand p l e ({ frames := 1, cells := 0, slots := 0, locals := 19 } : Room) s m #[(.ref oo), (.int (0 : Int32)), (.int (2 : Int32)), (.int ky)] below meth c s₁ [] 0 0 := Stand.of_body Bd
  have e0 : s₁.heap = h0 := by rw [← hhp_, Bd.state]; rfl
  have N0 := Fr.nil n0
  have pre0 : ∀ t, Steps p.tables e below (s₁.setTop (mkF m 0 #[.val (.ref oo), .val (.int (0 : Int32)), .val (.int (2 : Int32)), .val (.int ky)] [])) t → Steps p.tables e below (s₁.setTop (entryFrame m #[(.ref oo), (.int (0 : Int32)), (.int (2 : Int32)), (.int ky)] 4)) t := fun t k => castTop (ef_bs2_3 m oo (0 : Int32) (2 : Int32) ky) k
  have oc1 := H0_A
  obtain ⟨c1, Arc1, qc1, Sc1, Nc1, Hc1, Gc1⟩ := oc1
  obtain ⟨_, _, ⟨T2, L2, k2, n2⟩, -, X2, ⟨Lc2, hQ2, l2, y2, z2⟩, st2⟩ := Jvm.LawKit.callS X0 hx (y := (⟨"java/util/Arrays", "rangeCheck", "(III)V"⟩ : MethodName)) hown (mvT hZ (own_w hw 29 rfl)) (mvT hZ (own_w hw 30 rfl)) (mvT hZ (own_w hw 27 rfl)) (mvT hZ (own_w hw 31 rfl)) (by decide) (backOf (W := 0) (rm_rc l Z a0 hw [] (3 : Int32) (0 : Int32) (2 : Int32) h0 n0 Z0 (by decide) (by decide) (by decide)) hZ (own_w hw 31 rfl) (own_w hw 27 rfl) (by decide) (by decide)) (g := (mkF m 4 #[.val (.ref oo), .val (.int (0 : Int32)), .val (.int (2 : Int32)), .val (.int ky)] [(.int (2 : Int32)), (.int (0 : Int32)), (.int (3 : Int32))])) rfl (by rw [hml]; rfl) (argsL := [(.int (3 : Int32)), (.int (0 : Int32)), (.int (2 : Int32))]) (rest := []) (lenOf pd_0 rfl) rfl (by show 2 * 0 + _ ≤ _; exact Nat.le_of_eq rfl) (hb hby d4_4) (fun _ _ => ⟨rfl, e0, (by decide : 0 + 0 ≤ _), (by decide : 0 + 0 ≤ _)⟩)
  dsimp only [Pt.U, Pt.locs, Pt.cells, Pt.slots] at X2 l2 y2 z2 st2 hQ2
  subst l2 y2 z2
  obtain ⟨rfl, N2q, hq3⟩ := hQ2
  have N2 := Fr.app N0 N2q
  obtain ⟨_, _, ⟨T4, L4, k4, n4⟩, -, X4, ⟨Lc4, hQ4, l4, y4, z4⟩, st4⟩ := Jvm.LawKit.callS X2 hx (y := (⟨"java/util/Arrays", "binarySearch0", "([IIII)I"⟩ : MethodName)) hown (mvT hZ (own_w hw 32 rfl)) (mvT hZ (own_w hw 33 rfl)) (mvT hZ (own_w hw 27 rfl)) (mvT hZ (own_w hw 34 rfl)) (by decide) (backOf (W := 0) (rm_bz2_3 l Z a0 hw [] oo ko k0 k1 g2 ky h0 n0 Z0 H0_A) hZ (own_w hw 34 rfl) (own_w hw 27 rfl) (by decide) (by decide)) (g := (mkF m 11 #[.val (.ref oo), .val (.int (0 : Int32)), .val (.int (2 : Int32)), .val (.int ky)] [(.int ky), (.int (2 : Int32)), (.int (0 : Int32)), (.ref oo)])) rfl (by rw [hml]; rfl) (argsL := [(.ref oo), (.int (0 : Int32)), (.int (2 : Int32)), (.int ky)]) (rest := []) (lenOf pd_1 rfl) rfl (by show 2 * 0 + _ ≤ _; exact Nat.le_of_eq rfl) (hb hby d4_11) (fun _ _ => ⟨rfl, hq3, (by decide : 0 + 0 ≤ _), (by decide : 0 + 0 ≤ _)⟩)
  dsimp only [Pt.U, Pt.locs, Pt.cells, Pt.slots] at X4 l4 y4 z4 st4 hQ4
  subst l4 y4 z4
  obtain ⟨x5, rfl, N4q, hq6, hpq7⟩ := hQ4
  have N4 := Fr.app N2 N4q
  have pre8 := fun (t : State) (k : Steps p.tables e below (T4.setTop (mkF m 14 #[.val (.ref oo), .val (.int (0 : Int32)), .val (.int (2 : Int32)), .val (.int ky)] [(.int x5)])) t) => pre0 t (by
    refine XS.aloadN X0.here hx rfl (hb hby d4_0) rfl rfl ?_
    refine X0.arraylength hx (by rw [e0]; exact Arc1.1) (State.isArrayOf_alike hZ.alike Arc1.2.1) (g := (mkF m 1 #[.val (.ref oo), .val (.int (0 : Int32)), .val (.int (2 : Int32)), .val (.int ky)] [(.ref oo)])) rfl rfl (hb hby d4_1) _ ?_
    rw [show c1.slots.size.toInt32 = (3 : Int32) from (len_of Sc1 Nc1)]
    refine XS.iloadN X0.here hx rfl (hb hby d4_2) rfl ?_
    refine XS.iloadN X0.here hx rfl (hb hby d4_3) rfl ?_
    refine st2 _ ?_
    refine XS.aloadN X2.here hx rfl (hb hby d4_7) rfl rfl ?_
    refine XS.iloadN X2.here hx rfl (hb hby d4_8) rfl ?_
    refine XS.iloadN X2.here hx rfl (hb hby d4_9) rfl ?_
    refine XS.iloadN X2.here hx rfl (hb hby d4_10) rfl ?_
    refine st4 _ ?_
    exact k)
  obtain ⟨fs, hr, hrun, hended, hW, hsame⟩ := X4.leave (v := some (.int x5)) (hlocks := BodyLoose.notSynchronized Bd) (fun h => by rw [Bd.returns] at h; cases h)
  refine ⟨_, _, pre8 _ ?_, hrun, hended, _, _, rfl, ?_, ⟨_, rfl⟩, hW, hsame.mono (by decide) (by decide)⟩
  · exact retI X4 hx Bd.returns (hb hby d4_14) hr
  · show Q_bs2_3 Z oo ko k0 k1 g2 ky h0 n0 _ T4.heap _
    rw [hq6]
    exact ⟨x5, rfl, N4, rfl, hpq7⟩

theorem ef_bz3_3 (m : MethodId) (x0 : Addr) (x1 : Int32) (x2 : Int32) (x3 : Int32) : entryFrame m #[(.ref x0), (.int x1), (.int x2), (.int x3)] 8 = mkF m 0 #[.val (.ref x0), .val (.int x1), .val (.int x2), .val (.int x3), .unset, .unset, .unset, .unset] [] := by first | (simp [entryFrame, mkF, argsToLocals, Value.category]; done) | rfl
def Q_bz3_3 (Z : State) (oo : Addr) (ko : ClassId) (k0 : Int32) (k1 : Int32) (k2 : Int32) (ky : Int32) (h0 : Heap) (n0 : Nat) (v : Option Value) (h : Heap) (L : List Loc) : Prop := ∃ r : Int32, v = some (.int r) ∧ Fr n0 L ∧ h = h0 ∧ ((r = (-4 : Int32) ∧ k1 < ky ∧ k2 < ky) ∨ (r = (-3 : Int32) ∧ k1 < ky ∧ ¬ (k2 < ky) ∧ ky < k2) ∨ (r = (2 : Int32) ∧ k1 < ky ∧ ¬ (k2 < ky) ∧ ¬ (ky < k2)) ∨ (r = (-2 : Int32) ∧ ¬ (k1 < ky) ∧ ky < k1 ∧ k0 < ky) ∨ (r = (-1 : Int32) ∧ ¬ (k1 < ky) ∧ ky < k1 ∧ ¬ (k0 < ky) ∧ ky < k0) ∨ (r = (0 : Int32) ∧ ¬ (k1 < ky) ∧ ky < k1 ∧ ¬ (k0 < ky) ∧ ¬ (ky < k0)) ∨ (r = (1 : Int32) ∧ ¬ (k1 < ky) ∧ ¬ (ky < k1)))
set_option maxRecDepth 65536 in
set_option maxHeartbeats 40000000 in
theorem rm_bz3_3 (l : Launch) (Z : State) (a0 : Array Value) (hw : ∀ d ∈ tables_1, d.before a0 Z = true) (ws : List Jvm.Cond) (oo : Addr) (ko : ClassId) (k0 : Int32) (k1 : Int32) (k2 : Int32) (ky : Int32) (h0 : Heap) (n0 : Nat) (Z0 : n0 ≤ h0.size) (H0_A : Arv Z h0 oo ko .int (3 : Int32) [(.int k0), (.int k1), (.int k2)] (.int (0 : Int32))) :
    MetFree l (⟨"java/util/Arrays", "binarySearch0", "([IIII)I"⟩ : MethodName) (head1 (Jvm.Cond.code (⟨"java/util/Arrays", "binarySearch0", "([IIII)I"⟩ : MethodName) jdk_65_method_59_code 8 (some .int) :: ws) ({ frames := 0, cells := 0, slots := 0, locals := 0 } : Room)) (fun as_ U_ => as_ = #[(.ref oo), (.int (0 : Int32)), (.int (3 : Int32)), (.int ky)] ∧ Z.Warmed39 U_.vm ∧ U_.heap = h0) (fun _ _ _ _ _ => True) (fun _ U o U' => ∃ v L, o = .returned v ∧ Q_bz3_3 Z oo ko k0 k1 k2 ky h0 n0 v U'.heap L ∧ FrameEnd U o U' L ({ frames := 0, cells := 0, slots := 0, locals := 0 } : Room).cells ({ frames := 0, cells := 0, slots := 0, locals := 0 } : Room).slots) := by
  refine MetFree.of_bodySF (plainFor_of_name pn_0) hisR ?_
  intro p e s m args below meth c s₁ Bd hml0 hP hK
  obtain ⟨rfl, hZ, hhp_⟩ := hP
  have hx := Bd.exec
  have hby := Bd.bytes
  have hml : c.maxLocals = 8 := hml0
  have hown : s.vm.findClass "java/util/Arrays" = some m.cls := findClass_of_methodNamed Bd.named
  have hnm := (name_of_methodNamed Bd.named Bd.method).1
  have X0 : Stand p l e ({ frames := 0, cells := 0, slots := 0, locals := 0 } : Room) s m #[(.ref oo), (.int (0 : Int32)), (.int (3 : Int32)), (.int ky)] below meth c s₁ [] 0 0 := Stand.of_body Bd
  have e0 : s₁.heap = h0 := by rw [← hhp_, Bd.state]; rfl
  have N0 := Fr.nil n0
  have pre0 : ∀ t, Steps p.tables e below (s₁.setTop (mkF m 0 #[.val (.ref oo), .val (.int (0 : Int32)), .val (.int (3 : Int32)), .val (.int ky), .unset, .unset, .unset, .unset] [])) t → Steps p.tables e below (s₁.setTop (entryFrame m #[(.ref oo), (.int (0 : Int32)), (.int (3 : Int32)), (.int ky)] 8)) t := fun t k => castTop (ef_bz3_3 m oo (0 : Int32) (3 : Int32) ky) k
  have oc1 := H0_A
  obtain ⟨c1, Arc1, qc1, Sc1, Nc1, Hc1, Gc1⟩ := oc1
  have hin2 : ¬ ((1 : Int32) < 0 ∨ c1.slots.size ≤ ((1 : Int32)).toNatClampNeg) := (inb_of Sc1 ⟨by decide, by decide⟩)
  have pre3 := fun (t : State) (k : Steps p.tables e below (s₁.setTop (mkF m 33 #[.val (.ref oo), .val (.int (0 : Int32)), .val (.int (3 : Int32)), .val (.int ky), .val (.int (0 : Int32)), .val (.int (2 : Int32)), .val (.int (1 : Int32)), .val (.int k1)] [(.int ky), (.int k1)])) t) => pre0 t (by
    refine XS.iloadN X0.here hx rfl (hb hby d6_0) rfl ?_
    refine XS.istore X0.here hx rfl (hb hby d6_1) rfl (l' := #[.val (.ref oo), .val (.int (0 : Int32)), .val (.int (3 : Int32)), .val (.int ky), .val (.int (0 : Int32)), .unset, .unset, .unset]) rfl ?_
    refine XS.iloadN X0.here hx rfl (hb hby d6_3) rfl ?_
    refine XS.iconst X0.here hx rfl (hb hby d6_4) ?_
    refine XS.isub X0.here hx rfl (hb hby d6_5) rfl ?_
    refine XS.istore X0.here hx rfl (hb hby d6_6) rfl (l' := #[.val (.ref oo), .val (.int (0 : Int32)), .val (.int (3 : Int32)), .val (.int ky), .val (.int (0 : Int32)), .val (.int (2 : Int32)), .unset, .unset]) rfl ?_
    refine XS.iload X0.here hx rfl (hb hby d6_8) rfl ?_
    refine XS.iload X0.here hx rfl (hb hby d6_10) rfl ?_
    refine XS.icmpNo X0.here hx rfl (hb hby d6_12) rfl (flt (by decide : ¬ ((2 : Int32) < (0 : Int32)))).2.2.1 ?_
    refine XS.iload X0.here hx rfl (hb hby d6_15) rfl ?_
    refine XS.iload X0.here hx rfl (hb hby d6_17) rfl ?_
    refine XS.iadd X0.here hx rfl (hb hby d6_19) rfl ?_
    refine XS.iconst X0.here hx rfl (hb hby d6_20) ?_
    refine XS.iushr X0.here hx rfl (hb hby d6_21) rfl ?_
    refine XS.istore X0.here hx rfl (hb hby d6_22) rfl (l' := #[.val (.ref oo), .val (.int (0 : Int32)), .val (.int (3 : Int32)), .val (.int ky), .val (.int (0 : Int32)), .val (.int (2 : Int32)), .val (.int (1 : Int32)), .unset]) rfl ?_
    refine XS.aloadN X0.here hx rfl (hb hby d6_24) rfl rfl ?_
    refine XS.iload X0.here hx rfl (hb hby d6_25) rfl ?_
    refine X0.iaload hx (j := (1 : Int32)) (v := (.int k1)) (by rw [e0]; exact Arc1.1) (State.isArrayOf_alike hZ.alike Arc1.2.1) Arc1.2.2 hin2 (Has.at Hc1 hin2 rfl) (g := (mkF m 27 #[.val (.ref oo), .val (.int (0 : Int32)), .val (.int (3 : Int32)), .val (.int ky), .val (.int (0 : Int32)), .val (.int (2 : Int32)), .val (.int (1 : Int32)), .unset] [(.int (1 : Int32)), (.ref oo)])) rfl rfl (hb hby d6_27) _ ?_
    refine XS.istore X0.here hx rfl (hb hby d6_28) rfl (l' := #[.val (.ref oo), .val (.int (0 : Int32)), .val (.int (3 : Int32)), .val (.int ky), .val (.int (0 : Int32)), .val (.int (2 : Int32)), .val (.int (1 : Int32)), .val (.int k1)]) rfl ?_
    refine XS.iload X0.here hx rfl (hb hby d6_30) rfl ?_
    refine XS.iloadN X0.here hx rfl (hb hby d6_32) rfl ?_
    exact k)
  by_cases hc4 : k1 < ky
  · have oc5 := H0_A
    obtain ⟨c5, Arc5, qc5, Sc5, Nc5, Hc5, Gc5⟩ := oc5
    have hin6 : ¬ ((2 : Int32) < 0 ∨ c5.slots.size ≤ ((2 : Int32)).toNatClampNeg) := (inb_of Sc5 ⟨by decide, by decide⟩)
    have pre7 := fun (t : State) (k : Steps p.tables e below (s₁.setTop (mkF m 33 #[.val (.ref oo), .val (.int (0 : Int32)), .val (.int (3 : Int32)), .val (.int ky), .val (.int (2 : Int32)), .val (.int (2 : Int32)), .val (.int (2 : Int32)), .val (.int k2)] [(.int ky), (.int k2)])) t) => pre3 t (by
      refine XS.icmpNo X0.here hx rfl (hb hby d6_33) rfl (tlt hc4).2.1 ?_
      refine XS.iload X0.here hx rfl (hb hby d6_36) rfl ?_
      refine XS.iconst X0.here hx rfl (hb hby d6_38) ?_
      refine XS.iadd X0.here hx rfl (hb hby d6_39) rfl ?_
      refine XS.istore X0.here hx rfl (hb hby d6_40) rfl (l' := #[.val (.ref oo), .val (.int (0 : Int32)), .val (.int (3 : Int32)), .val (.int ky), .val (.int (2 : Int32)), .val (.int (2 : Int32)), .val (.int (1 : Int32)), .val (.int k1)]) rfl ?_
      refine XS.goto X0.here hx rfl (pc0 := 42) (pc' := 63) rfl (hb hby d6_42) (by decide) (by decide) ?_
      refine XS.goto X0.here hx rfl (pc0 := 63) (pc' := 8) rfl (hb hby d6_63) (by decide) (by decide) ?_
      refine XS.iload X0.here hx rfl (hb hby d6_8) rfl ?_
      refine XS.iload X0.here hx rfl (hb hby d6_10) rfl ?_
      refine XS.icmpNo X0.here hx rfl (hb hby d6_12) rfl (flt (by decide : ¬ ((2 : Int32) < (2 : Int32)))).2.2.1 ?_
      refine XS.iload X0.here hx rfl (hb hby d6_15) rfl ?_
      refine XS.iload X0.here hx rfl (hb hby d6_17) rfl ?_
      refine XS.iadd X0.here hx rfl (hb hby d6_19) rfl ?_
      refine XS.iconst X0.here hx rfl (hb hby d6_20) ?_
      refine XS.iushr X0.here hx rfl (hb hby d6_21) rfl ?_
      refine XS.istore X0.here hx rfl (hb hby d6_22) rfl (l' := #[.val (.ref oo), .val (.int (0 : Int32)), .val (.int (3 : Int32)), .val (.int ky), .val (.int (2 : Int32)), .val (.int (2 : Int32)), .val (.int (2 : Int32)), .val (.int k1)]) rfl ?_
      refine XS.aloadN X0.here hx rfl (hb hby d6_24) rfl rfl ?_
      refine XS.iload X0.here hx rfl (hb hby d6_25) rfl ?_
      refine X0.iaload hx (j := (2 : Int32)) (v := (.int k2)) (by rw [e0]; exact Arc5.1) (State.isArrayOf_alike hZ.alike Arc5.2.1) Arc5.2.2 hin6 (Has.at Hc5 hin6 rfl) (g := (mkF m 27 #[.val (.ref oo), .val (.int (0 : Int32)), .val (.int (3 : Int32)), .val (.int ky), .val (.int (2 : Int32)), .val (.int (2 : Int32)), .val (.int (2 : Int32)), .val (.int k1)] [(.int (2 : Int32)), (.ref oo)])) rfl rfl (hb hby d6_27) _ ?_
      refine XS.istore X0.here hx rfl (hb hby d6_28) rfl (l' := #[.val (.ref oo), .val (.int (0 : Int32)), .val (.int (3 : Int32)), .val (.int ky), .val (.int (2 : Int32)), .val (.int (2 : Int32)), .val (.int (2 : Int32)), .val (.int k2)]) rfl ?_
      refine XS.iload X0.here hx rfl (hb hby d6_30) rfl ?_
      refine XS.iloadN X0.here hx rfl (hb hby d6_32) rfl ?_
      exact k)
    by_cases hc8 : k2 < ky
    · have pre9 := fun (t : State) (k : Steps p.tables e below (s₁.setTop (mkF m 71 #[.val (.ref oo), .val (.int (0 : Int32)), .val (.int (3 : Int32)), .val (.int ky), .val (.int (3 : Int32)), .val (.int (2 : Int32)), .val (.int (2 : Int32)), .val (.int k2)] [(.int (-4 : Int32))])) t) => pre7 t (by
        refine XS.icmpNo X0.here hx rfl (hb hby d6_33) rfl (tlt hc8).2.1 ?_
        refine XS.iload X0.here hx rfl (hb hby d6_36) rfl ?_
        refine XS.iconst X0.here hx rfl (hb hby d6_38) ?_
        refine XS.iadd X0.here hx rfl (hb hby d6_39) rfl ?_
        refine XS.istore X0.here hx rfl (hb hby d6_40) rfl (l' := #[.val (.ref oo), .val (.int (0 : Int32)), .val (.int (3 : Int32)), .val (.int ky), .val (.int (3 : Int32)), .val (.int (2 : Int32)), .val (.int (2 : Int32)), .val (.int k2)]) rfl ?_
        refine XS.goto X0.here hx rfl (pc0 := 42) (pc' := 63) rfl (hb hby d6_42) (by decide) (by decide) ?_
        refine XS.goto X0.here hx rfl (pc0 := 63) (pc' := 8) rfl (hb hby d6_63) (by decide) (by decide) ?_
        refine XS.iload X0.here hx rfl (hb hby d6_8) rfl ?_
        refine XS.iload X0.here hx rfl (hb hby d6_10) rfl ?_
        refine XS.icmpYes X0.here hx rfl (pc0 := 12) (pc' := 66) rfl (hb hby d6_12) rfl (tlt (by decide : (2 : Int32) < (3 : Int32))).2.2.1 (by decide) (by decide) ?_
        refine XS.iload X0.here hx rfl (hb hby d6_66) rfl ?_
        refine XS.iconst X0.here hx rfl (hb hby d6_68) ?_
        refine XS.iadd X0.here hx rfl (hb hby d6_69) rfl ?_
        refine XS.ineg X0.here hx rfl (hb hby d6_70) rfl ?_
        exact k)
      obtain ⟨fs, hr, hrun, hended, hW, hsame⟩ := X0.leave (v := some (.int (-4 : Int32))) (hlocks := BodyLoose.notSynchronized Bd) (fun h => by rw [Bd.returns] at h; cases h)
      refine ⟨_, _, pre9 _ ?_, hrun, hended, _, _, rfl, ?_, ⟨_, rfl⟩, hW, hsame.mono (by decide) (by decide)⟩
      · exact retI X0 hx Bd.returns (hb hby d6_71) hr
      · show Q_bz3_3 Z oo ko k0 k1 k2 ky h0 n0 _ s₁.heap _
        rw [e0]
        exact ⟨(-4 : Int32), rfl, N0, rfl, (Or.inl ⟨rfl, hc4, hc8⟩)⟩
    · have pre10 := fun (t : State) (k : Steps p.tables e below (s₁.setTop (mkF m 48 #[.val (.ref oo), .val (.int (0 : Int32)), .val (.int (3 : Int32)), .val (.int ky), .val (.int (2 : Int32)), .val (.int (2 : Int32)), .val (.int (2 : Int32)), .val (.int k2)] [(.int ky), (.int k2)])) t) => pre7 t (by
        refine XS.icmpYes X0.here hx rfl (pc0 := 33) (pc' := 45) rfl (hb hby d6_33) rfl (flt hc8).2.1 (by decide) (by decide) ?_
        refine XS.iload X0.here hx rfl (hb hby d6_45) rfl ?_
        refine XS.iloadN X0.here hx rfl (hb hby d6_47) rfl ?_
        exact k)
      by_cases hc11 : ky < k2
      · have pre12 := fun (t : State) (k : Steps p.tables e below (s₁.setTop (mkF m 71 #[.val (.ref oo), .val (.int (0 : Int32)), .val (.int (3 : Int32)), .val (.int ky), .val (.int (2 : Int32)), .val (.int (1 : Int32)), .val (.int (2 : Int32)), .val (.int k2)] [(.int (-3 : Int32))])) t) => pre10 t (by
          refine XS.icmpNo X0.here hx rfl (hb hby d6_48) rfl (tlt hc11).2.2.2 ?_
          refine XS.iload X0.here hx rfl (hb hby d6_51) rfl ?_
          refine XS.iconst X0.here hx rfl (hb hby d6_53) ?_
          refine XS.isub X0.here hx rfl (hb hby d6_54) rfl ?_
          refine XS.istore X0.here hx rfl (hb hby d6_55) rfl (l' := #[.val (.ref oo), .val (.int (0 : Int32)), .val (.int (3 : Int32)), .val (.int ky), .val (.int (2 : Int32)), .val (.int (1 : Int32)), .val (.int (2 : Int32)), .val (.int k2)]) rfl ?_
          refine XS.goto X0.here hx rfl (pc0 := 57) (pc' := 63) rfl (hb hby d6_57) (by decide) (by decide) ?_
          refine XS.goto X0.here hx rfl (pc0 := 63) (pc' := 8) rfl (hb hby d6_63) (by decide) (by decide) ?_
          refine XS.iload X0.here hx rfl (hb hby d6_8) rfl ?_
          refine XS.iload X0.here hx rfl (hb hby d6_10) rfl ?_
          refine XS.icmpYes X0.here hx rfl (pc0 := 12) (pc' := 66) rfl (hb hby d6_12) rfl (tlt (by decide : (1 : Int32) < (2 : Int32))).2.2.1 (by decide) (by decide) ?_
          refine XS.iload X0.here hx rfl (hb hby d6_66) rfl ?_
          refine XS.iconst X0.here hx rfl (hb hby d6_68) ?_
          refine XS.iadd X0.here hx rfl (hb hby d6_69) rfl ?_
          refine XS.ineg X0.here hx rfl (hb hby d6_70) rfl ?_
          exact k)
        obtain ⟨fs, hr, hrun, hended, hW, hsame⟩ := X0.leave (v := some (.int (-3 : Int32))) (hlocks := BodyLoose.notSynchronized Bd) (fun h => by rw [Bd.returns] at h; cases h)
        refine ⟨_, _, pre12 _ ?_, hrun, hended, _, _, rfl, ?_, ⟨_, rfl⟩, hW, hsame.mono (by decide) (by decide)⟩
        · exact retI X0 hx Bd.returns (hb hby d6_71) hr
        · show Q_bz3_3 Z oo ko k0 k1 k2 ky h0 n0 _ s₁.heap _
          rw [e0]
          exact ⟨(-3 : Int32), rfl, N0, rfl, (Or.inr (Or.inl ⟨rfl, hc4, hc8, hc11⟩))⟩
      · have pre13 := fun (t : State) (k : Steps p.tables e below (s₁.setTop (mkF m 62 #[.val (.ref oo), .val (.int (0 : Int32)), .val (.int (3 : Int32)), .val (.int ky), .val (.int (2 : Int32)), .val (.int (2 : Int32)), .val (.int (2 : Int32)), .val (.int k2)] [(.int (2 : Int32))])) t) => pre10 t (by
          refine XS.icmpYes X0.here hx rfl (pc0 := 48) (pc' := 60) rfl (hb hby d6_48) rfl (flt hc11).2.2.2 (by decide) (by decide) ?_
          refine XS.iload X0.here hx rfl (hb hby d6_60) rfl ?_
          exact k)
        obtain ⟨fs, hr, hrun, hended, hW, hsame⟩ := X0.leave (v := some (.int (2 : Int32))) (hlocks := BodyLoose.notSynchronized Bd) (fun h => by rw [Bd.returns] at h; cases h)
        refine ⟨_, _, pre13 _ ?_, hrun, hended, _, _, rfl, ?_, ⟨_, rfl⟩, hW, hsame.mono (by decide) (by decide)⟩
        · exact retI X0 hx Bd.returns (hb hby d6_62) hr
        · show Q_bz3_3 Z oo ko k0 k1 k2 ky h0 n0 _ s₁.heap _
          rw [e0]
          exact ⟨(2 : Int32), rfl, N0, rfl, (Or.inr (Or.inr (Or.inl ⟨rfl, hc4, hc8, hc11⟩)))⟩
  · have pre14 := fun (t : State) (k : Steps p.tables e below (s₁.setTop (mkF m 48 #[.val (.ref oo), .val (.int (0 : Int32)), .val (.int (3 : Int32)), .val (.int ky), .val (.int (0 : Int32)), .val (.int (2 : Int32)), .val (.int (1 : Int32)), .val (.int k1)] [(.int ky), (.int k1)])) t) => pre3 t (by
      refine XS.icmpYes X0.here hx rfl (pc0 := 33) (pc' := 45) rfl (hb hby d6_33) rfl (flt hc4).2.1 (by decide) (by decide) ?_
      refine XS.iload X0.here hx rfl (hb hby d6_45) rfl ?_
      refine XS.iloadN X0.here hx rfl (hb hby d6_47) rfl ?_
      exact k)
    by_cases hc15 : ky < k1
    · have oc16 := H0_A
      obtain ⟨c16, Arc16, qc16, Sc16, Nc16, Hc16, Gc16⟩ := oc16
      have hin17 : ¬ ((0 : Int32) < 0 ∨ c16.slots.size ≤ ((0 : Int32)).toNatClampNeg) := (inb_of Sc16 ⟨by decide, by decide⟩)
      have pre18 := fun (t : State) (k : Steps p.tables e below (s₁.setTop (mkF m 33 #[.val (.ref oo), .val (.int (0 : Int32)), .val (.int (3 : Int32)), .val (.int ky), .val (.int (0 : Int32)), .val (.int (0 : Int32)), .val (.int (0 : Int32)), .val (.int k0)] [(.int ky), (.int k0)])) t) => pre14 t (by
        refine XS.icmpNo X0.here hx rfl (hb hby d6_48) rfl (tlt hc15).2.2.2 ?_
        refine XS.iload X0.here hx rfl (hb hby d6_51) rfl ?_
        refine XS.iconst X0.here hx rfl (hb hby d6_53) ?_
        refine XS.isub X0.here hx rfl (hb hby d6_54) rfl ?_
        refine XS.istore X0.here hx rfl (hb hby d6_55) rfl (l' := #[.val (.ref oo), .val (.int (0 : Int32)), .val (.int (3 : Int32)), .val (.int ky), .val (.int (0 : Int32)), .val (.int (0 : Int32)), .val (.int (1 : Int32)), .val (.int k1)]) rfl ?_
        refine XS.goto X0.here hx rfl (pc0 := 57) (pc' := 63) rfl (hb hby d6_57) (by decide) (by decide) ?_
        refine XS.goto X0.here hx rfl (pc0 := 63) (pc' := 8) rfl (hb hby d6_63) (by decide) (by decide) ?_
        refine XS.iload X0.here hx rfl (hb hby d6_8) rfl ?_
        refine XS.iload X0.here hx rfl (hb hby d6_10) rfl ?_
        refine XS.icmpNo X0.here hx rfl (hb hby d6_12) rfl (flt (by decide : ¬ ((0 : Int32) < (0 : Int32)))).2.2.1 ?_
        refine XS.iload X0.here hx rfl (hb hby d6_15) rfl ?_
        refine XS.iload X0.here hx rfl (hb hby d6_17) rfl ?_
        refine XS.iadd X0.here hx rfl (hb hby d6_19) rfl ?_
        refine XS.iconst X0.here hx rfl (hb hby d6_20) ?_
        refine XS.iushr X0.here hx rfl (hb hby d6_21) rfl ?_
        refine XS.istore X0.here hx rfl (hb hby d6_22) rfl (l' := #[.val (.ref oo), .val (.int (0 : Int32)), .val (.int (3 : Int32)), .val (.int ky), .val (.int (0 : Int32)), .val (.int (0 : Int32)), .val (.int (0 : Int32)), .val (.int k1)]) rfl ?_
        refine XS.aloadN X0.here hx rfl (hb hby d6_24) rfl rfl ?_
        refine XS.iload X0.here hx rfl (hb hby d6_25) rfl ?_
        refine X0.iaload hx (j := (0 : Int32)) (v := (.int k0)) (by rw [e0]; exact Arc16.1) (State.isArrayOf_alike hZ.alike Arc16.2.1) Arc16.2.2 hin17 (Has.at Hc16 hin17 rfl) (g := (mkF m 27 #[.val (.ref oo), .val (.int (0 : Int32)), .val (.int (3 : Int32)), .val (.int ky), .val (.int (0 : Int32)), .val (.int (0 : Int32)), .val (.int (0 : Int32)), .val (.int k1)] [(.int (0 : Int32)), (.ref oo)])) rfl rfl (hb hby d6_27) _ ?_
        refine XS.istore X0.here hx rfl (hb hby d6_28) rfl (l' := #[.val (.ref oo), .val (.int (0 : Int32)), .val (.int (3 : Int32)), .val (.int ky), .val (.int (0 : Int32)), .val (.int (0 : Int32)), .val (.int (0 : Int32)), .val (.int k0)]) rfl ?_
        refine XS.iload X0.here hx rfl (hb hby d6_30) rfl ?_
        refine XS.iloadN X0.here hx rfl (hb hby d6_32) rfl ?_
        exact k)
      by_cases hc19 : k0 < ky
      · have pre20 := fun (t : State) (k : Steps p.tables e below (s₁.setTop (mkF m 71 #[.val (.ref oo), .val (.int (0 : Int32)), .val (.int (3 : Int32)), .val (.int ky), .val (.int (1 : Int32)), .val (.int (0 : Int32)), .val (.int (0 : Int32)), .val (.int k0)] [(.int (-2 : Int32))])) t) => pre18 t (by
          refine XS.icmpNo X0.here hx rfl (hb hby d6_33) rfl (tlt hc19).2.1 ?_
          refine XS.iload X0.here hx rfl (hb hby d6_36) rfl ?_
          refine XS.iconst X0.here hx rfl (hb hby d6_38) ?_
          refine XS.iadd X0.here hx rfl (hb hby d6_39) rfl ?_
          refine XS.istore X0.here hx rfl (hb hby d6_40) rfl (l' := #[.val (.ref oo), .val (.int (0 : Int32)), .val (.int (3 : Int32)), .val (.int ky), .val (.int (1 : Int32)), .val (.int (0 : Int32)), .val (.int (0 : Int32)), .val (.int k0)]) rfl ?_
          refine XS.goto X0.here hx rfl (pc0 := 42) (pc' := 63) rfl (hb hby d6_42) (by decide) (by decide) ?_
          refine XS.goto X0.here hx rfl (pc0 := 63) (pc' := 8) rfl (hb hby d6_63) (by decide) (by decide) ?_
          refine XS.iload X0.here hx rfl (hb hby d6_8) rfl ?_
          refine XS.iload X0.here hx rfl (hb hby d6_10) rfl ?_
          refine XS.icmpYes X0.here hx rfl (pc0 := 12) (pc' := 66) rfl (hb hby d6_12) rfl (tlt (by decide : (0 : Int32) < (1 : Int32))).2.2.1 (by decide) (by decide) ?_
          refine XS.iload X0.here hx rfl (hb hby d6_66) rfl ?_
          refine XS.iconst X0.here hx rfl (hb hby d6_68) ?_
          refine XS.iadd X0.here hx rfl (hb hby d6_69) rfl ?_
          refine XS.ineg X0.here hx rfl (hb hby d6_70) rfl ?_
          exact k)
        obtain ⟨fs, hr, hrun, hended, hW, hsame⟩ := X0.leave (v := some (.int (-2 : Int32))) (hlocks := BodyLoose.notSynchronized Bd) (fun h => by rw [Bd.returns] at h; cases h)
        refine ⟨_, _, pre20 _ ?_, hrun, hended, _, _, rfl, ?_, ⟨_, rfl⟩, hW, hsame.mono (by decide) (by decide)⟩
        · exact retI X0 hx Bd.returns (hb hby d6_71) hr
        · show Q_bz3_3 Z oo ko k0 k1 k2 ky h0 n0 _ s₁.heap _
          rw [e0]
          exact ⟨(-2 : Int32), rfl, N0, rfl, (Or.inr (Or.inr (Or.inr (Or.inl ⟨rfl, hc4, hc15, hc19⟩))))⟩
      · have pre21 := fun (t : State) (k : Steps p.tables e below (s₁.setTop (mkF m 48 #[.val (.ref oo), .val (.int (0 : Int32)), .val (.int (3 : Int32)), .val (.int ky), .val (.int (0 : Int32)), .val (.int (0 : Int32)), .val (.int (0 : Int32)), .val (.int k0)] [(.int ky), (.int k0)])) t) => pre18 t (by
          refine XS.icmpYes X0.here hx rfl (pc0 := 33) (pc' := 45) rfl (hb hby d6_33) rfl (flt hc19).2.1 (by decide) (by decide) ?_
          refine XS.iload X0.here hx rfl (hb hby d6_45) rfl ?_
          refine XS.iloadN X0.here hx rfl (hb hby d6_47) rfl ?_
          exact k)
        by_cases hc22 : ky < k0
        · have pre23 := fun (t : State) (k : Steps p.tables e below (s₁.setTop (mkF m 71 #[.val (.ref oo), .val (.int (0 : Int32)), .val (.int (3 : Int32)), .val (.int ky), .val (.int (0 : Int32)), .val (.int (-1 : Int32)), .val (.int (0 : Int32)), .val (.int k0)] [(.int (-1 : Int32))])) t) => pre21 t (by
            refine XS.icmpNo X0.here hx rfl (hb hby d6_48) rfl (tlt hc22).2.2.2 ?_
            refine XS.iload X0.here hx rfl (hb hby d6_51) rfl ?_
            refine XS.iconst X0.here hx rfl (hb hby d6_53) ?_
            refine XS.isub X0.here hx rfl (hb hby d6_54) rfl ?_
            refine XS.istore X0.here hx rfl (hb hby d6_55) rfl (l' := #[.val (.ref oo), .val (.int (0 : Int32)), .val (.int (3 : Int32)), .val (.int ky), .val (.int (0 : Int32)), .val (.int (-1 : Int32)), .val (.int (0 : Int32)), .val (.int k0)]) rfl ?_
            refine XS.goto X0.here hx rfl (pc0 := 57) (pc' := 63) rfl (hb hby d6_57) (by decide) (by decide) ?_
            refine XS.goto X0.here hx rfl (pc0 := 63) (pc' := 8) rfl (hb hby d6_63) (by decide) (by decide) ?_
            refine XS.iload X0.here hx rfl (hb hby d6_8) rfl ?_
            refine XS.iload X0.here hx rfl (hb hby d6_10) rfl ?_
            refine XS.icmpYes X0.here hx rfl (pc0 := 12) (pc' := 66) rfl (hb hby d6_12) rfl (tlt (by decide : (-1 : Int32) < (0 : Int32))).2.2.1 (by decide) (by decide) ?_
            refine XS.iload X0.here hx rfl (hb hby d6_66) rfl ?_
            refine XS.iconst X0.here hx rfl (hb hby d6_68) ?_
            refine XS.iadd X0.here hx rfl (hb hby d6_69) rfl ?_
            refine XS.ineg X0.here hx rfl (hb hby d6_70) rfl ?_
            exact k)
          obtain ⟨fs, hr, hrun, hended, hW, hsame⟩ := X0.leave (v := some (.int (-1 : Int32))) (hlocks := BodyLoose.notSynchronized Bd) (fun h => by rw [Bd.returns] at h; cases h)
          refine ⟨_, _, pre23 _ ?_, hrun, hended, _, _, rfl, ?_, ⟨_, rfl⟩, hW, hsame.mono (by decide) (by decide)⟩
          · exact retI X0 hx Bd.returns (hb hby d6_71) hr
          · show Q_bz3_3 Z oo ko k0 k1 k2 ky h0 n0 _ s₁.heap _
            rw [e0]
            exact ⟨(-1 : Int32), rfl, N0, rfl, (Or.inr (Or.inr (Or.inr (Or.inr (Or.inl ⟨rfl, hc4, hc15, hc19, hc22⟩)))))⟩
        · have pre24 := fun (t : State) (k : Steps p.tables e below (s₁.setTop (mkF m 62 #[.val (.ref oo), .val (.int (0 : Int32)), .val (.int (3 : Int32)), .val (.int ky), .val (.int (0 : Int32)), .val (.int (0 : Int32)), .val (.int (0 : Int32)), .val (.int k0)] [(.int (0 : Int32))])) t) => pre21 t (by
            refine XS.icmpYes X0.here hx rfl (pc0 := 48) (pc' := 60) rfl (hb hby d6_48) rfl (flt hc22).2.2.2 (by decide) (by decide) ?_
            refine XS.iload X0.here hx rfl (hb hby d6_60) rfl ?_
            exact k)
          obtain ⟨fs, hr, hrun, hended, hW, hsame⟩ := X0.leave (v := some (.int (0 : Int32))) (hlocks := BodyLoose.notSynchronized Bd) (fun h => by rw [Bd.returns] at h; cases h)
          refine ⟨_, _, pre24 _ ?_, hrun, hended, _, _, rfl, ?_, ⟨_, rfl⟩, hW, hsame.mono (by decide) (by decide)⟩
          · exact retI X0 hx Bd.returns (hb hby d6_62) hr
          · show Q_bz3_3 Z oo ko k0 k1 k2 ky h0 n0 _ s₁.heap _
            rw [e0]
            exact ⟨(0 : Int32), rfl, N0, rfl, (Or.inr (Or.inr (Or.inr (Or.inr (Or.inr (Or.inl ⟨rfl, hc4, hc15, hc19, hc22⟩))))))⟩
    · have pre25 := fun (t : State) (k : Steps p.tables e below (s₁.setTop (mkF m 62 #[.val (.ref oo), .val (.int (0 : Int32)), .val (.int (3 : Int32)), .val (.int ky), .val (.int (0 : Int32)), .val (.int (2 : Int32)), .val (.int (1 : Int32)), .val (.int k1)] [(.int (1 : Int32))])) t) => pre14 t (by
        refine XS.icmpYes X0.here hx rfl (pc0 := 48) (pc' := 60) rfl (hb hby d6_48) rfl (flt hc15).2.2.2 (by decide) (by decide) ?_
        refine XS.iload X0.here hx rfl (hb hby d6_60) rfl ?_
        exact k)
      obtain ⟨fs, hr, hrun, hended, hW, hsame⟩ := X0.leave (v := some (.int (1 : Int32))) (hlocks := BodyLoose.notSynchronized Bd) (fun h => by rw [Bd.returns] at h; cases h)
      refine ⟨_, _, pre25 _ ?_, hrun, hended, _, _, rfl, ?_, ⟨_, rfl⟩, hW, hsame.mono (by decide) (by decide)⟩
      · exact retI X0 hx Bd.returns (hb hby d6_62) hr
      · show Q_bz3_3 Z oo ko k0 k1 k2 ky h0 n0 _ s₁.heap _
        rw [e0]
        exact ⟨(1 : Int32), rfl, N0, rfl, (Or.inr (Or.inr (Or.inr (Or.inr (Or.inr (Or.inr ⟨rfl, hc4, hc15⟩))))))⟩

theorem ef_bs3_3 (m : MethodId) (x0 : Addr) (x1 : Int32) (x2 : Int32) (x3 : Int32) : entryFrame m #[(.ref x0), (.int x1), (.int x2), (.int x3)] 4 = mkF m 0 #[.val (.ref x0), .val (.int x1), .val (.int x2), .val (.int x3)] [] := by first | (simp [entryFrame, mkF, argsToLocals, Value.category]; done) | rfl
def Q_bs3_3 (Z : State) (oo : Addr) (ko : ClassId) (k0 : Int32) (k1 : Int32) (k2 : Int32) (ky : Int32) (h0 : Heap) (n0 : Nat) (v : Option Value) (h : Heap) (L : List Loc) : Prop := ∃ r : Int32, v = some (.int r) ∧ Fr n0 L ∧ h = h0 ∧ ((r = (-4 : Int32) ∧ k1 < ky ∧ k2 < ky) ∨ (r = (-3 : Int32) ∧ k1 < ky ∧ ¬ (k2 < ky) ∧ ky < k2) ∨ (r = (2 : Int32) ∧ k1 < ky ∧ ¬ (k2 < ky) ∧ ¬ (ky < k2)) ∨ (r = (-2 : Int32) ∧ ¬ (k1 < ky) ∧ ky < k1 ∧ k0 < ky) ∨ (r = (-1 : Int32) ∧ ¬ (k1 < ky) ∧ ky < k1 ∧ ¬ (k0 < ky) ∧ ky < k0) ∨ (r = (0 : Int32) ∧ ¬ (k1 < ky) ∧ ky < k1 ∧ ¬ (k0 < ky) ∧ ¬ (ky < k0)) ∨ (r = (1 : Int32) ∧ ¬ (k1 < ky) ∧ ¬ (ky < k1)))
set_option maxRecDepth 65536 in
set_option maxHeartbeats 40000000 in
theorem rm_bs3_3 (l : Launch) (Z : State) (a0 : Array Value) (hw : ∀ d ∈ tables_1, d.before a0 Z = true) (ws : List Jvm.Cond) (oo : Addr) (ko : ClassId) (k0 : Int32) (k1 : Int32) (k2 : Int32) (ky : Int32) (h0 : Heap) (n0 : Nat) (Z0 : n0 ≤ h0.size) (H0_A : Arv Z h0 oo ko .int (3 : Int32) [(.int k0), (.int k1), (.int k2)] (.int (0 : Int32))) :
    MetFree l (⟨"java/util/Arrays", "binarySearch", "([IIII)I"⟩ : MethodName) (head1 (Jvm.Cond.code (⟨"java/util/Arrays", "binarySearch", "([IIII)I"⟩ : MethodName) jdk_65_method_58_code 4 (some .int) :: ws) ({ frames := 1, cells := 0, slots := 0, locals := 19 } : Room)) (fun as_ U_ => as_ = #[(.ref oo), (.int (0 : Int32)), (.int (3 : Int32)), (.int ky)] ∧ Z.Warmed39 U_.vm ∧ U_.heap = h0) (fun _ _ _ _ _ => True) (fun _ U o U' => ∃ v L, o = .returned v ∧ Q_bs3_3 Z oo ko k0 k1 k2 ky h0 n0 v U'.heap L ∧ FrameEnd U o U' L ({ frames := 1, cells := 0, slots := 0, locals := 19 } : Room).cells ({ frames := 1, cells := 0, slots := 0, locals := 19 } : Room).slots) := by
  refine MetFree.of_bodySF (plainFor_of_name pn_0) hisR ?_
  intro p e s m args below meth c s₁ Bd hml0 hP hK
  obtain ⟨rfl, hZ, hhp_⟩ := hP
  have hx := Bd.exec
  have hby := Bd.bytes
  have hml : c.maxLocals = 4 := hml0
  have hown : s.vm.findClass "java/util/Arrays" = some m.cls := findClass_of_methodNamed Bd.named
  have hnm := (name_of_methodNamed Bd.named Bd.method).1
  have X0 : Stand p l e ({ frames := 1, cells := 0, slots := 0, locals := 19 } : Room) s m #[(.ref oo), (.int (0 : Int32)), (.int (3 : Int32)), (.int ky)] below meth c s₁ [] 0 0 := Stand.of_body Bd
  have e0 : s₁.heap = h0 := by rw [← hhp_, Bd.state]; rfl
  have N0 := Fr.nil n0
  have pre0 : ∀ t, Steps p.tables e below (s₁.setTop (mkF m 0 #[.val (.ref oo), .val (.int (0 : Int32)), .val (.int (3 : Int32)), .val (.int ky)] [])) t → Steps p.tables e below (s₁.setTop (entryFrame m #[(.ref oo), (.int (0 : Int32)), (.int (3 : Int32)), (.int ky)] 4)) t := fun t k => castTop (ef_bs3_3 m oo (0 : Int32) (3 : Int32) ky) k
  have oc1 := H0_A
  obtain ⟨c1, Arc1, qc1, Sc1, Nc1, Hc1, Gc1⟩ := oc1
  obtain ⟨_, _, ⟨T2, L2, k2, n2⟩, -, X2, ⟨Lc2, hQ2, l2, y2, z2⟩, st2⟩ := Jvm.LawKit.callS X0 hx (y := (⟨"java/util/Arrays", "rangeCheck", "(III)V"⟩ : MethodName)) hown (mvT hZ (own_w hw 29 rfl)) (mvT hZ (own_w hw 30 rfl)) (mvT hZ (own_w hw 27 rfl)) (mvT hZ (own_w hw 31 rfl)) (by decide) (backOf (W := 0) (rm_rc l Z a0 hw [] (3 : Int32) (0 : Int32) (3 : Int32) h0 n0 Z0 (by decide) (by decide) (by decide)) hZ (own_w hw 31 rfl) (own_w hw 27 rfl) (by decide) (by decide)) (g := (mkF m 4 #[.val (.ref oo), .val (.int (0 : Int32)), .val (.int (3 : Int32)), .val (.int ky)] [(.int (3 : Int32)), (.int (0 : Int32)), (.int (3 : Int32))])) rfl (by rw [hml]; rfl) (argsL := [(.int (3 : Int32)), (.int (0 : Int32)), (.int (3 : Int32))]) (rest := []) (lenOf pd_0 rfl) rfl (by show 2 * 0 + _ ≤ _; exact Nat.le_of_eq rfl) (hb hby d4_4) (fun _ _ => ⟨rfl, e0, (by decide : 0 + 0 ≤ _), (by decide : 0 + 0 ≤ _)⟩)
  dsimp only [Pt.U, Pt.locs, Pt.cells, Pt.slots] at X2 l2 y2 z2 st2 hQ2
  subst l2 y2 z2
  obtain ⟨rfl, N2q, hq3⟩ := hQ2
  have N2 := Fr.app N0 N2q
  obtain ⟨_, _, ⟨T4, L4, k4, n4⟩, -, X4, ⟨Lc4, hQ4, l4, y4, z4⟩, st4⟩ := Jvm.LawKit.callS X2 hx (y := (⟨"java/util/Arrays", "binarySearch0", "([IIII)I"⟩ : MethodName)) hown (mvT hZ (own_w hw 32 rfl)) (mvT hZ (own_w hw 33 rfl)) (mvT hZ (own_w hw 27 rfl)) (mvT hZ (own_w hw 34 rfl)) (by decide) (backOf (W := 0) (rm_bz3_3 l Z a0 hw [] oo ko k0 k1 k2 ky h0 n0 Z0 H0_A) hZ (own_w hw 34 rfl) (own_w hw 27 rfl) (by decide) (by decide)) (g := (mkF m 11 #[.val (.ref oo), .val (.int (0 : Int32)), .val (.int (3 : Int32)), .val (.int ky)] [(.int ky), (.int (3 : Int32)), (.int (0 : Int32)), (.ref oo)])) rfl (by rw [hml]; rfl) (argsL := [(.ref oo), (.int (0 : Int32)), (.int (3 : Int32)), (.int ky)]) (rest := []) (lenOf pd_1 rfl) rfl (by show 2 * 0 + _ ≤ _; exact Nat.le_of_eq rfl) (hb hby d4_11) (fun _ _ => ⟨rfl, hq3, (by decide : 0 + 0 ≤ _), (by decide : 0 + 0 ≤ _)⟩)
  dsimp only [Pt.U, Pt.locs, Pt.cells, Pt.slots] at X4 l4 y4 z4 st4 hQ4
  subst l4 y4 z4
  obtain ⟨x5, rfl, N4q, hq6, hpq7⟩ := hQ4
  have N4 := Fr.app N2 N4q
  have pre8 := fun (t : State) (k : Steps p.tables e below (T4.setTop (mkF m 14 #[.val (.ref oo), .val (.int (0 : Int32)), .val (.int (3 : Int32)), .val (.int ky)] [(.int x5)])) t) => pre0 t (by
    refine XS.aloadN X0.here hx rfl (hb hby d4_0) rfl rfl ?_
    refine X0.arraylength hx (by rw [e0]; exact Arc1.1) (State.isArrayOf_alike hZ.alike Arc1.2.1) (g := (mkF m 1 #[.val (.ref oo), .val (.int (0 : Int32)), .val (.int (3 : Int32)), .val (.int ky)] [(.ref oo)])) rfl rfl (hb hby d4_1) _ ?_
    rw [show c1.slots.size.toInt32 = (3 : Int32) from (len_of Sc1 Nc1)]
    refine XS.iloadN X0.here hx rfl (hb hby d4_2) rfl ?_
    refine XS.iloadN X0.here hx rfl (hb hby d4_3) rfl ?_
    refine st2 _ ?_
    refine XS.aloadN X2.here hx rfl (hb hby d4_7) rfl rfl ?_
    refine XS.iloadN X2.here hx rfl (hb hby d4_8) rfl ?_
    refine XS.iloadN X2.here hx rfl (hb hby d4_9) rfl ?_
    refine XS.iloadN X2.here hx rfl (hb hby d4_10) rfl ?_
    refine st4 _ ?_
    exact k)
  obtain ⟨fs, hr, hrun, hended, hW, hsame⟩ := X4.leave (v := some (.int x5)) (hlocks := BodyLoose.notSynchronized Bd) (fun h => by rw [Bd.returns] at h; cases h)
  refine ⟨_, _, pre8 _ ?_, hrun, hended, _, _, rfl, ?_, ⟨_, rfl⟩, hW, hsame.mono (by decide) (by decide)⟩
  · exact retI X4 hx Bd.returns (hb hby d4_14) hr
  · show Q_bs3_3 Z oo ko k0 k1 k2 ky h0 n0 _ T4.heap _
    rw [hq6]
    exact ⟨x5, rfl, N4, rfl, hpq7⟩

theorem ef_cpI0_1 (m : MethodId) (x0 : Addr) (x1 : Int32) : entryFrame m #[(.ref x0), (.int x1)] 3 = mkF m 0 #[.val (.ref x0), .val (.int x1), .unset] [] := by first | (simp [entryFrame, mkF, argsToLocals, Value.category]; done) | rfl
def Q_cpI0_1 (Z : State) (oo : Addr) (ko : ClassId) (h0 : Heap) (n0 : Nat) (v : Option Value) (h : Heap) (L : List Loc) : Prop := ∃ xx : Addr, ∃ kx : ClassId, v = some (.ref xx) ∧ Fr n0 L ∧ Keep h0 h [] ∧ n0 ≤ xx ∧ h0.size ≤ xx ∧ Arv Z h xx kx .int (1 : Int32) [(.int (0 : Int32))] (.int (0 : Int32)) ∧ Exa Z h xx "[I"
set_option maxRecDepth 65536 in
set_option maxHeartbeats 40000000 in
theorem rm_cpI0_1 (l : Launch) (Z : State) (a0 : Array Value) (hw : ∀ d ∈ tables_1, d.before a0 Z = true) (ws : List Jvm.Cond) (oo : Addr) (ko : ClassId) (h0 : Heap) (n0 : Nat) (Z0 : n0 ≤ h0.size) (H0_A : Arv Z h0 oo ko .int (0 : Int32) [] (.int (0 : Int32))) :
    MetFree l (⟨"java/util/Arrays", "copyOf", "([II)[I"⟩ : MethodName) (head1 (Jvm.Cond.code (⟨"java/util/Arrays", "copyOf", "([II)[I"⟩ : MethodName) jdk_65_method_123_code 3 (some (.array .int)) :: ws) ({ frames := 1, cells := 1, slots := 1, locals := 18 } : Room)) (fun as_ U_ => as_ = #[(.ref oo), (.int (1 : Int32))] ∧ Z.Warmed39 U_.vm ∧ U_.heap = h0) (fun _ _ _ _ _ => True) (fun _ U o U' => ∃ v L, o = .returned v ∧ Q_cpI0_1 Z oo ko h0 n0 v U'.heap L ∧ FrameEnd U o U' L ({ frames := 1, cells := 1, slots := 1, locals := 18 } : Room).cells ({ frames := 1, cells := 1, slots := 1, locals := 18 } : Room).slots) := by
  refine MetFree.of_bodySF (plainFor_of_name pn_0) hisR ?_
  intro p e s m args below meth c s₁ Bd hml0 hP hK
  obtain ⟨rfl, hZ, hhp_⟩ := hP
  have hx := Bd.exec
  have hby := Bd.bytes
  have hml : c.maxLocals = 3 := hml0
  have hown : s.vm.findClass "java/util/Arrays" = some m.cls := findClass_of_methodNamed Bd.named
  have hnm := (name_of_methodNamed Bd.named Bd.method).1
  have X0 : Stand p l e ({ frames := 1, cells := 1, slots := 1, locals := 18 } : Room) s m #[(.ref oo), (.int (1 : Int32))] below meth c s₁ [] 0 0 := Stand.of_body Bd
  have e0 : s₁.heap = h0 := by rw [← hhp_, Bd.state]; rfl
  have N0 := Fr.nil n0
  have pre0 : ∀ t, Steps p.tables e below (s₁.setTop (mkF m 0 #[.val (.ref oo), .val (.int (1 : Int32)), .unset] [])) t → Steps p.tables e below (s₁.setTop (entryFrame m #[(.ref oo), (.int (1 : Int32))] 3)) t := fun t k => castTop (ef_cpI0_1 m oo (1 : Int32)) k
  have K0 : Keep h0 h0 [] := Keep.refl h0 []
  have oc1 := H0_A
  obtain ⟨c1, Arc1, qc1, Sc1, Nc1, Hc1, Gc1⟩ := oc1
  obtain ⟨T2, h2, k2, X2, e2, E2, A2, Ea2, st2⟩ := newPE X0 hx hZ (own_w hw 44 rfl) e0 (g := (mkF m 15 #[.val (.ref oo), .val (.int (1 : Int32)), .unset] [(.int (1 : Int32))])) rfl (hb hby d8_15) rfl (by decide) (cap := 1) (by decide) (by decide) (by decide) (by decide) (ad := "[I") own_nm_int
  obtain ⟨b2, g2⟩ : ∃ z, z = h0.size := ⟨_, rfl⟩
  have ne_oo_b2 : oo ≠ b2 := Nat.ne_of_lt (Nat.lt_of_lt_of_le H0_A.lt (Nat.le_of_eq g2.symm))
  have ge_b2 : n0 ≤ b2 := Nat.le_trans Z0 (Nat.le_of_eq g2.symm)
  have sz_b2 : h0.size ≤ b2 := Nat.le_trans K0.1 (Nat.le_of_eq g2.symm)
  rw [← g2] at A2 Ea2 st2
  have A3 := H0_A.ext E2
  have K2 : Keep h0 h2 [] := K0.ext E2
  have Zs4 : n0 ≤ h2.size := (Nat.le_trans Z0 E2.1)
  have V2 : Arv Z h2 b2 k2 .int (1 : Int32) [(.int (0 : Int32))] (.int (0 : Int32)) := (Arv.new A2 (by decide)).pad (pad_rep [] (.int (0 : Int32)) 1)
  have oc5 := A3
  obtain ⟨c5, Arc5, qc5, Sc5, Nc5, Hc5, Gc5⟩ := oc5
  obtain ⟨_, _, ⟨T6, L6, k6, n6⟩, -, X6, ⟨Lc6, hQ6, l6, y6, z6⟩, st6⟩ := Jvm.LawKit.callS X2 hx (y := (⟨"java/lang/Math", "min", "(II)I"⟩ : MethodName)) hown (mvT hZ (own_w hw 45 rfl)) (mvT hZ (own_w hw 46 rfl)) (mvT hZ (own_w hw 47 rfl)) (mvT hZ (own_w hw 48 rfl)) (by decide) (backOf (W := 4) (rm_mi l Z a0 hw [] (0 : Int32) (1 : Int32) (0 : Int32) h2 n0 Zs4 (by decide) (by decide)) hZ (own_w hw 48 rfl) (own_w hw 47 rfl) (by decide) (by decide)) (g := (mkF m 25 #[.val (.ref oo), .val (.int (1 : Int32)), .val (.ref b2)] [(.int (1 : Int32)), (.int (0 : Int32)), (.int (0 : Int32)), (.ref b2), (.int (0 : Int32)), (.ref oo)])) rfl (by rw [hml]; rfl) (argsL := [(.int (0 : Int32)), (.int (1 : Int32))]) (rest := [(.int (0 : Int32)), (.ref b2), (.int (0 : Int32)), (.ref oo)]) (lenOf pd_2 rfl) rfl (by show 2 * 0 + _ ≤ _; exact Nat.le_of_eq rfl) (hb hby d8_25) (fun _ _ => ⟨rfl, e2, (by decide : 1 + 0 ≤ _), (by decide : 1 + 0 ≤ _)⟩)
  dsimp only [Pt.U, Pt.locs, Pt.cells, Pt.slots] at X6 l6 y6 z6 st6 hQ6
  subst l6 y6 z6
  obtain ⟨rfl, N6q, hq7⟩ := hQ6
  have N6 := Fr.app N0 N6q
  obtain ⟨T8, h8, L8, X8, e8, N8, K8q, A8, st8⟩ := cpA X6 hx hZ hown (own_w hw 49 rfl) (own_w hw 52 rfl) (own_w hw 50 rfl) (own_w hw 51 rfl) hq7 A3 V2 (Or.inl ⟨rfl, rfl⟩) (by decide) (by decide) (by decide) (by decide) (by decide) (us := []) rfl (Nat.le_of_ble_eq_true rfl) N6 ge_b2 (g := (mkF m 28 #[.val (.ref oo), .val (.int (1 : Int32)), .val (.ref b2)] [(.int (0 : Int32)), (.int (0 : Int32)), (.ref b2), (.int (0 : Int32)), (.ref oo)])) rfl (by rw [hml]; rfl) rfl (hb hby d8_28) (by decide) (W := 0) (by show 2 * 0 + _ ≤ _; exact Nat.le_of_eq rfl) (by decide)
  have V8 : Arv Z h8 b2 k2 .int (1 : Int32) [(.int (0 : Int32))] (.int (0 : Int32)) := A8
  have A9 := A3.keep K8q (ninS ne_oo_b2 nin0)
  have E10 := Ea2.keep K8q
  have K8 : Keep h0 h8 [] := K2.trans K8q (allS (Or.inr sz_b2) all0)
  have Zs11 : n0 ≤ h8.size := (Nat.le_trans Zs4 K8q.1)
  have pre12 := fun (t : State) (k : Steps p.tables e below (T8.setTop (mkF m 32 #[.val (.ref oo), .val (.int (1 : Int32)), .val (.ref b2)] [(.ref b2)])) t) => pre0 t (by
    refine XS.iloadN X0.here hx rfl (hb hby d8_0) rfl ?_
    refine XS.aloadN X0.here hx rfl (hb hby d8_1) rfl rfl ?_
    refine X0.arraylength hx (by rw [e0]; exact Arc1.1) (State.isArrayOf_alike hZ.alike Arc1.2.1) (g := (mkF m 2 #[.val (.ref oo), .val (.int (1 : Int32)), .unset] [(.ref oo), (.int (1 : Int32))])) rfl rfl (hb hby d8_2) _ ?_
    rw [show c1.slots.size.toInt32 = (0 : Int32) from (len_of Sc1 Nc1)]
    refine XS.icmpYes X0.here hx rfl (pc0 := 3) (pc' := 14) rfl (hb hby d8_3) rfl (feq (by decide : ¬ ((1 : Int32) = (0 : Int32)))).2 (by decide) (by decide) ?_
    refine XS.iloadN X0.here hx rfl (hb hby d8_14) rfl ?_
    refine st2 _ ?_
    refine XS.astoreN X2.here hx rfl (hb hby d8_17) rfl rfl (l' := #[.val (.ref oo), .val (.int (1 : Int32)), .val (.ref b2)]) rfl ?_
    refine XS.aloadN X2.here hx rfl (hb hby d8_18) rfl rfl ?_
    refine XS.iconst X2.here hx rfl (hb hby d8_19) ?_
    refine XS.aloadN X2.here hx rfl (hb hby d8_20) rfl rfl ?_
    refine XS.iconst X2.here hx rfl (hb hby d8_21) ?_
    refine XS.aloadN X2.here hx rfl (hb hby d8_22) rfl rfl ?_
    refine X2.arraylength hx (by rw [e2]; exact Arc5.1) (State.isArrayOf_alike hZ.alike Arc5.2.1) (g := (mkF m 23 #[.val (.ref oo), .val (.int (1 : Int32)), .val (.ref b2)] [(.ref oo), (.int (0 : Int32)), (.ref b2), (.int (0 : Int32)), (.ref oo)])) rfl rfl (hb hby d8_23) _ ?_
    rw [show c5.slots.size.toInt32 = (0 : Int32) from (len_of Sc5 Nc5)]
    refine XS.iloadN X2.here hx rfl (hb hby d8_24) rfl ?_
    refine st6 _ ?_
    refine st8 _ ?_
    refine XS.aloadN X8.here hx rfl (hb hby d8_31) rfl rfl ?_
    exact k)
  obtain ⟨fs, hr, hrun, hended, hW, hsame⟩ := X8.leave (v := some (.ref b2)) (hlocks := BodyLoose.notSynchronized Bd) (fun h => by rw [Bd.returns] at h; cases h)
  refine ⟨_, _, pre12 _ ?_, hrun, hended, _, _, rfl, ?_, ⟨_, rfl⟩, hW, hsame.mono (by decide) (by decide)⟩
  · jvm_step X8.here [X8.here.top, hx, (hb hby d8_32), X8.method', Bd.returns, Value.isRef, FieldType.isReference]
    first | (intro acts; rw [hr _ acts rfl rfl rfl]) | rw [hr _ _ rfl rfl rfl]
    exact Steps.refl _
  · show Q_cpI0_1 Z oo ko h0 n0 _ T8.heap _
    rw [e8]
    exact ⟨b2, k2, rfl, N8, K8, ge_b2, sz_b2, V8, E10⟩

theorem ef_cpJ0_1 (m : MethodId) (x0 : Addr) (x1 : Int32) : entryFrame m #[(.ref x0), (.int x1)] 3 = mkF m 0 #[.val (.ref x0), .val (.int x1), .unset] [] := by first | (simp [entryFrame, mkF, argsToLocals, Value.category]; done) | rfl
def Q_cpJ0_1 (Z : State) (oo : Addr) (ko : ClassId) (h0 : Heap) (n0 : Nat) (v : Option Value) (h : Heap) (L : List Loc) : Prop := ∃ xx : Addr, ∃ kx : ClassId, v = some (.ref xx) ∧ Fr n0 L ∧ Keep h0 h [] ∧ n0 ≤ xx ∧ h0.size ≤ xx ∧ Arv Z h xx kx .long (1 : Int32) [(.long (0 : Int64))] (.long (0 : Int64)) ∧ Exa Z h xx "[J"
set_option maxRecDepth 65536 in
set_option maxHeartbeats 40000000 in
theorem rm_cpJ0_1 (l : Launch) (Z : State) (a0 : Array Value) (hw : ∀ d ∈ tables_1, d.before a0 Z = true) (ws : List Jvm.Cond) (oo : Addr) (ko : ClassId) (h0 : Heap) (n0 : Nat) (Z0 : n0 ≤ h0.size) (H0_A : Arv Z h0 oo ko .long (0 : Int32) [] (.long (0 : Int64))) :
    MetFree l (⟨"java/util/Arrays", "copyOf", "([JI)[J"⟩ : MethodName) (head1 (Jvm.Cond.code (⟨"java/util/Arrays", "copyOf", "([JI)[J"⟩ : MethodName) jdk_65_method_124_code 3 (some (.array .long)) :: ws) ({ frames := 1, cells := 1, slots := 1, locals := 18 } : Room)) (fun as_ U_ => as_ = #[(.ref oo), (.int (1 : Int32))] ∧ Z.Warmed39 U_.vm ∧ U_.heap = h0) (fun _ _ _ _ _ => True) (fun _ U o U' => ∃ v L, o = .returned v ∧ Q_cpJ0_1 Z oo ko h0 n0 v U'.heap L ∧ FrameEnd U o U' L ({ frames := 1, cells := 1, slots := 1, locals := 18 } : Room).cells ({ frames := 1, cells := 1, slots := 1, locals := 18 } : Room).slots) := by
  refine MetFree.of_bodySF (plainFor_of_name pn_0) hisR ?_
  intro p e s m args below meth c s₁ Bd hml0 hP hK
  obtain ⟨rfl, hZ, hhp_⟩ := hP
  have hx := Bd.exec
  have hby := Bd.bytes
  have hml : c.maxLocals = 3 := hml0
  have hown : s.vm.findClass "java/util/Arrays" = some m.cls := findClass_of_methodNamed Bd.named
  have hnm := (name_of_methodNamed Bd.named Bd.method).1
  have X0 : Stand p l e ({ frames := 1, cells := 1, slots := 1, locals := 18 } : Room) s m #[(.ref oo), (.int (1 : Int32))] below meth c s₁ [] 0 0 := Stand.of_body Bd
  have e0 : s₁.heap = h0 := by rw [← hhp_, Bd.state]; rfl
  have N0 := Fr.nil n0
  have pre0 : ∀ t, Steps p.tables e below (s₁.setTop (mkF m 0 #[.val (.ref oo), .val (.int (1 : Int32)), .unset] [])) t → Steps p.tables e below (s₁.setTop (entryFrame m #[(.ref oo), (.int (1 : Int32))] 3)) t := fun t k => castTop (ef_cpJ0_1 m oo (1 : Int32)) k
  have K0 : Keep h0 h0 [] := Keep.refl h0 []
  have oc1 := H0_A
  obtain ⟨c1, Arc1, qc1, Sc1, Nc1, Hc1, Gc1⟩ := oc1
  obtain ⟨T2, h2, k2, X2, e2, E2, A2, Ea2, st2⟩ := newPE X0 hx hZ (own_w hw 56 rfl) e0 (g := (mkF m 15 #[.val (.ref oo), .val (.int (1 : Int32)), .unset] [(.int (1 : Int32))])) rfl (hb hby d10_15) rfl (by decide) (cap := 1) (by decide) (by decide) (by decide) (by decide) (ad := "[J") own_nm_long
  obtain ⟨b2, g2⟩ : ∃ z, z = h0.size := ⟨_, rfl⟩
  have ne_oo_b2 : oo ≠ b2 := Nat.ne_of_lt (Nat.lt_of_lt_of_le H0_A.lt (Nat.le_of_eq g2.symm))
  have ge_b2 : n0 ≤ b2 := Nat.le_trans Z0 (Nat.le_of_eq g2.symm)
  have sz_b2 : h0.size ≤ b2 := Nat.le_trans K0.1 (Nat.le_of_eq g2.symm)
  rw [← g2] at A2 Ea2 st2
  have A3 := H0_A.ext E2
  have K2 : Keep h0 h2 [] := K0.ext E2
  have Zs4 : n0 ≤ h2.size := (Nat.le_trans Z0 E2.1)
  have V2 : Arv Z h2 b2 k2 .long (1 : Int32) [(.long (0 : Int64))] (.long (0 : Int64)) := (Arv.new A2 (by decide)).pad (pad_rep [] (.long (0 : Int64)) 1)
  have oc5 := A3
  obtain ⟨c5, Arc5, qc5, Sc5, Nc5, Hc5, Gc5⟩ := oc5
  obtain ⟨_, _, ⟨T6, L6, k6, n6⟩, -, X6, ⟨Lc6, hQ6, l6, y6, z6⟩, st6⟩ := Jvm.LawKit.callS X2 hx (y := (⟨"java/lang/Math", "min", "(II)I"⟩ : MethodName)) hown (mvT hZ (own_w hw 45 rfl)) (mvT hZ (own_w hw 46 rfl)) (mvT hZ (own_w hw 47 rfl)) (mvT hZ (own_w hw 48 rfl)) (by decide) (backOf (W := 4) (rm_mi l Z a0 hw [] (0 : Int32) (1 : Int32) (0 : Int32) h2 n0 Zs4 (by decide) (by decide)) hZ (own_w hw 48 rfl) (own_w hw 47 rfl) (by decide) (by decide)) (g := (mkF m 25 #[.val (.ref oo), .val (.int (1 : Int32)), .val (.ref b2)] [(.int (1 : Int32)), (.int (0 : Int32)), (.int (0 : Int32)), (.ref b2), (.int (0 : Int32)), (.ref oo)])) rfl (by rw [hml]; rfl) (argsL := [(.int (0 : Int32)), (.int (1 : Int32))]) (rest := [(.int (0 : Int32)), (.ref b2), (.int (0 : Int32)), (.ref oo)]) (lenOf pd_2 rfl) rfl (by show 2 * 0 + _ ≤ _; exact Nat.le_of_eq rfl) (hb hby d10_25) (fun _ _ => ⟨rfl, e2, (by decide : 1 + 0 ≤ _), (by decide : 1 + 0 ≤ _)⟩)
  dsimp only [Pt.U, Pt.locs, Pt.cells, Pt.slots] at X6 l6 y6 z6 st6 hQ6
  subst l6 y6 z6
  obtain ⟨rfl, N6q, hq7⟩ := hQ6
  have N6 := Fr.app N0 N6q
  obtain ⟨T8, h8, L8, X8, e8, N8, K8q, A8, st8⟩ := cpA X6 hx hZ hown (own_w hw 49 rfl) (own_w hw 52 rfl) (own_w hw 50 rfl) (own_w hw 51 rfl) hq7 A3 V2 (Or.inl ⟨rfl, rfl⟩) (by decide) (by decide) (by decide) (by decide) (by decide) (us := []) rfl (Nat.le_of_ble_eq_true rfl) N6 ge_b2 (g := (mkF m 28 #[.val (.ref oo), .val (.int (1 : Int32)), .val (.ref b2)] [(.int (0 : Int32)), (.int (0 : Int32)), (.ref b2), (.int (0 : Int32)), (.ref oo)])) rfl (by rw [hml]; rfl) rfl (hb hby d10_28) (by decide) (W := 0) (by show 2 * 0 + _ ≤ _; exact Nat.le_of_eq rfl) (by decide)
  have V8 : Arv Z h8 b2 k2 .long (1 : Int32) [(.long (0 : Int64))] (.long (0 : Int64)) := A8
  have A9 := A3.keep K8q (ninS ne_oo_b2 nin0)
  have E10 := Ea2.keep K8q
  have K8 : Keep h0 h8 [] := K2.trans K8q (allS (Or.inr sz_b2) all0)
  have Zs11 : n0 ≤ h8.size := (Nat.le_trans Zs4 K8q.1)
  have pre12 := fun (t : State) (k : Steps p.tables e below (T8.setTop (mkF m 32 #[.val (.ref oo), .val (.int (1 : Int32)), .val (.ref b2)] [(.ref b2)])) t) => pre0 t (by
    refine XS.iloadN X0.here hx rfl (hb hby d10_0) rfl ?_
    refine XS.aloadN X0.here hx rfl (hb hby d10_1) rfl rfl ?_
    refine X0.arraylength hx (by rw [e0]; exact Arc1.1) (State.isArrayOf_alike hZ.alike Arc1.2.1) (g := (mkF m 2 #[.val (.ref oo), .val (.int (1 : Int32)), .unset] [(.ref oo), (.int (1 : Int32))])) rfl rfl (hb hby d10_2) _ ?_
    rw [show c1.slots.size.toInt32 = (0 : Int32) from (len_of Sc1 Nc1)]
    refine XS.icmpYes X0.here hx rfl (pc0 := 3) (pc' := 14) rfl (hb hby d10_3) rfl (feq (by decide : ¬ ((1 : Int32) = (0 : Int32)))).2 (by decide) (by decide) ?_
    refine XS.iloadN X0.here hx rfl (hb hby d10_14) rfl ?_
    refine st2 _ ?_
    refine XS.astoreN X2.here hx rfl (hb hby d10_17) rfl rfl (l' := #[.val (.ref oo), .val (.int (1 : Int32)), .val (.ref b2)]) rfl ?_
    refine XS.aloadN X2.here hx rfl (hb hby d10_18) rfl rfl ?_
    refine XS.iconst X2.here hx rfl (hb hby d10_19) ?_
    refine XS.aloadN X2.here hx rfl (hb hby d10_20) rfl rfl ?_
    refine XS.iconst X2.here hx rfl (hb hby d10_21) ?_
    refine XS.aloadN X2.here hx rfl (hb hby d10_22) rfl rfl ?_
    refine X2.arraylength hx (by rw [e2]; exact Arc5.1) (State.isArrayOf_alike hZ.alike Arc5.2.1) (g := (mkF m 23 #[.val (.ref oo), .val (.int (1 : Int32)), .val (.ref b2)] [(.ref oo), (.int (0 : Int32)), (.ref b2), (.int (0 : Int32)), (.ref oo)])) rfl rfl (hb hby d10_23) _ ?_
    rw [show c5.slots.size.toInt32 = (0 : Int32) from (len_of Sc5 Nc5)]
    refine XS.iloadN X2.here hx rfl (hb hby d10_24) rfl ?_
    refine st6 _ ?_
    refine st8 _ ?_
    refine XS.aloadN X8.here hx rfl (hb hby d10_31) rfl rfl ?_
    exact k)
  obtain ⟨fs, hr, hrun, hended, hW, hsame⟩ := X8.leave (v := some (.ref b2)) (hlocks := BodyLoose.notSynchronized Bd) (fun h => by rw [Bd.returns] at h; cases h)
  refine ⟨_, _, pre12 _ ?_, hrun, hended, _, _, rfl, ?_, ⟨_, rfl⟩, hW, hsame.mono (by decide) (by decide)⟩
  · jvm_step X8.here [X8.here.top, hx, (hb hby d10_32), X8.method', Bd.returns, Value.isRef, FieldType.isReference]
    first | (intro acts; rw [hr _ acts rfl rfl rfl]) | rw [hr _ _ rfl rfl rfl]
    exact Steps.refl _
  · show Q_cpJ0_1 Z oo ko h0 n0 _ T8.heap _
    rw [e8]
    exact ⟨b2, k2, rfl, N8, K8, ge_b2, sz_b2, V8, E10⟩

theorem ef_cpI1_3 (m : MethodId) (x0 : Addr) (x1 : Int32) : entryFrame m #[(.ref x0), (.int x1)] 3 = mkF m 0 #[.val (.ref x0), .val (.int x1), .unset] [] := by first | (simp [entryFrame, mkF, argsToLocals, Value.category]; done) | rfl
def Q_cpI1_3 (Z : State) (oo : Addr) (ko : ClassId) (v0 : Int32) (h0 : Heap) (n0 : Nat) (v : Option Value) (h : Heap) (L : List Loc) : Prop := ∃ xx : Addr, ∃ kx : ClassId, v = some (.ref xx) ∧ Fr n0 L ∧ Keep h0 h [] ∧ n0 ≤ xx ∧ h0.size ≤ xx ∧ Arv Z h xx kx .int (3 : Int32) [(.int v0), (.int (0 : Int32)), (.int (0 : Int32))] (.int (0 : Int32)) ∧ Exa Z h xx "[I"
set_option maxRecDepth 65536 in
set_option maxHeartbeats 40000000 in
theorem rm_cpI1_3 (l : Launch) (Z : State) (a0 : Array Value) (hw : ∀ d ∈ tables_1, d.before a0 Z = true) (ws : List Jvm.Cond) (oo : Addr) (ko : ClassId) (v0 : Int32) (h0 : Heap) (n0 : Nat) (Z0 : n0 ≤ h0.size) (H0_A : Arv Z h0 oo ko .int (1 : Int32) [(.int v0)] (.int (0 : Int32))) :
    MetFree l (⟨"java/util/Arrays", "copyOf", "([II)[I"⟩ : MethodName) (head1 (Jvm.Cond.code (⟨"java/util/Arrays", "copyOf", "([II)[I"⟩ : MethodName) jdk_65_method_123_code 3 (some (.array .int)) :: ws) ({ frames := 1, cells := 1, slots := 3, locals := 18 } : Room)) (fun as_ U_ => as_ = #[(.ref oo), (.int (3 : Int32))] ∧ Z.Warmed39 U_.vm ∧ U_.heap = h0) (fun _ _ _ _ _ => True) (fun _ U o U' => ∃ v L, o = .returned v ∧ Q_cpI1_3 Z oo ko v0 h0 n0 v U'.heap L ∧ FrameEnd U o U' L ({ frames := 1, cells := 1, slots := 3, locals := 18 } : Room).cells ({ frames := 1, cells := 1, slots := 3, locals := 18 } : Room).slots) := by
  refine MetFree.of_bodySF (plainFor_of_name pn_0) hisR ?_
  intro p e s m args below meth c s₁ Bd hml0 hP hK
  obtain ⟨rfl, hZ, hhp_⟩ := hP
  have hx := Bd.exec
  have hby := Bd.bytes
  have hml : c.maxLocals = 3 := hml0
  have hown : s.vm.findClass "java/util/Arrays" = some m.cls := findClass_of_methodNamed Bd.named
  have hnm := (name_of_methodNamed Bd.named Bd.method).1
  have X0 : Stand p l e ({ frames := 1, cells := 1, slots := 3, locals := 18 } : Room) s m #[(.ref oo), (.int (3 : Int32))] below meth c s₁ [] 0 0 := Stand.of_body Bd
  have e0 : s₁.heap = h0 := by rw [← hhp_, Bd.state]; rfl
  have N0 := Fr.nil n0
  have pre0 : ∀ t, Steps p.tables e below (s₁.setTop (mkF m 0 #[.val (.ref oo), .val (.int (3 : Int32)), .unset] [])) t → Steps p.tables e below (s₁.setTop (entryFrame m #[(.ref oo), (.int (3 : Int32))] 3)) t := fun t k => castTop (ef_cpI1_3 m oo (3 : Int32)) k
  have K0 : Keep h0 h0 [] := Keep.refl h0 []
  have oc1 := H0_A
  obtain ⟨c1, Arc1, qc1, Sc1, Nc1, Hc1, Gc1⟩ := oc1
  obtain ⟨T2, h2, k2, X2, e2, E2, A2, Ea2, st2⟩ := newPE X0 hx hZ (own_w hw 44 rfl) e0 (g := (mkF m 15 #[.val (.ref oo), .val (.int (3 : Int32)), .unset] [(.int (3 : Int32))])) rfl (hb hby d8_15) rfl (by decide) (cap := 3) (by decide) (by decide) (by decide) (by decide) (ad := "[I") own_nm_int
  obtain ⟨b2, g2⟩ : ∃ z, z = h0.size := ⟨_, rfl⟩
  have ne_oo_b2 : oo ≠ b2 := Nat.ne_of_lt (Nat.lt_of_lt_of_le H0_A.lt (Nat.le_of_eq g2.symm))
  have ge_b2 : n0 ≤ b2 := Nat.le_trans Z0 (Nat.le_of_eq g2.symm)
  have sz_b2 : h0.size ≤ b2 := Nat.le_trans K0.1 (Nat.le_of_eq g2.symm)
  rw [← g2] at A2 Ea2 st2
  have A3 := H0_A.ext E2
  have K2 : Keep h0 h2 [] := K0.ext E2
  have Zs4 : n0 ≤ h2.size := (Nat.le_trans Z0 E2.1)
  have V2 : Arv Z h2 b2 k2 .int (3 : Int32) [(.int (0 : Int32)), (.int (0 : Int32)), (.int (0 : Int32))] (.int (0 : Int32)) := (Arv.new A2 (by decide)).pad (pad_rep [] (.int (0 : Int32)) 3)
  have oc5 := A3
  obtain ⟨c5, Arc5, qc5, Sc5, Nc5, Hc5, Gc5⟩ := oc5
  obtain ⟨_, _, ⟨T6, L6, k6, n6⟩, -, X6, ⟨Lc6, hQ6, l6, y6, z6⟩, st6⟩ := Jvm.LawKit.callS X2 hx (y := (⟨"java/lang/Math", "min", "(II)I"⟩ : MethodName)) hown (mvT hZ (own_w hw 45 rfl)) (mvT hZ (own_w hw 46 rfl)) (mvT hZ (own_w hw 47 rfl)) (mvT hZ (own_w hw 48 rfl)) (by decide) (backOf (W := 4) (rm_mi l Z a0 hw [] (1 : Int32) (3 : Int32) (1 : Int32) h2 n0 Zs4 (by decide) (by decide)) hZ (own_w hw 48 rfl) (own_w hw 47 rfl) (by decide) (by decide)) (g := (mkF m 25 #[.val (.ref oo), .val (.int (3 : Int32)), .val (.ref b2)] [(.int (3 : Int32)), (.int (1 : Int32)), (.int (0 : Int32)), (.ref b2), (.int (0 : Int32)), (.ref oo)])) rfl (by rw [hml]; rfl) (argsL := [(.int (1 : Int32)), (.int (3 : Int32))]) (rest := [(.int (0 : Int32)), (.ref b2), (.int (0 : Int32)), (.ref oo)]) (lenOf pd_2 rfl) rfl (by show 2 * 0 + _ ≤ _; exact Nat.le_of_eq rfl) (hb hby d8_25) (fun _ _ => ⟨rfl, e2, (by decide : 1 + 0 ≤ _), (by decide : 3 + 0 ≤ _)⟩)
  dsimp only [Pt.U, Pt.locs, Pt.cells, Pt.slots] at X6 l6 y6 z6 st6 hQ6
  subst l6 y6 z6
  obtain ⟨rfl, N6q, hq7⟩ := hQ6
  have N6 := Fr.app N0 N6q
  obtain ⟨T8, h8, L8, X8, e8, N8, K8q, A8, st8⟩ := cpA X6 hx hZ hown (own_w hw 49 rfl) (own_w hw 52 rfl) (own_w hw 50 rfl) (own_w hw 51 rfl) hq7 A3 V2 (Or.inl ⟨rfl, rfl⟩) (by decide) (by decide) (by decide) (by decide) (by decide) (us := [(.int v0)]) rfl (Nat.le_of_ble_eq_true rfl) N6 ge_b2 (g := (mkF m 28 #[.val (.ref oo), .val (.int (3 : Int32)), .val (.ref b2)] [(.int (1 : Int32)), (.int (0 : Int32)), (.ref b2), (.int (0 : Int32)), (.ref oo)])) rfl (by rw [hml]; rfl) rfl (hb hby d8_28) (by decide) (W := 0) (by show 2 * 0 + _ ≤ _; exact Nat.le_of_eq rfl) (by decide)
  have V8 : Arv Z h8 b2 k2 .int (3 : Int32) [(.int v0), (.int (0 : Int32)), (.int (0 : Int32))] (.int (0 : Int32)) := A8
  have A9 := A3.keep K8q (ninS ne_oo_b2 nin0)
  have E10 := Ea2.keep K8q
  have K8 : Keep h0 h8 [] := K2.trans K8q (allS (Or.inr sz_b2) all0)
  have Zs11 : n0 ≤ h8.size := (Nat.le_trans Zs4 K8q.1)
  have pre12 := fun (t : State) (k : Steps p.tables e below (T8.setTop (mkF m 32 #[.val (.ref oo), .val (.int (3 : Int32)), .val (.ref b2)] [(.ref b2)])) t) => pre0 t (by
    refine XS.iloadN X0.here hx rfl (hb hby d8_0) rfl ?_
    refine XS.aloadN X0.here hx rfl (hb hby d8_1) rfl rfl ?_
    refine X0.arraylength hx (by rw [e0]; exact Arc1.1) (State.isArrayOf_alike hZ.alike Arc1.2.1) (g := (mkF m 2 #[.val (.ref oo), .val (.int (3 : Int32)), .unset] [(.ref oo), (.int (3 : Int32))])) rfl rfl (hb hby d8_2) _ ?_
    rw [show c1.slots.size.toInt32 = (1 : Int32) from (len_of Sc1 Nc1)]
    refine XS.icmpYes X0.here hx rfl (pc0 := 3) (pc' := 14) rfl (hb hby d8_3) rfl (feq (by decide : ¬ ((3 : Int32) = (1 : Int32)))).2 (by decide) (by decide) ?_
    refine XS.iloadN X0.here hx rfl (hb hby d8_14) rfl ?_
    refine st2 _ ?_
    refine XS.astoreN X2.here hx rfl (hb hby d8_17) rfl rfl (l' := #[.val (.ref oo), .val (.int (3 : Int32)), .val (.ref b2)]) rfl ?_
    refine XS.aloadN X2.here hx rfl (hb hby d8_18) rfl rfl ?_
    refine XS.iconst X2.here hx rfl (hb hby d8_19) ?_
    refine XS.aloadN X2.here hx rfl (hb hby d8_20) rfl rfl ?_
    refine XS.iconst X2.here hx rfl (hb hby d8_21) ?_
    refine XS.aloadN X2.here hx rfl (hb hby d8_22) rfl rfl ?_
    refine X2.arraylength hx (by rw [e2]; exact Arc5.1) (State.isArrayOf_alike hZ.alike Arc5.2.1) (g := (mkF m 23 #[.val (.ref oo), .val (.int (3 : Int32)), .val (.ref b2)] [(.ref oo), (.int (0 : Int32)), (.ref b2), (.int (0 : Int32)), (.ref oo)])) rfl rfl (hb hby d8_23) _ ?_
    rw [show c5.slots.size.toInt32 = (1 : Int32) from (len_of Sc5 Nc5)]
    refine XS.iloadN X2.here hx rfl (hb hby d8_24) rfl ?_
    refine st6 _ ?_
    refine st8 _ ?_
    refine XS.aloadN X8.here hx rfl (hb hby d8_31) rfl rfl ?_
    exact k)
  obtain ⟨fs, hr, hrun, hended, hW, hsame⟩ := X8.leave (v := some (.ref b2)) (hlocks := BodyLoose.notSynchronized Bd) (fun h => by rw [Bd.returns] at h; cases h)
  refine ⟨_, _, pre12 _ ?_, hrun, hended, _, _, rfl, ?_, ⟨_, rfl⟩, hW, hsame.mono (by decide) (by decide)⟩
  · jvm_step X8.here [X8.here.top, hx, (hb hby d8_32), X8.method', Bd.returns, Value.isRef, FieldType.isReference]
    first | (intro acts; rw [hr _ acts rfl rfl rfl]) | rw [hr _ _ rfl rfl rfl]
    exact Steps.refl _
  · show Q_cpI1_3 Z oo ko v0 h0 n0 _ T8.heap _
    rw [e8]
    exact ⟨b2, k2, rfl, N8, K8, ge_b2, sz_b2, V8, E10⟩

theorem ef_cpJ1_3 (m : MethodId) (x0 : Addr) (x1 : Int32) : entryFrame m #[(.ref x0), (.int x1)] 3 = mkF m 0 #[.val (.ref x0), .val (.int x1), .unset] [] := by first | (simp [entryFrame, mkF, argsToLocals, Value.category]; done) | rfl
def Q_cpJ1_3 (Z : State) (oo : Addr) (ko : ClassId) (v0 : Int64) (h0 : Heap) (n0 : Nat) (v : Option Value) (h : Heap) (L : List Loc) : Prop := ∃ xx : Addr, ∃ kx : ClassId, v = some (.ref xx) ∧ Fr n0 L ∧ Keep h0 h [] ∧ n0 ≤ xx ∧ h0.size ≤ xx ∧ Arv Z h xx kx .long (3 : Int32) [(.long v0), (.long (0 : Int64)), (.long (0 : Int64))] (.long (0 : Int64)) ∧ Exa Z h xx "[J"
set_option maxRecDepth 65536 in
set_option maxHeartbeats 40000000 in
theorem rm_cpJ1_3 (l : Launch) (Z : State) (a0 : Array Value) (hw : ∀ d ∈ tables_1, d.before a0 Z = true) (ws : List Jvm.Cond) (oo : Addr) (ko : ClassId) (v0 : Int64) (h0 : Heap) (n0 : Nat) (Z0 : n0 ≤ h0.size) (H0_A : Arv Z h0 oo ko .long (1 : Int32) [(.long v0)] (.long (0 : Int64))) :
    MetFree l (⟨"java/util/Arrays", "copyOf", "([JI)[J"⟩ : MethodName) (head1 (Jvm.Cond.code (⟨"java/util/Arrays", "copyOf", "([JI)[J"⟩ : MethodName) jdk_65_method_124_code 3 (some (.array .long)) :: ws) ({ frames := 1, cells := 1, slots := 3, locals := 18 } : Room)) (fun as_ U_ => as_ = #[(.ref oo), (.int (3 : Int32))] ∧ Z.Warmed39 U_.vm ∧ U_.heap = h0) (fun _ _ _ _ _ => True) (fun _ U o U' => ∃ v L, o = .returned v ∧ Q_cpJ1_3 Z oo ko v0 h0 n0 v U'.heap L ∧ FrameEnd U o U' L ({ frames := 1, cells := 1, slots := 3, locals := 18 } : Room).cells ({ frames := 1, cells := 1, slots := 3, locals := 18 } : Room).slots) := by
  refine MetFree.of_bodySF (plainFor_of_name pn_0) hisR ?_
  intro p e s m args below meth c s₁ Bd hml0 hP hK
  obtain ⟨rfl, hZ, hhp_⟩ := hP
  have hx := Bd.exec
  have hby := Bd.bytes
  have hml : c.maxLocals = 3 := hml0
  have hown : s.vm.findClass "java/util/Arrays" = some m.cls := findClass_of_methodNamed Bd.named
  have hnm := (name_of_methodNamed Bd.named Bd.method).1
  have X0 : Stand p l e ({ frames := 1, cells := 1, slots := 3, locals := 18 } : Room) s m #[(.ref oo), (.int (3 : Int32))] below meth c s₁ [] 0 0 := Stand.of_body Bd
  have e0 : s₁.heap = h0 := by rw [← hhp_, Bd.state]; rfl
  have N0 := Fr.nil n0
  have pre0 : ∀ t, Steps p.tables e below (s₁.setTop (mkF m 0 #[.val (.ref oo), .val (.int (3 : Int32)), .unset] [])) t → Steps p.tables e below (s₁.setTop (entryFrame m #[(.ref oo), (.int (3 : Int32))] 3)) t := fun t k => castTop (ef_cpJ1_3 m oo (3 : Int32)) k
  have K0 : Keep h0 h0 [] := Keep.refl h0 []
  have oc1 := H0_A
  obtain ⟨c1, Arc1, qc1, Sc1, Nc1, Hc1, Gc1⟩ := oc1
  obtain ⟨T2, h2, k2, X2, e2, E2, A2, Ea2, st2⟩ := newPE X0 hx hZ (own_w hw 56 rfl) e0 (g := (mkF m 15 #[.val (.ref oo), .val (.int (3 : Int32)), .unset] [(.int (3 : Int32))])) rfl (hb hby d10_15) rfl (by decide) (cap := 3) (by decide) (by decide) (by decide) (by decide) (ad := "[J") own_nm_long
  obtain ⟨b2, g2⟩ : ∃ z, z = h0.size := ⟨_, rfl⟩
  have ne_oo_b2 : oo ≠ b2 := Nat.ne_of_lt (Nat.lt_of_lt_of_le H0_A.lt (Nat.le_of_eq g2.symm))
  have ge_b2 : n0 ≤ b2 := Nat.le_trans Z0 (Nat.le_of_eq g2.symm)
  have sz_b2 : h0.size ≤ b2 := Nat.le_trans K0.1 (Nat.le_of_eq g2.symm)
  rw [← g2] at A2 Ea2 st2
  have A3 := H0_A.ext E2
  have K2 : Keep h0 h2 [] := K0.ext E2
  have Zs4 : n0 ≤ h2.size := (Nat.le_trans Z0 E2.1)
  have V2 : Arv Z h2 b2 k2 .long (3 : Int32) [(.long (0 : Int64)), (.long (0 : Int64)), (.long (0 : Int64))] (.long (0 : Int64)) := (Arv.new A2 (by decide)).pad (pad_rep [] (.long (0 : Int64)) 3)
  have oc5 := A3
  obtain ⟨c5, Arc5, qc5, Sc5, Nc5, Hc5, Gc5⟩ := oc5
  obtain ⟨_, _, ⟨T6, L6, k6, n6⟩, -, X6, ⟨Lc6, hQ6, l6, y6, z6⟩, st6⟩ := Jvm.LawKit.callS X2 hx (y := (⟨"java/lang/Math", "min", "(II)I"⟩ : MethodName)) hown (mvT hZ (own_w hw 45 rfl)) (mvT hZ (own_w hw 46 rfl)) (mvT hZ (own_w hw 47 rfl)) (mvT hZ (own_w hw 48 rfl)) (by decide) (backOf (W := 4) (rm_mi l Z a0 hw [] (1 : Int32) (3 : Int32) (1 : Int32) h2 n0 Zs4 (by decide) (by decide)) hZ (own_w hw 48 rfl) (own_w hw 47 rfl) (by decide) (by decide)) (g := (mkF m 25 #[.val (.ref oo), .val (.int (3 : Int32)), .val (.ref b2)] [(.int (3 : Int32)), (.int (1 : Int32)), (.int (0 : Int32)), (.ref b2), (.int (0 : Int32)), (.ref oo)])) rfl (by rw [hml]; rfl) (argsL := [(.int (1 : Int32)), (.int (3 : Int32))]) (rest := [(.int (0 : Int32)), (.ref b2), (.int (0 : Int32)), (.ref oo)]) (lenOf pd_2 rfl) rfl (by show 2 * 0 + _ ≤ _; exact Nat.le_of_eq rfl) (hb hby d10_25) (fun _ _ => ⟨rfl, e2, (by decide : 1 + 0 ≤ _), (by decide : 3 + 0 ≤ _)⟩)
  dsimp only [Pt.U, Pt.locs, Pt.cells, Pt.slots] at X6 l6 y6 z6 st6 hQ6
  subst l6 y6 z6
  obtain ⟨rfl, N6q, hq7⟩ := hQ6
  have N6 := Fr.app N0 N6q
  obtain ⟨T8, h8, L8, X8, e8, N8, K8q, A8, st8⟩ := cpA X6 hx hZ hown (own_w hw 49 rfl) (own_w hw 52 rfl) (own_w hw 50 rfl) (own_w hw 51 rfl) hq7 A3 V2 (Or.inl ⟨rfl, rfl⟩) (by decide) (by decide) (by decide) (by decide) (by decide) (us := [(.long v0)]) rfl (Nat.le_of_ble_eq_true rfl) N6 ge_b2 (g := (mkF m 28 #[.val (.ref oo), .val (.int (3 : Int32)), .val (.ref b2)] [(.int (1 : Int32)), (.int (0 : Int32)), (.ref b2), (.int (0 : Int32)), (.ref oo)])) rfl (by rw [hml]; rfl) rfl (hb hby d10_28) (by decide) (W := 0) (by show 2 * 0 + _ ≤ _; exact Nat.le_of_eq rfl) (by decide)
  have V8 : Arv Z h8 b2 k2 .long (3 : Int32) [(.long v0), (.long (0 : Int64)), (.long (0 : Int64))] (.long (0 : Int64)) := A8
  have A9 := A3.keep K8q (ninS ne_oo_b2 nin0)
  have E10 := Ea2.keep K8q
  have K8 : Keep h0 h8 [] := K2.trans K8q (allS (Or.inr sz_b2) all0)
  have Zs11 : n0 ≤ h8.size := (Nat.le_trans Zs4 K8q.1)
  have pre12 := fun (t : State) (k : Steps p.tables e below (T8.setTop (mkF m 32 #[.val (.ref oo), .val (.int (3 : Int32)), .val (.ref b2)] [(.ref b2)])) t) => pre0 t (by
    refine XS.iloadN X0.here hx rfl (hb hby d10_0) rfl ?_
    refine XS.aloadN X0.here hx rfl (hb hby d10_1) rfl rfl ?_
    refine X0.arraylength hx (by rw [e0]; exact Arc1.1) (State.isArrayOf_alike hZ.alike Arc1.2.1) (g := (mkF m 2 #[.val (.ref oo), .val (.int (3 : Int32)), .unset] [(.ref oo), (.int (3 : Int32))])) rfl rfl (hb hby d10_2) _ ?_
    rw [show c1.slots.size.toInt32 = (1 : Int32) from (len_of Sc1 Nc1)]
    refine XS.icmpYes X0.here hx rfl (pc0 := 3) (pc' := 14) rfl (hb hby d10_3) rfl (feq (by decide : ¬ ((3 : Int32) = (1 : Int32)))).2 (by decide) (by decide) ?_
    refine XS.iloadN X0.here hx rfl (hb hby d10_14) rfl ?_
    refine st2 _ ?_
    refine XS.astoreN X2.here hx rfl (hb hby d10_17) rfl rfl (l' := #[.val (.ref oo), .val (.int (3 : Int32)), .val (.ref b2)]) rfl ?_
    refine XS.aloadN X2.here hx rfl (hb hby d10_18) rfl rfl ?_
    refine XS.iconst X2.here hx rfl (hb hby d10_19) ?_
    refine XS.aloadN X2.here hx rfl (hb hby d10_20) rfl rfl ?_
    refine XS.iconst X2.here hx rfl (hb hby d10_21) ?_
    refine XS.aloadN X2.here hx rfl (hb hby d10_22) rfl rfl ?_
    refine X2.arraylength hx (by rw [e2]; exact Arc5.1) (State.isArrayOf_alike hZ.alike Arc5.2.1) (g := (mkF m 23 #[.val (.ref oo), .val (.int (3 : Int32)), .val (.ref b2)] [(.ref oo), (.int (0 : Int32)), (.ref b2), (.int (0 : Int32)), (.ref oo)])) rfl rfl (hb hby d10_23) _ ?_
    rw [show c5.slots.size.toInt32 = (1 : Int32) from (len_of Sc5 Nc5)]
    refine XS.iloadN X2.here hx rfl (hb hby d10_24) rfl ?_
    refine st6 _ ?_
    refine st8 _ ?_
    refine XS.aloadN X8.here hx rfl (hb hby d10_31) rfl rfl ?_
    exact k)
  obtain ⟨fs, hr, hrun, hended, hW, hsame⟩ := X8.leave (v := some (.ref b2)) (hlocks := BodyLoose.notSynchronized Bd) (fun h => by rw [Bd.returns] at h; cases h)
  refine ⟨_, _, pre12 _ ?_, hrun, hended, _, _, rfl, ?_, ⟨_, rfl⟩, hW, hsame.mono (by decide) (by decide)⟩
  · jvm_step X8.here [X8.here.top, hx, (hb hby d10_32), X8.method', Bd.returns, Value.isRef, FieldType.isReference]
    first | (intro acts; rw [hr _ acts rfl rfl rfl]) | rw [hr _ _ rfl rfl rfl]
    exact Steps.refl _
  · show Q_cpJ1_3 Z oo ko v0 h0 n0 _ T8.heap _
    rw [e8]
    exact ⟨b2, k2, rfl, N8, K8, ge_b2, sz_b2, V8, E10⟩

theorem ef_rvN (m : MethodId) (x0 : Addr) (x1 : Int32) : entryFrame m #[(.ref x0), (.int x1)] 3 = mkF m 0 #[.val (.ref x0), .val (.int x1), .unset] [] := by first | (simp [entryFrame, mkF, argsToLocals, Value.category]; done) | rfl
def Q_rvN (Z : State) (dd : Addr) (ka : Addr) (kk : ClassId) (cap : Int32) (kv : List Value) (need : Int32) (h0 : Heap) (n0 : Nat) (v : Option Value) (h : Heap) (L : List Loc) : Prop := v = none ∧ Fr n0 L ∧ h = h0
set_option maxRecDepth 65536 in
set_option maxHeartbeats 40000000 in
theorem rm_rvN (l : Launch) (Z : State) (a0 : Array Value) (hw : ∀ d ∈ tables_1, d.before a0 Z = true) (ws : List Jvm.Cond) (dd : Addr) (ka : Addr) (kk : ClassId) (cap : Int32) (kv : List Value) (need : Int32) (h0 : Heap) (n0 : Nat) (Z0 : n0 ≤ h0.size) (H0_E : Exa Z h0 dd "org/tallyrole/core/Dependencies") (H1_F : Fld Z h0 dd "org/tallyrole/core/Dependencies" "keys" "[I" (.ref ka)) (H2_F : Fld Z h0 dd "org/tallyrole/core/Dependencies" "shared" "Z" (.int (0 : Int32))) (H3_A : Arv Z h0 ka kk .int cap kv (.int (0 : Int32))) (hcap : ¬ (cap < need)) :
    MetFree l (⟨"org/tallyrole/core/Dependencies", "reserve", "(I)V"⟩ : MethodName) (head1 (Jvm.Cond.code (⟨"org/tallyrole/core/Dependencies", "reserve", "(I)V"⟩ : MethodName) prog_36_method_10_code 3 none :: ws) ({ frames := 0, cells := 0, slots := 0, locals := 0 } : Room)) (fun as_ U_ => as_ = #[(.ref dd), (.int need)] ∧ Z.Warmed39 U_.vm ∧ U_.heap = h0) (fun _ _ _ _ _ => True) (fun _ U o U' => ∃ v L, o = .returned v ∧ Q_rvN Z dd ka kk cap kv need h0 n0 v U'.heap L ∧ FrameEnd U o U' L ({ frames := 0, cells := 0, slots := 0, locals := 0 } : Room).cells ({ frames := 0, cells := 0, slots := 0, locals := 0 } : Room).slots) := by
  refine MetFree.of_bodySF (plainFor_of_name pn_1) hisR ?_
  intro p e s m args below meth c s₁ Bd hml0 hP hK
  obtain ⟨rfl, hZ, hhp_⟩ := hP
  have hx := Bd.exec
  have hby := Bd.bytes
  have hml : c.maxLocals = 3 := hml0
  have hown : s.vm.findClass "org/tallyrole/core/Dependencies" = some m.cls := findClass_of_methodNamed Bd.named
  have hnm := (name_of_methodNamed Bd.named Bd.method).1
  have X0 : Stand p l e ({ frames := 0, cells := 0, slots := 0, locals := 0 } : Room) s m #[(.ref dd), (.int need)] below meth c s₁ [] 0 0 := Stand.of_body Bd
  have e0 : s₁.heap = h0 := by rw [← hhp_, Bd.state]; rfl
  have N0 := Fr.nil n0
  have pre0 : ∀ t, Steps p.tables e below (s₁.setTop (mkF m 0 #[.val (.ref dd), .val (.int need), .unset] [])) t → Steps p.tables e below (s₁.setTop (entryFrame m #[(.ref dd), (.int need)] 3)) t := fun t k => castTop (ef_rvN m dd need) k
  obtain ⟨T1, X1, e1, st1⟩ := getF X0 hx hZ hown (host := "") (Or.inl (own_w hw 12 rfl)) Via.refl e0 H1_F (g := (mkF m 1 #[.val (.ref dd), .val (.int need), .unset] [(.ref dd)])) rfl rfl (hb hby d7_1)
  have oc2 := H3_A
  obtain ⟨c2, Arc2, qc2, Sc2, Nc2, Hc2, Gc2⟩ := oc2
  obtain ⟨T3, X3, e3, st3⟩ := getF X1 hx hZ hown (host := "") (Or.inl (own_w hw 39 rfl)) Via.refl e1 H2_F (g := (mkF m 7 #[.val (.ref dd), .val (.int need), .val (.int cap)] [(.ref dd)])) rfl rfl (hb hby d7_7)
  obtain ⟨T4, X4, e4, st4⟩ := getF X3 hx hZ hown (host := "") (Or.inl (own_w hw 12 rfl)) Via.refl e3 H1_F (g := (mkF m 31 #[.val (.ref dd), .val (.int need), .val (.int cap)] [(.ref dd), (.int cap)])) rfl rfl (hb hby d7_31)
  have oc5 := H3_A
  obtain ⟨c5, Arc5, qc5, Sc5, Nc5, Hc5, Gc5⟩ := oc5
  obtain ⟨T6, X6, e6, st6⟩ := getF X4 hx hZ hown (host := "") (Or.inl (own_w hw 39 rfl)) Via.refl e4 H2_F (g := (mkF m 39 #[.val (.ref dd), .val (.int need), .val (.int cap)] [(.ref dd)])) rfl rfl (hb hby d7_39)
  have pre7 := fun (t : State) (k : Steps p.tables e below (T6.setTop (mkF m 74 #[.val (.ref dd), .val (.int need), .val (.int cap)] [])) t) => pre0 t (by
    refine XS.aloadN X0.here hx rfl (hb hby d7_0) rfl rfl ?_
    refine st1 _ ?_
    refine X1.arraylength hx (by rw [e1]; exact Arc2.1) (State.isArrayOf_alike hZ.alike Arc2.2.1) (g := (mkF m 4 #[.val (.ref dd), .val (.int need), .unset] [(.ref ka)])) rfl rfl (hb hby d7_4) _ ?_
    rw [show c2.slots.size.toInt32 = cap from (len_of Sc2 Nc2)]
    refine XS.istoreN X1.here hx rfl (hb hby d7_5) rfl (l' := #[.val (.ref dd), .val (.int need), .val (.int cap)]) rfl ?_
    refine XS.aloadN X1.here hx rfl (hb hby d7_6) rfl rfl ?_
    refine st3 _ ?_
    refine XS.ifYes X3.here hx rfl (pc0 := 10) (pc' := 18) rfl (hb hby d7_10) rfl ((if0 _ _).trans (teq (by decide : (0 : Int32) = (0 : Int32))).1) (by decide) (by decide) ?_
    refine XS.iloadN X3.here hx rfl (hb hby d7_18) rfl ?_
    refine XS.iloadN X3.here hx rfl (hb hby d7_19) rfl ?_
    refine XS.icmpYes X3.here hx rfl (pc0 := 20) (pc' := 29) rfl (hb hby d7_20) rfl (flt hcap).2.2.2 (by decide) (by decide) ?_
    refine XS.iloadN X3.here hx rfl (hb hby d7_29) rfl ?_
    refine XS.aloadN X3.here hx rfl (hb hby d7_30) rfl rfl ?_
    refine st4 _ ?_
    refine X4.arraylength hx (by rw [e4]; exact Arc5.1) (State.isArrayOf_alike hZ.alike Arc5.2.1) (g := (mkF m 34 #[.val (.ref dd), .val (.int need), .val (.int cap)] [(.ref ka), (.int cap)])) rfl rfl (hb hby d7_34) _ ?_
    rw [show c5.slots.size.toInt32 = cap from (len_of Sc5 Nc5)]
    refine XS.icmpNo X4.here hx rfl (hb hby d7_35) rfl (teq (rfl : cap = cap)).2 ?_
    refine XS.aloadN X4.here hx rfl (hb hby d7_38) rfl rfl ?_
    refine st6 _ ?_
    refine XS.ifYes X6.here hx rfl (pc0 := 42) (pc' := 74) rfl (hb hby d7_42) rfl ((if0 _ _).trans (teq (by decide : (0 : Int32) = (0 : Int32))).1) (by decide) (by decide) ?_
    exact k)
  obtain ⟨fs, hr, hrun, hended, hW, hsame⟩ := X6.leave (v := none) (hlocks := BodyLoose.notSynchronized Bd) (fun _ => rfl)
  refine ⟨_, _, pre7 _ ?_, hrun, hended, _, _, rfl, ?_, ⟨_, rfl⟩, hW, hsame.mono (by decide) (by decide)⟩
  · exact X6.returnOut hx Bd.returns (hb hby d7_74) hr
  · show Q_rvN Z dd ka kk cap kv need h0 n0 _ T6.heap _
    rw [e6]
    exact ⟨rfl, N0, rfl⟩

theorem ef_rv0_1_0 (m : MethodId) (x0 : Addr) (x1 : Int32) : entryFrame m #[(.ref x0), (.int x1)] 3 = mkF m 0 #[.val (.ref x0), .val (.int x1), .unset] [] := by first | (simp [entryFrame, mkF, argsToLocals, Value.category]; done) | rfl
def Q_rv0_1_0 (Z : State) (dd : Addr) (ka : Addr) (wa : Addr) (kk : ClassId) (kw : ClassId) (sz : Int32) (h0 : Heap) (n0 : Nat) (v : Option Value) (h : Heap) (L : List Loc) : Prop := ∃ xk : Addr, ∃ xw : Addr, ∃ kxk : ClassId, ∃ kxw : ClassId, v = none ∧ Fr n0 L ∧ Keep h0 h [dd] ∧ n0 ≤ xk ∧ h0.size ≤ xk ∧ n0 ≤ xw ∧ h0.size ≤ xw ∧ dd ≠ xk ∧ dd ≠ xw ∧ xk ≠ xw ∧ Exa Z h dd "org/tallyrole/core/Dependencies" ∧ Fld Z h dd "org/tallyrole/core/Dependencies" "keys" "[I" (.ref xk) ∧ Fld Z h dd "org/tallyrole/core/Dependencies" "words" "[J" (.ref xw) ∧ Fld Z h dd "org/tallyrole/core/Dependencies" "size" "I" (.int sz) ∧ Fld Z h dd "org/tallyrole/core/Dependencies" "shared" "Z" (.int (0 : Int32)) ∧ Arv Z h xk kxk .int (1 : Int32) [(.int (0 : Int32))] (.int (0 : Int32)) ∧ Arv Z h xw kxw .long (1 : Int32) [(.long (0 : Int64))] (.long (0 : Int64)) ∧ Exa Z h xk "[I" ∧ Exa Z h xw "[J"
set_option maxRecDepth 65536 in
set_option maxHeartbeats 40000000 in
theorem rm_rv0_1_0 (l : Launch) (Z : State) (a0 : Array Value) (hw : ∀ d ∈ tables_1, d.before a0 Z = true) (ws : List Jvm.Cond) (dd : Addr) (ka : Addr) (wa : Addr) (kk : ClassId) (kw : ClassId) (sz : Int32) (h0 : Heap) (n0 : Nat) (Z0 : n0 ≤ h0.size) (H0_E : Exa Z h0 dd "org/tallyrole/core/Dependencies") (H1_F : Fld Z h0 dd "org/tallyrole/core/Dependencies" "keys" "[I" (.ref ka)) (H2_F : Fld Z h0 dd "org/tallyrole/core/Dependencies" "words" "[J" (.ref wa)) (H3_F : Fld Z h0 dd "org/tallyrole/core/Dependencies" "size" "I" (.int sz)) (H4_F : Fld Z h0 dd "org/tallyrole/core/Dependencies" "shared" "Z" (.int (0 : Int32))) (H5_A : Arv Z h0 ka kk .int (0 : Int32) [] (.int (0 : Int32))) (H6_A : Arv Z h0 wa kw .long (0 : Int32) [] (.long (0 : Int64))) (hdd : n0 ≤ dd) (hn1 : dd ≠ ka) (hn2 : dd ≠ wa) :
    MetFree l (⟨"org/tallyrole/core/Dependencies", "reserve", "(I)V"⟩ : MethodName) (head1 (Jvm.Cond.code (⟨"org/tallyrole/core/Dependencies", "reserve", "(I)V"⟩ : MethodName) prog_36_method_10_code 3 none :: ws) ({ frames := 2, cells := 2, slots := 2, locals := 33 } : Room)) (fun as_ U_ => as_ = #[(.ref dd), (.int (1 : Int32))] ∧ Z.Warmed39 U_.vm ∧ U_.heap = h0) (fun _ _ _ _ _ => True) (fun _ U o U' => ∃ v L, o = .returned v ∧ Q_rv0_1_0 Z dd ka wa kk kw sz h0 n0 v U'.heap L ∧ FrameEnd U o U' L ({ frames := 2, cells := 2, slots := 2, locals := 33 } : Room).cells ({ frames := 2, cells := 2, slots := 2, locals := 33 } : Room).slots) := by
  refine MetFree.of_bodySF (plainFor_of_name pn_1) hisR ?_
  intro p e s m args below meth c s₁ Bd hml0 hP hK
  obtain ⟨rfl, hZ, hhp_⟩ := hP
  have hx := Bd.exec
  have hby := Bd.bytes
  have hml : c.maxLocals = 3 := hml0
  have hown : s.vm.findClass "org/tallyrole/core/Dependencies" = some m.cls := findClass_of_methodNamed Bd.named
  have hnm := (name_of_methodNamed Bd.named Bd.method).1
  have X0 : Stand p l e ({ frames := 2, cells := 2, slots := 2, locals := 33 } : Room) s m #[(.ref dd), (.int (1 : Int32))] below meth c s₁ [] 0 0 := Stand.of_body Bd
  have e0 : s₁.heap = h0 := by rw [← hhp_, Bd.state]; rfl
  have N0 := Fr.nil n0
  have pre0 : ∀ t, Steps p.tables e below (s₁.setTop (mkF m 0 #[.val (.ref dd), .val (.int (1 : Int32)), .unset] [])) t → Steps p.tables e below (s₁.setTop (entryFrame m #[(.ref dd), (.int (1 : Int32))] 3)) t := fun t k => castTop (ef_rv0_1_0 m dd (1 : Int32)) k
  have K0 : Keep h0 h0 [dd] := Keep.refl h0 [dd]
  obtain ⟨T1, X1, e1, st1⟩ := getF X0 hx hZ hown (host := "") (Or.inl (own_w hw 12 rfl)) Via.refl e0 H1_F (g := (mkF m 1 #[.val (.ref dd), .val (.int (1 : Int32)), .unset] [(.ref dd)])) rfl rfl (hb hby d7_1)
  have oc2 := H5_A
  obtain ⟨c2, Arc2, qc2, Sc2, Nc2, Hc2, Gc2⟩ := oc2
  obtain ⟨T3, X3, e3, st3⟩ := getF X1 hx hZ hown (host := "") (Or.inl (own_w hw 39 rfl)) Via.refl e1 H4_F (g := (mkF m 7 #[.val (.ref dd), .val (.int (1 : Int32)), .val (.int (0 : Int32))] [(.ref dd)])) rfl rfl (hb hby d7_7)
  obtain ⟨T4, X4, e4, st4⟩ := getF X3 hx hZ hown (host := "") (Or.inl (own_w hw 12 rfl)) Via.refl e3 H1_F (g := (mkF m 31 #[.val (.ref dd), .val (.int (1 : Int32)), .val (.int (1 : Int32))] [(.ref dd), (.int (1 : Int32))])) rfl rfl (hb hby d7_31)
  have oc5 := H5_A
  obtain ⟨c5, Arc5, qc5, Sc5, Nc5, Hc5, Gc5⟩ := oc5
  obtain ⟨T6, X6, e6, st6⟩ := getF X4 hx hZ hown (host := "") (Or.inl (own_w hw 12 rfl)) Via.refl e4 H1_F (g := (mkF m 47 #[.val (.ref dd), .val (.int (1 : Int32)), .val (.int (1 : Int32))] [(.ref dd), (.ref dd)])) rfl rfl (hb hby d7_47)
  obtain ⟨_, _, ⟨T7, L7, k7, n7⟩, -, X7, ⟨Lc7, hQ7, l7, y7, z7⟩, st7⟩ := Jvm.LawKit.callS X6 hx (y := (⟨"java/util/Arrays", "copyOf", "([II)[I"⟩ : MethodName)) hown (mvT hZ (own_w hw 41 rfl)) (mvT hZ (own_w hw 42 rfl)) (mvT hZ (own_w hw 27 rfl)) (mvT hZ (own_w hw 43 rfl)) (by decide) (backOf (W := 1) (rm_cpI0_1 l Z a0 hw [] ka kk h0 n0 Z0 H5_A) hZ (own_w hw 43 rfl) (own_w hw 27 rfl) (by decide) (by decide)) (g := (mkF m 51 #[.val (.ref dd), .val (.int (1 : Int32)), .val (.int (1 : Int32))] [(.int (1 : Int32)), (.ref ka), (.ref dd)])) rfl (by rw [hml]; rfl) (argsL := [(.ref ka), (.int (1 : Int32))]) (rest := [(.ref dd)]) (lenOf pd_3 rfl) rfl (by show 2 * 0 + _ ≤ _; exact Nat.le_of_eq rfl) (hb hby d7_51) (fun _ _ => ⟨rfl, e6, (by decide : 0 + 1 ≤ _), (by decide : 0 + 1 ≤ _)⟩)
  dsimp only [Pt.U, Pt.locs, Pt.cells, Pt.slots] at X7 l7 y7 z7 st7 hQ7
  subst l7 y7 z7
  obtain ⟨x8, x9, rfl, N7q, hq10, hpq11, hpq12, A13, E14⟩ := hQ7
  have N7 := Fr.app N0 N7q
  have lt15 : dd < h0.size := H0_E.lt
  have lt16 : ka < h0.size := H5_A.lt
  have lt17 : wa < h0.size := H6_A.lt
  have E18 := H0_E.keep hq10
  have F19 := H1_F.keep hq10 nin0
  have F20 := H2_F.keep hq10 nin0
  have F21 := H3_F.keep hq10 nin0
  have F22 := H4_F.keep hq10 nin0
  have A23 := H5_A.keep hq10 nin0
  have A24 := H6_A.keep hq10 nin0
  have K7 : Keep h0 T7.heap [dd] := K0.trans hq10 all0
  have Zs25 : n0 ≤ T7.heap.size := (Nat.le_trans Z0 hq10.1)
  have ne26 : dd ≠ x8 := Nat.ne_of_lt (Nat.lt_of_lt_of_le lt15 hpq12)
  have ne27 : ka ≠ x8 := Nat.ne_of_lt (Nat.lt_of_lt_of_le lt16 hpq12)
  have ne28 : wa ≠ x8 := Nat.ne_of_lt (Nat.lt_of_lt_of_le lt17 hpq12)
  have sz29 : h0.size ≤ x8 := Nat.le_trans K0.1 hpq12
  obtain ⟨T30, h30, X30, e30, W30, st30⟩ := putF X7 hx hZ hown (host := "") (Or.inl (own_w hw 12 rfl)) Via.refl rfl F19 E18 (Or.inl (own_w hw 13 rfl)) (own_w hw 2 rfl) (ty := (.array .int)) (by decide) rfl rfl (g := (mkF m 54 #[.val (.ref dd), .val (.int (1 : Int32)), .val (.int (1 : Int32))] [(.ref x8), (.ref dd)])) rfl rfl (hb hby d7_54)
  have Fw30 : Fld Z h30 dd "org/tallyrole/core/Dependencies" "keys" "[I" (.ref x8) := F19.same W30
  have E31 := E18.wr W30
  have F32 := F20.other W30 (Or.inr (slot_ne (Or.inl (own_w hw 17 rfl)) (Or.inl (own_w hw 13 rfl)) (by decide) (t := (.array .long)) (t' := (.array .int)) (by decide) (by decide)))
  have F33 := F21.other W30 (Or.inr (slot_ne (Or.inl (own_w hw 24 rfl)) (Or.inl (own_w hw 13 rfl)) (by decide) (t := .int) (t' := (.array .int)) (by decide) (by decide)))
  have F34 := F22.other W30 (Or.inr (slot_ne (Or.inl (own_w hw 40 rfl)) (Or.inl (own_w hw 13 rfl)) (by decide) (t := .boolean) (t' := (.array .int)) (by decide) (by decide)))
  have A35 := A23.other W30 (Ne.symm hn1)
  have A36 := A24.other W30 (Ne.symm hn2)
  have A37 := A13.other W30 (Ne.symm ne26)
  have E38 := E14.wr W30
  have N30 := Fr.snoc X30 N7 hdd
  have K30 : Keep h0 h30 [dd] := K7.wr W30 (Or.inl (List.mem_of_getElem? (i := 0) rfl))
  have Zs39 : n0 ≤ h30.size := (Nat.le_trans Zs25 (Keep.of_wr W30).1)
  obtain ⟨T40, X40, e40, st40⟩ := getF X30 hx hZ hown (host := "") (Or.inl (own_w hw 16 rfl)) Via.refl e30 F32 (g := (mkF m 59 #[.val (.ref dd), .val (.int (1 : Int32)), .val (.int (1 : Int32))] [(.ref dd), (.ref dd)])) rfl rfl (hb hby d7_59)
  obtain ⟨_, _, ⟨T41, L41, k41, n41⟩, -, X41, ⟨Lc41, hQ41, l41, y41, z41⟩, st41⟩ := Jvm.LawKit.callS X40 hx (y := (⟨"java/util/Arrays", "copyOf", "([JI)[J"⟩ : MethodName)) hown (mvT hZ (own_w hw 53 rfl)) (mvT hZ (own_w hw 54 rfl)) (mvT hZ (own_w hw 27 rfl)) (mvT hZ (own_w hw 55 rfl)) (by decide) (backOf (W := 1) (rm_cpJ0_1 l Z a0 hw [] wa kw h30 n0 Zs39 A36) hZ (own_w hw 55 rfl) (own_w hw 27 rfl) (by decide) (by decide)) (g := (mkF m 63 #[.val (.ref dd), .val (.int (1 : Int32)), .val (.int (1 : Int32))] [(.int (1 : Int32)), (.ref wa), (.ref dd)])) rfl (by rw [hml]; rfl) (argsL := [(.ref wa), (.int (1 : Int32))]) (rest := [(.ref dd)]) (lenOf pd_4 rfl) rfl (by show 2 * 0 + _ ≤ _; exact Nat.le_of_eq rfl) (hb hby d7_63) (fun _ _ => ⟨rfl, e40, (by decide : 1 + 1 ≤ _), (by decide : 1 + 1 ≤ _)⟩)
  dsimp only [Pt.U, Pt.locs, Pt.cells, Pt.slots] at X41 l41 y41 z41 st41 hQ41
  subst l41 y41 z41
  obtain ⟨x42, x43, rfl, N41q, hq44, hpq45, hpq46, A47, E48⟩ := hQ41
  have N41 := Fr.app N30 N41q
  have lt49 : dd < h30.size := E31.lt
  have lt50 : ka < h30.size := A35.lt
  have lt51 : wa < h30.size := A36.lt
  have lt52 : x8 < h30.size := A37.lt
  have E53 := E31.keep hq44
  have F54 := F32.keep hq44 nin0
  have F55 := F33.keep hq44 nin0
  have F56 := F34.keep hq44 nin0
  have A57 := A35.keep hq44 nin0
  have A58 := A36.keep hq44 nin0
  have A59 := A37.keep hq44 nin0
  have E60 := E38.keep hq44
  have F61 := Fw30.keep hq44 nin0
  have K41 : Keep h0 T41.heap [dd] := K30.trans hq44 all0
  have Zs62 : n0 ≤ T41.heap.size := (Nat.le_trans Zs39 hq44.1)
  have ne63 : dd ≠ x42 := Nat.ne_of_lt (Nat.lt_of_lt_of_le lt49 hpq46)
  have ne64 : ka ≠ x42 := Nat.ne_of_lt (Nat.lt_of_lt_of_le lt50 hpq46)
  have ne65 : wa ≠ x42 := Nat.ne_of_lt (Nat.lt_of_lt_of_le lt51 hpq46)
  have ne66 : x8 ≠ x42 := Nat.ne_of_lt (Nat.lt_of_lt_of_le lt52 hpq46)
  have sz67 : h0.size ≤ x42 := Nat.le_trans K30.1 hpq46
  obtain ⟨T68, h68, X68, e68, W68, st68⟩ := putF X41 hx hZ hown (host := "") (Or.inl (own_w hw 16 rfl)) Via.refl rfl F54 E53 (Or.inl (own_w hw 17 rfl)) (own_w hw 2 rfl) (ty := (.array .long)) (by decide) rfl rfl (g := (mkF m 66 #[.val (.ref dd), .val (.int (1 : Int32)), .val (.int (1 : Int32))] [(.ref x42), (.ref dd)])) rfl rfl (hb hby d7_66)
  have Fw68 : Fld Z h68 dd "org/tallyrole/core/Dependencies" "words" "[J" (.ref x42) := F54.same W68
  have E69 := E53.wr W68
  have F70 := F55.other W68 (Or.inr (slot_ne (Or.inl (own_w hw 24 rfl)) (Or.inl (own_w hw 17 rfl)) (by decide) (t := .int) (t' := (.array .long)) (by decide) (by decide)))
  have F71 := F56.other W68 (Or.inr (slot_ne (Or.inl (own_w hw 40 rfl)) (Or.inl (own_w hw 17 rfl)) (by decide) (t := .boolean) (t' := (.array .long)) (by decide) (by decide)))
  have A72 := A57.other W68 (Ne.symm hn1)
  have A73 := A58.other W68 (Ne.symm hn2)
  have A74 := A59.other W68 (Ne.symm ne26)
  have E75 := E60.wr W68
  have F76 := F61.other W68 (Or.inr (slot_ne (Or.inl (own_w hw 13 rfl)) (Or.inl (own_w hw 17 rfl)) (by decide) (t := (.array .int)) (t' := (.array .long)) (by decide) (by decide)))
  have A77 := A47.other W68 (Ne.symm ne63)
  have E78 := E48.wr W68
  have N68 := Fr.snoc X68 N41 hdd
  have K68 : Keep h0 h68 [dd] := K41.wr W68 (Or.inl (List.mem_of_getElem? (i := 0) rfl))
  have Zs79 : n0 ≤ h68.size := (Nat.le_trans Zs62 (Keep.of_wr W68).1)
  obtain ⟨T80, h80, X80, e80, W80, st80⟩ := putFN X68 hx hZ hown (own_w hw 39 rfl) Via.refl e68 F71 E69 (Or.inl (own_w hw 40 rfl)) (own_w hw 2 rfl) (ty := .boolean) (v' := (.int (0 : Int32))) (by decide) rfl rfl (g := (mkF m 71 #[.val (.ref dd), .val (.int (1 : Int32)), .val (.int (1 : Int32))] [(.int (0 : Int32)), (.ref dd)])) rfl rfl (hb hby d7_71)
  have Fw80 : Fld Z h80 dd "org/tallyrole/core/Dependencies" "shared" "Z" (.int (0 : Int32)) := F71.same W80
  have E81 := E69.wr W80
  have F82 := F70.other W80 (Or.inr (slot_ne (Or.inl (own_w hw 24 rfl)) (Or.inl (own_w hw 40 rfl)) (by decide) (t := .int) (t' := .boolean) (by decide) (by decide)))
  have A83 := A72.other W80 (Ne.symm hn1)
  have A84 := A73.other W80 (Ne.symm hn2)
  have A85 := A74.other W80 (Ne.symm ne26)
  have E86 := E75.wr W80
  have F87 := F76.other W80 (Or.inr (slot_ne (Or.inl (own_w hw 13 rfl)) (Or.inl (own_w hw 40 rfl)) (by decide) (t := (.array .int)) (t' := .boolean) (by decide) (by decide)))
  have A88 := A77.other W80 (Ne.symm ne63)
  have E89 := E78.wr W80
  have F90 := Fw68.other W80 (Or.inr (slot_ne (Or.inl (own_w hw 17 rfl)) (Or.inl (own_w hw 40 rfl)) (by decide) (t := (.array .long)) (t' := .boolean) (by decide) (by decide)))
  have N80 := Fr.snoc X80 N68 hdd
  have K80 : Keep h0 h80 [dd] := K68.wr W80 (Or.inl (List.mem_of_getElem? (i := 0) rfl))
  have Zs91 : n0 ≤ h80.size := (Nat.le_trans Zs79 (Keep.of_wr W80).1)
  have pre92 := fun (t : State) (k : Steps p.tables e below (T80.setTop (mkF m 74 #[.val (.ref dd), .val (.int (1 : Int32)), .val (.int (1 : Int32))] [])) t) => pre0 t (by
    refine XS.aloadN X0.here hx rfl (hb hby d7_0) rfl rfl ?_
    refine st1 _ ?_
    refine X1.arraylength hx (by rw [e1]; exact Arc2.1) (State.isArrayOf_alike hZ.alike Arc2.2.1) (g := (mkF m 4 #[.val (.ref dd), .val (.int (1 : Int32)), .unset] [(.ref ka)])) rfl rfl (hb hby d7_4) _ ?_
    rw [show c2.slots.size.toInt32 = (0 : Int32) from (len_of Sc2 Nc2)]
    refine XS.istoreN X1.here hx rfl (hb hby d7_5) rfl (l' := #[.val (.ref dd), .val (.int (1 : Int32)), .val (.int (0 : Int32))]) rfl ?_
    refine XS.aloadN X1.here hx rfl (hb hby d7_6) rfl rfl ?_
    refine st3 _ ?_
    refine XS.ifYes X3.here hx rfl (pc0 := 10) (pc' := 18) rfl (hb hby d7_10) rfl ((if0 _ _).trans (teq (by decide : (0 : Int32) = (0 : Int32))).1) (by decide) (by decide) ?_
    refine XS.iloadN X3.here hx rfl (hb hby d7_18) rfl ?_
    refine XS.iloadN X3.here hx rfl (hb hby d7_19) rfl ?_
    refine XS.icmpNo X3.here hx rfl (hb hby d7_20) rfl (tlt (by decide : (0 : Int32) < (1 : Int32))).2.2.2 ?_
    refine XS.iloadN X3.here hx rfl (hb hby d7_23) rfl ?_
    refine XS.iloadN X3.here hx rfl (hb hby d7_24) rfl ?_
    refine XS.iconst X3.here hx rfl (hb hby d7_25) ?_
    refine XS.idiv X3.here hx rfl (hb hby d7_26) rfl (by decide) ?_
    refine XS.iadd X3.here hx rfl (hb hby d7_27) rfl ?_
    refine XS.istoreN X3.here hx rfl (hb hby d7_28) rfl (l' := #[.val (.ref dd), .val (.int (1 : Int32)), .val (.int (1 : Int32))]) rfl ?_
    refine XS.iloadN X3.here hx rfl (hb hby d7_29) rfl ?_
    refine XS.aloadN X3.here hx rfl (hb hby d7_30) rfl rfl ?_
    refine st4 _ ?_
    refine X4.arraylength hx (by rw [e4]; exact Arc5.1) (State.isArrayOf_alike hZ.alike Arc5.2.1) (g := (mkF m 34 #[.val (.ref dd), .val (.int (1 : Int32)), .val (.int (1 : Int32))] [(.ref ka), (.int (1 : Int32))])) rfl rfl (hb hby d7_34) _ ?_
    rw [show c5.slots.size.toInt32 = (0 : Int32) from (len_of Sc5 Nc5)]
    refine XS.icmpYes X4.here hx rfl (pc0 := 35) (pc' := 45) rfl (hb hby d7_35) rfl (feq (by decide : ¬ ((1 : Int32) = (0 : Int32)))).2 (by decide) (by decide) ?_
    refine XS.aloadN X4.here hx rfl (hb hby d7_45) rfl rfl ?_
    refine XS.aloadN X4.here hx rfl (hb hby d7_46) rfl rfl ?_
    refine st6 _ ?_
    refine XS.iloadN X6.here hx rfl (hb hby d7_50) rfl ?_
    refine st7 _ ?_
    refine st30 _ ?_
    refine XS.aloadN X30.here hx rfl (hb hby d7_57) rfl rfl ?_
    refine XS.aloadN X30.here hx rfl (hb hby d7_58) rfl rfl ?_
    refine st40 _ ?_
    refine XS.iloadN X40.here hx rfl (hb hby d7_62) rfl ?_
    refine st41 _ ?_
    refine st68 _ ?_
    refine XS.aloadN X68.here hx rfl (hb hby d7_69) rfl rfl ?_
    refine XS.iconst X68.here hx rfl (hb hby d7_70) ?_
    refine st80 _ ?_
    exact k)
  obtain ⟨fs, hr, hrun, hended, hW, hsame⟩ := X80.leave (v := none) (hlocks := BodyLoose.notSynchronized Bd) (fun _ => rfl)
  refine ⟨_, _, pre92 _ ?_, hrun, hended, _, _, rfl, ?_, ⟨_, rfl⟩, hW, hsame.mono (by decide) (by decide)⟩
  · exact X80.returnOut hx Bd.returns (hb hby d7_74) hr
  · show Q_rv0_1_0 Z dd ka wa kk kw sz h0 n0 _ T80.heap _
    rw [e80]
    exact ⟨x8, x42, x9, x43, rfl, N80, K80, hpq11, sz29, hpq45, sz67, ne26, ne63, ne66, E81, F87, F90, F82, Fw80, A85, A88, E86, E89⟩

theorem ef_rv1_2_0 (m : MethodId) (x0 : Addr) (x1 : Int32) : entryFrame m #[(.ref x0), (.int x1)] 3 = mkF m 0 #[.val (.ref x0), .val (.int x1), .unset] [] := by first | (simp [entryFrame, mkF, argsToLocals, Value.category]; done) | rfl
def Q_rv1_2_0 (Z : State) (dd : Addr) (ka : Addr) (wa : Addr) (kk : ClassId) (kw : ClassId) (sz : Int32) (v0 : Int32) (u0 : Int64) (h0 : Heap) (n0 : Nat) (v : Option Value) (h : Heap) (L : List Loc) : Prop := ∃ xk : Addr, ∃ xw : Addr, ∃ kxk : ClassId, ∃ kxw : ClassId, v = none ∧ Fr n0 L ∧ Keep h0 h [dd] ∧ n0 ≤ xk ∧ h0.size ≤ xk ∧ n0 ≤ xw ∧ h0.size ≤ xw ∧ dd ≠ xk ∧ dd ≠ xw ∧ xk ≠ xw ∧ Exa Z h dd "org/tallyrole/core/Dependencies" ∧ Fld Z h dd "org/tallyrole/core/Dependencies" "keys" "[I" (.ref xk) ∧ Fld Z h dd "org/tallyrole/core/Dependencies" "words" "[J" (.ref xw) ∧ Fld Z h dd "org/tallyrole/core/Dependencies" "size" "I" (.int sz) ∧ Fld Z h dd "org/tallyrole/core/Dependencies" "shared" "Z" (.int (0 : Int32)) ∧ Arv Z h xk kxk .int (3 : Int32) [(.int v0), (.int (0 : Int32)), (.int (0 : Int32))] (.int (0 : Int32)) ∧ Arv Z h xw kxw .long (3 : Int32) [(.long u0), (.long (0 : Int64)), (.long (0 : Int64))] (.long (0 : Int64)) ∧ Exa Z h xk "[I" ∧ Exa Z h xw "[J"
set_option maxRecDepth 65536 in
set_option maxHeartbeats 40000000 in
theorem rm_rv1_2_0 (l : Launch) (Z : State) (a0 : Array Value) (hw : ∀ d ∈ tables_1, d.before a0 Z = true) (ws : List Jvm.Cond) (dd : Addr) (ka : Addr) (wa : Addr) (kk : ClassId) (kw : ClassId) (sz : Int32) (v0 : Int32) (u0 : Int64) (h0 : Heap) (n0 : Nat) (Z0 : n0 ≤ h0.size) (H0_E : Exa Z h0 dd "org/tallyrole/core/Dependencies") (H1_F : Fld Z h0 dd "org/tallyrole/core/Dependencies" "keys" "[I" (.ref ka)) (H2_F : Fld Z h0 dd "org/tallyrole/core/Dependencies" "words" "[J" (.ref wa)) (H3_F : Fld Z h0 dd "org/tallyrole/core/Dependencies" "size" "I" (.int sz)) (H4_F : Fld Z h0 dd "org/tallyrole/core/Dependencies" "shared" "Z" (.int (0 : Int32))) (H5_A : Arv Z h0 ka kk .int (1 : Int32) [(.int v0)] (.int (0 : Int32))) (H6_A : Arv Z h0 wa kw .long (1 : Int32) [(.long u0)] (.long (0 : Int64))) (hdd : n0 ≤ dd) (hn1 : dd ≠ ka) (hn2 : dd ≠ wa) :
    MetFree l (⟨"org/tallyrole/core/Dependencies", "reserve", "(I)V"⟩ : MethodName) (head1 (Jvm.Cond.code (⟨"org/tallyrole/core/Dependencies", "reserve", "(I)V"⟩ : MethodName) prog_36_method_10_code 3 none :: ws) ({ frames := 2, cells := 2, slots := 6, locals := 33 } : Room)) (fun as_ U_ => as_ = #[(.ref dd), (.int (2 : Int32))] ∧ Z.Warmed39 U_.vm ∧ U_.heap = h0) (fun _ _ _ _ _ => True) (fun _ U o U' => ∃ v L, o = .returned v ∧ Q_rv1_2_0 Z dd ka wa kk kw sz v0 u0 h0 n0 v U'.heap L ∧ FrameEnd U o U' L ({ frames := 2, cells := 2, slots := 6, locals := 33 } : Room).cells ({ frames := 2, cells := 2, slots := 6, locals := 33 } : Room).slots) := by
  refine MetFree.of_bodySF (plainFor_of_name pn_1) hisR ?_
  intro p e s m args below meth c s₁ Bd hml0 hP hK
  obtain ⟨rfl, hZ, hhp_⟩ := hP
  have hx := Bd.exec
  have hby := Bd.bytes
  have hml : c.maxLocals = 3 := hml0
  have hown : s.vm.findClass "org/tallyrole/core/Dependencies" = some m.cls := findClass_of_methodNamed Bd.named
  have hnm := (name_of_methodNamed Bd.named Bd.method).1
  have X0 : Stand p l e ({ frames := 2, cells := 2, slots := 6, locals := 33 } : Room) s m #[(.ref dd), (.int (2 : Int32))] below meth c s₁ [] 0 0 := Stand.of_body Bd
  have e0 : s₁.heap = h0 := by rw [← hhp_, Bd.state]; rfl
  have N0 := Fr.nil n0
  have pre0 : ∀ t, Steps p.tables e below (s₁.setTop (mkF m 0 #[.val (.ref dd), .val (.int (2 : Int32)), .unset] [])) t → Steps p.tables e below (s₁.setTop (entryFrame m #[(.ref dd), (.int (2 : Int32))] 3)) t := fun t k => castTop (ef_rv1_2_0 m dd (2 : Int32)) k
  have K0 : Keep h0 h0 [dd] := Keep.refl h0 [dd]
  obtain ⟨T1, X1, e1, st1⟩ := getF X0 hx hZ hown (host := "") (Or.inl (own_w hw 12 rfl)) Via.refl e0 H1_F (g := (mkF m 1 #[.val (.ref dd), .val (.int (2 : Int32)), .unset] [(.ref dd)])) rfl rfl (hb hby d7_1)
  have oc2 := H5_A
  obtain ⟨c2, Arc2, qc2, Sc2, Nc2, Hc2, Gc2⟩ := oc2
  obtain ⟨T3, X3, e3, st3⟩ := getF X1 hx hZ hown (host := "") (Or.inl (own_w hw 39 rfl)) Via.refl e1 H4_F (g := (mkF m 7 #[.val (.ref dd), .val (.int (2 : Int32)), .val (.int (1 : Int32))] [(.ref dd)])) rfl rfl (hb hby d7_7)
  obtain ⟨T4, X4, e4, st4⟩ := getF X3 hx hZ hown (host := "") (Or.inl (own_w hw 12 rfl)) Via.refl e3 H1_F (g := (mkF m 31 #[.val (.ref dd), .val (.int (2 : Int32)), .val (.int (3 : Int32))] [(.ref dd), (.int (3 : Int32))])) rfl rfl (hb hby d7_31)
  have oc5 := H5_A
  obtain ⟨c5, Arc5, qc5, Sc5, Nc5, Hc5, Gc5⟩ := oc5
  obtain ⟨T6, X6, e6, st6⟩ := getF X4 hx hZ hown (host := "") (Or.inl (own_w hw 12 rfl)) Via.refl e4 H1_F (g := (mkF m 47 #[.val (.ref dd), .val (.int (2 : Int32)), .val (.int (3 : Int32))] [(.ref dd), (.ref dd)])) rfl rfl (hb hby d7_47)
  obtain ⟨_, _, ⟨T7, L7, k7, n7⟩, -, X7, ⟨Lc7, hQ7, l7, y7, z7⟩, st7⟩ := Jvm.LawKit.callS X6 hx (y := (⟨"java/util/Arrays", "copyOf", "([II)[I"⟩ : MethodName)) hown (mvT hZ (own_w hw 41 rfl)) (mvT hZ (own_w hw 42 rfl)) (mvT hZ (own_w hw 27 rfl)) (mvT hZ (own_w hw 43 rfl)) (by decide) (backOf (W := 1) (rm_cpI1_3 l Z a0 hw [] ka kk v0 h0 n0 Z0 H5_A) hZ (own_w hw 43 rfl) (own_w hw 27 rfl) (by decide) (by decide)) (g := (mkF m 51 #[.val (.ref dd), .val (.int (2 : Int32)), .val (.int (3 : Int32))] [(.int (3 : Int32)), (.ref ka), (.ref dd)])) rfl (by rw [hml]; rfl) (argsL := [(.ref ka), (.int (3 : Int32))]) (rest := [(.ref dd)]) (lenOf pd_3 rfl) rfl (by show 2 * 0 + _ ≤ _; exact Nat.le_of_eq rfl) (hb hby d7_51) (fun _ _ => ⟨rfl, e6, (by decide : 0 + 1 ≤ _), (by decide : 0 + 3 ≤ _)⟩)
  dsimp only [Pt.U, Pt.locs, Pt.cells, Pt.slots] at X7 l7 y7 z7 st7 hQ7
  subst l7 y7 z7
  obtain ⟨x8, x9, rfl, N7q, hq10, hpq11, hpq12, A13, E14⟩ := hQ7
  have N7 := Fr.app N0 N7q
  have lt15 : dd < h0.size := H0_E.lt
  have lt16 : ka < h0.size := H5_A.lt
  have lt17 : wa < h0.size := H6_A.lt
  have E18 := H0_E.keep hq10
  have F19 := H1_F.keep hq10 nin0
  have F20 := H2_F.keep hq10 nin0
  have F21 := H3_F.keep hq10 nin0
  have F22 := H4_F.keep hq10 nin0
  have A23 := H5_A.keep hq10 nin0
  have A24 := H6_A.keep hq10 nin0
  have K7 : Keep h0 T7.heap [dd] := K0.trans hq10 all0
  have Zs25 : n0 ≤ T7.heap.size := (Nat.le_trans Z0 hq10.1)
  have ne26 : dd ≠ x8 := Nat.ne_of_lt (Nat.lt_of_lt_of_le lt15 hpq12)
  have ne27 : ka ≠ x8 := Nat.ne_of_lt (Nat.lt_of_lt_of_le lt16 hpq12)
  have ne28 : wa ≠ x8 := Nat.ne_of_lt (Nat.lt_of_lt_of_le lt17 hpq12)
  have sz29 : h0.size ≤ x8 := Nat.le_trans K0.1 hpq12
  obtain ⟨T30, h30, X30, e30, W30, st30⟩ := putF X7 hx hZ hown (host := "") (Or.inl (own_w hw 12 rfl)) Via.refl rfl F19 E18 (Or.inl (own_w hw 13 rfl)) (own_w hw 2 rfl) (ty := (.array .int)) (by decide) rfl rfl (g := (mkF m 54 #[.val (.ref dd), .val (.int (2 : Int32)), .val (.int (3 : Int32))] [(.ref x8), (.ref dd)])) rfl rfl (hb hby d7_54)
  have Fw30 : Fld Z h30 dd "org/tallyrole/core/Dependencies" "keys" "[I" (.ref x8) := F19.same W30
  have E31 := E18.wr W30
  have F32 := F20.other W30 (Or.inr (slot_ne (Or.inl (own_w hw 17 rfl)) (Or.inl (own_w hw 13 rfl)) (by decide) (t := (.array .long)) (t' := (.array .int)) (by decide) (by decide)))
  have F33 := F21.other W30 (Or.inr (slot_ne (Or.inl (own_w hw 24 rfl)) (Or.inl (own_w hw 13 rfl)) (by decide) (t := .int) (t' := (.array .int)) (by decide) (by decide)))
  have F34 := F22.other W30 (Or.inr (slot_ne (Or.inl (own_w hw 40 rfl)) (Or.inl (own_w hw 13 rfl)) (by decide) (t := .boolean) (t' := (.array .int)) (by decide) (by decide)))
  have A35 := A23.other W30 (Ne.symm hn1)
  have A36 := A24.other W30 (Ne.symm hn2)
  have A37 := A13.other W30 (Ne.symm ne26)
  have E38 := E14.wr W30
  have N30 := Fr.snoc X30 N7 hdd
  have K30 : Keep h0 h30 [dd] := K7.wr W30 (Or.inl (List.mem_of_getElem? (i := 0) rfl))
  have Zs39 : n0 ≤ h30.size := (Nat.le_trans Zs25 (Keep.of_wr W30).1)
  obtain ⟨T40, X40, e40, st40⟩ := getF X30 hx hZ hown (host := "") (Or.inl (own_w hw 16 rfl)) Via.refl e30 F32 (g := (mkF m 59 #[.val (.ref dd), .val (.int (2 : Int32)), .val (.int (3 : Int32))] [(.ref dd), (.ref dd)])) rfl rfl (hb hby d7_59)
  obtain ⟨_, _, ⟨T41, L41, k41, n41⟩, -, X41, ⟨Lc41, hQ41, l41, y41, z41⟩, st41⟩ := Jvm.LawKit.callS X40 hx (y := (⟨"java/util/Arrays", "copyOf", "([JI)[J"⟩ : MethodName)) hown (mvT hZ (own_w hw 53 rfl)) (mvT hZ (own_w hw 54 rfl)) (mvT hZ (own_w hw 27 rfl)) (mvT hZ (own_w hw 55 rfl)) (by decide) (backOf (W := 1) (rm_cpJ1_3 l Z a0 hw [] wa kw u0 h30 n0 Zs39 A36) hZ (own_w hw 55 rfl) (own_w hw 27 rfl) (by decide) (by decide)) (g := (mkF m 63 #[.val (.ref dd), .val (.int (2 : Int32)), .val (.int (3 : Int32))] [(.int (3 : Int32)), (.ref wa), (.ref dd)])) rfl (by rw [hml]; rfl) (argsL := [(.ref wa), (.int (3 : Int32))]) (rest := [(.ref dd)]) (lenOf pd_4 rfl) rfl (by show 2 * 0 + _ ≤ _; exact Nat.le_of_eq rfl) (hb hby d7_63) (fun _ _ => ⟨rfl, e40, (by decide : 1 + 1 ≤ _), (by decide : 3 + 3 ≤ _)⟩)
  dsimp only [Pt.U, Pt.locs, Pt.cells, Pt.slots] at X41 l41 y41 z41 st41 hQ41
  subst l41 y41 z41
  obtain ⟨x42, x43, rfl, N41q, hq44, hpq45, hpq46, A47, E48⟩ := hQ41
  have N41 := Fr.app N30 N41q
  have lt49 : dd < h30.size := E31.lt
  have lt50 : ka < h30.size := A35.lt
  have lt51 : wa < h30.size := A36.lt
  have lt52 : x8 < h30.size := A37.lt
  have E53 := E31.keep hq44
  have F54 := F32.keep hq44 nin0
  have F55 := F33.keep hq44 nin0
  have F56 := F34.keep hq44 nin0
  have A57 := A35.keep hq44 nin0
  have A58 := A36.keep hq44 nin0
  have A59 := A37.keep hq44 nin0
  have E60 := E38.keep hq44
  have F61 := Fw30.keep hq44 nin0
  have K41 : Keep h0 T41.heap [dd] := K30.trans hq44 all0
  have Zs62 : n0 ≤ T41.heap.size := (Nat.le_trans Zs39 hq44.1)
  have ne63 : dd ≠ x42 := Nat.ne_of_lt (Nat.lt_of_lt_of_le lt49 hpq46)
  have ne64 : ka ≠ x42 := Nat.ne_of_lt (Nat.lt_of_lt_of_le lt50 hpq46)
  have ne65 : wa ≠ x42 := Nat.ne_of_lt (Nat.lt_of_lt_of_le lt51 hpq46)
  have ne66 : x8 ≠ x42 := Nat.ne_of_lt (Nat.lt_of_lt_of_le lt52 hpq46)
  have sz67 : h0.size ≤ x42 := Nat.le_trans K30.1 hpq46
  obtain ⟨T68, h68, X68, e68, W68, st68⟩ := putF X41 hx hZ hown (host := "") (Or.inl (own_w hw 16 rfl)) Via.refl rfl F54 E53 (Or.inl (own_w hw 17 rfl)) (own_w hw 2 rfl) (ty := (.array .long)) (by decide) rfl rfl (g := (mkF m 66 #[.val (.ref dd), .val (.int (2 : Int32)), .val (.int (3 : Int32))] [(.ref x42), (.ref dd)])) rfl rfl (hb hby d7_66)
  have Fw68 : Fld Z h68 dd "org/tallyrole/core/Dependencies" "words" "[J" (.ref x42) := F54.same W68
  have E69 := E53.wr W68
  have F70 := F55.other W68 (Or.inr (slot_ne (Or.inl (own_w hw 24 rfl)) (Or.inl (own_w hw 17 rfl)) (by decide) (t := .int) (t' := (.array .long)) (by decide) (by decide)))
  have F71 := F56.other W68 (Or.inr (slot_ne (Or.inl (own_w hw 40 rfl)) (Or.inl (own_w hw 17 rfl)) (by decide) (t := .boolean) (t' := (.array .long)) (by decide) (by decide)))
  have A72 := A57.other W68 (Ne.symm hn1)
  have A73 := A58.other W68 (Ne.symm hn2)
  have A74 := A59.other W68 (Ne.symm ne26)
  have E75 := E60.wr W68
  have F76 := F61.other W68 (Or.inr (slot_ne (Or.inl (own_w hw 13 rfl)) (Or.inl (own_w hw 17 rfl)) (by decide) (t := (.array .int)) (t' := (.array .long)) (by decide) (by decide)))
  have A77 := A47.other W68 (Ne.symm ne63)
  have E78 := E48.wr W68
  have N68 := Fr.snoc X68 N41 hdd
  have K68 : Keep h0 h68 [dd] := K41.wr W68 (Or.inl (List.mem_of_getElem? (i := 0) rfl))
  have Zs79 : n0 ≤ h68.size := (Nat.le_trans Zs62 (Keep.of_wr W68).1)
  obtain ⟨T80, h80, X80, e80, W80, st80⟩ := putFN X68 hx hZ hown (own_w hw 39 rfl) Via.refl e68 F71 E69 (Or.inl (own_w hw 40 rfl)) (own_w hw 2 rfl) (ty := .boolean) (v' := (.int (0 : Int32))) (by decide) rfl rfl (g := (mkF m 71 #[.val (.ref dd), .val (.int (2 : Int32)), .val (.int (3 : Int32))] [(.int (0 : Int32)), (.ref dd)])) rfl rfl (hb hby d7_71)
  have Fw80 : Fld Z h80 dd "org/tallyrole/core/Dependencies" "shared" "Z" (.int (0 : Int32)) := F71.same W80
  have E81 := E69.wr W80
  have F82 := F70.other W80 (Or.inr (slot_ne (Or.inl (own_w hw 24 rfl)) (Or.inl (own_w hw 40 rfl)) (by decide) (t := .int) (t' := .boolean) (by decide) (by decide)))
  have A83 := A72.other W80 (Ne.symm hn1)
  have A84 := A73.other W80 (Ne.symm hn2)
  have A85 := A74.other W80 (Ne.symm ne26)
  have E86 := E75.wr W80
  have F87 := F76.other W80 (Or.inr (slot_ne (Or.inl (own_w hw 13 rfl)) (Or.inl (own_w hw 40 rfl)) (by decide) (t := (.array .int)) (t' := .boolean) (by decide) (by decide)))
  have A88 := A77.other W80 (Ne.symm ne63)
  have E89 := E78.wr W80
  have F90 := Fw68.other W80 (Or.inr (slot_ne (Or.inl (own_w hw 17 rfl)) (Or.inl (own_w hw 40 rfl)) (by decide) (t := (.array .long)) (t' := .boolean) (by decide) (by decide)))
  have N80 := Fr.snoc X80 N68 hdd
  have K80 : Keep h0 h80 [dd] := K68.wr W80 (Or.inl (List.mem_of_getElem? (i := 0) rfl))
  have Zs91 : n0 ≤ h80.size := (Nat.le_trans Zs79 (Keep.of_wr W80).1)
  have pre92 := fun (t : State) (k : Steps p.tables e below (T80.setTop (mkF m 74 #[.val (.ref dd), .val (.int (2 : Int32)), .val (.int (3 : Int32))] [])) t) => pre0 t (by
    refine XS.aloadN X0.here hx rfl (hb hby d7_0) rfl rfl ?_
    refine st1 _ ?_
    refine X1.arraylength hx (by rw [e1]; exact Arc2.1) (State.isArrayOf_alike hZ.alike Arc2.2.1) (g := (mkF m 4 #[.val (.ref dd), .val (.int (2 : Int32)), .unset] [(.ref ka)])) rfl rfl (hb hby d7_4) _ ?_
    rw [show c2.slots.size.toInt32 = (1 : Int32) from (len_of Sc2 Nc2)]
    refine XS.istoreN X1.here hx rfl (hb hby d7_5) rfl (l' := #[.val (.ref dd), .val (.int (2 : Int32)), .val (.int (1 : Int32))]) rfl ?_
    refine XS.aloadN X1.here hx rfl (hb hby d7_6) rfl rfl ?_
    refine st3 _ ?_
    refine XS.ifYes X3.here hx rfl (pc0 := 10) (pc' := 18) rfl (hb hby d7_10) rfl ((if0 _ _).trans (teq (by decide : (0 : Int32) = (0 : Int32))).1) (by decide) (by decide) ?_
    refine XS.iloadN X3.here hx rfl (hb hby d7_18) rfl ?_
    refine XS.iloadN X3.here hx rfl (hb hby d7_19) rfl ?_
    refine XS.icmpNo X3.here hx rfl (hb hby d7_20) rfl (tlt (by decide : (1 : Int32) < (2 : Int32))).2.2.2 ?_
    refine XS.iloadN X3.here hx rfl (hb hby d7_23) rfl ?_
    refine XS.iloadN X3.here hx rfl (hb hby d7_24) rfl ?_
    refine XS.iconst X3.here hx rfl (hb hby d7_25) ?_
    refine XS.idiv X3.here hx rfl (hb hby d7_26) rfl (by decide) ?_
    refine XS.iadd X3.here hx rfl (hb hby d7_27) rfl ?_
    refine XS.istoreN X3.here hx rfl (hb hby d7_28) rfl (l' := #[.val (.ref dd), .val (.int (2 : Int32)), .val (.int (3 : Int32))]) rfl ?_
    refine XS.iloadN X3.here hx rfl (hb hby d7_29) rfl ?_
    refine XS.aloadN X3.here hx rfl (hb hby d7_30) rfl rfl ?_
    refine st4 _ ?_
    refine X4.arraylength hx (by rw [e4]; exact Arc5.1) (State.isArrayOf_alike hZ.alike Arc5.2.1) (g := (mkF m 34 #[.val (.ref dd), .val (.int (2 : Int32)), .val (.int (3 : Int32))] [(.ref ka), (.int (3 : Int32))])) rfl rfl (hb hby d7_34) _ ?_
    rw [show c5.slots.size.toInt32 = (1 : Int32) from (len_of Sc5 Nc5)]
    refine XS.icmpYes X4.here hx rfl (pc0 := 35) (pc' := 45) rfl (hb hby d7_35) rfl (feq (by decide : ¬ ((3 : Int32) = (1 : Int32)))).2 (by decide) (by decide) ?_
    refine XS.aloadN X4.here hx rfl (hb hby d7_45) rfl rfl ?_
    refine XS.aloadN X4.here hx rfl (hb hby d7_46) rfl rfl ?_
    refine st6 _ ?_
    refine XS.iloadN X6.here hx rfl (hb hby d7_50) rfl ?_
    refine st7 _ ?_
    refine st30 _ ?_
    refine XS.aloadN X30.here hx rfl (hb hby d7_57) rfl rfl ?_
    refine XS.aloadN X30.here hx rfl (hb hby d7_58) rfl rfl ?_
    refine st40 _ ?_
    refine XS.iloadN X40.here hx rfl (hb hby d7_62) rfl ?_
    refine st41 _ ?_
    refine st68 _ ?_
    refine XS.aloadN X68.here hx rfl (hb hby d7_69) rfl rfl ?_
    refine XS.iconst X68.here hx rfl (hb hby d7_70) ?_
    refine st80 _ ?_
    exact k)
  obtain ⟨fs, hr, hrun, hended, hW, hsame⟩ := X80.leave (v := none) (hlocks := BodyLoose.notSynchronized Bd) (fun _ => rfl)
  refine ⟨_, _, pre92 _ ?_, hrun, hended, _, _, rfl, ?_, ⟨_, rfl⟩, hW, hsame.mono (by decide) (by decide)⟩
  · exact X80.returnOut hx Bd.returns (hb hby d7_74) hr
  · show Q_rv1_2_0 Z dd ka wa kk kw sz v0 u0 h0 n0 _ T80.heap _
    rw [e80]
    exact ⟨x8, x42, x9, x43, rfl, N80, K80, hpq11, sz29, hpq45, sz67, ne26, ne63, ne66, E81, F87, F90, F82, Fw80, A85, A88, E86, E89⟩

theorem ef_nl (m : MethodId) (x0 : Int32) : entryFrame m #[(.int x0)] 2 = mkF m 0 #[.val (.int x0), .unset] [] := by first | (simp [entryFrame, mkF, argsToLocals, Value.category]; done) | rfl
def Q_nl (Z : State) (xx : Int32) (h0 : Heap) (n0 : Nat) (v : Option Value) (h : Heap) (L : List Loc) : Prop := ∃ r : Int32, v = some (.int r) ∧ Fr n0 L ∧ h = h0 ∧ own_n32 xx r
set_option maxRecDepth 65536 in
set_option maxHeartbeats 40000000 in
theorem rm_nl (l : Launch) (Z : State) (a0 : Array Value) (hw : ∀ d ∈ tables_1, d.before a0 Z = true) (ws : List Jvm.Cond) (xx : Int32) (h0 : Heap) (n0 : Nat) (Z0 : n0 ≤ h0.size) :
    MetFree l (⟨"java/lang/Integer", "numberOfLeadingZeros", "(I)I"⟩ : MethodName) (head1 (Jvm.Cond.code (⟨"java/lang/Integer", "numberOfLeadingZeros", "(I)I"⟩ : MethodName) jdk_33_method_47_code 2 (some .int) :: ws) ({ frames := 0, cells := 0, slots := 0, locals := 0 } : Room)) (fun as_ U_ => as_ = #[(.int xx)] ∧ Z.Warmed39 U_.vm ∧ U_.heap = h0) (fun _ _ _ _ _ => True) (fun _ U o U' => ∃ v L, o = .returned v ∧ Q_nl Z xx h0 n0 v U'.heap L ∧ FrameEnd U o U' L ({ frames := 0, cells := 0, slots := 0, locals := 0 } : Room).cells ({ frames := 0, cells := 0, slots := 0, locals := 0 } : Room).slots) := by
  refine MetFree.of_bodySF (plainFor_of_name pn_2) hisR ?_
  intro p e s m args below meth c s₁ Bd hml0 hP hK
  obtain ⟨rfl, hZ, hhp_⟩ := hP
  have hx := Bd.exec
  have hby := Bd.bytes
  have hml : c.maxLocals = 2 := hml0
  have hown : s.vm.findClass "java/lang/Integer" = some m.cls := findClass_of_methodNamed Bd.named
  have hnm := (name_of_methodNamed Bd.named Bd.method).1
  have X0 : Stand p l e ({ frames := 0, cells := 0, slots := 0, locals := 0 } : Room) s m #[(.int xx)] below meth c s₁ [] 0 0 := Stand.of_body Bd
  have e0 : s₁.heap = h0 := by rw [← hhp_, Bd.state]; rfl
  have N0 := Fr.nil n0
  have pre0 : ∀ t, Steps p.tables e below (s₁.setTop (mkF m 0 #[.val (.int xx), .unset] [])) t → Steps p.tables e below (s₁.setTop (entryFrame m #[(.int xx)] 2)) t := fun t k => castTop (ef_nl m xx) k
  have t73 : ∀ (u73 : Int32) (m73 : Int32) (T_t73 : State) (Lt_t73 : List Loc) (N_t73 : Fr n0 Lt_t73) (X_t73 : Stand p l e ({ frames := 0, cells := 0, slots := 0, locals := 0 } : Room) s m #[(.int xx)] below meth c T_t73 Lt_t73 0 0) (e_t73 : T_t73.heap = h0) (t73_0 : own_sh xx u73 m73 4), ∃ s₂ o, Steps p.tables e below (T_t73.setTop (mkF m 73 #[.val (.int u73), .val (.int m73)] [])) s₂ ∧ s₂.status = .running ∧ Ended s₂ below o ∧ ∃ v L, o = .returned v ∧ Q_nl Z xx h0 n0 v s₂.heap L ∧ FrameEnd s o s₂ L ({ frames := 0, cells := 0, slots := 0, locals := 0 } : Room).cells ({ frames := 0, cells := 0, slots := 0, locals := 0 } : Room).slots := by
    intro u73 m73 T_t73 Lt_t73 N_t73 X_t73 e_t73 t73_0
    have pre_t73 := fun (t : State) (k : Steps p.tables e below (T_t73.setTop (mkF m 73 #[.val (.int u73), .val (.int m73)] [])) t) => k
    have pre1 := fun (t : State) (k : Steps p.tables e below (T_t73.setTop (mkF m 78 #[.val (.int u73), .val (.int m73)] [(.int (m73 - ((u73.toUInt32 >>> ((1 : Int32) &&& 31).toUInt32).toInt32)))])) t) => pre_t73 t (by
      refine XS.iloadN X_t73.here hx rfl (hb hby d14_73) rfl ?_
      refine XS.iloadN X_t73.here hx rfl (hb hby d14_74) rfl ?_
      refine XS.iconst X_t73.here hx rfl (hb hby d14_75) ?_
      refine XS.iushr X_t73.here hx rfl (hb hby d14_76) rfl ?_
      refine XS.isub X_t73.here hx rfl (hb hby d14_77) rfl ?_
      exact k)
    obtain ⟨fs, hr, hrun, hended, hW, hsame⟩ := X_t73.leave (v := some (.int (m73 - ((u73.toUInt32 >>> ((1 : Int32) &&& 31).toUInt32).toInt32)))) (hlocks := BodyLoose.notSynchronized Bd) (fun h => by rw [Bd.returns] at h; cases h)
    refine ⟨_, _, pre1 _ ?_, hrun, hended, _, _, rfl, ?_, ⟨_, rfl⟩, hW, hsame.mono (by decide) (by decide)⟩
    · exact retI X_t73 hx Bd.returns (hb hby d14_78) hr
    · show Q_nl Z xx h0 n0 _ T_t73.heap _
      rw [e_t73]
      exact ⟨(m73 - ((u73.toUInt32 >>> ((1 : Int32) &&& 31).toUInt32).toInt32)), rfl, N_t73, rfl, (own_sh_end t73_0)⟩
  have t61 : ∀ (u61 : Int32) (m61 : Int32) (T_t61 : State) (Lt_t61 : List Loc) (N_t61 : Fr n0 Lt_t61) (X_t61 : Stand p l e ({ frames := 0, cells := 0, slots := 0, locals := 0 } : Room) s m #[(.int xx)] below meth c T_t61 Lt_t61 0 0) (e_t61 : T_t61.heap = h0) (t61_0 : own_sh xx u61 m61 16), ∃ s₂ o, Steps p.tables e below (T_t61.setTop (mkF m 61 #[.val (.int u61), .val (.int m61)] [])) s₂ ∧ s₂.status = .running ∧ Ended s₂ below o ∧ ∃ v L, o = .returned v ∧ Q_nl Z xx h0 n0 v s₂.heap L ∧ FrameEnd s o s₂ L ({ frames := 0, cells := 0, slots := 0, locals := 0 } : Room).cells ({ frames := 0, cells := 0, slots := 0, locals := 0 } : Room).slots := by
    intro u61 m61 T_t61 Lt_t61 N_t61 X_t61 e_t61 t61_0
    have pre_t61 := fun (t : State) (k : Steps p.tables e below (T_t61.setTop (mkF m 61 #[.val (.int u61), .val (.int m61)] [])) t) => k
    have pre2 := fun (t : State) (k : Steps p.tables e below (T_t61.setTop (mkF m 63 #[.val (.int u61), .val (.int m61)] [(.int (4 : Int32)), (.int u61)])) t) => pre_t61 t (by
      refine XS.iloadN X_t61.here hx rfl (hb hby d14_61) rfl ?_
      refine XS.iconst X_t61.here hx rfl (hb hby d14_62) ?_
      exact k)
    by_cases hc3 : u61 < (4 : Int32)
    · have pre4 := fun (t : State) (k : Steps p.tables e below (T_t61.setTop (mkF m 73 #[.val (.int u61), .val (.int m61)] [])) t) => pre2 t (by
        refine XS.icmpYes X_t61.here hx rfl (pc0 := 63) (pc' := 73) rfl (hb hby d14_63) rfl (tlt hc3).1 (by decide) (by decide) ?_
        exact k)
      obtain ⟨s2, o2, hs2, hr2⟩ := t73 u61 m61 T_t61 _ N_t61 X_t61 e_t61 (own_sh_stay t61_0 hc3 rfl)
      exact ⟨s2, o2, pre4 _ hs2, hr2⟩
    · have pre5 := fun (t : State) (k : Steps p.tables e below (T_t61.setTop (mkF m 73 #[.val (.int ((u61.toUInt32 >>> ((2 : Int32) &&& 31).toUInt32).toInt32)), .val (.int (m61 + (-2 : Int32)))] [])) t) => pre2 t (by
        refine XS.icmpNo X_t61.here hx rfl (hb hby d14_63) rfl (flt hc3).1 ?_
        refine XS.iinc X_t61.here hx rfl (hb hby d14_66) rfl (l' := #[.val (.int u61), .val (.int (m61 + (-2 : Int32)))]) rfl ?_
        refine XS.iloadN X_t61.here hx rfl (hb hby d14_69) rfl ?_
        refine XS.iconst X_t61.here hx rfl (hb hby d14_70) ?_
        refine XS.iushr X_t61.here hx rfl (hb hby d14_71) rfl ?_
        refine XS.istoreN X_t61.here hx rfl (hb hby d14_72) rfl (l' := #[.val (.int ((u61.toUInt32 >>> ((2 : Int32) &&& 31).toUInt32).toInt32)), .val (.int (m61 + (-2 : Int32)))]) rfl ?_
        exact k)
      obtain ⟨s2, o2, hs2, hr2⟩ := t73 ((u61.toUInt32 >>> ((2 : Int32) &&& 31).toUInt32).toInt32) (m61 + (-2 : Int32)) T_t61 _ N_t61 X_t61 e_t61 (own_sh_step (sh := (2 : Int32)) (d := (-2 : Int32)) (b' := 4) t61_0 hc3 rfl 2 (by decide) (by decide) rfl (by decide) rfl rfl)
      exact ⟨s2, o2, pre5 _ hs2, hr2⟩
  have t48 : ∀ (u48 : Int32) (m48 : Int32) (T_t48 : State) (Lt_t48 : List Loc) (N_t48 : Fr n0 Lt_t48) (X_t48 : Stand p l e ({ frames := 0, cells := 0, slots := 0, locals := 0 } : Room) s m #[(.int xx)] below meth c T_t48 Lt_t48 0 0) (e_t48 : T_t48.heap = h0) (t48_0 : own_sh xx u48 m48 256), ∃ s₂ o, Steps p.tables e below (T_t48.setTop (mkF m 48 #[.val (.int u48), .val (.int m48)] [])) s₂ ∧ s₂.status = .running ∧ Ended s₂ below o ∧ ∃ v L, o = .returned v ∧ Q_nl Z xx h0 n0 v s₂.heap L ∧ FrameEnd s o s₂ L ({ frames := 0, cells := 0, slots := 0, locals := 0 } : Room).cells ({ frames := 0, cells := 0, slots := 0, locals := 0 } : Room).slots := by
    intro u48 m48 T_t48 Lt_t48 N_t48 X_t48 e_t48 t48_0
    have pre_t48 := fun (t : State) (k : Steps p.tables e below (T_t48.setTop (mkF m 48 #[.val (.int u48), .val (.int m48)] [])) t) => k
    have pre6 := fun (t : State) (k : Steps p.tables e below (T_t48.setTop (mkF m 51 #[.val (.int u48), .val (.int m48)] [(.int (16 : Int32)), (.int u48)])) t) => pre_t48 t (by
      refine XS.iloadN X_t48.here hx rfl (hb hby d14_48) rfl ?_
      refine XS.bipush X_t48.here hx rfl (hb hby d14_49) ?_
      exact k)
    by_cases hc7 : u48 < (16 : Int32)
    · have pre8 := fun (t : State) (k : Steps p.tables e below (T_t48.setTop (mkF m 61 #[.val (.int u48), .val (.int m48)] [])) t) => pre6 t (by
        refine XS.icmpYes X_t48.here hx rfl (pc0 := 51) (pc' := 61) rfl (hb hby d14_51) rfl (tlt hc7).1 (by decide) (by decide) ?_
        exact k)
      obtain ⟨s2, o2, hs2, hr2⟩ := t61 u48 m48 T_t48 _ N_t48 X_t48 e_t48 (own_sh_stay t48_0 hc7 rfl)
      exact ⟨s2, o2, pre8 _ hs2, hr2⟩
    · have pre9 := fun (t : State) (k : Steps p.tables e below (T_t48.setTop (mkF m 61 #[.val (.int ((u48.toUInt32 >>> ((4 : Int32) &&& 31).toUInt32).toInt32)), .val (.int (m48 + (-4 : Int32)))] [])) t) => pre6 t (by
        refine XS.icmpNo X_t48.here hx rfl (hb hby d14_51) rfl (flt hc7).1 ?_
        refine XS.iinc X_t48.here hx rfl (hb hby d14_54) rfl (l' := #[.val (.int u48), .val (.int (m48 + (-4 : Int32)))]) rfl ?_
        refine XS.iloadN X_t48.here hx rfl (hb hby d14_57) rfl ?_
        refine XS.iconst X_t48.here hx rfl (hb hby d14_58) ?_
        refine XS.iushr X_t48.here hx rfl (hb hby d14_59) rfl ?_
        refine XS.istoreN X_t48.here hx rfl (hb hby d14_60) rfl (l' := #[.val (.int ((u48.toUInt32 >>> ((4 : Int32) &&& 31).toUInt32).toInt32)), .val (.int (m48 + (-4 : Int32)))]) rfl ?_
        exact k)
      obtain ⟨s2, o2, hs2, hr2⟩ := t61 ((u48.toUInt32 >>> ((4 : Int32) &&& 31).toUInt32).toInt32) (m48 + (-4 : Int32)) T_t48 _ N_t48 X_t48 e_t48 (own_sh_step (sh := (4 : Int32)) (d := (-4 : Int32)) (b' := 16) t48_0 hc7 rfl 4 (by decide) (by decide) rfl (by decide) rfl rfl)
      exact ⟨s2, o2, pre9 _ hs2, hr2⟩
  have t33 : ∀ (u33 : Int32) (m33 : Int32) (T_t33 : State) (Lt_t33 : List Loc) (N_t33 : Fr n0 Lt_t33) (X_t33 : Stand p l e ({ frames := 0, cells := 0, slots := 0, locals := 0 } : Room) s m #[(.int xx)] below meth c T_t33 Lt_t33 0 0) (e_t33 : T_t33.heap = h0) (t33_0 : own_sh xx u33 m33 65536), ∃ s₂ o, Steps p.tables e below (T_t33.setTop (mkF m 33 #[.val (.int u33), .val (.int m33)] [])) s₂ ∧ s₂.status = .running ∧ Ended s₂ below o ∧ ∃ v L, o = .returned v ∧ Q_nl Z xx h0 n0 v s₂.heap L ∧ FrameEnd s o s₂ L ({ frames := 0, cells := 0, slots := 0, locals := 0 } : Room).cells ({ frames := 0, cells := 0, slots := 0, locals := 0 } : Room).slots := by
    intro u33 m33 T_t33 Lt_t33 N_t33 X_t33 e_t33 t33_0
    have pre_t33 := fun (t : State) (k : Steps p.tables e below (T_t33.setTop (mkF m 33 #[.val (.int u33), .val (.int m33)] [])) t) => k
    have pre10 := fun (t : State) (k : Steps p.tables e below (T_t33.setTop (mkF m 37 #[.val (.int u33), .val (.int m33)] [(.int (256 : Int32)), (.int u33)])) t) => pre_t33 t (by
      refine XS.iloadN X_t33.here hx rfl (hb hby d14_33) rfl ?_
      refine XS.sipush X_t33.here hx rfl (hb hby d14_34) ?_
      exact k)
    by_cases hc11 : u33 < (256 : Int32)
    · have pre12 := fun (t : State) (k : Steps p.tables e below (T_t33.setTop (mkF m 48 #[.val (.int u33), .val (.int m33)] [])) t) => pre10 t (by
        refine XS.icmpYes X_t33.here hx rfl (pc0 := 37) (pc' := 48) rfl (hb hby d14_37) rfl (tlt hc11).1 (by decide) (by decide) ?_
        exact k)
      obtain ⟨s2, o2, hs2, hr2⟩ := t48 u33 m33 T_t33 _ N_t33 X_t33 e_t33 (own_sh_stay t33_0 hc11 rfl)
      exact ⟨s2, o2, pre12 _ hs2, hr2⟩
    · have pre13 := fun (t : State) (k : Steps p.tables e below (T_t33.setTop (mkF m 48 #[.val (.int ((u33.toUInt32 >>> ((8 : Int32) &&& 31).toUInt32).toInt32)), .val (.int (m33 + (-8 : Int32)))] [])) t) => pre10 t (by
        refine XS.icmpNo X_t33.here hx rfl (hb hby d14_37) rfl (flt hc11).1 ?_
        refine XS.iinc X_t33.here hx rfl (hb hby d14_40) rfl (l' := #[.val (.int u33), .val (.int (m33 + (-8 : Int32)))]) rfl ?_
        refine XS.iloadN X_t33.here hx rfl (hb hby d14_43) rfl ?_
        refine XS.bipush X_t33.here hx rfl (hb hby d14_44) ?_
        refine XS.iushr X_t33.here hx rfl (hb hby d14_46) rfl ?_
        refine XS.istoreN X_t33.here hx rfl (hb hby d14_47) rfl (l' := #[.val (.int ((u33.toUInt32 >>> ((8 : Int32) &&& 31).toUInt32).toInt32)), .val (.int (m33 + (-8 : Int32)))]) rfl ?_
        exact k)
      obtain ⟨s2, o2, hs2, hr2⟩ := t48 ((u33.toUInt32 >>> ((8 : Int32) &&& 31).toUInt32).toInt32) (m33 + (-8 : Int32)) T_t33 _ N_t33 X_t33 e_t33 (own_sh_step (sh := (8 : Int32)) (d := (-8 : Int32)) (b' := 256) t33_0 hc11 rfl 8 (by decide) (by decide) rfl (by decide) rfl rfl)
      exact ⟨s2, o2, pre13 _ hs2, hr2⟩
  have pre14 := fun (t : State) (k : Steps p.tables e below (s₁.setTop (mkF m 1 #[.val (.int xx), .unset] [(.int xx)])) t) => pre0 t (by
    refine XS.iloadN X0.here hx rfl (hb hby d14_0) rfl ?_
    exact k)
  by_cases hc15 : (0 : Int32) < xx
  · have pre16 := fun (t : State) (k : Steps p.tables e below (s₁.setTop (mkF m 22 #[.val (.int xx), .val (.int (31 : Int32))] [(.int (65536 : Int32)), (.int xx)])) t) => pre14 t (by
      refine XS.ifYes X0.here hx rfl (pc0 := 1) (pc' := 15) rfl (hb hby d14_1) rfl ((if0 _ _).trans (tlt hc15).2.2.1) (by decide) (by decide) ?_
      refine XS.bipush X0.here hx rfl (hb hby d14_15) ?_
      refine XS.istoreN X0.here hx rfl (hb hby d14_17) rfl (l' := #[.val (.int xx), .val (.int (31 : Int32))]) rfl ?_
      refine XS.iloadN X0.here hx rfl (hb hby d14_18) rfl ?_
      refine X0.ldcwInt hx hown (mvT hZ (own_w hw 74 rfl)) (g := (mkF m 19 #[.val (.int xx), .val (.int (31 : Int32))] [(.int xx)])) rfl (hb hby d14_19) _ ?_
      exact k)
    by_cases hc17 : xx < (65536 : Int32)
    · have pre18 := fun (t : State) (k : Steps p.tables e below (s₁.setTop (mkF m 33 #[.val (.int xx), .val (.int (31 : Int32))] [])) t) => pre16 t (by
        refine XS.icmpYes X0.here hx rfl (pc0 := 22) (pc' := 33) rfl (hb hby d14_22) rfl (tlt hc17).1 (by decide) (by decide) ?_
        exact k)
      obtain ⟨s2, o2, hs2, hr2⟩ := t33 xx (31 : Int32) s₁ _ N0 X0 e0 (own_sh_stay (own_sh_init hc15) hc17 rfl)
      exact ⟨s2, o2, pre18 _ hs2, hr2⟩
    · have pre19 := fun (t : State) (k : Steps p.tables e below (s₁.setTop (mkF m 33 #[.val (.int ((xx.toUInt32 >>> ((16 : Int32) &&& 31).toUInt32).toInt32)), .val (.int (15 : Int32))] [])) t) => pre16 t (by
        refine XS.icmpNo X0.here hx rfl (hb hby d14_22) rfl (flt hc17).1 ?_
        refine XS.iinc X0.here hx rfl (hb hby d14_25) rfl (l' := #[.val (.int xx), .val (.int (15 : Int32))]) rfl ?_
        refine XS.iloadN X0.here hx rfl (hb hby d14_28) rfl ?_
        refine XS.bipush X0.here hx rfl (hb hby d14_29) ?_
        refine XS.iushr X0.here hx rfl (hb hby d14_31) rfl ?_
        refine XS.istoreN X0.here hx rfl (hb hby d14_32) rfl (l' := #[.val (.int ((xx.toUInt32 >>> ((16 : Int32) &&& 31).toUInt32).toInt32)), .val (.int (15 : Int32))]) rfl ?_
        exact k)
      obtain ⟨s2, o2, hs2, hr2⟩ := t33 ((xx.toUInt32 >>> ((16 : Int32) &&& 31).toUInt32).toInt32) (15 : Int32) s₁ _ N0 X0 e0 (own_sh_step (sh := (16 : Int32)) (d := (-16 : Int32)) (b' := 65536) (own_sh_init hc15) hc17 rfl 16 (by decide) (by decide) rfl (by decide) rfl (by decide))
      exact ⟨s2, o2, pre19 _ hs2, hr2⟩
  · have pre20 := fun (t : State) (k : Steps p.tables e below (s₁.setTop (mkF m 5 #[.val (.int xx), .unset] [(.int xx)])) t) => pre14 t (by
      refine XS.ifNo X0.here hx rfl (hb hby d14_1) rfl ((if0 _ _).trans (flt hc15).2.2.1) ?_
      refine XS.iloadN X0.here hx rfl (hb hby d14_4) rfl ?_
      exact k)
    by_cases hc21 : xx = (0 : Int32)
    · have pre22 := fun (t : State) (k : Steps p.tables e below (s₁.setTop (mkF m 14 #[.val (.int xx), .unset] [(.int (32 : Int32))])) t) => pre20 t (by
        refine XS.ifNo X0.here hx rfl (hb hby d14_5) rfl ((if0 _ _).trans (teq hc21).2) ?_
        refine XS.bipush X0.here hx rfl (hb hby d14_8) ?_
        refine XS.goto X0.here hx rfl (pc0 := 10) (pc' := 14) rfl (hb hby d14_10) (by decide) (by decide) ?_
        exact k)
      obtain ⟨fs, hr, hrun, hended, hW, hsame⟩ := X0.leave (v := some (.int (32 : Int32))) (hlocks := BodyLoose.notSynchronized Bd) (fun h => by rw [Bd.returns] at h; cases h)
      refine ⟨_, _, pre22 _ ?_, hrun, hended, _, _, rfl, ?_, ⟨_, rfl⟩, hW, hsame.mono (by decide) (by decide)⟩
      · exact retI X0 hx Bd.returns (hb hby d14_14) hr
      · show Q_nl Z xx h0 n0 _ s₁.heap _
        rw [e0]
        exact ⟨(32 : Int32), rfl, N0, rfl, (by have q := hc21; subst q; exact own_n32_0)⟩
    · have pre23 := fun (t : State) (k : Steps p.tables e below (s₁.setTop (mkF m 14 #[.val (.int xx), .unset] [(.int (0 : Int32))])) t) => pre20 t (by
        refine XS.ifYes X0.here hx rfl (pc0 := 5) (pc' := 13) rfl (hb hby d14_5) rfl ((if0 _ _).trans (feq hc21).2) (by decide) (by decide) ?_
        refine XS.iconst X0.here hx rfl (hb hby d14_13) ?_
        exact k)
      obtain ⟨fs, hr, hrun, hended, hW, hsame⟩ := X0.leave (v := some (.int (0 : Int32))) (hlocks := BodyLoose.notSynchronized Bd) (fun h => by rw [Bd.returns] at h; cases h)
      refine ⟨_, _, pre23 _ ?_, hrun, hended, _, _, rfl, ?_, ⟨_, rfl⟩, hW, hsame.mono (by decide) (by decide)⟩
      · exact retI X0 hx Bd.returns (hb hby d14_14) hr
      · show Q_nl Z xx h0 n0 _ s₁.heap _
        rw [e0]
        exact ⟨(0 : Int32), rfl, N0, rfl, (own_n32_neg hc15 hc21)⟩

theorem ef_nL (m : MethodId) (x0 : Int64) : entryFrame m #[(.long x0)] 3 = mkF m 0 #[.val (.long x0), .second, .unset] [] := by first | (simp [entryFrame, mkF, argsToLocals, Value.category]; done) | rfl
def Q_nL (Z : State) (ww : Int64) (h0 : Heap) (n0 : Nat) (v : Option Value) (h : Heap) (L : List Loc) : Prop := ∃ r : Int32, v = some (.int r) ∧ Fr n0 L ∧ h = h0 ∧ own_n64 ww r
set_option maxRecDepth 65536 in
set_option maxHeartbeats 40000000 in
theorem rm_nL (l : Launch) (Z : State) (a0 : Array Value) (hw : ∀ d ∈ tables_1, d.before a0 Z = true) (ws : List Jvm.Cond) (ww : Int64) (h0 : Heap) (n0 : Nat) (Z0 : n0 ≤ h0.size) :
    MetFree l (⟨"java/lang/Long", "numberOfLeadingZeros", "(J)I"⟩ : MethodName) (head1 (Jvm.Cond.code (⟨"java/lang/Long", "numberOfLeadingZeros", "(J)I"⟩ : MethodName) jdk_35_method_48_code 3 (some .int) :: ws) ({ frames := 1, cells := 0, slots := 0, locals := 14 } : Room)) (fun as_ U_ => as_ = #[(.long ww)] ∧ Z.Warmed39 U_.vm ∧ U_.heap = h0) (fun _ _ _ _ _ => True) (fun _ U o U' => ∃ v L, o = .returned v ∧ Q_nL Z ww h0 n0 v U'.heap L ∧ FrameEnd U o U' L ({ frames := 1, cells := 0, slots := 0, locals := 14 } : Room).cells ({ frames := 1, cells := 0, slots := 0, locals := 14 } : Room).slots) := by
  refine MetFree.of_bodySF (plainFor_of_name pn_3) hisR ?_
  intro p e s m args below meth c s₁ Bd hml0 hP hK
  obtain ⟨rfl, hZ, hhp_⟩ := hP
  have hx := Bd.exec
  have hby := Bd.bytes
  have hml : c.maxLocals = 3 := hml0
  have hown : s.vm.findClass "java/lang/Long" = some m.cls := findClass_of_methodNamed Bd.named
  have hnm := (name_of_methodNamed Bd.named Bd.method).1
  have X0 : Stand p l e ({ frames := 1, cells := 0, slots := 0, locals := 14 } : Room) s m #[(.long ww)] below meth c s₁ [] 0 0 := Stand.of_body Bd
  have e0 : s₁.heap = h0 := by rw [← hhp_, Bd.state]; rfl
  have N0 := Fr.nil n0
  have pre0 : ∀ t, Steps p.tables e below (s₁.setTop (mkF m 0 #[.val (.long ww), .second, .unset] [])) t → Steps p.tables e below (s₁.setTop (entryFrame m #[(.long ww)] 3)) t := fun t k => castTop (ef_nL m ww) k
  have pre1 := fun (t : State) (k : Steps p.tables e below (s₁.setTop (mkF m 7 #[.val (.long ww), .second, .val (.int (((ww.toUInt64 >>> ((32 : Int32) &&& 0x3f).toInt64.toUInt64).toInt64).toInt32))] [(.int (((ww.toUInt64 >>> ((32 : Int32) &&& 0x3f).toInt64.toUInt64).toInt64).toInt32))])) t) => pre0 t (by
    refine XS.lloadN X0.here hx rfl (hb hby d13_0) rfl ?_
    refine XS.bipush X0.here hx rfl (hb hby d13_1) ?_
    refine XS.lushr X0.here hx rfl (hb hby d13_3) rfl ?_
    refine XS.l2i X0.here hx rfl (hb hby d13_4) rfl ?_
    refine XS.istoreN X0.here hx rfl (hb hby d13_5) rfl (l' := #[.val (.long ww), .second, .val (.int (((ww.toUInt64 >>> ((32 : Int32) &&& 0x3f).toInt64.toUInt64).toInt64).toInt32))]) rfl ?_
    refine XS.iloadN X0.here hx rfl (hb hby d13_6) rfl ?_
    exact k)
  by_cases hc2 : (((ww.toUInt64 >>> ((32 : Int32) &&& 0x3f).toInt64.toUInt64).toInt64).toInt32) = (0 : Int32)
  · obtain ⟨_, _, ⟨T3, L3, k3, n3⟩, -, X3, ⟨Lc3, hQ3, l3, y3, z3⟩, st3⟩ := Jvm.LawKit.callS X0 hx (y := (⟨"java/lang/Integer", "numberOfLeadingZeros", "(I)I"⟩ : MethodName)) hown (mvT hZ (own_w hw 70 rfl)) (mvT hZ (own_w hw 71 rfl)) (mvT hZ (own_w hw 72 rfl)) (mvT hZ (own_w hw 73 rfl)) (by decide) (backOf (W := 1) (rm_nl l Z a0 hw [] (ww.toInt32) h0 n0 Z0 ) hZ (own_w hw 73 rfl) (own_w hw 72 rfl) (by decide) (by decide)) (g := (mkF m 14 #[.val (.long ww), .second, .val (.int (((ww.toUInt64 >>> ((32 : Int32) &&& 0x3f).toInt64.toUInt64).toInt64).toInt32))] [(.int (ww.toInt32)), (.int (32 : Int32))])) rfl (by rw [hml]; rfl) (argsL := [(.int (ww.toInt32))]) (rest := [(.int (32 : Int32))]) (lenOf pd_5 rfl) rfl (by show 2 * 0 + _ ≤ _; exact Nat.le_of_eq rfl) (hb hby d13_14) (fun _ _ => ⟨rfl, e0, (by decide : 0 + 0 ≤ _), (by decide : 0 + 0 ≤ _)⟩)
    dsimp only [Pt.U, Pt.locs, Pt.cells, Pt.slots] at X3 l3 y3 z3 st3 hQ3
    subst l3 y3 z3
    obtain ⟨x4, rfl, N3q, hq5, hpq6⟩ := hQ3
    have N3 := Fr.app N0 N3q
    have pre7 := fun (t : State) (k : Steps p.tables e below (T3.setTop (mkF m 25 #[.val (.long ww), .second, .val (.int (((ww.toUInt64 >>> ((32 : Int32) &&& 0x3f).toInt64.toUInt64).toInt64).toInt32))] [(.int ((32 : Int32) + x4))])) t) => pre1 t (by
      refine XS.ifNo X0.here hx rfl (hb hby d13_7) rfl ((if0 _ _).trans (teq hc2).2) ?_
      refine XS.bipush X0.here hx rfl (hb hby d13_10) ?_
      refine XS.lloadN X0.here hx rfl (hb hby d13_12) rfl ?_
      refine XS.l2i X0.here hx rfl (hb hby d13_13) rfl ?_
      refine st3 _ ?_
      refine XS.iadd X3.here hx rfl (hb hby d13_17) rfl ?_
      refine XS.goto X3.here hx rfl (pc0 := 18) (pc' := 25) rfl (hb hby d13_18) (by decide) (by decide) ?_
      exact k)
    obtain ⟨fs, hr, hrun, hended, hW, hsame⟩ := X3.leave (v := some (.int ((32 : Int32) + x4))) (hlocks := BodyLoose.notSynchronized Bd) (fun h => by rw [Bd.returns] at h; cases h)
    refine ⟨_, _, pre7 _ ?_, hrun, hended, _, _, rfl, ?_, ⟨_, rfl⟩, hW, hsame.mono (by decide) (by decide)⟩
    · exact retI X3 hx Bd.returns (hb hby d13_25) hr
    · show Q_nL Z ww h0 n0 _ T3.heap _
      rw [hq5]
      exact ⟨((32 : Int32) + x4), rfl, N3, rfl, (own_n64_lo hpq6 hc2)⟩
  · obtain ⟨_, _, ⟨T8, L8, k8, n8⟩, -, X8, ⟨Lc8, hQ8, l8, y8, z8⟩, st8⟩ := Jvm.LawKit.callS X0 hx (y := (⟨"java/lang/Integer", "numberOfLeadingZeros", "(I)I"⟩ : MethodName)) hown (mvT hZ (own_w hw 70 rfl)) (mvT hZ (own_w hw 71 rfl)) (mvT hZ (own_w hw 72 rfl)) (mvT hZ (own_w hw 73 rfl)) (by decide) (backOf (W := 0) (rm_nl l Z a0 hw [] (((ww.toUInt64 >>> ((32 : Int32) &&& 0x3f).toInt64.toUInt64).toInt64).toInt32) h0 n0 Z0 ) hZ (own_w hw 73 rfl) (own_w hw 72 rfl) (by decide) (by decide)) (g := (mkF m 22 #[.val (.long ww), .second, .val (.int (((ww.toUInt64 >>> ((32 : Int32) &&& 0x3f).toInt64.toUInt64).toInt64).toInt32))] [(.int (((ww.toUInt64 >>> ((32 : Int32) &&& 0x3f).toInt64.toUInt64).toInt64).toInt32))])) rfl (by rw [hml]; rfl) (argsL := [(.int (((ww.toUInt64 >>> ((32 : Int32) &&& 0x3f).toInt64.toUInt64).toInt64).toInt32))]) (rest := []) (lenOf pd_5 rfl) rfl (by show 2 * 0 + _ ≤ _; exact Nat.le_of_eq rfl) (hb hby d13_22) (fun _ _ => ⟨rfl, e0, (by decide : 0 + 0 ≤ _), (by decide : 0 + 0 ≤ _)⟩)
    dsimp only [Pt.U, Pt.locs, Pt.cells, Pt.slots] at X8 l8 y8 z8 st8 hQ8
    subst l8 y8 z8
    obtain ⟨x9, rfl, N8q, hq10, hpq11⟩ := hQ8
    have N8 := Fr.app N0 N8q
    have pre12 := fun (t : State) (k : Steps p.tables e below (T8.setTop (mkF m 25 #[.val (.long ww), .second, .val (.int (((ww.toUInt64 >>> ((32 : Int32) &&& 0x3f).toInt64.toUInt64).toInt64).toInt32))] [(.int x9)])) t) => pre1 t (by
      refine XS.ifYes X0.here hx rfl (pc0 := 7) (pc' := 21) rfl (hb hby d13_7) rfl ((if0 _ _).trans (feq hc2).2) (by decide) (by decide) ?_
      refine XS.iloadN X0.here hx rfl (hb hby d13_21) rfl ?_
      refine st8 _ ?_
      exact k)
    obtain ⟨fs, hr, hrun, hended, hW, hsame⟩ := X8.leave (v := some (.int x9)) (hlocks := BodyLoose.notSynchronized Bd) (fun h => by rw [Bd.returns] at h; cases h)
    refine ⟨_, _, pre12 _ ?_, hrun, hended, _, _, rfl, ?_, ⟨_, rfl⟩, hW, hsame.mono (by decide) (by decide)⟩
    · exact retI X8 hx Bd.returns (hb hby d13_25) hr
    · show Q_nL Z ww h0 n0 _ T8.heap _
      rw [hq10]
      exact ⟨x9, rfl, N8, rfl, (own_n64_hi hpq11 hc2)⟩

theorem ef_lt (m : MethodId) (x0 : Addr) : entryFrame m #[(.ref x0)] 1 = mkF m 0 #[.val (.ref x0)] [] := by first | (simp [entryFrame, mkF, argsToLocals, Value.category]; done) | rfl
def Q_lt (Z : State) (dd : Addr) (ka : Addr) (wa : Addr) (kk : ClassId) (kw : ClassId) (cap : Int32) (sz : Int32) (kv : List Value) (wv : List Value) (SS : Int32 → Prop) (sh : Int32) (h0 : Heap) (n0 : Nat) (v : Option Value) (h : Heap) (L : List Loc) : Prop := ∃ r : Int32, v = some (.int r) ∧ Fr n0 L ∧ h = h0 ∧ own_top SS r
set_option maxRecDepth 65536 in
set_option maxHeartbeats 40000000 in
theorem rm_lt (l : Launch) (Z : State) (a0 : Array Value) (hw : ∀ d ∈ tables_1, d.before a0 Z = true) (ws : List Jvm.Cond) (dd : Addr) (ka : Addr) (wa : Addr) (kk : ClassId) (kw : ClassId) (cap : Int32) (sz : Int32) (kv : List Value) (wv : List Value) (SS : Int32 → Prop) (sh : Int32) (h0 : Heap) (n0 : Nat) (Z0 : n0 ≤ h0.size) (H0_E : Exa Z h0 dd "org/tallyrole/core/Dependencies") (H1_F : Fld Z h0 dd "org/tallyrole/core/Dependencies" "keys" "[I" (.ref ka)) (H2_F : Fld Z h0 dd "org/tallyrole/core/Dependencies" "words" "[J" (.ref wa)) (H3_F : Fld Z h0 dd "org/tallyrole/core/Dependencies" "size" "I" (.int sz)) (H4_F : Fld Z h0 dd "org/tallyrole/core/Dependencies" "shared" "Z" (.int sh)) (H5_A : Arv Z h0 ka kk .int cap kv (.int (0 : Int32))) (H6_A : Arv Z h0 wa kw .long cap wv (.long (0 : Int64))) (hrep : own_s_0_0 cap sz kv wv SS ∨ own_s_1_0 cap sz kv wv SS ∨ own_s_1_1 cap sz kv wv SS ∨ own_s_3_1 cap sz kv wv SS ∨ own_s_3_2 cap sz kv wv SS ∨ own_s_3_3 cap sz kv wv SS) :
    MetFree l (⟨"org/tallyrole/core/Dependencies", "latest", "()I"⟩ : MethodName) (head1 (Jvm.Cond.code (⟨"org/tallyrole/core/Dependencies", "latest", "()I"⟩ : MethodName) prog_36_method_9_code 1 (some .int) :: ws) ({ frames := 2, cells := 0, slots := 0, locals := 30 } : Room)) (fun as_ U_ => as_ = #[(.ref dd)] ∧ Z.Warmed39 U_.vm ∧ U_.heap = h0) (fun _ _ _ _ _ => True) (fun _ U o U' => ∃ v L, o = .returned v ∧ Q_lt Z dd ka wa kk kw cap sz kv wv SS sh h0 n0 v U'.heap L ∧ FrameEnd U o U' L ({ frames := 2, cells := 0, slots := 0, locals := 30 } : Room).cells ({ frames := 2, cells := 0, slots := 0, locals := 30 } : Room).slots) := by
  refine MetFree.of_bodySF (plainFor_of_name pn_1) hisR ?_
  intro p e s m args below meth c s₁ Bd hml0 hP hK
  obtain ⟨rfl, hZ, hhp_⟩ := hP
  have hx := Bd.exec
  have hby := Bd.bytes
  have hml : c.maxLocals = 1 := hml0
  have hown : s.vm.findClass "org/tallyrole/core/Dependencies" = some m.cls := findClass_of_methodNamed Bd.named
  have hnm := (name_of_methodNamed Bd.named Bd.method).1
  have X0 : Stand p l e ({ frames := 2, cells := 0, slots := 0, locals := 30 } : Room) s m #[(.ref dd)] below meth c s₁ [] 0 0 := Stand.of_body Bd
  have e0 : s₁.heap = h0 := by rw [← hhp_, Bd.state]; rfl
  have N0 := Fr.nil n0
  have pre0 : ∀ t, Steps p.tables e below (s₁.setTop (mkF m 0 #[.val (.ref dd)] [])) t → Steps p.tables e below (s₁.setTop (entryFrame m #[(.ref dd)] 1)) t := fun t k => castTop (ef_lt m dd) k
  have hrep_ := hrep
  rcases hrep_ with ⟨rfl, rfl, rfl, rfl, hrr⟩ | ⟨g0, q0, rfl, rfl, rfl, rfl, hrr⟩ | ⟨k0, w0, rfl, rfl, rfl, rfl, hrr⟩ | ⟨k0, g1, g2, w0, q1, q2, rfl, rfl, rfl, rfl, hrr⟩ | ⟨k0, k1, g2, w0, w1, q2, rfl, rfl, rfl, rfl, hrr⟩ | ⟨k0, k1, k2, w0, w1, w2, rfl, rfl, rfl, rfl, hrr⟩
  · obtain ⟨T1, X1, e1, st1⟩ := getF X0 hx hZ hown (host := "") (Or.inl (own_w hw 23 rfl)) Via.refl e0 H3_F (g := (mkF m 1 #[.val (.ref dd)] [(.ref dd)])) rfl rfl (hb hby d12_1)
    have pre2 := fun (t : State) (k : Steps p.tables e below (T1.setTop (mkF m 43 #[.val (.ref dd)] [(.int (-1 : Int32))])) t) => pre0 t (by
      refine XS.aloadN X0.here hx rfl (hb hby d12_0) rfl rfl ?_
      refine st1 _ ?_
      refine XS.ifNo X1.here hx rfl (hb hby d12_4) rfl ((if0 _ _).trans (teq (by decide : (0 : Int32) = (0 : Int32))).2) ?_
      refine XS.iconst X1.here hx rfl (hb hby d12_7) ?_
      refine XS.goto X1.here hx rfl (pc0 := 8) (pc' := 43) rfl (hb hby d12_8) (by decide) (by decide) ?_
      exact k)
    obtain ⟨fs, hr, hrun, hended, hW, hsame⟩ := X1.leave (v := some (.int (-1 : Int32))) (hlocks := BodyLoose.notSynchronized Bd) (fun h => by rw [Bd.returns] at h; cases h)
    refine ⟨_, _, pre2 _ ?_, hrun, hended, _, _, rfl, ?_, ⟨_, rfl⟩, hW, hsame.mono (by decide) (by decide)⟩
    · exact retI X1 hx Bd.returns (hb hby d12_43) hr
    · show Q_lt Z dd ka wa kk kw (0 : Int32) (0 : Int32) [] [] SS sh h0 n0 _ T1.heap _
      rw [e1]
      exact ⟨(-1 : Int32), rfl, N0, rfl, (own_top_nil hrr)⟩
  · obtain ⟨T3, X3, e3, st3⟩ := getF X0 hx hZ hown (host := "") (Or.inl (own_w hw 23 rfl)) Via.refl e0 H3_F (g := (mkF m 1 #[.val (.ref dd)] [(.ref dd)])) rfl rfl (hb hby d12_1)
    have pre4 := fun (t : State) (k : Steps p.tables e below (T3.setTop (mkF m 43 #[.val (.ref dd)] [(.int (-1 : Int32))])) t) => pre0 t (by
      refine XS.aloadN X0.here hx rfl (hb hby d12_0) rfl rfl ?_
      refine st3 _ ?_
      refine XS.ifNo X3.here hx rfl (hb hby d12_4) rfl ((if0 _ _).trans (teq (by decide : (0 : Int32) = (0 : Int32))).2) ?_
      refine XS.iconst X3.here hx rfl (hb hby d12_7) ?_
      refine XS.goto X3.here hx rfl (pc0 := 8) (pc' := 43) rfl (hb hby d12_8) (by decide) (by decide) ?_
      exact k)
    obtain ⟨fs, hr, hrun, hended, hW, hsame⟩ := X3.leave (v := some (.int (-1 : Int32))) (hlocks := BodyLoose.notSynchronized Bd) (fun h => by rw [Bd.returns] at h; cases h)
    refine ⟨_, _, pre4 _ ?_, hrun, hended, _, _, rfl, ?_, ⟨_, rfl⟩, hW, hsame.mono (by decide) (by decide)⟩
    · exact retI X3 hx Bd.returns (hb hby d12_43) hr
    · show Q_lt Z dd ka wa kk kw (1 : Int32) (0 : Int32) [(.int g0)] [(.long q0)] SS sh h0 n0 _ T3.heap _
      rw [e3]
      exact ⟨(-1 : Int32), rfl, N0, rfl, (own_top_nil hrr)⟩
  · obtain ⟨T5, X5, e5, st5⟩ := getF X0 hx hZ hown (host := "") (Or.inl (own_w hw 23 rfl)) Via.refl e0 H3_F (g := (mkF m 1 #[.val (.ref dd)] [(.ref dd)])) rfl rfl (hb hby d12_1)
    obtain ⟨T6, X6, e6, st6⟩ := getF X5 hx hZ hown (host := "") (Or.inl (own_w hw 12 rfl)) Via.refl e5 H1_F (g := (mkF m 12 #[.val (.ref dd)] [(.ref dd)])) rfl rfl (hb hby d12_12)
    obtain ⟨T7, X7, e7, st7⟩ := getF X6 hx hZ hown (host := "") (Or.inl (own_w hw 23 rfl)) Via.refl e6 H3_F (g := (mkF m 16 #[.val (.ref dd)] [(.ref dd), (.ref ka)])) rfl rfl (hb hby d12_16)
    have oc8 := H5_A
    obtain ⟨c8, Arc8, qc8, Sc8, Nc8, Hc8, Gc8⟩ := oc8
    have hin9 : ¬ ((0 : Int32) < 0 ∨ c8.slots.size ≤ ((0 : Int32)).toNatClampNeg) := (inb_of Sc8 ⟨by decide, by decide⟩)
    obtain ⟨T10, X10, e10, st10⟩ := getF X7 hx hZ hown (host := "") (Or.inl (own_w hw 16 rfl)) Via.refl e7 H2_F (g := (mkF m 28 #[.val (.ref dd)] [(.ref dd), (.int (63 : Int32)), (.int (k0 <<< ((6 : Int32) &&& 31)))])) rfl rfl (hb hby d12_28)
    obtain ⟨T11, X11, e11, st11⟩ := getF X10 hx hZ hown (host := "") (Or.inl (own_w hw 23 rfl)) Via.refl e10 H3_F (g := (mkF m 32 #[.val (.ref dd)] [(.ref dd), (.ref wa), (.int (63 : Int32)), (.int (k0 <<< ((6 : Int32) &&& 31)))])) rfl rfl (hb hby d12_32)
    have oc12 := H6_A
    obtain ⟨c12, Arc12, qc12, Sc12, Nc12, Hc12, Gc12⟩ := oc12
    have hin13 : ¬ ((0 : Int32) < 0 ∨ c12.slots.size ≤ ((0 : Int32)).toNatClampNeg) := (inb_of Sc12 ⟨by decide, by decide⟩)
    obtain ⟨_, _, ⟨T14, L14, k14, n14⟩, -, X14, ⟨Lc14, hQ14, l14, y14, z14⟩, st14⟩ := Jvm.LawKit.callS X11 hx (y := (⟨"java/lang/Long", "numberOfLeadingZeros", "(J)I"⟩ : MethodName)) hown (mvT hZ (own_w hw 66 rfl)) (mvT hZ (own_w hw 67 rfl)) (mvT hZ (own_w hw 68 rfl)) (mvT hZ (own_w hw 69 rfl)) (by decide) (backOf (W := 2) (rm_nL l Z a0 hw [] w0 h0 n0 Z0 ) hZ (own_w hw 69 rfl) (own_w hw 68 rfl) (by decide) (by decide)) (g := (mkF m 38 #[.val (.ref dd)] [(.long w0), (.int (63 : Int32)), (.int (k0 <<< ((6 : Int32) &&& 31)))])) rfl (by rw [hml]; rfl) (argsL := [(.long w0)]) (rest := [(.int (63 : Int32)), (.int (k0 <<< ((6 : Int32) &&& 31)))]) (lenOf pd_6 rfl) rfl (by show 2 * 0 + _ ≤ _; exact Nat.le_of_eq rfl) (hb hby d12_38) (fun _ _ => ⟨rfl, e11, (by decide : 0 + 0 ≤ _), (by decide : 0 + 0 ≤ _)⟩)
    dsimp only [Pt.U, Pt.locs, Pt.cells, Pt.slots] at X14 l14 y14 z14 st14 hQ14
    subst l14 y14 z14
    obtain ⟨x15, rfl, N14q, hq16, hpq17⟩ := hQ14
    have N14 := Fr.app N0 N14q
    have pre18 := fun (t : State) (k : Steps p.tables e below (T14.setTop (mkF m 43 #[.val (.ref dd)] [(.int ((k0 <<< ((6 : Int32) &&& 31)) ||| ((63 : Int32) - x15)))])) t) => pre0 t (by
      refine XS.aloadN X0.here hx rfl (hb hby d12_0) rfl rfl ?_
      refine st5 _ ?_
      refine XS.ifYes X5.here hx rfl (pc0 := 4) (pc' := 11) rfl (hb hby d12_4) rfl ((if0 _ _).trans (feq (by decide : ¬ ((1 : Int32) = (0 : Int32)))).2) (by decide) (by decide) ?_
      refine XS.aloadN X5.here hx rfl (hb hby d12_11) rfl rfl ?_
      refine st6 _ ?_
      refine XS.aloadN X6.here hx rfl (hb hby d12_15) rfl rfl ?_
      refine st7 _ ?_
      refine XS.iconst X7.here hx rfl (hb hby d12_19) ?_
      refine XS.isub X7.here hx rfl (hb hby d12_20) rfl ?_
      refine X7.iaload hx (j := (0 : Int32)) (v := (.int k0)) (by rw [e7]; exact Arc8.1) (State.isArrayOf_alike hZ.alike Arc8.2.1) Arc8.2.2 hin9 (Has.at Hc8 hin9 rfl) (g := (mkF m 21 #[.val (.ref dd)] [(.int (0 : Int32)), (.ref ka)])) rfl rfl (hb hby d12_21) _ ?_
      refine XS.bipush X7.here hx rfl (hb hby d12_22) ?_
      refine XS.ishl X7.here hx rfl (hb hby d12_24) rfl ?_
      refine XS.bipush X7.here hx rfl (hb hby d12_25) ?_
      refine XS.aloadN X7.here hx rfl (hb hby d12_27) rfl rfl ?_
      refine st10 _ ?_
      refine XS.aloadN X10.here hx rfl (hb hby d12_31) rfl rfl ?_
      refine st11 _ ?_
      refine XS.iconst X11.here hx rfl (hb hby d12_35) ?_
      refine XS.isub X11.here hx rfl (hb hby d12_36) rfl ?_
      refine X11.laload hx (j := (0 : Int32)) (v := (.long w0)) (by rw [e11]; exact Arc12.1) (State.isArrayOf_alike hZ.alike Arc12.2.1) Arc12.2.2 hin13 (Has.at Hc12 hin13 rfl) (g := (mkF m 37 #[.val (.ref dd)] [(.int (0 : Int32)), (.ref wa), (.int (63 : Int32)), (.int (k0 <<< ((6 : Int32) &&& 31)))])) rfl rfl (hb hby d12_37) _ ?_
      refine st14 _ ?_
      refine XS.isub X14.here hx rfl (hb hby d12_41) rfl ?_
      refine XS.ior X14.here hx rfl (hb hby d12_42) rfl ?_
      exact k)
    obtain ⟨fs, hr, hrun, hended, hW, hsame⟩ := X14.leave (v := some (.int ((k0 <<< ((6 : Int32) &&& 31)) ||| ((63 : Int32) - x15)))) (hlocks := BodyLoose.notSynchronized Bd) (fun h => by rw [Bd.returns] at h; cases h)
    refine ⟨_, _, pre18 _ ?_, hrun, hended, _, _, rfl, ?_, ⟨_, rfl⟩, hW, hsame.mono (by decide) (by decide)⟩
    · exact retI X14 hx Bd.returns (hb hby d12_43) hr
    · show Q_lt Z dd ka wa kk kw (1 : Int32) (1 : Int32) [(.int k0)] [(.long w0)] SS sh h0 n0 _ T14.heap _
      rw [hq16]
      exact ⟨((k0 <<< ((6 : Int32) &&& 31)) ||| ((63 : Int32) - x15)), rfl, N14, rfl, (own_r_top (A := []) hrr hpq17)⟩
  · obtain ⟨T19, X19, e19, st19⟩ := getF X0 hx hZ hown (host := "") (Or.inl (own_w hw 23 rfl)) Via.refl e0 H3_F (g := (mkF m 1 #[.val (.ref dd)] [(.ref dd)])) rfl rfl (hb hby d12_1)
    obtain ⟨T20, X20, e20, st20⟩ := getF X19 hx hZ hown (host := "") (Or.inl (own_w hw 12 rfl)) Via.refl e19 H1_F (g := (mkF m 12 #[.val (.ref dd)] [(.ref dd)])) rfl rfl (hb hby d12_12)
    obtain ⟨T21, X21, e21, st21⟩ := getF X20 hx hZ hown (host := "") (Or.inl (own_w hw 23 rfl)) Via.refl e20 H3_F (g := (mkF m 16 #[.val (.ref dd)] [(.ref dd), (.ref ka)])) rfl rfl (hb hby d12_16)
    have oc22 := H5_A
    obtain ⟨c22, Arc22, qc22, Sc22, Nc22, Hc22, Gc22⟩ := oc22
    have hin23 : ¬ ((0 : Int32) < 0 ∨ c22.slots.size ≤ ((0 : Int32)).toNatClampNeg) := (inb_of Sc22 ⟨by decide, by decide⟩)
    obtain ⟨T24, X24, e24, st24⟩ := getF X21 hx hZ hown (host := "") (Or.inl (own_w hw 16 rfl)) Via.refl e21 H2_F (g := (mkF m 28 #[.val (.ref dd)] [(.ref dd), (.int (63 : Int32)), (.int (k0 <<< ((6 : Int32) &&& 31)))])) rfl rfl (hb hby d12_28)
    obtain ⟨T25, X25, e25, st25⟩ := getF X24 hx hZ hown (host := "") (Or.inl (own_w hw 23 rfl)) Via.refl e24 H3_F (g := (mkF m 32 #[.val (.ref dd)] [(.ref dd), (.ref wa), (.int (63 : Int32)), (.int (k0 <<< ((6 : Int32) &&& 31)))])) rfl rfl (hb hby d12_32)
    have oc26 := H6_A
    obtain ⟨c26, Arc26, qc26, Sc26, Nc26, Hc26, Gc26⟩ := oc26
    have hin27 : ¬ ((0 : Int32) < 0 ∨ c26.slots.size ≤ ((0 : Int32)).toNatClampNeg) := (inb_of Sc26 ⟨by decide, by decide⟩)
    obtain ⟨_, _, ⟨T28, L28, k28, n28⟩, -, X28, ⟨Lc28, hQ28, l28, y28, z28⟩, st28⟩ := Jvm.LawKit.callS X25 hx (y := (⟨"java/lang/Long", "numberOfLeadingZeros", "(J)I"⟩ : MethodName)) hown (mvT hZ (own_w hw 66 rfl)) (mvT hZ (own_w hw 67 rfl)) (mvT hZ (own_w hw 68 rfl)) (mvT hZ (own_w hw 69 rfl)) (by decide) (backOf (W := 2) (rm_nL l Z a0 hw [] w0 h0 n0 Z0 ) hZ (own_w hw 69 rfl) (own_w hw 68 rfl) (by decide) (by decide)) (g := (mkF m 38 #[.val (.ref dd)] [(.long w0), (.int (63 : Int32)), (.int (k0 <<< ((6 : Int32) &&& 31)))])) rfl (by rw [hml]; rfl) (argsL := [(.long w0)]) (rest := [(.int (63 : Int32)), (.int (k0 <<< ((6 : Int32) &&& 31)))]) (lenOf pd_6 rfl) rfl (by show 2 * 0 + _ ≤ _; exact Nat.le_of_eq rfl) (hb hby d12_38) (fun _ _ => ⟨rfl, e25, (by decide : 0 + 0 ≤ _), (by decide : 0 + 0 ≤ _)⟩)
    dsimp only [Pt.U, Pt.locs, Pt.cells, Pt.slots] at X28 l28 y28 z28 st28 hQ28
    subst l28 y28 z28
    obtain ⟨x29, rfl, N28q, hq30, hpq31⟩ := hQ28
    have N28 := Fr.app N0 N28q
    have pre32 := fun (t : State) (k : Steps p.tables e below (T28.setTop (mkF m 43 #[.val (.ref dd)] [(.int ((k0 <<< ((6 : Int32) &&& 31)) ||| ((63 : Int32) - x29)))])) t) => pre0 t (by
      refine XS.aloadN X0.here hx rfl (hb hby d12_0) rfl rfl ?_
      refine st19 _ ?_
      refine XS.ifYes X19.here hx rfl (pc0 := 4) (pc' := 11) rfl (hb hby d12_4) rfl ((if0 _ _).trans (feq (by decide : ¬ ((1 : Int32) = (0 : Int32)))).2) (by decide) (by decide) ?_
      refine XS.aloadN X19.here hx rfl (hb hby d12_11) rfl rfl ?_
      refine st20 _ ?_
      refine XS.aloadN X20.here hx rfl (hb hby d12_15) rfl rfl ?_
      refine st21 _ ?_
      refine XS.iconst X21.here hx rfl (hb hby d12_19) ?_
      refine XS.isub X21.here hx rfl (hb hby d12_20) rfl ?_
      refine X21.iaload hx (j := (0 : Int32)) (v := (.int k0)) (by rw [e21]; exact Arc22.1) (State.isArrayOf_alike hZ.alike Arc22.2.1) Arc22.2.2 hin23 (Has.at Hc22 hin23 rfl) (g := (mkF m 21 #[.val (.ref dd)] [(.int (0 : Int32)), (.ref ka)])) rfl rfl (hb hby d12_21) _ ?_
      refine XS.bipush X21.here hx rfl (hb hby d12_22) ?_
      refine XS.ishl X21.here hx rfl (hb hby d12_24) rfl ?_
      refine XS.bipush X21.here hx rfl (hb hby d12_25) ?_
      refine XS.aloadN X21.here hx rfl (hb hby d12_27) rfl rfl ?_
      refine st24 _ ?_
      refine XS.aloadN X24.here hx rfl (hb hby d12_31) rfl rfl ?_
      refine st25 _ ?_
      refine XS.iconst X25.here hx rfl (hb hby d12_35) ?_
      refine XS.isub X25.here hx rfl (hb hby d12_36) rfl ?_
      refine X25.laload hx (j := (0 : Int32)) (v := (.long w0)) (by rw [e25]; exact Arc26.1) (State.isArrayOf_alike hZ.alike Arc26.2.1) Arc26.2.2 hin27 (Has.at Hc26 hin27 rfl) (g := (mkF m 37 #[.val (.ref dd)] [(.int (0 : Int32)), (.ref wa), (.int (63 : Int32)), (.int (k0 <<< ((6 : Int32) &&& 31)))])) rfl rfl (hb hby d12_37) _ ?_
      refine st28 _ ?_
      refine XS.isub X28.here hx rfl (hb hby d12_41) rfl ?_
      refine XS.ior X28.here hx rfl (hb hby d12_42) rfl ?_
      exact k)
    obtain ⟨fs, hr, hrun, hended, hW, hsame⟩ := X28.leave (v := some (.int ((k0 <<< ((6 : Int32) &&& 31)) ||| ((63 : Int32) - x29)))) (hlocks := BodyLoose.notSynchronized Bd) (fun h => by rw [Bd.returns] at h; cases h)
    refine ⟨_, _, pre32 _ ?_, hrun, hended, _, _, rfl, ?_, ⟨_, rfl⟩, hW, hsame.mono (by decide) (by decide)⟩
    · exact retI X28 hx Bd.returns (hb hby d12_43) hr
    · show Q_lt Z dd ka wa kk kw (3 : Int32) (1 : Int32) [(.int k0), (.int g1), (.int g2)] [(.long w0), (.long q1), (.long q2)] SS sh h0 n0 _ T28.heap _
      rw [hq30]
      exact ⟨((k0 <<< ((6 : Int32) &&& 31)) ||| ((63 : Int32) - x29)), rfl, N28, rfl, (own_r_top (A := []) hrr hpq31)⟩
  · have ho0 : k0 < k1 := own_o0 hrr
    obtain ⟨T33, X33, e33, st33⟩ := getF X0 hx hZ hown (host := "") (Or.inl (own_w hw 23 rfl)) Via.refl e0 H3_F (g := (mkF m 1 #[.val (.ref dd)] [(.ref dd)])) rfl rfl (hb hby d12_1)
    obtain ⟨T34, X34, e34, st34⟩ := getF X33 hx hZ hown (host := "") (Or.inl (own_w hw 12 rfl)) Via.refl e33 H1_F (g := (mkF m 12 #[.val (.ref dd)] [(.ref dd)])) rfl rfl (hb hby d12_12)
    obtain ⟨T35, X35, e35, st35⟩ := getF X34 hx hZ hown (host := "") (Or.inl (own_w hw 23 rfl)) Via.refl e34 H3_F (g := (mkF m 16 #[.val (.ref dd)] [(.ref dd), (.ref ka)])) rfl rfl (hb hby d12_16)
    have oc36 := H5_A
    obtain ⟨c36, Arc36, qc36, Sc36, Nc36, Hc36, Gc36⟩ := oc36
    have hin37 : ¬ ((1 : Int32) < 0 ∨ c36.slots.size ≤ ((1 : Int32)).toNatClampNeg) := (inb_of Sc36 ⟨by decide, by decide⟩)
    obtain ⟨T38, X38, e38, st38⟩ := getF X35 hx hZ hown (host := "") (Or.inl (own_w hw 16 rfl)) Via.refl e35 H2_F (g := (mkF m 28 #[.val (.ref dd)] [(.ref dd), (.int (63 : Int32)), (.int (k1 <<< ((6 : Int32) &&& 31)))])) rfl rfl (hb hby d12_28)
    obtain ⟨T39, X39, e39, st39⟩ := getF X38 hx hZ hown (host := "") (Or.inl (own_w hw 23 rfl)) Via.refl e38 H3_F (g := (mkF m 32 #[.val (.ref dd)] [(.ref dd), (.ref wa), (.int (63 : Int32)), (.int (k1 <<< ((6 : Int32) &&& 31)))])) rfl rfl (hb hby d12_32)
    have oc40 := H6_A
    obtain ⟨c40, Arc40, qc40, Sc40, Nc40, Hc40, Gc40⟩ := oc40
    have hin41 : ¬ ((1 : Int32) < 0 ∨ c40.slots.size ≤ ((1 : Int32)).toNatClampNeg) := (inb_of Sc40 ⟨by decide, by decide⟩)
    obtain ⟨_, _, ⟨T42, L42, k42, n42⟩, -, X42, ⟨Lc42, hQ42, l42, y42, z42⟩, st42⟩ := Jvm.LawKit.callS X39 hx (y := (⟨"java/lang/Long", "numberOfLeadingZeros", "(J)I"⟩ : MethodName)) hown (mvT hZ (own_w hw 66 rfl)) (mvT hZ (own_w hw 67 rfl)) (mvT hZ (own_w hw 68 rfl)) (mvT hZ (own_w hw 69 rfl)) (by decide) (backOf (W := 2) (rm_nL l Z a0 hw [] w1 h0 n0 Z0 ) hZ (own_w hw 69 rfl) (own_w hw 68 rfl) (by decide) (by decide)) (g := (mkF m 38 #[.val (.ref dd)] [(.long w1), (.int (63 : Int32)), (.int (k1 <<< ((6 : Int32) &&& 31)))])) rfl (by rw [hml]; rfl) (argsL := [(.long w1)]) (rest := [(.int (63 : Int32)), (.int (k1 <<< ((6 : Int32) &&& 31)))]) (lenOf pd_6 rfl) rfl (by show 2 * 0 + _ ≤ _; exact Nat.le_of_eq rfl) (hb hby d12_38) (fun _ _ => ⟨rfl, e39, (by decide : 0 + 0 ≤ _), (by decide : 0 + 0 ≤ _)⟩)
    dsimp only [Pt.U, Pt.locs, Pt.cells, Pt.slots] at X42 l42 y42 z42 st42 hQ42
    subst l42 y42 z42
    obtain ⟨x43, rfl, N42q, hq44, hpq45⟩ := hQ42
    have N42 := Fr.app N0 N42q
    have pre46 := fun (t : State) (k : Steps p.tables e below (T42.setTop (mkF m 43 #[.val (.ref dd)] [(.int ((k1 <<< ((6 : Int32) &&& 31)) ||| ((63 : Int32) - x43)))])) t) => pre0 t (by
      refine XS.aloadN X0.here hx rfl (hb hby d12_0) rfl rfl ?_
      refine st33 _ ?_
      refine XS.ifYes X33.here hx rfl (pc0 := 4) (pc' := 11) rfl (hb hby d12_4) rfl ((if0 _ _).trans (feq (by decide : ¬ ((2 : Int32) = (0 : Int32)))).2) (by decide) (by decide) ?_
      refine XS.aloadN X33.here hx rfl (hb hby d12_11) rfl rfl ?_
      refine st34 _ ?_
      refine XS.aloadN X34.here hx rfl (hb hby d12_15) rfl rfl ?_
      refine st35 _ ?_
      refine XS.iconst X35.here hx rfl (hb hby d12_19) ?_
      refine XS.isub X35.here hx rfl (hb hby d12_20) rfl ?_
      refine X35.iaload hx (j := (1 : Int32)) (v := (.int k1)) (by rw [e35]; exact Arc36.1) (State.isArrayOf_alike hZ.alike Arc36.2.1) Arc36.2.2 hin37 (Has.at Hc36 hin37 rfl) (g := (mkF m 21 #[.val (.ref dd)] [(.int (1 : Int32)), (.ref ka)])) rfl rfl (hb hby d12_21) _ ?_
      refine XS.bipush X35.here hx rfl (hb hby d12_22) ?_
      refine XS.ishl X35.here hx rfl (hb hby d12_24) rfl ?_
      refine XS.bipush X35.here hx rfl (hb hby d12_25) ?_
      refine XS.aloadN X35.here hx rfl (hb hby d12_27) rfl rfl ?_
      refine st38 _ ?_
      refine XS.aloadN X38.here hx rfl (hb hby d12_31) rfl rfl ?_
      refine st39 _ ?_
      refine XS.iconst X39.here hx rfl (hb hby d12_35) ?_
      refine XS.isub X39.here hx rfl (hb hby d12_36) rfl ?_
      refine X39.laload hx (j := (1 : Int32)) (v := (.long w1)) (by rw [e39]; exact Arc40.1) (State.isArrayOf_alike hZ.alike Arc40.2.1) Arc40.2.2 hin41 (Has.at Hc40 hin41 rfl) (g := (mkF m 37 #[.val (.ref dd)] [(.int (1 : Int32)), (.ref wa), (.int (63 : Int32)), (.int (k1 <<< ((6 : Int32) &&& 31)))])) rfl rfl (hb hby d12_37) _ ?_
      refine st42 _ ?_
      refine XS.isub X42.here hx rfl (hb hby d12_41) rfl ?_
      refine XS.ior X42.here hx rfl (hb hby d12_42) rfl ?_
      exact k)
    obtain ⟨fs, hr, hrun, hended, hW, hsame⟩ := X42.leave (v := some (.int ((k1 <<< ((6 : Int32) &&& 31)) ||| ((63 : Int32) - x43)))) (hlocks := BodyLoose.notSynchronized Bd) (fun h => by rw [Bd.returns] at h; cases h)
    refine ⟨_, _, pre46 _ ?_, hrun, hended, _, _, rfl, ?_, ⟨_, rfl⟩, hW, hsame.mono (by decide) (by decide)⟩
    · exact retI X42 hx Bd.returns (hb hby d12_43) hr
    · show Q_lt Z dd ka wa kk kw (3 : Int32) (2 : Int32) [(.int k0), (.int k1), (.int g2)] [(.long w0), (.long w1), (.long q2)] SS sh h0 n0 _ T42.heap _
      rw [hq44]
      exact ⟨((k1 <<< ((6 : Int32) &&& 31)) ||| ((63 : Int32) - x43)), rfl, N42, rfl, (own_r_top (A := [(k0, w0)]) hrr hpq45)⟩
  · have ho0 : k0 < k1 := own_o0 hrr
    have ho1 : k1 < k2 := own_o1 hrr
    obtain ⟨T47, X47, e47, st47⟩ := getF X0 hx hZ hown (host := "") (Or.inl (own_w hw 23 rfl)) Via.refl e0 H3_F (g := (mkF m 1 #[.val (.ref dd)] [(.ref dd)])) rfl rfl (hb hby d12_1)
    obtain ⟨T48, X48, e48, st48⟩ := getF X47 hx hZ hown (host := "") (Or.inl (own_w hw 12 rfl)) Via.refl e47 H1_F (g := (mkF m 12 #[.val (.ref dd)] [(.ref dd)])) rfl rfl (hb hby d12_12)
    obtain ⟨T49, X49, e49, st49⟩ := getF X48 hx hZ hown (host := "") (Or.inl (own_w hw 23 rfl)) Via.refl e48 H3_F (g := (mkF m 16 #[.val (.ref dd)] [(.ref dd), (.ref ka)])) rfl rfl (hb hby d12_16)
    have oc50 := H5_A
    obtain ⟨c50, Arc50, qc50, Sc50, Nc50, Hc50, Gc50⟩ := oc50
    have hin51 : ¬ ((2 : Int32) < 0 ∨ c50.slots.size ≤ ((2 : Int32)).toNatClampNeg) := (inb_of Sc50 ⟨by decide, by decide⟩)
    obtain ⟨T52, X52, e52, st52⟩ := getF X49 hx hZ hown (host := "") (Or.inl (own_w hw 16 rfl)) Via.refl e49 H2_F (g := (mkF m 28 #[.val (.ref dd)] [(.ref dd), (.int (63 : Int32)), (.int (k2 <<< ((6 : Int32) &&& 31)))])) rfl rfl (hb hby d12_28)
    obtain ⟨T53, X53, e53, st53⟩ := getF X52 hx hZ hown (host := "") (Or.inl (own_w hw 23 rfl)) Via.refl e52 H3_F (g := (mkF m 32 #[.val (.ref dd)] [(.ref dd), (.ref wa), (.int (63 : Int32)), (.int (k2 <<< ((6 : Int32) &&& 31)))])) rfl rfl (hb hby d12_32)
    have oc54 := H6_A
    obtain ⟨c54, Arc54, qc54, Sc54, Nc54, Hc54, Gc54⟩ := oc54
    have hin55 : ¬ ((2 : Int32) < 0 ∨ c54.slots.size ≤ ((2 : Int32)).toNatClampNeg) := (inb_of Sc54 ⟨by decide, by decide⟩)
    obtain ⟨_, _, ⟨T56, L56, k56, n56⟩, -, X56, ⟨Lc56, hQ56, l56, y56, z56⟩, st56⟩ := Jvm.LawKit.callS X53 hx (y := (⟨"java/lang/Long", "numberOfLeadingZeros", "(J)I"⟩ : MethodName)) hown (mvT hZ (own_w hw 66 rfl)) (mvT hZ (own_w hw 67 rfl)) (mvT hZ (own_w hw 68 rfl)) (mvT hZ (own_w hw 69 rfl)) (by decide) (backOf (W := 2) (rm_nL l Z a0 hw [] w2 h0 n0 Z0 ) hZ (own_w hw 69 rfl) (own_w hw 68 rfl) (by decide) (by decide)) (g := (mkF m 38 #[.val (.ref dd)] [(.long w2), (.int (63 : Int32)), (.int (k2 <<< ((6 : Int32) &&& 31)))])) rfl (by rw [hml]; rfl) (argsL := [(.long w2)]) (rest := [(.int (63 : Int32)), (.int (k2 <<< ((6 : Int32) &&& 31)))]) (lenOf pd_6 rfl) rfl (by show 2 * 0 + _ ≤ _; exact Nat.le_of_eq rfl) (hb hby d12_38) (fun _ _ => ⟨rfl, e53, (by decide : 0 + 0 ≤ _), (by decide : 0 + 0 ≤ _)⟩)
    dsimp only [Pt.U, Pt.locs, Pt.cells, Pt.slots] at X56 l56 y56 z56 st56 hQ56
    subst l56 y56 z56
    obtain ⟨x57, rfl, N56q, hq58, hpq59⟩ := hQ56
    have N56 := Fr.app N0 N56q
    have pre60 := fun (t : State) (k : Steps p.tables e below (T56.setTop (mkF m 43 #[.val (.ref dd)] [(.int ((k2 <<< ((6 : Int32) &&& 31)) ||| ((63 : Int32) - x57)))])) t) => pre0 t (by
      refine XS.aloadN X0.here hx rfl (hb hby d12_0) rfl rfl ?_
      refine st47 _ ?_
      refine XS.ifYes X47.here hx rfl (pc0 := 4) (pc' := 11) rfl (hb hby d12_4) rfl ((if0 _ _).trans (feq (by decide : ¬ ((3 : Int32) = (0 : Int32)))).2) (by decide) (by decide) ?_
      refine XS.aloadN X47.here hx rfl (hb hby d12_11) rfl rfl ?_
      refine st48 _ ?_
      refine XS.aloadN X48.here hx rfl (hb hby d12_15) rfl rfl ?_
      refine st49 _ ?_
      refine XS.iconst X49.here hx rfl (hb hby d12_19) ?_
      refine XS.isub X49.here hx rfl (hb hby d12_20) rfl ?_
      refine X49.iaload hx (j := (2 : Int32)) (v := (.int k2)) (by rw [e49]; exact Arc50.1) (State.isArrayOf_alike hZ.alike Arc50.2.1) Arc50.2.2 hin51 (Has.at Hc50 hin51 rfl) (g := (mkF m 21 #[.val (.ref dd)] [(.int (2 : Int32)), (.ref ka)])) rfl rfl (hb hby d12_21) _ ?_
      refine XS.bipush X49.here hx rfl (hb hby d12_22) ?_
      refine XS.ishl X49.here hx rfl (hb hby d12_24) rfl ?_
      refine XS.bipush X49.here hx rfl (hb hby d12_25) ?_
      refine XS.aloadN X49.here hx rfl (hb hby d12_27) rfl rfl ?_
      refine st52 _ ?_
      refine XS.aloadN X52.here hx rfl (hb hby d12_31) rfl rfl ?_
      refine st53 _ ?_
      refine XS.iconst X53.here hx rfl (hb hby d12_35) ?_
      refine XS.isub X53.here hx rfl (hb hby d12_36) rfl ?_
      refine X53.laload hx (j := (2 : Int32)) (v := (.long w2)) (by rw [e53]; exact Arc54.1) (State.isArrayOf_alike hZ.alike Arc54.2.1) Arc54.2.2 hin55 (Has.at Hc54 hin55 rfl) (g := (mkF m 37 #[.val (.ref dd)] [(.int (2 : Int32)), (.ref wa), (.int (63 : Int32)), (.int (k2 <<< ((6 : Int32) &&& 31)))])) rfl rfl (hb hby d12_37) _ ?_
      refine st56 _ ?_
      refine XS.isub X56.here hx rfl (hb hby d12_41) rfl ?_
      refine XS.ior X56.here hx rfl (hb hby d12_42) rfl ?_
      exact k)
    obtain ⟨fs, hr, hrun, hended, hW, hsame⟩ := X56.leave (v := some (.int ((k2 <<< ((6 : Int32) &&& 31)) ||| ((63 : Int32) - x57)))) (hlocks := BodyLoose.notSynchronized Bd) (fun h => by rw [Bd.returns] at h; cases h)
    refine ⟨_, _, pre60 _ ?_, hrun, hended, _, _, rfl, ?_, ⟨_, rfl⟩, hW, hsame.mono (by decide) (by decide)⟩
    · exact retI X56 hx Bd.returns (hb hby d12_43) hr
    · show Q_lt Z dd ka wa kk kw (3 : Int32) (3 : Int32) [(.int k0), (.int k1), (.int k2)] [(.long w0), (.long w1), (.long w2)] SS sh h0 n0 _ T56.heap _
      rw [hq58]
      exact ⟨((k2 <<< ((6 : Int32) &&& 31)) ||| ((63 : Int32) - x57)), rfl, N56, rfl, (own_r_top (A := [(k0, w0), (k1, w1)]) hrr hpq59)⟩

theorem ef_ini (m : MethodId) (x0 : Addr) : entryFrame m #[(.ref x0)] 1 = mkF m 0 #[.val (.ref x0)] [] := by first | (simp [entryFrame, mkF, argsToLocals, Value.category]; done) | rfl
def Q_ini (Z : State) (dd : Addr) (ka : Addr) (wa : Addr) (h0 : Heap) (n0 : Nat) (v : Option Value) (h : Heap) (L : List Loc) : Prop := v = none ∧ Fr n0 L ∧ Keep h0 h [dd] ∧ Fld Z h dd "org/tallyrole/core/Dependencies" "keys" "[I" (.ref ka) ∧ Fld Z h dd "org/tallyrole/core/Dependencies" "words" "[J" (.ref wa) ∧ Fld Z h dd "org/tallyrole/core/Dependencies" "size" "I" (.int (0 : Int32)) ∧ Fld Z h dd "org/tallyrole/core/Dependencies" "shared" "Z" (.int (0 : Int32))
set_option maxRecDepth 65536 in
set_option maxHeartbeats 40000000 in
theorem rm_ini (l : Launch) (Z : State) (a0 : Array Value) (hw : ∀ d ∈ tables_1, d.before a0 Z = true) (ws : List Jvm.Cond) (dd : Addr) (ka : Addr) (wa : Addr) (h0 : Heap) (n0 : Nat) (Z0 : n0 ≤ h0.size) (H0_E : Exa Z h0 dd "org/tallyrole/core/Dependencies") (H1_F : Fld Z h0 dd "org/tallyrole/core/Dependencies" "keys" "[I" .null) (H2_F : Fld Z h0 dd "org/tallyrole/core/Dependencies" "words" "[J" .null) (H3_F : Fld Z h0 dd "org/tallyrole/core/Dependencies" "size" "I" (.int (0 : Int32))) (H4_F : Fld Z h0 dd "org/tallyrole/core/Dependencies" "shared" "Z" (.int (0 : Int32))) (H5_S : Sta Z h0 "org/tallyrole/core/Dependencies" "NO_KEYS" "[I" (.ref ka)) (H6_S : Sta Z h0 "org/tallyrole/core/Dependencies" "NO_WORDS" "[J" (.ref wa)) (hdd : n0 ≤ dd) :
    MetFree l (⟨"org/tallyrole/core/Dependencies", "<init>", "()V"⟩ : MethodName) (head1 (Jvm.Cond.code (⟨"org/tallyrole/core/Dependencies", "<init>", "()V"⟩ : MethodName) prog_36_method_1_code 1 none :: ws) ({ frames := 1, cells := 0, slots := 0, locals := 12 } : Room)) (fun as_ U_ => as_ = #[(.ref dd)] ∧ Z.Warmed39 U_.vm ∧ U_.heap = h0) (fun _ _ _ _ _ => True) (fun _ U o U' => ∃ v L, o = .returned v ∧ Q_ini Z dd ka wa h0 n0 v U'.heap L ∧ FrameEnd U o U' L ({ frames := 1, cells := 0, slots := 0, locals := 12 } : Room).cells ({ frames := 1, cells := 0, slots := 0, locals := 12 } : Room).slots) := by
  refine MetFree.of_bodySF (plainFor_of_name pn_1) hisR ?_
  intro p e s m args below meth c s₁ Bd hml0 hP hK
  obtain ⟨rfl, hZ, hhp_⟩ := hP
  have hx := Bd.exec
  have hby := Bd.bytes
  have hml : c.maxLocals = 1 := hml0
  have hown : s.vm.findClass "org/tallyrole/core/Dependencies" = some m.cls := findClass_of_methodNamed Bd.named
  have hnm := (name_of_methodNamed Bd.named Bd.method).1
  have X0 : Stand p l e ({ frames := 1, cells := 0, slots := 0, locals := 12 } : Room) s m #[(.ref dd)] below meth c s₁ [] 0 0 := Stand.of_body Bd
  have e0 : s₁.heap = h0 := by rw [← hhp_, Bd.state]; rfl
  have N0 := Fr.nil n0
  have pre0 : ∀ t, Steps p.tables e below (s₁.setTop (mkF m 0 #[.val (.ref dd)] [])) t → Steps p.tables e below (s₁.setTop (entryFrame m #[(.ref dd)] 1)) t := fun t k => castTop (ef_ini m dd) k
  have K0 : Keep h0 h0 [dd] := Keep.refl h0 [dd]
  obtain ⟨T1, X1, e1, st1⟩ := initO X0 hx hZ hown (own_w hw 7 rfl) (own_w hw 8 rfl) (own_w hw 9 rfl) e0 (g := (mkF m 1 #[.val (.ref dd)] [(.ref dd)])) rfl (by rw [hml]; rfl) rfl (hb hby d1_1) (by decide) (W := 0) (by show 2 * 0 + _ ≤ _; exact Nat.le_of_eq rfl) (by decide)
  obtain ⟨T2, X2, e2, st2⟩ := getS2 X1 hx hZ hown (host := "") (Or.inl (own_w hw 10 rfl)) Via.refl e1 H5_S (g := (mkF m 5 #[.val (.ref dd)] [(.ref dd)])) rfl (hb hby d1_5)
  obtain ⟨T3, h3, X3, e3, W3, st3⟩ := putF X2 hx hZ hown (host := "") (Or.inl (own_w hw 12 rfl)) Via.refl e2 H1_F H0_E (Or.inl (own_w hw 13 rfl)) (own_w hw 2 rfl) (ty := (.array .int)) (by decide) rfl rfl (g := (mkF m 8 #[.val (.ref dd)] [(.ref ka), (.ref dd)])) rfl rfl (hb hby d1_8)
  have Fw3 : Fld Z h3 dd "org/tallyrole/core/Dependencies" "keys" "[I" (.ref ka) := H1_F.same W3
  have E4 := H0_E.wr W3
  have F5 := H2_F.other W3 (Or.inr (slot_ne (Or.inl (own_w hw 17 rfl)) (Or.inl (own_w hw 13 rfl)) (by decide) (t := (.array .long)) (t' := (.array .int)) (by decide) (by decide)))
  have F6 := H3_F.other W3 (Or.inr (slot_ne (Or.inl (own_w hw 24 rfl)) (Or.inl (own_w hw 13 rfl)) (by decide) (t := .int) (t' := (.array .int)) (by decide) (by decide)))
  have F7 := H4_F.other W3 (Or.inr (slot_ne (Or.inl (own_w hw 40 rfl)) (Or.inl (own_w hw 13 rfl)) (by decide) (t := .boolean) (t' := (.array .int)) (by decide) (by decide)))
  have S8 := H5_S.wr W3
  have S9 := H6_S.wr W3
  have N3 := Fr.snoc X3 N0 hdd
  have K3 : Keep h0 h3 [dd] := K0.wr W3 (Or.inl (List.mem_of_getElem? (i := 0) rfl))
  have Zs10 : n0 ≤ h3.size := (Nat.le_trans Z0 (Keep.of_wr W3).1)
  obtain ⟨T11, X11, e11, st11⟩ := getS2 X3 hx hZ hown (host := "") (Or.inl (own_w hw 14 rfl)) Via.refl e3 S9 (g := (mkF m 12 #[.val (.ref dd)] [(.ref dd)])) rfl (hb hby d1_12)
  obtain ⟨T12, h12, X12, e12, W12, st12⟩ := putF X11 hx hZ hown (host := "") (Or.inl (own_w hw 16 rfl)) Via.refl e11 F5 E4 (Or.inl (own_w hw 17 rfl)) (own_w hw 2 rfl) (ty := (.array .long)) (by decide) rfl rfl (g := (mkF m 15 #[.val (.ref dd)] [(.ref wa), (.ref dd)])) rfl rfl (hb hby d1_15)
  have Fw12 : Fld Z h12 dd "org/tallyrole/core/Dependencies" "words" "[J" (.ref wa) := F5.same W12
  have E13 := E4.wr W12
  have F14 := F6.other W12 (Or.inr (slot_ne (Or.inl (own_w hw 24 rfl)) (Or.inl (own_w hw 17 rfl)) (by decide) (t := .int) (t' := (.array .long)) (by decide) (by decide)))
  have F15 := F7.other W12 (Or.inr (slot_ne (Or.inl (own_w hw 40 rfl)) (Or.inl (own_w hw 17 rfl)) (by decide) (t := .boolean) (t' := (.array .long)) (by decide) (by decide)))
  have S16 := S8.wr W12
  have S17 := S9.wr W12
  have F18 := Fw3.other W12 (Or.inr (slot_ne (Or.inl (own_w hw 13 rfl)) (Or.inl (own_w hw 17 rfl)) (by decide) (t := (.array .int)) (t' := (.array .long)) (by decide) (by decide)))
  have N12 := Fr.snoc X12 N3 hdd
  have K12 : Keep h0 h12 [dd] := K3.wr W12 (Or.inl (List.mem_of_getElem? (i := 0) rfl))
  have Zs19 : n0 ≤ h12.size := (Nat.le_trans Zs10 (Keep.of_wr W12).1)
  have pre20 := fun (t : State) (k : Steps p.tables e below (T12.setTop (mkF m 18 #[.val (.ref dd)] [])) t) => pre0 t (by
    refine XS.aloadN X0.here hx rfl (hb hby d1_0) rfl rfl ?_
    refine st1 _ ?_
    refine XS.aloadN X1.here hx rfl (hb hby d1_4) rfl rfl ?_
    refine st2 _ ?_
    refine st3 _ ?_
    refine XS.aloadN X3.here hx rfl (hb hby d1_11) rfl rfl ?_
    refine st11 _ ?_
    refine st12 _ ?_
    exact k)
  obtain ⟨fs, hr, hrun, hended, hW, hsame⟩ := X12.leave (v := none) (hlocks := BodyLoose.notSynchronized Bd) (fun _ => rfl)
  refine ⟨_, _, pre20 _ ?_, hrun, hended, _, _, rfl, ?_, ⟨_, rfl⟩, hW, hsame.mono (by decide) (by decide)⟩
  · exact X12.returnOut hx Bd.returns (hb hby d1_18) hr
  · show Q_ini Z dd ka wa h0 n0 _ T12.heap _
    rw [e12]
    exact ⟨rfl, N12, K12, F18, Fw12, F14, F15⟩

theorem ef_aE (m : MethodId) (x0 : Addr) (x1 : Int32) : entryFrame m #[(.ref x0), (.int x1)] 7 = mkF m 0 #[.val (.ref x0), .val (.int x1), .unset, .unset, .unset, .unset, .unset] [] := by first | (simp [entryFrame, mkF, argsToLocals, Value.category]; done) | rfl
def Q_aE (Z : State) (dd : Addr) (ka : Addr) (wa : Addr) (kk : ClassId) (kw : ClassId) (SS : Int32 → Prop) (lv : Int32) (h0 : Heap) (n0 : Nat) (v : Option Value) (h : Heap) (L : List Loc) : Prop := ∃ xk : Addr, ∃ xw : Addr, ∃ kxk : ClassId, ∃ kxw : ClassId, ∃ cap' : Int32, ∃ sz' : Int32, ∃ kv' : List Value, ∃ wv' : List Value, v = none ∧ Fr n0 L ∧ Keep h0 h [dd] ∧ n0 ≤ xk ∧ h0.size ≤ xk ∧ n0 ≤ xw ∧ h0.size ≤ xw ∧ dd ≠ xk ∧ dd ≠ xw ∧ xk ≠ xw ∧ own_s_1_1 cap' sz' kv' wv' (own_ins SS lv) ∧ Exa Z h dd "org/tallyrole/core/Dependencies" ∧ Fld Z h dd "org/tallyrole/core/Dependencies" "keys" "[I" (.ref xk) ∧ Fld Z h dd "org/tallyrole/core/Dependencies" "words" "[J" (.ref xw) ∧ Fld Z h dd "org/tallyrole/core/Dependencies" "size" "I" (.int sz') ∧ Fld Z h dd "org/tallyrole/core/Dependencies" "shared" "Z" (.int (0 : Int32)) ∧ Arv Z h xk kxk .int cap' kv' (.int (0 : Int32)) ∧ Arv Z h xw kxw .long cap' wv' (.long (0 : Int64))
set_option maxRecDepth 65536 in
set_option maxHeartbeats 40000000 in
theorem rm_aE (l : Launch) (Z : State) (a0 : Array Value) (hw : ∀ d ∈ tables_1, d.before a0 Z = true) (ws : List Jvm.Cond) (dd : Addr) (ka : Addr) (wa : Addr) (kk : ClassId) (kw : ClassId) (SS : Int32 → Prop) (lv : Int32) (h0 : Heap) (n0 : Nat) (Z0 : n0 ≤ h0.size) (H0_E : Exa Z h0 dd "org/tallyrole/core/Dependencies") (H1_F : Fld Z h0 dd "org/tallyrole/core/Dependencies" "keys" "[I" (.ref ka)) (H2_F : Fld Z h0 dd "org/tallyrole/core/Dependencies" "words" "[J" (.ref wa)) (H3_F : Fld Z h0 dd "org/tallyrole/core/Dependencies" "size" "I" (.int (0 : Int32))) (H4_F : Fld Z h0 dd "org/tallyrole/core/Dependencies" "shared" "Z" (.int (0 : Int32))) (H5_A : Arv Z h0 ka kk .int (0 : Int32) [] (.int (0 : Int32))) (H6_A : Arv Z h0 wa kw .long (0 : Int32) [] (.long (0 : Int64))) (hS : ∀ z, ¬ SS z) (hdd : n0 ≤ dd) (hn1 : dd ≠ ka) (hn2 : dd ≠ wa) (hlv : ¬ (lv < (0 : Int32))) :
    MetFree l (⟨"org/tallyrole/core/Dependencies", "add", "(I)V"⟩ : MethodName) (head1 (Jvm.Cond.code (⟨"org/tallyrole/core/Dependencies", "add", "(I)V"⟩ : MethodName) prog_36_method_5_code 7 none :: ws) ({ frames := 3, cells := 2, slots := 2, locals := 47 } : Room)) (fun as_ U_ => as_ = #[(.ref dd), (.int lv)] ∧ Z.Warmed39 U_.vm ∧ U_.heap = h0) (fun _ _ _ _ _ => True) (fun _ U o U' => ∃ v L, o = .returned v ∧ Q_aE Z dd ka wa kk kw SS lv h0 n0 v U'.heap L ∧ FrameEnd U o U' L ({ frames := 3, cells := 2, slots := 2, locals := 47 } : Room).cells ({ frames := 3, cells := 2, slots := 2, locals := 47 } : Room).slots) := by
  refine MetFree.of_bodySF (plainFor_of_name pn_1) hisR ?_
  intro p e s m args below meth c s₁ Bd hml0 hP hK
  obtain ⟨rfl, hZ, hhp_⟩ := hP
  have hx := Bd.exec
  have hby := Bd.bytes
  have hml : c.maxLocals = 7 := hml0
  have hown : s.vm.findClass "org/tallyrole/core/Dependencies" = some m.cls := findClass_of_methodNamed Bd.named
  have hnm := (name_of_methodNamed Bd.named Bd.method).1
  have X0 : Stand p l e ({ frames := 3, cells := 2, slots := 2, locals := 47 } : Room) s m #[(.ref dd), (.int lv)] below meth c s₁ [] 0 0 := Stand.of_body Bd
  have e0 : s₁.heap = h0 := by rw [← hhp_, Bd.state]; rfl
  have N0 := Fr.nil n0
  have pre0 : ∀ t, Steps p.tables e below (s₁.setTop (mkF m 0 #[.val (.ref dd), .val (.int lv), .unset, .unset, .unset, .unset, .unset] [])) t → Steps p.tables e below (s₁.setTop (entryFrame m #[(.ref dd), (.int lv)] 7)) t := fun t k => castTop (ef_aE m dd lv) k
  have K0 : Keep h0 h0 [dd] := Keep.refl h0 [dd]
  have hrr : own_r [] SS := own_r_nil hS
  obtain ⟨T1, X1, e1, st1⟩ := getF X0 hx hZ hown (host := "") (Or.inl (own_w hw 12 rfl)) Via.refl e0 H1_F (g := (mkF m 10 #[.val (.ref dd), .val (.int lv), .val (.int (own_key lv)), .val (.long (own_bit lv)), .second, .unset, .unset] [(.ref dd)])) rfl rfl (hb hby d3_10)
  obtain ⟨T2, X2, e2, st2⟩ := getF X1 hx hZ hown (host := "") (Or.inl (own_w hw 23 rfl)) Via.refl e1 H3_F (g := (mkF m 15 #[.val (.ref dd), .val (.int lv), .val (.int (own_key lv)), .val (.long (own_bit lv)), .second, .unset, .unset] [(.ref dd), (.int (0 : Int32)), (.ref ka)])) rfl rfl (hb hby d3_15)
  obtain ⟨_, _, ⟨T3, L3, k3, n3⟩, -, X3, ⟨Lc3, hQ3, l3, y3, z3⟩, st3⟩ := Jvm.LawKit.callS X2 hx (y := (⟨"java/util/Arrays", "binarySearch", "([IIII)I"⟩ : MethodName)) hown (mvT hZ (own_w hw 25 rfl)) (mvT hZ (own_w hw 26 rfl)) (mvT hZ (own_w hw 27 rfl)) (mvT hZ (own_w hw 28 rfl)) (by decide) (backOf (W := 0) (rm_bs0_0 l Z a0 hw [] ka kk (own_key lv) h0 n0 Z0 H5_A) hZ (own_w hw 28 rfl) (own_w hw 27 rfl) (by decide) (by decide)) (g := (mkF m 19 #[.val (.ref dd), .val (.int lv), .val (.int (own_key lv)), .val (.long (own_bit lv)), .second, .unset, .unset] [(.int (own_key lv)), (.int (0 : Int32)), (.int (0 : Int32)), (.ref ka)])) rfl (by rw [hml]; rfl) (argsL := [(.ref ka), (.int (0 : Int32)), (.int (0 : Int32)), (.int (own_key lv))]) (rest := []) (lenOf pd_1 rfl) rfl (by show 2 * 0 + _ ≤ _; exact Nat.le_of_eq rfl) (hb hby d3_19) (fun _ _ => ⟨rfl, e2, (by decide : 0 + 0 ≤ _), (by decide : 0 + 0 ≤ _)⟩)
  dsimp only [Pt.U, Pt.locs, Pt.cells, Pt.slots] at X3 l3 y3 z3 st3 hQ3
  subst l3 y3 z3
  obtain ⟨x4, rfl, N3q, hq5, hpq6⟩ := hQ3
  have N3 := Fr.app N0 N3q
  have pre7 := fun (t : State) (k : Steps p.tables e below (T3.setTop (mkF m 22 #[.val (.ref dd), .val (.int lv), .val (.int (own_key lv)), .val (.long (own_bit lv)), .second, .unset, .unset] [(.int x4)])) t) => pre0 t (by
    refine XS.iloadN X0.here hx rfl (hb hby d3_0) rfl ?_
    refine XS.bipush X0.here hx rfl (hb hby d3_1) ?_
    refine XS.iushr X0.here hx rfl (hb hby d3_3) rfl ?_
    show Steps p.tables e below (s₁.setTop (mkF m 4 #[.val (.ref dd), .val (.int lv), .unset, .unset, .unset, .unset, .unset] [(.int (own_key lv))])) _
    refine XS.istoreN X0.here hx rfl (hb hby d3_4) rfl (l' := #[.val (.ref dd), .val (.int lv), .val (.int (own_key lv)), .unset, .unset, .unset, .unset]) rfl ?_
    refine XS.lconst X0.here hx rfl (hb hby d3_5) ?_
    refine XS.iloadN X0.here hx rfl (hb hby d3_6) rfl ?_
    refine XS.lshl X0.here hx rfl (hb hby d3_7) rfl ?_
    show Steps p.tables e below (s₁.setTop (mkF m 8 #[.val (.ref dd), .val (.int lv), .val (.int (own_key lv)), .unset, .unset, .unset, .unset] [(.long (own_bit lv))])) _
    refine XS.lstoreN X0.here hx rfl (hb hby d3_8) rfl (l' := #[.val (.ref dd), .val (.int lv), .val (.int (own_key lv)), .val (.long (own_bit lv)), .second, .unset, .unset]) rfl ?_
    refine XS.aloadN X0.here hx rfl (hb hby d3_9) rfl rfl ?_
    refine st1 _ ?_
    refine XS.iconst X1.here hx rfl (hb hby d3_13) ?_
    refine XS.aloadN X1.here hx rfl (hb hby d3_14) rfl rfl ?_
    refine st2 _ ?_
    refine XS.iloadN X2.here hx rfl (hb hby d3_18) rfl ?_
    refine st3 _ ?_
    exact k)
  rcases hpq6 with rfl
  · obtain ⟨T8, X8, e8, st8⟩ := getF X3 hx hZ hown (host := "") (Or.inl (own_w hw 23 rfl)) Via.refl hq5 H3_F (g := (mkF m 38 #[.val (.ref dd), .val (.int lv), .val (.int (own_key lv)), .val (.long (own_bit lv)), .second, .val (.int (-1 : Int32)), .val (.int (0 : Int32))] [(.ref dd), (.ref dd)])) rfl rfl (hb hby d3_38)
    obtain ⟨cq9, q9, q9'⟩ := H0_E.cell
    obtain ⟨_, _, ⟨T9, L9, k9, n9⟩, -, X9, ⟨Lc9, hQ9, l9, y9, z9⟩, st9⟩ := X8.privateBack hx (y := (⟨"org/tallyrole/core/Dependencies", "reserve", "(I)V"⟩ : MethodName)) hown (mvT hZ (own_w hw 35 rfl)) (mvT hZ (own_w hw 36 rfl)) (own_sel_priv (z := (⟨"org/tallyrole/core/Dependencies", "add", "(I)V"⟩ : MethodName)) (mvT hZ (own_w hw 21 rfl)) rfl (mvP hZ (own_w hw 37 rfl)) (mvT hZ (own_w hw 36 rfl)) (by decide)) (Cond.privateMethod_at (mvP hZ (own_w hw 37 rfl) (args := #[]))) (mvT hZ (own_w hw 38 rfl)) (by decide) (backOf (W := 0) (rm_rv0_1_0 l Z a0 hw [] dd ka wa kk kw (0 : Int32) h0 n0 Z0 H0_E H1_F H2_F H3_F H4_F H5_A H6_A hdd hn1 hn2) hZ (own_w hw 38 rfl) (own_w hw 3 rfl) (by decide) (by decide)) (g := (mkF m 43 #[.val (.ref dd), .val (.int lv), .val (.int (own_key lv)), .val (.long (own_bit lv)), .second, .val (.int (-1 : Int32)), .val (.int (0 : Int32))] [(.int (1 : Int32)), (.ref dd)])) rfl (by rw [hml]; rfl) (Steps.refl _) (a := dd) (by rw [e8]; exact q9) q9' (argsL := [(.int (1 : Int32))]) (rest := []) (lenOf pd_7 rfl) rfl (by show 2 * 0 + _ ≤ _; exact Nat.le_of_eq rfl) (hb hby d3_43) (fun _ _ => ⟨rfl, e8, (by decide : 0 + 2 ≤ _), (by decide : 0 + 2 ≤ _)⟩)
    dsimp only [Pt.U, Pt.locs, Pt.cells, Pt.slots] at X9 l9 y9 z9 st9 hQ9
    subst l9 y9 z9
    obtain ⟨x10, x11, x12, x13, rfl, N9q, hq14, hpq15, hpq16, hpq17, hpq18, hpq19, hpq20, hpq21, E22, F23, F24, F25, F26, A27, A28, E29, E30⟩ := hQ9
    have N9 := Fr.app N3 N9q
    have lt31 : dd < h0.size := H0_E.lt
    have lt32 : ka < h0.size := H5_A.lt
    have lt33 : wa < h0.size := H6_A.lt
    have A34 := H5_A.keep hq14 (ninS (Ne.symm hn1) nin0)
    have A35 := H6_A.keep hq14 (ninS (Ne.symm hn2) nin0)
    have K9 : Keep h0 T9.heap [dd] := K0.trans hq14 (allS (Or.inl (List.mem_of_getElem? (i := 0) rfl)) all0)
    have Zs36 : n0 ≤ T9.heap.size := (Nat.le_trans Z0 hq14.1)
    have ne37 : dd ≠ x10 := Nat.ne_of_lt (Nat.lt_of_lt_of_le lt31 hpq16)
    have ne38 : ka ≠ x10 := Nat.ne_of_lt (Nat.lt_of_lt_of_le lt32 hpq16)
    have ne39 : wa ≠ x10 := Nat.ne_of_lt (Nat.lt_of_lt_of_le lt33 hpq16)
    have sz40 : h0.size ≤ x10 := Nat.le_trans K0.1 hpq16
    have ne41 : dd ≠ x11 := Nat.ne_of_lt (Nat.lt_of_lt_of_le lt31 hpq18)
    have ne42 : ka ≠ x11 := Nat.ne_of_lt (Nat.lt_of_lt_of_le lt32 hpq18)
    have ne43 : wa ≠ x11 := Nat.ne_of_lt (Nat.lt_of_lt_of_le lt33 hpq18)
    have sz44 : h0.size ≤ x11 := Nat.le_trans K0.1 hpq18
    obtain ⟨T45, X45, e45, st45⟩ := getF X9 hx hZ hown (host := "") (Or.inl (own_w hw 12 rfl)) Via.refl rfl F23 (g := (mkF m 47 #[.val (.ref dd), .val (.int lv), .val (.int (own_key lv)), .val (.long (own_bit lv)), .second, .val (.int (-1 : Int32)), .val (.int (0 : Int32))] [(.ref dd)])) rfl rfl (hb hby d3_47)
    obtain ⟨T46, X46, e46, st46⟩ := getF X45 hx hZ hown (host := "") (Or.inl (own_w hw 12 rfl)) Via.refl e45 F23 (g := (mkF m 53 #[.val (.ref dd), .val (.int lv), .val (.int (own_key lv)), .val (.long (own_bit lv)), .second, .val (.int (-1 : Int32)), .val (.int (0 : Int32))] [(.ref dd), (.int (0 : Int32)), (.ref x10)])) rfl rfl (hb hby d3_53)
    obtain ⟨T47, X47, e47, st47⟩ := getF X46 hx hZ hown (host := "") (Or.inl (own_w hw 23 rfl)) Via.refl e46 F25 (g := (mkF m 61 #[.val (.ref dd), .val (.int lv), .val (.int (own_key lv)), .val (.long (own_bit lv)), .second, .val (.int (-1 : Int32)), .val (.int (0 : Int32))] [(.ref dd), (.int (1 : Int32)), (.ref x10), (.int (0 : Int32)), (.ref x10)])) rfl rfl (hb hby d3_61)
    obtain ⟨T48, h48, L48, X48, e48, N48, K48q, A48, st48⟩ := cpA X47 hx hZ hown (own_w hw 57 rfl) (own_w hw 52 rfl) (own_w hw 50 rfl) (own_w hw 51 rfl) e47 A27 A27 (Or.inl ⟨rfl, rfl⟩) (by decide) (by decide) (by decide) (by decide) (by decide) (us := []) rfl (Nat.le_of_ble_eq_true rfl) N9 hpq15 (g := (mkF m 67 #[.val (.ref dd), .val (.int lv), .val (.int (own_key lv)), .val (.long (own_bit lv)), .second, .val (.int (-1 : Int32)), .val (.int (0 : Int32))] [(.int (0 : Int32)), (.int (1 : Int32)), (.ref x10), (.int (0 : Int32)), (.ref x10)])) rfl (by rw [hml]; rfl) rfl (hb hby d3_67) (by decide) (W := 0) (by show 2 * 0 + _ ≤ _; exact Nat.le_of_eq rfl) (by decide)
    have V48 : Arv Z h48 x10 x12 .int (1 : Int32) [(.int (0 : Int32))] (.int (0 : Int32)) := A48
    have A49 := A34.keep K48q (ninS ne38 nin0)
    have A50 := A35.keep K48q (ninS ne39 nin0)
    have E51 := E22.keep K48q
    have F52 := F23.keep K48q (ninS hpq19 nin0)
    have F53 := F24.keep K48q (ninS hpq19 nin0)
    have F54 := F25.keep K48q (ninS hpq19 nin0)
    have F55 := F26.keep K48q (ninS hpq19 nin0)
    have A56 := A28.keep K48q (ninS (Ne.symm hpq21) nin0)
    have E57 := E29.keep K48q
    have E58 := E30.keep K48q
    have K48 : Keep h0 h48 [dd] := K9.trans K48q (allS (Or.inr sz40) all0)
    have Zs59 : n0 ≤ h48.size := (Nat.le_trans Zs36 K48q.1)
    obtain ⟨T60, X60, e60, st60⟩ := getF X48 hx hZ hown (host := "") (Or.inl (own_w hw 16 rfl)) Via.refl e48 F53 (g := (mkF m 71 #[.val (.ref dd), .val (.int lv), .val (.int (own_key lv)), .val (.long (own_bit lv)), .second, .val (.int (-1 : Int32)), .val (.int (0 : Int32))] [(.ref dd)])) rfl rfl (hb hby d3_71)
    obtain ⟨T61, X61, e61, st61⟩ := getF X60 hx hZ hown (host := "") (Or.inl (own_w hw 16 rfl)) Via.refl e60 F53 (g := (mkF m 77 #[.val (.ref dd), .val (.int lv), .val (.int (own_key lv)), .val (.long (own_bit lv)), .second, .val (.int (-1 : Int32)), .val (.int (0 : Int32))] [(.ref dd), (.int (0 : Int32)), (.ref x11)])) rfl rfl (hb hby d3_77)
    obtain ⟨T62, X62, e62, st62⟩ := getF X61 hx hZ hown (host := "") (Or.inl (own_w hw 23 rfl)) Via.refl e61 F54 (g := (mkF m 85 #[.val (.ref dd), .val (.int lv), .val (.int (own_key lv)), .val (.long (own_bit lv)), .second, .val (.int (-1 : Int32)), .val (.int (0 : Int32))] [(.ref dd), (.int (1 : Int32)), (.ref x11), (.int (0 : Int32)), (.ref x11)])) rfl rfl (hb hby d3_85)
    obtain ⟨T63, h63, L63, X63, e63, N63, K63q, A63, st63⟩ := cpA X62 hx hZ hown (own_w hw 57 rfl) (own_w hw 52 rfl) (own_w hw 50 rfl) (own_w hw 51 rfl) e62 A56 A56 (Or.inl ⟨rfl, rfl⟩) (by decide) (by decide) (by decide) (by decide) (by decide) (us := []) rfl (Nat.le_of_ble_eq_true rfl) N48 hpq17 (g := (mkF m 91 #[.val (.ref dd), .val (.int lv), .val (.int (own_key lv)), .val (.long (own_bit lv)), .second, .val (.int (-1 : Int32)), .val (.int (0 : Int32))] [(.int (0 : Int32)), (.int (1 : Int32)), (.ref x11), (.int (0 : Int32)), (.ref x11)])) rfl (by rw [hml]; rfl) rfl (hb hby d3_91) (by decide) (W := 0) (by show 2 * 0 + _ ≤ _; exact Nat.le_of_eq rfl) (by decide)
    have V63 : Arv Z h63 x11 x13 .long (1 : Int32) [(.long (0 : Int64))] (.long (0 : Int64)) := A63
    have A64 := A49.keep K63q (ninS ne42 nin0)
    have A65 := A50.keep K63q (ninS ne43 nin0)
    have E66 := E51.keep K63q
    have F67 := F52.keep K63q (ninS hpq20 nin0)
    have F68 := F53.keep K63q (ninS hpq20 nin0)
    have F69 := F54.keep K63q (ninS hpq20 nin0)
    have F70 := F55.keep K63q (ninS hpq20 nin0)
    have E71 := E57.keep K63q
    have E72 := E58.keep K63q
    have A73 := V48.keep K63q (ninS hpq21 nin0)
    have K63 : Keep h0 h63 [dd] := K48.trans K63q (allS (Or.inr sz44) all0)
    have Zs74 : n0 ≤ h63.size := (Nat.le_trans Zs59 K63q.1)
    obtain ⟨T75, X75, e75, st75⟩ := getF X63 hx hZ hown (host := "") (Or.inl (own_w hw 12 rfl)) Via.refl e63 F67 (g := (mkF m 95 #[.val (.ref dd), .val (.int lv), .val (.int (own_key lv)), .val (.long (own_bit lv)), .second, .val (.int (-1 : Int32)), .val (.int (0 : Int32))] [(.ref dd)])) rfl rfl (hb hby d3_95)
    have oc76 := A73
    obtain ⟨c76, Arc76, qc76, Sc76, Nc76, Hc76, Gc76⟩ := oc76
    have hin77 : ¬ ((0 : Int32) < 0 ∨ c76.slots.size ≤ ((0 : Int32)).toNatClampNeg) := (inb_of Sc76 ⟨by decide, by decide⟩)
    obtain ⟨T77, h77, X77, e77, W77, st77⟩ := stI X75 hx hZ e75 Arc76 (j := (0 : Int32)) hin77 (g := (mkF m 101 #[.val (.ref dd), .val (.int lv), .val (.int (own_key lv)), .val (.long (own_bit lv)), .second, .val (.int (-1 : Int32)), .val (.int (0 : Int32))] [(.int (own_key lv)), (.int (0 : Int32)), (.ref x10)])) rfl rfl (hb hby d3_101)
    have V77 : Arv Z h77 x10 x12 .int (1 : Int32) [(.int (own_key lv))] (.int (0 : Int32)) := Arv.set Arc76 qc76 Sc76 Nc76 Hc76 Gc76 rfl W77 0 rfl (Nat.le_of_ble_eq_true rfl)
    have A78 := A64.other W77 ne38
    have A79 := A65.other W77 ne39
    have E80 := E66.wr W77
    have F81 := F67.other W77 (Or.inl hpq19)
    have F82 := F68.other W77 (Or.inl hpq19)
    have F83 := F69.other W77 (Or.inl hpq19)
    have F84 := F70.other W77 (Or.inl hpq19)
    have E85 := E71.wr W77
    have E86 := E72.wr W77
    have A87 := V63.other W77 (Ne.symm hpq21)
    have N77 := Fr.snoc X77 N63 hpq15
    have K77 : Keep h0 h77 [dd] := K63.wr W77 (Or.inr sz40)
    have Zs88 : n0 ≤ h77.size := (Nat.le_trans Zs74 (Keep.of_wr W77).1)
    obtain ⟨T89, X89, e89, st89⟩ := getF X77 hx hZ hown (host := "") (Or.inl (own_w hw 16 rfl)) Via.refl e77 F82 (g := (mkF m 103 #[.val (.ref dd), .val (.int lv), .val (.int (own_key lv)), .val (.long (own_bit lv)), .second, .val (.int (-1 : Int32)), .val (.int (0 : Int32))] [(.ref dd)])) rfl rfl (hb hby d3_103)
    have oc90 := A87
    obtain ⟨c90, Arc90, qc90, Sc90, Nc90, Hc90, Gc90⟩ := oc90
    have hin91 : ¬ ((0 : Int32) < 0 ∨ c90.slots.size ≤ ((0 : Int32)).toNatClampNeg) := (inb_of Sc90 ⟨by decide, by decide⟩)
    obtain ⟨T91, h91, X91, e91, W91, st91⟩ := stJ X89 hx hZ e89 Arc90 (j := (0 : Int32)) hin91 (g := (mkF m 109 #[.val (.ref dd), .val (.int lv), .val (.int (own_key lv)), .val (.long (own_bit lv)), .second, .val (.int (-1 : Int32)), .val (.int (0 : Int32))] [(.long (own_bit lv)), (.int (0 : Int32)), (.ref x11)])) rfl rfl (hb hby d3_109)
    have V91 : Arv Z h91 x11 x13 .long (1 : Int32) [(.long (own_bit lv))] (.long (0 : Int64)) := Arv.set Arc90 qc90 Sc90 Nc90 Hc90 Gc90 rfl W91 0 rfl (Nat.le_of_ble_eq_true rfl)
    have A92 := A78.other W91 ne42
    have A93 := A79.other W91 ne43
    have E94 := E80.wr W91
    have F95 := F81.other W91 (Or.inl hpq20)
    have F96 := F82.other W91 (Or.inl hpq20)
    have F97 := F83.other W91 (Or.inl hpq20)
    have F98 := F84.other W91 (Or.inl hpq20)
    have E99 := E85.wr W91
    have E100 := E86.wr W91
    have A101 := V77.other W91 hpq21
    have N91 := Fr.snoc X91 N77 hpq17
    have K91 : Keep h0 h91 [dd] := K77.wr W91 (Or.inr sz44)
    have Zs102 : n0 ≤ h91.size := (Nat.le_trans Zs88 (Keep.of_wr W91).1)
    obtain ⟨T103, X103, e103, st103⟩ := getF X91 hx hZ hown (host := "") (Or.inl (own_w hw 23 rfl)) Via.refl e91 F97 (g := (mkF m 112 #[.val (.ref dd), .val (.int lv), .val (.int (own_key lv)), .val (.long (own_bit lv)), .second, .val (.int (-1 : Int32)), .val (.int (0 : Int32))] [(.ref dd), (.ref dd)])) rfl rfl (hb hby d3_112)
    obtain ⟨T104, h104, X104, e104, W104, st104⟩ := putF X103 hx hZ hown (host := "") (Or.inl (own_w hw 23 rfl)) Via.refl e103 F97 E94 (Or.inl (own_w hw 24 rfl)) (own_w hw 2 rfl) (ty := .int) (by decide) rfl rfl (g := (mkF m 117 #[.val (.ref dd), .val (.int lv), .val (.int (own_key lv)), .val (.long (own_bit lv)), .second, .val (.int (-1 : Int32)), .val (.int (0 : Int32))] [(.int (1 : Int32)), (.ref dd)])) rfl rfl (hb hby d3_117)
    have Fw104 : Fld Z h104 dd "org/tallyrole/core/Dependencies" "size" "I" (.int (1 : Int32)) := F97.same W104
    have A105 := A92.other W104 (Ne.symm hn1)
    have A106 := A93.other W104 (Ne.symm hn2)
    have E107 := E94.wr W104
    have F108 := F95.other W104 (Or.inr (slot_ne (Or.inl (own_w hw 13 rfl)) (Or.inl (own_w hw 24 rfl)) (by decide) (t := (.array .int)) (t' := .int) (by decide) (by decide)))
    have F109 := F96.other W104 (Or.inr (slot_ne (Or.inl (own_w hw 17 rfl)) (Or.inl (own_w hw 24 rfl)) (by decide) (t := (.array .long)) (t' := .int) (by decide) (by decide)))
    have F110 := F98.other W104 (Or.inr (slot_ne (Or.inl (own_w hw 40 rfl)) (Or.inl (own_w hw 24 rfl)) (by decide) (t := .boolean) (t' := .int) (by decide) (by decide)))
    have E111 := E99.wr W104
    have E112 := E100.wr W104
    have A113 := A101.other W104 (Ne.symm hpq19)
    have A114 := V91.other W104 (Ne.symm hpq20)
    have N104 := Fr.snoc X104 N91 hdd
    have K104 : Keep h0 h104 [dd] := K91.wr W104 (Or.inl (List.mem_of_getElem? (i := 0) rfl))
    have Zs115 : n0 ≤ h104.size := (Nat.le_trans Zs102 (Keep.of_wr W104).1)
    have pre116 := fun (t : State) (k : Steps p.tables e below (T104.setTop (mkF m 156 #[.val (.ref dd), .val (.int lv), .val (.int (own_key lv)), .val (.long (own_bit lv)), .second, .val (.int (-1 : Int32)), .val (.int (0 : Int32))] [])) t) => pre7 t (by
      refine XS.istore X3.here hx rfl (hb hby d3_22) rfl (l' := #[.val (.ref dd), .val (.int lv), .val (.int (own_key lv)), .val (.long (own_bit lv)), .second, .val (.int (-1 : Int32)), .unset]) rfl ?_
      refine XS.iload X3.here hx rfl (hb hby d3_24) rfl ?_
      refine XS.ifNo X3.here hx rfl (hb hby d3_26) rfl ((if0 _ _).trans (tlt (by decide : (-1 : Int32) < (0 : Int32))).2.1) ?_
      refine XS.iload X3.here hx rfl (hb hby d3_29) rfl ?_
      refine XS.ineg X3.here hx rfl (hb hby d3_31) rfl ?_
      refine XS.iconst X3.here hx rfl (hb hby d3_32) ?_
      refine XS.isub X3.here hx rfl (hb hby d3_33) rfl ?_
      refine XS.istore X3.here hx rfl (hb hby d3_34) rfl (l' := #[.val (.ref dd), .val (.int lv), .val (.int (own_key lv)), .val (.long (own_bit lv)), .second, .val (.int (-1 : Int32)), .val (.int (0 : Int32))]) rfl ?_
      refine XS.aloadN X3.here hx rfl (hb hby d3_36) rfl rfl ?_
      refine XS.aloadN X3.here hx rfl (hb hby d3_37) rfl rfl ?_
      refine st8 _ ?_
      refine XS.iconst X8.here hx rfl (hb hby d3_41) ?_
      refine XS.iadd X8.here hx rfl (hb hby d3_42) rfl ?_
      refine st9.trans ?_
      refine XS.aloadN X9.here hx rfl (hb hby d3_46) rfl rfl ?_
      refine st45 _ ?_
      refine XS.iload X45.here hx rfl (hb hby d3_50) rfl ?_
      refine XS.aloadN X45.here hx rfl (hb hby d3_52) rfl rfl ?_
      refine st46 _ ?_
      refine XS.iload X46.here hx rfl (hb hby d3_56) rfl ?_
      refine XS.iconst X46.here hx rfl (hb hby d3_58) ?_
      refine XS.iadd X46.here hx rfl (hb hby d3_59) rfl ?_
      refine XS.aloadN X46.here hx rfl (hb hby d3_60) rfl rfl ?_
      refine st47 _ ?_
      refine XS.iload X47.here hx rfl (hb hby d3_64) rfl ?_
      refine XS.isub X47.here hx rfl (hb hby d3_66) rfl ?_
      refine st48 _ ?_
      refine XS.aloadN X48.here hx rfl (hb hby d3_70) rfl rfl ?_
      refine st60 _ ?_
      refine XS.iload X60.here hx rfl (hb hby d3_74) rfl ?_
      refine XS.aloadN X60.here hx rfl (hb hby d3_76) rfl rfl ?_
      refine st61 _ ?_
      refine XS.iload X61.here hx rfl (hb hby d3_80) rfl ?_
      refine XS.iconst X61.here hx rfl (hb hby d3_82) ?_
      refine XS.iadd X61.here hx rfl (hb hby d3_83) rfl ?_
      refine XS.aloadN X61.here hx rfl (hb hby d3_84) rfl rfl ?_
      refine st62 _ ?_
      refine XS.iload X62.here hx rfl (hb hby d3_88) rfl ?_
      refine XS.isub X62.here hx rfl (hb hby d3_90) rfl ?_
      refine st63 _ ?_
      refine XS.aloadN X63.here hx rfl (hb hby d3_94) rfl rfl ?_
      refine st75 _ ?_
      refine XS.iload X75.here hx rfl (hb hby d3_98) rfl ?_
      refine XS.iloadN X75.here hx rfl (hb hby d3_100) rfl ?_
      refine st77 _ ?_
      refine XS.aloadN X77.here hx rfl (hb hby d3_102) rfl rfl ?_
      refine st89 _ ?_
      refine XS.iload X89.here hx rfl (hb hby d3_106) rfl ?_
      refine XS.lloadN X89.here hx rfl (hb hby d3_108) rfl ?_
      refine st91 _ ?_
      refine XS.aloadN X91.here hx rfl (hb hby d3_110) rfl rfl ?_
      refine XS.dup X91.here hx rfl (hb hby d3_111) rfl rfl ?_
      refine st103 _ ?_
      refine XS.iconst X103.here hx rfl (hb hby d3_115) ?_
      refine XS.iadd X103.here hx rfl (hb hby d3_116) rfl ?_
      refine st104 _ ?_
      refine XS.goto X104.here hx rfl (pc0 := 120) (pc' := 156) rfl (hb hby d3_120) (by decide) (by decide) ?_
      exact k)
    obtain ⟨fs, hr, hrun, hended, hW, hsame⟩ := X104.leave (v := none) (hlocks := BodyLoose.notSynchronized Bd) (fun _ => rfl)
    refine ⟨_, _, pre116 _ ?_, hrun, hended, _, _, rfl, ?_, ⟨_, rfl⟩, hW, hsame.mono (by decide) (by decide)⟩
    · exact X104.returnOut hx Bd.returns (hb hby d3_156) hr
    · show Q_aE Z dd ka wa kk kw SS lv h0 n0 _ T104.heap _
      rw [e104]
      exact ⟨x10, x11, x12, x13, (1 : Int32), (1 : Int32), [(.int (own_key lv))], [(.long (own_bit lv))], rfl, N104, K104, hpq15, sz40, hpq17, sz44, hpq19, hpq20, hpq21, ⟨_, _, rfl, rfl, rfl, rfl, (own_r_ins (A := []) (B := []) hrr hlv (List.forall_mem_nil _) (List.forall_mem_nil _))⟩, E107, F108, F109, Fw104, F110, A113, A114⟩

theorem ef_rE (m : MethodId) (x0 : Addr) (x1 : Int32) : entryFrame m #[(.ref x0), (.int x1)] 5 = mkF m 0 #[.val (.ref x0), .val (.int x1), .unset, .unset, .unset] [] := by first | (simp [entryFrame, mkF, argsToLocals, Value.category]; done) | rfl
def Q_rE (Z : State) (dd : Addr) (ka : Addr) (kk : ClassId) (lv : Int32) (h0 : Heap) (n0 : Nat) (v : Option Value) (h : Heap) (L : List Loc) : Prop := v = none ∧ Fr n0 L ∧ h = h0
set_option maxRecDepth 65536 in
set_option maxHeartbeats 40000000 in
theorem rm_rE (l : Launch) (Z : State) (a0 : Array Value) (hw : ∀ d ∈ tables_1, d.before a0 Z = true) (ws : List Jvm.Cond) (dd : Addr) (ka : Addr) (kk : ClassId) (lv : Int32) (h0 : Heap) (n0 : Nat) (Z0 : n0 ≤ h0.size) (H0_F : Fld Z h0 dd "org/tallyrole/core/Dependencies" "keys" "[I" (.ref ka)) (H1_F : Fld Z h0 dd "org/tallyrole/core/Dependencies" "size" "I" (.int (0 : Int32))) (H2_A : Arv Z h0 ka kk .int (0 : Int32) [] (.int (0 : Int32))) :
    MetFree l (⟨"org/tallyrole/core/Dependencies", "remove", "(I)V"⟩ : MethodName) (head1 (Jvm.Cond.code (⟨"org/tallyrole/core/Dependencies", "remove", "(I)V"⟩ : MethodName) prog_36_method_8_code 5 none :: ws) ({ frames := 2, cells := 0, slots := 0, locals := 34 } : Room)) (fun as_ U_ => as_ = #[(.ref dd), (.int lv)] ∧ Z.Warmed39 U_.vm ∧ U_.heap = h0) (fun _ _ _ _ _ => True) (fun _ U o U' => ∃ v L, o = .returned v ∧ Q_rE Z dd ka kk lv h0 n0 v U'.heap L ∧ FrameEnd U o U' L ({ frames := 2, cells := 0, slots := 0, locals := 34 } : Room).cells ({ frames := 2, cells := 0, slots := 0, locals := 34 } : Room).slots) := by
  refine MetFree.of_bodySF (plainFor_of_name pn_1) hisR ?_
  intro p e s m args below meth c s₁ Bd hml0 hP hK
  obtain ⟨rfl, hZ, hhp_⟩ := hP
  have hx := Bd.exec
  have hby := Bd.bytes
  have hml : c.maxLocals = 5 := hml0
  have hown : s.vm.findClass "org/tallyrole/core/Dependencies" = some m.cls := findClass_of_methodNamed Bd.named
  have hnm := (name_of_methodNamed Bd.named Bd.method).1
  have X0 : Stand p l e ({ frames := 2, cells := 0, slots := 0, locals := 34 } : Room) s m #[(.ref dd), (.int lv)] below meth c s₁ [] 0 0 := Stand.of_body Bd
  have e0 : s₁.heap = h0 := by rw [← hhp_, Bd.state]; rfl
  have N0 := Fr.nil n0
  have pre0 : ∀ t, Steps p.tables e below (s₁.setTop (mkF m 0 #[.val (.ref dd), .val (.int lv), .unset, .unset, .unset] [])) t → Steps p.tables e below (s₁.setTop (entryFrame m #[(.ref dd), (.int lv)] 5)) t := fun t k => castTop (ef_rE m dd lv) k
  obtain ⟨T1, X1, e1, st1⟩ := getF X0 hx hZ hown (host := "") (Or.inl (own_w hw 12 rfl)) Via.refl e0 H0_F (g := (mkF m 1 #[.val (.ref dd), .val (.int lv), .unset, .unset, .unset] [(.ref dd)])) rfl rfl (hb hby d15_1)
  obtain ⟨T2, X2, e2, st2⟩ := getF X1 hx hZ hown (host := "") (Or.inl (own_w hw 23 rfl)) Via.refl e1 H1_F (g := (mkF m 6 #[.val (.ref dd), .val (.int lv), .unset, .unset, .unset] [(.ref dd), (.int (0 : Int32)), (.ref ka)])) rfl rfl (hb hby d15_6)
  obtain ⟨_, _, ⟨T3, L3, k3, n3⟩, -, X3, ⟨Lc3, hQ3, l3, y3, z3⟩, st3⟩ := Jvm.LawKit.callS X2 hx (y := (⟨"java/util/Arrays", "binarySearch", "([IIII)I"⟩ : MethodName)) hown (mvT hZ (own_w hw 25 rfl)) (mvT hZ (own_w hw 26 rfl)) (mvT hZ (own_w hw 27 rfl)) (mvT hZ (own_w hw 28 rfl)) (by decide) (backOf (W := 0) (rm_bs0_0 l Z a0 hw [] ka kk (own_key lv) h0 n0 Z0 H2_A) hZ (own_w hw 28 rfl) (own_w hw 27 rfl) (by decide) (by decide)) (g := (mkF m 13 #[.val (.ref dd), .val (.int lv), .unset, .unset, .unset] [(.int (own_key lv)), (.int (0 : Int32)), (.int (0 : Int32)), (.ref ka)])) rfl (by rw [hml]; rfl) (argsL := [(.ref ka), (.int (0 : Int32)), (.int (0 : Int32)), (.int (own_key lv))]) (rest := []) (lenOf pd_1 rfl) rfl (by show 2 * 0 + _ ≤ _; exact Nat.le_of_eq rfl) (hb hby d15_13) (fun _ _ => ⟨rfl, e2, (by decide : 0 + 0 ≤ _), (by decide : 0 + 0 ≤ _)⟩)
  dsimp only [Pt.U, Pt.locs, Pt.cells, Pt.slots] at X3 l3 y3 z3 st3 hQ3
  subst l3 y3 z3
  obtain ⟨x4, rfl, N3q, hq5, hpq6⟩ := hQ3
  have N3 := Fr.app N0 N3q
  have pre7 := fun (t : State) (k : Steps p.tables e below (T3.setTop (mkF m 16 #[.val (.ref dd), .val (.int lv), .unset, .unset, .unset] [(.int x4)])) t) => pre0 t (by
    refine XS.aloadN X0.here hx rfl (hb hby d15_0) rfl rfl ?_
    refine st1 _ ?_
    refine XS.iconst X1.here hx rfl (hb hby d15_4) ?_
    refine XS.aloadN X1.here hx rfl (hb hby d15_5) rfl rfl ?_
    refine st2 _ ?_
    refine XS.iloadN X2.here hx rfl (hb hby d15_9) rfl ?_
    refine XS.bipush X2.here hx rfl (hb hby d15_10) ?_
    refine XS.iushr X2.here hx rfl (hb hby d15_12) rfl ?_
    show Steps p.tables e below (T2.setTop (mkF m 13 #[.val (.ref dd), .val (.int lv), .unset, .unset, .unset] [(.int (own_key lv)), (.int (0 : Int32)), (.int (0 : Int32)), (.ref ka)])) _
    refine st3 _ ?_
    exact k)
  rcases hpq6 with rfl
  · have pre8 := fun (t : State) (k : Steps p.tables e below (T3.setTop (mkF m 127 #[.val (.ref dd), .val (.int lv), .val (.int (-1 : Int32)), .val (.long (own_bit lv)), .second] [])) t) => pre7 t (by
      refine XS.istoreN X3.here hx rfl (hb hby d15_16) rfl (l' := #[.val (.ref dd), .val (.int lv), .val (.int (-1 : Int32)), .unset, .unset]) rfl ?_
      refine XS.lconst X3.here hx rfl (hb hby d15_17) ?_
      refine XS.iloadN X3.here hx rfl (hb hby d15_18) rfl ?_
      refine XS.lshl X3.here hx rfl (hb hby d15_19) rfl ?_
      show Steps p.tables e below (T3.setTop (mkF m 20 #[.val (.ref dd), .val (.int lv), .val (.int (-1 : Int32)), .unset, .unset] [(.long (own_bit lv))])) _
      refine XS.lstoreN X3.here hx rfl (hb hby d15_20) rfl (l' := #[.val (.ref dd), .val (.int lv), .val (.int (-1 : Int32)), .val (.long (own_bit lv)), .second]) rfl ?_
      refine XS.iloadN X3.here hx rfl (hb hby d15_21) rfl ?_
      refine XS.ifYes X3.here hx rfl (pc0 := 22) (pc' := 127) rfl (hb hby d15_22) rfl ((if0 _ _).trans (tlt (by decide : (-1 : Int32) < (0 : Int32))).1) (by decide) (by decide) ?_
      exact k)
    obtain ⟨fs, hr, hrun, hended, hW, hsame⟩ := X3.leave (v := none) (hlocks := BodyLoose.notSynchronized Bd) (fun _ => rfl)
    refine ⟨_, _, pre8 _ ?_, hrun, hended, _, _, rfl, ?_, ⟨_, rfl⟩, hW, hsame.mono (by decide) (by decide)⟩
    · exact X3.returnOut hx Bd.returns (hb hby d15_127) hr
    · show Q_rE Z dd ka kk lv h0 n0 _ T3.heap _
      rw [hq5]
      exact ⟨rfl, N3, rfl⟩

theorem ef_ad (m : MethodId) (x0 : Addr) (x1 : Int32) : entryFrame m #[(.ref x0), (.int x1)] 7 = mkF m 0 #[.val (.ref x0), .val (.int x1), .unset, .unset, .unset, .unset, .unset] [] := by first | (simp [entryFrame, mkF, argsToLocals, Value.category]; done) | rfl
def Q_ad (Z : State) (dd : Addr) (ka : Addr) (wa : Addr) (kk : ClassId) (kw : ClassId) (cap : Int32) (sz : Int32) (kv : List Value) (wv : List Value) (SS : Int32 → Prop) (lv : Int32) (h0 : Heap) (n0 : Nat) (v : Option Value) (h : Heap) (L : List Loc) : Prop := ∃ xk : Addr, ∃ xw : Addr, ∃ kxk : ClassId, ∃ kxw : ClassId, ∃ cap' : Int32, ∃ sz' : Int32, ∃ kv' : List Value, ∃ wv' : List Value, v = none ∧ Fr n0 L ∧ Keep h0 h [dd, ka, wa] ∧ n0 ≤ xk ∧ n0 ≤ xw ∧ (xk = ka ∨ h0.size ≤ xk) ∧ (xw = wa ∨ h0.size ≤ xw) ∧ dd ≠ xk ∧ dd ≠ xw ∧ xk ≠ xw ∧ (own_s_1_1 cap' sz' kv' wv' (own_ins SS lv) ∨ own_s_3_2 cap' sz' kv' wv' (own_ins SS lv) ∨ own_s_3_3 cap' sz' kv' wv' (own_ins SS lv)) ∧ (sz = (1 : Int32) → own_s_1_1 cap' sz' kv' wv' (own_ins SS lv) ∨ own_s_3_2 cap' sz' kv' wv' (own_ins SS lv)) ∧ Exa Z h dd "org/tallyrole/core/Dependencies" ∧ Fld Z h dd "org/tallyrole/core/Dependencies" "keys" "[I" (.ref xk) ∧ Fld Z h dd "org/tallyrole/core/Dependencies" "words" "[J" (.ref xw) ∧ Fld Z h dd "org/tallyrole/core/Dependencies" "size" "I" (.int sz') ∧ Fld Z h dd "org/tallyrole/core/Dependencies" "shared" "Z" (.int (0 : Int32)) ∧ Arv Z h xk kxk .int cap' kv' (.int (0 : Int32)) ∧ Arv Z h xw kxw .long cap' wv' (.long (0 : Int64))
set_option maxRecDepth 65536 in
set_option maxHeartbeats 40000000 in
theorem rm_ad (l : Launch) (Z : State) (a0 : Array Value) (hw : ∀ d ∈ tables_1, d.before a0 Z = true) (ws : List Jvm.Cond) (dd : Addr) (ka : Addr) (wa : Addr) (kk : ClassId) (kw : ClassId) (cap : Int32) (sz : Int32) (kv : List Value) (wv : List Value) (SS : Int32 → Prop) (lv : Int32) (h0 : Heap) (n0 : Nat) (Z0 : n0 ≤ h0.size) (H0_E : Exa Z h0 dd "org/tallyrole/core/Dependencies") (H1_F : Fld Z h0 dd "org/tallyrole/core/Dependencies" "keys" "[I" (.ref ka)) (H2_F : Fld Z h0 dd "org/tallyrole/core/Dependencies" "words" "[J" (.ref wa)) (H3_F : Fld Z h0 dd "org/tallyrole/core/Dependencies" "size" "I" (.int sz)) (H4_F : Fld Z h0 dd "org/tallyrole/core/Dependencies" "shared" "Z" (.int (0 : Int32))) (H5_A : Arv Z h0 ka kk .int cap kv (.int (0 : Int32))) (H6_A : Arv Z h0 wa kw .long cap wv (.long (0 : Int64))) (hrep : own_s_1_1 cap sz kv wv SS ∨ own_s_3_2 cap sz kv wv SS) (hdd : n0 ≤ dd) (hka : n0 ≤ ka) (hwa : n0 ≤ wa) (hn1 : dd ≠ ka) (hn2 : dd ≠ wa) (hn3 : ka ≠ wa) (hlv : ¬ (lv < (0 : Int32))) :
    MetFree l (⟨"org/tallyrole/core/Dependencies", "add", "(I)V"⟩ : MethodName) (head1 (Jvm.Cond.code (⟨"org/tallyrole/core/Dependencies", "add", "(I)V"⟩ : MethodName) prog_36_method_5_code 7 none :: ws) ({ frames := 3, cells := 2, slots := 6, locals := 47 } : Room)) (fun as_ U_ => as_ = #[(.ref dd), (.int lv)] ∧ Z.Warmed39 U_.vm ∧ U_.heap = h0) (fun _ _ _ _ _ => True) (fun _ U o U' => ∃ v L, o = .returned v ∧ Q_ad Z dd ka wa kk kw cap sz kv wv SS lv h0 n0 v U'.heap L ∧ FrameEnd U o U' L ({ frames := 3, cells := 2, slots := 6, locals := 47 } : Room).cells ({ frames := 3, cells := 2, slots := 6, locals := 47 } : Room).slots) := by
  refine MetFree.of_bodySF (plainFor_of_name pn_1) hisR ?_
  intro p e s m args below meth c s₁ Bd hml0 hP hK
  obtain ⟨rfl, hZ, hhp_⟩ := hP
  have hx := Bd.exec
  have hby := Bd.bytes
  have hml : c.maxLocals = 7 := hml0
  have hown : s.vm.findClass "org/tallyrole/core/Dependencies" = some m.cls := findClass_of_methodNamed Bd.named
  have hnm := (name_of_methodNamed Bd.named Bd.method).1
  have X0 : Stand p l e ({ frames := 3, cells := 2, slots := 6, locals := 47 } : Room) s m #[(.ref dd), (.int lv)] below meth c s₁ [] 0 0 := Stand.of_body Bd
  have e0 : s₁.heap = h0 := by rw [← hhp_, Bd.state]; rfl
  have N0 := Fr.nil n0
  have pre0 : ∀ t, Steps p.tables e below (s₁.setTop (mkF m 0 #[.val (.ref dd), .val (.int lv), .unset, .unset, .unset, .unset, .unset] [])) t → Steps p.tables e below (s₁.setTop (entryFrame m #[(.ref dd), (.int lv)] 7)) t := fun t k => castTop (ef_ad m dd lv) k
  have K0 : Keep h0 h0 [dd, ka, wa] := Keep.refl h0 [dd, ka, wa]
  have hrep_ := hrep
  rcases hrep_ with ⟨k0, w0, rfl, rfl, rfl, rfl, hrr⟩ | ⟨k0, k1, g2, w0, w1, q2, rfl, rfl, rfl, rfl, hrr⟩
  · obtain ⟨T1, X1, e1, st1⟩ := getF X0 hx hZ hown (host := "") (Or.inl (own_w hw 12 rfl)) Via.refl e0 H1_F (g := (mkF m 10 #[.val (.ref dd), .val (.int lv), .val (.int (own_key lv)), .val (.long (own_bit lv)), .second, .unset, .unset] [(.ref dd)])) rfl rfl (hb hby d3_10)
    obtain ⟨T2, X2, e2, st2⟩ := getF X1 hx hZ hown (host := "") (Or.inl (own_w hw 23 rfl)) Via.refl e1 H3_F (g := (mkF m 15 #[.val (.ref dd), .val (.int lv), .val (.int (own_key lv)), .val (.long (own_bit lv)), .second, .unset, .unset] [(.ref dd), (.int (0 : Int32)), (.ref ka)])) rfl rfl (hb hby d3_15)
    obtain ⟨_, _, ⟨T3, L3, k3, n3⟩, -, X3, ⟨Lc3, hQ3, l3, y3, z3⟩, st3⟩ := Jvm.LawKit.callS X2 hx (y := (⟨"java/util/Arrays", "binarySearch", "([IIII)I"⟩ : MethodName)) hown (mvT hZ (own_w hw 25 rfl)) (mvT hZ (own_w hw 26 rfl)) (mvT hZ (own_w hw 27 rfl)) (mvT hZ (own_w hw 28 rfl)) (by decide) (backOf (W := 0) (rm_bs1_1 l Z a0 hw [] ka kk k0 (own_key lv) h0 n0 Z0 H5_A) hZ (own_w hw 28 rfl) (own_w hw 27 rfl) (by decide) (by decide)) (g := (mkF m 19 #[.val (.ref dd), .val (.int lv), .val (.int (own_key lv)), .val (.long (own_bit lv)), .second, .unset, .unset] [(.int (own_key lv)), (.int (1 : Int32)), (.int (0 : Int32)), (.ref ka)])) rfl (by rw [hml]; rfl) (argsL := [(.ref ka), (.int (0 : Int32)), (.int (1 : Int32)), (.int (own_key lv))]) (rest := []) (lenOf pd_1 rfl) rfl (by show 2 * 0 + _ ≤ _; exact Nat.le_of_eq rfl) (hb hby d3_19) (fun _ _ => ⟨rfl, e2, (by decide : 0 + 0 ≤ _), (by decide : 0 + 0 ≤ _)⟩)
    dsimp only [Pt.U, Pt.locs, Pt.cells, Pt.slots] at X3 l3 y3 z3 st3 hQ3
    subst l3 y3 z3
    obtain ⟨x4, rfl, N3q, hq5, hpq6⟩ := hQ3
    have N3 := Fr.app N0 N3q
    have pre12 := fun (t : State) (k : Steps p.tables e below (T3.setTop (mkF m 22 #[.val (.ref dd), .val (.int lv), .val (.int (own_key lv)), .val (.long (own_bit lv)), .second, .unset, .unset] [(.int x4)])) t) => pre0 t (by
      refine XS.iloadN X0.here hx rfl (hb hby d3_0) rfl ?_
      refine XS.bipush X0.here hx rfl (hb hby d3_1) ?_
      refine XS.iushr X0.here hx rfl (hb hby d3_3) rfl ?_
      show Steps p.tables e below (s₁.setTop (mkF m 4 #[.val (.ref dd), .val (.int lv), .unset, .unset, .unset, .unset, .unset] [(.int (own_key lv))])) _
      refine XS.istoreN X0.here hx rfl (hb hby d3_4) rfl (l' := #[.val (.ref dd), .val (.int lv), .val (.int (own_key lv)), .unset, .unset, .unset, .unset]) rfl ?_
      refine XS.lconst X0.here hx rfl (hb hby d3_5) ?_
      refine XS.iloadN X0.here hx rfl (hb hby d3_6) rfl ?_
      refine XS.lshl X0.here hx rfl (hb hby d3_7) rfl ?_
      show Steps p.tables e below (s₁.setTop (mkF m 8 #[.val (.ref dd), .val (.int lv), .val (.int (own_key lv)), .unset, .unset, .unset, .unset] [(.long (own_bit lv))])) _
      refine XS.lstoreN X0.here hx rfl (hb hby d3_8) rfl (l' := #[.val (.ref dd), .val (.int lv), .val (.int (own_key lv)), .val (.long (own_bit lv)), .second, .unset, .unset]) rfl ?_
      refine XS.aloadN X0.here hx rfl (hb hby d3_9) rfl rfl ?_
      refine st1 _ ?_
      refine XS.iconst X1.here hx rfl (hb hby d3_13) ?_
      refine XS.aloadN X1.here hx rfl (hb hby d3_14) rfl rfl ?_
      refine st2 _ ?_
      refine XS.iloadN X2.here hx rfl (hb hby d3_18) rfl ?_
      refine st3 _ ?_
      exact k)
    rcases hpq6 with ⟨rfl, hb7⟩ | ⟨rfl, hb8, hb9⟩ | ⟨rfl, hb10, hb11⟩
    · obtain ⟨T13, X13, e13, st13⟩ := getF X3 hx hZ hown (host := "") (Or.inl (own_w hw 23 rfl)) Via.refl hq5 H3_F (g := (mkF m 38 #[.val (.ref dd), .val (.int lv), .val (.int (own_key lv)), .val (.long (own_bit lv)), .second, .val (.int (-2 : Int32)), .val (.int (1 : Int32))] [(.ref dd), (.ref dd)])) rfl rfl (hb hby d3_38)
      obtain ⟨cq14, q14, q14'⟩ := H0_E.cell
      obtain ⟨_, _, ⟨T14, L14, k14, n14⟩, -, X14, ⟨Lc14, hQ14, l14, y14, z14⟩, st14⟩ := X13.privateBack hx (y := (⟨"org/tallyrole/core/Dependencies", "reserve", "(I)V"⟩ : MethodName)) hown (mvT hZ (own_w hw 35 rfl)) (mvT hZ (own_w hw 36 rfl)) (own_sel_priv (z := (⟨"org/tallyrole/core/Dependencies", "add", "(I)V"⟩ : MethodName)) (mvT hZ (own_w hw 21 rfl)) rfl (mvP hZ (own_w hw 37 rfl)) (mvT hZ (own_w hw 36 rfl)) (by decide)) (Cond.privateMethod_at (mvP hZ (own_w hw 37 rfl) (args := #[]))) (mvT hZ (own_w hw 38 rfl)) (by decide) (backOf (W := 0) (rm_rv1_2_0 l Z a0 hw [] dd ka wa kk kw (1 : Int32) k0 w0 h0 n0 Z0 H0_E H1_F H2_F H3_F H4_F H5_A H6_A hdd hn1 hn2) hZ (own_w hw 38 rfl) (own_w hw 3 rfl) (by decide) (by decide)) (g := (mkF m 43 #[.val (.ref dd), .val (.int lv), .val (.int (own_key lv)), .val (.long (own_bit lv)), .second, .val (.int (-2 : Int32)), .val (.int (1 : Int32))] [(.int (2 : Int32)), (.ref dd)])) rfl (by rw [hml]; rfl) (Steps.refl _) (a := dd) (by rw [e13]; exact q14) q14' (argsL := [(.int (2 : Int32))]) (rest := []) (lenOf pd_7 rfl) rfl (by show 2 * 0 + _ ≤ _; exact Nat.le_of_eq rfl) (hb hby d3_43) (fun _ _ => ⟨rfl, e13, (by decide : 0 + 2 ≤ _), (by decide : 0 + 6 ≤ _)⟩)
      dsimp only [Pt.U, Pt.locs, Pt.cells, Pt.slots] at X14 l14 y14 z14 st14 hQ14
      subst l14 y14 z14
      obtain ⟨x15, x16, x17, x18, rfl, N14q, hq19, hpq20, hpq21, hpq22, hpq23, hpq24, hpq25, hpq26, E27, F28, F29, F30, F31, A32, A33, E34, E35⟩ := hQ14
      have N14 := Fr.app N3 N14q
      have lt36 : dd < h0.size := H0_E.lt
      have lt37 : ka < h0.size := H5_A.lt
      have lt38 : wa < h0.size := H6_A.lt
      have A39 := H5_A.keep hq19 (ninS (Ne.symm hn1) nin0)
      have A40 := H6_A.keep hq19 (ninS (Ne.symm hn2) nin0)
      have K14 : Keep h0 T14.heap [dd, ka, wa] := K0.trans hq19 (allS (Or.inl (List.mem_of_getElem? (i := 0) rfl)) all0)
      have Zs41 : n0 ≤ T14.heap.size := (Nat.le_trans Z0 hq19.1)
      have ne42 : dd ≠ x15 := Nat.ne_of_lt (Nat.lt_of_lt_of_le lt36 hpq21)
      have ne43 : ka ≠ x15 := Nat.ne_of_lt (Nat.lt_of_lt_of_le lt37 hpq21)
      have ne44 : wa ≠ x15 := Nat.ne_of_lt (Nat.lt_of_lt_of_le lt38 hpq21)
      have sz45 : h0.size ≤ x15 := Nat.le_trans K0.1 hpq21
      have ne46 : dd ≠ x16 := Nat.ne_of_lt (Nat.lt_of_lt_of_le lt36 hpq23)
      have ne47 : ka ≠ x16 := Nat.ne_of_lt (Nat.lt_of_lt_of_le lt37 hpq23)
      have ne48 : wa ≠ x16 := Nat.ne_of_lt (Nat.lt_of_lt_of_le lt38 hpq23)
      have sz49 : h0.size ≤ x16 := Nat.le_trans K0.1 hpq23
      obtain ⟨T50, X50, e50, st50⟩ := getF X14 hx hZ hown (host := "") (Or.inl (own_w hw 12 rfl)) Via.refl rfl F28 (g := (mkF m 47 #[.val (.ref dd), .val (.int lv), .val (.int (own_key lv)), .val (.long (own_bit lv)), .second, .val (.int (-2 : Int32)), .val (.int (1 : Int32))] [(.ref dd)])) rfl rfl (hb hby d3_47)
      obtain ⟨T51, X51, e51, st51⟩ := getF X50 hx hZ hown (host := "") (Or.inl (own_w hw 12 rfl)) Via.refl e50 F28 (g := (mkF m 53 #[.val (.ref dd), .val (.int lv), .val (.int (own_key lv)), .val (.long (own_bit lv)), .second, .val (.int (-2 : Int32)), .val (.int (1 : Int32))] [(.ref dd), (.int (1 : Int32)), (.ref x15)])) rfl rfl (hb hby d3_53)
      obtain ⟨T52, X52, e52, st52⟩ := getF X51 hx hZ hown (host := "") (Or.inl (own_w hw 23 rfl)) Via.refl e51 F30 (g := (mkF m 61 #[.val (.ref dd), .val (.int lv), .val (.int (own_key lv)), .val (.long (own_bit lv)), .second, .val (.int (-2 : Int32)), .val (.int (1 : Int32))] [(.ref dd), (.int (2 : Int32)), (.ref x15), (.int (1 : Int32)), (.ref x15)])) rfl rfl (hb hby d3_61)
      obtain ⟨T53, h53, L53, X53, e53, N53, K53q, A53, st53⟩ := cpA X52 hx hZ hown (own_w hw 57 rfl) (own_w hw 52 rfl) (own_w hw 50 rfl) (own_w hw 51 rfl) e52 A32 A32 (Or.inl ⟨rfl, rfl⟩) (by decide) (by decide) (by decide) (by decide) (by decide) (us := []) rfl (Nat.le_of_ble_eq_true rfl) N14 hpq20 (g := (mkF m 67 #[.val (.ref dd), .val (.int lv), .val (.int (own_key lv)), .val (.long (own_bit lv)), .second, .val (.int (-2 : Int32)), .val (.int (1 : Int32))] [(.int (0 : Int32)), (.int (2 : Int32)), (.ref x15), (.int (1 : Int32)), (.ref x15)])) rfl (by rw [hml]; rfl) rfl (hb hby d3_67) (by decide) (W := 0) (by show 2 * 0 + _ ≤ _; exact Nat.le_of_eq rfl) (by decide)
      have V53 : Arv Z h53 x15 x17 .int (3 : Int32) [(.int k0), (.int (0 : Int32)), (.int (0 : Int32))] (.int (0 : Int32)) := A53
      have A54 := A39.keep K53q (ninS ne43 nin0)
      have A55 := A40.keep K53q (ninS ne44 nin0)
      have E56 := E27.keep K53q
      have F57 := F28.keep K53q (ninS hpq24 nin0)
      have F58 := F29.keep K53q (ninS hpq24 nin0)
      have F59 := F30.keep K53q (ninS hpq24 nin0)
      have F60 := F31.keep K53q (ninS hpq24 nin0)
      have A61 := A33.keep K53q (ninS (Ne.symm hpq26) nin0)
      have E62 := E34.keep K53q
      have E63 := E35.keep K53q
      have K53 : Keep h0 h53 [dd, ka, wa] := K14.trans K53q (allS (Or.inr sz45) all0)
      have Zs64 : n0 ≤ h53.size := (Nat.le_trans Zs41 K53q.1)
      obtain ⟨T65, X65, e65, st65⟩ := getF X53 hx hZ hown (host := "") (Or.inl (own_w hw 16 rfl)) Via.refl e53 F58 (g := (mkF m 71 #[.val (.ref dd), .val (.int lv), .val (.int (own_key lv)), .val (.long (own_bit lv)), .second, .val (.int (-2 : Int32)), .val (.int (1 : Int32))] [(.ref dd)])) rfl rfl (hb hby d3_71)
      obtain ⟨T66, X66, e66, st66⟩ := getF X65 hx hZ hown (host := "") (Or.inl (own_w hw 16 rfl)) Via.refl e65 F58 (g := (mkF m 77 #[.val (.ref dd), .val (.int lv), .val (.int (own_key lv)), .val (.long (own_bit lv)), .second, .val (.int (-2 : Int32)), .val (.int (1 : Int32))] [(.ref dd), (.int (1 : Int32)), (.ref x16)])) rfl rfl (hb hby d3_77)
      obtain ⟨T67, X67, e67, st67⟩ := getF X66 hx hZ hown (host := "") (Or.inl (own_w hw 23 rfl)) Via.refl e66 F59 (g := (mkF m 85 #[.val (.ref dd), .val (.int lv), .val (.int (own_key lv)), .val (.long (own_bit lv)), .second, .val (.int (-2 : Int32)), .val (.int (1 : Int32))] [(.ref dd), (.int (2 : Int32)), (.ref x16), (.int (1 : Int32)), (.ref x16)])) rfl rfl (hb hby d3_85)
      obtain ⟨T68, h68, L68, X68, e68, N68, K68q, A68, st68⟩ := cpA X67 hx hZ hown (own_w hw 57 rfl) (own_w hw 52 rfl) (own_w hw 50 rfl) (own_w hw 51 rfl) e67 A61 A61 (Or.inl ⟨rfl, rfl⟩) (by decide) (by decide) (by decide) (by decide) (by decide) (us := []) rfl (Nat.le_of_ble_eq_true rfl) N53 hpq22 (g := (mkF m 91 #[.val (.ref dd), .val (.int lv), .val (.int (own_key lv)), .val (.long (own_bit lv)), .second, .val (.int (-2 : Int32)), .val (.int (1 : Int32))] [(.int (0 : Int32)), (.int (2 : Int32)), (.ref x16), (.int (1 : Int32)), (.ref x16)])) rfl (by rw [hml]; rfl) rfl (hb hby d3_91) (by decide) (W := 0) (by show 2 * 0 + _ ≤ _; exact Nat.le_of_eq rfl) (by decide)
      have V68 : Arv Z h68 x16 x18 .long (3 : Int32) [(.long w0), (.long (0 : Int64)), (.long (0 : Int64))] (.long (0 : Int64)) := A68
      have A69 := A54.keep K68q (ninS ne47 nin0)
      have A70 := A55.keep K68q (ninS ne48 nin0)
      have E71 := E56.keep K68q
      have F72 := F57.keep K68q (ninS hpq25 nin0)
      have F73 := F58.keep K68q (ninS hpq25 nin0)
      have F74 := F59.keep K68q (ninS hpq25 nin0)
      have F75 := F60.keep K68q (ninS hpq25 nin0)
      have E76 := E62.keep K68q
      have E77 := E63.keep K68q
      have A78 := V53.keep K68q (ninS hpq26 nin0)
      have K68 : Keep h0 h68 [dd, ka, wa] := K53.trans K68q (allS (Or.inr sz49) all0)
      have Zs79 : n0 ≤ h68.size := (Nat.le_trans Zs64 K68q.1)
      obtain ⟨T80, X80, e80, st80⟩ := getF X68 hx hZ hown (host := "") (Or.inl (own_w hw 12 rfl)) Via.refl e68 F72 (g := (mkF m 95 #[.val (.ref dd), .val (.int lv), .val (.int (own_key lv)), .val (.long (own_bit lv)), .second, .val (.int (-2 : Int32)), .val (.int (1 : Int32))] [(.ref dd)])) rfl rfl (hb hby d3_95)
      have oc81 := A78
      obtain ⟨c81, Arc81, qc81, Sc81, Nc81, Hc81, Gc81⟩ := oc81
      have hin82 : ¬ ((1 : Int32) < 0 ∨ c81.slots.size ≤ ((1 : Int32)).toNatClampNeg) := (inb_of Sc81 ⟨by decide, by decide⟩)
      obtain ⟨T82, h82, X82, e82, W82, st82⟩ := stI X80 hx hZ e80 Arc81 (j := (1 : Int32)) hin82 (g := (mkF m 101 #[.val (.ref dd), .val (.int lv), .val (.int (own_key lv)), .val (.long (own_bit lv)), .second, .val (.int (-2 : Int32)), .val (.int (1 : Int32))] [(.int (own_key lv)), (.int (1 : Int32)), (.ref x15)])) rfl rfl (hb hby d3_101)
      have V82 : Arv Z h82 x15 x17 .int (3 : Int32) [(.int k0), (.int (own_key lv)), (.int (0 : Int32))] (.int (0 : Int32)) := Arv.set Arc81 qc81 Sc81 Nc81 Hc81 Gc81 rfl W82 1 rfl (Nat.le_of_ble_eq_true rfl)
      have A83 := A69.other W82 ne43
      have A84 := A70.other W82 ne44
      have E85 := E71.wr W82
      have F86 := F72.other W82 (Or.inl hpq24)
      have F87 := F73.other W82 (Or.inl hpq24)
      have F88 := F74.other W82 (Or.inl hpq24)
      have F89 := F75.other W82 (Or.inl hpq24)
      have E90 := E76.wr W82
      have E91 := E77.wr W82
      have A92 := V68.other W82 (Ne.symm hpq26)
      have N82 := Fr.snoc X82 N68 hpq20
      have K82 : Keep h0 h82 [dd, ka, wa] := K68.wr W82 (Or.inr sz45)
      have Zs93 : n0 ≤ h82.size := (Nat.le_trans Zs79 (Keep.of_wr W82).1)
      obtain ⟨T94, X94, e94, st94⟩ := getF X82 hx hZ hown (host := "") (Or.inl (own_w hw 16 rfl)) Via.refl e82 F87 (g := (mkF m 103 #[.val (.ref dd), .val (.int lv), .val (.int (own_key lv)), .val (.long (own_bit lv)), .second, .val (.int (-2 : Int32)), .val (.int (1 : Int32))] [(.ref dd)])) rfl rfl (hb hby d3_103)
      have oc95 := A92
      obtain ⟨c95, Arc95, qc95, Sc95, Nc95, Hc95, Gc95⟩ := oc95
      have hin96 : ¬ ((1 : Int32) < 0 ∨ c95.slots.size ≤ ((1 : Int32)).toNatClampNeg) := (inb_of Sc95 ⟨by decide, by decide⟩)
      obtain ⟨T96, h96, X96, e96, W96, st96⟩ := stJ X94 hx hZ e94 Arc95 (j := (1 : Int32)) hin96 (g := (mkF m 109 #[.val (.ref dd), .val (.int lv), .val (.int (own_key lv)), .val (.long (own_bit lv)), .second, .val (.int (-2 : Int32)), .val (.int (1 : Int32))] [(.long (own_bit lv)), (.int (1 : Int32)), (.ref x16)])) rfl rfl (hb hby d3_109)
      have V96 : Arv Z h96 x16 x18 .long (3 : Int32) [(.long w0), (.long (own_bit lv)), (.long (0 : Int64))] (.long (0 : Int64)) := Arv.set Arc95 qc95 Sc95 Nc95 Hc95 Gc95 rfl W96 1 rfl (Nat.le_of_ble_eq_true rfl)
      have A97 := A83.other W96 ne47
      have A98 := A84.other W96 ne48
      have E99 := E85.wr W96
      have F100 := F86.other W96 (Or.inl hpq25)
      have F101 := F87.other W96 (Or.inl hpq25)
      have F102 := F88.other W96 (Or.inl hpq25)
      have F103 := F89.other W96 (Or.inl hpq25)
      have E104 := E90.wr W96
      have E105 := E91.wr W96
      have A106 := V82.other W96 hpq26
      have N96 := Fr.snoc X96 N82 hpq22
      have K96 : Keep h0 h96 [dd, ka, wa] := K82.wr W96 (Or.inr sz49)
      have Zs107 : n0 ≤ h96.size := (Nat.le_trans Zs93 (Keep.of_wr W96).1)
      obtain ⟨T108, X108, e108, st108⟩ := getF X96 hx hZ hown (host := "") (Or.inl (own_w hw 23 rfl)) Via.refl e96 F102 (g := (mkF m 112 #[.val (.ref dd), .val (.int lv), .val (.int (own_key lv)), .val (.long (own_bit lv)), .second, .val (.int (-2 : Int32)), .val (.int (1 : Int32))] [(.ref dd), (.ref dd)])) rfl rfl (hb hby d3_112)
      obtain ⟨T109, h109, X109, e109, W109, st109⟩ := putF X108 hx hZ hown (host := "") (Or.inl (own_w hw 23 rfl)) Via.refl e108 F102 E99 (Or.inl (own_w hw 24 rfl)) (own_w hw 2 rfl) (ty := .int) (by decide) rfl rfl (g := (mkF m 117 #[.val (.ref dd), .val (.int lv), .val (.int (own_key lv)), .val (.long (own_bit lv)), .second, .val (.int (-2 : Int32)), .val (.int (1 : Int32))] [(.int (2 : Int32)), (.ref dd)])) rfl rfl (hb hby d3_117)
      have Fw109 : Fld Z h109 dd "org/tallyrole/core/Dependencies" "size" "I" (.int (2 : Int32)) := F102.same W109
      have A110 := A97.other W109 (Ne.symm hn1)
      have A111 := A98.other W109 (Ne.symm hn2)
      have E112 := E99.wr W109
      have F113 := F100.other W109 (Or.inr (slot_ne (Or.inl (own_w hw 13 rfl)) (Or.inl (own_w hw 24 rfl)) (by decide) (t := (.array .int)) (t' := .int) (by decide) (by decide)))
      have F114 := F101.other W109 (Or.inr (slot_ne (Or.inl (own_w hw 17 rfl)) (Or.inl (own_w hw 24 rfl)) (by decide) (t := (.array .long)) (t' := .int) (by decide) (by decide)))
      have F115 := F103.other W109 (Or.inr (slot_ne (Or.inl (own_w hw 40 rfl)) (Or.inl (own_w hw 24 rfl)) (by decide) (t := .boolean) (t' := .int) (by decide) (by decide)))
      have E116 := E104.wr W109
      have E117 := E105.wr W109
      have A118 := A106.other W109 (Ne.symm hpq24)
      have A119 := V96.other W109 (Ne.symm hpq25)
      have N109 := Fr.snoc X109 N96 hdd
      have K109 : Keep h0 h109 [dd, ka, wa] := K96.wr W109 (Or.inl (List.mem_of_getElem? (i := 0) rfl))
      have Zs120 : n0 ≤ h109.size := (Nat.le_trans Zs107 (Keep.of_wr W109).1)
      have pre121 := fun (t : State) (k : Steps p.tables e below (T109.setTop (mkF m 156 #[.val (.ref dd), .val (.int lv), .val (.int (own_key lv)), .val (.long (own_bit lv)), .second, .val (.int (-2 : Int32)), .val (.int (1 : Int32))] [])) t) => pre12 t (by
        refine XS.istore X3.here hx rfl (hb hby d3_22) rfl (l' := #[.val (.ref dd), .val (.int lv), .val (.int (own_key lv)), .val (.long (own_bit lv)), .second, .val (.int (-2 : Int32)), .unset]) rfl ?_
        refine XS.iload X3.here hx rfl (hb hby d3_24) rfl ?_
        refine XS.ifNo X3.here hx rfl (hb hby d3_26) rfl ((if0 _ _).trans (tlt (by decide : (-2 : Int32) < (0 : Int32))).2.1) ?_
        refine XS.iload X3.here hx rfl (hb hby d3_29) rfl ?_
        refine XS.ineg X3.here hx rfl (hb hby d3_31) rfl ?_
        refine XS.iconst X3.here hx rfl (hb hby d3_32) ?_
        refine XS.isub X3.here hx rfl (hb hby d3_33) rfl ?_
        refine XS.istore X3.here hx rfl (hb hby d3_34) rfl (l' := #[.val (.ref dd), .val (.int lv), .val (.int (own_key lv)), .val (.long (own_bit lv)), .second, .val (.int (-2 : Int32)), .val (.int (1 : Int32))]) rfl ?_
        refine XS.aloadN X3.here hx rfl (hb hby d3_36) rfl rfl ?_
        refine XS.aloadN X3.here hx rfl (hb hby d3_37) rfl rfl ?_
        refine st13 _ ?_
        refine XS.iconst X13.here hx rfl (hb hby d3_41) ?_
        refine XS.iadd X13.here hx rfl (hb hby d3_42) rfl ?_
        refine st14.trans ?_
        refine XS.aloadN X14.here hx rfl (hb hby d3_46) rfl rfl ?_
        refine st50 _ ?_
        refine XS.iload X50.here hx rfl (hb hby d3_50) rfl ?_
        refine XS.aloadN X50.here hx rfl (hb hby d3_52) rfl rfl ?_
        refine st51 _ ?_
        refine XS.iload X51.here hx rfl (hb hby d3_56) rfl ?_
        refine XS.iconst X51.here hx rfl (hb hby d3_58) ?_
        refine XS.iadd X51.here hx rfl (hb hby d3_59) rfl ?_
        refine XS.aloadN X51.here hx rfl (hb hby d3_60) rfl rfl ?_
        refine st52 _ ?_
        refine XS.iload X52.here hx rfl (hb hby d3_64) rfl ?_
        refine XS.isub X52.here hx rfl (hb hby d3_66) rfl ?_
        refine st53 _ ?_
        refine XS.aloadN X53.here hx rfl (hb hby d3_70) rfl rfl ?_
        refine st65 _ ?_
        refine XS.iload X65.here hx rfl (hb hby d3_74) rfl ?_
        refine XS.aloadN X65.here hx rfl (hb hby d3_76) rfl rfl ?_
        refine st66 _ ?_
        refine XS.iload X66.here hx rfl (hb hby d3_80) rfl ?_
        refine XS.iconst X66.here hx rfl (hb hby d3_82) ?_
        refine XS.iadd X66.here hx rfl (hb hby d3_83) rfl ?_
        refine XS.aloadN X66.here hx rfl (hb hby d3_84) rfl rfl ?_
        refine st67 _ ?_
        refine XS.iload X67.here hx rfl (hb hby d3_88) rfl ?_
        refine XS.isub X67.here hx rfl (hb hby d3_90) rfl ?_
        refine st68 _ ?_
        refine XS.aloadN X68.here hx rfl (hb hby d3_94) rfl rfl ?_
        refine st80 _ ?_
        refine XS.iload X80.here hx rfl (hb hby d3_98) rfl ?_
        refine XS.iloadN X80.here hx rfl (hb hby d3_100) rfl ?_
        refine st82 _ ?_
        refine XS.aloadN X82.here hx rfl (hb hby d3_102) rfl rfl ?_
        refine st94 _ ?_
        refine XS.iload X94.here hx rfl (hb hby d3_106) rfl ?_
        refine XS.lloadN X94.here hx rfl (hb hby d3_108) rfl ?_
        refine st96 _ ?_
        refine XS.aloadN X96.here hx rfl (hb hby d3_110) rfl rfl ?_
        refine XS.dup X96.here hx rfl (hb hby d3_111) rfl rfl ?_
        refine st108 _ ?_
        refine XS.iconst X108.here hx rfl (hb hby d3_115) ?_
        refine XS.iadd X108.here hx rfl (hb hby d3_116) rfl ?_
        refine st109 _ ?_
        refine XS.goto X109.here hx rfl (pc0 := 120) (pc' := 156) rfl (hb hby d3_120) (by decide) (by decide) ?_
        exact k)
      obtain ⟨fs, hr, hrun, hended, hW, hsame⟩ := X109.leave (v := none) (hlocks := BodyLoose.notSynchronized Bd) (fun _ => rfl)
      refine ⟨_, _, pre121 _ ?_, hrun, hended, _, _, rfl, ?_, ⟨_, rfl⟩, hW, hsame.mono (by decide) (by decide)⟩
      · exact X109.returnOut hx Bd.returns (hb hby d3_156) hr
      · show Q_ad Z dd ka wa kk kw (1 : Int32) (1 : Int32) [(.int k0)] [(.long w0)] SS lv h0 n0 _ T109.heap _
        rw [e109]
        exact ⟨x15, x16, x17, x18, (3 : Int32), (2 : Int32), [(.int k0), (.int (own_key lv)), (.int (0 : Int32))], [(.long w0), (.long (own_bit lv)), (.long (0 : Int64))], rfl, N109, K109, hpq20, hpq22, (Or.inr sz45), (Or.inr sz49), hpq24, hpq25, hpq26, (Or.inr (Or.inl ⟨_, _, _, _, _, _, rfl, rfl, rfl, rfl, (own_r_ins (A := [(k0, w0)]) (B := []) hrr hlv (List.forall_mem_cons.mpr ⟨hb7, (List.forall_mem_nil _)⟩) (List.forall_mem_nil _))⟩)), (fun _ => (Or.inr ⟨_, _, _, _, _, _, rfl, rfl, rfl, rfl, (own_r_ins (A := [(k0, w0)]) (B := []) hrr hlv (List.forall_mem_cons.mpr ⟨hb7, (List.forall_mem_nil _)⟩) (List.forall_mem_nil _))⟩)), E112, F113, F114, Fw109, F115, A118, A119⟩
    · obtain ⟨T122, X122, e122, st122⟩ := getF X3 hx hZ hown (host := "") (Or.inl (own_w hw 23 rfl)) Via.refl hq5 H3_F (g := (mkF m 38 #[.val (.ref dd), .val (.int lv), .val (.int (own_key lv)), .val (.long (own_bit lv)), .second, .val (.int (-1 : Int32)), .val (.int (0 : Int32))] [(.ref dd), (.ref dd)])) rfl rfl (hb hby d3_38)
      obtain ⟨cq123, q123, q123'⟩ := H0_E.cell
      obtain ⟨_, _, ⟨T123, L123, k123, n123⟩, -, X123, ⟨Lc123, hQ123, l123, y123, z123⟩, st123⟩ := X122.privateBack hx (y := (⟨"org/tallyrole/core/Dependencies", "reserve", "(I)V"⟩ : MethodName)) hown (mvT hZ (own_w hw 35 rfl)) (mvT hZ (own_w hw 36 rfl)) (own_sel_priv (z := (⟨"org/tallyrole/core/Dependencies", "add", "(I)V"⟩ : MethodName)) (mvT hZ (own_w hw 21 rfl)) rfl (mvP hZ (own_w hw 37 rfl)) (mvT hZ (own_w hw 36 rfl)) (by decide)) (Cond.privateMethod_at (mvP hZ (own_w hw 37 rfl) (args := #[]))) (mvT hZ (own_w hw 38 rfl)) (by decide) (backOf (W := 0) (rm_rv1_2_0 l Z a0 hw [] dd ka wa kk kw (1 : Int32) k0 w0 h0 n0 Z0 H0_E H1_F H2_F H3_F H4_F H5_A H6_A hdd hn1 hn2) hZ (own_w hw 38 rfl) (own_w hw 3 rfl) (by decide) (by decide)) (g := (mkF m 43 #[.val (.ref dd), .val (.int lv), .val (.int (own_key lv)), .val (.long (own_bit lv)), .second, .val (.int (-1 : Int32)), .val (.int (0 : Int32))] [(.int (2 : Int32)), (.ref dd)])) rfl (by rw [hml]; rfl) (Steps.refl _) (a := dd) (by rw [e122]; exact q123) q123' (argsL := [(.int (2 : Int32))]) (rest := []) (lenOf pd_7 rfl) rfl (by show 2 * 0 + _ ≤ _; exact Nat.le_of_eq rfl) (hb hby d3_43) (fun _ _ => ⟨rfl, e122, (by decide : 0 + 2 ≤ _), (by decide : 0 + 6 ≤ _)⟩)
      dsimp only [Pt.U, Pt.locs, Pt.cells, Pt.slots] at X123 l123 y123 z123 st123 hQ123
      subst l123 y123 z123
      obtain ⟨x124, x125, x126, x127, rfl, N123q, hq128, hpq129, hpq130, hpq131, hpq132, hpq133, hpq134, hpq135, E136, F137, F138, F139, F140, A141, A142, E143, E144⟩ := hQ123
      have N123 := Fr.app N3 N123q
      have lt145 : dd < h0.size := H0_E.lt
      have lt146 : ka < h0.size := H5_A.lt
      have lt147 : wa < h0.size := H6_A.lt
      have A148 := H5_A.keep hq128 (ninS (Ne.symm hn1) nin0)
      have A149 := H6_A.keep hq128 (ninS (Ne.symm hn2) nin0)
      have K123 : Keep h0 T123.heap [dd, ka, wa] := K0.trans hq128 (allS (Or.inl (List.mem_of_getElem? (i := 0) rfl)) all0)
      have Zs150 : n0 ≤ T123.heap.size := (Nat.le_trans Z0 hq128.1)
      have ne151 : dd ≠ x124 := Nat.ne_of_lt (Nat.lt_of_lt_of_le lt145 hpq130)
      have ne152 : ka ≠ x124 := Nat.ne_of_lt (Nat.lt_of_lt_of_le lt146 hpq130)
      have ne153 : wa ≠ x124 := Nat.ne_of_lt (Nat.lt_of_lt_of_le lt147 hpq130)
      have sz154 : h0.size ≤ x124 := Nat.le_trans K0.1 hpq130
      have ne155 : dd ≠ x125 := Nat.ne_of_lt (Nat.lt_of_lt_of_le lt145 hpq132)
      have ne156 : ka ≠ x125 := Nat.ne_of_lt (Nat.lt_of_lt_of_le lt146 hpq132)
      have ne157 : wa ≠ x125 := Nat.ne_of_lt (Nat.lt_of_lt_of_le lt147 hpq132)
      have sz158 : h0.size ≤ x125 := Nat.le_trans K0.1 hpq132
      obtain ⟨T159, X159, e159, st159⟩ := getF X123 hx hZ hown (host := "") (Or.inl (own_w hw 12 rfl)) Via.refl rfl F137 (g := (mkF m 47 #[.val (.ref dd), .val (.int lv), .val (.int (own_key lv)), .val (.long (own_bit lv)), .second, .val (.int (-1 : Int32)), .val (.int (0 : Int32))] [(.ref dd)])) rfl rfl (hb hby d3_47)
      obtain ⟨T160, X160, e160, st160⟩ := getF X159 hx hZ hown (host := "") (Or.inl (own_w hw 12 rfl)) Via.refl e159 F137 (g := (mkF m 53 #[.val (.ref dd), .val (.int lv), .val (.int (own_key lv)), .val (.long (own_bit lv)), .second, .val (.int (-1 : Int32)), .val (.int (0 : Int32))] [(.ref dd), (.int (0 : Int32)), (.ref x124)])) rfl rfl (hb hby d3_53)
      obtain ⟨T161, X161, e161, st161⟩ := getF X160 hx hZ hown (host := "") (Or.inl (own_w hw 23 rfl)) Via.refl e160 F139 (g := (mkF m 61 #[.val (.ref dd), .val (.int lv), .val (.int (own_key lv)), .val (.long (own_bit lv)), .second, .val (.int (-1 : Int32)), .val (.int (0 : Int32))] [(.ref dd), (.int (1 : Int32)), (.ref x124), (.int (0 : Int32)), (.ref x124)])) rfl rfl (hb hby d3_61)
      obtain ⟨T162, h162, L162, X162, e162, N162, K162q, A162, st162⟩ := cpA X161 hx hZ hown (own_w hw 57 rfl) (own_w hw 52 rfl) (own_w hw 50 rfl) (own_w hw 51 rfl) e161 A141 A141 (Or.inl ⟨rfl, rfl⟩) (by decide) (by decide) (by decide) (by decide) (by decide) (us := [(.int k0)]) rfl (Nat.le_of_ble_eq_true rfl) N123 hpq129 (g := (mkF m 67 #[.val (.ref dd), .val (.int lv), .val (.int (own_key lv)), .val (.long (own_bit lv)), .second, .val (.int (-1 : Int32)), .val (.int (0 : Int32))] [(.int (1 : Int32)), (.int (1 : Int32)), (.ref x124), (.int (0 : Int32)), (.ref x124)])) rfl (by rw [hml]; rfl) rfl (hb hby d3_67) (by decide) (W := 0) (by show 2 * 0 + _ ≤ _; exact Nat.le_of_eq rfl) (by decide)
      have V162 : Arv Z h162 x124 x126 .int (3 : Int32) [(.int k0), (.int k0), (.int (0 : Int32))] (.int (0 : Int32)) := A162
      have A163 := A148.keep K162q (ninS ne152 nin0)
      have A164 := A149.keep K162q (ninS ne153 nin0)
      have E165 := E136.keep K162q
      have F166 := F137.keep K162q (ninS hpq133 nin0)
      have F167 := F138.keep K162q (ninS hpq133 nin0)
      have F168 := F139.keep K162q (ninS hpq133 nin0)
      have F169 := F140.keep K162q (ninS hpq133 nin0)
      have A170 := A142.keep K162q (ninS (Ne.symm hpq135) nin0)
      have E171 := E143.keep K162q
      have E172 := E144.keep K162q
      have K162 : Keep h0 h162 [dd, ka, wa] := K123.trans K162q (allS (Or.inr sz154) all0)
      have Zs173 : n0 ≤ h162.size := (Nat.le_trans Zs150 K162q.1)
      obtain ⟨T174, X174, e174, st174⟩ := getF X162 hx hZ hown (host := "") (Or.inl (own_w hw 16 rfl)) Via.refl e162 F167 (g := (mkF m 71 #[.val (.ref dd), .val (.int lv), .val (.int (own_key lv)), .val (.long (own_bit lv)), .second, .val (.int (-1 : Int32)), .val (.int (0 : Int32))] [(.ref dd)])) rfl rfl (hb hby d3_71)
      obtain ⟨T175, X175, e175, st175⟩ := getF X174 hx hZ hown (host := "") (Or.inl (own_w hw 16 rfl)) Via.refl e174 F167 (g := (mkF m 77 #[.val (.ref dd), .val (.int lv), .val (.int (own_key lv)), .val (.long (own_bit lv)), .second, .val (.int (-1 : Int32)), .val (.int (0 : Int32))] [(.ref dd), (.int (0 : Int32)), (.ref x125)])) rfl rfl (hb hby d3_77)
      obtain ⟨T176, X176, e176, st176⟩ := getF X175 hx hZ hown (host := "") (Or.inl (own_w hw 23 rfl)) Via.refl e175 F168 (g := (mkF m 85 #[.val (.ref dd), .val (.int lv), .val (.int (own_key lv)), .val (.long (own_bit lv)), .second, .val (.int (-1 : Int32)), .val (.int (0 : Int32))] [(.ref dd), (.int (1 : Int32)), (.ref x125), (.int (0 : Int32)), (.ref x125)])) rfl rfl (hb hby d3_85)
      obtain ⟨T177, h177, L177, X177, e177, N177, K177q, A177, st177⟩ := cpA X176 hx hZ hown (own_w hw 57 rfl) (own_w hw 52 rfl) (own_w hw 50 rfl) (own_w hw 51 rfl) e176 A170 A170 (Or.inl ⟨rfl, rfl⟩) (by decide) (by decide) (by decide) (by decide) (by decide) (us := [(.long w0)]) rfl (Nat.le_of_ble_eq_true rfl) N162 hpq131 (g := (mkF m 91 #[.val (.ref dd), .val (.int lv), .val (.int (own_key lv)), .val (.long (own_bit lv)), .second, .val (.int (-1 : Int32)), .val (.int (0 : Int32))] [(.int (1 : Int32)), (.int (1 : Int32)), (.ref x125), (.int (0 : Int32)), (.ref x125)])) rfl (by rw [hml]; rfl) rfl (hb hby d3_91) (by decide) (W := 0) (by show 2 * 0 + _ ≤ _; exact Nat.le_of_eq rfl) (by decide)
      have V177 : Arv Z h177 x125 x127 .long (3 : Int32) [(.long w0), (.long w0), (.long (0 : Int64))] (.long (0 : Int64)) := A177
      have A178 := A163.keep K177q (ninS ne156 nin0)
      have A179 := A164.keep K177q (ninS ne157 nin0)
      have E180 := E165.keep K177q
      have F181 := F166.keep K177q (ninS hpq134 nin0)
      have F182 := F167.keep K177q (ninS hpq134 nin0)
      have F183 := F168.keep K177q (ninS hpq134 nin0)
      have F184 := F169.keep K177q (ninS hpq134 nin0)
      have E185 := E171.keep K177q
      have E186 := E172.keep K177q
      have A187 := V162.keep K177q (ninS hpq135 nin0)
      have K177 : Keep h0 h177 [dd, ka, wa] := K162.trans K177q (allS (Or.inr sz158) all0)
      have Zs188 : n0 ≤ h177.size := (Nat.le_trans Zs173 K177q.1)
      obtain ⟨T189, X189, e189, st189⟩ := getF X177 hx hZ hown (host := "") (Or.inl (own_w hw 12 rfl)) Via.refl e177 F181 (g := (mkF m 95 #[.val (.ref dd), .val (.int lv), .val (.int (own_key lv)), .val (.long (own_bit lv)), .second, .val (.int (-1 : Int32)), .val (.int (0 : Int32))] [(.ref dd)])) rfl rfl (hb hby d3_95)
      have oc190 := A187
      obtain ⟨c190, Arc190, qc190, Sc190, Nc190, Hc190, Gc190⟩ := oc190
      have hin191 : ¬ ((0 : Int32) < 0 ∨ c190.slots.size ≤ ((0 : Int32)).toNatClampNeg) := (inb_of Sc190 ⟨by decide, by decide⟩)
      obtain ⟨T191, h191, X191, e191, W191, st191⟩ := stI X189 hx hZ e189 Arc190 (j := (0 : Int32)) hin191 (g := (mkF m 101 #[.val (.ref dd), .val (.int lv), .val (.int (own_key lv)), .val (.long (own_bit lv)), .second, .val (.int (-1 : Int32)), .val (.int (0 : Int32))] [(.int (own_key lv)), (.int (0 : Int32)), (.ref x124)])) rfl rfl (hb hby d3_101)
      have V191 : Arv Z h191 x124 x126 .int (3 : Int32) [(.int (own_key lv)), (.int k0), (.int (0 : Int32))] (.int (0 : Int32)) := Arv.set Arc190 qc190 Sc190 Nc190 Hc190 Gc190 rfl W191 0 rfl (Nat.le_of_ble_eq_true rfl)
      have A192 := A178.other W191 ne152
      have A193 := A179.other W191 ne153
      have E194 := E180.wr W191
      have F195 := F181.other W191 (Or.inl hpq133)
      have F196 := F182.other W191 (Or.inl hpq133)
      have F197 := F183.other W191 (Or.inl hpq133)
      have F198 := F184.other W191 (Or.inl hpq133)
      have E199 := E185.wr W191
      have E200 := E186.wr W191
      have A201 := V177.other W191 (Ne.symm hpq135)
      have N191 := Fr.snoc X191 N177 hpq129
      have K191 : Keep h0 h191 [dd, ka, wa] := K177.wr W191 (Or.inr sz154)
      have Zs202 : n0 ≤ h191.size := (Nat.le_trans Zs188 (Keep.of_wr W191).1)
      obtain ⟨T203, X203, e203, st203⟩ := getF X191 hx hZ hown (host := "") (Or.inl (own_w hw 16 rfl)) Via.refl e191 F196 (g := (mkF m 103 #[.val (.ref dd), .val (.int lv), .val (.int (own_key lv)), .val (.long (own_bit lv)), .second, .val (.int (-1 : Int32)), .val (.int (0 : Int32))] [(.ref dd)])) rfl rfl (hb hby d3_103)
      have oc204 := A201
      obtain ⟨c204, Arc204, qc204, Sc204, Nc204, Hc204, Gc204⟩ := oc204
      have hin205 : ¬ ((0 : Int32) < 0 ∨ c204.slots.size ≤ ((0 : Int32)).toNatClampNeg) := (inb_of Sc204 ⟨by decide, by decide⟩)
      obtain ⟨T205, h205, X205, e205, W205, st205⟩ := stJ X203 hx hZ e203 Arc204 (j := (0 : Int32)) hin205 (g := (mkF m 109 #[.val (.ref dd), .val (.int lv), .val (.int (own_key lv)), .val (.long (own_bit lv)), .second, .val (.int (-1 : Int32)), .val (.int (0 : Int32))] [(.long (own_bit lv)), (.int (0 : Int32)), (.ref x125)])) rfl rfl (hb hby d3_109)
      have V205 : Arv Z h205 x125 x127 .long (3 : Int32) [(.long (own_bit lv)), (.long w0), (.long (0 : Int64))] (.long (0 : Int64)) := Arv.set Arc204 qc204 Sc204 Nc204 Hc204 Gc204 rfl W205 0 rfl (Nat.le_of_ble_eq_true rfl)
      have A206 := A192.other W205 ne156
      have A207 := A193.other W205 ne157
      have E208 := E194.wr W205
      have F209 := F195.other W205 (Or.inl hpq134)
      have F210 := F196.other W205 (Or.inl hpq134)
      have F211 := F197.other W205 (Or.inl hpq134)
      have F212 := F198.other W205 (Or.inl hpq134)
      have E213 := E199.wr W205
      have E214 := E200.wr W205
      have A215 := V191.other W205 hpq135
      have N205 := Fr.snoc X205 N191 hpq131
      have K205 : Keep h0 h205 [dd, ka, wa] := K191.wr W205 (Or.inr sz158)
      have Zs216 : n0 ≤ h205.size := (Nat.le_trans Zs202 (Keep.of_wr W205).1)
      obtain ⟨T217, X217, e217, st217⟩ := getF X205 hx hZ hown (host := "") (Or.inl (own_w hw 23 rfl)) Via.refl e205 F211 (g := (mkF m 112 #[.val (.ref dd), .val (.int lv), .val (.int (own_key lv)), .val (.long (own_bit lv)), .second, .val (.int (-1 : Int32)), .val (.int (0 : Int32))] [(.ref dd), (.ref dd)])) rfl rfl (hb hby d3_112)
      obtain ⟨T218, h218, X218, e218, W218, st218⟩ := putF X217 hx hZ hown (host := "") (Or.inl (own_w hw 23 rfl)) Via.refl e217 F211 E208 (Or.inl (own_w hw 24 rfl)) (own_w hw 2 rfl) (ty := .int) (by decide) rfl rfl (g := (mkF m 117 #[.val (.ref dd), .val (.int lv), .val (.int (own_key lv)), .val (.long (own_bit lv)), .second, .val (.int (-1 : Int32)), .val (.int (0 : Int32))] [(.int (2 : Int32)), (.ref dd)])) rfl rfl (hb hby d3_117)
      have Fw218 : Fld Z h218 dd "org/tallyrole/core/Dependencies" "size" "I" (.int (2 : Int32)) := F211.same W218
      have A219 := A206.other W218 (Ne.symm hn1)
      have A220 := A207.other W218 (Ne.symm hn2)
      have E221 := E208.wr W218
      have F222 := F209.other W218 (Or.inr (slot_ne (Or.inl (own_w hw 13 rfl)) (Or.inl (own_w hw 24 rfl)) (by decide) (t := (.array .int)) (t' := .int) (by decide) (by decide)))
      have F223 := F210.other W218 (Or.inr (slot_ne (Or.inl (own_w hw 17 rfl)) (Or.inl (own_w hw 24 rfl)) (by decide) (t := (.array .long)) (t' := .int) (by decide) (by decide)))
      have F224 := F212.other W218 (Or.inr (slot_ne (Or.inl (own_w hw 40 rfl)) (Or.inl (own_w hw 24 rfl)) (by decide) (t := .boolean) (t' := .int) (by decide) (by decide)))
      have E225 := E213.wr W218
      have E226 := E214.wr W218
      have A227 := A215.other W218 (Ne.symm hpq133)
      have A228 := V205.other W218 (Ne.symm hpq134)
      have N218 := Fr.snoc X218 N205 hdd
      have K218 : Keep h0 h218 [dd, ka, wa] := K205.wr W218 (Or.inl (List.mem_of_getElem? (i := 0) rfl))
      have Zs229 : n0 ≤ h218.size := (Nat.le_trans Zs216 (Keep.of_wr W218).1)
      have pre230 := fun (t : State) (k : Steps p.tables e below (T218.setTop (mkF m 156 #[.val (.ref dd), .val (.int lv), .val (.int (own_key lv)), .val (.long (own_bit lv)), .second, .val (.int (-1 : Int32)), .val (.int (0 : Int32))] [])) t) => pre12 t (by
        refine XS.istore X3.here hx rfl (hb hby d3_22) rfl (l' := #[.val (.ref dd), .val (.int lv), .val (.int (own_key lv)), .val (.long (own_bit lv)), .second, .val (.int (-1 : Int32)), .unset]) rfl ?_
        refine XS.iload X3.here hx rfl (hb hby d3_24) rfl ?_
        refine XS.ifNo X3.here hx rfl (hb hby d3_26) rfl ((if0 _ _).trans (tlt (by decide : (-1 : Int32) < (0 : Int32))).2.1) ?_
        refine XS.iload X3.here hx rfl (hb hby d3_29) rfl ?_
        refine XS.ineg X3.here hx rfl (hb hby d3_31) rfl ?_
        refine XS.iconst X3.here hx rfl (hb hby d3_32) ?_
        refine XS.isub X3.here hx rfl (hb hby d3_33) rfl ?_
        refine XS.istore X3.here hx rfl (hb hby d3_34) rfl (l' := #[.val (.ref dd), .val (.int lv), .val (.int (own_key lv)), .val (.long (own_bit lv)), .second, .val (.int (-1 : Int32)), .val (.int (0 : Int32))]) rfl ?_
        refine XS.aloadN X3.here hx rfl (hb hby d3_36) rfl rfl ?_
        refine XS.aloadN X3.here hx rfl (hb hby d3_37) rfl rfl ?_
        refine st122 _ ?_
        refine XS.iconst X122.here hx rfl (hb hby d3_41) ?_
        refine XS.iadd X122.here hx rfl (hb hby d3_42) rfl ?_
        refine st123.trans ?_
        refine XS.aloadN X123.here hx rfl (hb hby d3_46) rfl rfl ?_
        refine st159 _ ?_
        refine XS.iload X159.here hx rfl (hb hby d3_50) rfl ?_
        refine XS.aloadN X159.here hx rfl (hb hby d3_52) rfl rfl ?_
        refine st160 _ ?_
        refine XS.iload X160.here hx rfl (hb hby d3_56) rfl ?_
        refine XS.iconst X160.here hx rfl (hb hby d3_58) ?_
        refine XS.iadd X160.here hx rfl (hb hby d3_59) rfl ?_
        refine XS.aloadN X160.here hx rfl (hb hby d3_60) rfl rfl ?_
        refine st161 _ ?_
        refine XS.iload X161.here hx rfl (hb hby d3_64) rfl ?_
        refine XS.isub X161.here hx rfl (hb hby d3_66) rfl ?_
        refine st162 _ ?_
        refine XS.aloadN X162.here hx rfl (hb hby d3_70) rfl rfl ?_
        refine st174 _ ?_
        refine XS.iload X174.here hx rfl (hb hby d3_74) rfl ?_
        refine XS.aloadN X174.here hx rfl (hb hby d3_76) rfl rfl ?_
        refine st175 _ ?_
        refine XS.iload X175.here hx rfl (hb hby d3_80) rfl ?_
        refine XS.iconst X175.here hx rfl (hb hby d3_82) ?_
        refine XS.iadd X175.here hx rfl (hb hby d3_83) rfl ?_
        refine XS.aloadN X175.here hx rfl (hb hby d3_84) rfl rfl ?_
        refine st176 _ ?_
        refine XS.iload X176.here hx rfl (hb hby d3_88) rfl ?_
        refine XS.isub X176.here hx rfl (hb hby d3_90) rfl ?_
        refine st177 _ ?_
        refine XS.aloadN X177.here hx rfl (hb hby d3_94) rfl rfl ?_
        refine st189 _ ?_
        refine XS.iload X189.here hx rfl (hb hby d3_98) rfl ?_
        refine XS.iloadN X189.here hx rfl (hb hby d3_100) rfl ?_
        refine st191 _ ?_
        refine XS.aloadN X191.here hx rfl (hb hby d3_102) rfl rfl ?_
        refine st203 _ ?_
        refine XS.iload X203.here hx rfl (hb hby d3_106) rfl ?_
        refine XS.lloadN X203.here hx rfl (hb hby d3_108) rfl ?_
        refine st205 _ ?_
        refine XS.aloadN X205.here hx rfl (hb hby d3_110) rfl rfl ?_
        refine XS.dup X205.here hx rfl (hb hby d3_111) rfl rfl ?_
        refine st217 _ ?_
        refine XS.iconst X217.here hx rfl (hb hby d3_115) ?_
        refine XS.iadd X217.here hx rfl (hb hby d3_116) rfl ?_
        refine st218 _ ?_
        refine XS.goto X218.here hx rfl (pc0 := 120) (pc' := 156) rfl (hb hby d3_120) (by decide) (by decide) ?_
        exact k)
      obtain ⟨fs, hr, hrun, hended, hW, hsame⟩ := X218.leave (v := none) (hlocks := BodyLoose.notSynchronized Bd) (fun _ => rfl)
      refine ⟨_, _, pre230 _ ?_, hrun, hended, _, _, rfl, ?_, ⟨_, rfl⟩, hW, hsame.mono (by decide) (by decide)⟩
      · exact X218.returnOut hx Bd.returns (hb hby d3_156) hr
      · show Q_ad Z dd ka wa kk kw (1 : Int32) (1 : Int32) [(.int k0)] [(.long w0)] SS lv h0 n0 _ T218.heap _
        rw [e218]
        exact ⟨x124, x125, x126, x127, (3 : Int32), (2 : Int32), [(.int (own_key lv)), (.int k0), (.int (0 : Int32))], [(.long (own_bit lv)), (.long w0), (.long (0 : Int64))], rfl, N218, K218, hpq129, hpq131, (Or.inr sz154), (Or.inr sz158), hpq133, hpq134, hpq135, (Or.inr (Or.inl ⟨_, _, _, _, _, _, rfl, rfl, rfl, rfl, (own_r_ins (A := []) (B := [(k0, w0)]) hrr hlv (List.forall_mem_nil _) (List.forall_mem_cons.mpr ⟨hb9, (List.forall_mem_nil _)⟩))⟩)), (fun _ => (Or.inr ⟨_, _, _, _, _, _, rfl, rfl, rfl, rfl, (own_r_ins (A := []) (B := [(k0, w0)]) hrr hlv (List.forall_mem_nil _) (List.forall_mem_cons.mpr ⟨hb9, (List.forall_mem_nil _)⟩))⟩)), E221, F222, F223, Fw218, F224, A227, A228⟩
    · obtain ⟨T231, X231, e231, st231⟩ := getF X3 hx hZ hown (host := "") (Or.inl (own_w hw 16 rfl)) Via.refl hq5 H2_F (g := (mkF m 124 #[.val (.ref dd), .val (.int lv), .val (.int (own_key lv)), .val (.long (own_bit lv)), .second, .val (.int (0 : Int32)), .unset] [(.ref dd)])) rfl rfl (hb hby d3_124)
      have oc232 := H6_A
      obtain ⟨c232, Arc232, qc232, Sc232, Nc232, Hc232, Gc232⟩ := oc232
      have hin233 : ¬ ((0 : Int32) < 0 ∨ c232.slots.size ≤ ((0 : Int32)).toNatClampNeg) := (inb_of Sc232 ⟨by decide, by decide⟩)
      have pre234 := fun (t : State) (k : Steps p.tables e below (T231.setTop (mkF m 134 #[.val (.ref dd), .val (.int lv), .val (.int (own_key lv)), .val (.long (own_bit lv)), .second, .val (.int (0 : Int32)), .unset] [(.int (lcmpW (w0 &&& (own_bit lv)) (0 : Int64)))])) t) => pre12 t (by
        refine XS.istore X3.here hx rfl (hb hby d3_22) rfl (l' := #[.val (.ref dd), .val (.int lv), .val (.int (own_key lv)), .val (.long (own_bit lv)), .second, .val (.int (0 : Int32)), .unset]) rfl ?_
        refine XS.iload X3.here hx rfl (hb hby d3_24) rfl ?_
        refine XS.ifYes X3.here hx rfl (pc0 := 26) (pc' := 123) rfl (hb hby d3_26) rfl ((if0 _ _).trans (flt (by decide : ¬ ((0 : Int32) < (0 : Int32)))).2.1) (by decide) (by decide) ?_
        refine XS.aloadN X3.here hx rfl (hb hby d3_123) rfl rfl ?_
        refine st231 _ ?_
        refine XS.iload X231.here hx rfl (hb hby d3_127) rfl ?_
        refine X231.laload hx (j := (0 : Int32)) (v := (.long w0)) (by rw [e231]; exact Arc232.1) (State.isArrayOf_alike hZ.alike Arc232.2.1) Arc232.2.2 hin233 (Has.at Hc232 hin233 rfl) (g := (mkF m 129 #[.val (.ref dd), .val (.int lv), .val (.int (own_key lv)), .val (.long (own_bit lv)), .second, .val (.int (0 : Int32)), .unset] [(.int (0 : Int32)), (.ref wa)])) rfl rfl (hb hby d3_129) _ ?_
        refine XS.lloadN X231.here hx rfl (hb hby d3_130) rfl ?_
        refine XS.land X231.here hx rfl (hb hby d3_131) rfl ?_
        refine XS.lconst X231.here hx rfl (hb hby d3_132) ?_
        refine XS.lcmp X231.here hx rfl (hb hby d3_133) rfl ?_
        exact k)
      by_cases hc235 : (lcmpW (w0 &&& (own_bit lv)) (0 : Int64)) = (0 : Int32)
      · obtain ⟨T236, X236, e236, st236⟩ := getF X231 hx hZ hown (host := "") (Or.inl (own_w hw 23 rfl)) Via.refl e231 H3_F (g := (mkF m 139 #[.val (.ref dd), .val (.int lv), .val (.int (own_key lv)), .val (.long (own_bit lv)), .second, .val (.int (0 : Int32)), .unset] [(.ref dd), (.ref dd)])) rfl rfl (hb hby d3_139)
        obtain ⟨cq237, q237, q237'⟩ := H0_E.cell
        obtain ⟨_, _, ⟨T237, L237, k237, n237⟩, -, X237, ⟨Lc237, hQ237, l237, y237, z237⟩, st237⟩ := X236.privateBack hx (y := (⟨"org/tallyrole/core/Dependencies", "reserve", "(I)V"⟩ : MethodName)) hown (mvT hZ (own_w hw 35 rfl)) (mvT hZ (own_w hw 36 rfl)) (own_sel_priv (z := (⟨"org/tallyrole/core/Dependencies", "add", "(I)V"⟩ : MethodName)) (mvT hZ (own_w hw 21 rfl)) rfl (mvP hZ (own_w hw 37 rfl)) (mvT hZ (own_w hw 36 rfl)) (by decide)) (Cond.privateMethod_at (mvP hZ (own_w hw 37 rfl) (args := #[]))) (mvT hZ (own_w hw 38 rfl)) (by decide) (backOf (W := 0) (rm_rvN l Z a0 hw [] dd ka kk (1 : Int32) [(.int k0)] (1 : Int32) h0 n0 Z0 H0_E H1_F H4_F H5_A (by decide)) hZ (own_w hw 38 rfl) (own_w hw 3 rfl) (by decide) (by decide)) (g := (mkF m 142 #[.val (.ref dd), .val (.int lv), .val (.int (own_key lv)), .val (.long (own_bit lv)), .second, .val (.int (0 : Int32)), .unset] [(.int (1 : Int32)), (.ref dd)])) rfl (by rw [hml]; rfl) (Steps.refl _) (a := dd) (by rw [e236]; exact q237) q237' (argsL := [(.int (1 : Int32))]) (rest := []) (lenOf pd_7 rfl) rfl (by show 2 * 0 + _ ≤ _; exact Nat.le_of_eq rfl) (hb hby d3_142) (fun _ _ => ⟨rfl, e236, (by decide : 0 + 0 ≤ _), (by decide : 0 + 0 ≤ _)⟩)
        dsimp only [Pt.U, Pt.locs, Pt.cells, Pt.slots] at X237 l237 y237 z237 st237 hQ237
        subst l237 y237 z237
        obtain ⟨rfl, N237q, hq238⟩ := hQ237
        have N237 := Fr.app N3 N237q
        obtain ⟨T239, X239, e239, st239⟩ := getF X237 hx hZ hown (host := "") (Or.inl (own_w hw 16 rfl)) Via.refl hq238 H2_F (g := (mkF m 146 #[.val (.ref dd), .val (.int lv), .val (.int (own_key lv)), .val (.long (own_bit lv)), .second, .val (.int (0 : Int32)), .unset] [(.ref dd)])) rfl rfl (hb hby d3_146)
        have oc240 := H6_A
        obtain ⟨c240, Arc240, qc240, Sc240, Nc240, Hc240, Gc240⟩ := oc240
        have hin241 : ¬ ((0 : Int32) < 0 ∨ c240.slots.size ≤ ((0 : Int32)).toNatClampNeg) := (inb_of Sc240 ⟨by decide, by decide⟩)
        have oc242 := H6_A
        obtain ⟨c242, Arc242, qc242, Sc242, Nc242, Hc242, Gc242⟩ := oc242
        have hin243 : ¬ ((0 : Int32) < 0 ∨ c242.slots.size ≤ ((0 : Int32)).toNatClampNeg) := (inb_of Sc242 ⟨by decide, by decide⟩)
        obtain ⟨T243, h243, X243, e243, W243, st243⟩ := stJ X239 hx hZ e239 Arc242 (j := (0 : Int32)) hin243 (g := (mkF m 155 #[.val (.ref dd), .val (.int lv), .val (.int (own_key lv)), .val (.long (own_bit lv)), .second, .val (.int (0 : Int32)), .unset] [(.long (w0 ||| (own_bit lv))), (.int (0 : Int32)), (.ref wa)])) rfl rfl (hb hby d3_155)
        have V243 : Arv Z h243 wa kw .long (1 : Int32) [(.long (w0 ||| (own_bit lv)))] (.long (0 : Int64)) := Arv.set Arc242 qc242 Sc242 Nc242 Hc242 Gc242 rfl W243 0 rfl (Nat.le_of_ble_eq_true rfl)
        have E244 := H0_E.wr W243
        have F245 := H1_F.other W243 (Or.inl hn2)
        have F246 := H2_F.other W243 (Or.inl hn2)
        have F247 := H3_F.other W243 (Or.inl hn2)
        have F248 := H4_F.other W243 (Or.inl hn2)
        have A249 := H5_A.other W243 hn3
        have N243 := Fr.snoc X243 N237 hwa
        have K243 : Keep h0 h243 [dd, ka, wa] := K0.wr W243 (Or.inl (List.mem_of_getElem? (i := 2) rfl))
        have Zs250 : n0 ≤ h243.size := (Nat.le_trans Z0 (Keep.of_wr W243).1)
        have pre251 := fun (t : State) (k : Steps p.tables e below (T243.setTop (mkF m 156 #[.val (.ref dd), .val (.int lv), .val (.int (own_key lv)), .val (.long (own_bit lv)), .second, .val (.int (0 : Int32)), .unset] [])) t) => pre234 t (by
          refine XS.ifNo X231.here hx rfl (hb hby d3_134) rfl ((if0 _ _).trans (teq hc235).2) ?_
          refine XS.aloadN X231.here hx rfl (hb hby d3_137) rfl rfl ?_
          refine XS.aloadN X231.here hx rfl (hb hby d3_138) rfl rfl ?_
          refine st236 _ ?_
          refine st237.trans ?_
          refine XS.aloadN X237.here hx rfl (hb hby d3_145) rfl rfl ?_
          refine st239 _ ?_
          refine XS.iload X239.here hx rfl (hb hby d3_149) rfl ?_
          jvm_step X239.here [X239.here.top, hx, (hb hby d3_151), Value.category]
          refine X239.laload hx (j := (0 : Int32)) (v := (.long w0)) (by rw [e239]; exact Arc240.1) (State.isArrayOf_alike hZ.alike Arc240.2.1) Arc240.2.2 hin241 (Has.at Hc240 hin241 rfl) (g := (mkF m 152 #[.val (.ref dd), .val (.int lv), .val (.int (own_key lv)), .val (.long (own_bit lv)), .second, .val (.int (0 : Int32)), .unset] [(.int (0 : Int32)), (.ref wa), (.int (0 : Int32)), (.ref wa)])) rfl rfl (hb hby d3_152) _ ?_
          refine XS.lloadN X239.here hx rfl (hb hby d3_153) rfl ?_
          refine XS.lor X239.here hx rfl (hb hby d3_154) rfl ?_
          refine st243 _ ?_
          exact k)
        obtain ⟨fs, hr, hrun, hended, hW, hsame⟩ := X243.leave (v := none) (hlocks := BodyLoose.notSynchronized Bd) (fun _ => rfl)
        refine ⟨_, _, pre251 _ ?_, hrun, hended, _, _, rfl, ?_, ⟨_, rfl⟩, hW, hsame.mono (by decide) (by decide)⟩
        · exact X243.returnOut hx Bd.returns (hb hby d3_156) hr
        · show Q_ad Z dd ka wa kk kw (1 : Int32) (1 : Int32) [(.int k0)] [(.long w0)] SS lv h0 n0 _ T243.heap _
          rw [e243]
          exact ⟨ka, wa, kk, kw, (1 : Int32), (1 : Int32), [(.int k0)], [(.long (w0 ||| (own_bit lv)))], rfl, N243, K243, hka, hwa, (Or.inl rfl), (Or.inl rfl), hn1, hn2, hn3, (Or.inl ⟨_, _, rfl, rfl, rfl, rfl, (own_r_or (A := []) (B := []) hrr (own_eq_of hb10 hb11))⟩), (fun _ => (Or.inl ⟨_, _, rfl, rfl, rfl, rfl, (own_r_or (A := []) (B := []) hrr (own_eq_of hb10 hb11))⟩)), E244, F245, F246, F247, F248, A249, V243⟩
      · have pre252 := fun (t : State) (k : Steps p.tables e below (T231.setTop (mkF m 156 #[.val (.ref dd), .val (.int lv), .val (.int (own_key lv)), .val (.long (own_bit lv)), .second, .val (.int (0 : Int32)), .unset] [])) t) => pre234 t (by
          refine XS.ifYes X231.here hx rfl (pc0 := 134) (pc' := 156) rfl (hb hby d3_134) rfl ((if0 _ _).trans (feq hc235).2) (by decide) (by decide) ?_
          exact k)
        obtain ⟨fs, hr, hrun, hended, hW, hsame⟩ := X231.leave (v := none) (hlocks := BodyLoose.notSynchronized Bd) (fun _ => rfl)
        refine ⟨_, _, pre252 _ ?_, hrun, hended, _, _, rfl, ?_, ⟨_, rfl⟩, hW, hsame.mono (by decide) (by decide)⟩
        · exact X231.returnOut hx Bd.returns (hb hby d3_156) hr
        · show Q_ad Z dd ka wa kk kw (1 : Int32) (1 : Int32) [(.int k0)] [(.long w0)] SS lv h0 n0 _ T231.heap _
          rw [e231]
          exact ⟨ka, wa, kk, kw, (1 : Int32), (1 : Int32), [(.int k0)], [(.long w0)], rfl, N3, K0, hka, hwa, (Or.inl rfl), (Or.inl rfl), hn1, hn2, hn3, (Or.inl ⟨_, _, rfl, rfl, rfl, rfl, (own_r_had (A := []) (B := []) hrr (own_eq_of hb10 hb11) (fun q => hc235 ((lw_eq _ _).mpr q)))⟩), (fun _ => (Or.inl ⟨_, _, rfl, rfl, rfl, rfl, (own_r_had (A := []) (B := []) hrr (own_eq_of hb10 hb11) (fun q => hc235 ((lw_eq _ _).mpr q)))⟩)), H0_E, H1_F, H2_F, H3_F, H4_F, H5_A, H6_A⟩
  · have ho0 : k0 < k1 := own_o0 hrr
    obtain ⟨T253, X253, e253, st253⟩ := getF X0 hx hZ hown (host := "") (Or.inl (own_w hw 12 rfl)) Via.refl e0 H1_F (g := (mkF m 10 #[.val (.ref dd), .val (.int lv), .val (.int (own_key lv)), .val (.long (own_bit lv)), .second, .unset, .unset] [(.ref dd)])) rfl rfl (hb hby d3_10)
    obtain ⟨T254, X254, e254, st254⟩ := getF X253 hx hZ hown (host := "") (Or.inl (own_w hw 23 rfl)) Via.refl e253 H3_F (g := (mkF m 15 #[.val (.ref dd), .val (.int lv), .val (.int (own_key lv)), .val (.long (own_bit lv)), .second, .unset, .unset] [(.ref dd), (.int (0 : Int32)), (.ref ka)])) rfl rfl (hb hby d3_15)
    obtain ⟨_, _, ⟨T255, L255, k255, n255⟩, -, X255, ⟨Lc255, hQ255, l255, y255, z255⟩, st255⟩ := Jvm.LawKit.callS X254 hx (y := (⟨"java/util/Arrays", "binarySearch", "([IIII)I"⟩ : MethodName)) hown (mvT hZ (own_w hw 25 rfl)) (mvT hZ (own_w hw 26 rfl)) (mvT hZ (own_w hw 27 rfl)) (mvT hZ (own_w hw 28 rfl)) (by decide) (backOf (W := 0) (rm_bs2_3 l Z a0 hw [] ka kk k0 k1 g2 (own_key lv) h0 n0 Z0 H5_A) hZ (own_w hw 28 rfl) (own_w hw 27 rfl) (by decide) (by decide)) (g := (mkF m 19 #[.val (.ref dd), .val (.int lv), .val (.int (own_key lv)), .val (.long (own_bit lv)), .second, .unset, .unset] [(.int (own_key lv)), (.int (2 : Int32)), (.int (0 : Int32)), (.ref ka)])) rfl (by rw [hml]; rfl) (argsL := [(.ref ka), (.int (0 : Int32)), (.int (2 : Int32)), (.int (own_key lv))]) (rest := []) (lenOf pd_1 rfl) rfl (by show 2 * 0 + _ ≤ _; exact Nat.le_of_eq rfl) (hb hby d3_19) (fun _ _ => ⟨rfl, e254, (by decide : 0 + 0 ≤ _), (by decide : 0 + 0 ≤ _)⟩)
    dsimp only [Pt.U, Pt.locs, Pt.cells, Pt.slots] at X255 l255 y255 z255 st255 hQ255
    subst l255 y255 z255
    obtain ⟨x256, rfl, N255q, hq257, hpq258⟩ := hQ255
    have N255 := Fr.app N0 N255q
    have pre271 := fun (t : State) (k : Steps p.tables e below (T255.setTop (mkF m 22 #[.val (.ref dd), .val (.int lv), .val (.int (own_key lv)), .val (.long (own_bit lv)), .second, .unset, .unset] [(.int x256)])) t) => pre0 t (by
      refine XS.iloadN X0.here hx rfl (hb hby d3_0) rfl ?_
      refine XS.bipush X0.here hx rfl (hb hby d3_1) ?_
      refine XS.iushr X0.here hx rfl (hb hby d3_3) rfl ?_
      show Steps p.tables e below (s₁.setTop (mkF m 4 #[.val (.ref dd), .val (.int lv), .unset, .unset, .unset, .unset, .unset] [(.int (own_key lv))])) _
      refine XS.istoreN X0.here hx rfl (hb hby d3_4) rfl (l' := #[.val (.ref dd), .val (.int lv), .val (.int (own_key lv)), .unset, .unset, .unset, .unset]) rfl ?_
      refine XS.lconst X0.here hx rfl (hb hby d3_5) ?_
      refine XS.iloadN X0.here hx rfl (hb hby d3_6) rfl ?_
      refine XS.lshl X0.here hx rfl (hb hby d3_7) rfl ?_
      show Steps p.tables e below (s₁.setTop (mkF m 8 #[.val (.ref dd), .val (.int lv), .val (.int (own_key lv)), .unset, .unset, .unset, .unset] [(.long (own_bit lv))])) _
      refine XS.lstoreN X0.here hx rfl (hb hby d3_8) rfl (l' := #[.val (.ref dd), .val (.int lv), .val (.int (own_key lv)), .val (.long (own_bit lv)), .second, .unset, .unset]) rfl ?_
      refine XS.aloadN X0.here hx rfl (hb hby d3_9) rfl rfl ?_
      refine st253 _ ?_
      refine XS.iconst X253.here hx rfl (hb hby d3_13) ?_
      refine XS.aloadN X253.here hx rfl (hb hby d3_14) rfl rfl ?_
      refine st254 _ ?_
      refine XS.iloadN X254.here hx rfl (hb hby d3_18) rfl ?_
      refine st255 _ ?_
      exact k)
    rcases hpq258 with ⟨rfl, hb259, hb260⟩ | ⟨rfl, hb261, hb262, hb263⟩ | ⟨rfl, hb264, hb265, hb266⟩ | ⟨rfl, hb267, hb268⟩ | ⟨rfl, hb269, hb270⟩
    · obtain ⟨T272, X272, e272, st272⟩ := getF X255 hx hZ hown (host := "") (Or.inl (own_w hw 23 rfl)) Via.refl hq257 H3_F (g := (mkF m 38 #[.val (.ref dd), .val (.int lv), .val (.int (own_key lv)), .val (.long (own_bit lv)), .second, .val (.int (-3 : Int32)), .val (.int (2 : Int32))] [(.ref dd), (.ref dd)])) rfl rfl (hb hby d3_38)
      obtain ⟨cq273, q273, q273'⟩ := H0_E.cell
      obtain ⟨_, _, ⟨T273, L273, k273, n273⟩, -, X273, ⟨Lc273, hQ273, l273, y273, z273⟩, st273⟩ := X272.privateBack hx (y := (⟨"org/tallyrole/core/Dependencies", "reserve", "(I)V"⟩ : MethodName)) hown (mvT hZ (own_w hw 35 rfl)) (mvT hZ (own_w hw 36 rfl)) (own_sel_priv (z := (⟨"org/tallyrole/core/Dependencies", "add", "(I)V"⟩ : MethodName)) (mvT hZ (own_w hw 21 rfl)) rfl (mvP hZ (own_w hw 37 rfl)) (mvT hZ (own_w hw 36 rfl)) (by decide)) (Cond.privateMethod_at (mvP hZ (own_w hw 37 rfl) (args := #[]))) (mvT hZ (own_w hw 38 rfl)) (by decide) (backOf (W := 0) (rm_rvN l Z a0 hw [] dd ka kk (3 : Int32) [(.int k0), (.int k1), (.int g2)] (3 : Int32) h0 n0 Z0 H0_E H1_F H4_F H5_A (by decide)) hZ (own_w hw 38 rfl) (own_w hw 3 rfl) (by decide) (by decide)) (g := (mkF m 43 #[.val (.ref dd), .val (.int lv), .val (.int (own_key lv)), .val (.long (own_bit lv)), .second, .val (.int (-3 : Int32)), .val (.int (2 : Int32))] [(.int (3 : Int32)), (.ref dd)])) rfl (by rw [hml]; rfl) (Steps.refl _) (a := dd) (by rw [e272]; exact q273) q273' (argsL := [(.int (3 : Int32))]) (rest := []) (lenOf pd_7 rfl) rfl (by show 2 * 0 + _ ≤ _; exact Nat.le_of_eq rfl) (hb hby d3_43) (fun _ _ => ⟨rfl, e272, (by decide : 0 + 0 ≤ _), (by decide : 0 + 0 ≤ _)⟩)
      dsimp only [Pt.U, Pt.locs, Pt.cells, Pt.slots] at X273 l273 y273 z273 st273 hQ273
      subst l273 y273 z273
      obtain ⟨rfl, N273q, hq274⟩ := hQ273
      have N273 := Fr.app N255 N273q
      obtain ⟨T275, X275, e275, st275⟩ := getF X273 hx hZ hown (host := "") (Or.inl (own_w hw 12 rfl)) Via.refl hq274 H1_F (g := (mkF m 47 #[.val (.ref dd), .val (.int lv), .val (.int (own_key lv)), .val (.long (own_bit lv)), .second, .val (.int (-3 : Int32)), .val (.int (2 : Int32))] [(.ref dd)])) rfl rfl (hb hby d3_47)
      obtain ⟨T276, X276, e276, st276⟩ := getF X275 hx hZ hown (host := "") (Or.inl (own_w hw 12 rfl)) Via.refl e275 H1_F (g := (mkF m 53 #[.val (.ref dd), .val (.int lv), .val (.int (own_key lv)), .val (.long (own_bit lv)), .second, .val (.int (-3 : Int32)), .val (.int (2 : Int32))] [(.ref dd), (.int (2 : Int32)), (.ref ka)])) rfl rfl (hb hby d3_53)
      obtain ⟨T277, X277, e277, st277⟩ := getF X276 hx hZ hown (host := "") (Or.inl (own_w hw 23 rfl)) Via.refl e276 H3_F (g := (mkF m 61 #[.val (.ref dd), .val (.int lv), .val (.int (own_key lv)), .val (.long (own_bit lv)), .second, .val (.int (-3 : Int32)), .val (.int (2 : Int32))] [(.ref dd), (.int (3 : Int32)), (.ref ka), (.int (2 : Int32)), (.ref ka)])) rfl rfl (hb hby d3_61)
      obtain ⟨T278, h278, L278, X278, e278, N278, K278q, A278, st278⟩ := cpA X277 hx hZ hown (own_w hw 57 rfl) (own_w hw 52 rfl) (own_w hw 50 rfl) (own_w hw 51 rfl) e277 H5_A H5_A (Or.inl ⟨rfl, rfl⟩) (by decide) (by decide) (by decide) (by decide) (by decide) (us := []) rfl (Nat.le_of_ble_eq_true rfl) N273 hka (g := (mkF m 67 #[.val (.ref dd), .val (.int lv), .val (.int (own_key lv)), .val (.long (own_bit lv)), .second, .val (.int (-3 : Int32)), .val (.int (2 : Int32))] [(.int (0 : Int32)), (.int (3 : Int32)), (.ref ka), (.int (2 : Int32)), (.ref ka)])) rfl (by rw [hml]; rfl) rfl (hb hby d3_67) (by decide) (W := 0) (by show 2 * 0 + _ ≤ _; exact Nat.le_of_eq rfl) (by decide)
      have V278 : Arv Z h278 ka kk .int (3 : Int32) [(.int k0), (.int k1), (.int g2)] (.int (0 : Int32)) := A278
      have E279 := H0_E.keep K278q
      have F280 := H1_F.keep K278q (ninS hn1 nin0)
      have F281 := H2_F.keep K278q (ninS hn1 nin0)
      have F282 := H3_F.keep K278q (ninS hn1 nin0)
      have F283 := H4_F.keep K278q (ninS hn1 nin0)
      have A284 := H6_A.keep K278q (ninS (Ne.symm hn3) nin0)
      have K278 : Keep h0 h278 [dd, ka, wa] := K0.trans K278q (allS (Or.inl (List.mem_of_getElem? (i := 1) rfl)) all0)
      have Zs285 : n0 ≤ h278.size := (Nat.le_trans Z0 K278q.1)
      obtain ⟨T286, X286, e286, st286⟩ := getF X278 hx hZ hown (host := "") (Or.inl (own_w hw 16 rfl)) Via.refl e278 F281 (g := (mkF m 71 #[.val (.ref dd), .val (.int lv), .val (.int (own_key lv)), .val (.long (own_bit lv)), .second, .val (.int (-3 : Int32)), .val (.int (2 : Int32))] [(.ref dd)])) rfl rfl (hb hby d3_71)
      obtain ⟨T287, X287, e287, st287⟩ := getF X286 hx hZ hown (host := "") (Or.inl (own_w hw 16 rfl)) Via.refl e286 F281 (g := (mkF m 77 #[.val (.ref dd), .val (.int lv), .val (.int (own_key lv)), .val (.long (own_bit lv)), .second, .val (.int (-3 : Int32)), .val (.int (2 : Int32))] [(.ref dd), (.int (2 : Int32)), (.ref wa)])) rfl rfl (hb hby d3_77)
      obtain ⟨T288, X288, e288, st288⟩ := getF X287 hx hZ hown (host := "") (Or.inl (own_w hw 23 rfl)) Via.refl e287 F282 (g := (mkF m 85 #[.val (.ref dd), .val (.int lv), .val (.int (own_key lv)), .val (.long (own_bit lv)), .second, .val (.int (-3 : Int32)), .val (.int (2 : Int32))] [(.ref dd), (.int (3 : Int32)), (.ref wa), (.int (2 : Int32)), (.ref wa)])) rfl rfl (hb hby d3_85)
      obtain ⟨T289, h289, L289, X289, e289, N289, K289q, A289, st289⟩ := cpA X288 hx hZ hown (own_w hw 57 rfl) (own_w hw 52 rfl) (own_w hw 50 rfl) (own_w hw 51 rfl) e288 A284 A284 (Or.inl ⟨rfl, rfl⟩) (by decide) (by decide) (by decide) (by decide) (by decide) (us := []) rfl (Nat.le_of_ble_eq_true rfl) N278 hwa (g := (mkF m 91 #[.val (.ref dd), .val (.int lv), .val (.int (own_key lv)), .val (.long (own_bit lv)), .second, .val (.int (-3 : Int32)), .val (.int (2 : Int32))] [(.int (0 : Int32)), (.int (3 : Int32)), (.ref wa), (.int (2 : Int32)), (.ref wa)])) rfl (by rw [hml]; rfl) rfl (hb hby d3_91) (by decide) (W := 0) (by show 2 * 0 + _ ≤ _; exact Nat.le_of_eq rfl) (by decide)
      have V289 : Arv Z h289 wa kw .long (3 : Int32) [(.long w0), (.long w1), (.long q2)] (.long (0 : Int64)) := A289
      have E290 := E279.keep K289q
      have F291 := F280.keep K289q (ninS hn2 nin0)
      have F292 := F281.keep K289q (ninS hn2 nin0)
      have F293 := F282.keep K289q (ninS hn2 nin0)
      have F294 := F283.keep K289q (ninS hn2 nin0)
      have A295 := V278.keep K289q (ninS hn3 nin0)
      have K289 : Keep h0 h289 [dd, ka, wa] := K278.trans K289q (allS (Or.inl (List.mem_of_getElem? (i := 2) rfl)) all0)
      have Zs296 : n0 ≤ h289.size := (Nat.le_trans Zs285 K289q.1)
      obtain ⟨T297, X297, e297, st297⟩ := getF X289 hx hZ hown (host := "") (Or.inl (own_w hw 12 rfl)) Via.refl e289 F291 (g := (mkF m 95 #[.val (.ref dd), .val (.int lv), .val (.int (own_key lv)), .val (.long (own_bit lv)), .second, .val (.int (-3 : Int32)), .val (.int (2 : Int32))] [(.ref dd)])) rfl rfl (hb hby d3_95)
      have oc298 := A295
      obtain ⟨c298, Arc298, qc298, Sc298, Nc298, Hc298, Gc298⟩ := oc298
      have hin299 : ¬ ((2 : Int32) < 0 ∨ c298.slots.size ≤ ((2 : Int32)).toNatClampNeg) := (inb_of Sc298 ⟨by decide, by decide⟩)
      obtain ⟨T299, h299, X299, e299, W299, st299⟩ := stI X297 hx hZ e297 Arc298 (j := (2 : Int32)) hin299 (g := (mkF m 101 #[.val (.ref dd), .val (.int lv), .val (.int (own_key lv)), .val (.long (own_bit lv)), .second, .val (.int (-3 : Int32)), .val (.int (2 : Int32))] [(.int (own_key lv)), (.int (2 : Int32)), (.ref ka)])) rfl rfl (hb hby d3_101)
      have V299 : Arv Z h299 ka kk .int (3 : Int32) [(.int k0), (.int k1), (.int (own_key lv))] (.int (0 : Int32)) := Arv.set Arc298 qc298 Sc298 Nc298 Hc298 Gc298 rfl W299 2 rfl (Nat.le_of_ble_eq_true rfl)
      have E300 := E290.wr W299
      have F301 := F291.other W299 (Or.inl hn1)
      have F302 := F292.other W299 (Or.inl hn1)
      have F303 := F293.other W299 (Or.inl hn1)
      have F304 := F294.other W299 (Or.inl hn1)
      have A305 := V289.other W299 (Ne.symm hn3)
      have N299 := Fr.snoc X299 N289 hka
      have K299 : Keep h0 h299 [dd, ka, wa] := K289.wr W299 (Or.inl (List.mem_of_getElem? (i := 1) rfl))
      have Zs306 : n0 ≤ h299.size := (Nat.le_trans Zs296 (Keep.of_wr W299).1)
      obtain ⟨T307, X307, e307, st307⟩ := getF X299 hx hZ hown (host := "") (Or.inl (own_w hw 16 rfl)) Via.refl e299 F302 (g := (mkF m 103 #[.val (.ref dd), .val (.int lv), .val (.int (own_key lv)), .val (.long (own_bit lv)), .second, .val (.int (-3 : Int32)), .val (.int (2 : Int32))] [(.ref dd)])) rfl rfl (hb hby d3_103)
      have oc308 := A305
      obtain ⟨c308, Arc308, qc308, Sc308, Nc308, Hc308, Gc308⟩ := oc308
      have hin309 : ¬ ((2 : Int32) < 0 ∨ c308.slots.size ≤ ((2 : Int32)).toNatClampNeg) := (inb_of Sc308 ⟨by decide, by decide⟩)
      obtain ⟨T309, h309, X309, e309, W309, st309⟩ := stJ X307 hx hZ e307 Arc308 (j := (2 : Int32)) hin309 (g := (mkF m 109 #[.val (.ref dd), .val (.int lv), .val (.int (own_key lv)), .val (.long (own_bit lv)), .second, .val (.int (-3 : Int32)), .val (.int (2 : Int32))] [(.long (own_bit lv)), (.int (2 : Int32)), (.ref wa)])) rfl rfl (hb hby d3_109)
      have V309 : Arv Z h309 wa kw .long (3 : Int32) [(.long w0), (.long w1), (.long (own_bit lv))] (.long (0 : Int64)) := Arv.set Arc308 qc308 Sc308 Nc308 Hc308 Gc308 rfl W309 2 rfl (Nat.le_of_ble_eq_true rfl)
      have E310 := E300.wr W309
      have F311 := F301.other W309 (Or.inl hn2)
      have F312 := F302.other W309 (Or.inl hn2)
      have F313 := F303.other W309 (Or.inl hn2)
      have F314 := F304.other W309 (Or.inl hn2)
      have A315 := V299.other W309 hn3
      have N309 := Fr.snoc X309 N299 hwa
      have K309 : Keep h0 h309 [dd, ka, wa] := K299.wr W309 (Or.inl (List.mem_of_getElem? (i := 2) rfl))
      have Zs316 : n0 ≤ h309.size := (Nat.le_trans Zs306 (Keep.of_wr W309).1)
      obtain ⟨T317, X317, e317, st317⟩ := getF X309 hx hZ hown (host := "") (Or.inl (own_w hw 23 rfl)) Via.refl e309 F313 (g := (mkF m 112 #[.val (.ref dd), .val (.int lv), .val (.int (own_key lv)), .val (.long (own_bit lv)), .second, .val (.int (-3 : Int32)), .val (.int (2 : Int32))] [(.ref dd), (.ref dd)])) rfl rfl (hb hby d3_112)
      obtain ⟨T318, h318, X318, e318, W318, st318⟩ := putF X317 hx hZ hown (host := "") (Or.inl (own_w hw 23 rfl)) Via.refl e317 F313 E310 (Or.inl (own_w hw 24 rfl)) (own_w hw 2 rfl) (ty := .int) (by decide) rfl rfl (g := (mkF m 117 #[.val (.ref dd), .val (.int lv), .val (.int (own_key lv)), .val (.long (own_bit lv)), .second, .val (.int (-3 : Int32)), .val (.int (2 : Int32))] [(.int (3 : Int32)), (.ref dd)])) rfl rfl (hb hby d3_117)
      have Fw318 : Fld Z h318 dd "org/tallyrole/core/Dependencies" "size" "I" (.int (3 : Int32)) := F313.same W318
      have E319 := E310.wr W318
      have F320 := F311.other W318 (Or.inr (slot_ne (Or.inl (own_w hw 13 rfl)) (Or.inl (own_w hw 24 rfl)) (by decide) (t := (.array .int)) (t' := .int) (by decide) (by decide)))
      have F321 := F312.other W318 (Or.inr (slot_ne (Or.inl (own_w hw 17 rfl)) (Or.inl (own_w hw 24 rfl)) (by decide) (t := (.array .long)) (t' := .int) (by decide) (by decide)))
      have F322 := F314.other W318 (Or.inr (slot_ne (Or.inl (own_w hw 40 rfl)) (Or.inl (own_w hw 24 rfl)) (by decide) (t := .boolean) (t' := .int) (by decide) (by decide)))
      have A323 := A315.other W318 (Ne.symm hn1)
      have A324 := V309.other W318 (Ne.symm hn2)
      have N318 := Fr.snoc X318 N309 hdd
      have K318 : Keep h0 h318 [dd, ka, wa] := K309.wr W318 (Or.inl (List.mem_of_getElem? (i := 0) rfl))
      have Zs325 : n0 ≤ h318.size := (Nat.le_trans Zs316 (Keep.of_wr W318).1)
      have pre326 := fun (t : State) (k : Steps p.tables e below (T318.setTop (mkF m 156 #[.val (.ref dd), .val (.int lv), .val (.int (own_key lv)), .val (.long (own_bit lv)), .second, .val (.int (-3 : Int32)), .val (.int (2 : Int32))] [])) t) => pre271 t (by
        refine XS.istore X255.here hx rfl (hb hby d3_22) rfl (l' := #[.val (.ref dd), .val (.int lv), .val (.int (own_key lv)), .val (.long (own_bit lv)), .second, .val (.int (-3 : Int32)), .unset]) rfl ?_
        refine XS.iload X255.here hx rfl (hb hby d3_24) rfl ?_
        refine XS.ifNo X255.here hx rfl (hb hby d3_26) rfl ((if0 _ _).trans (tlt (by decide : (-3 : Int32) < (0 : Int32))).2.1) ?_
        refine XS.iload X255.here hx rfl (hb hby d3_29) rfl ?_
        refine XS.ineg X255.here hx rfl (hb hby d3_31) rfl ?_
        refine XS.iconst X255.here hx rfl (hb hby d3_32) ?_
        refine XS.isub X255.here hx rfl (hb hby d3_33) rfl ?_
        refine XS.istore X255.here hx rfl (hb hby d3_34) rfl (l' := #[.val (.ref dd), .val (.int lv), .val (.int (own_key lv)), .val (.long (own_bit lv)), .second, .val (.int (-3 : Int32)), .val (.int (2 : Int32))]) rfl ?_
        refine XS.aloadN X255.here hx rfl (hb hby d3_36) rfl rfl ?_
        refine XS.aloadN X255.here hx rfl (hb hby d3_37) rfl rfl ?_
        refine st272 _ ?_
        refine XS.iconst X272.here hx rfl (hb hby d3_41) ?_
        refine XS.iadd X272.here hx rfl (hb hby d3_42) rfl ?_
        refine st273.trans ?_
        refine XS.aloadN X273.here hx rfl (hb hby d3_46) rfl rfl ?_
        refine st275 _ ?_
        refine XS.iload X275.here hx rfl (hb hby d3_50) rfl ?_
        refine XS.aloadN X275.here hx rfl (hb hby d3_52) rfl rfl ?_
        refine st276 _ ?_
        refine XS.iload X276.here hx rfl (hb hby d3_56) rfl ?_
        refine XS.iconst X276.here hx rfl (hb hby d3_58) ?_
        refine XS.iadd X276.here hx rfl (hb hby d3_59) rfl ?_
        refine XS.aloadN X276.here hx rfl (hb hby d3_60) rfl rfl ?_
        refine st277 _ ?_
        refine XS.iload X277.here hx rfl (hb hby d3_64) rfl ?_
        refine XS.isub X277.here hx rfl (hb hby d3_66) rfl ?_
        refine st278 _ ?_
        refine XS.aloadN X278.here hx rfl (hb hby d3_70) rfl rfl ?_
        refine st286 _ ?_
        refine XS.iload X286.here hx rfl (hb hby d3_74) rfl ?_
        refine XS.aloadN X286.here hx rfl (hb hby d3_76) rfl rfl ?_
        refine st287 _ ?_
        refine XS.iload X287.here hx rfl (hb hby d3_80) rfl ?_
        refine XS.iconst X287.here hx rfl (hb hby d3_82) ?_
        refine XS.iadd X287.here hx rfl (hb hby d3_83) rfl ?_
        refine XS.aloadN X287.here hx rfl (hb hby d3_84) rfl rfl ?_
        refine st288 _ ?_
        refine XS.iload X288.here hx rfl (hb hby d3_88) rfl ?_
        refine XS.isub X288.here hx rfl (hb hby d3_90) rfl ?_
        refine st289 _ ?_
        refine XS.aloadN X289.here hx rfl (hb hby d3_94) rfl rfl ?_
        refine st297 _ ?_
        refine XS.iload X297.here hx rfl (hb hby d3_98) rfl ?_
        refine XS.iloadN X297.here hx rfl (hb hby d3_100) rfl ?_
        refine st299 _ ?_
        refine XS.aloadN X299.here hx rfl (hb hby d3_102) rfl rfl ?_
        refine st307 _ ?_
        refine XS.iload X307.here hx rfl (hb hby d3_106) rfl ?_
        refine XS.lloadN X307.here hx rfl (hb hby d3_108) rfl ?_
        refine st309 _ ?_
        refine XS.aloadN X309.here hx rfl (hb hby d3_110) rfl rfl ?_
        refine XS.dup X309.here hx rfl (hb hby d3_111) rfl rfl ?_
        refine st317 _ ?_
        refine XS.iconst X317.here hx rfl (hb hby d3_115) ?_
        refine XS.iadd X317.here hx rfl (hb hby d3_116) rfl ?_
        refine st318 _ ?_
        refine XS.goto X318.here hx rfl (pc0 := 120) (pc' := 156) rfl (hb hby d3_120) (by decide) (by decide) ?_
        exact k)
      obtain ⟨fs, hr, hrun, hended, hW, hsame⟩ := X318.leave (v := none) (hlocks := BodyLoose.notSynchronized Bd) (fun _ => rfl)
      refine ⟨_, _, pre326 _ ?_, hrun, hended, _, _, rfl, ?_, ⟨_, rfl⟩, hW, hsame.mono (by decide) (by decide)⟩
      · exact X318.returnOut hx Bd.returns (hb hby d3_156) hr
      · show Q_ad Z dd ka wa kk kw (3 : Int32) (2 : Int32) [(.int k0), (.int k1), (.int g2)] [(.long w0), (.long w1), (.long q2)] SS lv h0 n0 _ T318.heap _
        rw [e318]
        exact ⟨ka, wa, kk, kw, (3 : Int32), (3 : Int32), [(.int k0), (.int k1), (.int (own_key lv))], [(.long w0), (.long w1), (.long (own_bit lv))], rfl, N318, K318, hka, hwa, (Or.inl rfl), (Or.inl rfl), hn1, hn2, hn3, (Or.inr (Or.inr ⟨_, _, _, _, _, _, rfl, rfl, rfl, rfl, (own_r_ins (A := [(k0, w0), (k1, w1)]) (B := []) hrr hlv (List.forall_mem_cons.mpr ⟨hb259, (List.forall_mem_cons.mpr ⟨hb260, (List.forall_mem_nil _)⟩)⟩) (List.forall_mem_nil _))⟩)), (fun q => absurd q (by decide)), E319, F320, F321, Fw318, F322, A323, A324⟩
    · obtain ⟨T327, X327, e327, st327⟩ := getF X255 hx hZ hown (host := "") (Or.inl (own_w hw 23 rfl)) Via.refl hq257 H3_F (g := (mkF m 38 #[.val (.ref dd), .val (.int lv), .val (.int (own_key lv)), .val (.long (own_bit lv)), .second, .val (.int (-2 : Int32)), .val (.int (1 : Int32))] [(.ref dd), (.ref dd)])) rfl rfl (hb hby d3_38)
      obtain ⟨cq328, q328, q328'⟩ := H0_E.cell
      obtain ⟨_, _, ⟨T328, L328, k328, n328⟩, -, X328, ⟨Lc328, hQ328, l328, y328, z328⟩, st328⟩ := X327.privateBack hx (y := (⟨"org/tallyrole/core/Dependencies", "reserve", "(I)V"⟩ : MethodName)) hown (mvT hZ (own_w hw 35 rfl)) (mvT hZ (own_w hw 36 rfl)) (own_sel_priv (z := (⟨"org/tallyrole/core/Dependencies", "add", "(I)V"⟩ : MethodName)) (mvT hZ (own_w hw 21 rfl)) rfl (mvP hZ (own_w hw 37 rfl)) (mvT hZ (own_w hw 36 rfl)) (by decide)) (Cond.privateMethod_at (mvP hZ (own_w hw 37 rfl) (args := #[]))) (mvT hZ (own_w hw 38 rfl)) (by decide) (backOf (W := 0) (rm_rvN l Z a0 hw [] dd ka kk (3 : Int32) [(.int k0), (.int k1), (.int g2)] (3 : Int32) h0 n0 Z0 H0_E H1_F H4_F H5_A (by decide)) hZ (own_w hw 38 rfl) (own_w hw 3 rfl) (by decide) (by decide)) (g := (mkF m 43 #[.val (.ref dd), .val (.int lv), .val (.int (own_key lv)), .val (.long (own_bit lv)), .second, .val (.int (-2 : Int32)), .val (.int (1 : Int32))] [(.int (3 : Int32)), (.ref dd)])) rfl (by rw [hml]; rfl) (Steps.refl _) (a := dd) (by rw [e327]; exact q328) q328' (argsL := [(.int (3 : Int32))]) (rest := []) (lenOf pd_7 rfl) rfl (by show 2 * 0 + _ ≤ _; exact Nat.le_of_eq rfl) (hb hby d3_43) (fun _ _ => ⟨rfl, e327, (by decide : 0 + 0 ≤ _), (by decide : 0 + 0 ≤ _)⟩)
      dsimp only [Pt.U, Pt.locs, Pt.cells, Pt.slots] at X328 l328 y328 z328 st328 hQ328
      subst l328 y328 z328
      obtain ⟨rfl, N328q, hq329⟩ := hQ328
      have N328 := Fr.app N255 N328q
      obtain ⟨T330, X330, e330, st330⟩ := getF X328 hx hZ hown (host := "") (Or.inl (own_w hw 12 rfl)) Via.refl hq329 H1_F (g := (mkF m 47 #[.val (.ref dd), .val (.int lv), .val (.int (own_key lv)), .val (.long (own_bit lv)), .second, .val (.int (-2 : Int32)), .val (.int (1 : Int32))] [(.ref dd)])) rfl rfl (hb hby d3_47)
      obtain ⟨T331, X331, e331, st331⟩ := getF X330 hx hZ hown (host := "") (Or.inl (own_w hw 12 rfl)) Via.refl e330 H1_F (g := (mkF m 53 #[.val (.ref dd), .val (.int lv), .val (.int (own_key lv)), .val (.long (own_bit lv)), .second, .val (.int (-2 : Int32)), .val (.int (1 : Int32))] [(.ref dd), (.int (1 : Int32)), (.ref ka)])) rfl rfl (hb hby d3_53)
      obtain ⟨T332, X332, e332, st332⟩ := getF X331 hx hZ hown (host := "") (Or.inl (own_w hw 23 rfl)) Via.refl e331 H3_F (g := (mkF m 61 #[.val (.ref dd), .val (.int lv), .val (.int (own_key lv)), .val (.long (own_bit lv)), .second, .val (.int (-2 : Int32)), .val (.int (1 : Int32))] [(.ref dd), (.int (2 : Int32)), (.ref ka), (.int (1 : Int32)), (.ref ka)])) rfl rfl (hb hby d3_61)
      obtain ⟨T333, h333, L333, X333, e333, N333, K333q, A333, st333⟩ := cpA X332 hx hZ hown (own_w hw 57 rfl) (own_w hw 52 rfl) (own_w hw 50 rfl) (own_w hw 51 rfl) e332 H5_A H5_A (Or.inl ⟨rfl, rfl⟩) (by decide) (by decide) (by decide) (by decide) (by decide) (us := [(.int k1)]) rfl (Nat.le_of_ble_eq_true rfl) N328 hka (g := (mkF m 67 #[.val (.ref dd), .val (.int lv), .val (.int (own_key lv)), .val (.long (own_bit lv)), .second, .val (.int (-2 : Int32)), .val (.int (1 : Int32))] [(.int (1 : Int32)), (.int (2 : Int32)), (.ref ka), (.int (1 : Int32)), (.ref ka)])) rfl (by rw [hml]; rfl) rfl (hb hby d3_67) (by decide) (W := 0) (by show 2 * 0 + _ ≤ _; exact Nat.le_of_eq rfl) (by decide)
      have V333 : Arv Z h333 ka kk .int (3 : Int32) [(.int k0), (.int k1), (.int k1)] (.int (0 : Int32)) := A333
      have E334 := H0_E.keep K333q
      have F335 := H1_F.keep K333q (ninS hn1 nin0)
      have F336 := H2_F.keep K333q (ninS hn1 nin0)
      have F337 := H3_F.keep K333q (ninS hn1 nin0)
      have F338 := H4_F.keep K333q (ninS hn1 nin0)
      have A339 := H6_A.keep K333q (ninS (Ne.symm hn3) nin0)
      have K333 : Keep h0 h333 [dd, ka, wa] := K0.trans K333q (allS (Or.inl (List.mem_of_getElem? (i := 1) rfl)) all0)
      have Zs340 : n0 ≤ h333.size := (Nat.le_trans Z0 K333q.1)
      obtain ⟨T341, X341, e341, st341⟩ := getF X333 hx hZ hown (host := "") (Or.inl (own_w hw 16 rfl)) Via.refl e333 F336 (g := (mkF m 71 #[.val (.ref dd), .val (.int lv), .val (.int (own_key lv)), .val (.long (own_bit lv)), .second, .val (.int (-2 : Int32)), .val (.int (1 : Int32))] [(.ref dd)])) rfl rfl (hb hby d3_71)
      obtain ⟨T342, X342, e342, st342⟩ := getF X341 hx hZ hown (host := "") (Or.inl (own_w hw 16 rfl)) Via.refl e341 F336 (g := (mkF m 77 #[.val (.ref dd), .val (.int lv), .val (.int (own_key lv)), .val (.long (own_bit lv)), .second, .val (.int (-2 : Int32)), .val (.int (1 : Int32))] [(.ref dd), (.int (1 : Int32)), (.ref wa)])) rfl rfl (hb hby d3_77)
      obtain ⟨T343, X343, e343, st343⟩ := getF X342 hx hZ hown (host := "") (Or.inl (own_w hw 23 rfl)) Via.refl e342 F337 (g := (mkF m 85 #[.val (.ref dd), .val (.int lv), .val (.int (own_key lv)), .val (.long (own_bit lv)), .second, .val (.int (-2 : Int32)), .val (.int (1 : Int32))] [(.ref dd), (.int (2 : Int32)), (.ref wa), (.int (1 : Int32)), (.ref wa)])) rfl rfl (hb hby d3_85)
      obtain ⟨T344, h344, L344, X344, e344, N344, K344q, A344, st344⟩ := cpA X343 hx hZ hown (own_w hw 57 rfl) (own_w hw 52 rfl) (own_w hw 50 rfl) (own_w hw 51 rfl) e343 A339 A339 (Or.inl ⟨rfl, rfl⟩) (by decide) (by decide) (by decide) (by decide) (by decide) (us := [(.long w1)]) rfl (Nat.le_of_ble_eq_true rfl) N333 hwa (g := (mkF m 91 #[.val (.ref dd), .val (.int lv), .val (.int (own_key lv)), .val (.long (own_bit lv)), .second, .val (.int (-2 : Int32)), .val (.int (1 : Int32))] [(.int (1 : Int32)), (.int (2 : Int32)), (.ref wa), (.int (1 : Int32)), (.ref wa)])) rfl (by rw [hml]; rfl) rfl (hb hby d3_91) (by decide) (W := 0) (by show 2 * 0 + _ ≤ _; exact Nat.le_of_eq rfl) (by decide)
      have V344 : Arv Z h344 wa kw .long (3 : Int32) [(.long w0), (.long w1), (.long w1)] (.long (0 : Int64)) := A344
      have E345 := E334.keep K344q
      have F346 := F335.keep K344q (ninS hn2 nin0)
      have F347 := F336.keep K344q (ninS hn2 nin0)
      have F348 := F337.keep K344q (ninS hn2 nin0)
      have F349 := F338.keep K344q (ninS hn2 nin0)
      have A350 := V333.keep K344q (ninS hn3 nin0)
      have K344 : Keep h0 h344 [dd, ka, wa] := K333.trans K344q (allS (Or.inl (List.mem_of_getElem? (i := 2) rfl)) all0)
      have Zs351 : n0 ≤ h344.size := (Nat.le_trans Zs340 K344q.1)
      obtain ⟨T352, X352, e352, st352⟩ := getF X344 hx hZ hown (host := "") (Or.inl (own_w hw 12 rfl)) Via.refl e344 F346 (g := (mkF m 95 #[.val (.ref dd), .val (.int lv), .val (.int (own_key lv)), .val (.long (own_bit lv)), .second, .val (.int (-2 : Int32)), .val (.int (1 : Int32))] [(.ref dd)])) rfl rfl (hb hby d3_95)
      have oc353 := A350
      obtain ⟨c353, Arc353, qc353, Sc353, Nc353, Hc353, Gc353⟩ := oc353
      have hin354 : ¬ ((1 : Int32) < 0 ∨ c353.slots.size ≤ ((1 : Int32)).toNatClampNeg) := (inb_of Sc353 ⟨by decide, by decide⟩)
      obtain ⟨T354, h354, X354, e354, W354, st354⟩ := stI X352 hx hZ e352 Arc353 (j := (1 : Int32)) hin354 (g := (mkF m 101 #[.val (.ref dd), .val (.int lv), .val (.int (own_key lv)), .val (.long (own_bit lv)), .second, .val (.int (-2 : Int32)), .val (.int (1 : Int32))] [(.int (own_key lv)), (.int (1 : Int32)), (.ref ka)])) rfl rfl (hb hby d3_101)
      have V354 : Arv Z h354 ka kk .int (3 : Int32) [(.int k0), (.int (own_key lv)), (.int k1)] (.int (0 : Int32)) := Arv.set Arc353 qc353 Sc353 Nc353 Hc353 Gc353 rfl W354 1 rfl (Nat.le_of_ble_eq_true rfl)
      have E355 := E345.wr W354
      have F356 := F346.other W354 (Or.inl hn1)
      have F357 := F347.other W354 (Or.inl hn1)
      have F358 := F348.other W354 (Or.inl hn1)
      have F359 := F349.other W354 (Or.inl hn1)
      have A360 := V344.other W354 (Ne.symm hn3)
      have N354 := Fr.snoc X354 N344 hka
      have K354 : Keep h0 h354 [dd, ka, wa] := K344.wr W354 (Or.inl (List.mem_of_getElem? (i := 1) rfl))
      have Zs361 : n0 ≤ h354.size := (Nat.le_trans Zs351 (Keep.of_wr W354).1)
      obtain ⟨T362, X362, e362, st362⟩ := getF X354 hx hZ hown (host := "") (Or.inl (own_w hw 16 rfl)) Via.refl e354 F357 (g := (mkF m 103 #[.val (.ref dd), .val (.int lv), .val (.int (own_key lv)), .val (.long (own_bit lv)), .second, .val (.int (-2 : Int32)), .val (.int (1 : Int32))] [(.ref dd)])) rfl rfl (hb hby d3_103)
      have oc363 := A360
      obtain ⟨c363, Arc363, qc363, Sc363, Nc363, Hc363, Gc363⟩ := oc363
      have hin364 : ¬ ((1 : Int32) < 0 ∨ c363.slots.size ≤ ((1 : Int32)).toNatClampNeg) := (inb_of Sc363 ⟨by decide, by decide⟩)
      obtain ⟨T364, h364, X364, e364, W364, st364⟩ := stJ X362 hx hZ e362 Arc363 (j := (1 : Int32)) hin364 (g := (mkF m 109 #[.val (.ref dd), .val (.int lv), .val (.int (own_key lv)), .val (.long (own_bit lv)), .second, .val (.int (-2 : Int32)), .val (.int (1 : Int32))] [(.long (own_bit lv)), (.int (1 : Int32)), (.ref wa)])) rfl rfl (hb hby d3_109)
      have V364 : Arv Z h364 wa kw .long (3 : Int32) [(.long w0), (.long (own_bit lv)), (.long w1)] (.long (0 : Int64)) := Arv.set Arc363 qc363 Sc363 Nc363 Hc363 Gc363 rfl W364 1 rfl (Nat.le_of_ble_eq_true rfl)
      have E365 := E355.wr W364
      have F366 := F356.other W364 (Or.inl hn2)
      have F367 := F357.other W364 (Or.inl hn2)
      have F368 := F358.other W364 (Or.inl hn2)
      have F369 := F359.other W364 (Or.inl hn2)
      have A370 := V354.other W364 hn3
      have N364 := Fr.snoc X364 N354 hwa
      have K364 : Keep h0 h364 [dd, ka, wa] := K354.wr W364 (Or.inl (List.mem_of_getElem? (i := 2) rfl))
      have Zs371 : n0 ≤ h364.size := (Nat.le_trans Zs361 (Keep.of_wr W364).1)
      obtain ⟨T372, X372, e372, st372⟩ := getF X364 hx hZ hown (host := "") (Or.inl (own_w hw 23 rfl)) Via.refl e364 F368 (g := (mkF m 112 #[.val (.ref dd), .val (.int lv), .val (.int (own_key lv)), .val (.long (own_bit lv)), .second, .val (.int (-2 : Int32)), .val (.int (1 : Int32))] [(.ref dd), (.ref dd)])) rfl rfl (hb hby d3_112)
      obtain ⟨T373, h373, X373, e373, W373, st373⟩ := putF X372 hx hZ hown (host := "") (Or.inl (own_w hw 23 rfl)) Via.refl e372 F368 E365 (Or.inl (own_w hw 24 rfl)) (own_w hw 2 rfl) (ty := .int) (by decide) rfl rfl (g := (mkF m 117 #[.val (.ref dd), .val (.int lv), .val (.int (own_key lv)), .val (.long (own_bit lv)), .second, .val (.int (-2 : Int32)), .val (.int (1 : Int32))] [(.int (3 : Int32)), (.ref dd)])) rfl rfl (hb hby d3_117)
      have Fw373 : Fld Z h373 dd "org/tallyrole/core/Dependencies" "size" "I" (.int (3 : Int32)) := F368.same W373
      have E374 := E365.wr W373
      have F375 := F366.other W373 (Or.inr (slot_ne (Or.inl (own_w hw 13 rfl)) (Or.inl (own_w hw 24 rfl)) (by decide) (t := (.array .int)) (t' := .int) (by decide) (by decide)))
      have F376 := F367.other W373 (Or.inr (slot_ne (Or.inl (own_w hw 17 rfl)) (Or.inl (own_w hw 24 rfl)) (by decide) (t := (.array .long)) (t' := .int) (by decide) (by decide)))
      have F377 := F369.other W373 (Or.inr (slot_ne (Or.inl (own_w hw 40 rfl)) (Or.inl (own_w hw 24 rfl)) (by decide) (t := .boolean) (t' := .int) (by decide) (by decide)))
      have A378 := A370.other W373 (Ne.symm hn1)
      have A379 := V364.other W373 (Ne.symm hn2)
      have N373 := Fr.snoc X373 N364 hdd
      have K373 : Keep h0 h373 [dd, ka, wa] := K364.wr W373 (Or.inl (List.mem_of_getElem? (i := 0) rfl))
      have Zs380 : n0 ≤ h373.size := (Nat.le_trans Zs371 (Keep.of_wr W373).1)
      have pre381 := fun (t : State) (k : Steps p.tables e below (T373.setTop (mkF m 156 #[.val (.ref dd), .val (.int lv), .val (.int (own_key lv)), .val (.long (own_bit lv)), .second, .val (.int (-2 : Int32)), .val (.int (1 : Int32))] [])) t) => pre271 t (by
        refine XS.istore X255.here hx rfl (hb hby d3_22) rfl (l' := #[.val (.ref dd), .val (.int lv), .val (.int (own_key lv)), .val (.long (own_bit lv)), .second, .val (.int (-2 : Int32)), .unset]) rfl ?_
        refine XS.iload X255.here hx rfl (hb hby d3_24) rfl ?_
        refine XS.ifNo X255.here hx rfl (hb hby d3_26) rfl ((if0 _ _).trans (tlt (by decide : (-2 : Int32) < (0 : Int32))).2.1) ?_
        refine XS.iload X255.here hx rfl (hb hby d3_29) rfl ?_
        refine XS.ineg X255.here hx rfl (hb hby d3_31) rfl ?_
        refine XS.iconst X255.here hx rfl (hb hby d3_32) ?_
        refine XS.isub X255.here hx rfl (hb hby d3_33) rfl ?_
        refine XS.istore X255.here hx rfl (hb hby d3_34) rfl (l' := #[.val (.ref dd), .val (.int lv), .val (.int (own_key lv)), .val (.long (own_bit lv)), .second, .val (.int (-2 : Int32)), .val (.int (1 : Int32))]) rfl ?_
        refine XS.aloadN X255.here hx rfl (hb hby d3_36) rfl rfl ?_
        refine XS.aloadN X255.here hx rfl (hb hby d3_37) rfl rfl ?_
        refine st327 _ ?_
        refine XS.iconst X327.here hx rfl (hb hby d3_41) ?_
        refine XS.iadd X327.here hx rfl (hb hby d3_42) rfl ?_
        refine st328.trans ?_
        refine XS.aloadN X328.here hx rfl (hb hby d3_46) rfl rfl ?_
        refine st330 _ ?_
        refine XS.iload X330.here hx rfl (hb hby d3_50) rfl ?_
        refine XS.aloadN X330.here hx rfl (hb hby d3_52) rfl rfl ?_
        refine st331 _ ?_
        refine XS.iload X331.here hx rfl (hb hby d3_56) rfl ?_
        refine XS.iconst X331.here hx rfl (hb hby d3_58) ?_
        refine XS.iadd X331.here hx rfl (hb hby d3_59) rfl ?_
        refine XS.aloadN X331.here hx rfl (hb hby d3_60) rfl rfl ?_
        refine st332 _ ?_
        refine XS.iload X332.here hx rfl (hb hby d3_64) rfl ?_
        refine XS.isub X332.here hx rfl (hb hby d3_66) rfl ?_
        refine st333 _ ?_
        refine XS.aloadN X333.here hx rfl (hb hby d3_70) rfl rfl ?_
        refine st341 _ ?_
        refine XS.iload X341.here hx rfl (hb hby d3_74) rfl ?_
        refine XS.aloadN X341.here hx rfl (hb hby d3_76) rfl rfl ?_
        refine st342 _ ?_
        refine XS.iload X342.here hx rfl (hb hby d3_80) rfl ?_
        refine XS.iconst X342.here hx rfl (hb hby d3_82) ?_
        refine XS.iadd X342.here hx rfl (hb hby d3_83) rfl ?_
        refine XS.aloadN X342.here hx rfl (hb hby d3_84) rfl rfl ?_
        refine st343 _ ?_
        refine XS.iload X343.here hx rfl (hb hby d3_88) rfl ?_
        refine XS.isub X343.here hx rfl (hb hby d3_90) rfl ?_
        refine st344 _ ?_
        refine XS.aloadN X344.here hx rfl (hb hby d3_94) rfl rfl ?_
        refine st352 _ ?_
        refine XS.iload X352.here hx rfl (hb hby d3_98) rfl ?_
        refine XS.iloadN X352.here hx rfl (hb hby d3_100) rfl ?_
        refine st354 _ ?_
        refine XS.aloadN X354.here hx rfl (hb hby d3_102) rfl rfl ?_
        refine st362 _ ?_
        refine XS.iload X362.here hx rfl (hb hby d3_106) rfl ?_
        refine XS.lloadN X362.here hx rfl (hb hby d3_108) rfl ?_
        refine st364 _ ?_
        refine XS.aloadN X364.here hx rfl (hb hby d3_110) rfl rfl ?_
        refine XS.dup X364.here hx rfl (hb hby d3_111) rfl rfl ?_
        refine st372 _ ?_
        refine XS.iconst X372.here hx rfl (hb hby d3_115) ?_
        refine XS.iadd X372.here hx rfl (hb hby d3_116) rfl ?_
        refine st373 _ ?_
        refine XS.goto X373.here hx rfl (pc0 := 120) (pc' := 156) rfl (hb hby d3_120) (by decide) (by decide) ?_
        exact k)
      obtain ⟨fs, hr, hrun, hended, hW, hsame⟩ := X373.leave (v := none) (hlocks := BodyLoose.notSynchronized Bd) (fun _ => rfl)
      refine ⟨_, _, pre381 _ ?_, hrun, hended, _, _, rfl, ?_, ⟨_, rfl⟩, hW, hsame.mono (by decide) (by decide)⟩
      · exact X373.returnOut hx Bd.returns (hb hby d3_156) hr
      · show Q_ad Z dd ka wa kk kw (3 : Int32) (2 : Int32) [(.int k0), (.int k1), (.int g2)] [(.long w0), (.long w1), (.long q2)] SS lv h0 n0 _ T373.heap _
        rw [e373]
        exact ⟨ka, wa, kk, kw, (3 : Int32), (3 : Int32), [(.int k0), (.int (own_key lv)), (.int k1)], [(.long w0), (.long (own_bit lv)), (.long w1)], rfl, N373, K373, hka, hwa, (Or.inl rfl), (Or.inl rfl), hn1, hn2, hn3, (Or.inr (Or.inr ⟨_, _, _, _, _, _, rfl, rfl, rfl, rfl, (own_r_ins (A := [(k0, w0)]) (B := [(k1, w1)]) hrr hlv (List.forall_mem_cons.mpr ⟨hb261, (List.forall_mem_nil _)⟩) (List.forall_mem_cons.mpr ⟨hb263, (List.forall_mem_nil _)⟩))⟩)), (fun q => absurd q (by decide)), E374, F375, F376, Fw373, F377, A378, A379⟩
    · obtain ⟨T382, X382, e382, st382⟩ := getF X255 hx hZ hown (host := "") (Or.inl (own_w hw 16 rfl)) Via.refl hq257 H2_F (g := (mkF m 124 #[.val (.ref dd), .val (.int lv), .val (.int (own_key lv)), .val (.long (own_bit lv)), .second, .val (.int (1 : Int32)), .unset] [(.ref dd)])) rfl rfl (hb hby d3_124)
      have oc383 := H6_A
      obtain ⟨c383, Arc383, qc383, Sc383, Nc383, Hc383, Gc383⟩ := oc383
      have hin384 : ¬ ((1 : Int32) < 0 ∨ c383.slots.size ≤ ((1 : Int32)).toNatClampNeg) := (inb_of Sc383 ⟨by decide, by decide⟩)
      have pre385 := fun (t : State) (k : Steps p.tables e below (T382.setTop (mkF m 134 #[.val (.ref dd), .val (.int lv), .val (.int (own_key lv)), .val (.long (own_bit lv)), .second, .val (.int (1 : Int32)), .unset] [(.int (lcmpW (w1 &&& (own_bit lv)) (0 : Int64)))])) t) => pre271 t (by
        refine XS.istore X255.here hx rfl (hb hby d3_22) rfl (l' := #[.val (.ref dd), .val (.int lv), .val (.int (own_key lv)), .val (.long (own_bit lv)), .second, .val (.int (1 : Int32)), .unset]) rfl ?_
        refine XS.iload X255.here hx rfl (hb hby d3_24) rfl ?_
        refine XS.ifYes X255.here hx rfl (pc0 := 26) (pc' := 123) rfl (hb hby d3_26) rfl ((if0 _ _).trans (flt (by decide : ¬ ((1 : Int32) < (0 : Int32)))).2.1) (by decide) (by decide) ?_
        refine XS.aloadN X255.here hx rfl (hb hby d3_123) rfl rfl ?_
        refine st382 _ ?_
        refine XS.iload X382.here hx rfl (hb hby d3_127) rfl ?_
        refine X382.laload hx (j := (1 : Int32)) (v := (.long w1)) (by rw [e382]; exact Arc383.1) (State.isArrayOf_alike hZ.alike Arc383.2.1) Arc383.2.2 hin384 (Has.at Hc383 hin384 rfl) (g := (mkF m 129 #[.val (.ref dd), .val (.int lv), .val (.int (own_key lv)), .val (.long (own_bit lv)), .second, .val (.int (1 : Int32)), .unset] [(.int (1 : Int32)), (.ref wa)])) rfl rfl (hb hby d3_129) _ ?_
        refine XS.lloadN X382.here hx rfl (hb hby d3_130) rfl ?_
        refine XS.land X382.here hx rfl (hb hby d3_131) rfl ?_
        refine XS.lconst X382.here hx rfl (hb hby d3_132) ?_
        refine XS.lcmp X382.here hx rfl (hb hby d3_133) rfl ?_
        exact k)
      by_cases hc386 : (lcmpW (w1 &&& (own_bit lv)) (0 : Int64)) = (0 : Int32)
      · obtain ⟨T387, X387, e387, st387⟩ := getF X382 hx hZ hown (host := "") (Or.inl (own_w hw 23 rfl)) Via.refl e382 H3_F (g := (mkF m 139 #[.val (.ref dd), .val (.int lv), .val (.int (own_key lv)), .val (.long (own_bit lv)), .second, .val (.int (1 : Int32)), .unset] [(.ref dd), (.ref dd)])) rfl rfl (hb hby d3_139)
        obtain ⟨cq388, q388, q388'⟩ := H0_E.cell
        obtain ⟨_, _, ⟨T388, L388, k388, n388⟩, -, X388, ⟨Lc388, hQ388, l388, y388, z388⟩, st388⟩ := X387.privateBack hx (y := (⟨"org/tallyrole/core/Dependencies", "reserve", "(I)V"⟩ : MethodName)) hown (mvT hZ (own_w hw 35 rfl)) (mvT hZ (own_w hw 36 rfl)) (own_sel_priv (z := (⟨"org/tallyrole/core/Dependencies", "add", "(I)V"⟩ : MethodName)) (mvT hZ (own_w hw 21 rfl)) rfl (mvP hZ (own_w hw 37 rfl)) (mvT hZ (own_w hw 36 rfl)) (by decide)) (Cond.privateMethod_at (mvP hZ (own_w hw 37 rfl) (args := #[]))) (mvT hZ (own_w hw 38 rfl)) (by decide) (backOf (W := 0) (rm_rvN l Z a0 hw [] dd ka kk (3 : Int32) [(.int k0), (.int k1), (.int g2)] (2 : Int32) h0 n0 Z0 H0_E H1_F H4_F H5_A (by decide)) hZ (own_w hw 38 rfl) (own_w hw 3 rfl) (by decide) (by decide)) (g := (mkF m 142 #[.val (.ref dd), .val (.int lv), .val (.int (own_key lv)), .val (.long (own_bit lv)), .second, .val (.int (1 : Int32)), .unset] [(.int (2 : Int32)), (.ref dd)])) rfl (by rw [hml]; rfl) (Steps.refl _) (a := dd) (by rw [e387]; exact q388) q388' (argsL := [(.int (2 : Int32))]) (rest := []) (lenOf pd_7 rfl) rfl (by show 2 * 0 + _ ≤ _; exact Nat.le_of_eq rfl) (hb hby d3_142) (fun _ _ => ⟨rfl, e387, (by decide : 0 + 0 ≤ _), (by decide : 0 + 0 ≤ _)⟩)
        dsimp only [Pt.U, Pt.locs, Pt.cells, Pt.slots] at X388 l388 y388 z388 st388 hQ388
        subst l388 y388 z388
        obtain ⟨rfl, N388q, hq389⟩ := hQ388
        have N388 := Fr.app N255 N388q
        obtain ⟨T390, X390, e390, st390⟩ := getF X388 hx hZ hown (host := "") (Or.inl (own_w hw 16 rfl)) Via.refl hq389 H2_F (g := (mkF m 146 #[.val (.ref dd), .val (.int lv), .val (.int (own_key lv)), .val (.long (own_bit lv)), .second, .val (.int (1 : Int32)), .unset] [(.ref dd)])) rfl rfl (hb hby d3_146)
        have oc391 := H6_A
        obtain ⟨c391, Arc391, qc391, Sc391, Nc391, Hc391, Gc391⟩ := oc391
        have hin392 : ¬ ((1 : Int32) < 0 ∨ c391.slots.size ≤ ((1 : Int32)).toNatClampNeg) := (inb_of Sc391 ⟨by decide, by decide⟩)
        have oc393 := H6_A
        obtain ⟨c393, Arc393, qc393, Sc393, Nc393, Hc393, Gc393⟩ := oc393
        have hin394 : ¬ ((1 : Int32) < 0 ∨ c393.slots.size ≤ ((1 : Int32)).toNatClampNeg) := (inb_of Sc393 ⟨by decide, by decide⟩)
        obtain ⟨T394, h394, X394, e394, W394, st394⟩ := stJ X390 hx hZ e390 Arc393 (j := (1 : Int32)) hin394 (g := (mkF m 155 #[.val (.ref dd), .val (.int lv), .val (.int (own_key lv)), .val (.long (own_bit lv)), .second, .val (.int (1 : Int32)), .unset] [(.long (w1 ||| (own_bit lv))), (.int (1 : Int32)), (.ref wa)])) rfl rfl (hb hby d3_155)
        have V394 : Arv Z h394 wa kw .long (3 : Int32) [(.long w0), (.long (w1 ||| (own_bit lv))), (.long q2)] (.long (0 : Int64)) := Arv.set Arc393 qc393 Sc393 Nc393 Hc393 Gc393 rfl W394 1 rfl (Nat.le_of_ble_eq_true rfl)
        have E395 := H0_E.wr W394
        have F396 := H1_F.other W394 (Or.inl hn2)
        have F397 := H2_F.other W394 (Or.inl hn2)
        have F398 := H3_F.other W394 (Or.inl hn2)
        have F399 := H4_F.other W394 (Or.inl hn2)
        have A400 := H5_A.other W394 hn3
        have N394 := Fr.snoc X394 N388 hwa
        have K394 : Keep h0 h394 [dd, ka, wa] := K0.wr W394 (Or.inl (List.mem_of_getElem? (i := 2) rfl))
        have Zs401 : n0 ≤ h394.size := (Nat.le_trans Z0 (Keep.of_wr W394).1)
        have pre402 := fun (t : State) (k : Steps p.tables e below (T394.setTop (mkF m 156 #[.val (.ref dd), .val (.int lv), .val (.int (own_key lv)), .val (.long (own_bit lv)), .second, .val (.int (1 : Int32)), .unset] [])) t) => pre385 t (by
          refine XS.ifNo X382.here hx rfl (hb hby d3_134) rfl ((if0 _ _).trans (teq hc386).2) ?_
          refine XS.aloadN X382.here hx rfl (hb hby d3_137) rfl rfl ?_
          refine XS.aloadN X382.here hx rfl (hb hby d3_138) rfl rfl ?_
          refine st387 _ ?_
          refine st388.trans ?_
          refine XS.aloadN X388.here hx rfl (hb hby d3_145) rfl rfl ?_
          refine st390 _ ?_
          refine XS.iload X390.here hx rfl (hb hby d3_149) rfl ?_
          jvm_step X390.here [X390.here.top, hx, (hb hby d3_151), Value.category]
          refine X390.laload hx (j := (1 : Int32)) (v := (.long w1)) (by rw [e390]; exact Arc391.1) (State.isArrayOf_alike hZ.alike Arc391.2.1) Arc391.2.2 hin392 (Has.at Hc391 hin392 rfl) (g := (mkF m 152 #[.val (.ref dd), .val (.int lv), .val (.int (own_key lv)), .val (.long (own_bit lv)), .second, .val (.int (1 : Int32)), .unset] [(.int (1 : Int32)), (.ref wa), (.int (1 : Int32)), (.ref wa)])) rfl rfl (hb hby d3_152) _ ?_
          refine XS.lloadN X390.here hx rfl (hb hby d3_153) rfl ?_
          refine XS.lor X390.here hx rfl (hb hby d3_154) rfl ?_
          refine st394 _ ?_
          exact k)
        obtain ⟨fs, hr, hrun, hended, hW, hsame⟩ := X394.leave (v := none) (hlocks := BodyLoose.notSynchronized Bd) (fun _ => rfl)
        refine ⟨_, _, pre402 _ ?_, hrun, hended, _, _, rfl, ?_, ⟨_, rfl⟩, hW, hsame.mono (by decide) (by decide)⟩
        · exact X394.returnOut hx Bd.returns (hb hby d3_156) hr
        · show Q_ad Z dd ka wa kk kw (3 : Int32) (2 : Int32) [(.int k0), (.int k1), (.int g2)] [(.long w0), (.long w1), (.long q2)] SS lv h0 n0 _ T394.heap _
          rw [e394]
          exact ⟨ka, wa, kk, kw, (3 : Int32), (2 : Int32), [(.int k0), (.int k1), (.int g2)], [(.long w0), (.long (w1 ||| (own_bit lv))), (.long q2)], rfl, N394, K394, hka, hwa, (Or.inl rfl), (Or.inl rfl), hn1, hn2, hn3, (Or.inr (Or.inl ⟨_, _, _, _, _, _, rfl, rfl, rfl, rfl, (own_r_or (A := [(k0, w0)]) (B := []) hrr (own_eq_of hb265 hb266))⟩)), (fun q => absurd q (by decide)), E395, F396, F397, F398, F399, A400, V394⟩
      · have pre403 := fun (t : State) (k : Steps p.tables e below (T382.setTop (mkF m 156 #[.val (.ref dd), .val (.int lv), .val (.int (own_key lv)), .val (.long (own_bit lv)), .second, .val (.int (1 : Int32)), .unset] [])) t) => pre385 t (by
          refine XS.ifYes X382.here hx rfl (pc0 := 134) (pc' := 156) rfl (hb hby d3_134) rfl ((if0 _ _).trans (feq hc386).2) (by decide) (by decide) ?_
          exact k)
        obtain ⟨fs, hr, hrun, hended, hW, hsame⟩ := X382.leave (v := none) (hlocks := BodyLoose.notSynchronized Bd) (fun _ => rfl)
        refine ⟨_, _, pre403 _ ?_, hrun, hended, _, _, rfl, ?_, ⟨_, rfl⟩, hW, hsame.mono (by decide) (by decide)⟩
        · exact X382.returnOut hx Bd.returns (hb hby d3_156) hr
        · show Q_ad Z dd ka wa kk kw (3 : Int32) (2 : Int32) [(.int k0), (.int k1), (.int g2)] [(.long w0), (.long w1), (.long q2)] SS lv h0 n0 _ T382.heap _
          rw [e382]
          exact ⟨ka, wa, kk, kw, (3 : Int32), (2 : Int32), [(.int k0), (.int k1), (.int g2)], [(.long w0), (.long w1), (.long q2)], rfl, N255, K0, hka, hwa, (Or.inl rfl), (Or.inl rfl), hn1, hn2, hn3, (Or.inr (Or.inl ⟨_, _, _, _, _, _, rfl, rfl, rfl, rfl, (own_r_had (A := [(k0, w0)]) (B := []) hrr (own_eq_of hb265 hb266) (fun q => hc386 ((lw_eq _ _).mpr q)))⟩)), (fun q => absurd q (by decide)), H0_E, H1_F, H2_F, H3_F, H4_F, H5_A, H6_A⟩
    · obtain ⟨T404, X404, e404, st404⟩ := getF X255 hx hZ hown (host := "") (Or.inl (own_w hw 23 rfl)) Via.refl hq257 H3_F (g := (mkF m 38 #[.val (.ref dd), .val (.int lv), .val (.int (own_key lv)), .val (.long (own_bit lv)), .second, .val (.int (-1 : Int32)), .val (.int (0 : Int32))] [(.ref dd), (.ref dd)])) rfl rfl (hb hby d3_38)
      obtain ⟨cq405, q405, q405'⟩ := H0_E.cell
      obtain ⟨_, _, ⟨T405, L405, k405, n405⟩, -, X405, ⟨Lc405, hQ405, l405, y405, z405⟩, st405⟩ := X404.privateBack hx (y := (⟨"org/tallyrole/core/Dependencies", "reserve", "(I)V"⟩ : MethodName)) hown (mvT hZ (own_w hw 35 rfl)) (mvT hZ (own_w hw 36 rfl)) (own_sel_priv (z := (⟨"org/tallyrole/core/Dependencies", "add", "(I)V"⟩ : MethodName)) (mvT hZ (own_w hw 21 rfl)) rfl (mvP hZ (own_w hw 37 rfl)) (mvT hZ (own_w hw 36 rfl)) (by decide)) (Cond.privateMethod_at (mvP hZ (own_w hw 37 rfl) (args := #[]))) (mvT hZ (own_w hw 38 rfl)) (by decide) (backOf (W := 0) (rm_rvN l Z a0 hw [] dd ka kk (3 : Int32) [(.int k0), (.int k1), (.int g2)] (3 : Int32) h0 n0 Z0 H0_E H1_F H4_F H5_A (by decide)) hZ (own_w hw 38 rfl) (own_w hw 3 rfl) (by decide) (by decide)) (g := (mkF m 43 #[.val (.ref dd), .val (.int lv), .val (.int (own_key lv)), .val (.long (own_bit lv)), .second, .val (.int (-1 : Int32)), .val (.int (0 : Int32))] [(.int (3 : Int32)), (.ref dd)])) rfl (by rw [hml]; rfl) (Steps.refl _) (a := dd) (by rw [e404]; exact q405) q405' (argsL := [(.int (3 : Int32))]) (rest := []) (lenOf pd_7 rfl) rfl (by show 2 * 0 + _ ≤ _; exact Nat.le_of_eq rfl) (hb hby d3_43) (fun _ _ => ⟨rfl, e404, (by decide : 0 + 0 ≤ _), (by decide : 0 + 0 ≤ _)⟩)
      dsimp only [Pt.U, Pt.locs, Pt.cells, Pt.slots] at X405 l405 y405 z405 st405 hQ405
      subst l405 y405 z405
      obtain ⟨rfl, N405q, hq406⟩ := hQ405
      have N405 := Fr.app N255 N405q
      obtain ⟨T407, X407, e407, st407⟩ := getF X405 hx hZ hown (host := "") (Or.inl (own_w hw 12 rfl)) Via.refl hq406 H1_F (g := (mkF m 47 #[.val (.ref dd), .val (.int lv), .val (.int (own_key lv)), .val (.long (own_bit lv)), .second, .val (.int (-1 : Int32)), .val (.int (0 : Int32))] [(.ref dd)])) rfl rfl (hb hby d3_47)
      obtain ⟨T408, X408, e408, st408⟩ := getF X407 hx hZ hown (host := "") (Or.inl (own_w hw 12 rfl)) Via.refl e407 H1_F (g := (mkF m 53 #[.val (.ref dd), .val (.int lv), .val (.int (own_key lv)), .val (.long (own_bit lv)), .second, .val (.int (-1 : Int32)), .val (.int (0 : Int32))] [(.ref dd), (.int (0 : Int32)), (.ref ka)])) rfl rfl (hb hby d3_53)
      obtain ⟨T409, X409, e409, st409⟩ := getF X408 hx hZ hown (host := "") (Or.inl (own_w hw 23 rfl)) Via.refl e408 H3_F (g := (mkF m 61 #[.val (.ref dd), .val (.int lv), .val (.int (own_key lv)), .val (.long (own_bit lv)), .second, .val (.int (-1 : Int32)), .val (.int (0 : Int32))] [(.ref dd), (.int (1 : Int32)), (.ref ka), (.int (0 : Int32)), (.ref ka)])) rfl rfl (hb hby d3_61)
      obtain ⟨T410, h410, L410, X410, e410, N410, K410q, A410, st410⟩ := cpA X409 hx hZ hown (own_w hw 57 rfl) (own_w hw 52 rfl) (own_w hw 50 rfl) (own_w hw 51 rfl) e409 H5_A H5_A (Or.inl ⟨rfl, rfl⟩) (by decide) (by decide) (by decide) (by decide) (by decide) (us := [(.int k0), (.int k1)]) rfl (Nat.le_of_ble_eq_true rfl) N405 hka (g := (mkF m 67 #[.val (.ref dd), .val (.int lv), .val (.int (own_key lv)), .val (.long (own_bit lv)), .second, .val (.int (-1 : Int32)), .val (.int (0 : Int32))] [(.int (2 : Int32)), (.int (1 : Int32)), (.ref ka), (.int (0 : Int32)), (.ref ka)])) rfl (by rw [hml]; rfl) rfl (hb hby d3_67) (by decide) (W := 0) (by show 2 * 0 + _ ≤ _; exact Nat.le_of_eq rfl) (by decide)
      have V410 : Arv Z h410 ka kk .int (3 : Int32) [(.int k0), (.int k0), (.int k1)] (.int (0 : Int32)) := A410
      have E411 := H0_E.keep K410q
      have F412 := H1_F.keep K410q (ninS hn1 nin0)
      have F413 := H2_F.keep K410q (ninS hn1 nin0)
      have F414 := H3_F.keep K410q (ninS hn1 nin0)
      have F415 := H4_F.keep K410q (ninS hn1 nin0)
      have A416 := H6_A.keep K410q (ninS (Ne.symm hn3) nin0)
      have K410 : Keep h0 h410 [dd, ka, wa] := K0.trans K410q (allS (Or.inl (List.mem_of_getElem? (i := 1) rfl)) all0)
      have Zs417 : n0 ≤ h410.size := (Nat.le_trans Z0 K410q.1)
      obtain ⟨T418, X418, e418, st418⟩ := getF X410 hx hZ hown (host := "") (Or.inl (own_w hw 16 rfl)) Via.refl e410 F413 (g := (mkF m 71 #[.val (.ref dd), .val (.int lv), .val (.int (own_key lv)), .val (.long (own_bit lv)), .second, .val (.int (-1 : Int32)), .val (.int (0 : Int32))] [(.ref dd)])) rfl rfl (hb hby d3_71)
      obtain ⟨T419, X419, e419, st419⟩ := getF X418 hx hZ hown (host := "") (Or.inl (own_w hw 16 rfl)) Via.refl e418 F413 (g := (mkF m 77 #[.val (.ref dd), .val (.int lv), .val (.int (own_key lv)), .val (.long (own_bit lv)), .second, .val (.int (-1 : Int32)), .val (.int (0 : Int32))] [(.ref dd), (.int (0 : Int32)), (.ref wa)])) rfl rfl (hb hby d3_77)
      obtain ⟨T420, X420, e420, st420⟩ := getF X419 hx hZ hown (host := "") (Or.inl (own_w hw 23 rfl)) Via.refl e419 F414 (g := (mkF m 85 #[.val (.ref dd), .val (.int lv), .val (.int (own_key lv)), .val (.long (own_bit lv)), .second, .val (.int (-1 : Int32)), .val (.int (0 : Int32))] [(.ref dd), (.int (1 : Int32)), (.ref wa), (.int (0 : Int32)), (.ref wa)])) rfl rfl (hb hby d3_85)
      obtain ⟨T421, h421, L421, X421, e421, N421, K421q, A421, st421⟩ := cpA X420 hx hZ hown (own_w hw 57 rfl) (own_w hw 52 rfl) (own_w hw 50 rfl) (own_w hw 51 rfl) e420 A416 A416 (Or.inl ⟨rfl, rfl⟩) (by decide) (by decide) (by decide) (by decide) (by decide) (us := [(.long w0), (.long w1)]) rfl (Nat.le_of_ble_eq_true rfl) N410 hwa (g := (mkF m 91 #[.val (.ref dd), .val (.int lv), .val (.int (own_key lv)), .val (.long (own_bit lv)), .second, .val (.int (-1 : Int32)), .val (.int (0 : Int32))] [(.int (2 : Int32)), (.int (1 : Int32)), (.ref wa), (.int (0 : Int32)), (.ref wa)])) rfl (by rw [hml]; rfl) rfl (hb hby d3_91) (by decide) (W := 0) (by show 2 * 0 + _ ≤ _; exact Nat.le_of_eq rfl) (by decide)
      have V421 : Arv Z h421 wa kw .long (3 : Int32) [(.long w0), (.long w0), (.long w1)] (.long (0 : Int64)) := A421
      have E422 := E411.keep K421q
      have F423 := F412.keep K421q (ninS hn2 nin0)
      have F424 := F413.keep K421q (ninS hn2 nin0)
      have F425 := F414.keep K421q (ninS hn2 nin0)
      have F426 := F415.keep K421q (ninS hn2 nin0)
      have A427 := V410.keep K421q (ninS hn3 nin0)
      have K421 : Keep h0 h421 [dd, ka, wa] := K410.trans K421q (allS (Or.inl (List.mem_of_getElem? (i := 2) rfl)) all0)
      have Zs428 : n0 ≤ h421.size := (Nat.le_trans Zs417 K421q.1)
      obtain ⟨T429, X429, e429, st429⟩ := getF X421 hx hZ hown (host := "") (Or.inl (own_w hw 12 rfl)) Via.refl e421 F423 (g := (mkF m 95 #[.val (.ref dd), .val (.int lv), .val (.int (own_key lv)), .val (.long (own_bit lv)), .second, .val (.int (-1 : Int32)), .val (.int (0 : Int32))] [(.ref dd)])) rfl rfl (hb hby d3_95)
      have oc430 := A427
      obtain ⟨c430, Arc430, qc430, Sc430, Nc430, Hc430, Gc430⟩ := oc430
      have hin431 : ¬ ((0 : Int32) < 0 ∨ c430.slots.size ≤ ((0 : Int32)).toNatClampNeg) := (inb_of Sc430 ⟨by decide, by decide⟩)
      obtain ⟨T431, h431, X431, e431, W431, st431⟩ := stI X429 hx hZ e429 Arc430 (j := (0 : Int32)) hin431 (g := (mkF m 101 #[.val (.ref dd), .val (.int lv), .val (.int (own_key lv)), .val (.long (own_bit lv)), .second, .val (.int (-1 : Int32)), .val (.int (0 : Int32))] [(.int (own_key lv)), (.int (0 : Int32)), (.ref ka)])) rfl rfl (hb hby d3_101)
      have V431 : Arv Z h431 ka kk .int (3 : Int32) [(.int (own_key lv)), (.int k0), (.int k1)] (.int (0 : Int32)) := Arv.set Arc430 qc430 Sc430 Nc430 Hc430 Gc430 rfl W431 0 rfl (Nat.le_of_ble_eq_true rfl)
      have E432 := E422.wr W431
      have F433 := F423.other W431 (Or.inl hn1)
      have F434 := F424.other W431 (Or.inl hn1)
      have F435 := F425.other W431 (Or.inl hn1)
      have F436 := F426.other W431 (Or.inl hn1)
      have A437 := V421.other W431 (Ne.symm hn3)
      have N431 := Fr.snoc X431 N421 hka
      have K431 : Keep h0 h431 [dd, ka, wa] := K421.wr W431 (Or.inl (List.mem_of_getElem? (i := 1) rfl))
      have Zs438 : n0 ≤ h431.size := (Nat.le_trans Zs428 (Keep.of_wr W431).1)
      obtain ⟨T439, X439, e439, st439⟩ := getF X431 hx hZ hown (host := "") (Or.inl (own_w hw 16 rfl)) Via.refl e431 F434 (g := (mkF m 103 #[.val (.ref dd), .val (.int lv), .val (.int (own_key lv)), .val (.long (own_bit lv)), .second, .val (.int (-1 : Int32)), .val (.int (0 : Int32))] [(.ref dd)])) rfl rfl (hb hby d3_103)
      have oc440 := A437
      obtain ⟨c440, Arc440, qc440, Sc440, Nc440, Hc440, Gc440⟩ := oc440
      have hin441 : ¬ ((0 : Int32) < 0 ∨ c440.slots.size ≤ ((0 : Int32)).toNatClampNeg) := (inb_of Sc440 ⟨by decide, by decide⟩)
      obtain ⟨T441, h441, X441, e441, W441, st441⟩ := stJ X439 hx hZ e439 Arc440 (j := (0 : Int32)) hin441 (g := (mkF m 109 #[.val (.ref dd), .val (.int lv), .val (.int (own_key lv)), .val (.long (own_bit lv)), .second, .val (.int (-1 : Int32)), .val (.int (0 : Int32))] [(.long (own_bit lv)), (.int (0 : Int32)), (.ref wa)])) rfl rfl (hb hby d3_109)
      have V441 : Arv Z h441 wa kw .long (3 : Int32) [(.long (own_bit lv)), (.long w0), (.long w1)] (.long (0 : Int64)) := Arv.set Arc440 qc440 Sc440 Nc440 Hc440 Gc440 rfl W441 0 rfl (Nat.le_of_ble_eq_true rfl)
      have E442 := E432.wr W441
      have F443 := F433.other W441 (Or.inl hn2)
      have F444 := F434.other W441 (Or.inl hn2)
      have F445 := F435.other W441 (Or.inl hn2)
      have F446 := F436.other W441 (Or.inl hn2)
      have A447 := V431.other W441 hn3
      have N441 := Fr.snoc X441 N431 hwa
      have K441 : Keep h0 h441 [dd, ka, wa] := K431.wr W441 (Or.inl (List.mem_of_getElem? (i := 2) rfl))
      have Zs448 : n0 ≤ h441.size := (Nat.le_trans Zs438 (Keep.of_wr W441).1)
      obtain ⟨T449, X449, e449, st449⟩ := getF X441 hx hZ hown (host := "") (Or.inl (own_w hw 23 rfl)) Via.refl e441 F445 (g := (mkF m 112 #[.val (.ref dd), .val (.int lv), .val (.int (own_key lv)), .val (.long (own_bit lv)), .second, .val (.int (-1 : Int32)), .val (.int (0 : Int32))] [(.ref dd), (.ref dd)])) rfl rfl (hb hby d3_112)
      obtain ⟨T450, h450, X450, e450, W450, st450⟩ := putF X449 hx hZ hown (host := "") (Or.inl (own_w hw 23 rfl)) Via.refl e449 F445 E442 (Or.inl (own_w hw 24 rfl)) (own_w hw 2 rfl) (ty := .int) (by decide) rfl rfl (g := (mkF m 117 #[.val (.ref dd), .val (.int lv), .val (.int (own_key lv)), .val (.long (own_bit lv)), .second, .val (.int (-1 : Int32)), .val (.int (0 : Int32))] [(.int (3 : Int32)), (.ref dd)])) rfl rfl (hb hby d3_117)
      have Fw450 : Fld Z h450 dd "org/tallyrole/core/Dependencies" "size" "I" (.int (3 : Int32)) := F445.same W450
      have E451 := E442.wr W450
      have F452 := F443.other W450 (Or.inr (slot_ne (Or.inl (own_w hw 13 rfl)) (Or.inl (own_w hw 24 rfl)) (by decide) (t := (.array .int)) (t' := .int) (by decide) (by decide)))
      have F453 := F444.other W450 (Or.inr (slot_ne (Or.inl (own_w hw 17 rfl)) (Or.inl (own_w hw 24 rfl)) (by decide) (t := (.array .long)) (t' := .int) (by decide) (by decide)))
      have F454 := F446.other W450 (Or.inr (slot_ne (Or.inl (own_w hw 40 rfl)) (Or.inl (own_w hw 24 rfl)) (by decide) (t := .boolean) (t' := .int) (by decide) (by decide)))
      have A455 := A447.other W450 (Ne.symm hn1)
      have A456 := V441.other W450 (Ne.symm hn2)
      have N450 := Fr.snoc X450 N441 hdd
      have K450 : Keep h0 h450 [dd, ka, wa] := K441.wr W450 (Or.inl (List.mem_of_getElem? (i := 0) rfl))
      have Zs457 : n0 ≤ h450.size := (Nat.le_trans Zs448 (Keep.of_wr W450).1)
      have pre458 := fun (t : State) (k : Steps p.tables e below (T450.setTop (mkF m 156 #[.val (.ref dd), .val (.int lv), .val (.int (own_key lv)), .val (.long (own_bit lv)), .second, .val (.int (-1 : Int32)), .val (.int (0 : Int32))] [])) t) => pre271 t (by
        refine XS.istore X255.here hx rfl (hb hby d3_22) rfl (l' := #[.val (.ref dd), .val (.int lv), .val (.int (own_key lv)), .val (.long (own_bit lv)), .second, .val (.int (-1 : Int32)), .unset]) rfl ?_
        refine XS.iload X255.here hx rfl (hb hby d3_24) rfl ?_
        refine XS.ifNo X255.here hx rfl (hb hby d3_26) rfl ((if0 _ _).trans (tlt (by decide : (-1 : Int32) < (0 : Int32))).2.1) ?_
        refine XS.iload X255.here hx rfl (hb hby d3_29) rfl ?_
        refine XS.ineg X255.here hx rfl (hb hby d3_31) rfl ?_
        refine XS.iconst X255.here hx rfl (hb hby d3_32) ?_
        refine XS.isub X255.here hx rfl (hb hby d3_33) rfl ?_
        refine XS.istore X255.here hx rfl (hb hby d3_34) rfl (l' := #[.val (.ref dd), .val (.int lv), .val (.int (own_key lv)), .val (.long (own_bit lv)), .second, .val (.int (-1 : Int32)), .val (.int (0 : Int32))]) rfl ?_
        refine XS.aloadN X255.here hx rfl (hb hby d3_36) rfl rfl ?_
        refine XS.aloadN X255.here hx rfl (hb hby d3_37) rfl rfl ?_
        refine st404 _ ?_
        refine XS.iconst X404.here hx rfl (hb hby d3_41) ?_
        refine XS.iadd X404.here hx rfl (hb hby d3_42) rfl ?_
        refine st405.trans ?_
        refine XS.aloadN X405.here hx rfl (hb hby d3_46) rfl rfl ?_
        refine st407 _ ?_
        refine XS.iload X407.here hx rfl (hb hby d3_50) rfl ?_
        refine XS.aloadN X407.here hx rfl (hb hby d3_52) rfl rfl ?_
        refine st408 _ ?_
        refine XS.iload X408.here hx rfl (hb hby d3_56) rfl ?_
        refine XS.iconst X408.here hx rfl (hb hby d3_58) ?_
        refine XS.iadd X408.here hx rfl (hb hby d3_59) rfl ?_
        refine XS.aloadN X408.here hx rfl (hb hby d3_60) rfl rfl ?_
        refine st409 _ ?_
        refine XS.iload X409.here hx rfl (hb hby d3_64) rfl ?_
        refine XS.isub X409.here hx rfl (hb hby d3_66) rfl ?_
        refine st410 _ ?_
        refine XS.aloadN X410.here hx rfl (hb hby d3_70) rfl rfl ?_
        refine st418 _ ?_
        refine XS.iload X418.here hx rfl (hb hby d3_74) rfl ?_
        refine XS.aloadN X418.here hx rfl (hb hby d3_76) rfl rfl ?_
        refine st419 _ ?_
        refine XS.iload X419.here hx rfl (hb hby d3_80) rfl ?_
        refine XS.iconst X419.here hx rfl (hb hby d3_82) ?_
        refine XS.iadd X419.here hx rfl (hb hby d3_83) rfl ?_
        refine XS.aloadN X419.here hx rfl (hb hby d3_84) rfl rfl ?_
        refine st420 _ ?_
        refine XS.iload X420.here hx rfl (hb hby d3_88) rfl ?_
        refine XS.isub X420.here hx rfl (hb hby d3_90) rfl ?_
        refine st421 _ ?_
        refine XS.aloadN X421.here hx rfl (hb hby d3_94) rfl rfl ?_
        refine st429 _ ?_
        refine XS.iload X429.here hx rfl (hb hby d3_98) rfl ?_
        refine XS.iloadN X429.here hx rfl (hb hby d3_100) rfl ?_
        refine st431 _ ?_
        refine XS.aloadN X431.here hx rfl (hb hby d3_102) rfl rfl ?_
        refine st439 _ ?_
        refine XS.iload X439.here hx rfl (hb hby d3_106) rfl ?_
        refine XS.lloadN X439.here hx rfl (hb hby d3_108) rfl ?_
        refine st441 _ ?_
        refine XS.aloadN X441.here hx rfl (hb hby d3_110) rfl rfl ?_
        refine XS.dup X441.here hx rfl (hb hby d3_111) rfl rfl ?_
        refine st449 _ ?_
        refine XS.iconst X449.here hx rfl (hb hby d3_115) ?_
        refine XS.iadd X449.here hx rfl (hb hby d3_116) rfl ?_
        refine st450 _ ?_
        refine XS.goto X450.here hx rfl (pc0 := 120) (pc' := 156) rfl (hb hby d3_120) (by decide) (by decide) ?_
        exact k)
      obtain ⟨fs, hr, hrun, hended, hW, hsame⟩ := X450.leave (v := none) (hlocks := BodyLoose.notSynchronized Bd) (fun _ => rfl)
      refine ⟨_, _, pre458 _ ?_, hrun, hended, _, _, rfl, ?_, ⟨_, rfl⟩, hW, hsame.mono (by decide) (by decide)⟩
      · exact X450.returnOut hx Bd.returns (hb hby d3_156) hr
      · show Q_ad Z dd ka wa kk kw (3 : Int32) (2 : Int32) [(.int k0), (.int k1), (.int g2)] [(.long w0), (.long w1), (.long q2)] SS lv h0 n0 _ T450.heap _
        rw [e450]
        exact ⟨ka, wa, kk, kw, (3 : Int32), (3 : Int32), [(.int (own_key lv)), (.int k0), (.int k1)], [(.long (own_bit lv)), (.long w0), (.long w1)], rfl, N450, K450, hka, hwa, (Or.inl rfl), (Or.inl rfl), hn1, hn2, hn3, (Or.inr (Or.inr ⟨_, _, _, _, _, _, rfl, rfl, rfl, rfl, (own_r_ins (A := []) (B := [(k0, w0), (k1, w1)]) hrr hlv (List.forall_mem_nil _) (List.forall_mem_cons.mpr ⟨hb268, (List.forall_mem_cons.mpr ⟨(Int32.lt_trans hb268 ho0), (List.forall_mem_nil _)⟩)⟩))⟩)), (fun q => absurd q (by decide)), E451, F452, F453, Fw450, F454, A455, A456⟩
    · obtain ⟨T459, X459, e459, st459⟩ := getF X255 hx hZ hown (host := "") (Or.inl (own_w hw 16 rfl)) Via.refl hq257 H2_F (g := (mkF m 124 #[.val (.ref dd), .val (.int lv), .val (.int (own_key lv)), .val (.long (own_bit lv)), .second, .val (.int (0 : Int32)), .unset] [(.ref dd)])) rfl rfl (hb hby d3_124)
      have oc460 := H6_A
      obtain ⟨c460, Arc460, qc460, Sc460, Nc460, Hc460, Gc460⟩ := oc460
      have hin461 : ¬ ((0 : Int32) < 0 ∨ c460.slots.size ≤ ((0 : Int32)).toNatClampNeg) := (inb_of Sc460 ⟨by decide, by decide⟩)
      have pre462 := fun (t : State) (k : Steps p.tables e below (T459.setTop (mkF m 134 #[.val (.ref dd), .val (.int lv), .val (.int (own_key lv)), .val (.long (own_bit lv)), .second, .val (.int (0 : Int32)), .unset] [(.int (lcmpW (w0 &&& (own_bit lv)) (0 : Int64)))])) t) => pre271 t (by
        refine XS.istore X255.here hx rfl (hb hby d3_22) rfl (l' := #[.val (.ref dd), .val (.int lv), .val (.int (own_key lv)), .val (.long (own_bit lv)), .second, .val (.int (0 : Int32)), .unset]) rfl ?_
        refine XS.iload X255.here hx rfl (hb hby d3_24) rfl ?_
        refine XS.ifYes X255.here hx rfl (pc0 := 26) (pc' := 123) rfl (hb hby d3_26) rfl ((if0 _ _).trans (flt (by decide : ¬ ((0 : Int32) < (0 : Int32)))).2.1) (by decide) (by decide) ?_
        refine XS.aloadN X255.here hx rfl (hb hby d3_123) rfl rfl ?_
        refine st459 _ ?_
        refine XS.iload X459.here hx rfl (hb hby d3_127) rfl ?_
        refine X459.laload hx (j := (0 : Int32)) (v := (.long w0)) (by rw [e459]; exact Arc460.1) (State.isArrayOf_alike hZ.alike Arc460.2.1) Arc460.2.2 hin461 (Has.at Hc460 hin461 rfl) (g := (mkF m 129 #[.val (.ref dd), .val (.int lv), .val (.int (own_key lv)), .val (.long (own_bit lv)), .second, .val (.int (0 : Int32)), .unset] [(.int (0 : Int32)), (.ref wa)])) rfl rfl (hb hby d3_129) _ ?_
        refine XS.lloadN X459.here hx rfl (hb hby d3_130) rfl ?_
        refine XS.land X459.here hx rfl (hb hby d3_131) rfl ?_
        refine XS.lconst X459.here hx rfl (hb hby d3_132) ?_
        refine XS.lcmp X459.here hx rfl (hb hby d3_133) rfl ?_
        exact k)
      by_cases hc463 : (lcmpW (w0 &&& (own_bit lv)) (0 : Int64)) = (0 : Int32)
      · obtain ⟨T464, X464, e464, st464⟩ := getF X459 hx hZ hown (host := "") (Or.inl (own_w hw 23 rfl)) Via.refl e459 H3_F (g := (mkF m 139 #[.val (.ref dd), .val (.int lv), .val (.int (own_key lv)), .val (.long (own_bit lv)), .second, .val (.int (0 : Int32)), .unset] [(.ref dd), (.ref dd)])) rfl rfl (hb hby d3_139)
        obtain ⟨cq465, q465, q465'⟩ := H0_E.cell
        obtain ⟨_, _, ⟨T465, L465, k465, n465⟩, -, X465, ⟨Lc465, hQ465, l465, y465, z465⟩, st465⟩ := X464.privateBack hx (y := (⟨"org/tallyrole/core/Dependencies", "reserve", "(I)V"⟩ : MethodName)) hown (mvT hZ (own_w hw 35 rfl)) (mvT hZ (own_w hw 36 rfl)) (own_sel_priv (z := (⟨"org/tallyrole/core/Dependencies", "add", "(I)V"⟩ : MethodName)) (mvT hZ (own_w hw 21 rfl)) rfl (mvP hZ (own_w hw 37 rfl)) (mvT hZ (own_w hw 36 rfl)) (by decide)) (Cond.privateMethod_at (mvP hZ (own_w hw 37 rfl) (args := #[]))) (mvT hZ (own_w hw 38 rfl)) (by decide) (backOf (W := 0) (rm_rvN l Z a0 hw [] dd ka kk (3 : Int32) [(.int k0), (.int k1), (.int g2)] (2 : Int32) h0 n0 Z0 H0_E H1_F H4_F H5_A (by decide)) hZ (own_w hw 38 rfl) (own_w hw 3 rfl) (by decide) (by decide)) (g := (mkF m 142 #[.val (.ref dd), .val (.int lv), .val (.int (own_key lv)), .val (.long (own_bit lv)), .second, .val (.int (0 : Int32)), .unset] [(.int (2 : Int32)), (.ref dd)])) rfl (by rw [hml]; rfl) (Steps.refl _) (a := dd) (by rw [e464]; exact q465) q465' (argsL := [(.int (2 : Int32))]) (rest := []) (lenOf pd_7 rfl) rfl (by show 2 * 0 + _ ≤ _; exact Nat.le_of_eq rfl) (hb hby d3_142) (fun _ _ => ⟨rfl, e464, (by decide : 0 + 0 ≤ _), (by decide : 0 + 0 ≤ _)⟩)
        dsimp only [Pt.U, Pt.locs, Pt.cells, Pt.slots] at X465 l465 y465 z465 st465 hQ465
        subst l465 y465 z465
        obtain ⟨rfl, N465q, hq466⟩ := hQ465
        have N465 := Fr.app N255 N465q
        obtain ⟨T467, X467, e467, st467⟩ := getF X465 hx hZ hown (host := "") (Or.inl (own_w hw 16 rfl)) Via.refl hq466 H2_F (g := (mkF m 146 #[.val (.ref dd), .val (.int lv), .val (.int (own_key lv)), .val (.long (own_bit lv)), .second, .val (.int (0 : Int32)), .unset] [(.ref dd)])) rfl rfl (hb hby d3_146)
        have oc468 := H6_A
        obtain ⟨c468, Arc468, qc468, Sc468, Nc468, Hc468, Gc468⟩ := oc468
        have hin469 : ¬ ((0 : Int32) < 0 ∨ c468.slots.size ≤ ((0 : Int32)).toNatClampNeg) := (inb_of Sc468 ⟨by decide, by decide⟩)
        have oc470 := H6_A
        obtain ⟨c470, Arc470, qc470, Sc470, Nc470, Hc470, Gc470⟩ := oc470
        have hin471 : ¬ ((0 : Int32) < 0 ∨ c470.slots.size ≤ ((0 : Int32)).toNatClampNeg) := (inb_of Sc470 ⟨by decide, by decide⟩)
        obtain ⟨T471, h471, X471, e471, W471, st471⟩ := stJ X467 hx hZ e467 Arc470 (j := (0 : Int32)) hin471 (g := (mkF m 155 #[.val (.ref dd), .val (.int lv), .val (.int (own_key lv)), .val (.long (own_bit lv)), .second, .val (.int (0 : Int32)), .unset] [(.long (w0 ||| (own_bit lv))), (.int (0 : Int32)), (.ref wa)])) rfl rfl (hb hby d3_155)
        have V471 : Arv Z h471 wa kw .long (3 : Int32) [(.long (w0 ||| (own_bit lv))), (.long w1), (.long q2)] (.long (0 : Int64)) := Arv.set Arc470 qc470 Sc470 Nc470 Hc470 Gc470 rfl W471 0 rfl (Nat.le_of_ble_eq_true rfl)
        have E472 := H0_E.wr W471
        have F473 := H1_F.other W471 (Or.inl hn2)
        have F474 := H2_F.other W471 (Or.inl hn2)
        have F475 := H3_F.other W471 (Or.inl hn2)
        have F476 := H4_F.other W471 (Or.inl hn2)
        have A477 := H5_A.other W471 hn3
        have N471 := Fr.snoc X471 N465 hwa
        have K471 : Keep h0 h471 [dd, ka, wa] := K0.wr W471 (Or.inl (List.mem_of_getElem? (i := 2) rfl))
        have Zs478 : n0 ≤ h471.size := (Nat.le_trans Z0 (Keep.of_wr W471).1)
        have pre479 := fun (t : State) (k : Steps p.tables e below (T471.setTop (mkF m 156 #[.val (.ref dd), .val (.int lv), .val (.int (own_key lv)), .val (.long (own_bit lv)), .second, .val (.int (0 : Int32)), .unset] [])) t) => pre462 t (by
          refine XS.ifNo X459.here hx rfl (hb hby d3_134) rfl ((if0 _ _).trans (teq hc463).2) ?_
          refine XS.aloadN X459.here hx rfl (hb hby d3_137) rfl rfl ?_
          refine XS.aloadN X459.here hx rfl (hb hby d3_138) rfl rfl ?_
          refine st464 _ ?_
          refine st465.trans ?_
          refine XS.aloadN X465.here hx rfl (hb hby d3_145) rfl rfl ?_
          refine st467 _ ?_
          refine XS.iload X467.here hx rfl (hb hby d3_149) rfl ?_
          jvm_step X467.here [X467.here.top, hx, (hb hby d3_151), Value.category]
          refine X467.laload hx (j := (0 : Int32)) (v := (.long w0)) (by rw [e467]; exact Arc468.1) (State.isArrayOf_alike hZ.alike Arc468.2.1) Arc468.2.2 hin469 (Has.at Hc468 hin469 rfl) (g := (mkF m 152 #[.val (.ref dd), .val (.int lv), .val (.int (own_key lv)), .val (.long (own_bit lv)), .second, .val (.int (0 : Int32)), .unset] [(.int (0 : Int32)), (.ref wa), (.int (0 : Int32)), (.ref wa)])) rfl rfl (hb hby d3_152) _ ?_
          refine XS.lloadN X467.here hx rfl (hb hby d3_153) rfl ?_
          refine XS.lor X467.here hx rfl (hb hby d3_154) rfl ?_
          refine st471 _ ?_
          exact k)
        obtain ⟨fs, hr, hrun, hended, hW, hsame⟩ := X471.leave (v := none) (hlocks := BodyLoose.notSynchronized Bd) (fun _ => rfl)
        refine ⟨_, _, pre479 _ ?_, hrun, hended, _, _, rfl, ?_, ⟨_, rfl⟩, hW, hsame.mono (by decide) (by decide)⟩
        · exact X471.returnOut hx Bd.returns (hb hby d3_156) hr
        · show Q_ad Z dd ka wa kk kw (3 : Int32) (2 : Int32) [(.int k0), (.int k1), (.int g2)] [(.long w0), (.long w1), (.long q2)] SS lv h0 n0 _ T471.heap _
          rw [e471]
          exact ⟨ka, wa, kk, kw, (3 : Int32), (2 : Int32), [(.int k0), (.int k1), (.int g2)], [(.long (w0 ||| (own_bit lv))), (.long w1), (.long q2)], rfl, N471, K471, hka, hwa, (Or.inl rfl), (Or.inl rfl), hn1, hn2, hn3, (Or.inr (Or.inl ⟨_, _, _, _, _, _, rfl, rfl, rfl, rfl, (own_r_or (A := []) (B := [(k1, w1)]) hrr (own_eq_of hb269 hb270))⟩)), (fun q => absurd q (by decide)), E472, F473, F474, F475, F476, A477, V471⟩
      · have pre480 := fun (t : State) (k : Steps p.tables e below (T459.setTop (mkF m 156 #[.val (.ref dd), .val (.int lv), .val (.int (own_key lv)), .val (.long (own_bit lv)), .second, .val (.int (0 : Int32)), .unset] [])) t) => pre462 t (by
          refine XS.ifYes X459.here hx rfl (pc0 := 134) (pc' := 156) rfl (hb hby d3_134) rfl ((if0 _ _).trans (feq hc463).2) (by decide) (by decide) ?_
          exact k)
        obtain ⟨fs, hr, hrun, hended, hW, hsame⟩ := X459.leave (v := none) (hlocks := BodyLoose.notSynchronized Bd) (fun _ => rfl)
        refine ⟨_, _, pre480 _ ?_, hrun, hended, _, _, rfl, ?_, ⟨_, rfl⟩, hW, hsame.mono (by decide) (by decide)⟩
        · exact X459.returnOut hx Bd.returns (hb hby d3_156) hr
        · show Q_ad Z dd ka wa kk kw (3 : Int32) (2 : Int32) [(.int k0), (.int k1), (.int g2)] [(.long w0), (.long w1), (.long q2)] SS lv h0 n0 _ T459.heap _
          rw [e459]
          exact ⟨ka, wa, kk, kw, (3 : Int32), (2 : Int32), [(.int k0), (.int k1), (.int g2)], [(.long w0), (.long w1), (.long q2)], rfl, N255, K0, hka, hwa, (Or.inl rfl), (Or.inl rfl), hn1, hn2, hn3, (Or.inr (Or.inl ⟨_, _, _, _, _, _, rfl, rfl, rfl, rfl, (own_r_had (A := []) (B := [(k1, w1)]) hrr (own_eq_of hb269 hb270) (fun q => hc463 ((lw_eq _ _).mpr q)))⟩)), (fun q => absurd q (by decide)), H0_E, H1_F, H2_F, H3_F, H4_F, H5_A, H6_A⟩

theorem ef_rm (m : MethodId) (x0 : Addr) (x1 : Int32) : entryFrame m #[(.ref x0), (.int x1)] 5 = mkF m 0 #[.val (.ref x0), .val (.int x1), .unset, .unset, .unset] [] := by first | (simp [entryFrame, mkF, argsToLocals, Value.category]; done) | rfl
def Q_rm (Z : State) (dd : Addr) (ka : Addr) (wa : Addr) (kk : ClassId) (kw : ClassId) (cap : Int32) (sz : Int32) (kv : List Value) (wv : List Value) (SS : Int32 → Prop) (lv : Int32) (h0 : Heap) (n0 : Nat) (v : Option Value) (h : Heap) (L : List Loc) : Prop := ∃ xk : Addr, ∃ xw : Addr, ∃ kxk : ClassId, ∃ kxw : ClassId, ∃ cap' : Int32, ∃ sz' : Int32, ∃ kv' : List Value, ∃ wv' : List Value, v = none ∧ Fr n0 L ∧ Keep h0 h [dd, ka, wa] ∧ n0 ≤ xk ∧ n0 ≤ xw ∧ (xk = ka ∨ h0.size ≤ xk) ∧ (xw = wa ∨ h0.size ≤ xw) ∧ dd ≠ xk ∧ dd ≠ xw ∧ xk ≠ xw ∧ (own_s_1_0 cap' sz' kv' wv' (own_del SS lv) ∨ own_s_1_1 cap' sz' kv' wv' (own_del SS lv) ∨ own_s_3_1 cap' sz' kv' wv' (own_del SS lv) ∨ own_s_3_2 cap' sz' kv' wv' (own_del SS lv) ∨ own_s_3_3 cap' sz' kv' wv' (own_del SS lv)) ∧ Exa Z h dd "org/tallyrole/core/Dependencies" ∧ Fld Z h dd "org/tallyrole/core/Dependencies" "keys" "[I" (.ref xk) ∧ Fld Z h dd "org/tallyrole/core/Dependencies" "words" "[J" (.ref xw) ∧ Fld Z h dd "org/tallyrole/core/Dependencies" "size" "I" (.int sz') ∧ Fld Z h dd "org/tallyrole/core/Dependencies" "shared" "Z" (.int (0 : Int32)) ∧ Arv Z h xk kxk .int cap' kv' (.int (0 : Int32)) ∧ Arv Z h xw kxw .long cap' wv' (.long (0 : Int64))
set_option maxRecDepth 65536 in
set_option maxHeartbeats 40000000 in
theorem rm_rm (l : Launch) (Z : State) (a0 : Array Value) (hw : ∀ d ∈ tables_1, d.before a0 Z = true) (ws : List Jvm.Cond) (dd : Addr) (ka : Addr) (wa : Addr) (kk : ClassId) (kw : ClassId) (cap : Int32) (sz : Int32) (kv : List Value) (wv : List Value) (SS : Int32 → Prop) (lv : Int32) (h0 : Heap) (n0 : Nat) (Z0 : n0 ≤ h0.size) (H0_E : Exa Z h0 dd "org/tallyrole/core/Dependencies") (H1_F : Fld Z h0 dd "org/tallyrole/core/Dependencies" "keys" "[I" (.ref ka)) (H2_F : Fld Z h0 dd "org/tallyrole/core/Dependencies" "words" "[J" (.ref wa)) (H3_F : Fld Z h0 dd "org/tallyrole/core/Dependencies" "size" "I" (.int sz)) (H4_F : Fld Z h0 dd "org/tallyrole/core/Dependencies" "shared" "Z" (.int (0 : Int32))) (H5_A : Arv Z h0 ka kk .int cap kv (.int (0 : Int32))) (H6_A : Arv Z h0 wa kw .long cap wv (.long (0 : Int64))) (hrep : own_s_1_1 cap sz kv wv SS ∨ own_s_3_2 cap sz kv wv SS ∨ own_s_3_3 cap sz kv wv SS) (hdd : n0 ≤ dd) (hka : n0 ≤ ka) (hwa : n0 ≤ wa) (hn1 : dd ≠ ka) (hn2 : dd ≠ wa) (hn3 : ka ≠ wa) :
    MetFree l (⟨"org/tallyrole/core/Dependencies", "remove", "(I)V"⟩ : MethodName) (head1 (Jvm.Cond.code (⟨"org/tallyrole/core/Dependencies", "remove", "(I)V"⟩ : MethodName) prog_36_method_8_code 5 none :: ws) ({ frames := 2, cells := 0, slots := 0, locals := 34 } : Room)) (fun as_ U_ => as_ = #[(.ref dd), (.int lv)] ∧ Z.Warmed39 U_.vm ∧ U_.heap = h0) (fun _ _ _ _ _ => True) (fun _ U o U' => ∃ v L, o = .returned v ∧ Q_rm Z dd ka wa kk kw cap sz kv wv SS lv h0 n0 v U'.heap L ∧ FrameEnd U o U' L ({ frames := 2, cells := 0, slots := 0, locals := 34 } : Room).cells ({ frames := 2, cells := 0, slots := 0, locals := 34 } : Room).slots) := by
  refine MetFree.of_bodySF (plainFor_of_name pn_1) hisR ?_
  intro p e s m args below meth c s₁ Bd hml0 hP hK
  obtain ⟨rfl, hZ, hhp_⟩ := hP
  have hx := Bd.exec
  have hby := Bd.bytes
  have hml : c.maxLocals = 5 := hml0
  have hown : s.vm.findClass "org/tallyrole/core/Dependencies" = some m.cls := findClass_of_methodNamed Bd.named
  have hnm := (name_of_methodNamed Bd.named Bd.method).1
  have X0 : Stand p l e ({ frames := 2, cells := 0, slots := 0, locals := 34 } : Room) s m #[(.ref dd), (.int lv)] below meth c s₁ [] 0 0 := Stand.of_body Bd
  have e0 : s₁.heap = h0 := by rw [← hhp_, Bd.state]; rfl
  have N0 := Fr.nil n0
  have pre0 : ∀ t, Steps p.tables e below (s₁.setTop (mkF m 0 #[.val (.ref dd), .val (.int lv), .unset, .unset, .unset] [])) t → Steps p.tables e below (s₁.setTop (entryFrame m #[(.ref dd), (.int lv)] 5)) t := fun t k => castTop (ef_rm m dd lv) k
  have K0 : Keep h0 h0 [dd, ka, wa] := Keep.refl h0 [dd, ka, wa]
  have hrep_ := hrep
  rcases hrep_ with ⟨k0, w0, rfl, rfl, rfl, rfl, hrr⟩ | ⟨k0, k1, g2, w0, w1, q2, rfl, rfl, rfl, rfl, hrr⟩ | ⟨k0, k1, k2, w0, w1, w2, rfl, rfl, rfl, rfl, hrr⟩
  · obtain ⟨T1, X1, e1, st1⟩ := getF X0 hx hZ hown (host := "") (Or.inl (own_w hw 12 rfl)) Via.refl e0 H1_F (g := (mkF m 1 #[.val (.ref dd), .val (.int lv), .unset, .unset, .unset] [(.ref dd)])) rfl rfl (hb hby d15_1)
    obtain ⟨T2, X2, e2, st2⟩ := getF X1 hx hZ hown (host := "") (Or.inl (own_w hw 23 rfl)) Via.refl e1 H3_F (g := (mkF m 6 #[.val (.ref dd), .val (.int lv), .unset, .unset, .unset] [(.ref dd), (.int (0 : Int32)), (.ref ka)])) rfl rfl (hb hby d15_6)
    obtain ⟨_, _, ⟨T3, L3, k3, n3⟩, -, X3, ⟨Lc3, hQ3, l3, y3, z3⟩, st3⟩ := Jvm.LawKit.callS X2 hx (y := (⟨"java/util/Arrays", "binarySearch", "([IIII)I"⟩ : MethodName)) hown (mvT hZ (own_w hw 25 rfl)) (mvT hZ (own_w hw 26 rfl)) (mvT hZ (own_w hw 27 rfl)) (mvT hZ (own_w hw 28 rfl)) (by decide) (backOf (W := 0) (rm_bs1_1 l Z a0 hw [] ka kk k0 (own_key lv) h0 n0 Z0 H5_A) hZ (own_w hw 28 rfl) (own_w hw 27 rfl) (by decide) (by decide)) (g := (mkF m 13 #[.val (.ref dd), .val (.int lv), .unset, .unset, .unset] [(.int (own_key lv)), (.int (1 : Int32)), (.int (0 : Int32)), (.ref ka)])) rfl (by rw [hml]; rfl) (argsL := [(.ref ka), (.int (0 : Int32)), (.int (1 : Int32)), (.int (own_key lv))]) (rest := []) (lenOf pd_1 rfl) rfl (by show 2 * 0 + _ ≤ _; exact Nat.le_of_eq rfl) (hb hby d15_13) (fun _ _ => ⟨rfl, e2, (by decide : 0 + 0 ≤ _), (by decide : 0 + 0 ≤ _)⟩)
    dsimp only [Pt.U, Pt.locs, Pt.cells, Pt.slots] at X3 l3 y3 z3 st3 hQ3
    subst l3 y3 z3
    obtain ⟨x4, rfl, N3q, hq5, hpq6⟩ := hQ3
    have N3 := Fr.app N0 N3q
    have pre12 := fun (t : State) (k : Steps p.tables e below (T3.setTop (mkF m 16 #[.val (.ref dd), .val (.int lv), .unset, .unset, .unset] [(.int x4)])) t) => pre0 t (by
      refine XS.aloadN X0.here hx rfl (hb hby d15_0) rfl rfl ?_
      refine st1 _ ?_
      refine XS.iconst X1.here hx rfl (hb hby d15_4) ?_
      refine XS.aloadN X1.here hx rfl (hb hby d15_5) rfl rfl ?_
      refine st2 _ ?_
      refine XS.iloadN X2.here hx rfl (hb hby d15_9) rfl ?_
      refine XS.bipush X2.here hx rfl (hb hby d15_10) ?_
      refine XS.iushr X2.here hx rfl (hb hby d15_12) rfl ?_
      show Steps p.tables e below (T2.setTop (mkF m 13 #[.val (.ref dd), .val (.int lv), .unset, .unset, .unset] [(.int (own_key lv)), (.int (1 : Int32)), (.int (0 : Int32)), (.ref ka)])) _
      refine st3 _ ?_
      exact k)
    rcases hpq6 with ⟨rfl, hb7⟩ | ⟨rfl, hb8, hb9⟩ | ⟨rfl, hb10, hb11⟩
    · have pre13 := fun (t : State) (k : Steps p.tables e below (T3.setTop (mkF m 127 #[.val (.ref dd), .val (.int lv), .val (.int (-2 : Int32)), .val (.long (own_bit lv)), .second] [])) t) => pre12 t (by
        refine XS.istoreN X3.here hx rfl (hb hby d15_16) rfl (l' := #[.val (.ref dd), .val (.int lv), .val (.int (-2 : Int32)), .unset, .unset]) rfl ?_
        refine XS.lconst X3.here hx rfl (hb hby d15_17) ?_
        refine XS.iloadN X3.here hx rfl (hb hby d15_18) rfl ?_
        refine XS.lshl X3.here hx rfl (hb hby d15_19) rfl ?_
        show Steps p.tables e below (T3.setTop (mkF m 20 #[.val (.ref dd), .val (.int lv), .val (.int (-2 : Int32)), .unset, .unset] [(.long (own_bit lv))])) _
        refine XS.lstoreN X3.here hx rfl (hb hby d15_20) rfl (l' := #[.val (.ref dd), .val (.int lv), .val (.int (-2 : Int32)), .val (.long (own_bit lv)), .second]) rfl ?_
        refine XS.iloadN X3.here hx rfl (hb hby d15_21) rfl ?_
        refine XS.ifYes X3.here hx rfl (pc0 := 22) (pc' := 127) rfl (hb hby d15_22) rfl ((if0 _ _).trans (tlt (by decide : (-2 : Int32) < (0 : Int32))).1) (by decide) (by decide) ?_
        exact k)
      obtain ⟨fs, hr, hrun, hended, hW, hsame⟩ := X3.leave (v := none) (hlocks := BodyLoose.notSynchronized Bd) (fun _ => rfl)
      refine ⟨_, _, pre13 _ ?_, hrun, hended, _, _, rfl, ?_, ⟨_, rfl⟩, hW, hsame.mono (by decide) (by decide)⟩
      · exact X3.returnOut hx Bd.returns (hb hby d15_127) hr
      · show Q_rm Z dd ka wa kk kw (1 : Int32) (1 : Int32) [(.int k0)] [(.long w0)] SS lv h0 n0 _ T3.heap _
        rw [hq5]
        exact ⟨ka, wa, kk, kw, (1 : Int32), (1 : Int32), [(.int k0)], [(.long w0)], rfl, N3, K0, hka, hwa, (Or.inl rfl), (Or.inl rfl), hn1, hn2, hn3, (Or.inr (Or.inl ⟨_, _, rfl, rfl, rfl, rfl, (own_r_no hrr (List.forall_mem_cons.mpr ⟨(own_ne_lt hb7), (List.forall_mem_nil _)⟩))⟩)), H0_E, H1_F, H2_F, H3_F, H4_F, H5_A, H6_A⟩
    · have pre14 := fun (t : State) (k : Steps p.tables e below (T3.setTop (mkF m 127 #[.val (.ref dd), .val (.int lv), .val (.int (-1 : Int32)), .val (.long (own_bit lv)), .second] [])) t) => pre12 t (by
        refine XS.istoreN X3.here hx rfl (hb hby d15_16) rfl (l' := #[.val (.ref dd), .val (.int lv), .val (.int (-1 : Int32)), .unset, .unset]) rfl ?_
        refine XS.lconst X3.here hx rfl (hb hby d15_17) ?_
        refine XS.iloadN X3.here hx rfl (hb hby d15_18) rfl ?_
        refine XS.lshl X3.here hx rfl (hb hby d15_19) rfl ?_
        show Steps p.tables e below (T3.setTop (mkF m 20 #[.val (.ref dd), .val (.int lv), .val (.int (-1 : Int32)), .unset, .unset] [(.long (own_bit lv))])) _
        refine XS.lstoreN X3.here hx rfl (hb hby d15_20) rfl (l' := #[.val (.ref dd), .val (.int lv), .val (.int (-1 : Int32)), .val (.long (own_bit lv)), .second]) rfl ?_
        refine XS.iloadN X3.here hx rfl (hb hby d15_21) rfl ?_
        refine XS.ifYes X3.here hx rfl (pc0 := 22) (pc' := 127) rfl (hb hby d15_22) rfl ((if0 _ _).trans (tlt (by decide : (-1 : Int32) < (0 : Int32))).1) (by decide) (by decide) ?_
        exact k)
      obtain ⟨fs, hr, hrun, hended, hW, hsame⟩ := X3.leave (v := none) (hlocks := BodyLoose.notSynchronized Bd) (fun _ => rfl)
      refine ⟨_, _, pre14 _ ?_, hrun, hended, _, _, rfl, ?_, ⟨_, rfl⟩, hW, hsame.mono (by decide) (by decide)⟩
      · exact X3.returnOut hx Bd.returns (hb hby d15_127) hr
      · show Q_rm Z dd ka wa kk kw (1 : Int32) (1 : Int32) [(.int k0)] [(.long w0)] SS lv h0 n0 _ T3.heap _
        rw [hq5]
        exact ⟨ka, wa, kk, kw, (1 : Int32), (1 : Int32), [(.int k0)], [(.long w0)], rfl, N3, K0, hka, hwa, (Or.inl rfl), (Or.inl rfl), hn1, hn2, hn3, (Or.inr (Or.inl ⟨_, _, rfl, rfl, rfl, rfl, (own_r_no hrr (List.forall_mem_cons.mpr ⟨(own_ne_gt hb9), (List.forall_mem_nil _)⟩))⟩)), H0_E, H1_F, H2_F, H3_F, H4_F, H5_A, H6_A⟩
    · obtain ⟨T15, X15, e15, st15⟩ := getF X3 hx hZ hown (host := "") (Or.inl (own_w hw 16 rfl)) Via.refl hq5 H2_F (g := (mkF m 26 #[.val (.ref dd), .val (.int lv), .val (.int (0 : Int32)), .val (.long (own_bit lv)), .second] [(.ref dd)])) rfl rfl (hb hby d15_26)
      have oc16 := H6_A
      obtain ⟨c16, Arc16, qc16, Sc16, Nc16, Hc16, Gc16⟩ := oc16
      have hin17 : ¬ ((0 : Int32) < 0 ∨ c16.slots.size ≤ ((0 : Int32)).toNatClampNeg) := (inb_of Sc16 ⟨by decide, by decide⟩)
      have pre18 := fun (t : State) (k : Steps p.tables e below (T15.setTop (mkF m 35 #[.val (.ref dd), .val (.int lv), .val (.int (0 : Int32)), .val (.long (own_bit lv)), .second] [(.int (lcmpW (w0 &&& (own_bit lv)) (0 : Int64)))])) t) => pre12 t (by
        refine XS.istoreN X3.here hx rfl (hb hby d15_16) rfl (l' := #[.val (.ref dd), .val (.int lv), .val (.int (0 : Int32)), .unset, .unset]) rfl ?_
        refine XS.lconst X3.here hx rfl (hb hby d15_17) ?_
        refine XS.iloadN X3.here hx rfl (hb hby d15_18) rfl ?_
        refine XS.lshl X3.here hx rfl (hb hby d15_19) rfl ?_
        show Steps p.tables e below (T3.setTop (mkF m 20 #[.val (.ref dd), .val (.int lv), .val (.int (0 : Int32)), .unset, .unset] [(.long (own_bit lv))])) _
        refine XS.lstoreN X3.here hx rfl (hb hby d15_20) rfl (l' := #[.val (.ref dd), .val (.int lv), .val (.int (0 : Int32)), .val (.long (own_bit lv)), .second]) rfl ?_
        refine XS.iloadN X3.here hx rfl (hb hby d15_21) rfl ?_
        refine XS.ifNo X3.here hx rfl (hb hby d15_22) rfl ((if0 _ _).trans (flt (by decide : ¬ ((0 : Int32) < (0 : Int32)))).1) ?_
        refine XS.aloadN X3.here hx rfl (hb hby d15_25) rfl rfl ?_
        refine st15 _ ?_
        refine XS.iloadN X15.here hx rfl (hb hby d15_29) rfl ?_
        refine X15.laload hx (j := (0 : Int32)) (v := (.long w0)) (by rw [e15]; exact Arc16.1) (State.isArrayOf_alike hZ.alike Arc16.2.1) Arc16.2.2 hin17 (Has.at Hc16 hin17 rfl) (g := (mkF m 30 #[.val (.ref dd), .val (.int lv), .val (.int (0 : Int32)), .val (.long (own_bit lv)), .second] [(.int (0 : Int32)), (.ref wa)])) rfl rfl (hb hby d15_30) _ ?_
        refine XS.lloadN X15.here hx rfl (hb hby d15_31) rfl ?_
        refine XS.land X15.here hx rfl (hb hby d15_32) rfl ?_
        refine XS.lconst X15.here hx rfl (hb hby d15_33) ?_
        refine XS.lcmp X15.here hx rfl (hb hby d15_34) rfl ?_
        exact k)
      by_cases hc19 : (lcmpW (w0 &&& (own_bit lv)) (0 : Int64)) = (0 : Int32)
      · have pre20 := fun (t : State) (k : Steps p.tables e below (T15.setTop (mkF m 127 #[.val (.ref dd), .val (.int lv), .val (.int (0 : Int32)), .val (.long (own_bit lv)), .second] [])) t) => pre18 t (by
          refine XS.ifYes X15.here hx rfl (pc0 := 35) (pc' := 127) rfl (hb hby d15_35) rfl ((if0 _ _).trans (teq hc19).1) (by decide) (by decide) ?_
          exact k)
        obtain ⟨fs, hr, hrun, hended, hW, hsame⟩ := X15.leave (v := none) (hlocks := BodyLoose.notSynchronized Bd) (fun _ => rfl)
        refine ⟨_, _, pre20 _ ?_, hrun, hended, _, _, rfl, ?_, ⟨_, rfl⟩, hW, hsame.mono (by decide) (by decide)⟩
        · exact X15.returnOut hx Bd.returns (hb hby d15_127) hr
        · show Q_rm Z dd ka wa kk kw (1 : Int32) (1 : Int32) [(.int k0)] [(.long w0)] SS lv h0 n0 _ T15.heap _
          rw [e15]
          exact ⟨ka, wa, kk, kw, (1 : Int32), (1 : Int32), [(.int k0)], [(.long w0)], rfl, N3, K0, hka, hwa, (Or.inl rfl), (Or.inl rfl), hn1, hn2, hn3, (Or.inr (Or.inl ⟨_, _, rfl, rfl, rfl, rfl, (own_r_off (A := []) (B := []) hrr (own_eq_of hb10 hb11) ((lw_eq _ _).mp hc19))⟩)), H0_E, H1_F, H2_F, H3_F, H4_F, H5_A, H6_A⟩
      · obtain ⟨T21, X21, e21, st21⟩ := getF X15 hx hZ hown (host := "") (Or.inl (own_w hw 23 rfl)) Via.refl e15 H3_F (g := (mkF m 40 #[.val (.ref dd), .val (.int lv), .val (.int (0 : Int32)), .val (.long (own_bit lv)), .second] [(.ref dd), (.ref dd)])) rfl rfl (hb hby d15_40)
        obtain ⟨cq22, q22, q22'⟩ := H0_E.cell
        obtain ⟨_, _, ⟨T22, L22, k22, n22⟩, -, X22, ⟨Lc22, hQ22, l22, y22, z22⟩, st22⟩ := X21.privateBack hx (y := (⟨"org/tallyrole/core/Dependencies", "reserve", "(I)V"⟩ : MethodName)) hown (mvT hZ (own_w hw 35 rfl)) (mvT hZ (own_w hw 36 rfl)) (own_sel_priv (z := (⟨"org/tallyrole/core/Dependencies", "add", "(I)V"⟩ : MethodName)) (mvT hZ (own_w hw 21 rfl)) rfl (mvP hZ (own_w hw 37 rfl)) (mvT hZ (own_w hw 36 rfl)) (by decide)) (Cond.privateMethod_at (mvP hZ (own_w hw 37 rfl) (args := #[]))) (mvT hZ (own_w hw 38 rfl)) (by decide) (backOf (W := 0) (rm_rvN l Z a0 hw [] dd ka kk (1 : Int32) [(.int k0)] (1 : Int32) h0 n0 Z0 H0_E H1_F H4_F H5_A (by decide)) hZ (own_w hw 38 rfl) (own_w hw 3 rfl) (by decide) (by decide)) (g := (mkF m 43 #[.val (.ref dd), .val (.int lv), .val (.int (0 : Int32)), .val (.long (own_bit lv)), .second] [(.int (1 : Int32)), (.ref dd)])) rfl (by rw [hml]; rfl) (Steps.refl _) (a := dd) (by rw [e21]; exact q22) q22' (argsL := [(.int (1 : Int32))]) (rest := []) (lenOf pd_7 rfl) rfl (by show 2 * 0 + _ ≤ _; exact Nat.le_of_eq rfl) (hb hby d15_43) (fun _ _ => ⟨rfl, e21, (by decide : 0 + 0 ≤ _), (by decide : 0 + 0 ≤ _)⟩)
        dsimp only [Pt.U, Pt.locs, Pt.cells, Pt.slots] at X22 l22 y22 z22 st22 hQ22
        subst l22 y22 z22
        obtain ⟨rfl, N22q, hq23⟩ := hQ22
        have N22 := Fr.app N3 N22q
        obtain ⟨T24, X24, e24, st24⟩ := getF X22 hx hZ hown (host := "") (Or.inl (own_w hw 16 rfl)) Via.refl hq23 H2_F (g := (mkF m 47 #[.val (.ref dd), .val (.int lv), .val (.int (0 : Int32)), .val (.long (own_bit lv)), .second] [(.ref dd)])) rfl rfl (hb hby d15_47)
        have oc25 := H6_A
        obtain ⟨c25, Arc25, qc25, Sc25, Nc25, Hc25, Gc25⟩ := oc25
        have hin26 : ¬ ((0 : Int32) < 0 ∨ c25.slots.size ≤ ((0 : Int32)).toNatClampNeg) := (inb_of Sc25 ⟨by decide, by decide⟩)
        have oc27 := H6_A
        obtain ⟨c27, Arc27, qc27, Sc27, Nc27, Hc27, Gc27⟩ := oc27
        have hin28 : ¬ ((0 : Int32) < 0 ∨ c27.slots.size ≤ ((0 : Int32)).toNatClampNeg) := (inb_of Sc27 ⟨by decide, by decide⟩)
        obtain ⟨T28, h28, X28, e28, W28, st28⟩ := stJ X24 hx hZ e24 Arc27 (j := (0 : Int32)) hin28 (g := (mkF m 59 #[.val (.ref dd), .val (.int lv), .val (.int (0 : Int32)), .val (.long (own_bit lv)), .second] [(.long (w0 &&& ((own_bit lv) ^^^ (-1 : Int64)))), (.int (0 : Int32)), (.ref wa)])) rfl rfl (hb hby d15_59)
        have V28 : Arv Z h28 wa kw .long (1 : Int32) [(.long (w0 &&& ((own_bit lv) ^^^ (-1 : Int64))))] (.long (0 : Int64)) := Arv.set Arc27 qc27 Sc27 Nc27 Hc27 Gc27 rfl W28 0 rfl (Nat.le_of_ble_eq_true rfl)
        have E29 := H0_E.wr W28
        have F30 := H1_F.other W28 (Or.inl hn2)
        have F31 := H2_F.other W28 (Or.inl hn2)
        have F32 := H3_F.other W28 (Or.inl hn2)
        have F33 := H4_F.other W28 (Or.inl hn2)
        have A34 := H5_A.other W28 hn3
        have N28 := Fr.snoc X28 N22 hwa
        have K28 : Keep h0 h28 [dd, ka, wa] := K0.wr W28 (Or.inl (List.mem_of_getElem? (i := 2) rfl))
        have Zs35 : n0 ≤ h28.size := (Nat.le_trans Z0 (Keep.of_wr W28).1)
        obtain ⟨T36, X36, e36, st36⟩ := getF X28 hx hZ hown (host := "") (Or.inl (own_w hw 16 rfl)) Via.refl e28 F31 (g := (mkF m 61 #[.val (.ref dd), .val (.int lv), .val (.int (0 : Int32)), .val (.long (own_bit lv)), .second] [(.ref dd)])) rfl rfl (hb hby d15_61)
        have oc37 := V28
        obtain ⟨c37, Arc37, qc37, Sc37, Nc37, Hc37, Gc37⟩ := oc37
        have hin38 : ¬ ((0 : Int32) < 0 ∨ c37.slots.size ≤ ((0 : Int32)).toNatClampNeg) := (inb_of Sc37 ⟨by decide, by decide⟩)
        have pre39 := fun (t : State) (k : Steps p.tables e below (T36.setTop (mkF m 68 #[.val (.ref dd), .val (.int lv), .val (.int (0 : Int32)), .val (.long (own_bit lv)), .second] [(.int (lcmpW (w0 &&& ((own_bit lv) ^^^ (-1 : Int64))) (0 : Int64)))])) t) => pre18 t (by
          refine XS.ifNo X15.here hx rfl (hb hby d15_35) rfl ((if0 _ _).trans (feq hc19).1) ?_
          refine XS.aloadN X15.here hx rfl (hb hby d15_38) rfl rfl ?_
          refine XS.aloadN X15.here hx rfl (hb hby d15_39) rfl rfl ?_
          refine st21 _ ?_
          refine st22.trans ?_
          refine XS.aloadN X22.here hx rfl (hb hby d15_46) rfl rfl ?_
          refine st24 _ ?_
          refine XS.iloadN X24.here hx rfl (hb hby d15_50) rfl ?_
          jvm_step X24.here [X24.here.top, hx, (hb hby d15_51), Value.category]
          refine X24.laload hx (j := (0 : Int32)) (v := (.long w0)) (by rw [e24]; exact Arc25.1) (State.isArrayOf_alike hZ.alike Arc25.2.1) Arc25.2.2 hin26 (Has.at Hc25 hin26 rfl) (g := (mkF m 52 #[.val (.ref dd), .val (.int lv), .val (.int (0 : Int32)), .val (.long (own_bit lv)), .second] [(.int (0 : Int32)), (.ref wa), (.int (0 : Int32)), (.ref wa)])) rfl rfl (hb hby d15_52) _ ?_
          refine XS.lloadN X24.here hx rfl (hb hby d15_53) rfl ?_
          refine X24.ldc2Long hx hown (mvT hZ (own_w hw 80 rfl)) (g := (mkF m 54 #[.val (.ref dd), .val (.int lv), .val (.int (0 : Int32)), .val (.long (own_bit lv)), .second] [(.long (own_bit lv)), (.long w0), (.int (0 : Int32)), (.ref wa)])) rfl (hb hby d15_54) _ ?_
          refine XS.lxor X24.here hx rfl (hb hby d15_57) rfl ?_
          refine XS.land X24.here hx rfl (hb hby d15_58) rfl ?_
          refine st28 _ ?_
          refine XS.aloadN X28.here hx rfl (hb hby d15_60) rfl rfl ?_
          refine st36 _ ?_
          refine XS.iloadN X36.here hx rfl (hb hby d15_64) rfl ?_
          refine X36.laload hx (j := (0 : Int32)) (v := (.long (w0 &&& ((own_bit lv) ^^^ (-1 : Int64))))) (by rw [e36]; exact Arc37.1) (State.isArrayOf_alike hZ.alike Arc37.2.1) Arc37.2.2 hin38 (Has.at Hc37 hin38 rfl) (g := (mkF m 65 #[.val (.ref dd), .val (.int lv), .val (.int (0 : Int32)), .val (.long (own_bit lv)), .second] [(.int (0 : Int32)), (.ref wa)])) rfl rfl (hb hby d15_65) _ ?_
          refine XS.lconst X36.here hx rfl (hb hby d15_66) ?_
          refine XS.lcmp X36.here hx rfl (hb hby d15_67) rfl ?_
          exact k)
        by_cases hc40 : (lcmpW (w0 &&& ((own_bit lv) ^^^ (-1 : Int64))) (0 : Int64)) = (0 : Int32)
        · obtain ⟨T41, X41, e41, st41⟩ := getF X36 hx hZ hown (host := "") (Or.inl (own_w hw 12 rfl)) Via.refl e36 F30 (g := (mkF m 72 #[.val (.ref dd), .val (.int lv), .val (.int (0 : Int32)), .val (.long (own_bit lv)), .second] [(.ref dd)])) rfl rfl (hb hby d15_72)
          obtain ⟨T42, X42, e42, st42⟩ := getF X41 hx hZ hown (host := "") (Or.inl (own_w hw 12 rfl)) Via.refl e41 F30 (g := (mkF m 79 #[.val (.ref dd), .val (.int lv), .val (.int (0 : Int32)), .val (.long (own_bit lv)), .second] [(.ref dd), (.int (1 : Int32)), (.ref ka)])) rfl rfl (hb hby d15_79)
          obtain ⟨T43, X43, e43, st43⟩ := getF X42 hx hZ hown (host := "") (Or.inl (own_w hw 23 rfl)) Via.refl e42 F32 (g := (mkF m 84 #[.val (.ref dd), .val (.int lv), .val (.int (0 : Int32)), .val (.long (own_bit lv)), .second] [(.ref dd), (.int (0 : Int32)), (.ref ka), (.int (1 : Int32)), (.ref ka)])) rfl rfl (hb hby d15_84)
          obtain ⟨T44, h44, L44, X44, e44, N44, K44q, A44, st44⟩ := cpA X43 hx hZ hown (own_w hw 57 rfl) (own_w hw 52 rfl) (own_w hw 50 rfl) (own_w hw 51 rfl) e43 A34 A34 (Or.inl ⟨rfl, rfl⟩) (by decide) (by decide) (by decide) (by decide) (by decide) (us := []) rfl (Nat.le_of_ble_eq_true rfl) N28 hka (g := (mkF m 91 #[.val (.ref dd), .val (.int lv), .val (.int (0 : Int32)), .val (.long (own_bit lv)), .second] [(.int (0 : Int32)), (.int (0 : Int32)), (.ref ka), (.int (1 : Int32)), (.ref ka)])) rfl (by rw [hml]; rfl) rfl (hb hby d15_91) (by decide) (W := 0) (by show 2 * 0 + _ ≤ _; exact Nat.le_of_eq rfl) (by decide)
          have V44 : Arv Z h44 ka kk .int (1 : Int32) [(.int k0)] (.int (0 : Int32)) := A44
          have E45 := E29.keep K44q
          have F46 := F30.keep K44q (ninS hn1 nin0)
          have F47 := F31.keep K44q (ninS hn1 nin0)
          have F48 := F32.keep K44q (ninS hn1 nin0)
          have F49 := F33.keep K44q (ninS hn1 nin0)
          have A50 := V28.keep K44q (ninS (Ne.symm hn3) nin0)
          have K44 : Keep h0 h44 [dd, ka, wa] := K28.trans K44q (allS (Or.inl (List.mem_of_getElem? (i := 1) rfl)) all0)
          have Zs51 : n0 ≤ h44.size := (Nat.le_trans Zs35 K44q.1)
          obtain ⟨T52, X52, e52, st52⟩ := getF X44 hx hZ hown (host := "") (Or.inl (own_w hw 16 rfl)) Via.refl e44 F47 (g := (mkF m 95 #[.val (.ref dd), .val (.int lv), .val (.int (0 : Int32)), .val (.long (own_bit lv)), .second] [(.ref dd)])) rfl rfl (hb hby d15_95)
          obtain ⟨T53, X53, e53, st53⟩ := getF X52 hx hZ hown (host := "") (Or.inl (own_w hw 16 rfl)) Via.refl e52 F47 (g := (mkF m 102 #[.val (.ref dd), .val (.int lv), .val (.int (0 : Int32)), .val (.long (own_bit lv)), .second] [(.ref dd), (.int (1 : Int32)), (.ref wa)])) rfl rfl (hb hby d15_102)
          obtain ⟨T54, X54, e54, st54⟩ := getF X53 hx hZ hown (host := "") (Or.inl (own_w hw 23 rfl)) Via.refl e53 F48 (g := (mkF m 107 #[.val (.ref dd), .val (.int lv), .val (.int (0 : Int32)), .val (.long (own_bit lv)), .second] [(.ref dd), (.int (0 : Int32)), (.ref wa), (.int (1 : Int32)), (.ref wa)])) rfl rfl (hb hby d15_107)
          obtain ⟨T55, h55, L55, X55, e55, N55, K55q, A55, st55⟩ := cpA X54 hx hZ hown (own_w hw 57 rfl) (own_w hw 52 rfl) (own_w hw 50 rfl) (own_w hw 51 rfl) e54 A50 A50 (Or.inl ⟨rfl, rfl⟩) (by decide) (by decide) (by decide) (by decide) (by decide) (us := []) rfl (Nat.le_of_ble_eq_true rfl) N44 hwa (g := (mkF m 114 #[.val (.ref dd), .val (.int lv), .val (.int (0 : Int32)), .val (.long (own_bit lv)), .second] [(.int (0 : Int32)), (.int (0 : Int32)), (.ref wa), (.int (1 : Int32)), (.ref wa)])) rfl (by rw [hml]; rfl) rfl (hb hby d15_114) (by decide) (W := 0) (by show 2 * 0 + _ ≤ _; exact Nat.le_of_eq rfl) (by decide)
          have V55 : Arv Z h55 wa kw .long (1 : Int32) [(.long (w0 &&& ((own_bit lv) ^^^ (-1 : Int64))))] (.long (0 : Int64)) := A55
          have E56 := E45.keep K55q
          have F57 := F46.keep K55q (ninS hn2 nin0)
          have F58 := F47.keep K55q (ninS hn2 nin0)
          have F59 := F48.keep K55q (ninS hn2 nin0)
          have F60 := F49.keep K55q (ninS hn2 nin0)
          have A61 := V44.keep K55q (ninS hn3 nin0)
          have K55 : Keep h0 h55 [dd, ka, wa] := K44.trans K55q (allS (Or.inl (List.mem_of_getElem? (i := 2) rfl)) all0)
          have Zs62 : n0 ≤ h55.size := (Nat.le_trans Zs51 K55q.1)
          obtain ⟨T63, X63, e63, st63⟩ := getF X55 hx hZ hown (host := "") (Or.inl (own_w hw 23 rfl)) Via.refl e55 F59 (g := (mkF m 119 #[.val (.ref dd), .val (.int lv), .val (.int (0 : Int32)), .val (.long (own_bit lv)), .second] [(.ref dd), (.ref dd)])) rfl rfl (hb hby d15_119)
          obtain ⟨T64, h64, X64, e64, W64, st64⟩ := putF X63 hx hZ hown (host := "") (Or.inl (own_w hw 23 rfl)) Via.refl e63 F59 E56 (Or.inl (own_w hw 24 rfl)) (own_w hw 2 rfl) (ty := .int) (by decide) rfl rfl (g := (mkF m 124 #[.val (.ref dd), .val (.int lv), .val (.int (0 : Int32)), .val (.long (own_bit lv)), .second] [(.int (0 : Int32)), (.ref dd)])) rfl rfl (hb hby d15_124)
          have Fw64 : Fld Z h64 dd "org/tallyrole/core/Dependencies" "size" "I" (.int (0 : Int32)) := F59.same W64
          have E65 := E56.wr W64
          have F66 := F57.other W64 (Or.inr (slot_ne (Or.inl (own_w hw 13 rfl)) (Or.inl (own_w hw 24 rfl)) (by decide) (t := (.array .int)) (t' := .int) (by decide) (by decide)))
          have F67 := F58.other W64 (Or.inr (slot_ne (Or.inl (own_w hw 17 rfl)) (Or.inl (own_w hw 24 rfl)) (by decide) (t := (.array .long)) (t' := .int) (by decide) (by decide)))
          have F68 := F60.other W64 (Or.inr (slot_ne (Or.inl (own_w hw 40 rfl)) (Or.inl (own_w hw 24 rfl)) (by decide) (t := .boolean) (t' := .int) (by decide) (by decide)))
          have A69 := A61.other W64 (Ne.symm hn1)
          have A70 := V55.other W64 (Ne.symm hn2)
          have N64 := Fr.snoc X64 N55 hdd
          have K64 : Keep h0 h64 [dd, ka, wa] := K55.wr W64 (Or.inl (List.mem_of_getElem? (i := 0) rfl))
          have Zs71 : n0 ≤ h64.size := (Nat.le_trans Zs62 (Keep.of_wr W64).1)
          have pre72 := fun (t : State) (k : Steps p.tables e below (T64.setTop (mkF m 127 #[.val (.ref dd), .val (.int lv), .val (.int (0 : Int32)), .val (.long (own_bit lv)), .second] [])) t) => pre39 t (by
            refine XS.ifNo X36.here hx rfl (hb hby d15_68) rfl ((if0 _ _).trans (teq hc40).2) ?_
            refine XS.aloadN X36.here hx rfl (hb hby d15_71) rfl rfl ?_
            refine st41 _ ?_
            refine XS.iloadN X41.here hx rfl (hb hby d15_75) rfl ?_
            refine XS.iconst X41.here hx rfl (hb hby d15_76) ?_
            refine XS.iadd X41.here hx rfl (hb hby d15_77) rfl ?_
            refine XS.aloadN X41.here hx rfl (hb hby d15_78) rfl rfl ?_
            refine st42 _ ?_
            refine XS.iloadN X42.here hx rfl (hb hby d15_82) rfl ?_
            refine XS.aloadN X42.here hx rfl (hb hby d15_83) rfl rfl ?_
            refine st43 _ ?_
            refine XS.iloadN X43.here hx rfl (hb hby d15_87) rfl ?_
            refine XS.isub X43.here hx rfl (hb hby d15_88) rfl ?_
            refine XS.iconst X43.here hx rfl (hb hby d15_89) ?_
            refine XS.isub X43.here hx rfl (hb hby d15_90) rfl ?_
            refine st44 _ ?_
            refine XS.aloadN X44.here hx rfl (hb hby d15_94) rfl rfl ?_
            refine st52 _ ?_
            refine XS.iloadN X52.here hx rfl (hb hby d15_98) rfl ?_
            refine XS.iconst X52.here hx rfl (hb hby d15_99) ?_
            refine XS.iadd X52.here hx rfl (hb hby d15_100) rfl ?_
            refine XS.aloadN X52.here hx rfl (hb hby d15_101) rfl rfl ?_
            refine st53 _ ?_
            refine XS.iloadN X53.here hx rfl (hb hby d15_105) rfl ?_
            refine XS.aloadN X53.here hx rfl (hb hby d15_106) rfl rfl ?_
            refine st54 _ ?_
            refine XS.iloadN X54.here hx rfl (hb hby d15_110) rfl ?_
            refine XS.isub X54.here hx rfl (hb hby d15_111) rfl ?_
            refine XS.iconst X54.here hx rfl (hb hby d15_112) ?_
            refine XS.isub X54.here hx rfl (hb hby d15_113) rfl ?_
            refine st55 _ ?_
            refine XS.aloadN X55.here hx rfl (hb hby d15_117) rfl rfl ?_
            refine XS.dup X55.here hx rfl (hb hby d15_118) rfl rfl ?_
            refine st63 _ ?_
            refine XS.iconst X63.here hx rfl (hb hby d15_122) ?_
            refine XS.isub X63.here hx rfl (hb hby d15_123) rfl ?_
            refine st64 _ ?_
            exact k)
          obtain ⟨fs, hr, hrun, hended, hW, hsame⟩ := X64.leave (v := none) (hlocks := BodyLoose.notSynchronized Bd) (fun _ => rfl)
          refine ⟨_, _, pre72 _ ?_, hrun, hended, _, _, rfl, ?_, ⟨_, rfl⟩, hW, hsame.mono (by decide) (by decide)⟩
          · exact X64.returnOut hx Bd.returns (hb hby d15_127) hr
          · show Q_rm Z dd ka wa kk kw (1 : Int32) (1 : Int32) [(.int k0)] [(.long w0)] SS lv h0 n0 _ T64.heap _
            rw [e64]
            exact ⟨ka, wa, kk, kw, (1 : Int32), (0 : Int32), [(.int k0)], [(.long (w0 &&& ((own_bit lv) ^^^ (-1 : Int64))))], rfl, N64, K64, hka, hwa, (Or.inl rfl), (Or.inl rfl), hn1, hn2, hn3, (Or.inl ⟨_, _, rfl, rfl, rfl, rfl, (own_r_out (A := []) (B := []) hrr (own_eq_of hb10 hb11) ((lw_eq _ _).mp hc40))⟩), E65, F66, F67, Fw64, F68, A69, A70⟩
        · have pre73 := fun (t : State) (k : Steps p.tables e below (T36.setTop (mkF m 127 #[.val (.ref dd), .val (.int lv), .val (.int (0 : Int32)), .val (.long (own_bit lv)), .second] [])) t) => pre39 t (by
            refine XS.ifYes X36.here hx rfl (pc0 := 68) (pc' := 127) rfl (hb hby d15_68) rfl ((if0 _ _).trans (feq hc40).2) (by decide) (by decide) ?_
            exact k)
          obtain ⟨fs, hr, hrun, hended, hW, hsame⟩ := X36.leave (v := none) (hlocks := BodyLoose.notSynchronized Bd) (fun _ => rfl)
          refine ⟨_, _, pre73 _ ?_, hrun, hended, _, _, rfl, ?_, ⟨_, rfl⟩, hW, hsame.mono (by decide) (by decide)⟩
          · exact X36.returnOut hx Bd.returns (hb hby d15_127) hr
          · show Q_rm Z dd ka wa kk kw (1 : Int32) (1 : Int32) [(.int k0)] [(.long w0)] SS lv h0 n0 _ T36.heap _
            rw [e36]
            exact ⟨ka, wa, kk, kw, (1 : Int32), (1 : Int32), [(.int k0)], [(.long (w0 &&& ((own_bit lv) ^^^ (-1 : Int64))))], rfl, N28, K28, hka, hwa, (Or.inl rfl), (Or.inl rfl), hn1, hn2, hn3, (Or.inr (Or.inl ⟨_, _, rfl, rfl, rfl, rfl, (own_r_clr (A := []) (B := []) hrr (own_eq_of hb10 hb11) (fun q => hc40 ((lw_eq _ _).mpr q)))⟩)), E29, F30, F31, F32, F33, A34, V28⟩
  · have ho0 : k0 < k1 := own_o0 hrr
    obtain ⟨T74, X74, e74, st74⟩ := getF X0 hx hZ hown (host := "") (Or.inl (own_w hw 12 rfl)) Via.refl e0 H1_F (g := (mkF m 1 #[.val (.ref dd), .val (.int lv), .unset, .unset, .unset] [(.ref dd)])) rfl rfl (hb hby d15_1)
    obtain ⟨T75, X75, e75, st75⟩ := getF X74 hx hZ hown (host := "") (Or.inl (own_w hw 23 rfl)) Via.refl e74 H3_F (g := (mkF m 6 #[.val (.ref dd), .val (.int lv), .unset, .unset, .unset] [(.ref dd), (.int (0 : Int32)), (.ref ka)])) rfl rfl (hb hby d15_6)
    obtain ⟨_, _, ⟨T76, L76, k76, n76⟩, -, X76, ⟨Lc76, hQ76, l76, y76, z76⟩, st76⟩ := Jvm.LawKit.callS X75 hx (y := (⟨"java/util/Arrays", "binarySearch", "([IIII)I"⟩ : MethodName)) hown (mvT hZ (own_w hw 25 rfl)) (mvT hZ (own_w hw 26 rfl)) (mvT hZ (own_w hw 27 rfl)) (mvT hZ (own_w hw 28 rfl)) (by decide) (backOf (W := 0) (rm_bs2_3 l Z a0 hw [] ka kk k0 k1 g2 (own_key lv) h0 n0 Z0 H5_A) hZ (own_w hw 28 rfl) (own_w hw 27 rfl) (by decide) (by decide)) (g := (mkF m 13 #[.val (.ref dd), .val (.int lv), .unset, .unset, .unset] [(.int (own_key lv)), (.int (2 : Int32)), (.int (0 : Int32)), (.ref ka)])) rfl (by rw [hml]; rfl) (argsL := [(.ref ka), (.int (0 : Int32)), (.int (2 : Int32)), (.int (own_key lv))]) (rest := []) (lenOf pd_1 rfl) rfl (by show 2 * 0 + _ ≤ _; exact Nat.le_of_eq rfl) (hb hby d15_13) (fun _ _ => ⟨rfl, e75, (by decide : 0 + 0 ≤ _), (by decide : 0 + 0 ≤ _)⟩)
    dsimp only [Pt.U, Pt.locs, Pt.cells, Pt.slots] at X76 l76 y76 z76 st76 hQ76
    subst l76 y76 z76
    obtain ⟨x77, rfl, N76q, hq78, hpq79⟩ := hQ76
    have N76 := Fr.app N0 N76q
    have pre92 := fun (t : State) (k : Steps p.tables e below (T76.setTop (mkF m 16 #[.val (.ref dd), .val (.int lv), .unset, .unset, .unset] [(.int x77)])) t) => pre0 t (by
      refine XS.aloadN X0.here hx rfl (hb hby d15_0) rfl rfl ?_
      refine st74 _ ?_
      refine XS.iconst X74.here hx rfl (hb hby d15_4) ?_
      refine XS.aloadN X74.here hx rfl (hb hby d15_5) rfl rfl ?_
      refine st75 _ ?_
      refine XS.iloadN X75.here hx rfl (hb hby d15_9) rfl ?_
      refine XS.bipush X75.here hx rfl (hb hby d15_10) ?_
      refine XS.iushr X75.here hx rfl (hb hby d15_12) rfl ?_
      show Steps p.tables e below (T75.setTop (mkF m 13 #[.val (.ref dd), .val (.int lv), .unset, .unset, .unset] [(.int (own_key lv)), (.int (2 : Int32)), (.int (0 : Int32)), (.ref ka)])) _
      refine st76 _ ?_
      exact k)
    rcases hpq79 with ⟨rfl, hb80, hb81⟩ | ⟨rfl, hb82, hb83, hb84⟩ | ⟨rfl, hb85, hb86, hb87⟩ | ⟨rfl, hb88, hb89⟩ | ⟨rfl, hb90, hb91⟩
    · have pre93 := fun (t : State) (k : Steps p.tables e below (T76.setTop (mkF m 127 #[.val (.ref dd), .val (.int lv), .val (.int (-3 : Int32)), .val (.long (own_bit lv)), .second] [])) t) => pre92 t (by
        refine XS.istoreN X76.here hx rfl (hb hby d15_16) rfl (l' := #[.val (.ref dd), .val (.int lv), .val (.int (-3 : Int32)), .unset, .unset]) rfl ?_
        refine XS.lconst X76.here hx rfl (hb hby d15_17) ?_
        refine XS.iloadN X76.here hx rfl (hb hby d15_18) rfl ?_
        refine XS.lshl X76.here hx rfl (hb hby d15_19) rfl ?_
        show Steps p.tables e below (T76.setTop (mkF m 20 #[.val (.ref dd), .val (.int lv), .val (.int (-3 : Int32)), .unset, .unset] [(.long (own_bit lv))])) _
        refine XS.lstoreN X76.here hx rfl (hb hby d15_20) rfl (l' := #[.val (.ref dd), .val (.int lv), .val (.int (-3 : Int32)), .val (.long (own_bit lv)), .second]) rfl ?_
        refine XS.iloadN X76.here hx rfl (hb hby d15_21) rfl ?_
        refine XS.ifYes X76.here hx rfl (pc0 := 22) (pc' := 127) rfl (hb hby d15_22) rfl ((if0 _ _).trans (tlt (by decide : (-3 : Int32) < (0 : Int32))).1) (by decide) (by decide) ?_
        exact k)
      obtain ⟨fs, hr, hrun, hended, hW, hsame⟩ := X76.leave (v := none) (hlocks := BodyLoose.notSynchronized Bd) (fun _ => rfl)
      refine ⟨_, _, pre93 _ ?_, hrun, hended, _, _, rfl, ?_, ⟨_, rfl⟩, hW, hsame.mono (by decide) (by decide)⟩
      · exact X76.returnOut hx Bd.returns (hb hby d15_127) hr
      · show Q_rm Z dd ka wa kk kw (3 : Int32) (2 : Int32) [(.int k0), (.int k1), (.int g2)] [(.long w0), (.long w1), (.long q2)] SS lv h0 n0 _ T76.heap _
        rw [hq78]
        exact ⟨ka, wa, kk, kw, (3 : Int32), (2 : Int32), [(.int k0), (.int k1), (.int g2)], [(.long w0), (.long w1), (.long q2)], rfl, N76, K0, hka, hwa, (Or.inl rfl), (Or.inl rfl), hn1, hn2, hn3, (Or.inr (Or.inr (Or.inr (Or.inl ⟨_, _, _, _, _, _, rfl, rfl, rfl, rfl, (own_r_no hrr (List.forall_mem_cons.mpr ⟨(own_ne_lt hb80), (List.forall_mem_cons.mpr ⟨(own_ne_lt hb81), (List.forall_mem_nil _)⟩)⟩))⟩)))), H0_E, H1_F, H2_F, H3_F, H4_F, H5_A, H6_A⟩
    · have pre94 := fun (t : State) (k : Steps p.tables e below (T76.setTop (mkF m 127 #[.val (.ref dd), .val (.int lv), .val (.int (-2 : Int32)), .val (.long (own_bit lv)), .second] [])) t) => pre92 t (by
        refine XS.istoreN X76.here hx rfl (hb hby d15_16) rfl (l' := #[.val (.ref dd), .val (.int lv), .val (.int (-2 : Int32)), .unset, .unset]) rfl ?_
        refine XS.lconst X76.here hx rfl (hb hby d15_17) ?_
        refine XS.iloadN X76.here hx rfl (hb hby d15_18) rfl ?_
        refine XS.lshl X76.here hx rfl (hb hby d15_19) rfl ?_
        show Steps p.tables e below (T76.setTop (mkF m 20 #[.val (.ref dd), .val (.int lv), .val (.int (-2 : Int32)), .unset, .unset] [(.long (own_bit lv))])) _
        refine XS.lstoreN X76.here hx rfl (hb hby d15_20) rfl (l' := #[.val (.ref dd), .val (.int lv), .val (.int (-2 : Int32)), .val (.long (own_bit lv)), .second]) rfl ?_
        refine XS.iloadN X76.here hx rfl (hb hby d15_21) rfl ?_
        refine XS.ifYes X76.here hx rfl (pc0 := 22) (pc' := 127) rfl (hb hby d15_22) rfl ((if0 _ _).trans (tlt (by decide : (-2 : Int32) < (0 : Int32))).1) (by decide) (by decide) ?_
        exact k)
      obtain ⟨fs, hr, hrun, hended, hW, hsame⟩ := X76.leave (v := none) (hlocks := BodyLoose.notSynchronized Bd) (fun _ => rfl)
      refine ⟨_, _, pre94 _ ?_, hrun, hended, _, _, rfl, ?_, ⟨_, rfl⟩, hW, hsame.mono (by decide) (by decide)⟩
      · exact X76.returnOut hx Bd.returns (hb hby d15_127) hr
      · show Q_rm Z dd ka wa kk kw (3 : Int32) (2 : Int32) [(.int k0), (.int k1), (.int g2)] [(.long w0), (.long w1), (.long q2)] SS lv h0 n0 _ T76.heap _
        rw [hq78]
        exact ⟨ka, wa, kk, kw, (3 : Int32), (2 : Int32), [(.int k0), (.int k1), (.int g2)], [(.long w0), (.long w1), (.long q2)], rfl, N76, K0, hka, hwa, (Or.inl rfl), (Or.inl rfl), hn1, hn2, hn3, (Or.inr (Or.inr (Or.inr (Or.inl ⟨_, _, _, _, _, _, rfl, rfl, rfl, rfl, (own_r_no hrr (List.forall_mem_cons.mpr ⟨(own_ne_lt hb82), (List.forall_mem_cons.mpr ⟨(own_ne_gt hb84), (List.forall_mem_nil _)⟩)⟩))⟩)))), H0_E, H1_F, H2_F, H3_F, H4_F, H5_A, H6_A⟩
    · obtain ⟨T95, X95, e95, st95⟩ := getF X76 hx hZ hown (host := "") (Or.inl (own_w hw 16 rfl)) Via.refl hq78 H2_F (g := (mkF m 26 #[.val (.ref dd), .val (.int lv), .val (.int (1 : Int32)), .val (.long (own_bit lv)), .second] [(.ref dd)])) rfl rfl (hb hby d15_26)
      have oc96 := H6_A
      obtain ⟨c96, Arc96, qc96, Sc96, Nc96, Hc96, Gc96⟩ := oc96
      have hin97 : ¬ ((1 : Int32) < 0 ∨ c96.slots.size ≤ ((1 : Int32)).toNatClampNeg) := (inb_of Sc96 ⟨by decide, by decide⟩)
      have pre98 := fun (t : State) (k : Steps p.tables e below (T95.setTop (mkF m 35 #[.val (.ref dd), .val (.int lv), .val (.int (1 : Int32)), .val (.long (own_bit lv)), .second] [(.int (lcmpW (w1 &&& (own_bit lv)) (0 : Int64)))])) t) => pre92 t (by
        refine XS.istoreN X76.here hx rfl (hb hby d15_16) rfl (l' := #[.val (.ref dd), .val (.int lv), .val (.int (1 : Int32)), .unset, .unset]) rfl ?_
        refine XS.lconst X76.here hx rfl (hb hby d15_17) ?_
        refine XS.iloadN X76.here hx rfl (hb hby d15_18) rfl ?_
        refine XS.lshl X76.here hx rfl (hb hby d15_19) rfl ?_
        show Steps p.tables e below (T76.setTop (mkF m 20 #[.val (.ref dd), .val (.int lv), .val (.int (1 : Int32)), .unset, .unset] [(.long (own_bit lv))])) _
        refine XS.lstoreN X76.here hx rfl (hb hby d15_20) rfl (l' := #[.val (.ref dd), .val (.int lv), .val (.int (1 : Int32)), .val (.long (own_bit lv)), .second]) rfl ?_
        refine XS.iloadN X76.here hx rfl (hb hby d15_21) rfl ?_
        refine XS.ifNo X76.here hx rfl (hb hby d15_22) rfl ((if0 _ _).trans (flt (by decide : ¬ ((1 : Int32) < (0 : Int32)))).1) ?_
        refine XS.aloadN X76.here hx rfl (hb hby d15_25) rfl rfl ?_
        refine st95 _ ?_
        refine XS.iloadN X95.here hx rfl (hb hby d15_29) rfl ?_
        refine X95.laload hx (j := (1 : Int32)) (v := (.long w1)) (by rw [e95]; exact Arc96.1) (State.isArrayOf_alike hZ.alike Arc96.2.1) Arc96.2.2 hin97 (Has.at Hc96 hin97 rfl) (g := (mkF m 30 #[.val (.ref dd), .val (.int lv), .val (.int (1 : Int32)), .val (.long (own_bit lv)), .second] [(.int (1 : Int32)), (.ref wa)])) rfl rfl (hb hby d15_30) _ ?_
        refine XS.lloadN X95.here hx rfl (hb hby d15_31) rfl ?_
        refine XS.land X95.here hx rfl (hb hby d15_32) rfl ?_
        refine XS.lconst X95.here hx rfl (hb hby d15_33) ?_
        refine XS.lcmp X95.here hx rfl (hb hby d15_34) rfl ?_
        exact k)
      by_cases hc99 : (lcmpW (w1 &&& (own_bit lv)) (0 : Int64)) = (0 : Int32)
      · have pre100 := fun (t : State) (k : Steps p.tables e below (T95.setTop (mkF m 127 #[.val (.ref dd), .val (.int lv), .val (.int (1 : Int32)), .val (.long (own_bit lv)), .second] [])) t) => pre98 t (by
          refine XS.ifYes X95.here hx rfl (pc0 := 35) (pc' := 127) rfl (hb hby d15_35) rfl ((if0 _ _).trans (teq hc99).1) (by decide) (by decide) ?_
          exact k)
        obtain ⟨fs, hr, hrun, hended, hW, hsame⟩ := X95.leave (v := none) (hlocks := BodyLoose.notSynchronized Bd) (fun _ => rfl)
        refine ⟨_, _, pre100 _ ?_, hrun, hended, _, _, rfl, ?_, ⟨_, rfl⟩, hW, hsame.mono (by decide) (by decide)⟩
        · exact X95.returnOut hx Bd.returns (hb hby d15_127) hr
        · show Q_rm Z dd ka wa kk kw (3 : Int32) (2 : Int32) [(.int k0), (.int k1), (.int g2)] [(.long w0), (.long w1), (.long q2)] SS lv h0 n0 _ T95.heap _
          rw [e95]
          exact ⟨ka, wa, kk, kw, (3 : Int32), (2 : Int32), [(.int k0), (.int k1), (.int g2)], [(.long w0), (.long w1), (.long q2)], rfl, N76, K0, hka, hwa, (Or.inl rfl), (Or.inl rfl), hn1, hn2, hn3, (Or.inr (Or.inr (Or.inr (Or.inl ⟨_, _, _, _, _, _, rfl, rfl, rfl, rfl, (own_r_off (A := [(k0, w0)]) (B := []) hrr (own_eq_of hb86 hb87) ((lw_eq _ _).mp hc99))⟩)))), H0_E, H1_F, H2_F, H3_F, H4_F, H5_A, H6_A⟩
      · obtain ⟨T101, X101, e101, st101⟩ := getF X95 hx hZ hown (host := "") (Or.inl (own_w hw 23 rfl)) Via.refl e95 H3_F (g := (mkF m 40 #[.val (.ref dd), .val (.int lv), .val (.int (1 : Int32)), .val (.long (own_bit lv)), .second] [(.ref dd), (.ref dd)])) rfl rfl (hb hby d15_40)
        obtain ⟨cq102, q102, q102'⟩ := H0_E.cell
        obtain ⟨_, _, ⟨T102, L102, k102, n102⟩, -, X102, ⟨Lc102, hQ102, l102, y102, z102⟩, st102⟩ := X101.privateBack hx (y := (⟨"org/tallyrole/core/Dependencies", "reserve", "(I)V"⟩ : MethodName)) hown (mvT hZ (own_w hw 35 rfl)) (mvT hZ (own_w hw 36 rfl)) (own_sel_priv (z := (⟨"org/tallyrole/core/Dependencies", "add", "(I)V"⟩ : MethodName)) (mvT hZ (own_w hw 21 rfl)) rfl (mvP hZ (own_w hw 37 rfl)) (mvT hZ (own_w hw 36 rfl)) (by decide)) (Cond.privateMethod_at (mvP hZ (own_w hw 37 rfl) (args := #[]))) (mvT hZ (own_w hw 38 rfl)) (by decide) (backOf (W := 0) (rm_rvN l Z a0 hw [] dd ka kk (3 : Int32) [(.int k0), (.int k1), (.int g2)] (2 : Int32) h0 n0 Z0 H0_E H1_F H4_F H5_A (by decide)) hZ (own_w hw 38 rfl) (own_w hw 3 rfl) (by decide) (by decide)) (g := (mkF m 43 #[.val (.ref dd), .val (.int lv), .val (.int (1 : Int32)), .val (.long (own_bit lv)), .second] [(.int (2 : Int32)), (.ref dd)])) rfl (by rw [hml]; rfl) (Steps.refl _) (a := dd) (by rw [e101]; exact q102) q102' (argsL := [(.int (2 : Int32))]) (rest := []) (lenOf pd_7 rfl) rfl (by show 2 * 0 + _ ≤ _; exact Nat.le_of_eq rfl) (hb hby d15_43) (fun _ _ => ⟨rfl, e101, (by decide : 0 + 0 ≤ _), (by decide : 0 + 0 ≤ _)⟩)
        dsimp only [Pt.U, Pt.locs, Pt.cells, Pt.slots] at X102 l102 y102 z102 st102 hQ102
        subst l102 y102 z102
        obtain ⟨rfl, N102q, hq103⟩ := hQ102
        have N102 := Fr.app N76 N102q
        obtain ⟨T104, X104, e104, st104⟩ := getF X102 hx hZ hown (host := "") (Or.inl (own_w hw 16 rfl)) Via.refl hq103 H2_F (g := (mkF m 47 #[.val (.ref dd), .val (.int lv), .val (.int (1 : Int32)), .val (.long (own_bit lv)), .second] [(.ref dd)])) rfl rfl (hb hby d15_47)
        have oc105 := H6_A
        obtain ⟨c105, Arc105, qc105, Sc105, Nc105, Hc105, Gc105⟩ := oc105
        have hin106 : ¬ ((1 : Int32) < 0 ∨ c105.slots.size ≤ ((1 : Int32)).toNatClampNeg) := (inb_of Sc105 ⟨by decide, by decide⟩)
        have oc107 := H6_A
        obtain ⟨c107, Arc107, qc107, Sc107, Nc107, Hc107, Gc107⟩ := oc107
        have hin108 : ¬ ((1 : Int32) < 0 ∨ c107.slots.size ≤ ((1 : Int32)).toNatClampNeg) := (inb_of Sc107 ⟨by decide, by decide⟩)
        obtain ⟨T108, h108, X108, e108, W108, st108⟩ := stJ X104 hx hZ e104 Arc107 (j := (1 : Int32)) hin108 (g := (mkF m 59 #[.val (.ref dd), .val (.int lv), .val (.int (1 : Int32)), .val (.long (own_bit lv)), .second] [(.long (w1 &&& ((own_bit lv) ^^^ (-1 : Int64)))), (.int (1 : Int32)), (.ref wa)])) rfl rfl (hb hby d15_59)
        have V108 : Arv Z h108 wa kw .long (3 : Int32) [(.long w0), (.long (w1 &&& ((own_bit lv) ^^^ (-1 : Int64)))), (.long q2)] (.long (0 : Int64)) := Arv.set Arc107 qc107 Sc107 Nc107 Hc107 Gc107 rfl W108 1 rfl (Nat.le_of_ble_eq_true rfl)
        have E109 := H0_E.wr W108
        have F110 := H1_F.other W108 (Or.inl hn2)
        have F111 := H2_F.other W108 (Or.inl hn2)
        have F112 := H3_F.other W108 (Or.inl hn2)
        have F113 := H4_F.other W108 (Or.inl hn2)
        have A114 := H5_A.other W108 hn3
        have N108 := Fr.snoc X108 N102 hwa
        have K108 : Keep h0 h108 [dd, ka, wa] := K0.wr W108 (Or.inl (List.mem_of_getElem? (i := 2) rfl))
        have Zs115 : n0 ≤ h108.size := (Nat.le_trans Z0 (Keep.of_wr W108).1)
        obtain ⟨T116, X116, e116, st116⟩ := getF X108 hx hZ hown (host := "") (Or.inl (own_w hw 16 rfl)) Via.refl e108 F111 (g := (mkF m 61 #[.val (.ref dd), .val (.int lv), .val (.int (1 : Int32)), .val (.long (own_bit lv)), .second] [(.ref dd)])) rfl rfl (hb hby d15_61)
        have oc117 := V108
        obtain ⟨c117, Arc117, qc117, Sc117, Nc117, Hc117, Gc117⟩ := oc117
        have hin118 : ¬ ((1 : Int32) < 0 ∨ c117.slots.size ≤ ((1 : Int32)).toNatClampNeg) := (inb_of Sc117 ⟨by decide, by decide⟩)
        have pre119 := fun (t : State) (k : Steps p.tables e below (T116.setTop (mkF m 68 #[.val (.ref dd), .val (.int lv), .val (.int (1 : Int32)), .val (.long (own_bit lv)), .second] [(.int (lcmpW (w1 &&& ((own_bit lv) ^^^ (-1 : Int64))) (0 : Int64)))])) t) => pre98 t (by
          refine XS.ifNo X95.here hx rfl (hb hby d15_35) rfl ((if0 _ _).trans (feq hc99).1) ?_
          refine XS.aloadN X95.here hx rfl (hb hby d15_38) rfl rfl ?_
          refine XS.aloadN X95.here hx rfl (hb hby d15_39) rfl rfl ?_
          refine st101 _ ?_
          refine st102.trans ?_
          refine XS.aloadN X102.here hx rfl (hb hby d15_46) rfl rfl ?_
          refine st104 _ ?_
          refine XS.iloadN X104.here hx rfl (hb hby d15_50) rfl ?_
          jvm_step X104.here [X104.here.top, hx, (hb hby d15_51), Value.category]
          refine X104.laload hx (j := (1 : Int32)) (v := (.long w1)) (by rw [e104]; exact Arc105.1) (State.isArrayOf_alike hZ.alike Arc105.2.1) Arc105.2.2 hin106 (Has.at Hc105 hin106 rfl) (g := (mkF m 52 #[.val (.ref dd), .val (.int lv), .val (.int (1 : Int32)), .val (.long (own_bit lv)), .second] [(.int (1 : Int32)), (.ref wa), (.int (1 : Int32)), (.ref wa)])) rfl rfl (hb hby d15_52) _ ?_
          refine XS.lloadN X104.here hx rfl (hb hby d15_53) rfl ?_
          refine X104.ldc2Long hx hown (mvT hZ (own_w hw 80 rfl)) (g := (mkF m 54 #[.val (.ref dd), .val (.int lv), .val (.int (1 : Int32)), .val (.long (own_bit lv)), .second] [(.long (own_bit lv)), (.long w1), (.int (1 : Int32)), (.ref wa)])) rfl (hb hby d15_54) _ ?_
          refine XS.lxor X104.here hx rfl (hb hby d15_57) rfl ?_
          refine XS.land X104.here hx rfl (hb hby d15_58) rfl ?_
          refine st108 _ ?_
          refine XS.aloadN X108.here hx rfl (hb hby d15_60) rfl rfl ?_
          refine st116 _ ?_
          refine XS.iloadN X116.here hx rfl (hb hby d15_64) rfl ?_
          refine X116.laload hx (j := (1 : Int32)) (v := (.long (w1 &&& ((own_bit lv) ^^^ (-1 : Int64))))) (by rw [e116]; exact Arc117.1) (State.isArrayOf_alike hZ.alike Arc117.2.1) Arc117.2.2 hin118 (Has.at Hc117 hin118 rfl) (g := (mkF m 65 #[.val (.ref dd), .val (.int lv), .val (.int (1 : Int32)), .val (.long (own_bit lv)), .second] [(.int (1 : Int32)), (.ref wa)])) rfl rfl (hb hby d15_65) _ ?_
          refine XS.lconst X116.here hx rfl (hb hby d15_66) ?_
          refine XS.lcmp X116.here hx rfl (hb hby d15_67) rfl ?_
          exact k)
        by_cases hc120 : (lcmpW (w1 &&& ((own_bit lv) ^^^ (-1 : Int64))) (0 : Int64)) = (0 : Int32)
        · obtain ⟨T121, X121, e121, st121⟩ := getF X116 hx hZ hown (host := "") (Or.inl (own_w hw 12 rfl)) Via.refl e116 F110 (g := (mkF m 72 #[.val (.ref dd), .val (.int lv), .val (.int (1 : Int32)), .val (.long (own_bit lv)), .second] [(.ref dd)])) rfl rfl (hb hby d15_72)
          obtain ⟨T122, X122, e122, st122⟩ := getF X121 hx hZ hown (host := "") (Or.inl (own_w hw 12 rfl)) Via.refl e121 F110 (g := (mkF m 79 #[.val (.ref dd), .val (.int lv), .val (.int (1 : Int32)), .val (.long (own_bit lv)), .second] [(.ref dd), (.int (2 : Int32)), (.ref ka)])) rfl rfl (hb hby d15_79)
          obtain ⟨T123, X123, e123, st123⟩ := getF X122 hx hZ hown (host := "") (Or.inl (own_w hw 23 rfl)) Via.refl e122 F112 (g := (mkF m 84 #[.val (.ref dd), .val (.int lv), .val (.int (1 : Int32)), .val (.long (own_bit lv)), .second] [(.ref dd), (.int (1 : Int32)), (.ref ka), (.int (2 : Int32)), (.ref ka)])) rfl rfl (hb hby d15_84)
          obtain ⟨T124, h124, L124, X124, e124, N124, K124q, A124, st124⟩ := cpA X123 hx hZ hown (own_w hw 57 rfl) (own_w hw 52 rfl) (own_w hw 50 rfl) (own_w hw 51 rfl) e123 A114 A114 (Or.inl ⟨rfl, rfl⟩) (by decide) (by decide) (by decide) (by decide) (by decide) (us := []) rfl (Nat.le_of_ble_eq_true rfl) N108 hka (g := (mkF m 91 #[.val (.ref dd), .val (.int lv), .val (.int (1 : Int32)), .val (.long (own_bit lv)), .second] [(.int (0 : Int32)), (.int (1 : Int32)), (.ref ka), (.int (2 : Int32)), (.ref ka)])) rfl (by rw [hml]; rfl) rfl (hb hby d15_91) (by decide) (W := 0) (by show 2 * 0 + _ ≤ _; exact Nat.le_of_eq rfl) (by decide)
          have V124 : Arv Z h124 ka kk .int (3 : Int32) [(.int k0), (.int k1), (.int g2)] (.int (0 : Int32)) := A124
          have E125 := E109.keep K124q
          have F126 := F110.keep K124q (ninS hn1 nin0)
          have F127 := F111.keep K124q (ninS hn1 nin0)
          have F128 := F112.keep K124q (ninS hn1 nin0)
          have F129 := F113.keep K124q (ninS hn1 nin0)
          have A130 := V108.keep K124q (ninS (Ne.symm hn3) nin0)
          have K124 : Keep h0 h124 [dd, ka, wa] := K108.trans K124q (allS (Or.inl (List.mem_of_getElem? (i := 1) rfl)) all0)
          have Zs131 : n0 ≤ h124.size := (Nat.le_trans Zs115 K124q.1)
          obtain ⟨T132, X132, e132, st132⟩ := getF X124 hx hZ hown (host := "") (Or.inl (own_w hw 16 rfl)) Via.refl e124 F127 (g := (mkF m 95 #[.val (.ref dd), .val (.int lv), .val (.int (1 : Int32)), .val (.long (own_bit lv)), .second] [(.ref dd)])) rfl rfl (hb hby d15_95)
          obtain ⟨T133, X133, e133, st133⟩ := getF X132 hx hZ hown (host := "") (Or.inl (own_w hw 16 rfl)) Via.refl e132 F127 (g := (mkF m 102 #[.val (.ref dd), .val (.int lv), .val (.int (1 : Int32)), .val (.long (own_bit lv)), .second] [(.ref dd), (.int (2 : Int32)), (.ref wa)])) rfl rfl (hb hby d15_102)
          obtain ⟨T134, X134, e134, st134⟩ := getF X133 hx hZ hown (host := "") (Or.inl (own_w hw 23 rfl)) Via.refl e133 F128 (g := (mkF m 107 #[.val (.ref dd), .val (.int lv), .val (.int (1 : Int32)), .val (.long (own_bit lv)), .second] [(.ref dd), (.int (1 : Int32)), (.ref wa), (.int (2 : Int32)), (.ref wa)])) rfl rfl (hb hby d15_107)
          obtain ⟨T135, h135, L135, X135, e135, N135, K135q, A135, st135⟩ := cpA X134 hx hZ hown (own_w hw 57 rfl) (own_w hw 52 rfl) (own_w hw 50 rfl) (own_w hw 51 rfl) e134 A130 A130 (Or.inl ⟨rfl, rfl⟩) (by decide) (by decide) (by decide) (by decide) (by decide) (us := []) rfl (Nat.le_of_ble_eq_true rfl) N124 hwa (g := (mkF m 114 #[.val (.ref dd), .val (.int lv), .val (.int (1 : Int32)), .val (.long (own_bit lv)), .second] [(.int (0 : Int32)), (.int (1 : Int32)), (.ref wa), (.int (2 : Int32)), (.ref wa)])) rfl (by rw [hml]; rfl) rfl (hb hby d15_114) (by decide) (W := 0) (by show 2 * 0 + _ ≤ _; exact Nat.le_of_eq rfl) (by decide)
          have V135 : Arv Z h135 wa kw .long (3 : Int32) [(.long w0), (.long (w1 &&& ((own_bit lv) ^^^ (-1 : Int64)))), (.long q2)] (.long (0 : Int64)) := A135
          have E136 := E125.keep K135q
          have F137 := F126.keep K135q (ninS hn2 nin0)
          have F138 := F127.keep K135q (ninS hn2 nin0)
          have F139 := F128.keep K135q (ninS hn2 nin0)
          have F140 := F129.keep K135q (ninS hn2 nin0)
          have A141 := V124.keep K135q (ninS hn3 nin0)
          have K135 : Keep h0 h135 [dd, ka, wa] := K124.trans K135q (allS (Or.inl (List.mem_of_getElem? (i := 2) rfl)) all0)
          have Zs142 : n0 ≤ h135.size := (Nat.le_trans Zs131 K135q.1)
          obtain ⟨T143, X143, e143, st143⟩ := getF X135 hx hZ hown (host := "") (Or.inl (own_w hw 23 rfl)) Via.refl e135 F139 (g := (mkF m 119 #[.val (.ref dd), .val (.int lv), .val (.int (1 : Int32)), .val (.long (own_bit lv)), .second] [(.ref dd), (.ref dd)])) rfl rfl (hb hby d15_119)
          obtain ⟨T144, h144, X144, e144, W144, st144⟩ := putF X143 hx hZ hown (host := "") (Or.inl (own_w hw 23 rfl)) Via.refl e143 F139 E136 (Or.inl (own_w hw 24 rfl)) (own_w hw 2 rfl) (ty := .int) (by decide) rfl rfl (g := (mkF m 124 #[.val (.ref dd), .val (.int lv), .val (.int (1 : Int32)), .val (.long (own_bit lv)), .second] [(.int (1 : Int32)), (.ref dd)])) rfl rfl (hb hby d15_124)
          have Fw144 : Fld Z h144 dd "org/tallyrole/core/Dependencies" "size" "I" (.int (1 : Int32)) := F139.same W144
          have E145 := E136.wr W144
          have F146 := F137.other W144 (Or.inr (slot_ne (Or.inl (own_w hw 13 rfl)) (Or.inl (own_w hw 24 rfl)) (by decide) (t := (.array .int)) (t' := .int) (by decide) (by decide)))
          have F147 := F138.other W144 (Or.inr (slot_ne (Or.inl (own_w hw 17 rfl)) (Or.inl (own_w hw 24 rfl)) (by decide) (t := (.array .long)) (t' := .int) (by decide) (by decide)))
          have F148 := F140.other W144 (Or.inr (slot_ne (Or.inl (own_w hw 40 rfl)) (Or.inl (own_w hw 24 rfl)) (by decide) (t := .boolean) (t' := .int) (by decide) (by decide)))
          have A149 := A141.other W144 (Ne.symm hn1)
          have A150 := V135.other W144 (Ne.symm hn2)
          have N144 := Fr.snoc X144 N135 hdd
          have K144 : Keep h0 h144 [dd, ka, wa] := K135.wr W144 (Or.inl (List.mem_of_getElem? (i := 0) rfl))
          have Zs151 : n0 ≤ h144.size := (Nat.le_trans Zs142 (Keep.of_wr W144).1)
          have pre152 := fun (t : State) (k : Steps p.tables e below (T144.setTop (mkF m 127 #[.val (.ref dd), .val (.int lv), .val (.int (1 : Int32)), .val (.long (own_bit lv)), .second] [])) t) => pre119 t (by
            refine XS.ifNo X116.here hx rfl (hb hby d15_68) rfl ((if0 _ _).trans (teq hc120).2) ?_
            refine XS.aloadN X116.here hx rfl (hb hby d15_71) rfl rfl ?_
            refine st121 _ ?_
            refine XS.iloadN X121.here hx rfl (hb hby d15_75) rfl ?_
            refine XS.iconst X121.here hx rfl (hb hby d15_76) ?_
            refine XS.iadd X121.here hx rfl (hb hby d15_77) rfl ?_
            refine XS.aloadN X121.here hx rfl (hb hby d15_78) rfl rfl ?_
            refine st122 _ ?_
            refine XS.iloadN X122.here hx rfl (hb hby d15_82) rfl ?_
            refine XS.aloadN X122.here hx rfl (hb hby d15_83) rfl rfl ?_
            refine st123 _ ?_
            refine XS.iloadN X123.here hx rfl (hb hby d15_87) rfl ?_
            refine XS.isub X123.here hx rfl (hb hby d15_88) rfl ?_
            refine XS.iconst X123.here hx rfl (hb hby d15_89) ?_
            refine XS.isub X123.here hx rfl (hb hby d15_90) rfl ?_
            refine st124 _ ?_
            refine XS.aloadN X124.here hx rfl (hb hby d15_94) rfl rfl ?_
            refine st132 _ ?_
            refine XS.iloadN X132.here hx rfl (hb hby d15_98) rfl ?_
            refine XS.iconst X132.here hx rfl (hb hby d15_99) ?_
            refine XS.iadd X132.here hx rfl (hb hby d15_100) rfl ?_
            refine XS.aloadN X132.here hx rfl (hb hby d15_101) rfl rfl ?_
            refine st133 _ ?_
            refine XS.iloadN X133.here hx rfl (hb hby d15_105) rfl ?_
            refine XS.aloadN X133.here hx rfl (hb hby d15_106) rfl rfl ?_
            refine st134 _ ?_
            refine XS.iloadN X134.here hx rfl (hb hby d15_110) rfl ?_
            refine XS.isub X134.here hx rfl (hb hby d15_111) rfl ?_
            refine XS.iconst X134.here hx rfl (hb hby d15_112) ?_
            refine XS.isub X134.here hx rfl (hb hby d15_113) rfl ?_
            refine st135 _ ?_
            refine XS.aloadN X135.here hx rfl (hb hby d15_117) rfl rfl ?_
            refine XS.dup X135.here hx rfl (hb hby d15_118) rfl rfl ?_
            refine st143 _ ?_
            refine XS.iconst X143.here hx rfl (hb hby d15_122) ?_
            refine XS.isub X143.here hx rfl (hb hby d15_123) rfl ?_
            refine st144 _ ?_
            exact k)
          obtain ⟨fs, hr, hrun, hended, hW, hsame⟩ := X144.leave (v := none) (hlocks := BodyLoose.notSynchronized Bd) (fun _ => rfl)
          refine ⟨_, _, pre152 _ ?_, hrun, hended, _, _, rfl, ?_, ⟨_, rfl⟩, hW, hsame.mono (by decide) (by decide)⟩
          · exact X144.returnOut hx Bd.returns (hb hby d15_127) hr
          · show Q_rm Z dd ka wa kk kw (3 : Int32) (2 : Int32) [(.int k0), (.int k1), (.int g2)] [(.long w0), (.long w1), (.long q2)] SS lv h0 n0 _ T144.heap _
            rw [e144]
            exact ⟨ka, wa, kk, kw, (3 : Int32), (1 : Int32), [(.int k0), (.int k1), (.int g2)], [(.long w0), (.long (w1 &&& ((own_bit lv) ^^^ (-1 : Int64)))), (.long q2)], rfl, N144, K144, hka, hwa, (Or.inl rfl), (Or.inl rfl), hn1, hn2, hn3, (Or.inr (Or.inr (Or.inl ⟨_, _, _, _, _, _, rfl, rfl, rfl, rfl, (own_r_out (A := [(k0, w0)]) (B := []) hrr (own_eq_of hb86 hb87) ((lw_eq _ _).mp hc120))⟩))), E145, F146, F147, Fw144, F148, A149, A150⟩
        · have pre153 := fun (t : State) (k : Steps p.tables e below (T116.setTop (mkF m 127 #[.val (.ref dd), .val (.int lv), .val (.int (1 : Int32)), .val (.long (own_bit lv)), .second] [])) t) => pre119 t (by
            refine XS.ifYes X116.here hx rfl (pc0 := 68) (pc' := 127) rfl (hb hby d15_68) rfl ((if0 _ _).trans (feq hc120).2) (by decide) (by decide) ?_
            exact k)
          obtain ⟨fs, hr, hrun, hended, hW, hsame⟩ := X116.leave (v := none) (hlocks := BodyLoose.notSynchronized Bd) (fun _ => rfl)
          refine ⟨_, _, pre153 _ ?_, hrun, hended, _, _, rfl, ?_, ⟨_, rfl⟩, hW, hsame.mono (by decide) (by decide)⟩
          · exact X116.returnOut hx Bd.returns (hb hby d15_127) hr
          · show Q_rm Z dd ka wa kk kw (3 : Int32) (2 : Int32) [(.int k0), (.int k1), (.int g2)] [(.long w0), (.long w1), (.long q2)] SS lv h0 n0 _ T116.heap _
            rw [e116]
            exact ⟨ka, wa, kk, kw, (3 : Int32), (2 : Int32), [(.int k0), (.int k1), (.int g2)], [(.long w0), (.long (w1 &&& ((own_bit lv) ^^^ (-1 : Int64)))), (.long q2)], rfl, N108, K108, hka, hwa, (Or.inl rfl), (Or.inl rfl), hn1, hn2, hn3, (Or.inr (Or.inr (Or.inr (Or.inl ⟨_, _, _, _, _, _, rfl, rfl, rfl, rfl, (own_r_clr (A := [(k0, w0)]) (B := []) hrr (own_eq_of hb86 hb87) (fun q => hc120 ((lw_eq _ _).mpr q)))⟩)))), E109, F110, F111, F112, F113, A114, V108⟩
    · have pre154 := fun (t : State) (k : Steps p.tables e below (T76.setTop (mkF m 127 #[.val (.ref dd), .val (.int lv), .val (.int (-1 : Int32)), .val (.long (own_bit lv)), .second] [])) t) => pre92 t (by
        refine XS.istoreN X76.here hx rfl (hb hby d15_16) rfl (l' := #[.val (.ref dd), .val (.int lv), .val (.int (-1 : Int32)), .unset, .unset]) rfl ?_
        refine XS.lconst X76.here hx rfl (hb hby d15_17) ?_
        refine XS.iloadN X76.here hx rfl (hb hby d15_18) rfl ?_
        refine XS.lshl X76.here hx rfl (hb hby d15_19) rfl ?_
        show Steps p.tables e below (T76.setTop (mkF m 20 #[.val (.ref dd), .val (.int lv), .val (.int (-1 : Int32)), .unset, .unset] [(.long (own_bit lv))])) _
        refine XS.lstoreN X76.here hx rfl (hb hby d15_20) rfl (l' := #[.val (.ref dd), .val (.int lv), .val (.int (-1 : Int32)), .val (.long (own_bit lv)), .second]) rfl ?_
        refine XS.iloadN X76.here hx rfl (hb hby d15_21) rfl ?_
        refine XS.ifYes X76.here hx rfl (pc0 := 22) (pc' := 127) rfl (hb hby d15_22) rfl ((if0 _ _).trans (tlt (by decide : (-1 : Int32) < (0 : Int32))).1) (by decide) (by decide) ?_
        exact k)
      obtain ⟨fs, hr, hrun, hended, hW, hsame⟩ := X76.leave (v := none) (hlocks := BodyLoose.notSynchronized Bd) (fun _ => rfl)
      refine ⟨_, _, pre154 _ ?_, hrun, hended, _, _, rfl, ?_, ⟨_, rfl⟩, hW, hsame.mono (by decide) (by decide)⟩
      · exact X76.returnOut hx Bd.returns (hb hby d15_127) hr
      · show Q_rm Z dd ka wa kk kw (3 : Int32) (2 : Int32) [(.int k0), (.int k1), (.int g2)] [(.long w0), (.long w1), (.long q2)] SS lv h0 n0 _ T76.heap _
        rw [hq78]
        exact ⟨ka, wa, kk, kw, (3 : Int32), (2 : Int32), [(.int k0), (.int k1), (.int g2)], [(.long w0), (.long w1), (.long q2)], rfl, N76, K0, hka, hwa, (Or.inl rfl), (Or.inl rfl), hn1, hn2, hn3, (Or.inr (Or.inr (Or.inr (Or.inl ⟨_, _, _, _, _, _, rfl, rfl, rfl, rfl, (own_r_no hrr (List.forall_mem_cons.mpr ⟨(own_ne_gt hb89), (List.forall_mem_cons.mpr ⟨(own_ne_gt (Int32.lt_trans hb89 ho0)), (List.forall_mem_nil _)⟩)⟩))⟩)))), H0_E, H1_F, H2_F, H3_F, H4_F, H5_A, H6_A⟩
    · obtain ⟨T155, X155, e155, st155⟩ := getF X76 hx hZ hown (host := "") (Or.inl (own_w hw 16 rfl)) Via.refl hq78 H2_F (g := (mkF m 26 #[.val (.ref dd), .val (.int lv), .val (.int (0 : Int32)), .val (.long (own_bit lv)), .second] [(.ref dd)])) rfl rfl (hb hby d15_26)
      have oc156 := H6_A
      obtain ⟨c156, Arc156, qc156, Sc156, Nc156, Hc156, Gc156⟩ := oc156
      have hin157 : ¬ ((0 : Int32) < 0 ∨ c156.slots.size ≤ ((0 : Int32)).toNatClampNeg) := (inb_of Sc156 ⟨by decide, by decide⟩)
      have pre158 := fun (t : State) (k : Steps p.tables e below (T155.setTop (mkF m 35 #[.val (.ref dd), .val (.int lv), .val (.int (0 : Int32)), .val (.long (own_bit lv)), .second] [(.int (lcmpW (w0 &&& (own_bit lv)) (0 : Int64)))])) t) => pre92 t (by
        refine XS.istoreN X76.here hx rfl (hb hby d15_16) rfl (l' := #[.val (.ref dd), .val (.int lv), .val (.int (0 : Int32)), .unset, .unset]) rfl ?_
        refine XS.lconst X76.here hx rfl (hb hby d15_17) ?_
        refine XS.iloadN X76.here hx rfl (hb hby d15_18) rfl ?_
        refine XS.lshl X76.here hx rfl (hb hby d15_19) rfl ?_
        show Steps p.tables e below (T76.setTop (mkF m 20 #[.val (.ref dd), .val (.int lv), .val (.int (0 : Int32)), .unset, .unset] [(.long (own_bit lv))])) _
        refine XS.lstoreN X76.here hx rfl (hb hby d15_20) rfl (l' := #[.val (.ref dd), .val (.int lv), .val (.int (0 : Int32)), .val (.long (own_bit lv)), .second]) rfl ?_
        refine XS.iloadN X76.here hx rfl (hb hby d15_21) rfl ?_
        refine XS.ifNo X76.here hx rfl (hb hby d15_22) rfl ((if0 _ _).trans (flt (by decide : ¬ ((0 : Int32) < (0 : Int32)))).1) ?_
        refine XS.aloadN X76.here hx rfl (hb hby d15_25) rfl rfl ?_
        refine st155 _ ?_
        refine XS.iloadN X155.here hx rfl (hb hby d15_29) rfl ?_
        refine X155.laload hx (j := (0 : Int32)) (v := (.long w0)) (by rw [e155]; exact Arc156.1) (State.isArrayOf_alike hZ.alike Arc156.2.1) Arc156.2.2 hin157 (Has.at Hc156 hin157 rfl) (g := (mkF m 30 #[.val (.ref dd), .val (.int lv), .val (.int (0 : Int32)), .val (.long (own_bit lv)), .second] [(.int (0 : Int32)), (.ref wa)])) rfl rfl (hb hby d15_30) _ ?_
        refine XS.lloadN X155.here hx rfl (hb hby d15_31) rfl ?_
        refine XS.land X155.here hx rfl (hb hby d15_32) rfl ?_
        refine XS.lconst X155.here hx rfl (hb hby d15_33) ?_
        refine XS.lcmp X155.here hx rfl (hb hby d15_34) rfl ?_
        exact k)
      by_cases hc159 : (lcmpW (w0 &&& (own_bit lv)) (0 : Int64)) = (0 : Int32)
      · have pre160 := fun (t : State) (k : Steps p.tables e below (T155.setTop (mkF m 127 #[.val (.ref dd), .val (.int lv), .val (.int (0 : Int32)), .val (.long (own_bit lv)), .second] [])) t) => pre158 t (by
          refine XS.ifYes X155.here hx rfl (pc0 := 35) (pc' := 127) rfl (hb hby d15_35) rfl ((if0 _ _).trans (teq hc159).1) (by decide) (by decide) ?_
          exact k)
        obtain ⟨fs, hr, hrun, hended, hW, hsame⟩ := X155.leave (v := none) (hlocks := BodyLoose.notSynchronized Bd) (fun _ => rfl)
        refine ⟨_, _, pre160 _ ?_, hrun, hended, _, _, rfl, ?_, ⟨_, rfl⟩, hW, hsame.mono (by decide) (by decide)⟩
        · exact X155.returnOut hx Bd.returns (hb hby d15_127) hr
        · show Q_rm Z dd ka wa kk kw (3 : Int32) (2 : Int32) [(.int k0), (.int k1), (.int g2)] [(.long w0), (.long w1), (.long q2)] SS lv h0 n0 _ T155.heap _
          rw [e155]
          exact ⟨ka, wa, kk, kw, (3 : Int32), (2 : Int32), [(.int k0), (.int k1), (.int g2)], [(.long w0), (.long w1), (.long q2)], rfl, N76, K0, hka, hwa, (Or.inl rfl), (Or.inl rfl), hn1, hn2, hn3, (Or.inr (Or.inr (Or.inr (Or.inl ⟨_, _, _, _, _, _, rfl, rfl, rfl, rfl, (own_r_off (A := []) (B := [(k1, w1)]) hrr (own_eq_of hb90 hb91) ((lw_eq _ _).mp hc159))⟩)))), H0_E, H1_F, H2_F, H3_F, H4_F, H5_A, H6_A⟩
      · obtain ⟨T161, X161, e161, st161⟩ := getF X155 hx hZ hown (host := "") (Or.inl (own_w hw 23 rfl)) Via.refl e155 H3_F (g := (mkF m 40 #[.val (.ref dd), .val (.int lv), .val (.int (0 : Int32)), .val (.long (own_bit lv)), .second] [(.ref dd), (.ref dd)])) rfl rfl (hb hby d15_40)
        obtain ⟨cq162, q162, q162'⟩ := H0_E.cell
        obtain ⟨_, _, ⟨T162, L162, k162, n162⟩, -, X162, ⟨Lc162, hQ162, l162, y162, z162⟩, st162⟩ := X161.privateBack hx (y := (⟨"org/tallyrole/core/Dependencies", "reserve", "(I)V"⟩ : MethodName)) hown (mvT hZ (own_w hw 35 rfl)) (mvT hZ (own_w hw 36 rfl)) (own_sel_priv (z := (⟨"org/tallyrole/core/Dependencies", "add", "(I)V"⟩ : MethodName)) (mvT hZ (own_w hw 21 rfl)) rfl (mvP hZ (own_w hw 37 rfl)) (mvT hZ (own_w hw 36 rfl)) (by decide)) (Cond.privateMethod_at (mvP hZ (own_w hw 37 rfl) (args := #[]))) (mvT hZ (own_w hw 38 rfl)) (by decide) (backOf (W := 0) (rm_rvN l Z a0 hw [] dd ka kk (3 : Int32) [(.int k0), (.int k1), (.int g2)] (2 : Int32) h0 n0 Z0 H0_E H1_F H4_F H5_A (by decide)) hZ (own_w hw 38 rfl) (own_w hw 3 rfl) (by decide) (by decide)) (g := (mkF m 43 #[.val (.ref dd), .val (.int lv), .val (.int (0 : Int32)), .val (.long (own_bit lv)), .second] [(.int (2 : Int32)), (.ref dd)])) rfl (by rw [hml]; rfl) (Steps.refl _) (a := dd) (by rw [e161]; exact q162) q162' (argsL := [(.int (2 : Int32))]) (rest := []) (lenOf pd_7 rfl) rfl (by show 2 * 0 + _ ≤ _; exact Nat.le_of_eq rfl) (hb hby d15_43) (fun _ _ => ⟨rfl, e161, (by decide : 0 + 0 ≤ _), (by decide : 0 + 0 ≤ _)⟩)
        dsimp only [Pt.U, Pt.locs, Pt.cells, Pt.slots] at X162 l162 y162 z162 st162 hQ162
        subst l162 y162 z162
        obtain ⟨rfl, N162q, hq163⟩ := hQ162
        have N162 := Fr.app N76 N162q
        obtain ⟨T164, X164, e164, st164⟩ := getF X162 hx hZ hown (host := "") (Or.inl (own_w hw 16 rfl)) Via.refl hq163 H2_F (g := (mkF m 47 #[.val (.ref dd), .val (.int lv), .val (.int (0 : Int32)), .val (.long (own_bit lv)), .second] [(.ref dd)])) rfl rfl (hb hby d15_47)
        have oc165 := H6_A
        obtain ⟨c165, Arc165, qc165, Sc165, Nc165, Hc165, Gc165⟩ := oc165
        have hin166 : ¬ ((0 : Int32) < 0 ∨ c165.slots.size ≤ ((0 : Int32)).toNatClampNeg) := (inb_of Sc165 ⟨by decide, by decide⟩)
        have oc167 := H6_A
        obtain ⟨c167, Arc167, qc167, Sc167, Nc167, Hc167, Gc167⟩ := oc167
        have hin168 : ¬ ((0 : Int32) < 0 ∨ c167.slots.size ≤ ((0 : Int32)).toNatClampNeg) := (inb_of Sc167 ⟨by decide, by decide⟩)
        obtain ⟨T168, h168, X168, e168, W168, st168⟩ := stJ X164 hx hZ e164 Arc167 (j := (0 : Int32)) hin168 (g := (mkF m 59 #[.val (.ref dd), .val (.int lv), .val (.int (0 : Int32)), .val (.long (own_bit lv)), .second] [(.long (w0 &&& ((own_bit lv) ^^^ (-1 : Int64)))), (.int (0 : Int32)), (.ref wa)])) rfl rfl (hb hby d15_59)
        have V168 : Arv Z h168 wa kw .long (3 : Int32) [(.long (w0 &&& ((own_bit lv) ^^^ (-1 : Int64)))), (.long w1), (.long q2)] (.long (0 : Int64)) := Arv.set Arc167 qc167 Sc167 Nc167 Hc167 Gc167 rfl W168 0 rfl (Nat.le_of_ble_eq_true rfl)
        have E169 := H0_E.wr W168
        have F170 := H1_F.other W168 (Or.inl hn2)
        have F171 := H2_F.other W168 (Or.inl hn2)
        have F172 := H3_F.other W168 (Or.inl hn2)
        have F173 := H4_F.other W168 (Or.inl hn2)
        have A174 := H5_A.other W168 hn3
        have N168 := Fr.snoc X168 N162 hwa
        have K168 : Keep h0 h168 [dd, ka, wa] := K0.wr W168 (Or.inl (List.mem_of_getElem? (i := 2) rfl))
        have Zs175 : n0 ≤ h168.size := (Nat.le_trans Z0 (Keep.of_wr W168).1)
        obtain ⟨T176, X176, e176, st176⟩ := getF X168 hx hZ hown (host := "") (Or.inl (own_w hw 16 rfl)) Via.refl e168 F171 (g := (mkF m 61 #[.val (.ref dd), .val (.int lv), .val (.int (0 : Int32)), .val (.long (own_bit lv)), .second] [(.ref dd)])) rfl rfl (hb hby d15_61)
        have oc177 := V168
        obtain ⟨c177, Arc177, qc177, Sc177, Nc177, Hc177, Gc177⟩ := oc177
        have hin178 : ¬ ((0 : Int32) < 0 ∨ c177.slots.size ≤ ((0 : Int32)).toNatClampNeg) := (inb_of Sc177 ⟨by decide, by decide⟩)
        have pre179 := fun (t : State) (k : Steps p.tables e below (T176.setTop (mkF m 68 #[.val (.ref dd), .val (.int lv), .val (.int (0 : Int32)), .val (.long (own_bit lv)), .second] [(.int (lcmpW (w0 &&& ((own_bit lv) ^^^ (-1 : Int64))) (0 : Int64)))])) t) => pre158 t (by
          refine XS.ifNo X155.here hx rfl (hb hby d15_35) rfl ((if0 _ _).trans (feq hc159).1) ?_
          refine XS.aloadN X155.here hx rfl (hb hby d15_38) rfl rfl ?_
          refine XS.aloadN X155.here hx rfl (hb hby d15_39) rfl rfl ?_
          refine st161 _ ?_
          refine st162.trans ?_
          refine XS.aloadN X162.here hx rfl (hb hby d15_46) rfl rfl ?_
          refine st164 _ ?_
          refine XS.iloadN X164.here hx rfl (hb hby d15_50) rfl ?_
          jvm_step X164.here [X164.here.top, hx, (hb hby d15_51), Value.category]
          refine X164.laload hx (j := (0 : Int32)) (v := (.long w0)) (by rw [e164]; exact Arc165.1) (State.isArrayOf_alike hZ.alike Arc165.2.1) Arc165.2.2 hin166 (Has.at Hc165 hin166 rfl) (g := (mkF m 52 #[.val (.ref dd), .val (.int lv), .val (.int (0 : Int32)), .val (.long (own_bit lv)), .second] [(.int (0 : Int32)), (.ref wa), (.int (0 : Int32)), (.ref wa)])) rfl rfl (hb hby d15_52) _ ?_
          refine XS.lloadN X164.here hx rfl (hb hby d15_53) rfl ?_
          refine X164.ldc2Long hx hown (mvT hZ (own_w hw 80 rfl)) (g := (mkF m 54 #[.val (.ref dd), .val (.int lv), .val (.int (0 : Int32)), .val (.long (own_bit lv)), .second] [(.long (own_bit lv)), (.long w0), (.int (0 : Int32)), (.ref wa)])) rfl (hb hby d15_54) _ ?_
          refine XS.lxor X164.here hx rfl (hb hby d15_57) rfl ?_
          refine XS.land X164.here hx rfl (hb hby d15_58) rfl ?_
          refine st168 _ ?_
          refine XS.aloadN X168.here hx rfl (hb hby d15_60) rfl rfl ?_
          refine st176 _ ?_
          refine XS.iloadN X176.here hx rfl (hb hby d15_64) rfl ?_
          refine X176.laload hx (j := (0 : Int32)) (v := (.long (w0 &&& ((own_bit lv) ^^^ (-1 : Int64))))) (by rw [e176]; exact Arc177.1) (State.isArrayOf_alike hZ.alike Arc177.2.1) Arc177.2.2 hin178 (Has.at Hc177 hin178 rfl) (g := (mkF m 65 #[.val (.ref dd), .val (.int lv), .val (.int (0 : Int32)), .val (.long (own_bit lv)), .second] [(.int (0 : Int32)), (.ref wa)])) rfl rfl (hb hby d15_65) _ ?_
          refine XS.lconst X176.here hx rfl (hb hby d15_66) ?_
          refine XS.lcmp X176.here hx rfl (hb hby d15_67) rfl ?_
          exact k)
        by_cases hc180 : (lcmpW (w0 &&& ((own_bit lv) ^^^ (-1 : Int64))) (0 : Int64)) = (0 : Int32)
        · obtain ⟨T181, X181, e181, st181⟩ := getF X176 hx hZ hown (host := "") (Or.inl (own_w hw 12 rfl)) Via.refl e176 F170 (g := (mkF m 72 #[.val (.ref dd), .val (.int lv), .val (.int (0 : Int32)), .val (.long (own_bit lv)), .second] [(.ref dd)])) rfl rfl (hb hby d15_72)
          obtain ⟨T182, X182, e182, st182⟩ := getF X181 hx hZ hown (host := "") (Or.inl (own_w hw 12 rfl)) Via.refl e181 F170 (g := (mkF m 79 #[.val (.ref dd), .val (.int lv), .val (.int (0 : Int32)), .val (.long (own_bit lv)), .second] [(.ref dd), (.int (1 : Int32)), (.ref ka)])) rfl rfl (hb hby d15_79)
          obtain ⟨T183, X183, e183, st183⟩ := getF X182 hx hZ hown (host := "") (Or.inl (own_w hw 23 rfl)) Via.refl e182 F172 (g := (mkF m 84 #[.val (.ref dd), .val (.int lv), .val (.int (0 : Int32)), .val (.long (own_bit lv)), .second] [(.ref dd), (.int (0 : Int32)), (.ref ka), (.int (1 : Int32)), (.ref ka)])) rfl rfl (hb hby d15_84)
          obtain ⟨T184, h184, L184, X184, e184, N184, K184q, A184, st184⟩ := cpA X183 hx hZ hown (own_w hw 57 rfl) (own_w hw 52 rfl) (own_w hw 50 rfl) (own_w hw 51 rfl) e183 A174 A174 (Or.inl ⟨rfl, rfl⟩) (by decide) (by decide) (by decide) (by decide) (by decide) (us := [(.int k1)]) rfl (Nat.le_of_ble_eq_true rfl) N168 hka (g := (mkF m 91 #[.val (.ref dd), .val (.int lv), .val (.int (0 : Int32)), .val (.long (own_bit lv)), .second] [(.int (1 : Int32)), (.int (0 : Int32)), (.ref ka), (.int (1 : Int32)), (.ref ka)])) rfl (by rw [hml]; rfl) rfl (hb hby d15_91) (by decide) (W := 0) (by show 2 * 0 + _ ≤ _; exact Nat.le_of_eq rfl) (by decide)
          have V184 : Arv Z h184 ka kk .int (3 : Int32) [(.int k1), (.int k1), (.int g2)] (.int (0 : Int32)) := A184
          have E185 := E169.keep K184q
          have F186 := F170.keep K184q (ninS hn1 nin0)
          have F187 := F171.keep K184q (ninS hn1 nin0)
          have F188 := F172.keep K184q (ninS hn1 nin0)
          have F189 := F173.keep K184q (ninS hn1 nin0)
          have A190 := V168.keep K184q (ninS (Ne.symm hn3) nin0)
          have K184 : Keep h0 h184 [dd, ka, wa] := K168.trans K184q (allS (Or.inl (List.mem_of_getElem? (i := 1) rfl)) all0)
          have Zs191 : n0 ≤ h184.size := (Nat.le_trans Zs175 K184q.1)
          obtain ⟨T192, X192, e192, st192⟩ := getF X184 hx hZ hown (host := "") (Or.inl (own_w hw 16 rfl)) Via.refl e184 F187 (g := (mkF m 95 #[.val (.ref dd), .val (.int lv), .val (.int (0 : Int32)), .val (.long (own_bit lv)), .second] [(.ref dd)])) rfl rfl (hb hby d15_95)
          obtain ⟨T193, X193, e193, st193⟩ := getF X192 hx hZ hown (host := "") (Or.inl (own_w hw 16 rfl)) Via.refl e192 F187 (g := (mkF m 102 #[.val (.ref dd), .val (.int lv), .val (.int (0 : Int32)), .val (.long (own_bit lv)), .second] [(.ref dd), (.int (1 : Int32)), (.ref wa)])) rfl rfl (hb hby d15_102)
          obtain ⟨T194, X194, e194, st194⟩ := getF X193 hx hZ hown (host := "") (Or.inl (own_w hw 23 rfl)) Via.refl e193 F188 (g := (mkF m 107 #[.val (.ref dd), .val (.int lv), .val (.int (0 : Int32)), .val (.long (own_bit lv)), .second] [(.ref dd), (.int (0 : Int32)), (.ref wa), (.int (1 : Int32)), (.ref wa)])) rfl rfl (hb hby d15_107)
          obtain ⟨T195, h195, L195, X195, e195, N195, K195q, A195, st195⟩ := cpA X194 hx hZ hown (own_w hw 57 rfl) (own_w hw 52 rfl) (own_w hw 50 rfl) (own_w hw 51 rfl) e194 A190 A190 (Or.inl ⟨rfl, rfl⟩) (by decide) (by decide) (by decide) (by decide) (by decide) (us := [(.long w1)]) rfl (Nat.le_of_ble_eq_true rfl) N184 hwa (g := (mkF m 114 #[.val (.ref dd), .val (.int lv), .val (.int (0 : Int32)), .val (.long (own_bit lv)), .second] [(.int (1 : Int32)), (.int (0 : Int32)), (.ref wa), (.int (1 : Int32)), (.ref wa)])) rfl (by rw [hml]; rfl) rfl (hb hby d15_114) (by decide) (W := 0) (by show 2 * 0 + _ ≤ _; exact Nat.le_of_eq rfl) (by decide)
          have V195 : Arv Z h195 wa kw .long (3 : Int32) [(.long w1), (.long w1), (.long q2)] (.long (0 : Int64)) := A195
          have E196 := E185.keep K195q
          have F197 := F186.keep K195q (ninS hn2 nin0)
          have F198 := F187.keep K195q (ninS hn2 nin0)
          have F199 := F188.keep K195q (ninS hn2 nin0)
          have F200 := F189.keep K195q (ninS hn2 nin0)
          have A201 := V184.keep K195q (ninS hn3 nin0)
          have K195 : Keep h0 h195 [dd, ka, wa] := K184.trans K195q (allS (Or.inl (List.mem_of_getElem? (i := 2) rfl)) all0)
          have Zs202 : n0 ≤ h195.size := (Nat.le_trans Zs191 K195q.1)
          obtain ⟨T203, X203, e203, st203⟩ := getF X195 hx hZ hown (host := "") (Or.inl (own_w hw 23 rfl)) Via.refl e195 F199 (g := (mkF m 119 #[.val (.ref dd), .val (.int lv), .val (.int (0 : Int32)), .val (.long (own_bit lv)), .second] [(.ref dd), (.ref dd)])) rfl rfl (hb hby d15_119)
          obtain ⟨T204, h204, X204, e204, W204, st204⟩ := putF X203 hx hZ hown (host := "") (Or.inl (own_w hw 23 rfl)) Via.refl e203 F199 E196 (Or.inl (own_w hw 24 rfl)) (own_w hw 2 rfl) (ty := .int) (by decide) rfl rfl (g := (mkF m 124 #[.val (.ref dd), .val (.int lv), .val (.int (0 : Int32)), .val (.long (own_bit lv)), .second] [(.int (1 : Int32)), (.ref dd)])) rfl rfl (hb hby d15_124)
          have Fw204 : Fld Z h204 dd "org/tallyrole/core/Dependencies" "size" "I" (.int (1 : Int32)) := F199.same W204
          have E205 := E196.wr W204
          have F206 := F197.other W204 (Or.inr (slot_ne (Or.inl (own_w hw 13 rfl)) (Or.inl (own_w hw 24 rfl)) (by decide) (t := (.array .int)) (t' := .int) (by decide) (by decide)))
          have F207 := F198.other W204 (Or.inr (slot_ne (Or.inl (own_w hw 17 rfl)) (Or.inl (own_w hw 24 rfl)) (by decide) (t := (.array .long)) (t' := .int) (by decide) (by decide)))
          have F208 := F200.other W204 (Or.inr (slot_ne (Or.inl (own_w hw 40 rfl)) (Or.inl (own_w hw 24 rfl)) (by decide) (t := .boolean) (t' := .int) (by decide) (by decide)))
          have A209 := A201.other W204 (Ne.symm hn1)
          have A210 := V195.other W204 (Ne.symm hn2)
          have N204 := Fr.snoc X204 N195 hdd
          have K204 : Keep h0 h204 [dd, ka, wa] := K195.wr W204 (Or.inl (List.mem_of_getElem? (i := 0) rfl))
          have Zs211 : n0 ≤ h204.size := (Nat.le_trans Zs202 (Keep.of_wr W204).1)
          have pre212 := fun (t : State) (k : Steps p.tables e below (T204.setTop (mkF m 127 #[.val (.ref dd), .val (.int lv), .val (.int (0 : Int32)), .val (.long (own_bit lv)), .second] [])) t) => pre179 t (by
            refine XS.ifNo X176.here hx rfl (hb hby d15_68) rfl ((if0 _ _).trans (teq hc180).2) ?_
            refine XS.aloadN X176.here hx rfl (hb hby d15_71) rfl rfl ?_
            refine st181 _ ?_
            refine XS.iloadN X181.here hx rfl (hb hby d15_75) rfl ?_
            refine XS.iconst X181.here hx rfl (hb hby d15_76) ?_
            refine XS.iadd X181.here hx rfl (hb hby d15_77) rfl ?_
            refine XS.aloadN X181.here hx rfl (hb hby d15_78) rfl rfl ?_
            refine st182 _ ?_
            refine XS.iloadN X182.here hx rfl (hb hby d15_82) rfl ?_
            refine XS.aloadN X182.here hx rfl (hb hby d15_83) rfl rfl ?_
            refine st183 _ ?_
            refine XS.iloadN X183.here hx rfl (hb hby d15_87) rfl ?_
            refine XS.isub X183.here hx rfl (hb hby d15_88) rfl ?_
            refine XS.iconst X183.here hx rfl (hb hby d15_89) ?_
            refine XS.isub X183.here hx rfl (hb hby d15_90) rfl ?_
            refine st184 _ ?_
            refine XS.aloadN X184.here hx rfl (hb hby d15_94) rfl rfl ?_
            refine st192 _ ?_
            refine XS.iloadN X192.here hx rfl (hb hby d15_98) rfl ?_
            refine XS.iconst X192.here hx rfl (hb hby d15_99) ?_
            refine XS.iadd X192.here hx rfl (hb hby d15_100) rfl ?_
            refine XS.aloadN X192.here hx rfl (hb hby d15_101) rfl rfl ?_
            refine st193 _ ?_
            refine XS.iloadN X193.here hx rfl (hb hby d15_105) rfl ?_
            refine XS.aloadN X193.here hx rfl (hb hby d15_106) rfl rfl ?_
            refine st194 _ ?_
            refine XS.iloadN X194.here hx rfl (hb hby d15_110) rfl ?_
            refine XS.isub X194.here hx rfl (hb hby d15_111) rfl ?_
            refine XS.iconst X194.here hx rfl (hb hby d15_112) ?_
            refine XS.isub X194.here hx rfl (hb hby d15_113) rfl ?_
            refine st195 _ ?_
            refine XS.aloadN X195.here hx rfl (hb hby d15_117) rfl rfl ?_
            refine XS.dup X195.here hx rfl (hb hby d15_118) rfl rfl ?_
            refine st203 _ ?_
            refine XS.iconst X203.here hx rfl (hb hby d15_122) ?_
            refine XS.isub X203.here hx rfl (hb hby d15_123) rfl ?_
            refine st204 _ ?_
            exact k)
          obtain ⟨fs, hr, hrun, hended, hW, hsame⟩ := X204.leave (v := none) (hlocks := BodyLoose.notSynchronized Bd) (fun _ => rfl)
          refine ⟨_, _, pre212 _ ?_, hrun, hended, _, _, rfl, ?_, ⟨_, rfl⟩, hW, hsame.mono (by decide) (by decide)⟩
          · exact X204.returnOut hx Bd.returns (hb hby d15_127) hr
          · show Q_rm Z dd ka wa kk kw (3 : Int32) (2 : Int32) [(.int k0), (.int k1), (.int g2)] [(.long w0), (.long w1), (.long q2)] SS lv h0 n0 _ T204.heap _
            rw [e204]
            exact ⟨ka, wa, kk, kw, (3 : Int32), (1 : Int32), [(.int k1), (.int k1), (.int g2)], [(.long w1), (.long w1), (.long q2)], rfl, N204, K204, hka, hwa, (Or.inl rfl), (Or.inl rfl), hn1, hn2, hn3, (Or.inr (Or.inr (Or.inl ⟨_, _, _, _, _, _, rfl, rfl, rfl, rfl, (own_r_out (A := []) (B := [(k1, w1)]) hrr (own_eq_of hb90 hb91) ((lw_eq _ _).mp hc180))⟩))), E205, F206, F207, Fw204, F208, A209, A210⟩
        · have pre213 := fun (t : State) (k : Steps p.tables e below (T176.setTop (mkF m 127 #[.val (.ref dd), .val (.int lv), .val (.int (0 : Int32)), .val (.long (own_bit lv)), .second] [])) t) => pre179 t (by
            refine XS.ifYes X176.here hx rfl (pc0 := 68) (pc' := 127) rfl (hb hby d15_68) rfl ((if0 _ _).trans (feq hc180).2) (by decide) (by decide) ?_
            exact k)
          obtain ⟨fs, hr, hrun, hended, hW, hsame⟩ := X176.leave (v := none) (hlocks := BodyLoose.notSynchronized Bd) (fun _ => rfl)
          refine ⟨_, _, pre213 _ ?_, hrun, hended, _, _, rfl, ?_, ⟨_, rfl⟩, hW, hsame.mono (by decide) (by decide)⟩
          · exact X176.returnOut hx Bd.returns (hb hby d15_127) hr
          · show Q_rm Z dd ka wa kk kw (3 : Int32) (2 : Int32) [(.int k0), (.int k1), (.int g2)] [(.long w0), (.long w1), (.long q2)] SS lv h0 n0 _ T176.heap _
            rw [e176]
            exact ⟨ka, wa, kk, kw, (3 : Int32), (2 : Int32), [(.int k0), (.int k1), (.int g2)], [(.long (w0 &&& ((own_bit lv) ^^^ (-1 : Int64)))), (.long w1), (.long q2)], rfl, N168, K168, hka, hwa, (Or.inl rfl), (Or.inl rfl), hn1, hn2, hn3, (Or.inr (Or.inr (Or.inr (Or.inl ⟨_, _, _, _, _, _, rfl, rfl, rfl, rfl, (own_r_clr (A := []) (B := [(k1, w1)]) hrr (own_eq_of hb90 hb91) (fun q => hc180 ((lw_eq _ _).mpr q)))⟩)))), E169, F170, F171, F172, F173, A174, V168⟩
  · have ho0 : k0 < k1 := own_o0 hrr
    have ho1 : k1 < k2 := own_o1 hrr
    obtain ⟨T214, X214, e214, st214⟩ := getF X0 hx hZ hown (host := "") (Or.inl (own_w hw 12 rfl)) Via.refl e0 H1_F (g := (mkF m 1 #[.val (.ref dd), .val (.int lv), .unset, .unset, .unset] [(.ref dd)])) rfl rfl (hb hby d15_1)
    obtain ⟨T215, X215, e215, st215⟩ := getF X214 hx hZ hown (host := "") (Or.inl (own_w hw 23 rfl)) Via.refl e214 H3_F (g := (mkF m 6 #[.val (.ref dd), .val (.int lv), .unset, .unset, .unset] [(.ref dd), (.int (0 : Int32)), (.ref ka)])) rfl rfl (hb hby d15_6)
    obtain ⟨_, _, ⟨T216, L216, k216, n216⟩, -, X216, ⟨Lc216, hQ216, l216, y216, z216⟩, st216⟩ := Jvm.LawKit.callS X215 hx (y := (⟨"java/util/Arrays", "binarySearch", "([IIII)I"⟩ : MethodName)) hown (mvT hZ (own_w hw 25 rfl)) (mvT hZ (own_w hw 26 rfl)) (mvT hZ (own_w hw 27 rfl)) (mvT hZ (own_w hw 28 rfl)) (by decide) (backOf (W := 0) (rm_bs3_3 l Z a0 hw [] ka kk k0 k1 k2 (own_key lv) h0 n0 Z0 H5_A) hZ (own_w hw 28 rfl) (own_w hw 27 rfl) (by decide) (by decide)) (g := (mkF m 13 #[.val (.ref dd), .val (.int lv), .unset, .unset, .unset] [(.int (own_key lv)), (.int (3 : Int32)), (.int (0 : Int32)), (.ref ka)])) rfl (by rw [hml]; rfl) (argsL := [(.ref ka), (.int (0 : Int32)), (.int (3 : Int32)), (.int (own_key lv))]) (rest := []) (lenOf pd_1 rfl) rfl (by show 2 * 0 + _ ≤ _; exact Nat.le_of_eq rfl) (hb hby d15_13) (fun _ _ => ⟨rfl, e215, (by decide : 0 + 0 ≤ _), (by decide : 0 + 0 ≤ _)⟩)
    dsimp only [Pt.U, Pt.locs, Pt.cells, Pt.slots] at X216 l216 y216 z216 st216 hQ216
    subst l216 y216 z216
    obtain ⟨x217, rfl, N216q, hq218, hpq219⟩ := hQ216
    have N216 := Fr.app N0 N216q
    have pre241 := fun (t : State) (k : Steps p.tables e below (T216.setTop (mkF m 16 #[.val (.ref dd), .val (.int lv), .unset, .unset, .unset] [(.int x217)])) t) => pre0 t (by
      refine XS.aloadN X0.here hx rfl (hb hby d15_0) rfl rfl ?_
      refine st214 _ ?_
      refine XS.iconst X214.here hx rfl (hb hby d15_4) ?_
      refine XS.aloadN X214.here hx rfl (hb hby d15_5) rfl rfl ?_
      refine st215 _ ?_
      refine XS.iloadN X215.here hx rfl (hb hby d15_9) rfl ?_
      refine XS.bipush X215.here hx rfl (hb hby d15_10) ?_
      refine XS.iushr X215.here hx rfl (hb hby d15_12) rfl ?_
      show Steps p.tables e below (T215.setTop (mkF m 13 #[.val (.ref dd), .val (.int lv), .unset, .unset, .unset] [(.int (own_key lv)), (.int (3 : Int32)), (.int (0 : Int32)), (.ref ka)])) _
      refine st216 _ ?_
      exact k)
    rcases hpq219 with ⟨rfl, hb220, hb221⟩ | ⟨rfl, hb222, hb223, hb224⟩ | ⟨rfl, hb225, hb226, hb227⟩ | ⟨rfl, hb228, hb229, hb230⟩ | ⟨rfl, hb231, hb232, hb233, hb234⟩ | ⟨rfl, hb235, hb236, hb237, hb238⟩ | ⟨rfl, hb239, hb240⟩
    · have pre242 := fun (t : State) (k : Steps p.tables e below (T216.setTop (mkF m 127 #[.val (.ref dd), .val (.int lv), .val (.int (-4 : Int32)), .val (.long (own_bit lv)), .second] [])) t) => pre241 t (by
        refine XS.istoreN X216.here hx rfl (hb hby d15_16) rfl (l' := #[.val (.ref dd), .val (.int lv), .val (.int (-4 : Int32)), .unset, .unset]) rfl ?_
        refine XS.lconst X216.here hx rfl (hb hby d15_17) ?_
        refine XS.iloadN X216.here hx rfl (hb hby d15_18) rfl ?_
        refine XS.lshl X216.here hx rfl (hb hby d15_19) rfl ?_
        show Steps p.tables e below (T216.setTop (mkF m 20 #[.val (.ref dd), .val (.int lv), .val (.int (-4 : Int32)), .unset, .unset] [(.long (own_bit lv))])) _
        refine XS.lstoreN X216.here hx rfl (hb hby d15_20) rfl (l' := #[.val (.ref dd), .val (.int lv), .val (.int (-4 : Int32)), .val (.long (own_bit lv)), .second]) rfl ?_
        refine XS.iloadN X216.here hx rfl (hb hby d15_21) rfl ?_
        refine XS.ifYes X216.here hx rfl (pc0 := 22) (pc' := 127) rfl (hb hby d15_22) rfl ((if0 _ _).trans (tlt (by decide : (-4 : Int32) < (0 : Int32))).1) (by decide) (by decide) ?_
        exact k)
      obtain ⟨fs, hr, hrun, hended, hW, hsame⟩ := X216.leave (v := none) (hlocks := BodyLoose.notSynchronized Bd) (fun _ => rfl)
      refine ⟨_, _, pre242 _ ?_, hrun, hended, _, _, rfl, ?_, ⟨_, rfl⟩, hW, hsame.mono (by decide) (by decide)⟩
      · exact X216.returnOut hx Bd.returns (hb hby d15_127) hr
      · show Q_rm Z dd ka wa kk kw (3 : Int32) (3 : Int32) [(.int k0), (.int k1), (.int k2)] [(.long w0), (.long w1), (.long w2)] SS lv h0 n0 _ T216.heap _
        rw [hq218]
        exact ⟨ka, wa, kk, kw, (3 : Int32), (3 : Int32), [(.int k0), (.int k1), (.int k2)], [(.long w0), (.long w1), (.long w2)], rfl, N216, K0, hka, hwa, (Or.inl rfl), (Or.inl rfl), hn1, hn2, hn3, (Or.inr (Or.inr (Or.inr (Or.inr ⟨_, _, _, _, _, _, rfl, rfl, rfl, rfl, (own_r_no hrr (List.forall_mem_cons.mpr ⟨(own_ne_lt (Int32.lt_trans ho0 hb220)), (List.forall_mem_cons.mpr ⟨(own_ne_lt hb220), (List.forall_mem_cons.mpr ⟨(own_ne_lt hb221), (List.forall_mem_nil _)⟩)⟩)⟩))⟩)))), H0_E, H1_F, H2_F, H3_F, H4_F, H5_A, H6_A⟩
    · have pre243 := fun (t : State) (k : Steps p.tables e below (T216.setTop (mkF m 127 #[.val (.ref dd), .val (.int lv), .val (.int (-3 : Int32)), .val (.long (own_bit lv)), .second] [])) t) => pre241 t (by
        refine XS.istoreN X216.here hx rfl (hb hby d15_16) rfl (l' := #[.val (.ref dd), .val (.int lv), .val (.int (-3 : Int32)), .unset, .unset]) rfl ?_
        refine XS.lconst X216.here hx rfl (hb hby d15_17) ?_
        refine XS.iloadN X216.here hx rfl (hb hby d15_18) rfl ?_
        refine XS.lshl X216.here hx rfl (hb hby d15_19) rfl ?_
        show Steps p.tables e below (T216.setTop (mkF m 20 #[.val (.ref dd), .val (.int lv), .val (.int (-3 : Int32)), .unset, .unset] [(.long (own_bit lv))])) _
        refine XS.lstoreN X216.here hx rfl (hb hby d15_20) rfl (l' := #[.val (.ref dd), .val (.int lv), .val (.int (-3 : Int32)), .val (.long (own_bit lv)), .second]) rfl ?_
        refine XS.iloadN X216.here hx rfl (hb hby d15_21) rfl ?_
        refine XS.ifYes X216.here hx rfl (pc0 := 22) (pc' := 127) rfl (hb hby d15_22) rfl ((if0 _ _).trans (tlt (by decide : (-3 : Int32) < (0 : Int32))).1) (by decide) (by decide) ?_
        exact k)
      obtain ⟨fs, hr, hrun, hended, hW, hsame⟩ := X216.leave (v := none) (hlocks := BodyLoose.notSynchronized Bd) (fun _ => rfl)
      refine ⟨_, _, pre243 _ ?_, hrun, hended, _, _, rfl, ?_, ⟨_, rfl⟩, hW, hsame.mono (by decide) (by decide)⟩
      · exact X216.returnOut hx Bd.returns (hb hby d15_127) hr
      · show Q_rm Z dd ka wa kk kw (3 : Int32) (3 : Int32) [(.int k0), (.int k1), (.int k2)] [(.long w0), (.long w1), (.long w2)] SS lv h0 n0 _ T216.heap _
        rw [hq218]
        exact ⟨ka, wa, kk, kw, (3 : Int32), (3 : Int32), [(.int k0), (.int k1), (.int k2)], [(.long w0), (.long w1), (.long w2)], rfl, N216, K0, hka, hwa, (Or.inl rfl), (Or.inl rfl), hn1, hn2, hn3, (Or.inr (Or.inr (Or.inr (Or.inr ⟨_, _, _, _, _, _, rfl, rfl, rfl, rfl, (own_r_no hrr (List.forall_mem_cons.mpr ⟨(own_ne_lt (Int32.lt_trans ho0 hb222)), (List.forall_mem_cons.mpr ⟨(own_ne_lt hb222), (List.forall_mem_cons.mpr ⟨(own_ne_gt hb224), (List.forall_mem_nil _)⟩)⟩)⟩))⟩)))), H0_E, H1_F, H2_F, H3_F, H4_F, H5_A, H6_A⟩
    · obtain ⟨T244, X244, e244, st244⟩ := getF X216 hx hZ hown (host := "") (Or.inl (own_w hw 16 rfl)) Via.refl hq218 H2_F (g := (mkF m 26 #[.val (.ref dd), .val (.int lv), .val (.int (2 : Int32)), .val (.long (own_bit lv)), .second] [(.ref dd)])) rfl rfl (hb hby d15_26)
      have oc245 := H6_A
      obtain ⟨c245, Arc245, qc245, Sc245, Nc245, Hc245, Gc245⟩ := oc245
      have hin246 : ¬ ((2 : Int32) < 0 ∨ c245.slots.size ≤ ((2 : Int32)).toNatClampNeg) := (inb_of Sc245 ⟨by decide, by decide⟩)
      have pre247 := fun (t : State) (k : Steps p.tables e below (T244.setTop (mkF m 35 #[.val (.ref dd), .val (.int lv), .val (.int (2 : Int32)), .val (.long (own_bit lv)), .second] [(.int (lcmpW (w2 &&& (own_bit lv)) (0 : Int64)))])) t) => pre241 t (by
        refine XS.istoreN X216.here hx rfl (hb hby d15_16) rfl (l' := #[.val (.ref dd), .val (.int lv), .val (.int (2 : Int32)), .unset, .unset]) rfl ?_
        refine XS.lconst X216.here hx rfl (hb hby d15_17) ?_
        refine XS.iloadN X216.here hx rfl (hb hby d15_18) rfl ?_
        refine XS.lshl X216.here hx rfl (hb hby d15_19) rfl ?_
        show Steps p.tables e below (T216.setTop (mkF m 20 #[.val (.ref dd), .val (.int lv), .val (.int (2 : Int32)), .unset, .unset] [(.long (own_bit lv))])) _
        refine XS.lstoreN X216.here hx rfl (hb hby d15_20) rfl (l' := #[.val (.ref dd), .val (.int lv), .val (.int (2 : Int32)), .val (.long (own_bit lv)), .second]) rfl ?_
        refine XS.iloadN X216.here hx rfl (hb hby d15_21) rfl ?_
        refine XS.ifNo X216.here hx rfl (hb hby d15_22) rfl ((if0 _ _).trans (flt (by decide : ¬ ((2 : Int32) < (0 : Int32)))).1) ?_
        refine XS.aloadN X216.here hx rfl (hb hby d15_25) rfl rfl ?_
        refine st244 _ ?_
        refine XS.iloadN X244.here hx rfl (hb hby d15_29) rfl ?_
        refine X244.laload hx (j := (2 : Int32)) (v := (.long w2)) (by rw [e244]; exact Arc245.1) (State.isArrayOf_alike hZ.alike Arc245.2.1) Arc245.2.2 hin246 (Has.at Hc245 hin246 rfl) (g := (mkF m 30 #[.val (.ref dd), .val (.int lv), .val (.int (2 : Int32)), .val (.long (own_bit lv)), .second] [(.int (2 : Int32)), (.ref wa)])) rfl rfl (hb hby d15_30) _ ?_
        refine XS.lloadN X244.here hx rfl (hb hby d15_31) rfl ?_
        refine XS.land X244.here hx rfl (hb hby d15_32) rfl ?_
        refine XS.lconst X244.here hx rfl (hb hby d15_33) ?_
        refine XS.lcmp X244.here hx rfl (hb hby d15_34) rfl ?_
        exact k)
      by_cases hc248 : (lcmpW (w2 &&& (own_bit lv)) (0 : Int64)) = (0 : Int32)
      · have pre249 := fun (t : State) (k : Steps p.tables e below (T244.setTop (mkF m 127 #[.val (.ref dd), .val (.int lv), .val (.int (2 : Int32)), .val (.long (own_bit lv)), .second] [])) t) => pre247 t (by
          refine XS.ifYes X244.here hx rfl (pc0 := 35) (pc' := 127) rfl (hb hby d15_35) rfl ((if0 _ _).trans (teq hc248).1) (by decide) (by decide) ?_
          exact k)
        obtain ⟨fs, hr, hrun, hended, hW, hsame⟩ := X244.leave (v := none) (hlocks := BodyLoose.notSynchronized Bd) (fun _ => rfl)
        refine ⟨_, _, pre249 _ ?_, hrun, hended, _, _, rfl, ?_, ⟨_, rfl⟩, hW, hsame.mono (by decide) (by decide)⟩
        · exact X244.returnOut hx Bd.returns (hb hby d15_127) hr
        · show Q_rm Z dd ka wa kk kw (3 : Int32) (3 : Int32) [(.int k0), (.int k1), (.int k2)] [(.long w0), (.long w1), (.long w2)] SS lv h0 n0 _ T244.heap _
          rw [e244]
          exact ⟨ka, wa, kk, kw, (3 : Int32), (3 : Int32), [(.int k0), (.int k1), (.int k2)], [(.long w0), (.long w1), (.long w2)], rfl, N216, K0, hka, hwa, (Or.inl rfl), (Or.inl rfl), hn1, hn2, hn3, (Or.inr (Or.inr (Or.inr (Or.inr ⟨_, _, _, _, _, _, rfl, rfl, rfl, rfl, (own_r_off (A := [(k0, w0), (k1, w1)]) (B := []) hrr (own_eq_of hb226 hb227) ((lw_eq _ _).mp hc248))⟩)))), H0_E, H1_F, H2_F, H3_F, H4_F, H5_A, H6_A⟩
      · obtain ⟨T250, X250, e250, st250⟩ := getF X244 hx hZ hown (host := "") (Or.inl (own_w hw 23 rfl)) Via.refl e244 H3_F (g := (mkF m 40 #[.val (.ref dd), .val (.int lv), .val (.int (2 : Int32)), .val (.long (own_bit lv)), .second] [(.ref dd), (.ref dd)])) rfl rfl (hb hby d15_40)
        obtain ⟨cq251, q251, q251'⟩ := H0_E.cell
        obtain ⟨_, _, ⟨T251, L251, k251, n251⟩, -, X251, ⟨Lc251, hQ251, l251, y251, z251⟩, st251⟩ := X250.privateBack hx (y := (⟨"org/tallyrole/core/Dependencies", "reserve", "(I)V"⟩ : MethodName)) hown (mvT hZ (own_w hw 35 rfl)) (mvT hZ (own_w hw 36 rfl)) (own_sel_priv (z := (⟨"org/tallyrole/core/Dependencies", "add", "(I)V"⟩ : MethodName)) (mvT hZ (own_w hw 21 rfl)) rfl (mvP hZ (own_w hw 37 rfl)) (mvT hZ (own_w hw 36 rfl)) (by decide)) (Cond.privateMethod_at (mvP hZ (own_w hw 37 rfl) (args := #[]))) (mvT hZ (own_w hw 38 rfl)) (by decide) (backOf (W := 0) (rm_rvN l Z a0 hw [] dd ka kk (3 : Int32) [(.int k0), (.int k1), (.int k2)] (3 : Int32) h0 n0 Z0 H0_E H1_F H4_F H5_A (by decide)) hZ (own_w hw 38 rfl) (own_w hw 3 rfl) (by decide) (by decide)) (g := (mkF m 43 #[.val (.ref dd), .val (.int lv), .val (.int (2 : Int32)), .val (.long (own_bit lv)), .second] [(.int (3 : Int32)), (.ref dd)])) rfl (by rw [hml]; rfl) (Steps.refl _) (a := dd) (by rw [e250]; exact q251) q251' (argsL := [(.int (3 : Int32))]) (rest := []) (lenOf pd_7 rfl) rfl (by show 2 * 0 + _ ≤ _; exact Nat.le_of_eq rfl) (hb hby d15_43) (fun _ _ => ⟨rfl, e250, (by decide : 0 + 0 ≤ _), (by decide : 0 + 0 ≤ _)⟩)
        dsimp only [Pt.U, Pt.locs, Pt.cells, Pt.slots] at X251 l251 y251 z251 st251 hQ251
        subst l251 y251 z251
        obtain ⟨rfl, N251q, hq252⟩ := hQ251
        have N251 := Fr.app N216 N251q
        obtain ⟨T253, X253, e253, st253⟩ := getF X251 hx hZ hown (host := "") (Or.inl (own_w hw 16 rfl)) Via.refl hq252 H2_F (g := (mkF m 47 #[.val (.ref dd), .val (.int lv), .val (.int (2 : Int32)), .val (.long (own_bit lv)), .second] [(.ref dd)])) rfl rfl (hb hby d15_47)
        have oc254 := H6_A
        obtain ⟨c254, Arc254, qc254, Sc254, Nc254, Hc254, Gc254⟩ := oc254
        have hin255 : ¬ ((2 : Int32) < 0 ∨ c254.slots.size ≤ ((2 : Int32)).toNatClampNeg) := (inb_of Sc254 ⟨by decide, by decide⟩)
        have oc256 := H6_A
        obtain ⟨c256, Arc256, qc256, Sc256, Nc256, Hc256, Gc256⟩ := oc256
        have hin257 : ¬ ((2 : Int32) < 0 ∨ c256.slots.size ≤ ((2 : Int32)).toNatClampNeg) := (inb_of Sc256 ⟨by decide, by decide⟩)
        obtain ⟨T257, h257, X257, e257, W257, st257⟩ := stJ X253 hx hZ e253 Arc256 (j := (2 : Int32)) hin257 (g := (mkF m 59 #[.val (.ref dd), .val (.int lv), .val (.int (2 : Int32)), .val (.long (own_bit lv)), .second] [(.long (w2 &&& ((own_bit lv) ^^^ (-1 : Int64)))), (.int (2 : Int32)), (.ref wa)])) rfl rfl (hb hby d15_59)
        have V257 : Arv Z h257 wa kw .long (3 : Int32) [(.long w0), (.long w1), (.long (w2 &&& ((own_bit lv) ^^^ (-1 : Int64))))] (.long (0 : Int64)) := Arv.set Arc256 qc256 Sc256 Nc256 Hc256 Gc256 rfl W257 2 rfl (Nat.le_of_ble_eq_true rfl)
        have E258 := H0_E.wr W257
        have F259 := H1_F.other W257 (Or.inl hn2)
        have F260 := H2_F.other W257 (Or.inl hn2)
        have F261 := H3_F.other W257 (Or.inl hn2)
        have F262 := H4_F.other W257 (Or.inl hn2)
        have A263 := H5_A.other W257 hn3
        have N257 := Fr.snoc X257 N251 hwa
        have K257 : Keep h0 h257 [dd, ka, wa] := K0.wr W257 (Or.inl (List.mem_of_getElem? (i := 2) rfl))
        have Zs264 : n0 ≤ h257.size := (Nat.le_trans Z0 (Keep.of_wr W257).1)
        obtain ⟨T265, X265, e265, st265⟩ := getF X257 hx hZ hown (host := "") (Or.inl (own_w hw 16 rfl)) Via.refl e257 F260 (g := (mkF m 61 #[.val (.ref dd), .val (.int lv), .val (.int (2 : Int32)), .val (.long (own_bit lv)), .second] [(.ref dd)])) rfl rfl (hb hby d15_61)
        have oc266 := V257
        obtain ⟨c266, Arc266, qc266, Sc266, Nc266, Hc266, Gc266⟩ := oc266
        have hin267 : ¬ ((2 : Int32) < 0 ∨ c266.slots.size ≤ ((2 : Int32)).toNatClampNeg) := (inb_of Sc266 ⟨by decide, by decide⟩)
        have pre268 := fun (t : State) (k : Steps p.tables e below (T265.setTop (mkF m 68 #[.val (.ref dd), .val (.int lv), .val (.int (2 : Int32)), .val (.long (own_bit lv)), .second] [(.int (lcmpW (w2 &&& ((own_bit lv) ^^^ (-1 : Int64))) (0 : Int64)))])) t) => pre247 t (by
          refine XS.ifNo X244.here hx rfl (hb hby d15_35) rfl ((if0 _ _).trans (feq hc248).1) ?_
          refine XS.aloadN X244.here hx rfl (hb hby d15_38) rfl rfl ?_
          refine XS.aloadN X244.here hx rfl (hb hby d15_39) rfl rfl ?_
          refine st250 _ ?_
          refine st251.trans ?_
          refine XS.aloadN X251.here hx rfl (hb hby d15_46) rfl rfl ?_
          refine st253 _ ?_
          refine XS.iloadN X253.here hx rfl (hb hby d15_50) rfl ?_
          jvm_step X253.here [X253.here.top, hx, (hb hby d15_51), Value.category]
          refine X253.laload hx (j := (2 : Int32)) (v := (.long w2)) (by rw [e253]; exact Arc254.1) (State.isArrayOf_alike hZ.alike Arc254.2.1) Arc254.2.2 hin255 (Has.at Hc254 hin255 rfl) (g := (mkF m 52 #[.val (.ref dd), .val (.int lv), .val (.int (2 : Int32)), .val (.long (own_bit lv)), .second] [(.int (2 : Int32)), (.ref wa), (.int (2 : Int32)), (.ref wa)])) rfl rfl (hb hby d15_52) _ ?_
          refine XS.lloadN X253.here hx rfl (hb hby d15_53) rfl ?_
          refine X253.ldc2Long hx hown (mvT hZ (own_w hw 80 rfl)) (g := (mkF m 54 #[.val (.ref dd), .val (.int lv), .val (.int (2 : Int32)), .val (.long (own_bit lv)), .second] [(.long (own_bit lv)), (.long w2), (.int (2 : Int32)), (.ref wa)])) rfl (hb hby d15_54) _ ?_
          refine XS.lxor X253.here hx rfl (hb hby d15_57) rfl ?_
          refine XS.land X253.here hx rfl (hb hby d15_58) rfl ?_
          refine st257 _ ?_
          refine XS.aloadN X257.here hx rfl (hb hby d15_60) rfl rfl ?_
          refine st265 _ ?_
          refine XS.iloadN X265.here hx rfl (hb hby d15_64) rfl ?_
          refine X265.laload hx (j := (2 : Int32)) (v := (.long (w2 &&& ((own_bit lv) ^^^ (-1 : Int64))))) (by rw [e265]; exact Arc266.1) (State.isArrayOf_alike hZ.alike Arc266.2.1) Arc266.2.2 hin267 (Has.at Hc266 hin267 rfl) (g := (mkF m 65 #[.val (.ref dd), .val (.int lv), .val (.int (2 : Int32)), .val (.long (own_bit lv)), .second] [(.int (2 : Int32)), (.ref wa)])) rfl rfl (hb hby d15_65) _ ?_
          refine XS.lconst X265.here hx rfl (hb hby d15_66) ?_
          refine XS.lcmp X265.here hx rfl (hb hby d15_67) rfl ?_
          exact k)
        by_cases hc269 : (lcmpW (w2 &&& ((own_bit lv) ^^^ (-1 : Int64))) (0 : Int64)) = (0 : Int32)
        · obtain ⟨T270, X270, e270, st270⟩ := getF X265 hx hZ hown (host := "") (Or.inl (own_w hw 12 rfl)) Via.refl e265 F259 (g := (mkF m 72 #[.val (.ref dd), .val (.int lv), .val (.int (2 : Int32)), .val (.long (own_bit lv)), .second] [(.ref dd)])) rfl rfl (hb hby d15_72)
          obtain ⟨T271, X271, e271, st271⟩ := getF X270 hx hZ hown (host := "") (Or.inl (own_w hw 12 rfl)) Via.refl e270 F259 (g := (mkF m 79 #[.val (.ref dd), .val (.int lv), .val (.int (2 : Int32)), .val (.long (own_bit lv)), .second] [(.ref dd), (.int (3 : Int32)), (.ref ka)])) rfl rfl (hb hby d15_79)
          obtain ⟨T272, X272, e272, st272⟩ := getF X271 hx hZ hown (host := "") (Or.inl (own_w hw 23 rfl)) Via.refl e271 F261 (g := (mkF m 84 #[.val (.ref dd), .val (.int lv), .val (.int (2 : Int32)), .val (.long (own_bit lv)), .second] [(.ref dd), (.int (2 : Int32)), (.ref ka), (.int (3 : Int32)), (.ref ka)])) rfl rfl (hb hby d15_84)
          obtain ⟨T273, h273, L273, X273, e273, N273, K273q, A273, st273⟩ := cpA X272 hx hZ hown (own_w hw 57 rfl) (own_w hw 52 rfl) (own_w hw 50 rfl) (own_w hw 51 rfl) e272 A263 A263 (Or.inl ⟨rfl, rfl⟩) (by decide) (by decide) (by decide) (by decide) (by decide) (us := []) rfl (Nat.le_of_ble_eq_true rfl) N257 hka (g := (mkF m 91 #[.val (.ref dd), .val (.int lv), .val (.int (2 : Int32)), .val (.long (own_bit lv)), .second] [(.int (0 : Int32)), (.int (2 : Int32)), (.ref ka), (.int (3 : Int32)), (.ref ka)])) rfl (by rw [hml]; rfl) rfl (hb hby d15_91) (by decide) (W := 0) (by show 2 * 0 + _ ≤ _; exact Nat.le_of_eq rfl) (by decide)
          have V273 : Arv Z h273 ka kk .int (3 : Int32) [(.int k0), (.int k1), (.int k2)] (.int (0 : Int32)) := A273
          have E274 := E258.keep K273q
          have F275 := F259.keep K273q (ninS hn1 nin0)
          have F276 := F260.keep K273q (ninS hn1 nin0)
          have F277 := F261.keep K273q (ninS hn1 nin0)
          have F278 := F262.keep K273q (ninS hn1 nin0)
          have A279 := V257.keep K273q (ninS (Ne.symm hn3) nin0)
          have K273 : Keep h0 h273 [dd, ka, wa] := K257.trans K273q (allS (Or.inl (List.mem_of_getElem? (i := 1) rfl)) all0)
          have Zs280 : n0 ≤ h273.size := (Nat.le_trans Zs264 K273q.1)
          obtain ⟨T281, X281, e281, st281⟩ := getF X273 hx hZ hown (host := "") (Or.inl (own_w hw 16 rfl)) Via.refl e273 F276 (g := (mkF m 95 #[.val (.ref dd), .val (.int lv), .val (.int (2 : Int32)), .val (.long (own_bit lv)), .second] [(.ref dd)])) rfl rfl (hb hby d15_95)
          obtain ⟨T282, X282, e282, st282⟩ := getF X281 hx hZ hown (host := "") (Or.inl (own_w hw 16 rfl)) Via.refl e281 F276 (g := (mkF m 102 #[.val (.ref dd), .val (.int lv), .val (.int (2 : Int32)), .val (.long (own_bit lv)), .second] [(.ref dd), (.int (3 : Int32)), (.ref wa)])) rfl rfl (hb hby d15_102)
          obtain ⟨T283, X283, e283, st283⟩ := getF X282 hx hZ hown (host := "") (Or.inl (own_w hw 23 rfl)) Via.refl e282 F277 (g := (mkF m 107 #[.val (.ref dd), .val (.int lv), .val (.int (2 : Int32)), .val (.long (own_bit lv)), .second] [(.ref dd), (.int (2 : Int32)), (.ref wa), (.int (3 : Int32)), (.ref wa)])) rfl rfl (hb hby d15_107)
          obtain ⟨T284, h284, L284, X284, e284, N284, K284q, A284, st284⟩ := cpA X283 hx hZ hown (own_w hw 57 rfl) (own_w hw 52 rfl) (own_w hw 50 rfl) (own_w hw 51 rfl) e283 A279 A279 (Or.inl ⟨rfl, rfl⟩) (by decide) (by decide) (by decide) (by decide) (by decide) (us := []) rfl (Nat.le_of_ble_eq_true rfl) N273 hwa (g := (mkF m 114 #[.val (.ref dd), .val (.int lv), .val (.int (2 : Int32)), .val (.long (own_bit lv)), .second] [(.int (0 : Int32)), (.int (2 : Int32)), (.ref wa), (.int (3 : Int32)), (.ref wa)])) rfl (by rw [hml]; rfl) rfl (hb hby d15_114) (by decide) (W := 0) (by show 2 * 0 + _ ≤ _; exact Nat.le_of_eq rfl) (by decide)
          have V284 : Arv Z h284 wa kw .long (3 : Int32) [(.long w0), (.long w1), (.long (w2 &&& ((own_bit lv) ^^^ (-1 : Int64))))] (.long (0 : Int64)) := A284
          have E285 := E274.keep K284q
          have F286 := F275.keep K284q (ninS hn2 nin0)
          have F287 := F276.keep K284q (ninS hn2 nin0)
          have F288 := F277.keep K284q (ninS hn2 nin0)
          have F289 := F278.keep K284q (ninS hn2 nin0)
          have A290 := V273.keep K284q (ninS hn3 nin0)
          have K284 : Keep h0 h284 [dd, ka, wa] := K273.trans K284q (allS (Or.inl (List.mem_of_getElem? (i := 2) rfl)) all0)
          have Zs291 : n0 ≤ h284.size := (Nat.le_trans Zs280 K284q.1)
          obtain ⟨T292, X292, e292, st292⟩ := getF X284 hx hZ hown (host := "") (Or.inl (own_w hw 23 rfl)) Via.refl e284 F288 (g := (mkF m 119 #[.val (.ref dd), .val (.int lv), .val (.int (2 : Int32)), .val (.long (own_bit lv)), .second] [(.ref dd), (.ref dd)])) rfl rfl (hb hby d15_119)
          obtain ⟨T293, h293, X293, e293, W293, st293⟩ := putF X292 hx hZ hown (host := "") (Or.inl (own_w hw 23 rfl)) Via.refl e292 F288 E285 (Or.inl (own_w hw 24 rfl)) (own_w hw 2 rfl) (ty := .int) (by decide) rfl rfl (g := (mkF m 124 #[.val (.ref dd), .val (.int lv), .val (.int (2 : Int32)), .val (.long (own_bit lv)), .second] [(.int (2 : Int32)), (.ref dd)])) rfl rfl (hb hby d15_124)
          have Fw293 : Fld Z h293 dd "org/tallyrole/core/Dependencies" "size" "I" (.int (2 : Int32)) := F288.same W293
          have E294 := E285.wr W293
          have F295 := F286.other W293 (Or.inr (slot_ne (Or.inl (own_w hw 13 rfl)) (Or.inl (own_w hw 24 rfl)) (by decide) (t := (.array .int)) (t' := .int) (by decide) (by decide)))
          have F296 := F287.other W293 (Or.inr (slot_ne (Or.inl (own_w hw 17 rfl)) (Or.inl (own_w hw 24 rfl)) (by decide) (t := (.array .long)) (t' := .int) (by decide) (by decide)))
          have F297 := F289.other W293 (Or.inr (slot_ne (Or.inl (own_w hw 40 rfl)) (Or.inl (own_w hw 24 rfl)) (by decide) (t := .boolean) (t' := .int) (by decide) (by decide)))
          have A298 := A290.other W293 (Ne.symm hn1)
          have A299 := V284.other W293 (Ne.symm hn2)
          have N293 := Fr.snoc X293 N284 hdd
          have K293 : Keep h0 h293 [dd, ka, wa] := K284.wr W293 (Or.inl (List.mem_of_getElem? (i := 0) rfl))
          have Zs300 : n0 ≤ h293.size := (Nat.le_trans Zs291 (Keep.of_wr W293).1)
          have pre301 := fun (t : State) (k : Steps p.tables e below (T293.setTop (mkF m 127 #[.val (.ref dd), .val (.int lv), .val (.int (2 : Int32)), .val (.long (own_bit lv)), .second] [])) t) => pre268 t (by
            refine XS.ifNo X265.here hx rfl (hb hby d15_68) rfl ((if0 _ _).trans (teq hc269).2) ?_
            refine XS.aloadN X265.here hx rfl (hb hby d15_71) rfl rfl ?_
            refine st270 _ ?_
            refine XS.iloadN X270.here hx rfl (hb hby d15_75) rfl ?_
            refine XS.iconst X270.here hx rfl (hb hby d15_76) ?_
            refine XS.iadd X270.here hx rfl (hb hby d15_77) rfl ?_
            refine XS.aloadN X270.here hx rfl (hb hby d15_78) rfl rfl ?_
            refine st271 _ ?_
            refine XS.iloadN X271.here hx rfl (hb hby d15_82) rfl ?_
            refine XS.aloadN X271.here hx rfl (hb hby d15_83) rfl rfl ?_
            refine st272 _ ?_
            refine XS.iloadN X272.here hx rfl (hb hby d15_87) rfl ?_
            refine XS.isub X272.here hx rfl (hb hby d15_88) rfl ?_
            refine XS.iconst X272.here hx rfl (hb hby d15_89) ?_
            refine XS.isub X272.here hx rfl (hb hby d15_90) rfl ?_
            refine st273 _ ?_
            refine XS.aloadN X273.here hx rfl (hb hby d15_94) rfl rfl ?_
            refine st281 _ ?_
            refine XS.iloadN X281.here hx rfl (hb hby d15_98) rfl ?_
            refine XS.iconst X281.here hx rfl (hb hby d15_99) ?_
            refine XS.iadd X281.here hx rfl (hb hby d15_100) rfl ?_
            refine XS.aloadN X281.here hx rfl (hb hby d15_101) rfl rfl ?_
            refine st282 _ ?_
            refine XS.iloadN X282.here hx rfl (hb hby d15_105) rfl ?_
            refine XS.aloadN X282.here hx rfl (hb hby d15_106) rfl rfl ?_
            refine st283 _ ?_
            refine XS.iloadN X283.here hx rfl (hb hby d15_110) rfl ?_
            refine XS.isub X283.here hx rfl (hb hby d15_111) rfl ?_
            refine XS.iconst X283.here hx rfl (hb hby d15_112) ?_
            refine XS.isub X283.here hx rfl (hb hby d15_113) rfl ?_
            refine st284 _ ?_
            refine XS.aloadN X284.here hx rfl (hb hby d15_117) rfl rfl ?_
            refine XS.dup X284.here hx rfl (hb hby d15_118) rfl rfl ?_
            refine st292 _ ?_
            refine XS.iconst X292.here hx rfl (hb hby d15_122) ?_
            refine XS.isub X292.here hx rfl (hb hby d15_123) rfl ?_
            refine st293 _ ?_
            exact k)
          obtain ⟨fs, hr, hrun, hended, hW, hsame⟩ := X293.leave (v := none) (hlocks := BodyLoose.notSynchronized Bd) (fun _ => rfl)
          refine ⟨_, _, pre301 _ ?_, hrun, hended, _, _, rfl, ?_, ⟨_, rfl⟩, hW, hsame.mono (by decide) (by decide)⟩
          · exact X293.returnOut hx Bd.returns (hb hby d15_127) hr
          · show Q_rm Z dd ka wa kk kw (3 : Int32) (3 : Int32) [(.int k0), (.int k1), (.int k2)] [(.long w0), (.long w1), (.long w2)] SS lv h0 n0 _ T293.heap _
            rw [e293]
            exact ⟨ka, wa, kk, kw, (3 : Int32), (2 : Int32), [(.int k0), (.int k1), (.int k2)], [(.long w0), (.long w1), (.long (w2 &&& ((own_bit lv) ^^^ (-1 : Int64))))], rfl, N293, K293, hka, hwa, (Or.inl rfl), (Or.inl rfl), hn1, hn2, hn3, (Or.inr (Or.inr (Or.inr (Or.inl ⟨_, _, _, _, _, _, rfl, rfl, rfl, rfl, (own_r_out (A := [(k0, w0), (k1, w1)]) (B := []) hrr (own_eq_of hb226 hb227) ((lw_eq _ _).mp hc269))⟩)))), E294, F295, F296, Fw293, F297, A298, A299⟩
        · have pre302 := fun (t : State) (k : Steps p.tables e below (T265.setTop (mkF m 127 #[.val (.ref dd), .val (.int lv), .val (.int (2 : Int32)), .val (.long (own_bit lv)), .second] [])) t) => pre268 t (by
            refine XS.ifYes X265.here hx rfl (pc0 := 68) (pc' := 127) rfl (hb hby d15_68) rfl ((if0 _ _).trans (feq hc269).2) (by decide) (by decide) ?_
            exact k)
          obtain ⟨fs, hr, hrun, hended, hW, hsame⟩ := X265.leave (v := none) (hlocks := BodyLoose.notSynchronized Bd) (fun _ => rfl)
          refine ⟨_, _, pre302 _ ?_, hrun, hended, _, _, rfl, ?_, ⟨_, rfl⟩, hW, hsame.mono (by decide) (by decide)⟩
          · exact X265.returnOut hx Bd.returns (hb hby d15_127) hr
          · show Q_rm Z dd ka wa kk kw (3 : Int32) (3 : Int32) [(.int k0), (.int k1), (.int k2)] [(.long w0), (.long w1), (.long w2)] SS lv h0 n0 _ T265.heap _
            rw [e265]
            exact ⟨ka, wa, kk, kw, (3 : Int32), (3 : Int32), [(.int k0), (.int k1), (.int k2)], [(.long w0), (.long w1), (.long (w2 &&& ((own_bit lv) ^^^ (-1 : Int64))))], rfl, N257, K257, hka, hwa, (Or.inl rfl), (Or.inl rfl), hn1, hn2, hn3, (Or.inr (Or.inr (Or.inr (Or.inr ⟨_, _, _, _, _, _, rfl, rfl, rfl, rfl, (own_r_clr (A := [(k0, w0), (k1, w1)]) (B := []) hrr (own_eq_of hb226 hb227) (fun q => hc269 ((lw_eq _ _).mpr q)))⟩)))), E258, F259, F260, F261, F262, A263, V257⟩
    · have pre303 := fun (t : State) (k : Steps p.tables e below (T216.setTop (mkF m 127 #[.val (.ref dd), .val (.int lv), .val (.int (-2 : Int32)), .val (.long (own_bit lv)), .second] [])) t) => pre241 t (by
        refine XS.istoreN X216.here hx rfl (hb hby d15_16) rfl (l' := #[.val (.ref dd), .val (.int lv), .val (.int (-2 : Int32)), .unset, .unset]) rfl ?_
        refine XS.lconst X216.here hx rfl (hb hby d15_17) ?_
        refine XS.iloadN X216.here hx rfl (hb hby d15_18) rfl ?_
        refine XS.lshl X216.here hx rfl (hb hby d15_19) rfl ?_
        show Steps p.tables e below (T216.setTop (mkF m 20 #[.val (.ref dd), .val (.int lv), .val (.int (-2 : Int32)), .unset, .unset] [(.long (own_bit lv))])) _
        refine XS.lstoreN X216.here hx rfl (hb hby d15_20) rfl (l' := #[.val (.ref dd), .val (.int lv), .val (.int (-2 : Int32)), .val (.long (own_bit lv)), .second]) rfl ?_
        refine XS.iloadN X216.here hx rfl (hb hby d15_21) rfl ?_
        refine XS.ifYes X216.here hx rfl (pc0 := 22) (pc' := 127) rfl (hb hby d15_22) rfl ((if0 _ _).trans (tlt (by decide : (-2 : Int32) < (0 : Int32))).1) (by decide) (by decide) ?_
        exact k)
      obtain ⟨fs, hr, hrun, hended, hW, hsame⟩ := X216.leave (v := none) (hlocks := BodyLoose.notSynchronized Bd) (fun _ => rfl)
      refine ⟨_, _, pre303 _ ?_, hrun, hended, _, _, rfl, ?_, ⟨_, rfl⟩, hW, hsame.mono (by decide) (by decide)⟩
      · exact X216.returnOut hx Bd.returns (hb hby d15_127) hr
      · show Q_rm Z dd ka wa kk kw (3 : Int32) (3 : Int32) [(.int k0), (.int k1), (.int k2)] [(.long w0), (.long w1), (.long w2)] SS lv h0 n0 _ T216.heap _
        rw [hq218]
        exact ⟨ka, wa, kk, kw, (3 : Int32), (3 : Int32), [(.int k0), (.int k1), (.int k2)], [(.long w0), (.long w1), (.long w2)], rfl, N216, K0, hka, hwa, (Or.inl rfl), (Or.inl rfl), hn1, hn2, hn3, (Or.inr (Or.inr (Or.inr (Or.inr ⟨_, _, _, _, _, _, rfl, rfl, rfl, rfl, (own_r_no hrr (List.forall_mem_cons.mpr ⟨(own_ne_lt hb230), (List.forall_mem_cons.mpr ⟨(own_ne_gt hb229), (List.forall_mem_cons.mpr ⟨(own_ne_gt (Int32.lt_trans hb229 ho1)), (List.forall_mem_nil _)⟩)⟩)⟩))⟩)))), H0_E, H1_F, H2_F, H3_F, H4_F, H5_A, H6_A⟩
    · have pre304 := fun (t : State) (k : Steps p.tables e below (T216.setTop (mkF m 127 #[.val (.ref dd), .val (.int lv), .val (.int (-1 : Int32)), .val (.long (own_bit lv)), .second] [])) t) => pre241 t (by
        refine XS.istoreN X216.here hx rfl (hb hby d15_16) rfl (l' := #[.val (.ref dd), .val (.int lv), .val (.int (-1 : Int32)), .unset, .unset]) rfl ?_
        refine XS.lconst X216.here hx rfl (hb hby d15_17) ?_
        refine XS.iloadN X216.here hx rfl (hb hby d15_18) rfl ?_
        refine XS.lshl X216.here hx rfl (hb hby d15_19) rfl ?_
        show Steps p.tables e below (T216.setTop (mkF m 20 #[.val (.ref dd), .val (.int lv), .val (.int (-1 : Int32)), .unset, .unset] [(.long (own_bit lv))])) _
        refine XS.lstoreN X216.here hx rfl (hb hby d15_20) rfl (l' := #[.val (.ref dd), .val (.int lv), .val (.int (-1 : Int32)), .val (.long (own_bit lv)), .second]) rfl ?_
        refine XS.iloadN X216.here hx rfl (hb hby d15_21) rfl ?_
        refine XS.ifYes X216.here hx rfl (pc0 := 22) (pc' := 127) rfl (hb hby d15_22) rfl ((if0 _ _).trans (tlt (by decide : (-1 : Int32) < (0 : Int32))).1) (by decide) (by decide) ?_
        exact k)
      obtain ⟨fs, hr, hrun, hended, hW, hsame⟩ := X216.leave (v := none) (hlocks := BodyLoose.notSynchronized Bd) (fun _ => rfl)
      refine ⟨_, _, pre304 _ ?_, hrun, hended, _, _, rfl, ?_, ⟨_, rfl⟩, hW, hsame.mono (by decide) (by decide)⟩
      · exact X216.returnOut hx Bd.returns (hb hby d15_127) hr
      · show Q_rm Z dd ka wa kk kw (3 : Int32) (3 : Int32) [(.int k0), (.int k1), (.int k2)] [(.long w0), (.long w1), (.long w2)] SS lv h0 n0 _ T216.heap _
        rw [hq218]
        exact ⟨ka, wa, kk, kw, (3 : Int32), (3 : Int32), [(.int k0), (.int k1), (.int k2)], [(.long w0), (.long w1), (.long w2)], rfl, N216, K0, hka, hwa, (Or.inl rfl), (Or.inl rfl), hn1, hn2, hn3, (Or.inr (Or.inr (Or.inr (Or.inr ⟨_, _, _, _, _, _, rfl, rfl, rfl, rfl, (own_r_no hrr (List.forall_mem_cons.mpr ⟨(own_ne_gt hb234), (List.forall_mem_cons.mpr ⟨(own_ne_gt hb232), (List.forall_mem_cons.mpr ⟨(own_ne_gt (Int32.lt_trans hb232 ho1)), (List.forall_mem_nil _)⟩)⟩)⟩))⟩)))), H0_E, H1_F, H2_F, H3_F, H4_F, H5_A, H6_A⟩
    · obtain ⟨T305, X305, e305, st305⟩ := getF X216 hx hZ hown (host := "") (Or.inl (own_w hw 16 rfl)) Via.refl hq218 H2_F (g := (mkF m 26 #[.val (.ref dd), .val (.int lv), .val (.int (0 : Int32)), .val (.long (own_bit lv)), .second] [(.ref dd)])) rfl rfl (hb hby d15_26)
      have oc306 := H6_A
      obtain ⟨c306, Arc306, qc306, Sc306, Nc306, Hc306, Gc306⟩ := oc306
      have hin307 : ¬ ((0 : Int32) < 0 ∨ c306.slots.size ≤ ((0 : Int32)).toNatClampNeg) := (inb_of Sc306 ⟨by decide, by decide⟩)
      have pre308 := fun (t : State) (k : Steps p.tables e below (T305.setTop (mkF m 35 #[.val (.ref dd), .val (.int lv), .val (.int (0 : Int32)), .val (.long (own_bit lv)), .second] [(.int (lcmpW (w0 &&& (own_bit lv)) (0 : Int64)))])) t) => pre241 t (by
        refine XS.istoreN X216.here hx rfl (hb hby d15_16) rfl (l' := #[.val (.ref dd), .val (.int lv), .val (.int (0 : Int32)), .unset, .unset]) rfl ?_
        refine XS.lconst X216.here hx rfl (hb hby d15_17) ?_
        refine XS.iloadN X216.here hx rfl (hb hby d15_18) rfl ?_
        refine XS.lshl X216.here hx rfl (hb hby d15_19) rfl ?_
        show Steps p.tables e below (T216.setTop (mkF m 20 #[.val (.ref dd), .val (.int lv), .val (.int (0 : Int32)), .unset, .unset] [(.long (own_bit lv))])) _
        refine XS.lstoreN X216.here hx rfl (hb hby d15_20) rfl (l' := #[.val (.ref dd), .val (.int lv), .val (.int (0 : Int32)), .val (.long (own_bit lv)), .second]) rfl ?_
        refine XS.iloadN X216.here hx rfl (hb hby d15_21) rfl ?_
        refine XS.ifNo X216.here hx rfl (hb hby d15_22) rfl ((if0 _ _).trans (flt (by decide : ¬ ((0 : Int32) < (0 : Int32)))).1) ?_
        refine XS.aloadN X216.here hx rfl (hb hby d15_25) rfl rfl ?_
        refine st305 _ ?_
        refine XS.iloadN X305.here hx rfl (hb hby d15_29) rfl ?_
        refine X305.laload hx (j := (0 : Int32)) (v := (.long w0)) (by rw [e305]; exact Arc306.1) (State.isArrayOf_alike hZ.alike Arc306.2.1) Arc306.2.2 hin307 (Has.at Hc306 hin307 rfl) (g := (mkF m 30 #[.val (.ref dd), .val (.int lv), .val (.int (0 : Int32)), .val (.long (own_bit lv)), .second] [(.int (0 : Int32)), (.ref wa)])) rfl rfl (hb hby d15_30) _ ?_
        refine XS.lloadN X305.here hx rfl (hb hby d15_31) rfl ?_
        refine XS.land X305.here hx rfl (hb hby d15_32) rfl ?_
        refine XS.lconst X305.here hx rfl (hb hby d15_33) ?_
        refine XS.lcmp X305.here hx rfl (hb hby d15_34) rfl ?_
        exact k)
      by_cases hc309 : (lcmpW (w0 &&& (own_bit lv)) (0 : Int64)) = (0 : Int32)
      · have pre310 := fun (t : State) (k : Steps p.tables e below (T305.setTop (mkF m 127 #[.val (.ref dd), .val (.int lv), .val (.int (0 : Int32)), .val (.long (own_bit lv)), .second] [])) t) => pre308 t (by
          refine XS.ifYes X305.here hx rfl (pc0 := 35) (pc' := 127) rfl (hb hby d15_35) rfl ((if0 _ _).trans (teq hc309).1) (by decide) (by decide) ?_
          exact k)
        obtain ⟨fs, hr, hrun, hended, hW, hsame⟩ := X305.leave (v := none) (hlocks := BodyLoose.notSynchronized Bd) (fun _ => rfl)
        refine ⟨_, _, pre310 _ ?_, hrun, hended, _, _, rfl, ?_, ⟨_, rfl⟩, hW, hsame.mono (by decide) (by decide)⟩
        · exact X305.returnOut hx Bd.returns (hb hby d15_127) hr
        · show Q_rm Z dd ka wa kk kw (3 : Int32) (3 : Int32) [(.int k0), (.int k1), (.int k2)] [(.long w0), (.long w1), (.long w2)] SS lv h0 n0 _ T305.heap _
          rw [e305]
          exact ⟨ka, wa, kk, kw, (3 : Int32), (3 : Int32), [(.int k0), (.int k1), (.int k2)], [(.long w0), (.long w1), (.long w2)], rfl, N216, K0, hka, hwa, (Or.inl rfl), (Or.inl rfl), hn1, hn2, hn3, (Or.inr (Or.inr (Or.inr (Or.inr ⟨_, _, _, _, _, _, rfl, rfl, rfl, rfl, (own_r_off (A := []) (B := [(k1, w1), (k2, w2)]) hrr (own_eq_of hb237 hb238) ((lw_eq _ _).mp hc309))⟩)))), H0_E, H1_F, H2_F, H3_F, H4_F, H5_A, H6_A⟩
      · obtain ⟨T311, X311, e311, st311⟩ := getF X305 hx hZ hown (host := "") (Or.inl (own_w hw 23 rfl)) Via.refl e305 H3_F (g := (mkF m 40 #[.val (.ref dd), .val (.int lv), .val (.int (0 : Int32)), .val (.long (own_bit lv)), .second] [(.ref dd), (.ref dd)])) rfl rfl (hb hby d15_40)
        obtain ⟨cq312, q312, q312'⟩ := H0_E.cell
        obtain ⟨_, _, ⟨T312, L312, k312, n312⟩, -, X312, ⟨Lc312, hQ312, l312, y312, z312⟩, st312⟩ := X311.privateBack hx (y := (⟨"org/tallyrole/core/Dependencies", "reserve", "(I)V"⟩ : MethodName)) hown (mvT hZ (own_w hw 35 rfl)) (mvT hZ (own_w hw 36 rfl)) (own_sel_priv (z := (⟨"org/tallyrole/core/Dependencies", "add", "(I)V"⟩ : MethodName)) (mvT hZ (own_w hw 21 rfl)) rfl (mvP hZ (own_w hw 37 rfl)) (mvT hZ (own_w hw 36 rfl)) (by decide)) (Cond.privateMethod_at (mvP hZ (own_w hw 37 rfl) (args := #[]))) (mvT hZ (own_w hw 38 rfl)) (by decide) (backOf (W := 0) (rm_rvN l Z a0 hw [] dd ka kk (3 : Int32) [(.int k0), (.int k1), (.int k2)] (3 : Int32) h0 n0 Z0 H0_E H1_F H4_F H5_A (by decide)) hZ (own_w hw 38 rfl) (own_w hw 3 rfl) (by decide) (by decide)) (g := (mkF m 43 #[.val (.ref dd), .val (.int lv), .val (.int (0 : Int32)), .val (.long (own_bit lv)), .second] [(.int (3 : Int32)), (.ref dd)])) rfl (by rw [hml]; rfl) (Steps.refl _) (a := dd) (by rw [e311]; exact q312) q312' (argsL := [(.int (3 : Int32))]) (rest := []) (lenOf pd_7 rfl) rfl (by show 2 * 0 + _ ≤ _; exact Nat.le_of_eq rfl) (hb hby d15_43) (fun _ _ => ⟨rfl, e311, (by decide : 0 + 0 ≤ _), (by decide : 0 + 0 ≤ _)⟩)
        dsimp only [Pt.U, Pt.locs, Pt.cells, Pt.slots] at X312 l312 y312 z312 st312 hQ312
        subst l312 y312 z312
        obtain ⟨rfl, N312q, hq313⟩ := hQ312
        have N312 := Fr.app N216 N312q
        obtain ⟨T314, X314, e314, st314⟩ := getF X312 hx hZ hown (host := "") (Or.inl (own_w hw 16 rfl)) Via.refl hq313 H2_F (g := (mkF m 47 #[.val (.ref dd), .val (.int lv), .val (.int (0 : Int32)), .val (.long (own_bit lv)), .second] [(.ref dd)])) rfl rfl (hb hby d15_47)
        have oc315 := H6_A
        obtain ⟨c315, Arc315, qc315, Sc315, Nc315, Hc315, Gc315⟩ := oc315
        have hin316 : ¬ ((0 : Int32) < 0 ∨ c315.slots.size ≤ ((0 : Int32)).toNatClampNeg) := (inb_of Sc315 ⟨by decide, by decide⟩)
        have oc317 := H6_A
        obtain ⟨c317, Arc317, qc317, Sc317, Nc317, Hc317, Gc317⟩ := oc317
        have hin318 : ¬ ((0 : Int32) < 0 ∨ c317.slots.size ≤ ((0 : Int32)).toNatClampNeg) := (inb_of Sc317 ⟨by decide, by decide⟩)
        obtain ⟨T318, h318, X318, e318, W318, st318⟩ := stJ X314 hx hZ e314 Arc317 (j := (0 : Int32)) hin318 (g := (mkF m 59 #[.val (.ref dd), .val (.int lv), .val (.int (0 : Int32)), .val (.long (own_bit lv)), .second] [(.long (w0 &&& ((own_bit lv) ^^^ (-1 : Int64)))), (.int (0 : Int32)), (.ref wa)])) rfl rfl (hb hby d15_59)
        have V318 : Arv Z h318 wa kw .long (3 : Int32) [(.long (w0 &&& ((own_bit lv) ^^^ (-1 : Int64)))), (.long w1), (.long w2)] (.long (0 : Int64)) := Arv.set Arc317 qc317 Sc317 Nc317 Hc317 Gc317 rfl W318 0 rfl (Nat.le_of_ble_eq_true rfl)
        have E319 := H0_E.wr W318
        have F320 := H1_F.other W318 (Or.inl hn2)
        have F321 := H2_F.other W318 (Or.inl hn2)
        have F322 := H3_F.other W318 (Or.inl hn2)
        have F323 := H4_F.other W318 (Or.inl hn2)
        have A324 := H5_A.other W318 hn3
        have N318 := Fr.snoc X318 N312 hwa
        have K318 : Keep h0 h318 [dd, ka, wa] := K0.wr W318 (Or.inl (List.mem_of_getElem? (i := 2) rfl))
        have Zs325 : n0 ≤ h318.size := (Nat.le_trans Z0 (Keep.of_wr W318).1)
        obtain ⟨T326, X326, e326, st326⟩ := getF X318 hx hZ hown (host := "") (Or.inl (own_w hw 16 rfl)) Via.refl e318 F321 (g := (mkF m 61 #[.val (.ref dd), .val (.int lv), .val (.int (0 : Int32)), .val (.long (own_bit lv)), .second] [(.ref dd)])) rfl rfl (hb hby d15_61)
        have oc327 := V318
        obtain ⟨c327, Arc327, qc327, Sc327, Nc327, Hc327, Gc327⟩ := oc327
        have hin328 : ¬ ((0 : Int32) < 0 ∨ c327.slots.size ≤ ((0 : Int32)).toNatClampNeg) := (inb_of Sc327 ⟨by decide, by decide⟩)
        have pre329 := fun (t : State) (k : Steps p.tables e below (T326.setTop (mkF m 68 #[.val (.ref dd), .val (.int lv), .val (.int (0 : Int32)), .val (.long (own_bit lv)), .second] [(.int (lcmpW (w0 &&& ((own_bit lv) ^^^ (-1 : Int64))) (0 : Int64)))])) t) => pre308 t (by
          refine XS.ifNo X305.here hx rfl (hb hby d15_35) rfl ((if0 _ _).trans (feq hc309).1) ?_
          refine XS.aloadN X305.here hx rfl (hb hby d15_38) rfl rfl ?_
          refine XS.aloadN X305.here hx rfl (hb hby d15_39) rfl rfl ?_
          refine st311 _ ?_
          refine st312.trans ?_
          refine XS.aloadN X312.here hx rfl (hb hby d15_46) rfl rfl ?_
          refine st314 _ ?_
          refine XS.iloadN X314.here hx rfl (hb hby d15_50) rfl ?_
          jvm_step X314.here [X314.here.top, hx, (hb hby d15_51), Value.category]
          refine X314.laload hx (j := (0 : Int32)) (v := (.long w0)) (by rw [e314]; exact Arc315.1) (State.isArrayOf_alike hZ.alike Arc315.2.1) Arc315.2.2 hin316 (Has.at Hc315 hin316 rfl) (g := (mkF m 52 #[.val (.ref dd), .val (.int lv), .val (.int (0 : Int32)), .val (.long (own_bit lv)), .second] [(.int (0 : Int32)), (.ref wa), (.int (0 : Int32)), (.ref wa)])) rfl rfl (hb hby d15_52) _ ?_
          refine XS.lloadN X314.here hx rfl (hb hby d15_53) rfl ?_
          refine X314.ldc2Long hx hown (mvT hZ (own_w hw 80 rfl)) (g := (mkF m 54 #[.val (.ref dd), .val (.int lv), .val (.int (0 : Int32)), .val (.long (own_bit lv)), .second] [(.long (own_bit lv)), (.long w0), (.int (0 : Int32)), (.ref wa)])) rfl (hb hby d15_54) _ ?_
          refine XS.lxor X314.here hx rfl (hb hby d15_57) rfl ?_
          refine XS.land X314.here hx rfl (hb hby d15_58) rfl ?_
          refine st318 _ ?_
          refine XS.aloadN X318.here hx rfl (hb hby d15_60) rfl rfl ?_
          refine st326 _ ?_
          refine XS.iloadN X326.here hx rfl (hb hby d15_64) rfl ?_
          refine X326.laload hx (j := (0 : Int32)) (v := (.long (w0 &&& ((own_bit lv) ^^^ (-1 : Int64))))) (by rw [e326]; exact Arc327.1) (State.isArrayOf_alike hZ.alike Arc327.2.1) Arc327.2.2 hin328 (Has.at Hc327 hin328 rfl) (g := (mkF m 65 #[.val (.ref dd), .val (.int lv), .val (.int (0 : Int32)), .val (.long (own_bit lv)), .second] [(.int (0 : Int32)), (.ref wa)])) rfl rfl (hb hby d15_65) _ ?_
          refine XS.lconst X326.here hx rfl (hb hby d15_66) ?_
          refine XS.lcmp X326.here hx rfl (hb hby d15_67) rfl ?_
          exact k)
        by_cases hc330 : (lcmpW (w0 &&& ((own_bit lv) ^^^ (-1 : Int64))) (0 : Int64)) = (0 : Int32)
        · obtain ⟨T331, X331, e331, st331⟩ := getF X326 hx hZ hown (host := "") (Or.inl (own_w hw 12 rfl)) Via.refl e326 F320 (g := (mkF m 72 #[.val (.ref dd), .val (.int lv), .val (.int (0 : Int32)), .val (.long (own_bit lv)), .second] [(.ref dd)])) rfl rfl (hb hby d15_72)
          obtain ⟨T332, X332, e332, st332⟩ := getF X331 hx hZ hown (host := "") (Or.inl (own_w hw 12 rfl)) Via.refl e331 F320 (g := (mkF m 79 #[.val (.ref dd), .val (.int lv), .val (.int (0 : Int32)), .val (.long (own_bit lv)), .second] [(.ref dd), (.int (1 : Int32)), (.ref ka)])) rfl rfl (hb hby d15_79)
          obtain ⟨T333, X333, e333, st333⟩ := getF X332 hx hZ hown (host := "") (Or.inl (own_w hw 23 rfl)) Via.refl e332 F322 (g := (mkF m 84 #[.val (.ref dd), .val (.int lv), .val (.int (0 : Int32)), .val (.long (own_bit lv)), .second] [(.ref dd), (.int (0 : Int32)), (.ref ka), (.int (1 : Int32)), (.ref ka)])) rfl rfl (hb hby d15_84)
          obtain ⟨T334, h334, L334, X334, e334, N334, K334q, A334, st334⟩ := cpA X333 hx hZ hown (own_w hw 57 rfl) (own_w hw 52 rfl) (own_w hw 50 rfl) (own_w hw 51 rfl) e333 A324 A324 (Or.inl ⟨rfl, rfl⟩) (by decide) (by decide) (by decide) (by decide) (by decide) (us := [(.int k1), (.int k2)]) rfl (Nat.le_of_ble_eq_true rfl) N318 hka (g := (mkF m 91 #[.val (.ref dd), .val (.int lv), .val (.int (0 : Int32)), .val (.long (own_bit lv)), .second] [(.int (2 : Int32)), (.int (0 : Int32)), (.ref ka), (.int (1 : Int32)), (.ref ka)])) rfl (by rw [hml]; rfl) rfl (hb hby d15_91) (by decide) (W := 0) (by show 2 * 0 + _ ≤ _; exact Nat.le_of_eq rfl) (by decide)
          have V334 : Arv Z h334 ka kk .int (3 : Int32) [(.int k1), (.int k2), (.int k2)] (.int (0 : Int32)) := A334
          have E335 := E319.keep K334q
          have F336 := F320.keep K334q (ninS hn1 nin0)
          have F337 := F321.keep K334q (ninS hn1 nin0)
          have F338 := F322.keep K334q (ninS hn1 nin0)
          have F339 := F323.keep K334q (ninS hn1 nin0)
          have A340 := V318.keep K334q (ninS (Ne.symm hn3) nin0)
          have K334 : Keep h0 h334 [dd, ka, wa] := K318.trans K334q (allS (Or.inl (List.mem_of_getElem? (i := 1) rfl)) all0)
          have Zs341 : n0 ≤ h334.size := (Nat.le_trans Zs325 K334q.1)
          obtain ⟨T342, X342, e342, st342⟩ := getF X334 hx hZ hown (host := "") (Or.inl (own_w hw 16 rfl)) Via.refl e334 F337 (g := (mkF m 95 #[.val (.ref dd), .val (.int lv), .val (.int (0 : Int32)), .val (.long (own_bit lv)), .second] [(.ref dd)])) rfl rfl (hb hby d15_95)
          obtain ⟨T343, X343, e343, st343⟩ := getF X342 hx hZ hown (host := "") (Or.inl (own_w hw 16 rfl)) Via.refl e342 F337 (g := (mkF m 102 #[.val (.ref dd), .val (.int lv), .val (.int (0 : Int32)), .val (.long (own_bit lv)), .second] [(.ref dd), (.int (1 : Int32)), (.ref wa)])) rfl rfl (hb hby d15_102)
          obtain ⟨T344, X344, e344, st344⟩ := getF X343 hx hZ hown (host := "") (Or.inl (own_w hw 23 rfl)) Via.refl e343 F338 (g := (mkF m 107 #[.val (.ref dd), .val (.int lv), .val (.int (0 : Int32)), .val (.long (own_bit lv)), .second] [(.ref dd), (.int (0 : Int32)), (.ref wa), (.int (1 : Int32)), (.ref wa)])) rfl rfl (hb hby d15_107)
          obtain ⟨T345, h345, L345, X345, e345, N345, K345q, A345, st345⟩ := cpA X344 hx hZ hown (own_w hw 57 rfl) (own_w hw 52 rfl) (own_w hw 50 rfl) (own_w hw 51 rfl) e344 A340 A340 (Or.inl ⟨rfl, rfl⟩) (by decide) (by decide) (by decide) (by decide) (by decide) (us := [(.long w1), (.long w2)]) rfl (Nat.le_of_ble_eq_true rfl) N334 hwa (g := (mkF m 114 #[.val (.ref dd), .val (.int lv), .val (.int (0 : Int32)), .val (.long (own_bit lv)), .second] [(.int (2 : Int32)), (.int (0 : Int32)), (.ref wa), (.int (1 : Int32)), (.ref wa)])) rfl (by rw [hml]; rfl) rfl (hb hby d15_114) (by decide) (W := 0) (by show 2 * 0 + _ ≤ _; exact Nat.le_of_eq rfl) (by decide)
          have V345 : Arv Z h345 wa kw .long (3 : Int32) [(.long w1), (.long w2), (.long w2)] (.long (0 : Int64)) := A345
          have E346 := E335.keep K345q
          have F347 := F336.keep K345q (ninS hn2 nin0)
          have F348 := F337.keep K345q (ninS hn2 nin0)
          have F349 := F338.keep K345q (ninS hn2 nin0)
          have F350 := F339.keep K345q (ninS hn2 nin0)
          have A351 := V334.keep K345q (ninS hn3 nin0)
          have K345 : Keep h0 h345 [dd, ka, wa] := K334.trans K345q (allS (Or.inl (List.mem_of_getElem? (i := 2) rfl)) all0)
          have Zs352 : n0 ≤ h345.size := (Nat.le_trans Zs341 K345q.1)
          obtain ⟨T353, X353, e353, st353⟩ := getF X345 hx hZ hown (host := "") (Or.inl (own_w hw 23 rfl)) Via.refl e345 F349 (g := (mkF m 119 #[.val (.ref dd), .val (.int lv), .val (.int (0 : Int32)), .val (.long (own_bit lv)), .second] [(.ref dd), (.ref dd)])) rfl rfl (hb hby d15_119)
          obtain ⟨T354, h354, X354, e354, W354, st354⟩ := putF X353 hx hZ hown (host := "") (Or.inl (own_w hw 23 rfl)) Via.refl e353 F349 E346 (Or.inl (own_w hw 24 rfl)) (own_w hw 2 rfl) (ty := .int) (by decide) rfl rfl (g := (mkF m 124 #[.val (.ref dd), .val (.int lv), .val (.int (0 : Int32)), .val (.long (own_bit lv)), .second] [(.int (2 : Int32)), (.ref dd)])) rfl rfl (hb hby d15_124)
          have Fw354 : Fld Z h354 dd "org/tallyrole/core/Dependencies" "size" "I" (.int (2 : Int32)) := F349.same W354
          have E355 := E346.wr W354
          have F356 := F347.other W354 (Or.inr (slot_ne (Or.inl (own_w hw 13 rfl)) (Or.inl (own_w hw 24 rfl)) (by decide) (t := (.array .int)) (t' := .int) (by decide) (by decide)))
          have F357 := F348.other W354 (Or.inr (slot_ne (Or.inl (own_w hw 17 rfl)) (Or.inl (own_w hw 24 rfl)) (by decide) (t := (.array .long)) (t' := .int) (by decide) (by decide)))
          have F358 := F350.other W354 (Or.inr (slot_ne (Or.inl (own_w hw 40 rfl)) (Or.inl (own_w hw 24 rfl)) (by decide) (t := .boolean) (t' := .int) (by decide) (by decide)))
          have A359 := A351.other W354 (Ne.symm hn1)
          have A360 := V345.other W354 (Ne.symm hn2)
          have N354 := Fr.snoc X354 N345 hdd
          have K354 : Keep h0 h354 [dd, ka, wa] := K345.wr W354 (Or.inl (List.mem_of_getElem? (i := 0) rfl))
          have Zs361 : n0 ≤ h354.size := (Nat.le_trans Zs352 (Keep.of_wr W354).1)
          have pre362 := fun (t : State) (k : Steps p.tables e below (T354.setTop (mkF m 127 #[.val (.ref dd), .val (.int lv), .val (.int (0 : Int32)), .val (.long (own_bit lv)), .second] [])) t) => pre329 t (by
            refine XS.ifNo X326.here hx rfl (hb hby d15_68) rfl ((if0 _ _).trans (teq hc330).2) ?_
            refine XS.aloadN X326.here hx rfl (hb hby d15_71) rfl rfl ?_
            refine st331 _ ?_
            refine XS.iloadN X331.here hx rfl (hb hby d15_75) rfl ?_
            refine XS.iconst X331.here hx rfl (hb hby d15_76) ?_
            refine XS.iadd X331.here hx rfl (hb hby d15_77) rfl ?_
            refine XS.aloadN X331.here hx rfl (hb hby d15_78) rfl rfl ?_
            refine st332 _ ?_
            refine XS.iloadN X332.here hx rfl (hb hby d15_82) rfl ?_
            refine XS.aloadN X332.here hx rfl (hb hby d15_83) rfl rfl ?_
            refine st333 _ ?_
            refine XS.iloadN X333.here hx rfl (hb hby d15_87) rfl ?_
            refine XS.isub X333.here hx rfl (hb hby d15_88) rfl ?_
            refine XS.iconst X333.here hx rfl (hb hby d15_89) ?_
            refine XS.isub X333.here hx rfl (hb hby d15_90) rfl ?_
            refine st334 _ ?_
            refine XS.aloadN X334.here hx rfl (hb hby d15_94) rfl rfl ?_
            refine st342 _ ?_
            refine XS.iloadN X342.here hx rfl (hb hby d15_98) rfl ?_
            refine XS.iconst X342.here hx rfl (hb hby d15_99) ?_
            refine XS.iadd X342.here hx rfl (hb hby d15_100) rfl ?_
            refine XS.aloadN X342.here hx rfl (hb hby d15_101) rfl rfl ?_
            refine st343 _ ?_
            refine XS.iloadN X343.here hx rfl (hb hby d15_105) rfl ?_
            refine XS.aloadN X343.here hx rfl (hb hby d15_106) rfl rfl ?_
            refine st344 _ ?_
            refine XS.iloadN X344.here hx rfl (hb hby d15_110) rfl ?_
            refine XS.isub X344.here hx rfl (hb hby d15_111) rfl ?_
            refine XS.iconst X344.here hx rfl (hb hby d15_112) ?_
            refine XS.isub X344.here hx rfl (hb hby d15_113) rfl ?_
            refine st345 _ ?_
            refine XS.aloadN X345.here hx rfl (hb hby d15_117) rfl rfl ?_
            refine XS.dup X345.here hx rfl (hb hby d15_118) rfl rfl ?_
            refine st353 _ ?_
            refine XS.iconst X353.here hx rfl (hb hby d15_122) ?_
            refine XS.isub X353.here hx rfl (hb hby d15_123) rfl ?_
            refine st354 _ ?_
            exact k)
          obtain ⟨fs, hr, hrun, hended, hW, hsame⟩ := X354.leave (v := none) (hlocks := BodyLoose.notSynchronized Bd) (fun _ => rfl)
          refine ⟨_, _, pre362 _ ?_, hrun, hended, _, _, rfl, ?_, ⟨_, rfl⟩, hW, hsame.mono (by decide) (by decide)⟩
          · exact X354.returnOut hx Bd.returns (hb hby d15_127) hr
          · show Q_rm Z dd ka wa kk kw (3 : Int32) (3 : Int32) [(.int k0), (.int k1), (.int k2)] [(.long w0), (.long w1), (.long w2)] SS lv h0 n0 _ T354.heap _
            rw [e354]
            exact ⟨ka, wa, kk, kw, (3 : Int32), (2 : Int32), [(.int k1), (.int k2), (.int k2)], [(.long w1), (.long w2), (.long w2)], rfl, N354, K354, hka, hwa, (Or.inl rfl), (Or.inl rfl), hn1, hn2, hn3, (Or.inr (Or.inr (Or.inr (Or.inl ⟨_, _, _, _, _, _, rfl, rfl, rfl, rfl, (own_r_out (A := []) (B := [(k1, w1), (k2, w2)]) hrr (own_eq_of hb237 hb238) ((lw_eq _ _).mp hc330))⟩)))), E355, F356, F357, Fw354, F358, A359, A360⟩
        · have pre363 := fun (t : State) (k : Steps p.tables e below (T326.setTop (mkF m 127 #[.val (.ref dd), .val (.int lv), .val (.int (0 : Int32)), .val (.long (own_bit lv)), .second] [])) t) => pre329 t (by
            refine XS.ifYes X326.here hx rfl (pc0 := 68) (pc' := 127) rfl (hb hby d15_68) rfl ((if0 _ _).trans (feq hc330).2) (by decide) (by decide) ?_
            exact k)
          obtain ⟨fs, hr, hrun, hended, hW, hsame⟩ := X326.leave (v := none) (hlocks := BodyLoose.notSynchronized Bd) (fun _ => rfl)
          refine ⟨_, _, pre363 _ ?_, hrun, hended, _, _, rfl, ?_, ⟨_, rfl⟩, hW, hsame.mono (by decide) (by decide)⟩
          · exact X326.returnOut hx Bd.returns (hb hby d15_127) hr
          · show Q_rm Z dd ka wa kk kw (3 : Int32) (3 : Int32) [(.int k0), (.int k1), (.int k2)] [(.long w0), (.long w1), (.long w2)] SS lv h0 n0 _ T326.heap _
            rw [e326]
            exact ⟨ka, wa, kk, kw, (3 : Int32), (3 : Int32), [(.int k0), (.int k1), (.int k2)], [(.long (w0 &&& ((own_bit lv) ^^^ (-1 : Int64)))), (.long w1), (.long w2)], rfl, N318, K318, hka, hwa, (Or.inl rfl), (Or.inl rfl), hn1, hn2, hn3, (Or.inr (Or.inr (Or.inr (Or.inr ⟨_, _, _, _, _, _, rfl, rfl, rfl, rfl, (own_r_clr (A := []) (B := [(k1, w1), (k2, w2)]) hrr (own_eq_of hb237 hb238) (fun q => hc330 ((lw_eq _ _).mpr q)))⟩)))), E319, F320, F321, F322, F323, A324, V318⟩
    · obtain ⟨T364, X364, e364, st364⟩ := getF X216 hx hZ hown (host := "") (Or.inl (own_w hw 16 rfl)) Via.refl hq218 H2_F (g := (mkF m 26 #[.val (.ref dd), .val (.int lv), .val (.int (1 : Int32)), .val (.long (own_bit lv)), .second] [(.ref dd)])) rfl rfl (hb hby d15_26)
      have oc365 := H6_A
      obtain ⟨c365, Arc365, qc365, Sc365, Nc365, Hc365, Gc365⟩ := oc365
      have hin366 : ¬ ((1 : Int32) < 0 ∨ c365.slots.size ≤ ((1 : Int32)).toNatClampNeg) := (inb_of Sc365 ⟨by decide, by decide⟩)
      have pre367 := fun (t : State) (k : Steps p.tables e below (T364.setTop (mkF m 35 #[.val (.ref dd), .val (.int lv), .val (.int (1 : Int32)), .val (.long (own_bit lv)), .second] [(.int (lcmpW (w1 &&& (own_bit lv)) (0 : Int64)))])) t) => pre241 t (by
        refine XS.istoreN X216.here hx rfl (hb hby d15_16) rfl (l' := #[.val (.ref dd), .val (.int lv), .val (.int (1 : Int32)), .unset, .unset]) rfl ?_
        refine XS.lconst X216.here hx rfl (hb hby d15_17) ?_
        refine XS.iloadN X216.here hx rfl (hb hby d15_18) rfl ?_
        refine XS.lshl X216.here hx rfl (hb hby d15_19) rfl ?_
        show Steps p.tables e below (T216.setTop (mkF m 20 #[.val (.ref dd), .val (.int lv), .val (.int (1 : Int32)), .unset, .unset] [(.long (own_bit lv))])) _
        refine XS.lstoreN X216.here hx rfl (hb hby d15_20) rfl (l' := #[.val (.ref dd), .val (.int lv), .val (.int (1 : Int32)), .val (.long (own_bit lv)), .second]) rfl ?_
        refine XS.iloadN X216.here hx rfl (hb hby d15_21) rfl ?_
        refine XS.ifNo X216.here hx rfl (hb hby d15_22) rfl ((if0 _ _).trans (flt (by decide : ¬ ((1 : Int32) < (0 : Int32)))).1) ?_
        refine XS.aloadN X216.here hx rfl (hb hby d15_25) rfl rfl ?_
        refine st364 _ ?_
        refine XS.iloadN X364.here hx rfl (hb hby d15_29) rfl ?_
        refine X364.laload hx (j := (1 : Int32)) (v := (.long w1)) (by rw [e364]; exact Arc365.1) (State.isArrayOf_alike hZ.alike Arc365.2.1) Arc365.2.2 hin366 (Has.at Hc365 hin366 rfl) (g := (mkF m 30 #[.val (.ref dd), .val (.int lv), .val (.int (1 : Int32)), .val (.long (own_bit lv)), .second] [(.int (1 : Int32)), (.ref wa)])) rfl rfl (hb hby d15_30) _ ?_
        refine XS.lloadN X364.here hx rfl (hb hby d15_31) rfl ?_
        refine XS.land X364.here hx rfl (hb hby d15_32) rfl ?_
        refine XS.lconst X364.here hx rfl (hb hby d15_33) ?_
        refine XS.lcmp X364.here hx rfl (hb hby d15_34) rfl ?_
        exact k)
      by_cases hc368 : (lcmpW (w1 &&& (own_bit lv)) (0 : Int64)) = (0 : Int32)
      · have pre369 := fun (t : State) (k : Steps p.tables e below (T364.setTop (mkF m 127 #[.val (.ref dd), .val (.int lv), .val (.int (1 : Int32)), .val (.long (own_bit lv)), .second] [])) t) => pre367 t (by
          refine XS.ifYes X364.here hx rfl (pc0 := 35) (pc' := 127) rfl (hb hby d15_35) rfl ((if0 _ _).trans (teq hc368).1) (by decide) (by decide) ?_
          exact k)
        obtain ⟨fs, hr, hrun, hended, hW, hsame⟩ := X364.leave (v := none) (hlocks := BodyLoose.notSynchronized Bd) (fun _ => rfl)
        refine ⟨_, _, pre369 _ ?_, hrun, hended, _, _, rfl, ?_, ⟨_, rfl⟩, hW, hsame.mono (by decide) (by decide)⟩
        · exact X364.returnOut hx Bd.returns (hb hby d15_127) hr
        · show Q_rm Z dd ka wa kk kw (3 : Int32) (3 : Int32) [(.int k0), (.int k1), (.int k2)] [(.long w0), (.long w1), (.long w2)] SS lv h0 n0 _ T364.heap _
          rw [e364]
          exact ⟨ka, wa, kk, kw, (3 : Int32), (3 : Int32), [(.int k0), (.int k1), (.int k2)], [(.long w0), (.long w1), (.long w2)], rfl, N216, K0, hka, hwa, (Or.inl rfl), (Or.inl rfl), hn1, hn2, hn3, (Or.inr (Or.inr (Or.inr (Or.inr ⟨_, _, _, _, _, _, rfl, rfl, rfl, rfl, (own_r_off (A := [(k0, w0)]) (B := [(k2, w2)]) hrr (own_eq_of hb239 hb240) ((lw_eq _ _).mp hc368))⟩)))), H0_E, H1_F, H2_F, H3_F, H4_F, H5_A, H6_A⟩
      · obtain ⟨T370, X370, e370, st370⟩ := getF X364 hx hZ hown (host := "") (Or.inl (own_w hw 23 rfl)) Via.refl e364 H3_F (g := (mkF m 40 #[.val (.ref dd), .val (.int lv), .val (.int (1 : Int32)), .val (.long (own_bit lv)), .second] [(.ref dd), (.ref dd)])) rfl rfl (hb hby d15_40)
        obtain ⟨cq371, q371, q371'⟩ := H0_E.cell
        obtain ⟨_, _, ⟨T371, L371, k371, n371⟩, -, X371, ⟨Lc371, hQ371, l371, y371, z371⟩, st371⟩ := X370.privateBack hx (y := (⟨"org/tallyrole/core/Dependencies", "reserve", "(I)V"⟩ : MethodName)) hown (mvT hZ (own_w hw 35 rfl)) (mvT hZ (own_w hw 36 rfl)) (own_sel_priv (z := (⟨"org/tallyrole/core/Dependencies", "add", "(I)V"⟩ : MethodName)) (mvT hZ (own_w hw 21 rfl)) rfl (mvP hZ (own_w hw 37 rfl)) (mvT hZ (own_w hw 36 rfl)) (by decide)) (Cond.privateMethod_at (mvP hZ (own_w hw 37 rfl) (args := #[]))) (mvT hZ (own_w hw 38 rfl)) (by decide) (backOf (W := 0) (rm_rvN l Z a0 hw [] dd ka kk (3 : Int32) [(.int k0), (.int k1), (.int k2)] (3 : Int32) h0 n0 Z0 H0_E H1_F H4_F H5_A (by decide)) hZ (own_w hw 38 rfl) (own_w hw 3 rfl) (by decide) (by decide)) (g := (mkF m 43 #[.val (.ref dd), .val (.int lv), .val (.int (1 : Int32)), .val (.long (own_bit lv)), .second] [(.int (3 : Int32)), (.ref dd)])) rfl (by rw [hml]; rfl) (Steps.refl _) (a := dd) (by rw [e370]; exact q371) q371' (argsL := [(.int (3 : Int32))]) (rest := []) (lenOf pd_7 rfl) rfl (by show 2 * 0 + _ ≤ _; exact Nat.le_of_eq rfl) (hb hby d15_43) (fun _ _ => ⟨rfl, e370, (by decide : 0 + 0 ≤ _), (by decide : 0 + 0 ≤ _)⟩)
        dsimp only [Pt.U, Pt.locs, Pt.cells, Pt.slots] at X371 l371 y371 z371 st371 hQ371
        subst l371 y371 z371
        obtain ⟨rfl, N371q, hq372⟩ := hQ371
        have N371 := Fr.app N216 N371q
        obtain ⟨T373, X373, e373, st373⟩ := getF X371 hx hZ hown (host := "") (Or.inl (own_w hw 16 rfl)) Via.refl hq372 H2_F (g := (mkF m 47 #[.val (.ref dd), .val (.int lv), .val (.int (1 : Int32)), .val (.long (own_bit lv)), .second] [(.ref dd)])) rfl rfl (hb hby d15_47)
        have oc374 := H6_A
        obtain ⟨c374, Arc374, qc374, Sc374, Nc374, Hc374, Gc374⟩ := oc374
        have hin375 : ¬ ((1 : Int32) < 0 ∨ c374.slots.size ≤ ((1 : Int32)).toNatClampNeg) := (inb_of Sc374 ⟨by decide, by decide⟩)
        have oc376 := H6_A
        obtain ⟨c376, Arc376, qc376, Sc376, Nc376, Hc376, Gc376⟩ := oc376
        have hin377 : ¬ ((1 : Int32) < 0 ∨ c376.slots.size ≤ ((1 : Int32)).toNatClampNeg) := (inb_of Sc376 ⟨by decide, by decide⟩)
        obtain ⟨T377, h377, X377, e377, W377, st377⟩ := stJ X373 hx hZ e373 Arc376 (j := (1 : Int32)) hin377 (g := (mkF m 59 #[.val (.ref dd), .val (.int lv), .val (.int (1 : Int32)), .val (.long (own_bit lv)), .second] [(.long (w1 &&& ((own_bit lv) ^^^ (-1 : Int64)))), (.int (1 : Int32)), (.ref wa)])) rfl rfl (hb hby d15_59)
        have V377 : Arv Z h377 wa kw .long (3 : Int32) [(.long w0), (.long (w1 &&& ((own_bit lv) ^^^ (-1 : Int64)))), (.long w2)] (.long (0 : Int64)) := Arv.set Arc376 qc376 Sc376 Nc376 Hc376 Gc376 rfl W377 1 rfl (Nat.le_of_ble_eq_true rfl)
        have E378 := H0_E.wr W377
        have F379 := H1_F.other W377 (Or.inl hn2)
        have F380 := H2_F.other W377 (Or.inl hn2)
        have F381 := H3_F.other W377 (Or.inl hn2)
        have F382 := H4_F.other W377 (Or.inl hn2)
        have A383 := H5_A.other W377 hn3
        have N377 := Fr.snoc X377 N371 hwa
        have K377 : Keep h0 h377 [dd, ka, wa] := K0.wr W377 (Or.inl (List.mem_of_getElem? (i := 2) rfl))
        have Zs384 : n0 ≤ h377.size := (Nat.le_trans Z0 (Keep.of_wr W377).1)
        obtain ⟨T385, X385, e385, st385⟩ := getF X377 hx hZ hown (host := "") (Or.inl (own_w hw 16 rfl)) Via.refl e377 F380 (g := (mkF m 61 #[.val (.ref dd), .val (.int lv), .val (.int (1 : Int32)), .val (.long (own_bit lv)), .second] [(.ref dd)])) rfl rfl (hb hby d15_61)
        have oc386 := V377
        obtain ⟨c386, Arc386, qc386, Sc386, Nc386, Hc386, Gc386⟩ := oc386
        have hin387 : ¬ ((1 : Int32) < 0 ∨ c386.slots.size ≤ ((1 : Int32)).toNatClampNeg) := (inb_of Sc386 ⟨by decide, by decide⟩)
        have pre388 := fun (t : State) (k : Steps p.tables e below (T385.setTop (mkF m 68 #[.val (.ref dd), .val (.int lv), .val (.int (1 : Int32)), .val (.long (own_bit lv)), .second] [(.int (lcmpW (w1 &&& ((own_bit lv) ^^^ (-1 : Int64))) (0 : Int64)))])) t) => pre367 t (by
          refine XS.ifNo X364.here hx rfl (hb hby d15_35) rfl ((if0 _ _).trans (feq hc368).1) ?_
          refine XS.aloadN X364.here hx rfl (hb hby d15_38) rfl rfl ?_
          refine XS.aloadN X364.here hx rfl (hb hby d15_39) rfl rfl ?_
          refine st370 _ ?_
          refine st371.trans ?_
          refine XS.aloadN X371.here hx rfl (hb hby d15_46) rfl rfl ?_
          refine st373 _ ?_
          refine XS.iloadN X373.here hx rfl (hb hby d15_50) rfl ?_
          jvm_step X373.here [X373.here.top, hx, (hb hby d15_51), Value.category]
          refine X373.laload hx (j := (1 : Int32)) (v := (.long w1)) (by rw [e373]; exact Arc374.1) (State.isArrayOf_alike hZ.alike Arc374.2.1) Arc374.2.2 hin375 (Has.at Hc374 hin375 rfl) (g := (mkF m 52 #[.val (.ref dd), .val (.int lv), .val (.int (1 : Int32)), .val (.long (own_bit lv)), .second] [(.int (1 : Int32)), (.ref wa), (.int (1 : Int32)), (.ref wa)])) rfl rfl (hb hby d15_52) _ ?_
          refine XS.lloadN X373.here hx rfl (hb hby d15_53) rfl ?_
          refine X373.ldc2Long hx hown (mvT hZ (own_w hw 80 rfl)) (g := (mkF m 54 #[.val (.ref dd), .val (.int lv), .val (.int (1 : Int32)), .val (.long (own_bit lv)), .second] [(.long (own_bit lv)), (.long w1), (.int (1 : Int32)), (.ref wa)])) rfl (hb hby d15_54) _ ?_
          refine XS.lxor X373.here hx rfl (hb hby d15_57) rfl ?_
          refine XS.land X373.here hx rfl (hb hby d15_58) rfl ?_
          refine st377 _ ?_
          refine XS.aloadN X377.here hx rfl (hb hby d15_60) rfl rfl ?_
          refine st385 _ ?_
          refine XS.iloadN X385.here hx rfl (hb hby d15_64) rfl ?_
          refine X385.laload hx (j := (1 : Int32)) (v := (.long (w1 &&& ((own_bit lv) ^^^ (-1 : Int64))))) (by rw [e385]; exact Arc386.1) (State.isArrayOf_alike hZ.alike Arc386.2.1) Arc386.2.2 hin387 (Has.at Hc386 hin387 rfl) (g := (mkF m 65 #[.val (.ref dd), .val (.int lv), .val (.int (1 : Int32)), .val (.long (own_bit lv)), .second] [(.int (1 : Int32)), (.ref wa)])) rfl rfl (hb hby d15_65) _ ?_
          refine XS.lconst X385.here hx rfl (hb hby d15_66) ?_
          refine XS.lcmp X385.here hx rfl (hb hby d15_67) rfl ?_
          exact k)
        by_cases hc389 : (lcmpW (w1 &&& ((own_bit lv) ^^^ (-1 : Int64))) (0 : Int64)) = (0 : Int32)
        · obtain ⟨T390, X390, e390, st390⟩ := getF X385 hx hZ hown (host := "") (Or.inl (own_w hw 12 rfl)) Via.refl e385 F379 (g := (mkF m 72 #[.val (.ref dd), .val (.int lv), .val (.int (1 : Int32)), .val (.long (own_bit lv)), .second] [(.ref dd)])) rfl rfl (hb hby d15_72)
          obtain ⟨T391, X391, e391, st391⟩ := getF X390 hx hZ hown (host := "") (Or.inl (own_w hw 12 rfl)) Via.refl e390 F379 (g := (mkF m 79 #[.val (.ref dd), .val (.int lv), .val (.int (1 : Int32)), .val (.long (own_bit lv)), .second] [(.ref dd), (.int (2 : Int32)), (.ref ka)])) rfl rfl (hb hby d15_79)
          obtain ⟨T392, X392, e392, st392⟩ := getF X391 hx hZ hown (host := "") (Or.inl (own_w hw 23 rfl)) Via.refl e391 F381 (g := (mkF m 84 #[.val (.ref dd), .val (.int lv), .val (.int (1 : Int32)), .val (.long (own_bit lv)), .second] [(.ref dd), (.int (1 : Int32)), (.ref ka), (.int (2 : Int32)), (.ref ka)])) rfl rfl (hb hby d15_84)
          obtain ⟨T393, h393, L393, X393, e393, N393, K393q, A393, st393⟩ := cpA X392 hx hZ hown (own_w hw 57 rfl) (own_w hw 52 rfl) (own_w hw 50 rfl) (own_w hw 51 rfl) e392 A383 A383 (Or.inl ⟨rfl, rfl⟩) (by decide) (by decide) (by decide) (by decide) (by decide) (us := [(.int k2)]) rfl (Nat.le_of_ble_eq_true rfl) N377 hka (g := (mkF m 91 #[.val (.ref dd), .val (.int lv), .val (.int (1 : Int32)), .val (.long (own_bit lv)), .second] [(.int (1 : Int32)), (.int (1 : Int32)), (.ref ka), (.int (2 : Int32)), (.ref ka)])) rfl (by rw [hml]; rfl) rfl (hb hby d15_91) (by decide) (W := 0) (by show 2 * 0 + _ ≤ _; exact Nat.le_of_eq rfl) (by decide)
          have V393 : Arv Z h393 ka kk .int (3 : Int32) [(.int k0), (.int k2), (.int k2)] (.int (0 : Int32)) := A393
          have E394 := E378.keep K393q
          have F395 := F379.keep K393q (ninS hn1 nin0)
          have F396 := F380.keep K393q (ninS hn1 nin0)
          have F397 := F381.keep K393q (ninS hn1 nin0)
          have F398 := F382.keep K393q (ninS hn1 nin0)
          have A399 := V377.keep K393q (ninS (Ne.symm hn3) nin0)
          have K393 : Keep h0 h393 [dd, ka, wa] := K377.trans K393q (allS (Or.inl (List.mem_of_getElem? (i := 1) rfl)) all0)
          have Zs400 : n0 ≤ h393.size := (Nat.le_trans Zs384 K393q.1)
          obtain ⟨T401, X401, e401, st401⟩ := getF X393 hx hZ hown (host := "") (Or.inl (own_w hw 16 rfl)) Via.refl e393 F396 (g := (mkF m 95 #[.val (.ref dd), .val (.int lv), .val (.int (1 : Int32)), .val (.long (own_bit lv)), .second] [(.ref dd)])) rfl rfl (hb hby d15_95)
          obtain ⟨T402, X402, e402, st402⟩ := getF X401 hx hZ hown (host := "") (Or.inl (own_w hw 16 rfl)) Via.refl e401 F396 (g := (mkF m 102 #[.val (.ref dd), .val (.int lv), .val (.int (1 : Int32)), .val (.long (own_bit lv)), .second] [(.ref dd), (.int (2 : Int32)), (.ref wa)])) rfl rfl (hb hby d15_102)
          obtain ⟨T403, X403, e403, st403⟩ := getF X402 hx hZ hown (host := "") (Or.inl (own_w hw 23 rfl)) Via.refl e402 F397 (g := (mkF m 107 #[.val (.ref dd), .val (.int lv), .val (.int (1 : Int32)), .val (.long (own_bit lv)), .second] [(.ref dd), (.int (1 : Int32)), (.ref wa), (.int (2 : Int32)), (.ref wa)])) rfl rfl (hb hby d15_107)
          obtain ⟨T404, h404, L404, X404, e404, N404, K404q, A404, st404⟩ := cpA X403 hx hZ hown (own_w hw 57 rfl) (own_w hw 52 rfl) (own_w hw 50 rfl) (own_w hw 51 rfl) e403 A399 A399 (Or.inl ⟨rfl, rfl⟩) (by decide) (by decide) (by decide) (by decide) (by decide) (us := [(.long w2)]) rfl (Nat.le_of_ble_eq_true rfl) N393 hwa (g := (mkF m 114 #[.val (.ref dd), .val (.int lv), .val (.int (1 : Int32)), .val (.long (own_bit lv)), .second] [(.int (1 : Int32)), (.int (1 : Int32)), (.ref wa), (.int (2 : Int32)), (.ref wa)])) rfl (by rw [hml]; rfl) rfl (hb hby d15_114) (by decide) (W := 0) (by show 2 * 0 + _ ≤ _; exact Nat.le_of_eq rfl) (by decide)
          have V404 : Arv Z h404 wa kw .long (3 : Int32) [(.long w0), (.long w2), (.long w2)] (.long (0 : Int64)) := A404
          have E405 := E394.keep K404q
          have F406 := F395.keep K404q (ninS hn2 nin0)
          have F407 := F396.keep K404q (ninS hn2 nin0)
          have F408 := F397.keep K404q (ninS hn2 nin0)
          have F409 := F398.keep K404q (ninS hn2 nin0)
          have A410 := V393.keep K404q (ninS hn3 nin0)
          have K404 : Keep h0 h404 [dd, ka, wa] := K393.trans K404q (allS (Or.inl (List.mem_of_getElem? (i := 2) rfl)) all0)
          have Zs411 : n0 ≤ h404.size := (Nat.le_trans Zs400 K404q.1)
          obtain ⟨T412, X412, e412, st412⟩ := getF X404 hx hZ hown (host := "") (Or.inl (own_w hw 23 rfl)) Via.refl e404 F408 (g := (mkF m 119 #[.val (.ref dd), .val (.int lv), .val (.int (1 : Int32)), .val (.long (own_bit lv)), .second] [(.ref dd), (.ref dd)])) rfl rfl (hb hby d15_119)
          obtain ⟨T413, h413, X413, e413, W413, st413⟩ := putF X412 hx hZ hown (host := "") (Or.inl (own_w hw 23 rfl)) Via.refl e412 F408 E405 (Or.inl (own_w hw 24 rfl)) (own_w hw 2 rfl) (ty := .int) (by decide) rfl rfl (g := (mkF m 124 #[.val (.ref dd), .val (.int lv), .val (.int (1 : Int32)), .val (.long (own_bit lv)), .second] [(.int (2 : Int32)), (.ref dd)])) rfl rfl (hb hby d15_124)
          have Fw413 : Fld Z h413 dd "org/tallyrole/core/Dependencies" "size" "I" (.int (2 : Int32)) := F408.same W413
          have E414 := E405.wr W413
          have F415 := F406.other W413 (Or.inr (slot_ne (Or.inl (own_w hw 13 rfl)) (Or.inl (own_w hw 24 rfl)) (by decide) (t := (.array .int)) (t' := .int) (by decide) (by decide)))
          have F416 := F407.other W413 (Or.inr (slot_ne (Or.inl (own_w hw 17 rfl)) (Or.inl (own_w hw 24 rfl)) (by decide) (t := (.array .long)) (t' := .int) (by decide) (by decide)))
          have F417 := F409.other W413 (Or.inr (slot_ne (Or.inl (own_w hw 40 rfl)) (Or.inl (own_w hw 24 rfl)) (by decide) (t := .boolean) (t' := .int) (by decide) (by decide)))
          have A418 := A410.other W413 (Ne.symm hn1)
          have A419 := V404.other W413 (Ne.symm hn2)
          have N413 := Fr.snoc X413 N404 hdd
          have K413 : Keep h0 h413 [dd, ka, wa] := K404.wr W413 (Or.inl (List.mem_of_getElem? (i := 0) rfl))
          have Zs420 : n0 ≤ h413.size := (Nat.le_trans Zs411 (Keep.of_wr W413).1)
          have pre421 := fun (t : State) (k : Steps p.tables e below (T413.setTop (mkF m 127 #[.val (.ref dd), .val (.int lv), .val (.int (1 : Int32)), .val (.long (own_bit lv)), .second] [])) t) => pre388 t (by
            refine XS.ifNo X385.here hx rfl (hb hby d15_68) rfl ((if0 _ _).trans (teq hc389).2) ?_
            refine XS.aloadN X385.here hx rfl (hb hby d15_71) rfl rfl ?_
            refine st390 _ ?_
            refine XS.iloadN X390.here hx rfl (hb hby d15_75) rfl ?_
            refine XS.iconst X390.here hx rfl (hb hby d15_76) ?_
            refine XS.iadd X390.here hx rfl (hb hby d15_77) rfl ?_
            refine XS.aloadN X390.here hx rfl (hb hby d15_78) rfl rfl ?_
            refine st391 _ ?_
            refine XS.iloadN X391.here hx rfl (hb hby d15_82) rfl ?_
            refine XS.aloadN X391.here hx rfl (hb hby d15_83) rfl rfl ?_
            refine st392 _ ?_
            refine XS.iloadN X392.here hx rfl (hb hby d15_87) rfl ?_
            refine XS.isub X392.here hx rfl (hb hby d15_88) rfl ?_
            refine XS.iconst X392.here hx rfl (hb hby d15_89) ?_
            refine XS.isub X392.here hx rfl (hb hby d15_90) rfl ?_
            refine st393 _ ?_
            refine XS.aloadN X393.here hx rfl (hb hby d15_94) rfl rfl ?_
            refine st401 _ ?_
            refine XS.iloadN X401.here hx rfl (hb hby d15_98) rfl ?_
            refine XS.iconst X401.here hx rfl (hb hby d15_99) ?_
            refine XS.iadd X401.here hx rfl (hb hby d15_100) rfl ?_
            refine XS.aloadN X401.here hx rfl (hb hby d15_101) rfl rfl ?_
            refine st402 _ ?_
            refine XS.iloadN X402.here hx rfl (hb hby d15_105) rfl ?_
            refine XS.aloadN X402.here hx rfl (hb hby d15_106) rfl rfl ?_
            refine st403 _ ?_
            refine XS.iloadN X403.here hx rfl (hb hby d15_110) rfl ?_
            refine XS.isub X403.here hx rfl (hb hby d15_111) rfl ?_
            refine XS.iconst X403.here hx rfl (hb hby d15_112) ?_
            refine XS.isub X403.here hx rfl (hb hby d15_113) rfl ?_
            refine st404 _ ?_
            refine XS.aloadN X404.here hx rfl (hb hby d15_117) rfl rfl ?_
            refine XS.dup X404.here hx rfl (hb hby d15_118) rfl rfl ?_
            refine st412 _ ?_
            refine XS.iconst X412.here hx rfl (hb hby d15_122) ?_
            refine XS.isub X412.here hx rfl (hb hby d15_123) rfl ?_
            refine st413 _ ?_
            exact k)
          obtain ⟨fs, hr, hrun, hended, hW, hsame⟩ := X413.leave (v := none) (hlocks := BodyLoose.notSynchronized Bd) (fun _ => rfl)
          refine ⟨_, _, pre421 _ ?_, hrun, hended, _, _, rfl, ?_, ⟨_, rfl⟩, hW, hsame.mono (by decide) (by decide)⟩
          · exact X413.returnOut hx Bd.returns (hb hby d15_127) hr
          · show Q_rm Z dd ka wa kk kw (3 : Int32) (3 : Int32) [(.int k0), (.int k1), (.int k2)] [(.long w0), (.long w1), (.long w2)] SS lv h0 n0 _ T413.heap _
            rw [e413]
            exact ⟨ka, wa, kk, kw, (3 : Int32), (2 : Int32), [(.int k0), (.int k2), (.int k2)], [(.long w0), (.long w2), (.long w2)], rfl, N413, K413, hka, hwa, (Or.inl rfl), (Or.inl rfl), hn1, hn2, hn3, (Or.inr (Or.inr (Or.inr (Or.inl ⟨_, _, _, _, _, _, rfl, rfl, rfl, rfl, (own_r_out (A := [(k0, w0)]) (B := [(k2, w2)]) hrr (own_eq_of hb239 hb240) ((lw_eq _ _).mp hc389))⟩)))), E414, F415, F416, Fw413, F417, A418, A419⟩
        · have pre422 := fun (t : State) (k : Steps p.tables e below (T385.setTop (mkF m 127 #[.val (.ref dd), .val (.int lv), .val (.int (1 : Int32)), .val (.long (own_bit lv)), .second] [])) t) => pre388 t (by
            refine XS.ifYes X385.here hx rfl (pc0 := 68) (pc' := 127) rfl (hb hby d15_68) rfl ((if0 _ _).trans (feq hc389).2) (by decide) (by decide) ?_
            exact k)
          obtain ⟨fs, hr, hrun, hended, hW, hsame⟩ := X385.leave (v := none) (hlocks := BodyLoose.notSynchronized Bd) (fun _ => rfl)
          refine ⟨_, _, pre422 _ ?_, hrun, hended, _, _, rfl, ?_, ⟨_, rfl⟩, hW, hsame.mono (by decide) (by decide)⟩
          · exact X385.returnOut hx Bd.returns (hb hby d15_127) hr
          · show Q_rm Z dd ka wa kk kw (3 : Int32) (3 : Int32) [(.int k0), (.int k1), (.int k2)] [(.long w0), (.long w1), (.long w2)] SS lv h0 n0 _ T385.heap _
            rw [e385]
            exact ⟨ka, wa, kk, kw, (3 : Int32), (3 : Int32), [(.int k0), (.int k1), (.int k2)], [(.long w0), (.long (w1 &&& ((own_bit lv) ^^^ (-1 : Int64)))), (.long w2)], rfl, N377, K377, hka, hwa, (Or.inl rfl), (Or.inl rfl), hn1, hn2, hn3, (Or.inr (Or.inr (Or.inr (Or.inr ⟨_, _, _, _, _, _, rfl, rfl, rfl, rfl, (own_r_clr (A := [(k0, w0)]) (B := [(k2, w2)]) hrr (own_eq_of hb239 hb240) (fun q => hc389 ((lw_eq _ _).mpr q)))⟩)))), E378, F379, F380, F381, F382, A383, V377⟩

theorem ef_law (m : MethodId) (x0 : Int32) (x1 : Int32) (x2 : Int32) (x3 : Int32) : entryFrame m #[(.int x0), (.int x1), (.int x2), (.int x3)] maxLocals = mkF m 0 #[.val (.int x0), .val (.int x1), .val (.int x2), .val (.int x3), .unset, .unset, .unset, .unset, .unset, .unset, .unset, .unset, .unset, .unset, .unset] [] := by first | (simp [entryFrame, mkF, argsToLocals, Value.category, maxLocals]; done) | rfl
def Q_law (Z : State) (aa : Int32) (bb : Int32) (cc : Int32) (ff : Int32) (ka : Addr) (wa : Addr) (kk : ClassId) (kw : ClassId) (h0 : Heap) (n0 : Nat) (v : Option Value) (h : Heap) (L : List Loc) : Prop := v = some (.int (1 : Int32)) ∧ Fr n0 L ∧ Keep h0 h []
set_option maxRecDepth 65536 in
set_option maxHeartbeats 40000000 in
theorem rm_law (l : Launch) (Z : State) (a0 : Array Value) (hw : ∀ d ∈ tables_1, d.before a0 Z = true) (ws : List Jvm.Cond) (aa : Int32) (bb : Int32) (cc : Int32) (ff : Int32) (ka : Addr) (wa : Addr) (kk : ClassId) (kw : ClassId) (h0 : Heap) (n0 : Nat) (Z0 : n0 ≤ h0.size) (H0_S : Sta Z h0 "org/tallyrole/core/Dependencies" "NO_KEYS" "[I" (.ref ka)) (H1_S : Sta Z h0 "org/tallyrole/core/Dependencies" "NO_WORDS" "[J" (.ref wa)) (H2_A : Arv Z h0 ka kk .int (0 : Int32) [] (.int (0 : Int32))) (H3_A : Arv Z h0 wa kw .long (0 : Int32) [] (.long (0 : Int64))) :
    MetFree l x (head1 (Jvm.Cond.code x code maxLocals ret :: ws) room_1) (fun as_ U_ => as_ = #[(.int aa), (.int bb), (.int cc), (.int ff)] ∧ Z.Warmed39 U_.vm ∧ U_.heap = h0) (fun _ _ _ _ _ => True) (fun _ U o U' => ∃ v L, o = .returned v ∧ Q_law Z aa bb cc ff ka wa kk kw h0 n0 v U'.heap L ∧ FrameEnd U o U' L 7 18) := by
  refine MetFree.of_bodySF (plainFor_of_name pn_4) hisR ?_
  intro p e s m args below meth c s₁ Bd hml0 hP hK
  obtain ⟨rfl, hZ, hhp_⟩ := hP
  have hx := Bd.exec
  have hby := Bd.bytes
  have hml : c.maxLocals = 15 := hml0
  have hown : s.vm.findClass "org/tallyrole/core/DependenciesLatestPinLaw" = some m.cls := findClass_of_methodNamed Bd.named
  have hnm := (name_of_methodNamed Bd.named Bd.method).1
  have X0 : Stand p l e room_1 s m #[(.int aa), (.int bb), (.int cc), (.int ff)] below meth c s₁ [] 0 0 := Stand.of_body Bd
  have e0 : s₁.heap = h0 := by rw [← hhp_, Bd.state]; rfl
  have N0 := Fr.nil n0
  have pre0 : ∀ t, Steps p.tables e below (s₁.setTop (mkF m 0 #[.val (.int aa), .val (.int bb), .val (.int cc), .val (.int ff), .unset, .unset, .unset, .unset, .unset, .unset, .unset, .unset, .unset, .unset, .unset] [])) t → Steps p.tables e below (s₁.setTop (entryFrame m #[(.int aa), (.int bb), (.int cc), (.int ff)] maxLocals)) t := fun t k => castTop (ef_law m aa bb cc ff) k
  have K0 : Keep h0 h0 [] := Keep.refl h0 []
  have t95 : ∀ (nn : Int32) (xx : Int32) (yy : Int32) (zz : Int32) (ss : Int32) (rr : Int32) (T_t95 : State) (Lt_t95 : List Loc) (N_t95 : Fr n0 Lt_t95) (X_t95 : Stand p l e room_1 s m #[(.int aa), (.int bb), (.int cc), (.int ff)] below meth c T_t95 Lt_t95 0 0) (e_t95 : T_t95.heap = h0) (t95_0 : nn = (0 : Int32) ∨ nn = (1 : Int32) ∨ nn = (2 : Int32) ∨ nn = (3 : Int32)) (t95_1 : ¬ (xx < (0 : Int32))) (t95_2 : ¬ (yy < (0 : Int32))) (t95_3 : ¬ (zz < (0 : Int32))), ∃ s₂ o, Steps p.tables e below (T_t95.setTop (mkF m 95 #[.val (.int aa), .val (.int bb), .val (.int cc), .val (.int ff), .val (.int nn), .val (.int xx), .val (.int yy), .val (.int zz), .val (.int ss), .val (.int rr), .unset, .unset, .unset, .unset, .unset] [])) s₂ ∧ s₂.status = .running ∧ Ended s₂ below o ∧ ∃ v L, o = .returned v ∧ Q_law Z aa bb cc ff ka wa kk kw h0 n0 v s₂.heap L ∧ FrameEnd s o s₂ L 7 18 := by
    intro nn xx yy zz ss rr T_t95 Lt_t95 N_t95 X_t95 e_t95 t95_0 t95_1 t95_2 t95_3
    have pre_t95 := fun (t : State) (k : Steps p.tables e below (T_t95.setTop (mkF m 95 #[.val (.int aa), .val (.int bb), .val (.int cc), .val (.int ff), .val (.int nn), .val (.int xx), .val (.int yy), .val (.int zz), .val (.int ss), .val (.int rr), .unset, .unset, .unset, .unset, .unset] [])) t) => k
    obtain ⟨T1, h1, X1, e1, E1, A1, D1, -, st1⟩ := newO X_t95 hx hZ hown (own_w hw 1 rfl) (own_w hw 2 rfl) (own_w hw 3 rfl) e_t95 (g := (mkF m 95 #[.val (.int aa), .val (.int bb), .val (.int cc), .val (.int ff), .val (.int nn), .val (.int xx), .val (.int yy), .val (.int zz), .val (.int ss), .val (.int rr), .unset, .unset, .unset, .unset, .unset] [])) rfl (hb hby at_95) (by decide) (by decide)
    obtain ⟨b1, g1⟩ : ∃ z, z = h0.size := ⟨_, rfl⟩
    have ne_ka_b1 : ka ≠ b1 := Nat.ne_of_lt (Nat.lt_of_lt_of_le H2_A.lt (Nat.le_of_eq g1.symm))
    have ne_wa_b1 : wa ≠ b1 := Nat.ne_of_lt (Nat.lt_of_lt_of_le H3_A.lt (Nat.le_of_eq g1.symm))
    have ge_b1 : n0 ≤ b1 := Nat.le_trans Z0 (Nat.le_of_eq g1.symm)
    have sz_b1 : h0.size ≤ b1 := Nat.le_trans K0.1 (Nat.le_of_eq g1.symm)
    rw [← g1] at A1 D1 st1
    have S2 := H0_S.ext E1
    have S3 := H1_S.ext E1
    have A4 := H2_A.ext E1
    have A5 := H3_A.ext E1
    have K1 : Keep h0 h1 [] := K0.ext E1
    have Zs6 : n0 ≤ h1.size := (Nat.le_trans Z0 E1.1)
    have F7 : Fld Z h1 b1 "org/tallyrole/core/Dependencies" "keys" "[I" .null := D1 (Or.inl (own_w hw 13 rfl)) (ty := (.array .int)) (by decide)
    have F8 : Fld Z h1 b1 "org/tallyrole/core/Dependencies" "words" "[J" .null := D1 (Or.inl (own_w hw 17 rfl)) (ty := (.array .long)) (by decide)
    have F9 : Fld Z h1 b1 "org/tallyrole/core/Dependencies" "size" "I" (.int (0 : Int32)) := D1 (Or.inl (own_w hw 24 rfl)) (ty := .int) (by decide)
    have F10 : Fld Z h1 b1 "org/tallyrole/core/Dependencies" "shared" "Z" (.int (0 : Int32)) := D1 (Or.inl (own_w hw 40 rfl)) (ty := .boolean) (by decide)
    obtain ⟨_, _, ⟨T11, L11, k11, n11⟩, -, X11, ⟨Lc11, hQ11, l11, y11, z11⟩, st11⟩ := X1.specialBack hx (y := (⟨"org/tallyrole/core/Dependencies", "<init>", "()V"⟩ : MethodName)) rfl hown (mvT hZ (own_w hw 4 rfl)) (mvT hZ (own_w hw 5 rfl)) (mvT hZ (own_w hw 6 rfl)) (by decide) (backOf (W := 1) (rm_ini l Z a0 hw [] b1 ka wa h1 n0 Zs6 A1 F7 F8 F9 F10 S2 S3 ge_b1) hZ (own_w hw 6 rfl) (own_w hw 3 rfl) (by decide) (by decide)) (g := (mkF m 99 #[.val (.int aa), .val (.int bb), .val (.int cc), .val (.int ff), .val (.int nn), .val (.int xx), .val (.int yy), .val (.int zz), .val (.int ss), .val (.int rr), .unset, .unset, .unset, .unset, .unset] [(.ref b1), (.ref b1)])) rfl (by rw [hml]; rfl) (Steps.refl _) (a := b1) (argsL := []) (rest := [(.ref b1)]) (lenOf pd_8 rfl) rfl (by show 2 * 0 + _ ≤ _; exact Nat.le_of_eq rfl) (hb hby at_99) (fun _ _ => ⟨rfl, e1, (by decide : 1 + 0 ≤ _), (by decide : 4 + 0 ≤ _)⟩)
    dsimp only [Pt.U, Pt.locs, Pt.cells, Pt.slots] at X11 l11 y11 z11 st11 hQ11
    subst l11 y11 z11
    obtain ⟨rfl, N11q, hq12, F13, F14, F15, F16⟩ := hQ11
    have N11 := Fr.app N_t95 N11q
    have S17 := own_sta_keep S2 hq12 (allS (own_ns_exa A1) all0)
    have S18 := own_sta_keep S3 hq12 (allS (own_ns_exa A1) all0)
    have A19 := A4.keep hq12 (ninS ne_ka_b1 nin0)
    have A20 := A5.keep hq12 (ninS ne_wa_b1 nin0)
    have E21 := A1.keep hq12
    have K11 : Keep h0 T11.heap [] := K1.trans hq12 (allS (Or.inr sz_b1) all0)
    have Zs22 : n0 ≤ T11.heap.size := (Nat.le_trans Zs6 hq12.1)
    have pre23 := fun (t : State) (k : Steps p.tables e below (T11.setTop (mkF m 104 #[.val (.int aa), .val (.int bb), .val (.int cc), .val (.int ff), .val (.int nn), .val (.int xx), .val (.int yy), .val (.int zz), .val (.int ss), .val (.int rr), .val (.ref b1), .unset, .unset, .unset, .unset] [])) t) => pre_t95 t (by
      refine st1 _ ?_
      refine XS.dup X1.here hx rfl (hb hby at_98) rfl rfl ?_
      refine st11.trans ?_
      refine XS.astore X11.here hx rfl (hb hby at_102) rfl rfl (l' := #[.val (.int aa), .val (.int bb), .val (.int cc), .val (.int ff), .val (.int nn), .val (.int xx), .val (.int yy), .val (.int zz), .val (.int ss), .val (.int rr), .val (.ref b1), .unset, .unset, .unset, .unset]) rfl ?_
      exact k)
    rcases t95_0 with rfl | rfl | rfl | rfl
    · have pre24 := fun (t : State) (k : Steps p.tables e below (T11.setTop (mkF m 145 #[.val (.int aa), .val (.int bb), .val (.int cc), .val (.int ff), .val (.int (0 : Int32)), .val (.int xx), .val (.int yy), .val (.int zz), .val (.int ss), .val (.int rr), .val (.ref b1), .unset, .unset, .unset, .unset] [(.int ss)])) t) => pre23 t (by
        refine XS.iload X11.here hx rfl (hb hby at_104) rfl ?_
        refine XS.iconst X11.here hx rfl (hb hby at_106) ?_
        refine XS.icmpYes X11.here hx rfl (pc0 := 107) (pc' := 117) rfl (hb hby at_107) rfl (tlt (by decide : (0 : Int32) < (1 : Int32))).1 (by decide) (by decide) ?_
        refine XS.iload X11.here hx rfl (hb hby at_117) rfl ?_
        refine XS.iconst X11.here hx rfl (hb hby at_119) ?_
        refine XS.icmpYes X11.here hx rfl (pc0 := 120) (pc' := 130) rfl (hb hby at_120) rfl (tlt (by decide : (0 : Int32) < (2 : Int32))).1 (by decide) (by decide) ?_
        refine XS.iload X11.here hx rfl (hb hby at_130) rfl ?_
        refine XS.iconst X11.here hx rfl (hb hby at_132) ?_
        refine XS.icmpYes X11.here hx rfl (pc0 := 133) (pc' := 143) rfl (hb hby at_133) rfl (tlt (by decide : (0 : Int32) < (3 : Int32))).1 (by decide) (by decide) ?_
        refine XS.iload X11.here hx rfl (hb hby at_143) rfl ?_
        exact k)
      by_cases hc25 : ss = (0 : Int32)
      · obtain ⟨cq26, kq26, q26a, q26b, q26c⟩ := isOf hZ rfl E21
        obtain ⟨_, _, ⟨T26, L26, k26, n26⟩, -, X26, ⟨Lc26, hQ26, l26, y26, z26⟩, st26⟩ := X11.virtualBack hx (y := (⟨"org/tallyrole/core/Dependencies", "latest", "()I"⟩ : MethodName)) (z := (⟨"org/tallyrole/core/Dependencies", "latest", "()I"⟩ : MethodName)) hown (mvT hZ (own_w hw 61 rfl)) (mvT hZ (own_w hw 62 rfl)) (notFace_of_selects (args := #[]) (mvT hZ (own_w hw 64 rfl))) (mvT hZ (own_w hw 64 rfl)) (mvT hZ (own_w hw 63 rfl)) (by decide) (backOf (W := 0) (rm_lt l Z a0 hw [] b1 ka wa kk kw (0 : Int32) (0 : Int32) [] [] (fun _ => False) (0 : Int32) T11.heap n0 Zs22 E21 F13 F14 F15 F16 A19 A20 (Or.inl ⟨rfl, rfl, rfl, rfl, own_r_nil (fun _ q => q)⟩)) hZ (own_w hw 65 rfl) (own_w hw 3 rfl) (by decide) (by decide)) q26a q26c (g := (mkF m 277 #[.val (.int aa), .val (.int bb), .val (.int cc), .val (.int ff), .val (.int (0 : Int32)), .val (.int xx), .val (.int yy), .val (.int zz), .val (.int ss), .val (.int rr), .val (.ref b1), .val (.int (0 : Int32)), .val (.int (0 : Int32)), .val (.int (0 : Int32)), .val (.int (-1 : Int32))] [(.ref b1)])) rfl (by rw [hml]; rfl) (Steps.refl _) (argsL := []) (rest := []) (lenOf pd_9 rfl) rfl (by show 2 * 0 + _ ≤ _; exact Nat.le_of_eq rfl) (hb hby at_277) (fun _ _ => ⟨rfl, rfl, (by decide : 1 + 0 ≤ _), (by decide : 4 + 0 ≤ _)⟩)
        dsimp only [Pt.U, Pt.locs, Pt.cells, Pt.slots] at X26 l26 y26 z26 st26 hQ26
        subst l26 y26 z26
        obtain ⟨x27, rfl, N26q, hq28, hpq29⟩ := hQ26
        have N26 := Fr.app N11 N26q
        have pre30 := fun (t : State) (k : Steps p.tables e below (T26.setTop (mkF m 290 #[.val (.int aa), .val (.int bb), .val (.int cc), .val (.int ff), .val (.int (0 : Int32)), .val (.int xx), .val (.int yy), .val (.int zz), .val (.int ss), .val (.int rr), .val (.ref b1), .val (.int (0 : Int32)), .val (.int (0 : Int32)), .val (.int (0 : Int32)), .val (.int (-1 : Int32))] [(.int (1 : Int32))])) t) => pre24 t (by
          refine XS.ifYes X11.here hx rfl (pc0 := 145) (pc' := 155) rfl (hb hby at_145) rfl ((if0 _ _).trans (teq hc25).1) (by decide) (by decide) ?_
          refine XS.iload X11.here hx rfl (hb hby at_155) rfl ?_
          refine XS.iconst X11.here hx rfl (hb hby at_157) ?_
          refine XS.icmpYes X11.here hx rfl (pc0 := 158) (pc' := 177) rfl (hb hby at_158) rfl (tlt (by decide : (0 : Int32) < (1 : Int32))).1 (by decide) (by decide) ?_
          refine XS.iconst X11.here hx rfl (hb hby at_177) ?_
          refine XS.istore X11.here hx rfl (hb hby at_178) rfl (l' := #[.val (.int aa), .val (.int bb), .val (.int cc), .val (.int ff), .val (.int (0 : Int32)), .val (.int xx), .val (.int yy), .val (.int zz), .val (.int ss), .val (.int rr), .val (.ref b1), .val (.int (0 : Int32)), .unset, .unset, .unset]) rfl ?_
          refine XS.iload X11.here hx rfl (hb hby at_180) rfl ?_
          refine XS.iconst X11.here hx rfl (hb hby at_182) ?_
          refine XS.icmpYes X11.here hx rfl (pc0 := 183) (pc' := 202) rfl (hb hby at_183) rfl (tlt (by decide : (0 : Int32) < (2 : Int32))).1 (by decide) (by decide) ?_
          refine XS.iconst X11.here hx rfl (hb hby at_202) ?_
          refine XS.istore X11.here hx rfl (hb hby at_203) rfl (l' := #[.val (.int aa), .val (.int bb), .val (.int cc), .val (.int ff), .val (.int (0 : Int32)), .val (.int xx), .val (.int yy), .val (.int zz), .val (.int ss), .val (.int rr), .val (.ref b1), .val (.int (0 : Int32)), .val (.int (0 : Int32)), .unset, .unset]) rfl ?_
          refine XS.iload X11.here hx rfl (hb hby at_205) rfl ?_
          refine XS.iconst X11.here hx rfl (hb hby at_207) ?_
          refine XS.icmpYes X11.here hx rfl (pc0 := 208) (pc' := 227) rfl (hb hby at_208) rfl (tlt (by decide : (0 : Int32) < (3 : Int32))).1 (by decide) (by decide) ?_
          refine XS.iconst X11.here hx rfl (hb hby at_227) ?_
          refine XS.istore X11.here hx rfl (hb hby at_228) rfl (l' := #[.val (.int aa), .val (.int bb), .val (.int cc), .val (.int ff), .val (.int (0 : Int32)), .val (.int xx), .val (.int yy), .val (.int zz), .val (.int ss), .val (.int rr), .val (.ref b1), .val (.int (0 : Int32)), .val (.int (0 : Int32)), .val (.int (0 : Int32)), .unset]) rfl ?_
          refine XS.iconst X11.here hx rfl (hb hby at_230) ?_
          refine XS.istore X11.here hx rfl (hb hby at_231) rfl (l' := #[.val (.int aa), .val (.int bb), .val (.int cc), .val (.int ff), .val (.int (0 : Int32)), .val (.int xx), .val (.int yy), .val (.int zz), .val (.int ss), .val (.int rr), .val (.ref b1), .val (.int (0 : Int32)), .val (.int (0 : Int32)), .val (.int (0 : Int32)), .val (.int (-1 : Int32))]) rfl ?_
          refine XS.iload X11.here hx rfl (hb hby at_233) rfl ?_
          refine XS.ifYes X11.here hx rfl (pc0 := 235) (pc' := 247) rfl (hb hby at_235) rfl ((if0 _ _).trans (teq (by decide : (0 : Int32) = (0 : Int32))).1) (by decide) (by decide) ?_
          refine XS.iload X11.here hx rfl (hb hby at_247) rfl ?_
          refine XS.ifYes X11.here hx rfl (pc0 := 249) (pc' := 261) rfl (hb hby at_249) rfl ((if0 _ _).trans (teq (by decide : (0 : Int32) = (0 : Int32))).1) (by decide) (by decide) ?_
          refine XS.iload X11.here hx rfl (hb hby at_261) rfl ?_
          refine XS.ifYes X11.here hx rfl (pc0 := 263) (pc' := 275) rfl (hb hby at_263) rfl ((if0 _ _).trans (teq (by decide : (0 : Int32) = (0 : Int32))).1) (by decide) (by decide) ?_
          refine XS.aload X11.here hx rfl (hb hby at_275) rfl rfl ?_
          refine st26.trans ?_
          refine XS.iload X26.here hx rfl (hb hby at_280) rfl ?_
          refine XS.icmpNo X26.here hx rfl (hb hby at_282) rfl (teq (own_top_uniq hpq29 own_top_e)).2 ?_
          refine XS.iconst X26.here hx rfl (hb hby at_285) ?_
          refine XS.goto X26.here hx rfl (pc0 := 286) (pc' := 290) rfl (hb hby at_286) (by decide) (by decide) ?_
          exact k)
        obtain ⟨fs, hr, hrun, hended, hW, hsame⟩ := X26.leave (v := some (.int (1 : Int32))) (hlocks := BodyLoose.notSynchronized Bd) (fun h => by rw [Bd.returns] at h; cases h)
        refine ⟨_, _, pre30 _ ?_, hrun, hended, _, _, rfl, ?_, ⟨_, rfl⟩, hW, hsame.mono (by decide) (by decide)⟩
        · exact retN X26 hx (t := .boolean) Bd.returns (by simp) (hb hby at_290) hr
        · show Q_law Z aa bb cc ff ka wa kk kw h0 n0 _ T26.heap _
          rw [hq28]
          exact ⟨rfl, N26, K11⟩
      · obtain ⟨cq31, kq31, q31a, q31b, q31c⟩ := isOf hZ rfl E21
        obtain ⟨_, _, ⟨T31, L31, k31, n31⟩, -, X31, ⟨Lc31, hQ31, l31, y31, z31⟩, st31⟩ := X11.virtualBack hx (y := (⟨"org/tallyrole/core/Dependencies", "remove", "(I)V"⟩ : MethodName)) (z := (⟨"org/tallyrole/core/Dependencies", "remove", "(I)V"⟩ : MethodName)) hown (mvT hZ (own_w hw 75 rfl)) (mvT hZ (own_w hw 76 rfl)) (notFace_of_selects (args := #[]) (mvT hZ (own_w hw 78 rfl))) (mvT hZ (own_w hw 78 rfl)) (mvT hZ (own_w hw 77 rfl)) (by decide) (backOf (W := 0) (rm_rE l Z a0 hw [] b1 ka kk rr T11.heap n0 Zs22 F13 F15 A19) hZ (own_w hw 79 rfl) (own_w hw 3 rfl) (by decide) (by decide)) q31a q31c (g := (mkF m 152 #[.val (.int aa), .val (.int bb), .val (.int cc), .val (.int ff), .val (.int (0 : Int32)), .val (.int xx), .val (.int yy), .val (.int zz), .val (.int ss), .val (.int rr), .val (.ref b1), .unset, .unset, .unset, .unset] [(.int rr), (.ref b1)])) rfl (by rw [hml]; rfl) (Steps.refl _) (argsL := [(.int rr)]) (rest := []) (lenOf pd_7 rfl) rfl (by show 2 * 0 + _ ≤ _; exact Nat.le_of_eq rfl) (hb hby at_152) (fun _ _ => ⟨rfl, rfl, (by decide : 1 + 0 ≤ _), (by decide : 4 + 0 ≤ _)⟩)
        dsimp only [Pt.U, Pt.locs, Pt.cells, Pt.slots] at X31 l31 y31 z31 st31 hQ31
        subst l31 y31 z31
        obtain ⟨rfl, N31q, hq32⟩ := hQ31
        have N31 := Fr.app N11 N31q
        obtain ⟨cq33, kq33, q33a, q33b, q33c⟩ := isOf hZ hq32 E21
        obtain ⟨_, _, ⟨T33, L33, k33, n33⟩, -, X33, ⟨Lc33, hQ33, l33, y33, z33⟩, st33⟩ := X31.virtualBack hx (y := (⟨"org/tallyrole/core/Dependencies", "latest", "()I"⟩ : MethodName)) (z := (⟨"org/tallyrole/core/Dependencies", "latest", "()I"⟩ : MethodName)) hown (mvT hZ (own_w hw 61 rfl)) (mvT hZ (own_w hw 62 rfl)) (notFace_of_selects (args := #[]) (mvT hZ (own_w hw 64 rfl))) (mvT hZ (own_w hw 64 rfl)) (mvT hZ (own_w hw 63 rfl)) (by decide) (backOf (W := 0) (rm_lt l Z a0 hw [] b1 ka wa kk kw (0 : Int32) (0 : Int32) [] [] (fun _ => False) (0 : Int32) T11.heap n0 Zs22 E21 F13 F14 F15 F16 A19 A20 (Or.inl ⟨rfl, rfl, rfl, rfl, own_r_nil (fun _ q => q)⟩)) hZ (own_w hw 65 rfl) (own_w hw 3 rfl) (by decide) (by decide)) q33a q33c (g := (mkF m 277 #[.val (.int aa), .val (.int bb), .val (.int cc), .val (.int ff), .val (.int (0 : Int32)), .val (.int xx), .val (.int yy), .val (.int zz), .val (.int ss), .val (.int rr), .val (.ref b1), .val (.int (0 : Int32)), .val (.int (0 : Int32)), .val (.int (0 : Int32)), .val (.int (-1 : Int32))] [(.ref b1)])) rfl (by rw [hml]; rfl) (Steps.refl _) (argsL := []) (rest := []) (lenOf pd_9 rfl) rfl (by show 2 * 0 + _ ≤ _; exact Nat.le_of_eq rfl) (hb hby at_277) (fun _ _ => ⟨rfl, hq32, (by decide : 1 + 0 ≤ _), (by decide : 4 + 0 ≤ _)⟩)
        dsimp only [Pt.U, Pt.locs, Pt.cells, Pt.slots] at X33 l33 y33 z33 st33 hQ33
        subst l33 y33 z33
        obtain ⟨x34, rfl, N33q, hq35, hpq36⟩ := hQ33
        have N33 := Fr.app N31 N33q
        have pre37 := fun (t : State) (k : Steps p.tables e below (T33.setTop (mkF m 290 #[.val (.int aa), .val (.int bb), .val (.int cc), .val (.int ff), .val (.int (0 : Int32)), .val (.int xx), .val (.int yy), .val (.int zz), .val (.int ss), .val (.int rr), .val (.ref b1), .val (.int (0 : Int32)), .val (.int (0 : Int32)), .val (.int (0 : Int32)), .val (.int (-1 : Int32))] [(.int (1 : Int32))])) t) => pre24 t (by
          refine XS.ifNo X11.here hx rfl (hb hby at_145) rfl ((if0 _ _).trans (feq hc25).1) ?_
          refine XS.aload X11.here hx rfl (hb hby at_148) rfl rfl ?_
          refine XS.iload X11.here hx rfl (hb hby at_150) rfl ?_
          refine st31.trans ?_
          refine XS.iload X31.here hx rfl (hb hby at_155) rfl ?_
          refine XS.iconst X31.here hx rfl (hb hby at_157) ?_
          refine XS.icmpYes X31.here hx rfl (pc0 := 158) (pc' := 177) rfl (hb hby at_158) rfl (tlt (by decide : (0 : Int32) < (1 : Int32))).1 (by decide) (by decide) ?_
          refine XS.iconst X31.here hx rfl (hb hby at_177) ?_
          refine XS.istore X31.here hx rfl (hb hby at_178) rfl (l' := #[.val (.int aa), .val (.int bb), .val (.int cc), .val (.int ff), .val (.int (0 : Int32)), .val (.int xx), .val (.int yy), .val (.int zz), .val (.int ss), .val (.int rr), .val (.ref b1), .val (.int (0 : Int32)), .unset, .unset, .unset]) rfl ?_
          refine XS.iload X31.here hx rfl (hb hby at_180) rfl ?_
          refine XS.iconst X31.here hx rfl (hb hby at_182) ?_
          refine XS.icmpYes X31.here hx rfl (pc0 := 183) (pc' := 202) rfl (hb hby at_183) rfl (tlt (by decide : (0 : Int32) < (2 : Int32))).1 (by decide) (by decide) ?_
          refine XS.iconst X31.here hx rfl (hb hby at_202) ?_
          refine XS.istore X31.here hx rfl (hb hby at_203) rfl (l' := #[.val (.int aa), .val (.int bb), .val (.int cc), .val (.int ff), .val (.int (0 : Int32)), .val (.int xx), .val (.int yy), .val (.int zz), .val (.int ss), .val (.int rr), .val (.ref b1), .val (.int (0 : Int32)), .val (.int (0 : Int32)), .unset, .unset]) rfl ?_
          refine XS.iload X31.here hx rfl (hb hby at_205) rfl ?_
          refine XS.iconst X31.here hx rfl (hb hby at_207) ?_
          refine XS.icmpYes X31.here hx rfl (pc0 := 208) (pc' := 227) rfl (hb hby at_208) rfl (tlt (by decide : (0 : Int32) < (3 : Int32))).1 (by decide) (by decide) ?_
          refine XS.iconst X31.here hx rfl (hb hby at_227) ?_
          refine XS.istore X31.here hx rfl (hb hby at_228) rfl (l' := #[.val (.int aa), .val (.int bb), .val (.int cc), .val (.int ff), .val (.int (0 : Int32)), .val (.int xx), .val (.int yy), .val (.int zz), .val (.int ss), .val (.int rr), .val (.ref b1), .val (.int (0 : Int32)), .val (.int (0 : Int32)), .val (.int (0 : Int32)), .unset]) rfl ?_
          refine XS.iconst X31.here hx rfl (hb hby at_230) ?_
          refine XS.istore X31.here hx rfl (hb hby at_231) rfl (l' := #[.val (.int aa), .val (.int bb), .val (.int cc), .val (.int ff), .val (.int (0 : Int32)), .val (.int xx), .val (.int yy), .val (.int zz), .val (.int ss), .val (.int rr), .val (.ref b1), .val (.int (0 : Int32)), .val (.int (0 : Int32)), .val (.int (0 : Int32)), .val (.int (-1 : Int32))]) rfl ?_
          refine XS.iload X31.here hx rfl (hb hby at_233) rfl ?_
          refine XS.ifYes X31.here hx rfl (pc0 := 235) (pc' := 247) rfl (hb hby at_235) rfl ((if0 _ _).trans (teq (by decide : (0 : Int32) = (0 : Int32))).1) (by decide) (by decide) ?_
          refine XS.iload X31.here hx rfl (hb hby at_247) rfl ?_
          refine XS.ifYes X31.here hx rfl (pc0 := 249) (pc' := 261) rfl (hb hby at_249) rfl ((if0 _ _).trans (teq (by decide : (0 : Int32) = (0 : Int32))).1) (by decide) (by decide) ?_
          refine XS.iload X31.here hx rfl (hb hby at_261) rfl ?_
          refine XS.ifYes X31.here hx rfl (pc0 := 263) (pc' := 275) rfl (hb hby at_263) rfl ((if0 _ _).trans (teq (by decide : (0 : Int32) = (0 : Int32))).1) (by decide) (by decide) ?_
          refine XS.aload X31.here hx rfl (hb hby at_275) rfl rfl ?_
          refine st33.trans ?_
          refine XS.iload X33.here hx rfl (hb hby at_280) rfl ?_
          refine XS.icmpNo X33.here hx rfl (hb hby at_282) rfl (teq (own_top_uniq hpq36 own_top_e)).2 ?_
          refine XS.iconst X33.here hx rfl (hb hby at_285) ?_
          refine XS.goto X33.here hx rfl (pc0 := 286) (pc' := 290) rfl (hb hby at_286) (by decide) (by decide) ?_
          exact k)
        obtain ⟨fs, hr, hrun, hended, hW, hsame⟩ := X33.leave (v := some (.int (1 : Int32))) (hlocks := BodyLoose.notSynchronized Bd) (fun h => by rw [Bd.returns] at h; cases h)
        refine ⟨_, _, pre37 _ ?_, hrun, hended, _, _, rfl, ?_, ⟨_, rfl⟩, hW, hsame.mono (by decide) (by decide)⟩
        · exact retN X33 hx (t := .boolean) Bd.returns (by simp) (hb hby at_290) hr
        · show Q_law Z aa bb cc ff ka wa kk kw h0 n0 _ T33.heap _
          rw [hq35]
          exact ⟨rfl, N33, K11⟩
    · obtain ⟨cq38, kq38, q38a, q38b, q38c⟩ := isOf hZ rfl E21
      obtain ⟨_, _, ⟨T38, L38, k38, n38⟩, -, X38, ⟨Lc38, hQ38, l38, y38, z38⟩, st38⟩ := X11.virtualBack hx (y := (⟨"org/tallyrole/core/Dependencies", "add", "(I)V"⟩ : MethodName)) (z := (⟨"org/tallyrole/core/Dependencies", "add", "(I)V"⟩ : MethodName)) hown (mvT hZ (own_w hw 18 rfl)) (mvT hZ (own_w hw 19 rfl)) (notFace_of_selects (args := #[]) (mvT hZ (own_w hw 21 rfl))) (mvT hZ (own_w hw 21 rfl)) (mvT hZ (own_w hw 20 rfl)) (by decide) (backOf (W := 0) (rm_aE l Z a0 hw [] b1 ka wa kk kw (fun _ => False) xx T11.heap n0 Zs22 E21 F13 F14 F15 F16 A19 A20 (fun _ q => q) ge_b1 (Ne.symm ne_ka_b1) (Ne.symm ne_wa_b1) t95_1) hZ (own_w hw 22 rfl) (own_w hw 3 rfl) (by decide) (by decide)) q38a q38c (g := (mkF m 114 #[.val (.int aa), .val (.int bb), .val (.int cc), .val (.int ff), .val (.int (1 : Int32)), .val (.int xx), .val (.int yy), .val (.int zz), .val (.int ss), .val (.int rr), .val (.ref b1), .unset, .unset, .unset, .unset] [(.int xx), (.ref b1)])) rfl (by rw [hml]; rfl) (Steps.refl _) (argsL := [(.int xx)]) (rest := []) (lenOf pd_7 rfl) rfl (by show 2 * 0 + _ ≤ _; exact Nat.le_of_eq rfl) (hb hby at_114) (fun _ _ => ⟨rfl, rfl, (by decide : 1 + 2 ≤ _), (by decide : 4 + 2 ≤ _)⟩)
      dsimp only [Pt.U, Pt.locs, Pt.cells, Pt.slots] at X38 l38 y38 z38 st38 hQ38
      subst l38 y38 z38
      obtain ⟨x39, x40, x41, x42, x43, x44, x45, x46, rfl, N38q, hq47, hpq48, hpq49, hpq50, hpq51, hpq52, hpq53, hpq54, hpq55, E56, F57, F58, F59, F60, A61, A62⟩ := hQ38
      have N38 := Fr.app N11 N38q
      have lt63 : ka < T11.heap.size := A19.lt
      have lt64 : wa < T11.heap.size := A20.lt
      have lt65 : b1 < T11.heap.size := E21.lt
      have S66 := own_sta_keep S17 hq47 (allS (own_ns_exa E21) all0)
      have S67 := own_sta_keep S18 hq47 (allS (own_ns_exa E21) all0)
      have A68 := A19.keep hq47 (ninS ne_ka_b1 nin0)
      have A69 := A20.keep hq47 (ninS ne_wa_b1 nin0)
      have K38 : Keep h0 T38.heap [] := K11.trans hq47 (allS (Or.inr sz_b1) all0)
      have Zs70 : n0 ≤ T38.heap.size := (Nat.le_trans Zs22 hq47.1)
      have ne71 : ka ≠ x39 := Nat.ne_of_lt (Nat.lt_of_lt_of_le lt63 hpq49)
      have ne72 : wa ≠ x39 := Nat.ne_of_lt (Nat.lt_of_lt_of_le lt64 hpq49)
      have ne73 : b1 ≠ x39 := Nat.ne_of_lt (Nat.lt_of_lt_of_le lt65 hpq49)
      have sz74 : h0.size ≤ x39 := Nat.le_trans K11.1 hpq49
      have ne75 : ka ≠ x40 := Nat.ne_of_lt (Nat.lt_of_lt_of_le lt63 hpq51)
      have ne76 : wa ≠ x40 := Nat.ne_of_lt (Nat.lt_of_lt_of_le lt64 hpq51)
      have ne77 : b1 ≠ x40 := Nat.ne_of_lt (Nat.lt_of_lt_of_le lt65 hpq51)
      have sz78 : h0.size ≤ x40 := Nat.le_trans K11.1 hpq51
      have pre79 := fun (t : State) (k : Steps p.tables e below (T38.setTop (mkF m 145 #[.val (.int aa), .val (.int bb), .val (.int cc), .val (.int ff), .val (.int (1 : Int32)), .val (.int xx), .val (.int yy), .val (.int zz), .val (.int ss), .val (.int rr), .val (.ref b1), .unset, .unset, .unset, .unset] [(.int ss)])) t) => pre23 t (by
        refine XS.iload X11.here hx rfl (hb hby at_104) rfl ?_
        refine XS.iconst X11.here hx rfl (hb hby at_106) ?_
        refine XS.icmpNo X11.here hx rfl (hb hby at_107) rfl (flt (by decide : ¬ ((1 : Int32) < (1 : Int32)))).1 ?_
        refine XS.aload X11.here hx rfl (hb hby at_110) rfl rfl ?_
        refine XS.iload X11.here hx rfl (hb hby at_112) rfl ?_
        refine st38.trans ?_
        refine XS.iload X38.here hx rfl (hb hby at_117) rfl ?_
        refine XS.iconst X38.here hx rfl (hb hby at_119) ?_
        refine XS.icmpYes X38.here hx rfl (pc0 := 120) (pc' := 130) rfl (hb hby at_120) rfl (tlt (by decide : (1 : Int32) < (2 : Int32))).1 (by decide) (by decide) ?_
        refine XS.iload X38.here hx rfl (hb hby at_130) rfl ?_
        refine XS.iconst X38.here hx rfl (hb hby at_132) ?_
        refine XS.icmpYes X38.here hx rfl (pc0 := 133) (pc' := 143) rfl (hb hby at_133) rfl (tlt (by decide : (1 : Int32) < (3 : Int32))).1 (by decide) (by decide) ?_
        refine XS.iload X38.here hx rfl (hb hby at_143) rfl ?_
        exact k)
      by_cases hc80 : ss = (0 : Int32)
      · obtain ⟨_, _, ⟨T81, L81, k81, n81⟩, -, X81, ⟨Lc81, hQ81, l81, y81, z81⟩, st81⟩ := Jvm.LawKit.callS X38 hx (y := (⟨"java/lang/Math", "max", "(II)I"⟩ : MethodName)) hown (mvT hZ (own_w hw 58 rfl)) (mvT hZ (own_w hw 59 rfl)) (mvT hZ (own_w hw 47 rfl)) (mvT hZ (own_w hw 60 rfl)) (by decide) (backOf (W := 0) (rm_mx l Z a0 hw [] (-1 : Int32) xx T38.heap n0 Zs70 ) hZ (own_w hw 60 rfl) (own_w hw 47 rfl) (by decide) (by decide)) (g := (mkF m 242 #[.val (.int aa), .val (.int bb), .val (.int cc), .val (.int ff), .val (.int (1 : Int32)), .val (.int xx), .val (.int yy), .val (.int zz), .val (.int ss), .val (.int rr), .val (.ref b1), .val (.int (1 : Int32)), .val (.int (0 : Int32)), .val (.int (0 : Int32)), .val (.int (-1 : Int32))] [(.int xx), (.int (-1 : Int32))])) rfl (by rw [hml]; rfl) (argsL := [(.int (-1 : Int32)), (.int xx)]) (rest := []) (lenOf pd_2 rfl) rfl (by show 2 * 0 + _ ≤ _; exact Nat.le_of_eq rfl) (hb hby at_242) (fun _ _ => ⟨rfl, rfl, (by decide : 3 + 0 ≤ _), (by decide : 6 + 0 ≤ _)⟩)
        dsimp only [Pt.U, Pt.locs, Pt.cells, Pt.slots] at X81 l81 y81 z81 st81 hQ81
        subst l81 y81 z81
        obtain ⟨rfl, N81q, hq82⟩ := hQ81
        have N81 := Fr.app N38 N81q
        obtain ⟨cq83, kq83, q83a, q83b, q83c⟩ := isOf hZ hq82 E56
        obtain ⟨_, _, ⟨T83, L83, k83, n83⟩, -, X83, ⟨Lc83, hQ83, l83, y83, z83⟩, st83⟩ := X81.virtualBack hx (y := (⟨"org/tallyrole/core/Dependencies", "latest", "()I"⟩ : MethodName)) (z := (⟨"org/tallyrole/core/Dependencies", "latest", "()I"⟩ : MethodName)) hown (mvT hZ (own_w hw 61 rfl)) (mvT hZ (own_w hw 62 rfl)) (notFace_of_selects (args := #[]) (mvT hZ (own_w hw 64 rfl))) (mvT hZ (own_w hw 64 rfl)) (mvT hZ (own_w hw 63 rfl)) (by decide) (backOf (W := 0) (rm_lt l Z a0 hw [] b1 x39 x40 x41 x42 x43 x44 x45 x46 (own_ins (fun _ => False) xx) (0 : Int32) T38.heap n0 Zs70 E56 F57 F58 F59 F60 A61 A62 (Or.inr (Or.inr (Or.inl hpq55)))) hZ (own_w hw 65 rfl) (own_w hw 3 rfl) (by decide) (by decide)) q83a q83c (g := (mkF m 277 #[.val (.int aa), .val (.int bb), .val (.int cc), .val (.int ff), .val (.int (1 : Int32)), .val (.int xx), .val (.int yy), .val (.int zz), .val (.int ss), .val (.int rr), .val (.ref b1), .val (.int (1 : Int32)), .val (.int (0 : Int32)), .val (.int (0 : Int32)), .val (.int (own_mx (-1 : Int32) xx))] [(.ref b1)])) rfl (by rw [hml]; rfl) (Steps.refl _) (argsL := []) (rest := []) (lenOf pd_9 rfl) rfl (by show 2 * 0 + _ ≤ _; exact Nat.le_of_eq rfl) (hb hby at_277) (fun _ _ => ⟨rfl, hq82, (by decide : 3 + 0 ≤ _), (by decide : 6 + 0 ≤ _)⟩)
        dsimp only [Pt.U, Pt.locs, Pt.cells, Pt.slots] at X83 l83 y83 z83 st83 hQ83
        subst l83 y83 z83
        obtain ⟨x84, rfl, N83q, hq85, hpq86⟩ := hQ83
        have N83 := Fr.app N81 N83q
        have pre87 := fun (t : State) (k : Steps p.tables e below (T83.setTop (mkF m 290 #[.val (.int aa), .val (.int bb), .val (.int cc), .val (.int ff), .val (.int (1 : Int32)), .val (.int xx), .val (.int yy), .val (.int zz), .val (.int ss), .val (.int rr), .val (.ref b1), .val (.int (1 : Int32)), .val (.int (0 : Int32)), .val (.int (0 : Int32)), .val (.int (own_mx (-1 : Int32) xx))] [(.int (1 : Int32))])) t) => pre79 t (by
          refine XS.ifYes X38.here hx rfl (pc0 := 145) (pc' := 155) rfl (hb hby at_145) rfl ((if0 _ _).trans (teq hc80).1) (by decide) (by decide) ?_
          refine XS.iload X38.here hx rfl (hb hby at_155) rfl ?_
          refine XS.iconst X38.here hx rfl (hb hby at_157) ?_
          refine XS.icmpNo X38.here hx rfl (hb hby at_158) rfl (flt (by decide : ¬ ((1 : Int32) < (1 : Int32)))).1 ?_
          refine XS.iload X38.here hx rfl (hb hby at_161) rfl ?_
          refine XS.ifYes X38.here hx rfl (pc0 := 163) (pc' := 173) rfl (hb hby at_163) rfl ((if0 _ _).trans (teq hc80).1) (by decide) (by decide) ?_
          refine XS.iconst X38.here hx rfl (hb hby at_173) ?_
          refine XS.goto X38.here hx rfl (pc0 := 174) (pc' := 178) rfl (hb hby at_174) (by decide) (by decide) ?_
          refine XS.istore X38.here hx rfl (hb hby at_178) rfl (l' := #[.val (.int aa), .val (.int bb), .val (.int cc), .val (.int ff), .val (.int (1 : Int32)), .val (.int xx), .val (.int yy), .val (.int zz), .val (.int ss), .val (.int rr), .val (.ref b1), .val (.int (1 : Int32)), .unset, .unset, .unset]) rfl ?_
          refine XS.iload X38.here hx rfl (hb hby at_180) rfl ?_
          refine XS.iconst X38.here hx rfl (hb hby at_182) ?_
          refine XS.icmpYes X38.here hx rfl (pc0 := 183) (pc' := 202) rfl (hb hby at_183) rfl (tlt (by decide : (1 : Int32) < (2 : Int32))).1 (by decide) (by decide) ?_
          refine XS.iconst X38.here hx rfl (hb hby at_202) ?_
          refine XS.istore X38.here hx rfl (hb hby at_203) rfl (l' := #[.val (.int aa), .val (.int bb), .val (.int cc), .val (.int ff), .val (.int (1 : Int32)), .val (.int xx), .val (.int yy), .val (.int zz), .val (.int ss), .val (.int rr), .val (.ref b1), .val (.int (1 : Int32)), .val (.int (0 : Int32)), .unset, .unset]) rfl ?_
          refine XS.iload X38.here hx rfl (hb hby at_205) rfl ?_
          refine XS.iconst X38.here hx rfl (hb hby at_207) ?_
          refine XS.icmpYes X38.here hx rfl (pc0 := 208) (pc' := 227) rfl (hb hby at_208) rfl (tlt (by decide : (1 : Int32) < (3 : Int32))).1 (by decide) (by decide) ?_
          refine XS.iconst X38.here hx rfl (hb hby at_227) ?_
          refine XS.istore X38.here hx rfl (hb hby at_228) rfl (l' := #[.val (.int aa), .val (.int bb), .val (.int cc), .val (.int ff), .val (.int (1 : Int32)), .val (.int xx), .val (.int yy), .val (.int zz), .val (.int ss), .val (.int rr), .val (.ref b1), .val (.int (1 : Int32)), .val (.int (0 : Int32)), .val (.int (0 : Int32)), .unset]) rfl ?_
          refine XS.iconst X38.here hx rfl (hb hby at_230) ?_
          refine XS.istore X38.here hx rfl (hb hby at_231) rfl (l' := #[.val (.int aa), .val (.int bb), .val (.int cc), .val (.int ff), .val (.int (1 : Int32)), .val (.int xx), .val (.int yy), .val (.int zz), .val (.int ss), .val (.int rr), .val (.ref b1), .val (.int (1 : Int32)), .val (.int (0 : Int32)), .val (.int (0 : Int32)), .val (.int (-1 : Int32))]) rfl ?_
          refine XS.iload X38.here hx rfl (hb hby at_233) rfl ?_
          refine XS.ifNo X38.here hx rfl (hb hby at_235) rfl ((if0 _ _).trans (feq (by decide : ¬ ((1 : Int32) = (0 : Int32)))).1) ?_
          refine XS.iload X38.here hx rfl (hb hby at_238) rfl ?_
          refine XS.iload X38.here hx rfl (hb hby at_240) rfl ?_
          refine st81 _ ?_
          refine XS.istore X81.here hx rfl (hb hby at_245) rfl (l' := #[.val (.int aa), .val (.int bb), .val (.int cc), .val (.int ff), .val (.int (1 : Int32)), .val (.int xx), .val (.int yy), .val (.int zz), .val (.int ss), .val (.int rr), .val (.ref b1), .val (.int (1 : Int32)), .val (.int (0 : Int32)), .val (.int (0 : Int32)), .val (.int (own_mx (-1 : Int32) xx))]) rfl ?_
          refine XS.iload X81.here hx rfl (hb hby at_247) rfl ?_
          refine XS.ifYes X81.here hx rfl (pc0 := 249) (pc' := 261) rfl (hb hby at_249) rfl ((if0 _ _).trans (teq (by decide : (0 : Int32) = (0 : Int32))).1) (by decide) (by decide) ?_
          refine XS.iload X81.here hx rfl (hb hby at_261) rfl ?_
          refine XS.ifYes X81.here hx rfl (pc0 := 263) (pc' := 275) rfl (hb hby at_263) rfl ((if0 _ _).trans (teq (by decide : (0 : Int32) = (0 : Int32))).1) (by decide) (by decide) ?_
          refine XS.aload X81.here hx rfl (hb hby at_275) rfl rfl ?_
          refine st83.trans ?_
          refine XS.iload X83.here hx rfl (hb hby at_280) rfl ?_
          refine XS.icmpNo X83.here hx rfl (hb hby at_282) rfl (teq (own_top_uniq hpq86 (own_top_mx own_top_e t95_1))).2 ?_
          refine XS.iconst X83.here hx rfl (hb hby at_285) ?_
          refine XS.goto X83.here hx rfl (pc0 := 286) (pc' := 290) rfl (hb hby at_286) (by decide) (by decide) ?_
          exact k)
        obtain ⟨fs, hr, hrun, hended, hW, hsame⟩ := X83.leave (v := some (.int (1 : Int32))) (hlocks := BodyLoose.notSynchronized Bd) (fun h => by rw [Bd.returns] at h; cases h)
        refine ⟨_, _, pre87 _ ?_, hrun, hended, _, _, rfl, ?_, ⟨_, rfl⟩, hW, hsame.mono (by decide) (by decide)⟩
        · exact retN X83 hx (t := .boolean) Bd.returns (by simp) (hb hby at_290) hr
        · show Q_law Z aa bb cc ff ka wa kk kw h0 n0 _ T83.heap _
          rw [hq85]
          exact ⟨rfl, N83, K38⟩
      · obtain ⟨cq88, kq88, q88a, q88b, q88c⟩ := isOf hZ rfl E56
        obtain ⟨_, _, ⟨T88, L88, k88, n88⟩, -, X88, ⟨Lc88, hQ88, l88, y88, z88⟩, st88⟩ := X38.virtualBack hx (y := (⟨"org/tallyrole/core/Dependencies", "remove", "(I)V"⟩ : MethodName)) (z := (⟨"org/tallyrole/core/Dependencies", "remove", "(I)V"⟩ : MethodName)) hown (mvT hZ (own_w hw 75 rfl)) (mvT hZ (own_w hw 76 rfl)) (notFace_of_selects (args := #[]) (mvT hZ (own_w hw 78 rfl))) (mvT hZ (own_w hw 78 rfl)) (mvT hZ (own_w hw 77 rfl)) (by decide) (backOf (W := 0) (rm_rm l Z a0 hw [] b1 x39 x40 x41 x42 x43 x44 x45 x46 (own_ins (fun _ => False) xx) rr T38.heap n0 Zs70 E56 F57 F58 F59 F60 A61 A62 (Or.inl hpq55) ge_b1 hpq48 hpq50 hpq52 hpq53 hpq54) hZ (own_w hw 79 rfl) (own_w hw 3 rfl) (by decide) (by decide)) q88a q88c (g := (mkF m 152 #[.val (.int aa), .val (.int bb), .val (.int cc), .val (.int ff), .val (.int (1 : Int32)), .val (.int xx), .val (.int yy), .val (.int zz), .val (.int ss), .val (.int rr), .val (.ref b1), .unset, .unset, .unset, .unset] [(.int rr), (.ref b1)])) rfl (by rw [hml]; rfl) (Steps.refl _) (argsL := [(.int rr)]) (rest := []) (lenOf pd_7 rfl) rfl (by show 2 * 0 + _ ≤ _; exact Nat.le_of_eq rfl) (hb hby at_152) (fun _ _ => ⟨rfl, rfl, (by decide : 3 + 0 ≤ _), (by decide : 6 + 0 ≤ _)⟩)
        dsimp only [Pt.U, Pt.locs, Pt.cells, Pt.slots] at X88 l88 y88 z88 st88 hQ88
        subst l88 y88 z88
        obtain ⟨x89, x90, x91, x92, x93, x94, x95, x96, rfl, N88q, hq97, hpq98, hpq99, hpq100, hpq101, hpq102, hpq103, hpq104, hpq105, E106, F107, F108, F109, F110, A111, A112⟩ := hQ88
        have N88 := Fr.app N38 N88q
        have lt113 : b1 < T38.heap.size := E56.lt
        have lt114 : x39 < T38.heap.size := A61.lt
        have lt115 : x40 < T38.heap.size := A62.lt
        have S116 := own_sta_keep S66 hq97 (allS (own_ns_exa E56) (allS (own_ns_arv A61) (allS (own_ns_arv A62) all0)))
        have S117 := own_sta_keep S67 hq97 (allS (own_ns_exa E56) (allS (own_ns_arv A61) (allS (own_ns_arv A62) all0)))
        have K88 : Keep h0 T88.heap [] := K38.trans hq97 (allS (Or.inr sz_b1) (allS (Or.inr sz74) (allS (Or.inr sz78) all0)))
        have Zs118 : n0 ≤ T88.heap.size := (Nat.le_trans Zs70 hq97.1)
        have ne119 : b1 ≠ x89 := hpq100.elim (fun q => by rw [q]; exact hpq52) (fun q => Nat.ne_of_lt (Nat.lt_of_lt_of_le lt113 q))
        have ne120 : x40 ≠ x89 := hpq100.elim (fun q => by rw [q]; exact (Ne.symm hpq54)) (fun q => Nat.ne_of_lt (Nat.lt_of_lt_of_le lt115 q))
        have sz121 : h0.size ≤ x89 := hpq100.elim (fun q => by rw [q]; exact sz74) (fun q => Nat.le_trans K38.1 q)
        have ne122 : b1 ≠ x90 := hpq101.elim (fun q => by rw [q]; exact hpq53) (fun q => Nat.ne_of_lt (Nat.lt_of_lt_of_le lt113 q))
        have ne123 : x39 ≠ x90 := hpq101.elim (fun q => by rw [q]; exact hpq54) (fun q => Nat.ne_of_lt (Nat.lt_of_lt_of_le lt114 q))
        have sz124 : h0.size ≤ x90 := hpq101.elim (fun q => by rw [q]; exact sz78) (fun q => Nat.le_trans K38.1 q)
        have pre125 := fun (t : State) (k : Steps p.tables e below (T88.setTop (mkF m 170 #[.val (.int aa), .val (.int bb), .val (.int cc), .val (.int ff), .val (.int (1 : Int32)), .val (.int xx), .val (.int yy), .val (.int zz), .val (.int ss), .val (.int rr), .val (.ref b1), .unset, .unset, .unset, .unset] [(.int rr), (.int xx)])) t) => pre79 t (by
          refine XS.ifNo X38.here hx rfl (hb hby at_145) rfl ((if0 _ _).trans (feq hc80).1) ?_
          refine XS.aload X38.here hx rfl (hb hby at_148) rfl rfl ?_
          refine XS.iload X38.here hx rfl (hb hby at_150) rfl ?_
          refine st88.trans ?_
          refine XS.iload X88.here hx rfl (hb hby at_155) rfl ?_
          refine XS.iconst X88.here hx rfl (hb hby at_157) ?_
          refine XS.icmpNo X88.here hx rfl (hb hby at_158) rfl (flt (by decide : ¬ ((1 : Int32) < (1 : Int32)))).1 ?_
          refine XS.iload X88.here hx rfl (hb hby at_161) rfl ?_
          refine XS.ifNo X88.here hx rfl (hb hby at_163) rfl ((if0 _ _).trans (feq hc80).1) ?_
          refine XS.iload X88.here hx rfl (hb hby at_166) rfl ?_
          refine XS.iload X88.here hx rfl (hb hby at_168) rfl ?_
          exact k)
        by_cases hc126 : xx = rr
        · obtain ⟨cq127, kq127, q127a, q127b, q127c⟩ := isOf hZ rfl E106
          obtain ⟨_, _, ⟨T127, L127, k127, n127⟩, -, X127, ⟨Lc127, hQ127, l127, y127, z127⟩, st127⟩ := X88.virtualBack hx (y := (⟨"org/tallyrole/core/Dependencies", "latest", "()I"⟩ : MethodName)) (z := (⟨"org/tallyrole/core/Dependencies", "latest", "()I"⟩ : MethodName)) hown (mvT hZ (own_w hw 61 rfl)) (mvT hZ (own_w hw 62 rfl)) (notFace_of_selects (args := #[]) (mvT hZ (own_w hw 64 rfl))) (mvT hZ (own_w hw 64 rfl)) (mvT hZ (own_w hw 63 rfl)) (by decide) (backOf (W := 0) (rm_lt l Z a0 hw [] b1 x89 x90 x91 x92 x93 x94 x95 x96 (own_del (own_ins (fun _ => False) xx) rr) (0 : Int32) T88.heap n0 Zs118 E106 F107 F108 F109 F110 A111 A112 (hpq105.elim (fun z => (Or.inr (Or.inl z))) (fun z => (z.elim (fun z => (Or.inr (Or.inr (Or.inl z)))) (fun z => (z.elim (fun z => (Or.inr (Or.inr (Or.inr (Or.inl z))))) (fun z => (z.elim (fun z => (Or.inr (Or.inr (Or.inr (Or.inr (Or.inl z)))))) (fun z => (Or.inr (Or.inr (Or.inr (Or.inr (Or.inr z)))))))))))))) hZ (own_w hw 65 rfl) (own_w hw 3 rfl) (by decide) (by decide)) q127a q127c (g := (mkF m 277 #[.val (.int aa), .val (.int bb), .val (.int cc), .val (.int ff), .val (.int (1 : Int32)), .val (.int xx), .val (.int yy), .val (.int zz), .val (.int ss), .val (.int rr), .val (.ref b1), .val (.int (0 : Int32)), .val (.int (0 : Int32)), .val (.int (0 : Int32)), .val (.int (-1 : Int32))] [(.ref b1)])) rfl (by rw [hml]; rfl) (Steps.refl _) (argsL := []) (rest := []) (lenOf pd_9 rfl) rfl (by show 2 * 0 + _ ≤ _; exact Nat.le_of_eq rfl) (hb hby at_277) (fun _ _ => ⟨rfl, rfl, (by decide : 3 + 0 ≤ _), (by decide : 6 + 0 ≤ _)⟩)
          dsimp only [Pt.U, Pt.locs, Pt.cells, Pt.slots] at X127 l127 y127 z127 st127 hQ127
          subst l127 y127 z127
          obtain ⟨x128, rfl, N127q, hq129, hpq130⟩ := hQ127
          have N127 := Fr.app N88 N127q
          have pre131 := fun (t : State) (k : Steps p.tables e below (T127.setTop (mkF m 290 #[.val (.int aa), .val (.int bb), .val (.int cc), .val (.int ff), .val (.int (1 : Int32)), .val (.int xx), .val (.int yy), .val (.int zz), .val (.int ss), .val (.int rr), .val (.ref b1), .val (.int (0 : Int32)), .val (.int (0 : Int32)), .val (.int (0 : Int32)), .val (.int (-1 : Int32))] [(.int (1 : Int32))])) t) => pre125 t (by
            refine XS.icmpYes X88.here hx rfl (pc0 := 170) (pc' := 177) rfl (hb hby at_170) rfl (teq hc126).1 (by decide) (by decide) ?_
            refine XS.iconst X88.here hx rfl (hb hby at_177) ?_
            refine XS.istore X88.here hx rfl (hb hby at_178) rfl (l' := #[.val (.int aa), .val (.int bb), .val (.int cc), .val (.int ff), .val (.int (1 : Int32)), .val (.int xx), .val (.int yy), .val (.int zz), .val (.int ss), .val (.int rr), .val (.ref b1), .val (.int (0 : Int32)), .unset, .unset, .unset]) rfl ?_
            refine XS.iload X88.here hx rfl (hb hby at_180) rfl ?_
            refine XS.iconst X88.here hx rfl (hb hby at_182) ?_
            refine XS.icmpYes X88.here hx rfl (pc0 := 183) (pc' := 202) rfl (hb hby at_183) rfl (tlt (by decide : (1 : Int32) < (2 : Int32))).1 (by decide) (by decide) ?_
            refine XS.iconst X88.here hx rfl (hb hby at_202) ?_
            refine XS.istore X88.here hx rfl (hb hby at_203) rfl (l' := #[.val (.int aa), .val (.int bb), .val (.int cc), .val (.int ff), .val (.int (1 : Int32)), .val (.int xx), .val (.int yy), .val (.int zz), .val (.int ss), .val (.int rr), .val (.ref b1), .val (.int (0 : Int32)), .val (.int (0 : Int32)), .unset, .unset]) rfl ?_
            refine XS.iload X88.here hx rfl (hb hby at_205) rfl ?_
            refine XS.iconst X88.here hx rfl (hb hby at_207) ?_
            refine XS.icmpYes X88.here hx rfl (pc0 := 208) (pc' := 227) rfl (hb hby at_208) rfl (tlt (by decide : (1 : Int32) < (3 : Int32))).1 (by decide) (by decide) ?_
            refine XS.iconst X88.here hx rfl (hb hby at_227) ?_
            refine XS.istore X88.here hx rfl (hb hby at_228) rfl (l' := #[.val (.int aa), .val (.int bb), .val (.int cc), .val (.int ff), .val (.int (1 : Int32)), .val (.int xx), .val (.int yy), .val (.int zz), .val (.int ss), .val (.int rr), .val (.ref b1), .val (.int (0 : Int32)), .val (.int (0 : Int32)), .val (.int (0 : Int32)), .unset]) rfl ?_
            refine XS.iconst X88.here hx rfl (hb hby at_230) ?_
            refine XS.istore X88.here hx rfl (hb hby at_231) rfl (l' := #[.val (.int aa), .val (.int bb), .val (.int cc), .val (.int ff), .val (.int (1 : Int32)), .val (.int xx), .val (.int yy), .val (.int zz), .val (.int ss), .val (.int rr), .val (.ref b1), .val (.int (0 : Int32)), .val (.int (0 : Int32)), .val (.int (0 : Int32)), .val (.int (-1 : Int32))]) rfl ?_
            refine XS.iload X88.here hx rfl (hb hby at_233) rfl ?_
            refine XS.ifYes X88.here hx rfl (pc0 := 235) (pc' := 247) rfl (hb hby at_235) rfl ((if0 _ _).trans (teq (by decide : (0 : Int32) = (0 : Int32))).1) (by decide) (by decide) ?_
            refine XS.iload X88.here hx rfl (hb hby at_247) rfl ?_
            refine XS.ifYes X88.here hx rfl (pc0 := 249) (pc' := 261) rfl (hb hby at_249) rfl ((if0 _ _).trans (teq (by decide : (0 : Int32) = (0 : Int32))).1) (by decide) (by decide) ?_
            refine XS.iload X88.here hx rfl (hb hby at_261) rfl ?_
            refine XS.ifYes X88.here hx rfl (pc0 := 263) (pc' := 275) rfl (hb hby at_263) rfl ((if0 _ _).trans (teq (by decide : (0 : Int32) = (0 : Int32))).1) (by decide) (by decide) ?_
            refine XS.aload X88.here hx rfl (hb hby at_275) rfl rfl ?_
            refine st127.trans ?_
            refine XS.iload X127.here hx rfl (hb hby at_280) rfl ?_
            refine XS.icmpNo X127.here hx rfl (hb hby at_282) rfl (teq (own_top_uniq hpq130 (own_top_congr own_top_e (own_c0 hc126)))).2 ?_
            refine XS.iconst X127.here hx rfl (hb hby at_285) ?_
            refine XS.goto X127.here hx rfl (pc0 := 286) (pc' := 290) rfl (hb hby at_286) (by decide) (by decide) ?_
            exact k)
          obtain ⟨fs, hr, hrun, hended, hW, hsame⟩ := X127.leave (v := some (.int (1 : Int32))) (hlocks := BodyLoose.notSynchronized Bd) (fun h => by rw [Bd.returns] at h; cases h)
          refine ⟨_, _, pre131 _ ?_, hrun, hended, _, _, rfl, ?_, ⟨_, rfl⟩, hW, hsame.mono (by decide) (by decide)⟩
          · exact retN X127 hx (t := .boolean) Bd.returns (by simp) (hb hby at_290) hr
          · show Q_law Z aa bb cc ff ka wa kk kw h0 n0 _ T127.heap _
            rw [hq129]
            exact ⟨rfl, N127, K88⟩
        · obtain ⟨_, _, ⟨T132, L132, k132, n132⟩, -, X132, ⟨Lc132, hQ132, l132, y132, z132⟩, st132⟩ := Jvm.LawKit.callS X88 hx (y := (⟨"java/lang/Math", "max", "(II)I"⟩ : MethodName)) hown (mvT hZ (own_w hw 58 rfl)) (mvT hZ (own_w hw 59 rfl)) (mvT hZ (own_w hw 47 rfl)) (mvT hZ (own_w hw 60 rfl)) (by decide) (backOf (W := 0) (rm_mx l Z a0 hw [] (-1 : Int32) xx T88.heap n0 Zs118 ) hZ (own_w hw 60 rfl) (own_w hw 47 rfl) (by decide) (by decide)) (g := (mkF m 242 #[.val (.int aa), .val (.int bb), .val (.int cc), .val (.int ff), .val (.int (1 : Int32)), .val (.int xx), .val (.int yy), .val (.int zz), .val (.int ss), .val (.int rr), .val (.ref b1), .val (.int (1 : Int32)), .val (.int (0 : Int32)), .val (.int (0 : Int32)), .val (.int (-1 : Int32))] [(.int xx), (.int (-1 : Int32))])) rfl (by rw [hml]; rfl) (argsL := [(.int (-1 : Int32)), (.int xx)]) (rest := []) (lenOf pd_2 rfl) rfl (by show 2 * 0 + _ ≤ _; exact Nat.le_of_eq rfl) (hb hby at_242) (fun _ _ => ⟨rfl, rfl, (by decide : 3 + 0 ≤ _), (by decide : 6 + 0 ≤ _)⟩)
          dsimp only [Pt.U, Pt.locs, Pt.cells, Pt.slots] at X132 l132 y132 z132 st132 hQ132
          subst l132 y132 z132
          obtain ⟨rfl, N132q, hq133⟩ := hQ132
          have N132 := Fr.app N88 N132q
          obtain ⟨cq134, kq134, q134a, q134b, q134c⟩ := isOf hZ hq133 E106
          obtain ⟨_, _, ⟨T134, L134, k134, n134⟩, -, X134, ⟨Lc134, hQ134, l134, y134, z134⟩, st134⟩ := X132.virtualBack hx (y := (⟨"org/tallyrole/core/Dependencies", "latest", "()I"⟩ : MethodName)) (z := (⟨"org/tallyrole/core/Dependencies", "latest", "()I"⟩ : MethodName)) hown (mvT hZ (own_w hw 61 rfl)) (mvT hZ (own_w hw 62 rfl)) (notFace_of_selects (args := #[]) (mvT hZ (own_w hw 64 rfl))) (mvT hZ (own_w hw 64 rfl)) (mvT hZ (own_w hw 63 rfl)) (by decide) (backOf (W := 0) (rm_lt l Z a0 hw [] b1 x89 x90 x91 x92 x93 x94 x95 x96 (own_del (own_ins (fun _ => False) xx) rr) (0 : Int32) T88.heap n0 Zs118 E106 F107 F108 F109 F110 A111 A112 (hpq105.elim (fun z => (Or.inr (Or.inl z))) (fun z => (z.elim (fun z => (Or.inr (Or.inr (Or.inl z)))) (fun z => (z.elim (fun z => (Or.inr (Or.inr (Or.inr (Or.inl z))))) (fun z => (z.elim (fun z => (Or.inr (Or.inr (Or.inr (Or.inr (Or.inl z)))))) (fun z => (Or.inr (Or.inr (Or.inr (Or.inr (Or.inr z)))))))))))))) hZ (own_w hw 65 rfl) (own_w hw 3 rfl) (by decide) (by decide)) q134a q134c (g := (mkF m 277 #[.val (.int aa), .val (.int bb), .val (.int cc), .val (.int ff), .val (.int (1 : Int32)), .val (.int xx), .val (.int yy), .val (.int zz), .val (.int ss), .val (.int rr), .val (.ref b1), .val (.int (1 : Int32)), .val (.int (0 : Int32)), .val (.int (0 : Int32)), .val (.int (own_mx (-1 : Int32) xx))] [(.ref b1)])) rfl (by rw [hml]; rfl) (Steps.refl _) (argsL := []) (rest := []) (lenOf pd_9 rfl) rfl (by show 2 * 0 + _ ≤ _; exact Nat.le_of_eq rfl) (hb hby at_277) (fun _ _ => ⟨rfl, hq133, (by decide : 3 + 0 ≤ _), (by decide : 6 + 0 ≤ _)⟩)
          dsimp only [Pt.U, Pt.locs, Pt.cells, Pt.slots] at X134 l134 y134 z134 st134 hQ134
          subst l134 y134 z134
          obtain ⟨x135, rfl, N134q, hq136, hpq137⟩ := hQ134
          have N134 := Fr.app N132 N134q
          have pre138 := fun (t : State) (k : Steps p.tables e below (T134.setTop (mkF m 290 #[.val (.int aa), .val (.int bb), .val (.int cc), .val (.int ff), .val (.int (1 : Int32)), .val (.int xx), .val (.int yy), .val (.int zz), .val (.int ss), .val (.int rr), .val (.ref b1), .val (.int (1 : Int32)), .val (.int (0 : Int32)), .val (.int (0 : Int32)), .val (.int (own_mx (-1 : Int32) xx))] [(.int (1 : Int32))])) t) => pre125 t (by
            refine XS.icmpNo X88.here hx rfl (hb hby at_170) rfl (feq hc126).1 ?_
            refine XS.iconst X88.here hx rfl (hb hby at_173) ?_
            refine XS.goto X88.here hx rfl (pc0 := 174) (pc' := 178) rfl (hb hby at_174) (by decide) (by decide) ?_
            refine XS.istore X88.here hx rfl (hb hby at_178) rfl (l' := #[.val (.int aa), .val (.int bb), .val (.int cc), .val (.int ff), .val (.int (1 : Int32)), .val (.int xx), .val (.int yy), .val (.int zz), .val (.int ss), .val (.int rr), .val (.ref b1), .val (.int (1 : Int32)), .unset, .unset, .unset]) rfl ?_
            refine XS.iload X88.here hx rfl (hb hby at_180) rfl ?_
            refine XS.iconst X88.here hx rfl (hb hby at_182) ?_
            refine XS.icmpYes X88.here hx rfl (pc0 := 183) (pc' := 202) rfl (hb hby at_183) rfl (tlt (by decide : (1 : Int32) < (2 : Int32))).1 (by decide) (by decide) ?_
            refine XS.iconst X88.here hx rfl (hb hby at_202) ?_
            refine XS.istore X88.here hx rfl (hb hby at_203) rfl (l' := #[.val (.int aa), .val (.int bb), .val (.int cc), .val (.int ff), .val (.int (1 : Int32)), .val (.int xx), .val (.int yy), .val (.int zz), .val (.int ss), .val (.int rr), .val (.ref b1), .val (.int (1 : Int32)), .val (.int (0 : Int32)), .unset, .unset]) rfl ?_
            refine XS.iload X88.here hx rfl (hb hby at_205) rfl ?_
            refine XS.iconst X88.here hx rfl (hb hby at_207) ?_
            refine XS.icmpYes X88.here hx rfl (pc0 := 208) (pc' := 227) rfl (hb hby at_208) rfl (tlt (by decide : (1 : Int32) < (3 : Int32))).1 (by decide) (by decide) ?_
            refine XS.iconst X88.here hx rfl (hb hby at_227) ?_
            refine XS.istore X88.here hx rfl (hb hby at_228) rfl (l' := #[.val (.int aa), .val (.int bb), .val (.int cc), .val (.int ff), .val (.int (1 : Int32)), .val (.int xx), .val (.int yy), .val (.int zz), .val (.int ss), .val (.int rr), .val (.ref b1), .val (.int (1 : Int32)), .val (.int (0 : Int32)), .val (.int (0 : Int32)), .unset]) rfl ?_
            refine XS.iconst X88.here hx rfl (hb hby at_230) ?_
            refine XS.istore X88.here hx rfl (hb hby at_231) rfl (l' := #[.val (.int aa), .val (.int bb), .val (.int cc), .val (.int ff), .val (.int (1 : Int32)), .val (.int xx), .val (.int yy), .val (.int zz), .val (.int ss), .val (.int rr), .val (.ref b1), .val (.int (1 : Int32)), .val (.int (0 : Int32)), .val (.int (0 : Int32)), .val (.int (-1 : Int32))]) rfl ?_
            refine XS.iload X88.here hx rfl (hb hby at_233) rfl ?_
            refine XS.ifNo X88.here hx rfl (hb hby at_235) rfl ((if0 _ _).trans (feq (by decide : ¬ ((1 : Int32) = (0 : Int32)))).1) ?_
            refine XS.iload X88.here hx rfl (hb hby at_238) rfl ?_
            refine XS.iload X88.here hx rfl (hb hby at_240) rfl ?_
            refine st132 _ ?_
            refine XS.istore X132.here hx rfl (hb hby at_245) rfl (l' := #[.val (.int aa), .val (.int bb), .val (.int cc), .val (.int ff), .val (.int (1 : Int32)), .val (.int xx), .val (.int yy), .val (.int zz), .val (.int ss), .val (.int rr), .val (.ref b1), .val (.int (1 : Int32)), .val (.int (0 : Int32)), .val (.int (0 : Int32)), .val (.int (own_mx (-1 : Int32) xx))]) rfl ?_
            refine XS.iload X132.here hx rfl (hb hby at_247) rfl ?_
            refine XS.ifYes X132.here hx rfl (pc0 := 249) (pc' := 261) rfl (hb hby at_249) rfl ((if0 _ _).trans (teq (by decide : (0 : Int32) = (0 : Int32))).1) (by decide) (by decide) ?_
            refine XS.iload X132.here hx rfl (hb hby at_261) rfl ?_
            refine XS.ifYes X132.here hx rfl (pc0 := 263) (pc' := 275) rfl (hb hby at_263) rfl ((if0 _ _).trans (teq (by decide : (0 : Int32) = (0 : Int32))).1) (by decide) (by decide) ?_
            refine XS.aload X132.here hx rfl (hb hby at_275) rfl rfl ?_
            refine st134.trans ?_
            refine XS.iload X134.here hx rfl (hb hby at_280) rfl ?_
            refine XS.icmpNo X134.here hx rfl (hb hby at_282) rfl (teq (own_top_uniq hpq137 (own_top_congr (own_top_mx own_top_e t95_1) (own_c1 hc126)))).2 ?_
            refine XS.iconst X134.here hx rfl (hb hby at_285) ?_
            refine XS.goto X134.here hx rfl (pc0 := 286) (pc' := 290) rfl (hb hby at_286) (by decide) (by decide) ?_
            exact k)
          obtain ⟨fs, hr, hrun, hended, hW, hsame⟩ := X134.leave (v := some (.int (1 : Int32))) (hlocks := BodyLoose.notSynchronized Bd) (fun h => by rw [Bd.returns] at h; cases h)
          refine ⟨_, _, pre138 _ ?_, hrun, hended, _, _, rfl, ?_, ⟨_, rfl⟩, hW, hsame.mono (by decide) (by decide)⟩
          · exact retN X134 hx (t := .boolean) Bd.returns (by simp) (hb hby at_290) hr
          · show Q_law Z aa bb cc ff ka wa kk kw h0 n0 _ T134.heap _
            rw [hq136]
            exact ⟨rfl, N134, K88⟩
    · obtain ⟨cq139, kq139, q139a, q139b, q139c⟩ := isOf hZ rfl E21
      obtain ⟨_, _, ⟨T139, L139, k139, n139⟩, -, X139, ⟨Lc139, hQ139, l139, y139, z139⟩, st139⟩ := X11.virtualBack hx (y := (⟨"org/tallyrole/core/Dependencies", "add", "(I)V"⟩ : MethodName)) (z := (⟨"org/tallyrole/core/Dependencies", "add", "(I)V"⟩ : MethodName)) hown (mvT hZ (own_w hw 18 rfl)) (mvT hZ (own_w hw 19 rfl)) (notFace_of_selects (args := #[]) (mvT hZ (own_w hw 21 rfl))) (mvT hZ (own_w hw 21 rfl)) (mvT hZ (own_w hw 20 rfl)) (by decide) (backOf (W := 0) (rm_aE l Z a0 hw [] b1 ka wa kk kw (fun _ => False) xx T11.heap n0 Zs22 E21 F13 F14 F15 F16 A19 A20 (fun _ q => q) ge_b1 (Ne.symm ne_ka_b1) (Ne.symm ne_wa_b1) t95_1) hZ (own_w hw 22 rfl) (own_w hw 3 rfl) (by decide) (by decide)) q139a q139c (g := (mkF m 114 #[.val (.int aa), .val (.int bb), .val (.int cc), .val (.int ff), .val (.int (2 : Int32)), .val (.int xx), .val (.int yy), .val (.int zz), .val (.int ss), .val (.int rr), .val (.ref b1), .unset, .unset, .unset, .unset] [(.int xx), (.ref b1)])) rfl (by rw [hml]; rfl) (Steps.refl _) (argsL := [(.int xx)]) (rest := []) (lenOf pd_7 rfl) rfl (by show 2 * 0 + _ ≤ _; exact Nat.le_of_eq rfl) (hb hby at_114) (fun _ _ => ⟨rfl, rfl, (by decide : 1 + 2 ≤ _), (by decide : 4 + 2 ≤ _)⟩)
      dsimp only [Pt.U, Pt.locs, Pt.cells, Pt.slots] at X139 l139 y139 z139 st139 hQ139
      subst l139 y139 z139
      obtain ⟨x140, x141, x142, x143, x144, x145, x146, x147, rfl, N139q, hq148, hpq149, hpq150, hpq151, hpq152, hpq153, hpq154, hpq155, hpq156, E157, F158, F159, F160, F161, A162, A163⟩ := hQ139
      have N139 := Fr.app N11 N139q
      have lt164 : ka < T11.heap.size := A19.lt
      have lt165 : wa < T11.heap.size := A20.lt
      have lt166 : b1 < T11.heap.size := E21.lt
      have S167 := own_sta_keep S17 hq148 (allS (own_ns_exa E21) all0)
      have S168 := own_sta_keep S18 hq148 (allS (own_ns_exa E21) all0)
      have A169 := A19.keep hq148 (ninS ne_ka_b1 nin0)
      have A170 := A20.keep hq148 (ninS ne_wa_b1 nin0)
      have K139 : Keep h0 T139.heap [] := K11.trans hq148 (allS (Or.inr sz_b1) all0)
      have Zs171 : n0 ≤ T139.heap.size := (Nat.le_trans Zs22 hq148.1)
      have ne172 : ka ≠ x140 := Nat.ne_of_lt (Nat.lt_of_lt_of_le lt164 hpq150)
      have ne173 : wa ≠ x140 := Nat.ne_of_lt (Nat.lt_of_lt_of_le lt165 hpq150)
      have ne174 : b1 ≠ x140 := Nat.ne_of_lt (Nat.lt_of_lt_of_le lt166 hpq150)
      have sz175 : h0.size ≤ x140 := Nat.le_trans K11.1 hpq150
      have ne176 : ka ≠ x141 := Nat.ne_of_lt (Nat.lt_of_lt_of_le lt164 hpq152)
      have ne177 : wa ≠ x141 := Nat.ne_of_lt (Nat.lt_of_lt_of_le lt165 hpq152)
      have ne178 : b1 ≠ x141 := Nat.ne_of_lt (Nat.lt_of_lt_of_le lt166 hpq152)
      have sz179 : h0.size ≤ x141 := Nat.le_trans K11.1 hpq152
      obtain ⟨cq180, kq180, q180a, q180b, q180c⟩ := isOf hZ rfl E157
      obtain ⟨_, _, ⟨T180, L180, k180, n180⟩, -, X180, ⟨Lc180, hQ180, l180, y180, z180⟩, st180⟩ := X139.virtualBack hx (y := (⟨"org/tallyrole/core/Dependencies", "add", "(I)V"⟩ : MethodName)) (z := (⟨"org/tallyrole/core/Dependencies", "add", "(I)V"⟩ : MethodName)) hown (mvT hZ (own_w hw 18 rfl)) (mvT hZ (own_w hw 19 rfl)) (notFace_of_selects (args := #[]) (mvT hZ (own_w hw 21 rfl))) (mvT hZ (own_w hw 21 rfl)) (mvT hZ (own_w hw 20 rfl)) (by decide) (backOf (W := 0) (rm_ad l Z a0 hw [] b1 x140 x141 x142 x143 x144 x145 x146 x147 (own_ins (fun _ => False) xx) yy T139.heap n0 Zs171 E157 F158 F159 F160 F161 A162 A163 (Or.inl hpq156) ge_b1 hpq149 hpq151 hpq153 hpq154 hpq155 t95_2) hZ (own_w hw 22 rfl) (own_w hw 3 rfl) (by decide) (by decide)) q180a q180c (g := (mkF m 127 #[.val (.int aa), .val (.int bb), .val (.int cc), .val (.int ff), .val (.int (2 : Int32)), .val (.int xx), .val (.int yy), .val (.int zz), .val (.int ss), .val (.int rr), .val (.ref b1), .unset, .unset, .unset, .unset] [(.int yy), (.ref b1)])) rfl (by rw [hml]; rfl) (Steps.refl _) (argsL := [(.int yy)]) (rest := []) (lenOf pd_7 rfl) rfl (by show 2 * 0 + _ ≤ _; exact Nat.le_of_eq rfl) (hb hby at_127) (fun _ _ => ⟨rfl, rfl, (by decide : 3 + 2 ≤ _), (by decide : 6 + 6 ≤ _)⟩)
      dsimp only [Pt.U, Pt.locs, Pt.cells, Pt.slots] at X180 l180 y180 z180 st180 hQ180
      subst l180 y180 z180
      obtain ⟨x181, x182, x183, x184, x185, x186, x187, x188, rfl, N180q, hq189, hpq190, hpq191, hpq192, hpq193, hpq194, hpq195, hpq196, hpq197, hpq198, E199, F200, F201, F202, F203, A204, A205⟩ := hQ180
      have N180 := Fr.app N139 N180q
      have lt206 : b1 < T139.heap.size := E157.lt
      have lt207 : x140 < T139.heap.size := A162.lt
      have lt208 : x141 < T139.heap.size := A163.lt
      have S209 := own_sta_keep S167 hq189 (allS (own_ns_exa E157) (allS (own_ns_arv A162) (allS (own_ns_arv A163) all0)))
      have S210 := own_sta_keep S168 hq189 (allS (own_ns_exa E157) (allS (own_ns_arv A162) (allS (own_ns_arv A163) all0)))
      have K180 : Keep h0 T180.heap [] := K139.trans hq189 (allS (Or.inr sz_b1) (allS (Or.inr sz175) (allS (Or.inr sz179) all0)))
      have Zs211 : n0 ≤ T180.heap.size := (Nat.le_trans Zs171 hq189.1)
      have ne212 : b1 ≠ x181 := hpq192.elim (fun q => by rw [q]; exact hpq153) (fun q => Nat.ne_of_lt (Nat.lt_of_lt_of_le lt206 q))
      have ne213 : x141 ≠ x181 := hpq192.elim (fun q => by rw [q]; exact (Ne.symm hpq155)) (fun q => Nat.ne_of_lt (Nat.lt_of_lt_of_le lt208 q))
      have sz214 : h0.size ≤ x181 := hpq192.elim (fun q => by rw [q]; exact sz175) (fun q => Nat.le_trans K139.1 q)
      have ne215 : b1 ≠ x182 := hpq193.elim (fun q => by rw [q]; exact hpq154) (fun q => Nat.ne_of_lt (Nat.lt_of_lt_of_le lt206 q))
      have ne216 : x140 ≠ x182 := hpq193.elim (fun q => by rw [q]; exact hpq155) (fun q => Nat.ne_of_lt (Nat.lt_of_lt_of_le lt207 q))
      have sz217 : h0.size ≤ x182 := hpq193.elim (fun q => by rw [q]; exact sz179) (fun q => Nat.le_trans K139.1 q)
      have pre218 := fun (t : State) (k : Steps p.tables e below (T180.setTop (mkF m 145 #[.val (.int aa), .val (.int bb), .val (.int cc), .val (.int ff), .val (.int (2 : Int32)), .val (.int xx), .val (.int yy), .val (.int zz), .val (.int ss), .val (.int rr), .val (.ref b1), .unset, .unset, .unset, .unset] [(.int ss)])) t) => pre23 t (by
        refine XS.iload X11.here hx rfl (hb hby at_104) rfl ?_
        refine XS.iconst X11.here hx rfl (hb hby at_106) ?_
        refine XS.icmpNo X11.here hx rfl (hb hby at_107) rfl (flt (by decide : ¬ ((2 : Int32) < (1 : Int32)))).1 ?_
        refine XS.aload X11.here hx rfl (hb hby at_110) rfl rfl ?_
        refine XS.iload X11.here hx rfl (hb hby at_112) rfl ?_
        refine st139.trans ?_
        refine XS.iload X139.here hx rfl (hb hby at_117) rfl ?_
        refine XS.iconst X139.here hx rfl (hb hby at_119) ?_
        refine XS.icmpNo X139.here hx rfl (hb hby at_120) rfl (flt (by decide : ¬ ((2 : Int32) < (2 : Int32)))).1 ?_
        refine XS.aload X139.here hx rfl (hb hby at_123) rfl rfl ?_
        refine XS.iload X139.here hx rfl (hb hby at_125) rfl ?_
        refine st180.trans ?_
        refine XS.iload X180.here hx rfl (hb hby at_130) rfl ?_
        refine XS.iconst X180.here hx rfl (hb hby at_132) ?_
        refine XS.icmpYes X180.here hx rfl (pc0 := 133) (pc' := 143) rfl (hb hby at_133) rfl (tlt (by decide : (2 : Int32) < (3 : Int32))).1 (by decide) (by decide) ?_
        refine XS.iload X180.here hx rfl (hb hby at_143) rfl ?_
        exact k)
      by_cases hc219 : ss = (0 : Int32)
      · obtain ⟨_, _, ⟨T220, L220, k220, n220⟩, -, X220, ⟨Lc220, hQ220, l220, y220, z220⟩, st220⟩ := Jvm.LawKit.callS X180 hx (y := (⟨"java/lang/Math", "max", "(II)I"⟩ : MethodName)) hown (mvT hZ (own_w hw 58 rfl)) (mvT hZ (own_w hw 59 rfl)) (mvT hZ (own_w hw 47 rfl)) (mvT hZ (own_w hw 60 rfl)) (by decide) (backOf (W := 0) (rm_mx l Z a0 hw [] (-1 : Int32) xx T180.heap n0 Zs211 ) hZ (own_w hw 60 rfl) (own_w hw 47 rfl) (by decide) (by decide)) (g := (mkF m 242 #[.val (.int aa), .val (.int bb), .val (.int cc), .val (.int ff), .val (.int (2 : Int32)), .val (.int xx), .val (.int yy), .val (.int zz), .val (.int ss), .val (.int rr), .val (.ref b1), .val (.int (1 : Int32)), .val (.int (1 : Int32)), .val (.int (0 : Int32)), .val (.int (-1 : Int32))] [(.int xx), (.int (-1 : Int32))])) rfl (by rw [hml]; rfl) (argsL := [(.int (-1 : Int32)), (.int xx)]) (rest := []) (lenOf pd_2 rfl) rfl (by show 2 * 0 + _ ≤ _; exact Nat.le_of_eq rfl) (hb hby at_242) (fun _ _ => ⟨rfl, rfl, (by decide : 5 + 0 ≤ _), (by decide : 12 + 0 ≤ _)⟩)
        dsimp only [Pt.U, Pt.locs, Pt.cells, Pt.slots] at X220 l220 y220 z220 st220 hQ220
        subst l220 y220 z220
        obtain ⟨rfl, N220q, hq221⟩ := hQ220
        have N220 := Fr.app N180 N220q
        obtain ⟨_, _, ⟨T222, L222, k222, n222⟩, -, X222, ⟨Lc222, hQ222, l222, y222, z222⟩, st222⟩ := Jvm.LawKit.callS X220 hx (y := (⟨"java/lang/Math", "max", "(II)I"⟩ : MethodName)) hown (mvT hZ (own_w hw 58 rfl)) (mvT hZ (own_w hw 59 rfl)) (mvT hZ (own_w hw 47 rfl)) (mvT hZ (own_w hw 60 rfl)) (by decide) (backOf (W := 0) (rm_mx l Z a0 hw [] (own_mx (-1 : Int32) xx) yy T180.heap n0 Zs211 ) hZ (own_w hw 60 rfl) (own_w hw 47 rfl) (by decide) (by decide)) (g := (mkF m 256 #[.val (.int aa), .val (.int bb), .val (.int cc), .val (.int ff), .val (.int (2 : Int32)), .val (.int xx), .val (.int yy), .val (.int zz), .val (.int ss), .val (.int rr), .val (.ref b1), .val (.int (1 : Int32)), .val (.int (1 : Int32)), .val (.int (0 : Int32)), .val (.int (own_mx (-1 : Int32) xx))] [(.int yy), (.int (own_mx (-1 : Int32) xx))])) rfl (by rw [hml]; rfl) (argsL := [(.int (own_mx (-1 : Int32) xx)), (.int yy)]) (rest := []) (lenOf pd_2 rfl) rfl (by show 2 * 0 + _ ≤ _; exact Nat.le_of_eq rfl) (hb hby at_256) (fun _ _ => ⟨rfl, hq221, (by decide : 5 + 0 ≤ _), (by decide : 12 + 0 ≤ _)⟩)
        dsimp only [Pt.U, Pt.locs, Pt.cells, Pt.slots] at X222 l222 y222 z222 st222 hQ222
        subst l222 y222 z222
        obtain ⟨rfl, N222q, hq223⟩ := hQ222
        have N222 := Fr.app N220 N222q
        obtain ⟨cq224, kq224, q224a, q224b, q224c⟩ := isOf hZ hq223 E199
        obtain ⟨_, _, ⟨T224, L224, k224, n224⟩, -, X224, ⟨Lc224, hQ224, l224, y224, z224⟩, st224⟩ := X222.virtualBack hx (y := (⟨"org/tallyrole/core/Dependencies", "latest", "()I"⟩ : MethodName)) (z := (⟨"org/tallyrole/core/Dependencies", "latest", "()I"⟩ : MethodName)) hown (mvT hZ (own_w hw 61 rfl)) (mvT hZ (own_w hw 62 rfl)) (notFace_of_selects (args := #[]) (mvT hZ (own_w hw 64 rfl))) (mvT hZ (own_w hw 64 rfl)) (mvT hZ (own_w hw 63 rfl)) (by decide) (backOf (W := 0) (rm_lt l Z a0 hw [] b1 x181 x182 x183 x184 x185 x186 x187 x188 (own_ins (own_ins (fun _ => False) xx) yy) (0 : Int32) T180.heap n0 Zs211 E199 F200 F201 F202 F203 A204 A205 (hpq197.elim (fun z => (Or.inr (Or.inr (Or.inl z)))) (fun z => (z.elim (fun z => (Or.inr (Or.inr (Or.inr (Or.inr (Or.inl z)))))) (fun z => (Or.inr (Or.inr (Or.inr (Or.inr (Or.inr z)))))))))) hZ (own_w hw 65 rfl) (own_w hw 3 rfl) (by decide) (by decide)) q224a q224c (g := (mkF m 277 #[.val (.int aa), .val (.int bb), .val (.int cc), .val (.int ff), .val (.int (2 : Int32)), .val (.int xx), .val (.int yy), .val (.int zz), .val (.int ss), .val (.int rr), .val (.ref b1), .val (.int (1 : Int32)), .val (.int (1 : Int32)), .val (.int (0 : Int32)), .val (.int (own_mx (own_mx (-1 : Int32) xx) yy))] [(.ref b1)])) rfl (by rw [hml]; rfl) (Steps.refl _) (argsL := []) (rest := []) (lenOf pd_9 rfl) rfl (by show 2 * 0 + _ ≤ _; exact Nat.le_of_eq rfl) (hb hby at_277) (fun _ _ => ⟨rfl, hq223, (by decide : 5 + 0 ≤ _), (by decide : 12 + 0 ≤ _)⟩)
        dsimp only [Pt.U, Pt.locs, Pt.cells, Pt.slots] at X224 l224 y224 z224 st224 hQ224
        subst l224 y224 z224
        obtain ⟨x225, rfl, N224q, hq226, hpq227⟩ := hQ224
        have N224 := Fr.app N222 N224q
        have pre228 := fun (t : State) (k : Steps p.tables e below (T224.setTop (mkF m 290 #[.val (.int aa), .val (.int bb), .val (.int cc), .val (.int ff), .val (.int (2 : Int32)), .val (.int xx), .val (.int yy), .val (.int zz), .val (.int ss), .val (.int rr), .val (.ref b1), .val (.int (1 : Int32)), .val (.int (1 : Int32)), .val (.int (0 : Int32)), .val (.int (own_mx (own_mx (-1 : Int32) xx) yy))] [(.int (1 : Int32))])) t) => pre218 t (by
          refine XS.ifYes X180.here hx rfl (pc0 := 145) (pc' := 155) rfl (hb hby at_145) rfl ((if0 _ _).trans (teq hc219).1) (by decide) (by decide) ?_
          refine XS.iload X180.here hx rfl (hb hby at_155) rfl ?_
          refine XS.iconst X180.here hx rfl (hb hby at_157) ?_
          refine XS.icmpNo X180.here hx rfl (hb hby at_158) rfl (flt (by decide : ¬ ((2 : Int32) < (1 : Int32)))).1 ?_
          refine XS.iload X180.here hx rfl (hb hby at_161) rfl ?_
          refine XS.ifYes X180.here hx rfl (pc0 := 163) (pc' := 173) rfl (hb hby at_163) rfl ((if0 _ _).trans (teq hc219).1) (by decide) (by decide) ?_
          refine XS.iconst X180.here hx rfl (hb hby at_173) ?_
          refine XS.goto X180.here hx rfl (pc0 := 174) (pc' := 178) rfl (hb hby at_174) (by decide) (by decide) ?_
          refine XS.istore X180.here hx rfl (hb hby at_178) rfl (l' := #[.val (.int aa), .val (.int bb), .val (.int cc), .val (.int ff), .val (.int (2 : Int32)), .val (.int xx), .val (.int yy), .val (.int zz), .val (.int ss), .val (.int rr), .val (.ref b1), .val (.int (1 : Int32)), .unset, .unset, .unset]) rfl ?_
          refine XS.iload X180.here hx rfl (hb hby at_180) rfl ?_
          refine XS.iconst X180.here hx rfl (hb hby at_182) ?_
          refine XS.icmpNo X180.here hx rfl (hb hby at_183) rfl (flt (by decide : ¬ ((2 : Int32) < (2 : Int32)))).1 ?_
          refine XS.iload X180.here hx rfl (hb hby at_186) rfl ?_
          refine XS.ifYes X180.here hx rfl (pc0 := 188) (pc' := 198) rfl (hb hby at_188) rfl ((if0 _ _).trans (teq hc219).1) (by decide) (by decide) ?_
          refine XS.iconst X180.here hx rfl (hb hby at_198) ?_
          refine XS.goto X180.here hx rfl (pc0 := 199) (pc' := 203) rfl (hb hby at_199) (by decide) (by decide) ?_
          refine XS.istore X180.here hx rfl (hb hby at_203) rfl (l' := #[.val (.int aa), .val (.int bb), .val (.int cc), .val (.int ff), .val (.int (2 : Int32)), .val (.int xx), .val (.int yy), .val (.int zz), .val (.int ss), .val (.int rr), .val (.ref b1), .val (.int (1 : Int32)), .val (.int (1 : Int32)), .unset, .unset]) rfl ?_
          refine XS.iload X180.here hx rfl (hb hby at_205) rfl ?_
          refine XS.iconst X180.here hx rfl (hb hby at_207) ?_
          refine XS.icmpYes X180.here hx rfl (pc0 := 208) (pc' := 227) rfl (hb hby at_208) rfl (tlt (by decide : (2 : Int32) < (3 : Int32))).1 (by decide) (by decide) ?_
          refine XS.iconst X180.here hx rfl (hb hby at_227) ?_
          refine XS.istore X180.here hx rfl (hb hby at_228) rfl (l' := #[.val (.int aa), .val (.int bb), .val (.int cc), .val (.int ff), .val (.int (2 : Int32)), .val (.int xx), .val (.int yy), .val (.int zz), .val (.int ss), .val (.int rr), .val (.ref b1), .val (.int (1 : Int32)), .val (.int (1 : Int32)), .val (.int (0 : Int32)), .unset]) rfl ?_
          refine XS.iconst X180.here hx rfl (hb hby at_230) ?_
          refine XS.istore X180.here hx rfl (hb hby at_231) rfl (l' := #[.val (.int aa), .val (.int bb), .val (.int cc), .val (.int ff), .val (.int (2 : Int32)), .val (.int xx), .val (.int yy), .val (.int zz), .val (.int ss), .val (.int rr), .val (.ref b1), .val (.int (1 : Int32)), .val (.int (1 : Int32)), .val (.int (0 : Int32)), .val (.int (-1 : Int32))]) rfl ?_
          refine XS.iload X180.here hx rfl (hb hby at_233) rfl ?_
          refine XS.ifNo X180.here hx rfl (hb hby at_235) rfl ((if0 _ _).trans (feq (by decide : ¬ ((1 : Int32) = (0 : Int32)))).1) ?_
          refine XS.iload X180.here hx rfl (hb hby at_238) rfl ?_
          refine XS.iload X180.here hx rfl (hb hby at_240) rfl ?_
          refine st220 _ ?_
          refine XS.istore X220.here hx rfl (hb hby at_245) rfl (l' := #[.val (.int aa), .val (.int bb), .val (.int cc), .val (.int ff), .val (.int (2 : Int32)), .val (.int xx), .val (.int yy), .val (.int zz), .val (.int ss), .val (.int rr), .val (.ref b1), .val (.int (1 : Int32)), .val (.int (1 : Int32)), .val (.int (0 : Int32)), .val (.int (own_mx (-1 : Int32) xx))]) rfl ?_
          refine XS.iload X220.here hx rfl (hb hby at_247) rfl ?_
          refine XS.ifNo X220.here hx rfl (hb hby at_249) rfl ((if0 _ _).trans (feq (by decide : ¬ ((1 : Int32) = (0 : Int32)))).1) ?_
          refine XS.iload X220.here hx rfl (hb hby at_252) rfl ?_
          refine XS.iload X220.here hx rfl (hb hby at_254) rfl ?_
          refine st222 _ ?_
          refine XS.istore X222.here hx rfl (hb hby at_259) rfl (l' := #[.val (.int aa), .val (.int bb), .val (.int cc), .val (.int ff), .val (.int (2 : Int32)), .val (.int xx), .val (.int yy), .val (.int zz), .val (.int ss), .val (.int rr), .val (.ref b1), .val (.int (1 : Int32)), .val (.int (1 : Int32)), .val (.int (0 : Int32)), .val (.int (own_mx (own_mx (-1 : Int32) xx) yy))]) rfl ?_
          refine XS.iload X222.here hx rfl (hb hby at_261) rfl ?_
          refine XS.ifYes X222.here hx rfl (pc0 := 263) (pc' := 275) rfl (hb hby at_263) rfl ((if0 _ _).trans (teq (by decide : (0 : Int32) = (0 : Int32))).1) (by decide) (by decide) ?_
          refine XS.aload X222.here hx rfl (hb hby at_275) rfl rfl ?_
          refine st224.trans ?_
          refine XS.iload X224.here hx rfl (hb hby at_280) rfl ?_
          refine XS.icmpNo X224.here hx rfl (hb hby at_282) rfl (teq (own_top_uniq hpq227 (own_top_mx (own_top_mx own_top_e t95_1) t95_2))).2 ?_
          refine XS.iconst X224.here hx rfl (hb hby at_285) ?_
          refine XS.goto X224.here hx rfl (pc0 := 286) (pc' := 290) rfl (hb hby at_286) (by decide) (by decide) ?_
          exact k)
        obtain ⟨fs, hr, hrun, hended, hW, hsame⟩ := X224.leave (v := some (.int (1 : Int32))) (hlocks := BodyLoose.notSynchronized Bd) (fun h => by rw [Bd.returns] at h; cases h)
        refine ⟨_, _, pre228 _ ?_, hrun, hended, _, _, rfl, ?_, ⟨_, rfl⟩, hW, hsame.mono (by decide) (by decide)⟩
        · exact retN X224 hx (t := .boolean) Bd.returns (by simp) (hb hby at_290) hr
        · show Q_law Z aa bb cc ff ka wa kk kw h0 n0 _ T224.heap _
          rw [hq226]
          exact ⟨rfl, N224, K180⟩
      · obtain ⟨cq229, kq229, q229a, q229b, q229c⟩ := isOf hZ rfl E199
        obtain ⟨_, _, ⟨T229, L229, k229, n229⟩, -, X229, ⟨Lc229, hQ229, l229, y229, z229⟩, st229⟩ := X180.virtualBack hx (y := (⟨"org/tallyrole/core/Dependencies", "remove", "(I)V"⟩ : MethodName)) (z := (⟨"org/tallyrole/core/Dependencies", "remove", "(I)V"⟩ : MethodName)) hown (mvT hZ (own_w hw 75 rfl)) (mvT hZ (own_w hw 76 rfl)) (notFace_of_selects (args := #[]) (mvT hZ (own_w hw 78 rfl))) (mvT hZ (own_w hw 78 rfl)) (mvT hZ (own_w hw 77 rfl)) (by decide) (backOf (W := 0) (rm_rm l Z a0 hw [] b1 x181 x182 x183 x184 x185 x186 x187 x188 (own_ins (own_ins (fun _ => False) xx) yy) rr T180.heap n0 Zs211 E199 F200 F201 F202 F203 A204 A205 hpq197 ge_b1 hpq190 hpq191 hpq194 hpq195 hpq196) hZ (own_w hw 79 rfl) (own_w hw 3 rfl) (by decide) (by decide)) q229a q229c (g := (mkF m 152 #[.val (.int aa), .val (.int bb), .val (.int cc), .val (.int ff), .val (.int (2 : Int32)), .val (.int xx), .val (.int yy), .val (.int zz), .val (.int ss), .val (.int rr), .val (.ref b1), .unset, .unset, .unset, .unset] [(.int rr), (.ref b1)])) rfl (by rw [hml]; rfl) (Steps.refl _) (argsL := [(.int rr)]) (rest := []) (lenOf pd_7 rfl) rfl (by show 2 * 0 + _ ≤ _; exact Nat.le_of_eq rfl) (hb hby at_152) (fun _ _ => ⟨rfl, rfl, (by decide : 5 + 0 ≤ _), (by decide : 12 + 0 ≤ _)⟩)
        dsimp only [Pt.U, Pt.locs, Pt.cells, Pt.slots] at X229 l229 y229 z229 st229 hQ229
        subst l229 y229 z229
        obtain ⟨x230, x231, x232, x233, x234, x235, x236, x237, rfl, N229q, hq238, hpq239, hpq240, hpq241, hpq242, hpq243, hpq244, hpq245, hpq246, E247, F248, F249, F250, F251, A252, A253⟩ := hQ229
        have N229 := Fr.app N180 N229q
        have lt254 : b1 < T180.heap.size := E199.lt
        have lt255 : x181 < T180.heap.size := A204.lt
        have lt256 : x182 < T180.heap.size := A205.lt
        have S257 := own_sta_keep S209 hq238 (allS (own_ns_exa E199) (allS (own_ns_arv A204) (allS (own_ns_arv A205) all0)))
        have S258 := own_sta_keep S210 hq238 (allS (own_ns_exa E199) (allS (own_ns_arv A204) (allS (own_ns_arv A205) all0)))
        have K229 : Keep h0 T229.heap [] := K180.trans hq238 (allS (Or.inr sz_b1) (allS (Or.inr sz214) (allS (Or.inr sz217) all0)))
        have Zs259 : n0 ≤ T229.heap.size := (Nat.le_trans Zs211 hq238.1)
        have ne260 : b1 ≠ x230 := hpq241.elim (fun q => by rw [q]; exact hpq194) (fun q => Nat.ne_of_lt (Nat.lt_of_lt_of_le lt254 q))
        have ne261 : x182 ≠ x230 := hpq241.elim (fun q => by rw [q]; exact (Ne.symm hpq196)) (fun q => Nat.ne_of_lt (Nat.lt_of_lt_of_le lt256 q))
        have sz262 : h0.size ≤ x230 := hpq241.elim (fun q => by rw [q]; exact sz214) (fun q => Nat.le_trans K180.1 q)
        have ne263 : b1 ≠ x231 := hpq242.elim (fun q => by rw [q]; exact hpq195) (fun q => Nat.ne_of_lt (Nat.lt_of_lt_of_le lt254 q))
        have ne264 : x181 ≠ x231 := hpq242.elim (fun q => by rw [q]; exact hpq196) (fun q => Nat.ne_of_lt (Nat.lt_of_lt_of_le lt255 q))
        have sz265 : h0.size ≤ x231 := hpq242.elim (fun q => by rw [q]; exact sz217) (fun q => Nat.le_trans K180.1 q)
        have pre266 := fun (t : State) (k : Steps p.tables e below (T229.setTop (mkF m 170 #[.val (.int aa), .val (.int bb), .val (.int cc), .val (.int ff), .val (.int (2 : Int32)), .val (.int xx), .val (.int yy), .val (.int zz), .val (.int ss), .val (.int rr), .val (.ref b1), .unset, .unset, .unset, .unset] [(.int rr), (.int xx)])) t) => pre218 t (by
          refine XS.ifNo X180.here hx rfl (hb hby at_145) rfl ((if0 _ _).trans (feq hc219).1) ?_
          refine XS.aload X180.here hx rfl (hb hby at_148) rfl rfl ?_
          refine XS.iload X180.here hx rfl (hb hby at_150) rfl ?_
          refine st229.trans ?_
          refine XS.iload X229.here hx rfl (hb hby at_155) rfl ?_
          refine XS.iconst X229.here hx rfl (hb hby at_157) ?_
          refine XS.icmpNo X229.here hx rfl (hb hby at_158) rfl (flt (by decide : ¬ ((2 : Int32) < (1 : Int32)))).1 ?_
          refine XS.iload X229.here hx rfl (hb hby at_161) rfl ?_
          refine XS.ifNo X229.here hx rfl (hb hby at_163) rfl ((if0 _ _).trans (feq hc219).1) ?_
          refine XS.iload X229.here hx rfl (hb hby at_166) rfl ?_
          refine XS.iload X229.here hx rfl (hb hby at_168) rfl ?_
          exact k)
        by_cases hc267 : xx = rr
        · have pre268 := fun (t : State) (k : Steps p.tables e below (T229.setTop (mkF m 195 #[.val (.int aa), .val (.int bb), .val (.int cc), .val (.int ff), .val (.int (2 : Int32)), .val (.int xx), .val (.int yy), .val (.int zz), .val (.int ss), .val (.int rr), .val (.ref b1), .val (.int (0 : Int32)), .unset, .unset, .unset] [(.int rr), (.int yy)])) t) => pre266 t (by
            refine XS.icmpYes X229.here hx rfl (pc0 := 170) (pc' := 177) rfl (hb hby at_170) rfl (teq hc267).1 (by decide) (by decide) ?_
            refine XS.iconst X229.here hx rfl (hb hby at_177) ?_
            refine XS.istore X229.here hx rfl (hb hby at_178) rfl (l' := #[.val (.int aa), .val (.int bb), .val (.int cc), .val (.int ff), .val (.int (2 : Int32)), .val (.int xx), .val (.int yy), .val (.int zz), .val (.int ss), .val (.int rr), .val (.ref b1), .val (.int (0 : Int32)), .unset, .unset, .unset]) rfl ?_
            refine XS.iload X229.here hx rfl (hb hby at_180) rfl ?_
            refine XS.iconst X229.here hx rfl (hb hby at_182) ?_
            refine XS.icmpNo X229.here hx rfl (hb hby at_183) rfl (flt (by decide : ¬ ((2 : Int32) < (2 : Int32)))).1 ?_
            refine XS.iload X229.here hx rfl (hb hby at_186) rfl ?_
            refine XS.ifNo X229.here hx rfl (hb hby at_188) rfl ((if0 _ _).trans (feq hc219).1) ?_
            refine XS.iload X229.here hx rfl (hb hby at_191) rfl ?_
            refine XS.iload X229.here hx rfl (hb hby at_193) rfl ?_
            exact k)
          by_cases hc269 : yy = rr
          · obtain ⟨cq270, kq270, q270a, q270b, q270c⟩ := isOf hZ rfl E247
            obtain ⟨_, _, ⟨T270, L270, k270, n270⟩, -, X270, ⟨Lc270, hQ270, l270, y270, z270⟩, st270⟩ := X229.virtualBack hx (y := (⟨"org/tallyrole/core/Dependencies", "latest", "()I"⟩ : MethodName)) (z := (⟨"org/tallyrole/core/Dependencies", "latest", "()I"⟩ : MethodName)) hown (mvT hZ (own_w hw 61 rfl)) (mvT hZ (own_w hw 62 rfl)) (notFace_of_selects (args := #[]) (mvT hZ (own_w hw 64 rfl))) (mvT hZ (own_w hw 64 rfl)) (mvT hZ (own_w hw 63 rfl)) (by decide) (backOf (W := 0) (rm_lt l Z a0 hw [] b1 x230 x231 x232 x233 x234 x235 x236 x237 (own_del (own_ins (own_ins (fun _ => False) xx) yy) rr) (0 : Int32) T229.heap n0 Zs259 E247 F248 F249 F250 F251 A252 A253 (hpq246.elim (fun z => (Or.inr (Or.inl z))) (fun z => (z.elim (fun z => (Or.inr (Or.inr (Or.inl z)))) (fun z => (z.elim (fun z => (Or.inr (Or.inr (Or.inr (Or.inl z))))) (fun z => (z.elim (fun z => (Or.inr (Or.inr (Or.inr (Or.inr (Or.inl z)))))) (fun z => (Or.inr (Or.inr (Or.inr (Or.inr (Or.inr z)))))))))))))) hZ (own_w hw 65 rfl) (own_w hw 3 rfl) (by decide) (by decide)) q270a q270c (g := (mkF m 277 #[.val (.int aa), .val (.int bb), .val (.int cc), .val (.int ff), .val (.int (2 : Int32)), .val (.int xx), .val (.int yy), .val (.int zz), .val (.int ss), .val (.int rr), .val (.ref b1), .val (.int (0 : Int32)), .val (.int (0 : Int32)), .val (.int (0 : Int32)), .val (.int (-1 : Int32))] [(.ref b1)])) rfl (by rw [hml]; rfl) (Steps.refl _) (argsL := []) (rest := []) (lenOf pd_9 rfl) rfl (by show 2 * 0 + _ ≤ _; exact Nat.le_of_eq rfl) (hb hby at_277) (fun _ _ => ⟨rfl, rfl, (by decide : 5 + 0 ≤ _), (by decide : 12 + 0 ≤ _)⟩)
            dsimp only [Pt.U, Pt.locs, Pt.cells, Pt.slots] at X270 l270 y270 z270 st270 hQ270
            subst l270 y270 z270
            obtain ⟨x271, rfl, N270q, hq272, hpq273⟩ := hQ270
            have N270 := Fr.app N229 N270q
            have pre274 := fun (t : State) (k : Steps p.tables e below (T270.setTop (mkF m 290 #[.val (.int aa), .val (.int bb), .val (.int cc), .val (.int ff), .val (.int (2 : Int32)), .val (.int xx), .val (.int yy), .val (.int zz), .val (.int ss), .val (.int rr), .val (.ref b1), .val (.int (0 : Int32)), .val (.int (0 : Int32)), .val (.int (0 : Int32)), .val (.int (-1 : Int32))] [(.int (1 : Int32))])) t) => pre268 t (by
              refine XS.icmpYes X229.here hx rfl (pc0 := 195) (pc' := 202) rfl (hb hby at_195) rfl (teq hc269).1 (by decide) (by decide) ?_
              refine XS.iconst X229.here hx rfl (hb hby at_202) ?_
              refine XS.istore X229.here hx rfl (hb hby at_203) rfl (l' := #[.val (.int aa), .val (.int bb), .val (.int cc), .val (.int ff), .val (.int (2 : Int32)), .val (.int xx), .val (.int yy), .val (.int zz), .val (.int ss), .val (.int rr), .val (.ref b1), .val (.int (0 : Int32)), .val (.int (0 : Int32)), .unset, .unset]) rfl ?_
              refine XS.iload X229.here hx rfl (hb hby at_205) rfl ?_
              refine XS.iconst X229.here hx rfl (hb hby at_207) ?_
              refine XS.icmpYes X229.here hx rfl (pc0 := 208) (pc' := 227) rfl (hb hby at_208) rfl (tlt (by decide : (2 : Int32) < (3 : Int32))).1 (by decide) (by decide) ?_
              refine XS.iconst X229.here hx rfl (hb hby at_227) ?_
              refine XS.istore X229.here hx rfl (hb hby at_228) rfl (l' := #[.val (.int aa), .val (.int bb), .val (.int cc), .val (.int ff), .val (.int (2 : Int32)), .val (.int xx), .val (.int yy), .val (.int zz), .val (.int ss), .val (.int rr), .val (.ref b1), .val (.int (0 : Int32)), .val (.int (0 : Int32)), .val (.int (0 : Int32)), .unset]) rfl ?_
              refine XS.iconst X229.here hx rfl (hb hby at_230) ?_
              refine XS.istore X229.here hx rfl (hb hby at_231) rfl (l' := #[.val (.int aa), .val (.int bb), .val (.int cc), .val (.int ff), .val (.int (2 : Int32)), .val (.int xx), .val (.int yy), .val (.int zz), .val (.int ss), .val (.int rr), .val (.ref b1), .val (.int (0 : Int32)), .val (.int (0 : Int32)), .val (.int (0 : Int32)), .val (.int (-1 : Int32))]) rfl ?_
              refine XS.iload X229.here hx rfl (hb hby at_233) rfl ?_
              refine XS.ifYes X229.here hx rfl (pc0 := 235) (pc' := 247) rfl (hb hby at_235) rfl ((if0 _ _).trans (teq (by decide : (0 : Int32) = (0 : Int32))).1) (by decide) (by decide) ?_
              refine XS.iload X229.here hx rfl (hb hby at_247) rfl ?_
              refine XS.ifYes X229.here hx rfl (pc0 := 249) (pc' := 261) rfl (hb hby at_249) rfl ((if0 _ _).trans (teq (by decide : (0 : Int32) = (0 : Int32))).1) (by decide) (by decide) ?_
              refine XS.iload X229.here hx rfl (hb hby at_261) rfl ?_
              refine XS.ifYes X229.here hx rfl (pc0 := 263) (pc' := 275) rfl (hb hby at_263) rfl ((if0 _ _).trans (teq (by decide : (0 : Int32) = (0 : Int32))).1) (by decide) (by decide) ?_
              refine XS.aload X229.here hx rfl (hb hby at_275) rfl rfl ?_
              refine st270.trans ?_
              refine XS.iload X270.here hx rfl (hb hby at_280) rfl ?_
              refine XS.icmpNo X270.here hx rfl (hb hby at_282) rfl (teq (own_top_uniq hpq273 (own_top_congr own_top_e (own_c00 hc267 hc269)))).2 ?_
              refine XS.iconst X270.here hx rfl (hb hby at_285) ?_
              refine XS.goto X270.here hx rfl (pc0 := 286) (pc' := 290) rfl (hb hby at_286) (by decide) (by decide) ?_
              exact k)
            obtain ⟨fs, hr, hrun, hended, hW, hsame⟩ := X270.leave (v := some (.int (1 : Int32))) (hlocks := BodyLoose.notSynchronized Bd) (fun h => by rw [Bd.returns] at h; cases h)
            refine ⟨_, _, pre274 _ ?_, hrun, hended, _, _, rfl, ?_, ⟨_, rfl⟩, hW, hsame.mono (by decide) (by decide)⟩
            · exact retN X270 hx (t := .boolean) Bd.returns (by simp) (hb hby at_290) hr
            · show Q_law Z aa bb cc ff ka wa kk kw h0 n0 _ T270.heap _
              rw [hq272]
              exact ⟨rfl, N270, K229⟩
          · obtain ⟨_, _, ⟨T275, L275, k275, n275⟩, -, X275, ⟨Lc275, hQ275, l275, y275, z275⟩, st275⟩ := Jvm.LawKit.callS X229 hx (y := (⟨"java/lang/Math", "max", "(II)I"⟩ : MethodName)) hown (mvT hZ (own_w hw 58 rfl)) (mvT hZ (own_w hw 59 rfl)) (mvT hZ (own_w hw 47 rfl)) (mvT hZ (own_w hw 60 rfl)) (by decide) (backOf (W := 0) (rm_mx l Z a0 hw [] (-1 : Int32) yy T229.heap n0 Zs259 ) hZ (own_w hw 60 rfl) (own_w hw 47 rfl) (by decide) (by decide)) (g := (mkF m 256 #[.val (.int aa), .val (.int bb), .val (.int cc), .val (.int ff), .val (.int (2 : Int32)), .val (.int xx), .val (.int yy), .val (.int zz), .val (.int ss), .val (.int rr), .val (.ref b1), .val (.int (0 : Int32)), .val (.int (1 : Int32)), .val (.int (0 : Int32)), .val (.int (-1 : Int32))] [(.int yy), (.int (-1 : Int32))])) rfl (by rw [hml]; rfl) (argsL := [(.int (-1 : Int32)), (.int yy)]) (rest := []) (lenOf pd_2 rfl) rfl (by show 2 * 0 + _ ≤ _; exact Nat.le_of_eq rfl) (hb hby at_256) (fun _ _ => ⟨rfl, rfl, (by decide : 5 + 0 ≤ _), (by decide : 12 + 0 ≤ _)⟩)
            dsimp only [Pt.U, Pt.locs, Pt.cells, Pt.slots] at X275 l275 y275 z275 st275 hQ275
            subst l275 y275 z275
            obtain ⟨rfl, N275q, hq276⟩ := hQ275
            have N275 := Fr.app N229 N275q
            obtain ⟨cq277, kq277, q277a, q277b, q277c⟩ := isOf hZ hq276 E247
            obtain ⟨_, _, ⟨T277, L277, k277, n277⟩, -, X277, ⟨Lc277, hQ277, l277, y277, z277⟩, st277⟩ := X275.virtualBack hx (y := (⟨"org/tallyrole/core/Dependencies", "latest", "()I"⟩ : MethodName)) (z := (⟨"org/tallyrole/core/Dependencies", "latest", "()I"⟩ : MethodName)) hown (mvT hZ (own_w hw 61 rfl)) (mvT hZ (own_w hw 62 rfl)) (notFace_of_selects (args := #[]) (mvT hZ (own_w hw 64 rfl))) (mvT hZ (own_w hw 64 rfl)) (mvT hZ (own_w hw 63 rfl)) (by decide) (backOf (W := 0) (rm_lt l Z a0 hw [] b1 x230 x231 x232 x233 x234 x235 x236 x237 (own_del (own_ins (own_ins (fun _ => False) xx) yy) rr) (0 : Int32) T229.heap n0 Zs259 E247 F248 F249 F250 F251 A252 A253 (hpq246.elim (fun z => (Or.inr (Or.inl z))) (fun z => (z.elim (fun z => (Or.inr (Or.inr (Or.inl z)))) (fun z => (z.elim (fun z => (Or.inr (Or.inr (Or.inr (Or.inl z))))) (fun z => (z.elim (fun z => (Or.inr (Or.inr (Or.inr (Or.inr (Or.inl z)))))) (fun z => (Or.inr (Or.inr (Or.inr (Or.inr (Or.inr z)))))))))))))) hZ (own_w hw 65 rfl) (own_w hw 3 rfl) (by decide) (by decide)) q277a q277c (g := (mkF m 277 #[.val (.int aa), .val (.int bb), .val (.int cc), .val (.int ff), .val (.int (2 : Int32)), .val (.int xx), .val (.int yy), .val (.int zz), .val (.int ss), .val (.int rr), .val (.ref b1), .val (.int (0 : Int32)), .val (.int (1 : Int32)), .val (.int (0 : Int32)), .val (.int (own_mx (-1 : Int32) yy))] [(.ref b1)])) rfl (by rw [hml]; rfl) (Steps.refl _) (argsL := []) (rest := []) (lenOf pd_9 rfl) rfl (by show 2 * 0 + _ ≤ _; exact Nat.le_of_eq rfl) (hb hby at_277) (fun _ _ => ⟨rfl, hq276, (by decide : 5 + 0 ≤ _), (by decide : 12 + 0 ≤ _)⟩)
            dsimp only [Pt.U, Pt.locs, Pt.cells, Pt.slots] at X277 l277 y277 z277 st277 hQ277
            subst l277 y277 z277
            obtain ⟨x278, rfl, N277q, hq279, hpq280⟩ := hQ277
            have N277 := Fr.app N275 N277q
            have pre281 := fun (t : State) (k : Steps p.tables e below (T277.setTop (mkF m 290 #[.val (.int aa), .val (.int bb), .val (.int cc), .val (.int ff), .val (.int (2 : Int32)), .val (.int xx), .val (.int yy), .val (.int zz), .val (.int ss), .val (.int rr), .val (.ref b1), .val (.int (0 : Int32)), .val (.int (1 : Int32)), .val (.int (0 : Int32)), .val (.int (own_mx (-1 : Int32) yy))] [(.int (1 : Int32))])) t) => pre268 t (by
              refine XS.icmpNo X229.here hx rfl (hb hby at_195) rfl (feq hc269).1 ?_
              refine XS.iconst X229.here hx rfl (hb hby at_198) ?_
              refine XS.goto X229.here hx rfl (pc0 := 199) (pc' := 203) rfl (hb hby at_199) (by decide) (by decide) ?_
              refine XS.istore X229.here hx rfl (hb hby at_203) rfl (l' := #[.val (.int aa), .val (.int bb), .val (.int cc), .val (.int ff), .val (.int (2 : Int32)), .val (.int xx), .val (.int yy), .val (.int zz), .val (.int ss), .val (.int rr), .val (.ref b1), .val (.int (0 : Int32)), .val (.int (1 : Int32)), .unset, .unset]) rfl ?_
              refine XS.iload X229.here hx rfl (hb hby at_205) rfl ?_
              refine XS.iconst X229.here hx rfl (hb hby at_207) ?_
              refine XS.icmpYes X229.here hx rfl (pc0 := 208) (pc' := 227) rfl (hb hby at_208) rfl (tlt (by decide : (2 : Int32) < (3 : Int32))).1 (by decide) (by decide) ?_
              refine XS.iconst X229.here hx rfl (hb hby at_227) ?_
              refine XS.istore X229.here hx rfl (hb hby at_228) rfl (l' := #[.val (.int aa), .val (.int bb), .val (.int cc), .val (.int ff), .val (.int (2 : Int32)), .val (.int xx), .val (.int yy), .val (.int zz), .val (.int ss), .val (.int rr), .val (.ref b1), .val (.int (0 : Int32)), .val (.int (1 : Int32)), .val (.int (0 : Int32)), .unset]) rfl ?_
              refine XS.iconst X229.here hx rfl (hb hby at_230) ?_
              refine XS.istore X229.here hx rfl (hb hby at_231) rfl (l' := #[.val (.int aa), .val (.int bb), .val (.int cc), .val (.int ff), .val (.int (2 : Int32)), .val (.int xx), .val (.int yy), .val (.int zz), .val (.int ss), .val (.int rr), .val (.ref b1), .val (.int (0 : Int32)), .val (.int (1 : Int32)), .val (.int (0 : Int32)), .val (.int (-1 : Int32))]) rfl ?_
              refine XS.iload X229.here hx rfl (hb hby at_233) rfl ?_
              refine XS.ifYes X229.here hx rfl (pc0 := 235) (pc' := 247) rfl (hb hby at_235) rfl ((if0 _ _).trans (teq (by decide : (0 : Int32) = (0 : Int32))).1) (by decide) (by decide) ?_
              refine XS.iload X229.here hx rfl (hb hby at_247) rfl ?_
              refine XS.ifNo X229.here hx rfl (hb hby at_249) rfl ((if0 _ _).trans (feq (by decide : ¬ ((1 : Int32) = (0 : Int32)))).1) ?_
              refine XS.iload X229.here hx rfl (hb hby at_252) rfl ?_
              refine XS.iload X229.here hx rfl (hb hby at_254) rfl ?_
              refine st275 _ ?_
              refine XS.istore X275.here hx rfl (hb hby at_259) rfl (l' := #[.val (.int aa), .val (.int bb), .val (.int cc), .val (.int ff), .val (.int (2 : Int32)), .val (.int xx), .val (.int yy), .val (.int zz), .val (.int ss), .val (.int rr), .val (.ref b1), .val (.int (0 : Int32)), .val (.int (1 : Int32)), .val (.int (0 : Int32)), .val (.int (own_mx (-1 : Int32) yy))]) rfl ?_
              refine XS.iload X275.here hx rfl (hb hby at_261) rfl ?_
              refine XS.ifYes X275.here hx rfl (pc0 := 263) (pc' := 275) rfl (hb hby at_263) rfl ((if0 _ _).trans (teq (by decide : (0 : Int32) = (0 : Int32))).1) (by decide) (by decide) ?_
              refine XS.aload X275.here hx rfl (hb hby at_275) rfl rfl ?_
              refine st277.trans ?_
              refine XS.iload X277.here hx rfl (hb hby at_280) rfl ?_
              refine XS.icmpNo X277.here hx rfl (hb hby at_282) rfl (teq (own_top_uniq hpq280 (own_top_congr (own_top_mx own_top_e t95_2) (own_c01 hc267 hc269)))).2 ?_
              refine XS.iconst X277.here hx rfl (hb hby at_285) ?_
              refine XS.goto X277.here hx rfl (pc0 := 286) (pc' := 290) rfl (hb hby at_286) (by decide) (by decide) ?_
              exact k)
            obtain ⟨fs, hr, hrun, hended, hW, hsame⟩ := X277.leave (v := some (.int (1 : Int32))) (hlocks := BodyLoose.notSynchronized Bd) (fun h => by rw [Bd.returns] at h; cases h)
            refine ⟨_, _, pre281 _ ?_, hrun, hended, _, _, rfl, ?_, ⟨_, rfl⟩, hW, hsame.mono (by decide) (by decide)⟩
            · exact retN X277 hx (t := .boolean) Bd.returns (by simp) (hb hby at_290) hr
            · show Q_law Z aa bb cc ff ka wa kk kw h0 n0 _ T277.heap _
              rw [hq279]
              exact ⟨rfl, N277, K229⟩
        · have pre282 := fun (t : State) (k : Steps p.tables e below (T229.setTop (mkF m 195 #[.val (.int aa), .val (.int bb), .val (.int cc), .val (.int ff), .val (.int (2 : Int32)), .val (.int xx), .val (.int yy), .val (.int zz), .val (.int ss), .val (.int rr), .val (.ref b1), .val (.int (1 : Int32)), .unset, .unset, .unset] [(.int rr), (.int yy)])) t) => pre266 t (by
            refine XS.icmpNo X229.here hx rfl (hb hby at_170) rfl (feq hc267).1 ?_
            refine XS.iconst X229.here hx rfl (hb hby at_173) ?_
            refine XS.goto X229.here hx rfl (pc0 := 174) (pc' := 178) rfl (hb hby at_174) (by decide) (by decide) ?_
            refine XS.istore X229.here hx rfl (hb hby at_178) rfl (l' := #[.val (.int aa), .val (.int bb), .val (.int cc), .val (.int ff), .val (.int (2 : Int32)), .val (.int xx), .val (.int yy), .val (.int zz), .val (.int ss), .val (.int rr), .val (.ref b1), .val (.int (1 : Int32)), .unset, .unset, .unset]) rfl ?_
            refine XS.iload X229.here hx rfl (hb hby at_180) rfl ?_
            refine XS.iconst X229.here hx rfl (hb hby at_182) ?_
            refine XS.icmpNo X229.here hx rfl (hb hby at_183) rfl (flt (by decide : ¬ ((2 : Int32) < (2 : Int32)))).1 ?_
            refine XS.iload X229.here hx rfl (hb hby at_186) rfl ?_
            refine XS.ifNo X229.here hx rfl (hb hby at_188) rfl ((if0 _ _).trans (feq hc219).1) ?_
            refine XS.iload X229.here hx rfl (hb hby at_191) rfl ?_
            refine XS.iload X229.here hx rfl (hb hby at_193) rfl ?_
            exact k)
          by_cases hc283 : yy = rr
          · obtain ⟨_, _, ⟨T284, L284, k284, n284⟩, -, X284, ⟨Lc284, hQ284, l284, y284, z284⟩, st284⟩ := Jvm.LawKit.callS X229 hx (y := (⟨"java/lang/Math", "max", "(II)I"⟩ : MethodName)) hown (mvT hZ (own_w hw 58 rfl)) (mvT hZ (own_w hw 59 rfl)) (mvT hZ (own_w hw 47 rfl)) (mvT hZ (own_w hw 60 rfl)) (by decide) (backOf (W := 0) (rm_mx l Z a0 hw [] (-1 : Int32) xx T229.heap n0 Zs259 ) hZ (own_w hw 60 rfl) (own_w hw 47 rfl) (by decide) (by decide)) (g := (mkF m 242 #[.val (.int aa), .val (.int bb), .val (.int cc), .val (.int ff), .val (.int (2 : Int32)), .val (.int xx), .val (.int yy), .val (.int zz), .val (.int ss), .val (.int rr), .val (.ref b1), .val (.int (1 : Int32)), .val (.int (0 : Int32)), .val (.int (0 : Int32)), .val (.int (-1 : Int32))] [(.int xx), (.int (-1 : Int32))])) rfl (by rw [hml]; rfl) (argsL := [(.int (-1 : Int32)), (.int xx)]) (rest := []) (lenOf pd_2 rfl) rfl (by show 2 * 0 + _ ≤ _; exact Nat.le_of_eq rfl) (hb hby at_242) (fun _ _ => ⟨rfl, rfl, (by decide : 5 + 0 ≤ _), (by decide : 12 + 0 ≤ _)⟩)
            dsimp only [Pt.U, Pt.locs, Pt.cells, Pt.slots] at X284 l284 y284 z284 st284 hQ284
            subst l284 y284 z284
            obtain ⟨rfl, N284q, hq285⟩ := hQ284
            have N284 := Fr.app N229 N284q
            obtain ⟨cq286, kq286, q286a, q286b, q286c⟩ := isOf hZ hq285 E247
            obtain ⟨_, _, ⟨T286, L286, k286, n286⟩, -, X286, ⟨Lc286, hQ286, l286, y286, z286⟩, st286⟩ := X284.virtualBack hx (y := (⟨"org/tallyrole/core/Dependencies", "latest", "()I"⟩ : MethodName)) (z := (⟨"org/tallyrole/core/Dependencies", "latest", "()I"⟩ : MethodName)) hown (mvT hZ (own_w hw 61 rfl)) (mvT hZ (own_w hw 62 rfl)) (notFace_of_selects (args := #[]) (mvT hZ (own_w hw 64 rfl))) (mvT hZ (own_w hw 64 rfl)) (mvT hZ (own_w hw 63 rfl)) (by decide) (backOf (W := 0) (rm_lt l Z a0 hw [] b1 x230 x231 x232 x233 x234 x235 x236 x237 (own_del (own_ins (own_ins (fun _ => False) xx) yy) rr) (0 : Int32) T229.heap n0 Zs259 E247 F248 F249 F250 F251 A252 A253 (hpq246.elim (fun z => (Or.inr (Or.inl z))) (fun z => (z.elim (fun z => (Or.inr (Or.inr (Or.inl z)))) (fun z => (z.elim (fun z => (Or.inr (Or.inr (Or.inr (Or.inl z))))) (fun z => (z.elim (fun z => (Or.inr (Or.inr (Or.inr (Or.inr (Or.inl z)))))) (fun z => (Or.inr (Or.inr (Or.inr (Or.inr (Or.inr z)))))))))))))) hZ (own_w hw 65 rfl) (own_w hw 3 rfl) (by decide) (by decide)) q286a q286c (g := (mkF m 277 #[.val (.int aa), .val (.int bb), .val (.int cc), .val (.int ff), .val (.int (2 : Int32)), .val (.int xx), .val (.int yy), .val (.int zz), .val (.int ss), .val (.int rr), .val (.ref b1), .val (.int (1 : Int32)), .val (.int (0 : Int32)), .val (.int (0 : Int32)), .val (.int (own_mx (-1 : Int32) xx))] [(.ref b1)])) rfl (by rw [hml]; rfl) (Steps.refl _) (argsL := []) (rest := []) (lenOf pd_9 rfl) rfl (by show 2 * 0 + _ ≤ _; exact Nat.le_of_eq rfl) (hb hby at_277) (fun _ _ => ⟨rfl, hq285, (by decide : 5 + 0 ≤ _), (by decide : 12 + 0 ≤ _)⟩)
            dsimp only [Pt.U, Pt.locs, Pt.cells, Pt.slots] at X286 l286 y286 z286 st286 hQ286
            subst l286 y286 z286
            obtain ⟨x287, rfl, N286q, hq288, hpq289⟩ := hQ286
            have N286 := Fr.app N284 N286q
            have pre290 := fun (t : State) (k : Steps p.tables e below (T286.setTop (mkF m 290 #[.val (.int aa), .val (.int bb), .val (.int cc), .val (.int ff), .val (.int (2 : Int32)), .val (.int xx), .val (.int yy), .val (.int zz), .val (.int ss), .val (.int rr), .val (.ref b1), .val (.int (1 : Int32)), .val (.int (0 : Int32)), .val (.int (0 : Int32)), .val (.int (own_mx (-1 : Int32) xx))] [(.int (1 : Int32))])) t) => pre282 t (by
              refine XS.icmpYes X229.here hx rfl (pc0 := 195) (pc' := 202) rfl (hb hby at_195) rfl (teq hc283).1 (by decide) (by decide) ?_
              refine XS.iconst X229.here hx rfl (hb hby at_202) ?_
              refine XS.istore X229.here hx rfl (hb hby at_203) rfl (l' := #[.val (.int aa), .val (.int bb), .val (.int cc), .val (.int ff), .val (.int (2 : Int32)), .val (.int xx), .val (.int yy), .val (.int zz), .val (.int ss), .val (.int rr), .val (.ref b1), .val (.int (1 : Int32)), .val (.int (0 : Int32)), .unset, .unset]) rfl ?_
              refine XS.iload X229.here hx rfl (hb hby at_205) rfl ?_
              refine XS.iconst X229.here hx rfl (hb hby at_207) ?_
              refine XS.icmpYes X229.here hx rfl (pc0 := 208) (pc' := 227) rfl (hb hby at_208) rfl (tlt (by decide : (2 : Int32) < (3 : Int32))).1 (by decide) (by decide) ?_
              refine XS.iconst X229.here hx rfl (hb hby at_227) ?_
              refine XS.istore X229.here hx rfl (hb hby at_228) rfl (l' := #[.val (.int aa), .val (.int bb), .val (.int cc), .val (.int ff), .val (.int (2 : Int32)), .val (.int xx), .val (.int yy), .val (.int zz), .val (.int ss), .val (.int rr), .val (.ref b1), .val (.int (1 : Int32)), .val (.int (0 : Int32)), .val (.int (0 : Int32)), .unset]) rfl ?_
              refine XS.iconst X229.here hx rfl (hb hby at_230) ?_
              refine XS.istore X229.here hx rfl (hb hby at_231) rfl (l' := #[.val (.int aa), .val (.int bb), .val (.int cc), .val (.int ff), .val (.int (2 : Int32)), .val (.int xx), .val (.int yy), .val (.int zz), .val (.int ss), .val (.int rr), .val (.ref b1), .val (.int (1 : Int32)), .val (.int (0 : Int32)), .val (.int (0 : Int32)), .val (.int (-1 : Int32))]) rfl ?_
              refine XS.iload X229.here hx rfl (hb hby at_233) rfl ?_
              refine XS.ifNo X229.here hx rfl (hb hby at_235) rfl ((if0 _ _).trans (feq (by decide : ¬ ((1 : Int32) = (0 : Int32)))).1) ?_
              refine XS.iload X229.here hx rfl (hb hby at_238) rfl ?_
              refine XS.iload X229.here hx rfl (hb hby at_240) rfl ?_
              refine st284 _ ?_
              refine XS.istore X284.here hx rfl (hb hby at_245) rfl (l' := #[.val (.int aa), .val (.int bb), .val (.int cc), .val (.int ff), .val (.int (2 : Int32)), .val (.int xx), .val (.int yy), .val (.int zz), .val (.int ss), .val (.int rr), .val (.ref b1), .val (.int (1 : Int32)), .val (.int (0 : Int32)), .val (.int (0 : Int32)), .val (.int (own_mx (-1 : Int32) xx))]) rfl ?_
              refine XS.iload X284.here hx rfl (hb hby at_247) rfl ?_
              refine XS.ifYes X284.here hx rfl (pc0 := 249) (pc' := 261) rfl (hb hby at_249) rfl ((if0 _ _).trans (teq (by decide : (0 : Int32) = (0 : Int32))).1) (by decide) (by decide) ?_
              refine XS.iload X284.here hx rfl (hb hby at_261) rfl ?_
              refine XS.ifYes X284.here hx rfl (pc0 := 263) (pc' := 275) rfl (hb hby at_263) rfl ((if0 _ _).trans (teq (by decide : (0 : Int32) = (0 : Int32))).1) (by decide) (by decide) ?_
              refine XS.aload X284.here hx rfl (hb hby at_275) rfl rfl ?_
              refine st286.trans ?_
              refine XS.iload X286.here hx rfl (hb hby at_280) rfl ?_
              refine XS.icmpNo X286.here hx rfl (hb hby at_282) rfl (teq (own_top_uniq hpq289 (own_top_congr (own_top_mx own_top_e t95_1) (own_c10 hc267 hc283)))).2 ?_
              refine XS.iconst X286.here hx rfl (hb hby at_285) ?_
              refine XS.goto X286.here hx rfl (pc0 := 286) (pc' := 290) rfl (hb hby at_286) (by decide) (by decide) ?_
              exact k)
            obtain ⟨fs, hr, hrun, hended, hW, hsame⟩ := X286.leave (v := some (.int (1 : Int32))) (hlocks := BodyLoose.notSynchronized Bd) (fun h => by rw [Bd.returns] at h; cases h)
            refine ⟨_, _, pre290 _ ?_, hrun, hended, _, _, rfl, ?_, ⟨_, rfl⟩, hW, hsame.mono (by decide) (by decide)⟩
            · exact retN X286 hx (t := .boolean) Bd.returns (by simp) (hb hby at_290) hr
            · show Q_law Z aa bb cc ff ka wa kk kw h0 n0 _ T286.heap _
              rw [hq288]
              exact ⟨rfl, N286, K229⟩
          · obtain ⟨_, _, ⟨T291, L291, k291, n291⟩, -, X291, ⟨Lc291, hQ291, l291, y291, z291⟩, st291⟩ := Jvm.LawKit.callS X229 hx (y := (⟨"java/lang/Math", "max", "(II)I"⟩ : MethodName)) hown (mvT hZ (own_w hw 58 rfl)) (mvT hZ (own_w hw 59 rfl)) (mvT hZ (own_w hw 47 rfl)) (mvT hZ (own_w hw 60 rfl)) (by decide) (backOf (W := 0) (rm_mx l Z a0 hw [] (-1 : Int32) xx T229.heap n0 Zs259 ) hZ (own_w hw 60 rfl) (own_w hw 47 rfl) (by decide) (by decide)) (g := (mkF m 242 #[.val (.int aa), .val (.int bb), .val (.int cc), .val (.int ff), .val (.int (2 : Int32)), .val (.int xx), .val (.int yy), .val (.int zz), .val (.int ss), .val (.int rr), .val (.ref b1), .val (.int (1 : Int32)), .val (.int (1 : Int32)), .val (.int (0 : Int32)), .val (.int (-1 : Int32))] [(.int xx), (.int (-1 : Int32))])) rfl (by rw [hml]; rfl) (argsL := [(.int (-1 : Int32)), (.int xx)]) (rest := []) (lenOf pd_2 rfl) rfl (by show 2 * 0 + _ ≤ _; exact Nat.le_of_eq rfl) (hb hby at_242) (fun _ _ => ⟨rfl, rfl, (by decide : 5 + 0 ≤ _), (by decide : 12 + 0 ≤ _)⟩)
            dsimp only [Pt.U, Pt.locs, Pt.cells, Pt.slots] at X291 l291 y291 z291 st291 hQ291
            subst l291 y291 z291
            obtain ⟨rfl, N291q, hq292⟩ := hQ291
            have N291 := Fr.app N229 N291q
            obtain ⟨_, _, ⟨T293, L293, k293, n293⟩, -, X293, ⟨Lc293, hQ293, l293, y293, z293⟩, st293⟩ := Jvm.LawKit.callS X291 hx (y := (⟨"java/lang/Math", "max", "(II)I"⟩ : MethodName)) hown (mvT hZ (own_w hw 58 rfl)) (mvT hZ (own_w hw 59 rfl)) (mvT hZ (own_w hw 47 rfl)) (mvT hZ (own_w hw 60 rfl)) (by decide) (backOf (W := 0) (rm_mx l Z a0 hw [] (own_mx (-1 : Int32) xx) yy T229.heap n0 Zs259 ) hZ (own_w hw 60 rfl) (own_w hw 47 rfl) (by decide) (by decide)) (g := (mkF m 256 #[.val (.int aa), .val (.int bb), .val (.int cc), .val (.int ff), .val (.int (2 : Int32)), .val (.int xx), .val (.int yy), .val (.int zz), .val (.int ss), .val (.int rr), .val (.ref b1), .val (.int (1 : Int32)), .val (.int (1 : Int32)), .val (.int (0 : Int32)), .val (.int (own_mx (-1 : Int32) xx))] [(.int yy), (.int (own_mx (-1 : Int32) xx))])) rfl (by rw [hml]; rfl) (argsL := [(.int (own_mx (-1 : Int32) xx)), (.int yy)]) (rest := []) (lenOf pd_2 rfl) rfl (by show 2 * 0 + _ ≤ _; exact Nat.le_of_eq rfl) (hb hby at_256) (fun _ _ => ⟨rfl, hq292, (by decide : 5 + 0 ≤ _), (by decide : 12 + 0 ≤ _)⟩)
            dsimp only [Pt.U, Pt.locs, Pt.cells, Pt.slots] at X293 l293 y293 z293 st293 hQ293
            subst l293 y293 z293
            obtain ⟨rfl, N293q, hq294⟩ := hQ293
            have N293 := Fr.app N291 N293q
            obtain ⟨cq295, kq295, q295a, q295b, q295c⟩ := isOf hZ hq294 E247
            obtain ⟨_, _, ⟨T295, L295, k295, n295⟩, -, X295, ⟨Lc295, hQ295, l295, y295, z295⟩, st295⟩ := X293.virtualBack hx (y := (⟨"org/tallyrole/core/Dependencies", "latest", "()I"⟩ : MethodName)) (z := (⟨"org/tallyrole/core/Dependencies", "latest", "()I"⟩ : MethodName)) hown (mvT hZ (own_w hw 61 rfl)) (mvT hZ (own_w hw 62 rfl)) (notFace_of_selects (args := #[]) (mvT hZ (own_w hw 64 rfl))) (mvT hZ (own_w hw 64 rfl)) (mvT hZ (own_w hw 63 rfl)) (by decide) (backOf (W := 0) (rm_lt l Z a0 hw [] b1 x230 x231 x232 x233 x234 x235 x236 x237 (own_del (own_ins (own_ins (fun _ => False) xx) yy) rr) (0 : Int32) T229.heap n0 Zs259 E247 F248 F249 F250 F251 A252 A253 (hpq246.elim (fun z => (Or.inr (Or.inl z))) (fun z => (z.elim (fun z => (Or.inr (Or.inr (Or.inl z)))) (fun z => (z.elim (fun z => (Or.inr (Or.inr (Or.inr (Or.inl z))))) (fun z => (z.elim (fun z => (Or.inr (Or.inr (Or.inr (Or.inr (Or.inl z)))))) (fun z => (Or.inr (Or.inr (Or.inr (Or.inr (Or.inr z)))))))))))))) hZ (own_w hw 65 rfl) (own_w hw 3 rfl) (by decide) (by decide)) q295a q295c (g := (mkF m 277 #[.val (.int aa), .val (.int bb), .val (.int cc), .val (.int ff), .val (.int (2 : Int32)), .val (.int xx), .val (.int yy), .val (.int zz), .val (.int ss), .val (.int rr), .val (.ref b1), .val (.int (1 : Int32)), .val (.int (1 : Int32)), .val (.int (0 : Int32)), .val (.int (own_mx (own_mx (-1 : Int32) xx) yy))] [(.ref b1)])) rfl (by rw [hml]; rfl) (Steps.refl _) (argsL := []) (rest := []) (lenOf pd_9 rfl) rfl (by show 2 * 0 + _ ≤ _; exact Nat.le_of_eq rfl) (hb hby at_277) (fun _ _ => ⟨rfl, hq294, (by decide : 5 + 0 ≤ _), (by decide : 12 + 0 ≤ _)⟩)
            dsimp only [Pt.U, Pt.locs, Pt.cells, Pt.slots] at X295 l295 y295 z295 st295 hQ295
            subst l295 y295 z295
            obtain ⟨x296, rfl, N295q, hq297, hpq298⟩ := hQ295
            have N295 := Fr.app N293 N295q
            have pre299 := fun (t : State) (k : Steps p.tables e below (T295.setTop (mkF m 290 #[.val (.int aa), .val (.int bb), .val (.int cc), .val (.int ff), .val (.int (2 : Int32)), .val (.int xx), .val (.int yy), .val (.int zz), .val (.int ss), .val (.int rr), .val (.ref b1), .val (.int (1 : Int32)), .val (.int (1 : Int32)), .val (.int (0 : Int32)), .val (.int (own_mx (own_mx (-1 : Int32) xx) yy))] [(.int (1 : Int32))])) t) => pre282 t (by
              refine XS.icmpNo X229.here hx rfl (hb hby at_195) rfl (feq hc283).1 ?_
              refine XS.iconst X229.here hx rfl (hb hby at_198) ?_
              refine XS.goto X229.here hx rfl (pc0 := 199) (pc' := 203) rfl (hb hby at_199) (by decide) (by decide) ?_
              refine XS.istore X229.here hx rfl (hb hby at_203) rfl (l' := #[.val (.int aa), .val (.int bb), .val (.int cc), .val (.int ff), .val (.int (2 : Int32)), .val (.int xx), .val (.int yy), .val (.int zz), .val (.int ss), .val (.int rr), .val (.ref b1), .val (.int (1 : Int32)), .val (.int (1 : Int32)), .unset, .unset]) rfl ?_
              refine XS.iload X229.here hx rfl (hb hby at_205) rfl ?_
              refine XS.iconst X229.here hx rfl (hb hby at_207) ?_
              refine XS.icmpYes X229.here hx rfl (pc0 := 208) (pc' := 227) rfl (hb hby at_208) rfl (tlt (by decide : (2 : Int32) < (3 : Int32))).1 (by decide) (by decide) ?_
              refine XS.iconst X229.here hx rfl (hb hby at_227) ?_
              refine XS.istore X229.here hx rfl (hb hby at_228) rfl (l' := #[.val (.int aa), .val (.int bb), .val (.int cc), .val (.int ff), .val (.int (2 : Int32)), .val (.int xx), .val (.int yy), .val (.int zz), .val (.int ss), .val (.int rr), .val (.ref b1), .val (.int (1 : Int32)), .val (.int (1 : Int32)), .val (.int (0 : Int32)), .unset]) rfl ?_
              refine XS.iconst X229.here hx rfl (hb hby at_230) ?_
              refine XS.istore X229.here hx rfl (hb hby at_231) rfl (l' := #[.val (.int aa), .val (.int bb), .val (.int cc), .val (.int ff), .val (.int (2 : Int32)), .val (.int xx), .val (.int yy), .val (.int zz), .val (.int ss), .val (.int rr), .val (.ref b1), .val (.int (1 : Int32)), .val (.int (1 : Int32)), .val (.int (0 : Int32)), .val (.int (-1 : Int32))]) rfl ?_
              refine XS.iload X229.here hx rfl (hb hby at_233) rfl ?_
              refine XS.ifNo X229.here hx rfl (hb hby at_235) rfl ((if0 _ _).trans (feq (by decide : ¬ ((1 : Int32) = (0 : Int32)))).1) ?_
              refine XS.iload X229.here hx rfl (hb hby at_238) rfl ?_
              refine XS.iload X229.here hx rfl (hb hby at_240) rfl ?_
              refine st291 _ ?_
              refine XS.istore X291.here hx rfl (hb hby at_245) rfl (l' := #[.val (.int aa), .val (.int bb), .val (.int cc), .val (.int ff), .val (.int (2 : Int32)), .val (.int xx), .val (.int yy), .val (.int zz), .val (.int ss), .val (.int rr), .val (.ref b1), .val (.int (1 : Int32)), .val (.int (1 : Int32)), .val (.int (0 : Int32)), .val (.int (own_mx (-1 : Int32) xx))]) rfl ?_
              refine XS.iload X291.here hx rfl (hb hby at_247) rfl ?_
              refine XS.ifNo X291.here hx rfl (hb hby at_249) rfl ((if0 _ _).trans (feq (by decide : ¬ ((1 : Int32) = (0 : Int32)))).1) ?_
              refine XS.iload X291.here hx rfl (hb hby at_252) rfl ?_
              refine XS.iload X291.here hx rfl (hb hby at_254) rfl ?_
              refine st293 _ ?_
              refine XS.istore X293.here hx rfl (hb hby at_259) rfl (l' := #[.val (.int aa), .val (.int bb), .val (.int cc), .val (.int ff), .val (.int (2 : Int32)), .val (.int xx), .val (.int yy), .val (.int zz), .val (.int ss), .val (.int rr), .val (.ref b1), .val (.int (1 : Int32)), .val (.int (1 : Int32)), .val (.int (0 : Int32)), .val (.int (own_mx (own_mx (-1 : Int32) xx) yy))]) rfl ?_
              refine XS.iload X293.here hx rfl (hb hby at_261) rfl ?_
              refine XS.ifYes X293.here hx rfl (pc0 := 263) (pc' := 275) rfl (hb hby at_263) rfl ((if0 _ _).trans (teq (by decide : (0 : Int32) = (0 : Int32))).1) (by decide) (by decide) ?_
              refine XS.aload X293.here hx rfl (hb hby at_275) rfl rfl ?_
              refine st295.trans ?_
              refine XS.iload X295.here hx rfl (hb hby at_280) rfl ?_
              refine XS.icmpNo X295.here hx rfl (hb hby at_282) rfl (teq (own_top_uniq hpq298 (own_top_congr (own_top_mx (own_top_mx own_top_e t95_1) t95_2) (own_c11 hc267 hc283)))).2 ?_
              refine XS.iconst X295.here hx rfl (hb hby at_285) ?_
              refine XS.goto X295.here hx rfl (pc0 := 286) (pc' := 290) rfl (hb hby at_286) (by decide) (by decide) ?_
              exact k)
            obtain ⟨fs, hr, hrun, hended, hW, hsame⟩ := X295.leave (v := some (.int (1 : Int32))) (hlocks := BodyLoose.notSynchronized Bd) (fun h => by rw [Bd.returns] at h; cases h)
            refine ⟨_, _, pre299 _ ?_, hrun, hended, _, _, rfl, ?_, ⟨_, rfl⟩, hW, hsame.mono (by decide) (by decide)⟩
            · exact retN X295 hx (t := .boolean) Bd.returns (by simp) (hb hby at_290) hr
            · show Q_law Z aa bb cc ff ka wa kk kw h0 n0 _ T295.heap _
              rw [hq297]
              exact ⟨rfl, N295, K229⟩
    · obtain ⟨cq300, kq300, q300a, q300b, q300c⟩ := isOf hZ rfl E21
      obtain ⟨_, _, ⟨T300, L300, k300, n300⟩, -, X300, ⟨Lc300, hQ300, l300, y300, z300⟩, st300⟩ := X11.virtualBack hx (y := (⟨"org/tallyrole/core/Dependencies", "add", "(I)V"⟩ : MethodName)) (z := (⟨"org/tallyrole/core/Dependencies", "add", "(I)V"⟩ : MethodName)) hown (mvT hZ (own_w hw 18 rfl)) (mvT hZ (own_w hw 19 rfl)) (notFace_of_selects (args := #[]) (mvT hZ (own_w hw 21 rfl))) (mvT hZ (own_w hw 21 rfl)) (mvT hZ (own_w hw 20 rfl)) (by decide) (backOf (W := 0) (rm_aE l Z a0 hw [] b1 ka wa kk kw (fun _ => False) xx T11.heap n0 Zs22 E21 F13 F14 F15 F16 A19 A20 (fun _ q => q) ge_b1 (Ne.symm ne_ka_b1) (Ne.symm ne_wa_b1) t95_1) hZ (own_w hw 22 rfl) (own_w hw 3 rfl) (by decide) (by decide)) q300a q300c (g := (mkF m 114 #[.val (.int aa), .val (.int bb), .val (.int cc), .val (.int ff), .val (.int (3 : Int32)), .val (.int xx), .val (.int yy), .val (.int zz), .val (.int ss), .val (.int rr), .val (.ref b1), .unset, .unset, .unset, .unset] [(.int xx), (.ref b1)])) rfl (by rw [hml]; rfl) (Steps.refl _) (argsL := [(.int xx)]) (rest := []) (lenOf pd_7 rfl) rfl (by show 2 * 0 + _ ≤ _; exact Nat.le_of_eq rfl) (hb hby at_114) (fun _ _ => ⟨rfl, rfl, (by decide : 1 + 2 ≤ _), (by decide : 4 + 2 ≤ _)⟩)
      dsimp only [Pt.U, Pt.locs, Pt.cells, Pt.slots] at X300 l300 y300 z300 st300 hQ300
      subst l300 y300 z300
      obtain ⟨x301, x302, x303, x304, x305, x306, x307, x308, rfl, N300q, hq309, hpq310, hpq311, hpq312, hpq313, hpq314, hpq315, hpq316, hpq317, E318, F319, F320, F321, F322, A323, A324⟩ := hQ300
      have N300 := Fr.app N11 N300q
      have lt325 : ka < T11.heap.size := A19.lt
      have lt326 : wa < T11.heap.size := A20.lt
      have lt327 : b1 < T11.heap.size := E21.lt
      have S328 := own_sta_keep S17 hq309 (allS (own_ns_exa E21) all0)
      have S329 := own_sta_keep S18 hq309 (allS (own_ns_exa E21) all0)
      have A330 := A19.keep hq309 (ninS ne_ka_b1 nin0)
      have A331 := A20.keep hq309 (ninS ne_wa_b1 nin0)
      have K300 : Keep h0 T300.heap [] := K11.trans hq309 (allS (Or.inr sz_b1) all0)
      have Zs332 : n0 ≤ T300.heap.size := (Nat.le_trans Zs22 hq309.1)
      have ne333 : ka ≠ x301 := Nat.ne_of_lt (Nat.lt_of_lt_of_le lt325 hpq311)
      have ne334 : wa ≠ x301 := Nat.ne_of_lt (Nat.lt_of_lt_of_le lt326 hpq311)
      have ne335 : b1 ≠ x301 := Nat.ne_of_lt (Nat.lt_of_lt_of_le lt327 hpq311)
      have sz336 : h0.size ≤ x301 := Nat.le_trans K11.1 hpq311
      have ne337 : ka ≠ x302 := Nat.ne_of_lt (Nat.lt_of_lt_of_le lt325 hpq313)
      have ne338 : wa ≠ x302 := Nat.ne_of_lt (Nat.lt_of_lt_of_le lt326 hpq313)
      have ne339 : b1 ≠ x302 := Nat.ne_of_lt (Nat.lt_of_lt_of_le lt327 hpq313)
      have sz340 : h0.size ≤ x302 := Nat.le_trans K11.1 hpq313
      obtain ⟨cq341, kq341, q341a, q341b, q341c⟩ := isOf hZ rfl E318
      obtain ⟨_, _, ⟨T341, L341, k341, n341⟩, -, X341, ⟨Lc341, hQ341, l341, y341, z341⟩, st341⟩ := X300.virtualBack hx (y := (⟨"org/tallyrole/core/Dependencies", "add", "(I)V"⟩ : MethodName)) (z := (⟨"org/tallyrole/core/Dependencies", "add", "(I)V"⟩ : MethodName)) hown (mvT hZ (own_w hw 18 rfl)) (mvT hZ (own_w hw 19 rfl)) (notFace_of_selects (args := #[]) (mvT hZ (own_w hw 21 rfl))) (mvT hZ (own_w hw 21 rfl)) (mvT hZ (own_w hw 20 rfl)) (by decide) (backOf (W := 0) (rm_ad l Z a0 hw [] b1 x301 x302 x303 x304 x305 x306 x307 x308 (own_ins (fun _ => False) xx) yy T300.heap n0 Zs332 E318 F319 F320 F321 F322 A323 A324 (Or.inl hpq317) ge_b1 hpq310 hpq312 hpq314 hpq315 hpq316 t95_2) hZ (own_w hw 22 rfl) (own_w hw 3 rfl) (by decide) (by decide)) q341a q341c (g := (mkF m 127 #[.val (.int aa), .val (.int bb), .val (.int cc), .val (.int ff), .val (.int (3 : Int32)), .val (.int xx), .val (.int yy), .val (.int zz), .val (.int ss), .val (.int rr), .val (.ref b1), .unset, .unset, .unset, .unset] [(.int yy), (.ref b1)])) rfl (by rw [hml]; rfl) (Steps.refl _) (argsL := [(.int yy)]) (rest := []) (lenOf pd_7 rfl) rfl (by show 2 * 0 + _ ≤ _; exact Nat.le_of_eq rfl) (hb hby at_127) (fun _ _ => ⟨rfl, rfl, (by decide : 3 + 2 ≤ _), (by decide : 6 + 6 ≤ _)⟩)
      dsimp only [Pt.U, Pt.locs, Pt.cells, Pt.slots] at X341 l341 y341 z341 st341 hQ341
      subst l341 y341 z341
      obtain ⟨x342, x343, x344, x345, x346, x347, x348, x349, rfl, N341q, hq350, hpq351, hpq352, hpq353, hpq354, hpq355, hpq356, hpq357, hpq358, hpq359, E360, F361, F362, F363, F364, A365, A366⟩ := hQ341
      have N341 := Fr.app N300 N341q
      have lt367 : b1 < T300.heap.size := E318.lt
      have lt368 : x301 < T300.heap.size := A323.lt
      have lt369 : x302 < T300.heap.size := A324.lt
      have S370 := own_sta_keep S328 hq350 (allS (own_ns_exa E318) (allS (own_ns_arv A323) (allS (own_ns_arv A324) all0)))
      have S371 := own_sta_keep S329 hq350 (allS (own_ns_exa E318) (allS (own_ns_arv A323) (allS (own_ns_arv A324) all0)))
      have K341 : Keep h0 T341.heap [] := K300.trans hq350 (allS (Or.inr sz_b1) (allS (Or.inr sz336) (allS (Or.inr sz340) all0)))
      have Zs372 : n0 ≤ T341.heap.size := (Nat.le_trans Zs332 hq350.1)
      have ne373 : b1 ≠ x342 := hpq353.elim (fun q => by rw [q]; exact hpq314) (fun q => Nat.ne_of_lt (Nat.lt_of_lt_of_le lt367 q))
      have ne374 : x302 ≠ x342 := hpq353.elim (fun q => by rw [q]; exact (Ne.symm hpq316)) (fun q => Nat.ne_of_lt (Nat.lt_of_lt_of_le lt369 q))
      have sz375 : h0.size ≤ x342 := hpq353.elim (fun q => by rw [q]; exact sz336) (fun q => Nat.le_trans K300.1 q)
      have ne376 : b1 ≠ x343 := hpq354.elim (fun q => by rw [q]; exact hpq315) (fun q => Nat.ne_of_lt (Nat.lt_of_lt_of_le lt367 q))
      have ne377 : x301 ≠ x343 := hpq354.elim (fun q => by rw [q]; exact hpq316) (fun q => Nat.ne_of_lt (Nat.lt_of_lt_of_le lt368 q))
      have sz378 : h0.size ≤ x343 := hpq354.elim (fun q => by rw [q]; exact sz340) (fun q => Nat.le_trans K300.1 q)
      obtain ⟨cq379, kq379, q379a, q379b, q379c⟩ := isOf hZ rfl E360
      obtain ⟨_, _, ⟨T379, L379, k379, n379⟩, -, X379, ⟨Lc379, hQ379, l379, y379, z379⟩, st379⟩ := X341.virtualBack hx (y := (⟨"org/tallyrole/core/Dependencies", "add", "(I)V"⟩ : MethodName)) (z := (⟨"org/tallyrole/core/Dependencies", "add", "(I)V"⟩ : MethodName)) hown (mvT hZ (own_w hw 18 rfl)) (mvT hZ (own_w hw 19 rfl)) (notFace_of_selects (args := #[]) (mvT hZ (own_w hw 21 rfl))) (mvT hZ (own_w hw 21 rfl)) (mvT hZ (own_w hw 20 rfl)) (by decide) (backOf (W := 0) (rm_ad l Z a0 hw [] b1 x342 x343 x344 x345 x346 x347 x348 x349 (own_ins (own_ins (fun _ => False) xx) yy) zz T341.heap n0 Zs372 E360 F361 F362 F363 F364 A365 A366 (hpq359 (own_sz11 hpq317)) ge_b1 hpq351 hpq352 hpq355 hpq356 hpq357 t95_3) hZ (own_w hw 22 rfl) (own_w hw 3 rfl) (by decide) (by decide)) q379a q379c (g := (mkF m 140 #[.val (.int aa), .val (.int bb), .val (.int cc), .val (.int ff), .val (.int (3 : Int32)), .val (.int xx), .val (.int yy), .val (.int zz), .val (.int ss), .val (.int rr), .val (.ref b1), .unset, .unset, .unset, .unset] [(.int zz), (.ref b1)])) rfl (by rw [hml]; rfl) (Steps.refl _) (argsL := [(.int zz)]) (rest := []) (lenOf pd_7 rfl) rfl (by show 2 * 0 + _ ≤ _; exact Nat.le_of_eq rfl) (hb hby at_140) (fun _ _ => ⟨rfl, rfl, (by decide : 5 + 2 ≤ _), (by decide : 12 + 6 ≤ _)⟩)
      dsimp only [Pt.U, Pt.locs, Pt.cells, Pt.slots] at X379 l379 y379 z379 st379 hQ379
      subst l379 y379 z379
      obtain ⟨x380, x381, x382, x383, x384, x385, x386, x387, rfl, N379q, hq388, hpq389, hpq390, hpq391, hpq392, hpq393, hpq394, hpq395, hpq396, hpq397, E398, F399, F400, F401, F402, A403, A404⟩ := hQ379
      have N379 := Fr.app N341 N379q
      have lt405 : b1 < T341.heap.size := E360.lt
      have lt406 : x342 < T341.heap.size := A365.lt
      have lt407 : x343 < T341.heap.size := A366.lt
      have S408 := own_sta_keep S370 hq388 (allS (own_ns_exa E360) (allS (own_ns_arv A365) (allS (own_ns_arv A366) all0)))
      have S409 := own_sta_keep S371 hq388 (allS (own_ns_exa E360) (allS (own_ns_arv A365) (allS (own_ns_arv A366) all0)))
      have K379 : Keep h0 T379.heap [] := K341.trans hq388 (allS (Or.inr sz_b1) (allS (Or.inr sz375) (allS (Or.inr sz378) all0)))
      have Zs410 : n0 ≤ T379.heap.size := (Nat.le_trans Zs372 hq388.1)
      have ne411 : b1 ≠ x380 := hpq391.elim (fun q => by rw [q]; exact hpq355) (fun q => Nat.ne_of_lt (Nat.lt_of_lt_of_le lt405 q))
      have ne412 : x343 ≠ x380 := hpq391.elim (fun q => by rw [q]; exact (Ne.symm hpq357)) (fun q => Nat.ne_of_lt (Nat.lt_of_lt_of_le lt407 q))
      have sz413 : h0.size ≤ x380 := hpq391.elim (fun q => by rw [q]; exact sz375) (fun q => Nat.le_trans K341.1 q)
      have ne414 : b1 ≠ x381 := hpq392.elim (fun q => by rw [q]; exact hpq356) (fun q => Nat.ne_of_lt (Nat.lt_of_lt_of_le lt405 q))
      have ne415 : x342 ≠ x381 := hpq392.elim (fun q => by rw [q]; exact hpq357) (fun q => Nat.ne_of_lt (Nat.lt_of_lt_of_le lt406 q))
      have sz416 : h0.size ≤ x381 := hpq392.elim (fun q => by rw [q]; exact sz378) (fun q => Nat.le_trans K341.1 q)
      have pre417 := fun (t : State) (k : Steps p.tables e below (T379.setTop (mkF m 145 #[.val (.int aa), .val (.int bb), .val (.int cc), .val (.int ff), .val (.int (3 : Int32)), .val (.int xx), .val (.int yy), .val (.int zz), .val (.int ss), .val (.int rr), .val (.ref b1), .unset, .unset, .unset, .unset] [(.int ss)])) t) => pre23 t (by
        refine XS.iload X11.here hx rfl (hb hby at_104) rfl ?_
        refine XS.iconst X11.here hx rfl (hb hby at_106) ?_
        refine XS.icmpNo X11.here hx rfl (hb hby at_107) rfl (flt (by decide : ¬ ((3 : Int32) < (1 : Int32)))).1 ?_
        refine XS.aload X11.here hx rfl (hb hby at_110) rfl rfl ?_
        refine XS.iload X11.here hx rfl (hb hby at_112) rfl ?_
        refine st300.trans ?_
        refine XS.iload X300.here hx rfl (hb hby at_117) rfl ?_
        refine XS.iconst X300.here hx rfl (hb hby at_119) ?_
        refine XS.icmpNo X300.here hx rfl (hb hby at_120) rfl (flt (by decide : ¬ ((3 : Int32) < (2 : Int32)))).1 ?_
        refine XS.aload X300.here hx rfl (hb hby at_123) rfl rfl ?_
        refine XS.iload X300.here hx rfl (hb hby at_125) rfl ?_
        refine st341.trans ?_
        refine XS.iload X341.here hx rfl (hb hby at_130) rfl ?_
        refine XS.iconst X341.here hx rfl (hb hby at_132) ?_
        refine XS.icmpNo X341.here hx rfl (hb hby at_133) rfl (flt (by decide : ¬ ((3 : Int32) < (3 : Int32)))).1 ?_
        refine XS.aload X341.here hx rfl (hb hby at_136) rfl rfl ?_
        refine XS.iload X341.here hx rfl (hb hby at_138) rfl ?_
        refine st379.trans ?_
        refine XS.iload X379.here hx rfl (hb hby at_143) rfl ?_
        exact k)
      by_cases hc418 : ss = (0 : Int32)
      · obtain ⟨_, _, ⟨T419, L419, k419, n419⟩, -, X419, ⟨Lc419, hQ419, l419, y419, z419⟩, st419⟩ := Jvm.LawKit.callS X379 hx (y := (⟨"java/lang/Math", "max", "(II)I"⟩ : MethodName)) hown (mvT hZ (own_w hw 58 rfl)) (mvT hZ (own_w hw 59 rfl)) (mvT hZ (own_w hw 47 rfl)) (mvT hZ (own_w hw 60 rfl)) (by decide) (backOf (W := 0) (rm_mx l Z a0 hw [] (-1 : Int32) xx T379.heap n0 Zs410 ) hZ (own_w hw 60 rfl) (own_w hw 47 rfl) (by decide) (by decide)) (g := (mkF m 242 #[.val (.int aa), .val (.int bb), .val (.int cc), .val (.int ff), .val (.int (3 : Int32)), .val (.int xx), .val (.int yy), .val (.int zz), .val (.int ss), .val (.int rr), .val (.ref b1), .val (.int (1 : Int32)), .val (.int (1 : Int32)), .val (.int (1 : Int32)), .val (.int (-1 : Int32))] [(.int xx), (.int (-1 : Int32))])) rfl (by rw [hml]; rfl) (argsL := [(.int (-1 : Int32)), (.int xx)]) (rest := []) (lenOf pd_2 rfl) rfl (by show 2 * 0 + _ ≤ _; exact Nat.le_of_eq rfl) (hb hby at_242) (fun _ _ => ⟨rfl, rfl, (by decide : 7 + 0 ≤ _), (by decide : 18 + 0 ≤ _)⟩)
        dsimp only [Pt.U, Pt.locs, Pt.cells, Pt.slots] at X419 l419 y419 z419 st419 hQ419
        subst l419 y419 z419
        obtain ⟨rfl, N419q, hq420⟩ := hQ419
        have N419 := Fr.app N379 N419q
        obtain ⟨_, _, ⟨T421, L421, k421, n421⟩, -, X421, ⟨Lc421, hQ421, l421, y421, z421⟩, st421⟩ := Jvm.LawKit.callS X419 hx (y := (⟨"java/lang/Math", "max", "(II)I"⟩ : MethodName)) hown (mvT hZ (own_w hw 58 rfl)) (mvT hZ (own_w hw 59 rfl)) (mvT hZ (own_w hw 47 rfl)) (mvT hZ (own_w hw 60 rfl)) (by decide) (backOf (W := 0) (rm_mx l Z a0 hw [] (own_mx (-1 : Int32) xx) yy T379.heap n0 Zs410 ) hZ (own_w hw 60 rfl) (own_w hw 47 rfl) (by decide) (by decide)) (g := (mkF m 256 #[.val (.int aa), .val (.int bb), .val (.int cc), .val (.int ff), .val (.int (3 : Int32)), .val (.int xx), .val (.int yy), .val (.int zz), .val (.int ss), .val (.int rr), .val (.ref b1), .val (.int (1 : Int32)), .val (.int (1 : Int32)), .val (.int (1 : Int32)), .val (.int (own_mx (-1 : Int32) xx))] [(.int yy), (.int (own_mx (-1 : Int32) xx))])) rfl (by rw [hml]; rfl) (argsL := [(.int (own_mx (-1 : Int32) xx)), (.int yy)]) (rest := []) (lenOf pd_2 rfl) rfl (by show 2 * 0 + _ ≤ _; exact Nat.le_of_eq rfl) (hb hby at_256) (fun _ _ => ⟨rfl, hq420, (by decide : 7 + 0 ≤ _), (by decide : 18 + 0 ≤ _)⟩)
        dsimp only [Pt.U, Pt.locs, Pt.cells, Pt.slots] at X421 l421 y421 z421 st421 hQ421
        subst l421 y421 z421
        obtain ⟨rfl, N421q, hq422⟩ := hQ421
        have N421 := Fr.app N419 N421q
        obtain ⟨_, _, ⟨T423, L423, k423, n423⟩, -, X423, ⟨Lc423, hQ423, l423, y423, z423⟩, st423⟩ := Jvm.LawKit.callS X421 hx (y := (⟨"java/lang/Math", "max", "(II)I"⟩ : MethodName)) hown (mvT hZ (own_w hw 58 rfl)) (mvT hZ (own_w hw 59 rfl)) (mvT hZ (own_w hw 47 rfl)) (mvT hZ (own_w hw 60 rfl)) (by decide) (backOf (W := 0) (rm_mx l Z a0 hw [] (own_mx (own_mx (-1 : Int32) xx) yy) zz T379.heap n0 Zs410 ) hZ (own_w hw 60 rfl) (own_w hw 47 rfl) (by decide) (by decide)) (g := (mkF m 270 #[.val (.int aa), .val (.int bb), .val (.int cc), .val (.int ff), .val (.int (3 : Int32)), .val (.int xx), .val (.int yy), .val (.int zz), .val (.int ss), .val (.int rr), .val (.ref b1), .val (.int (1 : Int32)), .val (.int (1 : Int32)), .val (.int (1 : Int32)), .val (.int (own_mx (own_mx (-1 : Int32) xx) yy))] [(.int zz), (.int (own_mx (own_mx (-1 : Int32) xx) yy))])) rfl (by rw [hml]; rfl) (argsL := [(.int (own_mx (own_mx (-1 : Int32) xx) yy)), (.int zz)]) (rest := []) (lenOf pd_2 rfl) rfl (by show 2 * 0 + _ ≤ _; exact Nat.le_of_eq rfl) (hb hby at_270) (fun _ _ => ⟨rfl, hq422, (by decide : 7 + 0 ≤ _), (by decide : 18 + 0 ≤ _)⟩)
        dsimp only [Pt.U, Pt.locs, Pt.cells, Pt.slots] at X423 l423 y423 z423 st423 hQ423
        subst l423 y423 z423
        obtain ⟨rfl, N423q, hq424⟩ := hQ423
        have N423 := Fr.app N421 N423q
        obtain ⟨cq425, kq425, q425a, q425b, q425c⟩ := isOf hZ hq424 E398
        obtain ⟨_, _, ⟨T425, L425, k425, n425⟩, -, X425, ⟨Lc425, hQ425, l425, y425, z425⟩, st425⟩ := X423.virtualBack hx (y := (⟨"org/tallyrole/core/Dependencies", "latest", "()I"⟩ : MethodName)) (z := (⟨"org/tallyrole/core/Dependencies", "latest", "()I"⟩ : MethodName)) hown (mvT hZ (own_w hw 61 rfl)) (mvT hZ (own_w hw 62 rfl)) (notFace_of_selects (args := #[]) (mvT hZ (own_w hw 64 rfl))) (mvT hZ (own_w hw 64 rfl)) (mvT hZ (own_w hw 63 rfl)) (by decide) (backOf (W := 0) (rm_lt l Z a0 hw [] b1 x380 x381 x382 x383 x384 x385 x386 x387 (own_ins (own_ins (own_ins (fun _ => False) xx) yy) zz) (0 : Int32) T379.heap n0 Zs410 E398 F399 F400 F401 F402 A403 A404 (hpq396.elim (fun z => (Or.inr (Or.inr (Or.inl z)))) (fun z => (z.elim (fun z => (Or.inr (Or.inr (Or.inr (Or.inr (Or.inl z)))))) (fun z => (Or.inr (Or.inr (Or.inr (Or.inr (Or.inr z)))))))))) hZ (own_w hw 65 rfl) (own_w hw 3 rfl) (by decide) (by decide)) q425a q425c (g := (mkF m 277 #[.val (.int aa), .val (.int bb), .val (.int cc), .val (.int ff), .val (.int (3 : Int32)), .val (.int xx), .val (.int yy), .val (.int zz), .val (.int ss), .val (.int rr), .val (.ref b1), .val (.int (1 : Int32)), .val (.int (1 : Int32)), .val (.int (1 : Int32)), .val (.int (own_mx (own_mx (own_mx (-1 : Int32) xx) yy) zz))] [(.ref b1)])) rfl (by rw [hml]; rfl) (Steps.refl _) (argsL := []) (rest := []) (lenOf pd_9 rfl) rfl (by show 2 * 0 + _ ≤ _; exact Nat.le_of_eq rfl) (hb hby at_277) (fun _ _ => ⟨rfl, hq424, (by decide : 7 + 0 ≤ _), (by decide : 18 + 0 ≤ _)⟩)
        dsimp only [Pt.U, Pt.locs, Pt.cells, Pt.slots] at X425 l425 y425 z425 st425 hQ425
        subst l425 y425 z425
        obtain ⟨x426, rfl, N425q, hq427, hpq428⟩ := hQ425
        have N425 := Fr.app N423 N425q
        have pre429 := fun (t : State) (k : Steps p.tables e below (T425.setTop (mkF m 290 #[.val (.int aa), .val (.int bb), .val (.int cc), .val (.int ff), .val (.int (3 : Int32)), .val (.int xx), .val (.int yy), .val (.int zz), .val (.int ss), .val (.int rr), .val (.ref b1), .val (.int (1 : Int32)), .val (.int (1 : Int32)), .val (.int (1 : Int32)), .val (.int (own_mx (own_mx (own_mx (-1 : Int32) xx) yy) zz))] [(.int (1 : Int32))])) t) => pre417 t (by
          refine XS.ifYes X379.here hx rfl (pc0 := 145) (pc' := 155) rfl (hb hby at_145) rfl ((if0 _ _).trans (teq hc418).1) (by decide) (by decide) ?_
          refine XS.iload X379.here hx rfl (hb hby at_155) rfl ?_
          refine XS.iconst X379.here hx rfl (hb hby at_157) ?_
          refine XS.icmpNo X379.here hx rfl (hb hby at_158) rfl (flt (by decide : ¬ ((3 : Int32) < (1 : Int32)))).1 ?_
          refine XS.iload X379.here hx rfl (hb hby at_161) rfl ?_
          refine XS.ifYes X379.here hx rfl (pc0 := 163) (pc' := 173) rfl (hb hby at_163) rfl ((if0 _ _).trans (teq hc418).1) (by decide) (by decide) ?_
          refine XS.iconst X379.here hx rfl (hb hby at_173) ?_
          refine XS.goto X379.here hx rfl (pc0 := 174) (pc' := 178) rfl (hb hby at_174) (by decide) (by decide) ?_
          refine XS.istore X379.here hx rfl (hb hby at_178) rfl (l' := #[.val (.int aa), .val (.int bb), .val (.int cc), .val (.int ff), .val (.int (3 : Int32)), .val (.int xx), .val (.int yy), .val (.int zz), .val (.int ss), .val (.int rr), .val (.ref b1), .val (.int (1 : Int32)), .unset, .unset, .unset]) rfl ?_
          refine XS.iload X379.here hx rfl (hb hby at_180) rfl ?_
          refine XS.iconst X379.here hx rfl (hb hby at_182) ?_
          refine XS.icmpNo X379.here hx rfl (hb hby at_183) rfl (flt (by decide : ¬ ((3 : Int32) < (2 : Int32)))).1 ?_
          refine XS.iload X379.here hx rfl (hb hby at_186) rfl ?_
          refine XS.ifYes X379.here hx rfl (pc0 := 188) (pc' := 198) rfl (hb hby at_188) rfl ((if0 _ _).trans (teq hc418).1) (by decide) (by decide) ?_
          refine XS.iconst X379.here hx rfl (hb hby at_198) ?_
          refine XS.goto X379.here hx rfl (pc0 := 199) (pc' := 203) rfl (hb hby at_199) (by decide) (by decide) ?_
          refine XS.istore X379.here hx rfl (hb hby at_203) rfl (l' := #[.val (.int aa), .val (.int bb), .val (.int cc), .val (.int ff), .val (.int (3 : Int32)), .val (.int xx), .val (.int yy), .val (.int zz), .val (.int ss), .val (.int rr), .val (.ref b1), .val (.int (1 : Int32)), .val (.int (1 : Int32)), .unset, .unset]) rfl ?_
          refine XS.iload X379.here hx rfl (hb hby at_205) rfl ?_
          refine XS.iconst X379.here hx rfl (hb hby at_207) ?_
          refine XS.icmpNo X379.here hx rfl (hb hby at_208) rfl (flt (by decide : ¬ ((3 : Int32) < (3 : Int32)))).1 ?_
          refine XS.iload X379.here hx rfl (hb hby at_211) rfl ?_
          refine XS.ifYes X379.here hx rfl (pc0 := 213) (pc' := 223) rfl (hb hby at_213) rfl ((if0 _ _).trans (teq hc418).1) (by decide) (by decide) ?_
          refine XS.iconst X379.here hx rfl (hb hby at_223) ?_
          refine XS.goto X379.here hx rfl (pc0 := 224) (pc' := 228) rfl (hb hby at_224) (by decide) (by decide) ?_
          refine XS.istore X379.here hx rfl (hb hby at_228) rfl (l' := #[.val (.int aa), .val (.int bb), .val (.int cc), .val (.int ff), .val (.int (3 : Int32)), .val (.int xx), .val (.int yy), .val (.int zz), .val (.int ss), .val (.int rr), .val (.ref b1), .val (.int (1 : Int32)), .val (.int (1 : Int32)), .val (.int (1 : Int32)), .unset]) rfl ?_
          refine XS.iconst X379.here hx rfl (hb hby at_230) ?_
          refine XS.istore X379.here hx rfl (hb hby at_231) rfl (l' := #[.val (.int aa), .val (.int bb), .val (.int cc), .val (.int ff), .val (.int (3 : Int32)), .val (.int xx), .val (.int yy), .val (.int zz), .val (.int ss), .val (.int rr), .val (.ref b1), .val (.int (1 : Int32)), .val (.int (1 : Int32)), .val (.int (1 : Int32)), .val (.int (-1 : Int32))]) rfl ?_
          refine XS.iload X379.here hx rfl (hb hby at_233) rfl ?_
          refine XS.ifNo X379.here hx rfl (hb hby at_235) rfl ((if0 _ _).trans (feq (by decide : ¬ ((1 : Int32) = (0 : Int32)))).1) ?_
          refine XS.iload X379.here hx rfl (hb hby at_238) rfl ?_
          refine XS.iload X379.here hx rfl (hb hby at_240) rfl ?_
          refine st419 _ ?_
          refine XS.istore X419.here hx rfl (hb hby at_245) rfl (l' := #[.val (.int aa), .val (.int bb), .val (.int cc), .val (.int ff), .val (.int (3 : Int32)), .val (.int xx), .val (.int yy), .val (.int zz), .val (.int ss), .val (.int rr), .val (.ref b1), .val (.int (1 : Int32)), .val (.int (1 : Int32)), .val (.int (1 : Int32)), .val (.int (own_mx (-1 : Int32) xx))]) rfl ?_
          refine XS.iload X419.here hx rfl (hb hby at_247) rfl ?_
          refine XS.ifNo X419.here hx rfl (hb hby at_249) rfl ((if0 _ _).trans (feq (by decide : ¬ ((1 : Int32) = (0 : Int32)))).1) ?_
          refine XS.iload X419.here hx rfl (hb hby at_252) rfl ?_
          refine XS.iload X419.here hx rfl (hb hby at_254) rfl ?_
          refine st421 _ ?_
          refine XS.istore X421.here hx rfl (hb hby at_259) rfl (l' := #[.val (.int aa), .val (.int bb), .val (.int cc), .val (.int ff), .val (.int (3 : Int32)), .val (.int xx), .val (.int yy), .val (.int zz), .val (.int ss), .val (.int rr), .val (.ref b1), .val (.int (1 : Int32)), .val (.int (1 : Int32)), .val (.int (1 : Int32)), .val (.int (own_mx (own_mx (-1 : Int32) xx) yy))]) rfl ?_
          refine XS.iload X421.here hx rfl (hb hby at_261) rfl ?_
          refine XS.ifNo X421.here hx rfl (hb hby at_263) rfl ((if0 _ _).trans (feq (by decide : ¬ ((1 : Int32) = (0 : Int32)))).1) ?_
          refine XS.iload X421.here hx rfl (hb hby at_266) rfl ?_
          refine XS.iload X421.here hx rfl (hb hby at_268) rfl ?_
          refine st423 _ ?_
          refine XS.istore X423.here hx rfl (hb hby at_273) rfl (l' := #[.val (.int aa), .val (.int bb), .val (.int cc), .val (.int ff), .val (.int (3 : Int32)), .val (.int xx), .val (.int yy), .val (.int zz), .val (.int ss), .val (.int rr), .val (.ref b1), .val (.int (1 : Int32)), .val (.int (1 : Int32)), .val (.int (1 : Int32)), .val (.int (own_mx (own_mx (own_mx (-1 : Int32) xx) yy) zz))]) rfl ?_
          refine XS.aload X423.here hx rfl (hb hby at_275) rfl rfl ?_
          refine st425.trans ?_
          refine XS.iload X425.here hx rfl (hb hby at_280) rfl ?_
          refine XS.icmpNo X425.here hx rfl (hb hby at_282) rfl (teq (own_top_uniq hpq428 (own_top_mx (own_top_mx (own_top_mx own_top_e t95_1) t95_2) t95_3))).2 ?_
          refine XS.iconst X425.here hx rfl (hb hby at_285) ?_
          refine XS.goto X425.here hx rfl (pc0 := 286) (pc' := 290) rfl (hb hby at_286) (by decide) (by decide) ?_
          exact k)
        obtain ⟨fs, hr, hrun, hended, hW, hsame⟩ := X425.leave (v := some (.int (1 : Int32))) (hlocks := BodyLoose.notSynchronized Bd) (fun h => by rw [Bd.returns] at h; cases h)
        refine ⟨_, _, pre429 _ ?_, hrun, hended, _, _, rfl, ?_, ⟨_, rfl⟩, hW, hsame.mono (by decide) (by decide)⟩
        · exact retN X425 hx (t := .boolean) Bd.returns (by simp) (hb hby at_290) hr
        · show Q_law Z aa bb cc ff ka wa kk kw h0 n0 _ T425.heap _
          rw [hq427]
          exact ⟨rfl, N425, K379⟩
      · obtain ⟨cq430, kq430, q430a, q430b, q430c⟩ := isOf hZ rfl E398
        obtain ⟨_, _, ⟨T430, L430, k430, n430⟩, -, X430, ⟨Lc430, hQ430, l430, y430, z430⟩, st430⟩ := X379.virtualBack hx (y := (⟨"org/tallyrole/core/Dependencies", "remove", "(I)V"⟩ : MethodName)) (z := (⟨"org/tallyrole/core/Dependencies", "remove", "(I)V"⟩ : MethodName)) hown (mvT hZ (own_w hw 75 rfl)) (mvT hZ (own_w hw 76 rfl)) (notFace_of_selects (args := #[]) (mvT hZ (own_w hw 78 rfl))) (mvT hZ (own_w hw 78 rfl)) (mvT hZ (own_w hw 77 rfl)) (by decide) (backOf (W := 0) (rm_rm l Z a0 hw [] b1 x380 x381 x382 x383 x384 x385 x386 x387 (own_ins (own_ins (own_ins (fun _ => False) xx) yy) zz) rr T379.heap n0 Zs410 E398 F399 F400 F401 F402 A403 A404 hpq396 ge_b1 hpq389 hpq390 hpq393 hpq394 hpq395) hZ (own_w hw 79 rfl) (own_w hw 3 rfl) (by decide) (by decide)) q430a q430c (g := (mkF m 152 #[.val (.int aa), .val (.int bb), .val (.int cc), .val (.int ff), .val (.int (3 : Int32)), .val (.int xx), .val (.int yy), .val (.int zz), .val (.int ss), .val (.int rr), .val (.ref b1), .unset, .unset, .unset, .unset] [(.int rr), (.ref b1)])) rfl (by rw [hml]; rfl) (Steps.refl _) (argsL := [(.int rr)]) (rest := []) (lenOf pd_7 rfl) rfl (by show 2 * 0 + _ ≤ _; exact Nat.le_of_eq rfl) (hb hby at_152) (fun _ _ => ⟨rfl, rfl, (by decide : 7 + 0 ≤ _), (by decide : 18 + 0 ≤ _)⟩)
        dsimp only [Pt.U, Pt.locs, Pt.cells, Pt.slots] at X430 l430 y430 z430 st430 hQ430
        subst l430 y430 z430
        obtain ⟨x431, x432, x433, x434, x435, x436, x437, x438, rfl, N430q, hq439, hpq440, hpq441, hpq442, hpq443, hpq444, hpq445, hpq446, hpq447, E448, F449, F450, F451, F452, A453, A454⟩ := hQ430
        have N430 := Fr.app N379 N430q
        have lt455 : b1 < T379.heap.size := E398.lt
        have lt456 : x380 < T379.heap.size := A403.lt
        have lt457 : x381 < T379.heap.size := A404.lt
        have S458 := own_sta_keep S408 hq439 (allS (own_ns_exa E398) (allS (own_ns_arv A403) (allS (own_ns_arv A404) all0)))
        have S459 := own_sta_keep S409 hq439 (allS (own_ns_exa E398) (allS (own_ns_arv A403) (allS (own_ns_arv A404) all0)))
        have K430 : Keep h0 T430.heap [] := K379.trans hq439 (allS (Or.inr sz_b1) (allS (Or.inr sz413) (allS (Or.inr sz416) all0)))
        have Zs460 : n0 ≤ T430.heap.size := (Nat.le_trans Zs410 hq439.1)
        have ne461 : b1 ≠ x431 := hpq442.elim (fun q => by rw [q]; exact hpq393) (fun q => Nat.ne_of_lt (Nat.lt_of_lt_of_le lt455 q))
        have ne462 : x381 ≠ x431 := hpq442.elim (fun q => by rw [q]; exact (Ne.symm hpq395)) (fun q => Nat.ne_of_lt (Nat.lt_of_lt_of_le lt457 q))
        have sz463 : h0.size ≤ x431 := hpq442.elim (fun q => by rw [q]; exact sz413) (fun q => Nat.le_trans K379.1 q)
        have ne464 : b1 ≠ x432 := hpq443.elim (fun q => by rw [q]; exact hpq394) (fun q => Nat.ne_of_lt (Nat.lt_of_lt_of_le lt455 q))
        have ne465 : x380 ≠ x432 := hpq443.elim (fun q => by rw [q]; exact hpq395) (fun q => Nat.ne_of_lt (Nat.lt_of_lt_of_le lt456 q))
        have sz466 : h0.size ≤ x432 := hpq443.elim (fun q => by rw [q]; exact sz416) (fun q => Nat.le_trans K379.1 q)
        have pre467 := fun (t : State) (k : Steps p.tables e below (T430.setTop (mkF m 170 #[.val (.int aa), .val (.int bb), .val (.int cc), .val (.int ff), .val (.int (3 : Int32)), .val (.int xx), .val (.int yy), .val (.int zz), .val (.int ss), .val (.int rr), .val (.ref b1), .unset, .unset, .unset, .unset] [(.int rr), (.int xx)])) t) => pre417 t (by
          refine XS.ifNo X379.here hx rfl (hb hby at_145) rfl ((if0 _ _).trans (feq hc418).1) ?_
          refine XS.aload X379.here hx rfl (hb hby at_148) rfl rfl ?_
          refine XS.iload X379.here hx rfl (hb hby at_150) rfl ?_
          refine st430.trans ?_
          refine XS.iload X430.here hx rfl (hb hby at_155) rfl ?_
          refine XS.iconst X430.here hx rfl (hb hby at_157) ?_
          refine XS.icmpNo X430.here hx rfl (hb hby at_158) rfl (flt (by decide : ¬ ((3 : Int32) < (1 : Int32)))).1 ?_
          refine XS.iload X430.here hx rfl (hb hby at_161) rfl ?_
          refine XS.ifNo X430.here hx rfl (hb hby at_163) rfl ((if0 _ _).trans (feq hc418).1) ?_
          refine XS.iload X430.here hx rfl (hb hby at_166) rfl ?_
          refine XS.iload X430.here hx rfl (hb hby at_168) rfl ?_
          exact k)
        by_cases hc468 : xx = rr
        · have pre469 := fun (t : State) (k : Steps p.tables e below (T430.setTop (mkF m 195 #[.val (.int aa), .val (.int bb), .val (.int cc), .val (.int ff), .val (.int (3 : Int32)), .val (.int xx), .val (.int yy), .val (.int zz), .val (.int ss), .val (.int rr), .val (.ref b1), .val (.int (0 : Int32)), .unset, .unset, .unset] [(.int rr), (.int yy)])) t) => pre467 t (by
            refine XS.icmpYes X430.here hx rfl (pc0 := 170) (pc' := 177) rfl (hb hby at_170) rfl (teq hc468).1 (by decide) (by decide) ?_
            refine XS.iconst X430.here hx rfl (hb hby at_177) ?_
            refine XS.istore X430.here hx rfl (hb hby at_178) rfl (l' := #[.val (.int aa), .val (.int bb), .val (.int cc), .val (.int ff), .val (.int (3 : Int32)), .val (.int xx), .val (.int yy), .val (.int zz), .val (.int ss), .val (.int rr), .val (.ref b1), .val (.int (0 : Int32)), .unset, .unset, .unset]) rfl ?_
            refine XS.iload X430.here hx rfl (hb hby at_180) rfl ?_
            refine XS.iconst X430.here hx rfl (hb hby at_182) ?_
            refine XS.icmpNo X430.here hx rfl (hb hby at_183) rfl (flt (by decide : ¬ ((3 : Int32) < (2 : Int32)))).1 ?_
            refine XS.iload X430.here hx rfl (hb hby at_186) rfl ?_
            refine XS.ifNo X430.here hx rfl (hb hby at_188) rfl ((if0 _ _).trans (feq hc418).1) ?_
            refine XS.iload X430.here hx rfl (hb hby at_191) rfl ?_
            refine XS.iload X430.here hx rfl (hb hby at_193) rfl ?_
            exact k)
          by_cases hc470 : yy = rr
          · have pre471 := fun (t : State) (k : Steps p.tables e below (T430.setTop (mkF m 220 #[.val (.int aa), .val (.int bb), .val (.int cc), .val (.int ff), .val (.int (3 : Int32)), .val (.int xx), .val (.int yy), .val (.int zz), .val (.int ss), .val (.int rr), .val (.ref b1), .val (.int (0 : Int32)), .val (.int (0 : Int32)), .unset, .unset] [(.int rr), (.int zz)])) t) => pre469 t (by
              refine XS.icmpYes X430.here hx rfl (pc0 := 195) (pc' := 202) rfl (hb hby at_195) rfl (teq hc470).1 (by decide) (by decide) ?_
              refine XS.iconst X430.here hx rfl (hb hby at_202) ?_
              refine XS.istore X430.here hx rfl (hb hby at_203) rfl (l' := #[.val (.int aa), .val (.int bb), .val (.int cc), .val (.int ff), .val (.int (3 : Int32)), .val (.int xx), .val (.int yy), .val (.int zz), .val (.int ss), .val (.int rr), .val (.ref b1), .val (.int (0 : Int32)), .val (.int (0 : Int32)), .unset, .unset]) rfl ?_
              refine XS.iload X430.here hx rfl (hb hby at_205) rfl ?_
              refine XS.iconst X430.here hx rfl (hb hby at_207) ?_
              refine XS.icmpNo X430.here hx rfl (hb hby at_208) rfl (flt (by decide : ¬ ((3 : Int32) < (3 : Int32)))).1 ?_
              refine XS.iload X430.here hx rfl (hb hby at_211) rfl ?_
              refine XS.ifNo X430.here hx rfl (hb hby at_213) rfl ((if0 _ _).trans (feq hc418).1) ?_
              refine XS.iload X430.here hx rfl (hb hby at_216) rfl ?_
              refine XS.iload X430.here hx rfl (hb hby at_218) rfl ?_
              exact k)
            by_cases hc472 : zz = rr
            · obtain ⟨cq473, kq473, q473a, q473b, q473c⟩ := isOf hZ rfl E448
              obtain ⟨_, _, ⟨T473, L473, k473, n473⟩, -, X473, ⟨Lc473, hQ473, l473, y473, z473⟩, st473⟩ := X430.virtualBack hx (y := (⟨"org/tallyrole/core/Dependencies", "latest", "()I"⟩ : MethodName)) (z := (⟨"org/tallyrole/core/Dependencies", "latest", "()I"⟩ : MethodName)) hown (mvT hZ (own_w hw 61 rfl)) (mvT hZ (own_w hw 62 rfl)) (notFace_of_selects (args := #[]) (mvT hZ (own_w hw 64 rfl))) (mvT hZ (own_w hw 64 rfl)) (mvT hZ (own_w hw 63 rfl)) (by decide) (backOf (W := 0) (rm_lt l Z a0 hw [] b1 x431 x432 x433 x434 x435 x436 x437 x438 (own_del (own_ins (own_ins (own_ins (fun _ => False) xx) yy) zz) rr) (0 : Int32) T430.heap n0 Zs460 E448 F449 F450 F451 F452 A453 A454 (hpq447.elim (fun z => (Or.inr (Or.inl z))) (fun z => (z.elim (fun z => (Or.inr (Or.inr (Or.inl z)))) (fun z => (z.elim (fun z => (Or.inr (Or.inr (Or.inr (Or.inl z))))) (fun z => (z.elim (fun z => (Or.inr (Or.inr (Or.inr (Or.inr (Or.inl z)))))) (fun z => (Or.inr (Or.inr (Or.inr (Or.inr (Or.inr z)))))))))))))) hZ (own_w hw 65 rfl) (own_w hw 3 rfl) (by decide) (by decide)) q473a q473c (g := (mkF m 277 #[.val (.int aa), .val (.int bb), .val (.int cc), .val (.int ff), .val (.int (3 : Int32)), .val (.int xx), .val (.int yy), .val (.int zz), .val (.int ss), .val (.int rr), .val (.ref b1), .val (.int (0 : Int32)), .val (.int (0 : Int32)), .val (.int (0 : Int32)), .val (.int (-1 : Int32))] [(.ref b1)])) rfl (by rw [hml]; rfl) (Steps.refl _) (argsL := []) (rest := []) (lenOf pd_9 rfl) rfl (by show 2 * 0 + _ ≤ _; exact Nat.le_of_eq rfl) (hb hby at_277) (fun _ _ => ⟨rfl, rfl, (by decide : 7 + 0 ≤ _), (by decide : 18 + 0 ≤ _)⟩)
              dsimp only [Pt.U, Pt.locs, Pt.cells, Pt.slots] at X473 l473 y473 z473 st473 hQ473
              subst l473 y473 z473
              obtain ⟨x474, rfl, N473q, hq475, hpq476⟩ := hQ473
              have N473 := Fr.app N430 N473q
              have pre477 := fun (t : State) (k : Steps p.tables e below (T473.setTop (mkF m 290 #[.val (.int aa), .val (.int bb), .val (.int cc), .val (.int ff), .val (.int (3 : Int32)), .val (.int xx), .val (.int yy), .val (.int zz), .val (.int ss), .val (.int rr), .val (.ref b1), .val (.int (0 : Int32)), .val (.int (0 : Int32)), .val (.int (0 : Int32)), .val (.int (-1 : Int32))] [(.int (1 : Int32))])) t) => pre471 t (by
                refine XS.icmpYes X430.here hx rfl (pc0 := 220) (pc' := 227) rfl (hb hby at_220) rfl (teq hc472).1 (by decide) (by decide) ?_
                refine XS.iconst X430.here hx rfl (hb hby at_227) ?_
                refine XS.istore X430.here hx rfl (hb hby at_228) rfl (l' := #[.val (.int aa), .val (.int bb), .val (.int cc), .val (.int ff), .val (.int (3 : Int32)), .val (.int xx), .val (.int yy), .val (.int zz), .val (.int ss), .val (.int rr), .val (.ref b1), .val (.int (0 : Int32)), .val (.int (0 : Int32)), .val (.int (0 : Int32)), .unset]) rfl ?_
                refine XS.iconst X430.here hx rfl (hb hby at_230) ?_
                refine XS.istore X430.here hx rfl (hb hby at_231) rfl (l' := #[.val (.int aa), .val (.int bb), .val (.int cc), .val (.int ff), .val (.int (3 : Int32)), .val (.int xx), .val (.int yy), .val (.int zz), .val (.int ss), .val (.int rr), .val (.ref b1), .val (.int (0 : Int32)), .val (.int (0 : Int32)), .val (.int (0 : Int32)), .val (.int (-1 : Int32))]) rfl ?_
                refine XS.iload X430.here hx rfl (hb hby at_233) rfl ?_
                refine XS.ifYes X430.here hx rfl (pc0 := 235) (pc' := 247) rfl (hb hby at_235) rfl ((if0 _ _).trans (teq (by decide : (0 : Int32) = (0 : Int32))).1) (by decide) (by decide) ?_
                refine XS.iload X430.here hx rfl (hb hby at_247) rfl ?_
                refine XS.ifYes X430.here hx rfl (pc0 := 249) (pc' := 261) rfl (hb hby at_249) rfl ((if0 _ _).trans (teq (by decide : (0 : Int32) = (0 : Int32))).1) (by decide) (by decide) ?_
                refine XS.iload X430.here hx rfl (hb hby at_261) rfl ?_
                refine XS.ifYes X430.here hx rfl (pc0 := 263) (pc' := 275) rfl (hb hby at_263) rfl ((if0 _ _).trans (teq (by decide : (0 : Int32) = (0 : Int32))).1) (by decide) (by decide) ?_
                refine XS.aload X430.here hx rfl (hb hby at_275) rfl rfl ?_
                refine st473.trans ?_
                refine XS.iload X473.here hx rfl (hb hby at_280) rfl ?_
                refine XS.icmpNo X473.here hx rfl (hb hby at_282) rfl (teq (own_top_uniq hpq476 (own_top_congr own_top_e (own_c000 hc468 hc470 hc472)))).2 ?_
                refine XS.iconst X473.here hx rfl (hb hby at_285) ?_
                refine XS.goto X473.here hx rfl (pc0 := 286) (pc' := 290) rfl (hb hby at_286) (by decide) (by decide) ?_
                exact k)
              obtain ⟨fs, hr, hrun, hended, hW, hsame⟩ := X473.leave (v := some (.int (1 : Int32))) (hlocks := BodyLoose.notSynchronized Bd) (fun h => by rw [Bd.returns] at h; cases h)
              refine ⟨_, _, pre477 _ ?_, hrun, hended, _, _, rfl, ?_, ⟨_, rfl⟩, hW, hsame.mono (by decide) (by decide)⟩
              · exact retN X473 hx (t := .boolean) Bd.returns (by simp) (hb hby at_290) hr
              · show Q_law Z aa bb cc ff ka wa kk kw h0 n0 _ T473.heap _
                rw [hq475]
                exact ⟨rfl, N473, K430⟩
            · obtain ⟨_, _, ⟨T478, L478, k478, n478⟩, -, X478, ⟨Lc478, hQ478, l478, y478, z478⟩, st478⟩ := Jvm.LawKit.callS X430 hx (y := (⟨"java/lang/Math", "max", "(II)I"⟩ : MethodName)) hown (mvT hZ (own_w hw 58 rfl)) (mvT hZ (own_w hw 59 rfl)) (mvT hZ (own_w hw 47 rfl)) (mvT hZ (own_w hw 60 rfl)) (by decide) (backOf (W := 0) (rm_mx l Z a0 hw [] (-1 : Int32) zz T430.heap n0 Zs460 ) hZ (own_w hw 60 rfl) (own_w hw 47 rfl) (by decide) (by decide)) (g := (mkF m 270 #[.val (.int aa), .val (.int bb), .val (.int cc), .val (.int ff), .val (.int (3 : Int32)), .val (.int xx), .val (.int yy), .val (.int zz), .val (.int ss), .val (.int rr), .val (.ref b1), .val (.int (0 : Int32)), .val (.int (0 : Int32)), .val (.int (1 : Int32)), .val (.int (-1 : Int32))] [(.int zz), (.int (-1 : Int32))])) rfl (by rw [hml]; rfl) (argsL := [(.int (-1 : Int32)), (.int zz)]) (rest := []) (lenOf pd_2 rfl) rfl (by show 2 * 0 + _ ≤ _; exact Nat.le_of_eq rfl) (hb hby at_270) (fun _ _ => ⟨rfl, rfl, (by decide : 7 + 0 ≤ _), (by decide : 18 + 0 ≤ _)⟩)
              dsimp only [Pt.U, Pt.locs, Pt.cells, Pt.slots] at X478 l478 y478 z478 st478 hQ478
              subst l478 y478 z478
              obtain ⟨rfl, N478q, hq479⟩ := hQ478
              have N478 := Fr.app N430 N478q
              obtain ⟨cq480, kq480, q480a, q480b, q480c⟩ := isOf hZ hq479 E448
              obtain ⟨_, _, ⟨T480, L480, k480, n480⟩, -, X480, ⟨Lc480, hQ480, l480, y480, z480⟩, st480⟩ := X478.virtualBack hx (y := (⟨"org/tallyrole/core/Dependencies", "latest", "()I"⟩ : MethodName)) (z := (⟨"org/tallyrole/core/Dependencies", "latest", "()I"⟩ : MethodName)) hown (mvT hZ (own_w hw 61 rfl)) (mvT hZ (own_w hw 62 rfl)) (notFace_of_selects (args := #[]) (mvT hZ (own_w hw 64 rfl))) (mvT hZ (own_w hw 64 rfl)) (mvT hZ (own_w hw 63 rfl)) (by decide) (backOf (W := 0) (rm_lt l Z a0 hw [] b1 x431 x432 x433 x434 x435 x436 x437 x438 (own_del (own_ins (own_ins (own_ins (fun _ => False) xx) yy) zz) rr) (0 : Int32) T430.heap n0 Zs460 E448 F449 F450 F451 F452 A453 A454 (hpq447.elim (fun z => (Or.inr (Or.inl z))) (fun z => (z.elim (fun z => (Or.inr (Or.inr (Or.inl z)))) (fun z => (z.elim (fun z => (Or.inr (Or.inr (Or.inr (Or.inl z))))) (fun z => (z.elim (fun z => (Or.inr (Or.inr (Or.inr (Or.inr (Or.inl z)))))) (fun z => (Or.inr (Or.inr (Or.inr (Or.inr (Or.inr z)))))))))))))) hZ (own_w hw 65 rfl) (own_w hw 3 rfl) (by decide) (by decide)) q480a q480c (g := (mkF m 277 #[.val (.int aa), .val (.int bb), .val (.int cc), .val (.int ff), .val (.int (3 : Int32)), .val (.int xx), .val (.int yy), .val (.int zz), .val (.int ss), .val (.int rr), .val (.ref b1), .val (.int (0 : Int32)), .val (.int (0 : Int32)), .val (.int (1 : Int32)), .val (.int (own_mx (-1 : Int32) zz))] [(.ref b1)])) rfl (by rw [hml]; rfl) (Steps.refl _) (argsL := []) (rest := []) (lenOf pd_9 rfl) rfl (by show 2 * 0 + _ ≤ _; exact Nat.le_of_eq rfl) (hb hby at_277) (fun _ _ => ⟨rfl, hq479, (by decide : 7 + 0 ≤ _), (by decide : 18 + 0 ≤ _)⟩)
              dsimp only [Pt.U, Pt.locs, Pt.cells, Pt.slots] at X480 l480 y480 z480 st480 hQ480
              subst l480 y480 z480
              obtain ⟨x481, rfl, N480q, hq482, hpq483⟩ := hQ480
              have N480 := Fr.app N478 N480q
              have pre484 := fun (t : State) (k : Steps p.tables e below (T480.setTop (mkF m 290 #[.val (.int aa), .val (.int bb), .val (.int cc), .val (.int ff), .val (.int (3 : Int32)), .val (.int xx), .val (.int yy), .val (.int zz), .val (.int ss), .val (.int rr), .val (.ref b1), .val (.int (0 : Int32)), .val (.int (0 : Int32)), .val (.int (1 : Int32)), .val (.int (own_mx (-1 : Int32) zz))] [(.int (1 : Int32))])) t) => pre471 t (by
                refine XS.icmpNo X430.here hx rfl (hb hby at_220) rfl (feq hc472).1 ?_
                refine XS.iconst X430.here hx rfl (hb hby at_223) ?_
                refine XS.goto X430.here hx rfl (pc0 := 224) (pc' := 228) rfl (hb hby at_224) (by decide) (by decide) ?_
                refine XS.istore X430.here hx rfl (hb hby at_228) rfl (l' := #[.val (.int aa), .val (.int bb), .val (.int cc), .val (.int ff), .val (.int (3 : Int32)), .val (.int xx), .val (.int yy), .val (.int zz), .val (.int ss), .val (.int rr), .val (.ref b1), .val (.int (0 : Int32)), .val (.int (0 : Int32)), .val (.int (1 : Int32)), .unset]) rfl ?_
                refine XS.iconst X430.here hx rfl (hb hby at_230) ?_
                refine XS.istore X430.here hx rfl (hb hby at_231) rfl (l' := #[.val (.int aa), .val (.int bb), .val (.int cc), .val (.int ff), .val (.int (3 : Int32)), .val (.int xx), .val (.int yy), .val (.int zz), .val (.int ss), .val (.int rr), .val (.ref b1), .val (.int (0 : Int32)), .val (.int (0 : Int32)), .val (.int (1 : Int32)), .val (.int (-1 : Int32))]) rfl ?_
                refine XS.iload X430.here hx rfl (hb hby at_233) rfl ?_
                refine XS.ifYes X430.here hx rfl (pc0 := 235) (pc' := 247) rfl (hb hby at_235) rfl ((if0 _ _).trans (teq (by decide : (0 : Int32) = (0 : Int32))).1) (by decide) (by decide) ?_
                refine XS.iload X430.here hx rfl (hb hby at_247) rfl ?_
                refine XS.ifYes X430.here hx rfl (pc0 := 249) (pc' := 261) rfl (hb hby at_249) rfl ((if0 _ _).trans (teq (by decide : (0 : Int32) = (0 : Int32))).1) (by decide) (by decide) ?_
                refine XS.iload X430.here hx rfl (hb hby at_261) rfl ?_
                refine XS.ifNo X430.here hx rfl (hb hby at_263) rfl ((if0 _ _).trans (feq (by decide : ¬ ((1 : Int32) = (0 : Int32)))).1) ?_
                refine XS.iload X430.here hx rfl (hb hby at_266) rfl ?_
                refine XS.iload X430.here hx rfl (hb hby at_268) rfl ?_
                refine st478 _ ?_
                refine XS.istore X478.here hx rfl (hb hby at_273) rfl (l' := #[.val (.int aa), .val (.int bb), .val (.int cc), .val (.int ff), .val (.int (3 : Int32)), .val (.int xx), .val (.int yy), .val (.int zz), .val (.int ss), .val (.int rr), .val (.ref b1), .val (.int (0 : Int32)), .val (.int (0 : Int32)), .val (.int (1 : Int32)), .val (.int (own_mx (-1 : Int32) zz))]) rfl ?_
                refine XS.aload X478.here hx rfl (hb hby at_275) rfl rfl ?_
                refine st480.trans ?_
                refine XS.iload X480.here hx rfl (hb hby at_280) rfl ?_
                refine XS.icmpNo X480.here hx rfl (hb hby at_282) rfl (teq (own_top_uniq hpq483 (own_top_congr (own_top_mx own_top_e t95_3) (own_c001 hc468 hc470 hc472)))).2 ?_
                refine XS.iconst X480.here hx rfl (hb hby at_285) ?_
                refine XS.goto X480.here hx rfl (pc0 := 286) (pc' := 290) rfl (hb hby at_286) (by decide) (by decide) ?_
                exact k)
              obtain ⟨fs, hr, hrun, hended, hW, hsame⟩ := X480.leave (v := some (.int (1 : Int32))) (hlocks := BodyLoose.notSynchronized Bd) (fun h => by rw [Bd.returns] at h; cases h)
              refine ⟨_, _, pre484 _ ?_, hrun, hended, _, _, rfl, ?_, ⟨_, rfl⟩, hW, hsame.mono (by decide) (by decide)⟩
              · exact retN X480 hx (t := .boolean) Bd.returns (by simp) (hb hby at_290) hr
              · show Q_law Z aa bb cc ff ka wa kk kw h0 n0 _ T480.heap _
                rw [hq482]
                exact ⟨rfl, N480, K430⟩
          · have pre485 := fun (t : State) (k : Steps p.tables e below (T430.setTop (mkF m 220 #[.val (.int aa), .val (.int bb), .val (.int cc), .val (.int ff), .val (.int (3 : Int32)), .val (.int xx), .val (.int yy), .val (.int zz), .val (.int ss), .val (.int rr), .val (.ref b1), .val (.int (0 : Int32)), .val (.int (1 : Int32)), .unset, .unset] [(.int rr), (.int zz)])) t) => pre469 t (by
              refine XS.icmpNo X430.here hx rfl (hb hby at_195) rfl (feq hc470).1 ?_
              refine XS.iconst X430.here hx rfl (hb hby at_198) ?_
              refine XS.goto X430.here hx rfl (pc0 := 199) (pc' := 203) rfl (hb hby at_199) (by decide) (by decide) ?_
              refine XS.istore X430.here hx rfl (hb hby at_203) rfl (l' := #[.val (.int aa), .val (.int bb), .val (.int cc), .val (.int ff), .val (.int (3 : Int32)), .val (.int xx), .val (.int yy), .val (.int zz), .val (.int ss), .val (.int rr), .val (.ref b1), .val (.int (0 : Int32)), .val (.int (1 : Int32)), .unset, .unset]) rfl ?_
              refine XS.iload X430.here hx rfl (hb hby at_205) rfl ?_
              refine XS.iconst X430.here hx rfl (hb hby at_207) ?_
              refine XS.icmpNo X430.here hx rfl (hb hby at_208) rfl (flt (by decide : ¬ ((3 : Int32) < (3 : Int32)))).1 ?_
              refine XS.iload X430.here hx rfl (hb hby at_211) rfl ?_
              refine XS.ifNo X430.here hx rfl (hb hby at_213) rfl ((if0 _ _).trans (feq hc418).1) ?_
              refine XS.iload X430.here hx rfl (hb hby at_216) rfl ?_
              refine XS.iload X430.here hx rfl (hb hby at_218) rfl ?_
              exact k)
            by_cases hc486 : zz = rr
            · obtain ⟨_, _, ⟨T487, L487, k487, n487⟩, -, X487, ⟨Lc487, hQ487, l487, y487, z487⟩, st487⟩ := Jvm.LawKit.callS X430 hx (y := (⟨"java/lang/Math", "max", "(II)I"⟩ : MethodName)) hown (mvT hZ (own_w hw 58 rfl)) (mvT hZ (own_w hw 59 rfl)) (mvT hZ (own_w hw 47 rfl)) (mvT hZ (own_w hw 60 rfl)) (by decide) (backOf (W := 0) (rm_mx l Z a0 hw [] (-1 : Int32) yy T430.heap n0 Zs460 ) hZ (own_w hw 60 rfl) (own_w hw 47 rfl) (by decide) (by decide)) (g := (mkF m 256 #[.val (.int aa), .val (.int bb), .val (.int cc), .val (.int ff), .val (.int (3 : Int32)), .val (.int xx), .val (.int yy), .val (.int zz), .val (.int ss), .val (.int rr), .val (.ref b1), .val (.int (0 : Int32)), .val (.int (1 : Int32)), .val (.int (0 : Int32)), .val (.int (-1 : Int32))] [(.int yy), (.int (-1 : Int32))])) rfl (by rw [hml]; rfl) (argsL := [(.int (-1 : Int32)), (.int yy)]) (rest := []) (lenOf pd_2 rfl) rfl (by show 2 * 0 + _ ≤ _; exact Nat.le_of_eq rfl) (hb hby at_256) (fun _ _ => ⟨rfl, rfl, (by decide : 7 + 0 ≤ _), (by decide : 18 + 0 ≤ _)⟩)
              dsimp only [Pt.U, Pt.locs, Pt.cells, Pt.slots] at X487 l487 y487 z487 st487 hQ487
              subst l487 y487 z487
              obtain ⟨rfl, N487q, hq488⟩ := hQ487
              have N487 := Fr.app N430 N487q
              obtain ⟨cq489, kq489, q489a, q489b, q489c⟩ := isOf hZ hq488 E448
              obtain ⟨_, _, ⟨T489, L489, k489, n489⟩, -, X489, ⟨Lc489, hQ489, l489, y489, z489⟩, st489⟩ := X487.virtualBack hx (y := (⟨"org/tallyrole/core/Dependencies", "latest", "()I"⟩ : MethodName)) (z := (⟨"org/tallyrole/core/Dependencies", "latest", "()I"⟩ : MethodName)) hown (mvT hZ (own_w hw 61 rfl)) (mvT hZ (own_w hw 62 rfl)) (notFace_of_selects (args := #[]) (mvT hZ (own_w hw 64 rfl))) (mvT hZ (own_w hw 64 rfl)) (mvT hZ (own_w hw 63 rfl)) (by decide) (backOf (W := 0) (rm_lt l Z a0 hw [] b1 x431 x432 x433 x434 x435 x436 x437 x438 (own_del (own_ins (own_ins (own_ins (fun _ => False) xx) yy) zz) rr) (0 : Int32) T430.heap n0 Zs460 E448 F449 F450 F451 F452 A453 A454 (hpq447.elim (fun z => (Or.inr (Or.inl z))) (fun z => (z.elim (fun z => (Or.inr (Or.inr (Or.inl z)))) (fun z => (z.elim (fun z => (Or.inr (Or.inr (Or.inr (Or.inl z))))) (fun z => (z.elim (fun z => (Or.inr (Or.inr (Or.inr (Or.inr (Or.inl z)))))) (fun z => (Or.inr (Or.inr (Or.inr (Or.inr (Or.inr z)))))))))))))) hZ (own_w hw 65 rfl) (own_w hw 3 rfl) (by decide) (by decide)) q489a q489c (g := (mkF m 277 #[.val (.int aa), .val (.int bb), .val (.int cc), .val (.int ff), .val (.int (3 : Int32)), .val (.int xx), .val (.int yy), .val (.int zz), .val (.int ss), .val (.int rr), .val (.ref b1), .val (.int (0 : Int32)), .val (.int (1 : Int32)), .val (.int (0 : Int32)), .val (.int (own_mx (-1 : Int32) yy))] [(.ref b1)])) rfl (by rw [hml]; rfl) (Steps.refl _) (argsL := []) (rest := []) (lenOf pd_9 rfl) rfl (by show 2 * 0 + _ ≤ _; exact Nat.le_of_eq rfl) (hb hby at_277) (fun _ _ => ⟨rfl, hq488, (by decide : 7 + 0 ≤ _), (by decide : 18 + 0 ≤ _)⟩)
              dsimp only [Pt.U, Pt.locs, Pt.cells, Pt.slots] at X489 l489 y489 z489 st489 hQ489
              subst l489 y489 z489
              obtain ⟨x490, rfl, N489q, hq491, hpq492⟩ := hQ489
              have N489 := Fr.app N487 N489q
              have pre493 := fun (t : State) (k : Steps p.tables e below (T489.setTop (mkF m 290 #[.val (.int aa), .val (.int bb), .val (.int cc), .val (.int ff), .val (.int (3 : Int32)), .val (.int xx), .val (.int yy), .val (.int zz), .val (.int ss), .val (.int rr), .val (.ref b1), .val (.int (0 : Int32)), .val (.int (1 : Int32)), .val (.int (0 : Int32)), .val (.int (own_mx (-1 : Int32) yy))] [(.int (1 : Int32))])) t) => pre485 t (by
                refine XS.icmpYes X430.here hx rfl (pc0 := 220) (pc' := 227) rfl (hb hby at_220) rfl (teq hc486).1 (by decide) (by decide) ?_
                refine XS.iconst X430.here hx rfl (hb hby at_227) ?_
                refine XS.istore X430.here hx rfl (hb hby at_228) rfl (l' := #[.val (.int aa), .val (.int bb), .val (.int cc), .val (.int ff), .val (.int (3 : Int32)), .val (.int xx), .val (.int yy), .val (.int zz), .val (.int ss), .val (.int rr), .val (.ref b1), .val (.int (0 : Int32)), .val (.int (1 : Int32)), .val (.int (0 : Int32)), .unset]) rfl ?_
                refine XS.iconst X430.here hx rfl (hb hby at_230) ?_
                refine XS.istore X430.here hx rfl (hb hby at_231) rfl (l' := #[.val (.int aa), .val (.int bb), .val (.int cc), .val (.int ff), .val (.int (3 : Int32)), .val (.int xx), .val (.int yy), .val (.int zz), .val (.int ss), .val (.int rr), .val (.ref b1), .val (.int (0 : Int32)), .val (.int (1 : Int32)), .val (.int (0 : Int32)), .val (.int (-1 : Int32))]) rfl ?_
                refine XS.iload X430.here hx rfl (hb hby at_233) rfl ?_
                refine XS.ifYes X430.here hx rfl (pc0 := 235) (pc' := 247) rfl (hb hby at_235) rfl ((if0 _ _).trans (teq (by decide : (0 : Int32) = (0 : Int32))).1) (by decide) (by decide) ?_
                refine XS.iload X430.here hx rfl (hb hby at_247) rfl ?_
                refine XS.ifNo X430.here hx rfl (hb hby at_249) rfl ((if0 _ _).trans (feq (by decide : ¬ ((1 : Int32) = (0 : Int32)))).1) ?_
                refine XS.iload X430.here hx rfl (hb hby at_252) rfl ?_
                refine XS.iload X430.here hx rfl (hb hby at_254) rfl ?_
                refine st487 _ ?_
                refine XS.istore X487.here hx rfl (hb hby at_259) rfl (l' := #[.val (.int aa), .val (.int bb), .val (.int cc), .val (.int ff), .val (.int (3 : Int32)), .val (.int xx), .val (.int yy), .val (.int zz), .val (.int ss), .val (.int rr), .val (.ref b1), .val (.int (0 : Int32)), .val (.int (1 : Int32)), .val (.int (0 : Int32)), .val (.int (own_mx (-1 : Int32) yy))]) rfl ?_
                refine XS.iload X487.here hx rfl (hb hby at_261) rfl ?_
                refine XS.ifYes X487.here hx rfl (pc0 := 263) (pc' := 275) rfl (hb hby at_263) rfl ((if0 _ _).trans (teq (by decide : (0 : Int32) = (0 : Int32))).1) (by decide) (by decide) ?_
                refine XS.aload X487.here hx rfl (hb hby at_275) rfl rfl ?_
                refine st489.trans ?_
                refine XS.iload X489.here hx rfl (hb hby at_280) rfl ?_
                refine XS.icmpNo X489.here hx rfl (hb hby at_282) rfl (teq (own_top_uniq hpq492 (own_top_congr (own_top_mx own_top_e t95_2) (own_c010 hc468 hc470 hc486)))).2 ?_
                refine XS.iconst X489.here hx rfl (hb hby at_285) ?_
                refine XS.goto X489.here hx rfl (pc0 := 286) (pc' := 290) rfl (hb hby at_286) (by decide) (by decide) ?_
                exact k)
              obtain ⟨fs, hr, hrun, hended, hW, hsame⟩ := X489.leave (v := some (.int (1 : Int32))) (hlocks := BodyLoose.notSynchronized Bd) (fun h => by rw [Bd.returns] at h; cases h)
              refine ⟨_, _, pre493 _ ?_, hrun, hended, _, _, rfl, ?_, ⟨_, rfl⟩, hW, hsame.mono (by decide) (by decide)⟩
              · exact retN X489 hx (t := .boolean) Bd.returns (by simp) (hb hby at_290) hr
              · show Q_law Z aa bb cc ff ka wa kk kw h0 n0 _ T489.heap _
                rw [hq491]
                exact ⟨rfl, N489, K430⟩
            · obtain ⟨_, _, ⟨T494, L494, k494, n494⟩, -, X494, ⟨Lc494, hQ494, l494, y494, z494⟩, st494⟩ := Jvm.LawKit.callS X430 hx (y := (⟨"java/lang/Math", "max", "(II)I"⟩ : MethodName)) hown (mvT hZ (own_w hw 58 rfl)) (mvT hZ (own_w hw 59 rfl)) (mvT hZ (own_w hw 47 rfl)) (mvT hZ (own_w hw 60 rfl)) (by decide) (backOf (W := 0) (rm_mx l Z a0 hw [] (-1 : Int32) yy T430.heap n0 Zs460 ) hZ (own_w hw 60 rfl) (own_w hw 47 rfl) (by decide) (by decide)) (g := (mkF m 256 #[.val (.int aa), .val (.int bb), .val (.int cc), .val (.int ff), .val (.int (3 : Int32)), .val (.int xx), .val (.int yy), .val (.int zz), .val (.int ss), .val (.int rr), .val (.ref b1), .val (.int (0 : Int32)), .val (.int (1 : Int32)), .val (.int (1 : Int32)), .val (.int (-1 : Int32))] [(.int yy), (.int (-1 : Int32))])) rfl (by rw [hml]; rfl) (argsL := [(.int (-1 : Int32)), (.int yy)]) (rest := []) (lenOf pd_2 rfl) rfl (by show 2 * 0 + _ ≤ _; exact Nat.le_of_eq rfl) (hb hby at_256) (fun _ _ => ⟨rfl, rfl, (by decide : 7 + 0 ≤ _), (by decide : 18 + 0 ≤ _)⟩)
              dsimp only [Pt.U, Pt.locs, Pt.cells, Pt.slots] at X494 l494 y494 z494 st494 hQ494
              subst l494 y494 z494
              obtain ⟨rfl, N494q, hq495⟩ := hQ494
              have N494 := Fr.app N430 N494q
              obtain ⟨_, _, ⟨T496, L496, k496, n496⟩, -, X496, ⟨Lc496, hQ496, l496, y496, z496⟩, st496⟩ := Jvm.LawKit.callS X494 hx (y := (⟨"java/lang/Math", "max", "(II)I"⟩ : MethodName)) hown (mvT hZ (own_w hw 58 rfl)) (mvT hZ (own_w hw 59 rfl)) (mvT hZ (own_w hw 47 rfl)) (mvT hZ (own_w hw 60 rfl)) (by decide) (backOf (W := 0) (rm_mx l Z a0 hw [] (own_mx (-1 : Int32) yy) zz T430.heap n0 Zs460 ) hZ (own_w hw 60 rfl) (own_w hw 47 rfl) (by decide) (by decide)) (g := (mkF m 270 #[.val (.int aa), .val (.int bb), .val (.int cc), .val (.int ff), .val (.int (3 : Int32)), .val (.int xx), .val (.int yy), .val (.int zz), .val (.int ss), .val (.int rr), .val (.ref b1), .val (.int (0 : Int32)), .val (.int (1 : Int32)), .val (.int (1 : Int32)), .val (.int (own_mx (-1 : Int32) yy))] [(.int zz), (.int (own_mx (-1 : Int32) yy))])) rfl (by rw [hml]; rfl) (argsL := [(.int (own_mx (-1 : Int32) yy)), (.int zz)]) (rest := []) (lenOf pd_2 rfl) rfl (by show 2 * 0 + _ ≤ _; exact Nat.le_of_eq rfl) (hb hby at_270) (fun _ _ => ⟨rfl, hq495, (by decide : 7 + 0 ≤ _), (by decide : 18 + 0 ≤ _)⟩)
              dsimp only [Pt.U, Pt.locs, Pt.cells, Pt.slots] at X496 l496 y496 z496 st496 hQ496
              subst l496 y496 z496
              obtain ⟨rfl, N496q, hq497⟩ := hQ496
              have N496 := Fr.app N494 N496q
              obtain ⟨cq498, kq498, q498a, q498b, q498c⟩ := isOf hZ hq497 E448
              obtain ⟨_, _, ⟨T498, L498, k498, n498⟩, -, X498, ⟨Lc498, hQ498, l498, y498, z498⟩, st498⟩ := X496.virtualBack hx (y := (⟨"org/tallyrole/core/Dependencies", "latest", "()I"⟩ : MethodName)) (z := (⟨"org/tallyrole/core/Dependencies", "latest", "()I"⟩ : MethodName)) hown (mvT hZ (own_w hw 61 rfl)) (mvT hZ (own_w hw 62 rfl)) (notFace_of_selects (args := #[]) (mvT hZ (own_w hw 64 rfl))) (mvT hZ (own_w hw 64 rfl)) (mvT hZ (own_w hw 63 rfl)) (by decide) (backOf (W := 0) (rm_lt l Z a0 hw [] b1 x431 x432 x433 x434 x435 x436 x437 x438 (own_del (own_ins (own_ins (own_ins (fun _ => False) xx) yy) zz) rr) (0 : Int32) T430.heap n0 Zs460 E448 F449 F450 F451 F452 A453 A454 (hpq447.elim (fun z => (Or.inr (Or.inl z))) (fun z => (z.elim (fun z => (Or.inr (Or.inr (Or.inl z)))) (fun z => (z.elim (fun z => (Or.inr (Or.inr (Or.inr (Or.inl z))))) (fun z => (z.elim (fun z => (Or.inr (Or.inr (Or.inr (Or.inr (Or.inl z)))))) (fun z => (Or.inr (Or.inr (Or.inr (Or.inr (Or.inr z)))))))))))))) hZ (own_w hw 65 rfl) (own_w hw 3 rfl) (by decide) (by decide)) q498a q498c (g := (mkF m 277 #[.val (.int aa), .val (.int bb), .val (.int cc), .val (.int ff), .val (.int (3 : Int32)), .val (.int xx), .val (.int yy), .val (.int zz), .val (.int ss), .val (.int rr), .val (.ref b1), .val (.int (0 : Int32)), .val (.int (1 : Int32)), .val (.int (1 : Int32)), .val (.int (own_mx (own_mx (-1 : Int32) yy) zz))] [(.ref b1)])) rfl (by rw [hml]; rfl) (Steps.refl _) (argsL := []) (rest := []) (lenOf pd_9 rfl) rfl (by show 2 * 0 + _ ≤ _; exact Nat.le_of_eq rfl) (hb hby at_277) (fun _ _ => ⟨rfl, hq497, (by decide : 7 + 0 ≤ _), (by decide : 18 + 0 ≤ _)⟩)
              dsimp only [Pt.U, Pt.locs, Pt.cells, Pt.slots] at X498 l498 y498 z498 st498 hQ498
              subst l498 y498 z498
              obtain ⟨x499, rfl, N498q, hq500, hpq501⟩ := hQ498
              have N498 := Fr.app N496 N498q
              have pre502 := fun (t : State) (k : Steps p.tables e below (T498.setTop (mkF m 290 #[.val (.int aa), .val (.int bb), .val (.int cc), .val (.int ff), .val (.int (3 : Int32)), .val (.int xx), .val (.int yy), .val (.int zz), .val (.int ss), .val (.int rr), .val (.ref b1), .val (.int (0 : Int32)), .val (.int (1 : Int32)), .val (.int (1 : Int32)), .val (.int (own_mx (own_mx (-1 : Int32) yy) zz))] [(.int (1 : Int32))])) t) => pre485 t (by
                refine XS.icmpNo X430.here hx rfl (hb hby at_220) rfl (feq hc486).1 ?_
                refine XS.iconst X430.here hx rfl (hb hby at_223) ?_
                refine XS.goto X430.here hx rfl (pc0 := 224) (pc' := 228) rfl (hb hby at_224) (by decide) (by decide) ?_
                refine XS.istore X430.here hx rfl (hb hby at_228) rfl (l' := #[.val (.int aa), .val (.int bb), .val (.int cc), .val (.int ff), .val (.int (3 : Int32)), .val (.int xx), .val (.int yy), .val (.int zz), .val (.int ss), .val (.int rr), .val (.ref b1), .val (.int (0 : Int32)), .val (.int (1 : Int32)), .val (.int (1 : Int32)), .unset]) rfl ?_
                refine XS.iconst X430.here hx rfl (hb hby at_230) ?_
                refine XS.istore X430.here hx rfl (hb hby at_231) rfl (l' := #[.val (.int aa), .val (.int bb), .val (.int cc), .val (.int ff), .val (.int (3 : Int32)), .val (.int xx), .val (.int yy), .val (.int zz), .val (.int ss), .val (.int rr), .val (.ref b1), .val (.int (0 : Int32)), .val (.int (1 : Int32)), .val (.int (1 : Int32)), .val (.int (-1 : Int32))]) rfl ?_
                refine XS.iload X430.here hx rfl (hb hby at_233) rfl ?_
                refine XS.ifYes X430.here hx rfl (pc0 := 235) (pc' := 247) rfl (hb hby at_235) rfl ((if0 _ _).trans (teq (by decide : (0 : Int32) = (0 : Int32))).1) (by decide) (by decide) ?_
                refine XS.iload X430.here hx rfl (hb hby at_247) rfl ?_
                refine XS.ifNo X430.here hx rfl (hb hby at_249) rfl ((if0 _ _).trans (feq (by decide : ¬ ((1 : Int32) = (0 : Int32)))).1) ?_
                refine XS.iload X430.here hx rfl (hb hby at_252) rfl ?_
                refine XS.iload X430.here hx rfl (hb hby at_254) rfl ?_
                refine st494 _ ?_
                refine XS.istore X494.here hx rfl (hb hby at_259) rfl (l' := #[.val (.int aa), .val (.int bb), .val (.int cc), .val (.int ff), .val (.int (3 : Int32)), .val (.int xx), .val (.int yy), .val (.int zz), .val (.int ss), .val (.int rr), .val (.ref b1), .val (.int (0 : Int32)), .val (.int (1 : Int32)), .val (.int (1 : Int32)), .val (.int (own_mx (-1 : Int32) yy))]) rfl ?_
                refine XS.iload X494.here hx rfl (hb hby at_261) rfl ?_
                refine XS.ifNo X494.here hx rfl (hb hby at_263) rfl ((if0 _ _).trans (feq (by decide : ¬ ((1 : Int32) = (0 : Int32)))).1) ?_
                refine XS.iload X494.here hx rfl (hb hby at_266) rfl ?_
                refine XS.iload X494.here hx rfl (hb hby at_268) rfl ?_
                refine st496 _ ?_
                refine XS.istore X496.here hx rfl (hb hby at_273) rfl (l' := #[.val (.int aa), .val (.int bb), .val (.int cc), .val (.int ff), .val (.int (3 : Int32)), .val (.int xx), .val (.int yy), .val (.int zz), .val (.int ss), .val (.int rr), .val (.ref b1), .val (.int (0 : Int32)), .val (.int (1 : Int32)), .val (.int (1 : Int32)), .val (.int (own_mx (own_mx (-1 : Int32) yy) zz))]) rfl ?_
                refine XS.aload X496.here hx rfl (hb hby at_275) rfl rfl ?_
                refine st498.trans ?_
                refine XS.iload X498.here hx rfl (hb hby at_280) rfl ?_
                refine XS.icmpNo X498.here hx rfl (hb hby at_282) rfl (teq (own_top_uniq hpq501 (own_top_congr (own_top_mx (own_top_mx own_top_e t95_2) t95_3) (own_c011 hc468 hc470 hc486)))).2 ?_
                refine XS.iconst X498.here hx rfl (hb hby at_285) ?_
                refine XS.goto X498.here hx rfl (pc0 := 286) (pc' := 290) rfl (hb hby at_286) (by decide) (by decide) ?_
                exact k)
              obtain ⟨fs, hr, hrun, hended, hW, hsame⟩ := X498.leave (v := some (.int (1 : Int32))) (hlocks := BodyLoose.notSynchronized Bd) (fun h => by rw [Bd.returns] at h; cases h)
              refine ⟨_, _, pre502 _ ?_, hrun, hended, _, _, rfl, ?_, ⟨_, rfl⟩, hW, hsame.mono (by decide) (by decide)⟩
              · exact retN X498 hx (t := .boolean) Bd.returns (by simp) (hb hby at_290) hr
              · show Q_law Z aa bb cc ff ka wa kk kw h0 n0 _ T498.heap _
                rw [hq500]
                exact ⟨rfl, N498, K430⟩
        · have pre503 := fun (t : State) (k : Steps p.tables e below (T430.setTop (mkF m 195 #[.val (.int aa), .val (.int bb), .val (.int cc), .val (.int ff), .val (.int (3 : Int32)), .val (.int xx), .val (.int yy), .val (.int zz), .val (.int ss), .val (.int rr), .val (.ref b1), .val (.int (1 : Int32)), .unset, .unset, .unset] [(.int rr), (.int yy)])) t) => pre467 t (by
            refine XS.icmpNo X430.here hx rfl (hb hby at_170) rfl (feq hc468).1 ?_
            refine XS.iconst X430.here hx rfl (hb hby at_173) ?_
            refine XS.goto X430.here hx rfl (pc0 := 174) (pc' := 178) rfl (hb hby at_174) (by decide) (by decide) ?_
            refine XS.istore X430.here hx rfl (hb hby at_178) rfl (l' := #[.val (.int aa), .val (.int bb), .val (.int cc), .val (.int ff), .val (.int (3 : Int32)), .val (.int xx), .val (.int yy), .val (.int zz), .val (.int ss), .val (.int rr), .val (.ref b1), .val (.int (1 : Int32)), .unset, .unset, .unset]) rfl ?_
            refine XS.iload X430.here hx rfl (hb hby at_180) rfl ?_
            refine XS.iconst X430.here hx rfl (hb hby at_182) ?_
            refine XS.icmpNo X430.here hx rfl (hb hby at_183) rfl (flt (by decide : ¬ ((3 : Int32) < (2 : Int32)))).1 ?_
            refine XS.iload X430.here hx rfl (hb hby at_186) rfl ?_
            refine XS.ifNo X430.here hx rfl (hb hby at_188) rfl ((if0 _ _).trans (feq hc418).1) ?_
            refine XS.iload X430.here hx rfl (hb hby at_191) rfl ?_
            refine XS.iload X430.here hx rfl (hb hby at_193) rfl ?_
            exact k)
          by_cases hc504 : yy = rr
          · have pre505 := fun (t : State) (k : Steps p.tables e below (T430.setTop (mkF m 220 #[.val (.int aa), .val (.int bb), .val (.int cc), .val (.int ff), .val (.int (3 : Int32)), .val (.int xx), .val (.int yy), .val (.int zz), .val (.int ss), .val (.int rr), .val (.ref b1), .val (.int (1 : Int32)), .val (.int (0 : Int32)), .unset, .unset] [(.int rr), (.int zz)])) t) => pre503 t (by
              refine XS.icmpYes X430.here hx rfl (pc0 := 195) (pc' := 202) rfl (hb hby at_195) rfl (teq hc504).1 (by decide) (by decide) ?_
              refine XS.iconst X430.here hx rfl (hb hby at_202) ?_
              refine XS.istore X430.here hx rfl (hb hby at_203) rfl (l' := #[.val (.int aa), .val (.int bb), .val (.int cc), .val (.int ff), .val (.int (3 : Int32)), .val (.int xx), .val (.int yy), .val (.int zz), .val (.int ss), .val (.int rr), .val (.ref b1), .val (.int (1 : Int32)), .val (.int (0 : Int32)), .unset, .unset]) rfl ?_
              refine XS.iload X430.here hx rfl (hb hby at_205) rfl ?_
              refine XS.iconst X430.here hx rfl (hb hby at_207) ?_
              refine XS.icmpNo X430.here hx rfl (hb hby at_208) rfl (flt (by decide : ¬ ((3 : Int32) < (3 : Int32)))).1 ?_
              refine XS.iload X430.here hx rfl (hb hby at_211) rfl ?_
              refine XS.ifNo X430.here hx rfl (hb hby at_213) rfl ((if0 _ _).trans (feq hc418).1) ?_
              refine XS.iload X430.here hx rfl (hb hby at_216) rfl ?_
              refine XS.iload X430.here hx rfl (hb hby at_218) rfl ?_
              exact k)
            by_cases hc506 : zz = rr
            · obtain ⟨_, _, ⟨T507, L507, k507, n507⟩, -, X507, ⟨Lc507, hQ507, l507, y507, z507⟩, st507⟩ := Jvm.LawKit.callS X430 hx (y := (⟨"java/lang/Math", "max", "(II)I"⟩ : MethodName)) hown (mvT hZ (own_w hw 58 rfl)) (mvT hZ (own_w hw 59 rfl)) (mvT hZ (own_w hw 47 rfl)) (mvT hZ (own_w hw 60 rfl)) (by decide) (backOf (W := 0) (rm_mx l Z a0 hw [] (-1 : Int32) xx T430.heap n0 Zs460 ) hZ (own_w hw 60 rfl) (own_w hw 47 rfl) (by decide) (by decide)) (g := (mkF m 242 #[.val (.int aa), .val (.int bb), .val (.int cc), .val (.int ff), .val (.int (3 : Int32)), .val (.int xx), .val (.int yy), .val (.int zz), .val (.int ss), .val (.int rr), .val (.ref b1), .val (.int (1 : Int32)), .val (.int (0 : Int32)), .val (.int (0 : Int32)), .val (.int (-1 : Int32))] [(.int xx), (.int (-1 : Int32))])) rfl (by rw [hml]; rfl) (argsL := [(.int (-1 : Int32)), (.int xx)]) (rest := []) (lenOf pd_2 rfl) rfl (by show 2 * 0 + _ ≤ _; exact Nat.le_of_eq rfl) (hb hby at_242) (fun _ _ => ⟨rfl, rfl, (by decide : 7 + 0 ≤ _), (by decide : 18 + 0 ≤ _)⟩)
              dsimp only [Pt.U, Pt.locs, Pt.cells, Pt.slots] at X507 l507 y507 z507 st507 hQ507
              subst l507 y507 z507
              obtain ⟨rfl, N507q, hq508⟩ := hQ507
              have N507 := Fr.app N430 N507q
              obtain ⟨cq509, kq509, q509a, q509b, q509c⟩ := isOf hZ hq508 E448
              obtain ⟨_, _, ⟨T509, L509, k509, n509⟩, -, X509, ⟨Lc509, hQ509, l509, y509, z509⟩, st509⟩ := X507.virtualBack hx (y := (⟨"org/tallyrole/core/Dependencies", "latest", "()I"⟩ : MethodName)) (z := (⟨"org/tallyrole/core/Dependencies", "latest", "()I"⟩ : MethodName)) hown (mvT hZ (own_w hw 61 rfl)) (mvT hZ (own_w hw 62 rfl)) (notFace_of_selects (args := #[]) (mvT hZ (own_w hw 64 rfl))) (mvT hZ (own_w hw 64 rfl)) (mvT hZ (own_w hw 63 rfl)) (by decide) (backOf (W := 0) (rm_lt l Z a0 hw [] b1 x431 x432 x433 x434 x435 x436 x437 x438 (own_del (own_ins (own_ins (own_ins (fun _ => False) xx) yy) zz) rr) (0 : Int32) T430.heap n0 Zs460 E448 F449 F450 F451 F452 A453 A454 (hpq447.elim (fun z => (Or.inr (Or.inl z))) (fun z => (z.elim (fun z => (Or.inr (Or.inr (Or.inl z)))) (fun z => (z.elim (fun z => (Or.inr (Or.inr (Or.inr (Or.inl z))))) (fun z => (z.elim (fun z => (Or.inr (Or.inr (Or.inr (Or.inr (Or.inl z)))))) (fun z => (Or.inr (Or.inr (Or.inr (Or.inr (Or.inr z)))))))))))))) hZ (own_w hw 65 rfl) (own_w hw 3 rfl) (by decide) (by decide)) q509a q509c (g := (mkF m 277 #[.val (.int aa), .val (.int bb), .val (.int cc), .val (.int ff), .val (.int (3 : Int32)), .val (.int xx), .val (.int yy), .val (.int zz), .val (.int ss), .val (.int rr), .val (.ref b1), .val (.int (1 : Int32)), .val (.int (0 : Int32)), .val (.int (0 : Int32)), .val (.int (own_mx (-1 : Int32) xx))] [(.ref b1)])) rfl (by rw [hml]; rfl) (Steps.refl _) (argsL := []) (rest := []) (lenOf pd_9 rfl) rfl (by show 2 * 0 + _ ≤ _; exact Nat.le_of_eq rfl) (hb hby at_277) (fun _ _ => ⟨rfl, hq508, (by decide : 7 + 0 ≤ _), (by decide : 18 + 0 ≤ _)⟩)
              dsimp only [Pt.U, Pt.locs, Pt.cells, Pt.slots] at X509 l509 y509 z509 st509 hQ509
              subst l509 y509 z509
              obtain ⟨x510, rfl, N509q, hq511, hpq512⟩ := hQ509
              have N509 := Fr.app N507 N509q
              have pre513 := fun (t : State) (k : Steps p.tables e below (T509.setTop (mkF m 290 #[.val (.int aa), .val (.int bb), .val (.int cc), .val (.int ff), .val (.int (3 : Int32)), .val (.int xx), .val (.int yy), .val (.int zz), .val (.int ss), .val (.int rr), .val (.ref b1), .val (.int (1 : Int32)), .val (.int (0 : Int32)), .val (.int (0 : Int32)), .val (.int (own_mx (-1 : Int32) xx))] [(.int (1 : Int32))])) t) => pre505 t (by
                refine XS.icmpYes X430.here hx rfl (pc0 := 220) (pc' := 227) rfl (hb hby at_220) rfl (teq hc506).1 (by decide) (by decide) ?_
                refine XS.iconst X430.here hx rfl (hb hby at_227) ?_
                refine XS.istore X430.here hx rfl (hb hby at_228) rfl (l' := #[.val (.int aa), .val (.int bb), .val (.int cc), .val (.int ff), .val (.int (3 : Int32)), .val (.int xx), .val (.int yy), .val (.int zz), .val (.int ss), .val (.int rr), .val (.ref b1), .val (.int (1 : Int32)), .val (.int (0 : Int32)), .val (.int (0 : Int32)), .unset]) rfl ?_
                refine XS.iconst X430.here hx rfl (hb hby at_230) ?_
                refine XS.istore X430.here hx rfl (hb hby at_231) rfl (l' := #[.val (.int aa), .val (.int bb), .val (.int cc), .val (.int ff), .val (.int (3 : Int32)), .val (.int xx), .val (.int yy), .val (.int zz), .val (.int ss), .val (.int rr), .val (.ref b1), .val (.int (1 : Int32)), .val (.int (0 : Int32)), .val (.int (0 : Int32)), .val (.int (-1 : Int32))]) rfl ?_
                refine XS.iload X430.here hx rfl (hb hby at_233) rfl ?_
                refine XS.ifNo X430.here hx rfl (hb hby at_235) rfl ((if0 _ _).trans (feq (by decide : ¬ ((1 : Int32) = (0 : Int32)))).1) ?_
                refine XS.iload X430.here hx rfl (hb hby at_238) rfl ?_
                refine XS.iload X430.here hx rfl (hb hby at_240) rfl ?_
                refine st507 _ ?_
                refine XS.istore X507.here hx rfl (hb hby at_245) rfl (l' := #[.val (.int aa), .val (.int bb), .val (.int cc), .val (.int ff), .val (.int (3 : Int32)), .val (.int xx), .val (.int yy), .val (.int zz), .val (.int ss), .val (.int rr), .val (.ref b1), .val (.int (1 : Int32)), .val (.int (0 : Int32)), .val (.int (0 : Int32)), .val (.int (own_mx (-1 : Int32) xx))]) rfl ?_
                refine XS.iload X507.here hx rfl (hb hby at_247) rfl ?_
                refine XS.ifYes X507.here hx rfl (pc0 := 249) (pc' := 261) rfl (hb hby at_249) rfl ((if0 _ _).trans (teq (by decide : (0 : Int32) = (0 : Int32))).1) (by decide) (by decide) ?_
                refine XS.iload X507.here hx rfl (hb hby at_261) rfl ?_
                refine XS.ifYes X507.here hx rfl (pc0 := 263) (pc' := 275) rfl (hb hby at_263) rfl ((if0 _ _).trans (teq (by decide : (0 : Int32) = (0 : Int32))).1) (by decide) (by decide) ?_
                refine XS.aload X507.here hx rfl (hb hby at_275) rfl rfl ?_
                refine st509.trans ?_
                refine XS.iload X509.here hx rfl (hb hby at_280) rfl ?_
                refine XS.icmpNo X509.here hx rfl (hb hby at_282) rfl (teq (own_top_uniq hpq512 (own_top_congr (own_top_mx own_top_e t95_1) (own_c100 hc468 hc504 hc506)))).2 ?_
                refine XS.iconst X509.here hx rfl (hb hby at_285) ?_
                refine XS.goto X509.here hx rfl (pc0 := 286) (pc' := 290) rfl (hb hby at_286) (by decide) (by decide) ?_
                exact k)
              obtain ⟨fs, hr, hrun, hended, hW, hsame⟩ := X509.leave (v := some (.int (1 : Int32))) (hlocks := BodyLoose.notSynchronized Bd) (fun h => by rw [Bd.returns] at h; cases h)
              refine ⟨_, _, pre513 _ ?_, hrun, hended, _, _, rfl, ?_, ⟨_, rfl⟩, hW, hsame.mono (by decide) (by decide)⟩
              · exact retN X509 hx (t := .boolean) Bd.returns (by simp) (hb hby at_290) hr
              · show Q_law Z aa bb cc ff ka wa kk kw h0 n0 _ T509.heap _
                rw [hq511]
                exact ⟨rfl, N509, K430⟩
            · obtain ⟨_, _, ⟨T514, L514, k514, n514⟩, -, X514, ⟨Lc514, hQ514, l514, y514, z514⟩, st514⟩ := Jvm.LawKit.callS X430 hx (y := (⟨"java/lang/Math", "max", "(II)I"⟩ : MethodName)) hown (mvT hZ (own_w hw 58 rfl)) (mvT hZ (own_w hw 59 rfl)) (mvT hZ (own_w hw 47 rfl)) (mvT hZ (own_w hw 60 rfl)) (by decide) (backOf (W := 0) (rm_mx l Z a0 hw [] (-1 : Int32) xx T430.heap n0 Zs460 ) hZ (own_w hw 60 rfl) (own_w hw 47 rfl) (by decide) (by decide)) (g := (mkF m 242 #[.val (.int aa), .val (.int bb), .val (.int cc), .val (.int ff), .val (.int (3 : Int32)), .val (.int xx), .val (.int yy), .val (.int zz), .val (.int ss), .val (.int rr), .val (.ref b1), .val (.int (1 : Int32)), .val (.int (0 : Int32)), .val (.int (1 : Int32)), .val (.int (-1 : Int32))] [(.int xx), (.int (-1 : Int32))])) rfl (by rw [hml]; rfl) (argsL := [(.int (-1 : Int32)), (.int xx)]) (rest := []) (lenOf pd_2 rfl) rfl (by show 2 * 0 + _ ≤ _; exact Nat.le_of_eq rfl) (hb hby at_242) (fun _ _ => ⟨rfl, rfl, (by decide : 7 + 0 ≤ _), (by decide : 18 + 0 ≤ _)⟩)
              dsimp only [Pt.U, Pt.locs, Pt.cells, Pt.slots] at X514 l514 y514 z514 st514 hQ514
              subst l514 y514 z514
              obtain ⟨rfl, N514q, hq515⟩ := hQ514
              have N514 := Fr.app N430 N514q
              obtain ⟨_, _, ⟨T516, L516, k516, n516⟩, -, X516, ⟨Lc516, hQ516, l516, y516, z516⟩, st516⟩ := Jvm.LawKit.callS X514 hx (y := (⟨"java/lang/Math", "max", "(II)I"⟩ : MethodName)) hown (mvT hZ (own_w hw 58 rfl)) (mvT hZ (own_w hw 59 rfl)) (mvT hZ (own_w hw 47 rfl)) (mvT hZ (own_w hw 60 rfl)) (by decide) (backOf (W := 0) (rm_mx l Z a0 hw [] (own_mx (-1 : Int32) xx) zz T430.heap n0 Zs460 ) hZ (own_w hw 60 rfl) (own_w hw 47 rfl) (by decide) (by decide)) (g := (mkF m 270 #[.val (.int aa), .val (.int bb), .val (.int cc), .val (.int ff), .val (.int (3 : Int32)), .val (.int xx), .val (.int yy), .val (.int zz), .val (.int ss), .val (.int rr), .val (.ref b1), .val (.int (1 : Int32)), .val (.int (0 : Int32)), .val (.int (1 : Int32)), .val (.int (own_mx (-1 : Int32) xx))] [(.int zz), (.int (own_mx (-1 : Int32) xx))])) rfl (by rw [hml]; rfl) (argsL := [(.int (own_mx (-1 : Int32) xx)), (.int zz)]) (rest := []) (lenOf pd_2 rfl) rfl (by show 2 * 0 + _ ≤ _; exact Nat.le_of_eq rfl) (hb hby at_270) (fun _ _ => ⟨rfl, hq515, (by decide : 7 + 0 ≤ _), (by decide : 18 + 0 ≤ _)⟩)
              dsimp only [Pt.U, Pt.locs, Pt.cells, Pt.slots] at X516 l516 y516 z516 st516 hQ516
              subst l516 y516 z516
              obtain ⟨rfl, N516q, hq517⟩ := hQ516
              have N516 := Fr.app N514 N516q
              obtain ⟨cq518, kq518, q518a, q518b, q518c⟩ := isOf hZ hq517 E448
              obtain ⟨_, _, ⟨T518, L518, k518, n518⟩, -, X518, ⟨Lc518, hQ518, l518, y518, z518⟩, st518⟩ := X516.virtualBack hx (y := (⟨"org/tallyrole/core/Dependencies", "latest", "()I"⟩ : MethodName)) (z := (⟨"org/tallyrole/core/Dependencies", "latest", "()I"⟩ : MethodName)) hown (mvT hZ (own_w hw 61 rfl)) (mvT hZ (own_w hw 62 rfl)) (notFace_of_selects (args := #[]) (mvT hZ (own_w hw 64 rfl))) (mvT hZ (own_w hw 64 rfl)) (mvT hZ (own_w hw 63 rfl)) (by decide) (backOf (W := 0) (rm_lt l Z a0 hw [] b1 x431 x432 x433 x434 x435 x436 x437 x438 (own_del (own_ins (own_ins (own_ins (fun _ => False) xx) yy) zz) rr) (0 : Int32) T430.heap n0 Zs460 E448 F449 F450 F451 F452 A453 A454 (hpq447.elim (fun z => (Or.inr (Or.inl z))) (fun z => (z.elim (fun z => (Or.inr (Or.inr (Or.inl z)))) (fun z => (z.elim (fun z => (Or.inr (Or.inr (Or.inr (Or.inl z))))) (fun z => (z.elim (fun z => (Or.inr (Or.inr (Or.inr (Or.inr (Or.inl z)))))) (fun z => (Or.inr (Or.inr (Or.inr (Or.inr (Or.inr z)))))))))))))) hZ (own_w hw 65 rfl) (own_w hw 3 rfl) (by decide) (by decide)) q518a q518c (g := (mkF m 277 #[.val (.int aa), .val (.int bb), .val (.int cc), .val (.int ff), .val (.int (3 : Int32)), .val (.int xx), .val (.int yy), .val (.int zz), .val (.int ss), .val (.int rr), .val (.ref b1), .val (.int (1 : Int32)), .val (.int (0 : Int32)), .val (.int (1 : Int32)), .val (.int (own_mx (own_mx (-1 : Int32) xx) zz))] [(.ref b1)])) rfl (by rw [hml]; rfl) (Steps.refl _) (argsL := []) (rest := []) (lenOf pd_9 rfl) rfl (by show 2 * 0 + _ ≤ _; exact Nat.le_of_eq rfl) (hb hby at_277) (fun _ _ => ⟨rfl, hq517, (by decide : 7 + 0 ≤ _), (by decide : 18 + 0 ≤ _)⟩)
              dsimp only [Pt.U, Pt.locs, Pt.cells, Pt.slots] at X518 l518 y518 z518 st518 hQ518
              subst l518 y518 z518
              obtain ⟨x519, rfl, N518q, hq520, hpq521⟩ := hQ518
              have N518 := Fr.app N516 N518q
              have pre522 := fun (t : State) (k : Steps p.tables e below (T518.setTop (mkF m 290 #[.val (.int aa), .val (.int bb), .val (.int cc), .val (.int ff), .val (.int (3 : Int32)), .val (.int xx), .val (.int yy), .val (.int zz), .val (.int ss), .val (.int rr), .val (.ref b1), .val (.int (1 : Int32)), .val (.int (0 : Int32)), .val (.int (1 : Int32)), .val (.int (own_mx (own_mx (-1 : Int32) xx) zz))] [(.int (1 : Int32))])) t) => pre505 t (by
                refine XS.icmpNo X430.here hx rfl (hb hby at_220) rfl (feq hc506).1 ?_
                refine XS.iconst X430.here hx rfl (hb hby at_223) ?_
                refine XS.goto X430.here hx rfl (pc0 := 224) (pc' := 228) rfl (hb hby at_224) (by decide) (by decide) ?_
                refine XS.istore X430.here hx rfl (hb hby at_228) rfl (l' := #[.val (.int aa), .val (.int bb), .val (.int cc), .val (.int ff), .val (.int (3 : Int32)), .val (.int xx), .val (.int yy), .val (.int zz), .val (.int ss), .val (.int rr), .val (.ref b1), .val (.int (1 : Int32)), .val (.int (0 : Int32)), .val (.int (1 : Int32)), .unset]) rfl ?_
                refine XS.iconst X430.here hx rfl (hb hby at_230) ?_
                refine XS.istore X430.here hx rfl (hb hby at_231) rfl (l' := #[.val (.int aa), .val (.int bb), .val (.int cc), .val (.int ff), .val (.int (3 : Int32)), .val (.int xx), .val (.int yy), .val (.int zz), .val (.int ss), .val (.int rr), .val (.ref b1), .val (.int (1 : Int32)), .val (.int (0 : Int32)), .val (.int (1 : Int32)), .val (.int (-1 : Int32))]) rfl ?_
                refine XS.iload X430.here hx rfl (hb hby at_233) rfl ?_
                refine XS.ifNo X430.here hx rfl (hb hby at_235) rfl ((if0 _ _).trans (feq (by decide : ¬ ((1 : Int32) = (0 : Int32)))).1) ?_
                refine XS.iload X430.here hx rfl (hb hby at_238) rfl ?_
                refine XS.iload X430.here hx rfl (hb hby at_240) rfl ?_
                refine st514 _ ?_
                refine XS.istore X514.here hx rfl (hb hby at_245) rfl (l' := #[.val (.int aa), .val (.int bb), .val (.int cc), .val (.int ff), .val (.int (3 : Int32)), .val (.int xx), .val (.int yy), .val (.int zz), .val (.int ss), .val (.int rr), .val (.ref b1), .val (.int (1 : Int32)), .val (.int (0 : Int32)), .val (.int (1 : Int32)), .val (.int (own_mx (-1 : Int32) xx))]) rfl ?_
                refine XS.iload X514.here hx rfl (hb hby at_247) rfl ?_
                refine XS.ifYes X514.here hx rfl (pc0 := 249) (pc' := 261) rfl (hb hby at_249) rfl ((if0 _ _).trans (teq (by decide : (0 : Int32) = (0 : Int32))).1) (by decide) (by decide) ?_
                refine XS.iload X514.here hx rfl (hb hby at_261) rfl ?_
                refine XS.ifNo X514.here hx rfl (hb hby at_263) rfl ((if0 _ _).trans (feq (by decide : ¬ ((1 : Int32) = (0 : Int32)))).1) ?_
                refine XS.iload X514.here hx rfl (hb hby at_266) rfl ?_
                refine XS.iload X514.here hx rfl (hb hby at_268) rfl ?_
                refine st516 _ ?_
                refine XS.istore X516.here hx rfl (hb hby at_273) rfl (l' := #[.val (.int aa), .val (.int bb), .val (.int cc), .val (.int ff), .val (.int (3 : Int32)), .val (.int xx), .val (.int yy), .val (.int zz), .val (.int ss), .val (.int rr), .val (.ref b1), .val (.int (1 : Int32)), .val (.int (0 : Int32)), .val (.int (1 : Int32)), .val (.int (own_mx (own_mx (-1 : Int32) xx) zz))]) rfl ?_
                refine XS.aload X516.here hx rfl (hb hby at_275) rfl rfl ?_
                refine st518.trans ?_
                refine XS.iload X518.here hx rfl (hb hby at_280) rfl ?_
                refine XS.icmpNo X518.here hx rfl (hb hby at_282) rfl (teq (own_top_uniq hpq521 (own_top_congr (own_top_mx (own_top_mx own_top_e t95_1) t95_3) (own_c101 hc468 hc504 hc506)))).2 ?_
                refine XS.iconst X518.here hx rfl (hb hby at_285) ?_
                refine XS.goto X518.here hx rfl (pc0 := 286) (pc' := 290) rfl (hb hby at_286) (by decide) (by decide) ?_
                exact k)
              obtain ⟨fs, hr, hrun, hended, hW, hsame⟩ := X518.leave (v := some (.int (1 : Int32))) (hlocks := BodyLoose.notSynchronized Bd) (fun h => by rw [Bd.returns] at h; cases h)
              refine ⟨_, _, pre522 _ ?_, hrun, hended, _, _, rfl, ?_, ⟨_, rfl⟩, hW, hsame.mono (by decide) (by decide)⟩
              · exact retN X518 hx (t := .boolean) Bd.returns (by simp) (hb hby at_290) hr
              · show Q_law Z aa bb cc ff ka wa kk kw h0 n0 _ T518.heap _
                rw [hq520]
                exact ⟨rfl, N518, K430⟩
          · have pre523 := fun (t : State) (k : Steps p.tables e below (T430.setTop (mkF m 220 #[.val (.int aa), .val (.int bb), .val (.int cc), .val (.int ff), .val (.int (3 : Int32)), .val (.int xx), .val (.int yy), .val (.int zz), .val (.int ss), .val (.int rr), .val (.ref b1), .val (.int (1 : Int32)), .val (.int (1 : Int32)), .unset, .unset] [(.int rr), (.int zz)])) t) => pre503 t (by
              refine XS.icmpNo X430.here hx rfl (hb hby at_195) rfl (feq hc504).1 ?_
              refine XS.iconst X430.here hx rfl (hb hby at_198) ?_
              refine XS.goto X430.here hx rfl (pc0 := 199) (pc' := 203) rfl (hb hby at_199) (by decide) (by decide) ?_
              refine XS.istore X430.here hx rfl (hb hby at_203) rfl (l' := #[.val (.int aa), .val (.int bb), .val (.int cc), .val (.int ff), .val (.int (3 : Int32)), .val (.int xx), .val (.int yy), .val (.int zz), .val (.int ss), .val (.int rr), .val (.ref b1), .val (.int (1 : Int32)), .val (.int (1 : Int32)), .unset, .unset]) rfl ?_
              refine XS.iload X430.here hx rfl (hb hby at_205) rfl ?_
              refine XS.iconst X430.here hx rfl (hb hby at_207) ?_
              refine XS.icmpNo X430.here hx rfl (hb hby at_208) rfl (flt (by decide : ¬ ((3 : Int32) < (3 : Int32)))).1 ?_
              refine XS.iload X430.here hx rfl (hb hby at_211) rfl ?_
              refine XS.ifNo X430.here hx rfl (hb hby at_213) rfl ((if0 _ _).trans (feq hc418).1) ?_
              refine XS.iload X430.here hx rfl (hb hby at_216) rfl ?_
              refine XS.iload X430.here hx rfl (hb hby at_218) rfl ?_
              exact k)
            by_cases hc524 : zz = rr
            · obtain ⟨_, _, ⟨T525, L525, k525, n525⟩, -, X525, ⟨Lc525, hQ525, l525, y525, z525⟩, st525⟩ := Jvm.LawKit.callS X430 hx (y := (⟨"java/lang/Math", "max", "(II)I"⟩ : MethodName)) hown (mvT hZ (own_w hw 58 rfl)) (mvT hZ (own_w hw 59 rfl)) (mvT hZ (own_w hw 47 rfl)) (mvT hZ (own_w hw 60 rfl)) (by decide) (backOf (W := 0) (rm_mx l Z a0 hw [] (-1 : Int32) xx T430.heap n0 Zs460 ) hZ (own_w hw 60 rfl) (own_w hw 47 rfl) (by decide) (by decide)) (g := (mkF m 242 #[.val (.int aa), .val (.int bb), .val (.int cc), .val (.int ff), .val (.int (3 : Int32)), .val (.int xx), .val (.int yy), .val (.int zz), .val (.int ss), .val (.int rr), .val (.ref b1), .val (.int (1 : Int32)), .val (.int (1 : Int32)), .val (.int (0 : Int32)), .val (.int (-1 : Int32))] [(.int xx), (.int (-1 : Int32))])) rfl (by rw [hml]; rfl) (argsL := [(.int (-1 : Int32)), (.int xx)]) (rest := []) (lenOf pd_2 rfl) rfl (by show 2 * 0 + _ ≤ _; exact Nat.le_of_eq rfl) (hb hby at_242) (fun _ _ => ⟨rfl, rfl, (by decide : 7 + 0 ≤ _), (by decide : 18 + 0 ≤ _)⟩)
              dsimp only [Pt.U, Pt.locs, Pt.cells, Pt.slots] at X525 l525 y525 z525 st525 hQ525
              subst l525 y525 z525
              obtain ⟨rfl, N525q, hq526⟩ := hQ525
              have N525 := Fr.app N430 N525q
              obtain ⟨_, _, ⟨T527, L527, k527, n527⟩, -, X527, ⟨Lc527, hQ527, l527, y527, z527⟩, st527⟩ := Jvm.LawKit.callS X525 hx (y := (⟨"java/lang/Math", "max", "(II)I"⟩ : MethodName)) hown (mvT hZ (own_w hw 58 rfl)) (mvT hZ (own_w hw 59 rfl)) (mvT hZ (own_w hw 47 rfl)) (mvT hZ (own_w hw 60 rfl)) (by decide) (backOf (W := 0) (rm_mx l Z a0 hw [] (own_mx (-1 : Int32) xx) yy T430.heap n0 Zs460 ) hZ (own_w hw 60 rfl) (own_w hw 47 rfl) (by decide) (by decide)) (g := (mkF m 256 #[.val (.int aa), .val (.int bb), .val (.int cc), .val (.int ff), .val (.int (3 : Int32)), .val (.int xx), .val (.int yy), .val (.int zz), .val (.int ss), .val (.int rr), .val (.ref b1), .val (.int (1 : Int32)), .val (.int (1 : Int32)), .val (.int (0 : Int32)), .val (.int (own_mx (-1 : Int32) xx))] [(.int yy), (.int (own_mx (-1 : Int32) xx))])) rfl (by rw [hml]; rfl) (argsL := [(.int (own_mx (-1 : Int32) xx)), (.int yy)]) (rest := []) (lenOf pd_2 rfl) rfl (by show 2 * 0 + _ ≤ _; exact Nat.le_of_eq rfl) (hb hby at_256) (fun _ _ => ⟨rfl, hq526, (by decide : 7 + 0 ≤ _), (by decide : 18 + 0 ≤ _)⟩)
              dsimp only [Pt.U, Pt.locs, Pt.cells, Pt.slots] at X527 l527 y527 z527 st527 hQ527
              subst l527 y527 z527
              obtain ⟨rfl, N527q, hq528⟩ := hQ527
              have N527 := Fr.app N525 N527q
              obtain ⟨cq529, kq529, q529a, q529b, q529c⟩ := isOf hZ hq528 E448
              obtain ⟨_, _, ⟨T529, L529, k529, n529⟩, -, X529, ⟨Lc529, hQ529, l529, y529, z529⟩, st529⟩ := X527.virtualBack hx (y := (⟨"org/tallyrole/core/Dependencies", "latest", "()I"⟩ : MethodName)) (z := (⟨"org/tallyrole/core/Dependencies", "latest", "()I"⟩ : MethodName)) hown (mvT hZ (own_w hw 61 rfl)) (mvT hZ (own_w hw 62 rfl)) (notFace_of_selects (args := #[]) (mvT hZ (own_w hw 64 rfl))) (mvT hZ (own_w hw 64 rfl)) (mvT hZ (own_w hw 63 rfl)) (by decide) (backOf (W := 0) (rm_lt l Z a0 hw [] b1 x431 x432 x433 x434 x435 x436 x437 x438 (own_del (own_ins (own_ins (own_ins (fun _ => False) xx) yy) zz) rr) (0 : Int32) T430.heap n0 Zs460 E448 F449 F450 F451 F452 A453 A454 (hpq447.elim (fun z => (Or.inr (Or.inl z))) (fun z => (z.elim (fun z => (Or.inr (Or.inr (Or.inl z)))) (fun z => (z.elim (fun z => (Or.inr (Or.inr (Or.inr (Or.inl z))))) (fun z => (z.elim (fun z => (Or.inr (Or.inr (Or.inr (Or.inr (Or.inl z)))))) (fun z => (Or.inr (Or.inr (Or.inr (Or.inr (Or.inr z)))))))))))))) hZ (own_w hw 65 rfl) (own_w hw 3 rfl) (by decide) (by decide)) q529a q529c (g := (mkF m 277 #[.val (.int aa), .val (.int bb), .val (.int cc), .val (.int ff), .val (.int (3 : Int32)), .val (.int xx), .val (.int yy), .val (.int zz), .val (.int ss), .val (.int rr), .val (.ref b1), .val (.int (1 : Int32)), .val (.int (1 : Int32)), .val (.int (0 : Int32)), .val (.int (own_mx (own_mx (-1 : Int32) xx) yy))] [(.ref b1)])) rfl (by rw [hml]; rfl) (Steps.refl _) (argsL := []) (rest := []) (lenOf pd_9 rfl) rfl (by show 2 * 0 + _ ≤ _; exact Nat.le_of_eq rfl) (hb hby at_277) (fun _ _ => ⟨rfl, hq528, (by decide : 7 + 0 ≤ _), (by decide : 18 + 0 ≤ _)⟩)
              dsimp only [Pt.U, Pt.locs, Pt.cells, Pt.slots] at X529 l529 y529 z529 st529 hQ529
              subst l529 y529 z529
              obtain ⟨x530, rfl, N529q, hq531, hpq532⟩ := hQ529
              have N529 := Fr.app N527 N529q
              have pre533 := fun (t : State) (k : Steps p.tables e below (T529.setTop (mkF m 290 #[.val (.int aa), .val (.int bb), .val (.int cc), .val (.int ff), .val (.int (3 : Int32)), .val (.int xx), .val (.int yy), .val (.int zz), .val (.int ss), .val (.int rr), .val (.ref b1), .val (.int (1 : Int32)), .val (.int (1 : Int32)), .val (.int (0 : Int32)), .val (.int (own_mx (own_mx (-1 : Int32) xx) yy))] [(.int (1 : Int32))])) t) => pre523 t (by
                refine XS.icmpYes X430.here hx rfl (pc0 := 220) (pc' := 227) rfl (hb hby at_220) rfl (teq hc524).1 (by decide) (by decide) ?_
                refine XS.iconst X430.here hx rfl (hb hby at_227) ?_
                refine XS.istore X430.here hx rfl (hb hby at_228) rfl (l' := #[.val (.int aa), .val (.int bb), .val (.int cc), .val (.int ff), .val (.int (3 : Int32)), .val (.int xx), .val (.int yy), .val (.int zz), .val (.int ss), .val (.int rr), .val (.ref b1), .val (.int (1 : Int32)), .val (.int (1 : Int32)), .val (.int (0 : Int32)), .unset]) rfl ?_
                refine XS.iconst X430.here hx rfl (hb hby at_230) ?_
                refine XS.istore X430.here hx rfl (hb hby at_231) rfl (l' := #[.val (.int aa), .val (.int bb), .val (.int cc), .val (.int ff), .val (.int (3 : Int32)), .val (.int xx), .val (.int yy), .val (.int zz), .val (.int ss), .val (.int rr), .val (.ref b1), .val (.int (1 : Int32)), .val (.int (1 : Int32)), .val (.int (0 : Int32)), .val (.int (-1 : Int32))]) rfl ?_
                refine XS.iload X430.here hx rfl (hb hby at_233) rfl ?_
                refine XS.ifNo X430.here hx rfl (hb hby at_235) rfl ((if0 _ _).trans (feq (by decide : ¬ ((1 : Int32) = (0 : Int32)))).1) ?_
                refine XS.iload X430.here hx rfl (hb hby at_238) rfl ?_
                refine XS.iload X430.here hx rfl (hb hby at_240) rfl ?_
                refine st525 _ ?_
                refine XS.istore X525.here hx rfl (hb hby at_245) rfl (l' := #[.val (.int aa), .val (.int bb), .val (.int cc), .val (.int ff), .val (.int (3 : Int32)), .val (.int xx), .val (.int yy), .val (.int zz), .val (.int ss), .val (.int rr), .val (.ref b1), .val (.int (1 : Int32)), .val (.int (1 : Int32)), .val (.int (0 : Int32)), .val (.int (own_mx (-1 : Int32) xx))]) rfl ?_
                refine XS.iload X525.here hx rfl (hb hby at_247) rfl ?_
                refine XS.ifNo X525.here hx rfl (hb hby at_249) rfl ((if0 _ _).trans (feq (by decide : ¬ ((1 : Int32) = (0 : Int32)))).1) ?_
                refine XS.iload X525.here hx rfl (hb hby at_252) rfl ?_
                refine XS.iload X525.here hx rfl (hb hby at_254) rfl ?_
                refine st527 _ ?_
                refine XS.istore X527.here hx rfl (hb hby at_259) rfl (l' := #[.val (.int aa), .val (.int bb), .val (.int cc), .val (.int ff), .val (.int (3 : Int32)), .val (.int xx), .val (.int yy), .val (.int zz), .val (.int ss), .val (.int rr), .val (.ref b1), .val (.int (1 : Int32)), .val (.int (1 : Int32)), .val (.int (0 : Int32)), .val (.int (own_mx (own_mx (-1 : Int32) xx) yy))]) rfl ?_
                refine XS.iload X527.here hx rfl (hb hby at_261) rfl ?_
                refine XS.ifYes X527.here hx rfl (pc0 := 263) (pc' := 275) rfl (hb hby at_263) rfl ((if0 _ _).trans (teq (by decide : (0 : Int32) = (0 : Int32))).1) (by decide) (by decide) ?_
                refine XS.aload X527.here hx rfl (hb hby at_275) rfl rfl ?_
                refine st529.trans ?_
                refine XS.iload X529.here hx rfl (hb hby at_280) rfl ?_
                refine XS.icmpNo X529.here hx rfl (hb hby at_282) rfl (teq (own_top_uniq hpq532 (own_top_congr (own_top_mx (own_top_mx own_top_e t95_1) t95_2) (own_c110 hc468 hc504 hc524)))).2 ?_
                refine XS.iconst X529.here hx rfl (hb hby at_285) ?_
                refine XS.goto X529.here hx rfl (pc0 := 286) (pc' := 290) rfl (hb hby at_286) (by decide) (by decide) ?_
                exact k)
              obtain ⟨fs, hr, hrun, hended, hW, hsame⟩ := X529.leave (v := some (.int (1 : Int32))) (hlocks := BodyLoose.notSynchronized Bd) (fun h => by rw [Bd.returns] at h; cases h)
              refine ⟨_, _, pre533 _ ?_, hrun, hended, _, _, rfl, ?_, ⟨_, rfl⟩, hW, hsame.mono (by decide) (by decide)⟩
              · exact retN X529 hx (t := .boolean) Bd.returns (by simp) (hb hby at_290) hr
              · show Q_law Z aa bb cc ff ka wa kk kw h0 n0 _ T529.heap _
                rw [hq531]
                exact ⟨rfl, N529, K430⟩
            · obtain ⟨_, _, ⟨T534, L534, k534, n534⟩, -, X534, ⟨Lc534, hQ534, l534, y534, z534⟩, st534⟩ := Jvm.LawKit.callS X430 hx (y := (⟨"java/lang/Math", "max", "(II)I"⟩ : MethodName)) hown (mvT hZ (own_w hw 58 rfl)) (mvT hZ (own_w hw 59 rfl)) (mvT hZ (own_w hw 47 rfl)) (mvT hZ (own_w hw 60 rfl)) (by decide) (backOf (W := 0) (rm_mx l Z a0 hw [] (-1 : Int32) xx T430.heap n0 Zs460 ) hZ (own_w hw 60 rfl) (own_w hw 47 rfl) (by decide) (by decide)) (g := (mkF m 242 #[.val (.int aa), .val (.int bb), .val (.int cc), .val (.int ff), .val (.int (3 : Int32)), .val (.int xx), .val (.int yy), .val (.int zz), .val (.int ss), .val (.int rr), .val (.ref b1), .val (.int (1 : Int32)), .val (.int (1 : Int32)), .val (.int (1 : Int32)), .val (.int (-1 : Int32))] [(.int xx), (.int (-1 : Int32))])) rfl (by rw [hml]; rfl) (argsL := [(.int (-1 : Int32)), (.int xx)]) (rest := []) (lenOf pd_2 rfl) rfl (by show 2 * 0 + _ ≤ _; exact Nat.le_of_eq rfl) (hb hby at_242) (fun _ _ => ⟨rfl, rfl, (by decide : 7 + 0 ≤ _), (by decide : 18 + 0 ≤ _)⟩)
              dsimp only [Pt.U, Pt.locs, Pt.cells, Pt.slots] at X534 l534 y534 z534 st534 hQ534
              subst l534 y534 z534
              obtain ⟨rfl, N534q, hq535⟩ := hQ534
              have N534 := Fr.app N430 N534q
              obtain ⟨_, _, ⟨T536, L536, k536, n536⟩, -, X536, ⟨Lc536, hQ536, l536, y536, z536⟩, st536⟩ := Jvm.LawKit.callS X534 hx (y := (⟨"java/lang/Math", "max", "(II)I"⟩ : MethodName)) hown (mvT hZ (own_w hw 58 rfl)) (mvT hZ (own_w hw 59 rfl)) (mvT hZ (own_w hw 47 rfl)) (mvT hZ (own_w hw 60 rfl)) (by decide) (backOf (W := 0) (rm_mx l Z a0 hw [] (own_mx (-1 : Int32) xx) yy T430.heap n0 Zs460 ) hZ (own_w hw 60 rfl) (own_w hw 47 rfl) (by decide) (by decide)) (g := (mkF m 256 #[.val (.int aa), .val (.int bb), .val (.int cc), .val (.int ff), .val (.int (3 : Int32)), .val (.int xx), .val (.int yy), .val (.int zz), .val (.int ss), .val (.int rr), .val (.ref b1), .val (.int (1 : Int32)), .val (.int (1 : Int32)), .val (.int (1 : Int32)), .val (.int (own_mx (-1 : Int32) xx))] [(.int yy), (.int (own_mx (-1 : Int32) xx))])) rfl (by rw [hml]; rfl) (argsL := [(.int (own_mx (-1 : Int32) xx)), (.int yy)]) (rest := []) (lenOf pd_2 rfl) rfl (by show 2 * 0 + _ ≤ _; exact Nat.le_of_eq rfl) (hb hby at_256) (fun _ _ => ⟨rfl, hq535, (by decide : 7 + 0 ≤ _), (by decide : 18 + 0 ≤ _)⟩)
              dsimp only [Pt.U, Pt.locs, Pt.cells, Pt.slots] at X536 l536 y536 z536 st536 hQ536
              subst l536 y536 z536
              obtain ⟨rfl, N536q, hq537⟩ := hQ536
              have N536 := Fr.app N534 N536q
              obtain ⟨_, _, ⟨T538, L538, k538, n538⟩, -, X538, ⟨Lc538, hQ538, l538, y538, z538⟩, st538⟩ := Jvm.LawKit.callS X536 hx (y := (⟨"java/lang/Math", "max", "(II)I"⟩ : MethodName)) hown (mvT hZ (own_w hw 58 rfl)) (mvT hZ (own_w hw 59 rfl)) (mvT hZ (own_w hw 47 rfl)) (mvT hZ (own_w hw 60 rfl)) (by decide) (backOf (W := 0) (rm_mx l Z a0 hw [] (own_mx (own_mx (-1 : Int32) xx) yy) zz T430.heap n0 Zs460 ) hZ (own_w hw 60 rfl) (own_w hw 47 rfl) (by decide) (by decide)) (g := (mkF m 270 #[.val (.int aa), .val (.int bb), .val (.int cc), .val (.int ff), .val (.int (3 : Int32)), .val (.int xx), .val (.int yy), .val (.int zz), .val (.int ss), .val (.int rr), .val (.ref b1), .val (.int (1 : Int32)), .val (.int (1 : Int32)), .val (.int (1 : Int32)), .val (.int (own_mx (own_mx (-1 : Int32) xx) yy))] [(.int zz), (.int (own_mx (own_mx (-1 : Int32) xx) yy))])) rfl (by rw [hml]; rfl) (argsL := [(.int (own_mx (own_mx (-1 : Int32) xx) yy)), (.int zz)]) (rest := []) (lenOf pd_2 rfl) rfl (by show 2 * 0 + _ ≤ _; exact Nat.le_of_eq rfl) (hb hby at_270) (fun _ _ => ⟨rfl, hq537, (by decide : 7 + 0 ≤ _), (by decide : 18 + 0 ≤ _)⟩)
              dsimp only [Pt.U, Pt.locs, Pt.cells, Pt.slots] at X538 l538 y538 z538 st538 hQ538
              subst l538 y538 z538
              obtain ⟨rfl, N538q, hq539⟩ := hQ538
              have N538 := Fr.app N536 N538q
              obtain ⟨cq540, kq540, q540a, q540b, q540c⟩ := isOf hZ hq539 E448
              obtain ⟨_, _, ⟨T540, L540, k540, n540⟩, -, X540, ⟨Lc540, hQ540, l540, y540, z540⟩, st540⟩ := X538.virtualBack hx (y := (⟨"org/tallyrole/core/Dependencies", "latest", "()I"⟩ : MethodName)) (z := (⟨"org/tallyrole/core/Dependencies", "latest", "()I"⟩ : MethodName)) hown (mvT hZ (own_w hw 61 rfl)) (mvT hZ (own_w hw 62 rfl)) (notFace_of_selects (args := #[]) (mvT hZ (own_w hw 64 rfl))) (mvT hZ (own_w hw 64 rfl)) (mvT hZ (own_w hw 63 rfl)) (by decide) (backOf (W := 0) (rm_lt l Z a0 hw [] b1 x431 x432 x433 x434 x435 x436 x437 x438 (own_del (own_ins (own_ins (own_ins (fun _ => False) xx) yy) zz) rr) (0 : Int32) T430.heap n0 Zs460 E448 F449 F450 F451 F452 A453 A454 (hpq447.elim (fun z => (Or.inr (Or.inl z))) (fun z => (z.elim (fun z => (Or.inr (Or.inr (Or.inl z)))) (fun z => (z.elim (fun z => (Or.inr (Or.inr (Or.inr (Or.inl z))))) (fun z => (z.elim (fun z => (Or.inr (Or.inr (Or.inr (Or.inr (Or.inl z)))))) (fun z => (Or.inr (Or.inr (Or.inr (Or.inr (Or.inr z)))))))))))))) hZ (own_w hw 65 rfl) (own_w hw 3 rfl) (by decide) (by decide)) q540a q540c (g := (mkF m 277 #[.val (.int aa), .val (.int bb), .val (.int cc), .val (.int ff), .val (.int (3 : Int32)), .val (.int xx), .val (.int yy), .val (.int zz), .val (.int ss), .val (.int rr), .val (.ref b1), .val (.int (1 : Int32)), .val (.int (1 : Int32)), .val (.int (1 : Int32)), .val (.int (own_mx (own_mx (own_mx (-1 : Int32) xx) yy) zz))] [(.ref b1)])) rfl (by rw [hml]; rfl) (Steps.refl _) (argsL := []) (rest := []) (lenOf pd_9 rfl) rfl (by show 2 * 0 + _ ≤ _; exact Nat.le_of_eq rfl) (hb hby at_277) (fun _ _ => ⟨rfl, hq539, (by decide : 7 + 0 ≤ _), (by decide : 18 + 0 ≤ _)⟩)
              dsimp only [Pt.U, Pt.locs, Pt.cells, Pt.slots] at X540 l540 y540 z540 st540 hQ540
              subst l540 y540 z540
              obtain ⟨x541, rfl, N540q, hq542, hpq543⟩ := hQ540
              have N540 := Fr.app N538 N540q
              have pre544 := fun (t : State) (k : Steps p.tables e below (T540.setTop (mkF m 290 #[.val (.int aa), .val (.int bb), .val (.int cc), .val (.int ff), .val (.int (3 : Int32)), .val (.int xx), .val (.int yy), .val (.int zz), .val (.int ss), .val (.int rr), .val (.ref b1), .val (.int (1 : Int32)), .val (.int (1 : Int32)), .val (.int (1 : Int32)), .val (.int (own_mx (own_mx (own_mx (-1 : Int32) xx) yy) zz))] [(.int (1 : Int32))])) t) => pre523 t (by
                refine XS.icmpNo X430.here hx rfl (hb hby at_220) rfl (feq hc524).1 ?_
                refine XS.iconst X430.here hx rfl (hb hby at_223) ?_
                refine XS.goto X430.here hx rfl (pc0 := 224) (pc' := 228) rfl (hb hby at_224) (by decide) (by decide) ?_
                refine XS.istore X430.here hx rfl (hb hby at_228) rfl (l' := #[.val (.int aa), .val (.int bb), .val (.int cc), .val (.int ff), .val (.int (3 : Int32)), .val (.int xx), .val (.int yy), .val (.int zz), .val (.int ss), .val (.int rr), .val (.ref b1), .val (.int (1 : Int32)), .val (.int (1 : Int32)), .val (.int (1 : Int32)), .unset]) rfl ?_
                refine XS.iconst X430.here hx rfl (hb hby at_230) ?_
                refine XS.istore X430.here hx rfl (hb hby at_231) rfl (l' := #[.val (.int aa), .val (.int bb), .val (.int cc), .val (.int ff), .val (.int (3 : Int32)), .val (.int xx), .val (.int yy), .val (.int zz), .val (.int ss), .val (.int rr), .val (.ref b1), .val (.int (1 : Int32)), .val (.int (1 : Int32)), .val (.int (1 : Int32)), .val (.int (-1 : Int32))]) rfl ?_
                refine XS.iload X430.here hx rfl (hb hby at_233) rfl ?_
                refine XS.ifNo X430.here hx rfl (hb hby at_235) rfl ((if0 _ _).trans (feq (by decide : ¬ ((1 : Int32) = (0 : Int32)))).1) ?_
                refine XS.iload X430.here hx rfl (hb hby at_238) rfl ?_
                refine XS.iload X430.here hx rfl (hb hby at_240) rfl ?_
                refine st534 _ ?_
                refine XS.istore X534.here hx rfl (hb hby at_245) rfl (l' := #[.val (.int aa), .val (.int bb), .val (.int cc), .val (.int ff), .val (.int (3 : Int32)), .val (.int xx), .val (.int yy), .val (.int zz), .val (.int ss), .val (.int rr), .val (.ref b1), .val (.int (1 : Int32)), .val (.int (1 : Int32)), .val (.int (1 : Int32)), .val (.int (own_mx (-1 : Int32) xx))]) rfl ?_
                refine XS.iload X534.here hx rfl (hb hby at_247) rfl ?_
                refine XS.ifNo X534.here hx rfl (hb hby at_249) rfl ((if0 _ _).trans (feq (by decide : ¬ ((1 : Int32) = (0 : Int32)))).1) ?_
                refine XS.iload X534.here hx rfl (hb hby at_252) rfl ?_
                refine XS.iload X534.here hx rfl (hb hby at_254) rfl ?_
                refine st536 _ ?_
                refine XS.istore X536.here hx rfl (hb hby at_259) rfl (l' := #[.val (.int aa), .val (.int bb), .val (.int cc), .val (.int ff), .val (.int (3 : Int32)), .val (.int xx), .val (.int yy), .val (.int zz), .val (.int ss), .val (.int rr), .val (.ref b1), .val (.int (1 : Int32)), .val (.int (1 : Int32)), .val (.int (1 : Int32)), .val (.int (own_mx (own_mx (-1 : Int32) xx) yy))]) rfl ?_
                refine XS.iload X536.here hx rfl (hb hby at_261) rfl ?_
                refine XS.ifNo X536.here hx rfl (hb hby at_263) rfl ((if0 _ _).trans (feq (by decide : ¬ ((1 : Int32) = (0 : Int32)))).1) ?_
                refine XS.iload X536.here hx rfl (hb hby at_266) rfl ?_
                refine XS.iload X536.here hx rfl (hb hby at_268) rfl ?_
                refine st538 _ ?_
                refine XS.istore X538.here hx rfl (hb hby at_273) rfl (l' := #[.val (.int aa), .val (.int bb), .val (.int cc), .val (.int ff), .val (.int (3 : Int32)), .val (.int xx), .val (.int yy), .val (.int zz), .val (.int ss), .val (.int rr), .val (.ref b1), .val (.int (1 : Int32)), .val (.int (1 : Int32)), .val (.int (1 : Int32)), .val (.int (own_mx (own_mx (own_mx (-1 : Int32) xx) yy) zz))]) rfl ?_
                refine XS.aload X538.here hx rfl (hb hby at_275) rfl rfl ?_
                refine st540.trans ?_
                refine XS.iload X540.here hx rfl (hb hby at_280) rfl ?_
                refine XS.icmpNo X540.here hx rfl (hb hby at_282) rfl (teq (own_top_uniq hpq543 (own_top_congr (own_top_mx (own_top_mx (own_top_mx own_top_e t95_1) t95_2) t95_3) (own_c111 hc468 hc504 hc524)))).2 ?_
                refine XS.iconst X540.here hx rfl (hb hby at_285) ?_
                refine XS.goto X540.here hx rfl (pc0 := 286) (pc' := 290) rfl (hb hby at_286) (by decide) (by decide) ?_
                exact k)
              obtain ⟨fs, hr, hrun, hended, hW, hsame⟩ := X540.leave (v := some (.int (1 : Int32))) (hlocks := BodyLoose.notSynchronized Bd) (fun h => by rw [Bd.returns] at h; cases h)
              refine ⟨_, _, pre544 _ ?_, hrun, hended, _, _, rfl, ?_, ⟨_, rfl⟩, hW, hsame.mono (by decide) (by decide)⟩
              · exact retN X540 hx (t := .boolean) Bd.returns (by simp) (hb hby at_290) hr
              · show Q_law Z aa bb cc ff ka wa kk kw h0 n0 _ T540.heap _
                rw [hq542]
                exact ⟨rfl, N540, K430⟩
  have t62 : ∀ (nn : Int32) (xx : Int32) (yy : Int32) (zz : Int32) (T_t62 : State) (Lt_t62 : List Loc) (N_t62 : Fr n0 Lt_t62) (X_t62 : Stand p l e room_1 s m #[(.int aa), (.int bb), (.int cc), (.int ff)] below meth c T_t62 Lt_t62 0 0) (e_t62 : T_t62.heap = h0) (t62_0 : nn = (0 : Int32) ∨ nn = (1 : Int32) ∨ nn = (2 : Int32) ∨ nn = (3 : Int32)) (t62_1 : ¬ (xx < (0 : Int32))) (t62_2 : ¬ (yy < (0 : Int32))) (t62_3 : ¬ (zz < (0 : Int32))), ∃ s₂ o, Steps p.tables e below (T_t62.setTop (mkF m 62 #[.val (.int aa), .val (.int bb), .val (.int cc), .val (.int ff), .val (.int nn), .val (.int xx), .val (.int yy), .val (.int zz), .unset, .unset, .unset, .unset, .unset, .unset, .unset] [])) s₂ ∧ s₂.status = .running ∧ Ended s₂ below o ∧ ∃ v L, o = .returned v ∧ Q_law Z aa bb cc ff ka wa kk kw h0 n0 v s₂.heap L ∧ FrameEnd s o s₂ L 7 18 := by
    intro nn xx yy zz T_t62 Lt_t62 N_t62 X_t62 e_t62 t62_0 t62_1 t62_2 t62_3
    have pre_t62 := fun (t : State) (k : Steps p.tables e below (T_t62.setTop (mkF m 62 #[.val (.int aa), .val (.int bb), .val (.int cc), .val (.int ff), .val (.int nn), .val (.int xx), .val (.int yy), .val (.int zz), .unset, .unset, .unset, .unset, .unset, .unset, .unset] [])) t) => k
    have pre545 := fun (t : State) (k : Steps p.tables e below (T_t62.setTop (mkF m 72 #[.val (.int aa), .val (.int bb), .val (.int cc), .val (.int ff), .val (.int nn), .val (.int xx), .val (.int yy), .val (.int zz), .val (.int (((ff.toUInt32 >>> ((4 : Int32) &&& 31).toUInt32).toInt32) &&& (3 : Int32))), .unset, .unset, .unset, .unset, .unset, .unset] [(.int (1 : Int32)), (.int (((ff.toUInt32 >>> ((4 : Int32) &&& 31).toUInt32).toInt32) &&& (3 : Int32)))])) t) => pre_t62 t (by
      refine XS.iloadN X_t62.here hx rfl (hb hby at_62) rfl ?_
      refine XS.iconst X_t62.here hx rfl (hb hby at_63) ?_
      refine XS.iushr X_t62.here hx rfl (hb hby at_64) rfl ?_
      refine XS.iconst X_t62.here hx rfl (hb hby at_65) ?_
      refine XS.iand X_t62.here hx rfl (hb hby at_66) rfl ?_
      refine XS.istore X_t62.here hx rfl (hb hby at_67) rfl (l' := #[.val (.int aa), .val (.int bb), .val (.int cc), .val (.int ff), .val (.int nn), .val (.int xx), .val (.int yy), .val (.int zz), .val (.int (((ff.toUInt32 >>> ((4 : Int32) &&& 31).toUInt32).toInt32) &&& (3 : Int32))), .unset, .unset, .unset, .unset, .unset, .unset]) rfl ?_
      refine XS.iload X_t62.here hx rfl (hb hby at_69) rfl ?_
      refine XS.iconst X_t62.here hx rfl (hb hby at_71) ?_
      exact k)
    by_cases hc546 : (((ff.toUInt32 >>> ((4 : Int32) &&& 31).toUInt32).toInt32) &&& (3 : Int32)) = (1 : Int32)
    · have pre547 := fun (t : State) (k : Steps p.tables e below (T_t62.setTop (mkF m 95 #[.val (.int aa), .val (.int bb), .val (.int cc), .val (.int ff), .val (.int nn), .val (.int xx), .val (.int yy), .val (.int zz), .val (.int (((ff.toUInt32 >>> ((4 : Int32) &&& 31).toUInt32).toInt32) &&& (3 : Int32))), .val (.int xx), .unset, .unset, .unset, .unset, .unset] [])) t) => pre545 t (by
        refine XS.icmpNo X_t62.here hx rfl (hb hby at_72) rfl (teq hc546).2 ?_
        refine XS.iload X_t62.here hx rfl (hb hby at_75) rfl ?_
        refine XS.goto X_t62.here hx rfl (pc0 := 77) (pc' := 93) rfl (hb hby at_77) (by decide) (by decide) ?_
        refine XS.istore X_t62.here hx rfl (hb hby at_93) rfl (l' := #[.val (.int aa), .val (.int bb), .val (.int cc), .val (.int ff), .val (.int nn), .val (.int xx), .val (.int yy), .val (.int zz), .val (.int (((ff.toUInt32 >>> ((4 : Int32) &&& 31).toUInt32).toInt32) &&& (3 : Int32))), .val (.int xx), .unset, .unset, .unset, .unset, .unset]) rfl ?_
        exact k)
      obtain ⟨s2, o2, hs2, hr2⟩ := t95 nn xx yy zz (((ff.toUInt32 >>> ((4 : Int32) &&& 31).toUInt32).toInt32) &&& (3 : Int32)) xx T_t62 _ N_t62 X_t62 e_t62 t62_0 t62_1 t62_2 t62_3
      exact ⟨s2, o2, pre547 _ hs2, hr2⟩
    · have pre548 := fun (t : State) (k : Steps p.tables e below (T_t62.setTop (mkF m 83 #[.val (.int aa), .val (.int bb), .val (.int cc), .val (.int ff), .val (.int nn), .val (.int xx), .val (.int yy), .val (.int zz), .val (.int (((ff.toUInt32 >>> ((4 : Int32) &&& 31).toUInt32).toInt32) &&& (3 : Int32))), .unset, .unset, .unset, .unset, .unset, .unset] [(.int (2 : Int32)), (.int (((ff.toUInt32 >>> ((4 : Int32) &&& 31).toUInt32).toInt32) &&& (3 : Int32)))])) t) => pre545 t (by
        refine XS.icmpYes X_t62.here hx rfl (pc0 := 72) (pc' := 80) rfl (hb hby at_72) rfl (feq hc546).2 (by decide) (by decide) ?_
        refine XS.iload X_t62.here hx rfl (hb hby at_80) rfl ?_
        refine XS.iconst X_t62.here hx rfl (hb hby at_82) ?_
        exact k)
      by_cases hc549 : (((ff.toUInt32 >>> ((4 : Int32) &&& 31).toUInt32).toInt32) &&& (3 : Int32)) = (2 : Int32)
      · have pre550 := fun (t : State) (k : Steps p.tables e below (T_t62.setTop (mkF m 95 #[.val (.int aa), .val (.int bb), .val (.int cc), .val (.int ff), .val (.int nn), .val (.int xx), .val (.int yy), .val (.int zz), .val (.int (((ff.toUInt32 >>> ((4 : Int32) &&& 31).toUInt32).toInt32) &&& (3 : Int32))), .val (.int yy), .unset, .unset, .unset, .unset, .unset] [])) t) => pre548 t (by
          refine XS.icmpNo X_t62.here hx rfl (hb hby at_83) rfl (teq hc549).2 ?_
          refine XS.iload X_t62.here hx rfl (hb hby at_86) rfl ?_
          refine XS.goto X_t62.here hx rfl (pc0 := 88) (pc' := 93) rfl (hb hby at_88) (by decide) (by decide) ?_
          refine XS.istore X_t62.here hx rfl (hb hby at_93) rfl (l' := #[.val (.int aa), .val (.int bb), .val (.int cc), .val (.int ff), .val (.int nn), .val (.int xx), .val (.int yy), .val (.int zz), .val (.int (((ff.toUInt32 >>> ((4 : Int32) &&& 31).toUInt32).toInt32) &&& (3 : Int32))), .val (.int yy), .unset, .unset, .unset, .unset, .unset]) rfl ?_
          exact k)
        obtain ⟨s2, o2, hs2, hr2⟩ := t95 nn xx yy zz (((ff.toUInt32 >>> ((4 : Int32) &&& 31).toUInt32).toInt32) &&& (3 : Int32)) yy T_t62 _ N_t62 X_t62 e_t62 t62_0 t62_1 t62_2 t62_3
        exact ⟨s2, o2, pre550 _ hs2, hr2⟩
      · have pre551 := fun (t : State) (k : Steps p.tables e below (T_t62.setTop (mkF m 95 #[.val (.int aa), .val (.int bb), .val (.int cc), .val (.int ff), .val (.int nn), .val (.int xx), .val (.int yy), .val (.int zz), .val (.int (((ff.toUInt32 >>> ((4 : Int32) &&& 31).toUInt32).toInt32) &&& (3 : Int32))), .val (.int zz), .unset, .unset, .unset, .unset, .unset] [])) t) => pre548 t (by
          refine XS.icmpYes X_t62.here hx rfl (pc0 := 83) (pc' := 91) rfl (hb hby at_83) rfl (feq hc549).2 (by decide) (by decide) ?_
          refine XS.iload X_t62.here hx rfl (hb hby at_91) rfl ?_
          refine XS.istore X_t62.here hx rfl (hb hby at_93) rfl (l' := #[.val (.int aa), .val (.int bb), .val (.int cc), .val (.int ff), .val (.int nn), .val (.int xx), .val (.int yy), .val (.int zz), .val (.int (((ff.toUInt32 >>> ((4 : Int32) &&& 31).toUInt32).toInt32) &&& (3 : Int32))), .val (.int zz), .unset, .unset, .unset, .unset, .unset]) rfl ?_
          exact k)
        obtain ⟨s2, o2, hs2, hr2⟩ := t95 nn xx yy zz (((ff.toUInt32 >>> ((4 : Int32) &&& 31).toUInt32).toInt32) &&& (3 : Int32)) zz T_t62 _ N_t62 X_t62 e_t62 t62_0 t62_1 t62_2 t62_3
        exact ⟨s2, o2, pre551 _ hs2, hr2⟩
  have pre552 := fun (t : State) (k : Steps p.tables e below (s₁.setTop (mkF m 26 #[.val (.int aa), .val (.int bb), .val (.int cc), .val (.int ff), .val (.int (ff &&& (3 : Int32))), .val (.int (aa &&& (2147483647 : Int32))), .val (.int (bb &&& (2147483647 : Int32))), .val (.int (cc &&& (2147483647 : Int32))), .unset, .unset, .unset, .unset, .unset, .unset, .unset] [(.int (ff &&& (4 : Int32)))])) t) => pre0 t (by
    refine XS.iloadN X0.here hx rfl (hb hby at_0) rfl ?_
    refine XS.iconst X0.here hx rfl (hb hby at_1) ?_
    refine XS.iand X0.here hx rfl (hb hby at_2) rfl ?_
    refine XS.istore X0.here hx rfl (hb hby at_3) rfl (l' := #[.val (.int aa), .val (.int bb), .val (.int cc), .val (.int ff), .val (.int (ff &&& (3 : Int32))), .unset, .unset, .unset, .unset, .unset, .unset, .unset, .unset, .unset, .unset]) rfl ?_
    refine XS.iloadN X0.here hx rfl (hb hby at_5) rfl ?_
    refine X0.ldcInt hx hown (mvT hZ (own_w hw 0 rfl)) (g := (mkF m 6 #[.val (.int aa), .val (.int bb), .val (.int cc), .val (.int ff), .val (.int (ff &&& (3 : Int32))), .unset, .unset, .unset, .unset, .unset, .unset, .unset, .unset, .unset, .unset] [(.int aa)])) rfl (hb hby at_6) _ ?_
    refine XS.iand X0.here hx rfl (hb hby at_8) rfl ?_
    refine XS.istore X0.here hx rfl (hb hby at_9) rfl (l' := #[.val (.int aa), .val (.int bb), .val (.int cc), .val (.int ff), .val (.int (ff &&& (3 : Int32))), .val (.int (aa &&& (2147483647 : Int32))), .unset, .unset, .unset, .unset, .unset, .unset, .unset, .unset, .unset]) rfl ?_
    refine XS.iloadN X0.here hx rfl (hb hby at_11) rfl ?_
    refine X0.ldcInt hx hown (mvT hZ (own_w hw 0 rfl)) (g := (mkF m 12 #[.val (.int aa), .val (.int bb), .val (.int cc), .val (.int ff), .val (.int (ff &&& (3 : Int32))), .val (.int (aa &&& (2147483647 : Int32))), .unset, .unset, .unset, .unset, .unset, .unset, .unset, .unset, .unset] [(.int bb)])) rfl (hb hby at_12) _ ?_
    refine XS.iand X0.here hx rfl (hb hby at_14) rfl ?_
    refine XS.istore X0.here hx rfl (hb hby at_15) rfl (l' := #[.val (.int aa), .val (.int bb), .val (.int cc), .val (.int ff), .val (.int (ff &&& (3 : Int32))), .val (.int (aa &&& (2147483647 : Int32))), .val (.int (bb &&& (2147483647 : Int32))), .unset, .unset, .unset, .unset, .unset, .unset, .unset, .unset]) rfl ?_
    refine XS.iloadN X0.here hx rfl (hb hby at_17) rfl ?_
    refine X0.ldcInt hx hown (mvT hZ (own_w hw 0 rfl)) (g := (mkF m 18 #[.val (.int aa), .val (.int bb), .val (.int cc), .val (.int ff), .val (.int (ff &&& (3 : Int32))), .val (.int (aa &&& (2147483647 : Int32))), .val (.int (bb &&& (2147483647 : Int32))), .unset, .unset, .unset, .unset, .unset, .unset, .unset, .unset] [(.int cc)])) rfl (hb hby at_18) _ ?_
    refine XS.iand X0.here hx rfl (hb hby at_20) rfl ?_
    refine XS.istore X0.here hx rfl (hb hby at_21) rfl (l' := #[.val (.int aa), .val (.int bb), .val (.int cc), .val (.int ff), .val (.int (ff &&& (3 : Int32))), .val (.int (aa &&& (2147483647 : Int32))), .val (.int (bb &&& (2147483647 : Int32))), .val (.int (cc &&& (2147483647 : Int32))), .unset, .unset, .unset, .unset, .unset, .unset, .unset]) rfl ?_
    refine XS.iloadN X0.here hx rfl (hb hby at_23) rfl ?_
    refine XS.iconst X0.here hx rfl (hb hby at_24) ?_
    refine XS.iand X0.here hx rfl (hb hby at_25) rfl ?_
    exact k)
  by_cases hc553 : (ff &&& (4 : Int32)) = (0 : Int32)
  · have pre554 := fun (t : State) (k : Steps p.tables e below (s₁.setTop (mkF m 46 #[.val (.int aa), .val (.int bb), .val (.int cc), .val (.int ff), .val (.int (ff &&& (3 : Int32))), .val (.int (aa &&& (2147483647 : Int32))), .val (.int (bb &&& (2147483647 : Int32))), .val (.int (cc &&& (2147483647 : Int32))), .unset, .unset, .unset, .unset, .unset, .unset, .unset] [(.int (ff &&& (8 : Int32)))])) t) => pre552 t (by
      refine XS.ifYes X0.here hx rfl (pc0 := 26) (pc' := 42) rfl (hb hby at_26) rfl ((if0 _ _).trans (teq hc553).1) (by decide) (by decide) ?_
      refine XS.iloadN X0.here hx rfl (hb hby at_42) rfl ?_
      refine XS.bipush X0.here hx rfl (hb hby at_43) ?_
      refine XS.iand X0.here hx rfl (hb hby at_45) rfl ?_
      exact k)
    by_cases hc555 : (ff &&& (8 : Int32)) = (0 : Int32)
    · have pre556 := fun (t : State) (k : Steps p.tables e below (s₁.setTop (mkF m 62 #[.val (.int aa), .val (.int bb), .val (.int cc), .val (.int ff), .val (.int (ff &&& (3 : Int32))), .val (.int (aa &&& (2147483647 : Int32))), .val (.int (bb &&& (2147483647 : Int32))), .val (.int (cc &&& (2147483647 : Int32))), .unset, .unset, .unset, .unset, .unset, .unset, .unset] [])) t) => pre554 t (by
        refine XS.ifYes X0.here hx rfl (pc0 := 46) (pc' := 62) rfl (hb hby at_46) rfl ((if0 _ _).trans (teq hc555).1) (by decide) (by decide) ?_
        exact k)
      obtain ⟨s2, o2, hs2, hr2⟩ := t62 (ff &&& (3 : Int32)) (aa &&& (2147483647 : Int32)) (bb &&& (2147483647 : Int32)) (cc &&& (2147483647 : Int32)) s₁ _ N0 X0 e0 (own_and3 _) (own_nn _) (own_nn _) (own_nn _)
      exact ⟨s2, o2, pre556 _ hs2, hr2⟩
    · have pre557 := fun (t : State) (k : Steps p.tables e below (s₁.setTop (mkF m 62 #[.val (.int aa), .val (.int bb), .val (.int cc), .val (.int ff), .val (.int (ff &&& (3 : Int32))), .val (.int (aa &&& (2147483647 : Int32))), .val (.int (bb &&& (2147483647 : Int32))), .val (.int (((aa &&& (2147483647 : Int32)) &&& (-64 : Int32)) ||| ((cc &&& (2147483647 : Int32)) &&& (63 : Int32)))), .unset, .unset, .unset, .unset, .unset, .unset, .unset] [])) t) => pre554 t (by
        refine XS.ifNo X0.here hx rfl (hb hby at_46) rfl ((if0 _ _).trans (feq hc555).1) ?_
        refine XS.iload X0.here hx rfl (hb hby at_49) rfl ?_
        refine XS.bipush X0.here hx rfl (hb hby at_51) ?_
        refine XS.iand X0.here hx rfl (hb hby at_53) rfl ?_
        refine XS.iload X0.here hx rfl (hb hby at_54) rfl ?_
        refine XS.bipush X0.here hx rfl (hb hby at_56) ?_
        refine XS.iand X0.here hx rfl (hb hby at_58) rfl ?_
        refine XS.ior X0.here hx rfl (hb hby at_59) rfl ?_
        refine XS.istore X0.here hx rfl (hb hby at_60) rfl (l' := #[.val (.int aa), .val (.int bb), .val (.int cc), .val (.int ff), .val (.int (ff &&& (3 : Int32))), .val (.int (aa &&& (2147483647 : Int32))), .val (.int (bb &&& (2147483647 : Int32))), .val (.int (((aa &&& (2147483647 : Int32)) &&& (-64 : Int32)) ||| ((cc &&& (2147483647 : Int32)) &&& (63 : Int32)))), .unset, .unset, .unset, .unset, .unset, .unset, .unset]) rfl ?_
        exact k)
      obtain ⟨s2, o2, hs2, hr2⟩ := t62 (ff &&& (3 : Int32)) (aa &&& (2147483647 : Int32)) (bb &&& (2147483647 : Int32)) (((aa &&& (2147483647 : Int32)) &&& (-64 : Int32)) ||| ((cc &&& (2147483647 : Int32)) &&& (63 : Int32))) s₁ _ N0 X0 e0 (own_and3 _) (own_nn _) (own_nn _) (own_mix (own_nn _) _)
      exact ⟨s2, o2, pre557 _ hs2, hr2⟩
  · have pre558 := fun (t : State) (k : Steps p.tables e below (s₁.setTop (mkF m 46 #[.val (.int aa), .val (.int bb), .val (.int cc), .val (.int ff), .val (.int (ff &&& (3 : Int32))), .val (.int (aa &&& (2147483647 : Int32))), .val (.int (((aa &&& (2147483647 : Int32)) &&& (-64 : Int32)) ||| ((bb &&& (2147483647 : Int32)) &&& (63 : Int32)))), .val (.int (cc &&& (2147483647 : Int32))), .unset, .unset, .unset, .unset, .unset, .unset, .unset] [(.int (ff &&& (8 : Int32)))])) t) => pre552 t (by
      refine XS.ifNo X0.here hx rfl (hb hby at_26) rfl ((if0 _ _).trans (feq hc553).1) ?_
      refine XS.iload X0.here hx rfl (hb hby at_29) rfl ?_
      refine XS.bipush X0.here hx rfl (hb hby at_31) ?_
      refine XS.iand X0.here hx rfl (hb hby at_33) rfl ?_
      refine XS.iload X0.here hx rfl (hb hby at_34) rfl ?_
      refine XS.bipush X0.here hx rfl (hb hby at_36) ?_
      refine XS.iand X0.here hx rfl (hb hby at_38) rfl ?_
      refine XS.ior X0.here hx rfl (hb hby at_39) rfl ?_
      refine XS.istore X0.here hx rfl (hb hby at_40) rfl (l' := #[.val (.int aa), .val (.int bb), .val (.int cc), .val (.int ff), .val (.int (ff &&& (3 : Int32))), .val (.int (aa &&& (2147483647 : Int32))), .val (.int (((aa &&& (2147483647 : Int32)) &&& (-64 : Int32)) ||| ((bb &&& (2147483647 : Int32)) &&& (63 : Int32)))), .val (.int (cc &&& (2147483647 : Int32))), .unset, .unset, .unset, .unset, .unset, .unset, .unset]) rfl ?_
      refine XS.iloadN X0.here hx rfl (hb hby at_42) rfl ?_
      refine XS.bipush X0.here hx rfl (hb hby at_43) ?_
      refine XS.iand X0.here hx rfl (hb hby at_45) rfl ?_
      exact k)
    by_cases hc559 : (ff &&& (8 : Int32)) = (0 : Int32)
    · have pre560 := fun (t : State) (k : Steps p.tables e below (s₁.setTop (mkF m 62 #[.val (.int aa), .val (.int bb), .val (.int cc), .val (.int ff), .val (.int (ff &&& (3 : Int32))), .val (.int (aa &&& (2147483647 : Int32))), .val (.int (((aa &&& (2147483647 : Int32)) &&& (-64 : Int32)) ||| ((bb &&& (2147483647 : Int32)) &&& (63 : Int32)))), .val (.int (cc &&& (2147483647 : Int32))), .unset, .unset, .unset, .unset, .unset, .unset, .unset] [])) t) => pre558 t (by
        refine XS.ifYes X0.here hx rfl (pc0 := 46) (pc' := 62) rfl (hb hby at_46) rfl ((if0 _ _).trans (teq hc559).1) (by decide) (by decide) ?_
        exact k)
      obtain ⟨s2, o2, hs2, hr2⟩ := t62 (ff &&& (3 : Int32)) (aa &&& (2147483647 : Int32)) (((aa &&& (2147483647 : Int32)) &&& (-64 : Int32)) ||| ((bb &&& (2147483647 : Int32)) &&& (63 : Int32))) (cc &&& (2147483647 : Int32)) s₁ _ N0 X0 e0 (own_and3 _) (own_nn _) (own_mix (own_nn _) _) (own_nn _)
      exact ⟨s2, o2, pre560 _ hs2, hr2⟩
    · have pre561 := fun (t : State) (k : Steps p.tables e below (s₁.setTop (mkF m 62 #[.val (.int aa), .val (.int bb), .val (.int cc), .val (.int ff), .val (.int (ff &&& (3 : Int32))), .val (.int (aa &&& (2147483647 : Int32))), .val (.int (((aa &&& (2147483647 : Int32)) &&& (-64 : Int32)) ||| ((bb &&& (2147483647 : Int32)) &&& (63 : Int32)))), .val (.int (((aa &&& (2147483647 : Int32)) &&& (-64 : Int32)) ||| ((cc &&& (2147483647 : Int32)) &&& (63 : Int32)))), .unset, .unset, .unset, .unset, .unset, .unset, .unset] [])) t) => pre558 t (by
        refine XS.ifNo X0.here hx rfl (hb hby at_46) rfl ((if0 _ _).trans (feq hc559).1) ?_
        refine XS.iload X0.here hx rfl (hb hby at_49) rfl ?_
        refine XS.bipush X0.here hx rfl (hb hby at_51) ?_
        refine XS.iand X0.here hx rfl (hb hby at_53) rfl ?_
        refine XS.iload X0.here hx rfl (hb hby at_54) rfl ?_
        refine XS.bipush X0.here hx rfl (hb hby at_56) ?_
        refine XS.iand X0.here hx rfl (hb hby at_58) rfl ?_
        refine XS.ior X0.here hx rfl (hb hby at_59) rfl ?_
        refine XS.istore X0.here hx rfl (hb hby at_60) rfl (l' := #[.val (.int aa), .val (.int bb), .val (.int cc), .val (.int ff), .val (.int (ff &&& (3 : Int32))), .val (.int (aa &&& (2147483647 : Int32))), .val (.int (((aa &&& (2147483647 : Int32)) &&& (-64 : Int32)) ||| ((bb &&& (2147483647 : Int32)) &&& (63 : Int32)))), .val (.int (((aa &&& (2147483647 : Int32)) &&& (-64 : Int32)) ||| ((cc &&& (2147483647 : Int32)) &&& (63 : Int32)))), .unset, .unset, .unset, .unset, .unset, .unset, .unset]) rfl ?_
        exact k)
      obtain ⟨s2, o2, hs2, hr2⟩ := t62 (ff &&& (3 : Int32)) (aa &&& (2147483647 : Int32)) (((aa &&& (2147483647 : Int32)) &&& (-64 : Int32)) ||| ((bb &&& (2147483647 : Int32)) &&& (63 : Int32))) (((aa &&& (2147483647 : Int32)) &&& (-64 : Int32)) ||| ((cc &&& (2147483647 : Int32)) &&& (63 : Int32))) s₁ _ N0 X0 e0 (own_and3 _) (own_nn _) (own_mix (own_nn _) _) (own_mix (own_nn _) _)
      exact ⟨s2, o2, pre561 _ hs2, hr2⟩

set_option maxRecDepth 65536 in
set_option maxHeartbeats 40000000 in
theorem comes_1 {Post : Tables → Env → Array Value → State → Outcome → State → Prop} (hpost : ∀ tb e args s v u, (limb_1_1.after args s (.returned v) u = true ∧ limb_1_2.after args s (.returned v) u = true ∧ True) → FrameEnd s (.returned v) u (Jvm.fieldLocs frame_1_writes args s ++ Jvm.arrayLocs frame_1_arrays args s ++ Jvm.staticLocs frame_1_statics s) 24 128 → Post tb e args s (.returned v) u) :
    ArmFor flags0 classFile x code maxLocals ret World_1 tables_1 room_1 Calls_1 rest_1 Pre_1 Post := by
  intro l hfl _ _ p e ha hc hk s m args below hf hA hF happ hP
  obtain ⟨hcalls, hrest, hpre⟩ := hP
  obtain ⟨-, -, -, hnamed, -, -, -, hat⟩ := (Spec.applies_iff hf).mp happ
  obtain ⟨hg, hn⟩ := and_e (Cond.before_iff.mp (show (Jvm.Cond.and given_1 narrow_1).before args s = true from hpre))
  obtain ⟨g1, g2⟩ := and_e hg
  obtain ⟨g3, g4⟩ := and_e g2
  obtain ⟨g5, g6⟩ := and_e g4
  obtain ⟨g7, g8⟩ := and_e g6
  obtain ⟨g9, g10⟩ := and_e hn
  obtain ⟨g11, g12⟩ := and_e g10
  obtain ⟨g13, g14⟩ := and_e g12
  obtain ⟨g15, g16⟩ := and_e g14
  obtain ⟨g17, g18⟩ := and_e g16
  obtain ⟨w0, w1, w2, w3, rfl⟩ : ∃ w0 w1 w2 w3 : Value, args = #[w0, w1, w2, w3] := by
    have hs : args.size = 4 := by simpa [Cond.value, given_1] using g1
    obtain ⟨L⟩ := args
    match L, hs with
    | [w0, w1, w2, w3], _ => exact ⟨w0, w1, w2, w3, rfl⟩
  have hw := fun d (hd : d ∈ tables_1) => atoms_spec (ws := Jvm.Cond.code x code maxLocals ret :: tables_1) hat d (List.mem_cons_of_mem _ hd)
  have hfit : Fit s := fun {y c} hc i hi => by
    obtain ⟨ha, rfl⟩ := Array.getElem?_eq_some_iff.mp hc
    have q := List.all_eq_true.mp ((Array.all_eq_true_iff_forall_mem.mp hF) _ (Array.getElem_mem ha)) i (List.mem_range.mpr hi)
    simpa [Array.getElem?_eq_getElem hi] using q
  obtain ⟨i0, ei0⟩ := is_v g3
  obtain rfl : w0 = (.int i0) := Option.some.inj ei0
  obtain ⟨i1, ei1⟩ := is_v g5
  obtain rfl : w1 = (.int i1) := Option.some.inj ei1
  obtain ⟨i2, ei2⟩ := is_v g7
  obtain rfl : w2 = (.int i2) := Option.some.inj ei2
  obtain ⟨i3, ei3⟩ := is_v g8
  obtain rfl : w3 = (.int i3) := Option.some.inj ei3
  obtain ⟨z_Dependencies_NO_KEYS, ez_Dependencies_NO_KEYS⟩ := arr_v g9
  have S_z_Dependencies_NO_KEYS := Sta.start (Z := s) ez_Dependencies_NO_KEYS (Or.inr ⟨(own_w hw 3 rfl), (own_w hw 11 rfl)⟩)
  obtain ⟨z_Dependencies_NO_WORDS, ez_Dependencies_NO_WORDS⟩ := arr_v g15
  have S_z_Dependencies_NO_WORDS := Sta.start (Z := s) ez_Dependencies_NO_WORDS (Or.inr ⟨(own_w hw 3 rfl), (own_w hw 15 rfl)⟩)
  obtain ⟨cK, AcK⟩ := Arr.start ez_Dependencies_NO_KEYS g9
  obtain ⟨lq1cK, lq2cK⟩ := own_len ez_Dependencies_NO_KEYS AcK.1 g13
  have V_z_Dependencies_NO_KEYS : Arv s s.heap z_Dependencies_NO_KEYS cK.cls .int (0 : Int32) [] (.int (0 : Int32)) := Arv.start hfit AcK lq1cK lq2cK (by decide) (by rfl) trivial
  obtain ⟨cW, AcW⟩ := Arr.start ez_Dependencies_NO_WORDS g15
  obtain ⟨lq1cW, lq2cW⟩ := own_len ez_Dependencies_NO_WORDS AcW.1 g18
  have V_z_Dependencies_NO_WORDS : Arv s s.heap z_Dependencies_NO_WORDS cW.cls .long (0 : Int32) [] (.long (0 : Int64)) := Arv.start hfit AcW lq1cW lq2cW (by decide) (by rfl) trivial
  obtain ⟨n, o, h1, h2, h3, _, L, rfl, ⟨rfl, N, -⟩, hq⟩ := rm_law l s _ hw tables_1 i0 i1 i2 i3 z_Dependencies_NO_KEYS z_Dependencies_NO_WORDS cK.cls cW.cls s.heap s.heap.size (Nat.le_refl _) S_z_Dependencies_NO_KEYS S_z_Dependencies_NO_WORDS V_z_Dependencies_NO_KEYS V_z_Dependencies_NO_WORDS p e ha hc hk s m _ below hf ((Spec.applies_iff_loose hf).mp happ).1 ⟨rfl, State.Warmed39.refl s, rfl⟩ trivial
  refine ⟨n, _, h1, h2, h3, hpost _ _ _ _ _ _ ⟨Cond.after_iff.mpr rfl, Cond.after_iff.mpr (eq_i res_at (Term.int_eval (1)) rfl), trivial⟩ ⟨hq.1, hq.2.1, (hq.2.2.sift fun y hy => Or.inr (N y hy)).mono (by decide) (by decide)⟩⟩
theorem main_1_1 : Claimed_1_1 := comes_1 fun _ _ _ _ _ _ h hF => ⟨h.1, hF⟩
theorem main_1_2 : Claimed_1_2 := comes_1 fun _ _ _ _ _ _ h hF => ⟨h.2.1, hF⟩
end Jvm.Pilot.@@N@@
namespace Jvm.Pilot.@@N@@
open Jvm Jvm.ClassFile Sem Op Lib Jvm.Free Jvm.Stand Jvm.Pilot.@@N@@.Jvm.D
/-! MADE BY PROGRAM (witnessworld.py) out of the Statement's table words and the real class files: 20 classes; the members and pool entries that the words name. The judged class is class 1, her method 1. -/
namespace start1
open Jvm.ClassFile
def u (s : String) : CpInfo := .utf8 (stringToUtf16 s)
/-- a pool by its gaps: so many unusable entries, then the entry; so many at the end -/
def gap : Nat → List CpInfo → List CpInfo
  | 0, r => r
  | n + 1, r => .unusable :: gap n r
def poolList (es : List (Nat × CpInfo)) (last : Nat) : List CpInfo := es.foldr (fun e r => gap e.1 (e.2 :: r)) (gap last [])
def pool (es : List (Nat × CpInfo)) (last : Nat) : Array CpInfo := ⟨poolList es last⟩
def fileOf (pool : Array CpInfo) (this : Nat) (attrs : Array Attribute := #[]) (ms : Array MethodInfo := #[]) (fl : Nat := 33) (sup : Nat := 0) (ifs : Array Nat := #[]) (fds : Array FieldInfo := #[]) : ClassFile where
  minorVersion := 0
  majorVersion := 65
  constantPool := pool
  accessFlags := fl
  thisClass := this
  superClass := sup
  interfaces := ifs
  fields := fds
  methods := ms
  attributes := attrs
def plain (name : String) (sup : Option ClassId) : Class where
  name := name
  kind := .ordinary
  loader := none
  accessFlags := 33
  super := sup
  interfaces := #[]
  cf := none
  fields := #[]
  methods := #[]
  instanceTypes := #[]
  staticTypes := #[]
  resolved := #[]
  callSites := []
  init := .initialized
  statics := none
  mirror := none

def pool0 : Array CpInfo := pool [(5, u "<init>"), (0, u "()V"), (1, .class_ 10), (1, u "java/lang/Object")] 113

def k0c0 : Code := { maxStack := 0, maxLocals := 1, code := object_method_1_code, exceptionTable := #[], attributes := #[] }
def k0m0 : Method := { name := "<init>", desc := "()V", sig := { parameters := [], returnType := none }, accessFlags := 1, code := some k0c0 }
/-- java/lang/Object -/
def k0 : Class := { plain "java/lang/Object" none with
  accessFlags := 33
  interfaces := #[]
  cf := some (fileOf pool0 8 #[] #[{ accessFlags := 1, nameIndex := 5, descriptorIndex := 6, attributes := #[] }] 33 0 #[] #[])
  fields := #[]
  methods := #[k0m0]
  instanceTypes := #[]
  staticTypes := #[]
  resolved := Array.replicate 124 none
  statics := none }

def pool1 : Array CpInfo := pool [(2, .class_ 4), (0, .nameAndType 5 6), (0, u "java/lang/Object"), (0, u "<init>"), (0, u "()V"), (0, .integer 2147483647), (0, .class_ 9), (0, u "org/tallyrole/core/Dependencies"), (0, .methodref 8 3), (0, .methodref 8 12), (0, .nameAndType 13 14), (0, u "add"), (0, u "(I)V"), (0, .methodref 8 16), (0, .nameAndType 17 14), (0, u "remove"), (0, .methodref 19 20), (0, .class_ 21), (0, .nameAndType 22 23), (0, u "java/lang/Math"), (0, u "max"), (0, u "(II)I"), (0, .methodref 8 25), (0, .nameAndType 26 27), (0, u "latest"), (0, u "()I"), (0, .class_ 29), (0, u "org/tallyrole/core/DependenciesLatestPinLaw"), (2, u "law"), (0, u "(IIII)Z")] 3

def k1m0 : Method := { name := "<init>", desc := "()V", sig := { parameters := [], returnType := none }, accessFlags := 1, code := none }
def k1c1 : Code := { maxStack := 3, maxLocals := 15, code := code, exceptionTable := #[], attributes := #[] }
def k1m1 : Method := { name := "law", desc := "(IIII)Z", sig := { parameters := [.int, .int, .int, .int], returnType := some .boolean }, accessFlags := 9, code := some k1c1 }
/-- org/tallyrole/core/DependenciesLatestPinLaw -/
def k1 : Class := { plain "org/tallyrole/core/DependenciesLatestPinLaw" (some 0) with
  accessFlags := 49
  interfaces := #[]
  cf := some (fileOf pool1 28 #[] #[{ accessFlags := 1, nameIndex := 5, descriptorIndex := 6, attributes := #[] }, { accessFlags := 9, nameIndex := 32, descriptorIndex := 33, attributes := #[] }] 49 2 #[] #[])
  fields := #[]
  methods := #[k1m0, k1m1]
  instanceTypes := #[]
  staticTypes := #[]
  resolved := Array.replicate 37 none
  statics := none }

def pool2 : Array CpInfo := pool [(1, .methodref 2 3), (0, .class_ 4), (0, .nameAndType 5 6), (0, u "java/lang/Object"), (0, u "<init>"), (0, u "()V"), (0, .fieldref 8 9), (0, .class_ 10), (0, .nameAndType 11 12), (0, u "org/tallyrole/core/Dependencies"), (0, u "NO_KEYS"), (0, u "[I"), (0, .fieldref 8 14), (0, .nameAndType 15 12), (0, u "keys"), (0, .fieldref 8 17), (0, .nameAndType 18 19), (0, u "NO_WORDS"), (0, u "[J"), (0, .fieldref 8 21), (0, .nameAndType 22 19), (0, u "words"), (0, .fieldref 8 24), (0, .nameAndType 25 26), (0, u "size"), (0, u "I"), (0, .fieldref 8 28), (0, .nameAndType 29 30), (0, u "shared"), (0, u "Z"), (12, .methodref 44 45), (0, .class_ 46), (0, .nameAndType 47 48), (0, u "java/util/Arrays"), (0, u "binarySearch"), (0, u "([IIII)I"), (0, .methodref 8 50), (0, .nameAndType 51 52), (0, u "reserve"), (0, u "(I)V"), (0, .methodref 54 55), (0, .class_ 56), (0, .nameAndType 57 58), (0, u "java/lang/System"), (0, u "arraycopy"), (0, u "(Ljava/lang/Object;ILjava/lang/Object;II)V"), (4, .long 18446744073709551615), (1, .methodref 66 67), (0, .class_ 68), (0, .nameAndType 69 70), (0, u "java/lang/Long"), (0, u "numberOfLeadingZeros"), (0, u "(J)I"), (0, .methodref 44 72), (0, .nameAndType 73 74), (0, u "copyOf"), (0, u "([II)[I"), (0, .methodref 44 76), (0, .nameAndType 73 77), (0, u "([JI)[J"), (16, u "add"), (10, u "remove"), (0, u "latest"), (0, u "()I")] 3

def k2c0 : Code := { maxStack := 2, maxLocals := 1, code := prog_36_method_1_code, exceptionTable := #[], attributes := #[] }
def k2m0 : Method := { name := "<init>", desc := "()V", sig := { parameters := [], returnType := none }, accessFlags := 0, code := some k2c0 }
def k2c1 : Code := { maxStack := 6, maxLocals := 7, code := prog_36_method_5_code, exceptionTable := #[], attributes := #[] }
def k2m1 : Method := { name := "add", desc := "(I)V", sig := { parameters := [.int], returnType := none }, accessFlags := 0, code := some k2c1 }
def k2c2 : Code := { maxStack := 8, maxLocals := 5, code := prog_36_method_8_code, exceptionTable := #[], attributes := #[] }
def k2m2 : Method := { name := "remove", desc := "(I)V", sig := { parameters := [.int], returnType := none }, accessFlags := 0, code := some k2c2 }
def k2c3 : Code := { maxStack := 5, maxLocals := 1, code := prog_36_method_9_code, exceptionTable := #[], attributes := #[] }
def k2m3 : Method := { name := "latest", desc := "()I", sig := { parameters := [], returnType := some .int }, accessFlags := 0, code := some k2c3 }
def k2c4 : Code := { maxStack := 3, maxLocals := 3, code := prog_36_method_10_code, exceptionTable := #[], attributes := #[] }
def k2m4 : Method := { name := "reserve", desc := "(I)V", sig := { parameters := [.int], returnType := none }, accessFlags := 2, code := some k2c4 }
/-- org/tallyrole/core/Dependencies -/
def k2 : Class := { plain "org/tallyrole/core/Dependencies" (some 0) with
  accessFlags := 48
  interfaces := #[]
  cf := some (fileOf pool2 8 #[] #[{ accessFlags := 0, nameIndex := 5, descriptorIndex := 6, attributes := #[] }, { accessFlags := 0, nameIndex := 94, descriptorIndex := 52, attributes := #[] }, { accessFlags := 0, nameIndex := 105, descriptorIndex := 52, attributes := #[] }, { accessFlags := 0, nameIndex := 106, descriptorIndex := 107, attributes := #[] }, { accessFlags := 2, nameIndex := 51, descriptorIndex := 52, attributes := #[] }] 48 2 #[] #[{ accessFlags := 26, nameIndex := 11, descriptorIndex := 12, attributes := #[] }, { accessFlags := 26, nameIndex := 18, descriptorIndex := 19, attributes := #[] }, { accessFlags := 2, nameIndex := 15, descriptorIndex := 12, attributes := #[] }, { accessFlags := 2, nameIndex := 22, descriptorIndex := 19, attributes := #[] }, { accessFlags := 2, nameIndex := 25, descriptorIndex := 26, attributes := #[] }, { accessFlags := 2, nameIndex := 29, descriptorIndex := 30, attributes := #[] }])
  fields := #[{ name := "NO_KEYS", type := (.array .int), accessFlags := 26, slot := 0, constantValue := 0 }, { name := "NO_WORDS", type := (.array .long), accessFlags := 26, slot := 1, constantValue := 0 }, { name := "keys", type := (.array .int), accessFlags := 2, slot := 0, constantValue := 0 }, { name := "words", type := (.array .long), accessFlags := 2, slot := 1, constantValue := 0 }, { name := "size", type := .int, accessFlags := 2, slot := 2, constantValue := 0 }, { name := "shared", type := .boolean, accessFlags := 2, slot := 3, constantValue := 0 }]
  methods := #[k2m0, k2m1, k2m2, k2m3, k2m4]
  instanceTypes := #[(.array .int), (.array .long), .int, .boolean]
  staticTypes := #[(.array .int), (.array .long)]
  resolved := Array.replicate 111 none
  statics := some 0 }

def pool3 : Array CpInfo := pool [(2, .class_ 4), (1, u "java/lang/Object"), (0, u "<init>"), (0, u "()V"), (6, .methodref 14 15), (0, .class_ 16), (0, .nameAndType 17 18), (0, u "java/util/Arrays"), (0, u "rangeCheck"), (0, u "(III)V"), (55, .class_ 76), (1, u "java/util/Arrays$NaturalOrder"), (36, .class_ 115), (1, u "java/util/Arrays$LegacyMergeSort"), (1, u "Z"), (32, .methodref 151 152), (0, .class_ 153), (0, .nameAndType 154 155), (0, u "java/lang/System"), (0, u "arraycopy"), (0, u "(Ljava/lang/Object;ILjava/lang/Object;II)V"), (51, u "binarySearch0"), (1, .methodref 14 210), (0, .nameAndType 207 211), (0, u "([IIII)I"), (90, u "copyOf"), (1, .methodref 305 306), (0, .class_ 307), (0, .nameAndType 308 309), (0, u "java/lang/Math"), (0, u "min"), (0, u "(II)I"), (65, .class_ 376), (0, u "java/util/Arrays$ArrayList"), (68, u "$assertionsDisabled"), (269, u "MIN_ARRAY_SORT_GRAN"), (0, u "I"), (2, u "INSERTIONSORT_THRESHOLD"), (74, u "binarySearch"), (76, u "([II)[I"), (0, u "([JI)[J"), (102, .class_ 976), (0, u "java/util/Arrays$ArrayItr")] 52

def k3m0 : Method := { name := "<init>", desc := "()V", sig := { parameters := [], returnType := none }, accessFlags := 2, code := none }
def k3c1 : Code := { maxStack := 4, maxLocals := 3, code := jdk_65_method_30_code, exceptionTable := #[], attributes := #[] }
def k3m1 : Method := { name := "rangeCheck", desc := "(III)V", sig := { parameters := [.int, .int, .int], returnType := none }, accessFlags := 8, code := some k3c1 }
def k3c2 : Code := { maxStack := 4, maxLocals := 4, code := jdk_65_method_58_code, exceptionTable := #[], attributes := #[] }
def k3m2 : Method := { name := "binarySearch", desc := "([IIII)I", sig := { parameters := [(.array .int), .int, .int, .int], returnType := some .int }, accessFlags := 9, code := some k3c2 }
def k3c3 : Code := { maxStack := 2, maxLocals := 8, code := jdk_65_method_59_code, exceptionTable := #[], attributes := #[] }
def k3m3 : Method := { name := "binarySearch0", desc := "([IIII)I", sig := { parameters := [(.array .int), .int, .int, .int], returnType := some .int }, accessFlags := 10, code := some k3c3 }
def k3c4 : Code := { maxStack := 6, maxLocals := 3, code := jdk_65_method_123_code, exceptionTable := #[], attributes := #[] }
def k3m4 : Method := { name := "copyOf", desc := "([II)[I", sig := { parameters := [(.array .int), .int], returnType := some (.array .int) }, accessFlags := 9, code := some k3c4 }
def k3c5 : Code := { maxStack := 6, maxLocals := 3, code := jdk_65_method_124_code, exceptionTable := #[], attributes := #[] }
def k3m5 : Method := { name := "copyOf", desc := "([JI)[J", sig := { parameters := [(.array .long), .int], returnType := some (.array .long) }, accessFlags := 9, code := some k3c5 }
/-- java/util/Arrays -/
def k3 : Class := { plain "java/util/Arrays" (some 0) with
  accessFlags := 49
  interfaces := #[]
  cf := some (fileOf pool3 14 #[.nestMembers #[975, 375, 113, 74]] #[{ accessFlags := 2, nameIndex := 5, descriptorIndex := 6, attributes := #[] }, { accessFlags := 8, nameIndex := 17, descriptorIndex := 18, attributes := #[] }, { accessFlags := 9, nameIndex := 794, descriptorIndex := 211, attributes := #[] }, { accessFlags := 10, nameIndex := 207, descriptorIndex := 211, attributes := #[] }, { accessFlags := 9, nameIndex := 302, descriptorIndex := 871, attributes := #[] }, { accessFlags := 9, nameIndex := 302, descriptorIndex := 872, attributes := #[] }] 49 2 #[] #[{ accessFlags := 26, nameIndex := 715, descriptorIndex := 716, attributes := #[] }, { accessFlags := 26, nameIndex := 719, descriptorIndex := 716, attributes := #[] }, { accessFlags := 4120, nameIndex := 445, descriptorIndex := 117, attributes := #[] }])
  fields := #[{ name := "MIN_ARRAY_SORT_GRAN", type := .int, accessFlags := 26, slot := 0, constantValue := 0 }, { name := "INSERTIONSORT_THRESHOLD", type := .int, accessFlags := 26, slot := 1, constantValue := 0 }, { name := "$assertionsDisabled", type := .boolean, accessFlags := 4120, slot := 2, constantValue := 0 }]
  methods := #[k3m0, k3m1, k3m2, k3m3, k3m4, k3m5]
  instanceTypes := #[]
  staticTypes := #[.int, .int, .boolean]
  resolved := Array.replicate 1029 none
  statics := none }

def pool4 : Array CpInfo := pool [(1, .class_ 2), (0, u "java/lang/Math"), (1, .class_ 6), (1, u "java/lang/Object"), (0, u "<init>"), (0, u "()V"), (89, .class_ 100), (1, u "java/lang/Math$RandomNumberGeneratorHolder"), (71, u "negativeZeroFloatBits"), (0, u "J"), (2, u "negativeZeroDoubleBits"), (21, u "max"), (2, u "min"), (43, u "$assertionsDisabled"), (0, u "Z"), (88, u "(II)I"), (2, u "twoToTheDoubleScaleDown"), (0, u "D"), (4, u "twoToTheDoubleScaleUp"), (9, u "E"), (3, u "PI"), (2, u "TAU"), (2, u "DEGREES_TO_RADIANS"), (0, u "RADIANS_TO_DEGREES")] 94

def k4m0 : Method := { name := "<init>", desc := "()V", sig := { parameters := [], returnType := none }, accessFlags := 2, code := none }
def k4c1 : Code := { maxStack := 2, maxLocals := 2, code := jdk_29_method_65_code, exceptionTable := #[], attributes := #[] }
def k4m1 : Method := { name := "max", desc := "(II)I", sig := { parameters := [.int, .int], returnType := some .int }, accessFlags := 9, code := some k4c1 }
def k4c2 : Code := { maxStack := 2, maxLocals := 2, code := jdk_29_method_69_code, exceptionTable := #[], attributes := #[] }
def k4m2 : Method := { name := "min", desc := "(II)I", sig := { parameters := [.int, .int], returnType := some .int }, accessFlags := 9, code := some k4c2 }
/-- java/lang/Math -/
def k4 : Class := { plain "java/lang/Math" (some 0) with
  accessFlags := 49
  interfaces := #[]
  cf := some (fileOf pool4 1 #[.nestMembers #[98]] #[{ accessFlags := 2, nameIndex := 7, descriptorIndex := 8, attributes := #[] }, { accessFlags := 9, nameIndex := 198, descriptorIndex := 335, attributes := #[] }, { accessFlags := 9, nameIndex := 201, descriptorIndex := 335, attributes := #[] }] 49 4 #[] #[{ accessFlags := 25, nameIndex := 354, descriptorIndex := 339, attributes := #[] }, { accessFlags := 25, nameIndex := 358, descriptorIndex := 339, attributes := #[] }, { accessFlags := 25, nameIndex := 361, descriptorIndex := 339, attributes := #[] }, { accessFlags := 26, nameIndex := 364, descriptorIndex := 339, attributes := #[] }, { accessFlags := 26, nameIndex := 365, descriptorIndex := 339, attributes := #[] }, { accessFlags := 26, nameIndex := 172, descriptorIndex := 173, attributes := #[] }, { accessFlags := 26, nameIndex := 176, descriptorIndex := 173, attributes := #[] }, { accessFlags := 8, nameIndex := 344, descriptorIndex := 339, attributes := #[] }, { accessFlags := 8, nameIndex := 338, descriptorIndex := 339, attributes := #[] }, { accessFlags := 4120, nameIndex := 245, descriptorIndex := 246, attributes := #[] }])
  fields := #[{ name := "E", type := .double, accessFlags := 25, slot := 0, constantValue := 0 }, { name := "PI", type := .double, accessFlags := 25, slot := 1, constantValue := 0 }, { name := "TAU", type := .double, accessFlags := 25, slot := 2, constantValue := 0 }, { name := "DEGREES_TO_RADIANS", type := .double, accessFlags := 26, slot := 3, constantValue := 0 }, { name := "RADIANS_TO_DEGREES", type := .double, accessFlags := 26, slot := 4, constantValue := 0 }, { name := "negativeZeroFloatBits", type := .long, accessFlags := 26, slot := 5, constantValue := 0 }, { name := "negativeZeroDoubleBits", type := .long, accessFlags := 26, slot := 6, constantValue := 0 }, { name := "twoToTheDoubleScaleUp", type := .double, accessFlags := 8, slot := 7, constantValue := 0 }, { name := "twoToTheDoubleScaleDown", type := .double, accessFlags := 8, slot := 8, constantValue := 0 }, { name := "$assertionsDisabled", type := .boolean, accessFlags := 4120, slot := 9, constantValue := 0 }]
  methods := #[k4m0, k4m1, k4m2]
  instanceTypes := #[]
  staticTypes := #[.double, .double, .double, .double, .double, .long, .long, .double, .double, .boolean]
  resolved := Array.replicate 460 none
  statics := none }

def pool5 : Array CpInfo := pool [(2, .class_ 4), (1, u "java/lang/Object"), (0, u "<init>"), (0, u "()V"), (1, .class_ 10), (1, u "java/lang/System"), (0, u "allowSecurityManager"), (0, u "I"), (16, u "cons"), (0, u "Ljava/io/Console;"), (77, .class_ 110), (1, u "java/lang/System$CallersHolder"), (43, u "initialErrStream"), (0, u "Ljava/io/PrintStream;"), (19, u "security"), (0, u "Ljava/lang/SecurityManager;"), (31, .class_ 209), (0, u "java/lang/System$1"), (7, u "props"), (0, u "Ljava/util/Properties;"), (2, u "lineSeparator"), (0, u "Ljava/lang/String;"), (96, .class_ 321), (1, u "java/lang/System$LoggerFinder"), (5, .class_ 328), (0, u "java/lang/System$Logger"), (67, u "err"), (2, u "out"), (91, u "notSupportedJnuEncoding"), (15, u "in"), (17, u "initialIn"), (0, u "Ljava/io/InputStream;"), (35, u "bootLayer"), (0, u "Ljava/lang/ModuleLayer;"), (99, .class_ 664), (0, u "java/lang/System$2"), (9, u "NEVER"), (2, u "MAYBE"), (49, u "arraycopy"), (0, u "(Ljava/lang/Object;ILjava/lang/Object;II)V"), (72, .class_ 802), (0, u "java/lang/System$Logger$Level")] 31

def k5m0 : Method := { name := "<init>", desc := "()V", sig := { parameters := [], returnType := none }, accessFlags := 2, code := none }
def k5m1 : Method := { name := "arraycopy", desc := "(Ljava/lang/Object;ILjava/lang/Object;II)V", sig := { parameters := [(.object "java/lang/Object"), .int, (.object "java/lang/Object"), .int, .int], returnType := none }, accessFlags := 265, code := none }
/-- java/lang/System -/
def k5 : Class := { plain "java/lang/System" (some 0) with
  accessFlags := 49
  interfaces := #[]
  cf := some (fileOf pool5 8 #[.nestMembers #[319, 327, 801, 108, 663, 208]] #[{ accessFlags := 2, nameIndex := 5, descriptorIndex := 6, attributes := #[] }, { accessFlags := 265, nameIndex := 727, descriptorIndex := 728, attributes := #[] }] 49 2 #[] #[{ accessFlags := 25, nameIndex := 507, descriptorIndex := 526, attributes := #[] }, { accessFlags := 25, nameIndex := 399, descriptorIndex := 155, attributes := #[] }, { accessFlags := 25, nameIndex := 396, descriptorIndex := 155, attributes := #[] }, { accessFlags := 10, nameIndex := 525, descriptorIndex := 526, attributes := #[] }, { accessFlags := 26, nameIndex := 674, descriptorIndex := 12, attributes := #[] }, { accessFlags := 26, nameIndex := 677, descriptorIndex := 12, attributes := #[] }, { accessFlags := 10, nameIndex := 11, descriptorIndex := 12, attributes := #[] }, { accessFlags := 74, nameIndex := 175, descriptorIndex := 176, attributes := #[] }, { accessFlags := 10, nameIndex := 491, descriptorIndex := 222, attributes := #[] }, { accessFlags := 74, nameIndex := 29, descriptorIndex := 30, attributes := #[] }, { accessFlags := 74, nameIndex := 154, descriptorIndex := 155, attributes := #[] }, { accessFlags := 10, nameIndex := 217, descriptorIndex := 218, attributes := #[] }, { accessFlags := 10, nameIndex := 221, descriptorIndex := 222, attributes := #[] }, { accessFlags := 8, nameIndex := 562, descriptorIndex := 563, attributes := #[] }])
  fields := #[{ name := "in", type := (.object "java/io/InputStream"), accessFlags := 25, slot := 0, constantValue := 0 }, { name := "out", type := (.object "java/io/PrintStream"), accessFlags := 25, slot := 1, constantValue := 0 }, { name := "err", type := (.object "java/io/PrintStream"), accessFlags := 25, slot := 2, constantValue := 0 }, { name := "initialIn", type := (.object "java/io/InputStream"), accessFlags := 10, slot := 3, constantValue := 0 }, { name := "NEVER", type := .int, accessFlags := 26, slot := 4, constantValue := 0 }, { name := "MAYBE", type := .int, accessFlags := 26, slot := 5, constantValue := 0 }, { name := "allowSecurityManager", type := .int, accessFlags := 10, slot := 6, constantValue := 0 }, { name := "security", type := (.object "java/lang/SecurityManager"), accessFlags := 74, slot := 7, constantValue := 0 }, { name := "notSupportedJnuEncoding", type := (.object "java/lang/String"), accessFlags := 10, slot := 8, constantValue := 0 }, { name := "cons", type := (.object "java/io/Console"), accessFlags := 74, slot := 9, constantValue := 0 }, { name := "initialErrStream", type := (.object "java/io/PrintStream"), accessFlags := 74, slot := 10, constantValue := 0 }, { name := "props", type := (.object "java/util/Properties"), accessFlags := 10, slot := 11, constantValue := 0 }, { name := "lineSeparator", type := (.object "java/lang/String"), accessFlags := 10, slot := 12, constantValue := 0 }, { name := "bootLayer", type := (.object "java/lang/ModuleLayer"), accessFlags := 8, slot := 13, constantValue := 0 }]
  methods := #[k5m0, k5m1]
  instanceTypes := #[]
  staticTypes := #[(.object "java/io/InputStream"), (.object "java/io/PrintStream"), (.object "java/io/PrintStream"), (.object "java/io/InputStream"), .int, .int, .int, (.object "java/lang/SecurityManager"), (.object "java/lang/String"), (.object "java/io/Console"), (.object "java/io/PrintStream"), (.object "java/util/Properties"), (.object "java/lang/String"), (.object "java/lang/ModuleLayer")]
  resolved := Array.replicate 834 none
  statics := none }

def pool6 : Array CpInfo := pool [(1, .class_ 2), (0, u "java/io/Serializable"), (0, .class_ 4), (0, u "java/lang/Object")] 2

/-- java/io/Serializable -/
def k6 : Class := { plain "java/io/Serializable" (some 0) with
  accessFlags := 1537
  interfaces := #[]
  cf := some (fileOf pool6 1 #[] #[] 1537 3 #[] #[])
  fields := #[]
  methods := #[]
  instanceTypes := #[]
  staticTypes := #[]
  resolved := Array.replicate 7 none
  statics := none }

def pool7 : Array CpInfo := pool [(2, .class_ 4), (1, u "java/lang/Object"), (0, u "<init>"), (0, u "()V"), (1, .class_ 10), (1, u "java/lang/Number"), (2, .class_ 14), (0, u "java/io/Serializable"), (0, u "serialVersionUID"), (0, u "J")] 20

def k7m0 : Method := { name := "<init>", desc := "()V", sig := { parameters := [], returnType := none }, accessFlags := 1, code := none }
/-- java/lang/Number -/
def k7 : Class := { plain "java/lang/Number" (some 0) with
  accessFlags := 1057
  interfaces := #[6]
  cf := some (fileOf pool7 8 #[] #[{ accessFlags := 1, nameIndex := 5, descriptorIndex := 6, attributes := #[] }] 1057 2 #[13] #[{ accessFlags := 26, nameIndex := 15, descriptorIndex := 16, attributes := #[] }])
  fields := #[{ name := "serialVersionUID", type := .long, accessFlags := 26, slot := 0, constantValue := 0 }]
  methods := #[k7m0]
  instanceTypes := #[]
  staticTypes := #[.long]
  resolved := Array.replicate 37 none
  statics := none }

def pool8 : Array CpInfo := pool [(1, .class_ 2), (0, u "java/lang/Comparable"), (0, .class_ 4), (0, u "java/lang/Object")] 7

/-- java/lang/Comparable -/
def k8 : Class := { plain "java/lang/Comparable" (some 0) with
  accessFlags := 1537
  interfaces := #[]
  cf := some (fileOf pool8 1 #[] #[] 1537 3 #[] #[])
  fields := #[]
  methods := #[]
  instanceTypes := #[]
  staticTypes := #[]
  resolved := Array.replicate 12 none
  statics := none }

def pool9 : Array CpInfo := pool [(1, .class_ 2), (0, u "java/lang/constant/Constable"), (0, .class_ 4), (0, u "java/lang/Object")] 6

/-- java/lang/constant/Constable -/
def k9 : Class := { plain "java/lang/constant/Constable" (some 0) with
  accessFlags := 1537
  interfaces := #[]
  cf := some (fileOf pool9 1 #[] #[] 1537 3 #[] #[])
  fields := #[]
  methods := #[]
  instanceTypes := #[]
  staticTypes := #[]
  resolved := Array.replicate 11 none
  statics := none }

def pool10 : Array CpInfo := pool [(1, .class_ 2), (0, u "java/lang/constant/ConstantDesc"), (0, .class_ 4), (0, u "java/lang/Object")] 32

/-- java/lang/constant/ConstantDesc -/
def k10 : Class := { plain "java/lang/constant/ConstantDesc" (some 0) with
  accessFlags := 1537
  interfaces := #[]
  cf := some (fileOf pool10 1 #[] #[] 1537 3 #[] #[])
  fields := #[]
  methods := #[]
  instanceTypes := #[]
  staticTypes := #[]
  resolved := Array.replicate 37 none
  statics := none }

def pool11 : Array CpInfo := pool [(1, .class_ 2), (0, u "java/lang/Long"), (15, .class_ 20), (1, u "java/lang/Integer"), (79, u "numberOfLeadingZeros"), (0, u "(J)I"), (133, .class_ 237), (1, u "java/lang/Long$LongCache"), (33, .class_ 272), (0, u "java/lang/Number"), (2, u "value"), (0, u "J"), (31, .methodref 18 309), (0, .nameAndType 100 310), (0, u "(I)I"), (50, u "TYPE"), (0, u "Ljava/lang/Class;"), (0, .class_ 364), (0, u "java/lang/Comparable"), (0, .class_ 366), (0, u "java/lang/constant/Constable"), (0, .class_ 368), (0, u "java/lang/constant/ConstantDesc"), (0, u "MIN_VALUE"), (1, u "MAX_VALUE"), (4, u "SIZE"), (0, u "I"), (1, u "BYTES"), (1, u "serialVersionUID")] 142

def k11c0 : Code := { maxStack := 3, maxLocals := 3, code := jdk_35_method_48_code, exceptionTable := #[], attributes := #[] }
def k11m0 : Method := { name := "numberOfLeadingZeros", desc := "(J)I", sig := { parameters := [.long], returnType := some .int }, accessFlags := 9, code := some k11c0 }
/-- java/lang/Long -/
def k11 : Class := { plain "java/lang/Long" (some 7) with
  accessFlags := 49
  interfaces := #[8, 9, 10]
  cf := some (fileOf pool11 1 #[.nestMembers #[235]] #[{ accessFlags := 9, nameIndex := 100, descriptorIndex := 101, attributes := #[] }] 49 271 #[363, 365, 367] #[{ accessFlags := 25, nameIndex := 369, descriptorIndex := 276, attributes := #[] }, { accessFlags := 25, nameIndex := 371, descriptorIndex := 276, attributes := #[] }, { accessFlags := 25, nameIndex := 361, descriptorIndex := 362, attributes := #[] }, { accessFlags := 18, nameIndex := 275, descriptorIndex := 276, attributes := #[] }, { accessFlags := 25, nameIndex := 376, descriptorIndex := 377, attributes := #[] }, { accessFlags := 25, nameIndex := 379, descriptorIndex := 377, attributes := #[] }, { accessFlags := 26, nameIndex := 381, descriptorIndex := 276, attributes := #[] }])
  fields := #[{ name := "MIN_VALUE", type := .long, accessFlags := 25, slot := 0, constantValue := 0 }, { name := "MAX_VALUE", type := .long, accessFlags := 25, slot := 1, constantValue := 0 }, { name := "TYPE", type := (.object "java/lang/Class"), accessFlags := 25, slot := 2, constantValue := 0 }, { name := "value", type := .long, accessFlags := 18, slot := 0, constantValue := 0 }, { name := "SIZE", type := .int, accessFlags := 25, slot := 3, constantValue := 0 }, { name := "BYTES", type := .int, accessFlags := 25, slot := 4, constantValue := 0 }, { name := "serialVersionUID", type := .long, accessFlags := 26, slot := 5, constantValue := 0 }]
  methods := #[k11m0]
  instanceTypes := #[.long]
  staticTypes := #[.long, .long, (.object "java/lang/Class"), .int, .int, .long]
  resolved := Array.replicate 524 none
  statics := none }

def pool12 : Array CpInfo := pool [(1, .class_ 2), (0, u "java/lang/Integer"), (16, u "digits"), (0, u "[C"), (32, u "numberOfLeadingZeros"), (0, u "(I)I"), (30, u "DigitOnes"), (0, u "[B"), (2, u "DigitTens"), (99, .class_ 190), (0, u "java/lang/Integer$IntegerCache"), (3, u "I"), (8, .class_ 204), (0, u "java/lang/Number"), (2, u "value"), (56, .integer 65536), (37, u "TYPE"), (0, u "Ljava/lang/Class;"), (0, .class_ 305), (0, u "java/lang/Comparable"), (0, .class_ 307), (0, u "java/lang/constant/Constable"), (0, .class_ 309), (0, u "java/lang/constant/ConstantDesc"), (0, u "MIN_VALUE"), (1, u "MAX_VALUE"), (3, u "SIZE"), (1, u "BYTES"), (1, u "serialVersionUID"), (0, u "J")] 131

def k12c0 : Code := { maxStack := 3, maxLocals := 2, code := jdk_33_method_47_code, exceptionTable := #[], attributes := #[] }
def k12m0 : Method := { name := "numberOfLeadingZeros", desc := "(I)I", sig := { parameters := [.int], returnType := some .int }, accessFlags := 9, code := some k12c0 }
/-- java/lang/Integer -/
def k12 : Class := { plain "java/lang/Integer" (some 7) with
  accessFlags := 49
  interfaces := #[8, 9, 10]
  cf := some (fileOf pool12 1 #[.nestMembers #[189]] #[{ accessFlags := 9, nameIndex := 53, descriptorIndex := 54, attributes := #[] }] 49 203 #[304, 306, 308] #[{ accessFlags := 25, nameIndex := 310, descriptorIndex := 194, attributes := #[] }, { accessFlags := 25, nameIndex := 312, descriptorIndex := 194, attributes := #[] }, { accessFlags := 25, nameIndex := 302, descriptorIndex := 303, attributes := #[] }, { accessFlags := 24, nameIndex := 19, descriptorIndex := 20, attributes := #[] }, { accessFlags := 24, nameIndex := 89, descriptorIndex := 86, attributes := #[] }, { accessFlags := 24, nameIndex := 85, descriptorIndex := 86, attributes := #[] }, { accessFlags := 18, nameIndex := 207, descriptorIndex := 194, attributes := #[] }, { accessFlags := 25, nameIndex := 316, descriptorIndex := 194, attributes := #[] }, { accessFlags := 25, nameIndex := 318, descriptorIndex := 194, attributes := #[] }, { accessFlags := 26, nameIndex := 320, descriptorIndex := 321, attributes := #[] }])
  fields := #[{ name := "MIN_VALUE", type := .int, accessFlags := 25, slot := 0, constantValue := 0 }, { name := "MAX_VALUE", type := .int, accessFlags := 25, slot := 1, constantValue := 0 }, { name := "TYPE", type := (.object "java/lang/Class"), accessFlags := 25, slot := 2, constantValue := 0 }, { name := "digits", type := (.array .char), accessFlags := 24, slot := 3, constantValue := 0 }, { name := "DigitTens", type := (.array .byte), accessFlags := 24, slot := 4, constantValue := 0 }, { name := "DigitOnes", type := (.array .byte), accessFlags := 24, slot := 5, constantValue := 0 }, { name := "value", type := .int, accessFlags := 18, slot := 0, constantValue := 0 }, { name := "SIZE", type := .int, accessFlags := 25, slot := 6, constantValue := 0 }, { name := "BYTES", type := .int, accessFlags := 25, slot := 7, constantValue := 0 }, { name := "serialVersionUID", type := .long, accessFlags := 26, slot := 8, constantValue := 0 }]
  methods := #[k12m0]
  instanceTypes := #[.int]
  staticTypes := #[.int, .int, (.object "java/lang/Class"), (.array .char), (.array .byte), (.array .byte), .int, .int, .long]
  resolved := Array.replicate 453 none
  statics := none }

def pool13 : Array CpInfo := pool [(1, u "java/lang/Cloneable"), (0, .class_ 1), (0, u "java/lang/Object"), (0, .class_ 3)] 3

/-- java/lang/Cloneable -/
def k13 : Class := { plain "java/lang/Cloneable" (some 0) with
  accessFlags := 1537
  interfaces := #[]
  cf := some (fileOf pool13 2 #[] #[] 1537 4 #[] #[])
  fields := #[]
  methods := #[]
  instanceTypes := #[]
  staticTypes := #[]
  resolved := Array.replicate 8 none
  statics := none }

/-- the primitive byte -/
def k14 : Class := { plain "byte" none with kind := .primitive 'B', accessFlags := 0x411 }
/-- [B -/
def k15 : Class := { plain "[B" (some 0) with kind := .array 14 .byte, interfaces := #[13, 6], accessFlags := 1041 }

/-- the primitive int -/
def k16 : Class := { plain "int" none with kind := .primitive 'I', accessFlags := 0x411 }
/-- [I -/
def k17 : Class := { plain "[I" (some 0) with kind := .array 16 .int, interfaces := #[13, 6], accessFlags := 1041 }

/-- the primitive long -/
def k18 : Class := { plain "long" none with kind := .primitive 'J', accessFlags := 0x411 }
/-- [J -/
def k19 : Class := { plain "[J" (some 0) with kind := .array 18 .long, interfaces := #[13, 6], accessFlags := 1041 }

def heap : Heap := #[{ cls := 2, slots := #[.ref 1, .ref 2], vm := .statics 2 },
  { cls := 17, slots := #[], vm := .none },
  { cls := 19, slots := #[], vm := .none }]
def classes : Array Class := #[k0, k1, k2, k3, k4, k5, k6, k7, k8, k9, k10, k11, k12, k13, k14, k15, k16, k17, k18, k19]
def interned : List (Array UInt16 × Addr) := []
def slotsUsed : Nat := 2
def theMethod : MethodId := ⟨1, 1⟩
def args0 : Array Value := #[.int 5, .int 3, .int 9, .int 2]
def aboutOver (below : List Frame) : State where
  vm := { classes := classes, interned := interned.toArray }
  heap := heap
  slotsUsed := slotsUsed
  threads := #[{ frames := .invoking theMethod args0 :: below }]
def below0 : List Frame := [.native { method := ⟨0, 0⟩, args := #[] }]
def about1 : State := aboutOver below0
def p0 : Program := .bare "" "" ""
def e0 : Env := launch0.env 0 0 0
theorem w_frames : about1.frames = Frame.invoking theMethod args0 :: below0 := rfl
set_option maxRecDepth 65536 in
theorem w_args : argsFit about1.vm theMethod args0 = true := by decide +kernel
set_option maxRecDepth 65536 in
theorem w_heap : heapFits about1 = true := by decide +kernel
set_option maxRecDepth 65536 in
theorem w_runnable : about1.curStatus? = some .runnable := by decide +kernel
set_option maxRecDepth 65536 in
theorem w_alone : about1.alone = true := by decide +kernel
set_option maxRecDepth 65536 in
theorem w_named : about1.methodNamed? x = some theMethod := by decide +kernel
set_option maxRecDepth 65536 in
theorem w_hears : about1.hears theMethod below0 = true := by decide +kernel
set_option maxRecDepth 65536 in
theorem w_ripe : about1.ripe theMethod args0 below0 = true := by decide +kernel
theorem w_running : about1.status = .running := rfl
set_option maxRecDepth 65536 in
theorem w_room : about1.hasRoom e0.platform room_1 = true :=
  launch0.hasRoom_least _ room_1 (by decide +kernel) (by decide +kernel) (by decide +kernel) (by decide +kernel) (by decide +kernel) (by decide +kernel)
theorem allAtoms_all (ts : List Jvm.Cond) (a : Array Jvm.Value) (st : Jvm.State) : (allAtoms ts).before a st = ts.all (fun c => c.before a st) := by
  induction ts with
  | nil => rfl
  | cons c t ih =>
    show (Jvm.Cond.and c (allAtoms t)).before a st = _
    rw [Jvm.Cond.before_and, ih, List.all_cons]
def words1 : List Jvm.Cond := Jvm.Cond.code x code maxLocals ret :: tables_1
/-- a 'code' word, met by the world's own term for the bytes: nothing is compared byte by byte -/
theorem code_word {y : MethodName} {bytes : ByteArray} {mx : Nat} {rt : Option FieldType} {a : Array Value} {s : State} {m : MethodId} {meth : Method} {c : Code} (h1 : s.methodNamed? y = some m) (h2 : s.vm.method? m = some meth) (h3 : meth.code = some c) (h4 : c.code = bytes)
    (h5 : (c.maxLocals == mx && c.exceptionTable.isEmpty && decide (c.maxStack ≤ mostOperands) && decide (meth.sig.returnType = rt) && !meth.locks && decide (parseMethodDescriptor y.desc = some meth.sig)) = true) : (Jvm.Cond.code y bytes mx rt).before a s = true := by
  simp only [Bool.and_eq_true, beq_iff_eq, Bool.not_eq_true', decide_eq_true_eq] at h5
  obtain ⟨⟨⟨⟨⟨g1, g2⟩, g3⟩, g4⟩, g5⟩, g6⟩ := h5
  simp [Cond.before, Cond.holds, Cond.value, h1, h2, h3, h4, g1, g2, g3, g4, g5, g6]
def isCode : Jvm.Cond → Bool
  | .code _ _ _ _ => true
  | _ => false
theorem all_split {L : List Jvm.Cond} {P : Jvm.Cond → Bool} (h1 : L.all (fun c => isCode c || P c) = true) (h2 : ∀ c ∈ L.filter isCode, P c = true) : L.all P = true := by
  refine List.all_eq_true.mpr fun c hc => ?_
  have h := List.all_eq_true.mp h1 c hc
  rcases Bool.eq_false_or_eq_true (isCode c) with hi | hi
  · exact h2 c (List.mem_filter.mpr ⟨hc, hi⟩)
  · simpa [hi] using h
set_option maxRecDepth 65536 in
theorem w_c0 : (Jvm.Cond.code x code maxLocals ret).before args0 about1 = true := code_word (m := ⟨1, 1⟩) (meth := k1m1) (c := k1c1) (by decide +kernel) rfl rfl rfl (by decide +kernel)
set_option maxRecDepth 65536 in
theorem w_c1 : (Jvm.Cond.code ({ cls := "org/tallyrole/core/Dependencies", name := "<init>", desc := "()V" } : Jvm.MethodName) prog_36_method_1_code (1 : Nat) (Option.none : Option Jvm.ClassFile.FieldType)).before args0 about1 = true := code_word (m := ⟨2, 0⟩) (meth := k2m0) (c := k2c0) (by decide +kernel) rfl rfl rfl (by decide +kernel)
set_option maxRecDepth 65536 in
theorem w_c2 : (Jvm.Cond.code ({ cls := "java/lang/Object", name := "<init>", desc := "()V" } : Jvm.MethodName) object_method_1_code (1 : Nat) (Option.none : Option Jvm.ClassFile.FieldType)).before args0 about1 = true := code_word (m := ⟨0, 0⟩) (meth := k0m0) (c := k0c0) (by decide +kernel) rfl rfl rfl (by decide +kernel)
set_option maxRecDepth 65536 in
theorem w_c3 : (Jvm.Cond.code ({ cls := "org/tallyrole/core/Dependencies", name := "add", desc := "(I)V" } : Jvm.MethodName) prog_36_method_5_code (7 : Nat) (Option.none : Option Jvm.ClassFile.FieldType)).before args0 about1 = true := code_word (m := ⟨2, 1⟩) (meth := k2m1) (c := k2c1) (by decide +kernel) rfl rfl rfl (by decide +kernel)
set_option maxRecDepth 65536 in
theorem w_c4 : (Jvm.Cond.code ({ cls := "java/util/Arrays", name := "binarySearch", desc := "([IIII)I" } : Jvm.MethodName) jdk_65_method_58_code (4 : Nat) (Option.some Jvm.ClassFile.FieldType.int)).before args0 about1 = true := code_word (m := ⟨3, 2⟩) (meth := k3m2) (c := k3c2) (by decide +kernel) rfl rfl rfl (by decide +kernel)
set_option maxRecDepth 65536 in
theorem w_c5 : (Jvm.Cond.code ({ cls := "java/util/Arrays", name := "rangeCheck", desc := "(III)V" } : Jvm.MethodName) jdk_65_method_30_code (3 : Nat) (Option.none : Option Jvm.ClassFile.FieldType)).before args0 about1 = true := code_word (m := ⟨3, 1⟩) (meth := k3m1) (c := k3c1) (by decide +kernel) rfl rfl rfl (by decide +kernel)
set_option maxRecDepth 65536 in
theorem w_c6 : (Jvm.Cond.code ({ cls := "java/util/Arrays", name := "binarySearch0", desc := "([IIII)I" } : Jvm.MethodName) jdk_65_method_59_code (8 : Nat) (Option.some Jvm.ClassFile.FieldType.int)).before args0 about1 = true := code_word (m := ⟨3, 3⟩) (meth := k3m3) (c := k3c3) (by decide +kernel) rfl rfl rfl (by decide +kernel)
set_option maxRecDepth 65536 in
theorem w_c7 : (Jvm.Cond.code ({ cls := "org/tallyrole/core/Dependencies", name := "reserve", desc := "(I)V" } : Jvm.MethodName) prog_36_method_10_code (3 : Nat) (Option.none : Option Jvm.ClassFile.FieldType)).before args0 about1 = true := code_word (m := ⟨2, 4⟩) (meth := k2m4) (c := k2c4) (by decide +kernel) rfl rfl rfl (by decide +kernel)
set_option maxRecDepth 65536 in
theorem w_c8 : (Jvm.Cond.code ({ cls := "java/util/Arrays", name := "copyOf", desc := "([II)[I" } : Jvm.MethodName) jdk_65_method_123_code (3 : Nat) (Option.some (Jvm.ClassFile.FieldType.array Jvm.ClassFile.FieldType.int))).before args0 about1 = true := code_word (m := ⟨3, 4⟩) (meth := k3m4) (c := k3c4) (by decide +kernel) rfl rfl rfl (by decide +kernel)
set_option maxRecDepth 65536 in
theorem w_c9 : (Jvm.Cond.code ({ cls := "java/lang/Math", name := "min", desc := "(II)I" } : Jvm.MethodName) jdk_29_method_69_code (2 : Nat) (Option.some Jvm.ClassFile.FieldType.int)).before args0 about1 = true := code_word (m := ⟨4, 2⟩) (meth := k4m2) (c := k4c2) (by decide +kernel) rfl rfl rfl (by decide +kernel)
set_option maxRecDepth 65536 in
theorem w_c10 : (Jvm.Cond.code ({ cls := "java/util/Arrays", name := "copyOf", desc := "([JI)[J" } : Jvm.MethodName) jdk_65_method_124_code (3 : Nat) (Option.some (Jvm.ClassFile.FieldType.array Jvm.ClassFile.FieldType.long))).before args0 about1 = true := code_word (m := ⟨3, 5⟩) (meth := k3m5) (c := k3c5) (by decide +kernel) rfl rfl rfl (by decide +kernel)
set_option maxRecDepth 65536 in
theorem w_c11 : (Jvm.Cond.code ({ cls := "java/lang/Math", name := "max", desc := "(II)I" } : Jvm.MethodName) jdk_29_method_65_code (2 : Nat) (Option.some Jvm.ClassFile.FieldType.int)).before args0 about1 = true := code_word (m := ⟨4, 1⟩) (meth := k4m1) (c := k4c1) (by decide +kernel) rfl rfl rfl (by decide +kernel)
set_option maxRecDepth 65536 in
theorem w_c12 : (Jvm.Cond.code ({ cls := "org/tallyrole/core/Dependencies", name := "latest", desc := "()I" } : Jvm.MethodName) prog_36_method_9_code (1 : Nat) (Option.some Jvm.ClassFile.FieldType.int)).before args0 about1 = true := code_word (m := ⟨2, 3⟩) (meth := k2m3) (c := k2c3) (by decide +kernel) rfl rfl rfl (by decide +kernel)
set_option maxRecDepth 65536 in
theorem w_c13 : (Jvm.Cond.code ({ cls := "java/lang/Long", name := "numberOfLeadingZeros", desc := "(J)I" } : Jvm.MethodName) jdk_35_method_48_code (3 : Nat) (Option.some Jvm.ClassFile.FieldType.int)).before args0 about1 = true := code_word (m := ⟨11, 0⟩) (meth := k11m0) (c := k11c0) (by decide +kernel) rfl rfl rfl (by decide +kernel)
set_option maxRecDepth 65536 in
theorem w_c14 : (Jvm.Cond.code ({ cls := "java/lang/Integer", name := "numberOfLeadingZeros", desc := "(I)I" } : Jvm.MethodName) jdk_33_method_47_code (2 : Nat) (Option.some Jvm.ClassFile.FieldType.int)).before args0 about1 = true := code_word (m := ⟨12, 0⟩) (meth := k12m0) (c := k12c0) (by decide +kernel) rfl rfl rfl (by decide +kernel)
set_option maxRecDepth 65536 in
theorem w_c15 : (Jvm.Cond.code ({ cls := "org/tallyrole/core/Dependencies", name := "remove", desc := "(I)V" } : Jvm.MethodName) prog_36_method_8_code (5 : Nat) (Option.none : Option Jvm.ClassFile.FieldType)).before args0 about1 = true := code_word (m := ⟨2, 2⟩) (meth := k2m2) (c := k2c2) (by decide +kernel) rfl rfl rfl (by decide +kernel)
def codes1 : List Jvm.Cond := [Jvm.Cond.code x code maxLocals ret, Jvm.Cond.code ({ cls := "org/tallyrole/core/Dependencies", name := "<init>", desc := "()V" } : Jvm.MethodName) prog_36_method_1_code (1 : Nat) (Option.none : Option Jvm.ClassFile.FieldType), Jvm.Cond.code ({ cls := "java/lang/Object", name := "<init>", desc := "()V" } : Jvm.MethodName) object_method_1_code (1 : Nat) (Option.none : Option Jvm.ClassFile.FieldType), Jvm.Cond.code ({ cls := "org/tallyrole/core/Dependencies", name := "add", desc := "(I)V" } : Jvm.MethodName) prog_36_method_5_code (7 : Nat) (Option.none : Option Jvm.ClassFile.FieldType), Jvm.Cond.code ({ cls := "java/util/Arrays", name := "binarySearch", desc := "([IIII)I" } : Jvm.MethodName) jdk_65_method_58_code (4 : Nat) (Option.some Jvm.ClassFile.FieldType.int), Jvm.Cond.code ({ cls := "java/util/Arrays", name := "rangeCheck", desc := "(III)V" } : Jvm.MethodName) jdk_65_method_30_code (3 : Nat) (Option.none : Option Jvm.ClassFile.FieldType), Jvm.Cond.code ({ cls := "java/util/Arrays", name := "binarySearch0", desc := "([IIII)I" } : Jvm.MethodName) jdk_65_method_59_code (8 : Nat) (Option.some Jvm.ClassFile.FieldType.int), Jvm.Cond.code ({ cls := "org/tallyrole/core/Dependencies", name := "reserve", desc := "(I)V" } : Jvm.MethodName) prog_36_method_10_code (3 : Nat) (Option.none : Option Jvm.ClassFile.FieldType), Jvm.Cond.code ({ cls := "java/util/Arrays", name := "copyOf", desc := "([II)[I" } : Jvm.MethodName) jdk_65_method_123_code (3 : Nat) (Option.some (Jvm.ClassFile.FieldType.array Jvm.ClassFile.FieldType.int)), Jvm.Cond.code ({ cls := "java/lang/Math", name := "min", desc := "(II)I" } : Jvm.MethodName) jdk_29_method_69_code (2 : Nat) (Option.some Jvm.ClassFile.FieldType.int), Jvm.Cond.code ({ cls := "java/util/Arrays", name := "copyOf", desc := "([JI)[J" } : Jvm.MethodName) jdk_65_method_124_code (3 : Nat) (Option.some (Jvm.ClassFile.FieldType.array Jvm.ClassFile.FieldType.long)), Jvm.Cond.code ({ cls := "java/lang/Math", name := "max", desc := "(II)I" } : Jvm.MethodName) jdk_29_method_65_code (2 : Nat) (Option.some Jvm.ClassFile.FieldType.int), Jvm.Cond.code ({ cls := "org/tallyrole/core/Dependencies", name := "latest", desc := "()I" } : Jvm.MethodName) prog_36_method_9_code (1 : Nat) (Option.some Jvm.ClassFile.FieldType.int), Jvm.Cond.code ({ cls := "java/lang/Long", name := "numberOfLeadingZeros", desc := "(J)I" } : Jvm.MethodName) jdk_35_method_48_code (3 : Nat) (Option.some Jvm.ClassFile.FieldType.int), Jvm.Cond.code ({ cls := "java/lang/Integer", name := "numberOfLeadingZeros", desc := "(I)I" } : Jvm.MethodName) jdk_33_method_47_code (2 : Nat) (Option.some Jvm.ClassFile.FieldType.int), Jvm.Cond.code ({ cls := "org/tallyrole/core/Dependencies", name := "remove", desc := "(I)V" } : Jvm.MethodName) prog_36_method_8_code (5 : Nat) (Option.none : Option Jvm.ClassFile.FieldType)]
set_option maxRecDepth 65536 in
theorem codes_eq : words1.filter isCode = codes1 := rfl
theorem w_codes : ∀ c ∈ words1.filter isCode, c.before args0 about1 = true := by
  rw [codes_eq]
  intro c hc
  simp only [codes1, List.mem_cons, List.not_mem_nil, or_false] at hc
  rcases hc with rfl | rfl | rfl | rfl | rfl | rfl | rfl | rfl | rfl | rfl | rfl | rfl | rfl | rfl | rfl | rfl
  · exact w_c0
  · exact w_c1
  · exact w_c2
  · exact w_c3
  · exact w_c4
  · exact w_c5
  · exact w_c6
  · exact w_c7
  · exact w_c8
  · exact w_c9
  · exact w_c10
  · exact w_c11
  · exact w_c12
  · exact w_c13
  · exact w_c14
  · exact w_c15
set_option maxRecDepth 65536 in
theorem w_t1 : (words1.take 24).all (fun c => isCode c || c.before args0 about1) = true := by decide +kernel
set_option maxRecDepth 65536 in
theorem w_t2 : ((words1.drop 24).take 24).all (fun c => isCode c || c.before args0 about1) = true := by decide +kernel
set_option maxRecDepth 65536 in
theorem w_t3 : (((words1.drop 24).drop 24).take 24).all (fun c => isCode c || c.before args0 about1) = true := by decide +kernel
set_option maxRecDepth 65536 in
theorem w_t4 : (((words1.drop 24).drop 24).drop 24).all (fun c => isCode c || c.before args0 about1) = true := by decide +kernel
theorem w_tables : (allAtoms (Jvm.Cond.code x code maxLocals ret :: tables_1)).before args0 about1 = true := by
  rw [allAtoms_all]
  show words1.all (fun c => c.before args0 about1) = true
  refine all_split ?_ w_codes
  rw [← List.take_append_drop 24 words1, List.all_append, w_t1, ← List.take_append_drop 24 (words1.drop 24), List.all_append, w_t2, ← List.take_append_drop 24 ((words1.drop 24).drop 24), List.all_append, w_t3, w_t4]
  rfl
set_option maxRecDepth 65536 in
theorem w_case : (Jvm.Cond.and given_1 narrow_1).before args0 about1 = true := by decide +kernel
theorem w_applies : (headSpec (Jvm.Cond.code x code maxLocals ret :: tables_1) room_1).applies x e0.platform about1 = true :=
  (Spec.applies_iff w_frames).mpr ⟨w_running, w_runnable, w_alone, w_named, w_hears, w_ripe, w_room, w_tables⟩
theorem atStart : AtStart classFile x code maxLocals ret World_1 tables_1 room_1 Calls_1 rest_1 Pre_1 launch0 p0 e0 about1 theMethod args0 below0 :=
  ⟨lists_1, trivial, launch0.admits_env _ _ _, launch0.least_env, fairChoices_fair.cas, fairChoices_fair.clock, w_frames, w_args, w_heap, w_applies, trivial, trivial, w_case⟩
end start1
theorem witness_1 : WitnessClaimed_1 := ⟨start1.p0, start1.e0, start1.about1, start1.theMethod, start1.args0, start1.below0, start1.atStart⟩
end Jvm.Pilot.@@N@@
