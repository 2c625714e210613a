import JvmDerived
import JvmDerived.Pilot.@@N@@Statement
import JvmDerived.Pilot.@@N@@Code
set_option linter.unusedVariables false
set_option linter.unusedSimpArgs false
namespace Jvm.RoadKit
open Sem ClassFile Op Lib Jvm.Stand Jvm.Free Jvm.LawKit
section New
variable {p : Program} {l : Launch} {e : Env} {R : Room} {s : State} {m : MethodId} {args : Array Value} {below : List Frame} {meth : Method} {c : Code} {T : State} {locs : List Loc} {cells slots : Nat}
theorem retI (X : Stand p l e R s m args below meth c T locs cells slots) (hx : p.tables.exec = Jvm.exec) {pc : Nat} {Ls : Array Slot} {z : Int32} {rest : List Value} (hret : meth.sig.returnType = some .int) (hd : decode c.code pc = .ok (.ireturn, 1)) {fs : List Frame}
    (hl : ∀ (f : JFrame) (acts : List Action), f.method = m → f.locked = none → f.entered = [] → (doReturn e (T.setTop f) acts (some (.int z))).1 = T.setFrames fs) : Steps p.tables e below (T.setTop (mkF m pc Ls (.int z :: rest))) (T.setFrames fs) := by
  have hm' : T.vm.method? m = some meth := X.method'
  have hn : narrow .int (.int z) = .int z := rfl
  show Steps p.tables e below (T.setTop { method := m, pc := pc, locals := Ls, stack := _ :: rest, locked := none }) _
  jvm_step X.here [X.here.top, hx, hd, hm', hret, hn]
  first | (intro acts; rw [hl _ acts rfl rfl rfl]) | rw [hl _ _ rfl rfl rfl]
  exact Steps.refl _
theorem retJ (X : Stand p l e R s m args below meth c T locs cells slots) (hx : p.tables.exec = Jvm.exec) {pc : Nat} {Ls : Array Slot} {z : Int64} {rest : List Value} (hret : meth.sig.returnType = some .long) (hd : decode c.code pc = .ok (.lreturn, 1)) {fs : List Frame}
    (hl : ∀ (f : JFrame) (acts : List Action), f.method = m → f.locked = none → f.entered = [] → (doReturn e (T.setTop f) acts (some (.long z))).1 = T.setFrames fs) : Steps p.tables e below (T.setTop (mkF m pc Ls (.long z :: rest))) (T.setFrames fs) := by
  have hm' : T.vm.method? m = some meth := X.method'
  have hn : narrow .long (.long z) = .long z := rfl
  show Steps p.tables e below (T.setTop { method := m, pc := pc, locals := Ls, stack := _ :: rest, locked := none }) _
  jvm_step X.here [X.here.top, hx, hd, hm', hret, hn]
  first | (intro acts; rw [hl _ acts rfl rfl rfl]) | rw [hl _ _ rfl rfl rfl]
  exact Steps.refl _
end New
end Jvm.RoadKit
namespace Jvm.Pilot.@@N@@
open Jvm Jvm.ClassFile Sem Op Lib Jvm.Free Jvm.Stand Jvm.LawKit Jvm.RoadKit Bundle Jvm.Pilot.@@N@@.Jvm.D
def own_irem (x y : Int32) : Int32 := x - (x / y) * y
theorem own_irem_mod (x y : Int32) : own_irem x y = x % y := by
  unfold own_irem
  apply Int32.toInt_inj.mp
  have h1 := Int32.le_toInt (x % y)
  have h2 := Int32.toInt_lt (x % y)
  rw [Int32.toInt_sub, Int32.toInt_mul, Int32.toInt_div, Int.bmod_mul_bmod, Int.sub_bmod_bmod, Int.mul_comm (x.toInt.tdiv y.toInt), ← Int.tmod_def, ← Int32.toInt_mod]
  exact Int.bmod_eq_of_le_mul_two (by omega) (by omega)
theorem own_fld_eq {args : Array Value} {s : State} {t : Term} {C n d : String} {w : Addr} {k : Int32} (ht : t.eval args s none [] s = some (.ref w)) (h : (Jvm.Cond.eq (Term.field t C n d) (Term.int k)).value args s none s [] = some true) : Fld s s.heap w C n d (.int k) := by
  obtain ⟨x, y, ha, hb, -, -⟩ := cmp_v (Or.inl h)
  have hy : y = .int k := (Option.some.inj ((Term.int_eval k).symm.trans hb)).symm
  subst hy
  have hx : x = .int k := by
    cases x <;> simp [Cond.value, ha, hb] at h ⊢
    exact h
  subst hx
  exact Fld.start (by rw [← fld_at ht]; exact ha)
theorem own_fld_ref {args : Array Value} {s : State} {t u : Term} {C n d : String} {w : Addr} {k : Addr} (ht : t.eval args s none [] s = some (.ref w)) (hu : u.eval args s none [] s = some (.ref k)) (h : (Jvm.Cond.eq (Term.field t C n d) u).value args s none s [] = some true) : Fld s s.heap w C n d (.ref k) := by
  obtain ⟨x, y, ha, hb, -, -⟩ := cmp_v (Or.inl h)
  cases hu.symm.trans hb
  have hx : x = .ref k := by
    cases x <;> simp [Cond.value, ha, hb] at h ⊢
    exact h
  subst hx
  exact Fld.start (by rw [← fld_at ht]; exact ha)
theorem own_sel_priv {s : State} {args : Array Value} {y z : MethodName} (hsel : (Jvm.Cond.selects z.cls z z).before args s = true) (hz : z.cls = y.cls) (hpriv : (Jvm.Cond.privateMethod y).before args s = true) (hinst : (Jvm.Cond.instanceMethod y).before args s = true) (hy : y.cls ≠ "java/lang/invoke/MethodHandle" ∧ y.cls ≠ "java/lang/invoke/VarHandle") : (Jvm.Cond.selects y.cls y y).before args s = true := by
  obtain ⟨c, r, m, h1, h2, h3, h4, mk, h5, h6⟩ := Cond.selects_spec hsel
  have hc := findClass_of_methodNamed h3
  rw [hz] at hc
  exact selects_self_of_private hc h5 h6 (Cond.privateMethod_at hpriv) hinst hy
theorem own_nm_int : "[" ++ (newarray.typeOf .int).toString = "[I" := by decide
theorem own_nm_long : "[" ++ (newarray.typeOf .long).toString = "[J" := by decide
theorem own_nm_char : "[" ++ (newarray.typeOf .char).toString = "[C" := by decide
theorem own_nm_boolean : "[" ++ (newarray.typeOf .boolean).toString = "[Z" := by decide
theorem own_ns_exa {Z : State} {h : Heap} {a : Addr} {C : String} (E : Exa Z h a C) : ∀ c : Cell, h[a]? = some c → c.vm.isStatics = false := fun c hc => by
  obtain ⟨cell, k, h1, -, -, h4, -⟩ := E
  cases h1.symm.trans hc
  exact h4
theorem own_ns_arr {Z : State} {h : Heap} {a : Addr} {cl : Cell} {ty : FieldType} (A : Arr Z h a cl ty) : ∀ c : Cell, h[a]? = some c → c.vm.isStatics = false := fun c hc => by
  cases A.1.symm.trans hc
  exact A.plain
theorem own_arr_keep {Z : State} {h h' : Heap} {a : Addr} {cl : Cell} {ty : FieldType} {ws : List Addr} (A : Arr Z h a cl ty) (K : Keep h h' ws) (q : a ∉ ws) : Arr Z h' a cl ty := ⟨K.2.1 a cl A.1 q, A.2⟩
theorem own_ns_arv {Z : State} {h : Heap} {a : Addr} {k : ClassId} {ty : FieldType} {z : Int32} {vs : List Value} {dv : Value} (F : Arv Z h a k ty z vs dv) : ∀ c : Cell, h[a]? = some c → c.vm.isStatics = false := by
  obtain ⟨c, A, -⟩ := F
  exact own_ns_arr A
theorem own_sta_keep {Z : State} {h h' : Heap} {C n d : String} {v : Value} {ws : List Addr} (F : Sta Z h C n d v) (K : Keep h h' ws) (q : ∀ x ∈ ws, ∀ c : Cell, h[x]? = some c → c.vm.isStatics = false) : Sta Z h' C n d v := by
  obtain ⟨cf, i, k, f, st, cell, h1, h2, h3, h4, h5, h6, h7⟩ := F
  exact ⟨cf, i, k, f, st, cell, h1, h2, h3, h4, K.2.1 st cell h5 (fun hm => by rw [q st hm cell h5] at h6; cases h6), h6, h7⟩
theorem own_len {args : Array Value} {s : State} {t : Term} {a : Addr} {cl : Cell} {n : Int32} (ht : t.eval args s none [] s = some (.ref a)) (hc : s.heap[a]? = some cl) (h : (Jvm.Cond.eq (Term.length t) (Term.int n)).value args s none s [] = some true) : cl.slots.size < 2 ^ 31 ∧ cl.slots.size.toInt32 = n := by
  obtain ⟨x, y, ha, hb, -, -⟩ := cmp_v (Or.inl h)
  have hy : y = .int n := (Option.some.inj ((Term.int_eval n).symm.trans hb)).symm
  subst hy
  have hx : x = .int n := by
    cases x <;> simp [Cond.value, ha, hb] at h ⊢
    exact h
  subst hx
  simp only [Term.eval, ht, Option.bind_eq_bind, Option.bind_some] at ha
  cases hq : s.arrayAt? a with
  | none => simp [hq] at ha
  | some c2 =>
    cases (State.arrayAt?_spec hq).1.symm.trans hc
    simp only [hq, Option.bind_some] at ha
    split at ha
    · rename_i hlt
      exact ⟨hlt, Value.int.inj (Option.some.inj ha)⟩
    · cases ha
theorem own_elem {args : Array Value} {s : State} {t u : Term} {a k : Addr} {cl : Cell} {j : Int32} (ht : t.eval args s none [] s = some (.ref a)) (hu : u.eval args s none [] s = some (.ref k)) (hc : s.heap[a]? = some cl) (h : (Jvm.Cond.eq (Term.elem t (Term.int j)) u).value args s none s [] = some true) : cl.slots[j.toNatClampNeg]? = some (.ref k) := by
  obtain ⟨x, y, ha, hb, -, -⟩ := cmp_v (Or.inl h)
  cases hu.symm.trans hb
  have hx : x = .ref k := by
    cases x <;> simp [Cond.value, ha, hb] at h ⊢
    exact h
  subst hx
  exact (elem_in ha ht (Term.int_eval j) hc).2
theorem own_w {a0 : Array Value} {Z : State} (hw : ∀ d ∈ tables_1, d.before a0 Z = true) (i : Nat) {d : Jvm.Cond} (h : tables_1[i]? = some d) : d.before a0 Z = true := hw d (List.mem_of_getElem? h)
abbrev own_key (z : Int32) : Int32 := ((z.toUInt32 >>> ((6 : Int32) &&& 31).toUInt32).toInt32)
abbrev own_bit (z : Int32) : Int64 := ((1 : Int64) <<< (z &&& 0x3f).toInt64)
def own_b (z : Int32) : Nat := (z.toInt % 64).toNat
theorem own_key_int (z : Int32) : (own_key z).toInt = z.toInt % 4294967296 / 64 := c_iushr z 6 6 (by decide) (by decide)
theorem own_b_int (z : Int32) : (own_b z : Int) = z.toInt % 64 := by unfold own_b; omega
theorem own_b_lt (z : Int32) : own_b z < 64 := by unfold own_b; omega
theorem own_b_bv (z : Int32) : z.toBitVec.toNat % 64 = own_b z := by
  have h : z.toInt = z.toBitVec.toInt := rfl
  have h2 := BitVec.toInt_eq_toNat_cond z.toBitVec
  unfold own_b
  rw [h]
  split at h2 <;> omega
theorem own_bit_nat (z : Int32) : (own_bit z).toBitVec.toNat = 2 ^ own_b z := by
  have h := c_lshl 1 z (own_b z) (own_b_bv z)
  have h1 : (1 : Int64).toInt = 1 := rfl
  have hl := own_b_lt z
  have hp : 2 ^ own_b z ≤ 2 ^ 63 := Nat.pow_le_pow_right (by decide) (by omega)
  have e : (own_bit z).toInt = (own_bit z).toBitVec.toInt := rfl
  have h2 := BitVec.toInt_eq_toNat_cond (own_bit z).toBitVec
  have h3 := (own_bit z).toBitVec.isLt
  rw [h1, Int.one_mul] at h
  change ((own_bit z).toInt - _) % _ = 0 at h
  rw [e] at h
  generalize (own_bit z).toBitVec.toNat = q at *
  generalize (own_bit z).toBitVec.toInt = qi at *
  have hz : ((2 ^ own_b z : Nat) : Int) = ((2 ^ own_b z : Nat) : Int) := rfl
  generalize 2 ^ own_b z = r at *
  split at h2 <;> omega
theorem own_key_b {y z : Int32} (h : own_key y = own_key z) (h2 : own_b y = own_b z) : y = z := by
  apply Int32.toInt_inj.mp
  have a := own_key_int y
  have b := own_key_int z
  rw [h] at a
  have c := own_b_int y
  have d := own_b_int z
  have := Int32.le_toInt y; have := Int32.toInt_lt y; have := Int32.le_toInt z; have := Int32.toInt_lt z
  rw [h2] at c
  omega
def own_tb (w : Int64) (i : Nat) : Bool := w.toBitVec.toNat.testBit i
theorem own_tb_bit (z : Int32) (i : Nat) : own_tb (own_bit z) i = decide (own_b z = i) := by
  unfold own_tb; rw [own_bit_nat, Nat.testBit_two_pow]
theorem own_tb_and (w v : Int64) (i : Nat) : own_tb (w &&& v) i = (own_tb w i && own_tb v i) := by
  unfold own_tb; rw [Int64.toBitVec_and, BitVec.toNat_and, Nat.testBit_and]
theorem own_tb_or (w v : Int64) (i : Nat) : own_tb (w ||| v) i = (own_tb w i || own_tb v i) := by
  unfold own_tb; rw [Int64.toBitVec_or, BitVec.toNat_or, Nat.testBit_or]
theorem own_tb_xor (w v : Int64) (i : Nat) : own_tb (w ^^^ v) i = (own_tb w i != own_tb v i) := by
  unfold own_tb; rw [Int64.toBitVec_xor, BitVec.toNat_xor, Nat.testBit_xor]
theorem own_tb_m1 {i : Nat} (h : i < 64) : own_tb (-1) i = true := by
  unfold own_tb
  rw [show ((-1 : Int64)).toBitVec.toNat = 2 ^ 64 - 1 from by decide, Nat.testBit_two_pow_sub_one]
  simpa using h
theorem own_tb_ext {w v : Int64} (h : ∀ i, i < 64 → own_tb w i = own_tb v i) : w = v := by
  apply Int64.toBitVec_inj.mp
  apply BitVec.eq_of_toNat_eq
  apply Nat.eq_of_testBit_eq
  intro i
  by_cases q : i < 64
  · exact h i q
  · rw [Nat.testBit_lt_two_pow (Nat.lt_of_lt_of_le w.toBitVec.isLt (Nat.pow_le_pow_right (by decide) (by omega))), Nat.testBit_lt_two_pow (Nat.lt_of_lt_of_le v.toBitVec.isLt (Nat.pow_le_pow_right (by decide) (by omega)))]
theorem own_tb_0 (i : Nat) : own_tb 0 i = false := by
  unfold own_tb
  rw [show ((0 : Int64)).toBitVec.toNat = 0 from by decide, Nat.zero_testBit]
theorem own_and_iff (w : Int64) (z : Int32) : w &&& own_bit z = 0 ↔ own_tb w (own_b z) = false := by
  constructor
  · intro h
    have := congrArg (fun v => own_tb v (own_b z)) h
    simp only [own_tb_and, own_tb_bit, own_tb_0, decide_true, Bool.and_true] at this
    exact this
  · intro h
    apply own_tb_ext
    intro i hi
    rw [own_tb_and, own_tb_bit, own_tb_0]
    by_cases q : own_b z = i
    · rw [← q, h]; rfl
    · simp [q]
def own_in (e : Int32 × Int64) (z : Int32) : Prop := own_key z = e.1 ∧ own_tb e.2 (own_b z) = true
def own_kok (k : Int32) : Prop := 0 ≤ k.toInt ∧ k.toInt < 33554432
def own_ins (S : Int32 → Prop) (v : Int32) : Int32 → Prop := fun z => S z ∨ z = v
def own_del (S : Int32 → Prop) (v : Int32) : Int32 → Prop := fun z => S z ∧ z ≠ v
def own_r (L : List (Int32 × Int64)) (S : Int32 → Prop) : Prop := L.Pairwise (fun a b => a.1.toInt < b.1.toInt) ∧ (∀ e ∈ L, own_kok e.1 ∧ e.2 ≠ 0) ∧ ∀ z, S z ↔ ∃ e ∈ L, own_in e z
theorem own_key_ok {v : Int32} (h : ¬ v < 0) : own_kok (own_key v) := by
  have a0 : (0 : Int32).toInt = 0 := rfl
  rw [Int32.lt_iff_toInt_lt, a0] at h
  have := own_key_int v
  have := Int32.toInt_lt v
  unfold own_kok
  omega
theorem own_bit_ne (v : Int32) : own_bit v ≠ 0 := fun h => by
  have := congrArg (fun w => own_tb w (own_b v)) h
  simp [own_tb_bit, own_tb_0] at this
section OwnR
variable {A B L : List (Int32 × Int64)} {S : Int32 → Prop} {k : Int32} {w : Int64} {v : Int32}
theorem own_r_nil (h : ∀ z, ¬ S z) : own_r [] S := ⟨List.Pairwise.nil, nofun, fun z => ⟨fun q => absurd q (h z), fun ⟨_, q, _⟩ => nomatch q⟩⟩
theorem own_pair_lt {a : Int32 × Int64} (h : (A ++ a :: B).Pairwise (fun a b => a.1.toInt < b.1.toInt)) : (∀ e ∈ A, e.1.toInt < a.1.toInt) ∧ (∀ e ∈ B, a.1.toInt < e.1.toInt) := by
  rw [List.pairwise_append] at h
  exact ⟨fun e he => h.2.2 e he a (by simp), fun e he => (List.pairwise_cons.mp h.2.1).1 e he⟩
theorem own_uniq (h : (A ++ (k, w) :: B).Pairwise (fun a b => a.1.toInt < b.1.toInt)) {e : Int32 × Int64} (he : e ∈ A ++ B) : e.1 ≠ k := fun q => by
  obtain ⟨h1, h2⟩ := own_pair_lt h
  have e' : (k, w).1.toInt = k.toInt := rfl
  rcases List.mem_append.mp he with c | c
  · have := h1 e c; rw [q, e'] at this; omega
  · have := h2 e c; rw [q, e'] at this; omega
theorem own_pair_swap {w' : Int64} (h : (A ++ (k, w) :: B).Pairwise (fun a b => a.1.toInt < b.1.toInt)) : (A ++ (k, w') :: B).Pairwise (fun a b => a.1.toInt < b.1.toInt) := by
  rw [List.pairwise_append, List.pairwise_cons] at h ⊢
  refine ⟨h.1, ⟨fun b hb => h.2.1.1 b hb, h.2.1.2⟩, fun a ha b hb => ?_⟩
  rcases List.mem_cons.mp hb with rfl | hb
  · exact h.2.2 a ha (k, w) (by simp)
  · exact h.2.2 a ha b (by simp [hb])
theorem own_mem_mid {e a : Int32 × Int64} : e ∈ A ++ a :: B ↔ e = a ∨ e ∈ A ++ B := by
  simp only [List.mem_append, List.mem_cons]
  constructor
  · rintro (h | h | h)
    · exact Or.inr (Or.inl h)
    · exact Or.inl h
    · exact Or.inr (Or.inr h)
  · rintro (h | h | h)
    · exact Or.inr (Or.inl h)
    · exact Or.inl h
    · exact Or.inr (Or.inr h)
theorem own_r_ins (h : own_r (A ++ B) S) (hv : ¬ v < 0) (hA : ∀ e ∈ A, e.1 < own_key v) (hB : ∀ e ∈ B, own_key v < e.1) : own_r (A ++ (own_key v, own_bit v) :: B) (own_ins S v) := by
  obtain ⟨h1, h2, h3⟩ := h
  refine ⟨?_, ?_, ?_⟩
  · rw [List.pairwise_append] at h1 ⊢
    refine ⟨h1.1, List.pairwise_cons.mpr ⟨fun b hb => Int32.lt_iff_toInt_lt.mp (hB b hb), h1.2.1⟩, fun a ha b hb => ?_⟩
    rcases List.mem_cons.mp hb with rfl | hb
    · exact Int32.lt_iff_toInt_lt.mp (hA a ha)
    · exact h1.2.2 a ha b hb
  · intro e he
    rcases own_mem_mid.mp he with rfl | he
    · exact ⟨own_key_ok hv, own_bit_ne v⟩
    · exact h2 e he
  · intro z
    constructor
    · rintro (q | rfl)
      · obtain ⟨e, he, hi⟩ := (h3 z).mp q
        exact ⟨e, own_mem_mid.mpr (Or.inr he), hi⟩
      · exact ⟨_, own_mem_mid.mpr (Or.inl rfl), rfl, by rw [own_tb_bit]; simp⟩
    · rintro ⟨e, he, hi⟩
      rcases own_mem_mid.mp he with rfl | he
      · refine Or.inr (own_key_b hi.1 ?_)
        have := hi.2
        rw [own_tb_bit] at this
        exact (of_decide_eq_true this).symm
      · exact Or.inl ((h3 z).mpr ⟨e, he, hi⟩)
theorem own_r_or (h : own_r (A ++ (k, w) :: B) S) (hk : own_key v = k) : own_r (A ++ (k, w ||| own_bit v) :: B) (own_ins S v) := by
  obtain ⟨h1, h2, h3⟩ := h
  refine ⟨own_pair_swap h1, ?_, ?_⟩
  · intro e he
    rcases own_mem_mid.mp he with rfl | he
    · refine ⟨(h2 _ (own_mem_mid.mpr (Or.inl rfl))).1, fun q => ?_⟩
      have := congrArg (fun w => own_tb w (own_b v)) q
      simp [own_tb_or, own_tb_bit, own_tb_0] at this
    · exact h2 e (own_mem_mid.mpr (Or.inr he))
  · intro z
    constructor
    · rintro (q | rfl)
      · obtain ⟨e, he, hi⟩ := (h3 z).mp q
        rcases own_mem_mid.mp he with rfl | he
        · exact ⟨_, own_mem_mid.mpr (Or.inl rfl), hi.1, by show own_tb (w ||| own_bit v) _ = true; rw [own_tb_or, hi.2]; rfl⟩
        · exact ⟨e, own_mem_mid.mpr (Or.inr he), hi⟩
      · exact ⟨_, own_mem_mid.mpr (Or.inl rfl), hk, by show own_tb (w ||| own_bit z) _ = true; rw [own_tb_or, own_tb_bit]; simp⟩
    · rintro ⟨e, he, hi⟩
      rcases own_mem_mid.mp he with rfl | he
      · have q : own_tb (w ||| own_bit v) (own_b z) = true := hi.2
        rw [own_tb_or, own_tb_bit, Bool.or_eq_true] at q
        rcases q with q | q
        · exact Or.inl ((h3 z).mpr ⟨_, own_mem_mid.mpr (Or.inl rfl), hi.1, q⟩)
        · exact Or.inr (own_key_b (hi.1.trans hk.symm) (of_decide_eq_true q).symm)
      · exact Or.inl ((h3 z).mpr ⟨e, own_mem_mid.mpr (Or.inr he), hi⟩)
theorem own_r_had (h : own_r (A ++ (k, w) :: B) S) (hk : own_key v = k) (hb : ¬ (w &&& own_bit v = 0)) : own_r (A ++ (k, w) :: B) (own_ins S v) := by
  rw [own_and_iff, Bool.not_eq_false] at hb
  refine ⟨h.1, h.2.1, fun z => ⟨?_, fun q => Or.inl ((h.2.2 z).mpr q)⟩⟩
  rintro (q | rfl)
  · exact (h.2.2 z).mp q
  · exact ⟨_, own_mem_mid.mpr (Or.inl rfl), hk, hb⟩
theorem own_r_no (h : own_r L S) (hn : ∀ e ∈ L, own_key v ≠ e.1) : own_r L (own_del S v) := by
  refine ⟨h.1, h.2.1, fun z => ⟨fun q => (h.2.2 z).mp q.1, fun q => ⟨(h.2.2 z).mpr q, ?_⟩⟩⟩
  rintro rfl
  obtain ⟨e, he, hi⟩ := q
  exact hn e he hi.1
theorem own_r_off (h : own_r (A ++ (k, w) :: B) S) (hk : own_key v = k) (hb : w &&& own_bit v = 0) : own_r (A ++ (k, w) :: B) (own_del S v) := by
  rw [own_and_iff] at hb
  refine ⟨h.1, h.2.1, fun z => ⟨fun q => (h.2.2 z).mp q.1, fun q => ⟨(h.2.2 z).mpr q, ?_⟩⟩⟩
  rintro rfl
  obtain ⟨e, he, hi⟩ := q
  rcases own_mem_mid.mp he with rfl | he
  · rw [show own_tb w (own_b z) = true from hi.2] at hb; cases hb
  · exact own_uniq h.1 he (hi.1.symm.trans hk)
theorem own_tb_clr (z : Int32) : own_tb (w &&& (own_bit v ^^^ (-1 : Int64))) (own_b z) = (own_tb w (own_b z) && !decide (own_b v = own_b z)) := by
  rw [own_tb_and, own_tb_xor, own_tb_bit, own_tb_m1 (own_b_lt z)]
  cases decide (own_b v = own_b z) <;> rfl
theorem own_r_clr (h : own_r (A ++ (k, w) :: B) S) (hk : own_key v = k) (hne : ¬ (w &&& (own_bit v ^^^ (-1 : Int64)) = 0)) : own_r (A ++ (k, w &&& (own_bit v ^^^ (-1 : Int64))) :: B) (own_del S v) := by
  obtain ⟨h1, h2, h3⟩ := h
  refine ⟨own_pair_swap h1, ?_, ?_⟩
  · intro e he
    rcases own_mem_mid.mp he with rfl | he
    · exact ⟨(h2 _ (own_mem_mid.mpr (Or.inl rfl))).1, hne⟩
    · exact h2 e (own_mem_mid.mpr (Or.inr he))
  · intro z
    constructor
    · rintro ⟨q, hz⟩
      obtain ⟨e, he, hi⟩ := (h3 z).mp q
      rcases own_mem_mid.mp he with rfl | he
      · refine ⟨_, own_mem_mid.mpr (Or.inl rfl), hi.1, ?_⟩
        show own_tb (w &&& (own_bit v ^^^ (-1 : Int64))) (own_b z) = true
        rw [own_tb_clr, hi.2]
        simp only [Bool.true_and, Bool.not_eq_true', decide_eq_false_iff_not]
        exact fun q => hz (own_key_b (hi.1.trans hk.symm) q.symm)
      · exact ⟨e, own_mem_mid.mpr (Or.inr he), hi⟩
    · rintro ⟨e, he, hi⟩
      rcases own_mem_mid.mp he with rfl | he
      · have q : own_tb (w &&& (own_bit v ^^^ (-1 : Int64))) (own_b z) = true := hi.2
        rw [own_tb_clr, Bool.and_eq_true] at q
        refine ⟨(h3 z).mpr ⟨_, own_mem_mid.mpr (Or.inl rfl), hi.1, q.1⟩, ?_⟩
        rintro rfl
        simp at q
      · exact ⟨(h3 z).mpr ⟨e, own_mem_mid.mpr (Or.inr he), hi⟩, fun q => own_uniq h1 he (hi.1.symm.trans (q ▸ hk))⟩
theorem own_r_out (h : own_r (A ++ (k, w) :: B) S) (hk : own_key v = k) (he0 : w &&& (own_bit v ^^^ (-1 : Int64)) = 0) : own_r (A ++ B) (own_del S v) := by
  obtain ⟨h1, h2, h3⟩ := h
  refine ⟨h1.sublist (List.Sublist.append_left (List.sublist_cons_self _ _) A), fun e he => h2 e (own_mem_mid.mpr (Or.inr he)), ?_⟩
  intro z
  constructor
  · rintro ⟨q, hz⟩
    obtain ⟨e, he, hi⟩ := (h3 z).mp q
    rcases own_mem_mid.mp he with rfl | he
    · exfalso
      have := own_tb_clr (w := w) (v := v) z
      rw [he0, own_tb_0, show own_tb w (own_b z) = true from hi.2] at this
      simp only [Bool.true_and, Bool.false_eq, Bool.not_eq_false', decide_eq_true_eq] at this
      exact hz (own_key_b (hi.1.trans hk.symm) this.symm)
    · exact ⟨e, he, hi⟩
  · rintro ⟨e, he, hi⟩
    refine ⟨(h3 z).mpr ⟨e, own_mem_mid.mpr (Or.inr he), hi⟩, ?_⟩
    rintro rfl
    exact own_uniq h1 he (hi.1.symm.trans hk)
def own_n32 (x r : Int32) : Prop := (x = 0 → r = 32) ∧ (x ≠ 0 → ∃ i : Nat, i < 32 ∧ 2 ^ i ≤ x.toBitVec.toNat ∧ x.toBitVec.toNat < 2 ^ (i + 1) ∧ r.toInt = 31 - (i : Int))
def own_n64 (x : Int64) (r : Int32) : Prop := x ≠ 0 → ∃ i : Nat, i < 64 ∧ 2 ^ i ≤ x.toBitVec.toNat ∧ x.toBitVec.toNat < 2 ^ (i + 1) ∧ r.toInt = 63 - (i : Int)
def own_top (S : Int32 → Prop) (r : Int32) : Prop := ((∀ z, ¬ S z) ∧ r = -1) ∨ (S r ∧ ∀ z, S z → z.toInt ≤ r.toInt)
theorem own_top_nil (h : own_r [] S) : own_top S (-1) := Or.inl ⟨fun z q => (by obtain ⟨e, he, -⟩ := (h.2.2 z).mp q; cases he), rfl⟩
theorem own_r_top {r : Int32} (h : own_r (A ++ [(k, w)]) S) (hr : own_n64 w r) : own_top S ((k <<< ((6 : Int32) &&& 31)) ||| ((63 : Int32) - r)) := by
  obtain ⟨h1, h2, h3⟩ := h
  obtain ⟨⟨k0, k1⟩, w0⟩ := h2 (k, w) (by simp)
  replace k0 : 0 ≤ k.toInt := k0
  replace k1 : k.toInt < 33554432 := k1
  obtain ⟨i, hi, b1, b2, hri⟩ := hr w0
  have s1 := c_ishl k 6 6 (by decide)
  have s2 := c_isub 63 r
  have s3 : (63 : Int32).toInt = 63 := rfl
  generalize e1 : k <<< ((6 : Int32) &&& 31) = u at *
  generalize e2 : (63 : Int32) - r = x at *
  have u1 := Int32.le_toInt u; have u2 := Int32.toInt_lt u; have x1 := Int32.le_toInt x; have x2 := Int32.toInt_lt x
  have hu : u.toInt = k.toInt * 64 := by
    rw [show (((2 ^ 6 : Nat) : Int)) = 64 from rfl] at s1
    omega
  have hx : x.toInt = i := by omega
  have s4 := c_or u x 6 (by decide) 64 rfl (by omega) (by omega) (by omega)
  generalize e3 : u ||| x = r0 at *
  have r1 := Int32.le_toInt r0; have r2 := Int32.toInt_lt r0
  have hr0 : r0.toInt = k.toInt * 64 + i := by omega
  have hkey : own_key r0 = k := by
    apply Int32.toInt_inj.mp
    rw [own_key_int]
    omega
  have hb : own_b r0 = i := by unfold own_b; omega
  refine Or.inr ⟨(h3 r0).mpr ⟨(k, w), by simp, hkey, ?_⟩, fun z hz => ?_⟩
  · show own_tb w (own_b r0) = true
    rw [hb]
    exact Nat.testBit_of_two_pow_le_and_two_pow_add_one_gt b1 b2
  · obtain ⟨e, he, hi1, hi2⟩ := (h3 z).mp hz
    have kz := own_key_int z
    have bz := own_b_int z
    have := Int32.le_toInt z; have := Int32.toInt_lt z
    obtain ⟨⟨ke0, ke1⟩, -⟩ := h2 e he
    rw [hi1] at kz
    rcases List.mem_append.mp he with he | he
    · have := (own_pair_lt h1).1 e he
      have e' : (k, w).1.toInt = k.toInt := rfl
      omega
    · simp only [List.mem_cons, List.not_mem_nil, or_false] at he
      subst he
      replace kz : k.toInt = z.toInt % 4294967296 / 64 := kz
      have : own_b z ≤ i := by
        refine Nat.le_of_not_lt fun q => ?_
        have : own_tb w (own_b z) = false := Nat.testBit_lt_two_pow (Nat.lt_of_lt_of_le b2 (Nat.pow_le_pow_right (by decide) q))
        rw [show own_tb w (own_b z) = true from hi2] at this
        cases this
      omega
end OwnR
theorem own_top_uniq {S : Int32 → Prop} {a b : Int32} (h : own_top S a) (g : own_top S b) : a = b := by
  rcases h with ⟨h, rfl⟩ | ⟨h, h'⟩ <;> rcases g with ⟨g, rfl⟩ | ⟨g, g'⟩
  · rfl
  · exact absurd g (h _)
  · exact absurd h (g _)
  · apply Int32.toInt_inj.mp
    have := h' b g
    have := g' a h
    omega
def own_mx (a b : Int32) : Int32 := if a < b then b else a
theorem own_top_e : own_top (fun _ => False) (-1) := Or.inl ⟨fun _ q => q, rfl⟩
theorem own_top_mx {S : Int32 → Prop} {a v : Int32} (h : own_top S a) (hv : ¬ v < 0) : own_top (own_ins S v) (own_mx a v) := by
  have a0 : (0 : Int32).toInt = 0 := rfl
  have am : (-1 : Int32).toInt = -1 := rfl
  rw [Int32.lt_iff_toInt_lt, a0] at hv
  unfold own_mx
  by_cases q : a < v
  · rw [if_pos q]
    refine Or.inr ⟨Or.inr rfl, fun z hz => ?_⟩
    rw [Int32.lt_iff_toInt_lt] at q
    rcases hz with hz | rfl
    · rcases h with ⟨h, -⟩ | ⟨-, h⟩
      · exact absurd hz (h z)
      · have := h z hz; omega
    · omega
  · rw [if_neg q]
    rw [Int32.lt_iff_toInt_lt] at q
    rcases h with ⟨h, rfl⟩ | ⟨h, h'⟩
    · rw [am] at q; omega
    · refine Or.inr ⟨Or.inl h, fun z hz => ?_⟩
      rcases hz with hz | rfl
      · exact h' z hz
      · omega
theorem own_top_congr {S T : Int32 → Prop} {a : Int32} (h : own_top S a) (e : ∀ z, S z ↔ T z) : own_top T a := by
  have : S = T := funext fun z => propext (e z)
  rw [← this]; exact h
theorem own_bv_mod32 (w : Int32) : (w.toBitVec.toNat : Int) = w.toInt % 4294967296 := by
  have e : w.toInt = w.toBitVec.toInt := rfl
  have h2 := BitVec.toInt_eq_toNat_cond w.toBitVec
  have h3 := w.toBitVec.isLt
  rw [e]
  split at h2 <;> omega
theorem own_n32_pos {x r u K : Int32} (s : Nat) (hs : s ≤ 30) (h0 : ((2 ^ s : Nat) : Int) ≤ x.toInt) (h1 : x.toInt < 4 * ((2 ^ s : Nat) : Int)) (hu : u.toInt = x.toInt / ((2 ^ s : Nat) : Int)) (hK : K.toInt = 31 - (s : Int)) (hr : r = (K - ((u.toUInt32 >>> ((1 : Int32) &&& 31).toUInt32).toInt32))) : own_n32 x r := by
  have hp : 0 < 2 ^ s := Nat.two_pow_pos s
  have hn : (x.toBitVec.toNat : Int) = x.toInt := by
    rw [own_bv_mod32]
    have := Int32.toInt_lt x
    omega
  have a0 : (0 : Int32).toInt = 0 := rfl
  refine ⟨fun q => by subst q; rw [a0] at h0; omega, fun _ => ?_⟩
  have hq := c_iushr u 1 1 (by decide) (by decide)
  rw [show ((2 ^ 1 : Nat) : Int) = 2 from rfl] at hq
  have hm := c_isub K ((u.toUInt32 >>> ((1 : Int32) &&& 31).toUInt32).toInt32)
  rw [← hr, hq] at hm
  have r1 := Int32.le_toInt r; have r2 := Int32.toInt_lt r
  have hu1 : 1 ≤ u.toInt := by rw [hu]; exact (Int.le_ediv_iff_mul_le (by omega)).mpr (by omega)
  have hu2 : u.toInt < 4 := by rw [hu]; exact (Int.ediv_lt_iff_lt_mul (by omega)).mpr (by omega)
  have hd := Int.mul_ediv_self_le (x := x.toInt) (k := ((2 ^ s : Nat) : Int)) (by omega)
  have hd2 := Int.lt_mul_ediv_self_add (x := x.toInt) (k := ((2 ^ s : Nat) : Int)) (by omega)
  rw [← hu] at hd hd2
  have hp1 : 2 ^ (s + 1) = 2 * 2 ^ s := by rw [Nat.pow_succ]; omega
  have hp2 : 2 ^ (s + 1 + 1) = 4 * 2 ^ s := by rw [Nat.pow_succ, Nat.pow_succ]; omega
  by_cases q : u.toInt = 1
  · rw [q] at hd hd2 hm
    refine ⟨s, by omega, by omega, by omega, by omega⟩
  · refine ⟨s + 1, by omega, ?_, by omega, by omega⟩
    rw [hp1]
    have : 2 ≤ u.toInt := by omega
    have := Int.mul_le_mul_of_nonneg_left this (show (0 : Int) ≤ ((2 ^ s : Nat) : Int) by omega)
    omega
theorem own_n32_neg {x : Int32} (h : ¬ (0 : Int32) < x) (h0 : ¬ (x = 0)) : own_n32 x 0 := by
  have e : x.toInt = x.toBitVec.toInt := rfl
  have a0 : (0 : Int32).toInt = 0 := rfl
  have h2 := BitVec.toInt_eq_toNat_cond x.toBitVec
  have h3 := x.toBitVec.isLt
  rw [Int32.lt_iff_toInt_lt, a0] at h
  have h4 : x.toInt ≠ 0 := fun q => h0 (Int32.toInt_inj.mp (q.trans a0.symm))
  refine ⟨fun q => absurd q h0, fun _ => ⟨31, by decide, ?_, by simpa using h3, rfl⟩⟩
  rw [e] at h h4
  split at h2 <;> omega
theorem own_n32_0 : own_n32 0 32 := ⟨fun _ => rfl, fun h => absurd rfl h⟩
theorem own_u32 {x u q : Int32} (k : Nat) (hk : q.toBitVec.toNat % 32 = k) (k0 : 0 < k) (hu : u = ((x.toUInt32 >>> (q &&& 31).toUInt32).toInt32)) (hx : 0 ≤ x.toInt) : u.toInt = x.toInt / ((2 ^ k : Nat) : Int) := by
  have := c_iushr x q k hk k0
  rw [← hu] at this
  rw [this, Int.emod_eq_of_lt hx (by have := Int32.toInt_lt x; omega)]
theorem own_bv_mod (w : Int64) : (w.toBitVec.toNat : Int) = w.toInt % 18446744073709551616 := by
  have e : w.toInt = w.toBitVec.toInt := rfl
  have h2 := BitVec.toInt_eq_toNat_cond w.toBitVec
  have h3 := w.toBitVec.isLt
  rw [e]
  split at h2 <;> omega
abbrev own_hi64 (w : Int64) : Int32 := ((w.toUInt64 >>> ((32 : Int32) &&& 0x3f).toInt64.toUInt64).toInt64).toInt32
theorem own_hi64_nat (w : Int64) : ((own_hi64 w).toBitVec.toNat) = w.toBitVec.toNat / 4294967296 := by
  have h1 := c_lushr w 32 32 (by decide) (by decide)
  have h2 := c_l2i ((w.toUInt64 >>> ((32 : Int32) &&& 0x3f).toInt64.toUInt64).toInt64)
  have h3 := own_bv_mod w
  have h4 := own_bv_mod32 (own_hi64 w)
  rw [h1, show (((2 ^ 32 : Nat) : Int)) = 4294967296 from rfl] at h2
  have h5 := w.toBitVec.isLt
  change ((own_hi64 w).toInt - _) % _ = 0 at h2
  omega
theorem own_lo64_nat (w : Int64) : (w.toInt32.toBitVec.toNat) = w.toBitVec.toNat % 4294967296 := by
  have h2 := c_l2i w
  have h3 := own_bv_mod w
  have h4 := own_bv_mod32 w.toInt32
  omega
theorem own_n64_hi {w : Int64} {r : Int32} (h : own_n32 (own_hi64 w) r) (hz : ¬ (own_hi64 w = 0)) : own_n64 w r := fun _ => by
  obtain ⟨i, hi, b1, b2, b3⟩ := h.2 hz
  rw [own_hi64_nat] at b1 b2
  refine ⟨i + 32, by omega, ?_, ?_, by omega⟩
  · rw [Nat.pow_add]
    have := (Nat.le_div_iff_mul_le (by decide)).mp b1
    exact this
  · rw [show i + 32 + 1 = (i + 1) + 32 by omega, Nat.pow_add]
    exact (Nat.div_lt_iff_lt_mul (by decide)).mp b2
theorem own_n64_lo {w : Int64} {r : Int32} (h : own_n32 w.toInt32 r) (hz : own_hi64 w = 0) : own_n64 w ((32 : Int32) + r) := fun hw => by
  have h1 := own_hi64_nat w
  rw [hz, show ((0 : Int32)).toBitVec.toNat = 0 from by decide] at h1
  have h2 := own_lo64_nat w
  have h3 : w.toBitVec.toNat < 4294967296 := by omega
  rw [Nat.mod_eq_of_lt h3] at h2
  have hn : w.toInt32 ≠ 0 := fun q => by
    rw [q, show ((0 : Int32)).toBitVec.toNat = 0 from by decide] at h2
    exact hw (Int64.toBitVec_inj.mp (BitVec.eq_of_toNat_eq (by rw [← h2]; decide)))
  obtain ⟨i, hi, b1, b2, b3⟩ := h.2 hn
  rw [h2] at b1 b2
  have := c_iadd 32 r
  rw [show (32 : Int32).toInt = 32 from rfl] at this
  have r1 := Int32.le_toInt ((32 : Int32) + r); have r2 := Int32.toInt_lt ((32 : Int32) + r)
  exact ⟨i, by omega, b1, b2, by omega⟩
def own_sh (x u m : Int32) (b : Int) : Prop := 0 < u.toInt ∧ u.toInt < b ∧ ∃ s : Nat, s ≤ 30 ∧ m.toInt = 31 - (s : Int) ∧ u.toInt = x.toInt / ((2 ^ s : Nat) : Int)
theorem own_sh_init {x : Int32} (h : (0 : Int32) < x) : own_sh x x 31 2147483648 := by
  rw [Int32.lt_iff_toInt_lt, show (0 : Int32).toInt = 0 from rfl] at h
  have := Int32.toInt_lt x
  exact ⟨h, by omega, 0, by decide, rfl, by simp⟩
theorem own_sh_stay {x u m q : Int32} {b b' : Int} (h : own_sh x u m b) (hu : u < q) (hq : q.toInt = b') : own_sh x u m b' := ⟨h.1, by rw [← hq]; exact Int32.lt_iff_toInt_lt.mp hu, h.2.2⟩
theorem own_sh_step {x u m m' q d sh : Int32} {b b' B : Int} (h : own_sh x u m b) (hu : ¬ u < q) (hq : q.toInt = B) (k : Nat) (hk : sh.toBitVec.toNat % 32 = k) (k0 : 0 < k) (hd : d.toInt = -(k : Int)) (hb : b ≤ b' * ((2 ^ k : Nat) : Int)) (hB : ((2 ^ k : Nat) : Int) = B) (hm : m + d = m') : own_sh x ((u.toUInt32 >>> (sh &&& 31).toUInt32).toInt32) m' b' := by
  subst hm
  obtain ⟨h1, h2, s, s1, s2, s3⟩ := h
  have e := own_u32 (x := u) k hk k0 rfl (by omega)
  rw [Int32.lt_iff_toInt_lt, hq, ← hB] at hu
  have hp : (0 : Int) < ((2 ^ k : Nat) : Int) := by have := Nat.two_pow_pos k; omega
  have hps : (0 : Int) ≤ ((2 ^ s : Nat) : Int) := by have := Nat.two_pow_pos s; omega
  have g1 : 1 ≤ u.toInt / ((2 ^ k : Nat) : Int) := (Int.le_ediv_iff_mul_le hp).mpr (by omega)
  have g2 : u.toInt / ((2 ^ k : Nat) : Int) < b' := (Int.ediv_lt_iff_lt_mul hp).mpr (by omega)
  have g3 := c_iadd m d
  have := Int32.le_toInt (m + d); have := Int32.toInt_lt (m + d)
  have hs : s + k ≤ 30 := by
    refine Nat.le_of_not_lt fun q => ?_
    have hx := Int32.toInt_lt x
    have e2 : u.toInt / ((2 ^ k : Nat) : Int) = x.toInt / ((2 ^ (s + k) : Nat) : Int) := by rw [s3, Int.ediv_ediv_of_nonneg hps, Nat.pow_add]; rfl
    have : x.toInt / ((2 ^ (s + k) : Nat) : Int) ≤ 0 := by
      have hz : (2 : Nat) ^ 31 ≤ 2 ^ (s + k) := Nat.pow_le_pow_right (by decide) q
      have hq2 : (0 : Int) < ((2 ^ (s + k) : Nat) : Int) := by have := Nat.two_pow_pos (s + k); omega
      have : x.toInt / ((2 ^ (s + k) : Nat) : Int) < 1 := (Int.ediv_lt_iff_lt_mul hq2).mpr (by omega)
      omega
    omega
  refine ⟨by omega, by omega, s + k, hs, by omega, ?_⟩
  rw [e, s3, Int.ediv_ediv_of_nonneg hps, Nat.pow_add]
  rfl
theorem own_sh_end {x u m : Int32} (h : own_sh x u m 4) : own_n32 x (m - ((u.toUInt32 >>> ((1 : Int32) &&& 31).toUInt32).toInt32)) := by
  obtain ⟨h1, h2, s, s1, s2, s3⟩ := h
  have hp : (0 : Int) < ((2 ^ s : Nat) : Int) := by have := Nat.two_pow_pos s; omega
  have g := Int.mul_ediv_self_le (x := x.toInt) (k := ((2 ^ s : Nat) : Int)) (by omega)
  have g' := Int.lt_mul_ediv_self_add (x := x.toInt) (k := ((2 ^ s : Nat) : Int)) (by omega)
  rw [← s3] at g g'
  refine own_n32_pos (u := u) (K := m) s s1 ?_ ?_ s3 s2 rfl
  · have := Int.mul_le_mul_of_nonneg_left (show (1 : Int) ≤ u.toInt by omega) (Int.le_of_lt hp)
    omega
  · have := Int.mul_le_mul_of_nonneg_left (show u.toInt ≤ (3 : Int) by omega) (Int.le_of_lt hp)
    omega
def own_s_0_0 (cap sz : Int32) (kv wv : List Value) (SS : Int32 → Prop) : Prop := cap = (0 : Int32) ∧ sz = (0 : Int32) ∧ kv = [] ∧ wv = [] ∧ own_r [] SS
def own_s_1_0 (cap sz : Int32) (kv wv : List Value) (SS : Int32 → Prop) : Prop := ∃ (g0 : Int32) (q0 : Int64), cap = (1 : Int32) ∧ sz = (0 : Int32) ∧ kv = [(.int g0)] ∧ wv = [(.long q0)] ∧ own_r [] SS
def own_s_1_1 (cap sz : Int32) (kv wv : List Value) (SS : Int32 → Prop) : Prop := ∃ (k0 : Int32) (w0 : Int64), cap = (1 : Int32) ∧ sz = (1 : Int32) ∧ kv = [(.int k0)] ∧ wv = [(.long w0)] ∧ own_r [(k0, w0)] SS
def own_s_2_1 (cap sz : Int32) (kv wv : List Value) (SS : Int32 → Prop) : Prop := ∃ (k0 g1 : Int32) (w0 q1 : Int64), cap = (2 : Int32) ∧ sz = (1 : Int32) ∧ kv = [(.int k0), (.int g1)] ∧ wv = [(.long w0), (.long q1)] ∧ own_r [(k0, w0)] SS
def own_s_2_2 (cap sz : Int32) (kv wv : List Value) (SS : Int32 → Prop) : Prop := ∃ (k0 k1 : Int32) (w0 w1 : Int64), cap = (2 : Int32) ∧ sz = (2 : Int32) ∧ kv = [(.int k0), (.int k1)] ∧ wv = [(.long w0), (.long w1)] ∧ own_r [(k0, w0), (k1, w1)] SS
def own_s_3_2 (cap sz : Int32) (kv wv : List Value) (SS : Int32 → Prop) : Prop := ∃ (k0 k1 g2 : Int32) (w0 w1 q2 : Int64), cap = (3 : Int32) ∧ sz = (2 : Int32) ∧ kv = [(.int k0), (.int k1), (.int g2)] ∧ wv = [(.long w0), (.long w1), (.long q2)] ∧ own_r [(k0, w0), (k1, w1)] SS
def own_s_3_3 (cap sz : Int32) (kv wv : List Value) (SS : Int32 → Prop) : Prop := ∃ (k0 k1 k2 : Int32) (w0 w1 w2 : Int64), cap = (3 : Int32) ∧ sz = (3 : Int32) ∧ kv = [(.int k0), (.int k1), (.int k2)] ∧ wv = [(.long w0), (.long w1), (.long w2)] ∧ own_r [(k0, w0), (k1, w1), (k2, w2)] SS
theorem own_o0 {a b : Int32 × Int64} {L : List (Int32 × Int64)} {S : Int32 → Prop} (h : own_r (a :: b :: L) S) : a.1 < b.1 := Int32.lt_iff_toInt_lt.mpr ((List.pairwise_cons.mp h.1).1 b (by simp))
theorem own_o1 {a b c : Int32 × Int64} {L : List (Int32 × Int64)} {S : Int32 → Prop} (h : own_r (c :: a :: b :: L) S) : a.1 < b.1 := Int32.lt_iff_toInt_lt.mpr ((List.pairwise_cons.mp (List.pairwise_cons.mp h.1).2).1 b (by simp))
theorem own_eq_of {a b : Int32} (h1 : ¬ a < b) (h2 : ¬ b < a) : b = a := by
  apply Int32.toInt_inj.mp
  rw [Int32.lt_iff_toInt_lt] at h1 h2
  omega
theorem own_ne_lt {a b : Int32} (h : a < b) : b ≠ a := fun q => by rw [q, Int32.lt_iff_toInt_lt] at h; omega
theorem own_ne_gt {a b : Int32} (h : b < a) : b ≠ a := fun q => by rw [q, Int32.lt_iff_toInt_lt] at h; omega
theorem own_nn (x : Int32) : ¬ (x &&& (2147483647 : Int32)) < (0 : Int32) := by
  have q := c_mask x 2147483647 31 (by decide) (by decide)
  have a0 : (0 : Int32).toInt = 0 := rfl
  rw [Int32.lt_iff_toInt_lt, q, a0]
  omega

theorem own_nz {cap sz : Int32} {kv wv : List Value} {SS : Int32 → Prop} (h : own_s_1_1 cap sz kv wv SS ∨ own_s_3_2 cap sz kv wv SS) : ¬ (sz = (0 : Int32)) := by
  rcases h with ⟨_, _, -, rfl, -⟩ | ⟨_, _, _, _, _, _, -, rfl, -⟩ <;> decide
def own_mn (a b : Int32) : Int32 := if b < a then b else a
theorem own_top_1 {x : Int32} (_ : ¬ x < (0 : Int32)) : own_top (own_ins (fun _ => False) x) x := Or.inr ⟨Or.inr rfl, fun z q => by rcases q with q | rfl; exact q.elim; exact Int.le_refl _⟩
theorem own_sec_1 (x : Int32) : own_top (own_del (own_ins (fun _ => False) x) x) (-1) := Or.inl ⟨fun z q => by rcases q with ⟨q | q, r⟩; exact q; exact r q, rfl⟩
theorem own_sec_m {y : Int32} (h : ¬ y < (0 : Int32)) : own_top (own_del (own_ins (fun _ => False) y) (own_mx (-1) y)) (-1) := by
  have e : own_mx (-1) y = y := by
    unfold own_mx
    rw [if_pos]
    have a0 : (0 : Int32).toInt = 0 := rfl
    have a1 : (-1 : Int32).toInt = -1 := rfl
    rw [Int32.lt_iff_toInt_lt] at h ⊢
    omega
  rw [e]
  exact own_sec_1 y
theorem own_sec_eq {x y : Int32} (h : x = y) : own_top (own_del (own_ins (own_ins (fun _ => False) x) y) (own_mx x y)) (-1) := by
  subst h
  have e : own_mx x x = x := by unfold own_mx; split <;> rfl
  rw [e]
  exact Or.inl ⟨fun z q => by rcases q with ⟨(q | q) | q, r⟩; exact q; exact r q; exact r q, rfl⟩
theorem own_sec_ne {x y : Int32} (h : ¬ (x = y)) : own_top (own_del (own_ins (own_ins (fun _ => False) x) y) (own_mx x y)) (own_mn x y) := by
  refine Or.inr ?_
  unfold own_mx own_mn
  by_cases c : x < y
  · have c' : ¬ y < x := fun q => by rw [Int32.lt_iff_toInt_lt] at c q; omega
    rw [if_pos c, if_neg c']
    refine ⟨⟨Or.inl (Or.inr rfl), h⟩, fun z q => ?_⟩
    rcases q with ⟨(q | rfl) | q, r⟩
    · exact q.elim
    · exact Int.le_refl _
    · exact absurd q r
  · rw [if_neg c]
    have c' : y < x := by
      rw [Int32.lt_iff_toInt_lt] at c ⊢
      have hne : x.toInt ≠ y.toInt := fun q => h (Int32.toInt_inj.mp q)
      omega
    rw [if_pos c']
    refine ⟨⟨Or.inr rfl, fun q => h q.symm⟩, fun z q => ?_⟩
    rcases q with ⟨(q | q) | rfl, r⟩
    · exact q.elim
    · exact absurd q r
    · exact Int.le_refl _

theorem d1_0 : decode prog_36_method_1_code 0 = .ok (.aload_n 0, 1) := by decide +kernel
theorem d1_1 : decode prog_36_method_1_code 1 = .ok (.invokespecial 1, 3) := by decide +kernel
theorem d1_4 : decode prog_36_method_1_code 4 = .ok (.aload_n 0, 1) := by decide +kernel
theorem d1_5 : decode prog_36_method_1_code 5 = .ok (.getstatic 7, 3) := by decide +kernel
theorem d1_8 : decode prog_36_method_1_code 8 = .ok (.putfield 13, 3) := by decide +kernel
theorem d1_11 : decode prog_36_method_1_code 11 = .ok (.aload_n 0, 1) := by decide +kernel
theorem d1_12 : decode prog_36_method_1_code 12 = .ok (.getstatic 16, 3) := by decide +kernel
theorem d1_15 : decode prog_36_method_1_code 15 = .ok (.putfield 20, 3) := by decide +kernel
theorem d1_18 : decode prog_36_method_1_code 18 = .ok (.return_, 1) := by decide +kernel
theorem d3_0 : decode prog_36_method_5_code 0 = .ok (.iload_n 1, 1) := by decide +kernel
theorem d3_1 : decode prog_36_method_5_code 1 = .ok (.bipush 6, 2) := by decide +kernel
theorem d3_3 : decode prog_36_method_5_code 3 = .ok (.iushr, 1) := by decide +kernel
theorem d3_4 : decode prog_36_method_5_code 4 = .ok (.istore_n 2, 1) := by decide +kernel
theorem d3_5 : decode prog_36_method_5_code 5 = .ok (.lconst 1, 1) := by decide +kernel
theorem d3_6 : decode prog_36_method_5_code 6 = .ok (.iload_n 1, 1) := by decide +kernel
theorem d3_7 : decode prog_36_method_5_code 7 = .ok (.lshl, 1) := by decide +kernel
theorem d3_8 : decode prog_36_method_5_code 8 = .ok (.lstore_n 3, 1) := by decide +kernel
theorem d3_9 : decode prog_36_method_5_code 9 = .ok (.aload_n 0, 1) := by decide +kernel
theorem d3_10 : decode prog_36_method_5_code 10 = .ok (.getfield 13, 3) := by decide +kernel
theorem d3_13 : decode prog_36_method_5_code 13 = .ok (.iconst 0, 1) := by decide +kernel
theorem d3_14 : decode prog_36_method_5_code 14 = .ok (.aload_n 0, 1) := by decide +kernel
theorem d3_15 : decode prog_36_method_5_code 15 = .ok (.getfield 23, 3) := by decide +kernel
theorem d3_18 : decode prog_36_method_5_code 18 = .ok (.iload_n 2, 1) := by decide +kernel
theorem d3_19 : decode prog_36_method_5_code 19 = .ok (.invokestatic 43, 3) := by decide +kernel
theorem d3_22 : decode prog_36_method_5_code 22 = .ok (.istore 5, 2) := by decide +kernel
theorem d3_24 : decode prog_36_method_5_code 24 = .ok (.iload 5, 2) := by decide +kernel
theorem d3_26 : decode prog_36_method_5_code 26 = .ok (.ifCond .ge 97, 3) := by decide +kernel
theorem d3_29 : decode prog_36_method_5_code 29 = .ok (.iload 5, 2) := by decide +kernel
theorem d3_31 : decode prog_36_method_5_code 31 = .ok (.ineg, 1) := by decide +kernel
theorem d3_32 : decode prog_36_method_5_code 32 = .ok (.iconst 1, 1) := by decide +kernel
theorem d3_33 : decode prog_36_method_5_code 33 = .ok (.isub, 1) := by decide +kernel
theorem d3_34 : decode prog_36_method_5_code 34 = .ok (.istore 6, 2) := by decide +kernel
theorem d3_36 : decode prog_36_method_5_code 36 = .ok (.aload_n 0, 1) := by decide +kernel
theorem d3_37 : decode prog_36_method_5_code 37 = .ok (.aload_n 0, 1) := by decide +kernel
theorem d3_38 : decode prog_36_method_5_code 38 = .ok (.getfield 23, 3) := by decide +kernel
theorem d3_41 : decode prog_36_method_5_code 41 = .ok (.iconst 1, 1) := by decide +kernel
theorem d3_42 : decode prog_36_method_5_code 42 = .ok (.iadd, 1) := by decide +kernel
theorem d3_43 : decode prog_36_method_5_code 43 = .ok (.invokevirtual 49, 3) := by decide +kernel
theorem d3_46 : decode prog_36_method_5_code 46 = .ok (.aload_n 0, 1) := by decide +kernel
theorem d3_47 : decode prog_36_method_5_code 47 = .ok (.getfield 13, 3) := by decide +kernel
theorem d3_50 : decode prog_36_method_5_code 50 = .ok (.iload 6, 2) := by decide +kernel
theorem d3_52 : decode prog_36_method_5_code 52 = .ok (.aload_n 0, 1) := by decide +kernel
theorem d3_53 : decode prog_36_method_5_code 53 = .ok (.getfield 13, 3) := by decide +kernel
theorem d3_56 : decode prog_36_method_5_code 56 = .ok (.iload 6, 2) := by decide +kernel
theorem d3_58 : decode prog_36_method_5_code 58 = .ok (.iconst 1, 1) := by decide +kernel
theorem d3_59 : decode prog_36_method_5_code 59 = .ok (.iadd, 1) := by decide +kernel
theorem d3_60 : decode prog_36_method_5_code 60 = .ok (.aload_n 0, 1) := by decide +kernel
theorem d3_61 : decode prog_36_method_5_code 61 = .ok (.getfield 23, 3) := by decide +kernel
theorem d3_64 : decode prog_36_method_5_code 64 = .ok (.iload 6, 2) := by decide +kernel
theorem d3_66 : decode prog_36_method_5_code 66 = .ok (.isub, 1) := by decide +kernel
theorem d3_67 : decode prog_36_method_5_code 67 = .ok (.invokestatic 53, 3) := by decide +kernel
theorem d3_70 : decode prog_36_method_5_code 70 = .ok (.aload_n 0, 1) := by decide +kernel
theorem d3_71 : decode prog_36_method_5_code 71 = .ok (.getfield 20, 3) := by decide +kernel
theorem d3_74 : decode prog_36_method_5_code 74 = .ok (.iload 6, 2) := by decide +kernel
theorem d3_76 : decode prog_36_method_5_code 76 = .ok (.aload_n 0, 1) := by decide +kernel
theorem d3_77 : decode prog_36_method_5_code 77 = .ok (.getfield 20, 3) := by decide +kernel
theorem d3_80 : decode prog_36_method_5_code 80 = .ok (.iload 6, 2) := by decide +kernel
theorem d3_82 : decode prog_36_method_5_code 82 = .ok (.iconst 1, 1) := by decide +kernel
theorem d3_83 : decode prog_36_method_5_code 83 = .ok (.iadd, 1) := by decide +kernel
theorem d3_84 : decode prog_36_method_5_code 84 = .ok (.aload_n 0, 1) := by decide +kernel
theorem d3_85 : decode prog_36_method_5_code 85 = .ok (.getfield 23, 3) := by decide +kernel
theorem d3_88 : decode prog_36_method_5_code 88 = .ok (.iload 6, 2) := by decide +kernel
theorem d3_90 : decode prog_36_method_5_code 90 = .ok (.isub, 1) := by decide +kernel
theorem d3_91 : decode prog_36_method_5_code 91 = .ok (.invokestatic 53, 3) := by decide +kernel
theorem d3_94 : decode prog_36_method_5_code 94 = .ok (.aload_n 0, 1) := by decide +kernel
theorem d3_95 : decode prog_36_method_5_code 95 = .ok (.getfield 13, 3) := by decide +kernel
theorem d3_98 : decode prog_36_method_5_code 98 = .ok (.iload 6, 2) := by decide +kernel
theorem d3_100 : decode prog_36_method_5_code 100 = .ok (.iload_n 2, 1) := by decide +kernel
theorem d3_101 : decode prog_36_method_5_code 101 = .ok (.iastore, 1) := by decide +kernel
theorem d3_102 : decode prog_36_method_5_code 102 = .ok (.aload_n 0, 1) := by decide +kernel
theorem d3_103 : decode prog_36_method_5_code 103 = .ok (.getfield 20, 3) := by decide +kernel
theorem d3_106 : decode prog_36_method_5_code 106 = .ok (.iload 6, 2) := by decide +kernel
theorem d3_108 : decode prog_36_method_5_code 108 = .ok (.lload_n 3, 1) := by decide +kernel
theorem d3_109 : decode prog_36_method_5_code 109 = .ok (.lastore, 1) := by decide +kernel
theorem d3_110 : decode prog_36_method_5_code 110 = .ok (.aload_n 0, 1) := by decide +kernel
theorem d3_111 : decode prog_36_method_5_code 111 = .ok (.dup, 1) := by decide +kernel
theorem d3_112 : decode prog_36_method_5_code 112 = .ok (.getfield 23, 3) := by decide +kernel
theorem d3_115 : decode prog_36_method_5_code 115 = .ok (.iconst 1, 1) := by decide +kernel
theorem d3_116 : decode prog_36_method_5_code 116 = .ok (.iadd, 1) := by decide +kernel
theorem d3_117 : decode prog_36_method_5_code 117 = .ok (.putfield 23, 3) := by decide +kernel
theorem d3_120 : decode prog_36_method_5_code 120 = .ok (.goto 36, 3) := by decide +kernel
theorem d3_123 : decode prog_36_method_5_code 123 = .ok (.aload_n 0, 1) := by decide +kernel
theorem d3_124 : decode prog_36_method_5_code 124 = .ok (.getfield 20, 3) := by decide +kernel
theorem d3_127 : decode prog_36_method_5_code 127 = .ok (.iload 5, 2) := by decide +kernel
theorem d3_129 : decode prog_36_method_5_code 129 = .ok (.laload, 1) := by decide +kernel
theorem d3_130 : decode prog_36_method_5_code 130 = .ok (.lload_n 3, 1) := by decide +kernel
theorem d3_131 : decode prog_36_method_5_code 131 = .ok (.land, 1) := by decide +kernel
theorem d3_132 : decode prog_36_method_5_code 132 = .ok (.lconst 0, 1) := by decide +kernel
theorem d3_133 : decode prog_36_method_5_code 133 = .ok (.lcmp, 1) := by decide +kernel
theorem d3_134 : decode prog_36_method_5_code 134 = .ok (.ifCond .ne 22, 3) := by decide +kernel
theorem d3_137 : decode prog_36_method_5_code 137 = .ok (.aload_n 0, 1) := by decide +kernel
theorem d3_138 : decode prog_36_method_5_code 138 = .ok (.aload_n 0, 1) := by decide +kernel
theorem d3_139 : decode prog_36_method_5_code 139 = .ok (.getfield 23, 3) := by decide +kernel
theorem d3_142 : decode prog_36_method_5_code 142 = .ok (.invokevirtual 49, 3) := by decide +kernel
theorem d3_145 : decode prog_36_method_5_code 145 = .ok (.aload_n 0, 1) := by decide +kernel
theorem d3_146 : decode prog_36_method_5_code 146 = .ok (.getfield 20, 3) := by decide +kernel
theorem d3_149 : decode prog_36_method_5_code 149 = .ok (.iload 5, 2) := by decide +kernel
theorem d3_151 : decode prog_36_method_5_code 151 = .ok (.dup2, 1) := by decide +kernel
theorem d3_152 : decode prog_36_method_5_code 152 = .ok (.laload, 1) := by decide +kernel
theorem d3_153 : decode prog_36_method_5_code 153 = .ok (.lload_n 3, 1) := by decide +kernel
theorem d3_154 : decode prog_36_method_5_code 154 = .ok (.lor, 1) := by decide +kernel
theorem d3_155 : decode prog_36_method_5_code 155 = .ok (.lastore, 1) := by decide +kernel
theorem d3_156 : decode prog_36_method_5_code 156 = .ok (.return_, 1) := by decide +kernel
theorem d4_0 : decode jdk_65_method_58_code 0 = .ok (.aload_n 0, 1) := by decide +kernel
theorem d4_1 : decode jdk_65_method_58_code 1 = .ok (.arraylength, 1) := by decide +kernel
theorem d4_2 : decode jdk_65_method_58_code 2 = .ok (.iload_n 1, 1) := by decide +kernel
theorem d4_3 : decode jdk_65_method_58_code 3 = .ok (.iload_n 2, 1) := by decide +kernel
theorem d4_4 : decode jdk_65_method_58_code 4 = .ok (.invokestatic 13, 3) := by decide +kernel
theorem d4_7 : decode jdk_65_method_58_code 7 = .ok (.aload_n 0, 1) := by decide +kernel
theorem d4_8 : decode jdk_65_method_58_code 8 = .ok (.iload_n 1, 1) := by decide +kernel
theorem d4_9 : decode jdk_65_method_58_code 9 = .ok (.iload_n 2, 1) := by decide +kernel
theorem d4_10 : decode jdk_65_method_58_code 10 = .ok (.iload_n 3, 1) := by decide +kernel
theorem d4_11 : decode jdk_65_method_58_code 11 = .ok (.invokestatic 209, 3) := by decide +kernel
theorem d4_14 : decode jdk_65_method_58_code 14 = .ok (.ireturn, 1) := by decide +kernel
theorem d5_0 : decode jdk_65_method_30_code 0 = .ok (.iload_n 1, 1) := by decide +kernel
theorem d5_1 : decode jdk_65_method_30_code 1 = .ok (.iload_n 2, 1) := by decide +kernel
theorem d5_2 : decode jdk_65_method_30_code 2 = .ok (.if_icmp .le 44, 3) := by decide +kernel
theorem d5_46 : decode jdk_65_method_30_code 46 = .ok (.iload_n 1, 1) := by decide +kernel
theorem d5_47 : decode jdk_65_method_30_code 47 = .ok (.ifCond .ge 12, 3) := by decide +kernel
theorem d5_59 : decode jdk_65_method_30_code 59 = .ok (.iload_n 2, 1) := by decide +kernel
theorem d5_60 : decode jdk_65_method_30_code 60 = .ok (.iload_n 0, 1) := by decide +kernel
theorem d5_61 : decode jdk_65_method_30_code 61 = .ok (.if_icmp .le 12, 3) := by decide +kernel
theorem d5_73 : decode jdk_65_method_30_code 73 = .ok (.return_, 1) := by decide +kernel
theorem d6_0 : decode jdk_65_method_59_code 0 = .ok (.iload_n 1, 1) := by decide +kernel
theorem d6_1 : decode jdk_65_method_59_code 1 = .ok (.istore 4, 2) := by decide +kernel
theorem d6_3 : decode jdk_65_method_59_code 3 = .ok (.iload_n 2, 1) := by decide +kernel
theorem d6_4 : decode jdk_65_method_59_code 4 = .ok (.iconst 1, 1) := by decide +kernel
theorem d6_5 : decode jdk_65_method_59_code 5 = .ok (.isub, 1) := by decide +kernel
theorem d6_6 : decode jdk_65_method_59_code 6 = .ok (.istore 5, 2) := by decide +kernel
theorem d6_8 : decode jdk_65_method_59_code 8 = .ok (.iload 4, 2) := by decide +kernel
theorem d6_10 : decode jdk_65_method_59_code 10 = .ok (.iload 5, 2) := by decide +kernel
theorem d6_12 : decode jdk_65_method_59_code 12 = .ok (.if_icmp .gt 54, 3) := by decide +kernel
theorem d6_15 : decode jdk_65_method_59_code 15 = .ok (.iload 4, 2) := by decide +kernel
theorem d6_17 : decode jdk_65_method_59_code 17 = .ok (.iload 5, 2) := by decide +kernel
theorem d6_19 : decode jdk_65_method_59_code 19 = .ok (.iadd, 1) := by decide +kernel
theorem d6_20 : decode jdk_65_method_59_code 20 = .ok (.iconst 1, 1) := by decide +kernel
theorem d6_21 : decode jdk_65_method_59_code 21 = .ok (.iushr, 1) := by decide +kernel
theorem d6_22 : decode jdk_65_method_59_code 22 = .ok (.istore 6, 2) := by decide +kernel
theorem d6_24 : decode jdk_65_method_59_code 24 = .ok (.aload_n 0, 1) := by decide +kernel
theorem d6_25 : decode jdk_65_method_59_code 25 = .ok (.iload 6, 2) := by decide +kernel
theorem d6_27 : decode jdk_65_method_59_code 27 = .ok (.iaload, 1) := by decide +kernel
theorem d6_28 : decode jdk_65_method_59_code 28 = .ok (.istore 7, 2) := by decide +kernel
theorem d6_30 : decode jdk_65_method_59_code 30 = .ok (.iload 7, 2) := by decide +kernel
theorem d6_32 : decode jdk_65_method_59_code 32 = .ok (.iload_n 3, 1) := by decide +kernel
theorem d6_33 : decode jdk_65_method_59_code 33 = .ok (.if_icmp .ge 12, 3) := by decide +kernel
theorem d6_36 : decode jdk_65_method_59_code 36 = .ok (.iload 6, 2) := by decide +kernel
theorem d6_38 : decode jdk_65_method_59_code 38 = .ok (.iconst 1, 1) := by decide +kernel
theorem d6_39 : decode jdk_65_method_59_code 39 = .ok (.iadd, 1) := by decide +kernel
theorem d6_40 : decode jdk_65_method_59_code 40 = .ok (.istore 4, 2) := by decide +kernel
theorem d6_42 : decode jdk_65_method_59_code 42 = .ok (.goto 21, 3) := by decide +kernel
theorem d6_45 : decode jdk_65_method_59_code 45 = .ok (.iload 7, 2) := by decide +kernel
theorem d6_47 : decode jdk_65_method_59_code 47 = .ok (.iload_n 3, 1) := by decide +kernel
theorem d6_48 : decode jdk_65_method_59_code 48 = .ok (.if_icmp .le 12, 3) := by decide +kernel
theorem d6_51 : decode jdk_65_method_59_code 51 = .ok (.iload 6, 2) := by decide +kernel
theorem d6_53 : decode jdk_65_method_59_code 53 = .ok (.iconst 1, 1) := by decide +kernel
theorem d6_54 : decode jdk_65_method_59_code 54 = .ok (.isub, 1) := by decide +kernel
theorem d6_55 : decode jdk_65_method_59_code 55 = .ok (.istore 5, 2) := by decide +kernel
theorem d6_57 : decode jdk_65_method_59_code 57 = .ok (.goto 6, 3) := by decide +kernel
theorem d6_60 : decode jdk_65_method_59_code 60 = .ok (.iload 6, 2) := by decide +kernel
theorem d6_62 : decode jdk_65_method_59_code 62 = .ok (.ireturn, 1) := by decide +kernel
theorem d6_63 : decode jdk_65_method_59_code 63 = .ok (.goto (-55), 3) := by decide +kernel
theorem d6_66 : decode jdk_65_method_59_code 66 = .ok (.iload 4, 2) := by decide +kernel
theorem d6_68 : decode jdk_65_method_59_code 68 = .ok (.iconst 1, 1) := by decide +kernel
theorem d6_69 : decode jdk_65_method_59_code 69 = .ok (.iadd, 1) := by decide +kernel
theorem d6_70 : decode jdk_65_method_59_code 70 = .ok (.ineg, 1) := by decide +kernel
theorem d6_71 : decode jdk_65_method_59_code 71 = .ok (.ireturn, 1) := by decide +kernel
theorem d7_0 : decode prog_36_method_10_code 0 = .ok (.aload_n 0, 1) := by decide +kernel
theorem d7_1 : decode prog_36_method_10_code 1 = .ok (.getfield 13, 3) := by decide +kernel
theorem d7_4 : decode prog_36_method_10_code 4 = .ok (.arraylength, 1) := by decide +kernel
theorem d7_5 : decode prog_36_method_10_code 5 = .ok (.istore_n 2, 1) := by decide +kernel
theorem d7_6 : decode prog_36_method_10_code 6 = .ok (.aload_n 0, 1) := by decide +kernel
theorem d7_7 : decode prog_36_method_10_code 7 = .ok (.getfield 27, 3) := by decide +kernel
theorem d7_10 : decode prog_36_method_10_code 10 = .ok (.ifCond .eq 8, 3) := by decide +kernel
theorem d7_13 : decode prog_36_method_10_code 13 = .ok (.iload_n 1, 1) := by decide +kernel
theorem d7_14 : decode prog_36_method_10_code 14 = .ok (.istore_n 2, 1) := by decide +kernel
theorem d7_15 : decode prog_36_method_10_code 15 = .ok (.goto 14, 3) := by decide +kernel
theorem d7_18 : decode prog_36_method_10_code 18 = .ok (.iload_n 1, 1) := by decide +kernel
theorem d7_19 : decode prog_36_method_10_code 19 = .ok (.iload_n 2, 1) := by decide +kernel
theorem d7_20 : decode prog_36_method_10_code 20 = .ok (.if_icmp .le 9, 3) := by decide +kernel
theorem d7_23 : decode prog_36_method_10_code 23 = .ok (.iload_n 1, 1) := by decide +kernel
theorem d7_24 : decode prog_36_method_10_code 24 = .ok (.iload_n 1, 1) := by decide +kernel
theorem d7_25 : decode prog_36_method_10_code 25 = .ok (.iconst 2, 1) := by decide +kernel
theorem d7_26 : decode prog_36_method_10_code 26 = .ok (.idiv, 1) := by decide +kernel
theorem d7_27 : decode prog_36_method_10_code 27 = .ok (.iadd, 1) := by decide +kernel
theorem d7_28 : decode prog_36_method_10_code 28 = .ok (.istore_n 2, 1) := by decide +kernel
theorem d7_29 : decode prog_36_method_10_code 29 = .ok (.iload_n 2, 1) := by decide +kernel
theorem d7_30 : decode prog_36_method_10_code 30 = .ok (.aload_n 0, 1) := by decide +kernel
theorem d7_31 : decode prog_36_method_10_code 31 = .ok (.getfield 13, 3) := by decide +kernel
theorem d7_34 : decode prog_36_method_10_code 34 = .ok (.arraylength, 1) := by decide +kernel
theorem d7_35 : decode prog_36_method_10_code 35 = .ok (.if_icmp .ne 10, 3) := by decide +kernel
theorem d7_38 : decode prog_36_method_10_code 38 = .ok (.aload_n 0, 1) := by decide +kernel
theorem d7_39 : decode prog_36_method_10_code 39 = .ok (.getfield 27, 3) := by decide +kernel
theorem d7_42 : decode prog_36_method_10_code 42 = .ok (.ifCond .eq 32, 3) := by decide +kernel
theorem d7_45 : decode prog_36_method_10_code 45 = .ok (.aload_n 0, 1) := by decide +kernel
theorem d7_46 : decode prog_36_method_10_code 46 = .ok (.aload_n 0, 1) := by decide +kernel
theorem d7_47 : decode prog_36_method_10_code 47 = .ok (.getfield 13, 3) := by decide +kernel
theorem d7_50 : decode prog_36_method_10_code 50 = .ok (.iload_n 2, 1) := by decide +kernel
theorem d7_51 : decode prog_36_method_10_code 51 = .ok (.invokestatic 71, 3) := by decide +kernel
theorem d7_54 : decode prog_36_method_10_code 54 = .ok (.putfield 13, 3) := by decide +kernel
theorem d7_57 : decode prog_36_method_10_code 57 = .ok (.aload_n 0, 1) := by decide +kernel
theorem d7_58 : decode prog_36_method_10_code 58 = .ok (.aload_n 0, 1) := by decide +kernel
theorem d7_59 : decode prog_36_method_10_code 59 = .ok (.getfield 20, 3) := by decide +kernel
theorem d7_62 : decode prog_36_method_10_code 62 = .ok (.iload_n 2, 1) := by decide +kernel
theorem d7_63 : decode prog_36_method_10_code 63 = .ok (.invokestatic 75, 3) := by decide +kernel
theorem d7_66 : decode prog_36_method_10_code 66 = .ok (.putfield 20, 3) := by decide +kernel
theorem d7_69 : decode prog_36_method_10_code 69 = .ok (.aload_n 0, 1) := by decide +kernel
theorem d7_70 : decode prog_36_method_10_code 70 = .ok (.iconst 0, 1) := by decide +kernel
theorem d7_71 : decode prog_36_method_10_code 71 = .ok (.putfield 27, 3) := by decide +kernel
theorem d7_74 : decode prog_36_method_10_code 74 = .ok (.return_, 1) := by decide +kernel
theorem d8_0 : decode jdk_65_method_123_code 0 = .ok (.iload_n 1, 1) := by decide +kernel
theorem d8_1 : decode jdk_65_method_123_code 1 = .ok (.aload_n 0, 1) := by decide +kernel
theorem d8_2 : decode jdk_65_method_123_code 2 = .ok (.arraylength, 1) := by decide +kernel
theorem d8_3 : decode jdk_65_method_123_code 3 = .ok (.if_icmp .ne 11, 3) := by decide +kernel
theorem d8_6 : decode jdk_65_method_123_code 6 = .ok (.aload_n 0, 1) := by decide +kernel
theorem d8_7 : decode jdk_65_method_123_code 7 = .ok (.invokevirtual 316, 3) := by decide +kernel
theorem d8_10 : decode jdk_65_method_123_code 10 = .ok (.checkcast 317, 3) := by decide +kernel
theorem d8_13 : decode jdk_65_method_123_code 13 = .ok (.areturn, 1) := by decide +kernel
theorem d8_14 : decode jdk_65_method_123_code 14 = .ok (.iload_n 1, 1) := by decide +kernel
theorem d8_15 : decode jdk_65_method_123_code 15 = .ok (.newarray .int, 2) := by decide +kernel
theorem d8_17 : decode jdk_65_method_123_code 17 = .ok (.astore_n 2, 1) := by decide +kernel
theorem d8_18 : decode jdk_65_method_123_code 18 = .ok (.aload_n 0, 1) := by decide +kernel
theorem d8_19 : decode jdk_65_method_123_code 19 = .ok (.iconst 0, 1) := by decide +kernel
theorem d8_20 : decode jdk_65_method_123_code 20 = .ok (.aload_n 2, 1) := by decide +kernel
theorem d8_21 : decode jdk_65_method_123_code 21 = .ok (.iconst 0, 1) := by decide +kernel
theorem d8_22 : decode jdk_65_method_123_code 22 = .ok (.aload_n 0, 1) := by decide +kernel
theorem d8_23 : decode jdk_65_method_123_code 23 = .ok (.arraylength, 1) := by decide +kernel
theorem d8_24 : decode jdk_65_method_123_code 24 = .ok (.iload_n 1, 1) := by decide +kernel
theorem d8_25 : decode jdk_65_method_123_code 25 = .ok (.invokestatic 304, 3) := by decide +kernel
theorem d8_28 : decode jdk_65_method_123_code 28 = .ok (.invokestatic 150, 3) := by decide +kernel
theorem d8_31 : decode jdk_65_method_123_code 31 = .ok (.aload_n 2, 1) := by decide +kernel
theorem d8_32 : decode jdk_65_method_123_code 32 = .ok (.areturn, 1) := by decide +kernel
theorem d9_0 : decode jdk_29_method_69_code 0 = .ok (.iload_n 0, 1) := by decide +kernel
theorem d9_1 : decode jdk_29_method_69_code 1 = .ok (.iload_n 1, 1) := by decide +kernel
theorem d9_2 : decode jdk_29_method_69_code 2 = .ok (.if_icmp .gt 7, 3) := by decide +kernel
theorem d9_5 : decode jdk_29_method_69_code 5 = .ok (.iload_n 0, 1) := by decide +kernel
theorem d9_6 : decode jdk_29_method_69_code 6 = .ok (.goto 4, 3) := by decide +kernel
theorem d9_9 : decode jdk_29_method_69_code 9 = .ok (.iload_n 1, 1) := by decide +kernel
theorem d9_10 : decode jdk_29_method_69_code 10 = .ok (.ireturn, 1) := by decide +kernel
theorem d10_0 : decode jdk_65_method_124_code 0 = .ok (.iload_n 1, 1) := by decide +kernel
theorem d10_1 : decode jdk_65_method_124_code 1 = .ok (.aload_n 0, 1) := by decide +kernel
theorem d10_2 : decode jdk_65_method_124_code 2 = .ok (.arraylength, 1) := by decide +kernel
theorem d10_3 : decode jdk_65_method_124_code 3 = .ok (.if_icmp .ne 11, 3) := by decide +kernel
theorem d10_6 : decode jdk_65_method_124_code 6 = .ok (.aload_n 0, 1) := by decide +kernel
theorem d10_7 : decode jdk_65_method_124_code 7 = .ok (.invokevirtual 319, 3) := by decide +kernel
theorem d10_10 : decode jdk_65_method_124_code 10 = .ok (.checkcast 320, 3) := by decide +kernel
theorem d10_13 : decode jdk_65_method_124_code 13 = .ok (.areturn, 1) := by decide +kernel
theorem d10_14 : decode jdk_65_method_124_code 14 = .ok (.iload_n 1, 1) := by decide +kernel
theorem d10_15 : decode jdk_65_method_124_code 15 = .ok (.newarray .long, 2) := by decide +kernel
theorem d10_17 : decode jdk_65_method_124_code 17 = .ok (.astore_n 2, 1) := by decide +kernel
theorem d10_18 : decode jdk_65_method_124_code 18 = .ok (.aload_n 0, 1) := by decide +kernel
theorem d10_19 : decode jdk_65_method_124_code 19 = .ok (.iconst 0, 1) := by decide +kernel
theorem d10_20 : decode jdk_65_method_124_code 20 = .ok (.aload_n 2, 1) := by decide +kernel
theorem d10_21 : decode jdk_65_method_124_code 21 = .ok (.iconst 0, 1) := by decide +kernel
theorem d10_22 : decode jdk_65_method_124_code 22 = .ok (.aload_n 0, 1) := by decide +kernel
theorem d10_23 : decode jdk_65_method_124_code 23 = .ok (.arraylength, 1) := by decide +kernel
theorem d10_24 : decode jdk_65_method_124_code 24 = .ok (.iload_n 1, 1) := by decide +kernel
theorem d10_25 : decode jdk_65_method_124_code 25 = .ok (.invokestatic 304, 3) := by decide +kernel
theorem d10_28 : decode jdk_65_method_124_code 28 = .ok (.invokestatic 150, 3) := by decide +kernel
theorem d10_31 : decode jdk_65_method_124_code 31 = .ok (.aload_n 2, 1) := by decide +kernel
theorem d10_32 : decode jdk_65_method_124_code 32 = .ok (.areturn, 1) := by decide +kernel
theorem d11_0 : decode prog_36_method_4_code 0 = .ok (.aload_n 0, 1) := by decide +kernel
theorem d11_1 : decode prog_36_method_4_code 1 = .ok (.getfield 23, 3) := by decide +kernel
theorem d11_4 : decode prog_36_method_4_code 4 = .ok (.ifCond .ne 14, 3) := by decide +kernel
theorem d11_7 : decode prog_36_method_4_code 7 = .ok (.new 8, 3) := by decide +kernel
theorem d11_10 : decode prog_36_method_4_code 10 = .ok (.dup, 1) := by decide +kernel
theorem d11_11 : decode prog_36_method_4_code 11 = .ok (.invokespecial 39, 3) := by decide +kernel
theorem d11_14 : decode prog_36_method_4_code 14 = .ok (.astore_n 1, 1) := by decide +kernel
theorem d11_15 : decode prog_36_method_4_code 15 = .ok (.goto 28, 3) := by decide +kernel
theorem d11_18 : decode prog_36_method_4_code 18 = .ok (.aload_n 0, 1) := by decide +kernel
theorem d11_19 : decode prog_36_method_4_code 19 = .ok (.iconst 1, 1) := by decide +kernel
theorem d11_20 : decode prog_36_method_4_code 20 = .ok (.putfield 27, 3) := by decide +kernel
theorem d11_23 : decode prog_36_method_4_code 23 = .ok (.new 8, 3) := by decide +kernel
theorem d11_26 : decode prog_36_method_4_code 26 = .ok (.dup, 1) := by decide +kernel
theorem d11_27 : decode prog_36_method_4_code 27 = .ok (.aload_n 0, 1) := by decide +kernel
theorem d11_28 : decode prog_36_method_4_code 28 = .ok (.getfield 13, 3) := by decide +kernel
theorem d11_31 : decode prog_36_method_4_code 31 = .ok (.aload_n 0, 1) := by decide +kernel
theorem d11_32 : decode prog_36_method_4_code 32 = .ok (.getfield 20, 3) := by decide +kernel
theorem d11_35 : decode prog_36_method_4_code 35 = .ok (.aload_n 0, 1) := by decide +kernel
theorem d11_36 : decode prog_36_method_4_code 36 = .ok (.getfield 23, 3) := by decide +kernel
theorem d11_39 : decode prog_36_method_4_code 39 = .ok (.invokespecial 40, 3) := by decide +kernel
theorem d11_42 : decode prog_36_method_4_code 42 = .ok (.astore_n 1, 1) := by decide +kernel
theorem d11_43 : decode prog_36_method_4_code 43 = .ok (.aload_n 1, 1) := by decide +kernel
theorem d11_44 : decode prog_36_method_4_code 44 = .ok (.areturn, 1) := by decide +kernel
theorem d12_0 : decode prog_36_method_2_code 0 = .ok (.aload_n 0, 1) := by decide +kernel
theorem d12_1 : decode prog_36_method_2_code 1 = .ok (.invokespecial 1, 3) := by decide +kernel
theorem d12_4 : decode prog_36_method_2_code 4 = .ok (.aload_n 0, 1) := by decide +kernel
theorem d12_5 : decode prog_36_method_2_code 5 = .ok (.aload_n 1, 1) := by decide +kernel
theorem d12_6 : decode prog_36_method_2_code 6 = .ok (.putfield 13, 3) := by decide +kernel
theorem d12_9 : decode prog_36_method_2_code 9 = .ok (.aload_n 0, 1) := by decide +kernel
theorem d12_10 : decode prog_36_method_2_code 10 = .ok (.aload_n 2, 1) := by decide +kernel
theorem d12_11 : decode prog_36_method_2_code 11 = .ok (.putfield 20, 3) := by decide +kernel
theorem d12_14 : decode prog_36_method_2_code 14 = .ok (.aload_n 0, 1) := by decide +kernel
theorem d12_15 : decode prog_36_method_2_code 15 = .ok (.iload_n 3, 1) := by decide +kernel
theorem d12_16 : decode prog_36_method_2_code 16 = .ok (.putfield 23, 3) := by decide +kernel
theorem d12_19 : decode prog_36_method_2_code 19 = .ok (.aload_n 0, 1) := by decide +kernel
theorem d12_20 : decode prog_36_method_2_code 20 = .ok (.iconst 1, 1) := by decide +kernel
theorem d12_21 : decode prog_36_method_2_code 21 = .ok (.putfield 27, 3) := by decide +kernel
theorem d12_24 : decode prog_36_method_2_code 24 = .ok (.return_, 1) := by decide +kernel
theorem d13_0 : decode jdk_29_method_65_code 0 = .ok (.iload_n 0, 1) := by decide +kernel
theorem d13_1 : decode jdk_29_method_65_code 1 = .ok (.iload_n 1, 1) := by decide +kernel
theorem d13_2 : decode jdk_29_method_65_code 2 = .ok (.if_icmp .lt 7, 3) := by decide +kernel
theorem d13_5 : decode jdk_29_method_65_code 5 = .ok (.iload_n 0, 1) := by decide +kernel
theorem d13_6 : decode jdk_29_method_65_code 6 = .ok (.goto 4, 3) := by decide +kernel
theorem d13_9 : decode jdk_29_method_65_code 9 = .ok (.iload_n 1, 1) := by decide +kernel
theorem d13_10 : decode jdk_29_method_65_code 10 = .ok (.ireturn, 1) := by decide +kernel
theorem d14_0 : decode prog_36_method_9_code 0 = .ok (.aload_n 0, 1) := by decide +kernel
theorem d14_1 : decode prog_36_method_9_code 1 = .ok (.getfield 23, 3) := by decide +kernel
theorem d14_4 : decode prog_36_method_9_code 4 = .ok (.ifCond .ne 7, 3) := by decide +kernel
theorem d14_7 : decode prog_36_method_9_code 7 = .ok (.iconst (-1), 1) := by decide +kernel
theorem d14_8 : decode prog_36_method_9_code 8 = .ok (.goto 35, 3) := by decide +kernel
theorem d14_11 : decode prog_36_method_9_code 11 = .ok (.aload_n 0, 1) := by decide +kernel
theorem d14_12 : decode prog_36_method_9_code 12 = .ok (.getfield 13, 3) := by decide +kernel
theorem d14_15 : decode prog_36_method_9_code 15 = .ok (.aload_n 0, 1) := by decide +kernel
theorem d14_16 : decode prog_36_method_9_code 16 = .ok (.getfield 23, 3) := by decide +kernel
theorem d14_19 : decode prog_36_method_9_code 19 = .ok (.iconst 1, 1) := by decide +kernel
theorem d14_20 : decode prog_36_method_9_code 20 = .ok (.isub, 1) := by decide +kernel
theorem d14_21 : decode prog_36_method_9_code 21 = .ok (.iaload, 1) := by decide +kernel
theorem d14_22 : decode prog_36_method_9_code 22 = .ok (.bipush 6, 2) := by decide +kernel
theorem d14_24 : decode prog_36_method_9_code 24 = .ok (.ishl, 1) := by decide +kernel
theorem d14_25 : decode prog_36_method_9_code 25 = .ok (.bipush 63, 2) := by decide +kernel
theorem d14_27 : decode prog_36_method_9_code 27 = .ok (.aload_n 0, 1) := by decide +kernel
theorem d14_28 : decode prog_36_method_9_code 28 = .ok (.getfield 20, 3) := by decide +kernel
theorem d14_31 : decode prog_36_method_9_code 31 = .ok (.aload_n 0, 1) := by decide +kernel
theorem d14_32 : decode prog_36_method_9_code 32 = .ok (.getfield 23, 3) := by decide +kernel
theorem d14_35 : decode prog_36_method_9_code 35 = .ok (.iconst 1, 1) := by decide +kernel
theorem d14_36 : decode prog_36_method_9_code 36 = .ok (.isub, 1) := by decide +kernel
theorem d14_37 : decode prog_36_method_9_code 37 = .ok (.laload, 1) := by decide +kernel
theorem d14_38 : decode prog_36_method_9_code 38 = .ok (.invokestatic 65, 3) := by decide +kernel
theorem d14_41 : decode prog_36_method_9_code 41 = .ok (.isub, 1) := by decide +kernel
theorem d14_42 : decode prog_36_method_9_code 42 = .ok (.ior, 1) := by decide +kernel
theorem d14_43 : decode prog_36_method_9_code 43 = .ok (.ireturn, 1) := by decide +kernel
theorem d15_0 : decode jdk_35_method_48_code 0 = .ok (.lload_n 0, 1) := by decide +kernel
theorem d15_1 : decode jdk_35_method_48_code 1 = .ok (.bipush 32, 2) := by decide +kernel
theorem d15_3 : decode jdk_35_method_48_code 3 = .ok (.lushr, 1) := by decide +kernel
theorem d15_4 : decode jdk_35_method_48_code 4 = .ok (.l2i, 1) := by decide +kernel
theorem d15_5 : decode jdk_35_method_48_code 5 = .ok (.istore_n 2, 1) := by decide +kernel
theorem d15_6 : decode jdk_35_method_48_code 6 = .ok (.iload_n 2, 1) := by decide +kernel
theorem d15_7 : decode jdk_35_method_48_code 7 = .ok (.ifCond .ne 14, 3) := by decide +kernel
theorem d15_10 : decode jdk_35_method_48_code 10 = .ok (.bipush 32, 2) := by decide +kernel
theorem d15_12 : decode jdk_35_method_48_code 12 = .ok (.lload_n 0, 1) := by decide +kernel
theorem d15_13 : decode jdk_35_method_48_code 13 = .ok (.l2i, 1) := by decide +kernel
theorem d15_14 : decode jdk_35_method_48_code 14 = .ok (.invokestatic 308, 3) := by decide +kernel
theorem d15_17 : decode jdk_35_method_48_code 17 = .ok (.iadd, 1) := by decide +kernel
theorem d15_18 : decode jdk_35_method_48_code 18 = .ok (.goto 7, 3) := by decide +kernel
theorem d15_21 : decode jdk_35_method_48_code 21 = .ok (.iload_n 2, 1) := by decide +kernel
theorem d15_22 : decode jdk_35_method_48_code 22 = .ok (.invokestatic 308, 3) := by decide +kernel
theorem d15_25 : decode jdk_35_method_48_code 25 = .ok (.ireturn, 1) := by decide +kernel
theorem d16_0 : decode jdk_33_method_47_code 0 = .ok (.iload_n 0, 1) := by decide +kernel
theorem d16_1 : decode jdk_33_method_47_code 1 = .ok (.ifCond .gt 14, 3) := by decide +kernel
theorem d16_4 : decode jdk_33_method_47_code 4 = .ok (.iload_n 0, 1) := by decide +kernel
theorem d16_5 : decode jdk_33_method_47_code 5 = .ok (.ifCond .ne 8, 3) := by decide +kernel
theorem d16_8 : decode jdk_33_method_47_code 8 = .ok (.bipush 32, 2) := by decide +kernel
theorem d16_10 : decode jdk_33_method_47_code 10 = .ok (.goto 4, 3) := by decide +kernel
theorem d16_13 : decode jdk_33_method_47_code 13 = .ok (.iconst 0, 1) := by decide +kernel
theorem d16_14 : decode jdk_33_method_47_code 14 = .ok (.ireturn, 1) := by decide +kernel
theorem d16_15 : decode jdk_33_method_47_code 15 = .ok (.bipush 31, 2) := by decide +kernel
theorem d16_17 : decode jdk_33_method_47_code 17 = .ok (.istore_n 1, 1) := by decide +kernel
theorem d16_18 : decode jdk_33_method_47_code 18 = .ok (.iload_n 0, 1) := by decide +kernel
theorem d16_19 : decode jdk_33_method_47_code 19 = .ok (.ldc_w 264, 3) := by decide +kernel
theorem d16_22 : decode jdk_33_method_47_code 22 = .ok (.if_icmp .lt 11, 3) := by decide +kernel
theorem d16_25 : decode jdk_33_method_47_code 25 = .ok (.iinc 1 (-16), 3) := by decide +kernel
theorem d16_28 : decode jdk_33_method_47_code 28 = .ok (.iload_n 0, 1) := by decide +kernel
theorem d16_29 : decode jdk_33_method_47_code 29 = .ok (.bipush 16, 2) := by decide +kernel
theorem d16_31 : decode jdk_33_method_47_code 31 = .ok (.iushr, 1) := by decide +kernel
theorem d16_32 : decode jdk_33_method_47_code 32 = .ok (.istore_n 0, 1) := by decide +kernel
theorem d16_33 : decode jdk_33_method_47_code 33 = .ok (.iload_n 0, 1) := by decide +kernel
theorem d16_34 : decode jdk_33_method_47_code 34 = .ok (.sipush 256, 3) := by decide +kernel
theorem d16_37 : decode jdk_33_method_47_code 37 = .ok (.if_icmp .lt 11, 3) := by decide +kernel
theorem d16_40 : decode jdk_33_method_47_code 40 = .ok (.iinc 1 (-8), 3) := by decide +kernel
theorem d16_43 : decode jdk_33_method_47_code 43 = .ok (.iload_n 0, 1) := by decide +kernel
theorem d16_44 : decode jdk_33_method_47_code 44 = .ok (.bipush 8, 2) := by decide +kernel
theorem d16_46 : decode jdk_33_method_47_code 46 = .ok (.iushr, 1) := by decide +kernel
theorem d16_47 : decode jdk_33_method_47_code 47 = .ok (.istore_n 0, 1) := by decide +kernel
theorem d16_48 : decode jdk_33_method_47_code 48 = .ok (.iload_n 0, 1) := by decide +kernel
theorem d16_49 : decode jdk_33_method_47_code 49 = .ok (.bipush 16, 2) := by decide +kernel
theorem d16_51 : decode jdk_33_method_47_code 51 = .ok (.if_icmp .lt 10, 3) := by decide +kernel
theorem d16_54 : decode jdk_33_method_47_code 54 = .ok (.iinc 1 (-4), 3) := by decide +kernel
theorem d16_57 : decode jdk_33_method_47_code 57 = .ok (.iload_n 0, 1) := by decide +kernel
theorem d16_58 : decode jdk_33_method_47_code 58 = .ok (.iconst 4, 1) := by decide +kernel
theorem d16_59 : decode jdk_33_method_47_code 59 = .ok (.iushr, 1) := by decide +kernel
theorem d16_60 : decode jdk_33_method_47_code 60 = .ok (.istore_n 0, 1) := by decide +kernel
theorem d16_61 : decode jdk_33_method_47_code 61 = .ok (.iload_n 0, 1) := by decide +kernel
theorem d16_62 : decode jdk_33_method_47_code 62 = .ok (.iconst 4, 1) := by decide +kernel
theorem d16_63 : decode jdk_33_method_47_code 63 = .ok (.if_icmp .lt 10, 3) := by decide +kernel
theorem d16_66 : decode jdk_33_method_47_code 66 = .ok (.iinc 1 (-2), 3) := by decide +kernel
theorem d16_69 : decode jdk_33_method_47_code 69 = .ok (.iload_n 0, 1) := by decide +kernel
theorem d16_70 : decode jdk_33_method_47_code 70 = .ok (.iconst 2, 1) := by decide +kernel
theorem d16_71 : decode jdk_33_method_47_code 71 = .ok (.iushr, 1) := by decide +kernel
theorem d16_72 : decode jdk_33_method_47_code 72 = .ok (.istore_n 0, 1) := by decide +kernel
theorem d16_73 : decode jdk_33_method_47_code 73 = .ok (.iload_n 1, 1) := by decide +kernel
theorem d16_74 : decode jdk_33_method_47_code 74 = .ok (.iload_n 0, 1) := by decide +kernel
theorem d16_75 : decode jdk_33_method_47_code 75 = .ok (.iconst 1, 1) := by decide +kernel
theorem d16_76 : decode jdk_33_method_47_code 76 = .ok (.iushr, 1) := by decide +kernel
theorem d16_77 : decode jdk_33_method_47_code 77 = .ok (.isub, 1) := by decide +kernel
theorem d16_78 : decode jdk_33_method_47_code 78 = .ok (.ireturn, 1) := by decide +kernel
theorem d17_0 : decode prog_36_method_8_code 0 = .ok (.aload_n 0, 1) := by decide +kernel
theorem d17_1 : decode prog_36_method_8_code 1 = .ok (.getfield 13, 3) := by decide +kernel
theorem d17_4 : decode prog_36_method_8_code 4 = .ok (.iconst 0, 1) := by decide +kernel
theorem d17_5 : decode prog_36_method_8_code 5 = .ok (.aload_n 0, 1) := by decide +kernel
theorem d17_6 : decode prog_36_method_8_code 6 = .ok (.getfield 23, 3) := by decide +kernel
theorem d17_9 : decode prog_36_method_8_code 9 = .ok (.iload_n 1, 1) := by decide +kernel
theorem d17_10 : decode prog_36_method_8_code 10 = .ok (.bipush 6, 2) := by decide +kernel
theorem d17_12 : decode prog_36_method_8_code 12 = .ok (.iushr, 1) := by decide +kernel
theorem d17_13 : decode prog_36_method_8_code 13 = .ok (.invokestatic 43, 3) := by decide +kernel
theorem d17_16 : decode prog_36_method_8_code 16 = .ok (.istore_n 2, 1) := by decide +kernel
theorem d17_17 : decode prog_36_method_8_code 17 = .ok (.lconst 1, 1) := by decide +kernel
theorem d17_18 : decode prog_36_method_8_code 18 = .ok (.iload_n 1, 1) := by decide +kernel
theorem d17_19 : decode prog_36_method_8_code 19 = .ok (.lshl, 1) := by decide +kernel
theorem d17_20 : decode prog_36_method_8_code 20 = .ok (.lstore_n 3, 1) := by decide +kernel
theorem d17_21 : decode prog_36_method_8_code 21 = .ok (.iload_n 2, 1) := by decide +kernel
theorem d17_22 : decode prog_36_method_8_code 22 = .ok (.ifCond .lt 105, 3) := by decide +kernel
theorem d17_25 : decode prog_36_method_8_code 25 = .ok (.aload_n 0, 1) := by decide +kernel
theorem d17_26 : decode prog_36_method_8_code 26 = .ok (.getfield 20, 3) := by decide +kernel
theorem d17_29 : decode prog_36_method_8_code 29 = .ok (.iload_n 2, 1) := by decide +kernel
theorem d17_30 : decode prog_36_method_8_code 30 = .ok (.laload, 1) := by decide +kernel
theorem d17_31 : decode prog_36_method_8_code 31 = .ok (.lload_n 3, 1) := by decide +kernel
theorem d17_32 : decode prog_36_method_8_code 32 = .ok (.land, 1) := by decide +kernel
theorem d17_33 : decode prog_36_method_8_code 33 = .ok (.lconst 0, 1) := by decide +kernel
theorem d17_34 : decode prog_36_method_8_code 34 = .ok (.lcmp, 1) := by decide +kernel
theorem d17_35 : decode prog_36_method_8_code 35 = .ok (.ifCond .eq 92, 3) := by decide +kernel
theorem d17_38 : decode prog_36_method_8_code 38 = .ok (.aload_n 0, 1) := by decide +kernel
theorem d17_39 : decode prog_36_method_8_code 39 = .ok (.aload_n 0, 1) := by decide +kernel
theorem d17_40 : decode prog_36_method_8_code 40 = .ok (.getfield 23, 3) := by decide +kernel
theorem d17_43 : decode prog_36_method_8_code 43 = .ok (.invokevirtual 49, 3) := by decide +kernel
theorem d17_46 : decode prog_36_method_8_code 46 = .ok (.aload_n 0, 1) := by decide +kernel
theorem d17_47 : decode prog_36_method_8_code 47 = .ok (.getfield 20, 3) := by decide +kernel
theorem d17_50 : decode prog_36_method_8_code 50 = .ok (.iload_n 2, 1) := by decide +kernel
theorem d17_51 : decode prog_36_method_8_code 51 = .ok (.dup2, 1) := by decide +kernel
theorem d17_52 : decode prog_36_method_8_code 52 = .ok (.laload, 1) := by decide +kernel
theorem d17_53 : decode prog_36_method_8_code 53 = .ok (.lload_n 3, 1) := by decide +kernel
theorem d17_54 : decode prog_36_method_8_code 54 = .ok (.ldc2_w 63, 3) := by decide +kernel
theorem d17_57 : decode prog_36_method_8_code 57 = .ok (.lxor, 1) := by decide +kernel
theorem d17_58 : decode prog_36_method_8_code 58 = .ok (.land, 1) := by decide +kernel
theorem d17_59 : decode prog_36_method_8_code 59 = .ok (.lastore, 1) := by decide +kernel
theorem d17_60 : decode prog_36_method_8_code 60 = .ok (.aload_n 0, 1) := by decide +kernel
theorem d17_61 : decode prog_36_method_8_code 61 = .ok (.getfield 20, 3) := by decide +kernel
theorem d17_64 : decode prog_36_method_8_code 64 = .ok (.iload_n 2, 1) := by decide +kernel
theorem d17_65 : decode prog_36_method_8_code 65 = .ok (.laload, 1) := by decide +kernel
theorem d17_66 : decode prog_36_method_8_code 66 = .ok (.lconst 0, 1) := by decide +kernel
theorem d17_67 : decode prog_36_method_8_code 67 = .ok (.lcmp, 1) := by decide +kernel
theorem d17_68 : decode prog_36_method_8_code 68 = .ok (.ifCond .ne 59, 3) := by decide +kernel
theorem d17_71 : decode prog_36_method_8_code 71 = .ok (.aload_n 0, 1) := by decide +kernel
theorem d17_72 : decode prog_36_method_8_code 72 = .ok (.getfield 13, 3) := by decide +kernel
theorem d17_75 : decode prog_36_method_8_code 75 = .ok (.iload_n 2, 1) := by decide +kernel
theorem d17_76 : decode prog_36_method_8_code 76 = .ok (.iconst 1, 1) := by decide +kernel
theorem d17_77 : decode prog_36_method_8_code 77 = .ok (.iadd, 1) := by decide +kernel
theorem d17_78 : decode prog_36_method_8_code 78 = .ok (.aload_n 0, 1) := by decide +kernel
theorem d17_79 : decode prog_36_method_8_code 79 = .ok (.getfield 13, 3) := by decide +kernel
theorem d17_82 : decode prog_36_method_8_code 82 = .ok (.iload_n 2, 1) := by decide +kernel
theorem d17_83 : decode prog_36_method_8_code 83 = .ok (.aload_n 0, 1) := by decide +kernel
theorem d17_84 : decode prog_36_method_8_code 84 = .ok (.getfield 23, 3) := by decide +kernel
theorem d17_87 : decode prog_36_method_8_code 87 = .ok (.iload_n 2, 1) := by decide +kernel
theorem d17_88 : decode prog_36_method_8_code 88 = .ok (.isub, 1) := by decide +kernel
theorem d17_89 : decode prog_36_method_8_code 89 = .ok (.iconst 1, 1) := by decide +kernel
theorem d17_90 : decode prog_36_method_8_code 90 = .ok (.isub, 1) := by decide +kernel
theorem d17_91 : decode prog_36_method_8_code 91 = .ok (.invokestatic 53, 3) := by decide +kernel
theorem d17_94 : decode prog_36_method_8_code 94 = .ok (.aload_n 0, 1) := by decide +kernel
theorem d17_95 : decode prog_36_method_8_code 95 = .ok (.getfield 20, 3) := by decide +kernel
theorem d17_98 : decode prog_36_method_8_code 98 = .ok (.iload_n 2, 1) := by decide +kernel
theorem d17_99 : decode prog_36_method_8_code 99 = .ok (.iconst 1, 1) := by decide +kernel
theorem d17_100 : decode prog_36_method_8_code 100 = .ok (.iadd, 1) := by decide +kernel
theorem d17_101 : decode prog_36_method_8_code 101 = .ok (.aload_n 0, 1) := by decide +kernel
theorem d17_102 : decode prog_36_method_8_code 102 = .ok (.getfield 20, 3) := by decide +kernel
theorem d17_105 : decode prog_36_method_8_code 105 = .ok (.iload_n 2, 1) := by decide +kernel
theorem d17_106 : decode prog_36_method_8_code 106 = .ok (.aload_n 0, 1) := by decide +kernel
theorem d17_107 : decode prog_36_method_8_code 107 = .ok (.getfield 23, 3) := by decide +kernel
theorem d17_110 : decode prog_36_method_8_code 110 = .ok (.iload_n 2, 1) := by decide +kernel
theorem d17_111 : decode prog_36_method_8_code 111 = .ok (.isub, 1) := by decide +kernel
theorem d17_112 : decode prog_36_method_8_code 112 = .ok (.iconst 1, 1) := by decide +kernel
theorem d17_113 : decode prog_36_method_8_code 113 = .ok (.isub, 1) := by decide +kernel
theorem d17_114 : decode prog_36_method_8_code 114 = .ok (.invokestatic 53, 3) := by decide +kernel
theorem d17_117 : decode prog_36_method_8_code 117 = .ok (.aload_n 0, 1) := by decide +kernel
theorem d17_118 : decode prog_36_method_8_code 118 = .ok (.dup, 1) := by decide +kernel
theorem d17_119 : decode prog_36_method_8_code 119 = .ok (.getfield 23, 3) := by decide +kernel
theorem d17_122 : decode prog_36_method_8_code 122 = .ok (.iconst 1, 1) := by decide +kernel
theorem d17_123 : decode prog_36_method_8_code 123 = .ok (.isub, 1) := by decide +kernel
theorem d17_124 : decode prog_36_method_8_code 124 = .ok (.putfield 23, 3) := by decide +kernel
theorem d17_127 : decode prog_36_method_8_code 127 = .ok (.return_, 1) := by decide +kernel
theorem pn_0 : plainName "java/util/Arrays" = true := by first | (simp [plainName, overriddenIn]; done) | decide +kernel
theorem pn_1 : plainName "org/tallyrole/core/Dependencies" = true := by first | (simp [plainName, overriddenIn]; done) | decide +kernel
theorem pn_2 : plainName "java/lang/Integer" = true := by first | (simp [plainName, overriddenIn]; done) | decide +kernel
theorem pn_3 : plainName "java/lang/Long" = true := by first | (simp [plainName, overriddenIn]; done) | decide +kernel
theorem pn_4 : plainName "org/tallyrole/core/DependenciesCopyPinLaw" = true := by first | (simp [plainName, overriddenIn]; done) | decide +kernel
theorem pd_0 : parseMethodDescriptor "(III)V" = some ⟨[.int, .int, .int], none⟩ := by decide +kernel
theorem pd_1 : parseMethodDescriptor "([IIII)I" = some ⟨[(.array .int), .int, .int, .int], some .int⟩ := by decide +kernel
theorem pd_2 : parseMethodDescriptor "(II)I" = some ⟨[.int, .int], some .int⟩ := by decide +kernel
theorem pd_3 : parseMethodDescriptor "([II)[I" = some ⟨[(.array .int), .int], some (.array .int)⟩ := by decide +kernel
theorem pd_4 : parseMethodDescriptor "([JI)[J" = some ⟨[(.array .long), .int], some (.array .long)⟩ := by decide +kernel
theorem pd_5 : parseMethodDescriptor "(I)I" = some ⟨[.int], some .int⟩ := by decide +kernel
theorem pd_6 : parseMethodDescriptor "(J)I" = some ⟨[.long], some .int⟩ := by decide +kernel
theorem pd_7 : parseMethodDescriptor "(I)V" = some ⟨[.int], none⟩ := by decide +kernel
theorem pd_8 : parseMethodDescriptor "([I[JI)V" = some ⟨[(.array .int), (.array .long), .int], none⟩ := by decide +kernel
theorem pd_9 : parseMethodDescriptor "()V" = some ⟨[], none⟩ := by decide +kernel
theorem pd_10 : parseMethodDescriptor "()Lorg/tallyrole/core/Dependencies;" = some ⟨[], some (.object "org/tallyrole/core/Dependencies")⟩ := by decide +kernel
theorem pd_11 : parseMethodDescriptor "()I" = some ⟨[], some .int⟩ := by decide +kernel
theorem ef_rc (m : MethodId) (x0 : Int32) (x1 : Int32) (x2 : Int32) : entryFrame m #[(.int x0), (.int x1), (.int x2)] 3 = mkF m 0 #[.val (.int x0), .val (.int x1), .val (.int x2)] [] := by first | (simp [entryFrame, mkF, argsToLocals, Value.category]; done) | rfl
def Q_rc (Z : State) (ll : Int32) (ff : Int32) (tt : Int32) (h0 : Heap) (n0 : Nat) (v : Option Value) (h : Heap) (L : List Loc) : Prop := v = none ∧ Fr n0 L ∧ h = h0
set_option maxRecDepth 65536 in
set_option maxHeartbeats 40000000 in
theorem rm_rc (l : Launch) (Z : State) (a0 : Array Value) (hw : ∀ d ∈ tables_1, d.before a0 Z = true) (ws : List Jvm.Cond) (ll : Int32) (ff : Int32) (tt : Int32) (h0 : Heap) (n0 : Nat) (Z0 : n0 ≤ h0.size) (h1 : ¬ (tt < ff)) (h2 : ¬ (ff < (0 : Int32))) (h3 : ¬ (ll < tt)) :
    MetFree l (⟨"java/util/Arrays", "rangeCheck", "(III)V"⟩ : MethodName) (head1 (Jvm.Cond.code (⟨"java/util/Arrays", "rangeCheck", "(III)V"⟩ : MethodName) jdk_65_method_30_code 3 none :: ws) ({ frames := 0, cells := 0, slots := 0, locals := 0 } : Room)) (fun as_ U_ => as_ = #[(.int ll), (.int ff), (.int tt)] ∧ Z.Warmed39 U_.vm ∧ U_.heap = h0) (fun _ _ _ _ _ => True) (fun _ U o U' => ∃ v L, o = .returned v ∧ Q_rc Z ll ff tt h0 n0 v U'.heap L ∧ FrameEnd U o U' L ({ frames := 0, cells := 0, slots := 0, locals := 0 } : Room).cells ({ frames := 0, cells := 0, slots := 0, locals := 0 } : Room).slots) := by
  refine MetFree.of_bodySF (plainFor_of_name pn_0) hisR ?_
  intro p e s m args below meth c s₁ Bd hml0 hP hK
  obtain ⟨rfl, hZ, hhp_⟩ := hP
  have hx := Bd.exec
  have hby := Bd.bytes
  have hml : c.maxLocals = 3 := hml0
  have hown : s.vm.findClass "java/util/Arrays" = some m.cls := findClass_of_methodNamed Bd.named
  have hnm := (name_of_methodNamed Bd.named Bd.method).1
  have X0 : Stand p l e ({ frames := 0, cells := 0, slots := 0, locals := 0 } : Room) s m #[(.int ll), (.int ff), (.int tt)] below meth c s₁ [] 0 0 := Stand.of_body Bd
  have e0 : s₁.heap = h0 := by rw [← hhp_, Bd.state]; rfl
  have N0 := Fr.nil n0
  have pre0 : ∀ t, Steps p.tables e below (s₁.setTop (mkF m 0 #[.val (.int ll), .val (.int ff), .val (.int tt)] [])) t → Steps p.tables e below (s₁.setTop (entryFrame m #[(.int ll), (.int ff), (.int tt)] 3)) t := fun t k => castTop (ef_rc m ll ff tt) k
  have pre1 := fun (t : State) (k : Steps p.tables e below (s₁.setTop (mkF m 73 #[.val (.int ll), .val (.int ff), .val (.int tt)] [])) t) => pre0 t (by
    refine XS.iloadN X0.here hx rfl (hb hby d5_0) rfl ?_
    refine XS.iloadN X0.here hx rfl (hb hby d5_1) rfl ?_
    refine XS.icmpYes X0.here hx rfl (pc0 := 2) (pc' := 46) rfl (hb hby d5_2) rfl (flt h1).2.2.2 (by decide) (by decide) ?_
    refine XS.iloadN X0.here hx rfl (hb hby d5_46) rfl ?_
    refine XS.ifYes X0.here hx rfl (pc0 := 47) (pc' := 59) rfl (hb hby d5_47) rfl ((if0 _ _).trans (flt h2).2.1) (by decide) (by decide) ?_
    refine XS.iloadN X0.here hx rfl (hb hby d5_59) rfl ?_
    refine XS.iloadN X0.here hx rfl (hb hby d5_60) rfl ?_
    refine XS.icmpYes X0.here hx rfl (pc0 := 61) (pc' := 73) rfl (hb hby d5_61) rfl (flt h3).2.2.2 (by decide) (by decide) ?_
    exact k)
  obtain ⟨fs, hr, hrun, hended, hW, hsame⟩ := X0.leave (v := none) (hlocks := BodyLoose.notSynchronized Bd) (fun _ => rfl)
  refine ⟨_, _, pre1 _ ?_, hrun, hended, _, _, rfl, ?_, ⟨_, rfl⟩, hW, hsame.mono (by decide) (by decide)⟩
  · exact X0.returnOut hx Bd.returns (hb hby d5_73) hr
  · show Q_rc Z ll ff tt h0 n0 _ s₁.heap _
    rw [e0]
    exact ⟨rfl, N0, rfl⟩

theorem ef_mi (m : MethodId) (x0 : Int32) (x1 : Int32) : entryFrame m #[(.int x0), (.int x1)] 2 = mkF m 0 #[.val (.int x0), .val (.int x1)] [] := by first | (simp [entryFrame, mkF, argsToLocals, Value.category]; done) | rfl
def Q_mi (Z : State) (xx : Int32) (yy : Int32) (r : Int32) (h0 : Heap) (n0 : Nat) (v : Option Value) (h : Heap) (L : List Loc) : Prop := v = some (.int r) ∧ Fr n0 L ∧ h = h0
set_option maxRecDepth 65536 in
set_option maxHeartbeats 40000000 in
theorem rm_mi (l : Launch) (Z : State) (a0 : Array Value) (hw : ∀ d ∈ tables_1, d.before a0 Z = true) (ws : List Jvm.Cond) (xx : Int32) (yy : Int32) (r : Int32) (h0 : Heap) (n0 : Nat) (Z0 : n0 ≤ h0.size) (hr0 : yy < xx → r = yy) (hr1 : ¬ yy < xx → r = xx) :
    MetFree l (⟨"java/lang/Math", "min", "(II)I"⟩ : MethodName) (head1 (Jvm.Cond.code (⟨"java/lang/Math", "min", "(II)I"⟩ : MethodName) jdk_29_method_69_code 2 (some .int) :: ws) ({ frames := 0, cells := 0, slots := 0, locals := 0 } : Room)) (fun as_ U_ => as_ = #[(.int xx), (.int yy)] ∧ Z.Warmed39 U_.vm ∧ U_.heap = h0) (fun _ _ _ _ _ => True) (fun _ U o U' => ∃ v L, o = .returned v ∧ Q_mi Z xx yy r h0 n0 v U'.heap L ∧ FrameEnd U o U' L ({ frames := 0, cells := 0, slots := 0, locals := 0 } : Room).cells ({ frames := 0, cells := 0, slots := 0, locals := 0 } : Room).slots) := by
  refine MetFree.of_bodySF (Jvm.Free.JP.mathPlain rfl (by decide +kernel)) hisR ?_
  intro p e s m args below meth c s₁ Bd hml0 hP hK
  obtain ⟨rfl, hZ, hhp_⟩ := hP
  have hx := Bd.exec
  have hby := Bd.bytes
  have hml : c.maxLocals = 2 := hml0
  have hown : s.vm.findClass "java/lang/Math" = some m.cls := findClass_of_methodNamed Bd.named
  have hnm := (name_of_methodNamed Bd.named Bd.method).1
  have X0 : Stand p l e ({ frames := 0, cells := 0, slots := 0, locals := 0 } : Room) s m #[(.int xx), (.int yy)] below meth c s₁ [] 0 0 := Stand.of_body Bd
  have e0 : s₁.heap = h0 := by rw [← hhp_, Bd.state]; rfl
  have N0 := Fr.nil n0
  have pre0 : ∀ t, Steps p.tables e below (s₁.setTop (mkF m 0 #[.val (.int xx), .val (.int yy)] [])) t → Steps p.tables e below (s₁.setTop (entryFrame m #[(.int xx), (.int yy)] 2)) t := fun t k => castTop (ef_mi m xx yy) k
  have pre1 := fun (t : State) (k : Steps p.tables e below (s₁.setTop (mkF m 2 #[.val (.int xx), .val (.int yy)] [(.int yy), (.int xx)])) t) => pre0 t (by
    refine XS.iloadN X0.here hx rfl (hb hby d9_0) rfl ?_
    refine XS.iloadN X0.here hx rfl (hb hby d9_1) rfl ?_
    exact k)
  by_cases hc2 : yy < xx
  · have pre3 := fun (t : State) (k : Steps p.tables e below (s₁.setTop (mkF m 10 #[.val (.int xx), .val (.int yy)] [(.int yy)])) t) => pre1 t (by
      refine XS.icmpYes X0.here hx rfl (pc0 := 2) (pc' := 9) rfl (hb hby d9_2) rfl (tlt hc2).2.2.1 (by decide) (by decide) ?_
      refine XS.iloadN X0.here hx rfl (hb hby d9_9) rfl ?_
      exact k)
    obtain ⟨fs, hr, hrun, hended, hW, hsame⟩ := X0.leave (v := some (.int yy)) (hlocks := BodyLoose.notSynchronized Bd) (fun h => by rw [Bd.returns] at h; cases h)
    refine ⟨_, _, pre3 _ ?_, hrun, hended, _, _, rfl, ?_, ⟨_, rfl⟩, hW, hsame.mono (by decide) (by decide)⟩
    · exact retI X0 hx Bd.returns (hb hby d9_10) hr
    · show Q_mi Z xx yy r h0 n0 _ s₁.heap _
      rw [e0]
      exact ⟨(by first | rw [hr0 (by assumption)] | rw [hr1 (by assumption)]), N0, rfl⟩
  · have pre4 := fun (t : State) (k : Steps p.tables e below (s₁.setTop (mkF m 10 #[.val (.int xx), .val (.int yy)] [(.int xx)])) t) => pre1 t (by
      refine XS.icmpNo X0.here hx rfl (hb hby d9_2) rfl (flt hc2).2.2.1 ?_
      refine XS.iloadN X0.here hx rfl (hb hby d9_5) rfl ?_
      refine XS.goto X0.here hx rfl (pc0 := 6) (pc' := 10) rfl (hb hby d9_6) (by decide) (by decide) ?_
      exact k)
    obtain ⟨fs, hr, hrun, hended, hW, hsame⟩ := X0.leave (v := some (.int xx)) (hlocks := BodyLoose.notSynchronized Bd) (fun h => by rw [Bd.returns] at h; cases h)
    refine ⟨_, _, pre4 _ ?_, hrun, hended, _, _, rfl, ?_, ⟨_, rfl⟩, hW, hsame.mono (by decide) (by decide)⟩
    · exact retI X0 hx Bd.returns (hb hby d9_10) hr
    · show Q_mi Z xx yy r h0 n0 _ s₁.heap _
      rw [e0]
      exact ⟨(by first | rw [hr0 (by assumption)] | rw [hr1 (by assumption)]), N0, rfl⟩

theorem ef_mx (m : MethodId) (x0 : Int32) (x1 : Int32) : entryFrame m #[(.int x0), (.int x1)] 2 = mkF m 0 #[.val (.int x0), .val (.int x1)] [] := by first | (simp [entryFrame, mkF, argsToLocals, Value.category]; done) | rfl
def Q_mx (Z : State) (xx : Int32) (yy : Int32) (h0 : Heap) (n0 : Nat) (v : Option Value) (h : Heap) (L : List Loc) : Prop := v = some (.int (own_mx xx yy)) ∧ Fr n0 L ∧ h = h0
set_option maxRecDepth 65536 in
set_option maxHeartbeats 40000000 in
theorem rm_mx (l : Launch) (Z : State) (a0 : Array Value) (hw : ∀ d ∈ tables_1, d.before a0 Z = true) (ws : List Jvm.Cond) (xx : Int32) (yy : Int32) (h0 : Heap) (n0 : Nat) (Z0 : n0 ≤ h0.size) :
    MetFree l (⟨"java/lang/Math", "max", "(II)I"⟩ : MethodName) (head1 (Jvm.Cond.code (⟨"java/lang/Math", "max", "(II)I"⟩ : MethodName) jdk_29_method_65_code 2 (some .int) :: ws) ({ frames := 0, cells := 0, slots := 0, locals := 0 } : Room)) (fun as_ U_ => as_ = #[(.int xx), (.int yy)] ∧ Z.Warmed39 U_.vm ∧ U_.heap = h0) (fun _ _ _ _ _ => True) (fun _ U o U' => ∃ v L, o = .returned v ∧ Q_mx Z xx yy h0 n0 v U'.heap L ∧ FrameEnd U o U' L ({ frames := 0, cells := 0, slots := 0, locals := 0 } : Room).cells ({ frames := 0, cells := 0, slots := 0, locals := 0 } : Room).slots) := by
  refine MetFree.of_bodySF (Jvm.Free.JP.mathPlain rfl (by decide +kernel)) hisR ?_
  intro p e s m args below meth c s₁ Bd hml0 hP hK
  obtain ⟨rfl, hZ, hhp_⟩ := hP
  have hx := Bd.exec
  have hby := Bd.bytes
  have hml : c.maxLocals = 2 := hml0
  have hown : s.vm.findClass "java/lang/Math" = some m.cls := findClass_of_methodNamed Bd.named
  have hnm := (name_of_methodNamed Bd.named Bd.method).1
  have X0 : Stand p l e ({ frames := 0, cells := 0, slots := 0, locals := 0 } : Room) s m #[(.int xx), (.int yy)] below meth c s₁ [] 0 0 := Stand.of_body Bd
  have e0 : s₁.heap = h0 := by rw [← hhp_, Bd.state]; rfl
  have N0 := Fr.nil n0
  have pre0 : ∀ t, Steps p.tables e below (s₁.setTop (mkF m 0 #[.val (.int xx), .val (.int yy)] [])) t → Steps p.tables e below (s₁.setTop (entryFrame m #[(.int xx), (.int yy)] 2)) t := fun t k => castTop (ef_mx m xx yy) k
  have pre1 := fun (t : State) (k : Steps p.tables e below (s₁.setTop (mkF m 2 #[.val (.int xx), .val (.int yy)] [(.int yy), (.int xx)])) t) => pre0 t (by
    refine XS.iloadN X0.here hx rfl (hb hby d13_0) rfl ?_
    refine XS.iloadN X0.here hx rfl (hb hby d13_1) rfl ?_
    exact k)
  by_cases hc2 : xx < yy
  · have pre3 := fun (t : State) (k : Steps p.tables e below (s₁.setTop (mkF m 10 #[.val (.int xx), .val (.int yy)] [(.int yy)])) t) => pre1 t (by
      refine XS.icmpYes X0.here hx rfl (pc0 := 2) (pc' := 9) rfl (hb hby d13_2) rfl (tlt hc2).1 (by decide) (by decide) ?_
      refine XS.iloadN X0.here hx rfl (hb hby d13_9) rfl ?_
      exact k)
    obtain ⟨fs, hr, hrun, hended, hW, hsame⟩ := X0.leave (v := some (.int yy)) (hlocks := BodyLoose.notSynchronized Bd) (fun h => by rw [Bd.returns] at h; cases h)
    refine ⟨_, _, pre3 _ ?_, hrun, hended, _, _, rfl, ?_, ⟨_, rfl⟩, hW, hsame.mono (by decide) (by decide)⟩
    · exact retI X0 hx Bd.returns (hb hby d13_10) hr
    · show Q_mx Z xx yy h0 n0 _ s₁.heap _
      rw [e0]
      exact ⟨(by simp only [own_mx]; first | rw [if_pos (by assumption)] | rw [if_neg (by assumption)]), N0, rfl⟩
  · have pre4 := fun (t : State) (k : Steps p.tables e below (s₁.setTop (mkF m 10 #[.val (.int xx), .val (.int yy)] [(.int xx)])) t) => pre1 t (by
      refine XS.icmpNo X0.here hx rfl (hb hby d13_2) rfl (flt hc2).1 ?_
      refine XS.iloadN X0.here hx rfl (hb hby d13_5) rfl ?_
      refine XS.goto X0.here hx rfl (pc0 := 6) (pc' := 10) rfl (hb hby d13_6) (by decide) (by decide) ?_
      exact k)
    obtain ⟨fs, hr, hrun, hended, hW, hsame⟩ := X0.leave (v := some (.int xx)) (hlocks := BodyLoose.notSynchronized Bd) (fun h => by rw [Bd.returns] at h; cases h)
    refine ⟨_, _, pre4 _ ?_, hrun, hended, _, _, rfl, ?_, ⟨_, rfl⟩, hW, hsame.mono (by decide) (by decide)⟩
    · exact retI X0 hx Bd.returns (hb hby d13_10) hr
    · show Q_mx Z xx yy h0 n0 _ s₁.heap _
      rw [e0]
      exact ⟨(by simp only [own_mx]; first | rw [if_pos (by assumption)] | rw [if_neg (by assumption)]), N0, rfl⟩

theorem ef_bz0_0 (m : MethodId) (x0 : Addr) (x1 : Int32) (x2 : Int32) (x3 : Int32) : entryFrame m #[(.ref x0), (.int x1), (.int x2), (.int x3)] 8 = mkF m 0 #[.val (.ref x0), .val (.int x1), .val (.int x2), .val (.int x3), .unset, .unset, .unset, .unset] [] := by first | (simp [entryFrame, mkF, argsToLocals, Value.category]; done) | rfl
def Q_bz0_0 (Z : State) (oo : Addr) (ko : ClassId) (ky : Int32) (h0 : Heap) (n0 : Nat) (v : Option Value) (h : Heap) (L : List Loc) : Prop := ∃ r : Int32, v = some (.int r) ∧ Fr n0 L ∧ h = h0 ∧ (r = (-1 : Int32))
set_option maxRecDepth 65536 in
set_option maxHeartbeats 40000000 in
theorem rm_bz0_0 (l : Launch) (Z : State) (a0 : Array Value) (hw : ∀ d ∈ tables_1, d.before a0 Z = true) (ws : List Jvm.Cond) (oo : Addr) (ko : ClassId) (ky : Int32) (h0 : Heap) (n0 : Nat) (Z0 : n0 ≤ h0.size) (H0_A : Arv Z h0 oo ko .int (0 : Int32) [] (.int (0 : Int32))) :
    MetFree l (⟨"java/util/Arrays", "binarySearch0", "([IIII)I"⟩ : MethodName) (head1 (Jvm.Cond.code (⟨"java/util/Arrays", "binarySearch0", "([IIII)I"⟩ : MethodName) jdk_65_method_59_code 8 (some .int) :: ws) ({ frames := 0, cells := 0, slots := 0, locals := 0 } : Room)) (fun as_ U_ => as_ = #[(.ref oo), (.int (0 : Int32)), (.int (0 : Int32)), (.int ky)] ∧ Z.Warmed39 U_.vm ∧ U_.heap = h0) (fun _ _ _ _ _ => True) (fun _ U o U' => ∃ v L, o = .returned v ∧ Q_bz0_0 Z oo ko ky h0 n0 v U'.heap L ∧ FrameEnd U o U' L ({ frames := 0, cells := 0, slots := 0, locals := 0 } : Room).cells ({ frames := 0, cells := 0, slots := 0, locals := 0 } : Room).slots) := by
  refine MetFree.of_bodySF (plainFor_of_name pn_0) hisR ?_
  intro p e s m args below meth c s₁ Bd hml0 hP hK
  obtain ⟨rfl, hZ, hhp_⟩ := hP
  have hx := Bd.exec
  have hby := Bd.bytes
  have hml : c.maxLocals = 8 := hml0
  have hown : s.vm.findClass "java/util/Arrays" = some m.cls := findClass_of_methodNamed Bd.named
  have hnm := (name_of_methodNamed Bd.named Bd.method).1
  have X0 : Stand p l e ({ frames := 0, cells := 0, slots := 0, locals := 0 } : Room) s m #[(.ref oo), (.int (0 : Int32)), (.int (0 : Int32)), (.int ky)] below meth c s₁ [] 0 0 := Stand.of_body Bd
  have e0 : s₁.heap = h0 := by rw [← hhp_, Bd.state]; rfl
  have N0 := Fr.nil n0
  have pre0 : ∀ t, Steps p.tables e below (s₁.setTop (mkF m 0 #[.val (.ref oo), .val (.int (0 : Int32)), .val (.int (0 : Int32)), .val (.int ky), .unset, .unset, .unset, .unset] [])) t → Steps p.tables e below (s₁.setTop (entryFrame m #[(.ref oo), (.int (0 : Int32)), (.int (0 : Int32)), (.int ky)] 8)) t := fun t k => castTop (ef_bz0_0 m oo (0 : Int32) (0 : Int32) ky) k
  have pre1 := fun (t : State) (k : Steps p.tables e below (s₁.setTop (mkF m 71 #[.val (.ref oo), .val (.int (0 : Int32)), .val (.int (0 : Int32)), .val (.int ky), .val (.int (0 : Int32)), .val (.int (-1 : Int32)), .unset, .unset] [(.int (-1 : Int32))])) t) => pre0 t (by
    refine XS.iloadN X0.here hx rfl (hb hby d6_0) rfl ?_
    refine XS.istore X0.here hx rfl (hb hby d6_1) rfl (l' := #[.val (.ref oo), .val (.int (0 : Int32)), .val (.int (0 : Int32)), .val (.int ky), .val (.int (0 : Int32)), .unset, .unset, .unset]) rfl ?_
    refine XS.iloadN X0.here hx rfl (hb hby d6_3) rfl ?_
    refine XS.iconst X0.here hx rfl (hb hby d6_4) ?_
    refine XS.isub X0.here hx rfl (hb hby d6_5) rfl ?_
    refine XS.istore X0.here hx rfl (hb hby d6_6) rfl (l' := #[.val (.ref oo), .val (.int (0 : Int32)), .val (.int (0 : Int32)), .val (.int ky), .val (.int (0 : Int32)), .val (.int (-1 : Int32)), .unset, .unset]) rfl ?_
    refine XS.iload X0.here hx rfl (hb hby d6_8) rfl ?_
    refine XS.iload X0.here hx rfl (hb hby d6_10) rfl ?_
    refine XS.icmpYes X0.here hx rfl (pc0 := 12) (pc' := 66) rfl (hb hby d6_12) rfl (tlt (by decide : (-1 : Int32) < (0 : Int32))).2.2.1 (by decide) (by decide) ?_
    refine XS.iload X0.here hx rfl (hb hby d6_66) rfl ?_
    refine XS.iconst X0.here hx rfl (hb hby d6_68) ?_
    refine XS.iadd X0.here hx rfl (hb hby d6_69) rfl ?_
    refine XS.ineg X0.here hx rfl (hb hby d6_70) rfl ?_
    exact k)
  obtain ⟨fs, hr, hrun, hended, hW, hsame⟩ := X0.leave (v := some (.int (-1 : Int32))) (hlocks := BodyLoose.notSynchronized Bd) (fun h => by rw [Bd.returns] at h; cases h)
  refine ⟨_, _, pre1 _ ?_, hrun, hended, _, _, rfl, ?_, ⟨_, rfl⟩, hW, hsame.mono (by decide) (by decide)⟩
  · exact retI X0 hx Bd.returns (hb hby d6_71) hr
  · show Q_bz0_0 Z oo ko ky h0 n0 _ s₁.heap _
    rw [e0]
    exact ⟨(-1 : Int32), rfl, N0, rfl, rfl⟩

theorem ef_bs0_0 (m : MethodId) (x0 : Addr) (x1 : Int32) (x2 : Int32) (x3 : Int32) : entryFrame m #[(.ref x0), (.int x1), (.int x2), (.int x3)] 4 = mkF m 0 #[.val (.ref x0), .val (.int x1), .val (.int x2), .val (.int x3)] [] := by first | (simp [entryFrame, mkF, argsToLocals, Value.category]; done) | rfl
def Q_bs0_0 (Z : State) (oo : Addr) (ko : ClassId) (ky : Int32) (h0 : Heap) (n0 : Nat) (v : Option Value) (h : Heap) (L : List Loc) : Prop := ∃ r : Int32, v = some (.int r) ∧ Fr n0 L ∧ h = h0 ∧ (r = (-1 : Int32))
set_option maxRecDepth 65536 in
set_option maxHeartbeats 40000000 in
theorem rm_bs0_0 (l : Launch) (Z : State) (a0 : Array Value) (hw : ∀ d ∈ tables_1, d.before a0 Z = true) (ws : List Jvm.Cond) (oo : Addr) (ko : ClassId) (ky : Int32) (h0 : Heap) (n0 : Nat) (Z0 : n0 ≤ h0.size) (H0_A : Arv Z h0 oo ko .int (0 : Int32) [] (.int (0 : Int32))) :
    MetFree l (⟨"java/util/Arrays", "binarySearch", "([IIII)I"⟩ : MethodName) (head1 (Jvm.Cond.code (⟨"java/util/Arrays", "binarySearch", "([IIII)I"⟩ : MethodName) jdk_65_method_58_code 4 (some .int) :: ws) ({ frames := 1, cells := 0, slots := 0, locals := 19 } : Room)) (fun as_ U_ => as_ = #[(.ref oo), (.int (0 : Int32)), (.int (0 : Int32)), (.int ky)] ∧ Z.Warmed39 U_.vm ∧ U_.heap = h0) (fun _ _ _ _ _ => True) (fun _ U o U' => ∃ v L, o = .returned v ∧ Q_bs0_0 Z oo ko ky h0 n0 v U'.heap L ∧ FrameEnd U o U' L ({ frames := 1, cells := 0, slots := 0, locals := 19 } : Room).cells ({ frames := 1, cells := 0, slots := 0, locals := 19 } : Room).slots) := by
  refine MetFree.of_bodySF (plainFor_of_name pn_0) hisR ?_
  intro p e s m args below meth c s₁ Bd hml0 hP hK
  obtain ⟨rfl, hZ, hhp_⟩ := hP
  have hx := Bd.exec
  have hby := Bd.bytes
  have hml : c.maxLocals = 4 := hml0
  have hown : s.vm.findClass "java/util/Arrays" = some m.cls := findClass_of_methodNamed Bd.named
  have hnm := (name_of_methodNamed Bd.named Bd.method).1
  have X0 : Stand p l e ({ frames := 1, cells := 0, slots := 0, locals := 19 } : Room) s m #[(.ref oo), (.int (0 : Int32)), (.int (0 : Int32)), (.int ky)] below meth c s₁ [] 0 0 := Stand.of_body Bd
  have e0 : s₁.heap = h0 := by rw [← hhp_, Bd.state]; rfl
  have N0 := Fr.nil n0
  have pre0 : ∀ t, Steps p.tables e below (s₁.setTop (mkF m 0 #[.val (.ref oo), .val (.int (0 : Int32)), .val (.int (0 : Int32)), .val (.int ky)] [])) t → Steps p.tables e below (s₁.setTop (entryFrame m #[(.ref oo), (.int (0 : Int32)), (.int (0 : Int32)), (.int ky)] 4)) t := fun t k => castTop (ef_bs0_0 m oo (0 : Int32) (0 : Int32) ky) k
  have oc1 := H0_A
  obtain ⟨c1, Arc1, qc1, Sc1, Nc1, Hc1, Gc1⟩ := oc1
  obtain ⟨_, _, ⟨T2, L2, k2, n2⟩, -, X2, ⟨Lc2, hQ2, l2, y2, z2⟩, st2⟩ := Jvm.LawKit.callS X0 hx (y := (⟨"java/util/Arrays", "rangeCheck", "(III)V"⟩ : MethodName)) hown (mvT hZ (own_w hw 29 rfl)) (mvT hZ (own_w hw 30 rfl)) (mvT hZ (own_w hw 27 rfl)) (mvT hZ (own_w hw 31 rfl)) (by decide) (backOf (W := 0) (rm_rc l Z a0 hw [] (0 : Int32) (0 : Int32) (0 : Int32) h0 n0 Z0 (by decide) (by decide) (by decide)) hZ (own_w hw 31 rfl) (own_w hw 27 rfl) (by decide) (by decide)) (g := (mkF m 4 #[.val (.ref oo), .val (.int (0 : Int32)), .val (.int (0 : Int32)), .val (.int ky)] [(.int (0 : Int32)), (.int (0 : Int32)), (.int (0 : Int32))])) rfl (by rw [hml]; rfl) (argsL := [(.int (0 : Int32)), (.int (0 : Int32)), (.int (0 : Int32))]) (rest := []) (lenOf pd_0 rfl) rfl (by show 2 * 0 + _ ≤ _; exact Nat.le_of_eq rfl) (hb hby d4_4) (fun _ _ => ⟨rfl, e0, (by decide : 0 + 0 ≤ _), (by decide : 0 + 0 ≤ _)⟩)
  dsimp only [Pt.U, Pt.locs, Pt.cells, Pt.slots] at X2 l2 y2 z2 st2 hQ2
  subst l2 y2 z2
  obtain ⟨rfl, N2q, hq3⟩ := hQ2
  have N2 := Fr.app N0 N2q
  obtain ⟨_, _, ⟨T4, L4, k4, n4⟩, -, X4, ⟨Lc4, hQ4, l4, y4, z4⟩, st4⟩ := Jvm.LawKit.callS X2 hx (y := (⟨"java/util/Arrays", "binarySearch0", "([IIII)I"⟩ : MethodName)) hown (mvT hZ (own_w hw 32 rfl)) (mvT hZ (own_w hw 33 rfl)) (mvT hZ (own_w hw 27 rfl)) (mvT hZ (own_w hw 34 rfl)) (by decide) (backOf (W := 0) (rm_bz0_0 l Z a0 hw [] oo ko ky h0 n0 Z0 H0_A) hZ (own_w hw 34 rfl) (own_w hw 27 rfl) (by decide) (by decide)) (g := (mkF m 11 #[.val (.ref oo), .val (.int (0 : Int32)), .val (.int (0 : Int32)), .val (.int ky)] [(.int ky), (.int (0 : Int32)), (.int (0 : Int32)), (.ref oo)])) rfl (by rw [hml]; rfl) (argsL := [(.ref oo), (.int (0 : Int32)), (.int (0 : Int32)), (.int ky)]) (rest := []) (lenOf pd_1 rfl) rfl (by show 2 * 0 + _ ≤ _; exact Nat.le_of_eq rfl) (hb hby d4_11) (fun _ _ => ⟨rfl, hq3, (by decide : 0 + 0 ≤ _), (by decide : 0 + 0 ≤ _)⟩)
  dsimp only [Pt.U, Pt.locs, Pt.cells, Pt.slots] at X4 l4 y4 z4 st4 hQ4
  subst l4 y4 z4
  obtain ⟨x5, rfl, N4q, hq6, hpq7⟩ := hQ4
  have N4 := Fr.app N2 N4q
  have pre8 := fun (t : State) (k : Steps p.tables e below (T4.setTop (mkF m 14 #[.val (.ref oo), .val (.int (0 : Int32)), .val (.int (0 : Int32)), .val (.int ky)] [(.int x5)])) t) => pre0 t (by
    refine XS.aloadN X0.here hx rfl (hb hby d4_0) rfl rfl ?_
    refine X0.arraylength hx (by rw [e0]; exact Arc1.1) (State.isArrayOf_alike hZ.alike Arc1.2.1) (g := (mkF m 1 #[.val (.ref oo), .val (.int (0 : Int32)), .val (.int (0 : Int32)), .val (.int ky)] [(.ref oo)])) rfl rfl (hb hby d4_1) _ ?_
    rw [show c1.slots.size.toInt32 = (0 : Int32) from (len_of Sc1 Nc1)]
    refine XS.iloadN X0.here hx rfl (hb hby d4_2) rfl ?_
    refine XS.iloadN X0.here hx rfl (hb hby d4_3) rfl ?_
    refine st2 _ ?_
    refine XS.aloadN X2.here hx rfl (hb hby d4_7) rfl rfl ?_
    refine XS.iloadN X2.here hx rfl (hb hby d4_8) rfl ?_
    refine XS.iloadN X2.here hx rfl (hb hby d4_9) rfl ?_
    refine XS.iloadN X2.here hx rfl (hb hby d4_10) rfl ?_
    refine st4 _ ?_
    exact k)
  obtain ⟨fs, hr, hrun, hended, hW, hsame⟩ := X4.leave (v := some (.int x5)) (hlocks := BodyLoose.notSynchronized Bd) (fun h => by rw [Bd.returns] at h; cases h)
  refine ⟨_, _, pre8 _ ?_, hrun, hended, _, _, rfl, ?_, ⟨_, rfl⟩, hW, hsame.mono (by decide) (by decide)⟩
  · exact retI X4 hx Bd.returns (hb hby d4_14) hr
  · show Q_bs0_0 Z oo ko ky h0 n0 _ T4.heap _
    rw [hq6]
    exact ⟨x5, rfl, N4, rfl, hpq7⟩

theorem ef_bz1_1 (m : MethodId) (x0 : Addr) (x1 : Int32) (x2 : Int32) (x3 : Int32) : entryFrame m #[(.ref x0), (.int x1), (.int x2), (.int x3)] 8 = mkF m 0 #[.val (.ref x0), .val (.int x1), .val (.int x2), .val (.int x3), .unset, .unset, .unset, .unset] [] := by first | (simp [entryFrame, mkF, argsToLocals, Value.category]; done) | rfl
def Q_bz1_1 (Z : State) (oo : Addr) (ko : ClassId) (k0 : Int32) (ky : Int32) (h0 : Heap) (n0 : Nat) (v : Option Value) (h : Heap) (L : List Loc) : Prop := ∃ r : Int32, v = some (.int r) ∧ Fr n0 L ∧ h = h0 ∧ ((r = (-2 : Int32) ∧ k0 < ky) ∨ (r = (-1 : Int32) ∧ ¬ (k0 < ky) ∧ ky < k0) ∨ (r = (0 : Int32) ∧ ¬ (k0 < ky) ∧ ¬ (ky < k0)))
set_option maxRecDepth 65536 in
set_option maxHeartbeats 40000000 in
theorem rm_bz1_1 (l : Launch) (Z : State) (a0 : Array Value) (hw : ∀ d ∈ tables_1, d.before a0 Z = true) (ws : List Jvm.Cond) (oo : Addr) (ko : ClassId) (k0 : Int32) (ky : Int32) (h0 : Heap) (n0 : Nat) (Z0 : n0 ≤ h0.size) (H0_A : Arv Z h0 oo ko .int (1 : Int32) [(.int k0)] (.int (0 : Int32))) :
    MetFree l (⟨"java/util/Arrays", "binarySearch0", "([IIII)I"⟩ : MethodName) (head1 (Jvm.Cond.code (⟨"java/util/Arrays", "binarySearch0", "([IIII)I"⟩ : MethodName) jdk_65_method_59_code 8 (some .int) :: ws) ({ frames := 0, cells := 0, slots := 0, locals := 0 } : Room)) (fun as_ U_ => as_ = #[(.ref oo), (.int (0 : Int32)), (.int (1 : Int32)), (.int ky)] ∧ Z.Warmed39 U_.vm ∧ U_.heap = h0) (fun _ _ _ _ _ => True) (fun _ U o U' => ∃ v L, o = .returned v ∧ Q_bz1_1 Z oo ko k0 ky h0 n0 v U'.heap L ∧ FrameEnd U o U' L ({ frames := 0, cells := 0, slots := 0, locals := 0 } : Room).cells ({ frames := 0, cells := 0, slots := 0, locals := 0 } : Room).slots) := by
  refine MetFree.of_bodySF (plainFor_of_name pn_0) hisR ?_
  intro p e s m args below meth c s₁ Bd hml0 hP hK
  obtain ⟨rfl, hZ, hhp_⟩ := hP
  have hx := Bd.exec
  have hby := Bd.bytes
  have hml : c.maxLocals = 8 := hml0
  have hown : s.vm.findClass "java/util/Arrays" = some m.cls := findClass_of_methodNamed Bd.named
  have hnm := (name_of_methodNamed Bd.named Bd.method).1
  have X0 : Stand p l e ({ frames := 0, cells := 0, slots := 0, locals := 0 } : Room) s m #[(.ref oo), (.int (0 : Int32)), (.int (1 : Int32)), (.int ky)] below meth c s₁ [] 0 0 := Stand.of_body Bd
  have e0 : s₁.heap = h0 := by rw [← hhp_, Bd.state]; rfl
  have N0 := Fr.nil n0
  have pre0 : ∀ t, Steps p.tables e below (s₁.setTop (mkF m 0 #[.val (.ref oo), .val (.int (0 : Int32)), .val (.int (1 : Int32)), .val (.int ky), .unset, .unset, .unset, .unset] [])) t → Steps p.tables e below (s₁.setTop (entryFrame m #[(.ref oo), (.int (0 : Int32)), (.int (1 : Int32)), (.int ky)] 8)) t := fun t k => castTop (ef_bz1_1 m oo (0 : Int32) (1 : Int32) ky) k
  have oc1 := H0_A
  obtain ⟨c1, Arc1, qc1, Sc1, Nc1, Hc1, Gc1⟩ := oc1
  have hin2 : ¬ ((0 : Int32) < 0 ∨ c1.slots.size ≤ ((0 : Int32)).toNatClampNeg) := (inb_of Sc1 ⟨by decide, by decide⟩)
  have pre3 := fun (t : State) (k : Steps p.tables e below (s₁.setTop (mkF m 33 #[.val (.ref oo), .val (.int (0 : Int32)), .val (.int (1 : Int32)), .val (.int ky), .val (.int (0 : Int32)), .val (.int (0 : Int32)), .val (.int (0 : Int32)), .val (.int k0)] [(.int ky), (.int k0)])) t) => pre0 t (by
    refine XS.iloadN X0.here hx rfl (hb hby d6_0) rfl ?_
    refine XS.istore X0.here hx rfl (hb hby d6_1) rfl (l' := #[.val (.ref oo), .val (.int (0 : Int32)), .val (.int (1 : Int32)), .val (.int ky), .val (.int (0 : Int32)), .unset, .unset, .unset]) rfl ?_
    refine XS.iloadN X0.here hx rfl (hb hby d6_3) rfl ?_
    refine XS.iconst X0.here hx rfl (hb hby d6_4) ?_
    refine XS.isub X0.here hx rfl (hb hby d6_5) rfl ?_
    refine XS.istore X0.here hx rfl (hb hby d6_6) rfl (l' := #[.val (.ref oo), .val (.int (0 : Int32)), .val (.int (1 : Int32)), .val (.int ky), .val (.int (0 : Int32)), .val (.int (0 : Int32)), .unset, .unset]) rfl ?_
    refine XS.iload X0.here hx rfl (hb hby d6_8) rfl ?_
    refine XS.iload X0.here hx rfl (hb hby d6_10) rfl ?_
    refine XS.icmpNo X0.here hx rfl (hb hby d6_12) rfl (flt (by decide : ¬ ((0 : Int32) < (0 : Int32)))).2.2.1 ?_
    refine XS.iload X0.here hx rfl (hb hby d6_15) rfl ?_
    refine XS.iload X0.here hx rfl (hb hby d6_17) rfl ?_
    refine XS.iadd X0.here hx rfl (hb hby d6_19) rfl ?_
    refine XS.iconst X0.here hx rfl (hb hby d6_20) ?_
    refine XS.iushr X0.here hx rfl (hb hby d6_21) rfl ?_
    refine XS.istore X0.here hx rfl (hb hby d6_22) rfl (l' := #[.val (.ref oo), .val (.int (0 : Int32)), .val (.int (1 : Int32)), .val (.int ky), .val (.int (0 : Int32)), .val (.int (0 : Int32)), .val (.int (0 : Int32)), .unset]) rfl ?_
    refine XS.aloadN X0.here hx rfl (hb hby d6_24) rfl rfl ?_
    refine XS.iload X0.here hx rfl (hb hby d6_25) rfl ?_
    refine X0.iaload hx (j := (0 : Int32)) (v := (.int k0)) (by rw [e0]; exact Arc1.1) (State.isArrayOf_alike hZ.alike Arc1.2.1) Arc1.2.2 hin2 (Has.at Hc1 hin2 rfl) (g := (mkF m 27 #[.val (.ref oo), .val (.int (0 : Int32)), .val (.int (1 : Int32)), .val (.int ky), .val (.int (0 : Int32)), .val (.int (0 : Int32)), .val (.int (0 : Int32)), .unset] [(.int (0 : Int32)), (.ref oo)])) rfl rfl (hb hby d6_27) _ ?_
    refine XS.istore X0.here hx rfl (hb hby d6_28) rfl (l' := #[.val (.ref oo), .val (.int (0 : Int32)), .val (.int (1 : Int32)), .val (.int ky), .val (.int (0 : Int32)), .val (.int (0 : Int32)), .val (.int (0 : Int32)), .val (.int k0)]) rfl ?_
    refine XS.iload X0.here hx rfl (hb hby d6_30) rfl ?_
    refine XS.iloadN X0.here hx rfl (hb hby d6_32) rfl ?_
    exact k)
  by_cases hc4 : k0 < ky
  · have pre5 := fun (t : State) (k : Steps p.tables e below (s₁.setTop (mkF m 71 #[.val (.ref oo), .val (.int (0 : Int32)), .val (.int (1 : Int32)), .val (.int ky), .val (.int (1 : Int32)), .val (.int (0 : Int32)), .val (.int (0 : Int32)), .val (.int k0)] [(.int (-2 : Int32))])) t) => pre3 t (by
      refine XS.icmpNo X0.here hx rfl (hb hby d6_33) rfl (tlt hc4).2.1 ?_
      refine XS.iload X0.here hx rfl (hb hby d6_36) rfl ?_
      refine XS.iconst X0.here hx rfl (hb hby d6_38) ?_
      refine XS.iadd X0.here hx rfl (hb hby d6_39) rfl ?_
      refine XS.istore X0.here hx rfl (hb hby d6_40) rfl (l' := #[.val (.ref oo), .val (.int (0 : Int32)), .val (.int (1 : Int32)), .val (.int ky), .val (.int (1 : Int32)), .val (.int (0 : Int32)), .val (.int (0 : Int32)), .val (.int k0)]) rfl ?_
      refine XS.goto X0.here hx rfl (pc0 := 42) (pc' := 63) rfl (hb hby d6_42) (by decide) (by decide) ?_
      refine XS.goto X0.here hx rfl (pc0 := 63) (pc' := 8) rfl (hb hby d6_63) (by decide) (by decide) ?_
      refine XS.iload X0.here hx rfl (hb hby d6_8) rfl ?_
      refine XS.iload X0.here hx rfl (hb hby d6_10) rfl ?_
      refine XS.icmpYes X0.here hx rfl (pc0 := 12) (pc' := 66) rfl (hb hby d6_12) rfl (tlt (by decide : (0 : Int32) < (1 : Int32))).2.2.1 (by decide) (by decide) ?_
      refine XS.iload X0.here hx rfl (hb hby d6_66) rfl ?_
      refine XS.iconst X0.here hx rfl (hb hby d6_68) ?_
      refine XS.iadd X0.here hx rfl (hb hby d6_69) rfl ?_
      refine XS.ineg X0.here hx rfl (hb hby d6_70) rfl ?_
      exact k)
    obtain ⟨fs, hr, hrun, hended, hW, hsame⟩ := X0.leave (v := some (.int (-2 : Int32))) (hlocks := BodyLoose.notSynchronized Bd) (fun h => by rw [Bd.returns] at h; cases h)
    refine ⟨_, _, pre5 _ ?_, hrun, hended, _, _, rfl, ?_, ⟨_, rfl⟩, hW, hsame.mono (by decide) (by decide)⟩
    · exact retI X0 hx Bd.returns (hb hby d6_71) hr
    · show Q_bz1_1 Z oo ko k0 ky h0 n0 _ s₁.heap _
      rw [e0]
      exact ⟨(-2 : Int32), rfl, N0, rfl, (Or.inl ⟨rfl, hc4⟩)⟩
  · have pre6 := fun (t : State) (k : Steps p.tables e below (s₁.setTop (mkF m 48 #[.val (.ref oo), .val (.int (0 : Int32)), .val (.int (1 : Int32)), .val (.int ky), .val (.int (0 : Int32)), .val (.int (0 : Int32)), .val (.int (0 : Int32)), .val (.int k0)] [(.int ky), (.int k0)])) t) => pre3 t (by
      refine XS.icmpYes X0.here hx rfl (pc0 := 33) (pc' := 45) rfl (hb hby d6_33) rfl (flt hc4).2.1 (by decide) (by decide) ?_
      refine XS.iload X0.here hx rfl (hb hby d6_45) rfl ?_
      refine XS.iloadN X0.here hx rfl (hb hby d6_47) rfl ?_
      exact k)
    by_cases hc7 : ky < k0
    · have pre8 := fun (t : State) (k : Steps p.tables e below (s₁.setTop (mkF m 71 #[.val (.ref oo), .val (.int (0 : Int32)), .val (.int (1 : Int32)), .val (.int ky), .val (.int (0 : Int32)), .val (.int (-1 : Int32)), .val (.int (0 : Int32)), .val (.int k0)] [(.int (-1 : Int32))])) t) => pre6 t (by
        refine XS.icmpNo X0.here hx rfl (hb hby d6_48) rfl (tlt hc7).2.2.2 ?_
        refine XS.iload X0.here hx rfl (hb hby d6_51) rfl ?_
        refine XS.iconst X0.here hx rfl (hb hby d6_53) ?_
        refine XS.isub X0.here hx rfl (hb hby d6_54) rfl ?_
        refine XS.istore X0.here hx rfl (hb hby d6_55) rfl (l' := #[.val (.ref oo), .val (.int (0 : Int32)), .val (.int (1 : Int32)), .val (.int ky), .val (.int (0 : Int32)), .val (.int (-1 : Int32)), .val (.int (0 : Int32)), .val (.int k0)]) rfl ?_
        refine XS.goto X0.here hx rfl (pc0 := 57) (pc' := 63) rfl (hb hby d6_57) (by decide) (by decide) ?_
        refine XS.goto X0.here hx rfl (pc0 := 63) (pc' := 8) rfl (hb hby d6_63) (by decide) (by decide) ?_
        refine XS.iload X0.here hx rfl (hb hby d6_8) rfl ?_
        refine XS.iload X0.here hx rfl (hb hby d6_10) rfl ?_
        refine XS.icmpYes X0.here hx rfl (pc0 := 12) (pc' := 66) rfl (hb hby d6_12) rfl (tlt (by decide : (-1 : Int32) < (0 : Int32))).2.2.1 (by decide) (by decide) ?_
        refine XS.iload X0.here hx rfl (hb hby d6_66) rfl ?_
        refine XS.iconst X0.here hx rfl (hb hby d6_68) ?_
        refine XS.iadd X0.here hx rfl (hb hby d6_69) rfl ?_
        refine XS.ineg X0.here hx rfl (hb hby d6_70) rfl ?_
        exact k)
      obtain ⟨fs, hr, hrun, hended, hW, hsame⟩ := X0.leave (v := some (.int (-1 : Int32))) (hlocks := BodyLoose.notSynchronized Bd) (fun h => by rw [Bd.returns] at h; cases h)
      refine ⟨_, _, pre8 _ ?_, hrun, hended, _, _, rfl, ?_, ⟨_, rfl⟩, hW, hsame.mono (by decide) (by decide)⟩
      · exact retI X0 hx Bd.returns (hb hby d6_71) hr
      · show Q_bz1_1 Z oo ko k0 ky h0 n0 _ s₁.heap _
        rw [e0]
        exact ⟨(-1 : Int32), rfl, N0, rfl, (Or.inr (Or.inl ⟨rfl, hc4, hc7⟩))⟩
    · have pre9 := fun (t : State) (k : Steps p.tables e below (s₁.setTop (mkF m 62 #[.val (.ref oo), .val (.int (0 : Int32)), .val (.int (1 : Int32)), .val (.int ky), .val (.int (0 : Int32)), .val (.int (0 : Int32)), .val (.int (0 : Int32)), .val (.int k0)] [(.int (0 : Int32))])) t) => pre6 t (by
        refine XS.icmpYes X0.here hx rfl (pc0 := 48) (pc' := 60) rfl (hb hby d6_48) rfl (flt hc7).2.2.2 (by decide) (by decide) ?_
        refine XS.iload X0.here hx rfl (hb hby d6_60) rfl ?_
        exact k)
      obtain ⟨fs, hr, hrun, hended, hW, hsame⟩ := X0.leave (v := some (.int (0 : Int32))) (hlocks := BodyLoose.notSynchronized Bd) (fun h => by rw [Bd.returns] at h; cases h)
      refine ⟨_, _, pre9 _ ?_, hrun, hended, _, _, rfl, ?_, ⟨_, rfl⟩, hW, hsame.mono (by decide) (by decide)⟩
      · exact retI X0 hx Bd.returns (hb hby d6_62) hr
      · show Q_bz1_1 Z oo ko k0 ky h0 n0 _ s₁.heap _
        rw [e0]
        exact ⟨(0 : Int32), rfl, N0, rfl, (Or.inr (Or.inr ⟨rfl, hc4, hc7⟩))⟩

theorem ef_bs1_1 (m : MethodId) (x0 : Addr) (x1 : Int32) (x2 : Int32) (x3 : Int32) : entryFrame m #[(.ref x0), (.int x1), (.int x2), (.int x3)] 4 = mkF m 0 #[.val (.ref x0), .val (.int x1), .val (.int x2), .val (.int x3)] [] := by first | (simp [entryFrame, mkF, argsToLocals, Value.category]; done) | rfl
def Q_bs1_1 (Z : State) (oo : Addr) (ko : ClassId) (k0 : Int32) (ky : Int32) (h0 : Heap) (n0 : Nat) (v : Option Value) (h : Heap) (L : List Loc) : Prop := ∃ r : Int32, v = some (.int r) ∧ Fr n0 L ∧ h = h0 ∧ ((r = (-2 : Int32) ∧ k0 < ky) ∨ (r = (-1 : Int32) ∧ ¬ (k0 < ky) ∧ ky < k0) ∨ (r = (0 : Int32) ∧ ¬ (k0 < ky) ∧ ¬ (ky < k0)))
set_option maxRecDepth 65536 in
set_option maxHeartbeats 40000000 in
theorem rm_bs1_1 (l : Launch) (Z : State) (a0 : Array Value) (hw : ∀ d ∈ tables_1, d.before a0 Z = true) (ws : List Jvm.Cond) (oo : Addr) (ko : ClassId) (k0 : Int32) (ky : Int32) (h0 : Heap) (n0 : Nat) (Z0 : n0 ≤ h0.size) (H0_A : Arv Z h0 oo ko .int (1 : Int32) [(.int k0)] (.int (0 : Int32))) :
    MetFree l (⟨"java/util/Arrays", "binarySearch", "([IIII)I"⟩ : MethodName) (head1 (Jvm.Cond.code (⟨"java/util/Arrays", "binarySearch", "([IIII)I"⟩ : MethodName) jdk_65_method_58_code 4 (some .int) :: ws) ({ frames := 1, cells := 0, slots := 0, locals := 19 } : Room)) (fun as_ U_ => as_ = #[(.ref oo), (.int (0 : Int32)), (.int (1 : Int32)), (.int ky)] ∧ Z.Warmed39 U_.vm ∧ U_.heap = h0) (fun _ _ _ _ _ => True) (fun _ U o U' => ∃ v L, o = .returned v ∧ Q_bs1_1 Z oo ko k0 ky h0 n0 v U'.heap L ∧ FrameEnd U o U' L ({ frames := 1, cells := 0, slots := 0, locals := 19 } : Room).cells ({ frames := 1, cells := 0, slots := 0, locals := 19 } : Room).slots) := by
  refine MetFree.of_bodySF (plainFor_of_name pn_0) hisR ?_
  intro p e s m args below meth c s₁ Bd hml0 hP hK
  obtain ⟨rfl, hZ, hhp_⟩ := hP
  have hx := Bd.exec
  have hby := Bd.bytes
  have hml : c.maxLocals = 4 := hml0
  have hown : s.vm.findClass "java/util/Arrays" = some m.cls := findClass_of_methodNamed Bd.named
  have hnm := (name_of_methodNamed Bd.named Bd.method).1
  have X0 : Stand p l e ({ frames := 1, cells := 0, slots := 0, locals := 19 } : Room) s m #[(.ref oo), (.int (0 : Int32)), (.int (1 : Int32)), (.int ky)] below meth c s₁ [] 0 0 := Stand.of_body Bd
  have e0 : s₁.heap = h0 := by rw [← hhp_, Bd.state]; rfl
  have N0 := Fr.nil n0
  have pre0 : ∀ t, Steps p.tables e below (s₁.setTop (mkF m 0 #[.val (.ref oo), .val (.int (0 : Int32)), .val (.int (1 : Int32)), .val (.int ky)] [])) t → Steps p.tables e below (s₁.setTop (entryFrame m #[(.ref oo), (.int (0 : Int32)), (.int (1 : Int32)), (.int ky)] 4)) t := fun t k => castTop (ef_bs1_1 m oo (0 : Int32) (1 : Int32) ky) k
  have oc1 := H0_A
  obtain ⟨c1, Arc1, qc1, Sc1, Nc1, Hc1, Gc1⟩ := oc1
  obtain ⟨_, _, ⟨T2, L2, k2, n2⟩, -, X2, ⟨Lc2, hQ2, l2, y2, z2⟩, st2⟩ := Jvm.LawKit.callS X0 hx (y := (⟨"java/util/Arrays", "rangeCheck", "(III)V"⟩ : MethodName)) hown (mvT hZ (own_w hw 29 rfl)) (mvT hZ (own_w hw 30 rfl)) (mvT hZ (own_w hw 27 rfl)) (mvT hZ (own_w hw 31 rfl)) (by decide) (backOf (W := 0) (rm_rc l Z a0 hw [] (1 : Int32) (0 : Int32) (1 : Int32) h0 n0 Z0 (by decide) (by decide) (by decide)) hZ (own_w hw 31 rfl) (own_w hw 27 rfl) (by decide) (by decide)) (g := (mkF m 4 #[.val (.ref oo), .val (.int (0 : Int32)), .val (.int (1 : Int32)), .val (.int ky)] [(.int (1 : Int32)), (.int (0 : Int32)), (.int (1 : Int32))])) rfl (by rw [hml]; rfl) (argsL := [(.int (1 : Int32)), (.int (0 : Int32)), (.int (1 : Int32))]) (rest := []) (lenOf pd_0 rfl) rfl (by show 2 * 0 + _ ≤ _; exact Nat.le_of_eq rfl) (hb hby d4_4) (fun _ _ => ⟨rfl, e0, (by decide : 0 + 0 ≤ _), (by decide : 0 + 0 ≤ _)⟩)
  dsimp only [Pt.U, Pt.locs, Pt.cells, Pt.slots] at X2 l2 y2 z2 st2 hQ2
  subst l2 y2 z2
  obtain ⟨rfl, N2q, hq3⟩ := hQ2
  have N2 := Fr.app N0 N2q
  obtain ⟨_, _, ⟨T4, L4, k4, n4⟩, -, X4, ⟨Lc4, hQ4, l4, y4, z4⟩, st4⟩ := Jvm.LawKit.callS X2 hx (y := (⟨"java/util/Arrays", "binarySearch0", "([IIII)I"⟩ : MethodName)) hown (mvT hZ (own_w hw 32 rfl)) (mvT hZ (own_w hw 33 rfl)) (mvT hZ (own_w hw 27 rfl)) (mvT hZ (own_w hw 34 rfl)) (by decide) (backOf (W := 0) (rm_bz1_1 l Z a0 hw [] oo ko k0 ky h0 n0 Z0 H0_A) hZ (own_w hw 34 rfl) (own_w hw 27 rfl) (by decide) (by decide)) (g := (mkF m 11 #[.val (.ref oo), .val (.int (0 : Int32)), .val (.int (1 : Int32)), .val (.int ky)] [(.int ky), (.int (1 : Int32)), (.int (0 : Int32)), (.ref oo)])) rfl (by rw [hml]; rfl) (argsL := [(.ref oo), (.int (0 : Int32)), (.int (1 : Int32)), (.int ky)]) (rest := []) (lenOf pd_1 rfl) rfl (by show 2 * 0 + _ ≤ _; exact Nat.le_of_eq rfl) (hb hby d4_11) (fun _ _ => ⟨rfl, hq3, (by decide : 0 + 0 ≤ _), (by decide : 0 + 0 ≤ _)⟩)
  dsimp only [Pt.U, Pt.locs, Pt.cells, Pt.slots] at X4 l4 y4 z4 st4 hQ4
  subst l4 y4 z4
  obtain ⟨x5, rfl, N4q, hq6, hpq7⟩ := hQ4
  have N4 := Fr.app N2 N4q
  have pre8 := fun (t : State) (k : Steps p.tables e below (T4.setTop (mkF m 14 #[.val (.ref oo), .val (.int (0 : Int32)), .val (.int (1 : Int32)), .val (.int ky)] [(.int x5)])) t) => pre0 t (by
    refine XS.aloadN X0.here hx rfl (hb hby d4_0) rfl rfl ?_
    refine X0.arraylength hx (by rw [e0]; exact Arc1.1) (State.isArrayOf_alike hZ.alike Arc1.2.1) (g := (mkF m 1 #[.val (.ref oo), .val (.int (0 : Int32)), .val (.int (1 : Int32)), .val (.int ky)] [(.ref oo)])) rfl rfl (hb hby d4_1) _ ?_
    rw [show c1.slots.size.toInt32 = (1 : Int32) from (len_of Sc1 Nc1)]
    refine XS.iloadN X0.here hx rfl (hb hby d4_2) rfl ?_
    refine XS.iloadN X0.here hx rfl (hb hby d4_3) rfl ?_
    refine st2 _ ?_
    refine XS.aloadN X2.here hx rfl (hb hby d4_7) rfl rfl ?_
    refine XS.iloadN X2.here hx rfl (hb hby d4_8) rfl ?_
    refine XS.iloadN X2.here hx rfl (hb hby d4_9) rfl ?_
    refine XS.iloadN X2.here hx rfl (hb hby d4_10) rfl ?_
    refine st4 _ ?_
    exact k)
  obtain ⟨fs, hr, hrun, hended, hW, hsame⟩ := X4.leave (v := some (.int x5)) (hlocks := BodyLoose.notSynchronized Bd) (fun h => by rw [Bd.returns] at h; cases h)
  refine ⟨_, _, pre8 _ ?_, hrun, hended, _, _, rfl, ?_, ⟨_, rfl⟩, hW, hsame.mono (by decide) (by decide)⟩
  · exact retI X4 hx Bd.returns (hb hby d4_14) hr
  · show Q_bs1_1 Z oo ko k0 ky h0 n0 _ T4.heap _
    rw [hq6]
    exact ⟨x5, rfl, N4, rfl, hpq7⟩

theorem ef_bz2_3 (m : MethodId) (x0 : Addr) (x1 : Int32) (x2 : Int32) (x3 : Int32) : entryFrame m #[(.ref x0), (.int x1), (.int x2), (.int x3)] 8 = mkF m 0 #[.val (.ref x0), .val (.int x1), .val (.int x2), .val (.int x3), .unset, .unset, .unset, .unset] [] := by first | (simp [entryFrame, mkF, argsToLocals, Value.category]; done) | rfl
def Q_bz2_3 (Z : State) (oo : Addr) (ko : ClassId) (k0 : Int32) (k1 : Int32) (g2 : Int32) (ky : Int32) (h0 : Heap) (n0 : Nat) (v : Option Value) (h : Heap) (L : List Loc) : Prop := ∃ r : Int32, v = some (.int r) ∧ Fr n0 L ∧ h = h0 ∧ ((r = (-3 : Int32) ∧ k0 < ky ∧ k1 < ky) ∨ (r = (-2 : Int32) ∧ k0 < ky ∧ ¬ (k1 < ky) ∧ ky < k1) ∨ (r = (1 : Int32) ∧ k0 < ky ∧ ¬ (k1 < ky) ∧ ¬ (ky < k1)) ∨ (r = (-1 : Int32) ∧ ¬ (k0 < ky) ∧ ky < k0) ∨ (r = (0 : Int32) ∧ ¬ (k0 < ky) ∧ ¬ (ky < k0)))
set_option maxRecDepth 65536 in
set_option maxHeartbeats 40000000 in
theorem rm_bz2_3 (l : Launch) (Z : State) (a0 : Array Value) (hw : ∀ d ∈ tables_1, d.before a0 Z = true) (ws : List Jvm.Cond) (oo : Addr) (ko : ClassId) (k0 : Int32) (k1 : Int32) (g2 : Int32) (ky : Int32) (h0 : Heap) (n0 : Nat) (Z0 : n0 ≤ h0.size) (H0_A : Arv Z h0 oo ko .int (3 : Int32) [(.int k0), (.int k1), (.int g2)] (.int (0 : Int32))) :
    MetFree l (⟨"java/util/Arrays", "binarySearch0", "([IIII)I"⟩ : MethodName) (head1 (Jvm.Cond.code (⟨"java/util/Arrays", "binarySearch0", "([IIII)I"⟩ : MethodName) jdk_65_method_59_code 8 (some .int) :: ws) ({ frames := 0, cells := 0, slots := 0, locals := 0 } : Room)) (fun as_ U_ => as_ = #[(.ref oo), (.int (0 : Int32)), (.int (2 : Int32)), (.int ky)] ∧ Z.Warmed39 U_.vm ∧ U_.heap = h0) (fun _ _ _ _ _ => True) (fun _ U o U' => ∃ v L, o = .returned v ∧ Q_bz2_3 Z oo ko k0 k1 g2 ky h0 n0 v U'.heap L ∧ FrameEnd U o U' L ({ frames := 0, cells := 0, slots := 0, locals := 0 } : Room).cells ({ frames := 0, cells := 0, slots := 0, locals := 0 } : Room).slots) := by
  refine MetFree.of_bodySF (plainFor_of_name pn_0) hisR ?_
  intro p e s m args below meth c s₁ Bd hml0 hP hK
  obtain ⟨rfl, hZ, hhp_⟩ := hP
  have hx := Bd.exec
  have hby := Bd.bytes
  have hml : c.maxLocals = 8 := hml0
  have hown : s.vm.findClass "java/util/Arrays" = some m.cls := findClass_of_methodNamed Bd.named
  have hnm := (name_of_methodNamed Bd.named Bd.method).1
  have X0 : Stand p l e ({ frames := 0, cells := 0, slots := 0, locals := 0 } : Room) s m #[(.ref oo), (.int (0 : Int32)), (.int (2 : Int32)), (.int ky)] below meth c s₁ [] 0 0 := Stand.of_body Bd
  have e0 : s₁.heap = h0 := by rw [← hhp_, Bd.state]; rfl
  have N0 := Fr.nil n0
  have pre0 : ∀ t, Steps p.tables e below (s₁.setTop (mkF m 0 #[.val (.ref oo), .val (.int (0 : Int32)), .val (.int (2 : Int32)), .val (.int ky), .unset, .unset, .unset, .unset] [])) t → Steps p.tables e below (s₁.setTop (entryFrame m #[(.ref oo), (.int (0 : Int32)), (.int (2 : Int32)), (.int ky)] 8)) t := fun t k => castTop (ef_bz2_3 m oo (0 : Int32) (2 : Int32) ky) k
  have oc1 := H0_A
  obtain ⟨c1, Arc1, qc1, Sc1, Nc1, Hc1, Gc1⟩ := oc1
  have hin2 : ¬ ((0 : Int32) < 0 ∨ c1.slots.size ≤ ((0 : Int32)).toNatClampNeg) := (inb_of Sc1 ⟨by decide, by decide⟩)
  have pre3 := fun (t : State) (k : Steps p.tables e below (s₁.setTop (mkF m 33 #[.val (.ref oo), .val (.int (0 : Int32)), .val (.int (2 : Int32)), .val (.int ky), .val (.int (0 : Int32)), .val (.int (1 : Int32)), .val (.int (0 : Int32)), .val (.int k0)] [(.int ky), (.int k0)])) t) => pre0 t (by
    refine XS.iloadN X0.here hx rfl (hb hby d6_0) rfl ?_
    refine XS.istore X0.here hx rfl (hb hby d6_1) rfl (l' := #[.val (.ref oo), .val (.int (0 : Int32)), .val (.int (2 : Int32)), .val (.int ky), .val (.int (0 : Int32)), .unset, .unset, .unset]) rfl ?_
    refine XS.iloadN X0.here hx rfl (hb hby d6_3) rfl ?_
    refine XS.iconst X0.here hx rfl (hb hby d6_4) ?_
    refine XS.isub X0.here hx rfl (hb hby d6_5) rfl ?_
    refine XS.istore X0.here hx rfl (hb hby d6_6) rfl (l' := #[.val (.ref oo), .val (.int (0 : Int32)), .val (.int (2 : Int32)), .val (.int ky), .val (.int (0 : Int32)), .val (.int (1 : Int32)), .unset, .unset]) rfl ?_
    refine XS.iload X0.here hx rfl (hb hby d6_8) rfl ?_
    refine XS.iload X0.here hx rfl (hb hby d6_10) rfl ?_
    refine XS.icmpNo X0.here hx rfl (hb hby d6_12) rfl (flt (by decide : ¬ ((1 : Int32) < (0 : Int32)))).2.2.1 ?_
    refine XS.iload X0.here hx rfl (hb hby d6_15) rfl ?_
    refine XS.iload X0.here hx rfl (hb hby d6_17) rfl ?_
    refine XS.iadd X0.here hx rfl (hb hby d6_19) rfl ?_
    refine XS.iconst X0.here hx rfl (hb hby d6_20) ?_
    refine XS.iushr X0.here hx rfl (hb hby d6_21) rfl ?_
    refine XS.istore X0.here hx rfl (hb hby d6_22) rfl (l' := #[.val (.ref oo), .val (.int (0 : Int32)), .val (.int (2 : Int32)), .val (.int ky), .val (.int (0 : Int32)), .val (.int (1 : Int32)), .val (.int (0 : Int32)), .unset]) rfl ?_
    refine XS.aloadN X0.here hx rfl (hb hby d6_24) rfl rfl ?_
    refine XS.iload X0.here hx rfl (hb hby d6_25) rfl ?_
    refine X0.iaload hx (j := (0 : Int32)) (v := (.int k0)) (by rw [e0]; exact Arc1.1) (State.isArrayOf_alike hZ.alike Arc1.2.1) Arc1.2.2 hin2 (Has.at Hc1 hin2 rfl) (g := (mkF m 27 #[.val (.ref oo), .val (.int (0 : Int32)), .val (.int (2 : Int32)), .val (.int ky), .val (.int (0 : Int32)), .val (.int (1 : Int32)), .val (.int (0 : Int32)), .unset] [(.int (0 : Int32)), (.ref oo)])) rfl rfl (hb hby d6_27) _ ?_
    refine XS.istore X0.here hx rfl (hb hby d6_28) rfl (l' := #[.val (.ref oo), .val (.int (0 : Int32)), .val (.int (2 : Int32)), .val (.int ky), .val (.int (0 : Int32)), .val (.int (1 : Int32)), .val (.int (0 : Int32)), .val (.int k0)]) rfl ?_
    refine XS.iload X0.here hx rfl (hb hby d6_30) rfl ?_
    refine XS.iloadN X0.here hx rfl (hb hby d6_32) rfl ?_
    exact k)
  by_cases hc4 : k0 < ky
  · have oc5 := H0_A
    obtain ⟨c5, Arc5, qc5, Sc5, Nc5, Hc5, Gc5⟩ := oc5
    have hin6 : ¬ ((1 : Int32) < 0 ∨ c5.slots.size ≤ ((1 : Int32)).toNatClampNeg) := (inb_of Sc5 ⟨by decide, by decide⟩)
    have pre7 := fun (t : State) (k : Steps p.tables e below (s₁.setTop (mkF m 33 #[.val (.ref oo), .val (.int (0 : Int32)), .val (.int (2 : Int32)), .val (.int ky), .val (.int (1 : Int32)), .val (.int (1 : Int32)), .val (.int (1 : Int32)), .val (.int k1)] [(.int ky), (.int k1)])) t) => pre3 t (by
      refine XS.icmpNo X0.here hx rfl (hb hby d6_33) rfl (tlt hc4).2.1 ?_
      refine XS.iload X0.here hx rfl (hb hby d6_36) rfl ?_
      refine XS.iconst X0.here hx rfl (hb hby d6_38) ?_
      refine XS.iadd X0.here hx rfl (hb hby d6_39) rfl ?_
      refine XS.istore X0.here hx rfl (hb hby d6_40) rfl (l' := #[.val (.ref oo), .val (.int (0 : Int32)), .val (.int (2 : Int32)), .val (.int ky), .val (.int (1 : Int32)), .val (.int (1 : Int32)), .val (.int (0 : Int32)), .val (.int k0)]) rfl ?_
      refine XS.goto X0.here hx rfl (pc0 := 42) (pc' := 63) rfl (hb hby d6_42) (by decide) (by decide) ?_
      refine XS.goto X0.here hx rfl (pc0 := 63) (pc' := 8) rfl (hb hby d6_63) (by decide) (by decide) ?_
      refine XS.iload X0.here hx rfl (hb hby d6_8) rfl ?_
      refine XS.iload X0.here hx rfl (hb hby d6_10) rfl ?_
      refine XS.icmpNo X0.here hx rfl (hb hby d6_12) rfl (flt (by decide : ¬ ((1 : Int32) < (1 : Int32)))).2.2.1 ?_
      refine XS.iload X0.here hx rfl (hb hby d6_15) rfl ?_
      refine XS.iload X0.here hx rfl (hb hby d6_17) rfl ?_
      refine XS.iadd X0.here hx rfl (hb hby d6_19) rfl ?_
      refine XS.iconst X0.here hx rfl (hb hby d6_20) ?_
      refine XS.iushr X0.here hx rfl (hb hby d6_21) rfl ?_
      refine XS.istore X0.here hx rfl (hb hby d6_22) rfl (l' := #[.val (.ref oo), .val (.int (0 : Int32)), .val (.int (2 : Int32)), .val (.int ky), .val (.int (1 : Int32)), .val (.int (1 : Int32)), .val (.int (1 : Int32)), .val (.int k0)]) rfl ?_
      refine XS.aloadN X0.here hx rfl (hb hby d6_24) rfl rfl ?_
      refine XS.iload X0.here hx rfl (hb hby d6_25) rfl ?_
      refine X0.iaload hx (j := (1 : Int32)) (v := (.int k1)) (by rw [e0]; exact Arc5.1) (State.isArrayOf_alike hZ.alike Arc5.2.1) Arc5.2.2 hin6 (Has.at Hc5 hin6 rfl) (g := (mkF m 27 #[.val (.ref oo), .val (.int (0 : Int32)), .val (.int (2 : Int32)), .val (.int ky), .val (.int (1 : Int32)), .val (.int (1 : Int32)), .val (.int (1 : Int32)), .val (.int k0)] [(.int (1 : Int32)), (.ref oo)])) rfl rfl (hb hby d6_27) _ ?_
      refine XS.istore X0.here hx rfl (hb hby d6_28) rfl (l' := #[.val (.ref oo), .val (.int (0 : Int32)), .val (.int (2 : Int32)), .val (.int ky), .val (.int (1 : Int32)), .val (.int (1 : Int32)), .val (.int (1 : Int32)), .val (.int k1)]) rfl ?_
      refine XS.iload X0.here hx rfl (hb hby d6_30) rfl ?_
      refine XS.iloadN X0.here hx rfl (hb hby d6_32) rfl ?_
      exact k)
    by_cases hc8 : k1 < ky
    · have pre9 := fun (t : State) (k : Steps p.tables e below (s₁.setTop (mkF m 71 #[.val (.ref oo), .val (.int (0 : Int32)), .val (.int (2 : Int32)), .val (.int ky), .val (.int (2 : Int32)), .val (.int (1 : Int32)), .val (.int (1 : Int32)), .val (.int k1)] [(.int (-3 : Int32))])) t) => pre7 t (by
        refine XS.icmpNo X0.here hx rfl (hb hby d6_33) rfl (tlt hc8).2.1 ?_
        refine XS.iload X0.here hx rfl (hb hby d6_36) rfl ?_
        refine XS.iconst X0.here hx rfl (hb hby d6_38) ?_
        refine XS.iadd X0.here hx rfl (hb hby d6_39) rfl ?_
        refine XS.istore X0.here hx rfl (hb hby d6_40) rfl (l' := #[.val (.ref oo), .val (.int (0 : Int32)), .val (.int (2 : Int32)), .val (.int ky), .val (.int (2 : Int32)), .val (.int (1 : Int32)), .val (.int (1 : Int32)), .val (.int k1)]) rfl ?_
        refine XS.goto X0.here hx rfl (pc0 := 42) (pc' := 63) rfl (hb hby d6_42) (by decide) (by decide) ?_
        refine XS.goto X0.here hx rfl (pc0 := 63) (pc' := 8) rfl (hb hby d6_63) (by decide) (by decide) ?_
        refine XS.iload X0.here hx rfl (hb hby d6_8) rfl ?_
        refine XS.iload X0.here hx rfl (hb hby d6_10) rfl ?_
        refine XS.icmpYes X0.here hx rfl (pc0 := 12) (pc' := 66) rfl (hb hby d6_12) rfl (tlt (by decide : (1 : Int32) < (2 : Int32))).2.2.1 (by decide) (by decide) ?_
        refine XS.iload X0.here hx rfl (hb hby d6_66) rfl ?_
        refine XS.iconst X0.here hx rfl (hb hby d6_68) ?_
        refine XS.iadd X0.here hx rfl (hb hby d6_69) rfl ?_
        refine XS.ineg X0.here hx rfl (hb hby d6_70) rfl ?_
        exact k)
      obtain ⟨fs, hr, hrun, hended, hW, hsame⟩ := X0.leave (v := some (.int (-3 : Int32))) (hlocks := BodyLoose.notSynchronized Bd) (fun h => by rw [Bd.returns] at h; cases h)
      refine ⟨_, _, pre9 _ ?_, hrun, hended, _, _, rfl, ?_, ⟨_, rfl⟩, hW, hsame.mono (by decide) (by decide)⟩
      · exact retI X0 hx Bd.returns (hb hby d6_71) hr
      · show Q_bz2_3 Z oo ko k0 k1 g2 ky h0 n0 _ s₁.heap _
        rw [e0]
        exact ⟨(-3 : Int32), rfl, N0, rfl, (Or.inl ⟨rfl, hc4, hc8⟩)⟩
    · have pre10 := fun (t : State) (k : Steps p.tables e below (s₁.setTop (mkF m 48 #[.val (.ref oo), .val (.int (0 : Int32)), .val (.int (2 : Int32)), .val (.int ky), .val (.int (1 : Int32)), .val (.int (1 : Int32)), .val (.int (1 : Int32)), .val (.int k1)] [(.int ky), (.int k1)])) t) => pre7 t (by
        refine XS.icmpYes X0.here hx rfl (pc0 := 33) (pc' := 45) rfl (hb hby d6_33) rfl (flt hc8).2.1 (by decide) (by decide) ?_
        refine XS.iload X0.here hx rfl (hb hby d6_45) rfl ?_
        refine XS.iloadN X0.here hx rfl (hb hby d6_47) rfl ?_
        exact k)
      by_cases hc11 : ky < k1
      · have pre12 := fun (t : State) (k : Steps p.tables e below (s₁.setTop (mkF m 71 #[.val (.ref oo), .val (.int (0 : Int32)), .val (.int (2 : Int32)), .val (.int ky), .val (.int (1 : Int32)), .val (.int (0 : Int32)), .val (.int (1 : Int32)), .val (.int k1)] [(.int (-2 : Int32))])) t) => pre10 t (by
          refine XS.icmpNo X0.here hx rfl (hb hby d6_48) rfl (tlt hc11).2.2.2 ?_
          refine XS.iload X0.here hx rfl (hb hby d6_51) rfl ?_
          refine XS.iconst X0.here hx rfl (hb hby d6_53) ?_
          refine XS.isub X0.here hx rfl (hb hby d6_54) rfl ?_
          refine XS.istore X0.here hx rfl (hb hby d6_55) rfl (l' := #[.val (.ref oo), .val (.int (0 : Int32)), .val (.int (2 : Int32)), .val (.int ky), .val (.int (1 : Int32)), .val (.int (0 : Int32)), .val (.int (1 : Int32)), .val (.int k1)]) rfl ?_
          refine XS.goto X0.here hx rfl (pc0 := 57) (pc' := 63) rfl (hb hby d6_57) (by decide) (by decide) ?_
          refine XS.goto X0.here hx rfl (pc0 := 63) (pc' := 8) rfl (hb hby d6_63) (by decide) (by decide) ?_
          refine XS.iload X0.here hx rfl (hb hby d6_8) rfl ?_
          refine XS.iload X0.here hx rfl (hb hby d6_10) rfl ?_
          refine XS.icmpYes X0.here hx rfl (pc0 := 12) (pc' := 66) rfl (hb hby d6_12) rfl (tlt (by decide : (0 : Int32) < (1 : Int32))).2.2.1 (by decide) (by decide) ?_
          refine XS.iload X0.here hx rfl (hb hby d6_66) rfl ?_
          refine XS.iconst X0.here hx rfl (hb hby d6_68) ?_
          refine XS.iadd X0.here hx rfl (hb hby d6_69) rfl ?_
          refine XS.ineg X0.here hx rfl (hb hby d6_70) rfl ?_
          exact k)
        obtain ⟨fs, hr, hrun, hended, hW, hsame⟩ := X0.leave (v := some (.int (-2 : Int32))) (hlocks := BodyLoose.notSynchronized Bd) (fun h => by rw [Bd.returns] at h; cases h)
        refine ⟨_, _, pre12 _ ?_, hrun, hended, _, _, rfl, ?_, ⟨_, rfl⟩, hW, hsame.mono (by decide) (by decide)⟩
        · exact retI X0 hx Bd.returns (hb hby d6_71) hr
        · show Q_bz2_3 Z oo ko k0 k1 g2 ky h0 n0 _ s₁.heap _
          rw [e0]
          exact ⟨(-2 : Int32), rfl, N0, rfl, (Or.inr (Or.inl ⟨rfl, hc4, hc8, hc11⟩))⟩
      · have pre13 := fun (t : State) (k : Steps p.tables e below (s₁.setTop (mkF m 62 #[.val (.ref oo), .val (.int (0 : Int32)), .val (.int (2 : Int32)), .val (.int ky), .val (.int (1 : Int32)), .val (.int (1 : Int32)), .val (.int (1 : Int32)), .val (.int k1)] [(.int (1 : Int32))])) t) => pre10 t (by
          refine XS.icmpYes X0.here hx rfl (pc0 := 48) (pc' := 60) rfl (hb hby d6_48) rfl (flt hc11).2.2.2 (by decide) (by decide) ?_
          refine XS.iload X0.here hx rfl (hb hby d6_60) rfl ?_
          exact k)
        obtain ⟨fs, hr, hrun, hended, hW, hsame⟩ := X0.leave (v := some (.int (1 : Int32))) (hlocks := BodyLoose.notSynchronized Bd) (fun h => by rw [Bd.returns] at h; cases h)
        refine ⟨_, _, pre13 _ ?_, hrun, hended, _, _, rfl, ?_, ⟨_, rfl⟩, hW, hsame.mono (by decide) (by decide)⟩
        · exact retI X0 hx Bd.returns (hb hby d6_62) hr
        · show Q_bz2_3 Z oo ko k0 k1 g2 ky h0 n0 _ s₁.heap _
          rw [e0]
          exact ⟨(1 : Int32), rfl, N0, rfl, (Or.inr (Or.inr (Or.inl ⟨rfl, hc4, hc8, hc11⟩)))⟩
  · have pre14 := fun (t : State) (k : Steps p.tables e below (s₁.setTop (mkF m 48 #[.val (.ref oo), .val (.int (0 : Int32)), .val (.int (2 : Int32)), .val (.int ky), .val (.int (0 : Int32)), .val (.int (1 : Int32)), .val (.int (0 : Int32)), .val (.int k0)] [(.int ky), (.int k0)])) t) => pre3 t (by
      refine XS.icmpYes X0.here hx rfl (pc0 := 33) (pc' := 45) rfl (hb hby d6_33) rfl (flt hc4).2.1 (by decide) (by decide) ?_
      refine XS.iload X0.here hx rfl (hb hby d6_45) rfl ?_
      refine XS.iloadN X0.here hx rfl (hb hby d6_47) rfl ?_
      exact k)
    by_cases hc15 : ky < k0
    · have pre16 := fun (t : State) (k : Steps p.tables e below (s₁.setTop (mkF m 71 #[.val (.ref oo), .val (.int (0 : Int32)), .val (.int (2 : Int32)), .val (.int ky), .val (.int (0 : Int32)), .val (.int (-1 : Int32)), .val (.int (0 : Int32)), .val (.int k0)] [(.int (-1 : Int32))])) t) => pre14 t (by
        refine XS.icmpNo X0.here hx rfl (hb hby d6_48) rfl (tlt hc15).2.2.2 ?_
        refine XS.iload X0.here hx rfl (hb hby d6_51) rfl ?_
        refine XS.iconst X0.here hx rfl (hb hby d6_53) ?_
        refine XS.isub X0.here hx rfl (hb hby d6_54) rfl ?_
        refine XS.istore X0.here hx rfl (hb hby d6_55) rfl (l' := #[.val (.ref oo), .val (.int (0 : Int32)), .val (.int (2 : Int32)), .val (.int ky), .val (.int (0 : Int32)), .val (.int (-1 : Int32)), .val (.int (0 : Int32)), .val (.int k0)]) rfl ?_
        refine XS.goto X0.here hx rfl (pc0 := 57) (pc' := 63) rfl (hb hby d6_57) (by decide) (by decide) ?_
        refine XS.goto X0.here hx rfl (pc0 := 63) (pc' := 8) rfl (hb hby d6_63) (by decide) (by decide) ?_
        refine XS.iload X0.here hx rfl (hb hby d6_8) rfl ?_
        refine XS.iload X0.here hx rfl (hb hby d6_10) rfl ?_
        refine XS.icmpYes X0.here hx rfl (pc0 := 12) (pc' := 66) rfl (hb hby d6_12) rfl (tlt (by decide : (-1 : Int32) < (0 : Int32))).2.2.1 (by decide) (by decide) ?_
        refine XS.iload X0.here hx rfl (hb hby d6_66) rfl ?_
        refine XS.iconst X0.here hx rfl (hb hby d6_68) ?_
        refine XS.iadd X0.here hx rfl (hb hby d6_69) rfl ?_
        refine XS.ineg X0.here hx rfl (hb hby d6_70) rfl ?_
        exact k)
      obtain ⟨fs, hr, hrun, hended, hW, hsame⟩ := X0.leave (v := some (.int (-1 : Int32))) (hlocks := BodyLoose.notSynchronized Bd) (fun h => by rw [Bd.returns] at h; cases h)
      refine ⟨_, _, pre16 _ ?_, hrun, hended, _, _, rfl, ?_, ⟨_, rfl⟩, hW, hsame.mono (by decide) (by decide)⟩
      · exact retI X0 hx Bd.returns (hb hby d6_71) hr
      · show Q_bz2_3 Z oo ko k0 k1 g2 ky h0 n0 _ s₁.heap _
        rw [e0]
        exact ⟨(-1 : Int32), rfl, N0, rfl, (Or.inr (Or.inr (Or.inr (Or.inl ⟨rfl, hc4, hc15⟩))))⟩
    · have pre17 := fun (t : State) (k : Steps p.tables e below (s₁.setTop (mkF m 62 #[.val (.ref oo), .val (.int (0 : Int32)), .val (.int (2 : Int32)), .val (.int ky), .val (.int (0 : Int32)), .val (.int (1 : Int32)), .val (.int (0 : Int32)), .val (.int k0)] [(.int (0 : Int32))])) t) => pre14 t (by
        refine XS.icmpYes X0.here hx rfl (pc0 := 48) (pc' := 60) rfl (hb hby d6_48) rfl (flt hc15).2.2.2 (by decide) (by decide) ?_
        refine XS.iload X0.here hx rfl (hb hby d6_60) rfl ?_
        exact k)
      obtain ⟨fs, hr, hrun, hended, hW, hsame⟩ := X0.leave (v := some (.int (0 : Int32))) (hlocks := BodyLoose.notSynchronized Bd) (fun h => by rw [Bd.returns] at h; cases h)
      refine ⟨_, _, pre17 _ ?_, hrun, hended, _, _, rfl, ?_, ⟨_, rfl⟩, hW, hsame.mono (by decide) (by decide)⟩
      · exact retI X0 hx Bd.returns (hb hby d6_62) hr
      · show Q_bz2_3 Z oo ko k0 k1 g2 ky h0 n0 _ s₁.heap _
        rw [e0]
        exact ⟨(0 : Int32), rfl, N0, rfl, (Or.inr (Or.inr (Or.inr (Or.inr ⟨rfl, hc4, hc15⟩))))⟩

theorem ef_bs2_3 (m : MethodId) (x0 : Addr) (x1 : Int32) (x2 : Int32) (x3 : Int32) : entryFrame m #[(.ref x0), (.int x1), (.int x2), (.int x3)] 4 = mkF m 0 #[.val (.ref x0), .val (.int x1), .val (.int x2), .val (.int x3)] [] := by first | (simp [entryFrame, mkF, argsToLocals, Value.category]; done) | rfl
def Q_bs2_3 (Z : State) (oo : Addr) (ko : ClassId) (k0 : Int32) (k1 : Int32) (g2 : Int32) (ky : Int32) (h0 : Heap) (n0 : Nat) (v : Option Value) (h : Heap) (L : List Loc) : Prop := ∃ r : Int32, v = some (.int r) ∧ Fr n0 L ∧ h = h0 ∧ ((r = (-3 : Int32) ∧ k0 < ky ∧ k1 < ky) ∨ (r = (-2 : Int32) ∧ k0 < ky ∧ ¬ (k1 < ky) ∧ ky < k1) ∨ (r = (1 : Int32) ∧ k0 < ky ∧ ¬ (k1 < ky) ∧ ¬ (ky < k1)) ∨ (r = (-1 : Int32) ∧ ¬ (k0 < ky) ∧ ky < k0) ∨ (r = (0 : Int32) ∧ ¬ (k0 < ky) ∧ ¬ (ky < k0)))
set_option maxRecDepth 65536 in
set_option maxHeartbeats 40000000 in
theorem rm_bs2_3 (l : Launch) (Z : State) (a0 : Array Value) (hw : ∀ d ∈ tables_1, d.before a0 Z = true) (ws : List Jvm.Cond) (oo : Addr) (ko : ClassId) (k0 : Int32) (k1 : Int32) (g2 : Int32) (ky : Int32) (h0 : Heap) (n0 : Nat) (Z0 : n0 ≤ h0.size) (H0_A : Arv Z h0 oo ko .int (3 : Int32) [(.int k0), (.int k1), (.int g2)] (.int (0 : Int32))) :
    MetFree l (⟨"java/util/Arrays", "binarySearch", "([IIII)I"⟩ : MethodName) (head1 (Jvm.Cond.code (⟨"java/util/Arrays", "binarySearch", "([IIII)I"⟩ : MethodName) jdk_65_method_58_code 4 (some .int) :: ws) ({ frames := 1, cells := 0, slots := 0, locals := 19 } : Room)) (fun as_ U_ => as_ = #[(.ref oo), (.int (0 : Int32)), (.int (2 : Int32)), (.int ky)] ∧ Z.Warmed39 U_.vm ∧ U_.heap = h0) (fun _ _ _ _ _ => True) (fun _ U o U' => ∃ v L, o = .returned v ∧ Q_bs2_3 Z oo ko k0 k1 g2 ky h0 n0 v U'.heap L ∧ FrameEnd U o U' L ({ frames := 1, cells := 0, slots := 0, locals := 19 } : Room).cells ({ frames := 1, cells := 0, slots := 0, locals := 19 } : Room).slots) := by
  refine MetFree.of_bodySF (plainFor_of_name pn_0) hisR ?_
  intro p e s m args below meth c s₁ Bd hml0 hP hK
  obtain ⟨rfl, hZ, hhp_⟩ := hP
  have hx := Bd.exec
  have hby := Bd.bytes
  have hml : c.maxLocals = 4 := hml0
  have hown : s.vm.findClass "java/util/Arrays" = some m.cls := findClass_of_methodNamed Bd.named
  have hnm := (name_of_methodNamed Bd.named Bd.method).1
  have X0 : Stand p l e ({ frames := 1, cells := 0, slots := 0, locals := 19 } : Room) s m #[(.ref oo), (.int (0 : Int32)), (.int (2 : Int32)), (.int ky)] below meth c s₁ [] 0 0 := Stand.of_body Bd
  have e0 : s₁.heap = h0 := by rw [← hhp_, Bd.state]; rfl
  have N0 := Fr.nil n0
  have pre0 : ∀ t, Steps p.tables e below (s₁.setTop (mkF m 0 #[.val (.ref oo), .val (.int (0 : Int32)), .val (.int (2 : Int32)), .val (.int ky)] [])) t → Steps p.tables e below (s₁.setTop (entryFrame m #[(.ref oo), (.int (0 : Int32)), (.int (2 : Int32)), (.int ky)] 4)) t := fun t k => castTop (ef_bs2_3 m oo (0 : Int32) (2 : Int32) ky) k
  have oc1 := H0_A
  obtain ⟨c1, Arc1, qc1, Sc1, Nc1, Hc1, Gc1⟩ := oc1
  obtain ⟨_, _, ⟨T2, L2, k2, n2⟩, -, X2, ⟨Lc2, hQ2, l2, y2, z2⟩, st2⟩ := Jvm.LawKit.callS X0 hx (y := (⟨"java/util/Arrays", "rangeCheck", "(III)V"⟩ : MethodName)) hown (mvT hZ (own_w hw 29 rfl)) (mvT hZ (own_w hw 30 rfl)) (mvT hZ (own_w hw 27 rfl)) (mvT hZ (own_w hw 31 rfl)) (by decide) (backOf (W := 0) (rm_rc l Z a0 hw [] (3 : Int32) (0 : Int32) (2 : Int32) h0 n0 Z0 (by decide) (by decide) (by decide)) hZ (own_w hw 31 rfl) (own_w hw 27 rfl) (by decide) (by decide)) (g := (mkF m 4 #[.val (.ref oo), .val (.int (0 : Int32)), .val (.int (2 : Int32)), .val (.int ky)] [(.int (2 : Int32)), (.int (0 : Int32)), (.int (3 : Int32))])) rfl (by rw [hml]; rfl) (argsL := [(.int (3 : Int32)), (.int (0 : Int32)), (.int (2 : Int32))]) (rest := []) (lenOf pd_0 rfl) rfl (by show 2 * 0 + _ ≤ _; exact Nat.le_of_eq rfl) (hb hby d4_4) (fun _ _ => ⟨rfl, e0, (by decide : 0 + 0 ≤ _), (by decide : 0 + 0 ≤ _)⟩)
  dsimp only [Pt.U, Pt.locs, Pt.cells, Pt.slots] at X2 l2 y2 z2 st2 hQ2
  subst l2 y2 z2
  obtain ⟨rfl, N2q, hq3⟩ := hQ2
  have N2 := Fr.app N0 N2q
  obtain ⟨_, _, ⟨T4, L4, k4, n4⟩, -, X4, ⟨Lc4, hQ4, l4, y4, z4⟩, st4⟩ := Jvm.LawKit.callS X2 hx (y := (⟨"java/util/Arrays", "binarySearch0", "([IIII)I"⟩ : MethodName)) hown (mvT hZ (own_w hw 32 rfl)) (mvT hZ (own_w hw 33 rfl)) (mvT hZ (own_w hw 27 rfl)) (mvT hZ (own_w hw 34 rfl)) (by decide) (backOf (W := 0) (rm_bz2_3 l Z a0 hw [] oo ko k0 k1 g2 ky h0 n0 Z0 H0_A) hZ (own_w hw 34 rfl) (own_w hw 27 rfl) (by decide) (by decide)) (g := (mkF m 11 #[.val (.ref oo), .val (.int (0 : Int32)), .val (.int (2 : Int32)), .val (.int ky)] [(.int ky), (.int (2 : Int32)), (.int (0 : Int32)), (.ref oo)])) rfl (by rw [hml]; rfl) (argsL := [(.ref oo), (.int (0 : Int32)), (.int (2 : Int32)), (.int ky)]) (rest := []) (lenOf pd_1 rfl) rfl (by show 2 * 0 + _ ≤ _; exact Nat.le_of_eq rfl) (hb hby d4_11) (fun _ _ => ⟨rfl, hq3, (by decide : 0 + 0 ≤ _), (by decide : 0 + 0 ≤ _)⟩)
  dsimp only [Pt.U, Pt.locs, Pt.cells, Pt.slots] at X4 l4 y4 z4 st4 hQ4
  subst l4 y4 z4
  obtain ⟨x5, rfl, N4q, hq6, hpq7⟩ := hQ4
  have N4 := Fr.app N2 N4q
  have pre8 := fun (t : State) (k : Steps p.tables e below (T4.setTop (mkF m 14 #[.val (.ref oo), .val (.int (0 : Int32)), .val (.int (2 : Int32)), .val (.int ky)] [(.int x5)])) t) => pre0 t (by
    refine XS.aloadN X0.here hx rfl (hb hby d4_0) rfl rfl ?_
    refine X0.arraylength hx (by rw [e0]; exact Arc1.1) (State.isArrayOf_alike hZ.alike Arc1.2.1) (g := (mkF m 1 #[.val (.ref oo), .val (.int (0 : Int32)), .val (.int (2 : Int32)), .val (.int ky)] [(.ref oo)])) rfl rfl (hb hby d4_1) _ ?_
    rw [show c1.slots.size.toInt32 = (3 : Int32) from (len_of Sc1 Nc1)]
    refine XS.iloadN X0.here hx rfl (hb hby d4_2) rfl ?_
    refine XS.iloadN X0.here hx rfl (hb hby d4_3) rfl ?_
    refine st2 _ ?_
    refine XS.aloadN X2.here hx rfl (hb hby d4_7) rfl rfl ?_
    refine XS.iloadN X2.here hx rfl (hb hby d4_8) rfl ?_
    refine XS.iloadN X2.here hx rfl (hb hby d4_9) rfl ?_
    refine XS.iloadN X2.here hx rfl (hb hby d4_10) rfl ?_
    refine st4 _ ?_
    exact k)
  obtain ⟨fs, hr, hrun, hended, hW, hsame⟩ := X4.leave (v := some (.int x5)) (hlocks := BodyLoose.notSynchronized Bd) (fun h => by rw [Bd.returns] at h; cases h)
  refine ⟨_, _, pre8 _ ?_, hrun, hended, _, _, rfl, ?_, ⟨_, rfl⟩, hW, hsame.mono (by decide) (by decide)⟩
  · exact retI X4 hx Bd.returns (hb hby d4_14) hr
  · show Q_bs2_3 Z oo ko k0 k1 g2 ky h0 n0 _ T4.heap _
    rw [hq6]
    exact ⟨x5, rfl, N4, rfl, hpq7⟩

theorem ef_cpI0_1 (m : MethodId) (x0 : Addr) (x1 : Int32) : entryFrame m #[(.ref x0), (.int x1)] 3 = mkF m 0 #[.val (.ref x0), .val (.int x1), .unset] [] := by first | (simp [entryFrame, mkF, argsToLocals, Value.category]; done) | rfl
def Q_cpI0_1 (Z : State) (oo : Addr) (ko : ClassId) (h0 : Heap) (n0 : Nat) (v : Option Value) (h : Heap) (L : List Loc) : Prop := ∃ xx : Addr, ∃ kx : ClassId, v = some (.ref xx) ∧ Fr n0 L ∧ Keep h0 h [] ∧ n0 ≤ xx ∧ h0.size ≤ xx ∧ Arv Z h xx kx .int (1 : Int32) [(.int (0 : Int32))] (.int (0 : Int32)) ∧ Exa Z h xx "[I"
set_option maxRecDepth 65536 in
set_option maxHeartbeats 40000000 in
theorem rm_cpI0_1 (l : Launch) (Z : State) (a0 : Array Value) (hw : ∀ d ∈ tables_1, d.before a0 Z = true) (ws : List Jvm.Cond) (oo : Addr) (ko : ClassId) (h0 : Heap) (n0 : Nat) (Z0 : n0 ≤ h0.size) (H0_A : Arv Z h0 oo ko .int (0 : Int32) [] (.int (0 : Int32))) :
    MetFree l (⟨"java/util/Arrays", "copyOf", "([II)[I"⟩ : MethodName) (head1 (Jvm.Cond.code (⟨"java/util/Arrays", "copyOf", "([II)[I"⟩ : MethodName) jdk_65_method_123_code 3 (some (.array .int)) :: ws) ({ frames := 1, cells := 1, slots := 1, locals := 18 } : Room)) (fun as_ U_ => as_ = #[(.ref oo), (.int (1 : Int32))] ∧ Z.Warmed39 U_.vm ∧ U_.heap = h0) (fun _ _ _ _ _ => True) (fun _ U o U' => ∃ v L, o = .returned v ∧ Q_cpI0_1 Z oo ko h0 n0 v U'.heap L ∧ FrameEnd U o U' L ({ frames := 1, cells := 1, slots := 1, locals := 18 } : Room).cells ({ frames := 1, cells := 1, slots := 1, locals := 18 } : Room).slots) := by
  refine MetFree.of_bodySF (plainFor_of_name pn_0) hisR ?_
  intro p e s m args below meth c s₁ Bd hml0 hP hK
  obtain ⟨rfl, hZ, hhp_⟩ := hP
  have hx := Bd.exec
  have hby := Bd.bytes
  have hml : c.maxLocals = 3 := hml0
  have hown : s.vm.findClass "java/util/Arrays" = some m.cls := findClass_of_methodNamed Bd.named
  have hnm := (name_of_methodNamed Bd.named Bd.method).1
  have X0 : Stand p l e ({ frames := 1, cells := 1, slots := 1, locals := 18 } : Room) s m #[(.ref oo), (.int (1 : Int32))] below meth c s₁ [] 0 0 := Stand.of_body Bd
  have e0 : s₁.heap = h0 := by rw [← hhp_, Bd.state]; rfl
  have N0 := Fr.nil n0
  have pre0 : ∀ t, Steps p.tables e below (s₁.setTop (mkF m 0 #[.val (.ref oo), .val (.int (1 : Int32)), .unset] [])) t → Steps p.tables e below (s₁.setTop (entryFrame m #[(.ref oo), (.int (1 : Int32))] 3)) t := fun t k => castTop (ef_cpI0_1 m oo (1 : Int32)) k
  have K0 : Keep h0 h0 [] := Keep.refl h0 []
  have oc1 := H0_A
  obtain ⟨c1, Arc1, qc1, Sc1, Nc1, Hc1, Gc1⟩ := oc1
  obtain ⟨T2, h2, k2, X2, e2, E2, A2, Ea2, st2⟩ := newPE X0 hx hZ (own_w hw 44 rfl) e0 (g := (mkF m 15 #[.val (.ref oo), .val (.int (1 : Int32)), .unset] [(.int (1 : Int32))])) rfl (hb hby d8_15) rfl (by decide) (cap := 1) (by decide) (by decide) (by decide) (by decide) (ad := "[I") own_nm_int
  obtain ⟨b2, g2⟩ : ∃ z, z = h0.size := ⟨_, rfl⟩
  have ne_oo_b2 : oo ≠ b2 := Nat.ne_of_lt (Nat.lt_of_lt_of_le H0_A.lt (Nat.le_of_eq g2.symm))
  have ge_b2 : n0 ≤ b2 := Nat.le_trans Z0 (Nat.le_of_eq g2.symm)
  have sz_b2 : h0.size ≤ b2 := Nat.le_trans K0.1 (Nat.le_of_eq g2.symm)
  rw [← g2] at A2 Ea2 st2
  have A3 := H0_A.ext E2
  have K2 : Keep h0 h2 [] := K0.ext E2
  have Zs4 : n0 ≤ h2.size := (Nat.le_trans Z0 E2.1)
  have V2 : Arv Z h2 b2 k2 .int (1 : Int32) [(.int (0 : Int32))] (.int (0 : Int32)) := (Arv.new A2 (by decide)).pad (pad_rep [] (.int (0 : Int32)) 1)
  have oc5 := A3
  obtain ⟨c5, Arc5, qc5, Sc5, Nc5, Hc5, Gc5⟩ := oc5
  obtain ⟨_, _, ⟨T6, L6, k6, n6⟩, -, X6, ⟨Lc6, hQ6, l6, y6, z6⟩, st6⟩ := Jvm.LawKit.callS X2 hx (y := (⟨"java/lang/Math", "min", "(II)I"⟩ : MethodName)) hown (mvT hZ (own_w hw 45 rfl)) (mvT hZ (own_w hw 46 rfl)) (mvT hZ (own_w hw 47 rfl)) (mvT hZ (own_w hw 48 rfl)) (by decide) (backOf (W := 4) (rm_mi l Z a0 hw [] (0 : Int32) (1 : Int32) (0 : Int32) h2 n0 Zs4 (by decide) (by decide)) hZ (own_w hw 48 rfl) (own_w hw 47 rfl) (by decide) (by decide)) (g := (mkF m 25 #[.val (.ref oo), .val (.int (1 : Int32)), .val (.ref b2)] [(.int (1 : Int32)), (.int (0 : Int32)), (.int (0 : Int32)), (.ref b2), (.int (0 : Int32)), (.ref oo)])) rfl (by rw [hml]; rfl) (argsL := [(.int (0 : Int32)), (.int (1 : Int32))]) (rest := [(.int (0 : Int32)), (.ref b2), (.int (0 : Int32)), (.ref oo)]) (lenOf pd_2 rfl) rfl (by show 2 * 0 + _ ≤ _; exact Nat.le_of_eq rfl) (hb hby d8_25) (fun _ _ => ⟨rfl, e2, (by decide : 1 + 0 ≤ _), (by decide : 1 + 0 ≤ _)⟩)
  dsimp only [Pt.U, Pt.locs, Pt.cells, Pt.slots] at X6 l6 y6 z6 st6 hQ6
  subst l6 y6 z6
  obtain ⟨rfl, N6q, hq7⟩ := hQ6
  have N6 := Fr.app N0 N6q
  obtain ⟨T8, h8, L8, X8, e8, N8, K8q, A8, st8⟩ := cpA X6 hx hZ hown (own_w hw 49 rfl) (own_w hw 52 rfl) (own_w hw 50 rfl) (own_w hw 51 rfl) hq7 A3 V2 (Or.inl ⟨rfl, rfl⟩) (by decide) (by decide) (by decide) (by decide) (by decide) (us := []) rfl (Nat.le_of_ble_eq_true rfl) N6 ge_b2 (g := (mkF m 28 #[.val (.ref oo), .val (.int (1 : Int32)), .val (.ref b2)] [(.int (0 : Int32)), (.int (0 : Int32)), (.ref b2), (.int (0 : Int32)), (.ref oo)])) rfl (by rw [hml]; rfl) rfl (hb hby d8_28) (by decide) (W := 0) (by show 2 * 0 + _ ≤ _; exact Nat.le_of_eq rfl) (by decide)
  have V8 : Arv Z h8 b2 k2 .int (1 : Int32) [(.int (0 : Int32))] (.int (0 : Int32)) := A8
  have A9 := A3.keep K8q (ninS ne_oo_b2 nin0)
  have E10 := Ea2.keep K8q
  have K8 : Keep h0 h8 [] := K2.trans K8q (allS (Or.inr sz_b2) all0)
  have Zs11 : n0 ≤ h8.size := (Nat.le_trans Zs4 K8q.1)
  have pre12 := fun (t : State) (k : Steps p.tables e below (T8.setTop (mkF m 32 #[.val (.ref oo), .val (.int (1 : Int32)), .val (.ref b2)] [(.ref b2)])) t) => pre0 t (by
    refine XS.iloadN X0.here hx rfl (hb hby d8_0) rfl ?_
    refine XS.aloadN X0.here hx rfl (hb hby d8_1) rfl rfl ?_
    refine X0.arraylength hx (by rw [e0]; exact Arc1.1) (State.isArrayOf_alike hZ.alike Arc1.2.1) (g := (mkF m 2 #[.val (.ref oo), .val (.int (1 : Int32)), .unset] [(.ref oo), (.int (1 : Int32))])) rfl rfl (hb hby d8_2) _ ?_
    rw [show c1.slots.size.toInt32 = (0 : Int32) from (len_of Sc1 Nc1)]
    refine XS.icmpYes X0.here hx rfl (pc0 := 3) (pc' := 14) rfl (hb hby d8_3) rfl (feq (by decide : ¬ ((1 : Int32) = (0 : Int32)))).2 (by decide) (by decide) ?_
    refine XS.iloadN X0.here hx rfl (hb hby d8_14) rfl ?_
    refine st2 _ ?_
    refine XS.astoreN X2.here hx rfl (hb hby d8_17) rfl rfl (l' := #[.val (.ref oo), .val (.int (1 : Int32)), .val (.ref b2)]) rfl ?_
    refine XS.aloadN X2.here hx rfl (hb hby d8_18) rfl rfl ?_
    refine XS.iconst X2.here hx rfl (hb hby d8_19) ?_
    refine XS.aloadN X2.here hx rfl (hb hby d8_20) rfl rfl ?_
    refine XS.iconst X2.here hx rfl (hb hby d8_21) ?_
    refine XS.aloadN X2.here hx rfl (hb hby d8_22) rfl rfl ?_
    refine X2.arraylength hx (by rw [e2]; exact Arc5.1) (State.isArrayOf_alike hZ.alike Arc5.2.1) (g := (mkF m 23 #[.val (.ref oo), .val (.int (1 : Int32)), .val (.ref b2)] [(.ref oo), (.int (0 : Int32)), (.ref b2), (.int (0 : Int32)), (.ref oo)])) rfl rfl (hb hby d8_23) _ ?_
    rw [show c5.slots.size.toInt32 = (0 : Int32) from (len_of Sc5 Nc5)]
    refine XS.iloadN X2.here hx rfl (hb hby d8_24) rfl ?_
    refine st6 _ ?_
    refine st8 _ ?_
    refine XS.aloadN X8.here hx rfl (hb hby d8_31) rfl rfl ?_
    exact k)
  obtain ⟨fs, hr, hrun, hended, hW, hsame⟩ := X8.leave (v := some (.ref b2)) (hlocks := BodyLoose.notSynchronized Bd) (fun h => by rw [Bd.returns] at h; cases h)
  refine ⟨_, _, pre12 _ ?_, hrun, hended, _, _, rfl, ?_, ⟨_, rfl⟩, hW, hsame.mono (by decide) (by decide)⟩
  · jvm_step X8.here [X8.here.top, hx, (hb hby d8_32), X8.method', Bd.returns, Value.isRef, FieldType.isReference]
    first | (intro acts; rw [hr _ acts rfl rfl rfl]) | rw [hr _ _ rfl rfl rfl]
    exact Steps.refl _
  · show Q_cpI0_1 Z oo ko h0 n0 _ T8.heap _
    rw [e8]
    exact ⟨b2, k2, rfl, N8, K8, ge_b2, sz_b2, V8, E10⟩

theorem ef_cpJ0_1 (m : MethodId) (x0 : Addr) (x1 : Int32) : entryFrame m #[(.ref x0), (.int x1)] 3 = mkF m 0 #[.val (.ref x0), .val (.int x1), .unset] [] := by first | (simp [entryFrame, mkF, argsToLocals, Value.category]; done) | rfl
def Q_cpJ0_1 (Z : State) (oo : Addr) (ko : ClassId) (h0 : Heap) (n0 : Nat) (v : Option Value) (h : Heap) (L : List Loc) : Prop := ∃ xx : Addr, ∃ kx : ClassId, v = some (.ref xx) ∧ Fr n0 L ∧ Keep h0 h [] ∧ n0 ≤ xx ∧ h0.size ≤ xx ∧ Arv Z h xx kx .long (1 : Int32) [(.long (0 : Int64))] (.long (0 : Int64)) ∧ Exa Z h xx "[J"
set_option maxRecDepth 65536 in
set_option maxHeartbeats 40000000 in
theorem rm_cpJ0_1 (l : Launch) (Z : State) (a0 : Array Value) (hw : ∀ d ∈ tables_1, d.before a0 Z = true) (ws : List Jvm.Cond) (oo : Addr) (ko : ClassId) (h0 : Heap) (n0 : Nat) (Z0 : n0 ≤ h0.size) (H0_A : Arv Z h0 oo ko .long (0 : Int32) [] (.long (0 : Int64))) :
    MetFree l (⟨"java/util/Arrays", "copyOf", "([JI)[J"⟩ : MethodName) (head1 (Jvm.Cond.code (⟨"java/util/Arrays", "copyOf", "([JI)[J"⟩ : MethodName) jdk_65_method_124_code 3 (some (.array .long)) :: ws) ({ frames := 1, cells := 1, slots := 1, locals := 18 } : Room)) (fun as_ U_ => as_ = #[(.ref oo), (.int (1 : Int32))] ∧ Z.Warmed39 U_.vm ∧ U_.heap = h0) (fun _ _ _ _ _ => True) (fun _ U o U' => ∃ v L, o = .returned v ∧ Q_cpJ0_1 Z oo ko h0 n0 v U'.heap L ∧ FrameEnd U o U' L ({ frames := 1, cells := 1, slots := 1, locals := 18 } : Room).cells ({ frames := 1, cells := 1, slots := 1, locals := 18 } : Room).slots) := by
  refine MetFree.of_bodySF (plainFor_of_name pn_0) hisR ?_
  intro p e s m args below meth c s₁ Bd hml0 hP hK
  obtain ⟨rfl, hZ, hhp_⟩ := hP
  have hx := Bd.exec
  have hby := Bd.bytes
  have hml : c.maxLocals = 3 := hml0
  have hown : s.vm.findClass "java/util/Arrays" = some m.cls := findClass_of_methodNamed Bd.named
  have hnm := (name_of_methodNamed Bd.named Bd.method).1
  have X0 : Stand p l e ({ frames := 1, cells := 1, slots := 1, locals := 18 } : Room) s m #[(.ref oo), (.int (1 : Int32))] below meth c s₁ [] 0 0 := Stand.of_body Bd
  have e0 : s₁.heap = h0 := by rw [← hhp_, Bd.state]; rfl
  have N0 := Fr.nil n0
  have pre0 : ∀ t, Steps p.tables e below (s₁.setTop (mkF m 0 #[.val (.ref oo), .val (.int (1 : Int32)), .unset] [])) t → Steps p.tables e below (s₁.setTop (entryFrame m #[(.ref oo), (.int (1 : Int32))] 3)) t := fun t k => castTop (ef_cpJ0_1 m oo (1 : Int32)) k
  have K0 : Keep h0 h0 [] := Keep.refl h0 []
  have oc1 := H0_A
  obtain ⟨c1, Arc1, qc1, Sc1, Nc1, Hc1, Gc1⟩ := oc1
  obtain ⟨T2, h2, k2, X2, e2, E2, A2, Ea2, st2⟩ := newPE X0 hx hZ (own_w hw 56 rfl) e0 (g := (mkF m 15 #[.val (.ref oo), .val (.int (1 : Int32)), .unset] [(.int (1 : Int32))])) rfl (hb hby d10_15) rfl (by decide) (cap := 1) (by decide) (by decide) (by decide) (by decide) (ad := "[J") own_nm_long
  obtain ⟨b2, g2⟩ : ∃ z, z = h0.size := ⟨_, rfl⟩
  have ne_oo_b2 : oo ≠ b2 := Nat.ne_of_lt (Nat.lt_of_lt_of_le H0_A.lt (Nat.le_of_eq g2.symm))
  have ge_b2 : n0 ≤ b2 := Nat.le_trans Z0 (Nat.le_of_eq g2.symm)
  have sz_b2 : h0.size ≤ b2 := Nat.le_trans K0.1 (Nat.le_of_eq g2.symm)
  rw [← g2] at A2 Ea2 st2
  have A3 := H0_A.ext E2
  have K2 : Keep h0 h2 [] := K0.ext E2
  have Zs4 : n0 ≤ h2.size := (Nat.le_trans Z0 E2.1)
  have V2 : Arv Z h2 b2 k2 .long (1 : Int32) [(.long (0 : Int64))] (.long (0 : Int64)) := (Arv.new A2 (by decide)).pad (pad_rep [] (.long (0 : Int64)) 1)
  have oc5 := A3
  obtain ⟨c5, Arc5, qc5, Sc5, Nc5, Hc5, Gc5⟩ := oc5
  obtain ⟨_, _, ⟨T6, L6, k6, n6⟩, -, X6, ⟨Lc6, hQ6, l6, y6, z6⟩, st6⟩ := Jvm.LawKit.callS X2 hx (y := (⟨"java/lang/Math", "min", "(II)I"⟩ : MethodName)) hown (mvT hZ (own_w hw 45 rfl)) (mvT hZ (own_w hw 46 rfl)) (mvT hZ (own_w hw 47 rfl)) (mvT hZ (own_w hw 48 rfl)) (by decide) (backOf (W := 4) (rm_mi l Z a0 hw [] (0 : Int32) (1 : Int32) (0 : Int32) h2 n0 Zs4 (by decide) (by decide)) hZ (own_w hw 48 rfl) (own_w hw 47 rfl) (by decide) (by decide)) (g := (mkF m 25 #[.val (.ref oo), .val (.int (1 : Int32)), .val (.ref b2)] [(.int (1 : Int32)), (.int (0 : Int32)), (.int (0 : Int32)), (.ref b2), (.int (0 : Int32)), (.ref oo)])) rfl (by rw [hml]; rfl) (argsL := [(.int (0 : Int32)), (.int (1 : Int32))]) (rest := [(.int (0 : Int32)), (.ref b2), (.int (0 : Int32)), (.ref oo)]) (lenOf pd_2 rfl) rfl (by show 2 * 0 + _ ≤ _; exact Nat.le_of_eq rfl) (hb hby d10_25) (fun _ _ => ⟨rfl, e2, (by decide : 1 + 0 ≤ _), (by decide : 1 + 0 ≤ _)⟩)
  dsimp only [Pt.U, Pt.locs, Pt.cells, Pt.slots] at X6 l6 y6 z6 st6 hQ6
  subst l6 y6 z6
  obtain ⟨rfl, N6q, hq7⟩ := hQ6
  have N6 := Fr.app N0 N6q
  obtain ⟨T8, h8, L8, X8, e8, N8, K8q, A8, st8⟩ := cpA X6 hx hZ hown (own_w hw 49 rfl) (own_w hw 52 rfl) (own_w hw 50 rfl) (own_w hw 51 rfl) hq7 A3 V2 (Or.inl ⟨rfl, rfl⟩) (by decide) (by decide) (by decide) (by decide) (by decide) (us := []) rfl (Nat.le_of_ble_eq_true rfl) N6 ge_b2 (g := (mkF m 28 #[.val (.ref oo), .val (.int (1 : Int32)), .val (.ref b2)] [(.int (0 : Int32)), (.int (0 : Int32)), (.ref b2), (.int (0 : Int32)), (.ref oo)])) rfl (by rw [hml]; rfl) rfl (hb hby d10_28) (by decide) (W := 0) (by show 2 * 0 + _ ≤ _; exact Nat.le_of_eq rfl) (by decide)
  have V8 : Arv Z h8 b2 k2 .long (1 : Int32) [(.long (0 : Int64))] (.long (0 : Int64)) := A8
  have A9 := A3.keep K8q (ninS ne_oo_b2 nin0)
  have E10 := Ea2.keep K8q
  have K8 : Keep h0 h8 [] := K2.trans K8q (allS (Or.inr sz_b2) all0)
  have Zs11 : n0 ≤ h8.size := (Nat.le_trans Zs4 K8q.1)
  have pre12 := fun (t : State) (k : Steps p.tables e below (T8.setTop (mkF m 32 #[.val (.ref oo), .val (.int (1 : Int32)), .val (.ref b2)] [(.ref b2)])) t) => pre0 t (by
    refine XS.iloadN X0.here hx rfl (hb hby d10_0) rfl ?_
    refine XS.aloadN X0.here hx rfl (hb hby d10_1) rfl rfl ?_
    refine X0.arraylength hx (by rw [e0]; exact Arc1.1) (State.isArrayOf_alike hZ.alike Arc1.2.1) (g := (mkF m 2 #[.val (.ref oo), .val (.int (1 : Int32)), .unset] [(.ref oo), (.int (1 : Int32))])) rfl rfl (hb hby d10_2) _ ?_
    rw [show c1.slots.size.toInt32 = (0 : Int32) from (len_of Sc1 Nc1)]
    refine XS.icmpYes X0.here hx rfl (pc0 := 3) (pc' := 14) rfl (hb hby d10_3) rfl (feq (by decide : ¬ ((1 : Int32) = (0 : Int32)))).2 (by decide) (by decide) ?_
    refine XS.iloadN X0.here hx rfl (hb hby d10_14) rfl ?_
    refine st2 _ ?_
    refine XS.astoreN X2.here hx rfl (hb hby d10_17) rfl rfl (l' := #[.val (.ref oo), .val (.int (1 : Int32)), .val (.ref b2)]) rfl ?_
    refine XS.aloadN X2.here hx rfl (hb hby d10_18) rfl rfl ?_
    refine XS.iconst X2.here hx rfl (hb hby d10_19) ?_
    refine XS.aloadN X2.here hx rfl (hb hby d10_20) rfl rfl ?_
    refine XS.iconst X2.here hx rfl (hb hby d10_21) ?_
    refine XS.aloadN X2.here hx rfl (hb hby d10_22) rfl rfl ?_
    refine X2.arraylength hx (by rw [e2]; exact Arc5.1) (State.isArrayOf_alike hZ.alike Arc5.2.1) (g := (mkF m 23 #[.val (.ref oo), .val (.int (1 : Int32)), .val (.ref b2)] [(.ref oo), (.int (0 : Int32)), (.ref b2), (.int (0 : Int32)), (.ref oo)])) rfl rfl (hb hby d10_23) _ ?_
    rw [show c5.slots.size.toInt32 = (0 : Int32) from (len_of Sc5 Nc5)]
    refine XS.iloadN X2.here hx rfl (hb hby d10_24) rfl ?_
    refine st6 _ ?_
    refine st8 _ ?_
    refine XS.aloadN X8.here hx rfl (hb hby d10_31) rfl rfl ?_
    exact k)
  obtain ⟨fs, hr, hrun, hended, hW, hsame⟩ := X8.leave (v := some (.ref b2)) (hlocks := BodyLoose.notSynchronized Bd) (fun h => by rw [Bd.returns] at h; cases h)
  refine ⟨_, _, pre12 _ ?_, hrun, hended, _, _, rfl, ?_, ⟨_, rfl⟩, hW, hsame.mono (by decide) (by decide)⟩
  · jvm_step X8.here [X8.here.top, hx, (hb hby d10_32), X8.method', Bd.returns, Value.isRef, FieldType.isReference]
    first | (intro acts; rw [hr _ acts rfl rfl rfl]) | rw [hr _ _ rfl rfl rfl]
    exact Steps.refl _
  · show Q_cpJ0_1 Z oo ko h0 n0 _ T8.heap _
    rw [e8]
    exact ⟨b2, k2, rfl, N8, K8, ge_b2, sz_b2, V8, E10⟩

theorem ef_cpI1_3 (m : MethodId) (x0 : Addr) (x1 : Int32) : entryFrame m #[(.ref x0), (.int x1)] 3 = mkF m 0 #[.val (.ref x0), .val (.int x1), .unset] [] := by first | (simp [entryFrame, mkF, argsToLocals, Value.category]; done) | rfl
def Q_cpI1_3 (Z : State) (oo : Addr) (ko : ClassId) (v0 : Int32) (h0 : Heap) (n0 : Nat) (v : Option Value) (h : Heap) (L : List Loc) : Prop := ∃ xx : Addr, ∃ kx : ClassId, v = some (.ref xx) ∧ Fr n0 L ∧ Keep h0 h [] ∧ n0 ≤ xx ∧ h0.size ≤ xx ∧ Arv Z h xx kx .int (3 : Int32) [(.int v0), (.int (0 : Int32)), (.int (0 : Int32))] (.int (0 : Int32)) ∧ Exa Z h xx "[I"
set_option maxRecDepth 65536 in
set_option maxHeartbeats 40000000 in
theorem rm_cpI1_3 (l : Launch) (Z : State) (a0 : Array Value) (hw : ∀ d ∈ tables_1, d.before a0 Z = true) (ws : List Jvm.Cond) (oo : Addr) (ko : ClassId) (v0 : Int32) (h0 : Heap) (n0 : Nat) (Z0 : n0 ≤ h0.size) (H0_A : Arv Z h0 oo ko .int (1 : Int32) [(.int v0)] (.int (0 : Int32))) :
    MetFree l (⟨"java/util/Arrays", "copyOf", "([II)[I"⟩ : MethodName) (head1 (Jvm.Cond.code (⟨"java/util/Arrays", "copyOf", "([II)[I"⟩ : MethodName) jdk_65_method_123_code 3 (some (.array .int)) :: ws) ({ frames := 1, cells := 1, slots := 3, locals := 18 } : Room)) (fun as_ U_ => as_ = #[(.ref oo), (.int (3 : Int32))] ∧ Z.Warmed39 U_.vm ∧ U_.heap = h0) (fun _ _ _ _ _ => True) (fun _ U o U' => ∃ v L, o = .returned v ∧ Q_cpI1_3 Z oo ko v0 h0 n0 v U'.heap L ∧ FrameEnd U o U' L ({ frames := 1, cells := 1, slots := 3, locals := 18 } : Room).cells ({ frames := 1, cells := 1, slots := 3, locals := 18 } : Room).slots) := by
  refine MetFree.of_bodySF (plainFor_of_name pn_0) hisR ?_
  intro p e s m args below meth c s₁ Bd hml0 hP hK
  obtain ⟨rfl, hZ, hhp_⟩ := hP
  have hx := Bd.exec
  have hby := Bd.bytes
  have hml : c.maxLocals = 3 := hml0
  have hown : s.vm.findClass "java/util/Arrays" = some m.cls := findClass_of_methodNamed Bd.named
  have hnm := (name_of_methodNamed Bd.named Bd.method).1
  have X0 : Stand p l e ({ frames := 1, cells := 1, slots := 3, locals := 18 } : Room) s m #[(.ref oo), (.int (3 : Int32))] below meth c s₁ [] 0 0 := Stand.of_body Bd
  have e0 : s₁.heap = h0 := by rw [← hhp_, Bd.state]; rfl
  have N0 := Fr.nil n0
  have pre0 : ∀ t, Steps p.tables e below (s₁.setTop (mkF m 0 #[.val (.ref oo), .val (.int (3 : Int32)), .unset] [])) t → Steps p.tables e below (s₁.setTop (entryFrame m #[(.ref oo), (.int (3 : Int32))] 3)) t := fun t k => castTop (ef_cpI1_3 m oo (3 : Int32)) k
  have K0 : Keep h0 h0 [] := Keep.refl h0 []
  have oc1 := H0_A
  obtain ⟨c1, Arc1, qc1, Sc1, Nc1, Hc1, Gc1⟩ := oc1
  obtain ⟨T2, h2, k2, X2, e2, E2, A2, Ea2, st2⟩ := newPE X0 hx hZ (own_w hw 44 rfl) e0 (g := (mkF m 15 #[.val (.ref oo), .val (.int (3 : Int32)), .unset] [(.int (3 : Int32))])) rfl (hb hby d8_15) rfl (by decide) (cap := 3) (by decide) (by decide) (by decide) (by decide) (ad := "[I") own_nm_int
  obtain ⟨b2, g2⟩ : ∃ z, z = h0.size := ⟨_, rfl⟩
  have ne_oo_b2 : oo ≠ b2 := Nat.ne_of_lt (Nat.lt_of_lt_of_le H0_A.lt (Nat.le_of_eq g2.symm))
  have ge_b2 : n0 ≤ b2 := Nat.le_trans Z0 (Nat.le_of_eq g2.symm)
  have sz_b2 : h0.size ≤ b2 := Nat.le_trans K0.1 (Nat.le_of_eq g2.symm)
  rw [← g2] at A2 Ea2 st2
  have A3 := H0_A.ext E2
  have K2 : Keep h0 h2 [] := K0.ext E2
  have Zs4 : n0 ≤ h2.size := (Nat.le_trans Z0 E2.1)
  have V2 : Arv Z h2 b2 k2 .int (3 : Int32) [(.int (0 : Int32)), (.int (0 : Int32)), (.int (0 : Int32))] (.int (0 : Int32)) := (Arv.new A2 (by decide)).pad (pad_rep [] (.int (0 : Int32)) 3)
  have oc5 := A3
  obtain ⟨c5, Arc5, qc5, Sc5, Nc5, Hc5, Gc5⟩ := oc5
  obtain ⟨_, _, ⟨T6, L6, k6, n6⟩, -, X6, ⟨Lc6, hQ6, l6, y6, z6⟩, st6⟩ := Jvm.LawKit.callS X2 hx (y := (⟨"java/lang/Math", "min", "(II)I"⟩ : MethodName)) hown (mvT hZ (own_w hw 45 rfl)) (mvT hZ (own_w hw 46 rfl)) (mvT hZ (own_w hw 47 rfl)) (mvT hZ (own_w hw 48 rfl)) (by decide) (backOf (W := 4) (rm_mi l Z a0 hw [] (1 : Int32) (3 : Int32) (1 : Int32) h2 n0 Zs4 (by decide) (by decide)) hZ (own_w hw 48 rfl) (own_w hw 47 rfl) (by decide) (by decide)) (g := (mkF m 25 #[.val (.ref oo), .val (.int (3 : Int32)), .val (.ref b2)] [(.int (3 : Int32)), (.int (1 : Int32)), (.int (0 : Int32)), (.ref b2), (.int (0 : Int32)), (.ref oo)])) rfl (by rw [hml]; rfl) (argsL := [(.int (1 : Int32)), (.int (3 : Int32))]) (rest := [(.int (0 : Int32)), (.ref b2), (.int (0 : Int32)), (.ref oo)]) (lenOf pd_2 rfl) rfl (by show 2 * 0 + _ ≤ _; exact Nat.le_of_eq rfl) (hb hby d8_25) (fun _ _ => ⟨rfl, e2, (by decide : 1 + 0 ≤ _), (by decide : 3 + 0 ≤ _)⟩)
  dsimp only [Pt.U, Pt.locs, Pt.cells, Pt.slots] at X6 l6 y6 z6 st6 hQ6
  subst l6 y6 z6
  obtain ⟨rfl, N6q, hq7⟩ := hQ6
  have N6 := Fr.app N0 N6q
  obtain ⟨T8, h8, L8, X8, e8, N8, K8q, A8, st8⟩ := cpA X6 hx hZ hown (own_w hw 49 rfl) (own_w hw 52 rfl) (own_w hw 50 rfl) (own_w hw 51 rfl) hq7 A3 V2 (Or.inl ⟨rfl, rfl⟩) (by decide) (by decide) (by decide) (by decide) (by decide) (us := [(.int v0)]) rfl (Nat.le_of_ble_eq_true rfl) N6 ge_b2 (g := (mkF m 28 #[.val (.ref oo), .val (.int (3 : Int32)), .val (.ref b2)] [(.int (1 : Int32)), (.int (0 : Int32)), (.ref b2), (.int (0 : Int32)), (.ref oo)])) rfl (by rw [hml]; rfl) rfl (hb hby d8_28) (by decide) (W := 0) (by show 2 * 0 + _ ≤ _; exact Nat.le_of_eq rfl) (by decide)
  have V8 : Arv Z h8 b2 k2 .int (3 : Int32) [(.int v0), (.int (0 : Int32)), (.int (0 : Int32))] (.int (0 : Int32)) := A8
  have A9 := A3.keep K8q (ninS ne_oo_b2 nin0)
  have E10 := Ea2.keep K8q
  have K8 : Keep h0 h8 [] := K2.trans K8q (allS (Or.inr sz_b2) all0)
  have Zs11 : n0 ≤ h8.size := (Nat.le_trans Zs4 K8q.1)
  have pre12 := fun (t : State) (k : Steps p.tables e below (T8.setTop (mkF m 32 #[.val (.ref oo), .val (.int (3 : Int32)), .val (.ref b2)] [(.ref b2)])) t) => pre0 t (by
    refine XS.iloadN X0.here hx rfl (hb hby d8_0) rfl ?_
    refine XS.aloadN X0.here hx rfl (hb hby d8_1) rfl rfl ?_
    refine X0.arraylength hx (by rw [e0]; exact Arc1.1) (State.isArrayOf_alike hZ.alike Arc1.2.1) (g := (mkF m 2 #[.val (.ref oo), .val (.int (3 : Int32)), .unset] [(.ref oo), (.int (3 : Int32))])) rfl rfl (hb hby d8_2) _ ?_
    rw [show c1.slots.size.toInt32 = (1 : Int32) from (len_of Sc1 Nc1)]
    refine XS.icmpYes X0.here hx rfl (pc0 := 3) (pc' := 14) rfl (hb hby d8_3) rfl (feq (by decide : ¬ ((3 : Int32) = (1 : Int32)))).2 (by decide) (by decide) ?_
    refine XS.iloadN X0.here hx rfl (hb hby d8_14) rfl ?_
    refine st2 _ ?_
    refine XS.astoreN X2.here hx rfl (hb hby d8_17) rfl rfl (l' := #[.val (.ref oo), .val (.int (3 : Int32)), .val (.ref b2)]) rfl ?_
    refine XS.aloadN X2.here hx rfl (hb hby d8_18) rfl rfl ?_
    refine XS.iconst X2.here hx rfl (hb hby d8_19) ?_
    refine XS.aloadN X2.here hx rfl (hb hby d8_20) rfl rfl ?_
    refine XS.iconst X2.here hx rfl (hb hby d8_21) ?_
    refine XS.aloadN X2.here hx rfl (hb hby d8_22) rfl rfl ?_
    refine X2.arraylength hx (by rw [e2]; exact Arc5.1) (State.isArrayOf_alike hZ.alike Arc5.2.1) (g := (mkF m 23 #[.val (.ref oo), .val (.int (3 : Int32)), .val (.ref b2)] [(.ref oo), (.int (0 : Int32)), (.ref b2), (.int (0 : Int32)), (.ref oo)])) rfl rfl (hb hby d8_23) _ ?_
    rw [show c5.slots.size.toInt32 = (1 : Int32) from (len_of Sc5 Nc5)]
    refine XS.iloadN X2.here hx rfl (hb hby d8_24) rfl ?_
    refine st6 _ ?_
    refine st8 _ ?_
    refine XS.aloadN X8.here hx rfl (hb hby d8_31) rfl rfl ?_
    exact k)
  obtain ⟨fs, hr, hrun, hended, hW, hsame⟩ := X8.leave (v := some (.ref b2)) (hlocks := BodyLoose.notSynchronized Bd) (fun h => by rw [Bd.returns] at h; cases h)
  refine ⟨_, _, pre12 _ ?_, hrun, hended, _, _, rfl, ?_, ⟨_, rfl⟩, hW, hsame.mono (by decide) (by decide)⟩
  · jvm_step X8.here [X8.here.top, hx, (hb hby d8_32), X8.method', Bd.returns, Value.isRef, FieldType.isReference]
    first | (intro acts; rw [hr _ acts rfl rfl rfl]) | rw [hr _ _ rfl rfl rfl]
    exact Steps.refl _
  · show Q_cpI1_3 Z oo ko v0 h0 n0 _ T8.heap _
    rw [e8]
    exact ⟨b2, k2, rfl, N8, K8, ge_b2, sz_b2, V8, E10⟩

theorem ef_cpJ1_3 (m : MethodId) (x0 : Addr) (x1 : Int32) : entryFrame m #[(.ref x0), (.int x1)] 3 = mkF m 0 #[.val (.ref x0), .val (.int x1), .unset] [] := by first | (simp [entryFrame, mkF, argsToLocals, Value.category]; done) | rfl
def Q_cpJ1_3 (Z : State) (oo : Addr) (ko : ClassId) (v0 : Int64) (h0 : Heap) (n0 : Nat) (v : Option Value) (h : Heap) (L : List Loc) : Prop := ∃ xx : Addr, ∃ kx : ClassId, v = some (.ref xx) ∧ Fr n0 L ∧ Keep h0 h [] ∧ n0 ≤ xx ∧ h0.size ≤ xx ∧ Arv Z h xx kx .long (3 : Int32) [(.long v0), (.long (0 : Int64)), (.long (0 : Int64))] (.long (0 : Int64)) ∧ Exa Z h xx "[J"
set_option maxRecDepth 65536 in
set_option maxHeartbeats 40000000 in
theorem rm_cpJ1_3 (l : Launch) (Z : State) (a0 : Array Value) (hw : ∀ d ∈ tables_1, d.before a0 Z = true) (ws : List Jvm.Cond) (oo : Addr) (ko : ClassId) (v0 : Int64) (h0 : Heap) (n0 : Nat) (Z0 : n0 ≤ h0.size) (H0_A : Arv Z h0 oo ko .long (1 : Int32) [(.long v0)] (.long (0 : Int64))) :
    MetFree l (⟨"java/util/Arrays", "copyOf", "([JI)[J"⟩ : MethodName) (head1 (Jvm.Cond.code (⟨"java/util/Arrays", "copyOf", "([JI)[J"⟩ : MethodName) jdk_65_method_124_code 3 (some (.array .long)) :: ws) ({ frames := 1, cells := 1, slots := 3, locals := 18 } : Room)) (fun as_ U_ => as_ = #[(.ref oo), (.int (3 : Int32))] ∧ Z.Warmed39 U_.vm ∧ U_.heap = h0) (fun _ _ _ _ _ => True) (fun _ U o U' => ∃ v L, o = .returned v ∧ Q_cpJ1_3 Z oo ko v0 h0 n0 v U'.heap L ∧ FrameEnd U o U' L ({ frames := 1, cells := 1, slots := 3, locals := 18 } : Room).cells ({ frames := 1, cells := 1, slots := 3, locals := 18 } : Room).slots) := by
  refine MetFree.of_bodySF (plainFor_of_name pn_0) hisR ?_
  intro p e s m args below meth c s₁ Bd hml0 hP hK
  obtain ⟨rfl, hZ, hhp_⟩ := hP
  have hx := Bd.exec
  have hby := Bd.bytes
  have hml : c.maxLocals = 3 := hml0
  have hown : s.vm.findClass "java/util/Arrays" = some m.cls := findClass_of_methodNamed Bd.named
  have hnm := (name_of_methodNamed Bd.named Bd.method).1
  have X0 : Stand p l e ({ frames := 1, cells := 1, slots := 3, locals := 18 } : Room) s m #[(.ref oo), (.int (3 : Int32))] below meth c s₁ [] 0 0 := Stand.of_body Bd
  have e0 : s₁.heap = h0 := by rw [← hhp_, Bd.state]; rfl
  have N0 := Fr.nil n0
  have pre0 : ∀ t, Steps p.tables e below (s₁.setTop (mkF m 0 #[.val (.ref oo), .val (.int (3 : Int32)), .unset] [])) t → Steps p.tables e below (s₁.setTop (entryFrame m #[(.ref oo), (.int (3 : Int32))] 3)) t := fun t k => castTop (ef_cpJ1_3 m oo (3 : Int32)) k
  have K0 : Keep h0 h0 [] := Keep.refl h0 []
  have oc1 := H0_A
  obtain ⟨c1, Arc1, qc1, Sc1, Nc1, Hc1, Gc1⟩ := oc1
  obtain ⟨T2, h2, k2, X2, e2, E2, A2, Ea2, st2⟩ := newPE X0 hx hZ (own_w hw 56 rfl) e0 (g := (mkF m 15 #[.val (.ref oo), .val (.int (3 : Int32)), .unset] [(.int (3 : Int32))])) rfl (hb hby d10_15) rfl (by decide) (cap := 3) (by decide) (by decide) (by decide) (by decide) (ad := "[J") own_nm_long
  obtain ⟨b2, g2⟩ : ∃ z, z = h0.size := ⟨_, rfl⟩
  have ne_oo_b2 : oo ≠ b2 := Nat.ne_of_lt (Nat.lt_of_lt_of_le H0_A.lt (Nat.le_of_eq g2.symm))
  have ge_b2 : n0 ≤ b2 := Nat.le_trans Z0 (Nat.le_of_eq g2.symm)
  have sz_b2 : h0.size ≤ b2 := Nat.le_trans K0.1 (Nat.le_of_eq g2.symm)
  rw [← g2] at A2 Ea2 st2
  have A3 := H0_A.ext E2
  have K2 : Keep h0 h2 [] := K0.ext E2
  have Zs4 : n0 ≤ h2.size := (Nat.le_trans Z0 E2.1)
  have V2 : Arv Z h2 b2 k2 .long (3 : Int32) [(.long (0 : Int64)), (.long (0 : Int64)), (.long (0 : Int64))] (.long (0 : Int64)) := (Arv.new A2 (by decide)).pad (pad_rep [] (.long (0 : Int64)) 3)
  have oc5 := A3
  obtain ⟨c5, Arc5, qc5, Sc5, Nc5, Hc5, Gc5⟩ := oc5
  obtain ⟨_, _, ⟨T6, L6, k6, n6⟩, -, X6, ⟨Lc6, hQ6, l6, y6, z6⟩, st6⟩ := Jvm.LawKit.callS X2 hx (y := (⟨"java/lang/Math", "min", "(II)I"⟩ : MethodName)) hown (mvT hZ (own_w hw 45 rfl)) (mvT hZ (own_w hw 46 rfl)) (mvT hZ (own_w hw 47 rfl)) (mvT hZ (own_w hw 48 rfl)) (by decide) (backOf (W := 4) (rm_mi l Z a0 hw [] (1 : Int32) (3 : Int32) (1 : Int32) h2 n0 Zs4 (by decide) (by decide)) hZ (own_w hw 48 rfl) (own_w hw 47 rfl) (by decide) (by decide)) (g := (mkF m 25 #[.val (.ref oo), .val (.int (3 : Int32)), .val (.ref b2)] [(.int (3 : Int32)), (.int (1 : Int32)), (.int (0 : Int32)), (.ref b2), (.int (0 : Int32)), (.ref oo)])) rfl (by rw [hml]; rfl) (argsL := [(.int (1 : Int32)), (.int (3 : Int32))]) (rest := [(.int (0 : Int32)), (.ref b2), (.int (0 : Int32)), (.ref oo)]) (lenOf pd_2 rfl) rfl (by show 2 * 0 + _ ≤ _; exact Nat.le_of_eq rfl) (hb hby d10_25) (fun _ _ => ⟨rfl, e2, (by decide : 1 + 0 ≤ _), (by decide : 3 + 0 ≤ _)⟩)
  dsimp only [Pt.U, Pt.locs, Pt.cells, Pt.slots] at X6 l6 y6 z6 st6 hQ6
  subst l6 y6 z6
  obtain ⟨rfl, N6q, hq7⟩ := hQ6
  have N6 := Fr.app N0 N6q
  obtain ⟨T8, h8, L8, X8, e8, N8, K8q, A8, st8⟩ := cpA X6 hx hZ hown (own_w hw 49 rfl) (own_w hw 52 rfl) (own_w hw 50 rfl) (own_w hw 51 rfl) hq7 A3 V2 (Or.inl ⟨rfl, rfl⟩) (by decide) (by decide) (by decide) (by decide) (by decide) (us := [(.long v0)]) rfl (Nat.le_of_ble_eq_true rfl) N6 ge_b2 (g := (mkF m 28 #[.val (.ref oo), .val (.int (3 : Int32)), .val (.ref b2)] [(.int (1 : Int32)), (.int (0 : Int32)), (.ref b2), (.int (0 : Int32)), (.ref oo)])) rfl (by rw [hml]; rfl) rfl (hb hby d10_28) (by decide) (W := 0) (by show 2 * 0 + _ ≤ _; exact Nat.le_of_eq rfl) (by decide)
  have V8 : Arv Z h8 b2 k2 .long (3 : Int32) [(.long v0), (.long (0 : Int64)), (.long (0 : Int64))] (.long (0 : Int64)) := A8
  have A9 := A3.keep K8q (ninS ne_oo_b2 nin0)
  have E10 := Ea2.keep K8q
  have K8 : Keep h0 h8 [] := K2.trans K8q (allS (Or.inr sz_b2) all0)
  have Zs11 : n0 ≤ h8.size := (Nat.le_trans Zs4 K8q.1)
  have pre12 := fun (t : State) (k : Steps p.tables e below (T8.setTop (mkF m 32 #[.val (.ref oo), .val (.int (3 : Int32)), .val (.ref b2)] [(.ref b2)])) t) => pre0 t (by
    refine XS.iloadN X0.here hx rfl (hb hby d10_0) rfl ?_
    refine XS.aloadN X0.here hx rfl (hb hby d10_1) rfl rfl ?_
    refine X0.arraylength hx (by rw [e0]; exact Arc1.1) (State.isArrayOf_alike hZ.alike Arc1.2.1) (g := (mkF m 2 #[.val (.ref oo), .val (.int (3 : Int32)), .unset] [(.ref oo), (.int (3 : Int32))])) rfl rfl (hb hby d10_2) _ ?_
    rw [show c1.slots.size.toInt32 = (1 : Int32) from (len_of Sc1 Nc1)]
    refine XS.icmpYes X0.here hx rfl (pc0 := 3) (pc' := 14) rfl (hb hby d10_3) rfl (feq (by decide : ¬ ((3 : Int32) = (1 : Int32)))).2 (by decide) (by decide) ?_
    refine XS.iloadN X0.here hx rfl (hb hby d10_14) rfl ?_
    refine st2 _ ?_
    refine XS.astoreN X2.here hx rfl (hb hby d10_17) rfl rfl (l' := #[.val (.ref oo), .val (.int (3 : Int32)), .val (.ref b2)]) rfl ?_
    refine XS.aloadN X2.here hx rfl (hb hby d10_18) rfl rfl ?_
    refine XS.iconst X2.here hx rfl (hb hby d10_19) ?_
    refine XS.aloadN X2.here hx rfl (hb hby d10_20) rfl rfl ?_
    refine XS.iconst X2.here hx rfl (hb hby d10_21) ?_
    refine XS.aloadN X2.here hx rfl (hb hby d10_22) rfl rfl ?_
    refine X2.arraylength hx (by rw [e2]; exact Arc5.1) (State.isArrayOf_alike hZ.alike Arc5.2.1) (g := (mkF m 23 #[.val (.ref oo), .val (.int (3 : Int32)), .val (.ref b2)] [(.ref oo), (.int (0 : Int32)), (.ref b2), (.int (0 : Int32)), (.ref oo)])) rfl rfl (hb hby d10_23) _ ?_
    rw [show c5.slots.size.toInt32 = (1 : Int32) from (len_of Sc5 Nc5)]
    refine XS.iloadN X2.here hx rfl (hb hby d10_24) rfl ?_
    refine st6 _ ?_
    refine st8 _ ?_
    refine XS.aloadN X8.here hx rfl (hb hby d10_31) rfl rfl ?_
    exact k)
  obtain ⟨fs, hr, hrun, hended, hW, hsame⟩ := X8.leave (v := some (.ref b2)) (hlocks := BodyLoose.notSynchronized Bd) (fun h => by rw [Bd.returns] at h; cases h)
  refine ⟨_, _, pre12 _ ?_, hrun, hended, _, _, rfl, ?_, ⟨_, rfl⟩, hW, hsame.mono (by decide) (by decide)⟩
  · jvm_step X8.here [X8.here.top, hx, (hb hby d10_32), X8.method', Bd.returns, Value.isRef, FieldType.isReference]
    first | (intro acts; rw [hr _ acts rfl rfl rfl]) | rw [hr _ _ rfl rfl rfl]
    exact Steps.refl _
  · show Q_cpJ1_3 Z oo ko v0 h0 n0 _ T8.heap _
    rw [e8]
    exact ⟨b2, k2, rfl, N8, K8, ge_b2, sz_b2, V8, E10⟩

theorem ef_cpI1_2 (m : MethodId) (x0 : Addr) (x1 : Int32) : entryFrame m #[(.ref x0), (.int x1)] 3 = mkF m 0 #[.val (.ref x0), .val (.int x1), .unset] [] := by first | (simp [entryFrame, mkF, argsToLocals, Value.category]; done) | rfl
def Q_cpI1_2 (Z : State) (oo : Addr) (ko : ClassId) (v0 : Int32) (h0 : Heap) (n0 : Nat) (v : Option Value) (h : Heap) (L : List Loc) : Prop := ∃ xx : Addr, ∃ kx : ClassId, v = some (.ref xx) ∧ Fr n0 L ∧ Keep h0 h [] ∧ n0 ≤ xx ∧ h0.size ≤ xx ∧ Arv Z h xx kx .int (2 : Int32) [(.int v0), (.int (0 : Int32))] (.int (0 : Int32)) ∧ Exa Z h xx "[I"
set_option maxRecDepth 65536 in
set_option maxHeartbeats 40000000 in
theorem rm_cpI1_2 (l : Launch) (Z : State) (a0 : Array Value) (hw : ∀ d ∈ tables_1, d.before a0 Z = true) (ws : List Jvm.Cond) (oo : Addr) (ko : ClassId) (v0 : Int32) (h0 : Heap) (n0 : Nat) (Z0 : n0 ≤ h0.size) (H0_A : Arv Z h0 oo ko .int (1 : Int32) [(.int v0)] (.int (0 : Int32))) :
    MetFree l (⟨"java/util/Arrays", "copyOf", "([II)[I"⟩ : MethodName) (head1 (Jvm.Cond.code (⟨"java/util/Arrays", "copyOf", "([II)[I"⟩ : MethodName) jdk_65_method_123_code 3 (some (.array .int)) :: ws) ({ frames := 1, cells := 1, slots := 2, locals := 18 } : Room)) (fun as_ U_ => as_ = #[(.ref oo), (.int (2 : Int32))] ∧ Z.Warmed39 U_.vm ∧ U_.heap = h0) (fun _ _ _ _ _ => True) (fun _ U o U' => ∃ v L, o = .returned v ∧ Q_cpI1_2 Z oo ko v0 h0 n0 v U'.heap L ∧ FrameEnd U o U' L ({ frames := 1, cells := 1, slots := 2, locals := 18 } : Room).cells ({ frames := 1, cells := 1, slots := 2, locals := 18 } : Room).slots) := by
  refine MetFree.of_bodySF (plainFor_of_name pn_0) hisR ?_
  intro p e s m args below meth c s₁ Bd hml0 hP hK
  obtain ⟨rfl, hZ, hhp_⟩ := hP
  have hx := Bd.exec
  have hby := Bd.bytes
  have hml : c.maxLocals = 3 := hml0
  have hown : s.vm.findClass "java/util/Arrays" = some m.cls := findClass_of_methodNamed Bd.named
  have hnm := (name_of_methodNamed Bd.named Bd.method).1
  have X0 : Stand p l e ({ frames := 1, cells := 1, slots := 2, locals := 18 } : Room) s m #[(.ref oo), (.int (2 : Int32))] below meth c s₁ [] 0 0 := Stand.of_body Bd
  have e0 : s₁.heap = h0 := by rw [← hhp_, Bd.state]; rfl
  have N0 := Fr.nil n0
  have pre0 : ∀ t, Steps p.tables e below (s₁.setTop (mkF m 0 #[.val (.ref oo), .val (.int (2 : Int32)), .unset] [])) t → Steps p.tables e below (s₁.setTop (entryFrame m #[(.ref oo), (.int (2 : Int32))] 3)) t := fun t k => castTop (ef_cpI1_2 m oo (2 : Int32)) k
  have K0 : Keep h0 h0 [] := Keep.refl h0 []
  have oc1 := H0_A
  obtain ⟨c1, Arc1, qc1, Sc1, Nc1, Hc1, Gc1⟩ := oc1
  obtain ⟨T2, h2, k2, X2, e2, E2, A2, Ea2, st2⟩ := newPE X0 hx hZ (own_w hw 44 rfl) e0 (g := (mkF m 15 #[.val (.ref oo), .val (.int (2 : Int32)), .unset] [(.int (2 : Int32))])) rfl (hb hby d8_15) rfl (by decide) (cap := 2) (by decide) (by decide) (by decide) (by decide) (ad := "[I") own_nm_int
  obtain ⟨b2, g2⟩ : ∃ z, z = h0.size := ⟨_, rfl⟩
  have ne_oo_b2 : oo ≠ b2 := Nat.ne_of_lt (Nat.lt_of_lt_of_le H0_A.lt (Nat.le_of_eq g2.symm))
  have ge_b2 : n0 ≤ b2 := Nat.le_trans Z0 (Nat.le_of_eq g2.symm)
  have sz_b2 : h0.size ≤ b2 := Nat.le_trans K0.1 (Nat.le_of_eq g2.symm)
  rw [← g2] at A2 Ea2 st2
  have A3 := H0_A.ext E2
  have K2 : Keep h0 h2 [] := K0.ext E2
  have Zs4 : n0 ≤ h2.size := (Nat.le_trans Z0 E2.1)
  have V2 : Arv Z h2 b2 k2 .int (2 : Int32) [(.int (0 : Int32)), (.int (0 : Int32))] (.int (0 : Int32)) := (Arv.new A2 (by decide)).pad (pad_rep [] (.int (0 : Int32)) 2)
  have oc5 := A3
  obtain ⟨c5, Arc5, qc5, Sc5, Nc5, Hc5, Gc5⟩ := oc5
  obtain ⟨_, _, ⟨T6, L6, k6, n6⟩, -, X6, ⟨Lc6, hQ6, l6, y6, z6⟩, st6⟩ := Jvm.LawKit.callS X2 hx (y := (⟨"java/lang/Math", "min", "(II)I"⟩ : MethodName)) hown (mvT hZ (own_w hw 45 rfl)) (mvT hZ (own_w hw 46 rfl)) (mvT hZ (own_w hw 47 rfl)) (mvT hZ (own_w hw 48 rfl)) (by decide) (backOf (W := 4) (rm_mi l Z a0 hw [] (1 : Int32) (2 : Int32) (1 : Int32) h2 n0 Zs4 (by decide) (by decide)) hZ (own_w hw 48 rfl) (own_w hw 47 rfl) (by decide) (by decide)) (g := (mkF m 25 #[.val (.ref oo), .val (.int (2 : Int32)), .val (.ref b2)] [(.int (2 : Int32)), (.int (1 : Int32)), (.int (0 : Int32)), (.ref b2), (.int (0 : Int32)), (.ref oo)])) rfl (by rw [hml]; rfl) (argsL := [(.int (1 : Int32)), (.int (2 : Int32))]) (rest := [(.int (0 : Int32)), (.ref b2), (.int (0 : Int32)), (.ref oo)]) (lenOf pd_2 rfl) rfl (by show 2 * 0 + _ ≤ _; exact Nat.le_of_eq rfl) (hb hby d8_25) (fun _ _ => ⟨rfl, e2, (by decide : 1 + 0 ≤ _), (by decide : 2 + 0 ≤ _)⟩)
  dsimp only [Pt.U, Pt.locs, Pt.cells, Pt.slots] at X6 l6 y6 z6 st6 hQ6
  subst l6 y6 z6
  obtain ⟨rfl, N6q, hq7⟩ := hQ6
  have N6 := Fr.app N0 N6q
  obtain ⟨T8, h8, L8, X8, e8, N8, K8q, A8, st8⟩ := cpA X6 hx hZ hown (own_w hw 49 rfl) (own_w hw 52 rfl) (own_w hw 50 rfl) (own_w hw 51 rfl) hq7 A3 V2 (Or.inl ⟨rfl, rfl⟩) (by decide) (by decide) (by decide) (by decide) (by decide) (us := [(.int v0)]) rfl (Nat.le_of_ble_eq_true rfl) N6 ge_b2 (g := (mkF m 28 #[.val (.ref oo), .val (.int (2 : Int32)), .val (.ref b2)] [(.int (1 : Int32)), (.int (0 : Int32)), (.ref b2), (.int (0 : Int32)), (.ref oo)])) rfl (by rw [hml]; rfl) rfl (hb hby d8_28) (by decide) (W := 0) (by show 2 * 0 + _ ≤ _; exact Nat.le_of_eq rfl) (by decide)
  have V8 : Arv Z h8 b2 k2 .int (2 : Int32) [(.int v0), (.int (0 : Int32))] (.int (0 : Int32)) := A8
  have A9 := A3.keep K8q (ninS ne_oo_b2 nin0)
  have E10 := Ea2.keep K8q
  have K8 : Keep h0 h8 [] := K2.trans K8q (allS (Or.inr sz_b2) all0)
  have Zs11 : n0 ≤ h8.size := (Nat.le_trans Zs4 K8q.1)
  have pre12 := fun (t : State) (k : Steps p.tables e below (T8.setTop (mkF m 32 #[.val (.ref oo), .val (.int (2 : Int32)), .val (.ref b2)] [(.ref b2)])) t) => pre0 t (by
    refine XS.iloadN X0.here hx rfl (hb hby d8_0) rfl ?_
    refine XS.aloadN X0.here hx rfl (hb hby d8_1) rfl rfl ?_
    refine X0.arraylength hx (by rw [e0]; exact Arc1.1) (State.isArrayOf_alike hZ.alike Arc1.2.1) (g := (mkF m 2 #[.val (.ref oo), .val (.int (2 : Int32)), .unset] [(.ref oo), (.int (2 : Int32))])) rfl rfl (hb hby d8_2) _ ?_
    rw [show c1.slots.size.toInt32 = (1 : Int32) from (len_of Sc1 Nc1)]
    refine XS.icmpYes X0.here hx rfl (pc0 := 3) (pc' := 14) rfl (hb hby d8_3) rfl (feq (by decide : ¬ ((2 : Int32) = (1 : Int32)))).2 (by decide) (by decide) ?_
    refine XS.iloadN X0.here hx rfl (hb hby d8_14) rfl ?_
    refine st2 _ ?_
    refine XS.astoreN X2.here hx rfl (hb hby d8_17) rfl rfl (l' := #[.val (.ref oo), .val (.int (2 : Int32)), .val (.ref b2)]) rfl ?_
    refine XS.aloadN X2.here hx rfl (hb hby d8_18) rfl rfl ?_
    refine XS.iconst X2.here hx rfl (hb hby d8_19) ?_
    refine XS.aloadN X2.here hx rfl (hb hby d8_20) rfl rfl ?_
    refine XS.iconst X2.here hx rfl (hb hby d8_21) ?_
    refine XS.aloadN X2.here hx rfl (hb hby d8_22) rfl rfl ?_
    refine X2.arraylength hx (by rw [e2]; exact Arc5.1) (State.isArrayOf_alike hZ.alike Arc5.2.1) (g := (mkF m 23 #[.val (.ref oo), .val (.int (2 : Int32)), .val (.ref b2)] [(.ref oo), (.int (0 : Int32)), (.ref b2), (.int (0 : Int32)), (.ref oo)])) rfl rfl (hb hby d8_23) _ ?_
    rw [show c5.slots.size.toInt32 = (1 : Int32) from (len_of Sc5 Nc5)]
    refine XS.iloadN X2.here hx rfl (hb hby d8_24) rfl ?_
    refine st6 _ ?_
    refine st8 _ ?_
    refine XS.aloadN X8.here hx rfl (hb hby d8_31) rfl rfl ?_
    exact k)
  obtain ⟨fs, hr, hrun, hended, hW, hsame⟩ := X8.leave (v := some (.ref b2)) (hlocks := BodyLoose.notSynchronized Bd) (fun h => by rw [Bd.returns] at h; cases h)
  refine ⟨_, _, pre12 _ ?_, hrun, hended, _, _, rfl, ?_, ⟨_, rfl⟩, hW, hsame.mono (by decide) (by decide)⟩
  · jvm_step X8.here [X8.here.top, hx, (hb hby d8_32), X8.method', Bd.returns, Value.isRef, FieldType.isReference]
    first | (intro acts; rw [hr _ acts rfl rfl rfl]) | rw [hr _ _ rfl rfl rfl]
    exact Steps.refl _
  · show Q_cpI1_2 Z oo ko v0 h0 n0 _ T8.heap _
    rw [e8]
    exact ⟨b2, k2, rfl, N8, K8, ge_b2, sz_b2, V8, E10⟩

theorem ef_cpJ1_2 (m : MethodId) (x0 : Addr) (x1 : Int32) : entryFrame m #[(.ref x0), (.int x1)] 3 = mkF m 0 #[.val (.ref x0), .val (.int x1), .unset] [] := by first | (simp [entryFrame, mkF, argsToLocals, Value.category]; done) | rfl
def Q_cpJ1_2 (Z : State) (oo : Addr) (ko : ClassId) (v0 : Int64) (h0 : Heap) (n0 : Nat) (v : Option Value) (h : Heap) (L : List Loc) : Prop := ∃ xx : Addr, ∃ kx : ClassId, v = some (.ref xx) ∧ Fr n0 L ∧ Keep h0 h [] ∧ n0 ≤ xx ∧ h0.size ≤ xx ∧ Arv Z h xx kx .long (2 : Int32) [(.long v0), (.long (0 : Int64))] (.long (0 : Int64)) ∧ Exa Z h xx "[J"
set_option maxRecDepth 65536 in
set_option maxHeartbeats 40000000 in
theorem rm_cpJ1_2 (l : Launch) (Z : State) (a0 : Array Value) (hw : ∀ d ∈ tables_1, d.before a0 Z = true) (ws : List Jvm.Cond) (oo : Addr) (ko : ClassId) (v0 : Int64) (h0 : Heap) (n0 : Nat) (Z0 : n0 ≤ h0.size) (H0_A : Arv Z h0 oo ko .long (1 : Int32) [(.long v0)] (.long (0 : Int64))) :
    MetFree l (⟨"java/util/Arrays", "copyOf", "([JI)[J"⟩ : MethodName) (head1 (Jvm.Cond.code (⟨"java/util/Arrays", "copyOf", "([JI)[J"⟩ : MethodName) jdk_65_method_124_code 3 (some (.array .long)) :: ws) ({ frames := 1, cells := 1, slots := 2, locals := 18 } : Room)) (fun as_ U_ => as_ = #[(.ref oo), (.int (2 : Int32))] ∧ Z.Warmed39 U_.vm ∧ U_.heap = h0) (fun _ _ _ _ _ => True) (fun _ U o U' => ∃ v L, o = .returned v ∧ Q_cpJ1_2 Z oo ko v0 h0 n0 v U'.heap L ∧ FrameEnd U o U' L ({ frames := 1, cells := 1, slots := 2, locals := 18 } : Room).cells ({ frames := 1, cells := 1, slots := 2, locals := 18 } : Room).slots) := by
  refine MetFree.of_bodySF (plainFor_of_name pn_0) hisR ?_
  intro p e s m args below meth c s₁ Bd hml0 hP hK
  obtain ⟨rfl, hZ, hhp_⟩ := hP
  have hx := Bd.exec
  have hby := Bd.bytes
  have hml : c.maxLocals = 3 := hml0
  have hown : s.vm.findClass "java/util/Arrays" = some m.cls := findClass_of_methodNamed Bd.named
  have hnm := (name_of_methodNamed Bd.named Bd.method).1
  have X0 : Stand p l e ({ frames := 1, cells := 1, slots := 2, locals := 18 } : Room) s m #[(.ref oo), (.int (2 : Int32))] below meth c s₁ [] 0 0 := Stand.of_body Bd
  have e0 : s₁.heap = h0 := by rw [← hhp_, Bd.state]; rfl
  have N0 := Fr.nil n0
  have pre0 : ∀ t, Steps p.tables e below (s₁.setTop (mkF m 0 #[.val (.ref oo), .val (.int (2 : Int32)), .unset] [])) t → Steps p.tables e below (s₁.setTop (entryFrame m #[(.ref oo), (.int (2 : Int32))] 3)) t := fun t k => castTop (ef_cpJ1_2 m oo (2 : Int32)) k
  have K0 : Keep h0 h0 [] := Keep.refl h0 []
  have oc1 := H0_A
  obtain ⟨c1, Arc1, qc1, Sc1, Nc1, Hc1, Gc1⟩ := oc1
  obtain ⟨T2, h2, k2, X2, e2, E2, A2, Ea2, st2⟩ := newPE X0 hx hZ (own_w hw 56 rfl) e0 (g := (mkF m 15 #[.val (.ref oo), .val (.int (2 : Int32)), .unset] [(.int (2 : Int32))])) rfl (hb hby d10_15) rfl (by decide) (cap := 2) (by decide) (by decide) (by decide) (by decide) (ad := "[J") own_nm_long
  obtain ⟨b2, g2⟩ : ∃ z, z = h0.size := ⟨_, rfl⟩
  have ne_oo_b2 : oo ≠ b2 := Nat.ne_of_lt (Nat.lt_of_lt_of_le H0_A.lt (Nat.le_of_eq g2.symm))
  have ge_b2 : n0 ≤ b2 := Nat.le_trans Z0 (Nat.le_of_eq g2.symm)
  have sz_b2 : h0.size ≤ b2 := Nat.le_trans K0.1 (Nat.le_of_eq g2.symm)
  rw [← g2] at A2 Ea2 st2
  have A3 := H0_A.ext E2
  have K2 : Keep h0 h2 [] := K0.ext E2
  have Zs4 : n0 ≤ h2.size := (Nat.le_trans Z0 E2.1)
  have V2 : Arv Z h2 b2 k2 .long (2 : Int32) [(.long (0 : Int64)), (.long (0 : Int64))] (.long (0 : Int64)) := (Arv.new A2 (by decide)).pad (pad_rep [] (.long (0 : Int64)) 2)
  have oc5 := A3
  obtain ⟨c5, Arc5, qc5, Sc5, Nc5, Hc5, Gc5⟩ := oc5
  obtain ⟨_, _, ⟨T6, L6, k6, n6⟩, -, X6, ⟨Lc6, hQ6, l6, y6, z6⟩, st6⟩ := Jvm.LawKit.callS X2 hx (y := (⟨"java/lang/Math", "min", "(II)I"⟩ : MethodName)) hown (mvT hZ (own_w hw 45 rfl)) (mvT hZ (own_w hw 46 rfl)) (mvT hZ (own_w hw 47 rfl)) (mvT hZ (own_w hw 48 rfl)) (by decide) (backOf (W := 4) (rm_mi l Z a0 hw [] (1 : Int32) (2 : Int32) (1 : Int32) h2 n0 Zs4 (by decide) (by decide)) hZ (own_w hw 48 rfl) (own_w hw 47 rfl) (by decide) (by decide)) (g := (mkF m 25 #[.val (.ref oo), .val (.int (2 : Int32)), .val (.ref b2)] [(.int (2 : Int32)), (.int (1 : Int32)), (.int (0 : Int32)), (.ref b2), (.int (0 : Int32)), (.ref oo)])) rfl (by rw [hml]; rfl) (argsL := [(.int (1 : Int32)), (.int (2 : Int32))]) (rest := [(.int (0 : Int32)), (.ref b2), (.int (0 : Int32)), (.ref oo)]) (lenOf pd_2 rfl) rfl (by show 2 * 0 + _ ≤ _; exact Nat.le_of_eq rfl) (hb hby d10_25) (fun _ _ => ⟨rfl, e2, (by decide : 1 + 0 ≤ _), (by decide : 2 + 0 ≤ _)⟩)
  dsimp only [Pt.U, Pt.locs, Pt.cells, Pt.slots] at X6 l6 y6 z6 st6 hQ6
  subst l6 y6 z6
  obtain ⟨rfl, N6q, hq7⟩ := hQ6
  have N6 := Fr.app N0 N6q
  obtain ⟨T8, h8, L8, X8, e8, N8, K8q, A8, st8⟩ := cpA X6 hx hZ hown (own_w hw 49 rfl) (own_w hw 52 rfl) (own_w hw 50 rfl) (own_w hw 51 rfl) hq7 A3 V2 (Or.inl ⟨rfl, rfl⟩) (by decide) (by decide) (by decide) (by decide) (by decide) (us := [(.long v0)]) rfl (Nat.le_of_ble_eq_true rfl) N6 ge_b2 (g := (mkF m 28 #[.val (.ref oo), .val (.int (2 : Int32)), .val (.ref b2)] [(.int (1 : Int32)), (.int (0 : Int32)), (.ref b2), (.int (0 : Int32)), (.ref oo)])) rfl (by rw [hml]; rfl) rfl (hb hby d10_28) (by decide) (W := 0) (by show 2 * 0 + _ ≤ _; exact Nat.le_of_eq rfl) (by decide)
  have V8 : Arv Z h8 b2 k2 .long (2 : Int32) [(.long v0), (.long (0 : Int64))] (.long (0 : Int64)) := A8
  have A9 := A3.keep K8q (ninS ne_oo_b2 nin0)
  have E10 := Ea2.keep K8q
  have K8 : Keep h0 h8 [] := K2.trans K8q (allS (Or.inr sz_b2) all0)
  have Zs11 : n0 ≤ h8.size := (Nat.le_trans Zs4 K8q.1)
  have pre12 := fun (t : State) (k : Steps p.tables e below (T8.setTop (mkF m 32 #[.val (.ref oo), .val (.int (2 : Int32)), .val (.ref b2)] [(.ref b2)])) t) => pre0 t (by
    refine XS.iloadN X0.here hx rfl (hb hby d10_0) rfl ?_
    refine XS.aloadN X0.here hx rfl (hb hby d10_1) rfl rfl ?_
    refine X0.arraylength hx (by rw [e0]; exact Arc1.1) (State.isArrayOf_alike hZ.alike Arc1.2.1) (g := (mkF m 2 #[.val (.ref oo), .val (.int (2 : Int32)), .unset] [(.ref oo), (.int (2 : Int32))])) rfl rfl (hb hby d10_2) _ ?_
    rw [show c1.slots.size.toInt32 = (1 : Int32) from (len_of Sc1 Nc1)]
    refine XS.icmpYes X0.here hx rfl (pc0 := 3) (pc' := 14) rfl (hb hby d10_3) rfl (feq (by decide : ¬ ((2 : Int32) = (1 : Int32)))).2 (by decide) (by decide) ?_
    refine XS.iloadN X0.here hx rfl (hb hby d10_14) rfl ?_
    refine st2 _ ?_
    refine XS.astoreN X2.here hx rfl (hb hby d10_17) rfl rfl (l' := #[.val (.ref oo), .val (.int (2 : Int32)), .val (.ref b2)]) rfl ?_
    refine XS.aloadN X2.here hx rfl (hb hby d10_18) rfl rfl ?_
    refine XS.iconst X2.here hx rfl (hb hby d10_19) ?_
    refine XS.aloadN X2.here hx rfl (hb hby d10_20) rfl rfl ?_
    refine XS.iconst X2.here hx rfl (hb hby d10_21) ?_
    refine XS.aloadN X2.here hx rfl (hb hby d10_22) rfl rfl ?_
    refine X2.arraylength hx (by rw [e2]; exact Arc5.1) (State.isArrayOf_alike hZ.alike Arc5.2.1) (g := (mkF m 23 #[.val (.ref oo), .val (.int (2 : Int32)), .val (.ref b2)] [(.ref oo), (.int (0 : Int32)), (.ref b2), (.int (0 : Int32)), (.ref oo)])) rfl rfl (hb hby d10_23) _ ?_
    rw [show c5.slots.size.toInt32 = (1 : Int32) from (len_of Sc5 Nc5)]
    refine XS.iloadN X2.here hx rfl (hb hby d10_24) rfl ?_
    refine st6 _ ?_
    refine st8 _ ?_
    refine XS.aloadN X8.here hx rfl (hb hby d10_31) rfl rfl ?_
    exact k)
  obtain ⟨fs, hr, hrun, hended, hW, hsame⟩ := X8.leave (v := some (.ref b2)) (hlocks := BodyLoose.notSynchronized Bd) (fun h => by rw [Bd.returns] at h; cases h)
  refine ⟨_, _, pre12 _ ?_, hrun, hended, _, _, rfl, ?_, ⟨_, rfl⟩, hW, hsame.mono (by decide) (by decide)⟩
  · jvm_step X8.here [X8.here.top, hx, (hb hby d10_32), X8.method', Bd.returns, Value.isRef, FieldType.isReference]
    first | (intro acts; rw [hr _ acts rfl rfl rfl]) | rw [hr _ _ rfl rfl rfl]
    exact Steps.refl _
  · show Q_cpJ1_2 Z oo ko v0 h0 n0 _ T8.heap _
    rw [e8]
    exact ⟨b2, k2, rfl, N8, K8, ge_b2, sz_b2, V8, E10⟩

theorem ef_cpI1_1 (m : MethodId) (x0 : Addr) (x1 : Int32) : entryFrame m #[(.ref x0), (.int x1)] 3 = mkF m 0 #[.val (.ref x0), .val (.int x1), .unset] [] := by first | (simp [entryFrame, mkF, argsToLocals, Value.category]; done) | rfl
def Q_cpI1_1 (Z : State) (oo : Addr) (ko : ClassId) (v0 : Int32) (h0 : Heap) (n0 : Nat) (v : Option Value) (h : Heap) (L : List Loc) : Prop := ∃ xx : Addr, ∃ kx : ClassId, v = some (.ref xx) ∧ Fr n0 L ∧ Keep h0 h [] ∧ n0 ≤ xx ∧ h0.size ≤ xx ∧ Arv Z h xx kx .int (1 : Int32) [(.int v0)] (.int (0 : Int32)) ∧ Exa Z h xx "[I"
set_option maxRecDepth 65536 in
set_option maxHeartbeats 40000000 in
theorem rm_cpI1_1 (l : Launch) (Z : State) (a0 : Array Value) (hw : ∀ d ∈ tables_1, d.before a0 Z = true) (ws : List Jvm.Cond) (oo : Addr) (ko : ClassId) (v0 : Int32) (h0 : Heap) (n0 : Nat) (Z0 : n0 ≤ h0.size) (H0_A : Arv Z h0 oo ko .int (1 : Int32) [(.int v0)] (.int (0 : Int32))) (H1_E : Exa Z h0 oo "[I") :
    MetFree l (⟨"java/util/Arrays", "copyOf", "([II)[I"⟩ : MethodName) (head1 (Jvm.Cond.code (⟨"java/util/Arrays", "copyOf", "([II)[I"⟩ : MethodName) jdk_65_method_123_code 3 (some (.array .int)) :: ws) ({ frames := 1, cells := 1, slots := 1, locals := 14 } : Room)) (fun as_ U_ => as_ = #[(.ref oo), (.int (1 : Int32))] ∧ Z.Warmed39 U_.vm ∧ U_.heap = h0) (fun _ _ _ _ _ => True) (fun _ U o U' => ∃ v L, o = .returned v ∧ Q_cpI1_1 Z oo ko v0 h0 n0 v U'.heap L ∧ FrameEnd U o U' L ({ frames := 1, cells := 1, slots := 1, locals := 14 } : Room).cells ({ frames := 1, cells := 1, slots := 1, locals := 14 } : Room).slots) := by
  refine MetFree.of_bodySF (plainFor_of_name pn_0) hisR ?_
  intro p e s m args below meth c s₁ Bd hml0 hP hK
  obtain ⟨rfl, hZ, hhp_⟩ := hP
  have hx := Bd.exec
  have hby := Bd.bytes
  have hml : c.maxLocals = 3 := hml0
  have hown : s.vm.findClass "java/util/Arrays" = some m.cls := findClass_of_methodNamed Bd.named
  have hnm := (name_of_methodNamed Bd.named Bd.method).1
  have X0 : Stand p l e ({ frames := 1, cells := 1, slots := 1, locals := 14 } : Room) s m #[(.ref oo), (.int (1 : Int32))] below meth c s₁ [] 0 0 := Stand.of_body Bd
  have e0 : s₁.heap = h0 := by rw [← hhp_, Bd.state]; rfl
  have N0 := Fr.nil n0
  have pre0 : ∀ t, Steps p.tables e below (s₁.setTop (mkF m 0 #[.val (.ref oo), .val (.int (1 : Int32)), .unset] [])) t → Steps p.tables e below (s₁.setTop (entryFrame m #[(.ref oo), (.int (1 : Int32))] 3)) t := fun t k => castTop (ef_cpI1_1 m oo (1 : Int32)) k
  have K0 : Keep h0 h0 [] := Keep.refl h0 []
  have oc1 := H0_A
  obtain ⟨c1, Arc1, qc1, Sc1, Nc1, Hc1, Gc1⟩ := oc1
  obtain ⟨T2, h2, X2, e2, E2, A2, Ea2, st2⟩ := cloneH X0 hx hZ hown (own_w hw 67 rfl) (own_w hw 68 rfl) (own_w hw 72 rfl) (own_w hw 70 rfl) (own_w hw 71 rfl) (own_w hw 73 rfl) e0 (Arv.arh H0_A) H1_E (g := (mkF m 7 #[.val (.ref oo), .val (.int (1 : Int32)), .unset] [(.ref oo)])) rfl (by rw [hml]; rfl) rfl (hb hby d8_7) (by decide) (W := 0) (cap := 1) (by show 2 * 0 + _ ≤ _; exact Nat.le_of_eq rfl) (by decide) (by decide) (by decide) (by decide)
  obtain ⟨b2, g2⟩ : ∃ z, z = h0.size := ⟨_, rfl⟩
  have ne_oo_b2 : oo ≠ b2 := Nat.ne_of_lt (Nat.lt_of_lt_of_le H0_A.lt (Nat.le_of_eq g2.symm))
  have ge_b2 : n0 ≤ b2 := Nat.le_trans Z0 (Nat.le_of_eq g2.symm)
  have sz_b2 : h0.size ≤ b2 := Nat.le_trans K0.1 (Nat.le_of_eq g2.symm)
  rw [← g2] at A2 Ea2 st2
  have A3 := H0_A.ext E2
  have E4 := H1_E.ext E2
  have K2 : Keep h0 h2 [] := K0.ext E2
  have Zs5 : n0 ≤ h2.size := (Nat.le_trans Z0 E2.1)
  have V2 : Arv Z h2 b2 ko .int (1 : Int32) [(.int v0)] (.int (0 : Int32)) := A2
  obtain ⟨T6, X6, e6, st6⟩ := castY X2 hx hZ hown (own_w hw 74 rfl) e2 (Ins.self Ea2) (g := (mkF m 10 #[.val (.ref oo), .val (.int (1 : Int32)), .unset] [(.ref b2)])) rfl rfl (hb hby d8_10)
  have pre7 := fun (t : State) (k : Steps p.tables e below (T6.setTop (mkF m 13 #[.val (.ref oo), .val (.int (1 : Int32)), .unset] [(.ref b2)])) t) => pre0 t (by
    refine XS.iloadN X0.here hx rfl (hb hby d8_0) rfl ?_
    refine XS.aloadN X0.here hx rfl (hb hby d8_1) rfl rfl ?_
    refine X0.arraylength hx (by rw [e0]; exact Arc1.1) (State.isArrayOf_alike hZ.alike Arc1.2.1) (g := (mkF m 2 #[.val (.ref oo), .val (.int (1 : Int32)), .unset] [(.ref oo), (.int (1 : Int32))])) rfl rfl (hb hby d8_2) _ ?_
    rw [show c1.slots.size.toInt32 = (1 : Int32) from (len_of Sc1 Nc1)]
    refine XS.icmpNo X0.here hx rfl (hb hby d8_3) rfl (teq (by decide : (1 : Int32) = (1 : Int32))).2 ?_
    refine XS.aloadN X0.here hx rfl (hb hby d8_6) rfl rfl ?_
    refine st2 _ ?_
    refine st6 _ ?_
    exact k)
  obtain ⟨fs, hr, hrun, hended, hW, hsame⟩ := X6.leave (v := some (.ref b2)) (hlocks := BodyLoose.notSynchronized Bd) (fun h => by rw [Bd.returns] at h; cases h)
  refine ⟨_, _, pre7 _ ?_, hrun, hended, _, _, rfl, ?_, ⟨_, rfl⟩, hW, hsame.mono (by decide) (by decide)⟩
  · jvm_step X6.here [X6.here.top, hx, (hb hby d8_13), X6.method', Bd.returns, Value.isRef, FieldType.isReference]
    first | (intro acts; rw [hr _ acts rfl rfl rfl]) | rw [hr _ _ rfl rfl rfl]
    exact Steps.refl _
  · show Q_cpI1_1 Z oo ko v0 h0 n0 _ T6.heap _
    rw [e6]
    exact ⟨b2, ko, rfl, N0, K2, ge_b2, sz_b2, V2, Ea2⟩

theorem ef_cpJ1_1 (m : MethodId) (x0 : Addr) (x1 : Int32) : entryFrame m #[(.ref x0), (.int x1)] 3 = mkF m 0 #[.val (.ref x0), .val (.int x1), .unset] [] := by first | (simp [entryFrame, mkF, argsToLocals, Value.category]; done) | rfl
def Q_cpJ1_1 (Z : State) (oo : Addr) (ko : ClassId) (v0 : Int64) (h0 : Heap) (n0 : Nat) (v : Option Value) (h : Heap) (L : List Loc) : Prop := ∃ xx : Addr, ∃ kx : ClassId, v = some (.ref xx) ∧ Fr n0 L ∧ Keep h0 h [] ∧ n0 ≤ xx ∧ h0.size ≤ xx ∧ Arv Z h xx kx .long (1 : Int32) [(.long v0)] (.long (0 : Int64)) ∧ Exa Z h xx "[J"
set_option maxRecDepth 65536 in
set_option maxHeartbeats 40000000 in
theorem rm_cpJ1_1 (l : Launch) (Z : State) (a0 : Array Value) (hw : ∀ d ∈ tables_1, d.before a0 Z = true) (ws : List Jvm.Cond) (oo : Addr) (ko : ClassId) (v0 : Int64) (h0 : Heap) (n0 : Nat) (Z0 : n0 ≤ h0.size) (H0_A : Arv Z h0 oo ko .long (1 : Int32) [(.long v0)] (.long (0 : Int64))) (H1_E : Exa Z h0 oo "[J") :
    MetFree l (⟨"java/util/Arrays", "copyOf", "([JI)[J"⟩ : MethodName) (head1 (Jvm.Cond.code (⟨"java/util/Arrays", "copyOf", "([JI)[J"⟩ : MethodName) jdk_65_method_124_code 3 (some (.array .long)) :: ws) ({ frames := 1, cells := 1, slots := 1, locals := 14 } : Room)) (fun as_ U_ => as_ = #[(.ref oo), (.int (1 : Int32))] ∧ Z.Warmed39 U_.vm ∧ U_.heap = h0) (fun _ _ _ _ _ => True) (fun _ U o U' => ∃ v L, o = .returned v ∧ Q_cpJ1_1 Z oo ko v0 h0 n0 v U'.heap L ∧ FrameEnd U o U' L ({ frames := 1, cells := 1, slots := 1, locals := 14 } : Room).cells ({ frames := 1, cells := 1, slots := 1, locals := 14 } : Room).slots) := by
  refine MetFree.of_bodySF (plainFor_of_name pn_0) hisR ?_
  intro p e s m args below meth c s₁ Bd hml0 hP hK
  obtain ⟨rfl, hZ, hhp_⟩ := hP
  have hx := Bd.exec
  have hby := Bd.bytes
  have hml : c.maxLocals = 3 := hml0
  have hown : s.vm.findClass "java/util/Arrays" = some m.cls := findClass_of_methodNamed Bd.named
  have hnm := (name_of_methodNamed Bd.named Bd.method).1
  have X0 : Stand p l e ({ frames := 1, cells := 1, slots := 1, locals := 14 } : Room) s m #[(.ref oo), (.int (1 : Int32))] below meth c s₁ [] 0 0 := Stand.of_body Bd
  have e0 : s₁.heap = h0 := by rw [← hhp_, Bd.state]; rfl
  have N0 := Fr.nil n0
  have pre0 : ∀ t, Steps p.tables e below (s₁.setTop (mkF m 0 #[.val (.ref oo), .val (.int (1 : Int32)), .unset] [])) t → Steps p.tables e below (s₁.setTop (entryFrame m #[(.ref oo), (.int (1 : Int32))] 3)) t := fun t k => castTop (ef_cpJ1_1 m oo (1 : Int32)) k
  have K0 : Keep h0 h0 [] := Keep.refl h0 []
  have oc1 := H0_A
  obtain ⟨c1, Arc1, qc1, Sc1, Nc1, Hc1, Gc1⟩ := oc1
  obtain ⟨T2, h2, X2, e2, E2, A2, Ea2, st2⟩ := cloneH X0 hx hZ hown (own_w hw 76 rfl) (own_w hw 77 rfl) (own_w hw 72 rfl) (own_w hw 70 rfl) (own_w hw 78 rfl) (own_w hw 79 rfl) e0 (Arv.arh H0_A) H1_E (g := (mkF m 7 #[.val (.ref oo), .val (.int (1 : Int32)), .unset] [(.ref oo)])) rfl (by rw [hml]; rfl) rfl (hb hby d10_7) (by decide) (W := 0) (cap := 1) (by show 2 * 0 + _ ≤ _; exact Nat.le_of_eq rfl) (by decide) (by decide) (by decide) (by decide)
  obtain ⟨b2, g2⟩ : ∃ z, z = h0.size := ⟨_, rfl⟩
  have ne_oo_b2 : oo ≠ b2 := Nat.ne_of_lt (Nat.lt_of_lt_of_le H0_A.lt (Nat.le_of_eq g2.symm))
  have ge_b2 : n0 ≤ b2 := Nat.le_trans Z0 (Nat.le_of_eq g2.symm)
  have sz_b2 : h0.size ≤ b2 := Nat.le_trans K0.1 (Nat.le_of_eq g2.symm)
  rw [← g2] at A2 Ea2 st2
  have A3 := H0_A.ext E2
  have E4 := H1_E.ext E2
  have K2 : Keep h0 h2 [] := K0.ext E2
  have Zs5 : n0 ≤ h2.size := (Nat.le_trans Z0 E2.1)
  have V2 : Arv Z h2 b2 ko .long (1 : Int32) [(.long v0)] (.long (0 : Int64)) := A2
  obtain ⟨T6, X6, e6, st6⟩ := castY X2 hx hZ hown (own_w hw 80 rfl) e2 (Ins.self Ea2) (g := (mkF m 10 #[.val (.ref oo), .val (.int (1 : Int32)), .unset] [(.ref b2)])) rfl rfl (hb hby d10_10)
  have pre7 := fun (t : State) (k : Steps p.tables e below (T6.setTop (mkF m 13 #[.val (.ref oo), .val (.int (1 : Int32)), .unset] [(.ref b2)])) t) => pre0 t (by
    refine XS.iloadN X0.here hx rfl (hb hby d10_0) rfl ?_
    refine XS.aloadN X0.here hx rfl (hb hby d10_1) rfl rfl ?_
    refine X0.arraylength hx (by rw [e0]; exact Arc1.1) (State.isArrayOf_alike hZ.alike Arc1.2.1) (g := (mkF m 2 #[.val (.ref oo), .val (.int (1 : Int32)), .unset] [(.ref oo), (.int (1 : Int32))])) rfl rfl (hb hby d10_2) _ ?_
    rw [show c1.slots.size.toInt32 = (1 : Int32) from (len_of Sc1 Nc1)]
    refine XS.icmpNo X0.here hx rfl (hb hby d10_3) rfl (teq (by decide : (1 : Int32) = (1 : Int32))).2 ?_
    refine XS.aloadN X0.here hx rfl (hb hby d10_6) rfl rfl ?_
    refine st2 _ ?_
    refine st6 _ ?_
    exact k)
  obtain ⟨fs, hr, hrun, hended, hW, hsame⟩ := X6.leave (v := some (.ref b2)) (hlocks := BodyLoose.notSynchronized Bd) (fun h => by rw [Bd.returns] at h; cases h)
  refine ⟨_, _, pre7 _ ?_, hrun, hended, _, _, rfl, ?_, ⟨_, rfl⟩, hW, hsame.mono (by decide) (by decide)⟩
  · jvm_step X6.here [X6.here.top, hx, (hb hby d10_13), X6.method', Bd.returns, Value.isRef, FieldType.isReference]
    first | (intro acts; rw [hr _ acts rfl rfl rfl]) | rw [hr _ _ rfl rfl rfl]
    exact Steps.refl _
  · show Q_cpJ1_1 Z oo ko v0 h0 n0 _ T6.heap _
    rw [e6]
    exact ⟨b2, ko, rfl, N0, K2, ge_b2, sz_b2, V2, Ea2⟩

theorem ef_cpI3_3 (m : MethodId) (x0 : Addr) (x1 : Int32) : entryFrame m #[(.ref x0), (.int x1)] 3 = mkF m 0 #[.val (.ref x0), .val (.int x1), .unset] [] := by first | (simp [entryFrame, mkF, argsToLocals, Value.category]; done) | rfl
def Q_cpI3_3 (Z : State) (oo : Addr) (ko : ClassId) (v0 : Int32) (v1 : Int32) (v2 : Int32) (h0 : Heap) (n0 : Nat) (v : Option Value) (h : Heap) (L : List Loc) : Prop := ∃ xx : Addr, ∃ kx : ClassId, v = some (.ref xx) ∧ Fr n0 L ∧ Keep h0 h [] ∧ n0 ≤ xx ∧ h0.size ≤ xx ∧ Arv Z h xx kx .int (3 : Int32) [(.int v0), (.int v1), (.int v2)] (.int (0 : Int32)) ∧ Exa Z h xx "[I"
set_option maxRecDepth 65536 in
set_option maxHeartbeats 40000000 in
theorem rm_cpI3_3 (l : Launch) (Z : State) (a0 : Array Value) (hw : ∀ d ∈ tables_1, d.before a0 Z = true) (ws : List Jvm.Cond) (oo : Addr) (ko : ClassId) (v0 : Int32) (v1 : Int32) (v2 : Int32) (h0 : Heap) (n0 : Nat) (Z0 : n0 ≤ h0.size) (H0_A : Arv Z h0 oo ko .int (3 : Int32) [(.int v0), (.int v1), (.int v2)] (.int (0 : Int32))) (H1_E : Exa Z h0 oo "[I") :
    MetFree l (⟨"java/util/Arrays", "copyOf", "([II)[I"⟩ : MethodName) (head1 (Jvm.Cond.code (⟨"java/util/Arrays", "copyOf", "([II)[I"⟩ : MethodName) jdk_65_method_123_code 3 (some (.array .int)) :: ws) ({ frames := 1, cells := 1, slots := 3, locals := 14 } : Room)) (fun as_ U_ => as_ = #[(.ref oo), (.int (3 : Int32))] ∧ Z.Warmed39 U_.vm ∧ U_.heap = h0) (fun _ _ _ _ _ => True) (fun _ U o U' => ∃ v L, o = .returned v ∧ Q_cpI3_3 Z oo ko v0 v1 v2 h0 n0 v U'.heap L ∧ FrameEnd U o U' L ({ frames := 1, cells := 1, slots := 3, locals := 14 } : Room).cells ({ frames := 1, cells := 1, slots := 3, locals := 14 } : Room).slots) := by
  refine MetFree.of_bodySF (plainFor_of_name pn_0) hisR ?_
  intro p e s m args below meth c s₁ Bd hml0 hP hK
  obtain ⟨rfl, hZ, hhp_⟩ := hP
  have hx := Bd.exec
  have hby := Bd.bytes
  have hml : c.maxLocals = 3 := hml0
  have hown : s.vm.findClass "java/util/Arrays" = some m.cls := findClass_of_methodNamed Bd.named
  have hnm := (name_of_methodNamed Bd.named Bd.method).1
  have X0 : Stand p l e ({ frames := 1, cells := 1, slots := 3, locals := 14 } : Room) s m #[(.ref oo), (.int (3 : Int32))] below meth c s₁ [] 0 0 := Stand.of_body Bd
  have e0 : s₁.heap = h0 := by rw [← hhp_, Bd.state]; rfl
  have N0 := Fr.nil n0
  have pre0 : ∀ t, Steps p.tables e below (s₁.setTop (mkF m 0 #[.val (.ref oo), .val (.int (3 : Int32)), .unset] [])) t → Steps p.tables e below (s₁.setTop (entryFrame m #[(.ref oo), (.int (3 : Int32))] 3)) t := fun t k => castTop (ef_cpI3_3 m oo (3 : Int32)) k
  have K0 : Keep h0 h0 [] := Keep.refl h0 []
  have oc1 := H0_A
  obtain ⟨c1, Arc1, qc1, Sc1, Nc1, Hc1, Gc1⟩ := oc1
  obtain ⟨T2, h2, X2, e2, E2, A2, Ea2, st2⟩ := cloneH X0 hx hZ hown (own_w hw 67 rfl) (own_w hw 68 rfl) (own_w hw 72 rfl) (own_w hw 70 rfl) (own_w hw 71 rfl) (own_w hw 73 rfl) e0 (Arv.arh H0_A) H1_E (g := (mkF m 7 #[.val (.ref oo), .val (.int (3 : Int32)), .unset] [(.ref oo)])) rfl (by rw [hml]; rfl) rfl (hb hby d8_7) (by decide) (W := 0) (cap := 3) (by show 2 * 0 + _ ≤ _; exact Nat.le_of_eq rfl) (by decide) (by decide) (by decide) (by decide)
  obtain ⟨b2, g2⟩ : ∃ z, z = h0.size := ⟨_, rfl⟩
  have ne_oo_b2 : oo ≠ b2 := Nat.ne_of_lt (Nat.lt_of_lt_of_le H0_A.lt (Nat.le_of_eq g2.symm))
  have ge_b2 : n0 ≤ b2 := Nat.le_trans Z0 (Nat.le_of_eq g2.symm)
  have sz_b2 : h0.size ≤ b2 := Nat.le_trans K0.1 (Nat.le_of_eq g2.symm)
  rw [← g2] at A2 Ea2 st2
  have A3 := H0_A.ext E2
  have E4 := H1_E.ext E2
  have K2 : Keep h0 h2 [] := K0.ext E2
  have Zs5 : n0 ≤ h2.size := (Nat.le_trans Z0 E2.1)
  have V2 : Arv Z h2 b2 ko .int (3 : Int32) [(.int v0), (.int v1), (.int v2)] (.int (0 : Int32)) := A2
  obtain ⟨T6, X6, e6, st6⟩ := castY X2 hx hZ hown (own_w hw 74 rfl) e2 (Ins.self Ea2) (g := (mkF m 10 #[.val (.ref oo), .val (.int (3 : Int32)), .unset] [(.ref b2)])) rfl rfl (hb hby d8_10)
  have pre7 := fun (t : State) (k : Steps p.tables e below (T6.setTop (mkF m 13 #[.val (.ref oo), .val (.int (3 : Int32)), .unset] [(.ref b2)])) t) => pre0 t (by
    refine XS.iloadN X0.here hx rfl (hb hby d8_0) rfl ?_
    refine XS.aloadN X0.here hx rfl (hb hby d8_1) rfl rfl ?_
    refine X0.arraylength hx (by rw [e0]; exact Arc1.1) (State.isArrayOf_alike hZ.alike Arc1.2.1) (g := (mkF m 2 #[.val (.ref oo), .val (.int (3 : Int32)), .unset] [(.ref oo), (.int (3 : Int32))])) rfl rfl (hb hby d8_2) _ ?_
    rw [show c1.slots.size.toInt32 = (3 : Int32) from (len_of Sc1 Nc1)]
    refine XS.icmpNo X0.here hx rfl (hb hby d8_3) rfl (teq (by decide : (3 : Int32) = (3 : Int32))).2 ?_
    refine XS.aloadN X0.here hx rfl (hb hby d8_6) rfl rfl ?_
    refine st2 _ ?_
    refine st6 _ ?_
    exact k)
  obtain ⟨fs, hr, hrun, hended, hW, hsame⟩ := X6.leave (v := some (.ref b2)) (hlocks := BodyLoose.notSynchronized Bd) (fun h => by rw [Bd.returns] at h; cases h)
  refine ⟨_, _, pre7 _ ?_, hrun, hended, _, _, rfl, ?_, ⟨_, rfl⟩, hW, hsame.mono (by decide) (by decide)⟩
  · jvm_step X6.here [X6.here.top, hx, (hb hby d8_13), X6.method', Bd.returns, Value.isRef, FieldType.isReference]
    first | (intro acts; rw [hr _ acts rfl rfl rfl]) | rw [hr _ _ rfl rfl rfl]
    exact Steps.refl _
  · show Q_cpI3_3 Z oo ko v0 v1 v2 h0 n0 _ T6.heap _
    rw [e6]
    exact ⟨b2, ko, rfl, N0, K2, ge_b2, sz_b2, V2, Ea2⟩

theorem ef_cpJ3_3 (m : MethodId) (x0 : Addr) (x1 : Int32) : entryFrame m #[(.ref x0), (.int x1)] 3 = mkF m 0 #[.val (.ref x0), .val (.int x1), .unset] [] := by first | (simp [entryFrame, mkF, argsToLocals, Value.category]; done) | rfl
def Q_cpJ3_3 (Z : State) (oo : Addr) (ko : ClassId) (v0 : Int64) (v1 : Int64) (v2 : Int64) (h0 : Heap) (n0 : Nat) (v : Option Value) (h : Heap) (L : List Loc) : Prop := ∃ xx : Addr, ∃ kx : ClassId, v = some (.ref xx) ∧ Fr n0 L ∧ Keep h0 h [] ∧ n0 ≤ xx ∧ h0.size ≤ xx ∧ Arv Z h xx kx .long (3 : Int32) [(.long v0), (.long v1), (.long v2)] (.long (0 : Int64)) ∧ Exa Z h xx "[J"
set_option maxRecDepth 65536 in
set_option maxHeartbeats 40000000 in
theorem rm_cpJ3_3 (l : Launch) (Z : State) (a0 : Array Value) (hw : ∀ d ∈ tables_1, d.before a0 Z = true) (ws : List Jvm.Cond) (oo : Addr) (ko : ClassId) (v0 : Int64) (v1 : Int64) (v2 : Int64) (h0 : Heap) (n0 : Nat) (Z0 : n0 ≤ h0.size) (H0_A : Arv Z h0 oo ko .long (3 : Int32) [(.long v0), (.long v1), (.long v2)] (.long (0 : Int64))) (H1_E : Exa Z h0 oo "[J") :
    MetFree l (⟨"java/util/Arrays", "copyOf", "([JI)[J"⟩ : MethodName) (head1 (Jvm.Cond.code (⟨"java/util/Arrays", "copyOf", "([JI)[J"⟩ : MethodName) jdk_65_method_124_code 3 (some (.array .long)) :: ws) ({ frames := 1, cells := 1, slots := 3, locals := 14 } : Room)) (fun as_ U_ => as_ = #[(.ref oo), (.int (3 : Int32))] ∧ Z.Warmed39 U_.vm ∧ U_.heap = h0) (fun _ _ _ _ _ => True) (fun _ U o U' => ∃ v L, o = .returned v ∧ Q_cpJ3_3 Z oo ko v0 v1 v2 h0 n0 v U'.heap L ∧ FrameEnd U o U' L ({ frames := 1, cells := 1, slots := 3, locals := 14 } : Room).cells ({ frames := 1, cells := 1, slots := 3, locals := 14 } : Room).slots) := by
  refine MetFree.of_bodySF (plainFor_of_name pn_0) hisR ?_
  intro p e s m args below meth c s₁ Bd hml0 hP hK
  obtain ⟨rfl, hZ, hhp_⟩ := hP
  have hx := Bd.exec
  have hby := Bd.bytes
  have hml : c.maxLocals = 3 := hml0
  have hown : s.vm.findClass "java/util/Arrays" = some m.cls := findClass_of_methodNamed Bd.named
  have hnm := (name_of_methodNamed Bd.named Bd.method).1
  have X0 : Stand p l e ({ frames := 1, cells := 1, slots := 3, locals := 14 } : Room) s m #[(.ref oo), (.int (3 : Int32))] below meth c s₁ [] 0 0 := Stand.of_body Bd
  have e0 : s₁.heap = h0 := by rw [← hhp_, Bd.state]; rfl
  have N0 := Fr.nil n0
  have pre0 : ∀ t, Steps p.tables e below (s₁.setTop (mkF m 0 #[.val (.ref oo), .val (.int (3 : Int32)), .unset] [])) t → Steps p.tables e below (s₁.setTop (entryFrame m #[(.ref oo), (.int (3 : Int32))] 3)) t := fun t k => castTop (ef_cpJ3_3 m oo (3 : Int32)) k
  have K0 : Keep h0 h0 [] := Keep.refl h0 []
  have oc1 := H0_A
  obtain ⟨c1, Arc1, qc1, Sc1, Nc1, Hc1, Gc1⟩ := oc1
  obtain ⟨T2, h2, X2, e2, E2, A2, Ea2, st2⟩ := cloneH X0 hx hZ hown (own_w hw 76 rfl) (own_w hw 77 rfl) (own_w hw 72 rfl) (own_w hw 70 rfl) (own_w hw 78 rfl) (own_w hw 79 rfl) e0 (Arv.arh H0_A) H1_E (g := (mkF m 7 #[.val (.ref oo), .val (.int (3 : Int32)), .unset] [(.ref oo)])) rfl (by rw [hml]; rfl) rfl (hb hby d10_7) (by decide) (W := 0) (cap := 3) (by show 2 * 0 + _ ≤ _; exact Nat.le_of_eq rfl) (by decide) (by decide) (by decide) (by decide)
  obtain ⟨b2, g2⟩ : ∃ z, z = h0.size := ⟨_, rfl⟩
  have ne_oo_b2 : oo ≠ b2 := Nat.ne_of_lt (Nat.lt_of_lt_of_le H0_A.lt (Nat.le_of_eq g2.symm))
  have ge_b2 : n0 ≤ b2 := Nat.le_trans Z0 (Nat.le_of_eq g2.symm)
  have sz_b2 : h0.size ≤ b2 := Nat.le_trans K0.1 (Nat.le_of_eq g2.symm)
  rw [← g2] at A2 Ea2 st2
  have A3 := H0_A.ext E2
  have E4 := H1_E.ext E2
  have K2 : Keep h0 h2 [] := K0.ext E2
  have Zs5 : n0 ≤ h2.size := (Nat.le_trans Z0 E2.1)
  have V2 : Arv Z h2 b2 ko .long (3 : Int32) [(.long v0), (.long v1), (.long v2)] (.long (0 : Int64)) := A2
  obtain ⟨T6, X6, e6, st6⟩ := castY X2 hx hZ hown (own_w hw 80 rfl) e2 (Ins.self Ea2) (g := (mkF m 10 #[.val (.ref oo), .val (.int (3 : Int32)), .unset] [(.ref b2)])) rfl rfl (hb hby d10_10)
  have pre7 := fun (t : State) (k : Steps p.tables e below (T6.setTop (mkF m 13 #[.val (.ref oo), .val (.int (3 : Int32)), .unset] [(.ref b2)])) t) => pre0 t (by
    refine XS.iloadN X0.here hx rfl (hb hby d10_0) rfl ?_
    refine XS.aloadN X0.here hx rfl (hb hby d10_1) rfl rfl ?_
    refine X0.arraylength hx (by rw [e0]; exact Arc1.1) (State.isArrayOf_alike hZ.alike Arc1.2.1) (g := (mkF m 2 #[.val (.ref oo), .val (.int (3 : Int32)), .unset] [(.ref oo), (.int (3 : Int32))])) rfl rfl (hb hby d10_2) _ ?_
    rw [show c1.slots.size.toInt32 = (3 : Int32) from (len_of Sc1 Nc1)]
    refine XS.icmpNo X0.here hx rfl (hb hby d10_3) rfl (teq (by decide : (3 : Int32) = (3 : Int32))).2 ?_
    refine XS.aloadN X0.here hx rfl (hb hby d10_6) rfl rfl ?_
    refine st2 _ ?_
    refine st6 _ ?_
    exact k)
  obtain ⟨fs, hr, hrun, hended, hW, hsame⟩ := X6.leave (v := some (.ref b2)) (hlocks := BodyLoose.notSynchronized Bd) (fun h => by rw [Bd.returns] at h; cases h)
  refine ⟨_, _, pre7 _ ?_, hrun, hended, _, _, rfl, ?_, ⟨_, rfl⟩, hW, hsame.mono (by decide) (by decide)⟩
  · jvm_step X6.here [X6.here.top, hx, (hb hby d10_13), X6.method', Bd.returns, Value.isRef, FieldType.isReference]
    first | (intro acts; rw [hr _ acts rfl rfl rfl]) | rw [hr _ _ rfl rfl rfl]
    exact Steps.refl _
  · show Q_cpJ3_3 Z oo ko v0 v1 v2 h0 n0 _ T6.heap _
    rw [e6]
    exact ⟨b2, ko, rfl, N0, K2, ge_b2, sz_b2, V2, Ea2⟩

theorem ef_cpI3_2 (m : MethodId) (x0 : Addr) (x1 : Int32) : entryFrame m #[(.ref x0), (.int x1)] 3 = mkF m 0 #[.val (.ref x0), .val (.int x1), .unset] [] := by first | (simp [entryFrame, mkF, argsToLocals, Value.category]; done) | rfl
def Q_cpI3_2 (Z : State) (oo : Addr) (ko : ClassId) (v0 : Int32) (v1 : Int32) (v2 : Int32) (h0 : Heap) (n0 : Nat) (v : Option Value) (h : Heap) (L : List Loc) : Prop := ∃ xx : Addr, ∃ kx : ClassId, v = some (.ref xx) ∧ Fr n0 L ∧ Keep h0 h [] ∧ n0 ≤ xx ∧ h0.size ≤ xx ∧ Arv Z h xx kx .int (2 : Int32) [(.int v0), (.int v1)] (.int (0 : Int32)) ∧ Exa Z h xx "[I"
set_option maxRecDepth 65536 in
set_option maxHeartbeats 40000000 in
theorem rm_cpI3_2 (l : Launch) (Z : State) (a0 : Array Value) (hw : ∀ d ∈ tables_1, d.before a0 Z = true) (ws : List Jvm.Cond) (oo : Addr) (ko : ClassId) (v0 : Int32) (v1 : Int32) (v2 : Int32) (h0 : Heap) (n0 : Nat) (Z0 : n0 ≤ h0.size) (H0_A : Arv Z h0 oo ko .int (3 : Int32) [(.int v0), (.int v1), (.int v2)] (.int (0 : Int32))) :
    MetFree l (⟨"java/util/Arrays", "copyOf", "([II)[I"⟩ : MethodName) (head1 (Jvm.Cond.code (⟨"java/util/Arrays", "copyOf", "([II)[I"⟩ : MethodName) jdk_65_method_123_code 3 (some (.array .int)) :: ws) ({ frames := 1, cells := 1, slots := 2, locals := 18 } : Room)) (fun as_ U_ => as_ = #[(.ref oo), (.int (2 : Int32))] ∧ Z.Warmed39 U_.vm ∧ U_.heap = h0) (fun _ _ _ _ _ => True) (fun _ U o U' => ∃ v L, o = .returned v ∧ Q_cpI3_2 Z oo ko v0 v1 v2 h0 n0 v U'.heap L ∧ FrameEnd U o U' L ({ frames := 1, cells := 1, slots := 2, locals := 18 } : Room).cells ({ frames := 1, cells := 1, slots := 2, locals := 18 } : Room).slots) := by
  refine MetFree.of_bodySF (plainFor_of_name pn_0) hisR ?_
  intro p e s m args below meth c s₁ Bd hml0 hP hK
  obtain ⟨rfl, hZ, hhp_⟩ := hP
  have hx := Bd.exec
  have hby := Bd.bytes
  have hml : c.maxLocals = 3 := hml0
  have hown : s.vm.findClass "java/util/Arrays" = some m.cls := findClass_of_methodNamed Bd.named
  have hnm := (name_of_methodNamed Bd.named Bd.method).1
  have X0 : Stand p l e ({ frames := 1, cells := 1, slots := 2, locals := 18 } : Room) s m #[(.ref oo), (.int (2 : Int32))] below meth c s₁ [] 0 0 := Stand.of_body Bd
  have e0 : s₁.heap = h0 := by rw [← hhp_, Bd.state]; rfl
  have N0 := Fr.nil n0
  have pre0 : ∀ t, Steps p.tables e below (s₁.setTop (mkF m 0 #[.val (.ref oo), .val (.int (2 : Int32)), .unset] [])) t → Steps p.tables e below (s₁.setTop (entryFrame m #[(.ref oo), (.int (2 : Int32))] 3)) t := fun t k => castTop (ef_cpI3_2 m oo (2 : Int32)) k
  have K0 : Keep h0 h0 [] := Keep.refl h0 []
  have oc1 := H0_A
  obtain ⟨c1, Arc1, qc1, Sc1, Nc1, Hc1, Gc1⟩ := oc1
  obtain ⟨T2, h2, k2, X2, e2, E2, A2, Ea2, st2⟩ := newPE X0 hx hZ (own_w hw 44 rfl) e0 (g := (mkF m 15 #[.val (.ref oo), .val (.int (2 : Int32)), .unset] [(.int (2 : Int32))])) rfl (hb hby d8_15) rfl (by decide) (cap := 2) (by decide) (by decide) (by decide) (by decide) (ad := "[I") own_nm_int
  obtain ⟨b2, g2⟩ : ∃ z, z = h0.size := ⟨_, rfl⟩
  have ne_oo_b2 : oo ≠ b2 := Nat.ne_of_lt (Nat.lt_of_lt_of_le H0_A.lt (Nat.le_of_eq g2.symm))
  have ge_b2 : n0 ≤ b2 := Nat.le_trans Z0 (Nat.le_of_eq g2.symm)
  have sz_b2 : h0.size ≤ b2 := Nat.le_trans K0.1 (Nat.le_of_eq g2.symm)
  rw [← g2] at A2 Ea2 st2
  have A3 := H0_A.ext E2
  have K2 : Keep h0 h2 [] := K0.ext E2
  have Zs4 : n0 ≤ h2.size := (Nat.le_trans Z0 E2.1)
  have V2 : Arv Z h2 b2 k2 .int (2 : Int32) [(.int (0 : Int32)), (.int (0 : Int32))] (.int (0 : Int32)) := (Arv.new A2 (by decide)).pad (pad_rep [] (.int (0 : Int32)) 2)
  have oc5 := A3
  obtain ⟨c5, Arc5, qc5, Sc5, Nc5, Hc5, Gc5⟩ := oc5
  obtain ⟨_, _, ⟨T6, L6, k6, n6⟩, -, X6, ⟨Lc6, hQ6, l6, y6, z6⟩, st6⟩ := Jvm.LawKit.callS X2 hx (y := (⟨"java/lang/Math", "min", "(II)I"⟩ : MethodName)) hown (mvT hZ (own_w hw 45 rfl)) (mvT hZ (own_w hw 46 rfl)) (mvT hZ (own_w hw 47 rfl)) (mvT hZ (own_w hw 48 rfl)) (by decide) (backOf (W := 4) (rm_mi l Z a0 hw [] (3 : Int32) (2 : Int32) (2 : Int32) h2 n0 Zs4 (by decide) (by decide)) hZ (own_w hw 48 rfl) (own_w hw 47 rfl) (by decide) (by decide)) (g := (mkF m 25 #[.val (.ref oo), .val (.int (2 : Int32)), .val (.ref b2)] [(.int (2 : Int32)), (.int (3 : Int32)), (.int (0 : Int32)), (.ref b2), (.int (0 : Int32)), (.ref oo)])) rfl (by rw [hml]; rfl) (argsL := [(.int (3 : Int32)), (.int (2 : Int32))]) (rest := [(.int (0 : Int32)), (.ref b2), (.int (0 : Int32)), (.ref oo)]) (lenOf pd_2 rfl) rfl (by show 2 * 0 + _ ≤ _; exact Nat.le_of_eq rfl) (hb hby d8_25) (fun _ _ => ⟨rfl, e2, (by decide : 1 + 0 ≤ _), (by decide : 2 + 0 ≤ _)⟩)
  dsimp only [Pt.U, Pt.locs, Pt.cells, Pt.slots] at X6 l6 y6 z6 st6 hQ6
  subst l6 y6 z6
  obtain ⟨rfl, N6q, hq7⟩ := hQ6
  have N6 := Fr.app N0 N6q
  obtain ⟨T8, h8, L8, X8, e8, N8, K8q, A8, st8⟩ := cpA X6 hx hZ hown (own_w hw 49 rfl) (own_w hw 52 rfl) (own_w hw 50 rfl) (own_w hw 51 rfl) hq7 A3 V2 (Or.inl ⟨rfl, rfl⟩) (by decide) (by decide) (by decide) (by decide) (by decide) (us := [(.int v0), (.int v1)]) rfl (Nat.le_of_ble_eq_true rfl) N6 ge_b2 (g := (mkF m 28 #[.val (.ref oo), .val (.int (2 : Int32)), .val (.ref b2)] [(.int (2 : Int32)), (.int (0 : Int32)), (.ref b2), (.int (0 : Int32)), (.ref oo)])) rfl (by rw [hml]; rfl) rfl (hb hby d8_28) (by decide) (W := 0) (by show 2 * 0 + _ ≤ _; exact Nat.le_of_eq rfl) (by decide)
  have V8 : Arv Z h8 b2 k2 .int (2 : Int32) [(.int v0), (.int v1)] (.int (0 : Int32)) := A8
  have A9 := A3.keep K8q (ninS ne_oo_b2 nin0)
  have E10 := Ea2.keep K8q
  have K8 : Keep h0 h8 [] := K2.trans K8q (allS (Or.inr sz_b2) all0)
  have Zs11 : n0 ≤ h8.size := (Nat.le_trans Zs4 K8q.1)
  have pre12 := fun (t : State) (k : Steps p.tables e below (T8.setTop (mkF m 32 #[.val (.ref oo), .val (.int (2 : Int32)), .val (.ref b2)] [(.ref b2)])) t) => pre0 t (by
    refine XS.iloadN X0.here hx rfl (hb hby d8_0) rfl ?_
    refine XS.aloadN X0.here hx rfl (hb hby d8_1) rfl rfl ?_
    refine X0.arraylength hx (by rw [e0]; exact Arc1.1) (State.isArrayOf_alike hZ.alike Arc1.2.1) (g := (mkF m 2 #[.val (.ref oo), .val (.int (2 : Int32)), .unset] [(.ref oo), (.int (2 : Int32))])) rfl rfl (hb hby d8_2) _ ?_
    rw [show c1.slots.size.toInt32 = (3 : Int32) from (len_of Sc1 Nc1)]
    refine XS.icmpYes X0.here hx rfl (pc0 := 3) (pc' := 14) rfl (hb hby d8_3) rfl (feq (by decide : ¬ ((2 : Int32) = (3 : Int32)))).2 (by decide) (by decide) ?_
    refine XS.iloadN X0.here hx rfl (hb hby d8_14) rfl ?_
    refine st2 _ ?_
    refine XS.astoreN X2.here hx rfl (hb hby d8_17) rfl rfl (l' := #[.val (.ref oo), .val (.int (2 : Int32)), .val (.ref b2)]) rfl ?_
    refine XS.aloadN X2.here hx rfl (hb hby d8_18) rfl rfl ?_
    refine XS.iconst X2.here hx rfl (hb hby d8_19) ?_
    refine XS.aloadN X2.here hx rfl (hb hby d8_20) rfl rfl ?_
    refine XS.iconst X2.here hx rfl (hb hby d8_21) ?_
    refine XS.aloadN X2.here hx rfl (hb hby d8_22) rfl rfl ?_
    refine X2.arraylength hx (by rw [e2]; exact Arc5.1) (State.isArrayOf_alike hZ.alike Arc5.2.1) (g := (mkF m 23 #[.val (.ref oo), .val (.int (2 : Int32)), .val (.ref b2)] [(.ref oo), (.int (0 : Int32)), (.ref b2), (.int (0 : Int32)), (.ref oo)])) rfl rfl (hb hby d8_23) _ ?_
    rw [show c5.slots.size.toInt32 = (3 : Int32) from (len_of Sc5 Nc5)]
    refine XS.iloadN X2.here hx rfl (hb hby d8_24) rfl ?_
    refine st6 _ ?_
    refine st8 _ ?_
    refine XS.aloadN X8.here hx rfl (hb hby d8_31) rfl rfl ?_
    exact k)
  obtain ⟨fs, hr, hrun, hended, hW, hsame⟩ := X8.leave (v := some (.ref b2)) (hlocks := BodyLoose.notSynchronized Bd) (fun h => by rw [Bd.returns] at h; cases h)
  refine ⟨_, _, pre12 _ ?_, hrun, hended, _, _, rfl, ?_, ⟨_, rfl⟩, hW, hsame.mono (by decide) (by decide)⟩
  · jvm_step X8.here [X8.here.top, hx, (hb hby d8_32), X8.method', Bd.returns, Value.isRef, FieldType.isReference]
    first | (intro acts; rw [hr _ acts rfl rfl rfl]) | rw [hr _ _ rfl rfl rfl]
    exact Steps.refl _
  · show Q_cpI3_2 Z oo ko v0 v1 v2 h0 n0 _ T8.heap _
    rw [e8]
    exact ⟨b2, k2, rfl, N8, K8, ge_b2, sz_b2, V8, E10⟩

theorem ef_cpJ3_2 (m : MethodId) (x0 : Addr) (x1 : Int32) : entryFrame m #[(.ref x0), (.int x1)] 3 = mkF m 0 #[.val (.ref x0), .val (.int x1), .unset] [] := by first | (simp [entryFrame, mkF, argsToLocals, Value.category]; done) | rfl
def Q_cpJ3_2 (Z : State) (oo : Addr) (ko : ClassId) (v0 : Int64) (v1 : Int64) (v2 : Int64) (h0 : Heap) (n0 : Nat) (v : Option Value) (h : Heap) (L : List Loc) : Prop := ∃ xx : Addr, ∃ kx : ClassId, v = some (.ref xx) ∧ Fr n0 L ∧ Keep h0 h [] ∧ n0 ≤ xx ∧ h0.size ≤ xx ∧ Arv Z h xx kx .long (2 : Int32) [(.long v0), (.long v1)] (.long (0 : Int64)) ∧ Exa Z h xx "[J"
set_option maxRecDepth 65536 in
set_option maxHeartbeats 40000000 in
theorem rm_cpJ3_2 (l : Launch) (Z : State) (a0 : Array Value) (hw : ∀ d ∈ tables_1, d.before a0 Z = true) (ws : List Jvm.Cond) (oo : Addr) (ko : ClassId) (v0 : Int64) (v1 : Int64) (v2 : Int64) (h0 : Heap) (n0 : Nat) (Z0 : n0 ≤ h0.size) (H0_A : Arv Z h0 oo ko .long (3 : Int32) [(.long v0), (.long v1), (.long v2)] (.long (0 : Int64))) :
    MetFree l (⟨"java/util/Arrays", "copyOf", "([JI)[J"⟩ : MethodName) (head1 (Jvm.Cond.code (⟨"java/util/Arrays", "copyOf", "([JI)[J"⟩ : MethodName) jdk_65_method_124_code 3 (some (.array .long)) :: ws) ({ frames := 1, cells := 1, slots := 2, locals := 18 } : Room)) (fun as_ U_ => as_ = #[(.ref oo), (.int (2 : Int32))] ∧ Z.Warmed39 U_.vm ∧ U_.heap = h0) (fun _ _ _ _ _ => True) (fun _ U o U' => ∃ v L, o = .returned v ∧ Q_cpJ3_2 Z oo ko v0 v1 v2 h0 n0 v U'.heap L ∧ FrameEnd U o U' L ({ frames := 1, cells := 1, slots := 2, locals := 18 } : Room).cells ({ frames := 1, cells := 1, slots := 2, locals := 18 } : Room).slots) := by
  refine MetFree.of_bodySF (plainFor_of_name pn_0) hisR ?_
  intro p e s m args below meth c s₁ Bd hml0 hP hK
  obtain ⟨rfl, hZ, hhp_⟩ := hP
  have hx := Bd.exec
  have hby := Bd.bytes
  have hml : c.maxLocals = 3 := hml0
  have hown : s.vm.findClass "java/util/Arrays" = some m.cls := findClass_of_methodNamed Bd.named
  have hnm := (name_of_methodNamed Bd.named Bd.method).1
  have X0 : Stand p l e ({ frames := 1, cells := 1, slots := 2, locals := 18 } : Room) s m #[(.ref oo), (.int (2 : Int32))] below meth c s₁ [] 0 0 := Stand.of_body Bd
  have e0 : s₁.heap = h0 := by rw [← hhp_, Bd.state]; rfl
  have N0 := Fr.nil n0
  have pre0 : ∀ t, Steps p.tables e below (s₁.setTop (mkF m 0 #[.val (.ref oo), .val (.int (2 : Int32)), .unset] [])) t → Steps p.tables e below (s₁.setTop (entryFrame m #[(.ref oo), (.int (2 : Int32))] 3)) t := fun t k => castTop (ef_cpJ3_2 m oo (2 : Int32)) k
  have K0 : Keep h0 h0 [] := Keep.refl h0 []
  have oc1 := H0_A
  obtain ⟨c1, Arc1, qc1, Sc1, Nc1, Hc1, Gc1⟩ := oc1
  obtain ⟨T2, h2, k2, X2, e2, E2, A2, Ea2, st2⟩ := newPE X0 hx hZ (own_w hw 56 rfl) e0 (g := (mkF m 15 #[.val (.ref oo), .val (.int (2 : Int32)), .unset] [(.int (2 : Int32))])) rfl (hb hby d10_15) rfl (by decide) (cap := 2) (by decide) (by decide) (by decide) (by decide) (ad := "[J") own_nm_long
  obtain ⟨b2, g2⟩ : ∃ z, z = h0.size := ⟨_, rfl⟩
  have ne_oo_b2 : oo ≠ b2 := Nat.ne_of_lt (Nat.lt_of_lt_of_le H0_A.lt (Nat.le_of_eq g2.symm))
  have ge_b2 : n0 ≤ b2 := Nat.le_trans Z0 (Nat.le_of_eq g2.symm)
  have sz_b2 : h0.size ≤ b2 := Nat.le_trans K0.1 (Nat.le_of_eq g2.symm)
  rw [← g2] at A2 Ea2 st2
  have A3 := H0_A.ext E2
  have K2 : Keep h0 h2 [] := K0.ext E2
  have Zs4 : n0 ≤ h2.size := (Nat.le_trans Z0 E2.1)
  have V2 : Arv Z h2 b2 k2 .long (2 : Int32) [(.long (0 : Int64)), (.long (0 : Int64))] (.long (0 : Int64)) := (Arv.new A2 (by decide)).pad (pad_rep [] (.long (0 : Int64)) 2)
  have oc5 := A3
  obtain ⟨c5, Arc5, qc5, Sc5, Nc5, Hc5, Gc5⟩ := oc5
  obtain ⟨_, _, ⟨T6, L6, k6, n6⟩, -, X6, ⟨Lc6, hQ6, l6, y6, z6⟩, st6⟩ := Jvm.LawKit.callS X2 hx (y := (⟨"java/lang/Math", "min", "(II)I"⟩ : MethodName)) hown (mvT hZ (own_w hw 45 rfl)) (mvT hZ (own_w hw 46 rfl)) (mvT hZ (own_w hw 47 rfl)) (mvT hZ (own_w hw 48 rfl)) (by decide) (backOf (W := 4) (rm_mi l Z a0 hw [] (3 : Int32) (2 : Int32) (2 : Int32) h2 n0 Zs4 (by decide) (by decide)) hZ (own_w hw 48 rfl) (own_w hw 47 rfl) (by decide) (by decide)) (g := (mkF m 25 #[.val (.ref oo), .val (.int (2 : Int32)), .val (.ref b2)] [(.int (2 : Int32)), (.int (3 : Int32)), (.int (0 : Int32)), (.ref b2), (.int (0 : Int32)), (.ref oo)])) rfl (by rw [hml]; rfl) (argsL := [(.int (3 : Int32)), (.int (2 : Int32))]) (rest := [(.int (0 : Int32)), (.ref b2), (.int (0 : Int32)), (.ref oo)]) (lenOf pd_2 rfl) rfl (by show 2 * 0 + _ ≤ _; exact Nat.le_of_eq rfl) (hb hby d10_25) (fun _ _ => ⟨rfl, e2, (by decide : 1 + 0 ≤ _), (by decide : 2 + 0 ≤ _)⟩)
  dsimp only [Pt.U, Pt.locs, Pt.cells, Pt.slots] at X6 l6 y6 z6 st6 hQ6
  subst l6 y6 z6
  obtain ⟨rfl, N6q, hq7⟩ := hQ6
  have N6 := Fr.app N0 N6q
  obtain ⟨T8, h8, L8, X8, e8, N8, K8q, A8, st8⟩ := cpA X6 hx hZ hown (own_w hw 49 rfl) (own_w hw 52 rfl) (own_w hw 50 rfl) (own_w hw 51 rfl) hq7 A3 V2 (Or.inl ⟨rfl, rfl⟩) (by decide) (by decide) (by decide) (by decide) (by decide) (us := [(.long v0), (.long v1)]) rfl (Nat.le_of_ble_eq_true rfl) N6 ge_b2 (g := (mkF m 28 #[.val (.ref oo), .val (.int (2 : Int32)), .val (.ref b2)] [(.int (2 : Int32)), (.int (0 : Int32)), (.ref b2), (.int (0 : Int32)), (.ref oo)])) rfl (by rw [hml]; rfl) rfl (hb hby d10_28) (by decide) (W := 0) (by show 2 * 0 + _ ≤ _; exact Nat.le_of_eq rfl) (by decide)
  have V8 : Arv Z h8 b2 k2 .long (2 : Int32) [(.long v0), (.long v1)] (.long (0 : Int64)) := A8
  have A9 := A3.keep K8q (ninS ne_oo_b2 nin0)
  have E10 := Ea2.keep K8q
  have K8 : Keep h0 h8 [] := K2.trans K8q (allS (Or.inr sz_b2) all0)
  have Zs11 : n0 ≤ h8.size := (Nat.le_trans Zs4 K8q.1)
  have pre12 := fun (t : State) (k : Steps p.tables e below (T8.setTop (mkF m 32 #[.val (.ref oo), .val (.int (2 : Int32)), .val (.ref b2)] [(.ref b2)])) t) => pre0 t (by
    refine XS.iloadN X0.here hx rfl (hb hby d10_0) rfl ?_
    refine XS.aloadN X0.here hx rfl (hb hby d10_1) rfl rfl ?_
    refine X0.arraylength hx (by rw [e0]; exact Arc1.1) (State.isArrayOf_alike hZ.alike Arc1.2.1) (g := (mkF m 2 #[.val (.ref oo), .val (.int (2 : Int32)), .unset] [(.ref oo), (.int (2 : Int32))])) rfl rfl (hb hby d10_2) _ ?_
    rw [show c1.slots.size.toInt32 = (3 : Int32) from (len_of Sc1 Nc1)]
    refine XS.icmpYes X0.here hx rfl (pc0 := 3) (pc' := 14) rfl (hb hby d10_3) rfl (feq (by decide : ¬ ((2 : Int32) = (3 : Int32)))).2 (by decide) (by decide) ?_
    refine XS.iloadN X0.here hx rfl (hb hby d10_14) rfl ?_
    refine st2 _ ?_
    refine XS.astoreN X2.here hx rfl (hb hby d10_17) rfl rfl (l' := #[.val (.ref oo), .val (.int (2 : Int32)), .val (.ref b2)]) rfl ?_
    refine XS.aloadN X2.here hx rfl (hb hby d10_18) rfl rfl ?_
    refine XS.iconst X2.here hx rfl (hb hby d10_19) ?_
    refine XS.aloadN X2.here hx rfl (hb hby d10_20) rfl rfl ?_
    refine XS.iconst X2.here hx rfl (hb hby d10_21) ?_
    refine XS.aloadN X2.here hx rfl (hb hby d10_22) rfl rfl ?_
    refine X2.arraylength hx (by rw [e2]; exact Arc5.1) (State.isArrayOf_alike hZ.alike Arc5.2.1) (g := (mkF m 23 #[.val (.ref oo), .val (.int (2 : Int32)), .val (.ref b2)] [(.ref oo), (.int (0 : Int32)), (.ref b2), (.int (0 : Int32)), (.ref oo)])) rfl rfl (hb hby d10_23) _ ?_
    rw [show c5.slots.size.toInt32 = (3 : Int32) from (len_of Sc5 Nc5)]
    refine XS.iloadN X2.here hx rfl (hb hby d10_24) rfl ?_
    refine st6 _ ?_
    refine st8 _ ?_
    refine XS.aloadN X8.here hx rfl (hb hby d10_31) rfl rfl ?_
    exact k)
  obtain ⟨fs, hr, hrun, hended, hW, hsame⟩ := X8.leave (v := some (.ref b2)) (hlocks := BodyLoose.notSynchronized Bd) (fun h => by rw [Bd.returns] at h; cases h)
  refine ⟨_, _, pre12 _ ?_, hrun, hended, _, _, rfl, ?_, ⟨_, rfl⟩, hW, hsame.mono (by decide) (by decide)⟩
  · jvm_step X8.here [X8.here.top, hx, (hb hby d10_32), X8.method', Bd.returns, Value.isRef, FieldType.isReference]
    first | (intro acts; rw [hr _ acts rfl rfl rfl]) | rw [hr _ _ rfl rfl rfl]
    exact Steps.refl _
  · show Q_cpJ3_2 Z oo ko v0 v1 v2 h0 n0 _ T8.heap _
    rw [e8]
    exact ⟨b2, k2, rfl, N8, K8, ge_b2, sz_b2, V8, E10⟩

theorem ef_rvN (m : MethodId) (x0 : Addr) (x1 : Int32) : entryFrame m #[(.ref x0), (.int x1)] 3 = mkF m 0 #[.val (.ref x0), .val (.int x1), .unset] [] := by first | (simp [entryFrame, mkF, argsToLocals, Value.category]; done) | rfl
def Q_rvN (Z : State) (dd : Addr) (ka : Addr) (kk : ClassId) (cap : Int32) (kv : List Value) (need : Int32) (h0 : Heap) (n0 : Nat) (v : Option Value) (h : Heap) (L : List Loc) : Prop := v = none ∧ Fr n0 L ∧ h = h0
set_option maxRecDepth 65536 in
set_option maxHeartbeats 40000000 in
theorem rm_rvN (l : Launch) (Z : State) (a0 : Array Value) (hw : ∀ d ∈ tables_1, d.before a0 Z = true) (ws : List Jvm.Cond) (dd : Addr) (ka : Addr) (kk : ClassId) (cap : Int32) (kv : List Value) (need : Int32) (h0 : Heap) (n0 : Nat) (Z0 : n0 ≤ h0.size) (H0_E : Exa Z h0 dd "org/tallyrole/core/Dependencies") (H1_F : Fld Z h0 dd "org/tallyrole/core/Dependencies" "keys" "[I" (.ref ka)) (H2_F : Fld Z h0 dd "org/tallyrole/core/Dependencies" "shared" "Z" (.int (0 : Int32))) (H3_A : Arv Z h0 ka kk .int cap kv (.int (0 : Int32))) (hcap : ¬ (cap < need)) :
    MetFree l (⟨"org/tallyrole/core/Dependencies", "reserve", "(I)V"⟩ : MethodName) (head1 (Jvm.Cond.code (⟨"org/tallyrole/core/Dependencies", "reserve", "(I)V"⟩ : MethodName) prog_36_method_10_code 3 none :: ws) ({ frames := 0, cells := 0, slots := 0, locals := 0 } : Room)) (fun as_ U_ => as_ = #[(.ref dd), (.int need)] ∧ Z.Warmed39 U_.vm ∧ U_.heap = h0) (fun _ _ _ _ _ => True) (fun _ U o U' => ∃ v L, o = .returned v ∧ Q_rvN Z dd ka kk cap kv need h0 n0 v U'.heap L ∧ FrameEnd U o U' L ({ frames := 0, cells := 0, slots := 0, locals := 0 } : Room).cells ({ frames := 0, cells := 0, slots := 0, locals := 0 } : Room).slots) := by
  refine MetFree.of_bodySF (plainFor_of_name pn_1) hisR ?_
  intro p e s m args below meth c s₁ Bd hml0 hP hK
  obtain ⟨rfl, hZ, hhp_⟩ := hP
  have hx := Bd.exec
  have hby := Bd.bytes
  have hml : c.maxLocals = 3 := hml0
  have hown : s.vm.findClass "org/tallyrole/core/Dependencies" = some m.cls := findClass_of_methodNamed Bd.named
  have hnm := (name_of_methodNamed Bd.named Bd.method).1
  have X0 : Stand p l e ({ frames := 0, cells := 0, slots := 0, locals := 0 } : Room) s m #[(.ref dd), (.int need)] below meth c s₁ [] 0 0 := Stand.of_body Bd
  have e0 : s₁.heap = h0 := by rw [← hhp_, Bd.state]; rfl
  have N0 := Fr.nil n0
  have pre0 : ∀ t, Steps p.tables e below (s₁.setTop (mkF m 0 #[.val (.ref dd), .val (.int need), .unset] [])) t → Steps p.tables e below (s₁.setTop (entryFrame m #[(.ref dd), (.int need)] 3)) t := fun t k => castTop (ef_rvN m dd need) k
  obtain ⟨T1, X1, e1, st1⟩ := getF X0 hx hZ hown (host := "") (Or.inl (own_w hw 12 rfl)) Via.refl e0 H1_F (g := (mkF m 1 #[.val (.ref dd), .val (.int need), .unset] [(.ref dd)])) rfl rfl (hb hby d7_1)
  have oc2 := H3_A
  obtain ⟨c2, Arc2, qc2, Sc2, Nc2, Hc2, Gc2⟩ := oc2
  obtain ⟨T3, X3, e3, st3⟩ := getF X1 hx hZ hown (host := "") (Or.inl (own_w hw 39 rfl)) Via.refl e1 H2_F (g := (mkF m 7 #[.val (.ref dd), .val (.int need), .val (.int cap)] [(.ref dd)])) rfl rfl (hb hby d7_7)
  obtain ⟨T4, X4, e4, st4⟩ := getF X3 hx hZ hown (host := "") (Or.inl (own_w hw 12 rfl)) Via.refl e3 H1_F (g := (mkF m 31 #[.val (.ref dd), .val (.int need), .val (.int cap)] [(.ref dd), (.int cap)])) rfl rfl (hb hby d7_31)
  have oc5 := H3_A
  obtain ⟨c5, Arc5, qc5, Sc5, Nc5, Hc5, Gc5⟩ := oc5
  obtain ⟨T6, X6, e6, st6⟩ := getF X4 hx hZ hown (host := "") (Or.inl (own_w hw 39 rfl)) Via.refl e4 H2_F (g := (mkF m 39 #[.val (.ref dd), .val (.int need), .val (.int cap)] [(.ref dd)])) rfl rfl (hb hby d7_39)
  have pre7 := fun (t : State) (k : Steps p.tables e below (T6.setTop (mkF m 74 #[.val (.ref dd), .val (.int need), .val (.int cap)] [])) t) => pre0 t (by
    refine XS.aloadN X0.here hx rfl (hb hby d7_0) rfl rfl ?_
    refine st1 _ ?_
    refine X1.arraylength hx (by rw [e1]; exact Arc2.1) (State.isArrayOf_alike hZ.alike Arc2.2.1) (g := (mkF m 4 #[.val (.ref dd), .val (.int need), .unset] [(.ref ka)])) rfl rfl (hb hby d7_4) _ ?_
    rw [show c2.slots.size.toInt32 = cap from (len_of Sc2 Nc2)]
    refine XS.istoreN X1.here hx rfl (hb hby d7_5) rfl (l' := #[.val (.ref dd), .val (.int need), .val (.int cap)]) rfl ?_
    refine XS.aloadN X1.here hx rfl (hb hby d7_6) rfl rfl ?_
    refine st3 _ ?_
    refine XS.ifYes X3.here hx rfl (pc0 := 10) (pc' := 18) rfl (hb hby d7_10) rfl ((if0 _ _).trans (teq (by decide : (0 : Int32) = (0 : Int32))).1) (by decide) (by decide) ?_
    refine XS.iloadN X3.here hx rfl (hb hby d7_18) rfl ?_
    refine XS.iloadN X3.here hx rfl (hb hby d7_19) rfl ?_
    refine XS.icmpYes X3.here hx rfl (pc0 := 20) (pc' := 29) rfl (hb hby d7_20) rfl (flt hcap).2.2.2 (by decide) (by decide) ?_
    refine XS.iloadN X3.here hx rfl (hb hby d7_29) rfl ?_
    refine XS.aloadN X3.here hx rfl (hb hby d7_30) rfl rfl ?_
    refine st4 _ ?_
    refine X4.arraylength hx (by rw [e4]; exact Arc5.1) (State.isArrayOf_alike hZ.alike Arc5.2.1) (g := (mkF m 34 #[.val (.ref dd), .val (.int need), .val (.int cap)] [(.ref ka), (.int cap)])) rfl rfl (hb hby d7_34) _ ?_
    rw [show c5.slots.size.toInt32 = cap from (len_of Sc5 Nc5)]
    refine XS.icmpNo X4.here hx rfl (hb hby d7_35) rfl (teq (rfl : cap = cap)).2 ?_
    refine XS.aloadN X4.here hx rfl (hb hby d7_38) rfl rfl ?_
    refine st6 _ ?_
    refine XS.ifYes X6.here hx rfl (pc0 := 42) (pc' := 74) rfl (hb hby d7_42) rfl ((if0 _ _).trans (teq (by decide : (0 : Int32) = (0 : Int32))).1) (by decide) (by decide) ?_
    exact k)
  obtain ⟨fs, hr, hrun, hended, hW, hsame⟩ := X6.leave (v := none) (hlocks := BodyLoose.notSynchronized Bd) (fun _ => rfl)
  refine ⟨_, _, pre7 _ ?_, hrun, hended, _, _, rfl, ?_, ⟨_, rfl⟩, hW, hsame.mono (by decide) (by decide)⟩
  · exact X6.returnOut hx Bd.returns (hb hby d7_74) hr
  · show Q_rvN Z dd ka kk cap kv need h0 n0 _ T6.heap _
    rw [e6]
    exact ⟨rfl, N0, rfl⟩

theorem ef_rv0_1_0 (m : MethodId) (x0 : Addr) (x1 : Int32) : entryFrame m #[(.ref x0), (.int x1)] 3 = mkF m 0 #[.val (.ref x0), .val (.int x1), .unset] [] := by first | (simp [entryFrame, mkF, argsToLocals, Value.category]; done) | rfl
def Q_rv0_1_0 (Z : State) (dd : Addr) (ka : Addr) (wa : Addr) (kk : ClassId) (kw : ClassId) (sz : Int32) (h0 : Heap) (n0 : Nat) (v : Option Value) (h : Heap) (L : List Loc) : Prop := ∃ xk : Addr, ∃ xw : Addr, ∃ kxk : ClassId, ∃ kxw : ClassId, v = none ∧ Fr n0 L ∧ Keep h0 h [dd] ∧ n0 ≤ xk ∧ h0.size ≤ xk ∧ n0 ≤ xw ∧ h0.size ≤ xw ∧ dd ≠ xk ∧ dd ≠ xw ∧ xk ≠ xw ∧ Exa Z h dd "org/tallyrole/core/Dependencies" ∧ Fld Z h dd "org/tallyrole/core/Dependencies" "keys" "[I" (.ref xk) ∧ Fld Z h dd "org/tallyrole/core/Dependencies" "words" "[J" (.ref xw) ∧ Fld Z h dd "org/tallyrole/core/Dependencies" "size" "I" (.int sz) ∧ Fld Z h dd "org/tallyrole/core/Dependencies" "shared" "Z" (.int (0 : Int32)) ∧ Arv Z h xk kxk .int (1 : Int32) [(.int (0 : Int32))] (.int (0 : Int32)) ∧ Arv Z h xw kxw .long (1 : Int32) [(.long (0 : Int64))] (.long (0 : Int64)) ∧ Exa Z h xk "[I" ∧ Exa Z h xw "[J"
set_option maxRecDepth 65536 in
set_option maxHeartbeats 40000000 in
theorem rm_rv0_1_0 (l : Launch) (Z : State) (a0 : Array Value) (hw : ∀ d ∈ tables_1, d.before a0 Z = true) (ws : List Jvm.Cond) (dd : Addr) (ka : Addr) (wa : Addr) (kk : ClassId) (kw : ClassId) (sz : Int32) (h0 : Heap) (n0 : Nat) (Z0 : n0 ≤ h0.size) (H0_E : Exa Z h0 dd "org/tallyrole/core/Dependencies") (H1_F : Fld Z h0 dd "org/tallyrole/core/Dependencies" "keys" "[I" (.ref ka)) (H2_F : Fld Z h0 dd "org/tallyrole/core/Dependencies" "words" "[J" (.ref wa)) (H3_F : Fld Z h0 dd "org/tallyrole/core/Dependencies" "size" "I" (.int sz)) (H4_F : Fld Z h0 dd "org/tallyrole/core/Dependencies" "shared" "Z" (.int (0 : Int32))) (H5_A : Arv Z h0 ka kk .int (0 : Int32) [] (.int (0 : Int32))) (H6_A : Arv Z h0 wa kw .long (0 : Int32) [] (.long (0 : Int64))) (hdd : n0 ≤ dd) (hn1 : dd ≠ ka) (hn2 : dd ≠ wa) :
    MetFree l (⟨"org/tallyrole/core/Dependencies", "reserve", "(I)V"⟩ : MethodName) (head1 (Jvm.Cond.code (⟨"org/tallyrole/core/Dependencies", "reserve", "(I)V"⟩ : MethodName) prog_36_method_10_code 3 none :: ws) ({ frames := 2, cells := 2, slots := 2, locals := 33 } : Room)) (fun as_ U_ => as_ = #[(.ref dd), (.int (1 : Int32))] ∧ Z.Warmed39 U_.vm ∧ U_.heap = h0) (fun _ _ _ _ _ => True) (fun _ U o U' => ∃ v L, o = .returned v ∧ Q_rv0_1_0 Z dd ka wa kk kw sz h0 n0 v U'.heap L ∧ FrameEnd U o U' L ({ frames := 2, cells := 2, slots := 2, locals := 33 } : Room).cells ({ frames := 2, cells := 2, slots := 2, locals := 33 } : Room).slots) := by
  refine MetFree.of_bodySF (plainFor_of_name pn_1) hisR ?_
  intro p e s m args below meth c s₁ Bd hml0 hP hK
  obtain ⟨rfl, hZ, hhp_⟩ := hP
  have hx := Bd.exec
  have hby := Bd.bytes
  have hml : c.maxLocals = 3 := hml0
  have hown : s.vm.findClass "org/tallyrole/core/Dependencies" = some m.cls := findClass_of_methodNamed Bd.named
  have hnm := (name_of_methodNamed Bd.named Bd.method).1
  have X0 : Stand p l e ({ frames := 2, cells := 2, slots := 2, locals := 33 } : Room) s m #[(.ref dd), (.int (1 : Int32))] below meth c s₁ [] 0 0 := Stand.of_body Bd
  have e0 : s₁.heap = h0 := by rw [← hhp_, Bd.state]; rfl
  have N0 := Fr.nil n0
  have pre0 : ∀ t, Steps p.tables e below (s₁.setTop (mkF m 0 #[.val (.ref dd), .val (.int (1 : Int32)), .unset] [])) t → Steps p.tables e below (s₁.setTop (entryFrame m #[(.ref dd), (.int (1 : Int32))] 3)) t := fun t k => castTop (ef_rv0_1_0 m dd (1 : Int32)) k
  have K0 : Keep h0 h0 [dd] := Keep.refl h0 [dd]
  obtain ⟨T1, X1, e1, st1⟩ := getF X0 hx hZ hown (host := "") (Or.inl (own_w hw 12 rfl)) Via.refl e0 H1_F (g := (mkF m 1 #[.val (.ref dd), .val (.int (1 : Int32)), .unset] [(.ref dd)])) rfl rfl (hb hby d7_1)
  have oc2 := H5_A
  obtain ⟨c2, Arc2, qc2, Sc2, Nc2, Hc2, Gc2⟩ := oc2
  obtain ⟨T3, X3, e3, st3⟩ := getF X1 hx hZ hown (host := "") (Or.inl (own_w hw 39 rfl)) Via.refl e1 H4_F (g := (mkF m 7 #[.val (.ref dd), .val (.int (1 : Int32)), .val (.int (0 : Int32))] [(.ref dd)])) rfl rfl (hb hby d7_7)
  obtain ⟨T4, X4, e4, st4⟩ := getF X3 hx hZ hown (host := "") (Or.inl (own_w hw 12 rfl)) Via.refl e3 H1_F (g := (mkF m 31 #[.val (.ref dd), .val (.int (1 : Int32)), .val (.int (1 : Int32))] [(.ref dd), (.int (1 : Int32))])) rfl rfl (hb hby d7_31)
  have oc5 := H5_A
  obtain ⟨c5, Arc5, qc5, Sc5, Nc5, Hc5, Gc5⟩ := oc5
  obtain ⟨T6, X6, e6, st6⟩ := getF X4 hx hZ hown (host := "") (Or.inl (own_w hw 12 rfl)) Via.refl e4 H1_F (g := (mkF m 47 #[.val (.ref dd), .val (.int (1 : Int32)), .val (.int (1 : Int32))] [(.ref dd), (.ref dd)])) rfl rfl (hb hby d7_47)
  obtain ⟨_, _, ⟨T7, L7, k7, n7⟩, -, X7, ⟨Lc7, hQ7, l7, y7, z7⟩, st7⟩ := Jvm.LawKit.callS X6 hx (y := (⟨"java/util/Arrays", "copyOf", "([II)[I"⟩ : MethodName)) hown (mvT hZ (own_w hw 41 rfl)) (mvT hZ (own_w hw 42 rfl)) (mvT hZ (own_w hw 27 rfl)) (mvT hZ (own_w hw 43 rfl)) (by decide) (backOf (W := 1) (rm_cpI0_1 l Z a0 hw [] ka kk h0 n0 Z0 H5_A) hZ (own_w hw 43 rfl) (own_w hw 27 rfl) (by decide) (by decide)) (g := (mkF m 51 #[.val (.ref dd), .val (.int (1 : Int32)), .val (.int (1 : Int32))] [(.int (1 : Int32)), (.ref ka), (.ref dd)])) rfl (by rw [hml]; rfl) (argsL := [(.ref ka), (.int (1 : Int32))]) (rest := [(.ref dd)]) (lenOf pd_3 rfl) rfl (by show 2 * 0 + _ ≤ _; exact Nat.le_of_eq rfl) (hb hby d7_51) (fun _ _ => ⟨rfl, e6, (by decide : 0 + 1 ≤ _), (by decide : 0 + 1 ≤ _)⟩)
  dsimp only [Pt.U, Pt.locs, Pt.cells, Pt.slots] at X7 l7 y7 z7 st7 hQ7
  subst l7 y7 z7
  obtain ⟨x8, x9, rfl, N7q, hq10, hpq11, hpq12, A13, E14⟩ := hQ7
  have N7 := Fr.app N0 N7q
  have lt15 : dd < h0.size := H0_E.lt
  have lt16 : ka < h0.size := H5_A.lt
  have lt17 : wa < h0.size := H6_A.lt
  have E18 := H0_E.keep hq10
  have F19 := H1_F.keep hq10 nin0
  have F20 := H2_F.keep hq10 nin0
  have F21 := H3_F.keep hq10 nin0
  have F22 := H4_F.keep hq10 nin0
  have A23 := H5_A.keep hq10 nin0
  have A24 := H6_A.keep hq10 nin0
  have K7 : Keep h0 T7.heap [dd] := K0.trans hq10 all0
  have Zs25 : n0 ≤ T7.heap.size := (Nat.le_trans Z0 hq10.1)
  have ne26 : dd ≠ x8 := Nat.ne_of_lt (Nat.lt_of_lt_of_le lt15 hpq12)
  have ne27 : ka ≠ x8 := Nat.ne_of_lt (Nat.lt_of_lt_of_le lt16 hpq12)
  have ne28 : wa ≠ x8 := Nat.ne_of_lt (Nat.lt_of_lt_of_le lt17 hpq12)
  have sz29 : h0.size ≤ x8 := Nat.le_trans K0.1 hpq12
  obtain ⟨T30, h30, X30, e30, W30, st30⟩ := putF X7 hx hZ hown (host := "") (Or.inl (own_w hw 12 rfl)) Via.refl rfl F19 E18 (Or.inl (own_w hw 13 rfl)) (own_w hw 2 rfl) (ty := (.array .int)) (by decide) rfl rfl (g := (mkF m 54 #[.val (.ref dd), .val (.int (1 : Int32)), .val (.int (1 : Int32))] [(.ref x8), (.ref dd)])) rfl rfl (hb hby d7_54)
  have Fw30 : Fld Z h30 dd "org/tallyrole/core/Dependencies" "keys" "[I" (.ref x8) := F19.same W30
  have E31 := E18.wr W30
  have F32 := F20.other W30 (Or.inr (slot_ne (Or.inl (own_w hw 17 rfl)) (Or.inl (own_w hw 13 rfl)) (by decide) (t := (.array .long)) (t' := (.array .int)) (by decide) (by decide)))
  have F33 := F21.other W30 (Or.inr (slot_ne (Or.inl (own_w hw 24 rfl)) (Or.inl (own_w hw 13 rfl)) (by decide) (t := .int) (t' := (.array .int)) (by decide) (by decide)))
  have F34 := F22.other W30 (Or.inr (slot_ne (Or.inl (own_w hw 40 rfl)) (Or.inl (own_w hw 13 rfl)) (by decide) (t := .boolean) (t' := (.array .int)) (by decide) (by decide)))
  have A35 := A23.other W30 (Ne.symm hn1)
  have A36 := A24.other W30 (Ne.symm hn2)
  have A37 := A13.other W30 (Ne.symm ne26)
  have E38 := E14.wr W30
  have N30 := Fr.snoc X30 N7 hdd
  have K30 : Keep h0 h30 [dd] := K7.wr W30 (Or.inl (List.mem_of_getElem? (i := 0) rfl))
  have Zs39 : n0 ≤ h30.size := (Nat.le_trans Zs25 (Keep.of_wr W30).1)
  obtain ⟨T40, X40, e40, st40⟩ := getF X30 hx hZ hown (host := "") (Or.inl (own_w hw 16 rfl)) Via.refl e30 F32 (g := (mkF m 59 #[.val (.ref dd), .val (.int (1 : Int32)), .val (.int (1 : Int32))] [(.ref dd), (.ref dd)])) rfl rfl (hb hby d7_59)
  obtain ⟨_, _, ⟨T41, L41, k41, n41⟩, -, X41, ⟨Lc41, hQ41, l41, y41, z41⟩, st41⟩ := Jvm.LawKit.callS X40 hx (y := (⟨"java/util/Arrays", "copyOf", "([JI)[J"⟩ : MethodName)) hown (mvT hZ (own_w hw 53 rfl)) (mvT hZ (own_w hw 54 rfl)) (mvT hZ (own_w hw 27 rfl)) (mvT hZ (own_w hw 55 rfl)) (by decide) (backOf (W := 1) (rm_cpJ0_1 l Z a0 hw [] wa kw h30 n0 Zs39 A36) hZ (own_w hw 55 rfl) (own_w hw 27 rfl) (by decide) (by decide)) (g := (mkF m 63 #[.val (.ref dd), .val (.int (1 : Int32)), .val (.int (1 : Int32))] [(.int (1 : Int32)), (.ref wa), (.ref dd)])) rfl (by rw [hml]; rfl) (argsL := [(.ref wa), (.int (1 : Int32))]) (rest := [(.ref dd)]) (lenOf pd_4 rfl) rfl (by show 2 * 0 + _ ≤ _; exact Nat.le_of_eq rfl) (hb hby d7_63) (fun _ _ => ⟨rfl, e40, (by decide : 1 + 1 ≤ _), (by decide : 1 + 1 ≤ _)⟩)
  dsimp only [Pt.U, Pt.locs, Pt.cells, Pt.slots] at X41 l41 y41 z41 st41 hQ41
  subst l41 y41 z41
  obtain ⟨x42, x43, rfl, N41q, hq44, hpq45, hpq46, A47, E48⟩ := hQ41
  have N41 := Fr.app N30 N41q
  have lt49 : dd < h30.size := E31.lt
  have lt50 : ka < h30.size := A35.lt
  have lt51 : wa < h30.size := A36.lt
  have lt52 : x8 < h30.size := A37.lt
  have E53 := E31.keep hq44
  have F54 := F32.keep hq44 nin0
  have F55 := F33.keep hq44 nin0
  have F56 := F34.keep hq44 nin0
  have A57 := A35.keep hq44 nin0
  have A58 := A36.keep hq44 nin0
  have A59 := A37.keep hq44 nin0
  have E60 := E38.keep hq44
  have F61 := Fw30.keep hq44 nin0
  have K41 : Keep h0 T41.heap [dd] := K30.trans hq44 all0
  have Zs62 : n0 ≤ T41.heap.size := (Nat.le_trans Zs39 hq44.1)
  have ne63 : dd ≠ x42 := Nat.ne_of_lt (Nat.lt_of_lt_of_le lt49 hpq46)
  have ne64 : ka ≠ x42 := Nat.ne_of_lt (Nat.lt_of_lt_of_le lt50 hpq46)
  have ne65 : wa ≠ x42 := Nat.ne_of_lt (Nat.lt_of_lt_of_le lt51 hpq46)
  have ne66 : x8 ≠ x42 := Nat.ne_of_lt (Nat.lt_of_lt_of_le lt52 hpq46)
  have sz67 : h0.size ≤ x42 := Nat.le_trans K30.1 hpq46
  obtain ⟨T68, h68, X68, e68, W68, st68⟩ := putF X41 hx hZ hown (host := "") (Or.inl (own_w hw 16 rfl)) Via.refl rfl F54 E53 (Or.inl (own_w hw 17 rfl)) (own_w hw 2 rfl) (ty := (.array .long)) (by decide) rfl rfl (g := (mkF m 66 #[.val (.ref dd), .val (.int (1 : Int32)), .val (.int (1 : Int32))] [(.ref x42), (.ref dd)])) rfl rfl (hb hby d7_66)
  have Fw68 : Fld Z h68 dd "org/tallyrole/core/Dependencies" "words" "[J" (.ref x42) := F54.same W68
  have E69 := E53.wr W68
  have F70 := F55.other W68 (Or.inr (slot_ne (Or.inl (own_w hw 24 rfl)) (Or.inl (own_w hw 17 rfl)) (by decide) (t := .int) (t' := (.array .long)) (by decide) (by decide)))
  have F71 := F56.other W68 (Or.inr (slot_ne (Or.inl (own_w hw 40 rfl)) (Or.inl (own_w hw 17 rfl)) (by decide) (t := .boolean) (t' := (.array .long)) (by decide) (by decide)))
  have A72 := A57.other W68 (Ne.symm hn1)
  have A73 := A58.other W68 (Ne.symm hn2)
  have A74 := A59.other W68 (Ne.symm ne26)
  have E75 := E60.wr W68
  have F76 := F61.other W68 (Or.inr (slot_ne (Or.inl (own_w hw 13 rfl)) (Or.inl (own_w hw 17 rfl)) (by decide) (t := (.array .int)) (t' := (.array .long)) (by decide) (by decide)))
  have A77 := A47.other W68 (Ne.symm ne63)
  have E78 := E48.wr W68
  have N68 := Fr.snoc X68 N41 hdd
  have K68 : Keep h0 h68 [dd] := K41.wr W68 (Or.inl (List.mem_of_getElem? (i := 0) rfl))
  have Zs79 : n0 ≤ h68.size := (Nat.le_trans Zs62 (Keep.of_wr W68).1)
  obtain ⟨T80, h80, X80, e80, W80, st80⟩ := putFN X68 hx hZ hown (own_w hw 39 rfl) Via.refl e68 F71 E69 (Or.inl (own_w hw 40 rfl)) (own_w hw 2 rfl) (ty := .boolean) (v' := (.int (0 : Int32))) (by decide) rfl rfl (g := (mkF m 71 #[.val (.ref dd), .val (.int (1 : Int32)), .val (.int (1 : Int32))] [(.int (0 : Int32)), (.ref dd)])) rfl rfl (hb hby d7_71)
  have Fw80 : Fld Z h80 dd "org/tallyrole/core/Dependencies" "shared" "Z" (.int (0 : Int32)) := F71.same W80
  have E81 := E69.wr W80
  have F82 := F70.other W80 (Or.inr (slot_ne (Or.inl (own_w hw 24 rfl)) (Or.inl (own_w hw 40 rfl)) (by decide) (t := .int) (t' := .boolean) (by decide) (by decide)))
  have A83 := A72.other W80 (Ne.symm hn1)
  have A84 := A73.other W80 (Ne.symm hn2)
  have A85 := A74.other W80 (Ne.symm ne26)
  have E86 := E75.wr W80
  have F87 := F76.other W80 (Or.inr (slot_ne (Or.inl (own_w hw 13 rfl)) (Or.inl (own_w hw 40 rfl)) (by decide) (t := (.array .int)) (t' := .boolean) (by decide) (by decide)))
  have A88 := A77.other W80 (Ne.symm ne63)
  have E89 := E78.wr W80
  have F90 := Fw68.other W80 (Or.inr (slot_ne (Or.inl (own_w hw 17 rfl)) (Or.inl (own_w hw 40 rfl)) (by decide) (t := (.array .long)) (t' := .boolean) (by decide) (by decide)))
  have N80 := Fr.snoc X80 N68 hdd
  have K80 : Keep h0 h80 [dd] := K68.wr W80 (Or.inl (List.mem_of_getElem? (i := 0) rfl))
  have Zs91 : n0 ≤ h80.size := (Nat.le_trans Zs79 (Keep.of_wr W80).1)
  have pre92 := fun (t : State) (k : Steps p.tables e below (T80.setTop (mkF m 74 #[.val (.ref dd), .val (.int (1 : Int32)), .val (.int (1 : Int32))] [])) t) => pre0 t (by
    refine XS.aloadN X0.here hx rfl (hb hby d7_0) rfl rfl ?_
    refine st1 _ ?_
    refine X1.arraylength hx (by rw [e1]; exact Arc2.1) (State.isArrayOf_alike hZ.alike Arc2.2.1) (g := (mkF m 4 #[.val (.ref dd), .val (.int (1 : Int32)), .unset] [(.ref ka)])) rfl rfl (hb hby d7_4) _ ?_
    rw [show c2.slots.size.toInt32 = (0 : Int32) from (len_of Sc2 Nc2)]
    refine XS.istoreN X1.here hx rfl (hb hby d7_5) rfl (l' := #[.val (.ref dd), .val (.int (1 : Int32)), .val (.int (0 : Int32))]) rfl ?_
    refine XS.aloadN X1.here hx rfl (hb hby d7_6) rfl rfl ?_
    refine st3 _ ?_
    refine XS.ifYes X3.here hx rfl (pc0 := 10) (pc' := 18) rfl (hb hby d7_10) rfl ((if0 _ _).trans (teq (by decide : (0 : Int32) = (0 : Int32))).1) (by decide) (by decide) ?_
    refine XS.iloadN X3.here hx rfl (hb hby d7_18) rfl ?_
    refine XS.iloadN X3.here hx rfl (hb hby d7_19) rfl ?_
    refine XS.icmpNo X3.here hx rfl (hb hby d7_20) rfl (tlt (by decide : (0 : Int32) < (1 : Int32))).2.2.2 ?_
    refine XS.iloadN X3.here hx rfl (hb hby d7_23) rfl ?_
    refine XS.iloadN X3.here hx rfl (hb hby d7_24) rfl ?_
    refine XS.iconst X3.here hx rfl (hb hby d7_25) ?_
    refine XS.idiv X3.here hx rfl (hb hby d7_26) rfl (by decide) ?_
    refine XS.iadd X3.here hx rfl (hb hby d7_27) rfl ?_
    refine XS.istoreN X3.here hx rfl (hb hby d7_28) rfl (l' := #[.val (.ref dd), .val (.int (1 : Int32)), .val (.int (1 : Int32))]) rfl ?_
    refine XS.iloadN X3.here hx rfl (hb hby d7_29) rfl ?_
    refine XS.aloadN X3.here hx rfl (hb hby d7_30) rfl rfl ?_
    refine st4 _ ?_
    refine X4.arraylength hx (by rw [e4]; exact Arc5.1) (State.isArrayOf_alike hZ.alike Arc5.2.1) (g := (mkF m 34 #[.val (.ref dd), .val (.int (1 : Int32)), .val (.int (1 : Int32))] [(.ref ka), (.int (1 : Int32))])) rfl rfl (hb hby d7_34) _ ?_
    rw [show c5.slots.size.toInt32 = (0 : Int32) from (len_of Sc5 Nc5)]
    refine XS.icmpYes X4.here hx rfl (pc0 := 35) (pc' := 45) rfl (hb hby d7_35) rfl (feq (by decide : ¬ ((1 : Int32) = (0 : Int32)))).2 (by decide) (by decide) ?_
    refine XS.aloadN X4.here hx rfl (hb hby d7_45) rfl rfl ?_
    refine XS.aloadN X4.here hx rfl (hb hby d7_46) rfl rfl ?_
    refine st6 _ ?_
    refine XS.iloadN X6.here hx rfl (hb hby d7_50) rfl ?_
    refine st7 _ ?_
    refine st30 _ ?_
    refine XS.aloadN X30.here hx rfl (hb hby d7_57) rfl rfl ?_
    refine XS.aloadN X30.here hx rfl (hb hby d7_58) rfl rfl ?_
    refine st40 _ ?_
    refine XS.iloadN X40.here hx rfl (hb hby d7_62) rfl ?_
    refine st41 _ ?_
    refine st68 _ ?_
    refine XS.aloadN X68.here hx rfl (hb hby d7_69) rfl rfl ?_
    refine XS.iconst X68.here hx rfl (hb hby d7_70) ?_
    refine st80 _ ?_
    exact k)
  obtain ⟨fs, hr, hrun, hended, hW, hsame⟩ := X80.leave (v := none) (hlocks := BodyLoose.notSynchronized Bd) (fun _ => rfl)
  refine ⟨_, _, pre92 _ ?_, hrun, hended, _, _, rfl, ?_, ⟨_, rfl⟩, hW, hsame.mono (by decide) (by decide)⟩
  · exact X80.returnOut hx Bd.returns (hb hby d7_74) hr
  · show Q_rv0_1_0 Z dd ka wa kk kw sz h0 n0 _ T80.heap _
    rw [e80]
    exact ⟨x8, x42, x9, x43, rfl, N80, K80, hpq11, sz29, hpq45, sz67, ne26, ne63, ne66, E81, F87, F90, F82, Fw80, A85, A88, E86, E89⟩

theorem ef_rv1_2_0 (m : MethodId) (x0 : Addr) (x1 : Int32) : entryFrame m #[(.ref x0), (.int x1)] 3 = mkF m 0 #[.val (.ref x0), .val (.int x1), .unset] [] := by first | (simp [entryFrame, mkF, argsToLocals, Value.category]; done) | rfl
def Q_rv1_2_0 (Z : State) (dd : Addr) (ka : Addr) (wa : Addr) (kk : ClassId) (kw : ClassId) (sz : Int32) (v0 : Int32) (u0 : Int64) (h0 : Heap) (n0 : Nat) (v : Option Value) (h : Heap) (L : List Loc) : Prop := ∃ xk : Addr, ∃ xw : Addr, ∃ kxk : ClassId, ∃ kxw : ClassId, v = none ∧ Fr n0 L ∧ Keep h0 h [dd] ∧ n0 ≤ xk ∧ h0.size ≤ xk ∧ n0 ≤ xw ∧ h0.size ≤ xw ∧ dd ≠ xk ∧ dd ≠ xw ∧ xk ≠ xw ∧ Exa Z h dd "org/tallyrole/core/Dependencies" ∧ Fld Z h dd "org/tallyrole/core/Dependencies" "keys" "[I" (.ref xk) ∧ Fld Z h dd "org/tallyrole/core/Dependencies" "words" "[J" (.ref xw) ∧ Fld Z h dd "org/tallyrole/core/Dependencies" "size" "I" (.int sz) ∧ Fld Z h dd "org/tallyrole/core/Dependencies" "shared" "Z" (.int (0 : Int32)) ∧ Arv Z h xk kxk .int (3 : Int32) [(.int v0), (.int (0 : Int32)), (.int (0 : Int32))] (.int (0 : Int32)) ∧ Arv Z h xw kxw .long (3 : Int32) [(.long u0), (.long (0 : Int64)), (.long (0 : Int64))] (.long (0 : Int64)) ∧ Exa Z h xk "[I" ∧ Exa Z h xw "[J"
set_option maxRecDepth 65536 in
set_option maxHeartbeats 40000000 in
theorem rm_rv1_2_0 (l : Launch) (Z : State) (a0 : Array Value) (hw : ∀ d ∈ tables_1, d.before a0 Z = true) (ws : List Jvm.Cond) (dd : Addr) (ka : Addr) (wa : Addr) (kk : ClassId) (kw : ClassId) (sz : Int32) (v0 : Int32) (u0 : Int64) (h0 : Heap) (n0 : Nat) (Z0 : n0 ≤ h0.size) (H0_E : Exa Z h0 dd "org/tallyrole/core/Dependencies") (H1_F : Fld Z h0 dd "org/tallyrole/core/Dependencies" "keys" "[I" (.ref ka)) (H2_F : Fld Z h0 dd "org/tallyrole/core/Dependencies" "words" "[J" (.ref wa)) (H3_F : Fld Z h0 dd "org/tallyrole/core/Dependencies" "size" "I" (.int sz)) (H4_F : Fld Z h0 dd "org/tallyrole/core/Dependencies" "shared" "Z" (.int (0 : Int32))) (H5_A : Arv Z h0 ka kk .int (1 : Int32) [(.int v0)] (.int (0 : Int32))) (H6_A : Arv Z h0 wa kw .long (1 : Int32) [(.long u0)] (.long (0 : Int64))) (hdd : n0 ≤ dd) (hn1 : dd ≠ ka) (hn2 : dd ≠ wa) :
    MetFree l (⟨"org/tallyrole/core/Dependencies", "reserve", "(I)V"⟩ : MethodName) (head1 (Jvm.Cond.code (⟨"org/tallyrole/core/Dependencies", "reserve", "(I)V"⟩ : MethodName) prog_36_method_10_code 3 none :: ws) ({ frames := 2, cells := 2, slots := 6, locals := 33 } : Room)) (fun as_ U_ => as_ = #[(.ref dd), (.int (2 : Int32))] ∧ Z.Warmed39 U_.vm ∧ U_.heap = h0) (fun _ _ _ _ _ => True) (fun _ U o U' => ∃ v L, o = .returned v ∧ Q_rv1_2_0 Z dd ka wa kk kw sz v0 u0 h0 n0 v U'.heap L ∧ FrameEnd U o U' L ({ frames := 2, cells := 2, slots := 6, locals := 33 } : Room).cells ({ frames := 2, cells := 2, slots := 6, locals := 33 } : Room).slots) := by
  refine MetFree.of_bodySF (plainFor_of_name pn_1) hisR ?_
  intro p e s m args below meth c s₁ Bd hml0 hP hK
  obtain ⟨rfl, hZ, hhp_⟩ := hP
  have hx := Bd.exec
  have hby := Bd.bytes
  have hml : c.maxLocals = 3 := hml0
  have hown : s.vm.findClass "org/tallyrole/core/Dependencies" = some m.cls := findClass_of_methodNamed Bd.named
  have hnm := (name_of_methodNamed Bd.named Bd.method).1
  have X0 : Stand p l e ({ frames := 2, cells := 2, slots := 6, locals := 33 } : Room) s m #[(.ref dd), (.int (2 : Int32))] below meth c s₁ [] 0 0 := Stand.of_body Bd
  have e0 : s₁.heap = h0 := by rw [← hhp_, Bd.state]; rfl
  have N0 := Fr.nil n0
  have pre0 : ∀ t, Steps p.tables e below (s₁.setTop (mkF m 0 #[.val (.ref dd), .val (.int (2 : Int32)), .unset] [])) t → Steps p.tables e below (s₁.setTop (entryFrame m #[(.ref dd), (.int (2 : Int32))] 3)) t := fun t k => castTop (ef_rv1_2_0 m dd (2 : Int32)) k
  have K0 : Keep h0 h0 [dd] := Keep.refl h0 [dd]
  obtain ⟨T1, X1, e1, st1⟩ := getF X0 hx hZ hown (host := "") (Or.inl (own_w hw 12 rfl)) Via.refl e0 H1_F (g := (mkF m 1 #[.val (.ref dd), .val (.int (2 : Int32)), .unset] [(.ref dd)])) rfl rfl (hb hby d7_1)
  have oc2 := H5_A
  obtain ⟨c2, Arc2, qc2, Sc2, Nc2, Hc2, Gc2⟩ := oc2
  obtain ⟨T3, X3, e3, st3⟩ := getF X1 hx hZ hown (host := "") (Or.inl (own_w hw 39 rfl)) Via.refl e1 H4_F (g := (mkF m 7 #[.val (.ref dd), .val (.int (2 : Int32)), .val (.int (1 : Int32))] [(.ref dd)])) rfl rfl (hb hby d7_7)
  obtain ⟨T4, X4, e4, st4⟩ := getF X3 hx hZ hown (host := "") (Or.inl (own_w hw 12 rfl)) Via.refl e3 H1_F (g := (mkF m 31 #[.val (.ref dd), .val (.int (2 : Int32)), .val (.int (3 : Int32))] [(.ref dd), (.int (3 : Int32))])) rfl rfl (hb hby d7_31)
  have oc5 := H5_A
  obtain ⟨c5, Arc5, qc5, Sc5, Nc5, Hc5, Gc5⟩ := oc5
  obtain ⟨T6, X6, e6, st6⟩ := getF X4 hx hZ hown (host := "") (Or.inl (own_w hw 12 rfl)) Via.refl e4 H1_F (g := (mkF m 47 #[.val (.ref dd), .val (.int (2 : Int32)), .val (.int (3 : Int32))] [(.ref dd), (.ref dd)])) rfl rfl (hb hby d7_47)
  obtain ⟨_, _, ⟨T7, L7, k7, n7⟩, -, X7, ⟨Lc7, hQ7, l7, y7, z7⟩, st7⟩ := Jvm.LawKit.callS X6 hx (y := (⟨"java/util/Arrays", "copyOf", "([II)[I"⟩ : MethodName)) hown (mvT hZ (own_w hw 41 rfl)) (mvT hZ (own_w hw 42 rfl)) (mvT hZ (own_w hw 27 rfl)) (mvT hZ (own_w hw 43 rfl)) (by decide) (backOf (W := 1) (rm_cpI1_3 l Z a0 hw [] ka kk v0 h0 n0 Z0 H5_A) hZ (own_w hw 43 rfl) (own_w hw 27 rfl) (by decide) (by decide)) (g := (mkF m 51 #[.val (.ref dd), .val (.int (2 : Int32)), .val (.int (3 : Int32))] [(.int (3 : Int32)), (.ref ka), (.ref dd)])) rfl (by rw [hml]; rfl) (argsL := [(.ref ka), (.int (3 : Int32))]) (rest := [(.ref dd)]) (lenOf pd_3 rfl) rfl (by show 2 * 0 + _ ≤ _; exact Nat.le_of_eq rfl) (hb hby d7_51) (fun _ _ => ⟨rfl, e6, (by decide : 0 + 1 ≤ _), (by decide : 0 + 3 ≤ _)⟩)
  dsimp only [Pt.U, Pt.locs, Pt.cells, Pt.slots] at X7 l7 y7 z7 st7 hQ7
  subst l7 y7 z7
  obtain ⟨x8, x9, rfl, N7q, hq10, hpq11, hpq12, A13, E14⟩ := hQ7
  have N7 := Fr.app N0 N7q
  have lt15 : dd < h0.size := H0_E.lt
  have lt16 : ka < h0.size := H5_A.lt
  have lt17 : wa < h0.size := H6_A.lt
  have E18 := H0_E.keep hq10
  have F19 := H1_F.keep hq10 nin0
  have F20 := H2_F.keep hq10 nin0
  have F21 := H3_F.keep hq10 nin0
  have F22 := H4_F.keep hq10 nin0
  have A23 := H5_A.keep hq10 nin0
  have A24 := H6_A.keep hq10 nin0
  have K7 : Keep h0 T7.heap [dd] := K0.trans hq10 all0
  have Zs25 : n0 ≤ T7.heap.size := (Nat.le_trans Z0 hq10.1)
  have ne26 : dd ≠ x8 := Nat.ne_of_lt (Nat.lt_of_lt_of_le lt15 hpq12)
  have ne27 : ka ≠ x8 := Nat.ne_of_lt (Nat.lt_of_lt_of_le lt16 hpq12)
  have ne28 : wa ≠ x8 := Nat.ne_of_lt (Nat.lt_of_lt_of_le lt17 hpq12)
  have sz29 : h0.size ≤ x8 := Nat.le_trans K0.1 hpq12
  obtain ⟨T30, h30, X30, e30, W30, st30⟩ := putF X7 hx hZ hown (host := "") (Or.inl (own_w hw 12 rfl)) Via.refl rfl F19 E18 (Or.inl (own_w hw 13 rfl)) (own_w hw 2 rfl) (ty := (.array .int)) (by decide) rfl rfl (g := (mkF m 54 #[.val (.ref dd), .val (.int (2 : Int32)), .val (.int (3 : Int32))] [(.ref x8), (.ref dd)])) rfl rfl (hb hby d7_54)
  have Fw30 : Fld Z h30 dd "org/tallyrole/core/Dependencies" "keys" "[I" (.ref x8) := F19.same W30
  have E31 := E18.wr W30
  have F32 := F20.other W30 (Or.inr (slot_ne (Or.inl (own_w hw 17 rfl)) (Or.inl (own_w hw 13 rfl)) (by decide) (t := (.array .long)) (t' := (.array .int)) (by decide) (by decide)))
  have F33 := F21.other W30 (Or.inr (slot_ne (Or.inl (own_w hw 24 rfl)) (Or.inl (own_w hw 13 rfl)) (by decide) (t := .int) (t' := (.array .int)) (by decide) (by decide)))
  have F34 := F22.other W30 (Or.inr (slot_ne (Or.inl (own_w hw 40 rfl)) (Or.inl (own_w hw 13 rfl)) (by decide) (t := .boolean) (t' := (.array .int)) (by decide) (by decide)))
  have A35 := A23.other W30 (Ne.symm hn1)
  have A36 := A24.other W30 (Ne.symm hn2)
  have A37 := A13.other W30 (Ne.symm ne26)
  have E38 := E14.wr W30
  have N30 := Fr.snoc X30 N7 hdd
  have K30 : Keep h0 h30 [dd] := K7.wr W30 (Or.inl (List.mem_of_getElem? (i := 0) rfl))
  have Zs39 : n0 ≤ h30.size := (Nat.le_trans Zs25 (Keep.of_wr W30).1)
  obtain ⟨T40, X40, e40, st40⟩ := getF X30 hx hZ hown (host := "") (Or.inl (own_w hw 16 rfl)) Via.refl e30 F32 (g := (mkF m 59 #[.val (.ref dd), .val (.int (2 : Int32)), .val (.int (3 : Int32))] [(.ref dd), (.ref dd)])) rfl rfl (hb hby d7_59)
  obtain ⟨_, _, ⟨T41, L41, k41, n41⟩, -, X41, ⟨Lc41, hQ41, l41, y41, z41⟩, st41⟩ := Jvm.LawKit.callS X40 hx (y := (⟨"java/util/Arrays", "copyOf", "([JI)[J"⟩ : MethodName)) hown (mvT hZ (own_w hw 53 rfl)) (mvT hZ (own_w hw 54 rfl)) (mvT hZ (own_w hw 27 rfl)) (mvT hZ (own_w hw 55 rfl)) (by decide) (backOf (W := 1) (rm_cpJ1_3 l Z a0 hw [] wa kw u0 h30 n0 Zs39 A36) hZ (own_w hw 55 rfl) (own_w hw 27 rfl) (by decide) (by decide)) (g := (mkF m 63 #[.val (.ref dd), .val (.int (2 : Int32)), .val (.int (3 : Int32))] [(.int (3 : Int32)), (.ref wa), (.ref dd)])) rfl (by rw [hml]; rfl) (argsL := [(.ref wa), (.int (3 : Int32))]) (rest := [(.ref dd)]) (lenOf pd_4 rfl) rfl (by show 2 * 0 + _ ≤ _; exact Nat.le_of_eq rfl) (hb hby d7_63) (fun _ _ => ⟨rfl, e40, (by decide : 1 + 1 ≤ _), (by decide : 3 + 3 ≤ _)⟩)
  dsimp only [Pt.U, Pt.locs, Pt.cells, Pt.slots] at X41 l41 y41 z41 st41 hQ41
  subst l41 y41 z41
  obtain ⟨x42, x43, rfl, N41q, hq44, hpq45, hpq46, A47, E48⟩ := hQ41
  have N41 := Fr.app N30 N41q
  have lt49 : dd < h30.size := E31.lt
  have lt50 : ka < h30.size := A35.lt
  have lt51 : wa < h30.size := A36.lt
  have lt52 : x8 < h30.size := A37.lt
  have E53 := E31.keep hq44
  have F54 := F32.keep hq44 nin0
  have F55 := F33.keep hq44 nin0
  have F56 := F34.keep hq44 nin0
  have A57 := A35.keep hq44 nin0
  have A58 := A36.keep hq44 nin0
  have A59 := A37.keep hq44 nin0
  have E60 := E38.keep hq44
  have F61 := Fw30.keep hq44 nin0
  have K41 : Keep h0 T41.heap [dd] := K30.trans hq44 all0
  have Zs62 : n0 ≤ T41.heap.size := (Nat.le_trans Zs39 hq44.1)
  have ne63 : dd ≠ x42 := Nat.ne_of_lt (Nat.lt_of_lt_of_le lt49 hpq46)
  have ne64 : ka ≠ x42 := Nat.ne_of_lt (Nat.lt_of_lt_of_le lt50 hpq46)
  have ne65 : wa ≠ x42 := Nat.ne_of_lt (Nat.lt_of_lt_of_le lt51 hpq46)
  have ne66 : x8 ≠ x42 := Nat.ne_of_lt (Nat.lt_of_lt_of_le lt52 hpq46)
  have sz67 : h0.size ≤ x42 := Nat.le_trans K30.1 hpq46
  obtain ⟨T68, h68, X68, e68, W68, st68⟩ := putF X41 hx hZ hown (host := "") (Or.inl (own_w hw 16 rfl)) Via.refl rfl F54 E53 (Or.inl (own_w hw 17 rfl)) (own_w hw 2 rfl) (ty := (.array .long)) (by decide) rfl rfl (g := (mkF m 66 #[.val (.ref dd), .val (.int (2 : Int32)), .val (.int (3 : Int32))] [(.ref x42), (.ref dd)])) rfl rfl (hb hby d7_66)
  have Fw68 : Fld Z h68 dd "org/tallyrole/core/Dependencies" "words" "[J" (.ref x42) := F54.same W68
  have E69 := E53.wr W68
  have F70 := F55.other W68 (Or.inr (slot_ne (Or.inl (own_w hw 24 rfl)) (Or.inl (own_w hw 17 rfl)) (by decide) (t := .int) (t' := (.array .long)) (by decide) (by decide)))
  have F71 := F56.other W68 (Or.inr (slot_ne (Or.inl (own_w hw 40 rfl)) (Or.inl (own_w hw 17 rfl)) (by decide) (t := .boolean) (t' := (.array .long)) (by decide) (by decide)))
  have A72 := A57.other W68 (Ne.symm hn1)
  have A73 := A58.other W68 (Ne.symm hn2)
  have A74 := A59.other W68 (Ne.symm ne26)
  have E75 := E60.wr W68
  have F76 := F61.other W68 (Or.inr (slot_ne (Or.inl (own_w hw 13 rfl)) (Or.inl (own_w hw 17 rfl)) (by decide) (t := (.array .int)) (t' := (.array .long)) (by decide) (by decide)))
  have A77 := A47.other W68 (Ne.symm ne63)
  have E78 := E48.wr W68
  have N68 := Fr.snoc X68 N41 hdd
  have K68 : Keep h0 h68 [dd] := K41.wr W68 (Or.inl (List.mem_of_getElem? (i := 0) rfl))
  have Zs79 : n0 ≤ h68.size := (Nat.le_trans Zs62 (Keep.of_wr W68).1)
  obtain ⟨T80, h80, X80, e80, W80, st80⟩ := putFN X68 hx hZ hown (own_w hw 39 rfl) Via.refl e68 F71 E69 (Or.inl (own_w hw 40 rfl)) (own_w hw 2 rfl) (ty := .boolean) (v' := (.int (0 : Int32))) (by decide) rfl rfl (g := (mkF m 71 #[.val (.ref dd), .val (.int (2 : Int32)), .val (.int (3 : Int32))] [(.int (0 : Int32)), (.ref dd)])) rfl rfl (hb hby d7_71)
  have Fw80 : Fld Z h80 dd "org/tallyrole/core/Dependencies" "shared" "Z" (.int (0 : Int32)) := F71.same W80
  have E81 := E69.wr W80
  have F82 := F70.other W80 (Or.inr (slot_ne (Or.inl (own_w hw 24 rfl)) (Or.inl (own_w hw 40 rfl)) (by decide) (t := .int) (t' := .boolean) (by decide) (by decide)))
  have A83 := A72.other W80 (Ne.symm hn1)
  have A84 := A73.other W80 (Ne.symm hn2)
  have A85 := A74.other W80 (Ne.symm ne26)
  have E86 := E75.wr W80
  have F87 := F76.other W80 (Or.inr (slot_ne (Or.inl (own_w hw 13 rfl)) (Or.inl (own_w hw 40 rfl)) (by decide) (t := (.array .int)) (t' := .boolean) (by decide) (by decide)))
  have A88 := A77.other W80 (Ne.symm ne63)
  have E89 := E78.wr W80
  have F90 := Fw68.other W80 (Or.inr (slot_ne (Or.inl (own_w hw 17 rfl)) (Or.inl (own_w hw 40 rfl)) (by decide) (t := (.array .long)) (t' := .boolean) (by decide) (by decide)))
  have N80 := Fr.snoc X80 N68 hdd
  have K80 : Keep h0 h80 [dd] := K68.wr W80 (Or.inl (List.mem_of_getElem? (i := 0) rfl))
  have Zs91 : n0 ≤ h80.size := (Nat.le_trans Zs79 (Keep.of_wr W80).1)
  have pre92 := fun (t : State) (k : Steps p.tables e below (T80.setTop (mkF m 74 #[.val (.ref dd), .val (.int (2 : Int32)), .val (.int (3 : Int32))] [])) t) => pre0 t (by
    refine XS.aloadN X0.here hx rfl (hb hby d7_0) rfl rfl ?_
    refine st1 _ ?_
    refine X1.arraylength hx (by rw [e1]; exact Arc2.1) (State.isArrayOf_alike hZ.alike Arc2.2.1) (g := (mkF m 4 #[.val (.ref dd), .val (.int (2 : Int32)), .unset] [(.ref ka)])) rfl rfl (hb hby d7_4) _ ?_
    rw [show c2.slots.size.toInt32 = (1 : Int32) from (len_of Sc2 Nc2)]
    refine XS.istoreN X1.here hx rfl (hb hby d7_5) rfl (l' := #[.val (.ref dd), .val (.int (2 : Int32)), .val (.int (1 : Int32))]) rfl ?_
    refine XS.aloadN X1.here hx rfl (hb hby d7_6) rfl rfl ?_
    refine st3 _ ?_
    refine XS.ifYes X3.here hx rfl (pc0 := 10) (pc' := 18) rfl (hb hby d7_10) rfl ((if0 _ _).trans (teq (by decide : (0 : Int32) = (0 : Int32))).1) (by decide) (by decide) ?_
    refine XS.iloadN X3.here hx rfl (hb hby d7_18) rfl ?_
    refine XS.iloadN X3.here hx rfl (hb hby d7_19) rfl ?_
    refine XS.icmpNo X3.here hx rfl (hb hby d7_20) rfl (tlt (by decide : (1 : Int32) < (2 : Int32))).2.2.2 ?_
    refine XS.iloadN X3.here hx rfl (hb hby d7_23) rfl ?_
    refine XS.iloadN X3.here hx rfl (hb hby d7_24) rfl ?_
    refine XS.iconst X3.here hx rfl (hb hby d7_25) ?_
    refine XS.idiv X3.here hx rfl (hb hby d7_26) rfl (by decide) ?_
    refine XS.iadd X3.here hx rfl (hb hby d7_27) rfl ?_
    refine XS.istoreN X3.here hx rfl (hb hby d7_28) rfl (l' := #[.val (.ref dd), .val (.int (2 : Int32)), .val (.int (3 : Int32))]) rfl ?_
    refine XS.iloadN X3.here hx rfl (hb hby d7_29) rfl ?_
    refine XS.aloadN X3.here hx rfl (hb hby d7_30) rfl rfl ?_
    refine st4 _ ?_
    refine X4.arraylength hx (by rw [e4]; exact Arc5.1) (State.isArrayOf_alike hZ.alike Arc5.2.1) (g := (mkF m 34 #[.val (.ref dd), .val (.int (2 : Int32)), .val (.int (3 : Int32))] [(.ref ka), (.int (3 : Int32))])) rfl rfl (hb hby d7_34) _ ?_
    rw [show c5.slots.size.toInt32 = (1 : Int32) from (len_of Sc5 Nc5)]
    refine XS.icmpYes X4.here hx rfl (pc0 := 35) (pc' := 45) rfl (hb hby d7_35) rfl (feq (by decide : ¬ ((3 : Int32) = (1 : Int32)))).2 (by decide) (by decide) ?_
    refine XS.aloadN X4.here hx rfl (hb hby d7_45) rfl rfl ?_
    refine XS.aloadN X4.here hx rfl (hb hby d7_46) rfl rfl ?_
    refine st6 _ ?_
    refine XS.iloadN X6.here hx rfl (hb hby d7_50) rfl ?_
    refine st7 _ ?_
    refine st30 _ ?_
    refine XS.aloadN X30.here hx rfl (hb hby d7_57) rfl rfl ?_
    refine XS.aloadN X30.here hx rfl (hb hby d7_58) rfl rfl ?_
    refine st40 _ ?_
    refine XS.iloadN X40.here hx rfl (hb hby d7_62) rfl ?_
    refine st41 _ ?_
    refine st68 _ ?_
    refine XS.aloadN X68.here hx rfl (hb hby d7_69) rfl rfl ?_
    refine XS.iconst X68.here hx rfl (hb hby d7_70) ?_
    refine st80 _ ?_
    exact k)
  obtain ⟨fs, hr, hrun, hended, hW, hsame⟩ := X80.leave (v := none) (hlocks := BodyLoose.notSynchronized Bd) (fun _ => rfl)
  refine ⟨_, _, pre92 _ ?_, hrun, hended, _, _, rfl, ?_, ⟨_, rfl⟩, hW, hsame.mono (by decide) (by decide)⟩
  · exact X80.returnOut hx Bd.returns (hb hby d7_74) hr
  · show Q_rv1_2_0 Z dd ka wa kk kw sz v0 u0 h0 n0 _ T80.heap _
    rw [e80]
    exact ⟨x8, x42, x9, x43, rfl, N80, K80, hpq11, sz29, hpq45, sz67, ne26, ne63, ne66, E81, F87, F90, F82, Fw80, A85, A88, E86, E89⟩

theorem ef_rv1_2_1 (m : MethodId) (x0 : Addr) (x1 : Int32) : entryFrame m #[(.ref x0), (.int x1)] 3 = mkF m 0 #[.val (.ref x0), .val (.int x1), .unset] [] := by first | (simp [entryFrame, mkF, argsToLocals, Value.category]; done) | rfl
def Q_rv1_2_1 (Z : State) (dd : Addr) (ka : Addr) (wa : Addr) (kk : ClassId) (kw : ClassId) (sz : Int32) (v0 : Int32) (u0 : Int64) (h0 : Heap) (n0 : Nat) (v : Option Value) (h : Heap) (L : List Loc) : Prop := ∃ xk : Addr, ∃ xw : Addr, ∃ kxk : ClassId, ∃ kxw : ClassId, v = none ∧ Fr n0 L ∧ Keep h0 h [dd] ∧ n0 ≤ xk ∧ h0.size ≤ xk ∧ n0 ≤ xw ∧ h0.size ≤ xw ∧ dd ≠ xk ∧ dd ≠ xw ∧ xk ≠ xw ∧ Exa Z h dd "org/tallyrole/core/Dependencies" ∧ Fld Z h dd "org/tallyrole/core/Dependencies" "keys" "[I" (.ref xk) ∧ Fld Z h dd "org/tallyrole/core/Dependencies" "words" "[J" (.ref xw) ∧ Fld Z h dd "org/tallyrole/core/Dependencies" "size" "I" (.int sz) ∧ Fld Z h dd "org/tallyrole/core/Dependencies" "shared" "Z" (.int (0 : Int32)) ∧ Arv Z h xk kxk .int (2 : Int32) [(.int v0), (.int (0 : Int32))] (.int (0 : Int32)) ∧ Arv Z h xw kxw .long (2 : Int32) [(.long u0), (.long (0 : Int64))] (.long (0 : Int64)) ∧ Exa Z h xk "[I" ∧ Exa Z h xw "[J"
set_option maxRecDepth 65536 in
set_option maxHeartbeats 40000000 in
theorem rm_rv1_2_1 (l : Launch) (Z : State) (a0 : Array Value) (hw : ∀ d ∈ tables_1, d.before a0 Z = true) (ws : List Jvm.Cond) (dd : Addr) (ka : Addr) (wa : Addr) (kk : ClassId) (kw : ClassId) (sz : Int32) (v0 : Int32) (u0 : Int64) (h0 : Heap) (n0 : Nat) (Z0 : n0 ≤ h0.size) (H0_E : Exa Z h0 dd "org/tallyrole/core/Dependencies") (H1_F : Fld Z h0 dd "org/tallyrole/core/Dependencies" "keys" "[I" (.ref ka)) (H2_F : Fld Z h0 dd "org/tallyrole/core/Dependencies" "words" "[J" (.ref wa)) (H3_F : Fld Z h0 dd "org/tallyrole/core/Dependencies" "size" "I" (.int sz)) (H4_F : Fld Z h0 dd "org/tallyrole/core/Dependencies" "shared" "Z" (.int (1 : Int32))) (H5_A : Arv Z h0 ka kk .int (1 : Int32) [(.int v0)] (.int (0 : Int32))) (H6_A : Arv Z h0 wa kw .long (1 : Int32) [(.long u0)] (.long (0 : Int64))) (hdd : n0 ≤ dd) (hn1 : dd ≠ ka) (hn2 : dd ≠ wa) :
    MetFree l (⟨"org/tallyrole/core/Dependencies", "reserve", "(I)V"⟩ : MethodName) (head1 (Jvm.Cond.code (⟨"org/tallyrole/core/Dependencies", "reserve", "(I)V"⟩ : MethodName) prog_36_method_10_code 3 none :: ws) ({ frames := 2, cells := 2, slots := 4, locals := 33 } : Room)) (fun as_ U_ => as_ = #[(.ref dd), (.int (2 : Int32))] ∧ Z.Warmed39 U_.vm ∧ U_.heap = h0) (fun _ _ _ _ _ => True) (fun _ U o U' => ∃ v L, o = .returned v ∧ Q_rv1_2_1 Z dd ka wa kk kw sz v0 u0 h0 n0 v U'.heap L ∧ FrameEnd U o U' L ({ frames := 2, cells := 2, slots := 4, locals := 33 } : Room).cells ({ frames := 2, cells := 2, slots := 4, locals := 33 } : Room).slots) := by
  refine MetFree.of_bodySF (plainFor_of_name pn_1) hisR ?_
  intro p e s m args below meth c s₁ Bd hml0 hP hK
  obtain ⟨rfl, hZ, hhp_⟩ := hP
  have hx := Bd.exec
  have hby := Bd.bytes
  have hml : c.maxLocals = 3 := hml0
  have hown : s.vm.findClass "org/tallyrole/core/Dependencies" = some m.cls := findClass_of_methodNamed Bd.named
  have hnm := (name_of_methodNamed Bd.named Bd.method).1
  have X0 : Stand p l e ({ frames := 2, cells := 2, slots := 4, locals := 33 } : Room) s m #[(.ref dd), (.int (2 : Int32))] below meth c s₁ [] 0 0 := Stand.of_body Bd
  have e0 : s₁.heap = h0 := by rw [← hhp_, Bd.state]; rfl
  have N0 := Fr.nil n0
  have pre0 : ∀ t, Steps p.tables e below (s₁.setTop (mkF m 0 #[.val (.ref dd), .val (.int (2 : Int32)), .unset] [])) t → Steps p.tables e below (s₁.setTop (entryFrame m #[(.ref dd), (.int (2 : Int32))] 3)) t := fun t k => castTop (ef_rv1_2_1 m dd (2 : Int32)) k
  have K0 : Keep h0 h0 [dd] := Keep.refl h0 [dd]
  obtain ⟨T1, X1, e1, st1⟩ := getF X0 hx hZ hown (host := "") (Or.inl (own_w hw 12 rfl)) Via.refl e0 H1_F (g := (mkF m 1 #[.val (.ref dd), .val (.int (2 : Int32)), .unset] [(.ref dd)])) rfl rfl (hb hby d7_1)
  have oc2 := H5_A
  obtain ⟨c2, Arc2, qc2, Sc2, Nc2, Hc2, Gc2⟩ := oc2
  obtain ⟨T3, X3, e3, st3⟩ := getF X1 hx hZ hown (host := "") (Or.inl (own_w hw 39 rfl)) Via.refl e1 H4_F (g := (mkF m 7 #[.val (.ref dd), .val (.int (2 : Int32)), .val (.int (1 : Int32))] [(.ref dd)])) rfl rfl (hb hby d7_7)
  obtain ⟨T4, X4, e4, st4⟩ := getF X3 hx hZ hown (host := "") (Or.inl (own_w hw 12 rfl)) Via.refl e3 H1_F (g := (mkF m 31 #[.val (.ref dd), .val (.int (2 : Int32)), .val (.int (2 : Int32))] [(.ref dd), (.int (2 : Int32))])) rfl rfl (hb hby d7_31)
  have oc5 := H5_A
  obtain ⟨c5, Arc5, qc5, Sc5, Nc5, Hc5, Gc5⟩ := oc5
  obtain ⟨T6, X6, e6, st6⟩ := getF X4 hx hZ hown (host := "") (Or.inl (own_w hw 12 rfl)) Via.refl e4 H1_F (g := (mkF m 47 #[.val (.ref dd), .val (.int (2 : Int32)), .val (.int (2 : Int32))] [(.ref dd), (.ref dd)])) rfl rfl (hb hby d7_47)
  obtain ⟨_, _, ⟨T7, L7, k7, n7⟩, -, X7, ⟨Lc7, hQ7, l7, y7, z7⟩, st7⟩ := Jvm.LawKit.callS X6 hx (y := (⟨"java/util/Arrays", "copyOf", "([II)[I"⟩ : MethodName)) hown (mvT hZ (own_w hw 41 rfl)) (mvT hZ (own_w hw 42 rfl)) (mvT hZ (own_w hw 27 rfl)) (mvT hZ (own_w hw 43 rfl)) (by decide) (backOf (W := 1) (rm_cpI1_2 l Z a0 hw [] ka kk v0 h0 n0 Z0 H5_A) hZ (own_w hw 43 rfl) (own_w hw 27 rfl) (by decide) (by decide)) (g := (mkF m 51 #[.val (.ref dd), .val (.int (2 : Int32)), .val (.int (2 : Int32))] [(.int (2 : Int32)), (.ref ka), (.ref dd)])) rfl (by rw [hml]; rfl) (argsL := [(.ref ka), (.int (2 : Int32))]) (rest := [(.ref dd)]) (lenOf pd_3 rfl) rfl (by show 2 * 0 + _ ≤ _; exact Nat.le_of_eq rfl) (hb hby d7_51) (fun _ _ => ⟨rfl, e6, (by decide : 0 + 1 ≤ _), (by decide : 0 + 2 ≤ _)⟩)
  dsimp only [Pt.U, Pt.locs, Pt.cells, Pt.slots] at X7 l7 y7 z7 st7 hQ7
  subst l7 y7 z7
  obtain ⟨x8, x9, rfl, N7q, hq10, hpq11, hpq12, A13, E14⟩ := hQ7
  have N7 := Fr.app N0 N7q
  have lt15 : dd < h0.size := H0_E.lt
  have lt16 : ka < h0.size := H5_A.lt
  have lt17 : wa < h0.size := H6_A.lt
  have E18 := H0_E.keep hq10
  have F19 := H1_F.keep hq10 nin0
  have F20 := H2_F.keep hq10 nin0
  have F21 := H3_F.keep hq10 nin0
  have F22 := H4_F.keep hq10 nin0
  have A23 := H5_A.keep hq10 nin0
  have A24 := H6_A.keep hq10 nin0
  have K7 : Keep h0 T7.heap [dd] := K0.trans hq10 all0
  have Zs25 : n0 ≤ T7.heap.size := (Nat.le_trans Z0 hq10.1)
  have ne26 : dd ≠ x8 := Nat.ne_of_lt (Nat.lt_of_lt_of_le lt15 hpq12)
  have ne27 : ka ≠ x8 := Nat.ne_of_lt (Nat.lt_of_lt_of_le lt16 hpq12)
  have ne28 : wa ≠ x8 := Nat.ne_of_lt (Nat.lt_of_lt_of_le lt17 hpq12)
  have sz29 : h0.size ≤ x8 := Nat.le_trans K0.1 hpq12
  obtain ⟨T30, h30, X30, e30, W30, st30⟩ := putF X7 hx hZ hown (host := "") (Or.inl (own_w hw 12 rfl)) Via.refl rfl F19 E18 (Or.inl (own_w hw 13 rfl)) (own_w hw 2 rfl) (ty := (.array .int)) (by decide) rfl rfl (g := (mkF m 54 #[.val (.ref dd), .val (.int (2 : Int32)), .val (.int (2 : Int32))] [(.ref x8), (.ref dd)])) rfl rfl (hb hby d7_54)
  have Fw30 : Fld Z h30 dd "org/tallyrole/core/Dependencies" "keys" "[I" (.ref x8) := F19.same W30
  have E31 := E18.wr W30
  have F32 := F20.other W30 (Or.inr (slot_ne (Or.inl (own_w hw 17 rfl)) (Or.inl (own_w hw 13 rfl)) (by decide) (t := (.array .long)) (t' := (.array .int)) (by decide) (by decide)))
  have F33 := F21.other W30 (Or.inr (slot_ne (Or.inl (own_w hw 24 rfl)) (Or.inl (own_w hw 13 rfl)) (by decide) (t := .int) (t' := (.array .int)) (by decide) (by decide)))
  have F34 := F22.other W30 (Or.inr (slot_ne (Or.inl (own_w hw 40 rfl)) (Or.inl (own_w hw 13 rfl)) (by decide) (t := .boolean) (t' := (.array .int)) (by decide) (by decide)))
  have A35 := A23.other W30 (Ne.symm hn1)
  have A36 := A24.other W30 (Ne.symm hn2)
  have A37 := A13.other W30 (Ne.symm ne26)
  have E38 := E14.wr W30
  have N30 := Fr.snoc X30 N7 hdd
  have K30 : Keep h0 h30 [dd] := K7.wr W30 (Or.inl (List.mem_of_getElem? (i := 0) rfl))
  have Zs39 : n0 ≤ h30.size := (Nat.le_trans Zs25 (Keep.of_wr W30).1)
  obtain ⟨T40, X40, e40, st40⟩ := getF X30 hx hZ hown (host := "") (Or.inl (own_w hw 16 rfl)) Via.refl e30 F32 (g := (mkF m 59 #[.val (.ref dd), .val (.int (2 : Int32)), .val (.int (2 : Int32))] [(.ref dd), (.ref dd)])) rfl rfl (hb hby d7_59)
  obtain ⟨_, _, ⟨T41, L41, k41, n41⟩, -, X41, ⟨Lc41, hQ41, l41, y41, z41⟩, st41⟩ := Jvm.LawKit.callS X40 hx (y := (⟨"java/util/Arrays", "copyOf", "([JI)[J"⟩ : MethodName)) hown (mvT hZ (own_w hw 53 rfl)) (mvT hZ (own_w hw 54 rfl)) (mvT hZ (own_w hw 27 rfl)) (mvT hZ (own_w hw 55 rfl)) (by decide) (backOf (W := 1) (rm_cpJ1_2 l Z a0 hw [] wa kw u0 h30 n0 Zs39 A36) hZ (own_w hw 55 rfl) (own_w hw 27 rfl) (by decide) (by decide)) (g := (mkF m 63 #[.val (.ref dd), .val (.int (2 : Int32)), .val (.int (2 : Int32))] [(.int (2 : Int32)), (.ref wa), (.ref dd)])) rfl (by rw [hml]; rfl) (argsL := [(.ref wa), (.int (2 : Int32))]) (rest := [(.ref dd)]) (lenOf pd_4 rfl) rfl (by show 2 * 0 + _ ≤ _; exact Nat.le_of_eq rfl) (hb hby d7_63) (fun _ _ => ⟨rfl, e40, (by decide : 1 + 1 ≤ _), (by decide : 2 + 2 ≤ _)⟩)
  dsimp only [Pt.U, Pt.locs, Pt.cells, Pt.slots] at X41 l41 y41 z41 st41 hQ41
  subst l41 y41 z41
  obtain ⟨x42, x43, rfl, N41q, hq44, hpq45, hpq46, A47, E48⟩ := hQ41
  have N41 := Fr.app N30 N41q
  have lt49 : dd < h30.size := E31.lt
  have lt50 : ka < h30.size := A35.lt
  have lt51 : wa < h30.size := A36.lt
  have lt52 : x8 < h30.size := A37.lt
  have E53 := E31.keep hq44
  have F54 := F32.keep hq44 nin0
  have F55 := F33.keep hq44 nin0
  have F56 := F34.keep hq44 nin0
  have A57 := A35.keep hq44 nin0
  have A58 := A36.keep hq44 nin0
  have A59 := A37.keep hq44 nin0
  have E60 := E38.keep hq44
  have F61 := Fw30.keep hq44 nin0
  have K41 : Keep h0 T41.heap [dd] := K30.trans hq44 all0
  have Zs62 : n0 ≤ T41.heap.size := (Nat.le_trans Zs39 hq44.1)
  have ne63 : dd ≠ x42 := Nat.ne_of_lt (Nat.lt_of_lt_of_le lt49 hpq46)
  have ne64 : ka ≠ x42 := Nat.ne_of_lt (Nat.lt_of_lt_of_le lt50 hpq46)
  have ne65 : wa ≠ x42 := Nat.ne_of_lt (Nat.lt_of_lt_of_le lt51 hpq46)
  have ne66 : x8 ≠ x42 := Nat.ne_of_lt (Nat.lt_of_lt_of_le lt52 hpq46)
  have sz67 : h0.size ≤ x42 := Nat.le_trans K30.1 hpq46
  obtain ⟨T68, h68, X68, e68, W68, st68⟩ := putF X41 hx hZ hown (host := "") (Or.inl (own_w hw 16 rfl)) Via.refl rfl F54 E53 (Or.inl (own_w hw 17 rfl)) (own_w hw 2 rfl) (ty := (.array .long)) (by decide) rfl rfl (g := (mkF m 66 #[.val (.ref dd), .val (.int (2 : Int32)), .val (.int (2 : Int32))] [(.ref x42), (.ref dd)])) rfl rfl (hb hby d7_66)
  have Fw68 : Fld Z h68 dd "org/tallyrole/core/Dependencies" "words" "[J" (.ref x42) := F54.same W68
  have E69 := E53.wr W68
  have F70 := F55.other W68 (Or.inr (slot_ne (Or.inl (own_w hw 24 rfl)) (Or.inl (own_w hw 17 rfl)) (by decide) (t := .int) (t' := (.array .long)) (by decide) (by decide)))
  have F71 := F56.other W68 (Or.inr (slot_ne (Or.inl (own_w hw 40 rfl)) (Or.inl (own_w hw 17 rfl)) (by decide) (t := .boolean) (t' := (.array .long)) (by decide) (by decide)))
  have A72 := A57.other W68 (Ne.symm hn1)
  have A73 := A58.other W68 (Ne.symm hn2)
  have A74 := A59.other W68 (Ne.symm ne26)
  have E75 := E60.wr W68
  have F76 := F61.other W68 (Or.inr (slot_ne (Or.inl (own_w hw 13 rfl)) (Or.inl (own_w hw 17 rfl)) (by decide) (t := (.array .int)) (t' := (.array .long)) (by decide) (by decide)))
  have A77 := A47.other W68 (Ne.symm ne63)
  have E78 := E48.wr W68
  have N68 := Fr.snoc X68 N41 hdd
  have K68 : Keep h0 h68 [dd] := K41.wr W68 (Or.inl (List.mem_of_getElem? (i := 0) rfl))
  have Zs79 : n0 ≤ h68.size := (Nat.le_trans Zs62 (Keep.of_wr W68).1)
  obtain ⟨T80, h80, X80, e80, W80, st80⟩ := putFN X68 hx hZ hown (own_w hw 39 rfl) Via.refl e68 F71 E69 (Or.inl (own_w hw 40 rfl)) (own_w hw 2 rfl) (ty := .boolean) (v' := (.int (0 : Int32))) (by decide) rfl rfl (g := (mkF m 71 #[.val (.ref dd), .val (.int (2 : Int32)), .val (.int (2 : Int32))] [(.int (0 : Int32)), (.ref dd)])) rfl rfl (hb hby d7_71)
  have Fw80 : Fld Z h80 dd "org/tallyrole/core/Dependencies" "shared" "Z" (.int (0 : Int32)) := F71.same W80
  have E81 := E69.wr W80
  have F82 := F70.other W80 (Or.inr (slot_ne (Or.inl (own_w hw 24 rfl)) (Or.inl (own_w hw 40 rfl)) (by decide) (t := .int) (t' := .boolean) (by decide) (by decide)))
  have A83 := A72.other W80 (Ne.symm hn1)
  have A84 := A73.other W80 (Ne.symm hn2)
  have A85 := A74.other W80 (Ne.symm ne26)
  have E86 := E75.wr W80
  have F87 := F76.other W80 (Or.inr (slot_ne (Or.inl (own_w hw 13 rfl)) (Or.inl (own_w hw 40 rfl)) (by decide) (t := (.array .int)) (t' := .boolean) (by decide) (by decide)))
  have A88 := A77.other W80 (Ne.symm ne63)
  have E89 := E78.wr W80
  have F90 := Fw68.other W80 (Or.inr (slot_ne (Or.inl (own_w hw 17 rfl)) (Or.inl (own_w hw 40 rfl)) (by decide) (t := (.array .long)) (t' := .boolean) (by decide) (by decide)))
  have N80 := Fr.snoc X80 N68 hdd
  have K80 : Keep h0 h80 [dd] := K68.wr W80 (Or.inl (List.mem_of_getElem? (i := 0) rfl))
  have Zs91 : n0 ≤ h80.size := (Nat.le_trans Zs79 (Keep.of_wr W80).1)
  have pre92 := fun (t : State) (k : Steps p.tables e below (T80.setTop (mkF m 74 #[.val (.ref dd), .val (.int (2 : Int32)), .val (.int (2 : Int32))] [])) t) => pre0 t (by
    refine XS.aloadN X0.here hx rfl (hb hby d7_0) rfl rfl ?_
    refine st1 _ ?_
    refine X1.arraylength hx (by rw [e1]; exact Arc2.1) (State.isArrayOf_alike hZ.alike Arc2.2.1) (g := (mkF m 4 #[.val (.ref dd), .val (.int (2 : Int32)), .unset] [(.ref ka)])) rfl rfl (hb hby d7_4) _ ?_
    rw [show c2.slots.size.toInt32 = (1 : Int32) from (len_of Sc2 Nc2)]
    refine XS.istoreN X1.here hx rfl (hb hby d7_5) rfl (l' := #[.val (.ref dd), .val (.int (2 : Int32)), .val (.int (1 : Int32))]) rfl ?_
    refine XS.aloadN X1.here hx rfl (hb hby d7_6) rfl rfl ?_
    refine st3 _ ?_
    refine XS.ifNo X3.here hx rfl (hb hby d7_10) rfl ((if0 _ _).trans (feq (by decide : ¬ ((1 : Int32) = (0 : Int32)))).1) ?_
    refine XS.iloadN X3.here hx rfl (hb hby d7_13) rfl ?_
    refine XS.istoreN X3.here hx rfl (hb hby d7_14) rfl (l' := #[.val (.ref dd), .val (.int (2 : Int32)), .val (.int (2 : Int32))]) rfl ?_
    refine XS.goto X3.here hx rfl (pc0 := 15) (pc' := 29) rfl (hb hby d7_15) (by decide) (by decide) ?_
    refine XS.iloadN X3.here hx rfl (hb hby d7_29) rfl ?_
    refine XS.aloadN X3.here hx rfl (hb hby d7_30) rfl rfl ?_
    refine st4 _ ?_
    refine X4.arraylength hx (by rw [e4]; exact Arc5.1) (State.isArrayOf_alike hZ.alike Arc5.2.1) (g := (mkF m 34 #[.val (.ref dd), .val (.int (2 : Int32)), .val (.int (2 : Int32))] [(.ref ka), (.int (2 : Int32))])) rfl rfl (hb hby d7_34) _ ?_
    rw [show c5.slots.size.toInt32 = (1 : Int32) from (len_of Sc5 Nc5)]
    refine XS.icmpYes X4.here hx rfl (pc0 := 35) (pc' := 45) rfl (hb hby d7_35) rfl (feq (by decide : ¬ ((2 : Int32) = (1 : Int32)))).2 (by decide) (by decide) ?_
    refine XS.aloadN X4.here hx rfl (hb hby d7_45) rfl rfl ?_
    refine XS.aloadN X4.here hx rfl (hb hby d7_46) rfl rfl ?_
    refine st6 _ ?_
    refine XS.iloadN X6.here hx rfl (hb hby d7_50) rfl ?_
    refine st7 _ ?_
    refine st30 _ ?_
    refine XS.aloadN X30.here hx rfl (hb hby d7_57) rfl rfl ?_
    refine XS.aloadN X30.here hx rfl (hb hby d7_58) rfl rfl ?_
    refine st40 _ ?_
    refine XS.iloadN X40.here hx rfl (hb hby d7_62) rfl ?_
    refine st41 _ ?_
    refine st68 _ ?_
    refine XS.aloadN X68.here hx rfl (hb hby d7_69) rfl rfl ?_
    refine XS.iconst X68.here hx rfl (hb hby d7_70) ?_
    refine st80 _ ?_
    exact k)
  obtain ⟨fs, hr, hrun, hended, hW, hsame⟩ := X80.leave (v := none) (hlocks := BodyLoose.notSynchronized Bd) (fun _ => rfl)
  refine ⟨_, _, pre92 _ ?_, hrun, hended, _, _, rfl, ?_, ⟨_, rfl⟩, hW, hsame.mono (by decide) (by decide)⟩
  · exact X80.returnOut hx Bd.returns (hb hby d7_74) hr
  · show Q_rv1_2_1 Z dd ka wa kk kw sz v0 u0 h0 n0 _ T80.heap _
    rw [e80]
    exact ⟨x8, x42, x9, x43, rfl, N80, K80, hpq11, sz29, hpq45, sz67, ne26, ne63, ne66, E81, F87, F90, F82, Fw80, A85, A88, E86, E89⟩

theorem ef_rv1_1_1 (m : MethodId) (x0 : Addr) (x1 : Int32) : entryFrame m #[(.ref x0), (.int x1)] 3 = mkF m 0 #[.val (.ref x0), .val (.int x1), .unset] [] := by first | (simp [entryFrame, mkF, argsToLocals, Value.category]; done) | rfl
def Q_rv1_1_1 (Z : State) (dd : Addr) (ka : Addr) (wa : Addr) (kk : ClassId) (kw : ClassId) (sz : Int32) (v0 : Int32) (u0 : Int64) (h0 : Heap) (n0 : Nat) (v : Option Value) (h : Heap) (L : List Loc) : Prop := ∃ xk : Addr, ∃ xw : Addr, ∃ kxk : ClassId, ∃ kxw : ClassId, v = none ∧ Fr n0 L ∧ Keep h0 h [dd] ∧ n0 ≤ xk ∧ h0.size ≤ xk ∧ n0 ≤ xw ∧ h0.size ≤ xw ∧ dd ≠ xk ∧ dd ≠ xw ∧ xk ≠ xw ∧ Exa Z h dd "org/tallyrole/core/Dependencies" ∧ Fld Z h dd "org/tallyrole/core/Dependencies" "keys" "[I" (.ref xk) ∧ Fld Z h dd "org/tallyrole/core/Dependencies" "words" "[J" (.ref xw) ∧ Fld Z h dd "org/tallyrole/core/Dependencies" "size" "I" (.int sz) ∧ Fld Z h dd "org/tallyrole/core/Dependencies" "shared" "Z" (.int (0 : Int32)) ∧ Arv Z h xk kxk .int (1 : Int32) [(.int v0)] (.int (0 : Int32)) ∧ Arv Z h xw kxw .long (1 : Int32) [(.long u0)] (.long (0 : Int64)) ∧ Exa Z h xk "[I" ∧ Exa Z h xw "[J"
set_option maxRecDepth 65536 in
set_option maxHeartbeats 40000000 in
theorem rm_rv1_1_1 (l : Launch) (Z : State) (a0 : Array Value) (hw : ∀ d ∈ tables_1, d.before a0 Z = true) (ws : List Jvm.Cond) (dd : Addr) (ka : Addr) (wa : Addr) (kk : ClassId) (kw : ClassId) (sz : Int32) (v0 : Int32) (u0 : Int64) (h0 : Heap) (n0 : Nat) (Z0 : n0 ≤ h0.size) (H0_E : Exa Z h0 dd "org/tallyrole/core/Dependencies") (H1_F : Fld Z h0 dd "org/tallyrole/core/Dependencies" "keys" "[I" (.ref ka)) (H2_F : Fld Z h0 dd "org/tallyrole/core/Dependencies" "words" "[J" (.ref wa)) (H3_F : Fld Z h0 dd "org/tallyrole/core/Dependencies" "size" "I" (.int sz)) (H4_F : Fld Z h0 dd "org/tallyrole/core/Dependencies" "shared" "Z" (.int (1 : Int32))) (H5_A : Arv Z h0 ka kk .int (1 : Int32) [(.int v0)] (.int (0 : Int32))) (H6_A : Arv Z h0 wa kw .long (1 : Int32) [(.long u0)] (.long (0 : Int64))) (H7_E : Exa Z h0 ka "[I") (H8_E : Exa Z h0 wa "[J") (hdd : n0 ≤ dd) (hn1 : dd ≠ ka) (hn2 : dd ≠ wa) :
    MetFree l (⟨"org/tallyrole/core/Dependencies", "reserve", "(I)V"⟩ : MethodName) (head1 (Jvm.Cond.code (⟨"org/tallyrole/core/Dependencies", "reserve", "(I)V"⟩ : MethodName) prog_36_method_10_code 3 none :: ws) ({ frames := 2, cells := 2, slots := 2, locals := 29 } : Room)) (fun as_ U_ => as_ = #[(.ref dd), (.int (1 : Int32))] ∧ Z.Warmed39 U_.vm ∧ U_.heap = h0) (fun _ _ _ _ _ => True) (fun _ U o U' => ∃ v L, o = .returned v ∧ Q_rv1_1_1 Z dd ka wa kk kw sz v0 u0 h0 n0 v U'.heap L ∧ FrameEnd U o U' L ({ frames := 2, cells := 2, slots := 2, locals := 29 } : Room).cells ({ frames := 2, cells := 2, slots := 2, locals := 29 } : Room).slots) := by
  refine MetFree.of_bodySF (plainFor_of_name pn_1) hisR ?_
  intro p e s m args below meth c s₁ Bd hml0 hP hK
  obtain ⟨rfl, hZ, hhp_⟩ := hP
  have hx := Bd.exec
  have hby := Bd.bytes
  have hml : c.maxLocals = 3 := hml0
  have hown : s.vm.findClass "org/tallyrole/core/Dependencies" = some m.cls := findClass_of_methodNamed Bd.named
  have hnm := (name_of_methodNamed Bd.named Bd.method).1
  have X0 : Stand p l e ({ frames := 2, cells := 2, slots := 2, locals := 29 } : Room) s m #[(.ref dd), (.int (1 : Int32))] below meth c s₁ [] 0 0 := Stand.of_body Bd
  have e0 : s₁.heap = h0 := by rw [← hhp_, Bd.state]; rfl
  have N0 := Fr.nil n0
  have pre0 : ∀ t, Steps p.tables e below (s₁.setTop (mkF m 0 #[.val (.ref dd), .val (.int (1 : Int32)), .unset] [])) t → Steps p.tables e below (s₁.setTop (entryFrame m #[(.ref dd), (.int (1 : Int32))] 3)) t := fun t k => castTop (ef_rv1_1_1 m dd (1 : Int32)) k
  have K0 : Keep h0 h0 [dd] := Keep.refl h0 [dd]
  obtain ⟨T1, X1, e1, st1⟩ := getF X0 hx hZ hown (host := "") (Or.inl (own_w hw 12 rfl)) Via.refl e0 H1_F (g := (mkF m 1 #[.val (.ref dd), .val (.int (1 : Int32)), .unset] [(.ref dd)])) rfl rfl (hb hby d7_1)
  have oc2 := H5_A
  obtain ⟨c2, Arc2, qc2, Sc2, Nc2, Hc2, Gc2⟩ := oc2
  obtain ⟨T3, X3, e3, st3⟩ := getF X1 hx hZ hown (host := "") (Or.inl (own_w hw 39 rfl)) Via.refl e1 H4_F (g := (mkF m 7 #[.val (.ref dd), .val (.int (1 : Int32)), .val (.int (1 : Int32))] [(.ref dd)])) rfl rfl (hb hby d7_7)
  obtain ⟨T4, X4, e4, st4⟩ := getF X3 hx hZ hown (host := "") (Or.inl (own_w hw 12 rfl)) Via.refl e3 H1_F (g := (mkF m 31 #[.val (.ref dd), .val (.int (1 : Int32)), .val (.int (1 : Int32))] [(.ref dd), (.int (1 : Int32))])) rfl rfl (hb hby d7_31)
  have oc5 := H5_A
  obtain ⟨c5, Arc5, qc5, Sc5, Nc5, Hc5, Gc5⟩ := oc5
  obtain ⟨T6, X6, e6, st6⟩ := getF X4 hx hZ hown (host := "") (Or.inl (own_w hw 39 rfl)) Via.refl e4 H4_F (g := (mkF m 39 #[.val (.ref dd), .val (.int (1 : Int32)), .val (.int (1 : Int32))] [(.ref dd)])) rfl rfl (hb hby d7_39)
  obtain ⟨T7, X7, e7, st7⟩ := getF X6 hx hZ hown (host := "") (Or.inl (own_w hw 12 rfl)) Via.refl e6 H1_F (g := (mkF m 47 #[.val (.ref dd), .val (.int (1 : Int32)), .val (.int (1 : Int32))] [(.ref dd), (.ref dd)])) rfl rfl (hb hby d7_47)
  obtain ⟨_, _, ⟨T8, L8, k8, n8⟩, -, X8, ⟨Lc8, hQ8, l8, y8, z8⟩, st8⟩ := Jvm.LawKit.callS X7 hx (y := (⟨"java/util/Arrays", "copyOf", "([II)[I"⟩ : MethodName)) hown (mvT hZ (own_w hw 41 rfl)) (mvT hZ (own_w hw 42 rfl)) (mvT hZ (own_w hw 27 rfl)) (mvT hZ (own_w hw 43 rfl)) (by decide) (backOf (W := 1) (rm_cpI1_1 l Z a0 hw [] ka kk v0 h0 n0 Z0 H5_A H7_E) hZ (own_w hw 43 rfl) (own_w hw 27 rfl) (by decide) (by decide)) (g := (mkF m 51 #[.val (.ref dd), .val (.int (1 : Int32)), .val (.int (1 : Int32))] [(.int (1 : Int32)), (.ref ka), (.ref dd)])) rfl (by rw [hml]; rfl) (argsL := [(.ref ka), (.int (1 : Int32))]) (rest := [(.ref dd)]) (lenOf pd_3 rfl) rfl (by show 2 * 0 + _ ≤ _; exact Nat.le_of_eq rfl) (hb hby d7_51) (fun _ _ => ⟨rfl, e7, (by decide : 0 + 1 ≤ _), (by decide : 0 + 1 ≤ _)⟩)
  dsimp only [Pt.U, Pt.locs, Pt.cells, Pt.slots] at X8 l8 y8 z8 st8 hQ8
  subst l8 y8 z8
  obtain ⟨x9, x10, rfl, N8q, hq11, hpq12, hpq13, A14, E15⟩ := hQ8
  have N8 := Fr.app N0 N8q
  have lt16 : dd < h0.size := H0_E.lt
  have lt17 : ka < h0.size := H5_A.lt
  have lt18 : wa < h0.size := H6_A.lt
  have E19 := H0_E.keep hq11
  have F20 := H1_F.keep hq11 nin0
  have F21 := H2_F.keep hq11 nin0
  have F22 := H3_F.keep hq11 nin0
  have F23 := H4_F.keep hq11 nin0
  have A24 := H5_A.keep hq11 nin0
  have A25 := H6_A.keep hq11 nin0
  have E26 := H7_E.keep hq11
  have E27 := H8_E.keep hq11
  have K8 : Keep h0 T8.heap [dd] := K0.trans hq11 all0
  have Zs28 : n0 ≤ T8.heap.size := (Nat.le_trans Z0 hq11.1)
  have ne29 : dd ≠ x9 := Nat.ne_of_lt (Nat.lt_of_lt_of_le lt16 hpq13)
  have ne30 : ka ≠ x9 := Nat.ne_of_lt (Nat.lt_of_lt_of_le lt17 hpq13)
  have ne31 : wa ≠ x9 := Nat.ne_of_lt (Nat.lt_of_lt_of_le lt18 hpq13)
  have sz32 : h0.size ≤ x9 := Nat.le_trans K0.1 hpq13
  obtain ⟨T33, h33, X33, e33, W33, st33⟩ := putF X8 hx hZ hown (host := "") (Or.inl (own_w hw 12 rfl)) Via.refl rfl F20 E19 (Or.inl (own_w hw 13 rfl)) (own_w hw 2 rfl) (ty := (.array .int)) (by decide) rfl rfl (g := (mkF m 54 #[.val (.ref dd), .val (.int (1 : Int32)), .val (.int (1 : Int32))] [(.ref x9), (.ref dd)])) rfl rfl (hb hby d7_54)
  have Fw33 : Fld Z h33 dd "org/tallyrole/core/Dependencies" "keys" "[I" (.ref x9) := F20.same W33
  have E34 := E19.wr W33
  have F35 := F21.other W33 (Or.inr (slot_ne (Or.inl (own_w hw 17 rfl)) (Or.inl (own_w hw 13 rfl)) (by decide) (t := (.array .long)) (t' := (.array .int)) (by decide) (by decide)))
  have F36 := F22.other W33 (Or.inr (slot_ne (Or.inl (own_w hw 24 rfl)) (Or.inl (own_w hw 13 rfl)) (by decide) (t := .int) (t' := (.array .int)) (by decide) (by decide)))
  have F37 := F23.other W33 (Or.inr (slot_ne (Or.inl (own_w hw 40 rfl)) (Or.inl (own_w hw 13 rfl)) (by decide) (t := .boolean) (t' := (.array .int)) (by decide) (by decide)))
  have A38 := A24.other W33 (Ne.symm hn1)
  have A39 := A25.other W33 (Ne.symm hn2)
  have E40 := E26.wr W33
  have E41 := E27.wr W33
  have A42 := A14.other W33 (Ne.symm ne29)
  have E43 := E15.wr W33
  have N33 := Fr.snoc X33 N8 hdd
  have K33 : Keep h0 h33 [dd] := K8.wr W33 (Or.inl (List.mem_of_getElem? (i := 0) rfl))
  have Zs44 : n0 ≤ h33.size := (Nat.le_trans Zs28 (Keep.of_wr W33).1)
  obtain ⟨T45, X45, e45, st45⟩ := getF X33 hx hZ hown (host := "") (Or.inl (own_w hw 16 rfl)) Via.refl e33 F35 (g := (mkF m 59 #[.val (.ref dd), .val (.int (1 : Int32)), .val (.int (1 : Int32))] [(.ref dd), (.ref dd)])) rfl rfl (hb hby d7_59)
  obtain ⟨_, _, ⟨T46, L46, k46, n46⟩, -, X46, ⟨Lc46, hQ46, l46, y46, z46⟩, st46⟩ := Jvm.LawKit.callS X45 hx (y := (⟨"java/util/Arrays", "copyOf", "([JI)[J"⟩ : MethodName)) hown (mvT hZ (own_w hw 53 rfl)) (mvT hZ (own_w hw 54 rfl)) (mvT hZ (own_w hw 27 rfl)) (mvT hZ (own_w hw 55 rfl)) (by decide) (backOf (W := 1) (rm_cpJ1_1 l Z a0 hw [] wa kw u0 h33 n0 Zs44 A39 E41) hZ (own_w hw 55 rfl) (own_w hw 27 rfl) (by decide) (by decide)) (g := (mkF m 63 #[.val (.ref dd), .val (.int (1 : Int32)), .val (.int (1 : Int32))] [(.int (1 : Int32)), (.ref wa), (.ref dd)])) rfl (by rw [hml]; rfl) (argsL := [(.ref wa), (.int (1 : Int32))]) (rest := [(.ref dd)]) (lenOf pd_4 rfl) rfl (by show 2 * 0 + _ ≤ _; exact Nat.le_of_eq rfl) (hb hby d7_63) (fun _ _ => ⟨rfl, e45, (by decide : 1 + 1 ≤ _), (by decide : 1 + 1 ≤ _)⟩)
  dsimp only [Pt.U, Pt.locs, Pt.cells, Pt.slots] at X46 l46 y46 z46 st46 hQ46
  subst l46 y46 z46
  obtain ⟨x47, x48, rfl, N46q, hq49, hpq50, hpq51, A52, E53⟩ := hQ46
  have N46 := Fr.app N33 N46q
  have lt54 : dd < h33.size := E34.lt
  have lt55 : ka < h33.size := A38.lt
  have lt56 : wa < h33.size := A39.lt
  have lt57 : x9 < h33.size := A42.lt
  have E58 := E34.keep hq49
  have F59 := F35.keep hq49 nin0
  have F60 := F36.keep hq49 nin0
  have F61 := F37.keep hq49 nin0
  have A62 := A38.keep hq49 nin0
  have A63 := A39.keep hq49 nin0
  have E64 := E40.keep hq49
  have E65 := E41.keep hq49
  have A66 := A42.keep hq49 nin0
  have E67 := E43.keep hq49
  have F68 := Fw33.keep hq49 nin0
  have K46 : Keep h0 T46.heap [dd] := K33.trans hq49 all0
  have Zs69 : n0 ≤ T46.heap.size := (Nat.le_trans Zs44 hq49.1)
  have ne70 : dd ≠ x47 := Nat.ne_of_lt (Nat.lt_of_lt_of_le lt54 hpq51)
  have ne71 : ka ≠ x47 := Nat.ne_of_lt (Nat.lt_of_lt_of_le lt55 hpq51)
  have ne72 : wa ≠ x47 := Nat.ne_of_lt (Nat.lt_of_lt_of_le lt56 hpq51)
  have ne73 : x9 ≠ x47 := Nat.ne_of_lt (Nat.lt_of_lt_of_le lt57 hpq51)
  have sz74 : h0.size ≤ x47 := Nat.le_trans K33.1 hpq51
  obtain ⟨T75, h75, X75, e75, W75, st75⟩ := putF X46 hx hZ hown (host := "") (Or.inl (own_w hw 16 rfl)) Via.refl rfl F59 E58 (Or.inl (own_w hw 17 rfl)) (own_w hw 2 rfl) (ty := (.array .long)) (by decide) rfl rfl (g := (mkF m 66 #[.val (.ref dd), .val (.int (1 : Int32)), .val (.int (1 : Int32))] [(.ref x47), (.ref dd)])) rfl rfl (hb hby d7_66)
  have Fw75 : Fld Z h75 dd "org/tallyrole/core/Dependencies" "words" "[J" (.ref x47) := F59.same W75
  have E76 := E58.wr W75
  have F77 := F60.other W75 (Or.inr (slot_ne (Or.inl (own_w hw 24 rfl)) (Or.inl (own_w hw 17 rfl)) (by decide) (t := .int) (t' := (.array .long)) (by decide) (by decide)))
  have F78 := F61.other W75 (Or.inr (slot_ne (Or.inl (own_w hw 40 rfl)) (Or.inl (own_w hw 17 rfl)) (by decide) (t := .boolean) (t' := (.array .long)) (by decide) (by decide)))
  have A79 := A62.other W75 (Ne.symm hn1)
  have A80 := A63.other W75 (Ne.symm hn2)
  have E81 := E64.wr W75
  have E82 := E65.wr W75
  have A83 := A66.other W75 (Ne.symm ne29)
  have E84 := E67.wr W75
  have F85 := F68.other W75 (Or.inr (slot_ne (Or.inl (own_w hw 13 rfl)) (Or.inl (own_w hw 17 rfl)) (by decide) (t := (.array .int)) (t' := (.array .long)) (by decide) (by decide)))
  have A86 := A52.other W75 (Ne.symm ne70)
  have E87 := E53.wr W75
  have N75 := Fr.snoc X75 N46 hdd
  have K75 : Keep h0 h75 [dd] := K46.wr W75 (Or.inl (List.mem_of_getElem? (i := 0) rfl))
  have Zs88 : n0 ≤ h75.size := (Nat.le_trans Zs69 (Keep.of_wr W75).1)
  obtain ⟨T89, h89, X89, e89, W89, st89⟩ := putFN X75 hx hZ hown (own_w hw 39 rfl) Via.refl e75 F78 E76 (Or.inl (own_w hw 40 rfl)) (own_w hw 2 rfl) (ty := .boolean) (v' := (.int (0 : Int32))) (by decide) rfl rfl (g := (mkF m 71 #[.val (.ref dd), .val (.int (1 : Int32)), .val (.int (1 : Int32))] [(.int (0 : Int32)), (.ref dd)])) rfl rfl (hb hby d7_71)
  have Fw89 : Fld Z h89 dd "org/tallyrole/core/Dependencies" "shared" "Z" (.int (0 : Int32)) := F78.same W89
  have E90 := E76.wr W89
  have F91 := F77.other W89 (Or.inr (slot_ne (Or.inl (own_w hw 24 rfl)) (Or.inl (own_w hw 40 rfl)) (by decide) (t := .int) (t' := .boolean) (by decide) (by decide)))
  have A92 := A79.other W89 (Ne.symm hn1)
  have A93 := A80.other W89 (Ne.symm hn2)
  have E94 := E81.wr W89
  have E95 := E82.wr W89
  have A96 := A83.other W89 (Ne.symm ne29)
  have E97 := E84.wr W89
  have F98 := F85.other W89 (Or.inr (slot_ne (Or.inl (own_w hw 13 rfl)) (Or.inl (own_w hw 40 rfl)) (by decide) (t := (.array .int)) (t' := .boolean) (by decide) (by decide)))
  have A99 := A86.other W89 (Ne.symm ne70)
  have E100 := E87.wr W89
  have F101 := Fw75.other W89 (Or.inr (slot_ne (Or.inl (own_w hw 17 rfl)) (Or.inl (own_w hw 40 rfl)) (by decide) (t := (.array .long)) (t' := .boolean) (by decide) (by decide)))
  have N89 := Fr.snoc X89 N75 hdd
  have K89 : Keep h0 h89 [dd] := K75.wr W89 (Or.inl (List.mem_of_getElem? (i := 0) rfl))
  have Zs102 : n0 ≤ h89.size := (Nat.le_trans Zs88 (Keep.of_wr W89).1)
  have pre103 := fun (t : State) (k : Steps p.tables e below (T89.setTop (mkF m 74 #[.val (.ref dd), .val (.int (1 : Int32)), .val (.int (1 : Int32))] [])) t) => pre0 t (by
    refine XS.aloadN X0.here hx rfl (hb hby d7_0) rfl rfl ?_
    refine st1 _ ?_
    refine X1.arraylength hx (by rw [e1]; exact Arc2.1) (State.isArrayOf_alike hZ.alike Arc2.2.1) (g := (mkF m 4 #[.val (.ref dd), .val (.int (1 : Int32)), .unset] [(.ref ka)])) rfl rfl (hb hby d7_4) _ ?_
    rw [show c2.slots.size.toInt32 = (1 : Int32) from (len_of Sc2 Nc2)]
    refine XS.istoreN X1.here hx rfl (hb hby d7_5) rfl (l' := #[.val (.ref dd), .val (.int (1 : Int32)), .val (.int (1 : Int32))]) rfl ?_
    refine XS.aloadN X1.here hx rfl (hb hby d7_6) rfl rfl ?_
    refine st3 _ ?_
    refine XS.ifNo X3.here hx rfl (hb hby d7_10) rfl ((if0 _ _).trans (feq (by decide : ¬ ((1 : Int32) = (0 : Int32)))).1) ?_
    refine XS.iloadN X3.here hx rfl (hb hby d7_13) rfl ?_
    refine XS.istoreN X3.here hx rfl (hb hby d7_14) rfl (l' := #[.val (.ref dd), .val (.int (1 : Int32)), .val (.int (1 : Int32))]) rfl ?_
    refine XS.goto X3.here hx rfl (pc0 := 15) (pc' := 29) rfl (hb hby d7_15) (by decide) (by decide) ?_
    refine XS.iloadN X3.here hx rfl (hb hby d7_29) rfl ?_
    refine XS.aloadN X3.here hx rfl (hb hby d7_30) rfl rfl ?_
    refine st4 _ ?_
    refine X4.arraylength hx (by rw [e4]; exact Arc5.1) (State.isArrayOf_alike hZ.alike Arc5.2.1) (g := (mkF m 34 #[.val (.ref dd), .val (.int (1 : Int32)), .val (.int (1 : Int32))] [(.ref ka), (.int (1 : Int32))])) rfl rfl (hb hby d7_34) _ ?_
    rw [show c5.slots.size.toInt32 = (1 : Int32) from (len_of Sc5 Nc5)]
    refine XS.icmpNo X4.here hx rfl (hb hby d7_35) rfl (teq (by decide : (1 : Int32) = (1 : Int32))).2 ?_
    refine XS.aloadN X4.here hx rfl (hb hby d7_38) rfl rfl ?_
    refine st6 _ ?_
    refine XS.ifNo X6.here hx rfl (hb hby d7_42) rfl ((if0 _ _).trans (feq (by decide : ¬ ((1 : Int32) = (0 : Int32)))).1) ?_
    refine XS.aloadN X6.here hx rfl (hb hby d7_45) rfl rfl ?_
    refine XS.aloadN X6.here hx rfl (hb hby d7_46) rfl rfl ?_
    refine st7 _ ?_
    refine XS.iloadN X7.here hx rfl (hb hby d7_50) rfl ?_
    refine st8 _ ?_
    refine st33 _ ?_
    refine XS.aloadN X33.here hx rfl (hb hby d7_57) rfl rfl ?_
    refine XS.aloadN X33.here hx rfl (hb hby d7_58) rfl rfl ?_
    refine st45 _ ?_
    refine XS.iloadN X45.here hx rfl (hb hby d7_62) rfl ?_
    refine st46 _ ?_
    refine st75 _ ?_
    refine XS.aloadN X75.here hx rfl (hb hby d7_69) rfl rfl ?_
    refine XS.iconst X75.here hx rfl (hb hby d7_70) ?_
    refine st89 _ ?_
    exact k)
  obtain ⟨fs, hr, hrun, hended, hW, hsame⟩ := X89.leave (v := none) (hlocks := BodyLoose.notSynchronized Bd) (fun _ => rfl)
  refine ⟨_, _, pre103 _ ?_, hrun, hended, _, _, rfl, ?_, ⟨_, rfl⟩, hW, hsame.mono (by decide) (by decide)⟩
  · exact X89.returnOut hx Bd.returns (hb hby d7_74) hr
  · show Q_rv1_1_1 Z dd ka wa kk kw sz v0 u0 h0 n0 _ T89.heap _
    rw [e89]
    exact ⟨x9, x47, x10, x48, rfl, N89, K89, hpq12, sz32, hpq50, sz74, ne29, ne70, ne73, E90, F98, F101, F91, Fw89, A96, A99, E97, E100⟩

theorem ef_rv3_3_1 (m : MethodId) (x0 : Addr) (x1 : Int32) : entryFrame m #[(.ref x0), (.int x1)] 3 = mkF m 0 #[.val (.ref x0), .val (.int x1), .unset] [] := by first | (simp [entryFrame, mkF, argsToLocals, Value.category]; done) | rfl
def Q_rv3_3_1 (Z : State) (dd : Addr) (ka : Addr) (wa : Addr) (kk : ClassId) (kw : ClassId) (sz : Int32) (v0 : Int32) (v1 : Int32) (v2 : Int32) (u0 : Int64) (u1 : Int64) (u2 : Int64) (h0 : Heap) (n0 : Nat) (v : Option Value) (h : Heap) (L : List Loc) : Prop := ∃ xk : Addr, ∃ xw : Addr, ∃ kxk : ClassId, ∃ kxw : ClassId, v = none ∧ Fr n0 L ∧ Keep h0 h [dd] ∧ n0 ≤ xk ∧ h0.size ≤ xk ∧ n0 ≤ xw ∧ h0.size ≤ xw ∧ dd ≠ xk ∧ dd ≠ xw ∧ xk ≠ xw ∧ Exa Z h dd "org/tallyrole/core/Dependencies" ∧ Fld Z h dd "org/tallyrole/core/Dependencies" "keys" "[I" (.ref xk) ∧ Fld Z h dd "org/tallyrole/core/Dependencies" "words" "[J" (.ref xw) ∧ Fld Z h dd "org/tallyrole/core/Dependencies" "size" "I" (.int sz) ∧ Fld Z h dd "org/tallyrole/core/Dependencies" "shared" "Z" (.int (0 : Int32)) ∧ Arv Z h xk kxk .int (3 : Int32) [(.int v0), (.int v1), (.int v2)] (.int (0 : Int32)) ∧ Arv Z h xw kxw .long (3 : Int32) [(.long u0), (.long u1), (.long u2)] (.long (0 : Int64)) ∧ Exa Z h xk "[I" ∧ Exa Z h xw "[J"
set_option maxRecDepth 65536 in
set_option maxHeartbeats 40000000 in
theorem rm_rv3_3_1 (l : Launch) (Z : State) (a0 : Array Value) (hw : ∀ d ∈ tables_1, d.before a0 Z = true) (ws : List Jvm.Cond) (dd : Addr) (ka : Addr) (wa : Addr) (kk : ClassId) (kw : ClassId) (sz : Int32) (v0 : Int32) (v1 : Int32) (v2 : Int32) (u0 : Int64) (u1 : Int64) (u2 : Int64) (h0 : Heap) (n0 : Nat) (Z0 : n0 ≤ h0.size) (H0_E : Exa Z h0 dd "org/tallyrole/core/Dependencies") (H1_F : Fld Z h0 dd "org/tallyrole/core/Dependencies" "keys" "[I" (.ref ka)) (H2_F : Fld Z h0 dd "org/tallyrole/core/Dependencies" "words" "[J" (.ref wa)) (H3_F : Fld Z h0 dd "org/tallyrole/core/Dependencies" "size" "I" (.int sz)) (H4_F : Fld Z h0 dd "org/tallyrole/core/Dependencies" "shared" "Z" (.int (1 : Int32))) (H5_A : Arv Z h0 ka kk .int (3 : Int32) [(.int v0), (.int v1), (.int v2)] (.int (0 : Int32))) (H6_A : Arv Z h0 wa kw .long (3 : Int32) [(.long u0), (.long u1), (.long u2)] (.long (0 : Int64))) (H7_E : Exa Z h0 ka "[I") (H8_E : Exa Z h0 wa "[J") (hdd : n0 ≤ dd) (hn1 : dd ≠ ka) (hn2 : dd ≠ wa) :
    MetFree l (⟨"org/tallyrole/core/Dependencies", "reserve", "(I)V"⟩ : MethodName) (head1 (Jvm.Cond.code (⟨"org/tallyrole/core/Dependencies", "reserve", "(I)V"⟩ : MethodName) prog_36_method_10_code 3 none :: ws) ({ frames := 2, cells := 2, slots := 6, locals := 29 } : Room)) (fun as_ U_ => as_ = #[(.ref dd), (.int (3 : Int32))] ∧ Z.Warmed39 U_.vm ∧ U_.heap = h0) (fun _ _ _ _ _ => True) (fun _ U o U' => ∃ v L, o = .returned v ∧ Q_rv3_3_1 Z dd ka wa kk kw sz v0 v1 v2 u0 u1 u2 h0 n0 v U'.heap L ∧ FrameEnd U o U' L ({ frames := 2, cells := 2, slots := 6, locals := 29 } : Room).cells ({ frames := 2, cells := 2, slots := 6, locals := 29 } : Room).slots) := by
  refine MetFree.of_bodySF (plainFor_of_name pn_1) hisR ?_
  intro p e s m args below meth c s₁ Bd hml0 hP hK
  obtain ⟨rfl, hZ, hhp_⟩ := hP
  have hx := Bd.exec
  have hby := Bd.bytes
  have hml : c.maxLocals = 3 := hml0
  have hown : s.vm.findClass "org/tallyrole/core/Dependencies" = some m.cls := findClass_of_methodNamed Bd.named
  have hnm := (name_of_methodNamed Bd.named Bd.method).1
  have X0 : Stand p l e ({ frames := 2, cells := 2, slots := 6, locals := 29 } : Room) s m #[(.ref dd), (.int (3 : Int32))] below meth c s₁ [] 0 0 := Stand.of_body Bd
  have e0 : s₁.heap = h0 := by rw [← hhp_, Bd.state]; rfl
  have N0 := Fr.nil n0
  have pre0 : ∀ t, Steps p.tables e below (s₁.setTop (mkF m 0 #[.val (.ref dd), .val (.int (3 : Int32)), .unset] [])) t → Steps p.tables e below (s₁.setTop (entryFrame m #[(.ref dd), (.int (3 : Int32))] 3)) t := fun t k => castTop (ef_rv3_3_1 m dd (3 : Int32)) k
  have K0 : Keep h0 h0 [dd] := Keep.refl h0 [dd]
  obtain ⟨T1, X1, e1, st1⟩ := getF X0 hx hZ hown (host := "") (Or.inl (own_w hw 12 rfl)) Via.refl e0 H1_F (g := (mkF m 1 #[.val (.ref dd), .val (.int (3 : Int32)), .unset] [(.ref dd)])) rfl rfl (hb hby d7_1)
  have oc2 := H5_A
  obtain ⟨c2, Arc2, qc2, Sc2, Nc2, Hc2, Gc2⟩ := oc2
  obtain ⟨T3, X3, e3, st3⟩ := getF X1 hx hZ hown (host := "") (Or.inl (own_w hw 39 rfl)) Via.refl e1 H4_F (g := (mkF m 7 #[.val (.ref dd), .val (.int (3 : Int32)), .val (.int (3 : Int32))] [(.ref dd)])) rfl rfl (hb hby d7_7)
  obtain ⟨T4, X4, e4, st4⟩ := getF X3 hx hZ hown (host := "") (Or.inl (own_w hw 12 rfl)) Via.refl e3 H1_F (g := (mkF m 31 #[.val (.ref dd), .val (.int (3 : Int32)), .val (.int (3 : Int32))] [(.ref dd), (.int (3 : Int32))])) rfl rfl (hb hby d7_31)
  have oc5 := H5_A
  obtain ⟨c5, Arc5, qc5, Sc5, Nc5, Hc5, Gc5⟩ := oc5
  obtain ⟨T6, X6, e6, st6⟩ := getF X4 hx hZ hown (host := "") (Or.inl (own_w hw 39 rfl)) Via.refl e4 H4_F (g := (mkF m 39 #[.val (.ref dd), .val (.int (3 : Int32)), .val (.int (3 : Int32))] [(.ref dd)])) rfl rfl (hb hby d7_39)
  obtain ⟨T7, X7, e7, st7⟩ := getF X6 hx hZ hown (host := "") (Or.inl (own_w hw 12 rfl)) Via.refl e6 H1_F (g := (mkF m 47 #[.val (.ref dd), .val (.int (3 : Int32)), .val (.int (3 : Int32))] [(.ref dd), (.ref dd)])) rfl rfl (hb hby d7_47)
  obtain ⟨_, _, ⟨T8, L8, k8, n8⟩, -, X8, ⟨Lc8, hQ8, l8, y8, z8⟩, st8⟩ := Jvm.LawKit.callS X7 hx (y := (⟨"java/util/Arrays", "copyOf", "([II)[I"⟩ : MethodName)) hown (mvT hZ (own_w hw 41 rfl)) (mvT hZ (own_w hw 42 rfl)) (mvT hZ (own_w hw 27 rfl)) (mvT hZ (own_w hw 43 rfl)) (by decide) (backOf (W := 1) (rm_cpI3_3 l Z a0 hw [] ka kk v0 v1 v2 h0 n0 Z0 H5_A H7_E) hZ (own_w hw 43 rfl) (own_w hw 27 rfl) (by decide) (by decide)) (g := (mkF m 51 #[.val (.ref dd), .val (.int (3 : Int32)), .val (.int (3 : Int32))] [(.int (3 : Int32)), (.ref ka), (.ref dd)])) rfl (by rw [hml]; rfl) (argsL := [(.ref ka), (.int (3 : Int32))]) (rest := [(.ref dd)]) (lenOf pd_3 rfl) rfl (by show 2 * 0 + _ ≤ _; exact Nat.le_of_eq rfl) (hb hby d7_51) (fun _ _ => ⟨rfl, e7, (by decide : 0 + 1 ≤ _), (by decide : 0 + 3 ≤ _)⟩)
  dsimp only [Pt.U, Pt.locs, Pt.cells, Pt.slots] at X8 l8 y8 z8 st8 hQ8
  subst l8 y8 z8
  obtain ⟨x9, x10, rfl, N8q, hq11, hpq12, hpq13, A14, E15⟩ := hQ8
  have N8 := Fr.app N0 N8q
  have lt16 : dd < h0.size := H0_E.lt
  have lt17 : ka < h0.size := H5_A.lt
  have lt18 : wa < h0.size := H6_A.lt
  have E19 := H0_E.keep hq11
  have F20 := H1_F.keep hq11 nin0
  have F21 := H2_F.keep hq11 nin0
  have F22 := H3_F.keep hq11 nin0
  have F23 := H4_F.keep hq11 nin0
  have A24 := H5_A.keep hq11 nin0
  have A25 := H6_A.keep hq11 nin0
  have E26 := H7_E.keep hq11
  have E27 := H8_E.keep hq11
  have K8 : Keep h0 T8.heap [dd] := K0.trans hq11 all0
  have Zs28 : n0 ≤ T8.heap.size := (Nat.le_trans Z0 hq11.1)
  have ne29 : dd ≠ x9 := Nat.ne_of_lt (Nat.lt_of_lt_of_le lt16 hpq13)
  have ne30 : ka ≠ x9 := Nat.ne_of_lt (Nat.lt_of_lt_of_le lt17 hpq13)
  have ne31 : wa ≠ x9 := Nat.ne_of_lt (Nat.lt_of_lt_of_le lt18 hpq13)
  have sz32 : h0.size ≤ x9 := Nat.le_trans K0.1 hpq13
  obtain ⟨T33, h33, X33, e33, W33, st33⟩ := putF X8 hx hZ hown (host := "") (Or.inl (own_w hw 12 rfl)) Via.refl rfl F20 E19 (Or.inl (own_w hw 13 rfl)) (own_w hw 2 rfl) (ty := (.array .int)) (by decide) rfl rfl (g := (mkF m 54 #[.val (.ref dd), .val (.int (3 : Int32)), .val (.int (3 : Int32))] [(.ref x9), (.ref dd)])) rfl rfl (hb hby d7_54)
  have Fw33 : Fld Z h33 dd "org/tallyrole/core/Dependencies" "keys" "[I" (.ref x9) := F20.same W33
  have E34 := E19.wr W33
  have F35 := F21.other W33 (Or.inr (slot_ne (Or.inl (own_w hw 17 rfl)) (Or.inl (own_w hw 13 rfl)) (by decide) (t := (.array .long)) (t' := (.array .int)) (by decide) (by decide)))
  have F36 := F22.other W33 (Or.inr (slot_ne (Or.inl (own_w hw 24 rfl)) (Or.inl (own_w hw 13 rfl)) (by decide) (t := .int) (t' := (.array .int)) (by decide) (by decide)))
  have F37 := F23.other W33 (Or.inr (slot_ne (Or.inl (own_w hw 40 rfl)) (Or.inl (own_w hw 13 rfl)) (by decide) (t := .boolean) (t' := (.array .int)) (by decide) (by decide)))
  have A38 := A24.other W33 (Ne.symm hn1)
  have A39 := A25.other W33 (Ne.symm hn2)
  have E40 := E26.wr W33
  have E41 := E27.wr W33
  have A42 := A14.other W33 (Ne.symm ne29)
  have E43 := E15.wr W33
  have N33 := Fr.snoc X33 N8 hdd
  have K33 : Keep h0 h33 [dd] := K8.wr W33 (Or.inl (List.mem_of_getElem? (i := 0) rfl))
  have Zs44 : n0 ≤ h33.size := (Nat.le_trans Zs28 (Keep.of_wr W33).1)
  obtain ⟨T45, X45, e45, st45⟩ := getF X33 hx hZ hown (host := "") (Or.inl (own_w hw 16 rfl)) Via.refl e33 F35 (g := (mkF m 59 #[.val (.ref dd), .val (.int (3 : Int32)), .val (.int (3 : Int32))] [(.ref dd), (.ref dd)])) rfl rfl (hb hby d7_59)
  obtain ⟨_, _, ⟨T46, L46, k46, n46⟩, -, X46, ⟨Lc46, hQ46, l46, y46, z46⟩, st46⟩ := Jvm.LawKit.callS X45 hx (y := (⟨"java/util/Arrays", "copyOf", "([JI)[J"⟩ : MethodName)) hown (mvT hZ (own_w hw 53 rfl)) (mvT hZ (own_w hw 54 rfl)) (mvT hZ (own_w hw 27 rfl)) (mvT hZ (own_w hw 55 rfl)) (by decide) (backOf (W := 1) (rm_cpJ3_3 l Z a0 hw [] wa kw u0 u1 u2 h33 n0 Zs44 A39 E41) hZ (own_w hw 55 rfl) (own_w hw 27 rfl) (by decide) (by decide)) (g := (mkF m 63 #[.val (.ref dd), .val (.int (3 : Int32)), .val (.int (3 : Int32))] [(.int (3 : Int32)), (.ref wa), (.ref dd)])) rfl (by rw [hml]; rfl) (argsL := [(.ref wa), (.int (3 : Int32))]) (rest := [(.ref dd)]) (lenOf pd_4 rfl) rfl (by show 2 * 0 + _ ≤ _; exact Nat.le_of_eq rfl) (hb hby d7_63) (fun _ _ => ⟨rfl, e45, (by decide : 1 + 1 ≤ _), (by decide : 3 + 3 ≤ _)⟩)
  dsimp only [Pt.U, Pt.locs, Pt.cells, Pt.slots] at X46 l46 y46 z46 st46 hQ46
  subst l46 y46 z46
  obtain ⟨x47, x48, rfl, N46q, hq49, hpq50, hpq51, A52, E53⟩ := hQ46
  have N46 := Fr.app N33 N46q
  have lt54 : dd < h33.size := E34.lt
  have lt55 : ka < h33.size := A38.lt
  have lt56 : wa < h33.size := A39.lt
  have lt57 : x9 < h33.size := A42.lt
  have E58 := E34.keep hq49
  have F59 := F35.keep hq49 nin0
  have F60 := F36.keep hq49 nin0
  have F61 := F37.keep hq49 nin0
  have A62 := A38.keep hq49 nin0
  have A63 := A39.keep hq49 nin0
  have E64 := E40.keep hq49
  have E65 := E41.keep hq49
  have A66 := A42.keep hq49 nin0
  have E67 := E43.keep hq49
  have F68 := Fw33.keep hq49 nin0
  have K46 : Keep h0 T46.heap [dd] := K33.trans hq49 all0
  have Zs69 : n0 ≤ T46.heap.size := (Nat.le_trans Zs44 hq49.1)
  have ne70 : dd ≠ x47 := Nat.ne_of_lt (Nat.lt_of_lt_of_le lt54 hpq51)
  have ne71 : ka ≠ x47 := Nat.ne_of_lt (Nat.lt_of_lt_of_le lt55 hpq51)
  have ne72 : wa ≠ x47 := Nat.ne_of_lt (Nat.lt_of_lt_of_le lt56 hpq51)
  have ne73 : x9 ≠ x47 := Nat.ne_of_lt (Nat.lt_of_lt_of_le lt57 hpq51)
  have sz74 : h0.size ≤ x47 := Nat.le_trans K33.1 hpq51
  obtain ⟨T75, h75, X75, e75, W75, st75⟩ := putF X46 hx hZ hown (host := "") (Or.inl (own_w hw 16 rfl)) Via.refl rfl F59 E58 (Or.inl (own_w hw 17 rfl)) (own_w hw 2 rfl) (ty := (.array .long)) (by decide) rfl rfl (g := (mkF m 66 #[.val (.ref dd), .val (.int (3 : Int32)), .val (.int (3 : Int32))] [(.ref x47), (.ref dd)])) rfl rfl (hb hby d7_66)
  have Fw75 : Fld Z h75 dd "org/tallyrole/core/Dependencies" "words" "[J" (.ref x47) := F59.same W75
  have E76 := E58.wr W75
  have F77 := F60.other W75 (Or.inr (slot_ne (Or.inl (own_w hw 24 rfl)) (Or.inl (own_w hw 17 rfl)) (by decide) (t := .int) (t' := (.array .long)) (by decide) (by decide)))
  have F78 := F61.other W75 (Or.inr (slot_ne (Or.inl (own_w hw 40 rfl)) (Or.inl (own_w hw 17 rfl)) (by decide) (t := .boolean) (t' := (.array .long)) (by decide) (by decide)))
  have A79 := A62.other W75 (Ne.symm hn1)
  have A80 := A63.other W75 (Ne.symm hn2)
  have E81 := E64.wr W75
  have E82 := E65.wr W75
  have A83 := A66.other W75 (Ne.symm ne29)
  have E84 := E67.wr W75
  have F85 := F68.other W75 (Or.inr (slot_ne (Or.inl (own_w hw 13 rfl)) (Or.inl (own_w hw 17 rfl)) (by decide) (t := (.array .int)) (t' := (.array .long)) (by decide) (by decide)))
  have A86 := A52.other W75 (Ne.symm ne70)
  have E87 := E53.wr W75
  have N75 := Fr.snoc X75 N46 hdd
  have K75 : Keep h0 h75 [dd] := K46.wr W75 (Or.inl (List.mem_of_getElem? (i := 0) rfl))
  have Zs88 : n0 ≤ h75.size := (Nat.le_trans Zs69 (Keep.of_wr W75).1)
  obtain ⟨T89, h89, X89, e89, W89, st89⟩ := putFN X75 hx hZ hown (own_w hw 39 rfl) Via.refl e75 F78 E76 (Or.inl (own_w hw 40 rfl)) (own_w hw 2 rfl) (ty := .boolean) (v' := (.int (0 : Int32))) (by decide) rfl rfl (g := (mkF m 71 #[.val (.ref dd), .val (.int (3 : Int32)), .val (.int (3 : Int32))] [(.int (0 : Int32)), (.ref dd)])) rfl rfl (hb hby d7_71)
  have Fw89 : Fld Z h89 dd "org/tallyrole/core/Dependencies" "shared" "Z" (.int (0 : Int32)) := F78.same W89
  have E90 := E76.wr W89
  have F91 := F77.other W89 (Or.inr (slot_ne (Or.inl (own_w hw 24 rfl)) (Or.inl (own_w hw 40 rfl)) (by decide) (t := .int) (t' := .boolean) (by decide) (by decide)))
  have A92 := A79.other W89 (Ne.symm hn1)
  have A93 := A80.other W89 (Ne.symm hn2)
  have E94 := E81.wr W89
  have E95 := E82.wr W89
  have A96 := A83.other W89 (Ne.symm ne29)
  have E97 := E84.wr W89
  have F98 := F85.other W89 (Or.inr (slot_ne (Or.inl (own_w hw 13 rfl)) (Or.inl (own_w hw 40 rfl)) (by decide) (t := (.array .int)) (t' := .boolean) (by decide) (by decide)))
  have A99 := A86.other W89 (Ne.symm ne70)
  have E100 := E87.wr W89
  have F101 := Fw75.other W89 (Or.inr (slot_ne (Or.inl (own_w hw 17 rfl)) (Or.inl (own_w hw 40 rfl)) (by decide) (t := (.array .long)) (t' := .boolean) (by decide) (by decide)))
  have N89 := Fr.snoc X89 N75 hdd
  have K89 : Keep h0 h89 [dd] := K75.wr W89 (Or.inl (List.mem_of_getElem? (i := 0) rfl))
  have Zs102 : n0 ≤ h89.size := (Nat.le_trans Zs88 (Keep.of_wr W89).1)
  have pre103 := fun (t : State) (k : Steps p.tables e below (T89.setTop (mkF m 74 #[.val (.ref dd), .val (.int (3 : Int32)), .val (.int (3 : Int32))] [])) t) => pre0 t (by
    refine XS.aloadN X0.here hx rfl (hb hby d7_0) rfl rfl ?_
    refine st1 _ ?_
    refine X1.arraylength hx (by rw [e1]; exact Arc2.1) (State.isArrayOf_alike hZ.alike Arc2.2.1) (g := (mkF m 4 #[.val (.ref dd), .val (.int (3 : Int32)), .unset] [(.ref ka)])) rfl rfl (hb hby d7_4) _ ?_
    rw [show c2.slots.size.toInt32 = (3 : Int32) from (len_of Sc2 Nc2)]
    refine XS.istoreN X1.here hx rfl (hb hby d7_5) rfl (l' := #[.val (.ref dd), .val (.int (3 : Int32)), .val (.int (3 : Int32))]) rfl ?_
    refine XS.aloadN X1.here hx rfl (hb hby d7_6) rfl rfl ?_
    refine st3 _ ?_
    refine XS.ifNo X3.here hx rfl (hb hby d7_10) rfl ((if0 _ _).trans (feq (by decide : ¬ ((1 : Int32) = (0 : Int32)))).1) ?_
    refine XS.iloadN X3.here hx rfl (hb hby d7_13) rfl ?_
    refine XS.istoreN X3.here hx rfl (hb hby d7_14) rfl (l' := #[.val (.ref dd), .val (.int (3 : Int32)), .val (.int (3 : Int32))]) rfl ?_
    refine XS.goto X3.here hx rfl (pc0 := 15) (pc' := 29) rfl (hb hby d7_15) (by decide) (by decide) ?_
    refine XS.iloadN X3.here hx rfl (hb hby d7_29) rfl ?_
    refine XS.aloadN X3.here hx rfl (hb hby d7_30) rfl rfl ?_
    refine st4 _ ?_
    refine X4.arraylength hx (by rw [e4]; exact Arc5.1) (State.isArrayOf_alike hZ.alike Arc5.2.1) (g := (mkF m 34 #[.val (.ref dd), .val (.int (3 : Int32)), .val (.int (3 : Int32))] [(.ref ka), (.int (3 : Int32))])) rfl rfl (hb hby d7_34) _ ?_
    rw [show c5.slots.size.toInt32 = (3 : Int32) from (len_of Sc5 Nc5)]
    refine XS.icmpNo X4.here hx rfl (hb hby d7_35) rfl (teq (by decide : (3 : Int32) = (3 : Int32))).2 ?_
    refine XS.aloadN X4.here hx rfl (hb hby d7_38) rfl rfl ?_
    refine st6 _ ?_
    refine XS.ifNo X6.here hx rfl (hb hby d7_42) rfl ((if0 _ _).trans (feq (by decide : ¬ ((1 : Int32) = (0 : Int32)))).1) ?_
    refine XS.aloadN X6.here hx rfl (hb hby d7_45) rfl rfl ?_
    refine XS.aloadN X6.here hx rfl (hb hby d7_46) rfl rfl ?_
    refine st7 _ ?_
    refine XS.iloadN X7.here hx rfl (hb hby d7_50) rfl ?_
    refine st8 _ ?_
    refine st33 _ ?_
    refine XS.aloadN X33.here hx rfl (hb hby d7_57) rfl rfl ?_
    refine XS.aloadN X33.here hx rfl (hb hby d7_58) rfl rfl ?_
    refine st45 _ ?_
    refine XS.iloadN X45.here hx rfl (hb hby d7_62) rfl ?_
    refine st46 _ ?_
    refine st75 _ ?_
    refine XS.aloadN X75.here hx rfl (hb hby d7_69) rfl rfl ?_
    refine XS.iconst X75.here hx rfl (hb hby d7_70) ?_
    refine st89 _ ?_
    exact k)
  obtain ⟨fs, hr, hrun, hended, hW, hsame⟩ := X89.leave (v := none) (hlocks := BodyLoose.notSynchronized Bd) (fun _ => rfl)
  refine ⟨_, _, pre103 _ ?_, hrun, hended, _, _, rfl, ?_, ⟨_, rfl⟩, hW, hsame.mono (by decide) (by decide)⟩
  · exact X89.returnOut hx Bd.returns (hb hby d7_74) hr
  · show Q_rv3_3_1 Z dd ka wa kk kw sz v0 v1 v2 u0 u1 u2 h0 n0 _ T89.heap _
    rw [e89]
    exact ⟨x9, x47, x10, x48, rfl, N89, K89, hpq12, sz32, hpq50, sz74, ne29, ne70, ne73, E90, F98, F101, F91, Fw89, A96, A99, E97, E100⟩

theorem ef_rv3_2_1 (m : MethodId) (x0 : Addr) (x1 : Int32) : entryFrame m #[(.ref x0), (.int x1)] 3 = mkF m 0 #[.val (.ref x0), .val (.int x1), .unset] [] := by first | (simp [entryFrame, mkF, argsToLocals, Value.category]; done) | rfl
def Q_rv3_2_1 (Z : State) (dd : Addr) (ka : Addr) (wa : Addr) (kk : ClassId) (kw : ClassId) (sz : Int32) (v0 : Int32) (v1 : Int32) (v2 : Int32) (u0 : Int64) (u1 : Int64) (u2 : Int64) (h0 : Heap) (n0 : Nat) (v : Option Value) (h : Heap) (L : List Loc) : Prop := ∃ xk : Addr, ∃ xw : Addr, ∃ kxk : ClassId, ∃ kxw : ClassId, v = none ∧ Fr n0 L ∧ Keep h0 h [dd] ∧ n0 ≤ xk ∧ h0.size ≤ xk ∧ n0 ≤ xw ∧ h0.size ≤ xw ∧ dd ≠ xk ∧ dd ≠ xw ∧ xk ≠ xw ∧ Exa Z h dd "org/tallyrole/core/Dependencies" ∧ Fld Z h dd "org/tallyrole/core/Dependencies" "keys" "[I" (.ref xk) ∧ Fld Z h dd "org/tallyrole/core/Dependencies" "words" "[J" (.ref xw) ∧ Fld Z h dd "org/tallyrole/core/Dependencies" "size" "I" (.int sz) ∧ Fld Z h dd "org/tallyrole/core/Dependencies" "shared" "Z" (.int (0 : Int32)) ∧ Arv Z h xk kxk .int (2 : Int32) [(.int v0), (.int v1)] (.int (0 : Int32)) ∧ Arv Z h xw kxw .long (2 : Int32) [(.long u0), (.long u1)] (.long (0 : Int64)) ∧ Exa Z h xk "[I" ∧ Exa Z h xw "[J"
set_option maxRecDepth 65536 in
set_option maxHeartbeats 40000000 in
theorem rm_rv3_2_1 (l : Launch) (Z : State) (a0 : Array Value) (hw : ∀ d ∈ tables_1, d.before a0 Z = true) (ws : List Jvm.Cond) (dd : Addr) (ka : Addr) (wa : Addr) (kk : ClassId) (kw : ClassId) (sz : Int32) (v0 : Int32) (v1 : Int32) (v2 : Int32) (u0 : Int64) (u1 : Int64) (u2 : Int64) (h0 : Heap) (n0 : Nat) (Z0 : n0 ≤ h0.size) (H0_E : Exa Z h0 dd "org/tallyrole/core/Dependencies") (H1_F : Fld Z h0 dd "org/tallyrole/core/Dependencies" "keys" "[I" (.ref ka)) (H2_F : Fld Z h0 dd "org/tallyrole/core/Dependencies" "words" "[J" (.ref wa)) (H3_F : Fld Z h0 dd "org/tallyrole/core/Dependencies" "size" "I" (.int sz)) (H4_F : Fld Z h0 dd "org/tallyrole/core/Dependencies" "shared" "Z" (.int (1 : Int32))) (H5_A : Arv Z h0 ka kk .int (3 : Int32) [(.int v0), (.int v1), (.int v2)] (.int (0 : Int32))) (H6_A : Arv Z h0 wa kw .long (3 : Int32) [(.long u0), (.long u1), (.long u2)] (.long (0 : Int64))) (hdd : n0 ≤ dd) (hn1 : dd ≠ ka) (hn2 : dd ≠ wa) :
    MetFree l (⟨"org/tallyrole/core/Dependencies", "reserve", "(I)V"⟩ : MethodName) (head1 (Jvm.Cond.code (⟨"org/tallyrole/core/Dependencies", "reserve", "(I)V"⟩ : MethodName) prog_36_method_10_code 3 none :: ws) ({ frames := 2, cells := 2, slots := 4, locals := 33 } : Room)) (fun as_ U_ => as_ = #[(.ref dd), (.int (2 : Int32))] ∧ Z.Warmed39 U_.vm ∧ U_.heap = h0) (fun _ _ _ _ _ => True) (fun _ U o U' => ∃ v L, o = .returned v ∧ Q_rv3_2_1 Z dd ka wa kk kw sz v0 v1 v2 u0 u1 u2 h0 n0 v U'.heap L ∧ FrameEnd U o U' L ({ frames := 2, cells := 2, slots := 4, locals := 33 } : Room).cells ({ frames := 2, cells := 2, slots := 4, locals := 33 } : Room).slots) := by
  refine MetFree.of_bodySF (plainFor_of_name pn_1) hisR ?_
  intro p e s m args below meth c s₁ Bd hml0 hP hK
  obtain ⟨rfl, hZ, hhp_⟩ := hP
  have hx := Bd.exec
  have hby := Bd.bytes
  have hml : c.maxLocals = 3 := hml0
  have hown : s.vm.findClass "org/tallyrole/core/Dependencies" = some m.cls := findClass_of_methodNamed Bd.named
  have hnm := (name_of_methodNamed Bd.named Bd.method).1
  have X0 : Stand p l e ({ frames := 2, cells := 2, slots := 4, locals := 33 } : Room) s m #[(.ref dd), (.int (2 : Int32))] below meth c s₁ [] 0 0 := Stand.of_body Bd
  have e0 : s₁.heap = h0 := by rw [← hhp_, Bd.state]; rfl
  have N0 := Fr.nil n0
  have pre0 : ∀ t, Steps p.tables e below (s₁.setTop (mkF m 0 #[.val (.ref dd), .val (.int (2 : Int32)), .unset] [])) t → Steps p.tables e below (s₁.setTop (entryFrame m #[(.ref dd), (.int (2 : Int32))] 3)) t := fun t k => castTop (ef_rv3_2_1 m dd (2 : Int32)) k
  have K0 : Keep h0 h0 [dd] := Keep.refl h0 [dd]
  obtain ⟨T1, X1, e1, st1⟩ := getF X0 hx hZ hown (host := "") (Or.inl (own_w hw 12 rfl)) Via.refl e0 H1_F (g := (mkF m 1 #[.val (.ref dd), .val (.int (2 : Int32)), .unset] [(.ref dd)])) rfl rfl (hb hby d7_1)
  have oc2 := H5_A
  obtain ⟨c2, Arc2, qc2, Sc2, Nc2, Hc2, Gc2⟩ := oc2
  obtain ⟨T3, X3, e3, st3⟩ := getF X1 hx hZ hown (host := "") (Or.inl (own_w hw 39 rfl)) Via.refl e1 H4_F (g := (mkF m 7 #[.val (.ref dd), .val (.int (2 : Int32)), .val (.int (3 : Int32))] [(.ref dd)])) rfl rfl (hb hby d7_7)
  obtain ⟨T4, X4, e4, st4⟩ := getF X3 hx hZ hown (host := "") (Or.inl (own_w hw 12 rfl)) Via.refl e3 H1_F (g := (mkF m 31 #[.val (.ref dd), .val (.int (2 : Int32)), .val (.int (2 : Int32))] [(.ref dd), (.int (2 : Int32))])) rfl rfl (hb hby d7_31)
  have oc5 := H5_A
  obtain ⟨c5, Arc5, qc5, Sc5, Nc5, Hc5, Gc5⟩ := oc5
  obtain ⟨T6, X6, e6, st6⟩ := getF X4 hx hZ hown (host := "") (Or.inl (own_w hw 12 rfl)) Via.refl e4 H1_F (g := (mkF m 47 #[.val (.ref dd), .val (.int (2 : Int32)), .val (.int (2 : Int32))] [(.ref dd), (.ref dd)])) rfl rfl (hb hby d7_47)
  obtain ⟨_, _, ⟨T7, L7, k7, n7⟩, -, X7, ⟨Lc7, hQ7, l7, y7, z7⟩, st7⟩ := Jvm.LawKit.callS X6 hx (y := (⟨"java/util/Arrays", "copyOf", "([II)[I"⟩ : MethodName)) hown (mvT hZ (own_w hw 41 rfl)) (mvT hZ (own_w hw 42 rfl)) (mvT hZ (own_w hw 27 rfl)) (mvT hZ (own_w hw 43 rfl)) (by decide) (backOf (W := 1) (rm_cpI3_2 l Z a0 hw [] ka kk v0 v1 v2 h0 n0 Z0 H5_A) hZ (own_w hw 43 rfl) (own_w hw 27 rfl) (by decide) (by decide)) (g := (mkF m 51 #[.val (.ref dd), .val (.int (2 : Int32)), .val (.int (2 : Int32))] [(.int (2 : Int32)), (.ref ka), (.ref dd)])) rfl (by rw [hml]; rfl) (argsL := [(.ref ka), (.int (2 : Int32))]) (rest := [(.ref dd)]) (lenOf pd_3 rfl) rfl (by show 2 * 0 + _ ≤ _; exact Nat.le_of_eq rfl) (hb hby d7_51) (fun _ _ => ⟨rfl, e6, (by decide : 0 + 1 ≤ _), (by decide : 0 + 2 ≤ _)⟩)
  dsimp only [Pt.U, Pt.locs, Pt.cells, Pt.slots] at X7 l7 y7 z7 st7 hQ7
  subst l7 y7 z7
  obtain ⟨x8, x9, rfl, N7q, hq10, hpq11, hpq12, A13, E14⟩ := hQ7
  have N7 := Fr.app N0 N7q
  have lt15 : dd < h0.size := H0_E.lt
  have lt16 : ka < h0.size := H5_A.lt
  have lt17 : wa < h0.size := H6_A.lt
  have E18 := H0_E.keep hq10
  have F19 := H1_F.keep hq10 nin0
  have F20 := H2_F.keep hq10 nin0
  have F21 := H3_F.keep hq10 nin0
  have F22 := H4_F.keep hq10 nin0
  have A23 := H5_A.keep hq10 nin0
  have A24 := H6_A.keep hq10 nin0
  have K7 : Keep h0 T7.heap [dd] := K0.trans hq10 all0
  have Zs25 : n0 ≤ T7.heap.size := (Nat.le_trans Z0 hq10.1)
  have ne26 : dd ≠ x8 := Nat.ne_of_lt (Nat.lt_of_lt_of_le lt15 hpq12)
  have ne27 : ka ≠ x8 := Nat.ne_of_lt (Nat.lt_of_lt_of_le lt16 hpq12)
  have ne28 : wa ≠ x8 := Nat.ne_of_lt (Nat.lt_of_lt_of_le lt17 hpq12)
  have sz29 : h0.size ≤ x8 := Nat.le_trans K0.1 hpq12
  obtain ⟨T30, h30, X30, e30, W30, st30⟩ := putF X7 hx hZ hown (host := "") (Or.inl (own_w hw 12 rfl)) Via.refl rfl F19 E18 (Or.inl (own_w hw 13 rfl)) (own_w hw 2 rfl) (ty := (.array .int)) (by decide) rfl rfl (g := (mkF m 54 #[.val (.ref dd), .val (.int (2 : Int32)), .val (.int (2 : Int32))] [(.ref x8), (.ref dd)])) rfl rfl (hb hby d7_54)
  have Fw30 : Fld Z h30 dd "org/tallyrole/core/Dependencies" "keys" "[I" (.ref x8) := F19.same W30
  have E31 := E18.wr W30
  have F32 := F20.other W30 (Or.inr (slot_ne (Or.inl (own_w hw 17 rfl)) (Or.inl (own_w hw 13 rfl)) (by decide) (t := (.array .long)) (t' := (.array .int)) (by decide) (by decide)))
  have F33 := F21.other W30 (Or.inr (slot_ne (Or.inl (own_w hw 24 rfl)) (Or.inl (own_w hw 13 rfl)) (by decide) (t := .int) (t' := (.array .int)) (by decide) (by decide)))
  have F34 := F22.other W30 (Or.inr (slot_ne (Or.inl (own_w hw 40 rfl)) (Or.inl (own_w hw 13 rfl)) (by decide) (t := .boolean) (t' := (.array .int)) (by decide) (by decide)))
  have A35 := A23.other W30 (Ne.symm hn1)
  have A36 := A24.other W30 (Ne.symm hn2)
  have A37 := A13.other W30 (Ne.symm ne26)
  have E38 := E14.wr W30
  have N30 := Fr.snoc X30 N7 hdd
  have K30 : Keep h0 h30 [dd] := K7.wr W30 (Or.inl (List.mem_of_getElem? (i := 0) rfl))
  have Zs39 : n0 ≤ h30.size := (Nat.le_trans Zs25 (Keep.of_wr W30).1)
  obtain ⟨T40, X40, e40, st40⟩ := getF X30 hx hZ hown (host := "") (Or.inl (own_w hw 16 rfl)) Via.refl e30 F32 (g := (mkF m 59 #[.val (.ref dd), .val (.int (2 : Int32)), .val (.int (2 : Int32))] [(.ref dd), (.ref dd)])) rfl rfl (hb hby d7_59)
  obtain ⟨_, _, ⟨T41, L41, k41, n41⟩, -, X41, ⟨Lc41, hQ41, l41, y41, z41⟩, st41⟩ := Jvm.LawKit.callS X40 hx (y := (⟨"java/util/Arrays", "copyOf", "([JI)[J"⟩ : MethodName)) hown (mvT hZ (own_w hw 53 rfl)) (mvT hZ (own_w hw 54 rfl)) (mvT hZ (own_w hw 27 rfl)) (mvT hZ (own_w hw 55 rfl)) (by decide) (backOf (W := 1) (rm_cpJ3_2 l Z a0 hw [] wa kw u0 u1 u2 h30 n0 Zs39 A36) hZ (own_w hw 55 rfl) (own_w hw 27 rfl) (by decide) (by decide)) (g := (mkF m 63 #[.val (.ref dd), .val (.int (2 : Int32)), .val (.int (2 : Int32))] [(.int (2 : Int32)), (.ref wa), (.ref dd)])) rfl (by rw [hml]; rfl) (argsL := [(.ref wa), (.int (2 : Int32))]) (rest := [(.ref dd)]) (lenOf pd_4 rfl) rfl (by show 2 * 0 + _ ≤ _; exact Nat.le_of_eq rfl) (hb hby d7_63) (fun _ _ => ⟨rfl, e40, (by decide : 1 + 1 ≤ _), (by decide : 2 + 2 ≤ _)⟩)
  dsimp only [Pt.U, Pt.locs, Pt.cells, Pt.slots] at X41 l41 y41 z41 st41 hQ41
  subst l41 y41 z41
  obtain ⟨x42, x43, rfl, N41q, hq44, hpq45, hpq46, A47, E48⟩ := hQ41
  have N41 := Fr.app N30 N41q
  have lt49 : dd < h30.size := E31.lt
  have lt50 : ka < h30.size := A35.lt
  have lt51 : wa < h30.size := A36.lt
  have lt52 : x8 < h30.size := A37.lt
  have E53 := E31.keep hq44
  have F54 := F32.keep hq44 nin0
  have F55 := F33.keep hq44 nin0
  have F56 := F34.keep hq44 nin0
  have A57 := A35.keep hq44 nin0
  have A58 := A36.keep hq44 nin0
  have A59 := A37.keep hq44 nin0
  have E60 := E38.keep hq44
  have F61 := Fw30.keep hq44 nin0
  have K41 : Keep h0 T41.heap [dd] := K30.trans hq44 all0
  have Zs62 : n0 ≤ T41.heap.size := (Nat.le_trans Zs39 hq44.1)
  have ne63 : dd ≠ x42 := Nat.ne_of_lt (Nat.lt_of_lt_of_le lt49 hpq46)
  have ne64 : ka ≠ x42 := Nat.ne_of_lt (Nat.lt_of_lt_of_le lt50 hpq46)
  have ne65 : wa ≠ x42 := Nat.ne_of_lt (Nat.lt_of_lt_of_le lt51 hpq46)
  have ne66 : x8 ≠ x42 := Nat.ne_of_lt (Nat.lt_of_lt_of_le lt52 hpq46)
  have sz67 : h0.size ≤ x42 := Nat.le_trans K30.1 hpq46
  obtain ⟨T68, h68, X68, e68, W68, st68⟩ := putF X41 hx hZ hown (host := "") (Or.inl (own_w hw 16 rfl)) Via.refl rfl F54 E53 (Or.inl (own_w hw 17 rfl)) (own_w hw 2 rfl) (ty := (.array .long)) (by decide) rfl rfl (g := (mkF m 66 #[.val (.ref dd), .val (.int (2 : Int32)), .val (.int (2 : Int32))] [(.ref x42), (.ref dd)])) rfl rfl (hb hby d7_66)
  have Fw68 : Fld Z h68 dd "org/tallyrole/core/Dependencies" "words" "[J" (.ref x42) := F54.same W68
  have E69 := E53.wr W68
  have F70 := F55.other W68 (Or.inr (slot_ne (Or.inl (own_w hw 24 rfl)) (Or.inl (own_w hw 17 rfl)) (by decide) (t := .int) (t' := (.array .long)) (by decide) (by decide)))
  have F71 := F56.other W68 (Or.inr (slot_ne (Or.inl (own_w hw 40 rfl)) (Or.inl (own_w hw 17 rfl)) (by decide) (t := .boolean) (t' := (.array .long)) (by decide) (by decide)))
  have A72 := A57.other W68 (Ne.symm hn1)
  have A73 := A58.other W68 (Ne.symm hn2)
  have A74 := A59.other W68 (Ne.symm ne26)
  have E75 := E60.wr W68
  have F76 := F61.other W68 (Or.inr (slot_ne (Or.inl (own_w hw 13 rfl)) (Or.inl (own_w hw 17 rfl)) (by decide) (t := (.array .int)) (t' := (.array .long)) (by decide) (by decide)))
  have A77 := A47.other W68 (Ne.symm ne63)
  have E78 := E48.wr W68
  have N68 := Fr.snoc X68 N41 hdd
  have K68 : Keep h0 h68 [dd] := K41.wr W68 (Or.inl (List.mem_of_getElem? (i := 0) rfl))
  have Zs79 : n0 ≤ h68.size := (Nat.le_trans Zs62 (Keep.of_wr W68).1)
  obtain ⟨T80, h80, X80, e80, W80, st80⟩ := putFN X68 hx hZ hown (own_w hw 39 rfl) Via.refl e68 F71 E69 (Or.inl (own_w hw 40 rfl)) (own_w hw 2 rfl) (ty := .boolean) (v' := (.int (0 : Int32))) (by decide) rfl rfl (g := (mkF m 71 #[.val (.ref dd), .val (.int (2 : Int32)), .val (.int (2 : Int32))] [(.int (0 : Int32)), (.ref dd)])) rfl rfl (hb hby d7_71)
  have Fw80 : Fld Z h80 dd "org/tallyrole/core/Dependencies" "shared" "Z" (.int (0 : Int32)) := F71.same W80
  have E81 := E69.wr W80
  have F82 := F70.other W80 (Or.inr (slot_ne (Or.inl (own_w hw 24 rfl)) (Or.inl (own_w hw 40 rfl)) (by decide) (t := .int) (t' := .boolean) (by decide) (by decide)))
  have A83 := A72.other W80 (Ne.symm hn1)
  have A84 := A73.other W80 (Ne.symm hn2)
  have A85 := A74.other W80 (Ne.symm ne26)
  have E86 := E75.wr W80
  have F87 := F76.other W80 (Or.inr (slot_ne (Or.inl (own_w hw 13 rfl)) (Or.inl (own_w hw 40 rfl)) (by decide) (t := (.array .int)) (t' := .boolean) (by decide) (by decide)))
  have A88 := A77.other W80 (Ne.symm ne63)
  have E89 := E78.wr W80
  have F90 := Fw68.other W80 (Or.inr (slot_ne (Or.inl (own_w hw 17 rfl)) (Or.inl (own_w hw 40 rfl)) (by decide) (t := (.array .long)) (t' := .boolean) (by decide) (by decide)))
  have N80 := Fr.snoc X80 N68 hdd
  have K80 : Keep h0 h80 [dd] := K68.wr W80 (Or.inl (List.mem_of_getElem? (i := 0) rfl))
  have Zs91 : n0 ≤ h80.size := (Nat.le_trans Zs79 (Keep.of_wr W80).1)
  have pre92 := fun (t : State) (k : Steps p.tables e below (T80.setTop (mkF m 74 #[.val (.ref dd), .val (.int (2 : Int32)), .val (.int (2 : Int32))] [])) t) => pre0 t (by
    refine XS.aloadN X0.here hx rfl (hb hby d7_0) rfl rfl ?_
    refine st1 _ ?_
    refine X1.arraylength hx (by rw [e1]; exact Arc2.1) (State.isArrayOf_alike hZ.alike Arc2.2.1) (g := (mkF m 4 #[.val (.ref dd), .val (.int (2 : Int32)), .unset] [(.ref ka)])) rfl rfl (hb hby d7_4) _ ?_
    rw [show c2.slots.size.toInt32 = (3 : Int32) from (len_of Sc2 Nc2)]
    refine XS.istoreN X1.here hx rfl (hb hby d7_5) rfl (l' := #[.val (.ref dd), .val (.int (2 : Int32)), .val (.int (3 : Int32))]) rfl ?_
    refine XS.aloadN X1.here hx rfl (hb hby d7_6) rfl rfl ?_
    refine st3 _ ?_
    refine XS.ifNo X3.here hx rfl (hb hby d7_10) rfl ((if0 _ _).trans (feq (by decide : ¬ ((1 : Int32) = (0 : Int32)))).1) ?_
    refine XS.iloadN X3.here hx rfl (hb hby d7_13) rfl ?_
    refine XS.istoreN X3.here hx rfl (hb hby d7_14) rfl (l' := #[.val (.ref dd), .val (.int (2 : Int32)), .val (.int (2 : Int32))]) rfl ?_
    refine XS.goto X3.here hx rfl (pc0 := 15) (pc' := 29) rfl (hb hby d7_15) (by decide) (by decide) ?_
    refine XS.iloadN X3.here hx rfl (hb hby d7_29) rfl ?_
    refine XS.aloadN X3.here hx rfl (hb hby d7_30) rfl rfl ?_
    refine st4 _ ?_
    refine X4.arraylength hx (by rw [e4]; exact Arc5.1) (State.isArrayOf_alike hZ.alike Arc5.2.1) (g := (mkF m 34 #[.val (.ref dd), .val (.int (2 : Int32)), .val (.int (2 : Int32))] [(.ref ka), (.int (2 : Int32))])) rfl rfl (hb hby d7_34) _ ?_
    rw [show c5.slots.size.toInt32 = (3 : Int32) from (len_of Sc5 Nc5)]
    refine XS.icmpYes X4.here hx rfl (pc0 := 35) (pc' := 45) rfl (hb hby d7_35) rfl (feq (by decide : ¬ ((2 : Int32) = (3 : Int32)))).2 (by decide) (by decide) ?_
    refine XS.aloadN X4.here hx rfl (hb hby d7_45) rfl rfl ?_
    refine XS.aloadN X4.here hx rfl (hb hby d7_46) rfl rfl ?_
    refine st6 _ ?_
    refine XS.iloadN X6.here hx rfl (hb hby d7_50) rfl ?_
    refine st7 _ ?_
    refine st30 _ ?_
    refine XS.aloadN X30.here hx rfl (hb hby d7_57) rfl rfl ?_
    refine XS.aloadN X30.here hx rfl (hb hby d7_58) rfl rfl ?_
    refine st40 _ ?_
    refine XS.iloadN X40.here hx rfl (hb hby d7_62) rfl ?_
    refine st41 _ ?_
    refine st68 _ ?_
    refine XS.aloadN X68.here hx rfl (hb hby d7_69) rfl rfl ?_
    refine XS.iconst X68.here hx rfl (hb hby d7_70) ?_
    refine st80 _ ?_
    exact k)
  obtain ⟨fs, hr, hrun, hended, hW, hsame⟩ := X80.leave (v := none) (hlocks := BodyLoose.notSynchronized Bd) (fun _ => rfl)
  refine ⟨_, _, pre92 _ ?_, hrun, hended, _, _, rfl, ?_, ⟨_, rfl⟩, hW, hsame.mono (by decide) (by decide)⟩
  · exact X80.returnOut hx Bd.returns (hb hby d7_74) hr
  · show Q_rv3_2_1 Z dd ka wa kk kw sz v0 v1 v2 u0 u1 u2 h0 n0 _ T80.heap _
    rw [e80]
    exact ⟨x8, x42, x9, x43, rfl, N80, K80, hpq11, sz29, hpq45, sz67, ne26, ne63, ne66, E81, F87, F90, F82, Fw80, A85, A88, E86, E89⟩

theorem ef_nl (m : MethodId) (x0 : Int32) : entryFrame m #[(.int x0)] 2 = mkF m 0 #[.val (.int x0), .unset] [] := by first | (simp [entryFrame, mkF, argsToLocals, Value.category]; done) | rfl
def Q_nl (Z : State) (xx : Int32) (h0 : Heap) (n0 : Nat) (v : Option Value) (h : Heap) (L : List Loc) : Prop := ∃ r : Int32, v = some (.int r) ∧ Fr n0 L ∧ h = h0 ∧ own_n32 xx r
set_option maxRecDepth 65536 in
set_option maxHeartbeats 40000000 in
theorem rm_nl (l : Launch) (Z : State) (a0 : Array Value) (hw : ∀ d ∈ tables_1, d.before a0 Z = true) (ws : List Jvm.Cond) (xx : Int32) (h0 : Heap) (n0 : Nat) (Z0 : n0 ≤ h0.size) :
    MetFree l (⟨"java/lang/Integer", "numberOfLeadingZeros", "(I)I"⟩ : MethodName) (head1 (Jvm.Cond.code (⟨"java/lang/Integer", "numberOfLeadingZeros", "(I)I"⟩ : MethodName) jdk_33_method_47_code 2 (some .int) :: ws) ({ frames := 0, cells := 0, slots := 0, locals := 0 } : Room)) (fun as_ U_ => as_ = #[(.int xx)] ∧ Z.Warmed39 U_.vm ∧ U_.heap = h0) (fun _ _ _ _ _ => True) (fun _ U o U' => ∃ v L, o = .returned v ∧ Q_nl Z xx h0 n0 v U'.heap L ∧ FrameEnd U o U' L ({ frames := 0, cells := 0, slots := 0, locals := 0 } : Room).cells ({ frames := 0, cells := 0, slots := 0, locals := 0 } : Room).slots) := by
  refine MetFree.of_bodySF (plainFor_of_name pn_2) hisR ?_
  intro p e s m args below meth c s₁ Bd hml0 hP hK
  obtain ⟨rfl, hZ, hhp_⟩ := hP
  have hx := Bd.exec
  have hby := Bd.bytes
  have hml : c.maxLocals = 2 := hml0
  have hown : s.vm.findClass "java/lang/Integer" = some m.cls := findClass_of_methodNamed Bd.named
  have hnm := (name_of_methodNamed Bd.named Bd.method).1
  have X0 : Stand p l e ({ frames := 0, cells := 0, slots := 0, locals := 0 } : Room) s m #[(.int xx)] below meth c s₁ [] 0 0 := Stand.of_body Bd
  have e0 : s₁.heap = h0 := by rw [← hhp_, Bd.state]; rfl
  have N0 := Fr.nil n0
  have pre0 : ∀ t, Steps p.tables e below (s₁.setTop (mkF m 0 #[.val (.int xx), .unset] [])) t → Steps p.tables e below (s₁.setTop (entryFrame m #[(.int xx)] 2)) t := fun t k => castTop (ef_nl m xx) k
  have t73 : ∀ (u73 : Int32) (m73 : Int32) (T_t73 : State) (Lt_t73 : List Loc) (N_t73 : Fr n0 Lt_t73) (X_t73 : Stand p l e ({ frames := 0, cells := 0, slots := 0, locals := 0 } : Room) s m #[(.int xx)] below meth c T_t73 Lt_t73 0 0) (e_t73 : T_t73.heap = h0) (t73_0 : own_sh xx u73 m73 4), ∃ s₂ o, Steps p.tables e below (T_t73.setTop (mkF m 73 #[.val (.int u73), .val (.int m73)] [])) s₂ ∧ s₂.status = .running ∧ Ended s₂ below o ∧ ∃ v L, o = .returned v ∧ Q_nl Z xx h0 n0 v s₂.heap L ∧ FrameEnd s o s₂ L ({ frames := 0, cells := 0, slots := 0, locals := 0 } : Room).cells ({ frames := 0, cells := 0, slots := 0, locals := 0 } : Room).slots := by
    intro u73 m73 T_t73 Lt_t73 N_t73 X_t73 e_t73 t73_0
    have pre_t73 := fun (t : State) (k : Steps p.tables e below (T_t73.setTop (mkF m 73 #[.val (.int u73), .val (.int m73)] [])) t) => k
    have pre1 := fun (t : State) (k : Steps p.tables e below (T_t73.setTop (mkF m 78 #[.val (.int u73), .val (.int m73)] [(.int (m73 - ((u73.toUInt32 >>> ((1 : Int32) &&& 31).toUInt32).toInt32)))])) t) => pre_t73 t (by
      refine XS.iloadN X_t73.here hx rfl (hb hby d16_73) rfl ?_
      refine XS.iloadN X_t73.here hx rfl (hb hby d16_74) rfl ?_
      refine XS.iconst X_t73.here hx rfl (hb hby d16_75) ?_
      refine XS.iushr X_t73.here hx rfl (hb hby d16_76) rfl ?_
      refine XS.isub X_t73.here hx rfl (hb hby d16_77) rfl ?_
      exact k)
    obtain ⟨fs, hr, hrun, hended, hW, hsame⟩ := X_t73.leave (v := some (.int (m73 - ((u73.toUInt32 >>> ((1 : Int32) &&& 31).toUInt32).toInt32)))) (hlocks := BodyLoose.notSynchronized Bd) (fun h => by rw [Bd.returns] at h; cases h)
    refine ⟨_, _, pre1 _ ?_, hrun, hended, _, _, rfl, ?_, ⟨_, rfl⟩, hW, hsame.mono (by decide) (by decide)⟩
    · exact retI X_t73 hx Bd.returns (hb hby d16_78) hr
    · show Q_nl Z xx h0 n0 _ T_t73.heap _
      rw [e_t73]
      exact ⟨(m73 - ((u73.toUInt32 >>> ((1 : Int32) &&& 31).toUInt32).toInt32)), rfl, N_t73, rfl, (own_sh_end t73_0)⟩
  have t61 : ∀ (u61 : Int32) (m61 : Int32) (T_t61 : State) (Lt_t61 : List Loc) (N_t61 : Fr n0 Lt_t61) (X_t61 : Stand p l e ({ frames := 0, cells := 0, slots := 0, locals := 0 } : Room) s m #[(.int xx)] below meth c T_t61 Lt_t61 0 0) (e_t61 : T_t61.heap = h0) (t61_0 : own_sh xx u61 m61 16), ∃ s₂ o, Steps p.tables e below (T_t61.setTop (mkF m 61 #[.val (.int u61), .val (.int m61)] [])) s₂ ∧ s₂.status = .running ∧ Ended s₂ below o ∧ ∃ v L, o = .returned v ∧ Q_nl Z xx h0 n0 v s₂.heap L ∧ FrameEnd s o s₂ L ({ frames := 0, cells := 0, slots := 0, locals := 0 } : Room).cells ({ frames := 0, cells := 0, slots := 0, locals := 0 } : Room).slots := by
    intro u61 m61 T_t61 Lt_t61 N_t61 X_t61 e_t61 t61_0
    have pre_t61 := fun (t : State) (k : Steps p.tables e below (T_t61.setTop (mkF m 61 #[.val (.int u61), .val (.int m61)] [])) t) => k
    have pre2 := fun (t : State) (k : Steps p.tables e below (T_t61.setTop (mkF m 63 #[.val (.int u61), .val (.int m61)] [(.int (4 : Int32)), (.int u61)])) t) => pre_t61 t (by
      refine XS.iloadN X_t61.here hx rfl (hb hby d16_61) rfl ?_
      refine XS.iconst X_t61.here hx rfl (hb hby d16_62) ?_
      exact k)
    by_cases hc3 : u61 < (4 : Int32)
    · have pre4 := fun (t : State) (k : Steps p.tables e below (T_t61.setTop (mkF m 73 #[.val (.int u61), .val (.int m61)] [])) t) => pre2 t (by
        refine XS.icmpYes X_t61.here hx rfl (pc0 := 63) (pc' := 73) rfl (hb hby d16_63) rfl (tlt hc3).1 (by decide) (by decide) ?_
        exact k)
      obtain ⟨s2, o2, hs2, hr2⟩ := t73 u61 m61 T_t61 _ N_t61 X_t61 e_t61 (own_sh_stay t61_0 hc3 rfl)
      exact ⟨s2, o2, pre4 _ hs2, hr2⟩
    · have pre5 := fun (t : State) (k : Steps p.tables e below (T_t61.setTop (mkF m 73 #[.val (.int ((u61.toUInt32 >>> ((2 : Int32) &&& 31).toUInt32).toInt32)), .val (.int (m61 + (-2 : Int32)))] [])) t) => pre2 t (by
        refine XS.icmpNo X_t61.here hx rfl (hb hby d16_63) rfl (flt hc3).1 ?_
        refine XS.iinc X_t61.here hx rfl (hb hby d16_66) rfl (l' := #[.val (.int u61), .val (.int (m61 + (-2 : Int32)))]) rfl ?_
        refine XS.iloadN X_t61.here hx rfl (hb hby d16_69) rfl ?_
        refine XS.iconst X_t61.here hx rfl (hb hby d16_70) ?_
        refine XS.iushr X_t61.here hx rfl (hb hby d16_71) rfl ?_
        refine XS.istoreN X_t61.here hx rfl (hb hby d16_72) rfl (l' := #[.val (.int ((u61.toUInt32 >>> ((2 : Int32) &&& 31).toUInt32).toInt32)), .val (.int (m61 + (-2 : Int32)))]) rfl ?_
        exact k)
      obtain ⟨s2, o2, hs2, hr2⟩ := t73 ((u61.toUInt32 >>> ((2 : Int32) &&& 31).toUInt32).toInt32) (m61 + (-2 : Int32)) T_t61 _ N_t61 X_t61 e_t61 (own_sh_step (sh := (2 : Int32)) (d := (-2 : Int32)) (b' := 4) t61_0 hc3 rfl 2 (by decide) (by decide) rfl (by decide) rfl rfl)
      exact ⟨s2, o2, pre5 _ hs2, hr2⟩
  have t48 : ∀ (u48 : Int32) (m48 : Int32) (T_t48 : State) (Lt_t48 : List Loc) (N_t48 : Fr n0 Lt_t48) (X_t48 : Stand p l e ({ frames := 0, cells := 0, slots := 0, locals := 0 } : Room) s m #[(.int xx)] below meth c T_t48 Lt_t48 0 0) (e_t48 : T_t48.heap = h0) (t48_0 : own_sh xx u48 m48 256), ∃ s₂ o, Steps p.tables e below (T_t48.setTop (mkF m 48 #[.val (.int u48), .val (.int m48)] [])) s₂ ∧ s₂.status = .running ∧ Ended s₂ below o ∧ ∃ v L, o = .returned v ∧ Q_nl Z xx h0 n0 v s₂.heap L ∧ FrameEnd s o s₂ L ({ frames := 0, cells := 0, slots := 0, locals := 0 } : Room).cells ({ frames := 0, cells := 0, slots := 0, locals := 0 } : Room).slots := by
    intro u48 m48 T_t48 Lt_t48 N_t48 X_t48 e_t48 t48_0
    have pre_t48 := fun (t : State) (k : Steps p.tables e below (T_t48.setTop (mkF m 48 #[.val (.int u48), .val (.int m48)] [])) t) => k
    have pre6 := fun (t : State) (k : Steps p.tables e below (T_t48.setTop (mkF m 51 #[.val (.int u48), .val (.int m48)] [(.int (16 : Int32)), (.int u48)])) t) => pre_t48 t (by
      refine XS.iloadN X_t48.here hx rfl (hb hby d16_48) rfl ?_
      refine XS.bipush X_t48.here hx rfl (hb hby d16_49) ?_
      exact k)
    by_cases hc7 : u48 < (16 : Int32)
    · have pre8 := fun (t : State) (k : Steps p.tables e below (T_t48.setTop (mkF m 61 #[.val (.int u48), .val (.int m48)] [])) t) => pre6 t (by
        refine XS.icmpYes X_t48.here hx rfl (pc0 := 51) (pc' := 61) rfl (hb hby d16_51) rfl (tlt hc7).1 (by decide) (by decide) ?_
        exact k)
      obtain ⟨s2, o2, hs2, hr2⟩ := t61 u48 m48 T_t48 _ N_t48 X_t48 e_t48 (own_sh_stay t48_0 hc7 rfl)
      exact ⟨s2, o2, pre8 _ hs2, hr2⟩
    · have pre9 := fun (t : State) (k : Steps p.tables e below (T_t48.setTop (mkF m 61 #[.val (.int ((u48.toUInt32 >>> ((4 : Int32) &&& 31).toUInt32).toInt32)), .val (.int (m48 + (-4 : Int32)))] [])) t) => pre6 t (by
        refine XS.icmpNo X_t48.here hx rfl (hb hby d16_51) rfl (flt hc7).1 ?_
        refine XS.iinc X_t48.here hx rfl (hb hby d16_54) rfl (l' := #[.val (.int u48), .val (.int (m48 + (-4 : Int32)))]) rfl ?_
        refine XS.iloadN X_t48.here hx rfl (hb hby d16_57) rfl ?_
        refine XS.iconst X_t48.here hx rfl (hb hby d16_58) ?_
        refine XS.iushr X_t48.here hx rfl (hb hby d16_59) rfl ?_
        refine XS.istoreN X_t48.here hx rfl (hb hby d16_60) rfl (l' := #[.val (.int ((u48.toUInt32 >>> ((4 : Int32) &&& 31).toUInt32).toInt32)), .val (.int (m48 + (-4 : Int32)))]) rfl ?_
        exact k)
      obtain ⟨s2, o2, hs2, hr2⟩ := t61 ((u48.toUInt32 >>> ((4 : Int32) &&& 31).toUInt32).toInt32) (m48 + (-4 : Int32)) T_t48 _ N_t48 X_t48 e_t48 (own_sh_step (sh := (4 : Int32)) (d := (-4 : Int32)) (b' := 16) t48_0 hc7 rfl 4 (by decide) (by decide) rfl (by decide) rfl rfl)
      exact ⟨s2, o2, pre9 _ hs2, hr2⟩
  have t33 : ∀ (u33 : Int32) (m33 : Int32) (T_t33 : State) (Lt_t33 : List Loc) (N_t33 : Fr n0 Lt_t33) (X_t33 : Stand p l e ({ frames := 0, cells := 0, slots := 0, locals := 0 } : Room) s m #[(.int xx)] below meth c T_t33 Lt_t33 0 0) (e_t33 : T_t33.heap = h0) (t33_0 : own_sh xx u33 m33 65536), ∃ s₂ o, Steps p.tables e below (T_t33.setTop (mkF m 33 #[.val (.int u33), .val (.int m33)] [])) s₂ ∧ s₂.status = .running ∧ Ended s₂ below o ∧ ∃ v L, o = .returned v ∧ Q_nl Z xx h0 n0 v s₂.heap L ∧ FrameEnd s o s₂ L ({ frames := 0, cells := 0, slots := 0, locals := 0 } : Room).cells ({ frames := 0, cells := 0, slots := 0, locals := 0 } : Room).slots := by
    intro u33 m33 T_t33 Lt_t33 N_t33 X_t33 e_t33 t33_0
    have pre_t33 := fun (t : State) (k : Steps p.tables e below (T_t33.setTop (mkF m 33 #[.val (.int u33), .val (.int m33)] [])) t) => k
    have pre10 := fun (t : State) (k : Steps p.tables e below (T_t33.setTop (mkF m 37 #[.val (.int u33), .val (.int m33)] [(.int (256 : Int32)), (.int u33)])) t) => pre_t33 t (by
      refine XS.iloadN X_t33.here hx rfl (hb hby d16_33) rfl ?_
      refine XS.sipush X_t33.here hx rfl (hb hby d16_34) ?_
      exact k)
    by_cases hc11 : u33 < (256 : Int32)
    · have pre12 := fun (t : State) (k : Steps p.tables e below (T_t33.setTop (mkF m 48 #[.val (.int u33), .val (.int m33)] [])) t) => pre10 t (by
        refine XS.icmpYes X_t33.here hx rfl (pc0 := 37) (pc' := 48) rfl (hb hby d16_37) rfl (tlt hc11).1 (by decide) (by decide) ?_
        exact k)
      obtain ⟨s2, o2, hs2, hr2⟩ := t48 u33 m33 T_t33 _ N_t33 X_t33 e_t33 (own_sh_stay t33_0 hc11 rfl)
      exact ⟨s2, o2, pre12 _ hs2, hr2⟩
    · have pre13 := fun (t : State) (k : Steps p.tables e below (T_t33.setTop (mkF m 48 #[.val (.int ((u33.toUInt32 >>> ((8 : Int32) &&& 31).toUInt32).toInt32)), .val (.int (m33 + (-8 : Int32)))] [])) t) => pre10 t (by
        refine XS.icmpNo X_t33.here hx rfl (hb hby d16_37) rfl (flt hc11).1 ?_
        refine XS.iinc X_t33.here hx rfl (hb hby d16_40) rfl (l' := #[.val (.int u33), .val (.int (m33 + (-8 : Int32)))]) rfl ?_
        refine XS.iloadN X_t33.here hx rfl (hb hby d16_43) rfl ?_
        refine XS.bipush X_t33.here hx rfl (hb hby d16_44) ?_
        refine XS.iushr X_t33.here hx rfl (hb hby d16_46) rfl ?_
        refine XS.istoreN X_t33.here hx rfl (hb hby d16_47) rfl (l' := #[.val (.int ((u33.toUInt32 >>> ((8 : Int32) &&& 31).toUInt32).toInt32)), .val (.int (m33 + (-8 : Int32)))]) rfl ?_
        exact k)
      obtain ⟨s2, o2, hs2, hr2⟩ := t48 ((u33.toUInt32 >>> ((8 : Int32) &&& 31).toUInt32).toInt32) (m33 + (-8 : Int32)) T_t33 _ N_t33 X_t33 e_t33 (own_sh_step (sh := (8 : Int32)) (d := (-8 : Int32)) (b' := 256) t33_0 hc11 rfl 8 (by decide) (by decide) rfl (by decide) rfl rfl)
      exact ⟨s2, o2, pre13 _ hs2, hr2⟩
  have pre14 := fun (t : State) (k : Steps p.tables e below (s₁.setTop (mkF m 1 #[.val (.int xx), .unset] [(.int xx)])) t) => pre0 t (by
    refine XS.iloadN X0.here hx rfl (hb hby d16_0) rfl ?_
    exact k)
  by_cases hc15 : (0 : Int32) < xx
  · have pre16 := fun (t : State) (k : Steps p.tables e below (s₁.setTop (mkF m 22 #[.val (.int xx), .val (.int (31 : Int32))] [(.int (65536 : Int32)), (.int xx)])) t) => pre14 t (by
      refine XS.ifYes X0.here hx rfl (pc0 := 1) (pc' := 15) rfl (hb hby d16_1) rfl ((if0 _ _).trans (tlt hc15).2.2.1) (by decide) (by decide) ?_
      refine XS.bipush X0.here hx rfl (hb hby d16_15) ?_
      refine XS.istoreN X0.here hx rfl (hb hby d16_17) rfl (l' := #[.val (.int xx), .val (.int (31 : Int32))]) rfl ?_
      refine XS.iloadN X0.here hx rfl (hb hby d16_18) rfl ?_
      refine X0.ldcwInt hx hown (mvT hZ (own_w hw 98 rfl)) (g := (mkF m 19 #[.val (.int xx), .val (.int (31 : Int32))] [(.int xx)])) rfl (hb hby d16_19) _ ?_
      exact k)
    by_cases hc17 : xx < (65536 : Int32)
    · have pre18 := fun (t : State) (k : Steps p.tables e below (s₁.setTop (mkF m 33 #[.val (.int xx), .val (.int (31 : Int32))] [])) t) => pre16 t (by
        refine XS.icmpYes X0.here hx rfl (pc0 := 22) (pc' := 33) rfl (hb hby d16_22) rfl (tlt hc17).1 (by decide) (by decide) ?_
        exact k)
      obtain ⟨s2, o2, hs2, hr2⟩ := t33 xx (31 : Int32) s₁ _ N0 X0 e0 (own_sh_stay (own_sh_init hc15) hc17 rfl)
      exact ⟨s2, o2, pre18 _ hs2, hr2⟩
    · have pre19 := fun (t : State) (k : Steps p.tables e below (s₁.setTop (mkF m 33 #[.val (.int ((xx.toUInt32 >>> ((16 : Int32) &&& 31).toUInt32).toInt32)), .val (.int (15 : Int32))] [])) t) => pre16 t (by
        refine XS.icmpNo X0.here hx rfl (hb hby d16_22) rfl (flt hc17).1 ?_
        refine XS.iinc X0.here hx rfl (hb hby d16_25) rfl (l' := #[.val (.int xx), .val (.int (15 : Int32))]) rfl ?_
        refine XS.iloadN X0.here hx rfl (hb hby d16_28) rfl ?_
        refine XS.bipush X0.here hx rfl (hb hby d16_29) ?_
        refine XS.iushr X0.here hx rfl (hb hby d16_31) rfl ?_
        refine XS.istoreN X0.here hx rfl (hb hby d16_32) rfl (l' := #[.val (.int ((xx.toUInt32 >>> ((16 : Int32) &&& 31).toUInt32).toInt32)), .val (.int (15 : Int32))]) rfl ?_
        exact k)
      obtain ⟨s2, o2, hs2, hr2⟩ := t33 ((xx.toUInt32 >>> ((16 : Int32) &&& 31).toUInt32).toInt32) (15 : Int32) s₁ _ N0 X0 e0 (own_sh_step (sh := (16 : Int32)) (d := (-16 : Int32)) (b' := 65536) (own_sh_init hc15) hc17 rfl 16 (by decide) (by decide) rfl (by decide) rfl (by decide))
      exact ⟨s2, o2, pre19 _ hs2, hr2⟩
  · have pre20 := fun (t : State) (k : Steps p.tables e below (s₁.setTop (mkF m 5 #[.val (.int xx), .unset] [(.int xx)])) t) => pre14 t (by
      refine XS.ifNo X0.here hx rfl (hb hby d16_1) rfl ((if0 _ _).trans (flt hc15).2.2.1) ?_
      refine XS.iloadN X0.here hx rfl (hb hby d16_4) rfl ?_
      exact k)
    by_cases hc21 : xx = (0 : Int32)
    · have pre22 := fun (t : State) (k : Steps p.tables e below (s₁.setTop (mkF m 14 #[.val (.int xx), .unset] [(.int (32 : Int32))])) t) => pre20 t (by
        refine XS.ifNo X0.here hx rfl (hb hby d16_5) rfl ((if0 _ _).trans (teq hc21).2) ?_
        refine XS.bipush X0.here hx rfl (hb hby d16_8) ?_
        refine XS.goto X0.here hx rfl (pc0 := 10) (pc' := 14) rfl (hb hby d16_10) (by decide) (by decide) ?_
        exact k)
      obtain ⟨fs, hr, hrun, hended, hW, hsame⟩ := X0.leave (v := some (.int (32 : Int32))) (hlocks := BodyLoose.notSynchronized Bd) (fun h => by rw [Bd.returns] at h; cases h)
      refine ⟨_, _, pre22 _ ?_, hrun, hended, _, _, rfl, ?_, ⟨_, rfl⟩, hW, hsame.mono (by decide) (by decide)⟩
      · exact retI X0 hx Bd.returns (hb hby d16_14) hr
      · show Q_nl Z xx h0 n0 _ s₁.heap _
        rw [e0]
        exact ⟨(32 : Int32), rfl, N0, rfl, (by have q := hc21; subst q; exact own_n32_0)⟩
    · have pre23 := fun (t : State) (k : Steps p.tables e below (s₁.setTop (mkF m 14 #[.val (.int xx), .unset] [(.int (0 : Int32))])) t) => pre20 t (by
        refine XS.ifYes X0.here hx rfl (pc0 := 5) (pc' := 13) rfl (hb hby d16_5) rfl ((if0 _ _).trans (feq hc21).2) (by decide) (by decide) ?_
        refine XS.iconst X0.here hx rfl (hb hby d16_13) ?_
        exact k)
      obtain ⟨fs, hr, hrun, hended, hW, hsame⟩ := X0.leave (v := some (.int (0 : Int32))) (hlocks := BodyLoose.notSynchronized Bd) (fun h => by rw [Bd.returns] at h; cases h)
      refine ⟨_, _, pre23 _ ?_, hrun, hended, _, _, rfl, ?_, ⟨_, rfl⟩, hW, hsame.mono (by decide) (by decide)⟩
      · exact retI X0 hx Bd.returns (hb hby d16_14) hr
      · show Q_nl Z xx h0 n0 _ s₁.heap _
        rw [e0]
        exact ⟨(0 : Int32), rfl, N0, rfl, (own_n32_neg hc15 hc21)⟩

theorem ef_nL (m : MethodId) (x0 : Int64) : entryFrame m #[(.long x0)] 3 = mkF m 0 #[.val (.long x0), .second, .unset] [] := by first | (simp [entryFrame, mkF, argsToLocals, Value.category]; done) | rfl
def Q_nL (Z : State) (ww : Int64) (h0 : Heap) (n0 : Nat) (v : Option Value) (h : Heap) (L : List Loc) : Prop := ∃ r : Int32, v = some (.int r) ∧ Fr n0 L ∧ h = h0 ∧ own_n64 ww r
set_option maxRecDepth 65536 in
set_option maxHeartbeats 40000000 in
theorem rm_nL (l : Launch) (Z : State) (a0 : Array Value) (hw : ∀ d ∈ tables_1, d.before a0 Z = true) (ws : List Jvm.Cond) (ww : Int64) (h0 : Heap) (n0 : Nat) (Z0 : n0 ≤ h0.size) :
    MetFree l (⟨"java/lang/Long", "numberOfLeadingZeros", "(J)I"⟩ : MethodName) (head1 (Jvm.Cond.code (⟨"java/lang/Long", "numberOfLeadingZeros", "(J)I"⟩ : MethodName) jdk_35_method_48_code 3 (some .int) :: ws) ({ frames := 1, cells := 0, slots := 0, locals := 14 } : Room)) (fun as_ U_ => as_ = #[(.long ww)] ∧ Z.Warmed39 U_.vm ∧ U_.heap = h0) (fun _ _ _ _ _ => True) (fun _ U o U' => ∃ v L, o = .returned v ∧ Q_nL Z ww h0 n0 v U'.heap L ∧ FrameEnd U o U' L ({ frames := 1, cells := 0, slots := 0, locals := 14 } : Room).cells ({ frames := 1, cells := 0, slots := 0, locals := 14 } : Room).slots) := by
  refine MetFree.of_bodySF (plainFor_of_name pn_3) hisR ?_
  intro p e s m args below meth c s₁ Bd hml0 hP hK
  obtain ⟨rfl, hZ, hhp_⟩ := hP
  have hx := Bd.exec
  have hby := Bd.bytes
  have hml : c.maxLocals = 3 := hml0
  have hown : s.vm.findClass "java/lang/Long" = some m.cls := findClass_of_methodNamed Bd.named
  have hnm := (name_of_methodNamed Bd.named Bd.method).1
  have X0 : Stand p l e ({ frames := 1, cells := 0, slots := 0, locals := 14 } : Room) s m #[(.long ww)] below meth c s₁ [] 0 0 := Stand.of_body Bd
  have e0 : s₁.heap = h0 := by rw [← hhp_, Bd.state]; rfl
  have N0 := Fr.nil n0
  have pre0 : ∀ t, Steps p.tables e below (s₁.setTop (mkF m 0 #[.val (.long ww), .second, .unset] [])) t → Steps p.tables e below (s₁.setTop (entryFrame m #[(.long ww)] 3)) t := fun t k => castTop (ef_nL m ww) k
  have pre1 := fun (t : State) (k : Steps p.tables e below (s₁.setTop (mkF m 7 #[.val (.long ww), .second, .val (.int (((ww.toUInt64 >>> ((32 : Int32) &&& 0x3f).toInt64.toUInt64).toInt64).toInt32))] [(.int (((ww.toUInt64 >>> ((32 : Int32) &&& 0x3f).toInt64.toUInt64).toInt64).toInt32))])) t) => pre0 t (by
    refine XS.lloadN X0.here hx rfl (hb hby d15_0) rfl ?_
    refine XS.bipush X0.here hx rfl (hb hby d15_1) ?_
    refine XS.lushr X0.here hx rfl (hb hby d15_3) rfl ?_
    refine XS.l2i X0.here hx rfl (hb hby d15_4) rfl ?_
    refine XS.istoreN X0.here hx rfl (hb hby d15_5) rfl (l' := #[.val (.long ww), .second, .val (.int (((ww.toUInt64 >>> ((32 : Int32) &&& 0x3f).toInt64.toUInt64).toInt64).toInt32))]) rfl ?_
    refine XS.iloadN X0.here hx rfl (hb hby d15_6) rfl ?_
    exact k)
  by_cases hc2 : (((ww.toUInt64 >>> ((32 : Int32) &&& 0x3f).toInt64.toUInt64).toInt64).toInt32) = (0 : Int32)
  · obtain ⟨_, _, ⟨T3, L3, k3, n3⟩, -, X3, ⟨Lc3, hQ3, l3, y3, z3⟩, st3⟩ := Jvm.LawKit.callS X0 hx (y := (⟨"java/lang/Integer", "numberOfLeadingZeros", "(I)I"⟩ : MethodName)) hown (mvT hZ (own_w hw 94 rfl)) (mvT hZ (own_w hw 95 rfl)) (mvT hZ (own_w hw 96 rfl)) (mvT hZ (own_w hw 97 rfl)) (by decide) (backOf (W := 1) (rm_nl l Z a0 hw [] (ww.toInt32) h0 n0 Z0 ) hZ (own_w hw 97 rfl) (own_w hw 96 rfl) (by decide) (by decide)) (g := (mkF m 14 #[.val (.long ww), .second, .val (.int (((ww.toUInt64 >>> ((32 : Int32) &&& 0x3f).toInt64.toUInt64).toInt64).toInt32))] [(.int (ww.toInt32)), (.int (32 : Int32))])) rfl (by rw [hml]; rfl) (argsL := [(.int (ww.toInt32))]) (rest := [(.int (32 : Int32))]) (lenOf pd_5 rfl) rfl (by show 2 * 0 + _ ≤ _; exact Nat.le_of_eq rfl) (hb hby d15_14) (fun _ _ => ⟨rfl, e0, (by decide : 0 + 0 ≤ _), (by decide : 0 + 0 ≤ _)⟩)
    dsimp only [Pt.U, Pt.locs, Pt.cells, Pt.slots] at X3 l3 y3 z3 st3 hQ3
    subst l3 y3 z3
    obtain ⟨x4, rfl, N3q, hq5, hpq6⟩ := hQ3
    have N3 := Fr.app N0 N3q
    have pre7 := fun (t : State) (k : Steps p.tables e below (T3.setTop (mkF m 25 #[.val (.long ww), .second, .val (.int (((ww.toUInt64 >>> ((32 : Int32) &&& 0x3f).toInt64.toUInt64).toInt64).toInt32))] [(.int ((32 : Int32) + x4))])) t) => pre1 t (by
      refine XS.ifNo X0.here hx rfl (hb hby d15_7) rfl ((if0 _ _).trans (teq hc2).2) ?_
      refine XS.bipush X0.here hx rfl (hb hby d15_10) ?_
      refine XS.lloadN X0.here hx rfl (hb hby d15_12) rfl ?_
      refine XS.l2i X0.here hx rfl (hb hby d15_13) rfl ?_
      refine st3 _ ?_
      refine XS.iadd X3.here hx rfl (hb hby d15_17) rfl ?_
      refine XS.goto X3.here hx rfl (pc0 := 18) (pc' := 25) rfl (hb hby d15_18) (by decide) (by decide) ?_
      exact k)
    obtain ⟨fs, hr, hrun, hended, hW, hsame⟩ := X3.leave (v := some (.int ((32 : Int32) + x4))) (hlocks := BodyLoose.notSynchronized Bd) (fun h => by rw [Bd.returns] at h; cases h)
    refine ⟨_, _, pre7 _ ?_, hrun, hended, _, _, rfl, ?_, ⟨_, rfl⟩, hW, hsame.mono (by decide) (by decide)⟩
    · exact retI X3 hx Bd.returns (hb hby d15_25) hr
    · show Q_nL Z ww h0 n0 _ T3.heap _
      rw [hq5]
      exact ⟨((32 : Int32) + x4), rfl, N3, rfl, (own_n64_lo hpq6 hc2)⟩
  · obtain ⟨_, _, ⟨T8, L8, k8, n8⟩, -, X8, ⟨Lc8, hQ8, l8, y8, z8⟩, st8⟩ := Jvm.LawKit.callS X0 hx (y := (⟨"java/lang/Integer", "numberOfLeadingZeros", "(I)I"⟩ : MethodName)) hown (mvT hZ (own_w hw 94 rfl)) (mvT hZ (own_w hw 95 rfl)) (mvT hZ (own_w hw 96 rfl)) (mvT hZ (own_w hw 97 rfl)) (by decide) (backOf (W := 0) (rm_nl l Z a0 hw [] (((ww.toUInt64 >>> ((32 : Int32) &&& 0x3f).toInt64.toUInt64).toInt64).toInt32) h0 n0 Z0 ) hZ (own_w hw 97 rfl) (own_w hw 96 rfl) (by decide) (by decide)) (g := (mkF m 22 #[.val (.long ww), .second, .val (.int (((ww.toUInt64 >>> ((32 : Int32) &&& 0x3f).toInt64.toUInt64).toInt64).toInt32))] [(.int (((ww.toUInt64 >>> ((32 : Int32) &&& 0x3f).toInt64.toUInt64).toInt64).toInt32))])) rfl (by rw [hml]; rfl) (argsL := [(.int (((ww.toUInt64 >>> ((32 : Int32) &&& 0x3f).toInt64.toUInt64).toInt64).toInt32))]) (rest := []) (lenOf pd_5 rfl) rfl (by show 2 * 0 + _ ≤ _; exact Nat.le_of_eq rfl) (hb hby d15_22) (fun _ _ => ⟨rfl, e0, (by decide : 0 + 0 ≤ _), (by decide : 0 + 0 ≤ _)⟩)
    dsimp only [Pt.U, Pt.locs, Pt.cells, Pt.slots] at X8 l8 y8 z8 st8 hQ8
    subst l8 y8 z8
    obtain ⟨x9, rfl, N8q, hq10, hpq11⟩ := hQ8
    have N8 := Fr.app N0 N8q
    have pre12 := fun (t : State) (k : Steps p.tables e below (T8.setTop (mkF m 25 #[.val (.long ww), .second, .val (.int (((ww.toUInt64 >>> ((32 : Int32) &&& 0x3f).toInt64.toUInt64).toInt64).toInt32))] [(.int x9)])) t) => pre1 t (by
      refine XS.ifYes X0.here hx rfl (pc0 := 7) (pc' := 21) rfl (hb hby d15_7) rfl ((if0 _ _).trans (feq hc2).2) (by decide) (by decide) ?_
      refine XS.iloadN X0.here hx rfl (hb hby d15_21) rfl ?_
      refine st8 _ ?_
      exact k)
    obtain ⟨fs, hr, hrun, hended, hW, hsame⟩ := X8.leave (v := some (.int x9)) (hlocks := BodyLoose.notSynchronized Bd) (fun h => by rw [Bd.returns] at h; cases h)
    refine ⟨_, _, pre12 _ ?_, hrun, hended, _, _, rfl, ?_, ⟨_, rfl⟩, hW, hsame.mono (by decide) (by decide)⟩
    · exact retI X8 hx Bd.returns (hb hby d15_25) hr
    · show Q_nL Z ww h0 n0 _ T8.heap _
      rw [hq10]
      exact ⟨x9, rfl, N8, rfl, (own_n64_hi hpq11 hc2)⟩

theorem ef_lt (m : MethodId) (x0 : Addr) : entryFrame m #[(.ref x0)] 1 = mkF m 0 #[.val (.ref x0)] [] := by first | (simp [entryFrame, mkF, argsToLocals, Value.category]; done) | rfl
def Q_lt (Z : State) (dd : Addr) (ka : Addr) (wa : Addr) (kk : ClassId) (kw : ClassId) (cap : Int32) (sz : Int32) (kv : List Value) (wv : List Value) (SS : Int32 → Prop) (sh : Int32) (h0 : Heap) (n0 : Nat) (v : Option Value) (h : Heap) (L : List Loc) : Prop := ∃ r : Int32, v = some (.int r) ∧ Fr n0 L ∧ h = h0 ∧ own_top SS r
set_option maxRecDepth 65536 in
set_option maxHeartbeats 40000000 in
theorem rm_lt (l : Launch) (Z : State) (a0 : Array Value) (hw : ∀ d ∈ tables_1, d.before a0 Z = true) (ws : List Jvm.Cond) (dd : Addr) (ka : Addr) (wa : Addr) (kk : ClassId) (kw : ClassId) (cap : Int32) (sz : Int32) (kv : List Value) (wv : List Value) (SS : Int32 → Prop) (sh : Int32) (h0 : Heap) (n0 : Nat) (Z0 : n0 ≤ h0.size) (H0_E : Exa Z h0 dd "org/tallyrole/core/Dependencies") (H1_F : Fld Z h0 dd "org/tallyrole/core/Dependencies" "keys" "[I" (.ref ka)) (H2_F : Fld Z h0 dd "org/tallyrole/core/Dependencies" "words" "[J" (.ref wa)) (H3_F : Fld Z h0 dd "org/tallyrole/core/Dependencies" "size" "I" (.int sz)) (H4_F : Fld Z h0 dd "org/tallyrole/core/Dependencies" "shared" "Z" (.int sh)) (H5_A : Arv Z h0 ka kk .int cap kv (.int (0 : Int32))) (H6_A : Arv Z h0 wa kw .long cap wv (.long (0 : Int64))) (hrep : own_s_0_0 cap sz kv wv SS ∨ own_s_1_0 cap sz kv wv SS ∨ own_s_1_1 cap sz kv wv SS ∨ own_s_2_1 cap sz kv wv SS ∨ own_s_2_2 cap sz kv wv SS ∨ own_s_3_2 cap sz kv wv SS ∨ own_s_3_3 cap sz kv wv SS) :
    MetFree l (⟨"org/tallyrole/core/Dependencies", "latest", "()I"⟩ : MethodName) (head1 (Jvm.Cond.code (⟨"org/tallyrole/core/Dependencies", "latest", "()I"⟩ : MethodName) prog_36_method_9_code 1 (some .int) :: ws) ({ frames := 2, cells := 0, slots := 0, locals := 30 } : Room)) (fun as_ U_ => as_ = #[(.ref dd)] ∧ Z.Warmed39 U_.vm ∧ U_.heap = h0) (fun _ _ _ _ _ => True) (fun _ U o U' => ∃ v L, o = .returned v ∧ Q_lt Z dd ka wa kk kw cap sz kv wv SS sh h0 n0 v U'.heap L ∧ FrameEnd U o U' L ({ frames := 2, cells := 0, slots := 0, locals := 30 } : Room).cells ({ frames := 2, cells := 0, slots := 0, locals := 30 } : Room).slots) := by
  refine MetFree.of_bodySF (plainFor_of_name pn_1) hisR ?_
  intro p e s m args below meth c s₁ Bd hml0 hP hK
  obtain ⟨rfl, hZ, hhp_⟩ := hP
  have hx := Bd.exec
  have hby := Bd.bytes
  have hml : c.maxLocals = 1 := hml0
  have hown : s.vm.findClass "org/tallyrole/core/Dependencies" = some m.cls := findClass_of_methodNamed Bd.named
  have hnm := (name_of_methodNamed Bd.named Bd.method).1
  have X0 : Stand p l e ({ frames := 2, cells := 0, slots := 0, locals := 30 } : Room) s m #[(.ref dd)] below meth c s₁ [] 0 0 := Stand.of_body Bd
  have e0 : s₁.heap = h0 := by rw [← hhp_, Bd.state]; rfl
  have N0 := Fr.nil n0
  have pre0 : ∀ t, Steps p.tables e below (s₁.setTop (mkF m 0 #[.val (.ref dd)] [])) t → Steps p.tables e below (s₁.setTop (entryFrame m #[(.ref dd)] 1)) t := fun t k => castTop (ef_lt m dd) k
  have hrep_ := hrep
  rcases hrep_ with ⟨rfl, rfl, rfl, rfl, hrr⟩ | ⟨g0, q0, rfl, rfl, rfl, rfl, hrr⟩ | ⟨k0, w0, rfl, rfl, rfl, rfl, hrr⟩ | ⟨k0, g1, w0, q1, rfl, rfl, rfl, rfl, hrr⟩ | ⟨k0, k1, w0, w1, rfl, rfl, rfl, rfl, hrr⟩ | ⟨k0, k1, g2, w0, w1, q2, rfl, rfl, rfl, rfl, hrr⟩ | ⟨k0, k1, k2, w0, w1, w2, rfl, rfl, rfl, rfl, hrr⟩
  · obtain ⟨T1, X1, e1, st1⟩ := getF X0 hx hZ hown (host := "") (Or.inl (own_w hw 23 rfl)) Via.refl e0 H3_F (g := (mkF m 1 #[.val (.ref dd)] [(.ref dd)])) rfl rfl (hb hby d14_1)
    have pre2 := fun (t : State) (k : Steps p.tables e below (T1.setTop (mkF m 43 #[.val (.ref dd)] [(.int (-1 : Int32))])) t) => pre0 t (by
      refine XS.aloadN X0.here hx rfl (hb hby d14_0) rfl rfl ?_
      refine st1 _ ?_
      refine XS.ifNo X1.here hx rfl (hb hby d14_4) rfl ((if0 _ _).trans (teq (by decide : (0 : Int32) = (0 : Int32))).2) ?_
      refine XS.iconst X1.here hx rfl (hb hby d14_7) ?_
      refine XS.goto X1.here hx rfl (pc0 := 8) (pc' := 43) rfl (hb hby d14_8) (by decide) (by decide) ?_
      exact k)
    obtain ⟨fs, hr, hrun, hended, hW, hsame⟩ := X1.leave (v := some (.int (-1 : Int32))) (hlocks := BodyLoose.notSynchronized Bd) (fun h => by rw [Bd.returns] at h; cases h)
    refine ⟨_, _, pre2 _ ?_, hrun, hended, _, _, rfl, ?_, ⟨_, rfl⟩, hW, hsame.mono (by decide) (by decide)⟩
    · exact retI X1 hx Bd.returns (hb hby d14_43) hr
    · show Q_lt Z dd ka wa kk kw (0 : Int32) (0 : Int32) [] [] SS sh h0 n0 _ T1.heap _
      rw [e1]
      exact ⟨(-1 : Int32), rfl, N0, rfl, (own_top_nil hrr)⟩
  · obtain ⟨T3, X3, e3, st3⟩ := getF X0 hx hZ hown (host := "") (Or.inl (own_w hw 23 rfl)) Via.refl e0 H3_F (g := (mkF m 1 #[.val (.ref dd)] [(.ref dd)])) rfl rfl (hb hby d14_1)
    have pre4 := fun (t : State) (k : Steps p.tables e below (T3.setTop (mkF m 43 #[.val (.ref dd)] [(.int (-1 : Int32))])) t) => pre0 t (by
      refine XS.aloadN X0.here hx rfl (hb hby d14_0) rfl rfl ?_
      refine st3 _ ?_
      refine XS.ifNo X3.here hx rfl (hb hby d14_4) rfl ((if0 _ _).trans (teq (by decide : (0 : Int32) = (0 : Int32))).2) ?_
      refine XS.iconst X3.here hx rfl (hb hby d14_7) ?_
      refine XS.goto X3.here hx rfl (pc0 := 8) (pc' := 43) rfl (hb hby d14_8) (by decide) (by decide) ?_
      exact k)
    obtain ⟨fs, hr, hrun, hended, hW, hsame⟩ := X3.leave (v := some (.int (-1 : Int32))) (hlocks := BodyLoose.notSynchronized Bd) (fun h => by rw [Bd.returns] at h; cases h)
    refine ⟨_, _, pre4 _ ?_, hrun, hended, _, _, rfl, ?_, ⟨_, rfl⟩, hW, hsame.mono (by decide) (by decide)⟩
    · exact retI X3 hx Bd.returns (hb hby d14_43) hr
    · show Q_lt Z dd ka wa kk kw (1 : Int32) (0 : Int32) [(.int g0)] [(.long q0)] SS sh h0 n0 _ T3.heap _
      rw [e3]
      exact ⟨(-1 : Int32), rfl, N0, rfl, (own_top_nil hrr)⟩
  · obtain ⟨T5, X5, e5, st5⟩ := getF X0 hx hZ hown (host := "") (Or.inl (own_w hw 23 rfl)) Via.refl e0 H3_F (g := (mkF m 1 #[.val (.ref dd)] [(.ref dd)])) rfl rfl (hb hby d14_1)
    obtain ⟨T6, X6, e6, st6⟩ := getF X5 hx hZ hown (host := "") (Or.inl (own_w hw 12 rfl)) Via.refl e5 H1_F (g := (mkF m 12 #[.val (.ref dd)] [(.ref dd)])) rfl rfl (hb hby d14_12)
    obtain ⟨T7, X7, e7, st7⟩ := getF X6 hx hZ hown (host := "") (Or.inl (own_w hw 23 rfl)) Via.refl e6 H3_F (g := (mkF m 16 #[.val (.ref dd)] [(.ref dd), (.ref ka)])) rfl rfl (hb hby d14_16)
    have oc8 := H5_A
    obtain ⟨c8, Arc8, qc8, Sc8, Nc8, Hc8, Gc8⟩ := oc8
    have hin9 : ¬ ((0 : Int32) < 0 ∨ c8.slots.size ≤ ((0 : Int32)).toNatClampNeg) := (inb_of Sc8 ⟨by decide, by decide⟩)
    obtain ⟨T10, X10, e10, st10⟩ := getF X7 hx hZ hown (host := "") (Or.inl (own_w hw 16 rfl)) Via.refl e7 H2_F (g := (mkF m 28 #[.val (.ref dd)] [(.ref dd), (.int (63 : Int32)), (.int (k0 <<< ((6 : Int32) &&& 31)))])) rfl rfl (hb hby d14_28)
    obtain ⟨T11, X11, e11, st11⟩ := getF X10 hx hZ hown (host := "") (Or.inl (own_w hw 23 rfl)) Via.refl e10 H3_F (g := (mkF m 32 #[.val (.ref dd)] [(.ref dd), (.ref wa), (.int (63 : Int32)), (.int (k0 <<< ((6 : Int32) &&& 31)))])) rfl rfl (hb hby d14_32)
    have oc12 := H6_A
    obtain ⟨c12, Arc12, qc12, Sc12, Nc12, Hc12, Gc12⟩ := oc12
    have hin13 : ¬ ((0 : Int32) < 0 ∨ c12.slots.size ≤ ((0 : Int32)).toNatClampNeg) := (inb_of Sc12 ⟨by decide, by decide⟩)
    obtain ⟨_, _, ⟨T14, L14, k14, n14⟩, -, X14, ⟨Lc14, hQ14, l14, y14, z14⟩, st14⟩ := Jvm.LawKit.callS X11 hx (y := (⟨"java/lang/Long", "numberOfLeadingZeros", "(J)I"⟩ : MethodName)) hown (mvT hZ (own_w hw 90 rfl)) (mvT hZ (own_w hw 91 rfl)) (mvT hZ (own_w hw 92 rfl)) (mvT hZ (own_w hw 93 rfl)) (by decide) (backOf (W := 2) (rm_nL l Z a0 hw [] w0 h0 n0 Z0 ) hZ (own_w hw 93 rfl) (own_w hw 92 rfl) (by decide) (by decide)) (g := (mkF m 38 #[.val (.ref dd)] [(.long w0), (.int (63 : Int32)), (.int (k0 <<< ((6 : Int32) &&& 31)))])) rfl (by rw [hml]; rfl) (argsL := [(.long w0)]) (rest := [(.int (63 : Int32)), (.int (k0 <<< ((6 : Int32) &&& 31)))]) (lenOf pd_6 rfl) rfl (by show 2 * 0 + _ ≤ _; exact Nat.le_of_eq rfl) (hb hby d14_38) (fun _ _ => ⟨rfl, e11, (by decide : 0 + 0 ≤ _), (by decide : 0 + 0 ≤ _)⟩)
    dsimp only [Pt.U, Pt.locs, Pt.cells, Pt.slots] at X14 l14 y14 z14 st14 hQ14
    subst l14 y14 z14
    obtain ⟨x15, rfl, N14q, hq16, hpq17⟩ := hQ14
    have N14 := Fr.app N0 N14q
    have pre18 := fun (t : State) (k : Steps p.tables e below (T14.setTop (mkF m 43 #[.val (.ref dd)] [(.int ((k0 <<< ((6 : Int32) &&& 31)) ||| ((63 : Int32) - x15)))])) t) => pre0 t (by
      refine XS.aloadN X0.here hx rfl (hb hby d14_0) rfl rfl ?_
      refine st5 _ ?_
      refine XS.ifYes X5.here hx rfl (pc0 := 4) (pc' := 11) rfl (hb hby d14_4) rfl ((if0 _ _).trans (feq (by decide : ¬ ((1 : Int32) = (0 : Int32)))).2) (by decide) (by decide) ?_
      refine XS.aloadN X5.here hx rfl (hb hby d14_11) rfl rfl ?_
      refine st6 _ ?_
      refine XS.aloadN X6.here hx rfl (hb hby d14_15) rfl rfl ?_
      refine st7 _ ?_
      refine XS.iconst X7.here hx rfl (hb hby d14_19) ?_
      refine XS.isub X7.here hx rfl (hb hby d14_20) rfl ?_
      refine X7.iaload hx (j := (0 : Int32)) (v := (.int k0)) (by rw [e7]; exact Arc8.1) (State.isArrayOf_alike hZ.alike Arc8.2.1) Arc8.2.2 hin9 (Has.at Hc8 hin9 rfl) (g := (mkF m 21 #[.val (.ref dd)] [(.int (0 : Int32)), (.ref ka)])) rfl rfl (hb hby d14_21) _ ?_
      refine XS.bipush X7.here hx rfl (hb hby d14_22) ?_
      refine XS.ishl X7.here hx rfl (hb hby d14_24) rfl ?_
      refine XS.bipush X7.here hx rfl (hb hby d14_25) ?_
      refine XS.aloadN X7.here hx rfl (hb hby d14_27) rfl rfl ?_
      refine st10 _ ?_
      refine XS.aloadN X10.here hx rfl (hb hby d14_31) rfl rfl ?_
      refine st11 _ ?_
      refine XS.iconst X11.here hx rfl (hb hby d14_35) ?_
      refine XS.isub X11.here hx rfl (hb hby d14_36) rfl ?_
      refine X11.laload hx (j := (0 : Int32)) (v := (.long w0)) (by rw [e11]; exact Arc12.1) (State.isArrayOf_alike hZ.alike Arc12.2.1) Arc12.2.2 hin13 (Has.at Hc12 hin13 rfl) (g := (mkF m 37 #[.val (.ref dd)] [(.int (0 : Int32)), (.ref wa), (.int (63 : Int32)), (.int (k0 <<< ((6 : Int32) &&& 31)))])) rfl rfl (hb hby d14_37) _ ?_
      refine st14 _ ?_
      refine XS.isub X14.here hx rfl (hb hby d14_41) rfl ?_
      refine XS.ior X14.here hx rfl (hb hby d14_42) rfl ?_
      exact k)
    obtain ⟨fs, hr, hrun, hended, hW, hsame⟩ := X14.leave (v := some (.int ((k0 <<< ((6 : Int32) &&& 31)) ||| ((63 : Int32) - x15)))) (hlocks := BodyLoose.notSynchronized Bd) (fun h => by rw [Bd.returns] at h; cases h)
    refine ⟨_, _, pre18 _ ?_, hrun, hended, _, _, rfl, ?_, ⟨_, rfl⟩, hW, hsame.mono (by decide) (by decide)⟩
    · exact retI X14 hx Bd.returns (hb hby d14_43) hr
    · show Q_lt Z dd ka wa kk kw (1 : Int32) (1 : Int32) [(.int k0)] [(.long w0)] SS sh h0 n0 _ T14.heap _
      rw [hq16]
      exact ⟨((k0 <<< ((6 : Int32) &&& 31)) ||| ((63 : Int32) - x15)), rfl, N14, rfl, (own_r_top (A := []) hrr hpq17)⟩
  · obtain ⟨T19, X19, e19, st19⟩ := getF X0 hx hZ hown (host := "") (Or.inl (own_w hw 23 rfl)) Via.refl e0 H3_F (g := (mkF m 1 #[.val (.ref dd)] [(.ref dd)])) rfl rfl (hb hby d14_1)
    obtain ⟨T20, X20, e20, st20⟩ := getF X19 hx hZ hown (host := "") (Or.inl (own_w hw 12 rfl)) Via.refl e19 H1_F (g := (mkF m 12 #[.val (.ref dd)] [(.ref dd)])) rfl rfl (hb hby d14_12)
    obtain ⟨T21, X21, e21, st21⟩ := getF X20 hx hZ hown (host := "") (Or.inl (own_w hw 23 rfl)) Via.refl e20 H3_F (g := (mkF m 16 #[.val (.ref dd)] [(.ref dd), (.ref ka)])) rfl rfl (hb hby d14_16)
    have oc22 := H5_A
    obtain ⟨c22, Arc22, qc22, Sc22, Nc22, Hc22, Gc22⟩ := oc22
    have hin23 : ¬ ((0 : Int32) < 0 ∨ c22.slots.size ≤ ((0 : Int32)).toNatClampNeg) := (inb_of Sc22 ⟨by decide, by decide⟩)
    obtain ⟨T24, X24, e24, st24⟩ := getF X21 hx hZ hown (host := "") (Or.inl (own_w hw 16 rfl)) Via.refl e21 H2_F (g := (mkF m 28 #[.val (.ref dd)] [(.ref dd), (.int (63 : Int32)), (.int (k0 <<< ((6 : Int32) &&& 31)))])) rfl rfl (hb hby d14_28)
    obtain ⟨T25, X25, e25, st25⟩ := getF X24 hx hZ hown (host := "") (Or.inl (own_w hw 23 rfl)) Via.refl e24 H3_F (g := (mkF m 32 #[.val (.ref dd)] [(.ref dd), (.ref wa), (.int (63 : Int32)), (.int (k0 <<< ((6 : Int32) &&& 31)))])) rfl rfl (hb hby d14_32)
    have oc26 := H6_A
    obtain ⟨c26, Arc26, qc26, Sc26, Nc26, Hc26, Gc26⟩ := oc26
    have hin27 : ¬ ((0 : Int32) < 0 ∨ c26.slots.size ≤ ((0 : Int32)).toNatClampNeg) := (inb_of Sc26 ⟨by decide, by decide⟩)
    obtain ⟨_, _, ⟨T28, L28, k28, n28⟩, -, X28, ⟨Lc28, hQ28, l28, y28, z28⟩, st28⟩ := Jvm.LawKit.callS X25 hx (y := (⟨"java/lang/Long", "numberOfLeadingZeros", "(J)I"⟩ : MethodName)) hown (mvT hZ (own_w hw 90 rfl)) (mvT hZ (own_w hw 91 rfl)) (mvT hZ (own_w hw 92 rfl)) (mvT hZ (own_w hw 93 rfl)) (by decide) (backOf (W := 2) (rm_nL l Z a0 hw [] w0 h0 n0 Z0 ) hZ (own_w hw 93 rfl) (own_w hw 92 rfl) (by decide) (by decide)) (g := (mkF m 38 #[.val (.ref dd)] [(.long w0), (.int (63 : Int32)), (.int (k0 <<< ((6 : Int32) &&& 31)))])) rfl (by rw [hml]; rfl) (argsL := [(.long w0)]) (rest := [(.int (63 : Int32)), (.int (k0 <<< ((6 : Int32) &&& 31)))]) (lenOf pd_6 rfl) rfl (by show 2 * 0 + _ ≤ _; exact Nat.le_of_eq rfl) (hb hby d14_38) (fun _ _ => ⟨rfl, e25, (by decide : 0 + 0 ≤ _), (by decide : 0 + 0 ≤ _)⟩)
    dsimp only [Pt.U, Pt.locs, Pt.cells, Pt.slots] at X28 l28 y28 z28 st28 hQ28
    subst l28 y28 z28
    obtain ⟨x29, rfl, N28q, hq30, hpq31⟩ := hQ28
    have N28 := Fr.app N0 N28q
    have pre32 := fun (t : State) (k : Steps p.tables e below (T28.setTop (mkF m 43 #[.val (.ref dd)] [(.int ((k0 <<< ((6 : Int32) &&& 31)) ||| ((63 : Int32) - x29)))])) t) => pre0 t (by
      refine XS.aloadN X0.here hx rfl (hb hby d14_0) rfl rfl ?_
      refine st19 _ ?_
      refine XS.ifYes X19.here hx rfl (pc0 := 4) (pc' := 11) rfl (hb hby d14_4) rfl ((if0 _ _).trans (feq (by decide : ¬ ((1 : Int32) = (0 : Int32)))).2) (by decide) (by decide) ?_
      refine XS.aloadN X19.here hx rfl (hb hby d14_11) rfl rfl ?_
      refine st20 _ ?_
      refine XS.aloadN X20.here hx rfl (hb hby d14_15) rfl rfl ?_
      refine st21 _ ?_
      refine XS.iconst X21.here hx rfl (hb hby d14_19) ?_
      refine XS.isub X21.here hx rfl (hb hby d14_20) rfl ?_
      refine X21.iaload hx (j := (0 : Int32)) (v := (.int k0)) (by rw [e21]; exact Arc22.1) (State.isArrayOf_alike hZ.alike Arc22.2.1) Arc22.2.2 hin23 (Has.at Hc22 hin23 rfl) (g := (mkF m 21 #[.val (.ref dd)] [(.int (0 : Int32)), (.ref ka)])) rfl rfl (hb hby d14_21) _ ?_
      refine XS.bipush X21.here hx rfl (hb hby d14_22) ?_
      refine XS.ishl X21.here hx rfl (hb hby d14_24) rfl ?_
      refine XS.bipush X21.here hx rfl (hb hby d14_25) ?_
      refine XS.aloadN X21.here hx rfl (hb hby d14_27) rfl rfl ?_
      refine st24 _ ?_
      refine XS.aloadN X24.here hx rfl (hb hby d14_31) rfl rfl ?_
      refine st25 _ ?_
      refine XS.iconst X25.here hx rfl (hb hby d14_35) ?_
      refine XS.isub X25.here hx rfl (hb hby d14_36) rfl ?_
      refine X25.laload hx (j := (0 : Int32)) (v := (.long w0)) (by rw [e25]; exact Arc26.1) (State.isArrayOf_alike hZ.alike Arc26.2.1) Arc26.2.2 hin27 (Has.at Hc26 hin27 rfl) (g := (mkF m 37 #[.val (.ref dd)] [(.int (0 : Int32)), (.ref wa), (.int (63 : Int32)), (.int (k0 <<< ((6 : Int32) &&& 31)))])) rfl rfl (hb hby d14_37) _ ?_
      refine st28 _ ?_
      refine XS.isub X28.here hx rfl (hb hby d14_41) rfl ?_
      refine XS.ior X28.here hx rfl (hb hby d14_42) rfl ?_
      exact k)
    obtain ⟨fs, hr, hrun, hended, hW, hsame⟩ := X28.leave (v := some (.int ((k0 <<< ((6 : Int32) &&& 31)) ||| ((63 : Int32) - x29)))) (hlocks := BodyLoose.notSynchronized Bd) (fun h => by rw [Bd.returns] at h; cases h)
    refine ⟨_, _, pre32 _ ?_, hrun, hended, _, _, rfl, ?_, ⟨_, rfl⟩, hW, hsame.mono (by decide) (by decide)⟩
    · exact retI X28 hx Bd.returns (hb hby d14_43) hr
    · show Q_lt Z dd ka wa kk kw (2 : Int32) (1 : Int32) [(.int k0), (.int g1)] [(.long w0), (.long q1)] SS sh h0 n0 _ T28.heap _
      rw [hq30]
      exact ⟨((k0 <<< ((6 : Int32) &&& 31)) ||| ((63 : Int32) - x29)), rfl, N28, rfl, (own_r_top (A := []) hrr hpq31)⟩
  · have ho0 : k0 < k1 := own_o0 hrr
    obtain ⟨T33, X33, e33, st33⟩ := getF X0 hx hZ hown (host := "") (Or.inl (own_w hw 23 rfl)) Via.refl e0 H3_F (g := (mkF m 1 #[.val (.ref dd)] [(.ref dd)])) rfl rfl (hb hby d14_1)
    obtain ⟨T34, X34, e34, st34⟩ := getF X33 hx hZ hown (host := "") (Or.inl (own_w hw 12 rfl)) Via.refl e33 H1_F (g := (mkF m 12 #[.val (.ref dd)] [(.ref dd)])) rfl rfl (hb hby d14_12)
    obtain ⟨T35, X35, e35, st35⟩ := getF X34 hx hZ hown (host := "") (Or.inl (own_w hw 23 rfl)) Via.refl e34 H3_F (g := (mkF m 16 #[.val (.ref dd)] [(.ref dd), (.ref ka)])) rfl rfl (hb hby d14_16)
    have oc36 := H5_A
    obtain ⟨c36, Arc36, qc36, Sc36, Nc36, Hc36, Gc36⟩ := oc36
    have hin37 : ¬ ((1 : Int32) < 0 ∨ c36.slots.size ≤ ((1 : Int32)).toNatClampNeg) := (inb_of Sc36 ⟨by decide, by decide⟩)
    obtain ⟨T38, X38, e38, st38⟩ := getF X35 hx hZ hown (host := "") (Or.inl (own_w hw 16 rfl)) Via.refl e35 H2_F (g := (mkF m 28 #[.val (.ref dd)] [(.ref dd), (.int (63 : Int32)), (.int (k1 <<< ((6 : Int32) &&& 31)))])) rfl rfl (hb hby d14_28)
    obtain ⟨T39, X39, e39, st39⟩ := getF X38 hx hZ hown (host := "") (Or.inl (own_w hw 23 rfl)) Via.refl e38 H3_F (g := (mkF m 32 #[.val (.ref dd)] [(.ref dd), (.ref wa), (.int (63 : Int32)), (.int (k1 <<< ((6 : Int32) &&& 31)))])) rfl rfl (hb hby d14_32)
    have oc40 := H6_A
    obtain ⟨c40, Arc40, qc40, Sc40, Nc40, Hc40, Gc40⟩ := oc40
    have hin41 : ¬ ((1 : Int32) < 0 ∨ c40.slots.size ≤ ((1 : Int32)).toNatClampNeg) := (inb_of Sc40 ⟨by decide, by decide⟩)
    obtain ⟨_, _, ⟨T42, L42, k42, n42⟩, -, X42, ⟨Lc42, hQ42, l42, y42, z42⟩, st42⟩ := Jvm.LawKit.callS X39 hx (y := (⟨"java/lang/Long", "numberOfLeadingZeros", "(J)I"⟩ : MethodName)) hown (mvT hZ (own_w hw 90 rfl)) (mvT hZ (own_w hw 91 rfl)) (mvT hZ (own_w hw 92 rfl)) (mvT hZ (own_w hw 93 rfl)) (by decide) (backOf (W := 2) (rm_nL l Z a0 hw [] w1 h0 n0 Z0 ) hZ (own_w hw 93 rfl) (own_w hw 92 rfl) (by decide) (by decide)) (g := (mkF m 38 #[.val (.ref dd)] [(.long w1), (.int (63 : Int32)), (.int (k1 <<< ((6 : Int32) &&& 31)))])) rfl (by rw [hml]; rfl) (argsL := [(.long w1)]) (rest := [(.int (63 : Int32)), (.int (k1 <<< ((6 : Int32) &&& 31)))]) (lenOf pd_6 rfl) rfl (by show 2 * 0 + _ ≤ _; exact Nat.le_of_eq rfl) (hb hby d14_38) (fun _ _ => ⟨rfl, e39, (by decide : 0 + 0 ≤ _), (by decide : 0 + 0 ≤ _)⟩)
    dsimp only [Pt.U, Pt.locs, Pt.cells, Pt.slots] at X42 l42 y42 z42 st42 hQ42
    subst l42 y42 z42
    obtain ⟨x43, rfl, N42q, hq44, hpq45⟩ := hQ42
    have N42 := Fr.app N0 N42q
    have pre46 := fun (t : State) (k : Steps p.tables e below (T42.setTop (mkF m 43 #[.val (.ref dd)] [(.int ((k1 <<< ((6 : Int32) &&& 31)) ||| ((63 : Int32) - x43)))])) t) => pre0 t (by
      refine XS.aloadN X0.here hx rfl (hb hby d14_0) rfl rfl ?_
      refine st33 _ ?_
      refine XS.ifYes X33.here hx rfl (pc0 := 4) (pc' := 11) rfl (hb hby d14_4) rfl ((if0 _ _).trans (feq (by decide : ¬ ((2 : Int32) = (0 : Int32)))).2) (by decide) (by decide) ?_
      refine XS.aloadN X33.here hx rfl (hb hby d14_11) rfl rfl ?_
      refine st34 _ ?_
      refine XS.aloadN X34.here hx rfl (hb hby d14_15) rfl rfl ?_
      refine st35 _ ?_
      refine XS.iconst X35.here hx rfl (hb hby d14_19) ?_
      refine XS.isub X35.here hx rfl (hb hby d14_20) rfl ?_
      refine X35.iaload hx (j := (1 : Int32)) (v := (.int k1)) (by rw [e35]; exact Arc36.1) (State.isArrayOf_alike hZ.alike Arc36.2.1) Arc36.2.2 hin37 (Has.at Hc36 hin37 rfl) (g := (mkF m 21 #[.val (.ref dd)] [(.int (1 : Int32)), (.ref ka)])) rfl rfl (hb hby d14_21) _ ?_
      refine XS.bipush X35.here hx rfl (hb hby d14_22) ?_
      refine XS.ishl X35.here hx rfl (hb hby d14_24) rfl ?_
      refine XS.bipush X35.here hx rfl (hb hby d14_25) ?_
      refine XS.aloadN X35.here hx rfl (hb hby d14_27) rfl rfl ?_
      refine st38 _ ?_
      refine XS.aloadN X38.here hx rfl (hb hby d14_31) rfl rfl ?_
      refine st39 _ ?_
      refine XS.iconst X39.here hx rfl (hb hby d14_35) ?_
      refine XS.isub X39.here hx rfl (hb hby d14_36) rfl ?_
      refine X39.laload hx (j := (1 : Int32)) (v := (.long w1)) (by rw [e39]; exact Arc40.1) (State.isArrayOf_alike hZ.alike Arc40.2.1) Arc40.2.2 hin41 (Has.at Hc40 hin41 rfl) (g := (mkF m 37 #[.val (.ref dd)] [(.int (1 : Int32)), (.ref wa), (.int (63 : Int32)), (.int (k1 <<< ((6 : Int32) &&& 31)))])) rfl rfl (hb hby d14_37) _ ?_
      refine st42 _ ?_
      refine XS.isub X42.here hx rfl (hb hby d14_41) rfl ?_
      refine XS.ior X42.here hx rfl (hb hby d14_42) rfl ?_
      exact k)
    obtain ⟨fs, hr, hrun, hended, hW, hsame⟩ := X42.leave (v := some (.int ((k1 <<< ((6 : Int32) &&& 31)) ||| ((63 : Int32) - x43)))) (hlocks := BodyLoose.notSynchronized Bd) (fun h => by rw [Bd.returns] at h; cases h)
    refine ⟨_, _, pre46 _ ?_, hrun, hended, _, _, rfl, ?_, ⟨_, rfl⟩, hW, hsame.mono (by decide) (by decide)⟩
    · exact retI X42 hx Bd.returns (hb hby d14_43) hr
    · show Q_lt Z dd ka wa kk kw (2 : Int32) (2 : Int32) [(.int k0), (.int k1)] [(.long w0), (.long w1)] SS sh h0 n0 _ T42.heap _
      rw [hq44]
      exact ⟨((k1 <<< ((6 : Int32) &&& 31)) ||| ((63 : Int32) - x43)), rfl, N42, rfl, (own_r_top (A := [(k0, w0)]) hrr hpq45)⟩
  · have ho0 : k0 < k1 := own_o0 hrr
    obtain ⟨T47, X47, e47, st47⟩ := getF X0 hx hZ hown (host := "") (Or.inl (own_w hw 23 rfl)) Via.refl e0 H3_F (g := (mkF m 1 #[.val (.ref dd)] [(.ref dd)])) rfl rfl (hb hby d14_1)
    obtain ⟨T48, X48, e48, st48⟩ := getF X47 hx hZ hown (host := "") (Or.inl (own_w hw 12 rfl)) Via.refl e47 H1_F (g := (mkF m 12 #[.val (.ref dd)] [(.ref dd)])) rfl rfl (hb hby d14_12)
    obtain ⟨T49, X49, e49, st49⟩ := getF X48 hx hZ hown (host := "") (Or.inl (own_w hw 23 rfl)) Via.refl e48 H3_F (g := (mkF m 16 #[.val (.ref dd)] [(.ref dd), (.ref ka)])) rfl rfl (hb hby d14_16)
    have oc50 := H5_A
    obtain ⟨c50, Arc50, qc50, Sc50, Nc50, Hc50, Gc50⟩ := oc50
    have hin51 : ¬ ((1 : Int32) < 0 ∨ c50.slots.size ≤ ((1 : Int32)).toNatClampNeg) := (inb_of Sc50 ⟨by decide, by decide⟩)
    obtain ⟨T52, X52, e52, st52⟩ := getF X49 hx hZ hown (host := "") (Or.inl (own_w hw 16 rfl)) Via.refl e49 H2_F (g := (mkF m 28 #[.val (.ref dd)] [(.ref dd), (.int (63 : Int32)), (.int (k1 <<< ((6 : Int32) &&& 31)))])) rfl rfl (hb hby d14_28)
    obtain ⟨T53, X53, e53, st53⟩ := getF X52 hx hZ hown (host := "") (Or.inl (own_w hw 23 rfl)) Via.refl e52 H3_F (g := (mkF m 32 #[.val (.ref dd)] [(.ref dd), (.ref wa), (.int (63 : Int32)), (.int (k1 <<< ((6 : Int32) &&& 31)))])) rfl rfl (hb hby d14_32)
    have oc54 := H6_A
    obtain ⟨c54, Arc54, qc54, Sc54, Nc54, Hc54, Gc54⟩ := oc54
    have hin55 : ¬ ((1 : Int32) < 0 ∨ c54.slots.size ≤ ((1 : Int32)).toNatClampNeg) := (inb_of Sc54 ⟨by decide, by decide⟩)
    obtain ⟨_, _, ⟨T56, L56, k56, n56⟩, -, X56, ⟨Lc56, hQ56, l56, y56, z56⟩, st56⟩ := Jvm.LawKit.callS X53 hx (y := (⟨"java/lang/Long", "numberOfLeadingZeros", "(J)I"⟩ : MethodName)) hown (mvT hZ (own_w hw 90 rfl)) (mvT hZ (own_w hw 91 rfl)) (mvT hZ (own_w hw 92 rfl)) (mvT hZ (own_w hw 93 rfl)) (by decide) (backOf (W := 2) (rm_nL l Z a0 hw [] w1 h0 n0 Z0 ) hZ (own_w hw 93 rfl) (own_w hw 92 rfl) (by decide) (by decide)) (g := (mkF m 38 #[.val (.ref dd)] [(.long w1), (.int (63 : Int32)), (.int (k1 <<< ((6 : Int32) &&& 31)))])) rfl (by rw [hml]; rfl) (argsL := [(.long w1)]) (rest := [(.int (63 : Int32)), (.int (k1 <<< ((6 : Int32) &&& 31)))]) (lenOf pd_6 rfl) rfl (by show 2 * 0 + _ ≤ _; exact Nat.le_of_eq rfl) (hb hby d14_38) (fun _ _ => ⟨rfl, e53, (by decide : 0 + 0 ≤ _), (by decide : 0 + 0 ≤ _)⟩)
    dsimp only [Pt.U, Pt.locs, Pt.cells, Pt.slots] at X56 l56 y56 z56 st56 hQ56
    subst l56 y56 z56
    obtain ⟨x57, rfl, N56q, hq58, hpq59⟩ := hQ56
    have N56 := Fr.app N0 N56q
    have pre60 := fun (t : State) (k : Steps p.tables e below (T56.setTop (mkF m 43 #[.val (.ref dd)] [(.int ((k1 <<< ((6 : Int32) &&& 31)) ||| ((63 : Int32) - x57)))])) t) => pre0 t (by
      refine XS.aloadN X0.here hx rfl (hb hby d14_0) rfl rfl ?_
      refine st47 _ ?_
      refine XS.ifYes X47.here hx rfl (pc0 := 4) (pc' := 11) rfl (hb hby d14_4) rfl ((if0 _ _).trans (feq (by decide : ¬ ((2 : Int32) = (0 : Int32)))).2) (by decide) (by decide) ?_
      refine XS.aloadN X47.here hx rfl (hb hby d14_11) rfl rfl ?_
      refine st48 _ ?_
      refine XS.aloadN X48.here hx rfl (hb hby d14_15) rfl rfl ?_
      refine st49 _ ?_
      refine XS.iconst X49.here hx rfl (hb hby d14_19) ?_
      refine XS.isub X49.here hx rfl (hb hby d14_20) rfl ?_
      refine X49.iaload hx (j := (1 : Int32)) (v := (.int k1)) (by rw [e49]; exact Arc50.1) (State.isArrayOf_alike hZ.alike Arc50.2.1) Arc50.2.2 hin51 (Has.at Hc50 hin51 rfl) (g := (mkF m 21 #[.val (.ref dd)] [(.int (1 : Int32)), (.ref ka)])) rfl rfl (hb hby d14_21) _ ?_
      refine XS.bipush X49.here hx rfl (hb hby d14_22) ?_
      refine XS.ishl X49.here hx rfl (hb hby d14_24) rfl ?_
      refine XS.bipush X49.here hx rfl (hb hby d14_25) ?_
      refine XS.aloadN X49.here hx rfl (hb hby d14_27) rfl rfl ?_
      refine st52 _ ?_
      refine XS.aloadN X52.here hx rfl (hb hby d14_31) rfl rfl ?_
      refine st53 _ ?_
      refine XS.iconst X53.here hx rfl (hb hby d14_35) ?_
      refine XS.isub X53.here hx rfl (hb hby d14_36) rfl ?_
      refine X53.laload hx (j := (1 : Int32)) (v := (.long w1)) (by rw [e53]; exact Arc54.1) (State.isArrayOf_alike hZ.alike Arc54.2.1) Arc54.2.2 hin55 (Has.at Hc54 hin55 rfl) (g := (mkF m 37 #[.val (.ref dd)] [(.int (1 : Int32)), (.ref wa), (.int (63 : Int32)), (.int (k1 <<< ((6 : Int32) &&& 31)))])) rfl rfl (hb hby d14_37) _ ?_
      refine st56 _ ?_
      refine XS.isub X56.here hx rfl (hb hby d14_41) rfl ?_
      refine XS.ior X56.here hx rfl (hb hby d14_42) rfl ?_
      exact k)
    obtain ⟨fs, hr, hrun, hended, hW, hsame⟩ := X56.leave (v := some (.int ((k1 <<< ((6 : Int32) &&& 31)) ||| ((63 : Int32) - x57)))) (hlocks := BodyLoose.notSynchronized Bd) (fun h => by rw [Bd.returns] at h; cases h)
    refine ⟨_, _, pre60 _ ?_, hrun, hended, _, _, rfl, ?_, ⟨_, rfl⟩, hW, hsame.mono (by decide) (by decide)⟩
    · exact retI X56 hx Bd.returns (hb hby d14_43) hr
    · show Q_lt Z dd ka wa kk kw (3 : Int32) (2 : Int32) [(.int k0), (.int k1), (.int g2)] [(.long w0), (.long w1), (.long q2)] SS sh h0 n0 _ T56.heap _
      rw [hq58]
      exact ⟨((k1 <<< ((6 : Int32) &&& 31)) ||| ((63 : Int32) - x57)), rfl, N56, rfl, (own_r_top (A := [(k0, w0)]) hrr hpq59)⟩
  · have ho0 : k0 < k1 := own_o0 hrr
    have ho1 : k1 < k2 := own_o1 hrr
    obtain ⟨T61, X61, e61, st61⟩ := getF X0 hx hZ hown (host := "") (Or.inl (own_w hw 23 rfl)) Via.refl e0 H3_F (g := (mkF m 1 #[.val (.ref dd)] [(.ref dd)])) rfl rfl (hb hby d14_1)
    obtain ⟨T62, X62, e62, st62⟩ := getF X61 hx hZ hown (host := "") (Or.inl (own_w hw 12 rfl)) Via.refl e61 H1_F (g := (mkF m 12 #[.val (.ref dd)] [(.ref dd)])) rfl rfl (hb hby d14_12)
    obtain ⟨T63, X63, e63, st63⟩ := getF X62 hx hZ hown (host := "") (Or.inl (own_w hw 23 rfl)) Via.refl e62 H3_F (g := (mkF m 16 #[.val (.ref dd)] [(.ref dd), (.ref ka)])) rfl rfl (hb hby d14_16)
    have oc64 := H5_A
    obtain ⟨c64, Arc64, qc64, Sc64, Nc64, Hc64, Gc64⟩ := oc64
    have hin65 : ¬ ((2 : Int32) < 0 ∨ c64.slots.size ≤ ((2 : Int32)).toNatClampNeg) := (inb_of Sc64 ⟨by decide, by decide⟩)
    obtain ⟨T66, X66, e66, st66⟩ := getF X63 hx hZ hown (host := "") (Or.inl (own_w hw 16 rfl)) Via.refl e63 H2_F (g := (mkF m 28 #[.val (.ref dd)] [(.ref dd), (.int (63 : Int32)), (.int (k2 <<< ((6 : Int32) &&& 31)))])) rfl rfl (hb hby d14_28)
    obtain ⟨T67, X67, e67, st67⟩ := getF X66 hx hZ hown (host := "") (Or.inl (own_w hw 23 rfl)) Via.refl e66 H3_F (g := (mkF m 32 #[.val (.ref dd)] [(.ref dd), (.ref wa), (.int (63 : Int32)), (.int (k2 <<< ((6 : Int32) &&& 31)))])) rfl rfl (hb hby d14_32)
    have oc68 := H6_A
    obtain ⟨c68, Arc68, qc68, Sc68, Nc68, Hc68, Gc68⟩ := oc68
    have hin69 : ¬ ((2 : Int32) < 0 ∨ c68.slots.size ≤ ((2 : Int32)).toNatClampNeg) := (inb_of Sc68 ⟨by decide, by decide⟩)
    obtain ⟨_, _, ⟨T70, L70, k70, n70⟩, -, X70, ⟨Lc70, hQ70, l70, y70, z70⟩, st70⟩ := Jvm.LawKit.callS X67 hx (y := (⟨"java/lang/Long", "numberOfLeadingZeros", "(J)I"⟩ : MethodName)) hown (mvT hZ (own_w hw 90 rfl)) (mvT hZ (own_w hw 91 rfl)) (mvT hZ (own_w hw 92 rfl)) (mvT hZ (own_w hw 93 rfl)) (by decide) (backOf (W := 2) (rm_nL l Z a0 hw [] w2 h0 n0 Z0 ) hZ (own_w hw 93 rfl) (own_w hw 92 rfl) (by decide) (by decide)) (g := (mkF m 38 #[.val (.ref dd)] [(.long w2), (.int (63 : Int32)), (.int (k2 <<< ((6 : Int32) &&& 31)))])) rfl (by rw [hml]; rfl) (argsL := [(.long w2)]) (rest := [(.int (63 : Int32)), (.int (k2 <<< ((6 : Int32) &&& 31)))]) (lenOf pd_6 rfl) rfl (by show 2 * 0 + _ ≤ _; exact Nat.le_of_eq rfl) (hb hby d14_38) (fun _ _ => ⟨rfl, e67, (by decide : 0 + 0 ≤ _), (by decide : 0 + 0 ≤ _)⟩)
    dsimp only [Pt.U, Pt.locs, Pt.cells, Pt.slots] at X70 l70 y70 z70 st70 hQ70
    subst l70 y70 z70
    obtain ⟨x71, rfl, N70q, hq72, hpq73⟩ := hQ70
    have N70 := Fr.app N0 N70q
    have pre74 := fun (t : State) (k : Steps p.tables e below (T70.setTop (mkF m 43 #[.val (.ref dd)] [(.int ((k2 <<< ((6 : Int32) &&& 31)) ||| ((63 : Int32) - x71)))])) t) => pre0 t (by
      refine XS.aloadN X0.here hx rfl (hb hby d14_0) rfl rfl ?_
      refine st61 _ ?_
      refine XS.ifYes X61.here hx rfl (pc0 := 4) (pc' := 11) rfl (hb hby d14_4) rfl ((if0 _ _).trans (feq (by decide : ¬ ((3 : Int32) = (0 : Int32)))).2) (by decide) (by decide) ?_
      refine XS.aloadN X61.here hx rfl (hb hby d14_11) rfl rfl ?_
      refine st62 _ ?_
      refine XS.aloadN X62.here hx rfl (hb hby d14_15) rfl rfl ?_
      refine st63 _ ?_
      refine XS.iconst X63.here hx rfl (hb hby d14_19) ?_
      refine XS.isub X63.here hx rfl (hb hby d14_20) rfl ?_
      refine X63.iaload hx (j := (2 : Int32)) (v := (.int k2)) (by rw [e63]; exact Arc64.1) (State.isArrayOf_alike hZ.alike Arc64.2.1) Arc64.2.2 hin65 (Has.at Hc64 hin65 rfl) (g := (mkF m 21 #[.val (.ref dd)] [(.int (2 : Int32)), (.ref ka)])) rfl rfl (hb hby d14_21) _ ?_
      refine XS.bipush X63.here hx rfl (hb hby d14_22) ?_
      refine XS.ishl X63.here hx rfl (hb hby d14_24) rfl ?_
      refine XS.bipush X63.here hx rfl (hb hby d14_25) ?_
      refine XS.aloadN X63.here hx rfl (hb hby d14_27) rfl rfl ?_
      refine st66 _ ?_
      refine XS.aloadN X66.here hx rfl (hb hby d14_31) rfl rfl ?_
      refine st67 _ ?_
      refine XS.iconst X67.here hx rfl (hb hby d14_35) ?_
      refine XS.isub X67.here hx rfl (hb hby d14_36) rfl ?_
      refine X67.laload hx (j := (2 : Int32)) (v := (.long w2)) (by rw [e67]; exact Arc68.1) (State.isArrayOf_alike hZ.alike Arc68.2.1) Arc68.2.2 hin69 (Has.at Hc68 hin69 rfl) (g := (mkF m 37 #[.val (.ref dd)] [(.int (2 : Int32)), (.ref wa), (.int (63 : Int32)), (.int (k2 <<< ((6 : Int32) &&& 31)))])) rfl rfl (hb hby d14_37) _ ?_
      refine st70 _ ?_
      refine XS.isub X70.here hx rfl (hb hby d14_41) rfl ?_
      refine XS.ior X70.here hx rfl (hb hby d14_42) rfl ?_
      exact k)
    obtain ⟨fs, hr, hrun, hended, hW, hsame⟩ := X70.leave (v := some (.int ((k2 <<< ((6 : Int32) &&& 31)) ||| ((63 : Int32) - x71)))) (hlocks := BodyLoose.notSynchronized Bd) (fun h => by rw [Bd.returns] at h; cases h)
    refine ⟨_, _, pre74 _ ?_, hrun, hended, _, _, rfl, ?_, ⟨_, rfl⟩, hW, hsame.mono (by decide) (by decide)⟩
    · exact retI X70 hx Bd.returns (hb hby d14_43) hr
    · show Q_lt Z dd ka wa kk kw (3 : Int32) (3 : Int32) [(.int k0), (.int k1), (.int k2)] [(.long w0), (.long w1), (.long w2)] SS sh h0 n0 _ T70.heap _
      rw [hq72]
      exact ⟨((k2 <<< ((6 : Int32) &&& 31)) ||| ((63 : Int32) - x71)), rfl, N70, rfl, (own_r_top (A := [(k0, w0), (k1, w1)]) hrr hpq73)⟩

theorem ef_ini (m : MethodId) (x0 : Addr) : entryFrame m #[(.ref x0)] 1 = mkF m 0 #[.val (.ref x0)] [] := by first | (simp [entryFrame, mkF, argsToLocals, Value.category]; done) | rfl
def Q_ini (Z : State) (dd : Addr) (ka : Addr) (wa : Addr) (h0 : Heap) (n0 : Nat) (v : Option Value) (h : Heap) (L : List Loc) : Prop := v = none ∧ Fr n0 L ∧ Keep h0 h [dd] ∧ Fld Z h dd "org/tallyrole/core/Dependencies" "keys" "[I" (.ref ka) ∧ Fld Z h dd "org/tallyrole/core/Dependencies" "words" "[J" (.ref wa) ∧ Fld Z h dd "org/tallyrole/core/Dependencies" "size" "I" (.int (0 : Int32)) ∧ Fld Z h dd "org/tallyrole/core/Dependencies" "shared" "Z" (.int (0 : Int32))
set_option maxRecDepth 65536 in
set_option maxHeartbeats 40000000 in
theorem rm_ini (l : Launch) (Z : State) (a0 : Array Value) (hw : ∀ d ∈ tables_1, d.before a0 Z = true) (ws : List Jvm.Cond) (dd : Addr) (ka : Addr) (wa : Addr) (h0 : Heap) (n0 : Nat) (Z0 : n0 ≤ h0.size) (H0_E : Exa Z h0 dd "org/tallyrole/core/Dependencies") (H1_F : Fld Z h0 dd "org/tallyrole/core/Dependencies" "keys" "[I" .null) (H2_F : Fld Z h0 dd "org/tallyrole/core/Dependencies" "words" "[J" .null) (H3_F : Fld Z h0 dd "org/tallyrole/core/Dependencies" "size" "I" (.int (0 : Int32))) (H4_F : Fld Z h0 dd "org/tallyrole/core/Dependencies" "shared" "Z" (.int (0 : Int32))) (H5_S : Sta Z h0 "org/tallyrole/core/Dependencies" "NO_KEYS" "[I" (.ref ka)) (H6_S : Sta Z h0 "org/tallyrole/core/Dependencies" "NO_WORDS" "[J" (.ref wa)) (hdd : n0 ≤ dd) :
    MetFree l (⟨"org/tallyrole/core/Dependencies", "<init>", "()V"⟩ : MethodName) (head1 (Jvm.Cond.code (⟨"org/tallyrole/core/Dependencies", "<init>", "()V"⟩ : MethodName) prog_36_method_1_code 1 none :: ws) ({ frames := 1, cells := 0, slots := 0, locals := 12 } : Room)) (fun as_ U_ => as_ = #[(.ref dd)] ∧ Z.Warmed39 U_.vm ∧ U_.heap = h0) (fun _ _ _ _ _ => True) (fun _ U o U' => ∃ v L, o = .returned v ∧ Q_ini Z dd ka wa h0 n0 v U'.heap L ∧ FrameEnd U o U' L ({ frames := 1, cells := 0, slots := 0, locals := 12 } : Room).cells ({ frames := 1, cells := 0, slots := 0, locals := 12 } : Room).slots) := by
  refine MetFree.of_bodySF (plainFor_of_name pn_1) hisR ?_
  intro p e s m args below meth c s₁ Bd hml0 hP hK
  obtain ⟨rfl, hZ, hhp_⟩ := hP
  have hx := Bd.exec
  have hby := Bd.bytes
  have hml : c.maxLocals = 1 := hml0
  have hown : s.vm.findClass "org/tallyrole/core/Dependencies" = some m.cls := findClass_of_methodNamed Bd.named
  have hnm := (name_of_methodNamed Bd.named Bd.method).1
  have X0 : Stand p l e ({ frames := 1, cells := 0, slots := 0, locals := 12 } : Room) s m #[(.ref dd)] below meth c s₁ [] 0 0 := Stand.of_body Bd
  have e0 : s₁.heap = h0 := by rw [← hhp_, Bd.state]; rfl
  have N0 := Fr.nil n0
  have pre0 : ∀ t, Steps p.tables e below (s₁.setTop (mkF m 0 #[.val (.ref dd)] [])) t → Steps p.tables e below (s₁.setTop (entryFrame m #[(.ref dd)] 1)) t := fun t k => castTop (ef_ini m dd) k
  have K0 : Keep h0 h0 [dd] := Keep.refl h0 [dd]
  obtain ⟨T1, X1, e1, st1⟩ := initO X0 hx hZ hown (own_w hw 7 rfl) (own_w hw 8 rfl) (own_w hw 9 rfl) e0 (g := (mkF m 1 #[.val (.ref dd)] [(.ref dd)])) rfl (by rw [hml]; rfl) rfl (hb hby d1_1) (by decide) (W := 0) (by show 2 * 0 + _ ≤ _; exact Nat.le_of_eq rfl) (by decide)
  obtain ⟨T2, X2, e2, st2⟩ := getS2 X1 hx hZ hown (host := "") (Or.inl (own_w hw 10 rfl)) Via.refl e1 H5_S (g := (mkF m 5 #[.val (.ref dd)] [(.ref dd)])) rfl (hb hby d1_5)
  obtain ⟨T3, h3, X3, e3, W3, st3⟩ := putF X2 hx hZ hown (host := "") (Or.inl (own_w hw 12 rfl)) Via.refl e2 H1_F H0_E (Or.inl (own_w hw 13 rfl)) (own_w hw 2 rfl) (ty := (.array .int)) (by decide) rfl rfl (g := (mkF m 8 #[.val (.ref dd)] [(.ref ka), (.ref dd)])) rfl rfl (hb hby d1_8)
  have Fw3 : Fld Z h3 dd "org/tallyrole/core/Dependencies" "keys" "[I" (.ref ka) := H1_F.same W3
  have E4 := H0_E.wr W3
  have F5 := H2_F.other W3 (Or.inr (slot_ne (Or.inl (own_w hw 17 rfl)) (Or.inl (own_w hw 13 rfl)) (by decide) (t := (.array .long)) (t' := (.array .int)) (by decide) (by decide)))
  have F6 := H3_F.other W3 (Or.inr (slot_ne (Or.inl (own_w hw 24 rfl)) (Or.inl (own_w hw 13 rfl)) (by decide) (t := .int) (t' := (.array .int)) (by decide) (by decide)))
  have F7 := H4_F.other W3 (Or.inr (slot_ne (Or.inl (own_w hw 40 rfl)) (Or.inl (own_w hw 13 rfl)) (by decide) (t := .boolean) (t' := (.array .int)) (by decide) (by decide)))
  have S8 := H5_S.wr W3
  have S9 := H6_S.wr W3
  have N3 := Fr.snoc X3 N0 hdd
  have K3 : Keep h0 h3 [dd] := K0.wr W3 (Or.inl (List.mem_of_getElem? (i := 0) rfl))
  have Zs10 : n0 ≤ h3.size := (Nat.le_trans Z0 (Keep.of_wr W3).1)
  obtain ⟨T11, X11, e11, st11⟩ := getS2 X3 hx hZ hown (host := "") (Or.inl (own_w hw 14 rfl)) Via.refl e3 S9 (g := (mkF m 12 #[.val (.ref dd)] [(.ref dd)])) rfl (hb hby d1_12)
  obtain ⟨T12, h12, X12, e12, W12, st12⟩ := putF X11 hx hZ hown (host := "") (Or.inl (own_w hw 16 rfl)) Via.refl e11 F5 E4 (Or.inl (own_w hw 17 rfl)) (own_w hw 2 rfl) (ty := (.array .long)) (by decide) rfl rfl (g := (mkF m 15 #[.val (.ref dd)] [(.ref wa), (.ref dd)])) rfl rfl (hb hby d1_15)
  have Fw12 : Fld Z h12 dd "org/tallyrole/core/Dependencies" "words" "[J" (.ref wa) := F5.same W12
  have E13 := E4.wr W12
  have F14 := F6.other W12 (Or.inr (slot_ne (Or.inl (own_w hw 24 rfl)) (Or.inl (own_w hw 17 rfl)) (by decide) (t := .int) (t' := (.array .long)) (by decide) (by decide)))
  have F15 := F7.other W12 (Or.inr (slot_ne (Or.inl (own_w hw 40 rfl)) (Or.inl (own_w hw 17 rfl)) (by decide) (t := .boolean) (t' := (.array .long)) (by decide) (by decide)))
  have S16 := S8.wr W12
  have S17 := S9.wr W12
  have F18 := Fw3.other W12 (Or.inr (slot_ne (Or.inl (own_w hw 13 rfl)) (Or.inl (own_w hw 17 rfl)) (by decide) (t := (.array .int)) (t' := (.array .long)) (by decide) (by decide)))
  have N12 := Fr.snoc X12 N3 hdd
  have K12 : Keep h0 h12 [dd] := K3.wr W12 (Or.inl (List.mem_of_getElem? (i := 0) rfl))
  have Zs19 : n0 ≤ h12.size := (Nat.le_trans Zs10 (Keep.of_wr W12).1)
  have pre20 := fun (t : State) (k : Steps p.tables e below (T12.setTop (mkF m 18 #[.val (.ref dd)] [])) t) => pre0 t (by
    refine XS.aloadN X0.here hx rfl (hb hby d1_0) rfl rfl ?_
    refine st1 _ ?_
    refine XS.aloadN X1.here hx rfl (hb hby d1_4) rfl rfl ?_
    refine st2 _ ?_
    refine st3 _ ?_
    refine XS.aloadN X3.here hx rfl (hb hby d1_11) rfl rfl ?_
    refine st11 _ ?_
    refine st12 _ ?_
    exact k)
  obtain ⟨fs, hr, hrun, hended, hW, hsame⟩ := X12.leave (v := none) (hlocks := BodyLoose.notSynchronized Bd) (fun _ => rfl)
  refine ⟨_, _, pre20 _ ?_, hrun, hended, _, _, rfl, ?_, ⟨_, rfl⟩, hW, hsame.mono (by decide) (by decide)⟩
  · exact X12.returnOut hx Bd.returns (hb hby d1_18) hr
  · show Q_ini Z dd ka wa h0 n0 _ T12.heap _
    rw [e12]
    exact ⟨rfl, N12, K12, F18, Fw12, F14, F15⟩

theorem ef_aE (m : MethodId) (x0 : Addr) (x1 : Int32) : entryFrame m #[(.ref x0), (.int x1)] 7 = mkF m 0 #[.val (.ref x0), .val (.int x1), .unset, .unset, .unset, .unset, .unset] [] := by first | (simp [entryFrame, mkF, argsToLocals, Value.category]; done) | rfl
def Q_aE (Z : State) (dd : Addr) (ka : Addr) (wa : Addr) (kk : ClassId) (kw : ClassId) (SS : Int32 → Prop) (lv : Int32) (h0 : Heap) (n0 : Nat) (v : Option Value) (h : Heap) (L : List Loc) : Prop := ∃ xk : Addr, ∃ xw : Addr, ∃ kxk : ClassId, ∃ kxw : ClassId, ∃ cap' : Int32, ∃ sz' : Int32, ∃ kv' : List Value, ∃ wv' : List Value, v = none ∧ Fr n0 L ∧ Keep h0 h [dd] ∧ n0 ≤ xk ∧ h0.size ≤ xk ∧ n0 ≤ xw ∧ h0.size ≤ xw ∧ dd ≠ xk ∧ dd ≠ xw ∧ xk ≠ xw ∧ own_s_1_1 cap' sz' kv' wv' (own_ins SS lv) ∧ Exa Z h dd "org/tallyrole/core/Dependencies" ∧ Fld Z h dd "org/tallyrole/core/Dependencies" "keys" "[I" (.ref xk) ∧ Fld Z h dd "org/tallyrole/core/Dependencies" "words" "[J" (.ref xw) ∧ Fld Z h dd "org/tallyrole/core/Dependencies" "size" "I" (.int sz') ∧ Fld Z h dd "org/tallyrole/core/Dependencies" "shared" "Z" (.int (0 : Int32)) ∧ Arv Z h xk kxk .int cap' kv' (.int (0 : Int32)) ∧ Arv Z h xw kxw .long cap' wv' (.long (0 : Int64)) ∧ Exa Z h xk "[I" ∧ Exa Z h xw "[J"
set_option maxRecDepth 65536 in
set_option maxHeartbeats 40000000 in
theorem rm_aE (l : Launch) (Z : State) (a0 : Array Value) (hw : ∀ d ∈ tables_1, d.before a0 Z = true) (ws : List Jvm.Cond) (dd : Addr) (ka : Addr) (wa : Addr) (kk : ClassId) (kw : ClassId) (SS : Int32 → Prop) (lv : Int32) (h0 : Heap) (n0 : Nat) (Z0 : n0 ≤ h0.size) (H0_E : Exa Z h0 dd "org/tallyrole/core/Dependencies") (H1_F : Fld Z h0 dd "org/tallyrole/core/Dependencies" "keys" "[I" (.ref ka)) (H2_F : Fld Z h0 dd "org/tallyrole/core/Dependencies" "words" "[J" (.ref wa)) (H3_F : Fld Z h0 dd "org/tallyrole/core/Dependencies" "size" "I" (.int (0 : Int32))) (H4_F : Fld Z h0 dd "org/tallyrole/core/Dependencies" "shared" "Z" (.int (0 : Int32))) (H5_A : Arv Z h0 ka kk .int (0 : Int32) [] (.int (0 : Int32))) (H6_A : Arv Z h0 wa kw .long (0 : Int32) [] (.long (0 : Int64))) (hS : ∀ z, ¬ SS z) (hdd : n0 ≤ dd) (hn1 : dd ≠ ka) (hn2 : dd ≠ wa) (hlv : ¬ (lv < (0 : Int32))) :
    MetFree l (⟨"org/tallyrole/core/Dependencies", "add", "(I)V"⟩ : MethodName) (head1 (Jvm.Cond.code (⟨"org/tallyrole/core/Dependencies", "add", "(I)V"⟩ : MethodName) prog_36_method_5_code 7 none :: ws) ({ frames := 3, cells := 2, slots := 2, locals := 47 } : Room)) (fun as_ U_ => as_ = #[(.ref dd), (.int lv)] ∧ Z.Warmed39 U_.vm ∧ U_.heap = h0) (fun _ _ _ _ _ => True) (fun _ U o U' => ∃ v L, o = .returned v ∧ Q_aE Z dd ka wa kk kw SS lv h0 n0 v U'.heap L ∧ FrameEnd U o U' L ({ frames := 3, cells := 2, slots := 2, locals := 47 } : Room).cells ({ frames := 3, cells := 2, slots := 2, locals := 47 } : Room).slots) := by
  refine MetFree.of_bodySF (plainFor_of_name pn_1) hisR ?_
  intro p e s m args below meth c s₁ Bd hml0 hP hK
  obtain ⟨rfl, hZ, hhp_⟩ := hP
  have hx := Bd.exec
  have hby := Bd.bytes
  have hml : c.maxLocals = 7 := hml0
  have hown : s.vm.findClass "org/tallyrole/core/Dependencies" = some m.cls := findClass_of_methodNamed Bd.named
  have hnm := (name_of_methodNamed Bd.named Bd.method).1
  have X0 : Stand p l e ({ frames := 3, cells := 2, slots := 2, locals := 47 } : Room) s m #[(.ref dd), (.int lv)] below meth c s₁ [] 0 0 := Stand.of_body Bd
  have e0 : s₁.heap = h0 := by rw [← hhp_, Bd.state]; rfl
  have N0 := Fr.nil n0
  have pre0 : ∀ t, Steps p.tables e below (s₁.setTop (mkF m 0 #[.val (.ref dd), .val (.int lv), .unset, .unset, .unset, .unset, .unset] [])) t → Steps p.tables e below (s₁.setTop (entryFrame m #[(.ref dd), (.int lv)] 7)) t := fun t k => castTop (ef_aE m dd lv) k
  have K0 : Keep h0 h0 [dd] := Keep.refl h0 [dd]
  have hrr : own_r [] SS := own_r_nil hS
  obtain ⟨T1, X1, e1, st1⟩ := getF X0 hx hZ hown (host := "") (Or.inl (own_w hw 12 rfl)) Via.refl e0 H1_F (g := (mkF m 10 #[.val (.ref dd), .val (.int lv), .val (.int (own_key lv)), .val (.long (own_bit lv)), .second, .unset, .unset] [(.ref dd)])) rfl rfl (hb hby d3_10)
  obtain ⟨T2, X2, e2, st2⟩ := getF X1 hx hZ hown (host := "") (Or.inl (own_w hw 23 rfl)) Via.refl e1 H3_F (g := (mkF m 15 #[.val (.ref dd), .val (.int lv), .val (.int (own_key lv)), .val (.long (own_bit lv)), .second, .unset, .unset] [(.ref dd), (.int (0 : Int32)), (.ref ka)])) rfl rfl (hb hby d3_15)
  obtain ⟨_, _, ⟨T3, L3, k3, n3⟩, -, X3, ⟨Lc3, hQ3, l3, y3, z3⟩, st3⟩ := Jvm.LawKit.callS X2 hx (y := (⟨"java/util/Arrays", "binarySearch", "([IIII)I"⟩ : MethodName)) hown (mvT hZ (own_w hw 25 rfl)) (mvT hZ (own_w hw 26 rfl)) (mvT hZ (own_w hw 27 rfl)) (mvT hZ (own_w hw 28 rfl)) (by decide) (backOf (W := 0) (rm_bs0_0 l Z a0 hw [] ka kk (own_key lv) h0 n0 Z0 H5_A) hZ (own_w hw 28 rfl) (own_w hw 27 rfl) (by decide) (by decide)) (g := (mkF m 19 #[.val (.ref dd), .val (.int lv), .val (.int (own_key lv)), .val (.long (own_bit lv)), .second, .unset, .unset] [(.int (own_key lv)), (.int (0 : Int32)), (.int (0 : Int32)), (.ref ka)])) rfl (by rw [hml]; rfl) (argsL := [(.ref ka), (.int (0 : Int32)), (.int (0 : Int32)), (.int (own_key lv))]) (rest := []) (lenOf pd_1 rfl) rfl (by show 2 * 0 + _ ≤ _; exact Nat.le_of_eq rfl) (hb hby d3_19) (fun _ _ => ⟨rfl, e2, (by decide : 0 + 0 ≤ _), (by decide : 0 + 0 ≤ _)⟩)
  dsimp only [Pt.U, Pt.locs, Pt.cells, Pt.slots] at X3 l3 y3 z3 st3 hQ3
  subst l3 y3 z3
  obtain ⟨x4, rfl, N3q, hq5, hpq6⟩ := hQ3
  have N3 := Fr.app N0 N3q
  have pre7 := fun (t : State) (k : Steps p.tables e below (T3.setTop (mkF m 22 #[.val (.ref dd), .val (.int lv), .val (.int (own_key lv)), .val (.long (own_bit lv)), .second, .unset, .unset] [(.int x4)])) t) => pre0 t (by
    refine XS.iloadN X0.here hx rfl (hb hby d3_0) rfl ?_
    refine XS.bipush X0.here hx rfl (hb hby d3_1) ?_
    refine XS.iushr X0.here hx rfl (hb hby d3_3) rfl ?_
    show Steps p.tables e below (s₁.setTop (mkF m 4 #[.val (.ref dd), .val (.int lv), .unset, .unset, .unset, .unset, .unset] [(.int (own_key lv))])) _
    refine XS.istoreN X0.here hx rfl (hb hby d3_4) rfl (l' := #[.val (.ref dd), .val (.int lv), .val (.int (own_key lv)), .unset, .unset, .unset, .unset]) rfl ?_
    refine XS.lconst X0.here hx rfl (hb hby d3_5) ?_
    refine XS.iloadN X0.here hx rfl (hb hby d3_6) rfl ?_
    refine XS.lshl X0.here hx rfl (hb hby d3_7) rfl ?_
    show Steps p.tables e below (s₁.setTop (mkF m 8 #[.val (.ref dd), .val (.int lv), .val (.int (own_key lv)), .unset, .unset, .unset, .unset] [(.long (own_bit lv))])) _
    refine XS.lstoreN X0.here hx rfl (hb hby d3_8) rfl (l' := #[.val (.ref dd), .val (.int lv), .val (.int (own_key lv)), .val (.long (own_bit lv)), .second, .unset, .unset]) rfl ?_
    refine XS.aloadN X0.here hx rfl (hb hby d3_9) rfl rfl ?_
    refine st1 _ ?_
    refine XS.iconst X1.here hx rfl (hb hby d3_13) ?_
    refine XS.aloadN X1.here hx rfl (hb hby d3_14) rfl rfl ?_
    refine st2 _ ?_
    refine XS.iloadN X2.here hx rfl (hb hby d3_18) rfl ?_
    refine st3 _ ?_
    exact k)
  rcases hpq6 with rfl
  · obtain ⟨T8, X8, e8, st8⟩ := getF X3 hx hZ hown (host := "") (Or.inl (own_w hw 23 rfl)) Via.refl hq5 H3_F (g := (mkF m 38 #[.val (.ref dd), .val (.int lv), .val (.int (own_key lv)), .val (.long (own_bit lv)), .second, .val (.int (-1 : Int32)), .val (.int (0 : Int32))] [(.ref dd), (.ref dd)])) rfl rfl (hb hby d3_38)
    obtain ⟨cq9, q9, q9'⟩ := H0_E.cell
    obtain ⟨_, _, ⟨T9, L9, k9, n9⟩, -, X9, ⟨Lc9, hQ9, l9, y9, z9⟩, st9⟩ := X8.privateBack hx (y := (⟨"org/tallyrole/core/Dependencies", "reserve", "(I)V"⟩ : MethodName)) hown (mvT hZ (own_w hw 35 rfl)) (mvT hZ (own_w hw 36 rfl)) (own_sel_priv (z := (⟨"org/tallyrole/core/Dependencies", "add", "(I)V"⟩ : MethodName)) (mvT hZ (own_w hw 21 rfl)) rfl (mvP hZ (own_w hw 37 rfl)) (mvT hZ (own_w hw 36 rfl)) (by decide)) (Cond.privateMethod_at (mvP hZ (own_w hw 37 rfl) (args := #[]))) (mvT hZ (own_w hw 38 rfl)) (by decide) (backOf (W := 0) (rm_rv0_1_0 l Z a0 hw [] dd ka wa kk kw (0 : Int32) h0 n0 Z0 H0_E H1_F H2_F H3_F H4_F H5_A H6_A hdd hn1 hn2) hZ (own_w hw 38 rfl) (own_w hw 3 rfl) (by decide) (by decide)) (g := (mkF m 43 #[.val (.ref dd), .val (.int lv), .val (.int (own_key lv)), .val (.long (own_bit lv)), .second, .val (.int (-1 : Int32)), .val (.int (0 : Int32))] [(.int (1 : Int32)), (.ref dd)])) rfl (by rw [hml]; rfl) (Steps.refl _) (a := dd) (by rw [e8]; exact q9) q9' (argsL := [(.int (1 : Int32))]) (rest := []) (lenOf pd_7 rfl) rfl (by show 2 * 0 + _ ≤ _; exact Nat.le_of_eq rfl) (hb hby d3_43) (fun _ _ => ⟨rfl, e8, (by decide : 0 + 2 ≤ _), (by decide : 0 + 2 ≤ _)⟩)
    dsimp only [Pt.U, Pt.locs, Pt.cells, Pt.slots] at X9 l9 y9 z9 st9 hQ9
    subst l9 y9 z9
    obtain ⟨x10, x11, x12, x13, rfl, N9q, hq14, hpq15, hpq16, hpq17, hpq18, hpq19, hpq20, hpq21, E22, F23, F24, F25, F26, A27, A28, E29, E30⟩ := hQ9
    have N9 := Fr.app N3 N9q
    have lt31 : dd < h0.size := H0_E.lt
    have lt32 : ka < h0.size := H5_A.lt
    have lt33 : wa < h0.size := H6_A.lt
    have A34 := H5_A.keep hq14 (ninS (Ne.symm hn1) nin0)
    have A35 := H6_A.keep hq14 (ninS (Ne.symm hn2) nin0)
    have K9 : Keep h0 T9.heap [dd] := K0.trans hq14 (allS (Or.inl (List.mem_of_getElem? (i := 0) rfl)) all0)
    have Zs36 : n0 ≤ T9.heap.size := (Nat.le_trans Z0 hq14.1)
    have ne37 : dd ≠ x10 := Nat.ne_of_lt (Nat.lt_of_lt_of_le lt31 hpq16)
    have ne38 : ka ≠ x10 := Nat.ne_of_lt (Nat.lt_of_lt_of_le lt32 hpq16)
    have ne39 : wa ≠ x10 := Nat.ne_of_lt (Nat.lt_of_lt_of_le lt33 hpq16)
    have sz40 : h0.size ≤ x10 := Nat.le_trans K0.1 hpq16
    have ne41 : dd ≠ x11 := Nat.ne_of_lt (Nat.lt_of_lt_of_le lt31 hpq18)
    have ne42 : ka ≠ x11 := Nat.ne_of_lt (Nat.lt_of_lt_of_le lt32 hpq18)
    have ne43 : wa ≠ x11 := Nat.ne_of_lt (Nat.lt_of_lt_of_le lt33 hpq18)
    have sz44 : h0.size ≤ x11 := Nat.le_trans K0.1 hpq18
    obtain ⟨T45, X45, e45, st45⟩ := getF X9 hx hZ hown (host := "") (Or.inl (own_w hw 12 rfl)) Via.refl rfl F23 (g := (mkF m 47 #[.val (.ref dd), .val (.int lv), .val (.int (own_key lv)), .val (.long (own_bit lv)), .second, .val (.int (-1 : Int32)), .val (.int (0 : Int32))] [(.ref dd)])) rfl rfl (hb hby d3_47)
    obtain ⟨T46, X46, e46, st46⟩ := getF X45 hx hZ hown (host := "") (Or.inl (own_w hw 12 rfl)) Via.refl e45 F23 (g := (mkF m 53 #[.val (.ref dd), .val (.int lv), .val (.int (own_key lv)), .val (.long (own_bit lv)), .second, .val (.int (-1 : Int32)), .val (.int (0 : Int32))] [(.ref dd), (.int (0 : Int32)), (.ref x10)])) rfl rfl (hb hby d3_53)
    obtain ⟨T47, X47, e47, st47⟩ := getF X46 hx hZ hown (host := "") (Or.inl (own_w hw 23 rfl)) Via.refl e46 F25 (g := (mkF m 61 #[.val (.ref dd), .val (.int lv), .val (.int (own_key lv)), .val (.long (own_bit lv)), .second, .val (.int (-1 : Int32)), .val (.int (0 : Int32))] [(.ref dd), (.int (1 : Int32)), (.ref x10), (.int (0 : Int32)), (.ref x10)])) rfl rfl (hb hby d3_61)
    obtain ⟨T48, h48, L48, X48, e48, N48, K48q, A48, st48⟩ := cpA X47 hx hZ hown (own_w hw 57 rfl) (own_w hw 52 rfl) (own_w hw 50 rfl) (own_w hw 51 rfl) e47 A27 A27 (Or.inl ⟨rfl, rfl⟩) (by decide) (by decide) (by decide) (by decide) (by decide) (us := []) rfl (Nat.le_of_ble_eq_true rfl) N9 hpq15 (g := (mkF m 67 #[.val (.ref dd), .val (.int lv), .val (.int (own_key lv)), .val (.long (own_bit lv)), .second, .val (.int (-1 : Int32)), .val (.int (0 : Int32))] [(.int (0 : Int32)), (.int (1 : Int32)), (.ref x10), (.int (0 : Int32)), (.ref x10)])) rfl (by rw [hml]; rfl) rfl (hb hby d3_67) (by decide) (W := 0) (by show 2 * 0 + _ ≤ _; exact Nat.le_of_eq rfl) (by decide)
    have V48 : Arv Z h48 x10 x12 .int (1 : Int32) [(.int (0 : Int32))] (.int (0 : Int32)) := A48
    have A49 := A34.keep K48q (ninS ne38 nin0)
    have A50 := A35.keep K48q (ninS ne39 nin0)
    have E51 := E22.keep K48q
    have F52 := F23.keep K48q (ninS hpq19 nin0)
    have F53 := F24.keep K48q (ninS hpq19 nin0)
    have F54 := F25.keep K48q (ninS hpq19 nin0)
    have F55 := F26.keep K48q (ninS hpq19 nin0)
    have A56 := A28.keep K48q (ninS (Ne.symm hpq21) nin0)
    have E57 := E29.keep K48q
    have E58 := E30.keep K48q
    have K48 : Keep h0 h48 [dd] := K9.trans K48q (allS (Or.inr sz40) all0)
    have Zs59 : n0 ≤ h48.size := (Nat.le_trans Zs36 K48q.1)
    obtain ⟨T60, X60, e60, st60⟩ := getF X48 hx hZ hown (host := "") (Or.inl (own_w hw 16 rfl)) Via.refl e48 F53 (g := (mkF m 71 #[.val (.ref dd), .val (.int lv), .val (.int (own_key lv)), .val (.long (own_bit lv)), .second, .val (.int (-1 : Int32)), .val (.int (0 : Int32))] [(.ref dd)])) rfl rfl (hb hby d3_71)
    obtain ⟨T61, X61, e61, st61⟩ := getF X60 hx hZ hown (host := "") (Or.inl (own_w hw 16 rfl)) Via.refl e60 F53 (g := (mkF m 77 #[.val (.ref dd), .val (.int lv), .val (.int (own_key lv)), .val (.long (own_bit lv)), .second, .val (.int (-1 : Int32)), .val (.int (0 : Int32))] [(.ref dd), (.int (0 : Int32)), (.ref x11)])) rfl rfl (hb hby d3_77)
    obtain ⟨T62, X62, e62, st62⟩ := getF X61 hx hZ hown (host := "") (Or.inl (own_w hw 23 rfl)) Via.refl e61 F54 (g := (mkF m 85 #[.val (.ref dd), .val (.int lv), .val (.int (own_key lv)), .val (.long (own_bit lv)), .second, .val (.int (-1 : Int32)), .val (.int (0 : Int32))] [(.ref dd), (.int (1 : Int32)), (.ref x11), (.int (0 : Int32)), (.ref x11)])) rfl rfl (hb hby d3_85)
    obtain ⟨T63, h63, L63, X63, e63, N63, K63q, A63, st63⟩ := cpA X62 hx hZ hown (own_w hw 57 rfl) (own_w hw 52 rfl) (own_w hw 50 rfl) (own_w hw 51 rfl) e62 A56 A56 (Or.inl ⟨rfl, rfl⟩) (by decide) (by decide) (by decide) (by decide) (by decide) (us := []) rfl (Nat.le_of_ble_eq_true rfl) N48 hpq17 (g := (mkF m 91 #[.val (.ref dd), .val (.int lv), .val (.int (own_key lv)), .val (.long (own_bit lv)), .second, .val (.int (-1 : Int32)), .val (.int (0 : Int32))] [(.int (0 : Int32)), (.int (1 : Int32)), (.ref x11), (.int (0 : Int32)), (.ref x11)])) rfl (by rw [hml]; rfl) rfl (hb hby d3_91) (by decide) (W := 0) (by show 2 * 0 + _ ≤ _; exact Nat.le_of_eq rfl) (by decide)
    have V63 : Arv Z h63 x11 x13 .long (1 : Int32) [(.long (0 : Int64))] (.long (0 : Int64)) := A63
    have A64 := A49.keep K63q (ninS ne42 nin0)
    have A65 := A50.keep K63q (ninS ne43 nin0)
    have E66 := E51.keep K63q
    have F67 := F52.keep K63q (ninS hpq20 nin0)
    have F68 := F53.keep K63q (ninS hpq20 nin0)
    have F69 := F54.keep K63q (ninS hpq20 nin0)
    have F70 := F55.keep K63q (ninS hpq20 nin0)
    have E71 := E57.keep K63q
    have E72 := E58.keep K63q
    have A73 := V48.keep K63q (ninS hpq21 nin0)
    have K63 : Keep h0 h63 [dd] := K48.trans K63q (allS (Or.inr sz44) all0)
    have Zs74 : n0 ≤ h63.size := (Nat.le_trans Zs59 K63q.1)
    obtain ⟨T75, X75, e75, st75⟩ := getF X63 hx hZ hown (host := "") (Or.inl (own_w hw 12 rfl)) Via.refl e63 F67 (g := (mkF m 95 #[.val (.ref dd), .val (.int lv), .val (.int (own_key lv)), .val (.long (own_bit lv)), .second, .val (.int (-1 : Int32)), .val (.int (0 : Int32))] [(.ref dd)])) rfl rfl (hb hby d3_95)
    have oc76 := A73
    obtain ⟨c76, Arc76, qc76, Sc76, Nc76, Hc76, Gc76⟩ := oc76
    have hin77 : ¬ ((0 : Int32) < 0 ∨ c76.slots.size ≤ ((0 : Int32)).toNatClampNeg) := (inb_of Sc76 ⟨by decide, by decide⟩)
    obtain ⟨T77, h77, X77, e77, W77, st77⟩ := stI X75 hx hZ e75 Arc76 (j := (0 : Int32)) hin77 (g := (mkF m 101 #[.val (.ref dd), .val (.int lv), .val (.int (own_key lv)), .val (.long (own_bit lv)), .second, .val (.int (-1 : Int32)), .val (.int (0 : Int32))] [(.int (own_key lv)), (.int (0 : Int32)), (.ref x10)])) rfl rfl (hb hby d3_101)
    have V77 : Arv Z h77 x10 x12 .int (1 : Int32) [(.int (own_key lv))] (.int (0 : Int32)) := Arv.set Arc76 qc76 Sc76 Nc76 Hc76 Gc76 rfl W77 0 rfl (Nat.le_of_ble_eq_true rfl)
    have A78 := A64.other W77 ne38
    have A79 := A65.other W77 ne39
    have E80 := E66.wr W77
    have F81 := F67.other W77 (Or.inl hpq19)
    have F82 := F68.other W77 (Or.inl hpq19)
    have F83 := F69.other W77 (Or.inl hpq19)
    have F84 := F70.other W77 (Or.inl hpq19)
    have E85 := E71.wr W77
    have E86 := E72.wr W77
    have A87 := V63.other W77 (Ne.symm hpq21)
    have N77 := Fr.snoc X77 N63 hpq15
    have K77 : Keep h0 h77 [dd] := K63.wr W77 (Or.inr sz40)
    have Zs88 : n0 ≤ h77.size := (Nat.le_trans Zs74 (Keep.of_wr W77).1)
    obtain ⟨T89, X89, e89, st89⟩ := getF X77 hx hZ hown (host := "") (Or.inl (own_w hw 16 rfl)) Via.refl e77 F82 (g := (mkF m 103 #[.val (.ref dd), .val (.int lv), .val (.int (own_key lv)), .val (.long (own_bit lv)), .second, .val (.int (-1 : Int32)), .val (.int (0 : Int32))] [(.ref dd)])) rfl rfl (hb hby d3_103)
    have oc90 := A87
    obtain ⟨c90, Arc90, qc90, Sc90, Nc90, Hc90, Gc90⟩ := oc90
    have hin91 : ¬ ((0 : Int32) < 0 ∨ c90.slots.size ≤ ((0 : Int32)).toNatClampNeg) := (inb_of Sc90 ⟨by decide, by decide⟩)
    obtain ⟨T91, h91, X91, e91, W91, st91⟩ := stJ X89 hx hZ e89 Arc90 (j := (0 : Int32)) hin91 (g := (mkF m 109 #[.val (.ref dd), .val (.int lv), .val (.int (own_key lv)), .val (.long (own_bit lv)), .second, .val (.int (-1 : Int32)), .val (.int (0 : Int32))] [(.long (own_bit lv)), (.int (0 : Int32)), (.ref x11)])) rfl rfl (hb hby d3_109)
    have V91 : Arv Z h91 x11 x13 .long (1 : Int32) [(.long (own_bit lv))] (.long (0 : Int64)) := Arv.set Arc90 qc90 Sc90 Nc90 Hc90 Gc90 rfl W91 0 rfl (Nat.le_of_ble_eq_true rfl)
    have A92 := A78.other W91 ne42
    have A93 := A79.other W91 ne43
    have E94 := E80.wr W91
    have F95 := F81.other W91 (Or.inl hpq20)
    have F96 := F82.other W91 (Or.inl hpq20)
    have F97 := F83.other W91 (Or.inl hpq20)
    have F98 := F84.other W91 (Or.inl hpq20)
    have E99 := E85.wr W91
    have E100 := E86.wr W91
    have A101 := V77.other W91 hpq21
    have N91 := Fr.snoc X91 N77 hpq17
    have K91 : Keep h0 h91 [dd] := K77.wr W91 (Or.inr sz44)
    have Zs102 : n0 ≤ h91.size := (Nat.le_trans Zs88 (Keep.of_wr W91).1)
    obtain ⟨T103, X103, e103, st103⟩ := getF X91 hx hZ hown (host := "") (Or.inl (own_w hw 23 rfl)) Via.refl e91 F97 (g := (mkF m 112 #[.val (.ref dd), .val (.int lv), .val (.int (own_key lv)), .val (.long (own_bit lv)), .second, .val (.int (-1 : Int32)), .val (.int (0 : Int32))] [(.ref dd), (.ref dd)])) rfl rfl (hb hby d3_112)
    obtain ⟨T104, h104, X104, e104, W104, st104⟩ := putF X103 hx hZ hown (host := "") (Or.inl (own_w hw 23 rfl)) Via.refl e103 F97 E94 (Or.inl (own_w hw 24 rfl)) (own_w hw 2 rfl) (ty := .int) (by decide) rfl rfl (g := (mkF m 117 #[.val (.ref dd), .val (.int lv), .val (.int (own_key lv)), .val (.long (own_bit lv)), .second, .val (.int (-1 : Int32)), .val (.int (0 : Int32))] [(.int (1 : Int32)), (.ref dd)])) rfl rfl (hb hby d3_117)
    have Fw104 : Fld Z h104 dd "org/tallyrole/core/Dependencies" "size" "I" (.int (1 : Int32)) := F97.same W104
    have A105 := A92.other W104 (Ne.symm hn1)
    have A106 := A93.other W104 (Ne.symm hn2)
    have E107 := E94.wr W104
    have F108 := F95.other W104 (Or.inr (slot_ne (Or.inl (own_w hw 13 rfl)) (Or.inl (own_w hw 24 rfl)) (by decide) (t := (.array .int)) (t' := .int) (by decide) (by decide)))
    have F109 := F96.other W104 (Or.inr (slot_ne (Or.inl (own_w hw 17 rfl)) (Or.inl (own_w hw 24 rfl)) (by decide) (t := (.array .long)) (t' := .int) (by decide) (by decide)))
    have F110 := F98.other W104 (Or.inr (slot_ne (Or.inl (own_w hw 40 rfl)) (Or.inl (own_w hw 24 rfl)) (by decide) (t := .boolean) (t' := .int) (by decide) (by decide)))
    have E111 := E99.wr W104
    have E112 := E100.wr W104
    have A113 := A101.other W104 (Ne.symm hpq19)
    have A114 := V91.other W104 (Ne.symm hpq20)
    have N104 := Fr.snoc X104 N91 hdd
    have K104 : Keep h0 h104 [dd] := K91.wr W104 (Or.inl (List.mem_of_getElem? (i := 0) rfl))
    have Zs115 : n0 ≤ h104.size := (Nat.le_trans Zs102 (Keep.of_wr W104).1)
    have pre116 := fun (t : State) (k : Steps p.tables e below (T104.setTop (mkF m 156 #[.val (.ref dd), .val (.int lv), .val (.int (own_key lv)), .val (.long (own_bit lv)), .second, .val (.int (-1 : Int32)), .val (.int (0 : Int32))] [])) t) => pre7 t (by
      refine XS.istore X3.here hx rfl (hb hby d3_22) rfl (l' := #[.val (.ref dd), .val (.int lv), .val (.int (own_key lv)), .val (.long (own_bit lv)), .second, .val (.int (-1 : Int32)), .unset]) rfl ?_
      refine XS.iload X3.here hx rfl (hb hby d3_24) rfl ?_
      refine XS.ifNo X3.here hx rfl (hb hby d3_26) rfl ((if0 _ _).trans (tlt (by decide : (-1 : Int32) < (0 : Int32))).2.1) ?_
      refine XS.iload X3.here hx rfl (hb hby d3_29) rfl ?_
      refine XS.ineg X3.here hx rfl (hb hby d3_31) rfl ?_
      refine XS.iconst X3.here hx rfl (hb hby d3_32) ?_
      refine XS.isub X3.here hx rfl (hb hby d3_33) rfl ?_
      refine XS.istore X3.here hx rfl (hb hby d3_34) rfl (l' := #[.val (.ref dd), .val (.int lv), .val (.int (own_key lv)), .val (.long (own_bit lv)), .second, .val (.int (-1 : Int32)), .val (.int (0 : Int32))]) rfl ?_
      refine XS.aloadN X3.here hx rfl (hb hby d3_36) rfl rfl ?_
      refine XS.aloadN X3.here hx rfl (hb hby d3_37) rfl rfl ?_
      refine st8 _ ?_
      refine XS.iconst X8.here hx rfl (hb hby d3_41) ?_
      refine XS.iadd X8.here hx rfl (hb hby d3_42) rfl ?_
      refine st9.trans ?_
      refine XS.aloadN X9.here hx rfl (hb hby d3_46) rfl rfl ?_
      refine st45 _ ?_
      refine XS.iload X45.here hx rfl (hb hby d3_50) rfl ?_
      refine XS.aloadN X45.here hx rfl (hb hby d3_52) rfl rfl ?_
      refine st46 _ ?_
      refine XS.iload X46.here hx rfl (hb hby d3_56) rfl ?_
      refine XS.iconst X46.here hx rfl (hb hby d3_58) ?_
      refine XS.iadd X46.here hx rfl (hb hby d3_59) rfl ?_
      refine XS.aloadN X46.here hx rfl (hb hby d3_60) rfl rfl ?_
      refine st47 _ ?_
      refine XS.iload X47.here hx rfl (hb hby d3_64) rfl ?_
      refine XS.isub X47.here hx rfl (hb hby d3_66) rfl ?_
      refine st48 _ ?_
      refine XS.aloadN X48.here hx rfl (hb hby d3_70) rfl rfl ?_
      refine st60 _ ?_
      refine XS.iload X60.here hx rfl (hb hby d3_74) rfl ?_
      refine XS.aloadN X60.here hx rfl (hb hby d3_76) rfl rfl ?_
      refine st61 _ ?_
      refine XS.iload X61.here hx rfl (hb hby d3_80) rfl ?_
      refine XS.iconst X61.here hx rfl (hb hby d3_82) ?_
      refine XS.iadd X61.here hx rfl (hb hby d3_83) rfl ?_
      refine XS.aloadN X61.here hx rfl (hb hby d3_84) rfl rfl ?_
      refine st62 _ ?_
      refine XS.iload X62.here hx rfl (hb hby d3_88) rfl ?_
      refine XS.isub X62.here hx rfl (hb hby d3_90) rfl ?_
      refine st63 _ ?_
      refine XS.aloadN X63.here hx rfl (hb hby d3_94) rfl rfl ?_
      refine st75 _ ?_
      refine XS.iload X75.here hx rfl (hb hby d3_98) rfl ?_
      refine XS.iloadN X75.here hx rfl (hb hby d3_100) rfl ?_
      refine st77 _ ?_
      refine XS.aloadN X77.here hx rfl (hb hby d3_102) rfl rfl ?_
      refine st89 _ ?_
      refine XS.iload X89.here hx rfl (hb hby d3_106) rfl ?_
      refine XS.lloadN X89.here hx rfl (hb hby d3_108) rfl ?_
      refine st91 _ ?_
      refine XS.aloadN X91.here hx rfl (hb hby d3_110) rfl rfl ?_
      refine XS.dup X91.here hx rfl (hb hby d3_111) rfl rfl ?_
      refine st103 _ ?_
      refine XS.iconst X103.here hx rfl (hb hby d3_115) ?_
      refine XS.iadd X103.here hx rfl (hb hby d3_116) rfl ?_
      refine st104 _ ?_
      refine XS.goto X104.here hx rfl (pc0 := 120) (pc' := 156) rfl (hb hby d3_120) (by decide) (by decide) ?_
      exact k)
    obtain ⟨fs, hr, hrun, hended, hW, hsame⟩ := X104.leave (v := none) (hlocks := BodyLoose.notSynchronized Bd) (fun _ => rfl)
    refine ⟨_, _, pre116 _ ?_, hrun, hended, _, _, rfl, ?_, ⟨_, rfl⟩, hW, hsame.mono (by decide) (by decide)⟩
    · exact X104.returnOut hx Bd.returns (hb hby d3_156) hr
    · show Q_aE Z dd ka wa kk kw SS lv h0 n0 _ T104.heap _
      rw [e104]
      exact ⟨x10, x11, x12, x13, (1 : Int32), (1 : Int32), [(.int (own_key lv))], [(.long (own_bit lv))], rfl, N104, K104, hpq15, sz40, hpq17, sz44, hpq19, hpq20, hpq21, ⟨_, _, rfl, rfl, rfl, rfl, (own_r_ins (A := []) (B := []) hrr hlv (List.forall_mem_nil _) (List.forall_mem_nil _))⟩, E107, F108, F109, Fw104, F110, A113, A114, E111, E112⟩

theorem ef_rE (m : MethodId) (x0 : Addr) (x1 : Int32) : entryFrame m #[(.ref x0), (.int x1)] 5 = mkF m 0 #[.val (.ref x0), .val (.int x1), .unset, .unset, .unset] [] := by first | (simp [entryFrame, mkF, argsToLocals, Value.category]; done) | rfl
def Q_rE (Z : State) (dd : Addr) (ka : Addr) (kk : ClassId) (lv : Int32) (h0 : Heap) (n0 : Nat) (v : Option Value) (h : Heap) (L : List Loc) : Prop := v = none ∧ Fr n0 L ∧ h = h0
set_option maxRecDepth 65536 in
set_option maxHeartbeats 40000000 in
theorem rm_rE (l : Launch) (Z : State) (a0 : Array Value) (hw : ∀ d ∈ tables_1, d.before a0 Z = true) (ws : List Jvm.Cond) (dd : Addr) (ka : Addr) (kk : ClassId) (lv : Int32) (h0 : Heap) (n0 : Nat) (Z0 : n0 ≤ h0.size) (H0_F : Fld Z h0 dd "org/tallyrole/core/Dependencies" "keys" "[I" (.ref ka)) (H1_F : Fld Z h0 dd "org/tallyrole/core/Dependencies" "size" "I" (.int (0 : Int32))) (H2_A : Arv Z h0 ka kk .int (0 : Int32) [] (.int (0 : Int32))) :
    MetFree l (⟨"org/tallyrole/core/Dependencies", "remove", "(I)V"⟩ : MethodName) (head1 (Jvm.Cond.code (⟨"org/tallyrole/core/Dependencies", "remove", "(I)V"⟩ : MethodName) prog_36_method_8_code 5 none :: ws) ({ frames := 2, cells := 0, slots := 0, locals := 34 } : Room)) (fun as_ U_ => as_ = #[(.ref dd), (.int lv)] ∧ Z.Warmed39 U_.vm ∧ U_.heap = h0) (fun _ _ _ _ _ => True) (fun _ U o U' => ∃ v L, o = .returned v ∧ Q_rE Z dd ka kk lv h0 n0 v U'.heap L ∧ FrameEnd U o U' L ({ frames := 2, cells := 0, slots := 0, locals := 34 } : Room).cells ({ frames := 2, cells := 0, slots := 0, locals := 34 } : Room).slots) := by
  refine MetFree.of_bodySF (plainFor_of_name pn_1) hisR ?_
  intro p e s m args below meth c s₁ Bd hml0 hP hK
  obtain ⟨rfl, hZ, hhp_⟩ := hP
  have hx := Bd.exec
  have hby := Bd.bytes
  have hml : c.maxLocals = 5 := hml0
  have hown : s.vm.findClass "org/tallyrole/core/Dependencies" = some m.cls := findClass_of_methodNamed Bd.named
  have hnm := (name_of_methodNamed Bd.named Bd.method).1
  have X0 : Stand p l e ({ frames := 2, cells := 0, slots := 0, locals := 34 } : Room) s m #[(.ref dd), (.int lv)] below meth c s₁ [] 0 0 := Stand.of_body Bd
  have e0 : s₁.heap = h0 := by rw [← hhp_, Bd.state]; rfl
  have N0 := Fr.nil n0
  have pre0 : ∀ t, Steps p.tables e below (s₁.setTop (mkF m 0 #[.val (.ref dd), .val (.int lv), .unset, .unset, .unset] [])) t → Steps p.tables e below (s₁.setTop (entryFrame m #[(.ref dd), (.int lv)] 5)) t := fun t k => castTop (ef_rE m dd lv) k
  obtain ⟨T1, X1, e1, st1⟩ := getF X0 hx hZ hown (host := "") (Or.inl (own_w hw 12 rfl)) Via.refl e0 H0_F (g := (mkF m 1 #[.val (.ref dd), .val (.int lv), .unset, .unset, .unset] [(.ref dd)])) rfl rfl (hb hby d17_1)
  obtain ⟨T2, X2, e2, st2⟩ := getF X1 hx hZ hown (host := "") (Or.inl (own_w hw 23 rfl)) Via.refl e1 H1_F (g := (mkF m 6 #[.val (.ref dd), .val (.int lv), .unset, .unset, .unset] [(.ref dd), (.int (0 : Int32)), (.ref ka)])) rfl rfl (hb hby d17_6)
  obtain ⟨_, _, ⟨T3, L3, k3, n3⟩, -, X3, ⟨Lc3, hQ3, l3, y3, z3⟩, st3⟩ := Jvm.LawKit.callS X2 hx (y := (⟨"java/util/Arrays", "binarySearch", "([IIII)I"⟩ : MethodName)) hown (mvT hZ (own_w hw 25 rfl)) (mvT hZ (own_w hw 26 rfl)) (mvT hZ (own_w hw 27 rfl)) (mvT hZ (own_w hw 28 rfl)) (by decide) (backOf (W := 0) (rm_bs0_0 l Z a0 hw [] ka kk (own_key lv) h0 n0 Z0 H2_A) hZ (own_w hw 28 rfl) (own_w hw 27 rfl) (by decide) (by decide)) (g := (mkF m 13 #[.val (.ref dd), .val (.int lv), .unset, .unset, .unset] [(.int (own_key lv)), (.int (0 : Int32)), (.int (0 : Int32)), (.ref ka)])) rfl (by rw [hml]; rfl) (argsL := [(.ref ka), (.int (0 : Int32)), (.int (0 : Int32)), (.int (own_key lv))]) (rest := []) (lenOf pd_1 rfl) rfl (by show 2 * 0 + _ ≤ _; exact Nat.le_of_eq rfl) (hb hby d17_13) (fun _ _ => ⟨rfl, e2, (by decide : 0 + 0 ≤ _), (by decide : 0 + 0 ≤ _)⟩)
  dsimp only [Pt.U, Pt.locs, Pt.cells, Pt.slots] at X3 l3 y3 z3 st3 hQ3
  subst l3 y3 z3
  obtain ⟨x4, rfl, N3q, hq5, hpq6⟩ := hQ3
  have N3 := Fr.app N0 N3q
  have pre7 := fun (t : State) (k : Steps p.tables e below (T3.setTop (mkF m 16 #[.val (.ref dd), .val (.int lv), .unset, .unset, .unset] [(.int x4)])) t) => pre0 t (by
    refine XS.aloadN X0.here hx rfl (hb hby d17_0) rfl rfl ?_
    refine st1 _ ?_
    refine XS.iconst X1.here hx rfl (hb hby d17_4) ?_
    refine XS.aloadN X1.here hx rfl (hb hby d17_5) rfl rfl ?_
    refine st2 _ ?_
    refine XS.iloadN X2.here hx rfl (hb hby d17_9) rfl ?_
    refine XS.bipush X2.here hx rfl (hb hby d17_10) ?_
    refine XS.iushr X2.here hx rfl (hb hby d17_12) rfl ?_
    show Steps p.tables e below (T2.setTop (mkF m 13 #[.val (.ref dd), .val (.int lv), .unset, .unset, .unset] [(.int (own_key lv)), (.int (0 : Int32)), (.int (0 : Int32)), (.ref ka)])) _
    refine st3 _ ?_
    exact k)
  rcases hpq6 with rfl
  · have pre8 := fun (t : State) (k : Steps p.tables e below (T3.setTop (mkF m 127 #[.val (.ref dd), .val (.int lv), .val (.int (-1 : Int32)), .val (.long (own_bit lv)), .second] [])) t) => pre7 t (by
      refine XS.istoreN X3.here hx rfl (hb hby d17_16) rfl (l' := #[.val (.ref dd), .val (.int lv), .val (.int (-1 : Int32)), .unset, .unset]) rfl ?_
      refine XS.lconst X3.here hx rfl (hb hby d17_17) ?_
      refine XS.iloadN X3.here hx rfl (hb hby d17_18) rfl ?_
      refine XS.lshl X3.here hx rfl (hb hby d17_19) rfl ?_
      show Steps p.tables e below (T3.setTop (mkF m 20 #[.val (.ref dd), .val (.int lv), .val (.int (-1 : Int32)), .unset, .unset] [(.long (own_bit lv))])) _
      refine XS.lstoreN X3.here hx rfl (hb hby d17_20) rfl (l' := #[.val (.ref dd), .val (.int lv), .val (.int (-1 : Int32)), .val (.long (own_bit lv)), .second]) rfl ?_
      refine XS.iloadN X3.here hx rfl (hb hby d17_21) rfl ?_
      refine XS.ifYes X3.here hx rfl (pc0 := 22) (pc' := 127) rfl (hb hby d17_22) rfl ((if0 _ _).trans (tlt (by decide : (-1 : Int32) < (0 : Int32))).1) (by decide) (by decide) ?_
      exact k)
    obtain ⟨fs, hr, hrun, hended, hW, hsame⟩ := X3.leave (v := none) (hlocks := BodyLoose.notSynchronized Bd) (fun _ => rfl)
    refine ⟨_, _, pre8 _ ?_, hrun, hended, _, _, rfl, ?_, ⟨_, rfl⟩, hW, hsame.mono (by decide) (by decide)⟩
    · exact X3.returnOut hx Bd.returns (hb hby d17_127) hr
    · show Q_rE Z dd ka kk lv h0 n0 _ T3.heap _
      rw [hq5]
      exact ⟨rfl, N3, rfl⟩

theorem ef_ad (m : MethodId) (x0 : Addr) (x1 : Int32) : entryFrame m #[(.ref x0), (.int x1)] 7 = mkF m 0 #[.val (.ref x0), .val (.int x1), .unset, .unset, .unset, .unset, .unset] [] := by first | (simp [entryFrame, mkF, argsToLocals, Value.category]; done) | rfl
def Q_ad (Z : State) (dd : Addr) (ka : Addr) (wa : Addr) (kk : ClassId) (kw : ClassId) (cap : Int32) (sz : Int32) (kv : List Value) (wv : List Value) (SS : Int32 → Prop) (lv : Int32) (h0 : Heap) (n0 : Nat) (v : Option Value) (h : Heap) (L : List Loc) : Prop := ∃ xk : Addr, ∃ xw : Addr, ∃ kxk : ClassId, ∃ kxw : ClassId, ∃ cap' : Int32, ∃ sz' : Int32, ∃ kv' : List Value, ∃ wv' : List Value, v = none ∧ Fr n0 L ∧ Keep h0 h [dd, ka, wa] ∧ n0 ≤ xk ∧ n0 ≤ xw ∧ (xk = ka ∨ h0.size ≤ xk) ∧ (xw = wa ∨ h0.size ≤ xw) ∧ dd ≠ xk ∧ dd ≠ xw ∧ xk ≠ xw ∧ (own_s_1_1 cap' sz' kv' wv' (own_ins SS lv) ∨ own_s_3_2 cap' sz' kv' wv' (own_ins SS lv)) ∧ Exa Z h dd "org/tallyrole/core/Dependencies" ∧ Fld Z h dd "org/tallyrole/core/Dependencies" "keys" "[I" (.ref xk) ∧ Fld Z h dd "org/tallyrole/core/Dependencies" "words" "[J" (.ref xw) ∧ Fld Z h dd "org/tallyrole/core/Dependencies" "size" "I" (.int sz') ∧ Fld Z h dd "org/tallyrole/core/Dependencies" "shared" "Z" (.int (0 : Int32)) ∧ Arv Z h xk kxk .int cap' kv' (.int (0 : Int32)) ∧ Arv Z h xw kxw .long cap' wv' (.long (0 : Int64)) ∧ Exa Z h xk "[I" ∧ Exa Z h xw "[J"
set_option maxRecDepth 65536 in
set_option maxHeartbeats 40000000 in
theorem rm_ad (l : Launch) (Z : State) (a0 : Array Value) (hw : ∀ d ∈ tables_1, d.before a0 Z = true) (ws : List Jvm.Cond) (dd : Addr) (ka : Addr) (wa : Addr) (kk : ClassId) (kw : ClassId) (cap : Int32) (sz : Int32) (kv : List Value) (wv : List Value) (SS : Int32 → Prop) (lv : Int32) (h0 : Heap) (n0 : Nat) (Z0 : n0 ≤ h0.size) (H0_E : Exa Z h0 dd "org/tallyrole/core/Dependencies") (H1_F : Fld Z h0 dd "org/tallyrole/core/Dependencies" "keys" "[I" (.ref ka)) (H2_F : Fld Z h0 dd "org/tallyrole/core/Dependencies" "words" "[J" (.ref wa)) (H3_F : Fld Z h0 dd "org/tallyrole/core/Dependencies" "size" "I" (.int sz)) (H4_F : Fld Z h0 dd "org/tallyrole/core/Dependencies" "shared" "Z" (.int (0 : Int32))) (H5_A : Arv Z h0 ka kk .int cap kv (.int (0 : Int32))) (H6_A : Arv Z h0 wa kw .long cap wv (.long (0 : Int64))) (H7_E : Exa Z h0 ka "[I") (H8_E : Exa Z h0 wa "[J") (hrep : own_s_1_1 cap sz kv wv SS) (hdd : n0 ≤ dd) (hka : n0 ≤ ka) (hwa : n0 ≤ wa) (hn1 : dd ≠ ka) (hn2 : dd ≠ wa) (hn3 : ka ≠ wa) (hlv : ¬ (lv < (0 : Int32))) :
    MetFree l (⟨"org/tallyrole/core/Dependencies", "add", "(I)V"⟩ : MethodName) (head1 (Jvm.Cond.code (⟨"org/tallyrole/core/Dependencies", "add", "(I)V"⟩ : MethodName) prog_36_method_5_code 7 none :: ws) ({ frames := 3, cells := 2, slots := 6, locals := 47 } : Room)) (fun as_ U_ => as_ = #[(.ref dd), (.int lv)] ∧ Z.Warmed39 U_.vm ∧ U_.heap = h0) (fun _ _ _ _ _ => True) (fun _ U o U' => ∃ v L, o = .returned v ∧ Q_ad Z dd ka wa kk kw cap sz kv wv SS lv h0 n0 v U'.heap L ∧ FrameEnd U o U' L ({ frames := 3, cells := 2, slots := 6, locals := 47 } : Room).cells ({ frames := 3, cells := 2, slots := 6, locals := 47 } : Room).slots) := by
  refine MetFree.of_bodySF (plainFor_of_name pn_1) hisR ?_
  intro p e s m args below meth c s₁ Bd hml0 hP hK
  obtain ⟨rfl, hZ, hhp_⟩ := hP
  have hx := Bd.exec
  have hby := Bd.bytes
  have hml : c.maxLocals = 7 := hml0
  have hown : s.vm.findClass "org/tallyrole/core/Dependencies" = some m.cls := findClass_of_methodNamed Bd.named
  have hnm := (name_of_methodNamed Bd.named Bd.method).1
  have X0 : Stand p l e ({ frames := 3, cells := 2, slots := 6, locals := 47 } : Room) s m #[(.ref dd), (.int lv)] below meth c s₁ [] 0 0 := Stand.of_body Bd
  have e0 : s₁.heap = h0 := by rw [← hhp_, Bd.state]; rfl
  have N0 := Fr.nil n0
  have pre0 : ∀ t, Steps p.tables e below (s₁.setTop (mkF m 0 #[.val (.ref dd), .val (.int lv), .unset, .unset, .unset, .unset, .unset] [])) t → Steps p.tables e below (s₁.setTop (entryFrame m #[(.ref dd), (.int lv)] 7)) t := fun t k => castTop (ef_ad m dd lv) k
  have K0 : Keep h0 h0 [dd, ka, wa] := Keep.refl h0 [dd, ka, wa]
  have hrep_ := hrep
  rcases hrep_ with ⟨k0, w0, rfl, rfl, rfl, rfl, hrr⟩
  · obtain ⟨T1, X1, e1, st1⟩ := getF X0 hx hZ hown (host := "") (Or.inl (own_w hw 12 rfl)) Via.refl e0 H1_F (g := (mkF m 10 #[.val (.ref dd), .val (.int lv), .val (.int (own_key lv)), .val (.long (own_bit lv)), .second, .unset, .unset] [(.ref dd)])) rfl rfl (hb hby d3_10)
    obtain ⟨T2, X2, e2, st2⟩ := getF X1 hx hZ hown (host := "") (Or.inl (own_w hw 23 rfl)) Via.refl e1 H3_F (g := (mkF m 15 #[.val (.ref dd), .val (.int lv), .val (.int (own_key lv)), .val (.long (own_bit lv)), .second, .unset, .unset] [(.ref dd), (.int (0 : Int32)), (.ref ka)])) rfl rfl (hb hby d3_15)
    obtain ⟨_, _, ⟨T3, L3, k3, n3⟩, -, X3, ⟨Lc3, hQ3, l3, y3, z3⟩, st3⟩ := Jvm.LawKit.callS X2 hx (y := (⟨"java/util/Arrays", "binarySearch", "([IIII)I"⟩ : MethodName)) hown (mvT hZ (own_w hw 25 rfl)) (mvT hZ (own_w hw 26 rfl)) (mvT hZ (own_w hw 27 rfl)) (mvT hZ (own_w hw 28 rfl)) (by decide) (backOf (W := 0) (rm_bs1_1 l Z a0 hw [] ka kk k0 (own_key lv) h0 n0 Z0 H5_A) hZ (own_w hw 28 rfl) (own_w hw 27 rfl) (by decide) (by decide)) (g := (mkF m 19 #[.val (.ref dd), .val (.int lv), .val (.int (own_key lv)), .val (.long (own_bit lv)), .second, .unset, .unset] [(.int (own_key lv)), (.int (1 : Int32)), (.int (0 : Int32)), (.ref ka)])) rfl (by rw [hml]; rfl) (argsL := [(.ref ka), (.int (0 : Int32)), (.int (1 : Int32)), (.int (own_key lv))]) (rest := []) (lenOf pd_1 rfl) rfl (by show 2 * 0 + _ ≤ _; exact Nat.le_of_eq rfl) (hb hby d3_19) (fun _ _ => ⟨rfl, e2, (by decide : 0 + 0 ≤ _), (by decide : 0 + 0 ≤ _)⟩)
    dsimp only [Pt.U, Pt.locs, Pt.cells, Pt.slots] at X3 l3 y3 z3 st3 hQ3
    subst l3 y3 z3
    obtain ⟨x4, rfl, N3q, hq5, hpq6⟩ := hQ3
    have N3 := Fr.app N0 N3q
    have pre12 := fun (t : State) (k : Steps p.tables e below (T3.setTop (mkF m 22 #[.val (.ref dd), .val (.int lv), .val (.int (own_key lv)), .val (.long (own_bit lv)), .second, .unset, .unset] [(.int x4)])) t) => pre0 t (by
      refine XS.iloadN X0.here hx rfl (hb hby d3_0) rfl ?_
      refine XS.bipush X0.here hx rfl (hb hby d3_1) ?_
      refine XS.iushr X0.here hx rfl (hb hby d3_3) rfl ?_
      show Steps p.tables e below (s₁.setTop (mkF m 4 #[.val (.ref dd), .val (.int lv), .unset, .unset, .unset, .unset, .unset] [(.int (own_key lv))])) _
      refine XS.istoreN X0.here hx rfl (hb hby d3_4) rfl (l' := #[.val (.ref dd), .val (.int lv), .val (.int (own_key lv)), .unset, .unset, .unset, .unset]) rfl ?_
      refine XS.lconst X0.here hx rfl (hb hby d3_5) ?_
      refine XS.iloadN X0.here hx rfl (hb hby d3_6) rfl ?_
      refine XS.lshl X0.here hx rfl (hb hby d3_7) rfl ?_
      show Steps p.tables e below (s₁.setTop (mkF m 8 #[.val (.ref dd), .val (.int lv), .val (.int (own_key lv)), .unset, .unset, .unset, .unset] [(.long (own_bit lv))])) _
      refine XS.lstoreN X0.here hx rfl (hb hby d3_8) rfl (l' := #[.val (.ref dd), .val (.int lv), .val (.int (own_key lv)), .val (.long (own_bit lv)), .second, .unset, .unset]) rfl ?_
      refine XS.aloadN X0.here hx rfl (hb hby d3_9) rfl rfl ?_
      refine st1 _ ?_
      refine XS.iconst X1.here hx rfl (hb hby d3_13) ?_
      refine XS.aloadN X1.here hx rfl (hb hby d3_14) rfl rfl ?_
      refine st2 _ ?_
      refine XS.iloadN X2.here hx rfl (hb hby d3_18) rfl ?_
      refine st3 _ ?_
      exact k)
    rcases hpq6 with ⟨rfl, hb7⟩ | ⟨rfl, hb8, hb9⟩ | ⟨rfl, hb10, hb11⟩
    · obtain ⟨T13, X13, e13, st13⟩ := getF X3 hx hZ hown (host := "") (Or.inl (own_w hw 23 rfl)) Via.refl hq5 H3_F (g := (mkF m 38 #[.val (.ref dd), .val (.int lv), .val (.int (own_key lv)), .val (.long (own_bit lv)), .second, .val (.int (-2 : Int32)), .val (.int (1 : Int32))] [(.ref dd), (.ref dd)])) rfl rfl (hb hby d3_38)
      obtain ⟨cq14, q14, q14'⟩ := H0_E.cell
      obtain ⟨_, _, ⟨T14, L14, k14, n14⟩, -, X14, ⟨Lc14, hQ14, l14, y14, z14⟩, st14⟩ := X13.privateBack hx (y := (⟨"org/tallyrole/core/Dependencies", "reserve", "(I)V"⟩ : MethodName)) hown (mvT hZ (own_w hw 35 rfl)) (mvT hZ (own_w hw 36 rfl)) (own_sel_priv (z := (⟨"org/tallyrole/core/Dependencies", "add", "(I)V"⟩ : MethodName)) (mvT hZ (own_w hw 21 rfl)) rfl (mvP hZ (own_w hw 37 rfl)) (mvT hZ (own_w hw 36 rfl)) (by decide)) (Cond.privateMethod_at (mvP hZ (own_w hw 37 rfl) (args := #[]))) (mvT hZ (own_w hw 38 rfl)) (by decide) (backOf (W := 0) (rm_rv1_2_0 l Z a0 hw [] dd ka wa kk kw (1 : Int32) k0 w0 h0 n0 Z0 H0_E H1_F H2_F H3_F H4_F H5_A H6_A hdd hn1 hn2) hZ (own_w hw 38 rfl) (own_w hw 3 rfl) (by decide) (by decide)) (g := (mkF m 43 #[.val (.ref dd), .val (.int lv), .val (.int (own_key lv)), .val (.long (own_bit lv)), .second, .val (.int (-2 : Int32)), .val (.int (1 : Int32))] [(.int (2 : Int32)), (.ref dd)])) rfl (by rw [hml]; rfl) (Steps.refl _) (a := dd) (by rw [e13]; exact q14) q14' (argsL := [(.int (2 : Int32))]) (rest := []) (lenOf pd_7 rfl) rfl (by show 2 * 0 + _ ≤ _; exact Nat.le_of_eq rfl) (hb hby d3_43) (fun _ _ => ⟨rfl, e13, (by decide : 0 + 2 ≤ _), (by decide : 0 + 6 ≤ _)⟩)
      dsimp only [Pt.U, Pt.locs, Pt.cells, Pt.slots] at X14 l14 y14 z14 st14 hQ14
      subst l14 y14 z14
      obtain ⟨x15, x16, x17, x18, rfl, N14q, hq19, hpq20, hpq21, hpq22, hpq23, hpq24, hpq25, hpq26, E27, F28, F29, F30, F31, A32, A33, E34, E35⟩ := hQ14
      have N14 := Fr.app N3 N14q
      have lt36 : dd < h0.size := H0_E.lt
      have lt37 : ka < h0.size := H5_A.lt
      have lt38 : wa < h0.size := H6_A.lt
      have A39 := H5_A.keep hq19 (ninS (Ne.symm hn1) nin0)
      have A40 := H6_A.keep hq19 (ninS (Ne.symm hn2) nin0)
      have E41 := H7_E.keep hq19
      have E42 := H8_E.keep hq19
      have K14 : Keep h0 T14.heap [dd, ka, wa] := K0.trans hq19 (allS (Or.inl (List.mem_of_getElem? (i := 0) rfl)) all0)
      have Zs43 : n0 ≤ T14.heap.size := (Nat.le_trans Z0 hq19.1)
      have ne44 : dd ≠ x15 := Nat.ne_of_lt (Nat.lt_of_lt_of_le lt36 hpq21)
      have ne45 : ka ≠ x15 := Nat.ne_of_lt (Nat.lt_of_lt_of_le lt37 hpq21)
      have ne46 : wa ≠ x15 := Nat.ne_of_lt (Nat.lt_of_lt_of_le lt38 hpq21)
      have sz47 : h0.size ≤ x15 := Nat.le_trans K0.1 hpq21
      have ne48 : dd ≠ x16 := Nat.ne_of_lt (Nat.lt_of_lt_of_le lt36 hpq23)
      have ne49 : ka ≠ x16 := Nat.ne_of_lt (Nat.lt_of_lt_of_le lt37 hpq23)
      have ne50 : wa ≠ x16 := Nat.ne_of_lt (Nat.lt_of_lt_of_le lt38 hpq23)
      have sz51 : h0.size ≤ x16 := Nat.le_trans K0.1 hpq23
      obtain ⟨T52, X52, e52, st52⟩ := getF X14 hx hZ hown (host := "") (Or.inl (own_w hw 12 rfl)) Via.refl rfl F28 (g := (mkF m 47 #[.val (.ref dd), .val (.int lv), .val (.int (own_key lv)), .val (.long (own_bit lv)), .second, .val (.int (-2 : Int32)), .val (.int (1 : Int32))] [(.ref dd)])) rfl rfl (hb hby d3_47)
      obtain ⟨T53, X53, e53, st53⟩ := getF X52 hx hZ hown (host := "") (Or.inl (own_w hw 12 rfl)) Via.refl e52 F28 (g := (mkF m 53 #[.val (.ref dd), .val (.int lv), .val (.int (own_key lv)), .val (.long (own_bit lv)), .second, .val (.int (-2 : Int32)), .val (.int (1 : Int32))] [(.ref dd), (.int (1 : Int32)), (.ref x15)])) rfl rfl (hb hby d3_53)
      obtain ⟨T54, X54, e54, st54⟩ := getF X53 hx hZ hown (host := "") (Or.inl (own_w hw 23 rfl)) Via.refl e53 F30 (g := (mkF m 61 #[.val (.ref dd), .val (.int lv), .val (.int (own_key lv)), .val (.long (own_bit lv)), .second, .val (.int (-2 : Int32)), .val (.int (1 : Int32))] [(.ref dd), (.int (2 : Int32)), (.ref x15), (.int (1 : Int32)), (.ref x15)])) rfl rfl (hb hby d3_61)
      obtain ⟨T55, h55, L55, X55, e55, N55, K55q, A55, st55⟩ := cpA X54 hx hZ hown (own_w hw 57 rfl) (own_w hw 52 rfl) (own_w hw 50 rfl) (own_w hw 51 rfl) e54 A32 A32 (Or.inl ⟨rfl, rfl⟩) (by decide) (by decide) (by decide) (by decide) (by decide) (us := []) rfl (Nat.le_of_ble_eq_true rfl) N14 hpq20 (g := (mkF m 67 #[.val (.ref dd), .val (.int lv), .val (.int (own_key lv)), .val (.long (own_bit lv)), .second, .val (.int (-2 : Int32)), .val (.int (1 : Int32))] [(.int (0 : Int32)), (.int (2 : Int32)), (.ref x15), (.int (1 : Int32)), (.ref x15)])) rfl (by rw [hml]; rfl) rfl (hb hby d3_67) (by decide) (W := 0) (by show 2 * 0 + _ ≤ _; exact Nat.le_of_eq rfl) (by decide)
      have V55 : Arv Z h55 x15 x17 .int (3 : Int32) [(.int k0), (.int (0 : Int32)), (.int (0 : Int32))] (.int (0 : Int32)) := A55
      have A56 := A39.keep K55q (ninS ne45 nin0)
      have A57 := A40.keep K55q (ninS ne46 nin0)
      have E58 := E41.keep K55q
      have E59 := E42.keep K55q
      have E60 := E27.keep K55q
      have F61 := F28.keep K55q (ninS hpq24 nin0)
      have F62 := F29.keep K55q (ninS hpq24 nin0)
      have F63 := F30.keep K55q (ninS hpq24 nin0)
      have F64 := F31.keep K55q (ninS hpq24 nin0)
      have A65 := A33.keep K55q (ninS (Ne.symm hpq26) nin0)
      have E66 := E34.keep K55q
      have E67 := E35.keep K55q
      have K55 : Keep h0 h55 [dd, ka, wa] := K14.trans K55q (allS (Or.inr sz47) all0)
      have Zs68 : n0 ≤ h55.size := (Nat.le_trans Zs43 K55q.1)
      obtain ⟨T69, X69, e69, st69⟩ := getF X55 hx hZ hown (host := "") (Or.inl (own_w hw 16 rfl)) Via.refl e55 F62 (g := (mkF m 71 #[.val (.ref dd), .val (.int lv), .val (.int (own_key lv)), .val (.long (own_bit lv)), .second, .val (.int (-2 : Int32)), .val (.int (1 : Int32))] [(.ref dd)])) rfl rfl (hb hby d3_71)
      obtain ⟨T70, X70, e70, st70⟩ := getF X69 hx hZ hown (host := "") (Or.inl (own_w hw 16 rfl)) Via.refl e69 F62 (g := (mkF m 77 #[.val (.ref dd), .val (.int lv), .val (.int (own_key lv)), .val (.long (own_bit lv)), .second, .val (.int (-2 : Int32)), .val (.int (1 : Int32))] [(.ref dd), (.int (1 : Int32)), (.ref x16)])) rfl rfl (hb hby d3_77)
      obtain ⟨T71, X71, e71, st71⟩ := getF X70 hx hZ hown (host := "") (Or.inl (own_w hw 23 rfl)) Via.refl e70 F63 (g := (mkF m 85 #[.val (.ref dd), .val (.int lv), .val (.int (own_key lv)), .val (.long (own_bit lv)), .second, .val (.int (-2 : Int32)), .val (.int (1 : Int32))] [(.ref dd), (.int (2 : Int32)), (.ref x16), (.int (1 : Int32)), (.ref x16)])) rfl rfl (hb hby d3_85)
      obtain ⟨T72, h72, L72, X72, e72, N72, K72q, A72, st72⟩ := cpA X71 hx hZ hown (own_w hw 57 rfl) (own_w hw 52 rfl) (own_w hw 50 rfl) (own_w hw 51 rfl) e71 A65 A65 (Or.inl ⟨rfl, rfl⟩) (by decide) (by decide) (by decide) (by decide) (by decide) (us := []) rfl (Nat.le_of_ble_eq_true rfl) N55 hpq22 (g := (mkF m 91 #[.val (.ref dd), .val (.int lv), .val (.int (own_key lv)), .val (.long (own_bit lv)), .second, .val (.int (-2 : Int32)), .val (.int (1 : Int32))] [(.int (0 : Int32)), (.int (2 : Int32)), (.ref x16), (.int (1 : Int32)), (.ref x16)])) rfl (by rw [hml]; rfl) rfl (hb hby d3_91) (by decide) (W := 0) (by show 2 * 0 + _ ≤ _; exact Nat.le_of_eq rfl) (by decide)
      have V72 : Arv Z h72 x16 x18 .long (3 : Int32) [(.long w0), (.long (0 : Int64)), (.long (0 : Int64))] (.long (0 : Int64)) := A72
      have A73 := A56.keep K72q (ninS ne49 nin0)
      have A74 := A57.keep K72q (ninS ne50 nin0)
      have E75 := E58.keep K72q
      have E76 := E59.keep K72q
      have E77 := E60.keep K72q
      have F78 := F61.keep K72q (ninS hpq25 nin0)
      have F79 := F62.keep K72q (ninS hpq25 nin0)
      have F80 := F63.keep K72q (ninS hpq25 nin0)
      have F81 := F64.keep K72q (ninS hpq25 nin0)
      have E82 := E66.keep K72q
      have E83 := E67.keep K72q
      have A84 := V55.keep K72q (ninS hpq26 nin0)
      have K72 : Keep h0 h72 [dd, ka, wa] := K55.trans K72q (allS (Or.inr sz51) all0)
      have Zs85 : n0 ≤ h72.size := (Nat.le_trans Zs68 K72q.1)
      obtain ⟨T86, X86, e86, st86⟩ := getF X72 hx hZ hown (host := "") (Or.inl (own_w hw 12 rfl)) Via.refl e72 F78 (g := (mkF m 95 #[.val (.ref dd), .val (.int lv), .val (.int (own_key lv)), .val (.long (own_bit lv)), .second, .val (.int (-2 : Int32)), .val (.int (1 : Int32))] [(.ref dd)])) rfl rfl (hb hby d3_95)
      have oc87 := A84
      obtain ⟨c87, Arc87, qc87, Sc87, Nc87, Hc87, Gc87⟩ := oc87
      have hin88 : ¬ ((1 : Int32) < 0 ∨ c87.slots.size ≤ ((1 : Int32)).toNatClampNeg) := (inb_of Sc87 ⟨by decide, by decide⟩)
      obtain ⟨T88, h88, X88, e88, W88, st88⟩ := stI X86 hx hZ e86 Arc87 (j := (1 : Int32)) hin88 (g := (mkF m 101 #[.val (.ref dd), .val (.int lv), .val (.int (own_key lv)), .val (.long (own_bit lv)), .second, .val (.int (-2 : Int32)), .val (.int (1 : Int32))] [(.int (own_key lv)), (.int (1 : Int32)), (.ref x15)])) rfl rfl (hb hby d3_101)
      have V88 : Arv Z h88 x15 x17 .int (3 : Int32) [(.int k0), (.int (own_key lv)), (.int (0 : Int32))] (.int (0 : Int32)) := Arv.set Arc87 qc87 Sc87 Nc87 Hc87 Gc87 rfl W88 1 rfl (Nat.le_of_ble_eq_true rfl)
      have A89 := A73.other W88 ne45
      have A90 := A74.other W88 ne46
      have E91 := E75.wr W88
      have E92 := E76.wr W88
      have E93 := E77.wr W88
      have F94 := F78.other W88 (Or.inl hpq24)
      have F95 := F79.other W88 (Or.inl hpq24)
      have F96 := F80.other W88 (Or.inl hpq24)
      have F97 := F81.other W88 (Or.inl hpq24)
      have E98 := E82.wr W88
      have E99 := E83.wr W88
      have A100 := V72.other W88 (Ne.symm hpq26)
      have N88 := Fr.snoc X88 N72 hpq20
      have K88 : Keep h0 h88 [dd, ka, wa] := K72.wr W88 (Or.inr sz47)
      have Zs101 : n0 ≤ h88.size := (Nat.le_trans Zs85 (Keep.of_wr W88).1)
      obtain ⟨T102, X102, e102, st102⟩ := getF X88 hx hZ hown (host := "") (Or.inl (own_w hw 16 rfl)) Via.refl e88 F95 (g := (mkF m 103 #[.val (.ref dd), .val (.int lv), .val (.int (own_key lv)), .val (.long (own_bit lv)), .second, .val (.int (-2 : Int32)), .val (.int (1 : Int32))] [(.ref dd)])) rfl rfl (hb hby d3_103)
      have oc103 := A100
      obtain ⟨c103, Arc103, qc103, Sc103, Nc103, Hc103, Gc103⟩ := oc103
      have hin104 : ¬ ((1 : Int32) < 0 ∨ c103.slots.size ≤ ((1 : Int32)).toNatClampNeg) := (inb_of Sc103 ⟨by decide, by decide⟩)
      obtain ⟨T104, h104, X104, e104, W104, st104⟩ := stJ X102 hx hZ e102 Arc103 (j := (1 : Int32)) hin104 (g := (mkF m 109 #[.val (.ref dd), .val (.int lv), .val (.int (own_key lv)), .val (.long (own_bit lv)), .second, .val (.int (-2 : Int32)), .val (.int (1 : Int32))] [(.long (own_bit lv)), (.int (1 : Int32)), (.ref x16)])) rfl rfl (hb hby d3_109)
      have V104 : Arv Z h104 x16 x18 .long (3 : Int32) [(.long w0), (.long (own_bit lv)), (.long (0 : Int64))] (.long (0 : Int64)) := Arv.set Arc103 qc103 Sc103 Nc103 Hc103 Gc103 rfl W104 1 rfl (Nat.le_of_ble_eq_true rfl)
      have A105 := A89.other W104 ne49
      have A106 := A90.other W104 ne50
      have E107 := E91.wr W104
      have E108 := E92.wr W104
      have E109 := E93.wr W104
      have F110 := F94.other W104 (Or.inl hpq25)
      have F111 := F95.other W104 (Or.inl hpq25)
      have F112 := F96.other W104 (Or.inl hpq25)
      have F113 := F97.other W104 (Or.inl hpq25)
      have E114 := E98.wr W104
      have E115 := E99.wr W104
      have A116 := V88.other W104 hpq26
      have N104 := Fr.snoc X104 N88 hpq22
      have K104 : Keep h0 h104 [dd, ka, wa] := K88.wr W104 (Or.inr sz51)
      have Zs117 : n0 ≤ h104.size := (Nat.le_trans Zs101 (Keep.of_wr W104).1)
      obtain ⟨T118, X118, e118, st118⟩ := getF X104 hx hZ hown (host := "") (Or.inl (own_w hw 23 rfl)) Via.refl e104 F112 (g := (mkF m 112 #[.val (.ref dd), .val (.int lv), .val (.int (own_key lv)), .val (.long (own_bit lv)), .second, .val (.int (-2 : Int32)), .val (.int (1 : Int32))] [(.ref dd), (.ref dd)])) rfl rfl (hb hby d3_112)
      obtain ⟨T119, h119, X119, e119, W119, st119⟩ := putF X118 hx hZ hown (host := "") (Or.inl (own_w hw 23 rfl)) Via.refl e118 F112 E109 (Or.inl (own_w hw 24 rfl)) (own_w hw 2 rfl) (ty := .int) (by decide) rfl rfl (g := (mkF m 117 #[.val (.ref dd), .val (.int lv), .val (.int (own_key lv)), .val (.long (own_bit lv)), .second, .val (.int (-2 : Int32)), .val (.int (1 : Int32))] [(.int (2 : Int32)), (.ref dd)])) rfl rfl (hb hby d3_117)
      have Fw119 : Fld Z h119 dd "org/tallyrole/core/Dependencies" "size" "I" (.int (2 : Int32)) := F112.same W119
      have A120 := A105.other W119 (Ne.symm hn1)
      have A121 := A106.other W119 (Ne.symm hn2)
      have E122 := E107.wr W119
      have E123 := E108.wr W119
      have E124 := E109.wr W119
      have F125 := F110.other W119 (Or.inr (slot_ne (Or.inl (own_w hw 13 rfl)) (Or.inl (own_w hw 24 rfl)) (by decide) (t := (.array .int)) (t' := .int) (by decide) (by decide)))
      have F126 := F111.other W119 (Or.inr (slot_ne (Or.inl (own_w hw 17 rfl)) (Or.inl (own_w hw 24 rfl)) (by decide) (t := (.array .long)) (t' := .int) (by decide) (by decide)))
      have F127 := F113.other W119 (Or.inr (slot_ne (Or.inl (own_w hw 40 rfl)) (Or.inl (own_w hw 24 rfl)) (by decide) (t := .boolean) (t' := .int) (by decide) (by decide)))
      have E128 := E114.wr W119
      have E129 := E115.wr W119
      have A130 := A116.other W119 (Ne.symm hpq24)
      have A131 := V104.other W119 (Ne.symm hpq25)
      have N119 := Fr.snoc X119 N104 hdd
      have K119 : Keep h0 h119 [dd, ka, wa] := K104.wr W119 (Or.inl (List.mem_of_getElem? (i := 0) rfl))
      have Zs132 : n0 ≤ h119.size := (Nat.le_trans Zs117 (Keep.of_wr W119).1)
      have pre133 := fun (t : State) (k : Steps p.tables e below (T119.setTop (mkF m 156 #[.val (.ref dd), .val (.int lv), .val (.int (own_key lv)), .val (.long (own_bit lv)), .second, .val (.int (-2 : Int32)), .val (.int (1 : Int32))] [])) t) => pre12 t (by
        refine XS.istore X3.here hx rfl (hb hby d3_22) rfl (l' := #[.val (.ref dd), .val (.int lv), .val (.int (own_key lv)), .val (.long (own_bit lv)), .second, .val (.int (-2 : Int32)), .unset]) rfl ?_
        refine XS.iload X3.here hx rfl (hb hby d3_24) rfl ?_
        refine XS.ifNo X3.here hx rfl (hb hby d3_26) rfl ((if0 _ _).trans (tlt (by decide : (-2 : Int32) < (0 : Int32))).2.1) ?_
        refine XS.iload X3.here hx rfl (hb hby d3_29) rfl ?_
        refine XS.ineg X3.here hx rfl (hb hby d3_31) rfl ?_
        refine XS.iconst X3.here hx rfl (hb hby d3_32) ?_
        refine XS.isub X3.here hx rfl (hb hby d3_33) rfl ?_
        refine XS.istore X3.here hx rfl (hb hby d3_34) rfl (l' := #[.val (.ref dd), .val (.int lv), .val (.int (own_key lv)), .val (.long (own_bit lv)), .second, .val (.int (-2 : Int32)), .val (.int (1 : Int32))]) rfl ?_
        refine XS.aloadN X3.here hx rfl (hb hby d3_36) rfl rfl ?_
        refine XS.aloadN X3.here hx rfl (hb hby d3_37) rfl rfl ?_
        refine st13 _ ?_
        refine XS.iconst X13.here hx rfl (hb hby d3_41) ?_
        refine XS.iadd X13.here hx rfl (hb hby d3_42) rfl ?_
        refine st14.trans ?_
        refine XS.aloadN X14.here hx rfl (hb hby d3_46) rfl rfl ?_
        refine st52 _ ?_
        refine XS.iload X52.here hx rfl (hb hby d3_50) rfl ?_
        refine XS.aloadN X52.here hx rfl (hb hby d3_52) rfl rfl ?_
        refine st53 _ ?_
        refine XS.iload X53.here hx rfl (hb hby d3_56) rfl ?_
        refine XS.iconst X53.here hx rfl (hb hby d3_58) ?_
        refine XS.iadd X53.here hx rfl (hb hby d3_59) rfl ?_
        refine XS.aloadN X53.here hx rfl (hb hby d3_60) rfl rfl ?_
        refine st54 _ ?_
        refine XS.iload X54.here hx rfl (hb hby d3_64) rfl ?_
        refine XS.isub X54.here hx rfl (hb hby d3_66) rfl ?_
        refine st55 _ ?_
        refine XS.aloadN X55.here hx rfl (hb hby d3_70) rfl rfl ?_
        refine st69 _ ?_
        refine XS.iload X69.here hx rfl (hb hby d3_74) rfl ?_
        refine XS.aloadN X69.here hx rfl (hb hby d3_76) rfl rfl ?_
        refine st70 _ ?_
        refine XS.iload X70.here hx rfl (hb hby d3_80) rfl ?_
        refine XS.iconst X70.here hx rfl (hb hby d3_82) ?_
        refine XS.iadd X70.here hx rfl (hb hby d3_83) rfl ?_
        refine XS.aloadN X70.here hx rfl (hb hby d3_84) rfl rfl ?_
        refine st71 _ ?_
        refine XS.iload X71.here hx rfl (hb hby d3_88) rfl ?_
        refine XS.isub X71.here hx rfl (hb hby d3_90) rfl ?_
        refine st72 _ ?_
        refine XS.aloadN X72.here hx rfl (hb hby d3_94) rfl rfl ?_
        refine st86 _ ?_
        refine XS.iload X86.here hx rfl (hb hby d3_98) rfl ?_
        refine XS.iloadN X86.here hx rfl (hb hby d3_100) rfl ?_
        refine st88 _ ?_
        refine XS.aloadN X88.here hx rfl (hb hby d3_102) rfl rfl ?_
        refine st102 _ ?_
        refine XS.iload X102.here hx rfl (hb hby d3_106) rfl ?_
        refine XS.lloadN X102.here hx rfl (hb hby d3_108) rfl ?_
        refine st104 _ ?_
        refine XS.aloadN X104.here hx rfl (hb hby d3_110) rfl rfl ?_
        refine XS.dup X104.here hx rfl (hb hby d3_111) rfl rfl ?_
        refine st118 _ ?_
        refine XS.iconst X118.here hx rfl (hb hby d3_115) ?_
        refine XS.iadd X118.here hx rfl (hb hby d3_116) rfl ?_
        refine st119 _ ?_
        refine XS.goto X119.here hx rfl (pc0 := 120) (pc' := 156) rfl (hb hby d3_120) (by decide) (by decide) ?_
        exact k)
      obtain ⟨fs, hr, hrun, hended, hW, hsame⟩ := X119.leave (v := none) (hlocks := BodyLoose.notSynchronized Bd) (fun _ => rfl)
      refine ⟨_, _, pre133 _ ?_, hrun, hended, _, _, rfl, ?_, ⟨_, rfl⟩, hW, hsame.mono (by decide) (by decide)⟩
      · exact X119.returnOut hx Bd.returns (hb hby d3_156) hr
      · show Q_ad Z dd ka wa kk kw (1 : Int32) (1 : Int32) [(.int k0)] [(.long w0)] SS lv h0 n0 _ T119.heap _
        rw [e119]
        exact ⟨x15, x16, x17, x18, (3 : Int32), (2 : Int32), [(.int k0), (.int (own_key lv)), (.int (0 : Int32))], [(.long w0), (.long (own_bit lv)), (.long (0 : Int64))], rfl, N119, K119, hpq20, hpq22, (Or.inr sz47), (Or.inr sz51), hpq24, hpq25, hpq26, (Or.inr ⟨_, _, _, _, _, _, rfl, rfl, rfl, rfl, (own_r_ins (A := [(k0, w0)]) (B := []) hrr hlv (List.forall_mem_cons.mpr ⟨hb7, (List.forall_mem_nil _)⟩) (List.forall_mem_nil _))⟩), E124, F125, F126, Fw119, F127, A130, A131, E128, E129⟩
    · obtain ⟨T134, X134, e134, st134⟩ := getF X3 hx hZ hown (host := "") (Or.inl (own_w hw 23 rfl)) Via.refl hq5 H3_F (g := (mkF m 38 #[.val (.ref dd), .val (.int lv), .val (.int (own_key lv)), .val (.long (own_bit lv)), .second, .val (.int (-1 : Int32)), .val (.int (0 : Int32))] [(.ref dd), (.ref dd)])) rfl rfl (hb hby d3_38)
      obtain ⟨cq135, q135, q135'⟩ := H0_E.cell
      obtain ⟨_, _, ⟨T135, L135, k135, n135⟩, -, X135, ⟨Lc135, hQ135, l135, y135, z135⟩, st135⟩ := X134.privateBack hx (y := (⟨"org/tallyrole/core/Dependencies", "reserve", "(I)V"⟩ : MethodName)) hown (mvT hZ (own_w hw 35 rfl)) (mvT hZ (own_w hw 36 rfl)) (own_sel_priv (z := (⟨"org/tallyrole/core/Dependencies", "add", "(I)V"⟩ : MethodName)) (mvT hZ (own_w hw 21 rfl)) rfl (mvP hZ (own_w hw 37 rfl)) (mvT hZ (own_w hw 36 rfl)) (by decide)) (Cond.privateMethod_at (mvP hZ (own_w hw 37 rfl) (args := #[]))) (mvT hZ (own_w hw 38 rfl)) (by decide) (backOf (W := 0) (rm_rv1_2_0 l Z a0 hw [] dd ka wa kk kw (1 : Int32) k0 w0 h0 n0 Z0 H0_E H1_F H2_F H3_F H4_F H5_A H6_A hdd hn1 hn2) hZ (own_w hw 38 rfl) (own_w hw 3 rfl) (by decide) (by decide)) (g := (mkF m 43 #[.val (.ref dd), .val (.int lv), .val (.int (own_key lv)), .val (.long (own_bit lv)), .second, .val (.int (-1 : Int32)), .val (.int (0 : Int32))] [(.int (2 : Int32)), (.ref dd)])) rfl (by rw [hml]; rfl) (Steps.refl _) (a := dd) (by rw [e134]; exact q135) q135' (argsL := [(.int (2 : Int32))]) (rest := []) (lenOf pd_7 rfl) rfl (by show 2 * 0 + _ ≤ _; exact Nat.le_of_eq rfl) (hb hby d3_43) (fun _ _ => ⟨rfl, e134, (by decide : 0 + 2 ≤ _), (by decide : 0 + 6 ≤ _)⟩)
      dsimp only [Pt.U, Pt.locs, Pt.cells, Pt.slots] at X135 l135 y135 z135 st135 hQ135
      subst l135 y135 z135
      obtain ⟨x136, x137, x138, x139, rfl, N135q, hq140, hpq141, hpq142, hpq143, hpq144, hpq145, hpq146, hpq147, E148, F149, F150, F151, F152, A153, A154, E155, E156⟩ := hQ135
      have N135 := Fr.app N3 N135q
      have lt157 : dd < h0.size := H0_E.lt
      have lt158 : ka < h0.size := H5_A.lt
      have lt159 : wa < h0.size := H6_A.lt
      have A160 := H5_A.keep hq140 (ninS (Ne.symm hn1) nin0)
      have A161 := H6_A.keep hq140 (ninS (Ne.symm hn2) nin0)
      have E162 := H7_E.keep hq140
      have E163 := H8_E.keep hq140
      have K135 : Keep h0 T135.heap [dd, ka, wa] := K0.trans hq140 (allS (Or.inl (List.mem_of_getElem? (i := 0) rfl)) all0)
      have Zs164 : n0 ≤ T135.heap.size := (Nat.le_trans Z0 hq140.1)
      have ne165 : dd ≠ x136 := Nat.ne_of_lt (Nat.lt_of_lt_of_le lt157 hpq142)
      have ne166 : ka ≠ x136 := Nat.ne_of_lt (Nat.lt_of_lt_of_le lt158 hpq142)
      have ne167 : wa ≠ x136 := Nat.ne_of_lt (Nat.lt_of_lt_of_le lt159 hpq142)
      have sz168 : h0.size ≤ x136 := Nat.le_trans K0.1 hpq142
      have ne169 : dd ≠ x137 := Nat.ne_of_lt (Nat.lt_of_lt_of_le lt157 hpq144)
      have ne170 : ka ≠ x137 := Nat.ne_of_lt (Nat.lt_of_lt_of_le lt158 hpq144)
      have ne171 : wa ≠ x137 := Nat.ne_of_lt (Nat.lt_of_lt_of_le lt159 hpq144)
      have sz172 : h0.size ≤ x137 := Nat.le_trans K0.1 hpq144
      obtain ⟨T173, X173, e173, st173⟩ := getF X135 hx hZ hown (host := "") (Or.inl (own_w hw 12 rfl)) Via.refl rfl F149 (g := (mkF m 47 #[.val (.ref dd), .val (.int lv), .val (.int (own_key lv)), .val (.long (own_bit lv)), .second, .val (.int (-1 : Int32)), .val (.int (0 : Int32))] [(.ref dd)])) rfl rfl (hb hby d3_47)
      obtain ⟨T174, X174, e174, st174⟩ := getF X173 hx hZ hown (host := "") (Or.inl (own_w hw 12 rfl)) Via.refl e173 F149 (g := (mkF m 53 #[.val (.ref dd), .val (.int lv), .val (.int (own_key lv)), .val (.long (own_bit lv)), .second, .val (.int (-1 : Int32)), .val (.int (0 : Int32))] [(.ref dd), (.int (0 : Int32)), (.ref x136)])) rfl rfl (hb hby d3_53)
      obtain ⟨T175, X175, e175, st175⟩ := getF X174 hx hZ hown (host := "") (Or.inl (own_w hw 23 rfl)) Via.refl e174 F151 (g := (mkF m 61 #[.val (.ref dd), .val (.int lv), .val (.int (own_key lv)), .val (.long (own_bit lv)), .second, .val (.int (-1 : Int32)), .val (.int (0 : Int32))] [(.ref dd), (.int (1 : Int32)), (.ref x136), (.int (0 : Int32)), (.ref x136)])) rfl rfl (hb hby d3_61)
      obtain ⟨T176, h176, L176, X176, e176, N176, K176q, A176, st176⟩ := cpA X175 hx hZ hown (own_w hw 57 rfl) (own_w hw 52 rfl) (own_w hw 50 rfl) (own_w hw 51 rfl) e175 A153 A153 (Or.inl ⟨rfl, rfl⟩) (by decide) (by decide) (by decide) (by decide) (by decide) (us := [(.int k0)]) rfl (Nat.le_of_ble_eq_true rfl) N135 hpq141 (g := (mkF m 67 #[.val (.ref dd), .val (.int lv), .val (.int (own_key lv)), .val (.long (own_bit lv)), .second, .val (.int (-1 : Int32)), .val (.int (0 : Int32))] [(.int (1 : Int32)), (.int (1 : Int32)), (.ref x136), (.int (0 : Int32)), (.ref x136)])) rfl (by rw [hml]; rfl) rfl (hb hby d3_67) (by decide) (W := 0) (by show 2 * 0 + _ ≤ _; exact Nat.le_of_eq rfl) (by decide)
      have V176 : Arv Z h176 x136 x138 .int (3 : Int32) [(.int k0), (.int k0), (.int (0 : Int32))] (.int (0 : Int32)) := A176
      have A177 := A160.keep K176q (ninS ne166 nin0)
      have A178 := A161.keep K176q (ninS ne167 nin0)
      have E179 := E162.keep K176q
      have E180 := E163.keep K176q
      have E181 := E148.keep K176q
      have F182 := F149.keep K176q (ninS hpq145 nin0)
      have F183 := F150.keep K176q (ninS hpq145 nin0)
      have F184 := F151.keep K176q (ninS hpq145 nin0)
      have F185 := F152.keep K176q (ninS hpq145 nin0)
      have A186 := A154.keep K176q (ninS (Ne.symm hpq147) nin0)
      have E187 := E155.keep K176q
      have E188 := E156.keep K176q
      have K176 : Keep h0 h176 [dd, ka, wa] := K135.trans K176q (allS (Or.inr sz168) all0)
      have Zs189 : n0 ≤ h176.size := (Nat.le_trans Zs164 K176q.1)
      obtain ⟨T190, X190, e190, st190⟩ := getF X176 hx hZ hown (host := "") (Or.inl (own_w hw 16 rfl)) Via.refl e176 F183 (g := (mkF m 71 #[.val (.ref dd), .val (.int lv), .val (.int (own_key lv)), .val (.long (own_bit lv)), .second, .val (.int (-1 : Int32)), .val (.int (0 : Int32))] [(.ref dd)])) rfl rfl (hb hby d3_71)
      obtain ⟨T191, X191, e191, st191⟩ := getF X190 hx hZ hown (host := "") (Or.inl (own_w hw 16 rfl)) Via.refl e190 F183 (g := (mkF m 77 #[.val (.ref dd), .val (.int lv), .val (.int (own_key lv)), .val (.long (own_bit lv)), .second, .val (.int (-1 : Int32)), .val (.int (0 : Int32))] [(.ref dd), (.int (0 : Int32)), (.ref x137)])) rfl rfl (hb hby d3_77)
      obtain ⟨T192, X192, e192, st192⟩ := getF X191 hx hZ hown (host := "") (Or.inl (own_w hw 23 rfl)) Via.refl e191 F184 (g := (mkF m 85 #[.val (.ref dd), .val (.int lv), .val (.int (own_key lv)), .val (.long (own_bit lv)), .second, .val (.int (-1 : Int32)), .val (.int (0 : Int32))] [(.ref dd), (.int (1 : Int32)), (.ref x137), (.int (0 : Int32)), (.ref x137)])) rfl rfl (hb hby d3_85)
      obtain ⟨T193, h193, L193, X193, e193, N193, K193q, A193, st193⟩ := cpA X192 hx hZ hown (own_w hw 57 rfl) (own_w hw 52 rfl) (own_w hw 50 rfl) (own_w hw 51 rfl) e192 A186 A186 (Or.inl ⟨rfl, rfl⟩) (by decide) (by decide) (by decide) (by decide) (by decide) (us := [(.long w0)]) rfl (Nat.le_of_ble_eq_true rfl) N176 hpq143 (g := (mkF m 91 #[.val (.ref dd), .val (.int lv), .val (.int (own_key lv)), .val (.long (own_bit lv)), .second, .val (.int (-1 : Int32)), .val (.int (0 : Int32))] [(.int (1 : Int32)), (.int (1 : Int32)), (.ref x137), (.int (0 : Int32)), (.ref x137)])) rfl (by rw [hml]; rfl) rfl (hb hby d3_91) (by decide) (W := 0) (by show 2 * 0 + _ ≤ _; exact Nat.le_of_eq rfl) (by decide)
      have V193 : Arv Z h193 x137 x139 .long (3 : Int32) [(.long w0), (.long w0), (.long (0 : Int64))] (.long (0 : Int64)) := A193
      have A194 := A177.keep K193q (ninS ne170 nin0)
      have A195 := A178.keep K193q (ninS ne171 nin0)
      have E196 := E179.keep K193q
      have E197 := E180.keep K193q
      have E198 := E181.keep K193q
      have F199 := F182.keep K193q (ninS hpq146 nin0)
      have F200 := F183.keep K193q (ninS hpq146 nin0)
      have F201 := F184.keep K193q (ninS hpq146 nin0)
      have F202 := F185.keep K193q (ninS hpq146 nin0)
      have E203 := E187.keep K193q
      have E204 := E188.keep K193q
      have A205 := V176.keep K193q (ninS hpq147 nin0)
      have K193 : Keep h0 h193 [dd, ka, wa] := K176.trans K193q (allS (Or.inr sz172) all0)
      have Zs206 : n0 ≤ h193.size := (Nat.le_trans Zs189 K193q.1)
      obtain ⟨T207, X207, e207, st207⟩ := getF X193 hx hZ hown (host := "") (Or.inl (own_w hw 12 rfl)) Via.refl e193 F199 (g := (mkF m 95 #[.val (.ref dd), .val (.int lv), .val (.int (own_key lv)), .val (.long (own_bit lv)), .second, .val (.int (-1 : Int32)), .val (.int (0 : Int32))] [(.ref dd)])) rfl rfl (hb hby d3_95)
      have oc208 := A205
      obtain ⟨c208, Arc208, qc208, Sc208, Nc208, Hc208, Gc208⟩ := oc208
      have hin209 : ¬ ((0 : Int32) < 0 ∨ c208.slots.size ≤ ((0 : Int32)).toNatClampNeg) := (inb_of Sc208 ⟨by decide, by decide⟩)
      obtain ⟨T209, h209, X209, e209, W209, st209⟩ := stI X207 hx hZ e207 Arc208 (j := (0 : Int32)) hin209 (g := (mkF m 101 #[.val (.ref dd), .val (.int lv), .val (.int (own_key lv)), .val (.long (own_bit lv)), .second, .val (.int (-1 : Int32)), .val (.int (0 : Int32))] [(.int (own_key lv)), (.int (0 : Int32)), (.ref x136)])) rfl rfl (hb hby d3_101)
      have V209 : Arv Z h209 x136 x138 .int (3 : Int32) [(.int (own_key lv)), (.int k0), (.int (0 : Int32))] (.int (0 : Int32)) := Arv.set Arc208 qc208 Sc208 Nc208 Hc208 Gc208 rfl W209 0 rfl (Nat.le_of_ble_eq_true rfl)
      have A210 := A194.other W209 ne166
      have A211 := A195.other W209 ne167
      have E212 := E196.wr W209
      have E213 := E197.wr W209
      have E214 := E198.wr W209
      have F215 := F199.other W209 (Or.inl hpq145)
      have F216 := F200.other W209 (Or.inl hpq145)
      have F217 := F201.other W209 (Or.inl hpq145)
      have F218 := F202.other W209 (Or.inl hpq145)
      have E219 := E203.wr W209
      have E220 := E204.wr W209
      have A221 := V193.other W209 (Ne.symm hpq147)
      have N209 := Fr.snoc X209 N193 hpq141
      have K209 : Keep h0 h209 [dd, ka, wa] := K193.wr W209 (Or.inr sz168)
      have Zs222 : n0 ≤ h209.size := (Nat.le_trans Zs206 (Keep.of_wr W209).1)
      obtain ⟨T223, X223, e223, st223⟩ := getF X209 hx hZ hown (host := "") (Or.inl (own_w hw 16 rfl)) Via.refl e209 F216 (g := (mkF m 103 #[.val (.ref dd), .val (.int lv), .val (.int (own_key lv)), .val (.long (own_bit lv)), .second, .val (.int (-1 : Int32)), .val (.int (0 : Int32))] [(.ref dd)])) rfl rfl (hb hby d3_103)
      have oc224 := A221
      obtain ⟨c224, Arc224, qc224, Sc224, Nc224, Hc224, Gc224⟩ := oc224
      have hin225 : ¬ ((0 : Int32) < 0 ∨ c224.slots.size ≤ ((0 : Int32)).toNatClampNeg) := (inb_of Sc224 ⟨by decide, by decide⟩)
      obtain ⟨T225, h225, X225, e225, W225, st225⟩ := stJ X223 hx hZ e223 Arc224 (j := (0 : Int32)) hin225 (g := (mkF m 109 #[.val (.ref dd), .val (.int lv), .val (.int (own_key lv)), .val (.long (own_bit lv)), .second, .val (.int (-1 : Int32)), .val (.int (0 : Int32))] [(.long (own_bit lv)), (.int (0 : Int32)), (.ref x137)])) rfl rfl (hb hby d3_109)
      have V225 : Arv Z h225 x137 x139 .long (3 : Int32) [(.long (own_bit lv)), (.long w0), (.long (0 : Int64))] (.long (0 : Int64)) := Arv.set Arc224 qc224 Sc224 Nc224 Hc224 Gc224 rfl W225 0 rfl (Nat.le_of_ble_eq_true rfl)
      have A226 := A210.other W225 ne170
      have A227 := A211.other W225 ne171
      have E228 := E212.wr W225
      have E229 := E213.wr W225
      have E230 := E214.wr W225
      have F231 := F215.other W225 (Or.inl hpq146)
      have F232 := F216.other W225 (Or.inl hpq146)
      have F233 := F217.other W225 (Or.inl hpq146)
      have F234 := F218.other W225 (Or.inl hpq146)
      have E235 := E219.wr W225
      have E236 := E220.wr W225
      have A237 := V209.other W225 hpq147
      have N225 := Fr.snoc X225 N209 hpq143
      have K225 : Keep h0 h225 [dd, ka, wa] := K209.wr W225 (Or.inr sz172)
      have Zs238 : n0 ≤ h225.size := (Nat.le_trans Zs222 (Keep.of_wr W225).1)
      obtain ⟨T239, X239, e239, st239⟩ := getF X225 hx hZ hown (host := "") (Or.inl (own_w hw 23 rfl)) Via.refl e225 F233 (g := (mkF m 112 #[.val (.ref dd), .val (.int lv), .val (.int (own_key lv)), .val (.long (own_bit lv)), .second, .val (.int (-1 : Int32)), .val (.int (0 : Int32))] [(.ref dd), (.ref dd)])) rfl rfl (hb hby d3_112)
      obtain ⟨T240, h240, X240, e240, W240, st240⟩ := putF X239 hx hZ hown (host := "") (Or.inl (own_w hw 23 rfl)) Via.refl e239 F233 E230 (Or.inl (own_w hw 24 rfl)) (own_w hw 2 rfl) (ty := .int) (by decide) rfl rfl (g := (mkF m 117 #[.val (.ref dd), .val (.int lv), .val (.int (own_key lv)), .val (.long (own_bit lv)), .second, .val (.int (-1 : Int32)), .val (.int (0 : Int32))] [(.int (2 : Int32)), (.ref dd)])) rfl rfl (hb hby d3_117)
      have Fw240 : Fld Z h240 dd "org/tallyrole/core/Dependencies" "size" "I" (.int (2 : Int32)) := F233.same W240
      have A241 := A226.other W240 (Ne.symm hn1)
      have A242 := A227.other W240 (Ne.symm hn2)
      have E243 := E228.wr W240
      have E244 := E229.wr W240
      have E245 := E230.wr W240
      have F246 := F231.other W240 (Or.inr (slot_ne (Or.inl (own_w hw 13 rfl)) (Or.inl (own_w hw 24 rfl)) (by decide) (t := (.array .int)) (t' := .int) (by decide) (by decide)))
      have F247 := F232.other W240 (Or.inr (slot_ne (Or.inl (own_w hw 17 rfl)) (Or.inl (own_w hw 24 rfl)) (by decide) (t := (.array .long)) (t' := .int) (by decide) (by decide)))
      have F248 := F234.other W240 (Or.inr (slot_ne (Or.inl (own_w hw 40 rfl)) (Or.inl (own_w hw 24 rfl)) (by decide) (t := .boolean) (t' := .int) (by decide) (by decide)))
      have E249 := E235.wr W240
      have E250 := E236.wr W240
      have A251 := A237.other W240 (Ne.symm hpq145)
      have A252 := V225.other W240 (Ne.symm hpq146)
      have N240 := Fr.snoc X240 N225 hdd
      have K240 : Keep h0 h240 [dd, ka, wa] := K225.wr W240 (Or.inl (List.mem_of_getElem? (i := 0) rfl))
      have Zs253 : n0 ≤ h240.size := (Nat.le_trans Zs238 (Keep.of_wr W240).1)
      have pre254 := fun (t : State) (k : Steps p.tables e below (T240.setTop (mkF m 156 #[.val (.ref dd), .val (.int lv), .val (.int (own_key lv)), .val (.long (own_bit lv)), .second, .val (.int (-1 : Int32)), .val (.int (0 : Int32))] [])) t) => pre12 t (by
        refine XS.istore X3.here hx rfl (hb hby d3_22) rfl (l' := #[.val (.ref dd), .val (.int lv), .val (.int (own_key lv)), .val (.long (own_bit lv)), .second, .val (.int (-1 : Int32)), .unset]) rfl ?_
        refine XS.iload X3.here hx rfl (hb hby d3_24) rfl ?_
        refine XS.ifNo X3.here hx rfl (hb hby d3_26) rfl ((if0 _ _).trans (tlt (by decide : (-1 : Int32) < (0 : Int32))).2.1) ?_
        refine XS.iload X3.here hx rfl (hb hby d3_29) rfl ?_
        refine XS.ineg X3.here hx rfl (hb hby d3_31) rfl ?_
        refine XS.iconst X3.here hx rfl (hb hby d3_32) ?_
        refine XS.isub X3.here hx rfl (hb hby d3_33) rfl ?_
        refine XS.istore X3.here hx rfl (hb hby d3_34) rfl (l' := #[.val (.ref dd), .val (.int lv), .val (.int (own_key lv)), .val (.long (own_bit lv)), .second, .val (.int (-1 : Int32)), .val (.int (0 : Int32))]) rfl ?_
        refine XS.aloadN X3.here hx rfl (hb hby d3_36) rfl rfl ?_
        refine XS.aloadN X3.here hx rfl (hb hby d3_37) rfl rfl ?_
        refine st134 _ ?_
        refine XS.iconst X134.here hx rfl (hb hby d3_41) ?_
        refine XS.iadd X134.here hx rfl (hb hby d3_42) rfl ?_
        refine st135.trans ?_
        refine XS.aloadN X135.here hx rfl (hb hby d3_46) rfl rfl ?_
        refine st173 _ ?_
        refine XS.iload X173.here hx rfl (hb hby d3_50) rfl ?_
        refine XS.aloadN X173.here hx rfl (hb hby d3_52) rfl rfl ?_
        refine st174 _ ?_
        refine XS.iload X174.here hx rfl (hb hby d3_56) rfl ?_
        refine XS.iconst X174.here hx rfl (hb hby d3_58) ?_
        refine XS.iadd X174.here hx rfl (hb hby d3_59) rfl ?_
        refine XS.aloadN X174.here hx rfl (hb hby d3_60) rfl rfl ?_
        refine st175 _ ?_
        refine XS.iload X175.here hx rfl (hb hby d3_64) rfl ?_
        refine XS.isub X175.here hx rfl (hb hby d3_66) rfl ?_
        refine st176 _ ?_
        refine XS.aloadN X176.here hx rfl (hb hby d3_70) rfl rfl ?_
        refine st190 _ ?_
        refine XS.iload X190.here hx rfl (hb hby d3_74) rfl ?_
        refine XS.aloadN X190.here hx rfl (hb hby d3_76) rfl rfl ?_
        refine st191 _ ?_
        refine XS.iload X191.here hx rfl (hb hby d3_80) rfl ?_
        refine XS.iconst X191.here hx rfl (hb hby d3_82) ?_
        refine XS.iadd X191.here hx rfl (hb hby d3_83) rfl ?_
        refine XS.aloadN X191.here hx rfl (hb hby d3_84) rfl rfl ?_
        refine st192 _ ?_
        refine XS.iload X192.here hx rfl (hb hby d3_88) rfl ?_
        refine XS.isub X192.here hx rfl (hb hby d3_90) rfl ?_
        refine st193 _ ?_
        refine XS.aloadN X193.here hx rfl (hb hby d3_94) rfl rfl ?_
        refine st207 _ ?_
        refine XS.iload X207.here hx rfl (hb hby d3_98) rfl ?_
        refine XS.iloadN X207.here hx rfl (hb hby d3_100) rfl ?_
        refine st209 _ ?_
        refine XS.aloadN X209.here hx rfl (hb hby d3_102) rfl rfl ?_
        refine st223 _ ?_
        refine XS.iload X223.here hx rfl (hb hby d3_106) rfl ?_
        refine XS.lloadN X223.here hx rfl (hb hby d3_108) rfl ?_
        refine st225 _ ?_
        refine XS.aloadN X225.here hx rfl (hb hby d3_110) rfl rfl ?_
        refine XS.dup X225.here hx rfl (hb hby d3_111) rfl rfl ?_
        refine st239 _ ?_
        refine XS.iconst X239.here hx rfl (hb hby d3_115) ?_
        refine XS.iadd X239.here hx rfl (hb hby d3_116) rfl ?_
        refine st240 _ ?_
        refine XS.goto X240.here hx rfl (pc0 := 120) (pc' := 156) rfl (hb hby d3_120) (by decide) (by decide) ?_
        exact k)
      obtain ⟨fs, hr, hrun, hended, hW, hsame⟩ := X240.leave (v := none) (hlocks := BodyLoose.notSynchronized Bd) (fun _ => rfl)
      refine ⟨_, _, pre254 _ ?_, hrun, hended, _, _, rfl, ?_, ⟨_, rfl⟩, hW, hsame.mono (by decide) (by decide)⟩
      · exact X240.returnOut hx Bd.returns (hb hby d3_156) hr
      · show Q_ad Z dd ka wa kk kw (1 : Int32) (1 : Int32) [(.int k0)] [(.long w0)] SS lv h0 n0 _ T240.heap _
        rw [e240]
        exact ⟨x136, x137, x138, x139, (3 : Int32), (2 : Int32), [(.int (own_key lv)), (.int k0), (.int (0 : Int32))], [(.long (own_bit lv)), (.long w0), (.long (0 : Int64))], rfl, N240, K240, hpq141, hpq143, (Or.inr sz168), (Or.inr sz172), hpq145, hpq146, hpq147, (Or.inr ⟨_, _, _, _, _, _, rfl, rfl, rfl, rfl, (own_r_ins (A := []) (B := [(k0, w0)]) hrr hlv (List.forall_mem_nil _) (List.forall_mem_cons.mpr ⟨hb9, (List.forall_mem_nil _)⟩))⟩), E245, F246, F247, Fw240, F248, A251, A252, E249, E250⟩
    · obtain ⟨T255, X255, e255, st255⟩ := getF X3 hx hZ hown (host := "") (Or.inl (own_w hw 16 rfl)) Via.refl hq5 H2_F (g := (mkF m 124 #[.val (.ref dd), .val (.int lv), .val (.int (own_key lv)), .val (.long (own_bit lv)), .second, .val (.int (0 : Int32)), .unset] [(.ref dd)])) rfl rfl (hb hby d3_124)
      have oc256 := H6_A
      obtain ⟨c256, Arc256, qc256, Sc256, Nc256, Hc256, Gc256⟩ := oc256
      have hin257 : ¬ ((0 : Int32) < 0 ∨ c256.slots.size ≤ ((0 : Int32)).toNatClampNeg) := (inb_of Sc256 ⟨by decide, by decide⟩)
      have pre258 := fun (t : State) (k : Steps p.tables e below (T255.setTop (mkF m 134 #[.val (.ref dd), .val (.int lv), .val (.int (own_key lv)), .val (.long (own_bit lv)), .second, .val (.int (0 : Int32)), .unset] [(.int (lcmpW (w0 &&& (own_bit lv)) (0 : Int64)))])) t) => pre12 t (by
        refine XS.istore X3.here hx rfl (hb hby d3_22) rfl (l' := #[.val (.ref dd), .val (.int lv), .val (.int (own_key lv)), .val (.long (own_bit lv)), .second, .val (.int (0 : Int32)), .unset]) rfl ?_
        refine XS.iload X3.here hx rfl (hb hby d3_24) rfl ?_
        refine XS.ifYes X3.here hx rfl (pc0 := 26) (pc' := 123) rfl (hb hby d3_26) rfl ((if0 _ _).trans (flt (by decide : ¬ ((0 : Int32) < (0 : Int32)))).2.1) (by decide) (by decide) ?_
        refine XS.aloadN X3.here hx rfl (hb hby d3_123) rfl rfl ?_
        refine st255 _ ?_
        refine XS.iload X255.here hx rfl (hb hby d3_127) rfl ?_
        refine X255.laload hx (j := (0 : Int32)) (v := (.long w0)) (by rw [e255]; exact Arc256.1) (State.isArrayOf_alike hZ.alike Arc256.2.1) Arc256.2.2 hin257 (Has.at Hc256 hin257 rfl) (g := (mkF m 129 #[.val (.ref dd), .val (.int lv), .val (.int (own_key lv)), .val (.long (own_bit lv)), .second, .val (.int (0 : Int32)), .unset] [(.int (0 : Int32)), (.ref wa)])) rfl rfl (hb hby d3_129) _ ?_
        refine XS.lloadN X255.here hx rfl (hb hby d3_130) rfl ?_
        refine XS.land X255.here hx rfl (hb hby d3_131) rfl ?_
        refine XS.lconst X255.here hx rfl (hb hby d3_132) ?_
        refine XS.lcmp X255.here hx rfl (hb hby d3_133) rfl ?_
        exact k)
      by_cases hc259 : (lcmpW (w0 &&& (own_bit lv)) (0 : Int64)) = (0 : Int32)
      · obtain ⟨T260, X260, e260, st260⟩ := getF X255 hx hZ hown (host := "") (Or.inl (own_w hw 23 rfl)) Via.refl e255 H3_F (g := (mkF m 139 #[.val (.ref dd), .val (.int lv), .val (.int (own_key lv)), .val (.long (own_bit lv)), .second, .val (.int (0 : Int32)), .unset] [(.ref dd), (.ref dd)])) rfl rfl (hb hby d3_139)
        obtain ⟨cq261, q261, q261'⟩ := H0_E.cell
        obtain ⟨_, _, ⟨T261, L261, k261, n261⟩, -, X261, ⟨Lc261, hQ261, l261, y261, z261⟩, st261⟩ := X260.privateBack hx (y := (⟨"org/tallyrole/core/Dependencies", "reserve", "(I)V"⟩ : MethodName)) hown (mvT hZ (own_w hw 35 rfl)) (mvT hZ (own_w hw 36 rfl)) (own_sel_priv (z := (⟨"org/tallyrole/core/Dependencies", "add", "(I)V"⟩ : MethodName)) (mvT hZ (own_w hw 21 rfl)) rfl (mvP hZ (own_w hw 37 rfl)) (mvT hZ (own_w hw 36 rfl)) (by decide)) (Cond.privateMethod_at (mvP hZ (own_w hw 37 rfl) (args := #[]))) (mvT hZ (own_w hw 38 rfl)) (by decide) (backOf (W := 0) (rm_rvN l Z a0 hw [] dd ka kk (1 : Int32) [(.int k0)] (1 : Int32) h0 n0 Z0 H0_E H1_F H4_F H5_A (by decide)) hZ (own_w hw 38 rfl) (own_w hw 3 rfl) (by decide) (by decide)) (g := (mkF m 142 #[.val (.ref dd), .val (.int lv), .val (.int (own_key lv)), .val (.long (own_bit lv)), .second, .val (.int (0 : Int32)), .unset] [(.int (1 : Int32)), (.ref dd)])) rfl (by rw [hml]; rfl) (Steps.refl _) (a := dd) (by rw [e260]; exact q261) q261' (argsL := [(.int (1 : Int32))]) (rest := []) (lenOf pd_7 rfl) rfl (by show 2 * 0 + _ ≤ _; exact Nat.le_of_eq rfl) (hb hby d3_142) (fun _ _ => ⟨rfl, e260, (by decide : 0 + 0 ≤ _), (by decide : 0 + 0 ≤ _)⟩)
        dsimp only [Pt.U, Pt.locs, Pt.cells, Pt.slots] at X261 l261 y261 z261 st261 hQ261
        subst l261 y261 z261
        obtain ⟨rfl, N261q, hq262⟩ := hQ261
        have N261 := Fr.app N3 N261q
        obtain ⟨T263, X263, e263, st263⟩ := getF X261 hx hZ hown (host := "") (Or.inl (own_w hw 16 rfl)) Via.refl hq262 H2_F (g := (mkF m 146 #[.val (.ref dd), .val (.int lv), .val (.int (own_key lv)), .val (.long (own_bit lv)), .second, .val (.int (0 : Int32)), .unset] [(.ref dd)])) rfl rfl (hb hby d3_146)
        have oc264 := H6_A
        obtain ⟨c264, Arc264, qc264, Sc264, Nc264, Hc264, Gc264⟩ := oc264
        have hin265 : ¬ ((0 : Int32) < 0 ∨ c264.slots.size ≤ ((0 : Int32)).toNatClampNeg) := (inb_of Sc264 ⟨by decide, by decide⟩)
        have oc266 := H6_A
        obtain ⟨c266, Arc266, qc266, Sc266, Nc266, Hc266, Gc266⟩ := oc266
        have hin267 : ¬ ((0 : Int32) < 0 ∨ c266.slots.size ≤ ((0 : Int32)).toNatClampNeg) := (inb_of Sc266 ⟨by decide, by decide⟩)
        obtain ⟨T267, h267, X267, e267, W267, st267⟩ := stJ X263 hx hZ e263 Arc266 (j := (0 : Int32)) hin267 (g := (mkF m 155 #[.val (.ref dd), .val (.int lv), .val (.int (own_key lv)), .val (.long (own_bit lv)), .second, .val (.int (0 : Int32)), .unset] [(.long (w0 ||| (own_bit lv))), (.int (0 : Int32)), (.ref wa)])) rfl rfl (hb hby d3_155)
        have V267 : Arv Z h267 wa kw .long (1 : Int32) [(.long (w0 ||| (own_bit lv)))] (.long (0 : Int64)) := Arv.set Arc266 qc266 Sc266 Nc266 Hc266 Gc266 rfl W267 0 rfl (Nat.le_of_ble_eq_true rfl)
        have E268 := H0_E.wr W267
        have F269 := H1_F.other W267 (Or.inl hn2)
        have F270 := H2_F.other W267 (Or.inl hn2)
        have F271 := H3_F.other W267 (Or.inl hn2)
        have F272 := H4_F.other W267 (Or.inl hn2)
        have A273 := H5_A.other W267 hn3
        have E274 := H7_E.wr W267
        have E275 := H8_E.wr W267
        have N267 := Fr.snoc X267 N261 hwa
        have K267 : Keep h0 h267 [dd, ka, wa] := K0.wr W267 (Or.inl (List.mem_of_getElem? (i := 2) rfl))
        have Zs276 : n0 ≤ h267.size := (Nat.le_trans Z0 (Keep.of_wr W267).1)
        have pre277 := fun (t : State) (k : Steps p.tables e below (T267.setTop (mkF m 156 #[.val (.ref dd), .val (.int lv), .val (.int (own_key lv)), .val (.long (own_bit lv)), .second, .val (.int (0 : Int32)), .unset] [])) t) => pre258 t (by
          refine XS.ifNo X255.here hx rfl (hb hby d3_134) rfl ((if0 _ _).trans (teq hc259).2) ?_
          refine XS.aloadN X255.here hx rfl (hb hby d3_137) rfl rfl ?_
          refine XS.aloadN X255.here hx rfl (hb hby d3_138) rfl rfl ?_
          refine st260 _ ?_
          refine st261.trans ?_
          refine XS.aloadN X261.here hx rfl (hb hby d3_145) rfl rfl ?_
          refine st263 _ ?_
          refine XS.iload X263.here hx rfl (hb hby d3_149) rfl ?_
          jvm_step X263.here [X263.here.top, hx, (hb hby d3_151), Value.category]
          refine X263.laload hx (j := (0 : Int32)) (v := (.long w0)) (by rw [e263]; exact Arc264.1) (State.isArrayOf_alike hZ.alike Arc264.2.1) Arc264.2.2 hin265 (Has.at Hc264 hin265 rfl) (g := (mkF m 152 #[.val (.ref dd), .val (.int lv), .val (.int (own_key lv)), .val (.long (own_bit lv)), .second, .val (.int (0 : Int32)), .unset] [(.int (0 : Int32)), (.ref wa), (.int (0 : Int32)), (.ref wa)])) rfl rfl (hb hby d3_152) _ ?_
          refine XS.lloadN X263.here hx rfl (hb hby d3_153) rfl ?_
          refine XS.lor X263.here hx rfl (hb hby d3_154) rfl ?_
          refine st267 _ ?_
          exact k)
        obtain ⟨fs, hr, hrun, hended, hW, hsame⟩ := X267.leave (v := none) (hlocks := BodyLoose.notSynchronized Bd) (fun _ => rfl)
        refine ⟨_, _, pre277 _ ?_, hrun, hended, _, _, rfl, ?_, ⟨_, rfl⟩, hW, hsame.mono (by decide) (by decide)⟩
        · exact X267.returnOut hx Bd.returns (hb hby d3_156) hr
        · show Q_ad Z dd ka wa kk kw (1 : Int32) (1 : Int32) [(.int k0)] [(.long w0)] SS lv h0 n0 _ T267.heap _
          rw [e267]
          exact ⟨ka, wa, kk, kw, (1 : Int32), (1 : Int32), [(.int k0)], [(.long (w0 ||| (own_bit lv)))], rfl, N267, K267, hka, hwa, (Or.inl rfl), (Or.inl rfl), hn1, hn2, hn3, (Or.inl ⟨_, _, rfl, rfl, rfl, rfl, (own_r_or (A := []) (B := []) hrr (own_eq_of hb10 hb11))⟩), E268, F269, F270, F271, F272, A273, V267, E274, E275⟩
      · have pre278 := fun (t : State) (k : Steps p.tables e below (T255.setTop (mkF m 156 #[.val (.ref dd), .val (.int lv), .val (.int (own_key lv)), .val (.long (own_bit lv)), .second, .val (.int (0 : Int32)), .unset] [])) t) => pre258 t (by
          refine XS.ifYes X255.here hx rfl (pc0 := 134) (pc' := 156) rfl (hb hby d3_134) rfl ((if0 _ _).trans (feq hc259).2) (by decide) (by decide) ?_
          exact k)
        obtain ⟨fs, hr, hrun, hended, hW, hsame⟩ := X255.leave (v := none) (hlocks := BodyLoose.notSynchronized Bd) (fun _ => rfl)
        refine ⟨_, _, pre278 _ ?_, hrun, hended, _, _, rfl, ?_, ⟨_, rfl⟩, hW, hsame.mono (by decide) (by decide)⟩
        · exact X255.returnOut hx Bd.returns (hb hby d3_156) hr
        · show Q_ad Z dd ka wa kk kw (1 : Int32) (1 : Int32) [(.int k0)] [(.long w0)] SS lv h0 n0 _ T255.heap _
          rw [e255]
          exact ⟨ka, wa, kk, kw, (1 : Int32), (1 : Int32), [(.int k0)], [(.long w0)], rfl, N3, K0, hka, hwa, (Or.inl rfl), (Or.inl rfl), hn1, hn2, hn3, (Or.inl ⟨_, _, rfl, rfl, rfl, rfl, (own_r_had (A := []) (B := []) hrr (own_eq_of hb10 hb11) (fun q => hc259 ((lw_eq _ _).mpr q)))⟩), H0_E, H1_F, H2_F, H3_F, H4_F, H5_A, H6_A, H7_E, H8_E⟩

theorem ef_adS (m : MethodId) (x0 : Addr) (x1 : Int32) : entryFrame m #[(.ref x0), (.int x1)] 7 = mkF m 0 #[.val (.ref x0), .val (.int x1), .unset, .unset, .unset, .unset, .unset] [] := by first | (simp [entryFrame, mkF, argsToLocals, Value.category]; done) | rfl
def Q_adS (Z : State) (dd : Addr) (ka : Addr) (wa : Addr) (kk : ClassId) (kw : ClassId) (cap : Int32) (sz : Int32) (kv : List Value) (wv : List Value) (SS : Int32 → Prop) (lv : Int32) (h0 : Heap) (n0 : Nat) (v : Option Value) (h : Heap) (L : List Loc) : Prop := ∃ xk : Addr, ∃ xw : Addr, ∃ kxk : ClassId, ∃ kxw : ClassId, ∃ cap' : Int32, ∃ sz' : Int32, ∃ kv' : List Value, ∃ wv' : List Value, ∃ sh' : Int32, v = none ∧ Fr n0 L ∧ Keep h0 h [dd] ∧ n0 ≤ xk ∧ n0 ≤ xw ∧ (xk = ka ∨ h0.size ≤ xk) ∧ (xw = wa ∨ h0.size ≤ xw) ∧ dd ≠ xk ∧ dd ≠ xw ∧ xk ≠ xw ∧ (own_s_1_1 cap' sz' kv' wv' (own_ins SS lv) ∨ own_s_2_2 cap' sz' kv' wv' (own_ins SS lv) ∨ own_s_3_2 cap' sz' kv' wv' (own_ins SS lv) ∨ own_s_3_3 cap' sz' kv' wv' (own_ins SS lv)) ∧ Exa Z h dd "org/tallyrole/core/Dependencies" ∧ Fld Z h dd "org/tallyrole/core/Dependencies" "keys" "[I" (.ref xk) ∧ Fld Z h dd "org/tallyrole/core/Dependencies" "words" "[J" (.ref xw) ∧ Fld Z h dd "org/tallyrole/core/Dependencies" "size" "I" (.int sz') ∧ Fld Z h dd "org/tallyrole/core/Dependencies" "shared" "Z" (.int sh') ∧ Arv Z h xk kxk .int cap' kv' (.int (0 : Int32)) ∧ Arv Z h xw kxw .long cap' wv' (.long (0 : Int64)) ∧ Exa Z h xk "[I" ∧ Exa Z h xw "[J"
set_option maxRecDepth 65536 in
set_option maxHeartbeats 40000000 in
theorem rm_adS (l : Launch) (Z : State) (a0 : Array Value) (hw : ∀ d ∈ tables_1, d.before a0 Z = true) (ws : List Jvm.Cond) (dd : Addr) (ka : Addr) (wa : Addr) (kk : ClassId) (kw : ClassId) (cap : Int32) (sz : Int32) (kv : List Value) (wv : List Value) (SS : Int32 → Prop) (lv : Int32) (h0 : Heap) (n0 : Nat) (Z0 : n0 ≤ h0.size) (H0_E : Exa Z h0 dd "org/tallyrole/core/Dependencies") (H1_F : Fld Z h0 dd "org/tallyrole/core/Dependencies" "keys" "[I" (.ref ka)) (H2_F : Fld Z h0 dd "org/tallyrole/core/Dependencies" "words" "[J" (.ref wa)) (H3_F : Fld Z h0 dd "org/tallyrole/core/Dependencies" "size" "I" (.int sz)) (H4_F : Fld Z h0 dd "org/tallyrole/core/Dependencies" "shared" "Z" (.int (1 : Int32))) (H5_A : Arv Z h0 ka kk .int cap kv (.int (0 : Int32))) (H6_A : Arv Z h0 wa kw .long cap wv (.long (0 : Int64))) (H7_E : Exa Z h0 ka "[I") (H8_E : Exa Z h0 wa "[J") (hrep : own_s_1_1 cap sz kv wv SS ∨ own_s_3_2 cap sz kv wv SS) (hdd : n0 ≤ dd) (hka : n0 ≤ ka) (hwa : n0 ≤ wa) (hn1 : dd ≠ ka) (hn2 : dd ≠ wa) (hn3 : ka ≠ wa) (hlv : ¬ (lv < (0 : Int32))) :
    MetFree l (⟨"org/tallyrole/core/Dependencies", "add", "(I)V"⟩ : MethodName) (head1 (Jvm.Cond.code (⟨"org/tallyrole/core/Dependencies", "add", "(I)V"⟩ : MethodName) prog_36_method_5_code 7 none :: ws) ({ frames := 3, cells := 2, slots := 6, locals := 47 } : Room)) (fun as_ U_ => as_ = #[(.ref dd), (.int lv)] ∧ Z.Warmed39 U_.vm ∧ U_.heap = h0) (fun _ _ _ _ _ => True) (fun _ U o U' => ∃ v L, o = .returned v ∧ Q_adS Z dd ka wa kk kw cap sz kv wv SS lv h0 n0 v U'.heap L ∧ FrameEnd U o U' L ({ frames := 3, cells := 2, slots := 6, locals := 47 } : Room).cells ({ frames := 3, cells := 2, slots := 6, locals := 47 } : Room).slots) := by
  refine MetFree.of_bodySF (plainFor_of_name pn_1) hisR ?_
  intro p e s m args below meth c s₁ Bd hml0 hP hK
  obtain ⟨rfl, hZ, hhp_⟩ := hP
  have hx := Bd.exec
  have hby := Bd.bytes
  have hml : c.maxLocals = 7 := hml0
  have hown : s.vm.findClass "org/tallyrole/core/Dependencies" = some m.cls := findClass_of_methodNamed Bd.named
  have hnm := (name_of_methodNamed Bd.named Bd.method).1
  have X0 : Stand p l e ({ frames := 3, cells := 2, slots := 6, locals := 47 } : Room) s m #[(.ref dd), (.int lv)] below meth c s₁ [] 0 0 := Stand.of_body Bd
  have e0 : s₁.heap = h0 := by rw [← hhp_, Bd.state]; rfl
  have N0 := Fr.nil n0
  have pre0 : ∀ t, Steps p.tables e below (s₁.setTop (mkF m 0 #[.val (.ref dd), .val (.int lv), .unset, .unset, .unset, .unset, .unset] [])) t → Steps p.tables e below (s₁.setTop (entryFrame m #[(.ref dd), (.int lv)] 7)) t := fun t k => castTop (ef_adS m dd lv) k
  have K0 : Keep h0 h0 [dd] := Keep.refl h0 [dd]
  have hrep_ := hrep
  rcases hrep_ with ⟨k0, w0, rfl, rfl, rfl, rfl, hrr⟩ | ⟨k0, k1, g2, w0, w1, q2, rfl, rfl, rfl, rfl, hrr⟩
  · obtain ⟨T1, X1, e1, st1⟩ := getF X0 hx hZ hown (host := "") (Or.inl (own_w hw 12 rfl)) Via.refl e0 H1_F (g := (mkF m 10 #[.val (.ref dd), .val (.int lv), .val (.int (own_key lv)), .val (.long (own_bit lv)), .second, .unset, .unset] [(.ref dd)])) rfl rfl (hb hby d3_10)
    obtain ⟨T2, X2, e2, st2⟩ := getF X1 hx hZ hown (host := "") (Or.inl (own_w hw 23 rfl)) Via.refl e1 H3_F (g := (mkF m 15 #[.val (.ref dd), .val (.int lv), .val (.int (own_key lv)), .val (.long (own_bit lv)), .second, .unset, .unset] [(.ref dd), (.int (0 : Int32)), (.ref ka)])) rfl rfl (hb hby d3_15)
    obtain ⟨_, _, ⟨T3, L3, k3, n3⟩, -, X3, ⟨Lc3, hQ3, l3, y3, z3⟩, st3⟩ := Jvm.LawKit.callS X2 hx (y := (⟨"java/util/Arrays", "binarySearch", "([IIII)I"⟩ : MethodName)) hown (mvT hZ (own_w hw 25 rfl)) (mvT hZ (own_w hw 26 rfl)) (mvT hZ (own_w hw 27 rfl)) (mvT hZ (own_w hw 28 rfl)) (by decide) (backOf (W := 0) (rm_bs1_1 l Z a0 hw [] ka kk k0 (own_key lv) h0 n0 Z0 H5_A) hZ (own_w hw 28 rfl) (own_w hw 27 rfl) (by decide) (by decide)) (g := (mkF m 19 #[.val (.ref dd), .val (.int lv), .val (.int (own_key lv)), .val (.long (own_bit lv)), .second, .unset, .unset] [(.int (own_key lv)), (.int (1 : Int32)), (.int (0 : Int32)), (.ref ka)])) rfl (by rw [hml]; rfl) (argsL := [(.ref ka), (.int (0 : Int32)), (.int (1 : Int32)), (.int (own_key lv))]) (rest := []) (lenOf pd_1 rfl) rfl (by show 2 * 0 + _ ≤ _; exact Nat.le_of_eq rfl) (hb hby d3_19) (fun _ _ => ⟨rfl, e2, (by decide : 0 + 0 ≤ _), (by decide : 0 + 0 ≤ _)⟩)
    dsimp only [Pt.U, Pt.locs, Pt.cells, Pt.slots] at X3 l3 y3 z3 st3 hQ3
    subst l3 y3 z3
    obtain ⟨x4, rfl, N3q, hq5, hpq6⟩ := hQ3
    have N3 := Fr.app N0 N3q
    have pre12 := fun (t : State) (k : Steps p.tables e below (T3.setTop (mkF m 22 #[.val (.ref dd), .val (.int lv), .val (.int (own_key lv)), .val (.long (own_bit lv)), .second, .unset, .unset] [(.int x4)])) t) => pre0 t (by
      refine XS.iloadN X0.here hx rfl (hb hby d3_0) rfl ?_
      refine XS.bipush X0.here hx rfl (hb hby d3_1) ?_
      refine XS.iushr X0.here hx rfl (hb hby d3_3) rfl ?_
      show Steps p.tables e below (s₁.setTop (mkF m 4 #[.val (.ref dd), .val (.int lv), .unset, .unset, .unset, .unset, .unset] [(.int (own_key lv))])) _
      refine XS.istoreN X0.here hx rfl (hb hby d3_4) rfl (l' := #[.val (.ref dd), .val (.int lv), .val (.int (own_key lv)), .unset, .unset, .unset, .unset]) rfl ?_
      refine XS.lconst X0.here hx rfl (hb hby d3_5) ?_
      refine XS.iloadN X0.here hx rfl (hb hby d3_6) rfl ?_
      refine XS.lshl X0.here hx rfl (hb hby d3_7) rfl ?_
      show Steps p.tables e below (s₁.setTop (mkF m 8 #[.val (.ref dd), .val (.int lv), .val (.int (own_key lv)), .unset, .unset, .unset, .unset] [(.long (own_bit lv))])) _
      refine XS.lstoreN X0.here hx rfl (hb hby d3_8) rfl (l' := #[.val (.ref dd), .val (.int lv), .val (.int (own_key lv)), .val (.long (own_bit lv)), .second, .unset, .unset]) rfl ?_
      refine XS.aloadN X0.here hx rfl (hb hby d3_9) rfl rfl ?_
      refine st1 _ ?_
      refine XS.iconst X1.here hx rfl (hb hby d3_13) ?_
      refine XS.aloadN X1.here hx rfl (hb hby d3_14) rfl rfl ?_
      refine st2 _ ?_
      refine XS.iloadN X2.here hx rfl (hb hby d3_18) rfl ?_
      refine st3 _ ?_
      exact k)
    rcases hpq6 with ⟨rfl, hb7⟩ | ⟨rfl, hb8, hb9⟩ | ⟨rfl, hb10, hb11⟩
    · obtain ⟨T13, X13, e13, st13⟩ := getF X3 hx hZ hown (host := "") (Or.inl (own_w hw 23 rfl)) Via.refl hq5 H3_F (g := (mkF m 38 #[.val (.ref dd), .val (.int lv), .val (.int (own_key lv)), .val (.long (own_bit lv)), .second, .val (.int (-2 : Int32)), .val (.int (1 : Int32))] [(.ref dd), (.ref dd)])) rfl rfl (hb hby d3_38)
      obtain ⟨cq14, q14, q14'⟩ := H0_E.cell
      obtain ⟨_, _, ⟨T14, L14, k14, n14⟩, -, X14, ⟨Lc14, hQ14, l14, y14, z14⟩, st14⟩ := X13.privateBack hx (y := (⟨"org/tallyrole/core/Dependencies", "reserve", "(I)V"⟩ : MethodName)) hown (mvT hZ (own_w hw 35 rfl)) (mvT hZ (own_w hw 36 rfl)) (own_sel_priv (z := (⟨"org/tallyrole/core/Dependencies", "add", "(I)V"⟩ : MethodName)) (mvT hZ (own_w hw 21 rfl)) rfl (mvP hZ (own_w hw 37 rfl)) (mvT hZ (own_w hw 36 rfl)) (by decide)) (Cond.privateMethod_at (mvP hZ (own_w hw 37 rfl) (args := #[]))) (mvT hZ (own_w hw 38 rfl)) (by decide) (backOf (W := 0) (rm_rv1_2_1 l Z a0 hw [] dd ka wa kk kw (1 : Int32) k0 w0 h0 n0 Z0 H0_E H1_F H2_F H3_F H4_F H5_A H6_A hdd hn1 hn2) hZ (own_w hw 38 rfl) (own_w hw 3 rfl) (by decide) (by decide)) (g := (mkF m 43 #[.val (.ref dd), .val (.int lv), .val (.int (own_key lv)), .val (.long (own_bit lv)), .second, .val (.int (-2 : Int32)), .val (.int (1 : Int32))] [(.int (2 : Int32)), (.ref dd)])) rfl (by rw [hml]; rfl) (Steps.refl _) (a := dd) (by rw [e13]; exact q14) q14' (argsL := [(.int (2 : Int32))]) (rest := []) (lenOf pd_7 rfl) rfl (by show 2 * 0 + _ ≤ _; exact Nat.le_of_eq rfl) (hb hby d3_43) (fun _ _ => ⟨rfl, e13, (by decide : 0 + 2 ≤ _), (by decide : 0 + 4 ≤ _)⟩)
      dsimp only [Pt.U, Pt.locs, Pt.cells, Pt.slots] at X14 l14 y14 z14 st14 hQ14
      subst l14 y14 z14
      obtain ⟨x15, x16, x17, x18, rfl, N14q, hq19, hpq20, hpq21, hpq22, hpq23, hpq24, hpq25, hpq26, E27, F28, F29, F30, F31, A32, A33, E34, E35⟩ := hQ14
      have N14 := Fr.app N3 N14q
      have lt36 : dd < h0.size := H0_E.lt
      have lt37 : ka < h0.size := H5_A.lt
      have lt38 : wa < h0.size := H6_A.lt
      have A39 := H5_A.keep hq19 (ninS (Ne.symm hn1) nin0)
      have A40 := H6_A.keep hq19 (ninS (Ne.symm hn2) nin0)
      have E41 := H7_E.keep hq19
      have E42 := H8_E.keep hq19
      have K14 : Keep h0 T14.heap [dd] := K0.trans hq19 (allS (Or.inl (List.mem_of_getElem? (i := 0) rfl)) all0)
      have Zs43 : n0 ≤ T14.heap.size := (Nat.le_trans Z0 hq19.1)
      have ne44 : dd ≠ x15 := Nat.ne_of_lt (Nat.lt_of_lt_of_le lt36 hpq21)
      have ne45 : ka ≠ x15 := Nat.ne_of_lt (Nat.lt_of_lt_of_le lt37 hpq21)
      have ne46 : wa ≠ x15 := Nat.ne_of_lt (Nat.lt_of_lt_of_le lt38 hpq21)
      have sz47 : h0.size ≤ x15 := Nat.le_trans K0.1 hpq21
      have ne48 : dd ≠ x16 := Nat.ne_of_lt (Nat.lt_of_lt_of_le lt36 hpq23)
      have ne49 : ka ≠ x16 := Nat.ne_of_lt (Nat.lt_of_lt_of_le lt37 hpq23)
      have ne50 : wa ≠ x16 := Nat.ne_of_lt (Nat.lt_of_lt_of_le lt38 hpq23)
      have sz51 : h0.size ≤ x16 := Nat.le_trans K0.1 hpq23
      obtain ⟨T52, X52, e52, st52⟩ := getF X14 hx hZ hown (host := "") (Or.inl (own_w hw 12 rfl)) Via.refl rfl F28 (g := (mkF m 47 #[.val (.ref dd), .val (.int lv), .val (.int (own_key lv)), .val (.long (own_bit lv)), .second, .val (.int (-2 : Int32)), .val (.int (1 : Int32))] [(.ref dd)])) rfl rfl (hb hby d3_47)
      obtain ⟨T53, X53, e53, st53⟩ := getF X52 hx hZ hown (host := "") (Or.inl (own_w hw 12 rfl)) Via.refl e52 F28 (g := (mkF m 53 #[.val (.ref dd), .val (.int lv), .val (.int (own_key lv)), .val (.long (own_bit lv)), .second, .val (.int (-2 : Int32)), .val (.int (1 : Int32))] [(.ref dd), (.int (1 : Int32)), (.ref x15)])) rfl rfl (hb hby d3_53)
      obtain ⟨T54, X54, e54, st54⟩ := getF X53 hx hZ hown (host := "") (Or.inl (own_w hw 23 rfl)) Via.refl e53 F30 (g := (mkF m 61 #[.val (.ref dd), .val (.int lv), .val (.int (own_key lv)), .val (.long (own_bit lv)), .second, .val (.int (-2 : Int32)), .val (.int (1 : Int32))] [(.ref dd), (.int (2 : Int32)), (.ref x15), (.int (1 : Int32)), (.ref x15)])) rfl rfl (hb hby d3_61)
      obtain ⟨T55, h55, L55, X55, e55, N55, K55q, A55, st55⟩ := cpA X54 hx hZ hown (own_w hw 57 rfl) (own_w hw 52 rfl) (own_w hw 50 rfl) (own_w hw 51 rfl) e54 A32 A32 (Or.inl ⟨rfl, rfl⟩) (by decide) (by decide) (by decide) (by decide) (by decide) (us := []) rfl (Nat.le_of_ble_eq_true rfl) N14 hpq20 (g := (mkF m 67 #[.val (.ref dd), .val (.int lv), .val (.int (own_key lv)), .val (.long (own_bit lv)), .second, .val (.int (-2 : Int32)), .val (.int (1 : Int32))] [(.int (0 : Int32)), (.int (2 : Int32)), (.ref x15), (.int (1 : Int32)), (.ref x15)])) rfl (by rw [hml]; rfl) rfl (hb hby d3_67) (by decide) (W := 0) (by show 2 * 0 + _ ≤ _; exact Nat.le_of_eq rfl) (by decide)
      have V55 : Arv Z h55 x15 x17 .int (2 : Int32) [(.int k0), (.int (0 : Int32))] (.int (0 : Int32)) := A55
      have A56 := A39.keep K55q (ninS ne45 nin0)
      have A57 := A40.keep K55q (ninS ne46 nin0)
      have E58 := E41.keep K55q
      have E59 := E42.keep K55q
      have E60 := E27.keep K55q
      have F61 := F28.keep K55q (ninS hpq24 nin0)
      have F62 := F29.keep K55q (ninS hpq24 nin0)
      have F63 := F30.keep K55q (ninS hpq24 nin0)
      have F64 := F31.keep K55q (ninS hpq24 nin0)
      have A65 := A33.keep K55q (ninS (Ne.symm hpq26) nin0)
      have E66 := E34.keep K55q
      have E67 := E35.keep K55q
      have K55 : Keep h0 h55 [dd] := K14.trans K55q (allS (Or.inr sz47) all0)
      have Zs68 : n0 ≤ h55.size := (Nat.le_trans Zs43 K55q.1)
      obtain ⟨T69, X69, e69, st69⟩ := getF X55 hx hZ hown (host := "") (Or.inl (own_w hw 16 rfl)) Via.refl e55 F62 (g := (mkF m 71 #[.val (.ref dd), .val (.int lv), .val (.int (own_key lv)), .val (.long (own_bit lv)), .second, .val (.int (-2 : Int32)), .val (.int (1 : Int32))] [(.ref dd)])) rfl rfl (hb hby d3_71)
      obtain ⟨T70, X70, e70, st70⟩ := getF X69 hx hZ hown (host := "") (Or.inl (own_w hw 16 rfl)) Via.refl e69 F62 (g := (mkF m 77 #[.val (.ref dd), .val (.int lv), .val (.int (own_key lv)), .val (.long (own_bit lv)), .second, .val (.int (-2 : Int32)), .val (.int (1 : Int32))] [(.ref dd), (.int (1 : Int32)), (.ref x16)])) rfl rfl (hb hby d3_77)
      obtain ⟨T71, X71, e71, st71⟩ := getF X70 hx hZ hown (host := "") (Or.inl (own_w hw 23 rfl)) Via.refl e70 F63 (g := (mkF m 85 #[.val (.ref dd), .val (.int lv), .val (.int (own_key lv)), .val (.long (own_bit lv)), .second, .val (.int (-2 : Int32)), .val (.int (1 : Int32))] [(.ref dd), (.int (2 : Int32)), (.ref x16), (.int (1 : Int32)), (.ref x16)])) rfl rfl (hb hby d3_85)
      obtain ⟨T72, h72, L72, X72, e72, N72, K72q, A72, st72⟩ := cpA X71 hx hZ hown (own_w hw 57 rfl) (own_w hw 52 rfl) (own_w hw 50 rfl) (own_w hw 51 rfl) e71 A65 A65 (Or.inl ⟨rfl, rfl⟩) (by decide) (by decide) (by decide) (by decide) (by decide) (us := []) rfl (Nat.le_of_ble_eq_true rfl) N55 hpq22 (g := (mkF m 91 #[.val (.ref dd), .val (.int lv), .val (.int (own_key lv)), .val (.long (own_bit lv)), .second, .val (.int (-2 : Int32)), .val (.int (1 : Int32))] [(.int (0 : Int32)), (.int (2 : Int32)), (.ref x16), (.int (1 : Int32)), (.ref x16)])) rfl (by rw [hml]; rfl) rfl (hb hby d3_91) (by decide) (W := 0) (by show 2 * 0 + _ ≤ _; exact Nat.le_of_eq rfl) (by decide)
      have V72 : Arv Z h72 x16 x18 .long (2 : Int32) [(.long w0), (.long (0 : Int64))] (.long (0 : Int64)) := A72
      have A73 := A56.keep K72q (ninS ne49 nin0)
      have A74 := A57.keep K72q (ninS ne50 nin0)
      have E75 := E58.keep K72q
      have E76 := E59.keep K72q
      have E77 := E60.keep K72q
      have F78 := F61.keep K72q (ninS hpq25 nin0)
      have F79 := F62.keep K72q (ninS hpq25 nin0)
      have F80 := F63.keep K72q (ninS hpq25 nin0)
      have F81 := F64.keep K72q (ninS hpq25 nin0)
      have E82 := E66.keep K72q
      have E83 := E67.keep K72q
      have A84 := V55.keep K72q (ninS hpq26 nin0)
      have K72 : Keep h0 h72 [dd] := K55.trans K72q (allS (Or.inr sz51) all0)
      have Zs85 : n0 ≤ h72.size := (Nat.le_trans Zs68 K72q.1)
      obtain ⟨T86, X86, e86, st86⟩ := getF X72 hx hZ hown (host := "") (Or.inl (own_w hw 12 rfl)) Via.refl e72 F78 (g := (mkF m 95 #[.val (.ref dd), .val (.int lv), .val (.int (own_key lv)), .val (.long (own_bit lv)), .second, .val (.int (-2 : Int32)), .val (.int (1 : Int32))] [(.ref dd)])) rfl rfl (hb hby d3_95)
      have oc87 := A84
      obtain ⟨c87, Arc87, qc87, Sc87, Nc87, Hc87, Gc87⟩ := oc87
      have hin88 : ¬ ((1 : Int32) < 0 ∨ c87.slots.size ≤ ((1 : Int32)).toNatClampNeg) := (inb_of Sc87 ⟨by decide, by decide⟩)
      obtain ⟨T88, h88, X88, e88, W88, st88⟩ := stI X86 hx hZ e86 Arc87 (j := (1 : Int32)) hin88 (g := (mkF m 101 #[.val (.ref dd), .val (.int lv), .val (.int (own_key lv)), .val (.long (own_bit lv)), .second, .val (.int (-2 : Int32)), .val (.int (1 : Int32))] [(.int (own_key lv)), (.int (1 : Int32)), (.ref x15)])) rfl rfl (hb hby d3_101)
      have V88 : Arv Z h88 x15 x17 .int (2 : Int32) [(.int k0), (.int (own_key lv))] (.int (0 : Int32)) := Arv.set Arc87 qc87 Sc87 Nc87 Hc87 Gc87 rfl W88 1 rfl (Nat.le_of_ble_eq_true rfl)
      have A89 := A73.other W88 ne45
      have A90 := A74.other W88 ne46
      have E91 := E75.wr W88
      have E92 := E76.wr W88
      have E93 := E77.wr W88
      have F94 := F78.other W88 (Or.inl hpq24)
      have F95 := F79.other W88 (Or.inl hpq24)
      have F96 := F80.other W88 (Or.inl hpq24)
      have F97 := F81.other W88 (Or.inl hpq24)
      have E98 := E82.wr W88
      have E99 := E83.wr W88
      have A100 := V72.other W88 (Ne.symm hpq26)
      have N88 := Fr.snoc X88 N72 hpq20
      have K88 : Keep h0 h88 [dd] := K72.wr W88 (Or.inr sz47)
      have Zs101 : n0 ≤ h88.size := (Nat.le_trans Zs85 (Keep.of_wr W88).1)
      obtain ⟨T102, X102, e102, st102⟩ := getF X88 hx hZ hown (host := "") (Or.inl (own_w hw 16 rfl)) Via.refl e88 F95 (g := (mkF m 103 #[.val (.ref dd), .val (.int lv), .val (.int (own_key lv)), .val (.long (own_bit lv)), .second, .val (.int (-2 : Int32)), .val (.int (1 : Int32))] [(.ref dd)])) rfl rfl (hb hby d3_103)
      have oc103 := A100
      obtain ⟨c103, Arc103, qc103, Sc103, Nc103, Hc103, Gc103⟩ := oc103
      have hin104 : ¬ ((1 : Int32) < 0 ∨ c103.slots.size ≤ ((1 : Int32)).toNatClampNeg) := (inb_of Sc103 ⟨by decide, by decide⟩)
      obtain ⟨T104, h104, X104, e104, W104, st104⟩ := stJ X102 hx hZ e102 Arc103 (j := (1 : Int32)) hin104 (g := (mkF m 109 #[.val (.ref dd), .val (.int lv), .val (.int (own_key lv)), .val (.long (own_bit lv)), .second, .val (.int (-2 : Int32)), .val (.int (1 : Int32))] [(.long (own_bit lv)), (.int (1 : Int32)), (.ref x16)])) rfl rfl (hb hby d3_109)
      have V104 : Arv Z h104 x16 x18 .long (2 : Int32) [(.long w0), (.long (own_bit lv))] (.long (0 : Int64)) := Arv.set Arc103 qc103 Sc103 Nc103 Hc103 Gc103 rfl W104 1 rfl (Nat.le_of_ble_eq_true rfl)
      have A105 := A89.other W104 ne49
      have A106 := A90.other W104 ne50
      have E107 := E91.wr W104
      have E108 := E92.wr W104
      have E109 := E93.wr W104
      have F110 := F94.other W104 (Or.inl hpq25)
      have F111 := F95.other W104 (Or.inl hpq25)
      have F112 := F96.other W104 (Or.inl hpq25)
      have F113 := F97.other W104 (Or.inl hpq25)
      have E114 := E98.wr W104
      have E115 := E99.wr W104
      have A116 := V88.other W104 hpq26
      have N104 := Fr.snoc X104 N88 hpq22
      have K104 : Keep h0 h104 [dd] := K88.wr W104 (Or.inr sz51)
      have Zs117 : n0 ≤ h104.size := (Nat.le_trans Zs101 (Keep.of_wr W104).1)
      obtain ⟨T118, X118, e118, st118⟩ := getF X104 hx hZ hown (host := "") (Or.inl (own_w hw 23 rfl)) Via.refl e104 F112 (g := (mkF m 112 #[.val (.ref dd), .val (.int lv), .val (.int (own_key lv)), .val (.long (own_bit lv)), .second, .val (.int (-2 : Int32)), .val (.int (1 : Int32))] [(.ref dd), (.ref dd)])) rfl rfl (hb hby d3_112)
      obtain ⟨T119, h119, X119, e119, W119, st119⟩ := putF X118 hx hZ hown (host := "") (Or.inl (own_w hw 23 rfl)) Via.refl e118 F112 E109 (Or.inl (own_w hw 24 rfl)) (own_w hw 2 rfl) (ty := .int) (by decide) rfl rfl (g := (mkF m 117 #[.val (.ref dd), .val (.int lv), .val (.int (own_key lv)), .val (.long (own_bit lv)), .second, .val (.int (-2 : Int32)), .val (.int (1 : Int32))] [(.int (2 : Int32)), (.ref dd)])) rfl rfl (hb hby d3_117)
      have Fw119 : Fld Z h119 dd "org/tallyrole/core/Dependencies" "size" "I" (.int (2 : Int32)) := F112.same W119
      have A120 := A105.other W119 (Ne.symm hn1)
      have A121 := A106.other W119 (Ne.symm hn2)
      have E122 := E107.wr W119
      have E123 := E108.wr W119
      have E124 := E109.wr W119
      have F125 := F110.other W119 (Or.inr (slot_ne (Or.inl (own_w hw 13 rfl)) (Or.inl (own_w hw 24 rfl)) (by decide) (t := (.array .int)) (t' := .int) (by decide) (by decide)))
      have F126 := F111.other W119 (Or.inr (slot_ne (Or.inl (own_w hw 17 rfl)) (Or.inl (own_w hw 24 rfl)) (by decide) (t := (.array .long)) (t' := .int) (by decide) (by decide)))
      have F127 := F113.other W119 (Or.inr (slot_ne (Or.inl (own_w hw 40 rfl)) (Or.inl (own_w hw 24 rfl)) (by decide) (t := .boolean) (t' := .int) (by decide) (by decide)))
      have E128 := E114.wr W119
      have E129 := E115.wr W119
      have A130 := A116.other W119 (Ne.symm hpq24)
      have A131 := V104.other W119 (Ne.symm hpq25)
      have N119 := Fr.snoc X119 N104 hdd
      have K119 : Keep h0 h119 [dd] := K104.wr W119 (Or.inl (List.mem_of_getElem? (i := 0) rfl))
      have Zs132 : n0 ≤ h119.size := (Nat.le_trans Zs117 (Keep.of_wr W119).1)
      have pre133 := fun (t : State) (k : Steps p.tables e below (T119.setTop (mkF m 156 #[.val (.ref dd), .val (.int lv), .val (.int (own_key lv)), .val (.long (own_bit lv)), .second, .val (.int (-2 : Int32)), .val (.int (1 : Int32))] [])) t) => pre12 t (by
        refine XS.istore X3.here hx rfl (hb hby d3_22) rfl (l' := #[.val (.ref dd), .val (.int lv), .val (.int (own_key lv)), .val (.long (own_bit lv)), .second, .val (.int (-2 : Int32)), .unset]) rfl ?_
        refine XS.iload X3.here hx rfl (hb hby d3_24) rfl ?_
        refine XS.ifNo X3.here hx rfl (hb hby d3_26) rfl ((if0 _ _).trans (tlt (by decide : (-2 : Int32) < (0 : Int32))).2.1) ?_
        refine XS.iload X3.here hx rfl (hb hby d3_29) rfl ?_
        refine XS.ineg X3.here hx rfl (hb hby d3_31) rfl ?_
        refine XS.iconst X3.here hx rfl (hb hby d3_32) ?_
        refine XS.isub X3.here hx rfl (hb hby d3_33) rfl ?_
        refine XS.istore X3.here hx rfl (hb hby d3_34) rfl (l' := #[.val (.ref dd), .val (.int lv), .val (.int (own_key lv)), .val (.long (own_bit lv)), .second, .val (.int (-2 : Int32)), .val (.int (1 : Int32))]) rfl ?_
        refine XS.aloadN X3.here hx rfl (hb hby d3_36) rfl rfl ?_
        refine XS.aloadN X3.here hx rfl (hb hby d3_37) rfl rfl ?_
        refine st13 _ ?_
        refine XS.iconst X13.here hx rfl (hb hby d3_41) ?_
        refine XS.iadd X13.here hx rfl (hb hby d3_42) rfl ?_
        refine st14.trans ?_
        refine XS.aloadN X14.here hx rfl (hb hby d3_46) rfl rfl ?_
        refine st52 _ ?_
        refine XS.iload X52.here hx rfl (hb hby d3_50) rfl ?_
        refine XS.aloadN X52.here hx rfl (hb hby d3_52) rfl rfl ?_
        refine st53 _ ?_
        refine XS.iload X53.here hx rfl (hb hby d3_56) rfl ?_
        refine XS.iconst X53.here hx rfl (hb hby d3_58) ?_
        refine XS.iadd X53.here hx rfl (hb hby d3_59) rfl ?_
        refine XS.aloadN X53.here hx rfl (hb hby d3_60) rfl rfl ?_
        refine st54 _ ?_
        refine XS.iload X54.here hx rfl (hb hby d3_64) rfl ?_
        refine XS.isub X54.here hx rfl (hb hby d3_66) rfl ?_
        refine st55 _ ?_
        refine XS.aloadN X55.here hx rfl (hb hby d3_70) rfl rfl ?_
        refine st69 _ ?_
        refine XS.iload X69.here hx rfl (hb hby d3_74) rfl ?_
        refine XS.aloadN X69.here hx rfl (hb hby d3_76) rfl rfl ?_
        refine st70 _ ?_
        refine XS.iload X70.here hx rfl (hb hby d3_80) rfl ?_
        refine XS.iconst X70.here hx rfl (hb hby d3_82) ?_
        refine XS.iadd X70.here hx rfl (hb hby d3_83) rfl ?_
        refine XS.aloadN X70.here hx rfl (hb hby d3_84) rfl rfl ?_
        refine st71 _ ?_
        refine XS.iload X71.here hx rfl (hb hby d3_88) rfl ?_
        refine XS.isub X71.here hx rfl (hb hby d3_90) rfl ?_
        refine st72 _ ?_
        refine XS.aloadN X72.here hx rfl (hb hby d3_94) rfl rfl ?_
        refine st86 _ ?_
        refine XS.iload X86.here hx rfl (hb hby d3_98) rfl ?_
        refine XS.iloadN X86.here hx rfl (hb hby d3_100) rfl ?_
        refine st88 _ ?_
        refine XS.aloadN X88.here hx rfl (hb hby d3_102) rfl rfl ?_
        refine st102 _ ?_
        refine XS.iload X102.here hx rfl (hb hby d3_106) rfl ?_
        refine XS.lloadN X102.here hx rfl (hb hby d3_108) rfl ?_
        refine st104 _ ?_
        refine XS.aloadN X104.here hx rfl (hb hby d3_110) rfl rfl ?_
        refine XS.dup X104.here hx rfl (hb hby d3_111) rfl rfl ?_
        refine st118 _ ?_
        refine XS.iconst X118.here hx rfl (hb hby d3_115) ?_
        refine XS.iadd X118.here hx rfl (hb hby d3_116) rfl ?_
        refine st119 _ ?_
        refine XS.goto X119.here hx rfl (pc0 := 120) (pc' := 156) rfl (hb hby d3_120) (by decide) (by decide) ?_
        exact k)
      obtain ⟨fs, hr, hrun, hended, hW, hsame⟩ := X119.leave (v := none) (hlocks := BodyLoose.notSynchronized Bd) (fun _ => rfl)
      refine ⟨_, _, pre133 _ ?_, hrun, hended, _, _, rfl, ?_, ⟨_, rfl⟩, hW, hsame.mono (by decide) (by decide)⟩
      · exact X119.returnOut hx Bd.returns (hb hby d3_156) hr
      · show Q_adS Z dd ka wa kk kw (1 : Int32) (1 : Int32) [(.int k0)] [(.long w0)] SS lv h0 n0 _ T119.heap _
        rw [e119]
        exact ⟨x15, x16, x17, x18, (2 : Int32), (2 : Int32), [(.int k0), (.int (own_key lv))], [(.long w0), (.long (own_bit lv))], (0 : Int32), rfl, N119, K119, hpq20, hpq22, (Or.inr sz47), (Or.inr sz51), hpq24, hpq25, hpq26, (Or.inr (Or.inl ⟨_, _, _, _, rfl, rfl, rfl, rfl, (own_r_ins (A := [(k0, w0)]) (B := []) hrr hlv (List.forall_mem_cons.mpr ⟨hb7, (List.forall_mem_nil _)⟩) (List.forall_mem_nil _))⟩)), E124, F125, F126, Fw119, F127, A130, A131, E128, E129⟩
    · obtain ⟨T134, X134, e134, st134⟩ := getF X3 hx hZ hown (host := "") (Or.inl (own_w hw 23 rfl)) Via.refl hq5 H3_F (g := (mkF m 38 #[.val (.ref dd), .val (.int lv), .val (.int (own_key lv)), .val (.long (own_bit lv)), .second, .val (.int (-1 : Int32)), .val (.int (0 : Int32))] [(.ref dd), (.ref dd)])) rfl rfl (hb hby d3_38)
      obtain ⟨cq135, q135, q135'⟩ := H0_E.cell
      obtain ⟨_, _, ⟨T135, L135, k135, n135⟩, -, X135, ⟨Lc135, hQ135, l135, y135, z135⟩, st135⟩ := X134.privateBack hx (y := (⟨"org/tallyrole/core/Dependencies", "reserve", "(I)V"⟩ : MethodName)) hown (mvT hZ (own_w hw 35 rfl)) (mvT hZ (own_w hw 36 rfl)) (own_sel_priv (z := (⟨"org/tallyrole/core/Dependencies", "add", "(I)V"⟩ : MethodName)) (mvT hZ (own_w hw 21 rfl)) rfl (mvP hZ (own_w hw 37 rfl)) (mvT hZ (own_w hw 36 rfl)) (by decide)) (Cond.privateMethod_at (mvP hZ (own_w hw 37 rfl) (args := #[]))) (mvT hZ (own_w hw 38 rfl)) (by decide) (backOf (W := 0) (rm_rv1_2_1 l Z a0 hw [] dd ka wa kk kw (1 : Int32) k0 w0 h0 n0 Z0 H0_E H1_F H2_F H3_F H4_F H5_A H6_A hdd hn1 hn2) hZ (own_w hw 38 rfl) (own_w hw 3 rfl) (by decide) (by decide)) (g := (mkF m 43 #[.val (.ref dd), .val (.int lv), .val (.int (own_key lv)), .val (.long (own_bit lv)), .second, .val (.int (-1 : Int32)), .val (.int (0 : Int32))] [(.int (2 : Int32)), (.ref dd)])) rfl (by rw [hml]; rfl) (Steps.refl _) (a := dd) (by rw [e134]; exact q135) q135' (argsL := [(.int (2 : Int32))]) (rest := []) (lenOf pd_7 rfl) rfl (by show 2 * 0 + _ ≤ _; exact Nat.le_of_eq rfl) (hb hby d3_43) (fun _ _ => ⟨rfl, e134, (by decide : 0 + 2 ≤ _), (by decide : 0 + 4 ≤ _)⟩)
      dsimp only [Pt.U, Pt.locs, Pt.cells, Pt.slots] at X135 l135 y135 z135 st135 hQ135
      subst l135 y135 z135
      obtain ⟨x136, x137, x138, x139, rfl, N135q, hq140, hpq141, hpq142, hpq143, hpq144, hpq145, hpq146, hpq147, E148, F149, F150, F151, F152, A153, A154, E155, E156⟩ := hQ135
      have N135 := Fr.app N3 N135q
      have lt157 : dd < h0.size := H0_E.lt
      have lt158 : ka < h0.size := H5_A.lt
      have lt159 : wa < h0.size := H6_A.lt
      have A160 := H5_A.keep hq140 (ninS (Ne.symm hn1) nin0)
      have A161 := H6_A.keep hq140 (ninS (Ne.symm hn2) nin0)
      have E162 := H7_E.keep hq140
      have E163 := H8_E.keep hq140
      have K135 : Keep h0 T135.heap [dd] := K0.trans hq140 (allS (Or.inl (List.mem_of_getElem? (i := 0) rfl)) all0)
      have Zs164 : n0 ≤ T135.heap.size := (Nat.le_trans Z0 hq140.1)
      have ne165 : dd ≠ x136 := Nat.ne_of_lt (Nat.lt_of_lt_of_le lt157 hpq142)
      have ne166 : ka ≠ x136 := Nat.ne_of_lt (Nat.lt_of_lt_of_le lt158 hpq142)
      have ne167 : wa ≠ x136 := Nat.ne_of_lt (Nat.lt_of_lt_of_le lt159 hpq142)
      have sz168 : h0.size ≤ x136 := Nat.le_trans K0.1 hpq142
      have ne169 : dd ≠ x137 := Nat.ne_of_lt (Nat.lt_of_lt_of_le lt157 hpq144)
      have ne170 : ka ≠ x137 := Nat.ne_of_lt (Nat.lt_of_lt_of_le lt158 hpq144)
      have ne171 : wa ≠ x137 := Nat.ne_of_lt (Nat.lt_of_lt_of_le lt159 hpq144)
      have sz172 : h0.size ≤ x137 := Nat.le_trans K0.1 hpq144
      obtain ⟨T173, X173, e173, st173⟩ := getF X135 hx hZ hown (host := "") (Or.inl (own_w hw 12 rfl)) Via.refl rfl F149 (g := (mkF m 47 #[.val (.ref dd), .val (.int lv), .val (.int (own_key lv)), .val (.long (own_bit lv)), .second, .val (.int (-1 : Int32)), .val (.int (0 : Int32))] [(.ref dd)])) rfl rfl (hb hby d3_47)
      obtain ⟨T174, X174, e174, st174⟩ := getF X173 hx hZ hown (host := "") (Or.inl (own_w hw 12 rfl)) Via.refl e173 F149 (g := (mkF m 53 #[.val (.ref dd), .val (.int lv), .val (.int (own_key lv)), .val (.long (own_bit lv)), .second, .val (.int (-1 : Int32)), .val (.int (0 : Int32))] [(.ref dd), (.int (0 : Int32)), (.ref x136)])) rfl rfl (hb hby d3_53)
      obtain ⟨T175, X175, e175, st175⟩ := getF X174 hx hZ hown (host := "") (Or.inl (own_w hw 23 rfl)) Via.refl e174 F151 (g := (mkF m 61 #[.val (.ref dd), .val (.int lv), .val (.int (own_key lv)), .val (.long (own_bit lv)), .second, .val (.int (-1 : Int32)), .val (.int (0 : Int32))] [(.ref dd), (.int (1 : Int32)), (.ref x136), (.int (0 : Int32)), (.ref x136)])) rfl rfl (hb hby d3_61)
      obtain ⟨T176, h176, L176, X176, e176, N176, K176q, A176, st176⟩ := cpA X175 hx hZ hown (own_w hw 57 rfl) (own_w hw 52 rfl) (own_w hw 50 rfl) (own_w hw 51 rfl) e175 A153 A153 (Or.inl ⟨rfl, rfl⟩) (by decide) (by decide) (by decide) (by decide) (by decide) (us := [(.int k0)]) rfl (Nat.le_of_ble_eq_true rfl) N135 hpq141 (g := (mkF m 67 #[.val (.ref dd), .val (.int lv), .val (.int (own_key lv)), .val (.long (own_bit lv)), .second, .val (.int (-1 : Int32)), .val (.int (0 : Int32))] [(.int (1 : Int32)), (.int (1 : Int32)), (.ref x136), (.int (0 : Int32)), (.ref x136)])) rfl (by rw [hml]; rfl) rfl (hb hby d3_67) (by decide) (W := 0) (by show 2 * 0 + _ ≤ _; exact Nat.le_of_eq rfl) (by decide)
      have V176 : Arv Z h176 x136 x138 .int (2 : Int32) [(.int k0), (.int k0)] (.int (0 : Int32)) := A176
      have A177 := A160.keep K176q (ninS ne166 nin0)
      have A178 := A161.keep K176q (ninS ne167 nin0)
      have E179 := E162.keep K176q
      have E180 := E163.keep K176q
      have E181 := E148.keep K176q
      have F182 := F149.keep K176q (ninS hpq145 nin0)
      have F183 := F150.keep K176q (ninS hpq145 nin0)
      have F184 := F151.keep K176q (ninS hpq145 nin0)
      have F185 := F152.keep K176q (ninS hpq145 nin0)
      have A186 := A154.keep K176q (ninS (Ne.symm hpq147) nin0)
      have E187 := E155.keep K176q
      have E188 := E156.keep K176q
      have K176 : Keep h0 h176 [dd] := K135.trans K176q (allS (Or.inr sz168) all0)
      have Zs189 : n0 ≤ h176.size := (Nat.le_trans Zs164 K176q.1)
      obtain ⟨T190, X190, e190, st190⟩ := getF X176 hx hZ hown (host := "") (Or.inl (own_w hw 16 rfl)) Via.refl e176 F183 (g := (mkF m 71 #[.val (.ref dd), .val (.int lv), .val (.int (own_key lv)), .val (.long (own_bit lv)), .second, .val (.int (-1 : Int32)), .val (.int (0 : Int32))] [(.ref dd)])) rfl rfl (hb hby d3_71)
      obtain ⟨T191, X191, e191, st191⟩ := getF X190 hx hZ hown (host := "") (Or.inl (own_w hw 16 rfl)) Via.refl e190 F183 (g := (mkF m 77 #[.val (.ref dd), .val (.int lv), .val (.int (own_key lv)), .val (.long (own_bit lv)), .second, .val (.int (-1 : Int32)), .val (.int (0 : Int32))] [(.ref dd), (.int (0 : Int32)), (.ref x137)])) rfl rfl (hb hby d3_77)
      obtain ⟨T192, X192, e192, st192⟩ := getF X191 hx hZ hown (host := "") (Or.inl (own_w hw 23 rfl)) Via.refl e191 F184 (g := (mkF m 85 #[.val (.ref dd), .val (.int lv), .val (.int (own_key lv)), .val (.long (own_bit lv)), .second, .val (.int (-1 : Int32)), .val (.int (0 : Int32))] [(.ref dd), (.int (1 : Int32)), (.ref x137), (.int (0 : Int32)), (.ref x137)])) rfl rfl (hb hby d3_85)
      obtain ⟨T193, h193, L193, X193, e193, N193, K193q, A193, st193⟩ := cpA X192 hx hZ hown (own_w hw 57 rfl) (own_w hw 52 rfl) (own_w hw 50 rfl) (own_w hw 51 rfl) e192 A186 A186 (Or.inl ⟨rfl, rfl⟩) (by decide) (by decide) (by decide) (by decide) (by decide) (us := [(.long w0)]) rfl (Nat.le_of_ble_eq_true rfl) N176 hpq143 (g := (mkF m 91 #[.val (.ref dd), .val (.int lv), .val (.int (own_key lv)), .val (.long (own_bit lv)), .second, .val (.int (-1 : Int32)), .val (.int (0 : Int32))] [(.int (1 : Int32)), (.int (1 : Int32)), (.ref x137), (.int (0 : Int32)), (.ref x137)])) rfl (by rw [hml]; rfl) rfl (hb hby d3_91) (by decide) (W := 0) (by show 2 * 0 + _ ≤ _; exact Nat.le_of_eq rfl) (by decide)
      have V193 : Arv Z h193 x137 x139 .long (2 : Int32) [(.long w0), (.long w0)] (.long (0 : Int64)) := A193
      have A194 := A177.keep K193q (ninS ne170 nin0)
      have A195 := A178.keep K193q (ninS ne171 nin0)
      have E196 := E179.keep K193q
      have E197 := E180.keep K193q
      have E198 := E181.keep K193q
      have F199 := F182.keep K193q (ninS hpq146 nin0)
      have F200 := F183.keep K193q (ninS hpq146 nin0)
      have F201 := F184.keep K193q (ninS hpq146 nin0)
      have F202 := F185.keep K193q (ninS hpq146 nin0)
      have E203 := E187.keep K193q
      have E204 := E188.keep K193q
      have A205 := V176.keep K193q (ninS hpq147 nin0)
      have K193 : Keep h0 h193 [dd] := K176.trans K193q (allS (Or.inr sz172) all0)
      have Zs206 : n0 ≤ h193.size := (Nat.le_trans Zs189 K193q.1)
      obtain ⟨T207, X207, e207, st207⟩ := getF X193 hx hZ hown (host := "") (Or.inl (own_w hw 12 rfl)) Via.refl e193 F199 (g := (mkF m 95 #[.val (.ref dd), .val (.int lv), .val (.int (own_key lv)), .val (.long (own_bit lv)), .second, .val (.int (-1 : Int32)), .val (.int (0 : Int32))] [(.ref dd)])) rfl rfl (hb hby d3_95)
      have oc208 := A205
      obtain ⟨c208, Arc208, qc208, Sc208, Nc208, Hc208, Gc208⟩ := oc208
      have hin209 : ¬ ((0 : Int32) < 0 ∨ c208.slots.size ≤ ((0 : Int32)).toNatClampNeg) := (inb_of Sc208 ⟨by decide, by decide⟩)
      obtain ⟨T209, h209, X209, e209, W209, st209⟩ := stI X207 hx hZ e207 Arc208 (j := (0 : Int32)) hin209 (g := (mkF m 101 #[.val (.ref dd), .val (.int lv), .val (.int (own_key lv)), .val (.long (own_bit lv)), .second, .val (.int (-1 : Int32)), .val (.int (0 : Int32))] [(.int (own_key lv)), (.int (0 : Int32)), (.ref x136)])) rfl rfl (hb hby d3_101)
      have V209 : Arv Z h209 x136 x138 .int (2 : Int32) [(.int (own_key lv)), (.int k0)] (.int (0 : Int32)) := Arv.set Arc208 qc208 Sc208 Nc208 Hc208 Gc208 rfl W209 0 rfl (Nat.le_of_ble_eq_true rfl)
      have A210 := A194.other W209 ne166
      have A211 := A195.other W209 ne167
      have E212 := E196.wr W209
      have E213 := E197.wr W209
      have E214 := E198.wr W209
      have F215 := F199.other W209 (Or.inl hpq145)
      have F216 := F200.other W209 (Or.inl hpq145)
      have F217 := F201.other W209 (Or.inl hpq145)
      have F218 := F202.other W209 (Or.inl hpq145)
      have E219 := E203.wr W209
      have E220 := E204.wr W209
      have A221 := V193.other W209 (Ne.symm hpq147)
      have N209 := Fr.snoc X209 N193 hpq141
      have K209 : Keep h0 h209 [dd] := K193.wr W209 (Or.inr sz168)
      have Zs222 : n0 ≤ h209.size := (Nat.le_trans Zs206 (Keep.of_wr W209).1)
      obtain ⟨T223, X223, e223, st223⟩ := getF X209 hx hZ hown (host := "") (Or.inl (own_w hw 16 rfl)) Via.refl e209 F216 (g := (mkF m 103 #[.val (.ref dd), .val (.int lv), .val (.int (own_key lv)), .val (.long (own_bit lv)), .second, .val (.int (-1 : Int32)), .val (.int (0 : Int32))] [(.ref dd)])) rfl rfl (hb hby d3_103)
      have oc224 := A221
      obtain ⟨c224, Arc224, qc224, Sc224, Nc224, Hc224, Gc224⟩ := oc224
      have hin225 : ¬ ((0 : Int32) < 0 ∨ c224.slots.size ≤ ((0 : Int32)).toNatClampNeg) := (inb_of Sc224 ⟨by decide, by decide⟩)
      obtain ⟨T225, h225, X225, e225, W225, st225⟩ := stJ X223 hx hZ e223 Arc224 (j := (0 : Int32)) hin225 (g := (mkF m 109 #[.val (.ref dd), .val (.int lv), .val (.int (own_key lv)), .val (.long (own_bit lv)), .second, .val (.int (-1 : Int32)), .val (.int (0 : Int32))] [(.long (own_bit lv)), (.int (0 : Int32)), (.ref x137)])) rfl rfl (hb hby d3_109)
      have V225 : Arv Z h225 x137 x139 .long (2 : Int32) [(.long (own_bit lv)), (.long w0)] (.long (0 : Int64)) := Arv.set Arc224 qc224 Sc224 Nc224 Hc224 Gc224 rfl W225 0 rfl (Nat.le_of_ble_eq_true rfl)
      have A226 := A210.other W225 ne170
      have A227 := A211.other W225 ne171
      have E228 := E212.wr W225
      have E229 := E213.wr W225
      have E230 := E214.wr W225
      have F231 := F215.other W225 (Or.inl hpq146)
      have F232 := F216.other W225 (Or.inl hpq146)
      have F233 := F217.other W225 (Or.inl hpq146)
      have F234 := F218.other W225 (Or.inl hpq146)
      have E235 := E219.wr W225
      have E236 := E220.wr W225
      have A237 := V209.other W225 hpq147
      have N225 := Fr.snoc X225 N209 hpq143
      have K225 : Keep h0 h225 [dd] := K209.wr W225 (Or.inr sz172)
      have Zs238 : n0 ≤ h225.size := (Nat.le_trans Zs222 (Keep.of_wr W225).1)
      obtain ⟨T239, X239, e239, st239⟩ := getF X225 hx hZ hown (host := "") (Or.inl (own_w hw 23 rfl)) Via.refl e225 F233 (g := (mkF m 112 #[.val (.ref dd), .val (.int lv), .val (.int (own_key lv)), .val (.long (own_bit lv)), .second, .val (.int (-1 : Int32)), .val (.int (0 : Int32))] [(.ref dd), (.ref dd)])) rfl rfl (hb hby d3_112)
      obtain ⟨T240, h240, X240, e240, W240, st240⟩ := putF X239 hx hZ hown (host := "") (Or.inl (own_w hw 23 rfl)) Via.refl e239 F233 E230 (Or.inl (own_w hw 24 rfl)) (own_w hw 2 rfl) (ty := .int) (by decide) rfl rfl (g := (mkF m 117 #[.val (.ref dd), .val (.int lv), .val (.int (own_key lv)), .val (.long (own_bit lv)), .second, .val (.int (-1 : Int32)), .val (.int (0 : Int32))] [(.int (2 : Int32)), (.ref dd)])) rfl rfl (hb hby d3_117)
      have Fw240 : Fld Z h240 dd "org/tallyrole/core/Dependencies" "size" "I" (.int (2 : Int32)) := F233.same W240
      have A241 := A226.other W240 (Ne.symm hn1)
      have A242 := A227.other W240 (Ne.symm hn2)
      have E243 := E228.wr W240
      have E244 := E229.wr W240
      have E245 := E230.wr W240
      have F246 := F231.other W240 (Or.inr (slot_ne (Or.inl (own_w hw 13 rfl)) (Or.inl (own_w hw 24 rfl)) (by decide) (t := (.array .int)) (t' := .int) (by decide) (by decide)))
      have F247 := F232.other W240 (Or.inr (slot_ne (Or.inl (own_w hw 17 rfl)) (Or.inl (own_w hw 24 rfl)) (by decide) (t := (.array .long)) (t' := .int) (by decide) (by decide)))
      have F248 := F234.other W240 (Or.inr (slot_ne (Or.inl (own_w hw 40 rfl)) (Or.inl (own_w hw 24 rfl)) (by decide) (t := .boolean) (t' := .int) (by decide) (by decide)))
      have E249 := E235.wr W240
      have E250 := E236.wr W240
      have A251 := A237.other W240 (Ne.symm hpq145)
      have A252 := V225.other W240 (Ne.symm hpq146)
      have N240 := Fr.snoc X240 N225 hdd
      have K240 : Keep h0 h240 [dd] := K225.wr W240 (Or.inl (List.mem_of_getElem? (i := 0) rfl))
      have Zs253 : n0 ≤ h240.size := (Nat.le_trans Zs238 (Keep.of_wr W240).1)
      have pre254 := fun (t : State) (k : Steps p.tables e below (T240.setTop (mkF m 156 #[.val (.ref dd), .val (.int lv), .val (.int (own_key lv)), .val (.long (own_bit lv)), .second, .val (.int (-1 : Int32)), .val (.int (0 : Int32))] [])) t) => pre12 t (by
        refine XS.istore X3.here hx rfl (hb hby d3_22) rfl (l' := #[.val (.ref dd), .val (.int lv), .val (.int (own_key lv)), .val (.long (own_bit lv)), .second, .val (.int (-1 : Int32)), .unset]) rfl ?_
        refine XS.iload X3.here hx rfl (hb hby d3_24) rfl ?_
        refine XS.ifNo X3.here hx rfl (hb hby d3_26) rfl ((if0 _ _).trans (tlt (by decide : (-1 : Int32) < (0 : Int32))).2.1) ?_
        refine XS.iload X3.here hx rfl (hb hby d3_29) rfl ?_
        refine XS.ineg X3.here hx rfl (hb hby d3_31) rfl ?_
        refine XS.iconst X3.here hx rfl (hb hby d3_32) ?_
        refine XS.isub X3.here hx rfl (hb hby d3_33) rfl ?_
        refine XS.istore X3.here hx rfl (hb hby d3_34) rfl (l' := #[.val (.ref dd), .val (.int lv), .val (.int (own_key lv)), .val (.long (own_bit lv)), .second, .val (.int (-1 : Int32)), .val (.int (0 : Int32))]) rfl ?_
        refine XS.aloadN X3.here hx rfl (hb hby d3_36) rfl rfl ?_
        refine XS.aloadN X3.here hx rfl (hb hby d3_37) rfl rfl ?_
        refine st134 _ ?_
        refine XS.iconst X134.here hx rfl (hb hby d3_41) ?_
        refine XS.iadd X134.here hx rfl (hb hby d3_42) rfl ?_
        refine st135.trans ?_
        refine XS.aloadN X135.here hx rfl (hb hby d3_46) rfl rfl ?_
        refine st173 _ ?_
        refine XS.iload X173.here hx rfl (hb hby d3_50) rfl ?_
        refine XS.aloadN X173.here hx rfl (hb hby d3_52) rfl rfl ?_
        refine st174 _ ?_
        refine XS.iload X174.here hx rfl (hb hby d3_56) rfl ?_
        refine XS.iconst X174.here hx rfl (hb hby d3_58) ?_
        refine XS.iadd X174.here hx rfl (hb hby d3_59) rfl ?_
        refine XS.aloadN X174.here hx rfl (hb hby d3_60) rfl rfl ?_
        refine st175 _ ?_
        refine XS.iload X175.here hx rfl (hb hby d3_64) rfl ?_
        refine XS.isub X175.here hx rfl (hb hby d3_66) rfl ?_
        refine st176 _ ?_
        refine XS.aloadN X176.here hx rfl (hb hby d3_70) rfl rfl ?_
        refine st190 _ ?_
        refine XS.iload X190.here hx rfl (hb hby d3_74) rfl ?_
        refine XS.aloadN X190.here hx rfl (hb hby d3_76) rfl rfl ?_
        refine st191 _ ?_
        refine XS.iload X191.here hx rfl (hb hby d3_80) rfl ?_
        refine XS.iconst X191.here hx rfl (hb hby d3_82) ?_
        refine XS.iadd X191.here hx rfl (hb hby d3_83) rfl ?_
        refine XS.aloadN X191.here hx rfl (hb hby d3_84) rfl rfl ?_
        refine st192 _ ?_
        refine XS.iload X192.here hx rfl (hb hby d3_88) rfl ?_
        refine XS.isub X192.here hx rfl (hb hby d3_90) rfl ?_
        refine st193 _ ?_
        refine XS.aloadN X193.here hx rfl (hb hby d3_94) rfl rfl ?_
        refine st207 _ ?_
        refine XS.iload X207.here hx rfl (hb hby d3_98) rfl ?_
        refine XS.iloadN X207.here hx rfl (hb hby d3_100) rfl ?_
        refine st209 _ ?_
        refine XS.aloadN X209.here hx rfl (hb hby d3_102) rfl rfl ?_
        refine st223 _ ?_
        refine XS.iload X223.here hx rfl (hb hby d3_106) rfl ?_
        refine XS.lloadN X223.here hx rfl (hb hby d3_108) rfl ?_
        refine st225 _ ?_
        refine XS.aloadN X225.here hx rfl (hb hby d3_110) rfl rfl ?_
        refine XS.dup X225.here hx rfl (hb hby d3_111) rfl rfl ?_
        refine st239 _ ?_
        refine XS.iconst X239.here hx rfl (hb hby d3_115) ?_
        refine XS.iadd X239.here hx rfl (hb hby d3_116) rfl ?_
        refine st240 _ ?_
        refine XS.goto X240.here hx rfl (pc0 := 120) (pc' := 156) rfl (hb hby d3_120) (by decide) (by decide) ?_
        exact k)
      obtain ⟨fs, hr, hrun, hended, hW, hsame⟩ := X240.leave (v := none) (hlocks := BodyLoose.notSynchronized Bd) (fun _ => rfl)
      refine ⟨_, _, pre254 _ ?_, hrun, hended, _, _, rfl, ?_, ⟨_, rfl⟩, hW, hsame.mono (by decide) (by decide)⟩
      · exact X240.returnOut hx Bd.returns (hb hby d3_156) hr
      · show Q_adS Z dd ka wa kk kw (1 : Int32) (1 : Int32) [(.int k0)] [(.long w0)] SS lv h0 n0 _ T240.heap _
        rw [e240]
        exact ⟨x136, x137, x138, x139, (2 : Int32), (2 : Int32), [(.int (own_key lv)), (.int k0)], [(.long (own_bit lv)), (.long w0)], (0 : Int32), rfl, N240, K240, hpq141, hpq143, (Or.inr sz168), (Or.inr sz172), hpq145, hpq146, hpq147, (Or.inr (Or.inl ⟨_, _, _, _, rfl, rfl, rfl, rfl, (own_r_ins (A := []) (B := [(k0, w0)]) hrr hlv (List.forall_mem_nil _) (List.forall_mem_cons.mpr ⟨hb9, (List.forall_mem_nil _)⟩))⟩)), E245, F246, F247, Fw240, F248, A251, A252, E249, E250⟩
    · obtain ⟨T255, X255, e255, st255⟩ := getF X3 hx hZ hown (host := "") (Or.inl (own_w hw 16 rfl)) Via.refl hq5 H2_F (g := (mkF m 124 #[.val (.ref dd), .val (.int lv), .val (.int (own_key lv)), .val (.long (own_bit lv)), .second, .val (.int (0 : Int32)), .unset] [(.ref dd)])) rfl rfl (hb hby d3_124)
      have oc256 := H6_A
      obtain ⟨c256, Arc256, qc256, Sc256, Nc256, Hc256, Gc256⟩ := oc256
      have hin257 : ¬ ((0 : Int32) < 0 ∨ c256.slots.size ≤ ((0 : Int32)).toNatClampNeg) := (inb_of Sc256 ⟨by decide, by decide⟩)
      have pre258 := fun (t : State) (k : Steps p.tables e below (T255.setTop (mkF m 134 #[.val (.ref dd), .val (.int lv), .val (.int (own_key lv)), .val (.long (own_bit lv)), .second, .val (.int (0 : Int32)), .unset] [(.int (lcmpW (w0 &&& (own_bit lv)) (0 : Int64)))])) t) => pre12 t (by
        refine XS.istore X3.here hx rfl (hb hby d3_22) rfl (l' := #[.val (.ref dd), .val (.int lv), .val (.int (own_key lv)), .val (.long (own_bit lv)), .second, .val (.int (0 : Int32)), .unset]) rfl ?_
        refine XS.iload X3.here hx rfl (hb hby d3_24) rfl ?_
        refine XS.ifYes X3.here hx rfl (pc0 := 26) (pc' := 123) rfl (hb hby d3_26) rfl ((if0 _ _).trans (flt (by decide : ¬ ((0 : Int32) < (0 : Int32)))).2.1) (by decide) (by decide) ?_
        refine XS.aloadN X3.here hx rfl (hb hby d3_123) rfl rfl ?_
        refine st255 _ ?_
        refine XS.iload X255.here hx rfl (hb hby d3_127) rfl ?_
        refine X255.laload hx (j := (0 : Int32)) (v := (.long w0)) (by rw [e255]; exact Arc256.1) (State.isArrayOf_alike hZ.alike Arc256.2.1) Arc256.2.2 hin257 (Has.at Hc256 hin257 rfl) (g := (mkF m 129 #[.val (.ref dd), .val (.int lv), .val (.int (own_key lv)), .val (.long (own_bit lv)), .second, .val (.int (0 : Int32)), .unset] [(.int (0 : Int32)), (.ref wa)])) rfl rfl (hb hby d3_129) _ ?_
        refine XS.lloadN X255.here hx rfl (hb hby d3_130) rfl ?_
        refine XS.land X255.here hx rfl (hb hby d3_131) rfl ?_
        refine XS.lconst X255.here hx rfl (hb hby d3_132) ?_
        refine XS.lcmp X255.here hx rfl (hb hby d3_133) rfl ?_
        exact k)
      by_cases hc259 : (lcmpW (w0 &&& (own_bit lv)) (0 : Int64)) = (0 : Int32)
      · obtain ⟨T260, X260, e260, st260⟩ := getF X255 hx hZ hown (host := "") (Or.inl (own_w hw 23 rfl)) Via.refl e255 H3_F (g := (mkF m 139 #[.val (.ref dd), .val (.int lv), .val (.int (own_key lv)), .val (.long (own_bit lv)), .second, .val (.int (0 : Int32)), .unset] [(.ref dd), (.ref dd)])) rfl rfl (hb hby d3_139)
        obtain ⟨cq261, q261, q261'⟩ := H0_E.cell
        obtain ⟨_, _, ⟨T261, L261, k261, n261⟩, -, X261, ⟨Lc261, hQ261, l261, y261, z261⟩, st261⟩ := X260.privateBack hx (y := (⟨"org/tallyrole/core/Dependencies", "reserve", "(I)V"⟩ : MethodName)) hown (mvT hZ (own_w hw 35 rfl)) (mvT hZ (own_w hw 36 rfl)) (own_sel_priv (z := (⟨"org/tallyrole/core/Dependencies", "add", "(I)V"⟩ : MethodName)) (mvT hZ (own_w hw 21 rfl)) rfl (mvP hZ (own_w hw 37 rfl)) (mvT hZ (own_w hw 36 rfl)) (by decide)) (Cond.privateMethod_at (mvP hZ (own_w hw 37 rfl) (args := #[]))) (mvT hZ (own_w hw 38 rfl)) (by decide) (backOf (W := 0) (rm_rv1_1_1 l Z a0 hw [] dd ka wa kk kw (1 : Int32) k0 w0 h0 n0 Z0 H0_E H1_F H2_F H3_F H4_F H5_A H6_A H7_E H8_E hdd hn1 hn2) hZ (own_w hw 38 rfl) (own_w hw 3 rfl) (by decide) (by decide)) (g := (mkF m 142 #[.val (.ref dd), .val (.int lv), .val (.int (own_key lv)), .val (.long (own_bit lv)), .second, .val (.int (0 : Int32)), .unset] [(.int (1 : Int32)), (.ref dd)])) rfl (by rw [hml]; rfl) (Steps.refl _) (a := dd) (by rw [e260]; exact q261) q261' (argsL := [(.int (1 : Int32))]) (rest := []) (lenOf pd_7 rfl) rfl (by show 2 * 0 + _ ≤ _; exact Nat.le_of_eq rfl) (hb hby d3_142) (fun _ _ => ⟨rfl, e260, (by decide : 0 + 2 ≤ _), (by decide : 0 + 2 ≤ _)⟩)
        dsimp only [Pt.U, Pt.locs, Pt.cells, Pt.slots] at X261 l261 y261 z261 st261 hQ261
        subst l261 y261 z261
        obtain ⟨x262, x263, x264, x265, rfl, N261q, hq266, hpq267, hpq268, hpq269, hpq270, hpq271, hpq272, hpq273, E274, F275, F276, F277, F278, A279, A280, E281, E282⟩ := hQ261
        have N261 := Fr.app N3 N261q
        have lt283 : dd < h0.size := H0_E.lt
        have lt284 : ka < h0.size := H5_A.lt
        have lt285 : wa < h0.size := H6_A.lt
        have A286 := H5_A.keep hq266 (ninS (Ne.symm hn1) nin0)
        have A287 := H6_A.keep hq266 (ninS (Ne.symm hn2) nin0)
        have E288 := H7_E.keep hq266
        have E289 := H8_E.keep hq266
        have K261 : Keep h0 T261.heap [dd] := K0.trans hq266 (allS (Or.inl (List.mem_of_getElem? (i := 0) rfl)) all0)
        have Zs290 : n0 ≤ T261.heap.size := (Nat.le_trans Z0 hq266.1)
        have ne291 : dd ≠ x262 := Nat.ne_of_lt (Nat.lt_of_lt_of_le lt283 hpq268)
        have ne292 : ka ≠ x262 := Nat.ne_of_lt (Nat.lt_of_lt_of_le lt284 hpq268)
        have ne293 : wa ≠ x262 := Nat.ne_of_lt (Nat.lt_of_lt_of_le lt285 hpq268)
        have sz294 : h0.size ≤ x262 := Nat.le_trans K0.1 hpq268
        have ne295 : dd ≠ x263 := Nat.ne_of_lt (Nat.lt_of_lt_of_le lt283 hpq270)
        have ne296 : ka ≠ x263 := Nat.ne_of_lt (Nat.lt_of_lt_of_le lt284 hpq270)
        have ne297 : wa ≠ x263 := Nat.ne_of_lt (Nat.lt_of_lt_of_le lt285 hpq270)
        have sz298 : h0.size ≤ x263 := Nat.le_trans K0.1 hpq270
        obtain ⟨T299, X299, e299, st299⟩ := getF X261 hx hZ hown (host := "") (Or.inl (own_w hw 16 rfl)) Via.refl rfl F276 (g := (mkF m 146 #[.val (.ref dd), .val (.int lv), .val (.int (own_key lv)), .val (.long (own_bit lv)), .second, .val (.int (0 : Int32)), .unset] [(.ref dd)])) rfl rfl (hb hby d3_146)
        have oc300 := A280
        obtain ⟨c300, Arc300, qc300, Sc300, Nc300, Hc300, Gc300⟩ := oc300
        have hin301 : ¬ ((0 : Int32) < 0 ∨ c300.slots.size ≤ ((0 : Int32)).toNatClampNeg) := (inb_of Sc300 ⟨by decide, by decide⟩)
        have oc302 := A280
        obtain ⟨c302, Arc302, qc302, Sc302, Nc302, Hc302, Gc302⟩ := oc302
        have hin303 : ¬ ((0 : Int32) < 0 ∨ c302.slots.size ≤ ((0 : Int32)).toNatClampNeg) := (inb_of Sc302 ⟨by decide, by decide⟩)
        obtain ⟨T303, h303, X303, e303, W303, st303⟩ := stJ X299 hx hZ e299 Arc302 (j := (0 : Int32)) hin303 (g := (mkF m 155 #[.val (.ref dd), .val (.int lv), .val (.int (own_key lv)), .val (.long (own_bit lv)), .second, .val (.int (0 : Int32)), .unset] [(.long (w0 ||| (own_bit lv))), (.int (0 : Int32)), (.ref x263)])) rfl rfl (hb hby d3_155)
        have V303 : Arv Z h303 x263 x265 .long (1 : Int32) [(.long (w0 ||| (own_bit lv)))] (.long (0 : Int64)) := Arv.set Arc302 qc302 Sc302 Nc302 Hc302 Gc302 rfl W303 0 rfl (Nat.le_of_ble_eq_true rfl)
        have A304 := A286.other W303 ne296
        have A305 := A287.other W303 ne297
        have E306 := E288.wr W303
        have E307 := E289.wr W303
        have E308 := E274.wr W303
        have F309 := F275.other W303 (Or.inl hpq272)
        have F310 := F276.other W303 (Or.inl hpq272)
        have F311 := F277.other W303 (Or.inl hpq272)
        have F312 := F278.other W303 (Or.inl hpq272)
        have A313 := A279.other W303 hpq273
        have E314 := E281.wr W303
        have E315 := E282.wr W303
        have N303 := Fr.snoc X303 N261 hpq269
        have K303 : Keep h0 h303 [dd] := K261.wr W303 (Or.inr sz298)
        have Zs316 : n0 ≤ h303.size := (Nat.le_trans Zs290 (Keep.of_wr W303).1)
        have pre317 := fun (t : State) (k : Steps p.tables e below (T303.setTop (mkF m 156 #[.val (.ref dd), .val (.int lv), .val (.int (own_key lv)), .val (.long (own_bit lv)), .second, .val (.int (0 : Int32)), .unset] [])) t) => pre258 t (by
          refine XS.ifNo X255.here hx rfl (hb hby d3_134) rfl ((if0 _ _).trans (teq hc259).2) ?_
          refine XS.aloadN X255.here hx rfl (hb hby d3_137) rfl rfl ?_
          refine XS.aloadN X255.here hx rfl (hb hby d3_138) rfl rfl ?_
          refine st260 _ ?_
          refine st261.trans ?_
          refine XS.aloadN X261.here hx rfl (hb hby d3_145) rfl rfl ?_
          refine st299 _ ?_
          refine XS.iload X299.here hx rfl (hb hby d3_149) rfl ?_
          jvm_step X299.here [X299.here.top, hx, (hb hby d3_151), Value.category]
          refine X299.laload hx (j := (0 : Int32)) (v := (.long w0)) (by rw [e299]; exact Arc300.1) (State.isArrayOf_alike hZ.alike Arc300.2.1) Arc300.2.2 hin301 (Has.at Hc300 hin301 rfl) (g := (mkF m 152 #[.val (.ref dd), .val (.int lv), .val (.int (own_key lv)), .val (.long (own_bit lv)), .second, .val (.int (0 : Int32)), .unset] [(.int (0 : Int32)), (.ref x263), (.int (0 : Int32)), (.ref x263)])) rfl rfl (hb hby d3_152) _ ?_
          refine XS.lloadN X299.here hx rfl (hb hby d3_153) rfl ?_
          refine XS.lor X299.here hx rfl (hb hby d3_154) rfl ?_
          refine st303 _ ?_
          exact k)
        obtain ⟨fs, hr, hrun, hended, hW, hsame⟩ := X303.leave (v := none) (hlocks := BodyLoose.notSynchronized Bd) (fun _ => rfl)
        refine ⟨_, _, pre317 _ ?_, hrun, hended, _, _, rfl, ?_, ⟨_, rfl⟩, hW, hsame.mono (by decide) (by decide)⟩
        · exact X303.returnOut hx Bd.returns (hb hby d3_156) hr
        · show Q_adS Z dd ka wa kk kw (1 : Int32) (1 : Int32) [(.int k0)] [(.long w0)] SS lv h0 n0 _ T303.heap _
          rw [e303]
          exact ⟨x262, x263, x264, x265, (1 : Int32), (1 : Int32), [(.int k0)], [(.long (w0 ||| (own_bit lv)))], (0 : Int32), rfl, N303, K303, hpq267, hpq269, (Or.inr sz294), (Or.inr sz298), hpq271, hpq272, hpq273, (Or.inl ⟨_, _, rfl, rfl, rfl, rfl, (own_r_or (A := []) (B := []) hrr (own_eq_of hb10 hb11))⟩), E308, F309, F310, F311, F312, A313, V303, E314, E315⟩
      · have pre318 := fun (t : State) (k : Steps p.tables e below (T255.setTop (mkF m 156 #[.val (.ref dd), .val (.int lv), .val (.int (own_key lv)), .val (.long (own_bit lv)), .second, .val (.int (0 : Int32)), .unset] [])) t) => pre258 t (by
          refine XS.ifYes X255.here hx rfl (pc0 := 134) (pc' := 156) rfl (hb hby d3_134) rfl ((if0 _ _).trans (feq hc259).2) (by decide) (by decide) ?_
          exact k)
        obtain ⟨fs, hr, hrun, hended, hW, hsame⟩ := X255.leave (v := none) (hlocks := BodyLoose.notSynchronized Bd) (fun _ => rfl)
        refine ⟨_, _, pre318 _ ?_, hrun, hended, _, _, rfl, ?_, ⟨_, rfl⟩, hW, hsame.mono (by decide) (by decide)⟩
        · exact X255.returnOut hx Bd.returns (hb hby d3_156) hr
        · show Q_adS Z dd ka wa kk kw (1 : Int32) (1 : Int32) [(.int k0)] [(.long w0)] SS lv h0 n0 _ T255.heap _
          rw [e255]
          exact ⟨ka, wa, kk, kw, (1 : Int32), (1 : Int32), [(.int k0)], [(.long w0)], (1 : Int32), rfl, N3, K0, hka, hwa, (Or.inl rfl), (Or.inl rfl), hn1, hn2, hn3, (Or.inl ⟨_, _, rfl, rfl, rfl, rfl, (own_r_had (A := []) (B := []) hrr (own_eq_of hb10 hb11) (fun q => hc259 ((lw_eq _ _).mpr q)))⟩), H0_E, H1_F, H2_F, H3_F, H4_F, H5_A, H6_A, H7_E, H8_E⟩
  · have ho0 : k0 < k1 := own_o0 hrr
    obtain ⟨T319, X319, e319, st319⟩ := getF X0 hx hZ hown (host := "") (Or.inl (own_w hw 12 rfl)) Via.refl e0 H1_F (g := (mkF m 10 #[.val (.ref dd), .val (.int lv), .val (.int (own_key lv)), .val (.long (own_bit lv)), .second, .unset, .unset] [(.ref dd)])) rfl rfl (hb hby d3_10)
    obtain ⟨T320, X320, e320, st320⟩ := getF X319 hx hZ hown (host := "") (Or.inl (own_w hw 23 rfl)) Via.refl e319 H3_F (g := (mkF m 15 #[.val (.ref dd), .val (.int lv), .val (.int (own_key lv)), .val (.long (own_bit lv)), .second, .unset, .unset] [(.ref dd), (.int (0 : Int32)), (.ref ka)])) rfl rfl (hb hby d3_15)
    obtain ⟨_, _, ⟨T321, L321, k321, n321⟩, -, X321, ⟨Lc321, hQ321, l321, y321, z321⟩, st321⟩ := Jvm.LawKit.callS X320 hx (y := (⟨"java/util/Arrays", "binarySearch", "([IIII)I"⟩ : MethodName)) hown (mvT hZ (own_w hw 25 rfl)) (mvT hZ (own_w hw 26 rfl)) (mvT hZ (own_w hw 27 rfl)) (mvT hZ (own_w hw 28 rfl)) (by decide) (backOf (W := 0) (rm_bs2_3 l Z a0 hw [] ka kk k0 k1 g2 (own_key lv) h0 n0 Z0 H5_A) hZ (own_w hw 28 rfl) (own_w hw 27 rfl) (by decide) (by decide)) (g := (mkF m 19 #[.val (.ref dd), .val (.int lv), .val (.int (own_key lv)), .val (.long (own_bit lv)), .second, .unset, .unset] [(.int (own_key lv)), (.int (2 : Int32)), (.int (0 : Int32)), (.ref ka)])) rfl (by rw [hml]; rfl) (argsL := [(.ref ka), (.int (0 : Int32)), (.int (2 : Int32)), (.int (own_key lv))]) (rest := []) (lenOf pd_1 rfl) rfl (by show 2 * 0 + _ ≤ _; exact Nat.le_of_eq rfl) (hb hby d3_19) (fun _ _ => ⟨rfl, e320, (by decide : 0 + 0 ≤ _), (by decide : 0 + 0 ≤ _)⟩)
    dsimp only [Pt.U, Pt.locs, Pt.cells, Pt.slots] at X321 l321 y321 z321 st321 hQ321
    subst l321 y321 z321
    obtain ⟨x322, rfl, N321q, hq323, hpq324⟩ := hQ321
    have N321 := Fr.app N0 N321q
    have pre337 := fun (t : State) (k : Steps p.tables e below (T321.setTop (mkF m 22 #[.val (.ref dd), .val (.int lv), .val (.int (own_key lv)), .val (.long (own_bit lv)), .second, .unset, .unset] [(.int x322)])) t) => pre0 t (by
      refine XS.iloadN X0.here hx rfl (hb hby d3_0) rfl ?_
      refine XS.bipush X0.here hx rfl (hb hby d3_1) ?_
      refine XS.iushr X0.here hx rfl (hb hby d3_3) rfl ?_
      show Steps p.tables e below (s₁.setTop (mkF m 4 #[.val (.ref dd), .val (.int lv), .unset, .unset, .unset, .unset, .unset] [(.int (own_key lv))])) _
      refine XS.istoreN X0.here hx rfl (hb hby d3_4) rfl (l' := #[.val (.ref dd), .val (.int lv), .val (.int (own_key lv)), .unset, .unset, .unset, .unset]) rfl ?_
      refine XS.lconst X0.here hx rfl (hb hby d3_5) ?_
      refine XS.iloadN X0.here hx rfl (hb hby d3_6) rfl ?_
      refine XS.lshl X0.here hx rfl (hb hby d3_7) rfl ?_
      show Steps p.tables e below (s₁.setTop (mkF m 8 #[.val (.ref dd), .val (.int lv), .val (.int (own_key lv)), .unset, .unset, .unset, .unset] [(.long (own_bit lv))])) _
      refine XS.lstoreN X0.here hx rfl (hb hby d3_8) rfl (l' := #[.val (.ref dd), .val (.int lv), .val (.int (own_key lv)), .val (.long (own_bit lv)), .second, .unset, .unset]) rfl ?_
      refine XS.aloadN X0.here hx rfl (hb hby d3_9) rfl rfl ?_
      refine st319 _ ?_
      refine XS.iconst X319.here hx rfl (hb hby d3_13) ?_
      refine XS.aloadN X319.here hx rfl (hb hby d3_14) rfl rfl ?_
      refine st320 _ ?_
      refine XS.iloadN X320.here hx rfl (hb hby d3_18) rfl ?_
      refine st321 _ ?_
      exact k)
    rcases hpq324 with ⟨rfl, hb325, hb326⟩ | ⟨rfl, hb327, hb328, hb329⟩ | ⟨rfl, hb330, hb331, hb332⟩ | ⟨rfl, hb333, hb334⟩ | ⟨rfl, hb335, hb336⟩
    · obtain ⟨T338, X338, e338, st338⟩ := getF X321 hx hZ hown (host := "") (Or.inl (own_w hw 23 rfl)) Via.refl hq323 H3_F (g := (mkF m 38 #[.val (.ref dd), .val (.int lv), .val (.int (own_key lv)), .val (.long (own_bit lv)), .second, .val (.int (-3 : Int32)), .val (.int (2 : Int32))] [(.ref dd), (.ref dd)])) rfl rfl (hb hby d3_38)
      obtain ⟨cq339, q339, q339'⟩ := H0_E.cell
      obtain ⟨_, _, ⟨T339, L339, k339, n339⟩, -, X339, ⟨Lc339, hQ339, l339, y339, z339⟩, st339⟩ := X338.privateBack hx (y := (⟨"org/tallyrole/core/Dependencies", "reserve", "(I)V"⟩ : MethodName)) hown (mvT hZ (own_w hw 35 rfl)) (mvT hZ (own_w hw 36 rfl)) (own_sel_priv (z := (⟨"org/tallyrole/core/Dependencies", "add", "(I)V"⟩ : MethodName)) (mvT hZ (own_w hw 21 rfl)) rfl (mvP hZ (own_w hw 37 rfl)) (mvT hZ (own_w hw 36 rfl)) (by decide)) (Cond.privateMethod_at (mvP hZ (own_w hw 37 rfl) (args := #[]))) (mvT hZ (own_w hw 38 rfl)) (by decide) (backOf (W := 0) (rm_rv3_3_1 l Z a0 hw [] dd ka wa kk kw (2 : Int32) k0 k1 g2 w0 w1 q2 h0 n0 Z0 H0_E H1_F H2_F H3_F H4_F H5_A H6_A H7_E H8_E hdd hn1 hn2) hZ (own_w hw 38 rfl) (own_w hw 3 rfl) (by decide) (by decide)) (g := (mkF m 43 #[.val (.ref dd), .val (.int lv), .val (.int (own_key lv)), .val (.long (own_bit lv)), .second, .val (.int (-3 : Int32)), .val (.int (2 : Int32))] [(.int (3 : Int32)), (.ref dd)])) rfl (by rw [hml]; rfl) (Steps.refl _) (a := dd) (by rw [e338]; exact q339) q339' (argsL := [(.int (3 : Int32))]) (rest := []) (lenOf pd_7 rfl) rfl (by show 2 * 0 + _ ≤ _; exact Nat.le_of_eq rfl) (hb hby d3_43) (fun _ _ => ⟨rfl, e338, (by decide : 0 + 2 ≤ _), (by decide : 0 + 6 ≤ _)⟩)
      dsimp only [Pt.U, Pt.locs, Pt.cells, Pt.slots] at X339 l339 y339 z339 st339 hQ339
      subst l339 y339 z339
      obtain ⟨x340, x341, x342, x343, rfl, N339q, hq344, hpq345, hpq346, hpq347, hpq348, hpq349, hpq350, hpq351, E352, F353, F354, F355, F356, A357, A358, E359, E360⟩ := hQ339
      have N339 := Fr.app N321 N339q
      have lt361 : dd < h0.size := H0_E.lt
      have lt362 : ka < h0.size := H5_A.lt
      have lt363 : wa < h0.size := H6_A.lt
      have A364 := H5_A.keep hq344 (ninS (Ne.symm hn1) nin0)
      have A365 := H6_A.keep hq344 (ninS (Ne.symm hn2) nin0)
      have E366 := H7_E.keep hq344
      have E367 := H8_E.keep hq344
      have K339 : Keep h0 T339.heap [dd] := K0.trans hq344 (allS (Or.inl (List.mem_of_getElem? (i := 0) rfl)) all0)
      have Zs368 : n0 ≤ T339.heap.size := (Nat.le_trans Z0 hq344.1)
      have ne369 : dd ≠ x340 := Nat.ne_of_lt (Nat.lt_of_lt_of_le lt361 hpq346)
      have ne370 : ka ≠ x340 := Nat.ne_of_lt (Nat.lt_of_lt_of_le lt362 hpq346)
      have ne371 : wa ≠ x340 := Nat.ne_of_lt (Nat.lt_of_lt_of_le lt363 hpq346)
      have sz372 : h0.size ≤ x340 := Nat.le_trans K0.1 hpq346
      have ne373 : dd ≠ x341 := Nat.ne_of_lt (Nat.lt_of_lt_of_le lt361 hpq348)
      have ne374 : ka ≠ x341 := Nat.ne_of_lt (Nat.lt_of_lt_of_le lt362 hpq348)
      have ne375 : wa ≠ x341 := Nat.ne_of_lt (Nat.lt_of_lt_of_le lt363 hpq348)
      have sz376 : h0.size ≤ x341 := Nat.le_trans K0.1 hpq348
      obtain ⟨T377, X377, e377, st377⟩ := getF X339 hx hZ hown (host := "") (Or.inl (own_w hw 12 rfl)) Via.refl rfl F353 (g := (mkF m 47 #[.val (.ref dd), .val (.int lv), .val (.int (own_key lv)), .val (.long (own_bit lv)), .second, .val (.int (-3 : Int32)), .val (.int (2 : Int32))] [(.ref dd)])) rfl rfl (hb hby d3_47)
      obtain ⟨T378, X378, e378, st378⟩ := getF X377 hx hZ hown (host := "") (Or.inl (own_w hw 12 rfl)) Via.refl e377 F353 (g := (mkF m 53 #[.val (.ref dd), .val (.int lv), .val (.int (own_key lv)), .val (.long (own_bit lv)), .second, .val (.int (-3 : Int32)), .val (.int (2 : Int32))] [(.ref dd), (.int (2 : Int32)), (.ref x340)])) rfl rfl (hb hby d3_53)
      obtain ⟨T379, X379, e379, st379⟩ := getF X378 hx hZ hown (host := "") (Or.inl (own_w hw 23 rfl)) Via.refl e378 F355 (g := (mkF m 61 #[.val (.ref dd), .val (.int lv), .val (.int (own_key lv)), .val (.long (own_bit lv)), .second, .val (.int (-3 : Int32)), .val (.int (2 : Int32))] [(.ref dd), (.int (3 : Int32)), (.ref x340), (.int (2 : Int32)), (.ref x340)])) rfl rfl (hb hby d3_61)
      obtain ⟨T380, h380, L380, X380, e380, N380, K380q, A380, st380⟩ := cpA X379 hx hZ hown (own_w hw 57 rfl) (own_w hw 52 rfl) (own_w hw 50 rfl) (own_w hw 51 rfl) e379 A357 A357 (Or.inl ⟨rfl, rfl⟩) (by decide) (by decide) (by decide) (by decide) (by decide) (us := []) rfl (Nat.le_of_ble_eq_true rfl) N339 hpq345 (g := (mkF m 67 #[.val (.ref dd), .val (.int lv), .val (.int (own_key lv)), .val (.long (own_bit lv)), .second, .val (.int (-3 : Int32)), .val (.int (2 : Int32))] [(.int (0 : Int32)), (.int (3 : Int32)), (.ref x340), (.int (2 : Int32)), (.ref x340)])) rfl (by rw [hml]; rfl) rfl (hb hby d3_67) (by decide) (W := 0) (by show 2 * 0 + _ ≤ _; exact Nat.le_of_eq rfl) (by decide)
      have V380 : Arv Z h380 x340 x342 .int (3 : Int32) [(.int k0), (.int k1), (.int g2)] (.int (0 : Int32)) := A380
      have A381 := A364.keep K380q (ninS ne370 nin0)
      have A382 := A365.keep K380q (ninS ne371 nin0)
      have E383 := E366.keep K380q
      have E384 := E367.keep K380q
      have E385 := E352.keep K380q
      have F386 := F353.keep K380q (ninS hpq349 nin0)
      have F387 := F354.keep K380q (ninS hpq349 nin0)
      have F388 := F355.keep K380q (ninS hpq349 nin0)
      have F389 := F356.keep K380q (ninS hpq349 nin0)
      have A390 := A358.keep K380q (ninS (Ne.symm hpq351) nin0)
      have E391 := E359.keep K380q
      have E392 := E360.keep K380q
      have K380 : Keep h0 h380 [dd] := K339.trans K380q (allS (Or.inr sz372) all0)
      have Zs393 : n0 ≤ h380.size := (Nat.le_trans Zs368 K380q.1)
      obtain ⟨T394, X394, e394, st394⟩ := getF X380 hx hZ hown (host := "") (Or.inl (own_w hw 16 rfl)) Via.refl e380 F387 (g := (mkF m 71 #[.val (.ref dd), .val (.int lv), .val (.int (own_key lv)), .val (.long (own_bit lv)), .second, .val (.int (-3 : Int32)), .val (.int (2 : Int32))] [(.ref dd)])) rfl rfl (hb hby d3_71)
      obtain ⟨T395, X395, e395, st395⟩ := getF X394 hx hZ hown (host := "") (Or.inl (own_w hw 16 rfl)) Via.refl e394 F387 (g := (mkF m 77 #[.val (.ref dd), .val (.int lv), .val (.int (own_key lv)), .val (.long (own_bit lv)), .second, .val (.int (-3 : Int32)), .val (.int (2 : Int32))] [(.ref dd), (.int (2 : Int32)), (.ref x341)])) rfl rfl (hb hby d3_77)
      obtain ⟨T396, X396, e396, st396⟩ := getF X395 hx hZ hown (host := "") (Or.inl (own_w hw 23 rfl)) Via.refl e395 F388 (g := (mkF m 85 #[.val (.ref dd), .val (.int lv), .val (.int (own_key lv)), .val (.long (own_bit lv)), .second, .val (.int (-3 : Int32)), .val (.int (2 : Int32))] [(.ref dd), (.int (3 : Int32)), (.ref x341), (.int (2 : Int32)), (.ref x341)])) rfl rfl (hb hby d3_85)
      obtain ⟨T397, h397, L397, X397, e397, N397, K397q, A397, st397⟩ := cpA X396 hx hZ hown (own_w hw 57 rfl) (own_w hw 52 rfl) (own_w hw 50 rfl) (own_w hw 51 rfl) e396 A390 A390 (Or.inl ⟨rfl, rfl⟩) (by decide) (by decide) (by decide) (by decide) (by decide) (us := []) rfl (Nat.le_of_ble_eq_true rfl) N380 hpq347 (g := (mkF m 91 #[.val (.ref dd), .val (.int lv), .val (.int (own_key lv)), .val (.long (own_bit lv)), .second, .val (.int (-3 : Int32)), .val (.int (2 : Int32))] [(.int (0 : Int32)), (.int (3 : Int32)), (.ref x341), (.int (2 : Int32)), (.ref x341)])) rfl (by rw [hml]; rfl) rfl (hb hby d3_91) (by decide) (W := 0) (by show 2 * 0 + _ ≤ _; exact Nat.le_of_eq rfl) (by decide)
      have V397 : Arv Z h397 x341 x343 .long (3 : Int32) [(.long w0), (.long w1), (.long q2)] (.long (0 : Int64)) := A397
      have A398 := A381.keep K397q (ninS ne374 nin0)
      have A399 := A382.keep K397q (ninS ne375 nin0)
      have E400 := E383.keep K397q
      have E401 := E384.keep K397q
      have E402 := E385.keep K397q
      have F403 := F386.keep K397q (ninS hpq350 nin0)
      have F404 := F387.keep K397q (ninS hpq350 nin0)
      have F405 := F388.keep K397q (ninS hpq350 nin0)
      have F406 := F389.keep K397q (ninS hpq350 nin0)
      have E407 := E391.keep K397q
      have E408 := E392.keep K397q
      have A409 := V380.keep K397q (ninS hpq351 nin0)
      have K397 : Keep h0 h397 [dd] := K380.trans K397q (allS (Or.inr sz376) all0)
      have Zs410 : n0 ≤ h397.size := (Nat.le_trans Zs393 K397q.1)
      obtain ⟨T411, X411, e411, st411⟩ := getF X397 hx hZ hown (host := "") (Or.inl (own_w hw 12 rfl)) Via.refl e397 F403 (g := (mkF m 95 #[.val (.ref dd), .val (.int lv), .val (.int (own_key lv)), .val (.long (own_bit lv)), .second, .val (.int (-3 : Int32)), .val (.int (2 : Int32))] [(.ref dd)])) rfl rfl (hb hby d3_95)
      have oc412 := A409
      obtain ⟨c412, Arc412, qc412, Sc412, Nc412, Hc412, Gc412⟩ := oc412
      have hin413 : ¬ ((2 : Int32) < 0 ∨ c412.slots.size ≤ ((2 : Int32)).toNatClampNeg) := (inb_of Sc412 ⟨by decide, by decide⟩)
      obtain ⟨T413, h413, X413, e413, W413, st413⟩ := stI X411 hx hZ e411 Arc412 (j := (2 : Int32)) hin413 (g := (mkF m 101 #[.val (.ref dd), .val (.int lv), .val (.int (own_key lv)), .val (.long (own_bit lv)), .second, .val (.int (-3 : Int32)), .val (.int (2 : Int32))] [(.int (own_key lv)), (.int (2 : Int32)), (.ref x340)])) rfl rfl (hb hby d3_101)
      have V413 : Arv Z h413 x340 x342 .int (3 : Int32) [(.int k0), (.int k1), (.int (own_key lv))] (.int (0 : Int32)) := Arv.set Arc412 qc412 Sc412 Nc412 Hc412 Gc412 rfl W413 2 rfl (Nat.le_of_ble_eq_true rfl)
      have A414 := A398.other W413 ne370
      have A415 := A399.other W413 ne371
      have E416 := E400.wr W413
      have E417 := E401.wr W413
      have E418 := E402.wr W413
      have F419 := F403.other W413 (Or.inl hpq349)
      have F420 := F404.other W413 (Or.inl hpq349)
      have F421 := F405.other W413 (Or.inl hpq349)
      have F422 := F406.other W413 (Or.inl hpq349)
      have E423 := E407.wr W413
      have E424 := E408.wr W413
      have A425 := V397.other W413 (Ne.symm hpq351)
      have N413 := Fr.snoc X413 N397 hpq345
      have K413 : Keep h0 h413 [dd] := K397.wr W413 (Or.inr sz372)
      have Zs426 : n0 ≤ h413.size := (Nat.le_trans Zs410 (Keep.of_wr W413).1)
      obtain ⟨T427, X427, e427, st427⟩ := getF X413 hx hZ hown (host := "") (Or.inl (own_w hw 16 rfl)) Via.refl e413 F420 (g := (mkF m 103 #[.val (.ref dd), .val (.int lv), .val (.int (own_key lv)), .val (.long (own_bit lv)), .second, .val (.int (-3 : Int32)), .val (.int (2 : Int32))] [(.ref dd)])) rfl rfl (hb hby d3_103)
      have oc428 := A425
      obtain ⟨c428, Arc428, qc428, Sc428, Nc428, Hc428, Gc428⟩ := oc428
      have hin429 : ¬ ((2 : Int32) < 0 ∨ c428.slots.size ≤ ((2 : Int32)).toNatClampNeg) := (inb_of Sc428 ⟨by decide, by decide⟩)
      obtain ⟨T429, h429, X429, e429, W429, st429⟩ := stJ X427 hx hZ e427 Arc428 (j := (2 : Int32)) hin429 (g := (mkF m 109 #[.val (.ref dd), .val (.int lv), .val (.int (own_key lv)), .val (.long (own_bit lv)), .second, .val (.int (-3 : Int32)), .val (.int (2 : Int32))] [(.long (own_bit lv)), (.int (2 : Int32)), (.ref x341)])) rfl rfl (hb hby d3_109)
      have V429 : Arv Z h429 x341 x343 .long (3 : Int32) [(.long w0), (.long w1), (.long (own_bit lv))] (.long (0 : Int64)) := Arv.set Arc428 qc428 Sc428 Nc428 Hc428 Gc428 rfl W429 2 rfl (Nat.le_of_ble_eq_true rfl)
      have A430 := A414.other W429 ne374
      have A431 := A415.other W429 ne375
      have E432 := E416.wr W429
      have E433 := E417.wr W429
      have E434 := E418.wr W429
      have F435 := F419.other W429 (Or.inl hpq350)
      have F436 := F420.other W429 (Or.inl hpq350)
      have F437 := F421.other W429 (Or.inl hpq350)
      have F438 := F422.other W429 (Or.inl hpq350)
      have E439 := E423.wr W429
      have E440 := E424.wr W429
      have A441 := V413.other W429 hpq351
      have N429 := Fr.snoc X429 N413 hpq347
      have K429 : Keep h0 h429 [dd] := K413.wr W429 (Or.inr sz376)
      have Zs442 : n0 ≤ h429.size := (Nat.le_trans Zs426 (Keep.of_wr W429).1)
      obtain ⟨T443, X443, e443, st443⟩ := getF X429 hx hZ hown (host := "") (Or.inl (own_w hw 23 rfl)) Via.refl e429 F437 (g := (mkF m 112 #[.val (.ref dd), .val (.int lv), .val (.int (own_key lv)), .val (.long (own_bit lv)), .second, .val (.int (-3 : Int32)), .val (.int (2 : Int32))] [(.ref dd), (.ref dd)])) rfl rfl (hb hby d3_112)
      obtain ⟨T444, h444, X444, e444, W444, st444⟩ := putF X443 hx hZ hown (host := "") (Or.inl (own_w hw 23 rfl)) Via.refl e443 F437 E434 (Or.inl (own_w hw 24 rfl)) (own_w hw 2 rfl) (ty := .int) (by decide) rfl rfl (g := (mkF m 117 #[.val (.ref dd), .val (.int lv), .val (.int (own_key lv)), .val (.long (own_bit lv)), .second, .val (.int (-3 : Int32)), .val (.int (2 : Int32))] [(.int (3 : Int32)), (.ref dd)])) rfl rfl (hb hby d3_117)
      have Fw444 : Fld Z h444 dd "org/tallyrole/core/Dependencies" "size" "I" (.int (3 : Int32)) := F437.same W444
      have A445 := A430.other W444 (Ne.symm hn1)
      have A446 := A431.other W444 (Ne.symm hn2)
      have E447 := E432.wr W444
      have E448 := E433.wr W444
      have E449 := E434.wr W444
      have F450 := F435.other W444 (Or.inr (slot_ne (Or.inl (own_w hw 13 rfl)) (Or.inl (own_w hw 24 rfl)) (by decide) (t := (.array .int)) (t' := .int) (by decide) (by decide)))
      have F451 := F436.other W444 (Or.inr (slot_ne (Or.inl (own_w hw 17 rfl)) (Or.inl (own_w hw 24 rfl)) (by decide) (t := (.array .long)) (t' := .int) (by decide) (by decide)))
      have F452 := F438.other W444 (Or.inr (slot_ne (Or.inl (own_w hw 40 rfl)) (Or.inl (own_w hw 24 rfl)) (by decide) (t := .boolean) (t' := .int) (by decide) (by decide)))
      have E453 := E439.wr W444
      have E454 := E440.wr W444
      have A455 := A441.other W444 (Ne.symm hpq349)
      have A456 := V429.other W444 (Ne.symm hpq350)
      have N444 := Fr.snoc X444 N429 hdd
      have K444 : Keep h0 h444 [dd] := K429.wr W444 (Or.inl (List.mem_of_getElem? (i := 0) rfl))
      have Zs457 : n0 ≤ h444.size := (Nat.le_trans Zs442 (Keep.of_wr W444).1)
      have pre458 := fun (t : State) (k : Steps p.tables e below (T444.setTop (mkF m 156 #[.val (.ref dd), .val (.int lv), .val (.int (own_key lv)), .val (.long (own_bit lv)), .second, .val (.int (-3 : Int32)), .val (.int (2 : Int32))] [])) t) => pre337 t (by
        refine XS.istore X321.here hx rfl (hb hby d3_22) rfl (l' := #[.val (.ref dd), .val (.int lv), .val (.int (own_key lv)), .val (.long (own_bit lv)), .second, .val (.int (-3 : Int32)), .unset]) rfl ?_
        refine XS.iload X321.here hx rfl (hb hby d3_24) rfl ?_
        refine XS.ifNo X321.here hx rfl (hb hby d3_26) rfl ((if0 _ _).trans (tlt (by decide : (-3 : Int32) < (0 : Int32))).2.1) ?_
        refine XS.iload X321.here hx rfl (hb hby d3_29) rfl ?_
        refine XS.ineg X321.here hx rfl (hb hby d3_31) rfl ?_
        refine XS.iconst X321.here hx rfl (hb hby d3_32) ?_
        refine XS.isub X321.here hx rfl (hb hby d3_33) rfl ?_
        refine XS.istore X321.here hx rfl (hb hby d3_34) rfl (l' := #[.val (.ref dd), .val (.int lv), .val (.int (own_key lv)), .val (.long (own_bit lv)), .second, .val (.int (-3 : Int32)), .val (.int (2 : Int32))]) rfl ?_
        refine XS.aloadN X321.here hx rfl (hb hby d3_36) rfl rfl ?_
        refine XS.aloadN X321.here hx rfl (hb hby d3_37) rfl rfl ?_
        refine st338 _ ?_
        refine XS.iconst X338.here hx rfl (hb hby d3_41) ?_
        refine XS.iadd X338.here hx rfl (hb hby d3_42) rfl ?_
        refine st339.trans ?_
        refine XS.aloadN X339.here hx rfl (hb hby d3_46) rfl rfl ?_
        refine st377 _ ?_
        refine XS.iload X377.here hx rfl (hb hby d3_50) rfl ?_
        refine XS.aloadN X377.here hx rfl (hb hby d3_52) rfl rfl ?_
        refine st378 _ ?_
        refine XS.iload X378.here hx rfl (hb hby d3_56) rfl ?_
        refine XS.iconst X378.here hx rfl (hb hby d3_58) ?_
        refine XS.iadd X378.here hx rfl (hb hby d3_59) rfl ?_
        refine XS.aloadN X378.here hx rfl (hb hby d3_60) rfl rfl ?_
        refine st379 _ ?_
        refine XS.iload X379.here hx rfl (hb hby d3_64) rfl ?_
        refine XS.isub X379.here hx rfl (hb hby d3_66) rfl ?_
        refine st380 _ ?_
        refine XS.aloadN X380.here hx rfl (hb hby d3_70) rfl rfl ?_
        refine st394 _ ?_
        refine XS.iload X394.here hx rfl (hb hby d3_74) rfl ?_
        refine XS.aloadN X394.here hx rfl (hb hby d3_76) rfl rfl ?_
        refine st395 _ ?_
        refine XS.iload X395.here hx rfl (hb hby d3_80) rfl ?_
        refine XS.iconst X395.here hx rfl (hb hby d3_82) ?_
        refine XS.iadd X395.here hx rfl (hb hby d3_83) rfl ?_
        refine XS.aloadN X395.here hx rfl (hb hby d3_84) rfl rfl ?_
        refine st396 _ ?_
        refine XS.iload X396.here hx rfl (hb hby d3_88) rfl ?_
        refine XS.isub X396.here hx rfl (hb hby d3_90) rfl ?_
        refine st397 _ ?_
        refine XS.aloadN X397.here hx rfl (hb hby d3_94) rfl rfl ?_
        refine st411 _ ?_
        refine XS.iload X411.here hx rfl (hb hby d3_98) rfl ?_
        refine XS.iloadN X411.here hx rfl (hb hby d3_100) rfl ?_
        refine st413 _ ?_
        refine XS.aloadN X413.here hx rfl (hb hby d3_102) rfl rfl ?_
        refine st427 _ ?_
        refine XS.iload X427.here hx rfl (hb hby d3_106) rfl ?_
        refine XS.lloadN X427.here hx rfl (hb hby d3_108) rfl ?_
        refine st429 _ ?_
        refine XS.aloadN X429.here hx rfl (hb hby d3_110) rfl rfl ?_
        refine XS.dup X429.here hx rfl (hb hby d3_111) rfl rfl ?_
        refine st443 _ ?_
        refine XS.iconst X443.here hx rfl (hb hby d3_115) ?_
        refine XS.iadd X443.here hx rfl (hb hby d3_116) rfl ?_
        refine st444 _ ?_
        refine XS.goto X444.here hx rfl (pc0 := 120) (pc' := 156) rfl (hb hby d3_120) (by decide) (by decide) ?_
        exact k)
      obtain ⟨fs, hr, hrun, hended, hW, hsame⟩ := X444.leave (v := none) (hlocks := BodyLoose.notSynchronized Bd) (fun _ => rfl)
      refine ⟨_, _, pre458 _ ?_, hrun, hended, _, _, rfl, ?_, ⟨_, rfl⟩, hW, hsame.mono (by decide) (by decide)⟩
      · exact X444.returnOut hx Bd.returns (hb hby d3_156) hr
      · show Q_adS Z dd ka wa kk kw (3 : Int32) (2 : Int32) [(.int k0), (.int k1), (.int g2)] [(.long w0), (.long w1), (.long q2)] SS lv h0 n0 _ T444.heap _
        rw [e444]
        exact ⟨x340, x341, x342, x343, (3 : Int32), (3 : Int32), [(.int k0), (.int k1), (.int (own_key lv))], [(.long w0), (.long w1), (.long (own_bit lv))], (0 : Int32), rfl, N444, K444, hpq345, hpq347, (Or.inr sz372), (Or.inr sz376), hpq349, hpq350, hpq351, (Or.inr (Or.inr (Or.inr ⟨_, _, _, _, _, _, rfl, rfl, rfl, rfl, (own_r_ins (A := [(k0, w0), (k1, w1)]) (B := []) hrr hlv (List.forall_mem_cons.mpr ⟨hb325, (List.forall_mem_cons.mpr ⟨hb326, (List.forall_mem_nil _)⟩)⟩) (List.forall_mem_nil _))⟩))), E449, F450, F451, Fw444, F452, A455, A456, E453, E454⟩
    · obtain ⟨T459, X459, e459, st459⟩ := getF X321 hx hZ hown (host := "") (Or.inl (own_w hw 23 rfl)) Via.refl hq323 H3_F (g := (mkF m 38 #[.val (.ref dd), .val (.int lv), .val (.int (own_key lv)), .val (.long (own_bit lv)), .second, .val (.int (-2 : Int32)), .val (.int (1 : Int32))] [(.ref dd), (.ref dd)])) rfl rfl (hb hby d3_38)
      obtain ⟨cq460, q460, q460'⟩ := H0_E.cell
      obtain ⟨_, _, ⟨T460, L460, k460, n460⟩, -, X460, ⟨Lc460, hQ460, l460, y460, z460⟩, st460⟩ := X459.privateBack hx (y := (⟨"org/tallyrole/core/Dependencies", "reserve", "(I)V"⟩ : MethodName)) hown (mvT hZ (own_w hw 35 rfl)) (mvT hZ (own_w hw 36 rfl)) (own_sel_priv (z := (⟨"org/tallyrole/core/Dependencies", "add", "(I)V"⟩ : MethodName)) (mvT hZ (own_w hw 21 rfl)) rfl (mvP hZ (own_w hw 37 rfl)) (mvT hZ (own_w hw 36 rfl)) (by decide)) (Cond.privateMethod_at (mvP hZ (own_w hw 37 rfl) (args := #[]))) (mvT hZ (own_w hw 38 rfl)) (by decide) (backOf (W := 0) (rm_rv3_3_1 l Z a0 hw [] dd ka wa kk kw (2 : Int32) k0 k1 g2 w0 w1 q2 h0 n0 Z0 H0_E H1_F H2_F H3_F H4_F H5_A H6_A H7_E H8_E hdd hn1 hn2) hZ (own_w hw 38 rfl) (own_w hw 3 rfl) (by decide) (by decide)) (g := (mkF m 43 #[.val (.ref dd), .val (.int lv), .val (.int (own_key lv)), .val (.long (own_bit lv)), .second, .val (.int (-2 : Int32)), .val (.int (1 : Int32))] [(.int (3 : Int32)), (.ref dd)])) rfl (by rw [hml]; rfl) (Steps.refl _) (a := dd) (by rw [e459]; exact q460) q460' (argsL := [(.int (3 : Int32))]) (rest := []) (lenOf pd_7 rfl) rfl (by show 2 * 0 + _ ≤ _; exact Nat.le_of_eq rfl) (hb hby d3_43) (fun _ _ => ⟨rfl, e459, (by decide : 0 + 2 ≤ _), (by decide : 0 + 6 ≤ _)⟩)
      dsimp only [Pt.U, Pt.locs, Pt.cells, Pt.slots] at X460 l460 y460 z460 st460 hQ460
      subst l460 y460 z460
      obtain ⟨x461, x462, x463, x464, rfl, N460q, hq465, hpq466, hpq467, hpq468, hpq469, hpq470, hpq471, hpq472, E473, F474, F475, F476, F477, A478, A479, E480, E481⟩ := hQ460
      have N460 := Fr.app N321 N460q
      have lt482 : dd < h0.size := H0_E.lt
      have lt483 : ka < h0.size := H5_A.lt
      have lt484 : wa < h0.size := H6_A.lt
      have A485 := H5_A.keep hq465 (ninS (Ne.symm hn1) nin0)
      have A486 := H6_A.keep hq465 (ninS (Ne.symm hn2) nin0)
      have E487 := H7_E.keep hq465
      have E488 := H8_E.keep hq465
      have K460 : Keep h0 T460.heap [dd] := K0.trans hq465 (allS (Or.inl (List.mem_of_getElem? (i := 0) rfl)) all0)
      have Zs489 : n0 ≤ T460.heap.size := (Nat.le_trans Z0 hq465.1)
      have ne490 : dd ≠ x461 := Nat.ne_of_lt (Nat.lt_of_lt_of_le lt482 hpq467)
      have ne491 : ka ≠ x461 := Nat.ne_of_lt (Nat.lt_of_lt_of_le lt483 hpq467)
      have ne492 : wa ≠ x461 := Nat.ne_of_lt (Nat.lt_of_lt_of_le lt484 hpq467)
      have sz493 : h0.size ≤ x461 := Nat.le_trans K0.1 hpq467
      have ne494 : dd ≠ x462 := Nat.ne_of_lt (Nat.lt_of_lt_of_le lt482 hpq469)
      have ne495 : ka ≠ x462 := Nat.ne_of_lt (Nat.lt_of_lt_of_le lt483 hpq469)
      have ne496 : wa ≠ x462 := Nat.ne_of_lt (Nat.lt_of_lt_of_le lt484 hpq469)
      have sz497 : h0.size ≤ x462 := Nat.le_trans K0.1 hpq469
      obtain ⟨T498, X498, e498, st498⟩ := getF X460 hx hZ hown (host := "") (Or.inl (own_w hw 12 rfl)) Via.refl rfl F474 (g := (mkF m 47 #[.val (.ref dd), .val (.int lv), .val (.int (own_key lv)), .val (.long (own_bit lv)), .second, .val (.int (-2 : Int32)), .val (.int (1 : Int32))] [(.ref dd)])) rfl rfl (hb hby d3_47)
      obtain ⟨T499, X499, e499, st499⟩ := getF X498 hx hZ hown (host := "") (Or.inl (own_w hw 12 rfl)) Via.refl e498 F474 (g := (mkF m 53 #[.val (.ref dd), .val (.int lv), .val (.int (own_key lv)), .val (.long (own_bit lv)), .second, .val (.int (-2 : Int32)), .val (.int (1 : Int32))] [(.ref dd), (.int (1 : Int32)), (.ref x461)])) rfl rfl (hb hby d3_53)
      obtain ⟨T500, X500, e500, st500⟩ := getF X499 hx hZ hown (host := "") (Or.inl (own_w hw 23 rfl)) Via.refl e499 F476 (g := (mkF m 61 #[.val (.ref dd), .val (.int lv), .val (.int (own_key lv)), .val (.long (own_bit lv)), .second, .val (.int (-2 : Int32)), .val (.int (1 : Int32))] [(.ref dd), (.int (2 : Int32)), (.ref x461), (.int (1 : Int32)), (.ref x461)])) rfl rfl (hb hby d3_61)
      obtain ⟨T501, h501, L501, X501, e501, N501, K501q, A501, st501⟩ := cpA X500 hx hZ hown (own_w hw 57 rfl) (own_w hw 52 rfl) (own_w hw 50 rfl) (own_w hw 51 rfl) e500 A478 A478 (Or.inl ⟨rfl, rfl⟩) (by decide) (by decide) (by decide) (by decide) (by decide) (us := [(.int k1)]) rfl (Nat.le_of_ble_eq_true rfl) N460 hpq466 (g := (mkF m 67 #[.val (.ref dd), .val (.int lv), .val (.int (own_key lv)), .val (.long (own_bit lv)), .second, .val (.int (-2 : Int32)), .val (.int (1 : Int32))] [(.int (1 : Int32)), (.int (2 : Int32)), (.ref x461), (.int (1 : Int32)), (.ref x461)])) rfl (by rw [hml]; rfl) rfl (hb hby d3_67) (by decide) (W := 0) (by show 2 * 0 + _ ≤ _; exact Nat.le_of_eq rfl) (by decide)
      have V501 : Arv Z h501 x461 x463 .int (3 : Int32) [(.int k0), (.int k1), (.int k1)] (.int (0 : Int32)) := A501
      have A502 := A485.keep K501q (ninS ne491 nin0)
      have A503 := A486.keep K501q (ninS ne492 nin0)
      have E504 := E487.keep K501q
      have E505 := E488.keep K501q
      have E506 := E473.keep K501q
      have F507 := F474.keep K501q (ninS hpq470 nin0)
      have F508 := F475.keep K501q (ninS hpq470 nin0)
      have F509 := F476.keep K501q (ninS hpq470 nin0)
      have F510 := F477.keep K501q (ninS hpq470 nin0)
      have A511 := A479.keep K501q (ninS (Ne.symm hpq472) nin0)
      have E512 := E480.keep K501q
      have E513 := E481.keep K501q
      have K501 : Keep h0 h501 [dd] := K460.trans K501q (allS (Or.inr sz493) all0)
      have Zs514 : n0 ≤ h501.size := (Nat.le_trans Zs489 K501q.1)
      obtain ⟨T515, X515, e515, st515⟩ := getF X501 hx hZ hown (host := "") (Or.inl (own_w hw 16 rfl)) Via.refl e501 F508 (g := (mkF m 71 #[.val (.ref dd), .val (.int lv), .val (.int (own_key lv)), .val (.long (own_bit lv)), .second, .val (.int (-2 : Int32)), .val (.int (1 : Int32))] [(.ref dd)])) rfl rfl (hb hby d3_71)
      obtain ⟨T516, X516, e516, st516⟩ := getF X515 hx hZ hown (host := "") (Or.inl (own_w hw 16 rfl)) Via.refl e515 F508 (g := (mkF m 77 #[.val (.ref dd), .val (.int lv), .val (.int (own_key lv)), .val (.long (own_bit lv)), .second, .val (.int (-2 : Int32)), .val (.int (1 : Int32))] [(.ref dd), (.int (1 : Int32)), (.ref x462)])) rfl rfl (hb hby d3_77)
      obtain ⟨T517, X517, e517, st517⟩ := getF X516 hx hZ hown (host := "") (Or.inl (own_w hw 23 rfl)) Via.refl e516 F509 (g := (mkF m 85 #[.val (.ref dd), .val (.int lv), .val (.int (own_key lv)), .val (.long (own_bit lv)), .second, .val (.int (-2 : Int32)), .val (.int (1 : Int32))] [(.ref dd), (.int (2 : Int32)), (.ref x462), (.int (1 : Int32)), (.ref x462)])) rfl rfl (hb hby d3_85)
      obtain ⟨T518, h518, L518, X518, e518, N518, K518q, A518, st518⟩ := cpA X517 hx hZ hown (own_w hw 57 rfl) (own_w hw 52 rfl) (own_w hw 50 rfl) (own_w hw 51 rfl) e517 A511 A511 (Or.inl ⟨rfl, rfl⟩) (by decide) (by decide) (by decide) (by decide) (by decide) (us := [(.long w1)]) rfl (Nat.le_of_ble_eq_true rfl) N501 hpq468 (g := (mkF m 91 #[.val (.ref dd), .val (.int lv), .val (.int (own_key lv)), .val (.long (own_bit lv)), .second, .val (.int (-2 : Int32)), .val (.int (1 : Int32))] [(.int (1 : Int32)), (.int (2 : Int32)), (.ref x462), (.int (1 : Int32)), (.ref x462)])) rfl (by rw [hml]; rfl) rfl (hb hby d3_91) (by decide) (W := 0) (by show 2 * 0 + _ ≤ _; exact Nat.le_of_eq rfl) (by decide)
      have V518 : Arv Z h518 x462 x464 .long (3 : Int32) [(.long w0), (.long w1), (.long w1)] (.long (0 : Int64)) := A518
      have A519 := A502.keep K518q (ninS ne495 nin0)
      have A520 := A503.keep K518q (ninS ne496 nin0)
      have E521 := E504.keep K518q
      have E522 := E505.keep K518q
      have E523 := E506.keep K518q
      have F524 := F507.keep K518q (ninS hpq471 nin0)
      have F525 := F508.keep K518q (ninS hpq471 nin0)
      have F526 := F509.keep K518q (ninS hpq471 nin0)
      have F527 := F510.keep K518q (ninS hpq471 nin0)
      have E528 := E512.keep K518q
      have E529 := E513.keep K518q
      have A530 := V501.keep K518q (ninS hpq472 nin0)
      have K518 : Keep h0 h518 [dd] := K501.trans K518q (allS (Or.inr sz497) all0)
      have Zs531 : n0 ≤ h518.size := (Nat.le_trans Zs514 K518q.1)
      obtain ⟨T532, X532, e532, st532⟩ := getF X518 hx hZ hown (host := "") (Or.inl (own_w hw 12 rfl)) Via.refl e518 F524 (g := (mkF m 95 #[.val (.ref dd), .val (.int lv), .val (.int (own_key lv)), .val (.long (own_bit lv)), .second, .val (.int (-2 : Int32)), .val (.int (1 : Int32))] [(.ref dd)])) rfl rfl (hb hby d3_95)
      have oc533 := A530
      obtain ⟨c533, Arc533, qc533, Sc533, Nc533, Hc533, Gc533⟩ := oc533
      have hin534 : ¬ ((1 : Int32) < 0 ∨ c533.slots.size ≤ ((1 : Int32)).toNatClampNeg) := (inb_of Sc533 ⟨by decide, by decide⟩)
      obtain ⟨T534, h534, X534, e534, W534, st534⟩ := stI X532 hx hZ e532 Arc533 (j := (1 : Int32)) hin534 (g := (mkF m 101 #[.val (.ref dd), .val (.int lv), .val (.int (own_key lv)), .val (.long (own_bit lv)), .second, .val (.int (-2 : Int32)), .val (.int (1 : Int32))] [(.int (own_key lv)), (.int (1 : Int32)), (.ref x461)])) rfl rfl (hb hby d3_101)
      have V534 : Arv Z h534 x461 x463 .int (3 : Int32) [(.int k0), (.int (own_key lv)), (.int k1)] (.int (0 : Int32)) := Arv.set Arc533 qc533 Sc533 Nc533 Hc533 Gc533 rfl W534 1 rfl (Nat.le_of_ble_eq_true rfl)
      have A535 := A519.other W534 ne491
      have A536 := A520.other W534 ne492
      have E537 := E521.wr W534
      have E538 := E522.wr W534
      have E539 := E523.wr W534
      have F540 := F524.other W534 (Or.inl hpq470)
      have F541 := F525.other W534 (Or.inl hpq470)
      have F542 := F526.other W534 (Or.inl hpq470)
      have F543 := F527.other W534 (Or.inl hpq470)
      have E544 := E528.wr W534
      have E545 := E529.wr W534
      have A546 := V518.other W534 (Ne.symm hpq472)
      have N534 := Fr.snoc X534 N518 hpq466
      have K534 : Keep h0 h534 [dd] := K518.wr W534 (Or.inr sz493)
      have Zs547 : n0 ≤ h534.size := (Nat.le_trans Zs531 (Keep.of_wr W534).1)
      obtain ⟨T548, X548, e548, st548⟩ := getF X534 hx hZ hown (host := "") (Or.inl (own_w hw 16 rfl)) Via.refl e534 F541 (g := (mkF m 103 #[.val (.ref dd), .val (.int lv), .val (.int (own_key lv)), .val (.long (own_bit lv)), .second, .val (.int (-2 : Int32)), .val (.int (1 : Int32))] [(.ref dd)])) rfl rfl (hb hby d3_103)
      have oc549 := A546
      obtain ⟨c549, Arc549, qc549, Sc549, Nc549, Hc549, Gc549⟩ := oc549
      have hin550 : ¬ ((1 : Int32) < 0 ∨ c549.slots.size ≤ ((1 : Int32)).toNatClampNeg) := (inb_of Sc549 ⟨by decide, by decide⟩)
      obtain ⟨T550, h550, X550, e550, W550, st550⟩ := stJ X548 hx hZ e548 Arc549 (j := (1 : Int32)) hin550 (g := (mkF m 109 #[.val (.ref dd), .val (.int lv), .val (.int (own_key lv)), .val (.long (own_bit lv)), .second, .val (.int (-2 : Int32)), .val (.int (1 : Int32))] [(.long (own_bit lv)), (.int (1 : Int32)), (.ref x462)])) rfl rfl (hb hby d3_109)
      have V550 : Arv Z h550 x462 x464 .long (3 : Int32) [(.long w0), (.long (own_bit lv)), (.long w1)] (.long (0 : Int64)) := Arv.set Arc549 qc549 Sc549 Nc549 Hc549 Gc549 rfl W550 1 rfl (Nat.le_of_ble_eq_true rfl)
      have A551 := A535.other W550 ne495
      have A552 := A536.other W550 ne496
      have E553 := E537.wr W550
      have E554 := E538.wr W550
      have E555 := E539.wr W550
      have F556 := F540.other W550 (Or.inl hpq471)
      have F557 := F541.other W550 (Or.inl hpq471)
      have F558 := F542.other W550 (Or.inl hpq471)
      have F559 := F543.other W550 (Or.inl hpq471)
      have E560 := E544.wr W550
      have E561 := E545.wr W550
      have A562 := V534.other W550 hpq472
      have N550 := Fr.snoc X550 N534 hpq468
      have K550 : Keep h0 h550 [dd] := K534.wr W550 (Or.inr sz497)
      have Zs563 : n0 ≤ h550.size := (Nat.le_trans Zs547 (Keep.of_wr W550).1)
      obtain ⟨T564, X564, e564, st564⟩ := getF X550 hx hZ hown (host := "") (Or.inl (own_w hw 23 rfl)) Via.refl e550 F558 (g := (mkF m 112 #[.val (.ref dd), .val (.int lv), .val (.int (own_key lv)), .val (.long (own_bit lv)), .second, .val (.int (-2 : Int32)), .val (.int (1 : Int32))] [(.ref dd), (.ref dd)])) rfl rfl (hb hby d3_112)
      obtain ⟨T565, h565, X565, e565, W565, st565⟩ := putF X564 hx hZ hown (host := "") (Or.inl (own_w hw 23 rfl)) Via.refl e564 F558 E555 (Or.inl (own_w hw 24 rfl)) (own_w hw 2 rfl) (ty := .int) (by decide) rfl rfl (g := (mkF m 117 #[.val (.ref dd), .val (.int lv), .val (.int (own_key lv)), .val (.long (own_bit lv)), .second, .val (.int (-2 : Int32)), .val (.int (1 : Int32))] [(.int (3 : Int32)), (.ref dd)])) rfl rfl (hb hby d3_117)
      have Fw565 : Fld Z h565 dd "org/tallyrole/core/Dependencies" "size" "I" (.int (3 : Int32)) := F558.same W565
      have A566 := A551.other W565 (Ne.symm hn1)
      have A567 := A552.other W565 (Ne.symm hn2)
      have E568 := E553.wr W565
      have E569 := E554.wr W565
      have E570 := E555.wr W565
      have F571 := F556.other W565 (Or.inr (slot_ne (Or.inl (own_w hw 13 rfl)) (Or.inl (own_w hw 24 rfl)) (by decide) (t := (.array .int)) (t' := .int) (by decide) (by decide)))
      have F572 := F557.other W565 (Or.inr (slot_ne (Or.inl (own_w hw 17 rfl)) (Or.inl (own_w hw 24 rfl)) (by decide) (t := (.array .long)) (t' := .int) (by decide) (by decide)))
      have F573 := F559.other W565 (Or.inr (slot_ne (Or.inl (own_w hw 40 rfl)) (Or.inl (own_w hw 24 rfl)) (by decide) (t := .boolean) (t' := .int) (by decide) (by decide)))
      have E574 := E560.wr W565
      have E575 := E561.wr W565
      have A576 := A562.other W565 (Ne.symm hpq470)
      have A577 := V550.other W565 (Ne.symm hpq471)
      have N565 := Fr.snoc X565 N550 hdd
      have K565 : Keep h0 h565 [dd] := K550.wr W565 (Or.inl (List.mem_of_getElem? (i := 0) rfl))
      have Zs578 : n0 ≤ h565.size := (Nat.le_trans Zs563 (Keep.of_wr W565).1)
      have pre579 := fun (t : State) (k : Steps p.tables e below (T565.setTop (mkF m 156 #[.val (.ref dd), .val (.int lv), .val (.int (own_key lv)), .val (.long (own_bit lv)), .second, .val (.int (-2 : Int32)), .val (.int (1 : Int32))] [])) t) => pre337 t (by
        refine XS.istore X321.here hx rfl (hb hby d3_22) rfl (l' := #[.val (.ref dd), .val (.int lv), .val (.int (own_key lv)), .val (.long (own_bit lv)), .second, .val (.int (-2 : Int32)), .unset]) rfl ?_
        refine XS.iload X321.here hx rfl (hb hby d3_24) rfl ?_
        refine XS.ifNo X321.here hx rfl (hb hby d3_26) rfl ((if0 _ _).trans (tlt (by decide : (-2 : Int32) < (0 : Int32))).2.1) ?_
        refine XS.iload X321.here hx rfl (hb hby d3_29) rfl ?_
        refine XS.ineg X321.here hx rfl (hb hby d3_31) rfl ?_
        refine XS.iconst X321.here hx rfl (hb hby d3_32) ?_
        refine XS.isub X321.here hx rfl (hb hby d3_33) rfl ?_
        refine XS.istore X321.here hx rfl (hb hby d3_34) rfl (l' := #[.val (.ref dd), .val (.int lv), .val (.int (own_key lv)), .val (.long (own_bit lv)), .second, .val (.int (-2 : Int32)), .val (.int (1 : Int32))]) rfl ?_
        refine XS.aloadN X321.here hx rfl (hb hby d3_36) rfl rfl ?_
        refine XS.aloadN X321.here hx rfl (hb hby d3_37) rfl rfl ?_
        refine st459 _ ?_
        refine XS.iconst X459.here hx rfl (hb hby d3_41) ?_
        refine XS.iadd X459.here hx rfl (hb hby d3_42) rfl ?_
        refine st460.trans ?_
        refine XS.aloadN X460.here hx rfl (hb hby d3_46) rfl rfl ?_
        refine st498 _ ?_
        refine XS.iload X498.here hx rfl (hb hby d3_50) rfl ?_
        refine XS.aloadN X498.here hx rfl (hb hby d3_52) rfl rfl ?_
        refine st499 _ ?_
        refine XS.iload X499.here hx rfl (hb hby d3_56) rfl ?_
        refine XS.iconst X499.here hx rfl (hb hby d3_58) ?_
        refine XS.iadd X499.here hx rfl (hb hby d3_59) rfl ?_
        refine XS.aloadN X499.here hx rfl (hb hby d3_60) rfl rfl ?_
        refine st500 _ ?_
        refine XS.iload X500.here hx rfl (hb hby d3_64) rfl ?_
        refine XS.isub X500.here hx rfl (hb hby d3_66) rfl ?_
        refine st501 _ ?_
        refine XS.aloadN X501.here hx rfl (hb hby d3_70) rfl rfl ?_
        refine st515 _ ?_
        refine XS.iload X515.here hx rfl (hb hby d3_74) rfl ?_
        refine XS.aloadN X515.here hx rfl (hb hby d3_76) rfl rfl ?_
        refine st516 _ ?_
        refine XS.iload X516.here hx rfl (hb hby d3_80) rfl ?_
        refine XS.iconst X516.here hx rfl (hb hby d3_82) ?_
        refine XS.iadd X516.here hx rfl (hb hby d3_83) rfl ?_
        refine XS.aloadN X516.here hx rfl (hb hby d3_84) rfl rfl ?_
        refine st517 _ ?_
        refine XS.iload X517.here hx rfl (hb hby d3_88) rfl ?_
        refine XS.isub X517.here hx rfl (hb hby d3_90) rfl ?_
        refine st518 _ ?_
        refine XS.aloadN X518.here hx rfl (hb hby d3_94) rfl rfl ?_
        refine st532 _ ?_
        refine XS.iload X532.here hx rfl (hb hby d3_98) rfl ?_
        refine XS.iloadN X532.here hx rfl (hb hby d3_100) rfl ?_
        refine st534 _ ?_
        refine XS.aloadN X534.here hx rfl (hb hby d3_102) rfl rfl ?_
        refine st548 _ ?_
        refine XS.iload X548.here hx rfl (hb hby d3_106) rfl ?_
        refine XS.lloadN X548.here hx rfl (hb hby d3_108) rfl ?_
        refine st550 _ ?_
        refine XS.aloadN X550.here hx rfl (hb hby d3_110) rfl rfl ?_
        refine XS.dup X550.here hx rfl (hb hby d3_111) rfl rfl ?_
        refine st564 _ ?_
        refine XS.iconst X564.here hx rfl (hb hby d3_115) ?_
        refine XS.iadd X564.here hx rfl (hb hby d3_116) rfl ?_
        refine st565 _ ?_
        refine XS.goto X565.here hx rfl (pc0 := 120) (pc' := 156) rfl (hb hby d3_120) (by decide) (by decide) ?_
        exact k)
      obtain ⟨fs, hr, hrun, hended, hW, hsame⟩ := X565.leave (v := none) (hlocks := BodyLoose.notSynchronized Bd) (fun _ => rfl)
      refine ⟨_, _, pre579 _ ?_, hrun, hended, _, _, rfl, ?_, ⟨_, rfl⟩, hW, hsame.mono (by decide) (by decide)⟩
      · exact X565.returnOut hx Bd.returns (hb hby d3_156) hr
      · show Q_adS Z dd ka wa kk kw (3 : Int32) (2 : Int32) [(.int k0), (.int k1), (.int g2)] [(.long w0), (.long w1), (.long q2)] SS lv h0 n0 _ T565.heap _
        rw [e565]
        exact ⟨x461, x462, x463, x464, (3 : Int32), (3 : Int32), [(.int k0), (.int (own_key lv)), (.int k1)], [(.long w0), (.long (own_bit lv)), (.long w1)], (0 : Int32), rfl, N565, K565, hpq466, hpq468, (Or.inr sz493), (Or.inr sz497), hpq470, hpq471, hpq472, (Or.inr (Or.inr (Or.inr ⟨_, _, _, _, _, _, rfl, rfl, rfl, rfl, (own_r_ins (A := [(k0, w0)]) (B := [(k1, w1)]) hrr hlv (List.forall_mem_cons.mpr ⟨hb327, (List.forall_mem_nil _)⟩) (List.forall_mem_cons.mpr ⟨hb329, (List.forall_mem_nil _)⟩))⟩))), E570, F571, F572, Fw565, F573, A576, A577, E574, E575⟩
    · obtain ⟨T580, X580, e580, st580⟩ := getF X321 hx hZ hown (host := "") (Or.inl (own_w hw 16 rfl)) Via.refl hq323 H2_F (g := (mkF m 124 #[.val (.ref dd), .val (.int lv), .val (.int (own_key lv)), .val (.long (own_bit lv)), .second, .val (.int (1 : Int32)), .unset] [(.ref dd)])) rfl rfl (hb hby d3_124)
      have oc581 := H6_A
      obtain ⟨c581, Arc581, qc581, Sc581, Nc581, Hc581, Gc581⟩ := oc581
      have hin582 : ¬ ((1 : Int32) < 0 ∨ c581.slots.size ≤ ((1 : Int32)).toNatClampNeg) := (inb_of Sc581 ⟨by decide, by decide⟩)
      have pre583 := fun (t : State) (k : Steps p.tables e below (T580.setTop (mkF m 134 #[.val (.ref dd), .val (.int lv), .val (.int (own_key lv)), .val (.long (own_bit lv)), .second, .val (.int (1 : Int32)), .unset] [(.int (lcmpW (w1 &&& (own_bit lv)) (0 : Int64)))])) t) => pre337 t (by
        refine XS.istore X321.here hx rfl (hb hby d3_22) rfl (l' := #[.val (.ref dd), .val (.int lv), .val (.int (own_key lv)), .val (.long (own_bit lv)), .second, .val (.int (1 : Int32)), .unset]) rfl ?_
        refine XS.iload X321.here hx rfl (hb hby d3_24) rfl ?_
        refine XS.ifYes X321.here hx rfl (pc0 := 26) (pc' := 123) rfl (hb hby d3_26) rfl ((if0 _ _).trans (flt (by decide : ¬ ((1 : Int32) < (0 : Int32)))).2.1) (by decide) (by decide) ?_
        refine XS.aloadN X321.here hx rfl (hb hby d3_123) rfl rfl ?_
        refine st580 _ ?_
        refine XS.iload X580.here hx rfl (hb hby d3_127) rfl ?_
        refine X580.laload hx (j := (1 : Int32)) (v := (.long w1)) (by rw [e580]; exact Arc581.1) (State.isArrayOf_alike hZ.alike Arc581.2.1) Arc581.2.2 hin582 (Has.at Hc581 hin582 rfl) (g := (mkF m 129 #[.val (.ref dd), .val (.int lv), .val (.int (own_key lv)), .val (.long (own_bit lv)), .second, .val (.int (1 : Int32)), .unset] [(.int (1 : Int32)), (.ref wa)])) rfl rfl (hb hby d3_129) _ ?_
        refine XS.lloadN X580.here hx rfl (hb hby d3_130) rfl ?_
        refine XS.land X580.here hx rfl (hb hby d3_131) rfl ?_
        refine XS.lconst X580.here hx rfl (hb hby d3_132) ?_
        refine XS.lcmp X580.here hx rfl (hb hby d3_133) rfl ?_
        exact k)
      by_cases hc584 : (lcmpW (w1 &&& (own_bit lv)) (0 : Int64)) = (0 : Int32)
      · obtain ⟨T585, X585, e585, st585⟩ := getF X580 hx hZ hown (host := "") (Or.inl (own_w hw 23 rfl)) Via.refl e580 H3_F (g := (mkF m 139 #[.val (.ref dd), .val (.int lv), .val (.int (own_key lv)), .val (.long (own_bit lv)), .second, .val (.int (1 : Int32)), .unset] [(.ref dd), (.ref dd)])) rfl rfl (hb hby d3_139)
        obtain ⟨cq586, q586, q586'⟩ := H0_E.cell
        obtain ⟨_, _, ⟨T586, L586, k586, n586⟩, -, X586, ⟨Lc586, hQ586, l586, y586, z586⟩, st586⟩ := X585.privateBack hx (y := (⟨"org/tallyrole/core/Dependencies", "reserve", "(I)V"⟩ : MethodName)) hown (mvT hZ (own_w hw 35 rfl)) (mvT hZ (own_w hw 36 rfl)) (own_sel_priv (z := (⟨"org/tallyrole/core/Dependencies", "add", "(I)V"⟩ : MethodName)) (mvT hZ (own_w hw 21 rfl)) rfl (mvP hZ (own_w hw 37 rfl)) (mvT hZ (own_w hw 36 rfl)) (by decide)) (Cond.privateMethod_at (mvP hZ (own_w hw 37 rfl) (args := #[]))) (mvT hZ (own_w hw 38 rfl)) (by decide) (backOf (W := 0) (rm_rv3_2_1 l Z a0 hw [] dd ka wa kk kw (2 : Int32) k0 k1 g2 w0 w1 q2 h0 n0 Z0 H0_E H1_F H2_F H3_F H4_F H5_A H6_A hdd hn1 hn2) hZ (own_w hw 38 rfl) (own_w hw 3 rfl) (by decide) (by decide)) (g := (mkF m 142 #[.val (.ref dd), .val (.int lv), .val (.int (own_key lv)), .val (.long (own_bit lv)), .second, .val (.int (1 : Int32)), .unset] [(.int (2 : Int32)), (.ref dd)])) rfl (by rw [hml]; rfl) (Steps.refl _) (a := dd) (by rw [e585]; exact q586) q586' (argsL := [(.int (2 : Int32))]) (rest := []) (lenOf pd_7 rfl) rfl (by show 2 * 0 + _ ≤ _; exact Nat.le_of_eq rfl) (hb hby d3_142) (fun _ _ => ⟨rfl, e585, (by decide : 0 + 2 ≤ _), (by decide : 0 + 4 ≤ _)⟩)
        dsimp only [Pt.U, Pt.locs, Pt.cells, Pt.slots] at X586 l586 y586 z586 st586 hQ586
        subst l586 y586 z586
        obtain ⟨x587, x588, x589, x590, rfl, N586q, hq591, hpq592, hpq593, hpq594, hpq595, hpq596, hpq597, hpq598, E599, F600, F601, F602, F603, A604, A605, E606, E607⟩ := hQ586
        have N586 := Fr.app N321 N586q
        have lt608 : dd < h0.size := H0_E.lt
        have lt609 : ka < h0.size := H5_A.lt
        have lt610 : wa < h0.size := H6_A.lt
        have A611 := H5_A.keep hq591 (ninS (Ne.symm hn1) nin0)
        have A612 := H6_A.keep hq591 (ninS (Ne.symm hn2) nin0)
        have E613 := H7_E.keep hq591
        have E614 := H8_E.keep hq591
        have K586 : Keep h0 T586.heap [dd] := K0.trans hq591 (allS (Or.inl (List.mem_of_getElem? (i := 0) rfl)) all0)
        have Zs615 : n0 ≤ T586.heap.size := (Nat.le_trans Z0 hq591.1)
        have ne616 : dd ≠ x587 := Nat.ne_of_lt (Nat.lt_of_lt_of_le lt608 hpq593)
        have ne617 : ka ≠ x587 := Nat.ne_of_lt (Nat.lt_of_lt_of_le lt609 hpq593)
        have ne618 : wa ≠ x587 := Nat.ne_of_lt (Nat.lt_of_lt_of_le lt610 hpq593)
        have sz619 : h0.size ≤ x587 := Nat.le_trans K0.1 hpq593
        have ne620 : dd ≠ x588 := Nat.ne_of_lt (Nat.lt_of_lt_of_le lt608 hpq595)
        have ne621 : ka ≠ x588 := Nat.ne_of_lt (Nat.lt_of_lt_of_le lt609 hpq595)
        have ne622 : wa ≠ x588 := Nat.ne_of_lt (Nat.lt_of_lt_of_le lt610 hpq595)
        have sz623 : h0.size ≤ x588 := Nat.le_trans K0.1 hpq595
        obtain ⟨T624, X624, e624, st624⟩ := getF X586 hx hZ hown (host := "") (Or.inl (own_w hw 16 rfl)) Via.refl rfl F601 (g := (mkF m 146 #[.val (.ref dd), .val (.int lv), .val (.int (own_key lv)), .val (.long (own_bit lv)), .second, .val (.int (1 : Int32)), .unset] [(.ref dd)])) rfl rfl (hb hby d3_146)
        have oc625 := A605
        obtain ⟨c625, Arc625, qc625, Sc625, Nc625, Hc625, Gc625⟩ := oc625
        have hin626 : ¬ ((1 : Int32) < 0 ∨ c625.slots.size ≤ ((1 : Int32)).toNatClampNeg) := (inb_of Sc625 ⟨by decide, by decide⟩)
        have oc627 := A605
        obtain ⟨c627, Arc627, qc627, Sc627, Nc627, Hc627, Gc627⟩ := oc627
        have hin628 : ¬ ((1 : Int32) < 0 ∨ c627.slots.size ≤ ((1 : Int32)).toNatClampNeg) := (inb_of Sc627 ⟨by decide, by decide⟩)
        obtain ⟨T628, h628, X628, e628, W628, st628⟩ := stJ X624 hx hZ e624 Arc627 (j := (1 : Int32)) hin628 (g := (mkF m 155 #[.val (.ref dd), .val (.int lv), .val (.int (own_key lv)), .val (.long (own_bit lv)), .second, .val (.int (1 : Int32)), .unset] [(.long (w1 ||| (own_bit lv))), (.int (1 : Int32)), (.ref x588)])) rfl rfl (hb hby d3_155)
        have V628 : Arv Z h628 x588 x590 .long (2 : Int32) [(.long w0), (.long (w1 ||| (own_bit lv)))] (.long (0 : Int64)) := Arv.set Arc627 qc627 Sc627 Nc627 Hc627 Gc627 rfl W628 1 rfl (Nat.le_of_ble_eq_true rfl)
        have A629 := A611.other W628 ne621
        have A630 := A612.other W628 ne622
        have E631 := E613.wr W628
        have E632 := E614.wr W628
        have E633 := E599.wr W628
        have F634 := F600.other W628 (Or.inl hpq597)
        have F635 := F601.other W628 (Or.inl hpq597)
        have F636 := F602.other W628 (Or.inl hpq597)
        have F637 := F603.other W628 (Or.inl hpq597)
        have A638 := A604.other W628 hpq598
        have E639 := E606.wr W628
        have E640 := E607.wr W628
        have N628 := Fr.snoc X628 N586 hpq594
        have K628 : Keep h0 h628 [dd] := K586.wr W628 (Or.inr sz623)
        have Zs641 : n0 ≤ h628.size := (Nat.le_trans Zs615 (Keep.of_wr W628).1)
        have pre642 := fun (t : State) (k : Steps p.tables e below (T628.setTop (mkF m 156 #[.val (.ref dd), .val (.int lv), .val (.int (own_key lv)), .val (.long (own_bit lv)), .second, .val (.int (1 : Int32)), .unset] [])) t) => pre583 t (by
          refine XS.ifNo X580.here hx rfl (hb hby d3_134) rfl ((if0 _ _).trans (teq hc584).2) ?_
          refine XS.aloadN X580.here hx rfl (hb hby d3_137) rfl rfl ?_
          refine XS.aloadN X580.here hx rfl (hb hby d3_138) rfl rfl ?_
          refine st585 _ ?_
          refine st586.trans ?_
          refine XS.aloadN X586.here hx rfl (hb hby d3_145) rfl rfl ?_
          refine st624 _ ?_
          refine XS.iload X624.here hx rfl (hb hby d3_149) rfl ?_
          jvm_step X624.here [X624.here.top, hx, (hb hby d3_151), Value.category]
          refine X624.laload hx (j := (1 : Int32)) (v := (.long w1)) (by rw [e624]; exact Arc625.1) (State.isArrayOf_alike hZ.alike Arc625.2.1) Arc625.2.2 hin626 (Has.at Hc625 hin626 rfl) (g := (mkF m 152 #[.val (.ref dd), .val (.int lv), .val (.int (own_key lv)), .val (.long (own_bit lv)), .second, .val (.int (1 : Int32)), .unset] [(.int (1 : Int32)), (.ref x588), (.int (1 : Int32)), (.ref x588)])) rfl rfl (hb hby d3_152) _ ?_
          refine XS.lloadN X624.here hx rfl (hb hby d3_153) rfl ?_
          refine XS.lor X624.here hx rfl (hb hby d3_154) rfl ?_
          refine st628 _ ?_
          exact k)
        obtain ⟨fs, hr, hrun, hended, hW, hsame⟩ := X628.leave (v := none) (hlocks := BodyLoose.notSynchronized Bd) (fun _ => rfl)
        refine ⟨_, _, pre642 _ ?_, hrun, hended, _, _, rfl, ?_, ⟨_, rfl⟩, hW, hsame.mono (by decide) (by decide)⟩
        · exact X628.returnOut hx Bd.returns (hb hby d3_156) hr
        · show Q_adS Z dd ka wa kk kw (3 : Int32) (2 : Int32) [(.int k0), (.int k1), (.int g2)] [(.long w0), (.long w1), (.long q2)] SS lv h0 n0 _ T628.heap _
          rw [e628]
          exact ⟨x587, x588, x589, x590, (2 : Int32), (2 : Int32), [(.int k0), (.int k1)], [(.long w0), (.long (w1 ||| (own_bit lv)))], (0 : Int32), rfl, N628, K628, hpq592, hpq594, (Or.inr sz619), (Or.inr sz623), hpq596, hpq597, hpq598, (Or.inr (Or.inl ⟨_, _, _, _, rfl, rfl, rfl, rfl, (own_r_or (A := [(k0, w0)]) (B := []) hrr (own_eq_of hb331 hb332))⟩)), E633, F634, F635, F636, F637, A638, V628, E639, E640⟩
      · have pre643 := fun (t : State) (k : Steps p.tables e below (T580.setTop (mkF m 156 #[.val (.ref dd), .val (.int lv), .val (.int (own_key lv)), .val (.long (own_bit lv)), .second, .val (.int (1 : Int32)), .unset] [])) t) => pre583 t (by
          refine XS.ifYes X580.here hx rfl (pc0 := 134) (pc' := 156) rfl (hb hby d3_134) rfl ((if0 _ _).trans (feq hc584).2) (by decide) (by decide) ?_
          exact k)
        obtain ⟨fs, hr, hrun, hended, hW, hsame⟩ := X580.leave (v := none) (hlocks := BodyLoose.notSynchronized Bd) (fun _ => rfl)
        refine ⟨_, _, pre643 _ ?_, hrun, hended, _, _, rfl, ?_, ⟨_, rfl⟩, hW, hsame.mono (by decide) (by decide)⟩
        · exact X580.returnOut hx Bd.returns (hb hby d3_156) hr
        · show Q_adS Z dd ka wa kk kw (3 : Int32) (2 : Int32) [(.int k0), (.int k1), (.int g2)] [(.long w0), (.long w1), (.long q2)] SS lv h0 n0 _ T580.heap _
          rw [e580]
          exact ⟨ka, wa, kk, kw, (3 : Int32), (2 : Int32), [(.int k0), (.int k1), (.int g2)], [(.long w0), (.long w1), (.long q2)], (1 : Int32), rfl, N321, K0, hka, hwa, (Or.inl rfl), (Or.inl rfl), hn1, hn2, hn3, (Or.inr (Or.inr (Or.inl ⟨_, _, _, _, _, _, rfl, rfl, rfl, rfl, (own_r_had (A := [(k0, w0)]) (B := []) hrr (own_eq_of hb331 hb332) (fun q => hc584 ((lw_eq _ _).mpr q)))⟩))), H0_E, H1_F, H2_F, H3_F, H4_F, H5_A, H6_A, H7_E, H8_E⟩
    · obtain ⟨T644, X644, e644, st644⟩ := getF X321 hx hZ hown (host := "") (Or.inl (own_w hw 23 rfl)) Via.refl hq323 H3_F (g := (mkF m 38 #[.val (.ref dd), .val (.int lv), .val (.int (own_key lv)), .val (.long (own_bit lv)), .second, .val (.int (-1 : Int32)), .val (.int (0 : Int32))] [(.ref dd), (.ref dd)])) rfl rfl (hb hby d3_38)
      obtain ⟨cq645, q645, q645'⟩ := H0_E.cell
      obtain ⟨_, _, ⟨T645, L645, k645, n645⟩, -, X645, ⟨Lc645, hQ645, l645, y645, z645⟩, st645⟩ := X644.privateBack hx (y := (⟨"org/tallyrole/core/Dependencies", "reserve", "(I)V"⟩ : MethodName)) hown (mvT hZ (own_w hw 35 rfl)) (mvT hZ (own_w hw 36 rfl)) (own_sel_priv (z := (⟨"org/tallyrole/core/Dependencies", "add", "(I)V"⟩ : MethodName)) (mvT hZ (own_w hw 21 rfl)) rfl (mvP hZ (own_w hw 37 rfl)) (mvT hZ (own_w hw 36 rfl)) (by decide)) (Cond.privateMethod_at (mvP hZ (own_w hw 37 rfl) (args := #[]))) (mvT hZ (own_w hw 38 rfl)) (by decide) (backOf (W := 0) (rm_rv3_3_1 l Z a0 hw [] dd ka wa kk kw (2 : Int32) k0 k1 g2 w0 w1 q2 h0 n0 Z0 H0_E H1_F H2_F H3_F H4_F H5_A H6_A H7_E H8_E hdd hn1 hn2) hZ (own_w hw 38 rfl) (own_w hw 3 rfl) (by decide) (by decide)) (g := (mkF m 43 #[.val (.ref dd), .val (.int lv), .val (.int (own_key lv)), .val (.long (own_bit lv)), .second, .val (.int (-1 : Int32)), .val (.int (0 : Int32))] [(.int (3 : Int32)), (.ref dd)])) rfl (by rw [hml]; rfl) (Steps.refl _) (a := dd) (by rw [e644]; exact q645) q645' (argsL := [(.int (3 : Int32))]) (rest := []) (lenOf pd_7 rfl) rfl (by show 2 * 0 + _ ≤ _; exact Nat.le_of_eq rfl) (hb hby d3_43) (fun _ _ => ⟨rfl, e644, (by decide : 0 + 2 ≤ _), (by decide : 0 + 6 ≤ _)⟩)
      dsimp only [Pt.U, Pt.locs, Pt.cells, Pt.slots] at X645 l645 y645 z645 st645 hQ645
      subst l645 y645 z645
      obtain ⟨x646, x647, x648, x649, rfl, N645q, hq650, hpq651, hpq652, hpq653, hpq654, hpq655, hpq656, hpq657, E658, F659, F660, F661, F662, A663, A664, E665, E666⟩ := hQ645
      have N645 := Fr.app N321 N645q
      have lt667 : dd < h0.size := H0_E.lt
      have lt668 : ka < h0.size := H5_A.lt
      have lt669 : wa < h0.size := H6_A.lt
      have A670 := H5_A.keep hq650 (ninS (Ne.symm hn1) nin0)
      have A671 := H6_A.keep hq650 (ninS (Ne.symm hn2) nin0)
      have E672 := H7_E.keep hq650
      have E673 := H8_E.keep hq650
      have K645 : Keep h0 T645.heap [dd] := K0.trans hq650 (allS (Or.inl (List.mem_of_getElem? (i := 0) rfl)) all0)
      have Zs674 : n0 ≤ T645.heap.size := (Nat.le_trans Z0 hq650.1)
      have ne675 : dd ≠ x646 := Nat.ne_of_lt (Nat.lt_of_lt_of_le lt667 hpq652)
      have ne676 : ka ≠ x646 := Nat.ne_of_lt (Nat.lt_of_lt_of_le lt668 hpq652)
      have ne677 : wa ≠ x646 := Nat.ne_of_lt (Nat.lt_of_lt_of_le lt669 hpq652)
      have sz678 : h0.size ≤ x646 := Nat.le_trans K0.1 hpq652
      have ne679 : dd ≠ x647 := Nat.ne_of_lt (Nat.lt_of_lt_of_le lt667 hpq654)
      have ne680 : ka ≠ x647 := Nat.ne_of_lt (Nat.lt_of_lt_of_le lt668 hpq654)
      have ne681 : wa ≠ x647 := Nat.ne_of_lt (Nat.lt_of_lt_of_le lt669 hpq654)
      have sz682 : h0.size ≤ x647 := Nat.le_trans K0.1 hpq654
      obtain ⟨T683, X683, e683, st683⟩ := getF X645 hx hZ hown (host := "") (Or.inl (own_w hw 12 rfl)) Via.refl rfl F659 (g := (mkF m 47 #[.val (.ref dd), .val (.int lv), .val (.int (own_key lv)), .val (.long (own_bit lv)), .second, .val (.int (-1 : Int32)), .val (.int (0 : Int32))] [(.ref dd)])) rfl rfl (hb hby d3_47)
      obtain ⟨T684, X684, e684, st684⟩ := getF X683 hx hZ hown (host := "") (Or.inl (own_w hw 12 rfl)) Via.refl e683 F659 (g := (mkF m 53 #[.val (.ref dd), .val (.int lv), .val (.int (own_key lv)), .val (.long (own_bit lv)), .second, .val (.int (-1 : Int32)), .val (.int (0 : Int32))] [(.ref dd), (.int (0 : Int32)), (.ref x646)])) rfl rfl (hb hby d3_53)
      obtain ⟨T685, X685, e685, st685⟩ := getF X684 hx hZ hown (host := "") (Or.inl (own_w hw 23 rfl)) Via.refl e684 F661 (g := (mkF m 61 #[.val (.ref dd), .val (.int lv), .val (.int (own_key lv)), .val (.long (own_bit lv)), .second, .val (.int (-1 : Int32)), .val (.int (0 : Int32))] [(.ref dd), (.int (1 : Int32)), (.ref x646), (.int (0 : Int32)), (.ref x646)])) rfl rfl (hb hby d3_61)
      obtain ⟨T686, h686, L686, X686, e686, N686, K686q, A686, st686⟩ := cpA X685 hx hZ hown (own_w hw 57 rfl) (own_w hw 52 rfl) (own_w hw 50 rfl) (own_w hw 51 rfl) e685 A663 A663 (Or.inl ⟨rfl, rfl⟩) (by decide) (by decide) (by decide) (by decide) (by decide) (us := [(.int k0), (.int k1)]) rfl (Nat.le_of_ble_eq_true rfl) N645 hpq651 (g := (mkF m 67 #[.val (.ref dd), .val (.int lv), .val (.int (own_key lv)), .val (.long (own_bit lv)), .second, .val (.int (-1 : Int32)), .val (.int (0 : Int32))] [(.int (2 : Int32)), (.int (1 : Int32)), (.ref x646), (.int (0 : Int32)), (.ref x646)])) rfl (by rw [hml]; rfl) rfl (hb hby d3_67) (by decide) (W := 0) (by show 2 * 0 + _ ≤ _; exact Nat.le_of_eq rfl) (by decide)
      have V686 : Arv Z h686 x646 x648 .int (3 : Int32) [(.int k0), (.int k0), (.int k1)] (.int (0 : Int32)) := A686
      have A687 := A670.keep K686q (ninS ne676 nin0)
      have A688 := A671.keep K686q (ninS ne677 nin0)
      have E689 := E672.keep K686q
      have E690 := E673.keep K686q
      have E691 := E658.keep K686q
      have F692 := F659.keep K686q (ninS hpq655 nin0)
      have F693 := F660.keep K686q (ninS hpq655 nin0)
      have F694 := F661.keep K686q (ninS hpq655 nin0)
      have F695 := F662.keep K686q (ninS hpq655 nin0)
      have A696 := A664.keep K686q (ninS (Ne.symm hpq657) nin0)
      have E697 := E665.keep K686q
      have E698 := E666.keep K686q
      have K686 : Keep h0 h686 [dd] := K645.trans K686q (allS (Or.inr sz678) all0)
      have Zs699 : n0 ≤ h686.size := (Nat.le_trans Zs674 K686q.1)
      obtain ⟨T700, X700, e700, st700⟩ := getF X686 hx hZ hown (host := "") (Or.inl (own_w hw 16 rfl)) Via.refl e686 F693 (g := (mkF m 71 #[.val (.ref dd), .val (.int lv), .val (.int (own_key lv)), .val (.long (own_bit lv)), .second, .val (.int (-1 : Int32)), .val (.int (0 : Int32))] [(.ref dd)])) rfl rfl (hb hby d3_71)
      obtain ⟨T701, X701, e701, st701⟩ := getF X700 hx hZ hown (host := "") (Or.inl (own_w hw 16 rfl)) Via.refl e700 F693 (g := (mkF m 77 #[.val (.ref dd), .val (.int lv), .val (.int (own_key lv)), .val (.long (own_bit lv)), .second, .val (.int (-1 : Int32)), .val (.int (0 : Int32))] [(.ref dd), (.int (0 : Int32)), (.ref x647)])) rfl rfl (hb hby d3_77)
      obtain ⟨T702, X702, e702, st702⟩ := getF X701 hx hZ hown (host := "") (Or.inl (own_w hw 23 rfl)) Via.refl e701 F694 (g := (mkF m 85 #[.val (.ref dd), .val (.int lv), .val (.int (own_key lv)), .val (.long (own_bit lv)), .second, .val (.int (-1 : Int32)), .val (.int (0 : Int32))] [(.ref dd), (.int (1 : Int32)), (.ref x647), (.int (0 : Int32)), (.ref x647)])) rfl rfl (hb hby d3_85)
      obtain ⟨T703, h703, L703, X703, e703, N703, K703q, A703, st703⟩ := cpA X702 hx hZ hown (own_w hw 57 rfl) (own_w hw 52 rfl) (own_w hw 50 rfl) (own_w hw 51 rfl) e702 A696 A696 (Or.inl ⟨rfl, rfl⟩) (by decide) (by decide) (by decide) (by decide) (by decide) (us := [(.long w0), (.long w1)]) rfl (Nat.le_of_ble_eq_true rfl) N686 hpq653 (g := (mkF m 91 #[.val (.ref dd), .val (.int lv), .val (.int (own_key lv)), .val (.long (own_bit lv)), .second, .val (.int (-1 : Int32)), .val (.int (0 : Int32))] [(.int (2 : Int32)), (.int (1 : Int32)), (.ref x647), (.int (0 : Int32)), (.ref x647)])) rfl (by rw [hml]; rfl) rfl (hb hby d3_91) (by decide) (W := 0) (by show 2 * 0 + _ ≤ _; exact Nat.le_of_eq rfl) (by decide)
      have V703 : Arv Z h703 x647 x649 .long (3 : Int32) [(.long w0), (.long w0), (.long w1)] (.long (0 : Int64)) := A703
      have A704 := A687.keep K703q (ninS ne680 nin0)
      have A705 := A688.keep K703q (ninS ne681 nin0)
      have E706 := E689.keep K703q
      have E707 := E690.keep K703q
      have E708 := E691.keep K703q
      have F709 := F692.keep K703q (ninS hpq656 nin0)
      have F710 := F693.keep K703q (ninS hpq656 nin0)
      have F711 := F694.keep K703q (ninS hpq656 nin0)
      have F712 := F695.keep K703q (ninS hpq656 nin0)
      have E713 := E697.keep K703q
      have E714 := E698.keep K703q
      have A715 := V686.keep K703q (ninS hpq657 nin0)
      have K703 : Keep h0 h703 [dd] := K686.trans K703q (allS (Or.inr sz682) all0)
      have Zs716 : n0 ≤ h703.size := (Nat.le_trans Zs699 K703q.1)
      obtain ⟨T717, X717, e717, st717⟩ := getF X703 hx hZ hown (host := "") (Or.inl (own_w hw 12 rfl)) Via.refl e703 F709 (g := (mkF m 95 #[.val (.ref dd), .val (.int lv), .val (.int (own_key lv)), .val (.long (own_bit lv)), .second, .val (.int (-1 : Int32)), .val (.int (0 : Int32))] [(.ref dd)])) rfl rfl (hb hby d3_95)
      have oc718 := A715
      obtain ⟨c718, Arc718, qc718, Sc718, Nc718, Hc718, Gc718⟩ := oc718
      have hin719 : ¬ ((0 : Int32) < 0 ∨ c718.slots.size ≤ ((0 : Int32)).toNatClampNeg) := (inb_of Sc718 ⟨by decide, by decide⟩)
      obtain ⟨T719, h719, X719, e719, W719, st719⟩ := stI X717 hx hZ e717 Arc718 (j := (0 : Int32)) hin719 (g := (mkF m 101 #[.val (.ref dd), .val (.int lv), .val (.int (own_key lv)), .val (.long (own_bit lv)), .second, .val (.int (-1 : Int32)), .val (.int (0 : Int32))] [(.int (own_key lv)), (.int (0 : Int32)), (.ref x646)])) rfl rfl (hb hby d3_101)
      have V719 : Arv Z h719 x646 x648 .int (3 : Int32) [(.int (own_key lv)), (.int k0), (.int k1)] (.int (0 : Int32)) := Arv.set Arc718 qc718 Sc718 Nc718 Hc718 Gc718 rfl W719 0 rfl (Nat.le_of_ble_eq_true rfl)
      have A720 := A704.other W719 ne676
      have A721 := A705.other W719 ne677
      have E722 := E706.wr W719
      have E723 := E707.wr W719
      have E724 := E708.wr W719
      have F725 := F709.other W719 (Or.inl hpq655)
      have F726 := F710.other W719 (Or.inl hpq655)
      have F727 := F711.other W719 (Or.inl hpq655)
      have F728 := F712.other W719 (Or.inl hpq655)
      have E729 := E713.wr W719
      have E730 := E714.wr W719
      have A731 := V703.other W719 (Ne.symm hpq657)
      have N719 := Fr.snoc X719 N703 hpq651
      have K719 : Keep h0 h719 [dd] := K703.wr W719 (Or.inr sz678)
      have Zs732 : n0 ≤ h719.size := (Nat.le_trans Zs716 (Keep.of_wr W719).1)
      obtain ⟨T733, X733, e733, st733⟩ := getF X719 hx hZ hown (host := "") (Or.inl (own_w hw 16 rfl)) Via.refl e719 F726 (g := (mkF m 103 #[.val (.ref dd), .val (.int lv), .val (.int (own_key lv)), .val (.long (own_bit lv)), .second, .val (.int (-1 : Int32)), .val (.int (0 : Int32))] [(.ref dd)])) rfl rfl (hb hby d3_103)
      have oc734 := A731
      obtain ⟨c734, Arc734, qc734, Sc734, Nc734, Hc734, Gc734⟩ := oc734
      have hin735 : ¬ ((0 : Int32) < 0 ∨ c734.slots.size ≤ ((0 : Int32)).toNatClampNeg) := (inb_of Sc734 ⟨by decide, by decide⟩)
      obtain ⟨T735, h735, X735, e735, W735, st735⟩ := stJ X733 hx hZ e733 Arc734 (j := (0 : Int32)) hin735 (g := (mkF m 109 #[.val (.ref dd), .val (.int lv), .val (.int (own_key lv)), .val (.long (own_bit lv)), .second, .val (.int (-1 : Int32)), .val (.int (0 : Int32))] [(.long (own_bit lv)), (.int (0 : Int32)), (.ref x647)])) rfl rfl (hb hby d3_109)
      have V735 : Arv Z h735 x647 x649 .long (3 : Int32) [(.long (own_bit lv)), (.long w0), (.long w1)] (.long (0 : Int64)) := Arv.set Arc734 qc734 Sc734 Nc734 Hc734 Gc734 rfl W735 0 rfl (Nat.le_of_ble_eq_true rfl)
      have A736 := A720.other W735 ne680
      have A737 := A721.other W735 ne681
      have E738 := E722.wr W735
      have E739 := E723.wr W735
      have E740 := E724.wr W735
      have F741 := F725.other W735 (Or.inl hpq656)
      have F742 := F726.other W735 (Or.inl hpq656)
      have F743 := F727.other W735 (Or.inl hpq656)
      have F744 := F728.other W735 (Or.inl hpq656)
      have E745 := E729.wr W735
      have E746 := E730.wr W735
      have A747 := V719.other W735 hpq657
      have N735 := Fr.snoc X735 N719 hpq653
      have K735 : Keep h0 h735 [dd] := K719.wr W735 (Or.inr sz682)
      have Zs748 : n0 ≤ h735.size := (Nat.le_trans Zs732 (Keep.of_wr W735).1)
      obtain ⟨T749, X749, e749, st749⟩ := getF X735 hx hZ hown (host := "") (Or.inl (own_w hw 23 rfl)) Via.refl e735 F743 (g := (mkF m 112 #[.val (.ref dd), .val (.int lv), .val (.int (own_key lv)), .val (.long (own_bit lv)), .second, .val (.int (-1 : Int32)), .val (.int (0 : Int32))] [(.ref dd), (.ref dd)])) rfl rfl (hb hby d3_112)
      obtain ⟨T750, h750, X750, e750, W750, st750⟩ := putF X749 hx hZ hown (host := "") (Or.inl (own_w hw 23 rfl)) Via.refl e749 F743 E740 (Or.inl (own_w hw 24 rfl)) (own_w hw 2 rfl) (ty := .int) (by decide) rfl rfl (g := (mkF m 117 #[.val (.ref dd), .val (.int lv), .val (.int (own_key lv)), .val (.long (own_bit lv)), .second, .val (.int (-1 : Int32)), .val (.int (0 : Int32))] [(.int (3 : Int32)), (.ref dd)])) rfl rfl (hb hby d3_117)
      have Fw750 : Fld Z h750 dd "org/tallyrole/core/Dependencies" "size" "I" (.int (3 : Int32)) := F743.same W750
      have A751 := A736.other W750 (Ne.symm hn1)
      have A752 := A737.other W750 (Ne.symm hn2)
      have E753 := E738.wr W750
      have E754 := E739.wr W750
      have E755 := E740.wr W750
      have F756 := F741.other W750 (Or.inr (slot_ne (Or.inl (own_w hw 13 rfl)) (Or.inl (own_w hw 24 rfl)) (by decide) (t := (.array .int)) (t' := .int) (by decide) (by decide)))
      have F757 := F742.other W750 (Or.inr (slot_ne (Or.inl (own_w hw 17 rfl)) (Or.inl (own_w hw 24 rfl)) (by decide) (t := (.array .long)) (t' := .int) (by decide) (by decide)))
      have F758 := F744.other W750 (Or.inr (slot_ne (Or.inl (own_w hw 40 rfl)) (Or.inl (own_w hw 24 rfl)) (by decide) (t := .boolean) (t' := .int) (by decide) (by decide)))
      have E759 := E745.wr W750
      have E760 := E746.wr W750
      have A761 := A747.other W750 (Ne.symm hpq655)
      have A762 := V735.other W750 (Ne.symm hpq656)
      have N750 := Fr.snoc X750 N735 hdd
      have K750 : Keep h0 h750 [dd] := K735.wr W750 (Or.inl (List.mem_of_getElem? (i := 0) rfl))
      have Zs763 : n0 ≤ h750.size := (Nat.le_trans Zs748 (Keep.of_wr W750).1)
      have pre764 := fun (t : State) (k : Steps p.tables e below (T750.setTop (mkF m 156 #[.val (.ref dd), .val (.int lv), .val (.int (own_key lv)), .val (.long (own_bit lv)), .second, .val (.int (-1 : Int32)), .val (.int (0 : Int32))] [])) t) => pre337 t (by
        refine XS.istore X321.here hx rfl (hb hby d3_22) rfl (l' := #[.val (.ref dd), .val (.int lv), .val (.int (own_key lv)), .val (.long (own_bit lv)), .second, .val (.int (-1 : Int32)), .unset]) rfl ?_
        refine XS.iload X321.here hx rfl (hb hby d3_24) rfl ?_
        refine XS.ifNo X321.here hx rfl (hb hby d3_26) rfl ((if0 _ _).trans (tlt (by decide : (-1 : Int32) < (0 : Int32))).2.1) ?_
        refine XS.iload X321.here hx rfl (hb hby d3_29) rfl ?_
        refine XS.ineg X321.here hx rfl (hb hby d3_31) rfl ?_
        refine XS.iconst X321.here hx rfl (hb hby d3_32) ?_
        refine XS.isub X321.here hx rfl (hb hby d3_33) rfl ?_
        refine XS.istore X321.here hx rfl (hb hby d3_34) rfl (l' := #[.val (.ref dd), .val (.int lv), .val (.int (own_key lv)), .val (.long (own_bit lv)), .second, .val (.int (-1 : Int32)), .val (.int (0 : Int32))]) rfl ?_
        refine XS.aloadN X321.here hx rfl (hb hby d3_36) rfl rfl ?_
        refine XS.aloadN X321.here hx rfl (hb hby d3_37) rfl rfl ?_
        refine st644 _ ?_
        refine XS.iconst X644.here hx rfl (hb hby d3_41) ?_
        refine XS.iadd X644.here hx rfl (hb hby d3_42) rfl ?_
        refine st645.trans ?_
        refine XS.aloadN X645.here hx rfl (hb hby d3_46) rfl rfl ?_
        refine st683 _ ?_
        refine XS.iload X683.here hx rfl (hb hby d3_50) rfl ?_
        refine XS.aloadN X683.here hx rfl (hb hby d3_52) rfl rfl ?_
        refine st684 _ ?_
        refine XS.iload X684.here hx rfl (hb hby d3_56) rfl ?_
        refine XS.iconst X684.here hx rfl (hb hby d3_58) ?_
        refine XS.iadd X684.here hx rfl (hb hby d3_59) rfl ?_
        refine XS.aloadN X684.here hx rfl (hb hby d3_60) rfl rfl ?_
        refine st685 _ ?_
        refine XS.iload X685.here hx rfl (hb hby d3_64) rfl ?_
        refine XS.isub X685.here hx rfl (hb hby d3_66) rfl ?_
        refine st686 _ ?_
        refine XS.aloadN X686.here hx rfl (hb hby d3_70) rfl rfl ?_
        refine st700 _ ?_
        refine XS.iload X700.here hx rfl (hb hby d3_74) rfl ?_
        refine XS.aloadN X700.here hx rfl (hb hby d3_76) rfl rfl ?_
        refine st701 _ ?_
        refine XS.iload X701.here hx rfl (hb hby d3_80) rfl ?_
        refine XS.iconst X701.here hx rfl (hb hby d3_82) ?_
        refine XS.iadd X701.here hx rfl (hb hby d3_83) rfl ?_
        refine XS.aloadN X701.here hx rfl (hb hby d3_84) rfl rfl ?_
        refine st702 _ ?_
        refine XS.iload X702.here hx rfl (hb hby d3_88) rfl ?_
        refine XS.isub X702.here hx rfl (hb hby d3_90) rfl ?_
        refine st703 _ ?_
        refine XS.aloadN X703.here hx rfl (hb hby d3_94) rfl rfl ?_
        refine st717 _ ?_
        refine XS.iload X717.here hx rfl (hb hby d3_98) rfl ?_
        refine XS.iloadN X717.here hx rfl (hb hby d3_100) rfl ?_
        refine st719 _ ?_
        refine XS.aloadN X719.here hx rfl (hb hby d3_102) rfl rfl ?_
        refine st733 _ ?_
        refine XS.iload X733.here hx rfl (hb hby d3_106) rfl ?_
        refine XS.lloadN X733.here hx rfl (hb hby d3_108) rfl ?_
        refine st735 _ ?_
        refine XS.aloadN X735.here hx rfl (hb hby d3_110) rfl rfl ?_
        refine XS.dup X735.here hx rfl (hb hby d3_111) rfl rfl ?_
        refine st749 _ ?_
        refine XS.iconst X749.here hx rfl (hb hby d3_115) ?_
        refine XS.iadd X749.here hx rfl (hb hby d3_116) rfl ?_
        refine st750 _ ?_
        refine XS.goto X750.here hx rfl (pc0 := 120) (pc' := 156) rfl (hb hby d3_120) (by decide) (by decide) ?_
        exact k)
      obtain ⟨fs, hr, hrun, hended, hW, hsame⟩ := X750.leave (v := none) (hlocks := BodyLoose.notSynchronized Bd) (fun _ => rfl)
      refine ⟨_, _, pre764 _ ?_, hrun, hended, _, _, rfl, ?_, ⟨_, rfl⟩, hW, hsame.mono (by decide) (by decide)⟩
      · exact X750.returnOut hx Bd.returns (hb hby d3_156) hr
      · show Q_adS Z dd ka wa kk kw (3 : Int32) (2 : Int32) [(.int k0), (.int k1), (.int g2)] [(.long w0), (.long w1), (.long q2)] SS lv h0 n0 _ T750.heap _
        rw [e750]
        exact ⟨x646, x647, x648, x649, (3 : Int32), (3 : Int32), [(.int (own_key lv)), (.int k0), (.int k1)], [(.long (own_bit lv)), (.long w0), (.long w1)], (0 : Int32), rfl, N750, K750, hpq651, hpq653, (Or.inr sz678), (Or.inr sz682), hpq655, hpq656, hpq657, (Or.inr (Or.inr (Or.inr ⟨_, _, _, _, _, _, rfl, rfl, rfl, rfl, (own_r_ins (A := []) (B := [(k0, w0), (k1, w1)]) hrr hlv (List.forall_mem_nil _) (List.forall_mem_cons.mpr ⟨hb334, (List.forall_mem_cons.mpr ⟨(Int32.lt_trans hb334 ho0), (List.forall_mem_nil _)⟩)⟩))⟩))), E755, F756, F757, Fw750, F758, A761, A762, E759, E760⟩
    · obtain ⟨T765, X765, e765, st765⟩ := getF X321 hx hZ hown (host := "") (Or.inl (own_w hw 16 rfl)) Via.refl hq323 H2_F (g := (mkF m 124 #[.val (.ref dd), .val (.int lv), .val (.int (own_key lv)), .val (.long (own_bit lv)), .second, .val (.int (0 : Int32)), .unset] [(.ref dd)])) rfl rfl (hb hby d3_124)
      have oc766 := H6_A
      obtain ⟨c766, Arc766, qc766, Sc766, Nc766, Hc766, Gc766⟩ := oc766
      have hin767 : ¬ ((0 : Int32) < 0 ∨ c766.slots.size ≤ ((0 : Int32)).toNatClampNeg) := (inb_of Sc766 ⟨by decide, by decide⟩)
      have pre768 := fun (t : State) (k : Steps p.tables e below (T765.setTop (mkF m 134 #[.val (.ref dd), .val (.int lv), .val (.int (own_key lv)), .val (.long (own_bit lv)), .second, .val (.int (0 : Int32)), .unset] [(.int (lcmpW (w0 &&& (own_bit lv)) (0 : Int64)))])) t) => pre337 t (by
        refine XS.istore X321.here hx rfl (hb hby d3_22) rfl (l' := #[.val (.ref dd), .val (.int lv), .val (.int (own_key lv)), .val (.long (own_bit lv)), .second, .val (.int (0 : Int32)), .unset]) rfl ?_
        refine XS.iload X321.here hx rfl (hb hby d3_24) rfl ?_
        refine XS.ifYes X321.here hx rfl (pc0 := 26) (pc' := 123) rfl (hb hby d3_26) rfl ((if0 _ _).trans (flt (by decide : ¬ ((0 : Int32) < (0 : Int32)))).2.1) (by decide) (by decide) ?_
        refine XS.aloadN X321.here hx rfl (hb hby d3_123) rfl rfl ?_
        refine st765 _ ?_
        refine XS.iload X765.here hx rfl (hb hby d3_127) rfl ?_
        refine X765.laload hx (j := (0 : Int32)) (v := (.long w0)) (by rw [e765]; exact Arc766.1) (State.isArrayOf_alike hZ.alike Arc766.2.1) Arc766.2.2 hin767 (Has.at Hc766 hin767 rfl) (g := (mkF m 129 #[.val (.ref dd), .val (.int lv), .val (.int (own_key lv)), .val (.long (own_bit lv)), .second, .val (.int (0 : Int32)), .unset] [(.int (0 : Int32)), (.ref wa)])) rfl rfl (hb hby d3_129) _ ?_
        refine XS.lloadN X765.here hx rfl (hb hby d3_130) rfl ?_
        refine XS.land X765.here hx rfl (hb hby d3_131) rfl ?_
        refine XS.lconst X765.here hx rfl (hb hby d3_132) ?_
        refine XS.lcmp X765.here hx rfl (hb hby d3_133) rfl ?_
        exact k)
      by_cases hc769 : (lcmpW (w0 &&& (own_bit lv)) (0 : Int64)) = (0 : Int32)
      · obtain ⟨T770, X770, e770, st770⟩ := getF X765 hx hZ hown (host := "") (Or.inl (own_w hw 23 rfl)) Via.refl e765 H3_F (g := (mkF m 139 #[.val (.ref dd), .val (.int lv), .val (.int (own_key lv)), .val (.long (own_bit lv)), .second, .val (.int (0 : Int32)), .unset] [(.ref dd), (.ref dd)])) rfl rfl (hb hby d3_139)
        obtain ⟨cq771, q771, q771'⟩ := H0_E.cell
        obtain ⟨_, _, ⟨T771, L771, k771, n771⟩, -, X771, ⟨Lc771, hQ771, l771, y771, z771⟩, st771⟩ := X770.privateBack hx (y := (⟨"org/tallyrole/core/Dependencies", "reserve", "(I)V"⟩ : MethodName)) hown (mvT hZ (own_w hw 35 rfl)) (mvT hZ (own_w hw 36 rfl)) (own_sel_priv (z := (⟨"org/tallyrole/core/Dependencies", "add", "(I)V"⟩ : MethodName)) (mvT hZ (own_w hw 21 rfl)) rfl (mvP hZ (own_w hw 37 rfl)) (mvT hZ (own_w hw 36 rfl)) (by decide)) (Cond.privateMethod_at (mvP hZ (own_w hw 37 rfl) (args := #[]))) (mvT hZ (own_w hw 38 rfl)) (by decide) (backOf (W := 0) (rm_rv3_2_1 l Z a0 hw [] dd ka wa kk kw (2 : Int32) k0 k1 g2 w0 w1 q2 h0 n0 Z0 H0_E H1_F H2_F H3_F H4_F H5_A H6_A hdd hn1 hn2) hZ (own_w hw 38 rfl) (own_w hw 3 rfl) (by decide) (by decide)) (g := (mkF m 142 #[.val (.ref dd), .val (.int lv), .val (.int (own_key lv)), .val (.long (own_bit lv)), .second, .val (.int (0 : Int32)), .unset] [(.int (2 : Int32)), (.ref dd)])) rfl (by rw [hml]; rfl) (Steps.refl _) (a := dd) (by rw [e770]; exact q771) q771' (argsL := [(.int (2 : Int32))]) (rest := []) (lenOf pd_7 rfl) rfl (by show 2 * 0 + _ ≤ _; exact Nat.le_of_eq rfl) (hb hby d3_142) (fun _ _ => ⟨rfl, e770, (by decide : 0 + 2 ≤ _), (by decide : 0 + 4 ≤ _)⟩)
        dsimp only [Pt.U, Pt.locs, Pt.cells, Pt.slots] at X771 l771 y771 z771 st771 hQ771
        subst l771 y771 z771
        obtain ⟨x772, x773, x774, x775, rfl, N771q, hq776, hpq777, hpq778, hpq779, hpq780, hpq781, hpq782, hpq783, E784, F785, F786, F787, F788, A789, A790, E791, E792⟩ := hQ771
        have N771 := Fr.app N321 N771q
        have lt793 : dd < h0.size := H0_E.lt
        have lt794 : ka < h0.size := H5_A.lt
        have lt795 : wa < h0.size := H6_A.lt
        have A796 := H5_A.keep hq776 (ninS (Ne.symm hn1) nin0)
        have A797 := H6_A.keep hq776 (ninS (Ne.symm hn2) nin0)
        have E798 := H7_E.keep hq776
        have E799 := H8_E.keep hq776
        have K771 : Keep h0 T771.heap [dd] := K0.trans hq776 (allS (Or.inl (List.mem_of_getElem? (i := 0) rfl)) all0)
        have Zs800 : n0 ≤ T771.heap.size := (Nat.le_trans Z0 hq776.1)
        have ne801 : dd ≠ x772 := Nat.ne_of_lt (Nat.lt_of_lt_of_le lt793 hpq778)
        have ne802 : ka ≠ x772 := Nat.ne_of_lt (Nat.lt_of_lt_of_le lt794 hpq778)
        have ne803 : wa ≠ x772 := Nat.ne_of_lt (Nat.lt_of_lt_of_le lt795 hpq778)
        have sz804 : h0.size ≤ x772 := Nat.le_trans K0.1 hpq778
        have ne805 : dd ≠ x773 := Nat.ne_of_lt (Nat.lt_of_lt_of_le lt793 hpq780)
        have ne806 : ka ≠ x773 := Nat.ne_of_lt (Nat.lt_of_lt_of_le lt794 hpq780)
        have ne807 : wa ≠ x773 := Nat.ne_of_lt (Nat.lt_of_lt_of_le lt795 hpq780)
        have sz808 : h0.size ≤ x773 := Nat.le_trans K0.1 hpq780
        obtain ⟨T809, X809, e809, st809⟩ := getF X771 hx hZ hown (host := "") (Or.inl (own_w hw 16 rfl)) Via.refl rfl F786 (g := (mkF m 146 #[.val (.ref dd), .val (.int lv), .val (.int (own_key lv)), .val (.long (own_bit lv)), .second, .val (.int (0 : Int32)), .unset] [(.ref dd)])) rfl rfl (hb hby d3_146)
        have oc810 := A790
        obtain ⟨c810, Arc810, qc810, Sc810, Nc810, Hc810, Gc810⟩ := oc810
        have hin811 : ¬ ((0 : Int32) < 0 ∨ c810.slots.size ≤ ((0 : Int32)).toNatClampNeg) := (inb_of Sc810 ⟨by decide, by decide⟩)
        have oc812 := A790
        obtain ⟨c812, Arc812, qc812, Sc812, Nc812, Hc812, Gc812⟩ := oc812
        have hin813 : ¬ ((0 : Int32) < 0 ∨ c812.slots.size ≤ ((0 : Int32)).toNatClampNeg) := (inb_of Sc812 ⟨by decide, by decide⟩)
        obtain ⟨T813, h813, X813, e813, W813, st813⟩ := stJ X809 hx hZ e809 Arc812 (j := (0 : Int32)) hin813 (g := (mkF m 155 #[.val (.ref dd), .val (.int lv), .val (.int (own_key lv)), .val (.long (own_bit lv)), .second, .val (.int (0 : Int32)), .unset] [(.long (w0 ||| (own_bit lv))), (.int (0 : Int32)), (.ref x773)])) rfl rfl (hb hby d3_155)
        have V813 : Arv Z h813 x773 x775 .long (2 : Int32) [(.long (w0 ||| (own_bit lv))), (.long w1)] (.long (0 : Int64)) := Arv.set Arc812 qc812 Sc812 Nc812 Hc812 Gc812 rfl W813 0 rfl (Nat.le_of_ble_eq_true rfl)
        have A814 := A796.other W813 ne806
        have A815 := A797.other W813 ne807
        have E816 := E798.wr W813
        have E817 := E799.wr W813
        have E818 := E784.wr W813
        have F819 := F785.other W813 (Or.inl hpq782)
        have F820 := F786.other W813 (Or.inl hpq782)
        have F821 := F787.other W813 (Or.inl hpq782)
        have F822 := F788.other W813 (Or.inl hpq782)
        have A823 := A789.other W813 hpq783
        have E824 := E791.wr W813
        have E825 := E792.wr W813
        have N813 := Fr.snoc X813 N771 hpq779
        have K813 : Keep h0 h813 [dd] := K771.wr W813 (Or.inr sz808)
        have Zs826 : n0 ≤ h813.size := (Nat.le_trans Zs800 (Keep.of_wr W813).1)
        have pre827 := fun (t : State) (k : Steps p.tables e below (T813.setTop (mkF m 156 #[.val (.ref dd), .val (.int lv), .val (.int (own_key lv)), .val (.long (own_bit lv)), .second, .val (.int (0 : Int32)), .unset] [])) t) => pre768 t (by
          refine XS.ifNo X765.here hx rfl (hb hby d3_134) rfl ((if0 _ _).trans (teq hc769).2) ?_
          refine XS.aloadN X765.here hx rfl (hb hby d3_137) rfl rfl ?_
          refine XS.aloadN X765.here hx rfl (hb hby d3_138) rfl rfl ?_
          refine st770 _ ?_
          refine st771.trans ?_
          refine XS.aloadN X771.here hx rfl (hb hby d3_145) rfl rfl ?_
          refine st809 _ ?_
          refine XS.iload X809.here hx rfl (hb hby d3_149) rfl ?_
          jvm_step X809.here [X809.here.top, hx, (hb hby d3_151), Value.category]
          refine X809.laload hx (j := (0 : Int32)) (v := (.long w0)) (by rw [e809]; exact Arc810.1) (State.isArrayOf_alike hZ.alike Arc810.2.1) Arc810.2.2 hin811 (Has.at Hc810 hin811 rfl) (g := (mkF m 152 #[.val (.ref dd), .val (.int lv), .val (.int (own_key lv)), .val (.long (own_bit lv)), .second, .val (.int (0 : Int32)), .unset] [(.int (0 : Int32)), (.ref x773), (.int (0 : Int32)), (.ref x773)])) rfl rfl (hb hby d3_152) _ ?_
          refine XS.lloadN X809.here hx rfl (hb hby d3_153) rfl ?_
          refine XS.lor X809.here hx rfl (hb hby d3_154) rfl ?_
          refine st813 _ ?_
          exact k)
        obtain ⟨fs, hr, hrun, hended, hW, hsame⟩ := X813.leave (v := none) (hlocks := BodyLoose.notSynchronized Bd) (fun _ => rfl)
        refine ⟨_, _, pre827 _ ?_, hrun, hended, _, _, rfl, ?_, ⟨_, rfl⟩, hW, hsame.mono (by decide) (by decide)⟩
        · exact X813.returnOut hx Bd.returns (hb hby d3_156) hr
        · show Q_adS Z dd ka wa kk kw (3 : Int32) (2 : Int32) [(.int k0), (.int k1), (.int g2)] [(.long w0), (.long w1), (.long q2)] SS lv h0 n0 _ T813.heap _
          rw [e813]
          exact ⟨x772, x773, x774, x775, (2 : Int32), (2 : Int32), [(.int k0), (.int k1)], [(.long (w0 ||| (own_bit lv))), (.long w1)], (0 : Int32), rfl, N813, K813, hpq777, hpq779, (Or.inr sz804), (Or.inr sz808), hpq781, hpq782, hpq783, (Or.inr (Or.inl ⟨_, _, _, _, rfl, rfl, rfl, rfl, (own_r_or (A := []) (B := [(k1, w1)]) hrr (own_eq_of hb335 hb336))⟩)), E818, F819, F820, F821, F822, A823, V813, E824, E825⟩
      · have pre828 := fun (t : State) (k : Steps p.tables e below (T765.setTop (mkF m 156 #[.val (.ref dd), .val (.int lv), .val (.int (own_key lv)), .val (.long (own_bit lv)), .second, .val (.int (0 : Int32)), .unset] [])) t) => pre768 t (by
          refine XS.ifYes X765.here hx rfl (pc0 := 134) (pc' := 156) rfl (hb hby d3_134) rfl ((if0 _ _).trans (feq hc769).2) (by decide) (by decide) ?_
          exact k)
        obtain ⟨fs, hr, hrun, hended, hW, hsame⟩ := X765.leave (v := none) (hlocks := BodyLoose.notSynchronized Bd) (fun _ => rfl)
        refine ⟨_, _, pre828 _ ?_, hrun, hended, _, _, rfl, ?_, ⟨_, rfl⟩, hW, hsame.mono (by decide) (by decide)⟩
        · exact X765.returnOut hx Bd.returns (hb hby d3_156) hr
        · show Q_adS Z dd ka wa kk kw (3 : Int32) (2 : Int32) [(.int k0), (.int k1), (.int g2)] [(.long w0), (.long w1), (.long q2)] SS lv h0 n0 _ T765.heap _
          rw [e765]
          exact ⟨ka, wa, kk, kw, (3 : Int32), (2 : Int32), [(.int k0), (.int k1), (.int g2)], [(.long w0), (.long w1), (.long q2)], (1 : Int32), rfl, N321, K0, hka, hwa, (Or.inl rfl), (Or.inl rfl), hn1, hn2, hn3, (Or.inr (Or.inr (Or.inl ⟨_, _, _, _, _, _, rfl, rfl, rfl, rfl, (own_r_had (A := []) (B := [(k1, w1)]) hrr (own_eq_of hb335 hb336) (fun q => hc769 ((lw_eq _ _).mpr q)))⟩))), H0_E, H1_F, H2_F, H3_F, H4_F, H5_A, H6_A, H7_E, H8_E⟩

theorem ef_rmS (m : MethodId) (x0 : Addr) (x1 : Int32) : entryFrame m #[(.ref x0), (.int x1)] 5 = mkF m 0 #[.val (.ref x0), .val (.int x1), .unset, .unset, .unset] [] := by first | (simp [entryFrame, mkF, argsToLocals, Value.category]; done) | rfl
def Q_rmS (Z : State) (dd : Addr) (ka : Addr) (wa : Addr) (kk : ClassId) (kw : ClassId) (cap : Int32) (sz : Int32) (kv : List Value) (wv : List Value) (SS : Int32 → Prop) (lv : Int32) (h0 : Heap) (n0 : Nat) (v : Option Value) (h : Heap) (L : List Loc) : Prop := ∃ xk : Addr, ∃ xw : Addr, ∃ kxk : ClassId, ∃ kxw : ClassId, ∃ cap' : Int32, ∃ sz' : Int32, ∃ kv' : List Value, ∃ wv' : List Value, ∃ sh' : Int32, v = none ∧ Fr n0 L ∧ Keep h0 h [dd] ∧ n0 ≤ xk ∧ n0 ≤ xw ∧ (xk = ka ∨ h0.size ≤ xk) ∧ (xw = wa ∨ h0.size ≤ xw) ∧ dd ≠ xk ∧ dd ≠ xw ∧ xk ≠ xw ∧ (own_s_1_0 cap' sz' kv' wv' (own_del SS lv) ∨ own_s_1_1 cap' sz' kv' wv' (own_del SS lv) ∨ own_s_2_1 cap' sz' kv' wv' (own_del SS lv) ∨ own_s_2_2 cap' sz' kv' wv' (own_del SS lv) ∨ own_s_3_2 cap' sz' kv' wv' (own_del SS lv)) ∧ Exa Z h dd "org/tallyrole/core/Dependencies" ∧ Fld Z h dd "org/tallyrole/core/Dependencies" "keys" "[I" (.ref xk) ∧ Fld Z h dd "org/tallyrole/core/Dependencies" "words" "[J" (.ref xw) ∧ Fld Z h dd "org/tallyrole/core/Dependencies" "size" "I" (.int sz') ∧ Fld Z h dd "org/tallyrole/core/Dependencies" "shared" "Z" (.int sh') ∧ Arv Z h xk kxk .int cap' kv' (.int (0 : Int32)) ∧ Arv Z h xw kxw .long cap' wv' (.long (0 : Int64)) ∧ Exa Z h xk "[I" ∧ Exa Z h xw "[J"
set_option maxRecDepth 65536 in
set_option maxHeartbeats 40000000 in
theorem rm_rmS (l : Launch) (Z : State) (a0 : Array Value) (hw : ∀ d ∈ tables_1, d.before a0 Z = true) (ws : List Jvm.Cond) (dd : Addr) (ka : Addr) (wa : Addr) (kk : ClassId) (kw : ClassId) (cap : Int32) (sz : Int32) (kv : List Value) (wv : List Value) (SS : Int32 → Prop) (lv : Int32) (h0 : Heap) (n0 : Nat) (Z0 : n0 ≤ h0.size) (H0_E : Exa Z h0 dd "org/tallyrole/core/Dependencies") (H1_F : Fld Z h0 dd "org/tallyrole/core/Dependencies" "keys" "[I" (.ref ka)) (H2_F : Fld Z h0 dd "org/tallyrole/core/Dependencies" "words" "[J" (.ref wa)) (H3_F : Fld Z h0 dd "org/tallyrole/core/Dependencies" "size" "I" (.int sz)) (H4_F : Fld Z h0 dd "org/tallyrole/core/Dependencies" "shared" "Z" (.int (1 : Int32))) (H5_A : Arv Z h0 ka kk .int cap kv (.int (0 : Int32))) (H6_A : Arv Z h0 wa kw .long cap wv (.long (0 : Int64))) (H7_E : Exa Z h0 ka "[I") (H8_E : Exa Z h0 wa "[J") (hrep : own_s_1_1 cap sz kv wv SS ∨ own_s_3_2 cap sz kv wv SS) (hdd : n0 ≤ dd) (hka : n0 ≤ ka) (hwa : n0 ≤ wa) (hn1 : dd ≠ ka) (hn2 : dd ≠ wa) (hn3 : ka ≠ wa) :
    MetFree l (⟨"org/tallyrole/core/Dependencies", "remove", "(I)V"⟩ : MethodName) (head1 (Jvm.Cond.code (⟨"org/tallyrole/core/Dependencies", "remove", "(I)V"⟩ : MethodName) prog_36_method_8_code 5 none :: ws) ({ frames := 3, cells := 2, slots := 4, locals := 47 } : Room)) (fun as_ U_ => as_ = #[(.ref dd), (.int lv)] ∧ Z.Warmed39 U_.vm ∧ U_.heap = h0) (fun _ _ _ _ _ => True) (fun _ U o U' => ∃ v L, o = .returned v ∧ Q_rmS Z dd ka wa kk kw cap sz kv wv SS lv h0 n0 v U'.heap L ∧ FrameEnd U o U' L ({ frames := 3, cells := 2, slots := 4, locals := 47 } : Room).cells ({ frames := 3, cells := 2, slots := 4, locals := 47 } : Room).slots) := by
  refine MetFree.of_bodySF (plainFor_of_name pn_1) hisR ?_
  intro p e s m args below meth c s₁ Bd hml0 hP hK
  obtain ⟨rfl, hZ, hhp_⟩ := hP
  have hx := Bd.exec
  have hby := Bd.bytes
  have hml : c.maxLocals = 5 := hml0
  have hown : s.vm.findClass "org/tallyrole/core/Dependencies" = some m.cls := findClass_of_methodNamed Bd.named
  have hnm := (name_of_methodNamed Bd.named Bd.method).1
  have X0 : Stand p l e ({ frames := 3, cells := 2, slots := 4, locals := 47 } : Room) s m #[(.ref dd), (.int lv)] below meth c s₁ [] 0 0 := Stand.of_body Bd
  have e0 : s₁.heap = h0 := by rw [← hhp_, Bd.state]; rfl
  have N0 := Fr.nil n0
  have pre0 : ∀ t, Steps p.tables e below (s₁.setTop (mkF m 0 #[.val (.ref dd), .val (.int lv), .unset, .unset, .unset] [])) t → Steps p.tables e below (s₁.setTop (entryFrame m #[(.ref dd), (.int lv)] 5)) t := fun t k => castTop (ef_rmS m dd lv) k
  have K0 : Keep h0 h0 [dd] := Keep.refl h0 [dd]
  have hrep_ := hrep
  rcases hrep_ with ⟨k0, w0, rfl, rfl, rfl, rfl, hrr⟩ | ⟨k0, k1, g2, w0, w1, q2, rfl, rfl, rfl, rfl, hrr⟩
  · obtain ⟨T1, X1, e1, st1⟩ := getF X0 hx hZ hown (host := "") (Or.inl (own_w hw 12 rfl)) Via.refl e0 H1_F (g := (mkF m 1 #[.val (.ref dd), .val (.int lv), .unset, .unset, .unset] [(.ref dd)])) rfl rfl (hb hby d17_1)
    obtain ⟨T2, X2, e2, st2⟩ := getF X1 hx hZ hown (host := "") (Or.inl (own_w hw 23 rfl)) Via.refl e1 H3_F (g := (mkF m 6 #[.val (.ref dd), .val (.int lv), .unset, .unset, .unset] [(.ref dd), (.int (0 : Int32)), (.ref ka)])) rfl rfl (hb hby d17_6)
    obtain ⟨_, _, ⟨T3, L3, k3, n3⟩, -, X3, ⟨Lc3, hQ3, l3, y3, z3⟩, st3⟩ := Jvm.LawKit.callS X2 hx (y := (⟨"java/util/Arrays", "binarySearch", "([IIII)I"⟩ : MethodName)) hown (mvT hZ (own_w hw 25 rfl)) (mvT hZ (own_w hw 26 rfl)) (mvT hZ (own_w hw 27 rfl)) (mvT hZ (own_w hw 28 rfl)) (by decide) (backOf (W := 0) (rm_bs1_1 l Z a0 hw [] ka kk k0 (own_key lv) h0 n0 Z0 H5_A) hZ (own_w hw 28 rfl) (own_w hw 27 rfl) (by decide) (by decide)) (g := (mkF m 13 #[.val (.ref dd), .val (.int lv), .unset, .unset, .unset] [(.int (own_key lv)), (.int (1 : Int32)), (.int (0 : Int32)), (.ref ka)])) rfl (by rw [hml]; rfl) (argsL := [(.ref ka), (.int (0 : Int32)), (.int (1 : Int32)), (.int (own_key lv))]) (rest := []) (lenOf pd_1 rfl) rfl (by show 2 * 0 + _ ≤ _; exact Nat.le_of_eq rfl) (hb hby d17_13) (fun _ _ => ⟨rfl, e2, (by decide : 0 + 0 ≤ _), (by decide : 0 + 0 ≤ _)⟩)
    dsimp only [Pt.U, Pt.locs, Pt.cells, Pt.slots] at X3 l3 y3 z3 st3 hQ3
    subst l3 y3 z3
    obtain ⟨x4, rfl, N3q, hq5, hpq6⟩ := hQ3
    have N3 := Fr.app N0 N3q
    have pre12 := fun (t : State) (k : Steps p.tables e below (T3.setTop (mkF m 16 #[.val (.ref dd), .val (.int lv), .unset, .unset, .unset] [(.int x4)])) t) => pre0 t (by
      refine XS.aloadN X0.here hx rfl (hb hby d17_0) rfl rfl ?_
      refine st1 _ ?_
      refine XS.iconst X1.here hx rfl (hb hby d17_4) ?_
      refine XS.aloadN X1.here hx rfl (hb hby d17_5) rfl rfl ?_
      refine st2 _ ?_
      refine XS.iloadN X2.here hx rfl (hb hby d17_9) rfl ?_
      refine XS.bipush X2.here hx rfl (hb hby d17_10) ?_
      refine XS.iushr X2.here hx rfl (hb hby d17_12) rfl ?_
      show Steps p.tables e below (T2.setTop (mkF m 13 #[.val (.ref dd), .val (.int lv), .unset, .unset, .unset] [(.int (own_key lv)), (.int (1 : Int32)), (.int (0 : Int32)), (.ref ka)])) _
      refine st3 _ ?_
      exact k)
    rcases hpq6 with ⟨rfl, hb7⟩ | ⟨rfl, hb8, hb9⟩ | ⟨rfl, hb10, hb11⟩
    · have pre13 := fun (t : State) (k : Steps p.tables e below (T3.setTop (mkF m 127 #[.val (.ref dd), .val (.int lv), .val (.int (-2 : Int32)), .val (.long (own_bit lv)), .second] [])) t) => pre12 t (by
        refine XS.istoreN X3.here hx rfl (hb hby d17_16) rfl (l' := #[.val (.ref dd), .val (.int lv), .val (.int (-2 : Int32)), .unset, .unset]) rfl ?_
        refine XS.lconst X3.here hx rfl (hb hby d17_17) ?_
        refine XS.iloadN X3.here hx rfl (hb hby d17_18) rfl ?_
        refine XS.lshl X3.here hx rfl (hb hby d17_19) rfl ?_
        show Steps p.tables e below (T3.setTop (mkF m 20 #[.val (.ref dd), .val (.int lv), .val (.int (-2 : Int32)), .unset, .unset] [(.long (own_bit lv))])) _
        refine XS.lstoreN X3.here hx rfl (hb hby d17_20) rfl (l' := #[.val (.ref dd), .val (.int lv), .val (.int (-2 : Int32)), .val (.long (own_bit lv)), .second]) rfl ?_
        refine XS.iloadN X3.here hx rfl (hb hby d17_21) rfl ?_
        refine XS.ifYes X3.here hx rfl (pc0 := 22) (pc' := 127) rfl (hb hby d17_22) rfl ((if0 _ _).trans (tlt (by decide : (-2 : Int32) < (0 : Int32))).1) (by decide) (by decide) ?_
        exact k)
      obtain ⟨fs, hr, hrun, hended, hW, hsame⟩ := X3.leave (v := none) (hlocks := BodyLoose.notSynchronized Bd) (fun _ => rfl)
      refine ⟨_, _, pre13 _ ?_, hrun, hended, _, _, rfl, ?_, ⟨_, rfl⟩, hW, hsame.mono (by decide) (by decide)⟩
      · exact X3.returnOut hx Bd.returns (hb hby d17_127) hr
      · show Q_rmS Z dd ka wa kk kw (1 : Int32) (1 : Int32) [(.int k0)] [(.long w0)] SS lv h0 n0 _ T3.heap _
        rw [hq5]
        exact ⟨ka, wa, kk, kw, (1 : Int32), (1 : Int32), [(.int k0)], [(.long w0)], (1 : Int32), rfl, N3, K0, hka, hwa, (Or.inl rfl), (Or.inl rfl), hn1, hn2, hn3, (Or.inr (Or.inl ⟨_, _, rfl, rfl, rfl, rfl, (own_r_no hrr (List.forall_mem_cons.mpr ⟨(own_ne_lt hb7), (List.forall_mem_nil _)⟩))⟩)), H0_E, H1_F, H2_F, H3_F, H4_F, H5_A, H6_A, H7_E, H8_E⟩
    · have pre14 := fun (t : State) (k : Steps p.tables e below (T3.setTop (mkF m 127 #[.val (.ref dd), .val (.int lv), .val (.int (-1 : Int32)), .val (.long (own_bit lv)), .second] [])) t) => pre12 t (by
        refine XS.istoreN X3.here hx rfl (hb hby d17_16) rfl (l' := #[.val (.ref dd), .val (.int lv), .val (.int (-1 : Int32)), .unset, .unset]) rfl ?_
        refine XS.lconst X3.here hx rfl (hb hby d17_17) ?_
        refine XS.iloadN X3.here hx rfl (hb hby d17_18) rfl ?_
        refine XS.lshl X3.here hx rfl (hb hby d17_19) rfl ?_
        show Steps p.tables e below (T3.setTop (mkF m 20 #[.val (.ref dd), .val (.int lv), .val (.int (-1 : Int32)), .unset, .unset] [(.long (own_bit lv))])) _
        refine XS.lstoreN X3.here hx rfl (hb hby d17_20) rfl (l' := #[.val (.ref dd), .val (.int lv), .val (.int (-1 : Int32)), .val (.long (own_bit lv)), .second]) rfl ?_
        refine XS.iloadN X3.here hx rfl (hb hby d17_21) rfl ?_
        refine XS.ifYes X3.here hx rfl (pc0 := 22) (pc' := 127) rfl (hb hby d17_22) rfl ((if0 _ _).trans (tlt (by decide : (-1 : Int32) < (0 : Int32))).1) (by decide) (by decide) ?_
        exact k)
      obtain ⟨fs, hr, hrun, hended, hW, hsame⟩ := X3.leave (v := none) (hlocks := BodyLoose.notSynchronized Bd) (fun _ => rfl)
      refine ⟨_, _, pre14 _ ?_, hrun, hended, _, _, rfl, ?_, ⟨_, rfl⟩, hW, hsame.mono (by decide) (by decide)⟩
      · exact X3.returnOut hx Bd.returns (hb hby d17_127) hr
      · show Q_rmS Z dd ka wa kk kw (1 : Int32) (1 : Int32) [(.int k0)] [(.long w0)] SS lv h0 n0 _ T3.heap _
        rw [hq5]
        exact ⟨ka, wa, kk, kw, (1 : Int32), (1 : Int32), [(.int k0)], [(.long w0)], (1 : Int32), rfl, N3, K0, hka, hwa, (Or.inl rfl), (Or.inl rfl), hn1, hn2, hn3, (Or.inr (Or.inl ⟨_, _, rfl, rfl, rfl, rfl, (own_r_no hrr (List.forall_mem_cons.mpr ⟨(own_ne_gt hb9), (List.forall_mem_nil _)⟩))⟩)), H0_E, H1_F, H2_F, H3_F, H4_F, H5_A, H6_A, H7_E, H8_E⟩
    · obtain ⟨T15, X15, e15, st15⟩ := getF X3 hx hZ hown (host := "") (Or.inl (own_w hw 16 rfl)) Via.refl hq5 H2_F (g := (mkF m 26 #[.val (.ref dd), .val (.int lv), .val (.int (0 : Int32)), .val (.long (own_bit lv)), .second] [(.ref dd)])) rfl rfl (hb hby d17_26)
      have oc16 := H6_A
      obtain ⟨c16, Arc16, qc16, Sc16, Nc16, Hc16, Gc16⟩ := oc16
      have hin17 : ¬ ((0 : Int32) < 0 ∨ c16.slots.size ≤ ((0 : Int32)).toNatClampNeg) := (inb_of Sc16 ⟨by decide, by decide⟩)
      have pre18 := fun (t : State) (k : Steps p.tables e below (T15.setTop (mkF m 35 #[.val (.ref dd), .val (.int lv), .val (.int (0 : Int32)), .val (.long (own_bit lv)), .second] [(.int (lcmpW (w0 &&& (own_bit lv)) (0 : Int64)))])) t) => pre12 t (by
        refine XS.istoreN X3.here hx rfl (hb hby d17_16) rfl (l' := #[.val (.ref dd), .val (.int lv), .val (.int (0 : Int32)), .unset, .unset]) rfl ?_
        refine XS.lconst X3.here hx rfl (hb hby d17_17) ?_
        refine XS.iloadN X3.here hx rfl (hb hby d17_18) rfl ?_
        refine XS.lshl X3.here hx rfl (hb hby d17_19) rfl ?_
        show Steps p.tables e below (T3.setTop (mkF m 20 #[.val (.ref dd), .val (.int lv), .val (.int (0 : Int32)), .unset, .unset] [(.long (own_bit lv))])) _
        refine XS.lstoreN X3.here hx rfl (hb hby d17_20) rfl (l' := #[.val (.ref dd), .val (.int lv), .val (.int (0 : Int32)), .val (.long (own_bit lv)), .second]) rfl ?_
        refine XS.iloadN X3.here hx rfl (hb hby d17_21) rfl ?_
        refine XS.ifNo X3.here hx rfl (hb hby d17_22) rfl ((if0 _ _).trans (flt (by decide : ¬ ((0 : Int32) < (0 : Int32)))).1) ?_
        refine XS.aloadN X3.here hx rfl (hb hby d17_25) rfl rfl ?_
        refine st15 _ ?_
        refine XS.iloadN X15.here hx rfl (hb hby d17_29) rfl ?_
        refine X15.laload hx (j := (0 : Int32)) (v := (.long w0)) (by rw [e15]; exact Arc16.1) (State.isArrayOf_alike hZ.alike Arc16.2.1) Arc16.2.2 hin17 (Has.at Hc16 hin17 rfl) (g := (mkF m 30 #[.val (.ref dd), .val (.int lv), .val (.int (0 : Int32)), .val (.long (own_bit lv)), .second] [(.int (0 : Int32)), (.ref wa)])) rfl rfl (hb hby d17_30) _ ?_
        refine XS.lloadN X15.here hx rfl (hb hby d17_31) rfl ?_
        refine XS.land X15.here hx rfl (hb hby d17_32) rfl ?_
        refine XS.lconst X15.here hx rfl (hb hby d17_33) ?_
        refine XS.lcmp X15.here hx rfl (hb hby d17_34) rfl ?_
        exact k)
      by_cases hc19 : (lcmpW (w0 &&& (own_bit lv)) (0 : Int64)) = (0 : Int32)
      · have pre20 := fun (t : State) (k : Steps p.tables e below (T15.setTop (mkF m 127 #[.val (.ref dd), .val (.int lv), .val (.int (0 : Int32)), .val (.long (own_bit lv)), .second] [])) t) => pre18 t (by
          refine XS.ifYes X15.here hx rfl (pc0 := 35) (pc' := 127) rfl (hb hby d17_35) rfl ((if0 _ _).trans (teq hc19).1) (by decide) (by decide) ?_
          exact k)
        obtain ⟨fs, hr, hrun, hended, hW, hsame⟩ := X15.leave (v := none) (hlocks := BodyLoose.notSynchronized Bd) (fun _ => rfl)
        refine ⟨_, _, pre20 _ ?_, hrun, hended, _, _, rfl, ?_, ⟨_, rfl⟩, hW, hsame.mono (by decide) (by decide)⟩
        · exact X15.returnOut hx Bd.returns (hb hby d17_127) hr
        · show Q_rmS Z dd ka wa kk kw (1 : Int32) (1 : Int32) [(.int k0)] [(.long w0)] SS lv h0 n0 _ T15.heap _
          rw [e15]
          exact ⟨ka, wa, kk, kw, (1 : Int32), (1 : Int32), [(.int k0)], [(.long w0)], (1 : Int32), rfl, N3, K0, hka, hwa, (Or.inl rfl), (Or.inl rfl), hn1, hn2, hn3, (Or.inr (Or.inl ⟨_, _, rfl, rfl, rfl, rfl, (own_r_off (A := []) (B := []) hrr (own_eq_of hb10 hb11) ((lw_eq _ _).mp hc19))⟩)), H0_E, H1_F, H2_F, H3_F, H4_F, H5_A, H6_A, H7_E, H8_E⟩
      · obtain ⟨T21, X21, e21, st21⟩ := getF X15 hx hZ hown (host := "") (Or.inl (own_w hw 23 rfl)) Via.refl e15 H3_F (g := (mkF m 40 #[.val (.ref dd), .val (.int lv), .val (.int (0 : Int32)), .val (.long (own_bit lv)), .second] [(.ref dd), (.ref dd)])) rfl rfl (hb hby d17_40)
        obtain ⟨cq22, q22, q22'⟩ := H0_E.cell
        obtain ⟨_, _, ⟨T22, L22, k22, n22⟩, -, X22, ⟨Lc22, hQ22, l22, y22, z22⟩, st22⟩ := X21.privateBack hx (y := (⟨"org/tallyrole/core/Dependencies", "reserve", "(I)V"⟩ : MethodName)) hown (mvT hZ (own_w hw 35 rfl)) (mvT hZ (own_w hw 36 rfl)) (own_sel_priv (z := (⟨"org/tallyrole/core/Dependencies", "add", "(I)V"⟩ : MethodName)) (mvT hZ (own_w hw 21 rfl)) rfl (mvP hZ (own_w hw 37 rfl)) (mvT hZ (own_w hw 36 rfl)) (by decide)) (Cond.privateMethod_at (mvP hZ (own_w hw 37 rfl) (args := #[]))) (mvT hZ (own_w hw 38 rfl)) (by decide) (backOf (W := 0) (rm_rv1_1_1 l Z a0 hw [] dd ka wa kk kw (1 : Int32) k0 w0 h0 n0 Z0 H0_E H1_F H2_F H3_F H4_F H5_A H6_A H7_E H8_E hdd hn1 hn2) hZ (own_w hw 38 rfl) (own_w hw 3 rfl) (by decide) (by decide)) (g := (mkF m 43 #[.val (.ref dd), .val (.int lv), .val (.int (0 : Int32)), .val (.long (own_bit lv)), .second] [(.int (1 : Int32)), (.ref dd)])) rfl (by rw [hml]; rfl) (Steps.refl _) (a := dd) (by rw [e21]; exact q22) q22' (argsL := [(.int (1 : Int32))]) (rest := []) (lenOf pd_7 rfl) rfl (by show 2 * 0 + _ ≤ _; exact Nat.le_of_eq rfl) (hb hby d17_43) (fun _ _ => ⟨rfl, e21, (by decide : 0 + 2 ≤ _), (by decide : 0 + 2 ≤ _)⟩)
        dsimp only [Pt.U, Pt.locs, Pt.cells, Pt.slots] at X22 l22 y22 z22 st22 hQ22
        subst l22 y22 z22
        obtain ⟨x23, x24, x25, x26, rfl, N22q, hq27, hpq28, hpq29, hpq30, hpq31, hpq32, hpq33, hpq34, E35, F36, F37, F38, F39, A40, A41, E42, E43⟩ := hQ22
        have N22 := Fr.app N3 N22q
        have lt44 : dd < h0.size := H0_E.lt
        have lt45 : ka < h0.size := H5_A.lt
        have lt46 : wa < h0.size := H6_A.lt
        have A47 := H5_A.keep hq27 (ninS (Ne.symm hn1) nin0)
        have A48 := H6_A.keep hq27 (ninS (Ne.symm hn2) nin0)
        have E49 := H7_E.keep hq27
        have E50 := H8_E.keep hq27
        have K22 : Keep h0 T22.heap [dd] := K0.trans hq27 (allS (Or.inl (List.mem_of_getElem? (i := 0) rfl)) all0)
        have Zs51 : n0 ≤ T22.heap.size := (Nat.le_trans Z0 hq27.1)
        have ne52 : dd ≠ x23 := Nat.ne_of_lt (Nat.lt_of_lt_of_le lt44 hpq29)
        have ne53 : ka ≠ x23 := Nat.ne_of_lt (Nat.lt_of_lt_of_le lt45 hpq29)
        have ne54 : wa ≠ x23 := Nat.ne_of_lt (Nat.lt_of_lt_of_le lt46 hpq29)
        have sz55 : h0.size ≤ x23 := Nat.le_trans K0.1 hpq29
        have ne56 : dd ≠ x24 := Nat.ne_of_lt (Nat.lt_of_lt_of_le lt44 hpq31)
        have ne57 : ka ≠ x24 := Nat.ne_of_lt (Nat.lt_of_lt_of_le lt45 hpq31)
        have ne58 : wa ≠ x24 := Nat.ne_of_lt (Nat.lt_of_lt_of_le lt46 hpq31)
        have sz59 : h0.size ≤ x24 := Nat.le_trans K0.1 hpq31
        obtain ⟨T60, X60, e60, st60⟩ := getF X22 hx hZ hown (host := "") (Or.inl (own_w hw 16 rfl)) Via.refl rfl F37 (g := (mkF m 47 #[.val (.ref dd), .val (.int lv), .val (.int (0 : Int32)), .val (.long (own_bit lv)), .second] [(.ref dd)])) rfl rfl (hb hby d17_47)
        have oc61 := A41
        obtain ⟨c61, Arc61, qc61, Sc61, Nc61, Hc61, Gc61⟩ := oc61
        have hin62 : ¬ ((0 : Int32) < 0 ∨ c61.slots.size ≤ ((0 : Int32)).toNatClampNeg) := (inb_of Sc61 ⟨by decide, by decide⟩)
        have oc63 := A41
        obtain ⟨c63, Arc63, qc63, Sc63, Nc63, Hc63, Gc63⟩ := oc63
        have hin64 : ¬ ((0 : Int32) < 0 ∨ c63.slots.size ≤ ((0 : Int32)).toNatClampNeg) := (inb_of Sc63 ⟨by decide, by decide⟩)
        obtain ⟨T64, h64, X64, e64, W64, st64⟩ := stJ X60 hx hZ e60 Arc63 (j := (0 : Int32)) hin64 (g := (mkF m 59 #[.val (.ref dd), .val (.int lv), .val (.int (0 : Int32)), .val (.long (own_bit lv)), .second] [(.long (w0 &&& ((own_bit lv) ^^^ (-1 : Int64)))), (.int (0 : Int32)), (.ref x24)])) rfl rfl (hb hby d17_59)
        have V64 : Arv Z h64 x24 x26 .long (1 : Int32) [(.long (w0 &&& ((own_bit lv) ^^^ (-1 : Int64))))] (.long (0 : Int64)) := Arv.set Arc63 qc63 Sc63 Nc63 Hc63 Gc63 rfl W64 0 rfl (Nat.le_of_ble_eq_true rfl)
        have A65 := A47.other W64 ne57
        have A66 := A48.other W64 ne58
        have E67 := E49.wr W64
        have E68 := E50.wr W64
        have E69 := E35.wr W64
        have F70 := F36.other W64 (Or.inl hpq33)
        have F71 := F37.other W64 (Or.inl hpq33)
        have F72 := F38.other W64 (Or.inl hpq33)
        have F73 := F39.other W64 (Or.inl hpq33)
        have A74 := A40.other W64 hpq34
        have E75 := E42.wr W64
        have E76 := E43.wr W64
        have N64 := Fr.snoc X64 N22 hpq30
        have K64 : Keep h0 h64 [dd] := K22.wr W64 (Or.inr sz59)
        have Zs77 : n0 ≤ h64.size := (Nat.le_trans Zs51 (Keep.of_wr W64).1)
        obtain ⟨T78, X78, e78, st78⟩ := getF X64 hx hZ hown (host := "") (Or.inl (own_w hw 16 rfl)) Via.refl e64 F71 (g := (mkF m 61 #[.val (.ref dd), .val (.int lv), .val (.int (0 : Int32)), .val (.long (own_bit lv)), .second] [(.ref dd)])) rfl rfl (hb hby d17_61)
        have oc79 := V64
        obtain ⟨c79, Arc79, qc79, Sc79, Nc79, Hc79, Gc79⟩ := oc79
        have hin80 : ¬ ((0 : Int32) < 0 ∨ c79.slots.size ≤ ((0 : Int32)).toNatClampNeg) := (inb_of Sc79 ⟨by decide, by decide⟩)
        have pre81 := fun (t : State) (k : Steps p.tables e below (T78.setTop (mkF m 68 #[.val (.ref dd), .val (.int lv), .val (.int (0 : Int32)), .val (.long (own_bit lv)), .second] [(.int (lcmpW (w0 &&& ((own_bit lv) ^^^ (-1 : Int64))) (0 : Int64)))])) t) => pre18 t (by
          refine XS.ifNo X15.here hx rfl (hb hby d17_35) rfl ((if0 _ _).trans (feq hc19).1) ?_
          refine XS.aloadN X15.here hx rfl (hb hby d17_38) rfl rfl ?_
          refine XS.aloadN X15.here hx rfl (hb hby d17_39) rfl rfl ?_
          refine st21 _ ?_
          refine st22.trans ?_
          refine XS.aloadN X22.here hx rfl (hb hby d17_46) rfl rfl ?_
          refine st60 _ ?_
          refine XS.iloadN X60.here hx rfl (hb hby d17_50) rfl ?_
          jvm_step X60.here [X60.here.top, hx, (hb hby d17_51), Value.category]
          refine X60.laload hx (j := (0 : Int32)) (v := (.long w0)) (by rw [e60]; exact Arc61.1) (State.isArrayOf_alike hZ.alike Arc61.2.1) Arc61.2.2 hin62 (Has.at Hc61 hin62 rfl) (g := (mkF m 52 #[.val (.ref dd), .val (.int lv), .val (.int (0 : Int32)), .val (.long (own_bit lv)), .second] [(.int (0 : Int32)), (.ref x24), (.int (0 : Int32)), (.ref x24)])) rfl rfl (hb hby d17_52) _ ?_
          refine XS.lloadN X60.here hx rfl (hb hby d17_53) rfl ?_
          refine X60.ldc2Long hx hown (mvT hZ (own_w hw 104 rfl)) (g := (mkF m 54 #[.val (.ref dd), .val (.int lv), .val (.int (0 : Int32)), .val (.long (own_bit lv)), .second] [(.long (own_bit lv)), (.long w0), (.int (0 : Int32)), (.ref x24)])) rfl (hb hby d17_54) _ ?_
          refine XS.lxor X60.here hx rfl (hb hby d17_57) rfl ?_
          refine XS.land X60.here hx rfl (hb hby d17_58) rfl ?_
          refine st64 _ ?_
          refine XS.aloadN X64.here hx rfl (hb hby d17_60) rfl rfl ?_
          refine st78 _ ?_
          refine XS.iloadN X78.here hx rfl (hb hby d17_64) rfl ?_
          refine X78.laload hx (j := (0 : Int32)) (v := (.long (w0 &&& ((own_bit lv) ^^^ (-1 : Int64))))) (by rw [e78]; exact Arc79.1) (State.isArrayOf_alike hZ.alike Arc79.2.1) Arc79.2.2 hin80 (Has.at Hc79 hin80 rfl) (g := (mkF m 65 #[.val (.ref dd), .val (.int lv), .val (.int (0 : Int32)), .val (.long (own_bit lv)), .second] [(.int (0 : Int32)), (.ref x24)])) rfl rfl (hb hby d17_65) _ ?_
          refine XS.lconst X78.here hx rfl (hb hby d17_66) ?_
          refine XS.lcmp X78.here hx rfl (hb hby d17_67) rfl ?_
          exact k)
        by_cases hc82 : (lcmpW (w0 &&& ((own_bit lv) ^^^ (-1 : Int64))) (0 : Int64)) = (0 : Int32)
        · obtain ⟨T83, X83, e83, st83⟩ := getF X78 hx hZ hown (host := "") (Or.inl (own_w hw 12 rfl)) Via.refl e78 F70 (g := (mkF m 72 #[.val (.ref dd), .val (.int lv), .val (.int (0 : Int32)), .val (.long (own_bit lv)), .second] [(.ref dd)])) rfl rfl (hb hby d17_72)
          obtain ⟨T84, X84, e84, st84⟩ := getF X83 hx hZ hown (host := "") (Or.inl (own_w hw 12 rfl)) Via.refl e83 F70 (g := (mkF m 79 #[.val (.ref dd), .val (.int lv), .val (.int (0 : Int32)), .val (.long (own_bit lv)), .second] [(.ref dd), (.int (1 : Int32)), (.ref x23)])) rfl rfl (hb hby d17_79)
          obtain ⟨T85, X85, e85, st85⟩ := getF X84 hx hZ hown (host := "") (Or.inl (own_w hw 23 rfl)) Via.refl e84 F72 (g := (mkF m 84 #[.val (.ref dd), .val (.int lv), .val (.int (0 : Int32)), .val (.long (own_bit lv)), .second] [(.ref dd), (.int (0 : Int32)), (.ref x23), (.int (1 : Int32)), (.ref x23)])) rfl rfl (hb hby d17_84)
          obtain ⟨T86, h86, L86, X86, e86, N86, K86q, A86, st86⟩ := cpA X85 hx hZ hown (own_w hw 57 rfl) (own_w hw 52 rfl) (own_w hw 50 rfl) (own_w hw 51 rfl) e85 A74 A74 (Or.inl ⟨rfl, rfl⟩) (by decide) (by decide) (by decide) (by decide) (by decide) (us := []) rfl (Nat.le_of_ble_eq_true rfl) N64 hpq28 (g := (mkF m 91 #[.val (.ref dd), .val (.int lv), .val (.int (0 : Int32)), .val (.long (own_bit lv)), .second] [(.int (0 : Int32)), (.int (0 : Int32)), (.ref x23), (.int (1 : Int32)), (.ref x23)])) rfl (by rw [hml]; rfl) rfl (hb hby d17_91) (by decide) (W := 0) (by show 2 * 0 + _ ≤ _; exact Nat.le_of_eq rfl) (by decide)
          have V86 : Arv Z h86 x23 x25 .int (1 : Int32) [(.int k0)] (.int (0 : Int32)) := A86
          have A87 := A65.keep K86q (ninS ne53 nin0)
          have A88 := A66.keep K86q (ninS ne54 nin0)
          have E89 := E67.keep K86q
          have E90 := E68.keep K86q
          have E91 := E69.keep K86q
          have F92 := F70.keep K86q (ninS hpq32 nin0)
          have F93 := F71.keep K86q (ninS hpq32 nin0)
          have F94 := F72.keep K86q (ninS hpq32 nin0)
          have F95 := F73.keep K86q (ninS hpq32 nin0)
          have E96 := E75.keep K86q
          have E97 := E76.keep K86q
          have A98 := V64.keep K86q (ninS (Ne.symm hpq34) nin0)
          have K86 : Keep h0 h86 [dd] := K64.trans K86q (allS (Or.inr sz55) all0)
          have Zs99 : n0 ≤ h86.size := (Nat.le_trans Zs77 K86q.1)
          obtain ⟨T100, X100, e100, st100⟩ := getF X86 hx hZ hown (host := "") (Or.inl (own_w hw 16 rfl)) Via.refl e86 F93 (g := (mkF m 95 #[.val (.ref dd), .val (.int lv), .val (.int (0 : Int32)), .val (.long (own_bit lv)), .second] [(.ref dd)])) rfl rfl (hb hby d17_95)
          obtain ⟨T101, X101, e101, st101⟩ := getF X100 hx hZ hown (host := "") (Or.inl (own_w hw 16 rfl)) Via.refl e100 F93 (g := (mkF m 102 #[.val (.ref dd), .val (.int lv), .val (.int (0 : Int32)), .val (.long (own_bit lv)), .second] [(.ref dd), (.int (1 : Int32)), (.ref x24)])) rfl rfl (hb hby d17_102)
          obtain ⟨T102, X102, e102, st102⟩ := getF X101 hx hZ hown (host := "") (Or.inl (own_w hw 23 rfl)) Via.refl e101 F94 (g := (mkF m 107 #[.val (.ref dd), .val (.int lv), .val (.int (0 : Int32)), .val (.long (own_bit lv)), .second] [(.ref dd), (.int (0 : Int32)), (.ref x24), (.int (1 : Int32)), (.ref x24)])) rfl rfl (hb hby d17_107)
          obtain ⟨T103, h103, L103, X103, e103, N103, K103q, A103, st103⟩ := cpA X102 hx hZ hown (own_w hw 57 rfl) (own_w hw 52 rfl) (own_w hw 50 rfl) (own_w hw 51 rfl) e102 A98 A98 (Or.inl ⟨rfl, rfl⟩) (by decide) (by decide) (by decide) (by decide) (by decide) (us := []) rfl (Nat.le_of_ble_eq_true rfl) N86 hpq30 (g := (mkF m 114 #[.val (.ref dd), .val (.int lv), .val (.int (0 : Int32)), .val (.long (own_bit lv)), .second] [(.int (0 : Int32)), (.int (0 : Int32)), (.ref x24), (.int (1 : Int32)), (.ref x24)])) rfl (by rw [hml]; rfl) rfl (hb hby d17_114) (by decide) (W := 0) (by show 2 * 0 + _ ≤ _; exact Nat.le_of_eq rfl) (by decide)
          have V103 : Arv Z h103 x24 x26 .long (1 : Int32) [(.long (w0 &&& ((own_bit lv) ^^^ (-1 : Int64))))] (.long (0 : Int64)) := A103
          have A104 := A87.keep K103q (ninS ne57 nin0)
          have A105 := A88.keep K103q (ninS ne58 nin0)
          have E106 := E89.keep K103q
          have E107 := E90.keep K103q
          have E108 := E91.keep K103q
          have F109 := F92.keep K103q (ninS hpq33 nin0)
          have F110 := F93.keep K103q (ninS hpq33 nin0)
          have F111 := F94.keep K103q (ninS hpq33 nin0)
          have F112 := F95.keep K103q (ninS hpq33 nin0)
          have E113 := E96.keep K103q
          have E114 := E97.keep K103q
          have A115 := V86.keep K103q (ninS hpq34 nin0)
          have K103 : Keep h0 h103 [dd] := K86.trans K103q (allS (Or.inr sz59) all0)
          have Zs116 : n0 ≤ h103.size := (Nat.le_trans Zs99 K103q.1)
          obtain ⟨T117, X117, e117, st117⟩ := getF X103 hx hZ hown (host := "") (Or.inl (own_w hw 23 rfl)) Via.refl e103 F111 (g := (mkF m 119 #[.val (.ref dd), .val (.int lv), .val (.int (0 : Int32)), .val (.long (own_bit lv)), .second] [(.ref dd), (.ref dd)])) rfl rfl (hb hby d17_119)
          obtain ⟨T118, h118, X118, e118, W118, st118⟩ := putF X117 hx hZ hown (host := "") (Or.inl (own_w hw 23 rfl)) Via.refl e117 F111 E108 (Or.inl (own_w hw 24 rfl)) (own_w hw 2 rfl) (ty := .int) (by decide) rfl rfl (g := (mkF m 124 #[.val (.ref dd), .val (.int lv), .val (.int (0 : Int32)), .val (.long (own_bit lv)), .second] [(.int (0 : Int32)), (.ref dd)])) rfl rfl (hb hby d17_124)
          have Fw118 : Fld Z h118 dd "org/tallyrole/core/Dependencies" "size" "I" (.int (0 : Int32)) := F111.same W118
          have A119 := A104.other W118 (Ne.symm hn1)
          have A120 := A105.other W118 (Ne.symm hn2)
          have E121 := E106.wr W118
          have E122 := E107.wr W118
          have E123 := E108.wr W118
          have F124 := F109.other W118 (Or.inr (slot_ne (Or.inl (own_w hw 13 rfl)) (Or.inl (own_w hw 24 rfl)) (by decide) (t := (.array .int)) (t' := .int) (by decide) (by decide)))
          have F125 := F110.other W118 (Or.inr (slot_ne (Or.inl (own_w hw 17 rfl)) (Or.inl (own_w hw 24 rfl)) (by decide) (t := (.array .long)) (t' := .int) (by decide) (by decide)))
          have F126 := F112.other W118 (Or.inr (slot_ne (Or.inl (own_w hw 40 rfl)) (Or.inl (own_w hw 24 rfl)) (by decide) (t := .boolean) (t' := .int) (by decide) (by decide)))
          have E127 := E113.wr W118
          have E128 := E114.wr W118
          have A129 := A115.other W118 (Ne.symm hpq32)
          have A130 := V103.other W118 (Ne.symm hpq33)
          have N118 := Fr.snoc X118 N103 hdd
          have K118 : Keep h0 h118 [dd] := K103.wr W118 (Or.inl (List.mem_of_getElem? (i := 0) rfl))
          have Zs131 : n0 ≤ h118.size := (Nat.le_trans Zs116 (Keep.of_wr W118).1)
          have pre132 := fun (t : State) (k : Steps p.tables e below (T118.setTop (mkF m 127 #[.val (.ref dd), .val (.int lv), .val (.int (0 : Int32)), .val (.long (own_bit lv)), .second] [])) t) => pre81 t (by
            refine XS.ifNo X78.here hx rfl (hb hby d17_68) rfl ((if0 _ _).trans (teq hc82).2) ?_
            refine XS.aloadN X78.here hx rfl (hb hby d17_71) rfl rfl ?_
            refine st83 _ ?_
            refine XS.iloadN X83.here hx rfl (hb hby d17_75) rfl ?_
            refine XS.iconst X83.here hx rfl (hb hby d17_76) ?_
            refine XS.iadd X83.here hx rfl (hb hby d17_77) rfl ?_
            refine XS.aloadN X83.here hx rfl (hb hby d17_78) rfl rfl ?_
            refine st84 _ ?_
            refine XS.iloadN X84.here hx rfl (hb hby d17_82) rfl ?_
            refine XS.aloadN X84.here hx rfl (hb hby d17_83) rfl rfl ?_
            refine st85 _ ?_
            refine XS.iloadN X85.here hx rfl (hb hby d17_87) rfl ?_
            refine XS.isub X85.here hx rfl (hb hby d17_88) rfl ?_
            refine XS.iconst X85.here hx rfl (hb hby d17_89) ?_
            refine XS.isub X85.here hx rfl (hb hby d17_90) rfl ?_
            refine st86 _ ?_
            refine XS.aloadN X86.here hx rfl (hb hby d17_94) rfl rfl ?_
            refine st100 _ ?_
            refine XS.iloadN X100.here hx rfl (hb hby d17_98) rfl ?_
            refine XS.iconst X100.here hx rfl (hb hby d17_99) ?_
            refine XS.iadd X100.here hx rfl (hb hby d17_100) rfl ?_
            refine XS.aloadN X100.here hx rfl (hb hby d17_101) rfl rfl ?_
            refine st101 _ ?_
            refine XS.iloadN X101.here hx rfl (hb hby d17_105) rfl ?_
            refine XS.aloadN X101.here hx rfl (hb hby d17_106) rfl rfl ?_
            refine st102 _ ?_
            refine XS.iloadN X102.here hx rfl (hb hby d17_110) rfl ?_
            refine XS.isub X102.here hx rfl (hb hby d17_111) rfl ?_
            refine XS.iconst X102.here hx rfl (hb hby d17_112) ?_
            refine XS.isub X102.here hx rfl (hb hby d17_113) rfl ?_
            refine st103 _ ?_
            refine XS.aloadN X103.here hx rfl (hb hby d17_117) rfl rfl ?_
            refine XS.dup X103.here hx rfl (hb hby d17_118) rfl rfl ?_
            refine st117 _ ?_
            refine XS.iconst X117.here hx rfl (hb hby d17_122) ?_
            refine XS.isub X117.here hx rfl (hb hby d17_123) rfl ?_
            refine st118 _ ?_
            exact k)
          obtain ⟨fs, hr, hrun, hended, hW, hsame⟩ := X118.leave (v := none) (hlocks := BodyLoose.notSynchronized Bd) (fun _ => rfl)
          refine ⟨_, _, pre132 _ ?_, hrun, hended, _, _, rfl, ?_, ⟨_, rfl⟩, hW, hsame.mono (by decide) (by decide)⟩
          · exact X118.returnOut hx Bd.returns (hb hby d17_127) hr
          · show Q_rmS Z dd ka wa kk kw (1 : Int32) (1 : Int32) [(.int k0)] [(.long w0)] SS lv h0 n0 _ T118.heap _
            rw [e118]
            exact ⟨x23, x24, x25, x26, (1 : Int32), (0 : Int32), [(.int k0)], [(.long (w0 &&& ((own_bit lv) ^^^ (-1 : Int64))))], (0 : Int32), rfl, N118, K118, hpq28, hpq30, (Or.inr sz55), (Or.inr sz59), hpq32, hpq33, hpq34, (Or.inl ⟨_, _, rfl, rfl, rfl, rfl, (own_r_out (A := []) (B := []) hrr (own_eq_of hb10 hb11) ((lw_eq _ _).mp hc82))⟩), E123, F124, F125, Fw118, F126, A129, A130, E127, E128⟩
        · have pre133 := fun (t : State) (k : Steps p.tables e below (T78.setTop (mkF m 127 #[.val (.ref dd), .val (.int lv), .val (.int (0 : Int32)), .val (.long (own_bit lv)), .second] [])) t) => pre81 t (by
            refine XS.ifYes X78.here hx rfl (pc0 := 68) (pc' := 127) rfl (hb hby d17_68) rfl ((if0 _ _).trans (feq hc82).2) (by decide) (by decide) ?_
            exact k)
          obtain ⟨fs, hr, hrun, hended, hW, hsame⟩ := X78.leave (v := none) (hlocks := BodyLoose.notSynchronized Bd) (fun _ => rfl)
          refine ⟨_, _, pre133 _ ?_, hrun, hended, _, _, rfl, ?_, ⟨_, rfl⟩, hW, hsame.mono (by decide) (by decide)⟩
          · exact X78.returnOut hx Bd.returns (hb hby d17_127) hr
          · show Q_rmS Z dd ka wa kk kw (1 : Int32) (1 : Int32) [(.int k0)] [(.long w0)] SS lv h0 n0 _ T78.heap _
            rw [e78]
            exact ⟨x23, x24, x25, x26, (1 : Int32), (1 : Int32), [(.int k0)], [(.long (w0 &&& ((own_bit lv) ^^^ (-1 : Int64))))], (0 : Int32), rfl, N64, K64, hpq28, hpq30, (Or.inr sz55), (Or.inr sz59), hpq32, hpq33, hpq34, (Or.inr (Or.inl ⟨_, _, rfl, rfl, rfl, rfl, (own_r_clr (A := []) (B := []) hrr (own_eq_of hb10 hb11) (fun q => hc82 ((lw_eq _ _).mpr q)))⟩)), E69, F70, F71, F72, F73, A74, V64, E75, E76⟩
  · have ho0 : k0 < k1 := own_o0 hrr
    obtain ⟨T134, X134, e134, st134⟩ := getF X0 hx hZ hown (host := "") (Or.inl (own_w hw 12 rfl)) Via.refl e0 H1_F (g := (mkF m 1 #[.val (.ref dd), .val (.int lv), .unset, .unset, .unset] [(.ref dd)])) rfl rfl (hb hby d17_1)
    obtain ⟨T135, X135, e135, st135⟩ := getF X134 hx hZ hown (host := "") (Or.inl (own_w hw 23 rfl)) Via.refl e134 H3_F (g := (mkF m 6 #[.val (.ref dd), .val (.int lv), .unset, .unset, .unset] [(.ref dd), (.int (0 : Int32)), (.ref ka)])) rfl rfl (hb hby d17_6)
    obtain ⟨_, _, ⟨T136, L136, k136, n136⟩, -, X136, ⟨Lc136, hQ136, l136, y136, z136⟩, st136⟩ := Jvm.LawKit.callS X135 hx (y := (⟨"java/util/Arrays", "binarySearch", "([IIII)I"⟩ : MethodName)) hown (mvT hZ (own_w hw 25 rfl)) (mvT hZ (own_w hw 26 rfl)) (mvT hZ (own_w hw 27 rfl)) (mvT hZ (own_w hw 28 rfl)) (by decide) (backOf (W := 0) (rm_bs2_3 l Z a0 hw [] ka kk k0 k1 g2 (own_key lv) h0 n0 Z0 H5_A) hZ (own_w hw 28 rfl) (own_w hw 27 rfl) (by decide) (by decide)) (g := (mkF m 13 #[.val (.ref dd), .val (.int lv), .unset, .unset, .unset] [(.int (own_key lv)), (.int (2 : Int32)), (.int (0 : Int32)), (.ref ka)])) rfl (by rw [hml]; rfl) (argsL := [(.ref ka), (.int (0 : Int32)), (.int (2 : Int32)), (.int (own_key lv))]) (rest := []) (lenOf pd_1 rfl) rfl (by show 2 * 0 + _ ≤ _; exact Nat.le_of_eq rfl) (hb hby d17_13) (fun _ _ => ⟨rfl, e135, (by decide : 0 + 0 ≤ _), (by decide : 0 + 0 ≤ _)⟩)
    dsimp only [Pt.U, Pt.locs, Pt.cells, Pt.slots] at X136 l136 y136 z136 st136 hQ136
    subst l136 y136 z136
    obtain ⟨x137, rfl, N136q, hq138, hpq139⟩ := hQ136
    have N136 := Fr.app N0 N136q
    have pre152 := fun (t : State) (k : Steps p.tables e below (T136.setTop (mkF m 16 #[.val (.ref dd), .val (.int lv), .unset, .unset, .unset] [(.int x137)])) t) => pre0 t (by
      refine XS.aloadN X0.here hx rfl (hb hby d17_0) rfl rfl ?_
      refine st134 _ ?_
      refine XS.iconst X134.here hx rfl (hb hby d17_4) ?_
      refine XS.aloadN X134.here hx rfl (hb hby d17_5) rfl rfl ?_
      refine st135 _ ?_
      refine XS.iloadN X135.here hx rfl (hb hby d17_9) rfl ?_
      refine XS.bipush X135.here hx rfl (hb hby d17_10) ?_
      refine XS.iushr X135.here hx rfl (hb hby d17_12) rfl ?_
      show Steps p.tables e below (T135.setTop (mkF m 13 #[.val (.ref dd), .val (.int lv), .unset, .unset, .unset] [(.int (own_key lv)), (.int (2 : Int32)), (.int (0 : Int32)), (.ref ka)])) _
      refine st136 _ ?_
      exact k)
    rcases hpq139 with ⟨rfl, hb140, hb141⟩ | ⟨rfl, hb142, hb143, hb144⟩ | ⟨rfl, hb145, hb146, hb147⟩ | ⟨rfl, hb148, hb149⟩ | ⟨rfl, hb150, hb151⟩
    · have pre153 := fun (t : State) (k : Steps p.tables e below (T136.setTop (mkF m 127 #[.val (.ref dd), .val (.int lv), .val (.int (-3 : Int32)), .val (.long (own_bit lv)), .second] [])) t) => pre152 t (by
        refine XS.istoreN X136.here hx rfl (hb hby d17_16) rfl (l' := #[.val (.ref dd), .val (.int lv), .val (.int (-3 : Int32)), .unset, .unset]) rfl ?_
        refine XS.lconst X136.here hx rfl (hb hby d17_17) ?_
        refine XS.iloadN X136.here hx rfl (hb hby d17_18) rfl ?_
        refine XS.lshl X136.here hx rfl (hb hby d17_19) rfl ?_
        show Steps p.tables e below (T136.setTop (mkF m 20 #[.val (.ref dd), .val (.int lv), .val (.int (-3 : Int32)), .unset, .unset] [(.long (own_bit lv))])) _
        refine XS.lstoreN X136.here hx rfl (hb hby d17_20) rfl (l' := #[.val (.ref dd), .val (.int lv), .val (.int (-3 : Int32)), .val (.long (own_bit lv)), .second]) rfl ?_
        refine XS.iloadN X136.here hx rfl (hb hby d17_21) rfl ?_
        refine XS.ifYes X136.here hx rfl (pc0 := 22) (pc' := 127) rfl (hb hby d17_22) rfl ((if0 _ _).trans (tlt (by decide : (-3 : Int32) < (0 : Int32))).1) (by decide) (by decide) ?_
        exact k)
      obtain ⟨fs, hr, hrun, hended, hW, hsame⟩ := X136.leave (v := none) (hlocks := BodyLoose.notSynchronized Bd) (fun _ => rfl)
      refine ⟨_, _, pre153 _ ?_, hrun, hended, _, _, rfl, ?_, ⟨_, rfl⟩, hW, hsame.mono (by decide) (by decide)⟩
      · exact X136.returnOut hx Bd.returns (hb hby d17_127) hr
      · show Q_rmS Z dd ka wa kk kw (3 : Int32) (2 : Int32) [(.int k0), (.int k1), (.int g2)] [(.long w0), (.long w1), (.long q2)] SS lv h0 n0 _ T136.heap _
        rw [hq138]
        exact ⟨ka, wa, kk, kw, (3 : Int32), (2 : Int32), [(.int k0), (.int k1), (.int g2)], [(.long w0), (.long w1), (.long q2)], (1 : Int32), rfl, N136, K0, hka, hwa, (Or.inl rfl), (Or.inl rfl), hn1, hn2, hn3, (Or.inr (Or.inr (Or.inr (Or.inr ⟨_, _, _, _, _, _, rfl, rfl, rfl, rfl, (own_r_no hrr (List.forall_mem_cons.mpr ⟨(own_ne_lt hb140), (List.forall_mem_cons.mpr ⟨(own_ne_lt hb141), (List.forall_mem_nil _)⟩)⟩))⟩)))), H0_E, H1_F, H2_F, H3_F, H4_F, H5_A, H6_A, H7_E, H8_E⟩
    · have pre154 := fun (t : State) (k : Steps p.tables e below (T136.setTop (mkF m 127 #[.val (.ref dd), .val (.int lv), .val (.int (-2 : Int32)), .val (.long (own_bit lv)), .second] [])) t) => pre152 t (by
        refine XS.istoreN X136.here hx rfl (hb hby d17_16) rfl (l' := #[.val (.ref dd), .val (.int lv), .val (.int (-2 : Int32)), .unset, .unset]) rfl ?_
        refine XS.lconst X136.here hx rfl (hb hby d17_17) ?_
        refine XS.iloadN X136.here hx rfl (hb hby d17_18) rfl ?_
        refine XS.lshl X136.here hx rfl (hb hby d17_19) rfl ?_
        show Steps p.tables e below (T136.setTop (mkF m 20 #[.val (.ref dd), .val (.int lv), .val (.int (-2 : Int32)), .unset, .unset] [(.long (own_bit lv))])) _
        refine XS.lstoreN X136.here hx rfl (hb hby d17_20) rfl (l' := #[.val (.ref dd), .val (.int lv), .val (.int (-2 : Int32)), .val (.long (own_bit lv)), .second]) rfl ?_
        refine XS.iloadN X136.here hx rfl (hb hby d17_21) rfl ?_
        refine XS.ifYes X136.here hx rfl (pc0 := 22) (pc' := 127) rfl (hb hby d17_22) rfl ((if0 _ _).trans (tlt (by decide : (-2 : Int32) < (0 : Int32))).1) (by decide) (by decide) ?_
        exact k)
      obtain ⟨fs, hr, hrun, hended, hW, hsame⟩ := X136.leave (v := none) (hlocks := BodyLoose.notSynchronized Bd) (fun _ => rfl)
      refine ⟨_, _, pre154 _ ?_, hrun, hended, _, _, rfl, ?_, ⟨_, rfl⟩, hW, hsame.mono (by decide) (by decide)⟩
      · exact X136.returnOut hx Bd.returns (hb hby d17_127) hr
      · show Q_rmS Z dd ka wa kk kw (3 : Int32) (2 : Int32) [(.int k0), (.int k1), (.int g2)] [(.long w0), (.long w1), (.long q2)] SS lv h0 n0 _ T136.heap _
        rw [hq138]
        exact ⟨ka, wa, kk, kw, (3 : Int32), (2 : Int32), [(.int k0), (.int k1), (.int g2)], [(.long w0), (.long w1), (.long q2)], (1 : Int32), rfl, N136, K0, hka, hwa, (Or.inl rfl), (Or.inl rfl), hn1, hn2, hn3, (Or.inr (Or.inr (Or.inr (Or.inr ⟨_, _, _, _, _, _, rfl, rfl, rfl, rfl, (own_r_no hrr (List.forall_mem_cons.mpr ⟨(own_ne_lt hb142), (List.forall_mem_cons.mpr ⟨(own_ne_gt hb144), (List.forall_mem_nil _)⟩)⟩))⟩)))), H0_E, H1_F, H2_F, H3_F, H4_F, H5_A, H6_A, H7_E, H8_E⟩
    · obtain ⟨T155, X155, e155, st155⟩ := getF X136 hx hZ hown (host := "") (Or.inl (own_w hw 16 rfl)) Via.refl hq138 H2_F (g := (mkF m 26 #[.val (.ref dd), .val (.int lv), .val (.int (1 : Int32)), .val (.long (own_bit lv)), .second] [(.ref dd)])) rfl rfl (hb hby d17_26)
      have oc156 := H6_A
      obtain ⟨c156, Arc156, qc156, Sc156, Nc156, Hc156, Gc156⟩ := oc156
      have hin157 : ¬ ((1 : Int32) < 0 ∨ c156.slots.size ≤ ((1 : Int32)).toNatClampNeg) := (inb_of Sc156 ⟨by decide, by decide⟩)
      have pre158 := fun (t : State) (k : Steps p.tables e below (T155.setTop (mkF m 35 #[.val (.ref dd), .val (.int lv), .val (.int (1 : Int32)), .val (.long (own_bit lv)), .second] [(.int (lcmpW (w1 &&& (own_bit lv)) (0 : Int64)))])) t) => pre152 t (by
        refine XS.istoreN X136.here hx rfl (hb hby d17_16) rfl (l' := #[.val (.ref dd), .val (.int lv), .val (.int (1 : Int32)), .unset, .unset]) rfl ?_
        refine XS.lconst X136.here hx rfl (hb hby d17_17) ?_
        refine XS.iloadN X136.here hx rfl (hb hby d17_18) rfl ?_
        refine XS.lshl X136.here hx rfl (hb hby d17_19) rfl ?_
        show Steps p.tables e below (T136.setTop (mkF m 20 #[.val (.ref dd), .val (.int lv), .val (.int (1 : Int32)), .unset, .unset] [(.long (own_bit lv))])) _
        refine XS.lstoreN X136.here hx rfl (hb hby d17_20) rfl (l' := #[.val (.ref dd), .val (.int lv), .val (.int (1 : Int32)), .val (.long (own_bit lv)), .second]) rfl ?_
        refine XS.iloadN X136.here hx rfl (hb hby d17_21) rfl ?_
        refine XS.ifNo X136.here hx rfl (hb hby d17_22) rfl ((if0 _ _).trans (flt (by decide : ¬ ((1 : Int32) < (0 : Int32)))).1) ?_
        refine XS.aloadN X136.here hx rfl (hb hby d17_25) rfl rfl ?_
        refine st155 _ ?_
        refine XS.iloadN X155.here hx rfl (hb hby d17_29) rfl ?_
        refine X155.laload hx (j := (1 : Int32)) (v := (.long w1)) (by rw [e155]; exact Arc156.1) (State.isArrayOf_alike hZ.alike Arc156.2.1) Arc156.2.2 hin157 (Has.at Hc156 hin157 rfl) (g := (mkF m 30 #[.val (.ref dd), .val (.int lv), .val (.int (1 : Int32)), .val (.long (own_bit lv)), .second] [(.int (1 : Int32)), (.ref wa)])) rfl rfl (hb hby d17_30) _ ?_
        refine XS.lloadN X155.here hx rfl (hb hby d17_31) rfl ?_
        refine XS.land X155.here hx rfl (hb hby d17_32) rfl ?_
        refine XS.lconst X155.here hx rfl (hb hby d17_33) ?_
        refine XS.lcmp X155.here hx rfl (hb hby d17_34) rfl ?_
        exact k)
      by_cases hc159 : (lcmpW (w1 &&& (own_bit lv)) (0 : Int64)) = (0 : Int32)
      · have pre160 := fun (t : State) (k : Steps p.tables e below (T155.setTop (mkF m 127 #[.val (.ref dd), .val (.int lv), .val (.int (1 : Int32)), .val (.long (own_bit lv)), .second] [])) t) => pre158 t (by
          refine XS.ifYes X155.here hx rfl (pc0 := 35) (pc' := 127) rfl (hb hby d17_35) rfl ((if0 _ _).trans (teq hc159).1) (by decide) (by decide) ?_
          exact k)
        obtain ⟨fs, hr, hrun, hended, hW, hsame⟩ := X155.leave (v := none) (hlocks := BodyLoose.notSynchronized Bd) (fun _ => rfl)
        refine ⟨_, _, pre160 _ ?_, hrun, hended, _, _, rfl, ?_, ⟨_, rfl⟩, hW, hsame.mono (by decide) (by decide)⟩
        · exact X155.returnOut hx Bd.returns (hb hby d17_127) hr
        · show Q_rmS Z dd ka wa kk kw (3 : Int32) (2 : Int32) [(.int k0), (.int k1), (.int g2)] [(.long w0), (.long w1), (.long q2)] SS lv h0 n0 _ T155.heap _
          rw [e155]
          exact ⟨ka, wa, kk, kw, (3 : Int32), (2 : Int32), [(.int k0), (.int k1), (.int g2)], [(.long w0), (.long w1), (.long q2)], (1 : Int32), rfl, N136, K0, hka, hwa, (Or.inl rfl), (Or.inl rfl), hn1, hn2, hn3, (Or.inr (Or.inr (Or.inr (Or.inr ⟨_, _, _, _, _, _, rfl, rfl, rfl, rfl, (own_r_off (A := [(k0, w0)]) (B := []) hrr (own_eq_of hb146 hb147) ((lw_eq _ _).mp hc159))⟩)))), H0_E, H1_F, H2_F, H3_F, H4_F, H5_A, H6_A, H7_E, H8_E⟩
      · obtain ⟨T161, X161, e161, st161⟩ := getF X155 hx hZ hown (host := "") (Or.inl (own_w hw 23 rfl)) Via.refl e155 H3_F (g := (mkF m 40 #[.val (.ref dd), .val (.int lv), .val (.int (1 : Int32)), .val (.long (own_bit lv)), .second] [(.ref dd), (.ref dd)])) rfl rfl (hb hby d17_40)
        obtain ⟨cq162, q162, q162'⟩ := H0_E.cell
        obtain ⟨_, _, ⟨T162, L162, k162, n162⟩, -, X162, ⟨Lc162, hQ162, l162, y162, z162⟩, st162⟩ := X161.privateBack hx (y := (⟨"org/tallyrole/core/Dependencies", "reserve", "(I)V"⟩ : MethodName)) hown (mvT hZ (own_w hw 35 rfl)) (mvT hZ (own_w hw 36 rfl)) (own_sel_priv (z := (⟨"org/tallyrole/core/Dependencies", "add", "(I)V"⟩ : MethodName)) (mvT hZ (own_w hw 21 rfl)) rfl (mvP hZ (own_w hw 37 rfl)) (mvT hZ (own_w hw 36 rfl)) (by decide)) (Cond.privateMethod_at (mvP hZ (own_w hw 37 rfl) (args := #[]))) (mvT hZ (own_w hw 38 rfl)) (by decide) (backOf (W := 0) (rm_rv3_2_1 l Z a0 hw [] dd ka wa kk kw (2 : Int32) k0 k1 g2 w0 w1 q2 h0 n0 Z0 H0_E H1_F H2_F H3_F H4_F H5_A H6_A hdd hn1 hn2) hZ (own_w hw 38 rfl) (own_w hw 3 rfl) (by decide) (by decide)) (g := (mkF m 43 #[.val (.ref dd), .val (.int lv), .val (.int (1 : Int32)), .val (.long (own_bit lv)), .second] [(.int (2 : Int32)), (.ref dd)])) rfl (by rw [hml]; rfl) (Steps.refl _) (a := dd) (by rw [e161]; exact q162) q162' (argsL := [(.int (2 : Int32))]) (rest := []) (lenOf pd_7 rfl) rfl (by show 2 * 0 + _ ≤ _; exact Nat.le_of_eq rfl) (hb hby d17_43) (fun _ _ => ⟨rfl, e161, (by decide : 0 + 2 ≤ _), (by decide : 0 + 4 ≤ _)⟩)
        dsimp only [Pt.U, Pt.locs, Pt.cells, Pt.slots] at X162 l162 y162 z162 st162 hQ162
        subst l162 y162 z162
        obtain ⟨x163, x164, x165, x166, rfl, N162q, hq167, hpq168, hpq169, hpq170, hpq171, hpq172, hpq173, hpq174, E175, F176, F177, F178, F179, A180, A181, E182, E183⟩ := hQ162
        have N162 := Fr.app N136 N162q
        have lt184 : dd < h0.size := H0_E.lt
        have lt185 : ka < h0.size := H5_A.lt
        have lt186 : wa < h0.size := H6_A.lt
        have A187 := H5_A.keep hq167 (ninS (Ne.symm hn1) nin0)
        have A188 := H6_A.keep hq167 (ninS (Ne.symm hn2) nin0)
        have E189 := H7_E.keep hq167
        have E190 := H8_E.keep hq167
        have K162 : Keep h0 T162.heap [dd] := K0.trans hq167 (allS (Or.inl (List.mem_of_getElem? (i := 0) rfl)) all0)
        have Zs191 : n0 ≤ T162.heap.size := (Nat.le_trans Z0 hq167.1)
        have ne192 : dd ≠ x163 := Nat.ne_of_lt (Nat.lt_of_lt_of_le lt184 hpq169)
        have ne193 : ka ≠ x163 := Nat.ne_of_lt (Nat.lt_of_lt_of_le lt185 hpq169)
        have ne194 : wa ≠ x163 := Nat.ne_of_lt (Nat.lt_of_lt_of_le lt186 hpq169)
        have sz195 : h0.size ≤ x163 := Nat.le_trans K0.1 hpq169
        have ne196 : dd ≠ x164 := Nat.ne_of_lt (Nat.lt_of_lt_of_le lt184 hpq171)
        have ne197 : ka ≠ x164 := Nat.ne_of_lt (Nat.lt_of_lt_of_le lt185 hpq171)
        have ne198 : wa ≠ x164 := Nat.ne_of_lt (Nat.lt_of_lt_of_le lt186 hpq171)
        have sz199 : h0.size ≤ x164 := Nat.le_trans K0.1 hpq171
        obtain ⟨T200, X200, e200, st200⟩ := getF X162 hx hZ hown (host := "") (Or.inl (own_w hw 16 rfl)) Via.refl rfl F177 (g := (mkF m 47 #[.val (.ref dd), .val (.int lv), .val (.int (1 : Int32)), .val (.long (own_bit lv)), .second] [(.ref dd)])) rfl rfl (hb hby d17_47)
        have oc201 := A181
        obtain ⟨c201, Arc201, qc201, Sc201, Nc201, Hc201, Gc201⟩ := oc201
        have hin202 : ¬ ((1 : Int32) < 0 ∨ c201.slots.size ≤ ((1 : Int32)).toNatClampNeg) := (inb_of Sc201 ⟨by decide, by decide⟩)
        have oc203 := A181
        obtain ⟨c203, Arc203, qc203, Sc203, Nc203, Hc203, Gc203⟩ := oc203
        have hin204 : ¬ ((1 : Int32) < 0 ∨ c203.slots.size ≤ ((1 : Int32)).toNatClampNeg) := (inb_of Sc203 ⟨by decide, by decide⟩)
        obtain ⟨T204, h204, X204, e204, W204, st204⟩ := stJ X200 hx hZ e200 Arc203 (j := (1 : Int32)) hin204 (g := (mkF m 59 #[.val (.ref dd), .val (.int lv), .val (.int (1 : Int32)), .val (.long (own_bit lv)), .second] [(.long (w1 &&& ((own_bit lv) ^^^ (-1 : Int64)))), (.int (1 : Int32)), (.ref x164)])) rfl rfl (hb hby d17_59)
        have V204 : Arv Z h204 x164 x166 .long (2 : Int32) [(.long w0), (.long (w1 &&& ((own_bit lv) ^^^ (-1 : Int64))))] (.long (0 : Int64)) := Arv.set Arc203 qc203 Sc203 Nc203 Hc203 Gc203 rfl W204 1 rfl (Nat.le_of_ble_eq_true rfl)
        have A205 := A187.other W204 ne197
        have A206 := A188.other W204 ne198
        have E207 := E189.wr W204
        have E208 := E190.wr W204
        have E209 := E175.wr W204
        have F210 := F176.other W204 (Or.inl hpq173)
        have F211 := F177.other W204 (Or.inl hpq173)
        have F212 := F178.other W204 (Or.inl hpq173)
        have F213 := F179.other W204 (Or.inl hpq173)
        have A214 := A180.other W204 hpq174
        have E215 := E182.wr W204
        have E216 := E183.wr W204
        have N204 := Fr.snoc X204 N162 hpq170
        have K204 : Keep h0 h204 [dd] := K162.wr W204 (Or.inr sz199)
        have Zs217 : n0 ≤ h204.size := (Nat.le_trans Zs191 (Keep.of_wr W204).1)
        obtain ⟨T218, X218, e218, st218⟩ := getF X204 hx hZ hown (host := "") (Or.inl (own_w hw 16 rfl)) Via.refl e204 F211 (g := (mkF m 61 #[.val (.ref dd), .val (.int lv), .val (.int (1 : Int32)), .val (.long (own_bit lv)), .second] [(.ref dd)])) rfl rfl (hb hby d17_61)
        have oc219 := V204
        obtain ⟨c219, Arc219, qc219, Sc219, Nc219, Hc219, Gc219⟩ := oc219
        have hin220 : ¬ ((1 : Int32) < 0 ∨ c219.slots.size ≤ ((1 : Int32)).toNatClampNeg) := (inb_of Sc219 ⟨by decide, by decide⟩)
        have pre221 := fun (t : State) (k : Steps p.tables e below (T218.setTop (mkF m 68 #[.val (.ref dd), .val (.int lv), .val (.int (1 : Int32)), .val (.long (own_bit lv)), .second] [(.int (lcmpW (w1 &&& ((own_bit lv) ^^^ (-1 : Int64))) (0 : Int64)))])) t) => pre158 t (by
          refine XS.ifNo X155.here hx rfl (hb hby d17_35) rfl ((if0 _ _).trans (feq hc159).1) ?_
          refine XS.aloadN X155.here hx rfl (hb hby d17_38) rfl rfl ?_
          refine XS.aloadN X155.here hx rfl (hb hby d17_39) rfl rfl ?_
          refine st161 _ ?_
          refine st162.trans ?_
          refine XS.aloadN X162.here hx rfl (hb hby d17_46) rfl rfl ?_
          refine st200 _ ?_
          refine XS.iloadN X200.here hx rfl (hb hby d17_50) rfl ?_
          jvm_step X200.here [X200.here.top, hx, (hb hby d17_51), Value.category]
          refine X200.laload hx (j := (1 : Int32)) (v := (.long w1)) (by rw [e200]; exact Arc201.1) (State.isArrayOf_alike hZ.alike Arc201.2.1) Arc201.2.2 hin202 (Has.at Hc201 hin202 rfl) (g := (mkF m 52 #[.val (.ref dd), .val (.int lv), .val (.int (1 : Int32)), .val (.long (own_bit lv)), .second] [(.int (1 : Int32)), (.ref x164), (.int (1 : Int32)), (.ref x164)])) rfl rfl (hb hby d17_52) _ ?_
          refine XS.lloadN X200.here hx rfl (hb hby d17_53) rfl ?_
          refine X200.ldc2Long hx hown (mvT hZ (own_w hw 104 rfl)) (g := (mkF m 54 #[.val (.ref dd), .val (.int lv), .val (.int (1 : Int32)), .val (.long (own_bit lv)), .second] [(.long (own_bit lv)), (.long w1), (.int (1 : Int32)), (.ref x164)])) rfl (hb hby d17_54) _ ?_
          refine XS.lxor X200.here hx rfl (hb hby d17_57) rfl ?_
          refine XS.land X200.here hx rfl (hb hby d17_58) rfl ?_
          refine st204 _ ?_
          refine XS.aloadN X204.here hx rfl (hb hby d17_60) rfl rfl ?_
          refine st218 _ ?_
          refine XS.iloadN X218.here hx rfl (hb hby d17_64) rfl ?_
          refine X218.laload hx (j := (1 : Int32)) (v := (.long (w1 &&& ((own_bit lv) ^^^ (-1 : Int64))))) (by rw [e218]; exact Arc219.1) (State.isArrayOf_alike hZ.alike Arc219.2.1) Arc219.2.2 hin220 (Has.at Hc219 hin220 rfl) (g := (mkF m 65 #[.val (.ref dd), .val (.int lv), .val (.int (1 : Int32)), .val (.long (own_bit lv)), .second] [(.int (1 : Int32)), (.ref x164)])) rfl rfl (hb hby d17_65) _ ?_
          refine XS.lconst X218.here hx rfl (hb hby d17_66) ?_
          refine XS.lcmp X218.here hx rfl (hb hby d17_67) rfl ?_
          exact k)
        by_cases hc222 : (lcmpW (w1 &&& ((own_bit lv) ^^^ (-1 : Int64))) (0 : Int64)) = (0 : Int32)
        · obtain ⟨T223, X223, e223, st223⟩ := getF X218 hx hZ hown (host := "") (Or.inl (own_w hw 12 rfl)) Via.refl e218 F210 (g := (mkF m 72 #[.val (.ref dd), .val (.int lv), .val (.int (1 : Int32)), .val (.long (own_bit lv)), .second] [(.ref dd)])) rfl rfl (hb hby d17_72)
          obtain ⟨T224, X224, e224, st224⟩ := getF X223 hx hZ hown (host := "") (Or.inl (own_w hw 12 rfl)) Via.refl e223 F210 (g := (mkF m 79 #[.val (.ref dd), .val (.int lv), .val (.int (1 : Int32)), .val (.long (own_bit lv)), .second] [(.ref dd), (.int (2 : Int32)), (.ref x163)])) rfl rfl (hb hby d17_79)
          obtain ⟨T225, X225, e225, st225⟩ := getF X224 hx hZ hown (host := "") (Or.inl (own_w hw 23 rfl)) Via.refl e224 F212 (g := (mkF m 84 #[.val (.ref dd), .val (.int lv), .val (.int (1 : Int32)), .val (.long (own_bit lv)), .second] [(.ref dd), (.int (1 : Int32)), (.ref x163), (.int (2 : Int32)), (.ref x163)])) rfl rfl (hb hby d17_84)
          obtain ⟨T226, h226, L226, X226, e226, N226, K226q, A226, st226⟩ := cpA X225 hx hZ hown (own_w hw 57 rfl) (own_w hw 52 rfl) (own_w hw 50 rfl) (own_w hw 51 rfl) e225 A214 A214 (Or.inl ⟨rfl, rfl⟩) (by decide) (by decide) (by decide) (by decide) (by decide) (us := []) rfl (Nat.le_of_ble_eq_true rfl) N204 hpq168 (g := (mkF m 91 #[.val (.ref dd), .val (.int lv), .val (.int (1 : Int32)), .val (.long (own_bit lv)), .second] [(.int (0 : Int32)), (.int (1 : Int32)), (.ref x163), (.int (2 : Int32)), (.ref x163)])) rfl (by rw [hml]; rfl) rfl (hb hby d17_91) (by decide) (W := 0) (by show 2 * 0 + _ ≤ _; exact Nat.le_of_eq rfl) (by decide)
          have V226 : Arv Z h226 x163 x165 .int (2 : Int32) [(.int k0), (.int k1)] (.int (0 : Int32)) := A226
          have A227 := A205.keep K226q (ninS ne193 nin0)
          have A228 := A206.keep K226q (ninS ne194 nin0)
          have E229 := E207.keep K226q
          have E230 := E208.keep K226q
          have E231 := E209.keep K226q
          have F232 := F210.keep K226q (ninS hpq172 nin0)
          have F233 := F211.keep K226q (ninS hpq172 nin0)
          have F234 := F212.keep K226q (ninS hpq172 nin0)
          have F235 := F213.keep K226q (ninS hpq172 nin0)
          have E236 := E215.keep K226q
          have E237 := E216.keep K226q
          have A238 := V204.keep K226q (ninS (Ne.symm hpq174) nin0)
          have K226 : Keep h0 h226 [dd] := K204.trans K226q (allS (Or.inr sz195) all0)
          have Zs239 : n0 ≤ h226.size := (Nat.le_trans Zs217 K226q.1)
          obtain ⟨T240, X240, e240, st240⟩ := getF X226 hx hZ hown (host := "") (Or.inl (own_w hw 16 rfl)) Via.refl e226 F233 (g := (mkF m 95 #[.val (.ref dd), .val (.int lv), .val (.int (1 : Int32)), .val (.long (own_bit lv)), .second] [(.ref dd)])) rfl rfl (hb hby d17_95)
          obtain ⟨T241, X241, e241, st241⟩ := getF X240 hx hZ hown (host := "") (Or.inl (own_w hw 16 rfl)) Via.refl e240 F233 (g := (mkF m 102 #[.val (.ref dd), .val (.int lv), .val (.int (1 : Int32)), .val (.long (own_bit lv)), .second] [(.ref dd), (.int (2 : Int32)), (.ref x164)])) rfl rfl (hb hby d17_102)
          obtain ⟨T242, X242, e242, st242⟩ := getF X241 hx hZ hown (host := "") (Or.inl (own_w hw 23 rfl)) Via.refl e241 F234 (g := (mkF m 107 #[.val (.ref dd), .val (.int lv), .val (.int (1 : Int32)), .val (.long (own_bit lv)), .second] [(.ref dd), (.int (1 : Int32)), (.ref x164), (.int (2 : Int32)), (.ref x164)])) rfl rfl (hb hby d17_107)
          obtain ⟨T243, h243, L243, X243, e243, N243, K243q, A243, st243⟩ := cpA X242 hx hZ hown (own_w hw 57 rfl) (own_w hw 52 rfl) (own_w hw 50 rfl) (own_w hw 51 rfl) e242 A238 A238 (Or.inl ⟨rfl, rfl⟩) (by decide) (by decide) (by decide) (by decide) (by decide) (us := []) rfl (Nat.le_of_ble_eq_true rfl) N226 hpq170 (g := (mkF m 114 #[.val (.ref dd), .val (.int lv), .val (.int (1 : Int32)), .val (.long (own_bit lv)), .second] [(.int (0 : Int32)), (.int (1 : Int32)), (.ref x164), (.int (2 : Int32)), (.ref x164)])) rfl (by rw [hml]; rfl) rfl (hb hby d17_114) (by decide) (W := 0) (by show 2 * 0 + _ ≤ _; exact Nat.le_of_eq rfl) (by decide)
          have V243 : Arv Z h243 x164 x166 .long (2 : Int32) [(.long w0), (.long (w1 &&& ((own_bit lv) ^^^ (-1 : Int64))))] (.long (0 : Int64)) := A243
          have A244 := A227.keep K243q (ninS ne197 nin0)
          have A245 := A228.keep K243q (ninS ne198 nin0)
          have E246 := E229.keep K243q
          have E247 := E230.keep K243q
          have E248 := E231.keep K243q
          have F249 := F232.keep K243q (ninS hpq173 nin0)
          have F250 := F233.keep K243q (ninS hpq173 nin0)
          have F251 := F234.keep K243q (ninS hpq173 nin0)
          have F252 := F235.keep K243q (ninS hpq173 nin0)
          have E253 := E236.keep K243q
          have E254 := E237.keep K243q
          have A255 := V226.keep K243q (ninS hpq174 nin0)
          have K243 : Keep h0 h243 [dd] := K226.trans K243q (allS (Or.inr sz199) all0)
          have Zs256 : n0 ≤ h243.size := (Nat.le_trans Zs239 K243q.1)
          obtain ⟨T257, X257, e257, st257⟩ := getF X243 hx hZ hown (host := "") (Or.inl (own_w hw 23 rfl)) Via.refl e243 F251 (g := (mkF m 119 #[.val (.ref dd), .val (.int lv), .val (.int (1 : Int32)), .val (.long (own_bit lv)), .second] [(.ref dd), (.ref dd)])) rfl rfl (hb hby d17_119)
          obtain ⟨T258, h258, X258, e258, W258, st258⟩ := putF X257 hx hZ hown (host := "") (Or.inl (own_w hw 23 rfl)) Via.refl e257 F251 E248 (Or.inl (own_w hw 24 rfl)) (own_w hw 2 rfl) (ty := .int) (by decide) rfl rfl (g := (mkF m 124 #[.val (.ref dd), .val (.int lv), .val (.int (1 : Int32)), .val (.long (own_bit lv)), .second] [(.int (1 : Int32)), (.ref dd)])) rfl rfl (hb hby d17_124)
          have Fw258 : Fld Z h258 dd "org/tallyrole/core/Dependencies" "size" "I" (.int (1 : Int32)) := F251.same W258
          have A259 := A244.other W258 (Ne.symm hn1)
          have A260 := A245.other W258 (Ne.symm hn2)
          have E261 := E246.wr W258
          have E262 := E247.wr W258
          have E263 := E248.wr W258
          have F264 := F249.other W258 (Or.inr (slot_ne (Or.inl (own_w hw 13 rfl)) (Or.inl (own_w hw 24 rfl)) (by decide) (t := (.array .int)) (t' := .int) (by decide) (by decide)))
          have F265 := F250.other W258 (Or.inr (slot_ne (Or.inl (own_w hw 17 rfl)) (Or.inl (own_w hw 24 rfl)) (by decide) (t := (.array .long)) (t' := .int) (by decide) (by decide)))
          have F266 := F252.other W258 (Or.inr (slot_ne (Or.inl (own_w hw 40 rfl)) (Or.inl (own_w hw 24 rfl)) (by decide) (t := .boolean) (t' := .int) (by decide) (by decide)))
          have E267 := E253.wr W258
          have E268 := E254.wr W258
          have A269 := A255.other W258 (Ne.symm hpq172)
          have A270 := V243.other W258 (Ne.symm hpq173)
          have N258 := Fr.snoc X258 N243 hdd
          have K258 : Keep h0 h258 [dd] := K243.wr W258 (Or.inl (List.mem_of_getElem? (i := 0) rfl))
          have Zs271 : n0 ≤ h258.size := (Nat.le_trans Zs256 (Keep.of_wr W258).1)
          have pre272 := fun (t : State) (k : Steps p.tables e below (T258.setTop (mkF m 127 #[.val (.ref dd), .val (.int lv), .val (.int (1 : Int32)), .val (.long (own_bit lv)), .second] [])) t) => pre221 t (by
            refine XS.ifNo X218.here hx rfl (hb hby d17_68) rfl ((if0 _ _).trans (teq hc222).2) ?_
            refine XS.aloadN X218.here hx rfl (hb hby d17_71) rfl rfl ?_
            refine st223 _ ?_
            refine XS.iloadN X223.here hx rfl (hb hby d17_75) rfl ?_
            refine XS.iconst X223.here hx rfl (hb hby d17_76) ?_
            refine XS.iadd X223.here hx rfl (hb hby d17_77) rfl ?_
            refine XS.aloadN X223.here hx rfl (hb hby d17_78) rfl rfl ?_
            refine st224 _ ?_
            refine XS.iloadN X224.here hx rfl (hb hby d17_82) rfl ?_
            refine XS.aloadN X224.here hx rfl (hb hby d17_83) rfl rfl ?_
            refine st225 _ ?_
            refine XS.iloadN X225.here hx rfl (hb hby d17_87) rfl ?_
            refine XS.isub X225.here hx rfl (hb hby d17_88) rfl ?_
            refine XS.iconst X225.here hx rfl (hb hby d17_89) ?_
            refine XS.isub X225.here hx rfl (hb hby d17_90) rfl ?_
            refine st226 _ ?_
            refine XS.aloadN X226.here hx rfl (hb hby d17_94) rfl rfl ?_
            refine st240 _ ?_
            refine XS.iloadN X240.here hx rfl (hb hby d17_98) rfl ?_
            refine XS.iconst X240.here hx rfl (hb hby d17_99) ?_
            refine XS.iadd X240.here hx rfl (hb hby d17_100) rfl ?_
            refine XS.aloadN X240.here hx rfl (hb hby d17_101) rfl rfl ?_
            refine st241 _ ?_
            refine XS.iloadN X241.here hx rfl (hb hby d17_105) rfl ?_
            refine XS.aloadN X241.here hx rfl (hb hby d17_106) rfl rfl ?_
            refine st242 _ ?_
            refine XS.iloadN X242.here hx rfl (hb hby d17_110) rfl ?_
            refine XS.isub X242.here hx rfl (hb hby d17_111) rfl ?_
            refine XS.iconst X242.here hx rfl (hb hby d17_112) ?_
            refine XS.isub X242.here hx rfl (hb hby d17_113) rfl ?_
            refine st243 _ ?_
            refine XS.aloadN X243.here hx rfl (hb hby d17_117) rfl rfl ?_
            refine XS.dup X243.here hx rfl (hb hby d17_118) rfl rfl ?_
            refine st257 _ ?_
            refine XS.iconst X257.here hx rfl (hb hby d17_122) ?_
            refine XS.isub X257.here hx rfl (hb hby d17_123) rfl ?_
            refine st258 _ ?_
            exact k)
          obtain ⟨fs, hr, hrun, hended, hW, hsame⟩ := X258.leave (v := none) (hlocks := BodyLoose.notSynchronized Bd) (fun _ => rfl)
          refine ⟨_, _, pre272 _ ?_, hrun, hended, _, _, rfl, ?_, ⟨_, rfl⟩, hW, hsame.mono (by decide) (by decide)⟩
          · exact X258.returnOut hx Bd.returns (hb hby d17_127) hr
          · show Q_rmS Z dd ka wa kk kw (3 : Int32) (2 : Int32) [(.int k0), (.int k1), (.int g2)] [(.long w0), (.long w1), (.long q2)] SS lv h0 n0 _ T258.heap _
            rw [e258]
            exact ⟨x163, x164, x165, x166, (2 : Int32), (1 : Int32), [(.int k0), (.int k1)], [(.long w0), (.long (w1 &&& ((own_bit lv) ^^^ (-1 : Int64))))], (0 : Int32), rfl, N258, K258, hpq168, hpq170, (Or.inr sz195), (Or.inr sz199), hpq172, hpq173, hpq174, (Or.inr (Or.inr (Or.inl ⟨_, _, _, _, rfl, rfl, rfl, rfl, (own_r_out (A := [(k0, w0)]) (B := []) hrr (own_eq_of hb146 hb147) ((lw_eq _ _).mp hc222))⟩))), E263, F264, F265, Fw258, F266, A269, A270, E267, E268⟩
        · have pre273 := fun (t : State) (k : Steps p.tables e below (T218.setTop (mkF m 127 #[.val (.ref dd), .val (.int lv), .val (.int (1 : Int32)), .val (.long (own_bit lv)), .second] [])) t) => pre221 t (by
            refine XS.ifYes X218.here hx rfl (pc0 := 68) (pc' := 127) rfl (hb hby d17_68) rfl ((if0 _ _).trans (feq hc222).2) (by decide) (by decide) ?_
            exact k)
          obtain ⟨fs, hr, hrun, hended, hW, hsame⟩ := X218.leave (v := none) (hlocks := BodyLoose.notSynchronized Bd) (fun _ => rfl)
          refine ⟨_, _, pre273 _ ?_, hrun, hended, _, _, rfl, ?_, ⟨_, rfl⟩, hW, hsame.mono (by decide) (by decide)⟩
          · exact X218.returnOut hx Bd.returns (hb hby d17_127) hr
          · show Q_rmS Z dd ka wa kk kw (3 : Int32) (2 : Int32) [(.int k0), (.int k1), (.int g2)] [(.long w0), (.long w1), (.long q2)] SS lv h0 n0 _ T218.heap _
            rw [e218]
            exact ⟨x163, x164, x165, x166, (2 : Int32), (2 : Int32), [(.int k0), (.int k1)], [(.long w0), (.long (w1 &&& ((own_bit lv) ^^^ (-1 : Int64))))], (0 : Int32), rfl, N204, K204, hpq168, hpq170, (Or.inr sz195), (Or.inr sz199), hpq172, hpq173, hpq174, (Or.inr (Or.inr (Or.inr (Or.inl ⟨_, _, _, _, rfl, rfl, rfl, rfl, (own_r_clr (A := [(k0, w0)]) (B := []) hrr (own_eq_of hb146 hb147) (fun q => hc222 ((lw_eq _ _).mpr q)))⟩)))), E209, F210, F211, F212, F213, A214, V204, E215, E216⟩
    · have pre274 := fun (t : State) (k : Steps p.tables e below (T136.setTop (mkF m 127 #[.val (.ref dd), .val (.int lv), .val (.int (-1 : Int32)), .val (.long (own_bit lv)), .second] [])) t) => pre152 t (by
        refine XS.istoreN X136.here hx rfl (hb hby d17_16) rfl (l' := #[.val (.ref dd), .val (.int lv), .val (.int (-1 : Int32)), .unset, .unset]) rfl ?_
        refine XS.lconst X136.here hx rfl (hb hby d17_17) ?_
        refine XS.iloadN X136.here hx rfl (hb hby d17_18) rfl ?_
        refine XS.lshl X136.here hx rfl (hb hby d17_19) rfl ?_
        show Steps p.tables e below (T136.setTop (mkF m 20 #[.val (.ref dd), .val (.int lv), .val (.int (-1 : Int32)), .unset, .unset] [(.long (own_bit lv))])) _
        refine XS.lstoreN X136.here hx rfl (hb hby d17_20) rfl (l' := #[.val (.ref dd), .val (.int lv), .val (.int (-1 : Int32)), .val (.long (own_bit lv)), .second]) rfl ?_
        refine XS.iloadN X136.here hx rfl (hb hby d17_21) rfl ?_
        refine XS.ifYes X136.here hx rfl (pc0 := 22) (pc' := 127) rfl (hb hby d17_22) rfl ((if0 _ _).trans (tlt (by decide : (-1 : Int32) < (0 : Int32))).1) (by decide) (by decide) ?_
        exact k)
      obtain ⟨fs, hr, hrun, hended, hW, hsame⟩ := X136.leave (v := none) (hlocks := BodyLoose.notSynchronized Bd) (fun _ => rfl)
      refine ⟨_, _, pre274 _ ?_, hrun, hended, _, _, rfl, ?_, ⟨_, rfl⟩, hW, hsame.mono (by decide) (by decide)⟩
      · exact X136.returnOut hx Bd.returns (hb hby d17_127) hr
      · show Q_rmS Z dd ka wa kk kw (3 : Int32) (2 : Int32) [(.int k0), (.int k1), (.int g2)] [(.long w0), (.long w1), (.long q2)] SS lv h0 n0 _ T136.heap _
        rw [hq138]
        exact ⟨ka, wa, kk, kw, (3 : Int32), (2 : Int32), [(.int k0), (.int k1), (.int g2)], [(.long w0), (.long w1), (.long q2)], (1 : Int32), rfl, N136, K0, hka, hwa, (Or.inl rfl), (Or.inl rfl), hn1, hn2, hn3, (Or.inr (Or.inr (Or.inr (Or.inr ⟨_, _, _, _, _, _, rfl, rfl, rfl, rfl, (own_r_no hrr (List.forall_mem_cons.mpr ⟨(own_ne_gt hb149), (List.forall_mem_cons.mpr ⟨(own_ne_gt (Int32.lt_trans hb149 ho0)), (List.forall_mem_nil _)⟩)⟩))⟩)))), H0_E, H1_F, H2_F, H3_F, H4_F, H5_A, H6_A, H7_E, H8_E⟩
    · obtain ⟨T275, X275, e275, st275⟩ := getF X136 hx hZ hown (host := "") (Or.inl (own_w hw 16 rfl)) Via.refl hq138 H2_F (g := (mkF m 26 #[.val (.ref dd), .val (.int lv), .val (.int (0 : Int32)), .val (.long (own_bit lv)), .second] [(.ref dd)])) rfl rfl (hb hby d17_26)
      have oc276 := H6_A
      obtain ⟨c276, Arc276, qc276, Sc276, Nc276, Hc276, Gc276⟩ := oc276
      have hin277 : ¬ ((0 : Int32) < 0 ∨ c276.slots.size ≤ ((0 : Int32)).toNatClampNeg) := (inb_of Sc276 ⟨by decide, by decide⟩)
      have pre278 := fun (t : State) (k : Steps p.tables e below (T275.setTop (mkF m 35 #[.val (.ref dd), .val (.int lv), .val (.int (0 : Int32)), .val (.long (own_bit lv)), .second] [(.int (lcmpW (w0 &&& (own_bit lv)) (0 : Int64)))])) t) => pre152 t (by
        refine XS.istoreN X136.here hx rfl (hb hby d17_16) rfl (l' := #[.val (.ref dd), .val (.int lv), .val (.int (0 : Int32)), .unset, .unset]) rfl ?_
        refine XS.lconst X136.here hx rfl (hb hby d17_17) ?_
        refine XS.iloadN X136.here hx rfl (hb hby d17_18) rfl ?_
        refine XS.lshl X136.here hx rfl (hb hby d17_19) rfl ?_
        show Steps p.tables e below (T136.setTop (mkF m 20 #[.val (.ref dd), .val (.int lv), .val (.int (0 : Int32)), .unset, .unset] [(.long (own_bit lv))])) _
        refine XS.lstoreN X136.here hx rfl (hb hby d17_20) rfl (l' := #[.val (.ref dd), .val (.int lv), .val (.int (0 : Int32)), .val (.long (own_bit lv)), .second]) rfl ?_
        refine XS.iloadN X136.here hx rfl (hb hby d17_21) rfl ?_
        refine XS.ifNo X136.here hx rfl (hb hby d17_22) rfl ((if0 _ _).trans (flt (by decide : ¬ ((0 : Int32) < (0 : Int32)))).1) ?_
        refine XS.aloadN X136.here hx rfl (hb hby d17_25) rfl rfl ?_
        refine st275 _ ?_
        refine XS.iloadN X275.here hx rfl (hb hby d17_29) rfl ?_
        refine X275.laload hx (j := (0 : Int32)) (v := (.long w0)) (by rw [e275]; exact Arc276.1) (State.isArrayOf_alike hZ.alike Arc276.2.1) Arc276.2.2 hin277 (Has.at Hc276 hin277 rfl) (g := (mkF m 30 #[.val (.ref dd), .val (.int lv), .val (.int (0 : Int32)), .val (.long (own_bit lv)), .second] [(.int (0 : Int32)), (.ref wa)])) rfl rfl (hb hby d17_30) _ ?_
        refine XS.lloadN X275.here hx rfl (hb hby d17_31) rfl ?_
        refine XS.land X275.here hx rfl (hb hby d17_32) rfl ?_
        refine XS.lconst X275.here hx rfl (hb hby d17_33) ?_
        refine XS.lcmp X275.here hx rfl (hb hby d17_34) rfl ?_
        exact k)
      by_cases hc279 : (lcmpW (w0 &&& (own_bit lv)) (0 : Int64)) = (0 : Int32)
      · have pre280 := fun (t : State) (k : Steps p.tables e below (T275.setTop (mkF m 127 #[.val (.ref dd), .val (.int lv), .val (.int (0 : Int32)), .val (.long (own_bit lv)), .second] [])) t) => pre278 t (by
          refine XS.ifYes X275.here hx rfl (pc0 := 35) (pc' := 127) rfl (hb hby d17_35) rfl ((if0 _ _).trans (teq hc279).1) (by decide) (by decide) ?_
          exact k)
        obtain ⟨fs, hr, hrun, hended, hW, hsame⟩ := X275.leave (v := none) (hlocks := BodyLoose.notSynchronized Bd) (fun _ => rfl)
        refine ⟨_, _, pre280 _ ?_, hrun, hended, _, _, rfl, ?_, ⟨_, rfl⟩, hW, hsame.mono (by decide) (by decide)⟩
        · exact X275.returnOut hx Bd.returns (hb hby d17_127) hr
        · show Q_rmS Z dd ka wa kk kw (3 : Int32) (2 : Int32) [(.int k0), (.int k1), (.int g2)] [(.long w0), (.long w1), (.long q2)] SS lv h0 n0 _ T275.heap _
          rw [e275]
          exact ⟨ka, wa, kk, kw, (3 : Int32), (2 : Int32), [(.int k0), (.int k1), (.int g2)], [(.long w0), (.long w1), (.long q2)], (1 : Int32), rfl, N136, K0, hka, hwa, (Or.inl rfl), (Or.inl rfl), hn1, hn2, hn3, (Or.inr (Or.inr (Or.inr (Or.inr ⟨_, _, _, _, _, _, rfl, rfl, rfl, rfl, (own_r_off (A := []) (B := [(k1, w1)]) hrr (own_eq_of hb150 hb151) ((lw_eq _ _).mp hc279))⟩)))), H0_E, H1_F, H2_F, H3_F, H4_F, H5_A, H6_A, H7_E, H8_E⟩
      · obtain ⟨T281, X281, e281, st281⟩ := getF X275 hx hZ hown (host := "") (Or.inl (own_w hw 23 rfl)) Via.refl e275 H3_F (g := (mkF m 40 #[.val (.ref dd), .val (.int lv), .val (.int (0 : Int32)), .val (.long (own_bit lv)), .second] [(.ref dd), (.ref dd)])) rfl rfl (hb hby d17_40)
        obtain ⟨cq282, q282, q282'⟩ := H0_E.cell
        obtain ⟨_, _, ⟨T282, L282, k282, n282⟩, -, X282, ⟨Lc282, hQ282, l282, y282, z282⟩, st282⟩ := X281.privateBack hx (y := (⟨"org/tallyrole/core/Dependencies", "reserve", "(I)V"⟩ : MethodName)) hown (mvT hZ (own_w hw 35 rfl)) (mvT hZ (own_w hw 36 rfl)) (own_sel_priv (z := (⟨"org/tallyrole/core/Dependencies", "add", "(I)V"⟩ : MethodName)) (mvT hZ (own_w hw 21 rfl)) rfl (mvP hZ (own_w hw 37 rfl)) (mvT hZ (own_w hw 36 rfl)) (by decide)) (Cond.privateMethod_at (mvP hZ (own_w hw 37 rfl) (args := #[]))) (mvT hZ (own_w hw 38 rfl)) (by decide) (backOf (W := 0) (rm_rv3_2_1 l Z a0 hw [] dd ka wa kk kw (2 : Int32) k0 k1 g2 w0 w1 q2 h0 n0 Z0 H0_E H1_F H2_F H3_F H4_F H5_A H6_A hdd hn1 hn2) hZ (own_w hw 38 rfl) (own_w hw 3 rfl) (by decide) (by decide)) (g := (mkF m 43 #[.val (.ref dd), .val (.int lv), .val (.int (0 : Int32)), .val (.long (own_bit lv)), .second] [(.int (2 : Int32)), (.ref dd)])) rfl (by rw [hml]; rfl) (Steps.refl _) (a := dd) (by rw [e281]; exact q282) q282' (argsL := [(.int (2 : Int32))]) (rest := []) (lenOf pd_7 rfl) rfl (by show 2 * 0 + _ ≤ _; exact Nat.le_of_eq rfl) (hb hby d17_43) (fun _ _ => ⟨rfl, e281, (by decide : 0 + 2 ≤ _), (by decide : 0 + 4 ≤ _)⟩)
        dsimp only [Pt.U, Pt.locs, Pt.cells, Pt.slots] at X282 l282 y282 z282 st282 hQ282
        subst l282 y282 z282
        obtain ⟨x283, x284, x285, x286, rfl, N282q, hq287, hpq288, hpq289, hpq290, hpq291, hpq292, hpq293, hpq294, E295, F296, F297, F298, F299, A300, A301, E302, E303⟩ := hQ282
        have N282 := Fr.app N136 N282q
        have lt304 : dd < h0.size := H0_E.lt
        have lt305 : ka < h0.size := H5_A.lt
        have lt306 : wa < h0.size := H6_A.lt
        have A307 := H5_A.keep hq287 (ninS (Ne.symm hn1) nin0)
        have A308 := H6_A.keep hq287 (ninS (Ne.symm hn2) nin0)
        have E309 := H7_E.keep hq287
        have E310 := H8_E.keep hq287
        have K282 : Keep h0 T282.heap [dd] := K0.trans hq287 (allS (Or.inl (List.mem_of_getElem? (i := 0) rfl)) all0)
        have Zs311 : n0 ≤ T282.heap.size := (Nat.le_trans Z0 hq287.1)
        have ne312 : dd ≠ x283 := Nat.ne_of_lt (Nat.lt_of_lt_of_le lt304 hpq289)
        have ne313 : ka ≠ x283 := Nat.ne_of_lt (Nat.lt_of_lt_of_le lt305 hpq289)
        have ne314 : wa ≠ x283 := Nat.ne_of_lt (Nat.lt_of_lt_of_le lt306 hpq289)
        have sz315 : h0.size ≤ x283 := Nat.le_trans K0.1 hpq289
        have ne316 : dd ≠ x284 := Nat.ne_of_lt (Nat.lt_of_lt_of_le lt304 hpq291)
        have ne317 : ka ≠ x284 := Nat.ne_of_lt (Nat.lt_of_lt_of_le lt305 hpq291)
        have ne318 : wa ≠ x284 := Nat.ne_of_lt (Nat.lt_of_lt_of_le lt306 hpq291)
        have sz319 : h0.size ≤ x284 := Nat.le_trans K0.1 hpq291
        obtain ⟨T320, X320, e320, st320⟩ := getF X282 hx hZ hown (host := "") (Or.inl (own_w hw 16 rfl)) Via.refl rfl F297 (g := (mkF m 47 #[.val (.ref dd), .val (.int lv), .val (.int (0 : Int32)), .val (.long (own_bit lv)), .second] [(.ref dd)])) rfl rfl (hb hby d17_47)
        have oc321 := A301
        obtain ⟨c321, Arc321, qc321, Sc321, Nc321, Hc321, Gc321⟩ := oc321
        have hin322 : ¬ ((0 : Int32) < 0 ∨ c321.slots.size ≤ ((0 : Int32)).toNatClampNeg) := (inb_of Sc321 ⟨by decide, by decide⟩)
        have oc323 := A301
        obtain ⟨c323, Arc323, qc323, Sc323, Nc323, Hc323, Gc323⟩ := oc323
        have hin324 : ¬ ((0 : Int32) < 0 ∨ c323.slots.size ≤ ((0 : Int32)).toNatClampNeg) := (inb_of Sc323 ⟨by decide, by decide⟩)
        obtain ⟨T324, h324, X324, e324, W324, st324⟩ := stJ X320 hx hZ e320 Arc323 (j := (0 : Int32)) hin324 (g := (mkF m 59 #[.val (.ref dd), .val (.int lv), .val (.int (0 : Int32)), .val (.long (own_bit lv)), .second] [(.long (w0 &&& ((own_bit lv) ^^^ (-1 : Int64)))), (.int (0 : Int32)), (.ref x284)])) rfl rfl (hb hby d17_59)
        have V324 : Arv Z h324 x284 x286 .long (2 : Int32) [(.long (w0 &&& ((own_bit lv) ^^^ (-1 : Int64)))), (.long w1)] (.long (0 : Int64)) := Arv.set Arc323 qc323 Sc323 Nc323 Hc323 Gc323 rfl W324 0 rfl (Nat.le_of_ble_eq_true rfl)
        have A325 := A307.other W324 ne317
        have A326 := A308.other W324 ne318
        have E327 := E309.wr W324
        have E328 := E310.wr W324
        have E329 := E295.wr W324
        have F330 := F296.other W324 (Or.inl hpq293)
        have F331 := F297.other W324 (Or.inl hpq293)
        have F332 := F298.other W324 (Or.inl hpq293)
        have F333 := F299.other W324 (Or.inl hpq293)
        have A334 := A300.other W324 hpq294
        have E335 := E302.wr W324
        have E336 := E303.wr W324
        have N324 := Fr.snoc X324 N282 hpq290
        have K324 : Keep h0 h324 [dd] := K282.wr W324 (Or.inr sz319)
        have Zs337 : n0 ≤ h324.size := (Nat.le_trans Zs311 (Keep.of_wr W324).1)
        obtain ⟨T338, X338, e338, st338⟩ := getF X324 hx hZ hown (host := "") (Or.inl (own_w hw 16 rfl)) Via.refl e324 F331 (g := (mkF m 61 #[.val (.ref dd), .val (.int lv), .val (.int (0 : Int32)), .val (.long (own_bit lv)), .second] [(.ref dd)])) rfl rfl (hb hby d17_61)
        have oc339 := V324
        obtain ⟨c339, Arc339, qc339, Sc339, Nc339, Hc339, Gc339⟩ := oc339
        have hin340 : ¬ ((0 : Int32) < 0 ∨ c339.slots.size ≤ ((0 : Int32)).toNatClampNeg) := (inb_of Sc339 ⟨by decide, by decide⟩)
        have pre341 := fun (t : State) (k : Steps p.tables e below (T338.setTop (mkF m 68 #[.val (.ref dd), .val (.int lv), .val (.int (0 : Int32)), .val (.long (own_bit lv)), .second] [(.int (lcmpW (w0 &&& ((own_bit lv) ^^^ (-1 : Int64))) (0 : Int64)))])) t) => pre278 t (by
          refine XS.ifNo X275.here hx rfl (hb hby d17_35) rfl ((if0 _ _).trans (feq hc279).1) ?_
          refine XS.aloadN X275.here hx rfl (hb hby d17_38) rfl rfl ?_
          refine XS.aloadN X275.here hx rfl (hb hby d17_39) rfl rfl ?_
          refine st281 _ ?_
          refine st282.trans ?_
          refine XS.aloadN X282.here hx rfl (hb hby d17_46) rfl rfl ?_
          refine st320 _ ?_
          refine XS.iloadN X320.here hx rfl (hb hby d17_50) rfl ?_
          jvm_step X320.here [X320.here.top, hx, (hb hby d17_51), Value.category]
          refine X320.laload hx (j := (0 : Int32)) (v := (.long w0)) (by rw [e320]; exact Arc321.1) (State.isArrayOf_alike hZ.alike Arc321.2.1) Arc321.2.2 hin322 (Has.at Hc321 hin322 rfl) (g := (mkF m 52 #[.val (.ref dd), .val (.int lv), .val (.int (0 : Int32)), .val (.long (own_bit lv)), .second] [(.int (0 : Int32)), (.ref x284), (.int (0 : Int32)), (.ref x284)])) rfl rfl (hb hby d17_52) _ ?_
          refine XS.lloadN X320.here hx rfl (hb hby d17_53) rfl ?_
          refine X320.ldc2Long hx hown (mvT hZ (own_w hw 104 rfl)) (g := (mkF m 54 #[.val (.ref dd), .val (.int lv), .val (.int (0 : Int32)), .val (.long (own_bit lv)), .second] [(.long (own_bit lv)), (.long w0), (.int (0 : Int32)), (.ref x284)])) rfl (hb hby d17_54) _ ?_
          refine XS.lxor X320.here hx rfl (hb hby d17_57) rfl ?_
          refine XS.land X320.here hx rfl (hb hby d17_58) rfl ?_
          refine st324 _ ?_
          refine XS.aloadN X324.here hx rfl (hb hby d17_60) rfl rfl ?_
          refine st338 _ ?_
          refine XS.iloadN X338.here hx rfl (hb hby d17_64) rfl ?_
          refine X338.laload hx (j := (0 : Int32)) (v := (.long (w0 &&& ((own_bit lv) ^^^ (-1 : Int64))))) (by rw [e338]; exact Arc339.1) (State.isArrayOf_alike hZ.alike Arc339.2.1) Arc339.2.2 hin340 (Has.at Hc339 hin340 rfl) (g := (mkF m 65 #[.val (.ref dd), .val (.int lv), .val (.int (0 : Int32)), .val (.long (own_bit lv)), .second] [(.int (0 : Int32)), (.ref x284)])) rfl rfl (hb hby d17_65) _ ?_
          refine XS.lconst X338.here hx rfl (hb hby d17_66) ?_
          refine XS.lcmp X338.here hx rfl (hb hby d17_67) rfl ?_
          exact k)
        by_cases hc342 : (lcmpW (w0 &&& ((own_bit lv) ^^^ (-1 : Int64))) (0 : Int64)) = (0 : Int32)
        · obtain ⟨T343, X343, e343, st343⟩ := getF X338 hx hZ hown (host := "") (Or.inl (own_w hw 12 rfl)) Via.refl e338 F330 (g := (mkF m 72 #[.val (.ref dd), .val (.int lv), .val (.int (0 : Int32)), .val (.long (own_bit lv)), .second] [(.ref dd)])) rfl rfl (hb hby d17_72)
          obtain ⟨T344, X344, e344, st344⟩ := getF X343 hx hZ hown (host := "") (Or.inl (own_w hw 12 rfl)) Via.refl e343 F330 (g := (mkF m 79 #[.val (.ref dd), .val (.int lv), .val (.int (0 : Int32)), .val (.long (own_bit lv)), .second] [(.ref dd), (.int (1 : Int32)), (.ref x283)])) rfl rfl (hb hby d17_79)
          obtain ⟨T345, X345, e345, st345⟩ := getF X344 hx hZ hown (host := "") (Or.inl (own_w hw 23 rfl)) Via.refl e344 F332 (g := (mkF m 84 #[.val (.ref dd), .val (.int lv), .val (.int (0 : Int32)), .val (.long (own_bit lv)), .second] [(.ref dd), (.int (0 : Int32)), (.ref x283), (.int (1 : Int32)), (.ref x283)])) rfl rfl (hb hby d17_84)
          obtain ⟨T346, h346, L346, X346, e346, N346, K346q, A346, st346⟩ := cpA X345 hx hZ hown (own_w hw 57 rfl) (own_w hw 52 rfl) (own_w hw 50 rfl) (own_w hw 51 rfl) e345 A334 A334 (Or.inl ⟨rfl, rfl⟩) (by decide) (by decide) (by decide) (by decide) (by decide) (us := [(.int k1)]) rfl (Nat.le_of_ble_eq_true rfl) N324 hpq288 (g := (mkF m 91 #[.val (.ref dd), .val (.int lv), .val (.int (0 : Int32)), .val (.long (own_bit lv)), .second] [(.int (1 : Int32)), (.int (0 : Int32)), (.ref x283), (.int (1 : Int32)), (.ref x283)])) rfl (by rw [hml]; rfl) rfl (hb hby d17_91) (by decide) (W := 0) (by show 2 * 0 + _ ≤ _; exact Nat.le_of_eq rfl) (by decide)
          have V346 : Arv Z h346 x283 x285 .int (2 : Int32) [(.int k1), (.int k1)] (.int (0 : Int32)) := A346
          have A347 := A325.keep K346q (ninS ne313 nin0)
          have A348 := A326.keep K346q (ninS ne314 nin0)
          have E349 := E327.keep K346q
          have E350 := E328.keep K346q
          have E351 := E329.keep K346q
          have F352 := F330.keep K346q (ninS hpq292 nin0)
          have F353 := F331.keep K346q (ninS hpq292 nin0)
          have F354 := F332.keep K346q (ninS hpq292 nin0)
          have F355 := F333.keep K346q (ninS hpq292 nin0)
          have E356 := E335.keep K346q
          have E357 := E336.keep K346q
          have A358 := V324.keep K346q (ninS (Ne.symm hpq294) nin0)
          have K346 : Keep h0 h346 [dd] := K324.trans K346q (allS (Or.inr sz315) all0)
          have Zs359 : n0 ≤ h346.size := (Nat.le_trans Zs337 K346q.1)
          obtain ⟨T360, X360, e360, st360⟩ := getF X346 hx hZ hown (host := "") (Or.inl (own_w hw 16 rfl)) Via.refl e346 F353 (g := (mkF m 95 #[.val (.ref dd), .val (.int lv), .val (.int (0 : Int32)), .val (.long (own_bit lv)), .second] [(.ref dd)])) rfl rfl (hb hby d17_95)
          obtain ⟨T361, X361, e361, st361⟩ := getF X360 hx hZ hown (host := "") (Or.inl (own_w hw 16 rfl)) Via.refl e360 F353 (g := (mkF m 102 #[.val (.ref dd), .val (.int lv), .val (.int (0 : Int32)), .val (.long (own_bit lv)), .second] [(.ref dd), (.int (1 : Int32)), (.ref x284)])) rfl rfl (hb hby d17_102)
          obtain ⟨T362, X362, e362, st362⟩ := getF X361 hx hZ hown (host := "") (Or.inl (own_w hw 23 rfl)) Via.refl e361 F354 (g := (mkF m 107 #[.val (.ref dd), .val (.int lv), .val (.int (0 : Int32)), .val (.long (own_bit lv)), .second] [(.ref dd), (.int (0 : Int32)), (.ref x284), (.int (1 : Int32)), (.ref x284)])) rfl rfl (hb hby d17_107)
          obtain ⟨T363, h363, L363, X363, e363, N363, K363q, A363, st363⟩ := cpA X362 hx hZ hown (own_w hw 57 rfl) (own_w hw 52 rfl) (own_w hw 50 rfl) (own_w hw 51 rfl) e362 A358 A358 (Or.inl ⟨rfl, rfl⟩) (by decide) (by decide) (by decide) (by decide) (by decide) (us := [(.long w1)]) rfl (Nat.le_of_ble_eq_true rfl) N346 hpq290 (g := (mkF m 114 #[.val (.ref dd), .val (.int lv), .val (.int (0 : Int32)), .val (.long (own_bit lv)), .second] [(.int (1 : Int32)), (.int (0 : Int32)), (.ref x284), (.int (1 : Int32)), (.ref x284)])) rfl (by rw [hml]; rfl) rfl (hb hby d17_114) (by decide) (W := 0) (by show 2 * 0 + _ ≤ _; exact Nat.le_of_eq rfl) (by decide)
          have V363 : Arv Z h363 x284 x286 .long (2 : Int32) [(.long w1), (.long w1)] (.long (0 : Int64)) := A363
          have A364 := A347.keep K363q (ninS ne317 nin0)
          have A365 := A348.keep K363q (ninS ne318 nin0)
          have E366 := E349.keep K363q
          have E367 := E350.keep K363q
          have E368 := E351.keep K363q
          have F369 := F352.keep K363q (ninS hpq293 nin0)
          have F370 := F353.keep K363q (ninS hpq293 nin0)
          have F371 := F354.keep K363q (ninS hpq293 nin0)
          have F372 := F355.keep K363q (ninS hpq293 nin0)
          have E373 := E356.keep K363q
          have E374 := E357.keep K363q
          have A375 := V346.keep K363q (ninS hpq294 nin0)
          have K363 : Keep h0 h363 [dd] := K346.trans K363q (allS (Or.inr sz319) all0)
          have Zs376 : n0 ≤ h363.size := (Nat.le_trans Zs359 K363q.1)
          obtain ⟨T377, X377, e377, st377⟩ := getF X363 hx hZ hown (host := "") (Or.inl (own_w hw 23 rfl)) Via.refl e363 F371 (g := (mkF m 119 #[.val (.ref dd), .val (.int lv), .val (.int (0 : Int32)), .val (.long (own_bit lv)), .second] [(.ref dd), (.ref dd)])) rfl rfl (hb hby d17_119)
          obtain ⟨T378, h378, X378, e378, W378, st378⟩ := putF X377 hx hZ hown (host := "") (Or.inl (own_w hw 23 rfl)) Via.refl e377 F371 E368 (Or.inl (own_w hw 24 rfl)) (own_w hw 2 rfl) (ty := .int) (by decide) rfl rfl (g := (mkF m 124 #[.val (.ref dd), .val (.int lv), .val (.int (0 : Int32)), .val (.long (own_bit lv)), .second] [(.int (1 : Int32)), (.ref dd)])) rfl rfl (hb hby d17_124)
          have Fw378 : Fld Z h378 dd "org/tallyrole/core/Dependencies" "size" "I" (.int (1 : Int32)) := F371.same W378
          have A379 := A364.other W378 (Ne.symm hn1)
          have A380 := A365.other W378 (Ne.symm hn2)
          have E381 := E366.wr W378
          have E382 := E367.wr W378
          have E383 := E368.wr W378
          have F384 := F369.other W378 (Or.inr (slot_ne (Or.inl (own_w hw 13 rfl)) (Or.inl (own_w hw 24 rfl)) (by decide) (t := (.array .int)) (t' := .int) (by decide) (by decide)))
          have F385 := F370.other W378 (Or.inr (slot_ne (Or.inl (own_w hw 17 rfl)) (Or.inl (own_w hw 24 rfl)) (by decide) (t := (.array .long)) (t' := .int) (by decide) (by decide)))
          have F386 := F372.other W378 (Or.inr (slot_ne (Or.inl (own_w hw 40 rfl)) (Or.inl (own_w hw 24 rfl)) (by decide) (t := .boolean) (t' := .int) (by decide) (by decide)))
          have E387 := E373.wr W378
          have E388 := E374.wr W378
          have A389 := A375.other W378 (Ne.symm hpq292)
          have A390 := V363.other W378 (Ne.symm hpq293)
          have N378 := Fr.snoc X378 N363 hdd
          have K378 : Keep h0 h378 [dd] := K363.wr W378 (Or.inl (List.mem_of_getElem? (i := 0) rfl))
          have Zs391 : n0 ≤ h378.size := (Nat.le_trans Zs376 (Keep.of_wr W378).1)
          have pre392 := fun (t : State) (k : Steps p.tables e below (T378.setTop (mkF m 127 #[.val (.ref dd), .val (.int lv), .val (.int (0 : Int32)), .val (.long (own_bit lv)), .second] [])) t) => pre341 t (by
            refine XS.ifNo X338.here hx rfl (hb hby d17_68) rfl ((if0 _ _).trans (teq hc342).2) ?_
            refine XS.aloadN X338.here hx rfl (hb hby d17_71) rfl rfl ?_
            refine st343 _ ?_
            refine XS.iloadN X343.here hx rfl (hb hby d17_75) rfl ?_
            refine XS.iconst X343.here hx rfl (hb hby d17_76) ?_
            refine XS.iadd X343.here hx rfl (hb hby d17_77) rfl ?_
            refine XS.aloadN X343.here hx rfl (hb hby d17_78) rfl rfl ?_
            refine st344 _ ?_
            refine XS.iloadN X344.here hx rfl (hb hby d17_82) rfl ?_
            refine XS.aloadN X344.here hx rfl (hb hby d17_83) rfl rfl ?_
            refine st345 _ ?_
            refine XS.iloadN X345.here hx rfl (hb hby d17_87) rfl ?_
            refine XS.isub X345.here hx rfl (hb hby d17_88) rfl ?_
            refine XS.iconst X345.here hx rfl (hb hby d17_89) ?_
            refine XS.isub X345.here hx rfl (hb hby d17_90) rfl ?_
            refine st346 _ ?_
            refine XS.aloadN X346.here hx rfl (hb hby d17_94) rfl rfl ?_
            refine st360 _ ?_
            refine XS.iloadN X360.here hx rfl (hb hby d17_98) rfl ?_
            refine XS.iconst X360.here hx rfl (hb hby d17_99) ?_
            refine XS.iadd X360.here hx rfl (hb hby d17_100) rfl ?_
            refine XS.aloadN X360.here hx rfl (hb hby d17_101) rfl rfl ?_
            refine st361 _ ?_
            refine XS.iloadN X361.here hx rfl (hb hby d17_105) rfl ?_
            refine XS.aloadN X361.here hx rfl (hb hby d17_106) rfl rfl ?_
            refine st362 _ ?_
            refine XS.iloadN X362.here hx rfl (hb hby d17_110) rfl ?_
            refine XS.isub X362.here hx rfl (hb hby d17_111) rfl ?_
            refine XS.iconst X362.here hx rfl (hb hby d17_112) ?_
            refine XS.isub X362.here hx rfl (hb hby d17_113) rfl ?_
            refine st363 _ ?_
            refine XS.aloadN X363.here hx rfl (hb hby d17_117) rfl rfl ?_
            refine XS.dup X363.here hx rfl (hb hby d17_118) rfl rfl ?_
            refine st377 _ ?_
            refine XS.iconst X377.here hx rfl (hb hby d17_122) ?_
            refine XS.isub X377.here hx rfl (hb hby d17_123) rfl ?_
            refine st378 _ ?_
            exact k)
          obtain ⟨fs, hr, hrun, hended, hW, hsame⟩ := X378.leave (v := none) (hlocks := BodyLoose.notSynchronized Bd) (fun _ => rfl)
          refine ⟨_, _, pre392 _ ?_, hrun, hended, _, _, rfl, ?_, ⟨_, rfl⟩, hW, hsame.mono (by decide) (by decide)⟩
          · exact X378.returnOut hx Bd.returns (hb hby d17_127) hr
          · show Q_rmS Z dd ka wa kk kw (3 : Int32) (2 : Int32) [(.int k0), (.int k1), (.int g2)] [(.long w0), (.long w1), (.long q2)] SS lv h0 n0 _ T378.heap _
            rw [e378]
            exact ⟨x283, x284, x285, x286, (2 : Int32), (1 : Int32), [(.int k1), (.int k1)], [(.long w1), (.long w1)], (0 : Int32), rfl, N378, K378, hpq288, hpq290, (Or.inr sz315), (Or.inr sz319), hpq292, hpq293, hpq294, (Or.inr (Or.inr (Or.inl ⟨_, _, _, _, rfl, rfl, rfl, rfl, (own_r_out (A := []) (B := [(k1, w1)]) hrr (own_eq_of hb150 hb151) ((lw_eq _ _).mp hc342))⟩))), E383, F384, F385, Fw378, F386, A389, A390, E387, E388⟩
        · have pre393 := fun (t : State) (k : Steps p.tables e below (T338.setTop (mkF m 127 #[.val (.ref dd), .val (.int lv), .val (.int (0 : Int32)), .val (.long (own_bit lv)), .second] [])) t) => pre341 t (by
            refine XS.ifYes X338.here hx rfl (pc0 := 68) (pc' := 127) rfl (hb hby d17_68) rfl ((if0 _ _).trans (feq hc342).2) (by decide) (by decide) ?_
            exact k)
          obtain ⟨fs, hr, hrun, hended, hW, hsame⟩ := X338.leave (v := none) (hlocks := BodyLoose.notSynchronized Bd) (fun _ => rfl)
          refine ⟨_, _, pre393 _ ?_, hrun, hended, _, _, rfl, ?_, ⟨_, rfl⟩, hW, hsame.mono (by decide) (by decide)⟩
          · exact X338.returnOut hx Bd.returns (hb hby d17_127) hr
          · show Q_rmS Z dd ka wa kk kw (3 : Int32) (2 : Int32) [(.int k0), (.int k1), (.int g2)] [(.long w0), (.long w1), (.long q2)] SS lv h0 n0 _ T338.heap _
            rw [e338]
            exact ⟨x283, x284, x285, x286, (2 : Int32), (2 : Int32), [(.int k0), (.int k1)], [(.long (w0 &&& ((own_bit lv) ^^^ (-1 : Int64)))), (.long w1)], (0 : Int32), rfl, N324, K324, hpq288, hpq290, (Or.inr sz315), (Or.inr sz319), hpq292, hpq293, hpq294, (Or.inr (Or.inr (Or.inr (Or.inl ⟨_, _, _, _, rfl, rfl, rfl, rfl, (own_r_clr (A := []) (B := [(k1, w1)]) hrr (own_eq_of hb150 hb151) (fun q => hc342 ((lw_eq _ _).mpr q)))⟩)))), E329, F330, F331, F332, F333, A334, V324, E335, E336⟩

theorem ef_pin (m : MethodId) (x0 : Addr) (x1 : Addr) (x2 : Addr) (x3 : Int32) : entryFrame m #[(.ref x0), (.ref x1), (.ref x2), (.int x3)] 4 = mkF m 0 #[.val (.ref x0), .val (.ref x1), .val (.ref x2), .val (.int x3)] [] := by first | (simp [entryFrame, mkF, argsToLocals, Value.category]; done) | rfl
def Q_pin (Z : State) (dd : Addr) (ka : Addr) (wa : Addr) (sz : Int32) (h0 : Heap) (n0 : Nat) (v : Option Value) (h : Heap) (L : List Loc) : Prop := v = none ∧ Fr n0 L ∧ Keep h0 h [dd] ∧ Fld Z h dd "org/tallyrole/core/Dependencies" "keys" "[I" (.ref ka) ∧ Fld Z h dd "org/tallyrole/core/Dependencies" "words" "[J" (.ref wa) ∧ Fld Z h dd "org/tallyrole/core/Dependencies" "size" "I" (.int sz) ∧ Fld Z h dd "org/tallyrole/core/Dependencies" "shared" "Z" (.int (1 : Int32))
set_option maxRecDepth 65536 in
set_option maxHeartbeats 40000000 in
theorem rm_pin (l : Launch) (Z : State) (a0 : Array Value) (hw : ∀ d ∈ tables_1, d.before a0 Z = true) (ws : List Jvm.Cond) (dd : Addr) (ka : Addr) (wa : Addr) (sz : Int32) (h0 : Heap) (n0 : Nat) (Z0 : n0 ≤ h0.size) (H0_E : Exa Z h0 dd "org/tallyrole/core/Dependencies") (H1_F : Fld Z h0 dd "org/tallyrole/core/Dependencies" "keys" "[I" .null) (H2_F : Fld Z h0 dd "org/tallyrole/core/Dependencies" "words" "[J" .null) (H3_F : Fld Z h0 dd "org/tallyrole/core/Dependencies" "size" "I" (.int (0 : Int32))) (H4_F : Fld Z h0 dd "org/tallyrole/core/Dependencies" "shared" "Z" (.int (0 : Int32))) (hdd : n0 ≤ dd) :
    MetFree l (⟨"org/tallyrole/core/Dependencies", "<init>", "([I[JI)V"⟩ : MethodName) (head1 (Jvm.Cond.code (⟨"org/tallyrole/core/Dependencies", "<init>", "([I[JI)V"⟩ : MethodName) prog_36_method_2_code 4 none :: ws) ({ frames := 1, cells := 0, slots := 0, locals := 12 } : Room)) (fun as_ U_ => as_ = #[(.ref dd), (.ref ka), (.ref wa), (.int sz)] ∧ Z.Warmed39 U_.vm ∧ U_.heap = h0) (fun _ _ _ _ _ => True) (fun _ U o U' => ∃ v L, o = .returned v ∧ Q_pin Z dd ka wa sz h0 n0 v U'.heap L ∧ FrameEnd U o U' L ({ frames := 1, cells := 0, slots := 0, locals := 12 } : Room).cells ({ frames := 1, cells := 0, slots := 0, locals := 12 } : Room).slots) := by
  refine MetFree.of_bodySF (plainFor_of_name pn_1) hisR ?_
  intro p e s m args below meth c s₁ Bd hml0 hP hK
  obtain ⟨rfl, hZ, hhp_⟩ := hP
  have hx := Bd.exec
  have hby := Bd.bytes
  have hml : c.maxLocals = 4 := hml0
  have hown : s.vm.findClass "org/tallyrole/core/Dependencies" = some m.cls := findClass_of_methodNamed Bd.named
  have hnm := (name_of_methodNamed Bd.named Bd.method).1
  have X0 : Stand p l e ({ frames := 1, cells := 0, slots := 0, locals := 12 } : Room) s m #[(.ref dd), (.ref ka), (.ref wa), (.int sz)] below meth c s₁ [] 0 0 := Stand.of_body Bd
  have e0 : s₁.heap = h0 := by rw [← hhp_, Bd.state]; rfl
  have N0 := Fr.nil n0
  have pre0 : ∀ t, Steps p.tables e below (s₁.setTop (mkF m 0 #[.val (.ref dd), .val (.ref ka), .val (.ref wa), .val (.int sz)] [])) t → Steps p.tables e below (s₁.setTop (entryFrame m #[(.ref dd), (.ref ka), (.ref wa), (.int sz)] 4)) t := fun t k => castTop (ef_pin m dd ka wa sz) k
  have K0 : Keep h0 h0 [dd] := Keep.refl h0 [dd]
  obtain ⟨T1, X1, e1, st1⟩ := initO X0 hx hZ hown (own_w hw 7 rfl) (own_w hw 8 rfl) (own_w hw 9 rfl) e0 (g := (mkF m 1 #[.val (.ref dd), .val (.ref ka), .val (.ref wa), .val (.int sz)] [(.ref dd)])) rfl (by rw [hml]; rfl) rfl (hb hby d12_1) (by decide) (W := 0) (by show 2 * 0 + _ ≤ _; exact Nat.le_of_eq rfl) (by decide)
  obtain ⟨T2, h2, X2, e2, W2, st2⟩ := putF X1 hx hZ hown (host := "") (Or.inl (own_w hw 12 rfl)) Via.refl e1 H1_F H0_E (Or.inl (own_w hw 13 rfl)) (own_w hw 2 rfl) (ty := (.array .int)) (by decide) rfl rfl (g := (mkF m 6 #[.val (.ref dd), .val (.ref ka), .val (.ref wa), .val (.int sz)] [(.ref ka), (.ref dd)])) rfl rfl (hb hby d12_6)
  have Fw2 : Fld Z h2 dd "org/tallyrole/core/Dependencies" "keys" "[I" (.ref ka) := H1_F.same W2
  have E3 := H0_E.wr W2
  have F4 := H2_F.other W2 (Or.inr (slot_ne (Or.inl (own_w hw 17 rfl)) (Or.inl (own_w hw 13 rfl)) (by decide) (t := (.array .long)) (t' := (.array .int)) (by decide) (by decide)))
  have F5 := H3_F.other W2 (Or.inr (slot_ne (Or.inl (own_w hw 24 rfl)) (Or.inl (own_w hw 13 rfl)) (by decide) (t := .int) (t' := (.array .int)) (by decide) (by decide)))
  have F6 := H4_F.other W2 (Or.inr (slot_ne (Or.inl (own_w hw 40 rfl)) (Or.inl (own_w hw 13 rfl)) (by decide) (t := .boolean) (t' := (.array .int)) (by decide) (by decide)))
  have N2 := Fr.snoc X2 N0 hdd
  have K2 : Keep h0 h2 [dd] := K0.wr W2 (Or.inl (List.mem_of_getElem? (i := 0) rfl))
  have Zs7 : n0 ≤ h2.size := (Nat.le_trans Z0 (Keep.of_wr W2).1)
  obtain ⟨T8, h8, X8, e8, W8, st8⟩ := putF X2 hx hZ hown (host := "") (Or.inl (own_w hw 16 rfl)) Via.refl e2 F4 E3 (Or.inl (own_w hw 17 rfl)) (own_w hw 2 rfl) (ty := (.array .long)) (by decide) rfl rfl (g := (mkF m 11 #[.val (.ref dd), .val (.ref ka), .val (.ref wa), .val (.int sz)] [(.ref wa), (.ref dd)])) rfl rfl (hb hby d12_11)
  have Fw8 : Fld Z h8 dd "org/tallyrole/core/Dependencies" "words" "[J" (.ref wa) := F4.same W8
  have E9 := E3.wr W8
  have F10 := F5.other W8 (Or.inr (slot_ne (Or.inl (own_w hw 24 rfl)) (Or.inl (own_w hw 17 rfl)) (by decide) (t := .int) (t' := (.array .long)) (by decide) (by decide)))
  have F11 := F6.other W8 (Or.inr (slot_ne (Or.inl (own_w hw 40 rfl)) (Or.inl (own_w hw 17 rfl)) (by decide) (t := .boolean) (t' := (.array .long)) (by decide) (by decide)))
  have F12 := Fw2.other W8 (Or.inr (slot_ne (Or.inl (own_w hw 13 rfl)) (Or.inl (own_w hw 17 rfl)) (by decide) (t := (.array .int)) (t' := (.array .long)) (by decide) (by decide)))
  have N8 := Fr.snoc X8 N2 hdd
  have K8 : Keep h0 h8 [dd] := K2.wr W8 (Or.inl (List.mem_of_getElem? (i := 0) rfl))
  have Zs13 : n0 ≤ h8.size := (Nat.le_trans Zs7 (Keep.of_wr W8).1)
  obtain ⟨T14, h14, X14, e14, W14, st14⟩ := putF X8 hx hZ hown (host := "") (Or.inl (own_w hw 23 rfl)) Via.refl e8 F10 E9 (Or.inl (own_w hw 24 rfl)) (own_w hw 2 rfl) (ty := .int) (by decide) rfl rfl (g := (mkF m 16 #[.val (.ref dd), .val (.ref ka), .val (.ref wa), .val (.int sz)] [(.int sz), (.ref dd)])) rfl rfl (hb hby d12_16)
  have Fw14 : Fld Z h14 dd "org/tallyrole/core/Dependencies" "size" "I" (.int sz) := F10.same W14
  have E15 := E9.wr W14
  have F16 := F11.other W14 (Or.inr (slot_ne (Or.inl (own_w hw 40 rfl)) (Or.inl (own_w hw 24 rfl)) (by decide) (t := .boolean) (t' := .int) (by decide) (by decide)))
  have F17 := F12.other W14 (Or.inr (slot_ne (Or.inl (own_w hw 13 rfl)) (Or.inl (own_w hw 24 rfl)) (by decide) (t := (.array .int)) (t' := .int) (by decide) (by decide)))
  have F18 := Fw8.other W14 (Or.inr (slot_ne (Or.inl (own_w hw 17 rfl)) (Or.inl (own_w hw 24 rfl)) (by decide) (t := (.array .long)) (t' := .int) (by decide) (by decide)))
  have N14 := Fr.snoc X14 N8 hdd
  have K14 : Keep h0 h14 [dd] := K8.wr W14 (Or.inl (List.mem_of_getElem? (i := 0) rfl))
  have Zs19 : n0 ≤ h14.size := (Nat.le_trans Zs13 (Keep.of_wr W14).1)
  obtain ⟨T20, h20, X20, e20, W20, st20⟩ := putFN X14 hx hZ hown (own_w hw 39 rfl) Via.refl e14 F16 E15 (Or.inl (own_w hw 40 rfl)) (own_w hw 2 rfl) (ty := .boolean) (v' := (.int (1 : Int32))) (by decide) rfl rfl (g := (mkF m 21 #[.val (.ref dd), .val (.ref ka), .val (.ref wa), .val (.int sz)] [(.int (1 : Int32)), (.ref dd)])) rfl rfl (hb hby d12_21)
  have Fw20 : Fld Z h20 dd "org/tallyrole/core/Dependencies" "shared" "Z" (.int (1 : Int32)) := F16.same W20
  have E21 := E15.wr W20
  have F22 := F17.other W20 (Or.inr (slot_ne (Or.inl (own_w hw 13 rfl)) (Or.inl (own_w hw 40 rfl)) (by decide) (t := (.array .int)) (t' := .boolean) (by decide) (by decide)))
  have F23 := F18.other W20 (Or.inr (slot_ne (Or.inl (own_w hw 17 rfl)) (Or.inl (own_w hw 40 rfl)) (by decide) (t := (.array .long)) (t' := .boolean) (by decide) (by decide)))
  have F24 := Fw14.other W20 (Or.inr (slot_ne (Or.inl (own_w hw 24 rfl)) (Or.inl (own_w hw 40 rfl)) (by decide) (t := .int) (t' := .boolean) (by decide) (by decide)))
  have N20 := Fr.snoc X20 N14 hdd
  have K20 : Keep h0 h20 [dd] := K14.wr W20 (Or.inl (List.mem_of_getElem? (i := 0) rfl))
  have Zs25 : n0 ≤ h20.size := (Nat.le_trans Zs19 (Keep.of_wr W20).1)
  have pre26 := fun (t : State) (k : Steps p.tables e below (T20.setTop (mkF m 24 #[.val (.ref dd), .val (.ref ka), .val (.ref wa), .val (.int sz)] [])) t) => pre0 t (by
    refine XS.aloadN X0.here hx rfl (hb hby d12_0) rfl rfl ?_
    refine st1 _ ?_
    refine XS.aloadN X1.here hx rfl (hb hby d12_4) rfl rfl ?_
    refine XS.aloadN X1.here hx rfl (hb hby d12_5) rfl rfl ?_
    refine st2 _ ?_
    refine XS.aloadN X2.here hx rfl (hb hby d12_9) rfl rfl ?_
    refine XS.aloadN X2.here hx rfl (hb hby d12_10) rfl rfl ?_
    refine st8 _ ?_
    refine XS.aloadN X8.here hx rfl (hb hby d12_14) rfl rfl ?_
    refine XS.iloadN X8.here hx rfl (hb hby d12_15) rfl ?_
    refine st14 _ ?_
    refine XS.aloadN X14.here hx rfl (hb hby d12_19) rfl rfl ?_
    refine XS.iconst X14.here hx rfl (hb hby d12_20) ?_
    refine st20 _ ?_
    exact k)
  obtain ⟨fs, hr, hrun, hended, hW, hsame⟩ := X20.leave (v := none) (hlocks := BodyLoose.notSynchronized Bd) (fun _ => rfl)
  refine ⟨_, _, pre26 _ ?_, hrun, hended, _, _, rfl, ?_, ⟨_, rfl⟩, hW, hsame.mono (by decide) (by decide)⟩
  · exact X20.returnOut hx Bd.returns (hb hby d12_24) hr
  · show Q_pin Z dd ka wa sz h0 n0 _ T20.heap _
    rw [e20]
    exact ⟨rfl, N20, K20, F22, F23, F24, Fw20⟩

theorem ef_cyN (m : MethodId) (x0 : Addr) : entryFrame m #[(.ref x0)] 2 = mkF m 0 #[.val (.ref x0), .unset] [] := by first | (simp [entryFrame, mkF, argsToLocals, Value.category]; done) | rfl
def Q_cyN (Z : State) (dd : Addr) (ka : Addr) (wa : Addr) (sz : Int32) (sh : Int32) (h0 : Heap) (n0 : Nat) (v : Option Value) (h : Heap) (L : List Loc) : Prop := ∃ cc : Addr, v = some (.ref cc) ∧ Fr n0 L ∧ Keep h0 h [dd] ∧ n0 ≤ cc ∧ h0.size ≤ cc ∧ Fld Z h dd "org/tallyrole/core/Dependencies" "keys" "[I" (.ref ka) ∧ Fld Z h dd "org/tallyrole/core/Dependencies" "words" "[J" (.ref wa) ∧ Fld Z h dd "org/tallyrole/core/Dependencies" "size" "I" (.int sz) ∧ Fld Z h dd "org/tallyrole/core/Dependencies" "shared" "Z" (.int (1 : Int32)) ∧ Exa Z h cc "org/tallyrole/core/Dependencies" ∧ Fld Z h cc "org/tallyrole/core/Dependencies" "keys" "[I" (.ref ka) ∧ Fld Z h cc "org/tallyrole/core/Dependencies" "words" "[J" (.ref wa) ∧ Fld Z h cc "org/tallyrole/core/Dependencies" "size" "I" (.int sz) ∧ Fld Z h cc "org/tallyrole/core/Dependencies" "shared" "Z" (.int (1 : Int32))
set_option maxRecDepth 65536 in
set_option maxHeartbeats 40000000 in
theorem rm_cyN (l : Launch) (Z : State) (a0 : Array Value) (hw : ∀ d ∈ tables_1, d.before a0 Z = true) (ws : List Jvm.Cond) (dd : Addr) (ka : Addr) (wa : Addr) (sz : Int32) (sh : Int32) (h0 : Heap) (n0 : Nat) (Z0 : n0 ≤ h0.size) (H0_E : Exa Z h0 dd "org/tallyrole/core/Dependencies") (H1_F : Fld Z h0 dd "org/tallyrole/core/Dependencies" "keys" "[I" (.ref ka)) (H2_F : Fld Z h0 dd "org/tallyrole/core/Dependencies" "words" "[J" (.ref wa)) (H3_F : Fld Z h0 dd "org/tallyrole/core/Dependencies" "size" "I" (.int sz)) (H4_F : Fld Z h0 dd "org/tallyrole/core/Dependencies" "shared" "Z" (.int sh)) (hdd : n0 ≤ dd) (hz : ¬ (sz = (0 : Int32))) :
    MetFree l (⟨"org/tallyrole/core/Dependencies", "copy", "()Lorg/tallyrole/core/Dependencies;"⟩ : MethodName) (head1 (Jvm.Cond.code (⟨"org/tallyrole/core/Dependencies", "copy", "()Lorg/tallyrole/core/Dependencies;"⟩ : MethodName) prog_36_method_4_code 2 (some (.object "org/tallyrole/core/Dependencies")) :: ws) ({ frames := 2, cells := 1, slots := 4, locals := 28 } : Room)) (fun as_ U_ => as_ = #[(.ref dd)] ∧ Z.Warmed39 U_.vm ∧ U_.heap = h0) (fun _ _ _ _ _ => True) (fun _ U o U' => ∃ v L, o = .returned v ∧ Q_cyN Z dd ka wa sz sh h0 n0 v U'.heap L ∧ FrameEnd U o U' L ({ frames := 2, cells := 1, slots := 4, locals := 28 } : Room).cells ({ frames := 2, cells := 1, slots := 4, locals := 28 } : Room).slots) := by
  refine MetFree.of_bodySF (plainFor_of_name pn_1) hisR ?_
  intro p e s m args below meth c s₁ Bd hml0 hP hK
  obtain ⟨rfl, hZ, hhp_⟩ := hP
  have hx := Bd.exec
  have hby := Bd.bytes
  have hml : c.maxLocals = 2 := hml0
  have hown : s.vm.findClass "org/tallyrole/core/Dependencies" = some m.cls := findClass_of_methodNamed Bd.named
  have hnm := (name_of_methodNamed Bd.named Bd.method).1
  have X0 : Stand p l e ({ frames := 2, cells := 1, slots := 4, locals := 28 } : Room) s m #[(.ref dd)] below meth c s₁ [] 0 0 := Stand.of_body Bd
  have e0 : s₁.heap = h0 := by rw [← hhp_, Bd.state]; rfl
  have N0 := Fr.nil n0
  have pre0 : ∀ t, Steps p.tables e below (s₁.setTop (mkF m 0 #[.val (.ref dd), .unset] [])) t → Steps p.tables e below (s₁.setTop (entryFrame m #[(.ref dd)] 2)) t := fun t k => castTop (ef_cyN m dd) k
  have K0 : Keep h0 h0 [dd] := Keep.refl h0 [dd]
  obtain ⟨T1, X1, e1, st1⟩ := getF X0 hx hZ hown (host := "") (Or.inl (own_w hw 23 rfl)) Via.refl e0 H3_F (g := (mkF m 1 #[.val (.ref dd), .unset] [(.ref dd)])) rfl rfl (hb hby d11_1)
  obtain ⟨T2, h2, X2, e2, W2, st2⟩ := putFN X1 hx hZ hown (own_w hw 39 rfl) Via.refl e1 H4_F H0_E (Or.inl (own_w hw 40 rfl)) (own_w hw 2 rfl) (ty := .boolean) (v' := (.int (1 : Int32))) (by decide) rfl rfl (g := (mkF m 20 #[.val (.ref dd), .unset] [(.int (1 : Int32)), (.ref dd)])) rfl rfl (hb hby d11_20)
  have Fw2 : Fld Z h2 dd "org/tallyrole/core/Dependencies" "shared" "Z" (.int (1 : Int32)) := H4_F.same W2
  have E3 := H0_E.wr W2
  have F4 := H1_F.other W2 (Or.inr (slot_ne (Or.inl (own_w hw 13 rfl)) (Or.inl (own_w hw 40 rfl)) (by decide) (t := (.array .int)) (t' := .boolean) (by decide) (by decide)))
  have F5 := H2_F.other W2 (Or.inr (slot_ne (Or.inl (own_w hw 17 rfl)) (Or.inl (own_w hw 40 rfl)) (by decide) (t := (.array .long)) (t' := .boolean) (by decide) (by decide)))
  have F6 := H3_F.other W2 (Or.inr (slot_ne (Or.inl (own_w hw 24 rfl)) (Or.inl (own_w hw 40 rfl)) (by decide) (t := .int) (t' := .boolean) (by decide) (by decide)))
  have N2 := Fr.snoc X2 N0 hdd
  have K2 : Keep h0 h2 [dd] := K0.wr W2 (Or.inl (List.mem_of_getElem? (i := 0) rfl))
  have Zs7 : n0 ≤ h2.size := (Nat.le_trans Z0 (Keep.of_wr W2).1)
  obtain ⟨T8, h8, X8, e8, E8, A8, D8, -, st8⟩ := newO X2 hx hZ hown (own_w hw 63 rfl) (own_w hw 2 rfl) (own_w hw 3 rfl) e2 (g := (mkF m 23 #[.val (.ref dd), .unset] [])) rfl (hb hby d11_23) (by decide) (by decide)
  obtain ⟨b8, g8⟩ : ∃ z, z = h2.size := ⟨_, rfl⟩
  have ne_dd_b8 : dd ≠ b8 := Nat.ne_of_lt (Nat.lt_of_lt_of_le E3.lt (Nat.le_of_eq g8.symm))
  have ge_b8 : n0 ≤ b8 := Nat.le_trans Zs7 (Nat.le_of_eq g8.symm)
  have sz_b8 : h0.size ≤ b8 := Nat.le_trans K2.1 (Nat.le_of_eq g8.symm)
  rw [← g8] at A8 D8 st8
  have E9 := E3.ext E8
  have F10 := F4.ext E8
  have F11 := F5.ext E8
  have F12 := F6.ext E8
  have F13 := Fw2.ext E8
  have K8 : Keep h0 h8 [dd] := K2.ext E8
  have Zs14 : n0 ≤ h8.size := (Nat.le_trans Zs7 E8.1)
  have F15 : Fld Z h8 b8 "org/tallyrole/core/Dependencies" "keys" "[I" .null := D8 (Or.inl (own_w hw 13 rfl)) (ty := (.array .int)) (by decide)
  have F16 : Fld Z h8 b8 "org/tallyrole/core/Dependencies" "words" "[J" .null := D8 (Or.inl (own_w hw 17 rfl)) (ty := (.array .long)) (by decide)
  have F17 : Fld Z h8 b8 "org/tallyrole/core/Dependencies" "size" "I" (.int (0 : Int32)) := D8 (Or.inl (own_w hw 24 rfl)) (ty := .int) (by decide)
  have F18 : Fld Z h8 b8 "org/tallyrole/core/Dependencies" "shared" "Z" (.int (0 : Int32)) := D8 (Or.inl (own_w hw 40 rfl)) (ty := .boolean) (by decide)
  obtain ⟨T19, X19, e19, st19⟩ := getF X8 hx hZ hown (host := "") (Or.inl (own_w hw 12 rfl)) Via.refl e8 F10 (g := (mkF m 28 #[.val (.ref dd), .unset] [(.ref dd), (.ref b8), (.ref b8)])) rfl rfl (hb hby d11_28)
  obtain ⟨T20, X20, e20, st20⟩ := getF X19 hx hZ hown (host := "") (Or.inl (own_w hw 16 rfl)) Via.refl e19 F11 (g := (mkF m 32 #[.val (.ref dd), .unset] [(.ref dd), (.ref ka), (.ref b8), (.ref b8)])) rfl rfl (hb hby d11_32)
  obtain ⟨T21, X21, e21, st21⟩ := getF X20 hx hZ hown (host := "") (Or.inl (own_w hw 23 rfl)) Via.refl e20 F12 (g := (mkF m 36 #[.val (.ref dd), .unset] [(.ref dd), (.ref wa), (.ref ka), (.ref b8), (.ref b8)])) rfl rfl (hb hby d11_36)
  obtain ⟨_, _, ⟨T22, L22, k22, n22⟩, -, X22, ⟨Lc22, hQ22, l22, y22, z22⟩, st22⟩ := X21.specialBack hx (y := (⟨"org/tallyrole/core/Dependencies", "<init>", "([I[JI)V"⟩ : MethodName)) rfl hown (mvT hZ (own_w hw 64 rfl)) (mvT hZ (own_w hw 65 rfl)) (mvT hZ (own_w hw 66 rfl)) (by decide) (backOf (W := 1) (rm_pin l Z a0 hw [] b8 ka wa sz h8 n0 Zs14 A8 F15 F16 F17 F18 ge_b8) hZ (own_w hw 66 rfl) (own_w hw 3 rfl) (by decide) (by decide)) (g := (mkF m 39 #[.val (.ref dd), .unset] [(.int sz), (.ref wa), (.ref ka), (.ref b8), (.ref b8)])) rfl (by rw [hml]; rfl) (Steps.refl _) (a := b8) (argsL := [(.ref ka), (.ref wa), (.int sz)]) (rest := [(.ref b8)]) (lenOf pd_8 rfl) rfl (by show 2 * 0 + _ ≤ _; exact Nat.le_of_eq rfl) (hb hby d11_39) (fun _ _ => ⟨rfl, e21, (by decide : 1 + 0 ≤ _), (by decide : 4 + 0 ≤ _)⟩)
  dsimp only [Pt.U, Pt.locs, Pt.cells, Pt.slots] at X22 l22 y22 z22 st22 hQ22
  subst l22 y22 z22
  obtain ⟨rfl, N22q, hq23, F24, F25, F26, F27⟩ := hQ22
  have N22 := Fr.app N2 N22q
  have E28 := E9.keep hq23
  have F29 := F10.keep hq23 (ninS ne_dd_b8 nin0)
  have F30 := F11.keep hq23 (ninS ne_dd_b8 nin0)
  have F31 := F12.keep hq23 (ninS ne_dd_b8 nin0)
  have F32 := F13.keep hq23 (ninS ne_dd_b8 nin0)
  have E33 := A8.keep hq23
  have K22 : Keep h0 T22.heap [dd] := K8.trans hq23 (allS (Or.inr sz_b8) all0)
  have Zs34 : n0 ≤ T22.heap.size := (Nat.le_trans Zs14 hq23.1)
  have pre35 := fun (t : State) (k : Steps p.tables e below (T22.setTop (mkF m 44 #[.val (.ref dd), .val (.ref b8)] [(.ref b8)])) t) => pre0 t (by
    refine XS.aloadN X0.here hx rfl (hb hby d11_0) rfl rfl ?_
    refine st1 _ ?_
    refine XS.ifYes X1.here hx rfl (pc0 := 4) (pc' := 18) rfl (hb hby d11_4) rfl ((if0 _ _).trans (feq hz).2) (by decide) (by decide) ?_
    refine XS.aloadN X1.here hx rfl (hb hby d11_18) rfl rfl ?_
    refine XS.iconst X1.here hx rfl (hb hby d11_19) ?_
    refine st2 _ ?_
    refine st8 _ ?_
    refine XS.dup X8.here hx rfl (hb hby d11_26) rfl rfl ?_
    refine XS.aloadN X8.here hx rfl (hb hby d11_27) rfl rfl ?_
    refine st19 _ ?_
    refine XS.aloadN X19.here hx rfl (hb hby d11_31) rfl rfl ?_
    refine st20 _ ?_
    refine XS.aloadN X20.here hx rfl (hb hby d11_35) rfl rfl ?_
    refine st21 _ ?_
    refine st22.trans ?_
    refine XS.astoreN X22.here hx rfl (hb hby d11_42) rfl rfl (l' := #[.val (.ref dd), .val (.ref b8)]) rfl ?_
    refine XS.aloadN X22.here hx rfl (hb hby d11_43) rfl rfl ?_
    exact k)
  obtain ⟨fs, hr, hrun, hended, hW, hsame⟩ := X22.leave (v := some (.ref b8)) (hlocks := BodyLoose.notSynchronized Bd) (fun h => by rw [Bd.returns] at h; cases h)
  refine ⟨_, _, pre35 _ ?_, hrun, hended, _, _, rfl, ?_, ⟨_, rfl⟩, hW, hsame.mono (by decide) (by decide)⟩
  · jvm_step X22.here [X22.here.top, hx, (hb hby d11_44), X22.method', Bd.returns, Value.isRef, FieldType.isReference]
    first | (intro acts; rw [hr _ acts rfl rfl rfl]) | rw [hr _ _ rfl rfl rfl]
    exact Steps.refl _
  · show Q_cyN Z dd ka wa sz sh h0 n0 _ T22.heap _
    exact ⟨b8, rfl, N22, K22, ge_b8, sz_b8, F29, F30, F31, F32, E33, F24, F25, F26, F27⟩

theorem ef_cyE (m : MethodId) (x0 : Addr) : entryFrame m #[(.ref x0)] 2 = mkF m 0 #[.val (.ref x0), .unset] [] := by first | (simp [entryFrame, mkF, argsToLocals, Value.category]; done) | rfl
def Q_cyE (Z : State) (dd : Addr) (ka : Addr) (wa : Addr) (h0 : Heap) (n0 : Nat) (v : Option Value) (h : Heap) (L : List Loc) : Prop := ∃ cc : Addr, v = some (.ref cc) ∧ Fr n0 L ∧ Keep h0 h [] ∧ n0 ≤ cc ∧ h0.size ≤ cc ∧ Exa Z h cc "org/tallyrole/core/Dependencies" ∧ Fld Z h cc "org/tallyrole/core/Dependencies" "keys" "[I" (.ref ka) ∧ Fld Z h cc "org/tallyrole/core/Dependencies" "words" "[J" (.ref wa) ∧ Fld Z h cc "org/tallyrole/core/Dependencies" "size" "I" (.int (0 : Int32)) ∧ Fld Z h cc "org/tallyrole/core/Dependencies" "shared" "Z" (.int (0 : Int32))
set_option maxRecDepth 65536 in
set_option maxHeartbeats 40000000 in
theorem rm_cyE (l : Launch) (Z : State) (a0 : Array Value) (hw : ∀ d ∈ tables_1, d.before a0 Z = true) (ws : List Jvm.Cond) (dd : Addr) (ka : Addr) (wa : Addr) (h0 : Heap) (n0 : Nat) (Z0 : n0 ≤ h0.size) (H0_F : Fld Z h0 dd "org/tallyrole/core/Dependencies" "size" "I" (.int (0 : Int32))) (H1_S : Sta Z h0 "org/tallyrole/core/Dependencies" "NO_KEYS" "[I" (.ref ka)) (H2_S : Sta Z h0 "org/tallyrole/core/Dependencies" "NO_WORDS" "[J" (.ref wa)) :
    MetFree l (⟨"org/tallyrole/core/Dependencies", "copy", "()Lorg/tallyrole/core/Dependencies;"⟩ : MethodName) (head1 (Jvm.Cond.code (⟨"org/tallyrole/core/Dependencies", "copy", "()Lorg/tallyrole/core/Dependencies;"⟩ : MethodName) prog_36_method_4_code 2 (some (.object "org/tallyrole/core/Dependencies")) :: ws) ({ frames := 2, cells := 1, slots := 4, locals := 25 } : Room)) (fun as_ U_ => as_ = #[(.ref dd)] ∧ Z.Warmed39 U_.vm ∧ U_.heap = h0) (fun _ _ _ _ _ => True) (fun _ U o U' => ∃ v L, o = .returned v ∧ Q_cyE Z dd ka wa h0 n0 v U'.heap L ∧ FrameEnd U o U' L ({ frames := 2, cells := 1, slots := 4, locals := 25 } : Room).cells ({ frames := 2, cells := 1, slots := 4, locals := 25 } : Room).slots) := by
  refine MetFree.of_bodySF (plainFor_of_name pn_1) hisR ?_
  intro p e s m args below meth c s₁ Bd hml0 hP hK
  obtain ⟨rfl, hZ, hhp_⟩ := hP
  have hx := Bd.exec
  have hby := Bd.bytes
  have hml : c.maxLocals = 2 := hml0
  have hown : s.vm.findClass "org/tallyrole/core/Dependencies" = some m.cls := findClass_of_methodNamed Bd.named
  have hnm := (name_of_methodNamed Bd.named Bd.method).1
  have X0 : Stand p l e ({ frames := 2, cells := 1, slots := 4, locals := 25 } : Room) s m #[(.ref dd)] below meth c s₁ [] 0 0 := Stand.of_body Bd
  have e0 : s₁.heap = h0 := by rw [← hhp_, Bd.state]; rfl
  have N0 := Fr.nil n0
  have pre0 : ∀ t, Steps p.tables e below (s₁.setTop (mkF m 0 #[.val (.ref dd), .unset] [])) t → Steps p.tables e below (s₁.setTop (entryFrame m #[(.ref dd)] 2)) t := fun t k => castTop (ef_cyE m dd) k
  have K0 : Keep h0 h0 [] := Keep.refl h0 []
  obtain ⟨T1, X1, e1, st1⟩ := getF X0 hx hZ hown (host := "") (Or.inl (own_w hw 23 rfl)) Via.refl e0 H0_F (g := (mkF m 1 #[.val (.ref dd), .unset] [(.ref dd)])) rfl rfl (hb hby d11_1)
  obtain ⟨T2, h2, X2, e2, E2, A2, D2, -, st2⟩ := newO X1 hx hZ hown (own_w hw 63 rfl) (own_w hw 2 rfl) (own_w hw 3 rfl) e1 (g := (mkF m 7 #[.val (.ref dd), .unset] [])) rfl (hb hby d11_7) (by decide) (by decide)
  obtain ⟨b2, g2⟩ : ∃ z, z = h0.size := ⟨_, rfl⟩
  have ne_dd_b2 : dd ≠ b2 := Nat.ne_of_lt (Nat.lt_of_lt_of_le H0_F.lt (Nat.le_of_eq g2.symm))
  have ge_b2 : n0 ≤ b2 := Nat.le_trans Z0 (Nat.le_of_eq g2.symm)
  have sz_b2 : h0.size ≤ b2 := Nat.le_trans K0.1 (Nat.le_of_eq g2.symm)
  rw [← g2] at A2 D2 st2
  have F3 := H0_F.ext E2
  have S4 := H1_S.ext E2
  have S5 := H2_S.ext E2
  have K2 : Keep h0 h2 [] := K0.ext E2
  have Zs6 : n0 ≤ h2.size := (Nat.le_trans Z0 E2.1)
  have F7 : Fld Z h2 b2 "org/tallyrole/core/Dependencies" "keys" "[I" .null := D2 (Or.inl (own_w hw 13 rfl)) (ty := (.array .int)) (by decide)
  have F8 : Fld Z h2 b2 "org/tallyrole/core/Dependencies" "words" "[J" .null := D2 (Or.inl (own_w hw 17 rfl)) (ty := (.array .long)) (by decide)
  have F9 : Fld Z h2 b2 "org/tallyrole/core/Dependencies" "size" "I" (.int (0 : Int32)) := D2 (Or.inl (own_w hw 24 rfl)) (ty := .int) (by decide)
  have F10 : Fld Z h2 b2 "org/tallyrole/core/Dependencies" "shared" "Z" (.int (0 : Int32)) := D2 (Or.inl (own_w hw 40 rfl)) (ty := .boolean) (by decide)
  obtain ⟨_, _, ⟨T11, L11, k11, n11⟩, -, X11, ⟨Lc11, hQ11, l11, y11, z11⟩, st11⟩ := X2.specialBack hx (y := (⟨"org/tallyrole/core/Dependencies", "<init>", "()V"⟩ : MethodName)) rfl hown (mvT hZ (own_w hw 105 rfl)) (mvT hZ (own_w hw 5 rfl)) (mvT hZ (own_w hw 6 rfl)) (by decide) (backOf (W := 1) (rm_ini l Z a0 hw [] b2 ka wa h2 n0 Zs6 A2 F7 F8 F9 F10 S4 S5 ge_b2) hZ (own_w hw 6 rfl) (own_w hw 3 rfl) (by decide) (by decide)) (g := (mkF m 11 #[.val (.ref dd), .unset] [(.ref b2), (.ref b2)])) rfl (by rw [hml]; rfl) (Steps.refl _) (a := b2) (argsL := []) (rest := [(.ref b2)]) (lenOf pd_9 rfl) rfl (by show 2 * 0 + _ ≤ _; exact Nat.le_of_eq rfl) (hb hby d11_11) (fun _ _ => ⟨rfl, e2, (by decide : 1 + 0 ≤ _), (by decide : 4 + 0 ≤ _)⟩)
  dsimp only [Pt.U, Pt.locs, Pt.cells, Pt.slots] at X11 l11 y11 z11 st11 hQ11
  subst l11 y11 z11
  obtain ⟨rfl, N11q, hq12, F13, F14, F15, F16⟩ := hQ11
  have N11 := Fr.app N0 N11q
  have F17 := F3.keep hq12 (ninS ne_dd_b2 nin0)
  have S18 := own_sta_keep S4 hq12 (allS (own_ns_exa A2) all0)
  have S19 := own_sta_keep S5 hq12 (allS (own_ns_exa A2) all0)
  have E20 := A2.keep hq12
  have K11 : Keep h0 T11.heap [] := K2.trans hq12 (allS (Or.inr sz_b2) all0)
  have Zs21 : n0 ≤ T11.heap.size := (Nat.le_trans Zs6 hq12.1)
  have pre22 := fun (t : State) (k : Steps p.tables e below (T11.setTop (mkF m 44 #[.val (.ref dd), .val (.ref b2)] [(.ref b2)])) t) => pre0 t (by
    refine XS.aloadN X0.here hx rfl (hb hby d11_0) rfl rfl ?_
    refine st1 _ ?_
    refine XS.ifNo X1.here hx rfl (hb hby d11_4) rfl ((if0 _ _).trans (teq (by decide : (0 : Int32) = (0 : Int32))).2) ?_
    refine st2 _ ?_
    refine XS.dup X2.here hx rfl (hb hby d11_10) rfl rfl ?_
    refine st11.trans ?_
    refine XS.astoreN X11.here hx rfl (hb hby d11_14) rfl rfl (l' := #[.val (.ref dd), .val (.ref b2)]) rfl ?_
    refine XS.goto X11.here hx rfl (pc0 := 15) (pc' := 43) rfl (hb hby d11_15) (by decide) (by decide) ?_
    refine XS.aloadN X11.here hx rfl (hb hby d11_43) rfl rfl ?_
    exact k)
  obtain ⟨fs, hr, hrun, hended, hW, hsame⟩ := X11.leave (v := some (.ref b2)) (hlocks := BodyLoose.notSynchronized Bd) (fun h => by rw [Bd.returns] at h; cases h)
  refine ⟨_, _, pre22 _ ?_, hrun, hended, _, _, rfl, ?_, ⟨_, rfl⟩, hW, hsame.mono (by decide) (by decide)⟩
  · jvm_step X11.here [X11.here.top, hx, (hb hby d11_44), X11.method', Bd.returns, Value.isRef, FieldType.isReference]
    first | (intro acts; rw [hr _ acts rfl rfl rfl]) | rw [hr _ _ rfl rfl rfl]
    exact Steps.refl _
  · show Q_cyE Z dd ka wa h0 n0 _ T11.heap _
    exact ⟨b2, rfl, N11, K11, ge_b2, sz_b2, E20, F13, F14, F15, F16⟩

theorem ef_law (m : MethodId) (x0 : Int32) (x1 : Int32) (x2 : Int32) (x3 : Int32) : entryFrame m #[(.int x0), (.int x1), (.int x2), (.int x3)] maxLocals = mkF m 0 #[.val (.int x0), .val (.int x1), .val (.int x2), .val (.int x3), .unset, .unset, .unset, .unset, .unset, .unset, .unset, .unset, .unset, .unset, .unset, .unset] [] := by first | (simp [entryFrame, mkF, argsToLocals, Value.category, maxLocals]; done) | rfl
def Q_law (Z : State) (aa : Int32) (bb : Int32) (cq : Int32) (ff : Int32) (ka : Addr) (wa : Addr) (kk : ClassId) (kw : ClassId) (h0 : Heap) (n0 : Nat) (v : Option Value) (h : Heap) (L : List Loc) : Prop := v = some (.int (1 : Int32)) ∧ Fr n0 L ∧ Keep h0 h []
set_option maxRecDepth 65536 in
set_option maxHeartbeats 40000000 in
theorem rm_law (l : Launch) (Z : State) (a0 : Array Value) (hw : ∀ d ∈ tables_1, d.before a0 Z = true) (ws : List Jvm.Cond) (aa : Int32) (bb : Int32) (cq : Int32) (ff : Int32) (ka : Addr) (wa : Addr) (kk : ClassId) (kw : ClassId) (h0 : Heap) (n0 : Nat) (Z0 : n0 ≤ h0.size) (H0_S : Sta Z h0 "org/tallyrole/core/Dependencies" "NO_KEYS" "[I" (.ref ka)) (H1_S : Sta Z h0 "org/tallyrole/core/Dependencies" "NO_WORDS" "[J" (.ref wa)) (H2_A : Arv Z h0 ka kk .int (0 : Int32) [] (.int (0 : Int32))) (H3_A : Arv Z h0 wa kw .long (0 : Int32) [] (.long (0 : Int64))) :
    MetFree l x (head1 (Jvm.Cond.code x code maxLocals ret :: ws) room_1) (fun as_ U_ => as_ = #[(.int aa), (.int bb), (.int cq), (.int ff)] ∧ Z.Warmed39 U_.vm ∧ U_.heap = h0) (fun _ _ _ _ _ => True) (fun _ U o U' => ∃ v L, o = .returned v ∧ Q_law Z aa bb cq ff ka wa kk kw h0 n0 v U'.heap L ∧ FrameEnd U o U' L 10 26) := by
  refine MetFree.of_bodySF (plainFor_of_name pn_4) hisR ?_
  intro p e s m args below meth c s₁ Bd hml0 hP hK
  obtain ⟨rfl, hZ, hhp_⟩ := hP
  have hx := Bd.exec
  have hby := Bd.bytes
  have hml : c.maxLocals = 16 := hml0
  have hown : s.vm.findClass "org/tallyrole/core/DependenciesCopyPinLaw" = some m.cls := findClass_of_methodNamed Bd.named
  have hnm := (name_of_methodNamed Bd.named Bd.method).1
  have X0 : Stand p l e room_1 s m #[(.int aa), (.int bb), (.int cq), (.int ff)] below meth c s₁ [] 0 0 := Stand.of_body Bd
  have e0 : s₁.heap = h0 := by rw [← hhp_, Bd.state]; rfl
  have N0 := Fr.nil n0
  have pre0 : ∀ t, Steps p.tables e below (s₁.setTop (mkF m 0 #[.val (.int aa), .val (.int bb), .val (.int cq), .val (.int ff), .unset, .unset, .unset, .unset, .unset, .unset, .unset, .unset, .unset, .unset, .unset, .unset] [])) t → Steps p.tables e below (s₁.setTop (entryFrame m #[(.int aa), (.int bb), (.int cq), (.int ff)] maxLocals)) t := fun t k => castTop (ef_law m aa bb cq ff) k
  have K0 : Keep h0 h0 [] := Keep.refl h0 []
  have t18 : ∀ (xx : Int32) (yy : Int32) (zz : Int32) (T_t18 : State) (Lt_t18 : List Loc) (N_t18 : Fr n0 Lt_t18) (X_t18 : Stand p l e room_1 s m #[(.int aa), (.int bb), (.int cq), (.int ff)] below meth c T_t18 Lt_t18 0 0) (e_t18 : T_t18.heap = h0) (t18_0 : ¬ (xx < (0 : Int32))) (t18_1 : ¬ (yy < (0 : Int32))) (t18_2 : ¬ (zz < (0 : Int32))), ∃ s₂ o, Steps p.tables e below (T_t18.setTop (mkF m 18 #[.val (.int aa), .val (.int bb), .val (.int cq), .val (.int ff), .val (.int xx), .val (.int yy), .val (.int zz), .unset, .unset, .unset, .unset, .unset, .unset, .unset, .unset, .unset] [])) s₂ ∧ s₂.status = .running ∧ Ended s₂ below o ∧ ∃ v L, o = .returned v ∧ Q_law Z aa bb cq ff ka wa kk kw h0 n0 v s₂.heap L ∧ FrameEnd s o s₂ L 10 26 := by
    intro xx yy zz T_t18 Lt_t18 N_t18 X_t18 e_t18 t18_0 t18_1 t18_2
    have pre_t18 := fun (t : State) (k : Steps p.tables e below (T_t18.setTop (mkF m 18 #[.val (.int aa), .val (.int bb), .val (.int cq), .val (.int ff), .val (.int xx), .val (.int yy), .val (.int zz), .unset, .unset, .unset, .unset, .unset, .unset, .unset, .unset, .unset] [])) t) => k
    have pre1 := fun (t : State) (k : Steps p.tables e below (T_t18.setTop (mkF m 21 #[.val (.int aa), .val (.int bb), .val (.int cq), .val (.int ff), .val (.int xx), .val (.int yy), .val (.int zz), .unset, .unset, .unset, .unset, .unset, .unset, .unset, .unset, .unset] [(.int (ff &&& (1 : Int32)))])) t) => pre_t18 t (by
      refine XS.iloadN X_t18.here hx rfl (hb hby at_18) rfl ?_
      refine XS.iconst X_t18.here hx rfl (hb hby at_19) ?_
      refine XS.iand X_t18.here hx rfl (hb hby at_20) rfl ?_
      exact k)
    by_cases hc2 : (ff &&& (1 : Int32)) = (0 : Int32)
    · have pre3 := fun (t : State) (k : Steps p.tables e below (T_t18.setTop (mkF m 34 #[.val (.int aa), .val (.int bb), .val (.int cq), .val (.int ff), .val (.int xx), .val (.int yy), .val (.int zz), .val (.int (0 : Int32)), .unset, .unset, .unset, .unset, .unset, .unset, .unset, .unset] [(.int (ff &&& (2 : Int32)))])) t) => pre1 t (by
        refine XS.ifYes X_t18.here hx rfl (pc0 := 21) (pc' := 28) rfl (hb hby at_21) rfl ((if0 _ _).trans (teq hc2).1) (by decide) (by decide) ?_
        refine XS.iconst X_t18.here hx rfl (hb hby at_28) ?_
        refine XS.istore X_t18.here hx rfl (hb hby at_29) rfl (l' := #[.val (.int aa), .val (.int bb), .val (.int cq), .val (.int ff), .val (.int xx), .val (.int yy), .val (.int zz), .val (.int (0 : Int32)), .unset, .unset, .unset, .unset, .unset, .unset, .unset, .unset]) rfl ?_
        refine XS.iloadN X_t18.here hx rfl (hb hby at_31) rfl ?_
        refine XS.iconst X_t18.here hx rfl (hb hby at_32) ?_
        refine XS.iand X_t18.here hx rfl (hb hby at_33) rfl ?_
        exact k)
      by_cases hc4 : (ff &&& (2 : Int32)) = (0 : Int32)
      · obtain ⟨T5, h5, X5, e5, E5, A5, D5, -, st5⟩ := newO X_t18 hx hZ hown (own_w hw 1 rfl) (own_w hw 2 rfl) (own_w hw 3 rfl) e_t18 (g := (mkF m 44 #[.val (.int aa), .val (.int bb), .val (.int cq), .val (.int ff), .val (.int xx), .val (.int yy), .val (.int zz), .val (.int (0 : Int32)), .val (.int (0 : Int32)), .unset, .unset, .unset, .unset, .unset, .unset, .unset] [])) rfl (hb hby at_44) (by decide) (by decide)
        obtain ⟨b5, g5⟩ : ∃ z, z = h0.size := ⟨_, rfl⟩
        have ne_ka_b5 : ka ≠ b5 := Nat.ne_of_lt (Nat.lt_of_lt_of_le H2_A.lt (Nat.le_of_eq g5.symm))
        have ne_wa_b5 : wa ≠ b5 := Nat.ne_of_lt (Nat.lt_of_lt_of_le H3_A.lt (Nat.le_of_eq g5.symm))
        have ge_b5 : n0 ≤ b5 := Nat.le_trans Z0 (Nat.le_of_eq g5.symm)
        have sz_b5 : h0.size ≤ b5 := Nat.le_trans K0.1 (Nat.le_of_eq g5.symm)
        rw [← g5] at A5 D5 st5
        have S6 := H0_S.ext E5
        have S7 := H1_S.ext E5
        have A8 := H2_A.ext E5
        have A9 := H3_A.ext E5
        have K5 : Keep h0 h5 [] := K0.ext E5
        have Zs10 : n0 ≤ h5.size := (Nat.le_trans Z0 E5.1)
        have F11 : Fld Z h5 b5 "org/tallyrole/core/Dependencies" "keys" "[I" .null := D5 (Or.inl (own_w hw 13 rfl)) (ty := (.array .int)) (by decide)
        have F12 : Fld Z h5 b5 "org/tallyrole/core/Dependencies" "words" "[J" .null := D5 (Or.inl (own_w hw 17 rfl)) (ty := (.array .long)) (by decide)
        have F13 : Fld Z h5 b5 "org/tallyrole/core/Dependencies" "size" "I" (.int (0 : Int32)) := D5 (Or.inl (own_w hw 24 rfl)) (ty := .int) (by decide)
        have F14 : Fld Z h5 b5 "org/tallyrole/core/Dependencies" "shared" "Z" (.int (0 : Int32)) := D5 (Or.inl (own_w hw 40 rfl)) (ty := .boolean) (by decide)
        obtain ⟨_, _, ⟨T15, L15, k15, n15⟩, -, X15, ⟨Lc15, hQ15, l15, y15, z15⟩, st15⟩ := X5.specialBack hx (y := (⟨"org/tallyrole/core/Dependencies", "<init>", "()V"⟩ : MethodName)) rfl hown (mvT hZ (own_w hw 4 rfl)) (mvT hZ (own_w hw 5 rfl)) (mvT hZ (own_w hw 6 rfl)) (by decide) (backOf (W := 1) (rm_ini l Z a0 hw [] b5 ka wa h5 n0 Zs10 A5 F11 F12 F13 F14 S6 S7 ge_b5) hZ (own_w hw 6 rfl) (own_w hw 3 rfl) (by decide) (by decide)) (g := (mkF m 48 #[.val (.int aa), .val (.int bb), .val (.int cq), .val (.int ff), .val (.int xx), .val (.int yy), .val (.int zz), .val (.int (0 : Int32)), .val (.int (0 : Int32)), .unset, .unset, .unset, .unset, .unset, .unset, .unset] [(.ref b5), (.ref b5)])) rfl (by rw [hml]; rfl) (Steps.refl _) (a := b5) (argsL := []) (rest := [(.ref b5)]) (lenOf pd_9 rfl) rfl (by show 2 * 0 + _ ≤ _; exact Nat.le_of_eq rfl) (hb hby at_48) (fun _ _ => ⟨rfl, e5, (by decide : 1 + 0 ≤ _), (by decide : 4 + 0 ≤ _)⟩)
        dsimp only [Pt.U, Pt.locs, Pt.cells, Pt.slots] at X15 l15 y15 z15 st15 hQ15
        subst l15 y15 z15
        obtain ⟨rfl, N15q, hq16, F17, F18, F19, F20⟩ := hQ15
        have N15 := Fr.app N_t18 N15q
        have S21 := own_sta_keep S6 hq16 (allS (own_ns_exa A5) all0)
        have S22 := own_sta_keep S7 hq16 (allS (own_ns_exa A5) all0)
        have A23 := A8.keep hq16 (ninS ne_ka_b5 nin0)
        have A24 := A9.keep hq16 (ninS ne_wa_b5 nin0)
        have E25 := A5.keep hq16
        have K15 : Keep h0 T15.heap [] := K5.trans hq16 (allS (Or.inr sz_b5) all0)
        have Zs26 : n0 ≤ T15.heap.size := (Nat.le_trans Zs10 hq16.1)
        obtain ⟨cq27, kq27, q27a, q27b, q27c⟩ := isOf hZ rfl E25
        obtain ⟨_, _, ⟨T27, L27, k27, n27⟩, -, X27, ⟨Lc27, hQ27, l27, y27, z27⟩, st27⟩ := X15.virtualBack hx (y := (⟨"org/tallyrole/core/Dependencies", "copy", "()Lorg/tallyrole/core/Dependencies;"⟩ : MethodName)) (z := (⟨"org/tallyrole/core/Dependencies", "copy", "()Lorg/tallyrole/core/Dependencies;"⟩ : MethodName)) hown (mvT hZ (own_w hw 58 rfl)) (mvT hZ (own_w hw 59 rfl)) (notFace_of_selects (args := #[]) (mvT hZ (own_w hw 61 rfl))) (mvT hZ (own_w hw 61 rfl)) (mvT hZ (own_w hw 60 rfl)) (by decide) (backOf (W := 0) (rm_cyE l Z a0 hw [] b5 ka wa T15.heap n0 Zs26 F19 S21 S22) hZ (own_w hw 62 rfl) (own_w hw 3 rfl) (by decide) (by decide)) q27a q27c (g := (mkF m 135 #[.val (.int aa), .val (.int bb), .val (.int cq), .val (.int ff), .val (.int xx), .val (.int yy), .val (.int zz), .val (.int (0 : Int32)), .val (.int (0 : Int32)), .val (.ref b5), .val (.int (-1 : Int32)), .val (.int (-1 : Int32)), .unset, .unset, .unset, .unset] [(.ref b5)])) rfl (by rw [hml]; rfl) (Steps.refl _) (argsL := []) (rest := []) (lenOf pd_10 rfl) rfl (by show 2 * 0 + _ ≤ _; exact Nat.le_of_eq rfl) (hb hby at_135) (fun _ _ => ⟨rfl, rfl, (by decide : 1 + 1 ≤ _), (by decide : 4 + 4 ≤ _)⟩)
        dsimp only [Pt.U, Pt.locs, Pt.cells, Pt.slots] at X27 l27 y27 z27 st27 hQ27
        subst l27 y27 z27
        obtain ⟨x28, rfl, N27q, hq29, hpq30, hpq31, E32, F33, F34, F35, F36⟩ := hQ27
        have N27 := Fr.app N15 N27q
        have lt37 : ka < T15.heap.size := A23.lt
        have lt38 : wa < T15.heap.size := A24.lt
        have lt39 : b5 < T15.heap.size := E25.lt
        have S40 := own_sta_keep S21 hq29 all0
        have S41 := own_sta_keep S22 hq29 all0
        have A42 := A23.keep hq29 nin0
        have A43 := A24.keep hq29 nin0
        have E44 := E25.keep hq29
        have F45 := F17.keep hq29 nin0
        have F46 := F18.keep hq29 nin0
        have F47 := F19.keep hq29 nin0
        have F48 := F20.keep hq29 nin0
        have K27 : Keep h0 T27.heap [] := K15.trans hq29 all0
        have Zs49 : n0 ≤ T27.heap.size := (Nat.le_trans Zs26 hq29.1)
        have ne50 : ka ≠ x28 := Nat.ne_of_lt (Nat.lt_of_lt_of_le lt37 hpq31)
        have ne51 : wa ≠ x28 := Nat.ne_of_lt (Nat.lt_of_lt_of_le lt38 hpq31)
        have ne52 : b5 ≠ x28 := Nat.ne_of_lt (Nat.lt_of_lt_of_le lt39 hpq31)
        have sz53 : h0.size ≤ x28 := Nat.le_trans K15.1 hpq31
        obtain ⟨cq54, kq54, q54a, q54b, q54c⟩ := isOf hZ rfl E44
        obtain ⟨_, _, ⟨T54, L54, k54, n54⟩, -, X54, ⟨Lc54, hQ54, l54, y54, z54⟩, st54⟩ := X27.virtualBack hx (y := (⟨"org/tallyrole/core/Dependencies", "add", "(I)V"⟩ : MethodName)) (z := (⟨"org/tallyrole/core/Dependencies", "add", "(I)V"⟩ : MethodName)) hown (mvT hZ (own_w hw 18 rfl)) (mvT hZ (own_w hw 19 rfl)) (notFace_of_selects (args := #[]) (mvT hZ (own_w hw 21 rfl))) (mvT hZ (own_w hw 21 rfl)) (mvT hZ (own_w hw 20 rfl)) (by decide) (backOf (W := 0) (rm_aE l Z a0 hw [] b5 ka wa kk kw (fun _ => False) zz T27.heap n0 Zs49 E44 F45 F46 F47 F48 A42 A43 (fun _ q => q) ge_b5 (Ne.symm ne_ka_b5) (Ne.symm ne_wa_b5) t18_2) hZ (own_w hw 22 rfl) (own_w hw 3 rfl) (by decide) (by decide)) q54a q54c (g := (mkF m 144 #[.val (.int aa), .val (.int bb), .val (.int cq), .val (.int ff), .val (.int xx), .val (.int yy), .val (.int zz), .val (.int (0 : Int32)), .val (.int (0 : Int32)), .val (.ref b5), .val (.int (-1 : Int32)), .val (.int (-1 : Int32)), .val (.ref x28), .unset, .unset, .unset] [(.int zz), (.ref b5)])) rfl (by rw [hml]; rfl) (Steps.refl _) (argsL := [(.int zz)]) (rest := []) (lenOf pd_7 rfl) rfl (by show 2 * 0 + _ ≤ _; exact Nat.le_of_eq rfl) (hb hby at_144) (fun _ _ => ⟨rfl, rfl, (by decide : 2 + 2 ≤ _), (by decide : 8 + 2 ≤ _)⟩)
        dsimp only [Pt.U, Pt.locs, Pt.cells, Pt.slots] at X54 l54 y54 z54 st54 hQ54
        subst l54 y54 z54
        obtain ⟨x55, x56, x57, x58, x59, x60, x61, x62, rfl, N54q, hq63, hpq64, hpq65, hpq66, hpq67, hpq68, hpq69, hpq70, hpq71, E72, F73, F74, F75, F76, A77, A78, E79, E80⟩ := hQ54
        have N54 := Fr.app N27 N54q
        have lt81 : ka < T27.heap.size := A42.lt
        have lt82 : wa < T27.heap.size := A43.lt
        have lt83 : b5 < T27.heap.size := E44.lt
        have lt84 : x28 < T27.heap.size := E32.lt
        have S85 := own_sta_keep S40 hq63 (allS (own_ns_exa E44) all0)
        have S86 := own_sta_keep S41 hq63 (allS (own_ns_exa E44) all0)
        have A87 := A42.keep hq63 (ninS ne_ka_b5 nin0)
        have A88 := A43.keep hq63 (ninS ne_wa_b5 nin0)
        have E89 := E32.keep hq63
        have F90 := F33.keep hq63 (ninS (Ne.symm ne52) nin0)
        have F91 := F34.keep hq63 (ninS (Ne.symm ne52) nin0)
        have F92 := F35.keep hq63 (ninS (Ne.symm ne52) nin0)
        have F93 := F36.keep hq63 (ninS (Ne.symm ne52) nin0)
        have K54 : Keep h0 T54.heap [] := K27.trans hq63 (allS (Or.inr sz_b5) all0)
        have Zs94 : n0 ≤ T54.heap.size := (Nat.le_trans Zs49 hq63.1)
        have ne95 : ka ≠ x55 := Nat.ne_of_lt (Nat.lt_of_lt_of_le lt81 hpq65)
        have ne96 : wa ≠ x55 := Nat.ne_of_lt (Nat.lt_of_lt_of_le lt82 hpq65)
        have ne97 : b5 ≠ x55 := Nat.ne_of_lt (Nat.lt_of_lt_of_le lt83 hpq65)
        have ne98 : x28 ≠ x55 := Nat.ne_of_lt (Nat.lt_of_lt_of_le lt84 hpq65)
        have sz99 : h0.size ≤ x55 := Nat.le_trans K27.1 hpq65
        have ne100 : ka ≠ x56 := Nat.ne_of_lt (Nat.lt_of_lt_of_le lt81 hpq67)
        have ne101 : wa ≠ x56 := Nat.ne_of_lt (Nat.lt_of_lt_of_le lt82 hpq67)
        have ne102 : b5 ≠ x56 := Nat.ne_of_lt (Nat.lt_of_lt_of_le lt83 hpq67)
        have ne103 : x28 ≠ x56 := Nat.ne_of_lt (Nat.lt_of_lt_of_le lt84 hpq67)
        have sz104 : h0.size ≤ x56 := Nat.le_trans K27.1 hpq67
        obtain ⟨_, _, ⟨T105, L105, k105, n105⟩, -, X105, ⟨Lc105, hQ105, l105, y105, z105⟩, st105⟩ := Jvm.LawKit.callS X54 hx (y := (⟨"java/lang/Math", "max", "(II)I"⟩ : MethodName)) hown (mvT hZ (own_w hw 82 rfl)) (mvT hZ (own_w hw 83 rfl)) (mvT hZ (own_w hw 47 rfl)) (mvT hZ (own_w hw 84 rfl)) (by decide) (backOf (W := 0) (rm_mx l Z a0 hw [] (-1 : Int32) zz T54.heap n0 Zs94 ) hZ (own_w hw 84 rfl) (own_w hw 47 rfl) (by decide) (by decide)) (g := (mkF m 151 #[.val (.int aa), .val (.int bb), .val (.int cq), .val (.int ff), .val (.int xx), .val (.int yy), .val (.int zz), .val (.int (0 : Int32)), .val (.int (0 : Int32)), .val (.ref b5), .val (.int (-1 : Int32)), .val (.int (-1 : Int32)), .val (.ref x28), .unset, .unset, .unset] [(.int zz), (.int (-1 : Int32))])) rfl (by rw [hml]; rfl) (argsL := [(.int (-1 : Int32)), (.int zz)]) (rest := []) (lenOf pd_2 rfl) rfl (by show 2 * 0 + _ ≤ _; exact Nat.le_of_eq rfl) (hb hby at_151) (fun _ _ => ⟨rfl, rfl, (by decide : 4 + 0 ≤ _), (by decide : 10 + 0 ≤ _)⟩)
        dsimp only [Pt.U, Pt.locs, Pt.cells, Pt.slots] at X105 l105 y105 z105 st105 hQ105
        subst l105 y105 z105
        obtain ⟨rfl, N105q, hq106⟩ := hQ105
        have N105 := Fr.app N54 N105q
        obtain ⟨cq107, kq107, q107a, q107b, q107c⟩ := isOf hZ hq106 E89
        obtain ⟨_, _, ⟨T107, L107, k107, n107⟩, -, X107, ⟨Lc107, hQ107, l107, y107, z107⟩, st107⟩ := X105.virtualBack hx (y := (⟨"org/tallyrole/core/Dependencies", "latest", "()I"⟩ : MethodName)) (z := (⟨"org/tallyrole/core/Dependencies", "latest", "()I"⟩ : MethodName)) hown (mvT hZ (own_w hw 85 rfl)) (mvT hZ (own_w hw 86 rfl)) (notFace_of_selects (args := #[]) (mvT hZ (own_w hw 88 rfl))) (mvT hZ (own_w hw 88 rfl)) (mvT hZ (own_w hw 87 rfl)) (by decide) (backOf (W := 0) (rm_lt l Z a0 hw [] x28 ka wa kk kw (0 : Int32) (0 : Int32) [] [] (fun _ => False) (0 : Int32) T54.heap n0 Zs94 E89 F90 F91 F92 F93 A87 A88 (Or.inl ⟨rfl, rfl, rfl, rfl, own_r_nil (fun _ q => q)⟩)) hZ (own_w hw 89 rfl) (own_w hw 3 rfl) (by decide) (by decide)) q107a q107c (g := (mkF m 158 #[.val (.int aa), .val (.int bb), .val (.int cq), .val (.int ff), .val (.int xx), .val (.int yy), .val (.int zz), .val (.int (0 : Int32)), .val (.int (0 : Int32)), .val (.ref b5), .val (.int (-1 : Int32)), .val (.int (-1 : Int32)), .val (.ref x28), .val (.int (own_mx (-1 : Int32) zz)), .unset, .unset] [(.ref x28)])) rfl (by rw [hml]; rfl) (Steps.refl _) (argsL := []) (rest := []) (lenOf pd_11 rfl) rfl (by show 2 * 0 + _ ≤ _; exact Nat.le_of_eq rfl) (hb hby at_158) (fun _ _ => ⟨rfl, hq106, (by decide : 4 + 0 ≤ _), (by decide : 10 + 0 ≤ _)⟩)
        dsimp only [Pt.U, Pt.locs, Pt.cells, Pt.slots] at X107 l107 y107 z107 st107 hQ107
        subst l107 y107 z107
        obtain ⟨x108, rfl, N107q, hq109, hpq110⟩ := hQ107
        have N107 := Fr.app N105 N107q
        obtain ⟨cq111, kq111, q111a, q111b, q111c⟩ := isOf hZ hq109 E72
        obtain ⟨_, _, ⟨T111, L111, k111, n111⟩, -, X111, ⟨Lc111, hQ111, l111, y111, z111⟩, st111⟩ := X107.virtualBack hx (y := (⟨"org/tallyrole/core/Dependencies", "latest", "()I"⟩ : MethodName)) (z := (⟨"org/tallyrole/core/Dependencies", "latest", "()I"⟩ : MethodName)) hown (mvT hZ (own_w hw 85 rfl)) (mvT hZ (own_w hw 86 rfl)) (notFace_of_selects (args := #[]) (mvT hZ (own_w hw 88 rfl))) (mvT hZ (own_w hw 88 rfl)) (mvT hZ (own_w hw 87 rfl)) (by decide) (backOf (W := 0) (rm_lt l Z a0 hw [] b5 x55 x56 x57 x58 x59 x60 x61 x62 (own_ins (fun _ => False) zz) (0 : Int32) T54.heap n0 Zs94 E72 F73 F74 F75 F76 A77 A78 (Or.inr (Or.inr (Or.inl hpq71)))) hZ (own_w hw 89 rfl) (own_w hw 3 rfl) (by decide) (by decide)) q111a q111c (g := (mkF m 168 #[.val (.int aa), .val (.int bb), .val (.int cq), .val (.int ff), .val (.int xx), .val (.int yy), .val (.int zz), .val (.int (0 : Int32)), .val (.int (0 : Int32)), .val (.ref b5), .val (.int (-1 : Int32)), .val (.int (-1 : Int32)), .val (.ref x28), .val (.int (own_mx (-1 : Int32) zz)), .unset, .unset] [(.ref b5)])) rfl (by rw [hml]; rfl) (Steps.refl _) (argsL := []) (rest := []) (lenOf pd_11 rfl) rfl (by show 2 * 0 + _ ≤ _; exact Nat.le_of_eq rfl) (hb hby at_168) (fun _ _ => ⟨rfl, hq109, (by decide : 4 + 0 ≤ _), (by decide : 10 + 0 ≤ _)⟩)
        dsimp only [Pt.U, Pt.locs, Pt.cells, Pt.slots] at X111 l111 y111 z111 st111 hQ111
        subst l111 y111 z111
        obtain ⟨x112, rfl, N111q, hq113, hpq114⟩ := hQ111
        have N111 := Fr.app N107 N111q
        obtain ⟨cq115, kq115, q115a, q115b, q115c⟩ := isOf hZ hq113 E89
        obtain ⟨_, _, ⟨T115, L115, k115, n115⟩, -, X115, ⟨Lc115, hQ115, l115, y115, z115⟩, st115⟩ := X111.virtualBack hx (y := (⟨"org/tallyrole/core/Dependencies", "remove", "(I)V"⟩ : MethodName)) (z := (⟨"org/tallyrole/core/Dependencies", "remove", "(I)V"⟩ : MethodName)) hown (mvT hZ (own_w hw 99 rfl)) (mvT hZ (own_w hw 100 rfl)) (notFace_of_selects (args := #[]) (mvT hZ (own_w hw 102 rfl))) (mvT hZ (own_w hw 102 rfl)) (mvT hZ (own_w hw 101 rfl)) (by decide) (backOf (W := 0) (rm_rE l Z a0 hw [] x28 ka kk (-1 : Int32) T54.heap n0 Zs94 F90 F92 A87) hZ (own_w hw 103 rfl) (own_w hw 3 rfl) (by decide) (by decide)) q115a q115c (g := (mkF m 187 #[.val (.int aa), .val (.int bb), .val (.int cq), .val (.int ff), .val (.int xx), .val (.int yy), .val (.int zz), .val (.int (0 : Int32)), .val (.int (0 : Int32)), .val (.ref b5), .val (.int (-1 : Int32)), .val (.int (-1 : Int32)), .val (.ref x28), .val (.int (own_mx (-1 : Int32) zz)), .val (.int (1 : Int32)), .unset] [(.int (-1 : Int32)), (.ref x28)])) rfl (by rw [hml]; rfl) (Steps.refl _) (argsL := [(.int (-1 : Int32))]) (rest := []) (lenOf pd_7 rfl) rfl (by show 2 * 0 + _ ≤ _; exact Nat.le_of_eq rfl) (hb hby at_187) (fun _ _ => ⟨rfl, hq113, (by decide : 4 + 0 ≤ _), (by decide : 10 + 0 ≤ _)⟩)
        dsimp only [Pt.U, Pt.locs, Pt.cells, Pt.slots] at X115 l115 y115 z115 st115 hQ115
        subst l115 y115 z115
        obtain ⟨rfl, N115q, hq116⟩ := hQ115
        have N115 := Fr.app N111 N115q
        obtain ⟨cq117, kq117, q117a, q117b, q117c⟩ := isOf hZ hq116 E89
        obtain ⟨_, _, ⟨T117, L117, k117, n117⟩, -, X117, ⟨Lc117, hQ117, l117, y117, z117⟩, st117⟩ := X115.virtualBack hx (y := (⟨"org/tallyrole/core/Dependencies", "latest", "()I"⟩ : MethodName)) (z := (⟨"org/tallyrole/core/Dependencies", "latest", "()I"⟩ : MethodName)) hown (mvT hZ (own_w hw 85 rfl)) (mvT hZ (own_w hw 86 rfl)) (notFace_of_selects (args := #[]) (mvT hZ (own_w hw 88 rfl))) (mvT hZ (own_w hw 88 rfl)) (mvT hZ (own_w hw 87 rfl)) (by decide) (backOf (W := 0) (rm_lt l Z a0 hw [] x28 ka wa kk kw (0 : Int32) (0 : Int32) [] [] (fun _ => False) (0 : Int32) T54.heap n0 Zs94 E89 F90 F91 F92 F93 A87 A88 (Or.inl ⟨rfl, rfl, rfl, rfl, own_r_nil (fun _ q => q)⟩)) hZ (own_w hw 89 rfl) (own_w hw 3 rfl) (by decide) (by decide)) q117a q117c (g := (mkF m 192 #[.val (.int aa), .val (.int bb), .val (.int cq), .val (.int ff), .val (.int xx), .val (.int yy), .val (.int zz), .val (.int (0 : Int32)), .val (.int (0 : Int32)), .val (.ref b5), .val (.int (-1 : Int32)), .val (.int (-1 : Int32)), .val (.ref x28), .val (.int (own_mx (-1 : Int32) zz)), .val (.int (1 : Int32)), .unset] [(.ref x28)])) rfl (by rw [hml]; rfl) (Steps.refl _) (argsL := []) (rest := []) (lenOf pd_11 rfl) rfl (by show 2 * 0 + _ ≤ _; exact Nat.le_of_eq rfl) (hb hby at_192) (fun _ _ => ⟨rfl, hq116, (by decide : 4 + 0 ≤ _), (by decide : 10 + 0 ≤ _)⟩)
        dsimp only [Pt.U, Pt.locs, Pt.cells, Pt.slots] at X117 l117 y117 z117 st117 hQ117
        subst l117 y117 z117
        obtain ⟨x118, rfl, N117q, hq119, hpq120⟩ := hQ117
        have N117 := Fr.app N115 N117q
        obtain ⟨cq121, kq121, q121a, q121b, q121c⟩ := isOf hZ hq119 E72
        obtain ⟨_, _, ⟨T121, L121, k121, n121⟩, -, X121, ⟨Lc121, hQ121, l121, y121, z121⟩, st121⟩ := X117.virtualBack hx (y := (⟨"org/tallyrole/core/Dependencies", "latest", "()I"⟩ : MethodName)) (z := (⟨"org/tallyrole/core/Dependencies", "latest", "()I"⟩ : MethodName)) hown (mvT hZ (own_w hw 85 rfl)) (mvT hZ (own_w hw 86 rfl)) (notFace_of_selects (args := #[]) (mvT hZ (own_w hw 88 rfl))) (mvT hZ (own_w hw 88 rfl)) (mvT hZ (own_w hw 87 rfl)) (by decide) (backOf (W := 0) (rm_lt l Z a0 hw [] b5 x55 x56 x57 x58 x59 x60 x61 x62 (own_ins (fun _ => False) zz) (0 : Int32) T54.heap n0 Zs94 E72 F73 F74 F75 F76 A77 A78 (Or.inr (Or.inr (Or.inl hpq71)))) hZ (own_w hw 89 rfl) (own_w hw 3 rfl) (by decide) (by decide)) q121a q121c (g := (mkF m 202 #[.val (.int aa), .val (.int bb), .val (.int cq), .val (.int ff), .val (.int xx), .val (.int yy), .val (.int zz), .val (.int (0 : Int32)), .val (.int (0 : Int32)), .val (.ref b5), .val (.int (-1 : Int32)), .val (.int (-1 : Int32)), .val (.ref x28), .val (.int (own_mx (-1 : Int32) zz)), .val (.int (1 : Int32)), .unset] [(.ref b5)])) rfl (by rw [hml]; rfl) (Steps.refl _) (argsL := []) (rest := []) (lenOf pd_11 rfl) rfl (by show 2 * 0 + _ ≤ _; exact Nat.le_of_eq rfl) (hb hby at_202) (fun _ _ => ⟨rfl, hq119, (by decide : 4 + 0 ≤ _), (by decide : 10 + 0 ≤ _)⟩)
        dsimp only [Pt.U, Pt.locs, Pt.cells, Pt.slots] at X121 l121 y121 z121 st121 hQ121
        subst l121 y121 z121
        obtain ⟨x122, rfl, N121q, hq123, hpq124⟩ := hQ121
        have N121 := Fr.app N117 N121q
        have pre125 := fun (t : State) (k : Steps p.tables e below (T121.setTop (mkF m 232 #[.val (.int aa), .val (.int bb), .val (.int cq), .val (.int ff), .val (.int xx), .val (.int yy), .val (.int zz), .val (.int (0 : Int32)), .val (.int (0 : Int32)), .val (.ref b5), .val (.int (-1 : Int32)), .val (.int (-1 : Int32)), .val (.ref x28), .val (.int (own_mx (-1 : Int32) zz)), .val (.int (1 : Int32)), .val (.int (1 : Int32))] [(.int (1 : Int32))])) t) => pre3 t (by
          refine XS.ifYes X_t18.here hx rfl (pc0 := 34) (pc' := 41) rfl (hb hby at_34) rfl ((if0 _ _).trans (teq hc4).1) (by decide) (by decide) ?_
          refine XS.iconst X_t18.here hx rfl (hb hby at_41) ?_
          refine XS.istore X_t18.here hx rfl (hb hby at_42) rfl (l' := #[.val (.int aa), .val (.int bb), .val (.int cq), .val (.int ff), .val (.int xx), .val (.int yy), .val (.int zz), .val (.int (0 : Int32)), .val (.int (0 : Int32)), .unset, .unset, .unset, .unset, .unset, .unset, .unset]) rfl ?_
          refine st5 _ ?_
          refine XS.dup X5.here hx rfl (hb hby at_47) rfl rfl ?_
          refine st15.trans ?_
          refine XS.astore X15.here hx rfl (hb hby at_51) rfl rfl (l' := #[.val (.int aa), .val (.int bb), .val (.int cq), .val (.int ff), .val (.int xx), .val (.int yy), .val (.int zz), .val (.int (0 : Int32)), .val (.int (0 : Int32)), .val (.ref b5), .unset, .unset, .unset, .unset, .unset, .unset]) rfl ?_
          refine XS.iload X15.here hx rfl (hb hby at_53) rfl ?_
          refine XS.ifYes X15.here hx rfl (pc0 := 55) (pc' := 65) rfl (hb hby at_55) rfl ((if0 _ _).trans (teq (by decide : (0 : Int32) = (0 : Int32))).1) (by decide) (by decide) ?_
          refine XS.iload X15.here hx rfl (hb hby at_65) rfl ?_
          refine XS.ifYes X15.here hx rfl (pc0 := 67) (pc' := 77) rfl (hb hby at_67) rfl ((if0 _ _).trans (teq (by decide : (0 : Int32) = (0 : Int32))).1) (by decide) (by decide) ?_
          refine XS.iconst X15.here hx rfl (hb hby at_77) ?_
          refine XS.istore X15.here hx rfl (hb hby at_78) rfl (l' := #[.val (.int aa), .val (.int bb), .val (.int cq), .val (.int ff), .val (.int xx), .val (.int yy), .val (.int zz), .val (.int (0 : Int32)), .val (.int (0 : Int32)), .val (.ref b5), .val (.int (-1 : Int32)), .unset, .unset, .unset, .unset, .unset]) rfl ?_
          refine XS.iload X15.here hx rfl (hb hby at_80) rfl ?_
          refine XS.ifYes X15.here hx rfl (pc0 := 82) (pc' := 89) rfl (hb hby at_82) rfl ((if0 _ _).trans (teq (by decide : (0 : Int32) = (0 : Int32))).1) (by decide) (by decide) ?_
          refine XS.iload X15.here hx rfl (hb hby at_89) rfl ?_
          refine XS.ifYes X15.here hx rfl (pc0 := 91) (pc' := 103) rfl (hb hby at_91) rfl ((if0 _ _).trans (teq (by decide : (0 : Int32) = (0 : Int32))).1) (by decide) (by decide) ?_
          refine XS.iload X15.here hx rfl (hb hby at_103) rfl ?_
          refine XS.ifYes X15.here hx rfl (pc0 := 105) (pc' := 130) rfl (hb hby at_105) rfl ((if0 _ _).trans (teq (by decide : (0 : Int32) = (0 : Int32))).1) (by decide) (by decide) ?_
          refine XS.iconst X15.here hx rfl (hb hby at_130) ?_
          refine XS.istore X15.here hx rfl (hb hby at_131) rfl (l' := #[.val (.int aa), .val (.int bb), .val (.int cq), .val (.int ff), .val (.int xx), .val (.int yy), .val (.int zz), .val (.int (0 : Int32)), .val (.int (0 : Int32)), .val (.ref b5), .val (.int (-1 : Int32)), .val (.int (-1 : Int32)), .unset, .unset, .unset, .unset]) rfl ?_
          refine XS.aload X15.here hx rfl (hb hby at_133) rfl rfl ?_
          refine st27.trans ?_
          refine XS.astore X27.here hx rfl (hb hby at_138) rfl rfl (l' := #[.val (.int aa), .val (.int bb), .val (.int cq), .val (.int ff), .val (.int xx), .val (.int yy), .val (.int zz), .val (.int (0 : Int32)), .val (.int (0 : Int32)), .val (.ref b5), .val (.int (-1 : Int32)), .val (.int (-1 : Int32)), .val (.ref x28), .unset, .unset, .unset]) rfl ?_
          refine XS.aload X27.here hx rfl (hb hby at_140) rfl rfl ?_
          refine XS.iload X27.here hx rfl (hb hby at_142) rfl ?_
          refine st54.trans ?_
          refine XS.iload X54.here hx rfl (hb hby at_147) rfl ?_
          refine XS.iload X54.here hx rfl (hb hby at_149) rfl ?_
          refine st105 _ ?_
          refine XS.istore X105.here hx rfl (hb hby at_154) rfl (l' := #[.val (.int aa), .val (.int bb), .val (.int cq), .val (.int ff), .val (.int xx), .val (.int yy), .val (.int zz), .val (.int (0 : Int32)), .val (.int (0 : Int32)), .val (.ref b5), .val (.int (-1 : Int32)), .val (.int (-1 : Int32)), .val (.ref x28), .val (.int (own_mx (-1 : Int32) zz)), .unset, .unset]) rfl ?_
          refine XS.aload X105.here hx rfl (hb hby at_156) rfl rfl ?_
          refine st107.trans ?_
          refine XS.iload X107.here hx rfl (hb hby at_161) rfl ?_
          refine XS.icmpNo X107.here hx rfl (hb hby at_163) rfl (teq (own_top_uniq hpq110 own_top_e)).2 ?_
          refine XS.aload X107.here hx rfl (hb hby at_166) rfl rfl ?_
          refine st111.trans ?_
          refine XS.iload X111.here hx rfl (hb hby at_171) rfl ?_
          refine XS.icmpNo X111.here hx rfl (hb hby at_173) rfl (teq (own_top_uniq hpq114 (own_top_mx own_top_e t18_2))).2 ?_
          refine XS.iconst X111.here hx rfl (hb hby at_176) ?_
          refine XS.goto X111.here hx rfl (pc0 := 177) (pc' := 181) rfl (hb hby at_177) (by decide) (by decide) ?_
          refine XS.istore X111.here hx rfl (hb hby at_181) rfl (l' := #[.val (.int aa), .val (.int bb), .val (.int cq), .val (.int ff), .val (.int xx), .val (.int yy), .val (.int zz), .val (.int (0 : Int32)), .val (.int (0 : Int32)), .val (.ref b5), .val (.int (-1 : Int32)), .val (.int (-1 : Int32)), .val (.ref x28), .val (.int (own_mx (-1 : Int32) zz)), .val (.int (1 : Int32)), .unset]) rfl ?_
          refine XS.aload X111.here hx rfl (hb hby at_183) rfl rfl ?_
          refine XS.iload X111.here hx rfl (hb hby at_185) rfl ?_
          refine st115.trans ?_
          refine XS.aload X115.here hx rfl (hb hby at_190) rfl rfl ?_
          refine st117.trans ?_
          refine XS.iload X117.here hx rfl (hb hby at_195) rfl ?_
          refine XS.icmpNo X117.here hx rfl (hb hby at_197) rfl (teq (own_top_uniq hpq120 own_top_e)).2 ?_
          refine XS.aload X117.here hx rfl (hb hby at_200) rfl rfl ?_
          refine st121.trans ?_
          refine XS.iload X121.here hx rfl (hb hby at_205) rfl ?_
          refine XS.icmpNo X121.here hx rfl (hb hby at_207) rfl (teq (own_top_uniq hpq124 (own_top_mx own_top_e t18_2))).2 ?_
          refine XS.iconst X121.here hx rfl (hb hby at_210) ?_
          refine XS.goto X121.here hx rfl (pc0 := 211) (pc' := 215) rfl (hb hby at_211) (by decide) (by decide) ?_
          refine XS.istore X121.here hx rfl (hb hby at_215) rfl (l' := #[.val (.int aa), .val (.int bb), .val (.int cq), .val (.int ff), .val (.int xx), .val (.int yy), .val (.int zz), .val (.int (0 : Int32)), .val (.int (0 : Int32)), .val (.ref b5), .val (.int (-1 : Int32)), .val (.int (-1 : Int32)), .val (.ref x28), .val (.int (own_mx (-1 : Int32) zz)), .val (.int (1 : Int32)), .val (.int (1 : Int32))]) rfl ?_
          refine XS.iload X121.here hx rfl (hb hby at_217) rfl ?_
          refine XS.ifNo X121.here hx rfl (hb hby at_219) rfl ((if0 _ _).trans (feq (by decide : ¬ ((1 : Int32) = (0 : Int32)))).1) ?_
          refine XS.iload X121.here hx rfl (hb hby at_222) rfl ?_
          refine XS.ifNo X121.here hx rfl (hb hby at_224) rfl ((if0 _ _).trans (feq (by decide : ¬ ((1 : Int32) = (0 : Int32)))).1) ?_
          refine XS.iconst X121.here hx rfl (hb hby at_227) ?_
          refine XS.goto X121.here hx rfl (pc0 := 228) (pc' := 232) rfl (hb hby at_228) (by decide) (by decide) ?_
          exact k)
        obtain ⟨fs, hr, hrun, hended, hW, hsame⟩ := X121.leave (v := some (.int (1 : Int32))) (hlocks := BodyLoose.notSynchronized Bd) (fun h => by rw [Bd.returns] at h; cases h)
        refine ⟨_, _, pre125 _ ?_, hrun, hended, _, _, rfl, ?_, ⟨_, rfl⟩, hW, hsame.mono (by decide) (by decide)⟩
        · exact retN X121 hx (t := .boolean) Bd.returns (by simp) (hb hby at_232) hr
        · show Q_law Z aa bb cq ff ka wa kk kw h0 n0 _ T121.heap _
          rw [hq123]
          exact ⟨rfl, N121, K54⟩
      · obtain ⟨T126, h126, X126, e126, E126, A126, D126, -, st126⟩ := newO X_t18 hx hZ hown (own_w hw 1 rfl) (own_w hw 2 rfl) (own_w hw 3 rfl) e_t18 (g := (mkF m 44 #[.val (.int aa), .val (.int bb), .val (.int cq), .val (.int ff), .val (.int xx), .val (.int yy), .val (.int zz), .val (.int (0 : Int32)), .val (.int (1 : Int32)), .unset, .unset, .unset, .unset, .unset, .unset, .unset] [])) rfl (hb hby at_44) (by decide) (by decide)
        obtain ⟨b126, g126⟩ : ∃ z, z = h0.size := ⟨_, rfl⟩
        have ne_ka_b126 : ka ≠ b126 := Nat.ne_of_lt (Nat.lt_of_lt_of_le H2_A.lt (Nat.le_of_eq g126.symm))
        have ne_wa_b126 : wa ≠ b126 := Nat.ne_of_lt (Nat.lt_of_lt_of_le H3_A.lt (Nat.le_of_eq g126.symm))
        have ge_b126 : n0 ≤ b126 := Nat.le_trans Z0 (Nat.le_of_eq g126.symm)
        have sz_b126 : h0.size ≤ b126 := Nat.le_trans K0.1 (Nat.le_of_eq g126.symm)
        rw [← g126] at A126 D126 st126
        have S127 := H0_S.ext E126
        have S128 := H1_S.ext E126
        have A129 := H2_A.ext E126
        have A130 := H3_A.ext E126
        have K126 : Keep h0 h126 [] := K0.ext E126
        have Zs131 : n0 ≤ h126.size := (Nat.le_trans Z0 E126.1)
        have F132 : Fld Z h126 b126 "org/tallyrole/core/Dependencies" "keys" "[I" .null := D126 (Or.inl (own_w hw 13 rfl)) (ty := (.array .int)) (by decide)
        have F133 : Fld Z h126 b126 "org/tallyrole/core/Dependencies" "words" "[J" .null := D126 (Or.inl (own_w hw 17 rfl)) (ty := (.array .long)) (by decide)
        have F134 : Fld Z h126 b126 "org/tallyrole/core/Dependencies" "size" "I" (.int (0 : Int32)) := D126 (Or.inl (own_w hw 24 rfl)) (ty := .int) (by decide)
        have F135 : Fld Z h126 b126 "org/tallyrole/core/Dependencies" "shared" "Z" (.int (0 : Int32)) := D126 (Or.inl (own_w hw 40 rfl)) (ty := .boolean) (by decide)
        obtain ⟨_, _, ⟨T136, L136, k136, n136⟩, -, X136, ⟨Lc136, hQ136, l136, y136, z136⟩, st136⟩ := X126.specialBack hx (y := (⟨"org/tallyrole/core/Dependencies", "<init>", "()V"⟩ : MethodName)) rfl hown (mvT hZ (own_w hw 4 rfl)) (mvT hZ (own_w hw 5 rfl)) (mvT hZ (own_w hw 6 rfl)) (by decide) (backOf (W := 1) (rm_ini l Z a0 hw [] b126 ka wa h126 n0 Zs131 A126 F132 F133 F134 F135 S127 S128 ge_b126) hZ (own_w hw 6 rfl) (own_w hw 3 rfl) (by decide) (by decide)) (g := (mkF m 48 #[.val (.int aa), .val (.int bb), .val (.int cq), .val (.int ff), .val (.int xx), .val (.int yy), .val (.int zz), .val (.int (0 : Int32)), .val (.int (1 : Int32)), .unset, .unset, .unset, .unset, .unset, .unset, .unset] [(.ref b126), (.ref b126)])) rfl (by rw [hml]; rfl) (Steps.refl _) (a := b126) (argsL := []) (rest := [(.ref b126)]) (lenOf pd_9 rfl) rfl (by show 2 * 0 + _ ≤ _; exact Nat.le_of_eq rfl) (hb hby at_48) (fun _ _ => ⟨rfl, e126, (by decide : 1 + 0 ≤ _), (by decide : 4 + 0 ≤ _)⟩)
        dsimp only [Pt.U, Pt.locs, Pt.cells, Pt.slots] at X136 l136 y136 z136 st136 hQ136
        subst l136 y136 z136
        obtain ⟨rfl, N136q, hq137, F138, F139, F140, F141⟩ := hQ136
        have N136 := Fr.app N_t18 N136q
        have S142 := own_sta_keep S127 hq137 (allS (own_ns_exa A126) all0)
        have S143 := own_sta_keep S128 hq137 (allS (own_ns_exa A126) all0)
        have A144 := A129.keep hq137 (ninS ne_ka_b126 nin0)
        have A145 := A130.keep hq137 (ninS ne_wa_b126 nin0)
        have E146 := A126.keep hq137
        have K136 : Keep h0 T136.heap [] := K126.trans hq137 (allS (Or.inr sz_b126) all0)
        have Zs147 : n0 ≤ T136.heap.size := (Nat.le_trans Zs131 hq137.1)
        obtain ⟨cq148, kq148, q148a, q148b, q148c⟩ := isOf hZ rfl E146
        obtain ⟨_, _, ⟨T148, L148, k148, n148⟩, -, X148, ⟨Lc148, hQ148, l148, y148, z148⟩, st148⟩ := X136.virtualBack hx (y := (⟨"org/tallyrole/core/Dependencies", "add", "(I)V"⟩ : MethodName)) (z := (⟨"org/tallyrole/core/Dependencies", "add", "(I)V"⟩ : MethodName)) hown (mvT hZ (own_w hw 18 rfl)) (mvT hZ (own_w hw 19 rfl)) (notFace_of_selects (args := #[]) (mvT hZ (own_w hw 21 rfl))) (mvT hZ (own_w hw 21 rfl)) (mvT hZ (own_w hw 20 rfl)) (by decide) (backOf (W := 0) (rm_aE l Z a0 hw [] b126 ka wa kk kw (fun _ => False) yy T136.heap n0 Zs147 E146 F138 F139 F140 F141 A144 A145 (fun _ q => q) ge_b126 (Ne.symm ne_ka_b126) (Ne.symm ne_wa_b126) t18_1) hZ (own_w hw 22 rfl) (own_w hw 3 rfl) (by decide) (by decide)) q148a q148c (g := (mkF m 74 #[.val (.int aa), .val (.int bb), .val (.int cq), .val (.int ff), .val (.int xx), .val (.int yy), .val (.int zz), .val (.int (0 : Int32)), .val (.int (1 : Int32)), .val (.ref b126), .unset, .unset, .unset, .unset, .unset, .unset] [(.int yy), (.ref b126)])) rfl (by rw [hml]; rfl) (Steps.refl _) (argsL := [(.int yy)]) (rest := []) (lenOf pd_7 rfl) rfl (by show 2 * 0 + _ ≤ _; exact Nat.le_of_eq rfl) (hb hby at_74) (fun _ _ => ⟨rfl, rfl, (by decide : 1 + 2 ≤ _), (by decide : 4 + 2 ≤ _)⟩)
        dsimp only [Pt.U, Pt.locs, Pt.cells, Pt.slots] at X148 l148 y148 z148 st148 hQ148
        subst l148 y148 z148
        obtain ⟨x149, x150, x151, x152, x153, x154, x155, x156, rfl, N148q, hq157, hpq158, hpq159, hpq160, hpq161, hpq162, hpq163, hpq164, hpq165, E166, F167, F168, F169, F170, A171, A172, E173, E174⟩ := hQ148
        have N148 := Fr.app N136 N148q
        have lt175 : ka < T136.heap.size := A144.lt
        have lt176 : wa < T136.heap.size := A145.lt
        have lt177 : b126 < T136.heap.size := E146.lt
        have S178 := own_sta_keep S142 hq157 (allS (own_ns_exa E146) all0)
        have S179 := own_sta_keep S143 hq157 (allS (own_ns_exa E146) all0)
        have A180 := A144.keep hq157 (ninS ne_ka_b126 nin0)
        have A181 := A145.keep hq157 (ninS ne_wa_b126 nin0)
        have K148 : Keep h0 T148.heap [] := K136.trans hq157 (allS (Or.inr sz_b126) all0)
        have Zs182 : n0 ≤ T148.heap.size := (Nat.le_trans Zs147 hq157.1)
        have ne183 : ka ≠ x149 := Nat.ne_of_lt (Nat.lt_of_lt_of_le lt175 hpq159)
        have ne184 : wa ≠ x149 := Nat.ne_of_lt (Nat.lt_of_lt_of_le lt176 hpq159)
        have ne185 : b126 ≠ x149 := Nat.ne_of_lt (Nat.lt_of_lt_of_le lt177 hpq159)
        have sz186 : h0.size ≤ x149 := Nat.le_trans K136.1 hpq159
        have ne187 : ka ≠ x150 := Nat.ne_of_lt (Nat.lt_of_lt_of_le lt175 hpq161)
        have ne188 : wa ≠ x150 := Nat.ne_of_lt (Nat.lt_of_lt_of_le lt176 hpq161)
        have ne189 : b126 ≠ x150 := Nat.ne_of_lt (Nat.lt_of_lt_of_le lt177 hpq161)
        have sz190 : h0.size ≤ x150 := Nat.le_trans K136.1 hpq161
        obtain ⟨_, _, ⟨T191, L191, k191, n191⟩, -, X191, ⟨Lc191, hQ191, l191, y191, z191⟩, st191⟩ := Jvm.LawKit.callS X148 hx (y := (⟨"java/lang/Math", "max", "(II)I"⟩ : MethodName)) hown (mvT hZ (own_w hw 82 rfl)) (mvT hZ (own_w hw 83 rfl)) (mvT hZ (own_w hw 47 rfl)) (mvT hZ (own_w hw 84 rfl)) (by decide) (backOf (W := 0) (rm_mx l Z a0 hw [] (-1 : Int32) yy T148.heap n0 Zs182 ) hZ (own_w hw 84 rfl) (own_w hw 47 rfl) (by decide) (by decide)) (g := (mkF m 98 #[.val (.int aa), .val (.int bb), .val (.int cq), .val (.int ff), .val (.int xx), .val (.int yy), .val (.int zz), .val (.int (0 : Int32)), .val (.int (1 : Int32)), .val (.ref b126), .val (.int (-1 : Int32)), .unset, .unset, .unset, .unset, .unset] [(.int yy), (.int (-1 : Int32))])) rfl (by rw [hml]; rfl) (argsL := [(.int (-1 : Int32)), (.int yy)]) (rest := []) (lenOf pd_2 rfl) rfl (by show 2 * 0 + _ ≤ _; exact Nat.le_of_eq rfl) (hb hby at_98) (fun _ _ => ⟨rfl, rfl, (by decide : 3 + 0 ≤ _), (by decide : 6 + 0 ≤ _)⟩)
        dsimp only [Pt.U, Pt.locs, Pt.cells, Pt.slots] at X191 l191 y191 z191 st191 hQ191
        subst l191 y191 z191
        obtain ⟨rfl, N191q, hq192⟩ := hQ191
        have N191 := Fr.app N148 N191q
        obtain ⟨cq193, kq193, q193a, q193b, q193c⟩ := isOf hZ hq192 E166
        obtain ⟨_, _, ⟨T193, L193, k193, n193⟩, -, X193, ⟨Lc193, hQ193, l193, y193, z193⟩, st193⟩ := X191.virtualBack hx (y := (⟨"org/tallyrole/core/Dependencies", "copy", "()Lorg/tallyrole/core/Dependencies;"⟩ : MethodName)) (z := (⟨"org/tallyrole/core/Dependencies", "copy", "()Lorg/tallyrole/core/Dependencies;"⟩ : MethodName)) hown (mvT hZ (own_w hw 58 rfl)) (mvT hZ (own_w hw 59 rfl)) (notFace_of_selects (args := #[]) (mvT hZ (own_w hw 61 rfl))) (mvT hZ (own_w hw 61 rfl)) (mvT hZ (own_w hw 60 rfl)) (by decide) (backOf (W := 0) (rm_cyN l Z a0 hw [] b126 x149 x150 x154 (0 : Int32) T148.heap n0 Zs182 E166 F167 F168 F169 F170 ge_b126 (own_nz (Or.inl hpq165))) hZ (own_w hw 62 rfl) (own_w hw 3 rfl) (by decide) (by decide)) q193a q193c (g := (mkF m 135 #[.val (.int aa), .val (.int bb), .val (.int cq), .val (.int ff), .val (.int xx), .val (.int yy), .val (.int zz), .val (.int (0 : Int32)), .val (.int (1 : Int32)), .val (.ref b126), .val (.int (own_mx (-1 : Int32) yy)), .val (.int (-1 : Int32)), .unset, .unset, .unset, .unset] [(.ref b126)])) rfl (by rw [hml]; rfl) (Steps.refl _) (argsL := []) (rest := []) (lenOf pd_10 rfl) rfl (by show 2 * 0 + _ ≤ _; exact Nat.le_of_eq rfl) (hb hby at_135) (fun _ _ => ⟨rfl, hq192, (by decide : 3 + 1 ≤ _), (by decide : 6 + 4 ≤ _)⟩)
        dsimp only [Pt.U, Pt.locs, Pt.cells, Pt.slots] at X193 l193 y193 z193 st193 hQ193
        subst l193 y193 z193
        obtain ⟨x194, rfl, N193q, hq195, hpq196, hpq197, F198, F199, F200, F201, E202, F203, F204, F205, F206⟩ := hQ193
        have N193 := Fr.app N191 N193q
        have lt207 : b126 < T148.heap.size := E166.lt
        have lt208 : x149 < T148.heap.size := A171.lt
        have lt209 : x150 < T148.heap.size := A172.lt
        have S210 := own_sta_keep S178 hq195 (allS (own_ns_exa E166) all0)
        have S211 := own_sta_keep S179 hq195 (allS (own_ns_exa E166) all0)
        have E212 := E166.keep hq195
        have A213 := A171.keep hq195 (ninS (Ne.symm hpq162) nin0)
        have A214 := A172.keep hq195 (ninS (Ne.symm hpq163) nin0)
        have E215 := E173.keep hq195
        have E216 := E174.keep hq195
        have K193 : Keep h0 T193.heap [] := K148.trans hq195 (allS (Or.inr sz_b126) all0)
        have Zs217 : n0 ≤ T193.heap.size := (Nat.le_trans Zs182 hq195.1)
        have ne218 : b126 ≠ x194 := Nat.ne_of_lt (Nat.lt_of_lt_of_le lt207 hpq197)
        have ne219 : x149 ≠ x194 := Nat.ne_of_lt (Nat.lt_of_lt_of_le lt208 hpq197)
        have ne220 : x150 ≠ x194 := Nat.ne_of_lt (Nat.lt_of_lt_of_le lt209 hpq197)
        have sz221 : h0.size ≤ x194 := Nat.le_trans K148.1 hpq197
        obtain ⟨cq222, kq222, q222a, q222b, q222c⟩ := isOf hZ rfl E212
        obtain ⟨_, _, ⟨T222, L222, k222, n222⟩, -, X222, ⟨Lc222, hQ222, l222, y222, z222⟩, st222⟩ := X193.virtualBack hx (y := (⟨"org/tallyrole/core/Dependencies", "add", "(I)V"⟩ : MethodName)) (z := (⟨"org/tallyrole/core/Dependencies", "add", "(I)V"⟩ : MethodName)) hown (mvT hZ (own_w hw 18 rfl)) (mvT hZ (own_w hw 19 rfl)) (notFace_of_selects (args := #[]) (mvT hZ (own_w hw 21 rfl))) (mvT hZ (own_w hw 21 rfl)) (mvT hZ (own_w hw 20 rfl)) (by decide) (backOf (W := 0) (rm_adS l Z a0 hw [] b126 x149 x150 x151 x152 x153 x154 x155 x156 (own_ins (fun _ => False) yy) zz T193.heap n0 Zs217 E212 F198 F199 F200 F201 A213 A214 E215 E216 (Or.inl hpq165) ge_b126 hpq158 hpq160 hpq162 hpq163 hpq164 t18_2) hZ (own_w hw 22 rfl) (own_w hw 3 rfl) (by decide) (by decide)) q222a q222c (g := (mkF m 144 #[.val (.int aa), .val (.int bb), .val (.int cq), .val (.int ff), .val (.int xx), .val (.int yy), .val (.int zz), .val (.int (0 : Int32)), .val (.int (1 : Int32)), .val (.ref b126), .val (.int (own_mx (-1 : Int32) yy)), .val (.int (-1 : Int32)), .val (.ref x194), .unset, .unset, .unset] [(.int zz), (.ref b126)])) rfl (by rw [hml]; rfl) (Steps.refl _) (argsL := [(.int zz)]) (rest := []) (lenOf pd_7 rfl) rfl (by show 2 * 0 + _ ≤ _; exact Nat.le_of_eq rfl) (hb hby at_144) (fun _ _ => ⟨rfl, rfl, (by decide : 4 + 2 ≤ _), (by decide : 10 + 6 ≤ _)⟩)
        dsimp only [Pt.U, Pt.locs, Pt.cells, Pt.slots] at X222 l222 y222 z222 st222 hQ222
        subst l222 y222 z222
        obtain ⟨x223, x224, x225, x226, x227, x228, x229, x230, x231, rfl, N222q, hq232, hpq233, hpq234, hpq235, hpq236, hpq237, hpq238, hpq239, hpq240, E241, F242, F243, F244, F245, A246, A247, E248, E249⟩ := hQ222
        have N222 := Fr.app N193 N222q
        have lt250 : b126 < T193.heap.size := E212.lt
        have lt251 : x149 < T193.heap.size := A213.lt
        have lt252 : x150 < T193.heap.size := A214.lt
        have lt253 : x194 < T193.heap.size := E202.lt
        have S254 := own_sta_keep S210 hq232 (allS (own_ns_exa E212) all0)
        have S255 := own_sta_keep S211 hq232 (allS (own_ns_exa E212) all0)
        have A256 := A213.keep hq232 (ninS (Ne.symm hpq162) nin0)
        have A257 := A214.keep hq232 (ninS (Ne.symm hpq163) nin0)
        have E258 := E215.keep hq232
        have E259 := E216.keep hq232
        have E260 := E202.keep hq232
        have F261 := F203.keep hq232 (ninS (Ne.symm ne218) nin0)
        have F262 := F204.keep hq232 (ninS (Ne.symm ne218) nin0)
        have F263 := F205.keep hq232 (ninS (Ne.symm ne218) nin0)
        have F264 := F206.keep hq232 (ninS (Ne.symm ne218) nin0)
        have K222 : Keep h0 T222.heap [] := K193.trans hq232 (allS (Or.inr sz_b126) all0)
        have Zs265 : n0 ≤ T222.heap.size := (Nat.le_trans Zs217 hq232.1)
        have ne266 : b126 ≠ x223 := hpq235.elim (fun q => by rw [q]; exact hpq162) (fun q => Nat.ne_of_lt (Nat.lt_of_lt_of_le lt250 q))
        have ne267 : x150 ≠ x223 := hpq235.elim (fun q => by rw [q]; exact (Ne.symm hpq164)) (fun q => Nat.ne_of_lt (Nat.lt_of_lt_of_le lt252 q))
        have ne268 : x194 ≠ x223 := hpq235.elim (fun q => by rw [q]; exact (Ne.symm ne219)) (fun q => Nat.ne_of_lt (Nat.lt_of_lt_of_le lt253 q))
        have sz269 : h0.size ≤ x223 := hpq235.elim (fun q => by rw [q]; exact sz186) (fun q => Nat.le_trans K193.1 q)
        have ne270 : b126 ≠ x224 := hpq236.elim (fun q => by rw [q]; exact hpq163) (fun q => Nat.ne_of_lt (Nat.lt_of_lt_of_le lt250 q))
        have ne271 : x149 ≠ x224 := hpq236.elim (fun q => by rw [q]; exact hpq164) (fun q => Nat.ne_of_lt (Nat.lt_of_lt_of_le lt251 q))
        have ne272 : x194 ≠ x224 := hpq236.elim (fun q => by rw [q]; exact (Ne.symm ne220)) (fun q => Nat.ne_of_lt (Nat.lt_of_lt_of_le lt253 q))
        have sz273 : h0.size ≤ x224 := hpq236.elim (fun q => by rw [q]; exact sz190) (fun q => Nat.le_trans K193.1 q)
        obtain ⟨_, _, ⟨T274, L274, k274, n274⟩, -, X274, ⟨Lc274, hQ274, l274, y274, z274⟩, st274⟩ := Jvm.LawKit.callS X222 hx (y := (⟨"java/lang/Math", "max", "(II)I"⟩ : MethodName)) hown (mvT hZ (own_w hw 82 rfl)) (mvT hZ (own_w hw 83 rfl)) (mvT hZ (own_w hw 47 rfl)) (mvT hZ (own_w hw 84 rfl)) (by decide) (backOf (W := 0) (rm_mx l Z a0 hw [] (own_mx (-1 : Int32) yy) zz T222.heap n0 Zs265 ) hZ (own_w hw 84 rfl) (own_w hw 47 rfl) (by decide) (by decide)) (g := (mkF m 151 #[.val (.int aa), .val (.int bb), .val (.int cq), .val (.int ff), .val (.int xx), .val (.int yy), .val (.int zz), .val (.int (0 : Int32)), .val (.int (1 : Int32)), .val (.ref b126), .val (.int (own_mx (-1 : Int32) yy)), .val (.int (-1 : Int32)), .val (.ref x194), .unset, .unset, .unset] [(.int zz), (.int (own_mx (-1 : Int32) yy))])) rfl (by rw [hml]; rfl) (argsL := [(.int (own_mx (-1 : Int32) yy)), (.int zz)]) (rest := []) (lenOf pd_2 rfl) rfl (by show 2 * 0 + _ ≤ _; exact Nat.le_of_eq rfl) (hb hby at_151) (fun _ _ => ⟨rfl, rfl, (by decide : 6 + 0 ≤ _), (by decide : 16 + 0 ≤ _)⟩)
        dsimp only [Pt.U, Pt.locs, Pt.cells, Pt.slots] at X274 l274 y274 z274 st274 hQ274
        subst l274 y274 z274
        obtain ⟨rfl, N274q, hq275⟩ := hQ274
        have N274 := Fr.app N222 N274q
        obtain ⟨cq276, kq276, q276a, q276b, q276c⟩ := isOf hZ hq275 E260
        obtain ⟨_, _, ⟨T276, L276, k276, n276⟩, -, X276, ⟨Lc276, hQ276, l276, y276, z276⟩, st276⟩ := X274.virtualBack hx (y := (⟨"org/tallyrole/core/Dependencies", "latest", "()I"⟩ : MethodName)) (z := (⟨"org/tallyrole/core/Dependencies", "latest", "()I"⟩ : MethodName)) hown (mvT hZ (own_w hw 85 rfl)) (mvT hZ (own_w hw 86 rfl)) (notFace_of_selects (args := #[]) (mvT hZ (own_w hw 88 rfl))) (mvT hZ (own_w hw 88 rfl)) (mvT hZ (own_w hw 87 rfl)) (by decide) (backOf (W := 0) (rm_lt l Z a0 hw [] x194 x149 x150 x151 x152 x153 x154 x155 x156 (own_ins (fun _ => False) yy) (1 : Int32) T222.heap n0 Zs265 E260 F261 F262 F263 F264 A256 A257 (Or.inr (Or.inr (Or.inl hpq165)))) hZ (own_w hw 89 rfl) (own_w hw 3 rfl) (by decide) (by decide)) q276a q276c (g := (mkF m 158 #[.val (.int aa), .val (.int bb), .val (.int cq), .val (.int ff), .val (.int xx), .val (.int yy), .val (.int zz), .val (.int (0 : Int32)), .val (.int (1 : Int32)), .val (.ref b126), .val (.int (own_mx (-1 : Int32) yy)), .val (.int (-1 : Int32)), .val (.ref x194), .val (.int (own_mx (own_mx (-1 : Int32) yy) zz)), .unset, .unset] [(.ref x194)])) rfl (by rw [hml]; rfl) (Steps.refl _) (argsL := []) (rest := []) (lenOf pd_11 rfl) rfl (by show 2 * 0 + _ ≤ _; exact Nat.le_of_eq rfl) (hb hby at_158) (fun _ _ => ⟨rfl, hq275, (by decide : 6 + 0 ≤ _), (by decide : 16 + 0 ≤ _)⟩)
        dsimp only [Pt.U, Pt.locs, Pt.cells, Pt.slots] at X276 l276 y276 z276 st276 hQ276
        subst l276 y276 z276
        obtain ⟨x277, rfl, N276q, hq278, hpq279⟩ := hQ276
        have N276 := Fr.app N274 N276q
        obtain ⟨cq280, kq280, q280a, q280b, q280c⟩ := isOf hZ hq278 E241
        obtain ⟨_, _, ⟨T280, L280, k280, n280⟩, -, X280, ⟨Lc280, hQ280, l280, y280, z280⟩, st280⟩ := X276.virtualBack hx (y := (⟨"org/tallyrole/core/Dependencies", "latest", "()I"⟩ : MethodName)) (z := (⟨"org/tallyrole/core/Dependencies", "latest", "()I"⟩ : MethodName)) hown (mvT hZ (own_w hw 85 rfl)) (mvT hZ (own_w hw 86 rfl)) (notFace_of_selects (args := #[]) (mvT hZ (own_w hw 88 rfl))) (mvT hZ (own_w hw 88 rfl)) (mvT hZ (own_w hw 87 rfl)) (by decide) (backOf (W := 0) (rm_lt l Z a0 hw [] b126 x223 x224 x225 x226 x227 x228 x229 x230 (own_ins (own_ins (fun _ => False) yy) zz) x231 T222.heap n0 Zs265 E241 F242 F243 F244 F245 A246 A247 (hpq240.elim (fun z => (Or.inr (Or.inr (Or.inl z)))) (fun z => (z.elim (fun z => (Or.inr (Or.inr (Or.inr (Or.inr (Or.inl z)))))) (fun z => (z.elim (fun z => (Or.inr (Or.inr (Or.inr (Or.inr (Or.inr (Or.inl z))))))) (fun z => (Or.inr (Or.inr (Or.inr (Or.inr (Or.inr (Or.inr z))))))))))))) hZ (own_w hw 89 rfl) (own_w hw 3 rfl) (by decide) (by decide)) q280a q280c (g := (mkF m 168 #[.val (.int aa), .val (.int bb), .val (.int cq), .val (.int ff), .val (.int xx), .val (.int yy), .val (.int zz), .val (.int (0 : Int32)), .val (.int (1 : Int32)), .val (.ref b126), .val (.int (own_mx (-1 : Int32) yy)), .val (.int (-1 : Int32)), .val (.ref x194), .val (.int (own_mx (own_mx (-1 : Int32) yy) zz)), .unset, .unset] [(.ref b126)])) rfl (by rw [hml]; rfl) (Steps.refl _) (argsL := []) (rest := []) (lenOf pd_11 rfl) rfl (by show 2 * 0 + _ ≤ _; exact Nat.le_of_eq rfl) (hb hby at_168) (fun _ _ => ⟨rfl, hq278, (by decide : 6 + 0 ≤ _), (by decide : 16 + 0 ≤ _)⟩)
        dsimp only [Pt.U, Pt.locs, Pt.cells, Pt.slots] at X280 l280 y280 z280 st280 hQ280
        subst l280 y280 z280
        obtain ⟨x281, rfl, N280q, hq282, hpq283⟩ := hQ280
        have N280 := Fr.app N276 N280q
        obtain ⟨cq284, kq284, q284a, q284b, q284c⟩ := isOf hZ hq282 E260
        obtain ⟨_, _, ⟨T284, L284, k284, n284⟩, -, X284, ⟨Lc284, hQ284, l284, y284, z284⟩, st284⟩ := X280.virtualBack hx (y := (⟨"org/tallyrole/core/Dependencies", "remove", "(I)V"⟩ : MethodName)) (z := (⟨"org/tallyrole/core/Dependencies", "remove", "(I)V"⟩ : MethodName)) hown (mvT hZ (own_w hw 99 rfl)) (mvT hZ (own_w hw 100 rfl)) (notFace_of_selects (args := #[]) (mvT hZ (own_w hw 102 rfl))) (mvT hZ (own_w hw 102 rfl)) (mvT hZ (own_w hw 101 rfl)) (by decide) (backOf (W := 0) (rm_rmS l Z a0 hw [] x194 x149 x150 x151 x152 x153 x154 x155 x156 (own_ins (fun _ => False) yy) (own_mx (-1 : Int32) yy) T222.heap n0 Zs265 E260 F261 F262 F263 F264 A256 A257 E258 E259 (Or.inl hpq165) hpq196 hpq158 hpq160 (Ne.symm ne219) (Ne.symm ne220) hpq164) hZ (own_w hw 103 rfl) (own_w hw 3 rfl) (by decide) (by decide)) q284a q284c (g := (mkF m 187 #[.val (.int aa), .val (.int bb), .val (.int cq), .val (.int ff), .val (.int xx), .val (.int yy), .val (.int zz), .val (.int (0 : Int32)), .val (.int (1 : Int32)), .val (.ref b126), .val (.int (own_mx (-1 : Int32) yy)), .val (.int (-1 : Int32)), .val (.ref x194), .val (.int (own_mx (own_mx (-1 : Int32) yy) zz)), .val (.int (1 : Int32)), .unset] [(.int (own_mx (-1 : Int32) yy)), (.ref x194)])) rfl (by rw [hml]; rfl) (Steps.refl _) (argsL := [(.int (own_mx (-1 : Int32) yy))]) (rest := []) (lenOf pd_7 rfl) rfl (by show 2 * 0 + _ ≤ _; exact Nat.le_of_eq rfl) (hb hby at_187) (fun _ _ => ⟨rfl, hq282, (by decide : 6 + 2 ≤ _), (by decide : 16 + 4 ≤ _)⟩)
        dsimp only [Pt.U, Pt.locs, Pt.cells, Pt.slots] at X284 l284 y284 z284 st284 hQ284
        subst l284 y284 z284
        obtain ⟨x285, x286, x287, x288, x289, x290, x291, x292, x293, rfl, N284q, hq294, hpq295, hpq296, hpq297, hpq298, hpq299, hpq300, hpq301, hpq302, E303, F304, F305, F306, F307, A308, A309, E310, E311⟩ := hQ284
        have N284 := Fr.app N280 N284q
        have lt312 : x149 < T222.heap.size := A256.lt
        have lt313 : x150 < T222.heap.size := A257.lt
        have lt314 : x194 < T222.heap.size := E260.lt
        have lt315 : b126 < T222.heap.size := E241.lt
        have lt316 : x223 < T222.heap.size := A246.lt
        have lt317 : x224 < T222.heap.size := A247.lt
        have S318 := own_sta_keep S254 hq294 (allS (own_ns_exa E260) all0)
        have S319 := own_sta_keep S255 hq294 (allS (own_ns_exa E260) all0)
        have A320 := A256.keep hq294 (ninS ne219 nin0)
        have A321 := A257.keep hq294 (ninS ne220 nin0)
        have E322 := E258.keep hq294
        have E323 := E259.keep hq294
        have E324 := E241.keep hq294
        have F325 := F242.keep hq294 (ninS ne218 nin0)
        have F326 := F243.keep hq294 (ninS ne218 nin0)
        have F327 := F244.keep hq294 (ninS ne218 nin0)
        have F328 := F245.keep hq294 (ninS ne218 nin0)
        have A329 := A246.keep hq294 (ninS (Ne.symm ne268) nin0)
        have A330 := A247.keep hq294 (ninS (Ne.symm ne272) nin0)
        have E331 := E248.keep hq294
        have E332 := E249.keep hq294
        have K284 : Keep h0 T284.heap [] := K222.trans hq294 (allS (Or.inr sz221) all0)
        have Zs333 : n0 ≤ T284.heap.size := (Nat.le_trans Zs265 hq294.1)
        have ne334 : x150 ≠ x285 := hpq297.elim (fun q => by rw [q]; exact (Ne.symm hpq164)) (fun q => Nat.ne_of_lt (Nat.lt_of_lt_of_le lt313 q))
        have ne335 : x194 ≠ x285 := hpq297.elim (fun q => by rw [q]; exact (Ne.symm ne219)) (fun q => Nat.ne_of_lt (Nat.lt_of_lt_of_le lt314 q))
        have ne336 : b126 ≠ x285 := hpq297.elim (fun q => by rw [q]; exact hpq162) (fun q => Nat.ne_of_lt (Nat.lt_of_lt_of_le lt315 q))
        have ne337 : x224 ≠ x285 := hpq297.elim (fun q => by rw [q]; exact (Ne.symm ne271)) (fun q => Nat.ne_of_lt (Nat.lt_of_lt_of_le lt317 q))
        have sz338 : h0.size ≤ x285 := hpq297.elim (fun q => by rw [q]; exact sz186) (fun q => Nat.le_trans K222.1 q)
        have ne339 : x149 ≠ x286 := hpq298.elim (fun q => by rw [q]; exact hpq164) (fun q => Nat.ne_of_lt (Nat.lt_of_lt_of_le lt312 q))
        have ne340 : x194 ≠ x286 := hpq298.elim (fun q => by rw [q]; exact (Ne.symm ne220)) (fun q => Nat.ne_of_lt (Nat.lt_of_lt_of_le lt314 q))
        have ne341 : b126 ≠ x286 := hpq298.elim (fun q => by rw [q]; exact hpq163) (fun q => Nat.ne_of_lt (Nat.lt_of_lt_of_le lt315 q))
        have ne342 : x223 ≠ x286 := hpq298.elim (fun q => by rw [q]; exact (Ne.symm ne267)) (fun q => Nat.ne_of_lt (Nat.lt_of_lt_of_le lt316 q))
        have sz343 : h0.size ≤ x286 := hpq298.elim (fun q => by rw [q]; exact sz190) (fun q => Nat.le_trans K222.1 q)
        obtain ⟨cq344, kq344, q344a, q344b, q344c⟩ := isOf hZ rfl E303
        obtain ⟨_, _, ⟨T344, L344, k344, n344⟩, -, X344, ⟨Lc344, hQ344, l344, y344, z344⟩, st344⟩ := X284.virtualBack hx (y := (⟨"org/tallyrole/core/Dependencies", "latest", "()I"⟩ : MethodName)) (z := (⟨"org/tallyrole/core/Dependencies", "latest", "()I"⟩ : MethodName)) hown (mvT hZ (own_w hw 85 rfl)) (mvT hZ (own_w hw 86 rfl)) (notFace_of_selects (args := #[]) (mvT hZ (own_w hw 88 rfl))) (mvT hZ (own_w hw 88 rfl)) (mvT hZ (own_w hw 87 rfl)) (by decide) (backOf (W := 0) (rm_lt l Z a0 hw [] x194 x285 x286 x287 x288 x289 x290 x291 x292 (own_del (own_ins (fun _ => False) yy) (own_mx (-1 : Int32) yy)) x293 T284.heap n0 Zs333 E303 F304 F305 F306 F307 A308 A309 (hpq302.elim (fun z => (Or.inr (Or.inl z))) (fun z => (z.elim (fun z => (Or.inr (Or.inr (Or.inl z)))) (fun z => (z.elim (fun z => (Or.inr (Or.inr (Or.inr (Or.inl z))))) (fun z => (z.elim (fun z => (Or.inr (Or.inr (Or.inr (Or.inr (Or.inl z)))))) (fun z => (Or.inr (Or.inr (Or.inr (Or.inr (Or.inr (Or.inl z))))))))))))))) hZ (own_w hw 89 rfl) (own_w hw 3 rfl) (by decide) (by decide)) q344a q344c (g := (mkF m 192 #[.val (.int aa), .val (.int bb), .val (.int cq), .val (.int ff), .val (.int xx), .val (.int yy), .val (.int zz), .val (.int (0 : Int32)), .val (.int (1 : Int32)), .val (.ref b126), .val (.int (own_mx (-1 : Int32) yy)), .val (.int (-1 : Int32)), .val (.ref x194), .val (.int (own_mx (own_mx (-1 : Int32) yy) zz)), .val (.int (1 : Int32)), .unset] [(.ref x194)])) rfl (by rw [hml]; rfl) (Steps.refl _) (argsL := []) (rest := []) (lenOf pd_11 rfl) rfl (by show 2 * 0 + _ ≤ _; exact Nat.le_of_eq rfl) (hb hby at_192) (fun _ _ => ⟨rfl, rfl, (by decide : 8 + 0 ≤ _), (by decide : 20 + 0 ≤ _)⟩)
        dsimp only [Pt.U, Pt.locs, Pt.cells, Pt.slots] at X344 l344 y344 z344 st344 hQ344
        subst l344 y344 z344
        obtain ⟨x345, rfl, N344q, hq346, hpq347⟩ := hQ344
        have N344 := Fr.app N284 N344q
        obtain ⟨cq348, kq348, q348a, q348b, q348c⟩ := isOf hZ hq346 E324
        obtain ⟨_, _, ⟨T348, L348, k348, n348⟩, -, X348, ⟨Lc348, hQ348, l348, y348, z348⟩, st348⟩ := X344.virtualBack hx (y := (⟨"org/tallyrole/core/Dependencies", "latest", "()I"⟩ : MethodName)) (z := (⟨"org/tallyrole/core/Dependencies", "latest", "()I"⟩ : MethodName)) hown (mvT hZ (own_w hw 85 rfl)) (mvT hZ (own_w hw 86 rfl)) (notFace_of_selects (args := #[]) (mvT hZ (own_w hw 88 rfl))) (mvT hZ (own_w hw 88 rfl)) (mvT hZ (own_w hw 87 rfl)) (by decide) (backOf (W := 0) (rm_lt l Z a0 hw [] b126 x223 x224 x225 x226 x227 x228 x229 x230 (own_ins (own_ins (fun _ => False) yy) zz) x231 T284.heap n0 Zs333 E324 F325 F326 F327 F328 A329 A330 (hpq240.elim (fun z => (Or.inr (Or.inr (Or.inl z)))) (fun z => (z.elim (fun z => (Or.inr (Or.inr (Or.inr (Or.inr (Or.inl z)))))) (fun z => (z.elim (fun z => (Or.inr (Or.inr (Or.inr (Or.inr (Or.inr (Or.inl z))))))) (fun z => (Or.inr (Or.inr (Or.inr (Or.inr (Or.inr (Or.inr z))))))))))))) hZ (own_w hw 89 rfl) (own_w hw 3 rfl) (by decide) (by decide)) q348a q348c (g := (mkF m 202 #[.val (.int aa), .val (.int bb), .val (.int cq), .val (.int ff), .val (.int xx), .val (.int yy), .val (.int zz), .val (.int (0 : Int32)), .val (.int (1 : Int32)), .val (.ref b126), .val (.int (own_mx (-1 : Int32) yy)), .val (.int (-1 : Int32)), .val (.ref x194), .val (.int (own_mx (own_mx (-1 : Int32) yy) zz)), .val (.int (1 : Int32)), .unset] [(.ref b126)])) rfl (by rw [hml]; rfl) (Steps.refl _) (argsL := []) (rest := []) (lenOf pd_11 rfl) rfl (by show 2 * 0 + _ ≤ _; exact Nat.le_of_eq rfl) (hb hby at_202) (fun _ _ => ⟨rfl, hq346, (by decide : 8 + 0 ≤ _), (by decide : 20 + 0 ≤ _)⟩)
        dsimp only [Pt.U, Pt.locs, Pt.cells, Pt.slots] at X348 l348 y348 z348 st348 hQ348
        subst l348 y348 z348
        obtain ⟨x349, rfl, N348q, hq350, hpq351⟩ := hQ348
        have N348 := Fr.app N344 N348q
        have pre352 := fun (t : State) (k : Steps p.tables e below (T348.setTop (mkF m 232 #[.val (.int aa), .val (.int bb), .val (.int cq), .val (.int ff), .val (.int xx), .val (.int yy), .val (.int zz), .val (.int (0 : Int32)), .val (.int (1 : Int32)), .val (.ref b126), .val (.int (own_mx (-1 : Int32) yy)), .val (.int (-1 : Int32)), .val (.ref x194), .val (.int (own_mx (own_mx (-1 : Int32) yy) zz)), .val (.int (1 : Int32)), .val (.int (1 : Int32))] [(.int (1 : Int32))])) t) => pre3 t (by
          refine XS.ifNo X_t18.here hx rfl (hb hby at_34) rfl ((if0 _ _).trans (feq hc4).1) ?_
          refine XS.iconst X_t18.here hx rfl (hb hby at_37) ?_
          refine XS.goto X_t18.here hx rfl (pc0 := 38) (pc' := 42) rfl (hb hby at_38) (by decide) (by decide) ?_
          refine XS.istore X_t18.here hx rfl (hb hby at_42) rfl (l' := #[.val (.int aa), .val (.int bb), .val (.int cq), .val (.int ff), .val (.int xx), .val (.int yy), .val (.int zz), .val (.int (0 : Int32)), .val (.int (1 : Int32)), .unset, .unset, .unset, .unset, .unset, .unset, .unset]) rfl ?_
          refine st126 _ ?_
          refine XS.dup X126.here hx rfl (hb hby at_47) rfl rfl ?_
          refine st136.trans ?_
          refine XS.astore X136.here hx rfl (hb hby at_51) rfl rfl (l' := #[.val (.int aa), .val (.int bb), .val (.int cq), .val (.int ff), .val (.int xx), .val (.int yy), .val (.int zz), .val (.int (0 : Int32)), .val (.int (1 : Int32)), .val (.ref b126), .unset, .unset, .unset, .unset, .unset, .unset]) rfl ?_
          refine XS.iload X136.here hx rfl (hb hby at_53) rfl ?_
          refine XS.ifYes X136.here hx rfl (pc0 := 55) (pc' := 65) rfl (hb hby at_55) rfl ((if0 _ _).trans (teq (by decide : (0 : Int32) = (0 : Int32))).1) (by decide) (by decide) ?_
          refine XS.iload X136.here hx rfl (hb hby at_65) rfl ?_
          refine XS.ifNo X136.here hx rfl (hb hby at_67) rfl ((if0 _ _).trans (feq (by decide : ¬ ((1 : Int32) = (0 : Int32)))).1) ?_
          refine XS.aload X136.here hx rfl (hb hby at_70) rfl rfl ?_
          refine XS.iload X136.here hx rfl (hb hby at_72) rfl ?_
          refine st148.trans ?_
          refine XS.iconst X148.here hx rfl (hb hby at_77) ?_
          refine XS.istore X148.here hx rfl (hb hby at_78) rfl (l' := #[.val (.int aa), .val (.int bb), .val (.int cq), .val (.int ff), .val (.int xx), .val (.int yy), .val (.int zz), .val (.int (0 : Int32)), .val (.int (1 : Int32)), .val (.ref b126), .val (.int (-1 : Int32)), .unset, .unset, .unset, .unset, .unset]) rfl ?_
          refine XS.iload X148.here hx rfl (hb hby at_80) rfl ?_
          refine XS.ifYes X148.here hx rfl (pc0 := 82) (pc' := 89) rfl (hb hby at_82) rfl ((if0 _ _).trans (teq (by decide : (0 : Int32) = (0 : Int32))).1) (by decide) (by decide) ?_
          refine XS.iload X148.here hx rfl (hb hby at_89) rfl ?_
          refine XS.ifNo X148.here hx rfl (hb hby at_91) rfl ((if0 _ _).trans (feq (by decide : ¬ ((1 : Int32) = (0 : Int32)))).1) ?_
          refine XS.iload X148.here hx rfl (hb hby at_94) rfl ?_
          refine XS.iload X148.here hx rfl (hb hby at_96) rfl ?_
          refine st191 _ ?_
          refine XS.istore X191.here hx rfl (hb hby at_101) rfl (l' := #[.val (.int aa), .val (.int bb), .val (.int cq), .val (.int ff), .val (.int xx), .val (.int yy), .val (.int zz), .val (.int (0 : Int32)), .val (.int (1 : Int32)), .val (.ref b126), .val (.int (own_mx (-1 : Int32) yy)), .unset, .unset, .unset, .unset, .unset]) rfl ?_
          refine XS.iload X191.here hx rfl (hb hby at_103) rfl ?_
          refine XS.ifYes X191.here hx rfl (pc0 := 105) (pc' := 130) rfl (hb hby at_105) rfl ((if0 _ _).trans (teq (by decide : (0 : Int32) = (0 : Int32))).1) (by decide) (by decide) ?_
          refine XS.iconst X191.here hx rfl (hb hby at_130) ?_
          refine XS.istore X191.here hx rfl (hb hby at_131) rfl (l' := #[.val (.int aa), .val (.int bb), .val (.int cq), .val (.int ff), .val (.int xx), .val (.int yy), .val (.int zz), .val (.int (0 : Int32)), .val (.int (1 : Int32)), .val (.ref b126), .val (.int (own_mx (-1 : Int32) yy)), .val (.int (-1 : Int32)), .unset, .unset, .unset, .unset]) rfl ?_
          refine XS.aload X191.here hx rfl (hb hby at_133) rfl rfl ?_
          refine st193.trans ?_
          refine XS.astore X193.here hx rfl (hb hby at_138) rfl rfl (l' := #[.val (.int aa), .val (.int bb), .val (.int cq), .val (.int ff), .val (.int xx), .val (.int yy), .val (.int zz), .val (.int (0 : Int32)), .val (.int (1 : Int32)), .val (.ref b126), .val (.int (own_mx (-1 : Int32) yy)), .val (.int (-1 : Int32)), .val (.ref x194), .unset, .unset, .unset]) rfl ?_
          refine XS.aload X193.here hx rfl (hb hby at_140) rfl rfl ?_
          refine XS.iload X193.here hx rfl (hb hby at_142) rfl ?_
          refine st222.trans ?_
          refine XS.iload X222.here hx rfl (hb hby at_147) rfl ?_
          refine XS.iload X222.here hx rfl (hb hby at_149) rfl ?_
          refine st274 _ ?_
          refine XS.istore X274.here hx rfl (hb hby at_154) rfl (l' := #[.val (.int aa), .val (.int bb), .val (.int cq), .val (.int ff), .val (.int xx), .val (.int yy), .val (.int zz), .val (.int (0 : Int32)), .val (.int (1 : Int32)), .val (.ref b126), .val (.int (own_mx (-1 : Int32) yy)), .val (.int (-1 : Int32)), .val (.ref x194), .val (.int (own_mx (own_mx (-1 : Int32) yy) zz)), .unset, .unset]) rfl ?_
          refine XS.aload X274.here hx rfl (hb hby at_156) rfl rfl ?_
          refine st276.trans ?_
          refine XS.iload X276.here hx rfl (hb hby at_161) rfl ?_
          refine XS.icmpNo X276.here hx rfl (hb hby at_163) rfl (teq (own_top_uniq hpq279 (own_top_mx own_top_e t18_1))).2 ?_
          refine XS.aload X276.here hx rfl (hb hby at_166) rfl rfl ?_
          refine st280.trans ?_
          refine XS.iload X280.here hx rfl (hb hby at_171) rfl ?_
          refine XS.icmpNo X280.here hx rfl (hb hby at_173) rfl (teq (own_top_uniq hpq283 (own_top_mx (own_top_mx own_top_e t18_1) t18_2))).2 ?_
          refine XS.iconst X280.here hx rfl (hb hby at_176) ?_
          refine XS.goto X280.here hx rfl (pc0 := 177) (pc' := 181) rfl (hb hby at_177) (by decide) (by decide) ?_
          refine XS.istore X280.here hx rfl (hb hby at_181) rfl (l' := #[.val (.int aa), .val (.int bb), .val (.int cq), .val (.int ff), .val (.int xx), .val (.int yy), .val (.int zz), .val (.int (0 : Int32)), .val (.int (1 : Int32)), .val (.ref b126), .val (.int (own_mx (-1 : Int32) yy)), .val (.int (-1 : Int32)), .val (.ref x194), .val (.int (own_mx (own_mx (-1 : Int32) yy) zz)), .val (.int (1 : Int32)), .unset]) rfl ?_
          refine XS.aload X280.here hx rfl (hb hby at_183) rfl rfl ?_
          refine XS.iload X280.here hx rfl (hb hby at_185) rfl ?_
          refine st284.trans ?_
          refine XS.aload X284.here hx rfl (hb hby at_190) rfl rfl ?_
          refine st344.trans ?_
          refine XS.iload X344.here hx rfl (hb hby at_195) rfl ?_
          refine XS.icmpNo X344.here hx rfl (hb hby at_197) rfl (teq (own_top_uniq hpq347 (own_sec_m t18_1))).2 ?_
          refine XS.aload X344.here hx rfl (hb hby at_200) rfl rfl ?_
          refine st348.trans ?_
          refine XS.iload X348.here hx rfl (hb hby at_205) rfl ?_
          refine XS.icmpNo X348.here hx rfl (hb hby at_207) rfl (teq (own_top_uniq hpq351 (own_top_mx (own_top_mx own_top_e t18_1) t18_2))).2 ?_
          refine XS.iconst X348.here hx rfl (hb hby at_210) ?_
          refine XS.goto X348.here hx rfl (pc0 := 211) (pc' := 215) rfl (hb hby at_211) (by decide) (by decide) ?_
          refine XS.istore X348.here hx rfl (hb hby at_215) rfl (l' := #[.val (.int aa), .val (.int bb), .val (.int cq), .val (.int ff), .val (.int xx), .val (.int yy), .val (.int zz), .val (.int (0 : Int32)), .val (.int (1 : Int32)), .val (.ref b126), .val (.int (own_mx (-1 : Int32) yy)), .val (.int (-1 : Int32)), .val (.ref x194), .val (.int (own_mx (own_mx (-1 : Int32) yy) zz)), .val (.int (1 : Int32)), .val (.int (1 : Int32))]) rfl ?_
          refine XS.iload X348.here hx rfl (hb hby at_217) rfl ?_
          refine XS.ifNo X348.here hx rfl (hb hby at_219) rfl ((if0 _ _).trans (feq (by decide : ¬ ((1 : Int32) = (0 : Int32)))).1) ?_
          refine XS.iload X348.here hx rfl (hb hby at_222) rfl ?_
          refine XS.ifNo X348.here hx rfl (hb hby at_224) rfl ((if0 _ _).trans (feq (by decide : ¬ ((1 : Int32) = (0 : Int32)))).1) ?_
          refine XS.iconst X348.here hx rfl (hb hby at_227) ?_
          refine XS.goto X348.here hx rfl (pc0 := 228) (pc' := 232) rfl (hb hby at_228) (by decide) (by decide) ?_
          exact k)
        obtain ⟨fs, hr, hrun, hended, hW, hsame⟩ := X348.leave (v := some (.int (1 : Int32))) (hlocks := BodyLoose.notSynchronized Bd) (fun h => by rw [Bd.returns] at h; cases h)
        refine ⟨_, _, pre352 _ ?_, hrun, hended, _, _, rfl, ?_, ⟨_, rfl⟩, hW, hsame.mono (by decide) (by decide)⟩
        · exact retN X348 hx (t := .boolean) Bd.returns (by simp) (hb hby at_232) hr
        · show Q_law Z aa bb cq ff ka wa kk kw h0 n0 _ T348.heap _
          rw [hq350]
          exact ⟨rfl, N348, K284⟩
    · have pre353 := fun (t : State) (k : Steps p.tables e below (T_t18.setTop (mkF m 34 #[.val (.int aa), .val (.int bb), .val (.int cq), .val (.int ff), .val (.int xx), .val (.int yy), .val (.int zz), .val (.int (1 : Int32)), .unset, .unset, .unset, .unset, .unset, .unset, .unset, .unset] [(.int (ff &&& (2 : Int32)))])) t) => pre1 t (by
        refine XS.ifNo X_t18.here hx rfl (hb hby at_21) rfl ((if0 _ _).trans (feq hc2).1) ?_
        refine XS.iconst X_t18.here hx rfl (hb hby at_24) ?_
        refine XS.goto X_t18.here hx rfl (pc0 := 25) (pc' := 29) rfl (hb hby at_25) (by decide) (by decide) ?_
        refine XS.istore X_t18.here hx rfl (hb hby at_29) rfl (l' := #[.val (.int aa), .val (.int bb), .val (.int cq), .val (.int ff), .val (.int xx), .val (.int yy), .val (.int zz), .val (.int (1 : Int32)), .unset, .unset, .unset, .unset, .unset, .unset, .unset, .unset]) rfl ?_
        refine XS.iloadN X_t18.here hx rfl (hb hby at_31) rfl ?_
        refine XS.iconst X_t18.here hx rfl (hb hby at_32) ?_
        refine XS.iand X_t18.here hx rfl (hb hby at_33) rfl ?_
        exact k)
      by_cases hc354 : (ff &&& (2 : Int32)) = (0 : Int32)
      · obtain ⟨T355, h355, X355, e355, E355, A355, D355, -, st355⟩ := newO X_t18 hx hZ hown (own_w hw 1 rfl) (own_w hw 2 rfl) (own_w hw 3 rfl) e_t18 (g := (mkF m 44 #[.val (.int aa), .val (.int bb), .val (.int cq), .val (.int ff), .val (.int xx), .val (.int yy), .val (.int zz), .val (.int (1 : Int32)), .val (.int (0 : Int32)), .unset, .unset, .unset, .unset, .unset, .unset, .unset] [])) rfl (hb hby at_44) (by decide) (by decide)
        obtain ⟨b355, g355⟩ : ∃ z, z = h0.size := ⟨_, rfl⟩
        have ne_ka_b355 : ka ≠ b355 := Nat.ne_of_lt (Nat.lt_of_lt_of_le H2_A.lt (Nat.le_of_eq g355.symm))
        have ne_wa_b355 : wa ≠ b355 := Nat.ne_of_lt (Nat.lt_of_lt_of_le H3_A.lt (Nat.le_of_eq g355.symm))
        have ge_b355 : n0 ≤ b355 := Nat.le_trans Z0 (Nat.le_of_eq g355.symm)
        have sz_b355 : h0.size ≤ b355 := Nat.le_trans K0.1 (Nat.le_of_eq g355.symm)
        rw [← g355] at A355 D355 st355
        have S356 := H0_S.ext E355
        have S357 := H1_S.ext E355
        have A358 := H2_A.ext E355
        have A359 := H3_A.ext E355
        have K355 : Keep h0 h355 [] := K0.ext E355
        have Zs360 : n0 ≤ h355.size := (Nat.le_trans Z0 E355.1)
        have F361 : Fld Z h355 b355 "org/tallyrole/core/Dependencies" "keys" "[I" .null := D355 (Or.inl (own_w hw 13 rfl)) (ty := (.array .int)) (by decide)
        have F362 : Fld Z h355 b355 "org/tallyrole/core/Dependencies" "words" "[J" .null := D355 (Or.inl (own_w hw 17 rfl)) (ty := (.array .long)) (by decide)
        have F363 : Fld Z h355 b355 "org/tallyrole/core/Dependencies" "size" "I" (.int (0 : Int32)) := D355 (Or.inl (own_w hw 24 rfl)) (ty := .int) (by decide)
        have F364 : Fld Z h355 b355 "org/tallyrole/core/Dependencies" "shared" "Z" (.int (0 : Int32)) := D355 (Or.inl (own_w hw 40 rfl)) (ty := .boolean) (by decide)
        obtain ⟨_, _, ⟨T365, L365, k365, n365⟩, -, X365, ⟨Lc365, hQ365, l365, y365, z365⟩, st365⟩ := X355.specialBack hx (y := (⟨"org/tallyrole/core/Dependencies", "<init>", "()V"⟩ : MethodName)) rfl hown (mvT hZ (own_w hw 4 rfl)) (mvT hZ (own_w hw 5 rfl)) (mvT hZ (own_w hw 6 rfl)) (by decide) (backOf (W := 1) (rm_ini l Z a0 hw [] b355 ka wa h355 n0 Zs360 A355 F361 F362 F363 F364 S356 S357 ge_b355) hZ (own_w hw 6 rfl) (own_w hw 3 rfl) (by decide) (by decide)) (g := (mkF m 48 #[.val (.int aa), .val (.int bb), .val (.int cq), .val (.int ff), .val (.int xx), .val (.int yy), .val (.int zz), .val (.int (1 : Int32)), .val (.int (0 : Int32)), .unset, .unset, .unset, .unset, .unset, .unset, .unset] [(.ref b355), (.ref b355)])) rfl (by rw [hml]; rfl) (Steps.refl _) (a := b355) (argsL := []) (rest := [(.ref b355)]) (lenOf pd_9 rfl) rfl (by show 2 * 0 + _ ≤ _; exact Nat.le_of_eq rfl) (hb hby at_48) (fun _ _ => ⟨rfl, e355, (by decide : 1 + 0 ≤ _), (by decide : 4 + 0 ≤ _)⟩)
        dsimp only [Pt.U, Pt.locs, Pt.cells, Pt.slots] at X365 l365 y365 z365 st365 hQ365
        subst l365 y365 z365
        obtain ⟨rfl, N365q, hq366, F367, F368, F369, F370⟩ := hQ365
        have N365 := Fr.app N_t18 N365q
        have S371 := own_sta_keep S356 hq366 (allS (own_ns_exa A355) all0)
        have S372 := own_sta_keep S357 hq366 (allS (own_ns_exa A355) all0)
        have A373 := A358.keep hq366 (ninS ne_ka_b355 nin0)
        have A374 := A359.keep hq366 (ninS ne_wa_b355 nin0)
        have E375 := A355.keep hq366
        have K365 : Keep h0 T365.heap [] := K355.trans hq366 (allS (Or.inr sz_b355) all0)
        have Zs376 : n0 ≤ T365.heap.size := (Nat.le_trans Zs360 hq366.1)
        obtain ⟨cq377, kq377, q377a, q377b, q377c⟩ := isOf hZ rfl E375
        obtain ⟨_, _, ⟨T377, L377, k377, n377⟩, -, X377, ⟨Lc377, hQ377, l377, y377, z377⟩, st377⟩ := X365.virtualBack hx (y := (⟨"org/tallyrole/core/Dependencies", "add", "(I)V"⟩ : MethodName)) (z := (⟨"org/tallyrole/core/Dependencies", "add", "(I)V"⟩ : MethodName)) hown (mvT hZ (own_w hw 18 rfl)) (mvT hZ (own_w hw 19 rfl)) (notFace_of_selects (args := #[]) (mvT hZ (own_w hw 21 rfl))) (mvT hZ (own_w hw 21 rfl)) (mvT hZ (own_w hw 20 rfl)) (by decide) (backOf (W := 0) (rm_aE l Z a0 hw [] b355 ka wa kk kw (fun _ => False) xx T365.heap n0 Zs376 E375 F367 F368 F369 F370 A373 A374 (fun _ q => q) ge_b355 (Ne.symm ne_ka_b355) (Ne.symm ne_wa_b355) t18_0) hZ (own_w hw 22 rfl) (own_w hw 3 rfl) (by decide) (by decide)) q377a q377c (g := (mkF m 62 #[.val (.int aa), .val (.int bb), .val (.int cq), .val (.int ff), .val (.int xx), .val (.int yy), .val (.int zz), .val (.int (1 : Int32)), .val (.int (0 : Int32)), .val (.ref b355), .unset, .unset, .unset, .unset, .unset, .unset] [(.int xx), (.ref b355)])) rfl (by rw [hml]; rfl) (Steps.refl _) (argsL := [(.int xx)]) (rest := []) (lenOf pd_7 rfl) rfl (by show 2 * 0 + _ ≤ _; exact Nat.le_of_eq rfl) (hb hby at_62) (fun _ _ => ⟨rfl, rfl, (by decide : 1 + 2 ≤ _), (by decide : 4 + 2 ≤ _)⟩)
        dsimp only [Pt.U, Pt.locs, Pt.cells, Pt.slots] at X377 l377 y377 z377 st377 hQ377
        subst l377 y377 z377
        obtain ⟨x378, x379, x380, x381, x382, x383, x384, x385, rfl, N377q, hq386, hpq387, hpq388, hpq389, hpq390, hpq391, hpq392, hpq393, hpq394, E395, F396, F397, F398, F399, A400, A401, E402, E403⟩ := hQ377
        have N377 := Fr.app N365 N377q
        have lt404 : ka < T365.heap.size := A373.lt
        have lt405 : wa < T365.heap.size := A374.lt
        have lt406 : b355 < T365.heap.size := E375.lt
        have S407 := own_sta_keep S371 hq386 (allS (own_ns_exa E375) all0)
        have S408 := own_sta_keep S372 hq386 (allS (own_ns_exa E375) all0)
        have A409 := A373.keep hq386 (ninS ne_ka_b355 nin0)
        have A410 := A374.keep hq386 (ninS ne_wa_b355 nin0)
        have K377 : Keep h0 T377.heap [] := K365.trans hq386 (allS (Or.inr sz_b355) all0)
        have Zs411 : n0 ≤ T377.heap.size := (Nat.le_trans Zs376 hq386.1)
        have ne412 : ka ≠ x378 := Nat.ne_of_lt (Nat.lt_of_lt_of_le lt404 hpq388)
        have ne413 : wa ≠ x378 := Nat.ne_of_lt (Nat.lt_of_lt_of_le lt405 hpq388)
        have ne414 : b355 ≠ x378 := Nat.ne_of_lt (Nat.lt_of_lt_of_le lt406 hpq388)
        have sz415 : h0.size ≤ x378 := Nat.le_trans K365.1 hpq388
        have ne416 : ka ≠ x379 := Nat.ne_of_lt (Nat.lt_of_lt_of_le lt404 hpq390)
        have ne417 : wa ≠ x379 := Nat.ne_of_lt (Nat.lt_of_lt_of_le lt405 hpq390)
        have ne418 : b355 ≠ x379 := Nat.ne_of_lt (Nat.lt_of_lt_of_le lt406 hpq390)
        have sz419 : h0.size ≤ x379 := Nat.le_trans K365.1 hpq390
        obtain ⟨cq420, kq420, q420a, q420b, q420c⟩ := isOf hZ rfl E395
        obtain ⟨_, _, ⟨T420, L420, k420, n420⟩, -, X420, ⟨Lc420, hQ420, l420, y420, z420⟩, st420⟩ := X377.virtualBack hx (y := (⟨"org/tallyrole/core/Dependencies", "copy", "()Lorg/tallyrole/core/Dependencies;"⟩ : MethodName)) (z := (⟨"org/tallyrole/core/Dependencies", "copy", "()Lorg/tallyrole/core/Dependencies;"⟩ : MethodName)) hown (mvT hZ (own_w hw 58 rfl)) (mvT hZ (own_w hw 59 rfl)) (notFace_of_selects (args := #[]) (mvT hZ (own_w hw 61 rfl))) (mvT hZ (own_w hw 61 rfl)) (mvT hZ (own_w hw 60 rfl)) (by decide) (backOf (W := 0) (rm_cyN l Z a0 hw [] b355 x378 x379 x383 (0 : Int32) T377.heap n0 Zs411 E395 F396 F397 F398 F399 ge_b355 (own_nz (Or.inl hpq394))) hZ (own_w hw 62 rfl) (own_w hw 3 rfl) (by decide) (by decide)) q420a q420c (g := (mkF m 135 #[.val (.int aa), .val (.int bb), .val (.int cq), .val (.int ff), .val (.int xx), .val (.int yy), .val (.int zz), .val (.int (1 : Int32)), .val (.int (0 : Int32)), .val (.ref b355), .val (.int xx), .val (.int (-1 : Int32)), .unset, .unset, .unset, .unset] [(.ref b355)])) rfl (by rw [hml]; rfl) (Steps.refl _) (argsL := []) (rest := []) (lenOf pd_10 rfl) rfl (by show 2 * 0 + _ ≤ _; exact Nat.le_of_eq rfl) (hb hby at_135) (fun _ _ => ⟨rfl, rfl, (by decide : 3 + 1 ≤ _), (by decide : 6 + 4 ≤ _)⟩)
        dsimp only [Pt.U, Pt.locs, Pt.cells, Pt.slots] at X420 l420 y420 z420 st420 hQ420
        subst l420 y420 z420
        obtain ⟨x421, rfl, N420q, hq422, hpq423, hpq424, F425, F426, F427, F428, E429, F430, F431, F432, F433⟩ := hQ420
        have N420 := Fr.app N377 N420q
        have lt434 : b355 < T377.heap.size := E395.lt
        have lt435 : x378 < T377.heap.size := A400.lt
        have lt436 : x379 < T377.heap.size := A401.lt
        have S437 := own_sta_keep S407 hq422 (allS (own_ns_exa E395) all0)
        have S438 := own_sta_keep S408 hq422 (allS (own_ns_exa E395) all0)
        have E439 := E395.keep hq422
        have A440 := A400.keep hq422 (ninS (Ne.symm hpq391) nin0)
        have A441 := A401.keep hq422 (ninS (Ne.symm hpq392) nin0)
        have E442 := E402.keep hq422
        have E443 := E403.keep hq422
        have K420 : Keep h0 T420.heap [] := K377.trans hq422 (allS (Or.inr sz_b355) all0)
        have Zs444 : n0 ≤ T420.heap.size := (Nat.le_trans Zs411 hq422.1)
        have ne445 : b355 ≠ x421 := Nat.ne_of_lt (Nat.lt_of_lt_of_le lt434 hpq424)
        have ne446 : x378 ≠ x421 := Nat.ne_of_lt (Nat.lt_of_lt_of_le lt435 hpq424)
        have ne447 : x379 ≠ x421 := Nat.ne_of_lt (Nat.lt_of_lt_of_le lt436 hpq424)
        have sz448 : h0.size ≤ x421 := Nat.le_trans K377.1 hpq424
        obtain ⟨cq449, kq449, q449a, q449b, q449c⟩ := isOf hZ rfl E439
        obtain ⟨_, _, ⟨T449, L449, k449, n449⟩, -, X449, ⟨Lc449, hQ449, l449, y449, z449⟩, st449⟩ := X420.virtualBack hx (y := (⟨"org/tallyrole/core/Dependencies", "add", "(I)V"⟩ : MethodName)) (z := (⟨"org/tallyrole/core/Dependencies", "add", "(I)V"⟩ : MethodName)) hown (mvT hZ (own_w hw 18 rfl)) (mvT hZ (own_w hw 19 rfl)) (notFace_of_selects (args := #[]) (mvT hZ (own_w hw 21 rfl))) (mvT hZ (own_w hw 21 rfl)) (mvT hZ (own_w hw 20 rfl)) (by decide) (backOf (W := 0) (rm_adS l Z a0 hw [] b355 x378 x379 x380 x381 x382 x383 x384 x385 (own_ins (fun _ => False) xx) zz T420.heap n0 Zs444 E439 F425 F426 F427 F428 A440 A441 E442 E443 (Or.inl hpq394) ge_b355 hpq387 hpq389 hpq391 hpq392 hpq393 t18_2) hZ (own_w hw 22 rfl) (own_w hw 3 rfl) (by decide) (by decide)) q449a q449c (g := (mkF m 144 #[.val (.int aa), .val (.int bb), .val (.int cq), .val (.int ff), .val (.int xx), .val (.int yy), .val (.int zz), .val (.int (1 : Int32)), .val (.int (0 : Int32)), .val (.ref b355), .val (.int xx), .val (.int (-1 : Int32)), .val (.ref x421), .unset, .unset, .unset] [(.int zz), (.ref b355)])) rfl (by rw [hml]; rfl) (Steps.refl _) (argsL := [(.int zz)]) (rest := []) (lenOf pd_7 rfl) rfl (by show 2 * 0 + _ ≤ _; exact Nat.le_of_eq rfl) (hb hby at_144) (fun _ _ => ⟨rfl, rfl, (by decide : 4 + 2 ≤ _), (by decide : 10 + 6 ≤ _)⟩)
        dsimp only [Pt.U, Pt.locs, Pt.cells, Pt.slots] at X449 l449 y449 z449 st449 hQ449
        subst l449 y449 z449
        obtain ⟨x450, x451, x452, x453, x454, x455, x456, x457, x458, rfl, N449q, hq459, hpq460, hpq461, hpq462, hpq463, hpq464, hpq465, hpq466, hpq467, E468, F469, F470, F471, F472, A473, A474, E475, E476⟩ := hQ449
        have N449 := Fr.app N420 N449q
        have lt477 : b355 < T420.heap.size := E439.lt
        have lt478 : x378 < T420.heap.size := A440.lt
        have lt479 : x379 < T420.heap.size := A441.lt
        have lt480 : x421 < T420.heap.size := E429.lt
        have S481 := own_sta_keep S437 hq459 (allS (own_ns_exa E439) all0)
        have S482 := own_sta_keep S438 hq459 (allS (own_ns_exa E439) all0)
        have A483 := A440.keep hq459 (ninS (Ne.symm hpq391) nin0)
        have A484 := A441.keep hq459 (ninS (Ne.symm hpq392) nin0)
        have E485 := E442.keep hq459
        have E486 := E443.keep hq459
        have E487 := E429.keep hq459
        have F488 := F430.keep hq459 (ninS (Ne.symm ne445) nin0)
        have F489 := F431.keep hq459 (ninS (Ne.symm ne445) nin0)
        have F490 := F432.keep hq459 (ninS (Ne.symm ne445) nin0)
        have F491 := F433.keep hq459 (ninS (Ne.symm ne445) nin0)
        have K449 : Keep h0 T449.heap [] := K420.trans hq459 (allS (Or.inr sz_b355) all0)
        have Zs492 : n0 ≤ T449.heap.size := (Nat.le_trans Zs444 hq459.1)
        have ne493 : b355 ≠ x450 := hpq462.elim (fun q => by rw [q]; exact hpq391) (fun q => Nat.ne_of_lt (Nat.lt_of_lt_of_le lt477 q))
        have ne494 : x379 ≠ x450 := hpq462.elim (fun q => by rw [q]; exact (Ne.symm hpq393)) (fun q => Nat.ne_of_lt (Nat.lt_of_lt_of_le lt479 q))
        have ne495 : x421 ≠ x450 := hpq462.elim (fun q => by rw [q]; exact (Ne.symm ne446)) (fun q => Nat.ne_of_lt (Nat.lt_of_lt_of_le lt480 q))
        have sz496 : h0.size ≤ x450 := hpq462.elim (fun q => by rw [q]; exact sz415) (fun q => Nat.le_trans K420.1 q)
        have ne497 : b355 ≠ x451 := hpq463.elim (fun q => by rw [q]; exact hpq392) (fun q => Nat.ne_of_lt (Nat.lt_of_lt_of_le lt477 q))
        have ne498 : x378 ≠ x451 := hpq463.elim (fun q => by rw [q]; exact hpq393) (fun q => Nat.ne_of_lt (Nat.lt_of_lt_of_le lt478 q))
        have ne499 : x421 ≠ x451 := hpq463.elim (fun q => by rw [q]; exact (Ne.symm ne447)) (fun q => Nat.ne_of_lt (Nat.lt_of_lt_of_le lt480 q))
        have sz500 : h0.size ≤ x451 := hpq463.elim (fun q => by rw [q]; exact sz419) (fun q => Nat.le_trans K420.1 q)
        obtain ⟨_, _, ⟨T501, L501, k501, n501⟩, -, X501, ⟨Lc501, hQ501, l501, y501, z501⟩, st501⟩ := Jvm.LawKit.callS X449 hx (y := (⟨"java/lang/Math", "max", "(II)I"⟩ : MethodName)) hown (mvT hZ (own_w hw 82 rfl)) (mvT hZ (own_w hw 83 rfl)) (mvT hZ (own_w hw 47 rfl)) (mvT hZ (own_w hw 84 rfl)) (by decide) (backOf (W := 0) (rm_mx l Z a0 hw [] xx zz T449.heap n0 Zs492 ) hZ (own_w hw 84 rfl) (own_w hw 47 rfl) (by decide) (by decide)) (g := (mkF m 151 #[.val (.int aa), .val (.int bb), .val (.int cq), .val (.int ff), .val (.int xx), .val (.int yy), .val (.int zz), .val (.int (1 : Int32)), .val (.int (0 : Int32)), .val (.ref b355), .val (.int xx), .val (.int (-1 : Int32)), .val (.ref x421), .unset, .unset, .unset] [(.int zz), (.int xx)])) rfl (by rw [hml]; rfl) (argsL := [(.int xx), (.int zz)]) (rest := []) (lenOf pd_2 rfl) rfl (by show 2 * 0 + _ ≤ _; exact Nat.le_of_eq rfl) (hb hby at_151) (fun _ _ => ⟨rfl, rfl, (by decide : 6 + 0 ≤ _), (by decide : 16 + 0 ≤ _)⟩)
        dsimp only [Pt.U, Pt.locs, Pt.cells, Pt.slots] at X501 l501 y501 z501 st501 hQ501
        subst l501 y501 z501
        obtain ⟨rfl, N501q, hq502⟩ := hQ501
        have N501 := Fr.app N449 N501q
        obtain ⟨cq503, kq503, q503a, q503b, q503c⟩ := isOf hZ hq502 E487
        obtain ⟨_, _, ⟨T503, L503, k503, n503⟩, -, X503, ⟨Lc503, hQ503, l503, y503, z503⟩, st503⟩ := X501.virtualBack hx (y := (⟨"org/tallyrole/core/Dependencies", "latest", "()I"⟩ : MethodName)) (z := (⟨"org/tallyrole/core/Dependencies", "latest", "()I"⟩ : MethodName)) hown (mvT hZ (own_w hw 85 rfl)) (mvT hZ (own_w hw 86 rfl)) (notFace_of_selects (args := #[]) (mvT hZ (own_w hw 88 rfl))) (mvT hZ (own_w hw 88 rfl)) (mvT hZ (own_w hw 87 rfl)) (by decide) (backOf (W := 0) (rm_lt l Z a0 hw [] x421 x378 x379 x380 x381 x382 x383 x384 x385 (own_ins (fun _ => False) xx) (1 : Int32) T449.heap n0 Zs492 E487 F488 F489 F490 F491 A483 A484 (Or.inr (Or.inr (Or.inl hpq394)))) hZ (own_w hw 89 rfl) (own_w hw 3 rfl) (by decide) (by decide)) q503a q503c (g := (mkF m 158 #[.val (.int aa), .val (.int bb), .val (.int cq), .val (.int ff), .val (.int xx), .val (.int yy), .val (.int zz), .val (.int (1 : Int32)), .val (.int (0 : Int32)), .val (.ref b355), .val (.int xx), .val (.int (-1 : Int32)), .val (.ref x421), .val (.int (own_mx xx zz)), .unset, .unset] [(.ref x421)])) rfl (by rw [hml]; rfl) (Steps.refl _) (argsL := []) (rest := []) (lenOf pd_11 rfl) rfl (by show 2 * 0 + _ ≤ _; exact Nat.le_of_eq rfl) (hb hby at_158) (fun _ _ => ⟨rfl, hq502, (by decide : 6 + 0 ≤ _), (by decide : 16 + 0 ≤ _)⟩)
        dsimp only [Pt.U, Pt.locs, Pt.cells, Pt.slots] at X503 l503 y503 z503 st503 hQ503
        subst l503 y503 z503
        obtain ⟨x504, rfl, N503q, hq505, hpq506⟩ := hQ503
        have N503 := Fr.app N501 N503q
        obtain ⟨cq507, kq507, q507a, q507b, q507c⟩ := isOf hZ hq505 E468
        obtain ⟨_, _, ⟨T507, L507, k507, n507⟩, -, X507, ⟨Lc507, hQ507, l507, y507, z507⟩, st507⟩ := X503.virtualBack hx (y := (⟨"org/tallyrole/core/Dependencies", "latest", "()I"⟩ : MethodName)) (z := (⟨"org/tallyrole/core/Dependencies", "latest", "()I"⟩ : MethodName)) hown (mvT hZ (own_w hw 85 rfl)) (mvT hZ (own_w hw 86 rfl)) (notFace_of_selects (args := #[]) (mvT hZ (own_w hw 88 rfl))) (mvT hZ (own_w hw 88 rfl)) (mvT hZ (own_w hw 87 rfl)) (by decide) (backOf (W := 0) (rm_lt l Z a0 hw [] b355 x450 x451 x452 x453 x454 x455 x456 x457 (own_ins (own_ins (fun _ => False) xx) zz) x458 T449.heap n0 Zs492 E468 F469 F470 F471 F472 A473 A474 (hpq467.elim (fun z => (Or.inr (Or.inr (Or.inl z)))) (fun z => (z.elim (fun z => (Or.inr (Or.inr (Or.inr (Or.inr (Or.inl z)))))) (fun z => (z.elim (fun z => (Or.inr (Or.inr (Or.inr (Or.inr (Or.inr (Or.inl z))))))) (fun z => (Or.inr (Or.inr (Or.inr (Or.inr (Or.inr (Or.inr z))))))))))))) hZ (own_w hw 89 rfl) (own_w hw 3 rfl) (by decide) (by decide)) q507a q507c (g := (mkF m 168 #[.val (.int aa), .val (.int bb), .val (.int cq), .val (.int ff), .val (.int xx), .val (.int yy), .val (.int zz), .val (.int (1 : Int32)), .val (.int (0 : Int32)), .val (.ref b355), .val (.int xx), .val (.int (-1 : Int32)), .val (.ref x421), .val (.int (own_mx xx zz)), .unset, .unset] [(.ref b355)])) rfl (by rw [hml]; rfl) (Steps.refl _) (argsL := []) (rest := []) (lenOf pd_11 rfl) rfl (by show 2 * 0 + _ ≤ _; exact Nat.le_of_eq rfl) (hb hby at_168) (fun _ _ => ⟨rfl, hq505, (by decide : 6 + 0 ≤ _), (by decide : 16 + 0 ≤ _)⟩)
        dsimp only [Pt.U, Pt.locs, Pt.cells, Pt.slots] at X507 l507 y507 z507 st507 hQ507
        subst l507 y507 z507
        obtain ⟨x508, rfl, N507q, hq509, hpq510⟩ := hQ507
        have N507 := Fr.app N503 N507q
        obtain ⟨cq511, kq511, q511a, q511b, q511c⟩ := isOf hZ hq509 E487
        obtain ⟨_, _, ⟨T511, L511, k511, n511⟩, -, X511, ⟨Lc511, hQ511, l511, y511, z511⟩, st511⟩ := X507.virtualBack hx (y := (⟨"org/tallyrole/core/Dependencies", "remove", "(I)V"⟩ : MethodName)) (z := (⟨"org/tallyrole/core/Dependencies", "remove", "(I)V"⟩ : MethodName)) hown (mvT hZ (own_w hw 99 rfl)) (mvT hZ (own_w hw 100 rfl)) (notFace_of_selects (args := #[]) (mvT hZ (own_w hw 102 rfl))) (mvT hZ (own_w hw 102 rfl)) (mvT hZ (own_w hw 101 rfl)) (by decide) (backOf (W := 0) (rm_rmS l Z a0 hw [] x421 x378 x379 x380 x381 x382 x383 x384 x385 (own_ins (fun _ => False) xx) xx T449.heap n0 Zs492 E487 F488 F489 F490 F491 A483 A484 E485 E486 (Or.inl hpq394) hpq423 hpq387 hpq389 (Ne.symm ne446) (Ne.symm ne447) hpq393) hZ (own_w hw 103 rfl) (own_w hw 3 rfl) (by decide) (by decide)) q511a q511c (g := (mkF m 187 #[.val (.int aa), .val (.int bb), .val (.int cq), .val (.int ff), .val (.int xx), .val (.int yy), .val (.int zz), .val (.int (1 : Int32)), .val (.int (0 : Int32)), .val (.ref b355), .val (.int xx), .val (.int (-1 : Int32)), .val (.ref x421), .val (.int (own_mx xx zz)), .val (.int (1 : Int32)), .unset] [(.int xx), (.ref x421)])) rfl (by rw [hml]; rfl) (Steps.refl _) (argsL := [(.int xx)]) (rest := []) (lenOf pd_7 rfl) rfl (by show 2 * 0 + _ ≤ _; exact Nat.le_of_eq rfl) (hb hby at_187) (fun _ _ => ⟨rfl, hq509, (by decide : 6 + 2 ≤ _), (by decide : 16 + 4 ≤ _)⟩)
        dsimp only [Pt.U, Pt.locs, Pt.cells, Pt.slots] at X511 l511 y511 z511 st511 hQ511
        subst l511 y511 z511
        obtain ⟨x512, x513, x514, x515, x516, x517, x518, x519, x520, rfl, N511q, hq521, hpq522, hpq523, hpq524, hpq525, hpq526, hpq527, hpq528, hpq529, E530, F531, F532, F533, F534, A535, A536, E537, E538⟩ := hQ511
        have N511 := Fr.app N507 N511q
        have lt539 : x378 < T449.heap.size := A483.lt
        have lt540 : x379 < T449.heap.size := A484.lt
        have lt541 : x421 < T449.heap.size := E487.lt
        have lt542 : b355 < T449.heap.size := E468.lt
        have lt543 : x450 < T449.heap.size := A473.lt
        have lt544 : x451 < T449.heap.size := A474.lt
        have S545 := own_sta_keep S481 hq521 (allS (own_ns_exa E487) all0)
        have S546 := own_sta_keep S482 hq521 (allS (own_ns_exa E487) all0)
        have A547 := A483.keep hq521 (ninS ne446 nin0)
        have A548 := A484.keep hq521 (ninS ne447 nin0)
        have E549 := E485.keep hq521
        have E550 := E486.keep hq521
        have E551 := E468.keep hq521
        have F552 := F469.keep hq521 (ninS ne445 nin0)
        have F553 := F470.keep hq521 (ninS ne445 nin0)
        have F554 := F471.keep hq521 (ninS ne445 nin0)
        have F555 := F472.keep hq521 (ninS ne445 nin0)
        have A556 := A473.keep hq521 (ninS (Ne.symm ne495) nin0)
        have A557 := A474.keep hq521 (ninS (Ne.symm ne499) nin0)
        have E558 := E475.keep hq521
        have E559 := E476.keep hq521
        have K511 : Keep h0 T511.heap [] := K449.trans hq521 (allS (Or.inr sz448) all0)
        have Zs560 : n0 ≤ T511.heap.size := (Nat.le_trans Zs492 hq521.1)
        have ne561 : x379 ≠ x512 := hpq524.elim (fun q => by rw [q]; exact (Ne.symm hpq393)) (fun q => Nat.ne_of_lt (Nat.lt_of_lt_of_le lt540 q))
        have ne562 : x421 ≠ x512 := hpq524.elim (fun q => by rw [q]; exact (Ne.symm ne446)) (fun q => Nat.ne_of_lt (Nat.lt_of_lt_of_le lt541 q))
        have ne563 : b355 ≠ x512 := hpq524.elim (fun q => by rw [q]; exact hpq391) (fun q => Nat.ne_of_lt (Nat.lt_of_lt_of_le lt542 q))
        have ne564 : x451 ≠ x512 := hpq524.elim (fun q => by rw [q]; exact (Ne.symm ne498)) (fun q => Nat.ne_of_lt (Nat.lt_of_lt_of_le lt544 q))
        have sz565 : h0.size ≤ x512 := hpq524.elim (fun q => by rw [q]; exact sz415) (fun q => Nat.le_trans K449.1 q)
        have ne566 : x378 ≠ x513 := hpq525.elim (fun q => by rw [q]; exact hpq393) (fun q => Nat.ne_of_lt (Nat.lt_of_lt_of_le lt539 q))
        have ne567 : x421 ≠ x513 := hpq525.elim (fun q => by rw [q]; exact (Ne.symm ne447)) (fun q => Nat.ne_of_lt (Nat.lt_of_lt_of_le lt541 q))
        have ne568 : b355 ≠ x513 := hpq525.elim (fun q => by rw [q]; exact hpq392) (fun q => Nat.ne_of_lt (Nat.lt_of_lt_of_le lt542 q))
        have ne569 : x450 ≠ x513 := hpq525.elim (fun q => by rw [q]; exact (Ne.symm ne494)) (fun q => Nat.ne_of_lt (Nat.lt_of_lt_of_le lt543 q))
        have sz570 : h0.size ≤ x513 := hpq525.elim (fun q => by rw [q]; exact sz419) (fun q => Nat.le_trans K449.1 q)
        obtain ⟨cq571, kq571, q571a, q571b, q571c⟩ := isOf hZ rfl E530
        obtain ⟨_, _, ⟨T571, L571, k571, n571⟩, -, X571, ⟨Lc571, hQ571, l571, y571, z571⟩, st571⟩ := X511.virtualBack hx (y := (⟨"org/tallyrole/core/Dependencies", "latest", "()I"⟩ : MethodName)) (z := (⟨"org/tallyrole/core/Dependencies", "latest", "()I"⟩ : MethodName)) hown (mvT hZ (own_w hw 85 rfl)) (mvT hZ (own_w hw 86 rfl)) (notFace_of_selects (args := #[]) (mvT hZ (own_w hw 88 rfl))) (mvT hZ (own_w hw 88 rfl)) (mvT hZ (own_w hw 87 rfl)) (by decide) (backOf (W := 0) (rm_lt l Z a0 hw [] x421 x512 x513 x514 x515 x516 x517 x518 x519 (own_del (own_ins (fun _ => False) xx) xx) x520 T511.heap n0 Zs560 E530 F531 F532 F533 F534 A535 A536 (hpq529.elim (fun z => (Or.inr (Or.inl z))) (fun z => (z.elim (fun z => (Or.inr (Or.inr (Or.inl z)))) (fun z => (z.elim (fun z => (Or.inr (Or.inr (Or.inr (Or.inl z))))) (fun z => (z.elim (fun z => (Or.inr (Or.inr (Or.inr (Or.inr (Or.inl z)))))) (fun z => (Or.inr (Or.inr (Or.inr (Or.inr (Or.inr (Or.inl z))))))))))))))) hZ (own_w hw 89 rfl) (own_w hw 3 rfl) (by decide) (by decide)) q571a q571c (g := (mkF m 192 #[.val (.int aa), .val (.int bb), .val (.int cq), .val (.int ff), .val (.int xx), .val (.int yy), .val (.int zz), .val (.int (1 : Int32)), .val (.int (0 : Int32)), .val (.ref b355), .val (.int xx), .val (.int (-1 : Int32)), .val (.ref x421), .val (.int (own_mx xx zz)), .val (.int (1 : Int32)), .unset] [(.ref x421)])) rfl (by rw [hml]; rfl) (Steps.refl _) (argsL := []) (rest := []) (lenOf pd_11 rfl) rfl (by show 2 * 0 + _ ≤ _; exact Nat.le_of_eq rfl) (hb hby at_192) (fun _ _ => ⟨rfl, rfl, (by decide : 8 + 0 ≤ _), (by decide : 20 + 0 ≤ _)⟩)
        dsimp only [Pt.U, Pt.locs, Pt.cells, Pt.slots] at X571 l571 y571 z571 st571 hQ571
        subst l571 y571 z571
        obtain ⟨x572, rfl, N571q, hq573, hpq574⟩ := hQ571
        have N571 := Fr.app N511 N571q
        obtain ⟨cq575, kq575, q575a, q575b, q575c⟩ := isOf hZ hq573 E551
        obtain ⟨_, _, ⟨T575, L575, k575, n575⟩, -, X575, ⟨Lc575, hQ575, l575, y575, z575⟩, st575⟩ := X571.virtualBack hx (y := (⟨"org/tallyrole/core/Dependencies", "latest", "()I"⟩ : MethodName)) (z := (⟨"org/tallyrole/core/Dependencies", "latest", "()I"⟩ : MethodName)) hown (mvT hZ (own_w hw 85 rfl)) (mvT hZ (own_w hw 86 rfl)) (notFace_of_selects (args := #[]) (mvT hZ (own_w hw 88 rfl))) (mvT hZ (own_w hw 88 rfl)) (mvT hZ (own_w hw 87 rfl)) (by decide) (backOf (W := 0) (rm_lt l Z a0 hw [] b355 x450 x451 x452 x453 x454 x455 x456 x457 (own_ins (own_ins (fun _ => False) xx) zz) x458 T511.heap n0 Zs560 E551 F552 F553 F554 F555 A556 A557 (hpq467.elim (fun z => (Or.inr (Or.inr (Or.inl z)))) (fun z => (z.elim (fun z => (Or.inr (Or.inr (Or.inr (Or.inr (Or.inl z)))))) (fun z => (z.elim (fun z => (Or.inr (Or.inr (Or.inr (Or.inr (Or.inr (Or.inl z))))))) (fun z => (Or.inr (Or.inr (Or.inr (Or.inr (Or.inr (Or.inr z))))))))))))) hZ (own_w hw 89 rfl) (own_w hw 3 rfl) (by decide) (by decide)) q575a q575c (g := (mkF m 202 #[.val (.int aa), .val (.int bb), .val (.int cq), .val (.int ff), .val (.int xx), .val (.int yy), .val (.int zz), .val (.int (1 : Int32)), .val (.int (0 : Int32)), .val (.ref b355), .val (.int xx), .val (.int (-1 : Int32)), .val (.ref x421), .val (.int (own_mx xx zz)), .val (.int (1 : Int32)), .unset] [(.ref b355)])) rfl (by rw [hml]; rfl) (Steps.refl _) (argsL := []) (rest := []) (lenOf pd_11 rfl) rfl (by show 2 * 0 + _ ≤ _; exact Nat.le_of_eq rfl) (hb hby at_202) (fun _ _ => ⟨rfl, hq573, (by decide : 8 + 0 ≤ _), (by decide : 20 + 0 ≤ _)⟩)
        dsimp only [Pt.U, Pt.locs, Pt.cells, Pt.slots] at X575 l575 y575 z575 st575 hQ575
        subst l575 y575 z575
        obtain ⟨x576, rfl, N575q, hq577, hpq578⟩ := hQ575
        have N575 := Fr.app N571 N575q
        have pre579 := fun (t : State) (k : Steps p.tables e below (T575.setTop (mkF m 232 #[.val (.int aa), .val (.int bb), .val (.int cq), .val (.int ff), .val (.int xx), .val (.int yy), .val (.int zz), .val (.int (1 : Int32)), .val (.int (0 : Int32)), .val (.ref b355), .val (.int xx), .val (.int (-1 : Int32)), .val (.ref x421), .val (.int (own_mx xx zz)), .val (.int (1 : Int32)), .val (.int (1 : Int32))] [(.int (1 : Int32))])) t) => pre353 t (by
          refine XS.ifYes X_t18.here hx rfl (pc0 := 34) (pc' := 41) rfl (hb hby at_34) rfl ((if0 _ _).trans (teq hc354).1) (by decide) (by decide) ?_
          refine XS.iconst X_t18.here hx rfl (hb hby at_41) ?_
          refine XS.istore X_t18.here hx rfl (hb hby at_42) rfl (l' := #[.val (.int aa), .val (.int bb), .val (.int cq), .val (.int ff), .val (.int xx), .val (.int yy), .val (.int zz), .val (.int (1 : Int32)), .val (.int (0 : Int32)), .unset, .unset, .unset, .unset, .unset, .unset, .unset]) rfl ?_
          refine st355 _ ?_
          refine XS.dup X355.here hx rfl (hb hby at_47) rfl rfl ?_
          refine st365.trans ?_
          refine XS.astore X365.here hx rfl (hb hby at_51) rfl rfl (l' := #[.val (.int aa), .val (.int bb), .val (.int cq), .val (.int ff), .val (.int xx), .val (.int yy), .val (.int zz), .val (.int (1 : Int32)), .val (.int (0 : Int32)), .val (.ref b355), .unset, .unset, .unset, .unset, .unset, .unset]) rfl ?_
          refine XS.iload X365.here hx rfl (hb hby at_53) rfl ?_
          refine XS.ifNo X365.here hx rfl (hb hby at_55) rfl ((if0 _ _).trans (feq (by decide : ¬ ((1 : Int32) = (0 : Int32)))).1) ?_
          refine XS.aload X365.here hx rfl (hb hby at_58) rfl rfl ?_
          refine XS.iload X365.here hx rfl (hb hby at_60) rfl ?_
          refine st377.trans ?_
          refine XS.iload X377.here hx rfl (hb hby at_65) rfl ?_
          refine XS.ifYes X377.here hx rfl (pc0 := 67) (pc' := 77) rfl (hb hby at_67) rfl ((if0 _ _).trans (teq (by decide : (0 : Int32) = (0 : Int32))).1) (by decide) (by decide) ?_
          refine XS.iconst X377.here hx rfl (hb hby at_77) ?_
          refine XS.istore X377.here hx rfl (hb hby at_78) rfl (l' := #[.val (.int aa), .val (.int bb), .val (.int cq), .val (.int ff), .val (.int xx), .val (.int yy), .val (.int zz), .val (.int (1 : Int32)), .val (.int (0 : Int32)), .val (.ref b355), .val (.int (-1 : Int32)), .unset, .unset, .unset, .unset, .unset]) rfl ?_
          refine XS.iload X377.here hx rfl (hb hby at_80) rfl ?_
          refine XS.ifNo X377.here hx rfl (hb hby at_82) rfl ((if0 _ _).trans (feq (by decide : ¬ ((1 : Int32) = (0 : Int32)))).1) ?_
          refine XS.iload X377.here hx rfl (hb hby at_85) rfl ?_
          refine XS.istore X377.here hx rfl (hb hby at_87) rfl (l' := #[.val (.int aa), .val (.int bb), .val (.int cq), .val (.int ff), .val (.int xx), .val (.int yy), .val (.int zz), .val (.int (1 : Int32)), .val (.int (0 : Int32)), .val (.ref b355), .val (.int xx), .unset, .unset, .unset, .unset, .unset]) rfl ?_
          refine XS.iload X377.here hx rfl (hb hby at_89) rfl ?_
          refine XS.ifYes X377.here hx rfl (pc0 := 91) (pc' := 103) rfl (hb hby at_91) rfl ((if0 _ _).trans (teq (by decide : (0 : Int32) = (0 : Int32))).1) (by decide) (by decide) ?_
          refine XS.iload X377.here hx rfl (hb hby at_103) rfl ?_
          refine XS.ifNo X377.here hx rfl (hb hby at_105) rfl ((if0 _ _).trans (feq (by decide : ¬ ((1 : Int32) = (0 : Int32)))).1) ?_
          refine XS.iload X377.here hx rfl (hb hby at_108) rfl ?_
          refine XS.ifYes X377.here hx rfl (pc0 := 110) (pc' := 130) rfl (hb hby at_110) rfl ((if0 _ _).trans (teq (by decide : (0 : Int32) = (0 : Int32))).1) (by decide) (by decide) ?_
          refine XS.iconst X377.here hx rfl (hb hby at_130) ?_
          refine XS.istore X377.here hx rfl (hb hby at_131) rfl (l' := #[.val (.int aa), .val (.int bb), .val (.int cq), .val (.int ff), .val (.int xx), .val (.int yy), .val (.int zz), .val (.int (1 : Int32)), .val (.int (0 : Int32)), .val (.ref b355), .val (.int xx), .val (.int (-1 : Int32)), .unset, .unset, .unset, .unset]) rfl ?_
          refine XS.aload X377.here hx rfl (hb hby at_133) rfl rfl ?_
          refine st420.trans ?_
          refine XS.astore X420.here hx rfl (hb hby at_138) rfl rfl (l' := #[.val (.int aa), .val (.int bb), .val (.int cq), .val (.int ff), .val (.int xx), .val (.int yy), .val (.int zz), .val (.int (1 : Int32)), .val (.int (0 : Int32)), .val (.ref b355), .val (.int xx), .val (.int (-1 : Int32)), .val (.ref x421), .unset, .unset, .unset]) rfl ?_
          refine XS.aload X420.here hx rfl (hb hby at_140) rfl rfl ?_
          refine XS.iload X420.here hx rfl (hb hby at_142) rfl ?_
          refine st449.trans ?_
          refine XS.iload X449.here hx rfl (hb hby at_147) rfl ?_
          refine XS.iload X449.here hx rfl (hb hby at_149) rfl ?_
          refine st501 _ ?_
          refine XS.istore X501.here hx rfl (hb hby at_154) rfl (l' := #[.val (.int aa), .val (.int bb), .val (.int cq), .val (.int ff), .val (.int xx), .val (.int yy), .val (.int zz), .val (.int (1 : Int32)), .val (.int (0 : Int32)), .val (.ref b355), .val (.int xx), .val (.int (-1 : Int32)), .val (.ref x421), .val (.int (own_mx xx zz)), .unset, .unset]) rfl ?_
          refine XS.aload X501.here hx rfl (hb hby at_156) rfl rfl ?_
          refine st503.trans ?_
          refine XS.iload X503.here hx rfl (hb hby at_161) rfl ?_
          refine XS.icmpNo X503.here hx rfl (hb hby at_163) rfl (teq (own_top_uniq hpq506 (own_top_1 t18_0))).2 ?_
          refine XS.aload X503.here hx rfl (hb hby at_166) rfl rfl ?_
          refine st507.trans ?_
          refine XS.iload X507.here hx rfl (hb hby at_171) rfl ?_
          refine XS.icmpNo X507.here hx rfl (hb hby at_173) rfl (teq (own_top_uniq hpq510 (own_top_mx (own_top_1 t18_0) t18_2))).2 ?_
          refine XS.iconst X507.here hx rfl (hb hby at_176) ?_
          refine XS.goto X507.here hx rfl (pc0 := 177) (pc' := 181) rfl (hb hby at_177) (by decide) (by decide) ?_
          refine XS.istore X507.here hx rfl (hb hby at_181) rfl (l' := #[.val (.int aa), .val (.int bb), .val (.int cq), .val (.int ff), .val (.int xx), .val (.int yy), .val (.int zz), .val (.int (1 : Int32)), .val (.int (0 : Int32)), .val (.ref b355), .val (.int xx), .val (.int (-1 : Int32)), .val (.ref x421), .val (.int (own_mx xx zz)), .val (.int (1 : Int32)), .unset]) rfl ?_
          refine XS.aload X507.here hx rfl (hb hby at_183) rfl rfl ?_
          refine XS.iload X507.here hx rfl (hb hby at_185) rfl ?_
          refine st511.trans ?_
          refine XS.aload X511.here hx rfl (hb hby at_190) rfl rfl ?_
          refine st571.trans ?_
          refine XS.iload X571.here hx rfl (hb hby at_195) rfl ?_
          refine XS.icmpNo X571.here hx rfl (hb hby at_197) rfl (teq (own_top_uniq hpq574 (own_sec_1 xx))).2 ?_
          refine XS.aload X571.here hx rfl (hb hby at_200) rfl rfl ?_
          refine st575.trans ?_
          refine XS.iload X575.here hx rfl (hb hby at_205) rfl ?_
          refine XS.icmpNo X575.here hx rfl (hb hby at_207) rfl (teq (own_top_uniq hpq578 (own_top_mx (own_top_1 t18_0) t18_2))).2 ?_
          refine XS.iconst X575.here hx rfl (hb hby at_210) ?_
          refine XS.goto X575.here hx rfl (pc0 := 211) (pc' := 215) rfl (hb hby at_211) (by decide) (by decide) ?_
          refine XS.istore X575.here hx rfl (hb hby at_215) rfl (l' := #[.val (.int aa), .val (.int bb), .val (.int cq), .val (.int ff), .val (.int xx), .val (.int yy), .val (.int zz), .val (.int (1 : Int32)), .val (.int (0 : Int32)), .val (.ref b355), .val (.int xx), .val (.int (-1 : Int32)), .val (.ref x421), .val (.int (own_mx xx zz)), .val (.int (1 : Int32)), .val (.int (1 : Int32))]) rfl ?_
          refine XS.iload X575.here hx rfl (hb hby at_217) rfl ?_
          refine XS.ifNo X575.here hx rfl (hb hby at_219) rfl ((if0 _ _).trans (feq (by decide : ¬ ((1 : Int32) = (0 : Int32)))).1) ?_
          refine XS.iload X575.here hx rfl (hb hby at_222) rfl ?_
          refine XS.ifNo X575.here hx rfl (hb hby at_224) rfl ((if0 _ _).trans (feq (by decide : ¬ ((1 : Int32) = (0 : Int32)))).1) ?_
          refine XS.iconst X575.here hx rfl (hb hby at_227) ?_
          refine XS.goto X575.here hx rfl (pc0 := 228) (pc' := 232) rfl (hb hby at_228) (by decide) (by decide) ?_
          exact k)
        obtain ⟨fs, hr, hrun, hended, hW, hsame⟩ := X575.leave (v := some (.int (1 : Int32))) (hlocks := BodyLoose.notSynchronized Bd) (fun h => by rw [Bd.returns] at h; cases h)
        refine ⟨_, _, pre579 _ ?_, hrun, hended, _, _, rfl, ?_, ⟨_, rfl⟩, hW, hsame.mono (by decide) (by decide)⟩
        · exact retN X575 hx (t := .boolean) Bd.returns (by simp) (hb hby at_232) hr
        · show Q_law Z aa bb cq ff ka wa kk kw h0 n0 _ T575.heap _
          rw [hq577]
          exact ⟨rfl, N575, K511⟩
      · obtain ⟨T580, h580, X580, e580, E580, A580, D580, -, st580⟩ := newO X_t18 hx hZ hown (own_w hw 1 rfl) (own_w hw 2 rfl) (own_w hw 3 rfl) e_t18 (g := (mkF m 44 #[.val (.int aa), .val (.int bb), .val (.int cq), .val (.int ff), .val (.int xx), .val (.int yy), .val (.int zz), .val (.int (1 : Int32)), .val (.int (1 : Int32)), .unset, .unset, .unset, .unset, .unset, .unset, .unset] [])) rfl (hb hby at_44) (by decide) (by decide)
        obtain ⟨b580, g580⟩ : ∃ z, z = h0.size := ⟨_, rfl⟩
        have ne_ka_b580 : ka ≠ b580 := Nat.ne_of_lt (Nat.lt_of_lt_of_le H2_A.lt (Nat.le_of_eq g580.symm))
        have ne_wa_b580 : wa ≠ b580 := Nat.ne_of_lt (Nat.lt_of_lt_of_le H3_A.lt (Nat.le_of_eq g580.symm))
        have ge_b580 : n0 ≤ b580 := Nat.le_trans Z0 (Nat.le_of_eq g580.symm)
        have sz_b580 : h0.size ≤ b580 := Nat.le_trans K0.1 (Nat.le_of_eq g580.symm)
        rw [← g580] at A580 D580 st580
        have S581 := H0_S.ext E580
        have S582 := H1_S.ext E580
        have A583 := H2_A.ext E580
        have A584 := H3_A.ext E580
        have K580 : Keep h0 h580 [] := K0.ext E580
        have Zs585 : n0 ≤ h580.size := (Nat.le_trans Z0 E580.1)
        have F586 : Fld Z h580 b580 "org/tallyrole/core/Dependencies" "keys" "[I" .null := D580 (Or.inl (own_w hw 13 rfl)) (ty := (.array .int)) (by decide)
        have F587 : Fld Z h580 b580 "org/tallyrole/core/Dependencies" "words" "[J" .null := D580 (Or.inl (own_w hw 17 rfl)) (ty := (.array .long)) (by decide)
        have F588 : Fld Z h580 b580 "org/tallyrole/core/Dependencies" "size" "I" (.int (0 : Int32)) := D580 (Or.inl (own_w hw 24 rfl)) (ty := .int) (by decide)
        have F589 : Fld Z h580 b580 "org/tallyrole/core/Dependencies" "shared" "Z" (.int (0 : Int32)) := D580 (Or.inl (own_w hw 40 rfl)) (ty := .boolean) (by decide)
        obtain ⟨_, _, ⟨T590, L590, k590, n590⟩, -, X590, ⟨Lc590, hQ590, l590, y590, z590⟩, st590⟩ := X580.specialBack hx (y := (⟨"org/tallyrole/core/Dependencies", "<init>", "()V"⟩ : MethodName)) rfl hown (mvT hZ (own_w hw 4 rfl)) (mvT hZ (own_w hw 5 rfl)) (mvT hZ (own_w hw 6 rfl)) (by decide) (backOf (W := 1) (rm_ini l Z a0 hw [] b580 ka wa h580 n0 Zs585 A580 F586 F587 F588 F589 S581 S582 ge_b580) hZ (own_w hw 6 rfl) (own_w hw 3 rfl) (by decide) (by decide)) (g := (mkF m 48 #[.val (.int aa), .val (.int bb), .val (.int cq), .val (.int ff), .val (.int xx), .val (.int yy), .val (.int zz), .val (.int (1 : Int32)), .val (.int (1 : Int32)), .unset, .unset, .unset, .unset, .unset, .unset, .unset] [(.ref b580), (.ref b580)])) rfl (by rw [hml]; rfl) (Steps.refl _) (a := b580) (argsL := []) (rest := [(.ref b580)]) (lenOf pd_9 rfl) rfl (by show 2 * 0 + _ ≤ _; exact Nat.le_of_eq rfl) (hb hby at_48) (fun _ _ => ⟨rfl, e580, (by decide : 1 + 0 ≤ _), (by decide : 4 + 0 ≤ _)⟩)
        dsimp only [Pt.U, Pt.locs, Pt.cells, Pt.slots] at X590 l590 y590 z590 st590 hQ590
        subst l590 y590 z590
        obtain ⟨rfl, N590q, hq591, F592, F593, F594, F595⟩ := hQ590
        have N590 := Fr.app N_t18 N590q
        have S596 := own_sta_keep S581 hq591 (allS (own_ns_exa A580) all0)
        have S597 := own_sta_keep S582 hq591 (allS (own_ns_exa A580) all0)
        have A598 := A583.keep hq591 (ninS ne_ka_b580 nin0)
        have A599 := A584.keep hq591 (ninS ne_wa_b580 nin0)
        have E600 := A580.keep hq591
        have K590 : Keep h0 T590.heap [] := K580.trans hq591 (allS (Or.inr sz_b580) all0)
        have Zs601 : n0 ≤ T590.heap.size := (Nat.le_trans Zs585 hq591.1)
        obtain ⟨cq602, kq602, q602a, q602b, q602c⟩ := isOf hZ rfl E600
        obtain ⟨_, _, ⟨T602, L602, k602, n602⟩, -, X602, ⟨Lc602, hQ602, l602, y602, z602⟩, st602⟩ := X590.virtualBack hx (y := (⟨"org/tallyrole/core/Dependencies", "add", "(I)V"⟩ : MethodName)) (z := (⟨"org/tallyrole/core/Dependencies", "add", "(I)V"⟩ : MethodName)) hown (mvT hZ (own_w hw 18 rfl)) (mvT hZ (own_w hw 19 rfl)) (notFace_of_selects (args := #[]) (mvT hZ (own_w hw 21 rfl))) (mvT hZ (own_w hw 21 rfl)) (mvT hZ (own_w hw 20 rfl)) (by decide) (backOf (W := 0) (rm_aE l Z a0 hw [] b580 ka wa kk kw (fun _ => False) xx T590.heap n0 Zs601 E600 F592 F593 F594 F595 A598 A599 (fun _ q => q) ge_b580 (Ne.symm ne_ka_b580) (Ne.symm ne_wa_b580) t18_0) hZ (own_w hw 22 rfl) (own_w hw 3 rfl) (by decide) (by decide)) q602a q602c (g := (mkF m 62 #[.val (.int aa), .val (.int bb), .val (.int cq), .val (.int ff), .val (.int xx), .val (.int yy), .val (.int zz), .val (.int (1 : Int32)), .val (.int (1 : Int32)), .val (.ref b580), .unset, .unset, .unset, .unset, .unset, .unset] [(.int xx), (.ref b580)])) rfl (by rw [hml]; rfl) (Steps.refl _) (argsL := [(.int xx)]) (rest := []) (lenOf pd_7 rfl) rfl (by show 2 * 0 + _ ≤ _; exact Nat.le_of_eq rfl) (hb hby at_62) (fun _ _ => ⟨rfl, rfl, (by decide : 1 + 2 ≤ _), (by decide : 4 + 2 ≤ _)⟩)
        dsimp only [Pt.U, Pt.locs, Pt.cells, Pt.slots] at X602 l602 y602 z602 st602 hQ602
        subst l602 y602 z602
        obtain ⟨x603, x604, x605, x606, x607, x608, x609, x610, rfl, N602q, hq611, hpq612, hpq613, hpq614, hpq615, hpq616, hpq617, hpq618, hpq619, E620, F621, F622, F623, F624, A625, A626, E627, E628⟩ := hQ602
        have N602 := Fr.app N590 N602q
        have lt629 : ka < T590.heap.size := A598.lt
        have lt630 : wa < T590.heap.size := A599.lt
        have lt631 : b580 < T590.heap.size := E600.lt
        have S632 := own_sta_keep S596 hq611 (allS (own_ns_exa E600) all0)
        have S633 := own_sta_keep S597 hq611 (allS (own_ns_exa E600) all0)
        have A634 := A598.keep hq611 (ninS ne_ka_b580 nin0)
        have A635 := A599.keep hq611 (ninS ne_wa_b580 nin0)
        have K602 : Keep h0 T602.heap [] := K590.trans hq611 (allS (Or.inr sz_b580) all0)
        have Zs636 : n0 ≤ T602.heap.size := (Nat.le_trans Zs601 hq611.1)
        have ne637 : ka ≠ x603 := Nat.ne_of_lt (Nat.lt_of_lt_of_le lt629 hpq613)
        have ne638 : wa ≠ x603 := Nat.ne_of_lt (Nat.lt_of_lt_of_le lt630 hpq613)
        have ne639 : b580 ≠ x603 := Nat.ne_of_lt (Nat.lt_of_lt_of_le lt631 hpq613)
        have sz640 : h0.size ≤ x603 := Nat.le_trans K590.1 hpq613
        have ne641 : ka ≠ x604 := Nat.ne_of_lt (Nat.lt_of_lt_of_le lt629 hpq615)
        have ne642 : wa ≠ x604 := Nat.ne_of_lt (Nat.lt_of_lt_of_le lt630 hpq615)
        have ne643 : b580 ≠ x604 := Nat.ne_of_lt (Nat.lt_of_lt_of_le lt631 hpq615)
        have sz644 : h0.size ≤ x604 := Nat.le_trans K590.1 hpq615
        obtain ⟨cq645, kq645, q645a, q645b, q645c⟩ := isOf hZ rfl E620
        obtain ⟨_, _, ⟨T645, L645, k645, n645⟩, -, X645, ⟨Lc645, hQ645, l645, y645, z645⟩, st645⟩ := X602.virtualBack hx (y := (⟨"org/tallyrole/core/Dependencies", "add", "(I)V"⟩ : MethodName)) (z := (⟨"org/tallyrole/core/Dependencies", "add", "(I)V"⟩ : MethodName)) hown (mvT hZ (own_w hw 18 rfl)) (mvT hZ (own_w hw 19 rfl)) (notFace_of_selects (args := #[]) (mvT hZ (own_w hw 21 rfl))) (mvT hZ (own_w hw 21 rfl)) (mvT hZ (own_w hw 20 rfl)) (by decide) (backOf (W := 0) (rm_ad l Z a0 hw [] b580 x603 x604 x605 x606 x607 x608 x609 x610 (own_ins (fun _ => False) xx) yy T602.heap n0 Zs636 E620 F621 F622 F623 F624 A625 A626 E627 E628 hpq619 ge_b580 hpq612 hpq614 hpq616 hpq617 hpq618 t18_1) hZ (own_w hw 22 rfl) (own_w hw 3 rfl) (by decide) (by decide)) q645a q645c (g := (mkF m 74 #[.val (.int aa), .val (.int bb), .val (.int cq), .val (.int ff), .val (.int xx), .val (.int yy), .val (.int zz), .val (.int (1 : Int32)), .val (.int (1 : Int32)), .val (.ref b580), .unset, .unset, .unset, .unset, .unset, .unset] [(.int yy), (.ref b580)])) rfl (by rw [hml]; rfl) (Steps.refl _) (argsL := [(.int yy)]) (rest := []) (lenOf pd_7 rfl) rfl (by show 2 * 0 + _ ≤ _; exact Nat.le_of_eq rfl) (hb hby at_74) (fun _ _ => ⟨rfl, rfl, (by decide : 3 + 2 ≤ _), (by decide : 6 + 6 ≤ _)⟩)
        dsimp only [Pt.U, Pt.locs, Pt.cells, Pt.slots] at X645 l645 y645 z645 st645 hQ645
        subst l645 y645 z645
        obtain ⟨x646, x647, x648, x649, x650, x651, x652, x653, rfl, N645q, hq654, hpq655, hpq656, hpq657, hpq658, hpq659, hpq660, hpq661, hpq662, E663, F664, F665, F666, F667, A668, A669, E670, E671⟩ := hQ645
        have N645 := Fr.app N602 N645q
        have lt672 : b580 < T602.heap.size := E620.lt
        have lt673 : x603 < T602.heap.size := A625.lt
        have lt674 : x604 < T602.heap.size := A626.lt
        have S675 := own_sta_keep S632 hq654 (allS (own_ns_exa E620) (allS (own_ns_exa E627) (allS (own_ns_exa E628) all0)))
        have S676 := own_sta_keep S633 hq654 (allS (own_ns_exa E620) (allS (own_ns_exa E627) (allS (own_ns_exa E628) all0)))
        have E677 := E627.keep hq654
        have E678 := E628.keep hq654
        have K645 : Keep h0 T645.heap [] := K602.trans hq654 (allS (Or.inr sz_b580) (allS (Or.inr sz640) (allS (Or.inr sz644) all0)))
        have Zs679 : n0 ≤ T645.heap.size := (Nat.le_trans Zs636 hq654.1)
        have ne680 : b580 ≠ x646 := hpq657.elim (fun q => by rw [q]; exact hpq616) (fun q => Nat.ne_of_lt (Nat.lt_of_lt_of_le lt672 q))
        have ne681 : x604 ≠ x646 := hpq657.elim (fun q => by rw [q]; exact (Ne.symm hpq618)) (fun q => Nat.ne_of_lt (Nat.lt_of_lt_of_le lt674 q))
        have sz682 : h0.size ≤ x646 := hpq657.elim (fun q => by rw [q]; exact sz640) (fun q => Nat.le_trans K602.1 q)
        have ne683 : b580 ≠ x647 := hpq658.elim (fun q => by rw [q]; exact hpq617) (fun q => Nat.ne_of_lt (Nat.lt_of_lt_of_le lt672 q))
        have ne684 : x603 ≠ x647 := hpq658.elim (fun q => by rw [q]; exact hpq618) (fun q => Nat.ne_of_lt (Nat.lt_of_lt_of_le lt673 q))
        have sz685 : h0.size ≤ x647 := hpq658.elim (fun q => by rw [q]; exact sz644) (fun q => Nat.le_trans K602.1 q)
        obtain ⟨_, _, ⟨T686, L686, k686, n686⟩, -, X686, ⟨Lc686, hQ686, l686, y686, z686⟩, st686⟩ := Jvm.LawKit.callS X645 hx (y := (⟨"java/lang/Math", "max", "(II)I"⟩ : MethodName)) hown (mvT hZ (own_w hw 82 rfl)) (mvT hZ (own_w hw 83 rfl)) (mvT hZ (own_w hw 47 rfl)) (mvT hZ (own_w hw 84 rfl)) (by decide) (backOf (W := 0) (rm_mx l Z a0 hw [] xx yy T645.heap n0 Zs679 ) hZ (own_w hw 84 rfl) (own_w hw 47 rfl) (by decide) (by decide)) (g := (mkF m 98 #[.val (.int aa), .val (.int bb), .val (.int cq), .val (.int ff), .val (.int xx), .val (.int yy), .val (.int zz), .val (.int (1 : Int32)), .val (.int (1 : Int32)), .val (.ref b580), .val (.int xx), .unset, .unset, .unset, .unset, .unset] [(.int yy), (.int xx)])) rfl (by rw [hml]; rfl) (argsL := [(.int xx), (.int yy)]) (rest := []) (lenOf pd_2 rfl) rfl (by show 2 * 0 + _ ≤ _; exact Nat.le_of_eq rfl) (hb hby at_98) (fun _ _ => ⟨rfl, rfl, (by decide : 5 + 0 ≤ _), (by decide : 12 + 0 ≤ _)⟩)
        dsimp only [Pt.U, Pt.locs, Pt.cells, Pt.slots] at X686 l686 y686 z686 st686 hQ686
        subst l686 y686 z686
        obtain ⟨rfl, N686q, hq687⟩ := hQ686
        have N686 := Fr.app N645 N686q
        have pre688 := fun (t : State) (k : Steps p.tables e below (T686.setTop (mkF m 117 #[.val (.int aa), .val (.int bb), .val (.int cq), .val (.int ff), .val (.int xx), .val (.int yy), .val (.int zz), .val (.int (1 : Int32)), .val (.int (1 : Int32)), .val (.ref b580), .val (.int (own_mx xx yy)), .unset, .unset, .unset, .unset, .unset] [(.int yy), (.int xx)])) t) => pre353 t (by
          refine XS.ifNo X_t18.here hx rfl (hb hby at_34) rfl ((if0 _ _).trans (feq hc354).1) ?_
          refine XS.iconst X_t18.here hx rfl (hb hby at_37) ?_
          refine XS.goto X_t18.here hx rfl (pc0 := 38) (pc' := 42) rfl (hb hby at_38) (by decide) (by decide) ?_
          refine XS.istore X_t18.here hx rfl (hb hby at_42) rfl (l' := #[.val (.int aa), .val (.int bb), .val (.int cq), .val (.int ff), .val (.int xx), .val (.int yy), .val (.int zz), .val (.int (1 : Int32)), .val (.int (1 : Int32)), .unset, .unset, .unset, .unset, .unset, .unset, .unset]) rfl ?_
          refine st580 _ ?_
          refine XS.dup X580.here hx rfl (hb hby at_47) rfl rfl ?_
          refine st590.trans ?_
          refine XS.astore X590.here hx rfl (hb hby at_51) rfl rfl (l' := #[.val (.int aa), .val (.int bb), .val (.int cq), .val (.int ff), .val (.int xx), .val (.int yy), .val (.int zz), .val (.int (1 : Int32)), .val (.int (1 : Int32)), .val (.ref b580), .unset, .unset, .unset, .unset, .unset, .unset]) rfl ?_
          refine XS.iload X590.here hx rfl (hb hby at_53) rfl ?_
          refine XS.ifNo X590.here hx rfl (hb hby at_55) rfl ((if0 _ _).trans (feq (by decide : ¬ ((1 : Int32) = (0 : Int32)))).1) ?_
          refine XS.aload X590.here hx rfl (hb hby at_58) rfl rfl ?_
          refine XS.iload X590.here hx rfl (hb hby at_60) rfl ?_
          refine st602.trans ?_
          refine XS.iload X602.here hx rfl (hb hby at_65) rfl ?_
          refine XS.ifNo X602.here hx rfl (hb hby at_67) rfl ((if0 _ _).trans (feq (by decide : ¬ ((1 : Int32) = (0 : Int32)))).1) ?_
          refine XS.aload X602.here hx rfl (hb hby at_70) rfl rfl ?_
          refine XS.iload X602.here hx rfl (hb hby at_72) rfl ?_
          refine st645.trans ?_
          refine XS.iconst X645.here hx rfl (hb hby at_77) ?_
          refine XS.istore X645.here hx rfl (hb hby at_78) rfl (l' := #[.val (.int aa), .val (.int bb), .val (.int cq), .val (.int ff), .val (.int xx), .val (.int yy), .val (.int zz), .val (.int (1 : Int32)), .val (.int (1 : Int32)), .val (.ref b580), .val (.int (-1 : Int32)), .unset, .unset, .unset, .unset, .unset]) rfl ?_
          refine XS.iload X645.here hx rfl (hb hby at_80) rfl ?_
          refine XS.ifNo X645.here hx rfl (hb hby at_82) rfl ((if0 _ _).trans (feq (by decide : ¬ ((1 : Int32) = (0 : Int32)))).1) ?_
          refine XS.iload X645.here hx rfl (hb hby at_85) rfl ?_
          refine XS.istore X645.here hx rfl (hb hby at_87) rfl (l' := #[.val (.int aa), .val (.int bb), .val (.int cq), .val (.int ff), .val (.int xx), .val (.int yy), .val (.int zz), .val (.int (1 : Int32)), .val (.int (1 : Int32)), .val (.ref b580), .val (.int xx), .unset, .unset, .unset, .unset, .unset]) rfl ?_
          refine XS.iload X645.here hx rfl (hb hby at_89) rfl ?_
          refine XS.ifNo X645.here hx rfl (hb hby at_91) rfl ((if0 _ _).trans (feq (by decide : ¬ ((1 : Int32) = (0 : Int32)))).1) ?_
          refine XS.iload X645.here hx rfl (hb hby at_94) rfl ?_
          refine XS.iload X645.here hx rfl (hb hby at_96) rfl ?_
          refine st686 _ ?_
          refine XS.istore X686.here hx rfl (hb hby at_101) rfl (l' := #[.val (.int aa), .val (.int bb), .val (.int cq), .val (.int ff), .val (.int xx), .val (.int yy), .val (.int zz), .val (.int (1 : Int32)), .val (.int (1 : Int32)), .val (.ref b580), .val (.int (own_mx xx yy)), .unset, .unset, .unset, .unset, .unset]) rfl ?_
          refine XS.iload X686.here hx rfl (hb hby at_103) rfl ?_
          refine XS.ifNo X686.here hx rfl (hb hby at_105) rfl ((if0 _ _).trans (feq (by decide : ¬ ((1 : Int32) = (0 : Int32)))).1) ?_
          refine XS.iload X686.here hx rfl (hb hby at_108) rfl ?_
          refine XS.ifNo X686.here hx rfl (hb hby at_110) rfl ((if0 _ _).trans (feq (by decide : ¬ ((1 : Int32) = (0 : Int32)))).1) ?_
          refine XS.iload X686.here hx rfl (hb hby at_113) rfl ?_
          refine XS.iload X686.here hx rfl (hb hby at_115) rfl ?_
          exact k)
        by_cases hc689 : xx = yy
        · obtain ⟨cq690, kq690, q690a, q690b, q690c⟩ := isOf hZ hq687 E663
          obtain ⟨_, _, ⟨T690, L690, k690, n690⟩, -, X690, ⟨Lc690, hQ690, l690, y690, z690⟩, st690⟩ := X686.virtualBack hx (y := (⟨"org/tallyrole/core/Dependencies", "copy", "()Lorg/tallyrole/core/Dependencies;"⟩ : MethodName)) (z := (⟨"org/tallyrole/core/Dependencies", "copy", "()Lorg/tallyrole/core/Dependencies;"⟩ : MethodName)) hown (mvT hZ (own_w hw 58 rfl)) (mvT hZ (own_w hw 59 rfl)) (notFace_of_selects (args := #[]) (mvT hZ (own_w hw 61 rfl))) (mvT hZ (own_w hw 61 rfl)) (mvT hZ (own_w hw 60 rfl)) (by decide) (backOf (W := 0) (rm_cyN l Z a0 hw [] b580 x646 x647 x651 (0 : Int32) T645.heap n0 Zs679 E663 F664 F665 F666 F667 ge_b580 (own_nz hpq662)) hZ (own_w hw 62 rfl) (own_w hw 3 rfl) (by decide) (by decide)) q690a q690c (g := (mkF m 135 #[.val (.int aa), .val (.int bb), .val (.int cq), .val (.int ff), .val (.int xx), .val (.int yy), .val (.int zz), .val (.int (1 : Int32)), .val (.int (1 : Int32)), .val (.ref b580), .val (.int (own_mx xx yy)), .val (.int (-1 : Int32)), .unset, .unset, .unset, .unset] [(.ref b580)])) rfl (by rw [hml]; rfl) (Steps.refl _) (argsL := []) (rest := []) (lenOf pd_10 rfl) rfl (by show 2 * 0 + _ ≤ _; exact Nat.le_of_eq rfl) (hb hby at_135) (fun _ _ => ⟨rfl, hq687, (by decide : 5 + 1 ≤ _), (by decide : 12 + 4 ≤ _)⟩)
          dsimp only [Pt.U, Pt.locs, Pt.cells, Pt.slots] at X690 l690 y690 z690 st690 hQ690
          subst l690 y690 z690
          obtain ⟨x691, rfl, N690q, hq692, hpq693, hpq694, F695, F696, F697, F698, E699, F700, F701, F702, F703⟩ := hQ690
          have N690 := Fr.app N686 N690q
          have lt704 : x603 < T645.heap.size := E677.lt
          have lt705 : x604 < T645.heap.size := E678.lt
          have lt706 : b580 < T645.heap.size := E663.lt
          have lt707 : x646 < T645.heap.size := A668.lt
          have lt708 : x647 < T645.heap.size := A669.lt
          have S709 := own_sta_keep S675 hq692 (allS (own_ns_exa E663) all0)
          have S710 := own_sta_keep S676 hq692 (allS (own_ns_exa E663) all0)
          have E711 := E677.keep hq692
          have E712 := E678.keep hq692
          have E713 := E663.keep hq692
          have A714 := A668.keep hq692 (ninS (Ne.symm hpq659) nin0)
          have A715 := A669.keep hq692 (ninS (Ne.symm hpq660) nin0)
          have E716 := E670.keep hq692
          have E717 := E671.keep hq692
          have K690 : Keep h0 T690.heap [] := K645.trans hq692 (allS (Or.inr sz_b580) all0)
          have Zs718 : n0 ≤ T690.heap.size := (Nat.le_trans Zs679 hq692.1)
          have ne719 : x603 ≠ x691 := Nat.ne_of_lt (Nat.lt_of_lt_of_le lt704 hpq694)
          have ne720 : x604 ≠ x691 := Nat.ne_of_lt (Nat.lt_of_lt_of_le lt705 hpq694)
          have ne721 : b580 ≠ x691 := Nat.ne_of_lt (Nat.lt_of_lt_of_le lt706 hpq694)
          have ne722 : x646 ≠ x691 := Nat.ne_of_lt (Nat.lt_of_lt_of_le lt707 hpq694)
          have ne723 : x647 ≠ x691 := Nat.ne_of_lt (Nat.lt_of_lt_of_le lt708 hpq694)
          have sz724 : h0.size ≤ x691 := Nat.le_trans K645.1 hpq694
          obtain ⟨cq725, kq725, q725a, q725b, q725c⟩ := isOf hZ rfl E713
          obtain ⟨_, _, ⟨T725, L725, k725, n725⟩, -, X725, ⟨Lc725, hQ725, l725, y725, z725⟩, st725⟩ := X690.virtualBack hx (y := (⟨"org/tallyrole/core/Dependencies", "add", "(I)V"⟩ : MethodName)) (z := (⟨"org/tallyrole/core/Dependencies", "add", "(I)V"⟩ : MethodName)) hown (mvT hZ (own_w hw 18 rfl)) (mvT hZ (own_w hw 19 rfl)) (notFace_of_selects (args := #[]) (mvT hZ (own_w hw 21 rfl))) (mvT hZ (own_w hw 21 rfl)) (mvT hZ (own_w hw 20 rfl)) (by decide) (backOf (W := 0) (rm_adS l Z a0 hw [] b580 x646 x647 x648 x649 x650 x651 x652 x653 (own_ins (own_ins (fun _ => False) xx) yy) zz T690.heap n0 Zs718 E713 F695 F696 F697 F698 A714 A715 E716 E717 hpq662 ge_b580 hpq655 hpq656 hpq659 hpq660 hpq661 t18_2) hZ (own_w hw 22 rfl) (own_w hw 3 rfl) (by decide) (by decide)) q725a q725c (g := (mkF m 144 #[.val (.int aa), .val (.int bb), .val (.int cq), .val (.int ff), .val (.int xx), .val (.int yy), .val (.int zz), .val (.int (1 : Int32)), .val (.int (1 : Int32)), .val (.ref b580), .val (.int (own_mx xx yy)), .val (.int (-1 : Int32)), .val (.ref x691), .unset, .unset, .unset] [(.int zz), (.ref b580)])) rfl (by rw [hml]; rfl) (Steps.refl _) (argsL := [(.int zz)]) (rest := []) (lenOf pd_7 rfl) rfl (by show 2 * 0 + _ ≤ _; exact Nat.le_of_eq rfl) (hb hby at_144) (fun _ _ => ⟨rfl, rfl, (by decide : 6 + 2 ≤ _), (by decide : 16 + 6 ≤ _)⟩)
          dsimp only [Pt.U, Pt.locs, Pt.cells, Pt.slots] at X725 l725 y725 z725 st725 hQ725
          subst l725 y725 z725
          obtain ⟨x726, x727, x728, x729, x730, x731, x732, x733, x734, rfl, N725q, hq735, hpq736, hpq737, hpq738, hpq739, hpq740, hpq741, hpq742, hpq743, E744, F745, F746, F747, F748, A749, A750, E751, E752⟩ := hQ725
          have N725 := Fr.app N690 N725q
          have lt753 : x603 < T690.heap.size := E711.lt
          have lt754 : x604 < T690.heap.size := E712.lt
          have lt755 : b580 < T690.heap.size := E713.lt
          have lt756 : x646 < T690.heap.size := A714.lt
          have lt757 : x647 < T690.heap.size := A715.lt
          have lt758 : x691 < T690.heap.size := E699.lt
          have S759 := own_sta_keep S709 hq735 (allS (own_ns_exa E713) all0)
          have S760 := own_sta_keep S710 hq735 (allS (own_ns_exa E713) all0)
          have E761 := E711.keep hq735
          have E762 := E712.keep hq735
          have A763 := A714.keep hq735 (ninS (Ne.symm hpq659) nin0)
          have A764 := A715.keep hq735 (ninS (Ne.symm hpq660) nin0)
          have E765 := E716.keep hq735
          have E766 := E717.keep hq735
          have E767 := E699.keep hq735
          have F768 := F700.keep hq735 (ninS (Ne.symm ne721) nin0)
          have F769 := F701.keep hq735 (ninS (Ne.symm ne721) nin0)
          have F770 := F702.keep hq735 (ninS (Ne.symm ne721) nin0)
          have F771 := F703.keep hq735 (ninS (Ne.symm ne721) nin0)
          have K725 : Keep h0 T725.heap [] := K690.trans hq735 (allS (Or.inr sz_b580) all0)
          have Zs772 : n0 ≤ T725.heap.size := (Nat.le_trans Zs718 hq735.1)
          have ne773 : x604 ≠ x726 := hpq738.elim (fun q => by rw [q]; exact ne681) (fun q => Nat.ne_of_lt (Nat.lt_of_lt_of_le lt754 q))
          have ne774 : b580 ≠ x726 := hpq738.elim (fun q => by rw [q]; exact hpq659) (fun q => Nat.ne_of_lt (Nat.lt_of_lt_of_le lt755 q))
          have ne775 : x647 ≠ x726 := hpq738.elim (fun q => by rw [q]; exact (Ne.symm hpq661)) (fun q => Nat.ne_of_lt (Nat.lt_of_lt_of_le lt757 q))
          have ne776 : x691 ≠ x726 := hpq738.elim (fun q => by rw [q]; exact (Ne.symm ne722)) (fun q => Nat.ne_of_lt (Nat.lt_of_lt_of_le lt758 q))
          have sz777 : h0.size ≤ x726 := hpq738.elim (fun q => by rw [q]; exact sz682) (fun q => Nat.le_trans K690.1 q)
          have ne778 : x603 ≠ x727 := hpq739.elim (fun q => by rw [q]; exact ne684) (fun q => Nat.ne_of_lt (Nat.lt_of_lt_of_le lt753 q))
          have ne779 : b580 ≠ x727 := hpq739.elim (fun q => by rw [q]; exact hpq660) (fun q => Nat.ne_of_lt (Nat.lt_of_lt_of_le lt755 q))
          have ne780 : x646 ≠ x727 := hpq739.elim (fun q => by rw [q]; exact hpq661) (fun q => Nat.ne_of_lt (Nat.lt_of_lt_of_le lt756 q))
          have ne781 : x691 ≠ x727 := hpq739.elim (fun q => by rw [q]; exact (Ne.symm ne723)) (fun q => Nat.ne_of_lt (Nat.lt_of_lt_of_le lt758 q))
          have sz782 : h0.size ≤ x727 := hpq739.elim (fun q => by rw [q]; exact sz685) (fun q => Nat.le_trans K690.1 q)
          obtain ⟨_, _, ⟨T783, L783, k783, n783⟩, -, X783, ⟨Lc783, hQ783, l783, y783, z783⟩, st783⟩ := Jvm.LawKit.callS X725 hx (y := (⟨"java/lang/Math", "max", "(II)I"⟩ : MethodName)) hown (mvT hZ (own_w hw 82 rfl)) (mvT hZ (own_w hw 83 rfl)) (mvT hZ (own_w hw 47 rfl)) (mvT hZ (own_w hw 84 rfl)) (by decide) (backOf (W := 0) (rm_mx l Z a0 hw [] (own_mx xx yy) zz T725.heap n0 Zs772 ) hZ (own_w hw 84 rfl) (own_w hw 47 rfl) (by decide) (by decide)) (g := (mkF m 151 #[.val (.int aa), .val (.int bb), .val (.int cq), .val (.int ff), .val (.int xx), .val (.int yy), .val (.int zz), .val (.int (1 : Int32)), .val (.int (1 : Int32)), .val (.ref b580), .val (.int (own_mx xx yy)), .val (.int (-1 : Int32)), .val (.ref x691), .unset, .unset, .unset] [(.int zz), (.int (own_mx xx yy))])) rfl (by rw [hml]; rfl) (argsL := [(.int (own_mx xx yy)), (.int zz)]) (rest := []) (lenOf pd_2 rfl) rfl (by show 2 * 0 + _ ≤ _; exact Nat.le_of_eq rfl) (hb hby at_151) (fun _ _ => ⟨rfl, rfl, (by decide : 8 + 0 ≤ _), (by decide : 22 + 0 ≤ _)⟩)
          dsimp only [Pt.U, Pt.locs, Pt.cells, Pt.slots] at X783 l783 y783 z783 st783 hQ783
          subst l783 y783 z783
          obtain ⟨rfl, N783q, hq784⟩ := hQ783
          have N783 := Fr.app N725 N783q
          obtain ⟨cq785, kq785, q785a, q785b, q785c⟩ := isOf hZ hq784 E767
          obtain ⟨_, _, ⟨T785, L785, k785, n785⟩, -, X785, ⟨Lc785, hQ785, l785, y785, z785⟩, st785⟩ := X783.virtualBack hx (y := (⟨"org/tallyrole/core/Dependencies", "latest", "()I"⟩ : MethodName)) (z := (⟨"org/tallyrole/core/Dependencies", "latest", "()I"⟩ : MethodName)) hown (mvT hZ (own_w hw 85 rfl)) (mvT hZ (own_w hw 86 rfl)) (notFace_of_selects (args := #[]) (mvT hZ (own_w hw 88 rfl))) (mvT hZ (own_w hw 88 rfl)) (mvT hZ (own_w hw 87 rfl)) (by decide) (backOf (W := 0) (rm_lt l Z a0 hw [] x691 x646 x647 x648 x649 x650 x651 x652 x653 (own_ins (own_ins (fun _ => False) xx) yy) (1 : Int32) T725.heap n0 Zs772 E767 F768 F769 F770 F771 A763 A764 (hpq662.elim (fun z => (Or.inr (Or.inr (Or.inl z)))) (fun z => (Or.inr (Or.inr (Or.inr (Or.inr (Or.inr (Or.inl z))))))))) hZ (own_w hw 89 rfl) (own_w hw 3 rfl) (by decide) (by decide)) q785a q785c (g := (mkF m 158 #[.val (.int aa), .val (.int bb), .val (.int cq), .val (.int ff), .val (.int xx), .val (.int yy), .val (.int zz), .val (.int (1 : Int32)), .val (.int (1 : Int32)), .val (.ref b580), .val (.int (own_mx xx yy)), .val (.int (-1 : Int32)), .val (.ref x691), .val (.int (own_mx (own_mx xx yy) zz)), .unset, .unset] [(.ref x691)])) rfl (by rw [hml]; rfl) (Steps.refl _) (argsL := []) (rest := []) (lenOf pd_11 rfl) rfl (by show 2 * 0 + _ ≤ _; exact Nat.le_of_eq rfl) (hb hby at_158) (fun _ _ => ⟨rfl, hq784, (by decide : 8 + 0 ≤ _), (by decide : 22 + 0 ≤ _)⟩)
          dsimp only [Pt.U, Pt.locs, Pt.cells, Pt.slots] at X785 l785 y785 z785 st785 hQ785
          subst l785 y785 z785
          obtain ⟨x786, rfl, N785q, hq787, hpq788⟩ := hQ785
          have N785 := Fr.app N783 N785q
          obtain ⟨cq789, kq789, q789a, q789b, q789c⟩ := isOf hZ hq787 E744
          obtain ⟨_, _, ⟨T789, L789, k789, n789⟩, -, X789, ⟨Lc789, hQ789, l789, y789, z789⟩, st789⟩ := X785.virtualBack hx (y := (⟨"org/tallyrole/core/Dependencies", "latest", "()I"⟩ : MethodName)) (z := (⟨"org/tallyrole/core/Dependencies", "latest", "()I"⟩ : MethodName)) hown (mvT hZ (own_w hw 85 rfl)) (mvT hZ (own_w hw 86 rfl)) (notFace_of_selects (args := #[]) (mvT hZ (own_w hw 88 rfl))) (mvT hZ (own_w hw 88 rfl)) (mvT hZ (own_w hw 87 rfl)) (by decide) (backOf (W := 0) (rm_lt l Z a0 hw [] b580 x726 x727 x728 x729 x730 x731 x732 x733 (own_ins (own_ins (own_ins (fun _ => False) xx) yy) zz) x734 T725.heap n0 Zs772 E744 F745 F746 F747 F748 A749 A750 (hpq743.elim (fun z => (Or.inr (Or.inr (Or.inl z)))) (fun z => (z.elim (fun z => (Or.inr (Or.inr (Or.inr (Or.inr (Or.inl z)))))) (fun z => (z.elim (fun z => (Or.inr (Or.inr (Or.inr (Or.inr (Or.inr (Or.inl z))))))) (fun z => (Or.inr (Or.inr (Or.inr (Or.inr (Or.inr (Or.inr z))))))))))))) hZ (own_w hw 89 rfl) (own_w hw 3 rfl) (by decide) (by decide)) q789a q789c (g := (mkF m 168 #[.val (.int aa), .val (.int bb), .val (.int cq), .val (.int ff), .val (.int xx), .val (.int yy), .val (.int zz), .val (.int (1 : Int32)), .val (.int (1 : Int32)), .val (.ref b580), .val (.int (own_mx xx yy)), .val (.int (-1 : Int32)), .val (.ref x691), .val (.int (own_mx (own_mx xx yy) zz)), .unset, .unset] [(.ref b580)])) rfl (by rw [hml]; rfl) (Steps.refl _) (argsL := []) (rest := []) (lenOf pd_11 rfl) rfl (by show 2 * 0 + _ ≤ _; exact Nat.le_of_eq rfl) (hb hby at_168) (fun _ _ => ⟨rfl, hq787, (by decide : 8 + 0 ≤ _), (by decide : 22 + 0 ≤ _)⟩)
          dsimp only [Pt.U, Pt.locs, Pt.cells, Pt.slots] at X789 l789 y789 z789 st789 hQ789
          subst l789 y789 z789
          obtain ⟨x790, rfl, N789q, hq791, hpq792⟩ := hQ789
          have N789 := Fr.app N785 N789q
          obtain ⟨cq793, kq793, q793a, q793b, q793c⟩ := isOf hZ hq791 E767
          obtain ⟨_, _, ⟨T793, L793, k793, n793⟩, -, X793, ⟨Lc793, hQ793, l793, y793, z793⟩, st793⟩ := X789.virtualBack hx (y := (⟨"org/tallyrole/core/Dependencies", "remove", "(I)V"⟩ : MethodName)) (z := (⟨"org/tallyrole/core/Dependencies", "remove", "(I)V"⟩ : MethodName)) hown (mvT hZ (own_w hw 99 rfl)) (mvT hZ (own_w hw 100 rfl)) (notFace_of_selects (args := #[]) (mvT hZ (own_w hw 102 rfl))) (mvT hZ (own_w hw 102 rfl)) (mvT hZ (own_w hw 101 rfl)) (by decide) (backOf (W := 0) (rm_rmS l Z a0 hw [] x691 x646 x647 x648 x649 x650 x651 x652 x653 (own_ins (own_ins (fun _ => False) xx) yy) (own_mx xx yy) T725.heap n0 Zs772 E767 F768 F769 F770 F771 A763 A764 E765 E766 hpq662 hpq693 hpq655 hpq656 (Ne.symm ne722) (Ne.symm ne723) hpq661) hZ (own_w hw 103 rfl) (own_w hw 3 rfl) (by decide) (by decide)) q793a q793c (g := (mkF m 187 #[.val (.int aa), .val (.int bb), .val (.int cq), .val (.int ff), .val (.int xx), .val (.int yy), .val (.int zz), .val (.int (1 : Int32)), .val (.int (1 : Int32)), .val (.ref b580), .val (.int (own_mx xx yy)), .val (.int (-1 : Int32)), .val (.ref x691), .val (.int (own_mx (own_mx xx yy) zz)), .val (.int (1 : Int32)), .unset] [(.int (own_mx xx yy)), (.ref x691)])) rfl (by rw [hml]; rfl) (Steps.refl _) (argsL := [(.int (own_mx xx yy))]) (rest := []) (lenOf pd_7 rfl) rfl (by show 2 * 0 + _ ≤ _; exact Nat.le_of_eq rfl) (hb hby at_187) (fun _ _ => ⟨rfl, hq791, (by decide : 8 + 2 ≤ _), (by decide : 22 + 4 ≤ _)⟩)
          dsimp only [Pt.U, Pt.locs, Pt.cells, Pt.slots] at X793 l793 y793 z793 st793 hQ793
          subst l793 y793 z793
          obtain ⟨x794, x795, x796, x797, x798, x799, x800, x801, x802, rfl, N793q, hq803, hpq804, hpq805, hpq806, hpq807, hpq808, hpq809, hpq810, hpq811, E812, F813, F814, F815, F816, A817, A818, E819, E820⟩ := hQ793
          have N793 := Fr.app N789 N793q
          have lt821 : x603 < T725.heap.size := E761.lt
          have lt822 : x604 < T725.heap.size := E762.lt
          have lt823 : x646 < T725.heap.size := A763.lt
          have lt824 : x647 < T725.heap.size := A764.lt
          have lt825 : x691 < T725.heap.size := E767.lt
          have lt826 : b580 < T725.heap.size := E744.lt
          have lt827 : x726 < T725.heap.size := A749.lt
          have lt828 : x727 < T725.heap.size := A750.lt
          have S829 := own_sta_keep S759 hq803 (allS (own_ns_exa E767) all0)
          have S830 := own_sta_keep S760 hq803 (allS (own_ns_exa E767) all0)
          have E831 := E761.keep hq803
          have E832 := E762.keep hq803
          have A833 := A763.keep hq803 (ninS ne722 nin0)
          have A834 := A764.keep hq803 (ninS ne723 nin0)
          have E835 := E765.keep hq803
          have E836 := E766.keep hq803
          have E837 := E744.keep hq803
          have F838 := F745.keep hq803 (ninS ne721 nin0)
          have F839 := F746.keep hq803 (ninS ne721 nin0)
          have F840 := F747.keep hq803 (ninS ne721 nin0)
          have F841 := F748.keep hq803 (ninS ne721 nin0)
          have A842 := A749.keep hq803 (ninS (Ne.symm ne776) nin0)
          have A843 := A750.keep hq803 (ninS (Ne.symm ne781) nin0)
          have E844 := E751.keep hq803
          have E845 := E752.keep hq803
          have K793 : Keep h0 T793.heap [] := K725.trans hq803 (allS (Or.inr sz724) all0)
          have Zs846 : n0 ≤ T793.heap.size := (Nat.le_trans Zs772 hq803.1)
          have ne847 : x604 ≠ x794 := hpq806.elim (fun q => by rw [q]; exact ne681) (fun q => Nat.ne_of_lt (Nat.lt_of_lt_of_le lt822 q))
          have ne848 : x647 ≠ x794 := hpq806.elim (fun q => by rw [q]; exact (Ne.symm hpq661)) (fun q => Nat.ne_of_lt (Nat.lt_of_lt_of_le lt824 q))
          have ne849 : x691 ≠ x794 := hpq806.elim (fun q => by rw [q]; exact (Ne.symm ne722)) (fun q => Nat.ne_of_lt (Nat.lt_of_lt_of_le lt825 q))
          have ne850 : b580 ≠ x794 := hpq806.elim (fun q => by rw [q]; exact hpq659) (fun q => Nat.ne_of_lt (Nat.lt_of_lt_of_le lt826 q))
          have ne851 : x727 ≠ x794 := hpq806.elim (fun q => by rw [q]; exact (Ne.symm ne780)) (fun q => Nat.ne_of_lt (Nat.lt_of_lt_of_le lt828 q))
          have sz852 : h0.size ≤ x794 := hpq806.elim (fun q => by rw [q]; exact sz682) (fun q => Nat.le_trans K725.1 q)
          have ne853 : x603 ≠ x795 := hpq807.elim (fun q => by rw [q]; exact ne684) (fun q => Nat.ne_of_lt (Nat.lt_of_lt_of_le lt821 q))
          have ne854 : x646 ≠ x795 := hpq807.elim (fun q => by rw [q]; exact hpq661) (fun q => Nat.ne_of_lt (Nat.lt_of_lt_of_le lt823 q))
          have ne855 : x691 ≠ x795 := hpq807.elim (fun q => by rw [q]; exact (Ne.symm ne723)) (fun q => Nat.ne_of_lt (Nat.lt_of_lt_of_le lt825 q))
          have ne856 : b580 ≠ x795 := hpq807.elim (fun q => by rw [q]; exact hpq660) (fun q => Nat.ne_of_lt (Nat.lt_of_lt_of_le lt826 q))
          have ne857 : x726 ≠ x795 := hpq807.elim (fun q => by rw [q]; exact (Ne.symm ne775)) (fun q => Nat.ne_of_lt (Nat.lt_of_lt_of_le lt827 q))
          have sz858 : h0.size ≤ x795 := hpq807.elim (fun q => by rw [q]; exact sz685) (fun q => Nat.le_trans K725.1 q)
          obtain ⟨cq859, kq859, q859a, q859b, q859c⟩ := isOf hZ rfl E812
          obtain ⟨_, _, ⟨T859, L859, k859, n859⟩, -, X859, ⟨Lc859, hQ859, l859, y859, z859⟩, st859⟩ := X793.virtualBack hx (y := (⟨"org/tallyrole/core/Dependencies", "latest", "()I"⟩ : MethodName)) (z := (⟨"org/tallyrole/core/Dependencies", "latest", "()I"⟩ : MethodName)) hown (mvT hZ (own_w hw 85 rfl)) (mvT hZ (own_w hw 86 rfl)) (notFace_of_selects (args := #[]) (mvT hZ (own_w hw 88 rfl))) (mvT hZ (own_w hw 88 rfl)) (mvT hZ (own_w hw 87 rfl)) (by decide) (backOf (W := 0) (rm_lt l Z a0 hw [] x691 x794 x795 x796 x797 x798 x799 x800 x801 (own_del (own_ins (own_ins (fun _ => False) xx) yy) (own_mx xx yy)) x802 T793.heap n0 Zs846 E812 F813 F814 F815 F816 A817 A818 (hpq811.elim (fun z => (Or.inr (Or.inl z))) (fun z => (z.elim (fun z => (Or.inr (Or.inr (Or.inl z)))) (fun z => (z.elim (fun z => (Or.inr (Or.inr (Or.inr (Or.inl z))))) (fun z => (z.elim (fun z => (Or.inr (Or.inr (Or.inr (Or.inr (Or.inl z)))))) (fun z => (Or.inr (Or.inr (Or.inr (Or.inr (Or.inr (Or.inl z))))))))))))))) hZ (own_w hw 89 rfl) (own_w hw 3 rfl) (by decide) (by decide)) q859a q859c (g := (mkF m 192 #[.val (.int aa), .val (.int bb), .val (.int cq), .val (.int ff), .val (.int xx), .val (.int yy), .val (.int zz), .val (.int (1 : Int32)), .val (.int (1 : Int32)), .val (.ref b580), .val (.int (own_mx xx yy)), .val (.int (-1 : Int32)), .val (.ref x691), .val (.int (own_mx (own_mx xx yy) zz)), .val (.int (1 : Int32)), .unset] [(.ref x691)])) rfl (by rw [hml]; rfl) (Steps.refl _) (argsL := []) (rest := []) (lenOf pd_11 rfl) rfl (by show 2 * 0 + _ ≤ _; exact Nat.le_of_eq rfl) (hb hby at_192) (fun _ _ => ⟨rfl, rfl, (by decide : 10 + 0 ≤ _), (by decide : 26 + 0 ≤ _)⟩)
          dsimp only [Pt.U, Pt.locs, Pt.cells, Pt.slots] at X859 l859 y859 z859 st859 hQ859
          subst l859 y859 z859
          obtain ⟨x860, rfl, N859q, hq861, hpq862⟩ := hQ859
          have N859 := Fr.app N793 N859q
          obtain ⟨cq863, kq863, q863a, q863b, q863c⟩ := isOf hZ hq861 E837
          obtain ⟨_, _, ⟨T863, L863, k863, n863⟩, -, X863, ⟨Lc863, hQ863, l863, y863, z863⟩, st863⟩ := X859.virtualBack hx (y := (⟨"org/tallyrole/core/Dependencies", "latest", "()I"⟩ : MethodName)) (z := (⟨"org/tallyrole/core/Dependencies", "latest", "()I"⟩ : MethodName)) hown (mvT hZ (own_w hw 85 rfl)) (mvT hZ (own_w hw 86 rfl)) (notFace_of_selects (args := #[]) (mvT hZ (own_w hw 88 rfl))) (mvT hZ (own_w hw 88 rfl)) (mvT hZ (own_w hw 87 rfl)) (by decide) (backOf (W := 0) (rm_lt l Z a0 hw [] b580 x726 x727 x728 x729 x730 x731 x732 x733 (own_ins (own_ins (own_ins (fun _ => False) xx) yy) zz) x734 T793.heap n0 Zs846 E837 F838 F839 F840 F841 A842 A843 (hpq743.elim (fun z => (Or.inr (Or.inr (Or.inl z)))) (fun z => (z.elim (fun z => (Or.inr (Or.inr (Or.inr (Or.inr (Or.inl z)))))) (fun z => (z.elim (fun z => (Or.inr (Or.inr (Or.inr (Or.inr (Or.inr (Or.inl z))))))) (fun z => (Or.inr (Or.inr (Or.inr (Or.inr (Or.inr (Or.inr z))))))))))))) hZ (own_w hw 89 rfl) (own_w hw 3 rfl) (by decide) (by decide)) q863a q863c (g := (mkF m 202 #[.val (.int aa), .val (.int bb), .val (.int cq), .val (.int ff), .val (.int xx), .val (.int yy), .val (.int zz), .val (.int (1 : Int32)), .val (.int (1 : Int32)), .val (.ref b580), .val (.int (own_mx xx yy)), .val (.int (-1 : Int32)), .val (.ref x691), .val (.int (own_mx (own_mx xx yy) zz)), .val (.int (1 : Int32)), .unset] [(.ref b580)])) rfl (by rw [hml]; rfl) (Steps.refl _) (argsL := []) (rest := []) (lenOf pd_11 rfl) rfl (by show 2 * 0 + _ ≤ _; exact Nat.le_of_eq rfl) (hb hby at_202) (fun _ _ => ⟨rfl, hq861, (by decide : 10 + 0 ≤ _), (by decide : 26 + 0 ≤ _)⟩)
          dsimp only [Pt.U, Pt.locs, Pt.cells, Pt.slots] at X863 l863 y863 z863 st863 hQ863
          subst l863 y863 z863
          obtain ⟨x864, rfl, N863q, hq865, hpq866⟩ := hQ863
          have N863 := Fr.app N859 N863q
          have pre867 := fun (t : State) (k : Steps p.tables e below (T863.setTop (mkF m 232 #[.val (.int aa), .val (.int bb), .val (.int cq), .val (.int ff), .val (.int xx), .val (.int yy), .val (.int zz), .val (.int (1 : Int32)), .val (.int (1 : Int32)), .val (.ref b580), .val (.int (own_mx xx yy)), .val (.int (-1 : Int32)), .val (.ref x691), .val (.int (own_mx (own_mx xx yy) zz)), .val (.int (1 : Int32)), .val (.int (1 : Int32))] [(.int (1 : Int32))])) t) => pre688 t (by
            refine XS.icmpYes X686.here hx rfl (pc0 := 117) (pc' := 130) rfl (hb hby at_117) rfl (teq hc689).1 (by decide) (by decide) ?_
            refine XS.iconst X686.here hx rfl (hb hby at_130) ?_
            refine XS.istore X686.here hx rfl (hb hby at_131) rfl (l' := #[.val (.int aa), .val (.int bb), .val (.int cq), .val (.int ff), .val (.int xx), .val (.int yy), .val (.int zz), .val (.int (1 : Int32)), .val (.int (1 : Int32)), .val (.ref b580), .val (.int (own_mx xx yy)), .val (.int (-1 : Int32)), .unset, .unset, .unset, .unset]) rfl ?_
            refine XS.aload X686.here hx rfl (hb hby at_133) rfl rfl ?_
            refine st690.trans ?_
            refine XS.astore X690.here hx rfl (hb hby at_138) rfl rfl (l' := #[.val (.int aa), .val (.int bb), .val (.int cq), .val (.int ff), .val (.int xx), .val (.int yy), .val (.int zz), .val (.int (1 : Int32)), .val (.int (1 : Int32)), .val (.ref b580), .val (.int (own_mx xx yy)), .val (.int (-1 : Int32)), .val (.ref x691), .unset, .unset, .unset]) rfl ?_
            refine XS.aload X690.here hx rfl (hb hby at_140) rfl rfl ?_
            refine XS.iload X690.here hx rfl (hb hby at_142) rfl ?_
            refine st725.trans ?_
            refine XS.iload X725.here hx rfl (hb hby at_147) rfl ?_
            refine XS.iload X725.here hx rfl (hb hby at_149) rfl ?_
            refine st783 _ ?_
            refine XS.istore X783.here hx rfl (hb hby at_154) rfl (l' := #[.val (.int aa), .val (.int bb), .val (.int cq), .val (.int ff), .val (.int xx), .val (.int yy), .val (.int zz), .val (.int (1 : Int32)), .val (.int (1 : Int32)), .val (.ref b580), .val (.int (own_mx xx yy)), .val (.int (-1 : Int32)), .val (.ref x691), .val (.int (own_mx (own_mx xx yy) zz)), .unset, .unset]) rfl ?_
            refine XS.aload X783.here hx rfl (hb hby at_156) rfl rfl ?_
            refine st785.trans ?_
            refine XS.iload X785.here hx rfl (hb hby at_161) rfl ?_
            refine XS.icmpNo X785.here hx rfl (hb hby at_163) rfl (teq (own_top_uniq hpq788 (own_top_mx (own_top_1 t18_0) t18_1))).2 ?_
            refine XS.aload X785.here hx rfl (hb hby at_166) rfl rfl ?_
            refine st789.trans ?_
            refine XS.iload X789.here hx rfl (hb hby at_171) rfl ?_
            refine XS.icmpNo X789.here hx rfl (hb hby at_173) rfl (teq (own_top_uniq hpq792 (own_top_mx (own_top_mx (own_top_1 t18_0) t18_1) t18_2))).2 ?_
            refine XS.iconst X789.here hx rfl (hb hby at_176) ?_
            refine XS.goto X789.here hx rfl (pc0 := 177) (pc' := 181) rfl (hb hby at_177) (by decide) (by decide) ?_
            refine XS.istore X789.here hx rfl (hb hby at_181) rfl (l' := #[.val (.int aa), .val (.int bb), .val (.int cq), .val (.int ff), .val (.int xx), .val (.int yy), .val (.int zz), .val (.int (1 : Int32)), .val (.int (1 : Int32)), .val (.ref b580), .val (.int (own_mx xx yy)), .val (.int (-1 : Int32)), .val (.ref x691), .val (.int (own_mx (own_mx xx yy) zz)), .val (.int (1 : Int32)), .unset]) rfl ?_
            refine XS.aload X789.here hx rfl (hb hby at_183) rfl rfl ?_
            refine XS.iload X789.here hx rfl (hb hby at_185) rfl ?_
            refine st793.trans ?_
            refine XS.aload X793.here hx rfl (hb hby at_190) rfl rfl ?_
            refine st859.trans ?_
            refine XS.iload X859.here hx rfl (hb hby at_195) rfl ?_
            refine XS.icmpNo X859.here hx rfl (hb hby at_197) rfl (teq (own_top_uniq hpq862 (own_sec_eq hc689))).2 ?_
            refine XS.aload X859.here hx rfl (hb hby at_200) rfl rfl ?_
            refine st863.trans ?_
            refine XS.iload X863.here hx rfl (hb hby at_205) rfl ?_
            refine XS.icmpNo X863.here hx rfl (hb hby at_207) rfl (teq (own_top_uniq hpq866 (own_top_mx (own_top_mx (own_top_1 t18_0) t18_1) t18_2))).2 ?_
            refine XS.iconst X863.here hx rfl (hb hby at_210) ?_
            refine XS.goto X863.here hx rfl (pc0 := 211) (pc' := 215) rfl (hb hby at_211) (by decide) (by decide) ?_
            refine XS.istore X863.here hx rfl (hb hby at_215) rfl (l' := #[.val (.int aa), .val (.int bb), .val (.int cq), .val (.int ff), .val (.int xx), .val (.int yy), .val (.int zz), .val (.int (1 : Int32)), .val (.int (1 : Int32)), .val (.ref b580), .val (.int (own_mx xx yy)), .val (.int (-1 : Int32)), .val (.ref x691), .val (.int (own_mx (own_mx xx yy) zz)), .val (.int (1 : Int32)), .val (.int (1 : Int32))]) rfl ?_
            refine XS.iload X863.here hx rfl (hb hby at_217) rfl ?_
            refine XS.ifNo X863.here hx rfl (hb hby at_219) rfl ((if0 _ _).trans (feq (by decide : ¬ ((1 : Int32) = (0 : Int32)))).1) ?_
            refine XS.iload X863.here hx rfl (hb hby at_222) rfl ?_
            refine XS.ifNo X863.here hx rfl (hb hby at_224) rfl ((if0 _ _).trans (feq (by decide : ¬ ((1 : Int32) = (0 : Int32)))).1) ?_
            refine XS.iconst X863.here hx rfl (hb hby at_227) ?_
            refine XS.goto X863.here hx rfl (pc0 := 228) (pc' := 232) rfl (hb hby at_228) (by decide) (by decide) ?_
            exact k)
          obtain ⟨fs, hr, hrun, hended, hW, hsame⟩ := X863.leave (v := some (.int (1 : Int32))) (hlocks := BodyLoose.notSynchronized Bd) (fun h => by rw [Bd.returns] at h; cases h)
          refine ⟨_, _, pre867 _ ?_, hrun, hended, _, _, rfl, ?_, ⟨_, rfl⟩, hW, hsame.mono (by decide) (by decide)⟩
          · exact retN X863 hx (t := .boolean) Bd.returns (by simp) (hb hby at_232) hr
          · show Q_law Z aa bb cq ff ka wa kk kw h0 n0 _ T863.heap _
            rw [hq865]
            exact ⟨rfl, N863, K793⟩
        · obtain ⟨_, _, ⟨T868, L868, k868, n868⟩, -, X868, ⟨Lc868, hQ868, l868, y868, z868⟩, st868⟩ := Jvm.LawKit.callS X686 hx (y := (⟨"java/lang/Math", "min", "(II)I"⟩ : MethodName)) hown (mvT hZ (own_w hw 106 rfl)) (mvT hZ (own_w hw 46 rfl)) (mvT hZ (own_w hw 47 rfl)) (mvT hZ (own_w hw 48 rfl)) (by decide) (backOf (W := 0) (rm_mi l Z a0 hw [] xx yy (own_mn xx yy) T645.heap n0 Zs679 (fun q => if_pos q) (fun q => if_neg q)) hZ (own_w hw 48 rfl) (own_w hw 47 rfl) (by decide) (by decide)) (g := (mkF m 124 #[.val (.int aa), .val (.int bb), .val (.int cq), .val (.int ff), .val (.int xx), .val (.int yy), .val (.int zz), .val (.int (1 : Int32)), .val (.int (1 : Int32)), .val (.ref b580), .val (.int (own_mx xx yy)), .unset, .unset, .unset, .unset, .unset] [(.int yy), (.int xx)])) rfl (by rw [hml]; rfl) (argsL := [(.int xx), (.int yy)]) (rest := []) (lenOf pd_2 rfl) rfl (by show 2 * 0 + _ ≤ _; exact Nat.le_of_eq rfl) (hb hby at_124) (fun _ _ => ⟨rfl, hq687, (by decide : 5 + 0 ≤ _), (by decide : 12 + 0 ≤ _)⟩)
          dsimp only [Pt.U, Pt.locs, Pt.cells, Pt.slots] at X868 l868 y868 z868 st868 hQ868
          subst l868 y868 z868
          obtain ⟨rfl, N868q, hq869⟩ := hQ868
          have N868 := Fr.app N686 N868q
          obtain ⟨cq870, kq870, q870a, q870b, q870c⟩ := isOf hZ hq869 E663
          obtain ⟨_, _, ⟨T870, L870, k870, n870⟩, -, X870, ⟨Lc870, hQ870, l870, y870, z870⟩, st870⟩ := X868.virtualBack hx (y := (⟨"org/tallyrole/core/Dependencies", "copy", "()Lorg/tallyrole/core/Dependencies;"⟩ : MethodName)) (z := (⟨"org/tallyrole/core/Dependencies", "copy", "()Lorg/tallyrole/core/Dependencies;"⟩ : MethodName)) hown (mvT hZ (own_w hw 58 rfl)) (mvT hZ (own_w hw 59 rfl)) (notFace_of_selects (args := #[]) (mvT hZ (own_w hw 61 rfl))) (mvT hZ (own_w hw 61 rfl)) (mvT hZ (own_w hw 60 rfl)) (by decide) (backOf (W := 0) (rm_cyN l Z a0 hw [] b580 x646 x647 x651 (0 : Int32) T645.heap n0 Zs679 E663 F664 F665 F666 F667 ge_b580 (own_nz hpq662)) hZ (own_w hw 62 rfl) (own_w hw 3 rfl) (by decide) (by decide)) q870a q870c (g := (mkF m 135 #[.val (.int aa), .val (.int bb), .val (.int cq), .val (.int ff), .val (.int xx), .val (.int yy), .val (.int zz), .val (.int (1 : Int32)), .val (.int (1 : Int32)), .val (.ref b580), .val (.int (own_mx xx yy)), .val (.int (own_mn xx yy)), .unset, .unset, .unset, .unset] [(.ref b580)])) rfl (by rw [hml]; rfl) (Steps.refl _) (argsL := []) (rest := []) (lenOf pd_10 rfl) rfl (by show 2 * 0 + _ ≤ _; exact Nat.le_of_eq rfl) (hb hby at_135) (fun _ _ => ⟨rfl, hq869, (by decide : 5 + 1 ≤ _), (by decide : 12 + 4 ≤ _)⟩)
          dsimp only [Pt.U, Pt.locs, Pt.cells, Pt.slots] at X870 l870 y870 z870 st870 hQ870
          subst l870 y870 z870
          obtain ⟨x871, rfl, N870q, hq872, hpq873, hpq874, F875, F876, F877, F878, E879, F880, F881, F882, F883⟩ := hQ870
          have N870 := Fr.app N868 N870q
          have lt884 : x603 < T645.heap.size := E677.lt
          have lt885 : x604 < T645.heap.size := E678.lt
          have lt886 : b580 < T645.heap.size := E663.lt
          have lt887 : x646 < T645.heap.size := A668.lt
          have lt888 : x647 < T645.heap.size := A669.lt
          have S889 := own_sta_keep S675 hq872 (allS (own_ns_exa E663) all0)
          have S890 := own_sta_keep S676 hq872 (allS (own_ns_exa E663) all0)
          have E891 := E677.keep hq872
          have E892 := E678.keep hq872
          have E893 := E663.keep hq872
          have A894 := A668.keep hq872 (ninS (Ne.symm hpq659) nin0)
          have A895 := A669.keep hq872 (ninS (Ne.symm hpq660) nin0)
          have E896 := E670.keep hq872
          have E897 := E671.keep hq872
          have K870 : Keep h0 T870.heap [] := K645.trans hq872 (allS (Or.inr sz_b580) all0)
          have Zs898 : n0 ≤ T870.heap.size := (Nat.le_trans Zs679 hq872.1)
          have ne899 : x603 ≠ x871 := Nat.ne_of_lt (Nat.lt_of_lt_of_le lt884 hpq874)
          have ne900 : x604 ≠ x871 := Nat.ne_of_lt (Nat.lt_of_lt_of_le lt885 hpq874)
          have ne901 : b580 ≠ x871 := Nat.ne_of_lt (Nat.lt_of_lt_of_le lt886 hpq874)
          have ne902 : x646 ≠ x871 := Nat.ne_of_lt (Nat.lt_of_lt_of_le lt887 hpq874)
          have ne903 : x647 ≠ x871 := Nat.ne_of_lt (Nat.lt_of_lt_of_le lt888 hpq874)
          have sz904 : h0.size ≤ x871 := Nat.le_trans K645.1 hpq874
          obtain ⟨cq905, kq905, q905a, q905b, q905c⟩ := isOf hZ rfl E893
          obtain ⟨_, _, ⟨T905, L905, k905, n905⟩, -, X905, ⟨Lc905, hQ905, l905, y905, z905⟩, st905⟩ := X870.virtualBack hx (y := (⟨"org/tallyrole/core/Dependencies", "add", "(I)V"⟩ : MethodName)) (z := (⟨"org/tallyrole/core/Dependencies", "add", "(I)V"⟩ : MethodName)) hown (mvT hZ (own_w hw 18 rfl)) (mvT hZ (own_w hw 19 rfl)) (notFace_of_selects (args := #[]) (mvT hZ (own_w hw 21 rfl))) (mvT hZ (own_w hw 21 rfl)) (mvT hZ (own_w hw 20 rfl)) (by decide) (backOf (W := 0) (rm_adS l Z a0 hw [] b580 x646 x647 x648 x649 x650 x651 x652 x653 (own_ins (own_ins (fun _ => False) xx) yy) zz T870.heap n0 Zs898 E893 F875 F876 F877 F878 A894 A895 E896 E897 hpq662 ge_b580 hpq655 hpq656 hpq659 hpq660 hpq661 t18_2) hZ (own_w hw 22 rfl) (own_w hw 3 rfl) (by decide) (by decide)) q905a q905c (g := (mkF m 144 #[.val (.int aa), .val (.int bb), .val (.int cq), .val (.int ff), .val (.int xx), .val (.int yy), .val (.int zz), .val (.int (1 : Int32)), .val (.int (1 : Int32)), .val (.ref b580), .val (.int (own_mx xx yy)), .val (.int (own_mn xx yy)), .val (.ref x871), .unset, .unset, .unset] [(.int zz), (.ref b580)])) rfl (by rw [hml]; rfl) (Steps.refl _) (argsL := [(.int zz)]) (rest := []) (lenOf pd_7 rfl) rfl (by show 2 * 0 + _ ≤ _; exact Nat.le_of_eq rfl) (hb hby at_144) (fun _ _ => ⟨rfl, rfl, (by decide : 6 + 2 ≤ _), (by decide : 16 + 6 ≤ _)⟩)
          dsimp only [Pt.U, Pt.locs, Pt.cells, Pt.slots] at X905 l905 y905 z905 st905 hQ905
          subst l905 y905 z905
          obtain ⟨x906, x907, x908, x909, x910, x911, x912, x913, x914, rfl, N905q, hq915, hpq916, hpq917, hpq918, hpq919, hpq920, hpq921, hpq922, hpq923, E924, F925, F926, F927, F928, A929, A930, E931, E932⟩ := hQ905
          have N905 := Fr.app N870 N905q
          have lt933 : x603 < T870.heap.size := E891.lt
          have lt934 : x604 < T870.heap.size := E892.lt
          have lt935 : b580 < T870.heap.size := E893.lt
          have lt936 : x646 < T870.heap.size := A894.lt
          have lt937 : x647 < T870.heap.size := A895.lt
          have lt938 : x871 < T870.heap.size := E879.lt
          have S939 := own_sta_keep S889 hq915 (allS (own_ns_exa E893) all0)
          have S940 := own_sta_keep S890 hq915 (allS (own_ns_exa E893) all0)
          have E941 := E891.keep hq915
          have E942 := E892.keep hq915
          have A943 := A894.keep hq915 (ninS (Ne.symm hpq659) nin0)
          have A944 := A895.keep hq915 (ninS (Ne.symm hpq660) nin0)
          have E945 := E896.keep hq915
          have E946 := E897.keep hq915
          have E947 := E879.keep hq915
          have F948 := F880.keep hq915 (ninS (Ne.symm ne901) nin0)
          have F949 := F881.keep hq915 (ninS (Ne.symm ne901) nin0)
          have F950 := F882.keep hq915 (ninS (Ne.symm ne901) nin0)
          have F951 := F883.keep hq915 (ninS (Ne.symm ne901) nin0)
          have K905 : Keep h0 T905.heap [] := K870.trans hq915 (allS (Or.inr sz_b580) all0)
          have Zs952 : n0 ≤ T905.heap.size := (Nat.le_trans Zs898 hq915.1)
          have ne953 : x604 ≠ x906 := hpq918.elim (fun q => by rw [q]; exact ne681) (fun q => Nat.ne_of_lt (Nat.lt_of_lt_of_le lt934 q))
          have ne954 : b580 ≠ x906 := hpq918.elim (fun q => by rw [q]; exact hpq659) (fun q => Nat.ne_of_lt (Nat.lt_of_lt_of_le lt935 q))
          have ne955 : x647 ≠ x906 := hpq918.elim (fun q => by rw [q]; exact (Ne.symm hpq661)) (fun q => Nat.ne_of_lt (Nat.lt_of_lt_of_le lt937 q))
          have ne956 : x871 ≠ x906 := hpq918.elim (fun q => by rw [q]; exact (Ne.symm ne902)) (fun q => Nat.ne_of_lt (Nat.lt_of_lt_of_le lt938 q))
          have sz957 : h0.size ≤ x906 := hpq918.elim (fun q => by rw [q]; exact sz682) (fun q => Nat.le_trans K870.1 q)
          have ne958 : x603 ≠ x907 := hpq919.elim (fun q => by rw [q]; exact ne684) (fun q => Nat.ne_of_lt (Nat.lt_of_lt_of_le lt933 q))
          have ne959 : b580 ≠ x907 := hpq919.elim (fun q => by rw [q]; exact hpq660) (fun q => Nat.ne_of_lt (Nat.lt_of_lt_of_le lt935 q))
          have ne960 : x646 ≠ x907 := hpq919.elim (fun q => by rw [q]; exact hpq661) (fun q => Nat.ne_of_lt (Nat.lt_of_lt_of_le lt936 q))
          have ne961 : x871 ≠ x907 := hpq919.elim (fun q => by rw [q]; exact (Ne.symm ne903)) (fun q => Nat.ne_of_lt (Nat.lt_of_lt_of_le lt938 q))
          have sz962 : h0.size ≤ x907 := hpq919.elim (fun q => by rw [q]; exact sz685) (fun q => Nat.le_trans K870.1 q)
          obtain ⟨_, _, ⟨T963, L963, k963, n963⟩, -, X963, ⟨Lc963, hQ963, l963, y963, z963⟩, st963⟩ := Jvm.LawKit.callS X905 hx (y := (⟨"java/lang/Math", "max", "(II)I"⟩ : MethodName)) hown (mvT hZ (own_w hw 82 rfl)) (mvT hZ (own_w hw 83 rfl)) (mvT hZ (own_w hw 47 rfl)) (mvT hZ (own_w hw 84 rfl)) (by decide) (backOf (W := 0) (rm_mx l Z a0 hw [] (own_mx xx yy) zz T905.heap n0 Zs952 ) hZ (own_w hw 84 rfl) (own_w hw 47 rfl) (by decide) (by decide)) (g := (mkF m 151 #[.val (.int aa), .val (.int bb), .val (.int cq), .val (.int ff), .val (.int xx), .val (.int yy), .val (.int zz), .val (.int (1 : Int32)), .val (.int (1 : Int32)), .val (.ref b580), .val (.int (own_mx xx yy)), .val (.int (own_mn xx yy)), .val (.ref x871), .unset, .unset, .unset] [(.int zz), (.int (own_mx xx yy))])) rfl (by rw [hml]; rfl) (argsL := [(.int (own_mx xx yy)), (.int zz)]) (rest := []) (lenOf pd_2 rfl) rfl (by show 2 * 0 + _ ≤ _; exact Nat.le_of_eq rfl) (hb hby at_151) (fun _ _ => ⟨rfl, rfl, (by decide : 8 + 0 ≤ _), (by decide : 22 + 0 ≤ _)⟩)
          dsimp only [Pt.U, Pt.locs, Pt.cells, Pt.slots] at X963 l963 y963 z963 st963 hQ963
          subst l963 y963 z963
          obtain ⟨rfl, N963q, hq964⟩ := hQ963
          have N963 := Fr.app N905 N963q
          obtain ⟨cq965, kq965, q965a, q965b, q965c⟩ := isOf hZ hq964 E947
          obtain ⟨_, _, ⟨T965, L965, k965, n965⟩, -, X965, ⟨Lc965, hQ965, l965, y965, z965⟩, st965⟩ := X963.virtualBack hx (y := (⟨"org/tallyrole/core/Dependencies", "latest", "()I"⟩ : MethodName)) (z := (⟨"org/tallyrole/core/Dependencies", "latest", "()I"⟩ : MethodName)) hown (mvT hZ (own_w hw 85 rfl)) (mvT hZ (own_w hw 86 rfl)) (notFace_of_selects (args := #[]) (mvT hZ (own_w hw 88 rfl))) (mvT hZ (own_w hw 88 rfl)) (mvT hZ (own_w hw 87 rfl)) (by decide) (backOf (W := 0) (rm_lt l Z a0 hw [] x871 x646 x647 x648 x649 x650 x651 x652 x653 (own_ins (own_ins (fun _ => False) xx) yy) (1 : Int32) T905.heap n0 Zs952 E947 F948 F949 F950 F951 A943 A944 (hpq662.elim (fun z => (Or.inr (Or.inr (Or.inl z)))) (fun z => (Or.inr (Or.inr (Or.inr (Or.inr (Or.inr (Or.inl z))))))))) hZ (own_w hw 89 rfl) (own_w hw 3 rfl) (by decide) (by decide)) q965a q965c (g := (mkF m 158 #[.val (.int aa), .val (.int bb), .val (.int cq), .val (.int ff), .val (.int xx), .val (.int yy), .val (.int zz), .val (.int (1 : Int32)), .val (.int (1 : Int32)), .val (.ref b580), .val (.int (own_mx xx yy)), .val (.int (own_mn xx yy)), .val (.ref x871), .val (.int (own_mx (own_mx xx yy) zz)), .unset, .unset] [(.ref x871)])) rfl (by rw [hml]; rfl) (Steps.refl _) (argsL := []) (rest := []) (lenOf pd_11 rfl) rfl (by show 2 * 0 + _ ≤ _; exact Nat.le_of_eq rfl) (hb hby at_158) (fun _ _ => ⟨rfl, hq964, (by decide : 8 + 0 ≤ _), (by decide : 22 + 0 ≤ _)⟩)
          dsimp only [Pt.U, Pt.locs, Pt.cells, Pt.slots] at X965 l965 y965 z965 st965 hQ965
          subst l965 y965 z965
          obtain ⟨x966, rfl, N965q, hq967, hpq968⟩ := hQ965
          have N965 := Fr.app N963 N965q
          obtain ⟨cq969, kq969, q969a, q969b, q969c⟩ := isOf hZ hq967 E924
          obtain ⟨_, _, ⟨T969, L969, k969, n969⟩, -, X969, ⟨Lc969, hQ969, l969, y969, z969⟩, st969⟩ := X965.virtualBack hx (y := (⟨"org/tallyrole/core/Dependencies", "latest", "()I"⟩ : MethodName)) (z := (⟨"org/tallyrole/core/Dependencies", "latest", "()I"⟩ : MethodName)) hown (mvT hZ (own_w hw 85 rfl)) (mvT hZ (own_w hw 86 rfl)) (notFace_of_selects (args := #[]) (mvT hZ (own_w hw 88 rfl))) (mvT hZ (own_w hw 88 rfl)) (mvT hZ (own_w hw 87 rfl)) (by decide) (backOf (W := 0) (rm_lt l Z a0 hw [] b580 x906 x907 x908 x909 x910 x911 x912 x913 (own_ins (own_ins (own_ins (fun _ => False) xx) yy) zz) x914 T905.heap n0 Zs952 E924 F925 F926 F927 F928 A929 A930 (hpq923.elim (fun z => (Or.inr (Or.inr (Or.inl z)))) (fun z => (z.elim (fun z => (Or.inr (Or.inr (Or.inr (Or.inr (Or.inl z)))))) (fun z => (z.elim (fun z => (Or.inr (Or.inr (Or.inr (Or.inr (Or.inr (Or.inl z))))))) (fun z => (Or.inr (Or.inr (Or.inr (Or.inr (Or.inr (Or.inr z))))))))))))) hZ (own_w hw 89 rfl) (own_w hw 3 rfl) (by decide) (by decide)) q969a q969c (g := (mkF m 168 #[.val (.int aa), .val (.int bb), .val (.int cq), .val (.int ff), .val (.int xx), .val (.int yy), .val (.int zz), .val (.int (1 : Int32)), .val (.int (1 : Int32)), .val (.ref b580), .val (.int (own_mx xx yy)), .val (.int (own_mn xx yy)), .val (.ref x871), .val (.int (own_mx (own_mx xx yy) zz)), .unset, .unset] [(.ref b580)])) rfl (by rw [hml]; rfl) (Steps.refl _) (argsL := []) (rest := []) (lenOf pd_11 rfl) rfl (by show 2 * 0 + _ ≤ _; exact Nat.le_of_eq rfl) (hb hby at_168) (fun _ _ => ⟨rfl, hq967, (by decide : 8 + 0 ≤ _), (by decide : 22 + 0 ≤ _)⟩)
          dsimp only [Pt.U, Pt.locs, Pt.cells, Pt.slots] at X969 l969 y969 z969 st969 hQ969
          subst l969 y969 z969
          obtain ⟨x970, rfl, N969q, hq971, hpq972⟩ := hQ969
          have N969 := Fr.app N965 N969q
          obtain ⟨cq973, kq973, q973a, q973b, q973c⟩ := isOf hZ hq971 E947
          obtain ⟨_, _, ⟨T973, L973, k973, n973⟩, -, X973, ⟨Lc973, hQ973, l973, y973, z973⟩, st973⟩ := X969.virtualBack hx (y := (⟨"org/tallyrole/core/Dependencies", "remove", "(I)V"⟩ : MethodName)) (z := (⟨"org/tallyrole/core/Dependencies", "remove", "(I)V"⟩ : MethodName)) hown (mvT hZ (own_w hw 99 rfl)) (mvT hZ (own_w hw 100 rfl)) (notFace_of_selects (args := #[]) (mvT hZ (own_w hw 102 rfl))) (mvT hZ (own_w hw 102 rfl)) (mvT hZ (own_w hw 101 rfl)) (by decide) (backOf (W := 0) (rm_rmS l Z a0 hw [] x871 x646 x647 x648 x649 x650 x651 x652 x653 (own_ins (own_ins (fun _ => False) xx) yy) (own_mx xx yy) T905.heap n0 Zs952 E947 F948 F949 F950 F951 A943 A944 E945 E946 hpq662 hpq873 hpq655 hpq656 (Ne.symm ne902) (Ne.symm ne903) hpq661) hZ (own_w hw 103 rfl) (own_w hw 3 rfl) (by decide) (by decide)) q973a q973c (g := (mkF m 187 #[.val (.int aa), .val (.int bb), .val (.int cq), .val (.int ff), .val (.int xx), .val (.int yy), .val (.int zz), .val (.int (1 : Int32)), .val (.int (1 : Int32)), .val (.ref b580), .val (.int (own_mx xx yy)), .val (.int (own_mn xx yy)), .val (.ref x871), .val (.int (own_mx (own_mx xx yy) zz)), .val (.int (1 : Int32)), .unset] [(.int (own_mx xx yy)), (.ref x871)])) rfl (by rw [hml]; rfl) (Steps.refl _) (argsL := [(.int (own_mx xx yy))]) (rest := []) (lenOf pd_7 rfl) rfl (by show 2 * 0 + _ ≤ _; exact Nat.le_of_eq rfl) (hb hby at_187) (fun _ _ => ⟨rfl, hq971, (by decide : 8 + 2 ≤ _), (by decide : 22 + 4 ≤ _)⟩)
          dsimp only [Pt.U, Pt.locs, Pt.cells, Pt.slots] at X973 l973 y973 z973 st973 hQ973
          subst l973 y973 z973
          obtain ⟨x974, x975, x976, x977, x978, x979, x980, x981, x982, rfl, N973q, hq983, hpq984, hpq985, hpq986, hpq987, hpq988, hpq989, hpq990, hpq991, E992, F993, F994, F995, F996, A997, A998, E999, E1000⟩ := hQ973
          have N973 := Fr.app N969 N973q
          have lt1001 : x603 < T905.heap.size := E941.lt
          have lt1002 : x604 < T905.heap.size := E942.lt
          have lt1003 : x646 < T905.heap.size := A943.lt
          have lt1004 : x647 < T905.heap.size := A944.lt
          have lt1005 : x871 < T905.heap.size := E947.lt
          have lt1006 : b580 < T905.heap.size := E924.lt
          have lt1007 : x906 < T905.heap.size := A929.lt
          have lt1008 : x907 < T905.heap.size := A930.lt
          have S1009 := own_sta_keep S939 hq983 (allS (own_ns_exa E947) all0)
          have S1010 := own_sta_keep S940 hq983 (allS (own_ns_exa E947) all0)
          have E1011 := E941.keep hq983
          have E1012 := E942.keep hq983
          have A1013 := A943.keep hq983 (ninS ne902 nin0)
          have A1014 := A944.keep hq983 (ninS ne903 nin0)
          have E1015 := E945.keep hq983
          have E1016 := E946.keep hq983
          have E1017 := E924.keep hq983
          have F1018 := F925.keep hq983 (ninS ne901 nin0)
          have F1019 := F926.keep hq983 (ninS ne901 nin0)
          have F1020 := F927.keep hq983 (ninS ne901 nin0)
          have F1021 := F928.keep hq983 (ninS ne901 nin0)
          have A1022 := A929.keep hq983 (ninS (Ne.symm ne956) nin0)
          have A1023 := A930.keep hq983 (ninS (Ne.symm ne961) nin0)
          have E1024 := E931.keep hq983
          have E1025 := E932.keep hq983
          have K973 : Keep h0 T973.heap [] := K905.trans hq983 (allS (Or.inr sz904) all0)
          have Zs1026 : n0 ≤ T973.heap.size := (Nat.le_trans Zs952 hq983.1)
          have ne1027 : x604 ≠ x974 := hpq986.elim (fun q => by rw [q]; exact ne681) (fun q => Nat.ne_of_lt (Nat.lt_of_lt_of_le lt1002 q))
          have ne1028 : x647 ≠ x974 := hpq986.elim (fun q => by rw [q]; exact (Ne.symm hpq661)) (fun q => Nat.ne_of_lt (Nat.lt_of_lt_of_le lt1004 q))
          have ne1029 : x871 ≠ x974 := hpq986.elim (fun q => by rw [q]; exact (Ne.symm ne902)) (fun q => Nat.ne_of_lt (Nat.lt_of_lt_of_le lt1005 q))
          have ne1030 : b580 ≠ x974 := hpq986.elim (fun q => by rw [q]; exact hpq659) (fun q => Nat.ne_of_lt (Nat.lt_of_lt_of_le lt1006 q))
          have ne1031 : x907 ≠ x974 := hpq986.elim (fun q => by rw [q]; exact (Ne.symm ne960)) (fun q => Nat.ne_of_lt (Nat.lt_of_lt_of_le lt1008 q))
          have sz1032 : h0.size ≤ x974 := hpq986.elim (fun q => by rw [q]; exact sz682) (fun q => Nat.le_trans K905.1 q)
          have ne1033 : x603 ≠ x975 := hpq987.elim (fun q => by rw [q]; exact ne684) (fun q => Nat.ne_of_lt (Nat.lt_of_lt_of_le lt1001 q))
          have ne1034 : x646 ≠ x975 := hpq987.elim (fun q => by rw [q]; exact hpq661) (fun q => Nat.ne_of_lt (Nat.lt_of_lt_of_le lt1003 q))
          have ne1035 : x871 ≠ x975 := hpq987.elim (fun q => by rw [q]; exact (Ne.symm ne903)) (fun q => Nat.ne_of_lt (Nat.lt_of_lt_of_le lt1005 q))
          have ne1036 : b580 ≠ x975 := hpq987.elim (fun q => by rw [q]; exact hpq660) (fun q => Nat.ne_of_lt (Nat.lt_of_lt_of_le lt1006 q))
          have ne1037 : x906 ≠ x975 := hpq987.elim (fun q => by rw [q]; exact (Ne.symm ne955)) (fun q => Nat.ne_of_lt (Nat.lt_of_lt_of_le lt1007 q))
          have sz1038 : h0.size ≤ x975 := hpq987.elim (fun q => by rw [q]; exact sz685) (fun q => Nat.le_trans K905.1 q)
          obtain ⟨cq1039, kq1039, q1039a, q1039b, q1039c⟩ := isOf hZ rfl E992
          obtain ⟨_, _, ⟨T1039, L1039, k1039, n1039⟩, -, X1039, ⟨Lc1039, hQ1039, l1039, y1039, z1039⟩, st1039⟩ := X973.virtualBack hx (y := (⟨"org/tallyrole/core/Dependencies", "latest", "()I"⟩ : MethodName)) (z := (⟨"org/tallyrole/core/Dependencies", "latest", "()I"⟩ : MethodName)) hown (mvT hZ (own_w hw 85 rfl)) (mvT hZ (own_w hw 86 rfl)) (notFace_of_selects (args := #[]) (mvT hZ (own_w hw 88 rfl))) (mvT hZ (own_w hw 88 rfl)) (mvT hZ (own_w hw 87 rfl)) (by decide) (backOf (W := 0) (rm_lt l Z a0 hw [] x871 x974 x975 x976 x977 x978 x979 x980 x981 (own_del (own_ins (own_ins (fun _ => False) xx) yy) (own_mx xx yy)) x982 T973.heap n0 Zs1026 E992 F993 F994 F995 F996 A997 A998 (hpq991.elim (fun z => (Or.inr (Or.inl z))) (fun z => (z.elim (fun z => (Or.inr (Or.inr (Or.inl z)))) (fun z => (z.elim (fun z => (Or.inr (Or.inr (Or.inr (Or.inl z))))) (fun z => (z.elim (fun z => (Or.inr (Or.inr (Or.inr (Or.inr (Or.inl z)))))) (fun z => (Or.inr (Or.inr (Or.inr (Or.inr (Or.inr (Or.inl z))))))))))))))) hZ (own_w hw 89 rfl) (own_w hw 3 rfl) (by decide) (by decide)) q1039a q1039c (g := (mkF m 192 #[.val (.int aa), .val (.int bb), .val (.int cq), .val (.int ff), .val (.int xx), .val (.int yy), .val (.int zz), .val (.int (1 : Int32)), .val (.int (1 : Int32)), .val (.ref b580), .val (.int (own_mx xx yy)), .val (.int (own_mn xx yy)), .val (.ref x871), .val (.int (own_mx (own_mx xx yy) zz)), .val (.int (1 : Int32)), .unset] [(.ref x871)])) rfl (by rw [hml]; rfl) (Steps.refl _) (argsL := []) (rest := []) (lenOf pd_11 rfl) rfl (by show 2 * 0 + _ ≤ _; exact Nat.le_of_eq rfl) (hb hby at_192) (fun _ _ => ⟨rfl, rfl, (by decide : 10 + 0 ≤ _), (by decide : 26 + 0 ≤ _)⟩)
          dsimp only [Pt.U, Pt.locs, Pt.cells, Pt.slots] at X1039 l1039 y1039 z1039 st1039 hQ1039
          subst l1039 y1039 z1039
          obtain ⟨x1040, rfl, N1039q, hq1041, hpq1042⟩ := hQ1039
          have N1039 := Fr.app N973 N1039q
          obtain ⟨cq1043, kq1043, q1043a, q1043b, q1043c⟩ := isOf hZ hq1041 E1017
          obtain ⟨_, _, ⟨T1043, L1043, k1043, n1043⟩, -, X1043, ⟨Lc1043, hQ1043, l1043, y1043, z1043⟩, st1043⟩ := X1039.virtualBack hx (y := (⟨"org/tallyrole/core/Dependencies", "latest", "()I"⟩ : MethodName)) (z := (⟨"org/tallyrole/core/Dependencies", "latest", "()I"⟩ : MethodName)) hown (mvT hZ (own_w hw 85 rfl)) (mvT hZ (own_w hw 86 rfl)) (notFace_of_selects (args := #[]) (mvT hZ (own_w hw 88 rfl))) (mvT hZ (own_w hw 88 rfl)) (mvT hZ (own_w hw 87 rfl)) (by decide) (backOf (W := 0) (rm_lt l Z a0 hw [] b580 x906 x907 x908 x909 x910 x911 x912 x913 (own_ins (own_ins (own_ins (fun _ => False) xx) yy) zz) x914 T973.heap n0 Zs1026 E1017 F1018 F1019 F1020 F1021 A1022 A1023 (hpq923.elim (fun z => (Or.inr (Or.inr (Or.inl z)))) (fun z => (z.elim (fun z => (Or.inr (Or.inr (Or.inr (Or.inr (Or.inl z)))))) (fun z => (z.elim (fun z => (Or.inr (Or.inr (Or.inr (Or.inr (Or.inr (Or.inl z))))))) (fun z => (Or.inr (Or.inr (Or.inr (Or.inr (Or.inr (Or.inr z))))))))))))) hZ (own_w hw 89 rfl) (own_w hw 3 rfl) (by decide) (by decide)) q1043a q1043c (g := (mkF m 202 #[.val (.int aa), .val (.int bb), .val (.int cq), .val (.int ff), .val (.int xx), .val (.int yy), .val (.int zz), .val (.int (1 : Int32)), .val (.int (1 : Int32)), .val (.ref b580), .val (.int (own_mx xx yy)), .val (.int (own_mn xx yy)), .val (.ref x871), .val (.int (own_mx (own_mx xx yy) zz)), .val (.int (1 : Int32)), .unset] [(.ref b580)])) rfl (by rw [hml]; rfl) (Steps.refl _) (argsL := []) (rest := []) (lenOf pd_11 rfl) rfl (by show 2 * 0 + _ ≤ _; exact Nat.le_of_eq rfl) (hb hby at_202) (fun _ _ => ⟨rfl, hq1041, (by decide : 10 + 0 ≤ _), (by decide : 26 + 0 ≤ _)⟩)
          dsimp only [Pt.U, Pt.locs, Pt.cells, Pt.slots] at X1043 l1043 y1043 z1043 st1043 hQ1043
          subst l1043 y1043 z1043
          obtain ⟨x1044, rfl, N1043q, hq1045, hpq1046⟩ := hQ1043
          have N1043 := Fr.app N1039 N1043q
          have pre1047 := fun (t : State) (k : Steps p.tables e below (T1043.setTop (mkF m 232 #[.val (.int aa), .val (.int bb), .val (.int cq), .val (.int ff), .val (.int xx), .val (.int yy), .val (.int zz), .val (.int (1 : Int32)), .val (.int (1 : Int32)), .val (.ref b580), .val (.int (own_mx xx yy)), .val (.int (own_mn xx yy)), .val (.ref x871), .val (.int (own_mx (own_mx xx yy) zz)), .val (.int (1 : Int32)), .val (.int (1 : Int32))] [(.int (1 : Int32))])) t) => pre688 t (by
            refine XS.icmpNo X686.here hx rfl (hb hby at_117) rfl (feq hc689).1 ?_
            refine XS.iload X686.here hx rfl (hb hby at_120) rfl ?_
            refine XS.iload X686.here hx rfl (hb hby at_122) rfl ?_
            refine st868 _ ?_
            refine XS.goto X868.here hx rfl (pc0 := 127) (pc' := 131) rfl (hb hby at_127) (by decide) (by decide) ?_
            refine XS.istore X868.here hx rfl (hb hby at_131) rfl (l' := #[.val (.int aa), .val (.int bb), .val (.int cq), .val (.int ff), .val (.int xx), .val (.int yy), .val (.int zz), .val (.int (1 : Int32)), .val (.int (1 : Int32)), .val (.ref b580), .val (.int (own_mx xx yy)), .val (.int (own_mn xx yy)), .unset, .unset, .unset, .unset]) rfl ?_
            refine XS.aload X868.here hx rfl (hb hby at_133) rfl rfl ?_
            refine st870.trans ?_
            refine XS.astore X870.here hx rfl (hb hby at_138) rfl rfl (l' := #[.val (.int aa), .val (.int bb), .val (.int cq), .val (.int ff), .val (.int xx), .val (.int yy), .val (.int zz), .val (.int (1 : Int32)), .val (.int (1 : Int32)), .val (.ref b580), .val (.int (own_mx xx yy)), .val (.int (own_mn xx yy)), .val (.ref x871), .unset, .unset, .unset]) rfl ?_
            refine XS.aload X870.here hx rfl (hb hby at_140) rfl rfl ?_
            refine XS.iload X870.here hx rfl (hb hby at_142) rfl ?_
            refine st905.trans ?_
            refine XS.iload X905.here hx rfl (hb hby at_147) rfl ?_
            refine XS.iload X905.here hx rfl (hb hby at_149) rfl ?_
            refine st963 _ ?_
            refine XS.istore X963.here hx rfl (hb hby at_154) rfl (l' := #[.val (.int aa), .val (.int bb), .val (.int cq), .val (.int ff), .val (.int xx), .val (.int yy), .val (.int zz), .val (.int (1 : Int32)), .val (.int (1 : Int32)), .val (.ref b580), .val (.int (own_mx xx yy)), .val (.int (own_mn xx yy)), .val (.ref x871), .val (.int (own_mx (own_mx xx yy) zz)), .unset, .unset]) rfl ?_
            refine XS.aload X963.here hx rfl (hb hby at_156) rfl rfl ?_
            refine st965.trans ?_
            refine XS.iload X965.here hx rfl (hb hby at_161) rfl ?_
            refine XS.icmpNo X965.here hx rfl (hb hby at_163) rfl (teq (own_top_uniq hpq968 (own_top_mx (own_top_1 t18_0) t18_1))).2 ?_
            refine XS.aload X965.here hx rfl (hb hby at_166) rfl rfl ?_
            refine st969.trans ?_
            refine XS.iload X969.here hx rfl (hb hby at_171) rfl ?_
            refine XS.icmpNo X969.here hx rfl (hb hby at_173) rfl (teq (own_top_uniq hpq972 (own_top_mx (own_top_mx (own_top_1 t18_0) t18_1) t18_2))).2 ?_
            refine XS.iconst X969.here hx rfl (hb hby at_176) ?_
            refine XS.goto X969.here hx rfl (pc0 := 177) (pc' := 181) rfl (hb hby at_177) (by decide) (by decide) ?_
            refine XS.istore X969.here hx rfl (hb hby at_181) rfl (l' := #[.val (.int aa), .val (.int bb), .val (.int cq), .val (.int ff), .val (.int xx), .val (.int yy), .val (.int zz), .val (.int (1 : Int32)), .val (.int (1 : Int32)), .val (.ref b580), .val (.int (own_mx xx yy)), .val (.int (own_mn xx yy)), .val (.ref x871), .val (.int (own_mx (own_mx xx yy) zz)), .val (.int (1 : Int32)), .unset]) rfl ?_
            refine XS.aload X969.here hx rfl (hb hby at_183) rfl rfl ?_
            refine XS.iload X969.here hx rfl (hb hby at_185) rfl ?_
            refine st973.trans ?_
            refine XS.aload X973.here hx rfl (hb hby at_190) rfl rfl ?_
            refine st1039.trans ?_
            refine XS.iload X1039.here hx rfl (hb hby at_195) rfl ?_
            refine XS.icmpNo X1039.here hx rfl (hb hby at_197) rfl (teq (own_top_uniq hpq1042 (own_sec_ne hc689))).2 ?_
            refine XS.aload X1039.here hx rfl (hb hby at_200) rfl rfl ?_
            refine st1043.trans ?_
            refine XS.iload X1043.here hx rfl (hb hby at_205) rfl ?_
            refine XS.icmpNo X1043.here hx rfl (hb hby at_207) rfl (teq (own_top_uniq hpq1046 (own_top_mx (own_top_mx (own_top_1 t18_0) t18_1) t18_2))).2 ?_
            refine XS.iconst X1043.here hx rfl (hb hby at_210) ?_
            refine XS.goto X1043.here hx rfl (pc0 := 211) (pc' := 215) rfl (hb hby at_211) (by decide) (by decide) ?_
            refine XS.istore X1043.here hx rfl (hb hby at_215) rfl (l' := #[.val (.int aa), .val (.int bb), .val (.int cq), .val (.int ff), .val (.int xx), .val (.int yy), .val (.int zz), .val (.int (1 : Int32)), .val (.int (1 : Int32)), .val (.ref b580), .val (.int (own_mx xx yy)), .val (.int (own_mn xx yy)), .val (.ref x871), .val (.int (own_mx (own_mx xx yy) zz)), .val (.int (1 : Int32)), .val (.int (1 : Int32))]) rfl ?_
            refine XS.iload X1043.here hx rfl (hb hby at_217) rfl ?_
            refine XS.ifNo X1043.here hx rfl (hb hby at_219) rfl ((if0 _ _).trans (feq (by decide : ¬ ((1 : Int32) = (0 : Int32)))).1) ?_
            refine XS.iload X1043.here hx rfl (hb hby at_222) rfl ?_
            refine XS.ifNo X1043.here hx rfl (hb hby at_224) rfl ((if0 _ _).trans (feq (by decide : ¬ ((1 : Int32) = (0 : Int32)))).1) ?_
            refine XS.iconst X1043.here hx rfl (hb hby at_227) ?_
            refine XS.goto X1043.here hx rfl (pc0 := 228) (pc' := 232) rfl (hb hby at_228) (by decide) (by decide) ?_
            exact k)
          obtain ⟨fs, hr, hrun, hended, hW, hsame⟩ := X1043.leave (v := some (.int (1 : Int32))) (hlocks := BodyLoose.notSynchronized Bd) (fun h => by rw [Bd.returns] at h; cases h)
          refine ⟨_, _, pre1047 _ ?_, hrun, hended, _, _, rfl, ?_, ⟨_, rfl⟩, hW, hsame.mono (by decide) (by decide)⟩
          · exact retN X1043 hx (t := .boolean) Bd.returns (by simp) (hb hby at_232) hr
          · show Q_law Z aa bb cq ff ka wa kk kw h0 n0 _ T1043.heap _
            rw [hq1045]
            exact ⟨rfl, N1043, K973⟩
  have pre1048 := fun (t : State) (k : Steps p.tables e below (s₁.setTop (mkF m 18 #[.val (.int aa), .val (.int bb), .val (.int cq), .val (.int ff), .val (.int (aa &&& (2147483647 : Int32))), .val (.int (bb &&& (2147483647 : Int32))), .val (.int (cq &&& (2147483647 : Int32))), .unset, .unset, .unset, .unset, .unset, .unset, .unset, .unset, .unset] [])) t) => pre0 t (by
    refine XS.iloadN X0.here hx rfl (hb hby at_0) rfl ?_
    refine X0.ldcInt hx hown (mvT hZ (own_w hw 0 rfl)) (g := (mkF m 1 #[.val (.int aa), .val (.int bb), .val (.int cq), .val (.int ff), .unset, .unset, .unset, .unset, .unset, .unset, .unset, .unset, .unset, .unset, .unset, .unset] [(.int aa)])) rfl (hb hby at_1) _ ?_
    refine XS.iand X0.here hx rfl (hb hby at_3) rfl ?_
    refine XS.istore X0.here hx rfl (hb hby at_4) rfl (l' := #[.val (.int aa), .val (.int bb), .val (.int cq), .val (.int ff), .val (.int (aa &&& (2147483647 : Int32))), .unset, .unset, .unset, .unset, .unset, .unset, .unset, .unset, .unset, .unset, .unset]) rfl ?_
    refine XS.iloadN X0.here hx rfl (hb hby at_6) rfl ?_
    refine X0.ldcInt hx hown (mvT hZ (own_w hw 0 rfl)) (g := (mkF m 7 #[.val (.int aa), .val (.int bb), .val (.int cq), .val (.int ff), .val (.int (aa &&& (2147483647 : Int32))), .unset, .unset, .unset, .unset, .unset, .unset, .unset, .unset, .unset, .unset, .unset] [(.int bb)])) rfl (hb hby at_7) _ ?_
    refine XS.iand X0.here hx rfl (hb hby at_9) rfl ?_
    refine XS.istore X0.here hx rfl (hb hby at_10) rfl (l' := #[.val (.int aa), .val (.int bb), .val (.int cq), .val (.int ff), .val (.int (aa &&& (2147483647 : Int32))), .val (.int (bb &&& (2147483647 : Int32))), .unset, .unset, .unset, .unset, .unset, .unset, .unset, .unset, .unset, .unset]) rfl ?_
    refine XS.iloadN X0.here hx rfl (hb hby at_12) rfl ?_
    refine X0.ldcInt hx hown (mvT hZ (own_w hw 0 rfl)) (g := (mkF m 13 #[.val (.int aa), .val (.int bb), .val (.int cq), .val (.int ff), .val (.int (aa &&& (2147483647 : Int32))), .val (.int (bb &&& (2147483647 : Int32))), .unset, .unset, .unset, .unset, .unset, .unset, .unset, .unset, .unset, .unset] [(.int cq)])) rfl (hb hby at_13) _ ?_
    refine XS.iand X0.here hx rfl (hb hby at_15) rfl ?_
    refine XS.istore X0.here hx rfl (hb hby at_16) rfl (l' := #[.val (.int aa), .val (.int bb), .val (.int cq), .val (.int ff), .val (.int (aa &&& (2147483647 : Int32))), .val (.int (bb &&& (2147483647 : Int32))), .val (.int (cq &&& (2147483647 : Int32))), .unset, .unset, .unset, .unset, .unset, .unset, .unset, .unset, .unset]) rfl ?_
    exact k)
  obtain ⟨s2, o2, hs2, hr2⟩ := t18 (aa &&& (2147483647 : Int32)) (bb &&& (2147483647 : Int32)) (cq &&& (2147483647 : Int32)) s₁ _ N0 X0 e0 (own_nn _) (own_nn _) (own_nn _)
  exact ⟨s2, o2, pre1048 _ hs2, hr2⟩

set_option maxRecDepth 65536 in
set_option maxHeartbeats 40000000 in
theorem comes_1 {Post : Tables → Env → Array Value → State → Outcome → State → Prop} (hpost : ∀ tb e args s v u, (limb_1_1.after args s (.returned v) u = true ∧ limb_1_2.after args s (.returned v) u = true ∧ True) → FrameEnd s (.returned v) u (Jvm.fieldLocs frame_1_writes args s ++ Jvm.arrayLocs frame_1_arrays args s ++ Jvm.staticLocs frame_1_statics s) 32 128 → Post tb e args s (.returned v) u) :
    ArmFor flags0 classFile x code maxLocals ret World_1 tables_1 room_1 Calls_1 rest_1 Pre_1 Post := by
  intro l hfl _ _ p e ha hc hk s m args below hf hA hF happ hP
  obtain ⟨hcalls, hrest, hpre⟩ := hP
  obtain ⟨-, -, -, hnamed, -, -, -, hat⟩ := (Spec.applies_iff hf).mp happ
  obtain ⟨hg, hn⟩ := and_e (Cond.before_iff.mp (show (Jvm.Cond.and given_1 narrow_1).before args s = true from hpre))
  obtain ⟨g1, g2⟩ := and_e hg
  obtain ⟨g3, g4⟩ := and_e g2
  obtain ⟨g5, g6⟩ := and_e g4
  obtain ⟨g7, g8⟩ := and_e g6
  obtain ⟨g9, g10⟩ := and_e hn
  obtain ⟨g11, g12⟩ := and_e g10
  obtain ⟨g13, g14⟩ := and_e g12
  obtain ⟨g15, g16⟩ := and_e g14
  obtain ⟨g17, g18⟩ := and_e g16
  obtain ⟨w0, w1, w2, w3, rfl⟩ : ∃ w0 w1 w2 w3 : Value, args = #[w0, w1, w2, w3] := by
    have hs : args.size = 4 := by simpa [Cond.value, given_1] using g1
    obtain ⟨L⟩ := args
    match L, hs with
    | [w0, w1, w2, w3], _ => exact ⟨w0, w1, w2, w3, rfl⟩
  have hw := fun d (hd : d ∈ tables_1) => atoms_spec (ws := Jvm.Cond.code x code maxLocals ret :: tables_1) hat d (List.mem_cons_of_mem _ hd)
  have hfit : Fit s := fun {y c} hc i hi => by
    obtain ⟨ha, rfl⟩ := Array.getElem?_eq_some_iff.mp hc
    have q := List.all_eq_true.mp ((Array.all_eq_true_iff_forall_mem.mp hF) _ (Array.getElem_mem ha)) i (List.mem_range.mpr hi)
    simpa [Array.getElem?_eq_getElem hi] using q
  obtain ⟨i0, ei0⟩ := is_v g3
  obtain rfl : w0 = (.int i0) := Option.some.inj ei0
  obtain ⟨i1, ei1⟩ := is_v g5
  obtain rfl : w1 = (.int i1) := Option.some.inj ei1
  obtain ⟨i2, ei2⟩ := is_v g7
  obtain rfl : w2 = (.int i2) := Option.some.inj ei2
  obtain ⟨i3, ei3⟩ := is_v g8
  obtain rfl : w3 = (.int i3) := Option.some.inj ei3
  obtain ⟨z_Dependencies_NO_KEYS, ez_Dependencies_NO_KEYS⟩ := arr_v g9
  have S_z_Dependencies_NO_KEYS := Sta.start (Z := s) ez_Dependencies_NO_KEYS (Or.inr ⟨(own_w hw 3 rfl), (own_w hw 11 rfl)⟩)
  obtain ⟨z_Dependencies_NO_WORDS, ez_Dependencies_NO_WORDS⟩ := arr_v g15
  have S_z_Dependencies_NO_WORDS := Sta.start (Z := s) ez_Dependencies_NO_WORDS (Or.inr ⟨(own_w hw 3 rfl), (own_w hw 15 rfl)⟩)
  obtain ⟨cK, AcK⟩ := Arr.start ez_Dependencies_NO_KEYS g9
  obtain ⟨lq1cK, lq2cK⟩ := own_len ez_Dependencies_NO_KEYS AcK.1 g13
  have V_z_Dependencies_NO_KEYS : Arv s s.heap z_Dependencies_NO_KEYS cK.cls .int (0 : Int32) [] (.int (0 : Int32)) := Arv.start hfit AcK lq1cK lq2cK (by decide) (by rfl) trivial
  obtain ⟨cW, AcW⟩ := Arr.start ez_Dependencies_NO_WORDS g15
  obtain ⟨lq1cW, lq2cW⟩ := own_len ez_Dependencies_NO_WORDS AcW.1 g18
  have V_z_Dependencies_NO_WORDS : Arv s s.heap z_Dependencies_NO_WORDS cW.cls .long (0 : Int32) [] (.long (0 : Int64)) := Arv.start hfit AcW lq1cW lq2cW (by decide) (by rfl) trivial
  obtain ⟨n, o, h1, h2, h3, _, L, rfl, ⟨rfl, N, -⟩, hq⟩ := rm_law l s _ hw tables_1 i0 i1 i2 i3 z_Dependencies_NO_KEYS z_Dependencies_NO_WORDS cK.cls cW.cls s.heap s.heap.size (Nat.le_refl _) S_z_Dependencies_NO_KEYS S_z_Dependencies_NO_WORDS V_z_Dependencies_NO_KEYS V_z_Dependencies_NO_WORDS p e ha hc hk s m _ below hf ((Spec.applies_iff_loose hf).mp happ).1 ⟨rfl, State.Warmed39.refl s, rfl⟩ trivial
  refine ⟨n, _, h1, h2, h3, hpost _ _ _ _ _ _ ⟨Cond.after_iff.mpr rfl, Cond.after_iff.mpr (eq_i res_at (Term.int_eval (1)) rfl), trivial⟩ ⟨hq.1, hq.2.1, (hq.2.2.sift fun y hy => Or.inr (N y hy)).mono (by decide) (by decide)⟩⟩
theorem main_1_1 : Claimed_1_1 := comes_1 fun _ _ _ _ _ _ h hF => ⟨h.1, hF⟩
theorem main_1_2 : Claimed_1_2 := comes_1 fun _ _ _ _ _ _ h hF => ⟨h.2.1, hF⟩
end Jvm.Pilot.@@N@@
namespace Jvm.Pilot.@@N@@
open Jvm Jvm.ClassFile Sem Op Lib Jvm.Free Jvm.Stand Jvm.Pilot.@@N@@.Jvm.D
/-! MADE BY PROGRAM (witnessworld.py) out of the Statement's table words and the real class files: 20 classes; the members and pool entries that the words name. The judged class is class 1, her method 1. -/
namespace start1
open Jvm.ClassFile
def u (s : String) : CpInfo := .utf8 (stringToUtf16 s)
/-- a pool by its gaps: so many unusable entries, then the entry; so many at the end -/
def gap : Nat → List CpInfo → List CpInfo
  | 0, r => r
  | n + 1, r => .unusable :: gap n r
def poolList (es : List (Nat × CpInfo)) (last : Nat) : List CpInfo := es.foldr (fun e r => gap e.1 (e.2 :: r)) (gap last [])
def pool (es : List (Nat × CpInfo)) (last : Nat) : Array CpInfo := ⟨poolList es last⟩
def fileOf (pool : Array CpInfo) (this : Nat) (attrs : Array Attribute := #[]) (ms : Array MethodInfo := #[]) (fl : Nat := 33) (sup : Nat := 0) (ifs : Array Nat := #[]) (fds : Array FieldInfo := #[]) : ClassFile where
  minorVersion := 0
  majorVersion := 65
  constantPool := pool
  accessFlags := fl
  thisClass := this
  superClass := sup
  interfaces := ifs
  fields := fds
  methods := ms
  attributes := attrs
def plain (name : String) (sup : Option ClassId) : Class where
  name := name
  kind := .ordinary
  loader := none
  accessFlags := 33
  super := sup
  interfaces := #[]
  cf := none
  fields := #[]
  methods := #[]
  instanceTypes := #[]
  staticTypes := #[]
  resolved := #[]
  callSites := []
  init := .initialized
  statics := none
  mirror := none

def pool0 : Array CpInfo := pool [(5, u "<init>"), (0, u "()V"), (1, .class_ 10), (1, u "java/lang/Object"), (85, u "clone"), (0, u "()Ljava/lang/Object;")] 26

def k0c0 : Code := { maxStack := 0, maxLocals := 1, code := object_method_1_code, exceptionTable := #[], attributes := #[] }
def k0m0 : Method := { name := "<init>", desc := "()V", sig := { parameters := [], returnType := none }, accessFlags := 1, code := some k0c0 }
def k0m1 : Method := { name := "clone", desc := "()Ljava/lang/Object;", sig := { parameters := [], returnType := some (.object "java/lang/Object") }, accessFlags := 260, code := none }
/-- java/lang/Object -/
def k0 : Class := { plain "java/lang/Object" none with
  accessFlags := 33
  interfaces := #[]
  cf := some (fileOf pool0 8 #[] #[{ accessFlags := 1, nameIndex := 5, descriptorIndex := 6, attributes := #[] }, { accessFlags := 260, nameIndex := 96, descriptorIndex := 97, attributes := #[] }] 33 0 #[] #[])
  fields := #[]
  methods := #[k0m0, k0m1]
  instanceTypes := #[]
  staticTypes := #[]
  resolved := Array.replicate 124 none
  statics := none }

def pool1 : Array CpInfo := pool [(2, .class_ 4), (0, .nameAndType 5 6), (0, u "java/lang/Object"), (0, u "<init>"), (0, u "()V"), (0, .integer 2147483647), (0, .class_ 9), (0, u "org/tallyrole/core/Dependencies"), (0, .methodref 8 3), (0, .methodref 8 12), (0, .nameAndType 13 14), (0, u "add"), (0, u "(I)V"), (0, .methodref 16 17), (0, .class_ 18), (0, .nameAndType 19 20), (0, u "java/lang/Math"), (0, u "max"), (0, u "(II)I"), (0, .methodref 16 22), (0, .nameAndType 23 20), (0, u "min"), (0, .methodref 8 25), (0, .nameAndType 26 27), (0, u "copy"), (0, u "()Lorg/tallyrole/core/Dependencies;"), (0, .methodref 8 29), (0, .nameAndType 30 31), (0, u "latest"), (0, u "()I"), (0, .methodref 8 33), (0, .nameAndType 34 14), (0, u "remove"), (0, .class_ 36), (0, u "org/tallyrole/core/DependenciesCopyPinLaw"), (2, u "law"), (0, u "(IIII)Z")] 3

def k1m0 : Method := { name := "<init>", desc := "()V", sig := { parameters := [], returnType := none }, accessFlags := 1, code := none }
def k1c1 : Code := { maxStack := 2, maxLocals := 16, code := code, exceptionTable := #[], attributes := #[] }
def k1m1 : Method := { name := "law", desc := "(IIII)Z", sig := { parameters := [.int, .int, .int, .int], returnType := some .boolean }, accessFlags := 9, code := some k1c1 }
/-- org/tallyrole/core/DependenciesCopyPinLaw -/
def k1 : Class := { plain "org/tallyrole/core/DependenciesCopyPinLaw" (some 0) with
  accessFlags := 49
  interfaces := #[]
  cf := some (fileOf pool1 35 #[] #[{ accessFlags := 1, nameIndex := 5, descriptorIndex := 6, attributes := #[] }, { accessFlags := 9, nameIndex := 39, descriptorIndex := 40, attributes := #[] }] 49 2 #[] #[])
  fields := #[]
  methods := #[k1m0, k1m1]
  instanceTypes := #[]
  staticTypes := #[]
  resolved := Array.replicate 44 none
  statics := none }

def pool2 : Array CpInfo := pool [(1, .methodref 2 3), (0, .class_ 4), (0, .nameAndType 5 6), (0, u "java/lang/Object"), (0, u "<init>"), (0, u "()V"), (0, .fieldref 8 9), (0, .class_ 10), (0, .nameAndType 11 12), (0, u "org/tallyrole/core/Dependencies"), (0, u "NO_KEYS"), (0, u "[I"), (0, .fieldref 8 14), (0, .nameAndType 15 12), (0, u "keys"), (0, .fieldref 8 17), (0, .nameAndType 18 19), (0, u "NO_WORDS"), (0, u "[J"), (0, .fieldref 8 21), (0, .nameAndType 22 19), (0, u "words"), (0, .fieldref 8 24), (0, .nameAndType 25 26), (0, u "size"), (0, u "I"), (0, .fieldref 8 28), (0, .nameAndType 29 30), (0, u "shared"), (0, u "Z"), (2, u "copy"), (0, u "()Lorg/tallyrole/core/Dependencies;"), (4, .methodref 8 3), (0, .methodref 8 41), (0, .nameAndType 5 42), (0, u "([I[JI)V"), (0, .methodref 44 45), (0, .class_ 46), (0, .nameAndType 47 48), (0, u "java/util/Arrays"), (0, u "binarySearch"), (0, u "([IIII)I"), (0, .methodref 8 50), (0, .nameAndType 51 52), (0, u "reserve"), (0, u "(I)V"), (0, .methodref 54 55), (0, .class_ 56), (0, .nameAndType 57 58), (0, u "java/lang/System"), (0, u "arraycopy"), (0, u "(Ljava/lang/Object;ILjava/lang/Object;II)V"), (4, .long 18446744073709551615), (1, .methodref 66 67), (0, .class_ 68), (0, .nameAndType 69 70), (0, u "java/lang/Long"), (0, u "numberOfLeadingZeros"), (0, u "(J)I"), (0, .methodref 44 72), (0, .nameAndType 73 74), (0, u "copyOf"), (0, u "([II)[I"), (0, .methodref 44 76), (0, .nameAndType 73 77), (0, u "([JI)[J"), (16, u "add"), (10, u "remove"), (0, u "latest"), (0, u "()I")] 3

def k2c0 : Code := { maxStack := 2, maxLocals := 1, code := prog_36_method_1_code, exceptionTable := #[], attributes := #[] }
def k2m0 : Method := { name := "<init>", desc := "()V", sig := { parameters := [], returnType := none }, accessFlags := 0, code := some k2c0 }
def k2c1 : Code := { maxStack := 2, maxLocals := 4, code := prog_36_method_2_code, exceptionTable := #[], attributes := #[] }
def k2m1 : Method := { name := "<init>", desc := "([I[JI)V", sig := { parameters := [(.array .int), (.array .long), .int], returnType := none }, accessFlags := 2, code := some k2c1 }
def k2c2 : Code := { maxStack := 5, maxLocals := 2, code := prog_36_method_4_code, exceptionTable := #[], attributes := #[] }
def k2m2 : Method := { name := "copy", desc := "()Lorg/tallyrole/core/Dependencies;", sig := { parameters := [], returnType := some (.object "org/tallyrole/core/Dependencies") }, accessFlags := 0, code := some k2c2 }
def k2c3 : Code := { maxStack := 6, maxLocals := 7, code := prog_36_method_5_code, exceptionTable := #[], attributes := #[] }
def k2m3 : Method := { name := "add", desc := "(I)V", sig := { parameters := [.int], returnType := none }, accessFlags := 0, code := some k2c3 }
def k2c4 : Code := { maxStack := 8, maxLocals := 5, code := prog_36_method_8_code, exceptionTable := #[], attributes := #[] }
def k2m4 : Method := { name := "remove", desc := "(I)V", sig := { parameters := [.int], returnType := none }, accessFlags := 0, code := some k2c4 }
def k2c5 : Code := { maxStack := 5, maxLocals := 1, code := prog_36_method_9_code, exceptionTable := #[], attributes := #[] }
def k2m5 : Method := { name := "latest", desc := "()I", sig := { parameters := [], returnType := some .int }, accessFlags := 0, code := some k2c5 }
def k2c6 : Code := { maxStack := 3, maxLocals := 3, code := prog_36_method_10_code, exceptionTable := #[], attributes := #[] }
def k2m6 : Method := { name := "reserve", desc := "(I)V", sig := { parameters := [.int], returnType := none }, accessFlags := 2, code := some k2c6 }
/-- org/tallyrole/core/Dependencies -/
def k2 : Class := { plain "org/tallyrole/core/Dependencies" (some 0) with
  accessFlags := 48
  interfaces := #[]
  cf := some (fileOf pool2 8 #[] #[{ accessFlags := 0, nameIndex := 5, descriptorIndex := 6, attributes := #[] }, { accessFlags := 2, nameIndex := 5, descriptorIndex := 42, attributes := #[] }, { accessFlags := 0, nameIndex := 33, descriptorIndex := 34, attributes := #[] }, { accessFlags := 0, nameIndex := 94, descriptorIndex := 52, attributes := #[] }, { accessFlags := 0, nameIndex := 105, descriptorIndex := 52, attributes := #[] }, { accessFlags := 0, nameIndex := 106, descriptorIndex := 107, attributes := #[] }, { accessFlags := 2, nameIndex := 51, descriptorIndex := 52, attributes := #[] }] 48 2 #[] #[{ accessFlags := 26, nameIndex := 11, descriptorIndex := 12, attributes := #[] }, { accessFlags := 26, nameIndex := 18, descriptorIndex := 19, attributes := #[] }, { accessFlags := 2, nameIndex := 15, descriptorIndex := 12, attributes := #[] }, { accessFlags := 2, nameIndex := 22, descriptorIndex := 19, attributes := #[] }, { accessFlags := 2, nameIndex := 25, descriptorIndex := 26, attributes := #[] }, { accessFlags := 2, nameIndex := 29, descriptorIndex := 30, attributes := #[] }])
  fields := #[{ name := "NO_KEYS", type := (.array .int), accessFlags := 26, slot := 0, constantValue := 0 }, { name := "NO_WORDS", type := (.array .long), accessFlags := 26, slot := 1, constantValue := 0 }, { name := "keys", type := (.array .int), accessFlags := 2, slot := 0, constantValue := 0 }, { name := "words", type := (.array .long), accessFlags := 2, slot := 1, constantValue := 0 }, { name := "size", type := .int, accessFlags := 2, slot := 2, constantValue := 0 }, { name := "shared", type := .boolean, accessFlags := 2, slot := 3, constantValue := 0 }]
  methods := #[k2m0, k2m1, k2m2, k2m3, k2m4, k2m5, k2m6]
  instanceTypes := #[(.array .int), (.array .long), .int, .boolean]
  staticTypes := #[(.array .int), (.array .long)]
  resolved := Array.replicate 111 none
  statics := some 0 }

def pool3 : Array CpInfo := pool [(2, .class_ 4), (1, u "java/lang/Object"), (0, u "<init>"), (0, u "()V"), (6, .methodref 14 15), (0, .class_ 16), (0, .nameAndType 17 18), (0, u "java/util/Arrays"), (0, u "rangeCheck"), (0, u "(III)V"), (55, .class_ 76), (1, u "java/util/Arrays$NaturalOrder"), (32, u "()Ljava/lang/Object;"), (3, .class_ 115), (1, u "java/util/Arrays$LegacyMergeSort"), (1, u "Z"), (10, .nameAndType 129 109), (0, u "clone"), (20, .methodref 151 152), (0, .class_ 153), (0, .nameAndType 154 155), (0, u "java/lang/System"), (0, u "arraycopy"), (0, u "(Ljava/lang/Object;ILjava/lang/Object;II)V"), (51, u "binarySearch0"), (1, .methodref 14 210), (0, .nameAndType 207 211), (0, u "([IIII)I"), (90, u "copyOf"), (1, .methodref 305 306), (0, .class_ 307), (0, .nameAndType 308 309), (0, u "java/lang/Math"), (0, u "min"), (0, u "(II)I"), (6, .methodref 317 128), (0, .class_ 318), (0, u "[I"), (0, .methodref 320 128), (0, .class_ 321), (0, u "[J"), (53, .class_ 376), (0, u "java/util/Arrays$ArrayList"), (68, u "$assertionsDisabled"), (269, u "MIN_ARRAY_SORT_GRAN"), (0, u "I"), (2, u "INSERTIONSORT_THRESHOLD"), (74, u "binarySearch"), (76, u "([II)[I"), (0, u "([JI)[J"), (102, .class_ 976), (0, u "java/util/Arrays$ArrayItr")] 52

def k3m0 : Method := { name := "<init>", desc := "()V", sig := { parameters := [], returnType := none }, accessFlags := 2, code := none }
def k3c1 : Code := { maxStack := 4, maxLocals := 3, code := jdk_65_method_30_code, exceptionTable := #[], attributes := #[] }
def k3m1 : Method := { name := "rangeCheck", desc := "(III)V", sig := { parameters := [.int, .int, .int], returnType := none }, accessFlags := 8, code := some k3c1 }
def k3c2 : Code := { maxStack := 4, maxLocals := 4, code := jdk_65_method_58_code, exceptionTable := #[], attributes := #[] }
def k3m2 : Method := { name := "binarySearch", desc := "([IIII)I", sig := { parameters := [(.array .int), .int, .int, .int], returnType := some .int }, accessFlags := 9, code := some k3c2 }
def k3c3 : Code := { maxStack := 2, maxLocals := 8, code := jdk_65_method_59_code, exceptionTable := #[], attributes := #[] }
def k3m3 : Method := { name := "binarySearch0", desc := "([IIII)I", sig := { parameters := [(.array .int), .int, .int, .int], returnType := some .int }, accessFlags := 10, code := some k3c3 }
def k3c4 : Code := { maxStack := 6, maxLocals := 3, code := jdk_65_method_123_code, exceptionTable := #[], attributes := #[] }
def k3m4 : Method := { name := "copyOf", desc := "([II)[I", sig := { parameters := [(.array .int), .int], returnType := some (.array .int) }, accessFlags := 9, code := some k3c4 }
def k3c5 : Code := { maxStack := 6, maxLocals := 3, code := jdk_65_method_124_code, exceptionTable := #[], attributes := #[] }
def k3m5 : Method := { name := "copyOf", desc := "([JI)[J", sig := { parameters := [(.array .long), .int], returnType := some (.array .long) }, accessFlags := 9, code := some k3c5 }
/-- java/util/Arrays -/
def k3 : Class := { plain "java/util/Arrays" (some 0) with
  accessFlags := 49
  interfaces := #[]
  cf := some (fileOf pool3 14 #[.nestMembers #[975, 375, 113, 74]] #[{ accessFlags := 2, nameIndex := 5, descriptorIndex := 6, attributes := #[] }, { accessFlags := 8, nameIndex := 17, descriptorIndex := 18, attributes := #[] }, { accessFlags := 9, nameIndex := 794, descriptorIndex := 211, attributes := #[] }, { accessFlags := 10, nameIndex := 207, descriptorIndex := 211, attributes := #[] }, { accessFlags := 9, nameIndex := 302, descriptorIndex := 871, attributes := #[] }, { accessFlags := 9, nameIndex := 302, descriptorIndex := 872, attributes := #[] }] 49 2 #[] #[{ accessFlags := 26, nameIndex := 715, descriptorIndex := 716, attributes := #[] }, { accessFlags := 26, nameIndex := 719, descriptorIndex := 716, attributes := #[] }, { accessFlags := 4120, nameIndex := 445, descriptorIndex := 117, attributes := #[] }])
  fields := #[{ name := "MIN_ARRAY_SORT_GRAN", type := .int, accessFlags := 26, slot := 0, constantValue := 0 }, { name := "INSERTIONSORT_THRESHOLD", type := .int, accessFlags := 26, slot := 1, constantValue := 0 }, { name := "$assertionsDisabled", type := .boolean, accessFlags := 4120, slot := 2, constantValue := 0 }]
  methods := #[k3m0, k3m1, k3m2, k3m3, k3m4, k3m5]
  instanceTypes := #[]
  staticTypes := #[.int, .int, .boolean]
  resolved := Array.replicate 1029 none
  statics := none }

def pool4 : Array CpInfo := pool [(1, .class_ 2), (0, u "java/lang/Math"), (1, .class_ 6), (1, u "java/lang/Object"), (0, u "<init>"), (0, u "()V"), (89, .class_ 100), (1, u "java/lang/Math$RandomNumberGeneratorHolder"), (71, u "negativeZeroFloatBits"), (0, u "J"), (2, u "negativeZeroDoubleBits"), (21, u "max"), (2, u "min"), (43, u "$assertionsDisabled"), (0, u "Z"), (88, u "(II)I"), (2, u "twoToTheDoubleScaleDown"), (0, u "D"), (4, u "twoToTheDoubleScaleUp"), (9, u "E"), (3, u "PI"), (2, u "TAU"), (2, u "DEGREES_TO_RADIANS"), (0, u "RADIANS_TO_DEGREES")] 94

def k4m0 : Method := { name := "<init>", desc := "()V", sig := { parameters := [], returnType := none }, accessFlags := 2, code := none }
def k4c1 : Code := { maxStack := 2, maxLocals := 2, code := jdk_29_method_65_code, exceptionTable := #[], attributes := #[] }
def k4m1 : Method := { name := "max", desc := "(II)I", sig := { parameters := [.int, .int], returnType := some .int }, accessFlags := 9, code := some k4c1 }
def k4c2 : Code := { maxStack := 2, maxLocals := 2, code := jdk_29_method_69_code, exceptionTable := #[], attributes := #[] }
def k4m2 : Method := { name := "min", desc := "(II)I", sig := { parameters := [.int, .int], returnType := some .int }, accessFlags := 9, code := some k4c2 }
/-- java/lang/Math -/
def k4 : Class := { plain "java/lang/Math" (some 0) with
  accessFlags := 49
  interfaces := #[]
  cf := some (fileOf pool4 1 #[.nestMembers #[98]] #[{ accessFlags := 2, nameIndex := 7, descriptorIndex := 8, attributes := #[] }, { accessFlags := 9, nameIndex := 198, descriptorIndex := 335, attributes := #[] }, { accessFlags := 9, nameIndex := 201, descriptorIndex := 335, attributes := #[] }] 49 4 #[] #[{ accessFlags := 25, nameIndex := 354, descriptorIndex := 339, attributes := #[] }, { accessFlags := 25, nameIndex := 358, descriptorIndex := 339, attributes := #[] }, { accessFlags := 25, nameIndex := 361, descriptorIndex := 339, attributes := #[] }, { accessFlags := 26, nameIndex := 364, descriptorIndex := 339, attributes := #[] }, { accessFlags := 26, nameIndex := 365, descriptorIndex := 339, attributes := #[] }, { accessFlags := 26, nameIndex := 172, descriptorIndex := 173, attributes := #[] }, { accessFlags := 26, nameIndex := 176, descriptorIndex := 173, attributes := #[] }, { accessFlags := 8, nameIndex := 344, descriptorIndex := 339, attributes := #[] }, { accessFlags := 8, nameIndex := 338, descriptorIndex := 339, attributes := #[] }, { accessFlags := 4120, nameIndex := 245, descriptorIndex := 246, attributes := #[] }])
  fields := #[{ name := "E", type := .double, accessFlags := 25, slot := 0, constantValue := 0 }, { name := "PI", type := .double, accessFlags := 25, slot := 1, constantValue := 0 }, { name := "TAU", type := .double, accessFlags := 25, slot := 2, constantValue := 0 }, { name := "DEGREES_TO_RADIANS", type := .double, accessFlags := 26, slot := 3, constantValue := 0 }, { name := "RADIANS_TO_DEGREES", type := .double, accessFlags := 26, slot := 4, constantValue := 0 }, { name := "negativeZeroFloatBits", type := .long, accessFlags := 26, slot := 5, constantValue := 0 }, { name := "negativeZeroDoubleBits", type := .long, accessFlags := 26, slot := 6, constantValue := 0 }, { name := "twoToTheDoubleScaleUp", type := .double, accessFlags := 8, slot := 7, constantValue := 0 }, { name := "twoToTheDoubleScaleDown", type := .double, accessFlags := 8, slot := 8, constantValue := 0 }, { name := "$assertionsDisabled", type := .boolean, accessFlags := 4120, slot := 9, constantValue := 0 }]
  methods := #[k4m0, k4m1, k4m2]
  instanceTypes := #[]
  staticTypes := #[.double, .double, .double, .double, .double, .long, .long, .double, .double, .boolean]
  resolved := Array.replicate 460 none
  statics := none }

def pool5 : Array CpInfo := pool [(2, .class_ 4), (1, u "java/lang/Object"), (0, u "<init>"), (0, u "()V"), (1, .class_ 10), (1, u "java/lang/System"), (0, u "allowSecurityManager"), (0, u "I"), (16, u "cons"), (0, u "Ljava/io/Console;"), (77, .class_ 110), (1, u "java/lang/System$CallersHolder"), (43, u "initialErrStream"), (0, u "Ljava/io/PrintStream;"), (19, u "security"), (0, u "Ljava/lang/SecurityManager;"), (31, .class_ 209), (0, u "java/lang/System$1"), (7, u "props"), (0, u "Ljava/util/Properties;"), (2, u "lineSeparator"), (0, u "Ljava/lang/String;"), (96, .class_ 321), (1, u "java/lang/System$LoggerFinder"), (5, .class_ 328), (0, u "java/lang/System$Logger"), (67, u "err"), (2, u "out"), (91, u "notSupportedJnuEncoding"), (15, u "in"), (17, u "initialIn"), (0, u "Ljava/io/InputStream;"), (35, u "bootLayer"), (0, u "Ljava/lang/ModuleLayer;"), (99, .class_ 664), (0, u "java/lang/System$2"), (9, u "NEVER"), (2, u "MAYBE"), (49, u "arraycopy"), (0, u "(Ljava/lang/Object;ILjava/lang/Object;II)V"), (72, .class_ 802), (0, u "java/lang/System$Logger$Level")] 31

def k5m0 : Method := { name := "<init>", desc := "()V", sig := { parameters := [], returnType := none }, accessFlags := 2, code := none }
def k5m1 : Method := { name := "arraycopy", desc := "(Ljava/lang/Object;ILjava/lang/Object;II)V", sig := { parameters := [(.object "java/lang/Object"), .int, (.object "java/lang/Object"), .int, .int], returnType := none }, accessFlags := 265, code := none }
/-- java/lang/System -/
def k5 : Class := { plain "java/lang/System" (some 0) with
  accessFlags := 49
  interfaces := #[]
  cf := some (fileOf pool5 8 #[.nestMembers #[319, 327, 801, 108, 663, 208]] #[{ accessFlags := 2, nameIndex := 5, descriptorIndex := 6, attributes := #[] }, { accessFlags := 265, nameIndex := 727, descriptorIndex := 728, attributes := #[] }] 49 2 #[] #[{ accessFlags := 25, nameIndex := 507, descriptorIndex := 526, attributes := #[] }, { accessFlags := 25, nameIndex := 399, descriptorIndex := 155, attributes := #[] }, { accessFlags := 25, nameIndex := 396, descriptorIndex := 155, attributes := #[] }, { accessFlags := 10, nameIndex := 525, descriptorIndex := 526, attributes := #[] }, { accessFlags := 26, nameIndex := 674, descriptorIndex := 12, attributes := #[] }, { accessFlags := 26, nameIndex := 677, descriptorIndex := 12, attributes := #[] }, { accessFlags := 10, nameIndex := 11, descriptorIndex := 12, attributes := #[] }, { accessFlags := 74, nameIndex := 175, descriptorIndex := 176, attributes := #[] }, { accessFlags := 10, nameIndex := 491, descriptorIndex := 222, attributes := #[] }, { accessFlags := 74, nameIndex := 29, descriptorIndex := 30, attributes := #[] }, { accessFlags := 74, nameIndex := 154, descriptorIndex := 155, attributes := #[] }, { accessFlags := 10, nameIndex := 217, descriptorIndex := 218, attributes := #[] }, { accessFlags := 10, nameIndex := 221, descriptorIndex := 222, attributes := #[] }, { accessFlags := 8, nameIndex := 562, descriptorIndex := 563, attributes := #[] }])
  fields := #[{ name := "in", type := (.object "java/io/InputStream"), accessFlags := 25, slot := 0, constantValue := 0 }, { name := "out", type := (.object "java/io/PrintStream"), accessFlags := 25, slot := 1, constantValue := 0 }, { name := "err", type := (.object "java/io/PrintStream"), accessFlags := 25, slot := 2, constantValue := 0 }, { name := "initialIn", type := (.object "java/io/InputStream"), accessFlags := 10, slot := 3, constantValue := 0 }, { name := "NEVER", type := .int, accessFlags := 26, slot := 4, constantValue := 0 }, { name := "MAYBE", type := .int, accessFlags := 26, slot := 5, constantValue := 0 }, { name := "allowSecurityManager", type := .int, accessFlags := 10, slot := 6, constantValue := 0 }, { name := "security", type := (.object "java/lang/SecurityManager"), accessFlags := 74, slot := 7, constantValue := 0 }, { name := "notSupportedJnuEncoding", type := (.object "java/lang/String"), accessFlags := 10, slot := 8, constantValue := 0 }, { name := "cons", type := (.object "java/io/Console"), accessFlags := 74, slot := 9, constantValue := 0 }, { name := "initialErrStream", type := (.object "java/io/PrintStream"), accessFlags := 74, slot := 10, constantValue := 0 }, { name := "props", type := (.object "java/util/Properties"), accessFlags := 10, slot := 11, constantValue := 0 }, { name := "lineSeparator", type := (.object "java/lang/String"), accessFlags := 10, slot := 12, constantValue := 0 }, { name := "bootLayer", type := (.object "java/lang/ModuleLayer"), accessFlags := 8, slot := 13, constantValue := 0 }]
  methods := #[k5m0, k5m1]
  instanceTypes := #[]
  staticTypes := #[(.object "java/io/InputStream"), (.object "java/io/PrintStream"), (.object "java/io/PrintStream"), (.object "java/io/InputStream"), .int, .int, .int, (.object "java/lang/SecurityManager"), (.object "java/lang/String"), (.object "java/io/Console"), (.object "java/io/PrintStream"), (.object "java/util/Properties"), (.object "java/lang/String"), (.object "java/lang/ModuleLayer")]
  resolved := Array.replicate 834 none
  statics := none }

def pool6 : Array CpInfo := pool [(1, .class_ 2), (0, u "java/lang/Cloneable"), (0, .class_ 4), (0, u "java/lang/Object")] 2

/-- java/lang/Cloneable -/
def k6 : Class := { plain "java/lang/Cloneable" (some 0) with
  accessFlags := 1537
  interfaces := #[]
  cf := some (fileOf pool6 1 #[] #[] 1537 3 #[] #[])
  fields := #[]
  methods := #[]
  instanceTypes := #[]
  staticTypes := #[]
  resolved := Array.replicate 7 none
  statics := none }

def pool7 : Array CpInfo := pool [(1, .class_ 2), (0, u "java/io/Serializable"), (0, .class_ 4), (0, u "java/lang/Object")] 2

/-- java/io/Serializable -/
def k7 : Class := { plain "java/io/Serializable" (some 0) with
  accessFlags := 1537
  interfaces := #[]
  cf := some (fileOf pool7 1 #[] #[] 1537 3 #[] #[])
  fields := #[]
  methods := #[]
  instanceTypes := #[]
  staticTypes := #[]
  resolved := Array.replicate 7 none
  statics := none }

def pool8 : Array CpInfo := pool [(2, .class_ 4), (1, u "java/lang/Object"), (0, u "<init>"), (0, u "()V"), (1, .class_ 10), (1, u "java/lang/Number"), (2, .class_ 14), (0, u "java/io/Serializable"), (0, u "serialVersionUID"), (0, u "J")] 20

def k8m0 : Method := { name := "<init>", desc := "()V", sig := { parameters := [], returnType := none }, accessFlags := 1, code := none }
/-- java/lang/Number -/
def k8 : Class := { plain "java/lang/Number" (some 0) with
  accessFlags := 1057
  interfaces := #[7]
  cf := some (fileOf pool8 8 #[] #[{ accessFlags := 1, nameIndex := 5, descriptorIndex := 6, attributes := #[] }] 1057 2 #[13] #[{ accessFlags := 26, nameIndex := 15, descriptorIndex := 16, attributes := #[] }])
  fields := #[{ name := "serialVersionUID", type := .long, accessFlags := 26, slot := 0, constantValue := 0 }]
  methods := #[k8m0]
  instanceTypes := #[]
  staticTypes := #[.long]
  resolved := Array.replicate 37 none
  statics := none }

def pool9 : Array CpInfo := pool [(1, .class_ 2), (0, u "java/lang/Comparable"), (0, .class_ 4), (0, u "java/lang/Object")] 7

/-- java/lang/Comparable -/
def k9 : Class := { plain "java/lang/Comparable" (some 0) with
  accessFlags := 1537
  interfaces := #[]
  cf := some (fileOf pool9 1 #[] #[] 1537 3 #[] #[])
  fields := #[]
  methods := #[]
  instanceTypes := #[]
  staticTypes := #[]
  resolved := Array.replicate 12 none
  statics := none }

def pool10 : Array CpInfo := pool [(1, .class_ 2), (0, u "java/lang/constant/Constable"), (0, .class_ 4), (0, u "java/lang/Object")] 6

/-- java/lang/constant/Constable -/
def k10 : Class := { plain "java/lang/constant/Constable" (some 0) with
  accessFlags := 1537
  interfaces := #[]
  cf := some (fileOf pool10 1 #[] #[] 1537 3 #[] #[])
  fields := #[]
  methods := #[]
  instanceTypes := #[]
  staticTypes := #[]
  resolved := Array.replicate 11 none
  statics := none }

def pool11 : Array CpInfo := pool [(1, .class_ 2), (0, u "java/lang/constant/ConstantDesc"), (0, .class_ 4), (0, u "java/lang/Object")] 32

/-- java/lang/constant/ConstantDesc -/
def k11 : Class := { plain "java/lang/constant/ConstantDesc" (some 0) with
  accessFlags := 1537
  interfaces := #[]
  cf := some (fileOf pool11 1 #[] #[] 1537 3 #[] #[])
  fields := #[]
  methods := #[]
  instanceTypes := #[]
  staticTypes := #[]
  resolved := Array.replicate 37 none
  statics := none }

def pool12 : Array CpInfo := pool [(1, .class_ 2), (0, u "java/lang/Long"), (15, .class_ 20), (1, u "java/lang/Integer"), (79, u "numberOfLeadingZeros"), (0, u "(J)I"), (133, .class_ 237), (1, u "java/lang/Long$LongCache"), (33, .class_ 272), (0, u "java/lang/Number"), (2, u "value"), (0, u "J"), (31, .methodref 18 309), (0, .nameAndType 100 310), (0, u "(I)I"), (50, u "TYPE"), (0, u "Ljava/lang/Class;"), (0, .class_ 364), (0, u "java/lang/Comparable"), (0, .class_ 366), (0, u "java/lang/constant/Constable"), (0, .class_ 368), (0, u "java/lang/constant/ConstantDesc"), (0, u "MIN_VALUE"), (1, u "MAX_VALUE"), (4, u "SIZE"), (0, u "I"), (1, u "BYTES"), (1, u "serialVersionUID")] 142

def k12c0 : Code := { maxStack := 3, maxLocals := 3, code := jdk_35_method_48_code, exceptionTable := #[], attributes := #[] }
def k12m0 : Method := { name := "numberOfLeadingZeros", desc := "(J)I", sig := { parameters := [.long], returnType := some .int }, accessFlags := 9, code := some k12c0 }
/-- java/lang/Long -/
def k12 : Class := { plain "java/lang/Long" (some 8) with
  accessFlags := 49
  interfaces := #[9, 10, 11]
  cf := some (fileOf pool12 1 #[.nestMembers #[235]] #[{ accessFlags := 9, nameIndex := 100, descriptorIndex := 101, attributes := #[] }] 49 271 #[363, 365, 367] #[{ accessFlags := 25, nameIndex := 369, descriptorIndex := 276, attributes := #[] }, { accessFlags := 25, nameIndex := 371, descriptorIndex := 276, attributes := #[] }, { accessFlags := 25, nameIndex := 361, descriptorIndex := 362, attributes := #[] }, { accessFlags := 18, nameIndex := 275, descriptorIndex := 276, attributes := #[] }, { accessFlags := 25, nameIndex := 376, descriptorIndex := 377, attributes := #[] }, { accessFlags := 25, nameIndex := 379, descriptorIndex := 377, attributes := #[] }, { accessFlags := 26, nameIndex := 381, descriptorIndex := 276, attributes := #[] }])
  fields := #[{ name := "MIN_VALUE", type := .long, accessFlags := 25, slot := 0, constantValue := 0 }, { name := "MAX_VALUE", type := .long, accessFlags := 25, slot := 1, constantValue := 0 }, { name := "TYPE", type := (.object "java/lang/Class"), accessFlags := 25, slot := 2, constantValue := 0 }, { name := "value", type := .long, accessFlags := 18, slot := 0, constantValue := 0 }, { name := "SIZE", type := .int, accessFlags := 25, slot := 3, constantValue := 0 }, { name := "BYTES", type := .int, accessFlags := 25, slot := 4, constantValue := 0 }, { name := "serialVersionUID", type := .long, accessFlags := 26, slot := 5, constantValue := 0 }]
  methods := #[k12m0]
  instanceTypes := #[.long]
  staticTypes := #[.long, .long, (.object "java/lang/Class"), .int, .int, .long]
  resolved := Array.replicate 524 none
  statics := none }

def pool13 : Array CpInfo := pool [(1, .class_ 2), (0, u "java/lang/Integer"), (16, u "digits"), (0, u "[C"), (32, u "numberOfLeadingZeros"), (0, u "(I)I"), (30, u "DigitOnes"), (0, u "[B"), (2, u "DigitTens"), (99, .class_ 190), (0, u "java/lang/Integer$IntegerCache"), (3, u "I"), (8, .class_ 204), (0, u "java/lang/Number"), (2, u "value"), (56, .integer 65536), (37, u "TYPE"), (0, u "Ljava/lang/Class;"), (0, .class_ 305), (0, u "java/lang/Comparable"), (0, .class_ 307), (0, u "java/lang/constant/Constable"), (0, .class_ 309), (0, u "java/lang/constant/ConstantDesc"), (0, u "MIN_VALUE"), (1, u "MAX_VALUE"), (3, u "SIZE"), (1, u "BYTES"), (1, u "serialVersionUID"), (0, u "J")] 131

def k13c0 : Code := { maxStack := 3, maxLocals := 2, code := jdk_33_method_47_code, exceptionTable := #[], attributes := #[] }
def k13m0 : Method := { name := "numberOfLeadingZeros", desc := "(I)I", sig := { parameters := [.int], returnType := some .int }, accessFlags := 9, code := some k13c0 }
/-- java/lang/Integer -/
def k13 : Class := { plain "java/lang/Integer" (some 8) with
  accessFlags := 49
  interfaces := #[9, 10, 11]
  cf := some (fileOf pool13 1 #[.nestMembers #[189]] #[{ accessFlags := 9, nameIndex := 53, descriptorIndex := 54, attributes := #[] }] 49 203 #[304, 306, 308] #[{ accessFlags := 25, nameIndex := 310, descriptorIndex := 194, attributes := #[] }, { accessFlags := 25, nameIndex := 312, descriptorIndex := 194, attributes := #[] }, { accessFlags := 25, nameIndex := 302, descriptorIndex := 303, attributes := #[] }, { accessFlags := 24, nameIndex := 19, descriptorIndex := 20, attributes := #[] }, { accessFlags := 24, nameIndex := 89, descriptorIndex := 86, attributes := #[] }, { accessFlags := 24, nameIndex := 85, descriptorIndex := 86, attributes := #[] }, { accessFlags := 18, nameIndex := 207, descriptorIndex := 194, attributes := #[] }, { accessFlags := 25, nameIndex := 316, descriptorIndex := 194, attributes := #[] }, { accessFlags := 25, nameIndex := 318, descriptorIndex := 194, attributes := #[] }, { accessFlags := 26, nameIndex := 320, descriptorIndex := 321, attributes := #[] }])
  fields := #[{ name := "MIN_VALUE", type := .int, accessFlags := 25, slot := 0, constantValue := 0 }, { name := "MAX_VALUE", type := .int, accessFlags := 25, slot := 1, constantValue := 0 }, { name := "TYPE", type := (.object "java/lang/Class"), accessFlags := 25, slot := 2, constantValue := 0 }, { name := "digits", type := (.array .char), accessFlags := 24, slot := 3, constantValue := 0 }, { name := "DigitTens", type := (.array .byte), accessFlags := 24, slot := 4, constantValue := 0 }, { name := "DigitOnes", type := (.array .byte), accessFlags := 24, slot := 5, constantValue := 0 }, { name := "value", type := .int, accessFlags := 18, slot := 0, constantValue := 0 }, { name := "SIZE", type := .int, accessFlags := 25, slot := 6, constantValue := 0 }, { name := "BYTES", type := .int, accessFlags := 25, slot := 7, constantValue := 0 }, { name := "serialVersionUID", type := .long, accessFlags := 26, slot := 8, constantValue := 0 }]
  methods := #[k13m0]
  instanceTypes := #[.int]
  staticTypes := #[.int, .int, (.object "java/lang/Class"), (.array .char), (.array .byte), (.array .byte), .int, .int, .long]
  resolved := Array.replicate 453 none
  statics := none }

/-- the primitive byte -/
def k14 : Class := { plain "byte" none with kind := .primitive 'B', accessFlags := 0x411 }
/-- [B -/
def k15 : Class := { plain "[B" (some 0) with kind := .array 14 .byte, interfaces := #[6, 7], accessFlags := 1041 }

/-- the primitive int -/
def k16 : Class := { plain "int" none with kind := .primitive 'I', accessFlags := 0x411 }
/-- [I -/
def k17 : Class := { plain "[I" (some 0) with kind := .array 16 .int, interfaces := #[6, 7], accessFlags := 1041 }

/-- the primitive long -/
def k18 : Class := { plain "long" none with kind := .primitive 'J', accessFlags := 0x411 }
/-- [J -/
def k19 : Class := { plain "[J" (some 0) with kind := .array 18 .long, interfaces := #[6, 7], accessFlags := 1041 }

def heap : Heap := #[{ cls := 2, slots := #[.ref 1, .ref 2], vm := .statics 2 },
  { cls := 17, slots := #[], vm := .none },
  { cls := 19, slots := #[], vm := .none }]
def classes : Array Class := #[k0, k1, k2, k3, k4, k5, k6, k7, k8, k9, k10, k11, k12, k13, k14, k15, k16, k17, k18, k19]
def interned : List (Array UInt16 × Addr) := []
def slotsUsed : Nat := 2
def theMethod : MethodId := ⟨1, 1⟩
def args0 : Array Value := #[.int 5, .int 3, .int 9, .int 2]
def aboutOver (below : List Frame) : State where
  vm := { classes := classes, interned := interned.toArray }
  heap := heap
  slotsUsed := slotsUsed
  threads := #[{ frames := .invoking theMethod args0 :: below }]
def below0 : List Frame := [.native { method := ⟨0, 0⟩, args := #[] }]
def about1 : State := aboutOver below0
def p0 : Program := .bare "" "" ""
def e0 : Env := launch0.env 0 0 0
theorem w_frames : about1.frames = Frame.invoking theMethod args0 :: below0 := rfl
set_option maxRecDepth 65536 in
theorem w_args : argsFit about1.vm theMethod args0 = true := by decide +kernel
set_option maxRecDepth 65536 in
theorem w_heap : heapFits about1 = true := by decide +kernel
set_option maxRecDepth 65536 in
theorem w_runnable : about1.curStatus? = some .runnable := by decide +kernel
set_option maxRecDepth 65536 in
theorem w_alone : about1.alone = true := by decide +kernel
set_option maxRecDepth 65536 in
theorem w_named : about1.methodNamed? x = some theMethod := by decide +kernel
set_option maxRecDepth 65536 in
theorem w_hears : about1.hears theMethod below0 = true := by decide +kernel
set_option maxRecDepth 65536 in
theorem w_ripe : about1.ripe theMethod args0 below0 = true := by decide +kernel
theorem w_running : about1.status = .running := rfl
set_option maxRecDepth 65536 in
theorem w_room : about1.hasRoom e0.platform room_1 = true :=
  launch0.hasRoom_least _ room_1 (by decide +kernel) (by decide +kernel) (by decide +kernel) (by decide +kernel) (by decide +kernel) (by decide +kernel)
theorem allAtoms_all (ts : List Jvm.Cond) (a : Array Jvm.Value) (st : Jvm.State) : (allAtoms ts).before a st = ts.all (fun c => c.before a st) := by
  induction ts with
  | nil => rfl
  | cons c t ih =>
    show (Jvm.Cond.and c (allAtoms t)).before a st = _
    rw [Jvm.Cond.before_and, ih, List.all_cons]
def words1 : List Jvm.Cond := Jvm.Cond.code x code maxLocals ret :: tables_1
/-- a 'code' word, met by the world's own term for the bytes: nothing is compared byte by byte -/
theorem code_word {y : MethodName} {bytes : ByteArray} {mx : Nat} {rt : Option FieldType} {a : Array Value} {s : State} {m : MethodId} {meth : Method} {c : Code} (h1 : s.methodNamed? y = some m) (h2 : s.vm.method? m = some meth) (h3 : meth.code = some c) (h4 : c.code = bytes)
    (h5 : (c.maxLocals == mx && c.exceptionTable.isEmpty && decide (c.maxStack ≤ mostOperands) && decide (meth.sig.returnType = rt) && !meth.locks && decide (parseMethodDescriptor y.desc = some meth.sig)) = true) : (Jvm.Cond.code y bytes mx rt).before a s = true := by
  simp only [Bool.and_eq_true, beq_iff_eq, Bool.not_eq_true', decide_eq_true_eq] at h5
  obtain ⟨⟨⟨⟨⟨g1, g2⟩, g3⟩, g4⟩, g5⟩, g6⟩ := h5
  simp [Cond.before, Cond.holds, Cond.value, h1, h2, h3, h4, g1, g2, g3, g4, g5, g6]
def isCode : Jvm.Cond → Bool
  | .code _ _ _ _ => true
  | _ => false
theorem all_split {L : List Jvm.Cond} {P : Jvm.Cond → Bool} (h1 : L.all (fun c => isCode c || P c) = true) (h2 : ∀ c ∈ L.filter isCode, P c = true) : L.all P = true := by
  refine List.all_eq_true.mpr fun c hc => ?_
  have h := List.all_eq_true.mp h1 c hc
  rcases Bool.eq_false_or_eq_true (isCode c) with hi | hi
  · exact h2 c (List.mem_filter.mpr ⟨hc, hi⟩)
  · simpa [hi] using h
set_option maxRecDepth 65536 in
theorem w_c0 : (Jvm.Cond.code x code maxLocals ret).before args0 about1 = true := code_word (m := ⟨1, 1⟩) (meth := k1m1) (c := k1c1) (by decide +kernel) rfl rfl rfl (by decide +kernel)
set_option maxRecDepth 65536 in
theorem w_c1 : (Jvm.Cond.code ({ cls := "org/tallyrole/core/Dependencies", name := "<init>", desc := "()V" } : Jvm.MethodName) prog_36_method_1_code (1 : Nat) (Option.none : Option Jvm.ClassFile.FieldType)).before args0 about1 = true := code_word (m := ⟨2, 0⟩) (meth := k2m0) (c := k2c0) (by decide +kernel) rfl rfl rfl (by decide +kernel)
set_option maxRecDepth 65536 in
theorem w_c2 : (Jvm.Cond.code ({ cls := "java/lang/Object", name := "<init>", desc := "()V" } : Jvm.MethodName) object_method_1_code (1 : Nat) (Option.none : Option Jvm.ClassFile.FieldType)).before args0 about1 = true := code_word (m := ⟨0, 0⟩) (meth := k0m0) (c := k0c0) (by decide +kernel) rfl rfl rfl (by decide +kernel)
set_option maxRecDepth 65536 in
theorem w_c3 : (Jvm.Cond.code ({ cls := "org/tallyrole/core/Dependencies", name := "add", desc := "(I)V" } : Jvm.MethodName) prog_36_method_5_code (7 : Nat) (Option.none : Option Jvm.ClassFile.FieldType)).before args0 about1 = true := code_word (m := ⟨2, 3⟩) (meth := k2m3) (c := k2c3) (by decide +kernel) rfl rfl rfl (by decide +kernel)
set_option maxRecDepth 65536 in
theorem w_c4 : (Jvm.Cond.code ({ cls := "java/util/Arrays", name := "binarySearch", desc := "([IIII)I" } : Jvm.MethodName) jdk_65_method_58_code (4 : Nat) (Option.some Jvm.ClassFile.FieldType.int)).before args0 about1 = true := code_word (m := ⟨3, 2⟩) (meth := k3m2) (c := k3c2) (by decide +kernel) rfl rfl rfl (by decide +kernel)
set_option maxRecDepth 65536 in
theorem w_c5 : (Jvm.Cond.code ({ cls := "java/util/Arrays", name := "rangeCheck", desc := "(III)V" } : Jvm.MethodName) jdk_65_method_30_code (3 : Nat) (Option.none : Option Jvm.ClassFile.FieldType)).before args0 about1 = true := code_word (m := ⟨3, 1⟩) (meth := k3m1) (c := k3c1) (by decide +kernel) rfl rfl rfl (by decide +kernel)
set_option maxRecDepth 65536 in
theorem w_c6 : (Jvm.Cond.code ({ cls := "java/util/Arrays", name := "binarySearch0", desc := "([IIII)I" } : Jvm.MethodName) jdk_65_method_59_code (8 : Nat) (Option.some Jvm.ClassFile.FieldType.int)).before args0 about1 = true := code_word (m := ⟨3, 3⟩) (meth := k3m3) (c := k3c3) (by decide +kernel) rfl rfl rfl (by decide +kernel)
set_option maxRecDepth 65536 in
theorem w_c7 : (Jvm.Cond.code ({ cls := "org/tallyrole/core/Dependencies", name := "reserve", desc := "(I)V" } : Jvm.MethodName) prog_36_method_10_code (3 : Nat) (Option.none : Option Jvm.ClassFile.FieldType)).before args0 about1 = true := code_word (m := ⟨2, 6⟩) (meth := k2m6) (c := k2c6) (by decide +kernel) rfl rfl rfl (by decide +kernel)
set_option maxRecDepth 65536 in
theorem w_c8 : (Jvm.Cond.code ({ cls := "java/util/Arrays", name := "copyOf", desc := "([II)[I" } : Jvm.MethodName) jdk_65_method_123_code (3 : Nat) (Option.some (Jvm.ClassFile.FieldType.array Jvm.ClassFile.FieldType.int))).before args0 about1 = true := code_word (m := ⟨3, 4⟩) (meth := k3m4) (c := k3c4) (by decide +kernel) rfl rfl rfl (by decide +kernel)
set_option maxRecDepth 65536 in
theorem w_c9 : (Jvm.Cond.code ({ cls := "java/lang/Math", name := "min", desc := "(II)I" } : Jvm.MethodName) jdk_29_method_69_code (2 : Nat) (Option.some Jvm.ClassFile.FieldType.int)).before args0 about1 = true := code_word (m := ⟨4, 2⟩) (meth := k4m2) (c := k4c2) (by decide +kernel) rfl rfl rfl (by decide +kernel)
set_option maxRecDepth 65536 in
theorem w_c10 : (Jvm.Cond.code ({ cls := "java/util/Arrays", name := "copyOf", desc := "([JI)[J" } : Jvm.MethodName) jdk_65_method_124_code (3 : Nat) (Option.some (Jvm.ClassFile.FieldType.array Jvm.ClassFile.FieldType.long))).before args0 about1 = true := code_word (m := ⟨3, 5⟩) (meth := k3m5) (c := k3c5) (by decide +kernel) rfl rfl rfl (by decide +kernel)
set_option maxRecDepth 65536 in
theorem w_c11 : (Jvm.Cond.code ({ cls := "org/tallyrole/core/Dependencies", name := "copy", desc := "()Lorg/tallyrole/core/Dependencies;" } : Jvm.MethodName) prog_36_method_4_code (2 : Nat) (Option.some (Jvm.ClassFile.FieldType.object "org/tallyrole/core/Dependencies"))).before args0 about1 = true := code_word (m := ⟨2, 2⟩) (meth := k2m2) (c := k2c2) (by decide +kernel) rfl rfl rfl (by decide +kernel)
set_option maxRecDepth 65536 in
theorem w_c12 : (Jvm.Cond.code ({ cls := "org/tallyrole/core/Dependencies", name := "<init>", desc := "([I[JI)V" } : Jvm.MethodName) prog_36_method_2_code (4 : Nat) (Option.none : Option Jvm.ClassFile.FieldType)).before args0 about1 = true := code_word (m := ⟨2, 1⟩) (meth := k2m1) (c := k2c1) (by decide +kernel) rfl rfl rfl (by decide +kernel)
set_option maxRecDepth 65536 in
theorem w_c13 : (Jvm.Cond.code ({ cls := "java/lang/Math", name := "max", desc := "(II)I" } : Jvm.MethodName) jdk_29_method_65_code (2 : Nat) (Option.some Jvm.ClassFile.FieldType.int)).before args0 about1 = true := code_word (m := ⟨4, 1⟩) (meth := k4m1) (c := k4c1) (by decide +kernel) rfl rfl rfl (by decide +kernel)
set_option maxRecDepth 65536 in
theorem w_c14 : (Jvm.Cond.code ({ cls := "org/tallyrole/core/Dependencies", name := "latest", desc := "()I" } : Jvm.MethodName) prog_36_method_9_code (1 : Nat) (Option.some Jvm.ClassFile.FieldType.int)).before args0 about1 = true := code_word (m := ⟨2, 5⟩) (meth := k2m5) (c := k2c5) (by decide +kernel) rfl rfl rfl (by decide +kernel)
set_option maxRecDepth 65536 in
theorem w_c15 : (Jvm.Cond.code ({ cls := "java/lang/Long", name := "numberOfLeadingZeros", desc := "(J)I" } : Jvm.MethodName) jdk_35_method_48_code (3 : Nat) (Option.some Jvm.ClassFile.FieldType.int)).before args0 about1 = true := code_word (m := ⟨12, 0⟩) (meth := k12m0) (c := k12c0) (by decide +kernel) rfl rfl rfl (by decide +kernel)
set_option maxRecDepth 65536 in
theorem w_c16 : (Jvm.Cond.code ({ cls := "java/lang/Integer", name := "numberOfLeadingZeros", desc := "(I)I" } : Jvm.MethodName) jdk_33_method_47_code (2 : Nat) (Option.some Jvm.ClassFile.FieldType.int)).before args0 about1 = true := code_word (m := ⟨13, 0⟩) (meth := k13m0) (c := k13c0) (by decide +kernel) rfl rfl rfl (by decide +kernel)
set_option maxRecDepth 65536 in
theorem w_c17 : (Jvm.Cond.code ({ cls := "org/tallyrole/core/Dependencies", name := "remove", desc := "(I)V" } : Jvm.MethodName) prog_36_method_8_code (5 : Nat) (Option.none : Option Jvm.ClassFile.FieldType)).before args0 about1 = true := code_word (m := ⟨2, 4⟩) (meth := k2m4) (c := k2c4) (by decide +kernel) rfl rfl rfl (by decide +kernel)
def codes1 : List Jvm.Cond := [Jvm.Cond.code x code maxLocals ret, Jvm.Cond.code ({ cls := "org/tallyrole/core/Dependencies", name := "<init>", desc := "()V" } : Jvm.MethodName) prog_36_method_1_code (1 : Nat) (Option.none : Option Jvm.ClassFile.FieldType), Jvm.Cond.code ({ cls := "java/lang/Object", name := "<init>", desc := "()V" } : Jvm.MethodName) object_method_1_code (1 : Nat) (Option.none : Option Jvm.ClassFile.FieldType), Jvm.Cond.code ({ cls := "org/tallyrole/core/Dependencies", name := "add", desc := "(I)V" } : Jvm.MethodName) prog_36_method_5_code (7 : Nat) (Option.none : Option Jvm.ClassFile.FieldType), Jvm.Cond.code ({ cls := "java/util/Arrays", name := "binarySearch", desc := "([IIII)I" } : Jvm.MethodName) jdk_65_method_58_code (4 : Nat) (Option.some Jvm.ClassFile.FieldType.int), Jvm.Cond.code ({ cls := "java/util/Arrays", name := "rangeCheck", desc := "(III)V" } : Jvm.MethodName) jdk_65_method_30_code (3 : Nat) (Option.none : Option Jvm.ClassFile.FieldType), Jvm.Cond.code ({ cls := "java/util/Arrays", name := "binarySearch0", desc := "([IIII)I" } : Jvm.MethodName) jdk_65_method_59_code (8 : Nat) (Option.some Jvm.ClassFile.FieldType.int), Jvm.Cond.code ({ cls := "org/tallyrole/core/Dependencies", name := "reserve", desc := "(I)V" } : Jvm.MethodName) prog_36_method_10_code (3 : Nat) (Option.none : Option Jvm.ClassFile.FieldType), Jvm.Cond.code ({ cls := "java/util/Arrays", name := "copyOf", desc := "([II)[I" } : Jvm.MethodName) jdk_65_method_123_code (3 : Nat) (Option.some (Jvm.ClassFile.FieldType.array Jvm.ClassFile.FieldType.int)), Jvm.Cond.code ({ cls := "java/lang/Math", name := "min", desc := "(II)I" } : Jvm.MethodName) jdk_29_method_69_code (2 : Nat) (Option.some Jvm.ClassFile.FieldType.int), Jvm.Cond.code ({ cls := "java/util/Arrays", name := "copyOf", desc := "([JI)[J" } : Jvm.MethodName) jdk_65_method_124_code (3 : Nat) (Option.some (Jvm.ClassFile.FieldType.array Jvm.ClassFile.FieldType.long)), Jvm.Cond.code ({ cls := "org/tallyrole/core/Dependencies", name := "copy", desc := "()Lorg/tallyrole/core/Dependencies;" } : Jvm.MethodName) prog_36_method_4_code (2 : Nat) (Option.some (Jvm.ClassFile.FieldType.object "org/tallyrole/core/Dependencies")), Jvm.Cond.code ({ cls := "org/tallyrole/core/Dependencies", name := "<init>", desc := "([I[JI)V" } : Jvm.MethodName) prog_36_method_2_code (4 : Nat) (Option.none : Option Jvm.ClassFile.FieldType), Jvm.Cond.code ({ cls := "java/lang/Math", name := "max", desc := "(II)I" } : Jvm.MethodName) jdk_29_method_65_code (2 : Nat) (Option.some Jvm.ClassFile.FieldType.int), Jvm.Cond.code ({ cls := "org/tallyrole/core/Dependencies", name := "latest", desc := "()I" } : Jvm.MethodName) prog_36_method_9_code (1 : Nat) (Option.some Jvm.ClassFile.FieldType.int), Jvm.Cond.code ({ cls := "java/lang/Long", name := "numberOfLeadingZeros", desc := "(J)I" } : Jvm.MethodName) jdk_35_method_48_code (3 : Nat) (Option.some Jvm.ClassFile.FieldType.int), Jvm.Cond.code ({ cls := "java/lang/Integer", name := "numberOfLeadingZeros", desc := "(I)I" } : Jvm.MethodName) jdk_33_method_47_code (2 : Nat) (Option.some Jvm.ClassFile.FieldType.int), Jvm.Cond.code ({ cls := "org/tallyrole/core/Dependencies", name := "remove", desc := "(I)V" } : Jvm.MethodName) prog_36_method_8_code (5 : Nat) (Option.none : Option Jvm.ClassFile.FieldType)]
set_option maxRecDepth 65536 in
theorem codes_eq : words1.filter isCode = codes1 := rfl
theorem w_codes : ∀ c ∈ words1.filter isCode, c.before args0 about1 = true := by
  rw [codes_eq]
  intro c hc
  simp only [codes1, List.mem_cons, List.not_mem_nil, or_false] at hc
  rcases hc with rfl | rfl | rfl | rfl | rfl | rfl | rfl | rfl | rfl | rfl | rfl | rfl | rfl | rfl | rfl | rfl | rfl | rfl
  · exact w_c0
  · exact w_c1
  · exact w_c2
  · exact w_c3
  · exact w_c4
  · exact w_c5
  · exact w_c6
  · exact w_c7
  · exact w_c8
  · exact w_c9
  · exact w_c10
  · exact w_c11
  · exact w_c12
  · exact w_c13
  · exact w_c14
  · exact w_c15
  · exact w_c16
  · exact w_c17
set_option maxRecDepth 65536 in
theorem w_t1 : (words1.take 24).all (fun c => isCode c || c.before args0 about1) = true := by decide +kernel
set_option maxRecDepth 65536 in
theorem w_t2 : ((words1.drop 24).take 24).all (fun c => isCode c || c.before args0 about1) = true := by decide +kernel
set_option maxRecDepth 65536 in
theorem w_t3 : (((words1.drop 24).drop 24).take 24).all (fun c => isCode c || c.before args0 about1) = true := by decide +kernel
set_option maxRecDepth 65536 in
theorem w_t4 : ((((words1.drop 24).drop 24).drop 24).take 24).all (fun c => isCode c || c.before args0 about1) = true := by decide +kernel
set_option maxRecDepth 65536 in
theorem w_t5 : ((((words1.drop 24).drop 24).drop 24).drop 24).all (fun c => isCode c || c.before args0 about1) = true := by decide +kernel
theorem w_tables : (allAtoms (Jvm.Cond.code x code maxLocals ret :: tables_1)).before args0 about1 = true := by
  rw [allAtoms_all]
  show words1.all (fun c => c.before args0 about1) = true
  refine all_split ?_ w_codes
  rw [← List.take_append_drop 24 words1, List.all_append, w_t1, ← List.take_append_drop 24 (words1.drop 24), List.all_append, w_t2, ← List.take_append_drop 24 ((words1.drop 24).drop 24), List.all_append, w_t3, ← List.take_append_drop 24 (((words1.drop 24).drop 24).drop 24), List.all_append, w_t4, w_t5]
  rfl
set_option maxRecDepth 65536 in
theorem w_case : (Jvm.Cond.and given_1 narrow_1).before args0 about1 = true := by decide +kernel
theorem w_applies : (headSpec (Jvm.Cond.code x code maxLocals ret :: tables_1) room_1).applies x e0.platform about1 = true :=
  (Spec.applies_iff w_frames).mpr ⟨w_running, w_runnable, w_alone, w_named, w_hears, w_ripe, w_room, w_tables⟩
theorem atStart : AtStart classFile x code maxLocals ret World_1 tables_1 room_1 Calls_1 rest_1 Pre_1 launch0 p0 e0 about1 theMethod args0 below0 :=
  ⟨lists_1, trivial, launch0.admits_env _ _ _, launch0.least_env, fairChoices_fair.cas, fairChoices_fair.clock, w_frames, w_args, w_heap, w_applies, trivial, trivial, w_case⟩
end start1
theorem witness_1 : WitnessClaimed_1 := ⟨start1.p0, start1.e0, start1.about1, start1.theMethod, start1.args0, start1.below0, start1.atStart⟩
end Jvm.Pilot.@@N@@
