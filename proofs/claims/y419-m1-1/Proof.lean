import JvmDerived
import JvmDerived.Pilot.@@N@@Statement
import JvmDerived.Pilot.@@N@@Code
set_option linter.unusedVariables false
set_option linter.unusedSimpArgs false
namespace Jvm.RoadKit
open Sem ClassFile Op Lib Jvm.Stand Jvm.Free Jvm.LawKit
section New
variable {p : Program} {l : Launch} {e : Env} {R : Room} {s : State} {m : MethodId} {args : Array Value} {below : List Frame} {meth : Method} {c : Code} {T : State} {locs : List Loc} {cells slots : Nat}
theorem retI (X : Stand p l e R s m args below meth c T locs cells slots) (hx : p.tables.exec = Jvm.exec) {pc : Nat} {Ls : Array Slot} {z : Int32} {rest : List Value} (hret : meth.sig.returnType = some .int) (hd : decode c.code pc = .ok (.ireturn, 1)) {fs : List Frame}
    (hl : ∀ (f : JFrame) (acts : List Action), f.method = m → f.locked = none → f.entered = [] → (doReturn e (T.setTop f) acts (some (.int z))).1 = T.setFrames fs) : Steps p.tables e below (T.setTop (mkF m pc Ls (.int z :: rest))) (T.setFrames fs) := by
  have hm' : T.vm.method? m = some meth := X.method'
  have hn : narrow .int (.int z) = .int z := rfl
  show Steps p.tables e below (T.setTop { method := m, pc := pc, locals := Ls, stack := _ :: rest, locked := none }) _
  jvm_step X.here [X.here.top, hx, hd, hm', hret, hn]
  first | (intro acts; rw [hl _ acts rfl rfl rfl]) | rw [hl _ _ rfl rfl rfl]
  exact Steps.refl _
end New
end Jvm.RoadKit
namespace Jvm.Pilot.@@N@@
open Jvm Jvm.ClassFile Sem Op Lib Jvm.Free Jvm.Stand Jvm.LawKit Jvm.RoadKit Bundle Jvm.Pilot.@@N@@.Jvm.D
def own_irem (x y : Int32) : Int32 := x - (x / y) * y
theorem own_irem_mod (x y : Int32) : own_irem x y = x % y := by
  unfold own_irem
  apply Int32.toInt_inj.mp
  have h1 := Int32.le_toInt (x % y)
  have h2 := Int32.toInt_lt (x % y)
  rw [Int32.toInt_sub, Int32.toInt_mul, Int32.toInt_div, Int.bmod_mul_bmod, Int.sub_bmod_bmod, Int.mul_comm (x.toInt.tdiv y.toInt), ← Int.tmod_def, ← Int32.toInt_mod]
  exact Int.bmod_eq_of_le_mul_two (by omega) (by omega)
theorem own_fld_eq {args : Array Value} {s : State} {t : Term} {C n d : String} {w : Addr} {k : Int32} (ht : t.eval args s none [] s = some (.ref w)) (h : (Jvm.Cond.eq (Term.field t C n d) (Term.int k)).value args s none s [] = some true) : Fld s s.heap w C n d (.int k) := by
  obtain ⟨x, y, ha, hb, -, -⟩ := cmp_v (Or.inl h)
  have hy : y = .int k := (Option.some.inj ((Term.int_eval k).symm.trans hb)).symm
  subst hy
  have hx : x = .int k := by
    cases x <;> simp [Cond.value, ha, hb] at h ⊢
    exact h
  subst hx
  exact Fld.start (by rw [← fld_at ht]; exact ha)
theorem own_fld_ref {args : Array Value} {s : State} {t u : Term} {C n d : String} {w : Addr} {k : Addr} (ht : t.eval args s none [] s = some (.ref w)) (hu : u.eval args s none [] s = some (.ref k)) (h : (Jvm.Cond.eq (Term.field t C n d) u).value args s none s [] = some true) : Fld s s.heap w C n d (.ref k) := by
  obtain ⟨x, y, ha, hb, -, -⟩ := cmp_v (Or.inl h)
  cases hu.symm.trans hb
  have hx : x = .ref k := by
    cases x <;> simp [Cond.value, ha, hb] at h ⊢
    exact h
  subst hx
  exact Fld.start (by rw [← fld_at ht]; exact ha)
theorem own_sel_priv {s : State} {args : Array Value} {y z : MethodName} (hsel : (Jvm.Cond.selects z.cls z z).before args s = true) (hz : z.cls = y.cls) (hpriv : (Jvm.Cond.privateMethod y).before args s = true) (hinst : (Jvm.Cond.instanceMethod y).before args s = true) (hy : y.cls ≠ "java/lang/invoke/MethodHandle" ∧ y.cls ≠ "java/lang/invoke/VarHandle") : (Jvm.Cond.selects y.cls y y).before args s = true := by
  obtain ⟨c, r, m, h1, h2, h3, h4, mk, h5, h6⟩ := Cond.selects_spec hsel
  have hc := findClass_of_methodNamed h3
  rw [hz] at hc
  exact selects_self_of_private hc h5 h6 (Cond.privateMethod_at hpriv) hinst hy
theorem own_nm_int : "[" ++ (newarray.typeOf .int).toString = "[I" := by decide
theorem own_nm_long : "[" ++ (newarray.typeOf .long).toString = "[J" := by decide
theorem own_nm_char : "[" ++ (newarray.typeOf .char).toString = "[C" := by decide
theorem own_nm_boolean : "[" ++ (newarray.typeOf .boolean).toString = "[Z" := by decide
theorem own_ns_exa {Z : State} {h : Heap} {a : Addr} {C : String} (E : Exa Z h a C) : ∀ c : Cell, h[a]? = some c → c.vm.isStatics = false := fun c hc => by
  obtain ⟨cell, k, h1, -, -, h4, -⟩ := E
  cases h1.symm.trans hc
  exact h4
theorem own_ns_arr {Z : State} {h : Heap} {a : Addr} {cl : Cell} {ty : FieldType} (A : Arr Z h a cl ty) : ∀ c : Cell, h[a]? = some c → c.vm.isStatics = false := fun c hc => by
  cases A.1.symm.trans hc
  exact A.plain
theorem own_ns_arv {Z : State} {h : Heap} {a : Addr} {k : ClassId} {ty : FieldType} {z : Int32} {vs : List Value} {dv : Value} (F : Arv Z h a k ty z vs dv) : ∀ c : Cell, h[a]? = some c → c.vm.isStatics = false := by
  obtain ⟨c, A, -⟩ := F
  exact own_ns_arr A
theorem own_sta_keep {Z : State} {h h' : Heap} {C n d : String} {v : Value} {ws : List Addr} (F : Sta Z h C n d v) (K : Keep h h' ws) (q : ∀ x ∈ ws, ∀ c : Cell, h[x]? = some c → c.vm.isStatics = false) : Sta Z h' C n d v := by
  obtain ⟨cf, i, k, f, st, cell, h1, h2, h3, h4, h5, h6, h7⟩ := F
  exact ⟨cf, i, k, f, st, cell, h1, h2, h3, h4, K.2.1 st cell h5 (fun hm => by rw [q st hm cell h5] at h6; cases h6), h6, h7⟩
theorem own_len {args : Array Value} {s : State} {t : Term} {a : Addr} {cl : Cell} {n : Int32} (ht : t.eval args s none [] s = some (.ref a)) (hc : s.heap[a]? = some cl) (h : (Jvm.Cond.eq (Term.length t) (Term.int n)).value args s none s [] = some true) : cl.slots.size < 2 ^ 31 ∧ cl.slots.size.toInt32 = n := by
  obtain ⟨x, y, ha, hb, -, -⟩ := cmp_v (Or.inl h)
  have hy : y = .int n := (Option.some.inj ((Term.int_eval n).symm.trans hb)).symm
  subst hy
  have hx : x = .int n := by
    cases x <;> simp [Cond.value, ha, hb] at h ⊢
    exact h
  subst hx
  simp only [Term.eval, ht, Option.bind_eq_bind, Option.bind_some] at ha
  cases hq : s.arrayAt? a with
  | none => simp [hq] at ha
  | some c2 =>
    cases (State.arrayAt?_spec hq).1.symm.trans hc
    simp only [hq, Option.bind_some] at ha
    split at ha
    · rename_i hlt
      exact ⟨hlt, Value.int.inj (Option.some.inj ha)⟩
    · cases ha
theorem own_elem {args : Array Value} {s : State} {t u : Term} {a k : Addr} {cl : Cell} {j : Int32} (ht : t.eval args s none [] s = some (.ref a)) (hu : u.eval args s none [] s = some (.ref k)) (hc : s.heap[a]? = some cl) (h : (Jvm.Cond.eq (Term.elem t (Term.int j)) u).value args s none s [] = some true) : cl.slots[j.toNatClampNeg]? = some (.ref k) := by
  obtain ⟨x, y, ha, hb, -, -⟩ := cmp_v (Or.inl h)
  cases hu.symm.trans hb
  have hx : x = .ref k := by
    cases x <;> simp [Cond.value, ha, hb] at h ⊢
    exact h
  subst hx
  exact (elem_in ha ht (Term.int_eval j) hc).2
def own_code (p : Int32) : Int32 := if p < (6 : Int32) then p else (70 : Int32)
theorem own_code_lt {p q : Int32} (hp0 : ¬ p < (0 : Int32)) (hp7 : p < (7 : Int32)) (hq0 : ¬ q < (0 : Int32)) (hq7 : q < (7 : Int32)) : own_code p < own_code q ↔ p < q := by
  unfold own_code
  have a0 : (0 : Int32).toInt = 0 := rfl
  have a6 : (6 : Int32).toInt = 6 := rfl
  have a7 : (7 : Int32).toInt = 7 := rfl
  have a70 : (70 : Int32).toInt = 70 := rfl
  simp only [Int32.lt_iff_toInt_lt, a0, a6, a7] at *
  split <;> split <;> omega
theorem own_rem7 (x : Int32) : ¬ (own_irem (x &&& (2147483647 : Int32)) (7 : Int32)) < (0 : Int32) ∧ (own_irem (x &&& (2147483647 : Int32)) (7 : Int32)) < (7 : Int32) := by
  rw [own_irem_mod]
  have q := c_mask x 2147483647 31 (by decide) (by decide)
  have b := rng32 x
  have h0 : 0 ≤ (x &&& (2147483647 : Int32)).toInt := by rw [q]; omega
  have r := (c_irem (x &&& (2147483647 : Int32)) 7 7 rfl).1 h0
  rw [Int32.lt_iff_toInt_lt, Int32.lt_iff_toInt_lt, r]
  have a0 : (0 : Int32).toInt = 0 := rfl
  have a7 : (7 : Int32).toInt = 7 := rfl
  rw [a0, a7]
  omega
theorem own_six {p : Int32} (hp0 : ¬ p < (0 : Int32)) (hp7 : p < (7 : Int32)) (h0 : ¬ p = (0 : Int32)) (h1 : ¬ p = (1 : Int32)) (h2 : ¬ p = (2 : Int32)) (h3 : ¬ p = (3 : Int32)) (h4 : ¬ p = (4 : Int32)) (h5 : ¬ p = (5 : Int32)) : p = (6 : Int32) := by
  have e : ∀ k : Int32, p = k ↔ p.toInt = k.toInt := fun k => Int32.toInt_inj.symm
  rw [e] at h0 h1 h2 h3 h4 h5 ⊢
  rw [Int32.lt_iff_toInt_lt] at hp0 hp7
  rw [show (0 : Int32).toInt = 0 from rfl] at hp0 h0
  rw [show (7 : Int32).toInt = 7 from rfl] at hp7
  rw [show (1 : Int32).toInt = 1 from rfl] at h1
  rw [show (2 : Int32).toInt = 2 from rfl] at h2
  rw [show (3 : Int32).toInt = 3 from rfl] at h3
  rw [show (4 : Int32).toInt = 4 from rfl] at h4
  rw [show (5 : Int32).toInt = 5 from rfl] at h5
  rw [show (6 : Int32).toInt = 6 from rfl]
  omega
theorem d1_0 : decode method_2_code 0 = .ok (.iload_n 0, 1) := by decide +kernel
theorem d1_1 : decode method_2_code 1 = .ok (.ifCond .ne 7, 3) := by decide +kernel
theorem d1_4 : decode method_2_code 4 = .ok (.getstatic 7, 3) := by decide +kernel
theorem d1_7 : decode method_2_code 7 = .ok (.areturn, 1) := by decide +kernel
theorem d1_8 : decode method_2_code 8 = .ok (.iload_n 0, 1) := by decide +kernel
theorem d1_9 : decode method_2_code 9 = .ok (.iconst 1, 1) := by decide +kernel
theorem d1_10 : decode method_2_code 10 = .ok (.if_icmp .ne 7, 3) := by decide +kernel
theorem d1_13 : decode method_2_code 13 = .ok (.getstatic 13, 3) := by decide +kernel
theorem d1_16 : decode method_2_code 16 = .ok (.areturn, 1) := by decide +kernel
theorem d1_17 : decode method_2_code 17 = .ok (.iload_n 0, 1) := by decide +kernel
theorem d1_18 : decode method_2_code 18 = .ok (.iconst 2, 1) := by decide +kernel
theorem d1_19 : decode method_2_code 19 = .ok (.if_icmp .ne 7, 3) := by decide +kernel
theorem d1_22 : decode method_2_code 22 = .ok (.getstatic 16, 3) := by decide +kernel
theorem d1_25 : decode method_2_code 25 = .ok (.areturn, 1) := by decide +kernel
theorem d1_26 : decode method_2_code 26 = .ok (.iload_n 0, 1) := by decide +kernel
theorem d1_27 : decode method_2_code 27 = .ok (.iconst 3, 1) := by decide +kernel
theorem d1_28 : decode method_2_code 28 = .ok (.if_icmp .ne 7, 3) := by decide +kernel
theorem d1_31 : decode method_2_code 31 = .ok (.getstatic 19, 3) := by decide +kernel
theorem d1_34 : decode method_2_code 34 = .ok (.areturn, 1) := by decide +kernel
theorem d1_35 : decode method_2_code 35 = .ok (.iload_n 0, 1) := by decide +kernel
theorem d1_36 : decode method_2_code 36 = .ok (.iconst 4, 1) := by decide +kernel
theorem d1_37 : decode method_2_code 37 = .ok (.if_icmp .ne 7, 3) := by decide +kernel
theorem d1_40 : decode method_2_code 40 = .ok (.getstatic 22, 3) := by decide +kernel
theorem d1_43 : decode method_2_code 43 = .ok (.areturn, 1) := by decide +kernel
theorem d1_44 : decode method_2_code 44 = .ok (.iload_n 0, 1) := by decide +kernel
theorem d1_45 : decode method_2_code 45 = .ok (.iconst 5, 1) := by decide +kernel
theorem d1_46 : decode method_2_code 46 = .ok (.if_icmp .ne 7, 3) := by decide +kernel
theorem d1_49 : decode method_2_code 49 = .ok (.getstatic 25, 3) := by decide +kernel
theorem d1_52 : decode method_2_code 52 = .ok (.areturn, 1) := by decide +kernel
theorem d1_53 : decode method_2_code 53 = .ok (.getstatic 28, 3) := by decide +kernel
theorem d1_56 : decode method_2_code 56 = .ok (.areturn, 1) := by decide +kernel
theorem d2_0 : decode prog_17_method_5_code 0 = .ok (.aload_n 1, 1) := by decide +kernel
theorem d2_1 : decode prog_17_method_5_code 1 = .ok (.getfield 44, 3) := by decide +kernel
theorem d2_4 : decode prog_17_method_5_code 4 = .ok (.aload_n 0, 1) := by decide +kernel
theorem d2_5 : decode prog_17_method_5_code 5 = .ok (.getfield 44, 3) := by decide +kernel
theorem d2_8 : decode prog_17_method_5_code 8 = .ok (.if_icmp .le 7, 3) := by decide +kernel
theorem d2_11 : decode prog_17_method_5_code 11 = .ok (.aload_n 1, 1) := by decide +kernel
theorem d2_12 : decode prog_17_method_5_code 12 = .ok (.goto 4, 3) := by decide +kernel
theorem d2_15 : decode prog_17_method_5_code 15 = .ok (.aload_n 0, 1) := by decide +kernel
theorem d2_16 : decode prog_17_method_5_code 16 = .ok (.areturn, 1) := by decide +kernel
theorem d3_0 : decode prog_17_method_4_code 0 = .ok (.aload_n 0, 1) := by decide +kernel
theorem d3_1 : decode prog_17_method_4_code 1 = .ok (.getfield 44, 3) := by decide +kernel
theorem d3_4 : decode prog_17_method_4_code 4 = .ok (.ireturn, 1) := by decide +kernel
theorem d4_0 : decode jdk_29_method_65_code 0 = .ok (.iload_n 0, 1) := by decide +kernel
theorem d4_1 : decode jdk_29_method_65_code 1 = .ok (.iload_n 1, 1) := by decide +kernel
theorem d4_2 : decode jdk_29_method_65_code 2 = .ok (.if_icmp .lt 7, 3) := by decide +kernel
theorem d4_5 : decode jdk_29_method_65_code 5 = .ok (.iload_n 0, 1) := by decide +kernel
theorem d4_6 : decode jdk_29_method_65_code 6 = .ok (.goto 4, 3) := by decide +kernel
theorem d4_9 : decode jdk_29_method_65_code 9 = .ok (.iload_n 1, 1) := by decide +kernel
theorem d4_10 : decode jdk_29_method_65_code 10 = .ok (.ireturn, 1) := by decide +kernel
theorem pn_0 : plainName "com/example/marking/marking/commands/ExitCodeMaxPinLaw" = true := by first | (simp [plainName, overriddenIn]; done) | decide +kernel
theorem pn_1 : plainName "com/example/marking/marking/commands/ExitCode" = true := by first | (simp [plainName, overriddenIn]; done) | decide +kernel
theorem pd_0 : parseMethodDescriptor "(I)Lcom/example/marking/marking/commands/ExitCode;" = some ⟨[.int], some (.object "com/example/marking/marking/commands/ExitCode")⟩ := by decide +kernel
theorem pd_1 : parseMethodDescriptor "(Lcom/example/marking/marking/commands/ExitCode;)Lcom/example/marking/marking/commands/ExitCode;" = some ⟨[(.object "com/example/marking/marking/commands/ExitCode")], some (.object "com/example/marking/marking/commands/ExitCode")⟩ := by decide +kernel
theorem pd_2 : parseMethodDescriptor "()I" = some ⟨[], some .int⟩ := by decide +kernel
theorem pd_3 : parseMethodDescriptor "(II)I" = some ⟨[.int, .int], some .int⟩ := by decide +kernel
theorem ef_pick (m : MethodId) (x0 : Int32) : entryFrame m #[(.int x0)] 1 = mkF m 0 #[.val (.int x0)] [] := by first | (simp [entryFrame, mkF, argsToLocals, Value.category]; done) | rfl
def Q_pick (Z : State) (pp : Int32) (w0 : Addr) (w1 : Addr) (w2 : Addr) (w3 : Addr) (w4 : Addr) (w5 : Addr) (w6 : Addr) (h0 : Heap) (n0 : Nat) (v : Option Value) (h : Heap) (L : List Loc) : Prop := ∃ r : Addr, v = some (.ref r) ∧ Fr n0 L ∧ h = h0 ∧ Fld Z h0 r "com/example/marking/marking/commands/ExitCode" "code" "I" (.int (own_code pp)) ∧ Exa Z h0 r "com/example/marking/marking/commands/ExitCode"
set_option maxRecDepth 65536 in
set_option maxHeartbeats 40000000 in
theorem rm_pick (l : Launch) (Z : State) (a0 : Array Value) (hw : ∀ d ∈ tables_1, d.before a0 Z = true) (ws : List Jvm.Cond) (pp : Int32) (w0 : Addr) (w1 : Addr) (w2 : Addr) (w3 : Addr) (w4 : Addr) (w5 : Addr) (w6 : Addr) (h0 : Heap) (n0 : Nat) (Z0 : n0 ≤ h0.size) (H0_S : Sta Z h0 "com/example/marking/marking/commands/ExitCode" "DONE" "Lcom/example/marking/marking/commands/ExitCode;" (.ref w0)) (H1_S : Sta Z h0 "com/example/marking/marking/commands/ExitCode" "UNSOUND" "Lcom/example/marking/marking/commands/ExitCode;" (.ref w1)) (H2_S : Sta Z h0 "com/example/marking/marking/commands/ExitCode" "USAGE" "Lcom/example/marking/marking/commands/ExitCode;" (.ref w2)) (H3_S : Sta Z h0 "com/example/marking/marking/commands/ExitCode" "NOT_A_WORKFLOW_NET" "Lcom/example/marking/marking/commands/ExitCode;" (.ref w3)) (H4_S : Sta Z h0 "com/example/marking/marking/commands/ExitCode" "UNREADABLE" "Lcom/example/marking/marking/commands/ExitCode;" (.ref w4)) (H5_S : Sta Z h0 "com/example/marking/marking/commands/ExitCode" "OUT_OF_SCOPE" "Lcom/example/marking/marking/commands/ExitCode;" (.ref w5)) (H6_S : Sta Z h0 "com/example/marking/marking/commands/ExitCode" "INTERNAL_ERROR" "Lcom/example/marking/marking/commands/ExitCode;" (.ref w6)) (H7_F : Fld Z h0 w0 "com/example/marking/marking/commands/ExitCode" "code" "I" (.int (0 : Int32))) (H8_F : Fld Z h0 w1 "com/example/marking/marking/commands/ExitCode" "code" "I" (.int (1 : Int32))) (H9_F : Fld Z h0 w2 "com/example/marking/marking/commands/ExitCode" "code" "I" (.int (2 : Int32))) (H10_F : Fld Z h0 w3 "com/example/marking/marking/commands/ExitCode" "code" "I" (.int (3 : Int32))) (H11_F : Fld Z h0 w4 "com/example/marking/marking/commands/ExitCode" "code" "I" (.int (4 : Int32))) (H12_F : Fld Z h0 w5 "com/example/marking/marking/commands/ExitCode" "code" "I" (.int (5 : Int32))) (H13_F : Fld Z h0 w6 "com/example/marking/marking/commands/ExitCode" "code" "I" (.int (70 : Int32))) (H14_E : Exa Z h0 w0 "com/example/marking/marking/commands/ExitCode") (H15_E : Exa Z h0 w1 "com/example/marking/marking/commands/ExitCode") (H16_E : Exa Z h0 w2 "com/example/marking/marking/commands/ExitCode") (H17_E : Exa Z h0 w3 "com/example/marking/marking/commands/ExitCode") (H18_E : Exa Z h0 w4 "com/example/marking/marking/commands/ExitCode") (H19_E : Exa Z h0 w5 "com/example/marking/marking/commands/ExitCode") (H20_E : Exa Z h0 w6 "com/example/marking/marking/commands/ExitCode") (hp0 : ¬ pp < (0 : Int32)) (hp7 : pp < (7 : Int32)) :
    MetFree l (⟨"com/example/marking/marking/commands/ExitCodeMaxPinLaw", "pick", "(I)Lcom/example/marking/marking/commands/ExitCode;"⟩ : MethodName) (head1 (Jvm.Cond.code (⟨"com/example/marking/marking/commands/ExitCodeMaxPinLaw", "pick", "(I)Lcom/example/marking/marking/commands/ExitCode;"⟩ : MethodName) method_2_code 1 (some (.object "com/example/marking/marking/commands/ExitCode")) :: ws) ({ frames := 0, cells := 0, slots := 0, locals := 0 } : Room)) (fun as_ U_ => as_ = #[(.int pp)] ∧ Z.Warmed39 U_.vm ∧ U_.heap = h0) (fun _ _ _ _ _ => True) (fun _ U o U' => ∃ v L, o = .returned v ∧ Q_pick Z pp w0 w1 w2 w3 w4 w5 w6 h0 n0 v U'.heap L ∧ FrameEnd U o U' L ({ frames := 0, cells := 0, slots := 0, locals := 0 } : Room).cells ({ frames := 0, cells := 0, slots := 0, locals := 0 } : Room).slots) := by
  refine MetFree.of_bodySF (plainFor_of_name pn_0) hisR ?_
  intro p e s m args below meth c s₁ Bd hml0 hP hK
  obtain ⟨rfl, hZ, hh⟩ := hP
  have hx := Bd.exec
  have hby := Bd.bytes
  have hml : c.maxLocals = 1 := hml0
  have hown : s.vm.findClass "com/example/marking/marking/commands/ExitCodeMaxPinLaw" = some m.cls := findClass_of_methodNamed Bd.named
  have hnm := (name_of_methodNamed Bd.named Bd.method).1
  have X0 : Stand p l e ({ frames := 0, cells := 0, slots := 0, locals := 0 } : Room) s m #[(.int pp)] below meth c s₁ [] 0 0 := Stand.of_body Bd
  have e0 : s₁.heap = h0 := by rw [← hh, Bd.state]; rfl
  have N0 := Fr.nil n0
  have pre0 : ∀ t, Steps p.tables e below (s₁.setTop (mkF m 0 #[.val (.int pp)] [])) t → Steps p.tables e below (s₁.setTop (entryFrame m #[(.int pp)] 1)) t := fun t k => castTop (ef_pick m pp) k
  have pre1 := fun (t : State) (k : Steps p.tables e below (s₁.setTop (mkF m 1 #[.val (.int pp)] [(.int pp)])) t) => pre0 t (by
    refine XS.iloadN X0.here hx rfl (hb hby d1_0) rfl ?_
    show Steps p.tables e below (s₁.setTop (mkF m 1 #[.val (.int pp)] [(.int pp)])) _
    exact k)
  by_cases hc2 : pp = (0 : Int32)
  · obtain ⟨T3, X3, e3, st3⟩ := getS2 X0 hx hZ hown (host := "") (Or.inl (hw _ (List.mem_of_getElem? (i := 5) rfl))) Via.refl e0 H0_S (g := (mkF m 4 #[.val (.int pp)] [])) rfl (hb hby d1_4)
    have pre4 := fun (t : State) (k : Steps p.tables e below (T3.setTop (mkF m 7 #[.val (.int pp)] [(.ref w0)])) t) => pre1 t (by
      refine XS.ifNo X0.here hx rfl (hb hby d1_1) rfl ((if0 _ _).trans (teq hc2).2) ?_
      show Steps p.tables e below (s₁.setTop (mkF m 4 #[.val (.int pp)] [])) _
      refine st3 _ ?_
      show Steps p.tables e below (T3.setTop (mkF m 7 #[.val (.int pp)] [(.ref w0)])) _
      exact k)
    obtain ⟨fs, hr, hrun, hended, hW, hsame⟩ := X3.leave (v := some (.ref w0)) (fun h => by rw [Bd.returns] at h; cases h)
    refine ⟨_, _, pre4 _ ?_, hrun, hended, _, _, rfl, ?_, ⟨_, rfl⟩, hW, hsame.mono (by decide) (by decide)⟩
    · jvm_step X3.here [X3.here.top, hx, (hb hby d1_7), X3.method', Bd.returns, Value.isRef, FieldType.isReference]
      first | (intro acts; rw [hr _ acts rfl rfl rfl]) | rw [hr _ _ rfl rfl rfl]
      exact Steps.refl _
    · show Q_pick Z pp w0 w1 w2 w3 w4 w5 w6 h0 n0 _ T3.heap _
      rw [e3]
      exact ⟨w0, rfl, N0, rfl, (by rw [show pp = (0 : Int32) from hc2, show own_code (0 : Int32) = (0 : Int32) from by decide]; exact H7_F), H14_E⟩
  · have pre5 := fun (t : State) (k : Steps p.tables e below (s₁.setTop (mkF m 10 #[.val (.int pp)] [(.int (1 : Int32)), (.int pp)])) t) => pre1 t (by
      refine XS.ifYes X0.here hx rfl (pc0 := 1) (pc' := 8) rfl (hb hby d1_1) rfl ((if0 _ _).trans (feq hc2).2) (by decide) (by decide) ?_
      show Steps p.tables e below (s₁.setTop (mkF m 8 #[.val (.int pp)] [])) _
      refine XS.iloadN X0.here hx rfl (hb hby d1_8) rfl ?_
      show Steps p.tables e below (s₁.setTop (mkF m 9 #[.val (.int pp)] [(.int pp)])) _
      refine XS.iconst X0.here hx rfl (hb hby d1_9) ?_
      show Steps p.tables e below (s₁.setTop (mkF m 10 #[.val (.int pp)] [(.int (1 : Int32)), (.int pp)])) _
      exact k)
    by_cases hc6 : pp = (1 : Int32)
    · obtain ⟨T7, X7, e7, st7⟩ := getS2 X0 hx hZ hown (host := "") (Or.inl (hw _ (List.mem_of_getElem? (i := 26) rfl))) Via.refl e0 H1_S (g := (mkF m 13 #[.val (.int pp)] [])) rfl (hb hby d1_13)
      have pre8 := fun (t : State) (k : Steps p.tables e below (T7.setTop (mkF m 16 #[.val (.int pp)] [(.ref w1)])) t) => pre5 t (by
        refine XS.icmpNo X0.here hx rfl (hb hby d1_10) rfl (teq hc6).2 ?_
        show Steps p.tables e below (s₁.setTop (mkF m 13 #[.val (.int pp)] [])) _
        refine st7 _ ?_
        show Steps p.tables e below (T7.setTop (mkF m 16 #[.val (.int pp)] [(.ref w1)])) _
        exact k)
      obtain ⟨fs, hr, hrun, hended, hW, hsame⟩ := X7.leave (v := some (.ref w1)) (fun h => by rw [Bd.returns] at h; cases h)
      refine ⟨_, _, pre8 _ ?_, hrun, hended, _, _, rfl, ?_, ⟨_, rfl⟩, hW, hsame.mono (by decide) (by decide)⟩
      · jvm_step X7.here [X7.here.top, hx, (hb hby d1_16), X7.method', Bd.returns, Value.isRef, FieldType.isReference]
        first | (intro acts; rw [hr _ acts rfl rfl rfl]) | rw [hr _ _ rfl rfl rfl]
        exact Steps.refl _
      · show Q_pick Z pp w0 w1 w2 w3 w4 w5 w6 h0 n0 _ T7.heap _
        rw [e7]
        exact ⟨w1, rfl, N0, rfl, (by rw [show pp = (1 : Int32) from hc6, show own_code (1 : Int32) = (1 : Int32) from by decide]; exact H8_F), H15_E⟩
    · have pre9 := fun (t : State) (k : Steps p.tables e below (s₁.setTop (mkF m 19 #[.val (.int pp)] [(.int (2 : Int32)), (.int pp)])) t) => pre5 t (by
        refine XS.icmpYes X0.here hx rfl (pc0 := 10) (pc' := 17) rfl (hb hby d1_10) rfl (feq hc6).2 (by decide) (by decide) ?_
        show Steps p.tables e below (s₁.setTop (mkF m 17 #[.val (.int pp)] [])) _
        refine XS.iloadN X0.here hx rfl (hb hby d1_17) rfl ?_
        show Steps p.tables e below (s₁.setTop (mkF m 18 #[.val (.int pp)] [(.int pp)])) _
        refine XS.iconst X0.here hx rfl (hb hby d1_18) ?_
        show Steps p.tables e below (s₁.setTop (mkF m 19 #[.val (.int pp)] [(.int (2 : Int32)), (.int pp)])) _
        exact k)
      by_cases hc10 : pp = (2 : Int32)
      · obtain ⟨T11, X11, e11, st11⟩ := getS2 X0 hx hZ hown (host := "") (Or.inl (hw _ (List.mem_of_getElem? (i := 30) rfl))) Via.refl e0 H2_S (g := (mkF m 22 #[.val (.int pp)] [])) rfl (hb hby d1_22)
        have pre12 := fun (t : State) (k : Steps p.tables e below (T11.setTop (mkF m 25 #[.val (.int pp)] [(.ref w2)])) t) => pre9 t (by
          refine XS.icmpNo X0.here hx rfl (hb hby d1_19) rfl (teq hc10).2 ?_
          show Steps p.tables e below (s₁.setTop (mkF m 22 #[.val (.int pp)] [])) _
          refine st11 _ ?_
          show Steps p.tables e below (T11.setTop (mkF m 25 #[.val (.int pp)] [(.ref w2)])) _
          exact k)
        obtain ⟨fs, hr, hrun, hended, hW, hsame⟩ := X11.leave (v := some (.ref w2)) (fun h => by rw [Bd.returns] at h; cases h)
        refine ⟨_, _, pre12 _ ?_, hrun, hended, _, _, rfl, ?_, ⟨_, rfl⟩, hW, hsame.mono (by decide) (by decide)⟩
        · jvm_step X11.here [X11.here.top, hx, (hb hby d1_25), X11.method', Bd.returns, Value.isRef, FieldType.isReference]
          first | (intro acts; rw [hr _ acts rfl rfl rfl]) | rw [hr _ _ rfl rfl rfl]
          exact Steps.refl _
        · show Q_pick Z pp w0 w1 w2 w3 w4 w5 w6 h0 n0 _ T11.heap _
          rw [e11]
          exact ⟨w2, rfl, N0, rfl, (by rw [show pp = (2 : Int32) from hc10, show own_code (2 : Int32) = (2 : Int32) from by decide]; exact H9_F), H16_E⟩
      · have pre13 := fun (t : State) (k : Steps p.tables e below (s₁.setTop (mkF m 28 #[.val (.int pp)] [(.int (3 : Int32)), (.int pp)])) t) => pre9 t (by
          refine XS.icmpYes X0.here hx rfl (pc0 := 19) (pc' := 26) rfl (hb hby d1_19) rfl (feq hc10).2 (by decide) (by decide) ?_
          show Steps p.tables e below (s₁.setTop (mkF m 26 #[.val (.int pp)] [])) _
          refine XS.iloadN X0.here hx rfl (hb hby d1_26) rfl ?_
          show Steps p.tables e below (s₁.setTop (mkF m 27 #[.val (.int pp)] [(.int pp)])) _
          refine XS.iconst X0.here hx rfl (hb hby d1_27) ?_
          show Steps p.tables e below (s₁.setTop (mkF m 28 #[.val (.int pp)] [(.int (3 : Int32)), (.int pp)])) _
          exact k)
        by_cases hc14 : pp = (3 : Int32)
        · obtain ⟨T15, X15, e15, st15⟩ := getS2 X0 hx hZ hown (host := "") (Or.inl (hw _ (List.mem_of_getElem? (i := 8) rfl))) Via.refl e0 H3_S (g := (mkF m 31 #[.val (.int pp)] [])) rfl (hb hby d1_31)
          have pre16 := fun (t : State) (k : Steps p.tables e below (T15.setTop (mkF m 34 #[.val (.int pp)] [(.ref w3)])) t) => pre13 t (by
            refine XS.icmpNo X0.here hx rfl (hb hby d1_28) rfl (teq hc14).2 ?_
            show Steps p.tables e below (s₁.setTop (mkF m 31 #[.val (.int pp)] [])) _
            refine st15 _ ?_
            show Steps p.tables e below (T15.setTop (mkF m 34 #[.val (.int pp)] [(.ref w3)])) _
            exact k)
          obtain ⟨fs, hr, hrun, hended, hW, hsame⟩ := X15.leave (v := some (.ref w3)) (fun h => by rw [Bd.returns] at h; cases h)
          refine ⟨_, _, pre16 _ ?_, hrun, hended, _, _, rfl, ?_, ⟨_, rfl⟩, hW, hsame.mono (by decide) (by decide)⟩
          · jvm_step X15.here [X15.here.top, hx, (hb hby d1_34), X15.method', Bd.returns, Value.isRef, FieldType.isReference]
            first | (intro acts; rw [hr _ acts rfl rfl rfl]) | rw [hr _ _ rfl rfl rfl]
            exact Steps.refl _
          · show Q_pick Z pp w0 w1 w2 w3 w4 w5 w6 h0 n0 _ T15.heap _
            rw [e15]
            exact ⟨w3, rfl, N0, rfl, (by rw [show pp = (3 : Int32) from hc14, show own_code (3 : Int32) = (3 : Int32) from by decide]; exact H10_F), H17_E⟩
        · have pre17 := fun (t : State) (k : Steps p.tables e below (s₁.setTop (mkF m 37 #[.val (.int pp)] [(.int (4 : Int32)), (.int pp)])) t) => pre13 t (by
            refine XS.icmpYes X0.here hx rfl (pc0 := 28) (pc' := 35) rfl (hb hby d1_28) rfl (feq hc14).2 (by decide) (by decide) ?_
            show Steps p.tables e below (s₁.setTop (mkF m 35 #[.val (.int pp)] [])) _
            refine XS.iloadN X0.here hx rfl (hb hby d1_35) rfl ?_
            show Steps p.tables e below (s₁.setTop (mkF m 36 #[.val (.int pp)] [(.int pp)])) _
            refine XS.iconst X0.here hx rfl (hb hby d1_36) ?_
            show Steps p.tables e below (s₁.setTop (mkF m 37 #[.val (.int pp)] [(.int (4 : Int32)), (.int pp)])) _
            exact k)
          by_cases hc18 : pp = (4 : Int32)
          · obtain ⟨T19, X19, e19, st19⟩ := getS2 X0 hx hZ hown (host := "") (Or.inl (hw _ (List.mem_of_getElem? (i := 32) rfl))) Via.refl e0 H4_S (g := (mkF m 40 #[.val (.int pp)] [])) rfl (hb hby d1_40)
            have pre20 := fun (t : State) (k : Steps p.tables e below (T19.setTop (mkF m 43 #[.val (.int pp)] [(.ref w4)])) t) => pre17 t (by
              refine XS.icmpNo X0.here hx rfl (hb hby d1_37) rfl (teq hc18).2 ?_
              show Steps p.tables e below (s₁.setTop (mkF m 40 #[.val (.int pp)] [])) _
              refine st19 _ ?_
              show Steps p.tables e below (T19.setTop (mkF m 43 #[.val (.int pp)] [(.ref w4)])) _
              exact k)
            obtain ⟨fs, hr, hrun, hended, hW, hsame⟩ := X19.leave (v := some (.ref w4)) (fun h => by rw [Bd.returns] at h; cases h)
            refine ⟨_, _, pre20 _ ?_, hrun, hended, _, _, rfl, ?_, ⟨_, rfl⟩, hW, hsame.mono (by decide) (by decide)⟩
            · jvm_step X19.here [X19.here.top, hx, (hb hby d1_43), X19.method', Bd.returns, Value.isRef, FieldType.isReference]
              first | (intro acts; rw [hr _ acts rfl rfl rfl]) | rw [hr _ _ rfl rfl rfl]
              exact Steps.refl _
            · show Q_pick Z pp w0 w1 w2 w3 w4 w5 w6 h0 n0 _ T19.heap _
              rw [e19]
              exact ⟨w4, rfl, N0, rfl, (by rw [show pp = (4 : Int32) from hc18, show own_code (4 : Int32) = (4 : Int32) from by decide]; exact H11_F), H18_E⟩
          · have pre21 := fun (t : State) (k : Steps p.tables e below (s₁.setTop (mkF m 46 #[.val (.int pp)] [(.int (5 : Int32)), (.int pp)])) t) => pre17 t (by
              refine XS.icmpYes X0.here hx rfl (pc0 := 37) (pc' := 44) rfl (hb hby d1_37) rfl (feq hc18).2 (by decide) (by decide) ?_
              show Steps p.tables e below (s₁.setTop (mkF m 44 #[.val (.int pp)] [])) _
              refine XS.iloadN X0.here hx rfl (hb hby d1_44) rfl ?_
              show Steps p.tables e below (s₁.setTop (mkF m 45 #[.val (.int pp)] [(.int pp)])) _
              refine XS.iconst X0.here hx rfl (hb hby d1_45) ?_
              show Steps p.tables e below (s₁.setTop (mkF m 46 #[.val (.int pp)] [(.int (5 : Int32)), (.int pp)])) _
              exact k)
            by_cases hc22 : pp = (5 : Int32)
            · obtain ⟨T23, X23, e23, st23⟩ := getS2 X0 hx hZ hown (host := "") (Or.inl (hw _ (List.mem_of_getElem? (i := 28) rfl))) Via.refl e0 H5_S (g := (mkF m 49 #[.val (.int pp)] [])) rfl (hb hby d1_49)
              have pre24 := fun (t : State) (k : Steps p.tables e below (T23.setTop (mkF m 52 #[.val (.int pp)] [(.ref w5)])) t) => pre21 t (by
                refine XS.icmpNo X0.here hx rfl (hb hby d1_46) rfl (teq hc22).2 ?_
                show Steps p.tables e below (s₁.setTop (mkF m 49 #[.val (.int pp)] [])) _
                refine st23 _ ?_
                show Steps p.tables e below (T23.setTop (mkF m 52 #[.val (.int pp)] [(.ref w5)])) _
                exact k)
              obtain ⟨fs, hr, hrun, hended, hW, hsame⟩ := X23.leave (v := some (.ref w5)) (fun h => by rw [Bd.returns] at h; cases h)
              refine ⟨_, _, pre24 _ ?_, hrun, hended, _, _, rfl, ?_, ⟨_, rfl⟩, hW, hsame.mono (by decide) (by decide)⟩
              · jvm_step X23.here [X23.here.top, hx, (hb hby d1_52), X23.method', Bd.returns, Value.isRef, FieldType.isReference]
                first | (intro acts; rw [hr _ acts rfl rfl rfl]) | rw [hr _ _ rfl rfl rfl]
                exact Steps.refl _
              · show Q_pick Z pp w0 w1 w2 w3 w4 w5 w6 h0 n0 _ T23.heap _
                rw [e23]
                exact ⟨w5, rfl, N0, rfl, (by rw [show pp = (5 : Int32) from hc22, show own_code (5 : Int32) = (5 : Int32) from by decide]; exact H12_F), H19_E⟩
            · obtain ⟨T25, X25, e25, st25⟩ := getS2 X0 hx hZ hown (host := "") (Or.inl (hw _ (List.mem_of_getElem? (i := 34) rfl))) Via.refl e0 H6_S (g := (mkF m 53 #[.val (.int pp)] [])) rfl (hb hby d1_53)
              have pre26 := fun (t : State) (k : Steps p.tables e below (T25.setTop (mkF m 56 #[.val (.int pp)] [(.ref w6)])) t) => pre21 t (by
                refine XS.icmpYes X0.here hx rfl (pc0 := 46) (pc' := 53) rfl (hb hby d1_46) rfl (feq hc22).2 (by decide) (by decide) ?_
                show Steps p.tables e below (s₁.setTop (mkF m 53 #[.val (.int pp)] [])) _
                refine st25 _ ?_
                show Steps p.tables e below (T25.setTop (mkF m 56 #[.val (.int pp)] [(.ref w6)])) _
                exact k)
              obtain ⟨fs, hr, hrun, hended, hW, hsame⟩ := X25.leave (v := some (.ref w6)) (fun h => by rw [Bd.returns] at h; cases h)
              refine ⟨_, _, pre26 _ ?_, hrun, hended, _, _, rfl, ?_, ⟨_, rfl⟩, hW, hsame.mono (by decide) (by decide)⟩
              · jvm_step X25.here [X25.here.top, hx, (hb hby d1_56), X25.method', Bd.returns, Value.isRef, FieldType.isReference]
                first | (intro acts; rw [hr _ acts rfl rfl rfl]) | rw [hr _ _ rfl rfl rfl]
                exact Steps.refl _
              · show Q_pick Z pp w0 w1 w2 w3 w4 w5 w6 h0 n0 _ T25.heap _
                rw [e25]
                exact ⟨w6, rfl, N0, rfl, (by rw [show pp = (6 : Int32) from (own_six hp0 hp7 hc2 hc6 hc10 hc14 hc18 hc22), show own_code (6 : Int32) = (70 : Int32) from by decide]; exact H13_F), H20_E⟩

theorem ef_emax (m : MethodId) (x0 : Addr) (x1 : Addr) : entryFrame m #[(.ref x0), (.ref x1)] 2 = mkF m 0 #[.val (.ref x0), .val (.ref x1)] [] := by first | (simp [entryFrame, mkF, argsToLocals, Value.category]; done) | rfl
def Q_emax (Z : State) (a : Addr) (b : Addr) (ca : Int32) (cb : Int32) (r : Addr) (h0 : Heap) (n0 : Nat) (v : Option Value) (h : Heap) (L : List Loc) : Prop := v = some (.ref r) ∧ Fr n0 L ∧ h = h0
set_option maxRecDepth 65536 in
set_option maxHeartbeats 40000000 in
theorem rm_emax (l : Launch) (Z : State) (a0 : Array Value) (hw : ∀ d ∈ tables_1, d.before a0 Z = true) (ws : List Jvm.Cond) (a : Addr) (b : Addr) (ca : Int32) (cb : Int32) (r : Addr) (h0 : Heap) (n0 : Nat) (Z0 : n0 ≤ h0.size) (H0_F : Fld Z h0 a "com/example/marking/marking/commands/ExitCode" "code" "I" (.int ca)) (H1_F : Fld Z h0 b "com/example/marking/marking/commands/ExitCode" "code" "I" (.int cb)) (hr0 : ca < cb → r = b) (hr1 : ¬ ca < cb → r = a) :
    MetFree l (⟨"com/example/marking/marking/commands/ExitCode", "max", "(Lcom/example/marking/marking/commands/ExitCode;)Lcom/example/marking/marking/commands/ExitCode;"⟩ : MethodName) (head1 (Jvm.Cond.code (⟨"com/example/marking/marking/commands/ExitCode", "max", "(Lcom/example/marking/marking/commands/ExitCode;)Lcom/example/marking/marking/commands/ExitCode;"⟩ : MethodName) prog_17_method_5_code 2 (some (.object "com/example/marking/marking/commands/ExitCode")) :: ws) ({ frames := 0, cells := 0, slots := 0, locals := 0 } : Room)) (fun as_ U_ => as_ = #[(.ref a), (.ref b)] ∧ Z.Warmed39 U_.vm ∧ U_.heap = h0) (fun _ _ _ _ _ => True) (fun _ U o U' => ∃ v L, o = .returned v ∧ Q_emax Z a b ca cb r h0 n0 v U'.heap L ∧ FrameEnd U o U' L ({ frames := 0, cells := 0, slots := 0, locals := 0 } : Room).cells ({ frames := 0, cells := 0, slots := 0, locals := 0 } : Room).slots) := by
  refine MetFree.of_bodySF (plainFor_of_name pn_1) hisR ?_
  intro p e s m args below meth c s₁ Bd hml0 hP hK
  obtain ⟨rfl, hZ, hh⟩ := hP
  have hx := Bd.exec
  have hby := Bd.bytes
  have hml : c.maxLocals = 2 := hml0
  have hown : s.vm.findClass "com/example/marking/marking/commands/ExitCode" = some m.cls := findClass_of_methodNamed Bd.named
  have hnm := (name_of_methodNamed Bd.named Bd.method).1
  have X0 : Stand p l e ({ frames := 0, cells := 0, slots := 0, locals := 0 } : Room) s m #[(.ref a), (.ref b)] below meth c s₁ [] 0 0 := Stand.of_body Bd
  have e0 : s₁.heap = h0 := by rw [← hh, Bd.state]; rfl
  have N0 := Fr.nil n0
  have pre0 : ∀ t, Steps p.tables e below (s₁.setTop (mkF m 0 #[.val (.ref a), .val (.ref b)] [])) t → Steps p.tables e below (s₁.setTop (entryFrame m #[(.ref a), (.ref b)] 2)) t := fun t k => castTop (ef_emax m a b) k
  obtain ⟨T1, X1, e1, st1⟩ := getF X0 hx hZ hown (host := "") (Or.inl (hw _ (List.mem_of_getElem? (i := 15) rfl))) Via.refl e0 H1_F (g := (mkF m 1 #[.val (.ref a), .val (.ref b)] [(.ref b)])) rfl rfl (hb hby d2_1)
  obtain ⟨T2, X2, e2, st2⟩ := getF X1 hx hZ hown (host := "") (Or.inl (hw _ (List.mem_of_getElem? (i := 15) rfl))) Via.refl e1 H0_F (g := (mkF m 5 #[.val (.ref a), .val (.ref b)] [(.ref a), (.int cb)])) rfl rfl (hb hby d2_5)
  have pre3 := fun (t : State) (k : Steps p.tables e below (T2.setTop (mkF m 8 #[.val (.ref a), .val (.ref b)] [(.int ca), (.int cb)])) t) => pre0 t (by
    refine XS.aloadN X0.here hx rfl (hb hby d2_0) rfl rfl ?_
    show Steps p.tables e below (s₁.setTop (mkF m 1 #[.val (.ref a), .val (.ref b)] [(.ref b)])) _
    refine st1 _ ?_
    show Steps p.tables e below (T1.setTop (mkF m 4 #[.val (.ref a), .val (.ref b)] [(.int cb)])) _
    refine XS.aloadN X1.here hx rfl (hb hby d2_4) rfl rfl ?_
    show Steps p.tables e below (T1.setTop (mkF m 5 #[.val (.ref a), .val (.ref b)] [(.ref a), (.int cb)])) _
    refine st2 _ ?_
    show Steps p.tables e below (T2.setTop (mkF m 8 #[.val (.ref a), .val (.ref b)] [(.int ca), (.int cb)])) _
    exact k)
  by_cases hc4 : ca < cb
  · have pre5 := fun (t : State) (k : Steps p.tables e below (T2.setTop (mkF m 16 #[.val (.ref a), .val (.ref b)] [(.ref b)])) t) => pre3 t (by
      refine XS.icmpNo X2.here hx rfl (hb hby d2_8) rfl (tlt hc4).2.2.2 ?_
      show Steps p.tables e below (T2.setTop (mkF m 11 #[.val (.ref a), .val (.ref b)] [])) _
      refine XS.aloadN X2.here hx rfl (hb hby d2_11) rfl rfl ?_
      show Steps p.tables e below (T2.setTop (mkF m 12 #[.val (.ref a), .val (.ref b)] [(.ref b)])) _
      refine XS.goto X2.here hx rfl (pc0 := 12) (pc' := 16) rfl (hb hby d2_12) (by decide) (by decide) ?_
      show Steps p.tables e below (T2.setTop (mkF m 16 #[.val (.ref a), .val (.ref b)] [(.ref b)])) _
      exact k)
    obtain ⟨fs, hr, hrun, hended, hW, hsame⟩ := X2.leave (v := some (.ref b)) (fun h => by rw [Bd.returns] at h; cases h)
    refine ⟨_, _, pre5 _ ?_, hrun, hended, _, _, rfl, ?_, ⟨_, rfl⟩, hW, hsame.mono (by decide) (by decide)⟩
    · jvm_step X2.here [X2.here.top, hx, (hb hby d2_16), X2.method', Bd.returns, Value.isRef, FieldType.isReference]
      first | (intro acts; rw [hr _ acts rfl rfl rfl]) | rw [hr _ _ rfl rfl rfl]
      exact Steps.refl _
    · show Q_emax Z a b ca cb r h0 n0 _ T2.heap _
      rw [e2]
      exact ⟨(by first | rw [hr0 (by assumption)] | rw [hr1 (by assumption)]), N0, rfl⟩
  · have pre6 := fun (t : State) (k : Steps p.tables e below (T2.setTop (mkF m 16 #[.val (.ref a), .val (.ref b)] [(.ref a)])) t) => pre3 t (by
      refine XS.icmpYes X2.here hx rfl (pc0 := 8) (pc' := 15) rfl (hb hby d2_8) rfl (flt hc4).2.2.2 (by decide) (by decide) ?_
      show Steps p.tables e below (T2.setTop (mkF m 15 #[.val (.ref a), .val (.ref b)] [])) _
      refine XS.aloadN X2.here hx rfl (hb hby d2_15) rfl rfl ?_
      show Steps p.tables e below (T2.setTop (mkF m 16 #[.val (.ref a), .val (.ref b)] [(.ref a)])) _
      exact k)
    obtain ⟨fs, hr, hrun, hended, hW, hsame⟩ := X2.leave (v := some (.ref a)) (fun h => by rw [Bd.returns] at h; cases h)
    refine ⟨_, _, pre6 _ ?_, hrun, hended, _, _, rfl, ?_, ⟨_, rfl⟩, hW, hsame.mono (by decide) (by decide)⟩
    · jvm_step X2.here [X2.here.top, hx, (hb hby d2_16), X2.method', Bd.returns, Value.isRef, FieldType.isReference]
      first | (intro acts; rw [hr _ acts rfl rfl rfl]) | rw [hr _ _ rfl rfl rfl]
      exact Steps.refl _
    · show Q_emax Z a b ca cb r h0 n0 _ T2.heap _
      rw [e2]
      exact ⟨(by first | rw [hr0 (by assumption)] | rw [hr1 (by assumption)]), N0, rfl⟩

theorem ef_gc (m : MethodId) (x0 : Addr) : entryFrame m #[(.ref x0)] 1 = mkF m 0 #[.val (.ref x0)] [] := by first | (simp [entryFrame, mkF, argsToLocals, Value.category]; done) | rfl
def Q_gc (Z : State) (a : Addr) (ca : Int32) (h0 : Heap) (n0 : Nat) (v : Option Value) (h : Heap) (L : List Loc) : Prop := v = some (.int ca) ∧ Fr n0 L ∧ h = h0
set_option maxRecDepth 65536 in
set_option maxHeartbeats 40000000 in
theorem rm_gc (l : Launch) (Z : State) (a0 : Array Value) (hw : ∀ d ∈ tables_1, d.before a0 Z = true) (ws : List Jvm.Cond) (a : Addr) (ca : Int32) (h0 : Heap) (n0 : Nat) (Z0 : n0 ≤ h0.size) (H0_F : Fld Z h0 a "com/example/marking/marking/commands/ExitCode" "code" "I" (.int ca)) :
    MetFree l (⟨"com/example/marking/marking/commands/ExitCode", "getCode", "()I"⟩ : MethodName) (head1 (Jvm.Cond.code (⟨"com/example/marking/marking/commands/ExitCode", "getCode", "()I"⟩ : MethodName) prog_17_method_4_code 1 (some .int) :: ws) ({ frames := 0, cells := 0, slots := 0, locals := 0 } : Room)) (fun as_ U_ => as_ = #[(.ref a)] ∧ Z.Warmed39 U_.vm ∧ U_.heap = h0) (fun _ _ _ _ _ => True) (fun _ U o U' => ∃ v L, o = .returned v ∧ Q_gc Z a ca h0 n0 v U'.heap L ∧ FrameEnd U o U' L ({ frames := 0, cells := 0, slots := 0, locals := 0 } : Room).cells ({ frames := 0, cells := 0, slots := 0, locals := 0 } : Room).slots) := by
  refine MetFree.of_bodySF (plainFor_of_name pn_1) hisR ?_
  intro p e s m args below meth c s₁ Bd hml0 hP hK
  obtain ⟨rfl, hZ, hh⟩ := hP
  have hx := Bd.exec
  have hby := Bd.bytes
  have hml : c.maxLocals = 1 := hml0
  have hown : s.vm.findClass "com/example/marking/marking/commands/ExitCode" = some m.cls := findClass_of_methodNamed Bd.named
  have hnm := (name_of_methodNamed Bd.named Bd.method).1
  have X0 : Stand p l e ({ frames := 0, cells := 0, slots := 0, locals := 0 } : Room) s m #[(.ref a)] below meth c s₁ [] 0 0 := Stand.of_body Bd
  have e0 : s₁.heap = h0 := by rw [← hh, Bd.state]; rfl
  have N0 := Fr.nil n0
  have pre0 : ∀ t, Steps p.tables e below (s₁.setTop (mkF m 0 #[.val (.ref a)] [])) t → Steps p.tables e below (s₁.setTop (entryFrame m #[(.ref a)] 1)) t := fun t k => castTop (ef_gc m a) k
  obtain ⟨T1, X1, e1, st1⟩ := getF X0 hx hZ hown (host := "") (Or.inl (hw _ (List.mem_of_getElem? (i := 15) rfl))) Via.refl e0 H0_F (g := (mkF m 1 #[.val (.ref a)] [(.ref a)])) rfl rfl (hb hby d3_1)
  have pre2 := fun (t : State) (k : Steps p.tables e below (T1.setTop (mkF m 4 #[.val (.ref a)] [(.int ca)])) t) => pre0 t (by
    refine XS.aloadN X0.here hx rfl (hb hby d3_0) rfl rfl ?_
    show Steps p.tables e below (s₁.setTop (mkF m 1 #[.val (.ref a)] [(.ref a)])) _
    refine st1 _ ?_
    show Steps p.tables e below (T1.setTop (mkF m 4 #[.val (.ref a)] [(.int ca)])) _
    exact k)
  obtain ⟨fs, hr, hrun, hended, hW, hsame⟩ := X1.leave (v := some (.int ca)) (fun h => by rw [Bd.returns] at h; cases h)
  refine ⟨_, _, pre2 _ ?_, hrun, hended, _, _, rfl, ?_, ⟨_, rfl⟩, hW, hsame.mono (by decide) (by decide)⟩
  · exact retI X1 hx Bd.returns (hb hby d3_4) hr
  · show Q_gc Z a ca h0 n0 _ T1.heap _
    rw [e1]
    exact ⟨rfl, N0, rfl⟩

theorem ef_mmax (m : MethodId) (x0 : Int32) (x1 : Int32) : entryFrame m #[(.int x0), (.int x1)] 2 = mkF m 0 #[.val (.int x0), .val (.int x1)] [] := by first | (simp [entryFrame, mkF, argsToLocals, Value.category]; done) | rfl
def Q_mmax (Z : State) (xx : Int32) (yy : Int32) (r : Int32) (h0 : Heap) (n0 : Nat) (v : Option Value) (h : Heap) (L : List Loc) : Prop := v = some (.int r) ∧ Fr n0 L ∧ h = h0
set_option maxRecDepth 65536 in
set_option maxHeartbeats 40000000 in
theorem rm_mmax (l : Launch) (Z : State) (a0 : Array Value) (hw : ∀ d ∈ tables_1, d.before a0 Z = true) (ws : List Jvm.Cond) (xx : Int32) (yy : Int32) (r : Int32) (h0 : Heap) (n0 : Nat) (Z0 : n0 ≤ h0.size) (hr0 : xx < yy → r = yy) (hr1 : ¬ xx < yy → r = xx) :
    MetFree l (⟨"java/lang/Math", "max", "(II)I"⟩ : MethodName) (head1 (Jvm.Cond.code (⟨"java/lang/Math", "max", "(II)I"⟩ : MethodName) jdk_29_method_65_code 2 (some .int) :: ws) ({ frames := 0, cells := 0, slots := 0, locals := 0 } : Room)) (fun as_ U_ => as_ = #[(.int xx), (.int yy)] ∧ Z.Warmed39 U_.vm ∧ U_.heap = h0) (fun _ _ _ _ _ => True) (fun _ U o U' => ∃ v L, o = .returned v ∧ Q_mmax Z xx yy r h0 n0 v U'.heap L ∧ FrameEnd U o U' L ({ frames := 0, cells := 0, slots := 0, locals := 0 } : Room).cells ({ frames := 0, cells := 0, slots := 0, locals := 0 } : Room).slots) := by
  refine MetFree.of_bodySF (Jvm.Free.JP.mathPlain rfl (by decide +kernel)) hisR ?_
  intro p e s m args below meth c s₁ Bd hml0 hP hK
  obtain ⟨rfl, hZ, hh⟩ := hP
  have hx := Bd.exec
  have hby := Bd.bytes
  have hml : c.maxLocals = 2 := hml0
  have hown : s.vm.findClass "java/lang/Math" = some m.cls := findClass_of_methodNamed Bd.named
  have hnm := (name_of_methodNamed Bd.named Bd.method).1
  have X0 : Stand p l e ({ frames := 0, cells := 0, slots := 0, locals := 0 } : Room) s m #[(.int xx), (.int yy)] below meth c s₁ [] 0 0 := Stand.of_body Bd
  have e0 : s₁.heap = h0 := by rw [← hh, Bd.state]; rfl
  have N0 := Fr.nil n0
  have pre0 : ∀ t, Steps p.tables e below (s₁.setTop (mkF m 0 #[.val (.int xx), .val (.int yy)] [])) t → Steps p.tables e below (s₁.setTop (entryFrame m #[(.int xx), (.int yy)] 2)) t := fun t k => castTop (ef_mmax m xx yy) k
  have pre1 := fun (t : State) (k : Steps p.tables e below (s₁.setTop (mkF m 2 #[.val (.int xx), .val (.int yy)] [(.int yy), (.int xx)])) t) => pre0 t (by
    refine XS.iloadN X0.here hx rfl (hb hby d4_0) rfl ?_
    show Steps p.tables e below (s₁.setTop (mkF m 1 #[.val (.int xx), .val (.int yy)] [(.int xx)])) _
    refine XS.iloadN X0.here hx rfl (hb hby d4_1) rfl ?_
    show Steps p.tables e below (s₁.setTop (mkF m 2 #[.val (.int xx), .val (.int yy)] [(.int yy), (.int xx)])) _
    exact k)
  by_cases hc2 : xx < yy
  · have pre3 := fun (t : State) (k : Steps p.tables e below (s₁.setTop (mkF m 10 #[.val (.int xx), .val (.int yy)] [(.int yy)])) t) => pre1 t (by
      refine XS.icmpYes X0.here hx rfl (pc0 := 2) (pc' := 9) rfl (hb hby d4_2) rfl (tlt hc2).1 (by decide) (by decide) ?_
      show Steps p.tables e below (s₁.setTop (mkF m 9 #[.val (.int xx), .val (.int yy)] [])) _
      refine XS.iloadN X0.here hx rfl (hb hby d4_9) rfl ?_
      show Steps p.tables e below (s₁.setTop (mkF m 10 #[.val (.int xx), .val (.int yy)] [(.int yy)])) _
      exact k)
    obtain ⟨fs, hr, hrun, hended, hW, hsame⟩ := X0.leave (v := some (.int yy)) (fun h => by rw [Bd.returns] at h; cases h)
    refine ⟨_, _, pre3 _ ?_, hrun, hended, _, _, rfl, ?_, ⟨_, rfl⟩, hW, hsame.mono (by decide) (by decide)⟩
    · exact retI X0 hx Bd.returns (hb hby d4_10) hr
    · show Q_mmax Z xx yy r h0 n0 _ s₁.heap _
      rw [e0]
      exact ⟨(by first | rw [hr0 (by assumption)] | rw [hr1 (by assumption)]), N0, rfl⟩
  · have pre4 := fun (t : State) (k : Steps p.tables e below (s₁.setTop (mkF m 10 #[.val (.int xx), .val (.int yy)] [(.int xx)])) t) => pre1 t (by
      refine XS.icmpNo X0.here hx rfl (hb hby d4_2) rfl (flt hc2).1 ?_
      show Steps p.tables e below (s₁.setTop (mkF m 5 #[.val (.int xx), .val (.int yy)] [])) _
      refine XS.iloadN X0.here hx rfl (hb hby d4_5) rfl ?_
      show Steps p.tables e below (s₁.setTop (mkF m 6 #[.val (.int xx), .val (.int yy)] [(.int xx)])) _
      refine XS.goto X0.here hx rfl (pc0 := 6) (pc' := 10) rfl (hb hby d4_6) (by decide) (by decide) ?_
      show Steps p.tables e below (s₁.setTop (mkF m 10 #[.val (.int xx), .val (.int yy)] [(.int xx)])) _
      exact k)
    obtain ⟨fs, hr, hrun, hended, hW, hsame⟩ := X0.leave (v := some (.int xx)) (fun h => by rw [Bd.returns] at h; cases h)
    refine ⟨_, _, pre4 _ ?_, hrun, hended, _, _, rfl, ?_, ⟨_, rfl⟩, hW, hsame.mono (by decide) (by decide)⟩
    · exact retI X0 hx Bd.returns (hb hby d4_10) hr
    · show Q_mmax Z xx yy r h0 n0 _ s₁.heap _
      rw [e0]
      exact ⟨(by first | rw [hr0 (by assumption)] | rw [hr1 (by assumption)]), N0, rfl⟩

theorem ef_law (m : MethodId) (x0 : Int32) (x1 : Int32) : entryFrame m #[(.int x0), (.int x1)] maxLocals = mkF m 0 #[.val (.int x0), .val (.int x1), .unset, .unset, .unset, .unset, .unset, .unset] [] := by first | (simp [entryFrame, mkF, argsToLocals, Value.category, maxLocals]; done) | rfl
def Q_law (Z : State) (p1 : Int32) (p2 : Int32) (w0 : Addr) (w1 : Addr) (w2 : Addr) (w3 : Addr) (w4 : Addr) (w5 : Addr) (w6 : Addr) (h0 : Heap) (n0 : Nat) (v : Option Value) (h : Heap) (L : List Loc) : Prop := v = some (.int (1 : Int32)) ∧ Fr n0 L ∧ h = h0
set_option maxRecDepth 65536 in
set_option maxHeartbeats 40000000 in
theorem rm_law (l : Launch) (Z : State) (a0 : Array Value) (hw : ∀ d ∈ tables_1, d.before a0 Z = true) (ws : List Jvm.Cond) (p1 : Int32) (p2 : Int32) (w0 : Addr) (w1 : Addr) (w2 : Addr) (w3 : Addr) (w4 : Addr) (w5 : Addr) (w6 : Addr) (h0 : Heap) (n0 : Nat) (Z0 : n0 ≤ h0.size) (H0_S : Sta Z h0 "com/example/marking/marking/commands/ExitCode" "DONE" "Lcom/example/marking/marking/commands/ExitCode;" (.ref w0)) (H1_S : Sta Z h0 "com/example/marking/marking/commands/ExitCode" "UNSOUND" "Lcom/example/marking/marking/commands/ExitCode;" (.ref w1)) (H2_S : Sta Z h0 "com/example/marking/marking/commands/ExitCode" "USAGE" "Lcom/example/marking/marking/commands/ExitCode;" (.ref w2)) (H3_S : Sta Z h0 "com/example/marking/marking/commands/ExitCode" "NOT_A_WORKFLOW_NET" "Lcom/example/marking/marking/commands/ExitCode;" (.ref w3)) (H4_S : Sta Z h0 "com/example/marking/marking/commands/ExitCode" "UNREADABLE" "Lcom/example/marking/marking/commands/ExitCode;" (.ref w4)) (H5_S : Sta Z h0 "com/example/marking/marking/commands/ExitCode" "OUT_OF_SCOPE" "Lcom/example/marking/marking/commands/ExitCode;" (.ref w5)) (H6_S : Sta Z h0 "com/example/marking/marking/commands/ExitCode" "INTERNAL_ERROR" "Lcom/example/marking/marking/commands/ExitCode;" (.ref w6)) (H7_F : Fld Z h0 w0 "com/example/marking/marking/commands/ExitCode" "code" "I" (.int (0 : Int32))) (H8_F : Fld Z h0 w1 "com/example/marking/marking/commands/ExitCode" "code" "I" (.int (1 : Int32))) (H9_F : Fld Z h0 w2 "com/example/marking/marking/commands/ExitCode" "code" "I" (.int (2 : Int32))) (H10_F : Fld Z h0 w3 "com/example/marking/marking/commands/ExitCode" "code" "I" (.int (3 : Int32))) (H11_F : Fld Z h0 w4 "com/example/marking/marking/commands/ExitCode" "code" "I" (.int (4 : Int32))) (H12_F : Fld Z h0 w5 "com/example/marking/marking/commands/ExitCode" "code" "I" (.int (5 : Int32))) (H13_F : Fld Z h0 w6 "com/example/marking/marking/commands/ExitCode" "code" "I" (.int (70 : Int32))) (H14_E : Exa Z h0 w0 "com/example/marking/marking/commands/ExitCode") (H15_E : Exa Z h0 w1 "com/example/marking/marking/commands/ExitCode") (H16_E : Exa Z h0 w2 "com/example/marking/marking/commands/ExitCode") (H17_E : Exa Z h0 w3 "com/example/marking/marking/commands/ExitCode") (H18_E : Exa Z h0 w4 "com/example/marking/marking/commands/ExitCode") (H19_E : Exa Z h0 w5 "com/example/marking/marking/commands/ExitCode") (H20_E : Exa Z h0 w6 "com/example/marking/marking/commands/ExitCode") :
    MetFree l x (head1 (Jvm.Cond.code x code maxLocals ret :: ws) room_1) (fun as_ U_ => as_ = #[(.int p1), (.int p2)] ∧ Z.Warmed39 U_.vm ∧ U_.heap = h0) (fun _ _ _ _ _ => True) (fun _ U o U' => ∃ v L, o = .returned v ∧ Q_law Z p1 p2 w0 w1 w2 w3 w4 w5 w6 h0 n0 v U'.heap L ∧ FrameEnd U o U' L 0 0) := by
  refine MetFree.of_bodySF (plainFor_of_name pn_0) hisR ?_
  intro p e s m args below meth c s₁ Bd hml0 hP hK
  obtain ⟨rfl, hZ, hh⟩ := hP
  have hx := Bd.exec
  have hby := Bd.bytes
  have hml : c.maxLocals = 8 := hml0
  have hown : s.vm.findClass "com/example/marking/marking/commands/ExitCodeMaxPinLaw" = some m.cls := findClass_of_methodNamed Bd.named
  have hnm := (name_of_methodNamed Bd.named Bd.method).1
  have X0 : Stand p l e room_1 s m #[(.int p1), (.int p2)] below meth c s₁ [] 0 0 := Stand.of_body Bd
  have e0 : s₁.heap = h0 := by rw [← hh, Bd.state]; rfl
  have N0 := Fr.nil n0
  have pre0 : ∀ t, Steps p.tables e below (s₁.setTop (mkF m 0 #[.val (.int p1), .val (.int p2), .unset, .unset, .unset, .unset, .unset, .unset] [])) t → Steps p.tables e below (s₁.setTop (entryFrame m #[(.int p1), (.int p2)] maxLocals)) t := fun t k => castTop (ef_law m p1 p2) k
  obtain ⟨_, _, ⟨T1, L1, k1, n1⟩, -, X1, ⟨Lc1, hQ1, l1, y1, z1⟩, st1⟩ := Jvm.LawKit.callS X0 hx (y := (⟨"com/example/marking/marking/commands/ExitCodeMaxPinLaw", "pick", "(I)Lcom/example/marking/marking/commands/ExitCode;"⟩ : MethodName)) hown (mvT hZ (hw _ (List.mem_of_getElem? (i := 1) rfl))) (mvT hZ (hw _ (List.mem_of_getElem? (i := 2) rfl))) (mvT hZ (hw _ (List.mem_of_getElem? (i := 3) rfl))) (mvT hZ (hw _ (List.mem_of_getElem? (i := 4) rfl))) (by decide) (backOf (W := 0) (rm_pick l Z a0 hw [] (own_irem (p1 &&& (2147483647 : Int32)) (7 : Int32)) w0 w1 w2 w3 w4 w5 w6 h0 n0 Z0 H0_S H1_S H2_S H3_S H4_S H5_S H6_S H7_F H8_F H9_F H10_F H11_F H12_F H13_F H14_E H15_E H16_E H17_E H18_E H19_E H20_E (own_rem7 p1).1 (own_rem7 p1).2) hZ (hw _ (List.mem_of_getElem? (i := 4) rfl)) (hw _ (List.mem_of_getElem? (i := 3) rfl)) (by decide) (by decide)) (g := (mkF m 17 #[.val (.int p1), .val (.int p2), .val (.int (own_irem (p1 &&& (2147483647 : Int32)) (7 : Int32))), .val (.int (own_irem (p2 &&& (2147483647 : Int32)) (7 : Int32))), .unset, .unset, .unset, .unset] [(.int (own_irem (p1 &&& (2147483647 : Int32)) (7 : Int32)))])) rfl (by rw [hml]; rfl) (argsL := [(.int (own_irem (p1 &&& (2147483647 : Int32)) (7 : Int32)))]) (rest := []) (lenOf pd_0 rfl) rfl (by show 2 * 0 + _ ≤ _; exact Nat.le_of_eq rfl) (hb hby at_17) (fun _ _ => ⟨rfl, e0, (by decide : 0 + 0 ≤ _), (by decide : 0 + 0 ≤ _)⟩)
  dsimp only [Pt.U, Pt.locs, Pt.cells, Pt.slots] at X1 l1 y1 z1 st1 hQ1
  subst l1 y1 z1
  obtain ⟨x2, rfl, N1q, hq3, F4, E5⟩ := hQ1
  have N1 := Fr.app N0 N1q
  obtain ⟨_, _, ⟨T6, L6, k6, n6⟩, -, X6, ⟨Lc6, hQ6, l6, y6, z6⟩, st6⟩ := Jvm.LawKit.callS X1 hx (y := (⟨"com/example/marking/marking/commands/ExitCodeMaxPinLaw", "pick", "(I)Lcom/example/marking/marking/commands/ExitCode;"⟩ : MethodName)) hown (mvT hZ (hw _ (List.mem_of_getElem? (i := 1) rfl))) (mvT hZ (hw _ (List.mem_of_getElem? (i := 2) rfl))) (mvT hZ (hw _ (List.mem_of_getElem? (i := 3) rfl))) (mvT hZ (hw _ (List.mem_of_getElem? (i := 4) rfl))) (by decide) (backOf (W := 0) (rm_pick l Z a0 hw [] (own_irem (p2 &&& (2147483647 : Int32)) (7 : Int32)) w0 w1 w2 w3 w4 w5 w6 h0 n0 Z0 H0_S H1_S H2_S H3_S H4_S H5_S H6_S H7_F H8_F H9_F H10_F H11_F H12_F H13_F H14_E H15_E H16_E H17_E H18_E H19_E H20_E (own_rem7 p2).1 (own_rem7 p2).2) hZ (hw _ (List.mem_of_getElem? (i := 4) rfl)) (hw _ (List.mem_of_getElem? (i := 3) rfl)) (by decide) (by decide)) (g := (mkF m 23 #[.val (.int p1), .val (.int p2), .val (.int (own_irem (p1 &&& (2147483647 : Int32)) (7 : Int32))), .val (.int (own_irem (p2 &&& (2147483647 : Int32)) (7 : Int32))), .val (.ref x2), .unset, .unset, .unset] [(.int (own_irem (p2 &&& (2147483647 : Int32)) (7 : Int32)))])) rfl (by rw [hml]; rfl) (argsL := [(.int (own_irem (p2 &&& (2147483647 : Int32)) (7 : Int32)))]) (rest := []) (lenOf pd_0 rfl) rfl (by show 2 * 0 + _ ≤ _; exact Nat.le_of_eq rfl) (hb hby at_23) (fun _ _ => ⟨rfl, hq3, (by decide : 0 + 0 ≤ _), (by decide : 0 + 0 ≤ _)⟩)
  dsimp only [Pt.U, Pt.locs, Pt.cells, Pt.slots] at X6 l6 y6 z6 st6 hQ6
  subst l6 y6 z6
  obtain ⟨x7, rfl, N6q, hq8, F9, E10⟩ := hQ6
  have N6 := Fr.app N1 N6q
  have pre11 := fun (t : State) (k : Steps p.tables e below (T6.setTop (mkF m 32 #[.val (.int p1), .val (.int p2), .val (.int (own_irem (p1 &&& (2147483647 : Int32)) (7 : Int32))), .val (.int (own_irem (p2 &&& (2147483647 : Int32)) (7 : Int32))), .val (.ref x2), .val (.ref x7), .unset, .unset] [(.ref x7), (.ref x2)])) t) => pre0 t (by
    refine XS.iloadN X0.here hx rfl (hb hby at_0) rfl ?_
    show Steps p.tables e below (s₁.setTop (mkF m 1 #[.val (.int p1), .val (.int p2), .unset, .unset, .unset, .unset, .unset, .unset] [(.int p1)])) _
    refine X0.ldcInt hx hown (mvT hZ (hw _ (List.mem_of_getElem? (i := 0) rfl))) (g := (mkF m 1 #[.val (.int p1), .val (.int p2), .unset, .unset, .unset, .unset, .unset, .unset] [(.int p1)])) rfl (hb hby at_1) _ ?_
    show Steps p.tables e below (s₁.setTop (mkF m 3 #[.val (.int p1), .val (.int p2), .unset, .unset, .unset, .unset, .unset, .unset] [(.int (2147483647 : Int32)), (.int p1)])) _
    refine XS.iand X0.here hx rfl (hb hby at_3) rfl ?_
    show Steps p.tables e below (s₁.setTop (mkF m 4 #[.val (.int p1), .val (.int p2), .unset, .unset, .unset, .unset, .unset, .unset] [(.int (p1 &&& (2147483647 : Int32)))])) _
    refine XS.bipush X0.here hx rfl (hb hby at_4) ?_
    show Steps p.tables e below (s₁.setTop (mkF m 6 #[.val (.int p1), .val (.int p2), .unset, .unset, .unset, .unset, .unset, .unset] [(.int (7 : Int32)), (.int (p1 &&& (2147483647 : Int32)))])) _
    refine XS.irem X0.here hx rfl (hb hby at_6) rfl (by decide) ?_
    show Steps p.tables e below (s₁.setTop (mkF m 7 #[.val (.int p1), .val (.int p2), .unset, .unset, .unset, .unset, .unset, .unset] [(.int (own_irem (p1 &&& (2147483647 : Int32)) (7 : Int32)))])) _
    refine XS.istoreN X0.here hx rfl (hb hby at_7) rfl (l' := #[.val (.int p1), .val (.int p2), .val (.int (own_irem (p1 &&& (2147483647 : Int32)) (7 : Int32))), .unset, .unset, .unset, .unset, .unset]) rfl ?_
    show Steps p.tables e below (s₁.setTop (mkF m 8 #[.val (.int p1), .val (.int p2), .val (.int (own_irem (p1 &&& (2147483647 : Int32)) (7 : Int32))), .unset, .unset, .unset, .unset, .unset] [])) _
    refine XS.iloadN X0.here hx rfl (hb hby at_8) rfl ?_
    show Steps p.tables e below (s₁.setTop (mkF m 9 #[.val (.int p1), .val (.int p2), .val (.int (own_irem (p1 &&& (2147483647 : Int32)) (7 : Int32))), .unset, .unset, .unset, .unset, .unset] [(.int p2)])) _
    refine X0.ldcInt hx hown (mvT hZ (hw _ (List.mem_of_getElem? (i := 0) rfl))) (g := (mkF m 9 #[.val (.int p1), .val (.int p2), .val (.int (own_irem (p1 &&& (2147483647 : Int32)) (7 : Int32))), .unset, .unset, .unset, .unset, .unset] [(.int p2)])) rfl (hb hby at_9) _ ?_
    show Steps p.tables e below (s₁.setTop (mkF m 11 #[.val (.int p1), .val (.int p2), .val (.int (own_irem (p1 &&& (2147483647 : Int32)) (7 : Int32))), .unset, .unset, .unset, .unset, .unset] [(.int (2147483647 : Int32)), (.int p2)])) _
    refine XS.iand X0.here hx rfl (hb hby at_11) rfl ?_
    show Steps p.tables e below (s₁.setTop (mkF m 12 #[.val (.int p1), .val (.int p2), .val (.int (own_irem (p1 &&& (2147483647 : Int32)) (7 : Int32))), .unset, .unset, .unset, .unset, .unset] [(.int (p2 &&& (2147483647 : Int32)))])) _
    refine XS.bipush X0.here hx rfl (hb hby at_12) ?_
    show Steps p.tables e below (s₁.setTop (mkF m 14 #[.val (.int p1), .val (.int p2), .val (.int (own_irem (p1 &&& (2147483647 : Int32)) (7 : Int32))), .unset, .unset, .unset, .unset, .unset] [(.int (7 : Int32)), (.int (p2 &&& (2147483647 : Int32)))])) _
    refine XS.irem X0.here hx rfl (hb hby at_14) rfl (by decide) ?_
    show Steps p.tables e below (s₁.setTop (mkF m 15 #[.val (.int p1), .val (.int p2), .val (.int (own_irem (p1 &&& (2147483647 : Int32)) (7 : Int32))), .unset, .unset, .unset, .unset, .unset] [(.int (own_irem (p2 &&& (2147483647 : Int32)) (7 : Int32)))])) _
    refine XS.istoreN X0.here hx rfl (hb hby at_15) rfl (l' := #[.val (.int p1), .val (.int p2), .val (.int (own_irem (p1 &&& (2147483647 : Int32)) (7 : Int32))), .val (.int (own_irem (p2 &&& (2147483647 : Int32)) (7 : Int32))), .unset, .unset, .unset, .unset]) rfl ?_
    show Steps p.tables e below (s₁.setTop (mkF m 16 #[.val (.int p1), .val (.int p2), .val (.int (own_irem (p1 &&& (2147483647 : Int32)) (7 : Int32))), .val (.int (own_irem (p2 &&& (2147483647 : Int32)) (7 : Int32))), .unset, .unset, .unset, .unset] [])) _
    refine XS.iloadN X0.here hx rfl (hb hby at_16) rfl ?_
    show Steps p.tables e below (s₁.setTop (mkF m 17 #[.val (.int p1), .val (.int p2), .val (.int (own_irem (p1 &&& (2147483647 : Int32)) (7 : Int32))), .val (.int (own_irem (p2 &&& (2147483647 : Int32)) (7 : Int32))), .unset, .unset, .unset, .unset] [(.int (own_irem (p1 &&& (2147483647 : Int32)) (7 : Int32)))])) _
    refine st1 _ ?_
    show Steps p.tables e below (T1.setTop (mkF m 20 #[.val (.int p1), .val (.int p2), .val (.int (own_irem (p1 &&& (2147483647 : Int32)) (7 : Int32))), .val (.int (own_irem (p2 &&& (2147483647 : Int32)) (7 : Int32))), .unset, .unset, .unset, .unset] [(.ref x2)])) _
    refine XS.astore X1.here hx rfl (hb hby at_20) rfl rfl (l' := #[.val (.int p1), .val (.int p2), .val (.int (own_irem (p1 &&& (2147483647 : Int32)) (7 : Int32))), .val (.int (own_irem (p2 &&& (2147483647 : Int32)) (7 : Int32))), .val (.ref x2), .unset, .unset, .unset]) rfl ?_
    show Steps p.tables e below (T1.setTop (mkF m 22 #[.val (.int p1), .val (.int p2), .val (.int (own_irem (p1 &&& (2147483647 : Int32)) (7 : Int32))), .val (.int (own_irem (p2 &&& (2147483647 : Int32)) (7 : Int32))), .val (.ref x2), .unset, .unset, .unset] [])) _
    refine XS.iloadN X1.here hx rfl (hb hby at_22) rfl ?_
    show Steps p.tables e below (T1.setTop (mkF m 23 #[.val (.int p1), .val (.int p2), .val (.int (own_irem (p1 &&& (2147483647 : Int32)) (7 : Int32))), .val (.int (own_irem (p2 &&& (2147483647 : Int32)) (7 : Int32))), .val (.ref x2), .unset, .unset, .unset] [(.int (own_irem (p2 &&& (2147483647 : Int32)) (7 : Int32)))])) _
    refine st6 _ ?_
    show Steps p.tables e below (T6.setTop (mkF m 26 #[.val (.int p1), .val (.int p2), .val (.int (own_irem (p1 &&& (2147483647 : Int32)) (7 : Int32))), .val (.int (own_irem (p2 &&& (2147483647 : Int32)) (7 : Int32))), .val (.ref x2), .unset, .unset, .unset] [(.ref x7)])) _
    refine XS.astore X6.here hx rfl (hb hby at_26) rfl rfl (l' := #[.val (.int p1), .val (.int p2), .val (.int (own_irem (p1 &&& (2147483647 : Int32)) (7 : Int32))), .val (.int (own_irem (p2 &&& (2147483647 : Int32)) (7 : Int32))), .val (.ref x2), .val (.ref x7), .unset, .unset]) rfl ?_
    show Steps p.tables e below (T6.setTop (mkF m 28 #[.val (.int p1), .val (.int p2), .val (.int (own_irem (p1 &&& (2147483647 : Int32)) (7 : Int32))), .val (.int (own_irem (p2 &&& (2147483647 : Int32)) (7 : Int32))), .val (.ref x2), .val (.ref x7), .unset, .unset] [])) _
    refine XS.aload X6.here hx rfl (hb hby at_28) rfl rfl ?_
    show Steps p.tables e below (T6.setTop (mkF m 30 #[.val (.int p1), .val (.int p2), .val (.int (own_irem (p1 &&& (2147483647 : Int32)) (7 : Int32))), .val (.int (own_irem (p2 &&& (2147483647 : Int32)) (7 : Int32))), .val (.ref x2), .val (.ref x7), .unset, .unset] [(.ref x2)])) _
    refine XS.aload X6.here hx rfl (hb hby at_30) rfl rfl ?_
    show Steps p.tables e below (T6.setTop (mkF m 32 #[.val (.int p1), .val (.int p2), .val (.int (own_irem (p1 &&& (2147483647 : Int32)) (7 : Int32))), .val (.int (own_irem (p2 &&& (2147483647 : Int32)) (7 : Int32))), .val (.ref x2), .val (.ref x7), .unset, .unset] [(.ref x7), (.ref x2)])) _
    exact k)
  by_cases hs12 : (own_irem (p1 &&& (2147483647 : Int32)) (7 : Int32)) < (own_irem (p2 &&& (2147483647 : Int32)) (7 : Int32))
  · obtain ⟨cq13, kq13, q13a, q13b, q13c⟩ := isOf hZ hq8 E5
    obtain ⟨_, _, ⟨T13, L13, k13, n13⟩, -, X13, ⟨Lc13, hQ13, l13, y13, z13⟩, st13⟩ := X6.virtualBack hx (y := (⟨"com/example/marking/marking/commands/ExitCode", "max", "(Lcom/example/marking/marking/commands/ExitCode;)Lcom/example/marking/marking/commands/ExitCode;"⟩ : MethodName)) (z := (⟨"com/example/marking/marking/commands/ExitCode", "max", "(Lcom/example/marking/marking/commands/ExitCode;)Lcom/example/marking/marking/commands/ExitCode;"⟩ : MethodName)) hown (mvT hZ (hw _ (List.mem_of_getElem? (i := 10) rfl))) (mvT hZ (hw _ (List.mem_of_getElem? (i := 11) rfl))) (notFace_of_selects (args := #[]) (mvT hZ (hw _ (List.mem_of_getElem? (i := 13) rfl)))) (mvT hZ (hw _ (List.mem_of_getElem? (i := 13) rfl))) (mvT hZ (hw _ (List.mem_of_getElem? (i := 12) rfl))) (by decide) (backOf (W := 0) (rm_emax l Z a0 hw [] x2 x7 (own_code (own_irem (p1 &&& (2147483647 : Int32)) (7 : Int32))) (own_code (own_irem (p2 &&& (2147483647 : Int32)) (7 : Int32))) x7 h0 n0 Z0 F4 F9 (fun _ => rfl) (fun q => absurd ((own_code_lt (own_rem7 p1).1 (own_rem7 p1).2 (own_rem7 p2).1 (own_rem7 p2).2).mpr hs12) q)) hZ (hw _ (List.mem_of_getElem? (i := 14) rfl)) (hw _ (List.mem_of_getElem? (i := 6) rfl)) (by decide) (by decide)) q13a q13c (g := (mkF m 32 #[.val (.int p1), .val (.int p2), .val (.int (own_irem (p1 &&& (2147483647 : Int32)) (7 : Int32))), .val (.int (own_irem (p2 &&& (2147483647 : Int32)) (7 : Int32))), .val (.ref x2), .val (.ref x7), .unset, .unset] [(.ref x7), (.ref x2)])) rfl (by rw [hml]; rfl) (Steps.refl _) (argsL := [(.ref x7)]) (rest := []) (lenOf pd_1 rfl) rfl (by show 2 * 0 + _ ≤ _; exact Nat.le_of_eq rfl) (hb hby at_32) (fun _ _ => ⟨rfl, hq8, (by decide : 0 + 0 ≤ _), (by decide : 0 + 0 ≤ _)⟩)
    dsimp only [Pt.U, Pt.locs, Pt.cells, Pt.slots] at X13 l13 y13 z13 st13 hQ13
    subst l13 y13 z13
    obtain ⟨rfl, N13q, hq14⟩ := hQ13
    have N13 := Fr.app N6 N13q
    obtain ⟨cq15, kq15, q15a, q15b, q15c⟩ := isOf hZ hq14 E10
    obtain ⟨_, _, ⟨T15, L15, k15, n15⟩, -, X15, ⟨Lc15, hQ15, l15, y15, z15⟩, st15⟩ := X13.virtualBack hx (y := (⟨"com/example/marking/marking/commands/ExitCode", "getCode", "()I"⟩ : MethodName)) (z := (⟨"com/example/marking/marking/commands/ExitCode", "getCode", "()I"⟩ : MethodName)) hown (mvT hZ (hw _ (List.mem_of_getElem? (i := 17) rfl))) (mvT hZ (hw _ (List.mem_of_getElem? (i := 18) rfl))) (notFace_of_selects (args := #[]) (mvT hZ (hw _ (List.mem_of_getElem? (i := 20) rfl)))) (mvT hZ (hw _ (List.mem_of_getElem? (i := 20) rfl))) (mvT hZ (hw _ (List.mem_of_getElem? (i := 19) rfl))) (by decide) (backOf (W := 0) (rm_gc l Z a0 hw [] x7 (own_code (own_irem (p2 &&& (2147483647 : Int32)) (7 : Int32))) h0 n0 Z0 F9) hZ (hw _ (List.mem_of_getElem? (i := 21) rfl)) (hw _ (List.mem_of_getElem? (i := 6) rfl)) (by decide) (by decide)) q15a q15c (g := (mkF m 60 #[.val (.int p1), .val (.int p2), .val (.int (own_irem (p1 &&& (2147483647 : Int32)) (7 : Int32))), .val (.int (own_irem (p2 &&& (2147483647 : Int32)) (7 : Int32))), .val (.ref x2), .val (.ref x7), .val (.ref x7), .val (.ref x7)] [(.ref x7)])) rfl (by rw [hml]; rfl) (Steps.refl _) (argsL := []) (rest := []) (lenOf pd_2 rfl) rfl (by show 2 * 0 + _ ≤ _; exact Nat.le_of_eq rfl) (hb hby at_60) (fun _ _ => ⟨rfl, hq14, (by decide : 0 + 0 ≤ _), (by decide : 0 + 0 ≤ _)⟩)
    dsimp only [Pt.U, Pt.locs, Pt.cells, Pt.slots] at X15 l15 y15 z15 st15 hQ15
    subst l15 y15 z15
    obtain ⟨rfl, N15q, hq16⟩ := hQ15
    have N15 := Fr.app N13 N15q
    obtain ⟨cq17, kq17, q17a, q17b, q17c⟩ := isOf hZ hq16 E5
    obtain ⟨_, _, ⟨T17, L17, k17, n17⟩, -, X17, ⟨Lc17, hQ17, l17, y17, z17⟩, st17⟩ := X15.virtualBack hx (y := (⟨"com/example/marking/marking/commands/ExitCode", "getCode", "()I"⟩ : MethodName)) (z := (⟨"com/example/marking/marking/commands/ExitCode", "getCode", "()I"⟩ : MethodName)) hown (mvT hZ (hw _ (List.mem_of_getElem? (i := 17) rfl))) (mvT hZ (hw _ (List.mem_of_getElem? (i := 18) rfl))) (notFace_of_selects (args := #[]) (mvT hZ (hw _ (List.mem_of_getElem? (i := 20) rfl)))) (mvT hZ (hw _ (List.mem_of_getElem? (i := 20) rfl))) (mvT hZ (hw _ (List.mem_of_getElem? (i := 19) rfl))) (by decide) (backOf (W := 1) (rm_gc l Z a0 hw [] x2 (own_code (own_irem (p1 &&& (2147483647 : Int32)) (7 : Int32))) h0 n0 Z0 F4) hZ (hw _ (List.mem_of_getElem? (i := 21) rfl)) (hw _ (List.mem_of_getElem? (i := 6) rfl)) (by decide) (by decide)) q17a q17c (g := (mkF m 65 #[.val (.int p1), .val (.int p2), .val (.int (own_irem (p1 &&& (2147483647 : Int32)) (7 : Int32))), .val (.int (own_irem (p2 &&& (2147483647 : Int32)) (7 : Int32))), .val (.ref x2), .val (.ref x7), .val (.ref x7), .val (.ref x7)] [(.ref x2), (.int (own_code (own_irem (p2 &&& (2147483647 : Int32)) (7 : Int32))))])) rfl (by rw [hml]; rfl) (Steps.refl _) (argsL := []) (rest := [(.int (own_code (own_irem (p2 &&& (2147483647 : Int32)) (7 : Int32))))]) (lenOf pd_2 rfl) rfl (by show 2 * 0 + _ ≤ _; exact Nat.le_of_eq rfl) (hb hby at_65) (fun _ _ => ⟨rfl, hq16, (by decide : 0 + 0 ≤ _), (by decide : 0 + 0 ≤ _)⟩)
    dsimp only [Pt.U, Pt.locs, Pt.cells, Pt.slots] at X17 l17 y17 z17 st17 hQ17
    subst l17 y17 z17
    obtain ⟨rfl, N17q, hq18⟩ := hQ17
    have N17 := Fr.app N15 N17q
    obtain ⟨cq19, kq19, q19a, q19b, q19c⟩ := isOf hZ hq18 E10
    obtain ⟨_, _, ⟨T19, L19, k19, n19⟩, -, X19, ⟨Lc19, hQ19, l19, y19, z19⟩, st19⟩ := X17.virtualBack hx (y := (⟨"com/example/marking/marking/commands/ExitCode", "getCode", "()I"⟩ : MethodName)) (z := (⟨"com/example/marking/marking/commands/ExitCode", "getCode", "()I"⟩ : MethodName)) hown (mvT hZ (hw _ (List.mem_of_getElem? (i := 17) rfl))) (mvT hZ (hw _ (List.mem_of_getElem? (i := 18) rfl))) (notFace_of_selects (args := #[]) (mvT hZ (hw _ (List.mem_of_getElem? (i := 20) rfl)))) (mvT hZ (hw _ (List.mem_of_getElem? (i := 20) rfl))) (mvT hZ (hw _ (List.mem_of_getElem? (i := 19) rfl))) (by decide) (backOf (W := 2) (rm_gc l Z a0 hw [] x7 (own_code (own_irem (p2 &&& (2147483647 : Int32)) (7 : Int32))) h0 n0 Z0 F9) hZ (hw _ (List.mem_of_getElem? (i := 21) rfl)) (hw _ (List.mem_of_getElem? (i := 6) rfl)) (by decide) (by decide)) q19a q19c (g := (mkF m 70 #[.val (.int p1), .val (.int p2), .val (.int (own_irem (p1 &&& (2147483647 : Int32)) (7 : Int32))), .val (.int (own_irem (p2 &&& (2147483647 : Int32)) (7 : Int32))), .val (.ref x2), .val (.ref x7), .val (.ref x7), .val (.ref x7)] [(.ref x7), (.int (own_code (own_irem (p1 &&& (2147483647 : Int32)) (7 : Int32)))), (.int (own_code (own_irem (p2 &&& (2147483647 : Int32)) (7 : Int32))))])) rfl (by rw [hml]; rfl) (Steps.refl _) (argsL := []) (rest := [(.int (own_code (own_irem (p1 &&& (2147483647 : Int32)) (7 : Int32)))), (.int (own_code (own_irem (p2 &&& (2147483647 : Int32)) (7 : Int32))))]) (lenOf pd_2 rfl) rfl (by show 2 * 0 + _ ≤ _; exact Nat.le_of_eq rfl) (hb hby at_70) (fun _ _ => ⟨rfl, hq18, (by decide : 0 + 0 ≤ _), (by decide : 0 + 0 ≤ _)⟩)
    dsimp only [Pt.U, Pt.locs, Pt.cells, Pt.slots] at X19 l19 y19 z19 st19 hQ19
    subst l19 y19 z19
    obtain ⟨rfl, N19q, hq20⟩ := hQ19
    have N19 := Fr.app N17 N19q
    obtain ⟨_, _, ⟨T21, L21, k21, n21⟩, -, X21, ⟨Lc21, hQ21, l21, y21, z21⟩, st21⟩ := Jvm.LawKit.callS X19 hx (y := (⟨"java/lang/Math", "max", "(II)I"⟩ : MethodName)) hown (mvT hZ (hw _ (List.mem_of_getElem? (i := 22) rfl))) (mvT hZ (hw _ (List.mem_of_getElem? (i := 23) rfl))) (mvT hZ (hw _ (List.mem_of_getElem? (i := 24) rfl))) (mvT hZ (hw _ (List.mem_of_getElem? (i := 25) rfl))) (by decide) (backOf (W := 1) (rm_mmax l Z a0 hw [] (own_code (own_irem (p1 &&& (2147483647 : Int32)) (7 : Int32))) (own_code (own_irem (p2 &&& (2147483647 : Int32)) (7 : Int32))) (own_code (own_irem (p2 &&& (2147483647 : Int32)) (7 : Int32))) h0 n0 Z0 (fun _ => rfl) (fun q => absurd ((own_code_lt (own_rem7 p1).1 (own_rem7 p1).2 (own_rem7 p2).1 (own_rem7 p2).2).mpr hs12) q)) hZ (hw _ (List.mem_of_getElem? (i := 25) rfl)) (hw _ (List.mem_of_getElem? (i := 24) rfl)) (by decide) (by decide)) (g := (mkF m 73 #[.val (.int p1), .val (.int p2), .val (.int (own_irem (p1 &&& (2147483647 : Int32)) (7 : Int32))), .val (.int (own_irem (p2 &&& (2147483647 : Int32)) (7 : Int32))), .val (.ref x2), .val (.ref x7), .val (.ref x7), .val (.ref x7)] [(.int (own_code (own_irem (p2 &&& (2147483647 : Int32)) (7 : Int32)))), (.int (own_code (own_irem (p1 &&& (2147483647 : Int32)) (7 : Int32)))), (.int (own_code (own_irem (p2 &&& (2147483647 : Int32)) (7 : Int32))))])) rfl (by rw [hml]; rfl) (argsL := [(.int (own_code (own_irem (p1 &&& (2147483647 : Int32)) (7 : Int32)))), (.int (own_code (own_irem (p2 &&& (2147483647 : Int32)) (7 : Int32))))]) (rest := [(.int (own_code (own_irem (p2 &&& (2147483647 : Int32)) (7 : Int32))))]) (lenOf pd_3 rfl) rfl (by show 2 * 0 + _ ≤ _; exact Nat.le_of_eq rfl) (hb hby at_73) (fun _ _ => ⟨rfl, hq20, (by decide : 0 + 0 ≤ _), (by decide : 0 + 0 ≤ _)⟩)
    dsimp only [Pt.U, Pt.locs, Pt.cells, Pt.slots] at X21 l21 y21 z21 st21 hQ21
    subst l21 y21 z21
    obtain ⟨rfl, N21q, hq22⟩ := hQ21
    have N21 := Fr.app N19 N21q
    have pre23 := fun (t : State) (k : Steps p.tables e below (T21.setTop (mkF m 84 #[.val (.int p1), .val (.int p2), .val (.int (own_irem (p1 &&& (2147483647 : Int32)) (7 : Int32))), .val (.int (own_irem (p2 &&& (2147483647 : Int32)) (7 : Int32))), .val (.ref x2), .val (.ref x7), .val (.ref x7), .val (.ref x7)] [(.int (1 : Int32))])) t) => pre11 t (by
      refine st13.trans ?_
      show Steps p.tables e below (T13.setTop (mkF m 35 #[.val (.int p1), .val (.int p2), .val (.int (own_irem (p1 &&& (2147483647 : Int32)) (7 : Int32))), .val (.int (own_irem (p2 &&& (2147483647 : Int32)) (7 : Int32))), .val (.ref x2), .val (.ref x7), .unset, .unset] [(.ref x7)])) _
      refine XS.astore X13.here hx rfl (hb hby at_35) rfl rfl (l' := #[.val (.int p1), .val (.int p2), .val (.int (own_irem (p1 &&& (2147483647 : Int32)) (7 : Int32))), .val (.int (own_irem (p2 &&& (2147483647 : Int32)) (7 : Int32))), .val (.ref x2), .val (.ref x7), .val (.ref x7), .unset]) rfl ?_
      show Steps p.tables e below (T13.setTop (mkF m 37 #[.val (.int p1), .val (.int p2), .val (.int (own_irem (p1 &&& (2147483647 : Int32)) (7 : Int32))), .val (.int (own_irem (p2 &&& (2147483647 : Int32)) (7 : Int32))), .val (.ref x2), .val (.ref x7), .val (.ref x7), .unset] [])) _
      refine XS.iloadN X13.here hx rfl (hb hby at_37) rfl ?_
      show Steps p.tables e below (T13.setTop (mkF m 38 #[.val (.int p1), .val (.int p2), .val (.int (own_irem (p1 &&& (2147483647 : Int32)) (7 : Int32))), .val (.int (own_irem (p2 &&& (2147483647 : Int32)) (7 : Int32))), .val (.ref x2), .val (.ref x7), .val (.ref x7), .unset] [(.int (own_irem (p1 &&& (2147483647 : Int32)) (7 : Int32)))])) _
      refine XS.iloadN X13.here hx rfl (hb hby at_38) rfl ?_
      show Steps p.tables e below (T13.setTop (mkF m 39 #[.val (.int p1), .val (.int p2), .val (.int (own_irem (p1 &&& (2147483647 : Int32)) (7 : Int32))), .val (.int (own_irem (p2 &&& (2147483647 : Int32)) (7 : Int32))), .val (.ref x2), .val (.ref x7), .val (.ref x7), .unset] [(.int (own_irem (p2 &&& (2147483647 : Int32)) (7 : Int32))), (.int (own_irem (p1 &&& (2147483647 : Int32)) (7 : Int32)))])) _
      refine XS.icmpYes X13.here hx rfl (pc0 := 39) (pc' := 47) rfl (hb hby at_39) rfl (tlt hs12).1 (by decide) (by decide) ?_
      show Steps p.tables e below (T13.setTop (mkF m 47 #[.val (.int p1), .val (.int p2), .val (.int (own_irem (p1 &&& (2147483647 : Int32)) (7 : Int32))), .val (.int (own_irem (p2 &&& (2147483647 : Int32)) (7 : Int32))), .val (.ref x2), .val (.ref x7), .val (.ref x7), .unset] [])) _
      refine XS.aload X13.here hx rfl (hb hby at_47) rfl rfl ?_
      show Steps p.tables e below (T13.setTop (mkF m 49 #[.val (.int p1), .val (.int p2), .val (.int (own_irem (p1 &&& (2147483647 : Int32)) (7 : Int32))), .val (.int (own_irem (p2 &&& (2147483647 : Int32)) (7 : Int32))), .val (.ref x2), .val (.ref x7), .val (.ref x7), .unset] [(.ref x7)])) _
      refine XS.astore X13.here hx rfl (hb hby at_49) rfl rfl (l' := #[.val (.int p1), .val (.int p2), .val (.int (own_irem (p1 &&& (2147483647 : Int32)) (7 : Int32))), .val (.int (own_irem (p2 &&& (2147483647 : Int32)) (7 : Int32))), .val (.ref x2), .val (.ref x7), .val (.ref x7), .val (.ref x7)]) rfl ?_
      show Steps p.tables e below (T13.setTop (mkF m 51 #[.val (.int p1), .val (.int p2), .val (.int (own_irem (p1 &&& (2147483647 : Int32)) (7 : Int32))), .val (.int (own_irem (p2 &&& (2147483647 : Int32)) (7 : Int32))), .val (.ref x2), .val (.ref x7), .val (.ref x7), .val (.ref x7)] [])) _
      refine XS.aload X13.here hx rfl (hb hby at_51) rfl rfl ?_
      show Steps p.tables e below (T13.setTop (mkF m 53 #[.val (.int p1), .val (.int p2), .val (.int (own_irem (p1 &&& (2147483647 : Int32)) (7 : Int32))), .val (.int (own_irem (p2 &&& (2147483647 : Int32)) (7 : Int32))), .val (.ref x2), .val (.ref x7), .val (.ref x7), .val (.ref x7)] [(.ref x7)])) _
      refine XS.aload X13.here hx rfl (hb hby at_53) rfl rfl ?_
      show Steps p.tables e below (T13.setTop (mkF m 55 #[.val (.int p1), .val (.int p2), .val (.int (own_irem (p1 &&& (2147483647 : Int32)) (7 : Int32))), .val (.int (own_irem (p2 &&& (2147483647 : Int32)) (7 : Int32))), .val (.ref x2), .val (.ref x7), .val (.ref x7), .val (.ref x7)] [(.ref x7), (.ref x7)])) _
      refine Jvm.RoadKit.acmp (g := (mkF m 55 #[.val (.int p1), .val (.int p2), .val (.int (own_irem (p1 &&& (2147483647 : Int32)) (7 : Int32))), .val (.int (own_irem (p2 &&& (2147483647 : Int32)) (7 : Int32))), .val (.ref x2), .val (.ref x7), .val (.ref x7), .val (.ref x7)] [(.ref x7), (.ref x7)])) X13 hx rfl rfl rfl (pc0 := 55) (pc' := 58) (same := true) rfl (hb hby at_55) rfl (decide_eq_true rfl) (by decide) (by decide) ?_
      show Steps p.tables e below (T13.setTop (mkF m 58 #[.val (.int p1), .val (.int p2), .val (.int (own_irem (p1 &&& (2147483647 : Int32)) (7 : Int32))), .val (.int (own_irem (p2 &&& (2147483647 : Int32)) (7 : Int32))), .val (.ref x2), .val (.ref x7), .val (.ref x7), .val (.ref x7)] [])) _
      refine XS.aload X13.here hx rfl (hb hby at_58) rfl rfl ?_
      show Steps p.tables e below (T13.setTop (mkF m 60 #[.val (.int p1), .val (.int p2), .val (.int (own_irem (p1 &&& (2147483647 : Int32)) (7 : Int32))), .val (.int (own_irem (p2 &&& (2147483647 : Int32)) (7 : Int32))), .val (.ref x2), .val (.ref x7), .val (.ref x7), .val (.ref x7)] [(.ref x7)])) _
      refine st15.trans ?_
      show Steps p.tables e below (T15.setTop (mkF m 63 #[.val (.int p1), .val (.int p2), .val (.int (own_irem (p1 &&& (2147483647 : Int32)) (7 : Int32))), .val (.int (own_irem (p2 &&& (2147483647 : Int32)) (7 : Int32))), .val (.ref x2), .val (.ref x7), .val (.ref x7), .val (.ref x7)] [(.int (own_code (own_irem (p2 &&& (2147483647 : Int32)) (7 : Int32))))])) _
      refine XS.aload X15.here hx rfl (hb hby at_63) rfl rfl ?_
      show Steps p.tables e below (T15.setTop (mkF m 65 #[.val (.int p1), .val (.int p2), .val (.int (own_irem (p1 &&& (2147483647 : Int32)) (7 : Int32))), .val (.int (own_irem (p2 &&& (2147483647 : Int32)) (7 : Int32))), .val (.ref x2), .val (.ref x7), .val (.ref x7), .val (.ref x7)] [(.ref x2), (.int (own_code (own_irem (p2 &&& (2147483647 : Int32)) (7 : Int32))))])) _
      refine st17.trans ?_
      show Steps p.tables e below (T17.setTop (mkF m 68 #[.val (.int p1), .val (.int p2), .val (.int (own_irem (p1 &&& (2147483647 : Int32)) (7 : Int32))), .val (.int (own_irem (p2 &&& (2147483647 : Int32)) (7 : Int32))), .val (.ref x2), .val (.ref x7), .val (.ref x7), .val (.ref x7)] [(.int (own_code (own_irem (p1 &&& (2147483647 : Int32)) (7 : Int32)))), (.int (own_code (own_irem (p2 &&& (2147483647 : Int32)) (7 : Int32))))])) _
      refine XS.aload X17.here hx rfl (hb hby at_68) rfl rfl ?_
      show Steps p.tables e below (T17.setTop (mkF m 70 #[.val (.int p1), .val (.int p2), .val (.int (own_irem (p1 &&& (2147483647 : Int32)) (7 : Int32))), .val (.int (own_irem (p2 &&& (2147483647 : Int32)) (7 : Int32))), .val (.ref x2), .val (.ref x7), .val (.ref x7), .val (.ref x7)] [(.ref x7), (.int (own_code (own_irem (p1 &&& (2147483647 : Int32)) (7 : Int32)))), (.int (own_code (own_irem (p2 &&& (2147483647 : Int32)) (7 : Int32))))])) _
      refine st19.trans ?_
      show Steps p.tables e below (T19.setTop (mkF m 73 #[.val (.int p1), .val (.int p2), .val (.int (own_irem (p1 &&& (2147483647 : Int32)) (7 : Int32))), .val (.int (own_irem (p2 &&& (2147483647 : Int32)) (7 : Int32))), .val (.ref x2), .val (.ref x7), .val (.ref x7), .val (.ref x7)] [(.int (own_code (own_irem (p2 &&& (2147483647 : Int32)) (7 : Int32)))), (.int (own_code (own_irem (p1 &&& (2147483647 : Int32)) (7 : Int32)))), (.int (own_code (own_irem (p2 &&& (2147483647 : Int32)) (7 : Int32))))])) _
      refine st21 _ ?_
      show Steps p.tables e below (T21.setTop (mkF m 76 #[.val (.int p1), .val (.int p2), .val (.int (own_irem (p1 &&& (2147483647 : Int32)) (7 : Int32))), .val (.int (own_irem (p2 &&& (2147483647 : Int32)) (7 : Int32))), .val (.ref x2), .val (.ref x7), .val (.ref x7), .val (.ref x7)] [(.int (own_code (own_irem (p2 &&& (2147483647 : Int32)) (7 : Int32)))), (.int (own_code (own_irem (p2 &&& (2147483647 : Int32)) (7 : Int32))))])) _
      refine XS.icmpNo X21.here hx rfl (hb hby at_76) rfl (teq (rfl : (own_code (own_irem (p2 &&& (2147483647 : Int32)) (7 : Int32))) = (own_code (own_irem (p2 &&& (2147483647 : Int32)) (7 : Int32))))).2 ?_
      show Steps p.tables e below (T21.setTop (mkF m 79 #[.val (.int p1), .val (.int p2), .val (.int (own_irem (p1 &&& (2147483647 : Int32)) (7 : Int32))), .val (.int (own_irem (p2 &&& (2147483647 : Int32)) (7 : Int32))), .val (.ref x2), .val (.ref x7), .val (.ref x7), .val (.ref x7)] [])) _
      refine XS.iconst X21.here hx rfl (hb hby at_79) ?_
      show Steps p.tables e below (T21.setTop (mkF m 80 #[.val (.int p1), .val (.int p2), .val (.int (own_irem (p1 &&& (2147483647 : Int32)) (7 : Int32))), .val (.int (own_irem (p2 &&& (2147483647 : Int32)) (7 : Int32))), .val (.ref x2), .val (.ref x7), .val (.ref x7), .val (.ref x7)] [(.int (1 : Int32))])) _
      refine XS.goto X21.here hx rfl (pc0 := 80) (pc' := 84) rfl (hb hby at_80) (by decide) (by decide) ?_
      show Steps p.tables e below (T21.setTop (mkF m 84 #[.val (.int p1), .val (.int p2), .val (.int (own_irem (p1 &&& (2147483647 : Int32)) (7 : Int32))), .val (.int (own_irem (p2 &&& (2147483647 : Int32)) (7 : Int32))), .val (.ref x2), .val (.ref x7), .val (.ref x7), .val (.ref x7)] [(.int (1 : Int32))])) _
      exact k)
    obtain ⟨fs, hr, hrun, hended, hW, hsame⟩ := X21.leave (v := some (.int (1 : Int32))) (fun h => by rw [Bd.returns] at h; cases h)
    refine ⟨_, _, pre23 _ ?_, hrun, hended, _, _, rfl, ?_, ⟨_, rfl⟩, hW, hsame.mono (by decide) (by decide)⟩
    · exact retN X21 hx (t := .boolean) Bd.returns (by simp) (hb hby at_84) hr
    · show Q_law Z p1 p2 w0 w1 w2 w3 w4 w5 w6 h0 n0 _ T21.heap _
      rw [hq22]
      exact ⟨rfl, N21, rfl⟩
  · obtain ⟨cq24, kq24, q24a, q24b, q24c⟩ := isOf hZ hq8 E5
    obtain ⟨_, _, ⟨T24, L24, k24, n24⟩, -, X24, ⟨Lc24, hQ24, l24, y24, z24⟩, st24⟩ := X6.virtualBack hx (y := (⟨"com/example/marking/marking/commands/ExitCode", "max", "(Lcom/example/marking/marking/commands/ExitCode;)Lcom/example/marking/marking/commands/ExitCode;"⟩ : MethodName)) (z := (⟨"com/example/marking/marking/commands/ExitCode", "max", "(Lcom/example/marking/marking/commands/ExitCode;)Lcom/example/marking/marking/commands/ExitCode;"⟩ : MethodName)) hown (mvT hZ (hw _ (List.mem_of_getElem? (i := 10) rfl))) (mvT hZ (hw _ (List.mem_of_getElem? (i := 11) rfl))) (notFace_of_selects (args := #[]) (mvT hZ (hw _ (List.mem_of_getElem? (i := 13) rfl)))) (mvT hZ (hw _ (List.mem_of_getElem? (i := 13) rfl))) (mvT hZ (hw _ (List.mem_of_getElem? (i := 12) rfl))) (by decide) (backOf (W := 0) (rm_emax l Z a0 hw [] x2 x7 (own_code (own_irem (p1 &&& (2147483647 : Int32)) (7 : Int32))) (own_code (own_irem (p2 &&& (2147483647 : Int32)) (7 : Int32))) x2 h0 n0 Z0 F4 F9 (fun q => absurd ((own_code_lt (own_rem7 p1).1 (own_rem7 p1).2 (own_rem7 p2).1 (own_rem7 p2).2).mp q) hs12) (fun _ => rfl)) hZ (hw _ (List.mem_of_getElem? (i := 14) rfl)) (hw _ (List.mem_of_getElem? (i := 6) rfl)) (by decide) (by decide)) q24a q24c (g := (mkF m 32 #[.val (.int p1), .val (.int p2), .val (.int (own_irem (p1 &&& (2147483647 : Int32)) (7 : Int32))), .val (.int (own_irem (p2 &&& (2147483647 : Int32)) (7 : Int32))), .val (.ref x2), .val (.ref x7), .unset, .unset] [(.ref x7), (.ref x2)])) rfl (by rw [hml]; rfl) (Steps.refl _) (argsL := [(.ref x7)]) (rest := []) (lenOf pd_1 rfl) rfl (by show 2 * 0 + _ ≤ _; exact Nat.le_of_eq rfl) (hb hby at_32) (fun _ _ => ⟨rfl, hq8, (by decide : 0 + 0 ≤ _), (by decide : 0 + 0 ≤ _)⟩)
    dsimp only [Pt.U, Pt.locs, Pt.cells, Pt.slots] at X24 l24 y24 z24 st24 hQ24
    subst l24 y24 z24
    obtain ⟨rfl, N24q, hq25⟩ := hQ24
    have N24 := Fr.app N6 N24q
    obtain ⟨cq26, kq26, q26a, q26b, q26c⟩ := isOf hZ hq25 E5
    obtain ⟨_, _, ⟨T26, L26, k26, n26⟩, -, X26, ⟨Lc26, hQ26, l26, y26, z26⟩, st26⟩ := X24.virtualBack hx (y := (⟨"com/example/marking/marking/commands/ExitCode", "getCode", "()I"⟩ : MethodName)) (z := (⟨"com/example/marking/marking/commands/ExitCode", "getCode", "()I"⟩ : MethodName)) hown (mvT hZ (hw _ (List.mem_of_getElem? (i := 17) rfl))) (mvT hZ (hw _ (List.mem_of_getElem? (i := 18) rfl))) (notFace_of_selects (args := #[]) (mvT hZ (hw _ (List.mem_of_getElem? (i := 20) rfl)))) (mvT hZ (hw _ (List.mem_of_getElem? (i := 20) rfl))) (mvT hZ (hw _ (List.mem_of_getElem? (i := 19) rfl))) (by decide) (backOf (W := 0) (rm_gc l Z a0 hw [] x2 (own_code (own_irem (p1 &&& (2147483647 : Int32)) (7 : Int32))) h0 n0 Z0 F4) hZ (hw _ (List.mem_of_getElem? (i := 21) rfl)) (hw _ (List.mem_of_getElem? (i := 6) rfl)) (by decide) (by decide)) q26a q26c (g := (mkF m 60 #[.val (.int p1), .val (.int p2), .val (.int (own_irem (p1 &&& (2147483647 : Int32)) (7 : Int32))), .val (.int (own_irem (p2 &&& (2147483647 : Int32)) (7 : Int32))), .val (.ref x2), .val (.ref x7), .val (.ref x2), .val (.ref x2)] [(.ref x2)])) rfl (by rw [hml]; rfl) (Steps.refl _) (argsL := []) (rest := []) (lenOf pd_2 rfl) rfl (by show 2 * 0 + _ ≤ _; exact Nat.le_of_eq rfl) (hb hby at_60) (fun _ _ => ⟨rfl, hq25, (by decide : 0 + 0 ≤ _), (by decide : 0 + 0 ≤ _)⟩)
    dsimp only [Pt.U, Pt.locs, Pt.cells, Pt.slots] at X26 l26 y26 z26 st26 hQ26
    subst l26 y26 z26
    obtain ⟨rfl, N26q, hq27⟩ := hQ26
    have N26 := Fr.app N24 N26q
    obtain ⟨cq28, kq28, q28a, q28b, q28c⟩ := isOf hZ hq27 E5
    obtain ⟨_, _, ⟨T28, L28, k28, n28⟩, -, X28, ⟨Lc28, hQ28, l28, y28, z28⟩, st28⟩ := X26.virtualBack hx (y := (⟨"com/example/marking/marking/commands/ExitCode", "getCode", "()I"⟩ : MethodName)) (z := (⟨"com/example/marking/marking/commands/ExitCode", "getCode", "()I"⟩ : MethodName)) hown (mvT hZ (hw _ (List.mem_of_getElem? (i := 17) rfl))) (mvT hZ (hw _ (List.mem_of_getElem? (i := 18) rfl))) (notFace_of_selects (args := #[]) (mvT hZ (hw _ (List.mem_of_getElem? (i := 20) rfl)))) (mvT hZ (hw _ (List.mem_of_getElem? (i := 20) rfl))) (mvT hZ (hw _ (List.mem_of_getElem? (i := 19) rfl))) (by decide) (backOf (W := 1) (rm_gc l Z a0 hw [] x2 (own_code (own_irem (p1 &&& (2147483647 : Int32)) (7 : Int32))) h0 n0 Z0 F4) hZ (hw _ (List.mem_of_getElem? (i := 21) rfl)) (hw _ (List.mem_of_getElem? (i := 6) rfl)) (by decide) (by decide)) q28a q28c (g := (mkF m 65 #[.val (.int p1), .val (.int p2), .val (.int (own_irem (p1 &&& (2147483647 : Int32)) (7 : Int32))), .val (.int (own_irem (p2 &&& (2147483647 : Int32)) (7 : Int32))), .val (.ref x2), .val (.ref x7), .val (.ref x2), .val (.ref x2)] [(.ref x2), (.int (own_code (own_irem (p1 &&& (2147483647 : Int32)) (7 : Int32))))])) rfl (by rw [hml]; rfl) (Steps.refl _) (argsL := []) (rest := [(.int (own_code (own_irem (p1 &&& (2147483647 : Int32)) (7 : Int32))))]) (lenOf pd_2 rfl) rfl (by show 2 * 0 + _ ≤ _; exact Nat.le_of_eq rfl) (hb hby at_65) (fun _ _ => ⟨rfl, hq27, (by decide : 0 + 0 ≤ _), (by decide : 0 + 0 ≤ _)⟩)
    dsimp only [Pt.U, Pt.locs, Pt.cells, Pt.slots] at X28 l28 y28 z28 st28 hQ28
    subst l28 y28 z28
    obtain ⟨rfl, N28q, hq29⟩ := hQ28
    have N28 := Fr.app N26 N28q
    obtain ⟨cq30, kq30, q30a, q30b, q30c⟩ := isOf hZ hq29 E10
    obtain ⟨_, _, ⟨T30, L30, k30, n30⟩, -, X30, ⟨Lc30, hQ30, l30, y30, z30⟩, st30⟩ := X28.virtualBack hx (y := (⟨"com/example/marking/marking/commands/ExitCode", "getCode", "()I"⟩ : MethodName)) (z := (⟨"com/example/marking/marking/commands/ExitCode", "getCode", "()I"⟩ : MethodName)) hown (mvT hZ (hw _ (List.mem_of_getElem? (i := 17) rfl))) (mvT hZ (hw _ (List.mem_of_getElem? (i := 18) rfl))) (notFace_of_selects (args := #[]) (mvT hZ (hw _ (List.mem_of_getElem? (i := 20) rfl)))) (mvT hZ (hw _ (List.mem_of_getElem? (i := 20) rfl))) (mvT hZ (hw _ (List.mem_of_getElem? (i := 19) rfl))) (by decide) (backOf (W := 2) (rm_gc l Z a0 hw [] x7 (own_code (own_irem (p2 &&& (2147483647 : Int32)) (7 : Int32))) h0 n0 Z0 F9) hZ (hw _ (List.mem_of_getElem? (i := 21) rfl)) (hw _ (List.mem_of_getElem? (i := 6) rfl)) (by decide) (by decide)) q30a q30c (g := (mkF m 70 #[.val (.int p1), .val (.int p2), .val (.int (own_irem (p1 &&& (2147483647 : Int32)) (7 : Int32))), .val (.int (own_irem (p2 &&& (2147483647 : Int32)) (7 : Int32))), .val (.ref x2), .val (.ref x7), .val (.ref x2), .val (.ref x2)] [(.ref x7), (.int (own_code (own_irem (p1 &&& (2147483647 : Int32)) (7 : Int32)))), (.int (own_code (own_irem (p1 &&& (2147483647 : Int32)) (7 : Int32))))])) rfl (by rw [hml]; rfl) (Steps.refl _) (argsL := []) (rest := [(.int (own_code (own_irem (p1 &&& (2147483647 : Int32)) (7 : Int32)))), (.int (own_code (own_irem (p1 &&& (2147483647 : Int32)) (7 : Int32))))]) (lenOf pd_2 rfl) rfl (by show 2 * 0 + _ ≤ _; exact Nat.le_of_eq rfl) (hb hby at_70) (fun _ _ => ⟨rfl, hq29, (by decide : 0 + 0 ≤ _), (by decide : 0 + 0 ≤ _)⟩)
    dsimp only [Pt.U, Pt.locs, Pt.cells, Pt.slots] at X30 l30 y30 z30 st30 hQ30
    subst l30 y30 z30
    obtain ⟨rfl, N30q, hq31⟩ := hQ30
    have N30 := Fr.app N28 N30q
    obtain ⟨_, _, ⟨T32, L32, k32, n32⟩, -, X32, ⟨Lc32, hQ32, l32, y32, z32⟩, st32⟩ := Jvm.LawKit.callS X30 hx (y := (⟨"java/lang/Math", "max", "(II)I"⟩ : MethodName)) hown (mvT hZ (hw _ (List.mem_of_getElem? (i := 22) rfl))) (mvT hZ (hw _ (List.mem_of_getElem? (i := 23) rfl))) (mvT hZ (hw _ (List.mem_of_getElem? (i := 24) rfl))) (mvT hZ (hw _ (List.mem_of_getElem? (i := 25) rfl))) (by decide) (backOf (W := 1) (rm_mmax l Z a0 hw [] (own_code (own_irem (p1 &&& (2147483647 : Int32)) (7 : Int32))) (own_code (own_irem (p2 &&& (2147483647 : Int32)) (7 : Int32))) (own_code (own_irem (p1 &&& (2147483647 : Int32)) (7 : Int32))) h0 n0 Z0 (fun q => absurd ((own_code_lt (own_rem7 p1).1 (own_rem7 p1).2 (own_rem7 p2).1 (own_rem7 p2).2).mp q) hs12) (fun _ => rfl)) hZ (hw _ (List.mem_of_getElem? (i := 25) rfl)) (hw _ (List.mem_of_getElem? (i := 24) rfl)) (by decide) (by decide)) (g := (mkF m 73 #[.val (.int p1), .val (.int p2), .val (.int (own_irem (p1 &&& (2147483647 : Int32)) (7 : Int32))), .val (.int (own_irem (p2 &&& (2147483647 : Int32)) (7 : Int32))), .val (.ref x2), .val (.ref x7), .val (.ref x2), .val (.ref x2)] [(.int (own_code (own_irem (p2 &&& (2147483647 : Int32)) (7 : Int32)))), (.int (own_code (own_irem (p1 &&& (2147483647 : Int32)) (7 : Int32)))), (.int (own_code (own_irem (p1 &&& (2147483647 : Int32)) (7 : Int32))))])) rfl (by rw [hml]; rfl) (argsL := [(.int (own_code (own_irem (p1 &&& (2147483647 : Int32)) (7 : Int32)))), (.int (own_code (own_irem (p2 &&& (2147483647 : Int32)) (7 : Int32))))]) (rest := [(.int (own_code (own_irem (p1 &&& (2147483647 : Int32)) (7 : Int32))))]) (lenOf pd_3 rfl) rfl (by show 2 * 0 + _ ≤ _; exact Nat.le_of_eq rfl) (hb hby at_73) (fun _ _ => ⟨rfl, hq31, (by decide : 0 + 0 ≤ _), (by decide : 0 + 0 ≤ _)⟩)
    dsimp only [Pt.U, Pt.locs, Pt.cells, Pt.slots] at X32 l32 y32 z32 st32 hQ32
    subst l32 y32 z32
    obtain ⟨rfl, N32q, hq33⟩ := hQ32
    have N32 := Fr.app N30 N32q
    have pre34 := fun (t : State) (k : Steps p.tables e below (T32.setTop (mkF m 84 #[.val (.int p1), .val (.int p2), .val (.int (own_irem (p1 &&& (2147483647 : Int32)) (7 : Int32))), .val (.int (own_irem (p2 &&& (2147483647 : Int32)) (7 : Int32))), .val (.ref x2), .val (.ref x7), .val (.ref x2), .val (.ref x2)] [(.int (1 : Int32))])) t) => pre11 t (by
      refine st24.trans ?_
      show Steps p.tables e below (T24.setTop (mkF m 35 #[.val (.int p1), .val (.int p2), .val (.int (own_irem (p1 &&& (2147483647 : Int32)) (7 : Int32))), .val (.int (own_irem (p2 &&& (2147483647 : Int32)) (7 : Int32))), .val (.ref x2), .val (.ref x7), .unset, .unset] [(.ref x2)])) _
      refine XS.astore X24.here hx rfl (hb hby at_35) rfl rfl (l' := #[.val (.int p1), .val (.int p2), .val (.int (own_irem (p1 &&& (2147483647 : Int32)) (7 : Int32))), .val (.int (own_irem (p2 &&& (2147483647 : Int32)) (7 : Int32))), .val (.ref x2), .val (.ref x7), .val (.ref x2), .unset]) rfl ?_
      show Steps p.tables e below (T24.setTop (mkF m 37 #[.val (.int p1), .val (.int p2), .val (.int (own_irem (p1 &&& (2147483647 : Int32)) (7 : Int32))), .val (.int (own_irem (p2 &&& (2147483647 : Int32)) (7 : Int32))), .val (.ref x2), .val (.ref x7), .val (.ref x2), .unset] [])) _
      refine XS.iloadN X24.here hx rfl (hb hby at_37) rfl ?_
      show Steps p.tables e below (T24.setTop (mkF m 38 #[.val (.int p1), .val (.int p2), .val (.int (own_irem (p1 &&& (2147483647 : Int32)) (7 : Int32))), .val (.int (own_irem (p2 &&& (2147483647 : Int32)) (7 : Int32))), .val (.ref x2), .val (.ref x7), .val (.ref x2), .unset] [(.int (own_irem (p1 &&& (2147483647 : Int32)) (7 : Int32)))])) _
      refine XS.iloadN X24.here hx rfl (hb hby at_38) rfl ?_
      show Steps p.tables e below (T24.setTop (mkF m 39 #[.val (.int p1), .val (.int p2), .val (.int (own_irem (p1 &&& (2147483647 : Int32)) (7 : Int32))), .val (.int (own_irem (p2 &&& (2147483647 : Int32)) (7 : Int32))), .val (.ref x2), .val (.ref x7), .val (.ref x2), .unset] [(.int (own_irem (p2 &&& (2147483647 : Int32)) (7 : Int32))), (.int (own_irem (p1 &&& (2147483647 : Int32)) (7 : Int32)))])) _
      refine XS.icmpNo X24.here hx rfl (hb hby at_39) rfl (flt hs12).1 ?_
      show Steps p.tables e below (T24.setTop (mkF m 42 #[.val (.int p1), .val (.int p2), .val (.int (own_irem (p1 &&& (2147483647 : Int32)) (7 : Int32))), .val (.int (own_irem (p2 &&& (2147483647 : Int32)) (7 : Int32))), .val (.ref x2), .val (.ref x7), .val (.ref x2), .unset] [])) _
      refine XS.aload X24.here hx rfl (hb hby at_42) rfl rfl ?_
      show Steps p.tables e below (T24.setTop (mkF m 44 #[.val (.int p1), .val (.int p2), .val (.int (own_irem (p1 &&& (2147483647 : Int32)) (7 : Int32))), .val (.int (own_irem (p2 &&& (2147483647 : Int32)) (7 : Int32))), .val (.ref x2), .val (.ref x7), .val (.ref x2), .unset] [(.ref x2)])) _
      refine XS.goto X24.here hx rfl (pc0 := 44) (pc' := 49) rfl (hb hby at_44) (by decide) (by decide) ?_
      show Steps p.tables e below (T24.setTop (mkF m 49 #[.val (.int p1), .val (.int p2), .val (.int (own_irem (p1 &&& (2147483647 : Int32)) (7 : Int32))), .val (.int (own_irem (p2 &&& (2147483647 : Int32)) (7 : Int32))), .val (.ref x2), .val (.ref x7), .val (.ref x2), .unset] [(.ref x2)])) _
      refine XS.astore X24.here hx rfl (hb hby at_49) rfl rfl (l' := #[.val (.int p1), .val (.int p2), .val (.int (own_irem (p1 &&& (2147483647 : Int32)) (7 : Int32))), .val (.int (own_irem (p2 &&& (2147483647 : Int32)) (7 : Int32))), .val (.ref x2), .val (.ref x7), .val (.ref x2), .val (.ref x2)]) rfl ?_
      show Steps p.tables e below (T24.setTop (mkF m 51 #[.val (.int p1), .val (.int p2), .val (.int (own_irem (p1 &&& (2147483647 : Int32)) (7 : Int32))), .val (.int (own_irem (p2 &&& (2147483647 : Int32)) (7 : Int32))), .val (.ref x2), .val (.ref x7), .val (.ref x2), .val (.ref x2)] [])) _
      refine XS.aload X24.here hx rfl (hb hby at_51) rfl rfl ?_
      show Steps p.tables e below (T24.setTop (mkF m 53 #[.val (.int p1), .val (.int p2), .val (.int (own_irem (p1 &&& (2147483647 : Int32)) (7 : Int32))), .val (.int (own_irem (p2 &&& (2147483647 : Int32)) (7 : Int32))), .val (.ref x2), .val (.ref x7), .val (.ref x2), .val (.ref x2)] [(.ref x2)])) _
      refine XS.aload X24.here hx rfl (hb hby at_53) rfl rfl ?_
      show Steps p.tables e below (T24.setTop (mkF m 55 #[.val (.int p1), .val (.int p2), .val (.int (own_irem (p1 &&& (2147483647 : Int32)) (7 : Int32))), .val (.int (own_irem (p2 &&& (2147483647 : Int32)) (7 : Int32))), .val (.ref x2), .val (.ref x7), .val (.ref x2), .val (.ref x2)] [(.ref x2), (.ref x2)])) _
      refine Jvm.RoadKit.acmp (g := (mkF m 55 #[.val (.int p1), .val (.int p2), .val (.int (own_irem (p1 &&& (2147483647 : Int32)) (7 : Int32))), .val (.int (own_irem (p2 &&& (2147483647 : Int32)) (7 : Int32))), .val (.ref x2), .val (.ref x7), .val (.ref x2), .val (.ref x2)] [(.ref x2), (.ref x2)])) X24 hx rfl rfl rfl (pc0 := 55) (pc' := 58) (same := true) rfl (hb hby at_55) rfl (decide_eq_true rfl) (by decide) (by decide) ?_
      show Steps p.tables e below (T24.setTop (mkF m 58 #[.val (.int p1), .val (.int p2), .val (.int (own_irem (p1 &&& (2147483647 : Int32)) (7 : Int32))), .val (.int (own_irem (p2 &&& (2147483647 : Int32)) (7 : Int32))), .val (.ref x2), .val (.ref x7), .val (.ref x2), .val (.ref x2)] [])) _
      refine XS.aload X24.here hx rfl (hb hby at_58) rfl rfl ?_
      show Steps p.tables e below (T24.setTop (mkF m 60 #[.val (.int p1), .val (.int p2), .val (.int (own_irem (p1 &&& (2147483647 : Int32)) (7 : Int32))), .val (.int (own_irem (p2 &&& (2147483647 : Int32)) (7 : Int32))), .val (.ref x2), .val (.ref x7), .val (.ref x2), .val (.ref x2)] [(.ref x2)])) _
      refine st26.trans ?_
      show Steps p.tables e below (T26.setTop (mkF m 63 #[.val (.int p1), .val (.int p2), .val (.int (own_irem (p1 &&& (2147483647 : Int32)) (7 : Int32))), .val (.int (own_irem (p2 &&& (2147483647 : Int32)) (7 : Int32))), .val (.ref x2), .val (.ref x7), .val (.ref x2), .val (.ref x2)] [(.int (own_code (own_irem (p1 &&& (2147483647 : Int32)) (7 : Int32))))])) _
      refine XS.aload X26.here hx rfl (hb hby at_63) rfl rfl ?_
      show Steps p.tables e below (T26.setTop (mkF m 65 #[.val (.int p1), .val (.int p2), .val (.int (own_irem (p1 &&& (2147483647 : Int32)) (7 : Int32))), .val (.int (own_irem (p2 &&& (2147483647 : Int32)) (7 : Int32))), .val (.ref x2), .val (.ref x7), .val (.ref x2), .val (.ref x2)] [(.ref x2), (.int (own_code (own_irem (p1 &&& (2147483647 : Int32)) (7 : Int32))))])) _
      refine st28.trans ?_
      show Steps p.tables e below (T28.setTop (mkF m 68 #[.val (.int p1), .val (.int p2), .val (.int (own_irem (p1 &&& (2147483647 : Int32)) (7 : Int32))), .val (.int (own_irem (p2 &&& (2147483647 : Int32)) (7 : Int32))), .val (.ref x2), .val (.ref x7), .val (.ref x2), .val (.ref x2)] [(.int (own_code (own_irem (p1 &&& (2147483647 : Int32)) (7 : Int32)))), (.int (own_code (own_irem (p1 &&& (2147483647 : Int32)) (7 : Int32))))])) _
      refine XS.aload X28.here hx rfl (hb hby at_68) rfl rfl ?_
      show Steps p.tables e below (T28.setTop (mkF m 70 #[.val (.int p1), .val (.int p2), .val (.int (own_irem (p1 &&& (2147483647 : Int32)) (7 : Int32))), .val (.int (own_irem (p2 &&& (2147483647 : Int32)) (7 : Int32))), .val (.ref x2), .val (.ref x7), .val (.ref x2), .val (.ref x2)] [(.ref x7), (.int (own_code (own_irem (p1 &&& (2147483647 : Int32)) (7 : Int32)))), (.int (own_code (own_irem (p1 &&& (2147483647 : Int32)) (7 : Int32))))])) _
      refine st30.trans ?_
      show Steps p.tables e below (T30.setTop (mkF m 73 #[.val (.int p1), .val (.int p2), .val (.int (own_irem (p1 &&& (2147483647 : Int32)) (7 : Int32))), .val (.int (own_irem (p2 &&& (2147483647 : Int32)) (7 : Int32))), .val (.ref x2), .val (.ref x7), .val (.ref x2), .val (.ref x2)] [(.int (own_code (own_irem (p2 &&& (2147483647 : Int32)) (7 : Int32)))), (.int (own_code (own_irem (p1 &&& (2147483647 : Int32)) (7 : Int32)))), (.int (own_code (own_irem (p1 &&& (2147483647 : Int32)) (7 : Int32))))])) _
      refine st32 _ ?_
      show Steps p.tables e below (T32.setTop (mkF m 76 #[.val (.int p1), .val (.int p2), .val (.int (own_irem (p1 &&& (2147483647 : Int32)) (7 : Int32))), .val (.int (own_irem (p2 &&& (2147483647 : Int32)) (7 : Int32))), .val (.ref x2), .val (.ref x7), .val (.ref x2), .val (.ref x2)] [(.int (own_code (own_irem (p1 &&& (2147483647 : Int32)) (7 : Int32)))), (.int (own_code (own_irem (p1 &&& (2147483647 : Int32)) (7 : Int32))))])) _
      refine XS.icmpNo X32.here hx rfl (hb hby at_76) rfl (teq (rfl : (own_code (own_irem (p1 &&& (2147483647 : Int32)) (7 : Int32))) = (own_code (own_irem (p1 &&& (2147483647 : Int32)) (7 : Int32))))).2 ?_
      show Steps p.tables e below (T32.setTop (mkF m 79 #[.val (.int p1), .val (.int p2), .val (.int (own_irem (p1 &&& (2147483647 : Int32)) (7 : Int32))), .val (.int (own_irem (p2 &&& (2147483647 : Int32)) (7 : Int32))), .val (.ref x2), .val (.ref x7), .val (.ref x2), .val (.ref x2)] [])) _
      refine XS.iconst X32.here hx rfl (hb hby at_79) ?_
      show Steps p.tables e below (T32.setTop (mkF m 80 #[.val (.int p1), .val (.int p2), .val (.int (own_irem (p1 &&& (2147483647 : Int32)) (7 : Int32))), .val (.int (own_irem (p2 &&& (2147483647 : Int32)) (7 : Int32))), .val (.ref x2), .val (.ref x7), .val (.ref x2), .val (.ref x2)] [(.int (1 : Int32))])) _
      refine XS.goto X32.here hx rfl (pc0 := 80) (pc' := 84) rfl (hb hby at_80) (by decide) (by decide) ?_
      show Steps p.tables e below (T32.setTop (mkF m 84 #[.val (.int p1), .val (.int p2), .val (.int (own_irem (p1 &&& (2147483647 : Int32)) (7 : Int32))), .val (.int (own_irem (p2 &&& (2147483647 : Int32)) (7 : Int32))), .val (.ref x2), .val (.ref x7), .val (.ref x2), .val (.ref x2)] [(.int (1 : Int32))])) _
      exact k)
    obtain ⟨fs, hr, hrun, hended, hW, hsame⟩ := X32.leave (v := some (.int (1 : Int32))) (fun h => by rw [Bd.returns] at h; cases h)
    refine ⟨_, _, pre34 _ ?_, hrun, hended, _, _, rfl, ?_, ⟨_, rfl⟩, hW, hsame.mono (by decide) (by decide)⟩
    · exact retN X32 hx (t := .boolean) Bd.returns (by simp) (hb hby at_84) hr
    · show Q_law Z p1 p2 w0 w1 w2 w3 w4 w5 w6 h0 n0 _ T32.heap _
      rw [hq33]
      exact ⟨rfl, N32, rfl⟩

set_option maxRecDepth 65536 in
set_option maxHeartbeats 40000000 in
theorem comes_1 {Post : Tables → Env → Array Value → State → Outcome → State → Prop} (hpost : ∀ tb e args s v u, (limb_1_1.after args s (.returned v) u = true ∧ limb_1_2.after args s (.returned v) u = true ∧ True) → FrameEnd s (.returned v) u (Jvm.fieldLocs frame_1_writes args s ++ Jvm.arrayLocs frame_1_arrays args s ++ Jvm.staticLocs frame_1_statics s) 0 0 → Post tb e args s (.returned v) u) :
    ArmFor flags0 classFile x code maxLocals ret World_1 tables_1 room_1 Calls_1 rest_1 Pre_1 Post := by
  intro l hfl _ _ p e ha hc hk s m args below hf hA hF happ hP
  obtain ⟨hcalls, hrest, hpre⟩ := hP
  obtain ⟨-, -, -, hnamed, -, -, -, hat⟩ := (Spec.applies_iff hf).mp happ
  obtain ⟨hg, hn⟩ := and_e (Cond.before_iff.mp (show (Jvm.Cond.and given_1 narrow_1).before args s = true from hpre))
  obtain ⟨g1, g2⟩ := and_e hg
  obtain ⟨g3, g4⟩ := and_e g2
  obtain ⟨g5, g6⟩ := and_e hn
  obtain ⟨g7, g8⟩ := and_e g6
  obtain ⟨g9, g10⟩ := and_e g8
  obtain ⟨g11, g12⟩ := and_e g10
  obtain ⟨g13, g14⟩ := and_e g12
  obtain ⟨g15, g16⟩ := and_e g14
  obtain ⟨g17, g18⟩ := and_e g16
  obtain ⟨g19, g20⟩ := and_e g18
  obtain ⟨g21, g22⟩ := and_e g20
  obtain ⟨g23, g24⟩ := and_e g22
  obtain ⟨g25, g26⟩ := and_e g24
  obtain ⟨g27, g28⟩ := and_e g26
  obtain ⟨g29, g30⟩ := and_e g28
  obtain ⟨w0, w1, rfl⟩ : ∃ w0 w1 : Value, args = #[w0, w1] := by
    have hs : args.size = 2 := by simpa [Cond.value, given_1] using g1
    obtain ⟨L⟩ := args
    match L, hs with
    | [w0, w1], _ => exact ⟨w0, w1, rfl⟩
  have hw := fun d (hd : d ∈ tables_1) => atoms_spec (ws := Jvm.Cond.code x code maxLocals ret :: tables_1) hat d (List.mem_cons_of_mem _ hd)
  have hfit : Fit s := fun {y c} hc i hi => by
    obtain ⟨ha, rfl⟩ := Array.getElem?_eq_some_iff.mp hc
    have q := List.all_eq_true.mp ((Array.all_eq_true_iff_forall_mem.mp hF) _ (Array.getElem_mem ha)) i (List.mem_range.mpr hi)
    simpa [Array.getElem?_eq_getElem hi] using q
  obtain ⟨i0, ei0⟩ := is_v g3
  obtain rfl : w0 = (.int i0) := Option.some.inj ei0
  obtain ⟨i1, ei1⟩ := is_v g4
  obtain rfl : w1 = (.int i1) := Option.some.inj ei1
  obtain ⟨z_ExitCode_DONE, ez_ExitCode_DONE⟩ := exa_v g5
  have S_z_ExitCode_DONE := Sta.start (Z := s) ez_ExitCode_DONE (Or.inr ⟨(hw _ (List.mem_of_getElem? (i := 6) rfl)), (hw _ (List.mem_of_getElem? (i := 7) rfl))⟩)
  have E_z_ExitCode_DONE := Exa.start ez_ExitCode_DONE g5
  obtain ⟨z_ExitCode_NOT_A_WORKFLOW_NET, ez_ExitCode_NOT_A_WORKFLOW_NET⟩ := exa_v g7
  have S_z_ExitCode_NOT_A_WORKFLOW_NET := Sta.start (Z := s) ez_ExitCode_NOT_A_WORKFLOW_NET (Or.inr ⟨(hw _ (List.mem_of_getElem? (i := 6) rfl)), (hw _ (List.mem_of_getElem? (i := 9) rfl))⟩)
  have E_z_ExitCode_NOT_A_WORKFLOW_NET := Exa.start ez_ExitCode_NOT_A_WORKFLOW_NET g7
  obtain ⟨z_ExitCode_UNSOUND, ez_ExitCode_UNSOUND⟩ := exa_v g13
  have S_z_ExitCode_UNSOUND := Sta.start (Z := s) ez_ExitCode_UNSOUND (Or.inr ⟨(hw _ (List.mem_of_getElem? (i := 6) rfl)), (hw _ (List.mem_of_getElem? (i := 27) rfl))⟩)
  have E_z_ExitCode_UNSOUND := Exa.start ez_ExitCode_UNSOUND g13
  obtain ⟨z_ExitCode_OUT_OF_SCOPE, ez_ExitCode_OUT_OF_SCOPE⟩ := exa_v g17
  have S_z_ExitCode_OUT_OF_SCOPE := Sta.start (Z := s) ez_ExitCode_OUT_OF_SCOPE (Or.inr ⟨(hw _ (List.mem_of_getElem? (i := 6) rfl)), (hw _ (List.mem_of_getElem? (i := 29) rfl))⟩)
  have E_z_ExitCode_OUT_OF_SCOPE := Exa.start ez_ExitCode_OUT_OF_SCOPE g17
  obtain ⟨z_ExitCode_USAGE, ez_ExitCode_USAGE⟩ := exa_v g21
  have S_z_ExitCode_USAGE := Sta.start (Z := s) ez_ExitCode_USAGE (Or.inr ⟨(hw _ (List.mem_of_getElem? (i := 6) rfl)), (hw _ (List.mem_of_getElem? (i := 31) rfl))⟩)
  have E_z_ExitCode_USAGE := Exa.start ez_ExitCode_USAGE g21
  obtain ⟨z_ExitCode_UNREADABLE, ez_ExitCode_UNREADABLE⟩ := exa_v g25
  have S_z_ExitCode_UNREADABLE := Sta.start (Z := s) ez_ExitCode_UNREADABLE (Or.inr ⟨(hw _ (List.mem_of_getElem? (i := 6) rfl)), (hw _ (List.mem_of_getElem? (i := 33) rfl))⟩)
  have E_z_ExitCode_UNREADABLE := Exa.start ez_ExitCode_UNREADABLE g25
  obtain ⟨z_ExitCode_INTERNAL_ERROR, ez_ExitCode_INTERNAL_ERROR⟩ := exa_v g29
  have S_z_ExitCode_INTERNAL_ERROR := Sta.start (Z := s) ez_ExitCode_INTERNAL_ERROR (Or.inr ⟨(hw _ (List.mem_of_getElem? (i := 6) rfl)), (hw _ (List.mem_of_getElem? (i := 35) rfl))⟩)
  have E_z_ExitCode_INTERNAL_ERROR := Exa.start ez_ExitCode_INTERNAL_ERROR g29
  have F_z_ExitCode_NOT_A_WORKFLOW_NET_code := own_fld_eq ez_ExitCode_NOT_A_WORKFLOW_NET g9
  have F_z_ExitCode_DONE_code := own_fld_eq ez_ExitCode_DONE g11
  have F_z_ExitCode_UNSOUND_code := own_fld_eq ez_ExitCode_UNSOUND g15
  have F_z_ExitCode_OUT_OF_SCOPE_code := own_fld_eq ez_ExitCode_OUT_OF_SCOPE g19
  have F_z_ExitCode_USAGE_code := own_fld_eq ez_ExitCode_USAGE g23
  have F_z_ExitCode_UNREADABLE_code := own_fld_eq ez_ExitCode_UNREADABLE g27
  have F_z_ExitCode_INTERNAL_ERROR_code := own_fld_eq ez_ExitCode_INTERNAL_ERROR g30
  have ne_z_ExitCode_DONE_z_ExitCode_NOT_A_WORKFLOW_NET : z_ExitCode_DONE ≠ z_ExitCode_NOT_A_WORKFLOW_NET := Fld.ne F_z_ExitCode_DONE_code F_z_ExitCode_NOT_A_WORKFLOW_NET_code (by simp)
  have ne_z_ExitCode_DONE_z_ExitCode_UNSOUND : z_ExitCode_DONE ≠ z_ExitCode_UNSOUND := Fld.ne F_z_ExitCode_DONE_code F_z_ExitCode_UNSOUND_code (by simp)
  have ne_z_ExitCode_DONE_z_ExitCode_OUT_OF_SCOPE : z_ExitCode_DONE ≠ z_ExitCode_OUT_OF_SCOPE := Fld.ne F_z_ExitCode_DONE_code F_z_ExitCode_OUT_OF_SCOPE_code (by simp)
  have ne_z_ExitCode_DONE_z_ExitCode_USAGE : z_ExitCode_DONE ≠ z_ExitCode_USAGE := Fld.ne F_z_ExitCode_DONE_code F_z_ExitCode_USAGE_code (by simp)
  have ne_z_ExitCode_DONE_z_ExitCode_UNREADABLE : z_ExitCode_DONE ≠ z_ExitCode_UNREADABLE := Fld.ne F_z_ExitCode_DONE_code F_z_ExitCode_UNREADABLE_code (by simp)
  have ne_z_ExitCode_DONE_z_ExitCode_INTERNAL_ERROR : z_ExitCode_DONE ≠ z_ExitCode_INTERNAL_ERROR := Fld.ne F_z_ExitCode_DONE_code F_z_ExitCode_INTERNAL_ERROR_code (by simp)
  have ne_z_ExitCode_NOT_A_WORKFLOW_NET_z_ExitCode_UNSOUND : z_ExitCode_NOT_A_WORKFLOW_NET ≠ z_ExitCode_UNSOUND := Fld.ne F_z_ExitCode_NOT_A_WORKFLOW_NET_code F_z_ExitCode_UNSOUND_code (by simp)
  have ne_z_ExitCode_NOT_A_WORKFLOW_NET_z_ExitCode_OUT_OF_SCOPE : z_ExitCode_NOT_A_WORKFLOW_NET ≠ z_ExitCode_OUT_OF_SCOPE := Fld.ne F_z_ExitCode_NOT_A_WORKFLOW_NET_code F_z_ExitCode_OUT_OF_SCOPE_code (by simp)
  have ne_z_ExitCode_NOT_A_WORKFLOW_NET_z_ExitCode_USAGE : z_ExitCode_NOT_A_WORKFLOW_NET ≠ z_ExitCode_USAGE := Fld.ne F_z_ExitCode_NOT_A_WORKFLOW_NET_code F_z_ExitCode_USAGE_code (by simp)
  have ne_z_ExitCode_NOT_A_WORKFLOW_NET_z_ExitCode_UNREADABLE : z_ExitCode_NOT_A_WORKFLOW_NET ≠ z_ExitCode_UNREADABLE := Fld.ne F_z_ExitCode_NOT_A_WORKFLOW_NET_code F_z_ExitCode_UNREADABLE_code (by simp)
  have ne_z_ExitCode_NOT_A_WORKFLOW_NET_z_ExitCode_INTERNAL_ERROR : z_ExitCode_NOT_A_WORKFLOW_NET ≠ z_ExitCode_INTERNAL_ERROR := Fld.ne F_z_ExitCode_NOT_A_WORKFLOW_NET_code F_z_ExitCode_INTERNAL_ERROR_code (by simp)
  have ne_z_ExitCode_UNSOUND_z_ExitCode_OUT_OF_SCOPE : z_ExitCode_UNSOUND ≠ z_ExitCode_OUT_OF_SCOPE := Fld.ne F_z_ExitCode_UNSOUND_code F_z_ExitCode_OUT_OF_SCOPE_code (by simp)
  have ne_z_ExitCode_UNSOUND_z_ExitCode_USAGE : z_ExitCode_UNSOUND ≠ z_ExitCode_USAGE := Fld.ne F_z_ExitCode_UNSOUND_code F_z_ExitCode_USAGE_code (by simp)
  have ne_z_ExitCode_UNSOUND_z_ExitCode_UNREADABLE : z_ExitCode_UNSOUND ≠ z_ExitCode_UNREADABLE := Fld.ne F_z_ExitCode_UNSOUND_code F_z_ExitCode_UNREADABLE_code (by simp)
  have ne_z_ExitCode_UNSOUND_z_ExitCode_INTERNAL_ERROR : z_ExitCode_UNSOUND ≠ z_ExitCode_INTERNAL_ERROR := Fld.ne F_z_ExitCode_UNSOUND_code F_z_ExitCode_INTERNAL_ERROR_code (by simp)
  have ne_z_ExitCode_OUT_OF_SCOPE_z_ExitCode_USAGE : z_ExitCode_OUT_OF_SCOPE ≠ z_ExitCode_USAGE := Fld.ne F_z_ExitCode_OUT_OF_SCOPE_code F_z_ExitCode_USAGE_code (by simp)
  have ne_z_ExitCode_OUT_OF_SCOPE_z_ExitCode_UNREADABLE : z_ExitCode_OUT_OF_SCOPE ≠ z_ExitCode_UNREADABLE := Fld.ne F_z_ExitCode_OUT_OF_SCOPE_code F_z_ExitCode_UNREADABLE_code (by simp)
  have ne_z_ExitCode_OUT_OF_SCOPE_z_ExitCode_INTERNAL_ERROR : z_ExitCode_OUT_OF_SCOPE ≠ z_ExitCode_INTERNAL_ERROR := Fld.ne F_z_ExitCode_OUT_OF_SCOPE_code F_z_ExitCode_INTERNAL_ERROR_code (by simp)
  have ne_z_ExitCode_USAGE_z_ExitCode_UNREADABLE : z_ExitCode_USAGE ≠ z_ExitCode_UNREADABLE := Fld.ne F_z_ExitCode_USAGE_code F_z_ExitCode_UNREADABLE_code (by simp)
  have ne_z_ExitCode_USAGE_z_ExitCode_INTERNAL_ERROR : z_ExitCode_USAGE ≠ z_ExitCode_INTERNAL_ERROR := Fld.ne F_z_ExitCode_USAGE_code F_z_ExitCode_INTERNAL_ERROR_code (by simp)
  have ne_z_ExitCode_UNREADABLE_z_ExitCode_INTERNAL_ERROR : z_ExitCode_UNREADABLE ≠ z_ExitCode_INTERNAL_ERROR := Fld.ne F_z_ExitCode_UNREADABLE_code F_z_ExitCode_INTERNAL_ERROR_code (by simp)
  obtain ⟨n, o, h1, h2, h3, _, L, rfl, ⟨rfl, N, -⟩, hq⟩ := rm_law l s _ hw tables_1 i0 i1 z_ExitCode_DONE z_ExitCode_UNSOUND z_ExitCode_USAGE z_ExitCode_NOT_A_WORKFLOW_NET z_ExitCode_UNREADABLE z_ExitCode_OUT_OF_SCOPE z_ExitCode_INTERNAL_ERROR s.heap s.heap.size (Nat.le_refl _) S_z_ExitCode_DONE S_z_ExitCode_UNSOUND S_z_ExitCode_USAGE S_z_ExitCode_NOT_A_WORKFLOW_NET S_z_ExitCode_UNREADABLE S_z_ExitCode_OUT_OF_SCOPE S_z_ExitCode_INTERNAL_ERROR F_z_ExitCode_DONE_code F_z_ExitCode_UNSOUND_code F_z_ExitCode_USAGE_code F_z_ExitCode_NOT_A_WORKFLOW_NET_code F_z_ExitCode_UNREADABLE_code F_z_ExitCode_OUT_OF_SCOPE_code F_z_ExitCode_INTERNAL_ERROR_code E_z_ExitCode_DONE E_z_ExitCode_UNSOUND E_z_ExitCode_USAGE E_z_ExitCode_NOT_A_WORKFLOW_NET E_z_ExitCode_UNREADABLE E_z_ExitCode_OUT_OF_SCOPE E_z_ExitCode_INTERNAL_ERROR p e ha hc hk s m _ below hf ((Spec.applies_iff_loose hf).mp happ).1 ⟨rfl, State.Warmed39.refl s, rfl⟩ trivial
  refine ⟨n, _, h1, h2, h3, hpost _ _ _ _ _ _ ⟨Cond.after_iff.mpr rfl, Cond.after_iff.mpr (eq_i res_at (Term.int_eval (1)) rfl), trivial⟩ ⟨hq.1, hq.2.1, (hq.2.2.sift fun y hy => Or.inr (N y hy)).mono (by decide) (by decide)⟩⟩
theorem main_1_1 : Claimed_1_1 := comes_1 fun _ _ _ _ _ _ h hF => ⟨h.1, hF⟩
theorem main_1_2 : Claimed_1_2 := comes_1 fun _ _ _ _ _ _ h hF => ⟨h.2.1, hF⟩
end Jvm.Pilot.@@N@@
namespace Jvm.Pilot.@@N@@
open Jvm Jvm.ClassFile Sem Op Lib Jvm.Free Jvm.Stand Jvm.Pilot.@@N@@.Jvm.D
/-! MADE BY PROGRAM (witnessworld.py) out of the Statement's table words and the real class files: 13 classes; the members and pool entries that the words name. The judged class is class 1, her method 2. -/
namespace start1
open Jvm.ClassFile
def u (s : String) : CpInfo := .utf8 (stringToUtf16 s)
/-- a pool by its gaps: so many unusable entries, then the entry; so many at the end -/
def gap : Nat → List CpInfo → List CpInfo
  | 0, r => r
  | n + 1, r => .unusable :: gap n r
def poolList (es : List (Nat × CpInfo)) (last : Nat) : List CpInfo := es.foldr (fun e r => gap e.1 (e.2 :: r)) (gap last [])
def pool (es : List (Nat × CpInfo)) (last : Nat) : Array CpInfo := ⟨poolList es last⟩
def fileOf (pool : Array CpInfo) (this : Nat) (attrs : Array Attribute := #[]) (ms : Array MethodInfo := #[]) (fl : Nat := 33) (sup : Nat := 0) (ifs : Array Nat := #[]) (fds : Array FieldInfo := #[]) : ClassFile where
  minorVersion := 0
  majorVersion := 65
  constantPool := pool
  accessFlags := fl
  thisClass := this
  superClass := sup
  interfaces := ifs
  fields := fds
  methods := ms
  attributes := attrs
def plain (name : String) (sup : Option ClassId) : Class where
  name := name
  kind := .ordinary
  loader := none
  accessFlags := 33
  super := sup
  interfaces := #[]
  cf := none
  fields := #[]
  methods := #[]
  instanceTypes := #[]
  staticTypes := #[]
  resolved := #[]
  callSites := []
  init := .initialized
  statics := none
  mirror := none

def pool0 : Array CpInfo := pool [(5, u "<init>"), (0, u "()V"), (1, .class_ 10), (1, u "java/lang/Object")] 113

def k0m0 : Method := { name := "<init>", desc := "()V", sig := { parameters := [], returnType := none }, accessFlags := 1, code := none }
/-- java/lang/Object -/
def k0 : Class := { plain "java/lang/Object" none with
  accessFlags := 33
  interfaces := #[]
  cf := some (fileOf pool0 8 #[] #[{ accessFlags := 1, nameIndex := 5, descriptorIndex := 6, attributes := #[] }] 33 0 #[] #[])
  fields := #[]
  methods := #[k0m0]
  instanceTypes := #[]
  staticTypes := #[]
  resolved := Array.replicate 124 none
  statics := none }

def pool1 : Array CpInfo := pool [(2, .class_ 4), (1, u "java/lang/Object"), (0, u "<init>"), (0, u "()V"), (0, .fieldref 8 9), (0, .class_ 10), (0, .nameAndType 11 12), (0, u "com/example/marking/marking/commands/ExitCode"), (0, u "DONE"), (0, u "Lcom/example/marking/marking/commands/ExitCode;"), (0, .fieldref 8 14), (0, .nameAndType 15 12), (0, u "UNSOUND"), (0, .fieldref 8 17), (0, .nameAndType 18 12), (0, u "USAGE"), (0, .fieldref 8 20), (0, .nameAndType 21 12), (0, u "NOT_A_WORKFLOW_NET"), (0, .fieldref 8 23), (0, .nameAndType 24 12), (0, u "UNREADABLE"), (0, .fieldref 8 26), (0, .nameAndType 27 12), (0, u "OUT_OF_SCOPE"), (0, .fieldref 8 29), (0, .nameAndType 30 12), (0, u "INTERNAL_ERROR"), (0, .integer 2147483647), (0, .methodref 33 34), (0, .class_ 35), (0, .nameAndType 36 37), (0, u "com/example/marking/marking/commands/ExitCodeMaxPinLaw"), (0, u "pick"), (0, u "(I)Lcom/example/marking/marking/commands/ExitCode;"), (0, .methodref 8 39), (0, .nameAndType 40 41), (0, u "max"), (0, u "(Lcom/example/marking/marking/commands/ExitCode;)Lcom/example/marking/marking/commands/ExitCode;"), (0, .methodref 8 43), (0, .nameAndType 44 45), (0, u "getCode"), (0, u "()I"), (0, .methodref 47 48), (0, .class_ 49), (0, .nameAndType 40 50), (0, u "java/lang/Math"), (0, u "(II)I"), (3, u "law"), (0, u "(II)Z")] 2

def k1m0 : Method := { name := "<init>", desc := "()V", sig := { parameters := [], returnType := none }, accessFlags := 1, code := none }
def k1c1 : Code := { maxStack := 2, maxLocals := 1, code := method_2_code, exceptionTable := #[], attributes := #[] }
def k1m1 : Method := { name := "pick", desc := "(I)Lcom/example/marking/marking/commands/ExitCode;", sig := { parameters := [.int], returnType := some (.object "com/example/marking/marking/commands/ExitCode") }, accessFlags := 10, code := some k1c1 }
def k1c2 : Code := { maxStack := 3, maxLocals := 8, code := code, exceptionTable := #[], attributes := #[] }
def k1m2 : Method := { name := "law", desc := "(II)Z", sig := { parameters := [.int, .int], returnType := some .boolean }, accessFlags := 9, code := some k1c2 }
/-- com/example/marking/marking/commands/ExitCodeMaxPinLaw -/
def k1 : Class := { plain "com/example/marking/marking/commands/ExitCodeMaxPinLaw" (some 0) with
  accessFlags := 49
  interfaces := #[]
  cf := some (fileOf pool1 33 #[] #[{ accessFlags := 1, nameIndex := 5, descriptorIndex := 6, attributes := #[] }, { accessFlags := 10, nameIndex := 36, descriptorIndex := 37, attributes := #[] }, { accessFlags := 9, nameIndex := 54, descriptorIndex := 55, attributes := #[] }] 49 2 #[] #[])
  fields := #[]
  methods := #[k1m0, k1m1, k1m2]
  instanceTypes := #[]
  staticTypes := #[]
  resolved := Array.replicate 58 none
  statics := none }

def pool2 : Array CpInfo := pool [(1, .class_ 2), (0, u "java/lang/constant/Constable"), (0, .class_ 4), (0, u "java/lang/Object")] 6

/-- java/lang/constant/Constable -/
def k2 : Class := { plain "java/lang/constant/Constable" (some 0) with
  accessFlags := 1537
  interfaces := #[]
  cf := some (fileOf pool2 1 #[] #[] 1537 3 #[] #[])
  fields := #[]
  methods := #[]
  instanceTypes := #[]
  staticTypes := #[]
  resolved := Array.replicate 11 none
  statics := none }

def pool3 : Array CpInfo := pool [(1, .class_ 2), (0, u "java/lang/Comparable"), (0, .class_ 4), (0, u "java/lang/Object")] 7

/-- java/lang/Comparable -/
def k3 : Class := { plain "java/lang/Comparable" (some 0) with
  accessFlags := 1537
  interfaces := #[]
  cf := some (fileOf pool3 1 #[] #[] 1537 3 #[] #[])
  fields := #[]
  methods := #[]
  instanceTypes := #[]
  staticTypes := #[]
  resolved := Array.replicate 12 none
  statics := none }

def pool4 : Array CpInfo := pool [(1, .class_ 2), (0, u "java/io/Serializable"), (0, .class_ 4), (0, u "java/lang/Object")] 2

/-- java/io/Serializable -/
def k4 : Class := { plain "java/io/Serializable" (some 0) with
  accessFlags := 1537
  interfaces := #[]
  cf := some (fileOf pool4 1 #[] #[] 1537 3 #[] #[])
  fields := #[]
  methods := #[]
  instanceTypes := #[]
  staticTypes := #[]
  resolved := Array.replicate 7 none
  statics := none }

def pool5 : Array CpInfo := pool [(2, .class_ 4), (1, u "java/lang/Enum"), (0, u "name"), (0, u "Ljava/lang/String;"), (2, u "ordinal"), (0, u "I"), (1, .class_ 14), (1, u "java/lang/Object"), (4, u "hash"), (86, .class_ 108), (1, u "java/lang/Enum$EnumDesc"), (2, .class_ 112), (0, u "java/lang/constant/Constable"), (0, .class_ 114), (0, u "java/lang/Comparable"), (0, .class_ 116), (0, u "java/io/Serializable")] 87

/-- java/lang/Enum -/
def k5 : Class := { plain "java/lang/Enum" (some 0) with
  accessFlags := 1057
  interfaces := #[2, 3, 4]
  cf := some (fileOf pool5 2 #[.nestMembers #[106]] #[] 1057 12 #[111, 113, 115] #[{ accessFlags := 18, nameIndex := 5, descriptorIndex := 6, attributes := #[] }, { accessFlags := 18, nameIndex := 9, descriptorIndex := 10, attributes := #[] }, { accessFlags := 2, nameIndex := 19, descriptorIndex := 10, attributes := #[] }])
  fields := #[{ name := "name", type := (.object "java/lang/String"), accessFlags := 18, slot := 0, constantValue := 0 }, { name := "ordinal", type := .int, accessFlags := 18, slot := 1, constantValue := 0 }, { name := "hash", type := .int, accessFlags := 2, slot := 2, constantValue := 0 }]
  methods := #[]
  instanceTypes := #[(.object "java/lang/String"), .int, .int]
  staticTypes := #[]
  resolved := Array.replicate 204 none
  statics := none }

def pool6 : Array CpInfo := pool [(1, .class_ 2), (0, u "com/example/marking/marking/commands/ExitCode"), (2, u "DONE"), (0, u "Lcom/example/marking/marking/commands/ExitCode;"), (2, u "UNSOUND"), (2, u "USAGE"), (2, u "NOT_A_WORKFLOW_NET"), (2, u "UNREADABLE"), (2, u "OUT_OF_SCOPE"), (2, u "INTERNAL_ERROR"), (2, u "$VALUES"), (0, u "[Lcom/example/marking/marking/commands/ExitCode;"), (6, .class_ 37), (1, u "java/lang/Enum"), (6, .fieldref 1 45), (0, .nameAndType 46 47), (0, u "code"), (0, u "I"), (21, u "getCode"), (0, u "()I"), (0, u "max"), (0, u "(Lcom/example/marking/marking/commands/ExitCode;)Lcom/example/marking/marking/commands/ExitCode;")] 6

def k6c0 : Code := { maxStack := 1, maxLocals := 1, code := prog_17_method_4_code, exceptionTable := #[], attributes := #[] }
def k6m0 : Method := { name := "getCode", desc := "()I", sig := { parameters := [], returnType := some .int }, accessFlags := 1, code := some k6c0 }
def k6c1 : Code := { maxStack := 2, maxLocals := 2, code := prog_17_method_5_code, exceptionTable := #[], attributes := #[] }
def k6m1 : Method := { name := "max", desc := "(Lcom/example/marking/marking/commands/ExitCode;)Lcom/example/marking/marking/commands/ExitCode;", sig := { parameters := [(.object "com/example/marking/marking/commands/ExitCode")], returnType := some (.object "com/example/marking/marking/commands/ExitCode") }, accessFlags := 1, code := some k6c1 }
/-- com/example/marking/marking/commands/ExitCode -/
def k6 : Class := { plain "com/example/marking/marking/commands/ExitCode" (some 5) with
  accessFlags := 16433
  interfaces := #[]
  cf := some (fileOf pool6 1 #[] #[{ accessFlags := 1, nameIndex := 69, descriptorIndex := 70, attributes := #[] }, { accessFlags := 1, nameIndex := 71, descriptorIndex := 72, attributes := #[] }] 16433 35 #[] #[{ accessFlags := 16409, nameIndex := 5, descriptorIndex := 6, attributes := #[] }, { accessFlags := 16409, nameIndex := 9, descriptorIndex := 6, attributes := #[] }, { accessFlags := 16409, nameIndex := 12, descriptorIndex := 6, attributes := #[] }, { accessFlags := 16409, nameIndex := 15, descriptorIndex := 6, attributes := #[] }, { accessFlags := 16409, nameIndex := 18, descriptorIndex := 6, attributes := #[] }, { accessFlags := 16409, nameIndex := 21, descriptorIndex := 6, attributes := #[] }, { accessFlags := 16409, nameIndex := 24, descriptorIndex := 6, attributes := #[] }, { accessFlags := 18, nameIndex := 46, descriptorIndex := 47, attributes := #[] }, { accessFlags := 4122, nameIndex := 27, descriptorIndex := 28, attributes := #[] }])
  fields := #[{ name := "DONE", type := (.object "com/example/marking/marking/commands/ExitCode"), accessFlags := 16409, slot := 0, constantValue := 0 }, { name := "UNSOUND", type := (.object "com/example/marking/marking/commands/ExitCode"), accessFlags := 16409, slot := 1, constantValue := 0 }, { name := "USAGE", type := (.object "com/example/marking/marking/commands/ExitCode"), accessFlags := 16409, slot := 2, constantValue := 0 }, { name := "NOT_A_WORKFLOW_NET", type := (.object "com/example/marking/marking/commands/ExitCode"), accessFlags := 16409, slot := 3, constantValue := 0 }, { name := "UNREADABLE", type := (.object "com/example/marking/marking/commands/ExitCode"), accessFlags := 16409, slot := 4, constantValue := 0 }, { name := "OUT_OF_SCOPE", type := (.object "com/example/marking/marking/commands/ExitCode"), accessFlags := 16409, slot := 5, constantValue := 0 }, { name := "INTERNAL_ERROR", type := (.object "com/example/marking/marking/commands/ExitCode"), accessFlags := 16409, slot := 6, constantValue := 0 }, { name := "code", type := .int, accessFlags := 18, slot := 3, constantValue := 0 }, { name := "$VALUES", type := (.array (.object "com/example/marking/marking/commands/ExitCode")), accessFlags := 4122, slot := 7, constantValue := 0 }]
  methods := #[k6m0, k6m1]
  instanceTypes := #[(.object "java/lang/String"), .int, .int, .int]
  staticTypes := #[(.object "com/example/marking/marking/commands/ExitCode"), (.object "com/example/marking/marking/commands/ExitCode"), (.object "com/example/marking/marking/commands/ExitCode"), (.object "com/example/marking/marking/commands/ExitCode"), (.object "com/example/marking/marking/commands/ExitCode"), (.object "com/example/marking/marking/commands/ExitCode"), (.object "com/example/marking/marking/commands/ExitCode"), (.array (.object "com/example/marking/marking/commands/ExitCode"))]
  resolved := Array.replicate 79 none
  statics := some 0 }

def pool7 : Array CpInfo := pool [(1, .class_ 2), (0, u "java/lang/Math"), (1, .class_ 6), (1, u "java/lang/Object"), (0, u "<init>"), (0, u "()V"), (89, .class_ 100), (1, u "java/lang/Math$RandomNumberGeneratorHolder"), (71, u "negativeZeroFloatBits"), (0, u "J"), (2, u "negativeZeroDoubleBits"), (21, u "max"), (46, u "$assertionsDisabled"), (0, u "Z"), (88, u "(II)I"), (2, u "twoToTheDoubleScaleDown"), (0, u "D"), (4, u "twoToTheDoubleScaleUp"), (9, u "E"), (3, u "PI"), (2, u "TAU"), (2, u "DEGREES_TO_RADIANS"), (0, u "RADIANS_TO_DEGREES")] 94

def k7m0 : Method := { name := "<init>", desc := "()V", sig := { parameters := [], returnType := none }, accessFlags := 2, code := none }
def k7c1 : Code := { maxStack := 2, maxLocals := 2, code := jdk_29_method_65_code, exceptionTable := #[], attributes := #[] }
def k7m1 : Method := { name := "max", desc := "(II)I", sig := { parameters := [.int, .int], returnType := some .int }, accessFlags := 9, code := some k7c1 }
/-- java/lang/Math -/
def k7 : Class := { plain "java/lang/Math" (some 0) with
  accessFlags := 49
  interfaces := #[]
  cf := some (fileOf pool7 1 #[.nestMembers #[98]] #[{ accessFlags := 2, nameIndex := 7, descriptorIndex := 8, attributes := #[] }, { accessFlags := 9, nameIndex := 198, descriptorIndex := 335, attributes := #[] }] 49 4 #[] #[{ accessFlags := 25, nameIndex := 354, descriptorIndex := 339, attributes := #[] }, { accessFlags := 25, nameIndex := 358, descriptorIndex := 339, attributes := #[] }, { accessFlags := 25, nameIndex := 361, descriptorIndex := 339, attributes := #[] }, { accessFlags := 26, nameIndex := 364, descriptorIndex := 339, attributes := #[] }, { accessFlags := 26, nameIndex := 365, descriptorIndex := 339, attributes := #[] }, { accessFlags := 26, nameIndex := 172, descriptorIndex := 173, attributes := #[] }, { accessFlags := 26, nameIndex := 176, descriptorIndex := 173, attributes := #[] }, { accessFlags := 8, nameIndex := 344, descriptorIndex := 339, attributes := #[] }, { accessFlags := 8, nameIndex := 338, descriptorIndex := 339, attributes := #[] }, { accessFlags := 4120, nameIndex := 245, descriptorIndex := 246, attributes := #[] }])
  fields := #[{ name := "E", type := .double, accessFlags := 25, slot := 0, constantValue := 0 }, { name := "PI", type := .double, accessFlags := 25, slot := 1, constantValue := 0 }, { name := "TAU", type := .double, accessFlags := 25, slot := 2, constantValue := 0 }, { name := "DEGREES_TO_RADIANS", type := .double, accessFlags := 26, slot := 3, constantValue := 0 }, { name := "RADIANS_TO_DEGREES", type := .double, accessFlags := 26, slot := 4, constantValue := 0 }, { name := "negativeZeroFloatBits", type := .long, accessFlags := 26, slot := 5, constantValue := 0 }, { name := "negativeZeroDoubleBits", type := .long, accessFlags := 26, slot := 6, constantValue := 0 }, { name := "twoToTheDoubleScaleUp", type := .double, accessFlags := 8, slot := 7, constantValue := 0 }, { name := "twoToTheDoubleScaleDown", type := .double, accessFlags := 8, slot := 8, constantValue := 0 }, { name := "$assertionsDisabled", type := .boolean, accessFlags := 4120, slot := 9, constantValue := 0 }]
  methods := #[k7m0, k7m1]
  instanceTypes := #[]
  staticTypes := #[.double, .double, .double, .double, .double, .long, .long, .double, .double, .boolean]
  resolved := Array.replicate 460 none
  statics := none }

def pool8 : Array CpInfo := pool [(1, u "java/lang/Cloneable"), (0, .class_ 1), (0, u "java/lang/Object"), (0, .class_ 3)] 3

/-- java/lang/Cloneable -/
def k8 : Class := { plain "java/lang/Cloneable" (some 0) with
  accessFlags := 1537
  interfaces := #[]
  cf := some (fileOf pool8 2 #[] #[] 1537 4 #[] #[])
  fields := #[]
  methods := #[]
  instanceTypes := #[]
  staticTypes := #[]
  resolved := Array.replicate 8 none
  statics := none }

/-- the primitive byte -/
def k9 : Class := { plain "byte" none with kind := .primitive 'B', accessFlags := 0x411 }
/-- [B -/
def k10 : Class := { plain "[B" (some 0) with kind := .array 9 .byte, interfaces := #[8, 4], accessFlags := 1041 }

/-- the primitive int -/
def k11 : Class := { plain "int" none with kind := .primitive 'I', accessFlags := 0x411 }
/-- [I -/
def k12 : Class := { plain "[I" (some 0) with kind := .array 11 .int, interfaces := #[8, 4], accessFlags := 1041 }

def heap : Heap := #[{ cls := 6, slots := #[.ref 1, .ref 3, .ref 5, .ref 2, .ref 6, .ref 4, .ref 7, .null], vm := .statics 6 },
  { cls := 6, slots := #[.null, .int 0, .int 0, .int 0], vm := .none },
  { cls := 6, slots := #[.null, .int 0, .int 0, .int 3], vm := .none },
  { cls := 6, slots := #[.null, .int 0, .int 0, .int 1], vm := .none },
  { cls := 6, slots := #[.null, .int 0, .int 0, .int 5], vm := .none },
  { cls := 6, slots := #[.null, .int 0, .int 0, .int 2], vm := .none },
  { cls := 6, slots := #[.null, .int 0, .int 0, .int 4], vm := .none },
  { cls := 6, slots := #[.null, .int 0, .int 0, .int 70], vm := .none }]
def classes : Array Class := #[k0, k1, k2, k3, k4, k5, k6, k7, k8, k9, k10, k11, k12]
def interned : List (Array UInt16 × Addr) := []
def slotsUsed : Nat := 36
def theMethod : MethodId := ⟨1, 2⟩
def args0 : Array Value := #[.int 5, .int 3]
def aboutOver (below : List Frame) : State where
  vm := { classes := classes, interned := interned.toArray }
  heap := heap
  slotsUsed := slotsUsed
  threads := #[{ frames := .invoking theMethod args0 :: below }]
def below0 : List Frame := [.native { method := ⟨0, 0⟩, args := #[] }]
def about1 : State := aboutOver below0
def p0 : Program := .bare "" "" ""
def e0 : Env := launch0.env 0 0 0
theorem w_frames : about1.frames = Frame.invoking theMethod args0 :: below0 := rfl
set_option maxRecDepth 65536 in
theorem w_args : argsFit about1.vm theMethod args0 = true := by decide +kernel
set_option maxRecDepth 65536 in
theorem w_heap : heapFits about1 = true := by decide +kernel
set_option maxRecDepth 65536 in
theorem w_runnable : about1.curStatus? = some .runnable := by decide +kernel
set_option maxRecDepth 65536 in
theorem w_alone : about1.alone = true := by decide +kernel
set_option maxRecDepth 65536 in
theorem w_named : about1.methodNamed? x = some theMethod := by decide +kernel
set_option maxRecDepth 65536 in
theorem w_hears : about1.hears theMethod below0 = true := by decide +kernel
set_option maxRecDepth 65536 in
theorem w_ripe : about1.ripe theMethod args0 below0 = true := by decide +kernel
theorem w_running : about1.status = .running := rfl
set_option maxRecDepth 65536 in
theorem w_room : about1.hasRoom e0.platform room_1 = true :=
  launch0.hasRoom_least _ room_1 (by decide +kernel) (by decide +kernel) (by decide +kernel) (by decide +kernel) (by decide +kernel) (by decide +kernel)
theorem allAtoms_all (ts : List Jvm.Cond) (a : Array Jvm.Value) (st : Jvm.State) : (allAtoms ts).before a st = ts.all (fun c => c.before a st) := by
  induction ts with
  | nil => rfl
  | cons c t ih =>
    show (Jvm.Cond.and c (allAtoms t)).before a st = _
    rw [Jvm.Cond.before_and, ih, List.all_cons]
def words1 : List Jvm.Cond := Jvm.Cond.code x code maxLocals ret :: tables_1
/-- a 'code' word, met by the world's own term for the bytes: nothing is compared byte by byte -/
theorem code_word {y : MethodName} {bytes : ByteArray} {mx : Nat} {rt : Option FieldType} {a : Array Value} {s : State} {m : MethodId} {meth : Method} {c : Code} (h1 : s.methodNamed? y = some m) (h2 : s.vm.method? m = some meth) (h3 : meth.code = some c) (h4 : c.code = bytes)
    (h5 : (c.maxLocals == mx && c.exceptionTable.isEmpty && decide (c.maxStack ≤ mostOperands) && decide (meth.sig.returnType = rt) && !meth.locks && decide (parseMethodDescriptor y.desc = some meth.sig)) = true) : (Jvm.Cond.code y bytes mx rt).before a s = true := by
  simp only [Bool.and_eq_true, beq_iff_eq, Bool.not_eq_true', decide_eq_true_eq] at h5
  obtain ⟨⟨⟨⟨⟨g1, g2⟩, g3⟩, g4⟩, g5⟩, g6⟩ := h5
  simp [Cond.before, Cond.holds, Cond.value, h1, h2, h3, h4, g1, g2, g3, g4, g5, g6]
def isCode : Jvm.Cond → Bool
  | .code _ _ _ _ => true
  | _ => false
theorem all_split {L : List Jvm.Cond} {P : Jvm.Cond → Bool} (h1 : L.all (fun c => isCode c || P c) = true) (h2 : ∀ c ∈ L.filter isCode, P c = true) : L.all P = true := by
  refine List.all_eq_true.mpr fun c hc => ?_
  have h := List.all_eq_true.mp h1 c hc
  rcases Bool.eq_false_or_eq_true (isCode c) with hi | hi
  · exact h2 c (List.mem_filter.mpr ⟨hc, hi⟩)
  · simpa [hi] using h
set_option maxRecDepth 65536 in
theorem w_c0 : (Jvm.Cond.code x code maxLocals ret).before args0 about1 = true := code_word (m := ⟨1, 2⟩) (meth := k1m2) (c := k1c2) (by decide +kernel) rfl rfl rfl (by decide +kernel)
set_option maxRecDepth 65536 in
theorem w_c1 : (Jvm.Cond.code ({ cls := "com/example/marking/marking/commands/ExitCodeMaxPinLaw", name := "pick", desc := "(I)Lcom/example/marking/marking/commands/ExitCode;" } : Jvm.MethodName) method_2_code (1 : Nat) (Option.some (Jvm.ClassFile.FieldType.object "com/example/marking/marking/commands/ExitCode"))).before args0 about1 = true := code_word (m := ⟨1, 1⟩) (meth := k1m1) (c := k1c1) (by decide +kernel) rfl rfl rfl (by decide +kernel)
set_option maxRecDepth 65536 in
theorem w_c2 : (Jvm.Cond.code ({ cls := "com/example/marking/marking/commands/ExitCode", name := "max", desc := "(Lcom/example/marking/marking/commands/ExitCode;)Lcom/example/marking/marking/commands/ExitCode;" } : Jvm.MethodName) prog_17_method_5_code (2 : Nat) (Option.some (Jvm.ClassFile.FieldType.object "com/example/marking/marking/commands/ExitCode"))).before args0 about1 = true := code_word (m := ⟨6, 1⟩) (meth := k6m1) (c := k6c1) (by decide +kernel) rfl rfl rfl (by decide +kernel)
set_option maxRecDepth 65536 in
theorem w_c3 : (Jvm.Cond.code ({ cls := "com/example/marking/marking/commands/ExitCode", name := "getCode", desc := "()I" } : Jvm.MethodName) prog_17_method_4_code (1 : Nat) (Option.some Jvm.ClassFile.FieldType.int)).before args0 about1 = true := code_word (m := ⟨6, 0⟩) (meth := k6m0) (c := k6c0) (by decide +kernel) rfl rfl rfl (by decide +kernel)
set_option maxRecDepth 65536 in
theorem w_c4 : (Jvm.Cond.code ({ cls := "java/lang/Math", name := "max", desc := "(II)I" } : Jvm.MethodName) jdk_29_method_65_code (2 : Nat) (Option.some Jvm.ClassFile.FieldType.int)).before args0 about1 = true := code_word (m := ⟨7, 1⟩) (meth := k7m1) (c := k7c1) (by decide +kernel) rfl rfl rfl (by decide +kernel)
def codes1 : List Jvm.Cond := [Jvm.Cond.code x code maxLocals ret, Jvm.Cond.code ({ cls := "com/example/marking/marking/commands/ExitCodeMaxPinLaw", name := "pick", desc := "(I)Lcom/example/marking/marking/commands/ExitCode;" } : Jvm.MethodName) method_2_code (1 : Nat) (Option.some (Jvm.ClassFile.FieldType.object "com/example/marking/marking/commands/ExitCode")), Jvm.Cond.code ({ cls := "com/example/marking/marking/commands/ExitCode", name := "max", desc := "(Lcom/example/marking/marking/commands/ExitCode;)Lcom/example/marking/marking/commands/ExitCode;" } : Jvm.MethodName) prog_17_method_5_code (2 : Nat) (Option.some (Jvm.ClassFile.FieldType.object "com/example/marking/marking/commands/ExitCode")), Jvm.Cond.code ({ cls := "com/example/marking/marking/commands/ExitCode", name := "getCode", desc := "()I" } : Jvm.MethodName) prog_17_method_4_code (1 : Nat) (Option.some Jvm.ClassFile.FieldType.int), Jvm.Cond.code ({ cls := "java/lang/Math", name := "max", desc := "(II)I" } : Jvm.MethodName) jdk_29_method_65_code (2 : Nat) (Option.some Jvm.ClassFile.FieldType.int)]
set_option maxRecDepth 65536 in
theorem codes_eq : words1.filter isCode = codes1 := rfl
theorem w_codes : ∀ c ∈ words1.filter isCode, c.before args0 about1 = true := by
  rw [codes_eq]
  intro c hc
  simp only [codes1, List.mem_cons, List.not_mem_nil, or_false] at hc
  rcases hc with rfl | rfl | rfl | rfl | rfl
  · exact w_c0
  · exact w_c1
  · exact w_c2
  · exact w_c3
  · exact w_c4
set_option maxRecDepth 65536 in
theorem w_t1 : (words1.take 24).all (fun c => isCode c || c.before args0 about1) = true := by decide +kernel
set_option maxRecDepth 65536 in
theorem w_t2 : (words1.drop 24).all (fun c => isCode c || c.before args0 about1) = true := by decide +kernel
theorem w_tables : (allAtoms (Jvm.Cond.code x code maxLocals ret :: tables_1)).before args0 about1 = true := by
  rw [allAtoms_all]
  show words1.all (fun c => c.before args0 about1) = true
  refine all_split ?_ w_codes
  rw [← List.take_append_drop 24 words1, List.all_append, w_t1, w_t2]
  rfl
set_option maxRecDepth 65536 in
theorem w_case : (Jvm.Cond.and given_1 narrow_1).before args0 about1 = true := by decide +kernel
theorem w_applies : (headSpec (Jvm.Cond.code x code maxLocals ret :: tables_1) room_1).applies x e0.platform about1 = true :=
  (Spec.applies_iff w_frames).mpr ⟨w_running, w_runnable, w_alone, w_named, w_hears, w_ripe, w_room, w_tables⟩
theorem atStart : AtStart classFile x code maxLocals ret World_1 tables_1 room_1 Calls_1 rest_1 Pre_1 launch0 p0 e0 about1 theMethod args0 below0 :=
  ⟨lists_1, trivial, launch0.admits_env _ _ _, launch0.least_env, fairChoices_fair.cas, fairChoices_fair.clock, w_frames, w_args, w_heap, w_applies, trivial, trivial, w_case⟩
end start1
theorem witness_1 : WitnessClaimed_1 := ⟨start1.p0, start1.e0, start1.about1, start1.theMethod, start1.args0, start1.below0, start1.atStart⟩
end Jvm.Pilot.@@N@@
