import JvmDerived
import JvmDerived.Pilot.@@N@@Statement
import JvmDerived.Pilot.@@N@@Code
set_option linter.unusedVariables false
set_option linter.unusedSimpArgs false
namespace Jvm.RoadKit
open Sem ClassFile Op Lib Jvm.Stand Jvm.Free Jvm.LawKit
section New
variable {p : Program} {l : Launch} {e : Env} {R : Room} {s : State} {m : MethodId} {args : Array Value} {below : List Frame} {meth : Method} {c : Code} {T : State} {locs : List Loc} {cells slots : Nat}
theorem retI (X : Stand p l e R s m args below meth c T locs cells slots) (hx : p.tables.exec = Jvm.exec) {pc : Nat} {Ls : Array Slot} {z : Int32} {rest : List Value} (hret : meth.sig.returnType = some .int) (hd : decode c.code pc = .ok (.ireturn, 1)) {fs : List Frame}
    (hl : ∀ (f : JFrame) (acts : List Action), f.method = m → f.locked = none → f.entered = [] → (doReturn e (T.setTop f) acts (some (.int z))).1 = T.setFrames fs) : Steps p.tables e below (T.setTop (mkF m pc Ls (.int z :: rest))) (T.setFrames fs) := by
  have hm' : T.vm.method? m = some meth := X.method'
  have hn : narrow .int (.int z) = .int z := rfl
  show Steps p.tables e below (T.setTop { method := m, pc := pc, locals := Ls, stack := _ :: rest, locked := none }) _
  jvm_step X.here [X.here.top, hx, hd, hm', hret, hn]
  first | (intro acts; rw [hl _ acts rfl rfl rfl]) | rw [hl _ _ rfl rfl rfl]
  exact Steps.refl _
end New
end Jvm.RoadKit
namespace Jvm.Pilot.@@N@@
open Jvm Jvm.ClassFile Sem Op Lib Jvm.Free Jvm.Stand Jvm.LawKit Jvm.RoadKit Bundle Jvm.Pilot.@@N@@.Jvm.D
def own_irem (x y : Int32) : Int32 := x - (x / y) * y
theorem own_irem_mod (x y : Int32) : own_irem x y = x % y := by
  unfold own_irem
  apply Int32.toInt_inj.mp
  have h1 := Int32.le_toInt (x % y)
  have h2 := Int32.toInt_lt (x % y)
  rw [Int32.toInt_sub, Int32.toInt_mul, Int32.toInt_div, Int.bmod_mul_bmod, Int.sub_bmod_bmod, Int.mul_comm (x.toInt.tdiv y.toInt), ← Int.tmod_def, ← Int32.toInt_mod]
  exact Int.bmod_eq_of_le_mul_two (by omega) (by omega)
theorem own_fld_eq {args : Array Value} {s : State} {t : Term} {C n d : String} {w : Addr} {k : Int32} (ht : t.eval args s none [] s = some (.ref w)) (h : (Jvm.Cond.eq (Term.field t C n d) (Term.int k)).value args s none s [] = some true) : Fld s s.heap w C n d (.int k) := by
  obtain ⟨x, y, ha, hb, -, -⟩ := cmp_v (Or.inl h)
  have hy : y = .int k := (Option.some.inj ((Term.int_eval k).symm.trans hb)).symm
  subst hy
  have hx : x = .int k := by
    cases x <;> simp [Cond.value, ha, hb] at h ⊢
    exact h
  subst hx
  exact Fld.start (by rw [← fld_at ht]; exact ha)
theorem own_fld_ref {args : Array Value} {s : State} {t u : Term} {C n d : String} {w : Addr} {k : Addr} (ht : t.eval args s none [] s = some (.ref w)) (hu : u.eval args s none [] s = some (.ref k)) (h : (Jvm.Cond.eq (Term.field t C n d) u).value args s none s [] = some true) : Fld s s.heap w C n d (.ref k) := by
  obtain ⟨x, y, ha, hb, -, -⟩ := cmp_v (Or.inl h)
  cases hu.symm.trans hb
  have hx : x = .ref k := by
    cases x <;> simp [Cond.value, ha, hb] at h ⊢
    exact h
  subst hx
  exact Fld.start (by rw [← fld_at ht]; exact ha)
theorem own_sel_priv {s : State} {args : Array Value} {y z : MethodName} (hsel : (Jvm.Cond.selects z.cls z z).before args s = true) (hz : z.cls = y.cls) (hpriv : (Jvm.Cond.privateMethod y).before args s = true) (hinst : (Jvm.Cond.instanceMethod y).before args s = true) (hy : y.cls ≠ "java/lang/invoke/MethodHandle" ∧ y.cls ≠ "java/lang/invoke/VarHandle") : (Jvm.Cond.selects y.cls y y).before args s = true := by
  obtain ⟨c, r, m, h1, h2, h3, h4, mk, h5, h6⟩ := Cond.selects_spec hsel
  have hc := findClass_of_methodNamed h3
  rw [hz] at hc
  exact selects_self_of_private hc h5 h6 (Cond.privateMethod_at hpriv) hinst hy
theorem own_nm_int : "[" ++ (newarray.typeOf .int).toString = "[I" := by decide
theorem own_nm_long : "[" ++ (newarray.typeOf .long).toString = "[J" := by decide
theorem own_nm_char : "[" ++ (newarray.typeOf .char).toString = "[C" := by decide
theorem own_nm_boolean : "[" ++ (newarray.typeOf .boolean).toString = "[Z" := by decide
theorem own_ns_exa {Z : State} {h : Heap} {a : Addr} {C : String} (E : Exa Z h a C) : ∀ c : Cell, h[a]? = some c → c.vm.isStatics = false := fun c hc => by
  obtain ⟨cell, k, h1, -, -, h4, -⟩ := E
  cases h1.symm.trans hc
  exact h4
theorem own_ns_arr {Z : State} {h : Heap} {a : Addr} {cl : Cell} {ty : FieldType} (A : Arr Z h a cl ty) : ∀ c : Cell, h[a]? = some c → c.vm.isStatics = false := fun c hc => by
  cases A.1.symm.trans hc
  exact A.plain
theorem own_ns_arv {Z : State} {h : Heap} {a : Addr} {k : ClassId} {ty : FieldType} {z : Int32} {vs : List Value} {dv : Value} (F : Arv Z h a k ty z vs dv) : ∀ c : Cell, h[a]? = some c → c.vm.isStatics = false := by
  obtain ⟨c, A, -⟩ := F
  exact own_ns_arr A
theorem own_sta_keep {Z : State} {h h' : Heap} {C n d : String} {v : Value} {ws : List Addr} (F : Sta Z h C n d v) (K : Keep h h' ws) (q : ∀ x ∈ ws, ∀ c : Cell, h[x]? = some c → c.vm.isStatics = false) : Sta Z h' C n d v := by
  obtain ⟨cf, i, k, f, st, cell, h1, h2, h3, h4, h5, h6, h7⟩ := F
  exact ⟨cf, i, k, f, st, cell, h1, h2, h3, h4, K.2.1 st cell h5 (fun hm => by rw [q st hm cell h5] at h6; cases h6), h6, h7⟩
theorem own_len {args : Array Value} {s : State} {t : Term} {a : Addr} {cl : Cell} {n : Int32} (ht : t.eval args s none [] s = some (.ref a)) (hc : s.heap[a]? = some cl) (h : (Jvm.Cond.eq (Term.length t) (Term.int n)).value args s none s [] = some true) : cl.slots.size < 2 ^ 31 ∧ cl.slots.size.toInt32 = n := by
  obtain ⟨x, y, ha, hb, -, -⟩ := cmp_v (Or.inl h)
  have hy : y = .int n := (Option.some.inj ((Term.int_eval n).symm.trans hb)).symm
  subst hy
  have hx : x = .int n := by
    cases x <;> simp [Cond.value, ha, hb] at h ⊢
    exact h
  subst hx
  simp only [Term.eval, ht, Option.bind_eq_bind, Option.bind_some] at ha
  cases hq : s.arrayAt? a with
  | none => simp [hq] at ha
  | some c2 =>
    cases (State.arrayAt?_spec hq).1.symm.trans hc
    simp only [hq, Option.bind_some] at ha
    split at ha
    · rename_i hlt
      exact ⟨hlt, Value.int.inj (Option.some.inj ha)⟩
    · cases ha
theorem own_elem {args : Array Value} {s : State} {t u : Term} {a k : Addr} {cl : Cell} {j : Int32} (ht : t.eval args s none [] s = some (.ref a)) (hu : u.eval args s none [] s = some (.ref k)) (hc : s.heap[a]? = some cl) (h : (Jvm.Cond.eq (Term.elem t (Term.int j)) u).value args s none s [] = some true) : cl.slots[j.toNatClampNeg]? = some (.ref k) := by
  obtain ⟨x, y, ha, hb, -, -⟩ := cmp_v (Or.inl h)
  cases hu.symm.trans hb
  have hx : x = .ref k := by
    cases x <;> simp [Cond.value, ha, hb] at h ⊢
    exact h
  subst hx
  exact (elem_in ha ht (Term.int_eval j) hc).2

theorem d1_0 : decode method_3_code 0 = .ok (.iload_n 0, 1) := by decide +kernel
theorem d1_1 : decode method_3_code 1 = .ok (.ifCond .ne 7, 3) := by decide +kernel
theorem d1_4 : decode method_3_code 4 = .ok (.getstatic 20, 3) := by decide +kernel
theorem d1_7 : decode method_3_code 7 = .ok (.areturn, 1) := by decide +kernel
theorem d1_8 : decode method_3_code 8 = .ok (.iload_n 0, 1) := by decide +kernel
theorem d1_9 : decode method_3_code 9 = .ok (.iconst 1, 1) := by decide +kernel
theorem d1_10 : decode method_3_code 10 = .ok (.if_icmp .ne 7, 3) := by decide +kernel
theorem d1_13 : decode method_3_code 13 = .ok (.getstatic 24, 3) := by decide +kernel
theorem d1_16 : decode method_3_code 16 = .ok (.areturn, 1) := by decide +kernel
theorem d1_17 : decode method_3_code 17 = .ok (.iload_n 0, 1) := by decide +kernel
theorem d1_18 : decode method_3_code 18 = .ok (.iconst 2, 1) := by decide +kernel
theorem d1_19 : decode method_3_code 19 = .ok (.if_icmp .ne 7, 3) := by decide +kernel
theorem d1_22 : decode method_3_code 22 = .ok (.getstatic 27, 3) := by decide +kernel
theorem d1_25 : decode method_3_code 25 = .ok (.areturn, 1) := by decide +kernel
theorem d1_26 : decode method_3_code 26 = .ok (.iload_n 0, 1) := by decide +kernel
theorem d1_27 : decode method_3_code 27 = .ok (.iconst 3, 1) := by decide +kernel
theorem d1_28 : decode method_3_code 28 = .ok (.if_icmp .ne 7, 3) := by decide +kernel
theorem d1_31 : decode method_3_code 31 = .ok (.getstatic 30, 3) := by decide +kernel
theorem d1_34 : decode method_3_code 34 = .ok (.areturn, 1) := by decide +kernel
theorem d1_35 : decode method_3_code 35 = .ok (.iload_n 0, 1) := by decide +kernel
theorem d1_36 : decode method_3_code 36 = .ok (.iconst 4, 1) := by decide +kernel
theorem d1_37 : decode method_3_code 37 = .ok (.if_icmp .ne 7, 3) := by decide +kernel
theorem d1_40 : decode method_3_code 40 = .ok (.getstatic 33, 3) := by decide +kernel
theorem d1_43 : decode method_3_code 43 = .ok (.areturn, 1) := by decide +kernel
theorem d1_44 : decode method_3_code 44 = .ok (.iload_n 0, 1) := by decide +kernel
theorem d1_45 : decode method_3_code 45 = .ok (.iconst 5, 1) := by decide +kernel
theorem d1_46 : decode method_3_code 46 = .ok (.if_icmp .ne 7, 3) := by decide +kernel
theorem d1_49 : decode method_3_code 49 = .ok (.getstatic 36, 3) := by decide +kernel
theorem d1_52 : decode method_3_code 52 = .ok (.areturn, 1) := by decide +kernel
theorem d1_53 : decode method_3_code 53 = .ok (.getstatic 39, 3) := by decide +kernel
theorem d1_56 : decode method_3_code 56 = .ok (.areturn, 1) := by decide +kernel
theorem d2_0 : decode prog_45_method_5_code 0 = .ok (.aload_n 0, 1) := by decide +kernel
theorem d2_1 : decode prog_45_method_5_code 1 = .ok (.getstatic 3, 3) := by decide +kernel
theorem d2_4 : decode prog_45_method_5_code 4 = .ok (.if_acmp .eq 17, 3) := by decide +kernel
theorem d2_7 : decode prog_45_method_5_code 7 = .ok (.aload_n 0, 1) := by decide +kernel
theorem d2_8 : decode prog_45_method_5_code 8 = .ok (.getstatic 7, 3) := by decide +kernel
theorem d2_11 : decode prog_45_method_5_code 11 = .ok (.if_acmp .eq 10, 3) := by decide +kernel
theorem d2_14 : decode prog_45_method_5_code 14 = .ok (.aload_n 0, 1) := by decide +kernel
theorem d2_15 : decode prog_45_method_5_code 15 = .ok (.getstatic 10, 3) := by decide +kernel
theorem d2_18 : decode prog_45_method_5_code 18 = .ok (.if_acmp .ne 7, 3) := by decide +kernel
theorem d2_21 : decode prog_45_method_5_code 21 = .ok (.iconst 1, 1) := by decide +kernel
theorem d2_22 : decode prog_45_method_5_code 22 = .ok (.goto 4, 3) := by decide +kernel
theorem d2_25 : decode prog_45_method_5_code 25 = .ok (.iconst 0, 1) := by decide +kernel
theorem d2_26 : decode prog_45_method_5_code 26 = .ok (.ireturn, 1) := by decide +kernel
theorem pn_0 : plainName "com/example/tiptoe/tiptoe/RelationKindHoldsDataPinLaw" = true := by first | (simp [plainName, overriddenIn]; done) | decide +kernel
theorem pn_1 : plainName "com/example/tiptoe/tiptoe/RelationKind" = true := by first | (simp [plainName, overriddenIn]; done) | decide +kernel
theorem pd_0 : parseMethodDescriptor "(I)Lcom/example/tiptoe/tiptoe/RelationKind;" = some ⟨[.int], some (.object "com/example/tiptoe/tiptoe/RelationKind")⟩ := by decide +kernel
theorem pd_1 : parseMethodDescriptor "()Z" = some ⟨[], some .boolean⟩ := by decide +kernel
theorem ef_pick (m : MethodId) (x0 : Int32) : entryFrame m #[(.int x0)] 1 = mkF m 0 #[.val (.int x0)] [] := by first | (simp [entryFrame, mkF, argsToLocals, Value.category]; done) | rfl
def Q_pick (Z : State) (pp : Int32) (w0 : Addr) (w1 : Addr) (w2 : Addr) (w3 : Addr) (w4 : Addr) (w5 : Addr) (w6 : Addr) (r : Addr) (h0 : Heap) (n0 : Nat) (v : Option Value) (h : Heap) (L : List Loc) : Prop := v = some (.ref r) ∧ Fr n0 L ∧ h = h0
set_option maxRecDepth 65536 in
set_option maxHeartbeats 40000000 in
theorem rm_pick (l : Launch) (Z : State) (a0 : Array Value) (hw : ∀ d ∈ tables_1, d.before a0 Z = true) (ws : List Jvm.Cond) (pp : Int32) (w0 : Addr) (w1 : Addr) (w2 : Addr) (w3 : Addr) (w4 : Addr) (w5 : Addr) (w6 : Addr) (r : Addr) (h0 : Heap) (n0 : Nat) (Z0 : n0 ≤ h0.size) (H0_S : Sta Z h0 "com/example/tiptoe/tiptoe/RelationKind" "TABLE" "Lcom/example/tiptoe/tiptoe/RelationKind;" (.ref w0)) (H1_S : Sta Z h0 "com/example/tiptoe/tiptoe/RelationKind" "PARTITIONED_TABLE" "Lcom/example/tiptoe/tiptoe/RelationKind;" (.ref w1)) (H2_S : Sta Z h0 "com/example/tiptoe/tiptoe/RelationKind" "MATERIALIZED_VIEW" "Lcom/example/tiptoe/tiptoe/RelationKind;" (.ref w2)) (H3_S : Sta Z h0 "com/example/tiptoe/tiptoe/RelationKind" "VIEW" "Lcom/example/tiptoe/tiptoe/RelationKind;" (.ref w3)) (H4_S : Sta Z h0 "com/example/tiptoe/tiptoe/RelationKind" "SEQUENCE" "Lcom/example/tiptoe/tiptoe/RelationKind;" (.ref w4)) (H5_S : Sta Z h0 "com/example/tiptoe/tiptoe/RelationKind" "INDEX" "Lcom/example/tiptoe/tiptoe/RelationKind;" (.ref w5)) (H6_S : Sta Z h0 "com/example/tiptoe/tiptoe/RelationKind" "OTHER" "Lcom/example/tiptoe/tiptoe/RelationKind;" (.ref w6)) (hr0 : pp = (0 : Int32) → r = w0) (hr1 : ¬ pp = (0 : Int32) → pp = (1 : Int32) → r = w1) (hr2 : ¬ pp = (0 : Int32) → ¬ pp = (1 : Int32) → pp = (2 : Int32) → r = w2) (hr3 : ¬ pp = (0 : Int32) → ¬ pp = (1 : Int32) → ¬ pp = (2 : Int32) → pp = (3 : Int32) → r = w3) (hr4 : ¬ pp = (0 : Int32) → ¬ pp = (1 : Int32) → ¬ pp = (2 : Int32) → ¬ pp = (3 : Int32) → pp = (4 : Int32) → r = w4) (hr5 : ¬ pp = (0 : Int32) → ¬ pp = (1 : Int32) → ¬ pp = (2 : Int32) → ¬ pp = (3 : Int32) → ¬ pp = (4 : Int32) → pp = (5 : Int32) → r = w5) (hr6 : ¬ pp = (0 : Int32) → ¬ pp = (1 : Int32) → ¬ pp = (2 : Int32) → ¬ pp = (3 : Int32) → ¬ pp = (4 : Int32) → ¬ pp = (5 : Int32) → r = w6) :
    MetFree l (⟨"com/example/tiptoe/tiptoe/RelationKindHoldsDataPinLaw", "pick", "(I)Lcom/example/tiptoe/tiptoe/RelationKind;"⟩ : MethodName) (head1 (Jvm.Cond.code (⟨"com/example/tiptoe/tiptoe/RelationKindHoldsDataPinLaw", "pick", "(I)Lcom/example/tiptoe/tiptoe/RelationKind;"⟩ : MethodName) method_3_code 1 (some (.object "com/example/tiptoe/tiptoe/RelationKind")) :: ws) ({ frames := 0, cells := 0, slots := 0, locals := 0 } : Room)) (fun as_ U_ => as_ = #[(.int pp)] ∧ Z.Warmed39 U_.vm ∧ U_.heap = h0) (fun _ _ _ _ _ => True) (fun _ U o U' => ∃ v L, o = .returned v ∧ Q_pick Z pp w0 w1 w2 w3 w4 w5 w6 r h0 n0 v U'.heap L ∧ FrameEnd U o U' L ({ frames := 0, cells := 0, slots := 0, locals := 0 } : Room).cells ({ frames := 0, cells := 0, slots := 0, locals := 0 } : Room).slots) := by
  refine MetFree.of_bodySF (plainFor_of_name pn_0) hisR ?_
  intro p e s m args below meth c s₁ Bd hml0 hP hK
  obtain ⟨rfl, hZ, hh⟩ := hP
  have hx := Bd.exec
  have hby := Bd.bytes
  have hml : c.maxLocals = 1 := hml0
  have hown : s.vm.findClass "com/example/tiptoe/tiptoe/RelationKindHoldsDataPinLaw" = some m.cls := findClass_of_methodNamed Bd.named
  have hnm := (name_of_methodNamed Bd.named Bd.method).1
  have X0 : Stand p l e ({ frames := 0, cells := 0, slots := 0, locals := 0 } : Room) s m #[(.int pp)] below meth c s₁ [] 0 0 := Stand.of_body Bd
  have e0 : s₁.heap = h0 := by rw [← hh, Bd.state]; rfl
  have N0 := Fr.nil n0
  have pre0 : ∀ t, Steps p.tables e below (s₁.setTop (mkF m 0 #[.val (.int pp)] [])) t → Steps p.tables e below (s₁.setTop (entryFrame m #[(.int pp)] 1)) t := fun t k => castTop (ef_pick m pp) k
  have pre1 := fun (t : State) (k : Steps p.tables e below (s₁.setTop (mkF m 1 #[.val (.int pp)] [(.int pp)])) t) => pre0 t (by
    refine XS.iloadN X0.here hx rfl (hb hby d1_0) rfl ?_
    show Steps p.tables e below (s₁.setTop (mkF m 1 #[.val (.int pp)] [(.int pp)])) _
    exact k)
  by_cases hc2 : pp = (0 : Int32)
  · obtain ⟨T3, X3, e3, st3⟩ := getS2 X0 hx hZ hown (host := "") (Or.inl (hw _ (List.mem_of_getElem? (i := 5) rfl))) Via.refl e0 H0_S (g := (mkF m 4 #[.val (.int pp)] [])) rfl (hb hby d1_4)
    have pre4 := fun (t : State) (k : Steps p.tables e below (T3.setTop (mkF m 7 #[.val (.int pp)] [(.ref w0)])) t) => pre1 t (by
      refine XS.ifNo X0.here hx rfl (hb hby d1_1) rfl ((if0 _ _).trans (teq hc2).2) ?_
      show Steps p.tables e below (s₁.setTop (mkF m 4 #[.val (.int pp)] [])) _
      refine st3 _ ?_
      show Steps p.tables e below (T3.setTop (mkF m 7 #[.val (.int pp)] [(.ref w0)])) _
      exact k)
    obtain ⟨fs, hr, hrun, hended, hW, hsame⟩ := X3.leave (v := some (.ref w0)) (fun h => by rw [Bd.returns] at h; cases h)
    refine ⟨_, _, pre4 _ ?_, hrun, hended, _, _, rfl, ?_, ⟨_, rfl⟩, hW, hsame.mono (by decide) (by decide)⟩
    · jvm_step X3.here [X3.here.top, hx, (hb hby d1_7), X3.method', Bd.returns, Value.isRef, FieldType.isReference]
      first | (intro acts; rw [hr _ acts rfl rfl rfl]) | rw [hr _ _ rfl rfl rfl]
      exact Steps.refl _
    · show Q_pick Z pp w0 w1 w2 w3 w4 w5 w6 r h0 n0 _ T3.heap _
      rw [e3]
      exact ⟨(by first | rw [hr0 (by assumption)] | rw [hr1 (by assumption) (by assumption)] | rw [hr2 (by assumption) (by assumption) (by assumption)] | rw [hr3 (by assumption) (by assumption) (by assumption) (by assumption)] | rw [hr4 (by assumption) (by assumption) (by assumption) (by assumption) (by assumption)] | rw [hr5 (by assumption) (by assumption) (by assumption) (by assumption) (by assumption) (by assumption)] | rw [hr6 (by assumption) (by assumption) (by assumption) (by assumption) (by assumption) (by assumption)]), N0, rfl⟩
  · have pre5 := fun (t : State) (k : Steps p.tables e below (s₁.setTop (mkF m 10 #[.val (.int pp)] [(.int (1 : Int32)), (.int pp)])) t) => pre1 t (by
      refine XS.ifYes X0.here hx rfl (pc0 := 1) (pc' := 8) rfl (hb hby d1_1) rfl ((if0 _ _).trans (feq hc2).2) (by decide) (by decide) ?_
      show Steps p.tables e below (s₁.setTop (mkF m 8 #[.val (.int pp)] [])) _
      refine XS.iloadN X0.here hx rfl (hb hby d1_8) rfl ?_
      show Steps p.tables e below (s₁.setTop (mkF m 9 #[.val (.int pp)] [(.int pp)])) _
      refine XS.iconst X0.here hx rfl (hb hby d1_9) ?_
      show Steps p.tables e below (s₁.setTop (mkF m 10 #[.val (.int pp)] [(.int (1 : Int32)), (.int pp)])) _
      exact k)
    by_cases hc6 : pp = (1 : Int32)
    · obtain ⟨T7, X7, e7, st7⟩ := getS2 X0 hx hZ hown (host := "") (Or.inl (hw _ (List.mem_of_getElem? (i := 27) rfl))) Via.refl e0 H1_S (g := (mkF m 13 #[.val (.int pp)] [])) rfl (hb hby d1_13)
      have pre8 := fun (t : State) (k : Steps p.tables e below (T7.setTop (mkF m 16 #[.val (.int pp)] [(.ref w1)])) t) => pre5 t (by
        refine XS.icmpNo X0.here hx rfl (hb hby d1_10) rfl (teq hc6).2 ?_
        show Steps p.tables e below (s₁.setTop (mkF m 13 #[.val (.int pp)] [])) _
        refine st7 _ ?_
        show Steps p.tables e below (T7.setTop (mkF m 16 #[.val (.int pp)] [(.ref w1)])) _
        exact k)
      obtain ⟨fs, hr, hrun, hended, hW, hsame⟩ := X7.leave (v := some (.ref w1)) (fun h => by rw [Bd.returns] at h; cases h)
      refine ⟨_, _, pre8 _ ?_, hrun, hended, _, _, rfl, ?_, ⟨_, rfl⟩, hW, hsame.mono (by decide) (by decide)⟩
      · jvm_step X7.here [X7.here.top, hx, (hb hby d1_16), X7.method', Bd.returns, Value.isRef, FieldType.isReference]
        first | (intro acts; rw [hr _ acts rfl rfl rfl]) | rw [hr _ _ rfl rfl rfl]
        exact Steps.refl _
      · show Q_pick Z pp w0 w1 w2 w3 w4 w5 w6 r h0 n0 _ T7.heap _
        rw [e7]
        exact ⟨(by first | rw [hr0 (by assumption)] | rw [hr1 (by assumption) (by assumption)] | rw [hr2 (by assumption) (by assumption) (by assumption)] | rw [hr3 (by assumption) (by assumption) (by assumption) (by assumption)] | rw [hr4 (by assumption) (by assumption) (by assumption) (by assumption) (by assumption)] | rw [hr5 (by assumption) (by assumption) (by assumption) (by assumption) (by assumption) (by assumption)] | rw [hr6 (by assumption) (by assumption) (by assumption) (by assumption) (by assumption) (by assumption)]), N0, rfl⟩
    · have pre9 := fun (t : State) (k : Steps p.tables e below (s₁.setTop (mkF m 19 #[.val (.int pp)] [(.int (2 : Int32)), (.int pp)])) t) => pre5 t (by
        refine XS.icmpYes X0.here hx rfl (pc0 := 10) (pc' := 17) rfl (hb hby d1_10) rfl (feq hc6).2 (by decide) (by decide) ?_
        show Steps p.tables e below (s₁.setTop (mkF m 17 #[.val (.int pp)] [])) _
        refine XS.iloadN X0.here hx rfl (hb hby d1_17) rfl ?_
        show Steps p.tables e below (s₁.setTop (mkF m 18 #[.val (.int pp)] [(.int pp)])) _
        refine XS.iconst X0.here hx rfl (hb hby d1_18) ?_
        show Steps p.tables e below (s₁.setTop (mkF m 19 #[.val (.int pp)] [(.int (2 : Int32)), (.int pp)])) _
        exact k)
      by_cases hc10 : pp = (2 : Int32)
      · obtain ⟨T11, X11, e11, st11⟩ := getS2 X0 hx hZ hown (host := "") (Or.inl (hw _ (List.mem_of_getElem? (i := 26) rfl))) Via.refl e0 H2_S (g := (mkF m 22 #[.val (.int pp)] [])) rfl (hb hby d1_22)
        have pre12 := fun (t : State) (k : Steps p.tables e below (T11.setTop (mkF m 25 #[.val (.int pp)] [(.ref w2)])) t) => pre9 t (by
          refine XS.icmpNo X0.here hx rfl (hb hby d1_19) rfl (teq hc10).2 ?_
          show Steps p.tables e below (s₁.setTop (mkF m 22 #[.val (.int pp)] [])) _
          refine st11 _ ?_
          show Steps p.tables e below (T11.setTop (mkF m 25 #[.val (.int pp)] [(.ref w2)])) _
          exact k)
        obtain ⟨fs, hr, hrun, hended, hW, hsame⟩ := X11.leave (v := some (.ref w2)) (fun h => by rw [Bd.returns] at h; cases h)
        refine ⟨_, _, pre12 _ ?_, hrun, hended, _, _, rfl, ?_, ⟨_, rfl⟩, hW, hsame.mono (by decide) (by decide)⟩
        · jvm_step X11.here [X11.here.top, hx, (hb hby d1_25), X11.method', Bd.returns, Value.isRef, FieldType.isReference]
          first | (intro acts; rw [hr _ acts rfl rfl rfl]) | rw [hr _ _ rfl rfl rfl]
          exact Steps.refl _
        · show Q_pick Z pp w0 w1 w2 w3 w4 w5 w6 r h0 n0 _ T11.heap _
          rw [e11]
          exact ⟨(by first | rw [hr0 (by assumption)] | rw [hr1 (by assumption) (by assumption)] | rw [hr2 (by assumption) (by assumption) (by assumption)] | rw [hr3 (by assumption) (by assumption) (by assumption) (by assumption)] | rw [hr4 (by assumption) (by assumption) (by assumption) (by assumption) (by assumption)] | rw [hr5 (by assumption) (by assumption) (by assumption) (by assumption) (by assumption) (by assumption)] | rw [hr6 (by assumption) (by assumption) (by assumption) (by assumption) (by assumption) (by assumption)]), N0, rfl⟩
      · have pre13 := fun (t : State) (k : Steps p.tables e below (s₁.setTop (mkF m 28 #[.val (.int pp)] [(.int (3 : Int32)), (.int pp)])) t) => pre9 t (by
          refine XS.icmpYes X0.here hx rfl (pc0 := 19) (pc' := 26) rfl (hb hby d1_19) rfl (feq hc10).2 (by decide) (by decide) ?_
          show Steps p.tables e below (s₁.setTop (mkF m 26 #[.val (.int pp)] [])) _
          refine XS.iloadN X0.here hx rfl (hb hby d1_26) rfl ?_
          show Steps p.tables e below (s₁.setTop (mkF m 27 #[.val (.int pp)] [(.int pp)])) _
          refine XS.iconst X0.here hx rfl (hb hby d1_27) ?_
          show Steps p.tables e below (s₁.setTop (mkF m 28 #[.val (.int pp)] [(.int (3 : Int32)), (.int pp)])) _
          exact k)
        by_cases hc14 : pp = (3 : Int32)
        · obtain ⟨T15, X15, e15, st15⟩ := getS2 X0 hx hZ hown (host := "") (Or.inl (hw _ (List.mem_of_getElem? (i := 14) rfl))) Via.refl e0 H3_S (g := (mkF m 31 #[.val (.int pp)] [])) rfl (hb hby d1_31)
          have pre16 := fun (t : State) (k : Steps p.tables e below (T15.setTop (mkF m 34 #[.val (.int pp)] [(.ref w3)])) t) => pre13 t (by
            refine XS.icmpNo X0.here hx rfl (hb hby d1_28) rfl (teq hc14).2 ?_
            show Steps p.tables e below (s₁.setTop (mkF m 31 #[.val (.int pp)] [])) _
            refine st15 _ ?_
            show Steps p.tables e below (T15.setTop (mkF m 34 #[.val (.int pp)] [(.ref w3)])) _
            exact k)
          obtain ⟨fs, hr, hrun, hended, hW, hsame⟩ := X15.leave (v := some (.ref w3)) (fun h => by rw [Bd.returns] at h; cases h)
          refine ⟨_, _, pre16 _ ?_, hrun, hended, _, _, rfl, ?_, ⟨_, rfl⟩, hW, hsame.mono (by decide) (by decide)⟩
          · jvm_step X15.here [X15.here.top, hx, (hb hby d1_34), X15.method', Bd.returns, Value.isRef, FieldType.isReference]
            first | (intro acts; rw [hr _ acts rfl rfl rfl]) | rw [hr _ _ rfl rfl rfl]
            exact Steps.refl _
          · show Q_pick Z pp w0 w1 w2 w3 w4 w5 w6 r h0 n0 _ T15.heap _
            rw [e15]
            exact ⟨(by first | rw [hr0 (by assumption)] | rw [hr1 (by assumption) (by assumption)] | rw [hr2 (by assumption) (by assumption) (by assumption)] | rw [hr3 (by assumption) (by assumption) (by assumption) (by assumption)] | rw [hr4 (by assumption) (by assumption) (by assumption) (by assumption) (by assumption)] | rw [hr5 (by assumption) (by assumption) (by assumption) (by assumption) (by assumption) (by assumption)] | rw [hr6 (by assumption) (by assumption) (by assumption) (by assumption) (by assumption) (by assumption)]), N0, rfl⟩
        · have pre17 := fun (t : State) (k : Steps p.tables e below (s₁.setTop (mkF m 37 #[.val (.int pp)] [(.int (4 : Int32)), (.int pp)])) t) => pre13 t (by
            refine XS.icmpYes X0.here hx rfl (pc0 := 28) (pc' := 35) rfl (hb hby d1_28) rfl (feq hc14).2 (by decide) (by decide) ?_
            show Steps p.tables e below (s₁.setTop (mkF m 35 #[.val (.int pp)] [])) _
            refine XS.iloadN X0.here hx rfl (hb hby d1_35) rfl ?_
            show Steps p.tables e below (s₁.setTop (mkF m 36 #[.val (.int pp)] [(.int pp)])) _
            refine XS.iconst X0.here hx rfl (hb hby d1_36) ?_
            show Steps p.tables e below (s₁.setTop (mkF m 37 #[.val (.int pp)] [(.int (4 : Int32)), (.int pp)])) _
            exact k)
          by_cases hc18 : pp = (4 : Int32)
          · obtain ⟨T19, X19, e19, st19⟩ := getS2 X0 hx hZ hown (host := "") (Or.inl (hw _ (List.mem_of_getElem? (i := 24) rfl))) Via.refl e0 H4_S (g := (mkF m 40 #[.val (.int pp)] [])) rfl (hb hby d1_40)
            have pre20 := fun (t : State) (k : Steps p.tables e below (T19.setTop (mkF m 43 #[.val (.int pp)] [(.ref w4)])) t) => pre17 t (by
              refine XS.icmpNo X0.here hx rfl (hb hby d1_37) rfl (teq hc18).2 ?_
              show Steps p.tables e below (s₁.setTop (mkF m 40 #[.val (.int pp)] [])) _
              refine st19 _ ?_
              show Steps p.tables e below (T19.setTop (mkF m 43 #[.val (.int pp)] [(.ref w4)])) _
              exact k)
            obtain ⟨fs, hr, hrun, hended, hW, hsame⟩ := X19.leave (v := some (.ref w4)) (fun h => by rw [Bd.returns] at h; cases h)
            refine ⟨_, _, pre20 _ ?_, hrun, hended, _, _, rfl, ?_, ⟨_, rfl⟩, hW, hsame.mono (by decide) (by decide)⟩
            · jvm_step X19.here [X19.here.top, hx, (hb hby d1_43), X19.method', Bd.returns, Value.isRef, FieldType.isReference]
              first | (intro acts; rw [hr _ acts rfl rfl rfl]) | rw [hr _ _ rfl rfl rfl]
              exact Steps.refl _
            · show Q_pick Z pp w0 w1 w2 w3 w4 w5 w6 r h0 n0 _ T19.heap _
              rw [e19]
              exact ⟨(by first | rw [hr0 (by assumption)] | rw [hr1 (by assumption) (by assumption)] | rw [hr2 (by assumption) (by assumption) (by assumption)] | rw [hr3 (by assumption) (by assumption) (by assumption) (by assumption)] | rw [hr4 (by assumption) (by assumption) (by assumption) (by assumption) (by assumption)] | rw [hr5 (by assumption) (by assumption) (by assumption) (by assumption) (by assumption) (by assumption)] | rw [hr6 (by assumption) (by assumption) (by assumption) (by assumption) (by assumption) (by assumption)]), N0, rfl⟩
          · have pre21 := fun (t : State) (k : Steps p.tables e below (s₁.setTop (mkF m 46 #[.val (.int pp)] [(.int (5 : Int32)), (.int pp)])) t) => pre17 t (by
              refine XS.icmpYes X0.here hx rfl (pc0 := 37) (pc' := 44) rfl (hb hby d1_37) rfl (feq hc18).2 (by decide) (by decide) ?_
              show Steps p.tables e below (s₁.setTop (mkF m 44 #[.val (.int pp)] [])) _
              refine XS.iloadN X0.here hx rfl (hb hby d1_44) rfl ?_
              show Steps p.tables e below (s₁.setTop (mkF m 45 #[.val (.int pp)] [(.int pp)])) _
              refine XS.iconst X0.here hx rfl (hb hby d1_45) ?_
              show Steps p.tables e below (s₁.setTop (mkF m 46 #[.val (.int pp)] [(.int (5 : Int32)), (.int pp)])) _
              exact k)
            by_cases hc22 : pp = (5 : Int32)
            · obtain ⟨T23, X23, e23, st23⟩ := getS2 X0 hx hZ hown (host := "") (Or.inl (hw _ (List.mem_of_getElem? (i := 20) rfl))) Via.refl e0 H5_S (g := (mkF m 49 #[.val (.int pp)] [])) rfl (hb hby d1_49)
              have pre24 := fun (t : State) (k : Steps p.tables e below (T23.setTop (mkF m 52 #[.val (.int pp)] [(.ref w5)])) t) => pre21 t (by
                refine XS.icmpNo X0.here hx rfl (hb hby d1_46) rfl (teq hc22).2 ?_
                show Steps p.tables e below (s₁.setTop (mkF m 49 #[.val (.int pp)] [])) _
                refine st23 _ ?_
                show Steps p.tables e below (T23.setTop (mkF m 52 #[.val (.int pp)] [(.ref w5)])) _
                exact k)
              obtain ⟨fs, hr, hrun, hended, hW, hsame⟩ := X23.leave (v := some (.ref w5)) (fun h => by rw [Bd.returns] at h; cases h)
              refine ⟨_, _, pre24 _ ?_, hrun, hended, _, _, rfl, ?_, ⟨_, rfl⟩, hW, hsame.mono (by decide) (by decide)⟩
              · jvm_step X23.here [X23.here.top, hx, (hb hby d1_52), X23.method', Bd.returns, Value.isRef, FieldType.isReference]
                first | (intro acts; rw [hr _ acts rfl rfl rfl]) | rw [hr _ _ rfl rfl rfl]
                exact Steps.refl _
              · show Q_pick Z pp w0 w1 w2 w3 w4 w5 w6 r h0 n0 _ T23.heap _
                rw [e23]
                exact ⟨(by first | rw [hr0 (by assumption)] | rw [hr1 (by assumption) (by assumption)] | rw [hr2 (by assumption) (by assumption) (by assumption)] | rw [hr3 (by assumption) (by assumption) (by assumption) (by assumption)] | rw [hr4 (by assumption) (by assumption) (by assumption) (by assumption) (by assumption)] | rw [hr5 (by assumption) (by assumption) (by assumption) (by assumption) (by assumption) (by assumption)] | rw [hr6 (by assumption) (by assumption) (by assumption) (by assumption) (by assumption) (by assumption)]), N0, rfl⟩
            · obtain ⟨T25, X25, e25, st25⟩ := getS2 X0 hx hZ hown (host := "") (Or.inl (hw _ (List.mem_of_getElem? (i := 22) rfl))) Via.refl e0 H6_S (g := (mkF m 53 #[.val (.int pp)] [])) rfl (hb hby d1_53)
              have pre26 := fun (t : State) (k : Steps p.tables e below (T25.setTop (mkF m 56 #[.val (.int pp)] [(.ref w6)])) t) => pre21 t (by
                refine XS.icmpYes X0.here hx rfl (pc0 := 46) (pc' := 53) rfl (hb hby d1_46) rfl (feq hc22).2 (by decide) (by decide) ?_
                show Steps p.tables e below (s₁.setTop (mkF m 53 #[.val (.int pp)] [])) _
                refine st25 _ ?_
                show Steps p.tables e below (T25.setTop (mkF m 56 #[.val (.int pp)] [(.ref w6)])) _
                exact k)
              obtain ⟨fs, hr, hrun, hended, hW, hsame⟩ := X25.leave (v := some (.ref w6)) (fun h => by rw [Bd.returns] at h; cases h)
              refine ⟨_, _, pre26 _ ?_, hrun, hended, _, _, rfl, ?_, ⟨_, rfl⟩, hW, hsame.mono (by decide) (by decide)⟩
              · jvm_step X25.here [X25.here.top, hx, (hb hby d1_56), X25.method', Bd.returns, Value.isRef, FieldType.isReference]
                first | (intro acts; rw [hr _ acts rfl rfl rfl]) | rw [hr _ _ rfl rfl rfl]
                exact Steps.refl _
              · show Q_pick Z pp w0 w1 w2 w3 w4 w5 w6 r h0 n0 _ T25.heap _
                rw [e25]
                exact ⟨(by first | rw [hr0 (by assumption)] | rw [hr1 (by assumption) (by assumption)] | rw [hr2 (by assumption) (by assumption) (by assumption)] | rw [hr3 (by assumption) (by assumption) (by assumption) (by assumption)] | rw [hr4 (by assumption) (by assumption) (by assumption) (by assumption) (by assumption)] | rw [hr5 (by assumption) (by assumption) (by assumption) (by assumption) (by assumption) (by assumption)] | rw [hr6 (by assumption) (by assumption) (by assumption) (by assumption) (by assumption) (by assumption)]), N0, rfl⟩

theorem ef_hold (m : MethodId) (x0 : Addr) : entryFrame m #[(.ref x0)] 1 = mkF m 0 #[.val (.ref x0)] [] := by first | (simp [entryFrame, mkF, argsToLocals, Value.category]; done) | rfl
def Q_hold (Z : State) (a : Addr) (w0 : Addr) (w1 : Addr) (w2 : Addr) (r : Int32) (h0 : Heap) (n0 : Nat) (v : Option Value) (h : Heap) (L : List Loc) : Prop := v = some (.int r) ∧ Fr n0 L ∧ h = h0
set_option maxRecDepth 65536 in
set_option maxHeartbeats 40000000 in
theorem rm_hold (l : Launch) (Z : State) (a0 : Array Value) (hw : ∀ d ∈ tables_1, d.before a0 Z = true) (ws : List Jvm.Cond) (a : Addr) (w0 : Addr) (w1 : Addr) (w2 : Addr) (r : Int32) (h0 : Heap) (n0 : Nat) (Z0 : n0 ≤ h0.size) (H0_S : Sta Z h0 "com/example/tiptoe/tiptoe/RelationKind" "TABLE" "Lcom/example/tiptoe/tiptoe/RelationKind;" (.ref w0)) (H1_S : Sta Z h0 "com/example/tiptoe/tiptoe/RelationKind" "PARTITIONED_TABLE" "Lcom/example/tiptoe/tiptoe/RelationKind;" (.ref w1)) (H2_S : Sta Z h0 "com/example/tiptoe/tiptoe/RelationKind" "MATERIALIZED_VIEW" "Lcom/example/tiptoe/tiptoe/RelationKind;" (.ref w2)) (hr0 : a = w0 → r = (1 : Int32)) (hr1 : ¬ a = w0 → a = w1 → r = (1 : Int32)) (hr2 : ¬ a = w0 → ¬ a = w1 → a = w2 → r = (1 : Int32)) (hr3 : ¬ a = w0 → ¬ a = w1 → ¬ a = w2 → r = (0 : Int32)) :
    MetFree l (⟨"com/example/tiptoe/tiptoe/RelationKind", "holdsData", "()Z"⟩ : MethodName) (head1 (Jvm.Cond.code (⟨"com/example/tiptoe/tiptoe/RelationKind", "holdsData", "()Z"⟩ : MethodName) prog_45_method_5_code 1 (some .boolean) :: ws) ({ frames := 0, cells := 0, slots := 0, locals := 0 } : Room)) (fun as_ U_ => as_ = #[(.ref a)] ∧ Z.Warmed39 U_.vm ∧ U_.heap = h0) (fun _ _ _ _ _ => True) (fun _ U o U' => ∃ v L, o = .returned v ∧ Q_hold Z a w0 w1 w2 r h0 n0 v U'.heap L ∧ FrameEnd U o U' L ({ frames := 0, cells := 0, slots := 0, locals := 0 } : Room).cells ({ frames := 0, cells := 0, slots := 0, locals := 0 } : Room).slots) := by
  refine MetFree.of_bodySF (plainFor_of_name pn_1) hisR ?_
  intro p e s m args below meth c s₁ Bd hml0 hP hK
  obtain ⟨rfl, hZ, hh⟩ := hP
  have hx := Bd.exec
  have hby := Bd.bytes
  have hml : c.maxLocals = 1 := hml0
  have hown : s.vm.findClass "com/example/tiptoe/tiptoe/RelationKind" = some m.cls := findClass_of_methodNamed Bd.named
  have hnm := (name_of_methodNamed Bd.named Bd.method).1
  have X0 : Stand p l e ({ frames := 0, cells := 0, slots := 0, locals := 0 } : Room) s m #[(.ref a)] below meth c s₁ [] 0 0 := Stand.of_body Bd
  have e0 : s₁.heap = h0 := by rw [← hh, Bd.state]; rfl
  have N0 := Fr.nil n0
  have pre0 : ∀ t, Steps p.tables e below (s₁.setTop (mkF m 0 #[.val (.ref a)] [])) t → Steps p.tables e below (s₁.setTop (entryFrame m #[(.ref a)] 1)) t := fun t k => castTop (ef_hold m a) k
  obtain ⟨T1, X1, e1, st1⟩ := getS2 X0 hx hZ hown (host := "") (Or.inl (hw _ (List.mem_of_getElem? (i := 13) rfl))) Via.refl e0 H0_S (g := (mkF m 1 #[.val (.ref a)] [(.ref a)])) rfl (hb hby d2_1)
  have pre2 := fun (t : State) (k : Steps p.tables e below (T1.setTop (mkF m 4 #[.val (.ref a)] [(.ref w0), (.ref a)])) t) => pre0 t (by
    refine XS.aloadN X0.here hx rfl (hb hby d2_0) rfl rfl ?_
    show Steps p.tables e below (s₁.setTop (mkF m 1 #[.val (.ref a)] [(.ref a)])) _
    refine st1 _ ?_
    show Steps p.tables e below (T1.setTop (mkF m 4 #[.val (.ref a)] [(.ref w0), (.ref a)])) _
    exact k)
  by_cases hc3 : a = w0
  · have pre4 := fun (t : State) (k : Steps p.tables e below (T1.setTop (mkF m 26 #[.val (.ref a)] [(.int (1 : Int32))])) t) => pre2 t (by
      refine Jvm.RoadKit.acmp (g := (mkF m 4 #[.val (.ref a)] [(.ref w0), (.ref a)])) X1 hx rfl rfl rfl (pc0 := 4) (pc' := 21) (same := true) rfl (hb hby d2_4) rfl (decide_eq_true (congrArg Value.ref hc3)) (by decide) (by decide) ?_
      show Steps p.tables e below (T1.setTop (mkF m 21 #[.val (.ref a)] [])) _
      refine XS.iconst X1.here hx rfl (hb hby d2_21) ?_
      show Steps p.tables e below (T1.setTop (mkF m 22 #[.val (.ref a)] [(.int (1 : Int32))])) _
      refine XS.goto X1.here hx rfl (pc0 := 22) (pc' := 26) rfl (hb hby d2_22) (by decide) (by decide) ?_
      show Steps p.tables e below (T1.setTop (mkF m 26 #[.val (.ref a)] [(.int (1 : Int32))])) _
      exact k)
    obtain ⟨fs, hr, hrun, hended, hW, hsame⟩ := X1.leave (v := some (.int (1 : Int32))) (fun h => by rw [Bd.returns] at h; cases h)
    refine ⟨_, _, pre4 _ ?_, hrun, hended, _, _, rfl, ?_, ⟨_, rfl⟩, hW, hsame.mono (by decide) (by decide)⟩
    · exact retN X1 hx (t := .boolean) Bd.returns (by simp) (hb hby d2_26) hr
    · show Q_hold Z a w0 w1 w2 r h0 n0 _ T1.heap _
      rw [e1]
      exact ⟨(by first | rw [hr0 (by assumption)] | rw [hr1 (by assumption) (by assumption)] | rw [hr2 (by assumption) (by assumption) (by assumption)] | rw [hr3 (by assumption) (by assumption) (by assumption)]), N0, rfl⟩
  · obtain ⟨T5, X5, e5, st5⟩ := getS2 X1 hx hZ hown (host := "") (Or.inl (hw _ (List.mem_of_getElem? (i := 16) rfl))) Via.refl e1 H1_S (g := (mkF m 8 #[.val (.ref a)] [(.ref a)])) rfl (hb hby d2_8)
    have pre6 := fun (t : State) (k : Steps p.tables e below (T5.setTop (mkF m 11 #[.val (.ref a)] [(.ref w1), (.ref a)])) t) => pre2 t (by
      refine Jvm.RoadKit.acmp (g := (mkF m 4 #[.val (.ref a)] [(.ref w0), (.ref a)])) X1 hx rfl rfl rfl (pc0 := 4) (pc' := 7) (same := false) rfl (hb hby d2_4) rfl (decide_eq_false fun q => hc3 (Value.ref.inj q)) (by decide) (by decide) ?_
      show Steps p.tables e below (T1.setTop (mkF m 7 #[.val (.ref a)] [])) _
      refine XS.aloadN X1.here hx rfl (hb hby d2_7) rfl rfl ?_
      show Steps p.tables e below (T1.setTop (mkF m 8 #[.val (.ref a)] [(.ref a)])) _
      refine st5 _ ?_
      show Steps p.tables e below (T5.setTop (mkF m 11 #[.val (.ref a)] [(.ref w1), (.ref a)])) _
      exact k)
    by_cases hc7 : a = w1
    · have pre8 := fun (t : State) (k : Steps p.tables e below (T5.setTop (mkF m 26 #[.val (.ref a)] [(.int (1 : Int32))])) t) => pre6 t (by
        refine Jvm.RoadKit.acmp (g := (mkF m 11 #[.val (.ref a)] [(.ref w1), (.ref a)])) X5 hx rfl rfl rfl (pc0 := 11) (pc' := 21) (same := true) rfl (hb hby d2_11) rfl (decide_eq_true (congrArg Value.ref hc7)) (by decide) (by decide) ?_
        show Steps p.tables e below (T5.setTop (mkF m 21 #[.val (.ref a)] [])) _
        refine XS.iconst X5.here hx rfl (hb hby d2_21) ?_
        show Steps p.tables e below (T5.setTop (mkF m 22 #[.val (.ref a)] [(.int (1 : Int32))])) _
        refine XS.goto X5.here hx rfl (pc0 := 22) (pc' := 26) rfl (hb hby d2_22) (by decide) (by decide) ?_
        show Steps p.tables e below (T5.setTop (mkF m 26 #[.val (.ref a)] [(.int (1 : Int32))])) _
        exact k)
      obtain ⟨fs, hr, hrun, hended, hW, hsame⟩ := X5.leave (v := some (.int (1 : Int32))) (fun h => by rw [Bd.returns] at h; cases h)
      refine ⟨_, _, pre8 _ ?_, hrun, hended, _, _, rfl, ?_, ⟨_, rfl⟩, hW, hsame.mono (by decide) (by decide)⟩
      · exact retN X5 hx (t := .boolean) Bd.returns (by simp) (hb hby d2_26) hr
      · show Q_hold Z a w0 w1 w2 r h0 n0 _ T5.heap _
        rw [e5]
        exact ⟨(by first | rw [hr0 (by assumption)] | rw [hr1 (by assumption) (by assumption)] | rw [hr2 (by assumption) (by assumption) (by assumption)] | rw [hr3 (by assumption) (by assumption) (by assumption)]), N0, rfl⟩
    · obtain ⟨T9, X9, e9, st9⟩ := getS2 X5 hx hZ hown (host := "") (Or.inl (hw _ (List.mem_of_getElem? (i := 18) rfl))) Via.refl e5 H2_S (g := (mkF m 15 #[.val (.ref a)] [(.ref a)])) rfl (hb hby d2_15)
      have pre10 := fun (t : State) (k : Steps p.tables e below (T9.setTop (mkF m 18 #[.val (.ref a)] [(.ref w2), (.ref a)])) t) => pre6 t (by
        refine Jvm.RoadKit.acmp (g := (mkF m 11 #[.val (.ref a)] [(.ref w1), (.ref a)])) X5 hx rfl rfl rfl (pc0 := 11) (pc' := 14) (same := false) rfl (hb hby d2_11) rfl (decide_eq_false fun q => hc7 (Value.ref.inj q)) (by decide) (by decide) ?_
        show Steps p.tables e below (T5.setTop (mkF m 14 #[.val (.ref a)] [])) _
        refine XS.aloadN X5.here hx rfl (hb hby d2_14) rfl rfl ?_
        show Steps p.tables e below (T5.setTop (mkF m 15 #[.val (.ref a)] [(.ref a)])) _
        refine st9 _ ?_
        show Steps p.tables e below (T9.setTop (mkF m 18 #[.val (.ref a)] [(.ref w2), (.ref a)])) _
        exact k)
      by_cases hc11 : a = w2
      · have pre12 := fun (t : State) (k : Steps p.tables e below (T9.setTop (mkF m 26 #[.val (.ref a)] [(.int (1 : Int32))])) t) => pre10 t (by
          refine Jvm.RoadKit.acmp (g := (mkF m 18 #[.val (.ref a)] [(.ref w2), (.ref a)])) X9 hx rfl rfl rfl (pc0 := 18) (pc' := 21) (same := true) rfl (hb hby d2_18) rfl (decide_eq_true (congrArg Value.ref hc11)) (by decide) (by decide) ?_
          show Steps p.tables e below (T9.setTop (mkF m 21 #[.val (.ref a)] [])) _
          refine XS.iconst X9.here hx rfl (hb hby d2_21) ?_
          show Steps p.tables e below (T9.setTop (mkF m 22 #[.val (.ref a)] [(.int (1 : Int32))])) _
          refine XS.goto X9.here hx rfl (pc0 := 22) (pc' := 26) rfl (hb hby d2_22) (by decide) (by decide) ?_
          show Steps p.tables e below (T9.setTop (mkF m 26 #[.val (.ref a)] [(.int (1 : Int32))])) _
          exact k)
        obtain ⟨fs, hr, hrun, hended, hW, hsame⟩ := X9.leave (v := some (.int (1 : Int32))) (fun h => by rw [Bd.returns] at h; cases h)
        refine ⟨_, _, pre12 _ ?_, hrun, hended, _, _, rfl, ?_, ⟨_, rfl⟩, hW, hsame.mono (by decide) (by decide)⟩
        · exact retN X9 hx (t := .boolean) Bd.returns (by simp) (hb hby d2_26) hr
        · show Q_hold Z a w0 w1 w2 r h0 n0 _ T9.heap _
          rw [e9]
          exact ⟨(by first | rw [hr0 (by assumption)] | rw [hr1 (by assumption) (by assumption)] | rw [hr2 (by assumption) (by assumption) (by assumption)] | rw [hr3 (by assumption) (by assumption) (by assumption)]), N0, rfl⟩
      · have pre13 := fun (t : State) (k : Steps p.tables e below (T9.setTop (mkF m 26 #[.val (.ref a)] [(.int (0 : Int32))])) t) => pre10 t (by
          refine Jvm.RoadKit.acmp (g := (mkF m 18 #[.val (.ref a)] [(.ref w2), (.ref a)])) X9 hx rfl rfl rfl (pc0 := 18) (pc' := 25) (same := false) rfl (hb hby d2_18) rfl (decide_eq_false fun q => hc11 (Value.ref.inj q)) (by decide) (by decide) ?_
          show Steps p.tables e below (T9.setTop (mkF m 25 #[.val (.ref a)] [])) _
          refine XS.iconst X9.here hx rfl (hb hby d2_25) ?_
          show Steps p.tables e below (T9.setTop (mkF m 26 #[.val (.ref a)] [(.int (0 : Int32))])) _
          exact k)
        obtain ⟨fs, hr, hrun, hended, hW, hsame⟩ := X9.leave (v := some (.int (0 : Int32))) (fun h => by rw [Bd.returns] at h; cases h)
        refine ⟨_, _, pre13 _ ?_, hrun, hended, _, _, rfl, ?_, ⟨_, rfl⟩, hW, hsame.mono (by decide) (by decide)⟩
        · exact retN X9 hx (t := .boolean) Bd.returns (by simp) (hb hby d2_26) hr
        · show Q_hold Z a w0 w1 w2 r h0 n0 _ T9.heap _
          rw [e9]
          exact ⟨(by first | rw [hr0 (by assumption)] | rw [hr1 (by assumption) (by assumption)] | rw [hr2 (by assumption) (by assumption) (by assumption)] | rw [hr3 (by assumption) (by assumption) (by assumption)]), N0, rfl⟩

theorem ef_law (m : MethodId) (x0 : Int32) : entryFrame m #[(.int x0)] maxLocals = mkF m 0 #[.val (.int x0), .unset, .unset, .unset] [] := by first | (simp [entryFrame, mkF, argsToLocals, Value.category, maxLocals]; done) | rfl
def Q_law (Z : State) (p1 : Int32) (w0 : Addr) (w1 : Addr) (w2 : Addr) (w3 : Addr) (w4 : Addr) (w5 : Addr) (w6 : Addr) (h0 : Heap) (n0 : Nat) (v : Option Value) (h : Heap) (L : List Loc) : Prop := v = some (.int (1 : Int32)) ∧ Fr n0 L ∧ h = h0
set_option maxRecDepth 65536 in
set_option maxHeartbeats 40000000 in
theorem rm_law (l : Launch) (Z : State) (a0 : Array Value) (hw : ∀ d ∈ tables_1, d.before a0 Z = true) (ws : List Jvm.Cond) (p1 : Int32) (w0 : Addr) (w1 : Addr) (w2 : Addr) (w3 : Addr) (w4 : Addr) (w5 : Addr) (w6 : Addr) (h0 : Heap) (n0 : Nat) (Z0 : n0 ≤ h0.size) (H0_S : Sta Z h0 "com/example/tiptoe/tiptoe/RelationKind" "TABLE" "Lcom/example/tiptoe/tiptoe/RelationKind;" (.ref w0)) (H1_S : Sta Z h0 "com/example/tiptoe/tiptoe/RelationKind" "PARTITIONED_TABLE" "Lcom/example/tiptoe/tiptoe/RelationKind;" (.ref w1)) (H2_S : Sta Z h0 "com/example/tiptoe/tiptoe/RelationKind" "MATERIALIZED_VIEW" "Lcom/example/tiptoe/tiptoe/RelationKind;" (.ref w2)) (H3_S : Sta Z h0 "com/example/tiptoe/tiptoe/RelationKind" "VIEW" "Lcom/example/tiptoe/tiptoe/RelationKind;" (.ref w3)) (H4_S : Sta Z h0 "com/example/tiptoe/tiptoe/RelationKind" "SEQUENCE" "Lcom/example/tiptoe/tiptoe/RelationKind;" (.ref w4)) (H5_S : Sta Z h0 "com/example/tiptoe/tiptoe/RelationKind" "INDEX" "Lcom/example/tiptoe/tiptoe/RelationKind;" (.ref w5)) (H6_S : Sta Z h0 "com/example/tiptoe/tiptoe/RelationKind" "OTHER" "Lcom/example/tiptoe/tiptoe/RelationKind;" (.ref w6)) (H7_E : Exa Z h0 w0 "com/example/tiptoe/tiptoe/RelationKind") (H8_E : Exa Z h0 w1 "com/example/tiptoe/tiptoe/RelationKind") (H9_E : Exa Z h0 w2 "com/example/tiptoe/tiptoe/RelationKind") (H10_E : Exa Z h0 w3 "com/example/tiptoe/tiptoe/RelationKind") (H11_E : Exa Z h0 w4 "com/example/tiptoe/tiptoe/RelationKind") (H12_E : Exa Z h0 w5 "com/example/tiptoe/tiptoe/RelationKind") (H13_E : Exa Z h0 w6 "com/example/tiptoe/tiptoe/RelationKind") (hne_w1_w0 : w1 ≠ w0) (hne_w2_w0 : w2 ≠ w0) (hne_w3_w0 : w3 ≠ w0) (hne_w4_w0 : w4 ≠ w0) (hne_w5_w0 : w5 ≠ w0) (hne_w6_w0 : w6 ≠ w0) (hne_w2_w1 : w2 ≠ w1) (hne_w3_w1 : w3 ≠ w1) (hne_w4_w1 : w4 ≠ w1) (hne_w5_w1 : w5 ≠ w1) (hne_w6_w1 : w6 ≠ w1) (hne_w3_w2 : w3 ≠ w2) (hne_w4_w2 : w4 ≠ w2) (hne_w5_w2 : w5 ≠ w2) (hne_w6_w2 : w6 ≠ w2) :
    MetFree l x (head1 (Jvm.Cond.code x code maxLocals ret :: ws) room_1) (fun as_ U_ => as_ = #[(.int p1)] ∧ Z.Warmed39 U_.vm ∧ U_.heap = h0) (fun _ _ _ _ _ => True) (fun _ U o U' => ∃ v L, o = .returned v ∧ Q_law Z p1 w0 w1 w2 w3 w4 w5 w6 h0 n0 v U'.heap L ∧ FrameEnd U o U' L 0 0) := by
  refine MetFree.of_bodySF (plainFor_of_name pn_0) hisR ?_
  intro p e s m args below meth c s₁ Bd hml0 hP hK
  obtain ⟨rfl, hZ, hh⟩ := hP
  have hx := Bd.exec
  have hby := Bd.bytes
  have hml : c.maxLocals = 4 := hml0
  have hown : s.vm.findClass "com/example/tiptoe/tiptoe/RelationKindHoldsDataPinLaw" = some m.cls := findClass_of_methodNamed Bd.named
  have hnm := (name_of_methodNamed Bd.named Bd.method).1
  have X0 : Stand p l e room_1 s m #[(.int p1)] below meth c s₁ [] 0 0 := Stand.of_body Bd
  have e0 : s₁.heap = h0 := by rw [← hh, Bd.state]; rfl
  have N0 := Fr.nil n0
  have pre0 : ∀ t, Steps p.tables e below (s₁.setTop (mkF m 0 #[.val (.int p1), .unset, .unset, .unset] [])) t → Steps p.tables e below (s₁.setTop (entryFrame m #[(.int p1)] maxLocals)) t := fun t k => castTop (ef_law m p1) k
  have pre1 := fun (t : State) (k : Steps p.tables e below (s₁.setTop (mkF m 9 #[.val (.int p1), .val (.int (own_irem (p1 &&& (2147483647 : Int32)) (7 : Int32))), .unset, .unset] [(.int (own_irem (p1 &&& (2147483647 : Int32)) (7 : Int32)))])) t) => pre0 t (by
    refine XS.iloadN X0.here hx rfl (hb hby at_0) rfl ?_
    show Steps p.tables e below (s₁.setTop (mkF m 1 #[.val (.int p1), .unset, .unset, .unset] [(.int p1)])) _
    refine X0.ldcInt hx hown (mvT hZ (hw _ (List.mem_of_getElem? (i := 0) rfl))) (g := (mkF m 1 #[.val (.int p1), .unset, .unset, .unset] [(.int p1)])) rfl (hb hby at_1) _ ?_
    show Steps p.tables e below (s₁.setTop (mkF m 3 #[.val (.int p1), .unset, .unset, .unset] [(.int (2147483647 : Int32)), (.int p1)])) _
    refine XS.iand X0.here hx rfl (hb hby at_3) rfl ?_
    show Steps p.tables e below (s₁.setTop (mkF m 4 #[.val (.int p1), .unset, .unset, .unset] [(.int (p1 &&& (2147483647 : Int32)))])) _
    refine XS.bipush X0.here hx rfl (hb hby at_4) ?_
    show Steps p.tables e below (s₁.setTop (mkF m 6 #[.val (.int p1), .unset, .unset, .unset] [(.int (7 : Int32)), (.int (p1 &&& (2147483647 : Int32)))])) _
    refine XS.irem X0.here hx rfl (hb hby at_6) rfl (by decide) ?_
    show Steps p.tables e below (s₁.setTop (mkF m 7 #[.val (.int p1), .unset, .unset, .unset] [(.int (own_irem (p1 &&& (2147483647 : Int32)) (7 : Int32)))])) _
    refine XS.istoreN X0.here hx rfl (hb hby at_7) rfl (l' := #[.val (.int p1), .val (.int (own_irem (p1 &&& (2147483647 : Int32)) (7 : Int32))), .unset, .unset]) rfl ?_
    show Steps p.tables e below (s₁.setTop (mkF m 8 #[.val (.int p1), .val (.int (own_irem (p1 &&& (2147483647 : Int32)) (7 : Int32))), .unset, .unset] [])) _
    refine XS.iloadN X0.here hx rfl (hb hby at_8) rfl ?_
    show Steps p.tables e below (s₁.setTop (mkF m 9 #[.val (.int p1), .val (.int (own_irem (p1 &&& (2147483647 : Int32)) (7 : Int32))), .unset, .unset] [(.int (own_irem (p1 &&& (2147483647 : Int32)) (7 : Int32)))])) _
    exact k)
  by_cases hs2 : (own_irem (p1 &&& (2147483647 : Int32)) (7 : Int32)) = (0 : Int32)
  · obtain ⟨_, _, ⟨T3, L3, k3, n3⟩, -, X3, ⟨Lc3, hQ3, l3, y3, z3⟩, st3⟩ := Jvm.LawKit.callS X0 hx (y := (⟨"com/example/tiptoe/tiptoe/RelationKindHoldsDataPinLaw", "pick", "(I)Lcom/example/tiptoe/tiptoe/RelationKind;"⟩ : MethodName)) hown (mvT hZ (hw _ (List.mem_of_getElem? (i := 1) rfl))) (mvT hZ (hw _ (List.mem_of_getElem? (i := 2) rfl))) (mvT hZ (hw _ (List.mem_of_getElem? (i := 3) rfl))) (mvT hZ (hw _ (List.mem_of_getElem? (i := 4) rfl))) (by decide) (backOf (W := 0) (rm_pick l Z a0 hw [] (own_irem (p1 &&& (2147483647 : Int32)) (7 : Int32)) w0 w1 w2 w3 w4 w5 w6 w0 h0 n0 Z0 H0_S H1_S H2_S H3_S H4_S H5_S H6_S (fun _ => rfl) (fun q _ => absurd hs2 q) (fun q _ _ => absurd hs2 q) (fun q _ _ _ => absurd hs2 q) (fun q _ _ _ _ => absurd hs2 q) (fun q _ _ _ _ _ => absurd hs2 q) (fun q _ _ _ _ _ => absurd hs2 q)) hZ (hw _ (List.mem_of_getElem? (i := 4) rfl)) (hw _ (List.mem_of_getElem? (i := 3) rfl)) (by decide) (by decide)) (g := (mkF m 9 #[.val (.int p1), .val (.int (own_irem (p1 &&& (2147483647 : Int32)) (7 : Int32))), .unset, .unset] [(.int (own_irem (p1 &&& (2147483647 : Int32)) (7 : Int32)))])) rfl (by rw [hml]; rfl) (argsL := [(.int (own_irem (p1 &&& (2147483647 : Int32)) (7 : Int32)))]) (rest := []) (lenOf pd_0 rfl) rfl (by show 2 * 0 + _ ≤ _; exact Nat.le_of_eq rfl) (hb hby at_9) (fun _ _ => ⟨rfl, e0, (by decide : 0 + 0 ≤ _), (by decide : 0 + 0 ≤ _)⟩)
    dsimp only [Pt.U, Pt.locs, Pt.cells, Pt.slots] at X3 l3 y3 z3 st3 hQ3
    subst l3 y3 z3
    obtain ⟨rfl, N3q, hq4⟩ := hQ3
    have N3 := Fr.app N0 N3q
    obtain ⟨cq5, kq5, q5a, q5b, q5c⟩ := isOf hZ hq4 H7_E
    obtain ⟨_, _, ⟨T5, L5, k5, n5⟩, -, X5, ⟨Lc5, hQ5, l5, y5, z5⟩, st5⟩ := X3.virtualBack hx (y := (⟨"com/example/tiptoe/tiptoe/RelationKind", "holdsData", "()Z"⟩ : MethodName)) (z := (⟨"com/example/tiptoe/tiptoe/RelationKind", "holdsData", "()Z"⟩ : MethodName)) hown (mvT hZ (hw _ (List.mem_of_getElem? (i := 8) rfl))) (mvT hZ (hw _ (List.mem_of_getElem? (i := 9) rfl))) (notFace_of_selects (args := #[]) (mvT hZ (hw _ (List.mem_of_getElem? (i := 11) rfl)))) (mvT hZ (hw _ (List.mem_of_getElem? (i := 11) rfl))) (mvT hZ (hw _ (List.mem_of_getElem? (i := 10) rfl))) (by decide) (backOf (W := 0) (rm_hold l Z a0 hw [] w0 w0 w1 w2 (1 : Int32) h0 n0 Z0 H0_S H1_S H2_S (fun _ => rfl) (fun q _ => absurd rfl q) (fun q _ _ => absurd rfl q) (fun q _ _ => absurd rfl q)) hZ (hw _ (List.mem_of_getElem? (i := 12) rfl)) (hw _ (List.mem_of_getElem? (i := 6) rfl)) (by decide) (by decide)) q5a q5c (g := (mkF m 34 #[.val (.int p1), .val (.int (own_irem (p1 &&& (2147483647 : Int32)) (7 : Int32))), .val (.ref w0), .val (.int (1 : Int32))] [(.ref w0)])) rfl (by rw [hml]; rfl) (Steps.refl _) (argsL := []) (rest := []) (lenOf pd_1 rfl) rfl (by show 2 * 0 + _ ≤ _; exact Nat.le_of_eq rfl) (hb hby at_34) (fun _ _ => ⟨rfl, hq4, (by decide : 0 + 0 ≤ _), (by decide : 0 + 0 ≤ _)⟩)
    dsimp only [Pt.U, Pt.locs, Pt.cells, Pt.slots] at X5 l5 y5 z5 st5 hQ5
    subst l5 y5 z5
    obtain ⟨rfl, N5q, hq6⟩ := hQ5
    have N5 := Fr.app N3 N5q
    have pre7 := fun (t : State) (k : Steps p.tables e below (T5.setTop (mkF m 46 #[.val (.int p1), .val (.int (own_irem (p1 &&& (2147483647 : Int32)) (7 : Int32))), .val (.ref w0), .val (.int (1 : Int32))] [(.int (1 : Int32))])) t) => pre1 t (by
      refine st3 _ ?_
      show Steps p.tables e below (T3.setTop (mkF m 12 #[.val (.int p1), .val (.int (own_irem (p1 &&& (2147483647 : Int32)) (7 : Int32))), .unset, .unset] [(.ref w0)])) _
      refine XS.astoreN X3.here hx rfl (hb hby at_12) rfl rfl (l' := #[.val (.int p1), .val (.int (own_irem (p1 &&& (2147483647 : Int32)) (7 : Int32))), .val (.ref w0), .unset]) rfl ?_
      show Steps p.tables e below (T3.setTop (mkF m 13 #[.val (.int p1), .val (.int (own_irem (p1 &&& (2147483647 : Int32)) (7 : Int32))), .val (.ref w0), .unset] [])) _
      refine XS.iloadN X3.here hx rfl (hb hby at_13) rfl ?_
      show Steps p.tables e below (T3.setTop (mkF m 14 #[.val (.int p1), .val (.int (own_irem (p1 &&& (2147483647 : Int32)) (7 : Int32))), .val (.ref w0), .unset] [(.int (own_irem (p1 &&& (2147483647 : Int32)) (7 : Int32)))])) _
      refine XS.ifYes X3.here hx rfl (pc0 := 14) (pc' := 27) rfl (hb hby at_14) rfl ((if0 _ _).trans (teq hs2).1) (by decide) (by decide) ?_
      show Steps p.tables e below (T3.setTop (mkF m 27 #[.val (.int p1), .val (.int (own_irem (p1 &&& (2147483647 : Int32)) (7 : Int32))), .val (.ref w0), .unset] [])) _
      refine XS.iconst X3.here hx rfl (hb hby at_27) ?_
      show Steps p.tables e below (T3.setTop (mkF m 28 #[.val (.int p1), .val (.int (own_irem (p1 &&& (2147483647 : Int32)) (7 : Int32))), .val (.ref w0), .unset] [(.int (1 : Int32))])) _
      refine XS.goto X3.here hx rfl (pc0 := 28) (pc' := 32) rfl (hb hby at_28) (by decide) (by decide) ?_
      show Steps p.tables e below (T3.setTop (mkF m 32 #[.val (.int p1), .val (.int (own_irem (p1 &&& (2147483647 : Int32)) (7 : Int32))), .val (.ref w0), .unset] [(.int (1 : Int32))])) _
      refine XS.istoreN X3.here hx rfl (hb hby at_32) rfl (l' := #[.val (.int p1), .val (.int (own_irem (p1 &&& (2147483647 : Int32)) (7 : Int32))), .val (.ref w0), .val (.int (1 : Int32))]) rfl ?_
      show Steps p.tables e below (T3.setTop (mkF m 33 #[.val (.int p1), .val (.int (own_irem (p1 &&& (2147483647 : Int32)) (7 : Int32))), .val (.ref w0), .val (.int (1 : Int32))] [])) _
      refine XS.aloadN X3.here hx rfl (hb hby at_33) rfl rfl ?_
      show Steps p.tables e below (T3.setTop (mkF m 34 #[.val (.int p1), .val (.int (own_irem (p1 &&& (2147483647 : Int32)) (7 : Int32))), .val (.ref w0), .val (.int (1 : Int32))] [(.ref w0)])) _
      refine st5.trans ?_
      show Steps p.tables e below (T5.setTop (mkF m 37 #[.val (.int p1), .val (.int (own_irem (p1 &&& (2147483647 : Int32)) (7 : Int32))), .val (.ref w0), .val (.int (1 : Int32))] [(.int (1 : Int32))])) _
      refine XS.iloadN X5.here hx rfl (hb hby at_37) rfl ?_
      show Steps p.tables e below (T5.setTop (mkF m 38 #[.val (.int p1), .val (.int (own_irem (p1 &&& (2147483647 : Int32)) (7 : Int32))), .val (.ref w0), .val (.int (1 : Int32))] [(.int (1 : Int32)), (.int (1 : Int32))])) _
      refine XS.icmpNo X5.here hx rfl (hb hby at_38) rfl (teq (by decide : (1 : Int32) = (1 : Int32))).2 ?_
      show Steps p.tables e below (T5.setTop (mkF m 41 #[.val (.int p1), .val (.int (own_irem (p1 &&& (2147483647 : Int32)) (7 : Int32))), .val (.ref w0), .val (.int (1 : Int32))] [])) _
      refine XS.iconst X5.here hx rfl (hb hby at_41) ?_
      show Steps p.tables e below (T5.setTop (mkF m 42 #[.val (.int p1), .val (.int (own_irem (p1 &&& (2147483647 : Int32)) (7 : Int32))), .val (.ref w0), .val (.int (1 : Int32))] [(.int (1 : Int32))])) _
      refine XS.goto X5.here hx rfl (pc0 := 42) (pc' := 46) rfl (hb hby at_42) (by decide) (by decide) ?_
      show Steps p.tables e below (T5.setTop (mkF m 46 #[.val (.int p1), .val (.int (own_irem (p1 &&& (2147483647 : Int32)) (7 : Int32))), .val (.ref w0), .val (.int (1 : Int32))] [(.int (1 : Int32))])) _
      exact k)
    obtain ⟨fs, hr, hrun, hended, hW, hsame⟩ := X5.leave (v := some (.int (1 : Int32))) (fun h => by rw [Bd.returns] at h; cases h)
    refine ⟨_, _, pre7 _ ?_, hrun, hended, _, _, rfl, ?_, ⟨_, rfl⟩, hW, hsame.mono (by decide) (by decide)⟩
    · exact retN X5 hx (t := .boolean) Bd.returns (by simp) (hb hby at_46) hr
    · show Q_law Z p1 w0 w1 w2 w3 w4 w5 w6 h0 n0 _ T5.heap _
      rw [hq6]
      exact ⟨rfl, N5, rfl⟩
  · by_cases hs8 : (own_irem (p1 &&& (2147483647 : Int32)) (7 : Int32)) = (1 : Int32)
    · obtain ⟨_, _, ⟨T9, L9, k9, n9⟩, -, X9, ⟨Lc9, hQ9, l9, y9, z9⟩, st9⟩ := Jvm.LawKit.callS X0 hx (y := (⟨"com/example/tiptoe/tiptoe/RelationKindHoldsDataPinLaw", "pick", "(I)Lcom/example/tiptoe/tiptoe/RelationKind;"⟩ : MethodName)) hown (mvT hZ (hw _ (List.mem_of_getElem? (i := 1) rfl))) (mvT hZ (hw _ (List.mem_of_getElem? (i := 2) rfl))) (mvT hZ (hw _ (List.mem_of_getElem? (i := 3) rfl))) (mvT hZ (hw _ (List.mem_of_getElem? (i := 4) rfl))) (by decide) (backOf (W := 0) (rm_pick l Z a0 hw [] (own_irem (p1 &&& (2147483647 : Int32)) (7 : Int32)) w0 w1 w2 w3 w4 w5 w6 w1 h0 n0 Z0 H0_S H1_S H2_S H3_S H4_S H5_S H6_S (fun q => absurd q hs2) (fun _ _ => rfl) (fun _ q _ => absurd hs8 q) (fun _ q _ _ => absurd hs8 q) (fun _ q _ _ _ => absurd hs8 q) (fun _ q _ _ _ _ => absurd hs8 q) (fun _ q _ _ _ _ => absurd hs8 q)) hZ (hw _ (List.mem_of_getElem? (i := 4) rfl)) (hw _ (List.mem_of_getElem? (i := 3) rfl)) (by decide) (by decide)) (g := (mkF m 9 #[.val (.int p1), .val (.int (own_irem (p1 &&& (2147483647 : Int32)) (7 : Int32))), .unset, .unset] [(.int (own_irem (p1 &&& (2147483647 : Int32)) (7 : Int32)))])) rfl (by rw [hml]; rfl) (argsL := [(.int (own_irem (p1 &&& (2147483647 : Int32)) (7 : Int32)))]) (rest := []) (lenOf pd_0 rfl) rfl (by show 2 * 0 + _ ≤ _; exact Nat.le_of_eq rfl) (hb hby at_9) (fun _ _ => ⟨rfl, e0, (by decide : 0 + 0 ≤ _), (by decide : 0 + 0 ≤ _)⟩)
      dsimp only [Pt.U, Pt.locs, Pt.cells, Pt.slots] at X9 l9 y9 z9 st9 hQ9
      subst l9 y9 z9
      obtain ⟨rfl, N9q, hq10⟩ := hQ9
      have N9 := Fr.app N0 N9q
      obtain ⟨cq11, kq11, q11a, q11b, q11c⟩ := isOf hZ hq10 H8_E
      obtain ⟨_, _, ⟨T11, L11, k11, n11⟩, -, X11, ⟨Lc11, hQ11, l11, y11, z11⟩, st11⟩ := X9.virtualBack hx (y := (⟨"com/example/tiptoe/tiptoe/RelationKind", "holdsData", "()Z"⟩ : MethodName)) (z := (⟨"com/example/tiptoe/tiptoe/RelationKind", "holdsData", "()Z"⟩ : MethodName)) hown (mvT hZ (hw _ (List.mem_of_getElem? (i := 8) rfl))) (mvT hZ (hw _ (List.mem_of_getElem? (i := 9) rfl))) (notFace_of_selects (args := #[]) (mvT hZ (hw _ (List.mem_of_getElem? (i := 11) rfl)))) (mvT hZ (hw _ (List.mem_of_getElem? (i := 11) rfl))) (mvT hZ (hw _ (List.mem_of_getElem? (i := 10) rfl))) (by decide) (backOf (W := 0) (rm_hold l Z a0 hw [] w1 w0 w1 w2 (1 : Int32) h0 n0 Z0 H0_S H1_S H2_S (fun q => absurd q hne_w1_w0) (fun _ _ => rfl) (fun _ q _ => absurd rfl q) (fun _ q _ => absurd rfl q)) hZ (hw _ (List.mem_of_getElem? (i := 12) rfl)) (hw _ (List.mem_of_getElem? (i := 6) rfl)) (by decide) (by decide)) q11a q11c (g := (mkF m 34 #[.val (.int p1), .val (.int (own_irem (p1 &&& (2147483647 : Int32)) (7 : Int32))), .val (.ref w1), .val (.int (1 : Int32))] [(.ref w1)])) rfl (by rw [hml]; rfl) (Steps.refl _) (argsL := []) (rest := []) (lenOf pd_1 rfl) rfl (by show 2 * 0 + _ ≤ _; exact Nat.le_of_eq rfl) (hb hby at_34) (fun _ _ => ⟨rfl, hq10, (by decide : 0 + 0 ≤ _), (by decide : 0 + 0 ≤ _)⟩)
      dsimp only [Pt.U, Pt.locs, Pt.cells, Pt.slots] at X11 l11 y11 z11 st11 hQ11
      subst l11 y11 z11
      obtain ⟨rfl, N11q, hq12⟩ := hQ11
      have N11 := Fr.app N9 N11q
      have pre13 := fun (t : State) (k : Steps p.tables e below (T11.setTop (mkF m 46 #[.val (.int p1), .val (.int (own_irem (p1 &&& (2147483647 : Int32)) (7 : Int32))), .val (.ref w1), .val (.int (1 : Int32))] [(.int (1 : Int32))])) t) => pre1 t (by
        refine st9 _ ?_
        show Steps p.tables e below (T9.setTop (mkF m 12 #[.val (.int p1), .val (.int (own_irem (p1 &&& (2147483647 : Int32)) (7 : Int32))), .unset, .unset] [(.ref w1)])) _
        refine XS.astoreN X9.here hx rfl (hb hby at_12) rfl rfl (l' := #[.val (.int p1), .val (.int (own_irem (p1 &&& (2147483647 : Int32)) (7 : Int32))), .val (.ref w1), .unset]) rfl ?_
        show Steps p.tables e below (T9.setTop (mkF m 13 #[.val (.int p1), .val (.int (own_irem (p1 &&& (2147483647 : Int32)) (7 : Int32))), .val (.ref w1), .unset] [])) _
        refine XS.iloadN X9.here hx rfl (hb hby at_13) rfl ?_
        show Steps p.tables e below (T9.setTop (mkF m 14 #[.val (.int p1), .val (.int (own_irem (p1 &&& (2147483647 : Int32)) (7 : Int32))), .val (.ref w1), .unset] [(.int (own_irem (p1 &&& (2147483647 : Int32)) (7 : Int32)))])) _
        refine XS.ifNo X9.here hx rfl (hb hby at_14) rfl ((if0 _ _).trans (feq hs2).1) ?_
        show Steps p.tables e below (T9.setTop (mkF m 17 #[.val (.int p1), .val (.int (own_irem (p1 &&& (2147483647 : Int32)) (7 : Int32))), .val (.ref w1), .unset] [])) _
        refine XS.iloadN X9.here hx rfl (hb hby at_17) rfl ?_
        show Steps p.tables e below (T9.setTop (mkF m 18 #[.val (.int p1), .val (.int (own_irem (p1 &&& (2147483647 : Int32)) (7 : Int32))), .val (.ref w1), .unset] [(.int (own_irem (p1 &&& (2147483647 : Int32)) (7 : Int32)))])) _
        refine XS.iconst X9.here hx rfl (hb hby at_18) ?_
        show Steps p.tables e below (T9.setTop (mkF m 19 #[.val (.int p1), .val (.int (own_irem (p1 &&& (2147483647 : Int32)) (7 : Int32))), .val (.ref w1), .unset] [(.int (1 : Int32)), (.int (own_irem (p1 &&& (2147483647 : Int32)) (7 : Int32)))])) _
        refine XS.icmpYes X9.here hx rfl (pc0 := 19) (pc' := 27) rfl (hb hby at_19) rfl (teq hs8).1 (by decide) (by decide) ?_
        show Steps p.tables e below (T9.setTop (mkF m 27 #[.val (.int p1), .val (.int (own_irem (p1 &&& (2147483647 : Int32)) (7 : Int32))), .val (.ref w1), .unset] [])) _
        refine XS.iconst X9.here hx rfl (hb hby at_27) ?_
        show Steps p.tables e below (T9.setTop (mkF m 28 #[.val (.int p1), .val (.int (own_irem (p1 &&& (2147483647 : Int32)) (7 : Int32))), .val (.ref w1), .unset] [(.int (1 : Int32))])) _
        refine XS.goto X9.here hx rfl (pc0 := 28) (pc' := 32) rfl (hb hby at_28) (by decide) (by decide) ?_
        show Steps p.tables e below (T9.setTop (mkF m 32 #[.val (.int p1), .val (.int (own_irem (p1 &&& (2147483647 : Int32)) (7 : Int32))), .val (.ref w1), .unset] [(.int (1 : Int32))])) _
        refine XS.istoreN X9.here hx rfl (hb hby at_32) rfl (l' := #[.val (.int p1), .val (.int (own_irem (p1 &&& (2147483647 : Int32)) (7 : Int32))), .val (.ref w1), .val (.int (1 : Int32))]) rfl ?_
        show Steps p.tables e below (T9.setTop (mkF m 33 #[.val (.int p1), .val (.int (own_irem (p1 &&& (2147483647 : Int32)) (7 : Int32))), .val (.ref w1), .val (.int (1 : Int32))] [])) _
        refine XS.aloadN X9.here hx rfl (hb hby at_33) rfl rfl ?_
        show Steps p.tables e below (T9.setTop (mkF m 34 #[.val (.int p1), .val (.int (own_irem (p1 &&& (2147483647 : Int32)) (7 : Int32))), .val (.ref w1), .val (.int (1 : Int32))] [(.ref w1)])) _
        refine st11.trans ?_
        show Steps p.tables e below (T11.setTop (mkF m 37 #[.val (.int p1), .val (.int (own_irem (p1 &&& (2147483647 : Int32)) (7 : Int32))), .val (.ref w1), .val (.int (1 : Int32))] [(.int (1 : Int32))])) _
        refine XS.iloadN X11.here hx rfl (hb hby at_37) rfl ?_
        show Steps p.tables e below (T11.setTop (mkF m 38 #[.val (.int p1), .val (.int (own_irem (p1 &&& (2147483647 : Int32)) (7 : Int32))), .val (.ref w1), .val (.int (1 : Int32))] [(.int (1 : Int32)), (.int (1 : Int32))])) _
        refine XS.icmpNo X11.here hx rfl (hb hby at_38) rfl (teq (by decide : (1 : Int32) = (1 : Int32))).2 ?_
        show Steps p.tables e below (T11.setTop (mkF m 41 #[.val (.int p1), .val (.int (own_irem (p1 &&& (2147483647 : Int32)) (7 : Int32))), .val (.ref w1), .val (.int (1 : Int32))] [])) _
        refine XS.iconst X11.here hx rfl (hb hby at_41) ?_
        show Steps p.tables e below (T11.setTop (mkF m 42 #[.val (.int p1), .val (.int (own_irem (p1 &&& (2147483647 : Int32)) (7 : Int32))), .val (.ref w1), .val (.int (1 : Int32))] [(.int (1 : Int32))])) _
        refine XS.goto X11.here hx rfl (pc0 := 42) (pc' := 46) rfl (hb hby at_42) (by decide) (by decide) ?_
        show Steps p.tables e below (T11.setTop (mkF m 46 #[.val (.int p1), .val (.int (own_irem (p1 &&& (2147483647 : Int32)) (7 : Int32))), .val (.ref w1), .val (.int (1 : Int32))] [(.int (1 : Int32))])) _
        exact k)
      obtain ⟨fs, hr, hrun, hended, hW, hsame⟩ := X11.leave (v := some (.int (1 : Int32))) (fun h => by rw [Bd.returns] at h; cases h)
      refine ⟨_, _, pre13 _ ?_, hrun, hended, _, _, rfl, ?_, ⟨_, rfl⟩, hW, hsame.mono (by decide) (by decide)⟩
      · exact retN X11 hx (t := .boolean) Bd.returns (by simp) (hb hby at_46) hr
      · show Q_law Z p1 w0 w1 w2 w3 w4 w5 w6 h0 n0 _ T11.heap _
        rw [hq12]
        exact ⟨rfl, N11, rfl⟩
    · by_cases hs14 : (own_irem (p1 &&& (2147483647 : Int32)) (7 : Int32)) = (2 : Int32)
      · obtain ⟨_, _, ⟨T15, L15, k15, n15⟩, -, X15, ⟨Lc15, hQ15, l15, y15, z15⟩, st15⟩ := Jvm.LawKit.callS X0 hx (y := (⟨"com/example/tiptoe/tiptoe/RelationKindHoldsDataPinLaw", "pick", "(I)Lcom/example/tiptoe/tiptoe/RelationKind;"⟩ : MethodName)) hown (mvT hZ (hw _ (List.mem_of_getElem? (i := 1) rfl))) (mvT hZ (hw _ (List.mem_of_getElem? (i := 2) rfl))) (mvT hZ (hw _ (List.mem_of_getElem? (i := 3) rfl))) (mvT hZ (hw _ (List.mem_of_getElem? (i := 4) rfl))) (by decide) (backOf (W := 0) (rm_pick l Z a0 hw [] (own_irem (p1 &&& (2147483647 : Int32)) (7 : Int32)) w0 w1 w2 w3 w4 w5 w6 w2 h0 n0 Z0 H0_S H1_S H2_S H3_S H4_S H5_S H6_S (fun q => absurd q hs2) (fun _ q => absurd q hs8) (fun _ _ _ => rfl) (fun _ _ q _ => absurd hs14 q) (fun _ _ q _ _ => absurd hs14 q) (fun _ _ q _ _ _ => absurd hs14 q) (fun _ _ q _ _ _ => absurd hs14 q)) hZ (hw _ (List.mem_of_getElem? (i := 4) rfl)) (hw _ (List.mem_of_getElem? (i := 3) rfl)) (by decide) (by decide)) (g := (mkF m 9 #[.val (.int p1), .val (.int (own_irem (p1 &&& (2147483647 : Int32)) (7 : Int32))), .unset, .unset] [(.int (own_irem (p1 &&& (2147483647 : Int32)) (7 : Int32)))])) rfl (by rw [hml]; rfl) (argsL := [(.int (own_irem (p1 &&& (2147483647 : Int32)) (7 : Int32)))]) (rest := []) (lenOf pd_0 rfl) rfl (by show 2 * 0 + _ ≤ _; exact Nat.le_of_eq rfl) (hb hby at_9) (fun _ _ => ⟨rfl, e0, (by decide : 0 + 0 ≤ _), (by decide : 0 + 0 ≤ _)⟩)
        dsimp only [Pt.U, Pt.locs, Pt.cells, Pt.slots] at X15 l15 y15 z15 st15 hQ15
        subst l15 y15 z15
        obtain ⟨rfl, N15q, hq16⟩ := hQ15
        have N15 := Fr.app N0 N15q
        obtain ⟨cq17, kq17, q17a, q17b, q17c⟩ := isOf hZ hq16 H9_E
        obtain ⟨_, _, ⟨T17, L17, k17, n17⟩, -, X17, ⟨Lc17, hQ17, l17, y17, z17⟩, st17⟩ := X15.virtualBack hx (y := (⟨"com/example/tiptoe/tiptoe/RelationKind", "holdsData", "()Z"⟩ : MethodName)) (z := (⟨"com/example/tiptoe/tiptoe/RelationKind", "holdsData", "()Z"⟩ : MethodName)) hown (mvT hZ (hw _ (List.mem_of_getElem? (i := 8) rfl))) (mvT hZ (hw _ (List.mem_of_getElem? (i := 9) rfl))) (notFace_of_selects (args := #[]) (mvT hZ (hw _ (List.mem_of_getElem? (i := 11) rfl)))) (mvT hZ (hw _ (List.mem_of_getElem? (i := 11) rfl))) (mvT hZ (hw _ (List.mem_of_getElem? (i := 10) rfl))) (by decide) (backOf (W := 0) (rm_hold l Z a0 hw [] w2 w0 w1 w2 (1 : Int32) h0 n0 Z0 H0_S H1_S H2_S (fun q => absurd q hne_w2_w0) (fun _ q => absurd q hne_w2_w1) (fun _ _ _ => rfl) (fun _ _ q => absurd rfl q)) hZ (hw _ (List.mem_of_getElem? (i := 12) rfl)) (hw _ (List.mem_of_getElem? (i := 6) rfl)) (by decide) (by decide)) q17a q17c (g := (mkF m 34 #[.val (.int p1), .val (.int (own_irem (p1 &&& (2147483647 : Int32)) (7 : Int32))), .val (.ref w2), .val (.int (1 : Int32))] [(.ref w2)])) rfl (by rw [hml]; rfl) (Steps.refl _) (argsL := []) (rest := []) (lenOf pd_1 rfl) rfl (by show 2 * 0 + _ ≤ _; exact Nat.le_of_eq rfl) (hb hby at_34) (fun _ _ => ⟨rfl, hq16, (by decide : 0 + 0 ≤ _), (by decide : 0 + 0 ≤ _)⟩)
        dsimp only [Pt.U, Pt.locs, Pt.cells, Pt.slots] at X17 l17 y17 z17 st17 hQ17
        subst l17 y17 z17
        obtain ⟨rfl, N17q, hq18⟩ := hQ17
        have N17 := Fr.app N15 N17q
        have pre19 := fun (t : State) (k : Steps p.tables e below (T17.setTop (mkF m 46 #[.val (.int p1), .val (.int (own_irem (p1 &&& (2147483647 : Int32)) (7 : Int32))), .val (.ref w2), .val (.int (1 : Int32))] [(.int (1 : Int32))])) t) => pre1 t (by
          refine st15 _ ?_
          show Steps p.tables e below (T15.setTop (mkF m 12 #[.val (.int p1), .val (.int (own_irem (p1 &&& (2147483647 : Int32)) (7 : Int32))), .unset, .unset] [(.ref w2)])) _
          refine XS.astoreN X15.here hx rfl (hb hby at_12) rfl rfl (l' := #[.val (.int p1), .val (.int (own_irem (p1 &&& (2147483647 : Int32)) (7 : Int32))), .val (.ref w2), .unset]) rfl ?_
          show Steps p.tables e below (T15.setTop (mkF m 13 #[.val (.int p1), .val (.int (own_irem (p1 &&& (2147483647 : Int32)) (7 : Int32))), .val (.ref w2), .unset] [])) _
          refine XS.iloadN X15.here hx rfl (hb hby at_13) rfl ?_
          show Steps p.tables e below (T15.setTop (mkF m 14 #[.val (.int p1), .val (.int (own_irem (p1 &&& (2147483647 : Int32)) (7 : Int32))), .val (.ref w2), .unset] [(.int (own_irem (p1 &&& (2147483647 : Int32)) (7 : Int32)))])) _
          refine XS.ifNo X15.here hx rfl (hb hby at_14) rfl ((if0 _ _).trans (feq hs2).1) ?_
          show Steps p.tables e below (T15.setTop (mkF m 17 #[.val (.int p1), .val (.int (own_irem (p1 &&& (2147483647 : Int32)) (7 : Int32))), .val (.ref w2), .unset] [])) _
          refine XS.iloadN X15.here hx rfl (hb hby at_17) rfl ?_
          show Steps p.tables e below (T15.setTop (mkF m 18 #[.val (.int p1), .val (.int (own_irem (p1 &&& (2147483647 : Int32)) (7 : Int32))), .val (.ref w2), .unset] [(.int (own_irem (p1 &&& (2147483647 : Int32)) (7 : Int32)))])) _
          refine XS.iconst X15.here hx rfl (hb hby at_18) ?_
          show Steps p.tables e below (T15.setTop (mkF m 19 #[.val (.int p1), .val (.int (own_irem (p1 &&& (2147483647 : Int32)) (7 : Int32))), .val (.ref w2), .unset] [(.int (1 : Int32)), (.int (own_irem (p1 &&& (2147483647 : Int32)) (7 : Int32)))])) _
          refine XS.icmpNo X15.here hx rfl (hb hby at_19) rfl (feq hs8).1 ?_
          show Steps p.tables e below (T15.setTop (mkF m 22 #[.val (.int p1), .val (.int (own_irem (p1 &&& (2147483647 : Int32)) (7 : Int32))), .val (.ref w2), .unset] [])) _
          refine XS.iloadN X15.here hx rfl (hb hby at_22) rfl ?_
          show Steps p.tables e below (T15.setTop (mkF m 23 #[.val (.int p1), .val (.int (own_irem (p1 &&& (2147483647 : Int32)) (7 : Int32))), .val (.ref w2), .unset] [(.int (own_irem (p1 &&& (2147483647 : Int32)) (7 : Int32)))])) _
          refine XS.iconst X15.here hx rfl (hb hby at_23) ?_
          show Steps p.tables e below (T15.setTop (mkF m 24 #[.val (.int p1), .val (.int (own_irem (p1 &&& (2147483647 : Int32)) (7 : Int32))), .val (.ref w2), .unset] [(.int (2 : Int32)), (.int (own_irem (p1 &&& (2147483647 : Int32)) (7 : Int32)))])) _
          refine XS.icmpNo X15.here hx rfl (hb hby at_24) rfl (teq hs14).2 ?_
          show Steps p.tables e below (T15.setTop (mkF m 27 #[.val (.int p1), .val (.int (own_irem (p1 &&& (2147483647 : Int32)) (7 : Int32))), .val (.ref w2), .unset] [])) _
          refine XS.iconst X15.here hx rfl (hb hby at_27) ?_
          show Steps p.tables e below (T15.setTop (mkF m 28 #[.val (.int p1), .val (.int (own_irem (p1 &&& (2147483647 : Int32)) (7 : Int32))), .val (.ref w2), .unset] [(.int (1 : Int32))])) _
          refine XS.goto X15.here hx rfl (pc0 := 28) (pc' := 32) rfl (hb hby at_28) (by decide) (by decide) ?_
          show Steps p.tables e below (T15.setTop (mkF m 32 #[.val (.int p1), .val (.int (own_irem (p1 &&& (2147483647 : Int32)) (7 : Int32))), .val (.ref w2), .unset] [(.int (1 : Int32))])) _
          refine XS.istoreN X15.here hx rfl (hb hby at_32) rfl (l' := #[.val (.int p1), .val (.int (own_irem (p1 &&& (2147483647 : Int32)) (7 : Int32))), .val (.ref w2), .val (.int (1 : Int32))]) rfl ?_
          show Steps p.tables e below (T15.setTop (mkF m 33 #[.val (.int p1), .val (.int (own_irem (p1 &&& (2147483647 : Int32)) (7 : Int32))), .val (.ref w2), .val (.int (1 : Int32))] [])) _
          refine XS.aloadN X15.here hx rfl (hb hby at_33) rfl rfl ?_
          show Steps p.tables e below (T15.setTop (mkF m 34 #[.val (.int p1), .val (.int (own_irem (p1 &&& (2147483647 : Int32)) (7 : Int32))), .val (.ref w2), .val (.int (1 : Int32))] [(.ref w2)])) _
          refine st17.trans ?_
          show Steps p.tables e below (T17.setTop (mkF m 37 #[.val (.int p1), .val (.int (own_irem (p1 &&& (2147483647 : Int32)) (7 : Int32))), .val (.ref w2), .val (.int (1 : Int32))] [(.int (1 : Int32))])) _
          refine XS.iloadN X17.here hx rfl (hb hby at_37) rfl ?_
          show Steps p.tables e below (T17.setTop (mkF m 38 #[.val (.int p1), .val (.int (own_irem (p1 &&& (2147483647 : Int32)) (7 : Int32))), .val (.ref w2), .val (.int (1 : Int32))] [(.int (1 : Int32)), (.int (1 : Int32))])) _
          refine XS.icmpNo X17.here hx rfl (hb hby at_38) rfl (teq (by decide : (1 : Int32) = (1 : Int32))).2 ?_
          show Steps p.tables e below (T17.setTop (mkF m 41 #[.val (.int p1), .val (.int (own_irem (p1 &&& (2147483647 : Int32)) (7 : Int32))), .val (.ref w2), .val (.int (1 : Int32))] [])) _
          refine XS.iconst X17.here hx rfl (hb hby at_41) ?_
          show Steps p.tables e below (T17.setTop (mkF m 42 #[.val (.int p1), .val (.int (own_irem (p1 &&& (2147483647 : Int32)) (7 : Int32))), .val (.ref w2), .val (.int (1 : Int32))] [(.int (1 : Int32))])) _
          refine XS.goto X17.here hx rfl (pc0 := 42) (pc' := 46) rfl (hb hby at_42) (by decide) (by decide) ?_
          show Steps p.tables e below (T17.setTop (mkF m 46 #[.val (.int p1), .val (.int (own_irem (p1 &&& (2147483647 : Int32)) (7 : Int32))), .val (.ref w2), .val (.int (1 : Int32))] [(.int (1 : Int32))])) _
          exact k)
        obtain ⟨fs, hr, hrun, hended, hW, hsame⟩ := X17.leave (v := some (.int (1 : Int32))) (fun h => by rw [Bd.returns] at h; cases h)
        refine ⟨_, _, pre19 _ ?_, hrun, hended, _, _, rfl, ?_, ⟨_, rfl⟩, hW, hsame.mono (by decide) (by decide)⟩
        · exact retN X17 hx (t := .boolean) Bd.returns (by simp) (hb hby at_46) hr
        · show Q_law Z p1 w0 w1 w2 w3 w4 w5 w6 h0 n0 _ T17.heap _
          rw [hq18]
          exact ⟨rfl, N17, rfl⟩
      · by_cases hs20 : (own_irem (p1 &&& (2147483647 : Int32)) (7 : Int32)) = (3 : Int32)
        · obtain ⟨_, _, ⟨T21, L21, k21, n21⟩, -, X21, ⟨Lc21, hQ21, l21, y21, z21⟩, st21⟩ := Jvm.LawKit.callS X0 hx (y := (⟨"com/example/tiptoe/tiptoe/RelationKindHoldsDataPinLaw", "pick", "(I)Lcom/example/tiptoe/tiptoe/RelationKind;"⟩ : MethodName)) hown (mvT hZ (hw _ (List.mem_of_getElem? (i := 1) rfl))) (mvT hZ (hw _ (List.mem_of_getElem? (i := 2) rfl))) (mvT hZ (hw _ (List.mem_of_getElem? (i := 3) rfl))) (mvT hZ (hw _ (List.mem_of_getElem? (i := 4) rfl))) (by decide) (backOf (W := 0) (rm_pick l Z a0 hw [] (own_irem (p1 &&& (2147483647 : Int32)) (7 : Int32)) w0 w1 w2 w3 w4 w5 w6 w3 h0 n0 Z0 H0_S H1_S H2_S H3_S H4_S H5_S H6_S (fun q => absurd q hs2) (fun _ q => absurd q hs8) (fun _ _ q => absurd q hs14) (fun _ _ _ _ => rfl) (fun _ _ _ q _ => absurd hs20 q) (fun _ _ _ q _ _ => absurd hs20 q) (fun _ _ _ q _ _ => absurd hs20 q)) hZ (hw _ (List.mem_of_getElem? (i := 4) rfl)) (hw _ (List.mem_of_getElem? (i := 3) rfl)) (by decide) (by decide)) (g := (mkF m 9 #[.val (.int p1), .val (.int (own_irem (p1 &&& (2147483647 : Int32)) (7 : Int32))), .unset, .unset] [(.int (own_irem (p1 &&& (2147483647 : Int32)) (7 : Int32)))])) rfl (by rw [hml]; rfl) (argsL := [(.int (own_irem (p1 &&& (2147483647 : Int32)) (7 : Int32)))]) (rest := []) (lenOf pd_0 rfl) rfl (by show 2 * 0 + _ ≤ _; exact Nat.le_of_eq rfl) (hb hby at_9) (fun _ _ => ⟨rfl, e0, (by decide : 0 + 0 ≤ _), (by decide : 0 + 0 ≤ _)⟩)
          dsimp only [Pt.U, Pt.locs, Pt.cells, Pt.slots] at X21 l21 y21 z21 st21 hQ21
          subst l21 y21 z21
          obtain ⟨rfl, N21q, hq22⟩ := hQ21
          have N21 := Fr.app N0 N21q
          obtain ⟨cq23, kq23, q23a, q23b, q23c⟩ := isOf hZ hq22 H10_E
          obtain ⟨_, _, ⟨T23, L23, k23, n23⟩, -, X23, ⟨Lc23, hQ23, l23, y23, z23⟩, st23⟩ := X21.virtualBack hx (y := (⟨"com/example/tiptoe/tiptoe/RelationKind", "holdsData", "()Z"⟩ : MethodName)) (z := (⟨"com/example/tiptoe/tiptoe/RelationKind", "holdsData", "()Z"⟩ : MethodName)) hown (mvT hZ (hw _ (List.mem_of_getElem? (i := 8) rfl))) (mvT hZ (hw _ (List.mem_of_getElem? (i := 9) rfl))) (notFace_of_selects (args := #[]) (mvT hZ (hw _ (List.mem_of_getElem? (i := 11) rfl)))) (mvT hZ (hw _ (List.mem_of_getElem? (i := 11) rfl))) (mvT hZ (hw _ (List.mem_of_getElem? (i := 10) rfl))) (by decide) (backOf (W := 0) (rm_hold l Z a0 hw [] w3 w0 w1 w2 (0 : Int32) h0 n0 Z0 H0_S H1_S H2_S (fun q => absurd q hne_w3_w0) (fun _ q => absurd q hne_w3_w1) (fun _ _ q => absurd q hne_w3_w2) (fun _ _ _ => rfl)) hZ (hw _ (List.mem_of_getElem? (i := 12) rfl)) (hw _ (List.mem_of_getElem? (i := 6) rfl)) (by decide) (by decide)) q23a q23c (g := (mkF m 34 #[.val (.int p1), .val (.int (own_irem (p1 &&& (2147483647 : Int32)) (7 : Int32))), .val (.ref w3), .val (.int (0 : Int32))] [(.ref w3)])) rfl (by rw [hml]; rfl) (Steps.refl _) (argsL := []) (rest := []) (lenOf pd_1 rfl) rfl (by show 2 * 0 + _ ≤ _; exact Nat.le_of_eq rfl) (hb hby at_34) (fun _ _ => ⟨rfl, hq22, (by decide : 0 + 0 ≤ _), (by decide : 0 + 0 ≤ _)⟩)
          dsimp only [Pt.U, Pt.locs, Pt.cells, Pt.slots] at X23 l23 y23 z23 st23 hQ23
          subst l23 y23 z23
          obtain ⟨rfl, N23q, hq24⟩ := hQ23
          have N23 := Fr.app N21 N23q
          have pre25 := fun (t : State) (k : Steps p.tables e below (T23.setTop (mkF m 46 #[.val (.int p1), .val (.int (own_irem (p1 &&& (2147483647 : Int32)) (7 : Int32))), .val (.ref w3), .val (.int (0 : Int32))] [(.int (1 : Int32))])) t) => pre1 t (by
            refine st21 _ ?_
            show Steps p.tables e below (T21.setTop (mkF m 12 #[.val (.int p1), .val (.int (own_irem (p1 &&& (2147483647 : Int32)) (7 : Int32))), .unset, .unset] [(.ref w3)])) _
            refine XS.astoreN X21.here hx rfl (hb hby at_12) rfl rfl (l' := #[.val (.int p1), .val (.int (own_irem (p1 &&& (2147483647 : Int32)) (7 : Int32))), .val (.ref w3), .unset]) rfl ?_
            show Steps p.tables e below (T21.setTop (mkF m 13 #[.val (.int p1), .val (.int (own_irem (p1 &&& (2147483647 : Int32)) (7 : Int32))), .val (.ref w3), .unset] [])) _
            refine XS.iloadN X21.here hx rfl (hb hby at_13) rfl ?_
            show Steps p.tables e below (T21.setTop (mkF m 14 #[.val (.int p1), .val (.int (own_irem (p1 &&& (2147483647 : Int32)) (7 : Int32))), .val (.ref w3), .unset] [(.int (own_irem (p1 &&& (2147483647 : Int32)) (7 : Int32)))])) _
            refine XS.ifNo X21.here hx rfl (hb hby at_14) rfl ((if0 _ _).trans (feq hs2).1) ?_
            show Steps p.tables e below (T21.setTop (mkF m 17 #[.val (.int p1), .val (.int (own_irem (p1 &&& (2147483647 : Int32)) (7 : Int32))), .val (.ref w3), .unset] [])) _
            refine XS.iloadN X21.here hx rfl (hb hby at_17) rfl ?_
            show Steps p.tables e below (T21.setTop (mkF m 18 #[.val (.int p1), .val (.int (own_irem (p1 &&& (2147483647 : Int32)) (7 : Int32))), .val (.ref w3), .unset] [(.int (own_irem (p1 &&& (2147483647 : Int32)) (7 : Int32)))])) _
            refine XS.iconst X21.here hx rfl (hb hby at_18) ?_
            show Steps p.tables e below (T21.setTop (mkF m 19 #[.val (.int p1), .val (.int (own_irem (p1 &&& (2147483647 : Int32)) (7 : Int32))), .val (.ref w3), .unset] [(.int (1 : Int32)), (.int (own_irem (p1 &&& (2147483647 : Int32)) (7 : Int32)))])) _
            refine XS.icmpNo X21.here hx rfl (hb hby at_19) rfl (feq hs8).1 ?_
            show Steps p.tables e below (T21.setTop (mkF m 22 #[.val (.int p1), .val (.int (own_irem (p1 &&& (2147483647 : Int32)) (7 : Int32))), .val (.ref w3), .unset] [])) _
            refine XS.iloadN X21.here hx rfl (hb hby at_22) rfl ?_
            show Steps p.tables e below (T21.setTop (mkF m 23 #[.val (.int p1), .val (.int (own_irem (p1 &&& (2147483647 : Int32)) (7 : Int32))), .val (.ref w3), .unset] [(.int (own_irem (p1 &&& (2147483647 : Int32)) (7 : Int32)))])) _
            refine XS.iconst X21.here hx rfl (hb hby at_23) ?_
            show Steps p.tables e below (T21.setTop (mkF m 24 #[.val (.int p1), .val (.int (own_irem (p1 &&& (2147483647 : Int32)) (7 : Int32))), .val (.ref w3), .unset] [(.int (2 : Int32)), (.int (own_irem (p1 &&& (2147483647 : Int32)) (7 : Int32)))])) _
            refine XS.icmpYes X21.here hx rfl (pc0 := 24) (pc' := 31) rfl (hb hby at_24) rfl (feq hs14).2 (by decide) (by decide) ?_
            show Steps p.tables e below (T21.setTop (mkF m 31 #[.val (.int p1), .val (.int (own_irem (p1 &&& (2147483647 : Int32)) (7 : Int32))), .val (.ref w3), .unset] [])) _
            refine XS.iconst X21.here hx rfl (hb hby at_31) ?_
            show Steps p.tables e below (T21.setTop (mkF m 32 #[.val (.int p1), .val (.int (own_irem (p1 &&& (2147483647 : Int32)) (7 : Int32))), .val (.ref w3), .unset] [(.int (0 : Int32))])) _
            refine XS.istoreN X21.here hx rfl (hb hby at_32) rfl (l' := #[.val (.int p1), .val (.int (own_irem (p1 &&& (2147483647 : Int32)) (7 : Int32))), .val (.ref w3), .val (.int (0 : Int32))]) rfl ?_
            show Steps p.tables e below (T21.setTop (mkF m 33 #[.val (.int p1), .val (.int (own_irem (p1 &&& (2147483647 : Int32)) (7 : Int32))), .val (.ref w3), .val (.int (0 : Int32))] [])) _
            refine XS.aloadN X21.here hx rfl (hb hby at_33) rfl rfl ?_
            show Steps p.tables e below (T21.setTop (mkF m 34 #[.val (.int p1), .val (.int (own_irem (p1 &&& (2147483647 : Int32)) (7 : Int32))), .val (.ref w3), .val (.int (0 : Int32))] [(.ref w3)])) _
            refine st23.trans ?_
            show Steps p.tables e below (T23.setTop (mkF m 37 #[.val (.int p1), .val (.int (own_irem (p1 &&& (2147483647 : Int32)) (7 : Int32))), .val (.ref w3), .val (.int (0 : Int32))] [(.int (0 : Int32))])) _
            refine XS.iloadN X23.here hx rfl (hb hby at_37) rfl ?_
            show Steps p.tables e below (T23.setTop (mkF m 38 #[.val (.int p1), .val (.int (own_irem (p1 &&& (2147483647 : Int32)) (7 : Int32))), .val (.ref w3), .val (.int (0 : Int32))] [(.int (0 : Int32)), (.int (0 : Int32))])) _
            refine XS.icmpNo X23.here hx rfl (hb hby at_38) rfl (teq (by decide : (0 : Int32) = (0 : Int32))).2 ?_
            show Steps p.tables e below (T23.setTop (mkF m 41 #[.val (.int p1), .val (.int (own_irem (p1 &&& (2147483647 : Int32)) (7 : Int32))), .val (.ref w3), .val (.int (0 : Int32))] [])) _
            refine XS.iconst X23.here hx rfl (hb hby at_41) ?_
            show Steps p.tables e below (T23.setTop (mkF m 42 #[.val (.int p1), .val (.int (own_irem (p1 &&& (2147483647 : Int32)) (7 : Int32))), .val (.ref w3), .val (.int (0 : Int32))] [(.int (1 : Int32))])) _
            refine XS.goto X23.here hx rfl (pc0 := 42) (pc' := 46) rfl (hb hby at_42) (by decide) (by decide) ?_
            show Steps p.tables e below (T23.setTop (mkF m 46 #[.val (.int p1), .val (.int (own_irem (p1 &&& (2147483647 : Int32)) (7 : Int32))), .val (.ref w3), .val (.int (0 : Int32))] [(.int (1 : Int32))])) _
            exact k)
          obtain ⟨fs, hr, hrun, hended, hW, hsame⟩ := X23.leave (v := some (.int (1 : Int32))) (fun h => by rw [Bd.returns] at h; cases h)
          refine ⟨_, _, pre25 _ ?_, hrun, hended, _, _, rfl, ?_, ⟨_, rfl⟩, hW, hsame.mono (by decide) (by decide)⟩
          · exact retN X23 hx (t := .boolean) Bd.returns (by simp) (hb hby at_46) hr
          · show Q_law Z p1 w0 w1 w2 w3 w4 w5 w6 h0 n0 _ T23.heap _
            rw [hq24]
            exact ⟨rfl, N23, rfl⟩
        · by_cases hs26 : (own_irem (p1 &&& (2147483647 : Int32)) (7 : Int32)) = (4 : Int32)
          · obtain ⟨_, _, ⟨T27, L27, k27, n27⟩, -, X27, ⟨Lc27, hQ27, l27, y27, z27⟩, st27⟩ := Jvm.LawKit.callS X0 hx (y := (⟨"com/example/tiptoe/tiptoe/RelationKindHoldsDataPinLaw", "pick", "(I)Lcom/example/tiptoe/tiptoe/RelationKind;"⟩ : MethodName)) hown (mvT hZ (hw _ (List.mem_of_getElem? (i := 1) rfl))) (mvT hZ (hw _ (List.mem_of_getElem? (i := 2) rfl))) (mvT hZ (hw _ (List.mem_of_getElem? (i := 3) rfl))) (mvT hZ (hw _ (List.mem_of_getElem? (i := 4) rfl))) (by decide) (backOf (W := 0) (rm_pick l Z a0 hw [] (own_irem (p1 &&& (2147483647 : Int32)) (7 : Int32)) w0 w1 w2 w3 w4 w5 w6 w4 h0 n0 Z0 H0_S H1_S H2_S H3_S H4_S H5_S H6_S (fun q => absurd q hs2) (fun _ q => absurd q hs8) (fun _ _ q => absurd q hs14) (fun _ _ _ q => absurd q hs20) (fun _ _ _ _ _ => rfl) (fun _ _ _ _ q _ => absurd hs26 q) (fun _ _ _ _ q _ => absurd hs26 q)) hZ (hw _ (List.mem_of_getElem? (i := 4) rfl)) (hw _ (List.mem_of_getElem? (i := 3) rfl)) (by decide) (by decide)) (g := (mkF m 9 #[.val (.int p1), .val (.int (own_irem (p1 &&& (2147483647 : Int32)) (7 : Int32))), .unset, .unset] [(.int (own_irem (p1 &&& (2147483647 : Int32)) (7 : Int32)))])) rfl (by rw [hml]; rfl) (argsL := [(.int (own_irem (p1 &&& (2147483647 : Int32)) (7 : Int32)))]) (rest := []) (lenOf pd_0 rfl) rfl (by show 2 * 0 + _ ≤ _; exact Nat.le_of_eq rfl) (hb hby at_9) (fun _ _ => ⟨rfl, e0, (by decide : 0 + 0 ≤ _), (by decide : 0 + 0 ≤ _)⟩)
            dsimp only [Pt.U, Pt.locs, Pt.cells, Pt.slots] at X27 l27 y27 z27 st27 hQ27
            subst l27 y27 z27
            obtain ⟨rfl, N27q, hq28⟩ := hQ27
            have N27 := Fr.app N0 N27q
            obtain ⟨cq29, kq29, q29a, q29b, q29c⟩ := isOf hZ hq28 H11_E
            obtain ⟨_, _, ⟨T29, L29, k29, n29⟩, -, X29, ⟨Lc29, hQ29, l29, y29, z29⟩, st29⟩ := X27.virtualBack hx (y := (⟨"com/example/tiptoe/tiptoe/RelationKind", "holdsData", "()Z"⟩ : MethodName)) (z := (⟨"com/example/tiptoe/tiptoe/RelationKind", "holdsData", "()Z"⟩ : MethodName)) hown (mvT hZ (hw _ (List.mem_of_getElem? (i := 8) rfl))) (mvT hZ (hw _ (List.mem_of_getElem? (i := 9) rfl))) (notFace_of_selects (args := #[]) (mvT hZ (hw _ (List.mem_of_getElem? (i := 11) rfl)))) (mvT hZ (hw _ (List.mem_of_getElem? (i := 11) rfl))) (mvT hZ (hw _ (List.mem_of_getElem? (i := 10) rfl))) (by decide) (backOf (W := 0) (rm_hold l Z a0 hw [] w4 w0 w1 w2 (0 : Int32) h0 n0 Z0 H0_S H1_S H2_S (fun q => absurd q hne_w4_w0) (fun _ q => absurd q hne_w4_w1) (fun _ _ q => absurd q hne_w4_w2) (fun _ _ _ => rfl)) hZ (hw _ (List.mem_of_getElem? (i := 12) rfl)) (hw _ (List.mem_of_getElem? (i := 6) rfl)) (by decide) (by decide)) q29a q29c (g := (mkF m 34 #[.val (.int p1), .val (.int (own_irem (p1 &&& (2147483647 : Int32)) (7 : Int32))), .val (.ref w4), .val (.int (0 : Int32))] [(.ref w4)])) rfl (by rw [hml]; rfl) (Steps.refl _) (argsL := []) (rest := []) (lenOf pd_1 rfl) rfl (by show 2 * 0 + _ ≤ _; exact Nat.le_of_eq rfl) (hb hby at_34) (fun _ _ => ⟨rfl, hq28, (by decide : 0 + 0 ≤ _), (by decide : 0 + 0 ≤ _)⟩)
            dsimp only [Pt.U, Pt.locs, Pt.cells, Pt.slots] at X29 l29 y29 z29 st29 hQ29
            subst l29 y29 z29
            obtain ⟨rfl, N29q, hq30⟩ := hQ29
            have N29 := Fr.app N27 N29q
            have pre31 := fun (t : State) (k : Steps p.tables e below (T29.setTop (mkF m 46 #[.val (.int p1), .val (.int (own_irem (p1 &&& (2147483647 : Int32)) (7 : Int32))), .val (.ref w4), .val (.int (0 : Int32))] [(.int (1 : Int32))])) t) => pre1 t (by
              refine st27 _ ?_
              show Steps p.tables e below (T27.setTop (mkF m 12 #[.val (.int p1), .val (.int (own_irem (p1 &&& (2147483647 : Int32)) (7 : Int32))), .unset, .unset] [(.ref w4)])) _
              refine XS.astoreN X27.here hx rfl (hb hby at_12) rfl rfl (l' := #[.val (.int p1), .val (.int (own_irem (p1 &&& (2147483647 : Int32)) (7 : Int32))), .val (.ref w4), .unset]) rfl ?_
              show Steps p.tables e below (T27.setTop (mkF m 13 #[.val (.int p1), .val (.int (own_irem (p1 &&& (2147483647 : Int32)) (7 : Int32))), .val (.ref w4), .unset] [])) _
              refine XS.iloadN X27.here hx rfl (hb hby at_13) rfl ?_
              show Steps p.tables e below (T27.setTop (mkF m 14 #[.val (.int p1), .val (.int (own_irem (p1 &&& (2147483647 : Int32)) (7 : Int32))), .val (.ref w4), .unset] [(.int (own_irem (p1 &&& (2147483647 : Int32)) (7 : Int32)))])) _
              refine XS.ifNo X27.here hx rfl (hb hby at_14) rfl ((if0 _ _).trans (feq hs2).1) ?_
              show Steps p.tables e below (T27.setTop (mkF m 17 #[.val (.int p1), .val (.int (own_irem (p1 &&& (2147483647 : Int32)) (7 : Int32))), .val (.ref w4), .unset] [])) _
              refine XS.iloadN X27.here hx rfl (hb hby at_17) rfl ?_
              show Steps p.tables e below (T27.setTop (mkF m 18 #[.val (.int p1), .val (.int (own_irem (p1 &&& (2147483647 : Int32)) (7 : Int32))), .val (.ref w4), .unset] [(.int (own_irem (p1 &&& (2147483647 : Int32)) (7 : Int32)))])) _
              refine XS.iconst X27.here hx rfl (hb hby at_18) ?_
              show Steps p.tables e below (T27.setTop (mkF m 19 #[.val (.int p1), .val (.int (own_irem (p1 &&& (2147483647 : Int32)) (7 : Int32))), .val (.ref w4), .unset] [(.int (1 : Int32)), (.int (own_irem (p1 &&& (2147483647 : Int32)) (7 : Int32)))])) _
              refine XS.icmpNo X27.here hx rfl (hb hby at_19) rfl (feq hs8).1 ?_
              show Steps p.tables e below (T27.setTop (mkF m 22 #[.val (.int p1), .val (.int (own_irem (p1 &&& (2147483647 : Int32)) (7 : Int32))), .val (.ref w4), .unset] [])) _
              refine XS.iloadN X27.here hx rfl (hb hby at_22) rfl ?_
              show Steps p.tables e below (T27.setTop (mkF m 23 #[.val (.int p1), .val (.int (own_irem (p1 &&& (2147483647 : Int32)) (7 : Int32))), .val (.ref w4), .unset] [(.int (own_irem (p1 &&& (2147483647 : Int32)) (7 : Int32)))])) _
              refine XS.iconst X27.here hx rfl (hb hby at_23) ?_
              show Steps p.tables e below (T27.setTop (mkF m 24 #[.val (.int p1), .val (.int (own_irem (p1 &&& (2147483647 : Int32)) (7 : Int32))), .val (.ref w4), .unset] [(.int (2 : Int32)), (.int (own_irem (p1 &&& (2147483647 : Int32)) (7 : Int32)))])) _
              refine XS.icmpYes X27.here hx rfl (pc0 := 24) (pc' := 31) rfl (hb hby at_24) rfl (feq hs14).2 (by decide) (by decide) ?_
              show Steps p.tables e below (T27.setTop (mkF m 31 #[.val (.int p1), .val (.int (own_irem (p1 &&& (2147483647 : Int32)) (7 : Int32))), .val (.ref w4), .unset] [])) _
              refine XS.iconst X27.here hx rfl (hb hby at_31) ?_
              show Steps p.tables e below (T27.setTop (mkF m 32 #[.val (.int p1), .val (.int (own_irem (p1 &&& (2147483647 : Int32)) (7 : Int32))), .val (.ref w4), .unset] [(.int (0 : Int32))])) _
              refine XS.istoreN X27.here hx rfl (hb hby at_32) rfl (l' := #[.val (.int p1), .val (.int (own_irem (p1 &&& (2147483647 : Int32)) (7 : Int32))), .val (.ref w4), .val (.int (0 : Int32))]) rfl ?_
              show Steps p.tables e below (T27.setTop (mkF m 33 #[.val (.int p1), .val (.int (own_irem (p1 &&& (2147483647 : Int32)) (7 : Int32))), .val (.ref w4), .val (.int (0 : Int32))] [])) _
              refine XS.aloadN X27.here hx rfl (hb hby at_33) rfl rfl ?_
              show Steps p.tables e below (T27.setTop (mkF m 34 #[.val (.int p1), .val (.int (own_irem (p1 &&& (2147483647 : Int32)) (7 : Int32))), .val (.ref w4), .val (.int (0 : Int32))] [(.ref w4)])) _
              refine st29.trans ?_
              show Steps p.tables e below (T29.setTop (mkF m 37 #[.val (.int p1), .val (.int (own_irem (p1 &&& (2147483647 : Int32)) (7 : Int32))), .val (.ref w4), .val (.int (0 : Int32))] [(.int (0 : Int32))])) _
              refine XS.iloadN X29.here hx rfl (hb hby at_37) rfl ?_
              show Steps p.tables e below (T29.setTop (mkF m 38 #[.val (.int p1), .val (.int (own_irem (p1 &&& (2147483647 : Int32)) (7 : Int32))), .val (.ref w4), .val (.int (0 : Int32))] [(.int (0 : Int32)), (.int (0 : Int32))])) _
              refine XS.icmpNo X29.here hx rfl (hb hby at_38) rfl (teq (by decide : (0 : Int32) = (0 : Int32))).2 ?_
              show Steps p.tables e below (T29.setTop (mkF m 41 #[.val (.int p1), .val (.int (own_irem (p1 &&& (2147483647 : Int32)) (7 : Int32))), .val (.ref w4), .val (.int (0 : Int32))] [])) _
              refine XS.iconst X29.here hx rfl (hb hby at_41) ?_
              show Steps p.tables e below (T29.setTop (mkF m 42 #[.val (.int p1), .val (.int (own_irem (p1 &&& (2147483647 : Int32)) (7 : Int32))), .val (.ref w4), .val (.int (0 : Int32))] [(.int (1 : Int32))])) _
              refine XS.goto X29.here hx rfl (pc0 := 42) (pc' := 46) rfl (hb hby at_42) (by decide) (by decide) ?_
              show Steps p.tables e below (T29.setTop (mkF m 46 #[.val (.int p1), .val (.int (own_irem (p1 &&& (2147483647 : Int32)) (7 : Int32))), .val (.ref w4), .val (.int (0 : Int32))] [(.int (1 : Int32))])) _
              exact k)
            obtain ⟨fs, hr, hrun, hended, hW, hsame⟩ := X29.leave (v := some (.int (1 : Int32))) (fun h => by rw [Bd.returns] at h; cases h)
            refine ⟨_, _, pre31 _ ?_, hrun, hended, _, _, rfl, ?_, ⟨_, rfl⟩, hW, hsame.mono (by decide) (by decide)⟩
            · exact retN X29 hx (t := .boolean) Bd.returns (by simp) (hb hby at_46) hr
            · show Q_law Z p1 w0 w1 w2 w3 w4 w5 w6 h0 n0 _ T29.heap _
              rw [hq30]
              exact ⟨rfl, N29, rfl⟩
          · by_cases hs32 : (own_irem (p1 &&& (2147483647 : Int32)) (7 : Int32)) = (5 : Int32)
            · obtain ⟨_, _, ⟨T33, L33, k33, n33⟩, -, X33, ⟨Lc33, hQ33, l33, y33, z33⟩, st33⟩ := Jvm.LawKit.callS X0 hx (y := (⟨"com/example/tiptoe/tiptoe/RelationKindHoldsDataPinLaw", "pick", "(I)Lcom/example/tiptoe/tiptoe/RelationKind;"⟩ : MethodName)) hown (mvT hZ (hw _ (List.mem_of_getElem? (i := 1) rfl))) (mvT hZ (hw _ (List.mem_of_getElem? (i := 2) rfl))) (mvT hZ (hw _ (List.mem_of_getElem? (i := 3) rfl))) (mvT hZ (hw _ (List.mem_of_getElem? (i := 4) rfl))) (by decide) (backOf (W := 0) (rm_pick l Z a0 hw [] (own_irem (p1 &&& (2147483647 : Int32)) (7 : Int32)) w0 w1 w2 w3 w4 w5 w6 w5 h0 n0 Z0 H0_S H1_S H2_S H3_S H4_S H5_S H6_S (fun q => absurd q hs2) (fun _ q => absurd q hs8) (fun _ _ q => absurd q hs14) (fun _ _ _ q => absurd q hs20) (fun _ _ _ _ q => absurd q hs26) (fun _ _ _ _ _ _ => rfl) (fun _ _ _ _ _ q => absurd hs32 q)) hZ (hw _ (List.mem_of_getElem? (i := 4) rfl)) (hw _ (List.mem_of_getElem? (i := 3) rfl)) (by decide) (by decide)) (g := (mkF m 9 #[.val (.int p1), .val (.int (own_irem (p1 &&& (2147483647 : Int32)) (7 : Int32))), .unset, .unset] [(.int (own_irem (p1 &&& (2147483647 : Int32)) (7 : Int32)))])) rfl (by rw [hml]; rfl) (argsL := [(.int (own_irem (p1 &&& (2147483647 : Int32)) (7 : Int32)))]) (rest := []) (lenOf pd_0 rfl) rfl (by show 2 * 0 + _ ≤ _; exact Nat.le_of_eq rfl) (hb hby at_9) (fun _ _ => ⟨rfl, e0, (by decide : 0 + 0 ≤ _), (by decide : 0 + 0 ≤ _)⟩)
              dsimp only [Pt.U, Pt.locs, Pt.cells, Pt.slots] at X33 l33 y33 z33 st33 hQ33
              subst l33 y33 z33
              obtain ⟨rfl, N33q, hq34⟩ := hQ33
              have N33 := Fr.app N0 N33q
              obtain ⟨cq35, kq35, q35a, q35b, q35c⟩ := isOf hZ hq34 H12_E
              obtain ⟨_, _, ⟨T35, L35, k35, n35⟩, -, X35, ⟨Lc35, hQ35, l35, y35, z35⟩, st35⟩ := X33.virtualBack hx (y := (⟨"com/example/tiptoe/tiptoe/RelationKind", "holdsData", "()Z"⟩ : MethodName)) (z := (⟨"com/example/tiptoe/tiptoe/RelationKind", "holdsData", "()Z"⟩ : MethodName)) hown (mvT hZ (hw _ (List.mem_of_getElem? (i := 8) rfl))) (mvT hZ (hw _ (List.mem_of_getElem? (i := 9) rfl))) (notFace_of_selects (args := #[]) (mvT hZ (hw _ (List.mem_of_getElem? (i := 11) rfl)))) (mvT hZ (hw _ (List.mem_of_getElem? (i := 11) rfl))) (mvT hZ (hw _ (List.mem_of_getElem? (i := 10) rfl))) (by decide) (backOf (W := 0) (rm_hold l Z a0 hw [] w5 w0 w1 w2 (0 : Int32) h0 n0 Z0 H0_S H1_S H2_S (fun q => absurd q hne_w5_w0) (fun _ q => absurd q hne_w5_w1) (fun _ _ q => absurd q hne_w5_w2) (fun _ _ _ => rfl)) hZ (hw _ (List.mem_of_getElem? (i := 12) rfl)) (hw _ (List.mem_of_getElem? (i := 6) rfl)) (by decide) (by decide)) q35a q35c (g := (mkF m 34 #[.val (.int p1), .val (.int (own_irem (p1 &&& (2147483647 : Int32)) (7 : Int32))), .val (.ref w5), .val (.int (0 : Int32))] [(.ref w5)])) rfl (by rw [hml]; rfl) (Steps.refl _) (argsL := []) (rest := []) (lenOf pd_1 rfl) rfl (by show 2 * 0 + _ ≤ _; exact Nat.le_of_eq rfl) (hb hby at_34) (fun _ _ => ⟨rfl, hq34, (by decide : 0 + 0 ≤ _), (by decide : 0 + 0 ≤ _)⟩)
              dsimp only [Pt.U, Pt.locs, Pt.cells, Pt.slots] at X35 l35 y35 z35 st35 hQ35
              subst l35 y35 z35
              obtain ⟨rfl, N35q, hq36⟩ := hQ35
              have N35 := Fr.app N33 N35q
              have pre37 := fun (t : State) (k : Steps p.tables e below (T35.setTop (mkF m 46 #[.val (.int p1), .val (.int (own_irem (p1 &&& (2147483647 : Int32)) (7 : Int32))), .val (.ref w5), .val (.int (0 : Int32))] [(.int (1 : Int32))])) t) => pre1 t (by
                refine st33 _ ?_
                show Steps p.tables e below (T33.setTop (mkF m 12 #[.val (.int p1), .val (.int (own_irem (p1 &&& (2147483647 : Int32)) (7 : Int32))), .unset, .unset] [(.ref w5)])) _
                refine XS.astoreN X33.here hx rfl (hb hby at_12) rfl rfl (l' := #[.val (.int p1), .val (.int (own_irem (p1 &&& (2147483647 : Int32)) (7 : Int32))), .val (.ref w5), .unset]) rfl ?_
                show Steps p.tables e below (T33.setTop (mkF m 13 #[.val (.int p1), .val (.int (own_irem (p1 &&& (2147483647 : Int32)) (7 : Int32))), .val (.ref w5), .unset] [])) _
                refine XS.iloadN X33.here hx rfl (hb hby at_13) rfl ?_
                show Steps p.tables e below (T33.setTop (mkF m 14 #[.val (.int p1), .val (.int (own_irem (p1 &&& (2147483647 : Int32)) (7 : Int32))), .val (.ref w5), .unset] [(.int (own_irem (p1 &&& (2147483647 : Int32)) (7 : Int32)))])) _
                refine XS.ifNo X33.here hx rfl (hb hby at_14) rfl ((if0 _ _).trans (feq hs2).1) ?_
                show Steps p.tables e below (T33.setTop (mkF m 17 #[.val (.int p1), .val (.int (own_irem (p1 &&& (2147483647 : Int32)) (7 : Int32))), .val (.ref w5), .unset] [])) _
                refine XS.iloadN X33.here hx rfl (hb hby at_17) rfl ?_
                show Steps p.tables e below (T33.setTop (mkF m 18 #[.val (.int p1), .val (.int (own_irem (p1 &&& (2147483647 : Int32)) (7 : Int32))), .val (.ref w5), .unset] [(.int (own_irem (p1 &&& (2147483647 : Int32)) (7 : Int32)))])) _
                refine XS.iconst X33.here hx rfl (hb hby at_18) ?_
                show Steps p.tables e below (T33.setTop (mkF m 19 #[.val (.int p1), .val (.int (own_irem (p1 &&& (2147483647 : Int32)) (7 : Int32))), .val (.ref w5), .unset] [(.int (1 : Int32)), (.int (own_irem (p1 &&& (2147483647 : Int32)) (7 : Int32)))])) _
                refine XS.icmpNo X33.here hx rfl (hb hby at_19) rfl (feq hs8).1 ?_
                show Steps p.tables e below (T33.setTop (mkF m 22 #[.val (.int p1), .val (.int (own_irem (p1 &&& (2147483647 : Int32)) (7 : Int32))), .val (.ref w5), .unset] [])) _
                refine XS.iloadN X33.here hx rfl (hb hby at_22) rfl ?_
                show Steps p.tables e below (T33.setTop (mkF m 23 #[.val (.int p1), .val (.int (own_irem (p1 &&& (2147483647 : Int32)) (7 : Int32))), .val (.ref w5), .unset] [(.int (own_irem (p1 &&& (2147483647 : Int32)) (7 : Int32)))])) _
                refine XS.iconst X33.here hx rfl (hb hby at_23) ?_
                show Steps p.tables e below (T33.setTop (mkF m 24 #[.val (.int p1), .val (.int (own_irem (p1 &&& (2147483647 : Int32)) (7 : Int32))), .val (.ref w5), .unset] [(.int (2 : Int32)), (.int (own_irem (p1 &&& (2147483647 : Int32)) (7 : Int32)))])) _
                refine XS.icmpYes X33.here hx rfl (pc0 := 24) (pc' := 31) rfl (hb hby at_24) rfl (feq hs14).2 (by decide) (by decide) ?_
                show Steps p.tables e below (T33.setTop (mkF m 31 #[.val (.int p1), .val (.int (own_irem (p1 &&& (2147483647 : Int32)) (7 : Int32))), .val (.ref w5), .unset] [])) _
                refine XS.iconst X33.here hx rfl (hb hby at_31) ?_
                show Steps p.tables e below (T33.setTop (mkF m 32 #[.val (.int p1), .val (.int (own_irem (p1 &&& (2147483647 : Int32)) (7 : Int32))), .val (.ref w5), .unset] [(.int (0 : Int32))])) _
                refine XS.istoreN X33.here hx rfl (hb hby at_32) rfl (l' := #[.val (.int p1), .val (.int (own_irem (p1 &&& (2147483647 : Int32)) (7 : Int32))), .val (.ref w5), .val (.int (0 : Int32))]) rfl ?_
                show Steps p.tables e below (T33.setTop (mkF m 33 #[.val (.int p1), .val (.int (own_irem (p1 &&& (2147483647 : Int32)) (7 : Int32))), .val (.ref w5), .val (.int (0 : Int32))] [])) _
                refine XS.aloadN X33.here hx rfl (hb hby at_33) rfl rfl ?_
                show Steps p.tables e below (T33.setTop (mkF m 34 #[.val (.int p1), .val (.int (own_irem (p1 &&& (2147483647 : Int32)) (7 : Int32))), .val (.ref w5), .val (.int (0 : Int32))] [(.ref w5)])) _
                refine st35.trans ?_
                show Steps p.tables e below (T35.setTop (mkF m 37 #[.val (.int p1), .val (.int (own_irem (p1 &&& (2147483647 : Int32)) (7 : Int32))), .val (.ref w5), .val (.int (0 : Int32))] [(.int (0 : Int32))])) _
                refine XS.iloadN X35.here hx rfl (hb hby at_37) rfl ?_
                show Steps p.tables e below (T35.setTop (mkF m 38 #[.val (.int p1), .val (.int (own_irem (p1 &&& (2147483647 : Int32)) (7 : Int32))), .val (.ref w5), .val (.int (0 : Int32))] [(.int (0 : Int32)), (.int (0 : Int32))])) _
                refine XS.icmpNo X35.here hx rfl (hb hby at_38) rfl (teq (by decide : (0 : Int32) = (0 : Int32))).2 ?_
                show Steps p.tables e below (T35.setTop (mkF m 41 #[.val (.int p1), .val (.int (own_irem (p1 &&& (2147483647 : Int32)) (7 : Int32))), .val (.ref w5), .val (.int (0 : Int32))] [])) _
                refine XS.iconst X35.here hx rfl (hb hby at_41) ?_
                show Steps p.tables e below (T35.setTop (mkF m 42 #[.val (.int p1), .val (.int (own_irem (p1 &&& (2147483647 : Int32)) (7 : Int32))), .val (.ref w5), .val (.int (0 : Int32))] [(.int (1 : Int32))])) _
                refine XS.goto X35.here hx rfl (pc0 := 42) (pc' := 46) rfl (hb hby at_42) (by decide) (by decide) ?_
                show Steps p.tables e below (T35.setTop (mkF m 46 #[.val (.int p1), .val (.int (own_irem (p1 &&& (2147483647 : Int32)) (7 : Int32))), .val (.ref w5), .val (.int (0 : Int32))] [(.int (1 : Int32))])) _
                exact k)
              obtain ⟨fs, hr, hrun, hended, hW, hsame⟩ := X35.leave (v := some (.int (1 : Int32))) (fun h => by rw [Bd.returns] at h; cases h)
              refine ⟨_, _, pre37 _ ?_, hrun, hended, _, _, rfl, ?_, ⟨_, rfl⟩, hW, hsame.mono (by decide) (by decide)⟩
              · exact retN X35 hx (t := .boolean) Bd.returns (by simp) (hb hby at_46) hr
              · show Q_law Z p1 w0 w1 w2 w3 w4 w5 w6 h0 n0 _ T35.heap _
                rw [hq36]
                exact ⟨rfl, N35, rfl⟩
            · obtain ⟨_, _, ⟨T38, L38, k38, n38⟩, -, X38, ⟨Lc38, hQ38, l38, y38, z38⟩, st38⟩ := Jvm.LawKit.callS X0 hx (y := (⟨"com/example/tiptoe/tiptoe/RelationKindHoldsDataPinLaw", "pick", "(I)Lcom/example/tiptoe/tiptoe/RelationKind;"⟩ : MethodName)) hown (mvT hZ (hw _ (List.mem_of_getElem? (i := 1) rfl))) (mvT hZ (hw _ (List.mem_of_getElem? (i := 2) rfl))) (mvT hZ (hw _ (List.mem_of_getElem? (i := 3) rfl))) (mvT hZ (hw _ (List.mem_of_getElem? (i := 4) rfl))) (by decide) (backOf (W := 0) (rm_pick l Z a0 hw [] (own_irem (p1 &&& (2147483647 : Int32)) (7 : Int32)) w0 w1 w2 w3 w4 w5 w6 w6 h0 n0 Z0 H0_S H1_S H2_S H3_S H4_S H5_S H6_S (fun q => absurd q hs2) (fun _ q => absurd q hs8) (fun _ _ q => absurd q hs14) (fun _ _ _ q => absurd q hs20) (fun _ _ _ _ q => absurd q hs26) (fun _ _ _ _ _ q => absurd q hs32) (fun _ _ _ _ _ _ => rfl)) hZ (hw _ (List.mem_of_getElem? (i := 4) rfl)) (hw _ (List.mem_of_getElem? (i := 3) rfl)) (by decide) (by decide)) (g := (mkF m 9 #[.val (.int p1), .val (.int (own_irem (p1 &&& (2147483647 : Int32)) (7 : Int32))), .unset, .unset] [(.int (own_irem (p1 &&& (2147483647 : Int32)) (7 : Int32)))])) rfl (by rw [hml]; rfl) (argsL := [(.int (own_irem (p1 &&& (2147483647 : Int32)) (7 : Int32)))]) (rest := []) (lenOf pd_0 rfl) rfl (by show 2 * 0 + _ ≤ _; exact Nat.le_of_eq rfl) (hb hby at_9) (fun _ _ => ⟨rfl, e0, (by decide : 0 + 0 ≤ _), (by decide : 0 + 0 ≤ _)⟩)
              dsimp only [Pt.U, Pt.locs, Pt.cells, Pt.slots] at X38 l38 y38 z38 st38 hQ38
              subst l38 y38 z38
              obtain ⟨rfl, N38q, hq39⟩ := hQ38
              have N38 := Fr.app N0 N38q
              obtain ⟨cq40, kq40, q40a, q40b, q40c⟩ := isOf hZ hq39 H13_E
              obtain ⟨_, _, ⟨T40, L40, k40, n40⟩, -, X40, ⟨Lc40, hQ40, l40, y40, z40⟩, st40⟩ := X38.virtualBack hx (y := (⟨"com/example/tiptoe/tiptoe/RelationKind", "holdsData", "()Z"⟩ : MethodName)) (z := (⟨"com/example/tiptoe/tiptoe/RelationKind", "holdsData", "()Z"⟩ : MethodName)) hown (mvT hZ (hw _ (List.mem_of_getElem? (i := 8) rfl))) (mvT hZ (hw _ (List.mem_of_getElem? (i := 9) rfl))) (notFace_of_selects (args := #[]) (mvT hZ (hw _ (List.mem_of_getElem? (i := 11) rfl)))) (mvT hZ (hw _ (List.mem_of_getElem? (i := 11) rfl))) (mvT hZ (hw _ (List.mem_of_getElem? (i := 10) rfl))) (by decide) (backOf (W := 0) (rm_hold l Z a0 hw [] w6 w0 w1 w2 (0 : Int32) h0 n0 Z0 H0_S H1_S H2_S (fun q => absurd q hne_w6_w0) (fun _ q => absurd q hne_w6_w1) (fun _ _ q => absurd q hne_w6_w2) (fun _ _ _ => rfl)) hZ (hw _ (List.mem_of_getElem? (i := 12) rfl)) (hw _ (List.mem_of_getElem? (i := 6) rfl)) (by decide) (by decide)) q40a q40c (g := (mkF m 34 #[.val (.int p1), .val (.int (own_irem (p1 &&& (2147483647 : Int32)) (7 : Int32))), .val (.ref w6), .val (.int (0 : Int32))] [(.ref w6)])) rfl (by rw [hml]; rfl) (Steps.refl _) (argsL := []) (rest := []) (lenOf pd_1 rfl) rfl (by show 2 * 0 + _ ≤ _; exact Nat.le_of_eq rfl) (hb hby at_34) (fun _ _ => ⟨rfl, hq39, (by decide : 0 + 0 ≤ _), (by decide : 0 + 0 ≤ _)⟩)
              dsimp only [Pt.U, Pt.locs, Pt.cells, Pt.slots] at X40 l40 y40 z40 st40 hQ40
              subst l40 y40 z40
              obtain ⟨rfl, N40q, hq41⟩ := hQ40
              have N40 := Fr.app N38 N40q
              have pre42 := fun (t : State) (k : Steps p.tables e below (T40.setTop (mkF m 46 #[.val (.int p1), .val (.int (own_irem (p1 &&& (2147483647 : Int32)) (7 : Int32))), .val (.ref w6), .val (.int (0 : Int32))] [(.int (1 : Int32))])) t) => pre1 t (by
                refine st38 _ ?_
                show Steps p.tables e below (T38.setTop (mkF m 12 #[.val (.int p1), .val (.int (own_irem (p1 &&& (2147483647 : Int32)) (7 : Int32))), .unset, .unset] [(.ref w6)])) _
                refine XS.astoreN X38.here hx rfl (hb hby at_12) rfl rfl (l' := #[.val (.int p1), .val (.int (own_irem (p1 &&& (2147483647 : Int32)) (7 : Int32))), .val (.ref w6), .unset]) rfl ?_
                show Steps p.tables e below (T38.setTop (mkF m 13 #[.val (.int p1), .val (.int (own_irem (p1 &&& (2147483647 : Int32)) (7 : Int32))), .val (.ref w6), .unset] [])) _
                refine XS.iloadN X38.here hx rfl (hb hby at_13) rfl ?_
                show Steps p.tables e below (T38.setTop (mkF m 14 #[.val (.int p1), .val (.int (own_irem (p1 &&& (2147483647 : Int32)) (7 : Int32))), .val (.ref w6), .unset] [(.int (own_irem (p1 &&& (2147483647 : Int32)) (7 : Int32)))])) _
                refine XS.ifNo X38.here hx rfl (hb hby at_14) rfl ((if0 _ _).trans (feq hs2).1) ?_
                show Steps p.tables e below (T38.setTop (mkF m 17 #[.val (.int p1), .val (.int (own_irem (p1 &&& (2147483647 : Int32)) (7 : Int32))), .val (.ref w6), .unset] [])) _
                refine XS.iloadN X38.here hx rfl (hb hby at_17) rfl ?_
                show Steps p.tables e below (T38.setTop (mkF m 18 #[.val (.int p1), .val (.int (own_irem (p1 &&& (2147483647 : Int32)) (7 : Int32))), .val (.ref w6), .unset] [(.int (own_irem (p1 &&& (2147483647 : Int32)) (7 : Int32)))])) _
                refine XS.iconst X38.here hx rfl (hb hby at_18) ?_
                show Steps p.tables e below (T38.setTop (mkF m 19 #[.val (.int p1), .val (.int (own_irem (p1 &&& (2147483647 : Int32)) (7 : Int32))), .val (.ref w6), .unset] [(.int (1 : Int32)), (.int (own_irem (p1 &&& (2147483647 : Int32)) (7 : Int32)))])) _
                refine XS.icmpNo X38.here hx rfl (hb hby at_19) rfl (feq hs8).1 ?_
                show Steps p.tables e below (T38.setTop (mkF m 22 #[.val (.int p1), .val (.int (own_irem (p1 &&& (2147483647 : Int32)) (7 : Int32))), .val (.ref w6), .unset] [])) _
                refine XS.iloadN X38.here hx rfl (hb hby at_22) rfl ?_
                show Steps p.tables e below (T38.setTop (mkF m 23 #[.val (.int p1), .val (.int (own_irem (p1 &&& (2147483647 : Int32)) (7 : Int32))), .val (.ref w6), .unset] [(.int (own_irem (p1 &&& (2147483647 : Int32)) (7 : Int32)))])) _
                refine XS.iconst X38.here hx rfl (hb hby at_23) ?_
                show Steps p.tables e below (T38.setTop (mkF m 24 #[.val (.int p1), .val (.int (own_irem (p1 &&& (2147483647 : Int32)) (7 : Int32))), .val (.ref w6), .unset] [(.int (2 : Int32)), (.int (own_irem (p1 &&& (2147483647 : Int32)) (7 : Int32)))])) _
                refine XS.icmpYes X38.here hx rfl (pc0 := 24) (pc' := 31) rfl (hb hby at_24) rfl (feq hs14).2 (by decide) (by decide) ?_
                show Steps p.tables e below (T38.setTop (mkF m 31 #[.val (.int p1), .val (.int (own_irem (p1 &&& (2147483647 : Int32)) (7 : Int32))), .val (.ref w6), .unset] [])) _
                refine XS.iconst X38.here hx rfl (hb hby at_31) ?_
                show Steps p.tables e below (T38.setTop (mkF m 32 #[.val (.int p1), .val (.int (own_irem (p1 &&& (2147483647 : Int32)) (7 : Int32))), .val (.ref w6), .unset] [(.int (0 : Int32))])) _
                refine XS.istoreN X38.here hx rfl (hb hby at_32) rfl (l' := #[.val (.int p1), .val (.int (own_irem (p1 &&& (2147483647 : Int32)) (7 : Int32))), .val (.ref w6), .val (.int (0 : Int32))]) rfl ?_
                show Steps p.tables e below (T38.setTop (mkF m 33 #[.val (.int p1), .val (.int (own_irem (p1 &&& (2147483647 : Int32)) (7 : Int32))), .val (.ref w6), .val (.int (0 : Int32))] [])) _
                refine XS.aloadN X38.here hx rfl (hb hby at_33) rfl rfl ?_
                show Steps p.tables e below (T38.setTop (mkF m 34 #[.val (.int p1), .val (.int (own_irem (p1 &&& (2147483647 : Int32)) (7 : Int32))), .val (.ref w6), .val (.int (0 : Int32))] [(.ref w6)])) _
                refine st40.trans ?_
                show Steps p.tables e below (T40.setTop (mkF m 37 #[.val (.int p1), .val (.int (own_irem (p1 &&& (2147483647 : Int32)) (7 : Int32))), .val (.ref w6), .val (.int (0 : Int32))] [(.int (0 : Int32))])) _
                refine XS.iloadN X40.here hx rfl (hb hby at_37) rfl ?_
                show Steps p.tables e below (T40.setTop (mkF m 38 #[.val (.int p1), .val (.int (own_irem (p1 &&& (2147483647 : Int32)) (7 : Int32))), .val (.ref w6), .val (.int (0 : Int32))] [(.int (0 : Int32)), (.int (0 : Int32))])) _
                refine XS.icmpNo X40.here hx rfl (hb hby at_38) rfl (teq (by decide : (0 : Int32) = (0 : Int32))).2 ?_
                show Steps p.tables e below (T40.setTop (mkF m 41 #[.val (.int p1), .val (.int (own_irem (p1 &&& (2147483647 : Int32)) (7 : Int32))), .val (.ref w6), .val (.int (0 : Int32))] [])) _
                refine XS.iconst X40.here hx rfl (hb hby at_41) ?_
                show Steps p.tables e below (T40.setTop (mkF m 42 #[.val (.int p1), .val (.int (own_irem (p1 &&& (2147483647 : Int32)) (7 : Int32))), .val (.ref w6), .val (.int (0 : Int32))] [(.int (1 : Int32))])) _
                refine XS.goto X40.here hx rfl (pc0 := 42) (pc' := 46) rfl (hb hby at_42) (by decide) (by decide) ?_
                show Steps p.tables e below (T40.setTop (mkF m 46 #[.val (.int p1), .val (.int (own_irem (p1 &&& (2147483647 : Int32)) (7 : Int32))), .val (.ref w6), .val (.int (0 : Int32))] [(.int (1 : Int32))])) _
                exact k)
              obtain ⟨fs, hr, hrun, hended, hW, hsame⟩ := X40.leave (v := some (.int (1 : Int32))) (fun h => by rw [Bd.returns] at h; cases h)
              refine ⟨_, _, pre42 _ ?_, hrun, hended, _, _, rfl, ?_, ⟨_, rfl⟩, hW, hsame.mono (by decide) (by decide)⟩
              · exact retN X40 hx (t := .boolean) Bd.returns (by simp) (hb hby at_46) hr
              · show Q_law Z p1 w0 w1 w2 w3 w4 w5 w6 h0 n0 _ T40.heap _
                rw [hq41]
                exact ⟨rfl, N40, rfl⟩

set_option maxRecDepth 65536 in
set_option maxHeartbeats 40000000 in
theorem comes_1 {Post : Tables → Env → Array Value → State → Outcome → State → Prop} (hpost : ∀ tb e args s v u, (limb_1_1.after args s (.returned v) u = true ∧ limb_1_2.after args s (.returned v) u = true ∧ True) → FrameEnd s (.returned v) u (Jvm.fieldLocs frame_1_writes args s ++ Jvm.arrayLocs frame_1_arrays args s ++ Jvm.staticLocs frame_1_statics s) 0 0 → Post tb e args s (.returned v) u) :
    ArmFor flags0 classFile x code maxLocals ret World_1 tables_1 room_1 Calls_1 rest_1 Pre_1 Post := by
  intro l hfl _ _ p e ha hc hk s m args below hf hA hF happ hP
  obtain ⟨hcalls, hrest, hpre⟩ := hP
  obtain ⟨-, -, -, hnamed, -, -, -, hat⟩ := (Spec.applies_iff hf).mp happ
  obtain ⟨hg, hn⟩ := and_e (Cond.before_iff.mp (show (Jvm.Cond.and given_1 narrow_1).before args s = true from hpre))
  obtain ⟨g1, g2⟩ := and_e hg
  obtain ⟨g3, g4⟩ := and_e hn
  obtain ⟨g5, g6⟩ := and_e g4
  obtain ⟨g7, g8⟩ := and_e g6
  obtain ⟨g9, g10⟩ := and_e g8
  obtain ⟨g11, g12⟩ := and_e g10
  obtain ⟨g13, g14⟩ := and_e g12
  obtain ⟨g15, g16⟩ := and_e g14
  obtain ⟨g17, g18⟩ := and_e g16
  obtain ⟨g19, g20⟩ := and_e g18
  obtain ⟨g21, g22⟩ := and_e g20
  obtain ⟨g23, g24⟩ := and_e g22
  obtain ⟨g25, g26⟩ := and_e g24
  obtain ⟨g27, g28⟩ := and_e g26
  obtain ⟨w0, rfl⟩ : ∃ w0 : Value, args = #[w0] := by
    have hs : args.size = 1 := by simpa [Cond.value, given_1] using g1
    obtain ⟨L⟩ := args
    match L, hs with
    | [w0], _ => exact ⟨w0, rfl⟩
  have hw := fun d (hd : d ∈ tables_1) => atoms_spec (ws := Jvm.Cond.code x code maxLocals ret :: tables_1) hat d (List.mem_cons_of_mem _ hd)
  have hfit : Fit s := fun {y c} hc i hi => by
    obtain ⟨ha, rfl⟩ := Array.getElem?_eq_some_iff.mp hc
    have q := List.all_eq_true.mp ((Array.all_eq_true_iff_forall_mem.mp hF) _ (Array.getElem_mem ha)) i (List.mem_range.mpr hi)
    simpa [Array.getElem?_eq_getElem hi] using q
  obtain ⟨i0, ei0⟩ := is_v g2
  obtain rfl : w0 = (.int i0) := Option.some.inj ei0
  obtain ⟨z_RelationKind_TABLE, ez_RelationKind_TABLE⟩ := exa_v g3
  have S_z_RelationKind_TABLE := Sta.start (Z := s) ez_RelationKind_TABLE (Or.inr ⟨(hw _ (List.mem_of_getElem? (i := 6) rfl)), (hw _ (List.mem_of_getElem? (i := 7) rfl))⟩)
  have E_z_RelationKind_TABLE := Exa.start ez_RelationKind_TABLE g3
  obtain ⟨z_RelationKind_VIEW, ez_RelationKind_VIEW⟩ := exa_v g5
  have S_z_RelationKind_VIEW := Sta.start (Z := s) ez_RelationKind_VIEW (Or.inr ⟨(hw _ (List.mem_of_getElem? (i := 6) rfl)), (hw _ (List.mem_of_getElem? (i := 15) rfl))⟩)
  have E_z_RelationKind_VIEW := Exa.start ez_RelationKind_VIEW g5
  obtain ⟨z_RelationKind_PARTITIONED_TABLE, ez_RelationKind_PARTITIONED_TABLE⟩ := exa_v g11
  have S_z_RelationKind_PARTITIONED_TABLE := Sta.start (Z := s) ez_RelationKind_PARTITIONED_TABLE (Or.inr ⟨(hw _ (List.mem_of_getElem? (i := 6) rfl)), (hw _ (List.mem_of_getElem? (i := 17) rfl))⟩)
  have E_z_RelationKind_PARTITIONED_TABLE := Exa.start ez_RelationKind_PARTITIONED_TABLE g11
  obtain ⟨z_RelationKind_MATERIALIZED_VIEW, ez_RelationKind_MATERIALIZED_VIEW⟩ := exa_v g15
  have S_z_RelationKind_MATERIALIZED_VIEW := Sta.start (Z := s) ez_RelationKind_MATERIALIZED_VIEW (Or.inr ⟨(hw _ (List.mem_of_getElem? (i := 6) rfl)), (hw _ (List.mem_of_getElem? (i := 19) rfl))⟩)
  have E_z_RelationKind_MATERIALIZED_VIEW := Exa.start ez_RelationKind_MATERIALIZED_VIEW g15
  obtain ⟨z_RelationKind_INDEX, ez_RelationKind_INDEX⟩ := exa_v g19
  have S_z_RelationKind_INDEX := Sta.start (Z := s) ez_RelationKind_INDEX (Or.inr ⟨(hw _ (List.mem_of_getElem? (i := 6) rfl)), (hw _ (List.mem_of_getElem? (i := 21) rfl))⟩)
  have E_z_RelationKind_INDEX := Exa.start ez_RelationKind_INDEX g19
  obtain ⟨z_RelationKind_OTHER, ez_RelationKind_OTHER⟩ := exa_v g23
  have S_z_RelationKind_OTHER := Sta.start (Z := s) ez_RelationKind_OTHER (Or.inr ⟨(hw _ (List.mem_of_getElem? (i := 6) rfl)), (hw _ (List.mem_of_getElem? (i := 23) rfl))⟩)
  have E_z_RelationKind_OTHER := Exa.start ez_RelationKind_OTHER g23
  obtain ⟨z_RelationKind_SEQUENCE, ez_RelationKind_SEQUENCE⟩ := exa_v g27
  have S_z_RelationKind_SEQUENCE := Sta.start (Z := s) ez_RelationKind_SEQUENCE (Or.inr ⟨(hw _ (List.mem_of_getElem? (i := 6) rfl)), (hw _ (List.mem_of_getElem? (i := 25) rfl))⟩)
  have E_z_RelationKind_SEQUENCE := Exa.start ez_RelationKind_SEQUENCE g27
  have F_z_RelationKind_VIEW_ordinal := own_fld_eq ez_RelationKind_VIEW g7
  have F_z_RelationKind_TABLE_ordinal := own_fld_eq ez_RelationKind_TABLE g9
  have F_z_RelationKind_PARTITIONED_TABLE_ordinal := own_fld_eq ez_RelationKind_PARTITIONED_TABLE g13
  have F_z_RelationKind_MATERIALIZED_VIEW_ordinal := own_fld_eq ez_RelationKind_MATERIALIZED_VIEW g17
  have F_z_RelationKind_INDEX_ordinal := own_fld_eq ez_RelationKind_INDEX g21
  have F_z_RelationKind_OTHER_ordinal := own_fld_eq ez_RelationKind_OTHER g25
  have F_z_RelationKind_SEQUENCE_ordinal := own_fld_eq ez_RelationKind_SEQUENCE g28
  have ne_z_RelationKind_TABLE_z_RelationKind_VIEW : z_RelationKind_TABLE ≠ z_RelationKind_VIEW := Fld.ne F_z_RelationKind_TABLE_ordinal F_z_RelationKind_VIEW_ordinal (by simp)
  have ne_z_RelationKind_TABLE_z_RelationKind_PARTITIONED_TABLE : z_RelationKind_TABLE ≠ z_RelationKind_PARTITIONED_TABLE := Fld.ne F_z_RelationKind_TABLE_ordinal F_z_RelationKind_PARTITIONED_TABLE_ordinal (by simp)
  have ne_z_RelationKind_TABLE_z_RelationKind_MATERIALIZED_VIEW : z_RelationKind_TABLE ≠ z_RelationKind_MATERIALIZED_VIEW := Fld.ne F_z_RelationKind_TABLE_ordinal F_z_RelationKind_MATERIALIZED_VIEW_ordinal (by simp)
  have ne_z_RelationKind_TABLE_z_RelationKind_INDEX : z_RelationKind_TABLE ≠ z_RelationKind_INDEX := Fld.ne F_z_RelationKind_TABLE_ordinal F_z_RelationKind_INDEX_ordinal (by simp)
  have ne_z_RelationKind_TABLE_z_RelationKind_OTHER : z_RelationKind_TABLE ≠ z_RelationKind_OTHER := Fld.ne F_z_RelationKind_TABLE_ordinal F_z_RelationKind_OTHER_ordinal (by simp)
  have ne_z_RelationKind_TABLE_z_RelationKind_SEQUENCE : z_RelationKind_TABLE ≠ z_RelationKind_SEQUENCE := Fld.ne F_z_RelationKind_TABLE_ordinal F_z_RelationKind_SEQUENCE_ordinal (by simp)
  have ne_z_RelationKind_VIEW_z_RelationKind_PARTITIONED_TABLE : z_RelationKind_VIEW ≠ z_RelationKind_PARTITIONED_TABLE := Fld.ne F_z_RelationKind_VIEW_ordinal F_z_RelationKind_PARTITIONED_TABLE_ordinal (by simp)
  have ne_z_RelationKind_VIEW_z_RelationKind_MATERIALIZED_VIEW : z_RelationKind_VIEW ≠ z_RelationKind_MATERIALIZED_VIEW := Fld.ne F_z_RelationKind_VIEW_ordinal F_z_RelationKind_MATERIALIZED_VIEW_ordinal (by simp)
  have ne_z_RelationKind_VIEW_z_RelationKind_INDEX : z_RelationKind_VIEW ≠ z_RelationKind_INDEX := Fld.ne F_z_RelationKind_VIEW_ordinal F_z_RelationKind_INDEX_ordinal (by simp)
  have ne_z_RelationKind_VIEW_z_RelationKind_OTHER : z_RelationKind_VIEW ≠ z_RelationKind_OTHER := Fld.ne F_z_RelationKind_VIEW_ordinal F_z_RelationKind_OTHER_ordinal (by simp)
  have ne_z_RelationKind_VIEW_z_RelationKind_SEQUENCE : z_RelationKind_VIEW ≠ z_RelationKind_SEQUENCE := Fld.ne F_z_RelationKind_VIEW_ordinal F_z_RelationKind_SEQUENCE_ordinal (by simp)
  have ne_z_RelationKind_PARTITIONED_TABLE_z_RelationKind_MATERIALIZED_VIEW : z_RelationKind_PARTITIONED_TABLE ≠ z_RelationKind_MATERIALIZED_VIEW := Fld.ne F_z_RelationKind_PARTITIONED_TABLE_ordinal F_z_RelationKind_MATERIALIZED_VIEW_ordinal (by simp)
  have ne_z_RelationKind_PARTITIONED_TABLE_z_RelationKind_INDEX : z_RelationKind_PARTITIONED_TABLE ≠ z_RelationKind_INDEX := Fld.ne F_z_RelationKind_PARTITIONED_TABLE_ordinal F_z_RelationKind_INDEX_ordinal (by simp)
  have ne_z_RelationKind_PARTITIONED_TABLE_z_RelationKind_OTHER : z_RelationKind_PARTITIONED_TABLE ≠ z_RelationKind_OTHER := Fld.ne F_z_RelationKind_PARTITIONED_TABLE_ordinal F_z_RelationKind_OTHER_ordinal (by simp)
  have ne_z_RelationKind_PARTITIONED_TABLE_z_RelationKind_SEQUENCE : z_RelationKind_PARTITIONED_TABLE ≠ z_RelationKind_SEQUENCE := Fld.ne F_z_RelationKind_PARTITIONED_TABLE_ordinal F_z_RelationKind_SEQUENCE_ordinal (by simp)
  have ne_z_RelationKind_MATERIALIZED_VIEW_z_RelationKind_INDEX : z_RelationKind_MATERIALIZED_VIEW ≠ z_RelationKind_INDEX := Fld.ne F_z_RelationKind_MATERIALIZED_VIEW_ordinal F_z_RelationKind_INDEX_ordinal (by simp)
  have ne_z_RelationKind_MATERIALIZED_VIEW_z_RelationKind_OTHER : z_RelationKind_MATERIALIZED_VIEW ≠ z_RelationKind_OTHER := Fld.ne F_z_RelationKind_MATERIALIZED_VIEW_ordinal F_z_RelationKind_OTHER_ordinal (by simp)
  have ne_z_RelationKind_MATERIALIZED_VIEW_z_RelationKind_SEQUENCE : z_RelationKind_MATERIALIZED_VIEW ≠ z_RelationKind_SEQUENCE := Fld.ne F_z_RelationKind_MATERIALIZED_VIEW_ordinal F_z_RelationKind_SEQUENCE_ordinal (by simp)
  have ne_z_RelationKind_INDEX_z_RelationKind_OTHER : z_RelationKind_INDEX ≠ z_RelationKind_OTHER := Fld.ne F_z_RelationKind_INDEX_ordinal F_z_RelationKind_OTHER_ordinal (by simp)
  have ne_z_RelationKind_INDEX_z_RelationKind_SEQUENCE : z_RelationKind_INDEX ≠ z_RelationKind_SEQUENCE := Fld.ne F_z_RelationKind_INDEX_ordinal F_z_RelationKind_SEQUENCE_ordinal (by simp)
  have ne_z_RelationKind_OTHER_z_RelationKind_SEQUENCE : z_RelationKind_OTHER ≠ z_RelationKind_SEQUENCE := Fld.ne F_z_RelationKind_OTHER_ordinal F_z_RelationKind_SEQUENCE_ordinal (by simp)
  obtain ⟨n, o, h1, h2, h3, _, L, rfl, ⟨rfl, N, -⟩, hq⟩ := rm_law l s _ hw tables_1 i0 z_RelationKind_TABLE z_RelationKind_PARTITIONED_TABLE z_RelationKind_MATERIALIZED_VIEW z_RelationKind_VIEW z_RelationKind_SEQUENCE z_RelationKind_INDEX z_RelationKind_OTHER s.heap s.heap.size (Nat.le_refl _) S_z_RelationKind_TABLE S_z_RelationKind_PARTITIONED_TABLE S_z_RelationKind_MATERIALIZED_VIEW S_z_RelationKind_VIEW S_z_RelationKind_SEQUENCE S_z_RelationKind_INDEX S_z_RelationKind_OTHER E_z_RelationKind_TABLE E_z_RelationKind_PARTITIONED_TABLE E_z_RelationKind_MATERIALIZED_VIEW E_z_RelationKind_VIEW E_z_RelationKind_SEQUENCE E_z_RelationKind_INDEX E_z_RelationKind_OTHER (Ne.symm ne_z_RelationKind_TABLE_z_RelationKind_PARTITIONED_TABLE) (Ne.symm ne_z_RelationKind_TABLE_z_RelationKind_MATERIALIZED_VIEW) (Ne.symm ne_z_RelationKind_TABLE_z_RelationKind_VIEW) (Ne.symm ne_z_RelationKind_TABLE_z_RelationKind_SEQUENCE) (Ne.symm ne_z_RelationKind_TABLE_z_RelationKind_INDEX) (Ne.symm ne_z_RelationKind_TABLE_z_RelationKind_OTHER) (Ne.symm ne_z_RelationKind_PARTITIONED_TABLE_z_RelationKind_MATERIALIZED_VIEW) ne_z_RelationKind_VIEW_z_RelationKind_PARTITIONED_TABLE (Ne.symm ne_z_RelationKind_PARTITIONED_TABLE_z_RelationKind_SEQUENCE) (Ne.symm ne_z_RelationKind_PARTITIONED_TABLE_z_RelationKind_INDEX) (Ne.symm ne_z_RelationKind_PARTITIONED_TABLE_z_RelationKind_OTHER) ne_z_RelationKind_VIEW_z_RelationKind_MATERIALIZED_VIEW (Ne.symm ne_z_RelationKind_MATERIALIZED_VIEW_z_RelationKind_SEQUENCE) (Ne.symm ne_z_RelationKind_MATERIALIZED_VIEW_z_RelationKind_INDEX) (Ne.symm ne_z_RelationKind_MATERIALIZED_VIEW_z_RelationKind_OTHER) p e ha hc hk s m _ below hf ((Spec.applies_iff_loose hf).mp happ).1 ⟨rfl, State.Warmed39.refl s, rfl⟩ trivial
  refine ⟨n, _, h1, h2, h3, hpost _ _ _ _ _ _ ⟨Cond.after_iff.mpr rfl, Cond.after_iff.mpr (eq_i res_at (Term.int_eval (1)) rfl), trivial⟩ ⟨hq.1, hq.2.1, (hq.2.2.sift fun y hy => Or.inr (N y hy)).mono (by decide) (by decide)⟩⟩
theorem main_1_1 : Claimed_1_1 := comes_1 fun _ _ _ _ _ _ h hF => ⟨h.1, hF⟩
theorem main_1_2 : Claimed_1_2 := comes_1 fun _ _ _ _ _ _ h hF => ⟨h.2.1, hF⟩
end Jvm.Pilot.@@N@@
namespace Jvm.Pilot.@@N@@
open Jvm Jvm.ClassFile Sem Op Lib Jvm.Free Jvm.Stand Jvm.Pilot.@@N@@.Jvm.D
/-! MADE BY PROGRAM (witnessworld.py) out of the Statement's table words and the real class files: 12 classes; the members and pool entries that the words name. The judged class is class 1, her method 1. -/
namespace start1
open Jvm.ClassFile
def u (s : String) : CpInfo := .utf8 (stringToUtf16 s)
/-- a pool by its gaps: so many unusable entries, then the entry; so many at the end -/
def gap : Nat → List CpInfo → List CpInfo
  | 0, r => r
  | n + 1, r => .unusable :: gap n r
def poolList (es : List (Nat × CpInfo)) (last : Nat) : List CpInfo := es.foldr (fun e r => gap e.1 (e.2 :: r)) (gap last [])
def pool (es : List (Nat × CpInfo)) (last : Nat) : Array CpInfo := ⟨poolList es last⟩
def fileOf (pool : Array CpInfo) (this : Nat) (attrs : Array Attribute := #[]) (ms : Array MethodInfo := #[]) (fl : Nat := 33) (sup : Nat := 0) (ifs : Array Nat := #[]) (fds : Array FieldInfo := #[]) : ClassFile where
  minorVersion := 0
  majorVersion := 65
  constantPool := pool
  accessFlags := fl
  thisClass := this
  superClass := sup
  interfaces := ifs
  fields := fds
  methods := ms
  attributes := attrs
def plain (name : String) (sup : Option ClassId) : Class where
  name := name
  kind := .ordinary
  loader := none
  accessFlags := 33
  super := sup
  interfaces := #[]
  cf := none
  fields := #[]
  methods := #[]
  instanceTypes := #[]
  staticTypes := #[]
  resolved := #[]
  callSites := []
  init := .initialized
  statics := none
  mirror := none

def pool0 : Array CpInfo := pool [(5, u "<init>"), (0, u "()V"), (1, .class_ 10), (1, u "java/lang/Object")] 113

def k0m0 : Method := { name := "<init>", desc := "()V", sig := { parameters := [], returnType := none }, accessFlags := 1, code := none }
/-- java/lang/Object -/
def k0 : Class := { plain "java/lang/Object" none with
  accessFlags := 33
  interfaces := #[]
  cf := some (fileOf pool0 8 #[] #[{ accessFlags := 1, nameIndex := 5, descriptorIndex := 6, attributes := #[] }] 33 0 #[] #[])
  fields := #[]
  methods := #[k0m0]
  instanceTypes := #[]
  staticTypes := #[]
  resolved := Array.replicate 124 none
  statics := none }

def pool1 : Array CpInfo := pool [(2, .class_ 4), (1, u "java/lang/Object"), (0, u "<init>"), (0, u "()V"), (0, .integer 2147483647), (0, .methodref 9 10), (0, .class_ 11), (0, .nameAndType 12 13), (0, u "com/example/tiptoe/tiptoe/RelationKindHoldsDataPinLaw"), (0, u "pick"), (0, u "(I)Lcom/example/tiptoe/tiptoe/RelationKind;"), (0, .methodref 15 16), (0, .class_ 17), (0, .nameAndType 18 19), (0, u "com/example/tiptoe/tiptoe/RelationKind"), (0, u "holdsData"), (0, u "()Z"), (0, .fieldref 15 21), (0, .nameAndType 22 23), (0, u "TABLE"), (0, u "Lcom/example/tiptoe/tiptoe/RelationKind;"), (0, .fieldref 15 25), (0, .nameAndType 26 23), (0, u "PARTITIONED_TABLE"), (0, .fieldref 15 28), (0, .nameAndType 29 23), (0, u "MATERIALIZED_VIEW"), (0, .fieldref 15 31), (0, .nameAndType 32 23), (0, u "VIEW"), (0, .fieldref 15 34), (0, .nameAndType 35 23), (0, u "SEQUENCE"), (0, .fieldref 15 37), (0, .nameAndType 38 23), (0, u "INDEX"), (0, .fieldref 15 40), (0, .nameAndType 41 23), (0, u "OTHER"), (2, u "law"), (0, u "(I)Z")] 3

def k1m0 : Method := { name := "<init>", desc := "()V", sig := { parameters := [], returnType := none }, accessFlags := 2, code := none }
def k1c1 : Code := { maxStack := 2, maxLocals := 4, code := code, exceptionTable := #[], attributes := #[] }
def k1m1 : Method := { name := "law", desc := "(I)Z", sig := { parameters := [.int], returnType := some .boolean }, accessFlags := 9, code := some k1c1 }
def k1c2 : Code := { maxStack := 2, maxLocals := 1, code := method_3_code, exceptionTable := #[], attributes := #[] }
def k1m2 : Method := { name := "pick", desc := "(I)Lcom/example/tiptoe/tiptoe/RelationKind;", sig := { parameters := [.int], returnType := some (.object "com/example/tiptoe/tiptoe/RelationKind") }, accessFlags := 10, code := some k1c2 }
/-- com/example/tiptoe/tiptoe/RelationKindHoldsDataPinLaw -/
def k1 : Class := { plain "com/example/tiptoe/tiptoe/RelationKindHoldsDataPinLaw" (some 0) with
  accessFlags := 49
  interfaces := #[]
  cf := some (fileOf pool1 9 #[] #[{ accessFlags := 2, nameIndex := 5, descriptorIndex := 6, attributes := #[] }, { accessFlags := 9, nameIndex := 44, descriptorIndex := 45, attributes := #[] }, { accessFlags := 10, nameIndex := 12, descriptorIndex := 13, attributes := #[] }] 49 2 #[] #[])
  fields := #[]
  methods := #[k1m0, k1m1, k1m2]
  instanceTypes := #[]
  staticTypes := #[]
  resolved := Array.replicate 49 none
  statics := none }

def pool2 : Array CpInfo := pool [(1, .class_ 2), (0, u "java/lang/constant/Constable"), (0, .class_ 4), (0, u "java/lang/Object")] 6

/-- java/lang/constant/Constable -/
def k2 : Class := { plain "java/lang/constant/Constable" (some 0) with
  accessFlags := 1537
  interfaces := #[]
  cf := some (fileOf pool2 1 #[] #[] 1537 3 #[] #[])
  fields := #[]
  methods := #[]
  instanceTypes := #[]
  staticTypes := #[]
  resolved := Array.replicate 11 none
  statics := none }

def pool3 : Array CpInfo := pool [(1, .class_ 2), (0, u "java/lang/Comparable"), (0, .class_ 4), (0, u "java/lang/Object")] 7

/-- java/lang/Comparable -/
def k3 : Class := { plain "java/lang/Comparable" (some 0) with
  accessFlags := 1537
  interfaces := #[]
  cf := some (fileOf pool3 1 #[] #[] 1537 3 #[] #[])
  fields := #[]
  methods := #[]
  instanceTypes := #[]
  staticTypes := #[]
  resolved := Array.replicate 12 none
  statics := none }

def pool4 : Array CpInfo := pool [(1, .class_ 2), (0, u "java/io/Serializable"), (0, .class_ 4), (0, u "java/lang/Object")] 2

/-- java/io/Serializable -/
def k4 : Class := { plain "java/io/Serializable" (some 0) with
  accessFlags := 1537
  interfaces := #[]
  cf := some (fileOf pool4 1 #[] #[] 1537 3 #[] #[])
  fields := #[]
  methods := #[]
  instanceTypes := #[]
  staticTypes := #[]
  resolved := Array.replicate 7 none
  statics := none }

def pool5 : Array CpInfo := pool [(2, .class_ 4), (1, u "java/lang/Enum"), (0, u "name"), (0, u "Ljava/lang/String;"), (2, u "ordinal"), (0, u "I"), (1, .class_ 14), (1, u "java/lang/Object"), (4, u "hash"), (86, .class_ 108), (1, u "java/lang/Enum$EnumDesc"), (2, .class_ 112), (0, u "java/lang/constant/Constable"), (0, .class_ 114), (0, u "java/lang/Comparable"), (0, .class_ 116), (0, u "java/io/Serializable")] 87

/-- java/lang/Enum -/
def k5 : Class := { plain "java/lang/Enum" (some 0) with
  accessFlags := 1057
  interfaces := #[2, 3, 4]
  cf := some (fileOf pool5 2 #[.nestMembers #[106]] #[] 1057 12 #[111, 113, 115] #[{ accessFlags := 18, nameIndex := 5, descriptorIndex := 6, attributes := #[] }, { accessFlags := 18, nameIndex := 9, descriptorIndex := 10, attributes := #[] }, { accessFlags := 2, nameIndex := 19, descriptorIndex := 10, attributes := #[] }])
  fields := #[{ name := "name", type := (.object "java/lang/String"), accessFlags := 18, slot := 0, constantValue := 0 }, { name := "ordinal", type := .int, accessFlags := 18, slot := 1, constantValue := 0 }, { name := "hash", type := .int, accessFlags := 2, slot := 2, constantValue := 0 }]
  methods := #[]
  instanceTypes := #[(.object "java/lang/String"), .int, .int]
  staticTypes := #[]
  resolved := Array.replicate 204 none
  statics := none }

def pool6 : Array CpInfo := pool [(1, .class_ 2), (0, u "com/example/tiptoe/tiptoe/RelationKind"), (0, .fieldref 1 4), (0, .nameAndType 5 6), (0, u "TABLE"), (0, u "Lcom/example/tiptoe/tiptoe/RelationKind;"), (0, .fieldref 1 8), (0, .nameAndType 9 6), (0, u "PARTITIONED_TABLE"), (0, .fieldref 1 11), (0, .nameAndType 12 6), (0, u "MATERIALIZED_VIEW"), (2, u "VIEW"), (2, u "SEQUENCE"), (2, u "INDEX"), (2, u "OTHER"), (2, u "$VALUES"), (0, u "[Lcom/example/tiptoe/tiptoe/RelationKind;"), (6, .class_ 37), (1, u "java/lang/Enum"), (51, u "holdsData"), (0, u "()Z")] 4

def k6c0 : Code := { maxStack := 2, maxLocals := 1, code := prog_45_method_5_code, exceptionTable := #[], attributes := #[] }
def k6m0 : Method := { name := "holdsData", desc := "()Z", sig := { parameters := [], returnType := some .boolean }, accessFlags := 0, code := some k6c0 }
/-- com/example/tiptoe/tiptoe/RelationKind -/
def k6 : Class := { plain "com/example/tiptoe/tiptoe/RelationKind" (some 5) with
  accessFlags := 16432
  interfaces := #[]
  cf := some (fileOf pool6 1 #[] #[{ accessFlags := 0, nameIndex := 89, descriptorIndex := 90, attributes := #[] }] 16432 35 #[] #[{ accessFlags := 16409, nameIndex := 5, descriptorIndex := 6, attributes := #[] }, { accessFlags := 16409, nameIndex := 9, descriptorIndex := 6, attributes := #[] }, { accessFlags := 16409, nameIndex := 12, descriptorIndex := 6, attributes := #[] }, { accessFlags := 16409, nameIndex := 15, descriptorIndex := 6, attributes := #[] }, { accessFlags := 16409, nameIndex := 18, descriptorIndex := 6, attributes := #[] }, { accessFlags := 16409, nameIndex := 21, descriptorIndex := 6, attributes := #[] }, { accessFlags := 16409, nameIndex := 24, descriptorIndex := 6, attributes := #[] }, { accessFlags := 4122, nameIndex := 27, descriptorIndex := 28, attributes := #[] }])
  fields := #[{ name := "TABLE", type := (.object "com/example/tiptoe/tiptoe/RelationKind"), accessFlags := 16409, slot := 0, constantValue := 0 }, { name := "PARTITIONED_TABLE", type := (.object "com/example/tiptoe/tiptoe/RelationKind"), accessFlags := 16409, slot := 1, constantValue := 0 }, { name := "MATERIALIZED_VIEW", type := (.object "com/example/tiptoe/tiptoe/RelationKind"), accessFlags := 16409, slot := 2, constantValue := 0 }, { name := "VIEW", type := (.object "com/example/tiptoe/tiptoe/RelationKind"), accessFlags := 16409, slot := 3, constantValue := 0 }, { name := "SEQUENCE", type := (.object "com/example/tiptoe/tiptoe/RelationKind"), accessFlags := 16409, slot := 4, constantValue := 0 }, { name := "INDEX", type := (.object "com/example/tiptoe/tiptoe/RelationKind"), accessFlags := 16409, slot := 5, constantValue := 0 }, { name := "OTHER", type := (.object "com/example/tiptoe/tiptoe/RelationKind"), accessFlags := 16409, slot := 6, constantValue := 0 }, { name := "$VALUES", type := (.array (.object "com/example/tiptoe/tiptoe/RelationKind")), accessFlags := 4122, slot := 7, constantValue := 0 }]
  methods := #[k6m0]
  instanceTypes := #[(.object "java/lang/String"), .int, .int]
  staticTypes := #[(.object "com/example/tiptoe/tiptoe/RelationKind"), (.object "com/example/tiptoe/tiptoe/RelationKind"), (.object "com/example/tiptoe/tiptoe/RelationKind"), (.object "com/example/tiptoe/tiptoe/RelationKind"), (.object "com/example/tiptoe/tiptoe/RelationKind"), (.object "com/example/tiptoe/tiptoe/RelationKind"), (.object "com/example/tiptoe/tiptoe/RelationKind"), (.array (.object "com/example/tiptoe/tiptoe/RelationKind"))]
  resolved := Array.replicate 95 none
  statics := some 0 }

def pool7 : Array CpInfo := pool [(1, u "java/lang/Cloneable"), (0, .class_ 1), (0, u "java/lang/Object"), (0, .class_ 3)] 3

/-- java/lang/Cloneable -/
def k7 : Class := { plain "java/lang/Cloneable" (some 0) with
  accessFlags := 1537
  interfaces := #[]
  cf := some (fileOf pool7 2 #[] #[] 1537 4 #[] #[])
  fields := #[]
  methods := #[]
  instanceTypes := #[]
  staticTypes := #[]
  resolved := Array.replicate 8 none
  statics := none }

/-- the primitive byte -/
def k8 : Class := { plain "byte" none with kind := .primitive 'B', accessFlags := 0x411 }
/-- [B -/
def k9 : Class := { plain "[B" (some 0) with kind := .array 8 .byte, interfaces := #[7, 4], accessFlags := 1041 }

/-- the primitive int -/
def k10 : Class := { plain "int" none with kind := .primitive 'I', accessFlags := 0x411 }
/-- [I -/
def k11 : Class := { plain "[I" (some 0) with kind := .array 10 .int, interfaces := #[7, 4], accessFlags := 1041 }

def heap : Heap := #[{ cls := 6, slots := #[.ref 1, .ref 3, .ref 4, .ref 2, .ref 7, .ref 5, .ref 6, .null], vm := .statics 6 },
  { cls := 6, slots := #[.null, .int 0, .int 0], vm := .none },
  { cls := 6, slots := #[.null, .int 3, .int 0], vm := .none },
  { cls := 6, slots := #[.null, .int 1, .int 0], vm := .none },
  { cls := 6, slots := #[.null, .int 2, .int 0], vm := .none },
  { cls := 6, slots := #[.null, .int 5, .int 0], vm := .none },
  { cls := 6, slots := #[.null, .int 6, .int 0], vm := .none },
  { cls := 6, slots := #[.null, .int 4, .int 0], vm := .none }]
def classes : Array Class := #[k0, k1, k2, k3, k4, k5, k6, k7, k8, k9, k10, k11]
def interned : List (Array UInt16 × Addr) := []
def slotsUsed : Nat := 29
def theMethod : MethodId := ⟨1, 1⟩
def args0 : Array Value := #[.int 5]
def aboutOver (below : List Frame) : State where
  vm := { classes := classes, interned := interned.toArray }
  heap := heap
  slotsUsed := slotsUsed
  threads := #[{ frames := .invoking theMethod args0 :: below }]
def below0 : List Frame := [.native { method := ⟨0, 0⟩, args := #[] }]
def about1 : State := aboutOver below0
def p0 : Program := .bare "" "" ""
def e0 : Env := launch0.env 0 0 0
theorem w_frames : about1.frames = Frame.invoking theMethod args0 :: below0 := rfl
set_option maxRecDepth 65536 in
theorem w_args : argsFit about1.vm theMethod args0 = true := by decide +kernel
set_option maxRecDepth 65536 in
theorem w_heap : heapFits about1 = true := by decide +kernel
set_option maxRecDepth 65536 in
theorem w_runnable : about1.curStatus? = some .runnable := by decide +kernel
set_option maxRecDepth 65536 in
theorem w_alone : about1.alone = true := by decide +kernel
set_option maxRecDepth 65536 in
theorem w_named : about1.methodNamed? x = some theMethod := by decide +kernel
set_option maxRecDepth 65536 in
theorem w_hears : about1.hears theMethod below0 = true := by decide +kernel
set_option maxRecDepth 65536 in
theorem w_ripe : about1.ripe theMethod args0 below0 = true := by decide +kernel
theorem w_running : about1.status = .running := rfl
set_option maxRecDepth 65536 in
theorem w_room : about1.hasRoom e0.platform room_1 = true :=
  launch0.hasRoom_least _ room_1 (by decide +kernel) (by decide +kernel) (by decide +kernel) (by decide +kernel) (by decide +kernel) (by decide +kernel)
theorem allAtoms_all (ts : List Jvm.Cond) (a : Array Jvm.Value) (st : Jvm.State) : (allAtoms ts).before a st = ts.all (fun c => c.before a st) := by
  induction ts with
  | nil => rfl
  | cons c t ih =>
    show (Jvm.Cond.and c (allAtoms t)).before a st = _
    rw [Jvm.Cond.before_and, ih, List.all_cons]
def words1 : List Jvm.Cond := Jvm.Cond.code x code maxLocals ret :: tables_1
/-- a 'code' word, met by the world's own term for the bytes: nothing is compared byte by byte -/
theorem code_word {y : MethodName} {bytes : ByteArray} {mx : Nat} {rt : Option FieldType} {a : Array Value} {s : State} {m : MethodId} {meth : Method} {c : Code} (h1 : s.methodNamed? y = some m) (h2 : s.vm.method? m = some meth) (h3 : meth.code = some c) (h4 : c.code = bytes)
    (h5 : (c.maxLocals == mx && c.exceptionTable.isEmpty && decide (c.maxStack ≤ mostOperands) && decide (meth.sig.returnType = rt) && !meth.locks && decide (parseMethodDescriptor y.desc = some meth.sig)) = true) : (Jvm.Cond.code y bytes mx rt).before a s = true := by
  simp only [Bool.and_eq_true, beq_iff_eq, Bool.not_eq_true', decide_eq_true_eq] at h5
  obtain ⟨⟨⟨⟨⟨g1, g2⟩, g3⟩, g4⟩, g5⟩, g6⟩ := h5
  simp [Cond.before, Cond.holds, Cond.value, h1, h2, h3, h4, g1, g2, g3, g4, g5, g6]
def isCode : Jvm.Cond → Bool
  | .code _ _ _ _ => true
  | _ => false
theorem all_split {L : List Jvm.Cond} {P : Jvm.Cond → Bool} (h1 : L.all (fun c => isCode c || P c) = true) (h2 : ∀ c ∈ L.filter isCode, P c = true) : L.all P = true := by
  refine List.all_eq_true.mpr fun c hc => ?_
  have h := List.all_eq_true.mp h1 c hc
  rcases Bool.eq_false_or_eq_true (isCode c) with hi | hi
  · exact h2 c (List.mem_filter.mpr ⟨hc, hi⟩)
  · simpa [hi] using h
set_option maxRecDepth 65536 in
theorem w_c0 : (Jvm.Cond.code x code maxLocals ret).before args0 about1 = true := code_word (m := ⟨1, 1⟩) (meth := k1m1) (c := k1c1) (by decide +kernel) rfl rfl rfl (by decide +kernel)
set_option maxRecDepth 65536 in
theorem w_c1 : (Jvm.Cond.code ({ cls := "com/example/tiptoe/tiptoe/RelationKindHoldsDataPinLaw", name := "pick", desc := "(I)Lcom/example/tiptoe/tiptoe/RelationKind;" } : Jvm.MethodName) method_3_code (1 : Nat) (Option.some (Jvm.ClassFile.FieldType.object "com/example/tiptoe/tiptoe/RelationKind"))).before args0 about1 = true := code_word (m := ⟨1, 2⟩) (meth := k1m2) (c := k1c2) (by decide +kernel) rfl rfl rfl (by decide +kernel)
set_option maxRecDepth 65536 in
theorem w_c2 : (Jvm.Cond.code ({ cls := "com/example/tiptoe/tiptoe/RelationKind", name := "holdsData", desc := "()Z" } : Jvm.MethodName) prog_45_method_5_code (1 : Nat) (Option.some Jvm.ClassFile.FieldType.boolean)).before args0 about1 = true := code_word (m := ⟨6, 0⟩) (meth := k6m0) (c := k6c0) (by decide +kernel) rfl rfl rfl (by decide +kernel)
def codes1 : List Jvm.Cond := [Jvm.Cond.code x code maxLocals ret, Jvm.Cond.code ({ cls := "com/example/tiptoe/tiptoe/RelationKindHoldsDataPinLaw", name := "pick", desc := "(I)Lcom/example/tiptoe/tiptoe/RelationKind;" } : Jvm.MethodName) method_3_code (1 : Nat) (Option.some (Jvm.ClassFile.FieldType.object "com/example/tiptoe/tiptoe/RelationKind")), Jvm.Cond.code ({ cls := "com/example/tiptoe/tiptoe/RelationKind", name := "holdsData", desc := "()Z" } : Jvm.MethodName) prog_45_method_5_code (1 : Nat) (Option.some Jvm.ClassFile.FieldType.boolean)]
set_option maxRecDepth 65536 in
theorem codes_eq : words1.filter isCode = codes1 := rfl
theorem w_codes : ∀ c ∈ words1.filter isCode, c.before args0 about1 = true := by
  rw [codes_eq]
  intro c hc
  simp only [codes1, List.mem_cons, List.not_mem_nil, or_false] at hc
  rcases hc with rfl | rfl | rfl
  · exact w_c0
  · exact w_c1
  · exact w_c2
set_option maxRecDepth 65536 in
theorem w_t1 : (words1.take 24).all (fun c => isCode c || c.before args0 about1) = true := by decide +kernel
set_option maxRecDepth 65536 in
theorem w_t2 : (words1.drop 24).all (fun c => isCode c || c.before args0 about1) = true := by decide +kernel
theorem w_tables : (allAtoms (Jvm.Cond.code x code maxLocals ret :: tables_1)).before args0 about1 = true := by
  rw [allAtoms_all]
  show words1.all (fun c => c.before args0 about1) = true
  refine all_split ?_ w_codes
  rw [← List.take_append_drop 24 words1, List.all_append, w_t1, w_t2]
  rfl
set_option maxRecDepth 65536 in
theorem w_case : (Jvm.Cond.and given_1 narrow_1).before args0 about1 = true := by decide +kernel
theorem w_applies : (headSpec (Jvm.Cond.code x code maxLocals ret :: tables_1) room_1).applies x e0.platform about1 = true :=
  (Spec.applies_iff w_frames).mpr ⟨w_running, w_runnable, w_alone, w_named, w_hears, w_ripe, w_room, w_tables⟩
theorem atStart : AtStart classFile x code maxLocals ret World_1 tables_1 room_1 Calls_1 rest_1 Pre_1 launch0 p0 e0 about1 theMethod args0 below0 :=
  ⟨lists_1, trivial, launch0.admits_env _ _ _, launch0.least_env, fairChoices_fair.cas, fairChoices_fair.clock, w_frames, w_args, w_heap, w_applies, trivial, trivial, w_case⟩
end start1
theorem witness_1 : WitnessClaimed_1 := ⟨start1.p0, start1.e0, start1.about1, start1.theMethod, start1.args0, start1.below0, start1.atStart⟩
end Jvm.Pilot.@@N@@
