import JvmDerived
import JvmDerived.Pilot.@@N@@Statement
import JvmDerived.Pilot.@@N@@Code
set_option linter.unusedVariables false
set_option linter.unusedSimpArgs false
namespace Jvm.RoadKit
open Sem ClassFile Op Lib Jvm.Stand Jvm.Free Jvm.LawKit
section New
variable {p : Program} {l : Launch} {e : Env} {R : Room} {s : State} {m : MethodId} {args : Array Value} {below : List Frame} {meth : Method} {c : Code} {T : State} {locs : List Loc} {cells slots : Nat}
theorem retI (X : Stand p l e R s m args below meth c T locs cells slots) (hx : p.tables.exec = Jvm.exec) {pc : Nat} {Ls : Array Slot} {z : Int32} {rest : List Value} (hret : meth.sig.returnType = some .int) (hd : decode c.code pc = .ok (.ireturn, 1)) {fs : List Frame}
    (hl : ∀ (f : JFrame) (acts : List Action), f.method = m → f.locked = none → f.entered = [] → (doReturn e (T.setTop f) acts (some (.int z))).1 = T.setFrames fs) : Steps p.tables e below (T.setTop (mkF m pc Ls (.int z :: rest))) (T.setFrames fs) := by
  have hm' : T.vm.method? m = some meth := X.method'
  have hn : narrow .int (.int z) = .int z := rfl
  show Steps p.tables e below (T.setTop { method := m, pc := pc, locals := Ls, stack := _ :: rest, locked := none }) _
  jvm_step X.here [X.here.top, hx, hd, hm', hret, hn]
  first | (intro acts; rw [hl _ acts rfl rfl rfl]) | rw [hl _ _ rfl rfl rfl]
  exact Steps.refl _
end New
end Jvm.RoadKit
namespace Jvm.Pilot.@@N@@
open Jvm Jvm.ClassFile Sem Op Lib Jvm.Free Jvm.Stand Jvm.LawKit Jvm.RoadKit Bundle Jvm.Pilot.@@N@@.Jvm.D
def own_irem (x y : Int32) : Int32 := x - (x / y) * y
theorem own_irem_mod (x y : Int32) : own_irem x y = x % y := by
  unfold own_irem
  apply Int32.toInt_inj.mp
  have h1 := Int32.le_toInt (x % y)
  have h2 := Int32.toInt_lt (x % y)
  rw [Int32.toInt_sub, Int32.toInt_mul, Int32.toInt_div, Int.bmod_mul_bmod, Int.sub_bmod_bmod, Int.mul_comm (x.toInt.tdiv y.toInt), ← Int.tmod_def, ← Int32.toInt_mod]
  exact Int.bmod_eq_of_le_mul_two (by omega) (by omega)
theorem own_fld_eq {args : Array Value} {s : State} {t : Term} {C n d : String} {w : Addr} {k : Int32} (ht : t.eval args s none [] s = some (.ref w)) (h : (Jvm.Cond.eq (Term.field t C n d) (Term.int k)).value args s none s [] = some true) : Fld s s.heap w C n d (.int k) := by
  obtain ⟨x, y, ha, hb, -, -⟩ := cmp_v (Or.inl h)
  have hy : y = .int k := (Option.some.inj ((Term.int_eval k).symm.trans hb)).symm
  subst hy
  have hx : x = .int k := by
    cases x <;> simp [Cond.value, ha, hb] at h ⊢
    exact h
  subst hx
  exact Fld.start (by rw [← fld_at ht]; exact ha)
theorem own_fld_ref {args : Array Value} {s : State} {t u : Term} {C n d : String} {w : Addr} {k : Addr} (ht : t.eval args s none [] s = some (.ref w)) (hu : u.eval args s none [] s = some (.ref k)) (h : (Jvm.Cond.eq (Term.field t C n d) u).value args s none s [] = some true) : Fld s s.heap w C n d (.ref k) := by
  obtain ⟨x, y, ha, hb, -, -⟩ := cmp_v (Or.inl h)
  cases hu.symm.trans hb
  have hx : x = .ref k := by
    cases x <;> simp [Cond.value, ha, hb] at h ⊢
    exact h
  subst hx
  exact Fld.start (by rw [← fld_at ht]; exact ha)
theorem own_sel_priv {s : State} {args : Array Value} {y z : MethodName} (hsel : (Jvm.Cond.selects z.cls z z).before args s = true) (hz : z.cls = y.cls) (hpriv : (Jvm.Cond.privateMethod y).before args s = true) (hinst : (Jvm.Cond.instanceMethod y).before args s = true) (hy : y.cls ≠ "java/lang/invoke/MethodHandle" ∧ y.cls ≠ "java/lang/invoke/VarHandle") : (Jvm.Cond.selects y.cls y y).before args s = true := by
  obtain ⟨c, r, m, h1, h2, h3, h4, mk, h5, h6⟩ := Cond.selects_spec hsel
  have hc := findClass_of_methodNamed h3
  rw [hz] at hc
  exact selects_self_of_private hc h5 h6 (Cond.privateMethod_at hpriv) hinst hy
theorem own_nm_int : "[" ++ (newarray.typeOf .int).toString = "[I" := by decide
theorem own_nm_long : "[" ++ (newarray.typeOf .long).toString = "[J" := by decide
theorem own_nm_char : "[" ++ (newarray.typeOf .char).toString = "[C" := by decide
theorem own_nm_boolean : "[" ++ (newarray.typeOf .boolean).toString = "[Z" := by decide
theorem own_ns_exa {Z : State} {h : Heap} {a : Addr} {C : String} (E : Exa Z h a C) : ∀ c : Cell, h[a]? = some c → c.vm.isStatics = false := fun c hc => by
  obtain ⟨cell, k, h1, -, -, h4, -⟩ := E
  cases h1.symm.trans hc
  exact h4
theorem own_ns_arr {Z : State} {h : Heap} {a : Addr} {cl : Cell} {ty : FieldType} (A : Arr Z h a cl ty) : ∀ c : Cell, h[a]? = some c → c.vm.isStatics = false := fun c hc => by
  cases A.1.symm.trans hc
  exact A.plain
theorem own_ns_arv {Z : State} {h : Heap} {a : Addr} {k : ClassId} {ty : FieldType} {z : Int32} {vs : List Value} {dv : Value} (F : Arv Z h a k ty z vs dv) : ∀ c : Cell, h[a]? = some c → c.vm.isStatics = false := by
  obtain ⟨c, A, -⟩ := F
  exact own_ns_arr A
theorem own_sta_keep {Z : State} {h h' : Heap} {C n d : String} {v : Value} {ws : List Addr} (F : Sta Z h C n d v) (K : Keep h h' ws) (q : ∀ x ∈ ws, ∀ c : Cell, h[x]? = some c → c.vm.isStatics = false) : Sta Z h' C n d v := by
  obtain ⟨cf, i, k, f, st, cell, h1, h2, h3, h4, h5, h6, h7⟩ := F
  exact ⟨cf, i, k, f, st, cell, h1, h2, h3, h4, K.2.1 st cell h5 (fun hm => by rw [q st hm cell h5] at h6; cases h6), h6, h7⟩
theorem own_len {args : Array Value} {s : State} {t : Term} {a : Addr} {cl : Cell} {n : Int32} (ht : t.eval args s none [] s = some (.ref a)) (hc : s.heap[a]? = some cl) (h : (Jvm.Cond.eq (Term.length t) (Term.int n)).value args s none s [] = some true) : cl.slots.size < 2 ^ 31 ∧ cl.slots.size.toInt32 = n := by
  obtain ⟨x, y, ha, hb, -, -⟩ := cmp_v (Or.inl h)
  have hy : y = .int n := (Option.some.inj ((Term.int_eval n).symm.trans hb)).symm
  subst hy
  have hx : x = .int n := by
    cases x <;> simp [Cond.value, ha, hb] at h ⊢
    exact h
  subst hx
  simp only [Term.eval, ht, Option.bind_eq_bind, Option.bind_some] at ha
  cases hq : s.arrayAt? a with
  | none => simp [hq] at ha
  | some c2 =>
    cases (State.arrayAt?_spec hq).1.symm.trans hc
    simp only [hq, Option.bind_some] at ha
    split at ha
    · rename_i hlt
      exact ⟨hlt, Value.int.inj (Option.some.inj ha)⟩
    · cases ha
theorem own_elem {args : Array Value} {s : State} {t u : Term} {a k : Addr} {cl : Cell} {j : Int32} (ht : t.eval args s none [] s = some (.ref a)) (hu : u.eval args s none [] s = some (.ref k)) (hc : s.heap[a]? = some cl) (h : (Jvm.Cond.eq (Term.elem t (Term.int j)) u).value args s none s [] = some true) : cl.slots[j.toNatClampNeg]? = some (.ref k) := by
  obtain ⟨x, y, ha, hb, -, -⟩ := cmp_v (Or.inl h)
  cases hu.symm.trans hb
  have hx : x = .ref k := by
    cases x <;> simp [Cond.value, ha, hb] at h ⊢
    exact h
  subst hx
  exact (elem_in ha ht (Term.int_eval j) hc).2

theorem d1_0 : decode prog_98_method_5_code 0 = .ok (.aload_n 0, 1) := by decide +kernel
theorem d1_1 : decode prog_98_method_5_code 1 = .ok (.getstatic 3, 3) := by decide +kernel
theorem d1_4 : decode prog_98_method_5_code 4 = .ok (.if_acmp .eq 10, 3) := by decide +kernel
theorem d1_7 : decode prog_98_method_5_code 7 = .ok (.aload_n 0, 1) := by decide +kernel
theorem d1_8 : decode prog_98_method_5_code 8 = .ok (.getstatic 7, 3) := by decide +kernel
theorem d1_11 : decode prog_98_method_5_code 11 = .ok (.if_acmp .ne 7, 3) := by decide +kernel
theorem d1_14 : decode prog_98_method_5_code 14 = .ok (.iconst 1, 1) := by decide +kernel
theorem d1_15 : decode prog_98_method_5_code 15 = .ok (.goto 4, 3) := by decide +kernel
theorem d1_18 : decode prog_98_method_5_code 18 = .ok (.iconst 0, 1) := by decide +kernel
theorem d1_19 : decode prog_98_method_5_code 19 = .ok (.ireturn, 1) := by decide +kernel
theorem pn_0 : plainName "com/example/tiptoe/tiptoe/StatementReader$Reindexed$Target" = true := by first | (simp [plainName, overriddenIn]; done) | decide +kernel
theorem pn_1 : plainName "com/example/tiptoe/tiptoe/TargetRelationPinLaw" = true := by first | (simp [plainName, overriddenIn]; done) | decide +kernel
theorem pd_0 : parseMethodDescriptor "()Z" = some ⟨[], some .boolean⟩ := by decide +kernel
theorem ef_rel (m : MethodId) (x0 : Addr) : entryFrame m #[(.ref x0)] 1 = mkF m 0 #[.val (.ref x0)] [] := by first | (simp [entryFrame, mkF, argsToLocals, Value.category]; done) | rfl
def Q_rel (Z : State) (a : Addr) (wI : Addr) (wT : Addr) (r : Int32) (h0 : Heap) (n0 : Nat) (v : Option Value) (h : Heap) (L : List Loc) : Prop := v = some (.int r) ∧ Fr n0 L ∧ h = h0
set_option maxRecDepth 65536 in
set_option maxHeartbeats 40000000 in
theorem rm_rel (l : Launch) (Z : State) (a0 : Array Value) (hw : ∀ d ∈ tables_1, d.before a0 Z = true) (ws : List Jvm.Cond) (a : Addr) (wI : Addr) (wT : Addr) (r : Int32) (h0 : Heap) (n0 : Nat) (Z0 : n0 ≤ h0.size) (H0_S : Sta Z h0 "com/example/tiptoe/tiptoe/StatementReader$Reindexed$Target" "INDEX" "Lcom/example/tiptoe/tiptoe/StatementReader$Reindexed$Target;" (.ref wI)) (H1_S : Sta Z h0 "com/example/tiptoe/tiptoe/StatementReader$Reindexed$Target" "TABLE" "Lcom/example/tiptoe/tiptoe/StatementReader$Reindexed$Target;" (.ref wT)) (hr0 : a = wI → r = (1 : Int32)) (hr1 : ¬ a = wI → a = wT → r = (1 : Int32)) (hr2 : ¬ a = wI → ¬ a = wT → r = (0 : Int32)) :
    MetFree l (⟨"com/example/tiptoe/tiptoe/StatementReader$Reindexed$Target", "relation", "()Z"⟩ : MethodName) (head1 (Jvm.Cond.code (⟨"com/example/tiptoe/tiptoe/StatementReader$Reindexed$Target", "relation", "()Z"⟩ : MethodName) prog_98_method_5_code 1 (some .boolean) :: ws) ({ frames := 0, cells := 0, slots := 0, locals := 0 } : Room)) (fun as_ U_ => as_ = #[(.ref a)] ∧ Z.Warmed39 U_.vm ∧ U_.heap = h0) (fun _ _ _ _ _ => True) (fun _ U o U' => ∃ v L, o = .returned v ∧ Q_rel Z a wI wT r h0 n0 v U'.heap L ∧ FrameEnd U o U' L ({ frames := 0, cells := 0, slots := 0, locals := 0 } : Room).cells ({ frames := 0, cells := 0, slots := 0, locals := 0 } : Room).slots) := by
  refine MetFree.of_bodySF (plainFor_of_name pn_0) hisR ?_
  intro p e s m args below meth c s₁ Bd hml0 hP hK
  obtain ⟨rfl, hZ, hh⟩ := hP
  have hx := Bd.exec
  have hby := Bd.bytes
  have hml : c.maxLocals = 1 := hml0
  have hown : s.vm.findClass "com/example/tiptoe/tiptoe/StatementReader$Reindexed$Target" = some m.cls := findClass_of_methodNamed Bd.named
  have hnm := (name_of_methodNamed Bd.named Bd.method).1
  have X0 : Stand p l e ({ frames := 0, cells := 0, slots := 0, locals := 0 } : Room) s m #[(.ref a)] below meth c s₁ [] 0 0 := Stand.of_body Bd
  have e0 : s₁.heap = h0 := by rw [← hh, Bd.state]; rfl
  have N0 := Fr.nil n0
  have pre0 : ∀ t, Steps p.tables e below (s₁.setTop (mkF m 0 #[.val (.ref a)] [])) t → Steps p.tables e below (s₁.setTop (entryFrame m #[(.ref a)] 1)) t := fun t k => castTop (ef_rel m a) k
  obtain ⟨T1, X1, e1, st1⟩ := getS2 X0 hx hZ hown (host := "") (Or.inl (hw _ (List.mem_of_getElem? (i := 9) rfl))) Via.refl e0 H0_S (g := (mkF m 1 #[.val (.ref a)] [(.ref a)])) rfl (hb hby d1_1)
  have pre2 := fun (t : State) (k : Steps p.tables e below (T1.setTop (mkF m 4 #[.val (.ref a)] [(.ref wI), (.ref a)])) t) => pre0 t (by
    refine XS.aloadN X0.here hx rfl (hb hby d1_0) rfl rfl ?_
    show Steps p.tables e below (s₁.setTop (mkF m 1 #[.val (.ref a)] [(.ref a)])) _
    refine st1 _ ?_
    show Steps p.tables e below (T1.setTop (mkF m 4 #[.val (.ref a)] [(.ref wI), (.ref a)])) _
    exact k)
  by_cases hc3 : a = wI
  · have pre4 := fun (t : State) (k : Steps p.tables e below (T1.setTop (mkF m 19 #[.val (.ref a)] [(.int (1 : Int32))])) t) => pre2 t (by
      refine Jvm.RoadKit.acmp (g := (mkF m 4 #[.val (.ref a)] [(.ref wI), (.ref a)])) X1 hx rfl rfl rfl (pc0 := 4) (pc' := 14) (same := true) rfl (hb hby d1_4) rfl (decide_eq_true (congrArg Value.ref hc3)) (by decide) (by decide) ?_
      show Steps p.tables e below (T1.setTop (mkF m 14 #[.val (.ref a)] [])) _
      refine XS.iconst X1.here hx rfl (hb hby d1_14) ?_
      show Steps p.tables e below (T1.setTop (mkF m 15 #[.val (.ref a)] [(.int (1 : Int32))])) _
      refine XS.goto X1.here hx rfl (pc0 := 15) (pc' := 19) rfl (hb hby d1_15) (by decide) (by decide) ?_
      show Steps p.tables e below (T1.setTop (mkF m 19 #[.val (.ref a)] [(.int (1 : Int32))])) _
      exact k)
    obtain ⟨fs, hr, hrun, hended, hW, hsame⟩ := X1.leave (v := some (.int (1 : Int32))) (fun h => by rw [Bd.returns] at h; cases h)
    refine ⟨_, _, pre4 _ ?_, hrun, hended, _, _, rfl, ?_, ⟨_, rfl⟩, hW, hsame.mono (by decide) (by decide)⟩
    · exact retN X1 hx (t := .boolean) Bd.returns (by simp) (hb hby d1_19) hr
    · show Q_rel Z a wI wT r h0 n0 _ T1.heap _
      rw [e1]
      exact ⟨(by first | rw [hr0 (by assumption)] | rw [hr1 (by assumption) (by assumption)] | rw [hr2 (by assumption) (by assumption)]), N0, rfl⟩
  · obtain ⟨T5, X5, e5, st5⟩ := getS2 X1 hx hZ hown (host := "") (Or.inl (hw _ (List.mem_of_getElem? (i := 12) rfl))) Via.refl e1 H1_S (g := (mkF m 8 #[.val (.ref a)] [(.ref a)])) rfl (hb hby d1_8)
    have pre6 := fun (t : State) (k : Steps p.tables e below (T5.setTop (mkF m 11 #[.val (.ref a)] [(.ref wT), (.ref a)])) t) => pre2 t (by
      refine Jvm.RoadKit.acmp (g := (mkF m 4 #[.val (.ref a)] [(.ref wI), (.ref a)])) X1 hx rfl rfl rfl (pc0 := 4) (pc' := 7) (same := false) rfl (hb hby d1_4) rfl (decide_eq_false fun q => hc3 (Value.ref.inj q)) (by decide) (by decide) ?_
      show Steps p.tables e below (T1.setTop (mkF m 7 #[.val (.ref a)] [])) _
      refine XS.aloadN X1.here hx rfl (hb hby d1_7) rfl rfl ?_
      show Steps p.tables e below (T1.setTop (mkF m 8 #[.val (.ref a)] [(.ref a)])) _
      refine st5 _ ?_
      show Steps p.tables e below (T5.setTop (mkF m 11 #[.val (.ref a)] [(.ref wT), (.ref a)])) _
      exact k)
    by_cases hc7 : a = wT
    · have pre8 := fun (t : State) (k : Steps p.tables e below (T5.setTop (mkF m 19 #[.val (.ref a)] [(.int (1 : Int32))])) t) => pre6 t (by
        refine Jvm.RoadKit.acmp (g := (mkF m 11 #[.val (.ref a)] [(.ref wT), (.ref a)])) X5 hx rfl rfl rfl (pc0 := 11) (pc' := 14) (same := true) rfl (hb hby d1_11) rfl (decide_eq_true (congrArg Value.ref hc7)) (by decide) (by decide) ?_
        show Steps p.tables e below (T5.setTop (mkF m 14 #[.val (.ref a)] [])) _
        refine XS.iconst X5.here hx rfl (hb hby d1_14) ?_
        show Steps p.tables e below (T5.setTop (mkF m 15 #[.val (.ref a)] [(.int (1 : Int32))])) _
        refine XS.goto X5.here hx rfl (pc0 := 15) (pc' := 19) rfl (hb hby d1_15) (by decide) (by decide) ?_
        show Steps p.tables e below (T5.setTop (mkF m 19 #[.val (.ref a)] [(.int (1 : Int32))])) _
        exact k)
      obtain ⟨fs, hr, hrun, hended, hW, hsame⟩ := X5.leave (v := some (.int (1 : Int32))) (fun h => by rw [Bd.returns] at h; cases h)
      refine ⟨_, _, pre8 _ ?_, hrun, hended, _, _, rfl, ?_, ⟨_, rfl⟩, hW, hsame.mono (by decide) (by decide)⟩
      · exact retN X5 hx (t := .boolean) Bd.returns (by simp) (hb hby d1_19) hr
      · show Q_rel Z a wI wT r h0 n0 _ T5.heap _
        rw [e5]
        exact ⟨(by first | rw [hr0 (by assumption)] | rw [hr1 (by assumption) (by assumption)] | rw [hr2 (by assumption) (by assumption)]), N0, rfl⟩
    · have pre9 := fun (t : State) (k : Steps p.tables e below (T5.setTop (mkF m 19 #[.val (.ref a)] [(.int (0 : Int32))])) t) => pre6 t (by
        refine Jvm.RoadKit.acmp (g := (mkF m 11 #[.val (.ref a)] [(.ref wT), (.ref a)])) X5 hx rfl rfl rfl (pc0 := 11) (pc' := 18) (same := false) rfl (hb hby d1_11) rfl (decide_eq_false fun q => hc7 (Value.ref.inj q)) (by decide) (by decide) ?_
        show Steps p.tables e below (T5.setTop (mkF m 18 #[.val (.ref a)] [])) _
        refine XS.iconst X5.here hx rfl (hb hby d1_18) ?_
        show Steps p.tables e below (T5.setTop (mkF m 19 #[.val (.ref a)] [(.int (0 : Int32))])) _
        exact k)
      obtain ⟨fs, hr, hrun, hended, hW, hsame⟩ := X5.leave (v := some (.int (0 : Int32))) (fun h => by rw [Bd.returns] at h; cases h)
      refine ⟨_, _, pre9 _ ?_, hrun, hended, _, _, rfl, ?_, ⟨_, rfl⟩, hW, hsame.mono (by decide) (by decide)⟩
      · exact retN X5 hx (t := .boolean) Bd.returns (by simp) (hb hby d1_19) hr
      · show Q_rel Z a wI wT r h0 n0 _ T5.heap _
        rw [e5]
        exact ⟨(by first | rw [hr0 (by assumption)] | rw [hr1 (by assumption) (by assumption)] | rw [hr2 (by assumption) (by assumption)]), N0, rfl⟩

theorem ef_law (m : MethodId) (x0 : Int32) : entryFrame m #[(.int x0)] maxLocals = mkF m 0 #[.val (.int x0), .unset, .unset, .unset] [] := by first | (simp [entryFrame, mkF, argsToLocals, Value.category, maxLocals]; done) | rfl
def Q_law (Z : State) (p1 : Int32) (wINDEX : Addr) (wTABLE : Addr) (wSCHEMA : Addr) (wDATABASE : Addr) (wSYSTEM : Addr) (h0 : Heap) (n0 : Nat) (v : Option Value) (h : Heap) (L : List Loc) : Prop := v = some (.int (1 : Int32)) ∧ Fr n0 L ∧ h = h0
set_option maxRecDepth 65536 in
set_option maxHeartbeats 40000000 in
theorem rm_law (l : Launch) (Z : State) (a0 : Array Value) (hw : ∀ d ∈ tables_1, d.before a0 Z = true) (ws : List Jvm.Cond) (p1 : Int32) (wINDEX : Addr) (wTABLE : Addr) (wSCHEMA : Addr) (wDATABASE : Addr) (wSYSTEM : Addr) (h0 : Heap) (n0 : Nat) (Z0 : n0 ≤ h0.size) (H0_S : Sta Z h0 "com/example/tiptoe/tiptoe/StatementReader$Reindexed$Target" "INDEX" "Lcom/example/tiptoe/tiptoe/StatementReader$Reindexed$Target;" (.ref wINDEX)) (H1_S : Sta Z h0 "com/example/tiptoe/tiptoe/StatementReader$Reindexed$Target" "TABLE" "Lcom/example/tiptoe/tiptoe/StatementReader$Reindexed$Target;" (.ref wTABLE)) (H2_S : Sta Z h0 "com/example/tiptoe/tiptoe/StatementReader$Reindexed$Target" "SCHEMA" "Lcom/example/tiptoe/tiptoe/StatementReader$Reindexed$Target;" (.ref wSCHEMA)) (H3_S : Sta Z h0 "com/example/tiptoe/tiptoe/StatementReader$Reindexed$Target" "DATABASE" "Lcom/example/tiptoe/tiptoe/StatementReader$Reindexed$Target;" (.ref wDATABASE)) (H4_S : Sta Z h0 "com/example/tiptoe/tiptoe/StatementReader$Reindexed$Target" "SYSTEM" "Lcom/example/tiptoe/tiptoe/StatementReader$Reindexed$Target;" (.ref wSYSTEM)) (H5_E : Exa Z h0 wINDEX "com/example/tiptoe/tiptoe/StatementReader$Reindexed$Target") (H6_E : Exa Z h0 wTABLE "com/example/tiptoe/tiptoe/StatementReader$Reindexed$Target") (H7_E : Exa Z h0 wSCHEMA "com/example/tiptoe/tiptoe/StatementReader$Reindexed$Target") (H8_E : Exa Z h0 wDATABASE "com/example/tiptoe/tiptoe/StatementReader$Reindexed$Target") (H9_E : Exa Z h0 wSYSTEM "com/example/tiptoe/tiptoe/StatementReader$Reindexed$Target") (hne_TABLE_INDEX : wTABLE ≠ wINDEX) (hne_SCHEMA_INDEX : wSCHEMA ≠ wINDEX) (hne_DATABASE_INDEX : wDATABASE ≠ wINDEX) (hne_SYSTEM_INDEX : wSYSTEM ≠ wINDEX) (hne_SCHEMA_TABLE : wSCHEMA ≠ wTABLE) (hne_DATABASE_TABLE : wDATABASE ≠ wTABLE) (hne_SYSTEM_TABLE : wSYSTEM ≠ wTABLE) :
    MetFree l x (head1 (Jvm.Cond.code x code maxLocals ret :: ws) room_1) (fun as_ U_ => as_ = #[(.int p1)] ∧ Z.Warmed39 U_.vm ∧ U_.heap = h0) (fun _ _ _ _ _ => True) (fun _ U o U' => ∃ v L, o = .returned v ∧ Q_law Z p1 wINDEX wTABLE wSCHEMA wDATABASE wSYSTEM h0 n0 v U'.heap L ∧ FrameEnd U o U' L 0 0) := by
  refine MetFree.of_bodySF (plainFor_of_name pn_1) hisR ?_
  intro p e s m args below meth c s₁ Bd hml0 hP hK
  obtain ⟨rfl, hZ, hh⟩ := hP
  have hx := Bd.exec
  have hby := Bd.bytes
  have hml : c.maxLocals = 4 := hml0
  have hown : s.vm.findClass "com/example/tiptoe/tiptoe/TargetRelationPinLaw" = some m.cls := findClass_of_methodNamed Bd.named
  have hnm := (name_of_methodNamed Bd.named Bd.method).1
  have X0 : Stand p l e room_1 s m #[(.int p1)] below meth c s₁ [] 0 0 := Stand.of_body Bd
  have e0 : s₁.heap = h0 := by rw [← hh, Bd.state]; rfl
  have N0 := Fr.nil n0
  have pre0 : ∀ t, Steps p.tables e below (s₁.setTop (mkF m 0 #[.val (.int p1), .unset, .unset, .unset] [])) t → Steps p.tables e below (s₁.setTop (entryFrame m #[(.int p1)] maxLocals)) t := fun t k => castTop (ef_law m p1) k
  have pre1 := fun (t : State) (k : Steps p.tables e below (s₁.setTop (mkF m 8 #[.val (.int p1), .val (.int (own_irem (p1 &&& (2147483647 : Int32)) (5 : Int32))), .unset, .unset] [(.int (own_irem (p1 &&& (2147483647 : Int32)) (5 : Int32)))])) t) => pre0 t (by
    refine XS.iloadN X0.here hx rfl (hb hby at_0) rfl ?_
    show Steps p.tables e below (s₁.setTop (mkF m 1 #[.val (.int p1), .unset, .unset, .unset] [(.int p1)])) _
    refine X0.ldcInt hx hown (mvT hZ (hw _ (List.mem_of_getElem? (i := 0) rfl))) (g := (mkF m 1 #[.val (.int p1), .unset, .unset, .unset] [(.int p1)])) rfl (hb hby at_1) _ ?_
    show Steps p.tables e below (s₁.setTop (mkF m 3 #[.val (.int p1), .unset, .unset, .unset] [(.int (2147483647 : Int32)), (.int p1)])) _
    refine XS.iand X0.here hx rfl (hb hby at_3) rfl ?_
    show Steps p.tables e below (s₁.setTop (mkF m 4 #[.val (.int p1), .unset, .unset, .unset] [(.int (p1 &&& (2147483647 : Int32)))])) _
    refine XS.iconst X0.here hx rfl (hb hby at_4) ?_
    show Steps p.tables e below (s₁.setTop (mkF m 5 #[.val (.int p1), .unset, .unset, .unset] [(.int (5 : Int32)), (.int (p1 &&& (2147483647 : Int32)))])) _
    refine XS.irem X0.here hx rfl (hb hby at_5) rfl (by decide) ?_
    show Steps p.tables e below (s₁.setTop (mkF m 6 #[.val (.int p1), .unset, .unset, .unset] [(.int (own_irem (p1 &&& (2147483647 : Int32)) (5 : Int32)))])) _
    refine XS.istoreN X0.here hx rfl (hb hby at_6) rfl (l' := #[.val (.int p1), .val (.int (own_irem (p1 &&& (2147483647 : Int32)) (5 : Int32))), .unset, .unset]) rfl ?_
    show Steps p.tables e below (s₁.setTop (mkF m 7 #[.val (.int p1), .val (.int (own_irem (p1 &&& (2147483647 : Int32)) (5 : Int32))), .unset, .unset] [])) _
    refine XS.iloadN X0.here hx rfl (hb hby at_7) rfl ?_
    show Steps p.tables e below (s₁.setTop (mkF m 8 #[.val (.int p1), .val (.int (own_irem (p1 &&& (2147483647 : Int32)) (5 : Int32))), .unset, .unset] [(.int (own_irem (p1 &&& (2147483647 : Int32)) (5 : Int32)))])) _
    exact k)
  by_cases hc2 : (own_irem (p1 &&& (2147483647 : Int32)) (5 : Int32)) = (0 : Int32)
  · obtain ⟨T3, X3, e3, st3⟩ := getS2 X0 hx hZ hown (host := "") (Or.inl (hw _ (List.mem_of_getElem? (i := 1) rfl))) Via.refl e0 H0_S (g := (mkF m 11 #[.val (.int p1), .val (.int (own_irem (p1 &&& (2147483647 : Int32)) (5 : Int32))), .unset, .unset] [])) rfl (hb hby at_11)
    obtain ⟨cq4, kq4, q4a, q4b, q4c⟩ := isOf hZ e3 H5_E
    obtain ⟨_, _, ⟨T4, L4, k4, n4⟩, -, X4, ⟨Lc4, hQ4, l4, y4, z4⟩, st4⟩ := X3.virtualBack hx (y := (⟨"com/example/tiptoe/tiptoe/StatementReader$Reindexed$Target", "relation", "()Z"⟩ : MethodName)) (z := (⟨"com/example/tiptoe/tiptoe/StatementReader$Reindexed$Target", "relation", "()Z"⟩ : MethodName)) hown (mvT hZ (hw _ (List.mem_of_getElem? (i := 4) rfl))) (mvT hZ (hw _ (List.mem_of_getElem? (i := 5) rfl))) (notFace_of_selects (args := #[]) (mvT hZ (hw _ (List.mem_of_getElem? (i := 7) rfl)))) (mvT hZ (hw _ (List.mem_of_getElem? (i := 7) rfl))) (mvT hZ (hw _ (List.mem_of_getElem? (i := 6) rfl))) (by decide) (backOf (W := 0) (rm_rel l Z a0 hw [] wINDEX wINDEX wTABLE (1 : Int32) h0 n0 Z0 H0_S H1_S (fun _ => rfl) (fun q _ => absurd rfl q) (fun q _ => absurd rfl q)) hZ (hw _ (List.mem_of_getElem? (i := 8) rfl)) (hw _ (List.mem_of_getElem? (i := 2) rfl)) (by decide) (by decide)) q4a q4c (g := (mkF m 69 #[.val (.int p1), .val (.int (own_irem (p1 &&& (2147483647 : Int32)) (5 : Int32))), .val (.ref wINDEX), .val (.int (1 : Int32))] [(.ref wINDEX)])) rfl (by rw [hml]; rfl) (Steps.refl _) (argsL := []) (rest := []) (lenOf pd_0 rfl) rfl (by show 2 * 0 + _ ≤ _; exact Nat.le_of_eq rfl) (hb hby at_69) (fun _ _ => ⟨rfl, e3, (by decide : 0 + 0 ≤ _), (by decide : 0 + 0 ≤ _)⟩)
    dsimp only [Pt.U, Pt.locs, Pt.cells, Pt.slots] at X4 l4 y4 z4 st4 hQ4
    subst l4 y4 z4
    obtain ⟨rfl, N4q, hq5⟩ := hQ4
    have N4 := Fr.app N0 N4q
    have pre6 := fun (t : State) (k : Steps p.tables e below (T4.setTop (mkF m 81 #[.val (.int p1), .val (.int (own_irem (p1 &&& (2147483647 : Int32)) (5 : Int32))), .val (.ref wINDEX), .val (.int (1 : Int32))] [(.int (1 : Int32))])) t) => pre1 t (by
      refine XS.ifNo X0.here hx rfl (hb hby at_8) rfl ((if0 _ _).trans (teq hc2).2) ?_
      show Steps p.tables e below (s₁.setTop (mkF m 11 #[.val (.int p1), .val (.int (own_irem (p1 &&& (2147483647 : Int32)) (5 : Int32))), .unset, .unset] [])) _
      refine st3 _ ?_
      show Steps p.tables e below (T3.setTop (mkF m 14 #[.val (.int p1), .val (.int (own_irem (p1 &&& (2147483647 : Int32)) (5 : Int32))), .unset, .unset] [(.ref wINDEX)])) _
      refine XS.astoreN X3.here hx rfl (hb hby at_14) rfl rfl (l' := #[.val (.int p1), .val (.int (own_irem (p1 &&& (2147483647 : Int32)) (5 : Int32))), .val (.ref wINDEX), .unset]) rfl ?_
      show Steps p.tables e below (T3.setTop (mkF m 15 #[.val (.int p1), .val (.int (own_irem (p1 &&& (2147483647 : Int32)) (5 : Int32))), .val (.ref wINDEX), .unset] [])) _
      refine XS.iconst X3.here hx rfl (hb hby at_15) ?_
      show Steps p.tables e below (T3.setTop (mkF m 16 #[.val (.int p1), .val (.int (own_irem (p1 &&& (2147483647 : Int32)) (5 : Int32))), .val (.ref wINDEX), .unset] [(.int (1 : Int32))])) _
      refine XS.istoreN X3.here hx rfl (hb hby at_16) rfl (l' := #[.val (.int p1), .val (.int (own_irem (p1 &&& (2147483647 : Int32)) (5 : Int32))), .val (.ref wINDEX), .val (.int (1 : Int32))]) rfl ?_
      show Steps p.tables e below (T3.setTop (mkF m 17 #[.val (.int p1), .val (.int (own_irem (p1 &&& (2147483647 : Int32)) (5 : Int32))), .val (.ref wINDEX), .val (.int (1 : Int32))] [])) _
      refine XS.goto X3.here hx rfl (pc0 := 17) (pc' := 68) rfl (hb hby at_17) (by decide) (by decide) ?_
      show Steps p.tables e below (T3.setTop (mkF m 68 #[.val (.int p1), .val (.int (own_irem (p1 &&& (2147483647 : Int32)) (5 : Int32))), .val (.ref wINDEX), .val (.int (1 : Int32))] [])) _
      refine XS.aloadN X3.here hx rfl (hb hby at_68) rfl rfl ?_
      show Steps p.tables e below (T3.setTop (mkF m 69 #[.val (.int p1), .val (.int (own_irem (p1 &&& (2147483647 : Int32)) (5 : Int32))), .val (.ref wINDEX), .val (.int (1 : Int32))] [(.ref wINDEX)])) _
      refine st4.trans ?_
      show Steps p.tables e below (T4.setTop (mkF m 72 #[.val (.int p1), .val (.int (own_irem (p1 &&& (2147483647 : Int32)) (5 : Int32))), .val (.ref wINDEX), .val (.int (1 : Int32))] [(.int (1 : Int32))])) _
      refine XS.iloadN X4.here hx rfl (hb hby at_72) rfl ?_
      show Steps p.tables e below (T4.setTop (mkF m 73 #[.val (.int p1), .val (.int (own_irem (p1 &&& (2147483647 : Int32)) (5 : Int32))), .val (.ref wINDEX), .val (.int (1 : Int32))] [(.int (1 : Int32)), (.int (1 : Int32))])) _
      refine XS.icmpNo X4.here hx rfl (hb hby at_73) rfl (teq (by decide : (1 : Int32) = (1 : Int32))).2 ?_
      show Steps p.tables e below (T4.setTop (mkF m 76 #[.val (.int p1), .val (.int (own_irem (p1 &&& (2147483647 : Int32)) (5 : Int32))), .val (.ref wINDEX), .val (.int (1 : Int32))] [])) _
      refine XS.iconst X4.here hx rfl (hb hby at_76) ?_
      show Steps p.tables e below (T4.setTop (mkF m 77 #[.val (.int p1), .val (.int (own_irem (p1 &&& (2147483647 : Int32)) (5 : Int32))), .val (.ref wINDEX), .val (.int (1 : Int32))] [(.int (1 : Int32))])) _
      refine XS.goto X4.here hx rfl (pc0 := 77) (pc' := 81) rfl (hb hby at_77) (by decide) (by decide) ?_
      show Steps p.tables e below (T4.setTop (mkF m 81 #[.val (.int p1), .val (.int (own_irem (p1 &&& (2147483647 : Int32)) (5 : Int32))), .val (.ref wINDEX), .val (.int (1 : Int32))] [(.int (1 : Int32))])) _
      exact k)
    obtain ⟨fs, hr, hrun, hended, hW, hsame⟩ := X4.leave (v := some (.int (1 : Int32))) (fun h => by rw [Bd.returns] at h; cases h)
    refine ⟨_, _, pre6 _ ?_, hrun, hended, _, _, rfl, ?_, ⟨_, rfl⟩, hW, hsame.mono (by decide) (by decide)⟩
    · exact retN X4 hx (t := .boolean) Bd.returns (by simp) (hb hby at_81) hr
    · show Q_law Z p1 wINDEX wTABLE wSCHEMA wDATABASE wSYSTEM h0 n0 _ T4.heap _
      rw [hq5]
      exact ⟨rfl, N4, rfl⟩
  · have pre7 := fun (t : State) (k : Steps p.tables e below (s₁.setTop (mkF m 22 #[.val (.int p1), .val (.int (own_irem (p1 &&& (2147483647 : Int32)) (5 : Int32))), .unset, .unset] [(.int (1 : Int32)), (.int (own_irem (p1 &&& (2147483647 : Int32)) (5 : Int32)))])) t) => pre1 t (by
      refine XS.ifYes X0.here hx rfl (pc0 := 8) (pc' := 20) rfl (hb hby at_8) rfl ((if0 _ _).trans (feq hc2).2) (by decide) (by decide) ?_
      show Steps p.tables e below (s₁.setTop (mkF m 20 #[.val (.int p1), .val (.int (own_irem (p1 &&& (2147483647 : Int32)) (5 : Int32))), .unset, .unset] [])) _
      refine XS.iloadN X0.here hx rfl (hb hby at_20) rfl ?_
      show Steps p.tables e below (s₁.setTop (mkF m 21 #[.val (.int p1), .val (.int (own_irem (p1 &&& (2147483647 : Int32)) (5 : Int32))), .unset, .unset] [(.int (own_irem (p1 &&& (2147483647 : Int32)) (5 : Int32)))])) _
      refine XS.iconst X0.here hx rfl (hb hby at_21) ?_
      show Steps p.tables e below (s₁.setTop (mkF m 22 #[.val (.int p1), .val (.int (own_irem (p1 &&& (2147483647 : Int32)) (5 : Int32))), .unset, .unset] [(.int (1 : Int32)), (.int (own_irem (p1 &&& (2147483647 : Int32)) (5 : Int32)))])) _
      exact k)
    by_cases hc8 : (own_irem (p1 &&& (2147483647 : Int32)) (5 : Int32)) = (1 : Int32)
    · obtain ⟨T9, X9, e9, st9⟩ := getS2 X0 hx hZ hown (host := "") (Or.inl (hw _ (List.mem_of_getElem? (i := 14) rfl))) Via.refl e0 H1_S (g := (mkF m 25 #[.val (.int p1), .val (.int (own_irem (p1 &&& (2147483647 : Int32)) (5 : Int32))), .unset, .unset] [])) rfl (hb hby at_25)
      obtain ⟨cq10, kq10, q10a, q10b, q10c⟩ := isOf hZ e9 H6_E
      obtain ⟨_, _, ⟨T10, L10, k10, n10⟩, -, X10, ⟨Lc10, hQ10, l10, y10, z10⟩, st10⟩ := X9.virtualBack hx (y := (⟨"com/example/tiptoe/tiptoe/StatementReader$Reindexed$Target", "relation", "()Z"⟩ : MethodName)) (z := (⟨"com/example/tiptoe/tiptoe/StatementReader$Reindexed$Target", "relation", "()Z"⟩ : MethodName)) hown (mvT hZ (hw _ (List.mem_of_getElem? (i := 4) rfl))) (mvT hZ (hw _ (List.mem_of_getElem? (i := 5) rfl))) (notFace_of_selects (args := #[]) (mvT hZ (hw _ (List.mem_of_getElem? (i := 7) rfl)))) (mvT hZ (hw _ (List.mem_of_getElem? (i := 7) rfl))) (mvT hZ (hw _ (List.mem_of_getElem? (i := 6) rfl))) (by decide) (backOf (W := 0) (rm_rel l Z a0 hw [] wTABLE wINDEX wTABLE (1 : Int32) h0 n0 Z0 H0_S H1_S (fun q => absurd q hne_TABLE_INDEX) (fun _ _ => rfl) (fun _ q => absurd rfl q)) hZ (hw _ (List.mem_of_getElem? (i := 8) rfl)) (hw _ (List.mem_of_getElem? (i := 2) rfl)) (by decide) (by decide)) q10a q10c (g := (mkF m 69 #[.val (.int p1), .val (.int (own_irem (p1 &&& (2147483647 : Int32)) (5 : Int32))), .val (.ref wTABLE), .val (.int (1 : Int32))] [(.ref wTABLE)])) rfl (by rw [hml]; rfl) (Steps.refl _) (argsL := []) (rest := []) (lenOf pd_0 rfl) rfl (by show 2 * 0 + _ ≤ _; exact Nat.le_of_eq rfl) (hb hby at_69) (fun _ _ => ⟨rfl, e9, (by decide : 0 + 0 ≤ _), (by decide : 0 + 0 ≤ _)⟩)
      dsimp only [Pt.U, Pt.locs, Pt.cells, Pt.slots] at X10 l10 y10 z10 st10 hQ10
      subst l10 y10 z10
      obtain ⟨rfl, N10q, hq11⟩ := hQ10
      have N10 := Fr.app N0 N10q
      have pre12 := fun (t : State) (k : Steps p.tables e below (T10.setTop (mkF m 81 #[.val (.int p1), .val (.int (own_irem (p1 &&& (2147483647 : Int32)) (5 : Int32))), .val (.ref wTABLE), .val (.int (1 : Int32))] [(.int (1 : Int32))])) t) => pre7 t (by
        refine XS.icmpNo X0.here hx rfl (hb hby at_22) rfl (teq hc8).2 ?_
        show Steps p.tables e below (s₁.setTop (mkF m 25 #[.val (.int p1), .val (.int (own_irem (p1 &&& (2147483647 : Int32)) (5 : Int32))), .unset, .unset] [])) _
        refine st9 _ ?_
        show Steps p.tables e below (T9.setTop (mkF m 28 #[.val (.int p1), .val (.int (own_irem (p1 &&& (2147483647 : Int32)) (5 : Int32))), .unset, .unset] [(.ref wTABLE)])) _
        refine XS.astoreN X9.here hx rfl (hb hby at_28) rfl rfl (l' := #[.val (.int p1), .val (.int (own_irem (p1 &&& (2147483647 : Int32)) (5 : Int32))), .val (.ref wTABLE), .unset]) rfl ?_
        show Steps p.tables e below (T9.setTop (mkF m 29 #[.val (.int p1), .val (.int (own_irem (p1 &&& (2147483647 : Int32)) (5 : Int32))), .val (.ref wTABLE), .unset] [])) _
        refine XS.iconst X9.here hx rfl (hb hby at_29) ?_
        show Steps p.tables e below (T9.setTop (mkF m 30 #[.val (.int p1), .val (.int (own_irem (p1 &&& (2147483647 : Int32)) (5 : Int32))), .val (.ref wTABLE), .unset] [(.int (1 : Int32))])) _
        refine XS.istoreN X9.here hx rfl (hb hby at_30) rfl (l' := #[.val (.int p1), .val (.int (own_irem (p1 &&& (2147483647 : Int32)) (5 : Int32))), .val (.ref wTABLE), .val (.int (1 : Int32))]) rfl ?_
        show Steps p.tables e below (T9.setTop (mkF m 31 #[.val (.int p1), .val (.int (own_irem (p1 &&& (2147483647 : Int32)) (5 : Int32))), .val (.ref wTABLE), .val (.int (1 : Int32))] [])) _
        refine XS.goto X9.here hx rfl (pc0 := 31) (pc' := 68) rfl (hb hby at_31) (by decide) (by decide) ?_
        show Steps p.tables e below (T9.setTop (mkF m 68 #[.val (.int p1), .val (.int (own_irem (p1 &&& (2147483647 : Int32)) (5 : Int32))), .val (.ref wTABLE), .val (.int (1 : Int32))] [])) _
        refine XS.aloadN X9.here hx rfl (hb hby at_68) rfl rfl ?_
        show Steps p.tables e below (T9.setTop (mkF m 69 #[.val (.int p1), .val (.int (own_irem (p1 &&& (2147483647 : Int32)) (5 : Int32))), .val (.ref wTABLE), .val (.int (1 : Int32))] [(.ref wTABLE)])) _
        refine st10.trans ?_
        show Steps p.tables e below (T10.setTop (mkF m 72 #[.val (.int p1), .val (.int (own_irem (p1 &&& (2147483647 : Int32)) (5 : Int32))), .val (.ref wTABLE), .val (.int (1 : Int32))] [(.int (1 : Int32))])) _
        refine XS.iloadN X10.here hx rfl (hb hby at_72) rfl ?_
        show Steps p.tables e below (T10.setTop (mkF m 73 #[.val (.int p1), .val (.int (own_irem (p1 &&& (2147483647 : Int32)) (5 : Int32))), .val (.ref wTABLE), .val (.int (1 : Int32))] [(.int (1 : Int32)), (.int (1 : Int32))])) _
        refine XS.icmpNo X10.here hx rfl (hb hby at_73) rfl (teq (by decide : (1 : Int32) = (1 : Int32))).2 ?_
        show Steps p.tables e below (T10.setTop (mkF m 76 #[.val (.int p1), .val (.int (own_irem (p1 &&& (2147483647 : Int32)) (5 : Int32))), .val (.ref wTABLE), .val (.int (1 : Int32))] [])) _
        refine XS.iconst X10.here hx rfl (hb hby at_76) ?_
        show Steps p.tables e below (T10.setTop (mkF m 77 #[.val (.int p1), .val (.int (own_irem (p1 &&& (2147483647 : Int32)) (5 : Int32))), .val (.ref wTABLE), .val (.int (1 : Int32))] [(.int (1 : Int32))])) _
        refine XS.goto X10.here hx rfl (pc0 := 77) (pc' := 81) rfl (hb hby at_77) (by decide) (by decide) ?_
        show Steps p.tables e below (T10.setTop (mkF m 81 #[.val (.int p1), .val (.int (own_irem (p1 &&& (2147483647 : Int32)) (5 : Int32))), .val (.ref wTABLE), .val (.int (1 : Int32))] [(.int (1 : Int32))])) _
        exact k)
      obtain ⟨fs, hr, hrun, hended, hW, hsame⟩ := X10.leave (v := some (.int (1 : Int32))) (fun h => by rw [Bd.returns] at h; cases h)
      refine ⟨_, _, pre12 _ ?_, hrun, hended, _, _, rfl, ?_, ⟨_, rfl⟩, hW, hsame.mono (by decide) (by decide)⟩
      · exact retN X10 hx (t := .boolean) Bd.returns (by simp) (hb hby at_81) hr
      · show Q_law Z p1 wINDEX wTABLE wSCHEMA wDATABASE wSYSTEM h0 n0 _ T10.heap _
        rw [hq11]
        exact ⟨rfl, N10, rfl⟩
    · have pre13 := fun (t : State) (k : Steps p.tables e below (s₁.setTop (mkF m 36 #[.val (.int p1), .val (.int (own_irem (p1 &&& (2147483647 : Int32)) (5 : Int32))), .unset, .unset] [(.int (2 : Int32)), (.int (own_irem (p1 &&& (2147483647 : Int32)) (5 : Int32)))])) t) => pre7 t (by
        refine XS.icmpYes X0.here hx rfl (pc0 := 22) (pc' := 34) rfl (hb hby at_22) rfl (feq hc8).2 (by decide) (by decide) ?_
        show Steps p.tables e below (s₁.setTop (mkF m 34 #[.val (.int p1), .val (.int (own_irem (p1 &&& (2147483647 : Int32)) (5 : Int32))), .unset, .unset] [])) _
        refine XS.iloadN X0.here hx rfl (hb hby at_34) rfl ?_
        show Steps p.tables e below (s₁.setTop (mkF m 35 #[.val (.int p1), .val (.int (own_irem (p1 &&& (2147483647 : Int32)) (5 : Int32))), .unset, .unset] [(.int (own_irem (p1 &&& (2147483647 : Int32)) (5 : Int32)))])) _
        refine XS.iconst X0.here hx rfl (hb hby at_35) ?_
        show Steps p.tables e below (s₁.setTop (mkF m 36 #[.val (.int p1), .val (.int (own_irem (p1 &&& (2147483647 : Int32)) (5 : Int32))), .unset, .unset] [(.int (2 : Int32)), (.int (own_irem (p1 &&& (2147483647 : Int32)) (5 : Int32)))])) _
        exact k)
      by_cases hc14 : (own_irem (p1 &&& (2147483647 : Int32)) (5 : Int32)) = (2 : Int32)
      · obtain ⟨T15, X15, e15, st15⟩ := getS2 X0 hx hZ hown (host := "") (Or.inl (hw _ (List.mem_of_getElem? (i := 17) rfl))) Via.refl e0 H2_S (g := (mkF m 39 #[.val (.int p1), .val (.int (own_irem (p1 &&& (2147483647 : Int32)) (5 : Int32))), .unset, .unset] [])) rfl (hb hby at_39)
        obtain ⟨cq16, kq16, q16a, q16b, q16c⟩ := isOf hZ e15 H7_E
        obtain ⟨_, _, ⟨T16, L16, k16, n16⟩, -, X16, ⟨Lc16, hQ16, l16, y16, z16⟩, st16⟩ := X15.virtualBack hx (y := (⟨"com/example/tiptoe/tiptoe/StatementReader$Reindexed$Target", "relation", "()Z"⟩ : MethodName)) (z := (⟨"com/example/tiptoe/tiptoe/StatementReader$Reindexed$Target", "relation", "()Z"⟩ : MethodName)) hown (mvT hZ (hw _ (List.mem_of_getElem? (i := 4) rfl))) (mvT hZ (hw _ (List.mem_of_getElem? (i := 5) rfl))) (notFace_of_selects (args := #[]) (mvT hZ (hw _ (List.mem_of_getElem? (i := 7) rfl)))) (mvT hZ (hw _ (List.mem_of_getElem? (i := 7) rfl))) (mvT hZ (hw _ (List.mem_of_getElem? (i := 6) rfl))) (by decide) (backOf (W := 0) (rm_rel l Z a0 hw [] wSCHEMA wINDEX wTABLE (0 : Int32) h0 n0 Z0 H0_S H1_S (fun q => absurd q hne_SCHEMA_INDEX) (fun _ q => absurd q hne_SCHEMA_TABLE) (fun _ _ => rfl)) hZ (hw _ (List.mem_of_getElem? (i := 8) rfl)) (hw _ (List.mem_of_getElem? (i := 2) rfl)) (by decide) (by decide)) q16a q16c (g := (mkF m 69 #[.val (.int p1), .val (.int (own_irem (p1 &&& (2147483647 : Int32)) (5 : Int32))), .val (.ref wSCHEMA), .val (.int (0 : Int32))] [(.ref wSCHEMA)])) rfl (by rw [hml]; rfl) (Steps.refl _) (argsL := []) (rest := []) (lenOf pd_0 rfl) rfl (by show 2 * 0 + _ ≤ _; exact Nat.le_of_eq rfl) (hb hby at_69) (fun _ _ => ⟨rfl, e15, (by decide : 0 + 0 ≤ _), (by decide : 0 + 0 ≤ _)⟩)
        dsimp only [Pt.U, Pt.locs, Pt.cells, Pt.slots] at X16 l16 y16 z16 st16 hQ16
        subst l16 y16 z16
        obtain ⟨rfl, N16q, hq17⟩ := hQ16
        have N16 := Fr.app N0 N16q
        have pre18 := fun (t : State) (k : Steps p.tables e below (T16.setTop (mkF m 81 #[.val (.int p1), .val (.int (own_irem (p1 &&& (2147483647 : Int32)) (5 : Int32))), .val (.ref wSCHEMA), .val (.int (0 : Int32))] [(.int (1 : Int32))])) t) => pre13 t (by
          refine XS.icmpNo X0.here hx rfl (hb hby at_36) rfl (teq hc14).2 ?_
          show Steps p.tables e below (s₁.setTop (mkF m 39 #[.val (.int p1), .val (.int (own_irem (p1 &&& (2147483647 : Int32)) (5 : Int32))), .unset, .unset] [])) _
          refine st15 _ ?_
          show Steps p.tables e below (T15.setTop (mkF m 42 #[.val (.int p1), .val (.int (own_irem (p1 &&& (2147483647 : Int32)) (5 : Int32))), .unset, .unset] [(.ref wSCHEMA)])) _
          refine XS.astoreN X15.here hx rfl (hb hby at_42) rfl rfl (l' := #[.val (.int p1), .val (.int (own_irem (p1 &&& (2147483647 : Int32)) (5 : Int32))), .val (.ref wSCHEMA), .unset]) rfl ?_
          show Steps p.tables e below (T15.setTop (mkF m 43 #[.val (.int p1), .val (.int (own_irem (p1 &&& (2147483647 : Int32)) (5 : Int32))), .val (.ref wSCHEMA), .unset] [])) _
          refine XS.iconst X15.here hx rfl (hb hby at_43) ?_
          show Steps p.tables e below (T15.setTop (mkF m 44 #[.val (.int p1), .val (.int (own_irem (p1 &&& (2147483647 : Int32)) (5 : Int32))), .val (.ref wSCHEMA), .unset] [(.int (0 : Int32))])) _
          refine XS.istoreN X15.here hx rfl (hb hby at_44) rfl (l' := #[.val (.int p1), .val (.int (own_irem (p1 &&& (2147483647 : Int32)) (5 : Int32))), .val (.ref wSCHEMA), .val (.int (0 : Int32))]) rfl ?_
          show Steps p.tables e below (T15.setTop (mkF m 45 #[.val (.int p1), .val (.int (own_irem (p1 &&& (2147483647 : Int32)) (5 : Int32))), .val (.ref wSCHEMA), .val (.int (0 : Int32))] [])) _
          refine XS.goto X15.here hx rfl (pc0 := 45) (pc' := 68) rfl (hb hby at_45) (by decide) (by decide) ?_
          show Steps p.tables e below (T15.setTop (mkF m 68 #[.val (.int p1), .val (.int (own_irem (p1 &&& (2147483647 : Int32)) (5 : Int32))), .val (.ref wSCHEMA), .val (.int (0 : Int32))] [])) _
          refine XS.aloadN X15.here hx rfl (hb hby at_68) rfl rfl ?_
          show Steps p.tables e below (T15.setTop (mkF m 69 #[.val (.int p1), .val (.int (own_irem (p1 &&& (2147483647 : Int32)) (5 : Int32))), .val (.ref wSCHEMA), .val (.int (0 : Int32))] [(.ref wSCHEMA)])) _
          refine st16.trans ?_
          show Steps p.tables e below (T16.setTop (mkF m 72 #[.val (.int p1), .val (.int (own_irem (p1 &&& (2147483647 : Int32)) (5 : Int32))), .val (.ref wSCHEMA), .val (.int (0 : Int32))] [(.int (0 : Int32))])) _
          refine XS.iloadN X16.here hx rfl (hb hby at_72) rfl ?_
          show Steps p.tables e below (T16.setTop (mkF m 73 #[.val (.int p1), .val (.int (own_irem (p1 &&& (2147483647 : Int32)) (5 : Int32))), .val (.ref wSCHEMA), .val (.int (0 : Int32))] [(.int (0 : Int32)), (.int (0 : Int32))])) _
          refine XS.icmpNo X16.here hx rfl (hb hby at_73) rfl (teq (by decide : (0 : Int32) = (0 : Int32))).2 ?_
          show Steps p.tables e below (T16.setTop (mkF m 76 #[.val (.int p1), .val (.int (own_irem (p1 &&& (2147483647 : Int32)) (5 : Int32))), .val (.ref wSCHEMA), .val (.int (0 : Int32))] [])) _
          refine XS.iconst X16.here hx rfl (hb hby at_76) ?_
          show Steps p.tables e below (T16.setTop (mkF m 77 #[.val (.int p1), .val (.int (own_irem (p1 &&& (2147483647 : Int32)) (5 : Int32))), .val (.ref wSCHEMA), .val (.int (0 : Int32))] [(.int (1 : Int32))])) _
          refine XS.goto X16.here hx rfl (pc0 := 77) (pc' := 81) rfl (hb hby at_77) (by decide) (by decide) ?_
          show Steps p.tables e below (T16.setTop (mkF m 81 #[.val (.int p1), .val (.int (own_irem (p1 &&& (2147483647 : Int32)) (5 : Int32))), .val (.ref wSCHEMA), .val (.int (0 : Int32))] [(.int (1 : Int32))])) _
          exact k)
        obtain ⟨fs, hr, hrun, hended, hW, hsame⟩ := X16.leave (v := some (.int (1 : Int32))) (fun h => by rw [Bd.returns] at h; cases h)
        refine ⟨_, _, pre18 _ ?_, hrun, hended, _, _, rfl, ?_, ⟨_, rfl⟩, hW, hsame.mono (by decide) (by decide)⟩
        · exact retN X16 hx (t := .boolean) Bd.returns (by simp) (hb hby at_81) hr
        · show Q_law Z p1 wINDEX wTABLE wSCHEMA wDATABASE wSYSTEM h0 n0 _ T16.heap _
          rw [hq17]
          exact ⟨rfl, N16, rfl⟩
      · have pre19 := fun (t : State) (k : Steps p.tables e below (s₁.setTop (mkF m 50 #[.val (.int p1), .val (.int (own_irem (p1 &&& (2147483647 : Int32)) (5 : Int32))), .unset, .unset] [(.int (3 : Int32)), (.int (own_irem (p1 &&& (2147483647 : Int32)) (5 : Int32)))])) t) => pre13 t (by
          refine XS.icmpYes X0.here hx rfl (pc0 := 36) (pc' := 48) rfl (hb hby at_36) rfl (feq hc14).2 (by decide) (by decide) ?_
          show Steps p.tables e below (s₁.setTop (mkF m 48 #[.val (.int p1), .val (.int (own_irem (p1 &&& (2147483647 : Int32)) (5 : Int32))), .unset, .unset] [])) _
          refine XS.iloadN X0.here hx rfl (hb hby at_48) rfl ?_
          show Steps p.tables e below (s₁.setTop (mkF m 49 #[.val (.int p1), .val (.int (own_irem (p1 &&& (2147483647 : Int32)) (5 : Int32))), .unset, .unset] [(.int (own_irem (p1 &&& (2147483647 : Int32)) (5 : Int32)))])) _
          refine XS.iconst X0.here hx rfl (hb hby at_49) ?_
          show Steps p.tables e below (s₁.setTop (mkF m 50 #[.val (.int p1), .val (.int (own_irem (p1 &&& (2147483647 : Int32)) (5 : Int32))), .unset, .unset] [(.int (3 : Int32)), (.int (own_irem (p1 &&& (2147483647 : Int32)) (5 : Int32)))])) _
          exact k)
        by_cases hc20 : (own_irem (p1 &&& (2147483647 : Int32)) (5 : Int32)) = (3 : Int32)
        · obtain ⟨T21, X21, e21, st21⟩ := getS2 X0 hx hZ hown (host := "") (Or.inl (hw _ (List.mem_of_getElem? (i := 10) rfl))) Via.refl e0 H3_S (g := (mkF m 53 #[.val (.int p1), .val (.int (own_irem (p1 &&& (2147483647 : Int32)) (5 : Int32))), .unset, .unset] [])) rfl (hb hby at_53)
          obtain ⟨cq22, kq22, q22a, q22b, q22c⟩ := isOf hZ e21 H8_E
          obtain ⟨_, _, ⟨T22, L22, k22, n22⟩, -, X22, ⟨Lc22, hQ22, l22, y22, z22⟩, st22⟩ := X21.virtualBack hx (y := (⟨"com/example/tiptoe/tiptoe/StatementReader$Reindexed$Target", "relation", "()Z"⟩ : MethodName)) (z := (⟨"com/example/tiptoe/tiptoe/StatementReader$Reindexed$Target", "relation", "()Z"⟩ : MethodName)) hown (mvT hZ (hw _ (List.mem_of_getElem? (i := 4) rfl))) (mvT hZ (hw _ (List.mem_of_getElem? (i := 5) rfl))) (notFace_of_selects (args := #[]) (mvT hZ (hw _ (List.mem_of_getElem? (i := 7) rfl)))) (mvT hZ (hw _ (List.mem_of_getElem? (i := 7) rfl))) (mvT hZ (hw _ (List.mem_of_getElem? (i := 6) rfl))) (by decide) (backOf (W := 0) (rm_rel l Z a0 hw [] wDATABASE wINDEX wTABLE (0 : Int32) h0 n0 Z0 H0_S H1_S (fun q => absurd q hne_DATABASE_INDEX) (fun _ q => absurd q hne_DATABASE_TABLE) (fun _ _ => rfl)) hZ (hw _ (List.mem_of_getElem? (i := 8) rfl)) (hw _ (List.mem_of_getElem? (i := 2) rfl)) (by decide) (by decide)) q22a q22c (g := (mkF m 69 #[.val (.int p1), .val (.int (own_irem (p1 &&& (2147483647 : Int32)) (5 : Int32))), .val (.ref wDATABASE), .val (.int (0 : Int32))] [(.ref wDATABASE)])) rfl (by rw [hml]; rfl) (Steps.refl _) (argsL := []) (rest := []) (lenOf pd_0 rfl) rfl (by show 2 * 0 + _ ≤ _; exact Nat.le_of_eq rfl) (hb hby at_69) (fun _ _ => ⟨rfl, e21, (by decide : 0 + 0 ≤ _), (by decide : 0 + 0 ≤ _)⟩)
          dsimp only [Pt.U, Pt.locs, Pt.cells, Pt.slots] at X22 l22 y22 z22 st22 hQ22
          subst l22 y22 z22
          obtain ⟨rfl, N22q, hq23⟩ := hQ22
          have N22 := Fr.app N0 N22q
          have pre24 := fun (t : State) (k : Steps p.tables e below (T22.setTop (mkF m 81 #[.val (.int p1), .val (.int (own_irem (p1 &&& (2147483647 : Int32)) (5 : Int32))), .val (.ref wDATABASE), .val (.int (0 : Int32))] [(.int (1 : Int32))])) t) => pre19 t (by
            refine XS.icmpNo X0.here hx rfl (hb hby at_50) rfl (teq hc20).2 ?_
            show Steps p.tables e below (s₁.setTop (mkF m 53 #[.val (.int p1), .val (.int (own_irem (p1 &&& (2147483647 : Int32)) (5 : Int32))), .unset, .unset] [])) _
            refine st21 _ ?_
            show Steps p.tables e below (T21.setTop (mkF m 56 #[.val (.int p1), .val (.int (own_irem (p1 &&& (2147483647 : Int32)) (5 : Int32))), .unset, .unset] [(.ref wDATABASE)])) _
            refine XS.astoreN X21.here hx rfl (hb hby at_56) rfl rfl (l' := #[.val (.int p1), .val (.int (own_irem (p1 &&& (2147483647 : Int32)) (5 : Int32))), .val (.ref wDATABASE), .unset]) rfl ?_
            show Steps p.tables e below (T21.setTop (mkF m 57 #[.val (.int p1), .val (.int (own_irem (p1 &&& (2147483647 : Int32)) (5 : Int32))), .val (.ref wDATABASE), .unset] [])) _
            refine XS.iconst X21.here hx rfl (hb hby at_57) ?_
            show Steps p.tables e below (T21.setTop (mkF m 58 #[.val (.int p1), .val (.int (own_irem (p1 &&& (2147483647 : Int32)) (5 : Int32))), .val (.ref wDATABASE), .unset] [(.int (0 : Int32))])) _
            refine XS.istoreN X21.here hx rfl (hb hby at_58) rfl (l' := #[.val (.int p1), .val (.int (own_irem (p1 &&& (2147483647 : Int32)) (5 : Int32))), .val (.ref wDATABASE), .val (.int (0 : Int32))]) rfl ?_
            show Steps p.tables e below (T21.setTop (mkF m 59 #[.val (.int p1), .val (.int (own_irem (p1 &&& (2147483647 : Int32)) (5 : Int32))), .val (.ref wDATABASE), .val (.int (0 : Int32))] [])) _
            refine XS.goto X21.here hx rfl (pc0 := 59) (pc' := 68) rfl (hb hby at_59) (by decide) (by decide) ?_
            show Steps p.tables e below (T21.setTop (mkF m 68 #[.val (.int p1), .val (.int (own_irem (p1 &&& (2147483647 : Int32)) (5 : Int32))), .val (.ref wDATABASE), .val (.int (0 : Int32))] [])) _
            refine XS.aloadN X21.here hx rfl (hb hby at_68) rfl rfl ?_
            show Steps p.tables e below (T21.setTop (mkF m 69 #[.val (.int p1), .val (.int (own_irem (p1 &&& (2147483647 : Int32)) (5 : Int32))), .val (.ref wDATABASE), .val (.int (0 : Int32))] [(.ref wDATABASE)])) _
            refine st22.trans ?_
            show Steps p.tables e below (T22.setTop (mkF m 72 #[.val (.int p1), .val (.int (own_irem (p1 &&& (2147483647 : Int32)) (5 : Int32))), .val (.ref wDATABASE), .val (.int (0 : Int32))] [(.int (0 : Int32))])) _
            refine XS.iloadN X22.here hx rfl (hb hby at_72) rfl ?_
            show Steps p.tables e below (T22.setTop (mkF m 73 #[.val (.int p1), .val (.int (own_irem (p1 &&& (2147483647 : Int32)) (5 : Int32))), .val (.ref wDATABASE), .val (.int (0 : Int32))] [(.int (0 : Int32)), (.int (0 : Int32))])) _
            refine XS.icmpNo X22.here hx rfl (hb hby at_73) rfl (teq (by decide : (0 : Int32) = (0 : Int32))).2 ?_
            show Steps p.tables e below (T22.setTop (mkF m 76 #[.val (.int p1), .val (.int (own_irem (p1 &&& (2147483647 : Int32)) (5 : Int32))), .val (.ref wDATABASE), .val (.int (0 : Int32))] [])) _
            refine XS.iconst X22.here hx rfl (hb hby at_76) ?_
            show Steps p.tables e below (T22.setTop (mkF m 77 #[.val (.int p1), .val (.int (own_irem (p1 &&& (2147483647 : Int32)) (5 : Int32))), .val (.ref wDATABASE), .val (.int (0 : Int32))] [(.int (1 : Int32))])) _
            refine XS.goto X22.here hx rfl (pc0 := 77) (pc' := 81) rfl (hb hby at_77) (by decide) (by decide) ?_
            show Steps p.tables e below (T22.setTop (mkF m 81 #[.val (.int p1), .val (.int (own_irem (p1 &&& (2147483647 : Int32)) (5 : Int32))), .val (.ref wDATABASE), .val (.int (0 : Int32))] [(.int (1 : Int32))])) _
            exact k)
          obtain ⟨fs, hr, hrun, hended, hW, hsame⟩ := X22.leave (v := some (.int (1 : Int32))) (fun h => by rw [Bd.returns] at h; cases h)
          refine ⟨_, _, pre24 _ ?_, hrun, hended, _, _, rfl, ?_, ⟨_, rfl⟩, hW, hsame.mono (by decide) (by decide)⟩
          · exact retN X22 hx (t := .boolean) Bd.returns (by simp) (hb hby at_81) hr
          · show Q_law Z p1 wINDEX wTABLE wSCHEMA wDATABASE wSYSTEM h0 n0 _ T22.heap _
            rw [hq23]
            exact ⟨rfl, N22, rfl⟩
        · obtain ⟨T25, X25, e25, st25⟩ := getS2 X0 hx hZ hown (host := "") (Or.inl (hw _ (List.mem_of_getElem? (i := 15) rfl))) Via.refl e0 H4_S (g := (mkF m 62 #[.val (.int p1), .val (.int (own_irem (p1 &&& (2147483647 : Int32)) (5 : Int32))), .unset, .unset] [])) rfl (hb hby at_62)
          obtain ⟨cq26, kq26, q26a, q26b, q26c⟩ := isOf hZ e25 H9_E
          obtain ⟨_, _, ⟨T26, L26, k26, n26⟩, -, X26, ⟨Lc26, hQ26, l26, y26, z26⟩, st26⟩ := X25.virtualBack hx (y := (⟨"com/example/tiptoe/tiptoe/StatementReader$Reindexed$Target", "relation", "()Z"⟩ : MethodName)) (z := (⟨"com/example/tiptoe/tiptoe/StatementReader$Reindexed$Target", "relation", "()Z"⟩ : MethodName)) hown (mvT hZ (hw _ (List.mem_of_getElem? (i := 4) rfl))) (mvT hZ (hw _ (List.mem_of_getElem? (i := 5) rfl))) (notFace_of_selects (args := #[]) (mvT hZ (hw _ (List.mem_of_getElem? (i := 7) rfl)))) (mvT hZ (hw _ (List.mem_of_getElem? (i := 7) rfl))) (mvT hZ (hw _ (List.mem_of_getElem? (i := 6) rfl))) (by decide) (backOf (W := 0) (rm_rel l Z a0 hw [] wSYSTEM wINDEX wTABLE (0 : Int32) h0 n0 Z0 H0_S H1_S (fun q => absurd q hne_SYSTEM_INDEX) (fun _ q => absurd q hne_SYSTEM_TABLE) (fun _ _ => rfl)) hZ (hw _ (List.mem_of_getElem? (i := 8) rfl)) (hw _ (List.mem_of_getElem? (i := 2) rfl)) (by decide) (by decide)) q26a q26c (g := (mkF m 69 #[.val (.int p1), .val (.int (own_irem (p1 &&& (2147483647 : Int32)) (5 : Int32))), .val (.ref wSYSTEM), .val (.int (0 : Int32))] [(.ref wSYSTEM)])) rfl (by rw [hml]; rfl) (Steps.refl _) (argsL := []) (rest := []) (lenOf pd_0 rfl) rfl (by show 2 * 0 + _ ≤ _; exact Nat.le_of_eq rfl) (hb hby at_69) (fun _ _ => ⟨rfl, e25, (by decide : 0 + 0 ≤ _), (by decide : 0 + 0 ≤ _)⟩)
          dsimp only [Pt.U, Pt.locs, Pt.cells, Pt.slots] at X26 l26 y26 z26 st26 hQ26
          subst l26 y26 z26
          obtain ⟨rfl, N26q, hq27⟩ := hQ26
          have N26 := Fr.app N0 N26q
          have pre28 := fun (t : State) (k : Steps p.tables e below (T26.setTop (mkF m 81 #[.val (.int p1), .val (.int (own_irem (p1 &&& (2147483647 : Int32)) (5 : Int32))), .val (.ref wSYSTEM), .val (.int (0 : Int32))] [(.int (1 : Int32))])) t) => pre19 t (by
            refine XS.icmpYes X0.here hx rfl (pc0 := 50) (pc' := 62) rfl (hb hby at_50) rfl (feq hc20).2 (by decide) (by decide) ?_
            show Steps p.tables e below (s₁.setTop (mkF m 62 #[.val (.int p1), .val (.int (own_irem (p1 &&& (2147483647 : Int32)) (5 : Int32))), .unset, .unset] [])) _
            refine st25 _ ?_
            show Steps p.tables e below (T25.setTop (mkF m 65 #[.val (.int p1), .val (.int (own_irem (p1 &&& (2147483647 : Int32)) (5 : Int32))), .unset, .unset] [(.ref wSYSTEM)])) _
            refine XS.astoreN X25.here hx rfl (hb hby at_65) rfl rfl (l' := #[.val (.int p1), .val (.int (own_irem (p1 &&& (2147483647 : Int32)) (5 : Int32))), .val (.ref wSYSTEM), .unset]) rfl ?_
            show Steps p.tables e below (T25.setTop (mkF m 66 #[.val (.int p1), .val (.int (own_irem (p1 &&& (2147483647 : Int32)) (5 : Int32))), .val (.ref wSYSTEM), .unset] [])) _
            refine XS.iconst X25.here hx rfl (hb hby at_66) ?_
            show Steps p.tables e below (T25.setTop (mkF m 67 #[.val (.int p1), .val (.int (own_irem (p1 &&& (2147483647 : Int32)) (5 : Int32))), .val (.ref wSYSTEM), .unset] [(.int (0 : Int32))])) _
            refine XS.istoreN X25.here hx rfl (hb hby at_67) rfl (l' := #[.val (.int p1), .val (.int (own_irem (p1 &&& (2147483647 : Int32)) (5 : Int32))), .val (.ref wSYSTEM), .val (.int (0 : Int32))]) rfl ?_
            show Steps p.tables e below (T25.setTop (mkF m 68 #[.val (.int p1), .val (.int (own_irem (p1 &&& (2147483647 : Int32)) (5 : Int32))), .val (.ref wSYSTEM), .val (.int (0 : Int32))] [])) _
            refine XS.aloadN X25.here hx rfl (hb hby at_68) rfl rfl ?_
            show Steps p.tables e below (T25.setTop (mkF m 69 #[.val (.int p1), .val (.int (own_irem (p1 &&& (2147483647 : Int32)) (5 : Int32))), .val (.ref wSYSTEM), .val (.int (0 : Int32))] [(.ref wSYSTEM)])) _
            refine st26.trans ?_
            show Steps p.tables e below (T26.setTop (mkF m 72 #[.val (.int p1), .val (.int (own_irem (p1 &&& (2147483647 : Int32)) (5 : Int32))), .val (.ref wSYSTEM), .val (.int (0 : Int32))] [(.int (0 : Int32))])) _
            refine XS.iloadN X26.here hx rfl (hb hby at_72) rfl ?_
            show Steps p.tables e below (T26.setTop (mkF m 73 #[.val (.int p1), .val (.int (own_irem (p1 &&& (2147483647 : Int32)) (5 : Int32))), .val (.ref wSYSTEM), .val (.int (0 : Int32))] [(.int (0 : Int32)), (.int (0 : Int32))])) _
            refine XS.icmpNo X26.here hx rfl (hb hby at_73) rfl (teq (by decide : (0 : Int32) = (0 : Int32))).2 ?_
            show Steps p.tables e below (T26.setTop (mkF m 76 #[.val (.int p1), .val (.int (own_irem (p1 &&& (2147483647 : Int32)) (5 : Int32))), .val (.ref wSYSTEM), .val (.int (0 : Int32))] [])) _
            refine XS.iconst X26.here hx rfl (hb hby at_76) ?_
            show Steps p.tables e below (T26.setTop (mkF m 77 #[.val (.int p1), .val (.int (own_irem (p1 &&& (2147483647 : Int32)) (5 : Int32))), .val (.ref wSYSTEM), .val (.int (0 : Int32))] [(.int (1 : Int32))])) _
            refine XS.goto X26.here hx rfl (pc0 := 77) (pc' := 81) rfl (hb hby at_77) (by decide) (by decide) ?_
            show Steps p.tables e below (T26.setTop (mkF m 81 #[.val (.int p1), .val (.int (own_irem (p1 &&& (2147483647 : Int32)) (5 : Int32))), .val (.ref wSYSTEM), .val (.int (0 : Int32))] [(.int (1 : Int32))])) _
            exact k)
          obtain ⟨fs, hr, hrun, hended, hW, hsame⟩ := X26.leave (v := some (.int (1 : Int32))) (fun h => by rw [Bd.returns] at h; cases h)
          refine ⟨_, _, pre28 _ ?_, hrun, hended, _, _, rfl, ?_, ⟨_, rfl⟩, hW, hsame.mono (by decide) (by decide)⟩
          · exact retN X26 hx (t := .boolean) Bd.returns (by simp) (hb hby at_81) hr
          · show Q_law Z p1 wINDEX wTABLE wSCHEMA wDATABASE wSYSTEM h0 n0 _ T26.heap _
            rw [hq27]
            exact ⟨rfl, N26, rfl⟩

set_option maxRecDepth 65536 in
set_option maxHeartbeats 40000000 in
theorem comes_1 {Post : Tables → Env → Array Value → State → Outcome → State → Prop} (hpost : ∀ tb e args s v u, (limb_1_1.after args s (.returned v) u = true ∧ limb_1_2.after args s (.returned v) u = true ∧ True) → FrameEnd s (.returned v) u (Jvm.fieldLocs frame_1_writes args s ++ Jvm.arrayLocs frame_1_arrays args s ++ Jvm.staticLocs frame_1_statics s) 0 0 → Post tb e args s (.returned v) u) :
    ArmFor flags0 classFile x code maxLocals ret World_1 tables_1 room_1 Calls_1 rest_1 Pre_1 Post := by
  intro l hfl _ _ p e ha hc hk s m args below hf hA hF happ hP
  obtain ⟨hcalls, hrest, hpre⟩ := hP
  obtain ⟨-, -, -, hnamed, -, -, -, hat⟩ := (Spec.applies_iff hf).mp happ
  obtain ⟨hg, hn⟩ := and_e (Cond.before_iff.mp (show (Jvm.Cond.and given_1 narrow_1).before args s = true from hpre))
  obtain ⟨g1, g2⟩ := and_e hg
  obtain ⟨g3, g4⟩ := and_e hn
  obtain ⟨g5, g6⟩ := and_e g4
  obtain ⟨g7, g8⟩ := and_e g6
  obtain ⟨g9, g10⟩ := and_e g8
  obtain ⟨g11, g12⟩ := and_e g10
  obtain ⟨g13, g14⟩ := and_e g12
  obtain ⟨g15, g16⟩ := and_e g14
  obtain ⟨g17, g18⟩ := and_e g16
  obtain ⟨g19, g20⟩ := and_e g18
  obtain ⟨w0, rfl⟩ : ∃ w0 : Value, args = #[w0] := by
    have hs : args.size = 1 := by simpa [Cond.value, given_1] using g1
    obtain ⟨L⟩ := args
    match L, hs with
    | [w0], _ => exact ⟨w0, rfl⟩
  have hw := fun d (hd : d ∈ tables_1) => atoms_spec (ws := Jvm.Cond.code x code maxLocals ret :: tables_1) hat d (List.mem_cons_of_mem _ hd)
  have hfit : Fit s := fun {y c} hc i hi => by
    obtain ⟨ha, rfl⟩ := Array.getElem?_eq_some_iff.mp hc
    have q := List.all_eq_true.mp ((Array.all_eq_true_iff_forall_mem.mp hF) _ (Array.getElem_mem ha)) i (List.mem_range.mpr hi)
    simpa [Array.getElem?_eq_getElem hi] using q
  obtain ⟨i0, ei0⟩ := is_v g2
  obtain rfl : w0 = (.int i0) := Option.some.inj ei0
  obtain ⟨z_StatementReader_Reindexed_Target_INDEX, ez_StatementReader_Reindexed_Target_INDEX⟩ := exa_v g3
  have S_z_StatementReader_Reindexed_Target_INDEX := Sta.start (Z := s) ez_StatementReader_Reindexed_Target_INDEX (Or.inr ⟨(hw _ (List.mem_of_getElem? (i := 2) rfl)), (hw _ (List.mem_of_getElem? (i := 3) rfl))⟩)
  have E_z_StatementReader_Reindexed_Target_INDEX := Exa.start ez_StatementReader_Reindexed_Target_INDEX g3
  obtain ⟨z_StatementReader_Reindexed_Target_DATABASE, ez_StatementReader_Reindexed_Target_DATABASE⟩ := exa_v g5
  have S_z_StatementReader_Reindexed_Target_DATABASE := Sta.start (Z := s) ez_StatementReader_Reindexed_Target_DATABASE (Or.inr ⟨(hw _ (List.mem_of_getElem? (i := 2) rfl)), (hw _ (List.mem_of_getElem? (i := 11) rfl))⟩)
  have E_z_StatementReader_Reindexed_Target_DATABASE := Exa.start ez_StatementReader_Reindexed_Target_DATABASE g5
  obtain ⟨z_StatementReader_Reindexed_Target_TABLE, ez_StatementReader_Reindexed_Target_TABLE⟩ := exa_v g11
  have S_z_StatementReader_Reindexed_Target_TABLE := Sta.start (Z := s) ez_StatementReader_Reindexed_Target_TABLE (Or.inr ⟨(hw _ (List.mem_of_getElem? (i := 2) rfl)), (hw _ (List.mem_of_getElem? (i := 13) rfl))⟩)
  have E_z_StatementReader_Reindexed_Target_TABLE := Exa.start ez_StatementReader_Reindexed_Target_TABLE g11
  obtain ⟨z_StatementReader_Reindexed_Target_SYSTEM, ez_StatementReader_Reindexed_Target_SYSTEM⟩ := exa_v g15
  have S_z_StatementReader_Reindexed_Target_SYSTEM := Sta.start (Z := s) ez_StatementReader_Reindexed_Target_SYSTEM (Or.inr ⟨(hw _ (List.mem_of_getElem? (i := 2) rfl)), (hw _ (List.mem_of_getElem? (i := 16) rfl))⟩)
  have E_z_StatementReader_Reindexed_Target_SYSTEM := Exa.start ez_StatementReader_Reindexed_Target_SYSTEM g15
  obtain ⟨z_StatementReader_Reindexed_Target_SCHEMA, ez_StatementReader_Reindexed_Target_SCHEMA⟩ := exa_v g19
  have S_z_StatementReader_Reindexed_Target_SCHEMA := Sta.start (Z := s) ez_StatementReader_Reindexed_Target_SCHEMA (Or.inr ⟨(hw _ (List.mem_of_getElem? (i := 2) rfl)), (hw _ (List.mem_of_getElem? (i := 18) rfl))⟩)
  have E_z_StatementReader_Reindexed_Target_SCHEMA := Exa.start ez_StatementReader_Reindexed_Target_SCHEMA g19
  have F_z_StatementReader_Reindexed_Target_DATABASE_ordinal := own_fld_eq ez_StatementReader_Reindexed_Target_DATABASE g7
  have F_z_StatementReader_Reindexed_Target_INDEX_ordinal := own_fld_eq ez_StatementReader_Reindexed_Target_INDEX g9
  have F_z_StatementReader_Reindexed_Target_TABLE_ordinal := own_fld_eq ez_StatementReader_Reindexed_Target_TABLE g13
  have F_z_StatementReader_Reindexed_Target_SYSTEM_ordinal := own_fld_eq ez_StatementReader_Reindexed_Target_SYSTEM g17
  have F_z_StatementReader_Reindexed_Target_SCHEMA_ordinal := own_fld_eq ez_StatementReader_Reindexed_Target_SCHEMA g20
  have ne_z_StatementReader_Reindexed_Target_INDEX_z_StatementReader_Reindexed_Target_DATABASE : z_StatementReader_Reindexed_Target_INDEX ≠ z_StatementReader_Reindexed_Target_DATABASE := Fld.ne F_z_StatementReader_Reindexed_Target_INDEX_ordinal F_z_StatementReader_Reindexed_Target_DATABASE_ordinal (by simp)
  have ne_z_StatementReader_Reindexed_Target_INDEX_z_StatementReader_Reindexed_Target_TABLE : z_StatementReader_Reindexed_Target_INDEX ≠ z_StatementReader_Reindexed_Target_TABLE := Fld.ne F_z_StatementReader_Reindexed_Target_INDEX_ordinal F_z_StatementReader_Reindexed_Target_TABLE_ordinal (by simp)
  have ne_z_StatementReader_Reindexed_Target_INDEX_z_StatementReader_Reindexed_Target_SYSTEM : z_StatementReader_Reindexed_Target_INDEX ≠ z_StatementReader_Reindexed_Target_SYSTEM := Fld.ne F_z_StatementReader_Reindexed_Target_INDEX_ordinal F_z_StatementReader_Reindexed_Target_SYSTEM_ordinal (by simp)
  have ne_z_StatementReader_Reindexed_Target_INDEX_z_StatementReader_Reindexed_Target_SCHEMA : z_StatementReader_Reindexed_Target_INDEX ≠ z_StatementReader_Reindexed_Target_SCHEMA := Fld.ne F_z_StatementReader_Reindexed_Target_INDEX_ordinal F_z_StatementReader_Reindexed_Target_SCHEMA_ordinal (by simp)
  have ne_z_StatementReader_Reindexed_Target_DATABASE_z_StatementReader_Reindexed_Target_TABLE : z_StatementReader_Reindexed_Target_DATABASE ≠ z_StatementReader_Reindexed_Target_TABLE := Fld.ne F_z_StatementReader_Reindexed_Target_DATABASE_ordinal F_z_StatementReader_Reindexed_Target_TABLE_ordinal (by simp)
  have ne_z_StatementReader_Reindexed_Target_DATABASE_z_StatementReader_Reindexed_Target_SYSTEM : z_StatementReader_Reindexed_Target_DATABASE ≠ z_StatementReader_Reindexed_Target_SYSTEM := Fld.ne F_z_StatementReader_Reindexed_Target_DATABASE_ordinal F_z_StatementReader_Reindexed_Target_SYSTEM_ordinal (by simp)
  have ne_z_StatementReader_Reindexed_Target_DATABASE_z_StatementReader_Reindexed_Target_SCHEMA : z_StatementReader_Reindexed_Target_DATABASE ≠ z_StatementReader_Reindexed_Target_SCHEMA := Fld.ne F_z_StatementReader_Reindexed_Target_DATABASE_ordinal F_z_StatementReader_Reindexed_Target_SCHEMA_ordinal (by simp)
  have ne_z_StatementReader_Reindexed_Target_TABLE_z_StatementReader_Reindexed_Target_SYSTEM : z_StatementReader_Reindexed_Target_TABLE ≠ z_StatementReader_Reindexed_Target_SYSTEM := Fld.ne F_z_StatementReader_Reindexed_Target_TABLE_ordinal F_z_StatementReader_Reindexed_Target_SYSTEM_ordinal (by simp)
  have ne_z_StatementReader_Reindexed_Target_TABLE_z_StatementReader_Reindexed_Target_SCHEMA : z_StatementReader_Reindexed_Target_TABLE ≠ z_StatementReader_Reindexed_Target_SCHEMA := Fld.ne F_z_StatementReader_Reindexed_Target_TABLE_ordinal F_z_StatementReader_Reindexed_Target_SCHEMA_ordinal (by simp)
  have ne_z_StatementReader_Reindexed_Target_SYSTEM_z_StatementReader_Reindexed_Target_SCHEMA : z_StatementReader_Reindexed_Target_SYSTEM ≠ z_StatementReader_Reindexed_Target_SCHEMA := Fld.ne F_z_StatementReader_Reindexed_Target_SYSTEM_ordinal F_z_StatementReader_Reindexed_Target_SCHEMA_ordinal (by simp)
  obtain ⟨n, o, h1, h2, h3, _, L, rfl, ⟨rfl, N, -⟩, hq⟩ := rm_law l s _ hw tables_1 i0 z_StatementReader_Reindexed_Target_INDEX z_StatementReader_Reindexed_Target_TABLE z_StatementReader_Reindexed_Target_SCHEMA z_StatementReader_Reindexed_Target_DATABASE z_StatementReader_Reindexed_Target_SYSTEM s.heap s.heap.size (Nat.le_refl _) S_z_StatementReader_Reindexed_Target_INDEX S_z_StatementReader_Reindexed_Target_TABLE S_z_StatementReader_Reindexed_Target_SCHEMA S_z_StatementReader_Reindexed_Target_DATABASE S_z_StatementReader_Reindexed_Target_SYSTEM E_z_StatementReader_Reindexed_Target_INDEX E_z_StatementReader_Reindexed_Target_TABLE E_z_StatementReader_Reindexed_Target_SCHEMA E_z_StatementReader_Reindexed_Target_DATABASE E_z_StatementReader_Reindexed_Target_SYSTEM (Ne.symm ne_z_StatementReader_Reindexed_Target_INDEX_z_StatementReader_Reindexed_Target_TABLE) (Ne.symm ne_z_StatementReader_Reindexed_Target_INDEX_z_StatementReader_Reindexed_Target_SCHEMA) (Ne.symm ne_z_StatementReader_Reindexed_Target_INDEX_z_StatementReader_Reindexed_Target_DATABASE) (Ne.symm ne_z_StatementReader_Reindexed_Target_INDEX_z_StatementReader_Reindexed_Target_SYSTEM) (Ne.symm ne_z_StatementReader_Reindexed_Target_TABLE_z_StatementReader_Reindexed_Target_SCHEMA) ne_z_StatementReader_Reindexed_Target_DATABASE_z_StatementReader_Reindexed_Target_TABLE (Ne.symm ne_z_StatementReader_Reindexed_Target_TABLE_z_StatementReader_Reindexed_Target_SYSTEM) p e ha hc hk s m _ below hf ((Spec.applies_iff_loose hf).mp happ).1 ⟨rfl, State.Warmed39.refl s, rfl⟩ trivial
  refine ⟨n, _, h1, h2, h3, hpost _ _ _ _ _ _ ⟨Cond.after_iff.mpr rfl, Cond.after_iff.mpr (eq_i res_at (Term.int_eval (1)) rfl), trivial⟩ ⟨hq.1, hq.2.1, (hq.2.2.sift fun y hy => Or.inr (N y hy)).mono (by decide) (by decide)⟩⟩
theorem main_1_1 : Claimed_1_1 := comes_1 fun _ _ _ _ _ _ h hF => ⟨h.1, hF⟩
theorem main_1_2 : Claimed_1_2 := comes_1 fun _ _ _ _ _ _ h hF => ⟨h.2.1, hF⟩
end Jvm.Pilot.@@N@@
namespace Jvm.Pilot.@@N@@
open Jvm Jvm.ClassFile Sem Op Lib Jvm.Free Jvm.Stand Jvm.Pilot.@@N@@.Jvm.D
/-! MADE BY PROGRAM (witnessworld.py) out of the Statement's table words and the real class files: 12 classes; the members and pool entries that the words name. The judged class is class 1, her method 1. -/
namespace start1
open Jvm.ClassFile
def u (s : String) : CpInfo := .utf8 (stringToUtf16 s)
/-- a pool by its gaps: so many unusable entries, then the entry; so many at the end -/
def gap : Nat → List CpInfo → List CpInfo
  | 0, r => r
  | n + 1, r => .unusable :: gap n r
def poolList (es : List (Nat × CpInfo)) (last : Nat) : List CpInfo := es.foldr (fun e r => gap e.1 (e.2 :: r)) (gap last [])
def pool (es : List (Nat × CpInfo)) (last : Nat) : Array CpInfo := ⟨poolList es last⟩
def fileOf (pool : Array CpInfo) (this : Nat) (attrs : Array Attribute := #[]) (ms : Array MethodInfo := #[]) (fl : Nat := 33) (sup : Nat := 0) (ifs : Array Nat := #[]) (fds : Array FieldInfo := #[]) : ClassFile where
  minorVersion := 0
  majorVersion := 65
  constantPool := pool
  accessFlags := fl
  thisClass := this
  superClass := sup
  interfaces := ifs
  fields := fds
  methods := ms
  attributes := attrs
def plain (name : String) (sup : Option ClassId) : Class where
  name := name
  kind := .ordinary
  loader := none
  accessFlags := 33
  super := sup
  interfaces := #[]
  cf := none
  fields := #[]
  methods := #[]
  instanceTypes := #[]
  staticTypes := #[]
  resolved := #[]
  callSites := []
  init := .initialized
  statics := none
  mirror := none

def pool0 : Array CpInfo := pool [(5, u "<init>"), (0, u "()V"), (1, .class_ 10), (1, u "java/lang/Object")] 113

def k0m0 : Method := { name := "<init>", desc := "()V", sig := { parameters := [], returnType := none }, accessFlags := 1, code := none }
/-- java/lang/Object -/
def k0 : Class := { plain "java/lang/Object" none with
  accessFlags := 33
  interfaces := #[]
  cf := some (fileOf pool0 8 #[] #[{ accessFlags := 1, nameIndex := 5, descriptorIndex := 6, attributes := #[] }] 33 0 #[] #[])
  fields := #[]
  methods := #[k0m0]
  instanceTypes := #[]
  staticTypes := #[]
  resolved := Array.replicate 124 none
  statics := none }

def pool1 : Array CpInfo := pool [(2, .class_ 4), (1, u "java/lang/Object"), (0, u "<init>"), (0, u "()V"), (0, .integer 2147483647), (0, .fieldref 9 10), (0, .class_ 11), (0, .nameAndType 12 13), (0, u "com/example/tiptoe/tiptoe/StatementReader$Reindexed$Target"), (0, u "INDEX"), (0, u "Lcom/example/tiptoe/tiptoe/StatementReader$Reindexed$Target;"), (0, .fieldref 9 15), (0, .nameAndType 16 13), (0, u "TABLE"), (0, .fieldref 9 18), (0, .nameAndType 19 13), (0, u "SCHEMA"), (0, .fieldref 9 21), (0, .nameAndType 22 13), (0, u "DATABASE"), (0, .fieldref 9 24), (0, .nameAndType 25 13), (0, u "SYSTEM"), (0, .methodref 9 27), (0, .nameAndType 28 29), (0, u "relation"), (0, u "()Z"), (0, .class_ 31), (0, u "com/example/tiptoe/tiptoe/TargetRelationPinLaw"), (2, u "law"), (0, u "(I)Z")] 10

def k1m0 : Method := { name := "<init>", desc := "()V", sig := { parameters := [], returnType := none }, accessFlags := 2, code := none }
def k1c1 : Code := { maxStack := 2, maxLocals := 4, code := code, exceptionTable := #[], attributes := #[] }
def k1m1 : Method := { name := "law", desc := "(I)Z", sig := { parameters := [.int], returnType := some .boolean }, accessFlags := 9, code := some k1c1 }
/-- com/example/tiptoe/tiptoe/TargetRelationPinLaw -/
def k1 : Class := { plain "com/example/tiptoe/tiptoe/TargetRelationPinLaw" (some 0) with
  accessFlags := 49
  interfaces := #[]
  cf := some (fileOf pool1 30 #[] #[{ accessFlags := 2, nameIndex := 5, descriptorIndex := 6, attributes := #[] }, { accessFlags := 9, nameIndex := 34, descriptorIndex := 35, attributes := #[] }] 49 2 #[] #[])
  fields := #[]
  methods := #[k1m0, k1m1]
  instanceTypes := #[]
  staticTypes := #[]
  resolved := Array.replicate 46 none
  statics := none }

def pool2 : Array CpInfo := pool [(1, .class_ 2), (0, u "java/lang/constant/Constable"), (0, .class_ 4), (0, u "java/lang/Object")] 6

/-- java/lang/constant/Constable -/
def k2 : Class := { plain "java/lang/constant/Constable" (some 0) with
  accessFlags := 1537
  interfaces := #[]
  cf := some (fileOf pool2 1 #[] #[] 1537 3 #[] #[])
  fields := #[]
  methods := #[]
  instanceTypes := #[]
  staticTypes := #[]
  resolved := Array.replicate 11 none
  statics := none }

def pool3 : Array CpInfo := pool [(1, .class_ 2), (0, u "java/lang/Comparable"), (0, .class_ 4), (0, u "java/lang/Object")] 7

/-- java/lang/Comparable -/
def k3 : Class := { plain "java/lang/Comparable" (some 0) with
  accessFlags := 1537
  interfaces := #[]
  cf := some (fileOf pool3 1 #[] #[] 1537 3 #[] #[])
  fields := #[]
  methods := #[]
  instanceTypes := #[]
  staticTypes := #[]
  resolved := Array.replicate 12 none
  statics := none }

def pool4 : Array CpInfo := pool [(1, .class_ 2), (0, u "java/io/Serializable"), (0, .class_ 4), (0, u "java/lang/Object")] 2

/-- java/io/Serializable -/
def k4 : Class := { plain "java/io/Serializable" (some 0) with
  accessFlags := 1537
  interfaces := #[]
  cf := some (fileOf pool4 1 #[] #[] 1537 3 #[] #[])
  fields := #[]
  methods := #[]
  instanceTypes := #[]
  staticTypes := #[]
  resolved := Array.replicate 7 none
  statics := none }

def pool5 : Array CpInfo := pool [(2, .class_ 4), (1, u "java/lang/Enum"), (0, u "name"), (0, u "Ljava/lang/String;"), (2, u "ordinal"), (0, u "I"), (1, .class_ 14), (1, u "java/lang/Object"), (4, u "hash"), (86, .class_ 108), (1, u "java/lang/Enum$EnumDesc"), (2, .class_ 112), (0, u "java/lang/constant/Constable"), (0, .class_ 114), (0, u "java/lang/Comparable"), (0, .class_ 116), (0, u "java/io/Serializable")] 87

/-- java/lang/Enum -/
def k5 : Class := { plain "java/lang/Enum" (some 0) with
  accessFlags := 1057
  interfaces := #[2, 3, 4]
  cf := some (fileOf pool5 2 #[.nestMembers #[106]] #[] 1057 12 #[111, 113, 115] #[{ accessFlags := 18, nameIndex := 5, descriptorIndex := 6, attributes := #[] }, { accessFlags := 18, nameIndex := 9, descriptorIndex := 10, attributes := #[] }, { accessFlags := 2, nameIndex := 19, descriptorIndex := 10, attributes := #[] }])
  fields := #[{ name := "name", type := (.object "java/lang/String"), accessFlags := 18, slot := 0, constantValue := 0 }, { name := "ordinal", type := .int, accessFlags := 18, slot := 1, constantValue := 0 }, { name := "hash", type := .int, accessFlags := 2, slot := 2, constantValue := 0 }]
  methods := #[]
  instanceTypes := #[(.object "java/lang/String"), .int, .int]
  staticTypes := #[]
  resolved := Array.replicate 204 none
  statics := none }

def pool6 : Array CpInfo := pool [(1, .class_ 2), (0, u "com/example/tiptoe/tiptoe/StatementReader$Reindexed$Target"), (0, .fieldref 1 4), (0, .nameAndType 5 6), (0, u "INDEX"), (0, u "Lcom/example/tiptoe/tiptoe/StatementReader$Reindexed$Target;"), (0, .fieldref 1 8), (0, .nameAndType 9 6), (0, u "TABLE"), (2, u "SCHEMA"), (2, u "DATABASE"), (2, u "SYSTEM"), (2, u "$VALUES"), (0, u "[Lcom/example/tiptoe/tiptoe/StatementReader$Reindexed$Target;"), (6, .class_ 31), (1, u "java/lang/Enum"), (37, u "relation"), (0, u "()Z"), (5, .class_ 77), (0, u "com/example/tiptoe/tiptoe/StatementReader")] 5

def k6c0 : Code := { maxStack := 2, maxLocals := 1, code := prog_98_method_5_code, exceptionTable := #[], attributes := #[] }
def k6m0 : Method := { name := "relation", desc := "()Z", sig := { parameters := [], returnType := some .boolean }, accessFlags := 0, code := some k6c0 }
/-- com/example/tiptoe/tiptoe/StatementReader$Reindexed$Target -/
def k6 : Class := { plain "com/example/tiptoe/tiptoe/StatementReader$Reindexed$Target" (some 5) with
  accessFlags := 16432
  interfaces := #[]
  cf := some (fileOf pool6 1 #[.nestHost 76] #[{ accessFlags := 0, nameIndex := 69, descriptorIndex := 70, attributes := #[] }] 16432 29 #[] #[{ accessFlags := 16409, nameIndex := 5, descriptorIndex := 6, attributes := #[] }, { accessFlags := 16409, nameIndex := 9, descriptorIndex := 6, attributes := #[] }, { accessFlags := 16409, nameIndex := 12, descriptorIndex := 6, attributes := #[] }, { accessFlags := 16409, nameIndex := 15, descriptorIndex := 6, attributes := #[] }, { accessFlags := 16409, nameIndex := 18, descriptorIndex := 6, attributes := #[] }, { accessFlags := 4122, nameIndex := 21, descriptorIndex := 22, attributes := #[] }])
  fields := #[{ name := "INDEX", type := (.object "com/example/tiptoe/tiptoe/StatementReader$Reindexed$Target"), accessFlags := 16409, slot := 0, constantValue := 0 }, { name := "TABLE", type := (.object "com/example/tiptoe/tiptoe/StatementReader$Reindexed$Target"), accessFlags := 16409, slot := 1, constantValue := 0 }, { name := "SCHEMA", type := (.object "com/example/tiptoe/tiptoe/StatementReader$Reindexed$Target"), accessFlags := 16409, slot := 2, constantValue := 0 }, { name := "DATABASE", type := (.object "com/example/tiptoe/tiptoe/StatementReader$Reindexed$Target"), accessFlags := 16409, slot := 3, constantValue := 0 }, { name := "SYSTEM", type := (.object "com/example/tiptoe/tiptoe/StatementReader$Reindexed$Target"), accessFlags := 16409, slot := 4, constantValue := 0 }, { name := "$VALUES", type := (.array (.object "com/example/tiptoe/tiptoe/StatementReader$Reindexed$Target")), accessFlags := 4122, slot := 5, constantValue := 0 }]
  methods := #[k6m0]
  instanceTypes := #[(.object "java/lang/String"), .int, .int]
  staticTypes := #[(.object "com/example/tiptoe/tiptoe/StatementReader$Reindexed$Target"), (.object "com/example/tiptoe/tiptoe/StatementReader$Reindexed$Target"), (.object "com/example/tiptoe/tiptoe/StatementReader$Reindexed$Target"), (.object "com/example/tiptoe/tiptoe/StatementReader$Reindexed$Target"), (.object "com/example/tiptoe/tiptoe/StatementReader$Reindexed$Target"), (.array (.object "com/example/tiptoe/tiptoe/StatementReader$Reindexed$Target"))]
  resolved := Array.replicate 83 none
  statics := some 0 }

def pool7 : Array CpInfo := pool [(1, u "java/lang/Cloneable"), (0, .class_ 1), (0, u "java/lang/Object"), (0, .class_ 3)] 3

/-- java/lang/Cloneable -/
def k7 : Class := { plain "java/lang/Cloneable" (some 0) with
  accessFlags := 1537
  interfaces := #[]
  cf := some (fileOf pool7 2 #[] #[] 1537 4 #[] #[])
  fields := #[]
  methods := #[]
  instanceTypes := #[]
  staticTypes := #[]
  resolved := Array.replicate 8 none
  statics := none }

/-- the primitive byte -/
def k8 : Class := { plain "byte" none with kind := .primitive 'B', accessFlags := 0x411 }
/-- [B -/
def k9 : Class := { plain "[B" (some 0) with kind := .array 8 .byte, interfaces := #[7, 4], accessFlags := 1041 }

/-- the primitive int -/
def k10 : Class := { plain "int" none with kind := .primitive 'I', accessFlags := 0x411 }
/-- [I -/
def k11 : Class := { plain "[I" (some 0) with kind := .array 10 .int, interfaces := #[7, 4], accessFlags := 1041 }

def heap : Heap := #[{ cls := 6, slots := #[.ref 1, .ref 3, .ref 5, .ref 2, .ref 4, .null], vm := .statics 6 },
  { cls := 6, slots := #[.null, .int 0, .int 0], vm := .none },
  { cls := 6, slots := #[.null, .int 3, .int 0], vm := .none },
  { cls := 6, slots := #[.null, .int 1, .int 0], vm := .none },
  { cls := 6, slots := #[.null, .int 4, .int 0], vm := .none },
  { cls := 6, slots := #[.null, .int 2, .int 0], vm := .none }]
def classes : Array Class := #[k0, k1, k2, k3, k4, k5, k6, k7, k8, k9, k10, k11]
def interned : List (Array UInt16 × Addr) := []
def slotsUsed : Nat := 21
def theMethod : MethodId := ⟨1, 1⟩
def args0 : Array Value := #[.int 5]
def aboutOver (below : List Frame) : State where
  vm := { classes := classes, interned := interned.toArray }
  heap := heap
  slotsUsed := slotsUsed
  threads := #[{ frames := .invoking theMethod args0 :: below }]
def below0 : List Frame := [.native { method := ⟨0, 0⟩, args := #[] }]
def about1 : State := aboutOver below0
def p0 : Program := .bare "" "" ""
def e0 : Env := launch0.env 0 0 0
theorem w_frames : about1.frames = Frame.invoking theMethod args0 :: below0 := rfl
set_option maxRecDepth 65536 in
theorem w_args : argsFit about1.vm theMethod args0 = true := by decide +kernel
set_option maxRecDepth 65536 in
theorem w_heap : heapFits about1 = true := by decide +kernel
set_option maxRecDepth 65536 in
theorem w_runnable : about1.curStatus? = some .runnable := by decide +kernel
set_option maxRecDepth 65536 in
theorem w_alone : about1.alone = true := by decide +kernel
set_option maxRecDepth 65536 in
theorem w_named : about1.methodNamed? x = some theMethod := by decide +kernel
set_option maxRecDepth 65536 in
theorem w_hears : about1.hears theMethod below0 = true := by decide +kernel
set_option maxRecDepth 65536 in
theorem w_ripe : about1.ripe theMethod args0 below0 = true := by decide +kernel
theorem w_running : about1.status = .running := rfl
set_option maxRecDepth 65536 in
theorem w_room : about1.hasRoom e0.platform room_1 = true :=
  launch0.hasRoom_least _ room_1 (by decide +kernel) (by decide +kernel) (by decide +kernel) (by decide +kernel) (by decide +kernel) (by decide +kernel)
theorem allAtoms_all (ts : List Jvm.Cond) (a : Array Jvm.Value) (st : Jvm.State) : (allAtoms ts).before a st = ts.all (fun c => c.before a st) := by
  induction ts with
  | nil => rfl
  | cons c t ih =>
    show (Jvm.Cond.and c (allAtoms t)).before a st = _
    rw [Jvm.Cond.before_and, ih, List.all_cons]
def words1 : List Jvm.Cond := Jvm.Cond.code x code maxLocals ret :: tables_1
/-- a 'code' word, met by the world's own term for the bytes: nothing is compared byte by byte -/
theorem code_word {y : MethodName} {bytes : ByteArray} {mx : Nat} {rt : Option FieldType} {a : Array Value} {s : State} {m : MethodId} {meth : Method} {c : Code} (h1 : s.methodNamed? y = some m) (h2 : s.vm.method? m = some meth) (h3 : meth.code = some c) (h4 : c.code = bytes)
    (h5 : (c.maxLocals == mx && c.exceptionTable.isEmpty && decide (c.maxStack ≤ mostOperands) && decide (meth.sig.returnType = rt) && !meth.locks && decide (parseMethodDescriptor y.desc = some meth.sig)) = true) : (Jvm.Cond.code y bytes mx rt).before a s = true := by
  simp only [Bool.and_eq_true, beq_iff_eq, Bool.not_eq_true', decide_eq_true_eq] at h5
  obtain ⟨⟨⟨⟨⟨g1, g2⟩, g3⟩, g4⟩, g5⟩, g6⟩ := h5
  simp [Cond.before, Cond.holds, Cond.value, h1, h2, h3, h4, g1, g2, g3, g4, g5, g6]
def isCode : Jvm.Cond → Bool
  | .code _ _ _ _ => true
  | _ => false
theorem all_split {L : List Jvm.Cond} {P : Jvm.Cond → Bool} (h1 : L.all (fun c => isCode c || P c) = true) (h2 : ∀ c ∈ L.filter isCode, P c = true) : L.all P = true := by
  refine List.all_eq_true.mpr fun c hc => ?_
  have h := List.all_eq_true.mp h1 c hc
  rcases Bool.eq_false_or_eq_true (isCode c) with hi | hi
  · exact h2 c (List.mem_filter.mpr ⟨hc, hi⟩)
  · simpa [hi] using h
set_option maxRecDepth 65536 in
theorem w_c0 : (Jvm.Cond.code x code maxLocals ret).before args0 about1 = true := code_word (m := ⟨1, 1⟩) (meth := k1m1) (c := k1c1) (by decide +kernel) rfl rfl rfl (by decide +kernel)
set_option maxRecDepth 65536 in
theorem w_c1 : (Jvm.Cond.code ({ cls := "com/example/tiptoe/tiptoe/StatementReader$Reindexed$Target", name := "relation", desc := "()Z" } : Jvm.MethodName) prog_98_method_5_code (1 : Nat) (Option.some Jvm.ClassFile.FieldType.boolean)).before args0 about1 = true := code_word (m := ⟨6, 0⟩) (meth := k6m0) (c := k6c0) (by decide +kernel) rfl rfl rfl (by decide +kernel)
def codes1 : List Jvm.Cond := [Jvm.Cond.code x code maxLocals ret, Jvm.Cond.code ({ cls := "com/example/tiptoe/tiptoe/StatementReader$Reindexed$Target", name := "relation", desc := "()Z" } : Jvm.MethodName) prog_98_method_5_code (1 : Nat) (Option.some Jvm.ClassFile.FieldType.boolean)]
set_option maxRecDepth 65536 in
theorem codes_eq : words1.filter isCode = codes1 := rfl
theorem w_codes : ∀ c ∈ words1.filter isCode, c.before args0 about1 = true := by
  rw [codes_eq]
  intro c hc
  simp only [codes1, List.mem_cons, List.not_mem_nil, or_false] at hc
  rcases hc with rfl | rfl
  · exact w_c0
  · exact w_c1
set_option maxRecDepth 65536 in
theorem w_t1 : words1.all (fun c => isCode c || c.before args0 about1) = true := by decide +kernel
theorem w_tables : (allAtoms (Jvm.Cond.code x code maxLocals ret :: tables_1)).before args0 about1 = true := by
  rw [allAtoms_all]
  show words1.all (fun c => c.before args0 about1) = true
  refine all_split ?_ w_codes
  rw [w_t1]
set_option maxRecDepth 65536 in
theorem w_case : (Jvm.Cond.and given_1 narrow_1).before args0 about1 = true := by decide +kernel
theorem w_applies : (headSpec (Jvm.Cond.code x code maxLocals ret :: tables_1) room_1).applies x e0.platform about1 = true :=
  (Spec.applies_iff w_frames).mpr ⟨w_running, w_runnable, w_alone, w_named, w_hears, w_ripe, w_room, w_tables⟩
theorem atStart : AtStart classFile x code maxLocals ret World_1 tables_1 room_1 Calls_1 rest_1 Pre_1 launch0 p0 e0 about1 theMethod args0 below0 :=
  ⟨lists_1, trivial, launch0.admits_env _ _ _, launch0.least_env, fairChoices_fair.cas, fairChoices_fair.clock, w_frames, w_args, w_heap, w_applies, trivial, trivial, w_case⟩
end start1
theorem witness_1 : WitnessClaimed_1 := ⟨start1.p0, start1.e0, start1.about1, start1.theMethod, start1.args0, start1.below0, start1.atStart⟩
end Jvm.Pilot.@@N@@
