import JvmDerived
import JvmDerived.Pilot.@@N@@Statement
import JvmDerived.Pilot.@@N@@Code
set_option linter.unusedVariables false
set_option linter.unusedSimpArgs false
namespace Jvm.RoadKit
open Sem ClassFile Op Lib Jvm.Stand Jvm.Free Jvm.LawKit
section New
variable {p : Program} {l : Launch} {e : Env} {R : Room} {s : State} {m : MethodId} {args : Array Value} {below : List Frame} {meth : Method} {c : Code} {T : State} {locs : List Loc} {cells slots : Nat}
theorem retI (X : Stand p l e R s m args below meth c T locs cells slots) (hx : p.tables.exec = Jvm.exec) {pc : Nat} {Ls : Array Slot} {z : Int32} {rest : List Value} (hret : meth.sig.returnType = some .int) (hd : decode c.code pc = .ok (.ireturn, 1)) {fs : List Frame}
    (hl : ∀ (f : JFrame) (acts : List Action), f.method = m → f.locked = none → f.entered = [] → (doReturn e (T.setTop f) acts (some (.int z))).1 = T.setFrames fs) : Steps p.tables e below (T.setTop (mkF m pc Ls (.int z :: rest))) (T.setFrames fs) := by
  have hm' : T.vm.method? m = some meth := X.method'
  have hn : narrow .int (.int z) = .int z := rfl
  show Steps p.tables e below (T.setTop { method := m, pc := pc, locals := Ls, stack := _ :: rest, locked := none }) _
  jvm_step X.here [X.here.top, hx, hd, hm', hret, hn]
  first | (intro acts; rw [hl _ acts rfl rfl rfl]) | rw [hl _ _ rfl rfl rfl]
  exact Steps.refl _
end New
end Jvm.RoadKit
namespace Jvm.Pilot.@@N@@
open Jvm Jvm.ClassFile Sem Op Lib Jvm.Free Jvm.Stand Jvm.LawKit Jvm.RoadKit Bundle Jvm.Pilot.@@N@@.Jvm.D
theorem own_fld_eq {args : Array Value} {s : State} {t : Term} {C n d : String} {w : Addr} {k : Int32} (ht : t.eval args s none [] s = some (.ref w)) (h : (Jvm.Cond.eq (Term.field t C n d) (Term.int k)).value args s none s [] = some true) : Fld s s.heap w C n d (.int k) := by
  obtain ⟨x, y, ha, hb, -, -⟩ := cmp_v (Or.inl h)
  have hy : y = .int k := (Option.some.inj ((Term.int_eval k).symm.trans hb)).symm
  subst hy
  have hx : x = .int k := by
    cases x <;> simp [Cond.value, ha, hb] at h ⊢
    exact h
  subst hx
  exact Fld.start (by rw [← fld_at ht]; exact ha)
theorem own_fld_ref {args : Array Value} {s : State} {t u : Term} {C n d : String} {w : Addr} {k : Addr} (ht : t.eval args s none [] s = some (.ref w)) (hu : u.eval args s none [] s = some (.ref k)) (h : (Jvm.Cond.eq (Term.field t C n d) u).value args s none s [] = some true) : Fld s s.heap w C n d (.ref k) := by
  obtain ⟨x, y, ha, hb, -, -⟩ := cmp_v (Or.inl h)
  cases hu.symm.trans hb
  have hx : x = .ref k := by
    cases x <;> simp [Cond.value, ha, hb] at h ⊢
    exact h
  subst hx
  exact Fld.start (by rw [← fld_at ht]; exact ha)
theorem own_sel_priv {s : State} {args : Array Value} {y z : MethodName} (hsel : (Jvm.Cond.selects z.cls z z).before args s = true) (hz : z.cls = y.cls) (hpriv : (Jvm.Cond.privateMethod y).before args s = true) (hinst : (Jvm.Cond.instanceMethod y).before args s = true) (hy : y.cls ≠ "java/lang/invoke/MethodHandle" ∧ y.cls ≠ "java/lang/invoke/VarHandle") : (Jvm.Cond.selects y.cls y y).before args s = true := by
  obtain ⟨c, r, m, h1, h2, h3, h4, mk, h5, h6⟩ := Cond.selects_spec hsel
  have hc := findClass_of_methodNamed h3
  rw [hz] at hc
  exact selects_self_of_private hc h5 h6 (Cond.privateMethod_at hpriv) hinst hy
theorem own_nm_int : "[" ++ (newarray.typeOf .int).toString = "[I" := by decide
theorem own_nm_long : "[" ++ (newarray.typeOf .long).toString = "[J" := by decide
theorem own_nm_char : "[" ++ (newarray.typeOf .char).toString = "[C" := by decide
theorem own_nm_boolean : "[" ++ (newarray.typeOf .boolean).toString = "[Z" := by decide
theorem own_ns_exa {Z : State} {h : Heap} {a : Addr} {C : String} (E : Exa Z h a C) : ∀ c : Cell, h[a]? = some c → c.vm.isStatics = false := fun c hc => by
  obtain ⟨cell, k, h1, -, -, h4, -⟩ := E
  cases h1.symm.trans hc
  exact h4
theorem own_ns_arr {Z : State} {h : Heap} {a : Addr} {cl : Cell} {ty : FieldType} (A : Arr Z h a cl ty) : ∀ c : Cell, h[a]? = some c → c.vm.isStatics = false := fun c hc => by
  cases A.1.symm.trans hc
  exact A.plain
theorem own_ns_arv {Z : State} {h : Heap} {a : Addr} {k : ClassId} {ty : FieldType} {z : Int32} {vs : List Value} {dv : Value} (F : Arv Z h a k ty z vs dv) : ∀ c : Cell, h[a]? = some c → c.vm.isStatics = false := by
  obtain ⟨c, A, -⟩ := F
  exact own_ns_arr A
theorem own_sta_keep {Z : State} {h h' : Heap} {C n d : String} {v : Value} {ws : List Addr} (F : Sta Z h C n d v) (K : Keep h h' ws) (q : ∀ x ∈ ws, ∀ c : Cell, h[x]? = some c → c.vm.isStatics = false) : Sta Z h' C n d v := by
  obtain ⟨cf, i, k, f, st, cell, h1, h2, h3, h4, h5, h6, h7⟩ := F
  exact ⟨cf, i, k, f, st, cell, h1, h2, h3, h4, K.2.1 st cell h5 (fun hm => by rw [q st hm cell h5] at h6; cases h6), h6, h7⟩
theorem own_len {args : Array Value} {s : State} {t : Term} {a : Addr} {cl : Cell} {n : Int32} (ht : t.eval args s none [] s = some (.ref a)) (hc : s.heap[a]? = some cl) (h : (Jvm.Cond.eq (Term.length t) (Term.int n)).value args s none s [] = some true) : cl.slots.size < 2 ^ 31 ∧ cl.slots.size.toInt32 = n := by
  obtain ⟨x, y, ha, hb, -, -⟩ := cmp_v (Or.inl h)
  have hy : y = .int n := (Option.some.inj ((Term.int_eval n).symm.trans hb)).symm
  subst hy
  have hx : x = .int n := by
    cases x <;> simp [Cond.value, ha, hb] at h ⊢
    exact h
  subst hx
  simp only [Term.eval, ht, Option.bind_eq_bind, Option.bind_some] at ha
  cases hq : s.arrayAt? a with
  | none => simp [hq] at ha
  | some c2 =>
    cases (State.arrayAt?_spec hq).1.symm.trans hc
    simp only [hq, Option.bind_some] at ha
    split at ha
    · rename_i hlt
      exact ⟨hlt, Value.int.inj (Option.some.inj ha)⟩
    · cases ha
theorem own_elem {args : Array Value} {s : State} {t u : Term} {a k : Addr} {cl : Cell} {j : Int32} (ht : t.eval args s none [] s = some (.ref a)) (hu : u.eval args s none [] s = some (.ref k)) (hc : s.heap[a]? = some cl) (h : (Jvm.Cond.eq (Term.elem t (Term.int j)) u).value args s none s [] = some true) : cl.slots[j.toNatClampNeg]? = some (.ref k) := by
  obtain ⟨x, y, ha, hb, -, -⟩ := cmp_v (Or.inl h)
  cases hu.symm.trans hb
  have hx : x = .ref k := by
    cases x <;> simp [Cond.value, ha, hb] at h ⊢
    exact h
  subst hx
  exact (elem_in ha ht (Term.int_eval j) hc).2
theorem own_and3 (x : Int32) (h0 : ¬ (x &&& (3 : Int32)) = (0 : Int32)) (h1 : ¬ (x &&& (3 : Int32)) = (1 : Int32)) (h2 : ¬ (x &&& (3 : Int32)) = (2 : Int32)) : (x &&& (3 : Int32)) = (3 : Int32) := by
  have q := c_mask x 3 2 (by decide) (by decide)
  have e : ∀ k : Int32, (x &&& (3 : Int32)) = k ↔ (x &&& (3 : Int32)).toInt = k.toInt := fun k => Int32.toInt_inj.symm
  rw [e] at h0 h1 h2 ⊢
  rw [q] at h0 h1 h2 ⊢
  have a0 : (0 : Int32).toInt = 0 := rfl
  have a1 : (1 : Int32).toInt = 1 := rfl
  have a2 : (2 : Int32).toInt = 2 := rfl
  have a3 : (3 : Int32).toInt = 3 := rfl
  rw [a0] at h0; rw [a1] at h1; rw [a2] at h2; rw [a3]
  omega
theorem d1_0 : decode method_2_code 0 = .ok (.iload_n 0, 1) := by decide +kernel
theorem d1_1 : decode method_2_code 1 = .ok (.ifCond .ne 7, 3) := by decide +kernel
theorem d1_4 : decode method_2_code 4 = .ok (.getstatic 7, 3) := by decide +kernel
theorem d1_7 : decode method_2_code 7 = .ok (.areturn, 1) := by decide +kernel
theorem d1_8 : decode method_2_code 8 = .ok (.iload_n 0, 1) := by decide +kernel
theorem d1_9 : decode method_2_code 9 = .ok (.iconst 1, 1) := by decide +kernel
theorem d1_10 : decode method_2_code 10 = .ok (.if_icmp .ne 7, 3) := by decide +kernel
theorem d1_13 : decode method_2_code 13 = .ok (.getstatic 13, 3) := by decide +kernel
theorem d1_16 : decode method_2_code 16 = .ok (.areturn, 1) := by decide +kernel
theorem d1_17 : decode method_2_code 17 = .ok (.iload_n 0, 1) := by decide +kernel
theorem d1_18 : decode method_2_code 18 = .ok (.iconst 2, 1) := by decide +kernel
theorem d1_19 : decode method_2_code 19 = .ok (.if_icmp .ne 7, 3) := by decide +kernel
theorem d1_22 : decode method_2_code 22 = .ok (.getstatic 16, 3) := by decide +kernel
theorem d1_25 : decode method_2_code 25 = .ok (.areturn, 1) := by decide +kernel
theorem d1_26 : decode method_2_code 26 = .ok (.getstatic 19, 3) := by decide +kernel
theorem d1_29 : decode method_2_code 29 = .ok (.areturn, 1) := by decide +kernel
theorem d2_0 : decode prog_29_method_7_code 0 = .ok (.aload_n 0, 1) := by decide +kernel
theorem d2_1 : decode prog_29_method_7_code 1 = .ok (.getfield 35, 3) := by decide +kernel
theorem d2_4 : decode prog_29_method_7_code 4 = .ok (.getstatic 87, 3) := by decide +kernel
theorem d2_7 : decode prog_29_method_7_code 7 = .ok (.if_acmp .ne 7, 3) := by decide +kernel
theorem d2_10 : decode prog_29_method_7_code 10 = .ok (.iconst 1, 1) := by decide +kernel
theorem d2_11 : decode prog_29_method_7_code 11 = .ok (.goto 4, 3) := by decide +kernel
theorem d2_14 : decode prog_29_method_7_code 14 = .ok (.iconst 0, 1) := by decide +kernel
theorem d2_15 : decode prog_29_method_7_code 15 = .ok (.ireturn, 1) := by decide +kernel
theorem pn_0 : plainName "com/example/ebenezer/ebenezer/ledger/MovementKindBetweenAccountsPinLaw" = true := by first | (simp [plainName, overriddenIn]; done) | decide +kernel
theorem pn_1 : plainName "com/example/ebenezer/ebenezer/ledger/MovementKind" = true := by first | (simp [plainName, overriddenIn]; done) | decide +kernel
theorem pd_0 : parseMethodDescriptor "(I)Lcom/example/ebenezer/ebenezer/ledger/MovementKind;" = some ⟨[.int], some (.object "com/example/ebenezer/ebenezer/ledger/MovementKind")⟩ := by decide +kernel
theorem pd_1 : parseMethodDescriptor "()Z" = some ⟨[], some .boolean⟩ := by decide +kernel
theorem ef_pick (m : MethodId) (x0 : Int32) : entryFrame m #[(.int x0)] 1 = mkF m 0 #[.val (.int x0)] [] := by first | (simp [entryFrame, mkF, argsToLocals, Value.category]; done) | rfl
def Q_pick (Z : State) (pp : Int32) (w0 : Addr) (w1 : Addr) (w2 : Addr) (w3 : Addr) (r : Addr) (h0 : Heap) (n0 : Nat) (v : Option Value) (h : Heap) (L : List Loc) : Prop := v = some (.ref r) ∧ Fr n0 L ∧ h = h0
set_option maxRecDepth 65536 in
set_option maxHeartbeats 40000000 in
theorem rm_pick (l : Launch) (Z : State) (a0 : Array Value) (hw : ∀ d ∈ tables_1, d.before a0 Z = true) (ws : List Jvm.Cond) (pp : Int32) (w0 : Addr) (w1 : Addr) (w2 : Addr) (w3 : Addr) (r : Addr) (h0 : Heap) (n0 : Nat) (Z0 : n0 ≤ h0.size) (H0_S : Sta Z h0 "com/example/ebenezer/ebenezer/ledger/MovementKind" "CREDIT" "Lcom/example/ebenezer/ebenezer/ledger/MovementKind;" (.ref w0)) (H1_S : Sta Z h0 "com/example/ebenezer/ebenezer/ledger/MovementKind" "DEBIT" "Lcom/example/ebenezer/ebenezer/ledger/MovementKind;" (.ref w1)) (H2_S : Sta Z h0 "com/example/ebenezer/ebenezer/ledger/MovementKind" "REFUND" "Lcom/example/ebenezer/ebenezer/ledger/MovementKind;" (.ref w2)) (H3_S : Sta Z h0 "com/example/ebenezer/ebenezer/ledger/MovementKind" "TRANSFER" "Lcom/example/ebenezer/ebenezer/ledger/MovementKind;" (.ref w3)) (hr0 : pp = (0 : Int32) → r = w0) (hr1 : ¬ pp = (0 : Int32) → pp = (1 : Int32) → r = w1) (hr2 : ¬ pp = (0 : Int32) → ¬ pp = (1 : Int32) → pp = (2 : Int32) → r = w2) (hr3 : ¬ pp = (0 : Int32) → ¬ pp = (1 : Int32) → ¬ pp = (2 : Int32) → r = w3) :
    MetFree l (⟨"com/example/ebenezer/ebenezer/ledger/MovementKindBetweenAccountsPinLaw", "pick", "(I)Lcom/example/ebenezer/ebenezer/ledger/MovementKind;"⟩ : MethodName) (head1 (Jvm.Cond.code (⟨"com/example/ebenezer/ebenezer/ledger/MovementKindBetweenAccountsPinLaw", "pick", "(I)Lcom/example/ebenezer/ebenezer/ledger/MovementKind;"⟩ : MethodName) method_2_code 1 (some (.object "com/example/ebenezer/ebenezer/ledger/MovementKind")) :: ws) ({ frames := 0, cells := 0, slots := 0, locals := 0 } : Room)) (fun as_ U_ => as_ = #[(.int pp)] ∧ Z.Warmed39 U_.vm ∧ U_.heap = h0) (fun _ _ _ _ _ => True) (fun _ U o U' => ∃ v L, o = .returned v ∧ Q_pick Z pp w0 w1 w2 w3 r h0 n0 v U'.heap L ∧ FrameEnd U o U' L ({ frames := 0, cells := 0, slots := 0, locals := 0 } : Room).cells ({ frames := 0, cells := 0, slots := 0, locals := 0 } : Room).slots) := by
  refine MetFree.of_bodySF (plainFor_of_name pn_0) hisR ?_
  intro p e s m args below meth c s₁ Bd hml0 hP hK
  obtain ⟨rfl, hZ, hh⟩ := hP
  have hx := Bd.exec
  have hby := Bd.bytes
  have hml : c.maxLocals = 1 := hml0
  have hown : s.vm.findClass "com/example/ebenezer/ebenezer/ledger/MovementKindBetweenAccountsPinLaw" = some m.cls := findClass_of_methodNamed Bd.named
  have hnm := (name_of_methodNamed Bd.named Bd.method).1
  have X0 : Stand p l e ({ frames := 0, cells := 0, slots := 0, locals := 0 } : Room) s m #[(.int pp)] below meth c s₁ [] 0 0 := Stand.of_body Bd
  have e0 : s₁.heap = h0 := by rw [← hh, Bd.state]; rfl
  have N0 := Fr.nil n0
  have pre0 : ∀ t, Steps p.tables e below (s₁.setTop (mkF m 0 #[.val (.int pp)] [])) t → Steps p.tables e below (s₁.setTop (entryFrame m #[(.int pp)] 1)) t := fun t k => castTop (ef_pick m pp) k
  have pre1 := fun (t : State) (k : Steps p.tables e below (s₁.setTop (mkF m 1 #[.val (.int pp)] [(.int pp)])) t) => pre0 t (by
    refine XS.iloadN X0.here hx rfl (hb hby d1_0) rfl ?_
    show Steps p.tables e below (s₁.setTop (mkF m 1 #[.val (.int pp)] [(.int pp)])) _
    exact k)
  by_cases hc2 : pp = (0 : Int32)
  · obtain ⟨T3, X3, e3, st3⟩ := getS2 X0 hx hZ hown (host := "") (Or.inl (hw _ (List.mem_of_getElem? (i := 4) rfl))) Via.refl e0 H0_S (g := (mkF m 4 #[.val (.int pp)] [])) rfl (hb hby d1_4)
    have pre4 := fun (t : State) (k : Steps p.tables e below (T3.setTop (mkF m 7 #[.val (.int pp)] [(.ref w0)])) t) => pre1 t (by
      refine XS.ifNo X0.here hx rfl (hb hby d1_1) rfl ((if0 _ _).trans (teq hc2).2) ?_
      show Steps p.tables e below (s₁.setTop (mkF m 4 #[.val (.int pp)] [])) _
      refine st3 _ ?_
      show Steps p.tables e below (T3.setTop (mkF m 7 #[.val (.int pp)] [(.ref w0)])) _
      exact k)
    obtain ⟨fs, hr, hrun, hended, hW, hsame⟩ := X3.leave (v := some (.ref w0)) (fun h => by rw [Bd.returns] at h; cases h)
    refine ⟨_, _, pre4 _ ?_, hrun, hended, _, _, rfl, ?_, ⟨_, rfl⟩, hW, hsame.mono (by decide) (by decide)⟩
    · jvm_step X3.here [X3.here.top, hx, (hb hby d1_7), X3.method', Bd.returns, Value.isRef, FieldType.isReference]
      first | (intro acts; rw [hr _ acts rfl rfl rfl]) | rw [hr _ _ rfl rfl rfl]
      exact Steps.refl _
    · show Q_pick Z pp w0 w1 w2 w3 r h0 n0 _ T3.heap _
      rw [e3]
      exact ⟨(by first | rw [hr0 (by assumption)] | rw [hr1 (by assumption) (by assumption)] | rw [hr2 (by assumption) (by assumption) (by assumption)] | rw [hr3 (by assumption) (by assumption) (by assumption)]), N0, rfl⟩
  · have pre5 := fun (t : State) (k : Steps p.tables e below (s₁.setTop (mkF m 10 #[.val (.int pp)] [(.int (1 : Int32)), (.int pp)])) t) => pre1 t (by
      refine XS.ifYes X0.here hx rfl (pc0 := 1) (pc' := 8) rfl (hb hby d1_1) rfl ((if0 _ _).trans (feq hc2).2) (by decide) (by decide) ?_
      show Steps p.tables e below (s₁.setTop (mkF m 8 #[.val (.int pp)] [])) _
      refine XS.iloadN X0.here hx rfl (hb hby d1_8) rfl ?_
      show Steps p.tables e below (s₁.setTop (mkF m 9 #[.val (.int pp)] [(.int pp)])) _
      refine XS.iconst X0.here hx rfl (hb hby d1_9) ?_
      show Steps p.tables e below (s₁.setTop (mkF m 10 #[.val (.int pp)] [(.int (1 : Int32)), (.int pp)])) _
      exact k)
    by_cases hc6 : pp = (1 : Int32)
    · obtain ⟨T7, X7, e7, st7⟩ := getS2 X0 hx hZ hown (host := "") (Or.inl (hw _ (List.mem_of_getElem? (i := 22) rfl))) Via.refl e0 H1_S (g := (mkF m 13 #[.val (.int pp)] [])) rfl (hb hby d1_13)
      have pre8 := fun (t : State) (k : Steps p.tables e below (T7.setTop (mkF m 16 #[.val (.int pp)] [(.ref w1)])) t) => pre5 t (by
        refine XS.icmpNo X0.here hx rfl (hb hby d1_10) rfl (teq hc6).2 ?_
        show Steps p.tables e below (s₁.setTop (mkF m 13 #[.val (.int pp)] [])) _
        refine st7 _ ?_
        show Steps p.tables e below (T7.setTop (mkF m 16 #[.val (.int pp)] [(.ref w1)])) _
        exact k)
      obtain ⟨fs, hr, hrun, hended, hW, hsame⟩ := X7.leave (v := some (.ref w1)) (fun h => by rw [Bd.returns] at h; cases h)
      refine ⟨_, _, pre8 _ ?_, hrun, hended, _, _, rfl, ?_, ⟨_, rfl⟩, hW, hsame.mono (by decide) (by decide)⟩
      · jvm_step X7.here [X7.here.top, hx, (hb hby d1_16), X7.method', Bd.returns, Value.isRef, FieldType.isReference]
        first | (intro acts; rw [hr _ acts rfl rfl rfl]) | rw [hr _ _ rfl rfl rfl]
        exact Steps.refl _
      · show Q_pick Z pp w0 w1 w2 w3 r h0 n0 _ T7.heap _
        rw [e7]
        exact ⟨(by first | rw [hr0 (by assumption)] | rw [hr1 (by assumption) (by assumption)] | rw [hr2 (by assumption) (by assumption) (by assumption)] | rw [hr3 (by assumption) (by assumption) (by assumption)]), N0, rfl⟩
    · have pre9 := fun (t : State) (k : Steps p.tables e below (s₁.setTop (mkF m 19 #[.val (.int pp)] [(.int (2 : Int32)), (.int pp)])) t) => pre5 t (by
        refine XS.icmpYes X0.here hx rfl (pc0 := 10) (pc' := 17) rfl (hb hby d1_10) rfl (feq hc6).2 (by decide) (by decide) ?_
        show Steps p.tables e below (s₁.setTop (mkF m 17 #[.val (.int pp)] [])) _
        refine XS.iloadN X0.here hx rfl (hb hby d1_17) rfl ?_
        show Steps p.tables e below (s₁.setTop (mkF m 18 #[.val (.int pp)] [(.int pp)])) _
        refine XS.iconst X0.here hx rfl (hb hby d1_18) ?_
        show Steps p.tables e below (s₁.setTop (mkF m 19 #[.val (.int pp)] [(.int (2 : Int32)), (.int pp)])) _
        exact k)
      by_cases hc10 : pp = (2 : Int32)
      · obtain ⟨T11, X11, e11, st11⟩ := getS2 X0 hx hZ hown (host := "") (Or.inl (hw _ (List.mem_of_getElem? (i := 20) rfl))) Via.refl e0 H2_S (g := (mkF m 22 #[.val (.int pp)] [])) rfl (hb hby d1_22)
        have pre12 := fun (t : State) (k : Steps p.tables e below (T11.setTop (mkF m 25 #[.val (.int pp)] [(.ref w2)])) t) => pre9 t (by
          refine XS.icmpNo X0.here hx rfl (hb hby d1_19) rfl (teq hc10).2 ?_
          show Steps p.tables e below (s₁.setTop (mkF m 22 #[.val (.int pp)] [])) _
          refine st11 _ ?_
          show Steps p.tables e below (T11.setTop (mkF m 25 #[.val (.int pp)] [(.ref w2)])) _
          exact k)
        obtain ⟨fs, hr, hrun, hended, hW, hsame⟩ := X11.leave (v := some (.ref w2)) (fun h => by rw [Bd.returns] at h; cases h)
        refine ⟨_, _, pre12 _ ?_, hrun, hended, _, _, rfl, ?_, ⟨_, rfl⟩, hW, hsame.mono (by decide) (by decide)⟩
        · jvm_step X11.here [X11.here.top, hx, (hb hby d1_25), X11.method', Bd.returns, Value.isRef, FieldType.isReference]
          first | (intro acts; rw [hr _ acts rfl rfl rfl]) | rw [hr _ _ rfl rfl rfl]
          exact Steps.refl _
        · show Q_pick Z pp w0 w1 w2 w3 r h0 n0 _ T11.heap _
          rw [e11]
          exact ⟨(by first | rw [hr0 (by assumption)] | rw [hr1 (by assumption) (by assumption)] | rw [hr2 (by assumption) (by assumption) (by assumption)] | rw [hr3 (by assumption) (by assumption) (by assumption)]), N0, rfl⟩
      · obtain ⟨T13, X13, e13, st13⟩ := getS2 X0 hx hZ hown (host := "") (Or.inl (hw _ (List.mem_of_getElem? (i := 18) rfl))) Via.refl e0 H3_S (g := (mkF m 26 #[.val (.int pp)] [])) rfl (hb hby d1_26)
        have pre14 := fun (t : State) (k : Steps p.tables e below (T13.setTop (mkF m 29 #[.val (.int pp)] [(.ref w3)])) t) => pre9 t (by
          refine XS.icmpYes X0.here hx rfl (pc0 := 19) (pc' := 26) rfl (hb hby d1_19) rfl (feq hc10).2 (by decide) (by decide) ?_
          show Steps p.tables e below (s₁.setTop (mkF m 26 #[.val (.int pp)] [])) _
          refine st13 _ ?_
          show Steps p.tables e below (T13.setTop (mkF m 29 #[.val (.int pp)] [(.ref w3)])) _
          exact k)
        obtain ⟨fs, hr, hrun, hended, hW, hsame⟩ := X13.leave (v := some (.ref w3)) (fun h => by rw [Bd.returns] at h; cases h)
        refine ⟨_, _, pre14 _ ?_, hrun, hended, _, _, rfl, ?_, ⟨_, rfl⟩, hW, hsame.mono (by decide) (by decide)⟩
        · jvm_step X13.here [X13.here.top, hx, (hb hby d1_29), X13.method', Bd.returns, Value.isRef, FieldType.isReference]
          first | (intro acts; rw [hr _ acts rfl rfl rfl]) | rw [hr _ _ rfl rfl rfl]
          exact Steps.refl _
        · show Q_pick Z pp w0 w1 w2 w3 r h0 n0 _ T13.heap _
          rw [e13]
          exact ⟨(by first | rw [hr0 (by assumption)] | rw [hr1 (by assumption) (by assumption)] | rw [hr2 (by assumption) (by assumption) (by assumption)] | rw [hr3 (by assumption) (by assumption) (by assumption)]), N0, rfl⟩

theorem ef_bet (m : MethodId) (x0 : Addr) : entryFrame m #[(.ref x0)] 1 = mkF m 0 #[.val (.ref x0)] [] := by first | (simp [entryFrame, mkF, argsToLocals, Value.category]; done) | rfl
def Q_bet (Z : State) (a : Addr) (ff : Addr) (wB : Addr) (r : Int32) (h0 : Heap) (n0 : Nat) (v : Option Value) (h : Heap) (L : List Loc) : Prop := v = some (.int r) ∧ Fr n0 L ∧ h = h0
set_option maxRecDepth 65536 in
set_option maxHeartbeats 40000000 in
theorem rm_bet (l : Launch) (Z : State) (a0 : Array Value) (hw : ∀ d ∈ tables_1, d.before a0 Z = true) (ws : List Jvm.Cond) (a : Addr) (ff : Addr) (wB : Addr) (r : Int32) (h0 : Heap) (n0 : Nat) (Z0 : n0 ≤ h0.size) (H0_F : Fld Z h0 a "com/example/ebenezer/ebenezer/ledger/MovementKind" "flow" "Lcom/example/ebenezer/ebenezer/ledger/MovementKind$Flow;" (.ref ff)) (H1_S : Sta Z h0 "com/example/ebenezer/ebenezer/ledger/MovementKind$Flow" "BETWEEN" "Lcom/example/ebenezer/ebenezer/ledger/MovementKind$Flow;" (.ref wB)) (hr0 : ff = wB → r = (1 : Int32)) (hr1 : ¬ ff = wB → r = (0 : Int32)) :
    MetFree l (⟨"com/example/ebenezer/ebenezer/ledger/MovementKind", "betweenAccounts", "()Z"⟩ : MethodName) (head1 (Jvm.Cond.code (⟨"com/example/ebenezer/ebenezer/ledger/MovementKind", "betweenAccounts", "()Z"⟩ : MethodName) prog_29_method_7_code 1 (some .boolean) :: ws) ({ frames := 0, cells := 0, slots := 0, locals := 0 } : Room)) (fun as_ U_ => as_ = #[(.ref a)] ∧ Z.Warmed39 U_.vm ∧ U_.heap = h0) (fun _ _ _ _ _ => True) (fun _ U o U' => ∃ v L, o = .returned v ∧ Q_bet Z a ff wB r h0 n0 v U'.heap L ∧ FrameEnd U o U' L ({ frames := 0, cells := 0, slots := 0, locals := 0 } : Room).cells ({ frames := 0, cells := 0, slots := 0, locals := 0 } : Room).slots) := by
  refine MetFree.of_bodySF (plainFor_of_name pn_1) hisR ?_
  intro p e s m args below meth c s₁ Bd hml0 hP hK
  obtain ⟨rfl, hZ, hh⟩ := hP
  have hx := Bd.exec
  have hby := Bd.bytes
  have hml : c.maxLocals = 1 := hml0
  have hown : s.vm.findClass "com/example/ebenezer/ebenezer/ledger/MovementKind" = some m.cls := findClass_of_methodNamed Bd.named
  have hnm := (name_of_methodNamed Bd.named Bd.method).1
  have X0 : Stand p l e ({ frames := 0, cells := 0, slots := 0, locals := 0 } : Room) s m #[(.ref a)] below meth c s₁ [] 0 0 := Stand.of_body Bd
  have e0 : s₁.heap = h0 := by rw [← hh, Bd.state]; rfl
  have N0 := Fr.nil n0
  have pre0 : ∀ t, Steps p.tables e below (s₁.setTop (mkF m 0 #[.val (.ref a)] [])) t → Steps p.tables e below (s₁.setTop (entryFrame m #[(.ref a)] 1)) t := fun t k => castTop (ef_bet m a) k
  obtain ⟨T1, X1, e1, st1⟩ := getF X0 hx hZ hown (host := "") (Or.inl (hw _ (List.mem_of_getElem? (i := 12) rfl))) Via.refl e0 H0_F (g := (mkF m 1 #[.val (.ref a)] [(.ref a)])) rfl rfl (hb hby d2_1)
  obtain ⟨T2, X2, e2, st2⟩ := getS2 X1 hx hZ hown (host := "") (Or.inl (hw _ (List.mem_of_getElem? (i := 16) rfl))) Via.refl e1 H1_S (g := (mkF m 4 #[.val (.ref a)] [(.ref ff)])) rfl (hb hby d2_4)
  have pre3 := fun (t : State) (k : Steps p.tables e below (T2.setTop (mkF m 7 #[.val (.ref a)] [(.ref wB), (.ref ff)])) t) => pre0 t (by
    refine XS.aloadN X0.here hx rfl (hb hby d2_0) rfl rfl ?_
    show Steps p.tables e below (s₁.setTop (mkF m 1 #[.val (.ref a)] [(.ref a)])) _
    refine st1 _ ?_
    show Steps p.tables e below (T1.setTop (mkF m 4 #[.val (.ref a)] [(.ref ff)])) _
    refine st2 _ ?_
    show Steps p.tables e below (T2.setTop (mkF m 7 #[.val (.ref a)] [(.ref wB), (.ref ff)])) _
    exact k)
  by_cases hc4 : ff = wB
  · have pre5 := fun (t : State) (k : Steps p.tables e below (T2.setTop (mkF m 15 #[.val (.ref a)] [(.int (1 : Int32))])) t) => pre3 t (by
      refine Jvm.RoadKit.acmp (g := (mkF m 7 #[.val (.ref a)] [(.ref wB), (.ref ff)])) X2 hx rfl rfl rfl (pc0 := 7) (pc' := 10) (same := true) rfl (hb hby d2_7) rfl (decide_eq_true (congrArg Value.ref hc4)) (by decide) (by decide) ?_
      show Steps p.tables e below (T2.setTop (mkF m 10 #[.val (.ref a)] [])) _
      refine XS.iconst X2.here hx rfl (hb hby d2_10) ?_
      show Steps p.tables e below (T2.setTop (mkF m 11 #[.val (.ref a)] [(.int (1 : Int32))])) _
      refine XS.goto X2.here hx rfl (pc0 := 11) (pc' := 15) rfl (hb hby d2_11) (by decide) (by decide) ?_
      show Steps p.tables e below (T2.setTop (mkF m 15 #[.val (.ref a)] [(.int (1 : Int32))])) _
      exact k)
    obtain ⟨fs, hr, hrun, hended, hW, hsame⟩ := X2.leave (v := some (.int (1 : Int32))) (fun h => by rw [Bd.returns] at h; cases h)
    refine ⟨_, _, pre5 _ ?_, hrun, hended, _, _, rfl, ?_, ⟨_, rfl⟩, hW, hsame.mono (by decide) (by decide)⟩
    · exact retN X2 hx (t := .boolean) Bd.returns (by simp) (hb hby d2_15) hr
    · show Q_bet Z a ff wB r h0 n0 _ T2.heap _
      rw [e2]
      exact ⟨(by first | rw [hr0 (by assumption)] | rw [hr1 (by assumption)]), N0, rfl⟩
  · have pre6 := fun (t : State) (k : Steps p.tables e below (T2.setTop (mkF m 15 #[.val (.ref a)] [(.int (0 : Int32))])) t) => pre3 t (by
      refine Jvm.RoadKit.acmp (g := (mkF m 7 #[.val (.ref a)] [(.ref wB), (.ref ff)])) X2 hx rfl rfl rfl (pc0 := 7) (pc' := 14) (same := false) rfl (hb hby d2_7) rfl (decide_eq_false fun q => hc4 (Value.ref.inj q)) (by decide) (by decide) ?_
      show Steps p.tables e below (T2.setTop (mkF m 14 #[.val (.ref a)] [])) _
      refine XS.iconst X2.here hx rfl (hb hby d2_14) ?_
      show Steps p.tables e below (T2.setTop (mkF m 15 #[.val (.ref a)] [(.int (0 : Int32))])) _
      exact k)
    obtain ⟨fs, hr, hrun, hended, hW, hsame⟩ := X2.leave (v := some (.int (0 : Int32))) (fun h => by rw [Bd.returns] at h; cases h)
    refine ⟨_, _, pre6 _ ?_, hrun, hended, _, _, rfl, ?_, ⟨_, rfl⟩, hW, hsame.mono (by decide) (by decide)⟩
    · exact retN X2 hx (t := .boolean) Bd.returns (by simp) (hb hby d2_15) hr
    · show Q_bet Z a ff wB r h0 n0 _ T2.heap _
      rw [e2]
      exact ⟨(by first | rw [hr0 (by assumption)] | rw [hr1 (by assumption)]), N0, rfl⟩

theorem ef_law (m : MethodId) (x0 : Int32) : entryFrame m #[(.int x0)] maxLocals = mkF m 0 #[.val (.int x0), .unset, .unset, .unset] [] := by first | (simp [entryFrame, mkF, argsToLocals, Value.category, maxLocals]; done) | rfl
def Q_law (Z : State) (p1 : Int32) (w0 : Addr) (w1 : Addr) (w2 : Addr) (w3 : Addr) (f0 : Addr) (f1 : Addr) (f2 : Addr) (wB : Addr) (h0 : Heap) (n0 : Nat) (v : Option Value) (h : Heap) (L : List Loc) : Prop := v = some (.int (1 : Int32)) ∧ Fr n0 L ∧ h = h0
set_option maxRecDepth 65536 in
set_option maxHeartbeats 40000000 in
theorem rm_law (l : Launch) (Z : State) (a0 : Array Value) (hw : ∀ d ∈ tables_1, d.before a0 Z = true) (ws : List Jvm.Cond) (p1 : Int32) (w0 : Addr) (w1 : Addr) (w2 : Addr) (w3 : Addr) (f0 : Addr) (f1 : Addr) (f2 : Addr) (wB : Addr) (h0 : Heap) (n0 : Nat) (Z0 : n0 ≤ h0.size) (H0_S : Sta Z h0 "com/example/ebenezer/ebenezer/ledger/MovementKind" "CREDIT" "Lcom/example/ebenezer/ebenezer/ledger/MovementKind;" (.ref w0)) (H1_S : Sta Z h0 "com/example/ebenezer/ebenezer/ledger/MovementKind" "DEBIT" "Lcom/example/ebenezer/ebenezer/ledger/MovementKind;" (.ref w1)) (H2_S : Sta Z h0 "com/example/ebenezer/ebenezer/ledger/MovementKind" "REFUND" "Lcom/example/ebenezer/ebenezer/ledger/MovementKind;" (.ref w2)) (H3_S : Sta Z h0 "com/example/ebenezer/ebenezer/ledger/MovementKind" "TRANSFER" "Lcom/example/ebenezer/ebenezer/ledger/MovementKind;" (.ref w3)) (H4_E : Exa Z h0 w0 "com/example/ebenezer/ebenezer/ledger/MovementKind") (H5_E : Exa Z h0 w1 "com/example/ebenezer/ebenezer/ledger/MovementKind") (H6_E : Exa Z h0 w2 "com/example/ebenezer/ebenezer/ledger/MovementKind") (H7_E : Exa Z h0 w3 "com/example/ebenezer/ebenezer/ledger/MovementKind") (H8_S : Sta Z h0 "com/example/ebenezer/ebenezer/ledger/MovementKind$Flow" "BETWEEN" "Lcom/example/ebenezer/ebenezer/ledger/MovementKind$Flow;" (.ref wB)) (H9_F : Fld Z h0 w0 "com/example/ebenezer/ebenezer/ledger/MovementKind" "flow" "Lcom/example/ebenezer/ebenezer/ledger/MovementKind$Flow;" (.ref f0)) (H10_F : Fld Z h0 w1 "com/example/ebenezer/ebenezer/ledger/MovementKind" "flow" "Lcom/example/ebenezer/ebenezer/ledger/MovementKind$Flow;" (.ref f1)) (H11_F : Fld Z h0 w2 "com/example/ebenezer/ebenezer/ledger/MovementKind" "flow" "Lcom/example/ebenezer/ebenezer/ledger/MovementKind$Flow;" (.ref f2)) (H12_F : Fld Z h0 w3 "com/example/ebenezer/ebenezer/ledger/MovementKind" "flow" "Lcom/example/ebenezer/ebenezer/ledger/MovementKind$Flow;" (.ref wB)) (hne0 : f0 ≠ wB) (hne1 : f1 ≠ wB) (hne2 : f2 ≠ wB) :
    MetFree l x (head1 (Jvm.Cond.code x code maxLocals ret :: ws) room_1) (fun as_ U_ => as_ = #[(.int p1)] ∧ Z.Warmed39 U_.vm ∧ U_.heap = h0) (fun _ _ _ _ _ => True) (fun _ U o U' => ∃ v L, o = .returned v ∧ Q_law Z p1 w0 w1 w2 w3 f0 f1 f2 wB h0 n0 v U'.heap L ∧ FrameEnd U o U' L 0 0) := by
  refine MetFree.of_bodySF (plainFor_of_name pn_0) hisR ?_
  intro p e s m args below meth c s₁ Bd hml0 hP hK
  obtain ⟨rfl, hZ, hh⟩ := hP
  have hx := Bd.exec
  have hby := Bd.bytes
  have hml : c.maxLocals = 4 := hml0
  have hown : s.vm.findClass "com/example/ebenezer/ebenezer/ledger/MovementKindBetweenAccountsPinLaw" = some m.cls := findClass_of_methodNamed Bd.named
  have hnm := (name_of_methodNamed Bd.named Bd.method).1
  have X0 : Stand p l e room_1 s m #[(.int p1)] below meth c s₁ [] 0 0 := Stand.of_body Bd
  have e0 : s₁.heap = h0 := by rw [← hh, Bd.state]; rfl
  have N0 := Fr.nil n0
  have pre0 : ∀ t, Steps p.tables e below (s₁.setTop (mkF m 0 #[.val (.int p1), .unset, .unset, .unset] [])) t → Steps p.tables e below (s₁.setTop (entryFrame m #[(.int p1)] maxLocals)) t := fun t k => castTop (ef_law m p1) k
  have pre1 := fun (t : State) (k : Steps p.tables e below (s₁.setTop (mkF m 5 #[.val (.int p1), .val (.int (p1 &&& (3 : Int32))), .unset, .unset] [(.int (p1 &&& (3 : Int32)))])) t) => pre0 t (by
    refine XS.iloadN X0.here hx rfl (hb hby at_0) rfl ?_
    show Steps p.tables e below (s₁.setTop (mkF m 1 #[.val (.int p1), .unset, .unset, .unset] [(.int p1)])) _
    refine XS.iconst X0.here hx rfl (hb hby at_1) ?_
    show Steps p.tables e below (s₁.setTop (mkF m 2 #[.val (.int p1), .unset, .unset, .unset] [(.int (3 : Int32)), (.int p1)])) _
    refine XS.iand X0.here hx rfl (hb hby at_2) rfl ?_
    show Steps p.tables e below (s₁.setTop (mkF m 3 #[.val (.int p1), .unset, .unset, .unset] [(.int (p1 &&& (3 : Int32)))])) _
    refine XS.istoreN X0.here hx rfl (hb hby at_3) rfl (l' := #[.val (.int p1), .val (.int (p1 &&& (3 : Int32))), .unset, .unset]) rfl ?_
    show Steps p.tables e below (s₁.setTop (mkF m 4 #[.val (.int p1), .val (.int (p1 &&& (3 : Int32))), .unset, .unset] [])) _
    refine XS.iloadN X0.here hx rfl (hb hby at_4) rfl ?_
    show Steps p.tables e below (s₁.setTop (mkF m 5 #[.val (.int p1), .val (.int (p1 &&& (3 : Int32))), .unset, .unset] [(.int (p1 &&& (3 : Int32)))])) _
    exact k)
  by_cases hs2 : (p1 &&& (3 : Int32)) = (0 : Int32)
  · obtain ⟨_, _, ⟨T3, L3, k3, n3⟩, -, X3, ⟨Lc3, hQ3, l3, y3, z3⟩, st3⟩ := Jvm.LawKit.callS X0 hx (y := (⟨"com/example/ebenezer/ebenezer/ledger/MovementKindBetweenAccountsPinLaw", "pick", "(I)Lcom/example/ebenezer/ebenezer/ledger/MovementKind;"⟩ : MethodName)) hown (mvT hZ (hw _ (List.mem_of_getElem? (i := 0) rfl))) (mvT hZ (hw _ (List.mem_of_getElem? (i := 1) rfl))) (mvT hZ (hw _ (List.mem_of_getElem? (i := 2) rfl))) (mvT hZ (hw _ (List.mem_of_getElem? (i := 3) rfl))) (by decide) (backOf (W := 0) (rm_pick l Z a0 hw [] (p1 &&& (3 : Int32)) w0 w1 w2 w3 w0 h0 n0 Z0 H0_S H1_S H2_S H3_S (fun _ => rfl) (fun q _ => absurd hs2 q) (fun q _ _ => absurd hs2 q) (fun q _ _ => absurd hs2 q)) hZ (hw _ (List.mem_of_getElem? (i := 3) rfl)) (hw _ (List.mem_of_getElem? (i := 2) rfl)) (by decide) (by decide)) (g := (mkF m 5 #[.val (.int p1), .val (.int (p1 &&& (3 : Int32))), .unset, .unset] [(.int (p1 &&& (3 : Int32)))])) rfl (by rw [hml]; rfl) (argsL := [(.int (p1 &&& (3 : Int32)))]) (rest := []) (lenOf pd_0 rfl) rfl (by show 2 * 0 + _ ≤ _; exact Nat.le_of_eq rfl) (hb hby at_5) (fun _ _ => ⟨rfl, e0, (by decide : 0 + 0 ≤ _), (by decide : 0 + 0 ≤ _)⟩)
    dsimp only [Pt.U, Pt.locs, Pt.cells, Pt.slots] at X3 l3 y3 z3 st3 hQ3
    subst l3 y3 z3
    obtain ⟨rfl, N3q, hq4⟩ := hQ3
    have N3 := Fr.app N0 N3q
    obtain ⟨cq5, kq5, q5a, q5b, q5c⟩ := isOf hZ hq4 H4_E
    obtain ⟨_, _, ⟨T5, L5, k5, n5⟩, -, X5, ⟨Lc5, hQ5, l5, y5, z5⟩, st5⟩ := X3.virtualBack hx (y := (⟨"com/example/ebenezer/ebenezer/ledger/MovementKind", "betweenAccounts", "()Z"⟩ : MethodName)) (z := (⟨"com/example/ebenezer/ebenezer/ledger/MovementKind", "betweenAccounts", "()Z"⟩ : MethodName)) hown (mvT hZ (hw _ (List.mem_of_getElem? (i := 7) rfl))) (mvT hZ (hw _ (List.mem_of_getElem? (i := 8) rfl))) (notFace_of_selects (args := #[]) (mvT hZ (hw _ (List.mem_of_getElem? (i := 10) rfl)))) (mvT hZ (hw _ (List.mem_of_getElem? (i := 10) rfl))) (mvT hZ (hw _ (List.mem_of_getElem? (i := 9) rfl))) (by decide) (backOf (W := 0) (rm_bet l Z a0 hw [] w0 f0 wB (0 : Int32) h0 n0 Z0 H9_F H8_S (fun q => absurd q hne0) (fun _ => rfl)) hZ (hw _ (List.mem_of_getElem? (i := 11) rfl)) (hw _ (List.mem_of_getElem? (i := 5) rfl)) (by decide) (by decide)) q5a q5c (g := (mkF m 21 #[.val (.int p1), .val (.int (p1 &&& (3 : Int32))), .val (.ref w0), .val (.int (0 : Int32))] [(.ref w0)])) rfl (by rw [hml]; rfl) (Steps.refl _) (argsL := []) (rest := []) (lenOf pd_1 rfl) rfl (by show 2 * 0 + _ ≤ _; exact Nat.le_of_eq rfl) (hb hby at_21) (fun _ _ => ⟨rfl, hq4, (by decide : 0 + 0 ≤ _), (by decide : 0 + 0 ≤ _)⟩)
    dsimp only [Pt.U, Pt.locs, Pt.cells, Pt.slots] at X5 l5 y5 z5 st5 hQ5
    subst l5 y5 z5
    obtain ⟨rfl, N5q, hq6⟩ := hQ5
    have N5 := Fr.app N3 N5q
    have pre7 := fun (t : State) (k : Steps p.tables e below (T5.setTop (mkF m 33 #[.val (.int p1), .val (.int (p1 &&& (3 : Int32))), .val (.ref w0), .val (.int (0 : Int32))] [(.int (1 : Int32))])) t) => pre1 t (by
      refine st3 _ ?_
      show Steps p.tables e below (T3.setTop (mkF m 8 #[.val (.int p1), .val (.int (p1 &&& (3 : Int32))), .unset, .unset] [(.ref w0)])) _
      refine XS.astoreN X3.here hx rfl (hb hby at_8) rfl rfl (l' := #[.val (.int p1), .val (.int (p1 &&& (3 : Int32))), .val (.ref w0), .unset]) rfl ?_
      show Steps p.tables e below (T3.setTop (mkF m 9 #[.val (.int p1), .val (.int (p1 &&& (3 : Int32))), .val (.ref w0), .unset] [])) _
      refine XS.iloadN X3.here hx rfl (hb hby at_9) rfl ?_
      show Steps p.tables e below (T3.setTop (mkF m 10 #[.val (.int p1), .val (.int (p1 &&& (3 : Int32))), .val (.ref w0), .unset] [(.int (p1 &&& (3 : Int32)))])) _
      refine XS.iconst X3.here hx rfl (hb hby at_10) ?_
      show Steps p.tables e below (T3.setTop (mkF m 11 #[.val (.int p1), .val (.int (p1 &&& (3 : Int32))), .val (.ref w0), .unset] [(.int (3 : Int32)), (.int (p1 &&& (3 : Int32)))])) _
      refine XS.icmpYes X3.here hx rfl (pc0 := 11) (pc' := 18) rfl (hb hby at_11) rfl (feq (by rw [hs2]; decide)).2 (by decide) (by decide) ?_
      show Steps p.tables e below (T3.setTop (mkF m 18 #[.val (.int p1), .val (.int (p1 &&& (3 : Int32))), .val (.ref w0), .unset] [])) _
      refine XS.iconst X3.here hx rfl (hb hby at_18) ?_
      show Steps p.tables e below (T3.setTop (mkF m 19 #[.val (.int p1), .val (.int (p1 &&& (3 : Int32))), .val (.ref w0), .unset] [(.int (0 : Int32))])) _
      refine XS.istoreN X3.here hx rfl (hb hby at_19) rfl (l' := #[.val (.int p1), .val (.int (p1 &&& (3 : Int32))), .val (.ref w0), .val (.int (0 : Int32))]) rfl ?_
      show Steps p.tables e below (T3.setTop (mkF m 20 #[.val (.int p1), .val (.int (p1 &&& (3 : Int32))), .val (.ref w0), .val (.int (0 : Int32))] [])) _
      refine XS.aloadN X3.here hx rfl (hb hby at_20) rfl rfl ?_
      show Steps p.tables e below (T3.setTop (mkF m 21 #[.val (.int p1), .val (.int (p1 &&& (3 : Int32))), .val (.ref w0), .val (.int (0 : Int32))] [(.ref w0)])) _
      refine st5.trans ?_
      show Steps p.tables e below (T5.setTop (mkF m 24 #[.val (.int p1), .val (.int (p1 &&& (3 : Int32))), .val (.ref w0), .val (.int (0 : Int32))] [(.int (0 : Int32))])) _
      refine XS.iloadN X5.here hx rfl (hb hby at_24) rfl ?_
      show Steps p.tables e below (T5.setTop (mkF m 25 #[.val (.int p1), .val (.int (p1 &&& (3 : Int32))), .val (.ref w0), .val (.int (0 : Int32))] [(.int (0 : Int32)), (.int (0 : Int32))])) _
      refine XS.icmpNo X5.here hx rfl (hb hby at_25) rfl (teq (by decide : (0 : Int32) = (0 : Int32))).2 ?_
      show Steps p.tables e below (T5.setTop (mkF m 28 #[.val (.int p1), .val (.int (p1 &&& (3 : Int32))), .val (.ref w0), .val (.int (0 : Int32))] [])) _
      refine XS.iconst X5.here hx rfl (hb hby at_28) ?_
      show Steps p.tables e below (T5.setTop (mkF m 29 #[.val (.int p1), .val (.int (p1 &&& (3 : Int32))), .val (.ref w0), .val (.int (0 : Int32))] [(.int (1 : Int32))])) _
      refine XS.goto X5.here hx rfl (pc0 := 29) (pc' := 33) rfl (hb hby at_29) (by decide) (by decide) ?_
      show Steps p.tables e below (T5.setTop (mkF m 33 #[.val (.int p1), .val (.int (p1 &&& (3 : Int32))), .val (.ref w0), .val (.int (0 : Int32))] [(.int (1 : Int32))])) _
      exact k)
    obtain ⟨fs, hr, hrun, hended, hW, hsame⟩ := X5.leave (v := some (.int (1 : Int32))) (fun h => by rw [Bd.returns] at h; cases h)
    refine ⟨_, _, pre7 _ ?_, hrun, hended, _, _, rfl, ?_, ⟨_, rfl⟩, hW, hsame.mono (by decide) (by decide)⟩
    · exact retN X5 hx (t := .boolean) Bd.returns (by simp) (hb hby at_33) hr
    · show Q_law Z p1 w0 w1 w2 w3 f0 f1 f2 wB h0 n0 _ T5.heap _
      rw [hq6]
      exact ⟨rfl, N5, rfl⟩
  · by_cases hs8 : (p1 &&& (3 : Int32)) = (1 : Int32)
    · obtain ⟨_, _, ⟨T9, L9, k9, n9⟩, -, X9, ⟨Lc9, hQ9, l9, y9, z9⟩, st9⟩ := Jvm.LawKit.callS X0 hx (y := (⟨"com/example/ebenezer/ebenezer/ledger/MovementKindBetweenAccountsPinLaw", "pick", "(I)Lcom/example/ebenezer/ebenezer/ledger/MovementKind;"⟩ : MethodName)) hown (mvT hZ (hw _ (List.mem_of_getElem? (i := 0) rfl))) (mvT hZ (hw _ (List.mem_of_getElem? (i := 1) rfl))) (mvT hZ (hw _ (List.mem_of_getElem? (i := 2) rfl))) (mvT hZ (hw _ (List.mem_of_getElem? (i := 3) rfl))) (by decide) (backOf (W := 0) (rm_pick l Z a0 hw [] (p1 &&& (3 : Int32)) w0 w1 w2 w3 w1 h0 n0 Z0 H0_S H1_S H2_S H3_S (fun q => absurd q hs2) (fun _ _ => rfl) (fun _ q _ => absurd hs8 q) (fun _ q _ => absurd hs8 q)) hZ (hw _ (List.mem_of_getElem? (i := 3) rfl)) (hw _ (List.mem_of_getElem? (i := 2) rfl)) (by decide) (by decide)) (g := (mkF m 5 #[.val (.int p1), .val (.int (p1 &&& (3 : Int32))), .unset, .unset] [(.int (p1 &&& (3 : Int32)))])) rfl (by rw [hml]; rfl) (argsL := [(.int (p1 &&& (3 : Int32)))]) (rest := []) (lenOf pd_0 rfl) rfl (by show 2 * 0 + _ ≤ _; exact Nat.le_of_eq rfl) (hb hby at_5) (fun _ _ => ⟨rfl, e0, (by decide : 0 + 0 ≤ _), (by decide : 0 + 0 ≤ _)⟩)
      dsimp only [Pt.U, Pt.locs, Pt.cells, Pt.slots] at X9 l9 y9 z9 st9 hQ9
      subst l9 y9 z9
      obtain ⟨rfl, N9q, hq10⟩ := hQ9
      have N9 := Fr.app N0 N9q
      obtain ⟨cq11, kq11, q11a, q11b, q11c⟩ := isOf hZ hq10 H5_E
      obtain ⟨_, _, ⟨T11, L11, k11, n11⟩, -, X11, ⟨Lc11, hQ11, l11, y11, z11⟩, st11⟩ := X9.virtualBack hx (y := (⟨"com/example/ebenezer/ebenezer/ledger/MovementKind", "betweenAccounts", "()Z"⟩ : MethodName)) (z := (⟨"com/example/ebenezer/ebenezer/ledger/MovementKind", "betweenAccounts", "()Z"⟩ : MethodName)) hown (mvT hZ (hw _ (List.mem_of_getElem? (i := 7) rfl))) (mvT hZ (hw _ (List.mem_of_getElem? (i := 8) rfl))) (notFace_of_selects (args := #[]) (mvT hZ (hw _ (List.mem_of_getElem? (i := 10) rfl)))) (mvT hZ (hw _ (List.mem_of_getElem? (i := 10) rfl))) (mvT hZ (hw _ (List.mem_of_getElem? (i := 9) rfl))) (by decide) (backOf (W := 0) (rm_bet l Z a0 hw [] w1 f1 wB (0 : Int32) h0 n0 Z0 H10_F H8_S (fun q => absurd q hne1) (fun _ => rfl)) hZ (hw _ (List.mem_of_getElem? (i := 11) rfl)) (hw _ (List.mem_of_getElem? (i := 5) rfl)) (by decide) (by decide)) q11a q11c (g := (mkF m 21 #[.val (.int p1), .val (.int (p1 &&& (3 : Int32))), .val (.ref w1), .val (.int (0 : Int32))] [(.ref w1)])) rfl (by rw [hml]; rfl) (Steps.refl _) (argsL := []) (rest := []) (lenOf pd_1 rfl) rfl (by show 2 * 0 + _ ≤ _; exact Nat.le_of_eq rfl) (hb hby at_21) (fun _ _ => ⟨rfl, hq10, (by decide : 0 + 0 ≤ _), (by decide : 0 + 0 ≤ _)⟩)
      dsimp only [Pt.U, Pt.locs, Pt.cells, Pt.slots] at X11 l11 y11 z11 st11 hQ11
      subst l11 y11 z11
      obtain ⟨rfl, N11q, hq12⟩ := hQ11
      have N11 := Fr.app N9 N11q
      have pre13 := fun (t : State) (k : Steps p.tables e below (T11.setTop (mkF m 33 #[.val (.int p1), .val (.int (p1 &&& (3 : Int32))), .val (.ref w1), .val (.int (0 : Int32))] [(.int (1 : Int32))])) t) => pre1 t (by
        refine st9 _ ?_
        show Steps p.tables e below (T9.setTop (mkF m 8 #[.val (.int p1), .val (.int (p1 &&& (3 : Int32))), .unset, .unset] [(.ref w1)])) _
        refine XS.astoreN X9.here hx rfl (hb hby at_8) rfl rfl (l' := #[.val (.int p1), .val (.int (p1 &&& (3 : Int32))), .val (.ref w1), .unset]) rfl ?_
        show Steps p.tables e below (T9.setTop (mkF m 9 #[.val (.int p1), .val (.int (p1 &&& (3 : Int32))), .val (.ref w1), .unset] [])) _
        refine XS.iloadN X9.here hx rfl (hb hby at_9) rfl ?_
        show Steps p.tables e below (T9.setTop (mkF m 10 #[.val (.int p1), .val (.int (p1 &&& (3 : Int32))), .val (.ref w1), .unset] [(.int (p1 &&& (3 : Int32)))])) _
        refine XS.iconst X9.here hx rfl (hb hby at_10) ?_
        show Steps p.tables e below (T9.setTop (mkF m 11 #[.val (.int p1), .val (.int (p1 &&& (3 : Int32))), .val (.ref w1), .unset] [(.int (3 : Int32)), (.int (p1 &&& (3 : Int32)))])) _
        refine XS.icmpYes X9.here hx rfl (pc0 := 11) (pc' := 18) rfl (hb hby at_11) rfl (feq (by rw [hs8]; decide)).2 (by decide) (by decide) ?_
        show Steps p.tables e below (T9.setTop (mkF m 18 #[.val (.int p1), .val (.int (p1 &&& (3 : Int32))), .val (.ref w1), .unset] [])) _
        refine XS.iconst X9.here hx rfl (hb hby at_18) ?_
        show Steps p.tables e below (T9.setTop (mkF m 19 #[.val (.int p1), .val (.int (p1 &&& (3 : Int32))), .val (.ref w1), .unset] [(.int (0 : Int32))])) _
        refine XS.istoreN X9.here hx rfl (hb hby at_19) rfl (l' := #[.val (.int p1), .val (.int (p1 &&& (3 : Int32))), .val (.ref w1), .val (.int (0 : Int32))]) rfl ?_
        show Steps p.tables e below (T9.setTop (mkF m 20 #[.val (.int p1), .val (.int (p1 &&& (3 : Int32))), .val (.ref w1), .val (.int (0 : Int32))] [])) _
        refine XS.aloadN X9.here hx rfl (hb hby at_20) rfl rfl ?_
        show Steps p.tables e below (T9.setTop (mkF m 21 #[.val (.int p1), .val (.int (p1 &&& (3 : Int32))), .val (.ref w1), .val (.int (0 : Int32))] [(.ref w1)])) _
        refine st11.trans ?_
        show Steps p.tables e below (T11.setTop (mkF m 24 #[.val (.int p1), .val (.int (p1 &&& (3 : Int32))), .val (.ref w1), .val (.int (0 : Int32))] [(.int (0 : Int32))])) _
        refine XS.iloadN X11.here hx rfl (hb hby at_24) rfl ?_
        show Steps p.tables e below (T11.setTop (mkF m 25 #[.val (.int p1), .val (.int (p1 &&& (3 : Int32))), .val (.ref w1), .val (.int (0 : Int32))] [(.int (0 : Int32)), (.int (0 : Int32))])) _
        refine XS.icmpNo X11.here hx rfl (hb hby at_25) rfl (teq (by decide : (0 : Int32) = (0 : Int32))).2 ?_
        show Steps p.tables e below (T11.setTop (mkF m 28 #[.val (.int p1), .val (.int (p1 &&& (3 : Int32))), .val (.ref w1), .val (.int (0 : Int32))] [])) _
        refine XS.iconst X11.here hx rfl (hb hby at_28) ?_
        show Steps p.tables e below (T11.setTop (mkF m 29 #[.val (.int p1), .val (.int (p1 &&& (3 : Int32))), .val (.ref w1), .val (.int (0 : Int32))] [(.int (1 : Int32))])) _
        refine XS.goto X11.here hx rfl (pc0 := 29) (pc' := 33) rfl (hb hby at_29) (by decide) (by decide) ?_
        show Steps p.tables e below (T11.setTop (mkF m 33 #[.val (.int p1), .val (.int (p1 &&& (3 : Int32))), .val (.ref w1), .val (.int (0 : Int32))] [(.int (1 : Int32))])) _
        exact k)
      obtain ⟨fs, hr, hrun, hended, hW, hsame⟩ := X11.leave (v := some (.int (1 : Int32))) (fun h => by rw [Bd.returns] at h; cases h)
      refine ⟨_, _, pre13 _ ?_, hrun, hended, _, _, rfl, ?_, ⟨_, rfl⟩, hW, hsame.mono (by decide) (by decide)⟩
      · exact retN X11 hx (t := .boolean) Bd.returns (by simp) (hb hby at_33) hr
      · show Q_law Z p1 w0 w1 w2 w3 f0 f1 f2 wB h0 n0 _ T11.heap _
        rw [hq12]
        exact ⟨rfl, N11, rfl⟩
    · by_cases hs14 : (p1 &&& (3 : Int32)) = (2 : Int32)
      · obtain ⟨_, _, ⟨T15, L15, k15, n15⟩, -, X15, ⟨Lc15, hQ15, l15, y15, z15⟩, st15⟩ := Jvm.LawKit.callS X0 hx (y := (⟨"com/example/ebenezer/ebenezer/ledger/MovementKindBetweenAccountsPinLaw", "pick", "(I)Lcom/example/ebenezer/ebenezer/ledger/MovementKind;"⟩ : MethodName)) hown (mvT hZ (hw _ (List.mem_of_getElem? (i := 0) rfl))) (mvT hZ (hw _ (List.mem_of_getElem? (i := 1) rfl))) (mvT hZ (hw _ (List.mem_of_getElem? (i := 2) rfl))) (mvT hZ (hw _ (List.mem_of_getElem? (i := 3) rfl))) (by decide) (backOf (W := 0) (rm_pick l Z a0 hw [] (p1 &&& (3 : Int32)) w0 w1 w2 w3 w2 h0 n0 Z0 H0_S H1_S H2_S H3_S (fun q => absurd q hs2) (fun _ q => absurd q hs8) (fun _ _ _ => rfl) (fun _ _ q => absurd hs14 q)) hZ (hw _ (List.mem_of_getElem? (i := 3) rfl)) (hw _ (List.mem_of_getElem? (i := 2) rfl)) (by decide) (by decide)) (g := (mkF m 5 #[.val (.int p1), .val (.int (p1 &&& (3 : Int32))), .unset, .unset] [(.int (p1 &&& (3 : Int32)))])) rfl (by rw [hml]; rfl) (argsL := [(.int (p1 &&& (3 : Int32)))]) (rest := []) (lenOf pd_0 rfl) rfl (by show 2 * 0 + _ ≤ _; exact Nat.le_of_eq rfl) (hb hby at_5) (fun _ _ => ⟨rfl, e0, (by decide : 0 + 0 ≤ _), (by decide : 0 + 0 ≤ _)⟩)
        dsimp only [Pt.U, Pt.locs, Pt.cells, Pt.slots] at X15 l15 y15 z15 st15 hQ15
        subst l15 y15 z15
        obtain ⟨rfl, N15q, hq16⟩ := hQ15
        have N15 := Fr.app N0 N15q
        obtain ⟨cq17, kq17, q17a, q17b, q17c⟩ := isOf hZ hq16 H6_E
        obtain ⟨_, _, ⟨T17, L17, k17, n17⟩, -, X17, ⟨Lc17, hQ17, l17, y17, z17⟩, st17⟩ := X15.virtualBack hx (y := (⟨"com/example/ebenezer/ebenezer/ledger/MovementKind", "betweenAccounts", "()Z"⟩ : MethodName)) (z := (⟨"com/example/ebenezer/ebenezer/ledger/MovementKind", "betweenAccounts", "()Z"⟩ : MethodName)) hown (mvT hZ (hw _ (List.mem_of_getElem? (i := 7) rfl))) (mvT hZ (hw _ (List.mem_of_getElem? (i := 8) rfl))) (notFace_of_selects (args := #[]) (mvT hZ (hw _ (List.mem_of_getElem? (i := 10) rfl)))) (mvT hZ (hw _ (List.mem_of_getElem? (i := 10) rfl))) (mvT hZ (hw _ (List.mem_of_getElem? (i := 9) rfl))) (by decide) (backOf (W := 0) (rm_bet l Z a0 hw [] w2 f2 wB (0 : Int32) h0 n0 Z0 H11_F H8_S (fun q => absurd q hne2) (fun _ => rfl)) hZ (hw _ (List.mem_of_getElem? (i := 11) rfl)) (hw _ (List.mem_of_getElem? (i := 5) rfl)) (by decide) (by decide)) q17a q17c (g := (mkF m 21 #[.val (.int p1), .val (.int (p1 &&& (3 : Int32))), .val (.ref w2), .val (.int (0 : Int32))] [(.ref w2)])) rfl (by rw [hml]; rfl) (Steps.refl _) (argsL := []) (rest := []) (lenOf pd_1 rfl) rfl (by show 2 * 0 + _ ≤ _; exact Nat.le_of_eq rfl) (hb hby at_21) (fun _ _ => ⟨rfl, hq16, (by decide : 0 + 0 ≤ _), (by decide : 0 + 0 ≤ _)⟩)
        dsimp only [Pt.U, Pt.locs, Pt.cells, Pt.slots] at X17 l17 y17 z17 st17 hQ17
        subst l17 y17 z17
        obtain ⟨rfl, N17q, hq18⟩ := hQ17
        have N17 := Fr.app N15 N17q
        have pre19 := fun (t : State) (k : Steps p.tables e below (T17.setTop (mkF m 33 #[.val (.int p1), .val (.int (p1 &&& (3 : Int32))), .val (.ref w2), .val (.int (0 : Int32))] [(.int (1 : Int32))])) t) => pre1 t (by
          refine st15 _ ?_
          show Steps p.tables e below (T15.setTop (mkF m 8 #[.val (.int p1), .val (.int (p1 &&& (3 : Int32))), .unset, .unset] [(.ref w2)])) _
          refine XS.astoreN X15.here hx rfl (hb hby at_8) rfl rfl (l' := #[.val (.int p1), .val (.int (p1 &&& (3 : Int32))), .val (.ref w2), .unset]) rfl ?_
          show Steps p.tables e below (T15.setTop (mkF m 9 #[.val (.int p1), .val (.int (p1 &&& (3 : Int32))), .val (.ref w2), .unset] [])) _
          refine XS.iloadN X15.here hx rfl (hb hby at_9) rfl ?_
          show Steps p.tables e below (T15.setTop (mkF m 10 #[.val (.int p1), .val (.int (p1 &&& (3 : Int32))), .val (.ref w2), .unset] [(.int (p1 &&& (3 : Int32)))])) _
          refine XS.iconst X15.here hx rfl (hb hby at_10) ?_
          show Steps p.tables e below (T15.setTop (mkF m 11 #[.val (.int p1), .val (.int (p1 &&& (3 : Int32))), .val (.ref w2), .unset] [(.int (3 : Int32)), (.int (p1 &&& (3 : Int32)))])) _
          refine XS.icmpYes X15.here hx rfl (pc0 := 11) (pc' := 18) rfl (hb hby at_11) rfl (feq (by rw [hs14]; decide)).2 (by decide) (by decide) ?_
          show Steps p.tables e below (T15.setTop (mkF m 18 #[.val (.int p1), .val (.int (p1 &&& (3 : Int32))), .val (.ref w2), .unset] [])) _
          refine XS.iconst X15.here hx rfl (hb hby at_18) ?_
          show Steps p.tables e below (T15.setTop (mkF m 19 #[.val (.int p1), .val (.int (p1 &&& (3 : Int32))), .val (.ref w2), .unset] [(.int (0 : Int32))])) _
          refine XS.istoreN X15.here hx rfl (hb hby at_19) rfl (l' := #[.val (.int p1), .val (.int (p1 &&& (3 : Int32))), .val (.ref w2), .val (.int (0 : Int32))]) rfl ?_
          show Steps p.tables e below (T15.setTop (mkF m 20 #[.val (.int p1), .val (.int (p1 &&& (3 : Int32))), .val (.ref w2), .val (.int (0 : Int32))] [])) _
          refine XS.aloadN X15.here hx rfl (hb hby at_20) rfl rfl ?_
          show Steps p.tables e below (T15.setTop (mkF m 21 #[.val (.int p1), .val (.int (p1 &&& (3 : Int32))), .val (.ref w2), .val (.int (0 : Int32))] [(.ref w2)])) _
          refine st17.trans ?_
          show Steps p.tables e below (T17.setTop (mkF m 24 #[.val (.int p1), .val (.int (p1 &&& (3 : Int32))), .val (.ref w2), .val (.int (0 : Int32))] [(.int (0 : Int32))])) _
          refine XS.iloadN X17.here hx rfl (hb hby at_24) rfl ?_
          show Steps p.tables e below (T17.setTop (mkF m 25 #[.val (.int p1), .val (.int (p1 &&& (3 : Int32))), .val (.ref w2), .val (.int (0 : Int32))] [(.int (0 : Int32)), (.int (0 : Int32))])) _
          refine XS.icmpNo X17.here hx rfl (hb hby at_25) rfl (teq (by decide : (0 : Int32) = (0 : Int32))).2 ?_
          show Steps p.tables e below (T17.setTop (mkF m 28 #[.val (.int p1), .val (.int (p1 &&& (3 : Int32))), .val (.ref w2), .val (.int (0 : Int32))] [])) _
          refine XS.iconst X17.here hx rfl (hb hby at_28) ?_
          show Steps p.tables e below (T17.setTop (mkF m 29 #[.val (.int p1), .val (.int (p1 &&& (3 : Int32))), .val (.ref w2), .val (.int (0 : Int32))] [(.int (1 : Int32))])) _
          refine XS.goto X17.here hx rfl (pc0 := 29) (pc' := 33) rfl (hb hby at_29) (by decide) (by decide) ?_
          show Steps p.tables e below (T17.setTop (mkF m 33 #[.val (.int p1), .val (.int (p1 &&& (3 : Int32))), .val (.ref w2), .val (.int (0 : Int32))] [(.int (1 : Int32))])) _
          exact k)
        obtain ⟨fs, hr, hrun, hended, hW, hsame⟩ := X17.leave (v := some (.int (1 : Int32))) (fun h => by rw [Bd.returns] at h; cases h)
        refine ⟨_, _, pre19 _ ?_, hrun, hended, _, _, rfl, ?_, ⟨_, rfl⟩, hW, hsame.mono (by decide) (by decide)⟩
        · exact retN X17 hx (t := .boolean) Bd.returns (by simp) (hb hby at_33) hr
        · show Q_law Z p1 w0 w1 w2 w3 f0 f1 f2 wB h0 n0 _ T17.heap _
          rw [hq18]
          exact ⟨rfl, N17, rfl⟩
      · have hk3 : (p1 &&& (3 : Int32)) = (3 : Int32) := own_and3 p1 hs2 hs8 hs14
        obtain ⟨_, _, ⟨T20, L20, k20, n20⟩, -, X20, ⟨Lc20, hQ20, l20, y20, z20⟩, st20⟩ := Jvm.LawKit.callS X0 hx (y := (⟨"com/example/ebenezer/ebenezer/ledger/MovementKindBetweenAccountsPinLaw", "pick", "(I)Lcom/example/ebenezer/ebenezer/ledger/MovementKind;"⟩ : MethodName)) hown (mvT hZ (hw _ (List.mem_of_getElem? (i := 0) rfl))) (mvT hZ (hw _ (List.mem_of_getElem? (i := 1) rfl))) (mvT hZ (hw _ (List.mem_of_getElem? (i := 2) rfl))) (mvT hZ (hw _ (List.mem_of_getElem? (i := 3) rfl))) (by decide) (backOf (W := 0) (rm_pick l Z a0 hw [] (p1 &&& (3 : Int32)) w0 w1 w2 w3 w3 h0 n0 Z0 H0_S H1_S H2_S H3_S (fun q => absurd q hs2) (fun _ q => absurd q hs8) (fun _ _ q => absurd q hs14) (fun _ _ _ => rfl)) hZ (hw _ (List.mem_of_getElem? (i := 3) rfl)) (hw _ (List.mem_of_getElem? (i := 2) rfl)) (by decide) (by decide)) (g := (mkF m 5 #[.val (.int p1), .val (.int (p1 &&& (3 : Int32))), .unset, .unset] [(.int (p1 &&& (3 : Int32)))])) rfl (by rw [hml]; rfl) (argsL := [(.int (p1 &&& (3 : Int32)))]) (rest := []) (lenOf pd_0 rfl) rfl (by show 2 * 0 + _ ≤ _; exact Nat.le_of_eq rfl) (hb hby at_5) (fun _ _ => ⟨rfl, e0, (by decide : 0 + 0 ≤ _), (by decide : 0 + 0 ≤ _)⟩)
        dsimp only [Pt.U, Pt.locs, Pt.cells, Pt.slots] at X20 l20 y20 z20 st20 hQ20
        subst l20 y20 z20
        obtain ⟨rfl, N20q, hq21⟩ := hQ20
        have N20 := Fr.app N0 N20q
        obtain ⟨cq22, kq22, q22a, q22b, q22c⟩ := isOf hZ hq21 H7_E
        obtain ⟨_, _, ⟨T22, L22, k22, n22⟩, -, X22, ⟨Lc22, hQ22, l22, y22, z22⟩, st22⟩ := X20.virtualBack hx (y := (⟨"com/example/ebenezer/ebenezer/ledger/MovementKind", "betweenAccounts", "()Z"⟩ : MethodName)) (z := (⟨"com/example/ebenezer/ebenezer/ledger/MovementKind", "betweenAccounts", "()Z"⟩ : MethodName)) hown (mvT hZ (hw _ (List.mem_of_getElem? (i := 7) rfl))) (mvT hZ (hw _ (List.mem_of_getElem? (i := 8) rfl))) (notFace_of_selects (args := #[]) (mvT hZ (hw _ (List.mem_of_getElem? (i := 10) rfl)))) (mvT hZ (hw _ (List.mem_of_getElem? (i := 10) rfl))) (mvT hZ (hw _ (List.mem_of_getElem? (i := 9) rfl))) (by decide) (backOf (W := 0) (rm_bet l Z a0 hw [] w3 wB wB (1 : Int32) h0 n0 Z0 H12_F H8_S (fun _ => rfl) (fun q => absurd rfl q)) hZ (hw _ (List.mem_of_getElem? (i := 11) rfl)) (hw _ (List.mem_of_getElem? (i := 5) rfl)) (by decide) (by decide)) q22a q22c (g := (mkF m 21 #[.val (.int p1), .val (.int (p1 &&& (3 : Int32))), .val (.ref w3), .val (.int (1 : Int32))] [(.ref w3)])) rfl (by rw [hml]; rfl) (Steps.refl _) (argsL := []) (rest := []) (lenOf pd_1 rfl) rfl (by show 2 * 0 + _ ≤ _; exact Nat.le_of_eq rfl) (hb hby at_21) (fun _ _ => ⟨rfl, hq21, (by decide : 0 + 0 ≤ _), (by decide : 0 + 0 ≤ _)⟩)
        dsimp only [Pt.U, Pt.locs, Pt.cells, Pt.slots] at X22 l22 y22 z22 st22 hQ22
        subst l22 y22 z22
        obtain ⟨rfl, N22q, hq23⟩ := hQ22
        have N22 := Fr.app N20 N22q
        have pre24 := fun (t : State) (k : Steps p.tables e below (T22.setTop (mkF m 33 #[.val (.int p1), .val (.int (p1 &&& (3 : Int32))), .val (.ref w3), .val (.int (1 : Int32))] [(.int (1 : Int32))])) t) => pre1 t (by
          refine st20 _ ?_
          show Steps p.tables e below (T20.setTop (mkF m 8 #[.val (.int p1), .val (.int (p1 &&& (3 : Int32))), .unset, .unset] [(.ref w3)])) _
          refine XS.astoreN X20.here hx rfl (hb hby at_8) rfl rfl (l' := #[.val (.int p1), .val (.int (p1 &&& (3 : Int32))), .val (.ref w3), .unset]) rfl ?_
          show Steps p.tables e below (T20.setTop (mkF m 9 #[.val (.int p1), .val (.int (p1 &&& (3 : Int32))), .val (.ref w3), .unset] [])) _
          refine XS.iloadN X20.here hx rfl (hb hby at_9) rfl ?_
          show Steps p.tables e below (T20.setTop (mkF m 10 #[.val (.int p1), .val (.int (p1 &&& (3 : Int32))), .val (.ref w3), .unset] [(.int (p1 &&& (3 : Int32)))])) _
          refine XS.iconst X20.here hx rfl (hb hby at_10) ?_
          show Steps p.tables e below (T20.setTop (mkF m 11 #[.val (.int p1), .val (.int (p1 &&& (3 : Int32))), .val (.ref w3), .unset] [(.int (3 : Int32)), (.int (p1 &&& (3 : Int32)))])) _
          refine XS.icmpNo X20.here hx rfl (hb hby at_11) rfl (teq hk3).2 ?_
          show Steps p.tables e below (T20.setTop (mkF m 14 #[.val (.int p1), .val (.int (p1 &&& (3 : Int32))), .val (.ref w3), .unset] [])) _
          refine XS.iconst X20.here hx rfl (hb hby at_14) ?_
          show Steps p.tables e below (T20.setTop (mkF m 15 #[.val (.int p1), .val (.int (p1 &&& (3 : Int32))), .val (.ref w3), .unset] [(.int (1 : Int32))])) _
          refine XS.goto X20.here hx rfl (pc0 := 15) (pc' := 19) rfl (hb hby at_15) (by decide) (by decide) ?_
          show Steps p.tables e below (T20.setTop (mkF m 19 #[.val (.int p1), .val (.int (p1 &&& (3 : Int32))), .val (.ref w3), .unset] [(.int (1 : Int32))])) _
          refine XS.istoreN X20.here hx rfl (hb hby at_19) rfl (l' := #[.val (.int p1), .val (.int (p1 &&& (3 : Int32))), .val (.ref w3), .val (.int (1 : Int32))]) rfl ?_
          show Steps p.tables e below (T20.setTop (mkF m 20 #[.val (.int p1), .val (.int (p1 &&& (3 : Int32))), .val (.ref w3), .val (.int (1 : Int32))] [])) _
          refine XS.aloadN X20.here hx rfl (hb hby at_20) rfl rfl ?_
          show Steps p.tables e below (T20.setTop (mkF m 21 #[.val (.int p1), .val (.int (p1 &&& (3 : Int32))), .val (.ref w3), .val (.int (1 : Int32))] [(.ref w3)])) _
          refine st22.trans ?_
          show Steps p.tables e below (T22.setTop (mkF m 24 #[.val (.int p1), .val (.int (p1 &&& (3 : Int32))), .val (.ref w3), .val (.int (1 : Int32))] [(.int (1 : Int32))])) _
          refine XS.iloadN X22.here hx rfl (hb hby at_24) rfl ?_
          show Steps p.tables e below (T22.setTop (mkF m 25 #[.val (.int p1), .val (.int (p1 &&& (3 : Int32))), .val (.ref w3), .val (.int (1 : Int32))] [(.int (1 : Int32)), (.int (1 : Int32))])) _
          refine XS.icmpNo X22.here hx rfl (hb hby at_25) rfl (teq (by decide : (1 : Int32) = (1 : Int32))).2 ?_
          show Steps p.tables e below (T22.setTop (mkF m 28 #[.val (.int p1), .val (.int (p1 &&& (3 : Int32))), .val (.ref w3), .val (.int (1 : Int32))] [])) _
          refine XS.iconst X22.here hx rfl (hb hby at_28) ?_
          show Steps p.tables e below (T22.setTop (mkF m 29 #[.val (.int p1), .val (.int (p1 &&& (3 : Int32))), .val (.ref w3), .val (.int (1 : Int32))] [(.int (1 : Int32))])) _
          refine XS.goto X22.here hx rfl (pc0 := 29) (pc' := 33) rfl (hb hby at_29) (by decide) (by decide) ?_
          show Steps p.tables e below (T22.setTop (mkF m 33 #[.val (.int p1), .val (.int (p1 &&& (3 : Int32))), .val (.ref w3), .val (.int (1 : Int32))] [(.int (1 : Int32))])) _
          exact k)
        obtain ⟨fs, hr, hrun, hended, hW, hsame⟩ := X22.leave (v := some (.int (1 : Int32))) (fun h => by rw [Bd.returns] at h; cases h)
        refine ⟨_, _, pre24 _ ?_, hrun, hended, _, _, rfl, ?_, ⟨_, rfl⟩, hW, hsame.mono (by decide) (by decide)⟩
        · exact retN X22 hx (t := .boolean) Bd.returns (by simp) (hb hby at_33) hr
        · show Q_law Z p1 w0 w1 w2 w3 f0 f1 f2 wB h0 n0 _ T22.heap _
          rw [hq23]
          exact ⟨rfl, N22, rfl⟩

set_option maxRecDepth 65536 in
set_option maxHeartbeats 40000000 in
theorem comes_1 {Post : Tables → Env → Array Value → State → Outcome → State → Prop} (hpost : ∀ tb e args s v u, (limb_1_1.after args s (.returned v) u = true ∧ limb_1_2.after args s (.returned v) u = true ∧ True) → FrameEnd s (.returned v) u (Jvm.fieldLocs frame_1_writes args s ++ Jvm.arrayLocs frame_1_arrays args s ++ Jvm.staticLocs frame_1_statics s) 0 0 → Post tb e args s (.returned v) u) :
    ArmFor flags0 classFile x code maxLocals ret World_1 tables_1 room_1 Calls_1 rest_1 Pre_1 Post := by
  intro l hfl _ _ p e ha hc hk s m args below hf hA hF happ hP
  obtain ⟨hcalls, hrest, hpre⟩ := hP
  obtain ⟨-, -, -, hnamed, -, -, -, hat⟩ := (Spec.applies_iff hf).mp happ
  obtain ⟨hg, hn⟩ := and_e (Cond.before_iff.mp (show (Jvm.Cond.and given_1 narrow_1).before args s = true from hpre))
  obtain ⟨g1, g2⟩ := and_e hg
  obtain ⟨g3, g4⟩ := and_e hn
  obtain ⟨g5, g6⟩ := and_e g4
  obtain ⟨g7, g8⟩ := and_e g6
  obtain ⟨g9, g10⟩ := and_e g8
  obtain ⟨g11, g12⟩ := and_e g10
  obtain ⟨g13, g14⟩ := and_e g12
  obtain ⟨g15, g16⟩ := and_e g14
  obtain ⟨g17, g18⟩ := and_e g16
  obtain ⟨g19, g20⟩ := and_e g18
  obtain ⟨g21, g22⟩ := and_e g20
  obtain ⟨g23, g24⟩ := and_e g22
  obtain ⟨g25, g26⟩ := and_e g24
  obtain ⟨g27, g28⟩ := and_e g26
  obtain ⟨w0, rfl⟩ : ∃ w0 : Value, args = #[w0] := by
    have hs : args.size = 1 := by simpa [Cond.value, given_1] using g1
    obtain ⟨L⟩ := args
    match L, hs with
    | [w0], _ => exact ⟨w0, rfl⟩
  have hw := fun d (hd : d ∈ tables_1) => atoms_spec (ws := Jvm.Cond.code x code maxLocals ret :: tables_1) hat d (List.mem_cons_of_mem _ hd)
  have hfit : Fit s := fun {y c} hc i hi => by
    obtain ⟨ha, rfl⟩ := Array.getElem?_eq_some_iff.mp hc
    have q := List.all_eq_true.mp ((Array.all_eq_true_iff_forall_mem.mp hF) _ (Array.getElem_mem ha)) i (List.mem_range.mpr hi)
    simpa [Array.getElem?_eq_getElem hi] using q
  obtain ⟨i0, ei0⟩ := is_v g2
  obtain rfl : w0 = (.int i0) := Option.some.inj ei0
  obtain ⟨z_MovementKind_CREDIT, ez_MovementKind_CREDIT⟩ := exa_v g3
  have S_z_MovementKind_CREDIT := Sta.start (Z := s) ez_MovementKind_CREDIT (Or.inr ⟨(hw _ (List.mem_of_getElem? (i := 5) rfl)), (hw _ (List.mem_of_getElem? (i := 6) rfl))⟩)
  have E_z_MovementKind_CREDIT := Exa.start ez_MovementKind_CREDIT g3
  obtain ⟨z_MovementKind_Flow_IN, ez_MovementKind_Flow_IN⟩ := exa_v g5
  have S_z_MovementKind_Flow_IN := Sta.start (Z := s) ez_MovementKind_Flow_IN (Or.inr ⟨(hw _ (List.mem_of_getElem? (i := 14) rfl)), (hw _ (List.mem_of_getElem? (i := 15) rfl))⟩)
  have E_z_MovementKind_Flow_IN := Exa.start ez_MovementKind_Flow_IN g5
  obtain ⟨z_MovementKind_Flow_BETWEEN, ez_MovementKind_Flow_BETWEEN⟩ := exa_v g9
  have S_z_MovementKind_Flow_BETWEEN := Sta.start (Z := s) ez_MovementKind_Flow_BETWEEN (Or.inr ⟨(hw _ (List.mem_of_getElem? (i := 14) rfl)), (hw _ (List.mem_of_getElem? (i := 17) rfl))⟩)
  have E_z_MovementKind_Flow_BETWEEN := Exa.start ez_MovementKind_Flow_BETWEEN g9
  obtain ⟨z_MovementKind_TRANSFER, ez_MovementKind_TRANSFER⟩ := exa_v g15
  have S_z_MovementKind_TRANSFER := Sta.start (Z := s) ez_MovementKind_TRANSFER (Or.inr ⟨(hw _ (List.mem_of_getElem? (i := 5) rfl)), (hw _ (List.mem_of_getElem? (i := 19) rfl))⟩)
  have E_z_MovementKind_TRANSFER := Exa.start ez_MovementKind_TRANSFER g15
  obtain ⟨z_MovementKind_REFUND, ez_MovementKind_REFUND⟩ := exa_v g19
  have S_z_MovementKind_REFUND := Sta.start (Z := s) ez_MovementKind_REFUND (Or.inr ⟨(hw _ (List.mem_of_getElem? (i := 5) rfl)), (hw _ (List.mem_of_getElem? (i := 21) rfl))⟩)
  have E_z_MovementKind_REFUND := Exa.start ez_MovementKind_REFUND g19
  obtain ⟨z_MovementKind_DEBIT, ez_MovementKind_DEBIT⟩ := exa_v g23
  have S_z_MovementKind_DEBIT := Sta.start (Z := s) ez_MovementKind_DEBIT (Or.inr ⟨(hw _ (List.mem_of_getElem? (i := 5) rfl)), (hw _ (List.mem_of_getElem? (i := 23) rfl))⟩)
  have E_z_MovementKind_DEBIT := Exa.start ez_MovementKind_DEBIT g23
  obtain ⟨z_MovementKind_Flow_OUT, ez_MovementKind_Flow_OUT⟩ := exa_v g25
  have S_z_MovementKind_Flow_OUT := Sta.start (Z := s) ez_MovementKind_Flow_OUT (Or.inr ⟨(hw _ (List.mem_of_getElem? (i := 14) rfl)), (hw _ (List.mem_of_getElem? (i := 24) rfl))⟩)
  have E_z_MovementKind_Flow_OUT := Exa.start ez_MovementKind_Flow_OUT g25
  have F_z_MovementKind_CREDIT_flow := own_fld_ref ez_MovementKind_CREDIT ez_MovementKind_Flow_IN g7
  have F_z_MovementKind_Flow_IN_ordinal := own_fld_eq ez_MovementKind_Flow_IN g11
  have F_z_MovementKind_Flow_BETWEEN_ordinal := own_fld_eq ez_MovementKind_Flow_BETWEEN g13
  have F_z_MovementKind_TRANSFER_flow := own_fld_ref ez_MovementKind_TRANSFER ez_MovementKind_Flow_BETWEEN g17
  have F_z_MovementKind_REFUND_flow := own_fld_ref ez_MovementKind_REFUND ez_MovementKind_Flow_IN g21
  have F_z_MovementKind_DEBIT_flow := own_fld_ref ez_MovementKind_DEBIT ez_MovementKind_Flow_OUT g27
  have F_z_MovementKind_Flow_OUT_ordinal := own_fld_eq ez_MovementKind_Flow_OUT g28
  have ne_z_MovementKind_Flow_IN_z_MovementKind_Flow_BETWEEN : z_MovementKind_Flow_IN ≠ z_MovementKind_Flow_BETWEEN := Fld.ne F_z_MovementKind_Flow_IN_ordinal F_z_MovementKind_Flow_BETWEEN_ordinal (by simp)
  have ne_z_MovementKind_Flow_IN_z_MovementKind_Flow_OUT : z_MovementKind_Flow_IN ≠ z_MovementKind_Flow_OUT := Fld.ne F_z_MovementKind_Flow_IN_ordinal F_z_MovementKind_Flow_OUT_ordinal (by simp)
  have ne_z_MovementKind_Flow_BETWEEN_z_MovementKind_Flow_OUT : z_MovementKind_Flow_BETWEEN ≠ z_MovementKind_Flow_OUT := Fld.ne F_z_MovementKind_Flow_BETWEEN_ordinal F_z_MovementKind_Flow_OUT_ordinal (by simp)
  obtain ⟨n, o, h1, h2, h3, _, L, rfl, ⟨rfl, N, -⟩, hq⟩ := rm_law l s _ hw tables_1 i0 z_MovementKind_CREDIT z_MovementKind_DEBIT z_MovementKind_REFUND z_MovementKind_TRANSFER z_MovementKind_Flow_IN z_MovementKind_Flow_OUT z_MovementKind_Flow_IN z_MovementKind_Flow_BETWEEN s.heap s.heap.size (Nat.le_refl _) S_z_MovementKind_CREDIT S_z_MovementKind_DEBIT S_z_MovementKind_REFUND S_z_MovementKind_TRANSFER E_z_MovementKind_CREDIT E_z_MovementKind_DEBIT E_z_MovementKind_REFUND E_z_MovementKind_TRANSFER S_z_MovementKind_Flow_BETWEEN F_z_MovementKind_CREDIT_flow F_z_MovementKind_DEBIT_flow F_z_MovementKind_REFUND_flow F_z_MovementKind_TRANSFER_flow ne_z_MovementKind_Flow_IN_z_MovementKind_Flow_BETWEEN (Ne.symm ne_z_MovementKind_Flow_BETWEEN_z_MovementKind_Flow_OUT) ne_z_MovementKind_Flow_IN_z_MovementKind_Flow_BETWEEN p e ha hc hk s m _ below hf ((Spec.applies_iff_loose hf).mp happ).1 ⟨rfl, State.Warmed39.refl s, rfl⟩ trivial
  refine ⟨n, _, h1, h2, h3, hpost _ _ _ _ _ _ ⟨Cond.after_iff.mpr rfl, Cond.after_iff.mpr (eq_i res_at (Term.int_eval (1)) rfl), trivial⟩ ⟨hq.1, hq.2.1, (hq.2.2.sift fun y hy => Or.inr (N y hy)).mono (by decide) (by decide)⟩⟩
theorem main_1_1 : Claimed_1_1 := comes_1 fun _ _ _ _ _ _ h hF => ⟨h.1, hF⟩
theorem main_1_2 : Claimed_1_2 := comes_1 fun _ _ _ _ _ _ h hF => ⟨h.2.1, hF⟩
end Jvm.Pilot.@@N@@
namespace Jvm.Pilot.@@N@@
open Jvm Jvm.ClassFile Sem Op Lib Jvm.Free Jvm.Stand Jvm.Pilot.@@N@@.Jvm.D
/-! MADE BY PROGRAM (witnessworld.py) out of the Statement's table words and the real class files: 13 classes; the members and pool entries that the words name. The judged class is class 1, her method 2. -/
namespace start1
open Jvm.ClassFile
def u (s : String) : CpInfo := .utf8 (stringToUtf16 s)
/-- a pool by its gaps: so many unusable entries, then the entry; so many at the end -/
def gap : Nat → List CpInfo → List CpInfo
  | 0, r => r
  | n + 1, r => .unusable :: gap n r
def poolList (es : List (Nat × CpInfo)) (last : Nat) : List CpInfo := es.foldr (fun e r => gap e.1 (e.2 :: r)) (gap last [])
def pool (es : List (Nat × CpInfo)) (last : Nat) : Array CpInfo := ⟨poolList es last⟩
def fileOf (pool : Array CpInfo) (this : Nat) (attrs : Array Attribute := #[]) (ms : Array MethodInfo := #[]) (fl : Nat := 33) (sup : Nat := 0) (ifs : Array Nat := #[]) (fds : Array FieldInfo := #[]) : ClassFile where
  minorVersion := 0
  majorVersion := 65
  constantPool := pool
  accessFlags := fl
  thisClass := this
  superClass := sup
  interfaces := ifs
  fields := fds
  methods := ms
  attributes := attrs
def plain (name : String) (sup : Option ClassId) : Class where
  name := name
  kind := .ordinary
  loader := none
  accessFlags := 33
  super := sup
  interfaces := #[]
  cf := none
  fields := #[]
  methods := #[]
  instanceTypes := #[]
  staticTypes := #[]
  resolved := #[]
  callSites := []
  init := .initialized
  statics := none
  mirror := none

def pool0 : Array CpInfo := pool [(5, u "<init>"), (0, u "()V"), (1, .class_ 10), (1, u "java/lang/Object")] 113

def k0m0 : Method := { name := "<init>", desc := "()V", sig := { parameters := [], returnType := none }, accessFlags := 1, code := none }
/-- java/lang/Object -/
def k0 : Class := { plain "java/lang/Object" none with
  accessFlags := 33
  interfaces := #[]
  cf := some (fileOf pool0 8 #[] #[{ accessFlags := 1, nameIndex := 5, descriptorIndex := 6, attributes := #[] }] 33 0 #[] #[])
  fields := #[]
  methods := #[k0m0]
  instanceTypes := #[]
  staticTypes := #[]
  resolved := Array.replicate 124 none
  statics := none }

def pool1 : Array CpInfo := pool [(2, .class_ 4), (1, u "java/lang/Object"), (0, u "<init>"), (0, u "()V"), (0, .fieldref 8 9), (0, .class_ 10), (0, .nameAndType 11 12), (0, u "com/example/ebenezer/ebenezer/ledger/MovementKind"), (0, u "CREDIT"), (0, u "Lcom/example/ebenezer/ebenezer/ledger/MovementKind;"), (0, .fieldref 8 14), (0, .nameAndType 15 12), (0, u "DEBIT"), (0, .fieldref 8 17), (0, .nameAndType 18 12), (0, u "REFUND"), (0, .fieldref 8 20), (0, .nameAndType 21 12), (0, u "TRANSFER"), (0, .methodref 23 24), (0, .class_ 25), (0, .nameAndType 26 27), (0, u "com/example/ebenezer/ebenezer/ledger/MovementKindBetweenAccountsPinLaw"), (0, u "pick"), (0, u "(I)Lcom/example/ebenezer/ebenezer/ledger/MovementKind;"), (0, .methodref 8 29), (0, .nameAndType 30 31), (0, u "betweenAccounts"), (0, u "()Z"), (3, u "law"), (0, u "(I)Z")] 2

def k1m0 : Method := { name := "<init>", desc := "()V", sig := { parameters := [], returnType := none }, accessFlags := 2, code := none }
def k1c1 : Code := { maxStack := 2, maxLocals := 1, code := method_2_code, exceptionTable := #[], attributes := #[] }
def k1m1 : Method := { name := "pick", desc := "(I)Lcom/example/ebenezer/ebenezer/ledger/MovementKind;", sig := { parameters := [.int], returnType := some (.object "com/example/ebenezer/ebenezer/ledger/MovementKind") }, accessFlags := 10, code := some k1c1 }
def k1c2 : Code := { maxStack := 2, maxLocals := 4, code := code, exceptionTable := #[], attributes := #[] }
def k1m2 : Method := { name := "law", desc := "(I)Z", sig := { parameters := [.int], returnType := some .boolean }, accessFlags := 9, code := some k1c2 }
/-- com/example/ebenezer/ebenezer/ledger/MovementKindBetweenAccountsPinLaw -/
def k1 : Class := { plain "com/example/ebenezer/ebenezer/ledger/MovementKindBetweenAccountsPinLaw" (some 0) with
  accessFlags := 49
  interfaces := #[]
  cf := some (fileOf pool1 23 #[] #[{ accessFlags := 2, nameIndex := 5, descriptorIndex := 6, attributes := #[] }, { accessFlags := 10, nameIndex := 26, descriptorIndex := 27, attributes := #[] }, { accessFlags := 9, nameIndex := 35, descriptorIndex := 36, attributes := #[] }] 49 2 #[] #[])
  fields := #[]
  methods := #[k1m0, k1m1, k1m2]
  instanceTypes := #[]
  staticTypes := #[]
  resolved := Array.replicate 39 none
  statics := none }

def pool2 : Array CpInfo := pool [(1, .class_ 2), (0, u "java/lang/constant/Constable"), (0, .class_ 4), (0, u "java/lang/Object")] 6

/-- java/lang/constant/Constable -/
def k2 : Class := { plain "java/lang/constant/Constable" (some 0) with
  accessFlags := 1537
  interfaces := #[]
  cf := some (fileOf pool2 1 #[] #[] 1537 3 #[] #[])
  fields := #[]
  methods := #[]
  instanceTypes := #[]
  staticTypes := #[]
  resolved := Array.replicate 11 none
  statics := none }

def pool3 : Array CpInfo := pool [(1, .class_ 2), (0, u "java/lang/Comparable"), (0, .class_ 4), (0, u "java/lang/Object")] 7

/-- java/lang/Comparable -/
def k3 : Class := { plain "java/lang/Comparable" (some 0) with
  accessFlags := 1537
  interfaces := #[]
  cf := some (fileOf pool3 1 #[] #[] 1537 3 #[] #[])
  fields := #[]
  methods := #[]
  instanceTypes := #[]
  staticTypes := #[]
  resolved := Array.replicate 12 none
  statics := none }

def pool4 : Array CpInfo := pool [(1, .class_ 2), (0, u "java/io/Serializable"), (0, .class_ 4), (0, u "java/lang/Object")] 2

/-- java/io/Serializable -/
def k4 : Class := { plain "java/io/Serializable" (some 0) with
  accessFlags := 1537
  interfaces := #[]
  cf := some (fileOf pool4 1 #[] #[] 1537 3 #[] #[])
  fields := #[]
  methods := #[]
  instanceTypes := #[]
  staticTypes := #[]
  resolved := Array.replicate 7 none
  statics := none }

def pool5 : Array CpInfo := pool [(2, .class_ 4), (1, u "java/lang/Enum"), (0, u "name"), (0, u "Ljava/lang/String;"), (2, u "ordinal"), (0, u "I"), (1, .class_ 14), (1, u "java/lang/Object"), (4, u "hash"), (86, .class_ 108), (1, u "java/lang/Enum$EnumDesc"), (2, .class_ 112), (0, u "java/lang/constant/Constable"), (0, .class_ 114), (0, u "java/lang/Comparable"), (0, .class_ 116), (0, u "java/io/Serializable")] 87

/-- java/lang/Enum -/
def k5 : Class := { plain "java/lang/Enum" (some 0) with
  accessFlags := 1057
  interfaces := #[2, 3, 4]
  cf := some (fileOf pool5 2 #[.nestMembers #[106]] #[] 1057 12 #[111, 113, 115] #[{ accessFlags := 18, nameIndex := 5, descriptorIndex := 6, attributes := #[] }, { accessFlags := 18, nameIndex := 9, descriptorIndex := 10, attributes := #[] }, { accessFlags := 2, nameIndex := 19, descriptorIndex := 10, attributes := #[] }])
  fields := #[{ name := "name", type := (.object "java/lang/String"), accessFlags := 18, slot := 0, constantValue := 0 }, { name := "ordinal", type := .int, accessFlags := 18, slot := 1, constantValue := 0 }, { name := "hash", type := .int, accessFlags := 2, slot := 2, constantValue := 0 }]
  methods := #[]
  instanceTypes := #[(.object "java/lang/String"), .int, .int]
  staticTypes := #[]
  resolved := Array.replicate 204 none
  statics := none }

def pool6 : Array CpInfo := pool [(1, .class_ 2), (0, u "com/example/ebenezer/ebenezer/ledger/MovementKind"), (2, u "CREDIT"), (0, u "Lcom/example/ebenezer/ebenezer/ledger/MovementKind;"), (2, u "DEBIT"), (2, u "REFUND"), (2, u "TRANSFER"), (2, u "$VALUES"), (0, u "[Lcom/example/ebenezer/ebenezer/ledger/MovementKind;"), (6, .class_ 28), (1, u "java/lang/Enum"), (6, .fieldref 1 36), (0, .nameAndType 37 38), (0, u "flow"), (0, u "Lcom/example/ebenezer/ebenezer/ledger/MovementKind$Flow;"), (38, .class_ 79), (1, u "com/example/ebenezer/ebenezer/ledger/MovementKind$Flow"), (7, .fieldref 77 88), (0, .nameAndType 89 38), (0, u "BETWEEN"), (2, u "betweenAccounts"), (0, u "()Z")] 41

def k6c0 : Code := { maxStack := 2, maxLocals := 1, code := prog_29_method_7_code, exceptionTable := #[], attributes := #[] }
def k6m0 : Method := { name := "betweenAccounts", desc := "()Z", sig := { parameters := [], returnType := some .boolean }, accessFlags := 0, code := some k6c0 }
/-- com/example/ebenezer/ebenezer/ledger/MovementKind -/
def k6 : Class := { plain "com/example/ebenezer/ebenezer/ledger/MovementKind" (some 5) with
  accessFlags := 16433
  interfaces := #[]
  cf := some (fileOf pool6 1 #[.nestMembers #[77]] #[{ accessFlags := 0, nameIndex := 92, descriptorIndex := 93, attributes := #[] }] 16433 26 #[] #[{ accessFlags := 16409, nameIndex := 5, descriptorIndex := 6, attributes := #[] }, { accessFlags := 16409, nameIndex := 9, descriptorIndex := 6, attributes := #[] }, { accessFlags := 16409, nameIndex := 12, descriptorIndex := 6, attributes := #[] }, { accessFlags := 16409, nameIndex := 15, descriptorIndex := 6, attributes := #[] }, { accessFlags := 18, nameIndex := 37, descriptorIndex := 38, attributes := #[] }, { accessFlags := 4122, nameIndex := 18, descriptorIndex := 19, attributes := #[] }])
  fields := #[{ name := "CREDIT", type := (.object "com/example/ebenezer/ebenezer/ledger/MovementKind"), accessFlags := 16409, slot := 0, constantValue := 0 }, { name := "DEBIT", type := (.object "com/example/ebenezer/ebenezer/ledger/MovementKind"), accessFlags := 16409, slot := 1, constantValue := 0 }, { name := "REFUND", type := (.object "com/example/ebenezer/ebenezer/ledger/MovementKind"), accessFlags := 16409, slot := 2, constantValue := 0 }, { name := "TRANSFER", type := (.object "com/example/ebenezer/ebenezer/ledger/MovementKind"), accessFlags := 16409, slot := 3, constantValue := 0 }, { name := "flow", type := (.object "com/example/ebenezer/ebenezer/ledger/MovementKind$Flow"), accessFlags := 18, slot := 3, constantValue := 0 }, { name := "$VALUES", type := (.array (.object "com/example/ebenezer/ebenezer/ledger/MovementKind")), accessFlags := 4122, slot := 4, constantValue := 0 }]
  methods := #[k6m0]
  instanceTypes := #[(.object "java/lang/String"), .int, .int, (.object "com/example/ebenezer/ebenezer/ledger/MovementKind$Flow")]
  staticTypes := #[(.object "com/example/ebenezer/ebenezer/ledger/MovementKind"), (.object "com/example/ebenezer/ebenezer/ledger/MovementKind"), (.object "com/example/ebenezer/ebenezer/ledger/MovementKind"), (.object "com/example/ebenezer/ebenezer/ledger/MovementKind"), (.array (.object "com/example/ebenezer/ebenezer/ledger/MovementKind"))]
  resolved := Array.replicate 135 none
  statics := some 0 }

def pool7 : Array CpInfo := pool [(1, .class_ 2), (0, u "com/example/ebenezer/ebenezer/ledger/MovementKind$Flow"), (2, u "IN"), (0, u "Lcom/example/ebenezer/ebenezer/ledger/MovementKind$Flow;"), (2, u "OUT"), (2, u "BETWEEN"), (2, u "$VALUES"), (0, u "[Lcom/example/ebenezer/ebenezer/ledger/MovementKind$Flow;"), (6, .class_ 25), (1, u "java/lang/Enum"), (26, .class_ 53), (0, u "com/example/ebenezer/ebenezer/ledger/MovementKind")] 2

/-- com/example/ebenezer/ebenezer/ledger/MovementKind$Flow -/
def k7 : Class := { plain "com/example/ebenezer/ebenezer/ledger/MovementKind$Flow" (some 5) with
  accessFlags := 16432
  interfaces := #[]
  cf := some (fileOf pool7 1 #[.nestHost 52] #[] 16432 23 #[] #[{ accessFlags := 16409, nameIndex := 5, descriptorIndex := 6, attributes := #[] }, { accessFlags := 16409, nameIndex := 9, descriptorIndex := 6, attributes := #[] }, { accessFlags := 16409, nameIndex := 12, descriptorIndex := 6, attributes := #[] }, { accessFlags := 4122, nameIndex := 15, descriptorIndex := 16, attributes := #[] }])
  fields := #[{ name := "IN", type := (.object "com/example/ebenezer/ebenezer/ledger/MovementKind$Flow"), accessFlags := 16409, slot := 0, constantValue := 0 }, { name := "OUT", type := (.object "com/example/ebenezer/ebenezer/ledger/MovementKind$Flow"), accessFlags := 16409, slot := 1, constantValue := 0 }, { name := "BETWEEN", type := (.object "com/example/ebenezer/ebenezer/ledger/MovementKind$Flow"), accessFlags := 16409, slot := 2, constantValue := 0 }, { name := "$VALUES", type := (.array (.object "com/example/ebenezer/ebenezer/ledger/MovementKind$Flow")), accessFlags := 4122, slot := 3, constantValue := 0 }]
  methods := #[]
  instanceTypes := #[(.object "java/lang/String"), .int, .int]
  staticTypes := #[(.object "com/example/ebenezer/ebenezer/ledger/MovementKind$Flow"), (.object "com/example/ebenezer/ebenezer/ledger/MovementKind$Flow"), (.object "com/example/ebenezer/ebenezer/ledger/MovementKind$Flow"), (.array (.object "com/example/ebenezer/ebenezer/ledger/MovementKind$Flow"))]
  resolved := Array.replicate 56 none
  statics := some 1 }

def pool8 : Array CpInfo := pool [(1, u "java/lang/Cloneable"), (0, .class_ 1), (0, u "java/lang/Object"), (0, .class_ 3)] 3

/-- java/lang/Cloneable -/
def k8 : Class := { plain "java/lang/Cloneable" (some 0) with
  accessFlags := 1537
  interfaces := #[]
  cf := some (fileOf pool8 2 #[] #[] 1537 4 #[] #[])
  fields := #[]
  methods := #[]
  instanceTypes := #[]
  staticTypes := #[]
  resolved := Array.replicate 8 none
  statics := none }

/-- the primitive byte -/
def k9 : Class := { plain "byte" none with kind := .primitive 'B', accessFlags := 0x411 }
/-- [B -/
def k10 : Class := { plain "[B" (some 0) with kind := .array 9 .byte, interfaces := #[8, 4], accessFlags := 1041 }

/-- the primitive int -/
def k11 : Class := { plain "int" none with kind := .primitive 'I', accessFlags := 0x411 }
/-- [I -/
def k12 : Class := { plain "[I" (some 0) with kind := .array 11 .int, interfaces := #[8, 4], accessFlags := 1041 }

def heap : Heap := #[{ cls := 6, slots := #[.ref 2, .ref 7, .ref 6, .ref 5, .null], vm := .statics 6 },
  { cls := 7, slots := #[.ref 3, .ref 8, .ref 4, .null], vm := .statics 7 },
  { cls := 6, slots := #[.null, .int 0, .int 0, .ref 3], vm := .none },
  { cls := 7, slots := #[.null, .int 0, .int 0], vm := .none },
  { cls := 7, slots := #[.null, .int 2, .int 0], vm := .none },
  { cls := 6, slots := #[.null, .int 0, .int 0, .ref 4], vm := .none },
  { cls := 6, slots := #[.null, .int 0, .int 0, .ref 3], vm := .none },
  { cls := 6, slots := #[.null, .int 0, .int 0, .ref 8], vm := .none },
  { cls := 7, slots := #[.null, .int 1, .int 0], vm := .none }]
def classes : Array Class := #[k0, k1, k2, k3, k4, k5, k6, k7, k8, k9, k10, k11, k12]
def interned : List (Array UInt16 × Addr) := []
def slotsUsed : Nat := 34
def theMethod : MethodId := ⟨1, 2⟩
def args0 : Array Value := #[.int 5]
def aboutOver (below : List Frame) : State where
  vm := { classes := classes, interned := interned.toArray }
  heap := heap
  slotsUsed := slotsUsed
  threads := #[{ frames := .invoking theMethod args0 :: below }]
def below0 : List Frame := [.native { method := ⟨0, 0⟩, args := #[] }]
def about1 : State := aboutOver below0
def p0 : Program := .bare "" "" ""
def e0 : Env := launch0.env 0 0 0
theorem w_frames : about1.frames = Frame.invoking theMethod args0 :: below0 := rfl
set_option maxRecDepth 65536 in
theorem w_args : argsFit about1.vm theMethod args0 = true := by decide +kernel
set_option maxRecDepth 65536 in
theorem w_heap : heapFits about1 = true := by decide +kernel
set_option maxRecDepth 65536 in
theorem w_runnable : about1.curStatus? = some .runnable := by decide +kernel
set_option maxRecDepth 65536 in
theorem w_alone : about1.alone = true := by decide +kernel
set_option maxRecDepth 65536 in
theorem w_named : about1.methodNamed? x = some theMethod := by decide +kernel
set_option maxRecDepth 65536 in
theorem w_hears : about1.hears theMethod below0 = true := by decide +kernel
set_option maxRecDepth 65536 in
theorem w_ripe : about1.ripe theMethod args0 below0 = true := by decide +kernel
theorem w_running : about1.status = .running := rfl
set_option maxRecDepth 65536 in
theorem w_room : about1.hasRoom e0.platform room_1 = true :=
  launch0.hasRoom_least _ room_1 (by decide +kernel) (by decide +kernel) (by decide +kernel) (by decide +kernel) (by decide +kernel) (by decide +kernel)
theorem allAtoms_all (ts : List Jvm.Cond) (a : Array Jvm.Value) (st : Jvm.State) : (allAtoms ts).before a st = ts.all (fun c => c.before a st) := by
  induction ts with
  | nil => rfl
  | cons c t ih =>
    show (Jvm.Cond.and c (allAtoms t)).before a st = _
    rw [Jvm.Cond.before_and, ih, List.all_cons]
def words1 : List Jvm.Cond := Jvm.Cond.code x code maxLocals ret :: tables_1
/-- a 'code' word, met by the world's own term for the bytes: nothing is compared byte by byte -/
theorem code_word {y : MethodName} {bytes : ByteArray} {mx : Nat} {rt : Option FieldType} {a : Array Value} {s : State} {m : MethodId} {meth : Method} {c : Code} (h1 : s.methodNamed? y = some m) (h2 : s.vm.method? m = some meth) (h3 : meth.code = some c) (h4 : c.code = bytes)
    (h5 : (c.maxLocals == mx && c.exceptionTable.isEmpty && decide (c.maxStack ≤ mostOperands) && decide (meth.sig.returnType = rt) && !meth.locks && decide (parseMethodDescriptor y.desc = some meth.sig)) = true) : (Jvm.Cond.code y bytes mx rt).before a s = true := by
  simp only [Bool.and_eq_true, beq_iff_eq, Bool.not_eq_true', decide_eq_true_eq] at h5
  obtain ⟨⟨⟨⟨⟨g1, g2⟩, g3⟩, g4⟩, g5⟩, g6⟩ := h5
  simp [Cond.before, Cond.holds, Cond.value, h1, h2, h3, h4, g1, g2, g3, g4, g5, g6]
def isCode : Jvm.Cond → Bool
  | .code _ _ _ _ => true
  | _ => false
theorem all_split {L : List Jvm.Cond} {P : Jvm.Cond → Bool} (h1 : L.all (fun c => isCode c || P c) = true) (h2 : ∀ c ∈ L.filter isCode, P c = true) : L.all P = true := by
  refine List.all_eq_true.mpr fun c hc => ?_
  have h := List.all_eq_true.mp h1 c hc
  rcases Bool.eq_false_or_eq_true (isCode c) with hi | hi
  · exact h2 c (List.mem_filter.mpr ⟨hc, hi⟩)
  · simpa [hi] using h
set_option maxRecDepth 65536 in
theorem w_c0 : (Jvm.Cond.code x code maxLocals ret).before args0 about1 = true := code_word (m := ⟨1, 2⟩) (meth := k1m2) (c := k1c2) (by decide +kernel) rfl rfl rfl (by decide +kernel)
set_option maxRecDepth 65536 in
theorem w_c1 : (Jvm.Cond.code ({ cls := "com/example/ebenezer/ebenezer/ledger/MovementKindBetweenAccountsPinLaw", name := "pick", desc := "(I)Lcom/example/ebenezer/ebenezer/ledger/MovementKind;" } : Jvm.MethodName) method_2_code (1 : Nat) (Option.some (Jvm.ClassFile.FieldType.object "com/example/ebenezer/ebenezer/ledger/MovementKind"))).before args0 about1 = true := code_word (m := ⟨1, 1⟩) (meth := k1m1) (c := k1c1) (by decide +kernel) rfl rfl rfl (by decide +kernel)
set_option maxRecDepth 65536 in
theorem w_c2 : (Jvm.Cond.code ({ cls := "com/example/ebenezer/ebenezer/ledger/MovementKind", name := "betweenAccounts", desc := "()Z" } : Jvm.MethodName) prog_29_method_7_code (1 : Nat) (Option.some Jvm.ClassFile.FieldType.boolean)).before args0 about1 = true := code_word (m := ⟨6, 0⟩) (meth := k6m0) (c := k6c0) (by decide +kernel) rfl rfl rfl (by decide +kernel)
def codes1 : List Jvm.Cond := [Jvm.Cond.code x code maxLocals ret, Jvm.Cond.code ({ cls := "com/example/ebenezer/ebenezer/ledger/MovementKindBetweenAccountsPinLaw", name := "pick", desc := "(I)Lcom/example/ebenezer/ebenezer/ledger/MovementKind;" } : Jvm.MethodName) method_2_code (1 : Nat) (Option.some (Jvm.ClassFile.FieldType.object "com/example/ebenezer/ebenezer/ledger/MovementKind")), Jvm.Cond.code ({ cls := "com/example/ebenezer/ebenezer/ledger/MovementKind", name := "betweenAccounts", desc := "()Z" } : Jvm.MethodName) prog_29_method_7_code (1 : Nat) (Option.some Jvm.ClassFile.FieldType.boolean)]
set_option maxRecDepth 65536 in
theorem codes_eq : words1.filter isCode = codes1 := rfl
theorem w_codes : ∀ c ∈ words1.filter isCode, c.before args0 about1 = true := by
  rw [codes_eq]
  intro c hc
  simp only [codes1, List.mem_cons, List.not_mem_nil, or_false] at hc
  rcases hc with rfl | rfl | rfl
  · exact w_c0
  · exact w_c1
  · exact w_c2
set_option maxRecDepth 65536 in
theorem w_t1 : (words1.take 24).all (fun c => isCode c || c.before args0 about1) = true := by decide +kernel
set_option maxRecDepth 65536 in
theorem w_t2 : (words1.drop 24).all (fun c => isCode c || c.before args0 about1) = true := by decide +kernel
theorem w_tables : (allAtoms (Jvm.Cond.code x code maxLocals ret :: tables_1)).before args0 about1 = true := by
  rw [allAtoms_all]
  show words1.all (fun c => c.before args0 about1) = true
  refine all_split ?_ w_codes
  rw [← List.take_append_drop 24 words1, List.all_append, w_t1, w_t2]
  rfl
set_option maxRecDepth 65536 in
theorem w_case : (Jvm.Cond.and given_1 narrow_1).before args0 about1 = true := by decide +kernel
theorem w_applies : (headSpec (Jvm.Cond.code x code maxLocals ret :: tables_1) room_1).applies x e0.platform about1 = true :=
  (Spec.applies_iff w_frames).mpr ⟨w_running, w_runnable, w_alone, w_named, w_hears, w_ripe, w_room, w_tables⟩
theorem atStart : AtStart classFile x code maxLocals ret World_1 tables_1 room_1 Calls_1 rest_1 Pre_1 launch0 p0 e0 about1 theMethod args0 below0 :=
  ⟨lists_1, trivial, launch0.admits_env _ _ _, launch0.least_env, fairChoices_fair.cas, fairChoices_fair.clock, w_frames, w_args, w_heap, w_applies, trivial, trivial, w_case⟩
end start1
theorem witness_1 : WitnessClaimed_1 := ⟨start1.p0, start1.e0, start1.about1, start1.theMethod, start1.args0, start1.below0, start1.atStart⟩
end Jvm.Pilot.@@N@@
