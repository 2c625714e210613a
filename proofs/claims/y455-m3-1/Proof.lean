import JvmDerived
import JvmDerived.Pilot.@@N@@Statement
import JvmDerived.Pilot.@@N@@Code
set_option linter.unusedVariables false
set_option linter.unusedSimpArgs false
namespace Jvm.RoadKit
open Sem ClassFile Op Lib Jvm.Stand Jvm.Free Jvm.LawKit
section New
variable {p : Program} {l : Launch} {e : Env} {R : Room} {s : State} {m : MethodId} {args : Array Value} {below : List Frame} {meth : Method} {c : Code} {T : State} {locs : List Loc} {cells slots : Nat}
theorem retI (X : Stand p l e R s m args below meth c T locs cells slots) (hx : p.tables.exec = Jvm.exec) {pc : Nat} {Ls : Array Slot} {z : Int32} {rest : List Value} (hret : meth.sig.returnType = some .int) (hd : decode c.code pc = .ok (.ireturn, 1)) {fs : List Frame}
    (hl : ∀ (f : JFrame) (acts : List Action), f.method = m → f.locked = none → f.entered = [] → (doReturn e (T.setTop f) acts (some (.int z))).1 = T.setFrames fs) : Steps p.tables e below (T.setTop (mkF m pc Ls (.int z :: rest))) (T.setFrames fs) := by
  have hm' : T.vm.method? m = some meth := X.method'
  have hn : narrow .int (.int z) = .int z := rfl
  show Steps p.tables e below (T.setTop { method := m, pc := pc, locals := Ls, stack := _ :: rest, locked := none }) _
  jvm_step X.here [X.here.top, hx, hd, hm', hret, hn]
  first | (intro acts; rw [hl _ acts rfl rfl rfl]) | rw [hl _ _ rfl rfl rfl]
  exact Steps.refl _
theorem retJ (X : Stand p l e R s m args below meth c T locs cells slots) (hx : p.tables.exec = Jvm.exec) {pc : Nat} {Ls : Array Slot} {z : Int64} {rest : List Value} (hret : meth.sig.returnType = some .long) (hd : decode c.code pc = .ok (.lreturn, 1)) {fs : List Frame}
    (hl : ∀ (f : JFrame) (acts : List Action), f.method = m → f.locked = none → f.entered = [] → (doReturn e (T.setTop f) acts (some (.long z))).1 = T.setFrames fs) : Steps p.tables e below (T.setTop (mkF m pc Ls (.long z :: rest))) (T.setFrames fs) := by
  have hm' : T.vm.method? m = some meth := X.method'
  have hn : narrow .long (.long z) = .long z := rfl
  show Steps p.tables e below (T.setTop { method := m, pc := pc, locals := Ls, stack := _ :: rest, locked := none }) _
  jvm_step X.here [X.here.top, hx, hd, hm', hret, hn]
  first | (intro acts; rw [hl _ acts rfl rfl rfl]) | rw [hl _ _ rfl rfl rfl]
  exact Steps.refl _
end New
end Jvm.RoadKit
namespace Jvm.Pilot.@@N@@
open Jvm Jvm.ClassFile Sem Op Lib Jvm.Free Jvm.Stand Jvm.LawKit Jvm.RoadKit Bundle Jvm.Pilot.@@N@@.Jvm.D
def own_irem (x y : Int32) : Int32 := x - (x / y) * y
theorem own_irem_mod (x y : Int32) : own_irem x y = x % y := by
  unfold own_irem
  apply Int32.toInt_inj.mp
  have h1 := Int32.le_toInt (x % y)
  have h2 := Int32.toInt_lt (x % y)
  rw [Int32.toInt_sub, Int32.toInt_mul, Int32.toInt_div, Int.bmod_mul_bmod, Int.sub_bmod_bmod, Int.mul_comm (x.toInt.tdiv y.toInt), ← Int.tmod_def, ← Int32.toInt_mod]
  exact Int.bmod_eq_of_le_mul_two (by omega) (by omega)
theorem own_fld_eq {args : Array Value} {s : State} {t : Term} {C n d : String} {w : Addr} {k : Int32} (ht : t.eval args s none [] s = some (.ref w)) (h : (Jvm.Cond.eq (Term.field t C n d) (Term.int k)).value args s none s [] = some true) : Fld s s.heap w C n d (.int k) := by
  obtain ⟨x, y, ha, hb, -, -⟩ := cmp_v (Or.inl h)
  have hy : y = .int k := (Option.some.inj ((Term.int_eval k).symm.trans hb)).symm
  subst hy
  have hx : x = .int k := by
    cases x <;> simp [Cond.value, ha, hb] at h ⊢
    exact h
  subst hx
  exact Fld.start (by rw [← fld_at ht]; exact ha)
theorem own_fld_ref {args : Array Value} {s : State} {t u : Term} {C n d : String} {w : Addr} {k : Addr} (ht : t.eval args s none [] s = some (.ref w)) (hu : u.eval args s none [] s = some (.ref k)) (h : (Jvm.Cond.eq (Term.field t C n d) u).value args s none s [] = some true) : Fld s s.heap w C n d (.ref k) := by
  obtain ⟨x, y, ha, hb, -, -⟩ := cmp_v (Or.inl h)
  cases hu.symm.trans hb
  have hx : x = .ref k := by
    cases x <;> simp [Cond.value, ha, hb] at h ⊢
    exact h
  subst hx
  exact Fld.start (by rw [← fld_at ht]; exact ha)
theorem own_sel_priv {s : State} {args : Array Value} {y z : MethodName} (hsel : (Jvm.Cond.selects z.cls z z).before args s = true) (hz : z.cls = y.cls) (hpriv : (Jvm.Cond.privateMethod y).before args s = true) (hinst : (Jvm.Cond.instanceMethod y).before args s = true) (hy : y.cls ≠ "java/lang/invoke/MethodHandle" ∧ y.cls ≠ "java/lang/invoke/VarHandle") : (Jvm.Cond.selects y.cls y y).before args s = true := by
  obtain ⟨c, r, m, h1, h2, h3, h4, mk, h5, h6⟩ := Cond.selects_spec hsel
  have hc := findClass_of_methodNamed h3
  rw [hz] at hc
  exact selects_self_of_private hc h5 h6 (Cond.privateMethod_at hpriv) hinst hy
theorem own_nm_int : "[" ++ (newarray.typeOf .int).toString = "[I" := by decide
theorem own_nm_long : "[" ++ (newarray.typeOf .long).toString = "[J" := by decide
theorem own_nm_char : "[" ++ (newarray.typeOf .char).toString = "[C" := by decide
theorem own_nm_boolean : "[" ++ (newarray.typeOf .boolean).toString = "[Z" := by decide
theorem own_ns_exa {Z : State} {h : Heap} {a : Addr} {C : String} (E : Exa Z h a C) : ∀ c : Cell, h[a]? = some c → c.vm.isStatics = false := fun c hc => by
  obtain ⟨cell, k, h1, -, -, h4, -⟩ := E
  cases h1.symm.trans hc
  exact h4
theorem own_ns_arr {Z : State} {h : Heap} {a : Addr} {cl : Cell} {ty : FieldType} (A : Arr Z h a cl ty) : ∀ c : Cell, h[a]? = some c → c.vm.isStatics = false := fun c hc => by
  cases A.1.symm.trans hc
  exact A.plain
theorem own_arr_keep {Z : State} {h h' : Heap} {a : Addr} {cl : Cell} {ty : FieldType} {ws : List Addr} (A : Arr Z h a cl ty) (K : Keep h h' ws) (q : a ∉ ws) : Arr Z h' a cl ty := ⟨K.2.1 a cl A.1 q, A.2⟩
theorem own_ns_arv {Z : State} {h : Heap} {a : Addr} {k : ClassId} {ty : FieldType} {z : Int32} {vs : List Value} {dv : Value} (F : Arv Z h a k ty z vs dv) : ∀ c : Cell, h[a]? = some c → c.vm.isStatics = false := by
  obtain ⟨c, A, -⟩ := F
  exact own_ns_arr A
theorem own_sta_keep {Z : State} {h h' : Heap} {C n d : String} {v : Value} {ws : List Addr} (F : Sta Z h C n d v) (K : Keep h h' ws) (q : ∀ x ∈ ws, ∀ c : Cell, h[x]? = some c → c.vm.isStatics = false) : Sta Z h' C n d v := by
  obtain ⟨cf, i, k, f, st, cell, h1, h2, h3, h4, h5, h6, h7⟩ := F
  exact ⟨cf, i, k, f, st, cell, h1, h2, h3, h4, K.2.1 st cell h5 (fun hm => by rw [q st hm cell h5] at h6; cases h6), h6, h7⟩
theorem own_len {args : Array Value} {s : State} {t : Term} {a : Addr} {cl : Cell} {n : Int32} (ht : t.eval args s none [] s = some (.ref a)) (hc : s.heap[a]? = some cl) (h : (Jvm.Cond.eq (Term.length t) (Term.int n)).value args s none s [] = some true) : cl.slots.size < 2 ^ 31 ∧ cl.slots.size.toInt32 = n := by
  obtain ⟨x, y, ha, hb, -, -⟩ := cmp_v (Or.inl h)
  have hy : y = .int n := (Option.some.inj ((Term.int_eval n).symm.trans hb)).symm
  subst hy
  have hx : x = .int n := by
    cases x <;> simp [Cond.value, ha, hb] at h ⊢
    exact h
  subst hx
  simp only [Term.eval, ht, Option.bind_eq_bind, Option.bind_some] at ha
  cases hq : s.arrayAt? a with
  | none => simp [hq] at ha
  | some c2 =>
    cases (State.arrayAt?_spec hq).1.symm.trans hc
    simp only [hq, Option.bind_some] at ha
    split at ha
    · rename_i hlt
      exact ⟨hlt, Value.int.inj (Option.some.inj ha)⟩
    · cases ha
theorem own_elem {args : Array Value} {s : State} {t u : Term} {a k : Addr} {cl : Cell} {j : Int32} (ht : t.eval args s none [] s = some (.ref a)) (hu : u.eval args s none [] s = some (.ref k)) (hc : s.heap[a]? = some cl) (h : (Jvm.Cond.eq (Term.elem t (Term.int j)) u).value args s none s [] = some true) : cl.slots[j.toNatClampNeg]? = some (.ref k) := by
  obtain ⟨x, y, ha, hb, -, -⟩ := cmp_v (Or.inl h)
  cases hu.symm.trans hb
  have hx : x = .ref k := by
    cases x <;> simp [Cond.value, ha, hb] at h ⊢
    exact h
  subst hx
  exact (elem_in ha ht (Term.int_eval j) hc).2
def own_up {α : Type} (g : Nat → α) (k : Nat) (e : α) : Nat → α := fun i => if i = k then e else g i
def own_Fa {α : Type} (mk : α → Value) (ty : FieldType) (Z : State) (h : Heap) (a : Addr) (n : Nat) (g : Nat → α) : Prop := ∃ c : Cell, Arr Z h a c ty ∧ c.slots.size = n ∧ ∀ i, i < n → c.slots[i]? = some (mk (g i))
theorem own_up_same {α : Type} (g : Nat → α) (k : Nat) (e : α) : own_up g k e k = e := if_pos rfl
def own_Ov (Z : State) (h : Heap) (a : Addr) (ty : FieldType) (C : String) : Prop := ∃ c : Cell, h[a]? = some c ∧ OvrA Z c.cls ty C
section OwnFa
variable {α : Type} {mk : α → Value} {ty : FieldType} {Z : State} {h h' : Heap} {a b : Addr} {n : Nat} {g : Nat → α}
theorem own_Fa.lt (F : own_Fa mk ty Z h a n g) : a < h.size := by obtain ⟨c, A, -⟩ := F; exact A.lt
theorem own_Fa.ext (F : own_Fa mk ty Z h a n g) (E : Ext h h') : own_Fa mk ty Z h' a n g := by obtain ⟨c, A, r⟩ := F; exact ⟨c, A.ext E, r⟩
theorem own_Fa.other {sl : Nat} {v : Value} (F : own_Fa mk ty Z h b n g) (W : Wr h h' a sl v) (q : b ≠ a) : own_Fa mk ty Z h' b n g := by obtain ⟨c, A, r⟩ := F; exact ⟨c, A.other W q, r⟩
theorem own_Fa.keep {ws : List Addr} (F : own_Fa mk ty Z h a n g) (K : Keep h h' ws) (q : a ∉ ws) : own_Fa mk ty Z h' a n g := by obtain ⟨c, A, r⟩ := F; exact ⟨c, ⟨K.2.1 a c A.1 q, A.2⟩, r⟩
theorem own_Fa_new {k : ClassId} {z : Int32} {d : α} (A : Arr Z h a (newA k ty z) ty) (q : z.toNatClampNeg = n) (hd : defaultValue ty = mk d := by rfl) : own_Fa mk ty Z h a n (fun _ => d) :=
  ⟨_, A, by rw [sz_new]; exact q, fun i hi => by rw [← hd]; simp [newA, q, hi]⟩
theorem own_Fa_set {c : Cell} {s : Nat} {e : α} (A : Arr Z h a c ty) (S : c.slots.size = n) (H : ∀ i, i < n → c.slots[i]? = some (mk (g i))) (W : Wr h h' a s (mk e)) : own_Fa mk ty Z h' a n (own_up g s e) := by
  refine ⟨c.setSlot s (mk e), A.same W, by rw [sz_set]; exact S, fun i hi => ?_⟩
  unfold own_up
  by_cases q : i = s
  · subst q
    simp [Cell.setSlot, S, hi]
  · rw [if_neg q]
    show (c.slots.setIfInBounds s (mk e))[i]? = _
    rw [Array.getElem?_setIfInBounds_ne (Ne.symm q)]
    exact H i hi
theorem own_fin {c : Cell} {j : Int32} (S : c.slots.size = n) (h0 : ¬ j < 0) (h1 : j.toNatClampNeg < n) : ¬ (j < 0 ∨ c.slots.size ≤ j.toNatClampNeg) := fun q => q.elim h0 (fun q => by rw [S] at q; omega)
theorem own_inn {c : Cell} {j : Int32} (S : c.slots.size = n) (h : ¬ (j < 0 ∨ c.slots.size ≤ j.toNatClampNeg)) : j.toNatClampNeg < n := by rw [← S]; exact Nat.lt_of_not_le fun q => h (Or.inr q)
theorem own_Ov.ext {C : String} (F : own_Ov Z h a ty C) (E : Ext h h') : own_Ov Z h' a ty C := by obtain ⟨c, A, r⟩ := F; exact ⟨c, E.2 _ _ A, r⟩
theorem own_Ov.wr {C : String} {sl : Nat} {v : Value} (F : own_Ov Z h a ty C) (W : Wr h h' b sl v) : own_Ov Z h' a ty C := by
  obtain ⟨c, A, r⟩ := F
  obtain ⟨c', e1, e2, -⟩ := wr_at W A
  exact ⟨c', e1, by rw [e2]; exact r⟩
theorem own_Ov.keep {C : String} {ws : List Addr} (F : own_Ov Z h a ty C) (K : Keep h h' ws) : own_Ov Z h' a ty C := by
  obtain ⟨c, A, r⟩ := F
  obtain ⟨c', e1, e2, -⟩ := K.2.2 a c A
  exact ⟨c', e1, by rw [e2]; exact r⟩
theorem own_Ov.sto {C : String} {t0 : FieldType} {c : Cell} {y : Addr} (F : own_Ov Z h a ty C) (A : Arr Z h a c t0) (I : Ins Z h y C true) : Sto Z h a (.ref y) := by
  obtain ⟨c', e1, r⟩ := F
  cases A.1.symm.trans e1
  exact Sto.ofVA A rfl r I
theorem own_len_map {β : Type} (n : Nat) (f : Nat → β) : ((List.range n).map f).length = n := by simp
theorem own_Fa_arv {g : Nat → Int64} {z : Int32} (F : own_Fa Value.long .long Z h a n g) (hz : ¬ z < 0) (hn : z.toNatClampNeg = n) : ∃ k, Arv Z h a k .long z ((List.range n).map fun i => Value.long (g i)) (.long (0 : Int64)) := by
  obtain ⟨c, A, S, H⟩ := F
  have e : ∀ i, i < n → ((List.range n).map fun i => Value.long (g i)).getD i (.long (0 : Int64)) = .long (g i) := fun i hi => by simp [List.getD, hi]
  exact ⟨c.cls, c, A, rfl, by rw [S, hn], hz, fun i hi => by rw [S] at hi; rw [e i hi]; exact H i hi, fun i hi => by rw [S] at hi; rw [e i hi]; rfl⟩
theorem own_cp2 {g : Nat → Int64} {k : ClassId} {z : Int32} {x0 x1 : Int64} {dp nn : Int32} (F : Arv Z h a k .long z (((List.range n).map fun i => Value.long (g i)).take dp.toNatClampNeg ++ [Value.long x0, Value.long x1] ++ ((List.range n).map fun i => Value.long (g i)).drop (dp.toNatClampNeg + nn.toNatClampNeg)) (.long (0 : Int64))) (d : Nat) (q : (dp.toNatClampNeg = d ∧ nn.toNatClampNeg = 2) ∧ z.toNatClampNeg = n ∧ d + 2 ≤ n) : own_Fa Value.long .long Z h a n (own_up (own_up g d x0) (d + 1) x1) := by
  obtain ⟨⟨rfl, q2⟩, rfl, q4⟩ := q
  obtain ⟨c, A, -, S, -, H, -⟩ := F
  refine ⟨c, A, S, fun i hi => ?_⟩
  rw [H i (by rw [S]; exact hi), q2]
  generalize dp.toNatClampNeg = d at *
  congr 1
  rw [List.getD_eq_getElem?_getD, List.append_assoc]
  unfold own_up
  by_cases h1 : i < d
  · rw [List.getElem?_append_left (by simp; omega), if_neg (by omega), if_neg (by omega)]
    simp [List.getElem?_take, h1, hi]
  · rw [List.getElem?_append_right (by simp; omega)]
    have l : (List.take d ((List.range z.toNatClampNeg).map fun i => Value.long (g i))).length = d := by simp; omega
    rw [l]
    by_cases h2 : i = d
    · subst h2; simp
    · by_cases h3 : i = d + 1
      · subst h3; simp [show d + 1 - d = 1 by omega]
      · rw [if_neg h3, if_neg h2]
        obtain ⟨j, rfl⟩ : ∃ j, i = d + 2 + j := ⟨i - (d + 2), by omega⟩
        rw [show d + 2 + j - d = j + 2 by omega]
        simp [hi]
theorem own_ns_Fa (F : own_Fa mk ty Z h a n g) : ∀ c : Cell, h[a]? = some c → c.vm.isStatics = false := by obtain ⟨c, A, -⟩ := F; exact own_ns_arr A
end OwnFa

theorem own_w {a0 : Array Value} {Z : State} (hw : ∀ d ∈ tables_1, d.before a0 Z = true) (i : Nat) {d : Jvm.Cond} (h : tables_1[i]? = some d) : d.before a0 Z = true := hw d (List.mem_of_getElem? h)
section OwnRef
variable {p : Program} {l : Launch} {e : Env} {R : Room} {s : State} {m : MethodId} {args : Array Value} {below : List Frame} {meth : Method} {c : Code} {T : State} {locs : List Loc} {cells slots : Nat} {Z : State} {a0 : Array Value}
theorem own_specialRef (X : Stand p l e R s m args below meth c T locs cells slots) (hexec : p.tables.exec = Jvm.exec) (hZ : Z.Warmed39 s.vm) {own : String} {index : Nat} {y : MethodName} (hy1 : y.name = "<init>")
    (hown : s.vm.findClass own = some m.cls) (href : (Cond.methodRef own index y).before a0 Z = true) {bytes : ByteArray} {maxL : Nat} (hcodeZ : (Cond.code y bytes maxL none).before a0 Z = true) (hinst : (Cond.instanceMethod y).before args s = true)
    (hcode : (Cond.code y bytes maxL none).before args s = true) (hy : y.cls ≠ "java/lang/invoke/MethodHandle" ∧ y.cls ≠ "java/lang/invoke/VarHandle")
    {W : Nat} {Pre : Pt → Array Value → Prop} {Post : Pt → Array Value → Option Value → Pt → Prop} (hK : Back l R p e below s args y 3 W Pre Post)
    {g : JFrame} (hg : g.method = m) (hsize : g.locals.size = c.maxLocals) {s₀ : State} (hcome : Steps p.tables e below s₀ (T.setTop g)) {a : Addr} {argsL rest : List Value}
    (hlen : ∀ sig, parseMethodDescriptor y.desc = some sig → argsL.length = sig.parameters.length) (hstack : g.stack = argsL.reverse ++ .ref a :: rest) (hW : 2 * g.monitorRoom + (rest.map fun v => v.category).sum ≤ W)
    (hdg : decode c.code g.pc = .ok (.invokespecial index, 3)) (hpre : ∀ vm₁, s.WarmedH vm₁ → Pre ⟨T.setVm vm₁, locs, cells, slots⟩ (.ref a :: argsL).toArray) :
    ∃ (v : Option Value) (vm₁ : Vm) (B : Pt), s.WarmedH vm₁ ∧ Stand p l e R s m args below meth c B.U B.locs B.cells B.slots ∧ Post ⟨T.setVm vm₁, locs, cells, slots⟩ (.ref a :: argsL).toArray v B ∧
      Steps p.tables e below s₀ (B.U.setTop { g with pc := g.pc + 3, stack := v.toList ++ rest }) := by
  obtain ⟨obj, methO, hnO, hmO, hstO, habO⟩ := Cond.instanceMethod_spec hinst
  obtain ⟨methO', cO, hmO', hcO, hbO, hlO, -, hlockO, -, hsigO⟩ := Cond.code_spec hnO hcode
  cases hmO.symm.trans hmO'
  obtain ⟨hnameMO, hdescO⟩ := name_of_methodNamed hnO hmO
  have hT : Z.Warmed39 T.vm := wtrans hZ X.warmed
  obtain ⟨mz, hnz⟩ := Cond.code_named hcodeZ
  have hr := Cond.methodRef_warmed39 hT hnz hy href
  have hcur : (Z.setVm T.vm).vm.findClass own = some m.cls := by rw [State.vm_setVm, X.warmed.alike.findClass]; exact hown
  have hnT : T.methodNamed? y = some obj := X.named hnO
  have hnZ : (Z.setVm T.vm).methodNamed? y = some obj := hnT
  have hmT : T.vm.method? obj = some methO := by rw [X.warmed.alike.method?]; exact hmO
  obtain ⟨kT, hkT, hkn⟩ := className_of_methodNamed hnT
  obtain ⟨m', c', hf, hready, hfind, hnr⟩ := Cond.methodRef_named e hcur hr
  cases hf.symm.trans (State.methodFound?_of_named hnZ hy)
  cases hfind.symm.trans (findClass_of_methodNamed hnT)
  have hfound : lookupSpecial T.vm obj.cls "<init>" methO.desc = .method obj := by
    rw [hdescO, ← hy1]; exact lookupSpecial_of_named hnT hmT hstO
  have hstep₁ : ∀ target, (∀ acts, Steps p.tables e below (doInvoke e (T.setTop { g with stack := rest }) acts obj (.ref a :: argsL).toArray).1 target) → Steps p.tables e below (T.setTop g) target := by
    intro target hrest
    subst hg
    jvm_step X.here [hexec, hdg, invokespecial.wp_init (e := e) (s := T) (k := kT) (meth := methO) (m := obj) (a := a) (args := argsL) (rest := rest) (f := g) X.here.top hnr hready hkT hmT (by rw [hnameMO]; exact hy1) hstO habO hfound (hlen _ hsigO) hstack]
    exact hrest
  have hpre' : Pre ⟨T, locs, cells, slots⟩ (Value.ref a :: argsL).toArray := hpre T.vm X.warmed
  obtain ⟨v, B, X', hpost, hsteps⟩ := hK m meth c ⟨T, locs, cells, slots⟩ { g with stack := rest } (.invokespecial index) obj (Value.ref a :: argsL).toArray X hg hsize hdg hW hnT hpre'
  exact ⟨v, T.vm, B, X.warmed, X', hpost, (hcome.trans (hstep₁ _ fun acts => by rw [doInvoke_state]; exact Steps.refl _)).trans hsteps⟩
end OwnRef
def own_ix (z : Int32) (n : Nat) : Prop := z.toInt = (n : Int) ∧ n < 16
section OwnIx
variable {z : Int32} {n : Nat}
theorem own_ix_nn (h : own_ix z n) : ¬ z < (0 : Int32) := fun q => by
  have a0 : (0 : Int32).toInt = 0 := rfl
  rw [Int32.lt_iff_toInt_lt, h.1, a0] at q; omega
theorem own_ix_nat (h : own_ix z n) : z.toNatClampNeg = n := by
  show z.toInt.toNat = n
  rw [h.1]; rfl
theorem own_ix_in {c : Cell} (S : c.slots.size = 16) (h : own_ix z n) : ¬ (z < 0 ∨ c.slots.size ≤ z.toNatClampNeg) := fun q => q.elim (own_ix_nn h) (fun q => by rw [S, own_ix_nat h] at q; have := h.2; omega)
theorem own_ix_lt (h : own_ix z n) : z < (16 : Int32) := by
  have a0 : (16 : Int32).toInt = 16 := rfl
  rw [Int32.lt_iff_toInt_lt, h.1, a0]; have := h.2; omega
theorem own_ix_s (h : own_ix z n) (q : n + 1 < 16) : own_ix (z + (1 : Int32)) (n + 1) := by
  refine ⟨?_, q⟩
  have a := c_iadd z 1
  have a1 : (1 : Int32).toInt = 1 := rfl
  have b := Int32.le_toInt (z + 1); have b2 := Int32.toInt_lt (z + 1)
  rw [h.1, a1] at a
  omega
end OwnIx
theorem own_Fa_setk {α : Type} {mk : α → Value} {ty : FieldType} {Z : State} {h h' : Heap} {a : Addr} {n k : Nat} {g : Nat → α} {c : Cell} {s : Nat} {e : α} (A : Arr Z h a c ty) (S : c.slots.size = n) (H : ∀ i, i < n → c.slots[i]? = some (mk (g i))) (W : Wr h h' a s (mk e)) (q : s = k) : own_Fa mk ty Z h' a n (own_up g k e) := by
  subst q; exact own_Fa_set A S H W
theorem own_at {α : Type} {mk : α → Value} {sl : Array Value} {n j k : Nat} {g : Nat → α} (H : ∀ i, i < n → sl[i]? = some (mk (g i))) (q : j = k) (hj : j < n) : sl[j]? = some (mk (g k)) := by subst q; exact H _ hj
theorem own_arv_rep {α : Type} {mk : α → Value} {ty : FieldType} {Z : State} {h : Heap} {a : Addr} {kc : ClassId} {z : Int32} {vs : List Value} {dv : Value} {n : Nat} {d : α} (F : Arv Z h a kc ty z vs dv) (e : vs = List.replicate n dv) (hz : z.toNatClampNeg = n) (hd : dv = mk d) : own_Fa mk ty Z h a n (fun _ => d) := by
  obtain ⟨c, A, -, S, -, H, -⟩ := F
  refine ⟨c, A, by rw [S, hz], fun i hi => ?_⟩
  rw [H i (by rw [S, hz]; exact hi), e, ← hd]
  simp [List.getD, hi]
def own_gr (b : Int32) : Int32 := if b = (0 : Int32) then (1 : Int32) else (0 : Int32)
def own_sz (z : Int32) : Int64 := (0 : Int64) + (z.toInt64)
theorem own_sz_int (z : Int32) : (own_sz z).toInt = z.toInt := by
  have a := c_ladd 0 z.toInt64
  have a0 : (0 : Int64).toInt = 0 := rfl
  have b := Int64.le_toInt (own_sz z); have b2 := Int64.toInt_lt (own_sz z)
  have b3 := Int32.le_toInt z; have b4 := Int32.toInt_lt z
  rw [c_i2l, a0] at a
  unfold own_sz at *
  omega
def own_pl (z : Int64) (n : Nat) : Prop := z.toInt = (n : Int) ∧ n < 16
theorem own_pl_ge {z : Int64} {n : Nat} (h : own_pl z n) : ¬ (lcmpW z (0 : Int64)) < (0 : Int32) := fun q => by
  have q2 := (lw_lt z 0).mp q
  have a0 : (0 : Int64).toInt = 0 := rfl
  rw [Int64.lt_iff_toInt_lt, h.1, a0] at q2; omega
theorem own_pl_ix {z : Int64} {n : Nat} (h : own_pl z n) : own_ix ((z - (0 : Int64)).toInt32) n := by
  refine ⟨?_, h.2⟩
  have a := c_lsub z 0
  have a0 : (0 : Int64).toInt = 0 := rfl
  have b := c_l2i (z - 0)
  have b1 := Int64.le_toInt (z - 0); have b2 := Int64.toInt_lt (z - 0)
  have b3 := Int32.le_toInt ((z - 0).toInt32); have b4 := Int32.toInt_lt ((z - 0).toInt32)
  have := h.2
  rw [h.1, a0] at a
  omega
def own_ap (hd hd' : Nat → Int64) (cz : Nat) (kq cn : Int32) : Prop := cn.toInt = cz + kq.toInt ∧ (∀ i, i < cz → hd' i = hd i) ∧ ∀ i : Nat, cz ≤ i → (i : Int) < cz + kq.toInt → hd' i = -1
section OwnAp
variable {hd : Nat → Int64} {cn : Int32} {cz : Nat}
theorem own_ap0 (h : cn.toInt = (cz : Int)) : own_ap hd hd cz (0 : Int32) cn := ⟨by rw [h]; exact (Int.add_zero _).symm, fun _ _ => rfl, fun i h1 h2 => by have a : (0 : Int32).toInt = 0 := rfl; omega⟩
theorem own_ap1 (h : own_ix cn cz) : own_ap hd (own_up hd cz (-1 : Int64)) cz (1 : Int32) (cn + (1 : Int32)) := by
  have a1 : (1 : Int32).toInt = 1 := rfl
  refine ⟨?_, fun i hi => if_neg (by omega), fun i h1 h2 => if_pos (by omega)⟩
  have a := c_iadd cn 1
  have b := Int32.le_toInt (cn + 1); have b2 := Int32.toInt_lt (cn + 1)
  have := h.1; have := h.2
  omega
theorem own_ap2 (h : own_ix cn cz) (h2 : own_ix (cn + (1 : Int32)) (cz + 1)) : own_ap hd (own_up (own_up hd cz (-1 : Int64)) (cz + 1) (-1 : Int64)) cz (2 : Int32) ((cn + (1 : Int32)) + (1 : Int32)) := by
  have a1 : (1 : Int32).toInt = 1 := rfl
  have a2 : (2 : Int32).toInt = 2 := rfl
  refine ⟨?_, fun i hi => ?_, fun i h1 h2 => ?_⟩
  · have a := c_iadd (cn + 1) 1
    have b := Int32.le_toInt (cn + 1 + 1); have b2 := Int32.toInt_lt (cn + 1 + 1)
    have := h2.1; have := h2.2
    omega
  · unfold own_up; rw [if_neg (by omega), if_neg (by omega)]
  · unfold own_up
    by_cases q : i = cz + 1
    · rw [if_pos q]
    · rw [if_neg q, if_pos (by omega)]
theorem own_ne16 (h : own_ix cn cz) : ¬ (cn = (16 : Int32)) := fun q => by
  have a := h.1; have := h.2
  rw [q, show (16 : Int32).toInt = 16 from rfl] at a; omega
theorem own_apG1 : own_ap (fun _ => (0 : Int64)) (own_up (fun _ => (0 : Int64)) 0 (-1 : Int64)) 0 (1 : Int32) (1 : Int32) := ⟨rfl, fun i hi => by omega, fun i _ h2 => if_pos (by have a : (1 : Int32).toInt = 1 := rfl; omega)⟩
theorem own_apG2 : own_ap (fun _ => (0 : Int64)) (own_up (own_up (fun _ => (0 : Int64)) 0 (-1 : Int64)) 1 (-1 : Int64)) 0 (2 : Int32) (2 : Int32) := ⟨rfl, fun i hi => by omega, fun i _ h2 => by
  have a : (2 : Int32).toInt = 2 := rfl
  unfold own_up
  by_cases q : i = 1
  · rw [if_pos q]
  · rw [if_neg q, if_pos (by omega)]⟩
end OwnAp
def own_cf (mg fg : Nat → Int32) (cf : Nat → Nat) (ln : Nat) : Prop := cf 0 = 0 ∧ ∀ j, j ≤ ln → (fg j = (0 : Int32) ∨ fg j = (1 : Int32)) ∧ (cf (j + 1) : Int) = cf j + (own_gr (mg j) + fg j).toInt ∧ cf (j + 1) ≤ 16
theorem own_kq {b f : Int32} (h : f = (0 : Int32) ∨ f = (1 : Int32)) : ((own_gr b) + f) = (0 : Int32) ∨ ((own_gr b) + f) = (1 : Int32) ∨ ((own_gr b) + f) = (2 : Int32) := by
  unfold own_gr
  rcases h with rfl | rfl <;> split <;> decide
def own_mkp (ln : Nat) (cf : Nat → Nat) (pn : Nat) (site : Int64) (sg hd : Nat → Int64) (cn jj : Int32) : Prop := jj.toInt = ln + 1 ∧ cn.toInt = cf (ln + 1) ∧ (∀ i, i ≤ ln → (sg i).toInt = cf i) ∧ ∀ i, i < cf (ln + 1) → hd i = if i = pn then site else -1
section OwnMk
variable {ln pn jn : Nat} {cf : Nat → Nat} {site : Int64} {sg hd hd' : Nat → Int64} {cn cn' jj lev kq : Int32} {mg fg : Nat → Int32}
theorem own_mk_end (hl : own_ix lev ln) (hj : jj.toInt = (jn : Int)) (hjl : jn ≤ ln + 1) (hx : lev < jj) (hs : ∀ i, i < jn → (sg i).toInt = cf i) (hg : ∀ i, i < cf jn → hd i = -1) (hc : cn.toInt = cf jn) : own_mkp ln cf pn site sg (own_up hd pn site) cn jj := by
  have hx' := Int32.lt_iff_toInt_lt.mp hx
  have := hl.1
  have e : jn = ln + 1 := by omega
  subst e
  exact ⟨hj, hc, fun i hi => hs i (by omega), fun i hi => by unfold own_up; split; rfl; exact hg i hi⟩
theorem own_mk_in (hl : own_ix lev ln) (hj : jj.toInt = (jn : Int)) (hx : ¬ lev < jj) : own_ix jj jn ∧ jn ≤ ln := by
  rw [Int32.lt_iff_toInt_lt] at hx
  have := hl.1; have := hl.2
  exact ⟨⟨hj, by omega⟩, by omega⟩
theorem own_mk_s (hs : ∀ i, i < jn → (sg i).toInt = cf i) (hc : cn.toInt = cf jn) : ∀ i, i < jn + 1 → ((own_up sg jn (own_sz cn)) i).toInt = cf i := fun i hi => by
  unfold own_up
  split
  · rename_i q; rw [own_sz_int, hc, q]
  · exact hs i (by omega)
theorem own_mk_g (hcf : own_cf mg fg cf ln) (hjn : jn ≤ ln) (hg : ∀ i, i < cf jn → hd i = -1) (ha : own_ap hd hd' (cf jn) (own_gr (mg jn) + fg jn) cn') : ∀ i, i < cf (jn + 1) → hd' i = -1 := fun i hi => by
  have := (hcf.2 jn hjn).2.1
  by_cases q : i < cf jn
  · rw [ha.2.1 i q]; exact hg i q
  · exact ha.2.2 i (by omega) (by omega)
theorem own_mk_c (hcf : own_cf mg fg cf ln) (hjn : jn ≤ ln) (ha : own_ap hd hd' (cf jn) (own_gr (mg jn) + fg jn) cn') : cn'.toInt = cf (jn + 1) := by
  rw [(hcf.2 jn hjn).2.1]; exact ha.1
theorem own_mk_j (h : own_ix jj jn) : (jj + (1 : Int32)).toInt = ((jn + 1 : Nat) : Int) := by
  have a := c_iadd jj 1
  have a1 : (1 : Int32).toInt = 1 := rfl
  have b := Int32.le_toInt (jj + 1); have b2 := Int32.toInt_lt (jj + 1)
  have := h.1; have := h.2
  omega
theorem own_mk_r (hcf : own_cf mg fg cf ln) (hjn : jn ≤ ln) : (cf jn : Int) + ((own_gr (mg jn)) + (fg jn)).toInt ≤ 16 := by
  have h := hcf.2 jn hjn
  have := h.2.1; have := h.2.2
  omega
end OwnMk
theorem own_16 {lev : Int32} {ln : Nat} (h : own_ix lev ln) (q : ln < 8) : ¬ (16 : Int32) < (lev + (1 : Int32)) := fun r => by
  have a := (own_ix_s h (by omega)).1
  rw [Int32.lt_iff_toInt_lt, a, show (16 : Int32).toInt = 16 from rfl] at r
  omega
theorem own_apx1 {cn kq : Int32} {cz : Nat} (h : cn.toInt = (cz : Int)) (q : (cz : Int) + kq.toInt ≤ 16) (q2 : 1 ≤ kq.toInt) : own_ix cn cz := ⟨h, by omega⟩
theorem own_apx2 {cn : Int32} {cz : Nat} (h : cn.toInt = (cz : Int)) (q : (cz : Int) + (2 : Int32).toInt ≤ 16) : own_ix (cn + (1 : Int32)) (cz + 1) := by
  rw [show (2 : Int32).toInt = 2 from rfl] at q
  exact own_ix_s ⟨h, by omega⟩ (by omega)
theorem own_irr (z : Int32) : ¬ z < z := fun q => by rw [Int32.lt_iff_toInt_lt] at q; omega
theorem own_lt_s {z : Int32} {n : Nat} (h : own_ix z n) : z < (z + (1 : Int32)) := by
  rw [Int32.lt_iff_toInt_lt, own_mk_j h, h.1]; omega
theorem own_nlt1 {z : Int32} (h : own_ix z 1) : ¬ z < (1 : Int32) := fun q => by
  have a := h.1
  rw [Int32.lt_iff_toInt_lt, show (1 : Int32).toInt = 1 from rfl] at q; omega
theorem own_le_j {lev jj : Int32} {ln jn : Nat} (hl : own_ix lev ln) (hj : jj.toInt = (jn : Int)) (hx : lev < jj) : ln < jn := by
  rw [Int32.lt_iff_toInt_lt] at hx; have := hl.1; omega
section OwnZ
variable {cf : Nat → Nat} {jn ln : Nat} {hd hd' : Nat → Int64} {kq cn : Int32} {mg fg : Nat → Int32}
theorem own_ap_z (hz : cf jn = 0) (ha : own_ap hd hd' 0 kq cn) : own_ap hd hd' (cf jn) kq cn := by rw [hz]; exact ha
theorem own_ng_z (hz : cf jn = 0) : ∀ i, i < cf jn → hd i = -1 := fun i hi => by omega
theorem own_c_z (hz : cf jn = 0) : (0 : Int32).toInt = (cf jn : Int) := by rw [hz]; rfl
theorem own_z1 (hcf : own_cf mg fg cf 1) (hk : ((own_gr (mg 0)) + (fg 0)) = (0 : Int32)) : cf 1 = 0 := by
  have h := (hcf.2 0 (by omega)).2.1
  rw [hk, hcf.1, show (0 : Int32).toInt = 0 from rfl] at h
  have h' : (cf 1 : Int) = 0 := by simpa using h
  omega
end OwnZ
section OwnE
variable {lev dp jj : Int32} {ln : Nat}
theorem own_em_t (hl : own_ix lev ln) (h : own_ix dp (ln + 1)) : lev < dp := by
  rw [Int32.lt_iff_toInt_lt, hl.1, h.1]; omega
theorem own_em_f (hl : own_ix lev ln) (h : own_ix dp (ln + 1)) : ¬ lev < (dp - (1 : Int32)) := fun q => by
  have a := c_isub dp 1
  have a1 : (1 : Int32).toInt = 1 := rfl
  have b := Int32.le_toInt (dp - 1); have b2 := Int32.toInt_lt (dp - 1)
  have := hl.1; have := h.1; have := h.2
  rw [Int32.lt_iff_toInt_lt] at q
  omega
theorem own_mk_lt {cf : Nat → Nat} {pn : Nat} {site : Int64} {sg hd : Nat → Int64} {cn : Int32} (hl : own_ix lev ln) (h : own_mkp ln cf pn site sg hd cn jj) : lev < jj := by
  rw [Int32.lt_iff_toInt_lt, hl.1, h.1]; omega
theorem own_mk_lt2 {cf : Nat → Nat} {pn : Nat} {site : Int64} {sg hd : Nat → Int64} {cn : Int32} (hl : own_ix lev ln) (h : own_mkp (ln + 1) cf pn site sg hd cn jj) : lev < jj := by
  rw [Int32.lt_iff_toInt_lt, hl.1, h.1]; omega
theorem own_m1 (hl : own_ix lev ln) : (-1 : Int32) < lev := by
  rw [Int32.lt_iff_toInt_lt, hl.1, show (-1 : Int32).toInt = -1 from rfl]; omega
theorem own_m1n (hl : own_ix lev ln) : ¬ lev < (-1 : Int32) := fun q => by
  rw [Int32.lt_iff_toInt_lt, hl.1, show (-1 : Int32).toInt = -1 from rfl] at q; omega
theorem own_up1 (hl : own_ix lev ln) (h : ln < 8) : own_ix (lev + (1 : Int32)) (ln + 1) := own_ix_s hl (by omega)
theorem own_sub1 (z : Int32) : z = ((z + (1 : Int32)) - (1 : Int32)) := by
  apply Int32.toInt_inj.mp
  have a := c_iadd z 1
  have b := c_isub (z + 1) 1
  have a1 : (1 : Int32).toInt = 1 := rfl
  have c1 := Int32.le_toInt z; have c2 := Int32.toInt_lt z
  have c3 := Int32.le_toInt (z + 1 - 1); have c4 := Int32.toInt_lt (z + 1 - 1)
  omega
end OwnE
def own_cz (cn : Int32) (cz : Nat) : Prop := cn.toInt = (cz : Int) ∧ cz ≤ 16
def own_si (z : Int64) : Prop := 0 ≤ z.toInt ∧ z.toInt < 9223372036854775807
theorem own_si0 : own_si (0 : Int64) := ⟨by decide, by decide⟩
def own_S (hd : Nat → Int64) (cz : Nat) : Prop := (∀ i, i < cz → hd i = -1 ∨ 0 ≤ (hd i).toInt) ∧ ∀ i j, i < j → j < cz → 0 ≤ (hd i).toInt → 0 ≤ (hd j).toInt → (hd i).toInt < (hd j).toInt
def own_J (hd : Nat → Int64) (cz : Nat) (q : Int64) (rn : Nat) (nx : Int64) : Prop := rn ≤ cz ∧ (∀ i, i < cz → 0 ≤ (hd i).toInt → (hd i).toInt < q.toInt ∨ hd i = nx ∨ rn ≤ i) ∧ (nx.toInt = 9223372036854775807 ∨ nx.toInt < 0 ∨ ∃ i, i < cz ∧ hd i = nx) ∧
  ((nx.toInt = 9223372036854775807 ∧ rn = cz) ∨ ∀ i, rn ≤ i → i < cz → 0 ≤ (hd i).toInt → nx.toInt < (hd i).toInt)
def own_res (hd : Nat → Int64) (cz : Nat) (q : Int64) (r : Int32) : Prop := (r = (1 : Int32) ∧ ∃ i, i < cz ∧ hd i = q) ∨ (r = (0 : Int32) ∧ ¬ ∃ i, i < cz ∧ hd i = q)
section OwnRd
variable {hd : Nat → Int64} {cz rn : Nat} {q q0 nx rd : Int64} {cn r : Int32}
theorem own_lc_lt {x y : Int64} : (lcmpW x y) < (0 : Int32) ↔ x.toInt < y.toInt := (lw_lt x y).trans Int64.lt_iff_toInt_lt
theorem own_lc_eq {x y : Int64} : (lcmpW x y) = (0 : Int32) ↔ x = y := lw_eq x y
theorem own_J_0 (hd : Nat → Int64) (cz : Nat) : own_J hd cz (0 : Int64) 0 (-1 : Int64) := by
  have a : (-1 : Int64).toInt = -1 := rfl
  exact ⟨Nat.zero_le _, fun i _ _ => Or.inr (Or.inr (Nat.zero_le _)), Or.inr (Or.inl (by rw [a]; omega)), Or.inr fun i _ _ h => by rw [a]; omega⟩
theorem own_J_m (h : own_J hd cz q0 rn nx) (hq : q0.toInt ≤ q.toInt) : own_J hd cz q rn nx := ⟨h.1, fun i h1 h2 => (h.2.1 i h1 h2).imp (fun z => by omega) id, h.2.2⟩
theorem own_J_s (hS : own_S hd cz) (h : own_J hd cz q rn nx) (hl : (lcmpW nx q) < (0 : Int32)) (hr : rn < cz) : own_J hd cz q (rn + 1) (hd rn) := by
  have hl' := own_lc_lt.mp hl
  refine ⟨hr, fun i h1 h2 => ?_, Or.inr (Or.inr ⟨rn, hr, rfl⟩), Or.inr fun i h1 h2 h3 => ?_⟩
  · rcases h.2.1 i h1 h2 with c | c | c
    · exact Or.inl c
    · exact Or.inl (by rw [c]; exact hl')
    · by_cases e : i = rn
      · exact Or.inr (Or.inl (by rw [e]))
      · exact Or.inr (Or.inr (by omega))
  · rcases hS.1 rn hr with c | c
    · rw [c, show (-1 : Int64).toInt = -1 from rfl]; omega
    · exact hS.2 rn i (by omega) h2 c h3
theorem own_hn (hcz : own_cz cn cz) (hrd : rd.toInt = (rn : Int)) (h : (lcmpW rd (own_sz cn)) < (0 : Int32)) : rn < cz ∧ own_pl rd rn := by
  have h' := own_lc_lt.mp h
  rw [own_sz_int, hcz.1, hrd] at h'
  have := hcz.2
  exact ⟨by omega, hrd, by omega⟩
theorem own_r_s (hcz : own_cz cn cz) (h : rn < cz ∧ own_pl rd rn) : (rd + (1 : Int64)).toInt = ((rn + 1 : Nat) : Int) := by
  have a := c_ladd rd 1
  have a1 : (1 : Int64).toInt = 1 := rfl
  have b := Int64.le_toInt (rd + 1); have b2 := Int64.toInt_lt (rd + 1)
  have := h.2.1; have := h.2.2
  omega
theorem own_J_x (hcz : own_cz cn cz) (h : own_J hd cz q rn nx) (hrd : rd.toInt = (rn : Int)) (hl : (lcmpW nx q) < (0 : Int32)) (hm : ¬ (lcmpW rd (own_sz cn)) < (0 : Int32)) : own_J hd cz q rn (9223372036854775807 : Int64) := by
  have hl' := own_lc_lt.mp hl
  have hm' : ¬ rd.toInt < (own_sz cn).toInt := fun z => hm (own_lc_lt.mpr z)
  rw [own_sz_int, hcz.1, hrd] at hm'
  have h0 := h.1
  have e : rn = cz := by omega
  refine ⟨h0, fun i h1 h2 => ?_, Or.inl rfl, Or.inl ⟨rfl, e⟩⟩
  rcases h.2.1 i h1 h2 with c | c | c
  · exact Or.inl c
  · exact Or.inl (by rw [c]; exact hl')
  · omega
theorem own_max (z : Int64) : ¬ (lcmpW (9223372036854775807 : Int64) z) < (0 : Int32) := fun h => by
  have h' := own_lc_lt.mp h
  have := Int64.toInt_lt z
  rw [show (9223372036854775807 : Int64).toInt = 9223372036854775807 from rfl] at h'
  omega
theorem own_maxn (h : own_si q) : ¬ (lcmpW (9223372036854775807 : Int64) q) = (0 : Int32) := fun e => by
  have e' := own_lc_eq.mp e
  have := h.2
  rw [← e', show (9223372036854775807 : Int64).toInt = 9223372036854775807 from rfl] at this
  omega
theorem own_res_n (hs : own_si q) (h : own_J hd cz q rn nx) (h1 : ¬ (lcmpW nx q) < (0 : Int32)) (h2 : ¬ (lcmpW nx q) = (0 : Int32)) : own_res hd cz q (0 : Int32) := by
  refine Or.inr ⟨rfl, fun ⟨i, hi, e⟩ => ?_⟩
  have h1' := fun z => h1 (own_lc_lt.mpr z)
  have h2' := fun z => h2 (own_lc_eq.mpr z)
  have h0 : 0 ≤ (hd i).toInt := by rw [e]; exact hs.1
  rcases h.2.1 i hi h0 with c | c | c
  · rw [e] at c; omega
  · exact h2' (c.symm.trans e)
  · rcases h.2.2.2 with d | d
    · omega
    · have := d i c hi h0
      rw [e] at this
      exact h1' this
theorem own_res_y (hs : own_si q) (h : own_J hd cz q rn nx) (h2 : (lcmpW nx q) = (0 : Int32)) : own_res hd cz q (1 : Int32) := by
  have h2' := own_lc_eq.mp h2
  subst h2'
  refine Or.inl ⟨rfl, ?_⟩
  have := hs.1; have := hs.2
  rcases h.2.2.1 with c | c | c
  · omega
  · omega
  · exact c
theorem own_res_i1 (h : own_res hd cz q r) (hr : ¬ r = (0 : Int32)) : own_res hd cz q (1 : Int32) := h.elim (fun z => Or.inl ⟨rfl, z.2⟩) (fun z => absurd z.1 hr)
theorem own_res_i0 (h : own_res hd cz q r) (hr : r = (0 : Int32)) : own_res hd cz q (0 : Int32) := hr ▸ h
theorem own_res_lt (hs : own_si q) (h : own_J hd cz q0 rn nx) (hq : q0.toInt ≤ q.toInt) (hl : (lcmpW q nx) < (0 : Int32)) : own_res hd cz q (0 : Int32) := by
  have hl' := own_lc_lt.mp hl
  refine own_res_n hs (own_J_m h hq) (fun z => ?_) (fun z => ?_)
  · have := own_lc_lt.mp z; omega
  · have := own_lc_eq.mp z; rw [this] at hl'; omega
theorem own_yes (h : own_res hd cz q r) (g : ∃ i, i < cz ∧ hd i = q) : r = (1 : Int32) := h.elim (fun z => z.1) (fun z => absurd g z.2)
theorem own_no (h : own_res hd cz q r) (g : ¬ ∃ i, i < cz ∧ hd i = q) : r = (0 : Int32) := h.elim (fun z => absurd z.2 g) (fun z => z.1)
theorem own_ne0 (h : r = (1 : Int32)) : ¬ (r = (0 : Int32)) := by rw [h]; decide
end OwnRd
-- the law's own figures
def own_v4 (g0 s1 g2 s2 : Int64) : Prop := 0 ≤ g0.toInt ∧ g0.toInt < s1.toInt ∧ s1.toInt < g2.toInt ∧ g2.toInt < s2.toInt ∧ s2.toInt + 2 < 9223372036854775807
theorem own_lev (z : Int32) : ∃ n, own_ix (z &&& (7 : Int32)) n ∧ n < 8 := by
  have q := c_mask z 7 3 (by decide) (by decide)
  rw [show ((2 ^ 3 : Nat) : Int) = 8 from rfl] at q
  refine ⟨(z.toInt % 8).toNat, ⟨?_, ?_⟩, ?_⟩ <;> omega
theorem own_mode (z : Int32) : (z &&& (3 : Int32)) = (0 : Int32) ∨ (z &&& (3 : Int32)) = (1 : Int32) ∨ (z &&& (3 : Int32)) = (2 : Int32) ∨ (z &&& (3 : Int32)) = (3 : Int32) := by
  have q := c_mask z 3 2 (by decide) (by decide)
  simp only [← Int32.toInt_inj]
  rw [q, show (0 : Int32).toInt = 0 from rfl, show (1 : Int32).toInt = 1 from rfl, show (2 : Int32).toInt = 2 from rfl, show (3 : Int32).toInt = 3 from rfl, show ((2 ^ 2 : Nat) : Int) = 4 from rfl]
  omega
theorem own_m60 (z : Int64) : 0 ≤ (z &&& (1152921504606846975 : Int64)).toInt ∧ (z &&& (1152921504606846975 : Int64)).toInt < 1152921504606846976 := by
  have q := c_maskL z 1152921504606846975 60 (by decide) (by decide)
  rw [show ((2 ^ 60 : Nat) : Int) = 1152921504606846976 from rfl] at q
  omega
theorem own_add1 {g w : Int64} (h0 : 0 ≤ g.toInt) (h1 : g.toInt < 3458764513820540928) (h2 : 0 ≤ w.toInt ∧ w.toInt < 1152921504606846976) : ((g + (1 : Int64)) + w).toInt = g.toInt + 1 + w.toInt := by
  have a := c_ladd g 1
  have b := c_ladd (g + 1) w
  have a1 : (1 : Int64).toInt = 1 := rfl
  have b1 := Int64.le_toInt (g + 1 + w); have b2 := Int64.toInt_lt (g + 1 + w)
  omega
theorem own_vals (a b c d : Int64) : own_v4 (a &&& (1152921504606846975 : Int64)) (((a &&& (1152921504606846975 : Int64)) + (1 : Int64)) + (b &&& (1152921504606846975 : Int64))) (((((a &&& (1152921504606846975 : Int64)) + (1 : Int64)) + (b &&& (1152921504606846975 : Int64))) + (1 : Int64)) + (c &&& (1152921504606846975 : Int64))) (((((((a &&& (1152921504606846975 : Int64)) + (1 : Int64)) + (b &&& (1152921504606846975 : Int64))) + (1 : Int64)) + (c &&& (1152921504606846975 : Int64))) + (1 : Int64)) + (d &&& (1152921504606846975 : Int64))) := by
  have ha := own_m60 a; have hb := own_m60 b; have hc := own_m60 c; have hd := own_m60 d
  generalize a &&& (1152921504606846975 : Int64) = x at *
  generalize b &&& (1152921504606846975 : Int64) = y at *
  generalize c &&& (1152921504606846975 : Int64) = z at *
  generalize d &&& (1152921504606846975 : Int64) = w at *
  have e1 := own_add1 ha.1 (by omega) hb
  generalize (x + 1) + y = s1 at *
  have e2 := own_add1 (g := s1) (by omega) (by omega) hc
  generalize (s1 + 1) + z = g2 at *
  have e3 := own_add1 (g := g2) (by omega) (by omega) hd
  unfold own_v4
  omega
def own_cf0 (ln j : Nat) : Nat := if j ≤ ln then j else ln + 2
def own_cf1 (_ j : Nat) : Nat := j
def own_cf2 (ln j : Nat) : Nat := if j ≤ ln then j else if j = ln + 1 then ln else ln + 2
def own_cf3 (ln j : Nat) : Nat := if j ≤ ln then j else if j = ln + 1 then ln else ln + 1
abbrev own_z (_ : Nat) : Int32 := (0 : Int32)
theorem own_gr0 : own_gr (0 : Int32) = (1 : Int32) := rfl
theorem own_gr1 : own_gr (1 : Int32) = (0 : Int32) := rfl
section OwnLaw
variable {ln : Nat} {site : Int64}
theorem own_n2 : ((1 : Int32) + (0 : Int32)).toInt = 1 ∧ ((1 : Int32) + (1 : Int32)).toInt = 2 ∧ ((0 : Int32) + (1 : Int32)).toInt = 1 ∧ ((0 : Int32) + (0 : Int32)).toInt = 0 := ⟨rfl, rfl, rfl, rfl⟩
theorem own_cf_1 (h : ln < 8) : own_cf (own_up (fun _ => (0 : Int32)) ln (1 : Int32)) (own_up (fun _ => (0 : Int32)) ln (1 : Int32)) (own_cf1 ln) ln := by
  refine ⟨rfl, fun j hj => ?_⟩
  unfold own_up own_cf1
  obtain ⟨n1, n2, n3, n4⟩ := own_n2
  by_cases e : j = ln
  · rw [if_pos e, own_gr1, n3]; exact ⟨Or.inr rfl, by omega, by omega⟩
  · rw [if_neg e, own_gr0, n1]; exact ⟨Or.inl rfl, by omega, by omega⟩
theorem own_k0_1 (ln : Nat) : (((own_gr ((own_up (fun _ => (0 : Int32)) ln (1 : Int32)) 0)) + ((own_up (fun _ => (0 : Int32)) ln (1 : Int32)) 0)) = (0 : Int32) ∧ ln = 1 ∧ (((own_gr ((own_up (fun _ => (0 : Int32)) ln (1 : Int32)) 1)) + ((own_up (fun _ => (0 : Int32)) ln (1 : Int32)) 1)) = (1 : Int32) ∨ ((own_gr ((own_up (fun _ => (0 : Int32)) ln (1 : Int32)) 1)) + ((own_up (fun _ => (0 : Int32)) ln (1 : Int32)) 1)) = (2 : Int32))) ∨ ((own_gr ((own_up (fun _ => (0 : Int32)) ln (1 : Int32)) 0)) + ((own_up (fun _ => (0 : Int32)) ln (1 : Int32)) 0)) = (1 : Int32) ∨ ((own_gr ((own_up (fun _ => (0 : Int32)) ln (1 : Int32)) 0)) + ((own_up (fun _ => (0 : Int32)) ln (1 : Int32)) 0)) = (2 : Int32) := by
  refine Or.inr (Or.inl ?_)
  unfold own_up
  split <;> rfl
theorem own_zz (x : Int64) : x - x = 0 := Int64.sub_self x
theorem own_off {z : Int64} {n k : Nat} {b : Int32} {f : Int64} (hz : z.toInt = (n : Int)) (hb : b.toInt = (k : Int)) (hf : f = site) (hk : k < 2) (hn : n + k < 16) : own_pl (z + ((b.toInt64) + (site - f))) (n + k) := by
  subst hf
  refine ⟨?_, hn⟩
  have a := c_lsub f f
  have b1 := c_ladd b.toInt64 (f - f)
  have b2 := c_ladd z (b.toInt64 + (f - f))
  have e := c_i2l b
  have l1 := Int64.le_toInt (f - f); have l2 := Int64.toInt_lt (f - f)
  have l3 := Int64.le_toInt (z + (b.toInt64 + (f - f))); have l4 := Int64.toInt_lt (z + (b.toInt64 + (f - f)))
  omega
theorem own_p_1 (h : ln < 8) : ∀ zz : Int64, zz.toInt = (own_cf1 ln ln : Int) → own_pl (zz + (((own_gr ((own_up (fun _ => (0 : Int32)) ln (1 : Int32)) ln)).toInt64) + (site - ((own_up (fun _ => (0 : Int64)) ln site) ln)))) ln := fun zz hz =>
  own_off (n := ln) (k := 0) hz (by rw [own_up_same]; rfl) (own_up_same _ _ _) (by omega) (by omega)
theorem own_cf_2 (h : ln < 8) : own_cf (own_up (fun _ => (0 : Int32)) ln (1 : Int32)) (own_up (fun _ => (0 : Int32)) (ln + 1) (1 : Int32)) (own_cf2 ln) (ln + 1) := by
  refine ⟨by unfold own_cf2; rw [if_pos (Nat.zero_le _)], fun j hj => ?_⟩
  obtain ⟨n1, n2, n3, n4⟩ := own_n2
  by_cases e : j = ln
  · have m : own_up (fun _ => (0 : Int32)) ln (1 : Int32) j = 1 := if_pos e
    have f : own_up (fun _ => (0 : Int32)) (ln + 1) (1 : Int32) j = 0 := if_neg (by omega)
    have c0 : own_cf2 ln j = ln := (if_pos (by omega)).trans e
    have c1 : own_cf2 ln (j + 1) = ln := (if_neg (by omega)).trans (if_pos (by omega))
    rw [m, f, c0, c1, own_gr1, n4]; exact ⟨Or.inl rfl, by omega, by omega⟩
  · by_cases e2 : j = ln + 1
    · have m : own_up (fun _ => (0 : Int32)) ln (1 : Int32) j = 0 := if_neg e
      have f : own_up (fun _ => (0 : Int32)) (ln + 1) (1 : Int32) j = 1 := if_pos e2
      have c0 : own_cf2 ln j = ln := (if_neg (by omega)).trans (if_pos e2)
      have c1 : own_cf2 ln (j + 1) = ln + 2 := (if_neg (by omega)).trans (if_neg (by omega))
      rw [m, f, c0, c1, own_gr0, n2]; exact ⟨Or.inr rfl, by omega, by omega⟩
    · have m : own_up (fun _ => (0 : Int32)) ln (1 : Int32) j = 0 := if_neg e
      have f : own_up (fun _ => (0 : Int32)) (ln + 1) (1 : Int32) j = 0 := if_neg e2
      have c0 : own_cf2 ln j = j := if_pos (by omega)
      have c1 : own_cf2 ln (j + 1) = j + 1 := if_pos (by omega)
      rw [m, f, c0, c1, own_gr0, n1]; exact ⟨Or.inl rfl, by omega, by omega⟩
theorem own_k0_2 (ln : Nat) : (((own_gr ((own_up (fun _ => (0 : Int32)) ln (1 : Int32)) 0)) + ((own_up (fun _ => (0 : Int32)) (ln + 1) (1 : Int32)) 0)) = (0 : Int32) ∧ (ln + 1) = 1 ∧ (((own_gr ((own_up (fun _ => (0 : Int32)) ln (1 : Int32)) 1)) + ((own_up (fun _ => (0 : Int32)) (ln + 1) (1 : Int32)) 1)) = (1 : Int32) ∨ ((own_gr ((own_up (fun _ => (0 : Int32)) ln (1 : Int32)) 1)) + ((own_up (fun _ => (0 : Int32)) (ln + 1) (1 : Int32)) 1)) = (2 : Int32))) ∨ ((own_gr ((own_up (fun _ => (0 : Int32)) ln (1 : Int32)) 0)) + ((own_up (fun _ => (0 : Int32)) (ln + 1) (1 : Int32)) 0)) = (1 : Int32) ∨ ((own_gr ((own_up (fun _ => (0 : Int32)) ln (1 : Int32)) 0)) + ((own_up (fun _ => (0 : Int32)) (ln + 1) (1 : Int32)) 0)) = (2 : Int32) := by
  unfold own_up
  by_cases e : ln = 0
  · subst e; exact Or.inl ⟨rfl, rfl, Or.inr rfl⟩
  · rw [if_neg (by omega : ¬ 0 = ln), if_neg (by omega : ¬ 0 = ln + 1)]; exact Or.inr (Or.inl rfl)
theorem own_p_2 (h : ln < 8) : ∀ zz : Int64, zz.toInt = (own_cf2 ln (ln + 1) : Int) → own_pl (zz + (((own_gr ((own_up (fun _ => (0 : Int32)) ln (1 : Int32)) (ln + 1))).toInt64) + (site - ((own_up (fun _ => (0 : Int64)) (ln + 1) site) (ln + 1))))) (ln + 1) := fun zz hz =>
  own_off (n := ln) (k := 1) (by rw [hz]; unfold own_cf2; rw [if_neg (by omega), if_pos rfl]) (by unfold own_up; rw [if_neg (by omega)]; rfl) (own_up_same _ _ _) (by omega) (by omega)
theorem own_cf_3 (h : ln < 8) : own_cf (own_up (fun _ => (0 : Int32)) ln (1 : Int32)) (fun _ => (0 : Int32)) (own_cf3 ln) (ln + 1) := by
  refine ⟨by unfold own_cf3; rw [if_pos (Nat.zero_le _)], fun j hj => ?_⟩
  obtain ⟨n1, n2, n3, n4⟩ := own_n2
  by_cases e : j = ln
  · have m : own_up (fun _ => (0 : Int32)) ln (1 : Int32) j = 1 := if_pos e
    have c0 : own_cf3 ln j = ln := (if_pos (by omega)).trans e
    have c1 : own_cf3 ln (j + 1) = ln := (if_neg (by omega)).trans (if_pos (by omega))
    rw [m, c0, c1, own_gr1, n4]; exact ⟨Or.inl rfl, by omega, by omega⟩
  · by_cases e2 : j = ln + 1
    · have m : own_up (fun _ => (0 : Int32)) ln (1 : Int32) j = 0 := if_neg e
      have c0 : own_cf3 ln j = ln := (if_neg (by omega)).trans (if_pos e2)
      have c1 : own_cf3 ln (j + 1) = ln + 1 := (if_neg (by omega)).trans (if_neg (by omega))
      rw [m, c0, c1, own_gr0, n1]; exact ⟨Or.inl rfl, by omega, by omega⟩
    · have m : own_up (fun _ => (0 : Int32)) ln (1 : Int32) j = 0 := if_neg e
      have c0 : own_cf3 ln j = j := if_pos (by omega)
      have c1 : own_cf3 ln (j + 1) = j + 1 := if_pos (by omega)
      rw [m, c0, c1, own_gr0, n1]; exact ⟨Or.inl rfl, by omega, by omega⟩
theorem own_k0_3 (ln : Nat) : (((own_gr ((own_up (fun _ => (0 : Int32)) ln (1 : Int32)) 0)) + ((fun _ => (0 : Int32)) 0)) = (0 : Int32) ∧ (ln + 1) = 1 ∧ (((own_gr ((own_up (fun _ => (0 : Int32)) ln (1 : Int32)) 1)) + ((fun _ => (0 : Int32)) 1)) = (1 : Int32) ∨ ((own_gr ((own_up (fun _ => (0 : Int32)) ln (1 : Int32)) 1)) + ((fun _ => (0 : Int32)) 1)) = (2 : Int32))) ∨ ((own_gr ((own_up (fun _ => (0 : Int32)) ln (1 : Int32)) 0)) + ((fun _ => (0 : Int32)) 0)) = (1 : Int32) ∨ ((own_gr ((own_up (fun _ => (0 : Int32)) ln (1 : Int32)) 0)) + ((fun _ => (0 : Int32)) 0)) = (2 : Int32) := by
  unfold own_up
  by_cases e : ln = 0
  · subst e; exact Or.inl ⟨rfl, rfl, Or.inl rfl⟩
  · rw [if_neg (by omega : ¬ 0 = ln)]; exact Or.inr (Or.inl rfl)
theorem own_pl0 {z : Int64} {n : Nat} (h : z.toInt = (n : Int)) (hn : n < 16) : own_pl (z + (0 : Int64)) n := by
  refine ⟨?_, hn⟩
  have a := c_ladd z 0
  have a0 : (0 : Int64).toInt = 0 := rfl
  have l3 := Int64.le_toInt (z + 0); have l4 := Int64.toInt_lt (z + 0)
  omega
theorem own_p_3 (h : ln < 8) : ∀ zz : Int64, zz.toInt = (own_cf3 ln (ln + 1) : Int) → own_pl (zz + (0 : Int64)) ln := fun zz hz =>
  own_pl0 (by rw [hz]; unfold own_cf3; rw [if_neg (by omega), if_pos rfl]) (by omega)
abbrev own_mg0 (ln : Nat) : Nat → Int32 := own_up (own_up (fun _ => (0 : Int32)) ln (1 : Int32)) ln (0 : Int32)
theorem own_mg0_z (ln j : Nat) : own_mg0 ln j = 0 := by
  show own_up (own_up (fun _ => (0 : Int32)) ln (1 : Int32)) ln (0 : Int32) j = 0
  unfold own_up
  by_cases e : j = ln
  · rw [if_pos e]
  · rw [if_neg e, if_neg e]
theorem own_cf_0 (h : ln < 8) : own_cf (own_up (own_up (fun _ => (0 : Int32)) ln (1 : Int32)) ln (0 : Int32)) (own_up (fun _ => (0 : Int32)) ln (1 : Int32)) (own_cf0 ln) ln := by
  refine ⟨by unfold own_cf0; rw [if_pos (Nat.zero_le _)], fun j hj => ?_⟩
  have hm := own_mg0_z ln j
  obtain ⟨n1, n2, n3, n4⟩ := own_n2
  show (own_up _ ln 1 j = 0 ∨ own_up _ ln 1 j = 1) ∧ ((own_cf0 ln (j + 1) : Nat) : Int) = own_cf0 ln j + (own_gr (own_mg0 ln j) + own_up _ ln 1 j).toInt ∧ _
  rw [hm, own_gr0]
  unfold own_up own_cf0
  by_cases e : j = ln
  · rw [if_pos e, n2, if_neg (by omega), if_pos (by omega)]; exact ⟨Or.inr rfl, by omega, by omega⟩
  · rw [if_neg e, n1, if_pos (by omega), if_pos (by omega)]; exact ⟨Or.inl rfl, by omega, by omega⟩
theorem own_k0_0 (ln : Nat) : (((own_gr ((own_up (own_up (fun _ => (0 : Int32)) ln (1 : Int32)) ln (0 : Int32)) 0)) + ((own_up (fun _ => (0 : Int32)) ln (1 : Int32)) 0)) = (0 : Int32) ∧ ln = 1 ∧ (((own_gr ((own_up (own_up (fun _ => (0 : Int32)) ln (1 : Int32)) ln (0 : Int32)) 1)) + ((own_up (fun _ => (0 : Int32)) ln (1 : Int32)) 1)) = (1 : Int32) ∨ ((own_gr ((own_up (own_up (fun _ => (0 : Int32)) ln (1 : Int32)) ln (0 : Int32)) 1)) + ((own_up (fun _ => (0 : Int32)) ln (1 : Int32)) 1)) = (2 : Int32))) ∨ ((own_gr ((own_up (own_up (fun _ => (0 : Int32)) ln (1 : Int32)) ln (0 : Int32)) 0)) + ((own_up (fun _ => (0 : Int32)) ln (1 : Int32)) 0)) = (1 : Int32) ∨ ((own_gr ((own_up (own_up (fun _ => (0 : Int32)) ln (1 : Int32)) ln (0 : Int32)) 0)) + ((own_up (fun _ => (0 : Int32)) ln (1 : Int32)) 0)) = (2 : Int32) := by
  refine Or.inr ?_
  have hm := own_mg0_z ln 0
  unfold own_mg0 at hm
  rw [hm, own_gr0]
  unfold own_up
  split
  · exact Or.inr rfl
  · exact Or.inl rfl
theorem own_p_0 (h : ln < 8) : ∀ zz : Int64, zz.toInt = (own_cf0 ln ln : Int) → own_pl (zz + (((own_gr ((own_up (own_up (fun _ => (0 : Int32)) ln (1 : Int32)) ln (0 : Int32)) ln)).toInt64) + (site - ((own_up (fun _ => (0 : Int64)) ln site) ln)))) (ln + 1) := fun zz hz =>
  own_off (n := ln) (k := 1) (by rw [hz]; unfold own_cf0; rw [if_pos (Nat.le_refl _)]) (by rw [own_up_same]; rfl) (own_up_same _ _ _) (by omega) (by omega)
theorem own_k2 (ln : Nat) (f : Nat → Int32) (g : Nat → Int32) : ((own_gr ((own_up g ln (0 : Int32)) ln)) + ((own_up f ln (1 : Int32)) ln)) = (2 : Int32) := by rw [own_up_same, own_up_same]; rfl
theorem own_p1 {cn : Int32} {cz : Nat} (h : cn.toInt = (cz : Int)) (hn : cz + 1 < 16) (ln : Nat) (g : Nat → Int32) (f : Nat → Int64) (site : Int64) : own_pl ((own_sz cn) + (((own_gr ((own_up g ln (0 : Int32)) ln)).toInt64) + (site - ((own_up f ln site) ln)))) (cz + 1) :=
  own_off (n := cz) (k := 1) (by rw [own_sz_int]; exact h) (by rw [own_up_same]; rfl) (own_up_same _ _ _) (by omega) (by omega)
section
variable {pn on : Nat} {sg hd hd2 : Nat → Int64} {cn cn2 jj : Int32} {g0 s1 g2 s2 : Int64}
theorem own_czq1 (h : own_mkp ln (own_cf1 ln) pn site sg hd cn jj) : cn.toInt = ((ln + 1 : Nat) : Int) := h.2.1
theorem own_czq2 (h : own_mkp (ln + 1) (own_cf2 ln) pn site sg hd cn jj) : cn.toInt = ((ln + 2 : Nat) : Int) := by
  rw [h.2.1]; unfold own_cf2; rw [if_neg (by omega), if_neg (by omega)]
theorem own_czq3 (h : own_mkp (ln + 1) (own_cf3 ln) pn site sg hd cn jj) : cn.toInt = ((ln + 1 : Nat) : Int) := by
  rw [h.2.1]; unfold own_cf3; rw [if_neg (by omega), if_neg (by omega)]
theorem own_pg0 (h8 : ln < 8) (h : own_mkp ln (own_cf0 ln) pn site sg hd cn jj) : own_pl ((sg ln) + (0 : Int64)) ln := own_pl0 (by rw [h.2.2.1 ln (Nat.le_refl _)]; unfold own_cf0; rw [if_pos (Nat.le_refl _)]) (by omega)
theorem own_pg1 {cz : Nat} (h : cn.toInt = (cz : Int)) (hn : cz < 16) (g : Nat → Int64) (ln : Nat) : own_pl (((own_up g ln (own_sz cn)) ln) + (0 : Int64)) cz := own_pl0 (by rw [own_up_same, own_sz_int]; exact h) hn
theorem own_outer {lev x ou : Int32} (hl : own_ix lev ln) (h1 : ¬ (lev < (1 : Int32))) (e : ou = own_irem ((x) &&& (7 : Int32)) lev) : ∃ n, own_ix ou n ∧ n < ln := by
  have q := c_mask x 7 3 (by decide) (by decide)
  rw [show ((2 ^ 3 : Nat) : Int) = 8 from rfl] at q
  rw [own_irem_mod] at e
  rw [Int32.lt_iff_toInt_lt, show (1 : Int32).toInt = 1 from rfl] at h1
  have r := (c_iremV (x &&& 7) lev).1 (by omega) (by omega)
  rw [← e] at r
  have := hl.1; have := hl.2
  refine ⟨ou.toInt.toNat, ⟨?_, ?_⟩, ?_⟩ <;> omega
theorem own_ou_lt {lev ou : Int32} (hl : own_ix lev ln) (h : own_ix ou on) (q : on < ln) : ou < lev := by
  rw [Int32.lt_iff_toInt_lt, hl.1, h.1]; omega
theorem own_nz1 {lev : Int32} (h1 : ¬ (lev < (1 : Int32))) : lev ≠ 0 := fun e => h1 (by rw [e]; decide)
theorem own_po0 (h8 : ln < 8) (q : on < ln) (h : own_mkp ln (own_cf0 ln) pn site sg hd cn jj) : own_pl ((sg on) + (0 : Int64)) on := own_pl0 (by rw [h.2.2.1 on (by omega)]; unfold own_cf0; rw [if_pos (by omega)]) (by omega)
theorem own_po1 {v : Int64} (h8 : ln < 8) (q : on < ln) (h : own_mkp ln (own_cf1 ln) pn site sg hd cn jj) : own_pl (((own_up sg ln v) on) + (0 : Int64)) on := own_pl0 (by unfold own_up; rw [if_neg (by omega), h.2.2.1 on (by omega)]; rfl) (by omega)
theorem own_po2 {v : Int64} (h8 : ln < 8) (q : on < ln) (h : own_mkp (ln + 1) (own_cf2 ln) pn site sg hd cn jj) : own_pl (((own_up sg ln v) on) + (0 : Int64)) on := own_pl0 (by unfold own_up; rw [if_neg (by omega), h.2.2.1 on (by omega)]; unfold own_cf2; rw [if_pos (by omega)]) (by omega)
theorem own_po3 {v : Int64} (h8 : ln < 8) (q : on < ln) (h : own_mkp (ln + 1) (own_cf3 ln) pn site sg hd cn jj) : own_pl (((own_up sg ln v) on) + (0 : Int64)) on := own_pl0 (by unfold own_up; rw [if_neg (by omega), h.2.2.1 on (by omega)]; unfold own_cf3; rw [if_pos (by omega)]) (by omega)
-- what the order holds in the end
def own_W (F : Nat → Int64) (c : Nat) (b0 : Bool) (P0 : Nat) (b1 : Bool) (P1 P2 : Nat) (g0 s1 g2 s2 : Int64) : Prop := c = P2 + 2 ∧ (b0 = true → P0 < P2) ∧ (b1 = true → P1 < P2) ∧ (b0 = true → b1 = true → P0 < P1) ∧
  ∀ i, i < c → F i = if b0 = true ∧ i = P0 then g0 else if b1 = true ∧ i = P1 then s1 else if i = P2 then g2 else if i = P2 + 1 then s2 else -1
theorem own_W0 (h : own_mkp ln (own_cf0 ln) (ln + 1) s2 sg hd cn jj) : own_W (own_up hd ln g2) (ln + 2) false 0 false 0 ln g0 s1 g2 s2 := by
  refine ⟨rfl, nofun, nofun, nofun, fun i hi => ?_⟩
  have h4 := h.2.2.2 i (by unfold own_cf0; rw [if_neg (by omega)]; exact hi)
  unfold own_up
  rw [if_neg (show ¬ (false = true ∧ i = 0) from fun q => by cases q.1), if_neg (show ¬ (false = true ∧ i = 0) from fun q => by cases q.1)]
  by_cases e : i = ln
  · rw [if_pos e, if_pos e]
  · rw [if_neg e, if_neg e, h4]
theorem own_W1 {cz : Nat} (hb : ∀ i, i < cz → hd i = if i = pn then s1 else -1) (hp : pn < cz) (ha : own_ap hd hd2 cz (2 : Int32) cn2) : own_W (own_up (own_up hd2 (cz + 1) s2) cz g2) (cz + 2) false 0 true pn cz g0 s1 g2 s2 := by
  have a2 : (2 : Int32).toInt = 2 := rfl
  refine ⟨rfl, nofun, fun _ => hp, nofun, fun i hi => ?_⟩
  unfold own_up
  rw [if_neg (show ¬ (false = true ∧ i = 0) from fun q => by cases q.1)]
  by_cases e : i = cz
  · rw [if_pos e, if_neg (show ¬ (true = true ∧ i = pn) from fun q => by omega), if_pos e]
  · by_cases e2 : i = cz + 1
    · rw [if_neg e, if_pos e2, if_neg (show ¬ (true = true ∧ i = pn) from fun q => by omega), if_neg e, if_pos e2]
    · rw [if_neg e, if_neg e2, if_neg e, if_neg e2, ha.2.1 i (by omega), hb i (by omega)]
      by_cases e3 : i = pn
      · rw [if_pos e3, if_pos ⟨rfl, e3⟩]
      · rw [if_neg e3, if_neg (fun q => e3 q.2)]
theorem own_base1 (h : own_mkp ln (own_cf1 ln) pn site sg hd cn jj) : ∀ i, i < ln + 1 → hd i = if i = pn then site else -1 := h.2.2.2
theorem own_base2 (h : own_mkp (ln + 1) (own_cf2 ln) pn site sg hd cn jj) : ∀ i, i < ln + 2 → hd i = if i = pn then site else -1 := fun i hi => h.2.2.2 i (by unfold own_cf2; rw [if_neg (by omega), if_neg (by omega)]; exact hi)
theorem own_base3 (h : own_mkp (ln + 1) (own_cf3 ln) pn site sg hd cn jj) : ∀ i, i < ln + 1 → hd i = if i = pn then site else -1 := fun i hi => h.2.2.2 i (by unfold own_cf3; rw [if_neg (by omega), if_neg (by omega)]; exact hi)
theorem own_cz0 (h8 : ln < 8) (h : own_mkp ln (own_cf0 ln) pn site sg hd cn jj) : own_cz cn (ln + 2) := ⟨by rw [h.2.1]; unfold own_cf0; rw [if_neg (by omega)], by omega⟩
theorem own_cz1 {cz : Nat} (h : own_ap hd hd2 cz (2 : Int32) cn2) (hn : cz + 2 ≤ 16) : own_cz cn2 (cz + 2) := ⟨by rw [h.1, show (2 : Int32).toInt = 2 from rfl]; omega, hn⟩
variable {F : Nat → Int64} {c P0 P1 P2 : Nat} {b0 b1 : Bool}
theorem own_W_add (h : own_W F c false 0 b1 P1 P2 g0 s1 g2 s2) (h1 : on < P2) (h2 : b1 = true → on < P1) : own_W (own_up F on g0) c true on b1 P1 P2 g0 s1 g2 s2 := by
  refine ⟨h.1, fun _ => h1, h.2.2.1, fun _ => h2, fun i hi => ?_⟩
  unfold own_up
  have := h.2.2.2.2 i hi
  rw [if_neg (fun q => by cases q.1)] at this
  by_cases e : i = on
  · rw [if_pos e, if_pos ⟨rfl, e⟩]
  · rw [if_neg e, if_neg (fun q => e q.2), this]
theorem own_W_S (h : own_W F c b0 P0 b1 P1 P2 g0 s1 g2 s2) (hv : own_v4 g0 s1 g2 s2) : own_S F c := by
  obtain ⟨hc, h1, h2, h3, hF⟩ := h
  obtain ⟨v1, v2, v3, v4, v5⟩ := hv
  have m1 : (-1 : Int64).toInt = -1 := rfl
  have key : ∀ i, i < c → (b0 = true ∧ i = P0 ∧ F i = g0) ∨ (b1 = true ∧ i = P1 ∧ F i = s1) ∨ (i = P2 ∧ F i = g2) ∨ (i = P2 + 1 ∧ F i = s2) ∨ F i = -1 := fun i hi => by
    have e := hF i hi
    split at e
    · rename_i q; exact Or.inl ⟨q.1, q.2, e⟩
    · split at e
      · rename_i q; exact Or.inr (Or.inl ⟨q.1, q.2, e⟩)
      · split at e
        · rename_i q; exact Or.inr (Or.inr (Or.inl ⟨q, e⟩))
        · split at e
          · rename_i q; exact Or.inr (Or.inr (Or.inr (Or.inl ⟨q, e⟩)))
          · exact Or.inr (Or.inr (Or.inr (Or.inr e)))
  refine ⟨fun i hi => ?_, fun i j hij hj p q => ?_⟩
  · rcases key i hi with ⟨-, -, e⟩ | ⟨-, -, e⟩ | ⟨-, e⟩ | ⟨-, e⟩ | e <;> rw [e] <;> first | exact Or.inl rfl | exact Or.inr (by omega)
  · rcases key i (by omega) with ⟨a, a', e⟩ | ⟨a, a', e⟩ | ⟨a', e⟩ | ⟨a', e⟩ | e <;> rcases key j hj with ⟨b, b', f⟩ | ⟨b, b', f⟩ | ⟨b', f⟩ | ⟨b', f⟩ | f <;> rw [e] at p ⊢ <;> rw [f] at q ⊢ <;> (try have z1 := h1 (by assumption)) <;> (try have z2 := h2 (by assumption)) <;> (try have z3 := h3 (by assumption) (by assumption)) <;> omega
theorem own_W_y0 (h : own_W F c true P0 b1 P1 P2 g0 s1 g2 s2) (_ : own_v4 g0 s1 g2 s2) : ∃ i, i < c ∧ F i = g0 := ⟨P0, by have := h.1; have := h.2.1 rfl; omega, by rw [h.2.2.2.2 P0 (by have := h.1; have := h.2.1 rfl; omega), if_pos ⟨rfl, rfl⟩]⟩
theorem own_W_y1 (h : own_W F c b0 P0 true P1 P2 g0 s1 g2 s2) (_ : own_v4 g0 s1 g2 s2) : ∃ i, i < c ∧ F i = s1 := ⟨P1, by have := h.1; have := h.2.2.1 rfl; omega, by rw [h.2.2.2.2 P1 (by have := h.1; have := h.2.2.1 rfl; omega), if_neg (fun q => by have := h.2.2.2.1 q.1 rfl; omega), if_pos ⟨rfl, rfl⟩]⟩
theorem own_W_y2 (h : own_W F c b0 P0 b1 P1 P2 g0 s1 g2 s2) (_ : own_v4 g0 s1 g2 s2) : ∃ i, i < c ∧ F i = g2 := ⟨P2, by have := h.1; omega, by rw [h.2.2.2.2 P2 (by have := h.1; omega), if_neg (fun q => by have := h.2.1 q.1; omega), if_neg (fun q => by have := h.2.2.1 q.1; omega), if_pos rfl]⟩
theorem own_W_y3 (h : own_W F c b0 P0 b1 P1 P2 g0 s1 g2 s2) (_ : own_v4 g0 s1 g2 s2) : ∃ i, i < c ∧ F i = s2 := ⟨P2 + 1, by have := h.1; omega, by rw [h.2.2.2.2 (P2 + 1) (by have := h.1; omega), if_neg (fun q => by have := h.2.1 q.1; omega), if_neg (fun q => by have := h.2.2.1 q.1; omega), if_neg (by omega), if_pos rfl]⟩
theorem own_W_n0 (h : own_W F c false P0 b1 P1 P2 g0 s1 g2 s2) (hv : own_v4 g0 s1 g2 s2) : ¬ ∃ i, i < c ∧ F i = g0 := fun ⟨i, hi, e⟩ => by
  obtain ⟨v1, v2, v3, v4, v5⟩ := hv
  have e' := congrArg Int64.toInt ((h.2.2.2.2 i hi).symm.trans e)
  have m1 : (-1 : Int64).toInt = -1 := rfl
  rw [if_neg (fun q => by cases q.1)] at e'
  split at e' <;> (try split at e') <;> (try split at e') <;> omega
theorem own_W_n1 (h : own_W F c b0 P0 false P1 P2 g0 s1 g2 s2) (hv : own_v4 g0 s1 g2 s2) : ¬ ∃ i, i < c ∧ F i = s1 := fun ⟨i, hi, e⟩ => by
  obtain ⟨v1, v2, v3, v4, v5⟩ := hv
  have e' := congrArg Int64.toInt ((h.2.2.2.2 i hi).symm.trans e)
  have m1 : (-1 : Int64).toInt = -1 := rfl
  split at e'
  · omega
  · rw [if_neg (fun q => by cases q.1)] at e'
    split at e' <;> (try split at e') <;> omega
theorem own_s2p (hv : own_v4 g0 s1 g2 s2) : (s2 + (1 : Int64)).toInt = s2.toInt + 1 := by
  obtain ⟨v1, v2, v3, v4, v5⟩ := hv
  have a := c_ladd s2 1
  have a1 : (1 : Int64).toInt = 1 := rfl
  have l3 := Int64.le_toInt (s2 + 1); have l4 := Int64.toInt_lt (s2 + 1)
  omega
theorem own_W_n4 (h : own_W F c b0 P0 b1 P1 P2 g0 s1 g2 s2) (hv : own_v4 g0 s1 g2 s2) : ¬ ∃ i, i < c ∧ F i = (s2 + (1 : Int64)) := fun ⟨i, hi, e⟩ => by
  have e' := congrArg Int64.toInt ((h.2.2.2.2 i hi).symm.trans e)
  rw [own_s2p hv] at e'
  obtain ⟨v1, v2, v3, v4, v5⟩ := hv
  have m1 : (-1 : Int64).toInt = -1 := rfl
  split at e' <;> (try split at e') <;> (try split at e') <;> (try split at e') <;> omega
theorem own_v4_q0 (hv : own_v4 g0 s1 g2 s2) : (0 : Int64).toInt ≤ g0.toInt := hv.1
theorem own_v4_q1 (hv : own_v4 g0 s1 g2 s2) : g0.toInt ≤ s1.toInt := by have := hv.2.1; omega
theorem own_v4_q2 (hv : own_v4 g0 s1 g2 s2) : s1.toInt ≤ g2.toInt := by have := hv.2.2.1; omega
theorem own_v4_q3 (hv : own_v4 g0 s1 g2 s2) : g2.toInt ≤ s2.toInt := by have := hv.2.2.2.1; omega
theorem own_v4_q4 (hv : own_v4 g0 s1 g2 s2) : s2.toInt ≤ (s2 + (1 : Int64)).toInt := by rw [own_s2p hv]; omega
theorem own_v4_s0 (hv : own_v4 g0 s1 g2 s2) : own_si g0 := by obtain ⟨v1, v2, v3, v4, v5⟩ := hv; exact ⟨by omega, by omega⟩
theorem own_v4_s1 (hv : own_v4 g0 s1 g2 s2) : own_si s1 := by obtain ⟨v1, v2, v3, v4, v5⟩ := hv; exact ⟨by omega, by omega⟩
theorem own_v4_s2 (hv : own_v4 g0 s1 g2 s2) : own_si g2 := by obtain ⟨v1, v2, v3, v4, v5⟩ := hv; exact ⟨by omega, by omega⟩
theorem own_v4_s3 (hv : own_v4 g0 s1 g2 s2) : own_si s2 := by obtain ⟨v1, v2, v3, v4, v5⟩ := hv; exact ⟨by omega, by omega⟩
theorem own_v4_s4 (hv : own_v4 g0 s1 g2 s2) : own_si (s2 + (1 : Int64)) := by have e := own_s2p hv; obtain ⟨v1, v2, v3, v4, v5⟩ := hv; exact ⟨by omega, by omega⟩
end
end OwnLaw

theorem d1_0 : decode prog_13_method_1_code 0 = .ok (.aload_n 0, 1) := by decide +kernel
theorem d1_1 : decode prog_13_method_1_code 1 = .ok (.invokespecial 1, 3) := by decide +kernel
theorem d1_4 : decode prog_13_method_1_code 4 = .ok (.aload_n 0, 1) := by decide +kernel
theorem d1_5 : decode prog_13_method_1_code 5 = .ok (.getstatic 7, 3) := by decide +kernel
theorem d1_8 : decode prog_13_method_1_code 8 = .ok (.putfield 13, 3) := by decide +kernel
theorem d1_11 : decode prog_13_method_1_code 11 = .ok (.aload_n 0, 1) := by decide +kernel
theorem d1_12 : decode prog_13_method_1_code 12 = .ok (.getstatic 16, 3) := by decide +kernel
theorem d1_15 : decode prog_13_method_1_code 15 = .ok (.putfield 20, 3) := by decide +kernel
theorem d1_18 : decode prog_13_method_1_code 18 = .ok (.aload_n 0, 1) := by decide +kernel
theorem d1_19 : decode prog_13_method_1_code 19 = .ok (.getstatic 23, 3) := by decide +kernel
theorem d1_22 : decode prog_13_method_1_code 22 = .ok (.putfield 27, 3) := by decide +kernel
theorem d1_25 : decode prog_13_method_1_code 25 = .ok (.aload_n 0, 1) := by decide +kernel
theorem d1_26 : decode prog_13_method_1_code 26 = .ok (.getstatic 16, 3) := by decide +kernel
theorem d1_29 : decode prog_13_method_1_code 29 = .ok (.putfield 30, 3) := by decide +kernel
theorem d1_32 : decode prog_13_method_1_code 32 = .ok (.aload_n 0, 1) := by decide +kernel
theorem d1_33 : decode prog_13_method_1_code 33 = .ok (.iconst (-1), 1) := by decide +kernel
theorem d1_34 : decode prog_13_method_1_code 34 = .ok (.putfield 33, 3) := by decide +kernel
theorem d1_37 : decode prog_13_method_1_code 37 = .ok (.aload_n 0, 1) := by decide +kernel
theorem d1_38 : decode prog_13_method_1_code 38 = .ok (.iconst 1, 1) := by decide +kernel
theorem d1_39 : decode prog_13_method_1_code 39 = .ok (.putfield 37, 3) := by decide +kernel
theorem d1_42 : decode prog_13_method_1_code 42 = .ok (.aload_n 0, 1) := by decide +kernel
theorem d1_43 : decode prog_13_method_1_code 43 = .ok (.new 41, 3) := by decide +kernel
theorem d1_46 : decode prog_13_method_1_code 46 = .ok (.dup, 1) := by decide +kernel
theorem d1_47 : decode prog_13_method_1_code 47 = .ok (.invokespecial 43, 3) := by decide +kernel
theorem d1_50 : decode prog_13_method_1_code 50 = .ok (.putfield 44, 3) := by decide +kernel
theorem d1_53 : decode prog_13_method_1_code 53 = .ok (.aload_n 0, 1) := by decide +kernel
theorem d1_54 : decode prog_13_method_1_code 54 = .ok (.ldc2_w 50, 3) := by decide +kernel
theorem d1_57 : decode prog_13_method_1_code 57 = .ok (.putfield 52, 3) := by decide +kernel
theorem d1_60 : decode prog_13_method_1_code 60 = .ok (.return_, 1) := by decide +kernel
theorem d3_0 : decode prog_14_method_1_code 0 = .ok (.aload_n 0, 1) := by decide +kernel
theorem d3_1 : decode prog_14_method_1_code 1 = .ok (.invokespecial 3, 3) := by decide +kernel
theorem d3_4 : decode prog_14_method_1_code 4 = .ok (.aload_n 0, 1) := by decide +kernel
theorem d3_5 : decode prog_14_method_1_code 5 = .ok (.getstatic 9, 3) := by decide +kernel
theorem d3_8 : decode prog_14_method_1_code 8 = .ok (.putfield 13, 3) := by decide +kernel
theorem d3_11 : decode prog_14_method_1_code 11 = .ok (.aload_n 0, 1) := by decide +kernel
theorem d3_12 : decode prog_14_method_1_code 12 = .ok (.iconst 1, 1) := by decide +kernel
theorem d3_13 : decode prog_14_method_1_code 13 = .ok (.putfield 18, 3) := by decide +kernel
theorem d3_16 : decode prog_14_method_1_code 16 = .ok (.return_, 1) := by decide +kernel
theorem d4_0 : decode prog_13_method_2_code 0 = .ok (.aload_n 0, 1) := by decide +kernel
theorem d4_1 : decode prog_13_method_2_code 1 = .ok (.iload_n 1, 1) := by decide +kernel
theorem d4_2 : decode prog_13_method_2_code 2 = .ok (.invokevirtual 56, 3) := by decide +kernel
theorem d4_5 : decode prog_13_method_2_code 5 = .ok (.aload_n 0, 1) := by decide +kernel
theorem d4_6 : decode prog_13_method_2_code 6 = .ok (.getfield 13, 3) := by decide +kernel
theorem d4_9 : decode prog_13_method_2_code 9 = .ok (.iload_n 1, 1) := by decide +kernel
theorem d4_10 : decode prog_13_method_2_code 10 = .ok (.iconst 1, 1) := by decide +kernel
theorem d4_11 : decode prog_13_method_2_code 11 = .ok (.bastore, 1) := by decide +kernel
theorem d4_12 : decode prog_13_method_2_code 12 = .ok (.return_, 1) := by decide +kernel
theorem d5_0 : decode prog_13_method_10_code 0 = .ok (.iload_n 1, 1) := by decide +kernel
theorem d5_1 : decode prog_13_method_10_code 1 = .ok (.aload_n 0, 1) := by decide +kernel
theorem d5_2 : decode prog_13_method_10_code 2 = .ok (.getfield 13, 3) := by decide +kernel
theorem d5_5 : decode prog_13_method_10_code 5 = .ok (.arraylength, 1) := by decide +kernel
theorem d5_6 : decode prog_13_method_10_code 6 = .ok (.if_icmp .lt 70, 3) := by decide +kernel
theorem d5_9 : decode prog_13_method_10_code 9 = .ok (.bipush 16, 2) := by decide +kernel
theorem d5_11 : decode prog_13_method_10_code 11 = .ok (.iconst 2, 1) := by decide +kernel
theorem d5_12 : decode prog_13_method_10_code 12 = .ok (.aload_n 0, 1) := by decide +kernel
theorem d5_13 : decode prog_13_method_10_code 13 = .ok (.getfield 13, 3) := by decide +kernel
theorem d5_16 : decode prog_13_method_10_code 16 = .ok (.arraylength, 1) := by decide +kernel
theorem d5_17 : decode prog_13_method_10_code 17 = .ok (.imul, 1) := by decide +kernel
theorem d5_18 : decode prog_13_method_10_code 18 = .ok (.invokestatic 69, 3) := by decide +kernel
theorem d5_21 : decode prog_13_method_10_code 21 = .ok (.iload_n 1, 1) := by decide +kernel
theorem d5_22 : decode prog_13_method_10_code 22 = .ok (.iconst 1, 1) := by decide +kernel
theorem d5_23 : decode prog_13_method_10_code 23 = .ok (.iadd, 1) := by decide +kernel
theorem d5_24 : decode prog_13_method_10_code 24 = .ok (.invokestatic 69, 3) := by decide +kernel
theorem d5_27 : decode prog_13_method_10_code 27 = .ok (.istore_n 2, 1) := by decide +kernel
theorem d5_28 : decode prog_13_method_10_code 28 = .ok (.aload_n 0, 1) := by decide +kernel
theorem d5_29 : decode prog_13_method_10_code 29 = .ok (.aload_n 0, 1) := by decide +kernel
theorem d5_30 : decode prog_13_method_10_code 30 = .ok (.getfield 13, 3) := by decide +kernel
theorem d5_33 : decode prog_13_method_10_code 33 = .ok (.iload_n 2, 1) := by decide +kernel
theorem d5_34 : decode prog_13_method_10_code 34 = .ok (.invokestatic 91, 3) := by decide +kernel
theorem d5_37 : decode prog_13_method_10_code 37 = .ok (.putfield 13, 3) := by decide +kernel
theorem d5_40 : decode prog_13_method_10_code 40 = .ok (.aload_n 0, 1) := by decide +kernel
theorem d5_41 : decode prog_13_method_10_code 41 = .ok (.aload_n 0, 1) := by decide +kernel
theorem d5_42 : decode prog_13_method_10_code 42 = .ok (.getfield 20, 3) := by decide +kernel
theorem d5_45 : decode prog_13_method_10_code 45 = .ok (.iload_n 2, 1) := by decide +kernel
theorem d5_46 : decode prog_13_method_10_code 46 = .ok (.invokestatic 97, 3) := by decide +kernel
theorem d5_49 : decode prog_13_method_10_code 49 = .ok (.putfield 20, 3) := by decide +kernel
theorem d5_52 : decode prog_13_method_10_code 52 = .ok (.aload_n 0, 1) := by decide +kernel
theorem d5_53 : decode prog_13_method_10_code 53 = .ok (.aload_n 0, 1) := by decide +kernel
theorem d5_54 : decode prog_13_method_10_code 54 = .ok (.getfield 27, 3) := by decide +kernel
theorem d5_57 : decode prog_13_method_10_code 57 = .ok (.iload_n 2, 1) := by decide +kernel
theorem d5_58 : decode prog_13_method_10_code 58 = .ok (.invokestatic 100, 3) := by decide +kernel
theorem d5_61 : decode prog_13_method_10_code 61 = .ok (.putfield 27, 3) := by decide +kernel
theorem d5_64 : decode prog_13_method_10_code 64 = .ok (.aload_n 0, 1) := by decide +kernel
theorem d5_65 : decode prog_13_method_10_code 65 = .ok (.aload_n 0, 1) := by decide +kernel
theorem d5_66 : decode prog_13_method_10_code 66 = .ok (.getfield 30, 3) := by decide +kernel
theorem d5_69 : decode prog_13_method_10_code 69 = .ok (.iload_n 2, 1) := by decide +kernel
theorem d5_70 : decode prog_13_method_10_code 70 = .ok (.invokestatic 97, 3) := by decide +kernel
theorem d5_73 : decode prog_13_method_10_code 73 = .ok (.putfield 30, 3) := by decide +kernel
theorem d5_76 : decode prog_13_method_10_code 76 = .ok (.return_, 1) := by decide +kernel
theorem d6_0 : decode jdk_29_method_65_code 0 = .ok (.iload_n 0, 1) := by decide +kernel
theorem d6_1 : decode jdk_29_method_65_code 1 = .ok (.iload_n 1, 1) := by decide +kernel
theorem d6_2 : decode jdk_29_method_65_code 2 = .ok (.if_icmp .lt 7, 3) := by decide +kernel
theorem d6_5 : decode jdk_29_method_65_code 5 = .ok (.iload_n 0, 1) := by decide +kernel
theorem d6_6 : decode jdk_29_method_65_code 6 = .ok (.goto 4, 3) := by decide +kernel
theorem d6_9 : decode jdk_29_method_65_code 9 = .ok (.iload_n 1, 1) := by decide +kernel
theorem d6_10 : decode jdk_29_method_65_code 10 = .ok (.ireturn, 1) := by decide +kernel
theorem d7_0 : decode jdk_65_method_128_code 0 = .ok (.iload_n 1, 1) := by decide +kernel
theorem d7_1 : decode jdk_65_method_128_code 1 = .ok (.aload_n 0, 1) := by decide +kernel
theorem d7_2 : decode jdk_65_method_128_code 2 = .ok (.arraylength, 1) := by decide +kernel
theorem d7_3 : decode jdk_65_method_128_code 3 = .ok (.if_icmp .ne 11, 3) := by decide +kernel
theorem d7_14 : decode jdk_65_method_128_code 14 = .ok (.iload_n 1, 1) := by decide +kernel
theorem d7_15 : decode jdk_65_method_128_code 15 = .ok (.newarray .boolean, 2) := by decide +kernel
theorem d7_17 : decode jdk_65_method_128_code 17 = .ok (.astore_n 2, 1) := by decide +kernel
theorem d7_18 : decode jdk_65_method_128_code 18 = .ok (.aload_n 0, 1) := by decide +kernel
theorem d7_19 : decode jdk_65_method_128_code 19 = .ok (.iconst 0, 1) := by decide +kernel
theorem d7_20 : decode jdk_65_method_128_code 20 = .ok (.aload_n 2, 1) := by decide +kernel
theorem d7_21 : decode jdk_65_method_128_code 21 = .ok (.iconst 0, 1) := by decide +kernel
theorem d7_22 : decode jdk_65_method_128_code 22 = .ok (.aload_n 0, 1) := by decide +kernel
theorem d7_23 : decode jdk_65_method_128_code 23 = .ok (.arraylength, 1) := by decide +kernel
theorem d7_24 : decode jdk_65_method_128_code 24 = .ok (.iload_n 1, 1) := by decide +kernel
theorem d7_25 : decode jdk_65_method_128_code 25 = .ok (.invokestatic 304, 3) := by decide +kernel
theorem d7_28 : decode jdk_65_method_128_code 28 = .ok (.invokestatic 150, 3) := by decide +kernel
theorem d7_31 : decode jdk_65_method_128_code 31 = .ok (.aload_n 2, 1) := by decide +kernel
theorem d7_32 : decode jdk_65_method_128_code 32 = .ok (.areturn, 1) := by decide +kernel
theorem d8_0 : decode jdk_29_method_69_code 0 = .ok (.iload_n 0, 1) := by decide +kernel
theorem d8_1 : decode jdk_29_method_69_code 1 = .ok (.iload_n 1, 1) := by decide +kernel
theorem d8_2 : decode jdk_29_method_69_code 2 = .ok (.if_icmp .gt 7, 3) := by decide +kernel
theorem d8_5 : decode jdk_29_method_69_code 5 = .ok (.iload_n 0, 1) := by decide +kernel
theorem d8_6 : decode jdk_29_method_69_code 6 = .ok (.goto 4, 3) := by decide +kernel
theorem d8_9 : decode jdk_29_method_69_code 9 = .ok (.iload_n 1, 1) := by decide +kernel
theorem d8_10 : decode jdk_29_method_69_code 10 = .ok (.ireturn, 1) := by decide +kernel
theorem d9_0 : decode jdk_65_method_124_code 0 = .ok (.iload_n 1, 1) := by decide +kernel
theorem d9_1 : decode jdk_65_method_124_code 1 = .ok (.aload_n 0, 1) := by decide +kernel
theorem d9_2 : decode jdk_65_method_124_code 2 = .ok (.arraylength, 1) := by decide +kernel
theorem d9_3 : decode jdk_65_method_124_code 3 = .ok (.if_icmp .ne 11, 3) := by decide +kernel
theorem d9_14 : decode jdk_65_method_124_code 14 = .ok (.iload_n 1, 1) := by decide +kernel
theorem d9_15 : decode jdk_65_method_124_code 15 = .ok (.newarray .long, 2) := by decide +kernel
theorem d9_17 : decode jdk_65_method_124_code 17 = .ok (.astore_n 2, 1) := by decide +kernel
theorem d9_18 : decode jdk_65_method_124_code 18 = .ok (.aload_n 0, 1) := by decide +kernel
theorem d9_19 : decode jdk_65_method_124_code 19 = .ok (.iconst 0, 1) := by decide +kernel
theorem d9_20 : decode jdk_65_method_124_code 20 = .ok (.aload_n 2, 1) := by decide +kernel
theorem d9_21 : decode jdk_65_method_124_code 21 = .ok (.iconst 0, 1) := by decide +kernel
theorem d9_22 : decode jdk_65_method_124_code 22 = .ok (.aload_n 0, 1) := by decide +kernel
theorem d9_23 : decode jdk_65_method_124_code 23 = .ok (.arraylength, 1) := by decide +kernel
theorem d9_24 : decode jdk_65_method_124_code 24 = .ok (.iload_n 1, 1) := by decide +kernel
theorem d9_25 : decode jdk_65_method_124_code 25 = .ok (.invokestatic 304, 3) := by decide +kernel
theorem d9_28 : decode jdk_65_method_124_code 28 = .ok (.invokestatic 150, 3) := by decide +kernel
theorem d9_31 : decode jdk_65_method_124_code 31 = .ok (.aload_n 2, 1) := by decide +kernel
theorem d9_32 : decode jdk_65_method_124_code 32 = .ok (.areturn, 1) := by decide +kernel
theorem d10_0 : decode jdk_65_method_123_code 0 = .ok (.iload_n 1, 1) := by decide +kernel
theorem d10_1 : decode jdk_65_method_123_code 1 = .ok (.aload_n 0, 1) := by decide +kernel
theorem d10_2 : decode jdk_65_method_123_code 2 = .ok (.arraylength, 1) := by decide +kernel
theorem d10_3 : decode jdk_65_method_123_code 3 = .ok (.if_icmp .ne 11, 3) := by decide +kernel
theorem d10_14 : decode jdk_65_method_123_code 14 = .ok (.iload_n 1, 1) := by decide +kernel
theorem d10_15 : decode jdk_65_method_123_code 15 = .ok (.newarray .int, 2) := by decide +kernel
theorem d10_17 : decode jdk_65_method_123_code 17 = .ok (.astore_n 2, 1) := by decide +kernel
theorem d10_18 : decode jdk_65_method_123_code 18 = .ok (.aload_n 0, 1) := by decide +kernel
theorem d10_19 : decode jdk_65_method_123_code 19 = .ok (.iconst 0, 1) := by decide +kernel
theorem d10_20 : decode jdk_65_method_123_code 20 = .ok (.aload_n 2, 1) := by decide +kernel
theorem d10_21 : decode jdk_65_method_123_code 21 = .ok (.iconst 0, 1) := by decide +kernel
theorem d10_22 : decode jdk_65_method_123_code 22 = .ok (.aload_n 0, 1) := by decide +kernel
theorem d10_23 : decode jdk_65_method_123_code 23 = .ok (.arraylength, 1) := by decide +kernel
theorem d10_24 : decode jdk_65_method_123_code 24 = .ok (.iload_n 1, 1) := by decide +kernel
theorem d10_25 : decode jdk_65_method_123_code 25 = .ok (.invokestatic 304, 3) := by decide +kernel
theorem d10_28 : decode jdk_65_method_123_code 28 = .ok (.invokestatic 150, 3) := by decide +kernel
theorem d10_31 : decode jdk_65_method_123_code 31 = .ok (.aload_n 2, 1) := by decide +kernel
theorem d10_32 : decode jdk_65_method_123_code 32 = .ok (.areturn, 1) := by decide +kernel
theorem d11_0 : decode prog_13_method_3_code 0 = .ok (.aload_n 0, 1) := by decide +kernel
theorem d11_1 : decode prog_13_method_3_code 1 = .ok (.getfield 13, 3) := by decide +kernel
theorem d11_4 : decode prog_13_method_3_code 4 = .ok (.iload_n 1, 1) := by decide +kernel
theorem d11_5 : decode prog_13_method_3_code 5 = .ok (.iconst 0, 1) := by decide +kernel
theorem d11_6 : decode prog_13_method_3_code 6 = .ok (.bastore, 1) := by decide +kernel
theorem d11_7 : decode prog_13_method_3_code 7 = .ok (.aload_n 0, 1) := by decide +kernel
theorem d11_8 : decode prog_13_method_3_code 8 = .ok (.aload_n 0, 1) := by decide +kernel
theorem d11_9 : decode prog_13_method_3_code 9 = .ok (.getfield 60, 3) := by decide +kernel
theorem d11_12 : decode prog_13_method_3_code 12 = .ok (.iload_n 1, 1) := by decide +kernel
theorem d11_13 : decode prog_13_method_3_code 13 = .ok (.invokestatic 63, 3) := by decide +kernel
theorem d11_16 : decode prog_13_method_3_code 16 = .ok (.putfield 60, 3) := by decide +kernel
theorem d11_19 : decode prog_13_method_3_code 19 = .ok (.aload_n 0, 1) := by decide +kernel
theorem d11_20 : decode prog_13_method_3_code 20 = .ok (.getfield 33, 3) := by decide +kernel
theorem d11_23 : decode prog_13_method_3_code 23 = .ok (.iload_n 1, 1) := by decide +kernel
theorem d11_24 : decode prog_13_method_3_code 24 = .ok (.if_icmp .le 26, 3) := by decide +kernel
theorem d11_27 : decode prog_13_method_3_code 27 = .ok (.aload_n 0, 1) := by decide +kernel
theorem d11_28 : decode prog_13_method_3_code 28 = .ok (.getfield 27, 3) := by decide +kernel
theorem d11_31 : decode prog_13_method_3_code 31 = .ok (.aload_n 0, 1) := by decide +kernel
theorem d11_32 : decode prog_13_method_3_code 32 = .ok (.getfield 33, 3) := by decide +kernel
theorem d11_35 : decode prog_13_method_3_code 35 = .ok (.iconst 0, 1) := by decide +kernel
theorem d11_36 : decode prog_13_method_3_code 36 = .ok (.iastore, 1) := by decide +kernel
theorem d11_37 : decode prog_13_method_3_code 37 = .ok (.aload_n 0, 1) := by decide +kernel
theorem d11_38 : decode prog_13_method_3_code 38 = .ok (.dup, 1) := by decide +kernel
theorem d11_39 : decode prog_13_method_3_code 39 = .ok (.getfield 33, 3) := by decide +kernel
theorem d11_42 : decode prog_13_method_3_code 42 = .ok (.iconst 1, 1) := by decide +kernel
theorem d11_43 : decode prog_13_method_3_code 43 = .ok (.isub, 1) := by decide +kernel
theorem d11_44 : decode prog_13_method_3_code 44 = .ok (.putfield 33, 3) := by decide +kernel
theorem d11_47 : decode prog_13_method_3_code 47 = .ok (.goto (-28), 3) := by decide +kernel
theorem d11_50 : decode prog_13_method_3_code 50 = .ok (.return_, 1) := by decide +kernel
theorem d12_0 : decode prog_13_method_4_code 0 = .ok (.aload_n 0, 1) := by decide +kernel
theorem d12_1 : decode prog_13_method_4_code 1 = .ok (.iload_n 1, 1) := by decide +kernel
theorem d12_2 : decode prog_13_method_4_code 2 = .ok (.invokevirtual 56, 3) := by decide +kernel
theorem d12_5 : decode prog_13_method_4_code 5 = .ok (.aload_n 0, 1) := by decide +kernel
theorem d12_6 : decode prog_13_method_4_code 6 = .ok (.getfield 20, 3) := by decide +kernel
theorem d12_9 : decode prog_13_method_4_code 9 = .ok (.iload_n 1, 1) := by decide +kernel
theorem d12_10 : decode prog_13_method_4_code 10 = .ok (.lload_n 2, 1) := by decide +kernel
theorem d12_11 : decode prog_13_method_4_code 11 = .ok (.lastore, 1) := by decide +kernel
theorem d12_12 : decode prog_13_method_4_code 12 = .ok (.aload_n 0, 1) := by decide +kernel
theorem d12_13 : decode prog_13_method_4_code 13 = .ok (.getfield 27, 3) := by decide +kernel
theorem d12_16 : decode prog_13_method_4_code 16 = .ok (.iload_n 1, 1) := by decide +kernel
theorem d12_17 : decode prog_13_method_4_code 17 = .ok (.iload 4, 2) := by decide +kernel
theorem d12_19 : decode prog_13_method_4_code 19 = .ok (.iastore, 1) := by decide +kernel
theorem d12_20 : decode prog_13_method_4_code 20 = .ok (.aload_n 0, 1) := by decide +kernel
theorem d12_21 : decode prog_13_method_4_code 21 = .ok (.aload_n 0, 1) := by decide +kernel
theorem d12_22 : decode prog_13_method_4_code 22 = .ok (.getfield 33, 3) := by decide +kernel
theorem d12_25 : decode prog_13_method_4_code 25 = .ok (.iload_n 1, 1) := by decide +kernel
theorem d12_26 : decode prog_13_method_4_code 26 = .ok (.invokestatic 69, 3) := by decide +kernel
theorem d12_29 : decode prog_13_method_4_code 29 = .ok (.putfield 33, 3) := by decide +kernel
theorem d12_32 : decode prog_13_method_4_code 32 = .ok (.return_, 1) := by decide +kernel
theorem d13_0 : decode prog_13_method_5_code 0 = .ok (.aload_n 0, 1) := by decide +kernel
theorem d13_1 : decode prog_13_method_5_code 1 = .ok (.iload_n 1, 1) := by decide +kernel
theorem d13_2 : decode prog_13_method_5_code 2 = .ok (.aload_n 0, 1) := by decide +kernel
theorem d13_3 : decode prog_13_method_5_code 3 = .ok (.iload_n 1, 1) := by decide +kernel
theorem d13_4 : decode prog_13_method_5_code 4 = .ok (.invokevirtual 72, 3) := by decide +kernel
theorem d13_7 : decode prog_13_method_5_code 7 = .ok (.i2l, 1) := by decide +kernel
theorem d13_8 : decode prog_13_method_5_code 8 = .ok (.lload_n 2, 1) := by decide +kernel
theorem d13_9 : decode prog_13_method_5_code 9 = .ok (.aload_n 0, 1) := by decide +kernel
theorem d13_10 : decode prog_13_method_5_code 10 = .ok (.getfield 20, 3) := by decide +kernel
theorem d13_13 : decode prog_13_method_5_code 13 = .ok (.iload_n 1, 1) := by decide +kernel
theorem d13_14 : decode prog_13_method_5_code 14 = .ok (.laload, 1) := by decide +kernel
theorem d13_15 : decode prog_13_method_5_code 15 = .ok (.lsub, 1) := by decide +kernel
theorem d13_16 : decode prog_13_method_5_code 16 = .ok (.ladd, 1) := by decide +kernel
theorem d13_17 : decode prog_13_method_5_code 17 = .ok (.lload_n 2, 1) := by decide +kernel
theorem d13_18 : decode prog_13_method_5_code 18 = .ok (.invokevirtual 76, 3) := by decide +kernel
theorem d13_21 : decode prog_13_method_5_code 21 = .ok (.return_, 1) := by decide +kernel
theorem d14_0 : decode prog_13_method_9_code 0 = .ok (.aload_n 0, 1) := by decide +kernel
theorem d14_1 : decode prog_13_method_9_code 1 = .ok (.getfield 13, 3) := by decide +kernel
theorem d14_4 : decode prog_13_method_9_code 4 = .ok (.iload_n 1, 1) := by decide +kernel
theorem d14_5 : decode prog_13_method_9_code 5 = .ok (.baload, 1) := by decide +kernel
theorem d14_6 : decode prog_13_method_9_code 6 = .ok (.ifCond .eq 7, 3) := by decide +kernel
theorem d14_9 : decode prog_13_method_9_code 9 = .ok (.iconst 0, 1) := by decide +kernel
theorem d14_10 : decode prog_13_method_9_code 10 = .ok (.goto 4, 3) := by decide +kernel
theorem d14_13 : decode prog_13_method_9_code 13 = .ok (.iconst 1, 1) := by decide +kernel
theorem d14_14 : decode prog_13_method_9_code 14 = .ok (.ireturn, 1) := by decide +kernel
theorem d15_0 : decode prog_13_method_8_code 0 = .ok (.aload_n 0, 1) := by decide +kernel
theorem d15_1 : decode prog_13_method_8_code 1 = .ok (.getfield 37, 3) := by decide +kernel
theorem d15_4 : decode prog_13_method_8_code 4 = .ok (.ifCond .eq 87, 3) := by decide +kernel
theorem d15_7 : decode prog_13_method_8_code 7 = .ok (.aload_n 0, 1) := by decide +kernel
theorem d15_8 : decode prog_13_method_8_code 8 = .ok (.iload_n 1, 1) := by decide +kernel
theorem d15_9 : decode prog_13_method_8_code 9 = .ok (.invokevirtual 56, 3) := by decide +kernel
theorem d15_12 : decode prog_13_method_8_code 12 = .ok (.aload_n 0, 1) := by decide +kernel
theorem d15_13 : decode prog_13_method_8_code 13 = .ok (.getfield 60, 3) := by decide +kernel
theorem d15_16 : decode prog_13_method_8_code 16 = .ok (.iload_n 1, 1) := by decide +kernel
theorem d15_17 : decode prog_13_method_8_code 17 = .ok (.if_icmp .gt 57, 3) := by decide +kernel
theorem d15_20 : decode prog_13_method_8_code 20 = .ok (.aload_n 0, 1) := by decide +kernel
theorem d15_21 : decode prog_13_method_8_code 21 = .ok (.getfield 30, 3) := by decide +kernel
theorem d15_24 : decode prog_13_method_8_code 24 = .ok (.aload_n 0, 1) := by decide +kernel
theorem d15_25 : decode prog_13_method_8_code 25 = .ok (.getfield 60, 3) := by decide +kernel
theorem d15_28 : decode prog_13_method_8_code 28 = .ok (.aload_n 0, 1) := by decide +kernel
theorem d15_29 : decode prog_13_method_8_code 29 = .ok (.getfield 44, 3) := by decide +kernel
theorem d15_32 : decode prog_13_method_8_code 32 = .ok (.invokevirtual 80, 3) := by decide +kernel
theorem d15_35 : decode prog_13_method_8_code 35 = .ok (.lastore, 1) := by decide +kernel
theorem d15_36 : decode prog_13_method_8_code 36 = .ok (.aload_n 0, 1) := by decide +kernel
theorem d15_37 : decode prog_13_method_8_code 37 = .ok (.getfield 44, 3) := by decide +kernel
theorem d15_40 : decode prog_13_method_8_code 40 = .ok (.aload_n 0, 1) := by decide +kernel
theorem d15_41 : decode prog_13_method_8_code 41 = .ok (.aload_n 0, 1) := by decide +kernel
theorem d15_42 : decode prog_13_method_8_code 42 = .ok (.getfield 60, 3) := by decide +kernel
theorem d15_45 : decode prog_13_method_8_code 45 = .ok (.invokevirtual 72, 3) := by decide +kernel
theorem d15_48 : decode prog_13_method_8_code 48 = .ok (.aload_n 0, 1) := by decide +kernel
theorem d15_49 : decode prog_13_method_8_code 49 = .ok (.getfield 27, 3) := by decide +kernel
theorem d15_52 : decode prog_13_method_8_code 52 = .ok (.aload_n 0, 1) := by decide +kernel
theorem d15_53 : decode prog_13_method_8_code 53 = .ok (.getfield 60, 3) := by decide +kernel
theorem d15_56 : decode prog_13_method_8_code 56 = .ok (.iaload, 1) := by decide +kernel
theorem d15_57 : decode prog_13_method_8_code 57 = .ok (.iadd, 1) := by decide +kernel
theorem d15_58 : decode prog_13_method_8_code 58 = .ok (.invokevirtual 84, 3) := by decide +kernel
theorem d15_61 : decode prog_13_method_8_code 61 = .ok (.aload_n 0, 1) := by decide +kernel
theorem d15_62 : decode prog_13_method_8_code 62 = .ok (.dup, 1) := by decide +kernel
theorem d15_63 : decode prog_13_method_8_code 63 = .ok (.getfield 60, 3) := by decide +kernel
theorem d15_66 : decode prog_13_method_8_code 66 = .ok (.iconst 1, 1) := by decide +kernel
theorem d15_67 : decode prog_13_method_8_code 67 = .ok (.iadd, 1) := by decide +kernel
theorem d15_68 : decode prog_13_method_8_code 68 = .ok (.putfield 60, 3) := by decide +kernel
theorem d15_71 : decode prog_13_method_8_code 71 = .ok (.goto (-59), 3) := by decide +kernel
theorem d15_74 : decode prog_13_method_8_code 74 = .ok (.aload_n 0, 1) := by decide +kernel
theorem d15_75 : decode prog_13_method_8_code 75 = .ok (.getfield 44, 3) := by decide +kernel
theorem d15_78 : decode prog_13_method_8_code 78 = .ok (.aload_n 0, 1) := by decide +kernel
theorem d15_79 : decode prog_13_method_8_code 79 = .ok (.getfield 30, 3) := by decide +kernel
theorem d15_82 : decode prog_13_method_8_code 82 = .ok (.iload_n 1, 1) := by decide +kernel
theorem d15_83 : decode prog_13_method_8_code 83 = .ok (.laload, 1) := by decide +kernel
theorem d15_84 : decode prog_13_method_8_code 84 = .ok (.lload_n 2, 1) := by decide +kernel
theorem d15_85 : decode prog_13_method_8_code 85 = .ok (.ladd, 1) := by decide +kernel
theorem d15_86 : decode prog_13_method_8_code 86 = .ok (.lload 4, 2) := by decide +kernel
theorem d15_88 : decode prog_13_method_8_code 88 = .ok (.invokevirtual 87, 3) := by decide +kernel
theorem d15_91 : decode prog_13_method_8_code 91 = .ok (.return_, 1) := by decide +kernel
theorem d16_0 : decode prog_14_method_2_code 0 = .ok (.aload_n 0, 1) := by decide +kernel
theorem d16_1 : decode prog_14_method_2_code 1 = .ok (.getfield 22, 3) := by decide +kernel
theorem d16_4 : decode prog_14_method_2_code 4 = .ok (.aload_n 0, 1) := by decide +kernel
theorem d16_5 : decode prog_14_method_2_code 5 = .ok (.getfield 26, 3) := by decide +kernel
theorem d16_8 : decode prog_14_method_2_code 8 = .ok (.i2l, 1) := by decide +kernel
theorem d16_9 : decode prog_14_method_2_code 9 = .ok (.ladd, 1) := by decide +kernel
theorem d16_10 : decode prog_14_method_2_code 10 = .ok (.lreturn, 1) := by decide +kernel
theorem d17_0 : decode prog_14_method_3_code 0 = .ok (.iconst 0, 1) := by decide +kernel
theorem d17_1 : decode prog_14_method_3_code 1 = .ok (.istore_n 2, 1) := by decide +kernel
theorem d17_2 : decode prog_14_method_3_code 2 = .ok (.iload_n 2, 1) := by decide +kernel
theorem d17_3 : decode prog_14_method_3_code 3 = .ok (.iload_n 1, 1) := by decide +kernel
theorem d17_4 : decode prog_14_method_3_code 4 = .ok (.if_icmp .ge 44, 3) := by decide +kernel
theorem d17_7 : decode prog_14_method_3_code 7 = .ok (.aload_n 0, 1) := by decide +kernel
theorem d17_8 : decode prog_14_method_3_code 8 = .ok (.getfield 26, 3) := by decide +kernel
theorem d17_11 : decode prog_14_method_3_code 11 = .ok (.aload_n 0, 1) := by decide +kernel
theorem d17_12 : decode prog_14_method_3_code 12 = .ok (.getfield 13, 3) := by decide +kernel
theorem d17_15 : decode prog_14_method_3_code 15 = .ok (.arraylength, 1) := by decide +kernel
theorem d17_16 : decode prog_14_method_3_code 16 = .ok (.if_icmp .ne 7, 3) := by decide +kernel
theorem d17_19 : decode prog_14_method_3_code 19 = .ok (.aload_n 0, 1) := by decide +kernel
theorem d17_20 : decode prog_14_method_3_code 20 = .ok (.invokevirtual 30, 3) := by decide +kernel
theorem d17_23 : decode prog_14_method_3_code 23 = .ok (.aload_n 0, 1) := by decide +kernel
theorem d17_24 : decode prog_14_method_3_code 24 = .ok (.getfield 13, 3) := by decide +kernel
theorem d17_27 : decode prog_14_method_3_code 27 = .ok (.aload_n 0, 1) := by decide +kernel
theorem d17_28 : decode prog_14_method_3_code 28 = .ok (.dup, 1) := by decide +kernel
theorem d17_29 : decode prog_14_method_3_code 29 = .ok (.getfield 26, 3) := by decide +kernel
theorem d17_32 : decode prog_14_method_3_code 32 = .ok (.dup_x1, 1) := by decide +kernel
theorem d17_33 : decode prog_14_method_3_code 33 = .ok (.iconst 1, 1) := by decide +kernel
theorem d17_34 : decode prog_14_method_3_code 34 = .ok (.iadd, 1) := by decide +kernel
theorem d17_35 : decode prog_14_method_3_code 35 = .ok (.putfield 26, 3) := by decide +kernel
theorem d17_38 : decode prog_14_method_3_code 38 = .ok (.ldc2_w 33, 3) := by decide +kernel
theorem d17_41 : decode prog_14_method_3_code 41 = .ok (.lastore, 1) := by decide +kernel
theorem d17_42 : decode prog_14_method_3_code 42 = .ok (.iinc 2 1, 3) := by decide +kernel
theorem d17_45 : decode prog_14_method_3_code 45 = .ok (.goto (-43), 3) := by decide +kernel
theorem d17_48 : decode prog_14_method_3_code 48 = .ok (.return_, 1) := by decide +kernel
theorem d18_0 : decode prog_14_method_5_code 0 = .ok (.aload_n 0, 1) := by decide +kernel
theorem d18_1 : decode prog_14_method_5_code 1 = .ok (.getfield 13, 3) := by decide +kernel
theorem d18_4 : decode prog_14_method_5_code 4 = .ok (.arraylength, 1) := by decide +kernel
theorem d18_5 : decode prog_14_method_5_code 5 = .ok (.sipush 8192, 3) := by decide +kernel
theorem d18_8 : decode prog_14_method_5_code 8 = .ok (.if_icmp .lt 10, 3) := by decide +kernel
theorem d18_18 : decode prog_14_method_5_code 18 = .ok (.aload_n 0, 1) := by decide +kernel
theorem d18_19 : decode prog_14_method_5_code 19 = .ok (.aload_n 0, 1) := by decide +kernel
theorem d18_20 : decode prog_14_method_5_code 20 = .ok (.getfield 13, 3) := by decide +kernel
theorem d18_23 : decode prog_14_method_5_code 23 = .ok (.bipush 16, 2) := by decide +kernel
theorem d18_25 : decode prog_14_method_5_code 25 = .ok (.iconst 2, 1) := by decide +kernel
theorem d18_26 : decode prog_14_method_5_code 26 = .ok (.aload_n 0, 1) := by decide +kernel
theorem d18_27 : decode prog_14_method_5_code 27 = .ok (.getfield 13, 3) := by decide +kernel
theorem d18_30 : decode prog_14_method_5_code 30 = .ok (.arraylength, 1) := by decide +kernel
theorem d18_31 : decode prog_14_method_5_code 31 = .ok (.imul, 1) := by decide +kernel
theorem d18_32 : decode prog_14_method_5_code 32 = .ok (.invokestatic 66, 3) := by decide +kernel
theorem d18_35 : decode prog_14_method_5_code 35 = .ok (.invokestatic 72, 3) := by decide +kernel
theorem d18_38 : decode prog_14_method_5_code 38 = .ok (.putfield 13, 3) := by decide +kernel
theorem d18_41 : decode prog_14_method_5_code 41 = .ok (.return_, 1) := by decide +kernel
theorem d19_0 : decode prog_14_method_4_code 0 = .ok (.lload_n 1, 1) := by decide +kernel
theorem d19_1 : decode prog_14_method_4_code 1 = .ok (.aload_n 0, 1) := by decide +kernel
theorem d19_2 : decode prog_14_method_4_code 2 = .ok (.getfield 22, 3) := by decide +kernel
theorem d19_5 : decode prog_14_method_4_code 5 = .ok (.lcmp, 1) := by decide +kernel
theorem d19_6 : decode prog_14_method_4_code 6 = .ok (.ifCond .lt 19, 3) := by decide +kernel
theorem d19_9 : decode prog_14_method_4_code 9 = .ok (.aload_n 0, 1) := by decide +kernel
theorem d19_10 : decode prog_14_method_4_code 10 = .ok (.getfield 13, 3) := by decide +kernel
theorem d19_13 : decode prog_14_method_4_code 13 = .ok (.lload_n 1, 1) := by decide +kernel
theorem d19_14 : decode prog_14_method_4_code 14 = .ok (.aload_n 0, 1) := by decide +kernel
theorem d19_15 : decode prog_14_method_4_code 15 = .ok (.getfield 22, 3) := by decide +kernel
theorem d19_18 : decode prog_14_method_4_code 18 = .ok (.lsub, 1) := by decide +kernel
theorem d19_19 : decode prog_14_method_4_code 19 = .ok (.l2i, 1) := by decide +kernel
theorem d19_20 : decode prog_14_method_4_code 20 = .ok (.lload_n 3, 1) := by decide +kernel
theorem d19_21 : decode prog_14_method_4_code 21 = .ok (.lastore, 1) := by decide +kernel
theorem d19_22 : decode prog_14_method_4_code 22 = .ok (.goto 39, 3) := by decide +kernel
theorem d19_61 : decode prog_14_method_4_code 61 = .ok (.return_, 1) := by decide +kernel
theorem d20_0 : decode prog_13_method_7_code 0 = .ok (.iload 4, 2) := by decide +kernel
theorem d20_2 : decode prog_13_method_7_code 2 = .ok (.ifCond .ne 10, 3) := by decide +kernel
theorem d20_5 : decode prog_13_method_7_code 5 = .ok (.aload_n 0, 1) := by decide +kernel
theorem d20_6 : decode prog_13_method_7_code 6 = .ok (.iload_n 1, 1) := by decide +kernel
theorem d20_7 : decode prog_13_method_7_code 7 = .ok (.lconst 0, 1) := by decide +kernel
theorem d20_8 : decode prog_13_method_7_code 8 = .ok (.lload_n 2, 1) := by decide +kernel
theorem d20_9 : decode prog_13_method_7_code 9 = .ok (.invokevirtual 76, 3) := by decide +kernel
theorem d20_12 : decode prog_13_method_7_code 12 = .ok (.aload_n 0, 1) := by decide +kernel
theorem d20_13 : decode prog_13_method_7_code 13 = .ok (.getfield 60, 3) := by decide +kernel
theorem d20_16 : decode prog_13_method_7_code 16 = .ok (.iload_n 1, 1) := by decide +kernel
theorem d20_17 : decode prog_13_method_7_code 17 = .ok (.if_icmp .le 8, 3) := by decide +kernel
theorem d20_20 : decode prog_13_method_7_code 20 = .ok (.aload_n 0, 1) := by decide +kernel
theorem d20_21 : decode prog_13_method_7_code 21 = .ok (.iload_n 1, 1) := by decide +kernel
theorem d20_22 : decode prog_13_method_7_code 22 = .ok (.putfield 60, 3) := by decide +kernel
theorem d20_25 : decode prog_13_method_7_code 25 = .ok (.return_, 1) := by decide +kernel
theorem d21_0 : decode prog_13_method_11_code 0 = .ok (.aload_n 0, 1) := by decide +kernel
theorem d21_1 : decode prog_13_method_11_code 1 = .ok (.iconst 0, 1) := by decide +kernel
theorem d21_2 : decode prog_13_method_11_code 2 = .ok (.putfield 37, 3) := by decide +kernel
theorem d21_5 : decode prog_13_method_11_code 5 = .ok (.aload_n 0, 1) := by decide +kernel
theorem d21_6 : decode prog_13_method_11_code 6 = .ok (.ldc2_w 103, 3) := by decide +kernel
theorem d21_9 : decode prog_13_method_11_code 9 = .ok (.putfield 52, 3) := by decide +kernel
theorem d21_12 : decode prog_13_method_11_code 12 = .ok (.aload_n 0, 1) := by decide +kernel
theorem d21_13 : decode prog_13_method_11_code 13 = .ok (.lconst 0, 1) := by decide +kernel
theorem d21_14 : decode prog_13_method_11_code 14 = .ok (.invokevirtual 105, 3) := by decide +kernel
theorem d21_17 : decode prog_13_method_11_code 17 = .ok (.pop, 1) := by decide +kernel
theorem d21_18 : decode prog_13_method_11_code 18 = .ok (.return_, 1) := by decide +kernel
theorem d22_0 : decode prog_13_method_13_code 0 = .ok (.aload_n 0, 1) := by decide +kernel
theorem d22_1 : decode prog_13_method_13_code 1 = .ok (.getfield 52, 3) := by decide +kernel
theorem d22_4 : decode prog_13_method_13_code 4 = .ok (.lload_n 1, 1) := by decide +kernel
theorem d22_5 : decode prog_13_method_13_code 5 = .ok (.lcmp, 1) := by decide +kernel
theorem d22_6 : decode prog_13_method_13_code 6 = .ok (.ifCond .ge 33, 3) := by decide +kernel
theorem d22_9 : decode prog_13_method_13_code 9 = .ok (.aload_n 0, 1) := by decide +kernel
theorem d22_10 : decode prog_13_method_13_code 10 = .ok (.aload_n 0, 1) := by decide +kernel
theorem d22_11 : decode prog_13_method_13_code 11 = .ok (.getfield 44, 3) := by decide +kernel
theorem d22_14 : decode prog_13_method_13_code 14 = .ok (.invokevirtual 109, 3) := by decide +kernel
theorem d22_17 : decode prog_13_method_13_code 17 = .ok (.ifCond .eq 13, 3) := by decide +kernel
theorem d22_20 : decode prog_13_method_13_code 20 = .ok (.aload_n 0, 1) := by decide +kernel
theorem d22_21 : decode prog_13_method_13_code 21 = .ok (.getfield 44, 3) := by decide +kernel
theorem d22_24 : decode prog_13_method_13_code 24 = .ok (.invokevirtual 113, 3) := by decide +kernel
theorem d22_27 : decode prog_13_method_13_code 27 = .ok (.goto 6, 3) := by decide +kernel
theorem d22_30 : decode prog_13_method_13_code 30 = .ok (.ldc2_w 50, 3) := by decide +kernel
theorem d22_33 : decode prog_13_method_13_code 33 = .ok (.putfield 52, 3) := by decide +kernel
theorem d22_36 : decode prog_13_method_13_code 36 = .ok (.goto (-36), 3) := by decide +kernel
theorem d22_39 : decode prog_13_method_13_code 39 = .ok (.aload_n 0, 1) := by decide +kernel
theorem d22_40 : decode prog_13_method_13_code 40 = .ok (.getfield 52, 3) := by decide +kernel
theorem d22_43 : decode prog_13_method_13_code 43 = .ok (.lload_n 1, 1) := by decide +kernel
theorem d22_44 : decode prog_13_method_13_code 44 = .ok (.lcmp, 1) := by decide +kernel
theorem d22_45 : decode prog_13_method_13_code 45 = .ok (.ifCond .ne 7, 3) := by decide +kernel
theorem d22_48 : decode prog_13_method_13_code 48 = .ok (.iconst 1, 1) := by decide +kernel
theorem d22_49 : decode prog_13_method_13_code 49 = .ok (.goto 4, 3) := by decide +kernel
theorem d22_52 : decode prog_13_method_13_code 52 = .ok (.iconst 0, 1) := by decide +kernel
theorem d22_53 : decode prog_13_method_13_code 53 = .ok (.ireturn, 1) := by decide +kernel
theorem d23_0 : decode prog_14_method_8_code 0 = .ok (.aload_n 0, 1) := by decide +kernel
theorem d23_1 : decode prog_14_method_8_code 1 = .ok (.getfield 124, 3) := by decide +kernel
theorem d23_4 : decode prog_14_method_8_code 4 = .ok (.aload_n 0, 1) := by decide +kernel
theorem d23_5 : decode prog_14_method_8_code 5 = .ok (.invokevirtual 127, 3) := by decide +kernel
theorem d23_8 : decode prog_14_method_8_code 8 = .ok (.lcmp, 1) := by decide +kernel
theorem d23_9 : decode prog_14_method_8_code 9 = .ok (.ifCond .ge 7, 3) := by decide +kernel
theorem d23_12 : decode prog_14_method_8_code 12 = .ok (.iconst 1, 1) := by decide +kernel
theorem d23_13 : decode prog_14_method_8_code 13 = .ok (.goto 4, 3) := by decide +kernel
theorem d23_16 : decode prog_14_method_8_code 16 = .ok (.iconst 0, 1) := by decide +kernel
theorem d23_17 : decode prog_14_method_8_code 17 = .ok (.ireturn, 1) := by decide +kernel
theorem d24_0 : decode prog_14_method_9_code 0 = .ok (.aload_n 0, 1) := by decide +kernel
theorem d24_1 : decode prog_14_method_9_code 1 = .ok (.getfield 124, 3) := by decide +kernel
theorem d24_4 : decode prog_14_method_9_code 4 = .ok (.aload_n 0, 1) := by decide +kernel
theorem d24_5 : decode prog_14_method_9_code 5 = .ok (.getfield 22, 3) := by decide +kernel
theorem d24_8 : decode prog_14_method_9_code 8 = .ok (.lcmp, 1) := by decide +kernel
theorem d24_9 : decode prog_14_method_9_code 9 = .ok (.ifCond .ge 30, 3) := by decide +kernel
theorem d24_39 : decode prog_14_method_9_code 39 = .ok (.aload_n 0, 1) := by decide +kernel
theorem d24_40 : decode prog_14_method_9_code 40 = .ok (.getfield 13, 3) := by decide +kernel
theorem d24_43 : decode prog_14_method_9_code 43 = .ok (.aload_n 0, 1) := by decide +kernel
theorem d24_44 : decode prog_14_method_9_code 44 = .ok (.getfield 124, 3) := by decide +kernel
theorem d24_47 : decode prog_14_method_9_code 47 = .ok (.aload_n 0, 1) := by decide +kernel
theorem d24_48 : decode prog_14_method_9_code 48 = .ok (.getfield 22, 3) := by decide +kernel
theorem d24_51 : decode prog_14_method_9_code 51 = .ok (.lsub, 1) := by decide +kernel
theorem d24_52 : decode prog_14_method_9_code 52 = .ok (.l2i, 1) := by decide +kernel
theorem d24_53 : decode prog_14_method_9_code 53 = .ok (.laload, 1) := by decide +kernel
theorem d24_54 : decode prog_14_method_9_code 54 = .ok (.lstore_n 1, 1) := by decide +kernel
theorem d24_55 : decode prog_14_method_9_code 55 = .ok (.aload_n 0, 1) := by decide +kernel
theorem d24_56 : decode prog_14_method_9_code 56 = .ok (.dup, 1) := by decide +kernel
theorem d24_57 : decode prog_14_method_9_code 57 = .ok (.getfield 124, 3) := by decide +kernel
theorem d24_60 : decode prog_14_method_9_code 60 = .ok (.lconst 1, 1) := by decide +kernel
theorem d24_61 : decode prog_14_method_9_code 61 = .ok (.ladd, 1) := by decide +kernel
theorem d24_62 : decode prog_14_method_9_code 62 = .ok (.putfield 124, 3) := by decide +kernel
theorem d24_65 : decode prog_14_method_9_code 65 = .ok (.lload_n 1, 1) := by decide +kernel
theorem d24_66 : decode prog_14_method_9_code 66 = .ok (.lreturn, 1) := by decide +kernel
theorem d25_0 : decode prog_13_method_12_code 0 = .ok (.lload_n 1, 1) := by decide +kernel
theorem d25_1 : decode prog_13_method_12_code 1 = .ok (.aload_n 0, 1) := by decide +kernel
theorem d25_2 : decode prog_13_method_12_code 2 = .ok (.getfield 52, 3) := by decide +kernel
theorem d25_5 : decode prog_13_method_12_code 5 = .ok (.lcmp, 1) := by decide +kernel
theorem d25_6 : decode prog_13_method_12_code 6 = .ok (.ifCond .lt 15, 3) := by decide +kernel
theorem d25_9 : decode prog_13_method_12_code 9 = .ok (.aload_n 0, 1) := by decide +kernel
theorem d25_10 : decode prog_13_method_12_code 10 = .ok (.lload_n 1, 1) := by decide +kernel
theorem d25_11 : decode prog_13_method_12_code 11 = .ok (.invokevirtual 105, 3) := by decide +kernel
theorem d25_14 : decode prog_13_method_12_code 14 = .ok (.ifCond .eq 7, 3) := by decide +kernel
theorem d25_17 : decode prog_13_method_12_code 17 = .ok (.iconst 1, 1) := by decide +kernel
theorem d25_18 : decode prog_13_method_12_code 18 = .ok (.goto 4, 3) := by decide +kernel
theorem d25_21 : decode prog_13_method_12_code 21 = .ok (.iconst 0, 1) := by decide +kernel
theorem d25_22 : decode prog_13_method_12_code 22 = .ok (.ireturn, 1) := by decide +kernel
theorem pn_0 : plainName "java/util/Arrays" = true := by first | (simp [plainName, overriddenIn]; done) | decide +kernel
theorem pn_1 : plainName "com/example/fieldglass/fieldglass/io/Marks$Order" = true := by first | (simp [plainName, overriddenIn]; done) | decide +kernel
theorem pn_2 : plainName "com/example/fieldglass/fieldglass/io/Marks" = true := by first | (simp [plainName, overriddenIn]; done) | decide +kernel
theorem pn_3 : plainName "com/example/fieldglass/fieldglass/io/MarksEndMessagePinLaw" = true := by first | (simp [plainName, overriddenIn]; done) | decide +kernel
theorem pd_0 : parseMethodDescriptor "(II)I" = some ⟨[.int, .int], some .int⟩ := by decide +kernel
theorem pd_1 : parseMethodDescriptor "()V" = some ⟨[], none⟩ := by decide +kernel
theorem pd_2 : parseMethodDescriptor "([ZI)[Z" = some ⟨[(.array .boolean), .int], some (.array .boolean)⟩ := by decide +kernel
theorem pd_3 : parseMethodDescriptor "([JI)[J" = some ⟨[(.array .long), .int], some (.array .long)⟩ := by decide +kernel
theorem pd_4 : parseMethodDescriptor "([II)[I" = some ⟨[(.array .int), .int], some (.array .int)⟩ := by decide +kernel
theorem pd_5 : parseMethodDescriptor "(I)V" = some ⟨[.int], none⟩ := by decide +kernel
theorem pd_6 : parseMethodDescriptor "(JJ)V" = some ⟨[.long, .long], none⟩ := by decide +kernel
theorem pd_7 : parseMethodDescriptor "()J" = some ⟨[], some .long⟩ := by decide +kernel
theorem pd_8 : parseMethodDescriptor "(I)I" = some ⟨[.int], some .int⟩ := by decide +kernel
theorem pd_9 : parseMethodDescriptor "(IJJ)V" = some ⟨[.int, .long, .long], none⟩ := by decide +kernel
theorem pd_10 : parseMethodDescriptor "()Z" = some ⟨[], some .boolean⟩ := by decide +kernel
theorem pd_11 : parseMethodDescriptor "(J)Z" = some ⟨[.long], some .boolean⟩ := by decide +kernel
theorem pd_12 : parseMethodDescriptor "(IJI)V" = some ⟨[.int, .long, .int], none⟩ := by decide +kernel
theorem pd_13 : parseMethodDescriptor "(IJ)V" = some ⟨[.int, .long], none⟩ := by decide +kernel
theorem pd_14 : parseMethodDescriptor "(IJZ)V" = some ⟨[.int, .long, .boolean], none⟩ := by decide +kernel
theorem ef_mxr (m : MethodId) (x0 : Int32) (x1 : Int32) : entryFrame m #[(.int x0), (.int x1)] 2 = mkF m 0 #[.val (.int x0), .val (.int x1)] [] := by first | (simp [entryFrame, mkF, argsToLocals, Value.category]; done) | rfl
def Q_mxr (Z : State) (xx : Int32) (yy : Int32) (r : Int32) (h0 : Heap) (n0 : Nat) (v : Option Value) (h : Heap) (L : List Loc) : Prop := v = some (.int r) ∧ Fr n0 L ∧ h = h0
set_option maxRecDepth 65536 in
set_option maxHeartbeats 40000000 in
theorem rm_mxr (l : Launch) (Z : State) (a0 : Array Value) (hw : ∀ d ∈ tables_1, d.before a0 Z = true) (ws : List Jvm.Cond) (xx : Int32) (yy : Int32) (r : Int32) (h0 : Heap) (n0 : Nat) (Z0 : n0 ≤ h0.size) (hr0 : xx < yy → r = yy) (hr1 : ¬ xx < yy → r = xx) :
    MetFree l (⟨"java/lang/Math", "max", "(II)I"⟩ : MethodName) (head1 (Jvm.Cond.code (⟨"java/lang/Math", "max", "(II)I"⟩ : MethodName) jdk_29_method_65_code 2 (some .int) :: ws) ({ frames := 0, cells := 0, slots := 0, locals := 0 } : Room)) (fun as_ U_ => as_ = #[(.int xx), (.int yy)] ∧ Z.Warmed39 U_.vm ∧ U_.heap = h0) (fun _ _ _ _ _ => True) (fun _ U o U' => ∃ v L, o = .returned v ∧ Q_mxr Z xx yy r h0 n0 v U'.heap L ∧ FrameEnd U o U' L ({ frames := 0, cells := 0, slots := 0, locals := 0 } : Room).cells ({ frames := 0, cells := 0, slots := 0, locals := 0 } : Room).slots) := by
  refine MetFree.of_bodySF (Jvm.Free.JP.mathPlain rfl (by decide +kernel)) hisR ?_
  intro p e s m args below meth c s₁ Bd hml0 hP hK
  obtain ⟨rfl, hZ, hhp_⟩ := hP
  have hx := Bd.exec
  have hby := Bd.bytes
  have hml : c.maxLocals = 2 := hml0
  have hown : s.vm.findClass "java/lang/Math" = some m.cls := findClass_of_methodNamed Bd.named
  have hnm := (name_of_methodNamed Bd.named Bd.method).1
  have X0 : Stand p l e ({ frames := 0, cells := 0, slots := 0, locals := 0 } : Room) s m #[(.int xx), (.int yy)] below meth c s₁ [] 0 0 := Stand.of_body Bd
  have e0 : s₁.heap = h0 := by rw [← hhp_, Bd.state]; rfl
  have N0 := Fr.nil n0
  have pre0 : ∀ t, Steps p.tables e below (s₁.setTop (mkF m 0 #[.val (.int xx), .val (.int yy)] [])) t → Steps p.tables e below (s₁.setTop (entryFrame m #[(.int xx), (.int yy)] 2)) t := fun t k => castTop (ef_mxr m xx yy) k
  have pre1 := fun (t : State) (k : Steps p.tables e below (s₁.setTop (mkF m 2 #[.val (.int xx), .val (.int yy)] [(.int yy), (.int xx)])) t) => pre0 t (by
    refine XS.iloadN X0.here hx rfl (hb hby d6_0) rfl ?_
    refine XS.iloadN X0.here hx rfl (hb hby d6_1) rfl ?_
    exact k)
  by_cases hc2 : xx < yy
  · have pre3 := fun (t : State) (k : Steps p.tables e below (s₁.setTop (mkF m 10 #[.val (.int xx), .val (.int yy)] [(.int yy)])) t) => pre1 t (by
      refine XS.icmpYes X0.here hx rfl (pc0 := 2) (pc' := 9) rfl (hb hby d6_2) rfl (tlt hc2).1 (by decide) (by decide) ?_
      refine XS.iloadN X0.here hx rfl (hb hby d6_9) rfl ?_
      exact k)
    obtain ⟨fs, hr, hrun, hended, hW, hsame⟩ := X0.leave (v := some (.int yy)) (hlocks := BodyLoose.notSynchronized Bd) (fun h => by rw [Bd.returns] at h; cases h)
    refine ⟨_, _, pre3 _ ?_, hrun, hended, _, _, rfl, ?_, ⟨_, rfl⟩, hW, hsame.mono (by decide) (by decide)⟩
    · exact retI X0 hx Bd.returns (hb hby d6_10) hr
    · show Q_mxr Z xx yy r h0 n0 _ s₁.heap _
      rw [e0]
      exact ⟨(by first | rw [hr0 (by assumption)] | rw [hr1 (by assumption)]), N0, rfl⟩
  · have pre4 := fun (t : State) (k : Steps p.tables e below (s₁.setTop (mkF m 10 #[.val (.int xx), .val (.int yy)] [(.int xx)])) t) => pre1 t (by
      refine XS.icmpNo X0.here hx rfl (hb hby d6_2) rfl (flt hc2).1 ?_
      refine XS.iloadN X0.here hx rfl (hb hby d6_5) rfl ?_
      refine XS.goto X0.here hx rfl (pc0 := 6) (pc' := 10) rfl (hb hby d6_6) (by decide) (by decide) ?_
      exact k)
    obtain ⟨fs, hr, hrun, hended, hW, hsame⟩ := X0.leave (v := some (.int xx)) (hlocks := BodyLoose.notSynchronized Bd) (fun h => by rw [Bd.returns] at h; cases h)
    refine ⟨_, _, pre4 _ ?_, hrun, hended, _, _, rfl, ?_, ⟨_, rfl⟩, hW, hsame.mono (by decide) (by decide)⟩
    · exact retI X0 hx Bd.returns (hb hby d6_10) hr
    · show Q_mxr Z xx yy r h0 n0 _ s₁.heap _
      rw [e0]
      exact ⟨(by first | rw [hr0 (by assumption)] | rw [hr1 (by assumption)]), N0, rfl⟩

theorem ef_mir (m : MethodId) (x0 : Int32) (x1 : Int32) : entryFrame m #[(.int x0), (.int x1)] 2 = mkF m 0 #[.val (.int x0), .val (.int x1)] [] := by first | (simp [entryFrame, mkF, argsToLocals, Value.category]; done) | rfl
def Q_mir (Z : State) (xx : Int32) (yy : Int32) (r : Int32) (h0 : Heap) (n0 : Nat) (v : Option Value) (h : Heap) (L : List Loc) : Prop := v = some (.int r) ∧ Fr n0 L ∧ h = h0
set_option maxRecDepth 65536 in
set_option maxHeartbeats 40000000 in
theorem rm_mir (l : Launch) (Z : State) (a0 : Array Value) (hw : ∀ d ∈ tables_1, d.before a0 Z = true) (ws : List Jvm.Cond) (xx : Int32) (yy : Int32) (r : Int32) (h0 : Heap) (n0 : Nat) (Z0 : n0 ≤ h0.size) (hr0 : yy < xx → r = yy) (hr1 : ¬ yy < xx → r = xx) :
    MetFree l (⟨"java/lang/Math", "min", "(II)I"⟩ : MethodName) (head1 (Jvm.Cond.code (⟨"java/lang/Math", "min", "(II)I"⟩ : MethodName) jdk_29_method_69_code 2 (some .int) :: ws) ({ frames := 0, cells := 0, slots := 0, locals := 0 } : Room)) (fun as_ U_ => as_ = #[(.int xx), (.int yy)] ∧ Z.Warmed39 U_.vm ∧ U_.heap = h0) (fun _ _ _ _ _ => True) (fun _ U o U' => ∃ v L, o = .returned v ∧ Q_mir Z xx yy r h0 n0 v U'.heap L ∧ FrameEnd U o U' L ({ frames := 0, cells := 0, slots := 0, locals := 0 } : Room).cells ({ frames := 0, cells := 0, slots := 0, locals := 0 } : Room).slots) := by
  refine MetFree.of_bodySF (Jvm.Free.JP.mathPlain rfl (by decide +kernel)) hisR ?_
  intro p e s m args below meth c s₁ Bd hml0 hP hK
  obtain ⟨rfl, hZ, hhp_⟩ := hP
  have hx := Bd.exec
  have hby := Bd.bytes
  have hml : c.maxLocals = 2 := hml0
  have hown : s.vm.findClass "java/lang/Math" = some m.cls := findClass_of_methodNamed Bd.named
  have hnm := (name_of_methodNamed Bd.named Bd.method).1
  have X0 : Stand p l e ({ frames := 0, cells := 0, slots := 0, locals := 0 } : Room) s m #[(.int xx), (.int yy)] below meth c s₁ [] 0 0 := Stand.of_body Bd
  have e0 : s₁.heap = h0 := by rw [← hhp_, Bd.state]; rfl
  have N0 := Fr.nil n0
  have pre0 : ∀ t, Steps p.tables e below (s₁.setTop (mkF m 0 #[.val (.int xx), .val (.int yy)] [])) t → Steps p.tables e below (s₁.setTop (entryFrame m #[(.int xx), (.int yy)] 2)) t := fun t k => castTop (ef_mir m xx yy) k
  have pre1 := fun (t : State) (k : Steps p.tables e below (s₁.setTop (mkF m 2 #[.val (.int xx), .val (.int yy)] [(.int yy), (.int xx)])) t) => pre0 t (by
    refine XS.iloadN X0.here hx rfl (hb hby d8_0) rfl ?_
    refine XS.iloadN X0.here hx rfl (hb hby d8_1) rfl ?_
    exact k)
  by_cases hc2 : yy < xx
  · have pre3 := fun (t : State) (k : Steps p.tables e below (s₁.setTop (mkF m 10 #[.val (.int xx), .val (.int yy)] [(.int yy)])) t) => pre1 t (by
      refine XS.icmpYes X0.here hx rfl (pc0 := 2) (pc' := 9) rfl (hb hby d8_2) rfl (tlt hc2).2.2.1 (by decide) (by decide) ?_
      refine XS.iloadN X0.here hx rfl (hb hby d8_9) rfl ?_
      exact k)
    obtain ⟨fs, hr, hrun, hended, hW, hsame⟩ := X0.leave (v := some (.int yy)) (hlocks := BodyLoose.notSynchronized Bd) (fun h => by rw [Bd.returns] at h; cases h)
    refine ⟨_, _, pre3 _ ?_, hrun, hended, _, _, rfl, ?_, ⟨_, rfl⟩, hW, hsame.mono (by decide) (by decide)⟩
    · exact retI X0 hx Bd.returns (hb hby d8_10) hr
    · show Q_mir Z xx yy r h0 n0 _ s₁.heap _
      rw [e0]
      exact ⟨(by first | rw [hr0 (by assumption)] | rw [hr1 (by assumption)]), N0, rfl⟩
  · have pre4 := fun (t : State) (k : Steps p.tables e below (s₁.setTop (mkF m 10 #[.val (.int xx), .val (.int yy)] [(.int xx)])) t) => pre1 t (by
      refine XS.icmpNo X0.here hx rfl (hb hby d8_2) rfl (flt hc2).2.2.1 ?_
      refine XS.iloadN X0.here hx rfl (hb hby d8_5) rfl ?_
      refine XS.goto X0.here hx rfl (pc0 := 6) (pc' := 10) rfl (hb hby d8_6) (by decide) (by decide) ?_
      exact k)
    obtain ⟨fs, hr, hrun, hended, hW, hsame⟩ := X0.leave (v := some (.int xx)) (hlocks := BodyLoose.notSynchronized Bd) (fun h => by rw [Bd.returns] at h; cases h)
    refine ⟨_, _, pre4 _ ?_, hrun, hended, _, _, rfl, ?_, ⟨_, rfl⟩, hW, hsame.mono (by decide) (by decide)⟩
    · exact retI X0 hx Bd.returns (hb hby d8_10) hr
    · show Q_mir Z xx yy r h0 n0 _ s₁.heap _
      rw [e0]
      exact ⟨(by first | rw [hr0 (by assumption)] | rw [hr1 (by assumption)]), N0, rfl⟩

theorem ef_cpZ (m : MethodId) (x0 : Addr) (x1 : Int32) : entryFrame m #[(.ref x0), (.int x1)] 3 = mkF m 0 #[.val (.ref x0), .val (.int x1), .unset] [] := by first | (simp [entryFrame, mkF, argsToLocals, Value.category]; done) | rfl
def Q_cpZ (Z : State) (oo : Addr) (ko : ClassId) (h0 : Heap) (n0 : Nat) (v : Option Value) (h : Heap) (L : List Loc) : Prop := ∃ xx : Addr, v = some (.ref xx) ∧ Fr n0 L ∧ Keep h0 h [] ∧ n0 ≤ xx ∧ h0.size ≤ xx ∧ own_Fa Value.int .boolean Z h xx 16 (fun _ => (0 : Int32))
set_option maxRecDepth 65536 in
set_option maxHeartbeats 40000000 in
theorem rm_cpZ (l : Launch) (Z : State) (a0 : Array Value) (hw : ∀ d ∈ tables_1, d.before a0 Z = true) (ws : List Jvm.Cond) (oo : Addr) (ko : ClassId) (h0 : Heap) (n0 : Nat) (Z0 : n0 ≤ h0.size) (H0_A : Arv Z h0 oo ko .boolean (0 : Int32) [] (.int (0 : Int32))) :
    MetFree l (⟨"java/util/Arrays", "copyOf", "([ZI)[Z"⟩ : MethodName) (head1 (Jvm.Cond.code (⟨"java/util/Arrays", "copyOf", "([ZI)[Z"⟩ : MethodName) jdk_65_method_128_code 3 (some (.array .boolean)) :: ws) ({ frames := 1, cells := 1, slots := 16, locals := 18 } : Room)) (fun as_ U_ => as_ = #[(.ref oo), (.int (16 : Int32))] ∧ Z.Warmed39 U_.vm ∧ U_.heap = h0) (fun _ _ _ _ _ => True) (fun _ U o U' => ∃ v L, o = .returned v ∧ Q_cpZ Z oo ko h0 n0 v U'.heap L ∧ FrameEnd U o U' L ({ frames := 1, cells := 1, slots := 16, locals := 18 } : Room).cells ({ frames := 1, cells := 1, slots := 16, locals := 18 } : Room).slots) := by
  refine MetFree.of_bodySF (plainFor_of_name pn_0) hisR ?_
  intro p e s m args below meth c s₁ Bd hml0 hP hK
  obtain ⟨rfl, hZ, hhp_⟩ := hP
  have hx := Bd.exec
  have hby := Bd.bytes
  have hml : c.maxLocals = 3 := hml0
  have hown : s.vm.findClass "java/util/Arrays" = some m.cls := findClass_of_methodNamed Bd.named
  have hnm := (name_of_methodNamed Bd.named Bd.method).1
  have X0 : Stand p l e ({ frames := 1, cells := 1, slots := 16, locals := 18 } : Room) s m #[(.ref oo), (.int (16 : Int32))] below meth c s₁ [] 0 0 := Stand.of_body Bd
  have e0 : s₁.heap = h0 := by rw [← hhp_, Bd.state]; rfl
  have N0 := Fr.nil n0
  have pre0 : ∀ t, Steps p.tables e below (s₁.setTop (mkF m 0 #[.val (.ref oo), .val (.int (16 : Int32)), .unset] [])) t → Steps p.tables e below (s₁.setTop (entryFrame m #[(.ref oo), (.int (16 : Int32))] 3)) t := fun t k => castTop (ef_cpZ m oo (16 : Int32)) k
  have K0 : Keep h0 h0 [] := Keep.refl h0 []
  have oc1 := H0_A
  obtain ⟨c1, Arc1, qc1, Sc1, Nc1, Hc1, Gc1⟩ := oc1
  obtain ⟨T2, h2, k2, X2, e2, E2, A2, Ea2, st2⟩ := newPE X0 hx hZ (own_w hw 62 rfl) e0 (g := (mkF m 15 #[.val (.ref oo), .val (.int (16 : Int32)), .unset] [(.int (16 : Int32))])) rfl (hb hby d7_15) rfl (by decide) (cap := 16) (by decide) (by decide) (by decide) (by decide) (ad := "[Z") own_nm_boolean
  obtain ⟨b2, g2⟩ : ∃ z, z = h0.size := ⟨_, rfl⟩
  have ne_oo_b2 : oo ≠ b2 := Nat.ne_of_lt (Nat.lt_of_lt_of_le H0_A.lt (Nat.le_of_eq g2.symm))
  have ge_b2 : n0 ≤ b2 := Nat.le_trans Z0 (Nat.le_of_eq g2.symm)
  have sz_b2 : h0.size ≤ b2 := Nat.le_trans K0.1 (Nat.le_of_eq g2.symm)
  rw [← g2] at A2 Ea2 st2
  have A3 := H0_A.ext E2
  have K2 : Keep h0 h2 [] := K0.ext E2
  have Zs4 : n0 ≤ h2.size := (Nat.le_trans Z0 E2.1)
  have V2 : Arv Z h2 b2 k2 .boolean (16 : Int32) [(.int (0 : Int32)), (.int (0 : Int32)), (.int (0 : Int32)), (.int (0 : Int32)), (.int (0 : Int32)), (.int (0 : Int32)), (.int (0 : Int32)), (.int (0 : Int32)), (.int (0 : Int32)), (.int (0 : Int32)), (.int (0 : Int32)), (.int (0 : Int32)), (.int (0 : Int32)), (.int (0 : Int32)), (.int (0 : Int32)), (.int (0 : Int32))] (.int (0 : Int32)) := (Arv.new A2 (by decide)).pad (pad_rep [] (.int (0 : Int32)) 16)
  have oc5 := A3
  obtain ⟨c5, Arc5, qc5, Sc5, Nc5, Hc5, Gc5⟩ := oc5
  obtain ⟨_, _, ⟨T6, L6, k6, n6⟩, -, X6, ⟨Lc6, hQ6, l6, y6, z6⟩, st6⟩ := Jvm.LawKit.callS X2 hx (y := (⟨"java/lang/Math", "min", "(II)I"⟩ : MethodName)) hown (mvT hZ (own_w hw 63 rfl)) (mvT hZ (own_w hw 64 rfl)) (mvT hZ (own_w hw 56 rfl)) (mvT hZ (own_w hw 65 rfl)) (by decide) (backOf (W := 4) (rm_mir l Z a0 hw [] (0 : Int32) (16 : Int32) (0 : Int32) h2 n0 Zs4 (by decide) (by decide)) hZ (own_w hw 65 rfl) (own_w hw 56 rfl) (by decide) (by decide)) (g := (mkF m 25 #[.val (.ref oo), .val (.int (16 : Int32)), .val (.ref b2)] [(.int (16 : Int32)), (.int (0 : Int32)), (.int (0 : Int32)), (.ref b2), (.int (0 : Int32)), (.ref oo)])) rfl (by rw [hml]; rfl) (argsL := [(.int (0 : Int32)), (.int (16 : Int32))]) (rest := [(.int (0 : Int32)), (.ref b2), (.int (0 : Int32)), (.ref oo)]) (lenOf pd_0 rfl) rfl (by show 2 * 0 + _ ≤ _; exact Nat.le_of_eq rfl) (hb hby d7_25) (fun _ _ => ⟨rfl, e2, (by decide : 1 + 0 ≤ _), (by decide : 16 + 0 ≤ _)⟩)
  dsimp only [Pt.U, Pt.locs, Pt.cells, Pt.slots] at X6 l6 y6 z6 st6 hQ6
  subst l6 y6 z6
  obtain ⟨rfl, N6q, hq7⟩ := hQ6
  have N6 := Fr.app N0 N6q
  obtain ⟨T8, h8, L8, X8, e8, N8, K8q, A8, st8⟩ := cpA X6 hx hZ hown (own_w hw 66 rfl) (own_w hw 69 rfl) (own_w hw 67 rfl) (own_w hw 68 rfl) hq7 A3 V2 (Or.inl ⟨rfl, rfl⟩) (by decide) (by decide) (by decide) (by decide) (by decide) (us := []) rfl (Nat.le_of_ble_eq_true rfl) N6 ge_b2 (g := (mkF m 28 #[.val (.ref oo), .val (.int (16 : Int32)), .val (.ref b2)] [(.int (0 : Int32)), (.int (0 : Int32)), (.ref b2), (.int (0 : Int32)), (.ref oo)])) rfl (by rw [hml]; rfl) rfl (hb hby d7_28) (by decide) (W := 0) (by show 2 * 0 + _ ≤ _; exact Nat.le_of_eq rfl) (by decide)
  have V8 : Arv Z h8 b2 k2 .boolean (16 : Int32) [(.int (0 : Int32)), (.int (0 : Int32)), (.int (0 : Int32)), (.int (0 : Int32)), (.int (0 : Int32)), (.int (0 : Int32)), (.int (0 : Int32)), (.int (0 : Int32)), (.int (0 : Int32)), (.int (0 : Int32)), (.int (0 : Int32)), (.int (0 : Int32)), (.int (0 : Int32)), (.int (0 : Int32)), (.int (0 : Int32)), (.int (0 : Int32))] (.int (0 : Int32)) := A8
  have A9 := A3.keep K8q (ninS ne_oo_b2 nin0)
  have E10 := Ea2.keep K8q
  have K8 : Keep h0 h8 [] := K2.trans K8q (allS (Or.inr sz_b2) all0)
  have Zs11 : n0 ≤ h8.size := (Nat.le_trans Zs4 K8q.1)
  have pre12 := fun (t : State) (k : Steps p.tables e below (T8.setTop (mkF m 32 #[.val (.ref oo), .val (.int (16 : Int32)), .val (.ref b2)] [(.ref b2)])) t) => pre0 t (by
    refine XS.iloadN X0.here hx rfl (hb hby d7_0) rfl ?_
    refine XS.aloadN X0.here hx rfl (hb hby d7_1) rfl rfl ?_
    refine X0.arraylength hx (by rw [e0]; exact Arc1.1) (State.isArrayOf_alike hZ.alike Arc1.2.1) (g := (mkF m 2 #[.val (.ref oo), .val (.int (16 : Int32)), .unset] [(.ref oo), (.int (16 : Int32))])) rfl rfl (hb hby d7_2) _ ?_
    rw [show c1.slots.size.toInt32 = (0 : Int32) from (len_of Sc1 Nc1)]
    refine XS.icmpYes X0.here hx rfl (pc0 := 3) (pc' := 14) rfl (hb hby d7_3) rfl (feq (by decide : ¬ ((16 : Int32) = (0 : Int32)))).2 (by decide) (by decide) ?_
    refine XS.iloadN X0.here hx rfl (hb hby d7_14) rfl ?_
    refine st2 _ ?_
    refine XS.astoreN X2.here hx rfl (hb hby d7_17) rfl rfl (l' := #[.val (.ref oo), .val (.int (16 : Int32)), .val (.ref b2)]) rfl ?_
    refine XS.aloadN X2.here hx rfl (hb hby d7_18) rfl rfl ?_
    refine XS.iconst X2.here hx rfl (hb hby d7_19) ?_
    refine XS.aloadN X2.here hx rfl (hb hby d7_20) rfl rfl ?_
    refine XS.iconst X2.here hx rfl (hb hby d7_21) ?_
    refine XS.aloadN X2.here hx rfl (hb hby d7_22) rfl rfl ?_
    refine X2.arraylength hx (by rw [e2]; exact Arc5.1) (State.isArrayOf_alike hZ.alike Arc5.2.1) (g := (mkF m 23 #[.val (.ref oo), .val (.int (16 : Int32)), .val (.ref b2)] [(.ref oo), (.int (0 : Int32)), (.ref b2), (.int (0 : Int32)), (.ref oo)])) rfl rfl (hb hby d7_23) _ ?_
    rw [show c5.slots.size.toInt32 = (0 : Int32) from (len_of Sc5 Nc5)]
    refine XS.iloadN X2.here hx rfl (hb hby d7_24) rfl ?_
    refine st6 _ ?_
    refine st8 _ ?_
    refine XS.aloadN X8.here hx rfl (hb hby d7_31) rfl rfl ?_
    exact k)
  obtain ⟨fs, hr, hrun, hended, hW, hsame⟩ := X8.leave (v := some (.ref b2)) (hlocks := BodyLoose.notSynchronized Bd) (fun h => by rw [Bd.returns] at h; cases h)
  refine ⟨_, _, pre12 _ ?_, hrun, hended, _, _, rfl, ?_, ⟨_, rfl⟩, hW, hsame.mono (by decide) (by decide)⟩
  · jvm_step X8.here [X8.here.top, hx, (hb hby d7_32), X8.method', Bd.returns, Value.isRef, FieldType.isReference]
    first | (intro acts; rw [hr _ acts rfl rfl rfl]) | rw [hr _ _ rfl rfl rfl]
    exact Steps.refl _
  · show Q_cpZ Z oo ko h0 n0 _ T8.heap _
    rw [e8]
    exact ⟨b2, rfl, N8, K8, ge_b2, sz_b2, (own_arv_rep V8 rfl (by decide) rfl)⟩

theorem ef_cpJ (m : MethodId) (x0 : Addr) (x1 : Int32) : entryFrame m #[(.ref x0), (.int x1)] 3 = mkF m 0 #[.val (.ref x0), .val (.int x1), .unset] [] := by first | (simp [entryFrame, mkF, argsToLocals, Value.category]; done) | rfl
def Q_cpJ (Z : State) (oo : Addr) (ko : ClassId) (h0 : Heap) (n0 : Nat) (v : Option Value) (h : Heap) (L : List Loc) : Prop := ∃ xx : Addr, v = some (.ref xx) ∧ Fr n0 L ∧ Keep h0 h [] ∧ n0 ≤ xx ∧ h0.size ≤ xx ∧ own_Fa Value.long .long Z h xx 16 (fun _ => (0 : Int64))
set_option maxRecDepth 65536 in
set_option maxHeartbeats 40000000 in
theorem rm_cpJ (l : Launch) (Z : State) (a0 : Array Value) (hw : ∀ d ∈ tables_1, d.before a0 Z = true) (ws : List Jvm.Cond) (oo : Addr) (ko : ClassId) (h0 : Heap) (n0 : Nat) (Z0 : n0 ≤ h0.size) (H0_A : Arv Z h0 oo ko .long (0 : Int32) [] (.long (0 : Int64))) :
    MetFree l (⟨"java/util/Arrays", "copyOf", "([JI)[J"⟩ : MethodName) (head1 (Jvm.Cond.code (⟨"java/util/Arrays", "copyOf", "([JI)[J"⟩ : MethodName) jdk_65_method_124_code 3 (some (.array .long)) :: ws) ({ frames := 1, cells := 1, slots := 16, locals := 18 } : Room)) (fun as_ U_ => as_ = #[(.ref oo), (.int (16 : Int32))] ∧ Z.Warmed39 U_.vm ∧ U_.heap = h0) (fun _ _ _ _ _ => True) (fun _ U o U' => ∃ v L, o = .returned v ∧ Q_cpJ Z oo ko h0 n0 v U'.heap L ∧ FrameEnd U o U' L ({ frames := 1, cells := 1, slots := 16, locals := 18 } : Room).cells ({ frames := 1, cells := 1, slots := 16, locals := 18 } : Room).slots) := by
  refine MetFree.of_bodySF (plainFor_of_name pn_0) hisR ?_
  intro p e s m args below meth c s₁ Bd hml0 hP hK
  obtain ⟨rfl, hZ, hhp_⟩ := hP
  have hx := Bd.exec
  have hby := Bd.bytes
  have hml : c.maxLocals = 3 := hml0
  have hown : s.vm.findClass "java/util/Arrays" = some m.cls := findClass_of_methodNamed Bd.named
  have hnm := (name_of_methodNamed Bd.named Bd.method).1
  have X0 : Stand p l e ({ frames := 1, cells := 1, slots := 16, locals := 18 } : Room) s m #[(.ref oo), (.int (16 : Int32))] below meth c s₁ [] 0 0 := Stand.of_body Bd
  have e0 : s₁.heap = h0 := by rw [← hhp_, Bd.state]; rfl
  have N0 := Fr.nil n0
  have pre0 : ∀ t, Steps p.tables e below (s₁.setTop (mkF m 0 #[.val (.ref oo), .val (.int (16 : Int32)), .unset] [])) t → Steps p.tables e below (s₁.setTop (entryFrame m #[(.ref oo), (.int (16 : Int32))] 3)) t := fun t k => castTop (ef_cpJ m oo (16 : Int32)) k
  have K0 : Keep h0 h0 [] := Keep.refl h0 []
  have oc1 := H0_A
  obtain ⟨c1, Arc1, qc1, Sc1, Nc1, Hc1, Gc1⟩ := oc1
  obtain ⟨T2, h2, k2, X2, e2, E2, A2, Ea2, st2⟩ := newPE X0 hx hZ (own_w hw 73 rfl) e0 (g := (mkF m 15 #[.val (.ref oo), .val (.int (16 : Int32)), .unset] [(.int (16 : Int32))])) rfl (hb hby d9_15) rfl (by decide) (cap := 16) (by decide) (by decide) (by decide) (by decide) (ad := "[J") own_nm_long
  obtain ⟨b2, g2⟩ : ∃ z, z = h0.size := ⟨_, rfl⟩
  have ne_oo_b2 : oo ≠ b2 := Nat.ne_of_lt (Nat.lt_of_lt_of_le H0_A.lt (Nat.le_of_eq g2.symm))
  have ge_b2 : n0 ≤ b2 := Nat.le_trans Z0 (Nat.le_of_eq g2.symm)
  have sz_b2 : h0.size ≤ b2 := Nat.le_trans K0.1 (Nat.le_of_eq g2.symm)
  rw [← g2] at A2 Ea2 st2
  have A3 := H0_A.ext E2
  have K2 : Keep h0 h2 [] := K0.ext E2
  have Zs4 : n0 ≤ h2.size := (Nat.le_trans Z0 E2.1)
  have V2 : Arv Z h2 b2 k2 .long (16 : Int32) [(.long (0 : Int64)), (.long (0 : Int64)), (.long (0 : Int64)), (.long (0 : Int64)), (.long (0 : Int64)), (.long (0 : Int64)), (.long (0 : Int64)), (.long (0 : Int64)), (.long (0 : Int64)), (.long (0 : Int64)), (.long (0 : Int64)), (.long (0 : Int64)), (.long (0 : Int64)), (.long (0 : Int64)), (.long (0 : Int64)), (.long (0 : Int64))] (.long (0 : Int64)) := (Arv.new A2 (by decide)).pad (pad_rep [] (.long (0 : Int64)) 16)
  have oc5 := A3
  obtain ⟨c5, Arc5, qc5, Sc5, Nc5, Hc5, Gc5⟩ := oc5
  obtain ⟨_, _, ⟨T6, L6, k6, n6⟩, -, X6, ⟨Lc6, hQ6, l6, y6, z6⟩, st6⟩ := Jvm.LawKit.callS X2 hx (y := (⟨"java/lang/Math", "min", "(II)I"⟩ : MethodName)) hown (mvT hZ (own_w hw 63 rfl)) (mvT hZ (own_w hw 64 rfl)) (mvT hZ (own_w hw 56 rfl)) (mvT hZ (own_w hw 65 rfl)) (by decide) (backOf (W := 4) (rm_mir l Z a0 hw [] (0 : Int32) (16 : Int32) (0 : Int32) h2 n0 Zs4 (by decide) (by decide)) hZ (own_w hw 65 rfl) (own_w hw 56 rfl) (by decide) (by decide)) (g := (mkF m 25 #[.val (.ref oo), .val (.int (16 : Int32)), .val (.ref b2)] [(.int (16 : Int32)), (.int (0 : Int32)), (.int (0 : Int32)), (.ref b2), (.int (0 : Int32)), (.ref oo)])) rfl (by rw [hml]; rfl) (argsL := [(.int (0 : Int32)), (.int (16 : Int32))]) (rest := [(.int (0 : Int32)), (.ref b2), (.int (0 : Int32)), (.ref oo)]) (lenOf pd_0 rfl) rfl (by show 2 * 0 + _ ≤ _; exact Nat.le_of_eq rfl) (hb hby d9_25) (fun _ _ => ⟨rfl, e2, (by decide : 1 + 0 ≤ _), (by decide : 16 + 0 ≤ _)⟩)
  dsimp only [Pt.U, Pt.locs, Pt.cells, Pt.slots] at X6 l6 y6 z6 st6 hQ6
  subst l6 y6 z6
  obtain ⟨rfl, N6q, hq7⟩ := hQ6
  have N6 := Fr.app N0 N6q
  obtain ⟨T8, h8, L8, X8, e8, N8, K8q, A8, st8⟩ := cpA X6 hx hZ hown (own_w hw 66 rfl) (own_w hw 69 rfl) (own_w hw 67 rfl) (own_w hw 68 rfl) hq7 A3 V2 (Or.inl ⟨rfl, rfl⟩) (by decide) (by decide) (by decide) (by decide) (by decide) (us := []) rfl (Nat.le_of_ble_eq_true rfl) N6 ge_b2 (g := (mkF m 28 #[.val (.ref oo), .val (.int (16 : Int32)), .val (.ref b2)] [(.int (0 : Int32)), (.int (0 : Int32)), (.ref b2), (.int (0 : Int32)), (.ref oo)])) rfl (by rw [hml]; rfl) rfl (hb hby d9_28) (by decide) (W := 0) (by show 2 * 0 + _ ≤ _; exact Nat.le_of_eq rfl) (by decide)
  have V8 : Arv Z h8 b2 k2 .long (16 : Int32) [(.long (0 : Int64)), (.long (0 : Int64)), (.long (0 : Int64)), (.long (0 : Int64)), (.long (0 : Int64)), (.long (0 : Int64)), (.long (0 : Int64)), (.long (0 : Int64)), (.long (0 : Int64)), (.long (0 : Int64)), (.long (0 : Int64)), (.long (0 : Int64)), (.long (0 : Int64)), (.long (0 : Int64)), (.long (0 : Int64)), (.long (0 : Int64))] (.long (0 : Int64)) := A8
  have A9 := A3.keep K8q (ninS ne_oo_b2 nin0)
  have E10 := Ea2.keep K8q
  have K8 : Keep h0 h8 [] := K2.trans K8q (allS (Or.inr sz_b2) all0)
  have Zs11 : n0 ≤ h8.size := (Nat.le_trans Zs4 K8q.1)
  have pre12 := fun (t : State) (k : Steps p.tables e below (T8.setTop (mkF m 32 #[.val (.ref oo), .val (.int (16 : Int32)), .val (.ref b2)] [(.ref b2)])) t) => pre0 t (by
    refine XS.iloadN X0.here hx rfl (hb hby d9_0) rfl ?_
    refine XS.aloadN X0.here hx rfl (hb hby d9_1) rfl rfl ?_
    refine X0.arraylength hx (by rw [e0]; exact Arc1.1) (State.isArrayOf_alike hZ.alike Arc1.2.1) (g := (mkF m 2 #[.val (.ref oo), .val (.int (16 : Int32)), .unset] [(.ref oo), (.int (16 : Int32))])) rfl rfl (hb hby d9_2) _ ?_
    rw [show c1.slots.size.toInt32 = (0 : Int32) from (len_of Sc1 Nc1)]
    refine XS.icmpYes X0.here hx rfl (pc0 := 3) (pc' := 14) rfl (hb hby d9_3) rfl (feq (by decide : ¬ ((16 : Int32) = (0 : Int32)))).2 (by decide) (by decide) ?_
    refine XS.iloadN X0.here hx rfl (hb hby d9_14) rfl ?_
    refine st2 _ ?_
    refine XS.astoreN X2.here hx rfl (hb hby d9_17) rfl rfl (l' := #[.val (.ref oo), .val (.int (16 : Int32)), .val (.ref b2)]) rfl ?_
    refine XS.aloadN X2.here hx rfl (hb hby d9_18) rfl rfl ?_
    refine XS.iconst X2.here hx rfl (hb hby d9_19) ?_
    refine XS.aloadN X2.here hx rfl (hb hby d9_20) rfl rfl ?_
    refine XS.iconst X2.here hx rfl (hb hby d9_21) ?_
    refine XS.aloadN X2.here hx rfl (hb hby d9_22) rfl rfl ?_
    refine X2.arraylength hx (by rw [e2]; exact Arc5.1) (State.isArrayOf_alike hZ.alike Arc5.2.1) (g := (mkF m 23 #[.val (.ref oo), .val (.int (16 : Int32)), .val (.ref b2)] [(.ref oo), (.int (0 : Int32)), (.ref b2), (.int (0 : Int32)), (.ref oo)])) rfl rfl (hb hby d9_23) _ ?_
    rw [show c5.slots.size.toInt32 = (0 : Int32) from (len_of Sc5 Nc5)]
    refine XS.iloadN X2.here hx rfl (hb hby d9_24) rfl ?_
    refine st6 _ ?_
    refine st8 _ ?_
    refine XS.aloadN X8.here hx rfl (hb hby d9_31) rfl rfl ?_
    exact k)
  obtain ⟨fs, hr, hrun, hended, hW, hsame⟩ := X8.leave (v := some (.ref b2)) (hlocks := BodyLoose.notSynchronized Bd) (fun h => by rw [Bd.returns] at h; cases h)
  refine ⟨_, _, pre12 _ ?_, hrun, hended, _, _, rfl, ?_, ⟨_, rfl⟩, hW, hsame.mono (by decide) (by decide)⟩
  · jvm_step X8.here [X8.here.top, hx, (hb hby d9_32), X8.method', Bd.returns, Value.isRef, FieldType.isReference]
    first | (intro acts; rw [hr _ acts rfl rfl rfl]) | rw [hr _ _ rfl rfl rfl]
    exact Steps.refl _
  · show Q_cpJ Z oo ko h0 n0 _ T8.heap _
    rw [e8]
    exact ⟨b2, rfl, N8, K8, ge_b2, sz_b2, (own_arv_rep V8 rfl (by decide) rfl)⟩

theorem ef_cpI (m : MethodId) (x0 : Addr) (x1 : Int32) : entryFrame m #[(.ref x0), (.int x1)] 3 = mkF m 0 #[.val (.ref x0), .val (.int x1), .unset] [] := by first | (simp [entryFrame, mkF, argsToLocals, Value.category]; done) | rfl
def Q_cpI (Z : State) (oo : Addr) (ko : ClassId) (h0 : Heap) (n0 : Nat) (v : Option Value) (h : Heap) (L : List Loc) : Prop := ∃ xx : Addr, v = some (.ref xx) ∧ Fr n0 L ∧ Keep h0 h [] ∧ n0 ≤ xx ∧ h0.size ≤ xx ∧ own_Fa Value.int .int Z h xx 16 (fun _ => (0 : Int32))
set_option maxRecDepth 65536 in
set_option maxHeartbeats 40000000 in
theorem rm_cpI (l : Launch) (Z : State) (a0 : Array Value) (hw : ∀ d ∈ tables_1, d.before a0 Z = true) (ws : List Jvm.Cond) (oo : Addr) (ko : ClassId) (h0 : Heap) (n0 : Nat) (Z0 : n0 ≤ h0.size) (H0_A : Arv Z h0 oo ko .int (0 : Int32) [] (.int (0 : Int32))) :
    MetFree l (⟨"java/util/Arrays", "copyOf", "([II)[I"⟩ : MethodName) (head1 (Jvm.Cond.code (⟨"java/util/Arrays", "copyOf", "([II)[I"⟩ : MethodName) jdk_65_method_123_code 3 (some (.array .int)) :: ws) ({ frames := 1, cells := 1, slots := 16, locals := 18 } : Room)) (fun as_ U_ => as_ = #[(.ref oo), (.int (16 : Int32))] ∧ Z.Warmed39 U_.vm ∧ U_.heap = h0) (fun _ _ _ _ _ => True) (fun _ U o U' => ∃ v L, o = .returned v ∧ Q_cpI Z oo ko h0 n0 v U'.heap L ∧ FrameEnd U o U' L ({ frames := 1, cells := 1, slots := 16, locals := 18 } : Room).cells ({ frames := 1, cells := 1, slots := 16, locals := 18 } : Room).slots) := by
  refine MetFree.of_bodySF (plainFor_of_name pn_0) hisR ?_
  intro p e s m args below meth c s₁ Bd hml0 hP hK
  obtain ⟨rfl, hZ, hhp_⟩ := hP
  have hx := Bd.exec
  have hby := Bd.bytes
  have hml : c.maxLocals = 3 := hml0
  have hown : s.vm.findClass "java/util/Arrays" = some m.cls := findClass_of_methodNamed Bd.named
  have hnm := (name_of_methodNamed Bd.named Bd.method).1
  have X0 : Stand p l e ({ frames := 1, cells := 1, slots := 16, locals := 18 } : Room) s m #[(.ref oo), (.int (16 : Int32))] below meth c s₁ [] 0 0 := Stand.of_body Bd
  have e0 : s₁.heap = h0 := by rw [← hhp_, Bd.state]; rfl
  have N0 := Fr.nil n0
  have pre0 : ∀ t, Steps p.tables e below (s₁.setTop (mkF m 0 #[.val (.ref oo), .val (.int (16 : Int32)), .unset] [])) t → Steps p.tables e below (s₁.setTop (entryFrame m #[(.ref oo), (.int (16 : Int32))] 3)) t := fun t k => castTop (ef_cpI m oo (16 : Int32)) k
  have K0 : Keep h0 h0 [] := Keep.refl h0 []
  have oc1 := H0_A
  obtain ⟨c1, Arc1, qc1, Sc1, Nc1, Hc1, Gc1⟩ := oc1
  obtain ⟨T2, h2, k2, X2, e2, E2, A2, Ea2, st2⟩ := newPE X0 hx hZ (own_w hw 77 rfl) e0 (g := (mkF m 15 #[.val (.ref oo), .val (.int (16 : Int32)), .unset] [(.int (16 : Int32))])) rfl (hb hby d10_15) rfl (by decide) (cap := 16) (by decide) (by decide) (by decide) (by decide) (ad := "[I") own_nm_int
  obtain ⟨b2, g2⟩ : ∃ z, z = h0.size := ⟨_, rfl⟩
  have ne_oo_b2 : oo ≠ b2 := Nat.ne_of_lt (Nat.lt_of_lt_of_le H0_A.lt (Nat.le_of_eq g2.symm))
  have ge_b2 : n0 ≤ b2 := Nat.le_trans Z0 (Nat.le_of_eq g2.symm)
  have sz_b2 : h0.size ≤ b2 := Nat.le_trans K0.1 (Nat.le_of_eq g2.symm)
  rw [← g2] at A2 Ea2 st2
  have A3 := H0_A.ext E2
  have K2 : Keep h0 h2 [] := K0.ext E2
  have Zs4 : n0 ≤ h2.size := (Nat.le_trans Z0 E2.1)
  have V2 : Arv Z h2 b2 k2 .int (16 : Int32) [(.int (0 : Int32)), (.int (0 : Int32)), (.int (0 : Int32)), (.int (0 : Int32)), (.int (0 : Int32)), (.int (0 : Int32)), (.int (0 : Int32)), (.int (0 : Int32)), (.int (0 : Int32)), (.int (0 : Int32)), (.int (0 : Int32)), (.int (0 : Int32)), (.int (0 : Int32)), (.int (0 : Int32)), (.int (0 : Int32)), (.int (0 : Int32))] (.int (0 : Int32)) := (Arv.new A2 (by decide)).pad (pad_rep [] (.int (0 : Int32)) 16)
  have oc5 := A3
  obtain ⟨c5, Arc5, qc5, Sc5, Nc5, Hc5, Gc5⟩ := oc5
  obtain ⟨_, _, ⟨T6, L6, k6, n6⟩, -, X6, ⟨Lc6, hQ6, l6, y6, z6⟩, st6⟩ := Jvm.LawKit.callS X2 hx (y := (⟨"java/lang/Math", "min", "(II)I"⟩ : MethodName)) hown (mvT hZ (own_w hw 63 rfl)) (mvT hZ (own_w hw 64 rfl)) (mvT hZ (own_w hw 56 rfl)) (mvT hZ (own_w hw 65 rfl)) (by decide) (backOf (W := 4) (rm_mir l Z a0 hw [] (0 : Int32) (16 : Int32) (0 : Int32) h2 n0 Zs4 (by decide) (by decide)) hZ (own_w hw 65 rfl) (own_w hw 56 rfl) (by decide) (by decide)) (g := (mkF m 25 #[.val (.ref oo), .val (.int (16 : Int32)), .val (.ref b2)] [(.int (16 : Int32)), (.int (0 : Int32)), (.int (0 : Int32)), (.ref b2), (.int (0 : Int32)), (.ref oo)])) rfl (by rw [hml]; rfl) (argsL := [(.int (0 : Int32)), (.int (16 : Int32))]) (rest := [(.int (0 : Int32)), (.ref b2), (.int (0 : Int32)), (.ref oo)]) (lenOf pd_0 rfl) rfl (by show 2 * 0 + _ ≤ _; exact Nat.le_of_eq rfl) (hb hby d10_25) (fun _ _ => ⟨rfl, e2, (by decide : 1 + 0 ≤ _), (by decide : 16 + 0 ≤ _)⟩)
  dsimp only [Pt.U, Pt.locs, Pt.cells, Pt.slots] at X6 l6 y6 z6 st6 hQ6
  subst l6 y6 z6
  obtain ⟨rfl, N6q, hq7⟩ := hQ6
  have N6 := Fr.app N0 N6q
  obtain ⟨T8, h8, L8, X8, e8, N8, K8q, A8, st8⟩ := cpA X6 hx hZ hown (own_w hw 66 rfl) (own_w hw 69 rfl) (own_w hw 67 rfl) (own_w hw 68 rfl) hq7 A3 V2 (Or.inl ⟨rfl, rfl⟩) (by decide) (by decide) (by decide) (by decide) (by decide) (us := []) rfl (Nat.le_of_ble_eq_true rfl) N6 ge_b2 (g := (mkF m 28 #[.val (.ref oo), .val (.int (16 : Int32)), .val (.ref b2)] [(.int (0 : Int32)), (.int (0 : Int32)), (.ref b2), (.int (0 : Int32)), (.ref oo)])) rfl (by rw [hml]; rfl) rfl (hb hby d10_28) (by decide) (W := 0) (by show 2 * 0 + _ ≤ _; exact Nat.le_of_eq rfl) (by decide)
  have V8 : Arv Z h8 b2 k2 .int (16 : Int32) [(.int (0 : Int32)), (.int (0 : Int32)), (.int (0 : Int32)), (.int (0 : Int32)), (.int (0 : Int32)), (.int (0 : Int32)), (.int (0 : Int32)), (.int (0 : Int32)), (.int (0 : Int32)), (.int (0 : Int32)), (.int (0 : Int32)), (.int (0 : Int32)), (.int (0 : Int32)), (.int (0 : Int32)), (.int (0 : Int32)), (.int (0 : Int32))] (.int (0 : Int32)) := A8
  have A9 := A3.keep K8q (ninS ne_oo_b2 nin0)
  have E10 := Ea2.keep K8q
  have K8 : Keep h0 h8 [] := K2.trans K8q (allS (Or.inr sz_b2) all0)
  have Zs11 : n0 ≤ h8.size := (Nat.le_trans Zs4 K8q.1)
  have pre12 := fun (t : State) (k : Steps p.tables e below (T8.setTop (mkF m 32 #[.val (.ref oo), .val (.int (16 : Int32)), .val (.ref b2)] [(.ref b2)])) t) => pre0 t (by
    refine XS.iloadN X0.here hx rfl (hb hby d10_0) rfl ?_
    refine XS.aloadN X0.here hx rfl (hb hby d10_1) rfl rfl ?_
    refine X0.arraylength hx (by rw [e0]; exact Arc1.1) (State.isArrayOf_alike hZ.alike Arc1.2.1) (g := (mkF m 2 #[.val (.ref oo), .val (.int (16 : Int32)), .unset] [(.ref oo), (.int (16 : Int32))])) rfl rfl (hb hby d10_2) _ ?_
    rw [show c1.slots.size.toInt32 = (0 : Int32) from (len_of Sc1 Nc1)]
    refine XS.icmpYes X0.here hx rfl (pc0 := 3) (pc' := 14) rfl (hb hby d10_3) rfl (feq (by decide : ¬ ((16 : Int32) = (0 : Int32)))).2 (by decide) (by decide) ?_
    refine XS.iloadN X0.here hx rfl (hb hby d10_14) rfl ?_
    refine st2 _ ?_
    refine XS.astoreN X2.here hx rfl (hb hby d10_17) rfl rfl (l' := #[.val (.ref oo), .val (.int (16 : Int32)), .val (.ref b2)]) rfl ?_
    refine XS.aloadN X2.here hx rfl (hb hby d10_18) rfl rfl ?_
    refine XS.iconst X2.here hx rfl (hb hby d10_19) ?_
    refine XS.aloadN X2.here hx rfl (hb hby d10_20) rfl rfl ?_
    refine XS.iconst X2.here hx rfl (hb hby d10_21) ?_
    refine XS.aloadN X2.here hx rfl (hb hby d10_22) rfl rfl ?_
    refine X2.arraylength hx (by rw [e2]; exact Arc5.1) (State.isArrayOf_alike hZ.alike Arc5.2.1) (g := (mkF m 23 #[.val (.ref oo), .val (.int (16 : Int32)), .val (.ref b2)] [(.ref oo), (.int (0 : Int32)), (.ref b2), (.int (0 : Int32)), (.ref oo)])) rfl rfl (hb hby d10_23) _ ?_
    rw [show c5.slots.size.toInt32 = (0 : Int32) from (len_of Sc5 Nc5)]
    refine XS.iloadN X2.here hx rfl (hb hby d10_24) rfl ?_
    refine st6 _ ?_
    refine st8 _ ?_
    refine XS.aloadN X8.here hx rfl (hb hby d10_31) rfl rfl ?_
    exact k)
  obtain ⟨fs, hr, hrun, hended, hW, hsame⟩ := X8.leave (v := some (.ref b2)) (hlocks := BodyLoose.notSynchronized Bd) (fun h => by rw [Bd.returns] at h; cases h)
  refine ⟨_, _, pre12 _ ?_, hrun, hended, _, _, rfl, ?_, ⟨_, rfl⟩, hW, hsame.mono (by decide) (by decide)⟩
  · jvm_step X8.here [X8.here.top, hx, (hb hby d10_32), X8.method', Bd.returns, Value.isRef, FieldType.isReference]
    first | (intro acts; rw [hr _ acts rfl rfl rfl]) | rw [hr _ _ rfl rfl rfl]
    exact Steps.refl _
  · show Q_cpI Z oo ko h0 n0 _ T8.heap _
    rw [e8]
    exact ⟨b2, rfl, N8, K8, ge_b2, sz_b2, (own_arv_rep V8 rfl (by decide) rfl)⟩

theorem ef_oin (m : MethodId) (x0 : Addr) : entryFrame m #[(.ref x0)] 1 = mkF m 0 #[.val (.ref x0)] [] := by first | (simp [entryFrame, mkF, argsToLocals, Value.category]; done) | rfl
def Q_oin (Z : State) (oo : Addr) (al : Addr) (h0 : Heap) (n0 : Nat) (v : Option Value) (h : Heap) (L : List Loc) : Prop := v = none ∧ Fr n0 L ∧ Keep h0 h [oo] ∧ Fld Z h oo "com/example/fieldglass/fieldglass/io/Marks$Order" "held" "[J" (.ref al) ∧ Fld Z h oo "com/example/fieldglass/fieldglass/io/Marks$Order" "count" "I" (.int (0 : Int32)) ∧ Fld Z h oo "com/example/fieldglass/fieldglass/io/Marks$Order" "spilled" "J" (.long (0 : Int64)) ∧ Fld Z h oo "com/example/fieldglass/fieldglass/io/Marks$Order" "read" "J" (.long (0 : Int64))
set_option maxRecDepth 65536 in
set_option maxHeartbeats 40000000 in
theorem rm_oin (l : Launch) (Z : State) (a0 : Array Value) (hw : ∀ d ∈ tables_1, d.before a0 Z = true) (ws : List Jvm.Cond) (oo : Addr) (al : Addr) (h0 : Heap) (n0 : Nat) (Z0 : n0 ≤ h0.size) (H0_E : Exa Z h0 oo "com/example/fieldglass/fieldglass/io/Marks$Order") (H1_F : Fld Z h0 oo "com/example/fieldglass/fieldglass/io/Marks$Order" "held" "[J" .null) (H2_F : Fld Z h0 oo "com/example/fieldglass/fieldglass/io/Marks$Order" "spilling" "Z" (.int (0 : Int32))) (H3_F : Fld Z h0 oo "com/example/fieldglass/fieldglass/io/Marks$Order" "count" "I" (.int (0 : Int32))) (H4_F : Fld Z h0 oo "com/example/fieldglass/fieldglass/io/Marks$Order" "spilled" "J" (.long (0 : Int64))) (H5_F : Fld Z h0 oo "com/example/fieldglass/fieldglass/io/Marks$Order" "read" "J" (.long (0 : Int64))) (H6_S : Sta Z h0 "com/example/fieldglass/fieldglass/io/Marks" "NO_LONGS" "[J" (.ref al)) (hoo : n0 ≤ oo) :
    MetFree l (⟨"com/example/fieldglass/fieldglass/io/Marks$Order", "<init>", "()V"⟩ : MethodName) (head1 (Jvm.Cond.code (⟨"com/example/fieldglass/fieldglass/io/Marks$Order", "<init>", "()V"⟩ : MethodName) prog_14_method_1_code 1 none :: ws) ({ frames := 1, cells := 0, slots := 0, locals := 12 } : Room)) (fun as_ U_ => as_ = #[(.ref oo)] ∧ Z.Warmed39 U_.vm ∧ U_.heap = h0) (fun _ _ _ _ _ => True) (fun _ U o U' => ∃ v L, o = .returned v ∧ Q_oin Z oo al h0 n0 v U'.heap L ∧ FrameEnd U o U' L ({ frames := 1, cells := 0, slots := 0, locals := 12 } : Room).cells ({ frames := 1, cells := 0, slots := 0, locals := 12 } : Room).slots) := by
  refine MetFree.of_bodySF (plainFor_of_name pn_1) hisR ?_
  intro p e s m args below meth c s₁ Bd hml0 hP hK
  obtain ⟨rfl, hZ, hhp_⟩ := hP
  have hx := Bd.exec
  have hby := Bd.bytes
  have hml : c.maxLocals = 1 := hml0
  have hown : s.vm.findClass "com/example/fieldglass/fieldglass/io/Marks$Order" = some m.cls := findClass_of_methodNamed Bd.named
  have hnm := (name_of_methodNamed Bd.named Bd.method).1
  have X0 : Stand p l e ({ frames := 1, cells := 0, slots := 0, locals := 12 } : Room) s m #[(.ref oo)] below meth c s₁ [] 0 0 := Stand.of_body Bd
  have e0 : s₁.heap = h0 := by rw [← hhp_, Bd.state]; rfl
  have N0 := Fr.nil n0
  have pre0 : ∀ t, Steps p.tables e below (s₁.setTop (mkF m 0 #[.val (.ref oo)] [])) t → Steps p.tables e below (s₁.setTop (entryFrame m #[(.ref oo)] 1)) t := fun t k => castTop (ef_oin m oo) k
  have K0 : Keep h0 h0 [oo] := Keep.refl h0 [oo]
  obtain ⟨T1, X1, e1, st1⟩ := initO X0 hx hZ hown (own_w hw 34 rfl) (own_w hw 8 rfl) (own_w hw 9 rfl) e0 (g := (mkF m 1 #[.val (.ref oo)] [(.ref oo)])) rfl (by rw [hml]; rfl) rfl (hb hby d3_1) (by decide) (W := 0) (by show 2 * 0 + _ ≤ _; exact Nat.le_of_eq rfl) (by decide)
  obtain ⟨T2, X2, e2, st2⟩ := getS2 X1 hx hZ hown (Or.inr (own_w hw 35 rfl)) Via.refl e1 H6_S (g := (mkF m 5 #[.val (.ref oo)] [(.ref oo)])) rfl (hb hby d3_5)
  obtain ⟨T3, h3, X3, e3, W3, st3⟩ := putF X2 hx hZ hown (host := "") (Or.inl (own_w hw 36 rfl)) Via.refl e2 H1_F H0_E (Or.inl (own_w hw 37 rfl)) (own_w hw 29 rfl) (ty := (.array .long)) (by decide) rfl rfl (g := (mkF m 8 #[.val (.ref oo)] [(.ref al), (.ref oo)])) rfl rfl (hb hby d3_8)
  have Fw3 : Fld Z h3 oo "com/example/fieldglass/fieldglass/io/Marks$Order" "held" "[J" (.ref al) := H1_F.same W3
  have E4 := H0_E.wr W3
  have F5 := H2_F.other W3 (Or.inr (slot_ne (Or.inl (own_w hw 39 rfl)) (Or.inl (own_w hw 37 rfl)) (by decide) (t := .boolean) (t' := (.array .long)) (by decide) (by decide)))
  have F6 := H3_F.other W3 (Or.inr (slot_ne (Or.inl (own_w hw 112 rfl)) (Or.inl (own_w hw 37 rfl)) (by decide) (t := .int) (t' := (.array .long)) (by decide) (by decide)))
  have F7 := H4_F.other W3 (Or.inr (slot_ne (Or.inl (own_w hw 110 rfl)) (Or.inl (own_w hw 37 rfl)) (by decide) (t := .long) (t' := (.array .long)) (by decide) (by decide)))
  have F8 := H5_F.other W3 (Or.inr (slot_ne (Or.inl (own_w hw 151 rfl)) (Or.inl (own_w hw 37 rfl)) (by decide) (t := .long) (t' := (.array .long)) (by decide) (by decide)))
  have S9 := H6_S.wr W3
  have N3 := Fr.snoc X3 N0 hoo
  have K3 : Keep h0 h3 [oo] := K0.wr W3 (Or.inl (List.mem_of_getElem? (i := 0) rfl))
  have Zs10 : n0 ≤ h3.size := (Nat.le_trans Z0 (Keep.of_wr W3).1)
  obtain ⟨T11, h11, X11, e11, W11, st11⟩ := putFN X3 hx hZ hown (own_w hw 38 rfl) Via.refl e3 F5 E4 (Or.inl (own_w hw 39 rfl)) (own_w hw 29 rfl) (ty := .boolean) (v' := (.int (1 : Int32))) (by decide) rfl rfl (g := (mkF m 13 #[.val (.ref oo)] [(.int (1 : Int32)), (.ref oo)])) rfl rfl (hb hby d3_13)
  have Fw11 : Fld Z h11 oo "com/example/fieldglass/fieldglass/io/Marks$Order" "spilling" "Z" (.int (1 : Int32)) := F5.same W11
  have E12 := E4.wr W11
  have F13 := F6.other W11 (Or.inr (slot_ne (Or.inl (own_w hw 112 rfl)) (Or.inl (own_w hw 39 rfl)) (by decide) (t := .int) (t' := .boolean) (by decide) (by decide)))
  have F14 := F7.other W11 (Or.inr (slot_ne (Or.inl (own_w hw 110 rfl)) (Or.inl (own_w hw 39 rfl)) (by decide) (t := .long) (t' := .boolean) (by decide) (by decide)))
  have F15 := F8.other W11 (Or.inr (slot_ne (Or.inl (own_w hw 151 rfl)) (Or.inl (own_w hw 39 rfl)) (by decide) (t := .long) (t' := .boolean) (by decide) (by decide)))
  have S16 := S9.wr W11
  have F17 := Fw3.other W11 (Or.inr (slot_ne (Or.inl (own_w hw 37 rfl)) (Or.inl (own_w hw 39 rfl)) (by decide) (t := (.array .long)) (t' := .boolean) (by decide) (by decide)))
  have N11 := Fr.snoc X11 N3 hoo
  have K11 : Keep h0 h11 [oo] := K3.wr W11 (Or.inl (List.mem_of_getElem? (i := 0) rfl))
  have Zs18 : n0 ≤ h11.size := (Nat.le_trans Zs10 (Keep.of_wr W11).1)
  have pre19 := fun (t : State) (k : Steps p.tables e below (T11.setTop (mkF m 16 #[.val (.ref oo)] [])) t) => pre0 t (by
    refine XS.aloadN X0.here hx rfl (hb hby d3_0) rfl rfl ?_
    refine st1 _ ?_
    refine XS.aloadN X1.here hx rfl (hb hby d3_4) rfl rfl ?_
    refine st2 _ ?_
    refine st3 _ ?_
    refine XS.aloadN X3.here hx rfl (hb hby d3_11) rfl rfl ?_
    refine XS.iconst X3.here hx rfl (hb hby d3_12) ?_
    refine st11 _ ?_
    exact k)
  obtain ⟨fs, hr, hrun, hended, hW, hsame⟩ := X11.leave (v := none) (hlocks := BodyLoose.notSynchronized Bd) (fun _ => rfl)
  refine ⟨_, _, pre19 _ ?_, hrun, hended, _, _, rfl, ?_, ⟨_, rfl⟩, hW, hsame.mono (by decide) (by decide)⟩
  · exact X11.returnOut hx Bd.returns (hb hby d3_16) hr
  · show Q_oin Z oo al h0 n0 _ T11.heap _
    rw [e11]
    exact ⟨rfl, N11, K11, F17, F13, F14, F15⟩

theorem ef_mki (m : MethodId) (x0 : Addr) : entryFrame m #[(.ref x0)] 1 = mkF m 0 #[.val (.ref x0)] [] := by first | (simp [entryFrame, mkF, argsToLocals, Value.category]; done) | rfl
def Q_mki (Z : State) (dd : Addr) (ab : Addr) (al : Addr) (an : Addr) (h0 : Heap) (n0 : Nat) (v : Option Value) (h : Heap) (L : List Loc) : Prop := ∃ oo : Addr, v = none ∧ Fr n0 L ∧ Keep h0 h [dd] ∧ n0 ≤ oo ∧ h0.size ≤ oo ∧ Fld Z h dd "com/example/fieldglass/fieldglass/io/Marks" "messages" "[Z" (.ref ab) ∧ Fld Z h dd "com/example/fieldglass/fieldglass/io/Marks" "firstFieldSites" "[J" (.ref al) ∧ Fld Z h dd "com/example/fieldglass/fieldglass/io/Marks" "fieldSites" "[I" (.ref an) ∧ Fld Z h dd "com/example/fieldglass/fieldglass/io/Marks" "slots" "[J" (.ref al) ∧ Fld Z h dd "com/example/fieldglass/fieldglass/io/Marks" "slotted" "I" (.int (0 : Int32)) ∧ Fld Z h dd "com/example/fieldglass/fieldglass/io/Marks" "deepestFields" "I" (.int (-1 : Int32)) ∧ Fld Z h dd "com/example/fieldglass/fieldglass/io/Marks" "marking" "Z" (.int (1 : Int32)) ∧ Fld Z h dd "com/example/fieldglass/fieldglass/io/Marks" "order" "Lcom/example/fieldglass/fieldglass/io/Marks$Order;" (.ref oo) ∧ Fld Z h dd "com/example/fieldglass/fieldglass/io/Marks" "next" "J" (.long (9223372036854775807 : Int64)) ∧ Exa Z h oo "com/example/fieldglass/fieldglass/io/Marks$Order" ∧ Fld Z h oo "com/example/fieldglass/fieldglass/io/Marks$Order" "held" "[J" (.ref al) ∧ Fld Z h oo "com/example/fieldglass/fieldglass/io/Marks$Order" "count" "I" (.int (0 : Int32)) ∧ Fld Z h oo "com/example/fieldglass/fieldglass/io/Marks$Order" "spilled" "J" (.long (0 : Int64)) ∧ Fld Z h oo "com/example/fieldglass/fieldglass/io/Marks$Order" "read" "J" (.long (0 : Int64))
set_option maxRecDepth 65536 in
set_option maxHeartbeats 40000000 in
theorem rm_mki (l : Launch) (Z : State) (a0 : Array Value) (hw : ∀ d ∈ tables_1, d.before a0 Z = true) (ws : List Jvm.Cond) (dd : Addr) (ab : Addr) (al : Addr) (an : Addr) (h0 : Heap) (n0 : Nat) (Z0 : n0 ≤ h0.size) (H0_E : Exa Z h0 dd "com/example/fieldglass/fieldglass/io/Marks") (H1_F : Fld Z h0 dd "com/example/fieldglass/fieldglass/io/Marks" "messages" "[Z" .null) (H2_F : Fld Z h0 dd "com/example/fieldglass/fieldglass/io/Marks" "firstFieldSites" "[J" .null) (H3_F : Fld Z h0 dd "com/example/fieldglass/fieldglass/io/Marks" "fieldSites" "[I" .null) (H4_F : Fld Z h0 dd "com/example/fieldglass/fieldglass/io/Marks" "slots" "[J" .null) (H5_F : Fld Z h0 dd "com/example/fieldglass/fieldglass/io/Marks" "slotted" "I" (.int (0 : Int32))) (H6_F : Fld Z h0 dd "com/example/fieldglass/fieldglass/io/Marks" "deepestFields" "I" (.int (0 : Int32))) (H7_F : Fld Z h0 dd "com/example/fieldglass/fieldglass/io/Marks" "marking" "Z" (.int (0 : Int32))) (H8_F : Fld Z h0 dd "com/example/fieldglass/fieldglass/io/Marks" "order" "Lcom/example/fieldglass/fieldglass/io/Marks$Order;" .null) (H9_F : Fld Z h0 dd "com/example/fieldglass/fieldglass/io/Marks" "next" "J" (.long (0 : Int64))) (H10_S : Sta Z h0 "com/example/fieldglass/fieldglass/io/Marks" "NO_BOOLEANS" "[Z" (.ref ab)) (H11_S : Sta Z h0 "com/example/fieldglass/fieldglass/io/Marks" "NO_LONGS" "[J" (.ref al)) (H12_S : Sta Z h0 "com/example/fieldglass/fieldglass/io/Marks" "NO_INTS" "[I" (.ref an)) (hdd : n0 ≤ dd) :
    MetFree l (⟨"com/example/fieldglass/fieldglass/io/Marks", "<init>", "()V"⟩ : MethodName) (head1 (Jvm.Cond.code (⟨"com/example/fieldglass/fieldglass/io/Marks", "<init>", "()V"⟩ : MethodName) prog_13_method_1_code 1 none :: ws) ({ frames := 2, cells := 1, slots := 8, locals := 26 } : Room)) (fun as_ U_ => as_ = #[(.ref dd)] ∧ Z.Warmed39 U_.vm ∧ U_.heap = h0) (fun _ _ _ _ _ => True) (fun _ U o U' => ∃ v L, o = .returned v ∧ Q_mki Z dd ab al an h0 n0 v U'.heap L ∧ FrameEnd U o U' L ({ frames := 2, cells := 1, slots := 8, locals := 26 } : Room).cells ({ frames := 2, cells := 1, slots := 8, locals := 26 } : Room).slots) := by
  refine MetFree.of_bodySF (plainFor_of_name pn_2) hisR ?_
  intro p e s m args below meth c s₁ Bd hml0 hP hK
  obtain ⟨rfl, hZ, hhp_⟩ := hP
  have hx := Bd.exec
  have hby := Bd.bytes
  have hml : c.maxLocals = 1 := hml0
  have hown : s.vm.findClass "com/example/fieldglass/fieldglass/io/Marks" = some m.cls := findClass_of_methodNamed Bd.named
  have hnm := (name_of_methodNamed Bd.named Bd.method).1
  have X0 : Stand p l e ({ frames := 2, cells := 1, slots := 8, locals := 26 } : Room) s m #[(.ref dd)] below meth c s₁ [] 0 0 := Stand.of_body Bd
  have e0 : s₁.heap = h0 := by rw [← hhp_, Bd.state]; rfl
  have N0 := Fr.nil n0
  have pre0 : ∀ t, Steps p.tables e below (s₁.setTop (mkF m 0 #[.val (.ref dd)] [])) t → Steps p.tables e below (s₁.setTop (entryFrame m #[(.ref dd)] 1)) t := fun t k => castTop (ef_mki m dd) k
  have K0 : Keep h0 h0 [dd] := Keep.refl h0 [dd]
  obtain ⟨T1, X1, e1, st1⟩ := initO X0 hx hZ hown (own_w hw 7 rfl) (own_w hw 8 rfl) (own_w hw 9 rfl) e0 (g := (mkF m 1 #[.val (.ref dd)] [(.ref dd)])) rfl (by rw [hml]; rfl) rfl (hb hby d1_1) (by decide) (W := 0) (by show 2 * 0 + _ ≤ _; exact Nat.le_of_eq rfl) (by decide)
  obtain ⟨T2, X2, e2, st2⟩ := getS2 X1 hx hZ hown (host := "") (Or.inl (own_w hw 10 rfl)) Via.refl e1 H10_S (g := (mkF m 5 #[.val (.ref dd)] [(.ref dd)])) rfl (hb hby d1_5)
  obtain ⟨T3, h3, X3, e3, W3, st3⟩ := putF X2 hx hZ hown (host := "") (Or.inl (own_w hw 12 rfl)) Via.refl e2 H1_F H0_E (Or.inl (own_w hw 13 rfl)) (own_w hw 2 rfl) (ty := (.array .boolean)) (by decide) rfl rfl (g := (mkF m 8 #[.val (.ref dd)] [(.ref ab), (.ref dd)])) rfl rfl (hb hby d1_8)
  have Fw3 : Fld Z h3 dd "com/example/fieldglass/fieldglass/io/Marks" "messages" "[Z" (.ref ab) := H1_F.same W3
  have E4 := H0_E.wr W3
  have F5 := H2_F.other W3 (Or.inr (slot_ne (Or.inl (own_w hw 17 rfl)) (Or.inl (own_w hw 13 rfl)) (by decide) (t := (.array .long)) (t' := (.array .boolean)) (by decide) (by decide)))
  have F6 := H3_F.other W3 (Or.inr (slot_ne (Or.inl (own_w hw 21 rfl)) (Or.inl (own_w hw 13 rfl)) (by decide) (t := (.array .int)) (t' := (.array .boolean)) (by decide) (by decide)))
  have F7 := H4_F.other W3 (Or.inr (slot_ne (Or.inl (own_w hw 23 rfl)) (Or.inl (own_w hw 13 rfl)) (by decide) (t := (.array .long)) (t' := (.array .boolean)) (by decide) (by decide)))
  have F8 := H5_F.other W3 (Or.inr (slot_ne (Or.inl (own_w hw 84 rfl)) (Or.inl (own_w hw 13 rfl)) (by decide) (t := .int) (t' := (.array .boolean)) (by decide) (by decide)))
  have F9 := H6_F.other W3 (Or.inr (slot_ne (Or.inl (own_w hw 25 rfl)) (Or.inl (own_w hw 13 rfl)) (by decide) (t := .int) (t' := (.array .boolean)) (by decide) (by decide)))
  have F10 := H7_F.other W3 (Or.inr (slot_ne (Or.inl (own_w hw 27 rfl)) (Or.inl (own_w hw 13 rfl)) (by decide) (t := .boolean) (t' := (.array .boolean)) (by decide) (by decide)))
  have F11 := H8_F.other W3 (Or.inr (slot_ne (Or.inr (own_w hw 41 rfl)) (Or.inl (own_w hw 13 rfl)) (by decide) (t := (.object "com/example/fieldglass/fieldglass/io/Marks$Order")) (t' := (.array .boolean)) (by decide) (by decide)))
  have F12 := H9_F.other W3 (Or.inr (slot_ne (Or.inl (own_w hw 44 rfl)) (Or.inl (own_w hw 13 rfl)) (by decide) (t := .long) (t' := (.array .boolean)) (by decide) (by decide)))
  have S13 := H10_S.wr W3
  have S14 := H11_S.wr W3
  have S15 := H12_S.wr W3
  have N3 := Fr.snoc X3 N0 hdd
  have K3 : Keep h0 h3 [dd] := K0.wr W3 (Or.inl (List.mem_of_getElem? (i := 0) rfl))
  have Zs16 : n0 ≤ h3.size := (Nat.le_trans Z0 (Keep.of_wr W3).1)
  obtain ⟨T17, X17, e17, st17⟩ := getS2 X3 hx hZ hown (host := "") (Or.inl (own_w hw 14 rfl)) Via.refl e3 S14 (g := (mkF m 12 #[.val (.ref dd)] [(.ref dd)])) rfl (hb hby d1_12)
  obtain ⟨T18, h18, X18, e18, W18, st18⟩ := putF X17 hx hZ hown (host := "") (Or.inl (own_w hw 16 rfl)) Via.refl e17 F5 E4 (Or.inl (own_w hw 17 rfl)) (own_w hw 2 rfl) (ty := (.array .long)) (by decide) rfl rfl (g := (mkF m 15 #[.val (.ref dd)] [(.ref al), (.ref dd)])) rfl rfl (hb hby d1_15)
  have Fw18 : Fld Z h18 dd "com/example/fieldglass/fieldglass/io/Marks" "firstFieldSites" "[J" (.ref al) := F5.same W18
  have E19 := E4.wr W18
  have F20 := F6.other W18 (Or.inr (slot_ne (Or.inl (own_w hw 21 rfl)) (Or.inl (own_w hw 17 rfl)) (by decide) (t := (.array .int)) (t' := (.array .long)) (by decide) (by decide)))
  have F21 := F7.other W18 (Or.inr (slot_ne (Or.inl (own_w hw 23 rfl)) (Or.inl (own_w hw 17 rfl)) (by decide) (t := (.array .long)) (t' := (.array .long)) (by decide) (by decide)))
  have F22 := F8.other W18 (Or.inr (slot_ne (Or.inl (own_w hw 84 rfl)) (Or.inl (own_w hw 17 rfl)) (by decide) (t := .int) (t' := (.array .long)) (by decide) (by decide)))
  have F23 := F9.other W18 (Or.inr (slot_ne (Or.inl (own_w hw 25 rfl)) (Or.inl (own_w hw 17 rfl)) (by decide) (t := .int) (t' := (.array .long)) (by decide) (by decide)))
  have F24 := F10.other W18 (Or.inr (slot_ne (Or.inl (own_w hw 27 rfl)) (Or.inl (own_w hw 17 rfl)) (by decide) (t := .boolean) (t' := (.array .long)) (by decide) (by decide)))
  have F25 := F11.other W18 (Or.inr (slot_ne (Or.inr (own_w hw 41 rfl)) (Or.inl (own_w hw 17 rfl)) (by decide) (t := (.object "com/example/fieldglass/fieldglass/io/Marks$Order")) (t' := (.array .long)) (by decide) (by decide)))
  have F26 := F12.other W18 (Or.inr (slot_ne (Or.inl (own_w hw 44 rfl)) (Or.inl (own_w hw 17 rfl)) (by decide) (t := .long) (t' := (.array .long)) (by decide) (by decide)))
  have S27 := S13.wr W18
  have S28 := S14.wr W18
  have S29 := S15.wr W18
  have F30 := Fw3.other W18 (Or.inr (slot_ne (Or.inl (own_w hw 13 rfl)) (Or.inl (own_w hw 17 rfl)) (by decide) (t := (.array .boolean)) (t' := (.array .long)) (by decide) (by decide)))
  have N18 := Fr.snoc X18 N3 hdd
  have K18 : Keep h0 h18 [dd] := K3.wr W18 (Or.inl (List.mem_of_getElem? (i := 0) rfl))
  have Zs31 : n0 ≤ h18.size := (Nat.le_trans Zs16 (Keep.of_wr W18).1)
  obtain ⟨T32, X32, e32, st32⟩ := getS2 X18 hx hZ hown (host := "") (Or.inl (own_w hw 18 rfl)) Via.refl e18 S29 (g := (mkF m 19 #[.val (.ref dd)] [(.ref dd)])) rfl (hb hby d1_19)
  obtain ⟨T33, h33, X33, e33, W33, st33⟩ := putF X32 hx hZ hown (host := "") (Or.inl (own_w hw 20 rfl)) Via.refl e32 F20 E19 (Or.inl (own_w hw 21 rfl)) (own_w hw 2 rfl) (ty := (.array .int)) (by decide) rfl rfl (g := (mkF m 22 #[.val (.ref dd)] [(.ref an), (.ref dd)])) rfl rfl (hb hby d1_22)
  have Fw33 : Fld Z h33 dd "com/example/fieldglass/fieldglass/io/Marks" "fieldSites" "[I" (.ref an) := F20.same W33
  have E34 := E19.wr W33
  have F35 := F21.other W33 (Or.inr (slot_ne (Or.inl (own_w hw 23 rfl)) (Or.inl (own_w hw 21 rfl)) (by decide) (t := (.array .long)) (t' := (.array .int)) (by decide) (by decide)))
  have F36 := F22.other W33 (Or.inr (slot_ne (Or.inl (own_w hw 84 rfl)) (Or.inl (own_w hw 21 rfl)) (by decide) (t := .int) (t' := (.array .int)) (by decide) (by decide)))
  have F37 := F23.other W33 (Or.inr (slot_ne (Or.inl (own_w hw 25 rfl)) (Or.inl (own_w hw 21 rfl)) (by decide) (t := .int) (t' := (.array .int)) (by decide) (by decide)))
  have F38 := F24.other W33 (Or.inr (slot_ne (Or.inl (own_w hw 27 rfl)) (Or.inl (own_w hw 21 rfl)) (by decide) (t := .boolean) (t' := (.array .int)) (by decide) (by decide)))
  have F39 := F25.other W33 (Or.inr (slot_ne (Or.inr (own_w hw 41 rfl)) (Or.inl (own_w hw 21 rfl)) (by decide) (t := (.object "com/example/fieldglass/fieldglass/io/Marks$Order")) (t' := (.array .int)) (by decide) (by decide)))
  have F40 := F26.other W33 (Or.inr (slot_ne (Or.inl (own_w hw 44 rfl)) (Or.inl (own_w hw 21 rfl)) (by decide) (t := .long) (t' := (.array .int)) (by decide) (by decide)))
  have S41 := S27.wr W33
  have S42 := S28.wr W33
  have S43 := S29.wr W33
  have F44 := F30.other W33 (Or.inr (slot_ne (Or.inl (own_w hw 13 rfl)) (Or.inl (own_w hw 21 rfl)) (by decide) (t := (.array .boolean)) (t' := (.array .int)) (by decide) (by decide)))
  have F45 := Fw18.other W33 (Or.inr (slot_ne (Or.inl (own_w hw 17 rfl)) (Or.inl (own_w hw 21 rfl)) (by decide) (t := (.array .long)) (t' := (.array .int)) (by decide) (by decide)))
  have N33 := Fr.snoc X33 N18 hdd
  have K33 : Keep h0 h33 [dd] := K18.wr W33 (Or.inl (List.mem_of_getElem? (i := 0) rfl))
  have Zs46 : n0 ≤ h33.size := (Nat.le_trans Zs31 (Keep.of_wr W33).1)
  obtain ⟨T47, X47, e47, st47⟩ := getS2 X33 hx hZ hown (host := "") (Or.inl (own_w hw 14 rfl)) Via.refl e33 S42 (g := (mkF m 26 #[.val (.ref dd)] [(.ref dd)])) rfl (hb hby d1_26)
  obtain ⟨T48, h48, X48, e48, W48, st48⟩ := putF X47 hx hZ hown (host := "") (Or.inl (own_w hw 22 rfl)) Via.refl e47 F35 E34 (Or.inl (own_w hw 23 rfl)) (own_w hw 2 rfl) (ty := (.array .long)) (by decide) rfl rfl (g := (mkF m 29 #[.val (.ref dd)] [(.ref al), (.ref dd)])) rfl rfl (hb hby d1_29)
  have Fw48 : Fld Z h48 dd "com/example/fieldglass/fieldglass/io/Marks" "slots" "[J" (.ref al) := F35.same W48
  have E49 := E34.wr W48
  have F50 := F36.other W48 (Or.inr (slot_ne (Or.inl (own_w hw 84 rfl)) (Or.inl (own_w hw 23 rfl)) (by decide) (t := .int) (t' := (.array .long)) (by decide) (by decide)))
  have F51 := F37.other W48 (Or.inr (slot_ne (Or.inl (own_w hw 25 rfl)) (Or.inl (own_w hw 23 rfl)) (by decide) (t := .int) (t' := (.array .long)) (by decide) (by decide)))
  have F52 := F38.other W48 (Or.inr (slot_ne (Or.inl (own_w hw 27 rfl)) (Or.inl (own_w hw 23 rfl)) (by decide) (t := .boolean) (t' := (.array .long)) (by decide) (by decide)))
  have F53 := F39.other W48 (Or.inr (slot_ne (Or.inr (own_w hw 41 rfl)) (Or.inl (own_w hw 23 rfl)) (by decide) (t := (.object "com/example/fieldglass/fieldglass/io/Marks$Order")) (t' := (.array .long)) (by decide) (by decide)))
  have F54 := F40.other W48 (Or.inr (slot_ne (Or.inl (own_w hw 44 rfl)) (Or.inl (own_w hw 23 rfl)) (by decide) (t := .long) (t' := (.array .long)) (by decide) (by decide)))
  have S55 := S41.wr W48
  have S56 := S42.wr W48
  have S57 := S43.wr W48
  have F58 := F44.other W48 (Or.inr (slot_ne (Or.inl (own_w hw 13 rfl)) (Or.inl (own_w hw 23 rfl)) (by decide) (t := (.array .boolean)) (t' := (.array .long)) (by decide) (by decide)))
  have F59 := F45.other W48 (Or.inr (slot_ne (Or.inl (own_w hw 17 rfl)) (Or.inl (own_w hw 23 rfl)) (by decide) (t := (.array .long)) (t' := (.array .long)) (by decide) (by decide)))
  have F60 := Fw33.other W48 (Or.inr (slot_ne (Or.inl (own_w hw 21 rfl)) (Or.inl (own_w hw 23 rfl)) (by decide) (t := (.array .int)) (t' := (.array .long)) (by decide) (by decide)))
  have N48 := Fr.snoc X48 N33 hdd
  have K48 : Keep h0 h48 [dd] := K33.wr W48 (Or.inl (List.mem_of_getElem? (i := 0) rfl))
  have Zs61 : n0 ≤ h48.size := (Nat.le_trans Zs46 (Keep.of_wr W48).1)
  obtain ⟨T62, h62, X62, e62, W62, st62⟩ := putF X48 hx hZ hown (host := "") (Or.inl (own_w hw 24 rfl)) Via.refl e48 F51 E49 (Or.inl (own_w hw 25 rfl)) (own_w hw 2 rfl) (ty := .int) (by decide) rfl rfl (g := (mkF m 34 #[.val (.ref dd)] [(.int (-1 : Int32)), (.ref dd)])) rfl rfl (hb hby d1_34)
  have Fw62 : Fld Z h62 dd "com/example/fieldglass/fieldglass/io/Marks" "deepestFields" "I" (.int (-1 : Int32)) := F51.same W62
  have E63 := E49.wr W62
  have F64 := F50.other W62 (Or.inr (slot_ne (Or.inl (own_w hw 84 rfl)) (Or.inl (own_w hw 25 rfl)) (by decide) (t := .int) (t' := .int) (by decide) (by decide)))
  have F65 := F52.other W62 (Or.inr (slot_ne (Or.inl (own_w hw 27 rfl)) (Or.inl (own_w hw 25 rfl)) (by decide) (t := .boolean) (t' := .int) (by decide) (by decide)))
  have F66 := F53.other W62 (Or.inr (slot_ne (Or.inr (own_w hw 41 rfl)) (Or.inl (own_w hw 25 rfl)) (by decide) (t := (.object "com/example/fieldglass/fieldglass/io/Marks$Order")) (t' := .int) (by decide) (by decide)))
  have F67 := F54.other W62 (Or.inr (slot_ne (Or.inl (own_w hw 44 rfl)) (Or.inl (own_w hw 25 rfl)) (by decide) (t := .long) (t' := .int) (by decide) (by decide)))
  have S68 := S55.wr W62
  have S69 := S56.wr W62
  have S70 := S57.wr W62
  have F71 := F58.other W62 (Or.inr (slot_ne (Or.inl (own_w hw 13 rfl)) (Or.inl (own_w hw 25 rfl)) (by decide) (t := (.array .boolean)) (t' := .int) (by decide) (by decide)))
  have F72 := F59.other W62 (Or.inr (slot_ne (Or.inl (own_w hw 17 rfl)) (Or.inl (own_w hw 25 rfl)) (by decide) (t := (.array .long)) (t' := .int) (by decide) (by decide)))
  have F73 := F60.other W62 (Or.inr (slot_ne (Or.inl (own_w hw 21 rfl)) (Or.inl (own_w hw 25 rfl)) (by decide) (t := (.array .int)) (t' := .int) (by decide) (by decide)))
  have F74 := Fw48.other W62 (Or.inr (slot_ne (Or.inl (own_w hw 23 rfl)) (Or.inl (own_w hw 25 rfl)) (by decide) (t := (.array .long)) (t' := .int) (by decide) (by decide)))
  have N62 := Fr.snoc X62 N48 hdd
  have K62 : Keep h0 h62 [dd] := K48.wr W62 (Or.inl (List.mem_of_getElem? (i := 0) rfl))
  have Zs75 : n0 ≤ h62.size := (Nat.le_trans Zs61 (Keep.of_wr W62).1)
  obtain ⟨T76, h76, X76, e76, W76, st76⟩ := putFN X62 hx hZ hown (own_w hw 26 rfl) Via.refl e62 F65 E63 (Or.inl (own_w hw 27 rfl)) (own_w hw 2 rfl) (ty := .boolean) (v' := (.int (1 : Int32))) (by decide) rfl rfl (g := (mkF m 39 #[.val (.ref dd)] [(.int (1 : Int32)), (.ref dd)])) rfl rfl (hb hby d1_39)
  have Fw76 : Fld Z h76 dd "com/example/fieldglass/fieldglass/io/Marks" "marking" "Z" (.int (1 : Int32)) := F65.same W76
  have E77 := E63.wr W76
  have F78 := F64.other W76 (Or.inr (slot_ne (Or.inl (own_w hw 84 rfl)) (Or.inl (own_w hw 27 rfl)) (by decide) (t := .int) (t' := .boolean) (by decide) (by decide)))
  have F79 := F66.other W76 (Or.inr (slot_ne (Or.inr (own_w hw 41 rfl)) (Or.inl (own_w hw 27 rfl)) (by decide) (t := (.object "com/example/fieldglass/fieldglass/io/Marks$Order")) (t' := .boolean) (by decide) (by decide)))
  have F80 := F67.other W76 (Or.inr (slot_ne (Or.inl (own_w hw 44 rfl)) (Or.inl (own_w hw 27 rfl)) (by decide) (t := .long) (t' := .boolean) (by decide) (by decide)))
  have S81 := S68.wr W76
  have S82 := S69.wr W76
  have S83 := S70.wr W76
  have F84 := F71.other W76 (Or.inr (slot_ne (Or.inl (own_w hw 13 rfl)) (Or.inl (own_w hw 27 rfl)) (by decide) (t := (.array .boolean)) (t' := .boolean) (by decide) (by decide)))
  have F85 := F72.other W76 (Or.inr (slot_ne (Or.inl (own_w hw 17 rfl)) (Or.inl (own_w hw 27 rfl)) (by decide) (t := (.array .long)) (t' := .boolean) (by decide) (by decide)))
  have F86 := F73.other W76 (Or.inr (slot_ne (Or.inl (own_w hw 21 rfl)) (Or.inl (own_w hw 27 rfl)) (by decide) (t := (.array .int)) (t' := .boolean) (by decide) (by decide)))
  have F87 := F74.other W76 (Or.inr (slot_ne (Or.inl (own_w hw 23 rfl)) (Or.inl (own_w hw 27 rfl)) (by decide) (t := (.array .long)) (t' := .boolean) (by decide) (by decide)))
  have F88 := Fw62.other W76 (Or.inr (slot_ne (Or.inl (own_w hw 25 rfl)) (Or.inl (own_w hw 27 rfl)) (by decide) (t := .int) (t' := .boolean) (by decide) (by decide)))
  have N76 := Fr.snoc X76 N62 hdd
  have K76 : Keep h0 h76 [dd] := K62.wr W76 (Or.inl (List.mem_of_getElem? (i := 0) rfl))
  have Zs89 : n0 ≤ h76.size := (Nat.le_trans Zs75 (Keep.of_wr W76).1)
  obtain ⟨T90, h90, X90, e90, E90, A90, D90, -, st90⟩ := newO X76 hx hZ hown (own_w hw 28 rfl) (own_w hw 29 rfl) (own_w hw 30 rfl) e76 (g := (mkF m 43 #[.val (.ref dd)] [(.ref dd)])) rfl (hb hby d1_43) (by decide) (by decide)
  obtain ⟨b90, g90⟩ : ∃ z, z = h76.size := ⟨_, rfl⟩
  have ne_dd_b90 : dd ≠ b90 := Nat.ne_of_lt (Nat.lt_of_lt_of_le E77.lt (Nat.le_of_eq g90.symm))
  have ge_b90 : n0 ≤ b90 := Nat.le_trans Zs89 (Nat.le_of_eq g90.symm)
  have sz_b90 : h0.size ≤ b90 := Nat.le_trans K76.1 (Nat.le_of_eq g90.symm)
  rw [← g90] at A90 D90 st90
  have E91 := E77.ext E90
  have F92 := F78.ext E90
  have F93 := F79.ext E90
  have F94 := F80.ext E90
  have S95 := S81.ext E90
  have S96 := S82.ext E90
  have S97 := S83.ext E90
  have F98 := F84.ext E90
  have F99 := F85.ext E90
  have F100 := F86.ext E90
  have F101 := F87.ext E90
  have F102 := F88.ext E90
  have F103 := Fw76.ext E90
  have K90 : Keep h0 h90 [dd] := K76.ext E90
  have Zs104 : n0 ≤ h90.size := (Nat.le_trans Zs89 E90.1)
  have F105 : Fld Z h90 b90 "com/example/fieldglass/fieldglass/io/Marks$Order" "held" "[J" .null := D90 (Or.inl (own_w hw 37 rfl)) (ty := (.array .long)) (by decide)
  have F106 : Fld Z h90 b90 "com/example/fieldglass/fieldglass/io/Marks$Order" "spilling" "Z" (.int (0 : Int32)) := D90 (Or.inl (own_w hw 39 rfl)) (ty := .boolean) (by decide)
  have F107 : Fld Z h90 b90 "com/example/fieldglass/fieldglass/io/Marks$Order" "spilled" "J" (.long (0 : Int64)) := D90 (Or.inl (own_w hw 110 rfl)) (ty := .long) (by decide)
  have F108 : Fld Z h90 b90 "com/example/fieldglass/fieldglass/io/Marks$Order" "count" "I" (.int (0 : Int32)) := D90 (Or.inl (own_w hw 112 rfl)) (ty := .int) (by decide)
  have F109 : Fld Z h90 b90 "com/example/fieldglass/fieldglass/io/Marks$Order" "read" "J" (.long (0 : Int64)) := D90 (Or.inl (own_w hw 151 rfl)) (ty := .long) (by decide)
  have F110 : Fld Z h90 b90 "com/example/fieldglass/fieldglass/io/Marks$Order" "blockEnd" "J" (.long (0 : Int64)) := D90 (Or.inl (own_w hw 165 rfl)) (ty := .long) (by decide)
  have F111 : Fld Z h90 b90 "com/example/fieldglass/fieldglass/io/Marks$Order" "block" "Ljava/nio/ByteBuffer;" .null := D90 (Or.inl (own_w hw 167 rfl)) (ty := (.object "java/nio/ByteBuffer")) (by decide)
  obtain ⟨_, _, ⟨T112, L112, k112, n112⟩, -, X112, ⟨Lc112, hQ112, l112, y112, z112⟩, st112⟩ := own_specialRef X90 hx hZ (y := (⟨"com/example/fieldglass/fieldglass/io/Marks$Order", "<init>", "()V"⟩ : MethodName)) rfl hown (own_w hw 31 rfl) (own_w hw 33 rfl) (mvT hZ (own_w hw 32 rfl)) (mvT hZ (own_w hw 33 rfl)) (by decide) (backOf (W := 2) (rm_oin l Z a0 hw [] b90 al h90 n0 Zs104 A90 F105 F106 F108 F107 F109 S96 ge_b90) hZ (own_w hw 33 rfl) (own_w hw 30 rfl) (by decide) (by decide)) (g := (mkF m 47 #[.val (.ref dd)] [(.ref b90), (.ref b90), (.ref dd)])) rfl (by rw [hml]; rfl) (Steps.refl _) (a := b90) (argsL := []) (rest := [(.ref b90), (.ref dd)]) (lenOf pd_1 rfl) rfl (by show 2 * 0 + _ ≤ _; exact Nat.le_of_eq rfl) (hb hby d1_47) (fun _ _ => ⟨rfl, e90, (by decide : 1 + 0 ≤ _), (by decide : 8 + 0 ≤ _)⟩)
  dsimp only [Pt.U, Pt.locs, Pt.cells, Pt.slots] at X112 l112 y112 z112 st112 hQ112
  subst l112 y112 z112
  obtain ⟨rfl, N112q, hq113, F114, F115, F116, F117⟩ := hQ112
  have N112 := Fr.app N76 N112q
  have E118 := E91.keep hq113
  have F119 := F92.keep hq113 (ninS ne_dd_b90 nin0)
  have F120 := F93.keep hq113 (ninS ne_dd_b90 nin0)
  have F121 := F94.keep hq113 (ninS ne_dd_b90 nin0)
  have S122 := own_sta_keep S95 hq113 (allS (own_ns_exa A90) all0)
  have S123 := own_sta_keep S96 hq113 (allS (own_ns_exa A90) all0)
  have S124 := own_sta_keep S97 hq113 (allS (own_ns_exa A90) all0)
  have F125 := F98.keep hq113 (ninS ne_dd_b90 nin0)
  have F126 := F99.keep hq113 (ninS ne_dd_b90 nin0)
  have F127 := F100.keep hq113 (ninS ne_dd_b90 nin0)
  have F128 := F101.keep hq113 (ninS ne_dd_b90 nin0)
  have F129 := F102.keep hq113 (ninS ne_dd_b90 nin0)
  have F130 := F103.keep hq113 (ninS ne_dd_b90 nin0)
  have E131 := A90.keep hq113
  have K112 : Keep h0 T112.heap [dd] := K90.trans hq113 (allS (Or.inr sz_b90) all0)
  have Zs132 : n0 ≤ T112.heap.size := (Nat.le_trans Zs104 hq113.1)
  obtain ⟨T133, h133, X133, e133, W133, st133⟩ := putF X112 hx hZ hown (host := "") (Or.inl (own_w hw 40 rfl)) Via.refl rfl F120 E118 (Or.inr ⟨(own_w hw 41 rfl), rfl, hnm⟩) (own_w hw 2 rfl) (ty := (.object "com/example/fieldglass/fieldglass/io/Marks$Order")) (by decide) rfl rfl (g := (mkF m 50 #[.val (.ref dd)] [(.ref b90), (.ref dd)])) rfl rfl (hb hby d1_50)
  have Fw133 : Fld Z h133 dd "com/example/fieldglass/fieldglass/io/Marks" "order" "Lcom/example/fieldglass/fieldglass/io/Marks$Order;" (.ref b90) := F120.same W133
  have E134 := E118.wr W133
  have F135 := F119.other W133 (Or.inr (slot_ne (Or.inl (own_w hw 84 rfl)) (Or.inr (own_w hw 41 rfl)) (by decide) (t := .int) (t' := (.object "com/example/fieldglass/fieldglass/io/Marks$Order")) (by decide) (by decide)))
  have F136 := F121.other W133 (Or.inr (slot_ne (Or.inl (own_w hw 44 rfl)) (Or.inr (own_w hw 41 rfl)) (by decide) (t := .long) (t' := (.object "com/example/fieldglass/fieldglass/io/Marks$Order")) (by decide) (by decide)))
  have S137 := S122.wr W133
  have S138 := S123.wr W133
  have S139 := S124.wr W133
  have F140 := F125.other W133 (Or.inr (slot_ne (Or.inl (own_w hw 13 rfl)) (Or.inr (own_w hw 41 rfl)) (by decide) (t := (.array .boolean)) (t' := (.object "com/example/fieldglass/fieldglass/io/Marks$Order")) (by decide) (by decide)))
  have F141 := F126.other W133 (Or.inr (slot_ne (Or.inl (own_w hw 17 rfl)) (Or.inr (own_w hw 41 rfl)) (by decide) (t := (.array .long)) (t' := (.object "com/example/fieldglass/fieldglass/io/Marks$Order")) (by decide) (by decide)))
  have F142 := F127.other W133 (Or.inr (slot_ne (Or.inl (own_w hw 21 rfl)) (Or.inr (own_w hw 41 rfl)) (by decide) (t := (.array .int)) (t' := (.object "com/example/fieldglass/fieldglass/io/Marks$Order")) (by decide) (by decide)))
  have F143 := F128.other W133 (Or.inr (slot_ne (Or.inl (own_w hw 23 rfl)) (Or.inr (own_w hw 41 rfl)) (by decide) (t := (.array .long)) (t' := (.object "com/example/fieldglass/fieldglass/io/Marks$Order")) (by decide) (by decide)))
  have F144 := F129.other W133 (Or.inr (slot_ne (Or.inl (own_w hw 25 rfl)) (Or.inr (own_w hw 41 rfl)) (by decide) (t := .int) (t' := (.object "com/example/fieldglass/fieldglass/io/Marks$Order")) (by decide) (by decide)))
  have F145 := F130.other W133 (Or.inr (slot_ne (Or.inl (own_w hw 27 rfl)) (Or.inr (own_w hw 41 rfl)) (by decide) (t := .boolean) (t' := (.object "com/example/fieldglass/fieldglass/io/Marks$Order")) (by decide) (by decide)))
  have E146 := E131.wr W133
  have F147 := F114.other W133 (Or.inl (Ne.symm ne_dd_b90))
  have F148 := F115.other W133 (Or.inl (Ne.symm ne_dd_b90))
  have F149 := F116.other W133 (Or.inl (Ne.symm ne_dd_b90))
  have F150 := F117.other W133 (Or.inl (Ne.symm ne_dd_b90))
  have N133 := Fr.snoc X133 N112 hdd
  have K133 : Keep h0 h133 [dd] := K112.wr W133 (Or.inl (List.mem_of_getElem? (i := 0) rfl))
  have Zs151 : n0 ≤ h133.size := (Nat.le_trans Zs132 (Keep.of_wr W133).1)
  obtain ⟨T152, h152, X152, e152, W152, st152⟩ := putF X133 hx hZ hown (host := "") (Or.inl (own_w hw 43 rfl)) Via.refl e133 F136 E134 (Or.inl (own_w hw 44 rfl)) (own_w hw 2 rfl) (ty := .long) (by decide) rfl rfl (g := (mkF m 57 #[.val (.ref dd)] [(.long (9223372036854775807 : Int64)), (.ref dd)])) rfl rfl (hb hby d1_57)
  have Fw152 : Fld Z h152 dd "com/example/fieldglass/fieldglass/io/Marks" "next" "J" (.long (9223372036854775807 : Int64)) := F136.same W152
  have E153 := E134.wr W152
  have F154 := F135.other W152 (Or.inr (slot_ne (Or.inl (own_w hw 84 rfl)) (Or.inl (own_w hw 44 rfl)) (by decide) (t := .int) (t' := .long) (by decide) (by decide)))
  have S155 := S137.wr W152
  have S156 := S138.wr W152
  have S157 := S139.wr W152
  have F158 := F140.other W152 (Or.inr (slot_ne (Or.inl (own_w hw 13 rfl)) (Or.inl (own_w hw 44 rfl)) (by decide) (t := (.array .boolean)) (t' := .long) (by decide) (by decide)))
  have F159 := F141.other W152 (Or.inr (slot_ne (Or.inl (own_w hw 17 rfl)) (Or.inl (own_w hw 44 rfl)) (by decide) (t := (.array .long)) (t' := .long) (by decide) (by decide)))
  have F160 := F142.other W152 (Or.inr (slot_ne (Or.inl (own_w hw 21 rfl)) (Or.inl (own_w hw 44 rfl)) (by decide) (t := (.array .int)) (t' := .long) (by decide) (by decide)))
  have F161 := F143.other W152 (Or.inr (slot_ne (Or.inl (own_w hw 23 rfl)) (Or.inl (own_w hw 44 rfl)) (by decide) (t := (.array .long)) (t' := .long) (by decide) (by decide)))
  have F162 := F144.other W152 (Or.inr (slot_ne (Or.inl (own_w hw 25 rfl)) (Or.inl (own_w hw 44 rfl)) (by decide) (t := .int) (t' := .long) (by decide) (by decide)))
  have F163 := F145.other W152 (Or.inr (slot_ne (Or.inl (own_w hw 27 rfl)) (Or.inl (own_w hw 44 rfl)) (by decide) (t := .boolean) (t' := .long) (by decide) (by decide)))
  have E164 := E146.wr W152
  have F165 := F147.other W152 (Or.inl (Ne.symm ne_dd_b90))
  have F166 := F148.other W152 (Or.inl (Ne.symm ne_dd_b90))
  have F167 := F149.other W152 (Or.inl (Ne.symm ne_dd_b90))
  have F168 := F150.other W152 (Or.inl (Ne.symm ne_dd_b90))
  have F169 := Fw133.other W152 (Or.inr (slot_ne (Or.inr (own_w hw 41 rfl)) (Or.inl (own_w hw 44 rfl)) (by decide) (t := (.object "com/example/fieldglass/fieldglass/io/Marks$Order")) (t' := .long) (by decide) (by decide)))
  have N152 := Fr.snoc X152 N133 hdd
  have K152 : Keep h0 h152 [dd] := K133.wr W152 (Or.inl (List.mem_of_getElem? (i := 0) rfl))
  have Zs170 : n0 ≤ h152.size := (Nat.le_trans Zs151 (Keep.of_wr W152).1)
  have pre171 := fun (t : State) (k : Steps p.tables e below (T152.setTop (mkF m 60 #[.val (.ref dd)] [])) t) => pre0 t (by
    refine XS.aloadN X0.here hx rfl (hb hby d1_0) rfl rfl ?_
    refine st1 _ ?_
    refine XS.aloadN X1.here hx rfl (hb hby d1_4) rfl rfl ?_
    refine st2 _ ?_
    refine st3 _ ?_
    refine XS.aloadN X3.here hx rfl (hb hby d1_11) rfl rfl ?_
    refine st17 _ ?_
    refine st18 _ ?_
    refine XS.aloadN X18.here hx rfl (hb hby d1_18) rfl rfl ?_
    refine st32 _ ?_
    refine st33 _ ?_
    refine XS.aloadN X33.here hx rfl (hb hby d1_25) rfl rfl ?_
    refine st47 _ ?_
    refine st48 _ ?_
    refine XS.aloadN X48.here hx rfl (hb hby d1_32) rfl rfl ?_
    refine XS.iconst X48.here hx rfl (hb hby d1_33) ?_
    refine st62 _ ?_
    refine XS.aloadN X62.here hx rfl (hb hby d1_37) rfl rfl ?_
    refine XS.iconst X62.here hx rfl (hb hby d1_38) ?_
    refine st76 _ ?_
    refine XS.aloadN X76.here hx rfl (hb hby d1_42) rfl rfl ?_
    refine st90 _ ?_
    refine XS.dup X90.here hx rfl (hb hby d1_46) rfl rfl ?_
    refine st112.trans ?_
    refine st133 _ ?_
    refine XS.aloadN X133.here hx rfl (hb hby d1_53) rfl rfl ?_
    refine X133.ldc2Long hx hown (mvT hZ (own_w hw 42 rfl)) (g := (mkF m 54 #[.val (.ref dd)] [(.ref dd)])) rfl (hb hby d1_54) _ ?_
    refine st152 _ ?_
    exact k)
  obtain ⟨fs, hr, hrun, hended, hW, hsame⟩ := X152.leave (v := none) (hlocks := BodyLoose.notSynchronized Bd) (fun _ => rfl)
  refine ⟨_, _, pre171 _ ?_, hrun, hended, _, _, rfl, ?_, ⟨_, rfl⟩, hW, hsame.mono (by decide) (by decide)⟩
  · exact X152.returnOut hx Bd.returns (hb hby d1_60) hr
  · show Q_mki Z dd ab al an h0 n0 _ T152.heap _
    rw [e152]
    exact ⟨b90, rfl, N152, K152, ge_b90, sz_b90, F158, F159, F160, F161, F154, F162, F163, F169, Fw152, E164, F165, F166, F167, F168⟩

theorem ef_mrN (m : MethodId) (x0 : Addr) (x1 : Int32) : entryFrame m #[(.ref x0), (.int x1)] 3 = mkF m 0 #[.val (.ref x0), .val (.int x1), .unset] [] := by first | (simp [entryFrame, mkF, argsToLocals, Value.category]; done) | rfl
def Q_mrN (Z : State) (dd : Addr) (am : Addr) (mg : Nat → Int32) (lev : Int32) (ln : Nat) (h0 : Heap) (n0 : Nat) (v : Option Value) (h : Heap) (L : List Loc) : Prop := v = none ∧ Fr n0 L ∧ h = h0
set_option maxRecDepth 65536 in
set_option maxHeartbeats 40000000 in
theorem rm_mrN (l : Launch) (Z : State) (a0 : Array Value) (hw : ∀ d ∈ tables_1, d.before a0 Z = true) (ws : List Jvm.Cond) (dd : Addr) (am : Addr) (mg : Nat → Int32) (lev : Int32) (ln : Nat) (h0 : Heap) (n0 : Nat) (Z0 : n0 ≤ h0.size) (H0_F : Fld Z h0 dd "com/example/fieldglass/fieldglass/io/Marks" "messages" "[Z" (.ref am)) (H1_G : own_Fa Value.int .boolean Z h0 am 16 mg) (hl : own_ix lev ln) :
    MetFree l (⟨"com/example/fieldglass/fieldglass/io/Marks", "makeRoomFor", "(I)V"⟩ : MethodName) (head1 (Jvm.Cond.code (⟨"com/example/fieldglass/fieldglass/io/Marks", "makeRoomFor", "(I)V"⟩ : MethodName) prog_13_method_10_code 3 none :: ws) ({ frames := 0, cells := 0, slots := 0, locals := 0 } : Room)) (fun as_ U_ => as_ = #[(.ref dd), (.int lev)] ∧ Z.Warmed39 U_.vm ∧ U_.heap = h0) (fun _ _ _ _ _ => True) (fun _ U o U' => ∃ v L, o = .returned v ∧ Q_mrN Z dd am mg lev ln h0 n0 v U'.heap L ∧ FrameEnd U o U' L ({ frames := 0, cells := 0, slots := 0, locals := 0 } : Room).cells ({ frames := 0, cells := 0, slots := 0, locals := 0 } : Room).slots) := by
  refine MetFree.of_bodySF (plainFor_of_name pn_2) hisR ?_
  intro p e s m args below meth c s₁ Bd hml0 hP hK
  obtain ⟨rfl, hZ, hhp_⟩ := hP
  have hx := Bd.exec
  have hby := Bd.bytes
  have hml : c.maxLocals = 3 := hml0
  have hown : s.vm.findClass "com/example/fieldglass/fieldglass/io/Marks" = some m.cls := findClass_of_methodNamed Bd.named
  have hnm := (name_of_methodNamed Bd.named Bd.method).1
  have X0 : Stand p l e ({ frames := 0, cells := 0, slots := 0, locals := 0 } : Room) s m #[(.ref dd), (.int lev)] below meth c s₁ [] 0 0 := Stand.of_body Bd
  have e0 : s₁.heap = h0 := by rw [← hhp_, Bd.state]; rfl
  have N0 := Fr.nil n0
  have pre0 : ∀ t, Steps p.tables e below (s₁.setTop (mkF m 0 #[.val (.ref dd), .val (.int lev), .unset] [])) t → Steps p.tables e below (s₁.setTop (entryFrame m #[(.ref dd), (.int lev)] 3)) t := fun t k => castTop (ef_mrN m dd lev) k
  obtain ⟨T1, X1, e1, st1⟩ := getF X0 hx hZ hown (host := "") (Or.inl (own_w hw 12 rfl)) Via.refl e0 H0_F (g := (mkF m 2 #[.val (.ref dd), .val (.int lev), .unset] [(.ref dd), (.int lev)])) rfl rfl (hb hby d5_2)
  have oc2 := H1_G
  obtain ⟨c2, Arc2, Sc2, Hc2⟩ := oc2
  have pre3 := fun (t : State) (k : Steps p.tables e below (T1.setTop (mkF m 76 #[.val (.ref dd), .val (.int lev), .unset] [])) t) => pre0 t (by
    refine XS.iloadN X0.here hx rfl (hb hby d5_0) rfl ?_
    refine XS.aloadN X0.here hx rfl (hb hby d5_1) rfl rfl ?_
    refine st1 _ ?_
    refine X1.arraylength hx (by rw [e1]; exact Arc2.1) (State.isArrayOf_alike hZ.alike Arc2.2.1) (g := (mkF m 5 #[.val (.ref dd), .val (.int lev), .unset] [(.ref am), (.int lev)])) rfl rfl (hb hby d5_5) _ ?_
    rw [show c2.slots.size.toInt32 = (16 : Int32) from (by rw [Sc2]; rfl)]
    refine XS.icmpYes X1.here hx rfl (pc0 := 6) (pc' := 76) rfl (hb hby d5_6) rfl (tlt (own_ix_lt hl)).1 (by decide) (by decide) ?_
    exact k)
  obtain ⟨fs, hr, hrun, hended, hW, hsame⟩ := X1.leave (v := none) (hlocks := BodyLoose.notSynchronized Bd) (fun _ => rfl)
  refine ⟨_, _, pre3 _ ?_, hrun, hended, _, _, rfl, ?_, ⟨_, rfl⟩, hW, hsame.mono (by decide) (by decide)⟩
  · exact X1.returnOut hx Bd.returns (hb hby d5_76) hr
  · show Q_mrN Z dd am mg lev ln h0 n0 _ T1.heap _
    rw [e1]
    exact ⟨rfl, N0, rfl⟩

theorem ef_mrG (m : MethodId) (x0 : Addr) (x1 : Int32) : entryFrame m #[(.ref x0), (.int x1)] 3 = mkF m 0 #[.val (.ref x0), .val (.int x1), .unset] [] := by first | (simp [entryFrame, mkF, argsToLocals, Value.category]; done) | rfl
def Q_mrG (Z : State) (dd : Addr) (oo : Addr) (ab : Addr) (al : Addr) (an : Addr) (kb : ClassId) (kl : ClassId) (ki : ClassId) (lev : Int32) (ln : Nat) (h0 : Heap) (n0 : Nat) (v : Option Value) (h : Heap) (L : List Loc) : Prop := ∃ am : Addr, ∃ af : Addr, ∃ ai : Addr, ∃ as_ : Addr, v = none ∧ Fr n0 L ∧ Keep h0 h [dd] ∧ n0 ≤ am ∧ h0.size ≤ am ∧ n0 ≤ af ∧ h0.size ≤ af ∧ n0 ≤ ai ∧ h0.size ≤ ai ∧ n0 ≤ as_ ∧ h0.size ≤ as_ ∧ am ≠ af ∧ am ≠ ai ∧ am ≠ as_ ∧ af ≠ ai ∧ af ≠ as_ ∧ ai ≠ as_ ∧ Fld Z h dd "com/example/fieldglass/fieldglass/io/Marks" "messages" "[Z" (.ref am) ∧ Fld Z h dd "com/example/fieldglass/fieldglass/io/Marks" "firstFieldSites" "[J" (.ref af) ∧ Fld Z h dd "com/example/fieldglass/fieldglass/io/Marks" "fieldSites" "[I" (.ref ai) ∧ Fld Z h dd "com/example/fieldglass/fieldglass/io/Marks" "slots" "[J" (.ref as_) ∧ Fld Z h dd "com/example/fieldglass/fieldglass/io/Marks" "slotted" "I" (.int (0 : Int32)) ∧ Fld Z h dd "com/example/fieldglass/fieldglass/io/Marks" "deepestFields" "I" (.int (-1 : Int32)) ∧ Fld Z h dd "com/example/fieldglass/fieldglass/io/Marks" "marking" "Z" (.int (1 : Int32)) ∧ Fld Z h dd "com/example/fieldglass/fieldglass/io/Marks" "order" "Lcom/example/fieldglass/fieldglass/io/Marks$Order;" (.ref oo) ∧ Fld Z h dd "com/example/fieldglass/fieldglass/io/Marks" "next" "J" (.long (9223372036854775807 : Int64)) ∧ own_Fa Value.int .boolean Z h am 16 (fun _ => (0 : Int32)) ∧ own_Fa Value.long .long Z h af 16 (fun _ => (0 : Int64)) ∧ own_Fa Value.int .int Z h ai 16 (fun _ => (0 : Int32)) ∧ own_Fa Value.long .long Z h as_ 16 (fun _ => (0 : Int64))
set_option maxRecDepth 65536 in
set_option maxHeartbeats 40000000 in
theorem rm_mrG (l : Launch) (Z : State) (a0 : Array Value) (hw : ∀ d ∈ tables_1, d.before a0 Z = true) (ws : List Jvm.Cond) (dd : Addr) (oo : Addr) (ab : Addr) (al : Addr) (an : Addr) (kb : ClassId) (kl : ClassId) (ki : ClassId) (lev : Int32) (ln : Nat) (h0 : Heap) (n0 : Nat) (Z0 : n0 ≤ h0.size) (H0_E : Exa Z h0 dd "com/example/fieldglass/fieldglass/io/Marks") (H1_F : Fld Z h0 dd "com/example/fieldglass/fieldglass/io/Marks" "messages" "[Z" (.ref ab)) (H2_F : Fld Z h0 dd "com/example/fieldglass/fieldglass/io/Marks" "firstFieldSites" "[J" (.ref al)) (H3_F : Fld Z h0 dd "com/example/fieldglass/fieldglass/io/Marks" "fieldSites" "[I" (.ref an)) (H4_F : Fld Z h0 dd "com/example/fieldglass/fieldglass/io/Marks" "slots" "[J" (.ref al)) (H5_F : Fld Z h0 dd "com/example/fieldglass/fieldglass/io/Marks" "slotted" "I" (.int (0 : Int32))) (H6_F : Fld Z h0 dd "com/example/fieldglass/fieldglass/io/Marks" "deepestFields" "I" (.int (-1 : Int32))) (H7_F : Fld Z h0 dd "com/example/fieldglass/fieldglass/io/Marks" "marking" "Z" (.int (1 : Int32))) (H8_F : Fld Z h0 dd "com/example/fieldglass/fieldglass/io/Marks" "order" "Lcom/example/fieldglass/fieldglass/io/Marks$Order;" (.ref oo)) (H9_F : Fld Z h0 dd "com/example/fieldglass/fieldglass/io/Marks" "next" "J" (.long (9223372036854775807 : Int64))) (H10_A : Arv Z h0 ab kb .boolean (0 : Int32) [] (.int (0 : Int32))) (H11_A : Arv Z h0 al kl .long (0 : Int32) [] (.long (0 : Int64))) (H12_A : Arv Z h0 an ki .int (0 : Int32) [] (.int (0 : Int32))) (hl : own_ix lev ln) (hdd : n0 ≤ dd) (hl8 : ln < 8) (hn1 : dd ≠ ab) (hn2 : dd ≠ al) (hn3 : dd ≠ an) :
    MetFree l (⟨"com/example/fieldglass/fieldglass/io/Marks", "makeRoomFor", "(I)V"⟩ : MethodName) (head1 (Jvm.Cond.code (⟨"com/example/fieldglass/fieldglass/io/Marks", "makeRoomFor", "(I)V"⟩ : MethodName) prog_13_method_10_code 3 none :: ws) ({ frames := 2, cells := 4, slots := 64, locals := 33 } : Room)) (fun as_ U_ => as_ = #[(.ref dd), (.int lev)] ∧ Z.Warmed39 U_.vm ∧ U_.heap = h0) (fun _ _ _ _ _ => True) (fun _ U o U' => ∃ v L, o = .returned v ∧ Q_mrG Z dd oo ab al an kb kl ki lev ln h0 n0 v U'.heap L ∧ FrameEnd U o U' L ({ frames := 2, cells := 4, slots := 64, locals := 33 } : Room).cells ({ frames := 2, cells := 4, slots := 64, locals := 33 } : Room).slots) := by
  refine MetFree.of_bodySF (plainFor_of_name pn_2) hisR ?_
  intro p e s m args below meth c s₁ Bd hml0 hP hK
  obtain ⟨rfl, hZ, hhp_⟩ := hP
  have hx := Bd.exec
  have hby := Bd.bytes
  have hml : c.maxLocals = 3 := hml0
  have hown : s.vm.findClass "com/example/fieldglass/fieldglass/io/Marks" = some m.cls := findClass_of_methodNamed Bd.named
  have hnm := (name_of_methodNamed Bd.named Bd.method).1
  have X0 : Stand p l e ({ frames := 2, cells := 4, slots := 64, locals := 33 } : Room) s m #[(.ref dd), (.int lev)] below meth c s₁ [] 0 0 := Stand.of_body Bd
  have e0 : s₁.heap = h0 := by rw [← hhp_, Bd.state]; rfl
  have N0 := Fr.nil n0
  have pre0 : ∀ t, Steps p.tables e below (s₁.setTop (mkF m 0 #[.val (.ref dd), .val (.int lev), .unset] [])) t → Steps p.tables e below (s₁.setTop (entryFrame m #[(.ref dd), (.int lev)] 3)) t := fun t k => castTop (ef_mrG m dd lev) k
  have K0 : Keep h0 h0 [dd] := Keep.refl h0 [dd]
  obtain ⟨T1, X1, e1, st1⟩ := getF X0 hx hZ hown (host := "") (Or.inl (own_w hw 12 rfl)) Via.refl e0 H1_F (g := (mkF m 2 #[.val (.ref dd), .val (.int lev), .unset] [(.ref dd), (.int lev)])) rfl rfl (hb hby d5_2)
  have oc2 := H10_A
  obtain ⟨c2, Arc2, qc2, Sc2, Nc2, Hc2, Gc2⟩ := oc2
  obtain ⟨T3, X3, e3, st3⟩ := getF X1 hx hZ hown (host := "") (Or.inl (own_w hw 12 rfl)) Via.refl e1 H1_F (g := (mkF m 13 #[.val (.ref dd), .val (.int lev), .unset] [(.ref dd), (.int (2 : Int32)), (.int (16 : Int32))])) rfl rfl (hb hby d5_13)
  have oc4 := H10_A
  obtain ⟨c4, Arc4, qc4, Sc4, Nc4, Hc4, Gc4⟩ := oc4
  obtain ⟨_, _, ⟨T5, L5, k5, n5⟩, -, X5, ⟨Lc5, hQ5, l5, y5, z5⟩, st5⟩ := Jvm.LawKit.callS X3 hx (y := (⟨"java/lang/Math", "max", "(II)I"⟩ : MethodName)) hown (mvT hZ (own_w hw 54 rfl)) (mvT hZ (own_w hw 55 rfl)) (mvT hZ (own_w hw 56 rfl)) (mvT hZ (own_w hw 57 rfl)) (by decide) (backOf (W := 0) (rm_mxr l Z a0 hw [] (16 : Int32) (0 : Int32) (16 : Int32) h0 n0 Z0 (by decide) (by decide)) hZ (own_w hw 57 rfl) (own_w hw 56 rfl) (by decide) (by decide)) (g := (mkF m 18 #[.val (.ref dd), .val (.int lev), .unset] [(.int (0 : Int32)), (.int (16 : Int32))])) rfl (by rw [hml]; rfl) (argsL := [(.int (16 : Int32)), (.int (0 : Int32))]) (rest := []) (lenOf pd_0 rfl) rfl (by show 2 * 0 + _ ≤ _; exact Nat.le_of_eq rfl) (hb hby d5_18) (fun _ _ => ⟨rfl, e3, (by decide : 0 + 0 ≤ _), (by decide : 0 + 0 ≤ _)⟩)
  dsimp only [Pt.U, Pt.locs, Pt.cells, Pt.slots] at X5 l5 y5 z5 st5 hQ5
  subst l5 y5 z5
  obtain ⟨rfl, N5q, hq6⟩ := hQ5
  have N5 := Fr.app N0 N5q
  obtain ⟨_, _, ⟨T7, L7, k7, n7⟩, -, X7, ⟨Lc7, hQ7, l7, y7, z7⟩, st7⟩ := Jvm.LawKit.callS X5 hx (y := (⟨"java/lang/Math", "max", "(II)I"⟩ : MethodName)) hown (mvT hZ (own_w hw 54 rfl)) (mvT hZ (own_w hw 55 rfl)) (mvT hZ (own_w hw 56 rfl)) (mvT hZ (own_w hw 57 rfl)) (by decide) (backOf (W := 0) (rm_mxr l Z a0 hw [] (16 : Int32) (lev + (1 : Int32)) (16 : Int32) h0 n0 Z0 (fun q => absurd q (own_16 hl hl8)) (fun _ => rfl)) hZ (own_w hw 57 rfl) (own_w hw 56 rfl) (by decide) (by decide)) (g := (mkF m 24 #[.val (.ref dd), .val (.int lev), .unset] [(.int (lev + (1 : Int32))), (.int (16 : Int32))])) rfl (by rw [hml]; rfl) (argsL := [(.int (16 : Int32)), (.int (lev + (1 : Int32)))]) (rest := []) (lenOf pd_0 rfl) rfl (by show 2 * 0 + _ ≤ _; exact Nat.le_of_eq rfl) (hb hby d5_24) (fun _ _ => ⟨rfl, hq6, (by decide : 0 + 0 ≤ _), (by decide : 0 + 0 ≤ _)⟩)
  dsimp only [Pt.U, Pt.locs, Pt.cells, Pt.slots] at X7 l7 y7 z7 st7 hQ7
  subst l7 y7 z7
  obtain ⟨rfl, N7q, hq8⟩ := hQ7
  have N7 := Fr.app N5 N7q
  obtain ⟨T9, X9, e9, st9⟩ := getF X7 hx hZ hown (host := "") (Or.inl (own_w hw 12 rfl)) Via.refl hq8 H1_F (g := (mkF m 30 #[.val (.ref dd), .val (.int lev), .val (.int (16 : Int32))] [(.ref dd), (.ref dd)])) rfl rfl (hb hby d5_30)
  obtain ⟨_, _, ⟨T10, L10, k10, n10⟩, -, X10, ⟨Lc10, hQ10, l10, y10, z10⟩, st10⟩ := Jvm.LawKit.callS X9 hx (y := (⟨"java/util/Arrays", "copyOf", "([ZI)[Z"⟩ : MethodName)) hown (mvT hZ (own_w hw 58 rfl)) (mvT hZ (own_w hw 59 rfl)) (mvT hZ (own_w hw 60 rfl)) (mvT hZ (own_w hw 61 rfl)) (by decide) (backOf (W := 1) (rm_cpZ l Z a0 hw [] ab kb h0 n0 Z0 H10_A) hZ (own_w hw 61 rfl) (own_w hw 60 rfl) (by decide) (by decide)) (g := (mkF m 34 #[.val (.ref dd), .val (.int lev), .val (.int (16 : Int32))] [(.int (16 : Int32)), (.ref ab), (.ref dd)])) rfl (by rw [hml]; rfl) (argsL := [(.ref ab), (.int (16 : Int32))]) (rest := [(.ref dd)]) (lenOf pd_2 rfl) rfl (by show 2 * 0 + _ ≤ _; exact Nat.le_of_eq rfl) (hb hby d5_34) (fun _ _ => ⟨rfl, e9, (by decide : 0 + 1 ≤ _), (by decide : 0 + 16 ≤ _)⟩)
  dsimp only [Pt.U, Pt.locs, Pt.cells, Pt.slots] at X10 l10 y10 z10 st10 hQ10
  subst l10 y10 z10
  obtain ⟨x11, rfl, N10q, hq12, hpq13, hpq14, G15⟩ := hQ10
  have N10 := Fr.app N7 N10q
  have lt16 : dd < h0.size := H0_E.lt
  have lt17 : ab < h0.size := H10_A.lt
  have lt18 : al < h0.size := H11_A.lt
  have lt19 : an < h0.size := H12_A.lt
  have E20 := H0_E.keep hq12
  have F21 := H1_F.keep hq12 nin0
  have F22 := H2_F.keep hq12 nin0
  have F23 := H3_F.keep hq12 nin0
  have F24 := H4_F.keep hq12 nin0
  have F25 := H5_F.keep hq12 nin0
  have F26 := H6_F.keep hq12 nin0
  have F27 := H7_F.keep hq12 nin0
  have F28 := H8_F.keep hq12 nin0
  have F29 := H9_F.keep hq12 nin0
  have A30 := H10_A.keep hq12 nin0
  have A31 := H11_A.keep hq12 nin0
  have A32 := H12_A.keep hq12 nin0
  have K10 : Keep h0 T10.heap [dd] := K0.trans hq12 all0
  have Zs33 : n0 ≤ T10.heap.size := (Nat.le_trans Z0 hq12.1)
  have ne34 : dd ≠ x11 := Nat.ne_of_lt (Nat.lt_of_lt_of_le lt16 hpq14)
  have ne35 : ab ≠ x11 := Nat.ne_of_lt (Nat.lt_of_lt_of_le lt17 hpq14)
  have ne36 : al ≠ x11 := Nat.ne_of_lt (Nat.lt_of_lt_of_le lt18 hpq14)
  have ne37 : an ≠ x11 := Nat.ne_of_lt (Nat.lt_of_lt_of_le lt19 hpq14)
  have sz38 : h0.size ≤ x11 := Nat.le_trans K0.1 hpq14
  obtain ⟨T39, h39, X39, e39, W39, st39⟩ := putF X10 hx hZ hown (host := "") (Or.inl (own_w hw 12 rfl)) Via.refl rfl F21 E20 (Or.inl (own_w hw 13 rfl)) (own_w hw 2 rfl) (ty := (.array .boolean)) (by decide) rfl rfl (g := (mkF m 37 #[.val (.ref dd), .val (.int lev), .val (.int (16 : Int32))] [(.ref x11), (.ref dd)])) rfl rfl (hb hby d5_37)
  have Fw39 : Fld Z h39 dd "com/example/fieldglass/fieldglass/io/Marks" "messages" "[Z" (.ref x11) := F21.same W39
  have E40 := E20.wr W39
  have F41 := F22.other W39 (Or.inr (slot_ne (Or.inl (own_w hw 17 rfl)) (Or.inl (own_w hw 13 rfl)) (by decide) (t := (.array .long)) (t' := (.array .boolean)) (by decide) (by decide)))
  have F42 := F23.other W39 (Or.inr (slot_ne (Or.inl (own_w hw 21 rfl)) (Or.inl (own_w hw 13 rfl)) (by decide) (t := (.array .int)) (t' := (.array .boolean)) (by decide) (by decide)))
  have F43 := F24.other W39 (Or.inr (slot_ne (Or.inl (own_w hw 23 rfl)) (Or.inl (own_w hw 13 rfl)) (by decide) (t := (.array .long)) (t' := (.array .boolean)) (by decide) (by decide)))
  have F44 := F25.other W39 (Or.inr (slot_ne (Or.inl (own_w hw 84 rfl)) (Or.inl (own_w hw 13 rfl)) (by decide) (t := .int) (t' := (.array .boolean)) (by decide) (by decide)))
  have F45 := F26.other W39 (Or.inr (slot_ne (Or.inl (own_w hw 25 rfl)) (Or.inl (own_w hw 13 rfl)) (by decide) (t := .int) (t' := (.array .boolean)) (by decide) (by decide)))
  have F46 := F27.other W39 (Or.inr (slot_ne (Or.inl (own_w hw 27 rfl)) (Or.inl (own_w hw 13 rfl)) (by decide) (t := .boolean) (t' := (.array .boolean)) (by decide) (by decide)))
  have F47 := F28.other W39 (Or.inr (slot_ne (Or.inr (own_w hw 41 rfl)) (Or.inl (own_w hw 13 rfl)) (by decide) (t := (.object "com/example/fieldglass/fieldglass/io/Marks$Order")) (t' := (.array .boolean)) (by decide) (by decide)))
  have F48 := F29.other W39 (Or.inr (slot_ne (Or.inl (own_w hw 44 rfl)) (Or.inl (own_w hw 13 rfl)) (by decide) (t := .long) (t' := (.array .boolean)) (by decide) (by decide)))
  have A49 := A30.other W39 (Ne.symm hn1)
  have A50 := A31.other W39 (Ne.symm hn2)
  have A51 := A32.other W39 (Ne.symm hn3)
  have G52 := G15.other W39 (Ne.symm ne34)
  have N39 := Fr.snoc X39 N10 hdd
  have K39 : Keep h0 h39 [dd] := K10.wr W39 (Or.inl (List.mem_of_getElem? (i := 0) rfl))
  have Zs53 : n0 ≤ h39.size := (Nat.le_trans Zs33 (Keep.of_wr W39).1)
  obtain ⟨T54, X54, e54, st54⟩ := getF X39 hx hZ hown (host := "") (Or.inl (own_w hw 16 rfl)) Via.refl e39 F41 (g := (mkF m 42 #[.val (.ref dd), .val (.int lev), .val (.int (16 : Int32))] [(.ref dd), (.ref dd)])) rfl rfl (hb hby d5_42)
  obtain ⟨_, _, ⟨T55, L55, k55, n55⟩, -, X55, ⟨Lc55, hQ55, l55, y55, z55⟩, st55⟩ := Jvm.LawKit.callS X54 hx (y := (⟨"java/util/Arrays", "copyOf", "([JI)[J"⟩ : MethodName)) hown (mvT hZ (own_w hw 70 rfl)) (mvT hZ (own_w hw 71 rfl)) (mvT hZ (own_w hw 60 rfl)) (mvT hZ (own_w hw 72 rfl)) (by decide) (backOf (W := 1) (rm_cpJ l Z a0 hw [] al kl h39 n0 Zs53 A50) hZ (own_w hw 72 rfl) (own_w hw 60 rfl) (by decide) (by decide)) (g := (mkF m 46 #[.val (.ref dd), .val (.int lev), .val (.int (16 : Int32))] [(.int (16 : Int32)), (.ref al), (.ref dd)])) rfl (by rw [hml]; rfl) (argsL := [(.ref al), (.int (16 : Int32))]) (rest := [(.ref dd)]) (lenOf pd_3 rfl) rfl (by show 2 * 0 + _ ≤ _; exact Nat.le_of_eq rfl) (hb hby d5_46) (fun _ _ => ⟨rfl, e54, (by decide : 1 + 1 ≤ _), (by decide : 16 + 16 ≤ _)⟩)
  dsimp only [Pt.U, Pt.locs, Pt.cells, Pt.slots] at X55 l55 y55 z55 st55 hQ55
  subst l55 y55 z55
  obtain ⟨x56, rfl, N55q, hq57, hpq58, hpq59, G60⟩ := hQ55
  have N55 := Fr.app N39 N55q
  have lt61 : dd < h39.size := E40.lt
  have lt62 : ab < h39.size := A49.lt
  have lt63 : al < h39.size := A50.lt
  have lt64 : an < h39.size := A51.lt
  have lt65 : x11 < h39.size := G52.lt
  have E66 := E40.keep hq57
  have F67 := F41.keep hq57 nin0
  have F68 := F42.keep hq57 nin0
  have F69 := F43.keep hq57 nin0
  have F70 := F44.keep hq57 nin0
  have F71 := F45.keep hq57 nin0
  have F72 := F46.keep hq57 nin0
  have F73 := F47.keep hq57 nin0
  have F74 := F48.keep hq57 nin0
  have A75 := A49.keep hq57 nin0
  have A76 := A50.keep hq57 nin0
  have A77 := A51.keep hq57 nin0
  have G78 := G52.keep hq57 nin0
  have F79 := Fw39.keep hq57 nin0
  have K55 : Keep h0 T55.heap [dd] := K39.trans hq57 all0
  have Zs80 : n0 ≤ T55.heap.size := (Nat.le_trans Zs53 hq57.1)
  have ne81 : dd ≠ x56 := Nat.ne_of_lt (Nat.lt_of_lt_of_le lt61 hpq59)
  have ne82 : ab ≠ x56 := Nat.ne_of_lt (Nat.lt_of_lt_of_le lt62 hpq59)
  have ne83 : al ≠ x56 := Nat.ne_of_lt (Nat.lt_of_lt_of_le lt63 hpq59)
  have ne84 : an ≠ x56 := Nat.ne_of_lt (Nat.lt_of_lt_of_le lt64 hpq59)
  have ne85 : x11 ≠ x56 := Nat.ne_of_lt (Nat.lt_of_lt_of_le lt65 hpq59)
  have sz86 : h0.size ≤ x56 := Nat.le_trans K39.1 hpq59
  obtain ⟨T87, h87, X87, e87, W87, st87⟩ := putF X55 hx hZ hown (host := "") (Or.inl (own_w hw 16 rfl)) Via.refl rfl F67 E66 (Or.inl (own_w hw 17 rfl)) (own_w hw 2 rfl) (ty := (.array .long)) (by decide) rfl rfl (g := (mkF m 49 #[.val (.ref dd), .val (.int lev), .val (.int (16 : Int32))] [(.ref x56), (.ref dd)])) rfl rfl (hb hby d5_49)
  have Fw87 : Fld Z h87 dd "com/example/fieldglass/fieldglass/io/Marks" "firstFieldSites" "[J" (.ref x56) := F67.same W87
  have E88 := E66.wr W87
  have F89 := F68.other W87 (Or.inr (slot_ne (Or.inl (own_w hw 21 rfl)) (Or.inl (own_w hw 17 rfl)) (by decide) (t := (.array .int)) (t' := (.array .long)) (by decide) (by decide)))
  have F90 := F69.other W87 (Or.inr (slot_ne (Or.inl (own_w hw 23 rfl)) (Or.inl (own_w hw 17 rfl)) (by decide) (t := (.array .long)) (t' := (.array .long)) (by decide) (by decide)))
  have F91 := F70.other W87 (Or.inr (slot_ne (Or.inl (own_w hw 84 rfl)) (Or.inl (own_w hw 17 rfl)) (by decide) (t := .int) (t' := (.array .long)) (by decide) (by decide)))
  have F92 := F71.other W87 (Or.inr (slot_ne (Or.inl (own_w hw 25 rfl)) (Or.inl (own_w hw 17 rfl)) (by decide) (t := .int) (t' := (.array .long)) (by decide) (by decide)))
  have F93 := F72.other W87 (Or.inr (slot_ne (Or.inl (own_w hw 27 rfl)) (Or.inl (own_w hw 17 rfl)) (by decide) (t := .boolean) (t' := (.array .long)) (by decide) (by decide)))
  have F94 := F73.other W87 (Or.inr (slot_ne (Or.inr (own_w hw 41 rfl)) (Or.inl (own_w hw 17 rfl)) (by decide) (t := (.object "com/example/fieldglass/fieldglass/io/Marks$Order")) (t' := (.array .long)) (by decide) (by decide)))
  have F95 := F74.other W87 (Or.inr (slot_ne (Or.inl (own_w hw 44 rfl)) (Or.inl (own_w hw 17 rfl)) (by decide) (t := .long) (t' := (.array .long)) (by decide) (by decide)))
  have A96 := A75.other W87 (Ne.symm hn1)
  have A97 := A76.other W87 (Ne.symm hn2)
  have A98 := A77.other W87 (Ne.symm hn3)
  have G99 := G78.other W87 (Ne.symm ne34)
  have F100 := F79.other W87 (Or.inr (slot_ne (Or.inl (own_w hw 13 rfl)) (Or.inl (own_w hw 17 rfl)) (by decide) (t := (.array .boolean)) (t' := (.array .long)) (by decide) (by decide)))
  have G101 := G60.other W87 (Ne.symm ne81)
  have N87 := Fr.snoc X87 N55 hdd
  have K87 : Keep h0 h87 [dd] := K55.wr W87 (Or.inl (List.mem_of_getElem? (i := 0) rfl))
  have Zs102 : n0 ≤ h87.size := (Nat.le_trans Zs80 (Keep.of_wr W87).1)
  obtain ⟨T103, X103, e103, st103⟩ := getF X87 hx hZ hown (host := "") (Or.inl (own_w hw 20 rfl)) Via.refl e87 F89 (g := (mkF m 54 #[.val (.ref dd), .val (.int lev), .val (.int (16 : Int32))] [(.ref dd), (.ref dd)])) rfl rfl (hb hby d5_54)
  obtain ⟨_, _, ⟨T104, L104, k104, n104⟩, -, X104, ⟨Lc104, hQ104, l104, y104, z104⟩, st104⟩ := Jvm.LawKit.callS X103 hx (y := (⟨"java/util/Arrays", "copyOf", "([II)[I"⟩ : MethodName)) hown (mvT hZ (own_w hw 74 rfl)) (mvT hZ (own_w hw 75 rfl)) (mvT hZ (own_w hw 60 rfl)) (mvT hZ (own_w hw 76 rfl)) (by decide) (backOf (W := 1) (rm_cpI l Z a0 hw [] an ki h87 n0 Zs102 A98) hZ (own_w hw 76 rfl) (own_w hw 60 rfl) (by decide) (by decide)) (g := (mkF m 58 #[.val (.ref dd), .val (.int lev), .val (.int (16 : Int32))] [(.int (16 : Int32)), (.ref an), (.ref dd)])) rfl (by rw [hml]; rfl) (argsL := [(.ref an), (.int (16 : Int32))]) (rest := [(.ref dd)]) (lenOf pd_4 rfl) rfl (by show 2 * 0 + _ ≤ _; exact Nat.le_of_eq rfl) (hb hby d5_58) (fun _ _ => ⟨rfl, e103, (by decide : 2 + 1 ≤ _), (by decide : 32 + 16 ≤ _)⟩)
  dsimp only [Pt.U, Pt.locs, Pt.cells, Pt.slots] at X104 l104 y104 z104 st104 hQ104
  subst l104 y104 z104
  obtain ⟨x105, rfl, N104q, hq106, hpq107, hpq108, G109⟩ := hQ104
  have N104 := Fr.app N87 N104q
  have lt110 : dd < h87.size := E88.lt
  have lt111 : ab < h87.size := A96.lt
  have lt112 : al < h87.size := A97.lt
  have lt113 : an < h87.size := A98.lt
  have lt114 : x11 < h87.size := G99.lt
  have lt115 : x56 < h87.size := G101.lt
  have E116 := E88.keep hq106
  have F117 := F89.keep hq106 nin0
  have F118 := F90.keep hq106 nin0
  have F119 := F91.keep hq106 nin0
  have F120 := F92.keep hq106 nin0
  have F121 := F93.keep hq106 nin0
  have F122 := F94.keep hq106 nin0
  have F123 := F95.keep hq106 nin0
  have A124 := A96.keep hq106 nin0
  have A125 := A97.keep hq106 nin0
  have A126 := A98.keep hq106 nin0
  have G127 := G99.keep hq106 nin0
  have F128 := F100.keep hq106 nin0
  have G129 := G101.keep hq106 nin0
  have F130 := Fw87.keep hq106 nin0
  have K104 : Keep h0 T104.heap [dd] := K87.trans hq106 all0
  have Zs131 : n0 ≤ T104.heap.size := (Nat.le_trans Zs102 hq106.1)
  have ne132 : dd ≠ x105 := Nat.ne_of_lt (Nat.lt_of_lt_of_le lt110 hpq108)
  have ne133 : ab ≠ x105 := Nat.ne_of_lt (Nat.lt_of_lt_of_le lt111 hpq108)
  have ne134 : al ≠ x105 := Nat.ne_of_lt (Nat.lt_of_lt_of_le lt112 hpq108)
  have ne135 : an ≠ x105 := Nat.ne_of_lt (Nat.lt_of_lt_of_le lt113 hpq108)
  have ne136 : x11 ≠ x105 := Nat.ne_of_lt (Nat.lt_of_lt_of_le lt114 hpq108)
  have ne137 : x56 ≠ x105 := Nat.ne_of_lt (Nat.lt_of_lt_of_le lt115 hpq108)
  have sz138 : h0.size ≤ x105 := Nat.le_trans K87.1 hpq108
  obtain ⟨T139, h139, X139, e139, W139, st139⟩ := putF X104 hx hZ hown (host := "") (Or.inl (own_w hw 20 rfl)) Via.refl rfl F117 E116 (Or.inl (own_w hw 21 rfl)) (own_w hw 2 rfl) (ty := (.array .int)) (by decide) rfl rfl (g := (mkF m 61 #[.val (.ref dd), .val (.int lev), .val (.int (16 : Int32))] [(.ref x105), (.ref dd)])) rfl rfl (hb hby d5_61)
  have Fw139 : Fld Z h139 dd "com/example/fieldglass/fieldglass/io/Marks" "fieldSites" "[I" (.ref x105) := F117.same W139
  have E140 := E116.wr W139
  have F141 := F118.other W139 (Or.inr (slot_ne (Or.inl (own_w hw 23 rfl)) (Or.inl (own_w hw 21 rfl)) (by decide) (t := (.array .long)) (t' := (.array .int)) (by decide) (by decide)))
  have F142 := F119.other W139 (Or.inr (slot_ne (Or.inl (own_w hw 84 rfl)) (Or.inl (own_w hw 21 rfl)) (by decide) (t := .int) (t' := (.array .int)) (by decide) (by decide)))
  have F143 := F120.other W139 (Or.inr (slot_ne (Or.inl (own_w hw 25 rfl)) (Or.inl (own_w hw 21 rfl)) (by decide) (t := .int) (t' := (.array .int)) (by decide) (by decide)))
  have F144 := F121.other W139 (Or.inr (slot_ne (Or.inl (own_w hw 27 rfl)) (Or.inl (own_w hw 21 rfl)) (by decide) (t := .boolean) (t' := (.array .int)) (by decide) (by decide)))
  have F145 := F122.other W139 (Or.inr (slot_ne (Or.inr (own_w hw 41 rfl)) (Or.inl (own_w hw 21 rfl)) (by decide) (t := (.object "com/example/fieldglass/fieldglass/io/Marks$Order")) (t' := (.array .int)) (by decide) (by decide)))
  have F146 := F123.other W139 (Or.inr (slot_ne (Or.inl (own_w hw 44 rfl)) (Or.inl (own_w hw 21 rfl)) (by decide) (t := .long) (t' := (.array .int)) (by decide) (by decide)))
  have A147 := A124.other W139 (Ne.symm hn1)
  have A148 := A125.other W139 (Ne.symm hn2)
  have A149 := A126.other W139 (Ne.symm hn3)
  have G150 := G127.other W139 (Ne.symm ne34)
  have F151 := F128.other W139 (Or.inr (slot_ne (Or.inl (own_w hw 13 rfl)) (Or.inl (own_w hw 21 rfl)) (by decide) (t := (.array .boolean)) (t' := (.array .int)) (by decide) (by decide)))
  have G152 := G129.other W139 (Ne.symm ne81)
  have F153 := F130.other W139 (Or.inr (slot_ne (Or.inl (own_w hw 17 rfl)) (Or.inl (own_w hw 21 rfl)) (by decide) (t := (.array .long)) (t' := (.array .int)) (by decide) (by decide)))
  have G154 := G109.other W139 (Ne.symm ne132)
  have N139 := Fr.snoc X139 N104 hdd
  have K139 : Keep h0 h139 [dd] := K104.wr W139 (Or.inl (List.mem_of_getElem? (i := 0) rfl))
  have Zs155 : n0 ≤ h139.size := (Nat.le_trans Zs131 (Keep.of_wr W139).1)
  obtain ⟨T156, X156, e156, st156⟩ := getF X139 hx hZ hown (host := "") (Or.inl (own_w hw 22 rfl)) Via.refl e139 F141 (g := (mkF m 66 #[.val (.ref dd), .val (.int lev), .val (.int (16 : Int32))] [(.ref dd), (.ref dd)])) rfl rfl (hb hby d5_66)
  obtain ⟨_, _, ⟨T157, L157, k157, n157⟩, -, X157, ⟨Lc157, hQ157, l157, y157, z157⟩, st157⟩ := Jvm.LawKit.callS X156 hx (y := (⟨"java/util/Arrays", "copyOf", "([JI)[J"⟩ : MethodName)) hown (mvT hZ (own_w hw 70 rfl)) (mvT hZ (own_w hw 71 rfl)) (mvT hZ (own_w hw 60 rfl)) (mvT hZ (own_w hw 72 rfl)) (by decide) (backOf (W := 1) (rm_cpJ l Z a0 hw [] al kl h139 n0 Zs155 A148) hZ (own_w hw 72 rfl) (own_w hw 60 rfl) (by decide) (by decide)) (g := (mkF m 70 #[.val (.ref dd), .val (.int lev), .val (.int (16 : Int32))] [(.int (16 : Int32)), (.ref al), (.ref dd)])) rfl (by rw [hml]; rfl) (argsL := [(.ref al), (.int (16 : Int32))]) (rest := [(.ref dd)]) (lenOf pd_3 rfl) rfl (by show 2 * 0 + _ ≤ _; exact Nat.le_of_eq rfl) (hb hby d5_70) (fun _ _ => ⟨rfl, e156, (by decide : 3 + 1 ≤ _), (by decide : 48 + 16 ≤ _)⟩)
  dsimp only [Pt.U, Pt.locs, Pt.cells, Pt.slots] at X157 l157 y157 z157 st157 hQ157
  subst l157 y157 z157
  obtain ⟨x158, rfl, N157q, hq159, hpq160, hpq161, G162⟩ := hQ157
  have N157 := Fr.app N139 N157q
  have lt163 : dd < h139.size := E140.lt
  have lt164 : ab < h139.size := A147.lt
  have lt165 : al < h139.size := A148.lt
  have lt166 : an < h139.size := A149.lt
  have lt167 : x11 < h139.size := G150.lt
  have lt168 : x56 < h139.size := G152.lt
  have lt169 : x105 < h139.size := G154.lt
  have E170 := E140.keep hq159
  have F171 := F141.keep hq159 nin0
  have F172 := F142.keep hq159 nin0
  have F173 := F143.keep hq159 nin0
  have F174 := F144.keep hq159 nin0
  have F175 := F145.keep hq159 nin0
  have F176 := F146.keep hq159 nin0
  have A177 := A147.keep hq159 nin0
  have A178 := A148.keep hq159 nin0
  have A179 := A149.keep hq159 nin0
  have G180 := G150.keep hq159 nin0
  have F181 := F151.keep hq159 nin0
  have G182 := G152.keep hq159 nin0
  have F183 := F153.keep hq159 nin0
  have G184 := G154.keep hq159 nin0
  have F185 := Fw139.keep hq159 nin0
  have K157 : Keep h0 T157.heap [dd] := K139.trans hq159 all0
  have Zs186 : n0 ≤ T157.heap.size := (Nat.le_trans Zs155 hq159.1)
  have ne187 : dd ≠ x158 := Nat.ne_of_lt (Nat.lt_of_lt_of_le lt163 hpq161)
  have ne188 : ab ≠ x158 := Nat.ne_of_lt (Nat.lt_of_lt_of_le lt164 hpq161)
  have ne189 : al ≠ x158 := Nat.ne_of_lt (Nat.lt_of_lt_of_le lt165 hpq161)
  have ne190 : an ≠ x158 := Nat.ne_of_lt (Nat.lt_of_lt_of_le lt166 hpq161)
  have ne191 : x11 ≠ x158 := Nat.ne_of_lt (Nat.lt_of_lt_of_le lt167 hpq161)
  have ne192 : x56 ≠ x158 := Nat.ne_of_lt (Nat.lt_of_lt_of_le lt168 hpq161)
  have ne193 : x105 ≠ x158 := Nat.ne_of_lt (Nat.lt_of_lt_of_le lt169 hpq161)
  have sz194 : h0.size ≤ x158 := Nat.le_trans K139.1 hpq161
  obtain ⟨T195, h195, X195, e195, W195, st195⟩ := putF X157 hx hZ hown (host := "") (Or.inl (own_w hw 22 rfl)) Via.refl rfl F171 E170 (Or.inl (own_w hw 23 rfl)) (own_w hw 2 rfl) (ty := (.array .long)) (by decide) rfl rfl (g := (mkF m 73 #[.val (.ref dd), .val (.int lev), .val (.int (16 : Int32))] [(.ref x158), (.ref dd)])) rfl rfl (hb hby d5_73)
  have Fw195 : Fld Z h195 dd "com/example/fieldglass/fieldglass/io/Marks" "slots" "[J" (.ref x158) := F171.same W195
  have E196 := E170.wr W195
  have F197 := F172.other W195 (Or.inr (slot_ne (Or.inl (own_w hw 84 rfl)) (Or.inl (own_w hw 23 rfl)) (by decide) (t := .int) (t' := (.array .long)) (by decide) (by decide)))
  have F198 := F173.other W195 (Or.inr (slot_ne (Or.inl (own_w hw 25 rfl)) (Or.inl (own_w hw 23 rfl)) (by decide) (t := .int) (t' := (.array .long)) (by decide) (by decide)))
  have F199 := F174.other W195 (Or.inr (slot_ne (Or.inl (own_w hw 27 rfl)) (Or.inl (own_w hw 23 rfl)) (by decide) (t := .boolean) (t' := (.array .long)) (by decide) (by decide)))
  have F200 := F175.other W195 (Or.inr (slot_ne (Or.inr (own_w hw 41 rfl)) (Or.inl (own_w hw 23 rfl)) (by decide) (t := (.object "com/example/fieldglass/fieldglass/io/Marks$Order")) (t' := (.array .long)) (by decide) (by decide)))
  have F201 := F176.other W195 (Or.inr (slot_ne (Or.inl (own_w hw 44 rfl)) (Or.inl (own_w hw 23 rfl)) (by decide) (t := .long) (t' := (.array .long)) (by decide) (by decide)))
  have A202 := A177.other W195 (Ne.symm hn1)
  have A203 := A178.other W195 (Ne.symm hn2)
  have A204 := A179.other W195 (Ne.symm hn3)
  have G205 := G180.other W195 (Ne.symm ne34)
  have F206 := F181.other W195 (Or.inr (slot_ne (Or.inl (own_w hw 13 rfl)) (Or.inl (own_w hw 23 rfl)) (by decide) (t := (.array .boolean)) (t' := (.array .long)) (by decide) (by decide)))
  have G207 := G182.other W195 (Ne.symm ne81)
  have F208 := F183.other W195 (Or.inr (slot_ne (Or.inl (own_w hw 17 rfl)) (Or.inl (own_w hw 23 rfl)) (by decide) (t := (.array .long)) (t' := (.array .long)) (by decide) (by decide)))
  have G209 := G184.other W195 (Ne.symm ne132)
  have F210 := F185.other W195 (Or.inr (slot_ne (Or.inl (own_w hw 21 rfl)) (Or.inl (own_w hw 23 rfl)) (by decide) (t := (.array .int)) (t' := (.array .long)) (by decide) (by decide)))
  have G211 := G162.other W195 (Ne.symm ne187)
  have N195 := Fr.snoc X195 N157 hdd
  have K195 : Keep h0 h195 [dd] := K157.wr W195 (Or.inl (List.mem_of_getElem? (i := 0) rfl))
  have Zs212 : n0 ≤ h195.size := (Nat.le_trans Zs186 (Keep.of_wr W195).1)
  have pre213 := fun (t : State) (k : Steps p.tables e below (T195.setTop (mkF m 76 #[.val (.ref dd), .val (.int lev), .val (.int (16 : Int32))] [])) t) => pre0 t (by
    refine XS.iloadN X0.here hx rfl (hb hby d5_0) rfl ?_
    refine XS.aloadN X0.here hx rfl (hb hby d5_1) rfl rfl ?_
    refine st1 _ ?_
    refine X1.arraylength hx (by rw [e1]; exact Arc2.1) (State.isArrayOf_alike hZ.alike Arc2.2.1) (g := (mkF m 5 #[.val (.ref dd), .val (.int lev), .unset] [(.ref ab), (.int lev)])) rfl rfl (hb hby d5_5) _ ?_
    rw [show c2.slots.size.toInt32 = (0 : Int32) from (len_of Sc2 Nc2)]
    refine XS.icmpNo X1.here hx rfl (hb hby d5_6) rfl (flt (own_ix_nn hl)).1 ?_
    refine XS.bipush X1.here hx rfl (hb hby d5_9) ?_
    refine XS.iconst X1.here hx rfl (hb hby d5_11) ?_
    refine XS.aloadN X1.here hx rfl (hb hby d5_12) rfl rfl ?_
    refine st3 _ ?_
    refine X3.arraylength hx (by rw [e3]; exact Arc4.1) (State.isArrayOf_alike hZ.alike Arc4.2.1) (g := (mkF m 16 #[.val (.ref dd), .val (.int lev), .unset] [(.ref ab), (.int (2 : Int32)), (.int (16 : Int32))])) rfl rfl (hb hby d5_16) _ ?_
    rw [show c4.slots.size.toInt32 = (0 : Int32) from (len_of Sc4 Nc4)]
    refine XS.imul X3.here hx rfl (hb hby d5_17) rfl ?_
    refine st5 _ ?_
    refine XS.iloadN X5.here hx rfl (hb hby d5_21) rfl ?_
    refine XS.iconst X5.here hx rfl (hb hby d5_22) ?_
    refine XS.iadd X5.here hx rfl (hb hby d5_23) rfl ?_
    refine st7 _ ?_
    refine XS.istoreN X7.here hx rfl (hb hby d5_27) rfl (l' := #[.val (.ref dd), .val (.int lev), .val (.int (16 : Int32))]) rfl ?_
    refine XS.aloadN X7.here hx rfl (hb hby d5_28) rfl rfl ?_
    refine XS.aloadN X7.here hx rfl (hb hby d5_29) rfl rfl ?_
    refine st9 _ ?_
    refine XS.iloadN X9.here hx rfl (hb hby d5_33) rfl ?_
    refine st10 _ ?_
    refine st39 _ ?_
    refine XS.aloadN X39.here hx rfl (hb hby d5_40) rfl rfl ?_
    refine XS.aloadN X39.here hx rfl (hb hby d5_41) rfl rfl ?_
    refine st54 _ ?_
    refine XS.iloadN X54.here hx rfl (hb hby d5_45) rfl ?_
    refine st55 _ ?_
    refine st87 _ ?_
    refine XS.aloadN X87.here hx rfl (hb hby d5_52) rfl rfl ?_
    refine XS.aloadN X87.here hx rfl (hb hby d5_53) rfl rfl ?_
    refine st103 _ ?_
    refine XS.iloadN X103.here hx rfl (hb hby d5_57) rfl ?_
    refine st104 _ ?_
    refine st139 _ ?_
    refine XS.aloadN X139.here hx rfl (hb hby d5_64) rfl rfl ?_
    refine XS.aloadN X139.here hx rfl (hb hby d5_65) rfl rfl ?_
    refine st156 _ ?_
    refine XS.iloadN X156.here hx rfl (hb hby d5_69) rfl ?_
    refine st157 _ ?_
    refine st195 _ ?_
    exact k)
  obtain ⟨fs, hr, hrun, hended, hW, hsame⟩ := X195.leave (v := none) (hlocks := BodyLoose.notSynchronized Bd) (fun _ => rfl)
  refine ⟨_, _, pre213 _ ?_, hrun, hended, _, _, rfl, ?_, ⟨_, rfl⟩, hW, hsame.mono (by decide) (by decide)⟩
  · exact X195.returnOut hx Bd.returns (hb hby d5_76) hr
  · show Q_mrG Z dd oo ab al an kb kl ki lev ln h0 n0 _ T195.heap _
    rw [e195]
    exact ⟨x11, x56, x105, x158, rfl, N195, K195, hpq13, sz38, hpq58, sz86, hpq107, sz138, hpq160, sz194, ne85, ne136, ne191, ne137, ne192, ne193, F206, F208, F210, Fw195, F197, F198, F199, F200, F201, G205, G207, G209, G211⟩

theorem ef_bm (m : MethodId) (x0 : Addr) (x1 : Int32) : entryFrame m #[(.ref x0), (.int x1)] 2 = mkF m 0 #[.val (.ref x0), .val (.int x1)] [] := by first | (simp [entryFrame, mkF, argsToLocals, Value.category]; done) | rfl
def Q_bm (Z : State) (dd : Addr) (oo : Addr) (ab : Addr) (al : Addr) (an : Addr) (kb : ClassId) (kl : ClassId) (ki : ClassId) (lev : Int32) (ln : Nat) (h0 : Heap) (n0 : Nat) (v : Option Value) (h : Heap) (L : List Loc) : Prop := ∃ am : Addr, ∃ af : Addr, ∃ ai : Addr, ∃ as_ : Addr, v = none ∧ Fr n0 L ∧ Keep h0 h [dd] ∧ n0 ≤ am ∧ h0.size ≤ am ∧ n0 ≤ af ∧ h0.size ≤ af ∧ n0 ≤ ai ∧ h0.size ≤ ai ∧ n0 ≤ as_ ∧ h0.size ≤ as_ ∧ am ≠ af ∧ am ≠ ai ∧ am ≠ as_ ∧ af ≠ ai ∧ af ≠ as_ ∧ ai ≠ as_ ∧ Fld Z h dd "com/example/fieldglass/fieldglass/io/Marks" "messages" "[Z" (.ref am) ∧ Fld Z h dd "com/example/fieldglass/fieldglass/io/Marks" "firstFieldSites" "[J" (.ref af) ∧ Fld Z h dd "com/example/fieldglass/fieldglass/io/Marks" "fieldSites" "[I" (.ref ai) ∧ Fld Z h dd "com/example/fieldglass/fieldglass/io/Marks" "slots" "[J" (.ref as_) ∧ Fld Z h dd "com/example/fieldglass/fieldglass/io/Marks" "slotted" "I" (.int (0 : Int32)) ∧ Fld Z h dd "com/example/fieldglass/fieldglass/io/Marks" "deepestFields" "I" (.int (-1 : Int32)) ∧ Fld Z h dd "com/example/fieldglass/fieldglass/io/Marks" "marking" "Z" (.int (1 : Int32)) ∧ Fld Z h dd "com/example/fieldglass/fieldglass/io/Marks" "order" "Lcom/example/fieldglass/fieldglass/io/Marks$Order;" (.ref oo) ∧ Fld Z h dd "com/example/fieldglass/fieldglass/io/Marks" "next" "J" (.long (9223372036854775807 : Int64)) ∧ own_Fa Value.int .boolean Z h am 16 (own_up (fun _ => (0 : Int32)) ln (1 : Int32)) ∧ own_Fa Value.long .long Z h af 16 (fun _ => (0 : Int64)) ∧ own_Fa Value.int .int Z h ai 16 (fun _ => (0 : Int32)) ∧ own_Fa Value.long .long Z h as_ 16 (fun _ => (0 : Int64))
set_option maxRecDepth 65536 in
set_option maxHeartbeats 40000000 in
theorem rm_bm (l : Launch) (Z : State) (a0 : Array Value) (hw : ∀ d ∈ tables_1, d.before a0 Z = true) (ws : List Jvm.Cond) (dd : Addr) (oo : Addr) (ab : Addr) (al : Addr) (an : Addr) (kb : ClassId) (kl : ClassId) (ki : ClassId) (lev : Int32) (ln : Nat) (h0 : Heap) (n0 : Nat) (Z0 : n0 ≤ h0.size) (H0_E : Exa Z h0 dd "com/example/fieldglass/fieldglass/io/Marks") (H1_F : Fld Z h0 dd "com/example/fieldglass/fieldglass/io/Marks" "messages" "[Z" (.ref ab)) (H2_F : Fld Z h0 dd "com/example/fieldglass/fieldglass/io/Marks" "firstFieldSites" "[J" (.ref al)) (H3_F : Fld Z h0 dd "com/example/fieldglass/fieldglass/io/Marks" "fieldSites" "[I" (.ref an)) (H4_F : Fld Z h0 dd "com/example/fieldglass/fieldglass/io/Marks" "slots" "[J" (.ref al)) (H5_F : Fld Z h0 dd "com/example/fieldglass/fieldglass/io/Marks" "slotted" "I" (.int (0 : Int32))) (H6_F : Fld Z h0 dd "com/example/fieldglass/fieldglass/io/Marks" "deepestFields" "I" (.int (-1 : Int32))) (H7_F : Fld Z h0 dd "com/example/fieldglass/fieldglass/io/Marks" "marking" "Z" (.int (1 : Int32))) (H8_F : Fld Z h0 dd "com/example/fieldglass/fieldglass/io/Marks" "order" "Lcom/example/fieldglass/fieldglass/io/Marks$Order;" (.ref oo)) (H9_F : Fld Z h0 dd "com/example/fieldglass/fieldglass/io/Marks" "next" "J" (.long (9223372036854775807 : Int64))) (H10_A : Arv Z h0 ab kb .boolean (0 : Int32) [] (.int (0 : Int32))) (H11_A : Arv Z h0 al kl .long (0 : Int32) [] (.long (0 : Int64))) (H12_A : Arv Z h0 an ki .int (0 : Int32) [] (.int (0 : Int32))) (hl : own_ix lev ln) (hdd : n0 ≤ dd) (hl8 : ln < 8) (hn1 : dd ≠ ab) (hn2 : dd ≠ al) (hn3 : dd ≠ an) :
    MetFree l (⟨"com/example/fieldglass/fieldglass/io/Marks", "beginMessage", "(I)V"⟩ : MethodName) (head1 (Jvm.Cond.code (⟨"com/example/fieldglass/fieldglass/io/Marks", "beginMessage", "(I)V"⟩ : MethodName) prog_13_method_2_code 2 none :: ws) ({ frames := 3, cells := 4, slots := 64, locals := 47 } : Room)) (fun as_ U_ => as_ = #[(.ref dd), (.int lev)] ∧ Z.Warmed39 U_.vm ∧ U_.heap = h0) (fun _ _ _ _ _ => True) (fun _ U o U' => ∃ v L, o = .returned v ∧ Q_bm Z dd oo ab al an kb kl ki lev ln h0 n0 v U'.heap L ∧ FrameEnd U o U' L ({ frames := 3, cells := 4, slots := 64, locals := 47 } : Room).cells ({ frames := 3, cells := 4, slots := 64, locals := 47 } : Room).slots) := by
  refine MetFree.of_bodySF (plainFor_of_name pn_2) hisR ?_
  intro p e s m args below meth c s₁ Bd hml0 hP hK
  obtain ⟨rfl, hZ, hhp_⟩ := hP
  have hx := Bd.exec
  have hby := Bd.bytes
  have hml : c.maxLocals = 2 := hml0
  have hown : s.vm.findClass "com/example/fieldglass/fieldglass/io/Marks" = some m.cls := findClass_of_methodNamed Bd.named
  have hnm := (name_of_methodNamed Bd.named Bd.method).1
  have X0 : Stand p l e ({ frames := 3, cells := 4, slots := 64, locals := 47 } : Room) s m #[(.ref dd), (.int lev)] below meth c s₁ [] 0 0 := Stand.of_body Bd
  have e0 : s₁.heap = h0 := by rw [← hhp_, Bd.state]; rfl
  have N0 := Fr.nil n0
  have pre0 : ∀ t, Steps p.tables e below (s₁.setTop (mkF m 0 #[.val (.ref dd), .val (.int lev)] [])) t → Steps p.tables e below (s₁.setTop (entryFrame m #[(.ref dd), (.int lev)] 2)) t := fun t k => castTop (ef_bm m dd lev) k
  have K0 : Keep h0 h0 [dd] := Keep.refl h0 [dd]
  obtain ⟨cq1, q1, q1'⟩ := H0_E.cell
  obtain ⟨_, _, ⟨T1, L1, k1, n1⟩, -, X1, ⟨Lc1, hQ1, l1, y1, z1⟩, st1⟩ := X0.privateBack hx (y := (⟨"com/example/fieldglass/fieldglass/io/Marks", "makeRoomFor", "(I)V"⟩ : MethodName)) hown (mvT hZ (own_w hw 50 rfl)) (mvT hZ (own_w hw 51 rfl)) (own_sel_priv (z := (⟨"com/example/fieldglass/fieldglass/io/Marks", "beginMessage", "(I)V"⟩ : MethodName)) (mvT hZ (own_w hw 48 rfl)) rfl (mvP hZ (own_w hw 52 rfl)) (mvT hZ (own_w hw 51 rfl)) (by decide)) (Cond.privateMethod_at (mvP hZ (own_w hw 52 rfl) (args := #[]))) (mvT hZ (own_w hw 53 rfl)) (by decide) (backOf (W := 0) (rm_mrG l Z a0 hw [] dd oo ab al an kb kl ki lev ln h0 n0 Z0 H0_E H1_F H2_F H3_F H4_F H5_F H6_F H7_F H8_F H9_F H10_A H11_A H12_A hl hdd hl8 hn1 hn2 hn3) hZ (own_w hw 53 rfl) (own_w hw 3 rfl) (by decide) (by decide)) (g := (mkF m 2 #[.val (.ref dd), .val (.int lev)] [(.int lev), (.ref dd)])) rfl (by rw [hml]; rfl) (Steps.refl _) (a := dd) (by rw [e0]; exact q1) q1' (argsL := [(.int lev)]) (rest := []) (lenOf pd_5 rfl) rfl (by show 2 * 0 + _ ≤ _; exact Nat.le_of_eq rfl) (hb hby d4_2) (fun _ _ => ⟨rfl, e0, (by decide : 0 + 4 ≤ _), (by decide : 0 + 64 ≤ _)⟩)
  dsimp only [Pt.U, Pt.locs, Pt.cells, Pt.slots] at X1 l1 y1 z1 st1 hQ1
  subst l1 y1 z1
  obtain ⟨x2, x3, x4, x5, rfl, N1q, hq6, hpq7, hpq8, hpq9, hpq10, hpq11, hpq12, hpq13, hpq14, hpq15, hpq16, hpq17, hpq18, hpq19, hpq20, F21, F22, F23, F24, F25, F26, F27, F28, F29, G30, G31, G32, G33⟩ := hQ1
  have N1 := Fr.app N0 N1q
  have lt34 : dd < h0.size := H0_E.lt
  have lt35 : ab < h0.size := H10_A.lt
  have lt36 : al < h0.size := H11_A.lt
  have lt37 : an < h0.size := H12_A.lt
  have E38 := H0_E.keep hq6
  have A39 := H10_A.keep hq6 (ninS (Ne.symm hn1) nin0)
  have A40 := H11_A.keep hq6 (ninS (Ne.symm hn2) nin0)
  have A41 := H12_A.keep hq6 (ninS (Ne.symm hn3) nin0)
  have K1 : Keep h0 T1.heap [dd] := K0.trans hq6 (allS (Or.inl (List.mem_of_getElem? (i := 0) rfl)) all0)
  have Zs42 : n0 ≤ T1.heap.size := (Nat.le_trans Z0 hq6.1)
  have ne43 : dd ≠ x2 := Nat.ne_of_lt (Nat.lt_of_lt_of_le lt34 hpq8)
  have ne44 : ab ≠ x2 := Nat.ne_of_lt (Nat.lt_of_lt_of_le lt35 hpq8)
  have ne45 : al ≠ x2 := Nat.ne_of_lt (Nat.lt_of_lt_of_le lt36 hpq8)
  have ne46 : an ≠ x2 := Nat.ne_of_lt (Nat.lt_of_lt_of_le lt37 hpq8)
  have sz47 : h0.size ≤ x2 := Nat.le_trans K0.1 hpq8
  have ne48 : dd ≠ x3 := Nat.ne_of_lt (Nat.lt_of_lt_of_le lt34 hpq10)
  have ne49 : ab ≠ x3 := Nat.ne_of_lt (Nat.lt_of_lt_of_le lt35 hpq10)
  have ne50 : al ≠ x3 := Nat.ne_of_lt (Nat.lt_of_lt_of_le lt36 hpq10)
  have ne51 : an ≠ x3 := Nat.ne_of_lt (Nat.lt_of_lt_of_le lt37 hpq10)
  have sz52 : h0.size ≤ x3 := Nat.le_trans K0.1 hpq10
  have ne53 : dd ≠ x4 := Nat.ne_of_lt (Nat.lt_of_lt_of_le lt34 hpq12)
  have ne54 : ab ≠ x4 := Nat.ne_of_lt (Nat.lt_of_lt_of_le lt35 hpq12)
  have ne55 : al ≠ x4 := Nat.ne_of_lt (Nat.lt_of_lt_of_le lt36 hpq12)
  have ne56 : an ≠ x4 := Nat.ne_of_lt (Nat.lt_of_lt_of_le lt37 hpq12)
  have sz57 : h0.size ≤ x4 := Nat.le_trans K0.1 hpq12
  have ne58 : dd ≠ x5 := Nat.ne_of_lt (Nat.lt_of_lt_of_le lt34 hpq14)
  have ne59 : ab ≠ x5 := Nat.ne_of_lt (Nat.lt_of_lt_of_le lt35 hpq14)
  have ne60 : al ≠ x5 := Nat.ne_of_lt (Nat.lt_of_lt_of_le lt36 hpq14)
  have ne61 : an ≠ x5 := Nat.ne_of_lt (Nat.lt_of_lt_of_le lt37 hpq14)
  have sz62 : h0.size ≤ x5 := Nat.le_trans K0.1 hpq14
  obtain ⟨T63, X63, e63, st63⟩ := getF X1 hx hZ hown (host := "") (Or.inl (own_w hw 12 rfl)) Via.refl rfl F21 (g := (mkF m 6 #[.val (.ref dd), .val (.int lev)] [(.ref dd)])) rfl rfl (hb hby d4_6)
  have oc64 := G30
  obtain ⟨c64, Arc64, Sc64, Hc64⟩ := oc64
  have hin65 : ¬ (lev < 0 ∨ c64.slots.size ≤ (lev).toNatClampNeg) := (own_ix_in Sc64 hl)
  obtain ⟨T65, h65, X65, e65, W65, st65⟩ := stZ X63 hx hZ e63 Arc64 (j := lev) hin65 (g := (mkF m 11 #[.val (.ref dd), .val (.int lev)] [(.int (1 : Int32)), (.int lev), (.ref x2)])) rfl rfl (hb hby d4_11)
  have V65 : own_Fa Value.int .boolean Z h65 x2 16 (own_up (fun _ => (0 : Int32)) ln (1 : Int32)) := own_Fa_setk Arc64 Sc64 Hc64 W65 (own_ix_nat hl)
  have E66 := E38.wr W65
  have A67 := A39.other W65 ne44
  have A68 := A40.other W65 ne45
  have A69 := A41.other W65 ne46
  have F70 := F21.other W65 (Or.inl ne43)
  have F71 := F22.other W65 (Or.inl ne43)
  have F72 := F23.other W65 (Or.inl ne43)
  have F73 := F24.other W65 (Or.inl ne43)
  have F74 := F25.other W65 (Or.inl ne43)
  have F75 := F26.other W65 (Or.inl ne43)
  have F76 := F27.other W65 (Or.inl ne43)
  have F77 := F28.other W65 (Or.inl ne43)
  have F78 := F29.other W65 (Or.inl ne43)
  have G79 := G31.other W65 (Ne.symm hpq15)
  have G80 := G32.other W65 (Ne.symm hpq16)
  have G81 := G33.other W65 (Ne.symm hpq17)
  have N65 := Fr.snoc X65 N1 hpq7
  have K65 : Keep h0 h65 [dd] := K1.wr W65 (Or.inr sz47)
  have Zs82 : n0 ≤ h65.size := (Nat.le_trans Zs42 (Keep.of_wr W65).1)
  have pre83 := fun (t : State) (k : Steps p.tables e below (T65.setTop (mkF m 12 #[.val (.ref dd), .val (.int lev)] [])) t) => pre0 t (by
    refine XS.aloadN X0.here hx rfl (hb hby d4_0) rfl rfl ?_
    refine XS.iloadN X0.here hx rfl (hb hby d4_1) rfl ?_
    refine st1.trans ?_
    refine XS.aloadN X1.here hx rfl (hb hby d4_5) rfl rfl ?_
    refine st63 _ ?_
    refine XS.iloadN X63.here hx rfl (hb hby d4_9) rfl ?_
    refine XS.iconst X63.here hx rfl (hb hby d4_10) ?_
    refine st65 _ ?_
    exact k)
  obtain ⟨fs, hr, hrun, hended, hW, hsame⟩ := X65.leave (v := none) (hlocks := BodyLoose.notSynchronized Bd) (fun _ => rfl)
  refine ⟨_, _, pre83 _ ?_, hrun, hended, _, _, rfl, ?_, ⟨_, rfl⟩, hW, hsame.mono (by decide) (by decide)⟩
  · exact X65.returnOut hx Bd.returns (hb hby d4_12) hr
  · show Q_bm Z dd oo ab al an kb kl ki lev ln h0 n0 _ T65.heap _
    rw [e65]
    exact ⟨x2, x3, x4, x5, rfl, N65, K65, hpq7, sz47, hpq9, sz52, hpq11, sz57, hpq13, sz62, hpq15, hpq16, hpq17, hpq18, hpq19, hpq20, F70, F71, F72, F73, F74, F75, F76, F77, F78, V65, G79, G80, G81⟩

theorem ef_gs (m : MethodId) (x0 : Addr) (x1 : Int32) : entryFrame m #[(.ref x0), (.int x1)] 2 = mkF m 0 #[.val (.ref x0), .val (.int x1)] [] := by first | (simp [entryFrame, mkF, argsToLocals, Value.category]; done) | rfl
def Q_gs (Z : State) (dd : Addr) (am : Addr) (mg : Nat → Int32) (lev : Int32) (ln : Nat) (h0 : Heap) (n0 : Nat) (v : Option Value) (h : Heap) (L : List Loc) : Prop := v = some (.int (own_gr (mg ln))) ∧ Fr n0 L ∧ h = h0
set_option maxRecDepth 65536 in
set_option maxHeartbeats 40000000 in
theorem rm_gs (l : Launch) (Z : State) (a0 : Array Value) (hw : ∀ d ∈ tables_1, d.before a0 Z = true) (ws : List Jvm.Cond) (dd : Addr) (am : Addr) (mg : Nat → Int32) (lev : Int32) (ln : Nat) (h0 : Heap) (n0 : Nat) (Z0 : n0 ≤ h0.size) (H0_F : Fld Z h0 dd "com/example/fieldglass/fieldglass/io/Marks" "messages" "[Z" (.ref am)) (H1_G : own_Fa Value.int .boolean Z h0 am 16 mg) (hl : own_ix lev ln) :
    MetFree l (⟨"com/example/fieldglass/fieldglass/io/Marks", "groupSites", "(I)I"⟩ : MethodName) (head1 (Jvm.Cond.code (⟨"com/example/fieldglass/fieldglass/io/Marks", "groupSites", "(I)I"⟩ : MethodName) prog_13_method_9_code 2 (some .int) :: ws) ({ frames := 0, cells := 0, slots := 0, locals := 0 } : Room)) (fun as_ U_ => as_ = #[(.ref dd), (.int lev)] ∧ Z.Warmed39 U_.vm ∧ U_.heap = h0) (fun _ _ _ _ _ => True) (fun _ U o U' => ∃ v L, o = .returned v ∧ Q_gs Z dd am mg lev ln h0 n0 v U'.heap L ∧ FrameEnd U o U' L ({ frames := 0, cells := 0, slots := 0, locals := 0 } : Room).cells ({ frames := 0, cells := 0, slots := 0, locals := 0 } : Room).slots) := by
  refine MetFree.of_bodySF (plainFor_of_name pn_2) hisR ?_
  intro p e s m args below meth c s₁ Bd hml0 hP hK
  obtain ⟨rfl, hZ, hhp_⟩ := hP
  have hx := Bd.exec
  have hby := Bd.bytes
  have hml : c.maxLocals = 2 := hml0
  have hown : s.vm.findClass "com/example/fieldglass/fieldglass/io/Marks" = some m.cls := findClass_of_methodNamed Bd.named
  have hnm := (name_of_methodNamed Bd.named Bd.method).1
  have X0 : Stand p l e ({ frames := 0, cells := 0, slots := 0, locals := 0 } : Room) s m #[(.ref dd), (.int lev)] below meth c s₁ [] 0 0 := Stand.of_body Bd
  have e0 : s₁.heap = h0 := by rw [← hhp_, Bd.state]; rfl
  have N0 := Fr.nil n0
  have pre0 : ∀ t, Steps p.tables e below (s₁.setTop (mkF m 0 #[.val (.ref dd), .val (.int lev)] [])) t → Steps p.tables e below (s₁.setTop (entryFrame m #[(.ref dd), (.int lev)] 2)) t := fun t k => castTop (ef_gs m dd lev) k
  obtain ⟨T1, X1, e1, st1⟩ := getF X0 hx hZ hown (host := "") (Or.inl (own_w hw 12 rfl)) Via.refl e0 H0_F (g := (mkF m 1 #[.val (.ref dd), .val (.int lev)] [(.ref dd)])) rfl rfl (hb hby d14_1)
  have oc2 := H1_G
  obtain ⟨c2, Arc2, Sc2, Hc2⟩ := oc2
  have hin3 : ¬ (lev < 0 ∨ c2.slots.size ≤ (lev).toNatClampNeg) := (own_ix_in Sc2 hl)
  have pre4 := fun (t : State) (k : Steps p.tables e below (T1.setTop (mkF m 6 #[.val (.ref dd), .val (.int lev)] [(.int (mg ln))])) t) => pre0 t (by
    refine XS.aloadN X0.here hx rfl (hb hby d14_0) rfl rfl ?_
    refine st1 _ ?_
    refine XS.iloadN X1.here hx rfl (hb hby d14_4) rfl ?_
    refine X1.baloadBooleans hx (j := lev) (v := (.int (mg ln))) (by rw [e1]; exact Arc2.1) (State.isArrayOf_alike hZ.alike Arc2.2.1) Arc2.2.2 hin3 (own_at Hc2 (own_ix_nat hl) (own_inn Sc2 hin3)) (g := (mkF m 5 #[.val (.ref dd), .val (.int lev)] [(.int lev), (.ref am)])) rfl rfl (hb hby d14_5) _ ?_
    exact k)
  by_cases hc5 : (mg ln) = (0 : Int32)
  · have pre6 := fun (t : State) (k : Steps p.tables e below (T1.setTop (mkF m 14 #[.val (.ref dd), .val (.int lev)] [(.int (1 : Int32))])) t) => pre4 t (by
      refine XS.ifYes X1.here hx rfl (pc0 := 6) (pc' := 13) rfl (hb hby d14_6) rfl ((if0 _ _).trans (teq hc5).1) (by decide) (by decide) ?_
      refine XS.iconst X1.here hx rfl (hb hby d14_13) ?_
      exact k)
    obtain ⟨fs, hr, hrun, hended, hW, hsame⟩ := X1.leave (v := some (.int (1 : Int32))) (hlocks := BodyLoose.notSynchronized Bd) (fun h => by rw [Bd.returns] at h; cases h)
    refine ⟨_, _, pre6 _ ?_, hrun, hended, _, _, rfl, ?_, ⟨_, rfl⟩, hW, hsame.mono (by decide) (by decide)⟩
    · exact retI X1 hx Bd.returns (hb hby d14_14) hr
    · show Q_gs Z dd am mg lev ln h0 n0 _ T1.heap _
      rw [e1]
      exact ⟨(by simp only [own_gr]; first | rw [if_pos (by assumption)] | rw [if_neg (by assumption)]), N0, rfl⟩
  · have pre7 := fun (t : State) (k : Steps p.tables e below (T1.setTop (mkF m 14 #[.val (.ref dd), .val (.int lev)] [(.int (0 : Int32))])) t) => pre4 t (by
      refine XS.ifNo X1.here hx rfl (hb hby d14_6) rfl ((if0 _ _).trans (feq hc5).1) ?_
      refine XS.iconst X1.here hx rfl (hb hby d14_9) ?_
      refine XS.goto X1.here hx rfl (pc0 := 10) (pc' := 14) rfl (hb hby d14_10) (by decide) (by decide) ?_
      exact k)
    obtain ⟨fs, hr, hrun, hended, hW, hsame⟩ := X1.leave (v := some (.int (0 : Int32))) (hlocks := BodyLoose.notSynchronized Bd) (fun h => by rw [Bd.returns] at h; cases h)
    refine ⟨_, _, pre7 _ ?_, hrun, hended, _, _, rfl, ?_, ⟨_, rfl⟩, hW, hsame.mono (by decide) (by decide)⟩
    · exact retI X1 hx Bd.returns (hb hby d14_14) hr
    · show Q_gs Z dd am mg lev ln h0 n0 _ T1.heap _
      rw [e1]
      exact ⟨(by simp only [own_gr]; first | rw [if_pos (by assumption)] | rw [if_neg (by assumption)]), N0, rfl⟩

theorem ef_osz (m : MethodId) (x0 : Addr) : entryFrame m #[(.ref x0)] 1 = mkF m 0 #[.val (.ref x0)] [] := by first | (simp [entryFrame, mkF, argsToLocals, Value.category]; done) | rfl
def Q_osz (Z : State) (oo : Addr) (cn : Int32) (h0 : Heap) (n0 : Nat) (v : Option Value) (h : Heap) (L : List Loc) : Prop := v = some (.long (own_sz cn)) ∧ Fr n0 L ∧ h = h0
set_option maxRecDepth 65536 in
set_option maxHeartbeats 40000000 in
theorem rm_osz (l : Launch) (Z : State) (a0 : Array Value) (hw : ∀ d ∈ tables_1, d.before a0 Z = true) (ws : List Jvm.Cond) (oo : Addr) (cn : Int32) (h0 : Heap) (n0 : Nat) (Z0 : n0 ≤ h0.size) (H0_F : Fld Z h0 oo "com/example/fieldglass/fieldglass/io/Marks$Order" "spilled" "J" (.long (0 : Int64))) (H1_F : Fld Z h0 oo "com/example/fieldglass/fieldglass/io/Marks$Order" "count" "I" (.int cn)) :
    MetFree l (⟨"com/example/fieldglass/fieldglass/io/Marks$Order", "size", "()J"⟩ : MethodName) (head1 (Jvm.Cond.code (⟨"com/example/fieldglass/fieldglass/io/Marks$Order", "size", "()J"⟩ : MethodName) prog_14_method_2_code 1 (some .long) :: ws) ({ frames := 0, cells := 0, slots := 0, locals := 0 } : Room)) (fun as_ U_ => as_ = #[(.ref oo)] ∧ Z.Warmed39 U_.vm ∧ U_.heap = h0) (fun _ _ _ _ _ => True) (fun _ U o U' => ∃ v L, o = .returned v ∧ Q_osz Z oo cn h0 n0 v U'.heap L ∧ FrameEnd U o U' L ({ frames := 0, cells := 0, slots := 0, locals := 0 } : Room).cells ({ frames := 0, cells := 0, slots := 0, locals := 0 } : Room).slots) := by
  refine MetFree.of_bodySF (plainFor_of_name pn_1) hisR ?_
  intro p e s m args below meth c s₁ Bd hml0 hP hK
  obtain ⟨rfl, hZ, hhp_⟩ := hP
  have hx := Bd.exec
  have hby := Bd.bytes
  have hml : c.maxLocals = 1 := hml0
  have hown : s.vm.findClass "com/example/fieldglass/fieldglass/io/Marks$Order" = some m.cls := findClass_of_methodNamed Bd.named
  have hnm := (name_of_methodNamed Bd.named Bd.method).1
  have X0 : Stand p l e ({ frames := 0, cells := 0, slots := 0, locals := 0 } : Room) s m #[(.ref oo)] below meth c s₁ [] 0 0 := Stand.of_body Bd
  have e0 : s₁.heap = h0 := by rw [← hhp_, Bd.state]; rfl
  have N0 := Fr.nil n0
  have pre0 : ∀ t, Steps p.tables e below (s₁.setTop (mkF m 0 #[.val (.ref oo)] [])) t → Steps p.tables e below (s₁.setTop (entryFrame m #[(.ref oo)] 1)) t := fun t k => castTop (ef_osz m oo) k
  obtain ⟨T1, X1, e1, st1⟩ := getF X0 hx hZ hown (host := "") (Or.inl (own_w hw 109 rfl)) Via.refl e0 H0_F (g := (mkF m 1 #[.val (.ref oo)] [(.ref oo)])) rfl rfl (hb hby d16_1)
  obtain ⟨T2, X2, e2, st2⟩ := getF X1 hx hZ hown (host := "") (Or.inl (own_w hw 111 rfl)) Via.refl e1 H1_F (g := (mkF m 5 #[.val (.ref oo)] [(.ref oo), (.long (0 : Int64))])) rfl rfl (hb hby d16_5)
  have pre3 := fun (t : State) (k : Steps p.tables e below (T2.setTop (mkF m 10 #[.val (.ref oo)] [(.long ((0 : Int64) + (cn.toInt64)))])) t) => pre0 t (by
    refine XS.aloadN X0.here hx rfl (hb hby d16_0) rfl rfl ?_
    refine st1 _ ?_
    refine XS.aloadN X1.here hx rfl (hb hby d16_4) rfl rfl ?_
    refine st2 _ ?_
    refine XS.i2l X2.here hx rfl (hb hby d16_8) rfl ?_
    refine XS.ladd X2.here hx rfl (hb hby d16_9) rfl ?_
    exact k)
  obtain ⟨fs, hr, hrun, hended, hW, hsame⟩ := X2.leave (v := some (.long ((0 : Int64) + (cn.toInt64)))) (hlocks := BodyLoose.notSynchronized Bd) (fun h => by rw [Bd.returns] at h; cases h)
  refine ⟨_, _, pre3 _ ?_, hrun, hended, _, _, rfl, ?_, ⟨_, rfl⟩, hW, hsame.mono (by decide) (by decide)⟩
  · exact retJ X2 hx Bd.returns (hb hby d16_10) hr
  · show Q_osz Z oo cn h0 n0 _ T2.heap _
    rw [e2]
    exact ⟨rfl, N0, rfl⟩

theorem ef_mkr (m : MethodId) (x0 : Addr) : entryFrame m #[(.ref x0)] 1 = mkF m 0 #[.val (.ref x0)] [] := by first | (simp [entryFrame, mkF, argsToLocals, Value.category]; done) | rfl
def Q_mkr (Z : State) (oo : Addr) (al : Addr) (kl : ClassId) (h0 : Heap) (n0 : Nat) (v : Option Value) (h : Heap) (L : List Loc) : Prop := ∃ ah : Addr, v = none ∧ Fr n0 L ∧ Keep h0 h [oo] ∧ n0 ≤ ah ∧ h0.size ≤ ah ∧ Fld Z h oo "com/example/fieldglass/fieldglass/io/Marks$Order" "held" "[J" (.ref ah) ∧ Fld Z h oo "com/example/fieldglass/fieldglass/io/Marks$Order" "count" "I" (.int (0 : Int32)) ∧ Fld Z h oo "com/example/fieldglass/fieldglass/io/Marks$Order" "spilled" "J" (.long (0 : Int64)) ∧ Fld Z h oo "com/example/fieldglass/fieldglass/io/Marks$Order" "read" "J" (.long (0 : Int64)) ∧ own_Fa Value.long .long Z h ah 16 (fun _ => (0 : Int64))
set_option maxRecDepth 65536 in
set_option maxHeartbeats 40000000 in
theorem rm_mkr (l : Launch) (Z : State) (a0 : Array Value) (hw : ∀ d ∈ tables_1, d.before a0 Z = true) (ws : List Jvm.Cond) (oo : Addr) (al : Addr) (kl : ClassId) (h0 : Heap) (n0 : Nat) (Z0 : n0 ≤ h0.size) (H0_E : Exa Z h0 oo "com/example/fieldglass/fieldglass/io/Marks$Order") (H1_F : Fld Z h0 oo "com/example/fieldglass/fieldglass/io/Marks$Order" "held" "[J" (.ref al)) (H2_F : Fld Z h0 oo "com/example/fieldglass/fieldglass/io/Marks$Order" "count" "I" (.int (0 : Int32))) (H3_F : Fld Z h0 oo "com/example/fieldglass/fieldglass/io/Marks$Order" "spilled" "J" (.long (0 : Int64))) (H4_F : Fld Z h0 oo "com/example/fieldglass/fieldglass/io/Marks$Order" "read" "J" (.long (0 : Int64))) (H5_A : Arv Z h0 al kl .long (0 : Int32) [] (.long (0 : Int64))) (hoo : n0 ≤ oo) (hn1 : oo ≠ al) :
    MetFree l (⟨"com/example/fieldglass/fieldglass/io/Marks$Order", "makeRoom", "()V"⟩ : MethodName) (head1 (Jvm.Cond.code (⟨"com/example/fieldglass/fieldglass/io/Marks$Order", "makeRoom", "()V"⟩ : MethodName) prog_14_method_5_code 1 none :: ws) ({ frames := 2, cells := 1, slots := 16, locals := 33 } : Room)) (fun as_ U_ => as_ = #[(.ref oo)] ∧ Z.Warmed39 U_.vm ∧ U_.heap = h0) (fun _ _ _ _ _ => True) (fun _ U o U' => ∃ v L, o = .returned v ∧ Q_mkr Z oo al kl h0 n0 v U'.heap L ∧ FrameEnd U o U' L ({ frames := 2, cells := 1, slots := 16, locals := 33 } : Room).cells ({ frames := 2, cells := 1, slots := 16, locals := 33 } : Room).slots) := by
  refine MetFree.of_bodySF (plainFor_of_name pn_1) hisR ?_
  intro p e s m args below meth c s₁ Bd hml0 hP hK
  obtain ⟨rfl, hZ, hhp_⟩ := hP
  have hx := Bd.exec
  have hby := Bd.bytes
  have hml : c.maxLocals = 1 := hml0
  have hown : s.vm.findClass "com/example/fieldglass/fieldglass/io/Marks$Order" = some m.cls := findClass_of_methodNamed Bd.named
  have hnm := (name_of_methodNamed Bd.named Bd.method).1
  have X0 : Stand p l e ({ frames := 2, cells := 1, slots := 16, locals := 33 } : Room) s m #[(.ref oo)] below meth c s₁ [] 0 0 := Stand.of_body Bd
  have e0 : s₁.heap = h0 := by rw [← hhp_, Bd.state]; rfl
  have N0 := Fr.nil n0
  have pre0 : ∀ t, Steps p.tables e below (s₁.setTop (mkF m 0 #[.val (.ref oo)] [])) t → Steps p.tables e below (s₁.setTop (entryFrame m #[(.ref oo)] 1)) t := fun t k => castTop (ef_mkr m oo) k
  have K0 : Keep h0 h0 [oo] := Keep.refl h0 [oo]
  obtain ⟨T1, X1, e1, st1⟩ := getF X0 hx hZ hown (host := "") (Or.inl (own_w hw 36 rfl)) Via.refl e0 H1_F (g := (mkF m 1 #[.val (.ref oo)] [(.ref oo)])) rfl rfl (hb hby d18_1)
  have oc2 := H5_A
  obtain ⟨c2, Arc2, qc2, Sc2, Nc2, Hc2, Gc2⟩ := oc2
  obtain ⟨T3, X3, e3, st3⟩ := getF X1 hx hZ hown (host := "") (Or.inl (own_w hw 36 rfl)) Via.refl e1 H1_F (g := (mkF m 20 #[.val (.ref oo)] [(.ref oo), (.ref oo)])) rfl rfl (hb hby d18_20)
  obtain ⟨T4, X4, e4, st4⟩ := getF X3 hx hZ hown (host := "") (Or.inl (own_w hw 36 rfl)) Via.refl e3 H1_F (g := (mkF m 27 #[.val (.ref oo)] [(.ref oo), (.int (2 : Int32)), (.int (16 : Int32)), (.ref al), (.ref oo)])) rfl rfl (hb hby d18_27)
  have oc5 := H5_A
  obtain ⟨c5, Arc5, qc5, Sc5, Nc5, Hc5, Gc5⟩ := oc5
  obtain ⟨_, _, ⟨T6, L6, k6, n6⟩, -, X6, ⟨Lc6, hQ6, l6, y6, z6⟩, st6⟩ := Jvm.LawKit.callS X4 hx (y := (⟨"java/lang/Math", "max", "(II)I"⟩ : MethodName)) hown (mvT hZ (own_w hw 122 rfl)) (mvT hZ (own_w hw 55 rfl)) (mvT hZ (own_w hw 56 rfl)) (mvT hZ (own_w hw 57 rfl)) (by decide) (backOf (W := 2) (rm_mxr l Z a0 hw [] (16 : Int32) (0 : Int32) (16 : Int32) h0 n0 Z0 (by decide) (by decide)) hZ (own_w hw 57 rfl) (own_w hw 56 rfl) (by decide) (by decide)) (g := (mkF m 32 #[.val (.ref oo)] [(.int (0 : Int32)), (.int (16 : Int32)), (.ref al), (.ref oo)])) rfl (by rw [hml]; rfl) (argsL := [(.int (16 : Int32)), (.int (0 : Int32))]) (rest := [(.ref al), (.ref oo)]) (lenOf pd_0 rfl) rfl (by show 2 * 0 + _ ≤ _; exact Nat.le_of_eq rfl) (hb hby d18_32) (fun _ _ => ⟨rfl, e4, (by decide : 0 + 0 ≤ _), (by decide : 0 + 0 ≤ _)⟩)
  dsimp only [Pt.U, Pt.locs, Pt.cells, Pt.slots] at X6 l6 y6 z6 st6 hQ6
  subst l6 y6 z6
  obtain ⟨rfl, N6q, hq7⟩ := hQ6
  have N6 := Fr.app N0 N6q
  obtain ⟨_, _, ⟨T8, L8, k8, n8⟩, -, X8, ⟨Lc8, hQ8, l8, y8, z8⟩, st8⟩ := Jvm.LawKit.callS X6 hx (y := (⟨"java/util/Arrays", "copyOf", "([JI)[J"⟩ : MethodName)) hown (mvT hZ (own_w hw 123 rfl)) (mvT hZ (own_w hw 71 rfl)) (mvT hZ (own_w hw 60 rfl)) (mvT hZ (own_w hw 72 rfl)) (by decide) (backOf (W := 1) (rm_cpJ l Z a0 hw [] al kl h0 n0 Z0 H5_A) hZ (own_w hw 72 rfl) (own_w hw 60 rfl) (by decide) (by decide)) (g := (mkF m 35 #[.val (.ref oo)] [(.int (16 : Int32)), (.ref al), (.ref oo)])) rfl (by rw [hml]; rfl) (argsL := [(.ref al), (.int (16 : Int32))]) (rest := [(.ref oo)]) (lenOf pd_3 rfl) rfl (by show 2 * 0 + _ ≤ _; exact Nat.le_of_eq rfl) (hb hby d18_35) (fun _ _ => ⟨rfl, hq7, (by decide : 0 + 1 ≤ _), (by decide : 0 + 16 ≤ _)⟩)
  dsimp only [Pt.U, Pt.locs, Pt.cells, Pt.slots] at X8 l8 y8 z8 st8 hQ8
  subst l8 y8 z8
  obtain ⟨x9, rfl, N8q, hq10, hpq11, hpq12, G13⟩ := hQ8
  have N8 := Fr.app N6 N8q
  have lt14 : oo < h0.size := H0_E.lt
  have lt15 : al < h0.size := H5_A.lt
  have E16 := H0_E.keep hq10
  have F17 := H1_F.keep hq10 nin0
  have F18 := H2_F.keep hq10 nin0
  have F19 := H3_F.keep hq10 nin0
  have F20 := H4_F.keep hq10 nin0
  have A21 := H5_A.keep hq10 nin0
  have K8 : Keep h0 T8.heap [oo] := K0.trans hq10 all0
  have Zs22 : n0 ≤ T8.heap.size := (Nat.le_trans Z0 hq10.1)
  have ne23 : oo ≠ x9 := Nat.ne_of_lt (Nat.lt_of_lt_of_le lt14 hpq12)
  have ne24 : al ≠ x9 := Nat.ne_of_lt (Nat.lt_of_lt_of_le lt15 hpq12)
  have sz25 : h0.size ≤ x9 := Nat.le_trans K0.1 hpq12
  obtain ⟨T26, h26, X26, e26, W26, st26⟩ := putF X8 hx hZ hown (host := "") (Or.inl (own_w hw 36 rfl)) Via.refl rfl F17 E16 (Or.inl (own_w hw 37 rfl)) (own_w hw 29 rfl) (ty := (.array .long)) (by decide) rfl rfl (g := (mkF m 38 #[.val (.ref oo)] [(.ref x9), (.ref oo)])) rfl rfl (hb hby d18_38)
  have Fw26 : Fld Z h26 oo "com/example/fieldglass/fieldglass/io/Marks$Order" "held" "[J" (.ref x9) := F17.same W26
  have E27 := E16.wr W26
  have F28 := F18.other W26 (Or.inr (slot_ne (Or.inl (own_w hw 112 rfl)) (Or.inl (own_w hw 37 rfl)) (by decide) (t := .int) (t' := (.array .long)) (by decide) (by decide)))
  have F29 := F19.other W26 (Or.inr (slot_ne (Or.inl (own_w hw 110 rfl)) (Or.inl (own_w hw 37 rfl)) (by decide) (t := .long) (t' := (.array .long)) (by decide) (by decide)))
  have F30 := F20.other W26 (Or.inr (slot_ne (Or.inl (own_w hw 151 rfl)) (Or.inl (own_w hw 37 rfl)) (by decide) (t := .long) (t' := (.array .long)) (by decide) (by decide)))
  have A31 := A21.other W26 (Ne.symm hn1)
  have G32 := G13.other W26 (Ne.symm ne23)
  have N26 := Fr.snoc X26 N8 hoo
  have K26 : Keep h0 h26 [oo] := K8.wr W26 (Or.inl (List.mem_of_getElem? (i := 0) rfl))
  have Zs33 : n0 ≤ h26.size := (Nat.le_trans Zs22 (Keep.of_wr W26).1)
  have pre34 := fun (t : State) (k : Steps p.tables e below (T26.setTop (mkF m 41 #[.val (.ref oo)] [])) t) => pre0 t (by
    refine XS.aloadN X0.here hx rfl (hb hby d18_0) rfl rfl ?_
    refine st1 _ ?_
    refine X1.arraylength hx (by rw [e1]; exact Arc2.1) (State.isArrayOf_alike hZ.alike Arc2.2.1) (g := (mkF m 4 #[.val (.ref oo)] [(.ref al)])) rfl rfl (hb hby d18_4) _ ?_
    rw [show c2.slots.size.toInt32 = (0 : Int32) from (len_of Sc2 Nc2)]
    refine XS.sipush X1.here hx rfl (hb hby d18_5) ?_
    refine XS.icmpYes X1.here hx rfl (pc0 := 8) (pc' := 18) rfl (hb hby d18_8) rfl (tlt (by decide : (0 : Int32) < (8192 : Int32))).1 (by decide) (by decide) ?_
    refine XS.aloadN X1.here hx rfl (hb hby d18_18) rfl rfl ?_
    refine XS.aloadN X1.here hx rfl (hb hby d18_19) rfl rfl ?_
    refine st3 _ ?_
    refine XS.bipush X3.here hx rfl (hb hby d18_23) ?_
    refine XS.iconst X3.here hx rfl (hb hby d18_25) ?_
    refine XS.aloadN X3.here hx rfl (hb hby d18_26) rfl rfl ?_
    refine st4 _ ?_
    refine X4.arraylength hx (by rw [e4]; exact Arc5.1) (State.isArrayOf_alike hZ.alike Arc5.2.1) (g := (mkF m 30 #[.val (.ref oo)] [(.ref al), (.int (2 : Int32)), (.int (16 : Int32)), (.ref al), (.ref oo)])) rfl rfl (hb hby d18_30) _ ?_
    rw [show c5.slots.size.toInt32 = (0 : Int32) from (len_of Sc5 Nc5)]
    refine XS.imul X4.here hx rfl (hb hby d18_31) rfl ?_
    refine st6 _ ?_
    refine st8 _ ?_
    refine st26 _ ?_
    exact k)
  obtain ⟨fs, hr, hrun, hended, hW, hsame⟩ := X26.leave (v := none) (hlocks := BodyLoose.notSynchronized Bd) (fun _ => rfl)
  refine ⟨_, _, pre34 _ ?_, hrun, hended, _, _, rfl, ?_, ⟨_, rfl⟩, hW, hsame.mono (by decide) (by decide)⟩
  · exact X26.returnOut hx Bd.returns (hb hby d18_41) hr
  · show Q_mkr Z oo al kl h0 n0 _ T26.heap _
    rw [e26]
    exact ⟨x9, rfl, N26, K26, hpq11, sz25, Fw26, F28, F29, F30, G32⟩

theorem ef_ap (m : MethodId) (x0 : Addr) (x1 : Int32) : entryFrame m #[(.ref x0), (.int x1)] 3 = mkF m 0 #[.val (.ref x0), .val (.int x1), .unset] [] := by first | (simp [entryFrame, mkF, argsToLocals, Value.category]; done) | rfl
def Q_ap (Z : State) (oo : Addr) (ah : Addr) (hd : Nat → Int64) (cn : Int32) (cz : Nat) (kq : Int32) (h0 : Heap) (n0 : Nat) (v : Option Value) (h : Heap) (L : List Loc) : Prop := ∃ hd' : Nat → Int64, ∃ cn' : Int32, v = none ∧ Fr n0 L ∧ Keep h0 h [oo, ah] ∧ own_ap hd hd' cz kq cn' ∧ Fld Z h oo "com/example/fieldglass/fieldglass/io/Marks$Order" "held" "[J" (.ref ah) ∧ Fld Z h oo "com/example/fieldglass/fieldglass/io/Marks$Order" "count" "I" (.int cn') ∧ Fld Z h oo "com/example/fieldglass/fieldglass/io/Marks$Order" "spilled" "J" (.long (0 : Int64)) ∧ Fld Z h oo "com/example/fieldglass/fieldglass/io/Marks$Order" "read" "J" (.long (0 : Int64)) ∧ own_Fa Value.long .long Z h ah 16 hd'
set_option maxRecDepth 65536 in
set_option maxHeartbeats 40000000 in
theorem rm_ap (l : Launch) (Z : State) (a0 : Array Value) (hw : ∀ d ∈ tables_1, d.before a0 Z = true) (ws : List Jvm.Cond) (oo : Addr) (ah : Addr) (hd : Nat → Int64) (cn : Int32) (cz : Nat) (kq : Int32) (h0 : Heap) (n0 : Nat) (Z0 : n0 ≤ h0.size) (H0_E : Exa Z h0 oo "com/example/fieldglass/fieldglass/io/Marks$Order") (H1_F : Fld Z h0 oo "com/example/fieldglass/fieldglass/io/Marks$Order" "held" "[J" (.ref ah)) (H2_F : Fld Z h0 oo "com/example/fieldglass/fieldglass/io/Marks$Order" "count" "I" (.int cn)) (H3_F : Fld Z h0 oo "com/example/fieldglass/fieldglass/io/Marks$Order" "spilled" "J" (.long (0 : Int64))) (H4_F : Fld Z h0 oo "com/example/fieldglass/fieldglass/io/Marks$Order" "read" "J" (.long (0 : Int64))) (H5_G : own_Fa Value.long .long Z h0 ah 16 hd) (hk : kq = (0 : Int32) ∨ kq = (1 : Int32) ∨ kq = (2 : Int32)) (hcz : cn.toInt = (cz : Int)) (hr_ : (cz : Int) + kq.toInt ≤ 16) (hoo : n0 ≤ oo) (hah : n0 ≤ ah) (hn1 : oo ≠ ah) :
    MetFree l (⟨"com/example/fieldglass/fieldglass/io/Marks$Order", "appendUnmarked", "(I)V"⟩ : MethodName) (head1 (Jvm.Cond.code (⟨"com/example/fieldglass/fieldglass/io/Marks$Order", "appendUnmarked", "(I)V"⟩ : MethodName) prog_14_method_3_code 3 none :: ws) ({ frames := 0, cells := 0, slots := 0, locals := 0 } : Room)) (fun as_ U_ => as_ = #[(.ref oo), (.int kq)] ∧ Z.Warmed39 U_.vm ∧ U_.heap = h0) (fun _ _ _ _ _ => True) (fun _ U o U' => ∃ v L, o = .returned v ∧ Q_ap Z oo ah hd cn cz kq h0 n0 v U'.heap L ∧ FrameEnd U o U' L ({ frames := 0, cells := 0, slots := 0, locals := 0 } : Room).cells ({ frames := 0, cells := 0, slots := 0, locals := 0 } : Room).slots) := by
  refine MetFree.of_bodySF (plainFor_of_name pn_1) hisR ?_
  intro p e s m args below meth c s₁ Bd hml0 hP hK
  obtain ⟨rfl, hZ, hhp_⟩ := hP
  have hx := Bd.exec
  have hby := Bd.bytes
  have hml : c.maxLocals = 3 := hml0
  have hown : s.vm.findClass "com/example/fieldglass/fieldglass/io/Marks$Order" = some m.cls := findClass_of_methodNamed Bd.named
  have hnm := (name_of_methodNamed Bd.named Bd.method).1
  have X0 : Stand p l e ({ frames := 0, cells := 0, slots := 0, locals := 0 } : Room) s m #[(.ref oo), (.int kq)] below meth c s₁ [] 0 0 := Stand.of_body Bd
  have e0 : s₁.heap = h0 := by rw [← hhp_, Bd.state]; rfl
  have N0 := Fr.nil n0
  have pre0 : ∀ t, Steps p.tables e below (s₁.setTop (mkF m 0 #[.val (.ref oo), .val (.int kq), .unset] [])) t → Steps p.tables e below (s₁.setTop (entryFrame m #[(.ref oo), (.int kq)] 3)) t := fun t k => castTop (ef_ap m oo kq) k
  have K0 : Keep h0 h0 [oo, ah] := Keep.refl h0 [oo, ah]
  have hk_ := hk
  rcases hk_ with rfl | rfl | rfl
  · have pre1 := fun (t : State) (k : Steps p.tables e below (s₁.setTop (mkF m 48 #[.val (.ref oo), .val (.int (0 : Int32)), .val (.int (0 : Int32))] [])) t) => pre0 t (by
      refine XS.iconst X0.here hx rfl (hb hby d17_0) ?_
      refine XS.istoreN X0.here hx rfl (hb hby d17_1) rfl (l' := #[.val (.ref oo), .val (.int (0 : Int32)), .val (.int (0 : Int32))]) rfl ?_
      refine XS.iloadN X0.here hx rfl (hb hby d17_2) rfl ?_
      refine XS.iloadN X0.here hx rfl (hb hby d17_3) rfl ?_
      refine XS.icmpYes X0.here hx rfl (pc0 := 4) (pc' := 48) rfl (hb hby d17_4) rfl (flt (by decide : ¬ ((0 : Int32) < (0 : Int32)))).2.1 (by decide) (by decide) ?_
      exact k)
    obtain ⟨fs, hr, hrun, hended, hW, hsame⟩ := X0.leave (v := none) (hlocks := BodyLoose.notSynchronized Bd) (fun _ => rfl)
    refine ⟨_, _, pre1 _ ?_, hrun, hended, _, _, rfl, ?_, ⟨_, rfl⟩, hW, hsame.mono (by decide) (by decide)⟩
    · exact X0.returnOut hx Bd.returns (hb hby d17_48) hr
    · show Q_ap Z oo ah hd cn cz (0 : Int32) h0 n0 _ s₁.heap _
      rw [e0]
      exact ⟨hd, cn, rfl, N0, K0, (own_ap0 hcz), H1_F, H2_F, H3_F, H4_F, H5_G⟩
  · obtain ⟨T2, X2, e2, st2⟩ := getF X0 hx hZ hown (host := "") (Or.inl (own_w hw 111 rfl)) Via.refl e0 H2_F (g := (mkF m 8 #[.val (.ref oo), .val (.int (1 : Int32)), .val (.int (0 : Int32))] [(.ref oo)])) rfl rfl (hb hby d17_8)
    obtain ⟨T3, X3, e3, st3⟩ := getF X2 hx hZ hown (host := "") (Or.inl (own_w hw 36 rfl)) Via.refl e2 H1_F (g := (mkF m 12 #[.val (.ref oo), .val (.int (1 : Int32)), .val (.int (0 : Int32))] [(.ref oo), (.int cn)])) rfl rfl (hb hby d17_12)
    have oc4 := H5_G
    obtain ⟨c4, Arc4, Sc4, Hc4⟩ := oc4
    have hx1 : own_ix cn cz := own_apx1 (kq := (1 : Int32)) hcz hr_ (by decide)
    obtain ⟨T5, X5, e5, st5⟩ := getF X3 hx hZ hown (host := "") (Or.inl (own_w hw 36 rfl)) Via.refl e3 H1_F (g := (mkF m 24 #[.val (.ref oo), .val (.int (1 : Int32)), .val (.int (0 : Int32))] [(.ref oo)])) rfl rfl (hb hby d17_24)
    obtain ⟨T6, X6, e6, st6⟩ := getF X5 hx hZ hown (host := "") (Or.inl (own_w hw 111 rfl)) Via.refl e5 H2_F (g := (mkF m 29 #[.val (.ref oo), .val (.int (1 : Int32)), .val (.int (0 : Int32))] [(.ref oo), (.ref oo), (.ref ah)])) rfl rfl (hb hby d17_29)
    obtain ⟨T7, h7, X7, e7, W7, st7⟩ := putF X6 hx hZ hown (host := "") (Or.inl (own_w hw 111 rfl)) Via.refl e6 H2_F H0_E (Or.inl (own_w hw 112 rfl)) (own_w hw 29 rfl) (ty := .int) (by decide) rfl rfl (g := (mkF m 35 #[.val (.ref oo), .val (.int (1 : Int32)), .val (.int (0 : Int32))] [(.int (cn + (1 : Int32))), (.ref oo), (.int cn), (.ref ah)])) rfl rfl (hb hby d17_35)
    have Fw7 : Fld Z h7 oo "com/example/fieldglass/fieldglass/io/Marks$Order" "count" "I" (.int (cn + (1 : Int32))) := H2_F.same W7
    have E8 := H0_E.wr W7
    have F9 := H1_F.other W7 (Or.inr (slot_ne (Or.inl (own_w hw 37 rfl)) (Or.inl (own_w hw 112 rfl)) (by decide) (t := (.array .long)) (t' := .int) (by decide) (by decide)))
    have F10 := H3_F.other W7 (Or.inr (slot_ne (Or.inl (own_w hw 110 rfl)) (Or.inl (own_w hw 112 rfl)) (by decide) (t := .long) (t' := .int) (by decide) (by decide)))
    have F11 := H4_F.other W7 (Or.inr (slot_ne (Or.inl (own_w hw 151 rfl)) (Or.inl (own_w hw 112 rfl)) (by decide) (t := .long) (t' := .int) (by decide) (by decide)))
    have G12 := H5_G.other W7 (Ne.symm hn1)
    have N7 := Fr.snoc X7 N0 hoo
    have K7 : Keep h0 h7 [oo, ah] := K0.wr W7 (Or.inl (List.mem_of_getElem? (i := 0) rfl))
    have Zs13 : n0 ≤ h7.size := (Nat.le_trans Z0 (Keep.of_wr W7).1)
    have oc14 := G12
    obtain ⟨c14, Arc14, Sc14, Hc14⟩ := oc14
    have hin15 : ¬ (cn < 0 ∨ c14.slots.size ≤ (cn).toNatClampNeg) := (own_ix_in Sc14 hx1)
    obtain ⟨T15, h15, X15, e15, W15, st15⟩ := stJ X7 hx hZ e7 Arc14 (j := cn) hin15 (g := (mkF m 41 #[.val (.ref oo), .val (.int (1 : Int32)), .val (.int (0 : Int32))] [(.long (-1 : Int64)), (.int cn), (.ref ah)])) rfl rfl (hb hby d17_41)
    have V15 : own_Fa Value.long .long Z h15 ah 16 (own_up hd cz (-1 : Int64)) := own_Fa_setk Arc14 Sc14 Hc14 W15 (own_ix_nat hx1)
    have E16 := E8.wr W15
    have F17 := F9.other W15 (Or.inl hn1)
    have F18 := F10.other W15 (Or.inl hn1)
    have F19 := F11.other W15 (Or.inl hn1)
    have F20 := Fw7.other W15 (Or.inl hn1)
    have N15 := Fr.snoc X15 N7 hah
    have K15 : Keep h0 h15 [oo, ah] := K7.wr W15 (Or.inl (List.mem_of_getElem? (i := 1) rfl))
    have Zs21 : n0 ≤ h15.size := (Nat.le_trans Zs13 (Keep.of_wr W15).1)
    have pre22 := fun (t : State) (k : Steps p.tables e below (T15.setTop (mkF m 48 #[.val (.ref oo), .val (.int (1 : Int32)), .val (.int (1 : Int32))] [])) t) => pre0 t (by
      refine XS.iconst X0.here hx rfl (hb hby d17_0) ?_
      refine XS.istoreN X0.here hx rfl (hb hby d17_1) rfl (l' := #[.val (.ref oo), .val (.int (1 : Int32)), .val (.int (0 : Int32))]) rfl ?_
      refine XS.iloadN X0.here hx rfl (hb hby d17_2) rfl ?_
      refine XS.iloadN X0.here hx rfl (hb hby d17_3) rfl ?_
      refine XS.icmpNo X0.here hx rfl (hb hby d17_4) rfl (tlt (by decide : (0 : Int32) < (1 : Int32))).2.1 ?_
      refine XS.aloadN X0.here hx rfl (hb hby d17_7) rfl rfl ?_
      refine st2 _ ?_
      refine XS.aloadN X2.here hx rfl (hb hby d17_11) rfl rfl ?_
      refine st3 _ ?_
      refine X3.arraylength hx (by rw [e3]; exact Arc4.1) (State.isArrayOf_alike hZ.alike Arc4.2.1) (g := (mkF m 15 #[.val (.ref oo), .val (.int (1 : Int32)), .val (.int (0 : Int32))] [(.ref ah), (.int cn)])) rfl rfl (hb hby d17_15) _ ?_
      rw [show c4.slots.size.toInt32 = (16 : Int32) from (by rw [Sc4]; rfl)]
      refine XS.icmpYes X3.here hx rfl (pc0 := 16) (pc' := 23) rfl (hb hby d17_16) rfl (feq (own_ne16 hx1)).2 (by decide) (by decide) ?_
      refine XS.aloadN X3.here hx rfl (hb hby d17_23) rfl rfl ?_
      refine st5 _ ?_
      refine XS.aloadN X5.here hx rfl (hb hby d17_27) rfl rfl ?_
      refine XS.dup X5.here hx rfl (hb hby d17_28) rfl rfl ?_
      refine st6 _ ?_
      refine XS.dupX1 X6.here hx rfl (hb hby d17_32) rfl rfl rfl ?_
      refine XS.iconst X6.here hx rfl (hb hby d17_33) ?_
      refine XS.iadd X6.here hx rfl (hb hby d17_34) rfl ?_
      refine st7 _ ?_
      refine X7.ldc2Long hx hown (mvT hZ (own_w hw 124 rfl)) (g := (mkF m 38 #[.val (.ref oo), .val (.int (1 : Int32)), .val (.int (0 : Int32))] [(.int cn), (.ref ah)])) rfl (hb hby d17_38) _ ?_
      refine st15 _ ?_
      refine XS.iinc X15.here hx rfl (hb hby d17_42) rfl (l' := #[.val (.ref oo), .val (.int (1 : Int32)), .val (.int (1 : Int32))]) rfl ?_
      refine XS.goto X15.here hx rfl (pc0 := 45) (pc' := 2) rfl (hb hby d17_45) (by decide) (by decide) ?_
      refine XS.iloadN X15.here hx rfl (hb hby d17_2) rfl ?_
      refine XS.iloadN X15.here hx rfl (hb hby d17_3) rfl ?_
      refine XS.icmpYes X15.here hx rfl (pc0 := 4) (pc' := 48) rfl (hb hby d17_4) rfl (flt (by decide : ¬ ((1 : Int32) < (1 : Int32)))).2.1 (by decide) (by decide) ?_
      exact k)
    obtain ⟨fs, hr, hrun, hended, hW, hsame⟩ := X15.leave (v := none) (hlocks := BodyLoose.notSynchronized Bd) (fun _ => rfl)
    refine ⟨_, _, pre22 _ ?_, hrun, hended, _, _, rfl, ?_, ⟨_, rfl⟩, hW, hsame.mono (by decide) (by decide)⟩
    · exact X15.returnOut hx Bd.returns (hb hby d17_48) hr
    · show Q_ap Z oo ah hd cn cz (1 : Int32) h0 n0 _ T15.heap _
      rw [e15]
      exact ⟨(own_up hd cz (-1 : Int64)), (cn + (1 : Int32)), rfl, N15, K15, (own_ap1 hx1), F17, F20, F18, F19, V15⟩
  · obtain ⟨T23, X23, e23, st23⟩ := getF X0 hx hZ hown (host := "") (Or.inl (own_w hw 111 rfl)) Via.refl e0 H2_F (g := (mkF m 8 #[.val (.ref oo), .val (.int (2 : Int32)), .val (.int (0 : Int32))] [(.ref oo)])) rfl rfl (hb hby d17_8)
    obtain ⟨T24, X24, e24, st24⟩ := getF X23 hx hZ hown (host := "") (Or.inl (own_w hw 36 rfl)) Via.refl e23 H1_F (g := (mkF m 12 #[.val (.ref oo), .val (.int (2 : Int32)), .val (.int (0 : Int32))] [(.ref oo), (.int cn)])) rfl rfl (hb hby d17_12)
    have oc25 := H5_G
    obtain ⟨c25, Arc25, Sc25, Hc25⟩ := oc25
    have hx1 : own_ix cn cz := own_apx1 (kq := (2 : Int32)) hcz hr_ (by decide)
    obtain ⟨T26, X26, e26, st26⟩ := getF X24 hx hZ hown (host := "") (Or.inl (own_w hw 36 rfl)) Via.refl e24 H1_F (g := (mkF m 24 #[.val (.ref oo), .val (.int (2 : Int32)), .val (.int (0 : Int32))] [(.ref oo)])) rfl rfl (hb hby d17_24)
    obtain ⟨T27, X27, e27, st27⟩ := getF X26 hx hZ hown (host := "") (Or.inl (own_w hw 111 rfl)) Via.refl e26 H2_F (g := (mkF m 29 #[.val (.ref oo), .val (.int (2 : Int32)), .val (.int (0 : Int32))] [(.ref oo), (.ref oo), (.ref ah)])) rfl rfl (hb hby d17_29)
    obtain ⟨T28, h28, X28, e28, W28, st28⟩ := putF X27 hx hZ hown (host := "") (Or.inl (own_w hw 111 rfl)) Via.refl e27 H2_F H0_E (Or.inl (own_w hw 112 rfl)) (own_w hw 29 rfl) (ty := .int) (by decide) rfl rfl (g := (mkF m 35 #[.val (.ref oo), .val (.int (2 : Int32)), .val (.int (0 : Int32))] [(.int (cn + (1 : Int32))), (.ref oo), (.int cn), (.ref ah)])) rfl rfl (hb hby d17_35)
    have Fw28 : Fld Z h28 oo "com/example/fieldglass/fieldglass/io/Marks$Order" "count" "I" (.int (cn + (1 : Int32))) := H2_F.same W28
    have E29 := H0_E.wr W28
    have F30 := H1_F.other W28 (Or.inr (slot_ne (Or.inl (own_w hw 37 rfl)) (Or.inl (own_w hw 112 rfl)) (by decide) (t := (.array .long)) (t' := .int) (by decide) (by decide)))
    have F31 := H3_F.other W28 (Or.inr (slot_ne (Or.inl (own_w hw 110 rfl)) (Or.inl (own_w hw 112 rfl)) (by decide) (t := .long) (t' := .int) (by decide) (by decide)))
    have F32 := H4_F.other W28 (Or.inr (slot_ne (Or.inl (own_w hw 151 rfl)) (Or.inl (own_w hw 112 rfl)) (by decide) (t := .long) (t' := .int) (by decide) (by decide)))
    have G33 := H5_G.other W28 (Ne.symm hn1)
    have N28 := Fr.snoc X28 N0 hoo
    have K28 : Keep h0 h28 [oo, ah] := K0.wr W28 (Or.inl (List.mem_of_getElem? (i := 0) rfl))
    have Zs34 : n0 ≤ h28.size := (Nat.le_trans Z0 (Keep.of_wr W28).1)
    have oc35 := G33
    obtain ⟨c35, Arc35, Sc35, Hc35⟩ := oc35
    have hin36 : ¬ (cn < 0 ∨ c35.slots.size ≤ (cn).toNatClampNeg) := (own_ix_in Sc35 hx1)
    obtain ⟨T36, h36, X36, e36, W36, st36⟩ := stJ X28 hx hZ e28 Arc35 (j := cn) hin36 (g := (mkF m 41 #[.val (.ref oo), .val (.int (2 : Int32)), .val (.int (0 : Int32))] [(.long (-1 : Int64)), (.int cn), (.ref ah)])) rfl rfl (hb hby d17_41)
    have V36 : own_Fa Value.long .long Z h36 ah 16 (own_up hd cz (-1 : Int64)) := own_Fa_setk Arc35 Sc35 Hc35 W36 (own_ix_nat hx1)
    have E37 := E29.wr W36
    have F38 := F30.other W36 (Or.inl hn1)
    have F39 := F31.other W36 (Or.inl hn1)
    have F40 := F32.other W36 (Or.inl hn1)
    have F41 := Fw28.other W36 (Or.inl hn1)
    have N36 := Fr.snoc X36 N28 hah
    have K36 : Keep h0 h36 [oo, ah] := K28.wr W36 (Or.inl (List.mem_of_getElem? (i := 1) rfl))
    have Zs42 : n0 ≤ h36.size := (Nat.le_trans Zs34 (Keep.of_wr W36).1)
    obtain ⟨T43, X43, e43, st43⟩ := getF X36 hx hZ hown (host := "") (Or.inl (own_w hw 111 rfl)) Via.refl e36 F41 (g := (mkF m 8 #[.val (.ref oo), .val (.int (2 : Int32)), .val (.int (1 : Int32))] [(.ref oo)])) rfl rfl (hb hby d17_8)
    obtain ⟨T44, X44, e44, st44⟩ := getF X43 hx hZ hown (host := "") (Or.inl (own_w hw 36 rfl)) Via.refl e43 F38 (g := (mkF m 12 #[.val (.ref oo), .val (.int (2 : Int32)), .val (.int (1 : Int32))] [(.ref oo), (.int (cn + (1 : Int32)))])) rfl rfl (hb hby d17_12)
    have oc45 := V36
    obtain ⟨c45, Arc45, Sc45, Hc45⟩ := oc45
    have hx2 : own_ix (cn + (1 : Int32)) (cz + 1) := own_apx2 hcz hr_
    obtain ⟨T46, X46, e46, st46⟩ := getF X44 hx hZ hown (host := "") (Or.inl (own_w hw 36 rfl)) Via.refl e44 F38 (g := (mkF m 24 #[.val (.ref oo), .val (.int (2 : Int32)), .val (.int (1 : Int32))] [(.ref oo)])) rfl rfl (hb hby d17_24)
    obtain ⟨T47, X47, e47, st47⟩ := getF X46 hx hZ hown (host := "") (Or.inl (own_w hw 111 rfl)) Via.refl e46 F41 (g := (mkF m 29 #[.val (.ref oo), .val (.int (2 : Int32)), .val (.int (1 : Int32))] [(.ref oo), (.ref oo), (.ref ah)])) rfl rfl (hb hby d17_29)
    obtain ⟨T48, h48, X48, e48, W48, st48⟩ := putF X47 hx hZ hown (host := "") (Or.inl (own_w hw 111 rfl)) Via.refl e47 F41 E37 (Or.inl (own_w hw 112 rfl)) (own_w hw 29 rfl) (ty := .int) (by decide) rfl rfl (g := (mkF m 35 #[.val (.ref oo), .val (.int (2 : Int32)), .val (.int (1 : Int32))] [(.int ((cn + (1 : Int32)) + (1 : Int32))), (.ref oo), (.int (cn + (1 : Int32))), (.ref ah)])) rfl rfl (hb hby d17_35)
    have Fw48 : Fld Z h48 oo "com/example/fieldglass/fieldglass/io/Marks$Order" "count" "I" (.int ((cn + (1 : Int32)) + (1 : Int32))) := F41.same W48
    have E49 := E37.wr W48
    have F50 := F38.other W48 (Or.inr (slot_ne (Or.inl (own_w hw 37 rfl)) (Or.inl (own_w hw 112 rfl)) (by decide) (t := (.array .long)) (t' := .int) (by decide) (by decide)))
    have F51 := F39.other W48 (Or.inr (slot_ne (Or.inl (own_w hw 110 rfl)) (Or.inl (own_w hw 112 rfl)) (by decide) (t := .long) (t' := .int) (by decide) (by decide)))
    have F52 := F40.other W48 (Or.inr (slot_ne (Or.inl (own_w hw 151 rfl)) (Or.inl (own_w hw 112 rfl)) (by decide) (t := .long) (t' := .int) (by decide) (by decide)))
    have G53 := V36.other W48 (Ne.symm hn1)
    have N48 := Fr.snoc X48 N36 hoo
    have K48 : Keep h0 h48 [oo, ah] := K36.wr W48 (Or.inl (List.mem_of_getElem? (i := 0) rfl))
    have Zs54 : n0 ≤ h48.size := (Nat.le_trans Zs42 (Keep.of_wr W48).1)
    have oc55 := G53
    obtain ⟨c55, Arc55, Sc55, Hc55⟩ := oc55
    have hin56 : ¬ ((cn + (1 : Int32)) < 0 ∨ c55.slots.size ≤ ((cn + (1 : Int32))).toNatClampNeg) := (own_ix_in Sc55 hx2)
    obtain ⟨T56, h56, X56, e56, W56, st56⟩ := stJ X48 hx hZ e48 Arc55 (j := (cn + (1 : Int32))) hin56 (g := (mkF m 41 #[.val (.ref oo), .val (.int (2 : Int32)), .val (.int (1 : Int32))] [(.long (-1 : Int64)), (.int (cn + (1 : Int32))), (.ref ah)])) rfl rfl (hb hby d17_41)
    have V56 : own_Fa Value.long .long Z h56 ah 16 (own_up (own_up hd cz (-1 : Int64)) (cz + 1) (-1 : Int64)) := own_Fa_setk Arc55 Sc55 Hc55 W56 (own_ix_nat hx2)
    have E57 := E49.wr W56
    have F58 := F50.other W56 (Or.inl hn1)
    have F59 := F51.other W56 (Or.inl hn1)
    have F60 := F52.other W56 (Or.inl hn1)
    have F61 := Fw48.other W56 (Or.inl hn1)
    have N56 := Fr.snoc X56 N48 hah
    have K56 : Keep h0 h56 [oo, ah] := K48.wr W56 (Or.inl (List.mem_of_getElem? (i := 1) rfl))
    have Zs62 : n0 ≤ h56.size := (Nat.le_trans Zs54 (Keep.of_wr W56).1)
    have pre63 := fun (t : State) (k : Steps p.tables e below (T56.setTop (mkF m 48 #[.val (.ref oo), .val (.int (2 : Int32)), .val (.int (2 : Int32))] [])) t) => pre0 t (by
      refine XS.iconst X0.here hx rfl (hb hby d17_0) ?_
      refine XS.istoreN X0.here hx rfl (hb hby d17_1) rfl (l' := #[.val (.ref oo), .val (.int (2 : Int32)), .val (.int (0 : Int32))]) rfl ?_
      refine XS.iloadN X0.here hx rfl (hb hby d17_2) rfl ?_
      refine XS.iloadN X0.here hx rfl (hb hby d17_3) rfl ?_
      refine XS.icmpNo X0.here hx rfl (hb hby d17_4) rfl (tlt (by decide : (0 : Int32) < (2 : Int32))).2.1 ?_
      refine XS.aloadN X0.here hx rfl (hb hby d17_7) rfl rfl ?_
      refine st23 _ ?_
      refine XS.aloadN X23.here hx rfl (hb hby d17_11) rfl rfl ?_
      refine st24 _ ?_
      refine X24.arraylength hx (by rw [e24]; exact Arc25.1) (State.isArrayOf_alike hZ.alike Arc25.2.1) (g := (mkF m 15 #[.val (.ref oo), .val (.int (2 : Int32)), .val (.int (0 : Int32))] [(.ref ah), (.int cn)])) rfl rfl (hb hby d17_15) _ ?_
      rw [show c25.slots.size.toInt32 = (16 : Int32) from (by rw [Sc25]; rfl)]
      refine XS.icmpYes X24.here hx rfl (pc0 := 16) (pc' := 23) rfl (hb hby d17_16) rfl (feq (own_ne16 hx1)).2 (by decide) (by decide) ?_
      refine XS.aloadN X24.here hx rfl (hb hby d17_23) rfl rfl ?_
      refine st26 _ ?_
      refine XS.aloadN X26.here hx rfl (hb hby d17_27) rfl rfl ?_
      refine XS.dup X26.here hx rfl (hb hby d17_28) rfl rfl ?_
      refine st27 _ ?_
      refine XS.dupX1 X27.here hx rfl (hb hby d17_32) rfl rfl rfl ?_
      refine XS.iconst X27.here hx rfl (hb hby d17_33) ?_
      refine XS.iadd X27.here hx rfl (hb hby d17_34) rfl ?_
      refine st28 _ ?_
      refine X28.ldc2Long hx hown (mvT hZ (own_w hw 124 rfl)) (g := (mkF m 38 #[.val (.ref oo), .val (.int (2 : Int32)), .val (.int (0 : Int32))] [(.int cn), (.ref ah)])) rfl (hb hby d17_38) _ ?_
      refine st36 _ ?_
      refine XS.iinc X36.here hx rfl (hb hby d17_42) rfl (l' := #[.val (.ref oo), .val (.int (2 : Int32)), .val (.int (1 : Int32))]) rfl ?_
      refine XS.goto X36.here hx rfl (pc0 := 45) (pc' := 2) rfl (hb hby d17_45) (by decide) (by decide) ?_
      refine XS.iloadN X36.here hx rfl (hb hby d17_2) rfl ?_
      refine XS.iloadN X36.here hx rfl (hb hby d17_3) rfl ?_
      refine XS.icmpNo X36.here hx rfl (hb hby d17_4) rfl (tlt (by decide : (1 : Int32) < (2 : Int32))).2.1 ?_
      refine XS.aloadN X36.here hx rfl (hb hby d17_7) rfl rfl ?_
      refine st43 _ ?_
      refine XS.aloadN X43.here hx rfl (hb hby d17_11) rfl rfl ?_
      refine st44 _ ?_
      refine X44.arraylength hx (by rw [e44]; exact Arc45.1) (State.isArrayOf_alike hZ.alike Arc45.2.1) (g := (mkF m 15 #[.val (.ref oo), .val (.int (2 : Int32)), .val (.int (1 : Int32))] [(.ref ah), (.int (cn + (1 : Int32)))])) rfl rfl (hb hby d17_15) _ ?_
      rw [show c45.slots.size.toInt32 = (16 : Int32) from (by rw [Sc45]; rfl)]
      refine XS.icmpYes X44.here hx rfl (pc0 := 16) (pc' := 23) rfl (hb hby d17_16) rfl (feq (own_ne16 hx2)).2 (by decide) (by decide) ?_
      refine XS.aloadN X44.here hx rfl (hb hby d17_23) rfl rfl ?_
      refine st46 _ ?_
      refine XS.aloadN X46.here hx rfl (hb hby d17_27) rfl rfl ?_
      refine XS.dup X46.here hx rfl (hb hby d17_28) rfl rfl ?_
      refine st47 _ ?_
      refine XS.dupX1 X47.here hx rfl (hb hby d17_32) rfl rfl rfl ?_
      refine XS.iconst X47.here hx rfl (hb hby d17_33) ?_
      refine XS.iadd X47.here hx rfl (hb hby d17_34) rfl ?_
      refine st48 _ ?_
      refine X48.ldc2Long hx hown (mvT hZ (own_w hw 124 rfl)) (g := (mkF m 38 #[.val (.ref oo), .val (.int (2 : Int32)), .val (.int (1 : Int32))] [(.int (cn + (1 : Int32))), (.ref ah)])) rfl (hb hby d17_38) _ ?_
      refine st56 _ ?_
      refine XS.iinc X56.here hx rfl (hb hby d17_42) rfl (l' := #[.val (.ref oo), .val (.int (2 : Int32)), .val (.int (2 : Int32))]) rfl ?_
      refine XS.goto X56.here hx rfl (pc0 := 45) (pc' := 2) rfl (hb hby d17_45) (by decide) (by decide) ?_
      refine XS.iloadN X56.here hx rfl (hb hby d17_2) rfl ?_
      refine XS.iloadN X56.here hx rfl (hb hby d17_3) rfl ?_
      refine XS.icmpYes X56.here hx rfl (pc0 := 4) (pc' := 48) rfl (hb hby d17_4) rfl (flt (by decide : ¬ ((2 : Int32) < (2 : Int32)))).2.1 (by decide) (by decide) ?_
      exact k)
    obtain ⟨fs, hr, hrun, hended, hW, hsame⟩ := X56.leave (v := none) (hlocks := BodyLoose.notSynchronized Bd) (fun _ => rfl)
    refine ⟨_, _, pre63 _ ?_, hrun, hended, _, _, rfl, ?_, ⟨_, rfl⟩, hW, hsame.mono (by decide) (by decide)⟩
    · exact X56.returnOut hx Bd.returns (hb hby d17_48) hr
    · show Q_ap Z oo ah hd cn cz (2 : Int32) h0 n0 _ T56.heap _
      rw [e56]
      exact ⟨(own_up (own_up hd cz (-1 : Int64)) (cz + 1) (-1 : Int64)), ((cn + (1 : Int32)) + (1 : Int32)), rfl, N56, K56, (own_ap2 hx1 hx2), F58, F61, F59, F60, V56⟩

theorem ef_apG (m : MethodId) (x0 : Addr) (x1 : Int32) : entryFrame m #[(.ref x0), (.int x1)] 3 = mkF m 0 #[.val (.ref x0), .val (.int x1), .unset] [] := by first | (simp [entryFrame, mkF, argsToLocals, Value.category]; done) | rfl
def Q_apG (Z : State) (oo : Addr) (al : Addr) (kl : ClassId) (kq : Int32) (h0 : Heap) (n0 : Nat) (v : Option Value) (h : Heap) (L : List Loc) : Prop := ∃ ah : Addr, ∃ hd' : Nat → Int64, ∃ cn' : Int32, v = none ∧ Fr n0 L ∧ Keep h0 h [oo] ∧ n0 ≤ ah ∧ h0.size ≤ ah ∧ own_ap (fun _ => (0 : Int64)) hd' 0 kq cn' ∧ Fld Z h oo "com/example/fieldglass/fieldglass/io/Marks$Order" "held" "[J" (.ref ah) ∧ Fld Z h oo "com/example/fieldglass/fieldglass/io/Marks$Order" "count" "I" (.int cn') ∧ Fld Z h oo "com/example/fieldglass/fieldglass/io/Marks$Order" "spilled" "J" (.long (0 : Int64)) ∧ Fld Z h oo "com/example/fieldglass/fieldglass/io/Marks$Order" "read" "J" (.long (0 : Int64)) ∧ own_Fa Value.long .long Z h ah 16 hd'
set_option maxRecDepth 65536 in
set_option maxHeartbeats 40000000 in
theorem rm_apG (l : Launch) (Z : State) (a0 : Array Value) (hw : ∀ d ∈ tables_1, d.before a0 Z = true) (ws : List Jvm.Cond) (oo : Addr) (al : Addr) (kl : ClassId) (kq : Int32) (h0 : Heap) (n0 : Nat) (Z0 : n0 ≤ h0.size) (H0_E : Exa Z h0 oo "com/example/fieldglass/fieldglass/io/Marks$Order") (H1_F : Fld Z h0 oo "com/example/fieldglass/fieldglass/io/Marks$Order" "held" "[J" (.ref al)) (H2_F : Fld Z h0 oo "com/example/fieldglass/fieldglass/io/Marks$Order" "count" "I" (.int (0 : Int32))) (H3_F : Fld Z h0 oo "com/example/fieldglass/fieldglass/io/Marks$Order" "spilled" "J" (.long (0 : Int64))) (H4_F : Fld Z h0 oo "com/example/fieldglass/fieldglass/io/Marks$Order" "read" "J" (.long (0 : Int64))) (H5_A : Arv Z h0 al kl .long (0 : Int32) [] (.long (0 : Int64))) (hk : kq = (1 : Int32) ∨ kq = (2 : Int32)) (hoo : n0 ≤ oo) (hn1 : oo ≠ al) :
    MetFree l (⟨"com/example/fieldglass/fieldglass/io/Marks$Order", "appendUnmarked", "(I)V"⟩ : MethodName) (head1 (Jvm.Cond.code (⟨"com/example/fieldglass/fieldglass/io/Marks$Order", "appendUnmarked", "(I)V"⟩ : MethodName) prog_14_method_3_code 3 none :: ws) ({ frames := 3, cells := 1, slots := 16, locals := 45 } : Room)) (fun as_ U_ => as_ = #[(.ref oo), (.int kq)] ∧ Z.Warmed39 U_.vm ∧ U_.heap = h0) (fun _ _ _ _ _ => True) (fun _ U o U' => ∃ v L, o = .returned v ∧ Q_apG Z oo al kl kq h0 n0 v U'.heap L ∧ FrameEnd U o U' L ({ frames := 3, cells := 1, slots := 16, locals := 45 } : Room).cells ({ frames := 3, cells := 1, slots := 16, locals := 45 } : Room).slots) := by
  refine MetFree.of_bodySF (plainFor_of_name pn_1) hisR ?_
  intro p e s m args below meth c s₁ Bd hml0 hP hK
  obtain ⟨rfl, hZ, hhp_⟩ := hP
  have hx := Bd.exec
  have hby := Bd.bytes
  have hml : c.maxLocals = 3 := hml0
  have hown : s.vm.findClass "com/example/fieldglass/fieldglass/io/Marks$Order" = some m.cls := findClass_of_methodNamed Bd.named
  have hnm := (name_of_methodNamed Bd.named Bd.method).1
  have X0 : Stand p l e ({ frames := 3, cells := 1, slots := 16, locals := 45 } : Room) s m #[(.ref oo), (.int kq)] below meth c s₁ [] 0 0 := Stand.of_body Bd
  have e0 : s₁.heap = h0 := by rw [← hhp_, Bd.state]; rfl
  have N0 := Fr.nil n0
  have pre0 : ∀ t, Steps p.tables e below (s₁.setTop (mkF m 0 #[.val (.ref oo), .val (.int kq), .unset] [])) t → Steps p.tables e below (s₁.setTop (entryFrame m #[(.ref oo), (.int kq)] 3)) t := fun t k => castTop (ef_apG m oo kq) k
  have K0 : Keep h0 h0 [oo] := Keep.refl h0 [oo]
  have hk_ := hk
  rcases hk_ with rfl | rfl
  · obtain ⟨T1, X1, e1, st1⟩ := getF X0 hx hZ hown (host := "") (Or.inl (own_w hw 111 rfl)) Via.refl e0 H2_F (g := (mkF m 8 #[.val (.ref oo), .val (.int (1 : Int32)), .val (.int (0 : Int32))] [(.ref oo)])) rfl rfl (hb hby d17_8)
    obtain ⟨T2, X2, e2, st2⟩ := getF X1 hx hZ hown (host := "") (Or.inl (own_w hw 36 rfl)) Via.refl e1 H1_F (g := (mkF m 12 #[.val (.ref oo), .val (.int (1 : Int32)), .val (.int (0 : Int32))] [(.ref oo), (.int (0 : Int32))])) rfl rfl (hb hby d17_12)
    have oc3 := H5_A
    obtain ⟨c3, Arc3, qc3, Sc3, Nc3, Hc3, Gc3⟩ := oc3
    obtain ⟨cq4, q4, q4'⟩ := H0_E.cell
    obtain ⟨_, _, ⟨T4, L4, k4, n4⟩, -, X4, ⟨Lc4, hQ4, l4, y4, z4⟩, st4⟩ := X2.privateBack hx (y := (⟨"com/example/fieldglass/fieldglass/io/Marks$Order", "makeRoom", "()V"⟩ : MethodName)) hown (mvT hZ (own_w hw 118 rfl)) (mvT hZ (own_w hw 119 rfl)) (own_sel_priv (z := (⟨"com/example/fieldglass/fieldglass/io/Marks$Order", "size", "()J"⟩ : MethodName)) (mvT hZ (own_w hw 107 rfl)) rfl (mvP hZ (own_w hw 120 rfl)) (mvT hZ (own_w hw 119 rfl)) (by decide)) (Cond.privateMethod_at (mvP hZ (own_w hw 120 rfl) (args := #[]))) (mvT hZ (own_w hw 121 rfl)) (by decide) (backOf (W := 0) (rm_mkr l Z a0 hw [] oo al kl h0 n0 Z0 H0_E H1_F H2_F H3_F H4_F H5_A hoo hn1) hZ (own_w hw 121 rfl) (own_w hw 30 rfl) (by decide) (by decide)) (g := (mkF m 20 #[.val (.ref oo), .val (.int (1 : Int32)), .val (.int (0 : Int32))] [(.ref oo)])) rfl (by rw [hml]; rfl) (Steps.refl _) (a := oo) (by rw [e2]; exact q4) q4' (argsL := []) (rest := []) (lenOf pd_1 rfl) rfl (by show 2 * 0 + _ ≤ _; exact Nat.le_of_eq rfl) (hb hby d17_20) (fun _ _ => ⟨rfl, e2, (by decide : 0 + 1 ≤ _), (by decide : 0 + 16 ≤ _)⟩)
    dsimp only [Pt.U, Pt.locs, Pt.cells, Pt.slots] at X4 l4 y4 z4 st4 hQ4
    subst l4 y4 z4
    obtain ⟨x5, rfl, N4q, hq6, hpq7, hpq8, F9, F10, F11, F12, G13⟩ := hQ4
    have N4 := Fr.app N0 N4q
    have lt14 : oo < h0.size := H0_E.lt
    have lt15 : al < h0.size := H5_A.lt
    have E16 := H0_E.keep hq6
    have A17 := H5_A.keep hq6 (ninS (Ne.symm hn1) nin0)
    have K4 : Keep h0 T4.heap [oo] := K0.trans hq6 (allS (Or.inl (List.mem_of_getElem? (i := 0) rfl)) all0)
    have Zs18 : n0 ≤ T4.heap.size := (Nat.le_trans Z0 hq6.1)
    have ne19 : oo ≠ x5 := Nat.ne_of_lt (Nat.lt_of_lt_of_le lt14 hpq8)
    have ne20 : al ≠ x5 := Nat.ne_of_lt (Nat.lt_of_lt_of_le lt15 hpq8)
    have sz21 : h0.size ≤ x5 := Nat.le_trans K0.1 hpq8
    obtain ⟨T22, X22, e22, st22⟩ := getF X4 hx hZ hown (host := "") (Or.inl (own_w hw 36 rfl)) Via.refl rfl F9 (g := (mkF m 24 #[.val (.ref oo), .val (.int (1 : Int32)), .val (.int (0 : Int32))] [(.ref oo)])) rfl rfl (hb hby d17_24)
    obtain ⟨T23, X23, e23, st23⟩ := getF X22 hx hZ hown (host := "") (Or.inl (own_w hw 111 rfl)) Via.refl e22 F10 (g := (mkF m 29 #[.val (.ref oo), .val (.int (1 : Int32)), .val (.int (0 : Int32))] [(.ref oo), (.ref oo), (.ref x5)])) rfl rfl (hb hby d17_29)
    obtain ⟨T24, h24, X24, e24, W24, st24⟩ := putF X23 hx hZ hown (host := "") (Or.inl (own_w hw 111 rfl)) Via.refl e23 F10 E16 (Or.inl (own_w hw 112 rfl)) (own_w hw 29 rfl) (ty := .int) (by decide) rfl rfl (g := (mkF m 35 #[.val (.ref oo), .val (.int (1 : Int32)), .val (.int (0 : Int32))] [(.int (1 : Int32)), (.ref oo), (.int (0 : Int32)), (.ref x5)])) rfl rfl (hb hby d17_35)
    have Fw24 : Fld Z h24 oo "com/example/fieldglass/fieldglass/io/Marks$Order" "count" "I" (.int (1 : Int32)) := F10.same W24
    have E25 := E16.wr W24
    have A26 := A17.other W24 (Ne.symm hn1)
    have F27 := F9.other W24 (Or.inr (slot_ne (Or.inl (own_w hw 37 rfl)) (Or.inl (own_w hw 112 rfl)) (by decide) (t := (.array .long)) (t' := .int) (by decide) (by decide)))
    have F28 := F11.other W24 (Or.inr (slot_ne (Or.inl (own_w hw 110 rfl)) (Or.inl (own_w hw 112 rfl)) (by decide) (t := .long) (t' := .int) (by decide) (by decide)))
    have F29 := F12.other W24 (Or.inr (slot_ne (Or.inl (own_w hw 151 rfl)) (Or.inl (own_w hw 112 rfl)) (by decide) (t := .long) (t' := .int) (by decide) (by decide)))
    have G30 := G13.other W24 (Ne.symm ne19)
    have N24 := Fr.snoc X24 N4 hoo
    have K24 : Keep h0 h24 [oo] := K4.wr W24 (Or.inl (List.mem_of_getElem? (i := 0) rfl))
    have Zs31 : n0 ≤ h24.size := (Nat.le_trans Zs18 (Keep.of_wr W24).1)
    have oc32 := G30
    obtain ⟨c32, Arc32, Sc32, Hc32⟩ := oc32
    have hin33 : ¬ ((0 : Int32) < 0 ∨ c32.slots.size ≤ ((0 : Int32)).toNatClampNeg) := (own_ix_in Sc32 (⟨rfl, by decide⟩ : own_ix (0 : Int32) 0))
    obtain ⟨T33, h33, X33, e33, W33, st33⟩ := stJ X24 hx hZ e24 Arc32 (j := (0 : Int32)) hin33 (g := (mkF m 41 #[.val (.ref oo), .val (.int (1 : Int32)), .val (.int (0 : Int32))] [(.long (-1 : Int64)), (.int (0 : Int32)), (.ref x5)])) rfl rfl (hb hby d17_41)
    have V33 : own_Fa Value.long .long Z h33 x5 16 (own_up (fun _ => (0 : Int64)) 0 (-1 : Int64)) := own_Fa_setk Arc32 Sc32 Hc32 W33 (own_ix_nat (⟨rfl, by decide⟩ : own_ix (0 : Int32) 0))
    have E34 := E25.wr W33
    have A35 := A26.other W33 ne20
    have F36 := F27.other W33 (Or.inl ne19)
    have F37 := F28.other W33 (Or.inl ne19)
    have F38 := F29.other W33 (Or.inl ne19)
    have F39 := Fw24.other W33 (Or.inl ne19)
    have N33 := Fr.snoc X33 N24 hpq7
    have K33 : Keep h0 h33 [oo] := K24.wr W33 (Or.inr sz21)
    have Zs40 : n0 ≤ h33.size := (Nat.le_trans Zs31 (Keep.of_wr W33).1)
    have pre41 := fun (t : State) (k : Steps p.tables e below (T33.setTop (mkF m 48 #[.val (.ref oo), .val (.int (1 : Int32)), .val (.int (1 : Int32))] [])) t) => pre0 t (by
      refine XS.iconst X0.here hx rfl (hb hby d17_0) ?_
      refine XS.istoreN X0.here hx rfl (hb hby d17_1) rfl (l' := #[.val (.ref oo), .val (.int (1 : Int32)), .val (.int (0 : Int32))]) rfl ?_
      refine XS.iloadN X0.here hx rfl (hb hby d17_2) rfl ?_
      refine XS.iloadN X0.here hx rfl (hb hby d17_3) rfl ?_
      refine XS.icmpNo X0.here hx rfl (hb hby d17_4) rfl (tlt (by decide : (0 : Int32) < (1 : Int32))).2.1 ?_
      refine XS.aloadN X0.here hx rfl (hb hby d17_7) rfl rfl ?_
      refine st1 _ ?_
      refine XS.aloadN X1.here hx rfl (hb hby d17_11) rfl rfl ?_
      refine st2 _ ?_
      refine X2.arraylength hx (by rw [e2]; exact Arc3.1) (State.isArrayOf_alike hZ.alike Arc3.2.1) (g := (mkF m 15 #[.val (.ref oo), .val (.int (1 : Int32)), .val (.int (0 : Int32))] [(.ref al), (.int (0 : Int32))])) rfl rfl (hb hby d17_15) _ ?_
      rw [show c3.slots.size.toInt32 = (0 : Int32) from (len_of Sc3 Nc3)]
      refine XS.icmpNo X2.here hx rfl (hb hby d17_16) rfl (teq (by decide : (0 : Int32) = (0 : Int32))).2 ?_
      refine XS.aloadN X2.here hx rfl (hb hby d17_19) rfl rfl ?_
      refine st4.trans ?_
      refine XS.aloadN X4.here hx rfl (hb hby d17_23) rfl rfl ?_
      refine st22 _ ?_
      refine XS.aloadN X22.here hx rfl (hb hby d17_27) rfl rfl ?_
      refine XS.dup X22.here hx rfl (hb hby d17_28) rfl rfl ?_
      refine st23 _ ?_
      refine XS.dupX1 X23.here hx rfl (hb hby d17_32) rfl rfl rfl ?_
      refine XS.iconst X23.here hx rfl (hb hby d17_33) ?_
      refine XS.iadd X23.here hx rfl (hb hby d17_34) rfl ?_
      refine st24 _ ?_
      refine X24.ldc2Long hx hown (mvT hZ (own_w hw 124 rfl)) (g := (mkF m 38 #[.val (.ref oo), .val (.int (1 : Int32)), .val (.int (0 : Int32))] [(.int (0 : Int32)), (.ref x5)])) rfl (hb hby d17_38) _ ?_
      refine st33 _ ?_
      refine XS.iinc X33.here hx rfl (hb hby d17_42) rfl (l' := #[.val (.ref oo), .val (.int (1 : Int32)), .val (.int (1 : Int32))]) rfl ?_
      refine XS.goto X33.here hx rfl (pc0 := 45) (pc' := 2) rfl (hb hby d17_45) (by decide) (by decide) ?_
      refine XS.iloadN X33.here hx rfl (hb hby d17_2) rfl ?_
      refine XS.iloadN X33.here hx rfl (hb hby d17_3) rfl ?_
      refine XS.icmpYes X33.here hx rfl (pc0 := 4) (pc' := 48) rfl (hb hby d17_4) rfl (flt (by decide : ¬ ((1 : Int32) < (1 : Int32)))).2.1 (by decide) (by decide) ?_
      exact k)
    obtain ⟨fs, hr, hrun, hended, hW, hsame⟩ := X33.leave (v := none) (hlocks := BodyLoose.notSynchronized Bd) (fun _ => rfl)
    refine ⟨_, _, pre41 _ ?_, hrun, hended, _, _, rfl, ?_, ⟨_, rfl⟩, hW, hsame.mono (by decide) (by decide)⟩
    · exact X33.returnOut hx Bd.returns (hb hby d17_48) hr
    · show Q_apG Z oo al kl (1 : Int32) h0 n0 _ T33.heap _
      rw [e33]
      exact ⟨x5, (own_up (fun _ => (0 : Int64)) 0 (-1 : Int64)), (1 : Int32), rfl, N33, K33, hpq7, sz21, own_apG1, F36, F39, F37, F38, V33⟩
  · obtain ⟨T42, X42, e42, st42⟩ := getF X0 hx hZ hown (host := "") (Or.inl (own_w hw 111 rfl)) Via.refl e0 H2_F (g := (mkF m 8 #[.val (.ref oo), .val (.int (2 : Int32)), .val (.int (0 : Int32))] [(.ref oo)])) rfl rfl (hb hby d17_8)
    obtain ⟨T43, X43, e43, st43⟩ := getF X42 hx hZ hown (host := "") (Or.inl (own_w hw 36 rfl)) Via.refl e42 H1_F (g := (mkF m 12 #[.val (.ref oo), .val (.int (2 : Int32)), .val (.int (0 : Int32))] [(.ref oo), (.int (0 : Int32))])) rfl rfl (hb hby d17_12)
    have oc44 := H5_A
    obtain ⟨c44, Arc44, qc44, Sc44, Nc44, Hc44, Gc44⟩ := oc44
    obtain ⟨cq45, q45, q45'⟩ := H0_E.cell
    obtain ⟨_, _, ⟨T45, L45, k45, n45⟩, -, X45, ⟨Lc45, hQ45, l45, y45, z45⟩, st45⟩ := X43.privateBack hx (y := (⟨"com/example/fieldglass/fieldglass/io/Marks$Order", "makeRoom", "()V"⟩ : MethodName)) hown (mvT hZ (own_w hw 118 rfl)) (mvT hZ (own_w hw 119 rfl)) (own_sel_priv (z := (⟨"com/example/fieldglass/fieldglass/io/Marks$Order", "size", "()J"⟩ : MethodName)) (mvT hZ (own_w hw 107 rfl)) rfl (mvP hZ (own_w hw 120 rfl)) (mvT hZ (own_w hw 119 rfl)) (by decide)) (Cond.privateMethod_at (mvP hZ (own_w hw 120 rfl) (args := #[]))) (mvT hZ (own_w hw 121 rfl)) (by decide) (backOf (W := 0) (rm_mkr l Z a0 hw [] oo al kl h0 n0 Z0 H0_E H1_F H2_F H3_F H4_F H5_A hoo hn1) hZ (own_w hw 121 rfl) (own_w hw 30 rfl) (by decide) (by decide)) (g := (mkF m 20 #[.val (.ref oo), .val (.int (2 : Int32)), .val (.int (0 : Int32))] [(.ref oo)])) rfl (by rw [hml]; rfl) (Steps.refl _) (a := oo) (by rw [e43]; exact q45) q45' (argsL := []) (rest := []) (lenOf pd_1 rfl) rfl (by show 2 * 0 + _ ≤ _; exact Nat.le_of_eq rfl) (hb hby d17_20) (fun _ _ => ⟨rfl, e43, (by decide : 0 + 1 ≤ _), (by decide : 0 + 16 ≤ _)⟩)
    dsimp only [Pt.U, Pt.locs, Pt.cells, Pt.slots] at X45 l45 y45 z45 st45 hQ45
    subst l45 y45 z45
    obtain ⟨x46, rfl, N45q, hq47, hpq48, hpq49, F50, F51, F52, F53, G54⟩ := hQ45
    have N45 := Fr.app N0 N45q
    have lt55 : oo < h0.size := H0_E.lt
    have lt56 : al < h0.size := H5_A.lt
    have E57 := H0_E.keep hq47
    have A58 := H5_A.keep hq47 (ninS (Ne.symm hn1) nin0)
    have K45 : Keep h0 T45.heap [oo] := K0.trans hq47 (allS (Or.inl (List.mem_of_getElem? (i := 0) rfl)) all0)
    have Zs59 : n0 ≤ T45.heap.size := (Nat.le_trans Z0 hq47.1)
    have ne60 : oo ≠ x46 := Nat.ne_of_lt (Nat.lt_of_lt_of_le lt55 hpq49)
    have ne61 : al ≠ x46 := Nat.ne_of_lt (Nat.lt_of_lt_of_le lt56 hpq49)
    have sz62 : h0.size ≤ x46 := Nat.le_trans K0.1 hpq49
    obtain ⟨T63, X63, e63, st63⟩ := getF X45 hx hZ hown (host := "") (Or.inl (own_w hw 36 rfl)) Via.refl rfl F50 (g := (mkF m 24 #[.val (.ref oo), .val (.int (2 : Int32)), .val (.int (0 : Int32))] [(.ref oo)])) rfl rfl (hb hby d17_24)
    obtain ⟨T64, X64, e64, st64⟩ := getF X63 hx hZ hown (host := "") (Or.inl (own_w hw 111 rfl)) Via.refl e63 F51 (g := (mkF m 29 #[.val (.ref oo), .val (.int (2 : Int32)), .val (.int (0 : Int32))] [(.ref oo), (.ref oo), (.ref x46)])) rfl rfl (hb hby d17_29)
    obtain ⟨T65, h65, X65, e65, W65, st65⟩ := putF X64 hx hZ hown (host := "") (Or.inl (own_w hw 111 rfl)) Via.refl e64 F51 E57 (Or.inl (own_w hw 112 rfl)) (own_w hw 29 rfl) (ty := .int) (by decide) rfl rfl (g := (mkF m 35 #[.val (.ref oo), .val (.int (2 : Int32)), .val (.int (0 : Int32))] [(.int (1 : Int32)), (.ref oo), (.int (0 : Int32)), (.ref x46)])) rfl rfl (hb hby d17_35)
    have Fw65 : Fld Z h65 oo "com/example/fieldglass/fieldglass/io/Marks$Order" "count" "I" (.int (1 : Int32)) := F51.same W65
    have E66 := E57.wr W65
    have A67 := A58.other W65 (Ne.symm hn1)
    have F68 := F50.other W65 (Or.inr (slot_ne (Or.inl (own_w hw 37 rfl)) (Or.inl (own_w hw 112 rfl)) (by decide) (t := (.array .long)) (t' := .int) (by decide) (by decide)))
    have F69 := F52.other W65 (Or.inr (slot_ne (Or.inl (own_w hw 110 rfl)) (Or.inl (own_w hw 112 rfl)) (by decide) (t := .long) (t' := .int) (by decide) (by decide)))
    have F70 := F53.other W65 (Or.inr (slot_ne (Or.inl (own_w hw 151 rfl)) (Or.inl (own_w hw 112 rfl)) (by decide) (t := .long) (t' := .int) (by decide) (by decide)))
    have G71 := G54.other W65 (Ne.symm ne60)
    have N65 := Fr.snoc X65 N45 hoo
    have K65 : Keep h0 h65 [oo] := K45.wr W65 (Or.inl (List.mem_of_getElem? (i := 0) rfl))
    have Zs72 : n0 ≤ h65.size := (Nat.le_trans Zs59 (Keep.of_wr W65).1)
    have oc73 := G71
    obtain ⟨c73, Arc73, Sc73, Hc73⟩ := oc73
    have hin74 : ¬ ((0 : Int32) < 0 ∨ c73.slots.size ≤ ((0 : Int32)).toNatClampNeg) := (own_ix_in Sc73 (⟨rfl, by decide⟩ : own_ix (0 : Int32) 0))
    obtain ⟨T74, h74, X74, e74, W74, st74⟩ := stJ X65 hx hZ e65 Arc73 (j := (0 : Int32)) hin74 (g := (mkF m 41 #[.val (.ref oo), .val (.int (2 : Int32)), .val (.int (0 : Int32))] [(.long (-1 : Int64)), (.int (0 : Int32)), (.ref x46)])) rfl rfl (hb hby d17_41)
    have V74 : own_Fa Value.long .long Z h74 x46 16 (own_up (fun _ => (0 : Int64)) 0 (-1 : Int64)) := own_Fa_setk Arc73 Sc73 Hc73 W74 (own_ix_nat (⟨rfl, by decide⟩ : own_ix (0 : Int32) 0))
    have E75 := E66.wr W74
    have A76 := A67.other W74 ne61
    have F77 := F68.other W74 (Or.inl ne60)
    have F78 := F69.other W74 (Or.inl ne60)
    have F79 := F70.other W74 (Or.inl ne60)
    have F80 := Fw65.other W74 (Or.inl ne60)
    have N74 := Fr.snoc X74 N65 hpq48
    have K74 : Keep h0 h74 [oo] := K65.wr W74 (Or.inr sz62)
    have Zs81 : n0 ≤ h74.size := (Nat.le_trans Zs72 (Keep.of_wr W74).1)
    obtain ⟨T82, X82, e82, st82⟩ := getF X74 hx hZ hown (host := "") (Or.inl (own_w hw 111 rfl)) Via.refl e74 F80 (g := (mkF m 8 #[.val (.ref oo), .val (.int (2 : Int32)), .val (.int (1 : Int32))] [(.ref oo)])) rfl rfl (hb hby d17_8)
    obtain ⟨T83, X83, e83, st83⟩ := getF X82 hx hZ hown (host := "") (Or.inl (own_w hw 36 rfl)) Via.refl e82 F77 (g := (mkF m 12 #[.val (.ref oo), .val (.int (2 : Int32)), .val (.int (1 : Int32))] [(.ref oo), (.int (1 : Int32))])) rfl rfl (hb hby d17_12)
    have oc84 := V74
    obtain ⟨c84, Arc84, Sc84, Hc84⟩ := oc84
    obtain ⟨T85, X85, e85, st85⟩ := getF X83 hx hZ hown (host := "") (Or.inl (own_w hw 36 rfl)) Via.refl e83 F77 (g := (mkF m 24 #[.val (.ref oo), .val (.int (2 : Int32)), .val (.int (1 : Int32))] [(.ref oo)])) rfl rfl (hb hby d17_24)
    obtain ⟨T86, X86, e86, st86⟩ := getF X85 hx hZ hown (host := "") (Or.inl (own_w hw 111 rfl)) Via.refl e85 F80 (g := (mkF m 29 #[.val (.ref oo), .val (.int (2 : Int32)), .val (.int (1 : Int32))] [(.ref oo), (.ref oo), (.ref x46)])) rfl rfl (hb hby d17_29)
    obtain ⟨T87, h87, X87, e87, W87, st87⟩ := putF X86 hx hZ hown (host := "") (Or.inl (own_w hw 111 rfl)) Via.refl e86 F80 E75 (Or.inl (own_w hw 112 rfl)) (own_w hw 29 rfl) (ty := .int) (by decide) rfl rfl (g := (mkF m 35 #[.val (.ref oo), .val (.int (2 : Int32)), .val (.int (1 : Int32))] [(.int (2 : Int32)), (.ref oo), (.int (1 : Int32)), (.ref x46)])) rfl rfl (hb hby d17_35)
    have Fw87 : Fld Z h87 oo "com/example/fieldglass/fieldglass/io/Marks$Order" "count" "I" (.int (2 : Int32)) := F80.same W87
    have E88 := E75.wr W87
    have A89 := A76.other W87 (Ne.symm hn1)
    have F90 := F77.other W87 (Or.inr (slot_ne (Or.inl (own_w hw 37 rfl)) (Or.inl (own_w hw 112 rfl)) (by decide) (t := (.array .long)) (t' := .int) (by decide) (by decide)))
    have F91 := F78.other W87 (Or.inr (slot_ne (Or.inl (own_w hw 110 rfl)) (Or.inl (own_w hw 112 rfl)) (by decide) (t := .long) (t' := .int) (by decide) (by decide)))
    have F92 := F79.other W87 (Or.inr (slot_ne (Or.inl (own_w hw 151 rfl)) (Or.inl (own_w hw 112 rfl)) (by decide) (t := .long) (t' := .int) (by decide) (by decide)))
    have G93 := V74.other W87 (Ne.symm ne60)
    have N87 := Fr.snoc X87 N74 hoo
    have K87 : Keep h0 h87 [oo] := K74.wr W87 (Or.inl (List.mem_of_getElem? (i := 0) rfl))
    have Zs94 : n0 ≤ h87.size := (Nat.le_trans Zs81 (Keep.of_wr W87).1)
    have oc95 := G93
    obtain ⟨c95, Arc95, Sc95, Hc95⟩ := oc95
    have hin96 : ¬ ((1 : Int32) < 0 ∨ c95.slots.size ≤ ((1 : Int32)).toNatClampNeg) := (own_ix_in Sc95 (⟨rfl, by decide⟩ : own_ix (1 : Int32) 1))
    obtain ⟨T96, h96, X96, e96, W96, st96⟩ := stJ X87 hx hZ e87 Arc95 (j := (1 : Int32)) hin96 (g := (mkF m 41 #[.val (.ref oo), .val (.int (2 : Int32)), .val (.int (1 : Int32))] [(.long (-1 : Int64)), (.int (1 : Int32)), (.ref x46)])) rfl rfl (hb hby d17_41)
    have V96 : own_Fa Value.long .long Z h96 x46 16 (own_up (own_up (fun _ => (0 : Int64)) 0 (-1 : Int64)) 1 (-1 : Int64)) := own_Fa_setk Arc95 Sc95 Hc95 W96 (own_ix_nat (⟨rfl, by decide⟩ : own_ix (1 : Int32) 1))
    have E97 := E88.wr W96
    have A98 := A89.other W96 ne61
    have F99 := F90.other W96 (Or.inl ne60)
    have F100 := F91.other W96 (Or.inl ne60)
    have F101 := F92.other W96 (Or.inl ne60)
    have F102 := Fw87.other W96 (Or.inl ne60)
    have N96 := Fr.snoc X96 N87 hpq48
    have K96 : Keep h0 h96 [oo] := K87.wr W96 (Or.inr sz62)
    have Zs103 : n0 ≤ h96.size := (Nat.le_trans Zs94 (Keep.of_wr W96).1)
    have pre104 := fun (t : State) (k : Steps p.tables e below (T96.setTop (mkF m 48 #[.val (.ref oo), .val (.int (2 : Int32)), .val (.int (2 : Int32))] [])) t) => pre0 t (by
      refine XS.iconst X0.here hx rfl (hb hby d17_0) ?_
      refine XS.istoreN X0.here hx rfl (hb hby d17_1) rfl (l' := #[.val (.ref oo), .val (.int (2 : Int32)), .val (.int (0 : Int32))]) rfl ?_
      refine XS.iloadN X0.here hx rfl (hb hby d17_2) rfl ?_
      refine XS.iloadN X0.here hx rfl (hb hby d17_3) rfl ?_
      refine XS.icmpNo X0.here hx rfl (hb hby d17_4) rfl (tlt (by decide : (0 : Int32) < (2 : Int32))).2.1 ?_
      refine XS.aloadN X0.here hx rfl (hb hby d17_7) rfl rfl ?_
      refine st42 _ ?_
      refine XS.aloadN X42.here hx rfl (hb hby d17_11) rfl rfl ?_
      refine st43 _ ?_
      refine X43.arraylength hx (by rw [e43]; exact Arc44.1) (State.isArrayOf_alike hZ.alike Arc44.2.1) (g := (mkF m 15 #[.val (.ref oo), .val (.int (2 : Int32)), .val (.int (0 : Int32))] [(.ref al), (.int (0 : Int32))])) rfl rfl (hb hby d17_15) _ ?_
      rw [show c44.slots.size.toInt32 = (0 : Int32) from (len_of Sc44 Nc44)]
      refine XS.icmpNo X43.here hx rfl (hb hby d17_16) rfl (teq (by decide : (0 : Int32) = (0 : Int32))).2 ?_
      refine XS.aloadN X43.here hx rfl (hb hby d17_19) rfl rfl ?_
      refine st45.trans ?_
      refine XS.aloadN X45.here hx rfl (hb hby d17_23) rfl rfl ?_
      refine st63 _ ?_
      refine XS.aloadN X63.here hx rfl (hb hby d17_27) rfl rfl ?_
      refine XS.dup X63.here hx rfl (hb hby d17_28) rfl rfl ?_
      refine st64 _ ?_
      refine XS.dupX1 X64.here hx rfl (hb hby d17_32) rfl rfl rfl ?_
      refine XS.iconst X64.here hx rfl (hb hby d17_33) ?_
      refine XS.iadd X64.here hx rfl (hb hby d17_34) rfl ?_
      refine st65 _ ?_
      refine X65.ldc2Long hx hown (mvT hZ (own_w hw 124 rfl)) (g := (mkF m 38 #[.val (.ref oo), .val (.int (2 : Int32)), .val (.int (0 : Int32))] [(.int (0 : Int32)), (.ref x46)])) rfl (hb hby d17_38) _ ?_
      refine st74 _ ?_
      refine XS.iinc X74.here hx rfl (hb hby d17_42) rfl (l' := #[.val (.ref oo), .val (.int (2 : Int32)), .val (.int (1 : Int32))]) rfl ?_
      refine XS.goto X74.here hx rfl (pc0 := 45) (pc' := 2) rfl (hb hby d17_45) (by decide) (by decide) ?_
      refine XS.iloadN X74.here hx rfl (hb hby d17_2) rfl ?_
      refine XS.iloadN X74.here hx rfl (hb hby d17_3) rfl ?_
      refine XS.icmpNo X74.here hx rfl (hb hby d17_4) rfl (tlt (by decide : (1 : Int32) < (2 : Int32))).2.1 ?_
      refine XS.aloadN X74.here hx rfl (hb hby d17_7) rfl rfl ?_
      refine st82 _ ?_
      refine XS.aloadN X82.here hx rfl (hb hby d17_11) rfl rfl ?_
      refine st83 _ ?_
      refine X83.arraylength hx (by rw [e83]; exact Arc84.1) (State.isArrayOf_alike hZ.alike Arc84.2.1) (g := (mkF m 15 #[.val (.ref oo), .val (.int (2 : Int32)), .val (.int (1 : Int32))] [(.ref x46), (.int (1 : Int32))])) rfl rfl (hb hby d17_15) _ ?_
      rw [show c84.slots.size.toInt32 = (16 : Int32) from (by rw [Sc84]; rfl)]
      refine XS.icmpYes X83.here hx rfl (pc0 := 16) (pc' := 23) rfl (hb hby d17_16) rfl (feq (by decide : ¬ ((1 : Int32) = (16 : Int32)))).2 (by decide) (by decide) ?_
      refine XS.aloadN X83.here hx rfl (hb hby d17_23) rfl rfl ?_
      refine st85 _ ?_
      refine XS.aloadN X85.here hx rfl (hb hby d17_27) rfl rfl ?_
      refine XS.dup X85.here hx rfl (hb hby d17_28) rfl rfl ?_
      refine st86 _ ?_
      refine XS.dupX1 X86.here hx rfl (hb hby d17_32) rfl rfl rfl ?_
      refine XS.iconst X86.here hx rfl (hb hby d17_33) ?_
      refine XS.iadd X86.here hx rfl (hb hby d17_34) rfl ?_
      refine st87 _ ?_
      refine X87.ldc2Long hx hown (mvT hZ (own_w hw 124 rfl)) (g := (mkF m 38 #[.val (.ref oo), .val (.int (2 : Int32)), .val (.int (1 : Int32))] [(.int (1 : Int32)), (.ref x46)])) rfl (hb hby d17_38) _ ?_
      refine st96 _ ?_
      refine XS.iinc X96.here hx rfl (hb hby d17_42) rfl (l' := #[.val (.ref oo), .val (.int (2 : Int32)), .val (.int (2 : Int32))]) rfl ?_
      refine XS.goto X96.here hx rfl (pc0 := 45) (pc' := 2) rfl (hb hby d17_45) (by decide) (by decide) ?_
      refine XS.iloadN X96.here hx rfl (hb hby d17_2) rfl ?_
      refine XS.iloadN X96.here hx rfl (hb hby d17_3) rfl ?_
      refine XS.icmpYes X96.here hx rfl (pc0 := 4) (pc' := 48) rfl (hb hby d17_4) rfl (flt (by decide : ¬ ((2 : Int32) < (2 : Int32)))).2.1 (by decide) (by decide) ?_
      exact k)
    obtain ⟨fs, hr, hrun, hended, hW, hsame⟩ := X96.leave (v := none) (hlocks := BodyLoose.notSynchronized Bd) (fun _ => rfl)
    refine ⟨_, _, pre104 _ ?_, hrun, hended, _, _, rfl, ?_, ⟨_, rfl⟩, hW, hsame.mono (by decide) (by decide)⟩
    · exact X96.returnOut hx Bd.returns (hb hby d17_48) hr
    · show Q_apG Z oo al kl (2 : Int32) h0 n0 _ T96.heap _
      rw [e96]
      exact ⟨x46, (own_up (own_up (fun _ => (0 : Int64)) 0 (-1 : Int64)) 1 (-1 : Int64)), (2 : Int32), rfl, N96, K96, hpq48, sz62, own_apG2, F99, F102, F100, F101, V96⟩

theorem ef_ap0 (m : MethodId) (x0 : Addr) (x1 : Int32) : entryFrame m #[(.ref x0), (.int x1)] 3 = mkF m 0 #[.val (.ref x0), .val (.int x1), .unset] [] := by first | (simp [entryFrame, mkF, argsToLocals, Value.category]; done) | rfl
def Q_ap0 (Z : State) (oo : Addr) (kq : Int32) (h0 : Heap) (n0 : Nat) (v : Option Value) (h : Heap) (L : List Loc) : Prop := v = none ∧ Fr n0 L ∧ h = h0
set_option maxRecDepth 65536 in
set_option maxHeartbeats 40000000 in
theorem rm_ap0 (l : Launch) (Z : State) (a0 : Array Value) (hw : ∀ d ∈ tables_1, d.before a0 Z = true) (ws : List Jvm.Cond) (oo : Addr) (kq : Int32) (h0 : Heap) (n0 : Nat) (Z0 : n0 ≤ h0.size) (hk : kq = (0 : Int32)) :
    MetFree l (⟨"com/example/fieldglass/fieldglass/io/Marks$Order", "appendUnmarked", "(I)V"⟩ : MethodName) (head1 (Jvm.Cond.code (⟨"com/example/fieldglass/fieldglass/io/Marks$Order", "appendUnmarked", "(I)V"⟩ : MethodName) prog_14_method_3_code 3 none :: ws) ({ frames := 0, cells := 0, slots := 0, locals := 0 } : Room)) (fun as_ U_ => as_ = #[(.ref oo), (.int kq)] ∧ Z.Warmed39 U_.vm ∧ U_.heap = h0) (fun _ _ _ _ _ => True) (fun _ U o U' => ∃ v L, o = .returned v ∧ Q_ap0 Z oo kq h0 n0 v U'.heap L ∧ FrameEnd U o U' L ({ frames := 0, cells := 0, slots := 0, locals := 0 } : Room).cells ({ frames := 0, cells := 0, slots := 0, locals := 0 } : Room).slots) := by
  refine MetFree.of_bodySF (plainFor_of_name pn_1) hisR ?_
  intro p e s m args below meth c s₁ Bd hml0 hP hK
  obtain ⟨rfl, hZ, hhp_⟩ := hP
  have hx := Bd.exec
  have hby := Bd.bytes
  have hml : c.maxLocals = 3 := hml0
  have hown : s.vm.findClass "com/example/fieldglass/fieldglass/io/Marks$Order" = some m.cls := findClass_of_methodNamed Bd.named
  have hnm := (name_of_methodNamed Bd.named Bd.method).1
  have X0 : Stand p l e ({ frames := 0, cells := 0, slots := 0, locals := 0 } : Room) s m #[(.ref oo), (.int kq)] below meth c s₁ [] 0 0 := Stand.of_body Bd
  have e0 : s₁.heap = h0 := by rw [← hhp_, Bd.state]; rfl
  have N0 := Fr.nil n0
  have pre0 : ∀ t, Steps p.tables e below (s₁.setTop (mkF m 0 #[.val (.ref oo), .val (.int kq), .unset] [])) t → Steps p.tables e below (s₁.setTop (entryFrame m #[(.ref oo), (.int kq)] 3)) t := fun t k => castTop (ef_ap0 m oo kq) k
  have hk_ := hk
  rcases hk_ with rfl
  · have pre1 := fun (t : State) (k : Steps p.tables e below (s₁.setTop (mkF m 48 #[.val (.ref oo), .val (.int (0 : Int32)), .val (.int (0 : Int32))] [])) t) => pre0 t (by
      refine XS.iconst X0.here hx rfl (hb hby d17_0) ?_
      refine XS.istoreN X0.here hx rfl (hb hby d17_1) rfl (l' := #[.val (.ref oo), .val (.int (0 : Int32)), .val (.int (0 : Int32))]) rfl ?_
      refine XS.iloadN X0.here hx rfl (hb hby d17_2) rfl ?_
      refine XS.iloadN X0.here hx rfl (hb hby d17_3) rfl ?_
      refine XS.icmpYes X0.here hx rfl (pc0 := 4) (pc' := 48) rfl (hb hby d17_4) rfl (flt (by decide : ¬ ((0 : Int32) < (0 : Int32)))).2.1 (by decide) (by decide) ?_
      exact k)
    obtain ⟨fs, hr, hrun, hended, hW, hsame⟩ := X0.leave (v := none) (hlocks := BodyLoose.notSynchronized Bd) (fun _ => rfl)
    refine ⟨_, _, pre1 _ ?_, hrun, hended, _, _, rfl, ?_, ⟨_, rfl⟩, hW, hsame.mono (by decide) (by decide)⟩
    · exact X0.returnOut hx Bd.returns (hb hby d17_48) hr
    · show Q_ap0 Z oo (0 : Int32) h0 n0 _ s₁.heap _
      rw [e0]
      exact ⟨rfl, N0, rfl⟩

theorem ef_ose (m : MethodId) (x0 : Addr) (x1 : Int64) (x2 : Int64) : entryFrame m #[(.ref x0), (.long x1), (.long x2)] 6 = mkF m 0 #[.val (.ref x0), .val (.long x1), .second, .val (.long x2), .second, .unset] [] := by first | (simp [entryFrame, mkF, argsToLocals, Value.category]; done) | rfl
def Q_ose (Z : State) (oo : Addr) (ah : Addr) (hd : Nat → Int64) (pl : Int64) (pn : Nat) (site : Int64) (h0 : Heap) (n0 : Nat) (v : Option Value) (h : Heap) (L : List Loc) : Prop := v = none ∧ Fr n0 L ∧ Keep h0 h [ah] ∧ own_Fa Value.long .long Z h ah 16 (own_up hd pn site)
set_option maxRecDepth 65536 in
set_option maxHeartbeats 40000000 in
theorem rm_ose (l : Launch) (Z : State) (a0 : Array Value) (hw : ∀ d ∈ tables_1, d.before a0 Z = true) (ws : List Jvm.Cond) (oo : Addr) (ah : Addr) (hd : Nat → Int64) (pl : Int64) (pn : Nat) (site : Int64) (h0 : Heap) (n0 : Nat) (Z0 : n0 ≤ h0.size) (H0_F : Fld Z h0 oo "com/example/fieldglass/fieldglass/io/Marks$Order" "held" "[J" (.ref ah)) (H1_F : Fld Z h0 oo "com/example/fieldglass/fieldglass/io/Marks$Order" "spilled" "J" (.long (0 : Int64))) (H2_G : own_Fa Value.long .long Z h0 ah 16 hd) (hp : own_pl pl pn) (hah : n0 ≤ ah) (hn1 : oo ≠ ah) :
    MetFree l (⟨"com/example/fieldglass/fieldglass/io/Marks$Order", "set", "(JJ)V"⟩ : MethodName) (head1 (Jvm.Cond.codeWith (⟨"com/example/fieldglass/fieldglass/io/Marks$Order", "set", "(JJ)V"⟩ : MethodName) prog_14_method_4_code 6 none [((25 : Nat), (44 : Nat), (47 : Nat), (53 : Nat))] :: ws) ({ frames := 0, cells := 0, slots := 0, locals := 0 } : Room)) (fun as_ U_ => as_ = #[(.ref oo), (.long pl), (.long site)] ∧ Z.Warmed39 U_.vm ∧ U_.heap = h0) (fun _ _ _ _ _ => True) (fun _ U o U' => ∃ v L, o = .returned v ∧ Q_ose Z oo ah hd pl pn site h0 n0 v U'.heap L ∧ FrameEnd U o U' L ({ frames := 0, cells := 0, slots := 0, locals := 0 } : Room).cells ({ frames := 0, cells := 0, slots := 0, locals := 0 } : Room).slots) := by
  refine MetFree.of_bodySF (plainFor_of_name pn_1) hisWith ?_
  intro p e s m args below meth c s₁ Bd hml0 hP hK
  obtain ⟨rfl, hZ, hhp_⟩ := hP
  have hx := Bd.exec
  have hby := Bd.bytes
  have hml : c.maxLocals = 6 := hml0
  have hown : s.vm.findClass "com/example/fieldglass/fieldglass/io/Marks$Order" = some m.cls := findClass_of_methodNamed Bd.named
  have hnm := (name_of_methodNamed Bd.named Bd.method).1
  have X0 : Stand p l e ({ frames := 0, cells := 0, slots := 0, locals := 0 } : Room) s m #[(.ref oo), (.long pl), (.long site)] below meth c s₁ [] 0 0 := Stand.of_body Bd
  have e0 : s₁.heap = h0 := by rw [← hhp_, Bd.state]; rfl
  have N0 := Fr.nil n0
  have pre0 : ∀ t, Steps p.tables e below (s₁.setTop (mkF m 0 #[.val (.ref oo), .val (.long pl), .second, .val (.long site), .second, .unset] [])) t → Steps p.tables e below (s₁.setTop (entryFrame m #[(.ref oo), (.long pl), (.long site)] 6)) t := fun t k => castTop (ef_ose m oo pl site) k
  have K0 : Keep h0 h0 [ah] := Keep.refl h0 [ah]
  obtain ⟨T1, X1, e1, st1⟩ := getF X0 hx hZ hown (host := "") (Or.inl (own_w hw 109 rfl)) Via.refl e0 H1_F (g := (mkF m 2 #[.val (.ref oo), .val (.long pl), .second, .val (.long site), .second, .unset] [(.ref oo), (.long pl)])) rfl rfl (hb hby d19_2)
  obtain ⟨T2, X2, e2, st2⟩ := getF X1 hx hZ hown (host := "") (Or.inl (own_w hw 36 rfl)) Via.refl e1 H0_F (g := (mkF m 10 #[.val (.ref oo), .val (.long pl), .second, .val (.long site), .second, .unset] [(.ref oo)])) rfl rfl (hb hby d19_10)
  obtain ⟨T3, X3, e3, st3⟩ := getF X2 hx hZ hown (host := "") (Or.inl (own_w hw 109 rfl)) Via.refl e2 H1_F (g := (mkF m 15 #[.val (.ref oo), .val (.long pl), .second, .val (.long site), .second, .unset] [(.ref oo), (.long pl), (.ref ah)])) rfl rfl (hb hby d19_15)
  have hxp : own_ix ((pl - (0 : Int64)).toInt32) pn := own_pl_ix hp
  have oc4 := H2_G
  obtain ⟨c4, Arc4, Sc4, Hc4⟩ := oc4
  have hin5 : ¬ (((pl - (0 : Int64)).toInt32) < 0 ∨ c4.slots.size ≤ (((pl - (0 : Int64)).toInt32)).toNatClampNeg) := (own_ix_in Sc4 hxp)
  obtain ⟨T5, h5, X5, e5, W5, st5⟩ := stJ X3 hx hZ e3 Arc4 (j := ((pl - (0 : Int64)).toInt32)) hin5 (g := (mkF m 21 #[.val (.ref oo), .val (.long pl), .second, .val (.long site), .second, .unset] [(.long site), (.int ((pl - (0 : Int64)).toInt32)), (.ref ah)])) rfl rfl (hb hby d19_21)
  have V5 : own_Fa Value.long .long Z h5 ah 16 (own_up hd pn site) := own_Fa_setk Arc4 Sc4 Hc4 W5 (own_ix_nat hxp)
  have F6 := H0_F.other W5 (Or.inl hn1)
  have F7 := H1_F.other W5 (Or.inl hn1)
  have N5 := Fr.snoc X5 N0 hah
  have K5 : Keep h0 h5 [ah] := K0.wr W5 (Or.inl (List.mem_of_getElem? (i := 0) rfl))
  have Zs8 : n0 ≤ h5.size := (Nat.le_trans Z0 (Keep.of_wr W5).1)
  have pre9 := fun (t : State) (k : Steps p.tables e below (T5.setTop (mkF m 61 #[.val (.ref oo), .val (.long pl), .second, .val (.long site), .second, .unset] [])) t) => pre0 t (by
    refine XS.lloadN X0.here hx rfl (hb hby d19_0) rfl ?_
    refine XS.aloadN X0.here hx rfl (hb hby d19_1) rfl rfl ?_
    refine st1 _ ?_
    refine XS.lcmp X1.here hx rfl (hb hby d19_5) rfl ?_
    refine XS.ifNo X1.here hx rfl (hb hby d19_6) rfl ((if0 _ _).trans (flt (own_pl_ge hp)).1) ?_
    refine XS.aloadN X1.here hx rfl (hb hby d19_9) rfl rfl ?_
    refine st2 _ ?_
    refine XS.lloadN X2.here hx rfl (hb hby d19_13) rfl ?_
    refine XS.aloadN X2.here hx rfl (hb hby d19_14) rfl rfl ?_
    refine st3 _ ?_
    refine XS.lsub X3.here hx rfl (hb hby d19_18) rfl ?_
    refine XS.l2i X3.here hx rfl (hb hby d19_19) rfl ?_
    refine XS.lloadN X3.here hx rfl (hb hby d19_20) rfl ?_
    refine st5 _ ?_
    refine XS.goto X5.here hx rfl (pc0 := 22) (pc' := 61) rfl (hb hby d19_22) (by decide) (by decide) ?_
    exact k)
  obtain ⟨fs, hr, hrun, hended, hW, hsame⟩ := X5.leave (v := none) (hlocks := BodyLoose.notSynchronized Bd) (fun _ => rfl)
  refine ⟨_, _, pre9 _ ?_, hrun, hended, _, _, rfl, ?_, ⟨_, rfl⟩, hW, hsame.mono (by decide) (by decide)⟩
  · exact X5.returnOut hx Bd.returns (hb hby d19_61) hr
  · show Q_ose Z oo ah hd pl pn site h0 n0 _ T5.heap _
    rw [e5]
    exact ⟨rfl, N5, K5, V5⟩

theorem ef_mkN (m : MethodId) (x0 : Addr) (x1 : Int32) (x2 : Int64) (x3 : Int64) : entryFrame m #[(.ref x0), (.int x1), (.long x2), (.long x3)] 6 = mkF m 0 #[.val (.ref x0), .val (.int x1), .val (.long x2), .second, .val (.long x3), .second] [] := by first | (simp [entryFrame, mkF, argsToLocals, Value.category]; done) | rfl
def Q_mkN (Z : State) (dd : Addr) (oo : Addr) (am : Addr) (af : Addr) (ai : Addr) (as_ : Addr) (mg : Nat → Int32) (ff : Nat → Int64) (fg : Nat → Int32) (sg : Nat → Int64) (ah : Addr) (hd : Nat → Int64) (cn : Int32) (sl : Int32) (dp : Int32) (lev : Int32) (ln : Nat) (site : Int64) (off : Int64) (pn : Nat) (h0 : Heap) (n0 : Nat) (v : Option Value) (h : Heap) (L : List Loc) : Prop := v = none ∧ Fr n0 L ∧ Keep h0 h [ah] ∧ own_Fa Value.long .long Z h ah 16 (own_up hd pn site)
set_option maxRecDepth 65536 in
set_option maxHeartbeats 40000000 in
theorem rm_mkN (l : Launch) (Z : State) (a0 : Array Value) (hw : ∀ d ∈ tables_1, d.before a0 Z = true) (ws : List Jvm.Cond) (dd : Addr) (oo : Addr) (am : Addr) (af : Addr) (ai : Addr) (as_ : Addr) (mg : Nat → Int32) (ff : Nat → Int64) (fg : Nat → Int32) (sg : Nat → Int64) (ah : Addr) (hd : Nat → Int64) (cn : Int32) (sl : Int32) (dp : Int32) (lev : Int32) (ln : Nat) (site : Int64) (off : Int64) (pn : Nat) (h0 : Heap) (n0 : Nat) (Z0 : n0 ≤ h0.size) (H0_E : Exa Z h0 dd "com/example/fieldglass/fieldglass/io/Marks") (H1_F : Fld Z h0 dd "com/example/fieldglass/fieldglass/io/Marks" "messages" "[Z" (.ref am)) (H2_F : Fld Z h0 dd "com/example/fieldglass/fieldglass/io/Marks" "firstFieldSites" "[J" (.ref af)) (H3_F : Fld Z h0 dd "com/example/fieldglass/fieldglass/io/Marks" "fieldSites" "[I" (.ref ai)) (H4_F : Fld Z h0 dd "com/example/fieldglass/fieldglass/io/Marks" "slots" "[J" (.ref as_)) (H5_F : Fld Z h0 dd "com/example/fieldglass/fieldglass/io/Marks" "slotted" "I" (.int sl)) (H6_F : Fld Z h0 dd "com/example/fieldglass/fieldglass/io/Marks" "deepestFields" "I" (.int dp)) (H7_F : Fld Z h0 dd "com/example/fieldglass/fieldglass/io/Marks" "marking" "Z" (.int (1 : Int32))) (H8_F : Fld Z h0 dd "com/example/fieldglass/fieldglass/io/Marks" "order" "Lcom/example/fieldglass/fieldglass/io/Marks$Order;" (.ref oo)) (H9_F : Fld Z h0 dd "com/example/fieldglass/fieldglass/io/Marks" "next" "J" (.long (9223372036854775807 : Int64))) (H10_G : own_Fa Value.int .boolean Z h0 am 16 mg) (H11_G : own_Fa Value.long .long Z h0 af 16 ff) (H12_G : own_Fa Value.int .int Z h0 ai 16 fg) (H13_G : own_Fa Value.long .long Z h0 as_ 16 sg) (H14_E : Exa Z h0 oo "com/example/fieldglass/fieldglass/io/Marks$Order") (H15_F : Fld Z h0 oo "com/example/fieldglass/fieldglass/io/Marks$Order" "held" "[J" (.ref ah)) (H16_F : Fld Z h0 oo "com/example/fieldglass/fieldglass/io/Marks$Order" "count" "I" (.int cn)) (H17_F : Fld Z h0 oo "com/example/fieldglass/fieldglass/io/Marks$Order" "spilled" "J" (.long (0 : Int64))) (H18_F : Fld Z h0 oo "com/example/fieldglass/fieldglass/io/Marks$Order" "read" "J" (.long (0 : Int64))) (H19_G : own_Fa Value.long .long Z h0 ah 16 hd) (hn_dd_oo : dd ≠ oo) (hn_dd_am : dd ≠ am) (hn_dd_af : dd ≠ af) (hn_dd_ai : dd ≠ ai) (hn_dd_as_ : dd ≠ as_) (hn_dd_ah : dd ≠ ah) (hn_oo_am : oo ≠ am) (hn_oo_af : oo ≠ af) (hn_oo_ai : oo ≠ ai) (hn_oo_as_ : oo ≠ as_) (hn_oo_ah : oo ≠ ah) (hn_am_af : am ≠ af) (hn_am_ai : am ≠ ai) (hn_am_as_ : am ≠ as_) (hn_am_ah : am ≠ ah) (hn_af_ai : af ≠ ai) (hn_af_as_ : af ≠ as_) (hn_af_ah : af ≠ ah) (hn_ai_as_ : ai ≠ as_) (hn_ai_ah : ai ≠ ah) (hn_as__ah : as_ ≠ ah) (hg_ah : n0 ≤ ah) (hl : own_ix lev ln) (hls : lev < sl) (hp : own_pl ((sg ln) + off) pn) :
    MetFree l (⟨"com/example/fieldglass/fieldglass/io/Marks", "mark", "(IJJ)V"⟩ : MethodName) (head1 (Jvm.Cond.code (⟨"com/example/fieldglass/fieldglass/io/Marks", "mark", "(IJJ)V"⟩ : MethodName) prog_13_method_8_code 6 none :: ws) ({ frames := 1, cells := 0, slots := 0, locals := 17 } : Room)) (fun as_ U_ => as_ = #[(.ref dd), (.int lev), (.long off), (.long site)] ∧ Z.Warmed39 U_.vm ∧ U_.heap = h0) (fun _ _ _ _ _ => True) (fun _ U o U' => ∃ v L, o = .returned v ∧ Q_mkN Z dd oo am af ai as_ mg ff fg sg ah hd cn sl dp lev ln site off pn h0 n0 v U'.heap L ∧ FrameEnd U o U' L ({ frames := 1, cells := 0, slots := 0, locals := 17 } : Room).cells ({ frames := 1, cells := 0, slots := 0, locals := 17 } : Room).slots) := by
  refine MetFree.of_bodySF (plainFor_of_name pn_2) hisR ?_
  intro p e s m args below meth c s₁ Bd hml0 hP hK
  obtain ⟨rfl, hZ, hhp_⟩ := hP
  have hx := Bd.exec
  have hby := Bd.bytes
  have hml : c.maxLocals = 6 := hml0
  have hown : s.vm.findClass "com/example/fieldglass/fieldglass/io/Marks" = some m.cls := findClass_of_methodNamed Bd.named
  have hnm := (name_of_methodNamed Bd.named Bd.method).1
  have X0 : Stand p l e ({ frames := 1, cells := 0, slots := 0, locals := 17 } : Room) s m #[(.ref dd), (.int lev), (.long off), (.long site)] below meth c s₁ [] 0 0 := Stand.of_body Bd
  have e0 : s₁.heap = h0 := by rw [← hhp_, Bd.state]; rfl
  have N0 := Fr.nil n0
  have pre0 : ∀ t, Steps p.tables e below (s₁.setTop (mkF m 0 #[.val (.ref dd), .val (.int lev), .val (.long off), .second, .val (.long site), .second] [])) t → Steps p.tables e below (s₁.setTop (entryFrame m #[(.ref dd), (.int lev), (.long off), (.long site)] 6)) t := fun t k => castTop (ef_mkN m dd lev off site) k
  have K0 : Keep h0 h0 [ah] := Keep.refl h0 [ah]
  obtain ⟨T1, X1, e1, st1⟩ := getF X0 hx hZ hown (host := "") (Or.inl (own_w hw 26 rfl)) Via.refl e0 H7_F (g := (mkF m 1 #[.val (.ref dd), .val (.int lev), .val (.long off), .second, .val (.long site), .second] [(.ref dd)])) rfl rfl (hb hby d15_1)
  obtain ⟨cq2, q2, q2'⟩ := H0_E.cell
  obtain ⟨_, _, ⟨T2, L2, k2, n2⟩, -, X2, ⟨Lc2, hQ2, l2, y2, z2⟩, st2⟩ := X1.privateBack hx (y := (⟨"com/example/fieldglass/fieldglass/io/Marks", "makeRoomFor", "(I)V"⟩ : MethodName)) hown (mvT hZ (own_w hw 50 rfl)) (mvT hZ (own_w hw 51 rfl)) (own_sel_priv (z := (⟨"com/example/fieldglass/fieldglass/io/Marks", "beginMessage", "(I)V"⟩ : MethodName)) (mvT hZ (own_w hw 48 rfl)) rfl (mvP hZ (own_w hw 52 rfl)) (mvT hZ (own_w hw 51 rfl)) (by decide)) (Cond.privateMethod_at (mvP hZ (own_w hw 52 rfl) (args := #[]))) (mvT hZ (own_w hw 53 rfl)) (by decide) (backOf (W := 0) (rm_mrN l Z a0 hw [] dd am mg lev ln h0 n0 Z0 H1_F H10_G hl) hZ (own_w hw 53 rfl) (own_w hw 3 rfl) (by decide) (by decide)) (g := (mkF m 9 #[.val (.ref dd), .val (.int lev), .val (.long off), .second, .val (.long site), .second] [(.int lev), (.ref dd)])) rfl (by rw [hml]; rfl) (Steps.refl _) (a := dd) (by rw [e1]; exact q2) q2' (argsL := [(.int lev)]) (rest := []) (lenOf pd_5 rfl) rfl (by show 2 * 0 + _ ≤ _; exact Nat.le_of_eq rfl) (hb hby d15_9) (fun _ _ => ⟨rfl, e1, (by decide : 0 + 0 ≤ _), (by decide : 0 + 0 ≤ _)⟩)
  dsimp only [Pt.U, Pt.locs, Pt.cells, Pt.slots] at X2 l2 y2 z2 st2 hQ2
  subst l2 y2 z2
  obtain ⟨rfl, N2q, hq3⟩ := hQ2
  have N2 := Fr.app N0 N2q
  obtain ⟨T4, X4, e4, st4⟩ := getF X2 hx hZ hown (host := "") (Or.inl (own_w hw 83 rfl)) Via.refl hq3 H5_F (g := (mkF m 13 #[.val (.ref dd), .val (.int lev), .val (.long off), .second, .val (.long site), .second] [(.ref dd)])) rfl rfl (hb hby d15_13)
  obtain ⟨T5, X5, e5, st5⟩ := getF X4 hx hZ hown (host := "") (Or.inl (own_w hw 40 rfl)) Via.refl e4 H8_F (g := (mkF m 75 #[.val (.ref dd), .val (.int lev), .val (.long off), .second, .val (.long site), .second] [(.ref dd)])) rfl rfl (hb hby d15_75)
  obtain ⟨T6, X6, e6, st6⟩ := getF X5 hx hZ hown (host := "") (Or.inl (own_w hw 22 rfl)) Via.refl e5 H4_F (g := (mkF m 79 #[.val (.ref dd), .val (.int lev), .val (.long off), .second, .val (.long site), .second] [(.ref dd), (.ref oo)])) rfl rfl (hb hby d15_79)
  have oc7 := H13_G
  obtain ⟨c7, Arc7, Sc7, Hc7⟩ := oc7
  have hin8 : ¬ (lev < 0 ∨ c7.slots.size ≤ (lev).toNatClampNeg) := (own_ix_in Sc7 hl)
  obtain ⟨cq9, kq9, q9a, q9b, q9c⟩ := isOf hZ e6 H14_E
  obtain ⟨_, _, ⟨T9, L9, k9, n9⟩, -, X9, ⟨Lc9, hQ9, l9, y9, z9⟩, st9⟩ := X6.virtualBack hx (y := (⟨"com/example/fieldglass/fieldglass/io/Marks$Order", "set", "(JJ)V"⟩ : MethodName)) (z := (⟨"com/example/fieldglass/fieldglass/io/Marks$Order", "set", "(JJ)V"⟩ : MethodName)) hown (mvT hZ (own_w hw 125 rfl)) (mvT hZ (own_w hw 126 rfl)) (notFace_of_selects (args := #[]) (mvT hZ (own_w hw 128 rfl))) (mvT hZ (own_w hw 128 rfl)) (mvT hZ (own_w hw 127 rfl)) (by decide) (backOfWith (W := 0) (rm_ose l Z a0 hw [] oo ah hd ((sg ln) + off) pn site h0 n0 Z0 H15_F H17_F H19_G hp hg_ah hn_oo_ah) hZ (own_w hw 129 rfl) (own_w hw 30 rfl) (by decide) (by decide)) q9a q9c (g := (mkF m 88 #[.val (.ref dd), .val (.int lev), .val (.long off), .second, .val (.long site), .second] [(.long site), (.long ((sg ln) + off)), (.ref oo)])) rfl (by rw [hml]; rfl) (Steps.refl _) (argsL := [(.long ((sg ln) + off)), (.long site)]) (rest := []) (lenOf pd_6 rfl) rfl (by show 2 * 0 + _ ≤ _; exact Nat.le_of_eq rfl) (hb hby d15_88) (fun _ _ => ⟨rfl, e6, (by decide : 0 + 0 ≤ _), (by decide : 0 + 0 ≤ _)⟩)
  dsimp only [Pt.U, Pt.locs, Pt.cells, Pt.slots] at X9 l9 y9 z9 st9 hQ9
  subst l9 y9 z9
  obtain ⟨rfl, N9q, hq10, G11⟩ := hQ9
  have N9 := Fr.app N2 N9q
  have E12 := H0_E.keep hq10
  have F13 := H1_F.keep hq10 (ninS hn_dd_ah nin0)
  have F14 := H2_F.keep hq10 (ninS hn_dd_ah nin0)
  have F15 := H3_F.keep hq10 (ninS hn_dd_ah nin0)
  have F16 := H4_F.keep hq10 (ninS hn_dd_ah nin0)
  have F17 := H5_F.keep hq10 (ninS hn_dd_ah nin0)
  have F18 := H6_F.keep hq10 (ninS hn_dd_ah nin0)
  have F19 := H7_F.keep hq10 (ninS hn_dd_ah nin0)
  have F20 := H8_F.keep hq10 (ninS hn_dd_ah nin0)
  have F21 := H9_F.keep hq10 (ninS hn_dd_ah nin0)
  have G22 := H10_G.keep hq10 (ninS hn_am_ah nin0)
  have G23 := H11_G.keep hq10 (ninS hn_af_ah nin0)
  have G24 := H12_G.keep hq10 (ninS hn_ai_ah nin0)
  have G25 := H13_G.keep hq10 (ninS hn_as__ah nin0)
  have E26 := H14_E.keep hq10
  have F27 := H15_F.keep hq10 (ninS hn_oo_ah nin0)
  have F28 := H16_F.keep hq10 (ninS hn_oo_ah nin0)
  have F29 := H17_F.keep hq10 (ninS hn_oo_ah nin0)
  have F30 := H18_F.keep hq10 (ninS hn_oo_ah nin0)
  have K9 : Keep h0 T9.heap [ah] := K0.trans hq10 (allS (Or.inl (List.mem_of_getElem? (i := 0) rfl)) all0)
  have Zs31 : n0 ≤ T9.heap.size := (Nat.le_trans Z0 hq10.1)
  have pre32 := fun (t : State) (k : Steps p.tables e below (T9.setTop (mkF m 91 #[.val (.ref dd), .val (.int lev), .val (.long off), .second, .val (.long site), .second] [])) t) => pre0 t (by
    refine XS.aloadN X0.here hx rfl (hb hby d15_0) rfl rfl ?_
    refine st1 _ ?_
    refine XS.ifNo X1.here hx rfl (hb hby d15_4) rfl ((if0 _ _).trans (feq (by decide : ¬ ((1 : Int32) = (0 : Int32)))).1) ?_
    refine XS.aloadN X1.here hx rfl (hb hby d15_7) rfl rfl ?_
    refine XS.iloadN X1.here hx rfl (hb hby d15_8) rfl ?_
    refine st2.trans ?_
    refine XS.aloadN X2.here hx rfl (hb hby d15_12) rfl rfl ?_
    refine st4 _ ?_
    refine XS.iloadN X4.here hx rfl (hb hby d15_16) rfl ?_
    refine XS.icmpYes X4.here hx rfl (pc0 := 17) (pc' := 74) rfl (hb hby d15_17) rfl (tlt hls).2.2.1 (by decide) (by decide) ?_
    refine XS.aloadN X4.here hx rfl (hb hby d15_74) rfl rfl ?_
    refine st5 _ ?_
    refine XS.aloadN X5.here hx rfl (hb hby d15_78) rfl rfl ?_
    refine st6 _ ?_
    refine XS.iloadN X6.here hx rfl (hb hby d15_82) rfl ?_
    refine X6.laload hx (j := lev) (v := (.long (sg ln))) (by rw [e6]; exact Arc7.1) (State.isArrayOf_alike hZ.alike Arc7.2.1) Arc7.2.2 hin8 (own_at Hc7 (own_ix_nat hl) (own_inn Sc7 hin8)) (g := (mkF m 83 #[.val (.ref dd), .val (.int lev), .val (.long off), .second, .val (.long site), .second] [(.int lev), (.ref as_), (.ref oo)])) rfl rfl (hb hby d15_83) _ ?_
    refine XS.lloadN X6.here hx rfl (hb hby d15_84) rfl ?_
    refine XS.ladd X6.here hx rfl (hb hby d15_85) rfl ?_
    refine XS.lload X6.here hx rfl (hb hby d15_86) rfl ?_
    refine st9.trans ?_
    exact k)
  obtain ⟨fs, hr, hrun, hended, hW, hsame⟩ := X9.leave (v := none) (hlocks := BodyLoose.notSynchronized Bd) (fun _ => rfl)
  refine ⟨_, _, pre32 _ ?_, hrun, hended, _, _, rfl, ?_, ⟨_, rfl⟩, hW, hsame.mono (by decide) (by decide)⟩
  · exact X9.returnOut hx Bd.returns (hb hby d15_91) hr
  · show Q_mkN Z dd oo am af ai as_ mg ff fg sg ah hd cn sl dp lev ln site off pn h0 n0 _ T9.heap _
    exact ⟨rfl, N9, K9, G11⟩

theorem ef_mk1 (m : MethodId) (x0 : Addr) (x1 : Int32) (x2 : Int64) (x3 : Int64) : entryFrame m #[(.ref x0), (.int x1), (.long x2), (.long x3)] 6 = mkF m 0 #[.val (.ref x0), .val (.int x1), .val (.long x2), .second, .val (.long x3), .second] [] := by first | (simp [entryFrame, mkF, argsToLocals, Value.category]; done) | rfl
def Q_mk1 (Z : State) (dd : Addr) (oo : Addr) (am : Addr) (af : Addr) (ai : Addr) (as_ : Addr) (mg : Nat → Int32) (ff : Nat → Int64) (fg : Nat → Int32) (sg : Nat → Int64) (ah : Addr) (hd : Nat → Int64) (cn : Int32) (dp : Int32) (cz : Nat) (lev : Int32) (ln : Nat) (site : Int64) (off : Int64) (pn : Nat) (h0 : Heap) (n0 : Nat) (v : Option Value) (h : Heap) (L : List Loc) : Prop := ∃ hd' : Nat → Int64, ∃ cn' : Int32, v = none ∧ Fr n0 L ∧ Keep h0 h [dd, oo, as_, ah] ∧ own_ap hd hd' cz (2 : Int32) cn' ∧ Exa Z h dd "com/example/fieldglass/fieldglass/io/Marks" ∧ Fld Z h dd "com/example/fieldglass/fieldglass/io/Marks" "messages" "[Z" (.ref am) ∧ Fld Z h dd "com/example/fieldglass/fieldglass/io/Marks" "firstFieldSites" "[J" (.ref af) ∧ Fld Z h dd "com/example/fieldglass/fieldglass/io/Marks" "fieldSites" "[I" (.ref ai) ∧ Fld Z h dd "com/example/fieldglass/fieldglass/io/Marks" "slots" "[J" (.ref as_) ∧ Fld Z h dd "com/example/fieldglass/fieldglass/io/Marks" "slotted" "I" (.int (lev + (1 : Int32))) ∧ Fld Z h dd "com/example/fieldglass/fieldglass/io/Marks" "deepestFields" "I" (.int dp) ∧ Fld Z h dd "com/example/fieldglass/fieldglass/io/Marks" "marking" "Z" (.int (1 : Int32)) ∧ Fld Z h dd "com/example/fieldglass/fieldglass/io/Marks" "order" "Lcom/example/fieldglass/fieldglass/io/Marks$Order;" (.ref oo) ∧ Fld Z h dd "com/example/fieldglass/fieldglass/io/Marks" "next" "J" (.long (9223372036854775807 : Int64)) ∧ own_Fa Value.int .boolean Z h am 16 mg ∧ own_Fa Value.long .long Z h af 16 ff ∧ own_Fa Value.int .int Z h ai 16 fg ∧ own_Fa Value.long .long Z h as_ 16 (own_up sg ln (own_sz cn)) ∧ Exa Z h oo "com/example/fieldglass/fieldglass/io/Marks$Order" ∧ Fld Z h oo "com/example/fieldglass/fieldglass/io/Marks$Order" "held" "[J" (.ref ah) ∧ Fld Z h oo "com/example/fieldglass/fieldglass/io/Marks$Order" "count" "I" (.int cn') ∧ Fld Z h oo "com/example/fieldglass/fieldglass/io/Marks$Order" "spilled" "J" (.long (0 : Int64)) ∧ Fld Z h oo "com/example/fieldglass/fieldglass/io/Marks$Order" "read" "J" (.long (0 : Int64)) ∧ own_Fa Value.long .long Z h ah 16 (own_up hd' pn site)
set_option maxRecDepth 65536 in
set_option maxHeartbeats 40000000 in
theorem rm_mk1 (l : Launch) (Z : State) (a0 : Array Value) (hw : ∀ d ∈ tables_1, d.before a0 Z = true) (ws : List Jvm.Cond) (dd : Addr) (oo : Addr) (am : Addr) (af : Addr) (ai : Addr) (as_ : Addr) (mg : Nat → Int32) (ff : Nat → Int64) (fg : Nat → Int32) (sg : Nat → Int64) (ah : Addr) (hd : Nat → Int64) (cn : Int32) (dp : Int32) (cz : Nat) (lev : Int32) (ln : Nat) (site : Int64) (off : Int64) (pn : Nat) (h0 : Heap) (n0 : Nat) (Z0 : n0 ≤ h0.size) (H0_E : Exa Z h0 dd "com/example/fieldglass/fieldglass/io/Marks") (H1_F : Fld Z h0 dd "com/example/fieldglass/fieldglass/io/Marks" "messages" "[Z" (.ref am)) (H2_F : Fld Z h0 dd "com/example/fieldglass/fieldglass/io/Marks" "firstFieldSites" "[J" (.ref af)) (H3_F : Fld Z h0 dd "com/example/fieldglass/fieldglass/io/Marks" "fieldSites" "[I" (.ref ai)) (H4_F : Fld Z h0 dd "com/example/fieldglass/fieldglass/io/Marks" "slots" "[J" (.ref as_)) (H5_F : Fld Z h0 dd "com/example/fieldglass/fieldglass/io/Marks" "slotted" "I" (.int lev)) (H6_F : Fld Z h0 dd "com/example/fieldglass/fieldglass/io/Marks" "deepestFields" "I" (.int dp)) (H7_F : Fld Z h0 dd "com/example/fieldglass/fieldglass/io/Marks" "marking" "Z" (.int (1 : Int32))) (H8_F : Fld Z h0 dd "com/example/fieldglass/fieldglass/io/Marks" "order" "Lcom/example/fieldglass/fieldglass/io/Marks$Order;" (.ref oo)) (H9_F : Fld Z h0 dd "com/example/fieldglass/fieldglass/io/Marks" "next" "J" (.long (9223372036854775807 : Int64))) (H10_G : own_Fa Value.int .boolean Z h0 am 16 mg) (H11_G : own_Fa Value.long .long Z h0 af 16 ff) (H12_G : own_Fa Value.int .int Z h0 ai 16 fg) (H13_G : own_Fa Value.long .long Z h0 as_ 16 sg) (H14_E : Exa Z h0 oo "com/example/fieldglass/fieldglass/io/Marks$Order") (H15_F : Fld Z h0 oo "com/example/fieldglass/fieldglass/io/Marks$Order" "held" "[J" (.ref ah)) (H16_F : Fld Z h0 oo "com/example/fieldglass/fieldglass/io/Marks$Order" "count" "I" (.int cn)) (H17_F : Fld Z h0 oo "com/example/fieldglass/fieldglass/io/Marks$Order" "spilled" "J" (.long (0 : Int64))) (H18_F : Fld Z h0 oo "com/example/fieldglass/fieldglass/io/Marks$Order" "read" "J" (.long (0 : Int64))) (H19_G : own_Fa Value.long .long Z h0 ah 16 hd) (hn_dd_oo : dd ≠ oo) (hn_dd_am : dd ≠ am) (hn_dd_af : dd ≠ af) (hn_dd_ai : dd ≠ ai) (hn_dd_as_ : dd ≠ as_) (hn_dd_ah : dd ≠ ah) (hn_oo_am : oo ≠ am) (hn_oo_af : oo ≠ af) (hn_oo_ai : oo ≠ ai) (hn_oo_as_ : oo ≠ as_) (hn_oo_ah : oo ≠ ah) (hn_am_af : am ≠ af) (hn_am_ai : am ≠ ai) (hn_am_as_ : am ≠ as_) (hn_am_ah : am ≠ ah) (hn_af_ai : af ≠ ai) (hn_af_as_ : af ≠ as_) (hn_af_ah : af ≠ ah) (hn_ai_as_ : ai ≠ as_) (hn_ai_ah : ai ≠ ah) (hn_as__ah : as_ ≠ ah) (hg_dd : n0 ≤ dd) (hg_oo : n0 ≤ oo) (hg_as_ : n0 ≤ as_) (hg_ah : n0 ≤ ah) (hl : own_ix lev ln) (hcz : cn.toInt = (cz : Int)) (hk2 : ((own_gr (mg ln)) + (fg ln)) = (2 : Int32)) (hr2 : cz + 2 ≤ 16) (hp : own_pl ((own_sz cn) + off) pn) :
    MetFree l (⟨"com/example/fieldglass/fieldglass/io/Marks", "mark", "(IJJ)V"⟩ : MethodName) (head1 (Jvm.Cond.code (⟨"com/example/fieldglass/fieldglass/io/Marks", "mark", "(IJJ)V"⟩ : MethodName) prog_13_method_8_code 6 none :: ws) ({ frames := 1, cells := 0, slots := 0, locals := 17 } : Room)) (fun as_ U_ => as_ = #[(.ref dd), (.int lev), (.long off), (.long site)] ∧ Z.Warmed39 U_.vm ∧ U_.heap = h0) (fun _ _ _ _ _ => True) (fun _ U o U' => ∃ v L, o = .returned v ∧ Q_mk1 Z dd oo am af ai as_ mg ff fg sg ah hd cn dp cz lev ln site off pn h0 n0 v U'.heap L ∧ FrameEnd U o U' L ({ frames := 1, cells := 0, slots := 0, locals := 17 } : Room).cells ({ frames := 1, cells := 0, slots := 0, locals := 17 } : Room).slots) := by
  refine MetFree.of_bodySF (plainFor_of_name pn_2) hisR ?_
  intro p e s m args below meth c s₁ Bd hml0 hP hK
  obtain ⟨rfl, hZ, hhp_⟩ := hP
  have hx := Bd.exec
  have hby := Bd.bytes
  have hml : c.maxLocals = 6 := hml0
  have hown : s.vm.findClass "com/example/fieldglass/fieldglass/io/Marks" = some m.cls := findClass_of_methodNamed Bd.named
  have hnm := (name_of_methodNamed Bd.named Bd.method).1
  have X0 : Stand p l e ({ frames := 1, cells := 0, slots := 0, locals := 17 } : Room) s m #[(.ref dd), (.int lev), (.long off), (.long site)] below meth c s₁ [] 0 0 := Stand.of_body Bd
  have e0 : s₁.heap = h0 := by rw [← hhp_, Bd.state]; rfl
  have N0 := Fr.nil n0
  have pre0 : ∀ t, Steps p.tables e below (s₁.setTop (mkF m 0 #[.val (.ref dd), .val (.int lev), .val (.long off), .second, .val (.long site), .second] [])) t → Steps p.tables e below (s₁.setTop (entryFrame m #[(.ref dd), (.int lev), (.long off), (.long site)] 6)) t := fun t k => castTop (ef_mk1 m dd lev off site) k
  have K0 : Keep h0 h0 [dd, oo, as_, ah] := Keep.refl h0 [dd, oo, as_, ah]
  obtain ⟨T1, X1, e1, st1⟩ := getF X0 hx hZ hown (host := "") (Or.inl (own_w hw 26 rfl)) Via.refl e0 H7_F (g := (mkF m 1 #[.val (.ref dd), .val (.int lev), .val (.long off), .second, .val (.long site), .second] [(.ref dd)])) rfl rfl (hb hby d15_1)
  obtain ⟨cq2, q2, q2'⟩ := H0_E.cell
  obtain ⟨_, _, ⟨T2, L2, k2, n2⟩, -, X2, ⟨Lc2, hQ2, l2, y2, z2⟩, st2⟩ := X1.privateBack hx (y := (⟨"com/example/fieldglass/fieldglass/io/Marks", "makeRoomFor", "(I)V"⟩ : MethodName)) hown (mvT hZ (own_w hw 50 rfl)) (mvT hZ (own_w hw 51 rfl)) (own_sel_priv (z := (⟨"com/example/fieldglass/fieldglass/io/Marks", "beginMessage", "(I)V"⟩ : MethodName)) (mvT hZ (own_w hw 48 rfl)) rfl (mvP hZ (own_w hw 52 rfl)) (mvT hZ (own_w hw 51 rfl)) (by decide)) (Cond.privateMethod_at (mvP hZ (own_w hw 52 rfl) (args := #[]))) (mvT hZ (own_w hw 53 rfl)) (by decide) (backOf (W := 0) (rm_mrN l Z a0 hw [] dd am mg lev ln h0 n0 Z0 H1_F H10_G hl) hZ (own_w hw 53 rfl) (own_w hw 3 rfl) (by decide) (by decide)) (g := (mkF m 9 #[.val (.ref dd), .val (.int lev), .val (.long off), .second, .val (.long site), .second] [(.int lev), (.ref dd)])) rfl (by rw [hml]; rfl) (Steps.refl _) (a := dd) (by rw [e1]; exact q2) q2' (argsL := [(.int lev)]) (rest := []) (lenOf pd_5 rfl) rfl (by show 2 * 0 + _ ≤ _; exact Nat.le_of_eq rfl) (hb hby d15_9) (fun _ _ => ⟨rfl, e1, (by decide : 0 + 0 ≤ _), (by decide : 0 + 0 ≤ _)⟩)
  dsimp only [Pt.U, Pt.locs, Pt.cells, Pt.slots] at X2 l2 y2 z2 st2 hQ2
  subst l2 y2 z2
  obtain ⟨rfl, N2q, hq3⟩ := hQ2
  have N2 := Fr.app N0 N2q
  obtain ⟨T4, X4, e4, st4⟩ := getF X2 hx hZ hown (host := "") (Or.inl (own_w hw 83 rfl)) Via.refl hq3 H5_F (g := (mkF m 13 #[.val (.ref dd), .val (.int lev), .val (.long off), .second, .val (.long site), .second] [(.ref dd)])) rfl rfl (hb hby d15_13)
  obtain ⟨T5, X5, e5, st5⟩ := getF X4 hx hZ hown (host := "") (Or.inl (own_w hw 22 rfl)) Via.refl e4 H4_F (g := (mkF m 21 #[.val (.ref dd), .val (.int lev), .val (.long off), .second, .val (.long site), .second] [(.ref dd)])) rfl rfl (hb hby d15_21)
  obtain ⟨T6, X6, e6, st6⟩ := getF X5 hx hZ hown (host := "") (Or.inl (own_w hw 83 rfl)) Via.refl e5 H5_F (g := (mkF m 25 #[.val (.ref dd), .val (.int lev), .val (.long off), .second, .val (.long site), .second] [(.ref dd), (.ref as_)])) rfl rfl (hb hby d15_25)
  obtain ⟨T7, X7, e7, st7⟩ := getF X6 hx hZ hown (host := "") (Or.inl (own_w hw 40 rfl)) Via.refl e6 H8_F (g := (mkF m 29 #[.val (.ref dd), .val (.int lev), .val (.long off), .second, .val (.long site), .second] [(.ref dd), (.int lev), (.ref as_)])) rfl rfl (hb hby d15_29)
  obtain ⟨cq8, kq8, q8a, q8b, q8c⟩ := isOf hZ e7 H14_E
  obtain ⟨_, _, ⟨T8, L8, k8, n8⟩, -, X8, ⟨Lc8, hQ8, l8, y8, z8⟩, st8⟩ := X7.virtualBack hx (y := (⟨"com/example/fieldglass/fieldglass/io/Marks$Order", "size", "()J"⟩ : MethodName)) (z := (⟨"com/example/fieldglass/fieldglass/io/Marks$Order", "size", "()J"⟩ : MethodName)) hown (mvT hZ (own_w hw 104 rfl)) (mvT hZ (own_w hw 105 rfl)) (notFace_of_selects (args := #[]) (mvT hZ (own_w hw 107 rfl))) (mvT hZ (own_w hw 107 rfl)) (mvT hZ (own_w hw 106 rfl)) (by decide) (backOf (W := 2) (rm_osz l Z a0 hw [] oo cn h0 n0 Z0 H17_F H16_F) hZ (own_w hw 108 rfl) (own_w hw 30 rfl) (by decide) (by decide)) q8a q8c (g := (mkF m 32 #[.val (.ref dd), .val (.int lev), .val (.long off), .second, .val (.long site), .second] [(.ref oo), (.int lev), (.ref as_)])) rfl (by rw [hml]; rfl) (Steps.refl _) (argsL := []) (rest := [(.int lev), (.ref as_)]) (lenOf pd_7 rfl) rfl (by show 2 * 0 + _ ≤ _; exact Nat.le_of_eq rfl) (hb hby d15_32) (fun _ _ => ⟨rfl, e7, (by decide : 0 + 0 ≤ _), (by decide : 0 + 0 ≤ _)⟩)
  dsimp only [Pt.U, Pt.locs, Pt.cells, Pt.slots] at X8 l8 y8 z8 st8 hQ8
  subst l8 y8 z8
  obtain ⟨rfl, N8q, hq9⟩ := hQ8
  have N8 := Fr.app N2 N8q
  have oc10 := H13_G
  obtain ⟨c10, Arc10, Sc10, Hc10⟩ := oc10
  have hin11 : ¬ (lev < 0 ∨ c10.slots.size ≤ (lev).toNatClampNeg) := (own_ix_in Sc10 hl)
  obtain ⟨T11, h11, X11, e11, W11, st11⟩ := stJ X8 hx hZ hq9 Arc10 (j := lev) hin11 (g := (mkF m 35 #[.val (.ref dd), .val (.int lev), .val (.long off), .second, .val (.long site), .second] [(.long (own_sz cn)), (.int lev), (.ref as_)])) rfl rfl (hb hby d15_35)
  have V11 : own_Fa Value.long .long Z h11 as_ 16 (own_up sg ln (own_sz cn)) := own_Fa_setk Arc10 Sc10 Hc10 W11 (own_ix_nat hl)
  have E12 := H0_E.wr W11
  have F13 := H1_F.other W11 (Or.inl hn_dd_as_)
  have F14 := H2_F.other W11 (Or.inl hn_dd_as_)
  have F15 := H3_F.other W11 (Or.inl hn_dd_as_)
  have F16 := H4_F.other W11 (Or.inl hn_dd_as_)
  have F17 := H5_F.other W11 (Or.inl hn_dd_as_)
  have F18 := H6_F.other W11 (Or.inl hn_dd_as_)
  have F19 := H7_F.other W11 (Or.inl hn_dd_as_)
  have F20 := H8_F.other W11 (Or.inl hn_dd_as_)
  have F21 := H9_F.other W11 (Or.inl hn_dd_as_)
  have G22 := H10_G.other W11 hn_am_as_
  have G23 := H11_G.other W11 hn_af_as_
  have G24 := H12_G.other W11 hn_ai_as_
  have E25 := H14_E.wr W11
  have F26 := H15_F.other W11 (Or.inl hn_oo_as_)
  have F27 := H16_F.other W11 (Or.inl hn_oo_as_)
  have F28 := H17_F.other W11 (Or.inl hn_oo_as_)
  have F29 := H18_F.other W11 (Or.inl hn_oo_as_)
  have G30 := H19_G.other W11 (Ne.symm hn_as__ah)
  have N11 := Fr.snoc X11 N8 hg_as_
  have K11 : Keep h0 h11 [dd, oo, as_, ah] := K0.wr W11 (Or.inl (List.mem_of_getElem? (i := 2) rfl))
  have Zs31 : n0 ≤ h11.size := (Nat.le_trans Z0 (Keep.of_wr W11).1)
  obtain ⟨T32, X32, e32, st32⟩ := getF X11 hx hZ hown (host := "") (Or.inl (own_w hw 40 rfl)) Via.refl e11 F20 (g := (mkF m 37 #[.val (.ref dd), .val (.int lev), .val (.long off), .second, .val (.long site), .second] [(.ref dd)])) rfl rfl (hb hby d15_37)
  obtain ⟨T33, X33, e33, st33⟩ := getF X32 hx hZ hown (host := "") (Or.inl (own_w hw 83 rfl)) Via.refl e32 F17 (g := (mkF m 42 #[.val (.ref dd), .val (.int lev), .val (.long off), .second, .val (.long site), .second] [(.ref dd), (.ref dd), (.ref oo)])) rfl rfl (hb hby d15_42)
  obtain ⟨cq34, q34, q34'⟩ := E12.cell
  obtain ⟨_, _, ⟨T34, L34, k34, n34⟩, -, X34, ⟨Lc34, hQ34, l34, y34, z34⟩, st34⟩ := X33.privateBack hx (y := (⟨"com/example/fieldglass/fieldglass/io/Marks", "groupSites", "(I)I"⟩ : MethodName)) hown (mvT hZ (own_w hw 96 rfl)) (mvT hZ (own_w hw 97 rfl)) (own_sel_priv (z := (⟨"com/example/fieldglass/fieldglass/io/Marks", "beginMessage", "(I)V"⟩ : MethodName)) (mvT hZ (own_w hw 48 rfl)) rfl (mvP hZ (own_w hw 98 rfl)) (mvT hZ (own_w hw 97 rfl)) (by decide)) (Cond.privateMethod_at (mvP hZ (own_w hw 98 rfl) (args := #[]))) (mvT hZ (own_w hw 99 rfl)) (by decide) (backOf (W := 1) (rm_gs l Z a0 hw [] dd am mg lev ln h11 n0 Zs31 F13 G22 hl) hZ (own_w hw 99 rfl) (own_w hw 3 rfl) (by decide) (by decide)) (g := (mkF m 45 #[.val (.ref dd), .val (.int lev), .val (.long off), .second, .val (.long site), .second] [(.int lev), (.ref dd), (.ref oo)])) rfl (by rw [hml]; rfl) (Steps.refl _) (a := dd) (by rw [e33]; exact q34) q34' (argsL := [(.int lev)]) (rest := [(.ref oo)]) (lenOf pd_8 rfl) rfl (by show 2 * 0 + _ ≤ _; exact Nat.le_of_eq rfl) (hb hby d15_45) (fun _ _ => ⟨rfl, e33, (by decide : 0 + 0 ≤ _), (by decide : 0 + 0 ≤ _)⟩)
  dsimp only [Pt.U, Pt.locs, Pt.cells, Pt.slots] at X34 l34 y34 z34 st34 hQ34
  subst l34 y34 z34
  obtain ⟨rfl, N34q, hq35⟩ := hQ34
  have N34 := Fr.app N11 N34q
  obtain ⟨T36, X36, e36, st36⟩ := getF X34 hx hZ hown (host := "") (Or.inl (own_w hw 20 rfl)) Via.refl hq35 F15 (g := (mkF m 49 #[.val (.ref dd), .val (.int lev), .val (.long off), .second, .val (.long site), .second] [(.ref dd), (.int (own_gr (mg ln))), (.ref oo)])) rfl rfl (hb hby d15_49)
  obtain ⟨T37, X37, e37, st37⟩ := getF X36 hx hZ hown (host := "") (Or.inl (own_w hw 83 rfl)) Via.refl e36 F17 (g := (mkF m 53 #[.val (.ref dd), .val (.int lev), .val (.long off), .second, .val (.long site), .second] [(.ref dd), (.ref ai), (.int (own_gr (mg ln))), (.ref oo)])) rfl rfl (hb hby d15_53)
  have oc38 := G24
  obtain ⟨c38, Arc38, Sc38, Hc38⟩ := oc38
  have hin39 : ¬ (lev < 0 ∨ c38.slots.size ≤ (lev).toNatClampNeg) := (own_ix_in Sc38 hl)
  obtain ⟨cq40, kq40, q40a, q40b, q40c⟩ := isOf hZ e37 E25
  obtain ⟨_, _, ⟨T40, L40, k40, n40⟩, -, X40, ⟨Lc40, hQ40, l40, y40, z40⟩, st40⟩ := X37.virtualBack hx (y := (⟨"com/example/fieldglass/fieldglass/io/Marks$Order", "appendUnmarked", "(I)V"⟩ : MethodName)) (z := (⟨"com/example/fieldglass/fieldglass/io/Marks$Order", "appendUnmarked", "(I)V"⟩ : MethodName)) hown (mvT hZ (own_w hw 113 rfl)) (mvT hZ (own_w hw 114 rfl)) (notFace_of_selects (args := #[]) (mvT hZ (own_w hw 116 rfl))) (mvT hZ (own_w hw 116 rfl)) (mvT hZ (own_w hw 115 rfl)) (by decide) (backOf (W := 0) (rm_ap l Z a0 hw [] oo ah hd cn cz ((own_gr (mg ln)) + (fg ln)) h11 n0 Zs31 E25 F26 F27 F28 F29 G30 (Or.inr (Or.inr hk2)) hcz (by rw [hk2, show (2 : Int32).toInt = 2 from rfl]; omega) hg_oo hg_ah hn_oo_ah) hZ (own_w hw 117 rfl) (own_w hw 30 rfl) (by decide) (by decide)) q40a q40c (g := (mkF m 58 #[.val (.ref dd), .val (.int lev), .val (.long off), .second, .val (.long site), .second] [(.int ((own_gr (mg ln)) + (fg ln))), (.ref oo)])) rfl (by rw [hml]; rfl) (Steps.refl _) (argsL := [(.int ((own_gr (mg ln)) + (fg ln)))]) (rest := []) (lenOf pd_5 rfl) rfl (by show 2 * 0 + _ ≤ _; exact Nat.le_of_eq rfl) (hb hby d15_58) (fun _ _ => ⟨rfl, e37, (by decide : 0 + 0 ≤ _), (by decide : 0 + 0 ≤ _)⟩)
  dsimp only [Pt.U, Pt.locs, Pt.cells, Pt.slots] at X40 l40 y40 z40 st40 hQ40
  subst l40 y40 z40
  obtain ⟨x41, x42, rfl, N40q, hq43, hpq44, F45, F46, F47, F48, G49⟩ := hQ40
  have N40 := Fr.app N34 N40q
  have E50 := E12.keep hq43
  have F51 := F13.keep hq43 (ninS hn_dd_oo (ninS hn_dd_ah nin0))
  have F52 := F14.keep hq43 (ninS hn_dd_oo (ninS hn_dd_ah nin0))
  have F53 := F15.keep hq43 (ninS hn_dd_oo (ninS hn_dd_ah nin0))
  have F54 := F16.keep hq43 (ninS hn_dd_oo (ninS hn_dd_ah nin0))
  have F55 := F17.keep hq43 (ninS hn_dd_oo (ninS hn_dd_ah nin0))
  have F56 := F18.keep hq43 (ninS hn_dd_oo (ninS hn_dd_ah nin0))
  have F57 := F19.keep hq43 (ninS hn_dd_oo (ninS hn_dd_ah nin0))
  have F58 := F20.keep hq43 (ninS hn_dd_oo (ninS hn_dd_ah nin0))
  have F59 := F21.keep hq43 (ninS hn_dd_oo (ninS hn_dd_ah nin0))
  have G60 := G22.keep hq43 (ninS (Ne.symm hn_oo_am) (ninS hn_am_ah nin0))
  have G61 := G23.keep hq43 (ninS (Ne.symm hn_oo_af) (ninS hn_af_ah nin0))
  have G62 := G24.keep hq43 (ninS (Ne.symm hn_oo_ai) (ninS hn_ai_ah nin0))
  have E63 := E25.keep hq43
  have G64 := V11.keep hq43 (ninS (Ne.symm hn_oo_as_) (ninS hn_as__ah nin0))
  have K40 : Keep h0 T40.heap [dd, oo, as_, ah] := K11.trans hq43 (allS (Or.inl (List.mem_of_getElem? (i := 1) rfl)) (allS (Or.inl (List.mem_of_getElem? (i := 3) rfl)) all0))
  have Zs65 : n0 ≤ T40.heap.size := (Nat.le_trans Zs31 hq43.1)
  obtain ⟨T66, X66, e66, st66⟩ := getF X40 hx hZ hown (host := "") (Or.inl (own_w hw 83 rfl)) Via.refl rfl F55 (g := (mkF m 63 #[.val (.ref dd), .val (.int lev), .val (.long off), .second, .val (.long site), .second] [(.ref dd), (.ref dd)])) rfl rfl (hb hby d15_63)
  obtain ⟨T67, h67, X67, e67, W67, st67⟩ := putF X66 hx hZ hown (host := "") (Or.inl (own_w hw 83 rfl)) Via.refl e66 F55 E50 (Or.inl (own_w hw 84 rfl)) (own_w hw 2 rfl) (ty := .int) (by decide) rfl rfl (g := (mkF m 68 #[.val (.ref dd), .val (.int lev), .val (.long off), .second, .val (.long site), .second] [(.int (lev + (1 : Int32))), (.ref dd)])) rfl rfl (hb hby d15_68)
  have Fw67 : Fld Z h67 dd "com/example/fieldglass/fieldglass/io/Marks" "slotted" "I" (.int (lev + (1 : Int32))) := F55.same W67
  have E68 := E50.wr W67
  have F69 := F51.other W67 (Or.inr (slot_ne (Or.inl (own_w hw 13 rfl)) (Or.inl (own_w hw 84 rfl)) (by decide) (t := (.array .boolean)) (t' := .int) (by decide) (by decide)))
  have F70 := F52.other W67 (Or.inr (slot_ne (Or.inl (own_w hw 17 rfl)) (Or.inl (own_w hw 84 rfl)) (by decide) (t := (.array .long)) (t' := .int) (by decide) (by decide)))
  have F71 := F53.other W67 (Or.inr (slot_ne (Or.inl (own_w hw 21 rfl)) (Or.inl (own_w hw 84 rfl)) (by decide) (t := (.array .int)) (t' := .int) (by decide) (by decide)))
  have F72 := F54.other W67 (Or.inr (slot_ne (Or.inl (own_w hw 23 rfl)) (Or.inl (own_w hw 84 rfl)) (by decide) (t := (.array .long)) (t' := .int) (by decide) (by decide)))
  have F73 := F56.other W67 (Or.inr (slot_ne (Or.inl (own_w hw 25 rfl)) (Or.inl (own_w hw 84 rfl)) (by decide) (t := .int) (t' := .int) (by decide) (by decide)))
  have F74 := F57.other W67 (Or.inr (slot_ne (Or.inl (own_w hw 27 rfl)) (Or.inl (own_w hw 84 rfl)) (by decide) (t := .boolean) (t' := .int) (by decide) (by decide)))
  have F75 := F58.other W67 (Or.inr (slot_ne (Or.inr (own_w hw 41 rfl)) (Or.inl (own_w hw 84 rfl)) (by decide) (t := (.object "com/example/fieldglass/fieldglass/io/Marks$Order")) (t' := .int) (by decide) (by decide)))
  have F76 := F59.other W67 (Or.inr (slot_ne (Or.inl (own_w hw 44 rfl)) (Or.inl (own_w hw 84 rfl)) (by decide) (t := .long) (t' := .int) (by decide) (by decide)))
  have G77 := G60.other W67 (Ne.symm hn_dd_am)
  have G78 := G61.other W67 (Ne.symm hn_dd_af)
  have G79 := G62.other W67 (Ne.symm hn_dd_ai)
  have E80 := E63.wr W67
  have G81 := G64.other W67 (Ne.symm hn_dd_as_)
  have F82 := F45.other W67 (Or.inl (Ne.symm hn_dd_oo))
  have F83 := F46.other W67 (Or.inl (Ne.symm hn_dd_oo))
  have F84 := F47.other W67 (Or.inl (Ne.symm hn_dd_oo))
  have F85 := F48.other W67 (Or.inl (Ne.symm hn_dd_oo))
  have G86 := G49.other W67 (Ne.symm hn_dd_ah)
  have N67 := Fr.snoc X67 N40 hg_dd
  have K67 : Keep h0 h67 [dd, oo, as_, ah] := K40.wr W67 (Or.inl (List.mem_of_getElem? (i := 0) rfl))
  have Zs87 : n0 ≤ h67.size := (Nat.le_trans Zs65 (Keep.of_wr W67).1)
  obtain ⟨T88, X88, e88, st88⟩ := getF X67 hx hZ hown (host := "") (Or.inl (own_w hw 83 rfl)) Via.refl e67 Fw67 (g := (mkF m 13 #[.val (.ref dd), .val (.int lev), .val (.long off), .second, .val (.long site), .second] [(.ref dd)])) rfl rfl (hb hby d15_13)
  obtain ⟨T89, X89, e89, st89⟩ := getF X88 hx hZ hown (host := "") (Or.inl (own_w hw 40 rfl)) Via.refl e88 F75 (g := (mkF m 75 #[.val (.ref dd), .val (.int lev), .val (.long off), .second, .val (.long site), .second] [(.ref dd)])) rfl rfl (hb hby d15_75)
  obtain ⟨T90, X90, e90, st90⟩ := getF X89 hx hZ hown (host := "") (Or.inl (own_w hw 22 rfl)) Via.refl e89 F72 (g := (mkF m 79 #[.val (.ref dd), .val (.int lev), .val (.long off), .second, .val (.long site), .second] [(.ref dd), (.ref oo)])) rfl rfl (hb hby d15_79)
  have oc91 := G81
  obtain ⟨c91, Arc91, Sc91, Hc91⟩ := oc91
  have hin92 : ¬ (lev < 0 ∨ c91.slots.size ≤ (lev).toNatClampNeg) := (own_ix_in Sc91 hl)
  obtain ⟨cq93, kq93, q93a, q93b, q93c⟩ := isOf hZ e90 E80
  obtain ⟨_, _, ⟨T93, L93, k93, n93⟩, -, X93, ⟨Lc93, hQ93, l93, y93, z93⟩, st93⟩ := X90.virtualBack hx (y := (⟨"com/example/fieldglass/fieldglass/io/Marks$Order", "set", "(JJ)V"⟩ : MethodName)) (z := (⟨"com/example/fieldglass/fieldglass/io/Marks$Order", "set", "(JJ)V"⟩ : MethodName)) hown (mvT hZ (own_w hw 125 rfl)) (mvT hZ (own_w hw 126 rfl)) (notFace_of_selects (args := #[]) (mvT hZ (own_w hw 128 rfl))) (mvT hZ (own_w hw 128 rfl)) (mvT hZ (own_w hw 127 rfl)) (by decide) (backOfWith (W := 0) (rm_ose l Z a0 hw [] oo ah x41 (((own_up sg ln (own_sz cn)) ln) + off) pn site h67 n0 Zs87 F82 F84 G86 (by rw [own_up_same]; exact hp) hg_ah hn_oo_ah) hZ (own_w hw 129 rfl) (own_w hw 30 rfl) (by decide) (by decide)) q93a q93c (g := (mkF m 88 #[.val (.ref dd), .val (.int lev), .val (.long off), .second, .val (.long site), .second] [(.long site), (.long (((own_up sg ln (own_sz cn)) ln) + off)), (.ref oo)])) rfl (by rw [hml]; rfl) (Steps.refl _) (argsL := [(.long (((own_up sg ln (own_sz cn)) ln) + off)), (.long site)]) (rest := []) (lenOf pd_6 rfl) rfl (by show 2 * 0 + _ ≤ _; exact Nat.le_of_eq rfl) (hb hby d15_88) (fun _ _ => ⟨rfl, e90, (by decide : 0 + 0 ≤ _), (by decide : 0 + 0 ≤ _)⟩)
  dsimp only [Pt.U, Pt.locs, Pt.cells, Pt.slots] at X93 l93 y93 z93 st93 hQ93
  subst l93 y93 z93
  obtain ⟨rfl, N93q, hq94, G95⟩ := hQ93
  have N93 := Fr.app N67 N93q
  have E96 := E68.keep hq94
  have F97 := F69.keep hq94 (ninS hn_dd_ah nin0)
  have F98 := F70.keep hq94 (ninS hn_dd_ah nin0)
  have F99 := F71.keep hq94 (ninS hn_dd_ah nin0)
  have F100 := F72.keep hq94 (ninS hn_dd_ah nin0)
  have F101 := F73.keep hq94 (ninS hn_dd_ah nin0)
  have F102 := F74.keep hq94 (ninS hn_dd_ah nin0)
  have F103 := F75.keep hq94 (ninS hn_dd_ah nin0)
  have F104 := F76.keep hq94 (ninS hn_dd_ah nin0)
  have G105 := G77.keep hq94 (ninS hn_am_ah nin0)
  have G106 := G78.keep hq94 (ninS hn_af_ah nin0)
  have G107 := G79.keep hq94 (ninS hn_ai_ah nin0)
  have E108 := E80.keep hq94
  have G109 := G81.keep hq94 (ninS hn_as__ah nin0)
  have F110 := F82.keep hq94 (ninS hn_oo_ah nin0)
  have F111 := F83.keep hq94 (ninS hn_oo_ah nin0)
  have F112 := F84.keep hq94 (ninS hn_oo_ah nin0)
  have F113 := F85.keep hq94 (ninS hn_oo_ah nin0)
  have F114 := Fw67.keep hq94 (ninS hn_dd_ah nin0)
  have K93 : Keep h0 T93.heap [dd, oo, as_, ah] := K67.trans hq94 (allS (Or.inl (List.mem_of_getElem? (i := 3) rfl)) all0)
  have Zs115 : n0 ≤ T93.heap.size := (Nat.le_trans Zs87 hq94.1)
  have pre116 := fun (t : State) (k : Steps p.tables e below (T93.setTop (mkF m 91 #[.val (.ref dd), .val (.int lev), .val (.long off), .second, .val (.long site), .second] [])) t) => pre0 t (by
    refine XS.aloadN X0.here hx rfl (hb hby d15_0) rfl rfl ?_
    refine st1 _ ?_
    refine XS.ifNo X1.here hx rfl (hb hby d15_4) rfl ((if0 _ _).trans (feq (by decide : ¬ ((1 : Int32) = (0 : Int32)))).1) ?_
    refine XS.aloadN X1.here hx rfl (hb hby d15_7) rfl rfl ?_
    refine XS.iloadN X1.here hx rfl (hb hby d15_8) rfl ?_
    refine st2.trans ?_
    refine XS.aloadN X2.here hx rfl (hb hby d15_12) rfl rfl ?_
    refine st4 _ ?_
    refine XS.iloadN X4.here hx rfl (hb hby d15_16) rfl ?_
    refine XS.icmpNo X4.here hx rfl (hb hby d15_17) rfl (flt (own_irr lev)).2.2.1 ?_
    refine XS.aloadN X4.here hx rfl (hb hby d15_20) rfl rfl ?_
    refine st5 _ ?_
    refine XS.aloadN X5.here hx rfl (hb hby d15_24) rfl rfl ?_
    refine st6 _ ?_
    refine XS.aloadN X6.here hx rfl (hb hby d15_28) rfl rfl ?_
    refine st7 _ ?_
    refine st8.trans ?_
    refine st11 _ ?_
    refine XS.aloadN X11.here hx rfl (hb hby d15_36) rfl rfl ?_
    refine st32 _ ?_
    refine XS.aloadN X32.here hx rfl (hb hby d15_40) rfl rfl ?_
    refine XS.aloadN X32.here hx rfl (hb hby d15_41) rfl rfl ?_
    refine st33 _ ?_
    refine st34.trans ?_
    refine XS.aloadN X34.here hx rfl (hb hby d15_48) rfl rfl ?_
    refine st36 _ ?_
    refine XS.aloadN X36.here hx rfl (hb hby d15_52) rfl rfl ?_
    refine st37 _ ?_
    refine X37.iaload hx (j := lev) (v := (.int (fg ln))) (by rw [e37]; exact Arc38.1) (State.isArrayOf_alike hZ.alike Arc38.2.1) Arc38.2.2 hin39 (own_at Hc38 (own_ix_nat hl) (own_inn Sc38 hin39)) (g := (mkF m 56 #[.val (.ref dd), .val (.int lev), .val (.long off), .second, .val (.long site), .second] [(.int lev), (.ref ai), (.int (own_gr (mg ln))), (.ref oo)])) rfl rfl (hb hby d15_56) _ ?_
    refine XS.iadd X37.here hx rfl (hb hby d15_57) rfl ?_
    refine st40.trans ?_
    refine XS.aloadN X40.here hx rfl (hb hby d15_61) rfl rfl ?_
    refine XS.dup X40.here hx rfl (hb hby d15_62) rfl rfl ?_
    refine st66 _ ?_
    refine XS.iconst X66.here hx rfl (hb hby d15_66) ?_
    refine XS.iadd X66.here hx rfl (hb hby d15_67) rfl ?_
    refine st67 _ ?_
    refine XS.goto X67.here hx rfl (pc0 := 71) (pc' := 12) rfl (hb hby d15_71) (by decide) (by decide) ?_
    refine XS.aloadN X67.here hx rfl (hb hby d15_12) rfl rfl ?_
    refine st88 _ ?_
    refine XS.iloadN X88.here hx rfl (hb hby d15_16) rfl ?_
    refine XS.icmpYes X88.here hx rfl (pc0 := 17) (pc' := 74) rfl (hb hby d15_17) rfl (tlt (own_lt_s hl)).2.2.1 (by decide) (by decide) ?_
    refine XS.aloadN X88.here hx rfl (hb hby d15_74) rfl rfl ?_
    refine st89 _ ?_
    refine XS.aloadN X89.here hx rfl (hb hby d15_78) rfl rfl ?_
    refine st90 _ ?_
    refine XS.iloadN X90.here hx rfl (hb hby d15_82) rfl ?_
    refine X90.laload hx (j := lev) (v := (.long ((own_up sg ln (own_sz cn)) ln))) (by rw [e90]; exact Arc91.1) (State.isArrayOf_alike hZ.alike Arc91.2.1) Arc91.2.2 hin92 (own_at Hc91 (own_ix_nat hl) (own_inn Sc91 hin92)) (g := (mkF m 83 #[.val (.ref dd), .val (.int lev), .val (.long off), .second, .val (.long site), .second] [(.int lev), (.ref as_), (.ref oo)])) rfl rfl (hb hby d15_83) _ ?_
    refine XS.lloadN X90.here hx rfl (hb hby d15_84) rfl ?_
    refine XS.ladd X90.here hx rfl (hb hby d15_85) rfl ?_
    refine XS.lload X90.here hx rfl (hb hby d15_86) rfl ?_
    refine st93.trans ?_
    exact k)
  obtain ⟨fs, hr, hrun, hended, hW, hsame⟩ := X93.leave (v := none) (hlocks := BodyLoose.notSynchronized Bd) (fun _ => rfl)
  refine ⟨_, _, pre116 _ ?_, hrun, hended, _, _, rfl, ?_, ⟨_, rfl⟩, hW, hsame.mono (by decide) (by decide)⟩
  · exact X93.returnOut hx Bd.returns (hb hby d15_91) hr
  · show Q_mk1 Z dd oo am af ai as_ mg ff fg sg ah hd cn dp cz lev ln site off pn h0 n0 _ T93.heap _
    exact ⟨x41, x42, rfl, N93, K93, (hk2 ▸ hpq44), E96, F97, F98, F99, F100, F114, F101, F102, F103, F104, G105, G106, G107, G109, E108, F110, F111, F112, F113, G95⟩

theorem ef_mkG (m : MethodId) (x0 : Addr) (x1 : Int32) (x2 : Int64) (x3 : Int64) : entryFrame m #[(.ref x0), (.int x1), (.long x2), (.long x3)] 6 = mkF m 0 #[.val (.ref x0), .val (.int x1), .val (.long x2), .second, .val (.long x3), .second] [] := by first | (simp [entryFrame, mkF, argsToLocals, Value.category]; done) | rfl
def Q_mkG (Z : State) (dd : Addr) (oo : Addr) (am : Addr) (af : Addr) (ai : Addr) (as_ : Addr) (mg : Nat → Int32) (ff : Nat → Int64) (fg : Nat → Int32) (sg : Nat → Int64) (al : Addr) (kl : ClassId) (dp : Int32) (cf : Nat → Nat) (lev : Int32) (ln : Nat) (site : Int64) (off : Int64) (pn : Nat) (h0 : Heap) (n0 : Nat) (v : Option Value) (h : Heap) (L : List Loc) : Prop := ∃ ah : Addr, ∃ sg' : Nat → Int64, ∃ hd' : Nat → Int64, ∃ cn' : Int32, ∃ jj : Int32, v = none ∧ Fr n0 L ∧ Keep h0 h [dd, oo, as_] ∧ n0 ≤ ah ∧ h0.size ≤ ah ∧ own_mkp ln cf pn site sg' hd' cn' jj ∧ Exa Z h dd "com/example/fieldglass/fieldglass/io/Marks" ∧ Fld Z h dd "com/example/fieldglass/fieldglass/io/Marks" "messages" "[Z" (.ref am) ∧ Fld Z h dd "com/example/fieldglass/fieldglass/io/Marks" "firstFieldSites" "[J" (.ref af) ∧ Fld Z h dd "com/example/fieldglass/fieldglass/io/Marks" "fieldSites" "[I" (.ref ai) ∧ Fld Z h dd "com/example/fieldglass/fieldglass/io/Marks" "slots" "[J" (.ref as_) ∧ Fld Z h dd "com/example/fieldglass/fieldglass/io/Marks" "slotted" "I" (.int jj) ∧ Fld Z h dd "com/example/fieldglass/fieldglass/io/Marks" "deepestFields" "I" (.int dp) ∧ Fld Z h dd "com/example/fieldglass/fieldglass/io/Marks" "marking" "Z" (.int (1 : Int32)) ∧ Fld Z h dd "com/example/fieldglass/fieldglass/io/Marks" "order" "Lcom/example/fieldglass/fieldglass/io/Marks$Order;" (.ref oo) ∧ Fld Z h dd "com/example/fieldglass/fieldglass/io/Marks" "next" "J" (.long (9223372036854775807 : Int64)) ∧ own_Fa Value.int .boolean Z h am 16 mg ∧ own_Fa Value.long .long Z h af 16 ff ∧ own_Fa Value.int .int Z h ai 16 fg ∧ own_Fa Value.long .long Z h as_ 16 sg' ∧ Exa Z h oo "com/example/fieldglass/fieldglass/io/Marks$Order" ∧ Fld Z h oo "com/example/fieldglass/fieldglass/io/Marks$Order" "held" "[J" (.ref ah) ∧ Fld Z h oo "com/example/fieldglass/fieldglass/io/Marks$Order" "count" "I" (.int cn') ∧ Fld Z h oo "com/example/fieldglass/fieldglass/io/Marks$Order" "spilled" "J" (.long (0 : Int64)) ∧ Fld Z h oo "com/example/fieldglass/fieldglass/io/Marks$Order" "read" "J" (.long (0 : Int64)) ∧ own_Fa Value.long .long Z h ah 16 hd'
set_option maxRecDepth 65536 in
set_option maxHeartbeats 40000000 in
theorem rm_mkG (l : Launch) (Z : State) (a0 : Array Value) (hw : ∀ d ∈ tables_1, d.before a0 Z = true) (ws : List Jvm.Cond) (dd : Addr) (oo : Addr) (am : Addr) (af : Addr) (ai : Addr) (as_ : Addr) (mg : Nat → Int32) (ff : Nat → Int64) (fg : Nat → Int32) (sg : Nat → Int64) (al : Addr) (kl : ClassId) (dp : Int32) (cf : Nat → Nat) (lev : Int32) (ln : Nat) (site : Int64) (off : Int64) (pn : Nat) (h0 : Heap) (n0 : Nat) (Z0 : n0 ≤ h0.size) (H0_E : Exa Z h0 dd "com/example/fieldglass/fieldglass/io/Marks") (H1_F : Fld Z h0 dd "com/example/fieldglass/fieldglass/io/Marks" "messages" "[Z" (.ref am)) (H2_F : Fld Z h0 dd "com/example/fieldglass/fieldglass/io/Marks" "firstFieldSites" "[J" (.ref af)) (H3_F : Fld Z h0 dd "com/example/fieldglass/fieldglass/io/Marks" "fieldSites" "[I" (.ref ai)) (H4_F : Fld Z h0 dd "com/example/fieldglass/fieldglass/io/Marks" "slots" "[J" (.ref as_)) (H5_F : Fld Z h0 dd "com/example/fieldglass/fieldglass/io/Marks" "slotted" "I" (.int (0 : Int32))) (H6_F : Fld Z h0 dd "com/example/fieldglass/fieldglass/io/Marks" "deepestFields" "I" (.int dp)) (H7_F : Fld Z h0 dd "com/example/fieldglass/fieldglass/io/Marks" "marking" "Z" (.int (1 : Int32))) (H8_F : Fld Z h0 dd "com/example/fieldglass/fieldglass/io/Marks" "order" "Lcom/example/fieldglass/fieldglass/io/Marks$Order;" (.ref oo)) (H9_F : Fld Z h0 dd "com/example/fieldglass/fieldglass/io/Marks" "next" "J" (.long (9223372036854775807 : Int64))) (H10_G : own_Fa Value.int .boolean Z h0 am 16 mg) (H11_G : own_Fa Value.long .long Z h0 af 16 ff) (H12_G : own_Fa Value.int .int Z h0 ai 16 fg) (H13_G : own_Fa Value.long .long Z h0 as_ 16 sg) (H14_E : Exa Z h0 oo "com/example/fieldglass/fieldglass/io/Marks$Order") (H15_F : Fld Z h0 oo "com/example/fieldglass/fieldglass/io/Marks$Order" "held" "[J" (.ref al)) (H16_F : Fld Z h0 oo "com/example/fieldglass/fieldglass/io/Marks$Order" "count" "I" (.int (0 : Int32))) (H17_F : Fld Z h0 oo "com/example/fieldglass/fieldglass/io/Marks$Order" "spilled" "J" (.long (0 : Int64))) (H18_F : Fld Z h0 oo "com/example/fieldglass/fieldglass/io/Marks$Order" "read" "J" (.long (0 : Int64))) (H19_A : Arv Z h0 al kl .long (0 : Int32) [] (.long (0 : Int64))) (hn_dd_oo : dd ≠ oo) (hn_dd_am : dd ≠ am) (hn_dd_af : dd ≠ af) (hn_dd_ai : dd ≠ ai) (hn_dd_as_ : dd ≠ as_) (hn_dd_al : dd ≠ al) (hn_oo_am : oo ≠ am) (hn_oo_af : oo ≠ af) (hn_oo_ai : oo ≠ ai) (hn_oo_as_ : oo ≠ as_) (hn_oo_al : oo ≠ al) (hn_am_af : am ≠ af) (hn_am_ai : am ≠ ai) (hn_am_as_ : am ≠ as_) (hn_am_al : am ≠ al) (hn_af_ai : af ≠ ai) (hn_af_as_ : af ≠ as_) (hn_af_al : af ≠ al) (hn_ai_as_ : ai ≠ as_) (hn_ai_al : ai ≠ al) (hn_as__al : as_ ≠ al) (hg_dd : n0 ≤ dd) (hg_oo : n0 ≤ oo) (hg_as_ : n0 ≤ as_) (hl : own_ix lev ln) (hcf : own_cf mg fg cf ln) (hk0 : (((own_gr (mg 0)) + (fg 0)) = (0 : Int32) ∧ ln = 1 ∧ (((own_gr (mg 1)) + (fg 1)) = (1 : Int32) ∨ ((own_gr (mg 1)) + (fg 1)) = (2 : Int32))) ∨ ((own_gr (mg 0)) + (fg 0)) = (1 : Int32) ∨ ((own_gr (mg 0)) + (fg 0)) = (2 : Int32)) (hp : ∀ zz : Int64, zz.toInt = (cf ln : Int) → own_pl (zz + off) pn) :
    MetFree l (⟨"com/example/fieldglass/fieldglass/io/Marks", "mark", "(IJJ)V"⟩ : MethodName) (head1 (Jvm.Cond.code (⟨"com/example/fieldglass/fieldglass/io/Marks", "mark", "(IJJ)V"⟩ : MethodName) prog_13_method_8_code 6 none :: ws) ({ frames := 4, cells := 1, slots := 16, locals := 59 } : Room)) (fun as_ U_ => as_ = #[(.ref dd), (.int lev), (.long off), (.long site)] ∧ Z.Warmed39 U_.vm ∧ U_.heap = h0) (fun _ _ _ _ _ => True) (fun _ U o U' => ∃ v L, o = .returned v ∧ Q_mkG Z dd oo am af ai as_ mg ff fg sg al kl dp cf lev ln site off pn h0 n0 v U'.heap L ∧ FrameEnd U o U' L ({ frames := 4, cells := 1, slots := 16, locals := 59 } : Room).cells ({ frames := 4, cells := 1, slots := 16, locals := 59 } : Room).slots) := by
  refine MetFree.of_bodySF (plainFor_of_name pn_2) hisR ?_
  intro p e s m args below meth c s₁ Bd hml0 hP hK
  obtain ⟨rfl, hZ, hhp_⟩ := hP
  have hx := Bd.exec
  have hby := Bd.bytes
  have hml : c.maxLocals = 6 := hml0
  have hown : s.vm.findClass "com/example/fieldglass/fieldglass/io/Marks" = some m.cls := findClass_of_methodNamed Bd.named
  have hnm := (name_of_methodNamed Bd.named Bd.method).1
  have X0 : Stand p l e ({ frames := 4, cells := 1, slots := 16, locals := 59 } : Room) s m #[(.ref dd), (.int lev), (.long off), (.long site)] below meth c s₁ [] 0 0 := Stand.of_body Bd
  have e0 : s₁.heap = h0 := by rw [← hhp_, Bd.state]; rfl
  have N0 := Fr.nil n0
  have pre0 : ∀ t, Steps p.tables e below (s₁.setTop (mkF m 0 #[.val (.ref dd), .val (.int lev), .val (.long off), .second, .val (.long site), .second] [])) t → Steps p.tables e below (s₁.setTop (entryFrame m #[(.ref dd), (.int lev), (.long off), (.long site)] 6)) t := fun t k => castTop (ef_mkG m dd lev off site) k
  have K0 : Keep h0 h0 [dd, oo, as_] := Keep.refl h0 [dd, oo, as_]
  have lp : ∀ (kk : Nat) (jj : Int32) (jn : Nat) (sg' : Nat → Int64) (hd' : Nat → Int64) (cn' : Int32) (ah : Addr) (T_lp : State) (H_lp : Heap) (Lt_lp : List Loc) (N_lp : Fr n0 Lt_lp) (X_lp : Stand p l e ({ frames := 4, cells := 1, slots := 16, locals := 59 } : Room) s m #[(.ref dd), (.int lev), (.long off), (.long site)] below meth c T_lp Lt_lp 1 16) (e_lp : T_lp.heap = H_lp) (K_lp : Keep h0 H_lp [dd, oo, as_]) (Z_lp : n0 ≤ H_lp.size) (lp_0 : Exa Z H_lp dd "com/example/fieldglass/fieldglass/io/Marks") (lp_1 : Fld Z H_lp dd "com/example/fieldglass/fieldglass/io/Marks" "messages" "[Z" (.ref am)) (lp_2 : Fld Z H_lp dd "com/example/fieldglass/fieldglass/io/Marks" "firstFieldSites" "[J" (.ref af)) (lp_3 : Fld Z H_lp dd "com/example/fieldglass/fieldglass/io/Marks" "fieldSites" "[I" (.ref ai)) (lp_4 : Fld Z H_lp dd "com/example/fieldglass/fieldglass/io/Marks" "slots" "[J" (.ref as_)) (lp_5 : Fld Z H_lp dd "com/example/fieldglass/fieldglass/io/Marks" "slotted" "I" (.int jj)) (lp_6 : Fld Z H_lp dd "com/example/fieldglass/fieldglass/io/Marks" "deepestFields" "I" (.int dp)) (lp_7 : Fld Z H_lp dd "com/example/fieldglass/fieldglass/io/Marks" "marking" "Z" (.int (1 : Int32))) (lp_8 : Fld Z H_lp dd "com/example/fieldglass/fieldglass/io/Marks" "order" "Lcom/example/fieldglass/fieldglass/io/Marks$Order;" (.ref oo)) (lp_9 : Fld Z H_lp dd "com/example/fieldglass/fieldglass/io/Marks" "next" "J" (.long (9223372036854775807 : Int64))) (lp_10 : own_Fa Value.int .boolean Z H_lp am 16 mg) (lp_11 : own_Fa Value.long .long Z H_lp af 16 ff) (lp_12 : own_Fa Value.int .int Z H_lp ai 16 fg) (lp_13 : own_Fa Value.long .long Z H_lp as_ 16 sg') (lp_14 : Exa Z H_lp oo "com/example/fieldglass/fieldglass/io/Marks$Order") (lp_15 : Fld Z H_lp oo "com/example/fieldglass/fieldglass/io/Marks$Order" "held" "[J" (.ref ah)) (lp_16 : Fld Z H_lp oo "com/example/fieldglass/fieldglass/io/Marks$Order" "count" "I" (.int cn')) (lp_17 : Fld Z H_lp oo "com/example/fieldglass/fieldglass/io/Marks$Order" "spilled" "J" (.long (0 : Int64))) (lp_18 : Fld Z H_lp oo "com/example/fieldglass/fieldglass/io/Marks$Order" "read" "J" (.long (0 : Int64))) (lp_19 : own_Fa Value.long .long Z H_lp ah 16 hd') (hg_ah : n0 ≤ ah) (hz_ah : h0.size ≤ ah) (hn_dd_ah : dd ≠ ah) (hn_oo_ah : oo ≠ ah) (hn_am_ah : am ≠ ah) (hn_af_ah : af ≠ ah) (hn_ai_ah : ai ≠ ah) (hn_as__ah : as_ ≠ ah) (hj : jj.toInt = (jn : Int)) (hjl : jn ≤ ln + 1) (hsl : ∀ i, i < jn → (sg' i).toInt = cf i) (hng : ∀ i, i < cf jn → hd' i = -1) (hcn : cn'.toInt = (cf jn : Int)) (hms : ln + 1 - jn < kk), ∃ s₂ o, Steps p.tables e below (T_lp.setTop (mkF m 12 #[.val (.ref dd), .val (.int lev), .val (.long off), .second, .val (.long site), .second] [])) s₂ ∧ s₂.status = .running ∧ Ended s₂ below o ∧ ∃ v L, o = .returned v ∧ Q_mkG Z dd oo am af ai as_ mg ff fg sg al kl dp cf lev ln site off pn h0 n0 v s₂.heap L ∧ FrameEnd s o s₂ L ({ frames := 4, cells := 1, slots := 16, locals := 59 } : Room).cells ({ frames := 4, cells := 1, slots := 16, locals := 59 } : Room).slots := by
    intro kk
    induction kk with
    | zero =>
      intro jj jn sg' hd' cn' ah T_lp H_lp Lt_lp N_lp X_lp e_lp K_lp Z_lp lp_0 lp_1 lp_2 lp_3 lp_4 lp_5 lp_6 lp_7 lp_8 lp_9 lp_10 lp_11 lp_12 lp_13 lp_14 lp_15 lp_16 lp_17 lp_18 lp_19 hg_ah hz_ah hn_dd_ah hn_oo_ah hn_am_ah hn_af_ah hn_ai_ah hn_as__ah hj hjl hsl hng hcn hms
      exact absurd hms (Nat.not_lt_zero _)
    | succ kk ih =>
      intro jj jn sg' hd' cn' ah T_lp H_lp Lt_lp N_lp X_lp e_lp K_lp Z_lp lp_0 lp_1 lp_2 lp_3 lp_4 lp_5 lp_6 lp_7 lp_8 lp_9 lp_10 lp_11 lp_12 lp_13 lp_14 lp_15 lp_16 lp_17 lp_18 lp_19 hg_ah hz_ah hn_dd_ah hn_oo_ah hn_am_ah hn_af_ah hn_ai_ah hn_as__ah hj hjl hsl hng hcn hms
      have pre_lp := fun (t : State) (k : Steps p.tables e below (T_lp.setTop (mkF m 12 #[.val (.ref dd), .val (.int lev), .val (.long off), .second, .val (.long site), .second] [])) t) => k
      obtain ⟨T1, X1, e1, st1⟩ := getF X_lp hx hZ hown (host := "") (Or.inl (own_w hw 83 rfl)) Via.refl e_lp lp_5 (g := (mkF m 13 #[.val (.ref dd), .val (.int lev), .val (.long off), .second, .val (.long site), .second] [(.ref dd)])) rfl rfl (hb hby d15_13)
      have pre2 := fun (t : State) (k : Steps p.tables e below (T1.setTop (mkF m 17 #[.val (.ref dd), .val (.int lev), .val (.long off), .second, .val (.long site), .second] [(.int lev), (.int jj)])) t) => pre_lp t (by
        refine XS.aloadN X_lp.here hx rfl (hb hby d15_12) rfl rfl ?_
        refine st1 _ ?_
        refine XS.iloadN X1.here hx rfl (hb hby d15_16) rfl ?_
        exact k)
      by_cases hc3 : lev < jj
      · obtain ⟨T4, X4, e4, st4⟩ := getF X1 hx hZ hown (host := "") (Or.inl (own_w hw 40 rfl)) Via.refl e1 lp_8 (g := (mkF m 75 #[.val (.ref dd), .val (.int lev), .val (.long off), .second, .val (.long site), .second] [(.ref dd)])) rfl rfl (hb hby d15_75)
        obtain ⟨T5, X5, e5, st5⟩ := getF X4 hx hZ hown (host := "") (Or.inl (own_w hw 22 rfl)) Via.refl e4 lp_4 (g := (mkF m 79 #[.val (.ref dd), .val (.int lev), .val (.long off), .second, .val (.long site), .second] [(.ref dd), (.ref oo)])) rfl rfl (hb hby d15_79)
        have oc6 := lp_13
        obtain ⟨c6, Arc6, Sc6, Hc6⟩ := oc6
        have hin7 : ¬ (lev < 0 ∨ c6.slots.size ≤ (lev).toNatClampNeg) := (own_ix_in Sc6 hl)
        obtain ⟨cq8, kq8, q8a, q8b, q8c⟩ := isOf hZ e5 lp_14
        obtain ⟨_, _, ⟨T8, L8, k8, n8⟩, -, X8, ⟨Lc8, hQ8, l8, y8, z8⟩, st8⟩ := X5.virtualBack hx (y := (⟨"com/example/fieldglass/fieldglass/io/Marks$Order", "set", "(JJ)V"⟩ : MethodName)) (z := (⟨"com/example/fieldglass/fieldglass/io/Marks$Order", "set", "(JJ)V"⟩ : MethodName)) hown (mvT hZ (own_w hw 125 rfl)) (mvT hZ (own_w hw 126 rfl)) (notFace_of_selects (args := #[]) (mvT hZ (own_w hw 128 rfl))) (mvT hZ (own_w hw 128 rfl)) (mvT hZ (own_w hw 127 rfl)) (by decide) (backOfWith (W := 0) (rm_ose l Z a0 hw [] oo ah hd' ((sg' ln) + off) pn site H_lp n0 Z_lp lp_15 lp_17 lp_19 (hp _ (hsl ln (own_le_j hl hj hc3))) hg_ah hn_oo_ah) hZ (own_w hw 129 rfl) (own_w hw 30 rfl) (by decide) (by decide)) q8a q8c (g := (mkF m 88 #[.val (.ref dd), .val (.int lev), .val (.long off), .second, .val (.long site), .second] [(.long site), (.long ((sg' ln) + off)), (.ref oo)])) rfl (by rw [hml]; rfl) (Steps.refl _) (argsL := [(.long ((sg' ln) + off)), (.long site)]) (rest := []) (lenOf pd_6 rfl) rfl (by show 2 * 0 + _ ≤ _; exact Nat.le_of_eq rfl) (hb hby d15_88) (fun _ _ => ⟨rfl, e5, (by decide : 1 + 0 ≤ _), (by decide : 16 + 0 ≤ _)⟩)
        dsimp only [Pt.U, Pt.locs, Pt.cells, Pt.slots] at X8 l8 y8 z8 st8 hQ8
        subst l8 y8 z8
        obtain ⟨rfl, N8q, hq9, G10⟩ := hQ8
        have N8 := Fr.app N_lp N8q
        have E11 := lp_0.keep hq9
        have F12 := lp_1.keep hq9 (ninS hn_dd_ah nin0)
        have F13 := lp_2.keep hq9 (ninS hn_dd_ah nin0)
        have F14 := lp_3.keep hq9 (ninS hn_dd_ah nin0)
        have F15 := lp_4.keep hq9 (ninS hn_dd_ah nin0)
        have F16 := lp_5.keep hq9 (ninS hn_dd_ah nin0)
        have F17 := lp_6.keep hq9 (ninS hn_dd_ah nin0)
        have F18 := lp_7.keep hq9 (ninS hn_dd_ah nin0)
        have F19 := lp_8.keep hq9 (ninS hn_dd_ah nin0)
        have F20 := lp_9.keep hq9 (ninS hn_dd_ah nin0)
        have G21 := lp_10.keep hq9 (ninS hn_am_ah nin0)
        have G22 := lp_11.keep hq9 (ninS hn_af_ah nin0)
        have G23 := lp_12.keep hq9 (ninS hn_ai_ah nin0)
        have G24 := lp_13.keep hq9 (ninS hn_as__ah nin0)
        have E25 := lp_14.keep hq9
        have F26 := lp_15.keep hq9 (ninS hn_oo_ah nin0)
        have F27 := lp_16.keep hq9 (ninS hn_oo_ah nin0)
        have F28 := lp_17.keep hq9 (ninS hn_oo_ah nin0)
        have F29 := lp_18.keep hq9 (ninS hn_oo_ah nin0)
        have K8 : Keep h0 T8.heap [dd, oo, as_] := K_lp.trans hq9 (allS (Or.inr hz_ah) all0)
        have Zs30 : n0 ≤ T8.heap.size := (Nat.le_trans Z_lp hq9.1)
        have pre31 := fun (t : State) (k : Steps p.tables e below (T8.setTop (mkF m 91 #[.val (.ref dd), .val (.int lev), .val (.long off), .second, .val (.long site), .second] [])) t) => pre2 t (by
          refine XS.icmpYes X1.here hx rfl (pc0 := 17) (pc' := 74) rfl (hb hby d15_17) rfl (tlt hc3).2.2.1 (by decide) (by decide) ?_
          refine XS.aloadN X1.here hx rfl (hb hby d15_74) rfl rfl ?_
          refine st4 _ ?_
          refine XS.aloadN X4.here hx rfl (hb hby d15_78) rfl rfl ?_
          refine st5 _ ?_
          refine XS.iloadN X5.here hx rfl (hb hby d15_82) rfl ?_
          refine X5.laload hx (j := lev) (v := (.long (sg' ln))) (by rw [e5]; exact Arc6.1) (State.isArrayOf_alike hZ.alike Arc6.2.1) Arc6.2.2 hin7 (own_at Hc6 (own_ix_nat hl) (own_inn Sc6 hin7)) (g := (mkF m 83 #[.val (.ref dd), .val (.int lev), .val (.long off), .second, .val (.long site), .second] [(.int lev), (.ref as_), (.ref oo)])) rfl rfl (hb hby d15_83) _ ?_
          refine XS.lloadN X5.here hx rfl (hb hby d15_84) rfl ?_
          refine XS.ladd X5.here hx rfl (hb hby d15_85) rfl ?_
          refine XS.lload X5.here hx rfl (hb hby d15_86) rfl ?_
          refine st8.trans ?_
          exact k)
        obtain ⟨fs, hr, hrun, hended, hW, hsame⟩ := X8.leave (v := none) (hlocks := BodyLoose.notSynchronized Bd) (fun _ => rfl)
        refine ⟨_, _, pre31 _ ?_, hrun, hended, _, _, rfl, ?_, ⟨_, rfl⟩, hW, hsame.mono (by decide) (by decide)⟩
        · exact X8.returnOut hx Bd.returns (hb hby d15_91) hr
        · show Q_mkG Z dd oo am af ai as_ mg ff fg sg al kl dp cf lev ln site off pn h0 n0 _ T8.heap _
          exact ⟨ah, sg', (own_up hd' pn site), cn', jj, rfl, N8, K8, hg_ah, hz_ah, (own_mk_end hl hj hjl hc3 hsl hng hcn), E11, F12, F13, F14, F15, F16, F17, F18, F19, F20, G21, G22, G23, G24, E25, F26, F27, F28, F29, G10⟩
      · have hin := own_mk_in hl hj hc3
        have hixj := hin.1
        obtain ⟨T32, X32, e32, st32⟩ := getF X1 hx hZ hown (host := "") (Or.inl (own_w hw 22 rfl)) Via.refl e1 lp_4 (g := (mkF m 21 #[.val (.ref dd), .val (.int lev), .val (.long off), .second, .val (.long site), .second] [(.ref dd)])) rfl rfl (hb hby d15_21)
        obtain ⟨T33, X33, e33, st33⟩ := getF X32 hx hZ hown (host := "") (Or.inl (own_w hw 83 rfl)) Via.refl e32 lp_5 (g := (mkF m 25 #[.val (.ref dd), .val (.int lev), .val (.long off), .second, .val (.long site), .second] [(.ref dd), (.ref as_)])) rfl rfl (hb hby d15_25)
        obtain ⟨T34, X34, e34, st34⟩ := getF X33 hx hZ hown (host := "") (Or.inl (own_w hw 40 rfl)) Via.refl e33 lp_8 (g := (mkF m 29 #[.val (.ref dd), .val (.int lev), .val (.long off), .second, .val (.long site), .second] [(.ref dd), (.int jj), (.ref as_)])) rfl rfl (hb hby d15_29)
        obtain ⟨cq35, kq35, q35a, q35b, q35c⟩ := isOf hZ e34 lp_14
        obtain ⟨_, _, ⟨T35, L35, k35, n35⟩, -, X35, ⟨Lc35, hQ35, l35, y35, z35⟩, st35⟩ := X34.virtualBack hx (y := (⟨"com/example/fieldglass/fieldglass/io/Marks$Order", "size", "()J"⟩ : MethodName)) (z := (⟨"com/example/fieldglass/fieldglass/io/Marks$Order", "size", "()J"⟩ : MethodName)) hown (mvT hZ (own_w hw 104 rfl)) (mvT hZ (own_w hw 105 rfl)) (notFace_of_selects (args := #[]) (mvT hZ (own_w hw 107 rfl))) (mvT hZ (own_w hw 107 rfl)) (mvT hZ (own_w hw 106 rfl)) (by decide) (backOf (W := 2) (rm_osz l Z a0 hw [] oo cn' H_lp n0 Z_lp lp_17 lp_16) hZ (own_w hw 108 rfl) (own_w hw 30 rfl) (by decide) (by decide)) q35a q35c (g := (mkF m 32 #[.val (.ref dd), .val (.int lev), .val (.long off), .second, .val (.long site), .second] [(.ref oo), (.int jj), (.ref as_)])) rfl (by rw [hml]; rfl) (Steps.refl _) (argsL := []) (rest := [(.int jj), (.ref as_)]) (lenOf pd_7 rfl) rfl (by show 2 * 0 + _ ≤ _; exact Nat.le_of_eq rfl) (hb hby d15_32) (fun _ _ => ⟨rfl, e34, (by decide : 1 + 0 ≤ _), (by decide : 16 + 0 ≤ _)⟩)
        dsimp only [Pt.U, Pt.locs, Pt.cells, Pt.slots] at X35 l35 y35 z35 st35 hQ35
        subst l35 y35 z35
        obtain ⟨rfl, N35q, hq36⟩ := hQ35
        have N35 := Fr.app N_lp N35q
        have oc37 := lp_13
        obtain ⟨c37, Arc37, Sc37, Hc37⟩ := oc37
        have hin38 : ¬ (jj < 0 ∨ c37.slots.size ≤ (jj).toNatClampNeg) := (own_ix_in Sc37 hixj)
        obtain ⟨T38, h38, X38, e38, W38, st38⟩ := stJ X35 hx hZ hq36 Arc37 (j := jj) hin38 (g := (mkF m 35 #[.val (.ref dd), .val (.int lev), .val (.long off), .second, .val (.long site), .second] [(.long (own_sz cn')), (.int jj), (.ref as_)])) rfl rfl (hb hby d15_35)
        have V38 : own_Fa Value.long .long Z h38 as_ 16 (own_up sg' jn (own_sz cn')) := own_Fa_setk Arc37 Sc37 Hc37 W38 (own_ix_nat hixj)
        have E39 := lp_0.wr W38
        have F40 := lp_1.other W38 (Or.inl hn_dd_as_)
        have F41 := lp_2.other W38 (Or.inl hn_dd_as_)
        have F42 := lp_3.other W38 (Or.inl hn_dd_as_)
        have F43 := lp_4.other W38 (Or.inl hn_dd_as_)
        have F44 := lp_5.other W38 (Or.inl hn_dd_as_)
        have F45 := lp_6.other W38 (Or.inl hn_dd_as_)
        have F46 := lp_7.other W38 (Or.inl hn_dd_as_)
        have F47 := lp_8.other W38 (Or.inl hn_dd_as_)
        have F48 := lp_9.other W38 (Or.inl hn_dd_as_)
        have G49 := lp_10.other W38 hn_am_as_
        have G50 := lp_11.other W38 hn_af_as_
        have G51 := lp_12.other W38 hn_ai_as_
        have E52 := lp_14.wr W38
        have F53 := lp_15.other W38 (Or.inl hn_oo_as_)
        have F54 := lp_16.other W38 (Or.inl hn_oo_as_)
        have F55 := lp_17.other W38 (Or.inl hn_oo_as_)
        have F56 := lp_18.other W38 (Or.inl hn_oo_as_)
        have G57 := lp_19.other W38 (Ne.symm hn_as__ah)
        have N38 := Fr.snoc X38 N35 hg_as_
        have K38 : Keep h0 h38 [dd, oo, as_] := K_lp.wr W38 (Or.inl (List.mem_of_getElem? (i := 2) rfl))
        have Zs58 : n0 ≤ h38.size := (Nat.le_trans Z_lp (Keep.of_wr W38).1)
        obtain ⟨T59, X59, e59, st59⟩ := getF X38 hx hZ hown (host := "") (Or.inl (own_w hw 40 rfl)) Via.refl e38 F47 (g := (mkF m 37 #[.val (.ref dd), .val (.int lev), .val (.long off), .second, .val (.long site), .second] [(.ref dd)])) rfl rfl (hb hby d15_37)
        obtain ⟨T60, X60, e60, st60⟩ := getF X59 hx hZ hown (host := "") (Or.inl (own_w hw 83 rfl)) Via.refl e59 F44 (g := (mkF m 42 #[.val (.ref dd), .val (.int lev), .val (.long off), .second, .val (.long site), .second] [(.ref dd), (.ref dd), (.ref oo)])) rfl rfl (hb hby d15_42)
        obtain ⟨cq61, q61, q61'⟩ := E39.cell
        obtain ⟨_, _, ⟨T61, L61, k61, n61⟩, -, X61, ⟨Lc61, hQ61, l61, y61, z61⟩, st61⟩ := X60.privateBack hx (y := (⟨"com/example/fieldglass/fieldglass/io/Marks", "groupSites", "(I)I"⟩ : MethodName)) hown (mvT hZ (own_w hw 96 rfl)) (mvT hZ (own_w hw 97 rfl)) (own_sel_priv (z := (⟨"com/example/fieldglass/fieldglass/io/Marks", "beginMessage", "(I)V"⟩ : MethodName)) (mvT hZ (own_w hw 48 rfl)) rfl (mvP hZ (own_w hw 98 rfl)) (mvT hZ (own_w hw 97 rfl)) (by decide)) (Cond.privateMethod_at (mvP hZ (own_w hw 98 rfl) (args := #[]))) (mvT hZ (own_w hw 99 rfl)) (by decide) (backOf (W := 1) (rm_gs l Z a0 hw [] dd am mg jj jn h38 n0 Zs58 F40 G49 hixj) hZ (own_w hw 99 rfl) (own_w hw 3 rfl) (by decide) (by decide)) (g := (mkF m 45 #[.val (.ref dd), .val (.int lev), .val (.long off), .second, .val (.long site), .second] [(.int jj), (.ref dd), (.ref oo)])) rfl (by rw [hml]; rfl) (Steps.refl _) (a := dd) (by rw [e60]; exact q61) q61' (argsL := [(.int jj)]) (rest := [(.ref oo)]) (lenOf pd_8 rfl) rfl (by show 2 * 0 + _ ≤ _; exact Nat.le_of_eq rfl) (hb hby d15_45) (fun _ _ => ⟨rfl, e60, (by decide : 1 + 0 ≤ _), (by decide : 16 + 0 ≤ _)⟩)
        dsimp only [Pt.U, Pt.locs, Pt.cells, Pt.slots] at X61 l61 y61 z61 st61 hQ61
        subst l61 y61 z61
        obtain ⟨rfl, N61q, hq62⟩ := hQ61
        have N61 := Fr.app N38 N61q
        obtain ⟨T63, X63, e63, st63⟩ := getF X61 hx hZ hown (host := "") (Or.inl (own_w hw 20 rfl)) Via.refl hq62 F42 (g := (mkF m 49 #[.val (.ref dd), .val (.int lev), .val (.long off), .second, .val (.long site), .second] [(.ref dd), (.int (own_gr (mg jn))), (.ref oo)])) rfl rfl (hb hby d15_49)
        obtain ⟨T64, X64, e64, st64⟩ := getF X63 hx hZ hown (host := "") (Or.inl (own_w hw 83 rfl)) Via.refl e63 F44 (g := (mkF m 53 #[.val (.ref dd), .val (.int lev), .val (.long off), .second, .val (.long site), .second] [(.ref dd), (.ref ai), (.int (own_gr (mg jn))), (.ref oo)])) rfl rfl (hb hby d15_53)
        have oc65 := G51
        obtain ⟨c65, Arc65, Sc65, Hc65⟩ := oc65
        have hin66 : ¬ (jj < 0 ∨ c65.slots.size ≤ (jj).toNatClampNeg) := (own_ix_in Sc65 hixj)
        obtain ⟨cq67, kq67, q67a, q67b, q67c⟩ := isOf hZ e64 E52
        obtain ⟨_, _, ⟨T67, L67, k67, n67⟩, -, X67, ⟨Lc67, hQ67, l67, y67, z67⟩, st67⟩ := X64.virtualBack hx (y := (⟨"com/example/fieldglass/fieldglass/io/Marks$Order", "appendUnmarked", "(I)V"⟩ : MethodName)) (z := (⟨"com/example/fieldglass/fieldglass/io/Marks$Order", "appendUnmarked", "(I)V"⟩ : MethodName)) hown (mvT hZ (own_w hw 113 rfl)) (mvT hZ (own_w hw 114 rfl)) (notFace_of_selects (args := #[]) (mvT hZ (own_w hw 116 rfl))) (mvT hZ (own_w hw 116 rfl)) (mvT hZ (own_w hw 115 rfl)) (by decide) (backOf (W := 0) (rm_ap l Z a0 hw [] oo ah hd' cn' (cf jn) ((own_gr (mg jn)) + (fg jn)) h38 n0 Zs58 E52 F53 F54 F55 F56 G57 (own_kq (hcf.2 jn hin.2).1) hcn (own_mk_r hcf hin.2) hg_oo hg_ah hn_oo_ah) hZ (own_w hw 117 rfl) (own_w hw 30 rfl) (by decide) (by decide)) q67a q67c (g := (mkF m 58 #[.val (.ref dd), .val (.int lev), .val (.long off), .second, .val (.long site), .second] [(.int ((own_gr (mg jn)) + (fg jn))), (.ref oo)])) rfl (by rw [hml]; rfl) (Steps.refl _) (argsL := [(.int ((own_gr (mg jn)) + (fg jn)))]) (rest := []) (lenOf pd_5 rfl) rfl (by show 2 * 0 + _ ≤ _; exact Nat.le_of_eq rfl) (hb hby d15_58) (fun _ _ => ⟨rfl, e64, (by decide : 1 + 0 ≤ _), (by decide : 16 + 0 ≤ _)⟩)
        dsimp only [Pt.U, Pt.locs, Pt.cells, Pt.slots] at X67 l67 y67 z67 st67 hQ67
        subst l67 y67 z67
        obtain ⟨x68, x69, rfl, N67q, hq70, hpq71, F72, F73, F74, F75, G76⟩ := hQ67
        have N67 := Fr.app N61 N67q
        have E77 := E39.keep hq70
        have F78 := F40.keep hq70 (ninS hn_dd_oo (ninS hn_dd_ah nin0))
        have F79 := F41.keep hq70 (ninS hn_dd_oo (ninS hn_dd_ah nin0))
        have F80 := F42.keep hq70 (ninS hn_dd_oo (ninS hn_dd_ah nin0))
        have F81 := F43.keep hq70 (ninS hn_dd_oo (ninS hn_dd_ah nin0))
        have F82 := F44.keep hq70 (ninS hn_dd_oo (ninS hn_dd_ah nin0))
        have F83 := F45.keep hq70 (ninS hn_dd_oo (ninS hn_dd_ah nin0))
        have F84 := F46.keep hq70 (ninS hn_dd_oo (ninS hn_dd_ah nin0))
        have F85 := F47.keep hq70 (ninS hn_dd_oo (ninS hn_dd_ah nin0))
        have F86 := F48.keep hq70 (ninS hn_dd_oo (ninS hn_dd_ah nin0))
        have G87 := G49.keep hq70 (ninS (Ne.symm hn_oo_am) (ninS hn_am_ah nin0))
        have G88 := G50.keep hq70 (ninS (Ne.symm hn_oo_af) (ninS hn_af_ah nin0))
        have G89 := G51.keep hq70 (ninS (Ne.symm hn_oo_ai) (ninS hn_ai_ah nin0))
        have E90 := E52.keep hq70
        have G91 := V38.keep hq70 (ninS (Ne.symm hn_oo_as_) (ninS hn_as__ah nin0))
        have K67 : Keep h0 T67.heap [dd, oo, as_] := K38.trans hq70 (allS (Or.inl (List.mem_of_getElem? (i := 1) rfl)) (allS (Or.inr hz_ah) all0))
        have Zs92 : n0 ≤ T67.heap.size := (Nat.le_trans Zs58 hq70.1)
        obtain ⟨T93, X93, e93, st93⟩ := getF X67 hx hZ hown (host := "") (Or.inl (own_w hw 83 rfl)) Via.refl rfl F82 (g := (mkF m 63 #[.val (.ref dd), .val (.int lev), .val (.long off), .second, .val (.long site), .second] [(.ref dd), (.ref dd)])) rfl rfl (hb hby d15_63)
        obtain ⟨T94, h94, X94, e94, W94, st94⟩ := putF X93 hx hZ hown (host := "") (Or.inl (own_w hw 83 rfl)) Via.refl e93 F82 E77 (Or.inl (own_w hw 84 rfl)) (own_w hw 2 rfl) (ty := .int) (by decide) rfl rfl (g := (mkF m 68 #[.val (.ref dd), .val (.int lev), .val (.long off), .second, .val (.long site), .second] [(.int (jj + (1 : Int32))), (.ref dd)])) rfl rfl (hb hby d15_68)
        have Fw94 : Fld Z h94 dd "com/example/fieldglass/fieldglass/io/Marks" "slotted" "I" (.int (jj + (1 : Int32))) := F82.same W94
        have E95 := E77.wr W94
        have F96 := F78.other W94 (Or.inr (slot_ne (Or.inl (own_w hw 13 rfl)) (Or.inl (own_w hw 84 rfl)) (by decide) (t := (.array .boolean)) (t' := .int) (by decide) (by decide)))
        have F97 := F79.other W94 (Or.inr (slot_ne (Or.inl (own_w hw 17 rfl)) (Or.inl (own_w hw 84 rfl)) (by decide) (t := (.array .long)) (t' := .int) (by decide) (by decide)))
        have F98 := F80.other W94 (Or.inr (slot_ne (Or.inl (own_w hw 21 rfl)) (Or.inl (own_w hw 84 rfl)) (by decide) (t := (.array .int)) (t' := .int) (by decide) (by decide)))
        have F99 := F81.other W94 (Or.inr (slot_ne (Or.inl (own_w hw 23 rfl)) (Or.inl (own_w hw 84 rfl)) (by decide) (t := (.array .long)) (t' := .int) (by decide) (by decide)))
        have F100 := F83.other W94 (Or.inr (slot_ne (Or.inl (own_w hw 25 rfl)) (Or.inl (own_w hw 84 rfl)) (by decide) (t := .int) (t' := .int) (by decide) (by decide)))
        have F101 := F84.other W94 (Or.inr (slot_ne (Or.inl (own_w hw 27 rfl)) (Or.inl (own_w hw 84 rfl)) (by decide) (t := .boolean) (t' := .int) (by decide) (by decide)))
        have F102 := F85.other W94 (Or.inr (slot_ne (Or.inr (own_w hw 41 rfl)) (Or.inl (own_w hw 84 rfl)) (by decide) (t := (.object "com/example/fieldglass/fieldglass/io/Marks$Order")) (t' := .int) (by decide) (by decide)))
        have F103 := F86.other W94 (Or.inr (slot_ne (Or.inl (own_w hw 44 rfl)) (Or.inl (own_w hw 84 rfl)) (by decide) (t := .long) (t' := .int) (by decide) (by decide)))
        have G104 := G87.other W94 (Ne.symm hn_dd_am)
        have G105 := G88.other W94 (Ne.symm hn_dd_af)
        have G106 := G89.other W94 (Ne.symm hn_dd_ai)
        have E107 := E90.wr W94
        have G108 := G91.other W94 (Ne.symm hn_dd_as_)
        have F109 := F72.other W94 (Or.inl (Ne.symm hn_dd_oo))
        have F110 := F73.other W94 (Or.inl (Ne.symm hn_dd_oo))
        have F111 := F74.other W94 (Or.inl (Ne.symm hn_dd_oo))
        have F112 := F75.other W94 (Or.inl (Ne.symm hn_dd_oo))
        have G113 := G76.other W94 (Ne.symm hn_dd_ah)
        have N94 := Fr.snoc X94 N67 hg_dd
        have K94 : Keep h0 h94 [dd, oo, as_] := K67.wr W94 (Or.inl (List.mem_of_getElem? (i := 0) rfl))
        have Zs114 : n0 ≤ h94.size := (Nat.le_trans Zs92 (Keep.of_wr W94).1)
        have pre115 := fun (t : State) (k : Steps p.tables e below (T94.setTop (mkF m 12 #[.val (.ref dd), .val (.int lev), .val (.long off), .second, .val (.long site), .second] [])) t) => pre2 t (by
          refine XS.icmpNo X1.here hx rfl (hb hby d15_17) rfl (flt hc3).2.2.1 ?_
          refine XS.aloadN X1.here hx rfl (hb hby d15_20) rfl rfl ?_
          refine st32 _ ?_
          refine XS.aloadN X32.here hx rfl (hb hby d15_24) rfl rfl ?_
          refine st33 _ ?_
          refine XS.aloadN X33.here hx rfl (hb hby d15_28) rfl rfl ?_
          refine st34 _ ?_
          refine st35.trans ?_
          refine st38 _ ?_
          refine XS.aloadN X38.here hx rfl (hb hby d15_36) rfl rfl ?_
          refine st59 _ ?_
          refine XS.aloadN X59.here hx rfl (hb hby d15_40) rfl rfl ?_
          refine XS.aloadN X59.here hx rfl (hb hby d15_41) rfl rfl ?_
          refine st60 _ ?_
          refine st61.trans ?_
          refine XS.aloadN X61.here hx rfl (hb hby d15_48) rfl rfl ?_
          refine st63 _ ?_
          refine XS.aloadN X63.here hx rfl (hb hby d15_52) rfl rfl ?_
          refine st64 _ ?_
          refine X64.iaload hx (j := jj) (v := (.int (fg jn))) (by rw [e64]; exact Arc65.1) (State.isArrayOf_alike hZ.alike Arc65.2.1) Arc65.2.2 hin66 (own_at Hc65 (own_ix_nat hixj) (own_inn Sc65 hin66)) (g := (mkF m 56 #[.val (.ref dd), .val (.int lev), .val (.long off), .second, .val (.long site), .second] [(.int jj), (.ref ai), (.int (own_gr (mg jn))), (.ref oo)])) rfl rfl (hb hby d15_56) _ ?_
          refine XS.iadd X64.here hx rfl (hb hby d15_57) rfl ?_
          refine st67.trans ?_
          refine XS.aloadN X67.here hx rfl (hb hby d15_61) rfl rfl ?_
          refine XS.dup X67.here hx rfl (hb hby d15_62) rfl rfl ?_
          refine st93 _ ?_
          refine XS.iconst X93.here hx rfl (hb hby d15_66) ?_
          refine XS.iadd X93.here hx rfl (hb hby d15_67) rfl ?_
          refine st94 _ ?_
          refine XS.goto X94.here hx rfl (pc0 := 71) (pc' := 12) rfl (hb hby d15_71) (by decide) (by decide) ?_
          exact k)
        obtain ⟨s2, o2, hs2, hr2⟩ := ih (jj + (1 : Int32)) (jn + 1) (own_up sg' jn (own_sz cn')) x68 x69 ah T94 h94 _ N94 X94 e94 K94 Zs114 E95 F96 F97 F98 F99 Fw94 F100 F101 F102 F103 G104 G105 G106 G108 E107 F109 F110 F111 F112 G113 hg_ah hz_ah hn_dd_ah hn_oo_ah hn_am_ah hn_af_ah hn_ai_ah hn_as__ah (own_mk_j hin.1) (Nat.succ_le_succ hin.2) (own_mk_s hsl hcn) (own_mk_g hcf hin.2 hng hpq71) (own_mk_c hcf hin.2 hpq71) (by have := hin.2; omega)
        exact ⟨s2, o2, pre115 _ hs2, hr2⟩
  obtain ⟨T116, X116, e116, st116⟩ := getF X0 hx hZ hown (host := "") (Or.inl (own_w hw 26 rfl)) Via.refl e0 H7_F (g := (mkF m 1 #[.val (.ref dd), .val (.int lev), .val (.long off), .second, .val (.long site), .second] [(.ref dd)])) rfl rfl (hb hby d15_1)
  obtain ⟨cq117, q117, q117'⟩ := H0_E.cell
  obtain ⟨_, _, ⟨T117, L117, k117, n117⟩, -, X117, ⟨Lc117, hQ117, l117, y117, z117⟩, st117⟩ := X116.privateBack hx (y := (⟨"com/example/fieldglass/fieldglass/io/Marks", "makeRoomFor", "(I)V"⟩ : MethodName)) hown (mvT hZ (own_w hw 50 rfl)) (mvT hZ (own_w hw 51 rfl)) (own_sel_priv (z := (⟨"com/example/fieldglass/fieldglass/io/Marks", "beginMessage", "(I)V"⟩ : MethodName)) (mvT hZ (own_w hw 48 rfl)) rfl (mvP hZ (own_w hw 52 rfl)) (mvT hZ (own_w hw 51 rfl)) (by decide)) (Cond.privateMethod_at (mvP hZ (own_w hw 52 rfl) (args := #[]))) (mvT hZ (own_w hw 53 rfl)) (by decide) (backOf (W := 0) (rm_mrN l Z a0 hw [] dd am mg lev ln h0 n0 Z0 H1_F H10_G hl) hZ (own_w hw 53 rfl) (own_w hw 3 rfl) (by decide) (by decide)) (g := (mkF m 9 #[.val (.ref dd), .val (.int lev), .val (.long off), .second, .val (.long site), .second] [(.int lev), (.ref dd)])) rfl (by rw [hml]; rfl) (Steps.refl _) (a := dd) (by rw [e116]; exact q117) q117' (argsL := [(.int lev)]) (rest := []) (lenOf pd_5 rfl) rfl (by show 2 * 0 + _ ≤ _; exact Nat.le_of_eq rfl) (hb hby d15_9) (fun _ _ => ⟨rfl, e116, (by decide : 0 + 0 ≤ _), (by decide : 0 + 0 ≤ _)⟩)
  dsimp only [Pt.U, Pt.locs, Pt.cells, Pt.slots] at X117 l117 y117 z117 st117 hQ117
  subst l117 y117 z117
  obtain ⟨rfl, N117q, hq118⟩ := hQ117
  have N117 := Fr.app N0 N117q
  obtain ⟨T119, X119, e119, st119⟩ := getF X117 hx hZ hown (host := "") (Or.inl (own_w hw 83 rfl)) Via.refl hq118 H5_F (g := (mkF m 13 #[.val (.ref dd), .val (.int lev), .val (.long off), .second, .val (.long site), .second] [(.ref dd)])) rfl rfl (hb hby d15_13)
  obtain ⟨T120, X120, e120, st120⟩ := getF X119 hx hZ hown (host := "") (Or.inl (own_w hw 22 rfl)) Via.refl e119 H4_F (g := (mkF m 21 #[.val (.ref dd), .val (.int lev), .val (.long off), .second, .val (.long site), .second] [(.ref dd)])) rfl rfl (hb hby d15_21)
  obtain ⟨T121, X121, e121, st121⟩ := getF X120 hx hZ hown (host := "") (Or.inl (own_w hw 83 rfl)) Via.refl e120 H5_F (g := (mkF m 25 #[.val (.ref dd), .val (.int lev), .val (.long off), .second, .val (.long site), .second] [(.ref dd), (.ref as_)])) rfl rfl (hb hby d15_25)
  obtain ⟨T122, X122, e122, st122⟩ := getF X121 hx hZ hown (host := "") (Or.inl (own_w hw 40 rfl)) Via.refl e121 H8_F (g := (mkF m 29 #[.val (.ref dd), .val (.int lev), .val (.long off), .second, .val (.long site), .second] [(.ref dd), (.int (0 : Int32)), (.ref as_)])) rfl rfl (hb hby d15_29)
  obtain ⟨cq123, kq123, q123a, q123b, q123c⟩ := isOf hZ e122 H14_E
  obtain ⟨_, _, ⟨T123, L123, k123, n123⟩, -, X123, ⟨Lc123, hQ123, l123, y123, z123⟩, st123⟩ := X122.virtualBack hx (y := (⟨"com/example/fieldglass/fieldglass/io/Marks$Order", "size", "()J"⟩ : MethodName)) (z := (⟨"com/example/fieldglass/fieldglass/io/Marks$Order", "size", "()J"⟩ : MethodName)) hown (mvT hZ (own_w hw 104 rfl)) (mvT hZ (own_w hw 105 rfl)) (notFace_of_selects (args := #[]) (mvT hZ (own_w hw 107 rfl))) (mvT hZ (own_w hw 107 rfl)) (mvT hZ (own_w hw 106 rfl)) (by decide) (backOf (W := 2) (rm_osz l Z a0 hw [] oo (0 : Int32) h0 n0 Z0 H17_F H16_F) hZ (own_w hw 108 rfl) (own_w hw 30 rfl) (by decide) (by decide)) q123a q123c (g := (mkF m 32 #[.val (.ref dd), .val (.int lev), .val (.long off), .second, .val (.long site), .second] [(.ref oo), (.int (0 : Int32)), (.ref as_)])) rfl (by rw [hml]; rfl) (Steps.refl _) (argsL := []) (rest := [(.int (0 : Int32)), (.ref as_)]) (lenOf pd_7 rfl) rfl (by show 2 * 0 + _ ≤ _; exact Nat.le_of_eq rfl) (hb hby d15_32) (fun _ _ => ⟨rfl, e122, (by decide : 0 + 0 ≤ _), (by decide : 0 + 0 ≤ _)⟩)
  dsimp only [Pt.U, Pt.locs, Pt.cells, Pt.slots] at X123 l123 y123 z123 st123 hQ123
  subst l123 y123 z123
  obtain ⟨rfl, N123q, hq124⟩ := hQ123
  have N123 := Fr.app N117 N123q
  have oc125 := H13_G
  obtain ⟨c125, Arc125, Sc125, Hc125⟩ := oc125
  have hin126 : ¬ ((0 : Int32) < 0 ∨ c125.slots.size ≤ ((0 : Int32)).toNatClampNeg) := (own_ix_in Sc125 (⟨rfl, by decide⟩ : own_ix (0 : Int32) 0))
  obtain ⟨T126, h126, X126, e126, W126, st126⟩ := stJ X123 hx hZ hq124 Arc125 (j := (0 : Int32)) hin126 (g := (mkF m 35 #[.val (.ref dd), .val (.int lev), .val (.long off), .second, .val (.long site), .second] [(.long (own_sz (0 : Int32))), (.int (0 : Int32)), (.ref as_)])) rfl rfl (hb hby d15_35)
  have V126 : own_Fa Value.long .long Z h126 as_ 16 (own_up sg 0 (own_sz (0 : Int32))) := own_Fa_setk Arc125 Sc125 Hc125 W126 (own_ix_nat (⟨rfl, by decide⟩ : own_ix (0 : Int32) 0))
  have E127 := H0_E.wr W126
  have F128 := H1_F.other W126 (Or.inl hn_dd_as_)
  have F129 := H2_F.other W126 (Or.inl hn_dd_as_)
  have F130 := H3_F.other W126 (Or.inl hn_dd_as_)
  have F131 := H4_F.other W126 (Or.inl hn_dd_as_)
  have F132 := H5_F.other W126 (Or.inl hn_dd_as_)
  have F133 := H6_F.other W126 (Or.inl hn_dd_as_)
  have F134 := H7_F.other W126 (Or.inl hn_dd_as_)
  have F135 := H8_F.other W126 (Or.inl hn_dd_as_)
  have F136 := H9_F.other W126 (Or.inl hn_dd_as_)
  have G137 := H10_G.other W126 hn_am_as_
  have G138 := H11_G.other W126 hn_af_as_
  have G139 := H12_G.other W126 hn_ai_as_
  have E140 := H14_E.wr W126
  have F141 := H15_F.other W126 (Or.inl hn_oo_as_)
  have F142 := H16_F.other W126 (Or.inl hn_oo_as_)
  have F143 := H17_F.other W126 (Or.inl hn_oo_as_)
  have F144 := H18_F.other W126 (Or.inl hn_oo_as_)
  have A145 := H19_A.other W126 (Ne.symm hn_as__al)
  have N126 := Fr.snoc X126 N123 hg_as_
  have K126 : Keep h0 h126 [dd, oo, as_] := K0.wr W126 (Or.inl (List.mem_of_getElem? (i := 2) rfl))
  have Zs146 : n0 ≤ h126.size := (Nat.le_trans Z0 (Keep.of_wr W126).1)
  obtain ⟨T147, X147, e147, st147⟩ := getF X126 hx hZ hown (host := "") (Or.inl (own_w hw 40 rfl)) Via.refl e126 F135 (g := (mkF m 37 #[.val (.ref dd), .val (.int lev), .val (.long off), .second, .val (.long site), .second] [(.ref dd)])) rfl rfl (hb hby d15_37)
  obtain ⟨T148, X148, e148, st148⟩ := getF X147 hx hZ hown (host := "") (Or.inl (own_w hw 83 rfl)) Via.refl e147 F132 (g := (mkF m 42 #[.val (.ref dd), .val (.int lev), .val (.long off), .second, .val (.long site), .second] [(.ref dd), (.ref dd), (.ref oo)])) rfl rfl (hb hby d15_42)
  obtain ⟨cq149, q149, q149'⟩ := E127.cell
  obtain ⟨_, _, ⟨T149, L149, k149, n149⟩, -, X149, ⟨Lc149, hQ149, l149, y149, z149⟩, st149⟩ := X148.privateBack hx (y := (⟨"com/example/fieldglass/fieldglass/io/Marks", "groupSites", "(I)I"⟩ : MethodName)) hown (mvT hZ (own_w hw 96 rfl)) (mvT hZ (own_w hw 97 rfl)) (own_sel_priv (z := (⟨"com/example/fieldglass/fieldglass/io/Marks", "beginMessage", "(I)V"⟩ : MethodName)) (mvT hZ (own_w hw 48 rfl)) rfl (mvP hZ (own_w hw 98 rfl)) (mvT hZ (own_w hw 97 rfl)) (by decide)) (Cond.privateMethod_at (mvP hZ (own_w hw 98 rfl) (args := #[]))) (mvT hZ (own_w hw 99 rfl)) (by decide) (backOf (W := 1) (rm_gs l Z a0 hw [] dd am mg (0 : Int32) 0 h126 n0 Zs146 F128 G137 (⟨rfl, by decide⟩ : own_ix (0 : Int32) 0)) hZ (own_w hw 99 rfl) (own_w hw 3 rfl) (by decide) (by decide)) (g := (mkF m 45 #[.val (.ref dd), .val (.int lev), .val (.long off), .second, .val (.long site), .second] [(.int (0 : Int32)), (.ref dd), (.ref oo)])) rfl (by rw [hml]; rfl) (Steps.refl _) (a := dd) (by rw [e148]; exact q149) q149' (argsL := [(.int (0 : Int32))]) (rest := [(.ref oo)]) (lenOf pd_8 rfl) rfl (by show 2 * 0 + _ ≤ _; exact Nat.le_of_eq rfl) (hb hby d15_45) (fun _ _ => ⟨rfl, e148, (by decide : 0 + 0 ≤ _), (by decide : 0 + 0 ≤ _)⟩)
  dsimp only [Pt.U, Pt.locs, Pt.cells, Pt.slots] at X149 l149 y149 z149 st149 hQ149
  subst l149 y149 z149
  obtain ⟨rfl, N149q, hq150⟩ := hQ149
  have N149 := Fr.app N126 N149q
  obtain ⟨T151, X151, e151, st151⟩ := getF X149 hx hZ hown (host := "") (Or.inl (own_w hw 20 rfl)) Via.refl hq150 F130 (g := (mkF m 49 #[.val (.ref dd), .val (.int lev), .val (.long off), .second, .val (.long site), .second] [(.ref dd), (.int (own_gr (mg 0))), (.ref oo)])) rfl rfl (hb hby d15_49)
  obtain ⟨T152, X152, e152, st152⟩ := getF X151 hx hZ hown (host := "") (Or.inl (own_w hw 83 rfl)) Via.refl e151 F132 (g := (mkF m 53 #[.val (.ref dd), .val (.int lev), .val (.long off), .second, .val (.long site), .second] [(.ref dd), (.ref ai), (.int (own_gr (mg 0))), (.ref oo)])) rfl rfl (hb hby d15_53)
  have oc153 := G139
  obtain ⟨c153, Arc153, Sc153, Hc153⟩ := oc153
  have hin154 : ¬ ((0 : Int32) < 0 ∨ c153.slots.size ≤ ((0 : Int32)).toNatClampNeg) := (own_ix_in Sc153 (⟨rfl, by decide⟩ : own_ix (0 : Int32) 0))
  have hk0_ := hk0
  have pre155 := fun (t : State) (k : Steps p.tables e below (T152.setTop (mkF m 58 #[.val (.ref dd), .val (.int lev), .val (.long off), .second, .val (.long site), .second] [(.int ((own_gr (mg 0)) + (fg 0))), (.ref oo)])) t) => pre0 t (by
    refine XS.aloadN X0.here hx rfl (hb hby d15_0) rfl rfl ?_
    refine st116 _ ?_
    refine XS.ifNo X116.here hx rfl (hb hby d15_4) rfl ((if0 _ _).trans (feq (by decide : ¬ ((1 : Int32) = (0 : Int32)))).1) ?_
    refine XS.aloadN X116.here hx rfl (hb hby d15_7) rfl rfl ?_
    refine XS.iloadN X116.here hx rfl (hb hby d15_8) rfl ?_
    refine st117.trans ?_
    refine XS.aloadN X117.here hx rfl (hb hby d15_12) rfl rfl ?_
    refine st119 _ ?_
    refine XS.iloadN X119.here hx rfl (hb hby d15_16) rfl ?_
    refine XS.icmpNo X119.here hx rfl (hb hby d15_17) rfl (flt (own_ix_nn hl)).2.2.1 ?_
    refine XS.aloadN X119.here hx rfl (hb hby d15_20) rfl rfl ?_
    refine st120 _ ?_
    refine XS.aloadN X120.here hx rfl (hb hby d15_24) rfl rfl ?_
    refine st121 _ ?_
    refine XS.aloadN X121.here hx rfl (hb hby d15_28) rfl rfl ?_
    refine st122 _ ?_
    refine st123.trans ?_
    refine st126 _ ?_
    refine XS.aloadN X126.here hx rfl (hb hby d15_36) rfl rfl ?_
    refine st147 _ ?_
    refine XS.aloadN X147.here hx rfl (hb hby d15_40) rfl rfl ?_
    refine XS.aloadN X147.here hx rfl (hb hby d15_41) rfl rfl ?_
    refine st148 _ ?_
    refine st149.trans ?_
    refine XS.aloadN X149.here hx rfl (hb hby d15_48) rfl rfl ?_
    refine st151 _ ?_
    refine XS.aloadN X151.here hx rfl (hb hby d15_52) rfl rfl ?_
    refine st152 _ ?_
    refine X152.iaload hx (j := (0 : Int32)) (v := (.int (fg 0))) (by rw [e152]; exact Arc153.1) (State.isArrayOf_alike hZ.alike Arc153.2.1) Arc153.2.2 hin154 (own_at Hc153 (own_ix_nat (⟨rfl, by decide⟩ : own_ix (0 : Int32) 0)) (own_inn Sc153 hin154)) (g := (mkF m 56 #[.val (.ref dd), .val (.int lev), .val (.long off), .second, .val (.long site), .second] [(.int (0 : Int32)), (.ref ai), (.int (own_gr (mg 0))), (.ref oo)])) rfl rfl (hb hby d15_56) _ ?_
    refine XS.iadd X152.here hx rfl (hb hby d15_57) rfl ?_
    exact k)
  rcases hk0_ with ⟨hk00, rfl, hk1⟩ | hk0q
  · have hz1 : cf 1 = 0 := own_z1 hcf hk00
    obtain ⟨cq156, kq156, q156a, q156b, q156c⟩ := isOf hZ e152 E140
    obtain ⟨_, _, ⟨T156, L156, k156, n156⟩, -, X156, ⟨Lc156, hQ156, l156, y156, z156⟩, st156⟩ := X152.virtualBack hx (y := (⟨"com/example/fieldglass/fieldglass/io/Marks$Order", "appendUnmarked", "(I)V"⟩ : MethodName)) (z := (⟨"com/example/fieldglass/fieldglass/io/Marks$Order", "appendUnmarked", "(I)V"⟩ : MethodName)) hown (mvT hZ (own_w hw 113 rfl)) (mvT hZ (own_w hw 114 rfl)) (notFace_of_selects (args := #[]) (mvT hZ (own_w hw 116 rfl))) (mvT hZ (own_w hw 116 rfl)) (mvT hZ (own_w hw 115 rfl)) (by decide) (backOf (W := 0) (rm_ap0 l Z a0 hw [] oo ((own_gr (mg 0)) + (fg 0)) h126 n0 Zs146 hk00) hZ (own_w hw 117 rfl) (own_w hw 30 rfl) (by decide) (by decide)) q156a q156c (g := (mkF m 58 #[.val (.ref dd), .val (.int lev), .val (.long off), .second, .val (.long site), .second] [(.int ((own_gr (mg 0)) + (fg 0))), (.ref oo)])) rfl (by rw [hml]; rfl) (Steps.refl _) (argsL := [(.int ((own_gr (mg 0)) + (fg 0)))]) (rest := []) (lenOf pd_5 rfl) rfl (by show 2 * 0 + _ ≤ _; exact Nat.le_of_eq rfl) (hb hby d15_58) (fun _ _ => ⟨rfl, e152, (by decide : 0 + 0 ≤ _), (by decide : 0 + 0 ≤ _)⟩)
    dsimp only [Pt.U, Pt.locs, Pt.cells, Pt.slots] at X156 l156 y156 z156 st156 hQ156
    subst l156 y156 z156
    obtain ⟨rfl, N156q, hq157⟩ := hQ156
    have N156 := Fr.app N149 N156q
    obtain ⟨T158, X158, e158, st158⟩ := getF X156 hx hZ hown (host := "") (Or.inl (own_w hw 83 rfl)) Via.refl hq157 F132 (g := (mkF m 63 #[.val (.ref dd), .val (.int lev), .val (.long off), .second, .val (.long site), .second] [(.ref dd), (.ref dd)])) rfl rfl (hb hby d15_63)
    obtain ⟨T159, h159, X159, e159, W159, st159⟩ := putF X158 hx hZ hown (host := "") (Or.inl (own_w hw 83 rfl)) Via.refl e158 F132 E127 (Or.inl (own_w hw 84 rfl)) (own_w hw 2 rfl) (ty := .int) (by decide) rfl rfl (g := (mkF m 68 #[.val (.ref dd), .val (.int lev), .val (.long off), .second, .val (.long site), .second] [(.int (1 : Int32)), (.ref dd)])) rfl rfl (hb hby d15_68)
    have Fw159 : Fld Z h159 dd "com/example/fieldglass/fieldglass/io/Marks" "slotted" "I" (.int (1 : Int32)) := F132.same W159
    have E160 := E127.wr W159
    have F161 := F128.other W159 (Or.inr (slot_ne (Or.inl (own_w hw 13 rfl)) (Or.inl (own_w hw 84 rfl)) (by decide) (t := (.array .boolean)) (t' := .int) (by decide) (by decide)))
    have F162 := F129.other W159 (Or.inr (slot_ne (Or.inl (own_w hw 17 rfl)) (Or.inl (own_w hw 84 rfl)) (by decide) (t := (.array .long)) (t' := .int) (by decide) (by decide)))
    have F163 := F130.other W159 (Or.inr (slot_ne (Or.inl (own_w hw 21 rfl)) (Or.inl (own_w hw 84 rfl)) (by decide) (t := (.array .int)) (t' := .int) (by decide) (by decide)))
    have F164 := F131.other W159 (Or.inr (slot_ne (Or.inl (own_w hw 23 rfl)) (Or.inl (own_w hw 84 rfl)) (by decide) (t := (.array .long)) (t' := .int) (by decide) (by decide)))
    have F165 := F133.other W159 (Or.inr (slot_ne (Or.inl (own_w hw 25 rfl)) (Or.inl (own_w hw 84 rfl)) (by decide) (t := .int) (t' := .int) (by decide) (by decide)))
    have F166 := F134.other W159 (Or.inr (slot_ne (Or.inl (own_w hw 27 rfl)) (Or.inl (own_w hw 84 rfl)) (by decide) (t := .boolean) (t' := .int) (by decide) (by decide)))
    have F167 := F135.other W159 (Or.inr (slot_ne (Or.inr (own_w hw 41 rfl)) (Or.inl (own_w hw 84 rfl)) (by decide) (t := (.object "com/example/fieldglass/fieldglass/io/Marks$Order")) (t' := .int) (by decide) (by decide)))
    have F168 := F136.other W159 (Or.inr (slot_ne (Or.inl (own_w hw 44 rfl)) (Or.inl (own_w hw 84 rfl)) (by decide) (t := .long) (t' := .int) (by decide) (by decide)))
    have G169 := G137.other W159 (Ne.symm hn_dd_am)
    have G170 := G138.other W159 (Ne.symm hn_dd_af)
    have G171 := G139.other W159 (Ne.symm hn_dd_ai)
    have E172 := E140.wr W159
    have F173 := F141.other W159 (Or.inl (Ne.symm hn_dd_oo))
    have F174 := F142.other W159 (Or.inl (Ne.symm hn_dd_oo))
    have F175 := F143.other W159 (Or.inl (Ne.symm hn_dd_oo))
    have F176 := F144.other W159 (Or.inl (Ne.symm hn_dd_oo))
    have A177 := A145.other W159 (Ne.symm hn_dd_al)
    have G178 := V126.other W159 (Ne.symm hn_dd_as_)
    have N159 := Fr.snoc X159 N156 hg_dd
    have K159 : Keep h0 h159 [dd, oo, as_] := K126.wr W159 (Or.inl (List.mem_of_getElem? (i := 0) rfl))
    have Zs179 : n0 ≤ h159.size := (Nat.le_trans Zs146 (Keep.of_wr W159).1)
    obtain ⟨T180, X180, e180, st180⟩ := getF X159 hx hZ hown (host := "") (Or.inl (own_w hw 83 rfl)) Via.refl e159 Fw159 (g := (mkF m 13 #[.val (.ref dd), .val (.int lev), .val (.long off), .second, .val (.long site), .second] [(.ref dd)])) rfl rfl (hb hby d15_13)
    obtain ⟨T181, X181, e181, st181⟩ := getF X180 hx hZ hown (host := "") (Or.inl (own_w hw 22 rfl)) Via.refl e180 F164 (g := (mkF m 21 #[.val (.ref dd), .val (.int lev), .val (.long off), .second, .val (.long site), .second] [(.ref dd)])) rfl rfl (hb hby d15_21)
    obtain ⟨T182, X182, e182, st182⟩ := getF X181 hx hZ hown (host := "") (Or.inl (own_w hw 83 rfl)) Via.refl e181 Fw159 (g := (mkF m 25 #[.val (.ref dd), .val (.int lev), .val (.long off), .second, .val (.long site), .second] [(.ref dd), (.ref as_)])) rfl rfl (hb hby d15_25)
    obtain ⟨T183, X183, e183, st183⟩ := getF X182 hx hZ hown (host := "") (Or.inl (own_w hw 40 rfl)) Via.refl e182 F167 (g := (mkF m 29 #[.val (.ref dd), .val (.int lev), .val (.long off), .second, .val (.long site), .second] [(.ref dd), (.int (1 : Int32)), (.ref as_)])) rfl rfl (hb hby d15_29)
    obtain ⟨cq184, kq184, q184a, q184b, q184c⟩ := isOf hZ e183 E172
    obtain ⟨_, _, ⟨T184, L184, k184, n184⟩, -, X184, ⟨Lc184, hQ184, l184, y184, z184⟩, st184⟩ := X183.virtualBack hx (y := (⟨"com/example/fieldglass/fieldglass/io/Marks$Order", "size", "()J"⟩ : MethodName)) (z := (⟨"com/example/fieldglass/fieldglass/io/Marks$Order", "size", "()J"⟩ : MethodName)) hown (mvT hZ (own_w hw 104 rfl)) (mvT hZ (own_w hw 105 rfl)) (notFace_of_selects (args := #[]) (mvT hZ (own_w hw 107 rfl))) (mvT hZ (own_w hw 107 rfl)) (mvT hZ (own_w hw 106 rfl)) (by decide) (backOf (W := 2) (rm_osz l Z a0 hw [] oo (0 : Int32) h159 n0 Zs179 F175 F174) hZ (own_w hw 108 rfl) (own_w hw 30 rfl) (by decide) (by decide)) q184a q184c (g := (mkF m 32 #[.val (.ref dd), .val (.int lev), .val (.long off), .second, .val (.long site), .second] [(.ref oo), (.int (1 : Int32)), (.ref as_)])) rfl (by rw [hml]; rfl) (Steps.refl _) (argsL := []) (rest := [(.int (1 : Int32)), (.ref as_)]) (lenOf pd_7 rfl) rfl (by show 2 * 0 + _ ≤ _; exact Nat.le_of_eq rfl) (hb hby d15_32) (fun _ _ => ⟨rfl, e183, (by decide : 0 + 0 ≤ _), (by decide : 0 + 0 ≤ _)⟩)
    dsimp only [Pt.U, Pt.locs, Pt.cells, Pt.slots] at X184 l184 y184 z184 st184 hQ184
    subst l184 y184 z184
    obtain ⟨rfl, N184q, hq185⟩ := hQ184
    have N184 := Fr.app N159 N184q
    have oc186 := G178
    obtain ⟨c186, Arc186, Sc186, Hc186⟩ := oc186
    have hin187 : ¬ ((1 : Int32) < 0 ∨ c186.slots.size ≤ ((1 : Int32)).toNatClampNeg) := (own_ix_in Sc186 (⟨rfl, by decide⟩ : own_ix (1 : Int32) 1))
    obtain ⟨T187, h187, X187, e187, W187, st187⟩ := stJ X184 hx hZ hq185 Arc186 (j := (1 : Int32)) hin187 (g := (mkF m 35 #[.val (.ref dd), .val (.int lev), .val (.long off), .second, .val (.long site), .second] [(.long (own_sz (0 : Int32))), (.int (1 : Int32)), (.ref as_)])) rfl rfl (hb hby d15_35)
    have V187 : own_Fa Value.long .long Z h187 as_ 16 (own_up (own_up sg 0 (own_sz (0 : Int32))) 1 (own_sz (0 : Int32))) := own_Fa_setk Arc186 Sc186 Hc186 W187 (own_ix_nat (⟨rfl, by decide⟩ : own_ix (1 : Int32) 1))
    have E188 := E160.wr W187
    have F189 := F161.other W187 (Or.inl hn_dd_as_)
    have F190 := F162.other W187 (Or.inl hn_dd_as_)
    have F191 := F163.other W187 (Or.inl hn_dd_as_)
    have F192 := F164.other W187 (Or.inl hn_dd_as_)
    have F193 := F165.other W187 (Or.inl hn_dd_as_)
    have F194 := F166.other W187 (Or.inl hn_dd_as_)
    have F195 := F167.other W187 (Or.inl hn_dd_as_)
    have F196 := F168.other W187 (Or.inl hn_dd_as_)
    have G197 := G169.other W187 hn_am_as_
    have G198 := G170.other W187 hn_af_as_
    have G199 := G171.other W187 hn_ai_as_
    have E200 := E172.wr W187
    have F201 := F173.other W187 (Or.inl hn_oo_as_)
    have F202 := F174.other W187 (Or.inl hn_oo_as_)
    have F203 := F175.other W187 (Or.inl hn_oo_as_)
    have F204 := F176.other W187 (Or.inl hn_oo_as_)
    have A205 := A177.other W187 (Ne.symm hn_as__al)
    have F206 := Fw159.other W187 (Or.inl hn_dd_as_)
    have N187 := Fr.snoc X187 N184 hg_as_
    have K187 : Keep h0 h187 [dd, oo, as_] := K159.wr W187 (Or.inl (List.mem_of_getElem? (i := 2) rfl))
    have Zs207 : n0 ≤ h187.size := (Nat.le_trans Zs179 (Keep.of_wr W187).1)
    obtain ⟨T208, X208, e208, st208⟩ := getF X187 hx hZ hown (host := "") (Or.inl (own_w hw 40 rfl)) Via.refl e187 F195 (g := (mkF m 37 #[.val (.ref dd), .val (.int lev), .val (.long off), .second, .val (.long site), .second] [(.ref dd)])) rfl rfl (hb hby d15_37)
    obtain ⟨T209, X209, e209, st209⟩ := getF X208 hx hZ hown (host := "") (Or.inl (own_w hw 83 rfl)) Via.refl e208 F206 (g := (mkF m 42 #[.val (.ref dd), .val (.int lev), .val (.long off), .second, .val (.long site), .second] [(.ref dd), (.ref dd), (.ref oo)])) rfl rfl (hb hby d15_42)
    obtain ⟨cq210, q210, q210'⟩ := E188.cell
    obtain ⟨_, _, ⟨T210, L210, k210, n210⟩, -, X210, ⟨Lc210, hQ210, l210, y210, z210⟩, st210⟩ := X209.privateBack hx (y := (⟨"com/example/fieldglass/fieldglass/io/Marks", "groupSites", "(I)I"⟩ : MethodName)) hown (mvT hZ (own_w hw 96 rfl)) (mvT hZ (own_w hw 97 rfl)) (own_sel_priv (z := (⟨"com/example/fieldglass/fieldglass/io/Marks", "beginMessage", "(I)V"⟩ : MethodName)) (mvT hZ (own_w hw 48 rfl)) rfl (mvP hZ (own_w hw 98 rfl)) (mvT hZ (own_w hw 97 rfl)) (by decide)) (Cond.privateMethod_at (mvP hZ (own_w hw 98 rfl) (args := #[]))) (mvT hZ (own_w hw 99 rfl)) (by decide) (backOf (W := 1) (rm_gs l Z a0 hw [] dd am mg (1 : Int32) 1 h187 n0 Zs207 F189 G197 (⟨rfl, by decide⟩ : own_ix (1 : Int32) 1)) hZ (own_w hw 99 rfl) (own_w hw 3 rfl) (by decide) (by decide)) (g := (mkF m 45 #[.val (.ref dd), .val (.int lev), .val (.long off), .second, .val (.long site), .second] [(.int (1 : Int32)), (.ref dd), (.ref oo)])) rfl (by rw [hml]; rfl) (Steps.refl _) (a := dd) (by rw [e209]; exact q210) q210' (argsL := [(.int (1 : Int32))]) (rest := [(.ref oo)]) (lenOf pd_8 rfl) rfl (by show 2 * 0 + _ ≤ _; exact Nat.le_of_eq rfl) (hb hby d15_45) (fun _ _ => ⟨rfl, e209, (by decide : 0 + 0 ≤ _), (by decide : 0 + 0 ≤ _)⟩)
    dsimp only [Pt.U, Pt.locs, Pt.cells, Pt.slots] at X210 l210 y210 z210 st210 hQ210
    subst l210 y210 z210
    obtain ⟨rfl, N210q, hq211⟩ := hQ210
    have N210 := Fr.app N187 N210q
    obtain ⟨T212, X212, e212, st212⟩ := getF X210 hx hZ hown (host := "") (Or.inl (own_w hw 20 rfl)) Via.refl hq211 F191 (g := (mkF m 49 #[.val (.ref dd), .val (.int lev), .val (.long off), .second, .val (.long site), .second] [(.ref dd), (.int (own_gr (mg 1))), (.ref oo)])) rfl rfl (hb hby d15_49)
    obtain ⟨T213, X213, e213, st213⟩ := getF X212 hx hZ hown (host := "") (Or.inl (own_w hw 83 rfl)) Via.refl e212 F206 (g := (mkF m 53 #[.val (.ref dd), .val (.int lev), .val (.long off), .second, .val (.long site), .second] [(.ref dd), (.ref ai), (.int (own_gr (mg 1))), (.ref oo)])) rfl rfl (hb hby d15_53)
    have oc214 := G199
    obtain ⟨c214, Arc214, Sc214, Hc214⟩ := oc214
    have hin215 : ¬ ((1 : Int32) < 0 ∨ c214.slots.size ≤ ((1 : Int32)).toNatClampNeg) := (own_ix_in Sc214 (⟨rfl, by decide⟩ : own_ix (1 : Int32) 1))
    obtain ⟨cq216, kq216, q216a, q216b, q216c⟩ := isOf hZ e213 E200
    obtain ⟨_, _, ⟨T216, L216, k216, n216⟩, -, X216, ⟨Lc216, hQ216, l216, y216, z216⟩, st216⟩ := X213.virtualBack hx (y := (⟨"com/example/fieldglass/fieldglass/io/Marks$Order", "appendUnmarked", "(I)V"⟩ : MethodName)) (z := (⟨"com/example/fieldglass/fieldglass/io/Marks$Order", "appendUnmarked", "(I)V"⟩ : MethodName)) hown (mvT hZ (own_w hw 113 rfl)) (mvT hZ (own_w hw 114 rfl)) (notFace_of_selects (args := #[]) (mvT hZ (own_w hw 116 rfl))) (mvT hZ (own_w hw 116 rfl)) (mvT hZ (own_w hw 115 rfl)) (by decide) (backOf (W := 0) (rm_apG l Z a0 hw [] oo al kl ((own_gr (mg 1)) + (fg 1)) h187 n0 Zs207 E200 F201 F202 F203 F204 A205 hk1 hg_oo hn_oo_al) hZ (own_w hw 117 rfl) (own_w hw 30 rfl) (by decide) (by decide)) q216a q216c (g := (mkF m 58 #[.val (.ref dd), .val (.int lev), .val (.long off), .second, .val (.long site), .second] [(.int ((own_gr (mg 1)) + (fg 1))), (.ref oo)])) rfl (by rw [hml]; rfl) (Steps.refl _) (argsL := [(.int ((own_gr (mg 1)) + (fg 1)))]) (rest := []) (lenOf pd_5 rfl) rfl (by show 2 * 0 + _ ≤ _; exact Nat.le_of_eq rfl) (hb hby d15_58) (fun _ _ => ⟨rfl, e213, (by decide : 0 + 1 ≤ _), (by decide : 0 + 16 ≤ _)⟩)
    dsimp only [Pt.U, Pt.locs, Pt.cells, Pt.slots] at X216 l216 y216 z216 st216 hQ216
    subst l216 y216 z216
    obtain ⟨x217, x218, x219, rfl, N216q, hq220, hpq221, hpq222, hpq223, F224, F225, F226, F227, G228⟩ := hQ216
    have N216 := Fr.app N210 N216q
    have lt229 : dd < h187.size := E188.lt
    have lt230 : am < h187.size := G197.lt
    have lt231 : af < h187.size := G198.lt
    have lt232 : ai < h187.size := G199.lt
    have lt233 : oo < h187.size := E200.lt
    have lt234 : al < h187.size := A205.lt
    have lt235 : as_ < h187.size := V187.lt
    have E236 := E188.keep hq220
    have F237 := F189.keep hq220 (ninS hn_dd_oo nin0)
    have F238 := F190.keep hq220 (ninS hn_dd_oo nin0)
    have F239 := F191.keep hq220 (ninS hn_dd_oo nin0)
    have F240 := F192.keep hq220 (ninS hn_dd_oo nin0)
    have F241 := F193.keep hq220 (ninS hn_dd_oo nin0)
    have F242 := F194.keep hq220 (ninS hn_dd_oo nin0)
    have F243 := F195.keep hq220 (ninS hn_dd_oo nin0)
    have F244 := F196.keep hq220 (ninS hn_dd_oo nin0)
    have G245 := G197.keep hq220 (ninS (Ne.symm hn_oo_am) nin0)
    have G246 := G198.keep hq220 (ninS (Ne.symm hn_oo_af) nin0)
    have G247 := G199.keep hq220 (ninS (Ne.symm hn_oo_ai) nin0)
    have E248 := E200.keep hq220
    have A249 := A205.keep hq220 (ninS (Ne.symm hn_oo_al) nin0)
    have F250 := F206.keep hq220 (ninS hn_dd_oo nin0)
    have G251 := V187.keep hq220 (ninS (Ne.symm hn_oo_as_) nin0)
    have K216 : Keep h0 T216.heap [dd, oo, as_] := K187.trans hq220 (allS (Or.inl (List.mem_of_getElem? (i := 1) rfl)) all0)
    have Zs252 : n0 ≤ T216.heap.size := (Nat.le_trans Zs207 hq220.1)
    have ne253 : dd ≠ x217 := Nat.ne_of_lt (Nat.lt_of_lt_of_le lt229 hpq222)
    have ne254 : am ≠ x217 := Nat.ne_of_lt (Nat.lt_of_lt_of_le lt230 hpq222)
    have ne255 : af ≠ x217 := Nat.ne_of_lt (Nat.lt_of_lt_of_le lt231 hpq222)
    have ne256 : ai ≠ x217 := Nat.ne_of_lt (Nat.lt_of_lt_of_le lt232 hpq222)
    have ne257 : oo ≠ x217 := Nat.ne_of_lt (Nat.lt_of_lt_of_le lt233 hpq222)
    have ne258 : al ≠ x217 := Nat.ne_of_lt (Nat.lt_of_lt_of_le lt234 hpq222)
    have ne259 : as_ ≠ x217 := Nat.ne_of_lt (Nat.lt_of_lt_of_le lt235 hpq222)
    have sz260 : h0.size ≤ x217 := Nat.le_trans K187.1 hpq222
    obtain ⟨T261, X261, e261, st261⟩ := getF X216 hx hZ hown (host := "") (Or.inl (own_w hw 83 rfl)) Via.refl rfl F250 (g := (mkF m 63 #[.val (.ref dd), .val (.int lev), .val (.long off), .second, .val (.long site), .second] [(.ref dd), (.ref dd)])) rfl rfl (hb hby d15_63)
    obtain ⟨T262, h262, X262, e262, W262, st262⟩ := putF X261 hx hZ hown (host := "") (Or.inl (own_w hw 83 rfl)) Via.refl e261 F250 E236 (Or.inl (own_w hw 84 rfl)) (own_w hw 2 rfl) (ty := .int) (by decide) rfl rfl (g := (mkF m 68 #[.val (.ref dd), .val (.int lev), .val (.long off), .second, .val (.long site), .second] [(.int (2 : Int32)), (.ref dd)])) rfl rfl (hb hby d15_68)
    have Fw262 : Fld Z h262 dd "com/example/fieldglass/fieldglass/io/Marks" "slotted" "I" (.int (2 : Int32)) := F250.same W262
    have E263 := E236.wr W262
    have F264 := F237.other W262 (Or.inr (slot_ne (Or.inl (own_w hw 13 rfl)) (Or.inl (own_w hw 84 rfl)) (by decide) (t := (.array .boolean)) (t' := .int) (by decide) (by decide)))
    have F265 := F238.other W262 (Or.inr (slot_ne (Or.inl (own_w hw 17 rfl)) (Or.inl (own_w hw 84 rfl)) (by decide) (t := (.array .long)) (t' := .int) (by decide) (by decide)))
    have F266 := F239.other W262 (Or.inr (slot_ne (Or.inl (own_w hw 21 rfl)) (Or.inl (own_w hw 84 rfl)) (by decide) (t := (.array .int)) (t' := .int) (by decide) (by decide)))
    have F267 := F240.other W262 (Or.inr (slot_ne (Or.inl (own_w hw 23 rfl)) (Or.inl (own_w hw 84 rfl)) (by decide) (t := (.array .long)) (t' := .int) (by decide) (by decide)))
    have F268 := F241.other W262 (Or.inr (slot_ne (Or.inl (own_w hw 25 rfl)) (Or.inl (own_w hw 84 rfl)) (by decide) (t := .int) (t' := .int) (by decide) (by decide)))
    have F269 := F242.other W262 (Or.inr (slot_ne (Or.inl (own_w hw 27 rfl)) (Or.inl (own_w hw 84 rfl)) (by decide) (t := .boolean) (t' := .int) (by decide) (by decide)))
    have F270 := F243.other W262 (Or.inr (slot_ne (Or.inr (own_w hw 41 rfl)) (Or.inl (own_w hw 84 rfl)) (by decide) (t := (.object "com/example/fieldglass/fieldglass/io/Marks$Order")) (t' := .int) (by decide) (by decide)))
    have F271 := F244.other W262 (Or.inr (slot_ne (Or.inl (own_w hw 44 rfl)) (Or.inl (own_w hw 84 rfl)) (by decide) (t := .long) (t' := .int) (by decide) (by decide)))
    have G272 := G245.other W262 (Ne.symm hn_dd_am)
    have G273 := G246.other W262 (Ne.symm hn_dd_af)
    have G274 := G247.other W262 (Ne.symm hn_dd_ai)
    have E275 := E248.wr W262
    have A276 := A249.other W262 (Ne.symm hn_dd_al)
    have G277 := G251.other W262 (Ne.symm hn_dd_as_)
    have F278 := F224.other W262 (Or.inl (Ne.symm hn_dd_oo))
    have F279 := F225.other W262 (Or.inl (Ne.symm hn_dd_oo))
    have F280 := F226.other W262 (Or.inl (Ne.symm hn_dd_oo))
    have F281 := F227.other W262 (Or.inl (Ne.symm hn_dd_oo))
    have G282 := G228.other W262 (Ne.symm ne253)
    have N262 := Fr.snoc X262 N216 hg_dd
    have K262 : Keep h0 h262 [dd, oo, as_] := K216.wr W262 (Or.inl (List.mem_of_getElem? (i := 0) rfl))
    have Zs283 : n0 ≤ h262.size := (Nat.le_trans Zs252 (Keep.of_wr W262).1)
    have pre284 := fun (t : State) (k : Steps p.tables e below (T262.setTop (mkF m 12 #[.val (.ref dd), .val (.int lev), .val (.long off), .second, .val (.long site), .second] [])) t) => pre155 t (by
      refine st156.trans ?_
      refine XS.aloadN X156.here hx rfl (hb hby d15_61) rfl rfl ?_
      refine XS.dup X156.here hx rfl (hb hby d15_62) rfl rfl ?_
      refine st158 _ ?_
      refine XS.iconst X158.here hx rfl (hb hby d15_66) ?_
      refine XS.iadd X158.here hx rfl (hb hby d15_67) rfl ?_
      refine st159 _ ?_
      refine XS.goto X159.here hx rfl (pc0 := 71) (pc' := 12) rfl (hb hby d15_71) (by decide) (by decide) ?_
      refine XS.aloadN X159.here hx rfl (hb hby d15_12) rfl rfl ?_
      refine st180 _ ?_
      refine XS.iloadN X180.here hx rfl (hb hby d15_16) rfl ?_
      refine XS.icmpNo X180.here hx rfl (hb hby d15_17) rfl (flt (own_nlt1 hl)).2.2.1 ?_
      refine XS.aloadN X180.here hx rfl (hb hby d15_20) rfl rfl ?_
      refine st181 _ ?_
      refine XS.aloadN X181.here hx rfl (hb hby d15_24) rfl rfl ?_
      refine st182 _ ?_
      refine XS.aloadN X182.here hx rfl (hb hby d15_28) rfl rfl ?_
      refine st183 _ ?_
      refine st184.trans ?_
      refine st187 _ ?_
      refine XS.aloadN X187.here hx rfl (hb hby d15_36) rfl rfl ?_
      refine st208 _ ?_
      refine XS.aloadN X208.here hx rfl (hb hby d15_40) rfl rfl ?_
      refine XS.aloadN X208.here hx rfl (hb hby d15_41) rfl rfl ?_
      refine st209 _ ?_
      refine st210.trans ?_
      refine XS.aloadN X210.here hx rfl (hb hby d15_48) rfl rfl ?_
      refine st212 _ ?_
      refine XS.aloadN X212.here hx rfl (hb hby d15_52) rfl rfl ?_
      refine st213 _ ?_
      refine X213.iaload hx (j := (1 : Int32)) (v := (.int (fg 1))) (by rw [e213]; exact Arc214.1) (State.isArrayOf_alike hZ.alike Arc214.2.1) Arc214.2.2 hin215 (own_at Hc214 (own_ix_nat (⟨rfl, by decide⟩ : own_ix (1 : Int32) 1)) (own_inn Sc214 hin215)) (g := (mkF m 56 #[.val (.ref dd), .val (.int lev), .val (.long off), .second, .val (.long site), .second] [(.int (1 : Int32)), (.ref ai), (.int (own_gr (mg 1))), (.ref oo)])) rfl rfl (hb hby d15_56) _ ?_
      refine XS.iadd X213.here hx rfl (hb hby d15_57) rfl ?_
      refine st216.trans ?_
      refine XS.aloadN X216.here hx rfl (hb hby d15_61) rfl rfl ?_
      refine XS.dup X216.here hx rfl (hb hby d15_62) rfl rfl ?_
      refine st261 _ ?_
      refine XS.iconst X261.here hx rfl (hb hby d15_66) ?_
      refine XS.iadd X261.here hx rfl (hb hby d15_67) rfl ?_
      refine st262 _ ?_
      refine XS.goto X262.here hx rfl (pc0 := 71) (pc' := 12) rfl (hb hby d15_71) (by decide) (by decide) ?_
      exact k)
    obtain ⟨s2, o2, hs2, hr2⟩ := lp 3 (2 : Int32) 2 (own_up (own_up sg 0 (own_sz (0 : Int32))) 1 (own_sz (0 : Int32))) x218 x219 x217 T262 h262 _ N262 X262 e262 K262 Zs283 E263 F264 F265 F266 F267 Fw262 F268 F269 F270 F271 G272 G273 G274 G277 E275 F278 F279 F280 F281 G282 hpq221 sz260 ne253 ne257 ne254 ne255 ne256 ne259 rfl (Nat.le_refl _) (own_mk_s (jn := 1) (own_mk_s (jn := 0) (fun i hi => absurd hi (Nat.not_lt_zero i)) (own_c_z hcf.1)) (own_c_z hz1)) (own_mk_g (jn := 1) hcf (Nat.le_refl _) (own_ng_z hz1) (own_ap_z (jn := 1) hz1 hpq223)) (own_mk_c (jn := 1) hcf (Nat.le_refl _) (own_ap_z (jn := 1) hz1 hpq223)) (by omega)
    exact ⟨s2, o2, pre284 _ hs2, hr2⟩
  · obtain ⟨cq285, kq285, q285a, q285b, q285c⟩ := isOf hZ e152 E140
    obtain ⟨_, _, ⟨T285, L285, k285, n285⟩, -, X285, ⟨Lc285, hQ285, l285, y285, z285⟩, st285⟩ := X152.virtualBack hx (y := (⟨"com/example/fieldglass/fieldglass/io/Marks$Order", "appendUnmarked", "(I)V"⟩ : MethodName)) (z := (⟨"com/example/fieldglass/fieldglass/io/Marks$Order", "appendUnmarked", "(I)V"⟩ : MethodName)) hown (mvT hZ (own_w hw 113 rfl)) (mvT hZ (own_w hw 114 rfl)) (notFace_of_selects (args := #[]) (mvT hZ (own_w hw 116 rfl))) (mvT hZ (own_w hw 116 rfl)) (mvT hZ (own_w hw 115 rfl)) (by decide) (backOf (W := 0) (rm_apG l Z a0 hw [] oo al kl ((own_gr (mg 0)) + (fg 0)) h126 n0 Zs146 E140 F141 F142 F143 F144 A145 hk0q hg_oo hn_oo_al) hZ (own_w hw 117 rfl) (own_w hw 30 rfl) (by decide) (by decide)) q285a q285c (g := (mkF m 58 #[.val (.ref dd), .val (.int lev), .val (.long off), .second, .val (.long site), .second] [(.int ((own_gr (mg 0)) + (fg 0))), (.ref oo)])) rfl (by rw [hml]; rfl) (Steps.refl _) (argsL := [(.int ((own_gr (mg 0)) + (fg 0)))]) (rest := []) (lenOf pd_5 rfl) rfl (by show 2 * 0 + _ ≤ _; exact Nat.le_of_eq rfl) (hb hby d15_58) (fun _ _ => ⟨rfl, e152, (by decide : 0 + 1 ≤ _), (by decide : 0 + 16 ≤ _)⟩)
    dsimp only [Pt.U, Pt.locs, Pt.cells, Pt.slots] at X285 l285 y285 z285 st285 hQ285
    subst l285 y285 z285
    obtain ⟨x286, x287, x288, rfl, N285q, hq289, hpq290, hpq291, hpq292, F293, F294, F295, F296, G297⟩ := hQ285
    have N285 := Fr.app N149 N285q
    have lt298 : dd < h126.size := E127.lt
    have lt299 : am < h126.size := G137.lt
    have lt300 : af < h126.size := G138.lt
    have lt301 : ai < h126.size := G139.lt
    have lt302 : oo < h126.size := E140.lt
    have lt303 : al < h126.size := A145.lt
    have lt304 : as_ < h126.size := V126.lt
    have E305 := E127.keep hq289
    have F306 := F128.keep hq289 (ninS hn_dd_oo nin0)
    have F307 := F129.keep hq289 (ninS hn_dd_oo nin0)
    have F308 := F130.keep hq289 (ninS hn_dd_oo nin0)
    have F309 := F131.keep hq289 (ninS hn_dd_oo nin0)
    have F310 := F132.keep hq289 (ninS hn_dd_oo nin0)
    have F311 := F133.keep hq289 (ninS hn_dd_oo nin0)
    have F312 := F134.keep hq289 (ninS hn_dd_oo nin0)
    have F313 := F135.keep hq289 (ninS hn_dd_oo nin0)
    have F314 := F136.keep hq289 (ninS hn_dd_oo nin0)
    have G315 := G137.keep hq289 (ninS (Ne.symm hn_oo_am) nin0)
    have G316 := G138.keep hq289 (ninS (Ne.symm hn_oo_af) nin0)
    have G317 := G139.keep hq289 (ninS (Ne.symm hn_oo_ai) nin0)
    have E318 := E140.keep hq289
    have A319 := A145.keep hq289 (ninS (Ne.symm hn_oo_al) nin0)
    have G320 := V126.keep hq289 (ninS (Ne.symm hn_oo_as_) nin0)
    have K285 : Keep h0 T285.heap [dd, oo, as_] := K126.trans hq289 (allS (Or.inl (List.mem_of_getElem? (i := 1) rfl)) all0)
    have Zs321 : n0 ≤ T285.heap.size := (Nat.le_trans Zs146 hq289.1)
    have ne322 : dd ≠ x286 := Nat.ne_of_lt (Nat.lt_of_lt_of_le lt298 hpq291)
    have ne323 : am ≠ x286 := Nat.ne_of_lt (Nat.lt_of_lt_of_le lt299 hpq291)
    have ne324 : af ≠ x286 := Nat.ne_of_lt (Nat.lt_of_lt_of_le lt300 hpq291)
    have ne325 : ai ≠ x286 := Nat.ne_of_lt (Nat.lt_of_lt_of_le lt301 hpq291)
    have ne326 : oo ≠ x286 := Nat.ne_of_lt (Nat.lt_of_lt_of_le lt302 hpq291)
    have ne327 : al ≠ x286 := Nat.ne_of_lt (Nat.lt_of_lt_of_le lt303 hpq291)
    have ne328 : as_ ≠ x286 := Nat.ne_of_lt (Nat.lt_of_lt_of_le lt304 hpq291)
    have sz329 : h0.size ≤ x286 := Nat.le_trans K126.1 hpq291
    obtain ⟨T330, X330, e330, st330⟩ := getF X285 hx hZ hown (host := "") (Or.inl (own_w hw 83 rfl)) Via.refl rfl F310 (g := (mkF m 63 #[.val (.ref dd), .val (.int lev), .val (.long off), .second, .val (.long site), .second] [(.ref dd), (.ref dd)])) rfl rfl (hb hby d15_63)
    obtain ⟨T331, h331, X331, e331, W331, st331⟩ := putF X330 hx hZ hown (host := "") (Or.inl (own_w hw 83 rfl)) Via.refl e330 F310 E305 (Or.inl (own_w hw 84 rfl)) (own_w hw 2 rfl) (ty := .int) (by decide) rfl rfl (g := (mkF m 68 #[.val (.ref dd), .val (.int lev), .val (.long off), .second, .val (.long site), .second] [(.int (1 : Int32)), (.ref dd)])) rfl rfl (hb hby d15_68)
    have Fw331 : Fld Z h331 dd "com/example/fieldglass/fieldglass/io/Marks" "slotted" "I" (.int (1 : Int32)) := F310.same W331
    have E332 := E305.wr W331
    have F333 := F306.other W331 (Or.inr (slot_ne (Or.inl (own_w hw 13 rfl)) (Or.inl (own_w hw 84 rfl)) (by decide) (t := (.array .boolean)) (t' := .int) (by decide) (by decide)))
    have F334 := F307.other W331 (Or.inr (slot_ne (Or.inl (own_w hw 17 rfl)) (Or.inl (own_w hw 84 rfl)) (by decide) (t := (.array .long)) (t' := .int) (by decide) (by decide)))
    have F335 := F308.other W331 (Or.inr (slot_ne (Or.inl (own_w hw 21 rfl)) (Or.inl (own_w hw 84 rfl)) (by decide) (t := (.array .int)) (t' := .int) (by decide) (by decide)))
    have F336 := F309.other W331 (Or.inr (slot_ne (Or.inl (own_w hw 23 rfl)) (Or.inl (own_w hw 84 rfl)) (by decide) (t := (.array .long)) (t' := .int) (by decide) (by decide)))
    have F337 := F311.other W331 (Or.inr (slot_ne (Or.inl (own_w hw 25 rfl)) (Or.inl (own_w hw 84 rfl)) (by decide) (t := .int) (t' := .int) (by decide) (by decide)))
    have F338 := F312.other W331 (Or.inr (slot_ne (Or.inl (own_w hw 27 rfl)) (Or.inl (own_w hw 84 rfl)) (by decide) (t := .boolean) (t' := .int) (by decide) (by decide)))
    have F339 := F313.other W331 (Or.inr (slot_ne (Or.inr (own_w hw 41 rfl)) (Or.inl (own_w hw 84 rfl)) (by decide) (t := (.object "com/example/fieldglass/fieldglass/io/Marks$Order")) (t' := .int) (by decide) (by decide)))
    have F340 := F314.other W331 (Or.inr (slot_ne (Or.inl (own_w hw 44 rfl)) (Or.inl (own_w hw 84 rfl)) (by decide) (t := .long) (t' := .int) (by decide) (by decide)))
    have G341 := G315.other W331 (Ne.symm hn_dd_am)
    have G342 := G316.other W331 (Ne.symm hn_dd_af)
    have G343 := G317.other W331 (Ne.symm hn_dd_ai)
    have E344 := E318.wr W331
    have A345 := A319.other W331 (Ne.symm hn_dd_al)
    have G346 := G320.other W331 (Ne.symm hn_dd_as_)
    have F347 := F293.other W331 (Or.inl (Ne.symm hn_dd_oo))
    have F348 := F294.other W331 (Or.inl (Ne.symm hn_dd_oo))
    have F349 := F295.other W331 (Or.inl (Ne.symm hn_dd_oo))
    have F350 := F296.other W331 (Or.inl (Ne.symm hn_dd_oo))
    have G351 := G297.other W331 (Ne.symm ne322)
    have N331 := Fr.snoc X331 N285 hg_dd
    have K331 : Keep h0 h331 [dd, oo, as_] := K285.wr W331 (Or.inl (List.mem_of_getElem? (i := 0) rfl))
    have Zs352 : n0 ≤ h331.size := (Nat.le_trans Zs321 (Keep.of_wr W331).1)
    have pre353 := fun (t : State) (k : Steps p.tables e below (T331.setTop (mkF m 12 #[.val (.ref dd), .val (.int lev), .val (.long off), .second, .val (.long site), .second] [])) t) => pre155 t (by
      refine st285.trans ?_
      refine XS.aloadN X285.here hx rfl (hb hby d15_61) rfl rfl ?_
      refine XS.dup X285.here hx rfl (hb hby d15_62) rfl rfl ?_
      refine st330 _ ?_
      refine XS.iconst X330.here hx rfl (hb hby d15_66) ?_
      refine XS.iadd X330.here hx rfl (hb hby d15_67) rfl ?_
      refine st331 _ ?_
      refine XS.goto X331.here hx rfl (pc0 := 71) (pc' := 12) rfl (hb hby d15_71) (by decide) (by decide) ?_
      exact k)
    obtain ⟨s2, o2, hs2, hr2⟩ := lp (ln + 2) (1 : Int32) 1 (own_up sg 0 (own_sz (0 : Int32))) x287 x288 x286 T331 h331 _ N331 X331 e331 K331 Zs352 E332 F333 F334 F335 F336 Fw331 F337 F338 F339 F340 G341 G342 G343 G346 E344 F347 F348 F349 F350 G351 hpq290 sz329 ne322 ne326 ne323 ne324 ne325 ne328 rfl (Nat.le_add_left 1 ln) (own_mk_s (jn := 0) (fun i hi => absurd hi (Nat.not_lt_zero i)) (own_c_z hcf.1)) (own_mk_g (jn := 0) hcf (Nat.zero_le _) (own_ng_z hcf.1) (own_ap_z (jn := 0) hcf.1 hpq292)) (own_mk_c (jn := 0) hcf (Nat.zero_le _) (own_ap_z (jn := 0) hcf.1 hpq292)) (by omega)
    exact ⟨s2, o2, pre353 _ hs2, hr2⟩

theorem ef_mfG (m : MethodId) (x0 : Addr) (x1 : Int32) (x2 : Int64) : entryFrame m #[(.ref x0), (.int x1), (.long x2)] 4 = mkF m 0 #[.val (.ref x0), .val (.int x1), .val (.long x2), .second] [] := by first | (simp [entryFrame, mkF, argsToLocals, Value.category]; done) | rfl
def Q_mfG (Z : State) (dd : Addr) (oo : Addr) (am : Addr) (af : Addr) (ai : Addr) (as_ : Addr) (mg : Nat → Int32) (ff : Nat → Int64) (fg : Nat → Int32) (sg : Nat → Int64) (al : Addr) (kl : ClassId) (dp : Int32) (cf : Nat → Nat) (lev : Int32) (ln : Nat) (site : Int64) (pn : Nat) (h0 : Heap) (n0 : Nat) (v : Option Value) (h : Heap) (L : List Loc) : Prop := ∃ ah : Addr, ∃ sg' : Nat → Int64, ∃ hd' : Nat → Int64, ∃ cn' : Int32, ∃ jj : Int32, v = none ∧ Fr n0 L ∧ Keep h0 h [dd, oo, as_] ∧ n0 ≤ ah ∧ h0.size ≤ ah ∧ own_mkp ln cf pn site sg' hd' cn' jj ∧ Exa Z h dd "com/example/fieldglass/fieldglass/io/Marks" ∧ Fld Z h dd "com/example/fieldglass/fieldglass/io/Marks" "messages" "[Z" (.ref am) ∧ Fld Z h dd "com/example/fieldglass/fieldglass/io/Marks" "firstFieldSites" "[J" (.ref af) ∧ Fld Z h dd "com/example/fieldglass/fieldglass/io/Marks" "fieldSites" "[I" (.ref ai) ∧ Fld Z h dd "com/example/fieldglass/fieldglass/io/Marks" "slots" "[J" (.ref as_) ∧ Fld Z h dd "com/example/fieldglass/fieldglass/io/Marks" "slotted" "I" (.int jj) ∧ Fld Z h dd "com/example/fieldglass/fieldglass/io/Marks" "deepestFields" "I" (.int dp) ∧ Fld Z h dd "com/example/fieldglass/fieldglass/io/Marks" "marking" "Z" (.int (1 : Int32)) ∧ Fld Z h dd "com/example/fieldglass/fieldglass/io/Marks" "order" "Lcom/example/fieldglass/fieldglass/io/Marks$Order;" (.ref oo) ∧ Fld Z h dd "com/example/fieldglass/fieldglass/io/Marks" "next" "J" (.long (9223372036854775807 : Int64)) ∧ own_Fa Value.int .boolean Z h am 16 mg ∧ own_Fa Value.long .long Z h af 16 ff ∧ own_Fa Value.int .int Z h ai 16 fg ∧ own_Fa Value.long .long Z h as_ 16 sg' ∧ Exa Z h oo "com/example/fieldglass/fieldglass/io/Marks$Order" ∧ Fld Z h oo "com/example/fieldglass/fieldglass/io/Marks$Order" "held" "[J" (.ref ah) ∧ Fld Z h oo "com/example/fieldglass/fieldglass/io/Marks$Order" "count" "I" (.int cn') ∧ Fld Z h oo "com/example/fieldglass/fieldglass/io/Marks$Order" "spilled" "J" (.long (0 : Int64)) ∧ Fld Z h oo "com/example/fieldglass/fieldglass/io/Marks$Order" "read" "J" (.long (0 : Int64)) ∧ own_Fa Value.long .long Z h ah 16 hd'
set_option maxRecDepth 65536 in
set_option maxHeartbeats 40000000 in
theorem rm_mfG (l : Launch) (Z : State) (a0 : Array Value) (hw : ∀ d ∈ tables_1, d.before a0 Z = true) (ws : List Jvm.Cond) (dd : Addr) (oo : Addr) (am : Addr) (af : Addr) (ai : Addr) (as_ : Addr) (mg : Nat → Int32) (ff : Nat → Int64) (fg : Nat → Int32) (sg : Nat → Int64) (al : Addr) (kl : ClassId) (dp : Int32) (cf : Nat → Nat) (lev : Int32) (ln : Nat) (site : Int64) (pn : Nat) (h0 : Heap) (n0 : Nat) (Z0 : n0 ≤ h0.size) (H0_E : Exa Z h0 dd "com/example/fieldglass/fieldglass/io/Marks") (H1_F : Fld Z h0 dd "com/example/fieldglass/fieldglass/io/Marks" "messages" "[Z" (.ref am)) (H2_F : Fld Z h0 dd "com/example/fieldglass/fieldglass/io/Marks" "firstFieldSites" "[J" (.ref af)) (H3_F : Fld Z h0 dd "com/example/fieldglass/fieldglass/io/Marks" "fieldSites" "[I" (.ref ai)) (H4_F : Fld Z h0 dd "com/example/fieldglass/fieldglass/io/Marks" "slots" "[J" (.ref as_)) (H5_F : Fld Z h0 dd "com/example/fieldglass/fieldglass/io/Marks" "slotted" "I" (.int (0 : Int32))) (H6_F : Fld Z h0 dd "com/example/fieldglass/fieldglass/io/Marks" "deepestFields" "I" (.int dp)) (H7_F : Fld Z h0 dd "com/example/fieldglass/fieldglass/io/Marks" "marking" "Z" (.int (1 : Int32))) (H8_F : Fld Z h0 dd "com/example/fieldglass/fieldglass/io/Marks" "order" "Lcom/example/fieldglass/fieldglass/io/Marks$Order;" (.ref oo)) (H9_F : Fld Z h0 dd "com/example/fieldglass/fieldglass/io/Marks" "next" "J" (.long (9223372036854775807 : Int64))) (H10_G : own_Fa Value.int .boolean Z h0 am 16 mg) (H11_G : own_Fa Value.long .long Z h0 af 16 ff) (H12_G : own_Fa Value.int .int Z h0 ai 16 fg) (H13_G : own_Fa Value.long .long Z h0 as_ 16 sg) (H14_E : Exa Z h0 oo "com/example/fieldglass/fieldglass/io/Marks$Order") (H15_F : Fld Z h0 oo "com/example/fieldglass/fieldglass/io/Marks$Order" "held" "[J" (.ref al)) (H16_F : Fld Z h0 oo "com/example/fieldglass/fieldglass/io/Marks$Order" "count" "I" (.int (0 : Int32))) (H17_F : Fld Z h0 oo "com/example/fieldglass/fieldglass/io/Marks$Order" "spilled" "J" (.long (0 : Int64))) (H18_F : Fld Z h0 oo "com/example/fieldglass/fieldglass/io/Marks$Order" "read" "J" (.long (0 : Int64))) (H19_A : Arv Z h0 al kl .long (0 : Int32) [] (.long (0 : Int64))) (hn_dd_oo : dd ≠ oo) (hn_dd_am : dd ≠ am) (hn_dd_af : dd ≠ af) (hn_dd_ai : dd ≠ ai) (hn_dd_as_ : dd ≠ as_) (hn_dd_al : dd ≠ al) (hn_oo_am : oo ≠ am) (hn_oo_af : oo ≠ af) (hn_oo_ai : oo ≠ ai) (hn_oo_as_ : oo ≠ as_) (hn_oo_al : oo ≠ al) (hn_am_af : am ≠ af) (hn_am_ai : am ≠ ai) (hn_am_as_ : am ≠ as_) (hn_am_al : am ≠ al) (hn_af_ai : af ≠ ai) (hn_af_as_ : af ≠ as_) (hn_af_al : af ≠ al) (hn_ai_as_ : ai ≠ as_) (hn_ai_al : ai ≠ al) (hn_as__al : as_ ≠ al) (hg_dd : n0 ≤ dd) (hg_oo : n0 ≤ oo) (hg_as_ : n0 ≤ as_) (hl : own_ix lev ln) (hcf : own_cf mg fg cf ln) (hk0 : (((own_gr (mg 0)) + (fg 0)) = (0 : Int32) ∧ ln = 1 ∧ (((own_gr (mg 1)) + (fg 1)) = (1 : Int32) ∨ ((own_gr (mg 1)) + (fg 1)) = (2 : Int32))) ∨ ((own_gr (mg 0)) + (fg 0)) = (1 : Int32) ∨ ((own_gr (mg 0)) + (fg 0)) = (2 : Int32)) (hp : ∀ zz : Int64, zz.toInt = (cf ln : Int) → own_pl (zz + (((own_gr (mg ln)).toInt64) + (site - (ff ln)))) pn) :
    MetFree l (⟨"com/example/fieldglass/fieldglass/io/Marks", "markField", "(IJ)V"⟩ : MethodName) (head1 (Jvm.Cond.code (⟨"com/example/fieldglass/fieldglass/io/Marks", "markField", "(IJ)V"⟩ : MethodName) prog_13_method_5_code 4 none :: ws) ({ frames := 5, cells := 1, slots := 16, locals := 76 } : Room)) (fun as_ U_ => as_ = #[(.ref dd), (.int lev), (.long site)] ∧ Z.Warmed39 U_.vm ∧ U_.heap = h0) (fun _ _ _ _ _ => True) (fun _ U o U' => ∃ v L, o = .returned v ∧ Q_mfG Z dd oo am af ai as_ mg ff fg sg al kl dp cf lev ln site pn h0 n0 v U'.heap L ∧ FrameEnd U o U' L ({ frames := 5, cells := 1, slots := 16, locals := 76 } : Room).cells ({ frames := 5, cells := 1, slots := 16, locals := 76 } : Room).slots) := by
  refine MetFree.of_bodySF (plainFor_of_name pn_2) hisR ?_
  intro p e s m args below meth c s₁ Bd hml0 hP hK
  obtain ⟨rfl, hZ, hhp_⟩ := hP
  have hx := Bd.exec
  have hby := Bd.bytes
  have hml : c.maxLocals = 4 := hml0
  have hown : s.vm.findClass "com/example/fieldglass/fieldglass/io/Marks" = some m.cls := findClass_of_methodNamed Bd.named
  have hnm := (name_of_methodNamed Bd.named Bd.method).1
  have X0 : Stand p l e ({ frames := 5, cells := 1, slots := 16, locals := 76 } : Room) s m #[(.ref dd), (.int lev), (.long site)] below meth c s₁ [] 0 0 := Stand.of_body Bd
  have e0 : s₁.heap = h0 := by rw [← hhp_, Bd.state]; rfl
  have N0 := Fr.nil n0
  have pre0 : ∀ t, Steps p.tables e below (s₁.setTop (mkF m 0 #[.val (.ref dd), .val (.int lev), .val (.long site), .second] [])) t → Steps p.tables e below (s₁.setTop (entryFrame m #[(.ref dd), (.int lev), (.long site)] 4)) t := fun t k => castTop (ef_mfG m dd lev site) k
  have K0 : Keep h0 h0 [dd, oo, as_] := Keep.refl h0 [dd, oo, as_]
  obtain ⟨cq1, q1, q1'⟩ := H0_E.cell
  obtain ⟨_, _, ⟨T1, L1, k1, n1⟩, -, X1, ⟨Lc1, hQ1, l1, y1, z1⟩, st1⟩ := X0.privateBack hx (y := (⟨"com/example/fieldglass/fieldglass/io/Marks", "groupSites", "(I)I"⟩ : MethodName)) hown (mvT hZ (own_w hw 96 rfl)) (mvT hZ (own_w hw 97 rfl)) (own_sel_priv (z := (⟨"com/example/fieldglass/fieldglass/io/Marks", "beginMessage", "(I)V"⟩ : MethodName)) (mvT hZ (own_w hw 48 rfl)) rfl (mvP hZ (own_w hw 98 rfl)) (mvT hZ (own_w hw 97 rfl)) (by decide)) (Cond.privateMethod_at (mvP hZ (own_w hw 98 rfl) (args := #[]))) (mvT hZ (own_w hw 99 rfl)) (by decide) (backOf (W := 2) (rm_gs l Z a0 hw [] dd am mg lev ln h0 n0 Z0 H1_F H10_G hl) hZ (own_w hw 99 rfl) (own_w hw 3 rfl) (by decide) (by decide)) (g := (mkF m 4 #[.val (.ref dd), .val (.int lev), .val (.long site), .second] [(.int lev), (.ref dd), (.int lev), (.ref dd)])) rfl (by rw [hml]; rfl) (Steps.refl _) (a := dd) (by rw [e0]; exact q1) q1' (argsL := [(.int lev)]) (rest := [(.int lev), (.ref dd)]) (lenOf pd_8 rfl) rfl (by show 2 * 0 + _ ≤ _; exact Nat.le_of_eq rfl) (hb hby d13_4) (fun _ _ => ⟨rfl, e0, (by decide : 0 + 0 ≤ _), (by decide : 0 + 0 ≤ _)⟩)
  dsimp only [Pt.U, Pt.locs, Pt.cells, Pt.slots] at X1 l1 y1 z1 st1 hQ1
  subst l1 y1 z1
  obtain ⟨rfl, N1q, hq2⟩ := hQ1
  have N1 := Fr.app N0 N1q
  obtain ⟨T3, X3, e3, st3⟩ := getF X1 hx hZ hown (host := "") (Or.inl (own_w hw 16 rfl)) Via.refl hq2 H2_F (g := (mkF m 10 #[.val (.ref dd), .val (.int lev), .val (.long site), .second] [(.ref dd), (.long site), (.long ((own_gr (mg ln)).toInt64)), (.int lev), (.ref dd)])) rfl rfl (hb hby d13_10)
  have oc4 := H11_G
  obtain ⟨c4, Arc4, Sc4, Hc4⟩ := oc4
  have hin5 : ¬ (lev < 0 ∨ c4.slots.size ≤ (lev).toNatClampNeg) := (own_ix_in Sc4 hl)
  obtain ⟨cq6, q6, q6'⟩ := H0_E.cell
  obtain ⟨_, _, ⟨T6, L6, k6, n6⟩, -, X6, ⟨Lc6, hQ6, l6, y6, z6⟩, st6⟩ := X3.privateBack hx (y := (⟨"com/example/fieldglass/fieldglass/io/Marks", "mark", "(IJJ)V"⟩ : MethodName)) hown (mvT hZ (own_w hw 100 rfl)) (mvT hZ (own_w hw 101 rfl)) (own_sel_priv (z := (⟨"com/example/fieldglass/fieldglass/io/Marks", "beginMessage", "(I)V"⟩ : MethodName)) (mvT hZ (own_w hw 48 rfl)) rfl (mvP hZ (own_w hw 102 rfl)) (mvT hZ (own_w hw 101 rfl)) (by decide)) (Cond.privateMethod_at (mvP hZ (own_w hw 102 rfl) (args := #[]))) (mvT hZ (own_w hw 103 rfl)) (by decide) (backOf (W := 0) (rm_mkG l Z a0 hw [] dd oo am af ai as_ mg ff fg sg al kl dp cf lev ln site (((own_gr (mg ln)).toInt64) + (site - (ff ln))) pn h0 n0 Z0 H0_E H1_F H2_F H3_F H4_F H5_F H6_F H7_F H8_F H9_F H10_G H11_G H12_G H13_G H14_E H15_F H16_F H17_F H18_F H19_A hn_dd_oo hn_dd_am hn_dd_af hn_dd_ai hn_dd_as_ hn_dd_al hn_oo_am hn_oo_af hn_oo_ai hn_oo_as_ hn_oo_al hn_am_af hn_am_ai hn_am_as_ hn_am_al hn_af_ai hn_af_as_ hn_af_al hn_ai_as_ hn_ai_al hn_as__al hg_dd hg_oo hg_as_ hl hcf hk0 hp) hZ (own_w hw 103 rfl) (own_w hw 3 rfl) (by decide) (by decide)) (g := (mkF m 18 #[.val (.ref dd), .val (.int lev), .val (.long site), .second] [(.long site), (.long (((own_gr (mg ln)).toInt64) + (site - (ff ln)))), (.int lev), (.ref dd)])) rfl (by rw [hml]; rfl) (Steps.refl _) (a := dd) (by rw [e3]; exact q6) q6' (argsL := [(.int lev), (.long (((own_gr (mg ln)).toInt64) + (site - (ff ln)))), (.long site)]) (rest := []) (lenOf pd_9 rfl) rfl (by show 2 * 0 + _ ≤ _; exact Nat.le_of_eq rfl) (hb hby d13_18) (fun _ _ => ⟨rfl, e3, (by decide : 0 + 1 ≤ _), (by decide : 0 + 16 ≤ _)⟩)
  dsimp only [Pt.U, Pt.locs, Pt.cells, Pt.slots] at X6 l6 y6 z6 st6 hQ6
  subst l6 y6 z6
  obtain ⟨x7, x8, x9, x10, x11, rfl, N6q, hq12, hpq13, hpq14, hpq15, E16, F17, F18, F19, F20, F21, F22, F23, F24, F25, G26, G27, G28, G29, E30, F31, F32, F33, F34, G35⟩ := hQ6
  have N6 := Fr.app N1 N6q
  have lt36 : dd < h0.size := H0_E.lt
  have lt37 : am < h0.size := H10_G.lt
  have lt38 : af < h0.size := H11_G.lt
  have lt39 : ai < h0.size := H12_G.lt
  have lt40 : as_ < h0.size := H13_G.lt
  have lt41 : oo < h0.size := H14_E.lt
  have lt42 : al < h0.size := H19_A.lt
  have A43 := H19_A.keep hq12 (ninS (Ne.symm hn_dd_al) (ninS (Ne.symm hn_oo_al) (ninS (Ne.symm hn_as__al) nin0)))
  have K6 : Keep h0 T6.heap [dd, oo, as_] := K0.trans hq12 (allS (Or.inl (List.mem_of_getElem? (i := 0) rfl)) (allS (Or.inl (List.mem_of_getElem? (i := 1) rfl)) (allS (Or.inl (List.mem_of_getElem? (i := 2) rfl)) all0)))
  have Zs44 : n0 ≤ T6.heap.size := (Nat.le_trans Z0 hq12.1)
  have ne45 : dd ≠ x7 := Nat.ne_of_lt (Nat.lt_of_lt_of_le lt36 hpq14)
  have ne46 : am ≠ x7 := Nat.ne_of_lt (Nat.lt_of_lt_of_le lt37 hpq14)
  have ne47 : af ≠ x7 := Nat.ne_of_lt (Nat.lt_of_lt_of_le lt38 hpq14)
  have ne48 : ai ≠ x7 := Nat.ne_of_lt (Nat.lt_of_lt_of_le lt39 hpq14)
  have ne49 : as_ ≠ x7 := Nat.ne_of_lt (Nat.lt_of_lt_of_le lt40 hpq14)
  have ne50 : oo ≠ x7 := Nat.ne_of_lt (Nat.lt_of_lt_of_le lt41 hpq14)
  have ne51 : al ≠ x7 := Nat.ne_of_lt (Nat.lt_of_lt_of_le lt42 hpq14)
  have sz52 : h0.size ≤ x7 := Nat.le_trans K0.1 hpq14
  have pre53 := fun (t : State) (k : Steps p.tables e below (T6.setTop (mkF m 21 #[.val (.ref dd), .val (.int lev), .val (.long site), .second] [])) t) => pre0 t (by
    refine XS.aloadN X0.here hx rfl (hb hby d13_0) rfl rfl ?_
    refine XS.iloadN X0.here hx rfl (hb hby d13_1) rfl ?_
    refine XS.aloadN X0.here hx rfl (hb hby d13_2) rfl rfl ?_
    refine XS.iloadN X0.here hx rfl (hb hby d13_3) rfl ?_
    refine st1.trans ?_
    refine XS.i2l X1.here hx rfl (hb hby d13_7) rfl ?_
    refine XS.lloadN X1.here hx rfl (hb hby d13_8) rfl ?_
    refine XS.aloadN X1.here hx rfl (hb hby d13_9) rfl rfl ?_
    refine st3 _ ?_
    refine XS.iloadN X3.here hx rfl (hb hby d13_13) rfl ?_
    refine X3.laload hx (j := lev) (v := (.long (ff ln))) (by rw [e3]; exact Arc4.1) (State.isArrayOf_alike hZ.alike Arc4.2.1) Arc4.2.2 hin5 (own_at Hc4 (own_ix_nat hl) (own_inn Sc4 hin5)) (g := (mkF m 14 #[.val (.ref dd), .val (.int lev), .val (.long site), .second] [(.int lev), (.ref af), (.long site), (.long ((own_gr (mg ln)).toInt64)), (.int lev), (.ref dd)])) rfl rfl (hb hby d13_14) _ ?_
    refine XS.lsub X3.here hx rfl (hb hby d13_15) rfl ?_
    refine XS.ladd X3.here hx rfl (hb hby d13_16) rfl ?_
    refine XS.lloadN X3.here hx rfl (hb hby d13_17) rfl ?_
    refine st6.trans ?_
    exact k)
  obtain ⟨fs, hr, hrun, hended, hW, hsame⟩ := X6.leave (v := none) (hlocks := BodyLoose.notSynchronized Bd) (fun _ => rfl)
  refine ⟨_, _, pre53 _ ?_, hrun, hended, _, _, rfl, ?_, ⟨_, rfl⟩, hW, hsame.mono (by decide) (by decide)⟩
  · exact X6.returnOut hx Bd.returns (hb hby d13_21) hr
  · show Q_mfG Z dd oo am af ai as_ mg ff fg sg al kl dp cf lev ln site pn h0 n0 _ T6.heap _
    exact ⟨x7, x8, x9, x10, x11, rfl, N6, K6, hpq13, sz52, hpq15, E16, F17, F18, F19, F20, F21, F22, F23, F24, F25, G26, G27, G28, G29, E30, F31, F32, F33, F34, G35⟩

theorem ef_mf1 (m : MethodId) (x0 : Addr) (x1 : Int32) (x2 : Int64) : entryFrame m #[(.ref x0), (.int x1), (.long x2)] 4 = mkF m 0 #[.val (.ref x0), .val (.int x1), .val (.long x2), .second] [] := by first | (simp [entryFrame, mkF, argsToLocals, Value.category]; done) | rfl
def Q_mf1 (Z : State) (dd : Addr) (oo : Addr) (am : Addr) (af : Addr) (ai : Addr) (as_ : Addr) (mg : Nat → Int32) (ff : Nat → Int64) (fg : Nat → Int32) (sg : Nat → Int64) (ah : Addr) (hd : Nat → Int64) (cn : Int32) (dp : Int32) (cz : Nat) (lev : Int32) (ln : Nat) (site : Int64) (pn : Nat) (h0 : Heap) (n0 : Nat) (v : Option Value) (h : Heap) (L : List Loc) : Prop := ∃ hd' : Nat → Int64, ∃ cn' : Int32, v = none ∧ Fr n0 L ∧ Keep h0 h [dd, oo, as_, ah] ∧ own_ap hd hd' cz (2 : Int32) cn' ∧ Exa Z h dd "com/example/fieldglass/fieldglass/io/Marks" ∧ Fld Z h dd "com/example/fieldglass/fieldglass/io/Marks" "messages" "[Z" (.ref am) ∧ Fld Z h dd "com/example/fieldglass/fieldglass/io/Marks" "firstFieldSites" "[J" (.ref af) ∧ Fld Z h dd "com/example/fieldglass/fieldglass/io/Marks" "fieldSites" "[I" (.ref ai) ∧ Fld Z h dd "com/example/fieldglass/fieldglass/io/Marks" "slots" "[J" (.ref as_) ∧ Fld Z h dd "com/example/fieldglass/fieldglass/io/Marks" "slotted" "I" (.int (lev + (1 : Int32))) ∧ Fld Z h dd "com/example/fieldglass/fieldglass/io/Marks" "deepestFields" "I" (.int dp) ∧ Fld Z h dd "com/example/fieldglass/fieldglass/io/Marks" "marking" "Z" (.int (1 : Int32)) ∧ Fld Z h dd "com/example/fieldglass/fieldglass/io/Marks" "order" "Lcom/example/fieldglass/fieldglass/io/Marks$Order;" (.ref oo) ∧ Fld Z h dd "com/example/fieldglass/fieldglass/io/Marks" "next" "J" (.long (9223372036854775807 : Int64)) ∧ own_Fa Value.int .boolean Z h am 16 mg ∧ own_Fa Value.long .long Z h af 16 ff ∧ own_Fa Value.int .int Z h ai 16 fg ∧ own_Fa Value.long .long Z h as_ 16 (own_up sg ln (own_sz cn)) ∧ Exa Z h oo "com/example/fieldglass/fieldglass/io/Marks$Order" ∧ Fld Z h oo "com/example/fieldglass/fieldglass/io/Marks$Order" "held" "[J" (.ref ah) ∧ Fld Z h oo "com/example/fieldglass/fieldglass/io/Marks$Order" "count" "I" (.int cn') ∧ Fld Z h oo "com/example/fieldglass/fieldglass/io/Marks$Order" "spilled" "J" (.long (0 : Int64)) ∧ Fld Z h oo "com/example/fieldglass/fieldglass/io/Marks$Order" "read" "J" (.long (0 : Int64)) ∧ own_Fa Value.long .long Z h ah 16 (own_up hd' pn site)
set_option maxRecDepth 65536 in
set_option maxHeartbeats 40000000 in
theorem rm_mf1 (l : Launch) (Z : State) (a0 : Array Value) (hw : ∀ d ∈ tables_1, d.before a0 Z = true) (ws : List Jvm.Cond) (dd : Addr) (oo : Addr) (am : Addr) (af : Addr) (ai : Addr) (as_ : Addr) (mg : Nat → Int32) (ff : Nat → Int64) (fg : Nat → Int32) (sg : Nat → Int64) (ah : Addr) (hd : Nat → Int64) (cn : Int32) (dp : Int32) (cz : Nat) (lev : Int32) (ln : Nat) (site : Int64) (pn : Nat) (h0 : Heap) (n0 : Nat) (Z0 : n0 ≤ h0.size) (H0_E : Exa Z h0 dd "com/example/fieldglass/fieldglass/io/Marks") (H1_F : Fld Z h0 dd "com/example/fieldglass/fieldglass/io/Marks" "messages" "[Z" (.ref am)) (H2_F : Fld Z h0 dd "com/example/fieldglass/fieldglass/io/Marks" "firstFieldSites" "[J" (.ref af)) (H3_F : Fld Z h0 dd "com/example/fieldglass/fieldglass/io/Marks" "fieldSites" "[I" (.ref ai)) (H4_F : Fld Z h0 dd "com/example/fieldglass/fieldglass/io/Marks" "slots" "[J" (.ref as_)) (H5_F : Fld Z h0 dd "com/example/fieldglass/fieldglass/io/Marks" "slotted" "I" (.int lev)) (H6_F : Fld Z h0 dd "com/example/fieldglass/fieldglass/io/Marks" "deepestFields" "I" (.int dp)) (H7_F : Fld Z h0 dd "com/example/fieldglass/fieldglass/io/Marks" "marking" "Z" (.int (1 : Int32))) (H8_F : Fld Z h0 dd "com/example/fieldglass/fieldglass/io/Marks" "order" "Lcom/example/fieldglass/fieldglass/io/Marks$Order;" (.ref oo)) (H9_F : Fld Z h0 dd "com/example/fieldglass/fieldglass/io/Marks" "next" "J" (.long (9223372036854775807 : Int64))) (H10_G : own_Fa Value.int .boolean Z h0 am 16 mg) (H11_G : own_Fa Value.long .long Z h0 af 16 ff) (H12_G : own_Fa Value.int .int Z h0 ai 16 fg) (H13_G : own_Fa Value.long .long Z h0 as_ 16 sg) (H14_E : Exa Z h0 oo "com/example/fieldglass/fieldglass/io/Marks$Order") (H15_F : Fld Z h0 oo "com/example/fieldglass/fieldglass/io/Marks$Order" "held" "[J" (.ref ah)) (H16_F : Fld Z h0 oo "com/example/fieldglass/fieldglass/io/Marks$Order" "count" "I" (.int cn)) (H17_F : Fld Z h0 oo "com/example/fieldglass/fieldglass/io/Marks$Order" "spilled" "J" (.long (0 : Int64))) (H18_F : Fld Z h0 oo "com/example/fieldglass/fieldglass/io/Marks$Order" "read" "J" (.long (0 : Int64))) (H19_G : own_Fa Value.long .long Z h0 ah 16 hd) (hn_dd_oo : dd ≠ oo) (hn_dd_am : dd ≠ am) (hn_dd_af : dd ≠ af) (hn_dd_ai : dd ≠ ai) (hn_dd_as_ : dd ≠ as_) (hn_dd_ah : dd ≠ ah) (hn_oo_am : oo ≠ am) (hn_oo_af : oo ≠ af) (hn_oo_ai : oo ≠ ai) (hn_oo_as_ : oo ≠ as_) (hn_oo_ah : oo ≠ ah) (hn_am_af : am ≠ af) (hn_am_ai : am ≠ ai) (hn_am_as_ : am ≠ as_) (hn_am_ah : am ≠ ah) (hn_af_ai : af ≠ ai) (hn_af_as_ : af ≠ as_) (hn_af_ah : af ≠ ah) (hn_ai_as_ : ai ≠ as_) (hn_ai_ah : ai ≠ ah) (hn_as__ah : as_ ≠ ah) (hg_dd : n0 ≤ dd) (hg_oo : n0 ≤ oo) (hg_as_ : n0 ≤ as_) (hg_ah : n0 ≤ ah) (hl : own_ix lev ln) (hcz : cn.toInt = (cz : Int)) (hk2 : ((own_gr (mg ln)) + (fg ln)) = (2 : Int32)) (hr2 : cz + 2 ≤ 16) (hp : own_pl ((own_sz cn) + (((own_gr (mg ln)).toInt64) + (site - (ff ln)))) pn) :
    MetFree l (⟨"com/example/fieldglass/fieldglass/io/Marks", "markField", "(IJ)V"⟩ : MethodName) (head1 (Jvm.Cond.code (⟨"com/example/fieldglass/fieldglass/io/Marks", "markField", "(IJ)V"⟩ : MethodName) prog_13_method_5_code 4 none :: ws) ({ frames := 2, cells := 0, slots := 0, locals := 34 } : Room)) (fun as_ U_ => as_ = #[(.ref dd), (.int lev), (.long site)] ∧ Z.Warmed39 U_.vm ∧ U_.heap = h0) (fun _ _ _ _ _ => True) (fun _ U o U' => ∃ v L, o = .returned v ∧ Q_mf1 Z dd oo am af ai as_ mg ff fg sg ah hd cn dp cz lev ln site pn h0 n0 v U'.heap L ∧ FrameEnd U o U' L ({ frames := 2, cells := 0, slots := 0, locals := 34 } : Room).cells ({ frames := 2, cells := 0, slots := 0, locals := 34 } : Room).slots) := by
  refine MetFree.of_bodySF (plainFor_of_name pn_2) hisR ?_
  intro p e s m args below meth c s₁ Bd hml0 hP hK
  obtain ⟨rfl, hZ, hhp_⟩ := hP
  have hx := Bd.exec
  have hby := Bd.bytes
  have hml : c.maxLocals = 4 := hml0
  have hown : s.vm.findClass "com/example/fieldglass/fieldglass/io/Marks" = some m.cls := findClass_of_methodNamed Bd.named
  have hnm := (name_of_methodNamed Bd.named Bd.method).1
  have X0 : Stand p l e ({ frames := 2, cells := 0, slots := 0, locals := 34 } : Room) s m #[(.ref dd), (.int lev), (.long site)] below meth c s₁ [] 0 0 := Stand.of_body Bd
  have e0 : s₁.heap = h0 := by rw [← hhp_, Bd.state]; rfl
  have N0 := Fr.nil n0
  have pre0 : ∀ t, Steps p.tables e below (s₁.setTop (mkF m 0 #[.val (.ref dd), .val (.int lev), .val (.long site), .second] [])) t → Steps p.tables e below (s₁.setTop (entryFrame m #[(.ref dd), (.int lev), (.long site)] 4)) t := fun t k => castTop (ef_mf1 m dd lev site) k
  have K0 : Keep h0 h0 [dd, oo, as_, ah] := Keep.refl h0 [dd, oo, as_, ah]
  obtain ⟨cq1, q1, q1'⟩ := H0_E.cell
  obtain ⟨_, _, ⟨T1, L1, k1, n1⟩, -, X1, ⟨Lc1, hQ1, l1, y1, z1⟩, st1⟩ := X0.privateBack hx (y := (⟨"com/example/fieldglass/fieldglass/io/Marks", "groupSites", "(I)I"⟩ : MethodName)) hown (mvT hZ (own_w hw 96 rfl)) (mvT hZ (own_w hw 97 rfl)) (own_sel_priv (z := (⟨"com/example/fieldglass/fieldglass/io/Marks", "beginMessage", "(I)V"⟩ : MethodName)) (mvT hZ (own_w hw 48 rfl)) rfl (mvP hZ (own_w hw 98 rfl)) (mvT hZ (own_w hw 97 rfl)) (by decide)) (Cond.privateMethod_at (mvP hZ (own_w hw 98 rfl) (args := #[]))) (mvT hZ (own_w hw 99 rfl)) (by decide) (backOf (W := 2) (rm_gs l Z a0 hw [] dd am mg lev ln h0 n0 Z0 H1_F H10_G hl) hZ (own_w hw 99 rfl) (own_w hw 3 rfl) (by decide) (by decide)) (g := (mkF m 4 #[.val (.ref dd), .val (.int lev), .val (.long site), .second] [(.int lev), (.ref dd), (.int lev), (.ref dd)])) rfl (by rw [hml]; rfl) (Steps.refl _) (a := dd) (by rw [e0]; exact q1) q1' (argsL := [(.int lev)]) (rest := [(.int lev), (.ref dd)]) (lenOf pd_8 rfl) rfl (by show 2 * 0 + _ ≤ _; exact Nat.le_of_eq rfl) (hb hby d13_4) (fun _ _ => ⟨rfl, e0, (by decide : 0 + 0 ≤ _), (by decide : 0 + 0 ≤ _)⟩)
  dsimp only [Pt.U, Pt.locs, Pt.cells, Pt.slots] at X1 l1 y1 z1 st1 hQ1
  subst l1 y1 z1
  obtain ⟨rfl, N1q, hq2⟩ := hQ1
  have N1 := Fr.app N0 N1q
  obtain ⟨T3, X3, e3, st3⟩ := getF X1 hx hZ hown (host := "") (Or.inl (own_w hw 16 rfl)) Via.refl hq2 H2_F (g := (mkF m 10 #[.val (.ref dd), .val (.int lev), .val (.long site), .second] [(.ref dd), (.long site), (.long ((own_gr (mg ln)).toInt64)), (.int lev), (.ref dd)])) rfl rfl (hb hby d13_10)
  have oc4 := H11_G
  obtain ⟨c4, Arc4, Sc4, Hc4⟩ := oc4
  have hin5 : ¬ (lev < 0 ∨ c4.slots.size ≤ (lev).toNatClampNeg) := (own_ix_in Sc4 hl)
  obtain ⟨cq6, q6, q6'⟩ := H0_E.cell
  obtain ⟨_, _, ⟨T6, L6, k6, n6⟩, -, X6, ⟨Lc6, hQ6, l6, y6, z6⟩, st6⟩ := X3.privateBack hx (y := (⟨"com/example/fieldglass/fieldglass/io/Marks", "mark", "(IJJ)V"⟩ : MethodName)) hown (mvT hZ (own_w hw 100 rfl)) (mvT hZ (own_w hw 101 rfl)) (own_sel_priv (z := (⟨"com/example/fieldglass/fieldglass/io/Marks", "beginMessage", "(I)V"⟩ : MethodName)) (mvT hZ (own_w hw 48 rfl)) rfl (mvP hZ (own_w hw 102 rfl)) (mvT hZ (own_w hw 101 rfl)) (by decide)) (Cond.privateMethod_at (mvP hZ (own_w hw 102 rfl) (args := #[]))) (mvT hZ (own_w hw 103 rfl)) (by decide) (backOf (W := 0) (rm_mk1 l Z a0 hw [] dd oo am af ai as_ mg ff fg sg ah hd cn dp cz lev ln site (((own_gr (mg ln)).toInt64) + (site - (ff ln))) pn h0 n0 Z0 H0_E H1_F H2_F H3_F H4_F H5_F H6_F H7_F H8_F H9_F H10_G H11_G H12_G H13_G H14_E H15_F H16_F H17_F H18_F H19_G hn_dd_oo hn_dd_am hn_dd_af hn_dd_ai hn_dd_as_ hn_dd_ah hn_oo_am hn_oo_af hn_oo_ai hn_oo_as_ hn_oo_ah hn_am_af hn_am_ai hn_am_as_ hn_am_ah hn_af_ai hn_af_as_ hn_af_ah hn_ai_as_ hn_ai_ah hn_as__ah hg_dd hg_oo hg_as_ hg_ah hl hcz hk2 hr2 hp) hZ (own_w hw 103 rfl) (own_w hw 3 rfl) (by decide) (by decide)) (g := (mkF m 18 #[.val (.ref dd), .val (.int lev), .val (.long site), .second] [(.long site), (.long (((own_gr (mg ln)).toInt64) + (site - (ff ln)))), (.int lev), (.ref dd)])) rfl (by rw [hml]; rfl) (Steps.refl _) (a := dd) (by rw [e3]; exact q6) q6' (argsL := [(.int lev), (.long (((own_gr (mg ln)).toInt64) + (site - (ff ln)))), (.long site)]) (rest := []) (lenOf pd_9 rfl) rfl (by show 2 * 0 + _ ≤ _; exact Nat.le_of_eq rfl) (hb hby d13_18) (fun _ _ => ⟨rfl, e3, (by decide : 0 + 0 ≤ _), (by decide : 0 + 0 ≤ _)⟩)
  dsimp only [Pt.U, Pt.locs, Pt.cells, Pt.slots] at X6 l6 y6 z6 st6 hQ6
  subst l6 y6 z6
  obtain ⟨x7, x8, rfl, N6q, hq9, hpq10, E11, F12, F13, F14, F15, F16, F17, F18, F19, F20, G21, G22, G23, G24, E25, F26, F27, F28, F29, G30⟩ := hQ6
  have N6 := Fr.app N1 N6q
  have K6 : Keep h0 T6.heap [dd, oo, as_, ah] := K0.trans hq9 (allS (Or.inl (List.mem_of_getElem? (i := 0) rfl)) (allS (Or.inl (List.mem_of_getElem? (i := 1) rfl)) (allS (Or.inl (List.mem_of_getElem? (i := 2) rfl)) (allS (Or.inl (List.mem_of_getElem? (i := 3) rfl)) all0))))
  have Zs31 : n0 ≤ T6.heap.size := (Nat.le_trans Z0 hq9.1)
  have pre32 := fun (t : State) (k : Steps p.tables e below (T6.setTop (mkF m 21 #[.val (.ref dd), .val (.int lev), .val (.long site), .second] [])) t) => pre0 t (by
    refine XS.aloadN X0.here hx rfl (hb hby d13_0) rfl rfl ?_
    refine XS.iloadN X0.here hx rfl (hb hby d13_1) rfl ?_
    refine XS.aloadN X0.here hx rfl (hb hby d13_2) rfl rfl ?_
    refine XS.iloadN X0.here hx rfl (hb hby d13_3) rfl ?_
    refine st1.trans ?_
    refine XS.i2l X1.here hx rfl (hb hby d13_7) rfl ?_
    refine XS.lloadN X1.here hx rfl (hb hby d13_8) rfl ?_
    refine XS.aloadN X1.here hx rfl (hb hby d13_9) rfl rfl ?_
    refine st3 _ ?_
    refine XS.iloadN X3.here hx rfl (hb hby d13_13) rfl ?_
    refine X3.laload hx (j := lev) (v := (.long (ff ln))) (by rw [e3]; exact Arc4.1) (State.isArrayOf_alike hZ.alike Arc4.2.1) Arc4.2.2 hin5 (own_at Hc4 (own_ix_nat hl) (own_inn Sc4 hin5)) (g := (mkF m 14 #[.val (.ref dd), .val (.int lev), .val (.long site), .second] [(.int lev), (.ref af), (.long site), (.long ((own_gr (mg ln)).toInt64)), (.int lev), (.ref dd)])) rfl rfl (hb hby d13_14) _ ?_
    refine XS.lsub X3.here hx rfl (hb hby d13_15) rfl ?_
    refine XS.ladd X3.here hx rfl (hb hby d13_16) rfl ?_
    refine XS.lloadN X3.here hx rfl (hb hby d13_17) rfl ?_
    refine st6.trans ?_
    exact k)
  obtain ⟨fs, hr, hrun, hended, hW, hsame⟩ := X6.leave (v := none) (hlocks := BodyLoose.notSynchronized Bd) (fun _ => rfl)
  refine ⟨_, _, pre32 _ ?_, hrun, hended, _, _, rfl, ?_, ⟨_, rfl⟩, hW, hsame.mono (by decide) (by decide)⟩
  · exact X6.returnOut hx Bd.returns (hb hby d13_21) hr
  · show Q_mf1 Z dd oo am af ai as_ mg ff fg sg ah hd cn dp cz lev ln site pn h0 n0 _ T6.heap _
    exact ⟨x7, x8, rfl, N6, K6, hpq10, E11, F12, F13, F14, F15, F16, F17, F18, F19, F20, G21, G22, G23, G24, E25, F26, F27, F28, F29, G30⟩

theorem ef_egG (m : MethodId) (x0 : Addr) (x1 : Int32) (x2 : Int64) (x3 : Int32) : entryFrame m #[(.ref x0), (.int x1), (.long x2), (.int x3)] 5 = mkF m 0 #[.val (.ref x0), .val (.int x1), .val (.long x2), .second, .val (.int x3)] [] := by first | (simp [entryFrame, mkF, argsToLocals, Value.category]; done) | rfl
def Q_egG (Z : State) (dd : Addr) (oo : Addr) (am : Addr) (af : Addr) (ai : Addr) (as_ : Addr) (mg : Nat → Int32) (ff : Nat → Int64) (fg : Nat → Int32) (sg : Nat → Int64) (al : Addr) (kl : ClassId) (dp : Int32) (cf : Nat → Nat) (lev : Int32) (ln : Nat) (site : Int64) (pn : Nat) (h0 : Heap) (n0 : Nat) (v : Option Value) (h : Heap) (L : List Loc) : Prop := ∃ ah : Addr, ∃ sg' : Nat → Int64, ∃ hd' : Nat → Int64, ∃ cn' : Int32, ∃ jj : Int32, v = none ∧ Fr n0 L ∧ Keep h0 h [dd, oo, as_] ∧ n0 ≤ ah ∧ h0.size ≤ ah ∧ own_mkp ln cf pn site sg' hd' cn' jj ∧ Exa Z h dd "com/example/fieldglass/fieldglass/io/Marks" ∧ Fld Z h dd "com/example/fieldglass/fieldglass/io/Marks" "messages" "[Z" (.ref am) ∧ Fld Z h dd "com/example/fieldglass/fieldglass/io/Marks" "firstFieldSites" "[J" (.ref af) ∧ Fld Z h dd "com/example/fieldglass/fieldglass/io/Marks" "fieldSites" "[I" (.ref ai) ∧ Fld Z h dd "com/example/fieldglass/fieldglass/io/Marks" "slots" "[J" (.ref as_) ∧ Fld Z h dd "com/example/fieldglass/fieldglass/io/Marks" "slotted" "I" (.int lev) ∧ Fld Z h dd "com/example/fieldglass/fieldglass/io/Marks" "deepestFields" "I" (.int dp) ∧ Fld Z h dd "com/example/fieldglass/fieldglass/io/Marks" "marking" "Z" (.int (1 : Int32)) ∧ Fld Z h dd "com/example/fieldglass/fieldglass/io/Marks" "order" "Lcom/example/fieldglass/fieldglass/io/Marks$Order;" (.ref oo) ∧ Fld Z h dd "com/example/fieldglass/fieldglass/io/Marks" "next" "J" (.long (9223372036854775807 : Int64)) ∧ own_Fa Value.int .boolean Z h am 16 mg ∧ own_Fa Value.long .long Z h af 16 ff ∧ own_Fa Value.int .int Z h ai 16 fg ∧ own_Fa Value.long .long Z h as_ 16 sg' ∧ Exa Z h oo "com/example/fieldglass/fieldglass/io/Marks$Order" ∧ Fld Z h oo "com/example/fieldglass/fieldglass/io/Marks$Order" "held" "[J" (.ref ah) ∧ Fld Z h oo "com/example/fieldglass/fieldglass/io/Marks$Order" "count" "I" (.int cn') ∧ Fld Z h oo "com/example/fieldglass/fieldglass/io/Marks$Order" "spilled" "J" (.long (0 : Int64)) ∧ Fld Z h oo "com/example/fieldglass/fieldglass/io/Marks$Order" "read" "J" (.long (0 : Int64)) ∧ own_Fa Value.long .long Z h ah 16 hd'
set_option maxRecDepth 65536 in
set_option maxHeartbeats 40000000 in
theorem rm_egG (l : Launch) (Z : State) (a0 : Array Value) (hw : ∀ d ∈ tables_1, d.before a0 Z = true) (ws : List Jvm.Cond) (dd : Addr) (oo : Addr) (am : Addr) (af : Addr) (ai : Addr) (as_ : Addr) (mg : Nat → Int32) (ff : Nat → Int64) (fg : Nat → Int32) (sg : Nat → Int64) (al : Addr) (kl : ClassId) (dp : Int32) (cf : Nat → Nat) (lev : Int32) (ln : Nat) (site : Int64) (pn : Nat) (h0 : Heap) (n0 : Nat) (Z0 : n0 ≤ h0.size) (H0_E : Exa Z h0 dd "com/example/fieldglass/fieldglass/io/Marks") (H1_F : Fld Z h0 dd "com/example/fieldglass/fieldglass/io/Marks" "messages" "[Z" (.ref am)) (H2_F : Fld Z h0 dd "com/example/fieldglass/fieldglass/io/Marks" "firstFieldSites" "[J" (.ref af)) (H3_F : Fld Z h0 dd "com/example/fieldglass/fieldglass/io/Marks" "fieldSites" "[I" (.ref ai)) (H4_F : Fld Z h0 dd "com/example/fieldglass/fieldglass/io/Marks" "slots" "[J" (.ref as_)) (H5_F : Fld Z h0 dd "com/example/fieldglass/fieldglass/io/Marks" "slotted" "I" (.int (0 : Int32))) (H6_F : Fld Z h0 dd "com/example/fieldglass/fieldglass/io/Marks" "deepestFields" "I" (.int dp)) (H7_F : Fld Z h0 dd "com/example/fieldglass/fieldglass/io/Marks" "marking" "Z" (.int (1 : Int32))) (H8_F : Fld Z h0 dd "com/example/fieldglass/fieldglass/io/Marks" "order" "Lcom/example/fieldglass/fieldglass/io/Marks$Order;" (.ref oo)) (H9_F : Fld Z h0 dd "com/example/fieldglass/fieldglass/io/Marks" "next" "J" (.long (9223372036854775807 : Int64))) (H10_G : own_Fa Value.int .boolean Z h0 am 16 mg) (H11_G : own_Fa Value.long .long Z h0 af 16 ff) (H12_G : own_Fa Value.int .int Z h0 ai 16 fg) (H13_G : own_Fa Value.long .long Z h0 as_ 16 sg) (H14_E : Exa Z h0 oo "com/example/fieldglass/fieldglass/io/Marks$Order") (H15_F : Fld Z h0 oo "com/example/fieldglass/fieldglass/io/Marks$Order" "held" "[J" (.ref al)) (H16_F : Fld Z h0 oo "com/example/fieldglass/fieldglass/io/Marks$Order" "count" "I" (.int (0 : Int32))) (H17_F : Fld Z h0 oo "com/example/fieldglass/fieldglass/io/Marks$Order" "spilled" "J" (.long (0 : Int64))) (H18_F : Fld Z h0 oo "com/example/fieldglass/fieldglass/io/Marks$Order" "read" "J" (.long (0 : Int64))) (H19_A : Arv Z h0 al kl .long (0 : Int32) [] (.long (0 : Int64))) (hn_dd_oo : dd ≠ oo) (hn_dd_am : dd ≠ am) (hn_dd_af : dd ≠ af) (hn_dd_ai : dd ≠ ai) (hn_dd_as_ : dd ≠ as_) (hn_dd_al : dd ≠ al) (hn_oo_am : oo ≠ am) (hn_oo_af : oo ≠ af) (hn_oo_ai : oo ≠ ai) (hn_oo_as_ : oo ≠ as_) (hn_oo_al : oo ≠ al) (hn_am_af : am ≠ af) (hn_am_ai : am ≠ ai) (hn_am_as_ : am ≠ as_) (hn_am_al : am ≠ al) (hn_af_ai : af ≠ ai) (hn_af_as_ : af ≠ as_) (hn_af_al : af ≠ al) (hn_ai_as_ : ai ≠ as_) (hn_ai_al : ai ≠ al) (hn_as__al : as_ ≠ al) (hg_dd : n0 ≤ dd) (hg_oo : n0 ≤ oo) (hg_as_ : n0 ≤ as_) (hl : own_ix lev ln) (hcf : own_cf mg fg cf ln) (hk0 : (((own_gr (mg 0)) + (fg 0)) = (0 : Int32) ∧ ln = 1 ∧ (((own_gr (mg 1)) + (fg 1)) = (1 : Int32) ∨ ((own_gr (mg 1)) + (fg 1)) = (2 : Int32))) ∨ ((own_gr (mg 0)) + (fg 0)) = (1 : Int32) ∨ ((own_gr (mg 0)) + (fg 0)) = (2 : Int32)) (hp : ∀ zz : Int64, zz.toInt = (cf ln : Int) → own_pl (zz + (0 : Int64)) pn) :
    MetFree l (⟨"com/example/fieldglass/fieldglass/io/Marks", "endGroup", "(IJZ)V"⟩ : MethodName) (head1 (Jvm.Cond.code (⟨"com/example/fieldglass/fieldglass/io/Marks", "endGroup", "(IJZ)V"⟩ : MethodName) prog_13_method_7_code 5 none :: ws) ({ frames := 5, cells := 1, slots := 16, locals := 76 } : Room)) (fun as_ U_ => as_ = #[(.ref dd), (.int lev), (.long site), (.int (0 : Int32))] ∧ Z.Warmed39 U_.vm ∧ U_.heap = h0) (fun _ _ _ _ _ => True) (fun _ U o U' => ∃ v L, o = .returned v ∧ Q_egG Z dd oo am af ai as_ mg ff fg sg al kl dp cf lev ln site pn h0 n0 v U'.heap L ∧ FrameEnd U o U' L ({ frames := 5, cells := 1, slots := 16, locals := 76 } : Room).cells ({ frames := 5, cells := 1, slots := 16, locals := 76 } : Room).slots) := by
  refine MetFree.of_bodySF (plainFor_of_name pn_2) hisR ?_
  intro p e s m args below meth c s₁ Bd hml0 hP hK
  obtain ⟨rfl, hZ, hhp_⟩ := hP
  have hx := Bd.exec
  have hby := Bd.bytes
  have hml : c.maxLocals = 5 := hml0
  have hown : s.vm.findClass "com/example/fieldglass/fieldglass/io/Marks" = some m.cls := findClass_of_methodNamed Bd.named
  have hnm := (name_of_methodNamed Bd.named Bd.method).1
  have X0 : Stand p l e ({ frames := 5, cells := 1, slots := 16, locals := 76 } : Room) s m #[(.ref dd), (.int lev), (.long site), (.int (0 : Int32))] below meth c s₁ [] 0 0 := Stand.of_body Bd
  have e0 : s₁.heap = h0 := by rw [← hhp_, Bd.state]; rfl
  have N0 := Fr.nil n0
  have pre0 : ∀ t, Steps p.tables e below (s₁.setTop (mkF m 0 #[.val (.ref dd), .val (.int lev), .val (.long site), .second, .val (.int (0 : Int32))] [])) t → Steps p.tables e below (s₁.setTop (entryFrame m #[(.ref dd), (.int lev), (.long site), (.int (0 : Int32))] 5)) t := fun t k => castTop (ef_egG m dd lev site (0 : Int32)) k
  have K0 : Keep h0 h0 [dd, oo, as_] := Keep.refl h0 [dd, oo, as_]
  obtain ⟨cq1, q1, q1'⟩ := H0_E.cell
  obtain ⟨_, _, ⟨T1, L1, k1, n1⟩, -, X1, ⟨Lc1, hQ1, l1, y1, z1⟩, st1⟩ := X0.privateBack hx (y := (⟨"com/example/fieldglass/fieldglass/io/Marks", "mark", "(IJJ)V"⟩ : MethodName)) hown (mvT hZ (own_w hw 100 rfl)) (mvT hZ (own_w hw 101 rfl)) (own_sel_priv (z := (⟨"com/example/fieldglass/fieldglass/io/Marks", "beginMessage", "(I)V"⟩ : MethodName)) (mvT hZ (own_w hw 48 rfl)) rfl (mvP hZ (own_w hw 102 rfl)) (mvT hZ (own_w hw 101 rfl)) (by decide)) (Cond.privateMethod_at (mvP hZ (own_w hw 102 rfl) (args := #[]))) (mvT hZ (own_w hw 103 rfl)) (by decide) (backOf (W := 0) (rm_mkG l Z a0 hw [] dd oo am af ai as_ mg ff fg sg al kl dp cf lev ln site (0 : Int64) pn h0 n0 Z0 H0_E H1_F H2_F H3_F H4_F H5_F H6_F H7_F H8_F H9_F H10_G H11_G H12_G H13_G H14_E H15_F H16_F H17_F H18_F H19_A hn_dd_oo hn_dd_am hn_dd_af hn_dd_ai hn_dd_as_ hn_dd_al hn_oo_am hn_oo_af hn_oo_ai hn_oo_as_ hn_oo_al hn_am_af hn_am_ai hn_am_as_ hn_am_al hn_af_ai hn_af_as_ hn_af_al hn_ai_as_ hn_ai_al hn_as__al hg_dd hg_oo hg_as_ hl hcf hk0 hp) hZ (own_w hw 103 rfl) (own_w hw 3 rfl) (by decide) (by decide)) (g := (mkF m 9 #[.val (.ref dd), .val (.int lev), .val (.long site), .second, .val (.int (0 : Int32))] [(.long site), (.long (0 : Int64)), (.int lev), (.ref dd)])) rfl (by rw [hml]; rfl) (Steps.refl _) (a := dd) (by rw [e0]; exact q1) q1' (argsL := [(.int lev), (.long (0 : Int64)), (.long site)]) (rest := []) (lenOf pd_9 rfl) rfl (by show 2 * 0 + _ ≤ _; exact Nat.le_of_eq rfl) (hb hby d20_9) (fun _ _ => ⟨rfl, e0, (by decide : 0 + 1 ≤ _), (by decide : 0 + 16 ≤ _)⟩)
  dsimp only [Pt.U, Pt.locs, Pt.cells, Pt.slots] at X1 l1 y1 z1 st1 hQ1
  subst l1 y1 z1
  obtain ⟨x2, x3, x4, x5, x6, rfl, N1q, hq7, hpq8, hpq9, hpq10, E11, F12, F13, F14, F15, F16, F17, F18, F19, F20, G21, G22, G23, G24, E25, F26, F27, F28, F29, G30⟩ := hQ1
  have N1 := Fr.app N0 N1q
  have lt31 : dd < h0.size := H0_E.lt
  have lt32 : am < h0.size := H10_G.lt
  have lt33 : af < h0.size := H11_G.lt
  have lt34 : ai < h0.size := H12_G.lt
  have lt35 : as_ < h0.size := H13_G.lt
  have lt36 : oo < h0.size := H14_E.lt
  have lt37 : al < h0.size := H19_A.lt
  have A38 := H19_A.keep hq7 (ninS (Ne.symm hn_dd_al) (ninS (Ne.symm hn_oo_al) (ninS (Ne.symm hn_as__al) nin0)))
  have K1 : Keep h0 T1.heap [dd, oo, as_] := K0.trans hq7 (allS (Or.inl (List.mem_of_getElem? (i := 0) rfl)) (allS (Or.inl (List.mem_of_getElem? (i := 1) rfl)) (allS (Or.inl (List.mem_of_getElem? (i := 2) rfl)) all0)))
  have Zs39 : n0 ≤ T1.heap.size := (Nat.le_trans Z0 hq7.1)
  have ne40 : dd ≠ x2 := Nat.ne_of_lt (Nat.lt_of_lt_of_le lt31 hpq9)
  have ne41 : am ≠ x2 := Nat.ne_of_lt (Nat.lt_of_lt_of_le lt32 hpq9)
  have ne42 : af ≠ x2 := Nat.ne_of_lt (Nat.lt_of_lt_of_le lt33 hpq9)
  have ne43 : ai ≠ x2 := Nat.ne_of_lt (Nat.lt_of_lt_of_le lt34 hpq9)
  have ne44 : as_ ≠ x2 := Nat.ne_of_lt (Nat.lt_of_lt_of_le lt35 hpq9)
  have ne45 : oo ≠ x2 := Nat.ne_of_lt (Nat.lt_of_lt_of_le lt36 hpq9)
  have ne46 : al ≠ x2 := Nat.ne_of_lt (Nat.lt_of_lt_of_le lt37 hpq9)
  have sz47 : h0.size ≤ x2 := Nat.le_trans K0.1 hpq9
  obtain ⟨T48, X48, e48, st48⟩ := getF X1 hx hZ hown (host := "") (Or.inl (own_w hw 83 rfl)) Via.refl rfl F16 (g := (mkF m 13 #[.val (.ref dd), .val (.int lev), .val (.long site), .second, .val (.int (0 : Int32))] [(.ref dd)])) rfl rfl (hb hby d20_13)
  obtain ⟨T49, h49, X49, e49, W49, st49⟩ := putF X48 hx hZ hown (host := "") (Or.inl (own_w hw 83 rfl)) Via.refl e48 F16 E11 (Or.inl (own_w hw 84 rfl)) (own_w hw 2 rfl) (ty := .int) (by decide) rfl rfl (g := (mkF m 22 #[.val (.ref dd), .val (.int lev), .val (.long site), .second, .val (.int (0 : Int32))] [(.int lev), (.ref dd)])) rfl rfl (hb hby d20_22)
  have Fw49 : Fld Z h49 dd "com/example/fieldglass/fieldglass/io/Marks" "slotted" "I" (.int lev) := F16.same W49
  have A50 := A38.other W49 (Ne.symm hn_dd_al)
  have E51 := E11.wr W49
  have F52 := F12.other W49 (Or.inr (slot_ne (Or.inl (own_w hw 13 rfl)) (Or.inl (own_w hw 84 rfl)) (by decide) (t := (.array .boolean)) (t' := .int) (by decide) (by decide)))
  have F53 := F13.other W49 (Or.inr (slot_ne (Or.inl (own_w hw 17 rfl)) (Or.inl (own_w hw 84 rfl)) (by decide) (t := (.array .long)) (t' := .int) (by decide) (by decide)))
  have F54 := F14.other W49 (Or.inr (slot_ne (Or.inl (own_w hw 21 rfl)) (Or.inl (own_w hw 84 rfl)) (by decide) (t := (.array .int)) (t' := .int) (by decide) (by decide)))
  have F55 := F15.other W49 (Or.inr (slot_ne (Or.inl (own_w hw 23 rfl)) (Or.inl (own_w hw 84 rfl)) (by decide) (t := (.array .long)) (t' := .int) (by decide) (by decide)))
  have F56 := F17.other W49 (Or.inr (slot_ne (Or.inl (own_w hw 25 rfl)) (Or.inl (own_w hw 84 rfl)) (by decide) (t := .int) (t' := .int) (by decide) (by decide)))
  have F57 := F18.other W49 (Or.inr (slot_ne (Or.inl (own_w hw 27 rfl)) (Or.inl (own_w hw 84 rfl)) (by decide) (t := .boolean) (t' := .int) (by decide) (by decide)))
  have F58 := F19.other W49 (Or.inr (slot_ne (Or.inr (own_w hw 41 rfl)) (Or.inl (own_w hw 84 rfl)) (by decide) (t := (.object "com/example/fieldglass/fieldglass/io/Marks$Order")) (t' := .int) (by decide) (by decide)))
  have F59 := F20.other W49 (Or.inr (slot_ne (Or.inl (own_w hw 44 rfl)) (Or.inl (own_w hw 84 rfl)) (by decide) (t := .long) (t' := .int) (by decide) (by decide)))
  have G60 := G21.other W49 (Ne.symm hn_dd_am)
  have G61 := G22.other W49 (Ne.symm hn_dd_af)
  have G62 := G23.other W49 (Ne.symm hn_dd_ai)
  have G63 := G24.other W49 (Ne.symm hn_dd_as_)
  have E64 := E25.wr W49
  have F65 := F26.other W49 (Or.inl (Ne.symm hn_dd_oo))
  have F66 := F27.other W49 (Or.inl (Ne.symm hn_dd_oo))
  have F67 := F28.other W49 (Or.inl (Ne.symm hn_dd_oo))
  have F68 := F29.other W49 (Or.inl (Ne.symm hn_dd_oo))
  have G69 := G30.other W49 (Ne.symm ne40)
  have N49 := Fr.snoc X49 N1 hg_dd
  have K49 : Keep h0 h49 [dd, oo, as_] := K1.wr W49 (Or.inl (List.mem_of_getElem? (i := 0) rfl))
  have Zs70 : n0 ≤ h49.size := (Nat.le_trans Zs39 (Keep.of_wr W49).1)
  have pre71 := fun (t : State) (k : Steps p.tables e below (T49.setTop (mkF m 25 #[.val (.ref dd), .val (.int lev), .val (.long site), .second, .val (.int (0 : Int32))] [])) t) => pre0 t (by
    refine XS.iload X0.here hx rfl (hb hby d20_0) rfl ?_
    refine XS.ifNo X0.here hx rfl (hb hby d20_2) rfl ((if0 _ _).trans (teq (by decide : (0 : Int32) = (0 : Int32))).2) ?_
    refine XS.aloadN X0.here hx rfl (hb hby d20_5) rfl rfl ?_
    refine XS.iloadN X0.here hx rfl (hb hby d20_6) rfl ?_
    refine XS.lconst X0.here hx rfl (hb hby d20_7) ?_
    refine XS.lloadN X0.here hx rfl (hb hby d20_8) rfl ?_
    refine st1.trans ?_
    refine XS.aloadN X1.here hx rfl (hb hby d20_12) rfl rfl ?_
    refine st48 _ ?_
    refine XS.iloadN X48.here hx rfl (hb hby d20_16) rfl ?_
    refine XS.icmpNo X48.here hx rfl (hb hby d20_17) rfl (tlt (own_mk_lt hl hpq10)).2.2.2 ?_
    refine XS.aloadN X48.here hx rfl (hb hby d20_20) rfl rfl ?_
    refine XS.iloadN X48.here hx rfl (hb hby d20_21) rfl ?_
    refine st49 _ ?_
    exact k)
  obtain ⟨fs, hr, hrun, hended, hW, hsame⟩ := X49.leave (v := none) (hlocks := BodyLoose.notSynchronized Bd) (fun _ => rfl)
  refine ⟨_, _, pre71 _ ?_, hrun, hended, _, _, rfl, ?_, ⟨_, rfl⟩, hW, hsame.mono (by decide) (by decide)⟩
  · exact X49.returnOut hx Bd.returns (hb hby d20_25) hr
  · show Q_egG Z dd oo am af ai as_ mg ff fg sg al kl dp cf lev ln site pn h0 n0 _ T49.heap _
    rw [e49]
    exact ⟨x2, x3, x4, x5, x6, rfl, N49, K49, hpq8, sz47, hpq10, E51, F52, F53, F54, F55, Fw49, F56, F57, F58, F59, G60, G61, G62, G63, E64, F65, F66, F67, F68, G69⟩

theorem ef_egN (m : MethodId) (x0 : Addr) (x1 : Int32) (x2 : Int64) (x3 : Int32) : entryFrame m #[(.ref x0), (.int x1), (.long x2), (.int x3)] 5 = mkF m 0 #[.val (.ref x0), .val (.int x1), .val (.long x2), .second, .val (.int x3)] [] := by first | (simp [entryFrame, mkF, argsToLocals, Value.category]; done) | rfl
def Q_egN (Z : State) (dd : Addr) (oo : Addr) (am : Addr) (af : Addr) (ai : Addr) (as_ : Addr) (mg : Nat → Int32) (ff : Nat → Int64) (fg : Nat → Int32) (sg : Nat → Int64) (ah : Addr) (hd : Nat → Int64) (cn : Int32) (sl : Int32) (dp : Int32) (lev : Int32) (ln : Nat) (site : Int64) (pn : Nat) (h0 : Heap) (n0 : Nat) (v : Option Value) (h : Heap) (L : List Loc) : Prop := v = none ∧ Fr n0 L ∧ Keep h0 h [dd, ah] ∧ Exa Z h dd "com/example/fieldglass/fieldglass/io/Marks" ∧ Fld Z h dd "com/example/fieldglass/fieldglass/io/Marks" "messages" "[Z" (.ref am) ∧ Fld Z h dd "com/example/fieldglass/fieldglass/io/Marks" "firstFieldSites" "[J" (.ref af) ∧ Fld Z h dd "com/example/fieldglass/fieldglass/io/Marks" "fieldSites" "[I" (.ref ai) ∧ Fld Z h dd "com/example/fieldglass/fieldglass/io/Marks" "slots" "[J" (.ref as_) ∧ Fld Z h dd "com/example/fieldglass/fieldglass/io/Marks" "slotted" "I" (.int lev) ∧ Fld Z h dd "com/example/fieldglass/fieldglass/io/Marks" "deepestFields" "I" (.int dp) ∧ Fld Z h dd "com/example/fieldglass/fieldglass/io/Marks" "marking" "Z" (.int (1 : Int32)) ∧ Fld Z h dd "com/example/fieldglass/fieldglass/io/Marks" "order" "Lcom/example/fieldglass/fieldglass/io/Marks$Order;" (.ref oo) ∧ Fld Z h dd "com/example/fieldglass/fieldglass/io/Marks" "next" "J" (.long (9223372036854775807 : Int64)) ∧ own_Fa Value.int .boolean Z h am 16 mg ∧ own_Fa Value.long .long Z h af 16 ff ∧ own_Fa Value.int .int Z h ai 16 fg ∧ own_Fa Value.long .long Z h as_ 16 sg ∧ own_Fa Value.long .long Z h ah 16 (own_up hd pn site)
set_option maxRecDepth 65536 in
set_option maxHeartbeats 40000000 in
theorem rm_egN (l : Launch) (Z : State) (a0 : Array Value) (hw : ∀ d ∈ tables_1, d.before a0 Z = true) (ws : List Jvm.Cond) (dd : Addr) (oo : Addr) (am : Addr) (af : Addr) (ai : Addr) (as_ : Addr) (mg : Nat → Int32) (ff : Nat → Int64) (fg : Nat → Int32) (sg : Nat → Int64) (ah : Addr) (hd : Nat → Int64) (cn : Int32) (sl : Int32) (dp : Int32) (lev : Int32) (ln : Nat) (site : Int64) (pn : Nat) (h0 : Heap) (n0 : Nat) (Z0 : n0 ≤ h0.size) (H0_E : Exa Z h0 dd "com/example/fieldglass/fieldglass/io/Marks") (H1_F : Fld Z h0 dd "com/example/fieldglass/fieldglass/io/Marks" "messages" "[Z" (.ref am)) (H2_F : Fld Z h0 dd "com/example/fieldglass/fieldglass/io/Marks" "firstFieldSites" "[J" (.ref af)) (H3_F : Fld Z h0 dd "com/example/fieldglass/fieldglass/io/Marks" "fieldSites" "[I" (.ref ai)) (H4_F : Fld Z h0 dd "com/example/fieldglass/fieldglass/io/Marks" "slots" "[J" (.ref as_)) (H5_F : Fld Z h0 dd "com/example/fieldglass/fieldglass/io/Marks" "slotted" "I" (.int sl)) (H6_F : Fld Z h0 dd "com/example/fieldglass/fieldglass/io/Marks" "deepestFields" "I" (.int dp)) (H7_F : Fld Z h0 dd "com/example/fieldglass/fieldglass/io/Marks" "marking" "Z" (.int (1 : Int32))) (H8_F : Fld Z h0 dd "com/example/fieldglass/fieldglass/io/Marks" "order" "Lcom/example/fieldglass/fieldglass/io/Marks$Order;" (.ref oo)) (H9_F : Fld Z h0 dd "com/example/fieldglass/fieldglass/io/Marks" "next" "J" (.long (9223372036854775807 : Int64))) (H10_G : own_Fa Value.int .boolean Z h0 am 16 mg) (H11_G : own_Fa Value.long .long Z h0 af 16 ff) (H12_G : own_Fa Value.int .int Z h0 ai 16 fg) (H13_G : own_Fa Value.long .long Z h0 as_ 16 sg) (H14_E : Exa Z h0 oo "com/example/fieldglass/fieldglass/io/Marks$Order") (H15_F : Fld Z h0 oo "com/example/fieldglass/fieldglass/io/Marks$Order" "held" "[J" (.ref ah)) (H16_F : Fld Z h0 oo "com/example/fieldglass/fieldglass/io/Marks$Order" "count" "I" (.int cn)) (H17_F : Fld Z h0 oo "com/example/fieldglass/fieldglass/io/Marks$Order" "spilled" "J" (.long (0 : Int64))) (H18_F : Fld Z h0 oo "com/example/fieldglass/fieldglass/io/Marks$Order" "read" "J" (.long (0 : Int64))) (H19_G : own_Fa Value.long .long Z h0 ah 16 hd) (hn_dd_oo : dd ≠ oo) (hn_dd_am : dd ≠ am) (hn_dd_af : dd ≠ af) (hn_dd_ai : dd ≠ ai) (hn_dd_as_ : dd ≠ as_) (hn_dd_ah : dd ≠ ah) (hn_oo_am : oo ≠ am) (hn_oo_af : oo ≠ af) (hn_oo_ai : oo ≠ ai) (hn_oo_as_ : oo ≠ as_) (hn_oo_ah : oo ≠ ah) (hn_am_af : am ≠ af) (hn_am_ai : am ≠ ai) (hn_am_as_ : am ≠ as_) (hn_am_ah : am ≠ ah) (hn_af_ai : af ≠ ai) (hn_af_as_ : af ≠ as_) (hn_af_ah : af ≠ ah) (hn_ai_as_ : ai ≠ as_) (hn_ai_ah : ai ≠ ah) (hn_as__ah : as_ ≠ ah) (hg_ah : n0 ≤ ah) (hl : own_ix lev ln) (hls : lev < sl) (hp : own_pl ((sg ln) + (0 : Int64)) pn) (hg_dd : n0 ≤ dd) :
    MetFree l (⟨"com/example/fieldglass/fieldglass/io/Marks", "endGroup", "(IJZ)V"⟩ : MethodName) (head1 (Jvm.Cond.code (⟨"com/example/fieldglass/fieldglass/io/Marks", "endGroup", "(IJZ)V"⟩ : MethodName) prog_13_method_7_code 5 none :: ws) ({ frames := 2, cells := 0, slots := 0, locals := 34 } : Room)) (fun as_ U_ => as_ = #[(.ref dd), (.int lev), (.long site), (.int (0 : Int32))] ∧ Z.Warmed39 U_.vm ∧ U_.heap = h0) (fun _ _ _ _ _ => True) (fun _ U o U' => ∃ v L, o = .returned v ∧ Q_egN Z dd oo am af ai as_ mg ff fg sg ah hd cn sl dp lev ln site pn h0 n0 v U'.heap L ∧ FrameEnd U o U' L ({ frames := 2, cells := 0, slots := 0, locals := 34 } : Room).cells ({ frames := 2, cells := 0, slots := 0, locals := 34 } : Room).slots) := by
  refine MetFree.of_bodySF (plainFor_of_name pn_2) hisR ?_
  intro p e s m args below meth c s₁ Bd hml0 hP hK
  obtain ⟨rfl, hZ, hhp_⟩ := hP
  have hx := Bd.exec
  have hby := Bd.bytes
  have hml : c.maxLocals = 5 := hml0
  have hown : s.vm.findClass "com/example/fieldglass/fieldglass/io/Marks" = some m.cls := findClass_of_methodNamed Bd.named
  have hnm := (name_of_methodNamed Bd.named Bd.method).1
  have X0 : Stand p l e ({ frames := 2, cells := 0, slots := 0, locals := 34 } : Room) s m #[(.ref dd), (.int lev), (.long site), (.int (0 : Int32))] below meth c s₁ [] 0 0 := Stand.of_body Bd
  have e0 : s₁.heap = h0 := by rw [← hhp_, Bd.state]; rfl
  have N0 := Fr.nil n0
  have pre0 : ∀ t, Steps p.tables e below (s₁.setTop (mkF m 0 #[.val (.ref dd), .val (.int lev), .val (.long site), .second, .val (.int (0 : Int32))] [])) t → Steps p.tables e below (s₁.setTop (entryFrame m #[(.ref dd), (.int lev), (.long site), (.int (0 : Int32))] 5)) t := fun t k => castTop (ef_egN m dd lev site (0 : Int32)) k
  have K0 : Keep h0 h0 [dd, ah] := Keep.refl h0 [dd, ah]
  obtain ⟨cq1, q1, q1'⟩ := H0_E.cell
  obtain ⟨_, _, ⟨T1, L1, k1, n1⟩, -, X1, ⟨Lc1, hQ1, l1, y1, z1⟩, st1⟩ := X0.privateBack hx (y := (⟨"com/example/fieldglass/fieldglass/io/Marks", "mark", "(IJJ)V"⟩ : MethodName)) hown (mvT hZ (own_w hw 100 rfl)) (mvT hZ (own_w hw 101 rfl)) (own_sel_priv (z := (⟨"com/example/fieldglass/fieldglass/io/Marks", "beginMessage", "(I)V"⟩ : MethodName)) (mvT hZ (own_w hw 48 rfl)) rfl (mvP hZ (own_w hw 102 rfl)) (mvT hZ (own_w hw 101 rfl)) (by decide)) (Cond.privateMethod_at (mvP hZ (own_w hw 102 rfl) (args := #[]))) (mvT hZ (own_w hw 103 rfl)) (by decide) (backOf (W := 0) (rm_mkN l Z a0 hw [] dd oo am af ai as_ mg ff fg sg ah hd cn sl dp lev ln site (0 : Int64) pn h0 n0 Z0 H0_E H1_F H2_F H3_F H4_F H5_F H6_F H7_F H8_F H9_F H10_G H11_G H12_G H13_G H14_E H15_F H16_F H17_F H18_F H19_G hn_dd_oo hn_dd_am hn_dd_af hn_dd_ai hn_dd_as_ hn_dd_ah hn_oo_am hn_oo_af hn_oo_ai hn_oo_as_ hn_oo_ah hn_am_af hn_am_ai hn_am_as_ hn_am_ah hn_af_ai hn_af_as_ hn_af_ah hn_ai_as_ hn_ai_ah hn_as__ah hg_ah hl hls hp) hZ (own_w hw 103 rfl) (own_w hw 3 rfl) (by decide) (by decide)) (g := (mkF m 9 #[.val (.ref dd), .val (.int lev), .val (.long site), .second, .val (.int (0 : Int32))] [(.long site), (.long (0 : Int64)), (.int lev), (.ref dd)])) rfl (by rw [hml]; rfl) (Steps.refl _) (a := dd) (by rw [e0]; exact q1) q1' (argsL := [(.int lev), (.long (0 : Int64)), (.long site)]) (rest := []) (lenOf pd_9 rfl) rfl (by show 2 * 0 + _ ≤ _; exact Nat.le_of_eq rfl) (hb hby d20_9) (fun _ _ => ⟨rfl, e0, (by decide : 0 + 0 ≤ _), (by decide : 0 + 0 ≤ _)⟩)
  dsimp only [Pt.U, Pt.locs, Pt.cells, Pt.slots] at X1 l1 y1 z1 st1 hQ1
  subst l1 y1 z1
  obtain ⟨rfl, N1q, hq2, G3⟩ := hQ1
  have N1 := Fr.app N0 N1q
  have E4 := H0_E.keep hq2
  have F5 := H1_F.keep hq2 (ninS hn_dd_ah nin0)
  have F6 := H2_F.keep hq2 (ninS hn_dd_ah nin0)
  have F7 := H3_F.keep hq2 (ninS hn_dd_ah nin0)
  have F8 := H4_F.keep hq2 (ninS hn_dd_ah nin0)
  have F9 := H5_F.keep hq2 (ninS hn_dd_ah nin0)
  have F10 := H6_F.keep hq2 (ninS hn_dd_ah nin0)
  have F11 := H7_F.keep hq2 (ninS hn_dd_ah nin0)
  have F12 := H8_F.keep hq2 (ninS hn_dd_ah nin0)
  have F13 := H9_F.keep hq2 (ninS hn_dd_ah nin0)
  have G14 := H10_G.keep hq2 (ninS hn_am_ah nin0)
  have G15 := H11_G.keep hq2 (ninS hn_af_ah nin0)
  have G16 := H12_G.keep hq2 (ninS hn_ai_ah nin0)
  have G17 := H13_G.keep hq2 (ninS hn_as__ah nin0)
  have E18 := H14_E.keep hq2
  have F19 := H15_F.keep hq2 (ninS hn_oo_ah nin0)
  have F20 := H16_F.keep hq2 (ninS hn_oo_ah nin0)
  have F21 := H17_F.keep hq2 (ninS hn_oo_ah nin0)
  have F22 := H18_F.keep hq2 (ninS hn_oo_ah nin0)
  have K1 : Keep h0 T1.heap [dd, ah] := K0.trans hq2 (allS (Or.inl (List.mem_of_getElem? (i := 1) rfl)) all0)
  have Zs23 : n0 ≤ T1.heap.size := (Nat.le_trans Z0 hq2.1)
  obtain ⟨T24, X24, e24, st24⟩ := getF X1 hx hZ hown (host := "") (Or.inl (own_w hw 83 rfl)) Via.refl rfl F9 (g := (mkF m 13 #[.val (.ref dd), .val (.int lev), .val (.long site), .second, .val (.int (0 : Int32))] [(.ref dd)])) rfl rfl (hb hby d20_13)
  obtain ⟨T25, h25, X25, e25, W25, st25⟩ := putF X24 hx hZ hown (host := "") (Or.inl (own_w hw 83 rfl)) Via.refl e24 F9 E4 (Or.inl (own_w hw 84 rfl)) (own_w hw 2 rfl) (ty := .int) (by decide) rfl rfl (g := (mkF m 22 #[.val (.ref dd), .val (.int lev), .val (.long site), .second, .val (.int (0 : Int32))] [(.int lev), (.ref dd)])) rfl rfl (hb hby d20_22)
  have Fw25 : Fld Z h25 dd "com/example/fieldglass/fieldglass/io/Marks" "slotted" "I" (.int lev) := F9.same W25
  have E26 := E4.wr W25
  have F27 := F5.other W25 (Or.inr (slot_ne (Or.inl (own_w hw 13 rfl)) (Or.inl (own_w hw 84 rfl)) (by decide) (t := (.array .boolean)) (t' := .int) (by decide) (by decide)))
  have F28 := F6.other W25 (Or.inr (slot_ne (Or.inl (own_w hw 17 rfl)) (Or.inl (own_w hw 84 rfl)) (by decide) (t := (.array .long)) (t' := .int) (by decide) (by decide)))
  have F29 := F7.other W25 (Or.inr (slot_ne (Or.inl (own_w hw 21 rfl)) (Or.inl (own_w hw 84 rfl)) (by decide) (t := (.array .int)) (t' := .int) (by decide) (by decide)))
  have F30 := F8.other W25 (Or.inr (slot_ne (Or.inl (own_w hw 23 rfl)) (Or.inl (own_w hw 84 rfl)) (by decide) (t := (.array .long)) (t' := .int) (by decide) (by decide)))
  have F31 := F10.other W25 (Or.inr (slot_ne (Or.inl (own_w hw 25 rfl)) (Or.inl (own_w hw 84 rfl)) (by decide) (t := .int) (t' := .int) (by decide) (by decide)))
  have F32 := F11.other W25 (Or.inr (slot_ne (Or.inl (own_w hw 27 rfl)) (Or.inl (own_w hw 84 rfl)) (by decide) (t := .boolean) (t' := .int) (by decide) (by decide)))
  have F33 := F12.other W25 (Or.inr (slot_ne (Or.inr (own_w hw 41 rfl)) (Or.inl (own_w hw 84 rfl)) (by decide) (t := (.object "com/example/fieldglass/fieldglass/io/Marks$Order")) (t' := .int) (by decide) (by decide)))
  have F34 := F13.other W25 (Or.inr (slot_ne (Or.inl (own_w hw 44 rfl)) (Or.inl (own_w hw 84 rfl)) (by decide) (t := .long) (t' := .int) (by decide) (by decide)))
  have G35 := G14.other W25 (Ne.symm hn_dd_am)
  have G36 := G15.other W25 (Ne.symm hn_dd_af)
  have G37 := G16.other W25 (Ne.symm hn_dd_ai)
  have G38 := G17.other W25 (Ne.symm hn_dd_as_)
  have E39 := E18.wr W25
  have F40 := F19.other W25 (Or.inl (Ne.symm hn_dd_oo))
  have F41 := F20.other W25 (Or.inl (Ne.symm hn_dd_oo))
  have F42 := F21.other W25 (Or.inl (Ne.symm hn_dd_oo))
  have F43 := F22.other W25 (Or.inl (Ne.symm hn_dd_oo))
  have G44 := G3.other W25 (Ne.symm hn_dd_ah)
  have N25 := Fr.snoc X25 N1 hg_dd
  have K25 : Keep h0 h25 [dd, ah] := K1.wr W25 (Or.inl (List.mem_of_getElem? (i := 0) rfl))
  have Zs45 : n0 ≤ h25.size := (Nat.le_trans Zs23 (Keep.of_wr W25).1)
  have pre46 := fun (t : State) (k : Steps p.tables e below (T25.setTop (mkF m 25 #[.val (.ref dd), .val (.int lev), .val (.long site), .second, .val (.int (0 : Int32))] [])) t) => pre0 t (by
    refine XS.iload X0.here hx rfl (hb hby d20_0) rfl ?_
    refine XS.ifNo X0.here hx rfl (hb hby d20_2) rfl ((if0 _ _).trans (teq (by decide : (0 : Int32) = (0 : Int32))).2) ?_
    refine XS.aloadN X0.here hx rfl (hb hby d20_5) rfl rfl ?_
    refine XS.iloadN X0.here hx rfl (hb hby d20_6) rfl ?_
    refine XS.lconst X0.here hx rfl (hb hby d20_7) ?_
    refine XS.lloadN X0.here hx rfl (hb hby d20_8) rfl ?_
    refine st1.trans ?_
    refine XS.aloadN X1.here hx rfl (hb hby d20_12) rfl rfl ?_
    refine st24 _ ?_
    refine XS.iloadN X24.here hx rfl (hb hby d20_16) rfl ?_
    refine XS.icmpNo X24.here hx rfl (hb hby d20_17) rfl (tlt hls).2.2.2 ?_
    refine XS.aloadN X24.here hx rfl (hb hby d20_20) rfl rfl ?_
    refine XS.iloadN X24.here hx rfl (hb hby d20_21) rfl ?_
    refine st25 _ ?_
    exact k)
  obtain ⟨fs, hr, hrun, hended, hW, hsame⟩ := X25.leave (v := none) (hlocks := BodyLoose.notSynchronized Bd) (fun _ => rfl)
  refine ⟨_, _, pre46 _ ?_, hrun, hended, _, _, rfl, ?_, ⟨_, rfl⟩, hW, hsame.mono (by decide) (by decide)⟩
  · exact X25.returnOut hx Bd.returns (hb hby d20_25) hr
  · show Q_egN Z dd oo am af ai as_ mg ff fg sg ah hd cn sl dp lev ln site pn h0 n0 _ T25.heap _
    rw [e25]
    exact ⟨rfl, N25, K25, E26, F27, F28, F29, F30, Fw25, F31, F32, F33, F34, G35, G36, G37, G38, G44⟩

theorem ef_bf (m : MethodId) (x0 : Addr) (x1 : Int32) (x2 : Int64) (x3 : Int32) : entryFrame m #[(.ref x0), (.int x1), (.long x2), (.int x3)] 5 = mkF m 0 #[.val (.ref x0), .val (.int x1), .val (.long x2), .second, .val (.int x3)] [] := by first | (simp [entryFrame, mkF, argsToLocals, Value.category]; done) | rfl
def Q_bf (Z : State) (dd : Addr) (oo : Addr) (am : Addr) (af : Addr) (ai : Addr) (as_ : Addr) (mg : Nat → Int32) (ff : Nat → Int64) (fg : Nat → Int32) (sg : Nat → Int64) (sl : Int32) (dp : Int32) (lev : Int32) (ln : Nat) (site : Int64) (h0 : Heap) (n0 : Nat) (v : Option Value) (h : Heap) (L : List Loc) : Prop := v = none ∧ Fr n0 L ∧ Keep h0 h [dd, af, ai] ∧ Exa Z h dd "com/example/fieldglass/fieldglass/io/Marks" ∧ Fld Z h dd "com/example/fieldglass/fieldglass/io/Marks" "messages" "[Z" (.ref am) ∧ Fld Z h dd "com/example/fieldglass/fieldglass/io/Marks" "firstFieldSites" "[J" (.ref af) ∧ Fld Z h dd "com/example/fieldglass/fieldglass/io/Marks" "fieldSites" "[I" (.ref ai) ∧ Fld Z h dd "com/example/fieldglass/fieldglass/io/Marks" "slots" "[J" (.ref as_) ∧ Fld Z h dd "com/example/fieldglass/fieldglass/io/Marks" "slotted" "I" (.int sl) ∧ Fld Z h dd "com/example/fieldglass/fieldglass/io/Marks" "deepestFields" "I" (.int lev) ∧ Fld Z h dd "com/example/fieldglass/fieldglass/io/Marks" "marking" "Z" (.int (1 : Int32)) ∧ Fld Z h dd "com/example/fieldglass/fieldglass/io/Marks" "order" "Lcom/example/fieldglass/fieldglass/io/Marks$Order;" (.ref oo) ∧ Fld Z h dd "com/example/fieldglass/fieldglass/io/Marks" "next" "J" (.long (9223372036854775807 : Int64)) ∧ own_Fa Value.int .boolean Z h am 16 mg ∧ own_Fa Value.long .long Z h af 16 (own_up ff ln site) ∧ own_Fa Value.int .int Z h ai 16 (own_up fg ln (1 : Int32)) ∧ own_Fa Value.long .long Z h as_ 16 sg
set_option maxRecDepth 65536 in
set_option maxHeartbeats 40000000 in
theorem rm_bf (l : Launch) (Z : State) (a0 : Array Value) (hw : ∀ d ∈ tables_1, d.before a0 Z = true) (ws : List Jvm.Cond) (dd : Addr) (oo : Addr) (am : Addr) (af : Addr) (ai : Addr) (as_ : Addr) (mg : Nat → Int32) (ff : Nat → Int64) (fg : Nat → Int32) (sg : Nat → Int64) (sl : Int32) (dp : Int32) (lev : Int32) (ln : Nat) (site : Int64) (h0 : Heap) (n0 : Nat) (Z0 : n0 ≤ h0.size) (H0_E : Exa Z h0 dd "com/example/fieldglass/fieldglass/io/Marks") (H1_F : Fld Z h0 dd "com/example/fieldglass/fieldglass/io/Marks" "messages" "[Z" (.ref am)) (H2_F : Fld Z h0 dd "com/example/fieldglass/fieldglass/io/Marks" "firstFieldSites" "[J" (.ref af)) (H3_F : Fld Z h0 dd "com/example/fieldglass/fieldglass/io/Marks" "fieldSites" "[I" (.ref ai)) (H4_F : Fld Z h0 dd "com/example/fieldglass/fieldglass/io/Marks" "slots" "[J" (.ref as_)) (H5_F : Fld Z h0 dd "com/example/fieldglass/fieldglass/io/Marks" "slotted" "I" (.int sl)) (H6_F : Fld Z h0 dd "com/example/fieldglass/fieldglass/io/Marks" "deepestFields" "I" (.int dp)) (H7_F : Fld Z h0 dd "com/example/fieldglass/fieldglass/io/Marks" "marking" "Z" (.int (1 : Int32))) (H8_F : Fld Z h0 dd "com/example/fieldglass/fieldglass/io/Marks" "order" "Lcom/example/fieldglass/fieldglass/io/Marks$Order;" (.ref oo)) (H9_F : Fld Z h0 dd "com/example/fieldglass/fieldglass/io/Marks" "next" "J" (.long (9223372036854775807 : Int64))) (H10_G : own_Fa Value.int .boolean Z h0 am 16 mg) (H11_G : own_Fa Value.long .long Z h0 af 16 ff) (H12_G : own_Fa Value.int .int Z h0 ai 16 fg) (H13_G : own_Fa Value.long .long Z h0 as_ 16 sg) (hn_dd_oo : dd ≠ oo) (hn_dd_am : dd ≠ am) (hn_dd_af : dd ≠ af) (hn_dd_ai : dd ≠ ai) (hn_dd_as_ : dd ≠ as_) (hn_oo_am : oo ≠ am) (hn_oo_af : oo ≠ af) (hn_oo_ai : oo ≠ ai) (hn_oo_as_ : oo ≠ as_) (hn_am_af : am ≠ af) (hn_am_ai : am ≠ ai) (hn_am_as_ : am ≠ as_) (hn_af_ai : af ≠ ai) (hn_af_as_ : af ≠ as_) (hn_ai_as_ : ai ≠ as_) (hg_dd : n0 ≤ dd) (hg_af : n0 ≤ af) (hg_ai : n0 ≤ ai) (hl : own_ix lev ln) (hdp : ¬ dp < lev → lev = dp) :
    MetFree l (⟨"com/example/fieldglass/fieldglass/io/Marks", "beginFields", "(IJI)V"⟩ : MethodName) (head1 (Jvm.Cond.code (⟨"com/example/fieldglass/fieldglass/io/Marks", "beginFields", "(IJI)V"⟩ : MethodName) prog_13_method_4_code 5 none :: ws) ({ frames := 1, cells := 0, slots := 0, locals := 14 } : Room)) (fun as_ U_ => as_ = #[(.ref dd), (.int lev), (.long site), (.int (1 : Int32))] ∧ Z.Warmed39 U_.vm ∧ U_.heap = h0) (fun _ _ _ _ _ => True) (fun _ U o U' => ∃ v L, o = .returned v ∧ Q_bf Z dd oo am af ai as_ mg ff fg sg sl dp lev ln site h0 n0 v U'.heap L ∧ FrameEnd U o U' L ({ frames := 1, cells := 0, slots := 0, locals := 14 } : Room).cells ({ frames := 1, cells := 0, slots := 0, locals := 14 } : Room).slots) := by
  refine MetFree.of_bodySF (plainFor_of_name pn_2) hisR ?_
  intro p e s m args below meth c s₁ Bd hml0 hP hK
  obtain ⟨rfl, hZ, hhp_⟩ := hP
  have hx := Bd.exec
  have hby := Bd.bytes
  have hml : c.maxLocals = 5 := hml0
  have hown : s.vm.findClass "com/example/fieldglass/fieldglass/io/Marks" = some m.cls := findClass_of_methodNamed Bd.named
  have hnm := (name_of_methodNamed Bd.named Bd.method).1
  have X0 : Stand p l e ({ frames := 1, cells := 0, slots := 0, locals := 14 } : Room) s m #[(.ref dd), (.int lev), (.long site), (.int (1 : Int32))] below meth c s₁ [] 0 0 := Stand.of_body Bd
  have e0 : s₁.heap = h0 := by rw [← hhp_, Bd.state]; rfl
  have N0 := Fr.nil n0
  have pre0 : ∀ t, Steps p.tables e below (s₁.setTop (mkF m 0 #[.val (.ref dd), .val (.int lev), .val (.long site), .second, .val (.int (1 : Int32))] [])) t → Steps p.tables e below (s₁.setTop (entryFrame m #[(.ref dd), (.int lev), (.long site), (.int (1 : Int32))] 5)) t := fun t k => castTop (ef_bf m dd lev site (1 : Int32)) k
  have K0 : Keep h0 h0 [dd, af, ai] := Keep.refl h0 [dd, af, ai]
  obtain ⟨cq1, q1, q1'⟩ := H0_E.cell
  obtain ⟨_, _, ⟨T1, L1, k1, n1⟩, -, X1, ⟨Lc1, hQ1, l1, y1, z1⟩, st1⟩ := X0.privateBack hx (y := (⟨"com/example/fieldglass/fieldglass/io/Marks", "makeRoomFor", "(I)V"⟩ : MethodName)) hown (mvT hZ (own_w hw 50 rfl)) (mvT hZ (own_w hw 51 rfl)) (own_sel_priv (z := (⟨"com/example/fieldglass/fieldglass/io/Marks", "beginMessage", "(I)V"⟩ : MethodName)) (mvT hZ (own_w hw 48 rfl)) rfl (mvP hZ (own_w hw 52 rfl)) (mvT hZ (own_w hw 51 rfl)) (by decide)) (Cond.privateMethod_at (mvP hZ (own_w hw 52 rfl) (args := #[]))) (mvT hZ (own_w hw 53 rfl)) (by decide) (backOf (W := 0) (rm_mrN l Z a0 hw [] dd am mg lev ln h0 n0 Z0 H1_F H10_G hl) hZ (own_w hw 53 rfl) (own_w hw 3 rfl) (by decide) (by decide)) (g := (mkF m 2 #[.val (.ref dd), .val (.int lev), .val (.long site), .second, .val (.int (1 : Int32))] [(.int lev), (.ref dd)])) rfl (by rw [hml]; rfl) (Steps.refl _) (a := dd) (by rw [e0]; exact q1) q1' (argsL := [(.int lev)]) (rest := []) (lenOf pd_5 rfl) rfl (by show 2 * 0 + _ ≤ _; exact Nat.le_of_eq rfl) (hb hby d12_2) (fun _ _ => ⟨rfl, e0, (by decide : 0 + 0 ≤ _), (by decide : 0 + 0 ≤ _)⟩)
  dsimp only [Pt.U, Pt.locs, Pt.cells, Pt.slots] at X1 l1 y1 z1 st1 hQ1
  subst l1 y1 z1
  obtain ⟨rfl, N1q, hq2⟩ := hQ1
  have N1 := Fr.app N0 N1q
  obtain ⟨T3, X3, e3, st3⟩ := getF X1 hx hZ hown (host := "") (Or.inl (own_w hw 16 rfl)) Via.refl hq2 H2_F (g := (mkF m 6 #[.val (.ref dd), .val (.int lev), .val (.long site), .second, .val (.int (1 : Int32))] [(.ref dd)])) rfl rfl (hb hby d12_6)
  have oc4 := H11_G
  obtain ⟨c4, Arc4, Sc4, Hc4⟩ := oc4
  have hin5 : ¬ (lev < 0 ∨ c4.slots.size ≤ (lev).toNatClampNeg) := (own_ix_in Sc4 hl)
  obtain ⟨T5, h5, X5, e5, W5, st5⟩ := stJ X3 hx hZ e3 Arc4 (j := lev) hin5 (g := (mkF m 11 #[.val (.ref dd), .val (.int lev), .val (.long site), .second, .val (.int (1 : Int32))] [(.long site), (.int lev), (.ref af)])) rfl rfl (hb hby d12_11)
  have V5 : own_Fa Value.long .long Z h5 af 16 (own_up ff ln site) := own_Fa_setk Arc4 Sc4 Hc4 W5 (own_ix_nat hl)
  have E6 := H0_E.wr W5
  have F7 := H1_F.other W5 (Or.inl hn_dd_af)
  have F8 := H2_F.other W5 (Or.inl hn_dd_af)
  have F9 := H3_F.other W5 (Or.inl hn_dd_af)
  have F10 := H4_F.other W5 (Or.inl hn_dd_af)
  have F11 := H5_F.other W5 (Or.inl hn_dd_af)
  have F12 := H6_F.other W5 (Or.inl hn_dd_af)
  have F13 := H7_F.other W5 (Or.inl hn_dd_af)
  have F14 := H8_F.other W5 (Or.inl hn_dd_af)
  have F15 := H9_F.other W5 (Or.inl hn_dd_af)
  have G16 := H10_G.other W5 hn_am_af
  have G17 := H12_G.other W5 (Ne.symm hn_af_ai)
  have G18 := H13_G.other W5 (Ne.symm hn_af_as_)
  have N5 := Fr.snoc X5 N1 hg_af
  have K5 : Keep h0 h5 [dd, af, ai] := K0.wr W5 (Or.inl (List.mem_of_getElem? (i := 1) rfl))
  have Zs19 : n0 ≤ h5.size := (Nat.le_trans Z0 (Keep.of_wr W5).1)
  obtain ⟨T20, X20, e20, st20⟩ := getF X5 hx hZ hown (host := "") (Or.inl (own_w hw 20 rfl)) Via.refl e5 F9 (g := (mkF m 13 #[.val (.ref dd), .val (.int lev), .val (.long site), .second, .val (.int (1 : Int32))] [(.ref dd)])) rfl rfl (hb hby d12_13)
  have oc21 := G17
  obtain ⟨c21, Arc21, Sc21, Hc21⟩ := oc21
  have hin22 : ¬ (lev < 0 ∨ c21.slots.size ≤ (lev).toNatClampNeg) := (own_ix_in Sc21 hl)
  obtain ⟨T22, h22, X22, e22, W22, st22⟩ := stI X20 hx hZ e20 Arc21 (j := lev) hin22 (g := (mkF m 19 #[.val (.ref dd), .val (.int lev), .val (.long site), .second, .val (.int (1 : Int32))] [(.int (1 : Int32)), (.int lev), (.ref ai)])) rfl rfl (hb hby d12_19)
  have V22 : own_Fa Value.int .int Z h22 ai 16 (own_up fg ln (1 : Int32)) := own_Fa_setk Arc21 Sc21 Hc21 W22 (own_ix_nat hl)
  have E23 := E6.wr W22
  have F24 := F7.other W22 (Or.inl hn_dd_ai)
  have F25 := F8.other W22 (Or.inl hn_dd_ai)
  have F26 := F9.other W22 (Or.inl hn_dd_ai)
  have F27 := F10.other W22 (Or.inl hn_dd_ai)
  have F28 := F11.other W22 (Or.inl hn_dd_ai)
  have F29 := F12.other W22 (Or.inl hn_dd_ai)
  have F30 := F13.other W22 (Or.inl hn_dd_ai)
  have F31 := F14.other W22 (Or.inl hn_dd_ai)
  have F32 := F15.other W22 (Or.inl hn_dd_ai)
  have G33 := G16.other W22 hn_am_ai
  have G34 := G18.other W22 (Ne.symm hn_ai_as_)
  have G35 := V5.other W22 hn_af_ai
  have N22 := Fr.snoc X22 N5 hg_ai
  have K22 : Keep h0 h22 [dd, af, ai] := K5.wr W22 (Or.inl (List.mem_of_getElem? (i := 2) rfl))
  have Zs36 : n0 ≤ h22.size := (Nat.le_trans Zs19 (Keep.of_wr W22).1)
  obtain ⟨T37, X37, e37, st37⟩ := getF X22 hx hZ hown (host := "") (Or.inl (own_w hw 24 rfl)) Via.refl e22 F29 (g := (mkF m 22 #[.val (.ref dd), .val (.int lev), .val (.long site), .second, .val (.int (1 : Int32))] [(.ref dd), (.ref dd)])) rfl rfl (hb hby d12_22)
  obtain ⟨_, _, ⟨T38, L38, k38, n38⟩, -, X38, ⟨Lc38, hQ38, l38, y38, z38⟩, st38⟩ := Jvm.LawKit.callS X37 hx (y := (⟨"java/lang/Math", "max", "(II)I"⟩ : MethodName)) hown (mvT hZ (own_w hw 54 rfl)) (mvT hZ (own_w hw 55 rfl)) (mvT hZ (own_w hw 56 rfl)) (mvT hZ (own_w hw 57 rfl)) (by decide) (backOf (W := 1) (rm_mxr l Z a0 hw [] dp lev lev h22 n0 Zs36 (fun _ => rfl) hdp) hZ (own_w hw 57 rfl) (own_w hw 56 rfl) (by decide) (by decide)) (g := (mkF m 26 #[.val (.ref dd), .val (.int lev), .val (.long site), .second, .val (.int (1 : Int32))] [(.int lev), (.int dp), (.ref dd)])) rfl (by rw [hml]; rfl) (argsL := [(.int dp), (.int lev)]) (rest := [(.ref dd)]) (lenOf pd_0 rfl) rfl (by show 2 * 0 + _ ≤ _; exact Nat.le_of_eq rfl) (hb hby d12_26) (fun _ _ => ⟨rfl, e37, (by decide : 0 + 0 ≤ _), (by decide : 0 + 0 ≤ _)⟩)
  dsimp only [Pt.U, Pt.locs, Pt.cells, Pt.slots] at X38 l38 y38 z38 st38 hQ38
  subst l38 y38 z38
  obtain ⟨rfl, N38q, hq39⟩ := hQ38
  have N38 := Fr.app N22 N38q
  obtain ⟨T40, h40, X40, e40, W40, st40⟩ := putF X38 hx hZ hown (host := "") (Or.inl (own_w hw 24 rfl)) Via.refl hq39 F29 E23 (Or.inl (own_w hw 25 rfl)) (own_w hw 2 rfl) (ty := .int) (by decide) rfl rfl (g := (mkF m 29 #[.val (.ref dd), .val (.int lev), .val (.long site), .second, .val (.int (1 : Int32))] [(.int lev), (.ref dd)])) rfl rfl (hb hby d12_29)
  have Fw40 : Fld Z h40 dd "com/example/fieldglass/fieldglass/io/Marks" "deepestFields" "I" (.int lev) := F29.same W40
  have E41 := E23.wr W40
  have F42 := F24.other W40 (Or.inr (slot_ne (Or.inl (own_w hw 13 rfl)) (Or.inl (own_w hw 25 rfl)) (by decide) (t := (.array .boolean)) (t' := .int) (by decide) (by decide)))
  have F43 := F25.other W40 (Or.inr (slot_ne (Or.inl (own_w hw 17 rfl)) (Or.inl (own_w hw 25 rfl)) (by decide) (t := (.array .long)) (t' := .int) (by decide) (by decide)))
  have F44 := F26.other W40 (Or.inr (slot_ne (Or.inl (own_w hw 21 rfl)) (Or.inl (own_w hw 25 rfl)) (by decide) (t := (.array .int)) (t' := .int) (by decide) (by decide)))
  have F45 := F27.other W40 (Or.inr (slot_ne (Or.inl (own_w hw 23 rfl)) (Or.inl (own_w hw 25 rfl)) (by decide) (t := (.array .long)) (t' := .int) (by decide) (by decide)))
  have F46 := F28.other W40 (Or.inr (slot_ne (Or.inl (own_w hw 84 rfl)) (Or.inl (own_w hw 25 rfl)) (by decide) (t := .int) (t' := .int) (by decide) (by decide)))
  have F47 := F30.other W40 (Or.inr (slot_ne (Or.inl (own_w hw 27 rfl)) (Or.inl (own_w hw 25 rfl)) (by decide) (t := .boolean) (t' := .int) (by decide) (by decide)))
  have F48 := F31.other W40 (Or.inr (slot_ne (Or.inr (own_w hw 41 rfl)) (Or.inl (own_w hw 25 rfl)) (by decide) (t := (.object "com/example/fieldglass/fieldglass/io/Marks$Order")) (t' := .int) (by decide) (by decide)))
  have F49 := F32.other W40 (Or.inr (slot_ne (Or.inl (own_w hw 44 rfl)) (Or.inl (own_w hw 25 rfl)) (by decide) (t := .long) (t' := .int) (by decide) (by decide)))
  have G50 := G33.other W40 (Ne.symm hn_dd_am)
  have G51 := G34.other W40 (Ne.symm hn_dd_as_)
  have G52 := G35.other W40 (Ne.symm hn_dd_af)
  have G53 := V22.other W40 (Ne.symm hn_dd_ai)
  have N40 := Fr.snoc X40 N38 hg_dd
  have K40 : Keep h0 h40 [dd, af, ai] := K22.wr W40 (Or.inl (List.mem_of_getElem? (i := 0) rfl))
  have Zs54 : n0 ≤ h40.size := (Nat.le_trans Zs36 (Keep.of_wr W40).1)
  have pre55 := fun (t : State) (k : Steps p.tables e below (T40.setTop (mkF m 32 #[.val (.ref dd), .val (.int lev), .val (.long site), .second, .val (.int (1 : Int32))] [])) t) => pre0 t (by
    refine XS.aloadN X0.here hx rfl (hb hby d12_0) rfl rfl ?_
    refine XS.iloadN X0.here hx rfl (hb hby d12_1) rfl ?_
    refine st1.trans ?_
    refine XS.aloadN X1.here hx rfl (hb hby d12_5) rfl rfl ?_
    refine st3 _ ?_
    refine XS.iloadN X3.here hx rfl (hb hby d12_9) rfl ?_
    refine XS.lloadN X3.here hx rfl (hb hby d12_10) rfl ?_
    refine st5 _ ?_
    refine XS.aloadN X5.here hx rfl (hb hby d12_12) rfl rfl ?_
    refine st20 _ ?_
    refine XS.iloadN X20.here hx rfl (hb hby d12_16) rfl ?_
    refine XS.iload X20.here hx rfl (hb hby d12_17) rfl ?_
    refine st22 _ ?_
    refine XS.aloadN X22.here hx rfl (hb hby d12_20) rfl rfl ?_
    refine XS.aloadN X22.here hx rfl (hb hby d12_21) rfl rfl ?_
    refine st37 _ ?_
    refine XS.iloadN X37.here hx rfl (hb hby d12_25) rfl ?_
    refine st38 _ ?_
    refine st40 _ ?_
    exact k)
  obtain ⟨fs, hr, hrun, hended, hW, hsame⟩ := X40.leave (v := none) (hlocks := BodyLoose.notSynchronized Bd) (fun _ => rfl)
  refine ⟨_, _, pre55 _ ?_, hrun, hended, _, _, rfl, ?_, ⟨_, rfl⟩, hW, hsame.mono (by decide) (by decide)⟩
  · exact X40.returnOut hx Bd.returns (hb hby d12_32) hr
  · show Q_bf Z dd oo am af ai as_ mg ff fg sg sl dp lev ln site h0 n0 _ T40.heap _
    rw [e40]
    exact ⟨rfl, N40, K40, E41, F42, F43, F44, F45, F46, Fw40, F47, F48, F49, G50, G52, G53, G51⟩

theorem ef_em0 (m : MethodId) (x0 : Addr) (x1 : Int32) : entryFrame m #[(.ref x0), (.int x1)] 2 = mkF m 0 #[.val (.ref x0), .val (.int x1)] [] := by first | (simp [entryFrame, mkF, argsToLocals, Value.category]; done) | rfl
def Q_em0 (Z : State) (dd : Addr) (oo : Addr) (am : Addr) (af : Addr) (ai : Addr) (as_ : Addr) (mg : Nat → Int32) (ff : Nat → Int64) (fg : Nat → Int32) (sg : Nat → Int64) (sl : Int32) (slr : Int32) (dp : Int32) (lev : Int32) (ln : Nat) (h0 : Heap) (n0 : Nat) (v : Option Value) (h : Heap) (L : List Loc) : Prop := v = none ∧ Fr n0 L ∧ Keep h0 h [dd, am] ∧ Exa Z h dd "com/example/fieldglass/fieldglass/io/Marks" ∧ Fld Z h dd "com/example/fieldglass/fieldglass/io/Marks" "messages" "[Z" (.ref am) ∧ Fld Z h dd "com/example/fieldglass/fieldglass/io/Marks" "firstFieldSites" "[J" (.ref af) ∧ Fld Z h dd "com/example/fieldglass/fieldglass/io/Marks" "fieldSites" "[I" (.ref ai) ∧ Fld Z h dd "com/example/fieldglass/fieldglass/io/Marks" "slots" "[J" (.ref as_) ∧ Fld Z h dd "com/example/fieldglass/fieldglass/io/Marks" "slotted" "I" (.int slr) ∧ Fld Z h dd "com/example/fieldglass/fieldglass/io/Marks" "deepestFields" "I" (.int dp) ∧ Fld Z h dd "com/example/fieldglass/fieldglass/io/Marks" "marking" "Z" (.int (1 : Int32)) ∧ Fld Z h dd "com/example/fieldglass/fieldglass/io/Marks" "order" "Lcom/example/fieldglass/fieldglass/io/Marks$Order;" (.ref oo) ∧ Fld Z h dd "com/example/fieldglass/fieldglass/io/Marks" "next" "J" (.long (9223372036854775807 : Int64)) ∧ own_Fa Value.int .boolean Z h am 16 (own_up mg ln (0 : Int32)) ∧ own_Fa Value.long .long Z h af 16 ff ∧ own_Fa Value.int .int Z h ai 16 fg ∧ own_Fa Value.long .long Z h as_ 16 sg
set_option maxRecDepth 65536 in
set_option maxHeartbeats 40000000 in
theorem rm_em0 (l : Launch) (Z : State) (a0 : Array Value) (hw : ∀ d ∈ tables_1, d.before a0 Z = true) (ws : List Jvm.Cond) (dd : Addr) (oo : Addr) (am : Addr) (af : Addr) (ai : Addr) (as_ : Addr) (mg : Nat → Int32) (ff : Nat → Int64) (fg : Nat → Int32) (sg : Nat → Int64) (sl : Int32) (slr : Int32) (dp : Int32) (lev : Int32) (ln : Nat) (h0 : Heap) (n0 : Nat) (Z0 : n0 ≤ h0.size) (H0_E : Exa Z h0 dd "com/example/fieldglass/fieldglass/io/Marks") (H1_F : Fld Z h0 dd "com/example/fieldglass/fieldglass/io/Marks" "messages" "[Z" (.ref am)) (H2_F : Fld Z h0 dd "com/example/fieldglass/fieldglass/io/Marks" "firstFieldSites" "[J" (.ref af)) (H3_F : Fld Z h0 dd "com/example/fieldglass/fieldglass/io/Marks" "fieldSites" "[I" (.ref ai)) (H4_F : Fld Z h0 dd "com/example/fieldglass/fieldglass/io/Marks" "slots" "[J" (.ref as_)) (H5_F : Fld Z h0 dd "com/example/fieldglass/fieldglass/io/Marks" "slotted" "I" (.int sl)) (H6_F : Fld Z h0 dd "com/example/fieldglass/fieldglass/io/Marks" "deepestFields" "I" (.int dp)) (H7_F : Fld Z h0 dd "com/example/fieldglass/fieldglass/io/Marks" "marking" "Z" (.int (1 : Int32))) (H8_F : Fld Z h0 dd "com/example/fieldglass/fieldglass/io/Marks" "order" "Lcom/example/fieldglass/fieldglass/io/Marks$Order;" (.ref oo)) (H9_F : Fld Z h0 dd "com/example/fieldglass/fieldglass/io/Marks" "next" "J" (.long (9223372036854775807 : Int64))) (H10_G : own_Fa Value.int .boolean Z h0 am 16 mg) (H11_G : own_Fa Value.long .long Z h0 af 16 ff) (H12_G : own_Fa Value.int .int Z h0 ai 16 fg) (H13_G : own_Fa Value.long .long Z h0 as_ 16 sg) (hn_dd_oo : dd ≠ oo) (hn_dd_am : dd ≠ am) (hn_dd_af : dd ≠ af) (hn_dd_ai : dd ≠ ai) (hn_dd_as_ : dd ≠ as_) (hn_oo_am : oo ≠ am) (hn_oo_af : oo ≠ af) (hn_oo_ai : oo ≠ ai) (hn_oo_as_ : oo ≠ as_) (hn_am_af : am ≠ af) (hn_am_ai : am ≠ ai) (hn_am_as_ : am ≠ as_) (hn_af_ai : af ≠ ai) (hn_af_as_ : af ≠ as_) (hn_ai_as_ : ai ≠ as_) (hg_dd : n0 ≤ dd) (hg_am : n0 ≤ am) (hl : own_ix lev ln) (hd0 : ¬ (lev < dp)) (hs0 : lev < sl → slr = lev) (hs1 : ¬ lev < sl → slr = sl) :
    MetFree l (⟨"com/example/fieldglass/fieldglass/io/Marks", "endMessage", "(I)V"⟩ : MethodName) (head1 (Jvm.Cond.code (⟨"com/example/fieldglass/fieldglass/io/Marks", "endMessage", "(I)V"⟩ : MethodName) prog_13_method_3_code 2 none :: ws) ({ frames := 1, cells := 0, slots := 0, locals := 14 } : Room)) (fun as_ U_ => as_ = #[(.ref dd), (.int lev)] ∧ Z.Warmed39 U_.vm ∧ U_.heap = h0) (fun _ _ _ _ _ => True) (fun _ U o U' => ∃ v L, o = .returned v ∧ Q_em0 Z dd oo am af ai as_ mg ff fg sg sl slr dp lev ln h0 n0 v U'.heap L ∧ FrameEnd U o U' L ({ frames := 1, cells := 0, slots := 0, locals := 14 } : Room).cells ({ frames := 1, cells := 0, slots := 0, locals := 14 } : Room).slots) := by
  refine MetFree.of_bodySF (plainFor_of_name pn_2) hisR ?_
  intro p e s m args below meth c s₁ Bd hml0 hP hK
  obtain ⟨rfl, hZ, hhp_⟩ := hP
  have hx := Bd.exec
  have hby := Bd.bytes
  have hml : c.maxLocals = 2 := hml0
  have hown : s.vm.findClass "com/example/fieldglass/fieldglass/io/Marks" = some m.cls := findClass_of_methodNamed Bd.named
  have hnm := (name_of_methodNamed Bd.named Bd.method).1
  have X0 : Stand p l e ({ frames := 1, cells := 0, slots := 0, locals := 14 } : Room) s m #[(.ref dd), (.int lev)] below meth c s₁ [] 0 0 := Stand.of_body Bd
  have e0 : s₁.heap = h0 := by rw [← hhp_, Bd.state]; rfl
  have N0 := Fr.nil n0
  have pre0 : ∀ t, Steps p.tables e below (s₁.setTop (mkF m 0 #[.val (.ref dd), .val (.int lev)] [])) t → Steps p.tables e below (s₁.setTop (entryFrame m #[(.ref dd), (.int lev)] 2)) t := fun t k => castTop (ef_em0 m dd lev) k
  have K0 : Keep h0 h0 [dd, am] := Keep.refl h0 [dd, am]
  obtain ⟨T1, X1, e1, st1⟩ := getF X0 hx hZ hown (host := "") (Or.inl (own_w hw 12 rfl)) Via.refl e0 H1_F (g := (mkF m 1 #[.val (.ref dd), .val (.int lev)] [(.ref dd)])) rfl rfl (hb hby d11_1)
  have oc2 := H10_G
  obtain ⟨c2, Arc2, Sc2, Hc2⟩ := oc2
  have hin3 : ¬ (lev < 0 ∨ c2.slots.size ≤ (lev).toNatClampNeg) := (own_ix_in Sc2 hl)
  obtain ⟨T3, h3, X3, e3, W3, st3⟩ := stZ X1 hx hZ e1 Arc2 (j := lev) hin3 (g := (mkF m 6 #[.val (.ref dd), .val (.int lev)] [(.int (0 : Int32)), (.int lev), (.ref am)])) rfl rfl (hb hby d11_6)
  have V3 : own_Fa Value.int .boolean Z h3 am 16 (own_up mg ln (0 : Int32)) := own_Fa_setk Arc2 Sc2 Hc2 W3 (own_ix_nat hl)
  have E4 := H0_E.wr W3
  have F5 := H1_F.other W3 (Or.inl hn_dd_am)
  have F6 := H2_F.other W3 (Or.inl hn_dd_am)
  have F7 := H3_F.other W3 (Or.inl hn_dd_am)
  have F8 := H4_F.other W3 (Or.inl hn_dd_am)
  have F9 := H5_F.other W3 (Or.inl hn_dd_am)
  have F10 := H6_F.other W3 (Or.inl hn_dd_am)
  have F11 := H7_F.other W3 (Or.inl hn_dd_am)
  have F12 := H8_F.other W3 (Or.inl hn_dd_am)
  have F13 := H9_F.other W3 (Or.inl hn_dd_am)
  have G14 := H11_G.other W3 (Ne.symm hn_am_af)
  have G15 := H12_G.other W3 (Ne.symm hn_am_ai)
  have G16 := H13_G.other W3 (Ne.symm hn_am_as_)
  have N3 := Fr.snoc X3 N0 hg_am
  have K3 : Keep h0 h3 [dd, am] := K0.wr W3 (Or.inl (List.mem_of_getElem? (i := 1) rfl))
  have Zs17 : n0 ≤ h3.size := (Nat.le_trans Z0 (Keep.of_wr W3).1)
  obtain ⟨T18, X18, e18, st18⟩ := getF X3 hx hZ hown (host := "") (Or.inl (own_w hw 83 rfl)) Via.refl e3 F9 (g := (mkF m 9 #[.val (.ref dd), .val (.int lev)] [(.ref dd), (.ref dd)])) rfl rfl (hb hby d11_9)
  obtain ⟨_, _, ⟨T19, L19, k19, n19⟩, -, X19, ⟨Lc19, hQ19, l19, y19, z19⟩, st19⟩ := Jvm.LawKit.callS X18 hx (y := (⟨"java/lang/Math", "min", "(II)I"⟩ : MethodName)) hown (mvT hZ (own_w hw 85 rfl)) (mvT hZ (own_w hw 64 rfl)) (mvT hZ (own_w hw 56 rfl)) (mvT hZ (own_w hw 65 rfl)) (by decide) (backOf (W := 1) (rm_mir l Z a0 hw [] sl lev slr h3 n0 Zs17 hs0 hs1) hZ (own_w hw 65 rfl) (own_w hw 56 rfl) (by decide) (by decide)) (g := (mkF m 13 #[.val (.ref dd), .val (.int lev)] [(.int lev), (.int sl), (.ref dd)])) rfl (by rw [hml]; rfl) (argsL := [(.int sl), (.int lev)]) (rest := [(.ref dd)]) (lenOf pd_0 rfl) rfl (by show 2 * 0 + _ ≤ _; exact Nat.le_of_eq rfl) (hb hby d11_13) (fun _ _ => ⟨rfl, e18, (by decide : 0 + 0 ≤ _), (by decide : 0 + 0 ≤ _)⟩)
  dsimp only [Pt.U, Pt.locs, Pt.cells, Pt.slots] at X19 l19 y19 z19 st19 hQ19
  subst l19 y19 z19
  obtain ⟨rfl, N19q, hq20⟩ := hQ19
  have N19 := Fr.app N3 N19q
  obtain ⟨T21, h21, X21, e21, W21, st21⟩ := putF X19 hx hZ hown (host := "") (Or.inl (own_w hw 83 rfl)) Via.refl hq20 F9 E4 (Or.inl (own_w hw 84 rfl)) (own_w hw 2 rfl) (ty := .int) (by decide) rfl rfl (g := (mkF m 16 #[.val (.ref dd), .val (.int lev)] [(.int slr), (.ref dd)])) rfl rfl (hb hby d11_16)
  have Fw21 : Fld Z h21 dd "com/example/fieldglass/fieldglass/io/Marks" "slotted" "I" (.int slr) := F9.same W21
  have E22 := E4.wr W21
  have F23 := F5.other W21 (Or.inr (slot_ne (Or.inl (own_w hw 13 rfl)) (Or.inl (own_w hw 84 rfl)) (by decide) (t := (.array .boolean)) (t' := .int) (by decide) (by decide)))
  have F24 := F6.other W21 (Or.inr (slot_ne (Or.inl (own_w hw 17 rfl)) (Or.inl (own_w hw 84 rfl)) (by decide) (t := (.array .long)) (t' := .int) (by decide) (by decide)))
  have F25 := F7.other W21 (Or.inr (slot_ne (Or.inl (own_w hw 21 rfl)) (Or.inl (own_w hw 84 rfl)) (by decide) (t := (.array .int)) (t' := .int) (by decide) (by decide)))
  have F26 := F8.other W21 (Or.inr (slot_ne (Or.inl (own_w hw 23 rfl)) (Or.inl (own_w hw 84 rfl)) (by decide) (t := (.array .long)) (t' := .int) (by decide) (by decide)))
  have F27 := F10.other W21 (Or.inr (slot_ne (Or.inl (own_w hw 25 rfl)) (Or.inl (own_w hw 84 rfl)) (by decide) (t := .int) (t' := .int) (by decide) (by decide)))
  have F28 := F11.other W21 (Or.inr (slot_ne (Or.inl (own_w hw 27 rfl)) (Or.inl (own_w hw 84 rfl)) (by decide) (t := .boolean) (t' := .int) (by decide) (by decide)))
  have F29 := F12.other W21 (Or.inr (slot_ne (Or.inr (own_w hw 41 rfl)) (Or.inl (own_w hw 84 rfl)) (by decide) (t := (.object "com/example/fieldglass/fieldglass/io/Marks$Order")) (t' := .int) (by decide) (by decide)))
  have F30 := F13.other W21 (Or.inr (slot_ne (Or.inl (own_w hw 44 rfl)) (Or.inl (own_w hw 84 rfl)) (by decide) (t := .long) (t' := .int) (by decide) (by decide)))
  have G31 := G14.other W21 (Ne.symm hn_dd_af)
  have G32 := G15.other W21 (Ne.symm hn_dd_ai)
  have G33 := G16.other W21 (Ne.symm hn_dd_as_)
  have G34 := V3.other W21 (Ne.symm hn_dd_am)
  have N21 := Fr.snoc X21 N19 hg_dd
  have K21 : Keep h0 h21 [dd, am] := K3.wr W21 (Or.inl (List.mem_of_getElem? (i := 0) rfl))
  have Zs35 : n0 ≤ h21.size := (Nat.le_trans Zs17 (Keep.of_wr W21).1)
  obtain ⟨T36, X36, e36, st36⟩ := getF X21 hx hZ hown (host := "") (Or.inl (own_w hw 24 rfl)) Via.refl e21 F27 (g := (mkF m 20 #[.val (.ref dd), .val (.int lev)] [(.ref dd)])) rfl rfl (hb hby d11_20)
  have pre37 := fun (t : State) (k : Steps p.tables e below (T36.setTop (mkF m 50 #[.val (.ref dd), .val (.int lev)] [])) t) => pre0 t (by
    refine XS.aloadN X0.here hx rfl (hb hby d11_0) rfl rfl ?_
    refine st1 _ ?_
    refine XS.iloadN X1.here hx rfl (hb hby d11_4) rfl ?_
    refine XS.iconst X1.here hx rfl (hb hby d11_5) ?_
    refine st3 _ ?_
    refine XS.aloadN X3.here hx rfl (hb hby d11_7) rfl rfl ?_
    refine XS.aloadN X3.here hx rfl (hb hby d11_8) rfl rfl ?_
    refine st18 _ ?_
    refine XS.iloadN X18.here hx rfl (hb hby d11_12) rfl ?_
    refine st19 _ ?_
    refine st21 _ ?_
    refine XS.aloadN X21.here hx rfl (hb hby d11_19) rfl rfl ?_
    refine st36 _ ?_
    refine XS.iloadN X36.here hx rfl (hb hby d11_23) rfl ?_
    refine XS.icmpYes X36.here hx rfl (pc0 := 24) (pc' := 50) rfl (hb hby d11_24) rfl (flt hd0).2.2.2 (by decide) (by decide) ?_
    exact k)
  obtain ⟨fs, hr, hrun, hended, hW, hsame⟩ := X36.leave (v := none) (hlocks := BodyLoose.notSynchronized Bd) (fun _ => rfl)
  refine ⟨_, _, pre37 _ ?_, hrun, hended, _, _, rfl, ?_, ⟨_, rfl⟩, hW, hsame.mono (by decide) (by decide)⟩
  · exact X36.returnOut hx Bd.returns (hb hby d11_50) hr
  · show Q_em0 Z dd oo am af ai as_ mg ff fg sg sl slr dp lev ln h0 n0 _ T36.heap _
    rw [e36]
    exact ⟨rfl, N21, K21, E22, F23, F24, F25, F26, Fw21, F27, F28, F29, F30, G34, G31, G32, G33⟩

theorem ef_em1 (m : MethodId) (x0 : Addr) (x1 : Int32) : entryFrame m #[(.ref x0), (.int x1)] 2 = mkF m 0 #[.val (.ref x0), .val (.int x1)] [] := by first | (simp [entryFrame, mkF, argsToLocals, Value.category]; done) | rfl
def Q_em1 (Z : State) (dd : Addr) (oo : Addr) (am : Addr) (af : Addr) (ai : Addr) (as_ : Addr) (mg : Nat → Int32) (ff : Nat → Int64) (fg : Nat → Int32) (sg : Nat → Int64) (sl : Int32) (slr : Int32) (dp : Int32) (lev : Int32) (ln : Nat) (h0 : Heap) (n0 : Nat) (v : Option Value) (h : Heap) (L : List Loc) : Prop := v = none ∧ Fr n0 L ∧ Keep h0 h [dd, am, ai] ∧ Exa Z h dd "com/example/fieldglass/fieldglass/io/Marks" ∧ Fld Z h dd "com/example/fieldglass/fieldglass/io/Marks" "messages" "[Z" (.ref am) ∧ Fld Z h dd "com/example/fieldglass/fieldglass/io/Marks" "firstFieldSites" "[J" (.ref af) ∧ Fld Z h dd "com/example/fieldglass/fieldglass/io/Marks" "fieldSites" "[I" (.ref ai) ∧ Fld Z h dd "com/example/fieldglass/fieldglass/io/Marks" "slots" "[J" (.ref as_) ∧ Fld Z h dd "com/example/fieldglass/fieldglass/io/Marks" "slotted" "I" (.int slr) ∧ Fld Z h dd "com/example/fieldglass/fieldglass/io/Marks" "deepestFields" "I" (.int (dp - (1 : Int32))) ∧ Fld Z h dd "com/example/fieldglass/fieldglass/io/Marks" "marking" "Z" (.int (1 : Int32)) ∧ Fld Z h dd "com/example/fieldglass/fieldglass/io/Marks" "order" "Lcom/example/fieldglass/fieldglass/io/Marks$Order;" (.ref oo) ∧ Fld Z h dd "com/example/fieldglass/fieldglass/io/Marks" "next" "J" (.long (9223372036854775807 : Int64)) ∧ own_Fa Value.int .boolean Z h am 16 (own_up mg ln (0 : Int32)) ∧ own_Fa Value.long .long Z h af 16 ff ∧ own_Fa Value.int .int Z h ai 16 (own_up fg (ln + 1) (0 : Int32)) ∧ own_Fa Value.long .long Z h as_ 16 sg
set_option maxRecDepth 65536 in
set_option maxHeartbeats 40000000 in
theorem rm_em1 (l : Launch) (Z : State) (a0 : Array Value) (hw : ∀ d ∈ tables_1, d.before a0 Z = true) (ws : List Jvm.Cond) (dd : Addr) (oo : Addr) (am : Addr) (af : Addr) (ai : Addr) (as_ : Addr) (mg : Nat → Int32) (ff : Nat → Int64) (fg : Nat → Int32) (sg : Nat → Int64) (sl : Int32) (slr : Int32) (dp : Int32) (lev : Int32) (ln : Nat) (h0 : Heap) (n0 : Nat) (Z0 : n0 ≤ h0.size) (H0_E : Exa Z h0 dd "com/example/fieldglass/fieldglass/io/Marks") (H1_F : Fld Z h0 dd "com/example/fieldglass/fieldglass/io/Marks" "messages" "[Z" (.ref am)) (H2_F : Fld Z h0 dd "com/example/fieldglass/fieldglass/io/Marks" "firstFieldSites" "[J" (.ref af)) (H3_F : Fld Z h0 dd "com/example/fieldglass/fieldglass/io/Marks" "fieldSites" "[I" (.ref ai)) (H4_F : Fld Z h0 dd "com/example/fieldglass/fieldglass/io/Marks" "slots" "[J" (.ref as_)) (H5_F : Fld Z h0 dd "com/example/fieldglass/fieldglass/io/Marks" "slotted" "I" (.int sl)) (H6_F : Fld Z h0 dd "com/example/fieldglass/fieldglass/io/Marks" "deepestFields" "I" (.int dp)) (H7_F : Fld Z h0 dd "com/example/fieldglass/fieldglass/io/Marks" "marking" "Z" (.int (1 : Int32))) (H8_F : Fld Z h0 dd "com/example/fieldglass/fieldglass/io/Marks" "order" "Lcom/example/fieldglass/fieldglass/io/Marks$Order;" (.ref oo)) (H9_F : Fld Z h0 dd "com/example/fieldglass/fieldglass/io/Marks" "next" "J" (.long (9223372036854775807 : Int64))) (H10_G : own_Fa Value.int .boolean Z h0 am 16 mg) (H11_G : own_Fa Value.long .long Z h0 af 16 ff) (H12_G : own_Fa Value.int .int Z h0 ai 16 fg) (H13_G : own_Fa Value.long .long Z h0 as_ 16 sg) (hn_dd_oo : dd ≠ oo) (hn_dd_am : dd ≠ am) (hn_dd_af : dd ≠ af) (hn_dd_ai : dd ≠ ai) (hn_dd_as_ : dd ≠ as_) (hn_oo_am : oo ≠ am) (hn_oo_af : oo ≠ af) (hn_oo_ai : oo ≠ ai) (hn_oo_as_ : oo ≠ as_) (hn_am_af : am ≠ af) (hn_am_ai : am ≠ ai) (hn_am_as_ : am ≠ as_) (hn_af_ai : af ≠ ai) (hn_af_as_ : af ≠ as_) (hn_ai_as_ : ai ≠ as_) (hg_dd : n0 ≤ dd) (hg_am : n0 ≤ am) (hg_ai : n0 ≤ ai) (hl : own_ix lev ln) (hd1 : own_ix dp (ln + 1)) (hs0 : lev < sl → slr = lev) (hs1 : ¬ lev < sl → slr = sl) :
    MetFree l (⟨"com/example/fieldglass/fieldglass/io/Marks", "endMessage", "(I)V"⟩ : MethodName) (head1 (Jvm.Cond.code (⟨"com/example/fieldglass/fieldglass/io/Marks", "endMessage", "(I)V"⟩ : MethodName) prog_13_method_3_code 2 none :: ws) ({ frames := 1, cells := 0, slots := 0, locals := 14 } : Room)) (fun as_ U_ => as_ = #[(.ref dd), (.int lev)] ∧ Z.Warmed39 U_.vm ∧ U_.heap = h0) (fun _ _ _ _ _ => True) (fun _ U o U' => ∃ v L, o = .returned v ∧ Q_em1 Z dd oo am af ai as_ mg ff fg sg sl slr dp lev ln h0 n0 v U'.heap L ∧ FrameEnd U o U' L ({ frames := 1, cells := 0, slots := 0, locals := 14 } : Room).cells ({ frames := 1, cells := 0, slots := 0, locals := 14 } : Room).slots) := by
  refine MetFree.of_bodySF (plainFor_of_name pn_2) hisR ?_
  intro p e s m args below meth c s₁ Bd hml0 hP hK
  obtain ⟨rfl, hZ, hhp_⟩ := hP
  have hx := Bd.exec
  have hby := Bd.bytes
  have hml : c.maxLocals = 2 := hml0
  have hown : s.vm.findClass "com/example/fieldglass/fieldglass/io/Marks" = some m.cls := findClass_of_methodNamed Bd.named
  have hnm := (name_of_methodNamed Bd.named Bd.method).1
  have X0 : Stand p l e ({ frames := 1, cells := 0, slots := 0, locals := 14 } : Room) s m #[(.ref dd), (.int lev)] below meth c s₁ [] 0 0 := Stand.of_body Bd
  have e0 : s₁.heap = h0 := by rw [← hhp_, Bd.state]; rfl
  have N0 := Fr.nil n0
  have pre0 : ∀ t, Steps p.tables e below (s₁.setTop (mkF m 0 #[.val (.ref dd), .val (.int lev)] [])) t → Steps p.tables e below (s₁.setTop (entryFrame m #[(.ref dd), (.int lev)] 2)) t := fun t k => castTop (ef_em1 m dd lev) k
  have K0 : Keep h0 h0 [dd, am, ai] := Keep.refl h0 [dd, am, ai]
  obtain ⟨T1, X1, e1, st1⟩ := getF X0 hx hZ hown (host := "") (Or.inl (own_w hw 12 rfl)) Via.refl e0 H1_F (g := (mkF m 1 #[.val (.ref dd), .val (.int lev)] [(.ref dd)])) rfl rfl (hb hby d11_1)
  have oc2 := H10_G
  obtain ⟨c2, Arc2, Sc2, Hc2⟩ := oc2
  have hin3 : ¬ (lev < 0 ∨ c2.slots.size ≤ (lev).toNatClampNeg) := (own_ix_in Sc2 hl)
  obtain ⟨T3, h3, X3, e3, W3, st3⟩ := stZ X1 hx hZ e1 Arc2 (j := lev) hin3 (g := (mkF m 6 #[.val (.ref dd), .val (.int lev)] [(.int (0 : Int32)), (.int lev), (.ref am)])) rfl rfl (hb hby d11_6)
  have V3 : own_Fa Value.int .boolean Z h3 am 16 (own_up mg ln (0 : Int32)) := own_Fa_setk Arc2 Sc2 Hc2 W3 (own_ix_nat hl)
  have E4 := H0_E.wr W3
  have F5 := H1_F.other W3 (Or.inl hn_dd_am)
  have F6 := H2_F.other W3 (Or.inl hn_dd_am)
  have F7 := H3_F.other W3 (Or.inl hn_dd_am)
  have F8 := H4_F.other W3 (Or.inl hn_dd_am)
  have F9 := H5_F.other W3 (Or.inl hn_dd_am)
  have F10 := H6_F.other W3 (Or.inl hn_dd_am)
  have F11 := H7_F.other W3 (Or.inl hn_dd_am)
  have F12 := H8_F.other W3 (Or.inl hn_dd_am)
  have F13 := H9_F.other W3 (Or.inl hn_dd_am)
  have G14 := H11_G.other W3 (Ne.symm hn_am_af)
  have G15 := H12_G.other W3 (Ne.symm hn_am_ai)
  have G16 := H13_G.other W3 (Ne.symm hn_am_as_)
  have N3 := Fr.snoc X3 N0 hg_am
  have K3 : Keep h0 h3 [dd, am, ai] := K0.wr W3 (Or.inl (List.mem_of_getElem? (i := 1) rfl))
  have Zs17 : n0 ≤ h3.size := (Nat.le_trans Z0 (Keep.of_wr W3).1)
  obtain ⟨T18, X18, e18, st18⟩ := getF X3 hx hZ hown (host := "") (Or.inl (own_w hw 83 rfl)) Via.refl e3 F9 (g := (mkF m 9 #[.val (.ref dd), .val (.int lev)] [(.ref dd), (.ref dd)])) rfl rfl (hb hby d11_9)
  obtain ⟨_, _, ⟨T19, L19, k19, n19⟩, -, X19, ⟨Lc19, hQ19, l19, y19, z19⟩, st19⟩ := Jvm.LawKit.callS X18 hx (y := (⟨"java/lang/Math", "min", "(II)I"⟩ : MethodName)) hown (mvT hZ (own_w hw 85 rfl)) (mvT hZ (own_w hw 64 rfl)) (mvT hZ (own_w hw 56 rfl)) (mvT hZ (own_w hw 65 rfl)) (by decide) (backOf (W := 1) (rm_mir l Z a0 hw [] sl lev slr h3 n0 Zs17 hs0 hs1) hZ (own_w hw 65 rfl) (own_w hw 56 rfl) (by decide) (by decide)) (g := (mkF m 13 #[.val (.ref dd), .val (.int lev)] [(.int lev), (.int sl), (.ref dd)])) rfl (by rw [hml]; rfl) (argsL := [(.int sl), (.int lev)]) (rest := [(.ref dd)]) (lenOf pd_0 rfl) rfl (by show 2 * 0 + _ ≤ _; exact Nat.le_of_eq rfl) (hb hby d11_13) (fun _ _ => ⟨rfl, e18, (by decide : 0 + 0 ≤ _), (by decide : 0 + 0 ≤ _)⟩)
  dsimp only [Pt.U, Pt.locs, Pt.cells, Pt.slots] at X19 l19 y19 z19 st19 hQ19
  subst l19 y19 z19
  obtain ⟨rfl, N19q, hq20⟩ := hQ19
  have N19 := Fr.app N3 N19q
  obtain ⟨T21, h21, X21, e21, W21, st21⟩ := putF X19 hx hZ hown (host := "") (Or.inl (own_w hw 83 rfl)) Via.refl hq20 F9 E4 (Or.inl (own_w hw 84 rfl)) (own_w hw 2 rfl) (ty := .int) (by decide) rfl rfl (g := (mkF m 16 #[.val (.ref dd), .val (.int lev)] [(.int slr), (.ref dd)])) rfl rfl (hb hby d11_16)
  have Fw21 : Fld Z h21 dd "com/example/fieldglass/fieldglass/io/Marks" "slotted" "I" (.int slr) := F9.same W21
  have E22 := E4.wr W21
  have F23 := F5.other W21 (Or.inr (slot_ne (Or.inl (own_w hw 13 rfl)) (Or.inl (own_w hw 84 rfl)) (by decide) (t := (.array .boolean)) (t' := .int) (by decide) (by decide)))
  have F24 := F6.other W21 (Or.inr (slot_ne (Or.inl (own_w hw 17 rfl)) (Or.inl (own_w hw 84 rfl)) (by decide) (t := (.array .long)) (t' := .int) (by decide) (by decide)))
  have F25 := F7.other W21 (Or.inr (slot_ne (Or.inl (own_w hw 21 rfl)) (Or.inl (own_w hw 84 rfl)) (by decide) (t := (.array .int)) (t' := .int) (by decide) (by decide)))
  have F26 := F8.other W21 (Or.inr (slot_ne (Or.inl (own_w hw 23 rfl)) (Or.inl (own_w hw 84 rfl)) (by decide) (t := (.array .long)) (t' := .int) (by decide) (by decide)))
  have F27 := F10.other W21 (Or.inr (slot_ne (Or.inl (own_w hw 25 rfl)) (Or.inl (own_w hw 84 rfl)) (by decide) (t := .int) (t' := .int) (by decide) (by decide)))
  have F28 := F11.other W21 (Or.inr (slot_ne (Or.inl (own_w hw 27 rfl)) (Or.inl (own_w hw 84 rfl)) (by decide) (t := .boolean) (t' := .int) (by decide) (by decide)))
  have F29 := F12.other W21 (Or.inr (slot_ne (Or.inr (own_w hw 41 rfl)) (Or.inl (own_w hw 84 rfl)) (by decide) (t := (.object "com/example/fieldglass/fieldglass/io/Marks$Order")) (t' := .int) (by decide) (by decide)))
  have F30 := F13.other W21 (Or.inr (slot_ne (Or.inl (own_w hw 44 rfl)) (Or.inl (own_w hw 84 rfl)) (by decide) (t := .long) (t' := .int) (by decide) (by decide)))
  have G31 := G14.other W21 (Ne.symm hn_dd_af)
  have G32 := G15.other W21 (Ne.symm hn_dd_ai)
  have G33 := G16.other W21 (Ne.symm hn_dd_as_)
  have G34 := V3.other W21 (Ne.symm hn_dd_am)
  have N21 := Fr.snoc X21 N19 hg_dd
  have K21 : Keep h0 h21 [dd, am, ai] := K3.wr W21 (Or.inl (List.mem_of_getElem? (i := 0) rfl))
  have Zs35 : n0 ≤ h21.size := (Nat.le_trans Zs17 (Keep.of_wr W21).1)
  obtain ⟨T36, X36, e36, st36⟩ := getF X21 hx hZ hown (host := "") (Or.inl (own_w hw 24 rfl)) Via.refl e21 F27 (g := (mkF m 20 #[.val (.ref dd), .val (.int lev)] [(.ref dd)])) rfl rfl (hb hby d11_20)
  obtain ⟨T37, X37, e37, st37⟩ := getF X36 hx hZ hown (host := "") (Or.inl (own_w hw 20 rfl)) Via.refl e36 F25 (g := (mkF m 28 #[.val (.ref dd), .val (.int lev)] [(.ref dd)])) rfl rfl (hb hby d11_28)
  obtain ⟨T38, X38, e38, st38⟩ := getF X37 hx hZ hown (host := "") (Or.inl (own_w hw 24 rfl)) Via.refl e37 F27 (g := (mkF m 32 #[.val (.ref dd), .val (.int lev)] [(.ref dd), (.ref ai)])) rfl rfl (hb hby d11_32)
  have oc39 := G32
  obtain ⟨c39, Arc39, Sc39, Hc39⟩ := oc39
  have hin40 : ¬ (dp < 0 ∨ c39.slots.size ≤ (dp).toNatClampNeg) := (own_ix_in Sc39 hd1)
  obtain ⟨T40, h40, X40, e40, W40, st40⟩ := stI X38 hx hZ e38 Arc39 (j := dp) hin40 (g := (mkF m 36 #[.val (.ref dd), .val (.int lev)] [(.int (0 : Int32)), (.int dp), (.ref ai)])) rfl rfl (hb hby d11_36)
  have V40 : own_Fa Value.int .int Z h40 ai 16 (own_up fg (ln + 1) (0 : Int32)) := own_Fa_setk Arc39 Sc39 Hc39 W40 (own_ix_nat hd1)
  have E41 := E22.wr W40
  have F42 := F23.other W40 (Or.inl hn_dd_ai)
  have F43 := F24.other W40 (Or.inl hn_dd_ai)
  have F44 := F25.other W40 (Or.inl hn_dd_ai)
  have F45 := F26.other W40 (Or.inl hn_dd_ai)
  have F46 := F27.other W40 (Or.inl hn_dd_ai)
  have F47 := F28.other W40 (Or.inl hn_dd_ai)
  have F48 := F29.other W40 (Or.inl hn_dd_ai)
  have F49 := F30.other W40 (Or.inl hn_dd_ai)
  have G50 := G31.other W40 hn_af_ai
  have G51 := G33.other W40 (Ne.symm hn_ai_as_)
  have G52 := G34.other W40 hn_am_ai
  have F53 := Fw21.other W40 (Or.inl hn_dd_ai)
  have N40 := Fr.snoc X40 N21 hg_ai
  have K40 : Keep h0 h40 [dd, am, ai] := K21.wr W40 (Or.inl (List.mem_of_getElem? (i := 2) rfl))
  have Zs54 : n0 ≤ h40.size := (Nat.le_trans Zs35 (Keep.of_wr W40).1)
  obtain ⟨T55, X55, e55, st55⟩ := getF X40 hx hZ hown (host := "") (Or.inl (own_w hw 24 rfl)) Via.refl e40 F46 (g := (mkF m 39 #[.val (.ref dd), .val (.int lev)] [(.ref dd), (.ref dd)])) rfl rfl (hb hby d11_39)
  obtain ⟨T56, h56, X56, e56, W56, st56⟩ := putF X55 hx hZ hown (host := "") (Or.inl (own_w hw 24 rfl)) Via.refl e55 F46 E41 (Or.inl (own_w hw 25 rfl)) (own_w hw 2 rfl) (ty := .int) (by decide) rfl rfl (g := (mkF m 44 #[.val (.ref dd), .val (.int lev)] [(.int (dp - (1 : Int32))), (.ref dd)])) rfl rfl (hb hby d11_44)
  have Fw56 : Fld Z h56 dd "com/example/fieldglass/fieldglass/io/Marks" "deepestFields" "I" (.int (dp - (1 : Int32))) := F46.same W56
  have E57 := E41.wr W56
  have F58 := F42.other W56 (Or.inr (slot_ne (Or.inl (own_w hw 13 rfl)) (Or.inl (own_w hw 25 rfl)) (by decide) (t := (.array .boolean)) (t' := .int) (by decide) (by decide)))
  have F59 := F43.other W56 (Or.inr (slot_ne (Or.inl (own_w hw 17 rfl)) (Or.inl (own_w hw 25 rfl)) (by decide) (t := (.array .long)) (t' := .int) (by decide) (by decide)))
  have F60 := F44.other W56 (Or.inr (slot_ne (Or.inl (own_w hw 21 rfl)) (Or.inl (own_w hw 25 rfl)) (by decide) (t := (.array .int)) (t' := .int) (by decide) (by decide)))
  have F61 := F45.other W56 (Or.inr (slot_ne (Or.inl (own_w hw 23 rfl)) (Or.inl (own_w hw 25 rfl)) (by decide) (t := (.array .long)) (t' := .int) (by decide) (by decide)))
  have F62 := F47.other W56 (Or.inr (slot_ne (Or.inl (own_w hw 27 rfl)) (Or.inl (own_w hw 25 rfl)) (by decide) (t := .boolean) (t' := .int) (by decide) (by decide)))
  have F63 := F48.other W56 (Or.inr (slot_ne (Or.inr (own_w hw 41 rfl)) (Or.inl (own_w hw 25 rfl)) (by decide) (t := (.object "com/example/fieldglass/fieldglass/io/Marks$Order")) (t' := .int) (by decide) (by decide)))
  have F64 := F49.other W56 (Or.inr (slot_ne (Or.inl (own_w hw 44 rfl)) (Or.inl (own_w hw 25 rfl)) (by decide) (t := .long) (t' := .int) (by decide) (by decide)))
  have G65 := G50.other W56 (Ne.symm hn_dd_af)
  have G66 := G51.other W56 (Ne.symm hn_dd_as_)
  have G67 := G52.other W56 (Ne.symm hn_dd_am)
  have F68 := F53.other W56 (Or.inr (slot_ne (Or.inl (own_w hw 84 rfl)) (Or.inl (own_w hw 25 rfl)) (by decide) (t := .int) (t' := .int) (by decide) (by decide)))
  have G69 := V40.other W56 (Ne.symm hn_dd_ai)
  have N56 := Fr.snoc X56 N40 hg_dd
  have K56 : Keep h0 h56 [dd, am, ai] := K40.wr W56 (Or.inl (List.mem_of_getElem? (i := 0) rfl))
  have Zs70 : n0 ≤ h56.size := (Nat.le_trans Zs54 (Keep.of_wr W56).1)
  obtain ⟨T71, X71, e71, st71⟩ := getF X56 hx hZ hown (host := "") (Or.inl (own_w hw 24 rfl)) Via.refl e56 Fw56 (g := (mkF m 20 #[.val (.ref dd), .val (.int lev)] [(.ref dd)])) rfl rfl (hb hby d11_20)
  have pre72 := fun (t : State) (k : Steps p.tables e below (T71.setTop (mkF m 50 #[.val (.ref dd), .val (.int lev)] [])) t) => pre0 t (by
    refine XS.aloadN X0.here hx rfl (hb hby d11_0) rfl rfl ?_
    refine st1 _ ?_
    refine XS.iloadN X1.here hx rfl (hb hby d11_4) rfl ?_
    refine XS.iconst X1.here hx rfl (hb hby d11_5) ?_
    refine st3 _ ?_
    refine XS.aloadN X3.here hx rfl (hb hby d11_7) rfl rfl ?_
    refine XS.aloadN X3.here hx rfl (hb hby d11_8) rfl rfl ?_
    refine st18 _ ?_
    refine XS.iloadN X18.here hx rfl (hb hby d11_12) rfl ?_
    refine st19 _ ?_
    refine st21 _ ?_
    refine XS.aloadN X21.here hx rfl (hb hby d11_19) rfl rfl ?_
    refine st36 _ ?_
    refine XS.iloadN X36.here hx rfl (hb hby d11_23) rfl ?_
    refine XS.icmpNo X36.here hx rfl (hb hby d11_24) rfl (tlt (own_em_t hl hd1)).2.2.2 ?_
    refine XS.aloadN X36.here hx rfl (hb hby d11_27) rfl rfl ?_
    refine st37 _ ?_
    refine XS.aloadN X37.here hx rfl (hb hby d11_31) rfl rfl ?_
    refine st38 _ ?_
    refine XS.iconst X38.here hx rfl (hb hby d11_35) ?_
    refine st40 _ ?_
    refine XS.aloadN X40.here hx rfl (hb hby d11_37) rfl rfl ?_
    refine XS.dup X40.here hx rfl (hb hby d11_38) rfl rfl ?_
    refine st55 _ ?_
    refine XS.iconst X55.here hx rfl (hb hby d11_42) ?_
    refine XS.isub X55.here hx rfl (hb hby d11_43) rfl ?_
    refine st56 _ ?_
    refine XS.goto X56.here hx rfl (pc0 := 47) (pc' := 19) rfl (hb hby d11_47) (by decide) (by decide) ?_
    refine XS.aloadN X56.here hx rfl (hb hby d11_19) rfl rfl ?_
    refine st71 _ ?_
    refine XS.iloadN X71.here hx rfl (hb hby d11_23) rfl ?_
    refine XS.icmpYes X71.here hx rfl (pc0 := 24) (pc' := 50) rfl (hb hby d11_24) rfl (flt (own_em_f hl hd1)).2.2.2 (by decide) (by decide) ?_
    exact k)
  obtain ⟨fs, hr, hrun, hended, hW, hsame⟩ := X71.leave (v := none) (hlocks := BodyLoose.notSynchronized Bd) (fun _ => rfl)
  refine ⟨_, _, pre72 _ ?_, hrun, hended, _, _, rfl, ?_, ⟨_, rfl⟩, hW, hsame.mono (by decide) (by decide)⟩
  · exact X71.returnOut hx Bd.returns (hb hby d11_50) hr
  · show Q_em1 Z dd oo am af ai as_ mg ff fg sg sl slr dp lev ln h0 n0 _ T71.heap _
    rw [e71]
    exact ⟨rfl, N56, K56, E57, F58, F59, F60, F61, F68, Fw56, F62, F63, F64, G67, G65, G69, G66⟩

theorem ef_ohn (m : MethodId) (x0 : Addr) : entryFrame m #[(.ref x0)] 1 = mkF m 0 #[.val (.ref x0)] [] := by first | (simp [entryFrame, mkF, argsToLocals, Value.category]; done) | rfl
def Q_ohn (Z : State) (oo : Addr) (cn : Int32) (rd : Int64) (r : Int32) (h0 : Heap) (n0 : Nat) (v : Option Value) (h : Heap) (L : List Loc) : Prop := v = some (.int r) ∧ Fr n0 L ∧ h = h0
set_option maxRecDepth 65536 in
set_option maxHeartbeats 40000000 in
theorem rm_ohn (l : Launch) (Z : State) (a0 : Array Value) (hw : ∀ d ∈ tables_1, d.before a0 Z = true) (ws : List Jvm.Cond) (oo : Addr) (cn : Int32) (rd : Int64) (r : Int32) (h0 : Heap) (n0 : Nat) (Z0 : n0 ≤ h0.size) (H0_E : Exa Z h0 oo "com/example/fieldglass/fieldglass/io/Marks$Order") (H1_F : Fld Z h0 oo "com/example/fieldglass/fieldglass/io/Marks$Order" "count" "I" (.int cn)) (H2_F : Fld Z h0 oo "com/example/fieldglass/fieldglass/io/Marks$Order" "spilled" "J" (.long (0 : Int64))) (H3_F : Fld Z h0 oo "com/example/fieldglass/fieldglass/io/Marks$Order" "read" "J" (.long rd)) (hr0 : (lcmpW rd (own_sz cn)) < (0 : Int32) → r = (1 : Int32)) (hr1 : ¬ (lcmpW rd (own_sz cn)) < (0 : Int32) → r = (0 : Int32)) :
    MetFree l (⟨"com/example/fieldglass/fieldglass/io/Marks$Order", "hasNext", "()Z"⟩ : MethodName) (head1 (Jvm.Cond.code (⟨"com/example/fieldglass/fieldglass/io/Marks$Order", "hasNext", "()Z"⟩ : MethodName) prog_14_method_8_code 1 (some .boolean) :: ws) ({ frames := 1, cells := 0, slots := 0, locals := 14 } : Room)) (fun as_ U_ => as_ = #[(.ref oo)] ∧ Z.Warmed39 U_.vm ∧ U_.heap = h0) (fun _ _ _ _ _ => True) (fun _ U o U' => ∃ v L, o = .returned v ∧ Q_ohn Z oo cn rd r h0 n0 v U'.heap L ∧ FrameEnd U o U' L ({ frames := 1, cells := 0, slots := 0, locals := 14 } : Room).cells ({ frames := 1, cells := 0, slots := 0, locals := 14 } : Room).slots) := by
  refine MetFree.of_bodySF (plainFor_of_name pn_1) hisR ?_
  intro p e s m args below meth c s₁ Bd hml0 hP hK
  obtain ⟨rfl, hZ, hhp_⟩ := hP
  have hx := Bd.exec
  have hby := Bd.bytes
  have hml : c.maxLocals = 1 := hml0
  have hown : s.vm.findClass "com/example/fieldglass/fieldglass/io/Marks$Order" = some m.cls := findClass_of_methodNamed Bd.named
  have hnm := (name_of_methodNamed Bd.named Bd.method).1
  have X0 : Stand p l e ({ frames := 1, cells := 0, slots := 0, locals := 14 } : Room) s m #[(.ref oo)] below meth c s₁ [] 0 0 := Stand.of_body Bd
  have e0 : s₁.heap = h0 := by rw [← hhp_, Bd.state]; rfl
  have N0 := Fr.nil n0
  have pre0 : ∀ t, Steps p.tables e below (s₁.setTop (mkF m 0 #[.val (.ref oo)] [])) t → Steps p.tables e below (s₁.setTop (entryFrame m #[(.ref oo)] 1)) t := fun t k => castTop (ef_ohn m oo) k
  obtain ⟨T1, X1, e1, st1⟩ := getF X0 hx hZ hown (host := "") (Or.inl (own_w hw 150 rfl)) Via.refl e0 H3_F (g := (mkF m 1 #[.val (.ref oo)] [(.ref oo)])) rfl rfl (hb hby d23_1)
  obtain ⟨cq2, kq2, q2a, q2b, q2c⟩ := isOf hZ e1 H0_E
  obtain ⟨_, _, ⟨T2, L2, k2, n2⟩, -, X2, ⟨Lc2, hQ2, l2, y2, z2⟩, st2⟩ := X1.virtualBack hx (y := (⟨"com/example/fieldglass/fieldglass/io/Marks$Order", "size", "()J"⟩ : MethodName)) (z := (⟨"com/example/fieldglass/fieldglass/io/Marks$Order", "size", "()J"⟩ : MethodName)) hown (mvT hZ (own_w hw 152 rfl)) (mvT hZ (own_w hw 105 rfl)) (notFace_of_selects (args := #[]) (mvT hZ (own_w hw 107 rfl))) (mvT hZ (own_w hw 107 rfl)) (mvT hZ (own_w hw 106 rfl)) (by decide) (backOf (W := 2) (rm_osz l Z a0 hw [] oo cn h0 n0 Z0 H2_F H1_F) hZ (own_w hw 108 rfl) (own_w hw 30 rfl) (by decide) (by decide)) q2a q2c (g := (mkF m 5 #[.val (.ref oo)] [(.ref oo), (.long rd)])) rfl (by rw [hml]; rfl) (Steps.refl _) (argsL := []) (rest := [(.long rd)]) (lenOf pd_7 rfl) rfl (by show 2 * 0 + _ ≤ _; exact Nat.le_of_eq rfl) (hb hby d23_5) (fun _ _ => ⟨rfl, e1, (by decide : 0 + 0 ≤ _), (by decide : 0 + 0 ≤ _)⟩)
  dsimp only [Pt.U, Pt.locs, Pt.cells, Pt.slots] at X2 l2 y2 z2 st2 hQ2
  subst l2 y2 z2
  obtain ⟨rfl, N2q, hq3⟩ := hQ2
  have N2 := Fr.app N0 N2q
  have pre4 := fun (t : State) (k : Steps p.tables e below (T2.setTop (mkF m 9 #[.val (.ref oo)] [(.int (lcmpW rd (own_sz cn)))])) t) => pre0 t (by
    refine XS.aloadN X0.here hx rfl (hb hby d23_0) rfl rfl ?_
    refine st1 _ ?_
    refine XS.aloadN X1.here hx rfl (hb hby d23_4) rfl rfl ?_
    refine st2.trans ?_
    refine XS.lcmp X2.here hx rfl (hb hby d23_8) rfl ?_
    exact k)
  by_cases hc5 : (lcmpW rd (own_sz cn)) < (0 : Int32)
  · have pre6 := fun (t : State) (k : Steps p.tables e below (T2.setTop (mkF m 17 #[.val (.ref oo)] [(.int (1 : Int32))])) t) => pre4 t (by
      refine XS.ifNo X2.here hx rfl (hb hby d23_9) rfl ((if0 _ _).trans (tlt hc5).2.1) ?_
      refine XS.iconst X2.here hx rfl (hb hby d23_12) ?_
      refine XS.goto X2.here hx rfl (pc0 := 13) (pc' := 17) rfl (hb hby d23_13) (by decide) (by decide) ?_
      exact k)
    obtain ⟨fs, hr, hrun, hended, hW, hsame⟩ := X2.leave (v := some (.int (1 : Int32))) (hlocks := BodyLoose.notSynchronized Bd) (fun h => by rw [Bd.returns] at h; cases h)
    refine ⟨_, _, pre6 _ ?_, hrun, hended, _, _, rfl, ?_, ⟨_, rfl⟩, hW, hsame.mono (by decide) (by decide)⟩
    · exact retN X2 hx (t := .boolean) Bd.returns (by simp) (hb hby d23_17) hr
    · show Q_ohn Z oo cn rd r h0 n0 _ T2.heap _
      rw [hq3]
      exact ⟨(by first | rw [hr0 (by assumption)] | rw [hr1 (by assumption)]), N2, rfl⟩
  · have pre7 := fun (t : State) (k : Steps p.tables e below (T2.setTop (mkF m 17 #[.val (.ref oo)] [(.int (0 : Int32))])) t) => pre4 t (by
      refine XS.ifYes X2.here hx rfl (pc0 := 9) (pc' := 16) rfl (hb hby d23_9) rfl ((if0 _ _).trans (flt hc5).2.1) (by decide) (by decide) ?_
      refine XS.iconst X2.here hx rfl (hb hby d23_16) ?_
      exact k)
    obtain ⟨fs, hr, hrun, hended, hW, hsame⟩ := X2.leave (v := some (.int (0 : Int32))) (hlocks := BodyLoose.notSynchronized Bd) (fun h => by rw [Bd.returns] at h; cases h)
    refine ⟨_, _, pre7 _ ?_, hrun, hended, _, _, rfl, ?_, ⟨_, rfl⟩, hW, hsame.mono (by decide) (by decide)⟩
    · exact retN X2 hx (t := .boolean) Bd.returns (by simp) (hb hby d23_17) hr
    · show Q_ohn Z oo cn rd r h0 n0 _ T2.heap _
      rw [hq3]
      exact ⟨(by first | rw [hr0 (by assumption)] | rw [hr1 (by assumption)]), N2, rfl⟩

theorem ef_onx (m : MethodId) (x0 : Addr) : entryFrame m #[(.ref x0)] 3 = mkF m 0 #[.val (.ref x0), .unset, .unset] [] := by first | (simp [entryFrame, mkF, argsToLocals, Value.category]; done) | rfl
def Q_onx (Z : State) (oo : Addr) (ah : Addr) (hd : Nat → Int64) (cn : Int32) (rd : Int64) (rn : Nat) (h0 : Heap) (n0 : Nat) (v : Option Value) (h : Heap) (L : List Loc) : Prop := v = some (.long (hd rn)) ∧ Fr n0 L ∧ Keep h0 h [oo] ∧ Fld Z h oo "com/example/fieldglass/fieldglass/io/Marks$Order" "held" "[J" (.ref ah) ∧ Fld Z h oo "com/example/fieldglass/fieldglass/io/Marks$Order" "count" "I" (.int cn) ∧ Fld Z h oo "com/example/fieldglass/fieldglass/io/Marks$Order" "spilled" "J" (.long (0 : Int64)) ∧ Fld Z h oo "com/example/fieldglass/fieldglass/io/Marks$Order" "read" "J" (.long (rd + (1 : Int64)))
set_option maxRecDepth 65536 in
set_option maxHeartbeats 40000000 in
theorem rm_onx (l : Launch) (Z : State) (a0 : Array Value) (hw : ∀ d ∈ tables_1, d.before a0 Z = true) (ws : List Jvm.Cond) (oo : Addr) (ah : Addr) (hd : Nat → Int64) (cn : Int32) (rd : Int64) (rn : Nat) (h0 : Heap) (n0 : Nat) (Z0 : n0 ≤ h0.size) (H0_E : Exa Z h0 oo "com/example/fieldglass/fieldglass/io/Marks$Order") (H1_F : Fld Z h0 oo "com/example/fieldglass/fieldglass/io/Marks$Order" "held" "[J" (.ref ah)) (H2_F : Fld Z h0 oo "com/example/fieldglass/fieldglass/io/Marks$Order" "count" "I" (.int cn)) (H3_F : Fld Z h0 oo "com/example/fieldglass/fieldglass/io/Marks$Order" "spilled" "J" (.long (0 : Int64))) (H4_F : Fld Z h0 oo "com/example/fieldglass/fieldglass/io/Marks$Order" "read" "J" (.long rd)) (H5_G : own_Fa Value.long .long Z h0 ah 16 hd) (hrd : own_pl rd rn) (hoo : n0 ≤ oo) (hn1 : oo ≠ ah) :
    MetFree l (⟨"com/example/fieldglass/fieldglass/io/Marks$Order", "next", "()J"⟩ : MethodName) (head1 (Jvm.Cond.code (⟨"com/example/fieldglass/fieldglass/io/Marks$Order", "next", "()J"⟩ : MethodName) prog_14_method_9_code 3 (some .long) :: ws) ({ frames := 0, cells := 0, slots := 0, locals := 0 } : Room)) (fun as_ U_ => as_ = #[(.ref oo)] ∧ Z.Warmed39 U_.vm ∧ U_.heap = h0) (fun _ _ _ _ _ => True) (fun _ U o U' => ∃ v L, o = .returned v ∧ Q_onx Z oo ah hd cn rd rn h0 n0 v U'.heap L ∧ FrameEnd U o U' L ({ frames := 0, cells := 0, slots := 0, locals := 0 } : Room).cells ({ frames := 0, cells := 0, slots := 0, locals := 0 } : Room).slots) := by
  refine MetFree.of_bodySF (plainFor_of_name pn_1) hisR ?_
  intro p e s m args below meth c s₁ Bd hml0 hP hK
  obtain ⟨rfl, hZ, hhp_⟩ := hP
  have hx := Bd.exec
  have hby := Bd.bytes
  have hml : c.maxLocals = 3 := hml0
  have hown : s.vm.findClass "com/example/fieldglass/fieldglass/io/Marks$Order" = some m.cls := findClass_of_methodNamed Bd.named
  have hnm := (name_of_methodNamed Bd.named Bd.method).1
  have X0 : Stand p l e ({ frames := 0, cells := 0, slots := 0, locals := 0 } : Room) s m #[(.ref oo)] below meth c s₁ [] 0 0 := Stand.of_body Bd
  have e0 : s₁.heap = h0 := by rw [← hhp_, Bd.state]; rfl
  have N0 := Fr.nil n0
  have pre0 : ∀ t, Steps p.tables e below (s₁.setTop (mkF m 0 #[.val (.ref oo), .unset, .unset] [])) t → Steps p.tables e below (s₁.setTop (entryFrame m #[(.ref oo)] 3)) t := fun t k => castTop (ef_onx m oo) k
  have K0 : Keep h0 h0 [oo] := Keep.refl h0 [oo]
  obtain ⟨T1, X1, e1, st1⟩ := getF X0 hx hZ hown (host := "") (Or.inl (own_w hw 150 rfl)) Via.refl e0 H4_F (g := (mkF m 1 #[.val (.ref oo), .unset, .unset] [(.ref oo)])) rfl rfl (hb hby d24_1)
  obtain ⟨T2, X2, e2, st2⟩ := getF X1 hx hZ hown (host := "") (Or.inl (own_w hw 109 rfl)) Via.refl e1 H3_F (g := (mkF m 5 #[.val (.ref oo), .unset, .unset] [(.ref oo), (.long rd)])) rfl rfl (hb hby d24_5)
  obtain ⟨T3, X3, e3, st3⟩ := getF X2 hx hZ hown (host := "") (Or.inl (own_w hw 36 rfl)) Via.refl e2 H1_F (g := (mkF m 40 #[.val (.ref oo), .unset, .unset] [(.ref oo)])) rfl rfl (hb hby d24_40)
  obtain ⟨T4, X4, e4, st4⟩ := getF X3 hx hZ hown (host := "") (Or.inl (own_w hw 150 rfl)) Via.refl e3 H4_F (g := (mkF m 44 #[.val (.ref oo), .unset, .unset] [(.ref oo), (.ref ah)])) rfl rfl (hb hby d24_44)
  obtain ⟨T5, X5, e5, st5⟩ := getF X4 hx hZ hown (host := "") (Or.inl (own_w hw 109 rfl)) Via.refl e4 H3_F (g := (mkF m 48 #[.val (.ref oo), .unset, .unset] [(.ref oo), (.long rd), (.ref ah)])) rfl rfl (hb hby d24_48)
  have hxp : own_ix ((rd - (0 : Int64)).toInt32) rn := own_pl_ix hrd
  have oc6 := H5_G
  obtain ⟨c6, Arc6, Sc6, Hc6⟩ := oc6
  have hin7 : ¬ (((rd - (0 : Int64)).toInt32) < 0 ∨ c6.slots.size ≤ (((rd - (0 : Int64)).toInt32)).toNatClampNeg) := (own_ix_in Sc6 hxp)
  obtain ⟨T8, X8, e8, st8⟩ := getF X5 hx hZ hown (host := "") (Or.inl (own_w hw 150 rfl)) Via.refl e5 H4_F (g := (mkF m 57 #[.val (.ref oo), .val (.long (hd rn)), .second] [(.ref oo), (.ref oo)])) rfl rfl (hb hby d24_57)
  obtain ⟨T9, h9, X9, e9, W9, st9⟩ := putF X8 hx hZ hown (host := "") (Or.inl (own_w hw 150 rfl)) Via.refl e8 H4_F H0_E (Or.inl (own_w hw 151 rfl)) (own_w hw 29 rfl) (ty := .long) (by decide) rfl rfl (g := (mkF m 62 #[.val (.ref oo), .val (.long (hd rn)), .second] [(.long (rd + (1 : Int64))), (.ref oo)])) rfl rfl (hb hby d24_62)
  have Fw9 : Fld Z h9 oo "com/example/fieldglass/fieldglass/io/Marks$Order" "read" "J" (.long (rd + (1 : Int64))) := H4_F.same W9
  have E10 := H0_E.wr W9
  have F11 := H1_F.other W9 (Or.inr (slot_ne (Or.inl (own_w hw 37 rfl)) (Or.inl (own_w hw 151 rfl)) (by decide) (t := (.array .long)) (t' := .long) (by decide) (by decide)))
  have F12 := H2_F.other W9 (Or.inr (slot_ne (Or.inl (own_w hw 112 rfl)) (Or.inl (own_w hw 151 rfl)) (by decide) (t := .int) (t' := .long) (by decide) (by decide)))
  have F13 := H3_F.other W9 (Or.inr (slot_ne (Or.inl (own_w hw 110 rfl)) (Or.inl (own_w hw 151 rfl)) (by decide) (t := .long) (t' := .long) (by decide) (by decide)))
  have G14 := H5_G.other W9 (Ne.symm hn1)
  have N9 := Fr.snoc X9 N0 hoo
  have K9 : Keep h0 h9 [oo] := K0.wr W9 (Or.inl (List.mem_of_getElem? (i := 0) rfl))
  have Zs15 : n0 ≤ h9.size := (Nat.le_trans Z0 (Keep.of_wr W9).1)
  have pre16 := fun (t : State) (k : Steps p.tables e below (T9.setTop (mkF m 66 #[.val (.ref oo), .val (.long (hd rn)), .second] [(.long (hd rn))])) t) => pre0 t (by
    refine XS.aloadN X0.here hx rfl (hb hby d24_0) rfl rfl ?_
    refine st1 _ ?_
    refine XS.aloadN X1.here hx rfl (hb hby d24_4) rfl rfl ?_
    refine st2 _ ?_
    refine XS.lcmp X2.here hx rfl (hb hby d24_8) rfl ?_
    refine XS.ifYes X2.here hx rfl (pc0 := 9) (pc' := 39) rfl (hb hby d24_9) rfl ((if0 _ _).trans (flt (own_pl_ge hrd)).2.1) (by decide) (by decide) ?_
    refine XS.aloadN X2.here hx rfl (hb hby d24_39) rfl rfl ?_
    refine st3 _ ?_
    refine XS.aloadN X3.here hx rfl (hb hby d24_43) rfl rfl ?_
    refine st4 _ ?_
    refine XS.aloadN X4.here hx rfl (hb hby d24_47) rfl rfl ?_
    refine st5 _ ?_
    refine XS.lsub X5.here hx rfl (hb hby d24_51) rfl ?_
    refine XS.l2i X5.here hx rfl (hb hby d24_52) rfl ?_
    refine X5.laload hx (j := ((rd - (0 : Int64)).toInt32)) (v := (.long (hd rn))) (by rw [e5]; exact Arc6.1) (State.isArrayOf_alike hZ.alike Arc6.2.1) Arc6.2.2 hin7 (own_at Hc6 (own_ix_nat hxp) (own_inn Sc6 hin7)) (g := (mkF m 53 #[.val (.ref oo), .unset, .unset] [(.int ((rd - (0 : Int64)).toInt32)), (.ref ah)])) rfl rfl (hb hby d24_53) _ ?_
    refine XS.lstoreN X5.here hx rfl (hb hby d24_54) rfl (l' := #[.val (.ref oo), .val (.long (hd rn)), .second]) rfl ?_
    refine XS.aloadN X5.here hx rfl (hb hby d24_55) rfl rfl ?_
    refine XS.dup X5.here hx rfl (hb hby d24_56) rfl rfl ?_
    refine st8 _ ?_
    refine XS.lconst X8.here hx rfl (hb hby d24_60) ?_
    refine XS.ladd X8.here hx rfl (hb hby d24_61) rfl ?_
    refine st9 _ ?_
    refine XS.lloadN X9.here hx rfl (hb hby d24_65) rfl ?_
    exact k)
  obtain ⟨fs, hr, hrun, hended, hW, hsame⟩ := X9.leave (v := some (.long (hd rn))) (hlocks := BodyLoose.notSynchronized Bd) (fun h => by rw [Bd.returns] at h; cases h)
  refine ⟨_, _, pre16 _ ?_, hrun, hended, _, _, rfl, ?_, ⟨_, rfl⟩, hW, hsame.mono (by decide) (by decide)⟩
  · exact retJ X9 hx Bd.returns (hb hby d24_66) hr
  · show Q_onx Z oo ah hd cn rd rn h0 n0 _ T9.heap _
    rw [e9]
    exact ⟨rfl, N9, K9, F11, F12, F13, Fw9⟩

theorem ef_rot (m : MethodId) (x0 : Addr) (x1 : Int64) : entryFrame m #[(.ref x0), (.long x1)] 3 = mkF m 0 #[.val (.ref x0), .val (.long x1), .second] [] := by first | (simp [entryFrame, mkF, argsToLocals, Value.category]; done) | rfl
def Q_rot (Z : State) (dd : Addr) (oo : Addr) (ah : Addr) (hd : Nat → Int64) (cn : Int32) (cz : Nat) (nx : Int64) (rd : Int64) (rn : Nat) (site : Int64) (q0 : Int64) (h0 : Heap) (n0 : Nat) (v : Option Value) (h : Heap) (L : List Loc) : Prop := ∃ nx' : Int64, ∃ rd' : Int64, ∃ rn' : Nat, ∃ r : Int32, v = some (.int r) ∧ Fr n0 L ∧ Keep h0 h [dd, oo] ∧ rd'.toInt = (rn' : Int) ∧ own_J hd cz site rn' nx' ∧ own_res hd cz site r ∧ Fld Z h dd "com/example/fieldglass/fieldglass/io/Marks" "order" "Lcom/example/fieldglass/fieldglass/io/Marks$Order;" (.ref oo) ∧ Fld Z h dd "com/example/fieldglass/fieldglass/io/Marks" "next" "J" (.long nx') ∧ Fld Z h oo "com/example/fieldglass/fieldglass/io/Marks$Order" "held" "[J" (.ref ah) ∧ Fld Z h oo "com/example/fieldglass/fieldglass/io/Marks$Order" "count" "I" (.int cn) ∧ Fld Z h oo "com/example/fieldglass/fieldglass/io/Marks$Order" "spilled" "J" (.long (0 : Int64)) ∧ Fld Z h oo "com/example/fieldglass/fieldglass/io/Marks$Order" "read" "J" (.long rd')
set_option maxRecDepth 65536 in
set_option maxHeartbeats 40000000 in
theorem rm_rot (l : Launch) (Z : State) (a0 : Array Value) (hw : ∀ d ∈ tables_1, d.before a0 Z = true) (ws : List Jvm.Cond) (dd : Addr) (oo : Addr) (ah : Addr) (hd : Nat → Int64) (cn : Int32) (cz : Nat) (nx : Int64) (rd : Int64) (rn : Nat) (site : Int64) (q0 : Int64) (h0 : Heap) (n0 : Nat) (Z0 : n0 ≤ h0.size) (H0_E : Exa Z h0 dd "com/example/fieldglass/fieldglass/io/Marks") (H1_F : Fld Z h0 dd "com/example/fieldglass/fieldglass/io/Marks" "order" "Lcom/example/fieldglass/fieldglass/io/Marks$Order;" (.ref oo)) (H2_F : Fld Z h0 dd "com/example/fieldglass/fieldglass/io/Marks" "next" "J" (.long nx)) (H3_E : Exa Z h0 oo "com/example/fieldglass/fieldglass/io/Marks$Order") (H4_F : Fld Z h0 oo "com/example/fieldglass/fieldglass/io/Marks$Order" "held" "[J" (.ref ah)) (H5_F : Fld Z h0 oo "com/example/fieldglass/fieldglass/io/Marks$Order" "count" "I" (.int cn)) (H6_F : Fld Z h0 oo "com/example/fieldglass/fieldglass/io/Marks$Order" "spilled" "J" (.long (0 : Int64))) (H7_F : Fld Z h0 oo "com/example/fieldglass/fieldglass/io/Marks$Order" "read" "J" (.long rd)) (H8_G : own_Fa Value.long .long Z h0 ah 16 hd) (hn_dd_oo : dd ≠ oo) (hn_dd_ah : dd ≠ ah) (hn_oo_ah : oo ≠ ah) (hg_dd : n0 ≤ dd) (hg_oo : n0 ≤ oo) (hcz : own_cz cn cz) (hS : own_S hd cz) (hrd : rd.toInt = (rn : Int)) (hJ : own_J hd cz q0 rn nx) (hq : q0.toInt ≤ site.toInt) (hsi : own_si site) :
    MetFree l (⟨"com/example/fieldglass/fieldglass/io/Marks", "readOnTo", "(J)Z"⟩ : MethodName) (head1 (Jvm.Cond.code (⟨"com/example/fieldglass/fieldglass/io/Marks", "readOnTo", "(J)Z"⟩ : MethodName) prog_13_method_13_code 3 (some .boolean) :: ws) ({ frames := 2, cells := 0, slots := 0, locals := 27 } : Room)) (fun as_ U_ => as_ = #[(.ref dd), (.long site)] ∧ Z.Warmed39 U_.vm ∧ U_.heap = h0) (fun _ _ _ _ _ => True) (fun _ U o U' => ∃ v L, o = .returned v ∧ Q_rot Z dd oo ah hd cn cz nx rd rn site q0 h0 n0 v U'.heap L ∧ FrameEnd U o U' L ({ frames := 2, cells := 0, slots := 0, locals := 27 } : Room).cells ({ frames := 2, cells := 0, slots := 0, locals := 27 } : Room).slots) := by
  refine MetFree.of_bodySF (plainFor_of_name pn_2) hisR ?_
  intro p e s m args below meth c s₁ Bd hml0 hP hK
  obtain ⟨rfl, hZ, hhp_⟩ := hP
  have hx := Bd.exec
  have hby := Bd.bytes
  have hml : c.maxLocals = 3 := hml0
  have hown : s.vm.findClass "com/example/fieldglass/fieldglass/io/Marks" = some m.cls := findClass_of_methodNamed Bd.named
  have hnm := (name_of_methodNamed Bd.named Bd.method).1
  have X0 : Stand p l e ({ frames := 2, cells := 0, slots := 0, locals := 27 } : Room) s m #[(.ref dd), (.long site)] below meth c s₁ [] 0 0 := Stand.of_body Bd
  have e0 : s₁.heap = h0 := by rw [← hhp_, Bd.state]; rfl
  have N0 := Fr.nil n0
  have pre0 : ∀ t, Steps p.tables e below (s₁.setTop (mkF m 0 #[.val (.ref dd), .val (.long site), .second] [])) t → Steps p.tables e below (s₁.setTop (entryFrame m #[(.ref dd), (.long site)] 3)) t := fun t k => castTop (ef_rot m dd site) k
  have K0 : Keep h0 h0 [dd, oo] := Keep.refl h0 [dd, oo]
  have lr : ∀ (kk : Nat) (nx' : Int64) (rd' : Int64) (rn' : Nat) (T_lr : State) (H_lr : Heap) (Lt_lr : List Loc) (N_lr : Fr n0 Lt_lr) (X_lr : Stand p l e ({ frames := 2, cells := 0, slots := 0, locals := 27 } : Room) s m #[(.ref dd), (.long site)] below meth c T_lr Lt_lr 0 0) (e_lr : T_lr.heap = H_lr) (K_lr : Keep h0 H_lr [dd, oo]) (Z_lr : n0 ≤ H_lr.size) (lr_0 : Exa Z H_lr dd "com/example/fieldglass/fieldglass/io/Marks") (lr_1 : Fld Z H_lr dd "com/example/fieldglass/fieldglass/io/Marks" "order" "Lcom/example/fieldglass/fieldglass/io/Marks$Order;" (.ref oo)) (lr_2 : Fld Z H_lr dd "com/example/fieldglass/fieldglass/io/Marks" "next" "J" (.long nx')) (lr_3 : Exa Z H_lr oo "com/example/fieldglass/fieldglass/io/Marks$Order") (lr_4 : Fld Z H_lr oo "com/example/fieldglass/fieldglass/io/Marks$Order" "held" "[J" (.ref ah)) (lr_5 : Fld Z H_lr oo "com/example/fieldglass/fieldglass/io/Marks$Order" "count" "I" (.int cn)) (lr_6 : Fld Z H_lr oo "com/example/fieldglass/fieldglass/io/Marks$Order" "spilled" "J" (.long (0 : Int64))) (lr_7 : Fld Z H_lr oo "com/example/fieldglass/fieldglass/io/Marks$Order" "read" "J" (.long rd')) (lr_8 : own_Fa Value.long .long Z H_lr ah 16 hd) (hrd' : rd'.toInt = (rn' : Int)) (hJ' : own_J hd cz site rn' nx') (hms : cz - rn' < kk), ∃ s₂ o, Steps p.tables e below (T_lr.setTop (mkF m 0 #[.val (.ref dd), .val (.long site), .second] [])) s₂ ∧ s₂.status = .running ∧ Ended s₂ below o ∧ ∃ v L, o = .returned v ∧ Q_rot Z dd oo ah hd cn cz nx rd rn site q0 h0 n0 v s₂.heap L ∧ FrameEnd s o s₂ L ({ frames := 2, cells := 0, slots := 0, locals := 27 } : Room).cells ({ frames := 2, cells := 0, slots := 0, locals := 27 } : Room).slots := by
    intro kk
    induction kk with
    | zero =>
      intro nx' rd' rn' T_lr H_lr Lt_lr N_lr X_lr e_lr K_lr Z_lr lr_0 lr_1 lr_2 lr_3 lr_4 lr_5 lr_6 lr_7 lr_8 hrd' hJ' hms
      exact absurd hms (Nat.not_lt_zero _)
    | succ kk ih =>
      intro nx' rd' rn' T_lr H_lr Lt_lr N_lr X_lr e_lr K_lr Z_lr lr_0 lr_1 lr_2 lr_3 lr_4 lr_5 lr_6 lr_7 lr_8 hrd' hJ' hms
      have pre_lr := fun (t : State) (k : Steps p.tables e below (T_lr.setTop (mkF m 0 #[.val (.ref dd), .val (.long site), .second] [])) t) => k
      obtain ⟨T1, X1, e1, st1⟩ := getF X_lr hx hZ hown (host := "") (Or.inl (own_w hw 43 rfl)) Via.refl e_lr lr_2 (g := (mkF m 1 #[.val (.ref dd), .val (.long site), .second] [(.ref dd)])) rfl rfl (hb hby d22_1)
      have pre2 := fun (t : State) (k : Steps p.tables e below (T1.setTop (mkF m 6 #[.val (.ref dd), .val (.long site), .second] [(.int (lcmpW nx' site))])) t) => pre_lr t (by
        refine XS.aloadN X_lr.here hx rfl (hb hby d22_0) rfl rfl ?_
        refine st1 _ ?_
        refine XS.lloadN X1.here hx rfl (hb hby d22_4) rfl ?_
        refine XS.lcmp X1.here hx rfl (hb hby d22_5) rfl ?_
        exact k)
      by_cases hc3 : (lcmpW nx' site) < (0 : Int32)
      · obtain ⟨T4, X4, e4, st4⟩ := getF X1 hx hZ hown (host := "") (Or.inl (own_w hw 40 rfl)) Via.refl e1 lr_1 (g := (mkF m 11 #[.val (.ref dd), .val (.long site), .second] [(.ref dd), (.ref dd)])) rfl rfl (hb hby d22_11)
        have pre5 := fun (t : State) (k : Steps p.tables e below (T4.setTop (mkF m 14 #[.val (.ref dd), .val (.long site), .second] [(.ref oo), (.ref dd)])) t) => pre2 t (by
          refine XS.ifNo X1.here hx rfl (hb hby d22_6) rfl ((if0 _ _).trans (tlt hc3).2.1) ?_
          refine XS.aloadN X1.here hx rfl (hb hby d22_9) rfl rfl ?_
          refine XS.aloadN X1.here hx rfl (hb hby d22_10) rfl rfl ?_
          refine st4 _ ?_
          exact k)
        by_cases hs6 : (lcmpW rd' (own_sz cn)) < (0 : Int32)
        · obtain ⟨cq7, kq7, q7a, q7b, q7c⟩ := isOf hZ e4 lr_3
          obtain ⟨_, _, ⟨T7, L7, k7, n7⟩, -, X7, ⟨Lc7, hQ7, l7, y7, z7⟩, st7⟩ := X4.virtualBack hx (y := (⟨"com/example/fieldglass/fieldglass/io/Marks$Order", "hasNext", "()Z"⟩ : MethodName)) (z := (⟨"com/example/fieldglass/fieldglass/io/Marks$Order", "hasNext", "()Z"⟩ : MethodName)) hown (mvT hZ (own_w hw 145 rfl)) (mvT hZ (own_w hw 146 rfl)) (notFace_of_selects (args := #[]) (mvT hZ (own_w hw 148 rfl))) (mvT hZ (own_w hw 148 rfl)) (mvT hZ (own_w hw 147 rfl)) (by decide) (backOf (W := 1) (rm_ohn l Z a0 hw [] oo cn rd' (1 : Int32) H_lr n0 Z_lr lr_3 lr_5 lr_6 lr_7 (fun _ => rfl) (fun q => absurd hs6 q)) hZ (own_w hw 149 rfl) (own_w hw 30 rfl) (by decide) (by decide)) q7a q7c (g := (mkF m 14 #[.val (.ref dd), .val (.long site), .second] [(.ref oo), (.ref dd)])) rfl (by rw [hml]; rfl) (Steps.refl _) (argsL := []) (rest := [(.ref dd)]) (lenOf pd_10 rfl) rfl (by show 2 * 0 + _ ≤ _; exact Nat.le_of_eq rfl) (hb hby d22_14) (fun _ _ => ⟨rfl, e4, (by decide : 0 + 0 ≤ _), (by decide : 0 + 0 ≤ _)⟩)
          dsimp only [Pt.U, Pt.locs, Pt.cells, Pt.slots] at X7 l7 y7 z7 st7 hQ7
          subst l7 y7 z7
          obtain ⟨rfl, N7q, hq8⟩ := hQ7
          have N7 := Fr.app N_lr N7q
          obtain ⟨T9, X9, e9, st9⟩ := getF X7 hx hZ hown (host := "") (Or.inl (own_w hw 40 rfl)) Via.refl hq8 lr_1 (g := (mkF m 21 #[.val (.ref dd), .val (.long site), .second] [(.ref dd), (.ref dd)])) rfl rfl (hb hby d22_21)
          have hin := own_hn hcz hrd' hs6
          obtain ⟨cq10, kq10, q10a, q10b, q10c⟩ := isOf hZ e9 lr_3
          obtain ⟨_, _, ⟨T10, L10, k10, n10⟩, -, X10, ⟨Lc10, hQ10, l10, y10, z10⟩, st10⟩ := X9.virtualBack hx (y := (⟨"com/example/fieldglass/fieldglass/io/Marks$Order", "next", "()J"⟩ : MethodName)) (z := (⟨"com/example/fieldglass/fieldglass/io/Marks$Order", "next", "()J"⟩ : MethodName)) hown (mvT hZ (own_w hw 153 rfl)) (mvT hZ (own_w hw 154 rfl)) (notFace_of_selects (args := #[]) (mvT hZ (own_w hw 156 rfl))) (mvT hZ (own_w hw 156 rfl)) (mvT hZ (own_w hw 155 rfl)) (by decide) (backOf (W := 1) (rm_onx l Z a0 hw [] oo ah hd cn rd' rn' H_lr n0 Z_lr lr_3 lr_4 lr_5 lr_6 lr_7 lr_8 hin.2 hg_oo hn_oo_ah) hZ (own_w hw 157 rfl) (own_w hw 30 rfl) (by decide) (by decide)) q10a q10c (g := (mkF m 24 #[.val (.ref dd), .val (.long site), .second] [(.ref oo), (.ref dd)])) rfl (by rw [hml]; rfl) (Steps.refl _) (argsL := []) (rest := [(.ref dd)]) (lenOf pd_7 rfl) rfl (by show 2 * 0 + _ ≤ _; exact Nat.le_of_eq rfl) (hb hby d22_24) (fun _ _ => ⟨rfl, e9, (by decide : 0 + 0 ≤ _), (by decide : 0 + 0 ≤ _)⟩)
          dsimp only [Pt.U, Pt.locs, Pt.cells, Pt.slots] at X10 l10 y10 z10 st10 hQ10
          subst l10 y10 z10
          obtain ⟨rfl, N10q, hq11, F12, F13, F14, F15⟩ := hQ10
          have N10 := Fr.app N7 N10q
          have E16 := lr_0.keep hq11
          have F17 := lr_1.keep hq11 (ninS hn_dd_oo nin0)
          have F18 := lr_2.keep hq11 (ninS hn_dd_oo nin0)
          have E19 := lr_3.keep hq11
          have G20 := lr_8.keep hq11 (ninS (Ne.symm hn_oo_ah) nin0)
          have K10 : Keep h0 T10.heap [dd, oo] := K_lr.trans hq11 (allS (Or.inl (List.mem_of_getElem? (i := 1) rfl)) all0)
          have Zs21 : n0 ≤ T10.heap.size := (Nat.le_trans Z_lr hq11.1)
          obtain ⟨T22, h22, X22, e22, W22, st22⟩ := putF X10 hx hZ hown (host := "") (Or.inl (own_w hw 43 rfl)) Via.refl rfl F18 E16 (Or.inl (own_w hw 44 rfl)) (own_w hw 2 rfl) (ty := .long) (by decide) rfl rfl (g := (mkF m 33 #[.val (.ref dd), .val (.long site), .second] [(.long (hd rn')), (.ref dd)])) rfl rfl (hb hby d22_33)
          have Fw22 : Fld Z h22 dd "com/example/fieldglass/fieldglass/io/Marks" "next" "J" (.long (hd rn')) := F18.same W22
          have E23 := E16.wr W22
          have F24 := F17.other W22 (Or.inr (slot_ne (Or.inr (own_w hw 41 rfl)) (Or.inl (own_w hw 44 rfl)) (by decide) (t := (.object "com/example/fieldglass/fieldglass/io/Marks$Order")) (t' := .long) (by decide) (by decide)))
          have E25 := E19.wr W22
          have G26 := G20.other W22 (Ne.symm hn_dd_ah)
          have F27 := F12.other W22 (Or.inl (Ne.symm hn_dd_oo))
          have F28 := F13.other W22 (Or.inl (Ne.symm hn_dd_oo))
          have F29 := F14.other W22 (Or.inl (Ne.symm hn_dd_oo))
          have F30 := F15.other W22 (Or.inl (Ne.symm hn_dd_oo))
          have N22 := Fr.snoc X22 N10 hg_dd
          have K22 : Keep h0 h22 [dd, oo] := K10.wr W22 (Or.inl (List.mem_of_getElem? (i := 0) rfl))
          have Zs31 : n0 ≤ h22.size := (Nat.le_trans Zs21 (Keep.of_wr W22).1)
          have pre32 := fun (t : State) (k : Steps p.tables e below (T22.setTop (mkF m 0 #[.val (.ref dd), .val (.long site), .second] [])) t) => pre5 t (by
            refine st7.trans ?_
            refine XS.ifNo X7.here hx rfl (hb hby d22_17) rfl ((if0 _ _).trans (feq (by decide : ¬ ((1 : Int32) = (0 : Int32)))).1) ?_
            refine XS.aloadN X7.here hx rfl (hb hby d22_20) rfl rfl ?_
            refine st9 _ ?_
            refine st10.trans ?_
            refine XS.goto X10.here hx rfl (pc0 := 27) (pc' := 33) rfl (hb hby d22_27) (by decide) (by decide) ?_
            refine st22 _ ?_
            refine XS.goto X22.here hx rfl (pc0 := 36) (pc' := 0) rfl (hb hby d22_36) (by decide) (by decide) ?_
            exact k)
          obtain ⟨s2, o2, hs2, hr2⟩ := ih (hd rn') (rd' + (1 : Int64)) (rn' + 1) T22 h22 _ N22 X22 e22 K22 Zs31 E23 F24 Fw22 E25 F27 F28 F29 F30 G26 (own_r_s hcz hin) (own_J_s hS hJ' hc3 hin.1) (by have := hin.1; omega)
          exact ⟨s2, o2, pre32 _ hs2, hr2⟩
        · obtain ⟨cq33, kq33, q33a, q33b, q33c⟩ := isOf hZ e4 lr_3
          obtain ⟨_, _, ⟨T33, L33, k33, n33⟩, -, X33, ⟨Lc33, hQ33, l33, y33, z33⟩, st33⟩ := X4.virtualBack hx (y := (⟨"com/example/fieldglass/fieldglass/io/Marks$Order", "hasNext", "()Z"⟩ : MethodName)) (z := (⟨"com/example/fieldglass/fieldglass/io/Marks$Order", "hasNext", "()Z"⟩ : MethodName)) hown (mvT hZ (own_w hw 145 rfl)) (mvT hZ (own_w hw 146 rfl)) (notFace_of_selects (args := #[]) (mvT hZ (own_w hw 148 rfl))) (mvT hZ (own_w hw 148 rfl)) (mvT hZ (own_w hw 147 rfl)) (by decide) (backOf (W := 1) (rm_ohn l Z a0 hw [] oo cn rd' (0 : Int32) H_lr n0 Z_lr lr_3 lr_5 lr_6 lr_7 (fun q => absurd q hs6) (fun _ => rfl)) hZ (own_w hw 149 rfl) (own_w hw 30 rfl) (by decide) (by decide)) q33a q33c (g := (mkF m 14 #[.val (.ref dd), .val (.long site), .second] [(.ref oo), (.ref dd)])) rfl (by rw [hml]; rfl) (Steps.refl _) (argsL := []) (rest := [(.ref dd)]) (lenOf pd_10 rfl) rfl (by show 2 * 0 + _ ≤ _; exact Nat.le_of_eq rfl) (hb hby d22_14) (fun _ _ => ⟨rfl, e4, (by decide : 0 + 0 ≤ _), (by decide : 0 + 0 ≤ _)⟩)
          dsimp only [Pt.U, Pt.locs, Pt.cells, Pt.slots] at X33 l33 y33 z33 st33 hQ33
          subst l33 y33 z33
          obtain ⟨rfl, N33q, hq34⟩ := hQ33
          have N33 := Fr.app N_lr N33q
          obtain ⟨T35, h35, X35, e35, W35, st35⟩ := putF X33 hx hZ hown (host := "") (Or.inl (own_w hw 43 rfl)) Via.refl hq34 lr_2 lr_0 (Or.inl (own_w hw 44 rfl)) (own_w hw 2 rfl) (ty := .long) (by decide) rfl rfl (g := (mkF m 33 #[.val (.ref dd), .val (.long site), .second] [(.long (9223372036854775807 : Int64)), (.ref dd)])) rfl rfl (hb hby d22_33)
          have Fw35 : Fld Z h35 dd "com/example/fieldglass/fieldglass/io/Marks" "next" "J" (.long (9223372036854775807 : Int64)) := lr_2.same W35
          have E36 := lr_0.wr W35
          have F37 := lr_1.other W35 (Or.inr (slot_ne (Or.inr (own_w hw 41 rfl)) (Or.inl (own_w hw 44 rfl)) (by decide) (t := (.object "com/example/fieldglass/fieldglass/io/Marks$Order")) (t' := .long) (by decide) (by decide)))
          have E38 := lr_3.wr W35
          have F39 := lr_4.other W35 (Or.inl (Ne.symm hn_dd_oo))
          have F40 := lr_5.other W35 (Or.inl (Ne.symm hn_dd_oo))
          have F41 := lr_6.other W35 (Or.inl (Ne.symm hn_dd_oo))
          have F42 := lr_7.other W35 (Or.inl (Ne.symm hn_dd_oo))
          have G43 := lr_8.other W35 (Ne.symm hn_dd_ah)
          have N35 := Fr.snoc X35 N33 hg_dd
          have K35 : Keep h0 h35 [dd, oo] := K_lr.wr W35 (Or.inl (List.mem_of_getElem? (i := 0) rfl))
          have Zs44 : n0 ≤ h35.size := (Nat.le_trans Z_lr (Keep.of_wr W35).1)
          obtain ⟨T45, X45, e45, st45⟩ := getF X35 hx hZ hown (host := "") (Or.inl (own_w hw 43 rfl)) Via.refl e35 Fw35 (g := (mkF m 1 #[.val (.ref dd), .val (.long site), .second] [(.ref dd)])) rfl rfl (hb hby d22_1)
          obtain ⟨T46, X46, e46, st46⟩ := getF X45 hx hZ hown (host := "") (Or.inl (own_w hw 43 rfl)) Via.refl e45 Fw35 (g := (mkF m 40 #[.val (.ref dd), .val (.long site), .second] [(.ref dd)])) rfl rfl (hb hby d22_40)
          have pre47 := fun (t : State) (k : Steps p.tables e below (T46.setTop (mkF m 53 #[.val (.ref dd), .val (.long site), .second] [(.int (0 : Int32))])) t) => pre5 t (by
            refine st33.trans ?_
            refine XS.ifYes X33.here hx rfl (pc0 := 17) (pc' := 30) rfl (hb hby d22_17) rfl ((if0 _ _).trans (teq (by decide : (0 : Int32) = (0 : Int32))).1) (by decide) (by decide) ?_
            refine X33.ldc2Long hx hown (mvT hZ (own_w hw 42 rfl)) (g := (mkF m 30 #[.val (.ref dd), .val (.long site), .second] [(.ref dd)])) rfl (hb hby d22_30) _ ?_
            refine st35 _ ?_
            refine XS.goto X35.here hx rfl (pc0 := 36) (pc' := 0) rfl (hb hby d22_36) (by decide) (by decide) ?_
            refine XS.aloadN X35.here hx rfl (hb hby d22_0) rfl rfl ?_
            refine st45 _ ?_
            refine XS.lloadN X45.here hx rfl (hb hby d22_4) rfl ?_
            refine XS.lcmp X45.here hx rfl (hb hby d22_5) rfl ?_
            refine XS.ifYes X45.here hx rfl (pc0 := 6) (pc' := 39) rfl (hb hby d22_6) rfl ((if0 _ _).trans (flt (own_max _)).2.1) (by decide) (by decide) ?_
            refine XS.aloadN X45.here hx rfl (hb hby d22_39) rfl rfl ?_
            refine st46 _ ?_
            refine XS.lloadN X46.here hx rfl (hb hby d22_43) rfl ?_
            refine XS.lcmp X46.here hx rfl (hb hby d22_44) rfl ?_
            refine XS.ifYes X46.here hx rfl (pc0 := 45) (pc' := 52) rfl (hb hby d22_45) rfl ((if0 _ _).trans (feq (own_maxn hsi)).2) (by decide) (by decide) ?_
            refine XS.iconst X46.here hx rfl (hb hby d22_52) ?_
            exact k)
          obtain ⟨fs, hr, hrun, hended, hW, hsame⟩ := X46.leave (v := some (.int (0 : Int32))) (hlocks := BodyLoose.notSynchronized Bd) (fun h => by rw [Bd.returns] at h; cases h)
          refine ⟨_, _, pre47 _ ?_, hrun, hended, _, _, rfl, ?_, ⟨_, rfl⟩, hW, hsame.mono (by decide) (by decide)⟩
          · exact retN X46 hx (t := .boolean) Bd.returns (by simp) (hb hby d22_53) hr
          · show Q_rot Z dd oo ah hd cn cz nx rd rn site q0 h0 n0 _ T46.heap _
            rw [e46]
            exact ⟨(9223372036854775807 : Int64), rd', rn', (0 : Int32), rfl, N35, K35, hrd', (own_J_x hcz hJ' hrd' hc3 hs6), (own_res_n hsi (own_J_x hcz hJ' hrd' hc3 hs6) (own_max _) (own_maxn hsi)), F37, Fw35, F39, F40, F41, F42⟩
      · obtain ⟨T48, X48, e48, st48⟩ := getF X1 hx hZ hown (host := "") (Or.inl (own_w hw 43 rfl)) Via.refl e1 lr_2 (g := (mkF m 40 #[.val (.ref dd), .val (.long site), .second] [(.ref dd)])) rfl rfl (hb hby d22_40)
        have pre49 := fun (t : State) (k : Steps p.tables e below (T48.setTop (mkF m 45 #[.val (.ref dd), .val (.long site), .second] [(.int (lcmpW nx' site))])) t) => pre2 t (by
          refine XS.ifYes X1.here hx rfl (pc0 := 6) (pc' := 39) rfl (hb hby d22_6) rfl ((if0 _ _).trans (flt hc3).2.1) (by decide) (by decide) ?_
          refine XS.aloadN X1.here hx rfl (hb hby d22_39) rfl rfl ?_
          refine st48 _ ?_
          refine XS.lloadN X48.here hx rfl (hb hby d22_43) rfl ?_
          refine XS.lcmp X48.here hx rfl (hb hby d22_44) rfl ?_
          exact k)
        by_cases hc50 : (lcmpW nx' site) = (0 : Int32)
        · have pre51 := fun (t : State) (k : Steps p.tables e below (T48.setTop (mkF m 53 #[.val (.ref dd), .val (.long site), .second] [(.int (1 : Int32))])) t) => pre49 t (by
            refine XS.ifNo X48.here hx rfl (hb hby d22_45) rfl ((if0 _ _).trans (teq hc50).2) ?_
            refine XS.iconst X48.here hx rfl (hb hby d22_48) ?_
            refine XS.goto X48.here hx rfl (pc0 := 49) (pc' := 53) rfl (hb hby d22_49) (by decide) (by decide) ?_
            exact k)
          obtain ⟨fs, hr, hrun, hended, hW, hsame⟩ := X48.leave (v := some (.int (1 : Int32))) (hlocks := BodyLoose.notSynchronized Bd) (fun h => by rw [Bd.returns] at h; cases h)
          refine ⟨_, _, pre51 _ ?_, hrun, hended, _, _, rfl, ?_, ⟨_, rfl⟩, hW, hsame.mono (by decide) (by decide)⟩
          · exact retN X48 hx (t := .boolean) Bd.returns (by simp) (hb hby d22_53) hr
          · show Q_rot Z dd oo ah hd cn cz nx rd rn site q0 h0 n0 _ T48.heap _
            rw [e48]
            exact ⟨nx', rd', rn', (1 : Int32), rfl, N_lr, K_lr, hrd', hJ', (own_res_y hsi hJ' hc50), lr_1, lr_2, lr_4, lr_5, lr_6, lr_7⟩
        · have pre52 := fun (t : State) (k : Steps p.tables e below (T48.setTop (mkF m 53 #[.val (.ref dd), .val (.long site), .second] [(.int (0 : Int32))])) t) => pre49 t (by
            refine XS.ifYes X48.here hx rfl (pc0 := 45) (pc' := 52) rfl (hb hby d22_45) rfl ((if0 _ _).trans (feq hc50).2) (by decide) (by decide) ?_
            refine XS.iconst X48.here hx rfl (hb hby d22_52) ?_
            exact k)
          obtain ⟨fs, hr, hrun, hended, hW, hsame⟩ := X48.leave (v := some (.int (0 : Int32))) (hlocks := BodyLoose.notSynchronized Bd) (fun h => by rw [Bd.returns] at h; cases h)
          refine ⟨_, _, pre52 _ ?_, hrun, hended, _, _, rfl, ?_, ⟨_, rfl⟩, hW, hsame.mono (by decide) (by decide)⟩
          · exact retN X48 hx (t := .boolean) Bd.returns (by simp) (hb hby d22_53) hr
          · show Q_rot Z dd oo ah hd cn cz nx rd rn site q0 h0 n0 _ T48.heap _
            rw [e48]
            exact ⟨nx', rd', rn', (0 : Int32), rfl, N_lr, K_lr, hrd', hJ', (own_res_n hsi hJ' hc3 hc50), lr_1, lr_2, lr_4, lr_5, lr_6, lr_7⟩
  obtain ⟨s2, o2, hs2, hr2⟩ := lr (cz - rn + 1) nx rd rn s₁ h0 _ N0 X0 e0 K0 Z0 H0_E H1_F H2_F H3_E H4_F H5_F H6_F H7_F H8_G hrd (own_J_m hJ hq) (Nat.lt_succ_self _)
  exact ⟨s2, o2, pre0 _ hs2, hr2⟩

theorem ef_rbk (m : MethodId) (x0 : Addr) : entryFrame m #[(.ref x0)] 1 = mkF m 0 #[.val (.ref x0)] [] := by first | (simp [entryFrame, mkF, argsToLocals, Value.category]; done) | rfl
def Q_rbk (Z : State) (dd : Addr) (oo : Addr) (ah : Addr) (hd : Nat → Int64) (cn : Int32) (cz : Nat) (nx : Int64) (h0 : Heap) (n0 : Nat) (v : Option Value) (h : Heap) (L : List Loc) : Prop := ∃ nx' : Int64, ∃ rd' : Int64, ∃ rn' : Nat, v = none ∧ Fr n0 L ∧ Keep h0 h [dd, oo] ∧ rd'.toInt = (rn' : Int) ∧ own_J hd cz (0 : Int64) rn' nx' ∧ Fld Z h dd "com/example/fieldglass/fieldglass/io/Marks" "order" "Lcom/example/fieldglass/fieldglass/io/Marks$Order;" (.ref oo) ∧ Fld Z h dd "com/example/fieldglass/fieldglass/io/Marks" "next" "J" (.long nx') ∧ Fld Z h oo "com/example/fieldglass/fieldglass/io/Marks$Order" "held" "[J" (.ref ah) ∧ Fld Z h oo "com/example/fieldglass/fieldglass/io/Marks$Order" "count" "I" (.int cn) ∧ Fld Z h oo "com/example/fieldglass/fieldglass/io/Marks$Order" "spilled" "J" (.long (0 : Int64)) ∧ Fld Z h oo "com/example/fieldglass/fieldglass/io/Marks$Order" "read" "J" (.long rd')
set_option maxRecDepth 65536 in
set_option maxHeartbeats 40000000 in
theorem rm_rbk (l : Launch) (Z : State) (a0 : Array Value) (hw : ∀ d ∈ tables_1, d.before a0 Z = true) (ws : List Jvm.Cond) (dd : Addr) (oo : Addr) (ah : Addr) (hd : Nat → Int64) (cn : Int32) (cz : Nat) (nx : Int64) (h0 : Heap) (n0 : Nat) (Z0 : n0 ≤ h0.size) (H0_E : Exa Z h0 dd "com/example/fieldglass/fieldglass/io/Marks") (H1_F : Fld Z h0 dd "com/example/fieldglass/fieldglass/io/Marks" "order" "Lcom/example/fieldglass/fieldglass/io/Marks$Order;" (.ref oo)) (H2_F : Fld Z h0 dd "com/example/fieldglass/fieldglass/io/Marks" "next" "J" (.long nx)) (H3_E : Exa Z h0 oo "com/example/fieldglass/fieldglass/io/Marks$Order") (H4_F : Fld Z h0 oo "com/example/fieldglass/fieldglass/io/Marks$Order" "held" "[J" (.ref ah)) (H5_F : Fld Z h0 oo "com/example/fieldglass/fieldglass/io/Marks$Order" "count" "I" (.int cn)) (H6_F : Fld Z h0 oo "com/example/fieldglass/fieldglass/io/Marks$Order" "spilled" "J" (.long (0 : Int64))) (H7_F : Fld Z h0 oo "com/example/fieldglass/fieldglass/io/Marks$Order" "read" "J" (.long (0 : Int64))) (H8_G : own_Fa Value.long .long Z h0 ah 16 hd) (H9_F : Fld Z h0 dd "com/example/fieldglass/fieldglass/io/Marks" "marking" "Z" (.int (1 : Int32))) (hn_dd_oo : dd ≠ oo) (hn_dd_ah : dd ≠ ah) (hn_oo_ah : oo ≠ ah) (hg_dd : n0 ≤ dd) (hg_oo : n0 ≤ oo) (hcz : own_cz cn cz) (hS : own_S hd cz) :
    MetFree l (⟨"com/example/fieldglass/fieldglass/io/Marks", "readBack", "()V"⟩ : MethodName) (head1 (Jvm.Cond.code (⟨"com/example/fieldglass/fieldglass/io/Marks", "readBack", "()V"⟩ : MethodName) prog_13_method_11_code 1 none :: ws) ({ frames := 3, cells := 0, slots := 0, locals := 41 } : Room)) (fun as_ U_ => as_ = #[(.ref dd)] ∧ Z.Warmed39 U_.vm ∧ U_.heap = h0) (fun _ _ _ _ _ => True) (fun _ U o U' => ∃ v L, o = .returned v ∧ Q_rbk Z dd oo ah hd cn cz nx h0 n0 v U'.heap L ∧ FrameEnd U o U' L ({ frames := 3, cells := 0, slots := 0, locals := 41 } : Room).cells ({ frames := 3, cells := 0, slots := 0, locals := 41 } : Room).slots) := by
  refine MetFree.of_bodySF (plainFor_of_name pn_2) hisR ?_
  intro p e s m args below meth c s₁ Bd hml0 hP hK
  obtain ⟨rfl, hZ, hhp_⟩ := hP
  have hx := Bd.exec
  have hby := Bd.bytes
  have hml : c.maxLocals = 1 := hml0
  have hown : s.vm.findClass "com/example/fieldglass/fieldglass/io/Marks" = some m.cls := findClass_of_methodNamed Bd.named
  have hnm := (name_of_methodNamed Bd.named Bd.method).1
  have X0 : Stand p l e ({ frames := 3, cells := 0, slots := 0, locals := 41 } : Room) s m #[(.ref dd)] below meth c s₁ [] 0 0 := Stand.of_body Bd
  have e0 : s₁.heap = h0 := by rw [← hhp_, Bd.state]; rfl
  have N0 := Fr.nil n0
  have pre0 : ∀ t, Steps p.tables e below (s₁.setTop (mkF m 0 #[.val (.ref dd)] [])) t → Steps p.tables e below (s₁.setTop (entryFrame m #[(.ref dd)] 1)) t := fun t k => castTop (ef_rbk m dd) k
  have K0 : Keep h0 h0 [dd, oo] := Keep.refl h0 [dd, oo]
  obtain ⟨T1, h1, X1, e1, W1, st1⟩ := putFN X0 hx hZ hown (own_w hw 26 rfl) Via.refl e0 H9_F H0_E (Or.inl (own_w hw 27 rfl)) (own_w hw 2 rfl) (ty := .boolean) (v' := (.int (0 : Int32))) (by decide) rfl rfl (g := (mkF m 2 #[.val (.ref dd)] [(.int (0 : Int32)), (.ref dd)])) rfl rfl (hb hby d21_2)
  have Fw1 : Fld Z h1 dd "com/example/fieldglass/fieldglass/io/Marks" "marking" "Z" (.int (0 : Int32)) := H9_F.same W1
  have E2 := H0_E.wr W1
  have F3 := H1_F.other W1 (Or.inr (slot_ne (Or.inr (own_w hw 41 rfl)) (Or.inl (own_w hw 27 rfl)) (by decide) (t := (.object "com/example/fieldglass/fieldglass/io/Marks$Order")) (t' := .boolean) (by decide) (by decide)))
  have F4 := H2_F.other W1 (Or.inr (slot_ne (Or.inl (own_w hw 44 rfl)) (Or.inl (own_w hw 27 rfl)) (by decide) (t := .long) (t' := .boolean) (by decide) (by decide)))
  have E5 := H3_E.wr W1
  have F6 := H4_F.other W1 (Or.inl (Ne.symm hn_dd_oo))
  have F7 := H5_F.other W1 (Or.inl (Ne.symm hn_dd_oo))
  have F8 := H6_F.other W1 (Or.inl (Ne.symm hn_dd_oo))
  have F9 := H7_F.other W1 (Or.inl (Ne.symm hn_dd_oo))
  have G10 := H8_G.other W1 (Ne.symm hn_dd_ah)
  have N1 := Fr.snoc X1 N0 hg_dd
  have K1 : Keep h0 h1 [dd, oo] := K0.wr W1 (Or.inl (List.mem_of_getElem? (i := 0) rfl))
  have Zs11 : n0 ≤ h1.size := (Nat.le_trans Z0 (Keep.of_wr W1).1)
  obtain ⟨T12, h12, X12, e12, W12, st12⟩ := putF X1 hx hZ hown (host := "") (Or.inl (own_w hw 43 rfl)) Via.refl e1 F4 E2 (Or.inl (own_w hw 44 rfl)) (own_w hw 2 rfl) (ty := .long) (by decide) rfl rfl (g := (mkF m 9 #[.val (.ref dd)] [(.long (-1 : Int64)), (.ref dd)])) rfl rfl (hb hby d21_9)
  have Fw12 : Fld Z h12 dd "com/example/fieldglass/fieldglass/io/Marks" "next" "J" (.long (-1 : Int64)) := F4.same W12
  have E13 := E2.wr W12
  have F14 := F3.other W12 (Or.inr (slot_ne (Or.inr (own_w hw 41 rfl)) (Or.inl (own_w hw 44 rfl)) (by decide) (t := (.object "com/example/fieldglass/fieldglass/io/Marks$Order")) (t' := .long) (by decide) (by decide)))
  have E15 := E5.wr W12
  have F16 := F6.other W12 (Or.inl (Ne.symm hn_dd_oo))
  have F17 := F7.other W12 (Or.inl (Ne.symm hn_dd_oo))
  have F18 := F8.other W12 (Or.inl (Ne.symm hn_dd_oo))
  have F19 := F9.other W12 (Or.inl (Ne.symm hn_dd_oo))
  have G20 := G10.other W12 (Ne.symm hn_dd_ah)
  have F21 := Fw1.other W12 (Or.inr (slot_ne (Or.inl (own_w hw 27 rfl)) (Or.inl (own_w hw 44 rfl)) (by decide) (t := .boolean) (t' := .long) (by decide) (by decide)))
  have N12 := Fr.snoc X12 N1 hg_dd
  have K12 : Keep h0 h12 [dd, oo] := K1.wr W12 (Or.inl (List.mem_of_getElem? (i := 0) rfl))
  have Zs22 : n0 ≤ h12.size := (Nat.le_trans Zs11 (Keep.of_wr W12).1)
  obtain ⟨cq23, q23, q23'⟩ := E13.cell
  obtain ⟨_, _, ⟨T23, L23, k23, n23⟩, -, X23, ⟨Lc23, hQ23, l23, y23, z23⟩, st23⟩ := X12.privateBack hx (y := (⟨"com/example/fieldglass/fieldglass/io/Marks", "readOnTo", "(J)Z"⟩ : MethodName)) hown (mvT hZ (own_w hw 141 rfl)) (mvT hZ (own_w hw 142 rfl)) (own_sel_priv (z := (⟨"com/example/fieldglass/fieldglass/io/Marks", "beginMessage", "(I)V"⟩ : MethodName)) (mvT hZ (own_w hw 48 rfl)) rfl (mvP hZ (own_w hw 143 rfl)) (mvT hZ (own_w hw 142 rfl)) (by decide)) (Cond.privateMethod_at (mvP hZ (own_w hw 143 rfl) (args := #[]))) (mvT hZ (own_w hw 144 rfl)) (by decide) (backOf (W := 0) (rm_rot l Z a0 hw [] dd oo ah hd cn cz (-1 : Int64) (0 : Int64) 0 (0 : Int64) (0 : Int64) h12 n0 Zs22 E13 F14 Fw12 E15 F16 F17 F18 F19 G20 hn_dd_oo hn_dd_ah hn_oo_ah hg_dd hg_oo hcz hS rfl (own_J_0 hd cz) (Int.le_refl _) own_si0) hZ (own_w hw 144 rfl) (own_w hw 3 rfl) (by decide) (by decide)) (g := (mkF m 14 #[.val (.ref dd)] [(.long (0 : Int64)), (.ref dd)])) rfl (by rw [hml]; rfl) (Steps.refl _) (a := dd) (by rw [e12]; exact q23) q23' (argsL := [(.long (0 : Int64))]) (rest := []) (lenOf pd_11 rfl) rfl (by show 2 * 0 + _ ≤ _; exact Nat.le_of_eq rfl) (hb hby d21_14) (fun _ _ => ⟨rfl, e12, (by decide : 0 + 0 ≤ _), (by decide : 0 + 0 ≤ _)⟩)
  dsimp only [Pt.U, Pt.locs, Pt.cells, Pt.slots] at X23 l23 y23 z23 st23 hQ23
  subst l23 y23 z23
  obtain ⟨x24, x25, x26, x27, rfl, N23q, hq28, hpq29, hpq30, hpq31, F32, F33, F34, F35, F36, F37⟩ := hQ23
  have N23 := Fr.app N12 N23q
  have E38 := E13.keep hq28
  have E39 := E15.keep hq28
  have G40 := G20.keep hq28 (ninS (Ne.symm hn_dd_ah) (ninS (Ne.symm hn_oo_ah) nin0))
  have K23 : Keep h0 T23.heap [dd, oo] := K12.trans hq28 (allS (Or.inl (List.mem_of_getElem? (i := 0) rfl)) (allS (Or.inl (List.mem_of_getElem? (i := 1) rfl)) all0))
  have Zs41 : n0 ≤ T23.heap.size := (Nat.le_trans Zs22 hq28.1)
  have pre42 := fun (t : State) (k : Steps p.tables e below (T23.setTop (mkF m 18 #[.val (.ref dd)] [])) t) => pre0 t (by
    refine XS.aloadN X0.here hx rfl (hb hby d21_0) rfl rfl ?_
    refine XS.iconst X0.here hx rfl (hb hby d21_1) ?_
    refine st1 _ ?_
    refine XS.aloadN X1.here hx rfl (hb hby d21_5) rfl rfl ?_
    refine X1.ldc2Long hx hown (mvT hZ (own_w hw 140 rfl)) (g := (mkF m 6 #[.val (.ref dd)] [(.ref dd)])) rfl (hb hby d21_6) _ ?_
    refine st12 _ ?_
    refine XS.aloadN X12.here hx rfl (hb hby d21_12) rfl rfl ?_
    refine XS.lconst X12.here hx rfl (hb hby d21_13) ?_
    refine st23.trans ?_
    refine XS.pop X23.here hx rfl (hb hby d21_17) rfl rfl ?_
    exact k)
  obtain ⟨fs, hr, hrun, hended, hW, hsame⟩ := X23.leave (v := none) (hlocks := BodyLoose.notSynchronized Bd) (fun _ => rfl)
  refine ⟨_, _, pre42 _ ?_, hrun, hended, _, _, rfl, ?_, ⟨_, rfl⟩, hW, hsame.mono (by decide) (by decide)⟩
  · exact X23.returnOut hx Bd.returns (hb hby d21_18) hr
  · show Q_rbk Z dd oo ah hd cn cz nx h0 n0 _ T23.heap _
    exact ⟨x24, x25, x26, rfl, N23, K23, hpq29, hpq30, F32, F33, F34, F35, F36, F37⟩

theorem ef_ism (m : MethodId) (x0 : Addr) (x1 : Int64) : entryFrame m #[(.ref x0), (.long x1)] 3 = mkF m 0 #[.val (.ref x0), .val (.long x1), .second] [] := by first | (simp [entryFrame, mkF, argsToLocals, Value.category]; done) | rfl
def Q_ism (Z : State) (dd : Addr) (oo : Addr) (ah : Addr) (hd : Nat → Int64) (cn : Int32) (cz : Nat) (nx : Int64) (rd : Int64) (rn : Nat) (site : Int64) (q0 : Int64) (h0 : Heap) (n0 : Nat) (v : Option Value) (h : Heap) (L : List Loc) : Prop := ∃ nx' : Int64, ∃ rd' : Int64, ∃ rn' : Nat, ∃ r : Int32, v = some (.int r) ∧ Fr n0 L ∧ Keep h0 h [dd, oo] ∧ rd'.toInt = (rn' : Int) ∧ own_J hd cz site rn' nx' ∧ own_res hd cz site r ∧ Fld Z h dd "com/example/fieldglass/fieldglass/io/Marks" "order" "Lcom/example/fieldglass/fieldglass/io/Marks$Order;" (.ref oo) ∧ Fld Z h dd "com/example/fieldglass/fieldglass/io/Marks" "next" "J" (.long nx') ∧ Fld Z h oo "com/example/fieldglass/fieldglass/io/Marks$Order" "held" "[J" (.ref ah) ∧ Fld Z h oo "com/example/fieldglass/fieldglass/io/Marks$Order" "count" "I" (.int cn) ∧ Fld Z h oo "com/example/fieldglass/fieldglass/io/Marks$Order" "spilled" "J" (.long (0 : Int64)) ∧ Fld Z h oo "com/example/fieldglass/fieldglass/io/Marks$Order" "read" "J" (.long rd')
set_option maxRecDepth 65536 in
set_option maxHeartbeats 40000000 in
theorem rm_ism (l : Launch) (Z : State) (a0 : Array Value) (hw : ∀ d ∈ tables_1, d.before a0 Z = true) (ws : List Jvm.Cond) (dd : Addr) (oo : Addr) (ah : Addr) (hd : Nat → Int64) (cn : Int32) (cz : Nat) (nx : Int64) (rd : Int64) (rn : Nat) (site : Int64) (q0 : Int64) (h0 : Heap) (n0 : Nat) (Z0 : n0 ≤ h0.size) (H0_E : Exa Z h0 dd "com/example/fieldglass/fieldglass/io/Marks") (H1_F : Fld Z h0 dd "com/example/fieldglass/fieldglass/io/Marks" "order" "Lcom/example/fieldglass/fieldglass/io/Marks$Order;" (.ref oo)) (H2_F : Fld Z h0 dd "com/example/fieldglass/fieldglass/io/Marks" "next" "J" (.long nx)) (H3_E : Exa Z h0 oo "com/example/fieldglass/fieldglass/io/Marks$Order") (H4_F : Fld Z h0 oo "com/example/fieldglass/fieldglass/io/Marks$Order" "held" "[J" (.ref ah)) (H5_F : Fld Z h0 oo "com/example/fieldglass/fieldglass/io/Marks$Order" "count" "I" (.int cn)) (H6_F : Fld Z h0 oo "com/example/fieldglass/fieldglass/io/Marks$Order" "spilled" "J" (.long (0 : Int64))) (H7_F : Fld Z h0 oo "com/example/fieldglass/fieldglass/io/Marks$Order" "read" "J" (.long rd)) (H8_G : own_Fa Value.long .long Z h0 ah 16 hd) (hn_dd_oo : dd ≠ oo) (hn_dd_ah : dd ≠ ah) (hn_oo_ah : oo ≠ ah) (hg_dd : n0 ≤ dd) (hg_oo : n0 ≤ oo) (hcz : own_cz cn cz) (hS : own_S hd cz) (hrd : rd.toInt = (rn : Int)) (hJ : own_J hd cz q0 rn nx) (hq : q0.toInt ≤ site.toInt) (hsi : own_si site) :
    MetFree l (⟨"com/example/fieldglass/fieldglass/io/Marks", "isMarked", "(J)Z"⟩ : MethodName) (head1 (Jvm.Cond.code (⟨"com/example/fieldglass/fieldglass/io/Marks", "isMarked", "(J)Z"⟩ : MethodName) prog_13_method_12_code 3 (some .boolean) :: ws) ({ frames := 3, cells := 0, slots := 0, locals := 41 } : Room)) (fun as_ U_ => as_ = #[(.ref dd), (.long site)] ∧ Z.Warmed39 U_.vm ∧ U_.heap = h0) (fun _ _ _ _ _ => True) (fun _ U o U' => ∃ v L, o = .returned v ∧ Q_ism Z dd oo ah hd cn cz nx rd rn site q0 h0 n0 v U'.heap L ∧ FrameEnd U o U' L ({ frames := 3, cells := 0, slots := 0, locals := 41 } : Room).cells ({ frames := 3, cells := 0, slots := 0, locals := 41 } : Room).slots) := by
  refine MetFree.of_bodySF (plainFor_of_name pn_2) hisR ?_
  intro p e s m args below meth c s₁ Bd hml0 hP hK
  obtain ⟨rfl, hZ, hhp_⟩ := hP
  have hx := Bd.exec
  have hby := Bd.bytes
  have hml : c.maxLocals = 3 := hml0
  have hown : s.vm.findClass "com/example/fieldglass/fieldglass/io/Marks" = some m.cls := findClass_of_methodNamed Bd.named
  have hnm := (name_of_methodNamed Bd.named Bd.method).1
  have X0 : Stand p l e ({ frames := 3, cells := 0, slots := 0, locals := 41 } : Room) s m #[(.ref dd), (.long site)] below meth c s₁ [] 0 0 := Stand.of_body Bd
  have e0 : s₁.heap = h0 := by rw [← hhp_, Bd.state]; rfl
  have N0 := Fr.nil n0
  have pre0 : ∀ t, Steps p.tables e below (s₁.setTop (mkF m 0 #[.val (.ref dd), .val (.long site), .second] [])) t → Steps p.tables e below (s₁.setTop (entryFrame m #[(.ref dd), (.long site)] 3)) t := fun t k => castTop (ef_ism m dd site) k
  have K0 : Keep h0 h0 [dd, oo] := Keep.refl h0 [dd, oo]
  obtain ⟨T1, X1, e1, st1⟩ := getF X0 hx hZ hown (host := "") (Or.inl (own_w hw 43 rfl)) Via.refl e0 H2_F (g := (mkF m 2 #[.val (.ref dd), .val (.long site), .second] [(.ref dd), (.long site)])) rfl rfl (hb hby d25_2)
  have pre2 := fun (t : State) (k : Steps p.tables e below (T1.setTop (mkF m 6 #[.val (.ref dd), .val (.long site), .second] [(.int (lcmpW site nx))])) t) => pre0 t (by
    refine XS.lloadN X0.here hx rfl (hb hby d25_0) rfl ?_
    refine XS.aloadN X0.here hx rfl (hb hby d25_1) rfl rfl ?_
    refine st1 _ ?_
    refine XS.lcmp X1.here hx rfl (hb hby d25_5) rfl ?_
    exact k)
  by_cases hc3 : (lcmpW site nx) < (0 : Int32)
  · have pre4 := fun (t : State) (k : Steps p.tables e below (T1.setTop (mkF m 22 #[.val (.ref dd), .val (.long site), .second] [(.int (0 : Int32))])) t) => pre2 t (by
      refine XS.ifYes X1.here hx rfl (pc0 := 6) (pc' := 21) rfl (hb hby d25_6) rfl ((if0 _ _).trans (tlt hc3).1) (by decide) (by decide) ?_
      refine XS.iconst X1.here hx rfl (hb hby d25_21) ?_
      exact k)
    obtain ⟨fs, hr, hrun, hended, hW, hsame⟩ := X1.leave (v := some (.int (0 : Int32))) (hlocks := BodyLoose.notSynchronized Bd) (fun h => by rw [Bd.returns] at h; cases h)
    refine ⟨_, _, pre4 _ ?_, hrun, hended, _, _, rfl, ?_, ⟨_, rfl⟩, hW, hsame.mono (by decide) (by decide)⟩
    · exact retN X1 hx (t := .boolean) Bd.returns (by simp) (hb hby d25_22) hr
    · show Q_ism Z dd oo ah hd cn cz nx rd rn site q0 h0 n0 _ T1.heap _
      rw [e1]
      exact ⟨nx, rd, rn, (0 : Int32), rfl, N0, K0, hrd, (own_J_m hJ hq), (own_res_lt hsi hJ hq hc3), H1_F, H2_F, H4_F, H5_F, H6_F, H7_F⟩
  · obtain ⟨cq5, q5, q5'⟩ := H0_E.cell
    obtain ⟨_, _, ⟨T5, L5, k5, n5⟩, -, X5, ⟨Lc5, hQ5, l5, y5, z5⟩, st5⟩ := X1.privateBack hx (y := (⟨"com/example/fieldglass/fieldglass/io/Marks", "readOnTo", "(J)Z"⟩ : MethodName)) hown (mvT hZ (own_w hw 141 rfl)) (mvT hZ (own_w hw 142 rfl)) (own_sel_priv (z := (⟨"com/example/fieldglass/fieldglass/io/Marks", "beginMessage", "(I)V"⟩ : MethodName)) (mvT hZ (own_w hw 48 rfl)) rfl (mvP hZ (own_w hw 143 rfl)) (mvT hZ (own_w hw 142 rfl)) (by decide)) (Cond.privateMethod_at (mvP hZ (own_w hw 143 rfl) (args := #[]))) (mvT hZ (own_w hw 144 rfl)) (by decide) (backOf (W := 0) (rm_rot l Z a0 hw [] dd oo ah hd cn cz nx rd rn site q0 h0 n0 Z0 H0_E H1_F H2_F H3_E H4_F H5_F H6_F H7_F H8_G hn_dd_oo hn_dd_ah hn_oo_ah hg_dd hg_oo hcz hS hrd hJ hq hsi) hZ (own_w hw 144 rfl) (own_w hw 3 rfl) (by decide) (by decide)) (g := (mkF m 11 #[.val (.ref dd), .val (.long site), .second] [(.long site), (.ref dd)])) rfl (by rw [hml]; rfl) (Steps.refl _) (a := dd) (by rw [e1]; exact q5) q5' (argsL := [(.long site)]) (rest := []) (lenOf pd_11 rfl) rfl (by show 2 * 0 + _ ≤ _; exact Nat.le_of_eq rfl) (hb hby d25_11) (fun _ _ => ⟨rfl, e1, (by decide : 0 + 0 ≤ _), (by decide : 0 + 0 ≤ _)⟩)
    dsimp only [Pt.U, Pt.locs, Pt.cells, Pt.slots] at X5 l5 y5 z5 st5 hQ5
    subst l5 y5 z5
    obtain ⟨x6, x7, x8, x9, rfl, N5q, hq10, hpq11, hpq12, hpq13, F14, F15, F16, F17, F18, F19⟩ := hQ5
    have N5 := Fr.app N0 N5q
    have E20 := H0_E.keep hq10
    have E21 := H3_E.keep hq10
    have G22 := H8_G.keep hq10 (ninS (Ne.symm hn_dd_ah) (ninS (Ne.symm hn_oo_ah) nin0))
    have K5 : Keep h0 T5.heap [dd, oo] := K0.trans hq10 (allS (Or.inl (List.mem_of_getElem? (i := 0) rfl)) (allS (Or.inl (List.mem_of_getElem? (i := 1) rfl)) all0))
    have Zs23 : n0 ≤ T5.heap.size := (Nat.le_trans Z0 hq10.1)
    have pre24 := fun (t : State) (k : Steps p.tables e below (T5.setTop (mkF m 14 #[.val (.ref dd), .val (.long site), .second] [(.int x9)])) t) => pre2 t (by
      refine XS.ifNo X1.here hx rfl (hb hby d25_6) rfl ((if0 _ _).trans (flt hc3).1) ?_
      refine XS.aloadN X1.here hx rfl (hb hby d25_9) rfl rfl ?_
      refine XS.lloadN X1.here hx rfl (hb hby d25_10) rfl ?_
      refine st5.trans ?_
      exact k)
    by_cases hc25 : x9 = (0 : Int32)
    · have pre26 := fun (t : State) (k : Steps p.tables e below (T5.setTop (mkF m 22 #[.val (.ref dd), .val (.long site), .second] [(.int (0 : Int32))])) t) => pre24 t (by
        refine XS.ifYes X5.here hx rfl (pc0 := 14) (pc' := 21) rfl (hb hby d25_14) rfl ((if0 _ _).trans (teq hc25).1) (by decide) (by decide) ?_
        refine XS.iconst X5.here hx rfl (hb hby d25_21) ?_
        exact k)
      obtain ⟨fs, hr, hrun, hended, hW, hsame⟩ := X5.leave (v := some (.int (0 : Int32))) (hlocks := BodyLoose.notSynchronized Bd) (fun h => by rw [Bd.returns] at h; cases h)
      refine ⟨_, _, pre26 _ ?_, hrun, hended, _, _, rfl, ?_, ⟨_, rfl⟩, hW, hsame.mono (by decide) (by decide)⟩
      · exact retN X5 hx (t := .boolean) Bd.returns (by simp) (hb hby d25_22) hr
      · show Q_ism Z dd oo ah hd cn cz nx rd rn site q0 h0 n0 _ T5.heap _
        exact ⟨x6, x7, x8, (0 : Int32), rfl, N5, K5, hpq11, hpq12, (own_res_i0 hpq13 hc25), F14, F15, F16, F17, F18, F19⟩
    · have pre27 := fun (t : State) (k : Steps p.tables e below (T5.setTop (mkF m 22 #[.val (.ref dd), .val (.long site), .second] [(.int (1 : Int32))])) t) => pre24 t (by
        refine XS.ifNo X5.here hx rfl (hb hby d25_14) rfl ((if0 _ _).trans (feq hc25).1) ?_
        refine XS.iconst X5.here hx rfl (hb hby d25_17) ?_
        refine XS.goto X5.here hx rfl (pc0 := 18) (pc' := 22) rfl (hb hby d25_18) (by decide) (by decide) ?_
        exact k)
      obtain ⟨fs, hr, hrun, hended, hW, hsame⟩ := X5.leave (v := some (.int (1 : Int32))) (hlocks := BodyLoose.notSynchronized Bd) (fun h => by rw [Bd.returns] at h; cases h)
      refine ⟨_, _, pre27 _ ?_, hrun, hended, _, _, rfl, ?_, ⟨_, rfl⟩, hW, hsame.mono (by decide) (by decide)⟩
      · exact retN X5 hx (t := .boolean) Bd.returns (by simp) (hb hby d25_22) hr
      · show Q_ism Z dd oo ah hd cn cz nx rd rn site q0 h0 n0 _ T5.heap _
        exact ⟨x6, x7, x8, (1 : Int32), rfl, N5, K5, hpq11, hpq12, (own_res_i1 hpq13 hc25), F14, F15, F16, F17, F18, F19⟩

theorem ef_law (m : MethodId) (x0 : Int32) (x1 : Int64) (x2 : Int64) (x3 : Int64) (x4 : Int64) : entryFrame m #[(.int x0), (.long x1), (.long x2), (.long x3), (.long x4)] maxLocals = mkF m 0 #[.val (.int x0), .val (.long x1), .second, .val (.long x2), .second, .val (.long x3), .second, .val (.long x4), .second, .unset, .unset, .unset, .unset, .unset, .unset, .unset, .unset, .unset, .unset, .unset, .unset, .unset, .unset, .unset, .unset] [] := by first | (simp [entryFrame, mkF, argsToLocals, Value.category, maxLocals]; done) | rfl
def Q_law (Z : State) (p0 : Int32) (qa : Int64) (qb : Int64) (qc : Int64) (qd : Int64) (ab : Addr) (al : Addr) (an : Addr) (kb : ClassId) (kl : ClassId) (ki : ClassId) (h0 : Heap) (n0 : Nat) (v : Option Value) (h : Heap) (L : List Loc) : Prop := v = some (.int (1 : Int32)) ∧ Fr n0 L ∧ Keep h0 h []
set_option maxRecDepth 65536 in
set_option maxHeartbeats 40000000 in
theorem rm_law (l : Launch) (Z : State) (a0 : Array Value) (hw : ∀ d ∈ tables_1, d.before a0 Z = true) (ws : List Jvm.Cond) (p0 : Int32) (qa : Int64) (qb : Int64) (qc : Int64) (qd : Int64) (ab : Addr) (al : Addr) (an : Addr) (kb : ClassId) (kl : ClassId) (ki : ClassId) (h0 : Heap) (n0 : Nat) (Z0 : n0 ≤ h0.size) (H0_S : Sta Z h0 "com/example/fieldglass/fieldglass/io/Marks" "NO_BOOLEANS" "[Z" (.ref ab)) (H1_S : Sta Z h0 "com/example/fieldglass/fieldglass/io/Marks" "NO_LONGS" "[J" (.ref al)) (H2_S : Sta Z h0 "com/example/fieldglass/fieldglass/io/Marks" "NO_INTS" "[I" (.ref an)) (H3_A : Arv Z h0 ab kb .boolean (0 : Int32) [] (.int (0 : Int32))) (H4_A : Arv Z h0 al kl .long (0 : Int32) [] (.long (0 : Int64))) (H5_A : Arv Z h0 an ki .int (0 : Int32) [] (.int (0 : Int32))) :
    MetFree l x (head1 (Jvm.Cond.code x code maxLocals ret :: ws) room_1) (fun as_ U_ => as_ = #[(.int p0), (.long qa), (.long qb), (.long qc), (.long qd)] ∧ Z.Warmed39 U_.vm ∧ U_.heap = h0) (fun _ _ _ _ _ => True) (fun _ U o U' => ∃ v L, o = .returned v ∧ Q_law Z p0 qa qb qc qd ab al an kb kl ki h0 n0 v U'.heap L ∧ FrameEnd U o U' L 7 97) := by
  refine MetFree.of_bodySF (plainFor_of_name pn_3) hisR ?_
  intro p e s m args below meth c s₁ Bd hml0 hP hK
  obtain ⟨rfl, hZ, hhp_⟩ := hP
  have hx := Bd.exec
  have hby := Bd.bytes
  have hml : c.maxLocals = 25 := hml0
  have hown : s.vm.findClass "com/example/fieldglass/fieldglass/io/MarksEndMessagePinLaw" = some m.cls := findClass_of_methodNamed Bd.named
  have hnm := (name_of_methodNamed Bd.named Bd.method).1
  have X0 : Stand p l e room_1 s m #[(.int p0), (.long qa), (.long qb), (.long qc), (.long qd)] below meth c s₁ [] 0 0 := Stand.of_body Bd
  have e0 : s₁.heap = h0 := by rw [← hhp_, Bd.state]; rfl
  have N0 := Fr.nil n0
  have pre0 : ∀ t, Steps p.tables e below (s₁.setTop (mkF m 0 #[.val (.int p0), .val (.long qa), .second, .val (.long qb), .second, .val (.long qc), .second, .val (.long qd), .second, .unset, .unset, .unset, .unset, .unset, .unset, .unset, .unset, .unset, .unset, .unset, .unset, .unset, .unset, .unset, .unset] [])) t → Steps p.tables e below (s₁.setTop (entryFrame m #[(.int p0), (.long qa), (.long qb), (.long qc), (.long qd)] maxLocals)) t := fun t k => castTop (ef_law m p0 qa qb qc qd) k
  have K0 : Keep h0 h0 [] := Keep.refl h0 []
  have t59 : ∀ (lev : Int32) (ln : Nat) (mo : Int32) (g0 : Int64) (s1 : Int64) (g2 : Int64) (s2 : Int64) (T_t59 : State) (Lt_t59 : List Loc) (N_t59 : Fr n0 Lt_t59) (X_t59 : Stand p l e room_1 s m #[(.int p0), (.long qa), (.long qb), (.long qc), (.long qd)] below meth c T_t59 Lt_t59 0 0) (e_t59 : T_t59.heap = h0) (t59_0 : own_ix lev ln) (t59_1 : ln < 8) (t59_2 : mo = (0 : Int32) ∨ mo = (1 : Int32) ∨ mo = (2 : Int32) ∨ mo = (3 : Int32)) (t59_3 : own_v4 g0 s1 g2 s2), ∃ s₂ o, Steps p.tables e below (T_t59.setTop (mkF m 59 #[.val (.int p0), .val (.long qa), .second, .val (.long qb), .second, .val (.long qc), .second, .val (.long qd), .second, .val (.int lev), .val (.int mo), .val (.long g0), .second, .val (.long s1), .second, .val (.long g2), .second, .val (.long s2), .second, .unset, .unset, .unset, .unset, .unset, .unset] [])) s₂ ∧ s₂.status = .running ∧ Ended s₂ below o ∧ ∃ v L, o = .returned v ∧ Q_law Z p0 qa qb qc qd ab al an kb kl ki h0 n0 v s₂.heap L ∧ FrameEnd s o s₂ L 7 97 := by
    intro lev ln mo g0 s1 g2 s2 T_t59 Lt_t59 N_t59 X_t59 e_t59 t59_0 t59_1 t59_2 t59_3
    have pre_t59 := fun (t : State) (k : Steps p.tables e below (T_t59.setTop (mkF m 59 #[.val (.int p0), .val (.long qa), .second, .val (.long qb), .second, .val (.long qc), .second, .val (.long qd), .second, .val (.int lev), .val (.int mo), .val (.long g0), .second, .val (.long s1), .second, .val (.long g2), .second, .val (.long s2), .second, .unset, .unset, .unset, .unset, .unset, .unset] [])) t) => k
    obtain ⟨T1, h1, X1, e1, E1, A1, D1, -, st1⟩ := newO X_t59 hx hZ hown (own_w hw 1 rfl) (own_w hw 2 rfl) (own_w hw 3 rfl) e_t59 (g := (mkF m 59 #[.val (.int p0), .val (.long qa), .second, .val (.long qb), .second, .val (.long qc), .second, .val (.long qd), .second, .val (.int lev), .val (.int mo), .val (.long g0), .second, .val (.long s1), .second, .val (.long g2), .second, .val (.long s2), .second, .unset, .unset, .unset, .unset, .unset, .unset] [])) rfl (hb hby at_59) (by decide) (by decide)
    obtain ⟨b1, g1⟩ : ∃ z, z = h0.size := ⟨_, rfl⟩
    have ne_ab_b1 : ab ≠ b1 := Nat.ne_of_lt (Nat.lt_of_lt_of_le H3_A.lt (Nat.le_of_eq g1.symm))
    have ne_al_b1 : al ≠ b1 := Nat.ne_of_lt (Nat.lt_of_lt_of_le H4_A.lt (Nat.le_of_eq g1.symm))
    have ne_an_b1 : an ≠ b1 := Nat.ne_of_lt (Nat.lt_of_lt_of_le H5_A.lt (Nat.le_of_eq g1.symm))
    have ge_b1 : n0 ≤ b1 := Nat.le_trans Z0 (Nat.le_of_eq g1.symm)
    have sz_b1 : h0.size ≤ b1 := Nat.le_trans K0.1 (Nat.le_of_eq g1.symm)
    rw [← g1] at A1 D1 st1
    have S2 := H0_S.ext E1
    have S3 := H1_S.ext E1
    have S4 := H2_S.ext E1
    have A5 := H3_A.ext E1
    have A6 := H4_A.ext E1
    have A7 := H5_A.ext E1
    have K1 : Keep h0 h1 [] := K0.ext E1
    have Zs8 : n0 ≤ h1.size := (Nat.le_trans Z0 E1.1)
    have F9 : Fld Z h1 b1 "com/example/fieldglass/fieldglass/io/Marks" "messages" "[Z" .null := D1 (Or.inl (own_w hw 13 rfl)) (ty := (.array .boolean)) (by decide)
    have F10 : Fld Z h1 b1 "com/example/fieldglass/fieldglass/io/Marks" "firstFieldSites" "[J" .null := D1 (Or.inl (own_w hw 17 rfl)) (ty := (.array .long)) (by decide)
    have F11 : Fld Z h1 b1 "com/example/fieldglass/fieldglass/io/Marks" "fieldSites" "[I" .null := D1 (Or.inl (own_w hw 21 rfl)) (ty := (.array .int)) (by decide)
    have F12 : Fld Z h1 b1 "com/example/fieldglass/fieldglass/io/Marks" "slots" "[J" .null := D1 (Or.inl (own_w hw 23 rfl)) (ty := (.array .long)) (by decide)
    have F13 : Fld Z h1 b1 "com/example/fieldglass/fieldglass/io/Marks" "deepestFields" "I" (.int (0 : Int32)) := D1 (Or.inl (own_w hw 25 rfl)) (ty := .int) (by decide)
    have F14 : Fld Z h1 b1 "com/example/fieldglass/fieldglass/io/Marks" "marking" "Z" (.int (0 : Int32)) := D1 (Or.inl (own_w hw 27 rfl)) (ty := .boolean) (by decide)
    have F15 : Fld Z h1 b1 "com/example/fieldglass/fieldglass/io/Marks" "order" "Lcom/example/fieldglass/fieldglass/io/Marks$Order;" .null := D1 (Or.inr (own_w hw 41 rfl)) (ty := (.object "com/example/fieldglass/fieldglass/io/Marks$Order")) (by decide)
    have F16 : Fld Z h1 b1 "com/example/fieldglass/fieldglass/io/Marks" "next" "J" (.long (0 : Int64)) := D1 (Or.inl (own_w hw 44 rfl)) (ty := .long) (by decide)
    have F17 : Fld Z h1 b1 "com/example/fieldglass/fieldglass/io/Marks" "slotted" "I" (.int (0 : Int32)) := D1 (Or.inl (own_w hw 84 rfl)) (ty := .int) (by decide)
    obtain ⟨_, _, ⟨T18, L18, k18, n18⟩, -, X18, ⟨Lc18, hQ18, l18, y18, z18⟩, st18⟩ := X1.specialBack hx (y := (⟨"com/example/fieldglass/fieldglass/io/Marks", "<init>", "()V"⟩ : MethodName)) rfl hown (mvT hZ (own_w hw 4 rfl)) (mvT hZ (own_w hw 5 rfl)) (mvT hZ (own_w hw 6 rfl)) (by decide) (backOf (W := 1) (rm_mki l Z a0 hw [] b1 ab al an h1 n0 Zs8 A1 F9 F10 F11 F12 F17 F13 F14 F15 F16 S2 S3 S4 ge_b1) hZ (own_w hw 6 rfl) (own_w hw 3 rfl) (by decide) (by decide)) (g := (mkF m 63 #[.val (.int p0), .val (.long qa), .second, .val (.long qb), .second, .val (.long qc), .second, .val (.long qd), .second, .val (.int lev), .val (.int mo), .val (.long g0), .second, .val (.long s1), .second, .val (.long g2), .second, .val (.long s2), .second, .unset, .unset, .unset, .unset, .unset, .unset] [(.ref b1), (.ref b1)])) rfl (by rw [hml]; rfl) (Steps.refl _) (a := b1) (argsL := []) (rest := [(.ref b1)]) (lenOf pd_1 rfl) rfl (by show 2 * 0 + _ ≤ _; exact Nat.le_of_eq rfl) (hb hby at_63) (fun _ _ => ⟨rfl, e1, (by decide : 1 + 1 ≤ _), (by decide : 9 + 8 ≤ _)⟩)
    dsimp only [Pt.U, Pt.locs, Pt.cells, Pt.slots] at X18 l18 y18 z18 st18 hQ18
    subst l18 y18 z18
    obtain ⟨x19, rfl, N18q, hq20, hpq21, hpq22, F23, F24, F25, F26, F27, F28, F29, F30, F31, E32, F33, F34, F35, F36⟩ := hQ18
    have N18 := Fr.app N_t59 N18q
    have lt37 : ab < h1.size := A5.lt
    have lt38 : al < h1.size := A6.lt
    have lt39 : an < h1.size := A7.lt
    have lt40 : b1 < h1.size := A1.lt
    have S41 := own_sta_keep S2 hq20 (allS (own_ns_exa A1) all0)
    have S42 := own_sta_keep S3 hq20 (allS (own_ns_exa A1) all0)
    have S43 := own_sta_keep S4 hq20 (allS (own_ns_exa A1) all0)
    have A44 := A5.keep hq20 (ninS ne_ab_b1 nin0)
    have A45 := A6.keep hq20 (ninS ne_al_b1 nin0)
    have A46 := A7.keep hq20 (ninS ne_an_b1 nin0)
    have E47 := A1.keep hq20
    have K18 : Keep h0 T18.heap [] := K1.trans hq20 (allS (Or.inr sz_b1) all0)
    have Zs48 : n0 ≤ T18.heap.size := (Nat.le_trans Zs8 hq20.1)
    have ne49 : ab ≠ x19 := Nat.ne_of_lt (Nat.lt_of_lt_of_le lt37 hpq22)
    have ne50 : al ≠ x19 := Nat.ne_of_lt (Nat.lt_of_lt_of_le lt38 hpq22)
    have ne51 : an ≠ x19 := Nat.ne_of_lt (Nat.lt_of_lt_of_le lt39 hpq22)
    have ne52 : b1 ≠ x19 := Nat.ne_of_lt (Nat.lt_of_lt_of_le lt40 hpq22)
    have sz53 : h0.size ≤ x19 := Nat.le_trans K1.1 hpq22
    obtain ⟨cq54, kq54, q54a, q54b, q54c⟩ := isOf hZ rfl E47
    obtain ⟨_, _, ⟨T54, L54, k54, n54⟩, -, X54, ⟨Lc54, hQ54, l54, y54, z54⟩, st54⟩ := X18.virtualBack hx (y := (⟨"com/example/fieldglass/fieldglass/io/Marks", "beginMessage", "(I)V"⟩ : MethodName)) (z := (⟨"com/example/fieldglass/fieldglass/io/Marks", "beginMessage", "(I)V"⟩ : MethodName)) hown (mvT hZ (own_w hw 45 rfl)) (mvT hZ (own_w hw 46 rfl)) (notFace_of_selects (args := #[]) (mvT hZ (own_w hw 48 rfl))) (mvT hZ (own_w hw 48 rfl)) (mvT hZ (own_w hw 47 rfl)) (by decide) (backOf (W := 0) (rm_bm l Z a0 hw [] b1 x19 ab al an kb kl ki lev ln T18.heap n0 Zs48 E47 F23 F24 F25 F26 F27 F28 F29 F30 F31 A44 A45 A46 t59_0 ge_b1 t59_1 (Ne.symm ne_ab_b1) (Ne.symm ne_al_b1) (Ne.symm ne_an_b1)) hZ (own_w hw 49 rfl) (own_w hw 3 rfl) (by decide) (by decide)) q54a q54c (g := (mkF m 72 #[.val (.int p0), .val (.long qa), .second, .val (.long qb), .second, .val (.long qc), .second, .val (.long qd), .second, .val (.int lev), .val (.int mo), .val (.long g0), .second, .val (.long s1), .second, .val (.long g2), .second, .val (.long s2), .second, .val (.ref b1), .unset, .unset, .unset, .unset, .unset] [(.int lev), (.ref b1)])) rfl (by rw [hml]; rfl) (Steps.refl _) (argsL := [(.int lev)]) (rest := []) (lenOf pd_5 rfl) rfl (by show 2 * 0 + _ ≤ _; exact Nat.le_of_eq rfl) (hb hby at_72) (fun _ _ => ⟨rfl, rfl, (by decide : 2 + 4 ≤ _), (by decide : 17 + 64 ≤ _)⟩)
    dsimp only [Pt.U, Pt.locs, Pt.cells, Pt.slots] at X54 l54 y54 z54 st54 hQ54
    subst l54 y54 z54
    obtain ⟨x55, x56, x57, x58, rfl, N54q, hq59, hpq60, hpq61, hpq62, hpq63, hpq64, hpq65, hpq66, hpq67, hpq68, hpq69, hpq70, hpq71, hpq72, hpq73, F74, F75, F76, F77, F78, F79, F80, F81, F82, G83, G84, G85, G86⟩ := hQ54
    have N54 := Fr.app N18 N54q
    have lt87 : ab < T18.heap.size := A44.lt
    have lt88 : al < T18.heap.size := A45.lt
    have lt89 : an < T18.heap.size := A46.lt
    have lt90 : b1 < T18.heap.size := E47.lt
    have lt91 : x19 < T18.heap.size := E32.lt
    have S92 := own_sta_keep S41 hq59 (allS (own_ns_exa E47) all0)
    have S93 := own_sta_keep S42 hq59 (allS (own_ns_exa E47) all0)
    have S94 := own_sta_keep S43 hq59 (allS (own_ns_exa E47) all0)
    have A95 := A44.keep hq59 (ninS ne_ab_b1 nin0)
    have A96 := A45.keep hq59 (ninS ne_al_b1 nin0)
    have A97 := A46.keep hq59 (ninS ne_an_b1 nin0)
    have E98 := E47.keep hq59
    have E99 := E32.keep hq59
    have F100 := F33.keep hq59 (ninS (Ne.symm ne52) nin0)
    have F101 := F34.keep hq59 (ninS (Ne.symm ne52) nin0)
    have F102 := F35.keep hq59 (ninS (Ne.symm ne52) nin0)
    have F103 := F36.keep hq59 (ninS (Ne.symm ne52) nin0)
    have K54 : Keep h0 T54.heap [] := K18.trans hq59 (allS (Or.inr sz_b1) all0)
    have Zs104 : n0 ≤ T54.heap.size := (Nat.le_trans Zs48 hq59.1)
    have ne105 : ab ≠ x55 := Nat.ne_of_lt (Nat.lt_of_lt_of_le lt87 hpq61)
    have ne106 : al ≠ x55 := Nat.ne_of_lt (Nat.lt_of_lt_of_le lt88 hpq61)
    have ne107 : an ≠ x55 := Nat.ne_of_lt (Nat.lt_of_lt_of_le lt89 hpq61)
    have ne108 : b1 ≠ x55 := Nat.ne_of_lt (Nat.lt_of_lt_of_le lt90 hpq61)
    have ne109 : x19 ≠ x55 := Nat.ne_of_lt (Nat.lt_of_lt_of_le lt91 hpq61)
    have sz110 : h0.size ≤ x55 := Nat.le_trans K18.1 hpq61
    have ne111 : ab ≠ x56 := Nat.ne_of_lt (Nat.lt_of_lt_of_le lt87 hpq63)
    have ne112 : al ≠ x56 := Nat.ne_of_lt (Nat.lt_of_lt_of_le lt88 hpq63)
    have ne113 : an ≠ x56 := Nat.ne_of_lt (Nat.lt_of_lt_of_le lt89 hpq63)
    have ne114 : b1 ≠ x56 := Nat.ne_of_lt (Nat.lt_of_lt_of_le lt90 hpq63)
    have ne115 : x19 ≠ x56 := Nat.ne_of_lt (Nat.lt_of_lt_of_le lt91 hpq63)
    have sz116 : h0.size ≤ x56 := Nat.le_trans K18.1 hpq63
    have ne117 : ab ≠ x57 := Nat.ne_of_lt (Nat.lt_of_lt_of_le lt87 hpq65)
    have ne118 : al ≠ x57 := Nat.ne_of_lt (Nat.lt_of_lt_of_le lt88 hpq65)
    have ne119 : an ≠ x57 := Nat.ne_of_lt (Nat.lt_of_lt_of_le lt89 hpq65)
    have ne120 : b1 ≠ x57 := Nat.ne_of_lt (Nat.lt_of_lt_of_le lt90 hpq65)
    have ne121 : x19 ≠ x57 := Nat.ne_of_lt (Nat.lt_of_lt_of_le lt91 hpq65)
    have sz122 : h0.size ≤ x57 := Nat.le_trans K18.1 hpq65
    have ne123 : ab ≠ x58 := Nat.ne_of_lt (Nat.lt_of_lt_of_le lt87 hpq67)
    have ne124 : al ≠ x58 := Nat.ne_of_lt (Nat.lt_of_lt_of_le lt88 hpq67)
    have ne125 : an ≠ x58 := Nat.ne_of_lt (Nat.lt_of_lt_of_le lt89 hpq67)
    have ne126 : b1 ≠ x58 := Nat.ne_of_lt (Nat.lt_of_lt_of_le lt90 hpq67)
    have ne127 : x19 ≠ x58 := Nat.ne_of_lt (Nat.lt_of_lt_of_le lt91 hpq67)
    have sz128 : h0.size ≤ x58 := Nat.le_trans K18.1 hpq67
    have pre129 := fun (t : State) (k : Steps p.tables e below (T54.setTop (mkF m 75 #[.val (.int p0), .val (.long qa), .second, .val (.long qb), .second, .val (.long qc), .second, .val (.long qd), .second, .val (.int lev), .val (.int mo), .val (.long g0), .second, .val (.long s1), .second, .val (.long g2), .second, .val (.long s2), .second, .val (.ref b1), .unset, .unset, .unset, .unset, .unset] [])) t) => pre_t59 t (by
      refine st1 _ ?_
      refine XS.dup X1.here hx rfl (hb hby at_62) rfl rfl ?_
      refine st18.trans ?_
      refine XS.astore X18.here hx rfl (hb hby at_66) rfl rfl (l' := #[.val (.int p0), .val (.long qa), .second, .val (.long qb), .second, .val (.long qc), .second, .val (.long qd), .second, .val (.int lev), .val (.int mo), .val (.long g0), .second, .val (.long s1), .second, .val (.long g2), .second, .val (.long s2), .second, .val (.ref b1), .unset, .unset, .unset, .unset, .unset]) rfl ?_
      refine XS.aload X18.here hx rfl (hb hby at_68) rfl rfl ?_
      refine XS.iload X18.here hx rfl (hb hby at_70) rfl ?_
      refine st54.trans ?_
      exact k)
    rcases t59_2 with rfl | rfl | rfl | rfl
    · obtain ⟨cq130, kq130, q130a, q130b, q130c⟩ := isOf hZ rfl E98
      obtain ⟨_, _, ⟨T130, L130, k130, n130⟩, -, X130, ⟨Lc130, hQ130, l130, y130, z130⟩, st130⟩ := X54.virtualBack hx (y := (⟨"com/example/fieldglass/fieldglass/io/Marks", "endMessage", "(I)V"⟩ : MethodName)) (z := (⟨"com/example/fieldglass/fieldglass/io/Marks", "endMessage", "(I)V"⟩ : MethodName)) hown (mvT hZ (own_w hw 78 rfl)) (mvT hZ (own_w hw 79 rfl)) (notFace_of_selects (args := #[]) (mvT hZ (own_w hw 81 rfl))) (mvT hZ (own_w hw 81 rfl)) (mvT hZ (own_w hw 80 rfl)) (by decide) (backOf (W := 0) (rm_em0 l Z a0 hw [] b1 x19 x55 x56 x57 x58 (own_up (fun _ => (0 : Int32)) ln (1 : Int32)) (fun _ => (0 : Int64)) (fun _ => (0 : Int32)) (fun _ => (0 : Int64)) (0 : Int32) (0 : Int32) (-1 : Int32) lev ln T54.heap n0 Zs104 E98 F74 F75 F76 F77 F78 F79 F80 F81 F82 G83 G84 G85 G86 ne52 ne108 ne114 ne120 ne126 ne109 ne115 ne121 ne127 hpq68 hpq69 hpq70 hpq71 hpq72 hpq73 ge_b1 hpq60 t59_0 (own_m1n t59_0) (fun q => absurd q (own_ix_nn t59_0)) (fun _ => rfl)) hZ (own_w hw 82 rfl) (own_w hw 3 rfl) (by decide) (by decide)) q130a q130c (g := (mkF m 157 #[.val (.int p0), .val (.long qa), .second, .val (.long qb), .second, .val (.long qc), .second, .val (.long qd), .second, .val (.int lev), .val (.int (0 : Int32)), .val (.long g0), .second, .val (.long s1), .second, .val (.long g2), .second, .val (.long s2), .second, .val (.ref b1), .unset, .unset, .unset, .unset, .unset] [(.int lev), (.ref b1)])) rfl (by rw [hml]; rfl) (Steps.refl _) (argsL := [(.int lev)]) (rest := []) (lenOf pd_5 rfl) rfl (by show 2 * 0 + _ ≤ _; exact Nat.le_of_eq rfl) (hb hby at_157) (fun _ _ => ⟨rfl, rfl, (by decide : 6 + 0 ≤ _), (by decide : 81 + 0 ≤ _)⟩)
      dsimp only [Pt.U, Pt.locs, Pt.cells, Pt.slots] at X130 l130 y130 z130 st130 hQ130
      subst l130 y130 z130
      obtain ⟨rfl, N130q, hq131, E132, F133, F134, F135, F136, F137, F138, F139, F140, F141, G142, G143, G144, G145⟩ := hQ130
      have N130 := Fr.app N54 N130q
      have A146 := A96.keep hq131 (ninS ne_al_b1 (ninS ne106 nin0))
      have E147 := E99.keep hq131
      have F148 := F100.keep hq131 (ninS (Ne.symm ne52) (ninS ne109 nin0))
      have F149 := F101.keep hq131 (ninS (Ne.symm ne52) (ninS ne109 nin0))
      have F150 := F102.keep hq131 (ninS (Ne.symm ne52) (ninS ne109 nin0))
      have F151 := F103.keep hq131 (ninS (Ne.symm ne52) (ninS ne109 nin0))
      have K130 : Keep h0 T130.heap [] := K54.trans hq131 (allS (Or.inr sz_b1) (allS (Or.inr sz110) all0))
      have Zs152 : n0 ≤ T130.heap.size := (Nat.le_trans Zs104 hq131.1)
      obtain ⟨cq153, kq153, q153a, q153b, q153c⟩ := isOf hZ rfl E132
      obtain ⟨_, _, ⟨T153, L153, k153, n153⟩, -, X153, ⟨Lc153, hQ153, l153, y153, z153⟩, st153⟩ := X130.virtualBack hx (y := (⟨"com/example/fieldglass/fieldglass/io/Marks", "beginFields", "(IJI)V"⟩ : MethodName)) (z := (⟨"com/example/fieldglass/fieldglass/io/Marks", "beginFields", "(IJI)V"⟩ : MethodName)) hown (mvT hZ (own_w hw 86 rfl)) (mvT hZ (own_w hw 87 rfl)) (notFace_of_selects (args := #[]) (mvT hZ (own_w hw 89 rfl))) (mvT hZ (own_w hw 89 rfl)) (mvT hZ (own_w hw 88 rfl)) (by decide) (backOf (W := 0) (rm_bf l Z a0 hw [] b1 x19 x55 x56 x57 x58 (own_up (own_up (fun _ => (0 : Int32)) ln (1 : Int32)) ln (0 : Int32)) (fun _ => (0 : Int64)) (fun _ => (0 : Int32)) (fun _ => (0 : Int64)) (0 : Int32) (-1 : Int32) lev ln s2 T130.heap n0 Zs152 E132 F133 F134 F135 F136 F137 F138 F139 F140 F141 G142 G143 G144 G145 ne52 ne108 ne114 ne120 ne126 ne109 ne115 ne121 ne127 hpq68 hpq69 hpq70 hpq71 hpq72 hpq73 ge_b1 hpq62 hpq64 t59_0 (fun q => absurd (own_m1 t59_0) q)) hZ (own_w hw 90 rfl) (own_w hw 3 rfl) (by decide) (by decide)) q153a q153c (g := (mkF m 167 #[.val (.int p0), .val (.long qa), .second, .val (.long qb), .second, .val (.long qc), .second, .val (.long qd), .second, .val (.int lev), .val (.int (0 : Int32)), .val (.long g0), .second, .val (.long s1), .second, .val (.long g2), .second, .val (.long s2), .second, .val (.ref b1), .unset, .unset, .unset, .unset, .unset] [(.int (1 : Int32)), (.long s2), (.int lev), (.ref b1)])) rfl (by rw [hml]; rfl) (Steps.refl _) (argsL := [(.int lev), (.long s2), (.int (1 : Int32))]) (rest := []) (lenOf pd_12 rfl) rfl (by show 2 * 0 + _ ≤ _; exact Nat.le_of_eq rfl) (hb hby at_167) (fun _ _ => ⟨rfl, rfl, (by decide : 6 + 0 ≤ _), (by decide : 81 + 0 ≤ _)⟩)
      dsimp only [Pt.U, Pt.locs, Pt.cells, Pt.slots] at X153 l153 y153 z153 st153 hQ153
      subst l153 y153 z153
      obtain ⟨rfl, N153q, hq154, E155, F156, F157, F158, F159, F160, F161, F162, F163, F164, G165, G166, G167, G168⟩ := hQ153
      have N153 := Fr.app N130 N153q
      have A169 := A146.keep hq154 (ninS ne_al_b1 (ninS ne112 (ninS ne118 nin0)))
      have E170 := E147.keep hq154
      have F171 := F148.keep hq154 (ninS (Ne.symm ne52) (ninS ne115 (ninS ne121 nin0)))
      have F172 := F149.keep hq154 (ninS (Ne.symm ne52) (ninS ne115 (ninS ne121 nin0)))
      have F173 := F150.keep hq154 (ninS (Ne.symm ne52) (ninS ne115 (ninS ne121 nin0)))
      have F174 := F151.keep hq154 (ninS (Ne.symm ne52) (ninS ne115 (ninS ne121 nin0)))
      have K153 : Keep h0 T153.heap [] := K130.trans hq154 (allS (Or.inr sz_b1) (allS (Or.inr sz116) (allS (Or.inr sz122) all0)))
      have Zs175 : n0 ≤ T153.heap.size := (Nat.le_trans Zs152 hq154.1)
      obtain ⟨cq176, kq176, q176a, q176b, q176c⟩ := isOf hZ rfl E155
      obtain ⟨_, _, ⟨T176, L176, k176, n176⟩, -, X176, ⟨Lc176, hQ176, l176, y176, z176⟩, st176⟩ := X153.virtualBack hx (y := (⟨"com/example/fieldglass/fieldglass/io/Marks", "markField", "(IJ)V"⟩ : MethodName)) (z := (⟨"com/example/fieldglass/fieldglass/io/Marks", "markField", "(IJ)V"⟩ : MethodName)) hown (mvT hZ (own_w hw 91 rfl)) (mvT hZ (own_w hw 92 rfl)) (notFace_of_selects (args := #[]) (mvT hZ (own_w hw 94 rfl))) (mvT hZ (own_w hw 94 rfl)) (mvT hZ (own_w hw 93 rfl)) (by decide) (backOf (W := 0) (rm_mfG l Z a0 hw [] b1 x19 x55 x56 x57 x58 (own_up (own_up (fun _ => (0 : Int32)) ln (1 : Int32)) ln (0 : Int32)) (own_up (fun _ => (0 : Int64)) ln s2) (own_up (fun _ => (0 : Int32)) ln (1 : Int32)) (fun _ => (0 : Int64)) al kl lev (own_cf0 ln) lev ln s2 (ln + 1) T153.heap n0 Zs175 E155 F156 F157 F158 F159 F160 F161 F162 F163 F164 G165 G166 G167 G168 E170 F171 F172 F173 F174 A169 ne52 ne108 ne114 ne120 ne126 (Ne.symm ne_al_b1) ne109 ne115 ne121 ne127 (Ne.symm ne50) hpq68 hpq69 hpq70 (Ne.symm ne106) hpq71 hpq72 (Ne.symm ne112) hpq73 (Ne.symm ne118) (Ne.symm ne124) ge_b1 hpq21 hpq66 t59_0 (own_cf_0 t59_1) (own_k0_0 ln) (own_p_0 t59_1)) hZ (own_w hw 95 rfl) (own_w hw 3 rfl) (by decide) (by decide)) q176a q176c (g := (mkF m 176 #[.val (.int p0), .val (.long qa), .second, .val (.long qb), .second, .val (.long qc), .second, .val (.long qd), .second, .val (.int lev), .val (.int (0 : Int32)), .val (.long g0), .second, .val (.long s1), .second, .val (.long g2), .second, .val (.long s2), .second, .val (.ref b1), .unset, .unset, .unset, .unset, .unset] [(.long s2), (.int lev), (.ref b1)])) rfl (by rw [hml]; rfl) (Steps.refl _) (argsL := [(.int lev), (.long s2)]) (rest := []) (lenOf pd_13 rfl) rfl (by show 2 * 0 + _ ≤ _; exact Nat.le_of_eq rfl) (hb hby at_176) (fun _ _ => ⟨rfl, rfl, (by decide : 6 + 1 ≤ _), (by decide : 81 + 16 ≤ _)⟩)
      dsimp only [Pt.U, Pt.locs, Pt.cells, Pt.slots] at X176 l176 y176 z176 st176 hQ176
      subst l176 y176 z176
      obtain ⟨x177, x178, x179, x180, x181, rfl, N176q, hq182, hpq183, hpq184, hpq185, E186, F187, F188, F189, F190, F191, F192, F193, F194, F195, G196, G197, G198, G199, E200, F201, F202, F203, F204, G205⟩ := hQ176
      have N176 := Fr.app N153 N176q
      have lt206 : al < T153.heap.size := A169.lt
      have lt207 : x19 < T153.heap.size := E170.lt
      have lt208 : b1 < T153.heap.size := E155.lt
      have lt209 : x55 < T153.heap.size := G165.lt
      have lt210 : x56 < T153.heap.size := G166.lt
      have lt211 : x57 < T153.heap.size := G167.lt
      have lt212 : x58 < T153.heap.size := G168.lt
      have A213 := A169.keep hq182 (ninS ne_al_b1 (ninS ne50 (ninS ne124 nin0)))
      have K176 : Keep h0 T176.heap [] := K153.trans hq182 (allS (Or.inr sz_b1) (allS (Or.inr sz53) (allS (Or.inr sz128) all0)))
      have Zs214 : n0 ≤ T176.heap.size := (Nat.le_trans Zs175 hq182.1)
      have ne215 : al ≠ x177 := Nat.ne_of_lt (Nat.lt_of_lt_of_le lt206 hpq184)
      have ne216 : x19 ≠ x177 := Nat.ne_of_lt (Nat.lt_of_lt_of_le lt207 hpq184)
      have ne217 : b1 ≠ x177 := Nat.ne_of_lt (Nat.lt_of_lt_of_le lt208 hpq184)
      have ne218 : x55 ≠ x177 := Nat.ne_of_lt (Nat.lt_of_lt_of_le lt209 hpq184)
      have ne219 : x56 ≠ x177 := Nat.ne_of_lt (Nat.lt_of_lt_of_le lt210 hpq184)
      have ne220 : x57 ≠ x177 := Nat.ne_of_lt (Nat.lt_of_lt_of_le lt211 hpq184)
      have ne221 : x58 ≠ x177 := Nat.ne_of_lt (Nat.lt_of_lt_of_le lt212 hpq184)
      have sz222 : h0.size ≤ x177 := Nat.le_trans K153.1 hpq184
      obtain ⟨cq223, kq223, q223a, q223b, q223c⟩ := isOf hZ rfl E186
      obtain ⟨_, _, ⟨T223, L223, k223, n223⟩, -, X223, ⟨Lc223, hQ223, l223, y223, z223⟩, st223⟩ := X176.virtualBack hx (y := (⟨"com/example/fieldglass/fieldglass/io/Marks", "endGroup", "(IJZ)V"⟩ : MethodName)) (z := (⟨"com/example/fieldglass/fieldglass/io/Marks", "endGroup", "(IJZ)V"⟩ : MethodName)) hown (mvT hZ (own_w hw 130 rfl)) (mvT hZ (own_w hw 131 rfl)) (notFace_of_selects (args := #[]) (mvT hZ (own_w hw 133 rfl))) (mvT hZ (own_w hw 133 rfl)) (mvT hZ (own_w hw 132 rfl)) (by decide) (backOf (W := 0) (rm_egN l Z a0 hw [] b1 x19 x55 x56 x57 x58 (own_up (own_up (fun _ => (0 : Int32)) ln (1 : Int32)) ln (0 : Int32)) (own_up (fun _ => (0 : Int64)) ln s2) (own_up (fun _ => (0 : Int32)) ln (1 : Int32)) x178 x177 x179 x180 x181 lev lev ln g2 ln T176.heap n0 Zs214 E186 F187 F188 F189 F190 F191 F192 F193 F194 F195 G196 G197 G198 G199 E200 F201 F202 F203 F204 G205 ne52 ne108 ne114 ne120 ne126 ne217 ne109 ne115 ne121 ne127 ne216 hpq68 hpq69 hpq70 ne218 hpq71 hpq72 ne219 hpq73 ne220 ne221 hpq183 t59_0 (own_mk_lt t59_0 hpq185) (own_pg0 t59_1 hpq185) ge_b1) hZ (own_w hw 134 rfl) (own_w hw 3 rfl) (by decide) (by decide)) q223a q223c (g := (mkF m 186 #[.val (.int p0), .val (.long qa), .second, .val (.long qb), .second, .val (.long qc), .second, .val (.long qd), .second, .val (.int lev), .val (.int (0 : Int32)), .val (.long g0), .second, .val (.long s1), .second, .val (.long g2), .second, .val (.long s2), .second, .val (.ref b1), .unset, .unset, .unset, .unset, .unset] [(.int (0 : Int32)), (.long g2), (.int lev), (.ref b1)])) rfl (by rw [hml]; rfl) (Steps.refl _) (argsL := [(.int lev), (.long g2), (.int (0 : Int32))]) (rest := []) (lenOf pd_14 rfl) rfl (by show 2 * 0 + _ ≤ _; exact Nat.le_of_eq rfl) (hb hby at_186) (fun _ _ => ⟨rfl, rfl, (by decide : 7 + 0 ≤ _), (by decide : 97 + 0 ≤ _)⟩)
      dsimp only [Pt.U, Pt.locs, Pt.cells, Pt.slots] at X223 l223 y223 z223 st223 hQ223
      subst l223 y223 z223
      obtain ⟨rfl, N223q, hq224, E225, F226, F227, F228, F229, F230, F231, F232, F233, F234, G235, G236, G237, G238, G239⟩ := hQ223
      have N223 := Fr.app N176 N223q
      have E240 := E200.keep hq224
      have F241 := F201.keep hq224 (ninS (Ne.symm ne52) (ninS ne216 nin0))
      have F242 := F202.keep hq224 (ninS (Ne.symm ne52) (ninS ne216 nin0))
      have F243 := F203.keep hq224 (ninS (Ne.symm ne52) (ninS ne216 nin0))
      have F244 := F204.keep hq224 (ninS (Ne.symm ne52) (ninS ne216 nin0))
      have K223 : Keep h0 T223.heap [] := K176.trans hq224 (allS (Or.inr sz_b1) (allS (Or.inr sz222) all0))
      have Zs245 : n0 ≤ T223.heap.size := (Nat.le_trans Zs214 hq224.1)
      have pre246 := fun (t : State) (k : Steps p.tables e below (T223.setTop (mkF m 192 #[.val (.int p0), .val (.long qa), .second, .val (.long qb), .second, .val (.long qc), .second, .val (.long qd), .second, .val (.int lev), .val (.int (0 : Int32)), .val (.long g0), .second, .val (.long s1), .second, .val (.long g2), .second, .val (.long s2), .second, .val (.ref b1), .unset, .unset, .unset, .unset, .unset] [(.int (1 : Int32)), (.int lev)])) t) => pre129 t (by
        refine XS.iload X54.here hx rfl (hb hby at_75) rfl ?_
        refine XS.iconst X54.here hx rfl (hb hby at_77) ?_
        refine XS.icmpYes X54.here hx rfl (pc0 := 78) (pc' := 103) rfl (hb hby at_78) rfl (feq (by decide : ¬ ((0 : Int32) = (1 : Int32)))).2 (by decide) (by decide) ?_
        refine XS.iload X54.here hx rfl (hb hby at_103) rfl ?_
        refine XS.iconst X54.here hx rfl (hb hby at_105) ?_
        refine XS.icmpYes X54.here hx rfl (pc0 := 106) (pc' := 135) rfl (hb hby at_106) rfl (feq (by decide : ¬ ((0 : Int32) = (2 : Int32)))).2 (by decide) (by decide) ?_
        refine XS.iload X54.here hx rfl (hb hby at_135) rfl ?_
        refine XS.iconst X54.here hx rfl (hb hby at_137) ?_
        refine XS.icmpYes X54.here hx rfl (pc0 := 138) (pc' := 153) rfl (hb hby at_138) rfl (feq (by decide : ¬ ((0 : Int32) = (3 : Int32)))).2 (by decide) (by decide) ?_
        refine XS.aload X54.here hx rfl (hb hby at_153) rfl rfl ?_
        refine XS.iload X54.here hx rfl (hb hby at_155) rfl ?_
        refine st130.trans ?_
        refine XS.aload X130.here hx rfl (hb hby at_160) rfl rfl ?_
        refine XS.iload X130.here hx rfl (hb hby at_162) rfl ?_
        refine XS.lload X130.here hx rfl (hb hby at_164) rfl ?_
        refine XS.iconst X130.here hx rfl (hb hby at_166) ?_
        refine st153.trans ?_
        refine XS.aload X153.here hx rfl (hb hby at_170) rfl rfl ?_
        refine XS.iload X153.here hx rfl (hb hby at_172) rfl ?_
        refine XS.lload X153.here hx rfl (hb hby at_174) rfl ?_
        refine st176.trans ?_
        refine XS.aload X176.here hx rfl (hb hby at_179) rfl rfl ?_
        refine XS.iload X176.here hx rfl (hb hby at_181) rfl ?_
        refine XS.lload X176.here hx rfl (hb hby at_183) rfl ?_
        refine XS.iconst X176.here hx rfl (hb hby at_185) ?_
        refine st223.trans ?_
        refine XS.iload X223.here hx rfl (hb hby at_189) rfl ?_
        refine XS.iconst X223.here hx rfl (hb hby at_191) ?_
        exact k)
      by_cases hc247 : lev < (1 : Int32)
      · have pre248 := fun (t : State) (k : Steps p.tables e below (T223.setTop (mkF m 216 #[.val (.int p0), .val (.long qa), .second, .val (.long qb), .second, .val (.long qc), .second, .val (.long qd), .second, .val (.int lev), .val (.int (0 : Int32)), .val (.long g0), .second, .val (.long s1), .second, .val (.long g2), .second, .val (.long s2), .second, .val (.ref b1), .unset, .unset, .unset, .unset, .unset] [])) t) => pre246 t (by
          refine XS.icmpYes X223.here hx rfl (pc0 := 192) (pc' := 216) rfl (hb hby at_192) rfl (tlt hc247).1 (by decide) (by decide) ?_
          exact k)
        obtain ⟨Fn, hFn⟩ : ∃ z : Nat → Int64, z = (own_up x179 ln g2) := ⟨_, rfl⟩
        have VF : own_Fa Value.long .long Z T223.heap x177 16 Fn := by rw [hFn]; exact G239
        have hW : own_W Fn (ln + 2) false 0 false 0 ln g0 s1 g2 s2 := by rw [hFn]; exact (own_W0 hpq185)
        have hSW := own_W_S hW t59_3
        have hCZ : own_cz x180 (ln + 2) := (own_cz0 t59_1 hpq185)
        obtain ⟨cq249, kq249, q249a, q249b, q249c⟩ := isOf hZ rfl E225
        obtain ⟨_, _, ⟨T249, L249, k249, n249⟩, -, X249, ⟨Lc249, hQ249, l249, y249, z249⟩, st249⟩ := X223.virtualBack hx (y := (⟨"com/example/fieldglass/fieldglass/io/Marks", "readBack", "()V"⟩ : MethodName)) (z := (⟨"com/example/fieldglass/fieldglass/io/Marks", "readBack", "()V"⟩ : MethodName)) hown (mvT hZ (own_w hw 135 rfl)) (mvT hZ (own_w hw 136 rfl)) (notFace_of_selects (args := #[]) (mvT hZ (own_w hw 138 rfl))) (mvT hZ (own_w hw 138 rfl)) (mvT hZ (own_w hw 137 rfl)) (by decide) (backOf (W := 0) (rm_rbk l Z a0 hw [] b1 x19 x177 Fn x180 (ln + 2) (9223372036854775807 : Int64) T223.heap n0 Zs245 E225 F233 F234 E240 F241 F242 F243 F244 VF F232 ne52 ne217 ne216 ge_b1 hpq21 hCZ hSW) hZ (own_w hw 139 rfl) (own_w hw 3 rfl) (by decide) (by decide)) q249a q249c (g := (mkF m 218 #[.val (.int p0), .val (.long qa), .second, .val (.long qb), .second, .val (.long qc), .second, .val (.long qd), .second, .val (.int lev), .val (.int (0 : Int32)), .val (.long g0), .second, .val (.long s1), .second, .val (.long g2), .second, .val (.long s2), .second, .val (.ref b1), .unset, .unset, .unset, .unset, .unset] [(.ref b1)])) rfl (by rw [hml]; rfl) (Steps.refl _) (argsL := []) (rest := []) (lenOf pd_1 rfl) rfl (by show 2 * 0 + _ ≤ _; exact Nat.le_of_eq rfl) (hb hby at_218) (fun _ _ => ⟨rfl, rfl, (by decide : 7 + 0 ≤ _), (by decide : 97 + 0 ≤ _)⟩)
        dsimp only [Pt.U, Pt.locs, Pt.cells, Pt.slots] at X249 l249 y249 z249 st249 hQ249
        subst l249 y249 z249
        obtain ⟨x250, x251, x252, rfl, N249q, hq253, hpq254, hpq255, F256, F257, F258, F259, F260, F261⟩ := hQ249
        have N249 := Fr.app N223 N249q
        have E262 := E240.keep hq253
        have E263 := E225.keep hq253
        have G264 := VF.keep hq253 (ninS (Ne.symm ne217) (ninS (Ne.symm ne216) nin0))
        have K249 : Keep h0 T249.heap [] := K223.trans hq253 (allS (Or.inr sz_b1) (allS (Or.inr sz53) all0))
        have Zs265 : n0 ≤ T249.heap.size := (Nat.le_trans Zs245 hq253.1)
        obtain ⟨cq266, kq266, q266a, q266b, q266c⟩ := isOf hZ rfl E263
        obtain ⟨_, _, ⟨T266, L266, k266, n266⟩, -, X266, ⟨Lc266, hQ266, l266, y266, z266⟩, st266⟩ := X249.virtualBack hx (y := (⟨"com/example/fieldglass/fieldglass/io/Marks", "isMarked", "(J)Z"⟩ : MethodName)) (z := (⟨"com/example/fieldglass/fieldglass/io/Marks", "isMarked", "(J)Z"⟩ : MethodName)) hown (mvT hZ (own_w hw 158 rfl)) (mvT hZ (own_w hw 159 rfl)) (notFace_of_selects (args := #[]) (mvT hZ (own_w hw 161 rfl))) (mvT hZ (own_w hw 161 rfl)) (mvT hZ (own_w hw 160 rfl)) (by decide) (backOf (W := 0) (rm_ism l Z a0 hw [] b1 x19 x177 Fn x180 (ln + 2) x250 x251 x252 g0 (0 : Int64) T249.heap n0 Zs265 E263 F256 F257 E262 F258 F259 F260 F261 G264 ne52 ne217 ne216 ge_b1 hpq21 hCZ hSW hpq254 hpq255 (own_v4_q0 t59_3) (own_v4_s0 t59_3)) hZ (own_w hw 162 rfl) (own_w hw 3 rfl) (by decide) (by decide)) q266a q266c (g := (mkF m 225 #[.val (.int p0), .val (.long qa), .second, .val (.long qb), .second, .val (.long qc), .second, .val (.long qd), .second, .val (.int lev), .val (.int (0 : Int32)), .val (.long g0), .second, .val (.long s1), .second, .val (.long g2), .second, .val (.long s2), .second, .val (.ref b1), .unset, .unset, .unset, .unset, .unset] [(.long g0), (.ref b1)])) rfl (by rw [hml]; rfl) (Steps.refl _) (argsL := [(.long g0)]) (rest := []) (lenOf pd_11 rfl) rfl (by show 2 * 0 + _ ≤ _; exact Nat.le_of_eq rfl) (hb hby at_225) (fun _ _ => ⟨rfl, rfl, (by decide : 7 + 0 ≤ _), (by decide : 97 + 0 ≤ _)⟩)
        dsimp only [Pt.U, Pt.locs, Pt.cells, Pt.slots] at X266 l266 y266 z266 st266 hQ266
        subst l266 y266 z266
        obtain ⟨x267, x268, x269, x270, rfl, N266q, hq271, hpq272, hpq273, hpq274, F275, F276, F277, F278, F279, F280⟩ := hQ266
        have N266 := Fr.app N249 N266q
        have E281 := E262.keep hq271
        have E282 := E263.keep hq271
        have G283 := G264.keep hq271 (ninS (Ne.symm ne217) (ninS (Ne.symm ne216) nin0))
        have K266 : Keep h0 T266.heap [] := K249.trans hq271 (allS (Or.inr sz_b1) (allS (Or.inr sz53) all0))
        have Zs284 : n0 ≤ T266.heap.size := (Nat.le_trans Zs265 hq271.1)
        obtain ⟨cq285, kq285, q285a, q285b, q285c⟩ := isOf hZ rfl E282
        obtain ⟨_, _, ⟨T285, L285, k285, n285⟩, -, X285, ⟨Lc285, hQ285, l285, y285, z285⟩, st285⟩ := X266.virtualBack hx (y := (⟨"com/example/fieldglass/fieldglass/io/Marks", "isMarked", "(J)Z"⟩ : MethodName)) (z := (⟨"com/example/fieldglass/fieldglass/io/Marks", "isMarked", "(J)Z"⟩ : MethodName)) hown (mvT hZ (own_w hw 158 rfl)) (mvT hZ (own_w hw 159 rfl)) (notFace_of_selects (args := #[]) (mvT hZ (own_w hw 161 rfl))) (mvT hZ (own_w hw 161 rfl)) (mvT hZ (own_w hw 160 rfl)) (by decide) (backOf (W := 0) (rm_ism l Z a0 hw [] b1 x19 x177 Fn x180 (ln + 2) x267 x268 x269 s1 g0 T266.heap n0 Zs284 E282 F275 F276 E281 F277 F278 F279 F280 G283 ne52 ne217 ne216 ge_b1 hpq21 hCZ hSW hpq272 hpq273 (own_v4_q1 t59_3) (own_v4_s1 t59_3)) hZ (own_w hw 162 rfl) (own_w hw 3 rfl) (by decide) (by decide)) q285a q285c (g := (mkF m 234 #[.val (.int p0), .val (.long qa), .second, .val (.long qb), .second, .val (.long qc), .second, .val (.long qd), .second, .val (.int lev), .val (.int (0 : Int32)), .val (.long g0), .second, .val (.long s1), .second, .val (.long g2), .second, .val (.long s2), .second, .val (.ref b1), .val (.int x270), .unset, .unset, .unset, .unset] [(.long s1), (.ref b1)])) rfl (by rw [hml]; rfl) (Steps.refl _) (argsL := [(.long s1)]) (rest := []) (lenOf pd_11 rfl) rfl (by show 2 * 0 + _ ≤ _; exact Nat.le_of_eq rfl) (hb hby at_234) (fun _ _ => ⟨rfl, rfl, (by decide : 7 + 0 ≤ _), (by decide : 97 + 0 ≤ _)⟩)
        dsimp only [Pt.U, Pt.locs, Pt.cells, Pt.slots] at X285 l285 y285 z285 st285 hQ285
        subst l285 y285 z285
        obtain ⟨x286, x287, x288, x289, rfl, N285q, hq290, hpq291, hpq292, hpq293, F294, F295, F296, F297, F298, F299⟩ := hQ285
        have N285 := Fr.app N266 N285q
        have E300 := E281.keep hq290
        have E301 := E282.keep hq290
        have G302 := G283.keep hq290 (ninS (Ne.symm ne217) (ninS (Ne.symm ne216) nin0))
        have K285 : Keep h0 T285.heap [] := K266.trans hq290 (allS (Or.inr sz_b1) (allS (Or.inr sz53) all0))
        have Zs303 : n0 ≤ T285.heap.size := (Nat.le_trans Zs284 hq290.1)
        obtain ⟨cq304, kq304, q304a, q304b, q304c⟩ := isOf hZ rfl E301
        obtain ⟨_, _, ⟨T304, L304, k304, n304⟩, -, X304, ⟨Lc304, hQ304, l304, y304, z304⟩, st304⟩ := X285.virtualBack hx (y := (⟨"com/example/fieldglass/fieldglass/io/Marks", "isMarked", "(J)Z"⟩ : MethodName)) (z := (⟨"com/example/fieldglass/fieldglass/io/Marks", "isMarked", "(J)Z"⟩ : MethodName)) hown (mvT hZ (own_w hw 158 rfl)) (mvT hZ (own_w hw 159 rfl)) (notFace_of_selects (args := #[]) (mvT hZ (own_w hw 161 rfl))) (mvT hZ (own_w hw 161 rfl)) (mvT hZ (own_w hw 160 rfl)) (by decide) (backOf (W := 0) (rm_ism l Z a0 hw [] b1 x19 x177 Fn x180 (ln + 2) x286 x287 x288 g2 s1 T285.heap n0 Zs303 E301 F294 F295 E300 F296 F297 F298 F299 G302 ne52 ne217 ne216 ge_b1 hpq21 hCZ hSW hpq291 hpq292 (own_v4_q2 t59_3) (own_v4_s2 t59_3)) hZ (own_w hw 162 rfl) (own_w hw 3 rfl) (by decide) (by decide)) q304a q304c (g := (mkF m 243 #[.val (.int p0), .val (.long qa), .second, .val (.long qb), .second, .val (.long qc), .second, .val (.long qd), .second, .val (.int lev), .val (.int (0 : Int32)), .val (.long g0), .second, .val (.long s1), .second, .val (.long g2), .second, .val (.long s2), .second, .val (.ref b1), .val (.int x270), .val (.int x289), .unset, .unset, .unset] [(.long g2), (.ref b1)])) rfl (by rw [hml]; rfl) (Steps.refl _) (argsL := [(.long g2)]) (rest := []) (lenOf pd_11 rfl) rfl (by show 2 * 0 + _ ≤ _; exact Nat.le_of_eq rfl) (hb hby at_243) (fun _ _ => ⟨rfl, rfl, (by decide : 7 + 0 ≤ _), (by decide : 97 + 0 ≤ _)⟩)
        dsimp only [Pt.U, Pt.locs, Pt.cells, Pt.slots] at X304 l304 y304 z304 st304 hQ304
        subst l304 y304 z304
        obtain ⟨x305, x306, x307, x308, rfl, N304q, hq309, hpq310, hpq311, hpq312, F313, F314, F315, F316, F317, F318⟩ := hQ304
        have N304 := Fr.app N285 N304q
        have E319 := E300.keep hq309
        have E320 := E301.keep hq309
        have G321 := G302.keep hq309 (ninS (Ne.symm ne217) (ninS (Ne.symm ne216) nin0))
        have K304 : Keep h0 T304.heap [] := K285.trans hq309 (allS (Or.inr sz_b1) (allS (Or.inr sz53) all0))
        have Zs322 : n0 ≤ T304.heap.size := (Nat.le_trans Zs303 hq309.1)
        obtain ⟨cq323, kq323, q323a, q323b, q323c⟩ := isOf hZ rfl E320
        obtain ⟨_, _, ⟨T323, L323, k323, n323⟩, -, X323, ⟨Lc323, hQ323, l323, y323, z323⟩, st323⟩ := X304.virtualBack hx (y := (⟨"com/example/fieldglass/fieldglass/io/Marks", "isMarked", "(J)Z"⟩ : MethodName)) (z := (⟨"com/example/fieldglass/fieldglass/io/Marks", "isMarked", "(J)Z"⟩ : MethodName)) hown (mvT hZ (own_w hw 158 rfl)) (mvT hZ (own_w hw 159 rfl)) (notFace_of_selects (args := #[]) (mvT hZ (own_w hw 161 rfl))) (mvT hZ (own_w hw 161 rfl)) (mvT hZ (own_w hw 160 rfl)) (by decide) (backOf (W := 0) (rm_ism l Z a0 hw [] b1 x19 x177 Fn x180 (ln + 2) x305 x306 x307 s2 g2 T304.heap n0 Zs322 E320 F313 F314 E319 F315 F316 F317 F318 G321 ne52 ne217 ne216 ge_b1 hpq21 hCZ hSW hpq310 hpq311 (own_v4_q3 t59_3) (own_v4_s3 t59_3)) hZ (own_w hw 162 rfl) (own_w hw 3 rfl) (by decide) (by decide)) q323a q323c (g := (mkF m 252 #[.val (.int p0), .val (.long qa), .second, .val (.long qb), .second, .val (.long qc), .second, .val (.long qd), .second, .val (.int lev), .val (.int (0 : Int32)), .val (.long g0), .second, .val (.long s1), .second, .val (.long g2), .second, .val (.long s2), .second, .val (.ref b1), .val (.int x270), .val (.int x289), .val (.int x308), .unset, .unset] [(.long s2), (.ref b1)])) rfl (by rw [hml]; rfl) (Steps.refl _) (argsL := [(.long s2)]) (rest := []) (lenOf pd_11 rfl) rfl (by show 2 * 0 + _ ≤ _; exact Nat.le_of_eq rfl) (hb hby at_252) (fun _ _ => ⟨rfl, rfl, (by decide : 7 + 0 ≤ _), (by decide : 97 + 0 ≤ _)⟩)
        dsimp only [Pt.U, Pt.locs, Pt.cells, Pt.slots] at X323 l323 y323 z323 st323 hQ323
        subst l323 y323 z323
        obtain ⟨x324, x325, x326, x327, rfl, N323q, hq328, hpq329, hpq330, hpq331, F332, F333, F334, F335, F336, F337⟩ := hQ323
        have N323 := Fr.app N304 N323q
        have E338 := E319.keep hq328
        have E339 := E320.keep hq328
        have G340 := G321.keep hq328 (ninS (Ne.symm ne217) (ninS (Ne.symm ne216) nin0))
        have K323 : Keep h0 T323.heap [] := K304.trans hq328 (allS (Or.inr sz_b1) (allS (Or.inr sz53) all0))
        have Zs341 : n0 ≤ T323.heap.size := (Nat.le_trans Zs322 hq328.1)
        obtain ⟨cq342, kq342, q342a, q342b, q342c⟩ := isOf hZ rfl E339
        obtain ⟨_, _, ⟨T342, L342, k342, n342⟩, -, X342, ⟨Lc342, hQ342, l342, y342, z342⟩, st342⟩ := X323.virtualBack hx (y := (⟨"com/example/fieldglass/fieldglass/io/Marks", "isMarked", "(J)Z"⟩ : MethodName)) (z := (⟨"com/example/fieldglass/fieldglass/io/Marks", "isMarked", "(J)Z"⟩ : MethodName)) hown (mvT hZ (own_w hw 158 rfl)) (mvT hZ (own_w hw 159 rfl)) (notFace_of_selects (args := #[]) (mvT hZ (own_w hw 161 rfl))) (mvT hZ (own_w hw 161 rfl)) (mvT hZ (own_w hw 160 rfl)) (by decide) (backOf (W := 0) (rm_ism l Z a0 hw [] b1 x19 x177 Fn x180 (ln + 2) x324 x325 x326 (s2 + (1 : Int64)) s2 T323.heap n0 Zs341 E339 F332 F333 E338 F334 F335 F336 F337 G340 ne52 ne217 ne216 ge_b1 hpq21 hCZ hSW hpq329 hpq330 (own_v4_q4 t59_3) (own_v4_s4 t59_3)) hZ (own_w hw 162 rfl) (own_w hw 3 rfl) (by decide) (by decide)) q342a q342c (g := (mkF m 263 #[.val (.int p0), .val (.long qa), .second, .val (.long qb), .second, .val (.long qc), .second, .val (.long qd), .second, .val (.int lev), .val (.int (0 : Int32)), .val (.long g0), .second, .val (.long s1), .second, .val (.long g2), .second, .val (.long s2), .second, .val (.ref b1), .val (.int x270), .val (.int x289), .val (.int x308), .val (.int x327), .unset] [(.long (s2 + (1 : Int64))), (.ref b1)])) rfl (by rw [hml]; rfl) (Steps.refl _) (argsL := [(.long (s2 + (1 : Int64)))]) (rest := []) (lenOf pd_11 rfl) rfl (by show 2 * 0 + _ ≤ _; exact Nat.le_of_eq rfl) (hb hby at_263) (fun _ _ => ⟨rfl, rfl, (by decide : 7 + 0 ≤ _), (by decide : 97 + 0 ≤ _)⟩)
        dsimp only [Pt.U, Pt.locs, Pt.cells, Pt.slots] at X342 l342 y342 z342 st342 hQ342
        subst l342 y342 z342
        obtain ⟨x343, x344, x345, x346, rfl, N342q, hq347, hpq348, hpq349, hpq350, F351, F352, F353, F354, F355, F356⟩ := hQ342
        have N342 := Fr.app N323 N342q
        have E357 := E338.keep hq347
        have E358 := E339.keep hq347
        have G359 := G340.keep hq347 (ninS (Ne.symm ne217) (ninS (Ne.symm ne216) nin0))
        have K342 : Keep h0 T342.heap [] := K323.trans hq347 (allS (Or.inr sz_b1) (allS (Or.inr sz53) all0))
        have Zs360 : n0 ≤ T342.heap.size := (Nat.le_trans Zs341 hq347.1)
        have pre361 := fun (t : State) (k : Steps p.tables e below (T342.setTop (mkF m 319 #[.val (.int p0), .val (.long qa), .second, .val (.long qb), .second, .val (.long qc), .second, .val (.long qd), .second, .val (.int lev), .val (.int (0 : Int32)), .val (.long g0), .second, .val (.long s1), .second, .val (.long g2), .second, .val (.long s2), .second, .val (.ref b1), .val (.int x270), .val (.int x289), .val (.int x308), .val (.int x327), .val (.int x346)] [(.int (1 : Int32))])) t) => pre248 t (by
          refine XS.aload X223.here hx rfl (hb hby at_216) rfl rfl ?_
          refine st249.trans ?_
          refine XS.aload X249.here hx rfl (hb hby at_221) rfl rfl ?_
          refine XS.lload X249.here hx rfl (hb hby at_223) rfl ?_
          refine st266.trans ?_
          refine XS.istore X266.here hx rfl (hb hby at_228) rfl (l' := #[.val (.int p0), .val (.long qa), .second, .val (.long qb), .second, .val (.long qc), .second, .val (.long qd), .second, .val (.int lev), .val (.int (0 : Int32)), .val (.long g0), .second, .val (.long s1), .second, .val (.long g2), .second, .val (.long s2), .second, .val (.ref b1), .val (.int x270), .unset, .unset, .unset, .unset]) rfl ?_
          refine XS.aload X266.here hx rfl (hb hby at_230) rfl rfl ?_
          refine XS.lload X266.here hx rfl (hb hby at_232) rfl ?_
          refine st285.trans ?_
          refine XS.istore X285.here hx rfl (hb hby at_237) rfl (l' := #[.val (.int p0), .val (.long qa), .second, .val (.long qb), .second, .val (.long qc), .second, .val (.long qd), .second, .val (.int lev), .val (.int (0 : Int32)), .val (.long g0), .second, .val (.long s1), .second, .val (.long g2), .second, .val (.long s2), .second, .val (.ref b1), .val (.int x270), .val (.int x289), .unset, .unset, .unset]) rfl ?_
          refine XS.aload X285.here hx rfl (hb hby at_239) rfl rfl ?_
          refine XS.lload X285.here hx rfl (hb hby at_241) rfl ?_
          refine st304.trans ?_
          refine XS.istore X304.here hx rfl (hb hby at_246) rfl (l' := #[.val (.int p0), .val (.long qa), .second, .val (.long qb), .second, .val (.long qc), .second, .val (.long qd), .second, .val (.int lev), .val (.int (0 : Int32)), .val (.long g0), .second, .val (.long s1), .second, .val (.long g2), .second, .val (.long s2), .second, .val (.ref b1), .val (.int x270), .val (.int x289), .val (.int x308), .unset, .unset]) rfl ?_
          refine XS.aload X304.here hx rfl (hb hby at_248) rfl rfl ?_
          refine XS.lload X304.here hx rfl (hb hby at_250) rfl ?_
          refine st323.trans ?_
          refine XS.istore X323.here hx rfl (hb hby at_255) rfl (l' := #[.val (.int p0), .val (.long qa), .second, .val (.long qb), .second, .val (.long qc), .second, .val (.long qd), .second, .val (.int lev), .val (.int (0 : Int32)), .val (.long g0), .second, .val (.long s1), .second, .val (.long g2), .second, .val (.long s2), .second, .val (.ref b1), .val (.int x270), .val (.int x289), .val (.int x308), .val (.int x327), .unset]) rfl ?_
          refine XS.aload X323.here hx rfl (hb hby at_257) rfl rfl ?_
          refine XS.lload X323.here hx rfl (hb hby at_259) rfl ?_
          refine XS.lconst X323.here hx rfl (hb hby at_261) ?_
          refine XS.ladd X323.here hx rfl (hb hby at_262) rfl ?_
          refine st342.trans ?_
          refine XS.istore X342.here hx rfl (hb hby at_266) rfl (l' := #[.val (.int p0), .val (.long qa), .second, .val (.long qb), .second, .val (.long qc), .second, .val (.long qd), .second, .val (.int lev), .val (.int (0 : Int32)), .val (.long g0), .second, .val (.long s1), .second, .val (.long g2), .second, .val (.long s2), .second, .val (.ref b1), .val (.int x270), .val (.int x289), .val (.int x308), .val (.int x327), .val (.int x346)]) rfl ?_
          refine XS.iload X342.here hx rfl (hb hby at_268) rfl ?_
          refine XS.iload X342.here hx rfl (hb hby at_270) rfl ?_
          refine XS.iconst X342.here hx rfl (hb hby at_272) ?_
          refine XS.icmpYes X342.here hx rfl (pc0 := 273) (pc' := 280) rfl (hb hby at_273) rfl (tlt hc247).1 (by decide) (by decide) ?_
          refine XS.iconst X342.here hx rfl (hb hby at_280) ?_
          refine XS.icmpNo X342.here hx rfl (hb hby at_281) rfl (teq (own_no hpq274 (own_W_n0 hW t59_3))).2 ?_
          refine XS.iload X342.here hx rfl (hb hby at_284) rfl ?_
          refine XS.iload X342.here hx rfl (hb hby at_286) rfl ?_
          refine XS.ifYes X342.here hx rfl (pc0 := 288) (pc' := 295) rfl (hb hby at_288) rfl ((if0 _ _).trans (teq (by decide : (0 : Int32) = (0 : Int32))).1) (by decide) (by decide) ?_
          refine XS.iconst X342.here hx rfl (hb hby at_295) ?_
          refine XS.icmpNo X342.here hx rfl (hb hby at_296) rfl (teq (own_no hpq293 (own_W_n1 hW t59_3))).2 ?_
          refine XS.iload X342.here hx rfl (hb hby at_299) rfl ?_
          refine XS.ifNo X342.here hx rfl (hb hby at_301) rfl ((if0 _ _).trans (feq (own_ne0 (own_yes hpq312 (own_W_y2 hW t59_3)))).1) ?_
          refine XS.iload X342.here hx rfl (hb hby at_304) rfl ?_
          refine XS.ifNo X342.here hx rfl (hb hby at_306) rfl ((if0 _ _).trans (feq (own_ne0 (own_yes hpq331 (own_W_y3 hW t59_3)))).1) ?_
          refine XS.iload X342.here hx rfl (hb hby at_309) rfl ?_
          refine XS.ifNo X342.here hx rfl (hb hby at_311) rfl ((if0 _ _).trans (teq (own_no hpq350 (own_W_n4 hW t59_3))).2) ?_
          refine XS.iconst X342.here hx rfl (hb hby at_314) ?_
          refine XS.goto X342.here hx rfl (pc0 := 315) (pc' := 319) rfl (hb hby at_315) (by decide) (by decide) ?_
          exact k)
        obtain ⟨fs, hr, hrun, hended, hW, hsame⟩ := X342.leave (v := some (.int (1 : Int32))) (hlocks := BodyLoose.notSynchronized Bd) (fun h => by rw [Bd.returns] at h; cases h)
        refine ⟨_, _, pre361 _ ?_, hrun, hended, _, _, rfl, ?_, ⟨_, rfl⟩, hW, hsame.mono (by decide) (by decide)⟩
        · exact retN X342 hx (t := .boolean) Bd.returns (by simp) (hb hby at_319) hr
        · show Q_law Z p0 qa qb qc qd ab al an kb kl ki h0 n0 _ T342.heap _
          exact ⟨rfl, N342, K342⟩
      · have pre362 := fun (t : State) (k : Steps p.tables e below (T223.setTop (mkF m 204 #[.val (.int p0), .val (.long qa), .second, .val (.long qb), .second, .val (.long qc), .second, .val (.long qd), .second, .val (.int lev), .val (.int (0 : Int32)), .val (.long g0), .second, .val (.long s1), .second, .val (.long g2), .second, .val (.long s2), .second, .val (.ref b1), .unset, .unset, .unset, .unset, .unset] [(.int (own_irem (((p0.toUInt32 >>> ((3 : Int32) &&& 31).toUInt32).toInt32) &&& (7 : Int32)) lev))])) t) => pre246 t (by
          refine XS.icmpNo X223.here hx rfl (hb hby at_192) rfl (flt hc247).1 ?_
          refine XS.iloadN X223.here hx rfl (hb hby at_195) rfl ?_
          refine XS.iconst X223.here hx rfl (hb hby at_196) ?_
          refine XS.iushr X223.here hx rfl (hb hby at_197) rfl ?_
          refine XS.bipush X223.here hx rfl (hb hby at_198) ?_
          refine XS.iand X223.here hx rfl (hb hby at_200) rfl ?_
          refine XS.iload X223.here hx rfl (hb hby at_201) rfl ?_
          refine XS.irem X223.here hx rfl (hb hby at_203) rfl (own_nz1 hc247) ?_
          exact k)
        obtain ⟨ou363, h_ou363⟩ : ∃ z : Int32, z = (own_irem (((p0.toUInt32 >>> ((3 : Int32) &&& 31).toUInt32).toInt32) &&& (7 : Int32)) lev) := ⟨_, rfl⟩
        have pre364 := fun (t : State) (k : Steps p.tables e below (T223.setTop (mkF m 204 #[.val (.int p0), .val (.long qa), .second, .val (.long qb), .second, .val (.long qc), .second, .val (.long qd), .second, .val (.int lev), .val (.int (0 : Int32)), .val (.long g0), .second, .val (.long s1), .second, .val (.long g2), .second, .val (.long s2), .second, .val (.ref b1), .unset, .unset, .unset, .unset, .unset] [(.int ou363)])) t) => pre362 t (by rw [← h_ou363]; exact k)
        obtain ⟨on, hon, hlt⟩ := own_outer t59_0 hc247 h_ou363
        obtain ⟨cq365, kq365, q365a, q365b, q365c⟩ := isOf hZ rfl E225
        obtain ⟨_, _, ⟨T365, L365, k365, n365⟩, -, X365, ⟨Lc365, hQ365, l365, y365, z365⟩, st365⟩ := X223.virtualBack hx (y := (⟨"com/example/fieldglass/fieldglass/io/Marks", "endGroup", "(IJZ)V"⟩ : MethodName)) (z := (⟨"com/example/fieldglass/fieldglass/io/Marks", "endGroup", "(IJZ)V"⟩ : MethodName)) hown (mvT hZ (own_w hw 130 rfl)) (mvT hZ (own_w hw 131 rfl)) (notFace_of_selects (args := #[]) (mvT hZ (own_w hw 133 rfl))) (mvT hZ (own_w hw 133 rfl)) (mvT hZ (own_w hw 132 rfl)) (by decide) (backOf (W := 0) (rm_egN l Z a0 hw [] b1 x19 x55 x56 x57 x58 (own_up (own_up (fun _ => (0 : Int32)) ln (1 : Int32)) ln (0 : Int32)) (own_up (fun _ => (0 : Int64)) ln s2) (own_up (fun _ => (0 : Int32)) ln (1 : Int32)) x178 x177 (own_up x179 ln g2) x180 lev lev ou363 on g0 on T223.heap n0 Zs245 E225 F226 F227 F228 F229 F230 F231 F232 F233 F234 G235 G236 G237 G238 E240 F241 F242 F243 F244 G239 ne52 ne108 ne114 ne120 ne126 ne217 ne109 ne115 ne121 ne127 ne216 hpq68 hpq69 hpq70 ne218 hpq71 hpq72 ne219 hpq73 ne220 ne221 hpq183 hon (own_ou_lt t59_0 hon hlt) (own_po0 t59_1 hlt hpq185) ge_b1) hZ (own_w hw 134 rfl) (own_w hw 3 rfl) (by decide) (by decide)) q365a q365c (g := (mkF m 213 #[.val (.int p0), .val (.long qa), .second, .val (.long qb), .second, .val (.long qc), .second, .val (.long qd), .second, .val (.int lev), .val (.int (0 : Int32)), .val (.long g0), .second, .val (.long s1), .second, .val (.long g2), .second, .val (.long s2), .second, .val (.ref b1), .val (.int ou363), .unset, .unset, .unset, .unset] [(.int (0 : Int32)), (.long g0), (.int ou363), (.ref b1)])) rfl (by rw [hml]; rfl) (Steps.refl _) (argsL := [(.int ou363), (.long g0), (.int (0 : Int32))]) (rest := []) (lenOf pd_14 rfl) rfl (by show 2 * 0 + _ ≤ _; exact Nat.le_of_eq rfl) (hb hby at_213) (fun _ _ => ⟨rfl, rfl, (by decide : 7 + 0 ≤ _), (by decide : 97 + 0 ≤ _)⟩)
        dsimp only [Pt.U, Pt.locs, Pt.cells, Pt.slots] at X365 l365 y365 z365 st365 hQ365
        subst l365 y365 z365
        obtain ⟨rfl, N365q, hq366, E367, F368, F369, F370, F371, F372, F373, F374, F375, F376, G377, G378, G379, G380, G381⟩ := hQ365
        have N365 := Fr.app N223 N365q
        have E382 := E240.keep hq366
        have F383 := F241.keep hq366 (ninS (Ne.symm ne52) (ninS ne216 nin0))
        have F384 := F242.keep hq366 (ninS (Ne.symm ne52) (ninS ne216 nin0))
        have F385 := F243.keep hq366 (ninS (Ne.symm ne52) (ninS ne216 nin0))
        have F386 := F244.keep hq366 (ninS (Ne.symm ne52) (ninS ne216 nin0))
        have K365 : Keep h0 T365.heap [] := K223.trans hq366 (allS (Or.inr sz_b1) (allS (Or.inr sz222) all0))
        have Zs387 : n0 ≤ T365.heap.size := (Nat.le_trans Zs245 hq366.1)
        have pre388 := fun (t : State) (k : Steps p.tables e below (T365.setTop (mkF m 216 #[.val (.int p0), .val (.long qa), .second, .val (.long qb), .second, .val (.long qc), .second, .val (.long qd), .second, .val (.int lev), .val (.int (0 : Int32)), .val (.long g0), .second, .val (.long s1), .second, .val (.long g2), .second, .val (.long s2), .second, .val (.ref b1), .val (.int ou363), .unset, .unset, .unset, .unset] [])) t) => pre364 t (by
          refine XS.istore X223.here hx rfl (hb hby at_204) rfl (l' := #[.val (.int p0), .val (.long qa), .second, .val (.long qb), .second, .val (.long qc), .second, .val (.long qd), .second, .val (.int lev), .val (.int (0 : Int32)), .val (.long g0), .second, .val (.long s1), .second, .val (.long g2), .second, .val (.long s2), .second, .val (.ref b1), .val (.int ou363), .unset, .unset, .unset, .unset]) rfl ?_
          refine XS.aload X223.here hx rfl (hb hby at_206) rfl rfl ?_
          refine XS.iload X223.here hx rfl (hb hby at_208) rfl ?_
          refine XS.lload X223.here hx rfl (hb hby at_210) rfl ?_
          refine XS.iconst X223.here hx rfl (hb hby at_212) ?_
          refine st365.trans ?_
          exact k)
        obtain ⟨Fn, hFn⟩ : ∃ z : Nat → Int64, z = (own_up (own_up x179 ln g2) on g0) := ⟨_, rfl⟩
        have VF : own_Fa Value.long .long Z T365.heap x177 16 Fn := by rw [hFn]; exact G381
        have hW : own_W Fn (ln + 2) true on false 0 ln g0 s1 g2 s2 := by rw [hFn]; exact (own_W_add (own_W0 hpq185) (by omega) (fun q => by first | omega | cases q))
        have hSW := own_W_S hW t59_3
        have hCZ : own_cz x180 (ln + 2) := (own_cz0 t59_1 hpq185)
        obtain ⟨cq389, kq389, q389a, q389b, q389c⟩ := isOf hZ rfl E367
        obtain ⟨_, _, ⟨T389, L389, k389, n389⟩, -, X389, ⟨Lc389, hQ389, l389, y389, z389⟩, st389⟩ := X365.virtualBack hx (y := (⟨"com/example/fieldglass/fieldglass/io/Marks", "readBack", "()V"⟩ : MethodName)) (z := (⟨"com/example/fieldglass/fieldglass/io/Marks", "readBack", "()V"⟩ : MethodName)) hown (mvT hZ (own_w hw 135 rfl)) (mvT hZ (own_w hw 136 rfl)) (notFace_of_selects (args := #[]) (mvT hZ (own_w hw 138 rfl))) (mvT hZ (own_w hw 138 rfl)) (mvT hZ (own_w hw 137 rfl)) (by decide) (backOf (W := 0) (rm_rbk l Z a0 hw [] b1 x19 x177 Fn x180 (ln + 2) (9223372036854775807 : Int64) T365.heap n0 Zs387 E367 F375 F376 E382 F383 F384 F385 F386 VF F374 ne52 ne217 ne216 ge_b1 hpq21 hCZ hSW) hZ (own_w hw 139 rfl) (own_w hw 3 rfl) (by decide) (by decide)) q389a q389c (g := (mkF m 218 #[.val (.int p0), .val (.long qa), .second, .val (.long qb), .second, .val (.long qc), .second, .val (.long qd), .second, .val (.int lev), .val (.int (0 : Int32)), .val (.long g0), .second, .val (.long s1), .second, .val (.long g2), .second, .val (.long s2), .second, .val (.ref b1), .val (.int ou363), .unset, .unset, .unset, .unset] [(.ref b1)])) rfl (by rw [hml]; rfl) (Steps.refl _) (argsL := []) (rest := []) (lenOf pd_1 rfl) rfl (by show 2 * 0 + _ ≤ _; exact Nat.le_of_eq rfl) (hb hby at_218) (fun _ _ => ⟨rfl, rfl, (by decide : 7 + 0 ≤ _), (by decide : 97 + 0 ≤ _)⟩)
        dsimp only [Pt.U, Pt.locs, Pt.cells, Pt.slots] at X389 l389 y389 z389 st389 hQ389
        subst l389 y389 z389
        obtain ⟨x390, x391, x392, rfl, N389q, hq393, hpq394, hpq395, F396, F397, F398, F399, F400, F401⟩ := hQ389
        have N389 := Fr.app N365 N389q
        have E402 := E382.keep hq393
        have E403 := E367.keep hq393
        have G404 := VF.keep hq393 (ninS (Ne.symm ne217) (ninS (Ne.symm ne216) nin0))
        have K389 : Keep h0 T389.heap [] := K365.trans hq393 (allS (Or.inr sz_b1) (allS (Or.inr sz53) all0))
        have Zs405 : n0 ≤ T389.heap.size := (Nat.le_trans Zs387 hq393.1)
        obtain ⟨cq406, kq406, q406a, q406b, q406c⟩ := isOf hZ rfl E403
        obtain ⟨_, _, ⟨T406, L406, k406, n406⟩, -, X406, ⟨Lc406, hQ406, l406, y406, z406⟩, st406⟩ := X389.virtualBack hx (y := (⟨"com/example/fieldglass/fieldglass/io/Marks", "isMarked", "(J)Z"⟩ : MethodName)) (z := (⟨"com/example/fieldglass/fieldglass/io/Marks", "isMarked", "(J)Z"⟩ : MethodName)) hown (mvT hZ (own_w hw 158 rfl)) (mvT hZ (own_w hw 159 rfl)) (notFace_of_selects (args := #[]) (mvT hZ (own_w hw 161 rfl))) (mvT hZ (own_w hw 161 rfl)) (mvT hZ (own_w hw 160 rfl)) (by decide) (backOf (W := 0) (rm_ism l Z a0 hw [] b1 x19 x177 Fn x180 (ln + 2) x390 x391 x392 g0 (0 : Int64) T389.heap n0 Zs405 E403 F396 F397 E402 F398 F399 F400 F401 G404 ne52 ne217 ne216 ge_b1 hpq21 hCZ hSW hpq394 hpq395 (own_v4_q0 t59_3) (own_v4_s0 t59_3)) hZ (own_w hw 162 rfl) (own_w hw 3 rfl) (by decide) (by decide)) q406a q406c (g := (mkF m 225 #[.val (.int p0), .val (.long qa), .second, .val (.long qb), .second, .val (.long qc), .second, .val (.long qd), .second, .val (.int lev), .val (.int (0 : Int32)), .val (.long g0), .second, .val (.long s1), .second, .val (.long g2), .second, .val (.long s2), .second, .val (.ref b1), .val (.int ou363), .unset, .unset, .unset, .unset] [(.long g0), (.ref b1)])) rfl (by rw [hml]; rfl) (Steps.refl _) (argsL := [(.long g0)]) (rest := []) (lenOf pd_11 rfl) rfl (by show 2 * 0 + _ ≤ _; exact Nat.le_of_eq rfl) (hb hby at_225) (fun _ _ => ⟨rfl, rfl, (by decide : 7 + 0 ≤ _), (by decide : 97 + 0 ≤ _)⟩)
        dsimp only [Pt.U, Pt.locs, Pt.cells, Pt.slots] at X406 l406 y406 z406 st406 hQ406
        subst l406 y406 z406
        obtain ⟨x407, x408, x409, x410, rfl, N406q, hq411, hpq412, hpq413, hpq414, F415, F416, F417, F418, F419, F420⟩ := hQ406
        have N406 := Fr.app N389 N406q
        have E421 := E402.keep hq411
        have E422 := E403.keep hq411
        have G423 := G404.keep hq411 (ninS (Ne.symm ne217) (ninS (Ne.symm ne216) nin0))
        have K406 : Keep h0 T406.heap [] := K389.trans hq411 (allS (Or.inr sz_b1) (allS (Or.inr sz53) all0))
        have Zs424 : n0 ≤ T406.heap.size := (Nat.le_trans Zs405 hq411.1)
        obtain ⟨cq425, kq425, q425a, q425b, q425c⟩ := isOf hZ rfl E422
        obtain ⟨_, _, ⟨T425, L425, k425, n425⟩, -, X425, ⟨Lc425, hQ425, l425, y425, z425⟩, st425⟩ := X406.virtualBack hx (y := (⟨"com/example/fieldglass/fieldglass/io/Marks", "isMarked", "(J)Z"⟩ : MethodName)) (z := (⟨"com/example/fieldglass/fieldglass/io/Marks", "isMarked", "(J)Z"⟩ : MethodName)) hown (mvT hZ (own_w hw 158 rfl)) (mvT hZ (own_w hw 159 rfl)) (notFace_of_selects (args := #[]) (mvT hZ (own_w hw 161 rfl))) (mvT hZ (own_w hw 161 rfl)) (mvT hZ (own_w hw 160 rfl)) (by decide) (backOf (W := 0) (rm_ism l Z a0 hw [] b1 x19 x177 Fn x180 (ln + 2) x407 x408 x409 s1 g0 T406.heap n0 Zs424 E422 F415 F416 E421 F417 F418 F419 F420 G423 ne52 ne217 ne216 ge_b1 hpq21 hCZ hSW hpq412 hpq413 (own_v4_q1 t59_3) (own_v4_s1 t59_3)) hZ (own_w hw 162 rfl) (own_w hw 3 rfl) (by decide) (by decide)) q425a q425c (g := (mkF m 234 #[.val (.int p0), .val (.long qa), .second, .val (.long qb), .second, .val (.long qc), .second, .val (.long qd), .second, .val (.int lev), .val (.int (0 : Int32)), .val (.long g0), .second, .val (.long s1), .second, .val (.long g2), .second, .val (.long s2), .second, .val (.ref b1), .val (.int x410), .unset, .unset, .unset, .unset] [(.long s1), (.ref b1)])) rfl (by rw [hml]; rfl) (Steps.refl _) (argsL := [(.long s1)]) (rest := []) (lenOf pd_11 rfl) rfl (by show 2 * 0 + _ ≤ _; exact Nat.le_of_eq rfl) (hb hby at_234) (fun _ _ => ⟨rfl, rfl, (by decide : 7 + 0 ≤ _), (by decide : 97 + 0 ≤ _)⟩)
        dsimp only [Pt.U, Pt.locs, Pt.cells, Pt.slots] at X425 l425 y425 z425 st425 hQ425
        subst l425 y425 z425
        obtain ⟨x426, x427, x428, x429, rfl, N425q, hq430, hpq431, hpq432, hpq433, F434, F435, F436, F437, F438, F439⟩ := hQ425
        have N425 := Fr.app N406 N425q
        have E440 := E421.keep hq430
        have E441 := E422.keep hq430
        have G442 := G423.keep hq430 (ninS (Ne.symm ne217) (ninS (Ne.symm ne216) nin0))
        have K425 : Keep h0 T425.heap [] := K406.trans hq430 (allS (Or.inr sz_b1) (allS (Or.inr sz53) all0))
        have Zs443 : n0 ≤ T425.heap.size := (Nat.le_trans Zs424 hq430.1)
        obtain ⟨cq444, kq444, q444a, q444b, q444c⟩ := isOf hZ rfl E441
        obtain ⟨_, _, ⟨T444, L444, k444, n444⟩, -, X444, ⟨Lc444, hQ444, l444, y444, z444⟩, st444⟩ := X425.virtualBack hx (y := (⟨"com/example/fieldglass/fieldglass/io/Marks", "isMarked", "(J)Z"⟩ : MethodName)) (z := (⟨"com/example/fieldglass/fieldglass/io/Marks", "isMarked", "(J)Z"⟩ : MethodName)) hown (mvT hZ (own_w hw 158 rfl)) (mvT hZ (own_w hw 159 rfl)) (notFace_of_selects (args := #[]) (mvT hZ (own_w hw 161 rfl))) (mvT hZ (own_w hw 161 rfl)) (mvT hZ (own_w hw 160 rfl)) (by decide) (backOf (W := 0) (rm_ism l Z a0 hw [] b1 x19 x177 Fn x180 (ln + 2) x426 x427 x428 g2 s1 T425.heap n0 Zs443 E441 F434 F435 E440 F436 F437 F438 F439 G442 ne52 ne217 ne216 ge_b1 hpq21 hCZ hSW hpq431 hpq432 (own_v4_q2 t59_3) (own_v4_s2 t59_3)) hZ (own_w hw 162 rfl) (own_w hw 3 rfl) (by decide) (by decide)) q444a q444c (g := (mkF m 243 #[.val (.int p0), .val (.long qa), .second, .val (.long qb), .second, .val (.long qc), .second, .val (.long qd), .second, .val (.int lev), .val (.int (0 : Int32)), .val (.long g0), .second, .val (.long s1), .second, .val (.long g2), .second, .val (.long s2), .second, .val (.ref b1), .val (.int x410), .val (.int x429), .unset, .unset, .unset] [(.long g2), (.ref b1)])) rfl (by rw [hml]; rfl) (Steps.refl _) (argsL := [(.long g2)]) (rest := []) (lenOf pd_11 rfl) rfl (by show 2 * 0 + _ ≤ _; exact Nat.le_of_eq rfl) (hb hby at_243) (fun _ _ => ⟨rfl, rfl, (by decide : 7 + 0 ≤ _), (by decide : 97 + 0 ≤ _)⟩)
        dsimp only [Pt.U, Pt.locs, Pt.cells, Pt.slots] at X444 l444 y444 z444 st444 hQ444
        subst l444 y444 z444
        obtain ⟨x445, x446, x447, x448, rfl, N444q, hq449, hpq450, hpq451, hpq452, F453, F454, F455, F456, F457, F458⟩ := hQ444
        have N444 := Fr.app N425 N444q
        have E459 := E440.keep hq449
        have E460 := E441.keep hq449
        have G461 := G442.keep hq449 (ninS (Ne.symm ne217) (ninS (Ne.symm ne216) nin0))
        have K444 : Keep h0 T444.heap [] := K425.trans hq449 (allS (Or.inr sz_b1) (allS (Or.inr sz53) all0))
        have Zs462 : n0 ≤ T444.heap.size := (Nat.le_trans Zs443 hq449.1)
        obtain ⟨cq463, kq463, q463a, q463b, q463c⟩ := isOf hZ rfl E460
        obtain ⟨_, _, ⟨T463, L463, k463, n463⟩, -, X463, ⟨Lc463, hQ463, l463, y463, z463⟩, st463⟩ := X444.virtualBack hx (y := (⟨"com/example/fieldglass/fieldglass/io/Marks", "isMarked", "(J)Z"⟩ : MethodName)) (z := (⟨"com/example/fieldglass/fieldglass/io/Marks", "isMarked", "(J)Z"⟩ : MethodName)) hown (mvT hZ (own_w hw 158 rfl)) (mvT hZ (own_w hw 159 rfl)) (notFace_of_selects (args := #[]) (mvT hZ (own_w hw 161 rfl))) (mvT hZ (own_w hw 161 rfl)) (mvT hZ (own_w hw 160 rfl)) (by decide) (backOf (W := 0) (rm_ism l Z a0 hw [] b1 x19 x177 Fn x180 (ln + 2) x445 x446 x447 s2 g2 T444.heap n0 Zs462 E460 F453 F454 E459 F455 F456 F457 F458 G461 ne52 ne217 ne216 ge_b1 hpq21 hCZ hSW hpq450 hpq451 (own_v4_q3 t59_3) (own_v4_s3 t59_3)) hZ (own_w hw 162 rfl) (own_w hw 3 rfl) (by decide) (by decide)) q463a q463c (g := (mkF m 252 #[.val (.int p0), .val (.long qa), .second, .val (.long qb), .second, .val (.long qc), .second, .val (.long qd), .second, .val (.int lev), .val (.int (0 : Int32)), .val (.long g0), .second, .val (.long s1), .second, .val (.long g2), .second, .val (.long s2), .second, .val (.ref b1), .val (.int x410), .val (.int x429), .val (.int x448), .unset, .unset] [(.long s2), (.ref b1)])) rfl (by rw [hml]; rfl) (Steps.refl _) (argsL := [(.long s2)]) (rest := []) (lenOf pd_11 rfl) rfl (by show 2 * 0 + _ ≤ _; exact Nat.le_of_eq rfl) (hb hby at_252) (fun _ _ => ⟨rfl, rfl, (by decide : 7 + 0 ≤ _), (by decide : 97 + 0 ≤ _)⟩)
        dsimp only [Pt.U, Pt.locs, Pt.cells, Pt.slots] at X463 l463 y463 z463 st463 hQ463
        subst l463 y463 z463
        obtain ⟨x464, x465, x466, x467, rfl, N463q, hq468, hpq469, hpq470, hpq471, F472, F473, F474, F475, F476, F477⟩ := hQ463
        have N463 := Fr.app N444 N463q
        have E478 := E459.keep hq468
        have E479 := E460.keep hq468
        have G480 := G461.keep hq468 (ninS (Ne.symm ne217) (ninS (Ne.symm ne216) nin0))
        have K463 : Keep h0 T463.heap [] := K444.trans hq468 (allS (Or.inr sz_b1) (allS (Or.inr sz53) all0))
        have Zs481 : n0 ≤ T463.heap.size := (Nat.le_trans Zs462 hq468.1)
        obtain ⟨cq482, kq482, q482a, q482b, q482c⟩ := isOf hZ rfl E479
        obtain ⟨_, _, ⟨T482, L482, k482, n482⟩, -, X482, ⟨Lc482, hQ482, l482, y482, z482⟩, st482⟩ := X463.virtualBack hx (y := (⟨"com/example/fieldglass/fieldglass/io/Marks", "isMarked", "(J)Z"⟩ : MethodName)) (z := (⟨"com/example/fieldglass/fieldglass/io/Marks", "isMarked", "(J)Z"⟩ : MethodName)) hown (mvT hZ (own_w hw 158 rfl)) (mvT hZ (own_w hw 159 rfl)) (notFace_of_selects (args := #[]) (mvT hZ (own_w hw 161 rfl))) (mvT hZ (own_w hw 161 rfl)) (mvT hZ (own_w hw 160 rfl)) (by decide) (backOf (W := 0) (rm_ism l Z a0 hw [] b1 x19 x177 Fn x180 (ln + 2) x464 x465 x466 (s2 + (1 : Int64)) s2 T463.heap n0 Zs481 E479 F472 F473 E478 F474 F475 F476 F477 G480 ne52 ne217 ne216 ge_b1 hpq21 hCZ hSW hpq469 hpq470 (own_v4_q4 t59_3) (own_v4_s4 t59_3)) hZ (own_w hw 162 rfl) (own_w hw 3 rfl) (by decide) (by decide)) q482a q482c (g := (mkF m 263 #[.val (.int p0), .val (.long qa), .second, .val (.long qb), .second, .val (.long qc), .second, .val (.long qd), .second, .val (.int lev), .val (.int (0 : Int32)), .val (.long g0), .second, .val (.long s1), .second, .val (.long g2), .second, .val (.long s2), .second, .val (.ref b1), .val (.int x410), .val (.int x429), .val (.int x448), .val (.int x467), .unset] [(.long (s2 + (1 : Int64))), (.ref b1)])) rfl (by rw [hml]; rfl) (Steps.refl _) (argsL := [(.long (s2 + (1 : Int64)))]) (rest := []) (lenOf pd_11 rfl) rfl (by show 2 * 0 + _ ≤ _; exact Nat.le_of_eq rfl) (hb hby at_263) (fun _ _ => ⟨rfl, rfl, (by decide : 7 + 0 ≤ _), (by decide : 97 + 0 ≤ _)⟩)
        dsimp only [Pt.U, Pt.locs, Pt.cells, Pt.slots] at X482 l482 y482 z482 st482 hQ482
        subst l482 y482 z482
        obtain ⟨x483, x484, x485, x486, rfl, N482q, hq487, hpq488, hpq489, hpq490, F491, F492, F493, F494, F495, F496⟩ := hQ482
        have N482 := Fr.app N463 N482q
        have E497 := E478.keep hq487
        have E498 := E479.keep hq487
        have G499 := G480.keep hq487 (ninS (Ne.symm ne217) (ninS (Ne.symm ne216) nin0))
        have K482 : Keep h0 T482.heap [] := K463.trans hq487 (allS (Or.inr sz_b1) (allS (Or.inr sz53) all0))
        have Zs500 : n0 ≤ T482.heap.size := (Nat.le_trans Zs481 hq487.1)
        have pre501 := fun (t : State) (k : Steps p.tables e below (T482.setTop (mkF m 319 #[.val (.int p0), .val (.long qa), .second, .val (.long qb), .second, .val (.long qc), .second, .val (.long qd), .second, .val (.int lev), .val (.int (0 : Int32)), .val (.long g0), .second, .val (.long s1), .second, .val (.long g2), .second, .val (.long s2), .second, .val (.ref b1), .val (.int x410), .val (.int x429), .val (.int x448), .val (.int x467), .val (.int x486)] [(.int (1 : Int32))])) t) => pre388 t (by
          refine XS.aload X365.here hx rfl (hb hby at_216) rfl rfl ?_
          refine st389.trans ?_
          refine XS.aload X389.here hx rfl (hb hby at_221) rfl rfl ?_
          refine XS.lload X389.here hx rfl (hb hby at_223) rfl ?_
          refine st406.trans ?_
          refine XS.istore X406.here hx rfl (hb hby at_228) rfl (l' := #[.val (.int p0), .val (.long qa), .second, .val (.long qb), .second, .val (.long qc), .second, .val (.long qd), .second, .val (.int lev), .val (.int (0 : Int32)), .val (.long g0), .second, .val (.long s1), .second, .val (.long g2), .second, .val (.long s2), .second, .val (.ref b1), .val (.int x410), .unset, .unset, .unset, .unset]) rfl ?_
          refine XS.aload X406.here hx rfl (hb hby at_230) rfl rfl ?_
          refine XS.lload X406.here hx rfl (hb hby at_232) rfl ?_
          refine st425.trans ?_
          refine XS.istore X425.here hx rfl (hb hby at_237) rfl (l' := #[.val (.int p0), .val (.long qa), .second, .val (.long qb), .second, .val (.long qc), .second, .val (.long qd), .second, .val (.int lev), .val (.int (0 : Int32)), .val (.long g0), .second, .val (.long s1), .second, .val (.long g2), .second, .val (.long s2), .second, .val (.ref b1), .val (.int x410), .val (.int x429), .unset, .unset, .unset]) rfl ?_
          refine XS.aload X425.here hx rfl (hb hby at_239) rfl rfl ?_
          refine XS.lload X425.here hx rfl (hb hby at_241) rfl ?_
          refine st444.trans ?_
          refine XS.istore X444.here hx rfl (hb hby at_246) rfl (l' := #[.val (.int p0), .val (.long qa), .second, .val (.long qb), .second, .val (.long qc), .second, .val (.long qd), .second, .val (.int lev), .val (.int (0 : Int32)), .val (.long g0), .second, .val (.long s1), .second, .val (.long g2), .second, .val (.long s2), .second, .val (.ref b1), .val (.int x410), .val (.int x429), .val (.int x448), .unset, .unset]) rfl ?_
          refine XS.aload X444.here hx rfl (hb hby at_248) rfl rfl ?_
          refine XS.lload X444.here hx rfl (hb hby at_250) rfl ?_
          refine st463.trans ?_
          refine XS.istore X463.here hx rfl (hb hby at_255) rfl (l' := #[.val (.int p0), .val (.long qa), .second, .val (.long qb), .second, .val (.long qc), .second, .val (.long qd), .second, .val (.int lev), .val (.int (0 : Int32)), .val (.long g0), .second, .val (.long s1), .second, .val (.long g2), .second, .val (.long s2), .second, .val (.ref b1), .val (.int x410), .val (.int x429), .val (.int x448), .val (.int x467), .unset]) rfl ?_
          refine XS.aload X463.here hx rfl (hb hby at_257) rfl rfl ?_
          refine XS.lload X463.here hx rfl (hb hby at_259) rfl ?_
          refine XS.lconst X463.here hx rfl (hb hby at_261) ?_
          refine XS.ladd X463.here hx rfl (hb hby at_262) rfl ?_
          refine st482.trans ?_
          refine XS.istore X482.here hx rfl (hb hby at_266) rfl (l' := #[.val (.int p0), .val (.long qa), .second, .val (.long qb), .second, .val (.long qc), .second, .val (.long qd), .second, .val (.int lev), .val (.int (0 : Int32)), .val (.long g0), .second, .val (.long s1), .second, .val (.long g2), .second, .val (.long s2), .second, .val (.ref b1), .val (.int x410), .val (.int x429), .val (.int x448), .val (.int x467), .val (.int x486)]) rfl ?_
          refine XS.iload X482.here hx rfl (hb hby at_268) rfl ?_
          refine XS.iload X482.here hx rfl (hb hby at_270) rfl ?_
          refine XS.iconst X482.here hx rfl (hb hby at_272) ?_
          refine XS.icmpNo X482.here hx rfl (hb hby at_273) rfl (flt hc247).1 ?_
          refine XS.iconst X482.here hx rfl (hb hby at_276) ?_
          refine XS.goto X482.here hx rfl (pc0 := 277) (pc' := 281) rfl (hb hby at_277) (by decide) (by decide) ?_
          refine XS.icmpNo X482.here hx rfl (hb hby at_281) rfl (teq (own_yes hpq414 (own_W_y0 hW t59_3))).2 ?_
          refine XS.iload X482.here hx rfl (hb hby at_284) rfl ?_
          refine XS.iload X482.here hx rfl (hb hby at_286) rfl ?_
          refine XS.ifYes X482.here hx rfl (pc0 := 288) (pc' := 295) rfl (hb hby at_288) rfl ((if0 _ _).trans (teq (by decide : (0 : Int32) = (0 : Int32))).1) (by decide) (by decide) ?_
          refine XS.iconst X482.here hx rfl (hb hby at_295) ?_
          refine XS.icmpNo X482.here hx rfl (hb hby at_296) rfl (teq (own_no hpq433 (own_W_n1 hW t59_3))).2 ?_
          refine XS.iload X482.here hx rfl (hb hby at_299) rfl ?_
          refine XS.ifNo X482.here hx rfl (hb hby at_301) rfl ((if0 _ _).trans (feq (own_ne0 (own_yes hpq452 (own_W_y2 hW t59_3)))).1) ?_
          refine XS.iload X482.here hx rfl (hb hby at_304) rfl ?_
          refine XS.ifNo X482.here hx rfl (hb hby at_306) rfl ((if0 _ _).trans (feq (own_ne0 (own_yes hpq471 (own_W_y3 hW t59_3)))).1) ?_
          refine XS.iload X482.here hx rfl (hb hby at_309) rfl ?_
          refine XS.ifNo X482.here hx rfl (hb hby at_311) rfl ((if0 _ _).trans (teq (own_no hpq490 (own_W_n4 hW t59_3))).2) ?_
          refine XS.iconst X482.here hx rfl (hb hby at_314) ?_
          refine XS.goto X482.here hx rfl (pc0 := 315) (pc' := 319) rfl (hb hby at_315) (by decide) (by decide) ?_
          exact k)
        obtain ⟨fs, hr, hrun, hended, hW, hsame⟩ := X482.leave (v := some (.int (1 : Int32))) (hlocks := BodyLoose.notSynchronized Bd) (fun h => by rw [Bd.returns] at h; cases h)
        refine ⟨_, _, pre501 _ ?_, hrun, hended, _, _, rfl, ?_, ⟨_, rfl⟩, hW, hsame.mono (by decide) (by decide)⟩
        · exact retN X482 hx (t := .boolean) Bd.returns (by simp) (hb hby at_319) hr
        · show Q_law Z p0 qa qb qc qd ab al an kb kl ki h0 n0 _ T482.heap _
          exact ⟨rfl, N482, K482⟩
    · obtain ⟨cq502, kq502, q502a, q502b, q502c⟩ := isOf hZ rfl E98
      obtain ⟨_, _, ⟨T502, L502, k502, n502⟩, -, X502, ⟨Lc502, hQ502, l502, y502, z502⟩, st502⟩ := X54.virtualBack hx (y := (⟨"com/example/fieldglass/fieldglass/io/Marks", "beginFields", "(IJI)V"⟩ : MethodName)) (z := (⟨"com/example/fieldglass/fieldglass/io/Marks", "beginFields", "(IJI)V"⟩ : MethodName)) hown (mvT hZ (own_w hw 86 rfl)) (mvT hZ (own_w hw 87 rfl)) (notFace_of_selects (args := #[]) (mvT hZ (own_w hw 89 rfl))) (mvT hZ (own_w hw 89 rfl)) (mvT hZ (own_w hw 88 rfl)) (by decide) (backOf (W := 0) (rm_bf l Z a0 hw [] b1 x19 x55 x56 x57 x58 (own_up (fun _ => (0 : Int32)) ln (1 : Int32)) (fun _ => (0 : Int64)) (fun _ => (0 : Int32)) (fun _ => (0 : Int64)) (0 : Int32) (-1 : Int32) lev ln s1 T54.heap n0 Zs104 E98 F74 F75 F76 F77 F78 F79 F80 F81 F82 G83 G84 G85 G86 ne52 ne108 ne114 ne120 ne126 ne109 ne115 ne121 ne127 hpq68 hpq69 hpq70 hpq71 hpq72 hpq73 ge_b1 hpq62 hpq64 t59_0 (fun q => absurd (own_m1 t59_0) q)) hZ (own_w hw 90 rfl) (own_w hw 3 rfl) (by decide) (by decide)) q502a q502c (g := (mkF m 88 #[.val (.int p0), .val (.long qa), .second, .val (.long qb), .second, .val (.long qc), .second, .val (.long qd), .second, .val (.int lev), .val (.int (1 : Int32)), .val (.long g0), .second, .val (.long s1), .second, .val (.long g2), .second, .val (.long s2), .second, .val (.ref b1), .unset, .unset, .unset, .unset, .unset] [(.int (1 : Int32)), (.long s1), (.int lev), (.ref b1)])) rfl (by rw [hml]; rfl) (Steps.refl _) (argsL := [(.int lev), (.long s1), (.int (1 : Int32))]) (rest := []) (lenOf pd_12 rfl) rfl (by show 2 * 0 + _ ≤ _; exact Nat.le_of_eq rfl) (hb hby at_88) (fun _ _ => ⟨rfl, rfl, (by decide : 6 + 0 ≤ _), (by decide : 81 + 0 ≤ _)⟩)
      dsimp only [Pt.U, Pt.locs, Pt.cells, Pt.slots] at X502 l502 y502 z502 st502 hQ502
      subst l502 y502 z502
      obtain ⟨rfl, N502q, hq503, E504, F505, F506, F507, F508, F509, F510, F511, F512, F513, G514, G515, G516, G517⟩ := hQ502
      have N502 := Fr.app N54 N502q
      have A518 := A96.keep hq503 (ninS ne_al_b1 (ninS ne112 (ninS ne118 nin0)))
      have E519 := E99.keep hq503
      have F520 := F100.keep hq503 (ninS (Ne.symm ne52) (ninS ne115 (ninS ne121 nin0)))
      have F521 := F101.keep hq503 (ninS (Ne.symm ne52) (ninS ne115 (ninS ne121 nin0)))
      have F522 := F102.keep hq503 (ninS (Ne.symm ne52) (ninS ne115 (ninS ne121 nin0)))
      have F523 := F103.keep hq503 (ninS (Ne.symm ne52) (ninS ne115 (ninS ne121 nin0)))
      have K502 : Keep h0 T502.heap [] := K54.trans hq503 (allS (Or.inr sz_b1) (allS (Or.inr sz116) (allS (Or.inr sz122) all0)))
      have Zs524 : n0 ≤ T502.heap.size := (Nat.le_trans Zs104 hq503.1)
      obtain ⟨cq525, kq525, q525a, q525b, q525c⟩ := isOf hZ rfl E504
      obtain ⟨_, _, ⟨T525, L525, k525, n525⟩, -, X525, ⟨Lc525, hQ525, l525, y525, z525⟩, st525⟩ := X502.virtualBack hx (y := (⟨"com/example/fieldglass/fieldglass/io/Marks", "markField", "(IJ)V"⟩ : MethodName)) (z := (⟨"com/example/fieldglass/fieldglass/io/Marks", "markField", "(IJ)V"⟩ : MethodName)) hown (mvT hZ (own_w hw 91 rfl)) (mvT hZ (own_w hw 92 rfl)) (notFace_of_selects (args := #[]) (mvT hZ (own_w hw 94 rfl))) (mvT hZ (own_w hw 94 rfl)) (mvT hZ (own_w hw 93 rfl)) (by decide) (backOf (W := 0) (rm_mfG l Z a0 hw [] b1 x19 x55 x56 x57 x58 (own_up (fun _ => (0 : Int32)) ln (1 : Int32)) (own_up (fun _ => (0 : Int64)) ln s1) (own_up (fun _ => (0 : Int32)) ln (1 : Int32)) (fun _ => (0 : Int64)) al kl lev (own_cf1 ln) lev ln s1 ln T502.heap n0 Zs524 E504 F505 F506 F507 F508 F509 F510 F511 F512 F513 G514 G515 G516 G517 E519 F520 F521 F522 F523 A518 ne52 ne108 ne114 ne120 ne126 (Ne.symm ne_al_b1) ne109 ne115 ne121 ne127 (Ne.symm ne50) hpq68 hpq69 hpq70 (Ne.symm ne106) hpq71 hpq72 (Ne.symm ne112) hpq73 (Ne.symm ne118) (Ne.symm ne124) ge_b1 hpq21 hpq66 t59_0 (own_cf_1 t59_1) (own_k0_1 ln) (own_p_1 t59_1)) hZ (own_w hw 95 rfl) (own_w hw 3 rfl) (by decide) (by decide)) q525a q525c (g := (mkF m 97 #[.val (.int p0), .val (.long qa), .second, .val (.long qb), .second, .val (.long qc), .second, .val (.long qd), .second, .val (.int lev), .val (.int (1 : Int32)), .val (.long g0), .second, .val (.long s1), .second, .val (.long g2), .second, .val (.long s2), .second, .val (.ref b1), .unset, .unset, .unset, .unset, .unset] [(.long s1), (.int lev), (.ref b1)])) rfl (by rw [hml]; rfl) (Steps.refl _) (argsL := [(.int lev), (.long s1)]) (rest := []) (lenOf pd_13 rfl) rfl (by show 2 * 0 + _ ≤ _; exact Nat.le_of_eq rfl) (hb hby at_97) (fun _ _ => ⟨rfl, rfl, (by decide : 6 + 1 ≤ _), (by decide : 81 + 16 ≤ _)⟩)
      dsimp only [Pt.U, Pt.locs, Pt.cells, Pt.slots] at X525 l525 y525 z525 st525 hQ525
      subst l525 y525 z525
      obtain ⟨x526, x527, x528, x529, x530, rfl, N525q, hq531, hpq532, hpq533, hpq534, E535, F536, F537, F538, F539, F540, F541, F542, F543, F544, G545, G546, G547, G548, E549, F550, F551, F552, F553, G554⟩ := hQ525
      have N525 := Fr.app N502 N525q
      have lt555 : al < T502.heap.size := A518.lt
      have lt556 : x19 < T502.heap.size := E519.lt
      have lt557 : b1 < T502.heap.size := E504.lt
      have lt558 : x55 < T502.heap.size := G514.lt
      have lt559 : x56 < T502.heap.size := G515.lt
      have lt560 : x57 < T502.heap.size := G516.lt
      have lt561 : x58 < T502.heap.size := G517.lt
      have A562 := A518.keep hq531 (ninS ne_al_b1 (ninS ne50 (ninS ne124 nin0)))
      have K525 : Keep h0 T525.heap [] := K502.trans hq531 (allS (Or.inr sz_b1) (allS (Or.inr sz53) (allS (Or.inr sz128) all0)))
      have Zs563 : n0 ≤ T525.heap.size := (Nat.le_trans Zs524 hq531.1)
      have ne564 : al ≠ x526 := Nat.ne_of_lt (Nat.lt_of_lt_of_le lt555 hpq533)
      have ne565 : x19 ≠ x526 := Nat.ne_of_lt (Nat.lt_of_lt_of_le lt556 hpq533)
      have ne566 : b1 ≠ x526 := Nat.ne_of_lt (Nat.lt_of_lt_of_le lt557 hpq533)
      have ne567 : x55 ≠ x526 := Nat.ne_of_lt (Nat.lt_of_lt_of_le lt558 hpq533)
      have ne568 : x56 ≠ x526 := Nat.ne_of_lt (Nat.lt_of_lt_of_le lt559 hpq533)
      have ne569 : x57 ≠ x526 := Nat.ne_of_lt (Nat.lt_of_lt_of_le lt560 hpq533)
      have ne570 : x58 ≠ x526 := Nat.ne_of_lt (Nat.lt_of_lt_of_le lt561 hpq533)
      have sz571 : h0.size ≤ x526 := Nat.le_trans K502.1 hpq533
      obtain ⟨cq572, kq572, q572a, q572b, q572c⟩ := isOf hZ rfl E535
      obtain ⟨_, _, ⟨T572, L572, k572, n572⟩, -, X572, ⟨Lc572, hQ572, l572, y572, z572⟩, st572⟩ := X525.virtualBack hx (y := (⟨"com/example/fieldglass/fieldglass/io/Marks", "endMessage", "(I)V"⟩ : MethodName)) (z := (⟨"com/example/fieldglass/fieldglass/io/Marks", "endMessage", "(I)V"⟩ : MethodName)) hown (mvT hZ (own_w hw 78 rfl)) (mvT hZ (own_w hw 79 rfl)) (notFace_of_selects (args := #[]) (mvT hZ (own_w hw 81 rfl))) (mvT hZ (own_w hw 81 rfl)) (mvT hZ (own_w hw 80 rfl)) (by decide) (backOf (W := 0) (rm_em0 l Z a0 hw [] b1 x19 x55 x56 x57 x58 (own_up (fun _ => (0 : Int32)) ln (1 : Int32)) (own_up (fun _ => (0 : Int64)) ln s1) (own_up (fun _ => (0 : Int32)) ln (1 : Int32)) x527 x530 lev lev lev ln T525.heap n0 Zs563 E535 F536 F537 F538 F539 F540 F541 F542 F543 F544 G545 G546 G547 G548 ne52 ne108 ne114 ne120 ne126 ne109 ne115 ne121 ne127 hpq68 hpq69 hpq70 hpq71 hpq72 hpq73 ge_b1 hpq60 t59_0 (own_irr lev) (fun _ => rfl) (fun q => absurd (own_mk_lt t59_0 hpq534) q)) hZ (own_w hw 82 rfl) (own_w hw 3 rfl) (by decide) (by decide)) q572a q572c (g := (mkF m 157 #[.val (.int p0), .val (.long qa), .second, .val (.long qb), .second, .val (.long qc), .second, .val (.long qd), .second, .val (.int lev), .val (.int (1 : Int32)), .val (.long g0), .second, .val (.long s1), .second, .val (.long g2), .second, .val (.long s2), .second, .val (.ref b1), .unset, .unset, .unset, .unset, .unset] [(.int lev), (.ref b1)])) rfl (by rw [hml]; rfl) (Steps.refl _) (argsL := [(.int lev)]) (rest := []) (lenOf pd_5 rfl) rfl (by show 2 * 0 + _ ≤ _; exact Nat.le_of_eq rfl) (hb hby at_157) (fun _ _ => ⟨rfl, rfl, (by decide : 7 + 0 ≤ _), (by decide : 97 + 0 ≤ _)⟩)
      dsimp only [Pt.U, Pt.locs, Pt.cells, Pt.slots] at X572 l572 y572 z572 st572 hQ572
      subst l572 y572 z572
      obtain ⟨rfl, N572q, hq573, E574, F575, F576, F577, F578, F579, F580, F581, F582, F583, G584, G585, G586, G587⟩ := hQ572
      have N572 := Fr.app N525 N572q
      have E588 := E549.keep hq573
      have F589 := F550.keep hq573 (ninS (Ne.symm ne52) (ninS ne109 nin0))
      have F590 := F551.keep hq573 (ninS (Ne.symm ne52) (ninS ne109 nin0))
      have F591 := F552.keep hq573 (ninS (Ne.symm ne52) (ninS ne109 nin0))
      have F592 := F553.keep hq573 (ninS (Ne.symm ne52) (ninS ne109 nin0))
      have G593 := G554.keep hq573 (ninS (Ne.symm ne566) (ninS (Ne.symm ne567) nin0))
      have K572 : Keep h0 T572.heap [] := K525.trans hq573 (allS (Or.inr sz_b1) (allS (Or.inr sz110) all0))
      have Zs594 : n0 ≤ T572.heap.size := (Nat.le_trans Zs563 hq573.1)
      obtain ⟨cq595, kq595, q595a, q595b, q595c⟩ := isOf hZ rfl E574
      obtain ⟨_, _, ⟨T595, L595, k595, n595⟩, -, X595, ⟨Lc595, hQ595, l595, y595, z595⟩, st595⟩ := X572.virtualBack hx (y := (⟨"com/example/fieldglass/fieldglass/io/Marks", "beginFields", "(IJI)V"⟩ : MethodName)) (z := (⟨"com/example/fieldglass/fieldglass/io/Marks", "beginFields", "(IJI)V"⟩ : MethodName)) hown (mvT hZ (own_w hw 86 rfl)) (mvT hZ (own_w hw 87 rfl)) (notFace_of_selects (args := #[]) (mvT hZ (own_w hw 89 rfl))) (mvT hZ (own_w hw 89 rfl)) (mvT hZ (own_w hw 88 rfl)) (by decide) (backOf (W := 0) (rm_bf l Z a0 hw [] b1 x19 x55 x56 x57 x58 (own_up (own_up (fun _ => (0 : Int32)) ln (1 : Int32)) ln (0 : Int32)) (own_up (fun _ => (0 : Int64)) ln s1) (own_up (fun _ => (0 : Int32)) ln (1 : Int32)) x527 lev lev lev ln s2 T572.heap n0 Zs594 E574 F575 F576 F577 F578 F579 F580 F581 F582 F583 G584 G585 G586 G587 ne52 ne108 ne114 ne120 ne126 ne109 ne115 ne121 ne127 hpq68 hpq69 hpq70 hpq71 hpq72 hpq73 ge_b1 hpq62 hpq64 t59_0 (fun _ => rfl)) hZ (own_w hw 90 rfl) (own_w hw 3 rfl) (by decide) (by decide)) q595a q595c (g := (mkF m 167 #[.val (.int p0), .val (.long qa), .second, .val (.long qb), .second, .val (.long qc), .second, .val (.long qd), .second, .val (.int lev), .val (.int (1 : Int32)), .val (.long g0), .second, .val (.long s1), .second, .val (.long g2), .second, .val (.long s2), .second, .val (.ref b1), .unset, .unset, .unset, .unset, .unset] [(.int (1 : Int32)), (.long s2), (.int lev), (.ref b1)])) rfl (by rw [hml]; rfl) (Steps.refl _) (argsL := [(.int lev), (.long s2), (.int (1 : Int32))]) (rest := []) (lenOf pd_12 rfl) rfl (by show 2 * 0 + _ ≤ _; exact Nat.le_of_eq rfl) (hb hby at_167) (fun _ _ => ⟨rfl, rfl, (by decide : 7 + 0 ≤ _), (by decide : 97 + 0 ≤ _)⟩)
      dsimp only [Pt.U, Pt.locs, Pt.cells, Pt.slots] at X595 l595 y595 z595 st595 hQ595
      subst l595 y595 z595
      obtain ⟨rfl, N595q, hq596, E597, F598, F599, F600, F601, F602, F603, F604, F605, F606, G607, G608, G609, G610⟩ := hQ595
      have N595 := Fr.app N572 N595q
      have E611 := E588.keep hq596
      have F612 := F589.keep hq596 (ninS (Ne.symm ne52) (ninS ne115 (ninS ne121 nin0)))
      have F613 := F590.keep hq596 (ninS (Ne.symm ne52) (ninS ne115 (ninS ne121 nin0)))
      have F614 := F591.keep hq596 (ninS (Ne.symm ne52) (ninS ne115 (ninS ne121 nin0)))
      have F615 := F592.keep hq596 (ninS (Ne.symm ne52) (ninS ne115 (ninS ne121 nin0)))
      have G616 := G593.keep hq596 (ninS (Ne.symm ne566) (ninS (Ne.symm ne568) (ninS (Ne.symm ne569) nin0)))
      have K595 : Keep h0 T595.heap [] := K572.trans hq596 (allS (Or.inr sz_b1) (allS (Or.inr sz116) (allS (Or.inr sz122) all0)))
      have Zs617 : n0 ≤ T595.heap.size := (Nat.le_trans Zs594 hq596.1)
      have hczq : x529.toInt = (((ln + 1) : Nat) : Int) := own_czq1 hpq534
      obtain ⟨cq618, kq618, q618a, q618b, q618c⟩ := isOf hZ rfl E597
      obtain ⟨_, _, ⟨T618, L618, k618, n618⟩, -, X618, ⟨Lc618, hQ618, l618, y618, z618⟩, st618⟩ := X595.virtualBack hx (y := (⟨"com/example/fieldglass/fieldglass/io/Marks", "markField", "(IJ)V"⟩ : MethodName)) (z := (⟨"com/example/fieldglass/fieldglass/io/Marks", "markField", "(IJ)V"⟩ : MethodName)) hown (mvT hZ (own_w hw 91 rfl)) (mvT hZ (own_w hw 92 rfl)) (notFace_of_selects (args := #[]) (mvT hZ (own_w hw 94 rfl))) (mvT hZ (own_w hw 94 rfl)) (mvT hZ (own_w hw 93 rfl)) (by decide) (backOf (W := 0) (rm_mf1 l Z a0 hw [] b1 x19 x55 x56 x57 x58 (own_up (own_up (fun _ => (0 : Int32)) ln (1 : Int32)) ln (0 : Int32)) (own_up (own_up (fun _ => (0 : Int64)) ln s1) ln s2) (own_up (own_up (fun _ => (0 : Int32)) ln (1 : Int32)) ln (1 : Int32)) x527 x526 x528 x529 lev (ln + 1) lev ln s2 ((ln + 1) + 1) T595.heap n0 Zs617 E597 F598 F599 F600 F601 F602 F603 F604 F605 F606 G607 G608 G609 G610 E611 F612 F613 F614 F615 G616 ne52 ne108 ne114 ne120 ne126 ne566 ne109 ne115 ne121 ne127 ne565 hpq68 hpq69 hpq70 ne567 hpq71 hpq72 ne568 hpq73 ne569 ne570 ge_b1 hpq21 hpq66 hpq532 t59_0 hczq (own_k2 ln _ _) (by have := t59_1; omega) (own_p1 hczq (by have := t59_1; omega) ln _ _ _)) hZ (own_w hw 95 rfl) (own_w hw 3 rfl) (by decide) (by decide)) q618a q618c (g := (mkF m 176 #[.val (.int p0), .val (.long qa), .second, .val (.long qb), .second, .val (.long qc), .second, .val (.long qd), .second, .val (.int lev), .val (.int (1 : Int32)), .val (.long g0), .second, .val (.long s1), .second, .val (.long g2), .second, .val (.long s2), .second, .val (.ref b1), .unset, .unset, .unset, .unset, .unset] [(.long s2), (.int lev), (.ref b1)])) rfl (by rw [hml]; rfl) (Steps.refl _) (argsL := [(.int lev), (.long s2)]) (rest := []) (lenOf pd_13 rfl) rfl (by show 2 * 0 + _ ≤ _; exact Nat.le_of_eq rfl) (hb hby at_176) (fun _ _ => ⟨rfl, rfl, (by decide : 7 + 0 ≤ _), (by decide : 97 + 0 ≤ _)⟩)
      dsimp only [Pt.U, Pt.locs, Pt.cells, Pt.slots] at X618 l618 y618 z618 st618 hQ618
      subst l618 y618 z618
      obtain ⟨x619, x620, rfl, N618q, hq621, hpq622, E623, F624, F625, F626, F627, F628, F629, F630, F631, F632, G633, G634, G635, G636, E637, F638, F639, F640, F641, G642⟩ := hQ618
      have N618 := Fr.app N595 N618q
      have K618 : Keep h0 T618.heap [] := K595.trans hq621 (allS (Or.inr sz_b1) (allS (Or.inr sz53) (allS (Or.inr sz128) (allS (Or.inr sz571) all0))))
      have Zs643 : n0 ≤ T618.heap.size := (Nat.le_trans Zs617 hq621.1)
      obtain ⟨cq644, kq644, q644a, q644b, q644c⟩ := isOf hZ rfl E623
      obtain ⟨_, _, ⟨T644, L644, k644, n644⟩, -, X644, ⟨Lc644, hQ644, l644, y644, z644⟩, st644⟩ := X618.virtualBack hx (y := (⟨"com/example/fieldglass/fieldglass/io/Marks", "endGroup", "(IJZ)V"⟩ : MethodName)) (z := (⟨"com/example/fieldglass/fieldglass/io/Marks", "endGroup", "(IJZ)V"⟩ : MethodName)) hown (mvT hZ (own_w hw 130 rfl)) (mvT hZ (own_w hw 131 rfl)) (notFace_of_selects (args := #[]) (mvT hZ (own_w hw 133 rfl))) (mvT hZ (own_w hw 133 rfl)) (mvT hZ (own_w hw 132 rfl)) (by decide) (backOf (W := 0) (rm_egN l Z a0 hw [] b1 x19 x55 x56 x57 x58 (own_up (own_up (fun _ => (0 : Int32)) ln (1 : Int32)) ln (0 : Int32)) (own_up (own_up (fun _ => (0 : Int64)) ln s1) ln s2) (own_up (own_up (fun _ => (0 : Int32)) ln (1 : Int32)) ln (1 : Int32)) (own_up x527 ln (own_sz x529)) x526 (own_up x619 ((ln + 1) + 1) s2) x620 (lev + (1 : Int32)) lev lev ln g2 (ln + 1) T618.heap n0 Zs643 E623 F624 F625 F626 F627 F628 F629 F630 F631 F632 G633 G634 G635 G636 E637 F638 F639 F640 F641 G642 ne52 ne108 ne114 ne120 ne126 ne566 ne109 ne115 ne121 ne127 ne565 hpq68 hpq69 hpq70 ne567 hpq71 hpq72 ne568 hpq73 ne569 ne570 hpq532 t59_0 (own_lt_s t59_0) (own_pg1 hczq (by have := t59_1; omega) _ _) ge_b1) hZ (own_w hw 134 rfl) (own_w hw 3 rfl) (by decide) (by decide)) q644a q644c (g := (mkF m 186 #[.val (.int p0), .val (.long qa), .second, .val (.long qb), .second, .val (.long qc), .second, .val (.long qd), .second, .val (.int lev), .val (.int (1 : Int32)), .val (.long g0), .second, .val (.long s1), .second, .val (.long g2), .second, .val (.long s2), .second, .val (.ref b1), .unset, .unset, .unset, .unset, .unset] [(.int (0 : Int32)), (.long g2), (.int lev), (.ref b1)])) rfl (by rw [hml]; rfl) (Steps.refl _) (argsL := [(.int lev), (.long g2), (.int (0 : Int32))]) (rest := []) (lenOf pd_14 rfl) rfl (by show 2 * 0 + _ ≤ _; exact Nat.le_of_eq rfl) (hb hby at_186) (fun _ _ => ⟨rfl, rfl, (by decide : 7 + 0 ≤ _), (by decide : 97 + 0 ≤ _)⟩)
      dsimp only [Pt.U, Pt.locs, Pt.cells, Pt.slots] at X644 l644 y644 z644 st644 hQ644
      subst l644 y644 z644
      obtain ⟨rfl, N644q, hq645, E646, F647, F648, F649, F650, F651, F652, F653, F654, F655, G656, G657, G658, G659, G660⟩ := hQ644
      have N644 := Fr.app N618 N644q
      have E661 := E637.keep hq645
      have F662 := F638.keep hq645 (ninS (Ne.symm ne52) (ninS ne565 nin0))
      have F663 := F639.keep hq645 (ninS (Ne.symm ne52) (ninS ne565 nin0))
      have F664 := F640.keep hq645 (ninS (Ne.symm ne52) (ninS ne565 nin0))
      have F665 := F641.keep hq645 (ninS (Ne.symm ne52) (ninS ne565 nin0))
      have K644 : Keep h0 T644.heap [] := K618.trans hq645 (allS (Or.inr sz_b1) (allS (Or.inr sz571) all0))
      have Zs666 : n0 ≤ T644.heap.size := (Nat.le_trans Zs643 hq645.1)
      have pre667 := fun (t : State) (k : Steps p.tables e below (T644.setTop (mkF m 192 #[.val (.int p0), .val (.long qa), .second, .val (.long qb), .second, .val (.long qc), .second, .val (.long qd), .second, .val (.int lev), .val (.int (1 : Int32)), .val (.long g0), .second, .val (.long s1), .second, .val (.long g2), .second, .val (.long s2), .second, .val (.ref b1), .unset, .unset, .unset, .unset, .unset] [(.int (1 : Int32)), (.int lev)])) t) => pre129 t (by
        refine XS.iload X54.here hx rfl (hb hby at_75) rfl ?_
        refine XS.iconst X54.here hx rfl (hb hby at_77) ?_
        refine XS.icmpNo X54.here hx rfl (hb hby at_78) rfl (teq (by decide : (1 : Int32) = (1 : Int32))).2 ?_
        refine XS.aload X54.here hx rfl (hb hby at_81) rfl rfl ?_
        refine XS.iload X54.here hx rfl (hb hby at_83) rfl ?_
        refine XS.lload X54.here hx rfl (hb hby at_85) rfl ?_
        refine XS.iconst X54.here hx rfl (hb hby at_87) ?_
        refine st502.trans ?_
        refine XS.aload X502.here hx rfl (hb hby at_91) rfl rfl ?_
        refine XS.iload X502.here hx rfl (hb hby at_93) rfl ?_
        refine XS.lload X502.here hx rfl (hb hby at_95) rfl ?_
        refine st525.trans ?_
        refine XS.goto X525.here hx rfl (pc0 := 100) (pc' := 153) rfl (hb hby at_100) (by decide) (by decide) ?_
        refine XS.aload X525.here hx rfl (hb hby at_153) rfl rfl ?_
        refine XS.iload X525.here hx rfl (hb hby at_155) rfl ?_
        refine st572.trans ?_
        refine XS.aload X572.here hx rfl (hb hby at_160) rfl rfl ?_
        refine XS.iload X572.here hx rfl (hb hby at_162) rfl ?_
        refine XS.lload X572.here hx rfl (hb hby at_164) rfl ?_
        refine XS.iconst X572.here hx rfl (hb hby at_166) ?_
        refine st595.trans ?_
        refine XS.aload X595.here hx rfl (hb hby at_170) rfl rfl ?_
        refine XS.iload X595.here hx rfl (hb hby at_172) rfl ?_
        refine XS.lload X595.here hx rfl (hb hby at_174) rfl ?_
        refine st618.trans ?_
        refine XS.aload X618.here hx rfl (hb hby at_179) rfl rfl ?_
        refine XS.iload X618.here hx rfl (hb hby at_181) rfl ?_
        refine XS.lload X618.here hx rfl (hb hby at_183) rfl ?_
        refine XS.iconst X618.here hx rfl (hb hby at_185) ?_
        refine st644.trans ?_
        refine XS.iload X644.here hx rfl (hb hby at_189) rfl ?_
        refine XS.iconst X644.here hx rfl (hb hby at_191) ?_
        exact k)
      by_cases hc668 : lev < (1 : Int32)
      · have pre669 := fun (t : State) (k : Steps p.tables e below (T644.setTop (mkF m 216 #[.val (.int p0), .val (.long qa), .second, .val (.long qb), .second, .val (.long qc), .second, .val (.long qd), .second, .val (.int lev), .val (.int (1 : Int32)), .val (.long g0), .second, .val (.long s1), .second, .val (.long g2), .second, .val (.long s2), .second, .val (.ref b1), .unset, .unset, .unset, .unset, .unset] [])) t) => pre667 t (by
          refine XS.icmpYes X644.here hx rfl (pc0 := 192) (pc' := 216) rfl (hb hby at_192) rfl (tlt hc668).1 (by decide) (by decide) ?_
          exact k)
        obtain ⟨Fn, hFn⟩ : ∃ z : Nat → Int64, z = (own_up (own_up x619 ((ln + 1) + 1) s2) (ln + 1) g2) := ⟨_, rfl⟩
        have VF : own_Fa Value.long .long Z T644.heap x526 16 Fn := by rw [hFn]; exact G660
        have hW : own_W Fn ((ln + 1) + 2) false 0 true ln (ln + 1) g0 s1 g2 s2 := by rw [hFn]; exact (own_W1 (own_base1 hpq534) (by omega) hpq622)
        have hSW := own_W_S hW t59_3
        have hCZ : own_cz x620 ((ln + 1) + 2) := (own_cz1 hpq622 (by have := t59_1; omega))
        obtain ⟨cq670, kq670, q670a, q670b, q670c⟩ := isOf hZ rfl E646
        obtain ⟨_, _, ⟨T670, L670, k670, n670⟩, -, X670, ⟨Lc670, hQ670, l670, y670, z670⟩, st670⟩ := X644.virtualBack hx (y := (⟨"com/example/fieldglass/fieldglass/io/Marks", "readBack", "()V"⟩ : MethodName)) (z := (⟨"com/example/fieldglass/fieldglass/io/Marks", "readBack", "()V"⟩ : MethodName)) hown (mvT hZ (own_w hw 135 rfl)) (mvT hZ (own_w hw 136 rfl)) (notFace_of_selects (args := #[]) (mvT hZ (own_w hw 138 rfl))) (mvT hZ (own_w hw 138 rfl)) (mvT hZ (own_w hw 137 rfl)) (by decide) (backOf (W := 0) (rm_rbk l Z a0 hw [] b1 x19 x526 Fn x620 ((ln + 1) + 2) (9223372036854775807 : Int64) T644.heap n0 Zs666 E646 F654 F655 E661 F662 F663 F664 F665 VF F653 ne52 ne566 ne565 ge_b1 hpq21 hCZ hSW) hZ (own_w hw 139 rfl) (own_w hw 3 rfl) (by decide) (by decide)) q670a q670c (g := (mkF m 218 #[.val (.int p0), .val (.long qa), .second, .val (.long qb), .second, .val (.long qc), .second, .val (.long qd), .second, .val (.int lev), .val (.int (1 : Int32)), .val (.long g0), .second, .val (.long s1), .second, .val (.long g2), .second, .val (.long s2), .second, .val (.ref b1), .unset, .unset, .unset, .unset, .unset] [(.ref b1)])) rfl (by rw [hml]; rfl) (Steps.refl _) (argsL := []) (rest := []) (lenOf pd_1 rfl) rfl (by show 2 * 0 + _ ≤ _; exact Nat.le_of_eq rfl) (hb hby at_218) (fun _ _ => ⟨rfl, rfl, (by decide : 7 + 0 ≤ _), (by decide : 97 + 0 ≤ _)⟩)
        dsimp only [Pt.U, Pt.locs, Pt.cells, Pt.slots] at X670 l670 y670 z670 st670 hQ670
        subst l670 y670 z670
        obtain ⟨x671, x672, x673, rfl, N670q, hq674, hpq675, hpq676, F677, F678, F679, F680, F681, F682⟩ := hQ670
        have N670 := Fr.app N644 N670q
        have E683 := E661.keep hq674
        have E684 := E646.keep hq674
        have G685 := VF.keep hq674 (ninS (Ne.symm ne566) (ninS (Ne.symm ne565) nin0))
        have K670 : Keep h0 T670.heap [] := K644.trans hq674 (allS (Or.inr sz_b1) (allS (Or.inr sz53) all0))
        have Zs686 : n0 ≤ T670.heap.size := (Nat.le_trans Zs666 hq674.1)
        obtain ⟨cq687, kq687, q687a, q687b, q687c⟩ := isOf hZ rfl E684
        obtain ⟨_, _, ⟨T687, L687, k687, n687⟩, -, X687, ⟨Lc687, hQ687, l687, y687, z687⟩, st687⟩ := X670.virtualBack hx (y := (⟨"com/example/fieldglass/fieldglass/io/Marks", "isMarked", "(J)Z"⟩ : MethodName)) (z := (⟨"com/example/fieldglass/fieldglass/io/Marks", "isMarked", "(J)Z"⟩ : MethodName)) hown (mvT hZ (own_w hw 158 rfl)) (mvT hZ (own_w hw 159 rfl)) (notFace_of_selects (args := #[]) (mvT hZ (own_w hw 161 rfl))) (mvT hZ (own_w hw 161 rfl)) (mvT hZ (own_w hw 160 rfl)) (by decide) (backOf (W := 0) (rm_ism l Z a0 hw [] b1 x19 x526 Fn x620 ((ln + 1) + 2) x671 x672 x673 g0 (0 : Int64) T670.heap n0 Zs686 E684 F677 F678 E683 F679 F680 F681 F682 G685 ne52 ne566 ne565 ge_b1 hpq21 hCZ hSW hpq675 hpq676 (own_v4_q0 t59_3) (own_v4_s0 t59_3)) hZ (own_w hw 162 rfl) (own_w hw 3 rfl) (by decide) (by decide)) q687a q687c (g := (mkF m 225 #[.val (.int p0), .val (.long qa), .second, .val (.long qb), .second, .val (.long qc), .second, .val (.long qd), .second, .val (.int lev), .val (.int (1 : Int32)), .val (.long g0), .second, .val (.long s1), .second, .val (.long g2), .second, .val (.long s2), .second, .val (.ref b1), .unset, .unset, .unset, .unset, .unset] [(.long g0), (.ref b1)])) rfl (by rw [hml]; rfl) (Steps.refl _) (argsL := [(.long g0)]) (rest := []) (lenOf pd_11 rfl) rfl (by show 2 * 0 + _ ≤ _; exact Nat.le_of_eq rfl) (hb hby at_225) (fun _ _ => ⟨rfl, rfl, (by decide : 7 + 0 ≤ _), (by decide : 97 + 0 ≤ _)⟩)
        dsimp only [Pt.U, Pt.locs, Pt.cells, Pt.slots] at X687 l687 y687 z687 st687 hQ687
        subst l687 y687 z687
        obtain ⟨x688, x689, x690, x691, rfl, N687q, hq692, hpq693, hpq694, hpq695, F696, F697, F698, F699, F700, F701⟩ := hQ687
        have N687 := Fr.app N670 N687q
        have E702 := E683.keep hq692
        have E703 := E684.keep hq692
        have G704 := G685.keep hq692 (ninS (Ne.symm ne566) (ninS (Ne.symm ne565) nin0))
        have K687 : Keep h0 T687.heap [] := K670.trans hq692 (allS (Or.inr sz_b1) (allS (Or.inr sz53) all0))
        have Zs705 : n0 ≤ T687.heap.size := (Nat.le_trans Zs686 hq692.1)
        obtain ⟨cq706, kq706, q706a, q706b, q706c⟩ := isOf hZ rfl E703
        obtain ⟨_, _, ⟨T706, L706, k706, n706⟩, -, X706, ⟨Lc706, hQ706, l706, y706, z706⟩, st706⟩ := X687.virtualBack hx (y := (⟨"com/example/fieldglass/fieldglass/io/Marks", "isMarked", "(J)Z"⟩ : MethodName)) (z := (⟨"com/example/fieldglass/fieldglass/io/Marks", "isMarked", "(J)Z"⟩ : MethodName)) hown (mvT hZ (own_w hw 158 rfl)) (mvT hZ (own_w hw 159 rfl)) (notFace_of_selects (args := #[]) (mvT hZ (own_w hw 161 rfl))) (mvT hZ (own_w hw 161 rfl)) (mvT hZ (own_w hw 160 rfl)) (by decide) (backOf (W := 0) (rm_ism l Z a0 hw [] b1 x19 x526 Fn x620 ((ln + 1) + 2) x688 x689 x690 s1 g0 T687.heap n0 Zs705 E703 F696 F697 E702 F698 F699 F700 F701 G704 ne52 ne566 ne565 ge_b1 hpq21 hCZ hSW hpq693 hpq694 (own_v4_q1 t59_3) (own_v4_s1 t59_3)) hZ (own_w hw 162 rfl) (own_w hw 3 rfl) (by decide) (by decide)) q706a q706c (g := (mkF m 234 #[.val (.int p0), .val (.long qa), .second, .val (.long qb), .second, .val (.long qc), .second, .val (.long qd), .second, .val (.int lev), .val (.int (1 : Int32)), .val (.long g0), .second, .val (.long s1), .second, .val (.long g2), .second, .val (.long s2), .second, .val (.ref b1), .val (.int x691), .unset, .unset, .unset, .unset] [(.long s1), (.ref b1)])) rfl (by rw [hml]; rfl) (Steps.refl _) (argsL := [(.long s1)]) (rest := []) (lenOf pd_11 rfl) rfl (by show 2 * 0 + _ ≤ _; exact Nat.le_of_eq rfl) (hb hby at_234) (fun _ _ => ⟨rfl, rfl, (by decide : 7 + 0 ≤ _), (by decide : 97 + 0 ≤ _)⟩)
        dsimp only [Pt.U, Pt.locs, Pt.cells, Pt.slots] at X706 l706 y706 z706 st706 hQ706
        subst l706 y706 z706
        obtain ⟨x707, x708, x709, x710, rfl, N706q, hq711, hpq712, hpq713, hpq714, F715, F716, F717, F718, F719, F720⟩ := hQ706
        have N706 := Fr.app N687 N706q
        have E721 := E702.keep hq711
        have E722 := E703.keep hq711
        have G723 := G704.keep hq711 (ninS (Ne.symm ne566) (ninS (Ne.symm ne565) nin0))
        have K706 : Keep h0 T706.heap [] := K687.trans hq711 (allS (Or.inr sz_b1) (allS (Or.inr sz53) all0))
        have Zs724 : n0 ≤ T706.heap.size := (Nat.le_trans Zs705 hq711.1)
        obtain ⟨cq725, kq725, q725a, q725b, q725c⟩ := isOf hZ rfl E722
        obtain ⟨_, _, ⟨T725, L725, k725, n725⟩, -, X725, ⟨Lc725, hQ725, l725, y725, z725⟩, st725⟩ := X706.virtualBack hx (y := (⟨"com/example/fieldglass/fieldglass/io/Marks", "isMarked", "(J)Z"⟩ : MethodName)) (z := (⟨"com/example/fieldglass/fieldglass/io/Marks", "isMarked", "(J)Z"⟩ : MethodName)) hown (mvT hZ (own_w hw 158 rfl)) (mvT hZ (own_w hw 159 rfl)) (notFace_of_selects (args := #[]) (mvT hZ (own_w hw 161 rfl))) (mvT hZ (own_w hw 161 rfl)) (mvT hZ (own_w hw 160 rfl)) (by decide) (backOf (W := 0) (rm_ism l Z a0 hw [] b1 x19 x526 Fn x620 ((ln + 1) + 2) x707 x708 x709 g2 s1 T706.heap n0 Zs724 E722 F715 F716 E721 F717 F718 F719 F720 G723 ne52 ne566 ne565 ge_b1 hpq21 hCZ hSW hpq712 hpq713 (own_v4_q2 t59_3) (own_v4_s2 t59_3)) hZ (own_w hw 162 rfl) (own_w hw 3 rfl) (by decide) (by decide)) q725a q725c (g := (mkF m 243 #[.val (.int p0), .val (.long qa), .second, .val (.long qb), .second, .val (.long qc), .second, .val (.long qd), .second, .val (.int lev), .val (.int (1 : Int32)), .val (.long g0), .second, .val (.long s1), .second, .val (.long g2), .second, .val (.long s2), .second, .val (.ref b1), .val (.int x691), .val (.int x710), .unset, .unset, .unset] [(.long g2), (.ref b1)])) rfl (by rw [hml]; rfl) (Steps.refl _) (argsL := [(.long g2)]) (rest := []) (lenOf pd_11 rfl) rfl (by show 2 * 0 + _ ≤ _; exact Nat.le_of_eq rfl) (hb hby at_243) (fun _ _ => ⟨rfl, rfl, (by decide : 7 + 0 ≤ _), (by decide : 97 + 0 ≤ _)⟩)
        dsimp only [Pt.U, Pt.locs, Pt.cells, Pt.slots] at X725 l725 y725 z725 st725 hQ725
        subst l725 y725 z725
        obtain ⟨x726, x727, x728, x729, rfl, N725q, hq730, hpq731, hpq732, hpq733, F734, F735, F736, F737, F738, F739⟩ := hQ725
        have N725 := Fr.app N706 N725q
        have E740 := E721.keep hq730
        have E741 := E722.keep hq730
        have G742 := G723.keep hq730 (ninS (Ne.symm ne566) (ninS (Ne.symm ne565) nin0))
        have K725 : Keep h0 T725.heap [] := K706.trans hq730 (allS (Or.inr sz_b1) (allS (Or.inr sz53) all0))
        have Zs743 : n0 ≤ T725.heap.size := (Nat.le_trans Zs724 hq730.1)
        obtain ⟨cq744, kq744, q744a, q744b, q744c⟩ := isOf hZ rfl E741
        obtain ⟨_, _, ⟨T744, L744, k744, n744⟩, -, X744, ⟨Lc744, hQ744, l744, y744, z744⟩, st744⟩ := X725.virtualBack hx (y := (⟨"com/example/fieldglass/fieldglass/io/Marks", "isMarked", "(J)Z"⟩ : MethodName)) (z := (⟨"com/example/fieldglass/fieldglass/io/Marks", "isMarked", "(J)Z"⟩ : MethodName)) hown (mvT hZ (own_w hw 158 rfl)) (mvT hZ (own_w hw 159 rfl)) (notFace_of_selects (args := #[]) (mvT hZ (own_w hw 161 rfl))) (mvT hZ (own_w hw 161 rfl)) (mvT hZ (own_w hw 160 rfl)) (by decide) (backOf (W := 0) (rm_ism l Z a0 hw [] b1 x19 x526 Fn x620 ((ln + 1) + 2) x726 x727 x728 s2 g2 T725.heap n0 Zs743 E741 F734 F735 E740 F736 F737 F738 F739 G742 ne52 ne566 ne565 ge_b1 hpq21 hCZ hSW hpq731 hpq732 (own_v4_q3 t59_3) (own_v4_s3 t59_3)) hZ (own_w hw 162 rfl) (own_w hw 3 rfl) (by decide) (by decide)) q744a q744c (g := (mkF m 252 #[.val (.int p0), .val (.long qa), .second, .val (.long qb), .second, .val (.long qc), .second, .val (.long qd), .second, .val (.int lev), .val (.int (1 : Int32)), .val (.long g0), .second, .val (.long s1), .second, .val (.long g2), .second, .val (.long s2), .second, .val (.ref b1), .val (.int x691), .val (.int x710), .val (.int x729), .unset, .unset] [(.long s2), (.ref b1)])) rfl (by rw [hml]; rfl) (Steps.refl _) (argsL := [(.long s2)]) (rest := []) (lenOf pd_11 rfl) rfl (by show 2 * 0 + _ ≤ _; exact Nat.le_of_eq rfl) (hb hby at_252) (fun _ _ => ⟨rfl, rfl, (by decide : 7 + 0 ≤ _), (by decide : 97 + 0 ≤ _)⟩)
        dsimp only [Pt.U, Pt.locs, Pt.cells, Pt.slots] at X744 l744 y744 z744 st744 hQ744
        subst l744 y744 z744
        obtain ⟨x745, x746, x747, x748, rfl, N744q, hq749, hpq750, hpq751, hpq752, F753, F754, F755, F756, F757, F758⟩ := hQ744
        have N744 := Fr.app N725 N744q
        have E759 := E740.keep hq749
        have E760 := E741.keep hq749
        have G761 := G742.keep hq749 (ninS (Ne.symm ne566) (ninS (Ne.symm ne565) nin0))
        have K744 : Keep h0 T744.heap [] := K725.trans hq749 (allS (Or.inr sz_b1) (allS (Or.inr sz53) all0))
        have Zs762 : n0 ≤ T744.heap.size := (Nat.le_trans Zs743 hq749.1)
        obtain ⟨cq763, kq763, q763a, q763b, q763c⟩ := isOf hZ rfl E760
        obtain ⟨_, _, ⟨T763, L763, k763, n763⟩, -, X763, ⟨Lc763, hQ763, l763, y763, z763⟩, st763⟩ := X744.virtualBack hx (y := (⟨"com/example/fieldglass/fieldglass/io/Marks", "isMarked", "(J)Z"⟩ : MethodName)) (z := (⟨"com/example/fieldglass/fieldglass/io/Marks", "isMarked", "(J)Z"⟩ : MethodName)) hown (mvT hZ (own_w hw 158 rfl)) (mvT hZ (own_w hw 159 rfl)) (notFace_of_selects (args := #[]) (mvT hZ (own_w hw 161 rfl))) (mvT hZ (own_w hw 161 rfl)) (mvT hZ (own_w hw 160 rfl)) (by decide) (backOf (W := 0) (rm_ism l Z a0 hw [] b1 x19 x526 Fn x620 ((ln + 1) + 2) x745 x746 x747 (s2 + (1 : Int64)) s2 T744.heap n0 Zs762 E760 F753 F754 E759 F755 F756 F757 F758 G761 ne52 ne566 ne565 ge_b1 hpq21 hCZ hSW hpq750 hpq751 (own_v4_q4 t59_3) (own_v4_s4 t59_3)) hZ (own_w hw 162 rfl) (own_w hw 3 rfl) (by decide) (by decide)) q763a q763c (g := (mkF m 263 #[.val (.int p0), .val (.long qa), .second, .val (.long qb), .second, .val (.long qc), .second, .val (.long qd), .second, .val (.int lev), .val (.int (1 : Int32)), .val (.long g0), .second, .val (.long s1), .second, .val (.long g2), .second, .val (.long s2), .second, .val (.ref b1), .val (.int x691), .val (.int x710), .val (.int x729), .val (.int x748), .unset] [(.long (s2 + (1 : Int64))), (.ref b1)])) rfl (by rw [hml]; rfl) (Steps.refl _) (argsL := [(.long (s2 + (1 : Int64)))]) (rest := []) (lenOf pd_11 rfl) rfl (by show 2 * 0 + _ ≤ _; exact Nat.le_of_eq rfl) (hb hby at_263) (fun _ _ => ⟨rfl, rfl, (by decide : 7 + 0 ≤ _), (by decide : 97 + 0 ≤ _)⟩)
        dsimp only [Pt.U, Pt.locs, Pt.cells, Pt.slots] at X763 l763 y763 z763 st763 hQ763
        subst l763 y763 z763
        obtain ⟨x764, x765, x766, x767, rfl, N763q, hq768, hpq769, hpq770, hpq771, F772, F773, F774, F775, F776, F777⟩ := hQ763
        have N763 := Fr.app N744 N763q
        have E778 := E759.keep hq768
        have E779 := E760.keep hq768
        have G780 := G761.keep hq768 (ninS (Ne.symm ne566) (ninS (Ne.symm ne565) nin0))
        have K763 : Keep h0 T763.heap [] := K744.trans hq768 (allS (Or.inr sz_b1) (allS (Or.inr sz53) all0))
        have Zs781 : n0 ≤ T763.heap.size := (Nat.le_trans Zs762 hq768.1)
        have pre782 := fun (t : State) (k : Steps p.tables e below (T763.setTop (mkF m 319 #[.val (.int p0), .val (.long qa), .second, .val (.long qb), .second, .val (.long qc), .second, .val (.long qd), .second, .val (.int lev), .val (.int (1 : Int32)), .val (.long g0), .second, .val (.long s1), .second, .val (.long g2), .second, .val (.long s2), .second, .val (.ref b1), .val (.int x691), .val (.int x710), .val (.int x729), .val (.int x748), .val (.int x767)] [(.int (1 : Int32))])) t) => pre669 t (by
          refine XS.aload X644.here hx rfl (hb hby at_216) rfl rfl ?_
          refine st670.trans ?_
          refine XS.aload X670.here hx rfl (hb hby at_221) rfl rfl ?_
          refine XS.lload X670.here hx rfl (hb hby at_223) rfl ?_
          refine st687.trans ?_
          refine XS.istore X687.here hx rfl (hb hby at_228) rfl (l' := #[.val (.int p0), .val (.long qa), .second, .val (.long qb), .second, .val (.long qc), .second, .val (.long qd), .second, .val (.int lev), .val (.int (1 : Int32)), .val (.long g0), .second, .val (.long s1), .second, .val (.long g2), .second, .val (.long s2), .second, .val (.ref b1), .val (.int x691), .unset, .unset, .unset, .unset]) rfl ?_
          refine XS.aload X687.here hx rfl (hb hby at_230) rfl rfl ?_
          refine XS.lload X687.here hx rfl (hb hby at_232) rfl ?_
          refine st706.trans ?_
          refine XS.istore X706.here hx rfl (hb hby at_237) rfl (l' := #[.val (.int p0), .val (.long qa), .second, .val (.long qb), .second, .val (.long qc), .second, .val (.long qd), .second, .val (.int lev), .val (.int (1 : Int32)), .val (.long g0), .second, .val (.long s1), .second, .val (.long g2), .second, .val (.long s2), .second, .val (.ref b1), .val (.int x691), .val (.int x710), .unset, .unset, .unset]) rfl ?_
          refine XS.aload X706.here hx rfl (hb hby at_239) rfl rfl ?_
          refine XS.lload X706.here hx rfl (hb hby at_241) rfl ?_
          refine st725.trans ?_
          refine XS.istore X725.here hx rfl (hb hby at_246) rfl (l' := #[.val (.int p0), .val (.long qa), .second, .val (.long qb), .second, .val (.long qc), .second, .val (.long qd), .second, .val (.int lev), .val (.int (1 : Int32)), .val (.long g0), .second, .val (.long s1), .second, .val (.long g2), .second, .val (.long s2), .second, .val (.ref b1), .val (.int x691), .val (.int x710), .val (.int x729), .unset, .unset]) rfl ?_
          refine XS.aload X725.here hx rfl (hb hby at_248) rfl rfl ?_
          refine XS.lload X725.here hx rfl (hb hby at_250) rfl ?_
          refine st744.trans ?_
          refine XS.istore X744.here hx rfl (hb hby at_255) rfl (l' := #[.val (.int p0), .val (.long qa), .second, .val (.long qb), .second, .val (.long qc), .second, .val (.long qd), .second, .val (.int lev), .val (.int (1 : Int32)), .val (.long g0), .second, .val (.long s1), .second, .val (.long g2), .second, .val (.long s2), .second, .val (.ref b1), .val (.int x691), .val (.int x710), .val (.int x729), .val (.int x748), .unset]) rfl ?_
          refine XS.aload X744.here hx rfl (hb hby at_257) rfl rfl ?_
          refine XS.lload X744.here hx rfl (hb hby at_259) rfl ?_
          refine XS.lconst X744.here hx rfl (hb hby at_261) ?_
          refine XS.ladd X744.here hx rfl (hb hby at_262) rfl ?_
          refine st763.trans ?_
          refine XS.istore X763.here hx rfl (hb hby at_266) rfl (l' := #[.val (.int p0), .val (.long qa), .second, .val (.long qb), .second, .val (.long qc), .second, .val (.long qd), .second, .val (.int lev), .val (.int (1 : Int32)), .val (.long g0), .second, .val (.long s1), .second, .val (.long g2), .second, .val (.long s2), .second, .val (.ref b1), .val (.int x691), .val (.int x710), .val (.int x729), .val (.int x748), .val (.int x767)]) rfl ?_
          refine XS.iload X763.here hx rfl (hb hby at_268) rfl ?_
          refine XS.iload X763.here hx rfl (hb hby at_270) rfl ?_
          refine XS.iconst X763.here hx rfl (hb hby at_272) ?_
          refine XS.icmpYes X763.here hx rfl (pc0 := 273) (pc' := 280) rfl (hb hby at_273) rfl (tlt hc668).1 (by decide) (by decide) ?_
          refine XS.iconst X763.here hx rfl (hb hby at_280) ?_
          refine XS.icmpNo X763.here hx rfl (hb hby at_281) rfl (teq (own_no hpq695 (own_W_n0 hW t59_3))).2 ?_
          refine XS.iload X763.here hx rfl (hb hby at_284) rfl ?_
          refine XS.iload X763.here hx rfl (hb hby at_286) rfl ?_
          refine XS.ifNo X763.here hx rfl (hb hby at_288) rfl ((if0 _ _).trans (feq (by decide : ¬ ((1 : Int32) = (0 : Int32)))).1) ?_
          refine XS.iconst X763.here hx rfl (hb hby at_291) ?_
          refine XS.goto X763.here hx rfl (pc0 := 292) (pc' := 296) rfl (hb hby at_292) (by decide) (by decide) ?_
          refine XS.icmpNo X763.here hx rfl (hb hby at_296) rfl (teq (own_yes hpq714 (own_W_y1 hW t59_3))).2 ?_
          refine XS.iload X763.here hx rfl (hb hby at_299) rfl ?_
          refine XS.ifNo X763.here hx rfl (hb hby at_301) rfl ((if0 _ _).trans (feq (own_ne0 (own_yes hpq733 (own_W_y2 hW t59_3)))).1) ?_
          refine XS.iload X763.here hx rfl (hb hby at_304) rfl ?_
          refine XS.ifNo X763.here hx rfl (hb hby at_306) rfl ((if0 _ _).trans (feq (own_ne0 (own_yes hpq752 (own_W_y3 hW t59_3)))).1) ?_
          refine XS.iload X763.here hx rfl (hb hby at_309) rfl ?_
          refine XS.ifNo X763.here hx rfl (hb hby at_311) rfl ((if0 _ _).trans (teq (own_no hpq771 (own_W_n4 hW t59_3))).2) ?_
          refine XS.iconst X763.here hx rfl (hb hby at_314) ?_
          refine XS.goto X763.here hx rfl (pc0 := 315) (pc' := 319) rfl (hb hby at_315) (by decide) (by decide) ?_
          exact k)
        obtain ⟨fs, hr, hrun, hended, hW, hsame⟩ := X763.leave (v := some (.int (1 : Int32))) (hlocks := BodyLoose.notSynchronized Bd) (fun h => by rw [Bd.returns] at h; cases h)
        refine ⟨_, _, pre782 _ ?_, hrun, hended, _, _, rfl, ?_, ⟨_, rfl⟩, hW, hsame.mono (by decide) (by decide)⟩
        · exact retN X763 hx (t := .boolean) Bd.returns (by simp) (hb hby at_319) hr
        · show Q_law Z p0 qa qb qc qd ab al an kb kl ki h0 n0 _ T763.heap _
          exact ⟨rfl, N763, K763⟩
      · have pre783 := fun (t : State) (k : Steps p.tables e below (T644.setTop (mkF m 204 #[.val (.int p0), .val (.long qa), .second, .val (.long qb), .second, .val (.long qc), .second, .val (.long qd), .second, .val (.int lev), .val (.int (1 : Int32)), .val (.long g0), .second, .val (.long s1), .second, .val (.long g2), .second, .val (.long s2), .second, .val (.ref b1), .unset, .unset, .unset, .unset, .unset] [(.int (own_irem (((p0.toUInt32 >>> ((3 : Int32) &&& 31).toUInt32).toInt32) &&& (7 : Int32)) lev))])) t) => pre667 t (by
          refine XS.icmpNo X644.here hx rfl (hb hby at_192) rfl (flt hc668).1 ?_
          refine XS.iloadN X644.here hx rfl (hb hby at_195) rfl ?_
          refine XS.iconst X644.here hx rfl (hb hby at_196) ?_
          refine XS.iushr X644.here hx rfl (hb hby at_197) rfl ?_
          refine XS.bipush X644.here hx rfl (hb hby at_198) ?_
          refine XS.iand X644.here hx rfl (hb hby at_200) rfl ?_
          refine XS.iload X644.here hx rfl (hb hby at_201) rfl ?_
          refine XS.irem X644.here hx rfl (hb hby at_203) rfl (own_nz1 hc668) ?_
          exact k)
        obtain ⟨ou784, h_ou784⟩ : ∃ z : Int32, z = (own_irem (((p0.toUInt32 >>> ((3 : Int32) &&& 31).toUInt32).toInt32) &&& (7 : Int32)) lev) := ⟨_, rfl⟩
        have pre785 := fun (t : State) (k : Steps p.tables e below (T644.setTop (mkF m 204 #[.val (.int p0), .val (.long qa), .second, .val (.long qb), .second, .val (.long qc), .second, .val (.long qd), .second, .val (.int lev), .val (.int (1 : Int32)), .val (.long g0), .second, .val (.long s1), .second, .val (.long g2), .second, .val (.long s2), .second, .val (.ref b1), .unset, .unset, .unset, .unset, .unset] [(.int ou784)])) t) => pre783 t (by rw [← h_ou784]; exact k)
        obtain ⟨on, hon, hlt⟩ := own_outer t59_0 hc668 h_ou784
        obtain ⟨cq786, kq786, q786a, q786b, q786c⟩ := isOf hZ rfl E646
        obtain ⟨_, _, ⟨T786, L786, k786, n786⟩, -, X786, ⟨Lc786, hQ786, l786, y786, z786⟩, st786⟩ := X644.virtualBack hx (y := (⟨"com/example/fieldglass/fieldglass/io/Marks", "endGroup", "(IJZ)V"⟩ : MethodName)) (z := (⟨"com/example/fieldglass/fieldglass/io/Marks", "endGroup", "(IJZ)V"⟩ : MethodName)) hown (mvT hZ (own_w hw 130 rfl)) (mvT hZ (own_w hw 131 rfl)) (notFace_of_selects (args := #[]) (mvT hZ (own_w hw 133 rfl))) (mvT hZ (own_w hw 133 rfl)) (mvT hZ (own_w hw 132 rfl)) (by decide) (backOf (W := 0) (rm_egN l Z a0 hw [] b1 x19 x55 x56 x57 x58 (own_up (own_up (fun _ => (0 : Int32)) ln (1 : Int32)) ln (0 : Int32)) (own_up (own_up (fun _ => (0 : Int64)) ln s1) ln s2) (own_up (own_up (fun _ => (0 : Int32)) ln (1 : Int32)) ln (1 : Int32)) (own_up x527 ln (own_sz x529)) x526 (own_up (own_up x619 ((ln + 1) + 1) s2) (ln + 1) g2) x620 lev lev ou784 on g0 on T644.heap n0 Zs666 E646 F647 F648 F649 F650 F651 F652 F653 F654 F655 G656 G657 G658 G659 E661 F662 F663 F664 F665 G660 ne52 ne108 ne114 ne120 ne126 ne566 ne109 ne115 ne121 ne127 ne565 hpq68 hpq69 hpq70 ne567 hpq71 hpq72 ne568 hpq73 ne569 ne570 hpq532 hon (own_ou_lt t59_0 hon hlt) (own_po1 t59_1 hlt hpq534) ge_b1) hZ (own_w hw 134 rfl) (own_w hw 3 rfl) (by decide) (by decide)) q786a q786c (g := (mkF m 213 #[.val (.int p0), .val (.long qa), .second, .val (.long qb), .second, .val (.long qc), .second, .val (.long qd), .second, .val (.int lev), .val (.int (1 : Int32)), .val (.long g0), .second, .val (.long s1), .second, .val (.long g2), .second, .val (.long s2), .second, .val (.ref b1), .val (.int ou784), .unset, .unset, .unset, .unset] [(.int (0 : Int32)), (.long g0), (.int ou784), (.ref b1)])) rfl (by rw [hml]; rfl) (Steps.refl _) (argsL := [(.int ou784), (.long g0), (.int (0 : Int32))]) (rest := []) (lenOf pd_14 rfl) rfl (by show 2 * 0 + _ ≤ _; exact Nat.le_of_eq rfl) (hb hby at_213) (fun _ _ => ⟨rfl, rfl, (by decide : 7 + 0 ≤ _), (by decide : 97 + 0 ≤ _)⟩)
        dsimp only [Pt.U, Pt.locs, Pt.cells, Pt.slots] at X786 l786 y786 z786 st786 hQ786
        subst l786 y786 z786
        obtain ⟨rfl, N786q, hq787, E788, F789, F790, F791, F792, F793, F794, F795, F796, F797, G798, G799, G800, G801, G802⟩ := hQ786
        have N786 := Fr.app N644 N786q
        have E803 := E661.keep hq787
        have F804 := F662.keep hq787 (ninS (Ne.symm ne52) (ninS ne565 nin0))
        have F805 := F663.keep hq787 (ninS (Ne.symm ne52) (ninS ne565 nin0))
        have F806 := F664.keep hq787 (ninS (Ne.symm ne52) (ninS ne565 nin0))
        have F807 := F665.keep hq787 (ninS (Ne.symm ne52) (ninS ne565 nin0))
        have K786 : Keep h0 T786.heap [] := K644.trans hq787 (allS (Or.inr sz_b1) (allS (Or.inr sz571) all0))
        have Zs808 : n0 ≤ T786.heap.size := (Nat.le_trans Zs666 hq787.1)
        have pre809 := fun (t : State) (k : Steps p.tables e below (T786.setTop (mkF m 216 #[.val (.int p0), .val (.long qa), .second, .val (.long qb), .second, .val (.long qc), .second, .val (.long qd), .second, .val (.int lev), .val (.int (1 : Int32)), .val (.long g0), .second, .val (.long s1), .second, .val (.long g2), .second, .val (.long s2), .second, .val (.ref b1), .val (.int ou784), .unset, .unset, .unset, .unset] [])) t) => pre785 t (by
          refine XS.istore X644.here hx rfl (hb hby at_204) rfl (l' := #[.val (.int p0), .val (.long qa), .second, .val (.long qb), .second, .val (.long qc), .second, .val (.long qd), .second, .val (.int lev), .val (.int (1 : Int32)), .val (.long g0), .second, .val (.long s1), .second, .val (.long g2), .second, .val (.long s2), .second, .val (.ref b1), .val (.int ou784), .unset, .unset, .unset, .unset]) rfl ?_
          refine XS.aload X644.here hx rfl (hb hby at_206) rfl rfl ?_
          refine XS.iload X644.here hx rfl (hb hby at_208) rfl ?_
          refine XS.lload X644.here hx rfl (hb hby at_210) rfl ?_
          refine XS.iconst X644.here hx rfl (hb hby at_212) ?_
          refine st786.trans ?_
          exact k)
        obtain ⟨Fn, hFn⟩ : ∃ z : Nat → Int64, z = (own_up (own_up (own_up x619 ((ln + 1) + 1) s2) (ln + 1) g2) on g0) := ⟨_, rfl⟩
        have VF : own_Fa Value.long .long Z T786.heap x526 16 Fn := by rw [hFn]; exact G802
        have hW : own_W Fn ((ln + 1) + 2) true on true ln (ln + 1) g0 s1 g2 s2 := by rw [hFn]; exact (own_W_add (own_W1 (own_base1 hpq534) (by omega) hpq622) (by omega) (fun q => by first | omega | cases q))
        have hSW := own_W_S hW t59_3
        have hCZ : own_cz x620 ((ln + 1) + 2) := (own_cz1 hpq622 (by have := t59_1; omega))
        obtain ⟨cq810, kq810, q810a, q810b, q810c⟩ := isOf hZ rfl E788
        obtain ⟨_, _, ⟨T810, L810, k810, n810⟩, -, X810, ⟨Lc810, hQ810, l810, y810, z810⟩, st810⟩ := X786.virtualBack hx (y := (⟨"com/example/fieldglass/fieldglass/io/Marks", "readBack", "()V"⟩ : MethodName)) (z := (⟨"com/example/fieldglass/fieldglass/io/Marks", "readBack", "()V"⟩ : MethodName)) hown (mvT hZ (own_w hw 135 rfl)) (mvT hZ (own_w hw 136 rfl)) (notFace_of_selects (args := #[]) (mvT hZ (own_w hw 138 rfl))) (mvT hZ (own_w hw 138 rfl)) (mvT hZ (own_w hw 137 rfl)) (by decide) (backOf (W := 0) (rm_rbk l Z a0 hw [] b1 x19 x526 Fn x620 ((ln + 1) + 2) (9223372036854775807 : Int64) T786.heap n0 Zs808 E788 F796 F797 E803 F804 F805 F806 F807 VF F795 ne52 ne566 ne565 ge_b1 hpq21 hCZ hSW) hZ (own_w hw 139 rfl) (own_w hw 3 rfl) (by decide) (by decide)) q810a q810c (g := (mkF m 218 #[.val (.int p0), .val (.long qa), .second, .val (.long qb), .second, .val (.long qc), .second, .val (.long qd), .second, .val (.int lev), .val (.int (1 : Int32)), .val (.long g0), .second, .val (.long s1), .second, .val (.long g2), .second, .val (.long s2), .second, .val (.ref b1), .val (.int ou784), .unset, .unset, .unset, .unset] [(.ref b1)])) rfl (by rw [hml]; rfl) (Steps.refl _) (argsL := []) (rest := []) (lenOf pd_1 rfl) rfl (by show 2 * 0 + _ ≤ _; exact Nat.le_of_eq rfl) (hb hby at_218) (fun _ _ => ⟨rfl, rfl, (by decide : 7 + 0 ≤ _), (by decide : 97 + 0 ≤ _)⟩)
        dsimp only [Pt.U, Pt.locs, Pt.cells, Pt.slots] at X810 l810 y810 z810 st810 hQ810
        subst l810 y810 z810
        obtain ⟨x811, x812, x813, rfl, N810q, hq814, hpq815, hpq816, F817, F818, F819, F820, F821, F822⟩ := hQ810
        have N810 := Fr.app N786 N810q
        have E823 := E803.keep hq814
        have E824 := E788.keep hq814
        have G825 := VF.keep hq814 (ninS (Ne.symm ne566) (ninS (Ne.symm ne565) nin0))
        have K810 : Keep h0 T810.heap [] := K786.trans hq814 (allS (Or.inr sz_b1) (allS (Or.inr sz53) all0))
        have Zs826 : n0 ≤ T810.heap.size := (Nat.le_trans Zs808 hq814.1)
        obtain ⟨cq827, kq827, q827a, q827b, q827c⟩ := isOf hZ rfl E824
        obtain ⟨_, _, ⟨T827, L827, k827, n827⟩, -, X827, ⟨Lc827, hQ827, l827, y827, z827⟩, st827⟩ := X810.virtualBack hx (y := (⟨"com/example/fieldglass/fieldglass/io/Marks", "isMarked", "(J)Z"⟩ : MethodName)) (z := (⟨"com/example/fieldglass/fieldglass/io/Marks", "isMarked", "(J)Z"⟩ : MethodName)) hown (mvT hZ (own_w hw 158 rfl)) (mvT hZ (own_w hw 159 rfl)) (notFace_of_selects (args := #[]) (mvT hZ (own_w hw 161 rfl))) (mvT hZ (own_w hw 161 rfl)) (mvT hZ (own_w hw 160 rfl)) (by decide) (backOf (W := 0) (rm_ism l Z a0 hw [] b1 x19 x526 Fn x620 ((ln + 1) + 2) x811 x812 x813 g0 (0 : Int64) T810.heap n0 Zs826 E824 F817 F818 E823 F819 F820 F821 F822 G825 ne52 ne566 ne565 ge_b1 hpq21 hCZ hSW hpq815 hpq816 (own_v4_q0 t59_3) (own_v4_s0 t59_3)) hZ (own_w hw 162 rfl) (own_w hw 3 rfl) (by decide) (by decide)) q827a q827c (g := (mkF m 225 #[.val (.int p0), .val (.long qa), .second, .val (.long qb), .second, .val (.long qc), .second, .val (.long qd), .second, .val (.int lev), .val (.int (1 : Int32)), .val (.long g0), .second, .val (.long s1), .second, .val (.long g2), .second, .val (.long s2), .second, .val (.ref b1), .val (.int ou784), .unset, .unset, .unset, .unset] [(.long g0), (.ref b1)])) rfl (by rw [hml]; rfl) (Steps.refl _) (argsL := [(.long g0)]) (rest := []) (lenOf pd_11 rfl) rfl (by show 2 * 0 + _ ≤ _; exact Nat.le_of_eq rfl) (hb hby at_225) (fun _ _ => ⟨rfl, rfl, (by decide : 7 + 0 ≤ _), (by decide : 97 + 0 ≤ _)⟩)
        dsimp only [Pt.U, Pt.locs, Pt.cells, Pt.slots] at X827 l827 y827 z827 st827 hQ827
        subst l827 y827 z827
        obtain ⟨x828, x829, x830, x831, rfl, N827q, hq832, hpq833, hpq834, hpq835, F836, F837, F838, F839, F840, F841⟩ := hQ827
        have N827 := Fr.app N810 N827q
        have E842 := E823.keep hq832
        have E843 := E824.keep hq832
        have G844 := G825.keep hq832 (ninS (Ne.symm ne566) (ninS (Ne.symm ne565) nin0))
        have K827 : Keep h0 T827.heap [] := K810.trans hq832 (allS (Or.inr sz_b1) (allS (Or.inr sz53) all0))
        have Zs845 : n0 ≤ T827.heap.size := (Nat.le_trans Zs826 hq832.1)
        obtain ⟨cq846, kq846, q846a, q846b, q846c⟩ := isOf hZ rfl E843
        obtain ⟨_, _, ⟨T846, L846, k846, n846⟩, -, X846, ⟨Lc846, hQ846, l846, y846, z846⟩, st846⟩ := X827.virtualBack hx (y := (⟨"com/example/fieldglass/fieldglass/io/Marks", "isMarked", "(J)Z"⟩ : MethodName)) (z := (⟨"com/example/fieldglass/fieldglass/io/Marks", "isMarked", "(J)Z"⟩ : MethodName)) hown (mvT hZ (own_w hw 158 rfl)) (mvT hZ (own_w hw 159 rfl)) (notFace_of_selects (args := #[]) (mvT hZ (own_w hw 161 rfl))) (mvT hZ (own_w hw 161 rfl)) (mvT hZ (own_w hw 160 rfl)) (by decide) (backOf (W := 0) (rm_ism l Z a0 hw [] b1 x19 x526 Fn x620 ((ln + 1) + 2) x828 x829 x830 s1 g0 T827.heap n0 Zs845 E843 F836 F837 E842 F838 F839 F840 F841 G844 ne52 ne566 ne565 ge_b1 hpq21 hCZ hSW hpq833 hpq834 (own_v4_q1 t59_3) (own_v4_s1 t59_3)) hZ (own_w hw 162 rfl) (own_w hw 3 rfl) (by decide) (by decide)) q846a q846c (g := (mkF m 234 #[.val (.int p0), .val (.long qa), .second, .val (.long qb), .second, .val (.long qc), .second, .val (.long qd), .second, .val (.int lev), .val (.int (1 : Int32)), .val (.long g0), .second, .val (.long s1), .second, .val (.long g2), .second, .val (.long s2), .second, .val (.ref b1), .val (.int x831), .unset, .unset, .unset, .unset] [(.long s1), (.ref b1)])) rfl (by rw [hml]; rfl) (Steps.refl _) (argsL := [(.long s1)]) (rest := []) (lenOf pd_11 rfl) rfl (by show 2 * 0 + _ ≤ _; exact Nat.le_of_eq rfl) (hb hby at_234) (fun _ _ => ⟨rfl, rfl, (by decide : 7 + 0 ≤ _), (by decide : 97 + 0 ≤ _)⟩)
        dsimp only [Pt.U, Pt.locs, Pt.cells, Pt.slots] at X846 l846 y846 z846 st846 hQ846
        subst l846 y846 z846
        obtain ⟨x847, x848, x849, x850, rfl, N846q, hq851, hpq852, hpq853, hpq854, F855, F856, F857, F858, F859, F860⟩ := hQ846
        have N846 := Fr.app N827 N846q
        have E861 := E842.keep hq851
        have E862 := E843.keep hq851
        have G863 := G844.keep hq851 (ninS (Ne.symm ne566) (ninS (Ne.symm ne565) nin0))
        have K846 : Keep h0 T846.heap [] := K827.trans hq851 (allS (Or.inr sz_b1) (allS (Or.inr sz53) all0))
        have Zs864 : n0 ≤ T846.heap.size := (Nat.le_trans Zs845 hq851.1)
        obtain ⟨cq865, kq865, q865a, q865b, q865c⟩ := isOf hZ rfl E862
        obtain ⟨_, _, ⟨T865, L865, k865, n865⟩, -, X865, ⟨Lc865, hQ865, l865, y865, z865⟩, st865⟩ := X846.virtualBack hx (y := (⟨"com/example/fieldglass/fieldglass/io/Marks", "isMarked", "(J)Z"⟩ : MethodName)) (z := (⟨"com/example/fieldglass/fieldglass/io/Marks", "isMarked", "(J)Z"⟩ : MethodName)) hown (mvT hZ (own_w hw 158 rfl)) (mvT hZ (own_w hw 159 rfl)) (notFace_of_selects (args := #[]) (mvT hZ (own_w hw 161 rfl))) (mvT hZ (own_w hw 161 rfl)) (mvT hZ (own_w hw 160 rfl)) (by decide) (backOf (W := 0) (rm_ism l Z a0 hw [] b1 x19 x526 Fn x620 ((ln + 1) + 2) x847 x848 x849 g2 s1 T846.heap n0 Zs864 E862 F855 F856 E861 F857 F858 F859 F860 G863 ne52 ne566 ne565 ge_b1 hpq21 hCZ hSW hpq852 hpq853 (own_v4_q2 t59_3) (own_v4_s2 t59_3)) hZ (own_w hw 162 rfl) (own_w hw 3 rfl) (by decide) (by decide)) q865a q865c (g := (mkF m 243 #[.val (.int p0), .val (.long qa), .second, .val (.long qb), .second, .val (.long qc), .second, .val (.long qd), .second, .val (.int lev), .val (.int (1 : Int32)), .val (.long g0), .second, .val (.long s1), .second, .val (.long g2), .second, .val (.long s2), .second, .val (.ref b1), .val (.int x831), .val (.int x850), .unset, .unset, .unset] [(.long g2), (.ref b1)])) rfl (by rw [hml]; rfl) (Steps.refl _) (argsL := [(.long g2)]) (rest := []) (lenOf pd_11 rfl) rfl (by show 2 * 0 + _ ≤ _; exact Nat.le_of_eq rfl) (hb hby at_243) (fun _ _ => ⟨rfl, rfl, (by decide : 7 + 0 ≤ _), (by decide : 97 + 0 ≤ _)⟩)
        dsimp only [Pt.U, Pt.locs, Pt.cells, Pt.slots] at X865 l865 y865 z865 st865 hQ865
        subst l865 y865 z865
        obtain ⟨x866, x867, x868, x869, rfl, N865q, hq870, hpq871, hpq872, hpq873, F874, F875, F876, F877, F878, F879⟩ := hQ865
        have N865 := Fr.app N846 N865q
        have E880 := E861.keep hq870
        have E881 := E862.keep hq870
        have G882 := G863.keep hq870 (ninS (Ne.symm ne566) (ninS (Ne.symm ne565) nin0))
        have K865 : Keep h0 T865.heap [] := K846.trans hq870 (allS (Or.inr sz_b1) (allS (Or.inr sz53) all0))
        have Zs883 : n0 ≤ T865.heap.size := (Nat.le_trans Zs864 hq870.1)
        obtain ⟨cq884, kq884, q884a, q884b, q884c⟩ := isOf hZ rfl E881
        obtain ⟨_, _, ⟨T884, L884, k884, n884⟩, -, X884, ⟨Lc884, hQ884, l884, y884, z884⟩, st884⟩ := X865.virtualBack hx (y := (⟨"com/example/fieldglass/fieldglass/io/Marks", "isMarked", "(J)Z"⟩ : MethodName)) (z := (⟨"com/example/fieldglass/fieldglass/io/Marks", "isMarked", "(J)Z"⟩ : MethodName)) hown (mvT hZ (own_w hw 158 rfl)) (mvT hZ (own_w hw 159 rfl)) (notFace_of_selects (args := #[]) (mvT hZ (own_w hw 161 rfl))) (mvT hZ (own_w hw 161 rfl)) (mvT hZ (own_w hw 160 rfl)) (by decide) (backOf (W := 0) (rm_ism l Z a0 hw [] b1 x19 x526 Fn x620 ((ln + 1) + 2) x866 x867 x868 s2 g2 T865.heap n0 Zs883 E881 F874 F875 E880 F876 F877 F878 F879 G882 ne52 ne566 ne565 ge_b1 hpq21 hCZ hSW hpq871 hpq872 (own_v4_q3 t59_3) (own_v4_s3 t59_3)) hZ (own_w hw 162 rfl) (own_w hw 3 rfl) (by decide) (by decide)) q884a q884c (g := (mkF m 252 #[.val (.int p0), .val (.long qa), .second, .val (.long qb), .second, .val (.long qc), .second, .val (.long qd), .second, .val (.int lev), .val (.int (1 : Int32)), .val (.long g0), .second, .val (.long s1), .second, .val (.long g2), .second, .val (.long s2), .second, .val (.ref b1), .val (.int x831), .val (.int x850), .val (.int x869), .unset, .unset] [(.long s2), (.ref b1)])) rfl (by rw [hml]; rfl) (Steps.refl _) (argsL := [(.long s2)]) (rest := []) (lenOf pd_11 rfl) rfl (by show 2 * 0 + _ ≤ _; exact Nat.le_of_eq rfl) (hb hby at_252) (fun _ _ => ⟨rfl, rfl, (by decide : 7 + 0 ≤ _), (by decide : 97 + 0 ≤ _)⟩)
        dsimp only [Pt.U, Pt.locs, Pt.cells, Pt.slots] at X884 l884 y884 z884 st884 hQ884
        subst l884 y884 z884
        obtain ⟨x885, x886, x887, x888, rfl, N884q, hq889, hpq890, hpq891, hpq892, F893, F894, F895, F896, F897, F898⟩ := hQ884
        have N884 := Fr.app N865 N884q
        have E899 := E880.keep hq889
        have E900 := E881.keep hq889
        have G901 := G882.keep hq889 (ninS (Ne.symm ne566) (ninS (Ne.symm ne565) nin0))
        have K884 : Keep h0 T884.heap [] := K865.trans hq889 (allS (Or.inr sz_b1) (allS (Or.inr sz53) all0))
        have Zs902 : n0 ≤ T884.heap.size := (Nat.le_trans Zs883 hq889.1)
        obtain ⟨cq903, kq903, q903a, q903b, q903c⟩ := isOf hZ rfl E900
        obtain ⟨_, _, ⟨T903, L903, k903, n903⟩, -, X903, ⟨Lc903, hQ903, l903, y903, z903⟩, st903⟩ := X884.virtualBack hx (y := (⟨"com/example/fieldglass/fieldglass/io/Marks", "isMarked", "(J)Z"⟩ : MethodName)) (z := (⟨"com/example/fieldglass/fieldglass/io/Marks", "isMarked", "(J)Z"⟩ : MethodName)) hown (mvT hZ (own_w hw 158 rfl)) (mvT hZ (own_w hw 159 rfl)) (notFace_of_selects (args := #[]) (mvT hZ (own_w hw 161 rfl))) (mvT hZ (own_w hw 161 rfl)) (mvT hZ (own_w hw 160 rfl)) (by decide) (backOf (W := 0) (rm_ism l Z a0 hw [] b1 x19 x526 Fn x620 ((ln + 1) + 2) x885 x886 x887 (s2 + (1 : Int64)) s2 T884.heap n0 Zs902 E900 F893 F894 E899 F895 F896 F897 F898 G901 ne52 ne566 ne565 ge_b1 hpq21 hCZ hSW hpq890 hpq891 (own_v4_q4 t59_3) (own_v4_s4 t59_3)) hZ (own_w hw 162 rfl) (own_w hw 3 rfl) (by decide) (by decide)) q903a q903c (g := (mkF m 263 #[.val (.int p0), .val (.long qa), .second, .val (.long qb), .second, .val (.long qc), .second, .val (.long qd), .second, .val (.int lev), .val (.int (1 : Int32)), .val (.long g0), .second, .val (.long s1), .second, .val (.long g2), .second, .val (.long s2), .second, .val (.ref b1), .val (.int x831), .val (.int x850), .val (.int x869), .val (.int x888), .unset] [(.long (s2 + (1 : Int64))), (.ref b1)])) rfl (by rw [hml]; rfl) (Steps.refl _) (argsL := [(.long (s2 + (1 : Int64)))]) (rest := []) (lenOf pd_11 rfl) rfl (by show 2 * 0 + _ ≤ _; exact Nat.le_of_eq rfl) (hb hby at_263) (fun _ _ => ⟨rfl, rfl, (by decide : 7 + 0 ≤ _), (by decide : 97 + 0 ≤ _)⟩)
        dsimp only [Pt.U, Pt.locs, Pt.cells, Pt.slots] at X903 l903 y903 z903 st903 hQ903
        subst l903 y903 z903
        obtain ⟨x904, x905, x906, x907, rfl, N903q, hq908, hpq909, hpq910, hpq911, F912, F913, F914, F915, F916, F917⟩ := hQ903
        have N903 := Fr.app N884 N903q
        have E918 := E899.keep hq908
        have E919 := E900.keep hq908
        have G920 := G901.keep hq908 (ninS (Ne.symm ne566) (ninS (Ne.symm ne565) nin0))
        have K903 : Keep h0 T903.heap [] := K884.trans hq908 (allS (Or.inr sz_b1) (allS (Or.inr sz53) all0))
        have Zs921 : n0 ≤ T903.heap.size := (Nat.le_trans Zs902 hq908.1)
        have pre922 := fun (t : State) (k : Steps p.tables e below (T903.setTop (mkF m 319 #[.val (.int p0), .val (.long qa), .second, .val (.long qb), .second, .val (.long qc), .second, .val (.long qd), .second, .val (.int lev), .val (.int (1 : Int32)), .val (.long g0), .second, .val (.long s1), .second, .val (.long g2), .second, .val (.long s2), .second, .val (.ref b1), .val (.int x831), .val (.int x850), .val (.int x869), .val (.int x888), .val (.int x907)] [(.int (1 : Int32))])) t) => pre809 t (by
          refine XS.aload X786.here hx rfl (hb hby at_216) rfl rfl ?_
          refine st810.trans ?_
          refine XS.aload X810.here hx rfl (hb hby at_221) rfl rfl ?_
          refine XS.lload X810.here hx rfl (hb hby at_223) rfl ?_
          refine st827.trans ?_
          refine XS.istore X827.here hx rfl (hb hby at_228) rfl (l' := #[.val (.int p0), .val (.long qa), .second, .val (.long qb), .second, .val (.long qc), .second, .val (.long qd), .second, .val (.int lev), .val (.int (1 : Int32)), .val (.long g0), .second, .val (.long s1), .second, .val (.long g2), .second, .val (.long s2), .second, .val (.ref b1), .val (.int x831), .unset, .unset, .unset, .unset]) rfl ?_
          refine XS.aload X827.here hx rfl (hb hby at_230) rfl rfl ?_
          refine XS.lload X827.here hx rfl (hb hby at_232) rfl ?_
          refine st846.trans ?_
          refine XS.istore X846.here hx rfl (hb hby at_237) rfl (l' := #[.val (.int p0), .val (.long qa), .second, .val (.long qb), .second, .val (.long qc), .second, .val (.long qd), .second, .val (.int lev), .val (.int (1 : Int32)), .val (.long g0), .second, .val (.long s1), .second, .val (.long g2), .second, .val (.long s2), .second, .val (.ref b1), .val (.int x831), .val (.int x850), .unset, .unset, .unset]) rfl ?_
          refine XS.aload X846.here hx rfl (hb hby at_239) rfl rfl ?_
          refine XS.lload X846.here hx rfl (hb hby at_241) rfl ?_
          refine st865.trans ?_
          refine XS.istore X865.here hx rfl (hb hby at_246) rfl (l' := #[.val (.int p0), .val (.long qa), .second, .val (.long qb), .second, .val (.long qc), .second, .val (.long qd), .second, .val (.int lev), .val (.int (1 : Int32)), .val (.long g0), .second, .val (.long s1), .second, .val (.long g2), .second, .val (.long s2), .second, .val (.ref b1), .val (.int x831), .val (.int x850), .val (.int x869), .unset, .unset]) rfl ?_
          refine XS.aload X865.here hx rfl (hb hby at_248) rfl rfl ?_
          refine XS.lload X865.here hx rfl (hb hby at_250) rfl ?_
          refine st884.trans ?_
          refine XS.istore X884.here hx rfl (hb hby at_255) rfl (l' := #[.val (.int p0), .val (.long qa), .second, .val (.long qb), .second, .val (.long qc), .second, .val (.long qd), .second, .val (.int lev), .val (.int (1 : Int32)), .val (.long g0), .second, .val (.long s1), .second, .val (.long g2), .second, .val (.long s2), .second, .val (.ref b1), .val (.int x831), .val (.int x850), .val (.int x869), .val (.int x888), .unset]) rfl ?_
          refine XS.aload X884.here hx rfl (hb hby at_257) rfl rfl ?_
          refine XS.lload X884.here hx rfl (hb hby at_259) rfl ?_
          refine XS.lconst X884.here hx rfl (hb hby at_261) ?_
          refine XS.ladd X884.here hx rfl (hb hby at_262) rfl ?_
          refine st903.trans ?_
          refine XS.istore X903.here hx rfl (hb hby at_266) rfl (l' := #[.val (.int p0), .val (.long qa), .second, .val (.long qb), .second, .val (.long qc), .second, .val (.long qd), .second, .val (.int lev), .val (.int (1 : Int32)), .val (.long g0), .second, .val (.long s1), .second, .val (.long g2), .second, .val (.long s2), .second, .val (.ref b1), .val (.int x831), .val (.int x850), .val (.int x869), .val (.int x888), .val (.int x907)]) rfl ?_
          refine XS.iload X903.here hx rfl (hb hby at_268) rfl ?_
          refine XS.iload X903.here hx rfl (hb hby at_270) rfl ?_
          refine XS.iconst X903.here hx rfl (hb hby at_272) ?_
          refine XS.icmpNo X903.here hx rfl (hb hby at_273) rfl (flt hc668).1 ?_
          refine XS.iconst X903.here hx rfl (hb hby at_276) ?_
          refine XS.goto X903.here hx rfl (pc0 := 277) (pc' := 281) rfl (hb hby at_277) (by decide) (by decide) ?_
          refine XS.icmpNo X903.here hx rfl (hb hby at_281) rfl (teq (own_yes hpq835 (own_W_y0 hW t59_3))).2 ?_
          refine XS.iload X903.here hx rfl (hb hby at_284) rfl ?_
          refine XS.iload X903.here hx rfl (hb hby at_286) rfl ?_
          refine XS.ifNo X903.here hx rfl (hb hby at_288) rfl ((if0 _ _).trans (feq (by decide : ¬ ((1 : Int32) = (0 : Int32)))).1) ?_
          refine XS.iconst X903.here hx rfl (hb hby at_291) ?_
          refine XS.goto X903.here hx rfl (pc0 := 292) (pc' := 296) rfl (hb hby at_292) (by decide) (by decide) ?_
          refine XS.icmpNo X903.here hx rfl (hb hby at_296) rfl (teq (own_yes hpq854 (own_W_y1 hW t59_3))).2 ?_
          refine XS.iload X903.here hx rfl (hb hby at_299) rfl ?_
          refine XS.ifNo X903.here hx rfl (hb hby at_301) rfl ((if0 _ _).trans (feq (own_ne0 (own_yes hpq873 (own_W_y2 hW t59_3)))).1) ?_
          refine XS.iload X903.here hx rfl (hb hby at_304) rfl ?_
          refine XS.ifNo X903.here hx rfl (hb hby at_306) rfl ((if0 _ _).trans (feq (own_ne0 (own_yes hpq892 (own_W_y3 hW t59_3)))).1) ?_
          refine XS.iload X903.here hx rfl (hb hby at_309) rfl ?_
          refine XS.ifNo X903.here hx rfl (hb hby at_311) rfl ((if0 _ _).trans (teq (own_no hpq911 (own_W_n4 hW t59_3))).2) ?_
          refine XS.iconst X903.here hx rfl (hb hby at_314) ?_
          refine XS.goto X903.here hx rfl (pc0 := 315) (pc' := 319) rfl (hb hby at_315) (by decide) (by decide) ?_
          exact k)
        obtain ⟨fs, hr, hrun, hended, hW, hsame⟩ := X903.leave (v := some (.int (1 : Int32))) (hlocks := BodyLoose.notSynchronized Bd) (fun h => by rw [Bd.returns] at h; cases h)
        refine ⟨_, _, pre922 _ ?_, hrun, hended, _, _, rfl, ?_, ⟨_, rfl⟩, hW, hsame.mono (by decide) (by decide)⟩
        · exact retN X903 hx (t := .boolean) Bd.returns (by simp) (hb hby at_319) hr
        · show Q_law Z p0 qa qb qc qd ab al an kb kl ki h0 n0 _ T903.heap _
          exact ⟨rfl, N903, K903⟩
    · obtain ⟨cq923, kq923, q923a, q923b, q923c⟩ := isOf hZ rfl E98
      obtain ⟨_, _, ⟨T923, L923, k923, n923⟩, -, X923, ⟨Lc923, hQ923, l923, y923, z923⟩, st923⟩ := X54.virtualBack hx (y := (⟨"com/example/fieldglass/fieldglass/io/Marks", "beginFields", "(IJI)V"⟩ : MethodName)) (z := (⟨"com/example/fieldglass/fieldglass/io/Marks", "beginFields", "(IJI)V"⟩ : MethodName)) hown (mvT hZ (own_w hw 86 rfl)) (mvT hZ (own_w hw 87 rfl)) (notFace_of_selects (args := #[]) (mvT hZ (own_w hw 89 rfl))) (mvT hZ (own_w hw 89 rfl)) (mvT hZ (own_w hw 88 rfl)) (by decide) (backOf (W := 0) (rm_bf l Z a0 hw [] b1 x19 x55 x56 x57 x58 (own_up (fun _ => (0 : Int32)) ln (1 : Int32)) (fun _ => (0 : Int64)) (fun _ => (0 : Int32)) (fun _ => (0 : Int64)) (0 : Int32) (-1 : Int32) (lev + (1 : Int32)) (ln + 1) s1 T54.heap n0 Zs104 E98 F74 F75 F76 F77 F78 F79 F80 F81 F82 G83 G84 G85 G86 ne52 ne108 ne114 ne120 ne126 ne109 ne115 ne121 ne127 hpq68 hpq69 hpq70 hpq71 hpq72 hpq73 ge_b1 hpq62 hpq64 (own_up1 t59_0 t59_1) (fun q => absurd (own_m1 (own_up1 t59_0 t59_1)) q)) hZ (own_w hw 90 rfl) (own_w hw 3 rfl) (by decide) (by decide)) q923a q923c (g := (mkF m 118 #[.val (.int p0), .val (.long qa), .second, .val (.long qb), .second, .val (.long qc), .second, .val (.long qd), .second, .val (.int lev), .val (.int (2 : Int32)), .val (.long g0), .second, .val (.long s1), .second, .val (.long g2), .second, .val (.long s2), .second, .val (.ref b1), .unset, .unset, .unset, .unset, .unset] [(.int (1 : Int32)), (.long s1), (.int (lev + (1 : Int32))), (.ref b1)])) rfl (by rw [hml]; rfl) (Steps.refl _) (argsL := [(.int (lev + (1 : Int32))), (.long s1), (.int (1 : Int32))]) (rest := []) (lenOf pd_12 rfl) rfl (by show 2 * 0 + _ ≤ _; exact Nat.le_of_eq rfl) (hb hby at_118) (fun _ _ => ⟨rfl, rfl, (by decide : 6 + 0 ≤ _), (by decide : 81 + 0 ≤ _)⟩)
      dsimp only [Pt.U, Pt.locs, Pt.cells, Pt.slots] at X923 l923 y923 z923 st923 hQ923
      subst l923 y923 z923
      obtain ⟨rfl, N923q, hq924, E925, F926, F927, F928, F929, F930, F931, F932, F933, F934, G935, G936, G937, G938⟩ := hQ923
      have N923 := Fr.app N54 N923q
      have A939 := A96.keep hq924 (ninS ne_al_b1 (ninS ne112 (ninS ne118 nin0)))
      have E940 := E99.keep hq924
      have F941 := F100.keep hq924 (ninS (Ne.symm ne52) (ninS ne115 (ninS ne121 nin0)))
      have F942 := F101.keep hq924 (ninS (Ne.symm ne52) (ninS ne115 (ninS ne121 nin0)))
      have F943 := F102.keep hq924 (ninS (Ne.symm ne52) (ninS ne115 (ninS ne121 nin0)))
      have F944 := F103.keep hq924 (ninS (Ne.symm ne52) (ninS ne115 (ninS ne121 nin0)))
      have K923 : Keep h0 T923.heap [] := K54.trans hq924 (allS (Or.inr sz_b1) (allS (Or.inr sz116) (allS (Or.inr sz122) all0)))
      have Zs945 : n0 ≤ T923.heap.size := (Nat.le_trans Zs104 hq924.1)
      obtain ⟨cq946, kq946, q946a, q946b, q946c⟩ := isOf hZ rfl E925
      obtain ⟨_, _, ⟨T946, L946, k946, n946⟩, -, X946, ⟨Lc946, hQ946, l946, y946, z946⟩, st946⟩ := X923.virtualBack hx (y := (⟨"com/example/fieldglass/fieldglass/io/Marks", "markField", "(IJ)V"⟩ : MethodName)) (z := (⟨"com/example/fieldglass/fieldglass/io/Marks", "markField", "(IJ)V"⟩ : MethodName)) hown (mvT hZ (own_w hw 91 rfl)) (mvT hZ (own_w hw 92 rfl)) (notFace_of_selects (args := #[]) (mvT hZ (own_w hw 94 rfl))) (mvT hZ (own_w hw 94 rfl)) (mvT hZ (own_w hw 93 rfl)) (by decide) (backOf (W := 0) (rm_mfG l Z a0 hw [] b1 x19 x55 x56 x57 x58 (own_up (fun _ => (0 : Int32)) ln (1 : Int32)) (own_up (fun _ => (0 : Int64)) (ln + 1) s1) (own_up (fun _ => (0 : Int32)) (ln + 1) (1 : Int32)) (fun _ => (0 : Int64)) al kl (lev + (1 : Int32)) (own_cf2 ln) (lev + (1 : Int32)) (ln + 1) s1 (ln + 1) T923.heap n0 Zs945 E925 F926 F927 F928 F929 F930 F931 F932 F933 F934 G935 G936 G937 G938 E940 F941 F942 F943 F944 A939 ne52 ne108 ne114 ne120 ne126 (Ne.symm ne_al_b1) ne109 ne115 ne121 ne127 (Ne.symm ne50) hpq68 hpq69 hpq70 (Ne.symm ne106) hpq71 hpq72 (Ne.symm ne112) hpq73 (Ne.symm ne118) (Ne.symm ne124) ge_b1 hpq21 hpq66 (own_up1 t59_0 t59_1) (own_cf_2 t59_1) (own_k0_2 ln) (own_p_2 t59_1)) hZ (own_w hw 95 rfl) (own_w hw 3 rfl) (by decide) (by decide)) q946a q946c (g := (mkF m 129 #[.val (.int p0), .val (.long qa), .second, .val (.long qb), .second, .val (.long qc), .second, .val (.long qd), .second, .val (.int lev), .val (.int (2 : Int32)), .val (.long g0), .second, .val (.long s1), .second, .val (.long g2), .second, .val (.long s2), .second, .val (.ref b1), .unset, .unset, .unset, .unset, .unset] [(.long s1), (.int (lev + (1 : Int32))), (.ref b1)])) rfl (by rw [hml]; rfl) (Steps.refl _) (argsL := [(.int (lev + (1 : Int32))), (.long s1)]) (rest := []) (lenOf pd_13 rfl) rfl (by show 2 * 0 + _ ≤ _; exact Nat.le_of_eq rfl) (hb hby at_129) (fun _ _ => ⟨rfl, rfl, (by decide : 6 + 1 ≤ _), (by decide : 81 + 16 ≤ _)⟩)
      dsimp only [Pt.U, Pt.locs, Pt.cells, Pt.slots] at X946 l946 y946 z946 st946 hQ946
      subst l946 y946 z946
      obtain ⟨x947, x948, x949, x950, x951, rfl, N946q, hq952, hpq953, hpq954, hpq955, E956, F957, F958, F959, F960, F961, F962, F963, F964, F965, G966, G967, G968, G969, E970, F971, F972, F973, F974, G975⟩ := hQ946
      have N946 := Fr.app N923 N946q
      have lt976 : al < T923.heap.size := A939.lt
      have lt977 : x19 < T923.heap.size := E940.lt
      have lt978 : b1 < T923.heap.size := E925.lt
      have lt979 : x55 < T923.heap.size := G935.lt
      have lt980 : x56 < T923.heap.size := G936.lt
      have lt981 : x57 < T923.heap.size := G937.lt
      have lt982 : x58 < T923.heap.size := G938.lt
      have A983 := A939.keep hq952 (ninS ne_al_b1 (ninS ne50 (ninS ne124 nin0)))
      have K946 : Keep h0 T946.heap [] := K923.trans hq952 (allS (Or.inr sz_b1) (allS (Or.inr sz53) (allS (Or.inr sz128) all0)))
      have Zs984 : n0 ≤ T946.heap.size := (Nat.le_trans Zs945 hq952.1)
      have ne985 : al ≠ x947 := Nat.ne_of_lt (Nat.lt_of_lt_of_le lt976 hpq954)
      have ne986 : x19 ≠ x947 := Nat.ne_of_lt (Nat.lt_of_lt_of_le lt977 hpq954)
      have ne987 : b1 ≠ x947 := Nat.ne_of_lt (Nat.lt_of_lt_of_le lt978 hpq954)
      have ne988 : x55 ≠ x947 := Nat.ne_of_lt (Nat.lt_of_lt_of_le lt979 hpq954)
      have ne989 : x56 ≠ x947 := Nat.ne_of_lt (Nat.lt_of_lt_of_le lt980 hpq954)
      have ne990 : x57 ≠ x947 := Nat.ne_of_lt (Nat.lt_of_lt_of_le lt981 hpq954)
      have ne991 : x58 ≠ x947 := Nat.ne_of_lt (Nat.lt_of_lt_of_le lt982 hpq954)
      have sz992 : h0.size ≤ x947 := Nat.le_trans K923.1 hpq954
      obtain ⟨cq993, kq993, q993a, q993b, q993c⟩ := isOf hZ rfl E956
      obtain ⟨_, _, ⟨T993, L993, k993, n993⟩, -, X993, ⟨Lc993, hQ993, l993, y993, z993⟩, st993⟩ := X946.virtualBack hx (y := (⟨"com/example/fieldglass/fieldglass/io/Marks", "endMessage", "(I)V"⟩ : MethodName)) (z := (⟨"com/example/fieldglass/fieldglass/io/Marks", "endMessage", "(I)V"⟩ : MethodName)) hown (mvT hZ (own_w hw 78 rfl)) (mvT hZ (own_w hw 79 rfl)) (notFace_of_selects (args := #[]) (mvT hZ (own_w hw 81 rfl))) (mvT hZ (own_w hw 81 rfl)) (mvT hZ (own_w hw 80 rfl)) (by decide) (backOf (W := 0) (rm_em1 l Z a0 hw [] b1 x19 x55 x56 x57 x58 (own_up (fun _ => (0 : Int32)) ln (1 : Int32)) (own_up (fun _ => (0 : Int64)) (ln + 1) s1) (own_up (fun _ => (0 : Int32)) (ln + 1) (1 : Int32)) x948 x951 lev (lev + (1 : Int32)) lev ln T946.heap n0 Zs984 E956 F957 F958 F959 F960 F961 F962 F963 F964 F965 G966 G967 G968 G969 ne52 ne108 ne114 ne120 ne126 ne109 ne115 ne121 ne127 hpq68 hpq69 hpq70 hpq71 hpq72 hpq73 ge_b1 hpq60 hpq64 t59_0 (own_up1 t59_0 t59_1) (fun _ => rfl) (fun q => absurd (own_mk_lt2 t59_0 hpq955) q)) hZ (own_w hw 82 rfl) (own_w hw 3 rfl) (by decide) (by decide)) q993a q993c (g := (mkF m 157 #[.val (.int p0), .val (.long qa), .second, .val (.long qb), .second, .val (.long qc), .second, .val (.long qd), .second, .val (.int lev), .val (.int (2 : Int32)), .val (.long g0), .second, .val (.long s1), .second, .val (.long g2), .second, .val (.long s2), .second, .val (.ref b1), .unset, .unset, .unset, .unset, .unset] [(.int lev), (.ref b1)])) rfl (by rw [hml]; rfl) (Steps.refl _) (argsL := [(.int lev)]) (rest := []) (lenOf pd_5 rfl) rfl (by show 2 * 0 + _ ≤ _; exact Nat.le_of_eq rfl) (hb hby at_157) (fun _ _ => ⟨rfl, rfl, (by decide : 7 + 0 ≤ _), (by decide : 97 + 0 ≤ _)⟩)
      dsimp only [Pt.U, Pt.locs, Pt.cells, Pt.slots] at X993 l993 y993 z993 st993 hQ993
      subst l993 y993 z993
      obtain ⟨rfl, N993q, hq994, E995, F996, F997, F998, F999, F1000, F1001, F1002, F1003, F1004, G1005, G1006, G1007, G1008⟩ := hQ993
      have N993 := Fr.app N946 N993q
      have E1009 := E970.keep hq994
      have F1010 := F971.keep hq994 (ninS (Ne.symm ne52) (ninS ne109 (ninS ne121 nin0)))
      have F1011 := F972.keep hq994 (ninS (Ne.symm ne52) (ninS ne109 (ninS ne121 nin0)))
      have F1012 := F973.keep hq994 (ninS (Ne.symm ne52) (ninS ne109 (ninS ne121 nin0)))
      have F1013 := F974.keep hq994 (ninS (Ne.symm ne52) (ninS ne109 (ninS ne121 nin0)))
      have G1014 := G975.keep hq994 (ninS (Ne.symm ne987) (ninS (Ne.symm ne988) (ninS (Ne.symm ne990) nin0)))
      have K993 : Keep h0 T993.heap [] := K946.trans hq994 (allS (Or.inr sz_b1) (allS (Or.inr sz110) (allS (Or.inr sz122) all0)))
      have Zs1015 : n0 ≤ T993.heap.size := (Nat.le_trans Zs984 hq994.1)
      obtain ⟨cq1016, kq1016, q1016a, q1016b, q1016c⟩ := isOf hZ rfl E995
      obtain ⟨_, _, ⟨T1016, L1016, k1016, n1016⟩, -, X1016, ⟨Lc1016, hQ1016, l1016, y1016, z1016⟩, st1016⟩ := X993.virtualBack hx (y := (⟨"com/example/fieldglass/fieldglass/io/Marks", "beginFields", "(IJI)V"⟩ : MethodName)) (z := (⟨"com/example/fieldglass/fieldglass/io/Marks", "beginFields", "(IJI)V"⟩ : MethodName)) hown (mvT hZ (own_w hw 86 rfl)) (mvT hZ (own_w hw 87 rfl)) (notFace_of_selects (args := #[]) (mvT hZ (own_w hw 89 rfl))) (mvT hZ (own_w hw 89 rfl)) (mvT hZ (own_w hw 88 rfl)) (by decide) (backOf (W := 0) (rm_bf l Z a0 hw [] b1 x19 x55 x56 x57 x58 (own_up (own_up (fun _ => (0 : Int32)) ln (1 : Int32)) ln (0 : Int32)) (own_up (fun _ => (0 : Int64)) (ln + 1) s1) (own_up (own_up (fun _ => (0 : Int32)) (ln + 1) (1 : Int32)) (ln + 1) (0 : Int32)) x948 lev ((lev + (1 : Int32)) - (1 : Int32)) lev ln s2 T993.heap n0 Zs1015 E995 F996 F997 F998 F999 F1000 F1001 F1002 F1003 F1004 G1005 G1006 G1007 G1008 ne52 ne108 ne114 ne120 ne126 ne109 ne115 ne121 ne127 hpq68 hpq69 hpq70 hpq71 hpq72 hpq73 ge_b1 hpq62 hpq64 t59_0 (fun _ => own_sub1 lev)) hZ (own_w hw 90 rfl) (own_w hw 3 rfl) (by decide) (by decide)) q1016a q1016c (g := (mkF m 167 #[.val (.int p0), .val (.long qa), .second, .val (.long qb), .second, .val (.long qc), .second, .val (.long qd), .second, .val (.int lev), .val (.int (2 : Int32)), .val (.long g0), .second, .val (.long s1), .second, .val (.long g2), .second, .val (.long s2), .second, .val (.ref b1), .unset, .unset, .unset, .unset, .unset] [(.int (1 : Int32)), (.long s2), (.int lev), (.ref b1)])) rfl (by rw [hml]; rfl) (Steps.refl _) (argsL := [(.int lev), (.long s2), (.int (1 : Int32))]) (rest := []) (lenOf pd_12 rfl) rfl (by show 2 * 0 + _ ≤ _; exact Nat.le_of_eq rfl) (hb hby at_167) (fun _ _ => ⟨rfl, rfl, (by decide : 7 + 0 ≤ _), (by decide : 97 + 0 ≤ _)⟩)
      dsimp only [Pt.U, Pt.locs, Pt.cells, Pt.slots] at X1016 l1016 y1016 z1016 st1016 hQ1016
      subst l1016 y1016 z1016
      obtain ⟨rfl, N1016q, hq1017, E1018, F1019, F1020, F1021, F1022, F1023, F1024, F1025, F1026, F1027, G1028, G1029, G1030, G1031⟩ := hQ1016
      have N1016 := Fr.app N993 N1016q
      have E1032 := E1009.keep hq1017
      have F1033 := F1010.keep hq1017 (ninS (Ne.symm ne52) (ninS ne115 (ninS ne121 nin0)))
      have F1034 := F1011.keep hq1017 (ninS (Ne.symm ne52) (ninS ne115 (ninS ne121 nin0)))
      have F1035 := F1012.keep hq1017 (ninS (Ne.symm ne52) (ninS ne115 (ninS ne121 nin0)))
      have F1036 := F1013.keep hq1017 (ninS (Ne.symm ne52) (ninS ne115 (ninS ne121 nin0)))
      have G1037 := G1014.keep hq1017 (ninS (Ne.symm ne987) (ninS (Ne.symm ne989) (ninS (Ne.symm ne990) nin0)))
      have K1016 : Keep h0 T1016.heap [] := K993.trans hq1017 (allS (Or.inr sz_b1) (allS (Or.inr sz116) (allS (Or.inr sz122) all0)))
      have Zs1038 : n0 ≤ T1016.heap.size := (Nat.le_trans Zs1015 hq1017.1)
      have hczq : x950.toInt = (((ln + 2) : Nat) : Int) := own_czq2 hpq955
      obtain ⟨cq1039, kq1039, q1039a, q1039b, q1039c⟩ := isOf hZ rfl E1018
      obtain ⟨_, _, ⟨T1039, L1039, k1039, n1039⟩, -, X1039, ⟨Lc1039, hQ1039, l1039, y1039, z1039⟩, st1039⟩ := X1016.virtualBack hx (y := (⟨"com/example/fieldglass/fieldglass/io/Marks", "markField", "(IJ)V"⟩ : MethodName)) (z := (⟨"com/example/fieldglass/fieldglass/io/Marks", "markField", "(IJ)V"⟩ : MethodName)) hown (mvT hZ (own_w hw 91 rfl)) (mvT hZ (own_w hw 92 rfl)) (notFace_of_selects (args := #[]) (mvT hZ (own_w hw 94 rfl))) (mvT hZ (own_w hw 94 rfl)) (mvT hZ (own_w hw 93 rfl)) (by decide) (backOf (W := 0) (rm_mf1 l Z a0 hw [] b1 x19 x55 x56 x57 x58 (own_up (own_up (fun _ => (0 : Int32)) ln (1 : Int32)) ln (0 : Int32)) (own_up (own_up (fun _ => (0 : Int64)) (ln + 1) s1) ln s2) (own_up (own_up (own_up (fun _ => (0 : Int32)) (ln + 1) (1 : Int32)) (ln + 1) (0 : Int32)) ln (1 : Int32)) x948 x947 x949 x950 lev (ln + 2) lev ln s2 ((ln + 2) + 1) T1016.heap n0 Zs1038 E1018 F1019 F1020 F1021 F1022 F1023 F1024 F1025 F1026 F1027 G1028 G1029 G1030 G1031 E1032 F1033 F1034 F1035 F1036 G1037 ne52 ne108 ne114 ne120 ne126 ne987 ne109 ne115 ne121 ne127 ne986 hpq68 hpq69 hpq70 ne988 hpq71 hpq72 ne989 hpq73 ne990 ne991 ge_b1 hpq21 hpq66 hpq953 t59_0 hczq (own_k2 ln _ _) (by have := t59_1; omega) (own_p1 hczq (by have := t59_1; omega) ln _ _ _)) hZ (own_w hw 95 rfl) (own_w hw 3 rfl) (by decide) (by decide)) q1039a q1039c (g := (mkF m 176 #[.val (.int p0), .val (.long qa), .second, .val (.long qb), .second, .val (.long qc), .second, .val (.long qd), .second, .val (.int lev), .val (.int (2 : Int32)), .val (.long g0), .second, .val (.long s1), .second, .val (.long g2), .second, .val (.long s2), .second, .val (.ref b1), .unset, .unset, .unset, .unset, .unset] [(.long s2), (.int lev), (.ref b1)])) rfl (by rw [hml]; rfl) (Steps.refl _) (argsL := [(.int lev), (.long s2)]) (rest := []) (lenOf pd_13 rfl) rfl (by show 2 * 0 + _ ≤ _; exact Nat.le_of_eq rfl) (hb hby at_176) (fun _ _ => ⟨rfl, rfl, (by decide : 7 + 0 ≤ _), (by decide : 97 + 0 ≤ _)⟩)
      dsimp only [Pt.U, Pt.locs, Pt.cells, Pt.slots] at X1039 l1039 y1039 z1039 st1039 hQ1039
      subst l1039 y1039 z1039
      obtain ⟨x1040, x1041, rfl, N1039q, hq1042, hpq1043, E1044, F1045, F1046, F1047, F1048, F1049, F1050, F1051, F1052, F1053, G1054, G1055, G1056, G1057, E1058, F1059, F1060, F1061, F1062, G1063⟩ := hQ1039
      have N1039 := Fr.app N1016 N1039q
      have K1039 : Keep h0 T1039.heap [] := K1016.trans hq1042 (allS (Or.inr sz_b1) (allS (Or.inr sz53) (allS (Or.inr sz128) (allS (Or.inr sz992) all0))))
      have Zs1064 : n0 ≤ T1039.heap.size := (Nat.le_trans Zs1038 hq1042.1)
      obtain ⟨cq1065, kq1065, q1065a, q1065b, q1065c⟩ := isOf hZ rfl E1044
      obtain ⟨_, _, ⟨T1065, L1065, k1065, n1065⟩, -, X1065, ⟨Lc1065, hQ1065, l1065, y1065, z1065⟩, st1065⟩ := X1039.virtualBack hx (y := (⟨"com/example/fieldglass/fieldglass/io/Marks", "endGroup", "(IJZ)V"⟩ : MethodName)) (z := (⟨"com/example/fieldglass/fieldglass/io/Marks", "endGroup", "(IJZ)V"⟩ : MethodName)) hown (mvT hZ (own_w hw 130 rfl)) (mvT hZ (own_w hw 131 rfl)) (notFace_of_selects (args := #[]) (mvT hZ (own_w hw 133 rfl))) (mvT hZ (own_w hw 133 rfl)) (mvT hZ (own_w hw 132 rfl)) (by decide) (backOf (W := 0) (rm_egN l Z a0 hw [] b1 x19 x55 x56 x57 x58 (own_up (own_up (fun _ => (0 : Int32)) ln (1 : Int32)) ln (0 : Int32)) (own_up (own_up (fun _ => (0 : Int64)) (ln + 1) s1) ln s2) (own_up (own_up (own_up (fun _ => (0 : Int32)) (ln + 1) (1 : Int32)) (ln + 1) (0 : Int32)) ln (1 : Int32)) (own_up x948 ln (own_sz x950)) x947 (own_up x1040 ((ln + 2) + 1) s2) x1041 (lev + (1 : Int32)) lev lev ln g2 (ln + 2) T1039.heap n0 Zs1064 E1044 F1045 F1046 F1047 F1048 F1049 F1050 F1051 F1052 F1053 G1054 G1055 G1056 G1057 E1058 F1059 F1060 F1061 F1062 G1063 ne52 ne108 ne114 ne120 ne126 ne987 ne109 ne115 ne121 ne127 ne986 hpq68 hpq69 hpq70 ne988 hpq71 hpq72 ne989 hpq73 ne990 ne991 hpq953 t59_0 (own_lt_s t59_0) (own_pg1 hczq (by have := t59_1; omega) _ _) ge_b1) hZ (own_w hw 134 rfl) (own_w hw 3 rfl) (by decide) (by decide)) q1065a q1065c (g := (mkF m 186 #[.val (.int p0), .val (.long qa), .second, .val (.long qb), .second, .val (.long qc), .second, .val (.long qd), .second, .val (.int lev), .val (.int (2 : Int32)), .val (.long g0), .second, .val (.long s1), .second, .val (.long g2), .second, .val (.long s2), .second, .val (.ref b1), .unset, .unset, .unset, .unset, .unset] [(.int (0 : Int32)), (.long g2), (.int lev), (.ref b1)])) rfl (by rw [hml]; rfl) (Steps.refl _) (argsL := [(.int lev), (.long g2), (.int (0 : Int32))]) (rest := []) (lenOf pd_14 rfl) rfl (by show 2 * 0 + _ ≤ _; exact Nat.le_of_eq rfl) (hb hby at_186) (fun _ _ => ⟨rfl, rfl, (by decide : 7 + 0 ≤ _), (by decide : 97 + 0 ≤ _)⟩)
      dsimp only [Pt.U, Pt.locs, Pt.cells, Pt.slots] at X1065 l1065 y1065 z1065 st1065 hQ1065
      subst l1065 y1065 z1065
      obtain ⟨rfl, N1065q, hq1066, E1067, F1068, F1069, F1070, F1071, F1072, F1073, F1074, F1075, F1076, G1077, G1078, G1079, G1080, G1081⟩ := hQ1065
      have N1065 := Fr.app N1039 N1065q
      have E1082 := E1058.keep hq1066
      have F1083 := F1059.keep hq1066 (ninS (Ne.symm ne52) (ninS ne986 nin0))
      have F1084 := F1060.keep hq1066 (ninS (Ne.symm ne52) (ninS ne986 nin0))
      have F1085 := F1061.keep hq1066 (ninS (Ne.symm ne52) (ninS ne986 nin0))
      have F1086 := F1062.keep hq1066 (ninS (Ne.symm ne52) (ninS ne986 nin0))
      have K1065 : Keep h0 T1065.heap [] := K1039.trans hq1066 (allS (Or.inr sz_b1) (allS (Or.inr sz992) all0))
      have Zs1087 : n0 ≤ T1065.heap.size := (Nat.le_trans Zs1064 hq1066.1)
      have pre1088 := fun (t : State) (k : Steps p.tables e below (T1065.setTop (mkF m 192 #[.val (.int p0), .val (.long qa), .second, .val (.long qb), .second, .val (.long qc), .second, .val (.long qd), .second, .val (.int lev), .val (.int (2 : Int32)), .val (.long g0), .second, .val (.long s1), .second, .val (.long g2), .second, .val (.long s2), .second, .val (.ref b1), .unset, .unset, .unset, .unset, .unset] [(.int (1 : Int32)), (.int lev)])) t) => pre129 t (by
        refine XS.iload X54.here hx rfl (hb hby at_75) rfl ?_
        refine XS.iconst X54.here hx rfl (hb hby at_77) ?_
        refine XS.icmpYes X54.here hx rfl (pc0 := 78) (pc' := 103) rfl (hb hby at_78) rfl (feq (by decide : ¬ ((2 : Int32) = (1 : Int32)))).2 (by decide) (by decide) ?_
        refine XS.iload X54.here hx rfl (hb hby at_103) rfl ?_
        refine XS.iconst X54.here hx rfl (hb hby at_105) ?_
        refine XS.icmpNo X54.here hx rfl (hb hby at_106) rfl (teq (by decide : (2 : Int32) = (2 : Int32))).2 ?_
        refine XS.aload X54.here hx rfl (hb hby at_109) rfl rfl ?_
        refine XS.iload X54.here hx rfl (hb hby at_111) rfl ?_
        refine XS.iconst X54.here hx rfl (hb hby at_113) ?_
        refine XS.iadd X54.here hx rfl (hb hby at_114) rfl ?_
        refine XS.lload X54.here hx rfl (hb hby at_115) rfl ?_
        refine XS.iconst X54.here hx rfl (hb hby at_117) ?_
        refine st923.trans ?_
        refine XS.aload X923.here hx rfl (hb hby at_121) rfl rfl ?_
        refine XS.iload X923.here hx rfl (hb hby at_123) rfl ?_
        refine XS.iconst X923.here hx rfl (hb hby at_125) ?_
        refine XS.iadd X923.here hx rfl (hb hby at_126) rfl ?_
        refine XS.lload X923.here hx rfl (hb hby at_127) rfl ?_
        refine st946.trans ?_
        refine XS.goto X946.here hx rfl (pc0 := 132) (pc' := 153) rfl (hb hby at_132) (by decide) (by decide) ?_
        refine XS.aload X946.here hx rfl (hb hby at_153) rfl rfl ?_
        refine XS.iload X946.here hx rfl (hb hby at_155) rfl ?_
        refine st993.trans ?_
        refine XS.aload X993.here hx rfl (hb hby at_160) rfl rfl ?_
        refine XS.iload X993.here hx rfl (hb hby at_162) rfl ?_
        refine XS.lload X993.here hx rfl (hb hby at_164) rfl ?_
        refine XS.iconst X993.here hx rfl (hb hby at_166) ?_
        refine st1016.trans ?_
        refine XS.aload X1016.here hx rfl (hb hby at_170) rfl rfl ?_
        refine XS.iload X1016.here hx rfl (hb hby at_172) rfl ?_
        refine XS.lload X1016.here hx rfl (hb hby at_174) rfl ?_
        refine st1039.trans ?_
        refine XS.aload X1039.here hx rfl (hb hby at_179) rfl rfl ?_
        refine XS.iload X1039.here hx rfl (hb hby at_181) rfl ?_
        refine XS.lload X1039.here hx rfl (hb hby at_183) rfl ?_
        refine XS.iconst X1039.here hx rfl (hb hby at_185) ?_
        refine st1065.trans ?_
        refine XS.iload X1065.here hx rfl (hb hby at_189) rfl ?_
        refine XS.iconst X1065.here hx rfl (hb hby at_191) ?_
        exact k)
      by_cases hc1089 : lev < (1 : Int32)
      · have pre1090 := fun (t : State) (k : Steps p.tables e below (T1065.setTop (mkF m 216 #[.val (.int p0), .val (.long qa), .second, .val (.long qb), .second, .val (.long qc), .second, .val (.long qd), .second, .val (.int lev), .val (.int (2 : Int32)), .val (.long g0), .second, .val (.long s1), .second, .val (.long g2), .second, .val (.long s2), .second, .val (.ref b1), .unset, .unset, .unset, .unset, .unset] [])) t) => pre1088 t (by
          refine XS.icmpYes X1065.here hx rfl (pc0 := 192) (pc' := 216) rfl (hb hby at_192) rfl (tlt hc1089).1 (by decide) (by decide) ?_
          exact k)
        obtain ⟨Fn, hFn⟩ : ∃ z : Nat → Int64, z = (own_up (own_up x1040 ((ln + 2) + 1) s2) (ln + 2) g2) := ⟨_, rfl⟩
        have VF : own_Fa Value.long .long Z T1065.heap x947 16 Fn := by rw [hFn]; exact G1081
        have hW : own_W Fn ((ln + 2) + 2) false 0 true (ln + 1) (ln + 2) g0 s1 g2 s2 := by rw [hFn]; exact (own_W1 (own_base2 hpq955) (by omega) hpq1043)
        have hSW := own_W_S hW t59_3
        have hCZ : own_cz x1041 ((ln + 2) + 2) := (own_cz1 hpq1043 (by have := t59_1; omega))
        obtain ⟨cq1091, kq1091, q1091a, q1091b, q1091c⟩ := isOf hZ rfl E1067
        obtain ⟨_, _, ⟨T1091, L1091, k1091, n1091⟩, -, X1091, ⟨Lc1091, hQ1091, l1091, y1091, z1091⟩, st1091⟩ := X1065.virtualBack hx (y := (⟨"com/example/fieldglass/fieldglass/io/Marks", "readBack", "()V"⟩ : MethodName)) (z := (⟨"com/example/fieldglass/fieldglass/io/Marks", "readBack", "()V"⟩ : MethodName)) hown (mvT hZ (own_w hw 135 rfl)) (mvT hZ (own_w hw 136 rfl)) (notFace_of_selects (args := #[]) (mvT hZ (own_w hw 138 rfl))) (mvT hZ (own_w hw 138 rfl)) (mvT hZ (own_w hw 137 rfl)) (by decide) (backOf (W := 0) (rm_rbk l Z a0 hw [] b1 x19 x947 Fn x1041 ((ln + 2) + 2) (9223372036854775807 : Int64) T1065.heap n0 Zs1087 E1067 F1075 F1076 E1082 F1083 F1084 F1085 F1086 VF F1074 ne52 ne987 ne986 ge_b1 hpq21 hCZ hSW) hZ (own_w hw 139 rfl) (own_w hw 3 rfl) (by decide) (by decide)) q1091a q1091c (g := (mkF m 218 #[.val (.int p0), .val (.long qa), .second, .val (.long qb), .second, .val (.long qc), .second, .val (.long qd), .second, .val (.int lev), .val (.int (2 : Int32)), .val (.long g0), .second, .val (.long s1), .second, .val (.long g2), .second, .val (.long s2), .second, .val (.ref b1), .unset, .unset, .unset, .unset, .unset] [(.ref b1)])) rfl (by rw [hml]; rfl) (Steps.refl _) (argsL := []) (rest := []) (lenOf pd_1 rfl) rfl (by show 2 * 0 + _ ≤ _; exact Nat.le_of_eq rfl) (hb hby at_218) (fun _ _ => ⟨rfl, rfl, (by decide : 7 + 0 ≤ _), (by decide : 97 + 0 ≤ _)⟩)
        dsimp only [Pt.U, Pt.locs, Pt.cells, Pt.slots] at X1091 l1091 y1091 z1091 st1091 hQ1091
        subst l1091 y1091 z1091
        obtain ⟨x1092, x1093, x1094, rfl, N1091q, hq1095, hpq1096, hpq1097, F1098, F1099, F1100, F1101, F1102, F1103⟩ := hQ1091
        have N1091 := Fr.app N1065 N1091q
        have E1104 := E1082.keep hq1095
        have E1105 := E1067.keep hq1095
        have G1106 := VF.keep hq1095 (ninS (Ne.symm ne987) (ninS (Ne.symm ne986) nin0))
        have K1091 : Keep h0 T1091.heap [] := K1065.trans hq1095 (allS (Or.inr sz_b1) (allS (Or.inr sz53) all0))
        have Zs1107 : n0 ≤ T1091.heap.size := (Nat.le_trans Zs1087 hq1095.1)
        obtain ⟨cq1108, kq1108, q1108a, q1108b, q1108c⟩ := isOf hZ rfl E1105
        obtain ⟨_, _, ⟨T1108, L1108, k1108, n1108⟩, -, X1108, ⟨Lc1108, hQ1108, l1108, y1108, z1108⟩, st1108⟩ := X1091.virtualBack hx (y := (⟨"com/example/fieldglass/fieldglass/io/Marks", "isMarked", "(J)Z"⟩ : MethodName)) (z := (⟨"com/example/fieldglass/fieldglass/io/Marks", "isMarked", "(J)Z"⟩ : MethodName)) hown (mvT hZ (own_w hw 158 rfl)) (mvT hZ (own_w hw 159 rfl)) (notFace_of_selects (args := #[]) (mvT hZ (own_w hw 161 rfl))) (mvT hZ (own_w hw 161 rfl)) (mvT hZ (own_w hw 160 rfl)) (by decide) (backOf (W := 0) (rm_ism l Z a0 hw [] b1 x19 x947 Fn x1041 ((ln + 2) + 2) x1092 x1093 x1094 g0 (0 : Int64) T1091.heap n0 Zs1107 E1105 F1098 F1099 E1104 F1100 F1101 F1102 F1103 G1106 ne52 ne987 ne986 ge_b1 hpq21 hCZ hSW hpq1096 hpq1097 (own_v4_q0 t59_3) (own_v4_s0 t59_3)) hZ (own_w hw 162 rfl) (own_w hw 3 rfl) (by decide) (by decide)) q1108a q1108c (g := (mkF m 225 #[.val (.int p0), .val (.long qa), .second, .val (.long qb), .second, .val (.long qc), .second, .val (.long qd), .second, .val (.int lev), .val (.int (2 : Int32)), .val (.long g0), .second, .val (.long s1), .second, .val (.long g2), .second, .val (.long s2), .second, .val (.ref b1), .unset, .unset, .unset, .unset, .unset] [(.long g0), (.ref b1)])) rfl (by rw [hml]; rfl) (Steps.refl _) (argsL := [(.long g0)]) (rest := []) (lenOf pd_11 rfl) rfl (by show 2 * 0 + _ ≤ _; exact Nat.le_of_eq rfl) (hb hby at_225) (fun _ _ => ⟨rfl, rfl, (by decide : 7 + 0 ≤ _), (by decide : 97 + 0 ≤ _)⟩)
        dsimp only [Pt.U, Pt.locs, Pt.cells, Pt.slots] at X1108 l1108 y1108 z1108 st1108 hQ1108
        subst l1108 y1108 z1108
        obtain ⟨x1109, x1110, x1111, x1112, rfl, N1108q, hq1113, hpq1114, hpq1115, hpq1116, F1117, F1118, F1119, F1120, F1121, F1122⟩ := hQ1108
        have N1108 := Fr.app N1091 N1108q
        have E1123 := E1104.keep hq1113
        have E1124 := E1105.keep hq1113
        have G1125 := G1106.keep hq1113 (ninS (Ne.symm ne987) (ninS (Ne.symm ne986) nin0))
        have K1108 : Keep h0 T1108.heap [] := K1091.trans hq1113 (allS (Or.inr sz_b1) (allS (Or.inr sz53) all0))
        have Zs1126 : n0 ≤ T1108.heap.size := (Nat.le_trans Zs1107 hq1113.1)
        obtain ⟨cq1127, kq1127, q1127a, q1127b, q1127c⟩ := isOf hZ rfl E1124
        obtain ⟨_, _, ⟨T1127, L1127, k1127, n1127⟩, -, X1127, ⟨Lc1127, hQ1127, l1127, y1127, z1127⟩, st1127⟩ := X1108.virtualBack hx (y := (⟨"com/example/fieldglass/fieldglass/io/Marks", "isMarked", "(J)Z"⟩ : MethodName)) (z := (⟨"com/example/fieldglass/fieldglass/io/Marks", "isMarked", "(J)Z"⟩ : MethodName)) hown (mvT hZ (own_w hw 158 rfl)) (mvT hZ (own_w hw 159 rfl)) (notFace_of_selects (args := #[]) (mvT hZ (own_w hw 161 rfl))) (mvT hZ (own_w hw 161 rfl)) (mvT hZ (own_w hw 160 rfl)) (by decide) (backOf (W := 0) (rm_ism l Z a0 hw [] b1 x19 x947 Fn x1041 ((ln + 2) + 2) x1109 x1110 x1111 s1 g0 T1108.heap n0 Zs1126 E1124 F1117 F1118 E1123 F1119 F1120 F1121 F1122 G1125 ne52 ne987 ne986 ge_b1 hpq21 hCZ hSW hpq1114 hpq1115 (own_v4_q1 t59_3) (own_v4_s1 t59_3)) hZ (own_w hw 162 rfl) (own_w hw 3 rfl) (by decide) (by decide)) q1127a q1127c (g := (mkF m 234 #[.val (.int p0), .val (.long qa), .second, .val (.long qb), .second, .val (.long qc), .second, .val (.long qd), .second, .val (.int lev), .val (.int (2 : Int32)), .val (.long g0), .second, .val (.long s1), .second, .val (.long g2), .second, .val (.long s2), .second, .val (.ref b1), .val (.int x1112), .unset, .unset, .unset, .unset] [(.long s1), (.ref b1)])) rfl (by rw [hml]; rfl) (Steps.refl _) (argsL := [(.long s1)]) (rest := []) (lenOf pd_11 rfl) rfl (by show 2 * 0 + _ ≤ _; exact Nat.le_of_eq rfl) (hb hby at_234) (fun _ _ => ⟨rfl, rfl, (by decide : 7 + 0 ≤ _), (by decide : 97 + 0 ≤ _)⟩)
        dsimp only [Pt.U, Pt.locs, Pt.cells, Pt.slots] at X1127 l1127 y1127 z1127 st1127 hQ1127
        subst l1127 y1127 z1127
        obtain ⟨x1128, x1129, x1130, x1131, rfl, N1127q, hq1132, hpq1133, hpq1134, hpq1135, F1136, F1137, F1138, F1139, F1140, F1141⟩ := hQ1127
        have N1127 := Fr.app N1108 N1127q
        have E1142 := E1123.keep hq1132
        have E1143 := E1124.keep hq1132
        have G1144 := G1125.keep hq1132 (ninS (Ne.symm ne987) (ninS (Ne.symm ne986) nin0))
        have K1127 : Keep h0 T1127.heap [] := K1108.trans hq1132 (allS (Or.inr sz_b1) (allS (Or.inr sz53) all0))
        have Zs1145 : n0 ≤ T1127.heap.size := (Nat.le_trans Zs1126 hq1132.1)
        obtain ⟨cq1146, kq1146, q1146a, q1146b, q1146c⟩ := isOf hZ rfl E1143
        obtain ⟨_, _, ⟨T1146, L1146, k1146, n1146⟩, -, X1146, ⟨Lc1146, hQ1146, l1146, y1146, z1146⟩, st1146⟩ := X1127.virtualBack hx (y := (⟨"com/example/fieldglass/fieldglass/io/Marks", "isMarked", "(J)Z"⟩ : MethodName)) (z := (⟨"com/example/fieldglass/fieldglass/io/Marks", "isMarked", "(J)Z"⟩ : MethodName)) hown (mvT hZ (own_w hw 158 rfl)) (mvT hZ (own_w hw 159 rfl)) (notFace_of_selects (args := #[]) (mvT hZ (own_w hw 161 rfl))) (mvT hZ (own_w hw 161 rfl)) (mvT hZ (own_w hw 160 rfl)) (by decide) (backOf (W := 0) (rm_ism l Z a0 hw [] b1 x19 x947 Fn x1041 ((ln + 2) + 2) x1128 x1129 x1130 g2 s1 T1127.heap n0 Zs1145 E1143 F1136 F1137 E1142 F1138 F1139 F1140 F1141 G1144 ne52 ne987 ne986 ge_b1 hpq21 hCZ hSW hpq1133 hpq1134 (own_v4_q2 t59_3) (own_v4_s2 t59_3)) hZ (own_w hw 162 rfl) (own_w hw 3 rfl) (by decide) (by decide)) q1146a q1146c (g := (mkF m 243 #[.val (.int p0), .val (.long qa), .second, .val (.long qb), .second, .val (.long qc), .second, .val (.long qd), .second, .val (.int lev), .val (.int (2 : Int32)), .val (.long g0), .second, .val (.long s1), .second, .val (.long g2), .second, .val (.long s2), .second, .val (.ref b1), .val (.int x1112), .val (.int x1131), .unset, .unset, .unset] [(.long g2), (.ref b1)])) rfl (by rw [hml]; rfl) (Steps.refl _) (argsL := [(.long g2)]) (rest := []) (lenOf pd_11 rfl) rfl (by show 2 * 0 + _ ≤ _; exact Nat.le_of_eq rfl) (hb hby at_243) (fun _ _ => ⟨rfl, rfl, (by decide : 7 + 0 ≤ _), (by decide : 97 + 0 ≤ _)⟩)
        dsimp only [Pt.U, Pt.locs, Pt.cells, Pt.slots] at X1146 l1146 y1146 z1146 st1146 hQ1146
        subst l1146 y1146 z1146
        obtain ⟨x1147, x1148, x1149, x1150, rfl, N1146q, hq1151, hpq1152, hpq1153, hpq1154, F1155, F1156, F1157, F1158, F1159, F1160⟩ := hQ1146
        have N1146 := Fr.app N1127 N1146q
        have E1161 := E1142.keep hq1151
        have E1162 := E1143.keep hq1151
        have G1163 := G1144.keep hq1151 (ninS (Ne.symm ne987) (ninS (Ne.symm ne986) nin0))
        have K1146 : Keep h0 T1146.heap [] := K1127.trans hq1151 (allS (Or.inr sz_b1) (allS (Or.inr sz53) all0))
        have Zs1164 : n0 ≤ T1146.heap.size := (Nat.le_trans Zs1145 hq1151.1)
        obtain ⟨cq1165, kq1165, q1165a, q1165b, q1165c⟩ := isOf hZ rfl E1162
        obtain ⟨_, _, ⟨T1165, L1165, k1165, n1165⟩, -, X1165, ⟨Lc1165, hQ1165, l1165, y1165, z1165⟩, st1165⟩ := X1146.virtualBack hx (y := (⟨"com/example/fieldglass/fieldglass/io/Marks", "isMarked", "(J)Z"⟩ : MethodName)) (z := (⟨"com/example/fieldglass/fieldglass/io/Marks", "isMarked", "(J)Z"⟩ : MethodName)) hown (mvT hZ (own_w hw 158 rfl)) (mvT hZ (own_w hw 159 rfl)) (notFace_of_selects (args := #[]) (mvT hZ (own_w hw 161 rfl))) (mvT hZ (own_w hw 161 rfl)) (mvT hZ (own_w hw 160 rfl)) (by decide) (backOf (W := 0) (rm_ism l Z a0 hw [] b1 x19 x947 Fn x1041 ((ln + 2) + 2) x1147 x1148 x1149 s2 g2 T1146.heap n0 Zs1164 E1162 F1155 F1156 E1161 F1157 F1158 F1159 F1160 G1163 ne52 ne987 ne986 ge_b1 hpq21 hCZ hSW hpq1152 hpq1153 (own_v4_q3 t59_3) (own_v4_s3 t59_3)) hZ (own_w hw 162 rfl) (own_w hw 3 rfl) (by decide) (by decide)) q1165a q1165c (g := (mkF m 252 #[.val (.int p0), .val (.long qa), .second, .val (.long qb), .second, .val (.long qc), .second, .val (.long qd), .second, .val (.int lev), .val (.int (2 : Int32)), .val (.long g0), .second, .val (.long s1), .second, .val (.long g2), .second, .val (.long s2), .second, .val (.ref b1), .val (.int x1112), .val (.int x1131), .val (.int x1150), .unset, .unset] [(.long s2), (.ref b1)])) rfl (by rw [hml]; rfl) (Steps.refl _) (argsL := [(.long s2)]) (rest := []) (lenOf pd_11 rfl) rfl (by show 2 * 0 + _ ≤ _; exact Nat.le_of_eq rfl) (hb hby at_252) (fun _ _ => ⟨rfl, rfl, (by decide : 7 + 0 ≤ _), (by decide : 97 + 0 ≤ _)⟩)
        dsimp only [Pt.U, Pt.locs, Pt.cells, Pt.slots] at X1165 l1165 y1165 z1165 st1165 hQ1165
        subst l1165 y1165 z1165
        obtain ⟨x1166, x1167, x1168, x1169, rfl, N1165q, hq1170, hpq1171, hpq1172, hpq1173, F1174, F1175, F1176, F1177, F1178, F1179⟩ := hQ1165
        have N1165 := Fr.app N1146 N1165q
        have E1180 := E1161.keep hq1170
        have E1181 := E1162.keep hq1170
        have G1182 := G1163.keep hq1170 (ninS (Ne.symm ne987) (ninS (Ne.symm ne986) nin0))
        have K1165 : Keep h0 T1165.heap [] := K1146.trans hq1170 (allS (Or.inr sz_b1) (allS (Or.inr sz53) all0))
        have Zs1183 : n0 ≤ T1165.heap.size := (Nat.le_trans Zs1164 hq1170.1)
        obtain ⟨cq1184, kq1184, q1184a, q1184b, q1184c⟩ := isOf hZ rfl E1181
        obtain ⟨_, _, ⟨T1184, L1184, k1184, n1184⟩, -, X1184, ⟨Lc1184, hQ1184, l1184, y1184, z1184⟩, st1184⟩ := X1165.virtualBack hx (y := (⟨"com/example/fieldglass/fieldglass/io/Marks", "isMarked", "(J)Z"⟩ : MethodName)) (z := (⟨"com/example/fieldglass/fieldglass/io/Marks", "isMarked", "(J)Z"⟩ : MethodName)) hown (mvT hZ (own_w hw 158 rfl)) (mvT hZ (own_w hw 159 rfl)) (notFace_of_selects (args := #[]) (mvT hZ (own_w hw 161 rfl))) (mvT hZ (own_w hw 161 rfl)) (mvT hZ (own_w hw 160 rfl)) (by decide) (backOf (W := 0) (rm_ism l Z a0 hw [] b1 x19 x947 Fn x1041 ((ln + 2) + 2) x1166 x1167 x1168 (s2 + (1 : Int64)) s2 T1165.heap n0 Zs1183 E1181 F1174 F1175 E1180 F1176 F1177 F1178 F1179 G1182 ne52 ne987 ne986 ge_b1 hpq21 hCZ hSW hpq1171 hpq1172 (own_v4_q4 t59_3) (own_v4_s4 t59_3)) hZ (own_w hw 162 rfl) (own_w hw 3 rfl) (by decide) (by decide)) q1184a q1184c (g := (mkF m 263 #[.val (.int p0), .val (.long qa), .second, .val (.long qb), .second, .val (.long qc), .second, .val (.long qd), .second, .val (.int lev), .val (.int (2 : Int32)), .val (.long g0), .second, .val (.long s1), .second, .val (.long g2), .second, .val (.long s2), .second, .val (.ref b1), .val (.int x1112), .val (.int x1131), .val (.int x1150), .val (.int x1169), .unset] [(.long (s2 + (1 : Int64))), (.ref b1)])) rfl (by rw [hml]; rfl) (Steps.refl _) (argsL := [(.long (s2 + (1 : Int64)))]) (rest := []) (lenOf pd_11 rfl) rfl (by show 2 * 0 + _ ≤ _; exact Nat.le_of_eq rfl) (hb hby at_263) (fun _ _ => ⟨rfl, rfl, (by decide : 7 + 0 ≤ _), (by decide : 97 + 0 ≤ _)⟩)
        dsimp only [Pt.U, Pt.locs, Pt.cells, Pt.slots] at X1184 l1184 y1184 z1184 st1184 hQ1184
        subst l1184 y1184 z1184
        obtain ⟨x1185, x1186, x1187, x1188, rfl, N1184q, hq1189, hpq1190, hpq1191, hpq1192, F1193, F1194, F1195, F1196, F1197, F1198⟩ := hQ1184
        have N1184 := Fr.app N1165 N1184q
        have E1199 := E1180.keep hq1189
        have E1200 := E1181.keep hq1189
        have G1201 := G1182.keep hq1189 (ninS (Ne.symm ne987) (ninS (Ne.symm ne986) nin0))
        have K1184 : Keep h0 T1184.heap [] := K1165.trans hq1189 (allS (Or.inr sz_b1) (allS (Or.inr sz53) all0))
        have Zs1202 : n0 ≤ T1184.heap.size := (Nat.le_trans Zs1183 hq1189.1)
        have pre1203 := fun (t : State) (k : Steps p.tables e below (T1184.setTop (mkF m 319 #[.val (.int p0), .val (.long qa), .second, .val (.long qb), .second, .val (.long qc), .second, .val (.long qd), .second, .val (.int lev), .val (.int (2 : Int32)), .val (.long g0), .second, .val (.long s1), .second, .val (.long g2), .second, .val (.long s2), .second, .val (.ref b1), .val (.int x1112), .val (.int x1131), .val (.int x1150), .val (.int x1169), .val (.int x1188)] [(.int (1 : Int32))])) t) => pre1090 t (by
          refine XS.aload X1065.here hx rfl (hb hby at_216) rfl rfl ?_
          refine st1091.trans ?_
          refine XS.aload X1091.here hx rfl (hb hby at_221) rfl rfl ?_
          refine XS.lload X1091.here hx rfl (hb hby at_223) rfl ?_
          refine st1108.trans ?_
          refine XS.istore X1108.here hx rfl (hb hby at_228) rfl (l' := #[.val (.int p0), .val (.long qa), .second, .val (.long qb), .second, .val (.long qc), .second, .val (.long qd), .second, .val (.int lev), .val (.int (2 : Int32)), .val (.long g0), .second, .val (.long s1), .second, .val (.long g2), .second, .val (.long s2), .second, .val (.ref b1), .val (.int x1112), .unset, .unset, .unset, .unset]) rfl ?_
          refine XS.aload X1108.here hx rfl (hb hby at_230) rfl rfl ?_
          refine XS.lload X1108.here hx rfl (hb hby at_232) rfl ?_
          refine st1127.trans ?_
          refine XS.istore X1127.here hx rfl (hb hby at_237) rfl (l' := #[.val (.int p0), .val (.long qa), .second, .val (.long qb), .second, .val (.long qc), .second, .val (.long qd), .second, .val (.int lev), .val (.int (2 : Int32)), .val (.long g0), .second, .val (.long s1), .second, .val (.long g2), .second, .val (.long s2), .second, .val (.ref b1), .val (.int x1112), .val (.int x1131), .unset, .unset, .unset]) rfl ?_
          refine XS.aload X1127.here hx rfl (hb hby at_239) rfl rfl ?_
          refine XS.lload X1127.here hx rfl (hb hby at_241) rfl ?_
          refine st1146.trans ?_
          refine XS.istore X1146.here hx rfl (hb hby at_246) rfl (l' := #[.val (.int p0), .val (.long qa), .second, .val (.long qb), .second, .val (.long qc), .second, .val (.long qd), .second, .val (.int lev), .val (.int (2 : Int32)), .val (.long g0), .second, .val (.long s1), .second, .val (.long g2), .second, .val (.long s2), .second, .val (.ref b1), .val (.int x1112), .val (.int x1131), .val (.int x1150), .unset, .unset]) rfl ?_
          refine XS.aload X1146.here hx rfl (hb hby at_248) rfl rfl ?_
          refine XS.lload X1146.here hx rfl (hb hby at_250) rfl ?_
          refine st1165.trans ?_
          refine XS.istore X1165.here hx rfl (hb hby at_255) rfl (l' := #[.val (.int p0), .val (.long qa), .second, .val (.long qb), .second, .val (.long qc), .second, .val (.long qd), .second, .val (.int lev), .val (.int (2 : Int32)), .val (.long g0), .second, .val (.long s1), .second, .val (.long g2), .second, .val (.long s2), .second, .val (.ref b1), .val (.int x1112), .val (.int x1131), .val (.int x1150), .val (.int x1169), .unset]) rfl ?_
          refine XS.aload X1165.here hx rfl (hb hby at_257) rfl rfl ?_
          refine XS.lload X1165.here hx rfl (hb hby at_259) rfl ?_
          refine XS.lconst X1165.here hx rfl (hb hby at_261) ?_
          refine XS.ladd X1165.here hx rfl (hb hby at_262) rfl ?_
          refine st1184.trans ?_
          refine XS.istore X1184.here hx rfl (hb hby at_266) rfl (l' := #[.val (.int p0), .val (.long qa), .second, .val (.long qb), .second, .val (.long qc), .second, .val (.long qd), .second, .val (.int lev), .val (.int (2 : Int32)), .val (.long g0), .second, .val (.long s1), .second, .val (.long g2), .second, .val (.long s2), .second, .val (.ref b1), .val (.int x1112), .val (.int x1131), .val (.int x1150), .val (.int x1169), .val (.int x1188)]) rfl ?_
          refine XS.iload X1184.here hx rfl (hb hby at_268) rfl ?_
          refine XS.iload X1184.here hx rfl (hb hby at_270) rfl ?_
          refine XS.iconst X1184.here hx rfl (hb hby at_272) ?_
          refine XS.icmpYes X1184.here hx rfl (pc0 := 273) (pc' := 280) rfl (hb hby at_273) rfl (tlt hc1089).1 (by decide) (by decide) ?_
          refine XS.iconst X1184.here hx rfl (hb hby at_280) ?_
          refine XS.icmpNo X1184.here hx rfl (hb hby at_281) rfl (teq (own_no hpq1116 (own_W_n0 hW t59_3))).2 ?_
          refine XS.iload X1184.here hx rfl (hb hby at_284) rfl ?_
          refine XS.iload X1184.here hx rfl (hb hby at_286) rfl ?_
          refine XS.ifNo X1184.here hx rfl (hb hby at_288) rfl ((if0 _ _).trans (feq (by decide : ¬ ((2 : Int32) = (0 : Int32)))).1) ?_
          refine XS.iconst X1184.here hx rfl (hb hby at_291) ?_
          refine XS.goto X1184.here hx rfl (pc0 := 292) (pc' := 296) rfl (hb hby at_292) (by decide) (by decide) ?_
          refine XS.icmpNo X1184.here hx rfl (hb hby at_296) rfl (teq (own_yes hpq1135 (own_W_y1 hW t59_3))).2 ?_
          refine XS.iload X1184.here hx rfl (hb hby at_299) rfl ?_
          refine XS.ifNo X1184.here hx rfl (hb hby at_301) rfl ((if0 _ _).trans (feq (own_ne0 (own_yes hpq1154 (own_W_y2 hW t59_3)))).1) ?_
          refine XS.iload X1184.here hx rfl (hb hby at_304) rfl ?_
          refine XS.ifNo X1184.here hx rfl (hb hby at_306) rfl ((if0 _ _).trans (feq (own_ne0 (own_yes hpq1173 (own_W_y3 hW t59_3)))).1) ?_
          refine XS.iload X1184.here hx rfl (hb hby at_309) rfl ?_
          refine XS.ifNo X1184.here hx rfl (hb hby at_311) rfl ((if0 _ _).trans (teq (own_no hpq1192 (own_W_n4 hW t59_3))).2) ?_
          refine XS.iconst X1184.here hx rfl (hb hby at_314) ?_
          refine XS.goto X1184.here hx rfl (pc0 := 315) (pc' := 319) rfl (hb hby at_315) (by decide) (by decide) ?_
          exact k)
        obtain ⟨fs, hr, hrun, hended, hW, hsame⟩ := X1184.leave (v := some (.int (1 : Int32))) (hlocks := BodyLoose.notSynchronized Bd) (fun h => by rw [Bd.returns] at h; cases h)
        refine ⟨_, _, pre1203 _ ?_, hrun, hended, _, _, rfl, ?_, ⟨_, rfl⟩, hW, hsame.mono (by decide) (by decide)⟩
        · exact retN X1184 hx (t := .boolean) Bd.returns (by simp) (hb hby at_319) hr
        · show Q_law Z p0 qa qb qc qd ab al an kb kl ki h0 n0 _ T1184.heap _
          exact ⟨rfl, N1184, K1184⟩
      · have pre1204 := fun (t : State) (k : Steps p.tables e below (T1065.setTop (mkF m 204 #[.val (.int p0), .val (.long qa), .second, .val (.long qb), .second, .val (.long qc), .second, .val (.long qd), .second, .val (.int lev), .val (.int (2 : Int32)), .val (.long g0), .second, .val (.long s1), .second, .val (.long g2), .second, .val (.long s2), .second, .val (.ref b1), .unset, .unset, .unset, .unset, .unset] [(.int (own_irem (((p0.toUInt32 >>> ((3 : Int32) &&& 31).toUInt32).toInt32) &&& (7 : Int32)) lev))])) t) => pre1088 t (by
          refine XS.icmpNo X1065.here hx rfl (hb hby at_192) rfl (flt hc1089).1 ?_
          refine XS.iloadN X1065.here hx rfl (hb hby at_195) rfl ?_
          refine XS.iconst X1065.here hx rfl (hb hby at_196) ?_
          refine XS.iushr X1065.here hx rfl (hb hby at_197) rfl ?_
          refine XS.bipush X1065.here hx rfl (hb hby at_198) ?_
          refine XS.iand X1065.here hx rfl (hb hby at_200) rfl ?_
          refine XS.iload X1065.here hx rfl (hb hby at_201) rfl ?_
          refine XS.irem X1065.here hx rfl (hb hby at_203) rfl (own_nz1 hc1089) ?_
          exact k)
        obtain ⟨ou1205, h_ou1205⟩ : ∃ z : Int32, z = (own_irem (((p0.toUInt32 >>> ((3 : Int32) &&& 31).toUInt32).toInt32) &&& (7 : Int32)) lev) := ⟨_, rfl⟩
        have pre1206 := fun (t : State) (k : Steps p.tables e below (T1065.setTop (mkF m 204 #[.val (.int p0), .val (.long qa), .second, .val (.long qb), .second, .val (.long qc), .second, .val (.long qd), .second, .val (.int lev), .val (.int (2 : Int32)), .val (.long g0), .second, .val (.long s1), .second, .val (.long g2), .second, .val (.long s2), .second, .val (.ref b1), .unset, .unset, .unset, .unset, .unset] [(.int ou1205)])) t) => pre1204 t (by rw [← h_ou1205]; exact k)
        obtain ⟨on, hon, hlt⟩ := own_outer t59_0 hc1089 h_ou1205
        obtain ⟨cq1207, kq1207, q1207a, q1207b, q1207c⟩ := isOf hZ rfl E1067
        obtain ⟨_, _, ⟨T1207, L1207, k1207, n1207⟩, -, X1207, ⟨Lc1207, hQ1207, l1207, y1207, z1207⟩, st1207⟩ := X1065.virtualBack hx (y := (⟨"com/example/fieldglass/fieldglass/io/Marks", "endGroup", "(IJZ)V"⟩ : MethodName)) (z := (⟨"com/example/fieldglass/fieldglass/io/Marks", "endGroup", "(IJZ)V"⟩ : MethodName)) hown (mvT hZ (own_w hw 130 rfl)) (mvT hZ (own_w hw 131 rfl)) (notFace_of_selects (args := #[]) (mvT hZ (own_w hw 133 rfl))) (mvT hZ (own_w hw 133 rfl)) (mvT hZ (own_w hw 132 rfl)) (by decide) (backOf (W := 0) (rm_egN l Z a0 hw [] b1 x19 x55 x56 x57 x58 (own_up (own_up (fun _ => (0 : Int32)) ln (1 : Int32)) ln (0 : Int32)) (own_up (own_up (fun _ => (0 : Int64)) (ln + 1) s1) ln s2) (own_up (own_up (own_up (fun _ => (0 : Int32)) (ln + 1) (1 : Int32)) (ln + 1) (0 : Int32)) ln (1 : Int32)) (own_up x948 ln (own_sz x950)) x947 (own_up (own_up x1040 ((ln + 2) + 1) s2) (ln + 2) g2) x1041 lev lev ou1205 on g0 on T1065.heap n0 Zs1087 E1067 F1068 F1069 F1070 F1071 F1072 F1073 F1074 F1075 F1076 G1077 G1078 G1079 G1080 E1082 F1083 F1084 F1085 F1086 G1081 ne52 ne108 ne114 ne120 ne126 ne987 ne109 ne115 ne121 ne127 ne986 hpq68 hpq69 hpq70 ne988 hpq71 hpq72 ne989 hpq73 ne990 ne991 hpq953 hon (own_ou_lt t59_0 hon hlt) (own_po2 t59_1 hlt hpq955) ge_b1) hZ (own_w hw 134 rfl) (own_w hw 3 rfl) (by decide) (by decide)) q1207a q1207c (g := (mkF m 213 #[.val (.int p0), .val (.long qa), .second, .val (.long qb), .second, .val (.long qc), .second, .val (.long qd), .second, .val (.int lev), .val (.int (2 : Int32)), .val (.long g0), .second, .val (.long s1), .second, .val (.long g2), .second, .val (.long s2), .second, .val (.ref b1), .val (.int ou1205), .unset, .unset, .unset, .unset] [(.int (0 : Int32)), (.long g0), (.int ou1205), (.ref b1)])) rfl (by rw [hml]; rfl) (Steps.refl _) (argsL := [(.int ou1205), (.long g0), (.int (0 : Int32))]) (rest := []) (lenOf pd_14 rfl) rfl (by show 2 * 0 + _ ≤ _; exact Nat.le_of_eq rfl) (hb hby at_213) (fun _ _ => ⟨rfl, rfl, (by decide : 7 + 0 ≤ _), (by decide : 97 + 0 ≤ _)⟩)
        dsimp only [Pt.U, Pt.locs, Pt.cells, Pt.slots] at X1207 l1207 y1207 z1207 st1207 hQ1207
        subst l1207 y1207 z1207
        obtain ⟨rfl, N1207q, hq1208, E1209, F1210, F1211, F1212, F1213, F1214, F1215, F1216, F1217, F1218, G1219, G1220, G1221, G1222, G1223⟩ := hQ1207
        have N1207 := Fr.app N1065 N1207q
        have E1224 := E1082.keep hq1208
        have F1225 := F1083.keep hq1208 (ninS (Ne.symm ne52) (ninS ne986 nin0))
        have F1226 := F1084.keep hq1208 (ninS (Ne.symm ne52) (ninS ne986 nin0))
        have F1227 := F1085.keep hq1208 (ninS (Ne.symm ne52) (ninS ne986 nin0))
        have F1228 := F1086.keep hq1208 (ninS (Ne.symm ne52) (ninS ne986 nin0))
        have K1207 : Keep h0 T1207.heap [] := K1065.trans hq1208 (allS (Or.inr sz_b1) (allS (Or.inr sz992) all0))
        have Zs1229 : n0 ≤ T1207.heap.size := (Nat.le_trans Zs1087 hq1208.1)
        have pre1230 := fun (t : State) (k : Steps p.tables e below (T1207.setTop (mkF m 216 #[.val (.int p0), .val (.long qa), .second, .val (.long qb), .second, .val (.long qc), .second, .val (.long qd), .second, .val (.int lev), .val (.int (2 : Int32)), .val (.long g0), .second, .val (.long s1), .second, .val (.long g2), .second, .val (.long s2), .second, .val (.ref b1), .val (.int ou1205), .unset, .unset, .unset, .unset] [])) t) => pre1206 t (by
          refine XS.istore X1065.here hx rfl (hb hby at_204) rfl (l' := #[.val (.int p0), .val (.long qa), .second, .val (.long qb), .second, .val (.long qc), .second, .val (.long qd), .second, .val (.int lev), .val (.int (2 : Int32)), .val (.long g0), .second, .val (.long s1), .second, .val (.long g2), .second, .val (.long s2), .second, .val (.ref b1), .val (.int ou1205), .unset, .unset, .unset, .unset]) rfl ?_
          refine XS.aload X1065.here hx rfl (hb hby at_206) rfl rfl ?_
          refine XS.iload X1065.here hx rfl (hb hby at_208) rfl ?_
          refine XS.lload X1065.here hx rfl (hb hby at_210) rfl ?_
          refine XS.iconst X1065.here hx rfl (hb hby at_212) ?_
          refine st1207.trans ?_
          exact k)
        obtain ⟨Fn, hFn⟩ : ∃ z : Nat → Int64, z = (own_up (own_up (own_up x1040 ((ln + 2) + 1) s2) (ln + 2) g2) on g0) := ⟨_, rfl⟩
        have VF : own_Fa Value.long .long Z T1207.heap x947 16 Fn := by rw [hFn]; exact G1223
        have hW : own_W Fn ((ln + 2) + 2) true on true (ln + 1) (ln + 2) g0 s1 g2 s2 := by rw [hFn]; exact (own_W_add (own_W1 (own_base2 hpq955) (by omega) hpq1043) (by omega) (fun q => by first | omega | cases q))
        have hSW := own_W_S hW t59_3
        have hCZ : own_cz x1041 ((ln + 2) + 2) := (own_cz1 hpq1043 (by have := t59_1; omega))
        obtain ⟨cq1231, kq1231, q1231a, q1231b, q1231c⟩ := isOf hZ rfl E1209
        obtain ⟨_, _, ⟨T1231, L1231, k1231, n1231⟩, -, X1231, ⟨Lc1231, hQ1231, l1231, y1231, z1231⟩, st1231⟩ := X1207.virtualBack hx (y := (⟨"com/example/fieldglass/fieldglass/io/Marks", "readBack", "()V"⟩ : MethodName)) (z := (⟨"com/example/fieldglass/fieldglass/io/Marks", "readBack", "()V"⟩ : MethodName)) hown (mvT hZ (own_w hw 135 rfl)) (mvT hZ (own_w hw 136 rfl)) (notFace_of_selects (args := #[]) (mvT hZ (own_w hw 138 rfl))) (mvT hZ (own_w hw 138 rfl)) (mvT hZ (own_w hw 137 rfl)) (by decide) (backOf (W := 0) (rm_rbk l Z a0 hw [] b1 x19 x947 Fn x1041 ((ln + 2) + 2) (9223372036854775807 : Int64) T1207.heap n0 Zs1229 E1209 F1217 F1218 E1224 F1225 F1226 F1227 F1228 VF F1216 ne52 ne987 ne986 ge_b1 hpq21 hCZ hSW) hZ (own_w hw 139 rfl) (own_w hw 3 rfl) (by decide) (by decide)) q1231a q1231c (g := (mkF m 218 #[.val (.int p0), .val (.long qa), .second, .val (.long qb), .second, .val (.long qc), .second, .val (.long qd), .second, .val (.int lev), .val (.int (2 : Int32)), .val (.long g0), .second, .val (.long s1), .second, .val (.long g2), .second, .val (.long s2), .second, .val (.ref b1), .val (.int ou1205), .unset, .unset, .unset, .unset] [(.ref b1)])) rfl (by rw [hml]; rfl) (Steps.refl _) (argsL := []) (rest := []) (lenOf pd_1 rfl) rfl (by show 2 * 0 + _ ≤ _; exact Nat.le_of_eq rfl) (hb hby at_218) (fun _ _ => ⟨rfl, rfl, (by decide : 7 + 0 ≤ _), (by decide : 97 + 0 ≤ _)⟩)
        dsimp only [Pt.U, Pt.locs, Pt.cells, Pt.slots] at X1231 l1231 y1231 z1231 st1231 hQ1231
        subst l1231 y1231 z1231
        obtain ⟨x1232, x1233, x1234, rfl, N1231q, hq1235, hpq1236, hpq1237, F1238, F1239, F1240, F1241, F1242, F1243⟩ := hQ1231
        have N1231 := Fr.app N1207 N1231q
        have E1244 := E1224.keep hq1235
        have E1245 := E1209.keep hq1235
        have G1246 := VF.keep hq1235 (ninS (Ne.symm ne987) (ninS (Ne.symm ne986) nin0))
        have K1231 : Keep h0 T1231.heap [] := K1207.trans hq1235 (allS (Or.inr sz_b1) (allS (Or.inr sz53) all0))
        have Zs1247 : n0 ≤ T1231.heap.size := (Nat.le_trans Zs1229 hq1235.1)
        obtain ⟨cq1248, kq1248, q1248a, q1248b, q1248c⟩ := isOf hZ rfl E1245
        obtain ⟨_, _, ⟨T1248, L1248, k1248, n1248⟩, -, X1248, ⟨Lc1248, hQ1248, l1248, y1248, z1248⟩, st1248⟩ := X1231.virtualBack hx (y := (⟨"com/example/fieldglass/fieldglass/io/Marks", "isMarked", "(J)Z"⟩ : MethodName)) (z := (⟨"com/example/fieldglass/fieldglass/io/Marks", "isMarked", "(J)Z"⟩ : MethodName)) hown (mvT hZ (own_w hw 158 rfl)) (mvT hZ (own_w hw 159 rfl)) (notFace_of_selects (args := #[]) (mvT hZ (own_w hw 161 rfl))) (mvT hZ (own_w hw 161 rfl)) (mvT hZ (own_w hw 160 rfl)) (by decide) (backOf (W := 0) (rm_ism l Z a0 hw [] b1 x19 x947 Fn x1041 ((ln + 2) + 2) x1232 x1233 x1234 g0 (0 : Int64) T1231.heap n0 Zs1247 E1245 F1238 F1239 E1244 F1240 F1241 F1242 F1243 G1246 ne52 ne987 ne986 ge_b1 hpq21 hCZ hSW hpq1236 hpq1237 (own_v4_q0 t59_3) (own_v4_s0 t59_3)) hZ (own_w hw 162 rfl) (own_w hw 3 rfl) (by decide) (by decide)) q1248a q1248c (g := (mkF m 225 #[.val (.int p0), .val (.long qa), .second, .val (.long qb), .second, .val (.long qc), .second, .val (.long qd), .second, .val (.int lev), .val (.int (2 : Int32)), .val (.long g0), .second, .val (.long s1), .second, .val (.long g2), .second, .val (.long s2), .second, .val (.ref b1), .val (.int ou1205), .unset, .unset, .unset, .unset] [(.long g0), (.ref b1)])) rfl (by rw [hml]; rfl) (Steps.refl _) (argsL := [(.long g0)]) (rest := []) (lenOf pd_11 rfl) rfl (by show 2 * 0 + _ ≤ _; exact Nat.le_of_eq rfl) (hb hby at_225) (fun _ _ => ⟨rfl, rfl, (by decide : 7 + 0 ≤ _), (by decide : 97 + 0 ≤ _)⟩)
        dsimp only [Pt.U, Pt.locs, Pt.cells, Pt.slots] at X1248 l1248 y1248 z1248 st1248 hQ1248
        subst l1248 y1248 z1248
        obtain ⟨x1249, x1250, x1251, x1252, rfl, N1248q, hq1253, hpq1254, hpq1255, hpq1256, F1257, F1258, F1259, F1260, F1261, F1262⟩ := hQ1248
        have N1248 := Fr.app N1231 N1248q
        have E1263 := E1244.keep hq1253
        have E1264 := E1245.keep hq1253
        have G1265 := G1246.keep hq1253 (ninS (Ne.symm ne987) (ninS (Ne.symm ne986) nin0))
        have K1248 : Keep h0 T1248.heap [] := K1231.trans hq1253 (allS (Or.inr sz_b1) (allS (Or.inr sz53) all0))
        have Zs1266 : n0 ≤ T1248.heap.size := (Nat.le_trans Zs1247 hq1253.1)
        obtain ⟨cq1267, kq1267, q1267a, q1267b, q1267c⟩ := isOf hZ rfl E1264
        obtain ⟨_, _, ⟨T1267, L1267, k1267, n1267⟩, -, X1267, ⟨Lc1267, hQ1267, l1267, y1267, z1267⟩, st1267⟩ := X1248.virtualBack hx (y := (⟨"com/example/fieldglass/fieldglass/io/Marks", "isMarked", "(J)Z"⟩ : MethodName)) (z := (⟨"com/example/fieldglass/fieldglass/io/Marks", "isMarked", "(J)Z"⟩ : MethodName)) hown (mvT hZ (own_w hw 158 rfl)) (mvT hZ (own_w hw 159 rfl)) (notFace_of_selects (args := #[]) (mvT hZ (own_w hw 161 rfl))) (mvT hZ (own_w hw 161 rfl)) (mvT hZ (own_w hw 160 rfl)) (by decide) (backOf (W := 0) (rm_ism l Z a0 hw [] b1 x19 x947 Fn x1041 ((ln + 2) + 2) x1249 x1250 x1251 s1 g0 T1248.heap n0 Zs1266 E1264 F1257 F1258 E1263 F1259 F1260 F1261 F1262 G1265 ne52 ne987 ne986 ge_b1 hpq21 hCZ hSW hpq1254 hpq1255 (own_v4_q1 t59_3) (own_v4_s1 t59_3)) hZ (own_w hw 162 rfl) (own_w hw 3 rfl) (by decide) (by decide)) q1267a q1267c (g := (mkF m 234 #[.val (.int p0), .val (.long qa), .second, .val (.long qb), .second, .val (.long qc), .second, .val (.long qd), .second, .val (.int lev), .val (.int (2 : Int32)), .val (.long g0), .second, .val (.long s1), .second, .val (.long g2), .second, .val (.long s2), .second, .val (.ref b1), .val (.int x1252), .unset, .unset, .unset, .unset] [(.long s1), (.ref b1)])) rfl (by rw [hml]; rfl) (Steps.refl _) (argsL := [(.long s1)]) (rest := []) (lenOf pd_11 rfl) rfl (by show 2 * 0 + _ ≤ _; exact Nat.le_of_eq rfl) (hb hby at_234) (fun _ _ => ⟨rfl, rfl, (by decide : 7 + 0 ≤ _), (by decide : 97 + 0 ≤ _)⟩)
        dsimp only [Pt.U, Pt.locs, Pt.cells, Pt.slots] at X1267 l1267 y1267 z1267 st1267 hQ1267
        subst l1267 y1267 z1267
        obtain ⟨x1268, x1269, x1270, x1271, rfl, N1267q, hq1272, hpq1273, hpq1274, hpq1275, F1276, F1277, F1278, F1279, F1280, F1281⟩ := hQ1267
        have N1267 := Fr.app N1248 N1267q
        have E1282 := E1263.keep hq1272
        have E1283 := E1264.keep hq1272
        have G1284 := G1265.keep hq1272 (ninS (Ne.symm ne987) (ninS (Ne.symm ne986) nin0))
        have K1267 : Keep h0 T1267.heap [] := K1248.trans hq1272 (allS (Or.inr sz_b1) (allS (Or.inr sz53) all0))
        have Zs1285 : n0 ≤ T1267.heap.size := (Nat.le_trans Zs1266 hq1272.1)
        obtain ⟨cq1286, kq1286, q1286a, q1286b, q1286c⟩ := isOf hZ rfl E1283
        obtain ⟨_, _, ⟨T1286, L1286, k1286, n1286⟩, -, X1286, ⟨Lc1286, hQ1286, l1286, y1286, z1286⟩, st1286⟩ := X1267.virtualBack hx (y := (⟨"com/example/fieldglass/fieldglass/io/Marks", "isMarked", "(J)Z"⟩ : MethodName)) (z := (⟨"com/example/fieldglass/fieldglass/io/Marks", "isMarked", "(J)Z"⟩ : MethodName)) hown (mvT hZ (own_w hw 158 rfl)) (mvT hZ (own_w hw 159 rfl)) (notFace_of_selects (args := #[]) (mvT hZ (own_w hw 161 rfl))) (mvT hZ (own_w hw 161 rfl)) (mvT hZ (own_w hw 160 rfl)) (by decide) (backOf (W := 0) (rm_ism l Z a0 hw [] b1 x19 x947 Fn x1041 ((ln + 2) + 2) x1268 x1269 x1270 g2 s1 T1267.heap n0 Zs1285 E1283 F1276 F1277 E1282 F1278 F1279 F1280 F1281 G1284 ne52 ne987 ne986 ge_b1 hpq21 hCZ hSW hpq1273 hpq1274 (own_v4_q2 t59_3) (own_v4_s2 t59_3)) hZ (own_w hw 162 rfl) (own_w hw 3 rfl) (by decide) (by decide)) q1286a q1286c (g := (mkF m 243 #[.val (.int p0), .val (.long qa), .second, .val (.long qb), .second, .val (.long qc), .second, .val (.long qd), .second, .val (.int lev), .val (.int (2 : Int32)), .val (.long g0), .second, .val (.long s1), .second, .val (.long g2), .second, .val (.long s2), .second, .val (.ref b1), .val (.int x1252), .val (.int x1271), .unset, .unset, .unset] [(.long g2), (.ref b1)])) rfl (by rw [hml]; rfl) (Steps.refl _) (argsL := [(.long g2)]) (rest := []) (lenOf pd_11 rfl) rfl (by show 2 * 0 + _ ≤ _; exact Nat.le_of_eq rfl) (hb hby at_243) (fun _ _ => ⟨rfl, rfl, (by decide : 7 + 0 ≤ _), (by decide : 97 + 0 ≤ _)⟩)
        dsimp only [Pt.U, Pt.locs, Pt.cells, Pt.slots] at X1286 l1286 y1286 z1286 st1286 hQ1286
        subst l1286 y1286 z1286
        obtain ⟨x1287, x1288, x1289, x1290, rfl, N1286q, hq1291, hpq1292, hpq1293, hpq1294, F1295, F1296, F1297, F1298, F1299, F1300⟩ := hQ1286
        have N1286 := Fr.app N1267 N1286q
        have E1301 := E1282.keep hq1291
        have E1302 := E1283.keep hq1291
        have G1303 := G1284.keep hq1291 (ninS (Ne.symm ne987) (ninS (Ne.symm ne986) nin0))
        have K1286 : Keep h0 T1286.heap [] := K1267.trans hq1291 (allS (Or.inr sz_b1) (allS (Or.inr sz53) all0))
        have Zs1304 : n0 ≤ T1286.heap.size := (Nat.le_trans Zs1285 hq1291.1)
        obtain ⟨cq1305, kq1305, q1305a, q1305b, q1305c⟩ := isOf hZ rfl E1302
        obtain ⟨_, _, ⟨T1305, L1305, k1305, n1305⟩, -, X1305, ⟨Lc1305, hQ1305, l1305, y1305, z1305⟩, st1305⟩ := X1286.virtualBack hx (y := (⟨"com/example/fieldglass/fieldglass/io/Marks", "isMarked", "(J)Z"⟩ : MethodName)) (z := (⟨"com/example/fieldglass/fieldglass/io/Marks", "isMarked", "(J)Z"⟩ : MethodName)) hown (mvT hZ (own_w hw 158 rfl)) (mvT hZ (own_w hw 159 rfl)) (notFace_of_selects (args := #[]) (mvT hZ (own_w hw 161 rfl))) (mvT hZ (own_w hw 161 rfl)) (mvT hZ (own_w hw 160 rfl)) (by decide) (backOf (W := 0) (rm_ism l Z a0 hw [] b1 x19 x947 Fn x1041 ((ln + 2) + 2) x1287 x1288 x1289 s2 g2 T1286.heap n0 Zs1304 E1302 F1295 F1296 E1301 F1297 F1298 F1299 F1300 G1303 ne52 ne987 ne986 ge_b1 hpq21 hCZ hSW hpq1292 hpq1293 (own_v4_q3 t59_3) (own_v4_s3 t59_3)) hZ (own_w hw 162 rfl) (own_w hw 3 rfl) (by decide) (by decide)) q1305a q1305c (g := (mkF m 252 #[.val (.int p0), .val (.long qa), .second, .val (.long qb), .second, .val (.long qc), .second, .val (.long qd), .second, .val (.int lev), .val (.int (2 : Int32)), .val (.long g0), .second, .val (.long s1), .second, .val (.long g2), .second, .val (.long s2), .second, .val (.ref b1), .val (.int x1252), .val (.int x1271), .val (.int x1290), .unset, .unset] [(.long s2), (.ref b1)])) rfl (by rw [hml]; rfl) (Steps.refl _) (argsL := [(.long s2)]) (rest := []) (lenOf pd_11 rfl) rfl (by show 2 * 0 + _ ≤ _; exact Nat.le_of_eq rfl) (hb hby at_252) (fun _ _ => ⟨rfl, rfl, (by decide : 7 + 0 ≤ _), (by decide : 97 + 0 ≤ _)⟩)
        dsimp only [Pt.U, Pt.locs, Pt.cells, Pt.slots] at X1305 l1305 y1305 z1305 st1305 hQ1305
        subst l1305 y1305 z1305
        obtain ⟨x1306, x1307, x1308, x1309, rfl, N1305q, hq1310, hpq1311, hpq1312, hpq1313, F1314, F1315, F1316, F1317, F1318, F1319⟩ := hQ1305
        have N1305 := Fr.app N1286 N1305q
        have E1320 := E1301.keep hq1310
        have E1321 := E1302.keep hq1310
        have G1322 := G1303.keep hq1310 (ninS (Ne.symm ne987) (ninS (Ne.symm ne986) nin0))
        have K1305 : Keep h0 T1305.heap [] := K1286.trans hq1310 (allS (Or.inr sz_b1) (allS (Or.inr sz53) all0))
        have Zs1323 : n0 ≤ T1305.heap.size := (Nat.le_trans Zs1304 hq1310.1)
        obtain ⟨cq1324, kq1324, q1324a, q1324b, q1324c⟩ := isOf hZ rfl E1321
        obtain ⟨_, _, ⟨T1324, L1324, k1324, n1324⟩, -, X1324, ⟨Lc1324, hQ1324, l1324, y1324, z1324⟩, st1324⟩ := X1305.virtualBack hx (y := (⟨"com/example/fieldglass/fieldglass/io/Marks", "isMarked", "(J)Z"⟩ : MethodName)) (z := (⟨"com/example/fieldglass/fieldglass/io/Marks", "isMarked", "(J)Z"⟩ : MethodName)) hown (mvT hZ (own_w hw 158 rfl)) (mvT hZ (own_w hw 159 rfl)) (notFace_of_selects (args := #[]) (mvT hZ (own_w hw 161 rfl))) (mvT hZ (own_w hw 161 rfl)) (mvT hZ (own_w hw 160 rfl)) (by decide) (backOf (W := 0) (rm_ism l Z a0 hw [] b1 x19 x947 Fn x1041 ((ln + 2) + 2) x1306 x1307 x1308 (s2 + (1 : Int64)) s2 T1305.heap n0 Zs1323 E1321 F1314 F1315 E1320 F1316 F1317 F1318 F1319 G1322 ne52 ne987 ne986 ge_b1 hpq21 hCZ hSW hpq1311 hpq1312 (own_v4_q4 t59_3) (own_v4_s4 t59_3)) hZ (own_w hw 162 rfl) (own_w hw 3 rfl) (by decide) (by decide)) q1324a q1324c (g := (mkF m 263 #[.val (.int p0), .val (.long qa), .second, .val (.long qb), .second, .val (.long qc), .second, .val (.long qd), .second, .val (.int lev), .val (.int (2 : Int32)), .val (.long g0), .second, .val (.long s1), .second, .val (.long g2), .second, .val (.long s2), .second, .val (.ref b1), .val (.int x1252), .val (.int x1271), .val (.int x1290), .val (.int x1309), .unset] [(.long (s2 + (1 : Int64))), (.ref b1)])) rfl (by rw [hml]; rfl) (Steps.refl _) (argsL := [(.long (s2 + (1 : Int64)))]) (rest := []) (lenOf pd_11 rfl) rfl (by show 2 * 0 + _ ≤ _; exact Nat.le_of_eq rfl) (hb hby at_263) (fun _ _ => ⟨rfl, rfl, (by decide : 7 + 0 ≤ _), (by decide : 97 + 0 ≤ _)⟩)
        dsimp only [Pt.U, Pt.locs, Pt.cells, Pt.slots] at X1324 l1324 y1324 z1324 st1324 hQ1324
        subst l1324 y1324 z1324
        obtain ⟨x1325, x1326, x1327, x1328, rfl, N1324q, hq1329, hpq1330, hpq1331, hpq1332, F1333, F1334, F1335, F1336, F1337, F1338⟩ := hQ1324
        have N1324 := Fr.app N1305 N1324q
        have E1339 := E1320.keep hq1329
        have E1340 := E1321.keep hq1329
        have G1341 := G1322.keep hq1329 (ninS (Ne.symm ne987) (ninS (Ne.symm ne986) nin0))
        have K1324 : Keep h0 T1324.heap [] := K1305.trans hq1329 (allS (Or.inr sz_b1) (allS (Or.inr sz53) all0))
        have Zs1342 : n0 ≤ T1324.heap.size := (Nat.le_trans Zs1323 hq1329.1)
        have pre1343 := fun (t : State) (k : Steps p.tables e below (T1324.setTop (mkF m 319 #[.val (.int p0), .val (.long qa), .second, .val (.long qb), .second, .val (.long qc), .second, .val (.long qd), .second, .val (.int lev), .val (.int (2 : Int32)), .val (.long g0), .second, .val (.long s1), .second, .val (.long g2), .second, .val (.long s2), .second, .val (.ref b1), .val (.int x1252), .val (.int x1271), .val (.int x1290), .val (.int x1309), .val (.int x1328)] [(.int (1 : Int32))])) t) => pre1230 t (by
          refine XS.aload X1207.here hx rfl (hb hby at_216) rfl rfl ?_
          refine st1231.trans ?_
          refine XS.aload X1231.here hx rfl (hb hby at_221) rfl rfl ?_
          refine XS.lload X1231.here hx rfl (hb hby at_223) rfl ?_
          refine st1248.trans ?_
          refine XS.istore X1248.here hx rfl (hb hby at_228) rfl (l' := #[.val (.int p0), .val (.long qa), .second, .val (.long qb), .second, .val (.long qc), .second, .val (.long qd), .second, .val (.int lev), .val (.int (2 : Int32)), .val (.long g0), .second, .val (.long s1), .second, .val (.long g2), .second, .val (.long s2), .second, .val (.ref b1), .val (.int x1252), .unset, .unset, .unset, .unset]) rfl ?_
          refine XS.aload X1248.here hx rfl (hb hby at_230) rfl rfl ?_
          refine XS.lload X1248.here hx rfl (hb hby at_232) rfl ?_
          refine st1267.trans ?_
          refine XS.istore X1267.here hx rfl (hb hby at_237) rfl (l' := #[.val (.int p0), .val (.long qa), .second, .val (.long qb), .second, .val (.long qc), .second, .val (.long qd), .second, .val (.int lev), .val (.int (2 : Int32)), .val (.long g0), .second, .val (.long s1), .second, .val (.long g2), .second, .val (.long s2), .second, .val (.ref b1), .val (.int x1252), .val (.int x1271), .unset, .unset, .unset]) rfl ?_
          refine XS.aload X1267.here hx rfl (hb hby at_239) rfl rfl ?_
          refine XS.lload X1267.here hx rfl (hb hby at_241) rfl ?_
          refine st1286.trans ?_
          refine XS.istore X1286.here hx rfl (hb hby at_246) rfl (l' := #[.val (.int p0), .val (.long qa), .second, .val (.long qb), .second, .val (.long qc), .second, .val (.long qd), .second, .val (.int lev), .val (.int (2 : Int32)), .val (.long g0), .second, .val (.long s1), .second, .val (.long g2), .second, .val (.long s2), .second, .val (.ref b1), .val (.int x1252), .val (.int x1271), .val (.int x1290), .unset, .unset]) rfl ?_
          refine XS.aload X1286.here hx rfl (hb hby at_248) rfl rfl ?_
          refine XS.lload X1286.here hx rfl (hb hby at_250) rfl ?_
          refine st1305.trans ?_
          refine XS.istore X1305.here hx rfl (hb hby at_255) rfl (l' := #[.val (.int p0), .val (.long qa), .second, .val (.long qb), .second, .val (.long qc), .second, .val (.long qd), .second, .val (.int lev), .val (.int (2 : Int32)), .val (.long g0), .second, .val (.long s1), .second, .val (.long g2), .second, .val (.long s2), .second, .val (.ref b1), .val (.int x1252), .val (.int x1271), .val (.int x1290), .val (.int x1309), .unset]) rfl ?_
          refine XS.aload X1305.here hx rfl (hb hby at_257) rfl rfl ?_
          refine XS.lload X1305.here hx rfl (hb hby at_259) rfl ?_
          refine XS.lconst X1305.here hx rfl (hb hby at_261) ?_
          refine XS.ladd X1305.here hx rfl (hb hby at_262) rfl ?_
          refine st1324.trans ?_
          refine XS.istore X1324.here hx rfl (hb hby at_266) rfl (l' := #[.val (.int p0), .val (.long qa), .second, .val (.long qb), .second, .val (.long qc), .second, .val (.long qd), .second, .val (.int lev), .val (.int (2 : Int32)), .val (.long g0), .second, .val (.long s1), .second, .val (.long g2), .second, .val (.long s2), .second, .val (.ref b1), .val (.int x1252), .val (.int x1271), .val (.int x1290), .val (.int x1309), .val (.int x1328)]) rfl ?_
          refine XS.iload X1324.here hx rfl (hb hby at_268) rfl ?_
          refine XS.iload X1324.here hx rfl (hb hby at_270) rfl ?_
          refine XS.iconst X1324.here hx rfl (hb hby at_272) ?_
          refine XS.icmpNo X1324.here hx rfl (hb hby at_273) rfl (flt hc1089).1 ?_
          refine XS.iconst X1324.here hx rfl (hb hby at_276) ?_
          refine XS.goto X1324.here hx rfl (pc0 := 277) (pc' := 281) rfl (hb hby at_277) (by decide) (by decide) ?_
          refine XS.icmpNo X1324.here hx rfl (hb hby at_281) rfl (teq (own_yes hpq1256 (own_W_y0 hW t59_3))).2 ?_
          refine XS.iload X1324.here hx rfl (hb hby at_284) rfl ?_
          refine XS.iload X1324.here hx rfl (hb hby at_286) rfl ?_
          refine XS.ifNo X1324.here hx rfl (hb hby at_288) rfl ((if0 _ _).trans (feq (by decide : ¬ ((2 : Int32) = (0 : Int32)))).1) ?_
          refine XS.iconst X1324.here hx rfl (hb hby at_291) ?_
          refine XS.goto X1324.here hx rfl (pc0 := 292) (pc' := 296) rfl (hb hby at_292) (by decide) (by decide) ?_
          refine XS.icmpNo X1324.here hx rfl (hb hby at_296) rfl (teq (own_yes hpq1275 (own_W_y1 hW t59_3))).2 ?_
          refine XS.iload X1324.here hx rfl (hb hby at_299) rfl ?_
          refine XS.ifNo X1324.here hx rfl (hb hby at_301) rfl ((if0 _ _).trans (feq (own_ne0 (own_yes hpq1294 (own_W_y2 hW t59_3)))).1) ?_
          refine XS.iload X1324.here hx rfl (hb hby at_304) rfl ?_
          refine XS.ifNo X1324.here hx rfl (hb hby at_306) rfl ((if0 _ _).trans (feq (own_ne0 (own_yes hpq1313 (own_W_y3 hW t59_3)))).1) ?_
          refine XS.iload X1324.here hx rfl (hb hby at_309) rfl ?_
          refine XS.ifNo X1324.here hx rfl (hb hby at_311) rfl ((if0 _ _).trans (teq (own_no hpq1332 (own_W_n4 hW t59_3))).2) ?_
          refine XS.iconst X1324.here hx rfl (hb hby at_314) ?_
          refine XS.goto X1324.here hx rfl (pc0 := 315) (pc' := 319) rfl (hb hby at_315) (by decide) (by decide) ?_
          exact k)
        obtain ⟨fs, hr, hrun, hended, hW, hsame⟩ := X1324.leave (v := some (.int (1 : Int32))) (hlocks := BodyLoose.notSynchronized Bd) (fun h => by rw [Bd.returns] at h; cases h)
        refine ⟨_, _, pre1343 _ ?_, hrun, hended, _, _, rfl, ?_, ⟨_, rfl⟩, hW, hsame.mono (by decide) (by decide)⟩
        · exact retN X1324 hx (t := .boolean) Bd.returns (by simp) (hb hby at_319) hr
        · show Q_law Z p0 qa qb qc qd ab al an kb kl ki h0 n0 _ T1324.heap _
          exact ⟨rfl, N1324, K1324⟩
    · obtain ⟨cq1344, kq1344, q1344a, q1344b, q1344c⟩ := isOf hZ rfl E98
      obtain ⟨_, _, ⟨T1344, L1344, k1344, n1344⟩, -, X1344, ⟨Lc1344, hQ1344, l1344, y1344, z1344⟩, st1344⟩ := X54.virtualBack hx (y := (⟨"com/example/fieldglass/fieldglass/io/Marks", "endGroup", "(IJZ)V"⟩ : MethodName)) (z := (⟨"com/example/fieldglass/fieldglass/io/Marks", "endGroup", "(IJZ)V"⟩ : MethodName)) hown (mvT hZ (own_w hw 130 rfl)) (mvT hZ (own_w hw 131 rfl)) (notFace_of_selects (args := #[]) (mvT hZ (own_w hw 133 rfl))) (mvT hZ (own_w hw 133 rfl)) (mvT hZ (own_w hw 132 rfl)) (by decide) (backOf (W := 0) (rm_egG l Z a0 hw [] b1 x19 x55 x56 x57 x58 (own_up (fun _ => (0 : Int32)) ln (1 : Int32)) (fun _ => (0 : Int64)) (fun _ => (0 : Int32)) (fun _ => (0 : Int64)) al kl (-1 : Int32) (own_cf3 ln) (lev + (1 : Int32)) (ln + 1) s1 ln T54.heap n0 Zs104 E98 F74 F75 F76 F77 F78 F79 F80 F81 F82 G83 G84 G85 G86 E99 F100 F101 F102 F103 A96 ne52 ne108 ne114 ne120 ne126 (Ne.symm ne_al_b1) ne109 ne115 ne121 ne127 (Ne.symm ne50) hpq68 hpq69 hpq70 (Ne.symm ne106) hpq71 hpq72 (Ne.symm ne112) hpq73 (Ne.symm ne118) (Ne.symm ne124) ge_b1 hpq21 hpq66 (own_up1 t59_0 t59_1) (own_cf_3 t59_1) (own_k0_3 ln) (own_p_3 t59_1)) hZ (own_w hw 134 rfl) (own_w hw 3 rfl) (by decide) (by decide)) q1344a q1344c (g := (mkF m 150 #[.val (.int p0), .val (.long qa), .second, .val (.long qb), .second, .val (.long qc), .second, .val (.long qd), .second, .val (.int lev), .val (.int (3 : Int32)), .val (.long g0), .second, .val (.long s1), .second, .val (.long g2), .second, .val (.long s2), .second, .val (.ref b1), .unset, .unset, .unset, .unset, .unset] [(.int (0 : Int32)), (.long s1), (.int (lev + (1 : Int32))), (.ref b1)])) rfl (by rw [hml]; rfl) (Steps.refl _) (argsL := [(.int (lev + (1 : Int32))), (.long s1), (.int (0 : Int32))]) (rest := []) (lenOf pd_14 rfl) rfl (by show 2 * 0 + _ ≤ _; exact Nat.le_of_eq rfl) (hb hby at_150) (fun _ _ => ⟨rfl, rfl, (by decide : 6 + 1 ≤ _), (by decide : 81 + 16 ≤ _)⟩)
      dsimp only [Pt.U, Pt.locs, Pt.cells, Pt.slots] at X1344 l1344 y1344 z1344 st1344 hQ1344
      subst l1344 y1344 z1344
      obtain ⟨x1345, x1346, x1347, x1348, x1349, rfl, N1344q, hq1350, hpq1351, hpq1352, hpq1353, E1354, F1355, F1356, F1357, F1358, F1359, F1360, F1361, F1362, F1363, G1364, G1365, G1366, G1367, E1368, F1369, F1370, F1371, F1372, G1373⟩ := hQ1344
      have N1344 := Fr.app N54 N1344q
      have lt1374 : al < T54.heap.size := A96.lt
      have lt1375 : b1 < T54.heap.size := E98.lt
      have lt1376 : x19 < T54.heap.size := E99.lt
      have lt1377 : x55 < T54.heap.size := G83.lt
      have lt1378 : x56 < T54.heap.size := G84.lt
      have lt1379 : x57 < T54.heap.size := G85.lt
      have lt1380 : x58 < T54.heap.size := G86.lt
      have A1381 := A96.keep hq1350 (ninS ne_al_b1 (ninS ne50 (ninS ne124 nin0)))
      have K1344 : Keep h0 T1344.heap [] := K54.trans hq1350 (allS (Or.inr sz_b1) (allS (Or.inr sz53) (allS (Or.inr sz128) all0)))
      have Zs1382 : n0 ≤ T1344.heap.size := (Nat.le_trans Zs104 hq1350.1)
      have ne1383 : al ≠ x1345 := Nat.ne_of_lt (Nat.lt_of_lt_of_le lt1374 hpq1352)
      have ne1384 : b1 ≠ x1345 := Nat.ne_of_lt (Nat.lt_of_lt_of_le lt1375 hpq1352)
      have ne1385 : x19 ≠ x1345 := Nat.ne_of_lt (Nat.lt_of_lt_of_le lt1376 hpq1352)
      have ne1386 : x55 ≠ x1345 := Nat.ne_of_lt (Nat.lt_of_lt_of_le lt1377 hpq1352)
      have ne1387 : x56 ≠ x1345 := Nat.ne_of_lt (Nat.lt_of_lt_of_le lt1378 hpq1352)
      have ne1388 : x57 ≠ x1345 := Nat.ne_of_lt (Nat.lt_of_lt_of_le lt1379 hpq1352)
      have ne1389 : x58 ≠ x1345 := Nat.ne_of_lt (Nat.lt_of_lt_of_le lt1380 hpq1352)
      have sz1390 : h0.size ≤ x1345 := Nat.le_trans K54.1 hpq1352
      obtain ⟨cq1391, kq1391, q1391a, q1391b, q1391c⟩ := isOf hZ rfl E1354
      obtain ⟨_, _, ⟨T1391, L1391, k1391, n1391⟩, -, X1391, ⟨Lc1391, hQ1391, l1391, y1391, z1391⟩, st1391⟩ := X1344.virtualBack hx (y := (⟨"com/example/fieldglass/fieldglass/io/Marks", "endMessage", "(I)V"⟩ : MethodName)) (z := (⟨"com/example/fieldglass/fieldglass/io/Marks", "endMessage", "(I)V"⟩ : MethodName)) hown (mvT hZ (own_w hw 78 rfl)) (mvT hZ (own_w hw 79 rfl)) (notFace_of_selects (args := #[]) (mvT hZ (own_w hw 81 rfl))) (mvT hZ (own_w hw 81 rfl)) (mvT hZ (own_w hw 80 rfl)) (by decide) (backOf (W := 0) (rm_em0 l Z a0 hw [] b1 x19 x55 x56 x57 x58 (own_up (fun _ => (0 : Int32)) ln (1 : Int32)) (fun _ => (0 : Int64)) (fun _ => (0 : Int32)) x1346 (lev + (1 : Int32)) lev (-1 : Int32) lev ln T1344.heap n0 Zs1382 E1354 F1355 F1356 F1357 F1358 F1359 F1360 F1361 F1362 F1363 G1364 G1365 G1366 G1367 ne52 ne108 ne114 ne120 ne126 ne109 ne115 ne121 ne127 hpq68 hpq69 hpq70 hpq71 hpq72 hpq73 ge_b1 hpq60 t59_0 (own_m1n t59_0) (fun _ => rfl) (fun q => absurd (own_lt_s t59_0) q)) hZ (own_w hw 82 rfl) (own_w hw 3 rfl) (by decide) (by decide)) q1391a q1391c (g := (mkF m 157 #[.val (.int p0), .val (.long qa), .second, .val (.long qb), .second, .val (.long qc), .second, .val (.long qd), .second, .val (.int lev), .val (.int (3 : Int32)), .val (.long g0), .second, .val (.long s1), .second, .val (.long g2), .second, .val (.long s2), .second, .val (.ref b1), .unset, .unset, .unset, .unset, .unset] [(.int lev), (.ref b1)])) rfl (by rw [hml]; rfl) (Steps.refl _) (argsL := [(.int lev)]) (rest := []) (lenOf pd_5 rfl) rfl (by show 2 * 0 + _ ≤ _; exact Nat.le_of_eq rfl) (hb hby at_157) (fun _ _ => ⟨rfl, rfl, (by decide : 7 + 0 ≤ _), (by decide : 97 + 0 ≤ _)⟩)
      dsimp only [Pt.U, Pt.locs, Pt.cells, Pt.slots] at X1391 l1391 y1391 z1391 st1391 hQ1391
      subst l1391 y1391 z1391
      obtain ⟨rfl, N1391q, hq1392, E1393, F1394, F1395, F1396, F1397, F1398, F1399, F1400, F1401, F1402, G1403, G1404, G1405, G1406⟩ := hQ1391
      have N1391 := Fr.app N1344 N1391q
      have E1407 := E1368.keep hq1392
      have F1408 := F1369.keep hq1392 (ninS (Ne.symm ne52) (ninS ne109 nin0))
      have F1409 := F1370.keep hq1392 (ninS (Ne.symm ne52) (ninS ne109 nin0))
      have F1410 := F1371.keep hq1392 (ninS (Ne.symm ne52) (ninS ne109 nin0))
      have F1411 := F1372.keep hq1392 (ninS (Ne.symm ne52) (ninS ne109 nin0))
      have G1412 := G1373.keep hq1392 (ninS (Ne.symm ne1384) (ninS (Ne.symm ne1386) nin0))
      have K1391 : Keep h0 T1391.heap [] := K1344.trans hq1392 (allS (Or.inr sz_b1) (allS (Or.inr sz110) all0))
      have Zs1413 : n0 ≤ T1391.heap.size := (Nat.le_trans Zs1382 hq1392.1)
      obtain ⟨cq1414, kq1414, q1414a, q1414b, q1414c⟩ := isOf hZ rfl E1393
      obtain ⟨_, _, ⟨T1414, L1414, k1414, n1414⟩, -, X1414, ⟨Lc1414, hQ1414, l1414, y1414, z1414⟩, st1414⟩ := X1391.virtualBack hx (y := (⟨"com/example/fieldglass/fieldglass/io/Marks", "beginFields", "(IJI)V"⟩ : MethodName)) (z := (⟨"com/example/fieldglass/fieldglass/io/Marks", "beginFields", "(IJI)V"⟩ : MethodName)) hown (mvT hZ (own_w hw 86 rfl)) (mvT hZ (own_w hw 87 rfl)) (notFace_of_selects (args := #[]) (mvT hZ (own_w hw 89 rfl))) (mvT hZ (own_w hw 89 rfl)) (mvT hZ (own_w hw 88 rfl)) (by decide) (backOf (W := 0) (rm_bf l Z a0 hw [] b1 x19 x55 x56 x57 x58 (own_up (own_up (fun _ => (0 : Int32)) ln (1 : Int32)) ln (0 : Int32)) (fun _ => (0 : Int64)) (fun _ => (0 : Int32)) x1346 lev (-1 : Int32) lev ln s2 T1391.heap n0 Zs1413 E1393 F1394 F1395 F1396 F1397 F1398 F1399 F1400 F1401 F1402 G1403 G1404 G1405 G1406 ne52 ne108 ne114 ne120 ne126 ne109 ne115 ne121 ne127 hpq68 hpq69 hpq70 hpq71 hpq72 hpq73 ge_b1 hpq62 hpq64 t59_0 (fun q => absurd (own_m1 t59_0) q)) hZ (own_w hw 90 rfl) (own_w hw 3 rfl) (by decide) (by decide)) q1414a q1414c (g := (mkF m 167 #[.val (.int p0), .val (.long qa), .second, .val (.long qb), .second, .val (.long qc), .second, .val (.long qd), .second, .val (.int lev), .val (.int (3 : Int32)), .val (.long g0), .second, .val (.long s1), .second, .val (.long g2), .second, .val (.long s2), .second, .val (.ref b1), .unset, .unset, .unset, .unset, .unset] [(.int (1 : Int32)), (.long s2), (.int lev), (.ref b1)])) rfl (by rw [hml]; rfl) (Steps.refl _) (argsL := [(.int lev), (.long s2), (.int (1 : Int32))]) (rest := []) (lenOf pd_12 rfl) rfl (by show 2 * 0 + _ ≤ _; exact Nat.le_of_eq rfl) (hb hby at_167) (fun _ _ => ⟨rfl, rfl, (by decide : 7 + 0 ≤ _), (by decide : 97 + 0 ≤ _)⟩)
      dsimp only [Pt.U, Pt.locs, Pt.cells, Pt.slots] at X1414 l1414 y1414 z1414 st1414 hQ1414
      subst l1414 y1414 z1414
      obtain ⟨rfl, N1414q, hq1415, E1416, F1417, F1418, F1419, F1420, F1421, F1422, F1423, F1424, F1425, G1426, G1427, G1428, G1429⟩ := hQ1414
      have N1414 := Fr.app N1391 N1414q
      have E1430 := E1407.keep hq1415
      have F1431 := F1408.keep hq1415 (ninS (Ne.symm ne52) (ninS ne115 (ninS ne121 nin0)))
      have F1432 := F1409.keep hq1415 (ninS (Ne.symm ne52) (ninS ne115 (ninS ne121 nin0)))
      have F1433 := F1410.keep hq1415 (ninS (Ne.symm ne52) (ninS ne115 (ninS ne121 nin0)))
      have F1434 := F1411.keep hq1415 (ninS (Ne.symm ne52) (ninS ne115 (ninS ne121 nin0)))
      have G1435 := G1412.keep hq1415 (ninS (Ne.symm ne1384) (ninS (Ne.symm ne1387) (ninS (Ne.symm ne1388) nin0)))
      have K1414 : Keep h0 T1414.heap [] := K1391.trans hq1415 (allS (Or.inr sz_b1) (allS (Or.inr sz116) (allS (Or.inr sz122) all0)))
      have Zs1436 : n0 ≤ T1414.heap.size := (Nat.le_trans Zs1413 hq1415.1)
      have hczq : x1348.toInt = (((ln + 1) : Nat) : Int) := own_czq3 hpq1353
      obtain ⟨cq1437, kq1437, q1437a, q1437b, q1437c⟩ := isOf hZ rfl E1416
      obtain ⟨_, _, ⟨T1437, L1437, k1437, n1437⟩, -, X1437, ⟨Lc1437, hQ1437, l1437, y1437, z1437⟩, st1437⟩ := X1414.virtualBack hx (y := (⟨"com/example/fieldglass/fieldglass/io/Marks", "markField", "(IJ)V"⟩ : MethodName)) (z := (⟨"com/example/fieldglass/fieldglass/io/Marks", "markField", "(IJ)V"⟩ : MethodName)) hown (mvT hZ (own_w hw 91 rfl)) (mvT hZ (own_w hw 92 rfl)) (notFace_of_selects (args := #[]) (mvT hZ (own_w hw 94 rfl))) (mvT hZ (own_w hw 94 rfl)) (mvT hZ (own_w hw 93 rfl)) (by decide) (backOf (W := 0) (rm_mf1 l Z a0 hw [] b1 x19 x55 x56 x57 x58 (own_up (own_up (fun _ => (0 : Int32)) ln (1 : Int32)) ln (0 : Int32)) (own_up (fun _ => (0 : Int64)) ln s2) (own_up (fun _ => (0 : Int32)) ln (1 : Int32)) x1346 x1345 x1347 x1348 lev (ln + 1) lev ln s2 ((ln + 1) + 1) T1414.heap n0 Zs1436 E1416 F1417 F1418 F1419 F1420 F1421 F1422 F1423 F1424 F1425 G1426 G1427 G1428 G1429 E1430 F1431 F1432 F1433 F1434 G1435 ne52 ne108 ne114 ne120 ne126 ne1384 ne109 ne115 ne121 ne127 ne1385 hpq68 hpq69 hpq70 ne1386 hpq71 hpq72 ne1387 hpq73 ne1388 ne1389 ge_b1 hpq21 hpq66 hpq1351 t59_0 hczq (own_k2 ln _ _) (by have := t59_1; omega) (own_p1 hczq (by have := t59_1; omega) ln _ _ _)) hZ (own_w hw 95 rfl) (own_w hw 3 rfl) (by decide) (by decide)) q1437a q1437c (g := (mkF m 176 #[.val (.int p0), .val (.long qa), .second, .val (.long qb), .second, .val (.long qc), .second, .val (.long qd), .second, .val (.int lev), .val (.int (3 : Int32)), .val (.long g0), .second, .val (.long s1), .second, .val (.long g2), .second, .val (.long s2), .second, .val (.ref b1), .unset, .unset, .unset, .unset, .unset] [(.long s2), (.int lev), (.ref b1)])) rfl (by rw [hml]; rfl) (Steps.refl _) (argsL := [(.int lev), (.long s2)]) (rest := []) (lenOf pd_13 rfl) rfl (by show 2 * 0 + _ ≤ _; exact Nat.le_of_eq rfl) (hb hby at_176) (fun _ _ => ⟨rfl, rfl, (by decide : 7 + 0 ≤ _), (by decide : 97 + 0 ≤ _)⟩)
      dsimp only [Pt.U, Pt.locs, Pt.cells, Pt.slots] at X1437 l1437 y1437 z1437 st1437 hQ1437
      subst l1437 y1437 z1437
      obtain ⟨x1438, x1439, rfl, N1437q, hq1440, hpq1441, E1442, F1443, F1444, F1445, F1446, F1447, F1448, F1449, F1450, F1451, G1452, G1453, G1454, G1455, E1456, F1457, F1458, F1459, F1460, G1461⟩ := hQ1437
      have N1437 := Fr.app N1414 N1437q
      have K1437 : Keep h0 T1437.heap [] := K1414.trans hq1440 (allS (Or.inr sz_b1) (allS (Or.inr sz53) (allS (Or.inr sz128) (allS (Or.inr sz1390) all0))))
      have Zs1462 : n0 ≤ T1437.heap.size := (Nat.le_trans Zs1436 hq1440.1)
      obtain ⟨cq1463, kq1463, q1463a, q1463b, q1463c⟩ := isOf hZ rfl E1442
      obtain ⟨_, _, ⟨T1463, L1463, k1463, n1463⟩, -, X1463, ⟨Lc1463, hQ1463, l1463, y1463, z1463⟩, st1463⟩ := X1437.virtualBack hx (y := (⟨"com/example/fieldglass/fieldglass/io/Marks", "endGroup", "(IJZ)V"⟩ : MethodName)) (z := (⟨"com/example/fieldglass/fieldglass/io/Marks", "endGroup", "(IJZ)V"⟩ : MethodName)) hown (mvT hZ (own_w hw 130 rfl)) (mvT hZ (own_w hw 131 rfl)) (notFace_of_selects (args := #[]) (mvT hZ (own_w hw 133 rfl))) (mvT hZ (own_w hw 133 rfl)) (mvT hZ (own_w hw 132 rfl)) (by decide) (backOf (W := 0) (rm_egN l Z a0 hw [] b1 x19 x55 x56 x57 x58 (own_up (own_up (fun _ => (0 : Int32)) ln (1 : Int32)) ln (0 : Int32)) (own_up (fun _ => (0 : Int64)) ln s2) (own_up (fun _ => (0 : Int32)) ln (1 : Int32)) (own_up x1346 ln (own_sz x1348)) x1345 (own_up x1438 ((ln + 1) + 1) s2) x1439 (lev + (1 : Int32)) lev lev ln g2 (ln + 1) T1437.heap n0 Zs1462 E1442 F1443 F1444 F1445 F1446 F1447 F1448 F1449 F1450 F1451 G1452 G1453 G1454 G1455 E1456 F1457 F1458 F1459 F1460 G1461 ne52 ne108 ne114 ne120 ne126 ne1384 ne109 ne115 ne121 ne127 ne1385 hpq68 hpq69 hpq70 ne1386 hpq71 hpq72 ne1387 hpq73 ne1388 ne1389 hpq1351 t59_0 (own_lt_s t59_0) (own_pg1 hczq (by have := t59_1; omega) _ _) ge_b1) hZ (own_w hw 134 rfl) (own_w hw 3 rfl) (by decide) (by decide)) q1463a q1463c (g := (mkF m 186 #[.val (.int p0), .val (.long qa), .second, .val (.long qb), .second, .val (.long qc), .second, .val (.long qd), .second, .val (.int lev), .val (.int (3 : Int32)), .val (.long g0), .second, .val (.long s1), .second, .val (.long g2), .second, .val (.long s2), .second, .val (.ref b1), .unset, .unset, .unset, .unset, .unset] [(.int (0 : Int32)), (.long g2), (.int lev), (.ref b1)])) rfl (by rw [hml]; rfl) (Steps.refl _) (argsL := [(.int lev), (.long g2), (.int (0 : Int32))]) (rest := []) (lenOf pd_14 rfl) rfl (by show 2 * 0 + _ ≤ _; exact Nat.le_of_eq rfl) (hb hby at_186) (fun _ _ => ⟨rfl, rfl, (by decide : 7 + 0 ≤ _), (by decide : 97 + 0 ≤ _)⟩)
      dsimp only [Pt.U, Pt.locs, Pt.cells, Pt.slots] at X1463 l1463 y1463 z1463 st1463 hQ1463
      subst l1463 y1463 z1463
      obtain ⟨rfl, N1463q, hq1464, E1465, F1466, F1467, F1468, F1469, F1470, F1471, F1472, F1473, F1474, G1475, G1476, G1477, G1478, G1479⟩ := hQ1463
      have N1463 := Fr.app N1437 N1463q
      have E1480 := E1456.keep hq1464
      have F1481 := F1457.keep hq1464 (ninS (Ne.symm ne52) (ninS ne1385 nin0))
      have F1482 := F1458.keep hq1464 (ninS (Ne.symm ne52) (ninS ne1385 nin0))
      have F1483 := F1459.keep hq1464 (ninS (Ne.symm ne52) (ninS ne1385 nin0))
      have F1484 := F1460.keep hq1464 (ninS (Ne.symm ne52) (ninS ne1385 nin0))
      have K1463 : Keep h0 T1463.heap [] := K1437.trans hq1464 (allS (Or.inr sz_b1) (allS (Or.inr sz1390) all0))
      have Zs1485 : n0 ≤ T1463.heap.size := (Nat.le_trans Zs1462 hq1464.1)
      have pre1486 := fun (t : State) (k : Steps p.tables e below (T1463.setTop (mkF m 192 #[.val (.int p0), .val (.long qa), .second, .val (.long qb), .second, .val (.long qc), .second, .val (.long qd), .second, .val (.int lev), .val (.int (3 : Int32)), .val (.long g0), .second, .val (.long s1), .second, .val (.long g2), .second, .val (.long s2), .second, .val (.ref b1), .unset, .unset, .unset, .unset, .unset] [(.int (1 : Int32)), (.int lev)])) t) => pre129 t (by
        refine XS.iload X54.here hx rfl (hb hby at_75) rfl ?_
        refine XS.iconst X54.here hx rfl (hb hby at_77) ?_
        refine XS.icmpYes X54.here hx rfl (pc0 := 78) (pc' := 103) rfl (hb hby at_78) rfl (feq (by decide : ¬ ((3 : Int32) = (1 : Int32)))).2 (by decide) (by decide) ?_
        refine XS.iload X54.here hx rfl (hb hby at_103) rfl ?_
        refine XS.iconst X54.here hx rfl (hb hby at_105) ?_
        refine XS.icmpYes X54.here hx rfl (pc0 := 106) (pc' := 135) rfl (hb hby at_106) rfl (feq (by decide : ¬ ((3 : Int32) = (2 : Int32)))).2 (by decide) (by decide) ?_
        refine XS.iload X54.here hx rfl (hb hby at_135) rfl ?_
        refine XS.iconst X54.here hx rfl (hb hby at_137) ?_
        refine XS.icmpNo X54.here hx rfl (hb hby at_138) rfl (teq (by decide : (3 : Int32) = (3 : Int32))).2 ?_
        refine XS.aload X54.here hx rfl (hb hby at_141) rfl rfl ?_
        refine XS.iload X54.here hx rfl (hb hby at_143) rfl ?_
        refine XS.iconst X54.here hx rfl (hb hby at_145) ?_
        refine XS.iadd X54.here hx rfl (hb hby at_146) rfl ?_
        refine XS.lload X54.here hx rfl (hb hby at_147) rfl ?_
        refine XS.iconst X54.here hx rfl (hb hby at_149) ?_
        refine st1344.trans ?_
        refine XS.aload X1344.here hx rfl (hb hby at_153) rfl rfl ?_
        refine XS.iload X1344.here hx rfl (hb hby at_155) rfl ?_
        refine st1391.trans ?_
        refine XS.aload X1391.here hx rfl (hb hby at_160) rfl rfl ?_
        refine XS.iload X1391.here hx rfl (hb hby at_162) rfl ?_
        refine XS.lload X1391.here hx rfl (hb hby at_164) rfl ?_
        refine XS.iconst X1391.here hx rfl (hb hby at_166) ?_
        refine st1414.trans ?_
        refine XS.aload X1414.here hx rfl (hb hby at_170) rfl rfl ?_
        refine XS.iload X1414.here hx rfl (hb hby at_172) rfl ?_
        refine XS.lload X1414.here hx rfl (hb hby at_174) rfl ?_
        refine st1437.trans ?_
        refine XS.aload X1437.here hx rfl (hb hby at_179) rfl rfl ?_
        refine XS.iload X1437.here hx rfl (hb hby at_181) rfl ?_
        refine XS.lload X1437.here hx rfl (hb hby at_183) rfl ?_
        refine XS.iconst X1437.here hx rfl (hb hby at_185) ?_
        refine st1463.trans ?_
        refine XS.iload X1463.here hx rfl (hb hby at_189) rfl ?_
        refine XS.iconst X1463.here hx rfl (hb hby at_191) ?_
        exact k)
      by_cases hc1487 : lev < (1 : Int32)
      · have pre1488 := fun (t : State) (k : Steps p.tables e below (T1463.setTop (mkF m 216 #[.val (.int p0), .val (.long qa), .second, .val (.long qb), .second, .val (.long qc), .second, .val (.long qd), .second, .val (.int lev), .val (.int (3 : Int32)), .val (.long g0), .second, .val (.long s1), .second, .val (.long g2), .second, .val (.long s2), .second, .val (.ref b1), .unset, .unset, .unset, .unset, .unset] [])) t) => pre1486 t (by
          refine XS.icmpYes X1463.here hx rfl (pc0 := 192) (pc' := 216) rfl (hb hby at_192) rfl (tlt hc1487).1 (by decide) (by decide) ?_
          exact k)
        obtain ⟨Fn, hFn⟩ : ∃ z : Nat → Int64, z = (own_up (own_up x1438 ((ln + 1) + 1) s2) (ln + 1) g2) := ⟨_, rfl⟩
        have VF : own_Fa Value.long .long Z T1463.heap x1345 16 Fn := by rw [hFn]; exact G1479
        have hW : own_W Fn ((ln + 1) + 2) false 0 true ln (ln + 1) g0 s1 g2 s2 := by rw [hFn]; exact (own_W1 (own_base3 hpq1353) (by omega) hpq1441)
        have hSW := own_W_S hW t59_3
        have hCZ : own_cz x1439 ((ln + 1) + 2) := (own_cz1 hpq1441 (by have := t59_1; omega))
        obtain ⟨cq1489, kq1489, q1489a, q1489b, q1489c⟩ := isOf hZ rfl E1465
        obtain ⟨_, _, ⟨T1489, L1489, k1489, n1489⟩, -, X1489, ⟨Lc1489, hQ1489, l1489, y1489, z1489⟩, st1489⟩ := X1463.virtualBack hx (y := (⟨"com/example/fieldglass/fieldglass/io/Marks", "readBack", "()V"⟩ : MethodName)) (z := (⟨"com/example/fieldglass/fieldglass/io/Marks", "readBack", "()V"⟩ : MethodName)) hown (mvT hZ (own_w hw 135 rfl)) (mvT hZ (own_w hw 136 rfl)) (notFace_of_selects (args := #[]) (mvT hZ (own_w hw 138 rfl))) (mvT hZ (own_w hw 138 rfl)) (mvT hZ (own_w hw 137 rfl)) (by decide) (backOf (W := 0) (rm_rbk l Z a0 hw [] b1 x19 x1345 Fn x1439 ((ln + 1) + 2) (9223372036854775807 : Int64) T1463.heap n0 Zs1485 E1465 F1473 F1474 E1480 F1481 F1482 F1483 F1484 VF F1472 ne52 ne1384 ne1385 ge_b1 hpq21 hCZ hSW) hZ (own_w hw 139 rfl) (own_w hw 3 rfl) (by decide) (by decide)) q1489a q1489c (g := (mkF m 218 #[.val (.int p0), .val (.long qa), .second, .val (.long qb), .second, .val (.long qc), .second, .val (.long qd), .second, .val (.int lev), .val (.int (3 : Int32)), .val (.long g0), .second, .val (.long s1), .second, .val (.long g2), .second, .val (.long s2), .second, .val (.ref b1), .unset, .unset, .unset, .unset, .unset] [(.ref b1)])) rfl (by rw [hml]; rfl) (Steps.refl _) (argsL := []) (rest := []) (lenOf pd_1 rfl) rfl (by show 2 * 0 + _ ≤ _; exact Nat.le_of_eq rfl) (hb hby at_218) (fun _ _ => ⟨rfl, rfl, (by decide : 7 + 0 ≤ _), (by decide : 97 + 0 ≤ _)⟩)
        dsimp only [Pt.U, Pt.locs, Pt.cells, Pt.slots] at X1489 l1489 y1489 z1489 st1489 hQ1489
        subst l1489 y1489 z1489
        obtain ⟨x1490, x1491, x1492, rfl, N1489q, hq1493, hpq1494, hpq1495, F1496, F1497, F1498, F1499, F1500, F1501⟩ := hQ1489
        have N1489 := Fr.app N1463 N1489q
        have E1502 := E1480.keep hq1493
        have E1503 := E1465.keep hq1493
        have G1504 := VF.keep hq1493 (ninS (Ne.symm ne1384) (ninS (Ne.symm ne1385) nin0))
        have K1489 : Keep h0 T1489.heap [] := K1463.trans hq1493 (allS (Or.inr sz_b1) (allS (Or.inr sz53) all0))
        have Zs1505 : n0 ≤ T1489.heap.size := (Nat.le_trans Zs1485 hq1493.1)
        obtain ⟨cq1506, kq1506, q1506a, q1506b, q1506c⟩ := isOf hZ rfl E1503
        obtain ⟨_, _, ⟨T1506, L1506, k1506, n1506⟩, -, X1506, ⟨Lc1506, hQ1506, l1506, y1506, z1506⟩, st1506⟩ := X1489.virtualBack hx (y := (⟨"com/example/fieldglass/fieldglass/io/Marks", "isMarked", "(J)Z"⟩ : MethodName)) (z := (⟨"com/example/fieldglass/fieldglass/io/Marks", "isMarked", "(J)Z"⟩ : MethodName)) hown (mvT hZ (own_w hw 158 rfl)) (mvT hZ (own_w hw 159 rfl)) (notFace_of_selects (args := #[]) (mvT hZ (own_w hw 161 rfl))) (mvT hZ (own_w hw 161 rfl)) (mvT hZ (own_w hw 160 rfl)) (by decide) (backOf (W := 0) (rm_ism l Z a0 hw [] b1 x19 x1345 Fn x1439 ((ln + 1) + 2) x1490 x1491 x1492 g0 (0 : Int64) T1489.heap n0 Zs1505 E1503 F1496 F1497 E1502 F1498 F1499 F1500 F1501 G1504 ne52 ne1384 ne1385 ge_b1 hpq21 hCZ hSW hpq1494 hpq1495 (own_v4_q0 t59_3) (own_v4_s0 t59_3)) hZ (own_w hw 162 rfl) (own_w hw 3 rfl) (by decide) (by decide)) q1506a q1506c (g := (mkF m 225 #[.val (.int p0), .val (.long qa), .second, .val (.long qb), .second, .val (.long qc), .second, .val (.long qd), .second, .val (.int lev), .val (.int (3 : Int32)), .val (.long g0), .second, .val (.long s1), .second, .val (.long g2), .second, .val (.long s2), .second, .val (.ref b1), .unset, .unset, .unset, .unset, .unset] [(.long g0), (.ref b1)])) rfl (by rw [hml]; rfl) (Steps.refl _) (argsL := [(.long g0)]) (rest := []) (lenOf pd_11 rfl) rfl (by show 2 * 0 + _ ≤ _; exact Nat.le_of_eq rfl) (hb hby at_225) (fun _ _ => ⟨rfl, rfl, (by decide : 7 + 0 ≤ _), (by decide : 97 + 0 ≤ _)⟩)
        dsimp only [Pt.U, Pt.locs, Pt.cells, Pt.slots] at X1506 l1506 y1506 z1506 st1506 hQ1506
        subst l1506 y1506 z1506
        obtain ⟨x1507, x1508, x1509, x1510, rfl, N1506q, hq1511, hpq1512, hpq1513, hpq1514, F1515, F1516, F1517, F1518, F1519, F1520⟩ := hQ1506
        have N1506 := Fr.app N1489 N1506q
        have E1521 := E1502.keep hq1511
        have E1522 := E1503.keep hq1511
        have G1523 := G1504.keep hq1511 (ninS (Ne.symm ne1384) (ninS (Ne.symm ne1385) nin0))
        have K1506 : Keep h0 T1506.heap [] := K1489.trans hq1511 (allS (Or.inr sz_b1) (allS (Or.inr sz53) all0))
        have Zs1524 : n0 ≤ T1506.heap.size := (Nat.le_trans Zs1505 hq1511.1)
        obtain ⟨cq1525, kq1525, q1525a, q1525b, q1525c⟩ := isOf hZ rfl E1522
        obtain ⟨_, _, ⟨T1525, L1525, k1525, n1525⟩, -, X1525, ⟨Lc1525, hQ1525, l1525, y1525, z1525⟩, st1525⟩ := X1506.virtualBack hx (y := (⟨"com/example/fieldglass/fieldglass/io/Marks", "isMarked", "(J)Z"⟩ : MethodName)) (z := (⟨"com/example/fieldglass/fieldglass/io/Marks", "isMarked", "(J)Z"⟩ : MethodName)) hown (mvT hZ (own_w hw 158 rfl)) (mvT hZ (own_w hw 159 rfl)) (notFace_of_selects (args := #[]) (mvT hZ (own_w hw 161 rfl))) (mvT hZ (own_w hw 161 rfl)) (mvT hZ (own_w hw 160 rfl)) (by decide) (backOf (W := 0) (rm_ism l Z a0 hw [] b1 x19 x1345 Fn x1439 ((ln + 1) + 2) x1507 x1508 x1509 s1 g0 T1506.heap n0 Zs1524 E1522 F1515 F1516 E1521 F1517 F1518 F1519 F1520 G1523 ne52 ne1384 ne1385 ge_b1 hpq21 hCZ hSW hpq1512 hpq1513 (own_v4_q1 t59_3) (own_v4_s1 t59_3)) hZ (own_w hw 162 rfl) (own_w hw 3 rfl) (by decide) (by decide)) q1525a q1525c (g := (mkF m 234 #[.val (.int p0), .val (.long qa), .second, .val (.long qb), .second, .val (.long qc), .second, .val (.long qd), .second, .val (.int lev), .val (.int (3 : Int32)), .val (.long g0), .second, .val (.long s1), .second, .val (.long g2), .second, .val (.long s2), .second, .val (.ref b1), .val (.int x1510), .unset, .unset, .unset, .unset] [(.long s1), (.ref b1)])) rfl (by rw [hml]; rfl) (Steps.refl _) (argsL := [(.long s1)]) (rest := []) (lenOf pd_11 rfl) rfl (by show 2 * 0 + _ ≤ _; exact Nat.le_of_eq rfl) (hb hby at_234) (fun _ _ => ⟨rfl, rfl, (by decide : 7 + 0 ≤ _), (by decide : 97 + 0 ≤ _)⟩)
        dsimp only [Pt.U, Pt.locs, Pt.cells, Pt.slots] at X1525 l1525 y1525 z1525 st1525 hQ1525
        subst l1525 y1525 z1525
        obtain ⟨x1526, x1527, x1528, x1529, rfl, N1525q, hq1530, hpq1531, hpq1532, hpq1533, F1534, F1535, F1536, F1537, F1538, F1539⟩ := hQ1525
        have N1525 := Fr.app N1506 N1525q
        have E1540 := E1521.keep hq1530
        have E1541 := E1522.keep hq1530
        have G1542 := G1523.keep hq1530 (ninS (Ne.symm ne1384) (ninS (Ne.symm ne1385) nin0))
        have K1525 : Keep h0 T1525.heap [] := K1506.trans hq1530 (allS (Or.inr sz_b1) (allS (Or.inr sz53) all0))
        have Zs1543 : n0 ≤ T1525.heap.size := (Nat.le_trans Zs1524 hq1530.1)
        obtain ⟨cq1544, kq1544, q1544a, q1544b, q1544c⟩ := isOf hZ rfl E1541
        obtain ⟨_, _, ⟨T1544, L1544, k1544, n1544⟩, -, X1544, ⟨Lc1544, hQ1544, l1544, y1544, z1544⟩, st1544⟩ := X1525.virtualBack hx (y := (⟨"com/example/fieldglass/fieldglass/io/Marks", "isMarked", "(J)Z"⟩ : MethodName)) (z := (⟨"com/example/fieldglass/fieldglass/io/Marks", "isMarked", "(J)Z"⟩ : MethodName)) hown (mvT hZ (own_w hw 158 rfl)) (mvT hZ (own_w hw 159 rfl)) (notFace_of_selects (args := #[]) (mvT hZ (own_w hw 161 rfl))) (mvT hZ (own_w hw 161 rfl)) (mvT hZ (own_w hw 160 rfl)) (by decide) (backOf (W := 0) (rm_ism l Z a0 hw [] b1 x19 x1345 Fn x1439 ((ln + 1) + 2) x1526 x1527 x1528 g2 s1 T1525.heap n0 Zs1543 E1541 F1534 F1535 E1540 F1536 F1537 F1538 F1539 G1542 ne52 ne1384 ne1385 ge_b1 hpq21 hCZ hSW hpq1531 hpq1532 (own_v4_q2 t59_3) (own_v4_s2 t59_3)) hZ (own_w hw 162 rfl) (own_w hw 3 rfl) (by decide) (by decide)) q1544a q1544c (g := (mkF m 243 #[.val (.int p0), .val (.long qa), .second, .val (.long qb), .second, .val (.long qc), .second, .val (.long qd), .second, .val (.int lev), .val (.int (3 : Int32)), .val (.long g0), .second, .val (.long s1), .second, .val (.long g2), .second, .val (.long s2), .second, .val (.ref b1), .val (.int x1510), .val (.int x1529), .unset, .unset, .unset] [(.long g2), (.ref b1)])) rfl (by rw [hml]; rfl) (Steps.refl _) (argsL := [(.long g2)]) (rest := []) (lenOf pd_11 rfl) rfl (by show 2 * 0 + _ ≤ _; exact Nat.le_of_eq rfl) (hb hby at_243) (fun _ _ => ⟨rfl, rfl, (by decide : 7 + 0 ≤ _), (by decide : 97 + 0 ≤ _)⟩)
        dsimp only [Pt.U, Pt.locs, Pt.cells, Pt.slots] at X1544 l1544 y1544 z1544 st1544 hQ1544
        subst l1544 y1544 z1544
        obtain ⟨x1545, x1546, x1547, x1548, rfl, N1544q, hq1549, hpq1550, hpq1551, hpq1552, F1553, F1554, F1555, F1556, F1557, F1558⟩ := hQ1544
        have N1544 := Fr.app N1525 N1544q
        have E1559 := E1540.keep hq1549
        have E1560 := E1541.keep hq1549
        have G1561 := G1542.keep hq1549 (ninS (Ne.symm ne1384) (ninS (Ne.symm ne1385) nin0))
        have K1544 : Keep h0 T1544.heap [] := K1525.trans hq1549 (allS (Or.inr sz_b1) (allS (Or.inr sz53) all0))
        have Zs1562 : n0 ≤ T1544.heap.size := (Nat.le_trans Zs1543 hq1549.1)
        obtain ⟨cq1563, kq1563, q1563a, q1563b, q1563c⟩ := isOf hZ rfl E1560
        obtain ⟨_, _, ⟨T1563, L1563, k1563, n1563⟩, -, X1563, ⟨Lc1563, hQ1563, l1563, y1563, z1563⟩, st1563⟩ := X1544.virtualBack hx (y := (⟨"com/example/fieldglass/fieldglass/io/Marks", "isMarked", "(J)Z"⟩ : MethodName)) (z := (⟨"com/example/fieldglass/fieldglass/io/Marks", "isMarked", "(J)Z"⟩ : MethodName)) hown (mvT hZ (own_w hw 158 rfl)) (mvT hZ (own_w hw 159 rfl)) (notFace_of_selects (args := #[]) (mvT hZ (own_w hw 161 rfl))) (mvT hZ (own_w hw 161 rfl)) (mvT hZ (own_w hw 160 rfl)) (by decide) (backOf (W := 0) (rm_ism l Z a0 hw [] b1 x19 x1345 Fn x1439 ((ln + 1) + 2) x1545 x1546 x1547 s2 g2 T1544.heap n0 Zs1562 E1560 F1553 F1554 E1559 F1555 F1556 F1557 F1558 G1561 ne52 ne1384 ne1385 ge_b1 hpq21 hCZ hSW hpq1550 hpq1551 (own_v4_q3 t59_3) (own_v4_s3 t59_3)) hZ (own_w hw 162 rfl) (own_w hw 3 rfl) (by decide) (by decide)) q1563a q1563c (g := (mkF m 252 #[.val (.int p0), .val (.long qa), .second, .val (.long qb), .second, .val (.long qc), .second, .val (.long qd), .second, .val (.int lev), .val (.int (3 : Int32)), .val (.long g0), .second, .val (.long s1), .second, .val (.long g2), .second, .val (.long s2), .second, .val (.ref b1), .val (.int x1510), .val (.int x1529), .val (.int x1548), .unset, .unset] [(.long s2), (.ref b1)])) rfl (by rw [hml]; rfl) (Steps.refl _) (argsL := [(.long s2)]) (rest := []) (lenOf pd_11 rfl) rfl (by show 2 * 0 + _ ≤ _; exact Nat.le_of_eq rfl) (hb hby at_252) (fun _ _ => ⟨rfl, rfl, (by decide : 7 + 0 ≤ _), (by decide : 97 + 0 ≤ _)⟩)
        dsimp only [Pt.U, Pt.locs, Pt.cells, Pt.slots] at X1563 l1563 y1563 z1563 st1563 hQ1563
        subst l1563 y1563 z1563
        obtain ⟨x1564, x1565, x1566, x1567, rfl, N1563q, hq1568, hpq1569, hpq1570, hpq1571, F1572, F1573, F1574, F1575, F1576, F1577⟩ := hQ1563
        have N1563 := Fr.app N1544 N1563q
        have E1578 := E1559.keep hq1568
        have E1579 := E1560.keep hq1568
        have G1580 := G1561.keep hq1568 (ninS (Ne.symm ne1384) (ninS (Ne.symm ne1385) nin0))
        have K1563 : Keep h0 T1563.heap [] := K1544.trans hq1568 (allS (Or.inr sz_b1) (allS (Or.inr sz53) all0))
        have Zs1581 : n0 ≤ T1563.heap.size := (Nat.le_trans Zs1562 hq1568.1)
        obtain ⟨cq1582, kq1582, q1582a, q1582b, q1582c⟩ := isOf hZ rfl E1579
        obtain ⟨_, _, ⟨T1582, L1582, k1582, n1582⟩, -, X1582, ⟨Lc1582, hQ1582, l1582, y1582, z1582⟩, st1582⟩ := X1563.virtualBack hx (y := (⟨"com/example/fieldglass/fieldglass/io/Marks", "isMarked", "(J)Z"⟩ : MethodName)) (z := (⟨"com/example/fieldglass/fieldglass/io/Marks", "isMarked", "(J)Z"⟩ : MethodName)) hown (mvT hZ (own_w hw 158 rfl)) (mvT hZ (own_w hw 159 rfl)) (notFace_of_selects (args := #[]) (mvT hZ (own_w hw 161 rfl))) (mvT hZ (own_w hw 161 rfl)) (mvT hZ (own_w hw 160 rfl)) (by decide) (backOf (W := 0) (rm_ism l Z a0 hw [] b1 x19 x1345 Fn x1439 ((ln + 1) + 2) x1564 x1565 x1566 (s2 + (1 : Int64)) s2 T1563.heap n0 Zs1581 E1579 F1572 F1573 E1578 F1574 F1575 F1576 F1577 G1580 ne52 ne1384 ne1385 ge_b1 hpq21 hCZ hSW hpq1569 hpq1570 (own_v4_q4 t59_3) (own_v4_s4 t59_3)) hZ (own_w hw 162 rfl) (own_w hw 3 rfl) (by decide) (by decide)) q1582a q1582c (g := (mkF m 263 #[.val (.int p0), .val (.long qa), .second, .val (.long qb), .second, .val (.long qc), .second, .val (.long qd), .second, .val (.int lev), .val (.int (3 : Int32)), .val (.long g0), .second, .val (.long s1), .second, .val (.long g2), .second, .val (.long s2), .second, .val (.ref b1), .val (.int x1510), .val (.int x1529), .val (.int x1548), .val (.int x1567), .unset] [(.long (s2 + (1 : Int64))), (.ref b1)])) rfl (by rw [hml]; rfl) (Steps.refl _) (argsL := [(.long (s2 + (1 : Int64)))]) (rest := []) (lenOf pd_11 rfl) rfl (by show 2 * 0 + _ ≤ _; exact Nat.le_of_eq rfl) (hb hby at_263) (fun _ _ => ⟨rfl, rfl, (by decide : 7 + 0 ≤ _), (by decide : 97 + 0 ≤ _)⟩)
        dsimp only [Pt.U, Pt.locs, Pt.cells, Pt.slots] at X1582 l1582 y1582 z1582 st1582 hQ1582
        subst l1582 y1582 z1582
        obtain ⟨x1583, x1584, x1585, x1586, rfl, N1582q, hq1587, hpq1588, hpq1589, hpq1590, F1591, F1592, F1593, F1594, F1595, F1596⟩ := hQ1582
        have N1582 := Fr.app N1563 N1582q
        have E1597 := E1578.keep hq1587
        have E1598 := E1579.keep hq1587
        have G1599 := G1580.keep hq1587 (ninS (Ne.symm ne1384) (ninS (Ne.symm ne1385) nin0))
        have K1582 : Keep h0 T1582.heap [] := K1563.trans hq1587 (allS (Or.inr sz_b1) (allS (Or.inr sz53) all0))
        have Zs1600 : n0 ≤ T1582.heap.size := (Nat.le_trans Zs1581 hq1587.1)
        have pre1601 := fun (t : State) (k : Steps p.tables e below (T1582.setTop (mkF m 319 #[.val (.int p0), .val (.long qa), .second, .val (.long qb), .second, .val (.long qc), .second, .val (.long qd), .second, .val (.int lev), .val (.int (3 : Int32)), .val (.long g0), .second, .val (.long s1), .second, .val (.long g2), .second, .val (.long s2), .second, .val (.ref b1), .val (.int x1510), .val (.int x1529), .val (.int x1548), .val (.int x1567), .val (.int x1586)] [(.int (1 : Int32))])) t) => pre1488 t (by
          refine XS.aload X1463.here hx rfl (hb hby at_216) rfl rfl ?_
          refine st1489.trans ?_
          refine XS.aload X1489.here hx rfl (hb hby at_221) rfl rfl ?_
          refine XS.lload X1489.here hx rfl (hb hby at_223) rfl ?_
          refine st1506.trans ?_
          refine XS.istore X1506.here hx rfl (hb hby at_228) rfl (l' := #[.val (.int p0), .val (.long qa), .second, .val (.long qb), .second, .val (.long qc), .second, .val (.long qd), .second, .val (.int lev), .val (.int (3 : Int32)), .val (.long g0), .second, .val (.long s1), .second, .val (.long g2), .second, .val (.long s2), .second, .val (.ref b1), .val (.int x1510), .unset, .unset, .unset, .unset]) rfl ?_
          refine XS.aload X1506.here hx rfl (hb hby at_230) rfl rfl ?_
          refine XS.lload X1506.here hx rfl (hb hby at_232) rfl ?_
          refine st1525.trans ?_
          refine XS.istore X1525.here hx rfl (hb hby at_237) rfl (l' := #[.val (.int p0), .val (.long qa), .second, .val (.long qb), .second, .val (.long qc), .second, .val (.long qd), .second, .val (.int lev), .val (.int (3 : Int32)), .val (.long g0), .second, .val (.long s1), .second, .val (.long g2), .second, .val (.long s2), .second, .val (.ref b1), .val (.int x1510), .val (.int x1529), .unset, .unset, .unset]) rfl ?_
          refine XS.aload X1525.here hx rfl (hb hby at_239) rfl rfl ?_
          refine XS.lload X1525.here hx rfl (hb hby at_241) rfl ?_
          refine st1544.trans ?_
          refine XS.istore X1544.here hx rfl (hb hby at_246) rfl (l' := #[.val (.int p0), .val (.long qa), .second, .val (.long qb), .second, .val (.long qc), .second, .val (.long qd), .second, .val (.int lev), .val (.int (3 : Int32)), .val (.long g0), .second, .val (.long s1), .second, .val (.long g2), .second, .val (.long s2), .second, .val (.ref b1), .val (.int x1510), .val (.int x1529), .val (.int x1548), .unset, .unset]) rfl ?_
          refine XS.aload X1544.here hx rfl (hb hby at_248) rfl rfl ?_
          refine XS.lload X1544.here hx rfl (hb hby at_250) rfl ?_
          refine st1563.trans ?_
          refine XS.istore X1563.here hx rfl (hb hby at_255) rfl (l' := #[.val (.int p0), .val (.long qa), .second, .val (.long qb), .second, .val (.long qc), .second, .val (.long qd), .second, .val (.int lev), .val (.int (3 : Int32)), .val (.long g0), .second, .val (.long s1), .second, .val (.long g2), .second, .val (.long s2), .second, .val (.ref b1), .val (.int x1510), .val (.int x1529), .val (.int x1548), .val (.int x1567), .unset]) rfl ?_
          refine XS.aload X1563.here hx rfl (hb hby at_257) rfl rfl ?_
          refine XS.lload X1563.here hx rfl (hb hby at_259) rfl ?_
          refine XS.lconst X1563.here hx rfl (hb hby at_261) ?_
          refine XS.ladd X1563.here hx rfl (hb hby at_262) rfl ?_
          refine st1582.trans ?_
          refine XS.istore X1582.here hx rfl (hb hby at_266) rfl (l' := #[.val (.int p0), .val (.long qa), .second, .val (.long qb), .second, .val (.long qc), .second, .val (.long qd), .second, .val (.int lev), .val (.int (3 : Int32)), .val (.long g0), .second, .val (.long s1), .second, .val (.long g2), .second, .val (.long s2), .second, .val (.ref b1), .val (.int x1510), .val (.int x1529), .val (.int x1548), .val (.int x1567), .val (.int x1586)]) rfl ?_
          refine XS.iload X1582.here hx rfl (hb hby at_268) rfl ?_
          refine XS.iload X1582.here hx rfl (hb hby at_270) rfl ?_
          refine XS.iconst X1582.here hx rfl (hb hby at_272) ?_
          refine XS.icmpYes X1582.here hx rfl (pc0 := 273) (pc' := 280) rfl (hb hby at_273) rfl (tlt hc1487).1 (by decide) (by decide) ?_
          refine XS.iconst X1582.here hx rfl (hb hby at_280) ?_
          refine XS.icmpNo X1582.here hx rfl (hb hby at_281) rfl (teq (own_no hpq1514 (own_W_n0 hW t59_3))).2 ?_
          refine XS.iload X1582.here hx rfl (hb hby at_284) rfl ?_
          refine XS.iload X1582.here hx rfl (hb hby at_286) rfl ?_
          refine XS.ifNo X1582.here hx rfl (hb hby at_288) rfl ((if0 _ _).trans (feq (by decide : ¬ ((3 : Int32) = (0 : Int32)))).1) ?_
          refine XS.iconst X1582.here hx rfl (hb hby at_291) ?_
          refine XS.goto X1582.here hx rfl (pc0 := 292) (pc' := 296) rfl (hb hby at_292) (by decide) (by decide) ?_
          refine XS.icmpNo X1582.here hx rfl (hb hby at_296) rfl (teq (own_yes hpq1533 (own_W_y1 hW t59_3))).2 ?_
          refine XS.iload X1582.here hx rfl (hb hby at_299) rfl ?_
          refine XS.ifNo X1582.here hx rfl (hb hby at_301) rfl ((if0 _ _).trans (feq (own_ne0 (own_yes hpq1552 (own_W_y2 hW t59_3)))).1) ?_
          refine XS.iload X1582.here hx rfl (hb hby at_304) rfl ?_
          refine XS.ifNo X1582.here hx rfl (hb hby at_306) rfl ((if0 _ _).trans (feq (own_ne0 (own_yes hpq1571 (own_W_y3 hW t59_3)))).1) ?_
          refine XS.iload X1582.here hx rfl (hb hby at_309) rfl ?_
          refine XS.ifNo X1582.here hx rfl (hb hby at_311) rfl ((if0 _ _).trans (teq (own_no hpq1590 (own_W_n4 hW t59_3))).2) ?_
          refine XS.iconst X1582.here hx rfl (hb hby at_314) ?_
          refine XS.goto X1582.here hx rfl (pc0 := 315) (pc' := 319) rfl (hb hby at_315) (by decide) (by decide) ?_
          exact k)
        obtain ⟨fs, hr, hrun, hended, hW, hsame⟩ := X1582.leave (v := some (.int (1 : Int32))) (hlocks := BodyLoose.notSynchronized Bd) (fun h => by rw [Bd.returns] at h; cases h)
        refine ⟨_, _, pre1601 _ ?_, hrun, hended, _, _, rfl, ?_, ⟨_, rfl⟩, hW, hsame.mono (by decide) (by decide)⟩
        · exact retN X1582 hx (t := .boolean) Bd.returns (by simp) (hb hby at_319) hr
        · show Q_law Z p0 qa qb qc qd ab al an kb kl ki h0 n0 _ T1582.heap _
          exact ⟨rfl, N1582, K1582⟩
      · have pre1602 := fun (t : State) (k : Steps p.tables e below (T1463.setTop (mkF m 204 #[.val (.int p0), .val (.long qa), .second, .val (.long qb), .second, .val (.long qc), .second, .val (.long qd), .second, .val (.int lev), .val (.int (3 : Int32)), .val (.long g0), .second, .val (.long s1), .second, .val (.long g2), .second, .val (.long s2), .second, .val (.ref b1), .unset, .unset, .unset, .unset, .unset] [(.int (own_irem (((p0.toUInt32 >>> ((3 : Int32) &&& 31).toUInt32).toInt32) &&& (7 : Int32)) lev))])) t) => pre1486 t (by
          refine XS.icmpNo X1463.here hx rfl (hb hby at_192) rfl (flt hc1487).1 ?_
          refine XS.iloadN X1463.here hx rfl (hb hby at_195) rfl ?_
          refine XS.iconst X1463.here hx rfl (hb hby at_196) ?_
          refine XS.iushr X1463.here hx rfl (hb hby at_197) rfl ?_
          refine XS.bipush X1463.here hx rfl (hb hby at_198) ?_
          refine XS.iand X1463.here hx rfl (hb hby at_200) rfl ?_
          refine XS.iload X1463.here hx rfl (hb hby at_201) rfl ?_
          refine XS.irem X1463.here hx rfl (hb hby at_203) rfl (own_nz1 hc1487) ?_
          exact k)
        obtain ⟨ou1603, h_ou1603⟩ : ∃ z : Int32, z = (own_irem (((p0.toUInt32 >>> ((3 : Int32) &&& 31).toUInt32).toInt32) &&& (7 : Int32)) lev) := ⟨_, rfl⟩
        have pre1604 := fun (t : State) (k : Steps p.tables e below (T1463.setTop (mkF m 204 #[.val (.int p0), .val (.long qa), .second, .val (.long qb), .second, .val (.long qc), .second, .val (.long qd), .second, .val (.int lev), .val (.int (3 : Int32)), .val (.long g0), .second, .val (.long s1), .second, .val (.long g2), .second, .val (.long s2), .second, .val (.ref b1), .unset, .unset, .unset, .unset, .unset] [(.int ou1603)])) t) => pre1602 t (by rw [← h_ou1603]; exact k)
        obtain ⟨on, hon, hlt⟩ := own_outer t59_0 hc1487 h_ou1603
        obtain ⟨cq1605, kq1605, q1605a, q1605b, q1605c⟩ := isOf hZ rfl E1465
        obtain ⟨_, _, ⟨T1605, L1605, k1605, n1605⟩, -, X1605, ⟨Lc1605, hQ1605, l1605, y1605, z1605⟩, st1605⟩ := X1463.virtualBack hx (y := (⟨"com/example/fieldglass/fieldglass/io/Marks", "endGroup", "(IJZ)V"⟩ : MethodName)) (z := (⟨"com/example/fieldglass/fieldglass/io/Marks", "endGroup", "(IJZ)V"⟩ : MethodName)) hown (mvT hZ (own_w hw 130 rfl)) (mvT hZ (own_w hw 131 rfl)) (notFace_of_selects (args := #[]) (mvT hZ (own_w hw 133 rfl))) (mvT hZ (own_w hw 133 rfl)) (mvT hZ (own_w hw 132 rfl)) (by decide) (backOf (W := 0) (rm_egN l Z a0 hw [] b1 x19 x55 x56 x57 x58 (own_up (own_up (fun _ => (0 : Int32)) ln (1 : Int32)) ln (0 : Int32)) (own_up (fun _ => (0 : Int64)) ln s2) (own_up (fun _ => (0 : Int32)) ln (1 : Int32)) (own_up x1346 ln (own_sz x1348)) x1345 (own_up (own_up x1438 ((ln + 1) + 1) s2) (ln + 1) g2) x1439 lev lev ou1603 on g0 on T1463.heap n0 Zs1485 E1465 F1466 F1467 F1468 F1469 F1470 F1471 F1472 F1473 F1474 G1475 G1476 G1477 G1478 E1480 F1481 F1482 F1483 F1484 G1479 ne52 ne108 ne114 ne120 ne126 ne1384 ne109 ne115 ne121 ne127 ne1385 hpq68 hpq69 hpq70 ne1386 hpq71 hpq72 ne1387 hpq73 ne1388 ne1389 hpq1351 hon (own_ou_lt t59_0 hon hlt) (own_po3 t59_1 hlt hpq1353) ge_b1) hZ (own_w hw 134 rfl) (own_w hw 3 rfl) (by decide) (by decide)) q1605a q1605c (g := (mkF m 213 #[.val (.int p0), .val (.long qa), .second, .val (.long qb), .second, .val (.long qc), .second, .val (.long qd), .second, .val (.int lev), .val (.int (3 : Int32)), .val (.long g0), .second, .val (.long s1), .second, .val (.long g2), .second, .val (.long s2), .second, .val (.ref b1), .val (.int ou1603), .unset, .unset, .unset, .unset] [(.int (0 : Int32)), (.long g0), (.int ou1603), (.ref b1)])) rfl (by rw [hml]; rfl) (Steps.refl _) (argsL := [(.int ou1603), (.long g0), (.int (0 : Int32))]) (rest := []) (lenOf pd_14 rfl) rfl (by show 2 * 0 + _ ≤ _; exact Nat.le_of_eq rfl) (hb hby at_213) (fun _ _ => ⟨rfl, rfl, (by decide : 7 + 0 ≤ _), (by decide : 97 + 0 ≤ _)⟩)
        dsimp only [Pt.U, Pt.locs, Pt.cells, Pt.slots] at X1605 l1605 y1605 z1605 st1605 hQ1605
        subst l1605 y1605 z1605
        obtain ⟨rfl, N1605q, hq1606, E1607, F1608, F1609, F1610, F1611, F1612, F1613, F1614, F1615, F1616, G1617, G1618, G1619, G1620, G1621⟩ := hQ1605
        have N1605 := Fr.app N1463 N1605q
        have E1622 := E1480.keep hq1606
        have F1623 := F1481.keep hq1606 (ninS (Ne.symm ne52) (ninS ne1385 nin0))
        have F1624 := F1482.keep hq1606 (ninS (Ne.symm ne52) (ninS ne1385 nin0))
        have F1625 := F1483.keep hq1606 (ninS (Ne.symm ne52) (ninS ne1385 nin0))
        have F1626 := F1484.keep hq1606 (ninS (Ne.symm ne52) (ninS ne1385 nin0))
        have K1605 : Keep h0 T1605.heap [] := K1463.trans hq1606 (allS (Or.inr sz_b1) (allS (Or.inr sz1390) all0))
        have Zs1627 : n0 ≤ T1605.heap.size := (Nat.le_trans Zs1485 hq1606.1)
        have pre1628 := fun (t : State) (k : Steps p.tables e below (T1605.setTop (mkF m 216 #[.val (.int p0), .val (.long qa), .second, .val (.long qb), .second, .val (.long qc), .second, .val (.long qd), .second, .val (.int lev), .val (.int (3 : Int32)), .val (.long g0), .second, .val (.long s1), .second, .val (.long g2), .second, .val (.long s2), .second, .val (.ref b1), .val (.int ou1603), .unset, .unset, .unset, .unset] [])) t) => pre1604 t (by
          refine XS.istore X1463.here hx rfl (hb hby at_204) rfl (l' := #[.val (.int p0), .val (.long qa), .second, .val (.long qb), .second, .val (.long qc), .second, .val (.long qd), .second, .val (.int lev), .val (.int (3 : Int32)), .val (.long g0), .second, .val (.long s1), .second, .val (.long g2), .second, .val (.long s2), .second, .val (.ref b1), .val (.int ou1603), .unset, .unset, .unset, .unset]) rfl ?_
          refine XS.aload X1463.here hx rfl (hb hby at_206) rfl rfl ?_
          refine XS.iload X1463.here hx rfl (hb hby at_208) rfl ?_
          refine XS.lload X1463.here hx rfl (hb hby at_210) rfl ?_
          refine XS.iconst X1463.here hx rfl (hb hby at_212) ?_
          refine st1605.trans ?_
          exact k)
        obtain ⟨Fn, hFn⟩ : ∃ z : Nat → Int64, z = (own_up (own_up (own_up x1438 ((ln + 1) + 1) s2) (ln + 1) g2) on g0) := ⟨_, rfl⟩
        have VF : own_Fa Value.long .long Z T1605.heap x1345 16 Fn := by rw [hFn]; exact G1621
        have hW : own_W Fn ((ln + 1) + 2) true on true ln (ln + 1) g0 s1 g2 s2 := by rw [hFn]; exact (own_W_add (own_W1 (own_base3 hpq1353) (by omega) hpq1441) (by omega) (fun q => by first | omega | cases q))
        have hSW := own_W_S hW t59_3
        have hCZ : own_cz x1439 ((ln + 1) + 2) := (own_cz1 hpq1441 (by have := t59_1; omega))
        obtain ⟨cq1629, kq1629, q1629a, q1629b, q1629c⟩ := isOf hZ rfl E1607
        obtain ⟨_, _, ⟨T1629, L1629, k1629, n1629⟩, -, X1629, ⟨Lc1629, hQ1629, l1629, y1629, z1629⟩, st1629⟩ := X1605.virtualBack hx (y := (⟨"com/example/fieldglass/fieldglass/io/Marks", "readBack", "()V"⟩ : MethodName)) (z := (⟨"com/example/fieldglass/fieldglass/io/Marks", "readBack", "()V"⟩ : MethodName)) hown (mvT hZ (own_w hw 135 rfl)) (mvT hZ (own_w hw 136 rfl)) (notFace_of_selects (args := #[]) (mvT hZ (own_w hw 138 rfl))) (mvT hZ (own_w hw 138 rfl)) (mvT hZ (own_w hw 137 rfl)) (by decide) (backOf (W := 0) (rm_rbk l Z a0 hw [] b1 x19 x1345 Fn x1439 ((ln + 1) + 2) (9223372036854775807 : Int64) T1605.heap n0 Zs1627 E1607 F1615 F1616 E1622 F1623 F1624 F1625 F1626 VF F1614 ne52 ne1384 ne1385 ge_b1 hpq21 hCZ hSW) hZ (own_w hw 139 rfl) (own_w hw 3 rfl) (by decide) (by decide)) q1629a q1629c (g := (mkF m 218 #[.val (.int p0), .val (.long qa), .second, .val (.long qb), .second, .val (.long qc), .second, .val (.long qd), .second, .val (.int lev), .val (.int (3 : Int32)), .val (.long g0), .second, .val (.long s1), .second, .val (.long g2), .second, .val (.long s2), .second, .val (.ref b1), .val (.int ou1603), .unset, .unset, .unset, .unset] [(.ref b1)])) rfl (by rw [hml]; rfl) (Steps.refl _) (argsL := []) (rest := []) (lenOf pd_1 rfl) rfl (by show 2 * 0 + _ ≤ _; exact Nat.le_of_eq rfl) (hb hby at_218) (fun _ _ => ⟨rfl, rfl, (by decide : 7 + 0 ≤ _), (by decide : 97 + 0 ≤ _)⟩)
        dsimp only [Pt.U, Pt.locs, Pt.cells, Pt.slots] at X1629 l1629 y1629 z1629 st1629 hQ1629
        subst l1629 y1629 z1629
        obtain ⟨x1630, x1631, x1632, rfl, N1629q, hq1633, hpq1634, hpq1635, F1636, F1637, F1638, F1639, F1640, F1641⟩ := hQ1629
        have N1629 := Fr.app N1605 N1629q
        have E1642 := E1622.keep hq1633
        have E1643 := E1607.keep hq1633
        have G1644 := VF.keep hq1633 (ninS (Ne.symm ne1384) (ninS (Ne.symm ne1385) nin0))
        have K1629 : Keep h0 T1629.heap [] := K1605.trans hq1633 (allS (Or.inr sz_b1) (allS (Or.inr sz53) all0))
        have Zs1645 : n0 ≤ T1629.heap.size := (Nat.le_trans Zs1627 hq1633.1)
        obtain ⟨cq1646, kq1646, q1646a, q1646b, q1646c⟩ := isOf hZ rfl E1643
        obtain ⟨_, _, ⟨T1646, L1646, k1646, n1646⟩, -, X1646, ⟨Lc1646, hQ1646, l1646, y1646, z1646⟩, st1646⟩ := X1629.virtualBack hx (y := (⟨"com/example/fieldglass/fieldglass/io/Marks", "isMarked", "(J)Z"⟩ : MethodName)) (z := (⟨"com/example/fieldglass/fieldglass/io/Marks", "isMarked", "(J)Z"⟩ : MethodName)) hown (mvT hZ (own_w hw 158 rfl)) (mvT hZ (own_w hw 159 rfl)) (notFace_of_selects (args := #[]) (mvT hZ (own_w hw 161 rfl))) (mvT hZ (own_w hw 161 rfl)) (mvT hZ (own_w hw 160 rfl)) (by decide) (backOf (W := 0) (rm_ism l Z a0 hw [] b1 x19 x1345 Fn x1439 ((ln + 1) + 2) x1630 x1631 x1632 g0 (0 : Int64) T1629.heap n0 Zs1645 E1643 F1636 F1637 E1642 F1638 F1639 F1640 F1641 G1644 ne52 ne1384 ne1385 ge_b1 hpq21 hCZ hSW hpq1634 hpq1635 (own_v4_q0 t59_3) (own_v4_s0 t59_3)) hZ (own_w hw 162 rfl) (own_w hw 3 rfl) (by decide) (by decide)) q1646a q1646c (g := (mkF m 225 #[.val (.int p0), .val (.long qa), .second, .val (.long qb), .second, .val (.long qc), .second, .val (.long qd), .second, .val (.int lev), .val (.int (3 : Int32)), .val (.long g0), .second, .val (.long s1), .second, .val (.long g2), .second, .val (.long s2), .second, .val (.ref b1), .val (.int ou1603), .unset, .unset, .unset, .unset] [(.long g0), (.ref b1)])) rfl (by rw [hml]; rfl) (Steps.refl _) (argsL := [(.long g0)]) (rest := []) (lenOf pd_11 rfl) rfl (by show 2 * 0 + _ ≤ _; exact Nat.le_of_eq rfl) (hb hby at_225) (fun _ _ => ⟨rfl, rfl, (by decide : 7 + 0 ≤ _), (by decide : 97 + 0 ≤ _)⟩)
        dsimp only [Pt.U, Pt.locs, Pt.cells, Pt.slots] at X1646 l1646 y1646 z1646 st1646 hQ1646
        subst l1646 y1646 z1646
        obtain ⟨x1647, x1648, x1649, x1650, rfl, N1646q, hq1651, hpq1652, hpq1653, hpq1654, F1655, F1656, F1657, F1658, F1659, F1660⟩ := hQ1646
        have N1646 := Fr.app N1629 N1646q
        have E1661 := E1642.keep hq1651
        have E1662 := E1643.keep hq1651
        have G1663 := G1644.keep hq1651 (ninS (Ne.symm ne1384) (ninS (Ne.symm ne1385) nin0))
        have K1646 : Keep h0 T1646.heap [] := K1629.trans hq1651 (allS (Or.inr sz_b1) (allS (Or.inr sz53) all0))
        have Zs1664 : n0 ≤ T1646.heap.size := (Nat.le_trans Zs1645 hq1651.1)
        obtain ⟨cq1665, kq1665, q1665a, q1665b, q1665c⟩ := isOf hZ rfl E1662
        obtain ⟨_, _, ⟨T1665, L1665, k1665, n1665⟩, -, X1665, ⟨Lc1665, hQ1665, l1665, y1665, z1665⟩, st1665⟩ := X1646.virtualBack hx (y := (⟨"com/example/fieldglass/fieldglass/io/Marks", "isMarked", "(J)Z"⟩ : MethodName)) (z := (⟨"com/example/fieldglass/fieldglass/io/Marks", "isMarked", "(J)Z"⟩ : MethodName)) hown (mvT hZ (own_w hw 158 rfl)) (mvT hZ (own_w hw 159 rfl)) (notFace_of_selects (args := #[]) (mvT hZ (own_w hw 161 rfl))) (mvT hZ (own_w hw 161 rfl)) (mvT hZ (own_w hw 160 rfl)) (by decide) (backOf (W := 0) (rm_ism l Z a0 hw [] b1 x19 x1345 Fn x1439 ((ln + 1) + 2) x1647 x1648 x1649 s1 g0 T1646.heap n0 Zs1664 E1662 F1655 F1656 E1661 F1657 F1658 F1659 F1660 G1663 ne52 ne1384 ne1385 ge_b1 hpq21 hCZ hSW hpq1652 hpq1653 (own_v4_q1 t59_3) (own_v4_s1 t59_3)) hZ (own_w hw 162 rfl) (own_w hw 3 rfl) (by decide) (by decide)) q1665a q1665c (g := (mkF m 234 #[.val (.int p0), .val (.long qa), .second, .val (.long qb), .second, .val (.long qc), .second, .val (.long qd), .second, .val (.int lev), .val (.int (3 : Int32)), .val (.long g0), .second, .val (.long s1), .second, .val (.long g2), .second, .val (.long s2), .second, .val (.ref b1), .val (.int x1650), .unset, .unset, .unset, .unset] [(.long s1), (.ref b1)])) rfl (by rw [hml]; rfl) (Steps.refl _) (argsL := [(.long s1)]) (rest := []) (lenOf pd_11 rfl) rfl (by show 2 * 0 + _ ≤ _; exact Nat.le_of_eq rfl) (hb hby at_234) (fun _ _ => ⟨rfl, rfl, (by decide : 7 + 0 ≤ _), (by decide : 97 + 0 ≤ _)⟩)
        dsimp only [Pt.U, Pt.locs, Pt.cells, Pt.slots] at X1665 l1665 y1665 z1665 st1665 hQ1665
        subst l1665 y1665 z1665
        obtain ⟨x1666, x1667, x1668, x1669, rfl, N1665q, hq1670, hpq1671, hpq1672, hpq1673, F1674, F1675, F1676, F1677, F1678, F1679⟩ := hQ1665
        have N1665 := Fr.app N1646 N1665q
        have E1680 := E1661.keep hq1670
        have E1681 := E1662.keep hq1670
        have G1682 := G1663.keep hq1670 (ninS (Ne.symm ne1384) (ninS (Ne.symm ne1385) nin0))
        have K1665 : Keep h0 T1665.heap [] := K1646.trans hq1670 (allS (Or.inr sz_b1) (allS (Or.inr sz53) all0))
        have Zs1683 : n0 ≤ T1665.heap.size := (Nat.le_trans Zs1664 hq1670.1)
        obtain ⟨cq1684, kq1684, q1684a, q1684b, q1684c⟩ := isOf hZ rfl E1681
        obtain ⟨_, _, ⟨T1684, L1684, k1684, n1684⟩, -, X1684, ⟨Lc1684, hQ1684, l1684, y1684, z1684⟩, st1684⟩ := X1665.virtualBack hx (y := (⟨"com/example/fieldglass/fieldglass/io/Marks", "isMarked", "(J)Z"⟩ : MethodName)) (z := (⟨"com/example/fieldglass/fieldglass/io/Marks", "isMarked", "(J)Z"⟩ : MethodName)) hown (mvT hZ (own_w hw 158 rfl)) (mvT hZ (own_w hw 159 rfl)) (notFace_of_selects (args := #[]) (mvT hZ (own_w hw 161 rfl))) (mvT hZ (own_w hw 161 rfl)) (mvT hZ (own_w hw 160 rfl)) (by decide) (backOf (W := 0) (rm_ism l Z a0 hw [] b1 x19 x1345 Fn x1439 ((ln + 1) + 2) x1666 x1667 x1668 g2 s1 T1665.heap n0 Zs1683 E1681 F1674 F1675 E1680 F1676 F1677 F1678 F1679 G1682 ne52 ne1384 ne1385 ge_b1 hpq21 hCZ hSW hpq1671 hpq1672 (own_v4_q2 t59_3) (own_v4_s2 t59_3)) hZ (own_w hw 162 rfl) (own_w hw 3 rfl) (by decide) (by decide)) q1684a q1684c (g := (mkF m 243 #[.val (.int p0), .val (.long qa), .second, .val (.long qb), .second, .val (.long qc), .second, .val (.long qd), .second, .val (.int lev), .val (.int (3 : Int32)), .val (.long g0), .second, .val (.long s1), .second, .val (.long g2), .second, .val (.long s2), .second, .val (.ref b1), .val (.int x1650), .val (.int x1669), .unset, .unset, .unset] [(.long g2), (.ref b1)])) rfl (by rw [hml]; rfl) (Steps.refl _) (argsL := [(.long g2)]) (rest := []) (lenOf pd_11 rfl) rfl (by show 2 * 0 + _ ≤ _; exact Nat.le_of_eq rfl) (hb hby at_243) (fun _ _ => ⟨rfl, rfl, (by decide : 7 + 0 ≤ _), (by decide : 97 + 0 ≤ _)⟩)
        dsimp only [Pt.U, Pt.locs, Pt.cells, Pt.slots] at X1684 l1684 y1684 z1684 st1684 hQ1684
        subst l1684 y1684 z1684
        obtain ⟨x1685, x1686, x1687, x1688, rfl, N1684q, hq1689, hpq1690, hpq1691, hpq1692, F1693, F1694, F1695, F1696, F1697, F1698⟩ := hQ1684
        have N1684 := Fr.app N1665 N1684q
        have E1699 := E1680.keep hq1689
        have E1700 := E1681.keep hq1689
        have G1701 := G1682.keep hq1689 (ninS (Ne.symm ne1384) (ninS (Ne.symm ne1385) nin0))
        have K1684 : Keep h0 T1684.heap [] := K1665.trans hq1689 (allS (Or.inr sz_b1) (allS (Or.inr sz53) all0))
        have Zs1702 : n0 ≤ T1684.heap.size := (Nat.le_trans Zs1683 hq1689.1)
        obtain ⟨cq1703, kq1703, q1703a, q1703b, q1703c⟩ := isOf hZ rfl E1700
        obtain ⟨_, _, ⟨T1703, L1703, k1703, n1703⟩, -, X1703, ⟨Lc1703, hQ1703, l1703, y1703, z1703⟩, st1703⟩ := X1684.virtualBack hx (y := (⟨"com/example/fieldglass/fieldglass/io/Marks", "isMarked", "(J)Z"⟩ : MethodName)) (z := (⟨"com/example/fieldglass/fieldglass/io/Marks", "isMarked", "(J)Z"⟩ : MethodName)) hown (mvT hZ (own_w hw 158 rfl)) (mvT hZ (own_w hw 159 rfl)) (notFace_of_selects (args := #[]) (mvT hZ (own_w hw 161 rfl))) (mvT hZ (own_w hw 161 rfl)) (mvT hZ (own_w hw 160 rfl)) (by decide) (backOf (W := 0) (rm_ism l Z a0 hw [] b1 x19 x1345 Fn x1439 ((ln + 1) + 2) x1685 x1686 x1687 s2 g2 T1684.heap n0 Zs1702 E1700 F1693 F1694 E1699 F1695 F1696 F1697 F1698 G1701 ne52 ne1384 ne1385 ge_b1 hpq21 hCZ hSW hpq1690 hpq1691 (own_v4_q3 t59_3) (own_v4_s3 t59_3)) hZ (own_w hw 162 rfl) (own_w hw 3 rfl) (by decide) (by decide)) q1703a q1703c (g := (mkF m 252 #[.val (.int p0), .val (.long qa), .second, .val (.long qb), .second, .val (.long qc), .second, .val (.long qd), .second, .val (.int lev), .val (.int (3 : Int32)), .val (.long g0), .second, .val (.long s1), .second, .val (.long g2), .second, .val (.long s2), .second, .val (.ref b1), .val (.int x1650), .val (.int x1669), .val (.int x1688), .unset, .unset] [(.long s2), (.ref b1)])) rfl (by rw [hml]; rfl) (Steps.refl _) (argsL := [(.long s2)]) (rest := []) (lenOf pd_11 rfl) rfl (by show 2 * 0 + _ ≤ _; exact Nat.le_of_eq rfl) (hb hby at_252) (fun _ _ => ⟨rfl, rfl, (by decide : 7 + 0 ≤ _), (by decide : 97 + 0 ≤ _)⟩)
        dsimp only [Pt.U, Pt.locs, Pt.cells, Pt.slots] at X1703 l1703 y1703 z1703 st1703 hQ1703
        subst l1703 y1703 z1703
        obtain ⟨x1704, x1705, x1706, x1707, rfl, N1703q, hq1708, hpq1709, hpq1710, hpq1711, F1712, F1713, F1714, F1715, F1716, F1717⟩ := hQ1703
        have N1703 := Fr.app N1684 N1703q
        have E1718 := E1699.keep hq1708
        have E1719 := E1700.keep hq1708
        have G1720 := G1701.keep hq1708 (ninS (Ne.symm ne1384) (ninS (Ne.symm ne1385) nin0))
        have K1703 : Keep h0 T1703.heap [] := K1684.trans hq1708 (allS (Or.inr sz_b1) (allS (Or.inr sz53) all0))
        have Zs1721 : n0 ≤ T1703.heap.size := (Nat.le_trans Zs1702 hq1708.1)
        obtain ⟨cq1722, kq1722, q1722a, q1722b, q1722c⟩ := isOf hZ rfl E1719
        obtain ⟨_, _, ⟨T1722, L1722, k1722, n1722⟩, -, X1722, ⟨Lc1722, hQ1722, l1722, y1722, z1722⟩, st1722⟩ := X1703.virtualBack hx (y := (⟨"com/example/fieldglass/fieldglass/io/Marks", "isMarked", "(J)Z"⟩ : MethodName)) (z := (⟨"com/example/fieldglass/fieldglass/io/Marks", "isMarked", "(J)Z"⟩ : MethodName)) hown (mvT hZ (own_w hw 158 rfl)) (mvT hZ (own_w hw 159 rfl)) (notFace_of_selects (args := #[]) (mvT hZ (own_w hw 161 rfl))) (mvT hZ (own_w hw 161 rfl)) (mvT hZ (own_w hw 160 rfl)) (by decide) (backOf (W := 0) (rm_ism l Z a0 hw [] b1 x19 x1345 Fn x1439 ((ln + 1) + 2) x1704 x1705 x1706 (s2 + (1 : Int64)) s2 T1703.heap n0 Zs1721 E1719 F1712 F1713 E1718 F1714 F1715 F1716 F1717 G1720 ne52 ne1384 ne1385 ge_b1 hpq21 hCZ hSW hpq1709 hpq1710 (own_v4_q4 t59_3) (own_v4_s4 t59_3)) hZ (own_w hw 162 rfl) (own_w hw 3 rfl) (by decide) (by decide)) q1722a q1722c (g := (mkF m 263 #[.val (.int p0), .val (.long qa), .second, .val (.long qb), .second, .val (.long qc), .second, .val (.long qd), .second, .val (.int lev), .val (.int (3 : Int32)), .val (.long g0), .second, .val (.long s1), .second, .val (.long g2), .second, .val (.long s2), .second, .val (.ref b1), .val (.int x1650), .val (.int x1669), .val (.int x1688), .val (.int x1707), .unset] [(.long (s2 + (1 : Int64))), (.ref b1)])) rfl (by rw [hml]; rfl) (Steps.refl _) (argsL := [(.long (s2 + (1 : Int64)))]) (rest := []) (lenOf pd_11 rfl) rfl (by show 2 * 0 + _ ≤ _; exact Nat.le_of_eq rfl) (hb hby at_263) (fun _ _ => ⟨rfl, rfl, (by decide : 7 + 0 ≤ _), (by decide : 97 + 0 ≤ _)⟩)
        dsimp only [Pt.U, Pt.locs, Pt.cells, Pt.slots] at X1722 l1722 y1722 z1722 st1722 hQ1722
        subst l1722 y1722 z1722
        obtain ⟨x1723, x1724, x1725, x1726, rfl, N1722q, hq1727, hpq1728, hpq1729, hpq1730, F1731, F1732, F1733, F1734, F1735, F1736⟩ := hQ1722
        have N1722 := Fr.app N1703 N1722q
        have E1737 := E1718.keep hq1727
        have E1738 := E1719.keep hq1727
        have G1739 := G1720.keep hq1727 (ninS (Ne.symm ne1384) (ninS (Ne.symm ne1385) nin0))
        have K1722 : Keep h0 T1722.heap [] := K1703.trans hq1727 (allS (Or.inr sz_b1) (allS (Or.inr sz53) all0))
        have Zs1740 : n0 ≤ T1722.heap.size := (Nat.le_trans Zs1721 hq1727.1)
        have pre1741 := fun (t : State) (k : Steps p.tables e below (T1722.setTop (mkF m 319 #[.val (.int p0), .val (.long qa), .second, .val (.long qb), .second, .val (.long qc), .second, .val (.long qd), .second, .val (.int lev), .val (.int (3 : Int32)), .val (.long g0), .second, .val (.long s1), .second, .val (.long g2), .second, .val (.long s2), .second, .val (.ref b1), .val (.int x1650), .val (.int x1669), .val (.int x1688), .val (.int x1707), .val (.int x1726)] [(.int (1 : Int32))])) t) => pre1628 t (by
          refine XS.aload X1605.here hx rfl (hb hby at_216) rfl rfl ?_
          refine st1629.trans ?_
          refine XS.aload X1629.here hx rfl (hb hby at_221) rfl rfl ?_
          refine XS.lload X1629.here hx rfl (hb hby at_223) rfl ?_
          refine st1646.trans ?_
          refine XS.istore X1646.here hx rfl (hb hby at_228) rfl (l' := #[.val (.int p0), .val (.long qa), .second, .val (.long qb), .second, .val (.long qc), .second, .val (.long qd), .second, .val (.int lev), .val (.int (3 : Int32)), .val (.long g0), .second, .val (.long s1), .second, .val (.long g2), .second, .val (.long s2), .second, .val (.ref b1), .val (.int x1650), .unset, .unset, .unset, .unset]) rfl ?_
          refine XS.aload X1646.here hx rfl (hb hby at_230) rfl rfl ?_
          refine XS.lload X1646.here hx rfl (hb hby at_232) rfl ?_
          refine st1665.trans ?_
          refine XS.istore X1665.here hx rfl (hb hby at_237) rfl (l' := #[.val (.int p0), .val (.long qa), .second, .val (.long qb), .second, .val (.long qc), .second, .val (.long qd), .second, .val (.int lev), .val (.int (3 : Int32)), .val (.long g0), .second, .val (.long s1), .second, .val (.long g2), .second, .val (.long s2), .second, .val (.ref b1), .val (.int x1650), .val (.int x1669), .unset, .unset, .unset]) rfl ?_
          refine XS.aload X1665.here hx rfl (hb hby at_239) rfl rfl ?_
          refine XS.lload X1665.here hx rfl (hb hby at_241) rfl ?_
          refine st1684.trans ?_
          refine XS.istore X1684.here hx rfl (hb hby at_246) rfl (l' := #[.val (.int p0), .val (.long qa), .second, .val (.long qb), .second, .val (.long qc), .second, .val (.long qd), .second, .val (.int lev), .val (.int (3 : Int32)), .val (.long g0), .second, .val (.long s1), .second, .val (.long g2), .second, .val (.long s2), .second, .val (.ref b1), .val (.int x1650), .val (.int x1669), .val (.int x1688), .unset, .unset]) rfl ?_
          refine XS.aload X1684.here hx rfl (hb hby at_248) rfl rfl ?_
          refine XS.lload X1684.here hx rfl (hb hby at_250) rfl ?_
          refine st1703.trans ?_
          refine XS.istore X1703.here hx rfl (hb hby at_255) rfl (l' := #[.val (.int p0), .val (.long qa), .second, .val (.long qb), .second, .val (.long qc), .second, .val (.long qd), .second, .val (.int lev), .val (.int (3 : Int32)), .val (.long g0), .second, .val (.long s1), .second, .val (.long g2), .second, .val (.long s2), .second, .val (.ref b1), .val (.int x1650), .val (.int x1669), .val (.int x1688), .val (.int x1707), .unset]) rfl ?_
          refine XS.aload X1703.here hx rfl (hb hby at_257) rfl rfl ?_
          refine XS.lload X1703.here hx rfl (hb hby at_259) rfl ?_
          refine XS.lconst X1703.here hx rfl (hb hby at_261) ?_
          refine XS.ladd X1703.here hx rfl (hb hby at_262) rfl ?_
          refine st1722.trans ?_
          refine XS.istore X1722.here hx rfl (hb hby at_266) rfl (l' := #[.val (.int p0), .val (.long qa), .second, .val (.long qb), .second, .val (.long qc), .second, .val (.long qd), .second, .val (.int lev), .val (.int (3 : Int32)), .val (.long g0), .second, .val (.long s1), .second, .val (.long g2), .second, .val (.long s2), .second, .val (.ref b1), .val (.int x1650), .val (.int x1669), .val (.int x1688), .val (.int x1707), .val (.int x1726)]) rfl ?_
          refine XS.iload X1722.here hx rfl (hb hby at_268) rfl ?_
          refine XS.iload X1722.here hx rfl (hb hby at_270) rfl ?_
          refine XS.iconst X1722.here hx rfl (hb hby at_272) ?_
          refine XS.icmpNo X1722.here hx rfl (hb hby at_273) rfl (flt hc1487).1 ?_
          refine XS.iconst X1722.here hx rfl (hb hby at_276) ?_
          refine XS.goto X1722.here hx rfl (pc0 := 277) (pc' := 281) rfl (hb hby at_277) (by decide) (by decide) ?_
          refine XS.icmpNo X1722.here hx rfl (hb hby at_281) rfl (teq (own_yes hpq1654 (own_W_y0 hW t59_3))).2 ?_
          refine XS.iload X1722.here hx rfl (hb hby at_284) rfl ?_
          refine XS.iload X1722.here hx rfl (hb hby at_286) rfl ?_
          refine XS.ifNo X1722.here hx rfl (hb hby at_288) rfl ((if0 _ _).trans (feq (by decide : ¬ ((3 : Int32) = (0 : Int32)))).1) ?_
          refine XS.iconst X1722.here hx rfl (hb hby at_291) ?_
          refine XS.goto X1722.here hx rfl (pc0 := 292) (pc' := 296) rfl (hb hby at_292) (by decide) (by decide) ?_
          refine XS.icmpNo X1722.here hx rfl (hb hby at_296) rfl (teq (own_yes hpq1673 (own_W_y1 hW t59_3))).2 ?_
          refine XS.iload X1722.here hx rfl (hb hby at_299) rfl ?_
          refine XS.ifNo X1722.here hx rfl (hb hby at_301) rfl ((if0 _ _).trans (feq (own_ne0 (own_yes hpq1692 (own_W_y2 hW t59_3)))).1) ?_
          refine XS.iload X1722.here hx rfl (hb hby at_304) rfl ?_
          refine XS.ifNo X1722.here hx rfl (hb hby at_306) rfl ((if0 _ _).trans (feq (own_ne0 (own_yes hpq1711 (own_W_y3 hW t59_3)))).1) ?_
          refine XS.iload X1722.here hx rfl (hb hby at_309) rfl ?_
          refine XS.ifNo X1722.here hx rfl (hb hby at_311) rfl ((if0 _ _).trans (teq (own_no hpq1730 (own_W_n4 hW t59_3))).2) ?_
          refine XS.iconst X1722.here hx rfl (hb hby at_314) ?_
          refine XS.goto X1722.here hx rfl (pc0 := 315) (pc' := 319) rfl (hb hby at_315) (by decide) (by decide) ?_
          exact k)
        obtain ⟨fs, hr, hrun, hended, hW, hsame⟩ := X1722.leave (v := some (.int (1 : Int32))) (hlocks := BodyLoose.notSynchronized Bd) (fun h => by rw [Bd.returns] at h; cases h)
        refine ⟨_, _, pre1741 _ ?_, hrun, hended, _, _, rfl, ?_, ⟨_, rfl⟩, hW, hsame.mono (by decide) (by decide)⟩
        · exact retN X1722 hx (t := .boolean) Bd.returns (by simp) (hb hby at_319) hr
        · show Q_law Z p0 qa qb qc qd ab al an kb kl ki h0 n0 _ T1722.heap _
          exact ⟨rfl, N1722, K1722⟩
  obtain ⟨ln_, hln1, hln2⟩ := own_lev p0
  have pre1742 := fun (t : State) (k : Steps p.tables e below (s₁.setTop (mkF m 59 #[.val (.int p0), .val (.long qa), .second, .val (.long qb), .second, .val (.long qc), .second, .val (.long qd), .second, .val (.int (p0 &&& (7 : Int32))), .val (.int (((p0.toUInt32 >>> ((6 : Int32) &&& 31).toUInt32).toInt32) &&& (3 : Int32))), .val (.long (qa &&& (1152921504606846975 : Int64))), .second, .val (.long (((qa &&& (1152921504606846975 : Int64)) + (1 : Int64)) + (qb &&& (1152921504606846975 : Int64)))), .second, .val (.long (((((qa &&& (1152921504606846975 : Int64)) + (1 : Int64)) + (qb &&& (1152921504606846975 : Int64))) + (1 : Int64)) + (qc &&& (1152921504606846975 : Int64)))), .second, .val (.long (((((((qa &&& (1152921504606846975 : Int64)) + (1 : Int64)) + (qb &&& (1152921504606846975 : Int64))) + (1 : Int64)) + (qc &&& (1152921504606846975 : Int64))) + (1 : Int64)) + (qd &&& (1152921504606846975 : Int64)))), .second, .unset, .unset, .unset, .unset, .unset, .unset] [])) t) => pre0 t (by
    refine XS.iloadN X0.here hx rfl (hb hby at_0) rfl ?_
    refine XS.bipush X0.here hx rfl (hb hby at_1) ?_
    refine XS.iand X0.here hx rfl (hb hby at_3) rfl ?_
    refine XS.istore X0.here hx rfl (hb hby at_4) rfl (l' := #[.val (.int p0), .val (.long qa), .second, .val (.long qb), .second, .val (.long qc), .second, .val (.long qd), .second, .val (.int (p0 &&& (7 : Int32))), .unset, .unset, .unset, .unset, .unset, .unset, .unset, .unset, .unset, .unset, .unset, .unset, .unset, .unset, .unset]) rfl ?_
    refine XS.iloadN X0.here hx rfl (hb hby at_6) rfl ?_
    refine XS.bipush X0.here hx rfl (hb hby at_7) ?_
    refine XS.iushr X0.here hx rfl (hb hby at_9) rfl ?_
    refine XS.iconst X0.here hx rfl (hb hby at_10) ?_
    refine XS.iand X0.here hx rfl (hb hby at_11) rfl ?_
    refine XS.istore X0.here hx rfl (hb hby at_12) rfl (l' := #[.val (.int p0), .val (.long qa), .second, .val (.long qb), .second, .val (.long qc), .second, .val (.long qd), .second, .val (.int (p0 &&& (7 : Int32))), .val (.int (((p0.toUInt32 >>> ((6 : Int32) &&& 31).toUInt32).toInt32) &&& (3 : Int32))), .unset, .unset, .unset, .unset, .unset, .unset, .unset, .unset, .unset, .unset, .unset, .unset, .unset, .unset]) rfl ?_
    refine XS.lloadN X0.here hx rfl (hb hby at_14) rfl ?_
    refine X0.ldc2Long hx hown (mvT hZ (own_w hw 0 rfl)) (g := (mkF m 15 #[.val (.int p0), .val (.long qa), .second, .val (.long qb), .second, .val (.long qc), .second, .val (.long qd), .second, .val (.int (p0 &&& (7 : Int32))), .val (.int (((p0.toUInt32 >>> ((6 : Int32) &&& 31).toUInt32).toInt32) &&& (3 : Int32))), .unset, .unset, .unset, .unset, .unset, .unset, .unset, .unset, .unset, .unset, .unset, .unset, .unset, .unset] [(.long qa)])) rfl (hb hby at_15) _ ?_
    refine XS.land X0.here hx rfl (hb hby at_18) rfl ?_
    refine XS.lstore X0.here hx rfl (hb hby at_19) rfl (l' := #[.val (.int p0), .val (.long qa), .second, .val (.long qb), .second, .val (.long qc), .second, .val (.long qd), .second, .val (.int (p0 &&& (7 : Int32))), .val (.int (((p0.toUInt32 >>> ((6 : Int32) &&& 31).toUInt32).toInt32) &&& (3 : Int32))), .val (.long (qa &&& (1152921504606846975 : Int64))), .second, .unset, .unset, .unset, .unset, .unset, .unset, .unset, .unset, .unset, .unset, .unset, .unset]) rfl ?_
    refine XS.lload X0.here hx rfl (hb hby at_21) rfl ?_
    refine XS.lconst X0.here hx rfl (hb hby at_23) ?_
    refine XS.ladd X0.here hx rfl (hb hby at_24) rfl ?_
    refine XS.lloadN X0.here hx rfl (hb hby at_25) rfl ?_
    refine X0.ldc2Long hx hown (mvT hZ (own_w hw 0 rfl)) (g := (mkF m 26 #[.val (.int p0), .val (.long qa), .second, .val (.long qb), .second, .val (.long qc), .second, .val (.long qd), .second, .val (.int (p0 &&& (7 : Int32))), .val (.int (((p0.toUInt32 >>> ((6 : Int32) &&& 31).toUInt32).toInt32) &&& (3 : Int32))), .val (.long (qa &&& (1152921504606846975 : Int64))), .second, .unset, .unset, .unset, .unset, .unset, .unset, .unset, .unset, .unset, .unset, .unset, .unset] [(.long qb), (.long ((qa &&& (1152921504606846975 : Int64)) + (1 : Int64)))])) rfl (hb hby at_26) _ ?_
    refine XS.land X0.here hx rfl (hb hby at_29) rfl ?_
    refine XS.ladd X0.here hx rfl (hb hby at_30) rfl ?_
    refine XS.lstore X0.here hx rfl (hb hby at_31) rfl (l' := #[.val (.int p0), .val (.long qa), .second, .val (.long qb), .second, .val (.long qc), .second, .val (.long qd), .second, .val (.int (p0 &&& (7 : Int32))), .val (.int (((p0.toUInt32 >>> ((6 : Int32) &&& 31).toUInt32).toInt32) &&& (3 : Int32))), .val (.long (qa &&& (1152921504606846975 : Int64))), .second, .val (.long (((qa &&& (1152921504606846975 : Int64)) + (1 : Int64)) + (qb &&& (1152921504606846975 : Int64)))), .second, .unset, .unset, .unset, .unset, .unset, .unset, .unset, .unset, .unset, .unset]) rfl ?_
    refine XS.lload X0.here hx rfl (hb hby at_33) rfl ?_
    refine XS.lconst X0.here hx rfl (hb hby at_35) ?_
    refine XS.ladd X0.here hx rfl (hb hby at_36) rfl ?_
    refine XS.lload X0.here hx rfl (hb hby at_37) rfl ?_
    refine X0.ldc2Long hx hown (mvT hZ (own_w hw 0 rfl)) (g := (mkF m 39 #[.val (.int p0), .val (.long qa), .second, .val (.long qb), .second, .val (.long qc), .second, .val (.long qd), .second, .val (.int (p0 &&& (7 : Int32))), .val (.int (((p0.toUInt32 >>> ((6 : Int32) &&& 31).toUInt32).toInt32) &&& (3 : Int32))), .val (.long (qa &&& (1152921504606846975 : Int64))), .second, .val (.long (((qa &&& (1152921504606846975 : Int64)) + (1 : Int64)) + (qb &&& (1152921504606846975 : Int64)))), .second, .unset, .unset, .unset, .unset, .unset, .unset, .unset, .unset, .unset, .unset] [(.long qc), (.long ((((qa &&& (1152921504606846975 : Int64)) + (1 : Int64)) + (qb &&& (1152921504606846975 : Int64))) + (1 : Int64)))])) rfl (hb hby at_39) _ ?_
    refine XS.land X0.here hx rfl (hb hby at_42) rfl ?_
    refine XS.ladd X0.here hx rfl (hb hby at_43) rfl ?_
    refine XS.lstore X0.here hx rfl (hb hby at_44) rfl (l' := #[.val (.int p0), .val (.long qa), .second, .val (.long qb), .second, .val (.long qc), .second, .val (.long qd), .second, .val (.int (p0 &&& (7 : Int32))), .val (.int (((p0.toUInt32 >>> ((6 : Int32) &&& 31).toUInt32).toInt32) &&& (3 : Int32))), .val (.long (qa &&& (1152921504606846975 : Int64))), .second, .val (.long (((qa &&& (1152921504606846975 : Int64)) + (1 : Int64)) + (qb &&& (1152921504606846975 : Int64)))), .second, .val (.long (((((qa &&& (1152921504606846975 : Int64)) + (1 : Int64)) + (qb &&& (1152921504606846975 : Int64))) + (1 : Int64)) + (qc &&& (1152921504606846975 : Int64)))), .second, .unset, .unset, .unset, .unset, .unset, .unset, .unset, .unset]) rfl ?_
    refine XS.lload X0.here hx rfl (hb hby at_46) rfl ?_
    refine XS.lconst X0.here hx rfl (hb hby at_48) ?_
    refine XS.ladd X0.here hx rfl (hb hby at_49) rfl ?_
    refine XS.lload X0.here hx rfl (hb hby at_50) rfl ?_
    refine X0.ldc2Long hx hown (mvT hZ (own_w hw 0 rfl)) (g := (mkF m 52 #[.val (.int p0), .val (.long qa), .second, .val (.long qb), .second, .val (.long qc), .second, .val (.long qd), .second, .val (.int (p0 &&& (7 : Int32))), .val (.int (((p0.toUInt32 >>> ((6 : Int32) &&& 31).toUInt32).toInt32) &&& (3 : Int32))), .val (.long (qa &&& (1152921504606846975 : Int64))), .second, .val (.long (((qa &&& (1152921504606846975 : Int64)) + (1 : Int64)) + (qb &&& (1152921504606846975 : Int64)))), .second, .val (.long (((((qa &&& (1152921504606846975 : Int64)) + (1 : Int64)) + (qb &&& (1152921504606846975 : Int64))) + (1 : Int64)) + (qc &&& (1152921504606846975 : Int64)))), .second, .unset, .unset, .unset, .unset, .unset, .unset, .unset, .unset] [(.long qd), (.long ((((((qa &&& (1152921504606846975 : Int64)) + (1 : Int64)) + (qb &&& (1152921504606846975 : Int64))) + (1 : Int64)) + (qc &&& (1152921504606846975 : Int64))) + (1 : Int64)))])) rfl (hb hby at_52) _ ?_
    refine XS.land X0.here hx rfl (hb hby at_55) rfl ?_
    refine XS.ladd X0.here hx rfl (hb hby at_56) rfl ?_
    refine XS.lstore X0.here hx rfl (hb hby at_57) rfl (l' := #[.val (.int p0), .val (.long qa), .second, .val (.long qb), .second, .val (.long qc), .second, .val (.long qd), .second, .val (.int (p0 &&& (7 : Int32))), .val (.int (((p0.toUInt32 >>> ((6 : Int32) &&& 31).toUInt32).toInt32) &&& (3 : Int32))), .val (.long (qa &&& (1152921504606846975 : Int64))), .second, .val (.long (((qa &&& (1152921504606846975 : Int64)) + (1 : Int64)) + (qb &&& (1152921504606846975 : Int64)))), .second, .val (.long (((((qa &&& (1152921504606846975 : Int64)) + (1 : Int64)) + (qb &&& (1152921504606846975 : Int64))) + (1 : Int64)) + (qc &&& (1152921504606846975 : Int64)))), .second, .val (.long (((((((qa &&& (1152921504606846975 : Int64)) + (1 : Int64)) + (qb &&& (1152921504606846975 : Int64))) + (1 : Int64)) + (qc &&& (1152921504606846975 : Int64))) + (1 : Int64)) + (qd &&& (1152921504606846975 : Int64)))), .second, .unset, .unset, .unset, .unset, .unset, .unset]) rfl ?_
    exact k)
  obtain ⟨s2, o2, hs2, hr2⟩ := t59 (p0 &&& (7 : Int32)) ln_ (((p0.toUInt32 >>> ((6 : Int32) &&& 31).toUInt32).toInt32) &&& (3 : Int32)) (qa &&& (1152921504606846975 : Int64)) (((qa &&& (1152921504606846975 : Int64)) + (1 : Int64)) + (qb &&& (1152921504606846975 : Int64))) (((((qa &&& (1152921504606846975 : Int64)) + (1 : Int64)) + (qb &&& (1152921504606846975 : Int64))) + (1 : Int64)) + (qc &&& (1152921504606846975 : Int64))) (((((((qa &&& (1152921504606846975 : Int64)) + (1 : Int64)) + (qb &&& (1152921504606846975 : Int64))) + (1 : Int64)) + (qc &&& (1152921504606846975 : Int64))) + (1 : Int64)) + (qd &&& (1152921504606846975 : Int64))) s₁ _ N0 X0 e0 hln1 hln2 (own_mode _) (own_vals qa qb qc qd)
  exact ⟨s2, o2, pre1742 _ hs2, hr2⟩

set_option maxRecDepth 65536 in
set_option maxHeartbeats 40000000 in
theorem comes_1 {Post : Tables → Env → Array Value → State → Outcome → State → Prop} (hpost : ∀ tb e args s v u, (limb_1_1.after args s (.returned v) u = true ∧ limb_1_2.after args s (.returned v) u = true ∧ True) → FrameEnd s (.returned v) u (Jvm.fieldLocs frame_1_writes args s ++ Jvm.arrayLocs frame_1_arrays args s ++ Jvm.staticLocs frame_1_statics s) 24 320 → Post tb e args s (.returned v) u) :
    ArmFor flags0 classFile x code maxLocals ret World_1 tables_1 room_1 Calls_1 rest_1 Pre_1 Post := by
  intro l hfl _ _ p e ha hc hk s m args below hf hA hF happ hP
  obtain ⟨hcalls, hrest, hpre⟩ := hP
  obtain ⟨-, -, -, hnamed, -, -, -, hat⟩ := (Spec.applies_iff hf).mp happ
  obtain ⟨hg, hn⟩ := and_e (Cond.before_iff.mp (show (Jvm.Cond.and given_1 narrow_1).before args s = true from hpre))
  obtain ⟨g1, g2⟩ := and_e hg
  obtain ⟨g3, g4⟩ := and_e g2
  obtain ⟨g5, g6⟩ := and_e g4
  obtain ⟨g7, g8⟩ := and_e g6
  obtain ⟨g9, g10⟩ := and_e g8
  obtain ⟨g11, g12⟩ := and_e hn
  obtain ⟨g13, g14⟩ := and_e g12
  obtain ⟨g15, g16⟩ := and_e g14
  obtain ⟨g17, g18⟩ := and_e g16
  obtain ⟨g19, g20⟩ := and_e g18
  obtain ⟨g21, g22⟩ := and_e g20
  obtain ⟨g23, g24⟩ := and_e g22
  obtain ⟨g25, g26⟩ := and_e g24
  obtain ⟨w0, w1, w2, w3, w4, rfl⟩ : ∃ w0 w1 w2 w3 w4 : Value, args = #[w0, w1, w2, w3, w4] := by
    have hs : args.size = 5 := by simpa [Cond.value, given_1] using g1
    obtain ⟨L⟩ := args
    match L, hs with
    | [w0, w1, w2, w3, w4], _ => exact ⟨w0, w1, w2, w3, w4, rfl⟩
  have hw := fun d (hd : d ∈ tables_1) => atoms_spec (ws := Jvm.Cond.code x code maxLocals ret :: tables_1) hat d (List.mem_cons_of_mem _ hd)
  have hfit : Fit s := fun {y c} hc i hi => by
    obtain ⟨ha, rfl⟩ := Array.getElem?_eq_some_iff.mp hc
    have q := List.all_eq_true.mp ((Array.all_eq_true_iff_forall_mem.mp hF) _ (Array.getElem_mem ha)) i (List.mem_range.mpr hi)
    simpa [Array.getElem?_eq_getElem hi] using q
  obtain ⟨i0, ei0⟩ := is_v g3
  obtain rfl : w0 = (.int i0) := Option.some.inj ei0
  obtain ⟨i1, ei1⟩ := isL_v g5
  obtain rfl : w1 = (.long i1) := Option.some.inj ei1
  obtain ⟨i2, ei2⟩ := isL_v g7
  obtain rfl : w2 = (.long i2) := Option.some.inj ei2
  obtain ⟨i3, ei3⟩ := isL_v g9
  obtain rfl : w3 = (.long i3) := Option.some.inj ei3
  obtain ⟨i4, ei4⟩ := isL_v g10
  obtain rfl : w4 = (.long i4) := Option.some.inj ei4
  obtain ⟨z_Marks_NO_BOOLEANS, ez_Marks_NO_BOOLEANS⟩ := arr_v g11
  have S_z_Marks_NO_BOOLEANS := Sta.start (Z := s) ez_Marks_NO_BOOLEANS (Or.inr ⟨(own_w hw 3 rfl), (own_w hw 11 rfl)⟩)
  obtain ⟨z_Marks_NO_LONGS, ez_Marks_NO_LONGS⟩ := arr_v g17
  have S_z_Marks_NO_LONGS := Sta.start (Z := s) ez_Marks_NO_LONGS (Or.inr ⟨(own_w hw 3 rfl), (own_w hw 15 rfl)⟩)
  obtain ⟨z_Marks_NO_INTS, ez_Marks_NO_INTS⟩ := arr_v g23
  have S_z_Marks_NO_INTS := Sta.start (Z := s) ez_Marks_NO_INTS (Or.inr ⟨(own_w hw 3 rfl), (own_w hw 19 rfl)⟩)
  obtain ⟨cB, AcB⟩ := Arr.start ez_Marks_NO_BOOLEANS g11
  obtain ⟨lq1cB, lq2cB⟩ := own_len ez_Marks_NO_BOOLEANS AcB.1 g15
  have V_z_Marks_NO_BOOLEANS : Arv s s.heap z_Marks_NO_BOOLEANS cB.cls .boolean (0 : Int32) [] (.int (0 : Int32)) := Arv.start hfit AcB lq1cB lq2cB (by decide) (by rfl) trivial
  obtain ⟨cL, AcL⟩ := Arr.start ez_Marks_NO_LONGS g17
  obtain ⟨lq1cL, lq2cL⟩ := own_len ez_Marks_NO_LONGS AcL.1 g21
  have V_z_Marks_NO_LONGS : Arv s s.heap z_Marks_NO_LONGS cL.cls .long (0 : Int32) [] (.long (0 : Int64)) := Arv.start hfit AcL lq1cL lq2cL (by decide) (by rfl) trivial
  obtain ⟨cI, AcI⟩ := Arr.start ez_Marks_NO_INTS g23
  obtain ⟨lq1cI, lq2cI⟩ := own_len ez_Marks_NO_INTS AcI.1 g26
  have V_z_Marks_NO_INTS : Arv s s.heap z_Marks_NO_INTS cI.cls .int (0 : Int32) [] (.int (0 : Int32)) := Arv.start hfit AcI lq1cI lq2cI (by decide) (by rfl) trivial
  obtain ⟨n, o, h1, h2, h3, _, L, rfl, ⟨rfl, N, -⟩, hq⟩ := rm_law l s _ hw tables_1 i0 i1 i2 i3 i4 z_Marks_NO_BOOLEANS z_Marks_NO_LONGS z_Marks_NO_INTS cB.cls cL.cls cI.cls s.heap s.heap.size (Nat.le_refl _) S_z_Marks_NO_BOOLEANS S_z_Marks_NO_LONGS S_z_Marks_NO_INTS V_z_Marks_NO_BOOLEANS V_z_Marks_NO_LONGS V_z_Marks_NO_INTS p e ha hc hk s m _ below hf ((Spec.applies_iff_loose hf).mp happ).1 ⟨rfl, State.Warmed39.refl s, rfl⟩ trivial
  refine ⟨n, _, h1, h2, h3, hpost _ _ _ _ _ _ ⟨Cond.after_iff.mpr rfl, Cond.after_iff.mpr (eq_i res_at (Term.int_eval (1)) rfl), trivial⟩ ⟨hq.1, hq.2.1, (hq.2.2.sift fun y hy => Or.inr (N y hy)).mono (by decide) (by decide)⟩⟩
theorem main_1_1 : Claimed_1_1 := comes_1 fun _ _ _ _ _ _ h hF => ⟨h.1, hF⟩
theorem main_1_2 : Claimed_1_2 := comes_1 fun _ _ _ _ _ _ h hF => ⟨h.2.1, hF⟩
end Jvm.Pilot.@@N@@
namespace Jvm.Pilot.@@N@@
open Jvm Jvm.ClassFile Sem Op Lib Jvm.Free Jvm.Stand Jvm.Pilot.@@N@@.Jvm.D
/-! MADE BY PROGRAM (witnessworld.py) out of the Statement's table words and the real class files: 18 classes; the members and pool entries that the words name. The judged class is class 1, her method 1. -/
namespace start1
open Jvm.ClassFile
def u (s : String) : CpInfo := .utf8 (stringToUtf16 s)
/-- a pool by its gaps: so many unusable entries, then the entry; so many at the end -/
def gap : Nat → List CpInfo → List CpInfo
  | 0, r => r
  | n + 1, r => .unusable :: gap n r
def poolList (es : List (Nat × CpInfo)) (last : Nat) : List CpInfo := es.foldr (fun e r => gap e.1 (e.2 :: r)) (gap last [])
def pool (es : List (Nat × CpInfo)) (last : Nat) : Array CpInfo := ⟨poolList es last⟩
def fileOf (pool : Array CpInfo) (this : Nat) (attrs : Array Attribute := #[]) (ms : Array MethodInfo := #[]) (fl : Nat := 33) (sup : Nat := 0) (ifs : Array Nat := #[]) (fds : Array FieldInfo := #[]) : ClassFile where
  minorVersion := 0
  majorVersion := 65
  constantPool := pool
  accessFlags := fl
  thisClass := this
  superClass := sup
  interfaces := ifs
  fields := fds
  methods := ms
  attributes := attrs
def plain (name : String) (sup : Option ClassId) : Class where
  name := name
  kind := .ordinary
  loader := none
  accessFlags := 33
  super := sup
  interfaces := #[]
  cf := none
  fields := #[]
  methods := #[]
  instanceTypes := #[]
  staticTypes := #[]
  resolved := #[]
  callSites := []
  init := .initialized
  statics := none
  mirror := none

def pool0 : Array CpInfo := pool [(5, u "<init>"), (0, u "()V"), (1, .class_ 10), (1, u "java/lang/Object")] 113

def k0c0 : Code := { maxStack := 0, maxLocals := 1, code := object_method_1_code, exceptionTable := #[], attributes := #[] }
def k0m0 : Method := { name := "<init>", desc := "()V", sig := { parameters := [], returnType := none }, accessFlags := 1, code := some k0c0 }
/-- java/lang/Object -/
def k0 : Class := { plain "java/lang/Object" none with
  accessFlags := 33
  interfaces := #[]
  cf := some (fileOf pool0 8 #[] #[{ accessFlags := 1, nameIndex := 5, descriptorIndex := 6, attributes := #[] }] 33 0 #[] #[])
  fields := #[]
  methods := #[k0m0]
  instanceTypes := #[]
  staticTypes := #[]
  resolved := Array.replicate 124 none
  statics := none }

def pool1 : Array CpInfo := pool [(2, .class_ 4), (0, .nameAndType 5 6), (0, u "java/lang/Object"), (0, u "<init>"), (0, u "()V"), (0, .long 1152921504606846975), (1, .class_ 10), (0, u "com/example/fieldglass/fieldglass/io/Marks"), (0, .methodref 9 3), (0, .methodref 9 13), (0, .nameAndType 14 15), (0, u "beginMessage"), (0, u "(I)V"), (0, .methodref 9 17), (0, .nameAndType 18 19), (0, u "beginFields"), (0, u "(IJI)V"), (0, .methodref 9 21), (0, .nameAndType 22 23), (0, u "markField"), (0, u "(IJ)V"), (0, .methodref 9 25), (0, .nameAndType 26 27), (0, u "endGroup"), (0, u "(IJZ)V"), (0, .methodref 9 29), (0, .nameAndType 30 15), (0, u "endMessage"), (0, .methodref 9 32), (0, .nameAndType 33 6), (0, u "readBack"), (0, .methodref 9 35), (0, .nameAndType 36 37), (0, u "isMarked"), (0, u "(J)Z"), (0, .class_ 39), (0, u "com/example/fieldglass/fieldglass/io/MarksEndMessagePinLaw"), (2, u "law"), (0, u "(IJJJJ)Z")] 3

def k1m0 : Method := { name := "<init>", desc := "()V", sig := { parameters := [], returnType := none }, accessFlags := 1, code := none }
def k1c1 : Code := { maxStack := 6, maxLocals := 25, code := code, exceptionTable := #[], attributes := #[] }
def k1m1 : Method := { name := "law", desc := "(IJJJJ)Z", sig := { parameters := [.int, .long, .long, .long, .long], returnType := some .boolean }, accessFlags := 9, code := some k1c1 }
/-- com/example/fieldglass/fieldglass/io/MarksEndMessagePinLaw -/
def k1 : Class := { plain "com/example/fieldglass/fieldglass/io/MarksEndMessagePinLaw" (some 0) with
  accessFlags := 49
  interfaces := #[]
  cf := some (fileOf pool1 38 #[] #[{ accessFlags := 1, nameIndex := 5, descriptorIndex := 6, attributes := #[] }, { accessFlags := 9, nameIndex := 42, descriptorIndex := 43, attributes := #[] }] 49 2 #[] #[])
  fields := #[]
  methods := #[k1m0, k1m1]
  instanceTypes := #[]
  staticTypes := #[]
  resolved := Array.replicate 47 none
  statics := none }

def pool2 : Array CpInfo := pool [(1, .class_ 2), (0, u "java/lang/AutoCloseable"), (0, .class_ 4), (0, u "java/lang/Object")] 7

/-- java/lang/AutoCloseable -/
def k2 : Class := { plain "java/lang/AutoCloseable" (some 0) with
  accessFlags := 1537
  interfaces := #[]
  cf := some (fileOf pool2 1 #[] #[] 1537 3 #[] #[])
  fields := #[]
  methods := #[]
  instanceTypes := #[]
  staticTypes := #[]
  resolved := Array.replicate 12 none
  statics := none }

def pool3 : Array CpInfo := pool [(1, .methodref 2 3), (0, .class_ 4), (0, .nameAndType 5 6), (0, u "java/lang/Object"), (0, u "<init>"), (0, u "()V"), (0, .fieldref 8 9), (0, .class_ 10), (0, .nameAndType 11 12), (0, u "com/example/fieldglass/fieldglass/io/Marks"), (0, u "NO_BOOLEANS"), (0, u "[Z"), (0, .fieldref 8 14), (0, .nameAndType 15 12), (0, u "messages"), (0, .fieldref 8 17), (0, .nameAndType 18 19), (0, u "NO_LONGS"), (0, u "[J"), (0, .fieldref 8 21), (0, .nameAndType 22 19), (0, u "firstFieldSites"), (0, .fieldref 8 24), (0, .nameAndType 25 26), (0, u "NO_INTS"), (0, u "[I"), (0, .fieldref 8 28), (0, .nameAndType 29 26), (0, u "fieldSites"), (0, .fieldref 8 31), (0, .nameAndType 32 19), (0, u "slots"), (0, .fieldref 8 34), (0, .nameAndType 35 36), (0, u "deepestFields"), (0, u "I"), (0, .fieldref 8 38), (0, .nameAndType 39 40), (0, u "marking"), (0, u "Z"), (0, .class_ 42), (0, u "com/example/fieldglass/fieldglass/io/Marks$Order"), (0, .methodref 41 3), (0, .fieldref 8 45), (0, .nameAndType 46 47), (0, u "order"), (0, u "Lcom/example/fieldglass/fieldglass/io/Marks$Order;"), (2, .long 9223372036854775807), (1, .fieldref 8 53), (0, .nameAndType 54 55), (0, u "next"), (0, u "J"), (0, .methodref 8 57), (0, .nameAndType 58 59), (0, u "makeRoomFor"), (0, u "(I)V"), (0, .fieldref 8 61), (0, .nameAndType 62 36), (0, u "slotted"), (0, .methodref 64 65), (0, .class_ 66), (0, .nameAndType 67 68), (0, u "java/lang/Math"), (0, u "min"), (0, u "(II)I"), (0, .methodref 64 70), (0, .nameAndType 71 68), (0, u "max"), (0, .methodref 8 73), (0, .nameAndType 74 75), (0, u "groupSites"), (0, u "(I)I"), (0, .methodref 8 77), (0, .nameAndType 78 79), (0, u "mark"), (0, u "(IJJ)V"), (0, .methodref 41 81), (0, .nameAndType 82 83), (0, u "size"), (0, u "()J"), (0, .methodref 41 85), (0, .nameAndType 86 59), (0, u "appendUnmarked"), (0, .methodref 41 88), (0, .nameAndType 89 90), (0, u "set"), (0, u "(JJ)V"), (0, .methodref 92 93), (0, .class_ 94), (0, .nameAndType 95 96), (0, u "java/util/Arrays"), (0, u "copyOf"), (0, u "([ZI)[Z"), (0, .methodref 92 98), (0, .nameAndType 95 99), (0, u "([JI)[J"), (0, .methodref 92 101), (0, .nameAndType 95 102), (0, u "([II)[I"), (0, .long 18446744073709551615), (1, .methodref 8 106), (0, .nameAndType 107 108), (0, u "readOnTo"), (0, u "(J)Z"), (0, .methodref 41 110), (0, .nameAndType 111 112), (0, u "hasNext"), (0, u "()Z"), (0, .methodref 41 114), (0, .nameAndType 54 83), (3, .class_ 119), (0, u "java/lang/AutoCloseable"), (0, u "UNMARKED"), (1, u "FIRST_LEVELS"), (3, u "beginMessage"), (0, u "endMessage"), (1, u "beginFields"), (0, u "(IJI)V"), (0, u "markField"), (0, u "(IJ)V"), (1, u "endGroup"), (0, u "(IJZ)V"), (0, u "readBack"), (0, u "isMarked")] 6

def k3c0 : Code := { maxStack := 3, maxLocals := 1, code := prog_13_method_1_code, exceptionTable := #[], attributes := #[] }
def k3m0 : Method := { name := "<init>", desc := "()V", sig := { parameters := [], returnType := none }, accessFlags := 0, code := some k3c0 }
def k3c1 : Code := { maxStack := 3, maxLocals := 2, code := prog_13_method_2_code, exceptionTable := #[], attributes := #[] }
def k3m1 : Method := { name := "beginMessage", desc := "(I)V", sig := { parameters := [.int], returnType := none }, accessFlags := 0, code := some k3c1 }
def k3c2 : Code := { maxStack := 3, maxLocals := 2, code := prog_13_method_3_code, exceptionTable := #[], attributes := #[] }
def k3m2 : Method := { name := "endMessage", desc := "(I)V", sig := { parameters := [.int], returnType := none }, accessFlags := 0, code := some k3c2 }
def k3c3 : Code := { maxStack := 4, maxLocals := 5, code := prog_13_method_4_code, exceptionTable := #[], attributes := #[] }
def k3m3 : Method := { name := "beginFields", desc := "(IJI)V", sig := { parameters := [.int, .long, .int], returnType := none }, accessFlags := 0, code := some k3c3 }
def k3c4 : Code := { maxStack := 8, maxLocals := 4, code := prog_13_method_5_code, exceptionTable := #[], attributes := #[] }
def k3m4 : Method := { name := "markField", desc := "(IJ)V", sig := { parameters := [.int, .long], returnType := none }, accessFlags := 0, code := some k3c4 }
def k3c5 : Code := { maxStack := 6, maxLocals := 5, code := prog_13_method_7_code, exceptionTable := #[], attributes := #[] }
def k3m5 : Method := { name := "endGroup", desc := "(IJZ)V", sig := { parameters := [.int, .long, .boolean], returnType := none }, accessFlags := 0, code := some k3c5 }
def k3c6 : Code := { maxStack := 5, maxLocals := 6, code := prog_13_method_8_code, exceptionTable := #[], attributes := #[] }
def k3m6 : Method := { name := "mark", desc := "(IJJ)V", sig := { parameters := [.int, .long, .long], returnType := none }, accessFlags := 2, code := some k3c6 }
def k3c7 : Code := { maxStack := 2, maxLocals := 2, code := prog_13_method_9_code, exceptionTable := #[], attributes := #[] }
def k3m7 : Method := { name := "groupSites", desc := "(I)I", sig := { parameters := [.int], returnType := some .int }, accessFlags := 2, code := some k3c7 }
def k3c8 : Code := { maxStack := 3, maxLocals := 3, code := prog_13_method_10_code, exceptionTable := #[], attributes := #[] }
def k3m8 : Method := { name := "makeRoomFor", desc := "(I)V", sig := { parameters := [.int], returnType := none }, accessFlags := 2, code := some k3c8 }
def k3c9 : Code := { maxStack := 3, maxLocals := 1, code := prog_13_method_11_code, exceptionTable := #[], attributes := #[] }
def k3m9 : Method := { name := "readBack", desc := "()V", sig := { parameters := [], returnType := none }, accessFlags := 0, code := some k3c9 }
def k3c10 : Code := { maxStack := 4, maxLocals := 3, code := prog_13_method_12_code, exceptionTable := #[], attributes := #[] }
def k3m10 : Method := { name := "isMarked", desc := "(J)Z", sig := { parameters := [.long], returnType := some .boolean }, accessFlags := 0, code := some k3c10 }
def k3c11 : Code := { maxStack := 4, maxLocals := 3, code := prog_13_method_13_code, exceptionTable := #[], attributes := #[] }
def k3m11 : Method := { name := "readOnTo", desc := "(J)Z", sig := { parameters := [.long], returnType := some .boolean }, accessFlags := 2, code := some k3c11 }
/-- com/example/fieldglass/fieldglass/io/Marks -/
def k3 : Class := { plain "com/example/fieldglass/fieldglass/io/Marks" (some 0) with
  accessFlags := 48
  interfaces := #[2]
  cf := some (fileOf pool3 8 #[.nestMembers #[41]] #[{ accessFlags := 0, nameIndex := 5, descriptorIndex := 6, attributes := #[] }, { accessFlags := 0, nameIndex := 126, descriptorIndex := 59, attributes := #[] }, { accessFlags := 0, nameIndex := 127, descriptorIndex := 59, attributes := #[] }, { accessFlags := 0, nameIndex := 129, descriptorIndex := 130, attributes := #[] }, { accessFlags := 0, nameIndex := 131, descriptorIndex := 132, attributes := #[] }, { accessFlags := 0, nameIndex := 134, descriptorIndex := 135, attributes := #[] }, { accessFlags := 2, nameIndex := 78, descriptorIndex := 79, attributes := #[] }, { accessFlags := 2, nameIndex := 74, descriptorIndex := 75, attributes := #[] }, { accessFlags := 2, nameIndex := 58, descriptorIndex := 59, attributes := #[] }, { accessFlags := 0, nameIndex := 136, descriptorIndex := 6, attributes := #[] }, { accessFlags := 0, nameIndex := 137, descriptorIndex := 108, attributes := #[] }, { accessFlags := 2, nameIndex := 107, descriptorIndex := 108, attributes := #[] }] 48 2 #[118] #[{ accessFlags := 26, nameIndex := 120, descriptorIndex := 55, attributes := #[] }, { accessFlags := 26, nameIndex := 18, descriptorIndex := 19, attributes := #[] }, { accessFlags := 26, nameIndex := 25, descriptorIndex := 26, attributes := #[] }, { accessFlags := 26, nameIndex := 11, descriptorIndex := 12, attributes := #[] }, { accessFlags := 26, nameIndex := 122, descriptorIndex := 36, attributes := #[] }, { accessFlags := 2, nameIndex := 15, descriptorIndex := 12, attributes := #[] }, { accessFlags := 2, nameIndex := 22, descriptorIndex := 19, attributes := #[] }, { accessFlags := 2, nameIndex := 29, descriptorIndex := 26, attributes := #[] }, { accessFlags := 2, nameIndex := 32, descriptorIndex := 19, attributes := #[] }, { accessFlags := 2, nameIndex := 62, descriptorIndex := 36, attributes := #[] }, { accessFlags := 2, nameIndex := 35, descriptorIndex := 36, attributes := #[] }, { accessFlags := 2, nameIndex := 39, descriptorIndex := 40, attributes := #[] }, { accessFlags := 18, nameIndex := 46, descriptorIndex := 47, attributes := #[] }, { accessFlags := 2, nameIndex := 54, descriptorIndex := 55, attributes := #[] }])
  fields := #[{ name := "UNMARKED", type := .long, accessFlags := 26, slot := 0, constantValue := 0 }, { name := "NO_LONGS", type := (.array .long), accessFlags := 26, slot := 1, constantValue := 0 }, { name := "NO_INTS", type := (.array .int), accessFlags := 26, slot := 2, constantValue := 0 }, { name := "NO_BOOLEANS", type := (.array .boolean), accessFlags := 26, slot := 3, constantValue := 0 }, { name := "FIRST_LEVELS", type := .int, accessFlags := 26, slot := 4, constantValue := 0 }, { name := "messages", type := (.array .boolean), accessFlags := 2, slot := 0, constantValue := 0 }, { name := "firstFieldSites", type := (.array .long), accessFlags := 2, slot := 1, constantValue := 0 }, { name := "fieldSites", type := (.array .int), accessFlags := 2, slot := 2, constantValue := 0 }, { name := "slots", type := (.array .long), accessFlags := 2, slot := 3, constantValue := 0 }, { name := "slotted", type := .int, accessFlags := 2, slot := 4, constantValue := 0 }, { name := "deepestFields", type := .int, accessFlags := 2, slot := 5, constantValue := 0 }, { name := "marking", type := .boolean, accessFlags := 2, slot := 6, constantValue := 0 }, { name := "order", type := (.object "com/example/fieldglass/fieldglass/io/Marks$Order"), accessFlags := 18, slot := 7, constantValue := 0 }, { name := "next", type := .long, accessFlags := 2, slot := 8, constantValue := 0 }]
  methods := #[k3m0, k3m1, k3m2, k3m3, k3m4, k3m5, k3m6, k3m7, k3m8, k3m9, k3m10, k3m11]
  instanceTypes := #[(.array .boolean), (.array .long), (.array .int), (.array .long), .int, .int, .boolean, (.object "com/example/fieldglass/fieldglass/io/Marks$Order"), .long]
  staticTypes := #[.long, (.array .long), (.array .int), (.array .boolean), .int]
  resolved := (((Array.replicate 144 none).setIfInBounds 43 (some (.method ⟨4, 0⟩))).setIfInBounds 41 (some (.cls 4)))
  statics := some 0 }

def pool4 : Array CpInfo := pool [(1, .class_ 2), (0, u "com/example/fieldglass/fieldglass/io/Marks"), (0, .methodref 4 5), (0, .class_ 6), (0, .nameAndType 7 8), (0, u "java/lang/Object"), (0, u "<init>"), (0, u "()V"), (0, .fieldref 1 10), (0, .nameAndType 11 12), (0, u "NO_LONGS"), (0, u "[J"), (0, .fieldref 14 15), (0, .class_ 16), (0, .nameAndType 17 12), (0, u "com/example/fieldglass/fieldglass/io/Marks$Order"), (0, u "held"), (0, .fieldref 14 19), (0, .nameAndType 20 21), (0, u "spilling"), (0, u "Z"), (0, .fieldref 14 23), (0, .nameAndType 24 25), (0, u "spilled"), (0, u "J"), (0, .fieldref 14 27), (0, .nameAndType 28 29), (0, u "count"), (0, u "I"), (0, .methodref 14 31), (0, .nameAndType 32 8), (0, u "makeRoom"), (0, .long 18446744073709551615), (13, .long 8), (17, u "()Z"), (0, .methodref 67 68), (0, .class_ 69), (0, .nameAndType 70 71), (0, u "java/lang/Math"), (0, u "max"), (0, u "(II)I"), (0, .methodref 73 74), (0, .class_ 75), (0, .nameAndType 76 77), (0, u "java/util/Arrays"), (0, u "copyOf"), (0, u "([JI)[J"), (2, u "file"), (0, u "Ljava/nio/channels/FileChannel;"), (9, .fieldref 14 92), (0, .nameAndType 93 94), (0, u "block"), (0, u "Ljava/nio/ByteBuffer;"), (29, .fieldref 14 125), (0, .nameAndType 126 25), (0, u "read"), (0, .methodref 14 128), (0, .nameAndType 129 130), (0, u "size"), (0, u "()J"), (0, .fieldref 14 132), (0, .nameAndType 133 25), (0, u "blockEnd"), (29, u "HELD"), (2, u "FIRST_HELD"), (3, u "appendUnmarked"), (0, u "(I)V"), (1, u "set"), (0, u "(JJ)V"), (1, u "hasNext"), (0, u "next")] 5

def k4c0 : Code := { maxStack := 2, maxLocals := 1, code := prog_14_method_1_code, exceptionTable := #[], attributes := #[] }
def k4m0 : Method := { name := "<init>", desc := "()V", sig := { parameters := [], returnType := none }, accessFlags := 2, code := some k4c0 }
def k4c1 : Code := { maxStack := 4, maxLocals := 1, code := prog_14_method_2_code, exceptionTable := #[], attributes := #[] }
def k4m1 : Method := { name := "size", desc := "()J", sig := { parameters := [], returnType := some .long }, accessFlags := 0, code := some k4c1 }
def k4c2 : Code := { maxStack := 5, maxLocals := 3, code := prog_14_method_3_code, exceptionTable := #[], attributes := #[] }
def k4m2 : Method := { name := "appendUnmarked", desc := "(I)V", sig := { parameters := [.int], returnType := none }, accessFlags := 0, code := some k4c2 }
def k4c3 : Code := { maxStack := 6, maxLocals := 6, code := prog_14_method_4_code, exceptionTable := #[{ startPc := 25, endPc := 44, handlerPc := 47, catchType := 53 }], attributes := #[] }
def k4m3 : Method := { name := "set", desc := "(JJ)V", sig := { parameters := [.long, .long], returnType := none }, accessFlags := 0, code := some k4c3 }
def k4c4 : Code := { maxStack := 5, maxLocals := 1, code := prog_14_method_5_code, exceptionTable := #[], attributes := #[] }
def k4m4 : Method := { name := "makeRoom", desc := "()V", sig := { parameters := [], returnType := none }, accessFlags := 2, code := some k4c4 }
def k4c5 : Code := { maxStack := 4, maxLocals := 1, code := prog_14_method_8_code, exceptionTable := #[], attributes := #[] }
def k4m5 : Method := { name := "hasNext", desc := "()Z", sig := { parameters := [], returnType := some .boolean }, accessFlags := 0, code := some k4c5 }
def k4c6 : Code := { maxStack := 5, maxLocals := 3, code := prog_14_method_9_code, exceptionTable := #[], attributes := #[] }
def k4m6 : Method := { name := "next", desc := "()J", sig := { parameters := [], returnType := some .long }, accessFlags := 0, code := some k4c6 }
/-- com/example/fieldglass/fieldglass/io/Marks$Order -/
def k4 : Class := { plain "com/example/fieldglass/fieldglass/io/Marks$Order" (some 0) with
  accessFlags := 48
  interfaces := #[]
  cf := some (fileOf pool4 14 #[.nestHost 1] #[{ accessFlags := 2, nameIndex := 7, descriptorIndex := 8, attributes := #[] }, { accessFlags := 0, nameIndex := 129, descriptorIndex := 130, attributes := #[] }, { accessFlags := 0, nameIndex := 170, descriptorIndex := 171, attributes := #[] }, { accessFlags := 0, nameIndex := 173, descriptorIndex := 174, attributes := #[] }, { accessFlags := 2, nameIndex := 32, descriptorIndex := 8, attributes := #[] }, { accessFlags := 0, nameIndex := 176, descriptorIndex := 65, attributes := #[] }, { accessFlags := 0, nameIndex := 177, descriptorIndex := 130, attributes := #[] }] 48 4 #[] #[{ accessFlags := 24, nameIndex := 163, descriptorIndex := 29, attributes := #[] }, { accessFlags := 26, nameIndex := 166, descriptorIndex := 29, attributes := #[] }, { accessFlags := 2, nameIndex := 17, descriptorIndex := 12, attributes := #[] }, { accessFlags := 2, nameIndex := 28, descriptorIndex := 29, attributes := #[] }, { accessFlags := 2, nameIndex := 24, descriptorIndex := 25, attributes := #[] }, { accessFlags := 2, nameIndex := 80, descriptorIndex := 81, attributes := #[] }, { accessFlags := 2, nameIndex := 20, descriptorIndex := 21, attributes := #[] }, { accessFlags := 2, nameIndex := 93, descriptorIndex := 94, attributes := #[] }, { accessFlags := 2, nameIndex := 126, descriptorIndex := 25, attributes := #[] }, { accessFlags := 2, nameIndex := 133, descriptorIndex := 25, attributes := #[] }])
  fields := #[{ name := "HELD", type := .int, accessFlags := 24, slot := 0, constantValue := 0 }, { name := "FIRST_HELD", type := .int, accessFlags := 26, slot := 1, constantValue := 0 }, { name := "held", type := (.array .long), accessFlags := 2, slot := 0, constantValue := 0 }, { name := "count", type := .int, accessFlags := 2, slot := 1, constantValue := 0 }, { name := "spilled", type := .long, accessFlags := 2, slot := 2, constantValue := 0 }, { name := "file", type := (.object "java/nio/channels/FileChannel"), accessFlags := 2, slot := 3, constantValue := 0 }, { name := "spilling", type := .boolean, accessFlags := 2, slot := 4, constantValue := 0 }, { name := "block", type := (.object "java/nio/ByteBuffer"), accessFlags := 2, slot := 5, constantValue := 0 }, { name := "read", type := .long, accessFlags := 2, slot := 6, constantValue := 0 }, { name := "blockEnd", type := .long, accessFlags := 2, slot := 7, constantValue := 0 }]
  methods := #[k4m0, k4m1, k4m2, k4m3, k4m4, k4m5, k4m6]
  instanceTypes := #[(.array .long), .int, .long, (.object "java/nio/channels/FileChannel"), .boolean, (.object "java/nio/ByteBuffer"), .long, .long]
  staticTypes := #[.int, .int]
  resolved := Array.replicate 183 none
  statics := none }

def pool5 : Array CpInfo := pool [(1, .class_ 2), (0, u "java/lang/Math"), (1, .class_ 6), (1, u "java/lang/Object"), (0, u "<init>"), (0, u "()V"), (89, .class_ 100), (1, u "java/lang/Math$RandomNumberGeneratorHolder"), (71, u "negativeZeroFloatBits"), (0, u "J"), (2, u "negativeZeroDoubleBits"), (21, u "max"), (2, u "min"), (43, u "$assertionsDisabled"), (0, u "Z"), (88, u "(II)I"), (2, u "twoToTheDoubleScaleDown"), (0, u "D"), (4, u "twoToTheDoubleScaleUp"), (9, u "E"), (3, u "PI"), (2, u "TAU"), (2, u "DEGREES_TO_RADIANS"), (0, u "RADIANS_TO_DEGREES")] 94

def k5m0 : Method := { name := "<init>", desc := "()V", sig := { parameters := [], returnType := none }, accessFlags := 2, code := none }
def k5c1 : Code := { maxStack := 2, maxLocals := 2, code := jdk_29_method_65_code, exceptionTable := #[], attributes := #[] }
def k5m1 : Method := { name := "max", desc := "(II)I", sig := { parameters := [.int, .int], returnType := some .int }, accessFlags := 9, code := some k5c1 }
def k5c2 : Code := { maxStack := 2, maxLocals := 2, code := jdk_29_method_69_code, exceptionTable := #[], attributes := #[] }
def k5m2 : Method := { name := "min", desc := "(II)I", sig := { parameters := [.int, .int], returnType := some .int }, accessFlags := 9, code := some k5c2 }
/-- java/lang/Math -/
def k5 : Class := { plain "java/lang/Math" (some 0) with
  accessFlags := 49
  interfaces := #[]
  cf := some (fileOf pool5 1 #[.nestMembers #[98]] #[{ accessFlags := 2, nameIndex := 7, descriptorIndex := 8, attributes := #[] }, { accessFlags := 9, nameIndex := 198, descriptorIndex := 335, attributes := #[] }, { accessFlags := 9, nameIndex := 201, descriptorIndex := 335, attributes := #[] }] 49 4 #[] #[{ accessFlags := 25, nameIndex := 354, descriptorIndex := 339, attributes := #[] }, { accessFlags := 25, nameIndex := 358, descriptorIndex := 339, attributes := #[] }, { accessFlags := 25, nameIndex := 361, descriptorIndex := 339, attributes := #[] }, { accessFlags := 26, nameIndex := 364, descriptorIndex := 339, attributes := #[] }, { accessFlags := 26, nameIndex := 365, descriptorIndex := 339, attributes := #[] }, { accessFlags := 26, nameIndex := 172, descriptorIndex := 173, attributes := #[] }, { accessFlags := 26, nameIndex := 176, descriptorIndex := 173, attributes := #[] }, { accessFlags := 8, nameIndex := 344, descriptorIndex := 339, attributes := #[] }, { accessFlags := 8, nameIndex := 338, descriptorIndex := 339, attributes := #[] }, { accessFlags := 4120, nameIndex := 245, descriptorIndex := 246, attributes := #[] }])
  fields := #[{ name := "E", type := .double, accessFlags := 25, slot := 0, constantValue := 0 }, { name := "PI", type := .double, accessFlags := 25, slot := 1, constantValue := 0 }, { name := "TAU", type := .double, accessFlags := 25, slot := 2, constantValue := 0 }, { name := "DEGREES_TO_RADIANS", type := .double, accessFlags := 26, slot := 3, constantValue := 0 }, { name := "RADIANS_TO_DEGREES", type := .double, accessFlags := 26, slot := 4, constantValue := 0 }, { name := "negativeZeroFloatBits", type := .long, accessFlags := 26, slot := 5, constantValue := 0 }, { name := "negativeZeroDoubleBits", type := .long, accessFlags := 26, slot := 6, constantValue := 0 }, { name := "twoToTheDoubleScaleUp", type := .double, accessFlags := 8, slot := 7, constantValue := 0 }, { name := "twoToTheDoubleScaleDown", type := .double, accessFlags := 8, slot := 8, constantValue := 0 }, { name := "$assertionsDisabled", type := .boolean, accessFlags := 4120, slot := 9, constantValue := 0 }]
  methods := #[k5m0, k5m1, k5m2]
  instanceTypes := #[]
  staticTypes := #[.double, .double, .double, .double, .double, .long, .long, .double, .double, .boolean]
  resolved := Array.replicate 460 none
  statics := none }

def pool6 : Array CpInfo := pool [(2, .class_ 4), (1, u "java/lang/Object"), (0, u "<init>"), (0, u "()V"), (7, .class_ 16), (1, u "java/util/Arrays"), (57, .class_ 76), (1, u "java/util/Arrays$NaturalOrder"), (36, .class_ 115), (1, u "java/util/Arrays$LegacyMergeSort"), (1, u "Z"), (32, .methodref 151 152), (0, .class_ 153), (0, .nameAndType 154 155), (0, u "java/lang/System"), (0, u "arraycopy"), (0, u "(Ljava/lang/Object;ILjava/lang/Object;II)V"), (146, u "copyOf"), (1, .methodref 305 306), (0, .class_ 307), (0, .nameAndType 308 309), (0, u "java/lang/Math"), (0, u "min"), (0, u "(II)I"), (65, .class_ 376), (0, u "java/util/Arrays$ArrayList"), (68, u "$assertionsDisabled"), (269, u "MIN_ARRAY_SORT_GRAN"), (0, u "I"), (2, u "INSERTIONSORT_THRESHOLD"), (151, u "([II)[I"), (0, u "([JI)[J"), (3, u "([ZI)[Z"), (98, .class_ 976), (0, u "java/util/Arrays$ArrayItr")] 52

def k6m0 : Method := { name := "<init>", desc := "()V", sig := { parameters := [], returnType := none }, accessFlags := 2, code := none }
def k6c1 : Code := { maxStack := 6, maxLocals := 3, code := jdk_65_method_123_code, exceptionTable := #[], attributes := #[] }
def k6m1 : Method := { name := "copyOf", desc := "([II)[I", sig := { parameters := [(.array .int), .int], returnType := some (.array .int) }, accessFlags := 9, code := some k6c1 }
def k6c2 : Code := { maxStack := 6, maxLocals := 3, code := jdk_65_method_124_code, exceptionTable := #[], attributes := #[] }
def k6m2 : Method := { name := "copyOf", desc := "([JI)[J", sig := { parameters := [(.array .long), .int], returnType := some (.array .long) }, accessFlags := 9, code := some k6c2 }
def k6c3 : Code := { maxStack := 6, maxLocals := 3, code := jdk_65_method_128_code, exceptionTable := #[], attributes := #[] }
def k6m3 : Method := { name := "copyOf", desc := "([ZI)[Z", sig := { parameters := [(.array .boolean), .int], returnType := some (.array .boolean) }, accessFlags := 9, code := some k6c3 }
/-- java/util/Arrays -/
def k6 : Class := { plain "java/util/Arrays" (some 0) with
  accessFlags := 49
  interfaces := #[]
  cf := some (fileOf pool6 14 #[.nestMembers #[975, 375, 113, 74]] #[{ accessFlags := 2, nameIndex := 5, descriptorIndex := 6, attributes := #[] }, { accessFlags := 9, nameIndex := 302, descriptorIndex := 871, attributes := #[] }, { accessFlags := 9, nameIndex := 302, descriptorIndex := 872, attributes := #[] }, { accessFlags := 9, nameIndex := 302, descriptorIndex := 876, attributes := #[] }] 49 2 #[] #[{ accessFlags := 26, nameIndex := 715, descriptorIndex := 716, attributes := #[] }, { accessFlags := 26, nameIndex := 719, descriptorIndex := 716, attributes := #[] }, { accessFlags := 4120, nameIndex := 445, descriptorIndex := 117, attributes := #[] }])
  fields := #[{ name := "MIN_ARRAY_SORT_GRAN", type := .int, accessFlags := 26, slot := 0, constantValue := 0 }, { name := "INSERTIONSORT_THRESHOLD", type := .int, accessFlags := 26, slot := 1, constantValue := 0 }, { name := "$assertionsDisabled", type := .boolean, accessFlags := 4120, slot := 2, constantValue := 0 }]
  methods := #[k6m0, k6m1, k6m2, k6m3]
  instanceTypes := #[]
  staticTypes := #[.int, .int, .boolean]
  resolved := Array.replicate 1029 none
  statics := none }

def pool7 : Array CpInfo := pool [(2, .class_ 4), (1, u "java/lang/Object"), (0, u "<init>"), (0, u "()V"), (1, .class_ 10), (1, u "java/lang/System"), (0, u "allowSecurityManager"), (0, u "I"), (16, u "cons"), (0, u "Ljava/io/Console;"), (77, .class_ 110), (1, u "java/lang/System$CallersHolder"), (43, u "initialErrStream"), (0, u "Ljava/io/PrintStream;"), (19, u "security"), (0, u "Ljava/lang/SecurityManager;"), (31, .class_ 209), (0, u "java/lang/System$1"), (7, u "props"), (0, u "Ljava/util/Properties;"), (2, u "lineSeparator"), (0, u "Ljava/lang/String;"), (96, .class_ 321), (1, u "java/lang/System$LoggerFinder"), (5, .class_ 328), (0, u "java/lang/System$Logger"), (67, u "err"), (2, u "out"), (91, u "notSupportedJnuEncoding"), (15, u "in"), (17, u "initialIn"), (0, u "Ljava/io/InputStream;"), (35, u "bootLayer"), (0, u "Ljava/lang/ModuleLayer;"), (99, .class_ 664), (0, u "java/lang/System$2"), (9, u "NEVER"), (2, u "MAYBE"), (49, u "arraycopy"), (0, u "(Ljava/lang/Object;ILjava/lang/Object;II)V"), (72, .class_ 802), (0, u "java/lang/System$Logger$Level")] 31

def k7m0 : Method := { name := "<init>", desc := "()V", sig := { parameters := [], returnType := none }, accessFlags := 2, code := none }
def k7m1 : Method := { name := "arraycopy", desc := "(Ljava/lang/Object;ILjava/lang/Object;II)V", sig := { parameters := [(.object "java/lang/Object"), .int, (.object "java/lang/Object"), .int, .int], returnType := none }, accessFlags := 265, code := none }
/-- java/lang/System -/
def k7 : Class := { plain "java/lang/System" (some 0) with
  accessFlags := 49
  interfaces := #[]
  cf := some (fileOf pool7 8 #[.nestMembers #[319, 327, 801, 108, 663, 208]] #[{ accessFlags := 2, nameIndex := 5, descriptorIndex := 6, attributes := #[] }, { accessFlags := 265, nameIndex := 727, descriptorIndex := 728, attributes := #[] }] 49 2 #[] #[{ accessFlags := 25, nameIndex := 507, descriptorIndex := 526, attributes := #[] }, { accessFlags := 25, nameIndex := 399, descriptorIndex := 155, attributes := #[] }, { accessFlags := 25, nameIndex := 396, descriptorIndex := 155, attributes := #[] }, { accessFlags := 10, nameIndex := 525, descriptorIndex := 526, attributes := #[] }, { accessFlags := 26, nameIndex := 674, descriptorIndex := 12, attributes := #[] }, { accessFlags := 26, nameIndex := 677, descriptorIndex := 12, attributes := #[] }, { accessFlags := 10, nameIndex := 11, descriptorIndex := 12, attributes := #[] }, { accessFlags := 74, nameIndex := 175, descriptorIndex := 176, attributes := #[] }, { accessFlags := 10, nameIndex := 491, descriptorIndex := 222, attributes := #[] }, { accessFlags := 74, nameIndex := 29, descriptorIndex := 30, attributes := #[] }, { accessFlags := 74, nameIndex := 154, descriptorIndex := 155, attributes := #[] }, { accessFlags := 10, nameIndex := 217, descriptorIndex := 218, attributes := #[] }, { accessFlags := 10, nameIndex := 221, descriptorIndex := 222, attributes := #[] }, { accessFlags := 8, nameIndex := 562, descriptorIndex := 563, attributes := #[] }])
  fields := #[{ name := "in", type := (.object "java/io/InputStream"), accessFlags := 25, slot := 0, constantValue := 0 }, { name := "out", type := (.object "java/io/PrintStream"), accessFlags := 25, slot := 1, constantValue := 0 }, { name := "err", type := (.object "java/io/PrintStream"), accessFlags := 25, slot := 2, constantValue := 0 }, { name := "initialIn", type := (.object "java/io/InputStream"), accessFlags := 10, slot := 3, constantValue := 0 }, { name := "NEVER", type := .int, accessFlags := 26, slot := 4, constantValue := 0 }, { name := "MAYBE", type := .int, accessFlags := 26, slot := 5, constantValue := 0 }, { name := "allowSecurityManager", type := .int, accessFlags := 10, slot := 6, constantValue := 0 }, { name := "security", type := (.object "java/lang/SecurityManager"), accessFlags := 74, slot := 7, constantValue := 0 }, { name := "notSupportedJnuEncoding", type := (.object "java/lang/String"), accessFlags := 10, slot := 8, constantValue := 0 }, { name := "cons", type := (.object "java/io/Console"), accessFlags := 74, slot := 9, constantValue := 0 }, { name := "initialErrStream", type := (.object "java/io/PrintStream"), accessFlags := 74, slot := 10, constantValue := 0 }, { name := "props", type := (.object "java/util/Properties"), accessFlags := 10, slot := 11, constantValue := 0 }, { name := "lineSeparator", type := (.object "java/lang/String"), accessFlags := 10, slot := 12, constantValue := 0 }, { name := "bootLayer", type := (.object "java/lang/ModuleLayer"), accessFlags := 8, slot := 13, constantValue := 0 }]
  methods := #[k7m0, k7m1]
  instanceTypes := #[]
  staticTypes := #[(.object "java/io/InputStream"), (.object "java/io/PrintStream"), (.object "java/io/PrintStream"), (.object "java/io/InputStream"), .int, .int, .int, (.object "java/lang/SecurityManager"), (.object "java/lang/String"), (.object "java/io/Console"), (.object "java/io/PrintStream"), (.object "java/util/Properties"), (.object "java/lang/String"), (.object "java/lang/ModuleLayer")]
  resolved := Array.replicate 834 none
  statics := none }

def pool8 : Array CpInfo := pool [(1, u "java/lang/Cloneable"), (0, .class_ 1), (0, u "java/lang/Object"), (0, .class_ 3)] 3

/-- java/lang/Cloneable -/
def k8 : Class := { plain "java/lang/Cloneable" (some 0) with
  accessFlags := 1537
  interfaces := #[]
  cf := some (fileOf pool8 2 #[] #[] 1537 4 #[] #[])
  fields := #[]
  methods := #[]
  instanceTypes := #[]
  staticTypes := #[]
  resolved := Array.replicate 8 none
  statics := none }

def pool9 : Array CpInfo := pool [(1, u "java/io/Serializable"), (0, .class_ 1), (0, u "java/lang/Object"), (0, .class_ 3)] 3

/-- java/io/Serializable -/
def k9 : Class := { plain "java/io/Serializable" (some 0) with
  accessFlags := 1537
  interfaces := #[]
  cf := some (fileOf pool9 2 #[] #[] 1537 4 #[] #[])
  fields := #[]
  methods := #[]
  instanceTypes := #[]
  staticTypes := #[]
  resolved := Array.replicate 8 none
  statics := none }

/-- the primitive boolean -/
def k10 : Class := { plain "boolean" none with kind := .primitive 'Z', accessFlags := 0x411 }
/-- [Z -/
def k11 : Class := { plain "[Z" (some 0) with kind := .array 10 .boolean, interfaces := #[8, 9], accessFlags := 1041 }

/-- the primitive byte -/
def k12 : Class := { plain "byte" none with kind := .primitive 'B', accessFlags := 0x411 }
/-- [B -/
def k13 : Class := { plain "[B" (some 0) with kind := .array 12 .byte, interfaces := #[8, 9], accessFlags := 1041 }

/-- the primitive int -/
def k14 : Class := { plain "int" none with kind := .primitive 'I', accessFlags := 0x411 }
/-- [I -/
def k15 : Class := { plain "[I" (some 0) with kind := .array 14 .int, interfaces := #[8, 9], accessFlags := 1041 }

/-- the primitive long -/
def k16 : Class := { plain "long" none with kind := .primitive 'J', accessFlags := 0x411 }
/-- [J -/
def k17 : Class := { plain "[J" (some 0) with kind := .array 16 .long, interfaces := #[8, 9], accessFlags := 1041 }

def heap : Heap := #[{ cls := 3, slots := #[.long 0, .ref 2, .ref 3, .ref 1, .int 0], vm := .statics 3 },
  { cls := 11, slots := #[], vm := .none },
  { cls := 17, slots := #[], vm := .none },
  { cls := 15, slots := #[], vm := .none }]
def classes : Array Class := #[k0, k1, k2, k3, k4, k5, k6, k7, k8, k9, k10, k11, k12, k13, k14, k15, k16, k17]
def interned : List (Array UInt16 × Addr) := []
def slotsUsed : Nat := 5
def theMethod : MethodId := ⟨1, 1⟩
def args0 : Array Value := #[.int 77, .long 3, .long 4, .long 5, .long 6]
def aboutOver (below : List Frame) : State where
  vm := { classes := classes, interned := interned.toArray }
  heap := heap
  slotsUsed := slotsUsed
  threads := #[{ frames := .invoking theMethod args0 :: below }]
def below0 : List Frame := [.native { method := ⟨0, 0⟩, args := #[] }]
def about1 : State := aboutOver below0
def p0 : Program := .bare "" "" ""
def e0 : Env := launch0.env 0 0 0
theorem w_frames : about1.frames = Frame.invoking theMethod args0 :: below0 := rfl
set_option maxRecDepth 65536 in
theorem w_args : argsFit about1.vm theMethod args0 = true := by decide +kernel
set_option maxRecDepth 65536 in
theorem w_heap : heapFits about1 = true := by decide +kernel
set_option maxRecDepth 65536 in
theorem w_runnable : about1.curStatus? = some .runnable := by decide +kernel
set_option maxRecDepth 65536 in
theorem w_alone : about1.alone = true := by decide +kernel
set_option maxRecDepth 65536 in
theorem w_named : about1.methodNamed? x = some theMethod := by decide +kernel
set_option maxRecDepth 65536 in
theorem w_hears : about1.hears theMethod below0 = true := by decide +kernel
set_option maxRecDepth 65536 in
theorem w_ripe : about1.ripe theMethod args0 below0 = true := by decide +kernel
theorem w_running : about1.status = .running := rfl
set_option maxRecDepth 65536 in
theorem w_room : about1.hasRoom e0.platform room_1 = true :=
  launch0.hasRoom_least _ room_1 (by decide +kernel) (by decide +kernel) (by decide +kernel) (by decide +kernel) (by decide +kernel) (by decide +kernel)
theorem allAtoms_all (ts : List Jvm.Cond) (a : Array Jvm.Value) (st : Jvm.State) : (allAtoms ts).before a st = ts.all (fun c => c.before a st) := by
  induction ts with
  | nil => rfl
  | cons c t ih =>
    show (Jvm.Cond.and c (allAtoms t)).before a st = _
    rw [Jvm.Cond.before_and, ih, List.all_cons]
def words1 : List Jvm.Cond := Jvm.Cond.code x code maxLocals ret :: tables_1
/-- a 'code' word, met by the world's own term for the bytes: nothing is compared byte by byte -/
theorem code_word {y : MethodName} {bytes : ByteArray} {mx : Nat} {rt : Option FieldType} {a : Array Value} {s : State} {m : MethodId} {meth : Method} {c : Code} (h1 : s.methodNamed? y = some m) (h2 : s.vm.method? m = some meth) (h3 : meth.code = some c) (h4 : c.code = bytes)
    (h5 : (c.maxLocals == mx && c.exceptionTable.isEmpty && decide (c.maxStack ≤ mostOperands) && decide (meth.sig.returnType = rt) && !meth.locks && decide (parseMethodDescriptor y.desc = some meth.sig)) = true) : (Jvm.Cond.code y bytes mx rt).before a s = true := by
  simp only [Bool.and_eq_true, beq_iff_eq, Bool.not_eq_true', decide_eq_true_eq] at h5
  obtain ⟨⟨⟨⟨⟨g1, g2⟩, g3⟩, g4⟩, g5⟩, g6⟩ := h5
  simp [Cond.before, Cond.holds, Cond.value, h1, h2, h3, h4, g1, g2, g3, g4, g5, g6]
def isCode : Jvm.Cond → Bool
  | .code _ _ _ _ => true
  | _ => false
theorem all_split {L : List Jvm.Cond} {P : Jvm.Cond → Bool} (h1 : L.all (fun c => isCode c || P c) = true) (h2 : ∀ c ∈ L.filter isCode, P c = true) : L.all P = true := by
  refine List.all_eq_true.mpr fun c hc => ?_
  have h := List.all_eq_true.mp h1 c hc
  rcases Bool.eq_false_or_eq_true (isCode c) with hi | hi
  · exact h2 c (List.mem_filter.mpr ⟨hc, hi⟩)
  · simpa [hi] using h
set_option maxRecDepth 65536 in
theorem w_c0 : (Jvm.Cond.code x code maxLocals ret).before args0 about1 = true := code_word (m := ⟨1, 1⟩) (meth := k1m1) (c := k1c1) (by decide +kernel) rfl rfl rfl (by decide +kernel)
set_option maxRecDepth 65536 in
theorem w_c1 : (Jvm.Cond.code ({ cls := "com/example/fieldglass/fieldglass/io/Marks", name := "<init>", desc := "()V" } : Jvm.MethodName) prog_13_method_1_code (1 : Nat) (Option.none : Option Jvm.ClassFile.FieldType)).before args0 about1 = true := code_word (m := ⟨3, 0⟩) (meth := k3m0) (c := k3c0) (by decide +kernel) rfl rfl rfl (by decide +kernel)
set_option maxRecDepth 65536 in
theorem w_c2 : (Jvm.Cond.code ({ cls := "java/lang/Object", name := "<init>", desc := "()V" } : Jvm.MethodName) object_method_1_code (1 : Nat) (Option.none : Option Jvm.ClassFile.FieldType)).before args0 about1 = true := code_word (m := ⟨0, 0⟩) (meth := k0m0) (c := k0c0) (by decide +kernel) rfl rfl rfl (by decide +kernel)
set_option maxRecDepth 65536 in
theorem w_c3 : (Jvm.Cond.code ({ cls := "com/example/fieldglass/fieldglass/io/Marks$Order", name := "<init>", desc := "()V" } : Jvm.MethodName) prog_14_method_1_code (1 : Nat) (Option.none : Option Jvm.ClassFile.FieldType)).before args0 about1 = true := code_word (m := ⟨4, 0⟩) (meth := k4m0) (c := k4c0) (by decide +kernel) rfl rfl rfl (by decide +kernel)
set_option maxRecDepth 65536 in
theorem w_c4 : (Jvm.Cond.code ({ cls := "com/example/fieldglass/fieldglass/io/Marks", name := "beginMessage", desc := "(I)V" } : Jvm.MethodName) prog_13_method_2_code (2 : Nat) (Option.none : Option Jvm.ClassFile.FieldType)).before args0 about1 = true := code_word (m := ⟨3, 1⟩) (meth := k3m1) (c := k3c1) (by decide +kernel) rfl rfl rfl (by decide +kernel)
set_option maxRecDepth 65536 in
theorem w_c5 : (Jvm.Cond.code ({ cls := "com/example/fieldglass/fieldglass/io/Marks", name := "makeRoomFor", desc := "(I)V" } : Jvm.MethodName) prog_13_method_10_code (3 : Nat) (Option.none : Option Jvm.ClassFile.FieldType)).before args0 about1 = true := code_word (m := ⟨3, 8⟩) (meth := k3m8) (c := k3c8) (by decide +kernel) rfl rfl rfl (by decide +kernel)
set_option maxRecDepth 65536 in
theorem w_c6 : (Jvm.Cond.code ({ cls := "java/lang/Math", name := "max", desc := "(II)I" } : Jvm.MethodName) jdk_29_method_65_code (2 : Nat) (Option.some Jvm.ClassFile.FieldType.int)).before args0 about1 = true := code_word (m := ⟨5, 1⟩) (meth := k5m1) (c := k5c1) (by decide +kernel) rfl rfl rfl (by decide +kernel)
set_option maxRecDepth 65536 in
theorem w_c7 : (Jvm.Cond.code ({ cls := "java/util/Arrays", name := "copyOf", desc := "([ZI)[Z" } : Jvm.MethodName) jdk_65_method_128_code (3 : Nat) (Option.some (Jvm.ClassFile.FieldType.array Jvm.ClassFile.FieldType.boolean))).before args0 about1 = true := code_word (m := ⟨6, 3⟩) (meth := k6m3) (c := k6c3) (by decide +kernel) rfl rfl rfl (by decide +kernel)
set_option maxRecDepth 65536 in
theorem w_c8 : (Jvm.Cond.code ({ cls := "java/lang/Math", name := "min", desc := "(II)I" } : Jvm.MethodName) jdk_29_method_69_code (2 : Nat) (Option.some Jvm.ClassFile.FieldType.int)).before args0 about1 = true := code_word (m := ⟨5, 2⟩) (meth := k5m2) (c := k5c2) (by decide +kernel) rfl rfl rfl (by decide +kernel)
set_option maxRecDepth 65536 in
theorem w_c9 : (Jvm.Cond.code ({ cls := "java/util/Arrays", name := "copyOf", desc := "([JI)[J" } : Jvm.MethodName) jdk_65_method_124_code (3 : Nat) (Option.some (Jvm.ClassFile.FieldType.array Jvm.ClassFile.FieldType.long))).before args0 about1 = true := code_word (m := ⟨6, 2⟩) (meth := k6m2) (c := k6c2) (by decide +kernel) rfl rfl rfl (by decide +kernel)
set_option maxRecDepth 65536 in
theorem w_c10 : (Jvm.Cond.code ({ cls := "java/util/Arrays", name := "copyOf", desc := "([II)[I" } : Jvm.MethodName) jdk_65_method_123_code (3 : Nat) (Option.some (Jvm.ClassFile.FieldType.array Jvm.ClassFile.FieldType.int))).before args0 about1 = true := code_word (m := ⟨6, 1⟩) (meth := k6m1) (c := k6c1) (by decide +kernel) rfl rfl rfl (by decide +kernel)
set_option maxRecDepth 65536 in
theorem w_c11 : (Jvm.Cond.code ({ cls := "com/example/fieldglass/fieldglass/io/Marks", name := "endMessage", desc := "(I)V" } : Jvm.MethodName) prog_13_method_3_code (2 : Nat) (Option.none : Option Jvm.ClassFile.FieldType)).before args0 about1 = true := code_word (m := ⟨3, 2⟩) (meth := k3m2) (c := k3c2) (by decide +kernel) rfl rfl rfl (by decide +kernel)
set_option maxRecDepth 65536 in
theorem w_c12 : (Jvm.Cond.code ({ cls := "com/example/fieldglass/fieldglass/io/Marks", name := "beginFields", desc := "(IJI)V" } : Jvm.MethodName) prog_13_method_4_code (5 : Nat) (Option.none : Option Jvm.ClassFile.FieldType)).before args0 about1 = true := code_word (m := ⟨3, 3⟩) (meth := k3m3) (c := k3c3) (by decide +kernel) rfl rfl rfl (by decide +kernel)
set_option maxRecDepth 65536 in
theorem w_c13 : (Jvm.Cond.code ({ cls := "com/example/fieldglass/fieldglass/io/Marks", name := "markField", desc := "(IJ)V" } : Jvm.MethodName) prog_13_method_5_code (4 : Nat) (Option.none : Option Jvm.ClassFile.FieldType)).before args0 about1 = true := code_word (m := ⟨3, 4⟩) (meth := k3m4) (c := k3c4) (by decide +kernel) rfl rfl rfl (by decide +kernel)
set_option maxRecDepth 65536 in
theorem w_c14 : (Jvm.Cond.code ({ cls := "com/example/fieldglass/fieldglass/io/Marks", name := "groupSites", desc := "(I)I" } : Jvm.MethodName) prog_13_method_9_code (2 : Nat) (Option.some Jvm.ClassFile.FieldType.int)).before args0 about1 = true := code_word (m := ⟨3, 7⟩) (meth := k3m7) (c := k3c7) (by decide +kernel) rfl rfl rfl (by decide +kernel)
set_option maxRecDepth 65536 in
theorem w_c15 : (Jvm.Cond.code ({ cls := "com/example/fieldglass/fieldglass/io/Marks", name := "mark", desc := "(IJJ)V" } : Jvm.MethodName) prog_13_method_8_code (6 : Nat) (Option.none : Option Jvm.ClassFile.FieldType)).before args0 about1 = true := code_word (m := ⟨3, 6⟩) (meth := k3m6) (c := k3c6) (by decide +kernel) rfl rfl rfl (by decide +kernel)
set_option maxRecDepth 65536 in
theorem w_c16 : (Jvm.Cond.code ({ cls := "com/example/fieldglass/fieldglass/io/Marks$Order", name := "size", desc := "()J" } : Jvm.MethodName) prog_14_method_2_code (1 : Nat) (Option.some Jvm.ClassFile.FieldType.long)).before args0 about1 = true := code_word (m := ⟨4, 1⟩) (meth := k4m1) (c := k4c1) (by decide +kernel) rfl rfl rfl (by decide +kernel)
set_option maxRecDepth 65536 in
theorem w_c17 : (Jvm.Cond.code ({ cls := "com/example/fieldglass/fieldglass/io/Marks$Order", name := "appendUnmarked", desc := "(I)V" } : Jvm.MethodName) prog_14_method_3_code (3 : Nat) (Option.none : Option Jvm.ClassFile.FieldType)).before args0 about1 = true := code_word (m := ⟨4, 2⟩) (meth := k4m2) (c := k4c2) (by decide +kernel) rfl rfl rfl (by decide +kernel)
set_option maxRecDepth 65536 in
theorem w_c18 : (Jvm.Cond.code ({ cls := "com/example/fieldglass/fieldglass/io/Marks$Order", name := "makeRoom", desc := "()V" } : Jvm.MethodName) prog_14_method_5_code (1 : Nat) (Option.none : Option Jvm.ClassFile.FieldType)).before args0 about1 = true := code_word (m := ⟨4, 4⟩) (meth := k4m4) (c := k4c4) (by decide +kernel) rfl rfl rfl (by decide +kernel)
set_option maxRecDepth 65536 in
theorem w_c19 : (Jvm.Cond.code ({ cls := "com/example/fieldglass/fieldglass/io/Marks", name := "endGroup", desc := "(IJZ)V" } : Jvm.MethodName) prog_13_method_7_code (5 : Nat) (Option.none : Option Jvm.ClassFile.FieldType)).before args0 about1 = true := code_word (m := ⟨3, 5⟩) (meth := k3m5) (c := k3c5) (by decide +kernel) rfl rfl rfl (by decide +kernel)
set_option maxRecDepth 65536 in
theorem w_c20 : (Jvm.Cond.code ({ cls := "com/example/fieldglass/fieldglass/io/Marks", name := "readBack", desc := "()V" } : Jvm.MethodName) prog_13_method_11_code (1 : Nat) (Option.none : Option Jvm.ClassFile.FieldType)).before args0 about1 = true := code_word (m := ⟨3, 9⟩) (meth := k3m9) (c := k3c9) (by decide +kernel) rfl rfl rfl (by decide +kernel)
set_option maxRecDepth 65536 in
theorem w_c21 : (Jvm.Cond.code ({ cls := "com/example/fieldglass/fieldglass/io/Marks", name := "readOnTo", desc := "(J)Z" } : Jvm.MethodName) prog_13_method_13_code (3 : Nat) (Option.some Jvm.ClassFile.FieldType.boolean)).before args0 about1 = true := code_word (m := ⟨3, 11⟩) (meth := k3m11) (c := k3c11) (by decide +kernel) rfl rfl rfl (by decide +kernel)
set_option maxRecDepth 65536 in
theorem w_c22 : (Jvm.Cond.code ({ cls := "com/example/fieldglass/fieldglass/io/Marks$Order", name := "hasNext", desc := "()Z" } : Jvm.MethodName) prog_14_method_8_code (1 : Nat) (Option.some Jvm.ClassFile.FieldType.boolean)).before args0 about1 = true := code_word (m := ⟨4, 5⟩) (meth := k4m5) (c := k4c5) (by decide +kernel) rfl rfl rfl (by decide +kernel)
set_option maxRecDepth 65536 in
theorem w_c23 : (Jvm.Cond.code ({ cls := "com/example/fieldglass/fieldglass/io/Marks$Order", name := "next", desc := "()J" } : Jvm.MethodName) prog_14_method_9_code (3 : Nat) (Option.some Jvm.ClassFile.FieldType.long)).before args0 about1 = true := code_word (m := ⟨4, 6⟩) (meth := k4m6) (c := k4c6) (by decide +kernel) rfl rfl rfl (by decide +kernel)
set_option maxRecDepth 65536 in
theorem w_c24 : (Jvm.Cond.code ({ cls := "com/example/fieldglass/fieldglass/io/Marks", name := "isMarked", desc := "(J)Z" } : Jvm.MethodName) prog_13_method_12_code (3 : Nat) (Option.some Jvm.ClassFile.FieldType.boolean)).before args0 about1 = true := code_word (m := ⟨3, 10⟩) (meth := k3m10) (c := k3c10) (by decide +kernel) rfl rfl rfl (by decide +kernel)
def codes1 : List Jvm.Cond := [Jvm.Cond.code x code maxLocals ret, Jvm.Cond.code ({ cls := "com/example/fieldglass/fieldglass/io/Marks", name := "<init>", desc := "()V" } : Jvm.MethodName) prog_13_method_1_code (1 : Nat) (Option.none : Option Jvm.ClassFile.FieldType), Jvm.Cond.code ({ cls := "java/lang/Object", name := "<init>", desc := "()V" } : Jvm.MethodName) object_method_1_code (1 : Nat) (Option.none : Option Jvm.ClassFile.FieldType), Jvm.Cond.code ({ cls := "com/example/fieldglass/fieldglass/io/Marks$Order", name := "<init>", desc := "()V" } : Jvm.MethodName) prog_14_method_1_code (1 : Nat) (Option.none : Option Jvm.ClassFile.FieldType), Jvm.Cond.code ({ cls := "com/example/fieldglass/fieldglass/io/Marks", name := "beginMessage", desc := "(I)V" } : Jvm.MethodName) prog_13_method_2_code (2 : Nat) (Option.none : Option Jvm.ClassFile.FieldType), Jvm.Cond.code ({ cls := "com/example/fieldglass/fieldglass/io/Marks", name := "makeRoomFor", desc := "(I)V" } : Jvm.MethodName) prog_13_method_10_code (3 : Nat) (Option.none : Option Jvm.ClassFile.FieldType), Jvm.Cond.code ({ cls := "java/lang/Math", name := "max", desc := "(II)I" } : Jvm.MethodName) jdk_29_method_65_code (2 : Nat) (Option.some Jvm.ClassFile.FieldType.int), Jvm.Cond.code ({ cls := "java/util/Arrays", name := "copyOf", desc := "([ZI)[Z" } : Jvm.MethodName) jdk_65_method_128_code (3 : Nat) (Option.some (Jvm.ClassFile.FieldType.array Jvm.ClassFile.FieldType.boolean)), Jvm.Cond.code ({ cls := "java/lang/Math", name := "min", desc := "(II)I" } : Jvm.MethodName) jdk_29_method_69_code (2 : Nat) (Option.some Jvm.ClassFile.FieldType.int), Jvm.Cond.code ({ cls := "java/util/Arrays", name := "copyOf", desc := "([JI)[J" } : Jvm.MethodName) jdk_65_method_124_code (3 : Nat) (Option.some (Jvm.ClassFile.FieldType.array Jvm.ClassFile.FieldType.long)), Jvm.Cond.code ({ cls := "java/util/Arrays", name := "copyOf", desc := "([II)[I" } : Jvm.MethodName) jdk_65_method_123_code (3 : Nat) (Option.some (Jvm.ClassFile.FieldType.array Jvm.ClassFile.FieldType.int)), Jvm.Cond.code ({ cls := "com/example/fieldglass/fieldglass/io/Marks", name := "endMessage", desc := "(I)V" } : Jvm.MethodName) prog_13_method_3_code (2 : Nat) (Option.none : Option Jvm.ClassFile.FieldType), Jvm.Cond.code ({ cls := "com/example/fieldglass/fieldglass/io/Marks", name := "beginFields", desc := "(IJI)V" } : Jvm.MethodName) prog_13_method_4_code (5 : Nat) (Option.none : Option Jvm.ClassFile.FieldType), Jvm.Cond.code ({ cls := "com/example/fieldglass/fieldglass/io/Marks", name := "markField", desc := "(IJ)V" } : Jvm.MethodName) prog_13_method_5_code (4 : Nat) (Option.none : Option Jvm.ClassFile.FieldType), Jvm.Cond.code ({ cls := "com/example/fieldglass/fieldglass/io/Marks", name := "groupSites", desc := "(I)I" } : Jvm.MethodName) prog_13_method_9_code (2 : Nat) (Option.some Jvm.ClassFile.FieldType.int), Jvm.Cond.code ({ cls := "com/example/fieldglass/fieldglass/io/Marks", name := "mark", desc := "(IJJ)V" } : Jvm.MethodName) prog_13_method_8_code (6 : Nat) (Option.none : Option Jvm.ClassFile.FieldType), Jvm.Cond.code ({ cls := "com/example/fieldglass/fieldglass/io/Marks$Order", name := "size", desc := "()J" } : Jvm.MethodName) prog_14_method_2_code (1 : Nat) (Option.some Jvm.ClassFile.FieldType.long), Jvm.Cond.code ({ cls := "com/example/fieldglass/fieldglass/io/Marks$Order", name := "appendUnmarked", desc := "(I)V" } : Jvm.MethodName) prog_14_method_3_code (3 : Nat) (Option.none : Option Jvm.ClassFile.FieldType), Jvm.Cond.code ({ cls := "com/example/fieldglass/fieldglass/io/Marks$Order", name := "makeRoom", desc := "()V" } : Jvm.MethodName) prog_14_method_5_code (1 : Nat) (Option.none : Option Jvm.ClassFile.FieldType), Jvm.Cond.code ({ cls := "com/example/fieldglass/fieldglass/io/Marks", name := "endGroup", desc := "(IJZ)V" } : Jvm.MethodName) prog_13_method_7_code (5 : Nat) (Option.none : Option Jvm.ClassFile.FieldType), Jvm.Cond.code ({ cls := "com/example/fieldglass/fieldglass/io/Marks", name := "readBack", desc := "()V" } : Jvm.MethodName) prog_13_method_11_code (1 : Nat) (Option.none : Option Jvm.ClassFile.FieldType), Jvm.Cond.code ({ cls := "com/example/fieldglass/fieldglass/io/Marks", name := "readOnTo", desc := "(J)Z" } : Jvm.MethodName) prog_13_method_13_code (3 : Nat) (Option.some Jvm.ClassFile.FieldType.boolean), Jvm.Cond.code ({ cls := "com/example/fieldglass/fieldglass/io/Marks$Order", name := "hasNext", desc := "()Z" } : Jvm.MethodName) prog_14_method_8_code (1 : Nat) (Option.some Jvm.ClassFile.FieldType.boolean), Jvm.Cond.code ({ cls := "com/example/fieldglass/fieldglass/io/Marks$Order", name := "next", desc := "()J" } : Jvm.MethodName) prog_14_method_9_code (3 : Nat) (Option.some Jvm.ClassFile.FieldType.long), Jvm.Cond.code ({ cls := "com/example/fieldglass/fieldglass/io/Marks", name := "isMarked", desc := "(J)Z" } : Jvm.MethodName) prog_13_method_12_code (3 : Nat) (Option.some Jvm.ClassFile.FieldType.boolean)]
set_option maxRecDepth 65536 in
theorem codes_eq : words1.filter isCode = codes1 := rfl
theorem w_codes : ∀ c ∈ words1.filter isCode, c.before args0 about1 = true := by
  rw [codes_eq]
  intro c hc
  simp only [codes1, List.mem_cons, List.not_mem_nil, or_false] at hc
  rcases hc with rfl | rfl | rfl | rfl | rfl | rfl | rfl | rfl | rfl | rfl | rfl | rfl | rfl | rfl | rfl | rfl | rfl | rfl | rfl | rfl | rfl | rfl | rfl | rfl | rfl
  · exact w_c0
  · exact w_c1
  · exact w_c2
  · exact w_c3
  · exact w_c4
  · exact w_c5
  · exact w_c6
  · exact w_c7
  · exact w_c8
  · exact w_c9
  · exact w_c10
  · exact w_c11
  · exact w_c12
  · exact w_c13
  · exact w_c14
  · exact w_c15
  · exact w_c16
  · exact w_c17
  · exact w_c18
  · exact w_c19
  · exact w_c20
  · exact w_c21
  · exact w_c22
  · exact w_c23
  · exact w_c24
set_option maxRecDepth 65536 in
theorem w_t1 : (words1.take 24).all (fun c => isCode c || c.before args0 about1) = true := by decide +kernel
set_option maxRecDepth 65536 in
theorem w_t2 : ((words1.drop 24).take 24).all (fun c => isCode c || c.before args0 about1) = true := by decide +kernel
set_option maxRecDepth 65536 in
theorem w_t3 : (((words1.drop 24).drop 24).take 24).all (fun c => isCode c || c.before args0 about1) = true := by decide +kernel
set_option maxRecDepth 65536 in
theorem w_t4 : ((((words1.drop 24).drop 24).drop 24).take 24).all (fun c => isCode c || c.before args0 about1) = true := by decide +kernel
set_option maxRecDepth 65536 in
theorem w_t5 : (((((words1.drop 24).drop 24).drop 24).drop 24).take 24).all (fun c => isCode c || c.before args0 about1) = true := by decide +kernel
set_option maxRecDepth 65536 in
theorem w_t6 : ((((((words1.drop 24).drop 24).drop 24).drop 24).drop 24).take 24).all (fun c => isCode c || c.before args0 about1) = true := by decide +kernel
set_option maxRecDepth 65536 in
theorem w_t7 : (((((((words1.drop 24).drop 24).drop 24).drop 24).drop 24).drop 24).take 24).all (fun c => isCode c || c.before args0 about1) = true := by decide +kernel
set_option maxRecDepth 65536 in
theorem w_t8 : (((((((words1.drop 24).drop 24).drop 24).drop 24).drop 24).drop 24).drop 24).all (fun c => isCode c || c.before args0 about1) = true := by decide +kernel
theorem w_tables : (allAtoms (Jvm.Cond.code x code maxLocals ret :: tables_1)).before args0 about1 = true := by
  rw [allAtoms_all]
  show words1.all (fun c => c.before args0 about1) = true
  refine all_split ?_ w_codes
  rw [← List.take_append_drop 24 words1, List.all_append, w_t1, ← List.take_append_drop 24 (words1.drop 24), List.all_append, w_t2, ← List.take_append_drop 24 ((words1.drop 24).drop 24), List.all_append, w_t3, ← List.take_append_drop 24 (((words1.drop 24).drop 24).drop 24), List.all_append, w_t4, ← List.take_append_drop 24 ((((words1.drop 24).drop 24).drop 24).drop 24), List.all_append, w_t5, ← List.take_append_drop 24 (((((words1.drop 24).drop 24).drop 24).drop 24).drop 24), List.all_append, w_t6, ← List.take_append_drop 24 ((((((words1.drop 24).drop 24).drop 24).drop 24).drop 24).drop 24), List.all_append, w_t7, w_t8]
  rfl
set_option maxRecDepth 65536 in
theorem w_case : (Jvm.Cond.and given_1 narrow_1).before args0 about1 = true := by decide +kernel
theorem w_applies : (headSpec (Jvm.Cond.code x code maxLocals ret :: tables_1) room_1).applies x e0.platform about1 = true :=
  (Spec.applies_iff w_frames).mpr ⟨w_running, w_runnable, w_alone, w_named, w_hears, w_ripe, w_room, w_tables⟩
theorem atStart : AtStart classFile x code maxLocals ret World_1 tables_1 room_1 Calls_1 rest_1 Pre_1 launch0 p0 e0 about1 theMethod args0 below0 :=
  ⟨lists_1, trivial, launch0.admits_env _ _ _, launch0.least_env, fairChoices_fair.cas, fairChoices_fair.clock, w_frames, w_args, w_heap, w_applies, trivial, trivial, w_case⟩
end start1
theorem witness_1 : WitnessClaimed_1 := ⟨start1.p0, start1.e0, start1.about1, start1.theMethod, start1.args0, start1.below0, start1.atStart⟩
end Jvm.Pilot.@@N@@
