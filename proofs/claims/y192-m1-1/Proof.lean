import JvmDerived
import JvmDerived.Pilot.@@N@@Statement
import JvmDerived.Pilot.@@N@@Code
set_option linter.unusedVariables false
set_option linter.unusedSimpArgs false
namespace Jvm.Pilot.@@N@@
open Jvm Jvm.ClassFile Sem Op Lib Jvm.Free Jvm.Stand Jvm.LawKit Jvm.RoadKit Bundle Jvm.Pilot.@@N@@.Jvm.D
section Own
variable {p : Program} {l : Launch} {e : Env} {R : Room} {s : State} {m : MethodId} {args : Array Value} {below : List Frame} {meth : Method} {c : Code} {T T' : State} {locs : List Loc} {cells slots : Nat} {Qf : Option Value → Heap → List Loc → Prop} {C S : Nat} {F F' : JFrame}
/-- from the state T with the frame F on top the invocation ends as Qf says -/
def own_Go (p : Program) (e : Env) (below : List Frame) (s : State) (Qf : Option Value → Heap → List Loc → Prop) (C S : Nat) (T : State) (F : JFrame) : Prop :=
  ∃ s₂ o, Steps p.tables e below (T.setTop F) s₂ ∧ s₂.status = .running ∧ Ended s₂ below o ∧ ∃ v L, o = .returned v ∧ Qf v s₂.heap L ∧ FrameEnd s o s₂ L C S
theorem own_enter (q : F = F') (hr : own_Go p e below s Qf C S T F') : ∃ s₂ o, Steps p.tables e below (T.setTop F) s₂ ∧ s₂.status = .running ∧ Ended s₂ below o ∧ ∃ v L, o = .returned v ∧ Qf v s₂.heap L ∧ FrameEnd s o s₂ L C S := by
  subst q; exact hr
theorem own_st (st : ∀ t, Steps p.tables e below (T'.setTop F') t → Steps p.tables e below (T.setTop F) t) (hr : own_Go p e below s Qf C S T' F') : own_Go p e below s Qf C S T F := by
  obtain ⟨s2, o, h1, h2⟩ := hr
  exact ⟨s2, o, st _ h1, h2⟩
theorem own_tr (st : Steps p.tables e below (T.setTop F) (T'.setTop F')) (hr : own_Go p e below s Qf C S T' F') : own_Go p e below s Qf C S T F := by
  obtain ⟨s2, o, h1, h2⟩ := hr
  exact ⟨s2, o, st.trans h1, h2⟩
theorem own_ret (X : Stand p l e R s m args below meth c T locs cells slots) (hlk : meth.locks = false) {v : Option Value} (hv : meth.sig.returnType = none → v = none)
    (st : ∀ fs, (∀ (f : JFrame) (acts : List Action), f.method = m → f.locked = none → f.entered = [] → (doReturn e (T.setTop f) acts v).1 = T.setFrames fs) → Steps p.tables e below (T.setTop F) (T.setFrames fs))
    (hQ : Qf v T.heap locs) (hC : cells ≤ C) (hS : slots ≤ S) : own_Go p e below s Qf C S T F := by
  obtain ⟨fs, hr, hrun, hended, hW, hsame⟩ := X.leave (v := v) hv hlk
  exact ⟨_, _, st fs hr, hrun, hended, _, _, rfl, hQ, ⟨_, rfl⟩, hW, hsame.mono hC hS⟩
theorem own_retN (X : Stand p l e R s m args below meth c T locs cells slots) (hx : p.tables.exec = Jvm.exec) (hlk : meth.locks = false) {pc : Nat} {Ls : Array Slot} {z : Int32} {t : FieldType} {rest : List Value} (hret : meth.sig.returnType = some t) (ht : t = .boolean ∨ t = .byte ∨ t = .char ∨ t = .short) (hd : decode c.code pc = .ok (.ireturn, 1))
    (hQ : Qf (some (.int (nar t z))) T.heap locs) (hC : cells ≤ C) (hS : slots ≤ S) : own_Go p e below s Qf C S T (mkF m pc Ls (.int z :: rest)) :=
  own_ret X hlk (fun h => by rw [hret] at h; cases h) (fun _ hr => retN X hx hret ht hd hr) hQ hC hS
theorem own_retI (X : Stand p l e R s m args below meth c T locs cells slots) (hx : p.tables.exec = Jvm.exec) (hlk : meth.locks = false) {pc : Nat} {Ls : Array Slot} {z : Int32} {rest : List Value} (hret : meth.sig.returnType = some .int) (hd : decode c.code pc = .ok (.ireturn, 1))
    (hQ : Qf (some (.int z)) T.heap locs) (hC : cells ≤ C) (hS : slots ≤ S) : own_Go p e below s Qf C S T (mkF m pc Ls (.int z :: rest)) :=
  own_ret X hlk (fun h => by rw [hret] at h; cases h) (fun _ hr => retOut X hx hret rfl (Or.inl ⟨rfl, Or.inl rfl, _, rfl⟩) hd hr) hQ hC hS
theorem own_retJ (X : Stand p l e R s m args below meth c T locs cells slots) (hx : p.tables.exec = Jvm.exec) (hlk : meth.locks = false) {pc : Nat} {Ls : Array Slot} {z : Int64} {rest : List Value} (hret : meth.sig.returnType = some .long) (hd : decode c.code pc = .ok (.lreturn, 1))
    (hQ : Qf (some (.long z)) T.heap locs) (hC : cells ≤ C) (hS : slots ≤ S) : own_Go p e below s Qf C S T (mkF m pc Ls (.long z :: rest)) :=
  own_ret X hlk (fun h => by rw [hret] at h; cases h) (fun _ hr => retOut X hx hret rfl (Or.inr (Or.inl ⟨rfl, rfl, _, rfl⟩)) hd hr) hQ hC hS
theorem own_retA (X : Stand p l e R s m args below meth c T locs cells slots) (hx : p.tables.exec = Jvm.exec) (hlk : meth.locks = false) {pc : Nat} {Ls : Array Slot} {w : Value} {t : FieldType} {rest : List Value} (hret : meth.sig.returnType = some t) (ht : t.isReference = true) (hw : w.isRef = true) (hn : narrow t w = w) (hd : decode c.code pc = .ok (.areturn, 1))
    (hQ : Qf (some w) T.heap locs) (hC : cells ≤ C) (hS : slots ≤ S) : own_Go p e below s Qf C S T (mkF m pc Ls (w :: rest)) :=
  own_ret X hlk (fun h => by rw [hret] at h; cases h) (fun _ hr => retOut X hx hret hn (Or.inr (Or.inr (Or.inr (Or.inr ⟨rfl, ht, hw⟩)))) hd hr) hQ hC hS
theorem own_retV (X : Stand p l e R s m args below meth c T locs cells slots) (hx : p.tables.exec = Jvm.exec) (hlk : meth.locks = false) {pc : Nat} {Ls : Array Slot} (hret : meth.sig.returnType = none) (hd : decode c.code pc = .ok (.return_, 1))
    (hQ : Qf none T.heap locs) (hC : cells ≤ C) (hS : slots ≤ S) : own_Go p e below s Qf C S T (mkF m pc Ls []) :=
  own_ret X hlk (fun _ => rfl) (fun _ hr => X.returnOut hx hret hd hr) hQ hC hS
def own_cc : ClassFile.Cond → Int32 → Int32 → Prop
  | .eq, x, y => x = y
  | .ne, x, y => ¬ x = y
  | .lt, x, y => x < y
  | .ge, x, y => ¬ x < y
  | .gt, x, y => y < x
  | .le, x, y => ¬ y < x
def own_nn : ClassFile.Cond → Int32 → Int32 → Prop
  | .eq, x, y => ¬ x = y
  | .ne, x, y => x = y
  | .lt, x, y => ¬ x < y
  | .ge, x, y => x < y
  | .gt, x, y => ¬ y < x
  | .le, x, y => y < x
theorem own_split (cd : ClassFile.Cond) (x y : Int32) : (own_cc cd x y ∧ if_icmp.holds cd x y = true) ∨ (own_nn cd x y ∧ if_icmp.holds cd x y = false) := by
  cases cd
  · by_cases h : x = y
    · exact Or.inl ⟨h, (teq h).1⟩
    · exact Or.inr ⟨h, (feq h).1⟩
  · by_cases h : x = y
    · exact Or.inr ⟨h, (teq h).2⟩
    · exact Or.inl ⟨h, (feq h).2⟩
  · by_cases h : x < y
    · exact Or.inl ⟨h, (tlt h).1⟩
    · exact Or.inr ⟨h, (flt h).1⟩
  · by_cases h : x < y
    · exact Or.inr ⟨h, (tlt h).2.1⟩
    · exact Or.inl ⟨h, (flt h).2.1⟩
  · by_cases h : y < x
    · exact Or.inl ⟨h, (tlt h).2.2.1⟩
    · exact Or.inr ⟨h, (flt h).2.2.1⟩
  · by_cases h : y < x
    · exact Or.inr ⟨h, (tlt h).2.2.2⟩
    · exact Or.inl ⟨h, (flt h).2.2.2⟩
theorem own_icmp (X : Stand p l e R s m args below meth c T locs cells slots) (hx : p.tables.exec = Jvm.exec) {pc pc' pc2 : Nat} {Ls : Array Slot} {st : List Value} {x y : Int32} {cd : ClassFile.Cond} {o : Int} (hd : decode c.code pc = .ok (.if_icmp cd o, 3)) (ho : 0 ≤ (pc : Int) + o) (hp : ((pc : Int) + o).toNat = pc') (h2 : pc + 3 = pc2)
    (hY : own_cc cd x y → own_Go p e below s Qf C S T (mkF m pc' Ls st)) (hN : own_nn cd x y → own_Go p e below s Qf C S T (mkF m pc2 Ls st)) : own_Go p e below s Qf C S T (mkF m pc Ls (.int y :: .int x :: st)) := by
  subst h2
  rcases own_split cd x y with ⟨h, q⟩ | ⟨h, q⟩
  · exact own_st (fun _ k => XS.icmpYes X.here hx rfl (pc0 := pc) (pc' := pc') rfl hd rfl q ho hp k) (hY h)
  · exact own_st (fun _ k => XS.icmpNo X.here hx rfl hd rfl q k) (hN h)
theorem own_ifc (X : Stand p l e R s m args below meth c T locs cells slots) (hx : p.tables.exec = Jvm.exec) {pc pc' pc2 : Nat} {Ls : Array Slot} {st : List Value} {x : Int32} {cd : ClassFile.Cond} {o : Int} (hd : decode c.code pc = .ok (.ifCond cd o, 3)) (ho : 0 ≤ (pc : Int) + o) (hp : ((pc : Int) + o).toNat = pc') (h2 : pc + 3 = pc2)
    (hY : own_cc cd x 0 → own_Go p e below s Qf C S T (mkF m pc' Ls st)) (hN : own_nn cd x 0 → own_Go p e below s Qf C S T (mkF m pc2 Ls st)) : own_Go p e below s Qf C S T (mkF m pc Ls (.int x :: st)) := by
  subst h2
  rcases own_split cd x 0 with ⟨h, q⟩ | ⟨h, q⟩
  · exact own_st (fun _ k => XS.ifYes X.here hx rfl (pc0 := pc) (pc' := pc') rfl hd rfl ((if0 _ _).trans q) ho hp k) (hY h)
  · exact own_st (fun _ k => XS.ifNo X.here hx rfl hd rfl ((if0 _ _).trans q) k) (hN h)
def own_ccL : ClassFile.Cond → Int64 → Int64 → Prop
  | .eq, x, y => x = y
  | .ne, x, y => ¬ x = y
  | .lt, x, y => x < y
  | .ge, x, y => ¬ x < y
  | .gt, x, y => y < x
  | .le, x, y => ¬ y < x
def own_nnL : ClassFile.Cond → Int64 → Int64 → Prop
  | .eq, x, y => ¬ x = y
  | .ne, x, y => x = y
  | .lt, x, y => ¬ x < y
  | .ge, x, y => x < y
  | .gt, x, y => ¬ y < x
  | .le, x, y => y < x
theorem own_lc (cd : ClassFile.Cond) (x y : Int64) : (own_cc cd (lcmpW x y) 0 → own_ccL cd x y) ∧ (own_nn cd (lcmpW x y) 0 → own_nnL cd x y) := by
  have h1 : x > y → lcmpW x y = 1 := fun h => by simp [lcmpW, h]
  have h2 : x = y → lcmpW x y = 0 := fun h => by subst h; simp [lcmpW, Int64.lt_irrefl]
  have h3 : ¬ x > y → ¬ x = y → lcmpW x y = -1 := fun h h' => by simp [lcmpW, h, h']
  have lt : x < y ↔ lcmpW x y < 0 := by
    by_cases a : x > y
    · rw [h1 a]; exact ⟨fun b => absurd (Int64.lt_trans a b) (Int64.lt_irrefl), fun b => absurd b (by decide)⟩
    · by_cases b : x = y
      · rw [h2 b, b]; exact ⟨fun q => absurd q (Int64.lt_irrefl), fun q => absurd q (by decide)⟩
      · rw [h3 a b]; exact ⟨fun _ => by decide, fun _ => by
          rw [Int64.lt_iff_toInt_lt]; simp only [gt_iff_lt, Int64.lt_iff_toInt_lt] at a
          have : x.toInt ≠ y.toInt := fun q => b (Int64.toInt_inj.mp q)
          omega⟩
  have gt : y < x ↔ 0 < lcmpW x y := by
    by_cases a : x > y
    · rw [h1 a]; exact ⟨fun _ => by decide, fun _ => a⟩
    · by_cases b : x = y
      · rw [h2 b]; exact ⟨fun q => absurd q a, fun q => absurd q (by decide)⟩
      · rw [h3 a b]; exact ⟨fun q => absurd q a, fun q => absurd q (by decide)⟩
  have eq : x = y ↔ lcmpW x y = 0 := by
    by_cases a : x > y
    · rw [h1 a]; exact ⟨fun b => absurd a (by rw [b]; exact Int64.lt_irrefl), fun b => absurd b (by decide)⟩
    · by_cases b : x = y
      · exact ⟨fun _ => h2 b, fun _ => b⟩
      · rw [h3 a b]; exact ⟨fun q => absurd q b, fun q => absurd q (by decide)⟩
  cases cd
  · exact ⟨fun h => eq.mpr h, fun h q => h (eq.mp q)⟩
  · exact ⟨fun h q => h (eq.mp q), fun h => eq.mpr h⟩
  · exact ⟨fun h => lt.mpr h, fun h q => h (lt.mp q)⟩
  · exact ⟨fun h q => h (lt.mp q), fun h => lt.mpr h⟩
  · exact ⟨fun h => gt.mpr h, fun h q => h (gt.mp q)⟩
  · exact ⟨fun h q => h (gt.mp q), fun h => gt.mpr h⟩
theorem own_iflc (X : Stand p l e R s m args below meth c T locs cells slots) (hx : p.tables.exec = Jvm.exec) {pc pc' pc2 : Nat} {Ls : Array Slot} {st : List Value} {x y : Int64} {cd : ClassFile.Cond} {o : Int} (hd : decode c.code pc = .ok (.ifCond cd o, 3)) (ho : 0 ≤ (pc : Int) + o) (hp : ((pc : Int) + o).toNat = pc') (h2 : pc + 3 = pc2)
    (hY : own_ccL cd x y → own_Go p e below s Qf C S T (mkF m pc' Ls st)) (hN : own_nnL cd x y → own_Go p e below s Qf C S T (mkF m pc2 Ls st)) : own_Go p e below s Qf C S T (mkF m pc Ls (.int (lcmpW x y) :: st)) :=
  own_ifc X hx hd ho hp h2 (fun h => hY ((own_lc cd x y).1 h)) (fun h => hN ((own_lc cd x y).2 h))
theorem own_acmp (X : Stand p l e R s m args below meth c T locs cells slots) (hx : p.tables.exec = Jvm.exec) {pc pc' pc2 : Nat} {Ls : Array Slot} {st : List Value} {x y : Addr} {o : Int} {cd : ACond} (hd : decode c.code pc = .ok (.if_acmp cd o, 3)) (ho : 0 ≤ (pc : Int) + o) (hp : ((pc : Int) + o).toNat = pc') (h2 : pc + 3 = pc2)
    (hE : x = y → own_Go p e below s Qf C S T (mkF m (if acV cd true = true then pc' else pc2) Ls st)) (hN : ¬ x = y → own_Go p e below s Qf C S T (mkF m (if acV cd false = true then pc' else pc2) Ls st)) : own_Go p e below s Qf C S T (mkF m pc Ls (.ref y :: .ref x :: st)) := by
  subst h2 hp
  by_cases h : x = y
  · exact own_st (fun _ k => Jvm.RoadKit.acmp (g := mkF m pc Ls (.ref y :: .ref x :: st)) X hx rfl rfl rfl (pc0 := pc) (same := true) rfl hd rfl (decide_eq_true (congrArg Value.ref h)) ho rfl k) (hE h)
  · exact own_st (fun _ k => Jvm.RoadKit.acmp (g := mkF m pc Ls (.ref y :: .ref x :: st)) X hx rfl rfl rfl (pc0 := pc) (same := false) rfl hd rfl (decide_eq_false fun q => h (Value.ref.inj q)) ho rfl k) (hN h)
theorem own_ord {Z : State} {a0 : Array Value} {t : Term} {a : Addr} {C n d : String} {k : Int32} (ev : t.eval a0 Z none [] Z = some (.ref a)) (h : (Cond.eq (Term.field t C n d) (Term.int k)).value a0 Z none Z [] = some true) : Fld Z Z.heap a C n d (.int k) := by
  have e1 : (Term.field t C n d).eval a0 Z none [] Z = Z.fieldOf? a C n d := fld_at ev
  simp only [Cond.value, e1] at h
  cases hq : Z.fieldOf? a C n d with
  | none => simp [hq] at h
  | some v =>
    rw [hq] at h
    cases v <;> simp [Term.eval] at h
    subst h
    exact Fld.start hq
theorem own_narb {z : Int32} (h : z = 0 ∨ z = 1) : nar .boolean z = z := by rcases h with rfl | rfl <;> rfl
theorem own_stk {Z : State} {h h' : Heap} {C n d : String} {v : Value} {ws : List Addr} (F : Sta Z h C n d v) (K : Keep h h' ws) (q : ∀ x ∈ ws, ∀ c : Cell, h[x]? = some c → c.vm.isStatics = false) : Sta Z h' C n d v := by
  obtain ⟨cf, i, k, f, st, cell, h1, h2, h3, h4, h5, h6, h7⟩ := F
  exact ⟨cf, i, k, f, st, cell, h1, h2, h3, h4, K.2.1 st cell h5 (fun z => by rw [q st z cell h5] at h6; cases h6), h6, h7⟩
theorem own_npE {Z : State} {h : Heap} {a : Addr} {C : String} (E : Exa Z h a C) : ∀ c : Cell, h[a]? = some c → c.vm.isStatics = false := fun c hc => by
  obtain ⟨cell, k, h1, h2, h3, h4, h5⟩ := E
  cases h1.symm.trans hc
  exact h4
theorem own_npA {Z : State} {h : Heap} {a : Addr} {k : ClassId} {ty : FieldType} {z : Int32} {vs : List Value} {dv : Value} (V : Arv Z h a k ty z vs dv) : ∀ c : Cell, h[a]? = some c → c.vm.isStatics = false := fun c hc => by
  obtain ⟨cl, A, r⟩ := V
  cases A.1.symm.trans hc
  exact A.plain
theorem own_len {Z : State} {a0 : Array Value} {t : Term} {a : Addr} {cl : Cell} {ty : FieldType} {k : Int32} (ev : t.eval a0 Z none [] Z = some (.ref a)) (A : Arr Z Z.heap a cl ty) (h : (Cond.eq (Term.length t) (Term.int k)).value a0 Z none Z [] = some true) : cl.slots.size < 2 ^ 31 ∧ cl.slots.size.toInt32 = k := by
  have ha : Z.arrayAt? a = some cl := IntBox.arrayAt_of A.1 A.2.1 A.2.2
  simp only [Cond.value, Term.eval, ev, Option.bind_eq_bind, Option.bind_some, ha] at h
  by_cases q : cl.slots.size < 2 ^ 31
  · simp [q] at h; exact ⟨q, h⟩
  · simp [q] at h
theorem own_elem {Z : State} {a0 : Array Value} {t : Term} {a : Addr} {cl : Cell} {ty : FieldType} {j v : Int32} (ev : t.eval a0 Z none [] Z = some (.ref a)) (A : Arr Z Z.heap a cl ty) (hj : ¬ j < 0) (h : (Cond.eq (Term.elem t (Term.int j)) (Term.int v)).value a0 Z none Z [] = some true) : cl.slots[j.toNatClampNeg]? = some (.int v) := by
  have ha : Z.arrayAt? a = some cl := IntBox.arrayAt_of A.1 A.2.1 A.2.2
  have e1 : (Term.elem t (Term.int j)).eval a0 Z none [] Z = cl.slots[j.toNatClampNeg]? := elem_f ev rfl ha hj
  simp only [Cond.value, e1] at h
  cases hq : cl.slots[j.toNatClampNeg]? with
  | none => simp [hq] at h
  | some w =>
    rw [hq] at h
    cases w <;> simp [Term.eval] at h
    rw [h]
theorem own_arvex {Z : State} {a : Addr} {cl : Cell} {ty : FieldType} {z : Int32} {dv : Value} (hf : Fit Z) (A : Arr Z Z.heap a cl ty) (q : cl.slots.size < 2 ^ 31) (e : cl.slots.size.toInt32 = z) (hz : ¬ z < 0) : ∃ vs, Arv Z Z.heap a cl.cls ty z vs dv := by
  have S : cl.slots.size = z.toNatClampNeg := by rw [← e]; simp only [Int32.toNatClampNeg, len_toInt q]; rfl
  have H : Has cl cl.slots.toList dv := fun k hk => by
    rw [List.getD_eq_getElem?_getD, Array.getElem?_toList, Array.getElem?_eq_getElem hk]; rfl
  refine ⟨cl.slots.toList, cl, A, rfl, S, hz, H, fun j hj => ?_⟩
  have e1 : (Nat.toInt32 j).toNatClampNeg = j := by simp only [Int32.toNatClampNeg, len_toInt (Nat.lt_trans hj q)]; rfl
  exact elem_fits (j := Nat.toInt32 j) hf A (idx_in hj q) (by rw [e1]; exact H j hj)
theorem own_selp {s : State} {args : Array Value} {y : MethodName} {n : Nat} (wi : (Cond.instantiable y.cls n).before args s = true) (hp : s.PrivateAt y) (hi : (Cond.instanceMethod y).before args s = true) (hy : y.cls ≠ "java/lang/invoke/MethodHandle" ∧ y.cls ≠ "java/lang/invoke/VarHandle") : (Cond.selects y.cls y y).before args s = true := by
  obtain ⟨c, k, hc, hk, -, hf, -⟩ := Cond.instantiable_spec wi
  exact selects_self_of_private hc hk (by simp only [Bool.or_eq_false_iff] at hf; exact hf.1) hp hi hy
theorem own_nar0 : nar .boolean (0 : Int32) = 0 := rfl
theorem own_nar1 : nar .boolean (1 : Int32) = 1 := rfl
end Own

theorem own_addz (a d : Int32) : a = a + d ↔ d = 0 := by
  constructor
  · intro h
    have := congrArg (fun z => z - a) h
    simpa [Int32.sub_self, Int32.add_comm a d, Int32.add_sub_cancel] using this.symm
  · rintro rfl; simp

theorem d2_0 : decode jdk_30_method_1_code 0 = .ok (.aload_n 0, 1) := by decide +kernel
theorem d2_1 : decode jdk_30_method_1_code 1 = .ok (.invokespecial 1, 3) := by decide +kernel
theorem d2_4 : decode jdk_30_method_1_code 4 = .ok (.return_, 1) := by decide +kernel
theorem own_pn2 : plainName "java/lang/Record" = true := by first | (simp [plainName, overriddenIn]; done) | decide +kernel
theorem own_ef2 (m : MethodId) (o : Addr) : entryFrame m #[(.ref o)] 1 = (mkF m 0 #[.val (.ref o)] []) := by first | (simp [entryFrame, mkF, argsToLocals, Value.category]; done) | rfl
def Q2 (Z : State) (o : Addr)  (h0 : Heap) (n0 : Nat) (v : Option Value) (h : Heap) (L : List Loc) : Prop := v = none ∧ Fr n0 L ∧ h = h0
set_option maxRecDepth 65536 in
set_option maxHeartbeats 40000000 in
theorem rm2 (l : Launch) (Z : State) (a0 : Array Value) (hw : ∀ d ∈ tables_1, d.before a0 Z = true) (ws : List Jvm.Cond) (o : Addr)  (h0 : Heap) (n0 : Nat) (Z0 : n0 ≤ h0.size)  :
    MetFree l (⟨"java/lang/Record", "<init>", "()V"⟩ : MethodName) (head1 (Jvm.Cond.code (⟨"java/lang/Record", "<init>", "()V"⟩ : MethodName) jdk_30_method_1_code 1 none :: ws) ({ frames := 1, cells := 0, slots := 0, locals := 12 } : Room)) (fun a U => a = #[(.ref o)] ∧ Z.Warmed39 U.vm ∧ U.heap = h0) (fun _ _ _ _ _ => True) (fun _ U oc U' => ∃ v L, oc = .returned v ∧ Q2 Z o  h0 n0 v U'.heap L ∧ FrameEnd U oc U' L ({ frames := 1, cells := 0, slots := 0, locals := 12 } : Room).cells ({ frames := 1, cells := 0, slots := 0, locals := 12 } : Room).slots) := by
  refine MetFree.of_bodySF (plainFor_of_name own_pn2) hisR ?_
  intro p e s m args below meth c s₁ Bd hml0 hP hK
  obtain ⟨rfl, hZ, hh⟩ := hP
  have hx := Bd.exec
  have hby := Bd.bytes
  have hlk : meth.locks = false := BodyLoose.notSynchronized Bd
  have hml : c.maxLocals = 1 := hml0
  have hown : s.vm.findClass "java/lang/Record" = some m.cls := findClass_of_methodNamed Bd.named
  have hnm := (name_of_methodNamed Bd.named Bd.method).1
  have X0 : Stand p l e ({ frames := 1, cells := 0, slots := 0, locals := 12 } : Room) s m #[(.ref o)] below meth c s₁ [] 0 0 := Stand.of_body Bd
  have e0 : s₁.heap = h0 := by rw [← hh, Bd.state]; rfl
  have N0 := Fr.nil n0
  refine own_enter (own_ef2 m o) ?_
  show own_Go p e below s (Q2 Z o  h0 n0) ({ frames := 1, cells := 0, slots := 0, locals := 12 } : Room).cells ({ frames := 1, cells := 0, slots := 0, locals := 12 } : Room).slots s₁ (mkF m 0 #[.val (.ref o)] [])
  refine own_st (T' := s₁) (F' := (mkF m 1 #[.val (.ref o)] [(.ref o)])) (fun _ k => XS.aloadN X0.here hx rfl (hb hby d2_0) rfl rfl k) ?_
  obtain ⟨T1, X1, e1, st1⟩ := initO X0 hx hZ hown (hw _ (List.mem_of_getElem? (i := 11) rfl)) (hw _ (List.mem_of_getElem? (i := 12) rfl)) (hw _ (List.mem_of_getElem? (i := 13) rfl)) e0 (g := (mkF m 1 #[.val (.ref o)] [(.ref o)])) rfl (by rw [hml]; rfl) rfl (hb hby d2_1) (by decide) (W := 0) (by show 2 * 0 + _ ≤ _; exact Nat.le_of_eq rfl) (by decide)
  refine own_st (T' := T1) (F' := (mkF m 4 #[.val (.ref o)] [])) (fun _ k => st1 _ k) ?_
  refine own_retV X1 hx hlk Bd.returns (hb hby d2_4) ?_ (by decide) (by decide)
  rw [e1]
  refine ⟨rfl, N0, rfl⟩
theorem own_pd0 : parseMethodDescriptor "()V" = some ⟨[], none⟩ := by decide +kernel
theorem d1_0 : decode prog_11_method_1_code 0 = .ok (.aload_n 0, 1) := by decide +kernel
theorem d1_1 : decode prog_11_method_1_code 1 = .ok (.invokespecial 1, 3) := by decide +kernel
theorem d1_4 : decode prog_11_method_1_code 4 = .ok (.aload_n 0, 1) := by decide +kernel
theorem d1_5 : decode prog_11_method_1_code 5 = .ok (.iload_n 1, 1) := by decide +kernel
theorem d1_6 : decode prog_11_method_1_code 6 = .ok (.putfield 7, 3) := by decide +kernel
theorem d1_9 : decode prog_11_method_1_code 9 = .ok (.aload_n 0, 1) := by decide +kernel
theorem d1_10 : decode prog_11_method_1_code 10 = .ok (.iload_n 2, 1) := by decide +kernel
theorem d1_11 : decode prog_11_method_1_code 11 = .ok (.putfield 13, 3) := by decide +kernel
theorem d1_14 : decode prog_11_method_1_code 14 = .ok (.aload_n 0, 1) := by decide +kernel
theorem d1_15 : decode prog_11_method_1_code 15 = .ok (.iload_n 3, 1) := by decide +kernel
theorem d1_16 : decode prog_11_method_1_code 16 = .ok (.putfield 16, 3) := by decide +kernel
theorem d1_19 : decode prog_11_method_1_code 19 = .ok (.aload_n 0, 1) := by decide +kernel
theorem d1_20 : decode prog_11_method_1_code 20 = .ok (.iload 4, 2) := by decide +kernel
theorem d1_22 : decode prog_11_method_1_code 22 = .ok (.putfield 19, 3) := by decide +kernel
theorem d1_25 : decode prog_11_method_1_code 25 = .ok (.return_, 1) := by decide +kernel
theorem own_pn1 : plainName "com/example/promulgate/promulgate/LineDiff$Run" = true := by first | (simp [plainName, overriddenIn]; done) | decide +kernel
theorem own_ef1 (m : MethodId) (o : Addr) (x0 : Int32) (x1 : Int32) (x2 : Int32) (x3 : Int32) : entryFrame m #[(.ref o), (.int x0), (.int x1), (.int x2), (.int x3)] 5 = (mkF m 0 #[.val (.ref o), .val (.int x0), .val (.int x1), .val (.int x2), .val (.int x3)] []) := by first | (simp [entryFrame, mkF, argsToLocals, Value.category]; done) | rfl
def Q1 (Z : State) (o : Addr) (x0 : Int32) (x1 : Int32) (x2 : Int32) (x3 : Int32) (u0 : Value) (u1 : Value) (u2 : Value) (u3 : Value) (h0 : Heap) (n0 : Nat) (v : Option Value) (h : Heap) (L : List Loc) : Prop := v = none ∧ Fr n0 L ∧ Keep h0 h [o] ∧ Exa Z h o "com/example/promulgate/promulgate/LineDiff$Run" ∧ Fld Z h o "com/example/promulgate/promulgate/LineDiff$Run" "before" "I" (.int x0) ∧ Fld Z h o "com/example/promulgate/promulgate/LineDiff$Run" "beforeCount" "I" (.int x1) ∧ Fld Z h o "com/example/promulgate/promulgate/LineDiff$Run" "after" "I" (.int x2) ∧ Fld Z h o "com/example/promulgate/promulgate/LineDiff$Run" "afterCount" "I" (.int x3)
set_option maxRecDepth 65536 in
set_option maxHeartbeats 40000000 in
theorem rm1 (l : Launch) (Z : State) (a0 : Array Value) (hw : ∀ d ∈ tables_1, d.before a0 Z = true) (ws : List Jvm.Cond) (o : Addr) (x0 : Int32) (x1 : Int32) (x2 : Int32) (x3 : Int32) (u0 : Value) (u1 : Value) (u2 : Value) (u3 : Value) (h0 : Heap) (n0 : Nat) (Z0 : n0 ≤ h0.size) (hge : n0 ≤ o) (hE : Exa Z h0 o "com/example/promulgate/promulgate/LineDiff$Run") (hF0 : Fld Z h0 o "com/example/promulgate/promulgate/LineDiff$Run" "before" "I" u0) (hF1 : Fld Z h0 o "com/example/promulgate/promulgate/LineDiff$Run" "beforeCount" "I" u1) (hF2 : Fld Z h0 o "com/example/promulgate/promulgate/LineDiff$Run" "after" "I" u2) (hF3 : Fld Z h0 o "com/example/promulgate/promulgate/LineDiff$Run" "afterCount" "I" u3) :
    MetFree l (⟨"com/example/promulgate/promulgate/LineDiff$Run", "<init>", "(IIII)V"⟩ : MethodName) (head1 (Jvm.Cond.code (⟨"com/example/promulgate/promulgate/LineDiff$Run", "<init>", "(IIII)V"⟩ : MethodName) prog_11_method_1_code 5 none :: ws) ({ frames := 2, cells := 0, slots := 0, locals := 24 } : Room)) (fun a U => a = #[(.ref o), (.int x0), (.int x1), (.int x2), (.int x3)] ∧ Z.Warmed39 U.vm ∧ U.heap = h0) (fun _ _ _ _ _ => True) (fun _ U oc U' => ∃ v L, oc = .returned v ∧ Q1 Z o x0 x1 x2 x3 u0 u1 u2 u3 h0 n0 v U'.heap L ∧ FrameEnd U oc U' L ({ frames := 2, cells := 0, slots := 0, locals := 24 } : Room).cells ({ frames := 2, cells := 0, slots := 0, locals := 24 } : Room).slots) := by
  refine MetFree.of_bodySF (plainFor_of_name own_pn1) hisR ?_
  intro p e s m args below meth c s₁ Bd hml0 hP hK
  obtain ⟨rfl, hZ, hh⟩ := hP
  have hx := Bd.exec
  have hby := Bd.bytes
  have hlk : meth.locks = false := BodyLoose.notSynchronized Bd
  have hml : c.maxLocals = 5 := hml0
  have hown : s.vm.findClass "com/example/promulgate/promulgate/LineDiff$Run" = some m.cls := findClass_of_methodNamed Bd.named
  have hnm := (name_of_methodNamed Bd.named Bd.method).1
  have X0 : Stand p l e ({ frames := 2, cells := 0, slots := 0, locals := 24 } : Room) s m #[(.ref o), (.int x0), (.int x1), (.int x2), (.int x3)] below meth c s₁ [] 0 0 := Stand.of_body Bd
  have e0 : s₁.heap = h0 := by rw [← hh, Bd.state]; rfl
  have N0 := Fr.nil n0
  refine own_enter (own_ef1 m o x0 x1 x2 x3) ?_
  show own_Go p e below s (Q1 Z o x0 x1 x2 x3 u0 u1 u2 u3 h0 n0) ({ frames := 2, cells := 0, slots := 0, locals := 24 } : Room).cells ({ frames := 2, cells := 0, slots := 0, locals := 24 } : Room).slots s₁ (mkF m 0 #[.val (.ref o), .val (.int x0), .val (.int x1), .val (.int x2), .val (.int x3)] [])
  refine own_st (T' := s₁) (F' := (mkF m 1 #[.val (.ref o), .val (.int x0), .val (.int x1), .val (.int x2), .val (.int x3)] [(.ref o)])) (fun _ k => XS.aloadN X0.here hx rfl (hb hby d1_0) rfl rfl k) ?_
  obtain ⟨_, _, ⟨T1, L1, k1, n1⟩, -, X1, ⟨Lc1, hQ1, l1, y1, z1⟩, st1⟩ := X0.specialBack hx (y := (⟨"java/lang/Record", "<init>", "()V"⟩ : MethodName)) rfl hown (mvT hZ (hw _ (List.mem_of_getElem? (i := 6) rfl))) (mvT hZ (hw _ (List.mem_of_getElem? (i := 7) rfl))) (mvT hZ (hw _ (List.mem_of_getElem? (i := 10) rfl))) (by decide) (backOf (W := 0) (rm2 l Z a0 hw [] o  h0 n0 Z0 ) hZ (hw _ (List.mem_of_getElem? (i := 10) rfl)) (hw _ (List.mem_of_getElem? (i := 9) rfl)) (by decide) (by decide)) (g := (mkF m 1 #[.val (.ref o), .val (.int x0), .val (.int x1), .val (.int x2), .val (.int x3)] [(.ref o)])) rfl (by rw [hml]; rfl) (Steps.refl _) (a := o) (argsL := []) (rest := []) (lenOf own_pd0 rfl) rfl (by show 2 * 0 + _ ≤ _; exact Nat.le_of_eq rfl) (hb hby d1_1) (fun _ _ => ⟨rfl, e0, (by decide : 0 + 0 ≤ _), (by decide : 0 + 0 ≤ _)⟩)
  dsimp only [Pt.U, Pt.locs, Pt.cells, Pt.slots] at X1 l1 y1 z1 st1 hQ1
  subst l1 y1 z1
  obtain ⟨rfl, Nq1, eq1⟩ := hQ1
  have N1 := Fr.app N0 Nq1
  refine own_tr (T' := T1) (F' := (mkF m 4 #[.val (.ref o), .val (.int x0), .val (.int x1), .val (.int x2), .val (.int x3)] [])) st1 ?_
  refine own_st (T' := T1) (F' := (mkF m 5 #[.val (.ref o), .val (.int x0), .val (.int x1), .val (.int x2), .val (.int x3)] [(.ref o)])) (fun _ k => XS.aloadN X1.here hx rfl (hb hby d1_4) rfl rfl k) ?_
  refine own_st (T' := T1) (F' := (mkF m 6 #[.val (.ref o), .val (.int x0), .val (.int x1), .val (.int x2), .val (.int x3)] [(.int x0), (.ref o)])) (fun _ k => XS.iloadN X1.here hx rfl (hb hby d1_5) rfl  k) ?_
  obtain ⟨T2, h2, X2, e2, W2, st2⟩ := putF X1 hx hZ hown (host := "") (Or.inl (hw _ (List.mem_of_getElem? (i := 14) rfl))) Via.refl eq1 hF0 hE (Or.inr ⟨(hw _ (List.mem_of_getElem? (i := 15) rfl)), rfl, hnm⟩) (hw _ (List.mem_of_getElem? (i := 1) rfl)) (ty := .int) (by decide) rfl rfl (g := (mkF m 6 #[.val (.ref o), .val (.int x0), .val (.int x1), .val (.int x2), .val (.int x3)] [(.int x0), (.ref o)])) rfl rfl (hb hby d1_6)
  have N2 := Fr.snoc X2 N1 hge
  have f3 : Exa Z h2 o "com/example/promulgate/promulgate/LineDiff$Run" := hE.wr W2
  have f4 : Fld Z h2 o "com/example/promulgate/promulgate/LineDiff$Run" "before" "I" (.int x0) := hF0.same W2
  have f5 : Fld Z h2 o "com/example/promulgate/promulgate/LineDiff$Run" "beforeCount" "I" u1 := hF1.other W2 (Or.inr (slot_ne (Or.inr (hw _ (List.mem_of_getElem? (i := 17) rfl))) (Or.inr (hw _ (List.mem_of_getElem? (i := 15) rfl))) (by decide) (t := .int) (t' := .int) (by decide) (by decide)))
  have f6 : Fld Z h2 o "com/example/promulgate/promulgate/LineDiff$Run" "after" "I" u2 := hF2.other W2 (Or.inr (slot_ne (Or.inr (hw _ (List.mem_of_getElem? (i := 19) rfl))) (Or.inr (hw _ (List.mem_of_getElem? (i := 15) rfl))) (by decide) (t := .int) (t' := .int) (by decide) (by decide)))
  have f7 : Fld Z h2 o "com/example/promulgate/promulgate/LineDiff$Run" "afterCount" "I" u3 := hF3.other W2 (Or.inr (slot_ne (Or.inr (hw _ (List.mem_of_getElem? (i := 21) rfl))) (Or.inr (hw _ (List.mem_of_getElem? (i := 15) rfl))) (by decide) (t := .int) (t' := .int) (by decide) (by decide)))
  have K2 : Keep h0 h2 [o] := (Keep.refl h0 [o]).wr W2 (Or.inl (List.mem_of_getElem? (i := 0) rfl))
  have Zs2 : n0 ≤ h2.size := Nat.le_trans Z0 K2.1
  refine own_st (T' := T2) (F' := (mkF m 9 #[.val (.ref o), .val (.int x0), .val (.int x1), .val (.int x2), .val (.int x3)] [])) (fun _ k => st2 _ k) ?_
  refine own_st (T' := T2) (F' := (mkF m 10 #[.val (.ref o), .val (.int x0), .val (.int x1), .val (.int x2), .val (.int x3)] [(.ref o)])) (fun _ k => XS.aloadN X2.here hx rfl (hb hby d1_9) rfl rfl k) ?_
  refine own_st (T' := T2) (F' := (mkF m 11 #[.val (.ref o), .val (.int x0), .val (.int x1), .val (.int x2), .val (.int x3)] [(.int x1), (.ref o)])) (fun _ k => XS.iloadN X2.here hx rfl (hb hby d1_10) rfl  k) ?_
  obtain ⟨T8, h8, X8, e8, W8, st8⟩ := putF X2 hx hZ hown (host := "") (Or.inl (hw _ (List.mem_of_getElem? (i := 16) rfl))) Via.refl e2 f5 f3 (Or.inr ⟨(hw _ (List.mem_of_getElem? (i := 17) rfl)), rfl, hnm⟩) (hw _ (List.mem_of_getElem? (i := 1) rfl)) (ty := .int) (by decide) rfl rfl (g := (mkF m 11 #[.val (.ref o), .val (.int x0), .val (.int x1), .val (.int x2), .val (.int x3)] [(.int x1), (.ref o)])) rfl rfl (hb hby d1_11)
  have N8 := Fr.snoc X8 N2 hge
  have f9 : Exa Z h8 o "com/example/promulgate/promulgate/LineDiff$Run" := f3.wr W8
  have f10 : Fld Z h8 o "com/example/promulgate/promulgate/LineDiff$Run" "before" "I" (.int x0) := f4.other W8 (Or.inr (slot_ne (Or.inr (hw _ (List.mem_of_getElem? (i := 15) rfl))) (Or.inr (hw _ (List.mem_of_getElem? (i := 17) rfl))) (by decide) (t := .int) (t' := .int) (by decide) (by decide)))
  have f11 : Fld Z h8 o "com/example/promulgate/promulgate/LineDiff$Run" "beforeCount" "I" (.int x1) := f5.same W8
  have f12 : Fld Z h8 o "com/example/promulgate/promulgate/LineDiff$Run" "after" "I" u2 := f6.other W8 (Or.inr (slot_ne (Or.inr (hw _ (List.mem_of_getElem? (i := 19) rfl))) (Or.inr (hw _ (List.mem_of_getElem? (i := 17) rfl))) (by decide) (t := .int) (t' := .int) (by decide) (by decide)))
  have f13 : Fld Z h8 o "com/example/promulgate/promulgate/LineDiff$Run" "afterCount" "I" u3 := f7.other W8 (Or.inr (slot_ne (Or.inr (hw _ (List.mem_of_getElem? (i := 21) rfl))) (Or.inr (hw _ (List.mem_of_getElem? (i := 17) rfl))) (by decide) (t := .int) (t' := .int) (by decide) (by decide)))
  have K8 : Keep h0 h8 [o] := K2.wr W8 (Or.inl (List.mem_of_getElem? (i := 0) rfl))
  have Zs8 : n0 ≤ h8.size := Nat.le_trans Z0 K8.1
  refine own_st (T' := T8) (F' := (mkF m 14 #[.val (.ref o), .val (.int x0), .val (.int x1), .val (.int x2), .val (.int x3)] [])) (fun _ k => st8 _ k) ?_
  refine own_st (T' := T8) (F' := (mkF m 15 #[.val (.ref o), .val (.int x0), .val (.int x1), .val (.int x2), .val (.int x3)] [(.ref o)])) (fun _ k => XS.aloadN X8.here hx rfl (hb hby d1_14) rfl rfl k) ?_
  refine own_st (T' := T8) (F' := (mkF m 16 #[.val (.ref o), .val (.int x0), .val (.int x1), .val (.int x2), .val (.int x3)] [(.int x2), (.ref o)])) (fun _ k => XS.iloadN X8.here hx rfl (hb hby d1_15) rfl  k) ?_
  obtain ⟨T14, h14, X14, e14, W14, st14⟩ := putF X8 hx hZ hown (host := "") (Or.inl (hw _ (List.mem_of_getElem? (i := 18) rfl))) Via.refl e8 f12 f9 (Or.inr ⟨(hw _ (List.mem_of_getElem? (i := 19) rfl)), rfl, hnm⟩) (hw _ (List.mem_of_getElem? (i := 1) rfl)) (ty := .int) (by decide) rfl rfl (g := (mkF m 16 #[.val (.ref o), .val (.int x0), .val (.int x1), .val (.int x2), .val (.int x3)] [(.int x2), (.ref o)])) rfl rfl (hb hby d1_16)
  have N14 := Fr.snoc X14 N8 hge
  have f15 : Exa Z h14 o "com/example/promulgate/promulgate/LineDiff$Run" := f9.wr W14
  have f16 : Fld Z h14 o "com/example/promulgate/promulgate/LineDiff$Run" "before" "I" (.int x0) := f10.other W14 (Or.inr (slot_ne (Or.inr (hw _ (List.mem_of_getElem? (i := 15) rfl))) (Or.inr (hw _ (List.mem_of_getElem? (i := 19) rfl))) (by decide) (t := .int) (t' := .int) (by decide) (by decide)))
  have f17 : Fld Z h14 o "com/example/promulgate/promulgate/LineDiff$Run" "beforeCount" "I" (.int x1) := f11.other W14 (Or.inr (slot_ne (Or.inr (hw _ (List.mem_of_getElem? (i := 17) rfl))) (Or.inr (hw _ (List.mem_of_getElem? (i := 19) rfl))) (by decide) (t := .int) (t' := .int) (by decide) (by decide)))
  have f18 : Fld Z h14 o "com/example/promulgate/promulgate/LineDiff$Run" "after" "I" (.int x2) := f12.same W14
  have f19 : Fld Z h14 o "com/example/promulgate/promulgate/LineDiff$Run" "afterCount" "I" u3 := f13.other W14 (Or.inr (slot_ne (Or.inr (hw _ (List.mem_of_getElem? (i := 21) rfl))) (Or.inr (hw _ (List.mem_of_getElem? (i := 19) rfl))) (by decide) (t := .int) (t' := .int) (by decide) (by decide)))
  have K14 : Keep h0 h14 [o] := K8.wr W14 (Or.inl (List.mem_of_getElem? (i := 0) rfl))
  have Zs14 : n0 ≤ h14.size := Nat.le_trans Z0 K14.1
  refine own_st (T' := T14) (F' := (mkF m 19 #[.val (.ref o), .val (.int x0), .val (.int x1), .val (.int x2), .val (.int x3)] [])) (fun _ k => st14 _ k) ?_
  refine own_st (T' := T14) (F' := (mkF m 20 #[.val (.ref o), .val (.int x0), .val (.int x1), .val (.int x2), .val (.int x3)] [(.ref o)])) (fun _ k => XS.aloadN X14.here hx rfl (hb hby d1_19) rfl rfl k) ?_
  refine own_st (T' := T14) (F' := (mkF m 22 #[.val (.ref o), .val (.int x0), .val (.int x1), .val (.int x2), .val (.int x3)] [(.int x3), (.ref o)])) (fun _ k => XS.iload X14.here hx rfl (hb hby d1_20) rfl  k) ?_
  obtain ⟨T20, h20, X20, e20, W20, st20⟩ := putF X14 hx hZ hown (host := "") (Or.inl (hw _ (List.mem_of_getElem? (i := 20) rfl))) Via.refl e14 f19 f15 (Or.inr ⟨(hw _ (List.mem_of_getElem? (i := 21) rfl)), rfl, hnm⟩) (hw _ (List.mem_of_getElem? (i := 1) rfl)) (ty := .int) (by decide) rfl rfl (g := (mkF m 22 #[.val (.ref o), .val (.int x0), .val (.int x1), .val (.int x2), .val (.int x3)] [(.int x3), (.ref o)])) rfl rfl (hb hby d1_22)
  have N20 := Fr.snoc X20 N14 hge
  have f21 : Exa Z h20 o "com/example/promulgate/promulgate/LineDiff$Run" := f15.wr W20
  have f22 : Fld Z h20 o "com/example/promulgate/promulgate/LineDiff$Run" "before" "I" (.int x0) := f16.other W20 (Or.inr (slot_ne (Or.inr (hw _ (List.mem_of_getElem? (i := 15) rfl))) (Or.inr (hw _ (List.mem_of_getElem? (i := 21) rfl))) (by decide) (t := .int) (t' := .int) (by decide) (by decide)))
  have f23 : Fld Z h20 o "com/example/promulgate/promulgate/LineDiff$Run" "beforeCount" "I" (.int x1) := f17.other W20 (Or.inr (slot_ne (Or.inr (hw _ (List.mem_of_getElem? (i := 17) rfl))) (Or.inr (hw _ (List.mem_of_getElem? (i := 21) rfl))) (by decide) (t := .int) (t' := .int) (by decide) (by decide)))
  have f24 : Fld Z h20 o "com/example/promulgate/promulgate/LineDiff$Run" "after" "I" (.int x2) := f18.other W20 (Or.inr (slot_ne (Or.inr (hw _ (List.mem_of_getElem? (i := 19) rfl))) (Or.inr (hw _ (List.mem_of_getElem? (i := 21) rfl))) (by decide) (t := .int) (t' := .int) (by decide) (by decide)))
  have f25 : Fld Z h20 o "com/example/promulgate/promulgate/LineDiff$Run" "afterCount" "I" (.int x3) := f19.same W20
  have K20 : Keep h0 h20 [o] := K14.wr W20 (Or.inl (List.mem_of_getElem? (i := 0) rfl))
  have Zs20 : n0 ≤ h20.size := Nat.le_trans Z0 K20.1
  refine own_st (T' := T20) (F' := (mkF m 25 #[.val (.ref o), .val (.int x0), .val (.int x1), .val (.int x2), .val (.int x3)] [])) (fun _ k => st20 _ k) ?_
  refine own_retV X20 hx hlk Bd.returns (hb hby d1_25) ?_ (by decide) (by decide)
  rw [e20]
  refine ⟨rfl, N20, K20, f21, f22, f23, f24, f25⟩
theorem d4_0 : decode prog_11_method_2_code 0 = .ok (.aload_n 0, 1) := by decide +kernel
theorem d4_1 : decode prog_11_method_2_code 1 = .ok (.getfield 7, 3) := by decide +kernel
theorem d4_4 : decode prog_11_method_2_code 4 = .ok (.aload_n 0, 1) := by decide +kernel
theorem d4_5 : decode prog_11_method_2_code 5 = .ok (.getfield 13, 3) := by decide +kernel
theorem d4_8 : decode prog_11_method_2_code 8 = .ok (.iadd, 1) := by decide +kernel
theorem d4_9 : decode prog_11_method_2_code 9 = .ok (.aload_n 1, 1) := by decide +kernel
theorem d4_10 : decode prog_11_method_2_code 10 = .ok (.getfield 7, 3) := by decide +kernel
theorem d4_13 : decode prog_11_method_2_code 13 = .ok (.if_icmp .ne 23, 3) := by decide +kernel
theorem d4_16 : decode prog_11_method_2_code 16 = .ok (.aload_n 0, 1) := by decide +kernel
theorem d4_17 : decode prog_11_method_2_code 17 = .ok (.getfield 16, 3) := by decide +kernel
theorem d4_20 : decode prog_11_method_2_code 20 = .ok (.aload_n 0, 1) := by decide +kernel
theorem d4_21 : decode prog_11_method_2_code 21 = .ok (.getfield 19, 3) := by decide +kernel
theorem d4_24 : decode prog_11_method_2_code 24 = .ok (.iadd, 1) := by decide +kernel
theorem d4_25 : decode prog_11_method_2_code 25 = .ok (.aload_n 1, 1) := by decide +kernel
theorem d4_26 : decode prog_11_method_2_code 26 = .ok (.getfield 16, 3) := by decide +kernel
theorem d4_29 : decode prog_11_method_2_code 29 = .ok (.if_icmp .ne 7, 3) := by decide +kernel
theorem d4_32 : decode prog_11_method_2_code 32 = .ok (.iconst 1, 1) := by decide +kernel
theorem d4_33 : decode prog_11_method_2_code 33 = .ok (.goto 4, 3) := by decide +kernel
theorem d4_36 : decode prog_11_method_2_code 36 = .ok (.iconst 0, 1) := by decide +kernel
theorem d4_37 : decode prog_11_method_2_code 37 = .ok (.ireturn, 1) := by decide +kernel
theorem own_pn4 : plainName "com/example/promulgate/promulgate/LineDiff$Run" = true := by first | (simp [plainName, overriddenIn]; done) | decide +kernel
theorem own_ef4 (m : MethodId) (o : Addr) (x0 : Addr) : entryFrame m #[(.ref o), (.ref x0)] 2 = (mkF m 0 #[.val (.ref o), .val (.ref x0)] []) := by first | (simp [entryFrame, mkF, argsToLocals, Value.category]; done) | rfl
def Q4 (Z : State) (o : Addr) (x0 : Addr) (p0 : Int32) (p1 : Int32) (p2 : Int32) (p3 : Int32) (q0 : Int32) (q2 : Int32) (h0 : Heap) (n0 : Nat) (v : Option Value) (h : Heap) (L : List Loc) : Prop := (∃ z : Int32, v = some (.int z) ∧ ((z = 1 ∧ p0 + p1 = q0 ∧ p2 + p3 = q2) ∨ (z = 0 ∧ ¬ (p0 + p1 = q0 ∧ p2 + p3 = q2)))) ∧ Fr n0 L ∧ h = h0
set_option maxRecDepth 65536 in
set_option maxHeartbeats 40000000 in
theorem rm4 (l : Launch) (Z : State) (a0 : Array Value) (hw : ∀ d ∈ tables_1, d.before a0 Z = true) (ws : List Jvm.Cond) (o : Addr) (x0 : Addr) (p0 : Int32) (p1 : Int32) (p2 : Int32) (p3 : Int32) (q0 : Int32) (q2 : Int32) (h0 : Heap) (n0 : Nat) (Z0 : n0 ≤ h0.size) (hF0 : Fld Z h0 o "com/example/promulgate/promulgate/LineDiff$Run" "before" "I" (.int p0)) (hF1 : Fld Z h0 o "com/example/promulgate/promulgate/LineDiff$Run" "beforeCount" "I" (.int p1)) (hF2 : Fld Z h0 o "com/example/promulgate/promulgate/LineDiff$Run" "after" "I" (.int p2)) (hF3 : Fld Z h0 o "com/example/promulgate/promulgate/LineDiff$Run" "afterCount" "I" (.int p3)) (hG0 : Fld Z h0 x0 "com/example/promulgate/promulgate/LineDiff$Run" "before" "I" (.int q0)) (hG2 : Fld Z h0 x0 "com/example/promulgate/promulgate/LineDiff$Run" "after" "I" (.int q2)) :
    MetFree l (⟨"com/example/promulgate/promulgate/LineDiff$Run", "isFollowedBy", "(Lcom/example/promulgate/promulgate/LineDiff$Run;)Z"⟩ : MethodName) (head1 (Jvm.Cond.code (⟨"com/example/promulgate/promulgate/LineDiff$Run", "isFollowedBy", "(Lcom/example/promulgate/promulgate/LineDiff$Run;)Z"⟩ : MethodName) prog_11_method_2_code 2 (some .boolean) :: ws) ({ frames := 0, cells := 0, slots := 0, locals := 0 } : Room)) (fun a U => a = #[(.ref o), (.ref x0)] ∧ Z.Warmed39 U.vm ∧ U.heap = h0) (fun _ _ _ _ _ => True) (fun _ U oc U' => ∃ v L, oc = .returned v ∧ Q4 Z o x0 p0 p1 p2 p3 q0 q2 h0 n0 v U'.heap L ∧ FrameEnd U oc U' L ({ frames := 0, cells := 0, slots := 0, locals := 0 } : Room).cells ({ frames := 0, cells := 0, slots := 0, locals := 0 } : Room).slots) := by
  refine MetFree.of_bodySF (plainFor_of_name own_pn4) hisR ?_
  intro p e s m args below meth c s₁ Bd hml0 hP hK
  obtain ⟨rfl, hZ, hh⟩ := hP
  have hx := Bd.exec
  have hby := Bd.bytes
  have hlk : meth.locks = false := BodyLoose.notSynchronized Bd
  have hml : c.maxLocals = 2 := hml0
  have hown : s.vm.findClass "com/example/promulgate/promulgate/LineDiff$Run" = some m.cls := findClass_of_methodNamed Bd.named
  have hnm := (name_of_methodNamed Bd.named Bd.method).1
  have X0 : Stand p l e ({ frames := 0, cells := 0, slots := 0, locals := 0 } : Room) s m #[(.ref o), (.ref x0)] below meth c s₁ [] 0 0 := Stand.of_body Bd
  have e0 : s₁.heap = h0 := by rw [← hh, Bd.state]; rfl
  have N0 := Fr.nil n0
  refine own_enter (own_ef4 m o x0) ?_
  show own_Go p e below s (Q4 Z o x0 p0 p1 p2 p3 q0 q2 h0 n0) ({ frames := 0, cells := 0, slots := 0, locals := 0 } : Room).cells ({ frames := 0, cells := 0, slots := 0, locals := 0 } : Room).slots s₁ (mkF m 0 #[.val (.ref o), .val (.ref x0)] [])
  refine own_st (T' := s₁) (F' := (mkF m 1 #[.val (.ref o), .val (.ref x0)] [(.ref o)])) (fun _ k => XS.aloadN X0.here hx rfl (hb hby d4_0) rfl rfl k) ?_
  obtain ⟨T1, X1, e1, st1⟩ := getF X0 hx hZ hown (host := "") (Or.inl (hw _ (List.mem_of_getElem? (i := 14) rfl))) Via.refl e0 hF0 (g := (mkF m 1 #[.val (.ref o), .val (.ref x0)] [(.ref o)])) rfl rfl (hb hby d4_1)
  refine own_st (T' := T1) (F' := (mkF m 4 #[.val (.ref o), .val (.ref x0)] [(.int p0)])) (fun _ k => st1 _ k) ?_
  refine own_st (T' := T1) (F' := (mkF m 5 #[.val (.ref o), .val (.ref x0)] [(.ref o), (.int p0)])) (fun _ k => XS.aloadN X1.here hx rfl (hb hby d4_4) rfl rfl k) ?_
  obtain ⟨T2, X2, e2, st2⟩ := getF X1 hx hZ hown (host := "") (Or.inl (hw _ (List.mem_of_getElem? (i := 16) rfl))) Via.refl e1 hF1 (g := (mkF m 5 #[.val (.ref o), .val (.ref x0)] [(.ref o), (.int p0)])) rfl rfl (hb hby d4_5)
  refine own_st (T' := T2) (F' := (mkF m 8 #[.val (.ref o), .val (.ref x0)] [(.int p1), (.int p0)])) (fun _ k => st2 _ k) ?_
  refine own_st (T' := T2) (F' := (mkF m 9 #[.val (.ref o), .val (.ref x0)] [(.int (p0 + p1))])) (fun _ k => XS.iadd X2.here hx rfl (hb hby d4_8) rfl k) ?_
  refine own_st (T' := T2) (F' := (mkF m 10 #[.val (.ref o), .val (.ref x0)] [(.ref x0), (.int (p0 + p1))])) (fun _ k => XS.aloadN X2.here hx rfl (hb hby d4_9) rfl rfl k) ?_
  obtain ⟨T3, X3, e3, st3⟩ := getF X2 hx hZ hown (host := "") (Or.inl (hw _ (List.mem_of_getElem? (i := 14) rfl))) Via.refl e2 hG0 (g := (mkF m 10 #[.val (.ref o), .val (.ref x0)] [(.ref x0), (.int (p0 + p1))])) rfl rfl (hb hby d4_10)
  refine own_st (T' := T3) (F' := (mkF m 13 #[.val (.ref o), .val (.ref x0)] [(.int q0), (.int (p0 + p1))])) (fun _ k => st3 _ k) ?_
  have J37_4 : ∀ (j37_1 : Int32) (TJ4 : State) (LJ4 : List Loc) (XJ4 : Stand p l e ({ frames := 0, cells := 0, slots := 0, locals := 0 } : Room) s m #[(.ref o), (.ref x0)] below meth c TJ4 LJ4 0 0) (NJ4 : Fr n0 LJ4) (eJ4 : TJ4.heap = h0), (((¬ ((p0 + p1) = q0)) ∧ j37_1 = (0 : Int32)) ∨ (((p0 + p1) = q0) ∧ (¬ ((p2 + p3) = q2)) ∧ j37_1 = (0 : Int32)) ∨ (((p0 + p1) = q0) ∧ ((p2 + p3) = q2) ∧ j37_1 = (1 : Int32))) → own_Go p e below s (Q4 Z o x0 p0 p1 p2 p3 q0 q2 h0 n0) ({ frames := 0, cells := 0, slots := 0, locals := 0 } : Room).cells ({ frames := 0, cells := 0, slots := 0, locals := 0 } : Room).slots TJ4 (mkF m 37 #[.val (.ref o), .val (.ref x0)] [(.int j37_1)]) := by
    intro j37_1 TJ4 LJ4 XJ4 NJ4 eJ4 hJ37_4
    refine own_retN XJ4 hx hlk (t := .boolean) Bd.returns (by simp) (hb hby d4_37) ?_ (by decide) (by decide)
    rw [eJ4]
    refine ⟨⟨_, rfl, ?_⟩, NJ4, rfl⟩
    rcases hJ37_4 with ⟨h1, rfl⟩ | ⟨h1, h2, rfl⟩ | ⟨h1, h2, rfl⟩ <;> simp_all [own_nar0, own_nar1]
  refine own_icmp X3 hx (pc' := 36) (pc2 := 16) (hb hby d4_13) (by decide) (by decide) rfl (fun (hc13 : ¬ ((p0 + p1) = q0)) => ?_) (fun (hc13 : (p0 + p1) = q0) => ?_)
  ·
    refine own_st (T' := T3) (F' := (mkF m 37 #[.val (.ref o), .val (.ref x0)] [(.int (0 : Int32))])) (fun _ k => XS.iconst X3.here hx rfl (hb hby d4_36) k) ?_
    exact J37_4 (0 : Int32) T3 _ X3 N0 e3 (Or.inl (⟨hc13, rfl⟩))
  ·
    refine own_st (T' := T3) (F' := (mkF m 17 #[.val (.ref o), .val (.ref x0)] [(.ref o)])) (fun _ k => XS.aloadN X3.here hx rfl (hb hby d4_16) rfl rfl k) ?_
    obtain ⟨T5, X5, e5, st5⟩ := getF X3 hx hZ hown (host := "") (Or.inl (hw _ (List.mem_of_getElem? (i := 18) rfl))) Via.refl e3 hF2 (g := (mkF m 17 #[.val (.ref o), .val (.ref x0)] [(.ref o)])) rfl rfl (hb hby d4_17)
    refine own_st (T' := T5) (F' := (mkF m 20 #[.val (.ref o), .val (.ref x0)] [(.int p2)])) (fun _ k => st5 _ k) ?_
    refine own_st (T' := T5) (F' := (mkF m 21 #[.val (.ref o), .val (.ref x0)] [(.ref o), (.int p2)])) (fun _ k => XS.aloadN X5.here hx rfl (hb hby d4_20) rfl rfl k) ?_
    obtain ⟨T6, X6, e6, st6⟩ := getF X5 hx hZ hown (host := "") (Or.inl (hw _ (List.mem_of_getElem? (i := 20) rfl))) Via.refl e5 hF3 (g := (mkF m 21 #[.val (.ref o), .val (.ref x0)] [(.ref o), (.int p2)])) rfl rfl (hb hby d4_21)
    refine own_st (T' := T6) (F' := (mkF m 24 #[.val (.ref o), .val (.ref x0)] [(.int p3), (.int p2)])) (fun _ k => st6 _ k) ?_
    refine own_st (T' := T6) (F' := (mkF m 25 #[.val (.ref o), .val (.ref x0)] [(.int (p2 + p3))])) (fun _ k => XS.iadd X6.here hx rfl (hb hby d4_24) rfl k) ?_
    refine own_st (T' := T6) (F' := (mkF m 26 #[.val (.ref o), .val (.ref x0)] [(.ref x0), (.int (p2 + p3))])) (fun _ k => XS.aloadN X6.here hx rfl (hb hby d4_25) rfl rfl k) ?_
    obtain ⟨T7, X7, e7, st7⟩ := getF X6 hx hZ hown (host := "") (Or.inl (hw _ (List.mem_of_getElem? (i := 18) rfl))) Via.refl e6 hG2 (g := (mkF m 26 #[.val (.ref o), .val (.ref x0)] [(.ref x0), (.int (p2 + p3))])) rfl rfl (hb hby d4_26)
    refine own_st (T' := T7) (F' := (mkF m 29 #[.val (.ref o), .val (.ref x0)] [(.int q2), (.int (p2 + p3))])) (fun _ k => st7 _ k) ?_
    refine own_icmp X7 hx (pc' := 36) (pc2 := 32) (hb hby d4_29) (by decide) (by decide) rfl (fun (hc29 : ¬ ((p2 + p3) = q2)) => ?_) (fun (hc29 : (p2 + p3) = q2) => ?_)
    ·
      refine own_st (T' := T7) (F' := (mkF m 37 #[.val (.ref o), .val (.ref x0)] [(.int (0 : Int32))])) (fun _ k => XS.iconst X7.here hx rfl (hb hby d4_36) k) ?_
      exact J37_4 (0 : Int32) T7 _ X7 N0 e7 (Or.inr (Or.inl (⟨hc13, hc29, rfl⟩)))
    ·
      refine own_st (T' := T7) (F' := (mkF m 33 #[.val (.ref o), .val (.ref x0)] [(.int (1 : Int32))])) (fun _ k => XS.iconst X7.here hx rfl (hb hby d4_32) k) ?_
      refine own_st (T' := T7) (F' := (mkF m 37 #[.val (.ref o), .val (.ref x0)] [(.int (1 : Int32))])) (fun _ k => XS.goto X7.here hx rfl (pc0 := 33) (pc' := 37) rfl (hb hby d4_33) (by decide) (by decide) k) ?_
      exact J37_4 (1 : Int32) T7 _ X7 N0 e7 (Or.inr (Or.inr (⟨hc13, hc29, rfl⟩)))
theorem own_pd1 : parseMethodDescriptor "(IIII)V" = some ⟨[.int, .int, .int, .int], none⟩ := by decide +kernel
theorem own_pd2 : parseMethodDescriptor "(Lcom/example/promulgate/promulgate/LineDiff$Run;)Z" = some ⟨[(.object "com/example/promulgate/promulgate/LineDiff$Run")], some .boolean⟩ := by decide +kernel
theorem own_pn0 : plainName "com/example/promulgate/promulgate/RunIsFollowedByPinLaw" = true := by first | (simp [plainName, overriddenIn]; done) | decide +kernel
theorem own_ef0 (m : MethodId) (x0 : Int32) (x1 : Int32) (x2 : Int32) (x3 : Int32) (x4 : Int32) (x5 : Int32) : entryFrame m #[(.int x0), (.int x1), (.int x2), (.int x3), (.int x4), (.int x5)] maxLocals = (mkF m 0 #[.val (.int x0), .val (.int x1), .val (.int x2), .val (.int x3), .val (.int x4), .val (.int x5), .unset, .unset, .unset, .unset, .unset] []) := by first | (simp [entryFrame, mkF, argsToLocals, Value.category, maxLocals]; done) | rfl
def Q0 (Z : State) (x0 : Int32) (x1 : Int32) (x2 : Int32) (x3 : Int32) (x4 : Int32) (x5 : Int32)  (h0 : Heap) (n0 : Nat) (v : Option Value) (h : Heap) (L : List Loc) : Prop := (∃ z : Int32, v = some (.int z) ∧ (z = 1)) ∧ Fr n0 L
set_option maxRecDepth 65536 in
set_option maxHeartbeats 40000000 in
theorem rm0 (l : Launch) (Z : State) (a0 : Array Value) (hw : ∀ d ∈ tables_1, d.before a0 Z = true) (ws : List Jvm.Cond) (x0 : Int32) (x1 : Int32) (x2 : Int32) (x3 : Int32) (x4 : Int32) (x5 : Int32)  (h0 : Heap) (n0 : Nat) (Z0 : n0 ≤ h0.size)  :
    MetFree l x (head1 (Jvm.Cond.code x code maxLocals ret :: ws) room_1) (fun a U => a = #[(.int x0), (.int x1), (.int x2), (.int x3), (.int x4), (.int x5)] ∧ Z.Warmed39 U.vm ∧ U.heap = h0) (fun _ _ _ _ _ => True) (fun _ U oc U' => ∃ v L, oc = .returned v ∧ Q0 Z x0 x1 x2 x3 x4 x5  h0 n0 v U'.heap L ∧ FrameEnd U oc U' L room_1.cells room_1.slots) := by
  refine MetFree.of_bodySF (plainFor_of_name own_pn0) hisR ?_
  intro p e s m args below meth c s₁ Bd hml0 hP hK
  obtain ⟨rfl, hZ, hh⟩ := hP
  have hx := Bd.exec
  have hby := Bd.bytes
  have hlk : meth.locks = false := BodyLoose.notSynchronized Bd
  have hml : c.maxLocals = 11 := hml0
  have hown : s.vm.findClass "com/example/promulgate/promulgate/RunIsFollowedByPinLaw" = some m.cls := findClass_of_methodNamed Bd.named
  have hnm := (name_of_methodNamed Bd.named Bd.method).1
  have X0 : Stand p l e room_1 s m #[(.int x0), (.int x1), (.int x2), (.int x3), (.int x4), (.int x5)] below meth c s₁ [] 0 0 := Stand.of_body Bd
  have e0 : s₁.heap = h0 := by rw [← hh, Bd.state]; rfl
  have N0 := Fr.nil n0
  refine own_enter (own_ef0 m x0 x1 x2 x3 x4 x5) ?_
  show own_Go p e below s (Q0 Z x0 x1 x2 x3 x4 x5  h0 n0) room_1.cells room_1.slots s₁ (mkF m 0 #[.val (.int x0), .val (.int x1), .val (.int x2), .val (.int x3), .val (.int x4), .val (.int x5), .unset, .unset, .unset, .unset, .unset] [])
  refine own_st (T' := s₁) (F' := (mkF m 2 #[.val (.int x0), .val (.int x1), .val (.int x2), .val (.int x3), .val (.int x4), .val (.int x5), .unset, .unset, .unset, .unset, .unset] [(.int x5)])) (fun _ k => XS.iload X0.here hx rfl (hb hby at_0) rfl  k) ?_
  refine own_st (T' := s₁) (F' := (mkF m 3 #[.val (.int x0), .val (.int x1), .val (.int x2), .val (.int x3), .val (.int x4), .val (.int x5), .unset, .unset, .unset, .unset, .unset] [(.int (1 : Int32)), (.int x5)])) (fun _ k => XS.iconst X0.here hx rfl (hb hby at_2) k) ?_
  refine own_st (T' := s₁) (F' := (mkF m 4 #[.val (.int x0), .val (.int x1), .val (.int x2), .val (.int x3), .val (.int x4), .val (.int x5), .unset, .unset, .unset, .unset, .unset] [(.int (x5 &&& (1 : Int32)))])) (fun _ k => XS.iand X0.here hx rfl (hb hby at_3) rfl k) ?_
  have J13_1 : ∀ (j13_1 : Int32), ((((x5 &&& (1 : Int32)) = (0 : Int32)) ∧ j13_1 = (0 : Int32)) ∨ ((¬ ((x5 &&& (1 : Int32)) = (0 : Int32))) ∧ j13_1 = x4)) → own_Go p e below s (Q0 Z x0 x1 x2 x3 x4 x5  h0 n0) room_1.cells room_1.slots s₁ (mkF m 13 #[.val (.int x0), .val (.int x1), .val (.int x2), .val (.int x3), .val (.int x4), .val (.int x5), .unset, .unset, .unset, .unset, .unset] [(.int j13_1)]) := by
    intro j13_1 hJ13_1
    refine own_st (T' := s₁) (F' := (mkF m 15 #[.val (.int x0), .val (.int x1), .val (.int x2), .val (.int x3), .val (.int x4), .val (.int x5), .val (.int j13_1), .unset, .unset, .unset, .unset] [])) (fun _ k => XS.istore X0.here hx rfl (hb hby at_13) rfl (l' := #[.val (.int x0), .val (.int x1), .val (.int x2), .val (.int x3), .val (.int x4), .val (.int x5), .val (.int j13_1), .unset, .unset, .unset, .unset]) rfl k) ?_
    refine own_st (T' := s₁) (F' := (mkF m 17 #[.val (.int x0), .val (.int x1), .val (.int x2), .val (.int x3), .val (.int x4), .val (.int x5), .val (.int j13_1), .unset, .unset, .unset, .unset] [(.int x5)])) (fun _ k => XS.iload X0.here hx rfl (hb hby at_15) rfl  k) ?_
    refine own_st (T' := s₁) (F' := (mkF m 18 #[.val (.int x0), .val (.int x1), .val (.int x2), .val (.int x3), .val (.int x4), .val (.int x5), .val (.int j13_1), .unset, .unset, .unset, .unset] [(.int (2 : Int32)), (.int x5)])) (fun _ k => XS.iconst X0.here hx rfl (hb hby at_17) k) ?_
    refine own_st (T' := s₁) (F' := (mkF m 19 #[.val (.int x0), .val (.int x1), .val (.int x2), .val (.int x3), .val (.int x4), .val (.int x5), .val (.int j13_1), .unset, .unset, .unset, .unset] [(.int (x5 &&& (2 : Int32)))])) (fun _ k => XS.iand X0.here hx rfl (hb hby at_18) rfl k) ?_
    have J30_2 : ∀ (j30_1 : Int32), ((((x5 &&& (2 : Int32)) = (0 : Int32)) ∧ j30_1 = (0 : Int32)) ∨ ((¬ ((x5 &&& (2 : Int32)) = (0 : Int32))) ∧ j30_1 = (x5 >>> ((2 : Int32) &&& 31)))) → own_Go p e below s (Q0 Z x0 x1 x2 x3 x4 x5  h0 n0) room_1.cells room_1.slots s₁ (mkF m 30 #[.val (.int x0), .val (.int x1), .val (.int x2), .val (.int x3), .val (.int x4), .val (.int x5), .val (.int j13_1), .unset, .unset, .unset, .unset] [(.int j30_1)]) := by
      intro j30_1 hJ30_2
      refine own_st (T' := s₁) (F' := (mkF m 32 #[.val (.int x0), .val (.int x1), .val (.int x2), .val (.int x3), .val (.int x4), .val (.int x5), .val (.int j13_1), .val (.int j30_1), .unset, .unset, .unset] [])) (fun _ k => XS.istore X0.here hx rfl (hb hby at_30) rfl (l' := #[.val (.int x0), .val (.int x1), .val (.int x2), .val (.int x3), .val (.int x4), .val (.int x5), .val (.int j13_1), .val (.int j30_1), .unset, .unset, .unset]) rfl k) ?_
      obtain ⟨T3, h3, X3, e3, E3, A3, D3, -, st3⟩ := newO X0 hx hZ hown (hw _ (List.mem_of_getElem? (i := 0) rfl)) (hw _ (List.mem_of_getElem? (i := 1) rfl)) (hw _ (List.mem_of_getElem? (i := 2) rfl)) e0 (g := (mkF m 32 #[.val (.int x0), .val (.int x1), .val (.int x2), .val (.int x3), .val (.int x4), .val (.int x5), .val (.int j13_1), .val (.int j30_1), .unset, .unset, .unset] [])) rfl (hb hby at_32) (by decide) (by decide)
      obtain ⟨b3, g3⟩ : ∃ z, z = h0.size := ⟨_, rfl⟩
      rw [← g3] at A3 D3 st3
      have ge3 : n0 ≤ b3 := by rw [g3]; exact Z0
      have hge3 : h0.size ≤ b3 := by rw [g3]; exact (Keep.refl h0 []).1
      have K3 : Keep h0 h3 [] := (Keep.refl h0 []).ext E3
      have Zs3 : n0 ≤ h3.size := Nat.le_trans Z0 K3.1
      have f4 : Fld Z h3 b3 "com/example/promulgate/promulgate/LineDiff$Run" "before" "I" (.int (0 : Int32)) := D3 (Or.inr (hw _ (List.mem_of_getElem? (i := 15) rfl))) (ty := .int) (by decide)
      have f5 : Fld Z h3 b3 "com/example/promulgate/promulgate/LineDiff$Run" "beforeCount" "I" (.int (0 : Int32)) := D3 (Or.inr (hw _ (List.mem_of_getElem? (i := 17) rfl))) (ty := .int) (by decide)
      have f6 : Fld Z h3 b3 "com/example/promulgate/promulgate/LineDiff$Run" "after" "I" (.int (0 : Int32)) := D3 (Or.inr (hw _ (List.mem_of_getElem? (i := 19) rfl))) (ty := .int) (by decide)
      have f7 : Fld Z h3 b3 "com/example/promulgate/promulgate/LineDiff$Run" "afterCount" "I" (.int (0 : Int32)) := D3 (Or.inr (hw _ (List.mem_of_getElem? (i := 21) rfl))) (ty := .int) (by decide)
      refine own_st (T' := T3) (F' := (mkF m 35 #[.val (.int x0), .val (.int x1), .val (.int x2), .val (.int x3), .val (.int x4), .val (.int x5), .val (.int j13_1), .val (.int j30_1), .unset, .unset, .unset] [(.ref b3)])) (fun _ k => st3 _ k) ?_
      refine own_st (T' := T3) (F' := (mkF m 36 #[.val (.int x0), .val (.int x1), .val (.int x2), .val (.int x3), .val (.int x4), .val (.int x5), .val (.int j13_1), .val (.int j30_1), .unset, .unset, .unset] [(.ref b3), (.ref b3)])) (fun _ k => XS.dup X3.here hx rfl (hb hby at_35) rfl rfl k) ?_
      refine own_st (T' := T3) (F' := (mkF m 37 #[.val (.int x0), .val (.int x1), .val (.int x2), .val (.int x3), .val (.int x4), .val (.int x5), .val (.int j13_1), .val (.int j30_1), .unset, .unset, .unset] [(.int x0), (.ref b3), (.ref b3)])) (fun _ k => XS.iloadN X3.here hx rfl (hb hby at_36) rfl  k) ?_
      refine own_st (T' := T3) (F' := (mkF m 38 #[.val (.int x0), .val (.int x1), .val (.int x2), .val (.int x3), .val (.int x4), .val (.int x5), .val (.int j13_1), .val (.int j30_1), .unset, .unset, .unset] [(.int x1), (.int x0), (.ref b3), (.ref b3)])) (fun _ k => XS.iloadN X3.here hx rfl (hb hby at_37) rfl  k) ?_
      refine own_st (T' := T3) (F' := (mkF m 39 #[.val (.int x0), .val (.int x1), .val (.int x2), .val (.int x3), .val (.int x4), .val (.int x5), .val (.int j13_1), .val (.int j30_1), .unset, .unset, .unset] [(.int x2), (.int x1), (.int x0), (.ref b3), (.ref b3)])) (fun _ k => XS.iloadN X3.here hx rfl (hb hby at_38) rfl  k) ?_
      refine own_st (T' := T3) (F' := (mkF m 40 #[.val (.int x0), .val (.int x1), .val (.int x2), .val (.int x3), .val (.int x4), .val (.int x5), .val (.int j13_1), .val (.int j30_1), .unset, .unset, .unset] [(.int x3), (.int x2), (.int x1), (.int x0), (.ref b3), (.ref b3)])) (fun _ k => XS.iloadN X3.here hx rfl (hb hby at_39) rfl  k) ?_
      obtain ⟨_, _, ⟨T8, L8, k8, n8⟩, -, X8, ⟨Lc8, hQ8, l8, y8, z8⟩, st8⟩ := X3.specialBack hx (y := (⟨"com/example/promulgate/promulgate/LineDiff$Run", "<init>", "(IIII)V"⟩ : MethodName)) rfl hown (mvT hZ (hw _ (List.mem_of_getElem? (i := 3) rfl))) (mvT hZ (hw _ (List.mem_of_getElem? (i := 4) rfl))) (mvT hZ (hw _ (List.mem_of_getElem? (i := 5) rfl))) (by decide) (backOf (W := 1) (rm1 l Z a0 hw [] b3 x0 x1 x2 x3 (.int (0 : Int32)) (.int (0 : Int32)) (.int (0 : Int32)) (.int (0 : Int32)) h3 n0 Zs3 ge3 A3 f4 f5 f6 f7) hZ (hw _ (List.mem_of_getElem? (i := 5) rfl)) (hw _ (List.mem_of_getElem? (i := 2) rfl)) (by decide) (by decide)) (g := (mkF m 40 #[.val (.int x0), .val (.int x1), .val (.int x2), .val (.int x3), .val (.int x4), .val (.int x5), .val (.int j13_1), .val (.int j30_1), .unset, .unset, .unset] [(.int x3), (.int x2), (.int x1), (.int x0), (.ref b3), (.ref b3)])) rfl (by rw [hml]; rfl) (Steps.refl _) (a := b3) (argsL := [(.int x0), (.int x1), (.int x2), (.int x3)]) (rest := [(.ref b3)]) (lenOf own_pd1 rfl) rfl (by show 2 * 0 + _ ≤ _; exact Nat.le_of_eq rfl) (hb hby at_40) (fun _ _ => ⟨rfl, e3, (by decide : 1 + 0 ≤ _), (by decide : 4 + 0 ≤ _)⟩)
      dsimp only [Pt.U, Pt.locs, Pt.cells, Pt.slots] at X8 l8 y8 z8 st8 hQ8
      subst l8 y8 z8
      obtain ⟨rfl, Nq8, g8_0, g8_1, g8_2, g8_3, g8_4, g8_5⟩ := hQ8
      have N8 := Fr.app N0 Nq8
      have K8 : Keep h0 T8.heap [] := K3.trans g8_0 (allS (Or.inr hge3) all0)
      have Zs8 : n0 ≤ T8.heap.size := Nat.le_trans Z0 K8.1
      refine own_tr (T' := T8) (F' := (mkF m 43 #[.val (.int x0), .val (.int x1), .val (.int x2), .val (.int x3), .val (.int x4), .val (.int x5), .val (.int j13_1), .val (.int j30_1), .unset, .unset, .unset] [(.ref b3)])) st8 ?_
      refine own_st (T' := T8) (F' := (mkF m 45 #[.val (.int x0), .val (.int x1), .val (.int x2), .val (.int x3), .val (.int x4), .val (.int x5), .val (.int j13_1), .val (.int j30_1), .val (.ref b3), .unset, .unset] [])) (fun _ k => XS.astore X8.here hx rfl (hb hby at_43) rfl rfl (l' := #[.val (.int x0), .val (.int x1), .val (.int x2), .val (.int x3), .val (.int x4), .val (.int x5), .val (.int j13_1), .val (.int j30_1), .val (.ref b3), .unset, .unset]) rfl k) ?_
      obtain ⟨T9, h9, X9, e9, E9, A9, D9, -, st9⟩ := newO X8 hx hZ hown (hw _ (List.mem_of_getElem? (i := 0) rfl)) (hw _ (List.mem_of_getElem? (i := 1) rfl)) (hw _ (List.mem_of_getElem? (i := 2) rfl)) rfl (g := (mkF m 45 #[.val (.int x0), .val (.int x1), .val (.int x2), .val (.int x3), .val (.int x4), .val (.int x5), .val (.int j13_1), .val (.int j30_1), .val (.ref b3), .unset, .unset] [])) rfl (hb hby at_45) (by decide) (by decide)
      obtain ⟨b9, g9⟩ : ∃ z, z = T8.heap.size := ⟨_, rfl⟩
      rw [← g9] at A9 D9 st9
      have ge9 : n0 ≤ b9 := by rw [g9]; exact Zs8
      have hge9 : h0.size ≤ b9 := by rw [g9]; exact K8.1
      have ne9_1 : b3 ≠ b9 := by rw [g9]; exact Nat.ne_of_lt g8_1.lt
      have f10 : Exa Z h9 b3 "com/example/promulgate/promulgate/LineDiff$Run" := g8_1.ext E9
      have f11 : Fld Z h9 b3 "com/example/promulgate/promulgate/LineDiff$Run" "before" "I" (.int x0) := g8_2.ext E9
      have f12 : Fld Z h9 b3 "com/example/promulgate/promulgate/LineDiff$Run" "beforeCount" "I" (.int x1) := g8_3.ext E9
      have f13 : Fld Z h9 b3 "com/example/promulgate/promulgate/LineDiff$Run" "after" "I" (.int x2) := g8_4.ext E9
      have f14 : Fld Z h9 b3 "com/example/promulgate/promulgate/LineDiff$Run" "afterCount" "I" (.int x3) := g8_5.ext E9
      have K9 : Keep h0 h9 [] := K8.ext E9
      have Zs9 : n0 ≤ h9.size := Nat.le_trans Z0 K9.1
      have f15 : Fld Z h9 b9 "com/example/promulgate/promulgate/LineDiff$Run" "before" "I" (.int (0 : Int32)) := D9 (Or.inr (hw _ (List.mem_of_getElem? (i := 15) rfl))) (ty := .int) (by decide)
      have f16 : Fld Z h9 b9 "com/example/promulgate/promulgate/LineDiff$Run" "beforeCount" "I" (.int (0 : Int32)) := D9 (Or.inr (hw _ (List.mem_of_getElem? (i := 17) rfl))) (ty := .int) (by decide)
      have f17 : Fld Z h9 b9 "com/example/promulgate/promulgate/LineDiff$Run" "after" "I" (.int (0 : Int32)) := D9 (Or.inr (hw _ (List.mem_of_getElem? (i := 19) rfl))) (ty := .int) (by decide)
      have f18 : Fld Z h9 b9 "com/example/promulgate/promulgate/LineDiff$Run" "afterCount" "I" (.int (0 : Int32)) := D9 (Or.inr (hw _ (List.mem_of_getElem? (i := 21) rfl))) (ty := .int) (by decide)
      refine own_st (T' := T9) (F' := (mkF m 48 #[.val (.int x0), .val (.int x1), .val (.int x2), .val (.int x3), .val (.int x4), .val (.int x5), .val (.int j13_1), .val (.int j30_1), .val (.ref b3), .unset, .unset] [(.ref b9)])) (fun _ k => st9 _ k) ?_
      refine own_st (T' := T9) (F' := (mkF m 49 #[.val (.int x0), .val (.int x1), .val (.int x2), .val (.int x3), .val (.int x4), .val (.int x5), .val (.int j13_1), .val (.int j30_1), .val (.ref b3), .unset, .unset] [(.ref b9), (.ref b9)])) (fun _ k => XS.dup X9.here hx rfl (hb hby at_48) rfl rfl k) ?_
      refine own_st (T' := T9) (F' := (mkF m 50 #[.val (.int x0), .val (.int x1), .val (.int x2), .val (.int x3), .val (.int x4), .val (.int x5), .val (.int j13_1), .val (.int j30_1), .val (.ref b3), .unset, .unset] [(.int x0), (.ref b9), (.ref b9)])) (fun _ k => XS.iloadN X9.here hx rfl (hb hby at_49) rfl  k) ?_
      refine own_st (T' := T9) (F' := (mkF m 51 #[.val (.int x0), .val (.int x1), .val (.int x2), .val (.int x3), .val (.int x4), .val (.int x5), .val (.int j13_1), .val (.int j30_1), .val (.ref b3), .unset, .unset] [(.int x1), (.int x0), (.ref b9), (.ref b9)])) (fun _ k => XS.iloadN X9.here hx rfl (hb hby at_50) rfl  k) ?_
      refine own_st (T' := T9) (F' := (mkF m 52 #[.val (.int x0), .val (.int x1), .val (.int x2), .val (.int x3), .val (.int x4), .val (.int x5), .val (.int j13_1), .val (.int j30_1), .val (.ref b3), .unset, .unset] [(.int (x0 + x1)), (.ref b9), (.ref b9)])) (fun _ k => XS.iadd X9.here hx rfl (hb hby at_51) rfl k) ?_
      refine own_st (T' := T9) (F' := (mkF m 54 #[.val (.int x0), .val (.int x1), .val (.int x2), .val (.int x3), .val (.int x4), .val (.int x5), .val (.int j13_1), .val (.int j30_1), .val (.ref b3), .unset, .unset] [(.int j13_1), (.int (x0 + x1)), (.ref b9), (.ref b9)])) (fun _ k => XS.iload X9.here hx rfl (hb hby at_52) rfl  k) ?_
      refine own_st (T' := T9) (F' := (mkF m 55 #[.val (.int x0), .val (.int x1), .val (.int x2), .val (.int x3), .val (.int x4), .val (.int x5), .val (.int j13_1), .val (.int j30_1), .val (.ref b3), .unset, .unset] [(.int ((x0 + x1) + j13_1)), (.ref b9), (.ref b9)])) (fun _ k => XS.iadd X9.here hx rfl (hb hby at_54) rfl k) ?_
      refine own_st (T' := T9) (F' := (mkF m 56 #[.val (.int x0), .val (.int x1), .val (.int x2), .val (.int x3), .val (.int x4), .val (.int x5), .val (.int j13_1), .val (.int j30_1), .val (.ref b3), .unset, .unset] [(.int x3), (.int ((x0 + x1) + j13_1)), (.ref b9), (.ref b9)])) (fun _ k => XS.iloadN X9.here hx rfl (hb hby at_55) rfl  k) ?_
      refine own_st (T' := T9) (F' := (mkF m 58 #[.val (.int x0), .val (.int x1), .val (.int x2), .val (.int x3), .val (.int x4), .val (.int x5), .val (.int j13_1), .val (.int j30_1), .val (.ref b3), .unset, .unset] [(.int x5), (.int x3), (.int ((x0 + x1) + j13_1)), (.ref b9), (.ref b9)])) (fun _ k => XS.iload X9.here hx rfl (hb hby at_56) rfl  k) ?_
      refine own_st (T' := T9) (F' := (mkF m 59 #[.val (.int x0), .val (.int x1), .val (.int x2), .val (.int x3), .val (.int x4), .val (.int x5), .val (.int j13_1), .val (.int j30_1), .val (.ref b3), .unset, .unset] [(.int (x3 ^^^ x5)), (.int ((x0 + x1) + j13_1)), (.ref b9), (.ref b9)])) (fun _ k => XS.ixor X9.here hx rfl (hb hby at_58) rfl k) ?_
      refine own_st (T' := T9) (F' := (mkF m 60 #[.val (.int x0), .val (.int x1), .val (.int x2), .val (.int x3), .val (.int x4), .val (.int x5), .val (.int j13_1), .val (.int j30_1), .val (.ref b3), .unset, .unset] [(.int x2), (.int (x3 ^^^ x5)), (.int ((x0 + x1) + j13_1)), (.ref b9), (.ref b9)])) (fun _ k => XS.iloadN X9.here hx rfl (hb hby at_59) rfl  k) ?_
      refine own_st (T' := T9) (F' := (mkF m 61 #[.val (.int x0), .val (.int x1), .val (.int x2), .val (.int x3), .val (.int x4), .val (.int x5), .val (.int j13_1), .val (.int j30_1), .val (.ref b3), .unset, .unset] [(.int x3), (.int x2), (.int (x3 ^^^ x5)), (.int ((x0 + x1) + j13_1)), (.ref b9), (.ref b9)])) (fun _ k => XS.iloadN X9.here hx rfl (hb hby at_60) rfl  k) ?_
      refine own_st (T' := T9) (F' := (mkF m 62 #[.val (.int x0), .val (.int x1), .val (.int x2), .val (.int x3), .val (.int x4), .val (.int x5), .val (.int j13_1), .val (.int j30_1), .val (.ref b3), .unset, .unset] [(.int (x2 + x3)), (.int (x3 ^^^ x5)), (.int ((x0 + x1) + j13_1)), (.ref b9), (.ref b9)])) (fun _ k => XS.iadd X9.here hx rfl (hb hby at_61) rfl k) ?_
      refine own_st (T' := T9) (F' := (mkF m 64 #[.val (.int x0), .val (.int x1), .val (.int x2), .val (.int x3), .val (.int x4), .val (.int x5), .val (.int j13_1), .val (.int j30_1), .val (.ref b3), .unset, .unset] [(.int j30_1), (.int (x2 + x3)), (.int (x3 ^^^ x5)), (.int ((x0 + x1) + j13_1)), (.ref b9), (.ref b9)])) (fun _ k => XS.iload X9.here hx rfl (hb hby at_62) rfl  k) ?_
      refine own_st (T' := T9) (F' := (mkF m 65 #[.val (.int x0), .val (.int x1), .val (.int x2), .val (.int x3), .val (.int x4), .val (.int x5), .val (.int j13_1), .val (.int j30_1), .val (.ref b3), .unset, .unset] [(.int ((x2 + x3) + j30_1)), (.int (x3 ^^^ x5)), (.int ((x0 + x1) + j13_1)), (.ref b9), (.ref b9)])) (fun _ k => XS.iadd X9.here hx rfl (hb hby at_64) rfl k) ?_
      refine own_st (T' := T9) (F' := (mkF m 66 #[.val (.int x0), .val (.int x1), .val (.int x2), .val (.int x3), .val (.int x4), .val (.int x5), .val (.int j13_1), .val (.int j30_1), .val (.ref b3), .unset, .unset] [(.int x1), (.int ((x2 + x3) + j30_1)), (.int (x3 ^^^ x5)), (.int ((x0 + x1) + j13_1)), (.ref b9), (.ref b9)])) (fun _ k => XS.iloadN X9.here hx rfl (hb hby at_65) rfl  k) ?_
      refine own_st (T' := T9) (F' := (mkF m 68 #[.val (.int x0), .val (.int x1), .val (.int x2), .val (.int x3), .val (.int x4), .val (.int x5), .val (.int j13_1), .val (.int j30_1), .val (.ref b3), .unset, .unset] [(.int x4), (.int x1), (.int ((x2 + x3) + j30_1)), (.int (x3 ^^^ x5)), (.int ((x0 + x1) + j13_1)), (.ref b9), (.ref b9)])) (fun _ k => XS.iload X9.here hx rfl (hb hby at_66) rfl  k) ?_
      refine own_st (T' := T9) (F' := (mkF m 69 #[.val (.int x0), .val (.int x1), .val (.int x2), .val (.int x3), .val (.int x4), .val (.int x5), .val (.int j13_1), .val (.int j30_1), .val (.ref b3), .unset, .unset] [(.int (x1 ^^^ x4)), (.int ((x2 + x3) + j30_1)), (.int (x3 ^^^ x5)), (.int ((x0 + x1) + j13_1)), (.ref b9), (.ref b9)])) (fun _ k => XS.ixor X9.here hx rfl (hb hby at_68) rfl k) ?_
      obtain ⟨_, _, ⟨T19, L19, k19, n19⟩, -, X19, ⟨Lc19, hQ19, l19, y19, z19⟩, st19⟩ := X9.specialBack hx (y := (⟨"com/example/promulgate/promulgate/LineDiff$Run", "<init>", "(IIII)V"⟩ : MethodName)) rfl hown (mvT hZ (hw _ (List.mem_of_getElem? (i := 3) rfl))) (mvT hZ (hw _ (List.mem_of_getElem? (i := 4) rfl))) (mvT hZ (hw _ (List.mem_of_getElem? (i := 5) rfl))) (by decide) (backOf (W := 1) (rm1 l Z a0 hw [] b9 ((x0 + x1) + j13_1) (x3 ^^^ x5) ((x2 + x3) + j30_1) (x1 ^^^ x4) (.int (0 : Int32)) (.int (0 : Int32)) (.int (0 : Int32)) (.int (0 : Int32)) h9 n0 Zs9 ge9 A9 f15 f16 f17 f18) hZ (hw _ (List.mem_of_getElem? (i := 5) rfl)) (hw _ (List.mem_of_getElem? (i := 2) rfl)) (by decide) (by decide)) (g := (mkF m 69 #[.val (.int x0), .val (.int x1), .val (.int x2), .val (.int x3), .val (.int x4), .val (.int x5), .val (.int j13_1), .val (.int j30_1), .val (.ref b3), .unset, .unset] [(.int (x1 ^^^ x4)), (.int ((x2 + x3) + j30_1)), (.int (x3 ^^^ x5)), (.int ((x0 + x1) + j13_1)), (.ref b9), (.ref b9)])) rfl (by rw [hml]; rfl) (Steps.refl _) (a := b9) (argsL := [(.int ((x0 + x1) + j13_1)), (.int (x3 ^^^ x5)), (.int ((x2 + x3) + j30_1)), (.int (x1 ^^^ x4))]) (rest := [(.ref b9)]) (lenOf own_pd1 rfl) rfl (by show 2 * 0 + _ ≤ _; exact Nat.le_of_eq rfl) (hb hby at_69) (fun _ _ => ⟨rfl, e9, (by decide : 2 + 0 ≤ _), (by decide : 8 + 0 ≤ _)⟩)
      dsimp only [Pt.U, Pt.locs, Pt.cells, Pt.slots] at X19 l19 y19 z19 st19 hQ19
      subst l19 y19 z19
      obtain ⟨rfl, Nq19, g19_0, g19_1, g19_2, g19_3, g19_4, g19_5⟩ := hQ19
      have N19 := Fr.app N8 Nq19
      have f20 : Exa Z T19.heap b3 "com/example/promulgate/promulgate/LineDiff$Run" := f10.keep g19_0
      have f21 : Fld Z T19.heap b3 "com/example/promulgate/promulgate/LineDiff$Run" "before" "I" (.int x0) := f11.keep g19_0 (ninS ne9_1 nin0)
      have f22 : Fld Z T19.heap b3 "com/example/promulgate/promulgate/LineDiff$Run" "beforeCount" "I" (.int x1) := f12.keep g19_0 (ninS ne9_1 nin0)
      have f23 : Fld Z T19.heap b3 "com/example/promulgate/promulgate/LineDiff$Run" "after" "I" (.int x2) := f13.keep g19_0 (ninS ne9_1 nin0)
      have f24 : Fld Z T19.heap b3 "com/example/promulgate/promulgate/LineDiff$Run" "afterCount" "I" (.int x3) := f14.keep g19_0 (ninS ne9_1 nin0)
      have K19 : Keep h0 T19.heap [] := K9.trans g19_0 (allS (Or.inr hge9) all0)
      have Zs19 : n0 ≤ T19.heap.size := Nat.le_trans Z0 K19.1
      refine own_tr (T' := T19) (F' := (mkF m 72 #[.val (.int x0), .val (.int x1), .val (.int x2), .val (.int x3), .val (.int x4), .val (.int x5), .val (.int j13_1), .val (.int j30_1), .val (.ref b3), .unset, .unset] [(.ref b9)])) st19 ?_
      refine own_st (T' := T19) (F' := (mkF m 74 #[.val (.int x0), .val (.int x1), .val (.int x2), .val (.int x3), .val (.int x4), .val (.int x5), .val (.int j13_1), .val (.int j30_1), .val (.ref b3), .val (.ref b9), .unset] [])) (fun _ k => XS.astore X19.here hx rfl (hb hby at_72) rfl rfl (l' := #[.val (.int x0), .val (.int x1), .val (.int x2), .val (.int x3), .val (.int x4), .val (.int x5), .val (.int j13_1), .val (.int j30_1), .val (.ref b3), .val (.ref b9), .unset]) rfl k) ?_
      refine own_st (T' := T19) (F' := (mkF m 76 #[.val (.int x0), .val (.int x1), .val (.int x2), .val (.int x3), .val (.int x4), .val (.int x5), .val (.int j13_1), .val (.int j30_1), .val (.ref b3), .val (.ref b9), .unset] [(.int j13_1)])) (fun _ k => XS.iload X19.here hx rfl (hb hby at_74) rfl  k) ?_
      have J89_25 : ∀ (j89_1 : Int32), (((¬ (j13_1 = (0 : Int32))) ∧ j89_1 = (0 : Int32)) ∨ ((j13_1 = (0 : Int32)) ∧ (¬ (j30_1 = (0 : Int32))) ∧ j89_1 = (0 : Int32)) ∨ ((j13_1 = (0 : Int32)) ∧ (j30_1 = (0 : Int32)) ∧ j89_1 = (1 : Int32))) → own_Go p e below s (Q0 Z x0 x1 x2 x3 x4 x5  h0 n0) room_1.cells room_1.slots T19 (mkF m 89 #[.val (.int x0), .val (.int x1), .val (.int x2), .val (.int x3), .val (.int x4), .val (.int x5), .val (.int j13_1), .val (.int j30_1), .val (.ref b3), .val (.ref b9), .unset] [(.int j89_1)]) := by
        intro j89_1 hJ89_25
        refine own_st (T' := T19) (F' := (mkF m 91 #[.val (.int x0), .val (.int x1), .val (.int x2), .val (.int x3), .val (.int x4), .val (.int x5), .val (.int j13_1), .val (.int j30_1), .val (.ref b3), .val (.ref b9), .val (.int j89_1)] [])) (fun _ k => XS.istore X19.here hx rfl (hb hby at_89) rfl (l' := #[.val (.int x0), .val (.int x1), .val (.int x2), .val (.int x3), .val (.int x4), .val (.int x5), .val (.int j13_1), .val (.int j30_1), .val (.ref b3), .val (.ref b9), .val (.int j89_1)]) rfl k) ?_
        refine own_st (T' := T19) (F' := (mkF m 93 #[.val (.int x0), .val (.int x1), .val (.int x2), .val (.int x3), .val (.int x4), .val (.int x5), .val (.int j13_1), .val (.int j30_1), .val (.ref b3), .val (.ref b9), .val (.int j89_1)] [(.ref b3)])) (fun _ k => XS.aload X19.here hx rfl (hb hby at_91) rfl rfl k) ?_
        refine own_st (T' := T19) (F' := (mkF m 95 #[.val (.int x0), .val (.int x1), .val (.int x2), .val (.int x3), .val (.int x4), .val (.int x5), .val (.int j13_1), .val (.int j30_1), .val (.ref b3), .val (.ref b9), .val (.int j89_1)] [(.ref b9), (.ref b3)])) (fun _ k => XS.aload X19.here hx rfl (hb hby at_93) rfl rfl k) ?_
        obtain ⟨cq26, kq26, q26a, q26b, q26c⟩ := isOf hZ rfl f20
        obtain ⟨_, _, ⟨T26, L26, k26, n26⟩, -, X26, ⟨Lc26, hQ26, l26, y26, z26⟩, st26⟩ := X19.virtualBack hx (y := (⟨"com/example/promulgate/promulgate/LineDiff$Run", "isFollowedBy", "(Lcom/example/promulgate/promulgate/LineDiff$Run;)Z"⟩ : MethodName)) (z := (⟨"com/example/promulgate/promulgate/LineDiff$Run", "isFollowedBy", "(Lcom/example/promulgate/promulgate/LineDiff$Run;)Z"⟩ : MethodName)) hown (mvT hZ (hw _ (List.mem_of_getElem? (i := 22) rfl))) (mvT hZ (hw _ (List.mem_of_getElem? (i := 23) rfl))) (notFace_of_selects (args := #[]) (mvT hZ (hw _ (List.mem_of_getElem? (i := 25) rfl)))) (mvT hZ (hw _ (List.mem_of_getElem? (i := 25) rfl))) (mvT hZ (hw _ (List.mem_of_getElem? (i := 24) rfl))) (by decide) (backOf (W := 0) (rm4 l Z a0 hw [] b3 b9 x0 x1 x2 x3 ((x0 + x1) + j13_1) ((x2 + x3) + j30_1) T19.heap n0 Zs19 f21 f22 f23 f24 g19_2 g19_4) hZ (hw _ (List.mem_of_getElem? (i := 26) rfl)) (hw _ (List.mem_of_getElem? (i := 2) rfl)) (by decide) (by decide)) q26a q26c (g := (mkF m 95 #[.val (.int x0), .val (.int x1), .val (.int x2), .val (.int x3), .val (.int x4), .val (.int x5), .val (.int j13_1), .val (.int j30_1), .val (.ref b3), .val (.ref b9), .val (.int j89_1)] [(.ref b9), (.ref b3)])) rfl (by rw [hml]; rfl) (Steps.refl _) (argsL := [(.ref b9)]) (rest := []) (lenOf own_pd2 rfl) rfl (by show 2 * 0 + _ ≤ _; exact Nat.le_of_eq rfl) (hb hby at_95) (fun _ _ => ⟨rfl, rfl, (by decide : 2 + 0 ≤ _), (by decide : 8 + 0 ≤ _)⟩)
        dsimp only [Pt.U, Pt.locs, Pt.cells, Pt.slots] at X26 l26 y26 z26 st26 hQ26
        subst l26 y26 z26
        obtain ⟨⟨r26, rfl, hr26⟩, Nq26, eq26⟩ := hQ26
        have N26 := Fr.app N19 Nq26
        refine own_tr (T' := T26) (F' := (mkF m 98 #[.val (.int x0), .val (.int x1), .val (.int x2), .val (.int x3), .val (.int x4), .val (.int x5), .val (.int j13_1), .val (.int j30_1), .val (.ref b3), .val (.ref b9), .val (.int j89_1)] [(.int r26)])) st26 ?_
        refine own_st (T' := T26) (F' := (mkF m 100 #[.val (.int x0), .val (.int x1), .val (.int x2), .val (.int x3), .val (.int x4), .val (.int x5), .val (.int j13_1), .val (.int j30_1), .val (.ref b3), .val (.ref b9), .val (.int j89_1)] [(.int j89_1), (.int r26)])) (fun _ k => XS.iload X26.here hx rfl (hb hby at_98) rfl  k) ?_
        have J108_27 : ∀ (j108_1 : Int32), (((¬ (r26 = j89_1)) ∧ j108_1 = (0 : Int32)) ∨ ((r26 = j89_1) ∧ j108_1 = (1 : Int32))) → own_Go p e below s (Q0 Z x0 x1 x2 x3 x4 x5  h0 n0) room_1.cells room_1.slots T26 (mkF m 108 #[.val (.int x0), .val (.int x1), .val (.int x2), .val (.int x3), .val (.int x4), .val (.int x5), .val (.int j13_1), .val (.int j30_1), .val (.ref b3), .val (.ref b9), .val (.int j89_1)] [(.int j108_1)]) := by
          intro j108_1 hJ108_27
          refine own_retN X26 hx hlk (t := .boolean) Bd.returns (by simp) (hb hby at_108) ?_ (by decide) (by decide)
          rw [eq26]
          refine ⟨⟨_, rfl, ?_⟩, N26⟩
          rcases hJ108_27 with ⟨h, rfl⟩ | ⟨h, rfl⟩
          · exact absurd (by
              rw [own_addz, own_addz] at hr26
              rcases hr26 with ⟨a, b⟩ | ⟨a, b⟩ <;> rcases hJ89_25 with ⟨q, r⟩ | ⟨q, q', r⟩ | ⟨q, q', r⟩ <;> simp_all) h
          · rfl
        refine own_icmp X26 hx (pc' := 107) (pc2 := 103) (hb hby at_100) (by decide) (by decide) rfl (fun (hc100 : ¬ (r26 = j89_1)) => ?_) (fun (hc100 : r26 = j89_1) => ?_)
        ·
          refine own_st (T' := T26) (F' := (mkF m 108 #[.val (.int x0), .val (.int x1), .val (.int x2), .val (.int x3), .val (.int x4), .val (.int x5), .val (.int j13_1), .val (.int j30_1), .val (.ref b3), .val (.ref b9), .val (.int j89_1)] [(.int (0 : Int32))])) (fun _ k => XS.iconst X26.here hx rfl (hb hby at_107) k) ?_
          exact J108_27 (0 : Int32) (Or.inl (⟨hc100, rfl⟩))
        ·
          refine own_st (T' := T26) (F' := (mkF m 104 #[.val (.int x0), .val (.int x1), .val (.int x2), .val (.int x3), .val (.int x4), .val (.int x5), .val (.int j13_1), .val (.int j30_1), .val (.ref b3), .val (.ref b9), .val (.int j89_1)] [(.int (1 : Int32))])) (fun _ k => XS.iconst X26.here hx rfl (hb hby at_103) k) ?_
          refine own_st (T' := T26) (F' := (mkF m 108 #[.val (.int x0), .val (.int x1), .val (.int x2), .val (.int x3), .val (.int x4), .val (.int x5), .val (.int j13_1), .val (.int j30_1), .val (.ref b3), .val (.ref b9), .val (.int j89_1)] [(.int (1 : Int32))])) (fun _ k => XS.goto X26.here hx rfl (pc0 := 104) (pc' := 108) rfl (hb hby at_104) (by decide) (by decide) k) ?_
          exact J108_27 (1 : Int32) (Or.inr (⟨hc100, rfl⟩))
      refine own_ifc X19 hx (pc' := 88) (pc2 := 79) (hb hby at_76) (by decide) (by decide) rfl (fun (hc76 : ¬ (j13_1 = (0 : Int32))) => ?_) (fun (hc76 : j13_1 = (0 : Int32)) => ?_)
      ·
        refine own_st (T' := T19) (F' := (mkF m 89 #[.val (.int x0), .val (.int x1), .val (.int x2), .val (.int x3), .val (.int x4), .val (.int x5), .val (.int j13_1), .val (.int j30_1), .val (.ref b3), .val (.ref b9), .unset] [(.int (0 : Int32))])) (fun _ k => XS.iconst X19.here hx rfl (hb hby at_88) k) ?_
        exact J89_25 (0 : Int32) (Or.inl (⟨hc76, rfl⟩))
      ·
        refine own_st (T' := T19) (F' := (mkF m 81 #[.val (.int x0), .val (.int x1), .val (.int x2), .val (.int x3), .val (.int x4), .val (.int x5), .val (.int j13_1), .val (.int j30_1), .val (.ref b3), .val (.ref b9), .unset] [(.int j30_1)])) (fun _ k => XS.iload X19.here hx rfl (hb hby at_79) rfl  k) ?_
        refine own_ifc X19 hx (pc' := 88) (pc2 := 84) (hb hby at_81) (by decide) (by decide) rfl (fun (hc81 : ¬ (j30_1 = (0 : Int32))) => ?_) (fun (hc81 : j30_1 = (0 : Int32)) => ?_)
        ·
          refine own_st (T' := T19) (F' := (mkF m 89 #[.val (.int x0), .val (.int x1), .val (.int x2), .val (.int x3), .val (.int x4), .val (.int x5), .val (.int j13_1), .val (.int j30_1), .val (.ref b3), .val (.ref b9), .unset] [(.int (0 : Int32))])) (fun _ k => XS.iconst X19.here hx rfl (hb hby at_88) k) ?_
          exact J89_25 (0 : Int32) (Or.inr (Or.inl (⟨hc76, hc81, rfl⟩)))
        ·
          refine own_st (T' := T19) (F' := (mkF m 85 #[.val (.int x0), .val (.int x1), .val (.int x2), .val (.int x3), .val (.int x4), .val (.int x5), .val (.int j13_1), .val (.int j30_1), .val (.ref b3), .val (.ref b9), .unset] [(.int (1 : Int32))])) (fun _ k => XS.iconst X19.here hx rfl (hb hby at_84) k) ?_
          refine own_st (T' := T19) (F' := (mkF m 89 #[.val (.int x0), .val (.int x1), .val (.int x2), .val (.int x3), .val (.int x4), .val (.int x5), .val (.int j13_1), .val (.int j30_1), .val (.ref b3), .val (.ref b9), .unset] [(.int (1 : Int32))])) (fun _ k => XS.goto X19.here hx rfl (pc0 := 85) (pc' := 89) rfl (hb hby at_85) (by decide) (by decide) k) ?_
          exact J89_25 (1 : Int32) (Or.inr (Or.inr (⟨hc76, hc81, rfl⟩)))
    refine own_ifc X0 hx (pc' := 29) (pc2 := 22) (hb hby at_19) (by decide) (by decide) rfl (fun (hc19 : (x5 &&& (2 : Int32)) = (0 : Int32)) => ?_) (fun (hc19 : ¬ ((x5 &&& (2 : Int32)) = (0 : Int32))) => ?_)
    ·
      refine own_st (T' := s₁) (F' := (mkF m 30 #[.val (.int x0), .val (.int x1), .val (.int x2), .val (.int x3), .val (.int x4), .val (.int x5), .val (.int j13_1), .unset, .unset, .unset, .unset] [(.int (0 : Int32))])) (fun _ k => XS.iconst X0.here hx rfl (hb hby at_29) k) ?_
      exact J30_2 (0 : Int32) (Or.inl (⟨hc19, rfl⟩))
    ·
      refine own_st (T' := s₁) (F' := (mkF m 24 #[.val (.int x0), .val (.int x1), .val (.int x2), .val (.int x3), .val (.int x4), .val (.int x5), .val (.int j13_1), .unset, .unset, .unset, .unset] [(.int x5)])) (fun _ k => XS.iload X0.here hx rfl (hb hby at_22) rfl  k) ?_
      refine own_st (T' := s₁) (F' := (mkF m 25 #[.val (.int x0), .val (.int x1), .val (.int x2), .val (.int x3), .val (.int x4), .val (.int x5), .val (.int j13_1), .unset, .unset, .unset, .unset] [(.int (2 : Int32)), (.int x5)])) (fun _ k => XS.iconst X0.here hx rfl (hb hby at_24) k) ?_
      refine own_st (T' := s₁) (F' := (mkF m 26 #[.val (.int x0), .val (.int x1), .val (.int x2), .val (.int x3), .val (.int x4), .val (.int x5), .val (.int j13_1), .unset, .unset, .unset, .unset] [(.int (x5 >>> ((2 : Int32) &&& 31)))])) (fun _ k => XS.ishr X0.here hx rfl (hb hby at_25) rfl k) ?_
      refine own_st (T' := s₁) (F' := (mkF m 30 #[.val (.int x0), .val (.int x1), .val (.int x2), .val (.int x3), .val (.int x4), .val (.int x5), .val (.int j13_1), .unset, .unset, .unset, .unset] [(.int (x5 >>> ((2 : Int32) &&& 31)))])) (fun _ k => XS.goto X0.here hx rfl (pc0 := 26) (pc' := 30) rfl (hb hby at_26) (by decide) (by decide) k) ?_
      exact J30_2 (x5 >>> ((2 : Int32) &&& 31)) (Or.inr (⟨hc19, rfl⟩))
  refine own_ifc X0 hx (pc' := 12) (pc2 := 7) (hb hby at_4) (by decide) (by decide) rfl (fun (hc4 : (x5 &&& (1 : Int32)) = (0 : Int32)) => ?_) (fun (hc4 : ¬ ((x5 &&& (1 : Int32)) = (0 : Int32))) => ?_)
  ·
    refine own_st (T' := s₁) (F' := (mkF m 13 #[.val (.int x0), .val (.int x1), .val (.int x2), .val (.int x3), .val (.int x4), .val (.int x5), .unset, .unset, .unset, .unset, .unset] [(.int (0 : Int32))])) (fun _ k => XS.iconst X0.here hx rfl (hb hby at_12) k) ?_
    exact J13_1 (0 : Int32) (Or.inl (⟨hc4, rfl⟩))
  ·
    refine own_st (T' := s₁) (F' := (mkF m 9 #[.val (.int x0), .val (.int x1), .val (.int x2), .val (.int x3), .val (.int x4), .val (.int x5), .unset, .unset, .unset, .unset, .unset] [(.int x4)])) (fun _ k => XS.iload X0.here hx rfl (hb hby at_7) rfl  k) ?_
    refine own_st (T' := s₁) (F' := (mkF m 13 #[.val (.int x0), .val (.int x1), .val (.int x2), .val (.int x3), .val (.int x4), .val (.int x5), .unset, .unset, .unset, .unset, .unset] [(.int x4)])) (fun _ k => XS.goto X0.here hx rfl (pc0 := 9) (pc' := 13) rfl (hb hby at_9) (by decide) (by decide) k) ?_
    exact J13_1 x4 (Or.inr (⟨hc4, rfl⟩))
set_option maxRecDepth 65536 in
set_option maxHeartbeats 40000000 in
theorem comes_1 {Post : Tables → Env → Array Value → State → Outcome → State → Prop} (hpost : ∀ tb e args s v u, (limb_1_1.after args s (.returned v) u = true ∧ limb_1_2.after args s (.returned v) u = true ∧ True) → FrameEnd s (.returned v) u (Jvm.fieldLocs frame_1_writes args s ++ Jvm.arrayLocs frame_1_arrays args s ++ Jvm.staticLocs frame_1_statics s) 16 128 → Post tb e args s (.returned v) u) :
    ArmFor flags0 classFile x code maxLocals ret World_1 tables_1 room_1 Calls_1 rest_1 Pre_1 Post := by
  intro l hfl _ _ p e ha hc hk s m args below hf hA hF happ hP
  obtain ⟨hcalls, hrest, hpre⟩ := hP
  obtain ⟨-, -, -, hnamed, -, -, -, hat⟩ := (Spec.applies_iff hf).mp happ
  obtain ⟨hg, hn⟩ := and_e (Cond.before_iff.mp (show (Jvm.Cond.and given_1 narrow_1).before args s = true from hpre))
  obtain ⟨g0, hg0⟩ := and_e hg
  obtain ⟨g1, hg1⟩ := and_e hg0
  obtain ⟨g2, hg2⟩ := and_e hg1
  obtain ⟨g3, hg3⟩ := and_e hg2
  obtain ⟨g4, hg4⟩ := and_e hg3
  obtain ⟨g5, hg5⟩ := and_e hg4
  obtain ⟨w0, w1, w2, w3, w4, w5, rfl⟩ : ∃ w0 w1 w2 w3 w4 w5 : Value, args = #[w0, w1, w2, w3, w4, w5] := by
    have hs : args.size = 6 := by simpa [Cond.value, given_1] using g0
    obtain ⟨L⟩ := args
    match L, hs with
    | [w0, w1, w2, w3, w4, w5], _ => exact ⟨w0, w1, w2, w3, w4, w5, rfl⟩
  have hw := fun d (hd : d ∈ tables_1) => atoms_spec (ws := Jvm.Cond.code x code maxLocals ret :: tables_1) hat d (List.mem_cons_of_mem _ hd)
  have hfit : Fit s := fun {y c} hc i hi => by
    obtain ⟨ha, rfl⟩ := Array.getElem?_eq_some_iff.mp hc
    have q := List.all_eq_true.mp ((Array.all_eq_true_iff_forall_mem.mp hF) _ (Array.getElem_mem ha)) i (List.mem_range.mpr hi)
    simpa [Array.getElem?_eq_getElem hi] using q
  obtain ⟨i0, ei0⟩ := is_v g1
  obtain rfl : w0 = (.int i0) := Option.some.inj ei0
  obtain ⟨i1, ei1⟩ := is_v g2
  obtain rfl : w1 = (.int i1) := Option.some.inj ei1
  obtain ⟨i2, ei2⟩ := is_v g3
  obtain rfl : w2 = (.int i2) := Option.some.inj ei2
  obtain ⟨i3, ei3⟩ := is_v g4
  obtain rfl : w3 = (.int i3) := Option.some.inj ei3
  obtain ⟨i4, ei4⟩ := is_v g5
  obtain rfl : w4 = (.int i4) := Option.some.inj ei4
  obtain ⟨i5, ei5⟩ := is_v hg5
  obtain rfl : w5 = (.int i5) := Option.some.inj ei5
  obtain ⟨n, o, h1, h2, h3, _, L, rfl, ⟨⟨_, rfl, rfl⟩, N⟩, hq⟩ := rm0 l s _ hw tables_1 i0 i1 i2 i3 i4 i5  s.heap s.heap.size (Nat.le_refl _)  p e ha hc hk s m _ below hf ((Spec.applies_iff_loose hf).mp happ).1 ⟨rfl, State.Warmed39.refl s, rfl⟩ trivial
  refine ⟨n, _, h1, h2, h3, hpost _ _ _ _ _ _ ⟨Cond.after_iff.mpr rfl, Cond.after_iff.mpr (eq_i res_at (Term.int_eval (1)) rfl), trivial⟩ ⟨hq.1, hq.2.1, (hq.2.2.sift fun y hy => Or.inr (N y hy)).mono (by decide) (by decide)⟩⟩
theorem main_1_1 : Claimed_1_1 := comes_1 fun _ _ _ _ _ _ h hF => ⟨h.1, hF⟩
theorem main_1_2 : Claimed_1_2 := comes_1 fun _ _ _ _ _ _ h hF => ⟨h.2.1, hF⟩
end Jvm.Pilot.@@N@@
namespace Jvm.Pilot.@@N@@
open Jvm Jvm.ClassFile Sem Op Lib Jvm.Free Jvm.Stand Jvm.Pilot.@@N@@.Jvm.D
/-! MADE BY PROGRAM (witnessworld.py) out of the Statement's table words and the real class files: 10 classes; the members and pool entries that the words name. The judged class is class 1, her method 1. -/
namespace start1
open Jvm.ClassFile
def u (s : String) : CpInfo := .utf8 (stringToUtf16 s)
/-- a pool by its gaps: so many unusable entries, then the entry; so many at the end -/
def gap : Nat → List CpInfo → List CpInfo
  | 0, r => r
  | n + 1, r => .unusable :: gap n r
def poolList (es : List (Nat × CpInfo)) (last : Nat) : List CpInfo := es.foldr (fun e r => gap e.1 (e.2 :: r)) (gap last [])
def pool (es : List (Nat × CpInfo)) (last : Nat) : Array CpInfo := ⟨poolList es last⟩
def fileOf (pool : Array CpInfo) (this : Nat) (attrs : Array Attribute := #[]) (ms : Array MethodInfo := #[]) (fl : Nat := 33) (sup : Nat := 0) (ifs : Array Nat := #[]) (fds : Array FieldInfo := #[]) : ClassFile where
  minorVersion := 0
  majorVersion := 65
  constantPool := pool
  accessFlags := fl
  thisClass := this
  superClass := sup
  interfaces := ifs
  fields := fds
  methods := ms
  attributes := attrs
def plain (name : String) (sup : Option ClassId) : Class where
  name := name
  kind := .ordinary
  loader := none
  accessFlags := 33
  super := sup
  interfaces := #[]
  cf := none
  fields := #[]
  methods := #[]
  instanceTypes := #[]
  staticTypes := #[]
  resolved := #[]
  callSites := []
  init := .initialized
  statics := none
  mirror := none

def pool0 : Array CpInfo := pool [(5, u "<init>"), (0, u "()V"), (1, .class_ 10), (1, u "java/lang/Object")] 113

def k0c0 : Code := { maxStack := 0, maxLocals := 1, code := object_method_1_code, exceptionTable := #[], attributes := #[] }
def k0m0 : Method := { name := "<init>", desc := "()V", sig := { parameters := [], returnType := none }, accessFlags := 1, code := some k0c0 }
/-- java/lang/Object -/
def k0 : Class := { plain "java/lang/Object" none with
  accessFlags := 33
  interfaces := #[]
  cf := some (fileOf pool0 8 #[] #[{ accessFlags := 1, nameIndex := 5, descriptorIndex := 6, attributes := #[] }] 33 0 #[] #[])
  fields := #[]
  methods := #[k0m0]
  instanceTypes := #[]
  staticTypes := #[]
  resolved := Array.replicate 124 none
  statics := none }

def pool1 : Array CpInfo := pool [(2, .class_ 4), (1, u "java/lang/Object"), (0, u "<init>"), (0, u "()V"), (0, .class_ 8), (0, u "com/example/promulgate/promulgate/LineDiff$Run"), (0, .methodref 7 10), (0, .nameAndType 5 11), (0, u "(IIII)V"), (0, .methodref 7 13), (0, .nameAndType 14 15), (0, u "isFollowedBy"), (0, u "(Lcom/example/promulgate/promulgate/LineDiff$Run;)Z"), (0, .class_ 17), (0, u "com/example/promulgate/promulgate/RunIsFollowedByPinLaw"), (2, u "law"), (0, u "(IIIIII)Z")] 7

def k1m0 : Method := { name := "<init>", desc := "()V", sig := { parameters := [], returnType := none }, accessFlags := 1, code := none }
def k1c1 : Code := { maxStack := 7, maxLocals := 11, code := code, exceptionTable := #[], attributes := #[] }
def k1m1 : Method := { name := "law", desc := "(IIIIII)Z", sig := { parameters := [.int, .int, .int, .int, .int, .int], returnType := some .boolean }, accessFlags := 9, code := some k1c1 }
/-- com/example/promulgate/promulgate/RunIsFollowedByPinLaw -/
def k1 : Class := { plain "com/example/promulgate/promulgate/RunIsFollowedByPinLaw" (some 0) with
  accessFlags := 49
  interfaces := #[]
  cf := some (fileOf pool1 16 #[] #[{ accessFlags := 1, nameIndex := 5, descriptorIndex := 6, attributes := #[] }, { accessFlags := 9, nameIndex := 20, descriptorIndex := 21, attributes := #[] }] 49 2 #[] #[])
  fields := #[]
  methods := #[k1m0, k1m1]
  instanceTypes := #[]
  staticTypes := #[]
  resolved := Array.replicate 29 none
  statics := none }

def pool2 : Array CpInfo := pool [(1, .methodref 2 3), (0, .class_ 4), (0, .nameAndType 5 6), (0, u "java/lang/Object"), (0, u "<init>"), (0, u "()V"), (0, .class_ 8), (0, u "java/lang/Record")] 13

def k2c0 : Code := { maxStack := 1, maxLocals := 1, code := jdk_30_method_1_code, exceptionTable := #[], attributes := #[] }
def k2m0 : Method := { name := "<init>", desc := "()V", sig := { parameters := [], returnType := none }, accessFlags := 4, code := some k2c0 }
/-- java/lang/Record -/
def k2 : Class := { plain "java/lang/Record" (some 0) with
  accessFlags := 1057
  interfaces := #[]
  cf := some (fileOf pool2 7 #[] #[{ accessFlags := 4, nameIndex := 5, descriptorIndex := 6, attributes := #[] }] 1057 2 #[] #[])
  fields := #[]
  methods := #[k2m0]
  instanceTypes := #[]
  staticTypes := #[]
  resolved := Array.replicate 22 none
  statics := none }

def pool3 : Array CpInfo := pool [(1, .methodref 2 3), (0, .class_ 4), (0, .nameAndType 5 6), (0, u "java/lang/Record"), (0, u "<init>"), (0, u "()V"), (0, .fieldref 8 9), (0, .class_ 10), (0, .nameAndType 11 12), (0, u "com/example/promulgate/promulgate/LineDiff$Run"), (0, u "before"), (0, u "I"), (0, .fieldref 8 14), (0, .nameAndType 15 12), (0, u "beforeCount"), (0, .fieldref 8 17), (0, .nameAndType 18 12), (0, u "after"), (0, .fieldref 8 20), (0, .nameAndType 21 12), (0, u "afterCount"), (2, u "(IIII)V"), (15, u "isFollowedBy"), (0, u "(Lcom/example/promulgate/promulgate/LineDiff$Run;)Z"), (11, .class_ 54), (0, u "com/example/promulgate/promulgate/LineDiff")] 22

def k3c0 : Code := { maxStack := 2, maxLocals := 5, code := prog_11_method_1_code, exceptionTable := #[], attributes := #[] }
def k3m0 : Method := { name := "<init>", desc := "(IIII)V", sig := { parameters := [.int, .int, .int, .int], returnType := none }, accessFlags := 0, code := some k3c0 }
def k3c1 : Code := { maxStack := 2, maxLocals := 2, code := prog_11_method_2_code, exceptionTable := #[], attributes := #[] }
def k3m1 : Method := { name := "isFollowedBy", desc := "(Lcom/example/promulgate/promulgate/LineDiff$Run;)Z", sig := { parameters := [(.object "com/example/promulgate/promulgate/LineDiff$Run")], returnType := some .boolean }, accessFlags := 0, code := some k3c1 }
/-- com/example/promulgate/promulgate/LineDiff$Run -/
def k3 : Class := { plain "com/example/promulgate/promulgate/LineDiff$Run" (some 2) with
  accessFlags := 48
  interfaces := #[]
  cf := some (fileOf pool3 8 #[.nestHost 53] #[{ accessFlags := 0, nameIndex := 5, descriptorIndex := 24, attributes := #[] }, { accessFlags := 0, nameIndex := 40, descriptorIndex := 41, attributes := #[] }] 48 2 #[] #[{ accessFlags := 18, nameIndex := 11, descriptorIndex := 12, attributes := #[] }, { accessFlags := 18, nameIndex := 15, descriptorIndex := 12, attributes := #[] }, { accessFlags := 18, nameIndex := 18, descriptorIndex := 12, attributes := #[] }, { accessFlags := 18, nameIndex := 21, descriptorIndex := 12, attributes := #[] }])
  fields := #[{ name := "before", type := .int, accessFlags := 18, slot := 0, constantValue := 0 }, { name := "beforeCount", type := .int, accessFlags := 18, slot := 1, constantValue := 0 }, { name := "after", type := .int, accessFlags := 18, slot := 2, constantValue := 0 }, { name := "afterCount", type := .int, accessFlags := 18, slot := 3, constantValue := 0 }]
  methods := #[k3m0, k3m1]
  instanceTypes := #[.int, .int, .int, .int]
  staticTypes := #[]
  resolved := Array.replicate 77 none
  statics := none }

def pool4 : Array CpInfo := pool [(1, u "java/lang/Cloneable"), (0, .class_ 1), (0, u "java/lang/Object"), (0, .class_ 3)] 3

/-- java/lang/Cloneable -/
def k4 : Class := { plain "java/lang/Cloneable" (some 0) with
  accessFlags := 1537
  interfaces := #[]
  cf := some (fileOf pool4 2 #[] #[] 1537 4 #[] #[])
  fields := #[]
  methods := #[]
  instanceTypes := #[]
  staticTypes := #[]
  resolved := Array.replicate 8 none
  statics := none }

def pool5 : Array CpInfo := pool [(1, u "java/io/Serializable"), (0, .class_ 1), (0, u "java/lang/Object"), (0, .class_ 3)] 3

/-- java/io/Serializable -/
def k5 : Class := { plain "java/io/Serializable" (some 0) with
  accessFlags := 1537
  interfaces := #[]
  cf := some (fileOf pool5 2 #[] #[] 1537 4 #[] #[])
  fields := #[]
  methods := #[]
  instanceTypes := #[]
  staticTypes := #[]
  resolved := Array.replicate 8 none
  statics := none }

/-- the primitive byte -/
def k6 : Class := { plain "byte" none with kind := .primitive 'B', accessFlags := 0x411 }
/-- [B -/
def k7 : Class := { plain "[B" (some 0) with kind := .array 6 .byte, interfaces := #[4, 5], accessFlags := 1041 }

/-- the primitive int -/
def k8 : Class := { plain "int" none with kind := .primitive 'I', accessFlags := 0x411 }
/-- [I -/
def k9 : Class := { plain "[I" (some 0) with kind := .array 8 .int, interfaces := #[4, 5], accessFlags := 1041 }

def heap : Heap := #[]
def classes : Array Class := #[k0, k1, k2, k3, k4, k5, k6, k7, k8, k9]
def interned : List (Array UInt16 × Addr) := []
def slotsUsed : Nat := 0
def theMethod : MethodId := ⟨1, 1⟩
def args0 : Array Value := #[.int 1, .int 2, .int 3, .int 4, .int 5, .int 3]
def aboutOver (below : List Frame) : State where
  vm := { classes := classes, interned := interned.toArray }
  heap := heap
  slotsUsed := slotsUsed
  threads := #[{ frames := .invoking theMethod args0 :: below }]
def below0 : List Frame := [.native { method := ⟨0, 0⟩, args := #[] }]
def about1 : State := aboutOver below0
def p0 : Program := .bare "" "" ""
def e0 : Env := launch0.env 0 0 0
theorem w_frames : about1.frames = Frame.invoking theMethod args0 :: below0 := rfl
set_option maxRecDepth 65536 in
theorem w_args : argsFit about1.vm theMethod args0 = true := by decide +kernel
set_option maxRecDepth 65536 in
theorem w_heap : heapFits about1 = true := by decide +kernel
set_option maxRecDepth 65536 in
theorem w_runnable : about1.curStatus? = some .runnable := by decide +kernel
set_option maxRecDepth 65536 in
theorem w_alone : about1.alone = true := by decide +kernel
set_option maxRecDepth 65536 in
theorem w_named : about1.methodNamed? x = some theMethod := by decide +kernel
set_option maxRecDepth 65536 in
theorem w_hears : about1.hears theMethod below0 = true := by decide +kernel
set_option maxRecDepth 65536 in
theorem w_ripe : about1.ripe theMethod args0 below0 = true := by decide +kernel
theorem w_running : about1.status = .running := rfl
set_option maxRecDepth 65536 in
theorem w_room : about1.hasRoom e0.platform room_1 = true :=
  launch0.hasRoom_least _ room_1 (by decide +kernel) (by decide +kernel) (by decide +kernel) (by decide +kernel) (by decide +kernel) (by decide +kernel)
theorem allAtoms_all (ts : List Jvm.Cond) (a : Array Jvm.Value) (st : Jvm.State) : (allAtoms ts).before a st = ts.all (fun c => c.before a st) := by
  induction ts with
  | nil => rfl
  | cons c t ih =>
    show (Jvm.Cond.and c (allAtoms t)).before a st = _
    rw [Jvm.Cond.before_and, ih, List.all_cons]
def words1 : List Jvm.Cond := Jvm.Cond.code x code maxLocals ret :: tables_1
/-- a 'code' word, met by the world's own term for the bytes: nothing is compared byte by byte -/
theorem code_word {y : MethodName} {bytes : ByteArray} {mx : Nat} {rt : Option FieldType} {a : Array Value} {s : State} {m : MethodId} {meth : Method} {c : Code} (h1 : s.methodNamed? y = some m) (h2 : s.vm.method? m = some meth) (h3 : meth.code = some c) (h4 : c.code = bytes)
    (h5 : (c.maxLocals == mx && c.exceptionTable.isEmpty && decide (c.maxStack ≤ mostOperands) && decide (meth.sig.returnType = rt) && !meth.locks && decide (parseMethodDescriptor y.desc = some meth.sig)) = true) : (Jvm.Cond.code y bytes mx rt).before a s = true := by
  simp only [Bool.and_eq_true, beq_iff_eq, Bool.not_eq_true', decide_eq_true_eq] at h5
  obtain ⟨⟨⟨⟨⟨g1, g2⟩, g3⟩, g4⟩, g5⟩, g6⟩ := h5
  simp [Cond.before, Cond.holds, Cond.value, h1, h2, h3, h4, g1, g2, g3, g4, g5, g6]
def isCode : Jvm.Cond → Bool
  | .code _ _ _ _ => true
  | _ => false
theorem all_split {L : List Jvm.Cond} {P : Jvm.Cond → Bool} (h1 : L.all (fun c => isCode c || P c) = true) (h2 : ∀ c ∈ L.filter isCode, P c = true) : L.all P = true := by
  refine List.all_eq_true.mpr fun c hc => ?_
  have h := List.all_eq_true.mp h1 c hc
  rcases Bool.eq_false_or_eq_true (isCode c) with hi | hi
  · exact h2 c (List.mem_filter.mpr ⟨hc, hi⟩)
  · simpa [hi] using h
set_option maxRecDepth 65536 in
theorem w_c0 : (Jvm.Cond.code x code maxLocals ret).before args0 about1 = true := code_word (m := ⟨1, 1⟩) (meth := k1m1) (c := k1c1) (by decide +kernel) rfl rfl rfl (by decide +kernel)
set_option maxRecDepth 65536 in
theorem w_c1 : (Jvm.Cond.code ({ cls := "com/example/promulgate/promulgate/LineDiff$Run", name := "<init>", desc := "(IIII)V" } : Jvm.MethodName) prog_11_method_1_code (5 : Nat) (Option.none : Option Jvm.ClassFile.FieldType)).before args0 about1 = true := code_word (m := ⟨3, 0⟩) (meth := k3m0) (c := k3c0) (by decide +kernel) rfl rfl rfl (by decide +kernel)
set_option maxRecDepth 65536 in
theorem w_c2 : (Jvm.Cond.code ({ cls := "java/lang/Record", name := "<init>", desc := "()V" } : Jvm.MethodName) jdk_30_method_1_code (1 : Nat) (Option.none : Option Jvm.ClassFile.FieldType)).before args0 about1 = true := code_word (m := ⟨2, 0⟩) (meth := k2m0) (c := k2c0) (by decide +kernel) rfl rfl rfl (by decide +kernel)
set_option maxRecDepth 65536 in
theorem w_c3 : (Jvm.Cond.code ({ cls := "java/lang/Object", name := "<init>", desc := "()V" } : Jvm.MethodName) object_method_1_code (1 : Nat) (Option.none : Option Jvm.ClassFile.FieldType)).before args0 about1 = true := code_word (m := ⟨0, 0⟩) (meth := k0m0) (c := k0c0) (by decide +kernel) rfl rfl rfl (by decide +kernel)
set_option maxRecDepth 65536 in
theorem w_c4 : (Jvm.Cond.code ({ cls := "com/example/promulgate/promulgate/LineDiff$Run", name := "isFollowedBy", desc := "(Lcom/example/promulgate/promulgate/LineDiff$Run;)Z" } : Jvm.MethodName) prog_11_method_2_code (2 : Nat) (Option.some Jvm.ClassFile.FieldType.boolean)).before args0 about1 = true := code_word (m := ⟨3, 1⟩) (meth := k3m1) (c := k3c1) (by decide +kernel) rfl rfl rfl (by decide +kernel)
def codes1 : List Jvm.Cond := [Jvm.Cond.code x code maxLocals ret, Jvm.Cond.code ({ cls := "com/example/promulgate/promulgate/LineDiff$Run", name := "<init>", desc := "(IIII)V" } : Jvm.MethodName) prog_11_method_1_code (5 : Nat) (Option.none : Option Jvm.ClassFile.FieldType), Jvm.Cond.code ({ cls := "java/lang/Record", name := "<init>", desc := "()V" } : Jvm.MethodName) jdk_30_method_1_code (1 : Nat) (Option.none : Option Jvm.ClassFile.FieldType), Jvm.Cond.code ({ cls := "java/lang/Object", name := "<init>", desc := "()V" } : Jvm.MethodName) object_method_1_code (1 : Nat) (Option.none : Option Jvm.ClassFile.FieldType), Jvm.Cond.code ({ cls := "com/example/promulgate/promulgate/LineDiff$Run", name := "isFollowedBy", desc := "(Lcom/example/promulgate/promulgate/LineDiff$Run;)Z" } : Jvm.MethodName) prog_11_method_2_code (2 : Nat) (Option.some Jvm.ClassFile.FieldType.boolean)]
set_option maxRecDepth 65536 in
theorem codes_eq : words1.filter isCode = codes1 := rfl
theorem w_codes : ∀ c ∈ words1.filter isCode, c.before args0 about1 = true := by
  rw [codes_eq]
  intro c hc
  simp only [codes1, List.mem_cons, List.not_mem_nil, or_false] at hc
  rcases hc with rfl | rfl | rfl | rfl | rfl
  · exact w_c0
  · exact w_c1
  · exact w_c2
  · exact w_c3
  · exact w_c4
set_option maxRecDepth 65536 in
theorem w_t1 : (words1.take 24).all (fun c => isCode c || c.before args0 about1) = true := by decide +kernel
set_option maxRecDepth 65536 in
theorem w_t2 : (words1.drop 24).all (fun c => isCode c || c.before args0 about1) = true := by decide +kernel
theorem w_tables : (allAtoms (Jvm.Cond.code x code maxLocals ret :: tables_1)).before args0 about1 = true := by
  rw [allAtoms_all]
  show words1.all (fun c => c.before args0 about1) = true
  refine all_split ?_ w_codes
  rw [← List.take_append_drop 24 words1, List.all_append, w_t1, w_t2]
  rfl
set_option maxRecDepth 65536 in
theorem w_case : (Jvm.Cond.and given_1 narrow_1).before args0 about1 = true := by decide +kernel
theorem w_applies : (headSpec (Jvm.Cond.code x code maxLocals ret :: tables_1) room_1).applies x e0.platform about1 = true :=
  (Spec.applies_iff w_frames).mpr ⟨w_running, w_runnable, w_alone, w_named, w_hears, w_ripe, w_room, w_tables⟩
theorem atStart : AtStart classFile x code maxLocals ret World_1 tables_1 room_1 Calls_1 rest_1 Pre_1 launch0 p0 e0 about1 theMethod args0 below0 :=
  ⟨lists_1, trivial, launch0.admits_env _ _ _, launch0.least_env, fairChoices_fair.cas, fairChoices_fair.clock, w_frames, w_args, w_heap, w_applies, trivial, trivial, w_case⟩
end start1
theorem witness_1 : WitnessClaimed_1 := ⟨start1.p0, start1.e0, start1.about1, start1.theMethod, start1.args0, start1.below0, start1.atStart⟩
end Jvm.Pilot.@@N@@
