import JvmDerived
import JvmDerived.Pilot.@@N@@Statement
import JvmDerived.Pilot.@@N@@Code
set_option linter.unusedVariables false
set_option linter.unusedSimpArgs false
namespace Jvm.Pilot.@@N@@
open Jvm Jvm.ClassFile Sem Op Lib Jvm.Free Jvm.Stand Jvm.LawKit Jvm.RoadKit Bundle Jvm.Pilot.@@N@@.Jvm.D
section Own
variable {p : Program} {l : Launch} {e : Env} {R : Room} {s : State} {m : MethodId} {args : Array Value} {below : List Frame} {meth : Method} {c : Code} {T T' : State} {locs : List Loc} {cells slots : Nat} {Qf : Option Value → Heap → List Loc → Prop} {C S : Nat} {F F' : JFrame}
/-- from the state T with the frame F on top the invocation ends as Qf says -/
def own_Go (p : Program) (e : Env) (below : List Frame) (s : State) (Qf : Option Value → Heap → List Loc → Prop) (C S : Nat) (T : State) (F : JFrame) : Prop :=
  ∃ s₂ o, Steps p.tables e below (T.setTop F) s₂ ∧ s₂.status = .running ∧ Ended s₂ below o ∧ ∃ v L, o = .returned v ∧ Qf v s₂.heap L ∧ FrameEnd s o s₂ L C S
theorem own_enter (q : F = F') (hr : own_Go p e below s Qf C S T F') : ∃ s₂ o, Steps p.tables e below (T.setTop F) s₂ ∧ s₂.status = .running ∧ Ended s₂ below o ∧ ∃ v L, o = .returned v ∧ Qf v s₂.heap L ∧ FrameEnd s o s₂ L C S := by
  subst q; exact hr
theorem own_st (st : ∀ t, Steps p.tables e below (T'.setTop F') t → Steps p.tables e below (T.setTop F) t) (hr : own_Go p e below s Qf C S T' F') : own_Go p e below s Qf C S T F := by
  obtain ⟨s2, o, h1, h2⟩ := hr
  exact ⟨s2, o, st _ h1, h2⟩
theorem own_tr (st : Steps p.tables e below (T.setTop F) (T'.setTop F')) (hr : own_Go p e below s Qf C S T' F') : own_Go p e below s Qf C S T F := by
  obtain ⟨s2, o, h1, h2⟩ := hr
  exact ⟨s2, o, st.trans h1, h2⟩
theorem own_ret (X : Stand p l e R s m args below meth c T locs cells slots) (hlk : meth.locks = false) {v : Option Value} (hv : meth.sig.returnType = none → v = none)
    (st : ∀ fs, (∀ (f : JFrame) (acts : List Action), f.method = m → f.locked = none → f.entered = [] → (doReturn e (T.setTop f) acts v).1 = T.setFrames fs) → Steps p.tables e below (T.setTop F) (T.setFrames fs))
    (hQ : Qf v T.heap locs) (hC : cells ≤ C) (hS : slots ≤ S) : own_Go p e below s Qf C S T F := by
  obtain ⟨fs, hr, hrun, hended, hW, hsame⟩ := X.leave (v := v) hv hlk
  exact ⟨_, _, st fs hr, hrun, hended, _, _, rfl, hQ, ⟨_, rfl⟩, hW, hsame.mono hC hS⟩
theorem own_retN (X : Stand p l e R s m args below meth c T locs cells slots) (hx : p.tables.exec = Jvm.exec) (hlk : meth.locks = false) {pc : Nat} {Ls : Array Slot} {z : Int32} {t : FieldType} {rest : List Value} (hret : meth.sig.returnType = some t) (ht : t = .boolean ∨ t = .byte ∨ t = .char ∨ t = .short) (hd : decode c.code pc = .ok (.ireturn, 1))
    (hQ : Qf (some (.int (nar t z))) T.heap locs) (hC : cells ≤ C) (hS : slots ≤ S) : own_Go p e below s Qf C S T (mkF m pc Ls (.int z :: rest)) :=
  own_ret X hlk (fun h => by rw [hret] at h; cases h) (fun _ hr => retN X hx hret ht hd hr) hQ hC hS
theorem own_retI (X : Stand p l e R s m args below meth c T locs cells slots) (hx : p.tables.exec = Jvm.exec) (hlk : meth.locks = false) {pc : Nat} {Ls : Array Slot} {z : Int32} {rest : List Value} (hret : meth.sig.returnType = some .int) (hd : decode c.code pc = .ok (.ireturn, 1))
    (hQ : Qf (some (.int z)) T.heap locs) (hC : cells ≤ C) (hS : slots ≤ S) : own_Go p e below s Qf C S T (mkF m pc Ls (.int z :: rest)) :=
  own_ret X hlk (fun h => by rw [hret] at h; cases h) (fun _ hr => retOut X hx hret rfl (Or.inl ⟨rfl, Or.inl rfl, _, rfl⟩) hd hr) hQ hC hS
theorem own_retJ (X : Stand p l e R s m args below meth c T locs cells slots) (hx : p.tables.exec = Jvm.exec) (hlk : meth.locks = false) {pc : Nat} {Ls : Array Slot} {z : Int64} {rest : List Value} (hret : meth.sig.returnType = some .long) (hd : decode c.code pc = .ok (.lreturn, 1))
    (hQ : Qf (some (.long z)) T.heap locs) (hC : cells ≤ C) (hS : slots ≤ S) : own_Go p e below s Qf C S T (mkF m pc Ls (.long z :: rest)) :=
  own_ret X hlk (fun h => by rw [hret] at h; cases h) (fun _ hr => retOut X hx hret rfl (Or.inr (Or.inl ⟨rfl, rfl, _, rfl⟩)) hd hr) hQ hC hS
theorem own_retA (X : Stand p l e R s m args below meth c T locs cells slots) (hx : p.tables.exec = Jvm.exec) (hlk : meth.locks = false) {pc : Nat} {Ls : Array Slot} {w : Value} {t : FieldType} {rest : List Value} (hret : meth.sig.returnType = some t) (ht : t.isReference = true) (hw : w.isRef = true) (hn : narrow t w = w) (hd : decode c.code pc = .ok (.areturn, 1))
    (hQ : Qf (some w) T.heap locs) (hC : cells ≤ C) (hS : slots ≤ S) : own_Go p e below s Qf C S T (mkF m pc Ls (w :: rest)) :=
  own_ret X hlk (fun h => by rw [hret] at h; cases h) (fun _ hr => retOut X hx hret hn (Or.inr (Or.inr (Or.inr (Or.inr ⟨rfl, ht, hw⟩)))) hd hr) hQ hC hS
theorem own_retV (X : Stand p l e R s m args below meth c T locs cells slots) (hx : p.tables.exec = Jvm.exec) (hlk : meth.locks = false) {pc : Nat} {Ls : Array Slot} (hret : meth.sig.returnType = none) (hd : decode c.code pc = .ok (.return_, 1))
    (hQ : Qf none T.heap locs) (hC : cells ≤ C) (hS : slots ≤ S) : own_Go p e below s Qf C S T (mkF m pc Ls []) :=
  own_ret X hlk (fun _ => rfl) (fun _ hr => X.returnOut hx hret hd hr) hQ hC hS
def own_cc : ClassFile.Cond → Int32 → Int32 → Prop
  | .eq, x, y => x = y
  | .ne, x, y => ¬ x = y
  | .lt, x, y => x < y
  | .ge, x, y => ¬ x < y
  | .gt, x, y => y < x
  | .le, x, y => ¬ y < x
def own_nn : ClassFile.Cond → Int32 → Int32 → Prop
  | .eq, x, y => ¬ x = y
  | .ne, x, y => x = y
  | .lt, x, y => ¬ x < y
  | .ge, x, y => x < y
  | .gt, x, y => ¬ y < x
  | .le, x, y => y < x
theorem own_split (cd : ClassFile.Cond) (x y : Int32) : (own_cc cd x y ∧ if_icmp.holds cd x y = true) ∨ (own_nn cd x y ∧ if_icmp.holds cd x y = false) := by
  cases cd
  · by_cases h : x = y
    · exact Or.inl ⟨h, (teq h).1⟩
    · exact Or.inr ⟨h, (feq h).1⟩
  · by_cases h : x = y
    · exact Or.inr ⟨h, (teq h).2⟩
    · exact Or.inl ⟨h, (feq h).2⟩
  · by_cases h : x < y
    · exact Or.inl ⟨h, (tlt h).1⟩
    · exact Or.inr ⟨h, (flt h).1⟩
  · by_cases h : x < y
    · exact Or.inr ⟨h, (tlt h).2.1⟩
    · exact Or.inl ⟨h, (flt h).2.1⟩
  · by_cases h : y < x
    · exact Or.inl ⟨h, (tlt h).2.2.1⟩
    · exact Or.inr ⟨h, (flt h).2.2.1⟩
  · by_cases h : y < x
    · exact Or.inr ⟨h, (tlt h).2.2.2⟩
    · exact Or.inl ⟨h, (flt h).2.2.2⟩
theorem own_icmp (X : Stand p l e R s m args below meth c T locs cells slots) (hx : p.tables.exec = Jvm.exec) {pc pc' pc2 : Nat} {Ls : Array Slot} {st : List Value} {x y : Int32} {cd : ClassFile.Cond} {o : Int} (hd : decode c.code pc = .ok (.if_icmp cd o, 3)) (ho : 0 ≤ (pc : Int) + o) (hp : ((pc : Int) + o).toNat = pc') (h2 : pc + 3 = pc2)
    (hY : own_cc cd x y → own_Go p e below s Qf C S T (mkF m pc' Ls st)) (hN : own_nn cd x y → own_Go p e below s Qf C S T (mkF m pc2 Ls st)) : own_Go p e below s Qf C S T (mkF m pc Ls (.int y :: .int x :: st)) := by
  subst h2
  rcases own_split cd x y with ⟨h, q⟩ | ⟨h, q⟩
  · exact own_st (fun _ k => XS.icmpYes X.here hx rfl (pc0 := pc) (pc' := pc') rfl hd rfl q ho hp k) (hY h)
  · exact own_st (fun _ k => XS.icmpNo X.here hx rfl hd rfl q k) (hN h)
theorem own_ifc (X : Stand p l e R s m args below meth c T locs cells slots) (hx : p.tables.exec = Jvm.exec) {pc pc' pc2 : Nat} {Ls : Array Slot} {st : List Value} {x : Int32} {cd : ClassFile.Cond} {o : Int} (hd : decode c.code pc = .ok (.ifCond cd o, 3)) (ho : 0 ≤ (pc : Int) + o) (hp : ((pc : Int) + o).toNat = pc') (h2 : pc + 3 = pc2)
    (hY : own_cc cd x 0 → own_Go p e below s Qf C S T (mkF m pc' Ls st)) (hN : own_nn cd x 0 → own_Go p e below s Qf C S T (mkF m pc2 Ls st)) : own_Go p e below s Qf C S T (mkF m pc Ls (.int x :: st)) := by
  subst h2
  rcases own_split cd x 0 with ⟨h, q⟩ | ⟨h, q⟩
  · exact own_st (fun _ k => XS.ifYes X.here hx rfl (pc0 := pc) (pc' := pc') rfl hd rfl ((if0 _ _).trans q) ho hp k) (hY h)
  · exact own_st (fun _ k => XS.ifNo X.here hx rfl hd rfl ((if0 _ _).trans q) k) (hN h)
def own_ccL : ClassFile.Cond → Int64 → Int64 → Prop
  | .eq, x, y => x = y
  | .ne, x, y => ¬ x = y
  | .lt, x, y => x < y
  | .ge, x, y => ¬ x < y
  | .gt, x, y => y < x
  | .le, x, y => ¬ y < x
def own_nnL : ClassFile.Cond → Int64 → Int64 → Prop
  | .eq, x, y => ¬ x = y
  | .ne, x, y => x = y
  | .lt, x, y => ¬ x < y
  | .ge, x, y => x < y
  | .gt, x, y => ¬ y < x
  | .le, x, y => y < x
theorem own_lc (cd : ClassFile.Cond) (x y : Int64) : (own_cc cd (lcmpW x y) 0 → own_ccL cd x y) ∧ (own_nn cd (lcmpW x y) 0 → own_nnL cd x y) := by
  have h1 : x > y → lcmpW x y = 1 := fun h => by simp [lcmpW, h]
  have h2 : x = y → lcmpW x y = 0 := fun h => by subst h; simp [lcmpW, Int64.lt_irrefl]
  have h3 : ¬ x > y → ¬ x = y → lcmpW x y = -1 := fun h h' => by simp [lcmpW, h, h']
  have lt : x < y ↔ lcmpW x y < 0 := by
    by_cases a : x > y
    · rw [h1 a]; exact ⟨fun b => absurd (Int64.lt_trans a b) (Int64.lt_irrefl), fun b => absurd b (by decide)⟩
    · by_cases b : x = y
      · rw [h2 b, b]; exact ⟨fun q => absurd q (Int64.lt_irrefl), fun q => absurd q (by decide)⟩
      · rw [h3 a b]; exact ⟨fun _ => by decide, fun _ => by
          rw [Int64.lt_iff_toInt_lt]; simp only [gt_iff_lt, Int64.lt_iff_toInt_lt] at a
          have : x.toInt ≠ y.toInt := fun q => b (Int64.toInt_inj.mp q)
          omega⟩
  have gt : y < x ↔ 0 < lcmpW x y := by
    by_cases a : x > y
    · rw [h1 a]; exact ⟨fun _ => by decide, fun _ => a⟩
    · by_cases b : x = y
      · rw [h2 b]; exact ⟨fun q => absurd q a, fun q => absurd q (by decide)⟩
      · rw [h3 a b]; exact ⟨fun q => absurd q a, fun q => absurd q (by decide)⟩
  have eq : x = y ↔ lcmpW x y = 0 := by
    by_cases a : x > y
    · rw [h1 a]; exact ⟨fun b => absurd a (by rw [b]; exact Int64.lt_irrefl), fun b => absurd b (by decide)⟩
    · by_cases b : x = y
      · exact ⟨fun _ => h2 b, fun _ => b⟩
      · rw [h3 a b]; exact ⟨fun q => absurd q b, fun q => absurd q (by decide)⟩
  cases cd
  · exact ⟨fun h => eq.mpr h, fun h q => h (eq.mp q)⟩
  · exact ⟨fun h q => h (eq.mp q), fun h => eq.mpr h⟩
  · exact ⟨fun h => lt.mpr h, fun h q => h (lt.mp q)⟩
  · exact ⟨fun h q => h (lt.mp q), fun h => lt.mpr h⟩
  · exact ⟨fun h => gt.mpr h, fun h q => h (gt.mp q)⟩
  · exact ⟨fun h q => h (gt.mp q), fun h => gt.mpr h⟩
theorem own_iflc (X : Stand p l e R s m args below meth c T locs cells slots) (hx : p.tables.exec = Jvm.exec) {pc pc' pc2 : Nat} {Ls : Array Slot} {st : List Value} {x y : Int64} {cd : ClassFile.Cond} {o : Int} (hd : decode c.code pc = .ok (.ifCond cd o, 3)) (ho : 0 ≤ (pc : Int) + o) (hp : ((pc : Int) + o).toNat = pc') (h2 : pc + 3 = pc2)
    (hY : own_ccL cd x y → own_Go p e below s Qf C S T (mkF m pc' Ls st)) (hN : own_nnL cd x y → own_Go p e below s Qf C S T (mkF m pc2 Ls st)) : own_Go p e below s Qf C S T (mkF m pc Ls (.int (lcmpW x y) :: st)) :=
  own_ifc X hx hd ho hp h2 (fun h => hY ((own_lc cd x y).1 h)) (fun h => hN ((own_lc cd x y).2 h))
theorem own_acmp (X : Stand p l e R s m args below meth c T locs cells slots) (hx : p.tables.exec = Jvm.exec) {pc pc' pc2 : Nat} {Ls : Array Slot} {st : List Value} {x y : Addr} {o : Int} {cd : ACond} (hd : decode c.code pc = .ok (.if_acmp cd o, 3)) (ho : 0 ≤ (pc : Int) + o) (hp : ((pc : Int) + o).toNat = pc') (h2 : pc + 3 = pc2)
    (hE : x = y → own_Go p e below s Qf C S T (mkF m (if acV cd true = true then pc' else pc2) Ls st)) (hN : ¬ x = y → own_Go p e below s Qf C S T (mkF m (if acV cd false = true then pc' else pc2) Ls st)) : own_Go p e below s Qf C S T (mkF m pc Ls (.ref y :: .ref x :: st)) := by
  subst h2 hp
  by_cases h : x = y
  · exact own_st (fun _ k => Jvm.RoadKit.acmp (g := mkF m pc Ls (.ref y :: .ref x :: st)) X hx rfl rfl rfl (pc0 := pc) (same := true) rfl hd rfl (decide_eq_true (congrArg Value.ref h)) ho rfl k) (hE h)
  · exact own_st (fun _ k => Jvm.RoadKit.acmp (g := mkF m pc Ls (.ref y :: .ref x :: st)) X hx rfl rfl rfl (pc0 := pc) (same := false) rfl hd rfl (decide_eq_false fun q => h (Value.ref.inj q)) ho rfl k) (hN h)
theorem own_ord {Z : State} {a0 : Array Value} {t : Term} {a : Addr} {C n d : String} {k : Int32} (ev : t.eval a0 Z none [] Z = some (.ref a)) (h : (Cond.eq (Term.field t C n d) (Term.int k)).value a0 Z none Z [] = some true) : Fld Z Z.heap a C n d (.int k) := by
  have e1 : (Term.field t C n d).eval a0 Z none [] Z = Z.fieldOf? a C n d := fld_at ev
  simp only [Cond.value, e1] at h
  cases hq : Z.fieldOf? a C n d with
  | none => simp [hq] at h
  | some v =>
    rw [hq] at h
    cases v <;> simp [Term.eval] at h
    subst h
    exact Fld.start hq
theorem own_narb {z : Int32} (h : z = 0 ∨ z = 1) : nar .boolean z = z := by rcases h with rfl | rfl <;> rfl
theorem own_stk {Z : State} {h h' : Heap} {C n d : String} {v : Value} {ws : List Addr} (F : Sta Z h C n d v) (K : Keep h h' ws) (q : ∀ x ∈ ws, ∀ c : Cell, h[x]? = some c → c.vm.isStatics = false) : Sta Z h' C n d v := by
  obtain ⟨cf, i, k, f, st, cell, h1, h2, h3, h4, h5, h6, h7⟩ := F
  exact ⟨cf, i, k, f, st, cell, h1, h2, h3, h4, K.2.1 st cell h5 (fun z => by rw [q st z cell h5] at h6; cases h6), h6, h7⟩
theorem own_npE {Z : State} {h : Heap} {a : Addr} {C : String} (E : Exa Z h a C) : ∀ c : Cell, h[a]? = some c → c.vm.isStatics = false := fun c hc => by
  obtain ⟨cell, k, h1, h2, h3, h4, h5⟩ := E
  cases h1.symm.trans hc
  exact h4
theorem own_npA {Z : State} {h : Heap} {a : Addr} {k : ClassId} {ty : FieldType} {z : Int32} {vs : List Value} {dv : Value} (V : Arv Z h a k ty z vs dv) : ∀ c : Cell, h[a]? = some c → c.vm.isStatics = false := fun c hc => by
  obtain ⟨cl, A, r⟩ := V
  cases A.1.symm.trans hc
  exact A.plain
theorem own_len {Z : State} {a0 : Array Value} {t : Term} {a : Addr} {cl : Cell} {ty : FieldType} {k : Int32} (ev : t.eval a0 Z none [] Z = some (.ref a)) (A : Arr Z Z.heap a cl ty) (h : (Cond.eq (Term.length t) (Term.int k)).value a0 Z none Z [] = some true) : cl.slots.size < 2 ^ 31 ∧ cl.slots.size.toInt32 = k := by
  have ha : Z.arrayAt? a = some cl := IntBox.arrayAt_of A.1 A.2.1 A.2.2
  simp only [Cond.value, Term.eval, ev, Option.bind_eq_bind, Option.bind_some, ha] at h
  by_cases q : cl.slots.size < 2 ^ 31
  · simp [q] at h; exact ⟨q, h⟩
  · simp [q] at h
theorem own_elem {Z : State} {a0 : Array Value} {t : Term} {a : Addr} {cl : Cell} {ty : FieldType} {j v : Int32} (ev : t.eval a0 Z none [] Z = some (.ref a)) (A : Arr Z Z.heap a cl ty) (hj : ¬ j < 0) (h : (Cond.eq (Term.elem t (Term.int j)) (Term.int v)).value a0 Z none Z [] = some true) : cl.slots[j.toNatClampNeg]? = some (.int v) := by
  have ha : Z.arrayAt? a = some cl := IntBox.arrayAt_of A.1 A.2.1 A.2.2
  have e1 : (Term.elem t (Term.int j)).eval a0 Z none [] Z = cl.slots[j.toNatClampNeg]? := elem_f ev rfl ha hj
  simp only [Cond.value, e1] at h
  cases hq : cl.slots[j.toNatClampNeg]? with
  | none => simp [hq] at h
  | some w =>
    rw [hq] at h
    cases w <;> simp [Term.eval] at h
    rw [h]
theorem own_arvex {Z : State} {a : Addr} {cl : Cell} {ty : FieldType} {z : Int32} {dv : Value} (hf : Fit Z) (A : Arr Z Z.heap a cl ty) (q : cl.slots.size < 2 ^ 31) (e : cl.slots.size.toInt32 = z) (hz : ¬ z < 0) : ∃ vs, Arv Z Z.heap a cl.cls ty z vs dv := by
  have S : cl.slots.size = z.toNatClampNeg := by rw [← e]; simp only [Int32.toNatClampNeg, len_toInt q]; rfl
  have H : Has cl cl.slots.toList dv := fun k hk => by
    rw [List.getD_eq_getElem?_getD, Array.getElem?_toList, Array.getElem?_eq_getElem hk]; rfl
  refine ⟨cl.slots.toList, cl, A, rfl, S, hz, H, fun j hj => ?_⟩
  have e1 : (Nat.toInt32 j).toNatClampNeg = j := by simp only [Int32.toNatClampNeg, len_toInt (Nat.lt_trans hj q)]; rfl
  exact elem_fits (j := Nat.toInt32 j) hf A (idx_in hj q) (by rw [e1]; exact H j hj)
theorem own_selp {s : State} {args : Array Value} {y : MethodName} {n : Nat} (wi : (Cond.instantiable y.cls n).before args s = true) (hp : s.PrivateAt y) (hi : (Cond.instanceMethod y).before args s = true) (hy : y.cls ≠ "java/lang/invoke/MethodHandle" ∧ y.cls ≠ "java/lang/invoke/VarHandle") : (Cond.selects y.cls y y).before args s = true := by
  obtain ⟨c, k, hc, hk, -, hf, -⟩ := Cond.instantiable_spec wi
  exact selects_self_of_private hc hk (by simp only [Bool.or_eq_false_iff] at hf; exact hf.1) hp hi hy
theorem own_nar0 : nar .boolean (0 : Int32) = 0 := rfl
theorem own_nar1 : nar .boolean (1 : Int32) = 1 := rfl
end Own

theorem d5t2_0 : decode jdk_48_method_6_code 0 = .ok (.iload_n 2, 1) := by decide +kernel
theorem d5t2_1 : decode jdk_48_method_6_code 1 = .ok (.iload_n 3, 1) := by decide +kernel
theorem d5t2_2 : decode jdk_48_method_6_code 2 = .ok (.iadd, 1) := by decide +kernel
theorem d5t2_3 : decode jdk_48_method_6_code 3 = .ok (.istore 4, 2) := by decide +kernel
theorem d5t2_5 : decode jdk_48_method_6_code 5 = .ok (.iload_n 2, 1) := by decide +kernel
theorem d5t2_6 : decode jdk_48_method_6_code 6 = .ok (.istore 5, 2) := by decide +kernel
theorem d5t2_8 : decode jdk_48_method_6_code 8 = .ok (.iload 5, 2) := by decide +kernel
theorem d5t2_10 : decode jdk_48_method_6_code 10 = .ok (.iload 4, 2) := by decide +kernel
theorem d5t2_12 : decode jdk_48_method_6_code 12 = .ok (.if_icmp .ge 19, 3) := by decide +kernel
theorem d5t2_15 : decode jdk_48_method_6_code 15 = .ok (.bipush 31, 2) := by decide +kernel
theorem d5t2_17 : decode jdk_48_method_6_code 17 = .ok (.iload_n 0, 1) := by decide +kernel
theorem d5t2_18 : decode jdk_48_method_6_code 18 = .ok (.imul, 1) := by decide +kernel
theorem d5t2_19 : decode jdk_48_method_6_code 19 = .ok (.aload_n 1, 1) := by decide +kernel
theorem d5t2_20 : decode jdk_48_method_6_code 20 = .ok (.iload 5, 2) := by decide +kernel
theorem d5t2_22 : decode jdk_48_method_6_code 22 = .ok (.baload, 1) := by decide +kernel
theorem d5t2_23 : decode jdk_48_method_6_code 23 = .ok (.iadd, 1) := by decide +kernel
theorem d5t2_24 : decode jdk_48_method_6_code 24 = .ok (.istore_n 0, 1) := by decide +kernel
theorem d5t2_25 : decode jdk_48_method_6_code 25 = .ok (.iinc 5 1, 3) := by decide +kernel
theorem d5t2_28 : decode jdk_48_method_6_code 28 = .ok (.goto (-20), 3) := by decide +kernel
theorem d5t2_31 : decode jdk_48_method_6_code 31 = .ok (.iload_n 0, 1) := by decide +kernel
theorem d5t2_32 : decode jdk_48_method_6_code 32 = .ok (.ireturn, 1) := by decide +kernel
theorem own_pn5t2 : plainName "jdk/internal/util/ArraysSupport" = true := by first | (simp [plainName, overriddenIn]; done) | decide +kernel
theorem own_ef5t2 (m : MethodId) (x0 : Int32) (x1 : Addr) : entryFrame m #[(.int x0), (.ref x1), (.int (0 : Int32)), (.int (2 : Int32))] 6 = (mkF m 0 #[.val (.int x0), .val (.ref x1), .val (.int (0 : Int32)), .val (.int (2 : Int32)), .unset, .unset] []) := by first | (simp [entryFrame, mkF, argsToLocals, Value.category]; done) | rfl
def Q5t2 (Z : State) (x0 : Int32) (x1 : Addr) (k : ClassId) (b0 : Int32) (b1 : Int32) (h0 : Heap) (n0 : Nat) (v : Option Value) (h : Heap) (L : List Loc) : Prop := (∃ z : Int32, v = some (.int z) ∧ (True)) ∧ Fr n0 L ∧ h = h0
set_option maxRecDepth 65536 in
set_option maxHeartbeats 40000000 in
theorem rm5t2 (l : Launch) (Z : State) (a0 : Array Value) (hw : ∀ d ∈ tables_1, d.before a0 Z = true) (ws : List Jvm.Cond) (x0 : Int32) (x1 : Addr) (k : ClassId) (b0 : Int32) (b1 : Int32) (h0 : Heap) (n0 : Nat) (Z0 : n0 ≤ h0.size) (V_x1 : Arv Z h0 x1 k .byte (2 : Int32) [(.int b0), (.int b1)] (.int (0 : Int32))) :
    MetFree l (⟨"jdk/internal/util/ArraysSupport", "hashCode", "(I[BII)I"⟩ : MethodName) (head1 (Jvm.Cond.code (⟨"jdk/internal/util/ArraysSupport", "hashCode", "(I[BII)I"⟩ : MethodName) jdk_48_method_6_code 6 (some .int) :: ws) ({ frames := 0, cells := 0, slots := 0, locals := 0 } : Room)) (fun a U => a = #[(.int x0), (.ref x1), (.int (0 : Int32)), (.int (2 : Int32))] ∧ Z.Warmed39 U.vm ∧ U.heap = h0) (fun _ _ _ _ _ => True) (fun _ U oc U' => ∃ v L, oc = .returned v ∧ Q5t2 Z x0 x1 k b0 b1 h0 n0 v U'.heap L ∧ FrameEnd U oc U' L ({ frames := 0, cells := 0, slots := 0, locals := 0 } : Room).cells ({ frames := 0, cells := 0, slots := 0, locals := 0 } : Room).slots) := by
  refine MetFree.of_bodySF (plainFor_of_name own_pn5t2) hisR ?_
  intro p e s m args below meth c s₁ Bd hml0 hP hK
  obtain ⟨rfl, hZ, hh⟩ := hP
  have hx := Bd.exec
  have hby := Bd.bytes
  have hlk : meth.locks = false := BodyLoose.notSynchronized Bd
  have hml : c.maxLocals = 6 := hml0
  have hown : s.vm.findClass "jdk/internal/util/ArraysSupport" = some m.cls := findClass_of_methodNamed Bd.named
  have hnm := (name_of_methodNamed Bd.named Bd.method).1
  have X0 : Stand p l e ({ frames := 0, cells := 0, slots := 0, locals := 0 } : Room) s m #[(.int x0), (.ref x1), (.int (0 : Int32)), (.int (2 : Int32))] below meth c s₁ [] 0 0 := Stand.of_body Bd
  have e0 : s₁.heap = h0 := by rw [← hh, Bd.state]; rfl
  have N0 := Fr.nil n0
  refine own_enter (own_ef5t2 m x0 x1) ?_
  show own_Go p e below s (Q5t2 Z x0 x1 k b0 b1 h0 n0) ({ frames := 0, cells := 0, slots := 0, locals := 0 } : Room).cells ({ frames := 0, cells := 0, slots := 0, locals := 0 } : Room).slots s₁ (mkF m 0 #[.val (.int x0), .val (.ref x1), .val (.int (0 : Int32)), .val (.int (2 : Int32)), .unset, .unset] [])
  refine own_st (T' := s₁) (F' := (mkF m 1 #[.val (.int x0), .val (.ref x1), .val (.int (0 : Int32)), .val (.int (2 : Int32)), .unset, .unset] [(.int (0 : Int32))])) (fun _ k => XS.iloadN X0.here hx rfl (hb hby d5t2_0) rfl  k) ?_
  refine own_st (T' := s₁) (F' := (mkF m 2 #[.val (.int x0), .val (.ref x1), .val (.int (0 : Int32)), .val (.int (2 : Int32)), .unset, .unset] [(.int (2 : Int32)), (.int (0 : Int32))])) (fun _ k => XS.iloadN X0.here hx rfl (hb hby d5t2_1) rfl  k) ?_
  refine own_st (T' := s₁) (F' := (mkF m 3 #[.val (.int x0), .val (.ref x1), .val (.int (0 : Int32)), .val (.int (2 : Int32)), .unset, .unset] [(.int (2 : Int32))])) (fun _ k => XS.iadd X0.here hx rfl (hb hby d5t2_2) rfl k) ?_
  refine own_st (T' := s₁) (F' := (mkF m 5 #[.val (.int x0), .val (.ref x1), .val (.int (0 : Int32)), .val (.int (2 : Int32)), .val (.int (2 : Int32)), .unset] [])) (fun _ k => XS.istore X0.here hx rfl (hb hby d5t2_3) rfl (l' := #[.val (.int x0), .val (.ref x1), .val (.int (0 : Int32)), .val (.int (2 : Int32)), .val (.int (2 : Int32)), .unset]) rfl k) ?_
  refine own_st (T' := s₁) (F' := (mkF m 6 #[.val (.int x0), .val (.ref x1), .val (.int (0 : Int32)), .val (.int (2 : Int32)), .val (.int (2 : Int32)), .unset] [(.int (0 : Int32))])) (fun _ k => XS.iloadN X0.here hx rfl (hb hby d5t2_5) rfl  k) ?_
  refine own_st (T' := s₁) (F' := (mkF m 8 #[.val (.int x0), .val (.ref x1), .val (.int (0 : Int32)), .val (.int (2 : Int32)), .val (.int (2 : Int32)), .val (.int (0 : Int32))] [])) (fun _ k => XS.istore X0.here hx rfl (hb hby d5t2_6) rfl (l' := #[.val (.int x0), .val (.ref x1), .val (.int (0 : Int32)), .val (.int (2 : Int32)), .val (.int (2 : Int32)), .val (.int (0 : Int32))]) rfl k) ?_
  refine own_st (T' := s₁) (F' := (mkF m 10 #[.val (.int x0), .val (.ref x1), .val (.int (0 : Int32)), .val (.int (2 : Int32)), .val (.int (2 : Int32)), .val (.int (0 : Int32))] [(.int (0 : Int32))])) (fun _ k => XS.iload X0.here hx rfl (hb hby d5t2_8) rfl  k) ?_
  refine own_st (T' := s₁) (F' := (mkF m 12 #[.val (.int x0), .val (.ref x1), .val (.int (0 : Int32)), .val (.int (2 : Int32)), .val (.int (2 : Int32)), .val (.int (0 : Int32))] [(.int (2 : Int32)), (.int (0 : Int32))])) (fun _ k => XS.iload X0.here hx rfl (hb hby d5t2_10) rfl  k) ?_
  refine own_icmp X0 hx (pc' := 31) (pc2 := 15) (hb hby d5t2_12) (by decide) (by decide) rfl (fun (hc12_1 : ¬ ((0 : Int32) < (2 : Int32))) => ?_) (fun (hc12_1 : (0 : Int32) < (2 : Int32)) => ?_)
  · exact absurd hc12_1 (by decide)
  refine own_st (T' := s₁) (F' := (mkF m 17 #[.val (.int x0), .val (.ref x1), .val (.int (0 : Int32)), .val (.int (2 : Int32)), .val (.int (2 : Int32)), .val (.int (0 : Int32))] [(.int (31 : Int32))])) (fun _ k => XS.bipush X0.here hx rfl (hb hby d5t2_15) k) ?_
  refine own_st (T' := s₁) (F' := (mkF m 18 #[.val (.int x0), .val (.ref x1), .val (.int (0 : Int32)), .val (.int (2 : Int32)), .val (.int (2 : Int32)), .val (.int (0 : Int32))] [(.int x0), (.int (31 : Int32))])) (fun _ k => XS.iloadN X0.here hx rfl (hb hby d5t2_17) rfl  k) ?_
  refine own_st (T' := s₁) (F' := (mkF m 19 #[.val (.int x0), .val (.ref x1), .val (.int (0 : Int32)), .val (.int (2 : Int32)), .val (.int (2 : Int32)), .val (.int (0 : Int32))] [(.int ((31 : Int32) * x0))])) (fun _ k => XS.imul X0.here hx rfl (hb hby d5t2_18) rfl k) ?_
  refine own_st (T' := s₁) (F' := (mkF m 20 #[.val (.int x0), .val (.ref x1), .val (.int (0 : Int32)), .val (.int (2 : Int32)), .val (.int (2 : Int32)), .val (.int (0 : Int32))] [(.ref x1), (.int ((31 : Int32) * x0))])) (fun _ k => XS.aloadN X0.here hx rfl (hb hby d5t2_19) rfl rfl k) ?_
  refine own_st (T' := s₁) (F' := (mkF m 22 #[.val (.int x0), .val (.ref x1), .val (.int (0 : Int32)), .val (.int (2 : Int32)), .val (.int (2 : Int32)), .val (.int (0 : Int32))] [(.int (0 : Int32)), (.ref x1), (.int ((31 : Int32) * x0))])) (fun _ k => XS.iload X0.here hx rfl (hb hby d5t2_20) rfl  k) ?_
  obtain ⟨cl2, Ar2, Aq2, As2, Am2, Ah2, Au2⟩ := id V_x1
  have hin2 : ¬ ((0 : Int32) < 0 ∨ cl2.slots.size ≤ ((0 : Int32)).toNatClampNeg) := inb_of As2 ⟨by decide, by decide⟩
  have hat2 : cl2.slots[((0 : Int32)).toNatClampNeg]? = some (.int b0) := Ah2.at hin2 (rfl)
  refine own_st (T' := s₁) (F' := (mkF m 23 #[.val (.int x0), .val (.ref x1), .val (.int (0 : Int32)), .val (.int (2 : Int32)), .val (.int (2 : Int32)), .val (.int (0 : Int32))] [(.int b0), (.int ((31 : Int32) * x0))])) (fun _ k => X0.baloadBytes hx (j := (0 : Int32)) (v := (.int b0)) (by rw [e0]; exact Ar2.1) (State.isArrayOf_alike hZ.alike Ar2.2.1) Ar2.2.2 hin2 hat2 (g := (mkF m 22 #[.val (.int x0), .val (.ref x1), .val (.int (0 : Int32)), .val (.int (2 : Int32)), .val (.int (2 : Int32)), .val (.int (0 : Int32))] [(.int (0 : Int32)), (.ref x1), (.int ((31 : Int32) * x0))])) rfl rfl (hb hby d5t2_22) _ k) ?_
  refine own_st (T' := s₁) (F' := (mkF m 24 #[.val (.int x0), .val (.ref x1), .val (.int (0 : Int32)), .val (.int (2 : Int32)), .val (.int (2 : Int32)), .val (.int (0 : Int32))] [(.int (((31 : Int32) * x0) + b0))])) (fun _ k => XS.iadd X0.here hx rfl (hb hby d5t2_23) rfl k) ?_
  refine own_st (T' := s₁) (F' := (mkF m 25 #[.val (.int (((31 : Int32) * x0) + b0)), .val (.ref x1), .val (.int (0 : Int32)), .val (.int (2 : Int32)), .val (.int (2 : Int32)), .val (.int (0 : Int32))] [])) (fun _ k => XS.istoreN X0.here hx rfl (hb hby d5t2_24) rfl (l' := #[.val (.int (((31 : Int32) * x0) + b0)), .val (.ref x1), .val (.int (0 : Int32)), .val (.int (2 : Int32)), .val (.int (2 : Int32)), .val (.int (0 : Int32))]) rfl k) ?_
  refine own_st (T' := s₁) (F' := (mkF m 28 #[.val (.int (((31 : Int32) * x0) + b0)), .val (.ref x1), .val (.int (0 : Int32)), .val (.int (2 : Int32)), .val (.int (2 : Int32)), .val (.int (1 : Int32))] [])) (fun _ k => XS.iinc X0.here hx rfl (hb hby d5t2_25) rfl (l' := #[.val (.int (((31 : Int32) * x0) + b0)), .val (.ref x1), .val (.int (0 : Int32)), .val (.int (2 : Int32)), .val (.int (2 : Int32)), .val (.int (1 : Int32))]) rfl k) ?_
  refine own_st (T' := s₁) (F' := (mkF m 8 #[.val (.int (((31 : Int32) * x0) + b0)), .val (.ref x1), .val (.int (0 : Int32)), .val (.int (2 : Int32)), .val (.int (2 : Int32)), .val (.int (1 : Int32))] [])) (fun _ k => XS.goto X0.here hx rfl (pc0 := 28) (pc' := 8) rfl (hb hby d5t2_28) (by decide) (by decide) k) ?_
  refine own_st (T' := s₁) (F' := (mkF m 10 #[.val (.int (((31 : Int32) * x0) + b0)), .val (.ref x1), .val (.int (0 : Int32)), .val (.int (2 : Int32)), .val (.int (2 : Int32)), .val (.int (1 : Int32))] [(.int (1 : Int32))])) (fun _ k => XS.iload X0.here hx rfl (hb hby d5t2_8) rfl  k) ?_
  refine own_st (T' := s₁) (F' := (mkF m 12 #[.val (.int (((31 : Int32) * x0) + b0)), .val (.ref x1), .val (.int (0 : Int32)), .val (.int (2 : Int32)), .val (.int (2 : Int32)), .val (.int (1 : Int32))] [(.int (2 : Int32)), (.int (1 : Int32))])) (fun _ k => XS.iload X0.here hx rfl (hb hby d5t2_10) rfl  k) ?_
  refine own_icmp X0 hx (pc' := 31) (pc2 := 15) (hb hby d5t2_12) (by decide) (by decide) rfl (fun (hc12_3 : ¬ ((1 : Int32) < (2 : Int32))) => ?_) (fun (hc12_3 : (1 : Int32) < (2 : Int32)) => ?_)
  · exact absurd hc12_3 (by decide)
  refine own_st (T' := s₁) (F' := (mkF m 17 #[.val (.int (((31 : Int32) * x0) + b0)), .val (.ref x1), .val (.int (0 : Int32)), .val (.int (2 : Int32)), .val (.int (2 : Int32)), .val (.int (1 : Int32))] [(.int (31 : Int32))])) (fun _ k => XS.bipush X0.here hx rfl (hb hby d5t2_15) k) ?_
  refine own_st (T' := s₁) (F' := (mkF m 18 #[.val (.int (((31 : Int32) * x0) + b0)), .val (.ref x1), .val (.int (0 : Int32)), .val (.int (2 : Int32)), .val (.int (2 : Int32)), .val (.int (1 : Int32))] [(.int (((31 : Int32) * x0) + b0)), (.int (31 : Int32))])) (fun _ k => XS.iloadN X0.here hx rfl (hb hby d5t2_17) rfl  k) ?_
  refine own_st (T' := s₁) (F' := (mkF m 19 #[.val (.int (((31 : Int32) * x0) + b0)), .val (.ref x1), .val (.int (0 : Int32)), .val (.int (2 : Int32)), .val (.int (2 : Int32)), .val (.int (1 : Int32))] [(.int ((31 : Int32) * (((31 : Int32) * x0) + b0)))])) (fun _ k => XS.imul X0.here hx rfl (hb hby d5t2_18) rfl k) ?_
  refine own_st (T' := s₁) (F' := (mkF m 20 #[.val (.int (((31 : Int32) * x0) + b0)), .val (.ref x1), .val (.int (0 : Int32)), .val (.int (2 : Int32)), .val (.int (2 : Int32)), .val (.int (1 : Int32))] [(.ref x1), (.int ((31 : Int32) * (((31 : Int32) * x0) + b0)))])) (fun _ k => XS.aloadN X0.here hx rfl (hb hby d5t2_19) rfl rfl k) ?_
  refine own_st (T' := s₁) (F' := (mkF m 22 #[.val (.int (((31 : Int32) * x0) + b0)), .val (.ref x1), .val (.int (0 : Int32)), .val (.int (2 : Int32)), .val (.int (2 : Int32)), .val (.int (1 : Int32))] [(.int (1 : Int32)), (.ref x1), (.int ((31 : Int32) * (((31 : Int32) * x0) + b0)))])) (fun _ k => XS.iload X0.here hx rfl (hb hby d5t2_20) rfl  k) ?_
  obtain ⟨cl4, Ar4, Aq4, As4, Am4, Ah4, Au4⟩ := id V_x1
  have hin4 : ¬ ((1 : Int32) < 0 ∨ cl4.slots.size ≤ ((1 : Int32)).toNatClampNeg) := inb_of As4 ⟨by decide, by decide⟩
  have hat4 : cl4.slots[((1 : Int32)).toNatClampNeg]? = some (.int b1) := Ah4.at hin4 (rfl)
  refine own_st (T' := s₁) (F' := (mkF m 23 #[.val (.int (((31 : Int32) * x0) + b0)), .val (.ref x1), .val (.int (0 : Int32)), .val (.int (2 : Int32)), .val (.int (2 : Int32)), .val (.int (1 : Int32))] [(.int b1), (.int ((31 : Int32) * (((31 : Int32) * x0) + b0)))])) (fun _ k => X0.baloadBytes hx (j := (1 : Int32)) (v := (.int b1)) (by rw [e0]; exact Ar4.1) (State.isArrayOf_alike hZ.alike Ar4.2.1) Ar4.2.2 hin4 hat4 (g := (mkF m 22 #[.val (.int (((31 : Int32) * x0) + b0)), .val (.ref x1), .val (.int (0 : Int32)), .val (.int (2 : Int32)), .val (.int (2 : Int32)), .val (.int (1 : Int32))] [(.int (1 : Int32)), (.ref x1), (.int ((31 : Int32) * (((31 : Int32) * x0) + b0)))])) rfl rfl (hb hby d5t2_22) _ k) ?_
  refine own_st (T' := s₁) (F' := (mkF m 24 #[.val (.int (((31 : Int32) * x0) + b0)), .val (.ref x1), .val (.int (0 : Int32)), .val (.int (2 : Int32)), .val (.int (2 : Int32)), .val (.int (1 : Int32))] [(.int (((31 : Int32) * (((31 : Int32) * x0) + b0)) + b1))])) (fun _ k => XS.iadd X0.here hx rfl (hb hby d5t2_23) rfl k) ?_
  refine own_st (T' := s₁) (F' := (mkF m 25 #[.val (.int (((31 : Int32) * (((31 : Int32) * x0) + b0)) + b1)), .val (.ref x1), .val (.int (0 : Int32)), .val (.int (2 : Int32)), .val (.int (2 : Int32)), .val (.int (1 : Int32))] [])) (fun _ k => XS.istoreN X0.here hx rfl (hb hby d5t2_24) rfl (l' := #[.val (.int (((31 : Int32) * (((31 : Int32) * x0) + b0)) + b1)), .val (.ref x1), .val (.int (0 : Int32)), .val (.int (2 : Int32)), .val (.int (2 : Int32)), .val (.int (1 : Int32))]) rfl k) ?_
  refine own_st (T' := s₁) (F' := (mkF m 28 #[.val (.int (((31 : Int32) * (((31 : Int32) * x0) + b0)) + b1)), .val (.ref x1), .val (.int (0 : Int32)), .val (.int (2 : Int32)), .val (.int (2 : Int32)), .val (.int (2 : Int32))] [])) (fun _ k => XS.iinc X0.here hx rfl (hb hby d5t2_25) rfl (l' := #[.val (.int (((31 : Int32) * (((31 : Int32) * x0) + b0)) + b1)), .val (.ref x1), .val (.int (0 : Int32)), .val (.int (2 : Int32)), .val (.int (2 : Int32)), .val (.int (2 : Int32))]) rfl k) ?_
  refine own_st (T' := s₁) (F' := (mkF m 8 #[.val (.int (((31 : Int32) * (((31 : Int32) * x0) + b0)) + b1)), .val (.ref x1), .val (.int (0 : Int32)), .val (.int (2 : Int32)), .val (.int (2 : Int32)), .val (.int (2 : Int32))] [])) (fun _ k => XS.goto X0.here hx rfl (pc0 := 28) (pc' := 8) rfl (hb hby d5t2_28) (by decide) (by decide) k) ?_
  refine own_st (T' := s₁) (F' := (mkF m 10 #[.val (.int (((31 : Int32) * (((31 : Int32) * x0) + b0)) + b1)), .val (.ref x1), .val (.int (0 : Int32)), .val (.int (2 : Int32)), .val (.int (2 : Int32)), .val (.int (2 : Int32))] [(.int (2 : Int32))])) (fun _ k => XS.iload X0.here hx rfl (hb hby d5t2_8) rfl  k) ?_
  refine own_st (T' := s₁) (F' := (mkF m 12 #[.val (.int (((31 : Int32) * (((31 : Int32) * x0) + b0)) + b1)), .val (.ref x1), .val (.int (0 : Int32)), .val (.int (2 : Int32)), .val (.int (2 : Int32)), .val (.int (2 : Int32))] [(.int (2 : Int32)), (.int (2 : Int32))])) (fun _ k => XS.iload X0.here hx rfl (hb hby d5t2_10) rfl  k) ?_
  refine own_icmp X0 hx (pc' := 31) (pc2 := 15) (hb hby d5t2_12) (by decide) (by decide) rfl (fun (hc12_5 : ¬ ((2 : Int32) < (2 : Int32))) => ?_) (fun (hc12_5 : (2 : Int32) < (2 : Int32)) => ?_)
  rotate_left
  · exact absurd hc12_5 (by decide)
  refine own_st (T' := s₁) (F' := (mkF m 32 #[.val (.int (((31 : Int32) * (((31 : Int32) * x0) + b0)) + b1)), .val (.ref x1), .val (.int (0 : Int32)), .val (.int (2 : Int32)), .val (.int (2 : Int32)), .val (.int (2 : Int32))] [(.int (((31 : Int32) * (((31 : Int32) * x0) + b0)) + b1))])) (fun _ k => XS.iloadN X0.here hx rfl (hb hby d5t2_31) rfl  k) ?_
  refine own_retI X0 hx hlk Bd.returns (hb hby d5t2_32) ?_ (by decide) (by decide)
  rw [e0]
  refine ⟨⟨_, rfl, ?_⟩, N0, rfl⟩
  trivial
theorem own_pd0 : parseMethodDescriptor "(I[BII)I" = some ⟨[.int, (.array .byte), .int, .int], some .int⟩ := by decide +kernel
theorem d4t2_0 : decode jdk_48_method_4_code 0 = .ok (.iload 4, 2) := by decide +kernel
theorem d4t2_2 : decode jdk_48_method_4_code 2 = .ok (.tableswitch 127 4 10 #[42, 55, 127, 127, 88, 101, 114], 42) := by decide +kernel
theorem d4t2_90 : decode jdk_48_method_4_code 90 = .ok (.iload_n 3, 1) := by decide +kernel
theorem d4t2_91 : decode jdk_48_method_4_code 91 = .ok (.aload_n 0, 1) := by decide +kernel
theorem d4t2_92 : decode jdk_48_method_4_code 92 = .ok (.checkcast 60, 3) := by decide +kernel
theorem d4t2_95 : decode jdk_48_method_4_code 95 = .ok (.iload_n 1, 1) := by decide +kernel
theorem d4t2_96 : decode jdk_48_method_4_code 96 = .ok (.iload_n 2, 1) := by decide +kernel
theorem d4t2_97 : decode jdk_48_method_4_code 97 = .ok (.invokestatic 75, 3) := by decide +kernel
theorem d4t2_100 : decode jdk_48_method_4_code 100 = .ok (.goto 57, 3) := by decide +kernel
theorem d4t2_157 : decode jdk_48_method_4_code 157 = .ok (.ireturn, 1) := by decide +kernel
theorem own_pn4t2 : plainName "jdk/internal/util/ArraysSupport" = true := by first | (simp [plainName, overriddenIn]; done) | decide +kernel
theorem own_ef4t2 (m : MethodId) (x0 : Addr) (x3 : Int32) : entryFrame m #[(.ref x0), (.int (0 : Int32)), (.int (2 : Int32)), (.int x3), (.int (8 : Int32))] 5 = (mkF m 0 #[.val (.ref x0), .val (.int (0 : Int32)), .val (.int (2 : Int32)), .val (.int x3), .val (.int (8 : Int32))] []) := by first | (simp [entryFrame, mkF, argsToLocals, Value.category]; done) | rfl
def Q4t2 (Z : State) (x0 : Addr) (x3 : Int32) (k : ClassId) (b0 : Int32) (b1 : Int32) (h0 : Heap) (n0 : Nat) (v : Option Value) (h : Heap) (L : List Loc) : Prop := (∃ z : Int32, v = some (.int z) ∧ (True)) ∧ Fr n0 L ∧ h = h0
set_option maxRecDepth 65536 in
set_option maxHeartbeats 40000000 in
theorem rm4t2 (l : Launch) (Z : State) (a0 : Array Value) (hw : ∀ d ∈ tables_1, d.before a0 Z = true) (ws : List Jvm.Cond) (x0 : Addr) (x3 : Int32) (k : ClassId) (b0 : Int32) (b1 : Int32) (h0 : Heap) (n0 : Nat) (Z0 : n0 ≤ h0.size) (V_x0 : Arv Z h0 x0 k .byte (2 : Int32) [(.int b0), (.int b1)] (.int (0 : Int32))) (hE_x0 : Exa Z h0 x0 "[B") :
    MetFree l (⟨"jdk/internal/util/ArraysSupport", "vectorizedHashCode", "(Ljava/lang/Object;IIII)I"⟩ : MethodName) (head1 (Jvm.Cond.code (⟨"jdk/internal/util/ArraysSupport", "vectorizedHashCode", "(Ljava/lang/Object;IIII)I"⟩ : MethodName) jdk_48_method_4_code 5 (some .int) :: ws) ({ frames := 1, cells := 0, slots := 0, locals := 17 } : Room)) (fun a U => a = #[(.ref x0), (.int (0 : Int32)), (.int (2 : Int32)), (.int x3), (.int (8 : Int32))] ∧ Z.Warmed39 U.vm ∧ U.heap = h0) (fun _ _ _ _ _ => True) (fun _ U oc U' => ∃ v L, oc = .returned v ∧ Q4t2 Z x0 x3 k b0 b1 h0 n0 v U'.heap L ∧ FrameEnd U oc U' L ({ frames := 1, cells := 0, slots := 0, locals := 17 } : Room).cells ({ frames := 1, cells := 0, slots := 0, locals := 17 } : Room).slots) := by
  refine MetFree.of_bodySF (plainFor_of_name own_pn4t2) hisR ?_
  intro p e s m args below meth c s₁ Bd hml0 hP hK
  obtain ⟨rfl, hZ, hh⟩ := hP
  have hx := Bd.exec
  have hby := Bd.bytes
  have hlk : meth.locks = false := BodyLoose.notSynchronized Bd
  have hml : c.maxLocals = 5 := hml0
  have hown : s.vm.findClass "jdk/internal/util/ArraysSupport" = some m.cls := findClass_of_methodNamed Bd.named
  have hnm := (name_of_methodNamed Bd.named Bd.method).1
  have X0 : Stand p l e ({ frames := 1, cells := 0, slots := 0, locals := 17 } : Room) s m #[(.ref x0), (.int (0 : Int32)), (.int (2 : Int32)), (.int x3), (.int (8 : Int32))] below meth c s₁ [] 0 0 := Stand.of_body Bd
  have e0 : s₁.heap = h0 := by rw [← hh, Bd.state]; rfl
  have N0 := Fr.nil n0
  refine own_enter (own_ef4t2 m x0 x3) ?_
  show own_Go p e below s (Q4t2 Z x0 x3 k b0 b1 h0 n0) ({ frames := 1, cells := 0, slots := 0, locals := 17 } : Room).cells ({ frames := 1, cells := 0, slots := 0, locals := 17 } : Room).slots s₁ (mkF m 0 #[.val (.ref x0), .val (.int (0 : Int32)), .val (.int (2 : Int32)), .val (.int x3), .val (.int (8 : Int32))] [])
  refine own_st (T' := s₁) (F' := (mkF m 2 #[.val (.ref x0), .val (.int (0 : Int32)), .val (.int (2 : Int32)), .val (.int x3), .val (.int (8 : Int32))] [(.int (8 : Int32))])) (fun _ k => XS.iload X0.here hx rfl (hb hby d4t2_0) rfl  k) ?_
  refine own_st (T' := s₁) (F' := (mkF m 90 #[.val (.ref x0), .val (.int (0 : Int32)), .val (.int (2 : Int32)), .val (.int x3), .val (.int (8 : Int32))] [])) (fun _ k => XS.tswIn X0.here hx rfl (pc0 := 2) (pc' := 90) rfl (hb hby d4t2_2) rfl (o := 88) (by decide) (by decide) (by decide) (by decide) k) ?_
  refine own_st (T' := s₁) (F' := (mkF m 91 #[.val (.ref x0), .val (.int (0 : Int32)), .val (.int (2 : Int32)), .val (.int x3), .val (.int (8 : Int32))] [(.int x3)])) (fun _ k => XS.iloadN X0.here hx rfl (hb hby d4t2_90) rfl  k) ?_
  refine own_st (T' := s₁) (F' := (mkF m 92 #[.val (.ref x0), .val (.int (0 : Int32)), .val (.int (2 : Int32)), .val (.int x3), .val (.int (8 : Int32))] [(.ref x0), (.int x3)])) (fun _ k => XS.aloadN X0.here hx rfl (hb hby d4t2_91) rfl rfl k) ?_
  obtain ⟨T1, X1, e1, st1⟩ := castY X0 hx hZ hown (hw _ (List.mem_of_getElem? (i := 22) rfl)) e0 (Ins.self hE_x0) (g := (mkF m 92 #[.val (.ref x0), .val (.int (0 : Int32)), .val (.int (2 : Int32)), .val (.int x3), .val (.int (8 : Int32))] [(.ref x0), (.int x3)])) rfl rfl (hb hby d4t2_92)
  refine own_st (T' := T1) (F' := (mkF m 95 #[.val (.ref x0), .val (.int (0 : Int32)), .val (.int (2 : Int32)), .val (.int x3), .val (.int (8 : Int32))] [(.ref x0), (.int x3)])) (fun _ k => st1 _ k) ?_
  refine own_st (T' := T1) (F' := (mkF m 96 #[.val (.ref x0), .val (.int (0 : Int32)), .val (.int (2 : Int32)), .val (.int x3), .val (.int (8 : Int32))] [(.int (0 : Int32)), (.ref x0), (.int x3)])) (fun _ k => XS.iloadN X1.here hx rfl (hb hby d4t2_95) rfl  k) ?_
  refine own_st (T' := T1) (F' := (mkF m 97 #[.val (.ref x0), .val (.int (0 : Int32)), .val (.int (2 : Int32)), .val (.int x3), .val (.int (8 : Int32))] [(.int (2 : Int32)), (.int (0 : Int32)), (.ref x0), (.int x3)])) (fun _ k => XS.iloadN X1.here hx rfl (hb hby d4t2_96) rfl  k) ?_
  obtain ⟨_, _, ⟨T2, L2, k2, n2⟩, -, X2, ⟨Lc2, hQ2, l2, y2, z2⟩, st2⟩ := Jvm.LawKit.callS X1 hx (y := (⟨"jdk/internal/util/ArraysSupport", "hashCode", "(I[BII)I"⟩ : MethodName)) hown (mvT hZ (hw _ (List.mem_of_getElem? (i := 24) rfl))) (mvT hZ (hw _ (List.mem_of_getElem? (i := 25) rfl))) (mvT hZ (hw _ (List.mem_of_getElem? (i := 20) rfl))) (mvT hZ (hw _ (List.mem_of_getElem? (i := 26) rfl))) (by decide) (backOf (W := 0) (rm5t2 l Z a0 hw [] x3 x0 k b0 b1 h0 n0 Z0 V_x0) hZ (hw _ (List.mem_of_getElem? (i := 26) rfl)) (hw _ (List.mem_of_getElem? (i := 20) rfl)) (by decide) (by decide)) (g := (mkF m 97 #[.val (.ref x0), .val (.int (0 : Int32)), .val (.int (2 : Int32)), .val (.int x3), .val (.int (8 : Int32))] [(.int (2 : Int32)), (.int (0 : Int32)), (.ref x0), (.int x3)])) rfl (by rw [hml]; rfl) (argsL := [(.int x3), (.ref x0), (.int (0 : Int32)), (.int (2 : Int32))]) (rest := []) (lenOf own_pd0 rfl) rfl (by show 2 * 0 + _ ≤ _; exact Nat.le_of_eq rfl) (hb hby d4t2_97) (fun _ _ => ⟨rfl, e1, (by decide : 0 + 0 ≤ _), (by decide : 0 + 0 ≤ _)⟩)
  dsimp only [Pt.U, Pt.locs, Pt.cells, Pt.slots] at X2 l2 y2 z2 st2 hQ2
  subst l2 y2 z2
  obtain ⟨⟨r2, rfl, hr2⟩, Nq2, eq2⟩ := hQ2
  have N2 := Fr.app N0 Nq2
  refine own_st (T' := T2) (F' := (mkF m 100 #[.val (.ref x0), .val (.int (0 : Int32)), .val (.int (2 : Int32)), .val (.int x3), .val (.int (8 : Int32))] [(.int r2)])) (fun _ k => st2 _ k) ?_
  refine own_st (T' := T2) (F' := (mkF m 157 #[.val (.ref x0), .val (.int (0 : Int32)), .val (.int (2 : Int32)), .val (.int x3), .val (.int (8 : Int32))] [(.int r2)])) (fun _ k => XS.goto X2.here hx rfl (pc0 := 100) (pc' := 157) rfl (hb hby d4t2_100) (by decide) (by decide) k) ?_
  refine own_retI X2 hx hlk Bd.returns (hb hby d4t2_157) ?_ (by decide) (by decide)
  rw [eq2]
  refine ⟨⟨_, rfl, ?_⟩, N2, rfl⟩
  trivial
theorem d3t1_0 : decode jdk_65_method_153_code 0 = .ok (.aload_n 0, 1) := by decide +kernel
theorem d3t1_1 : decode jdk_65_method_153_code 1 = .ok (.ifnonnull 5, 3) := by decide +kernel
theorem d3t1_6 : decode jdk_65_method_153_code 6 = .ok (.aload_n 0, 1) := by decide +kernel
theorem d3t1_7 : decode jdk_65_method_153_code 7 = .ok (.arraylength, 1) := by decide +kernel
theorem d3t1_8 : decode jdk_65_method_153_code 8 = .ok (.lookupswitch 41 #[(0, 28), (1, 32)], 28) := by decide +kernel
theorem d3t1_40 : decode jdk_65_method_153_code 40 = .ok (.bipush 31, 2) := by decide +kernel
theorem d3t1_42 : decode jdk_65_method_153_code 42 = .ok (.aload_n 0, 1) := by decide +kernel
theorem d3t1_43 : decode jdk_65_method_153_code 43 = .ok (.iconst 0, 1) := by decide +kernel
theorem d3t1_44 : decode jdk_65_method_153_code 44 = .ok (.baload, 1) := by decide +kernel
theorem d3t1_45 : decode jdk_65_method_153_code 45 = .ok (.iadd, 1) := by decide +kernel
theorem d3t1_46 : decode jdk_65_method_153_code 46 = .ok (.goto 13, 3) := by decide +kernel
theorem d3t1_59 : decode jdk_65_method_153_code 59 = .ok (.ireturn, 1) := by decide +kernel
theorem own_pn3t1 : plainName "java/util/Arrays" = true := by first | (simp [plainName, overriddenIn]; done) | decide +kernel
theorem own_ef3t1 (m : MethodId) (x0 : Addr) : entryFrame m #[(.ref x0)] 1 = (mkF m 0 #[.val (.ref x0)] []) := by first | (simp [entryFrame, mkF, argsToLocals, Value.category]; done) | rfl
def Q3t1 (Z : State) (x0 : Addr) (k : ClassId) (b0 : Int32) (h0 : Heap) (n0 : Nat) (v : Option Value) (h : Heap) (L : List Loc) : Prop := (∃ z : Int32, v = some (.int z) ∧ (True)) ∧ Fr n0 L ∧ h = h0
set_option maxRecDepth 65536 in
set_option maxHeartbeats 40000000 in
theorem rm3t1 (l : Launch) (Z : State) (a0 : Array Value) (hw : ∀ d ∈ tables_1, d.before a0 Z = true) (ws : List Jvm.Cond) (x0 : Addr) (k : ClassId) (b0 : Int32) (h0 : Heap) (n0 : Nat) (Z0 : n0 ≤ h0.size) (V_x0 : Arv Z h0 x0 k .byte (1 : Int32) [(.int b0)] (.int (0 : Int32))) (hE_x0 : Exa Z h0 x0 "[B") :
    MetFree l (⟨"java/util/Arrays", "hashCode", "([B)I"⟩ : MethodName) (head1 (Jvm.Cond.code (⟨"java/util/Arrays", "hashCode", "([B)I"⟩ : MethodName) jdk_65_method_153_code 1 (some .int) :: ws) ({ frames := 0, cells := 0, slots := 0, locals := 0 } : Room)) (fun a U => a = #[(.ref x0)] ∧ Z.Warmed39 U.vm ∧ U.heap = h0) (fun _ _ _ _ _ => True) (fun _ U oc U' => ∃ v L, oc = .returned v ∧ Q3t1 Z x0 k b0 h0 n0 v U'.heap L ∧ FrameEnd U oc U' L ({ frames := 0, cells := 0, slots := 0, locals := 0 } : Room).cells ({ frames := 0, cells := 0, slots := 0, locals := 0 } : Room).slots) := by
  refine MetFree.of_bodySF (plainFor_of_name own_pn3t1) hisR ?_
  intro p e s m args below meth c s₁ Bd hml0 hP hK
  obtain ⟨rfl, hZ, hh⟩ := hP
  have hx := Bd.exec
  have hby := Bd.bytes
  have hlk : meth.locks = false := BodyLoose.notSynchronized Bd
  have hml : c.maxLocals = 1 := hml0
  have hown : s.vm.findClass "java/util/Arrays" = some m.cls := findClass_of_methodNamed Bd.named
  have hnm := (name_of_methodNamed Bd.named Bd.method).1
  have X0 : Stand p l e ({ frames := 0, cells := 0, slots := 0, locals := 0 } : Room) s m #[(.ref x0)] below meth c s₁ [] 0 0 := Stand.of_body Bd
  have e0 : s₁.heap = h0 := by rw [← hh, Bd.state]; rfl
  have N0 := Fr.nil n0
  refine own_enter (own_ef3t1 m x0) ?_
  show own_Go p e below s (Q3t1 Z x0 k b0 h0 n0) ({ frames := 0, cells := 0, slots := 0, locals := 0 } : Room).cells ({ frames := 0, cells := 0, slots := 0, locals := 0 } : Room).slots s₁ (mkF m 0 #[.val (.ref x0)] [])
  refine own_st (T' := s₁) (F' := (mkF m 1 #[.val (.ref x0)] [(.ref x0)])) (fun _ k => XS.aloadN X0.here hx rfl (hb hby d3t1_0) rfl rfl k) ?_
  refine own_st (T' := s₁) (F' := (mkF m 6 #[.val (.ref x0)] [])) (fun _ k => XT.ifnonnullYes X0.here hx rfl (pc0 := 1) (pc' := 6) rfl (hb hby d3t1_1) rfl (by decide) (by decide) k) ?_
  refine own_st (T' := s₁) (F' := (mkF m 7 #[.val (.ref x0)] [(.ref x0)])) (fun _ k => XS.aloadN X0.here hx rfl (hb hby d3t1_6) rfl rfl k) ?_
  obtain ⟨cl1, Ar1, Aq1, As1, Am1, Ah1, Au1⟩ := id V_x0
  refine own_st (T' := s₁) (F' := (mkF m 8 #[.val (.ref x0)] [(.int (1 : Int32))])) (fun _ k => X0.arraylength hx (cell := cl1) (by rw [e0]; exact Ar1.1) (State.isArrayOf_alike hZ.alike Ar1.2.1) (g := (mkF m 7 #[.val (.ref x0)] [(.ref x0)])) rfl (rest := []) rfl (hb hby d3t1_7) _ (by rw [len_of As1 Am1]; exact k)) ?_
  refine own_st (T' := s₁) (F' := (mkF m 40 #[.val (.ref x0)] [])) (fun _ k => X0.lookupswitchHit hx (g := (mkF m 8 #[.val (.ref x0)] [(.int (1 : Int32))])) rfl rfl (hb hby d3t1_8) (by decide) (a := 1) (off := 32) (by decide) (show (0 : Int) ≤ ((8 : Nat) : Int) + 32 by decide) _ k) ?_
  refine own_st (T' := s₁) (F' := (mkF m 42 #[.val (.ref x0)] [(.int (31 : Int32))])) (fun _ k => XS.bipush X0.here hx rfl (hb hby d3t1_40) k) ?_
  refine own_st (T' := s₁) (F' := (mkF m 43 #[.val (.ref x0)] [(.ref x0), (.int (31 : Int32))])) (fun _ k => XS.aloadN X0.here hx rfl (hb hby d3t1_42) rfl rfl k) ?_
  refine own_st (T' := s₁) (F' := (mkF m 44 #[.val (.ref x0)] [(.int (0 : Int32)), (.ref x0), (.int (31 : Int32))])) (fun _ k => XS.iconst X0.here hx rfl (hb hby d3t1_43) k) ?_
  obtain ⟨cl2, Ar2, Aq2, As2, Am2, Ah2, Au2⟩ := id V_x0
  have hin2 : ¬ ((0 : Int32) < 0 ∨ cl2.slots.size ≤ ((0 : Int32)).toNatClampNeg) := inb_of As2 ⟨by decide, by decide⟩
  have hat2 : cl2.slots[((0 : Int32)).toNatClampNeg]? = some (.int b0) := Ah2.at hin2 (rfl)
  refine own_st (T' := s₁) (F' := (mkF m 45 #[.val (.ref x0)] [(.int b0), (.int (31 : Int32))])) (fun _ k => X0.baloadBytes hx (j := (0 : Int32)) (v := (.int b0)) (by rw [e0]; exact Ar2.1) (State.isArrayOf_alike hZ.alike Ar2.2.1) Ar2.2.2 hin2 hat2 (g := (mkF m 44 #[.val (.ref x0)] [(.int (0 : Int32)), (.ref x0), (.int (31 : Int32))])) rfl rfl (hb hby d3t1_44) _ k) ?_
  refine own_st (T' := s₁) (F' := (mkF m 46 #[.val (.ref x0)] [(.int ((31 : Int32) + b0))])) (fun _ k => XS.iadd X0.here hx rfl (hb hby d3t1_45) rfl k) ?_
  refine own_st (T' := s₁) (F' := (mkF m 59 #[.val (.ref x0)] [(.int ((31 : Int32) + b0))])) (fun _ k => XS.goto X0.here hx rfl (pc0 := 46) (pc' := 59) rfl (hb hby d3t1_46) (by decide) (by decide) k) ?_
  refine own_retI X0 hx hlk Bd.returns (hb hby d3t1_59) ?_ (by decide) (by decide)
  rw [e0]
  refine ⟨⟨_, rfl, ?_⟩, N0, rfl⟩
  trivial
theorem own_pd1 : parseMethodDescriptor "(Ljava/lang/Object;IIII)I" = some ⟨[(.object "java/lang/Object"), .int, .int, .int, .int], some .int⟩ := by decide +kernel
theorem d3t2_0 : decode jdk_65_method_153_code 0 = .ok (.aload_n 0, 1) := by decide +kernel
theorem d3t2_1 : decode jdk_65_method_153_code 1 = .ok (.ifnonnull 5, 3) := by decide +kernel
theorem d3t2_6 : decode jdk_65_method_153_code 6 = .ok (.aload_n 0, 1) := by decide +kernel
theorem d3t2_7 : decode jdk_65_method_153_code 7 = .ok (.arraylength, 1) := by decide +kernel
theorem d3t2_8 : decode jdk_65_method_153_code 8 = .ok (.lookupswitch 41 #[(0, 28), (1, 32)], 28) := by decide +kernel
theorem d3t2_49 : decode jdk_65_method_153_code 49 = .ok (.aload_n 0, 1) := by decide +kernel
theorem d3t2_50 : decode jdk_65_method_153_code 50 = .ok (.iconst 0, 1) := by decide +kernel
theorem d3t2_51 : decode jdk_65_method_153_code 51 = .ok (.aload_n 0, 1) := by decide +kernel
theorem d3t2_52 : decode jdk_65_method_153_code 52 = .ok (.arraylength, 1) := by decide +kernel
theorem d3t2_53 : decode jdk_65_method_153_code 53 = .ok (.iconst 1, 1) := by decide +kernel
theorem d3t2_54 : decode jdk_65_method_153_code 54 = .ok (.bipush 8, 2) := by decide +kernel
theorem d3t2_56 : decode jdk_65_method_153_code 56 = .ok (.invokestatic 379, 3) := by decide +kernel
theorem d3t2_59 : decode jdk_65_method_153_code 59 = .ok (.ireturn, 1) := by decide +kernel
theorem own_pn3t2 : plainName "java/util/Arrays" = true := by first | (simp [plainName, overriddenIn]; done) | decide +kernel
theorem own_ef3t2 (m : MethodId) (x0 : Addr) : entryFrame m #[(.ref x0)] 1 = (mkF m 0 #[.val (.ref x0)] []) := by first | (simp [entryFrame, mkF, argsToLocals, Value.category]; done) | rfl
def Q3t2 (Z : State) (x0 : Addr) (k : ClassId) (b0 : Int32) (b1 : Int32) (h0 : Heap) (n0 : Nat) (v : Option Value) (h : Heap) (L : List Loc) : Prop := (∃ z : Int32, v = some (.int z) ∧ (True)) ∧ Fr n0 L ∧ h = h0
set_option maxRecDepth 65536 in
set_option maxHeartbeats 40000000 in
theorem rm3t2 (l : Launch) (Z : State) (a0 : Array Value) (hw : ∀ d ∈ tables_1, d.before a0 Z = true) (ws : List Jvm.Cond) (x0 : Addr) (k : ClassId) (b0 : Int32) (b1 : Int32) (h0 : Heap) (n0 : Nat) (Z0 : n0 ≤ h0.size) (V_x0 : Arv Z h0 x0 k .byte (2 : Int32) [(.int b0), (.int b1)] (.int (0 : Int32))) (hE_x0 : Exa Z h0 x0 "[B") :
    MetFree l (⟨"java/util/Arrays", "hashCode", "([B)I"⟩ : MethodName) (head1 (Jvm.Cond.code (⟨"java/util/Arrays", "hashCode", "([B)I"⟩ : MethodName) jdk_65_method_153_code 1 (some .int) :: ws) ({ frames := 2, cells := 0, slots := 0, locals := 33 } : Room)) (fun a U => a = #[(.ref x0)] ∧ Z.Warmed39 U.vm ∧ U.heap = h0) (fun _ _ _ _ _ => True) (fun _ U oc U' => ∃ v L, oc = .returned v ∧ Q3t2 Z x0 k b0 b1 h0 n0 v U'.heap L ∧ FrameEnd U oc U' L ({ frames := 2, cells := 0, slots := 0, locals := 33 } : Room).cells ({ frames := 2, cells := 0, slots := 0, locals := 33 } : Room).slots) := by
  refine MetFree.of_bodySF (plainFor_of_name own_pn3t2) hisR ?_
  intro p e s m args below meth c s₁ Bd hml0 hP hK
  obtain ⟨rfl, hZ, hh⟩ := hP
  have hx := Bd.exec
  have hby := Bd.bytes
  have hlk : meth.locks = false := BodyLoose.notSynchronized Bd
  have hml : c.maxLocals = 1 := hml0
  have hown : s.vm.findClass "java/util/Arrays" = some m.cls := findClass_of_methodNamed Bd.named
  have hnm := (name_of_methodNamed Bd.named Bd.method).1
  have X0 : Stand p l e ({ frames := 2, cells := 0, slots := 0, locals := 33 } : Room) s m #[(.ref x0)] below meth c s₁ [] 0 0 := Stand.of_body Bd
  have e0 : s₁.heap = h0 := by rw [← hh, Bd.state]; rfl
  have N0 := Fr.nil n0
  refine own_enter (own_ef3t2 m x0) ?_
  show own_Go p e below s (Q3t2 Z x0 k b0 b1 h0 n0) ({ frames := 2, cells := 0, slots := 0, locals := 33 } : Room).cells ({ frames := 2, cells := 0, slots := 0, locals := 33 } : Room).slots s₁ (mkF m 0 #[.val (.ref x0)] [])
  refine own_st (T' := s₁) (F' := (mkF m 1 #[.val (.ref x0)] [(.ref x0)])) (fun _ k => XS.aloadN X0.here hx rfl (hb hby d3t2_0) rfl rfl k) ?_
  refine own_st (T' := s₁) (F' := (mkF m 6 #[.val (.ref x0)] [])) (fun _ k => XT.ifnonnullYes X0.here hx rfl (pc0 := 1) (pc' := 6) rfl (hb hby d3t2_1) rfl (by decide) (by decide) k) ?_
  refine own_st (T' := s₁) (F' := (mkF m 7 #[.val (.ref x0)] [(.ref x0)])) (fun _ k => XS.aloadN X0.here hx rfl (hb hby d3t2_6) rfl rfl k) ?_
  obtain ⟨cl1, Ar1, Aq1, As1, Am1, Ah1, Au1⟩ := id V_x0
  refine own_st (T' := s₁) (F' := (mkF m 8 #[.val (.ref x0)] [(.int (2 : Int32))])) (fun _ k => X0.arraylength hx (cell := cl1) (by rw [e0]; exact Ar1.1) (State.isArrayOf_alike hZ.alike Ar1.2.1) (g := (mkF m 7 #[.val (.ref x0)] [(.ref x0)])) rfl (rest := []) rfl (hb hby d3t2_7) _ (by rw [len_of As1 Am1]; exact k)) ?_
  refine own_st (T' := s₁) (F' := (mkF m 49 #[.val (.ref x0)] [])) (fun _ k => X0.lookupswitchMiss hx (g := (mkF m 8 #[.val (.ref x0)] [(.int (2 : Int32))])) rfl rfl (hb hby d3t2_8) (by decide) (by decide) (show (0 : Int) ≤ ((8 : Nat) : Int) + 41 by decide) _ k) ?_
  refine own_st (T' := s₁) (F' := (mkF m 50 #[.val (.ref x0)] [(.ref x0)])) (fun _ k => XS.aloadN X0.here hx rfl (hb hby d3t2_49) rfl rfl k) ?_
  refine own_st (T' := s₁) (F' := (mkF m 51 #[.val (.ref x0)] [(.int (0 : Int32)), (.ref x0)])) (fun _ k => XS.iconst X0.here hx rfl (hb hby d3t2_50) k) ?_
  refine own_st (T' := s₁) (F' := (mkF m 52 #[.val (.ref x0)] [(.ref x0), (.int (0 : Int32)), (.ref x0)])) (fun _ k => XS.aloadN X0.here hx rfl (hb hby d3t2_51) rfl rfl k) ?_
  obtain ⟨cl2, Ar2, Aq2, As2, Am2, Ah2, Au2⟩ := id V_x0
  refine own_st (T' := s₁) (F' := (mkF m 53 #[.val (.ref x0)] [(.int (2 : Int32)), (.int (0 : Int32)), (.ref x0)])) (fun _ k => X0.arraylength hx (cell := cl2) (by rw [e0]; exact Ar2.1) (State.isArrayOf_alike hZ.alike Ar2.2.1) (g := (mkF m 52 #[.val (.ref x0)] [(.ref x0), (.int (0 : Int32)), (.ref x0)])) rfl (rest := [(.int (0 : Int32)), (.ref x0)]) rfl (hb hby d3t2_52) _ (by rw [len_of As2 Am2]; exact k)) ?_
  refine own_st (T' := s₁) (F' := (mkF m 54 #[.val (.ref x0)] [(.int (1 : Int32)), (.int (2 : Int32)), (.int (0 : Int32)), (.ref x0)])) (fun _ k => XS.iconst X0.here hx rfl (hb hby d3t2_53) k) ?_
  refine own_st (T' := s₁) (F' := (mkF m 56 #[.val (.ref x0)] [(.int (8 : Int32)), (.int (1 : Int32)), (.int (2 : Int32)), (.int (0 : Int32)), (.ref x0)])) (fun _ k => XS.bipush X0.here hx rfl (hb hby d3t2_54) k) ?_
  obtain ⟨_, _, ⟨T3, L3, k3, n3⟩, -, X3, ⟨Lc3, hQ3, l3, y3, z3⟩, st3⟩ := Jvm.LawKit.callS X0 hx (y := (⟨"jdk/internal/util/ArraysSupport", "vectorizedHashCode", "(Ljava/lang/Object;IIII)I"⟩ : MethodName)) hown (mvT hZ (hw _ (List.mem_of_getElem? (i := 18) rfl))) (mvT hZ (hw _ (List.mem_of_getElem? (i := 19) rfl))) (mvT hZ (hw _ (List.mem_of_getElem? (i := 20) rfl))) (mvT hZ (hw _ (List.mem_of_getElem? (i := 21) rfl))) (by decide) (backOf (W := 0) (rm4t2 l Z a0 hw [] x0 (1 : Int32) k b0 b1 h0 n0 Z0 V_x0 hE_x0) hZ (hw _ (List.mem_of_getElem? (i := 21) rfl)) (hw _ (List.mem_of_getElem? (i := 20) rfl)) (by decide) (by decide)) (g := (mkF m 56 #[.val (.ref x0)] [(.int (8 : Int32)), (.int (1 : Int32)), (.int (2 : Int32)), (.int (0 : Int32)), (.ref x0)])) rfl (by rw [hml]; rfl) (argsL := [(.ref x0), (.int (0 : Int32)), (.int (2 : Int32)), (.int (1 : Int32)), (.int (8 : Int32))]) (rest := []) (lenOf own_pd1 rfl) rfl (by show 2 * 0 + _ ≤ _; exact Nat.le_of_eq rfl) (hb hby d3t2_56) (fun _ _ => ⟨rfl, e0, (by decide : 0 + 0 ≤ _), (by decide : 0 + 0 ≤ _)⟩)
  dsimp only [Pt.U, Pt.locs, Pt.cells, Pt.slots] at X3 l3 y3 z3 st3 hQ3
  subst l3 y3 z3
  obtain ⟨⟨r3, rfl, hr3⟩, Nq3, eq3⟩ := hQ3
  have N3 := Fr.app N0 Nq3
  refine own_st (T' := T3) (F' := (mkF m 59 #[.val (.ref x0)] [(.int r3)])) (fun _ k => st3 _ k) ?_
  refine own_retI X3 hx hlk Bd.returns (hb hby d3t2_59) ?_ (by decide) (by decide)
  rw [eq3]
  refine ⟨⟨_, rfl, ?_⟩, N3, rfl⟩
  trivial
theorem own_pd2 : parseMethodDescriptor "([B)I" = some ⟨[(.array .byte)], some .int⟩ := by decide +kernel
theorem d1t1_0 : decode prog_70_method_1_code 0 = .ok (.aload_n 0, 1) := by decide +kernel
theorem d1t1_1 : decode prog_70_method_1_code 1 = .ok (.invokespecial 1, 3) := by decide +kernel
theorem d1t1_4 : decode prog_70_method_1_code 4 = .ok (.aload_n 0, 1) := by decide +kernel
theorem d1t1_5 : decode prog_70_method_1_code 5 = .ok (.aload_n 1, 1) := by decide +kernel
theorem d1t1_6 : decode prog_70_method_1_code 6 = .ok (.putfield 7, 3) := by decide +kernel
theorem d1t1_9 : decode prog_70_method_1_code 9 = .ok (.aload_n 0, 1) := by decide +kernel
theorem d1t1_10 : decode prog_70_method_1_code 10 = .ok (.aload_n 1, 1) := by decide +kernel
theorem d1t1_11 : decode prog_70_method_1_code 11 = .ok (.invokestatic 13, 3) := by decide +kernel
theorem d1t1_14 : decode prog_70_method_1_code 14 = .ok (.putfield 19, 3) := by decide +kernel
theorem d1t1_17 : decode prog_70_method_1_code 17 = .ok (.return_, 1) := by decide +kernel
theorem own_pn1t1 : plainName "com/example/infinite_tail/infinitetail/stream/ByteString" = true := by first | (simp [plainName, overriddenIn]; done) | decide +kernel
theorem own_ef1t1 (m : MethodId) (o : Addr) (x0 : Addr) : entryFrame m #[(.ref o), (.ref x0)] 2 = (mkF m 0 #[.val (.ref o), .val (.ref x0)] []) := by first | (simp [entryFrame, mkF, argsToLocals, Value.category]; done) | rfl
def Q1t1 (Z : State) (o : Addr) (x0 : Addr) (u0 : Value) (u1 : Value) (k : ClassId) (b0 : Int32) (h0 : Heap) (n0 : Nat) (v : Option Value) (h : Heap) (L : List Loc) : Prop := v = none ∧ Fr n0 L ∧ Keep h0 h [o] ∧ Exa Z h o "com/example/infinite_tail/infinitetail/stream/ByteString"
set_option maxRecDepth 65536 in
set_option maxHeartbeats 40000000 in
theorem rm1t1 (l : Launch) (Z : State) (a0 : Array Value) (hw : ∀ d ∈ tables_1, d.before a0 Z = true) (ws : List Jvm.Cond) (o : Addr) (x0 : Addr) (u0 : Value) (u1 : Value) (k : ClassId) (b0 : Int32) (h0 : Heap) (n0 : Nat) (Z0 : n0 ≤ h0.size) (hge_o : n0 ≤ o) (hE_o : Exa Z h0 o "com/example/infinite_tail/infinitetail/stream/ByteString") (hF0 : Fld Z h0 o "com/example/infinite_tail/infinitetail/stream/ByteString" "bytes" "[B" u0) (hF1 : Fld Z h0 o "com/example/infinite_tail/infinitetail/stream/ByteString" "hash" "I" u1) (V_x0 : Arv Z h0 x0 k .byte (1 : Int32) [(.int b0)] (.int (0 : Int32))) (hE_x0 : Exa Z h0 x0 "[B") (hne : x0 ≠ o) :
    MetFree l (⟨"com/example/infinite_tail/infinitetail/stream/ByteString", "<init>", "([B)V"⟩ : MethodName) (head1 (Jvm.Cond.code (⟨"com/example/infinite_tail/infinitetail/stream/ByteString", "<init>", "([B)V"⟩ : MethodName) prog_70_method_1_code 2 none :: ws) ({ frames := 1, cells := 0, slots := 0, locals := 13 } : Room)) (fun a U => a = #[(.ref o), (.ref x0)] ∧ Z.Warmed39 U.vm ∧ U.heap = h0) (fun _ _ _ _ _ => True) (fun _ U oc U' => ∃ v L, oc = .returned v ∧ Q1t1 Z o x0 u0 u1 k b0 h0 n0 v U'.heap L ∧ FrameEnd U oc U' L ({ frames := 1, cells := 0, slots := 0, locals := 13 } : Room).cells ({ frames := 1, cells := 0, slots := 0, locals := 13 } : Room).slots) := by
  refine MetFree.of_bodySF (plainFor_of_name own_pn1t1) hisR ?_
  intro p e s m args below meth c s₁ Bd hml0 hP hK
  obtain ⟨rfl, hZ, hh⟩ := hP
  have hx := Bd.exec
  have hby := Bd.bytes
  have hlk : meth.locks = false := BodyLoose.notSynchronized Bd
  have hml : c.maxLocals = 2 := hml0
  have hown : s.vm.findClass "com/example/infinite_tail/infinitetail/stream/ByteString" = some m.cls := findClass_of_methodNamed Bd.named
  have hnm := (name_of_methodNamed Bd.named Bd.method).1
  have X0 : Stand p l e ({ frames := 1, cells := 0, slots := 0, locals := 13 } : Room) s m #[(.ref o), (.ref x0)] below meth c s₁ [] 0 0 := Stand.of_body Bd
  have e0 : s₁.heap = h0 := by rw [← hh, Bd.state]; rfl
  have N0 := Fr.nil n0
  refine own_enter (own_ef1t1 m o x0) ?_
  show own_Go p e below s (Q1t1 Z o x0 u0 u1 k b0 h0 n0) ({ frames := 1, cells := 0, slots := 0, locals := 13 } : Room).cells ({ frames := 1, cells := 0, slots := 0, locals := 13 } : Room).slots s₁ (mkF m 0 #[.val (.ref o), .val (.ref x0)] [])
  refine own_st (T' := s₁) (F' := (mkF m 1 #[.val (.ref o), .val (.ref x0)] [(.ref o)])) (fun _ k => XS.aloadN X0.here hx rfl (hb hby d1t1_0) rfl rfl k) ?_
  obtain ⟨T1, X1, e1, st1⟩ := initO X0 hx hZ hown (hw _ (List.mem_of_getElem? (i := 7) rfl)) (hw _ (List.mem_of_getElem? (i := 8) rfl)) (hw _ (List.mem_of_getElem? (i := 9) rfl)) e0 (g := (mkF m 1 #[.val (.ref o), .val (.ref x0)] [(.ref o)])) rfl (by rw [hml]; rfl) rfl (hb hby d1t1_1) (by decide) (W := 0) (by show 2 * 0 + _ ≤ _; exact Nat.le_of_eq rfl) (by decide)
  refine own_st (T' := T1) (F' := (mkF m 4 #[.val (.ref o), .val (.ref x0)] [])) (fun _ k => st1 _ k) ?_
  refine own_st (T' := T1) (F' := (mkF m 5 #[.val (.ref o), .val (.ref x0)] [(.ref o)])) (fun _ k => XS.aloadN X1.here hx rfl (hb hby d1t1_4) rfl rfl k) ?_
  refine own_st (T' := T1) (F' := (mkF m 6 #[.val (.ref o), .val (.ref x0)] [(.ref x0), (.ref o)])) (fun _ k => XS.aloadN X1.here hx rfl (hb hby d1t1_5) rfl rfl k) ?_
  obtain ⟨T2, h2, X2, e2, W2, st2⟩ := putF X1 hx hZ hown (host := "") (Or.inl (hw _ (List.mem_of_getElem? (i := 10) rfl))) Via.refl e1 hF0 hE_o (Or.inr ⟨(hw _ (List.mem_of_getElem? (i := 11) rfl)), rfl, hnm⟩) (hw _ (List.mem_of_getElem? (i := 1) rfl)) (ty := (.array .byte)) (by decide) rfl rfl (g := (mkF m 6 #[.val (.ref o), .val (.ref x0)] [(.ref x0), (.ref o)])) rfl rfl (hb hby d1t1_6)
  have N2 := Fr.snoc X2 N0 hge_o
  have f3 : Exa Z h2 o "com/example/infinite_tail/infinitetail/stream/ByteString" := hE_o.wr W2
  have f4 : Fld Z h2 o "com/example/infinite_tail/infinitetail/stream/ByteString" "bytes" "[B" (.ref x0) := hF0.same W2
  have f5 : Fld Z h2 o "com/example/infinite_tail/infinitetail/stream/ByteString" "hash" "I" u1 := hF1.other W2 (Or.inr (slot_ne (Or.inr (hw _ (List.mem_of_getElem? (i := 17) rfl))) (Or.inr (hw _ (List.mem_of_getElem? (i := 11) rfl))) (by decide) (t := .int) (t' := (.array .byte)) (by decide) (by decide)))
  have f6 : Arv Z h2 x0 k .byte (1 : Int32) [(.int b0)] (.int (0 : Int32)) := V_x0.other W2 hne
  have f7 : Exa Z h2 x0 "[B" := hE_x0.wr W2
  have K2 : Keep h0 h2 [o] := (Keep.refl h0 [o]).wr W2 (Or.inl (List.mem_of_getElem? (i := 0) rfl))
  have Zs2 : n0 ≤ h2.size := Nat.le_trans Z0 K2.1
  refine own_st (T' := T2) (F' := (mkF m 9 #[.val (.ref o), .val (.ref x0)] [])) (fun _ k => st2 _ k) ?_
  refine own_st (T' := T2) (F' := (mkF m 10 #[.val (.ref o), .val (.ref x0)] [(.ref o)])) (fun _ k => XS.aloadN X2.here hx rfl (hb hby d1t1_9) rfl rfl k) ?_
  refine own_st (T' := T2) (F' := (mkF m 11 #[.val (.ref o), .val (.ref x0)] [(.ref x0), (.ref o)])) (fun _ k => XS.aloadN X2.here hx rfl (hb hby d1t1_10) rfl rfl k) ?_
  obtain ⟨_, _, ⟨T8, L8, k8, n8⟩, -, X8, ⟨Lc8, hQ8, l8, y8, z8⟩, st8⟩ := Jvm.LawKit.callS X2 hx (y := (⟨"java/util/Arrays", "hashCode", "([B)I"⟩ : MethodName)) hown (mvT hZ (hw _ (List.mem_of_getElem? (i := 12) rfl))) (mvT hZ (hw _ (List.mem_of_getElem? (i := 13) rfl))) (mvT hZ (hw _ (List.mem_of_getElem? (i := 14) rfl))) (mvT hZ (hw _ (List.mem_of_getElem? (i := 15) rfl))) (by decide) (backOf (W := 1) (rm3t1 l Z a0 hw [] x0 k b0 h2 n0 Zs2 f6 f7) hZ (hw _ (List.mem_of_getElem? (i := 15) rfl)) (hw _ (List.mem_of_getElem? (i := 14) rfl)) (by decide) (by decide)) (g := (mkF m 11 #[.val (.ref o), .val (.ref x0)] [(.ref x0), (.ref o)])) rfl (by rw [hml]; rfl) (argsL := [(.ref x0)]) (rest := [(.ref o)]) (lenOf own_pd2 rfl) rfl (by show 2 * 0 + _ ≤ _; exact Nat.le_of_eq rfl) (hb hby d1t1_11) (fun _ _ => ⟨rfl, e2, (by decide : 0 + 0 ≤ _), (by decide : 0 + 0 ≤ _)⟩)
  dsimp only [Pt.U, Pt.locs, Pt.cells, Pt.slots] at X8 l8 y8 z8 st8 hQ8
  subst l8 y8 z8
  obtain ⟨⟨r8, rfl, hr8⟩, Nq8, eq8⟩ := hQ8
  have N8 := Fr.app N2 Nq8
  refine own_st (T' := T8) (F' := (mkF m 14 #[.val (.ref o), .val (.ref x0)] [(.int r8), (.ref o)])) (fun _ k => st8 _ k) ?_
  obtain ⟨T9, h9, X9, e9, W9, st9⟩ := putF X8 hx hZ hown (host := "") (Or.inl (hw _ (List.mem_of_getElem? (i := 16) rfl))) Via.refl eq8 f5 f3 (Or.inr ⟨(hw _ (List.mem_of_getElem? (i := 17) rfl)), rfl, hnm⟩) (hw _ (List.mem_of_getElem? (i := 1) rfl)) (ty := .int) (by decide) rfl rfl (g := (mkF m 14 #[.val (.ref o), .val (.ref x0)] [(.int r8), (.ref o)])) rfl rfl (hb hby d1t1_14)
  have N9 := Fr.snoc X9 N8 hge_o
  have f10 : Exa Z h9 o "com/example/infinite_tail/infinitetail/stream/ByteString" := f3.wr W9
  have f11 : Fld Z h9 o "com/example/infinite_tail/infinitetail/stream/ByteString" "bytes" "[B" (.ref x0) := f4.other W9 (Or.inr (slot_ne (Or.inr (hw _ (List.mem_of_getElem? (i := 11) rfl))) (Or.inr (hw _ (List.mem_of_getElem? (i := 17) rfl))) (by decide) (t := (.array .byte)) (t' := .int) (by decide) (by decide)))
  have f12 : Fld Z h9 o "com/example/infinite_tail/infinitetail/stream/ByteString" "hash" "I" (.int r8) := f5.same W9
  have f13 : Arv Z h9 x0 k .byte (1 : Int32) [(.int b0)] (.int (0 : Int32)) := f6.other W9 hne
  have f14 : Exa Z h9 x0 "[B" := f7.wr W9
  have K9 : Keep h0 h9 [o] := K2.wr W9 (Or.inl (List.mem_of_getElem? (i := 0) rfl))
  have Zs9 : n0 ≤ h9.size := Nat.le_trans Z0 K9.1
  refine own_st (T' := T9) (F' := (mkF m 17 #[.val (.ref o), .val (.ref x0)] [])) (fun _ k => st9 _ k) ?_
  refine own_retV X9 hx hlk Bd.returns (hb hby d1t1_17) ?_ (by decide) (by decide)
  rw [e9]
  refine ⟨rfl, N9, K9, f10⟩
theorem d1t2_0 : decode prog_70_method_1_code 0 = .ok (.aload_n 0, 1) := by decide +kernel
theorem d1t2_1 : decode prog_70_method_1_code 1 = .ok (.invokespecial 1, 3) := by decide +kernel
theorem d1t2_4 : decode prog_70_method_1_code 4 = .ok (.aload_n 0, 1) := by decide +kernel
theorem d1t2_5 : decode prog_70_method_1_code 5 = .ok (.aload_n 1, 1) := by decide +kernel
theorem d1t2_6 : decode prog_70_method_1_code 6 = .ok (.putfield 7, 3) := by decide +kernel
theorem d1t2_9 : decode prog_70_method_1_code 9 = .ok (.aload_n 0, 1) := by decide +kernel
theorem d1t2_10 : decode prog_70_method_1_code 10 = .ok (.aload_n 1, 1) := by decide +kernel
theorem d1t2_11 : decode prog_70_method_1_code 11 = .ok (.invokestatic 13, 3) := by decide +kernel
theorem d1t2_14 : decode prog_70_method_1_code 14 = .ok (.putfield 19, 3) := by decide +kernel
theorem d1t2_17 : decode prog_70_method_1_code 17 = .ok (.return_, 1) := by decide +kernel
theorem own_pn1t2 : plainName "com/example/infinite_tail/infinitetail/stream/ByteString" = true := by first | (simp [plainName, overriddenIn]; done) | decide +kernel
theorem own_ef1t2 (m : MethodId) (o : Addr) (x0 : Addr) : entryFrame m #[(.ref o), (.ref x0)] 2 = (mkF m 0 #[.val (.ref o), .val (.ref x0)] []) := by first | (simp [entryFrame, mkF, argsToLocals, Value.category]; done) | rfl
def Q1t2 (Z : State) (o : Addr) (x0 : Addr) (u0 : Value) (u1 : Value) (k : ClassId) (b0 : Int32) (b1 : Int32) (h0 : Heap) (n0 : Nat) (v : Option Value) (h : Heap) (L : List Loc) : Prop := v = none ∧ Fr n0 L ∧ Keep h0 h [o] ∧ Exa Z h o "com/example/infinite_tail/infinitetail/stream/ByteString"
set_option maxRecDepth 65536 in
set_option maxHeartbeats 40000000 in
theorem rm1t2 (l : Launch) (Z : State) (a0 : Array Value) (hw : ∀ d ∈ tables_1, d.before a0 Z = true) (ws : List Jvm.Cond) (o : Addr) (x0 : Addr) (u0 : Value) (u1 : Value) (k : ClassId) (b0 : Int32) (b1 : Int32) (h0 : Heap) (n0 : Nat) (Z0 : n0 ≤ h0.size) (hge_o : n0 ≤ o) (hE_o : Exa Z h0 o "com/example/infinite_tail/infinitetail/stream/ByteString") (hF0 : Fld Z h0 o "com/example/infinite_tail/infinitetail/stream/ByteString" "bytes" "[B" u0) (hF1 : Fld Z h0 o "com/example/infinite_tail/infinitetail/stream/ByteString" "hash" "I" u1) (V_x0 : Arv Z h0 x0 k .byte (2 : Int32) [(.int b0), (.int b1)] (.int (0 : Int32))) (hE_x0 : Exa Z h0 x0 "[B") (hne : x0 ≠ o) :
    MetFree l (⟨"com/example/infinite_tail/infinitetail/stream/ByteString", "<init>", "([B)V"⟩ : MethodName) (head1 (Jvm.Cond.code (⟨"com/example/infinite_tail/infinitetail/stream/ByteString", "<init>", "([B)V"⟩ : MethodName) prog_70_method_1_code 2 none :: ws) ({ frames := 3, cells := 0, slots := 0, locals := 46 } : Room)) (fun a U => a = #[(.ref o), (.ref x0)] ∧ Z.Warmed39 U.vm ∧ U.heap = h0) (fun _ _ _ _ _ => True) (fun _ U oc U' => ∃ v L, oc = .returned v ∧ Q1t2 Z o x0 u0 u1 k b0 b1 h0 n0 v U'.heap L ∧ FrameEnd U oc U' L ({ frames := 3, cells := 0, slots := 0, locals := 46 } : Room).cells ({ frames := 3, cells := 0, slots := 0, locals := 46 } : Room).slots) := by
  refine MetFree.of_bodySF (plainFor_of_name own_pn1t2) hisR ?_
  intro p e s m args below meth c s₁ Bd hml0 hP hK
  obtain ⟨rfl, hZ, hh⟩ := hP
  have hx := Bd.exec
  have hby := Bd.bytes
  have hlk : meth.locks = false := BodyLoose.notSynchronized Bd
  have hml : c.maxLocals = 2 := hml0
  have hown : s.vm.findClass "com/example/infinite_tail/infinitetail/stream/ByteString" = some m.cls := findClass_of_methodNamed Bd.named
  have hnm := (name_of_methodNamed Bd.named Bd.method).1
  have X0 : Stand p l e ({ frames := 3, cells := 0, slots := 0, locals := 46 } : Room) s m #[(.ref o), (.ref x0)] below meth c s₁ [] 0 0 := Stand.of_body Bd
  have e0 : s₁.heap = h0 := by rw [← hh, Bd.state]; rfl
  have N0 := Fr.nil n0
  refine own_enter (own_ef1t2 m o x0) ?_
  show own_Go p e below s (Q1t2 Z o x0 u0 u1 k b0 b1 h0 n0) ({ frames := 3, cells := 0, slots := 0, locals := 46 } : Room).cells ({ frames := 3, cells := 0, slots := 0, locals := 46 } : Room).slots s₁ (mkF m 0 #[.val (.ref o), .val (.ref x0)] [])
  refine own_st (T' := s₁) (F' := (mkF m 1 #[.val (.ref o), .val (.ref x0)] [(.ref o)])) (fun _ k => XS.aloadN X0.here hx rfl (hb hby d1t2_0) rfl rfl k) ?_
  obtain ⟨T1, X1, e1, st1⟩ := initO X0 hx hZ hown (hw _ (List.mem_of_getElem? (i := 7) rfl)) (hw _ (List.mem_of_getElem? (i := 8) rfl)) (hw _ (List.mem_of_getElem? (i := 9) rfl)) e0 (g := (mkF m 1 #[.val (.ref o), .val (.ref x0)] [(.ref o)])) rfl (by rw [hml]; rfl) rfl (hb hby d1t2_1) (by decide) (W := 0) (by show 2 * 0 + _ ≤ _; exact Nat.le_of_eq rfl) (by decide)
  refine own_st (T' := T1) (F' := (mkF m 4 #[.val (.ref o), .val (.ref x0)] [])) (fun _ k => st1 _ k) ?_
  refine own_st (T' := T1) (F' := (mkF m 5 #[.val (.ref o), .val (.ref x0)] [(.ref o)])) (fun _ k => XS.aloadN X1.here hx rfl (hb hby d1t2_4) rfl rfl k) ?_
  refine own_st (T' := T1) (F' := (mkF m 6 #[.val (.ref o), .val (.ref x0)] [(.ref x0), (.ref o)])) (fun _ k => XS.aloadN X1.here hx rfl (hb hby d1t2_5) rfl rfl k) ?_
  obtain ⟨T2, h2, X2, e2, W2, st2⟩ := putF X1 hx hZ hown (host := "") (Or.inl (hw _ (List.mem_of_getElem? (i := 10) rfl))) Via.refl e1 hF0 hE_o (Or.inr ⟨(hw _ (List.mem_of_getElem? (i := 11) rfl)), rfl, hnm⟩) (hw _ (List.mem_of_getElem? (i := 1) rfl)) (ty := (.array .byte)) (by decide) rfl rfl (g := (mkF m 6 #[.val (.ref o), .val (.ref x0)] [(.ref x0), (.ref o)])) rfl rfl (hb hby d1t2_6)
  have N2 := Fr.snoc X2 N0 hge_o
  have f3 : Exa Z h2 o "com/example/infinite_tail/infinitetail/stream/ByteString" := hE_o.wr W2
  have f4 : Fld Z h2 o "com/example/infinite_tail/infinitetail/stream/ByteString" "bytes" "[B" (.ref x0) := hF0.same W2
  have f5 : Fld Z h2 o "com/example/infinite_tail/infinitetail/stream/ByteString" "hash" "I" u1 := hF1.other W2 (Or.inr (slot_ne (Or.inr (hw _ (List.mem_of_getElem? (i := 17) rfl))) (Or.inr (hw _ (List.mem_of_getElem? (i := 11) rfl))) (by decide) (t := .int) (t' := (.array .byte)) (by decide) (by decide)))
  have f6 : Arv Z h2 x0 k .byte (2 : Int32) [(.int b0), (.int b1)] (.int (0 : Int32)) := V_x0.other W2 hne
  have f7 : Exa Z h2 x0 "[B" := hE_x0.wr W2
  have K2 : Keep h0 h2 [o] := (Keep.refl h0 [o]).wr W2 (Or.inl (List.mem_of_getElem? (i := 0) rfl))
  have Zs2 : n0 ≤ h2.size := Nat.le_trans Z0 K2.1
  refine own_st (T' := T2) (F' := (mkF m 9 #[.val (.ref o), .val (.ref x0)] [])) (fun _ k => st2 _ k) ?_
  refine own_st (T' := T2) (F' := (mkF m 10 #[.val (.ref o), .val (.ref x0)] [(.ref o)])) (fun _ k => XS.aloadN X2.here hx rfl (hb hby d1t2_9) rfl rfl k) ?_
  refine own_st (T' := T2) (F' := (mkF m 11 #[.val (.ref o), .val (.ref x0)] [(.ref x0), (.ref o)])) (fun _ k => XS.aloadN X2.here hx rfl (hb hby d1t2_10) rfl rfl k) ?_
  obtain ⟨_, _, ⟨T8, L8, k8, n8⟩, -, X8, ⟨Lc8, hQ8, l8, y8, z8⟩, st8⟩ := Jvm.LawKit.callS X2 hx (y := (⟨"java/util/Arrays", "hashCode", "([B)I"⟩ : MethodName)) hown (mvT hZ (hw _ (List.mem_of_getElem? (i := 12) rfl))) (mvT hZ (hw _ (List.mem_of_getElem? (i := 13) rfl))) (mvT hZ (hw _ (List.mem_of_getElem? (i := 14) rfl))) (mvT hZ (hw _ (List.mem_of_getElem? (i := 15) rfl))) (by decide) (backOf (W := 1) (rm3t2 l Z a0 hw [] x0 k b0 b1 h2 n0 Zs2 f6 f7) hZ (hw _ (List.mem_of_getElem? (i := 15) rfl)) (hw _ (List.mem_of_getElem? (i := 14) rfl)) (by decide) (by decide)) (g := (mkF m 11 #[.val (.ref o), .val (.ref x0)] [(.ref x0), (.ref o)])) rfl (by rw [hml]; rfl) (argsL := [(.ref x0)]) (rest := [(.ref o)]) (lenOf own_pd2 rfl) rfl (by show 2 * 0 + _ ≤ _; exact Nat.le_of_eq rfl) (hb hby d1t2_11) (fun _ _ => ⟨rfl, e2, (by decide : 0 + 0 ≤ _), (by decide : 0 + 0 ≤ _)⟩)
  dsimp only [Pt.U, Pt.locs, Pt.cells, Pt.slots] at X8 l8 y8 z8 st8 hQ8
  subst l8 y8 z8
  obtain ⟨⟨r8, rfl, hr8⟩, Nq8, eq8⟩ := hQ8
  have N8 := Fr.app N2 Nq8
  refine own_st (T' := T8) (F' := (mkF m 14 #[.val (.ref o), .val (.ref x0)] [(.int r8), (.ref o)])) (fun _ k => st8 _ k) ?_
  obtain ⟨T9, h9, X9, e9, W9, st9⟩ := putF X8 hx hZ hown (host := "") (Or.inl (hw _ (List.mem_of_getElem? (i := 16) rfl))) Via.refl eq8 f5 f3 (Or.inr ⟨(hw _ (List.mem_of_getElem? (i := 17) rfl)), rfl, hnm⟩) (hw _ (List.mem_of_getElem? (i := 1) rfl)) (ty := .int) (by decide) rfl rfl (g := (mkF m 14 #[.val (.ref o), .val (.ref x0)] [(.int r8), (.ref o)])) rfl rfl (hb hby d1t2_14)
  have N9 := Fr.snoc X9 N8 hge_o
  have f10 : Exa Z h9 o "com/example/infinite_tail/infinitetail/stream/ByteString" := f3.wr W9
  have f11 : Fld Z h9 o "com/example/infinite_tail/infinitetail/stream/ByteString" "bytes" "[B" (.ref x0) := f4.other W9 (Or.inr (slot_ne (Or.inr (hw _ (List.mem_of_getElem? (i := 11) rfl))) (Or.inr (hw _ (List.mem_of_getElem? (i := 17) rfl))) (by decide) (t := (.array .byte)) (t' := .int) (by decide) (by decide)))
  have f12 : Fld Z h9 o "com/example/infinite_tail/infinitetail/stream/ByteString" "hash" "I" (.int r8) := f5.same W9
  have f13 : Arv Z h9 x0 k .byte (2 : Int32) [(.int b0), (.int b1)] (.int (0 : Int32)) := f6.other W9 hne
  have f14 : Exa Z h9 x0 "[B" := f7.wr W9
  have K9 : Keep h0 h9 [o] := K2.wr W9 (Or.inl (List.mem_of_getElem? (i := 0) rfl))
  have Zs9 : n0 ≤ h9.size := Nat.le_trans Z0 K9.1
  refine own_st (T' := T9) (F' := (mkF m 17 #[.val (.ref o), .val (.ref x0)] [])) (fun _ k => st9 _ k) ?_
  refine own_retV X9 hx hlk Bd.returns (hb hby d1t2_17) ?_ (by decide) (by decide)
  rw [e9]
  refine ⟨rfl, N9, K9, f10⟩
theorem d6_0 : decode prog_82_method_1_code 0 = .ok (.aload_n 0, 1) := by decide +kernel
theorem d6_1 : decode prog_82_method_1_code 1 = .ok (.invokespecial 1, 3) := by decide +kernel
theorem d6_4 : decode prog_82_method_1_code 4 = .ok (.aload_n 0, 1) := by decide +kernel
theorem d6_5 : decode prog_82_method_1_code 5 = .ok (.lload_n 1, 1) := by decide +kernel
theorem d6_6 : decode prog_82_method_1_code 6 = .ok (.putfield 7, 3) := by decide +kernel
theorem d6_9 : decode prog_82_method_1_code 9 = .ok (.aload_n 0, 1) := by decide +kernel
theorem d6_10 : decode prog_82_method_1_code 10 = .ok (.lload_n 3, 1) := by decide +kernel
theorem d6_11 : decode prog_82_method_1_code 11 = .ok (.putfield 13, 3) := by decide +kernel
theorem d6_14 : decode prog_82_method_1_code 14 = .ok (.return_, 1) := by decide +kernel
theorem own_pn6 : plainName "com/example/infinite_tail/infinitetail/stream/StreamId" = true := by first | (simp [plainName, overriddenIn]; done) | decide +kernel
theorem own_ef6 (m : MethodId) (o : Addr) (x0 : Int64) (x1 : Int64) : entryFrame m #[(.ref o), (.long x0), (.long x1)] 5 = (mkF m 0 #[.val (.ref o), .val (.long x0), .second, .val (.long x1), .second] []) := by first | (simp [entryFrame, mkF, argsToLocals, Value.category]; done) | rfl
def Q6 (Z : State) (o : Addr) (x0 : Int64) (x1 : Int64) (u0 : Value) (u1 : Value) (h0 : Heap) (n0 : Nat) (v : Option Value) (h : Heap) (L : List Loc) : Prop := v = none ∧ Fr n0 L ∧ Keep h0 h [o] ∧ Exa Z h o "com/example/infinite_tail/infinitetail/stream/StreamId" ∧ Fld Z h o "com/example/infinite_tail/infinitetail/stream/StreamId" "milliseconds" "J" (.long x0) ∧ Fld Z h o "com/example/infinite_tail/infinitetail/stream/StreamId" "sequence" "J" (.long x1)
set_option maxRecDepth 65536 in
set_option maxHeartbeats 40000000 in
theorem rm6 (l : Launch) (Z : State) (a0 : Array Value) (hw : ∀ d ∈ tables_1, d.before a0 Z = true) (ws : List Jvm.Cond) (o : Addr) (x0 : Int64) (x1 : Int64) (u0 : Value) (u1 : Value) (h0 : Heap) (n0 : Nat) (Z0 : n0 ≤ h0.size) (hge_o : n0 ≤ o) (hE_o : Exa Z h0 o "com/example/infinite_tail/infinitetail/stream/StreamId") (hF0 : Fld Z h0 o "com/example/infinite_tail/infinitetail/stream/StreamId" "milliseconds" "J" u0) (hF1 : Fld Z h0 o "com/example/infinite_tail/infinitetail/stream/StreamId" "sequence" "J" u1) :
    MetFree l (⟨"com/example/infinite_tail/infinitetail/stream/StreamId", "<init>", "(JJ)V"⟩ : MethodName) (head1 (Jvm.Cond.code (⟨"com/example/infinite_tail/infinitetail/stream/StreamId", "<init>", "(JJ)V"⟩ : MethodName) prog_82_method_1_code 5 none :: ws) ({ frames := 1, cells := 0, slots := 0, locals := 12 } : Room)) (fun a U => a = #[(.ref o), (.long x0), (.long x1)] ∧ Z.Warmed39 U.vm ∧ U.heap = h0) (fun _ _ _ _ _ => True) (fun _ U oc U' => ∃ v L, oc = .returned v ∧ Q6 Z o x0 x1 u0 u1 h0 n0 v U'.heap L ∧ FrameEnd U oc U' L ({ frames := 1, cells := 0, slots := 0, locals := 12 } : Room).cells ({ frames := 1, cells := 0, slots := 0, locals := 12 } : Room).slots) := by
  refine MetFree.of_bodySF (plainFor_of_name own_pn6) hisR ?_
  intro p e s m args below meth c s₁ Bd hml0 hP hK
  obtain ⟨rfl, hZ, hh⟩ := hP
  have hx := Bd.exec
  have hby := Bd.bytes
  have hlk : meth.locks = false := BodyLoose.notSynchronized Bd
  have hml : c.maxLocals = 5 := hml0
  have hown : s.vm.findClass "com/example/infinite_tail/infinitetail/stream/StreamId" = some m.cls := findClass_of_methodNamed Bd.named
  have hnm := (name_of_methodNamed Bd.named Bd.method).1
  have X0 : Stand p l e ({ frames := 1, cells := 0, slots := 0, locals := 12 } : Room) s m #[(.ref o), (.long x0), (.long x1)] below meth c s₁ [] 0 0 := Stand.of_body Bd
  have e0 : s₁.heap = h0 := by rw [← hh, Bd.state]; rfl
  have N0 := Fr.nil n0
  refine own_enter (own_ef6 m o x0 x1) ?_
  show own_Go p e below s (Q6 Z o x0 x1 u0 u1 h0 n0) ({ frames := 1, cells := 0, slots := 0, locals := 12 } : Room).cells ({ frames := 1, cells := 0, slots := 0, locals := 12 } : Room).slots s₁ (mkF m 0 #[.val (.ref o), .val (.long x0), .second, .val (.long x1), .second] [])
  refine own_st (T' := s₁) (F' := (mkF m 1 #[.val (.ref o), .val (.long x0), .second, .val (.long x1), .second] [(.ref o)])) (fun _ k => XS.aloadN X0.here hx rfl (hb hby d6_0) rfl rfl k) ?_
  obtain ⟨T1, X1, e1, st1⟩ := initO X0 hx hZ hown (hw _ (List.mem_of_getElem? (i := 36) rfl)) (hw _ (List.mem_of_getElem? (i := 8) rfl)) (hw _ (List.mem_of_getElem? (i := 9) rfl)) e0 (g := (mkF m 1 #[.val (.ref o), .val (.long x0), .second, .val (.long x1), .second] [(.ref o)])) rfl (by rw [hml]; rfl) rfl (hb hby d6_1) (by decide) (W := 0) (by show 2 * 0 + _ ≤ _; exact Nat.le_of_eq rfl) (by decide)
  refine own_st (T' := T1) (F' := (mkF m 4 #[.val (.ref o), .val (.long x0), .second, .val (.long x1), .second] [])) (fun _ k => st1 _ k) ?_
  refine own_st (T' := T1) (F' := (mkF m 5 #[.val (.ref o), .val (.long x0), .second, .val (.long x1), .second] [(.ref o)])) (fun _ k => XS.aloadN X1.here hx rfl (hb hby d6_4) rfl rfl k) ?_
  refine own_st (T' := T1) (F' := (mkF m 6 #[.val (.ref o), .val (.long x0), .second, .val (.long x1), .second] [(.long x0), (.ref o)])) (fun _ k => XS.lloadN X1.here hx rfl (hb hby d6_5) rfl  k) ?_
  obtain ⟨T2, h2, X2, e2, W2, st2⟩ := putF X1 hx hZ hown (host := "") (Or.inl (hw _ (List.mem_of_getElem? (i := 37) rfl))) Via.refl e1 hF0 hE_o (Or.inr ⟨(hw _ (List.mem_of_getElem? (i := 38) rfl)), rfl, hnm⟩) (hw _ (List.mem_of_getElem? (i := 31) rfl)) (ty := .long) (by decide) rfl rfl (g := (mkF m 6 #[.val (.ref o), .val (.long x0), .second, .val (.long x1), .second] [(.long x0), (.ref o)])) rfl rfl (hb hby d6_6)
  have N2 := Fr.snoc X2 N0 hge_o
  have f3 : Exa Z h2 o "com/example/infinite_tail/infinitetail/stream/StreamId" := hE_o.wr W2
  have f4 : Fld Z h2 o "com/example/infinite_tail/infinitetail/stream/StreamId" "milliseconds" "J" (.long x0) := hF0.same W2
  have f5 : Fld Z h2 o "com/example/infinite_tail/infinitetail/stream/StreamId" "sequence" "J" u1 := hF1.other W2 (Or.inr (slot_ne (Or.inr (hw _ (List.mem_of_getElem? (i := 40) rfl))) (Or.inr (hw _ (List.mem_of_getElem? (i := 38) rfl))) (by decide) (t := .long) (t' := .long) (by decide) (by decide)))
  have K2 : Keep h0 h2 [o] := (Keep.refl h0 [o]).wr W2 (Or.inl (List.mem_of_getElem? (i := 0) rfl))
  have Zs2 : n0 ≤ h2.size := Nat.le_trans Z0 K2.1
  refine own_st (T' := T2) (F' := (mkF m 9 #[.val (.ref o), .val (.long x0), .second, .val (.long x1), .second] [])) (fun _ k => st2 _ k) ?_
  refine own_st (T' := T2) (F' := (mkF m 10 #[.val (.ref o), .val (.long x0), .second, .val (.long x1), .second] [(.ref o)])) (fun _ k => XS.aloadN X2.here hx rfl (hb hby d6_9) rfl rfl k) ?_
  refine own_st (T' := T2) (F' := (mkF m 11 #[.val (.ref o), .val (.long x0), .second, .val (.long x1), .second] [(.long x1), (.ref o)])) (fun _ k => XS.lloadN X2.here hx rfl (hb hby d6_10) rfl  k) ?_
  obtain ⟨T6, h6, X6, e6, W6, st6⟩ := putF X2 hx hZ hown (host := "") (Or.inl (hw _ (List.mem_of_getElem? (i := 39) rfl))) Via.refl e2 f5 f3 (Or.inr ⟨(hw _ (List.mem_of_getElem? (i := 40) rfl)), rfl, hnm⟩) (hw _ (List.mem_of_getElem? (i := 31) rfl)) (ty := .long) (by decide) rfl rfl (g := (mkF m 11 #[.val (.ref o), .val (.long x0), .second, .val (.long x1), .second] [(.long x1), (.ref o)])) rfl rfl (hb hby d6_11)
  have N6 := Fr.snoc X6 N2 hge_o
  have f7 : Exa Z h6 o "com/example/infinite_tail/infinitetail/stream/StreamId" := f3.wr W6
  have f8 : Fld Z h6 o "com/example/infinite_tail/infinitetail/stream/StreamId" "milliseconds" "J" (.long x0) := f4.other W6 (Or.inr (slot_ne (Or.inr (hw _ (List.mem_of_getElem? (i := 38) rfl))) (Or.inr (hw _ (List.mem_of_getElem? (i := 40) rfl))) (by decide) (t := .long) (t' := .long) (by decide) (by decide)))
  have f9 : Fld Z h6 o "com/example/infinite_tail/infinitetail/stream/StreamId" "sequence" "J" (.long x1) := f5.same W6
  have K6 : Keep h0 h6 [o] := K2.wr W6 (Or.inl (List.mem_of_getElem? (i := 0) rfl))
  have Zs6 : n0 ≤ h6.size := Nat.le_trans Z0 K6.1
  refine own_st (T' := T6) (F' := (mkF m 14 #[.val (.ref o), .val (.long x0), .second, .val (.long x1), .second] [])) (fun _ k => st6 _ k) ?_
  refine own_retV X6 hx hlk Bd.returns (hb hby d6_14) ?_ (by decide) (by decide)
  rw [e6]
  refine ⟨rfl, N6, K6, f7, f8, f9⟩
theorem d8_0 : decode prog_82_method_7_code 0 = .ok (.aload_n 0, 1) := by decide +kernel
theorem d8_1 : decode prog_82_method_7_code 1 = .ok (.getfield 7, 3) := by decide +kernel
theorem d8_4 : decode prog_82_method_7_code 4 = .ok (.lreturn, 1) := by decide +kernel
theorem own_pn8 : plainName "com/example/infinite_tail/infinitetail/stream/StreamId" = true := by first | (simp [plainName, overriddenIn]; done) | decide +kernel
theorem own_ef8 (m : MethodId) (o : Addr) : entryFrame m #[(.ref o)] 1 = (mkF m 0 #[.val (.ref o)] []) := by first | (simp [entryFrame, mkF, argsToLocals, Value.category]; done) | rfl
def Q8 (Z : State) (o : Addr) (mm : Int64) (h0 : Heap) (n0 : Nat) (v : Option Value) (h : Heap) (L : List Loc) : Prop := (∃ z : Int64, v = some (.long z) ∧ (True)) ∧ Fr n0 L ∧ h = h0
set_option maxRecDepth 65536 in
set_option maxHeartbeats 40000000 in
theorem rm8 (l : Launch) (Z : State) (a0 : Array Value) (hw : ∀ d ∈ tables_1, d.before a0 Z = true) (ws : List Jvm.Cond) (o : Addr) (mm : Int64) (h0 : Heap) (n0 : Nat) (Z0 : n0 ≤ h0.size) (hF : Fld Z h0 o "com/example/infinite_tail/infinitetail/stream/StreamId" "milliseconds" "J" (.long mm)) :
    MetFree l (⟨"com/example/infinite_tail/infinitetail/stream/StreamId", "milliseconds", "()J"⟩ : MethodName) (head1 (Jvm.Cond.code (⟨"com/example/infinite_tail/infinitetail/stream/StreamId", "milliseconds", "()J"⟩ : MethodName) prog_82_method_7_code 1 (some .long) :: ws) ({ frames := 0, cells := 0, slots := 0, locals := 0 } : Room)) (fun a U => a = #[(.ref o)] ∧ Z.Warmed39 U.vm ∧ U.heap = h0) (fun _ _ _ _ _ => True) (fun _ U oc U' => ∃ v L, oc = .returned v ∧ Q8 Z o mm h0 n0 v U'.heap L ∧ FrameEnd U oc U' L ({ frames := 0, cells := 0, slots := 0, locals := 0 } : Room).cells ({ frames := 0, cells := 0, slots := 0, locals := 0 } : Room).slots) := by
  refine MetFree.of_bodySF (plainFor_of_name own_pn8) hisR ?_
  intro p e s m args below meth c s₁ Bd hml0 hP hK
  obtain ⟨rfl, hZ, hh⟩ := hP
  have hx := Bd.exec
  have hby := Bd.bytes
  have hlk : meth.locks = false := BodyLoose.notSynchronized Bd
  have hml : c.maxLocals = 1 := hml0
  have hown : s.vm.findClass "com/example/infinite_tail/infinitetail/stream/StreamId" = some m.cls := findClass_of_methodNamed Bd.named
  have hnm := (name_of_methodNamed Bd.named Bd.method).1
  have X0 : Stand p l e ({ frames := 0, cells := 0, slots := 0, locals := 0 } : Room) s m #[(.ref o)] below meth c s₁ [] 0 0 := Stand.of_body Bd
  have e0 : s₁.heap = h0 := by rw [← hh, Bd.state]; rfl
  have N0 := Fr.nil n0
  refine own_enter (own_ef8 m o) ?_
  show own_Go p e below s (Q8 Z o mm h0 n0) ({ frames := 0, cells := 0, slots := 0, locals := 0 } : Room).cells ({ frames := 0, cells := 0, slots := 0, locals := 0 } : Room).slots s₁ (mkF m 0 #[.val (.ref o)] [])
  refine own_st (T' := s₁) (F' := (mkF m 1 #[.val (.ref o)] [(.ref o)])) (fun _ k => XS.aloadN X0.here hx rfl (hb hby d8_0) rfl rfl k) ?_
  obtain ⟨T1, X1, e1, st1⟩ := getF X0 hx hZ hown (host := "") (Or.inl (hw _ (List.mem_of_getElem? (i := 37) rfl))) Via.refl e0 hF (g := (mkF m 1 #[.val (.ref o)] [(.ref o)])) rfl rfl (hb hby d8_1)
  refine own_st (T' := T1) (F' := (mkF m 4 #[.val (.ref o)] [(.long mm)])) (fun _ k => st1 _ k) ?_
  refine own_retJ X1 hx hlk Bd.returns (hb hby d8_4) ?_ (by decide) (by decide)
  rw [e1]
  refine ⟨⟨_, rfl, ?_⟩, N0, rfl⟩
  trivial
theorem d9_0 : decode prog_82_method_8_code 0 = .ok (.aload_n 0, 1) := by decide +kernel
theorem d9_1 : decode prog_82_method_8_code 1 = .ok (.getfield 13, 3) := by decide +kernel
theorem d9_4 : decode prog_82_method_8_code 4 = .ok (.lreturn, 1) := by decide +kernel
theorem own_pn9 : plainName "com/example/infinite_tail/infinitetail/stream/StreamId" = true := by first | (simp [plainName, overriddenIn]; done) | decide +kernel
theorem own_ef9 (m : MethodId) (o : Addr) : entryFrame m #[(.ref o)] 1 = (mkF m 0 #[.val (.ref o)] []) := by first | (simp [entryFrame, mkF, argsToLocals, Value.category]; done) | rfl
def Q9 (Z : State) (o : Addr) (mm : Int64) (h0 : Heap) (n0 : Nat) (v : Option Value) (h : Heap) (L : List Loc) : Prop := (∃ z : Int64, v = some (.long z) ∧ (True)) ∧ Fr n0 L ∧ h = h0
set_option maxRecDepth 65536 in
set_option maxHeartbeats 40000000 in
theorem rm9 (l : Launch) (Z : State) (a0 : Array Value) (hw : ∀ d ∈ tables_1, d.before a0 Z = true) (ws : List Jvm.Cond) (o : Addr) (mm : Int64) (h0 : Heap) (n0 : Nat) (Z0 : n0 ≤ h0.size) (hF : Fld Z h0 o "com/example/infinite_tail/infinitetail/stream/StreamId" "sequence" "J" (.long mm)) :
    MetFree l (⟨"com/example/infinite_tail/infinitetail/stream/StreamId", "sequence", "()J"⟩ : MethodName) (head1 (Jvm.Cond.code (⟨"com/example/infinite_tail/infinitetail/stream/StreamId", "sequence", "()J"⟩ : MethodName) prog_82_method_8_code 1 (some .long) :: ws) ({ frames := 0, cells := 0, slots := 0, locals := 0 } : Room)) (fun a U => a = #[(.ref o)] ∧ Z.Warmed39 U.vm ∧ U.heap = h0) (fun _ _ _ _ _ => True) (fun _ U oc U' => ∃ v L, oc = .returned v ∧ Q9 Z o mm h0 n0 v U'.heap L ∧ FrameEnd U oc U' L ({ frames := 0, cells := 0, slots := 0, locals := 0 } : Room).cells ({ frames := 0, cells := 0, slots := 0, locals := 0 } : Room).slots) := by
  refine MetFree.of_bodySF (plainFor_of_name own_pn9) hisR ?_
  intro p e s m args below meth c s₁ Bd hml0 hP hK
  obtain ⟨rfl, hZ, hh⟩ := hP
  have hx := Bd.exec
  have hby := Bd.bytes
  have hlk : meth.locks = false := BodyLoose.notSynchronized Bd
  have hml : c.maxLocals = 1 := hml0
  have hown : s.vm.findClass "com/example/infinite_tail/infinitetail/stream/StreamId" = some m.cls := findClass_of_methodNamed Bd.named
  have hnm := (name_of_methodNamed Bd.named Bd.method).1
  have X0 : Stand p l e ({ frames := 0, cells := 0, slots := 0, locals := 0 } : Room) s m #[(.ref o)] below meth c s₁ [] 0 0 := Stand.of_body Bd
  have e0 : s₁.heap = h0 := by rw [← hh, Bd.state]; rfl
  have N0 := Fr.nil n0
  refine own_enter (own_ef9 m o) ?_
  show own_Go p e below s (Q9 Z o mm h0 n0) ({ frames := 0, cells := 0, slots := 0, locals := 0 } : Room).cells ({ frames := 0, cells := 0, slots := 0, locals := 0 } : Room).slots s₁ (mkF m 0 #[.val (.ref o)] [])
  refine own_st (T' := s₁) (F' := (mkF m 1 #[.val (.ref o)] [(.ref o)])) (fun _ k => XS.aloadN X0.here hx rfl (hb hby d9_0) rfl rfl k) ?_
  obtain ⟨T1, X1, e1, st1⟩ := getF X0 hx hZ hown (host := "") (Or.inl (hw _ (List.mem_of_getElem? (i := 39) rfl))) Via.refl e0 hF (g := (mkF m 1 #[.val (.ref o)] [(.ref o)])) rfl rfl (hb hby d9_1)
  refine own_st (T' := T1) (F' := (mkF m 4 #[.val (.ref o)] [(.long mm)])) (fun _ k => st1 _ k) ?_
  refine own_retJ X1 hx hlk Bd.returns (hb hby d9_4) ?_ (by decide) (by decide)
  rw [e1]
  refine ⟨⟨_, rfl, ?_⟩, N0, rfl⟩
  trivial
theorem own_pd3 : parseMethodDescriptor "()J" = some ⟨[], some .long⟩ := by decide +kernel
theorem d7_0 : decode prog_77_method_1_code 0 = .ok (.aload_n 0, 1) := by decide +kernel
theorem d7_1 : decode prog_77_method_1_code 1 = .ok (.invokespecial 1, 3) := by decide +kernel
theorem d7_4 : decode prog_77_method_1_code 4 = .ok (.aload_n 0, 1) := by decide +kernel
theorem d7_5 : decode prog_77_method_1_code 5 = .ok (.aload_n 1, 1) := by decide +kernel
theorem d7_6 : decode prog_77_method_1_code 6 = .ok (.invokevirtual 7, 3) := by decide +kernel
theorem d7_9 : decode prog_77_method_1_code 9 = .ok (.putfield 13, 3) := by decide +kernel
theorem d7_12 : decode prog_77_method_1_code 12 = .ok (.aload_n 0, 1) := by decide +kernel
theorem d7_13 : decode prog_77_method_1_code 13 = .ok (.aload_n 1, 1) := by decide +kernel
theorem d7_14 : decode prog_77_method_1_code 14 = .ok (.invokevirtual 18, 3) := by decide +kernel
theorem d7_17 : decode prog_77_method_1_code 17 = .ok (.putfield 21, 3) := by decide +kernel
theorem d7_20 : decode prog_77_method_1_code 20 = .ok (.aload_n 0, 1) := by decide +kernel
theorem d7_21 : decode prog_77_method_1_code 21 = .ok (.aload_n 2, 1) := by decide +kernel
theorem d7_22 : decode prog_77_method_1_code 22 = .ok (.putfield 23, 3) := by decide +kernel
theorem d7_25 : decode prog_77_method_1_code 25 = .ok (.aload_n 0, 1) := by decide +kernel
theorem d7_26 : decode prog_77_method_1_code 26 = .ok (.lload_n 3, 1) := by decide +kernel
theorem d7_27 : decode prog_77_method_1_code 27 = .ok (.putfield 27, 3) := by decide +kernel
theorem d7_30 : decode prog_77_method_1_code 30 = .ok (.aload_n 0, 1) := by decide +kernel
theorem d7_31 : decode prog_77_method_1_code 31 = .ok (.lload 5, 2) := by decide +kernel
theorem d7_33 : decode prog_77_method_1_code 33 = .ok (.putfield 30, 3) := by decide +kernel
theorem d7_36 : decode prog_77_method_1_code 36 = .ok (.return_, 1) := by decide +kernel
theorem own_pn7 : plainName "com/example/infinite_tail/infinitetail/stream/PendingEntry" = true := by first | (simp [plainName, overriddenIn]; done) | decide +kernel
theorem own_ef7 (m : MethodId) (o : Addr) (x0 : Addr) (x1 : Addr) (x2 : Int64) (x3 : Int64) : entryFrame m #[(.ref o), (.ref x0), (.ref x1), (.long x2), (.long x3)] 7 = (mkF m 0 #[.val (.ref o), .val (.ref x0), .val (.ref x1), .val (.long x2), .second, .val (.long x3), .second] []) := by first | (simp [entryFrame, mkF, argsToLocals, Value.category]; done) | rfl
def Q7 (Z : State) (o : Addr) (x0 : Addr) (x1 : Addr) (x2 : Int64) (x3 : Int64) (u0 : Value) (u1 : Value) (u2 : Value) (u3 : Value) (u4 : Value) (m0 : Int64) (m1 : Int64) (h0 : Heap) (n0 : Nat) (v : Option Value) (h : Heap) (L : List Loc) : Prop := v = none ∧ Fr n0 L ∧ Keep h0 h [o] ∧ Exa Z h o "com/example/infinite_tail/infinitetail/stream/PendingEntry" ∧ Fld Z h o "com/example/infinite_tail/infinitetail/stream/PendingEntry" "consumer" "Lcom/example/infinite_tail/infinitetail/stream/ByteString;" (.ref x1) ∧ Fld Z h o "com/example/infinite_tail/infinitetail/stream/PendingEntry" "deliveredAt" "J" (.long x2) ∧ Fld Z h o "com/example/infinite_tail/infinitetail/stream/PendingEntry" "deliveryCount" "J" (.long x3)
set_option maxRecDepth 65536 in
set_option maxHeartbeats 40000000 in
theorem rm7 (l : Launch) (Z : State) (a0 : Array Value) (hw : ∀ d ∈ tables_1, d.before a0 Z = true) (ws : List Jvm.Cond) (o : Addr) (x0 : Addr) (x1 : Addr) (x2 : Int64) (x3 : Int64) (u0 : Value) (u1 : Value) (u2 : Value) (u3 : Value) (u4 : Value) (m0 : Int64) (m1 : Int64) (h0 : Heap) (n0 : Nat) (Z0 : n0 ≤ h0.size) (hge_o : n0 ≤ o) (hE_o : Exa Z h0 o "com/example/infinite_tail/infinitetail/stream/PendingEntry") (hF0 : Fld Z h0 o "com/example/infinite_tail/infinitetail/stream/PendingEntry" "milliseconds" "J" u0) (hF1 : Fld Z h0 o "com/example/infinite_tail/infinitetail/stream/PendingEntry" "sequence" "J" u1) (hF2 : Fld Z h0 o "com/example/infinite_tail/infinitetail/stream/PendingEntry" "consumer" "Lcom/example/infinite_tail/infinitetail/stream/ByteString;" u2) (hF3 : Fld Z h0 o "com/example/infinite_tail/infinitetail/stream/PendingEntry" "deliveredAt" "J" u3) (hF4 : Fld Z h0 o "com/example/infinite_tail/infinitetail/stream/PendingEntry" "deliveryCount" "J" u4) (hE_x0 : Exa Z h0 x0 "com/example/infinite_tail/infinitetail/stream/StreamId") (hG0 : Fld Z h0 x0 "com/example/infinite_tail/infinitetail/stream/StreamId" "milliseconds" "J" (.long m0)) (hG1 : Fld Z h0 x0 "com/example/infinite_tail/infinitetail/stream/StreamId" "sequence" "J" (.long m1)) (hne : x0 ≠ o) :
    MetFree l (⟨"com/example/infinite_tail/infinitetail/stream/PendingEntry", "<init>", "(Lcom/example/infinite_tail/infinitetail/stream/StreamId;Lcom/example/infinite_tail/infinitetail/stream/ByteString;JJ)V"⟩ : MethodName) (head1 (Jvm.Cond.code (⟨"com/example/infinite_tail/infinitetail/stream/PendingEntry", "<init>", "(Lcom/example/infinite_tail/infinitetail/stream/StreamId;Lcom/example/infinite_tail/infinitetail/stream/ByteString;JJ)V"⟩ : MethodName) prog_77_method_1_code 7 none :: ws) ({ frames := 1, cells := 0, slots := 0, locals := 13 } : Room)) (fun a U => a = #[(.ref o), (.ref x0), (.ref x1), (.long x2), (.long x3)] ∧ Z.Warmed39 U.vm ∧ U.heap = h0) (fun _ _ _ _ _ => True) (fun _ U oc U' => ∃ v L, oc = .returned v ∧ Q7 Z o x0 x1 x2 x3 u0 u1 u2 u3 u4 m0 m1 h0 n0 v U'.heap L ∧ FrameEnd U oc U' L ({ frames := 1, cells := 0, slots := 0, locals := 13 } : Room).cells ({ frames := 1, cells := 0, slots := 0, locals := 13 } : Room).slots) := by
  refine MetFree.of_bodySF (plainFor_of_name own_pn7) hisR ?_
  intro p e s m args below meth c s₁ Bd hml0 hP hK
  obtain ⟨rfl, hZ, hh⟩ := hP
  have hx := Bd.exec
  have hby := Bd.bytes
  have hlk : meth.locks = false := BodyLoose.notSynchronized Bd
  have hml : c.maxLocals = 7 := hml0
  have hown : s.vm.findClass "com/example/infinite_tail/infinitetail/stream/PendingEntry" = some m.cls := findClass_of_methodNamed Bd.named
  have hnm := (name_of_methodNamed Bd.named Bd.method).1
  have X0 : Stand p l e ({ frames := 1, cells := 0, slots := 0, locals := 13 } : Room) s m #[(.ref o), (.ref x0), (.ref x1), (.long x2), (.long x3)] below meth c s₁ [] 0 0 := Stand.of_body Bd
  have e0 : s₁.heap = h0 := by rw [← hh, Bd.state]; rfl
  have N0 := Fr.nil n0
  refine own_enter (own_ef7 m o x0 x1 x2 x3) ?_
  show own_Go p e below s (Q7 Z o x0 x1 x2 x3 u0 u1 u2 u3 u4 m0 m1 h0 n0) ({ frames := 1, cells := 0, slots := 0, locals := 13 } : Room).cells ({ frames := 1, cells := 0, slots := 0, locals := 13 } : Room).slots s₁ (mkF m 0 #[.val (.ref o), .val (.ref x0), .val (.ref x1), .val (.long x2), .second, .val (.long x3), .second] [])
  refine own_st (T' := s₁) (F' := (mkF m 1 #[.val (.ref o), .val (.ref x0), .val (.ref x1), .val (.long x2), .second, .val (.long x3), .second] [(.ref o)])) (fun _ k => XS.aloadN X0.here hx rfl (hb hby d7_0) rfl rfl k) ?_
  obtain ⟨T1, X1, e1, st1⟩ := initO X0 hx hZ hown (hw _ (List.mem_of_getElem? (i := 44) rfl)) (hw _ (List.mem_of_getElem? (i := 8) rfl)) (hw _ (List.mem_of_getElem? (i := 9) rfl)) e0 (g := (mkF m 1 #[.val (.ref o), .val (.ref x0), .val (.ref x1), .val (.long x2), .second, .val (.long x3), .second] [(.ref o)])) rfl (by rw [hml]; rfl) rfl (hb hby d7_1) (by decide) (W := 0) (by show 2 * 0 + _ ≤ _; exact Nat.le_of_eq rfl) (by decide)
  refine own_st (T' := T1) (F' := (mkF m 4 #[.val (.ref o), .val (.ref x0), .val (.ref x1), .val (.long x2), .second, .val (.long x3), .second] [])) (fun _ k => st1 _ k) ?_
  refine own_st (T' := T1) (F' := (mkF m 5 #[.val (.ref o), .val (.ref x0), .val (.ref x1), .val (.long x2), .second, .val (.long x3), .second] [(.ref o)])) (fun _ k => XS.aloadN X1.here hx rfl (hb hby d7_4) rfl rfl k) ?_
  refine own_st (T' := T1) (F' := (mkF m 6 #[.val (.ref o), .val (.ref x0), .val (.ref x1), .val (.long x2), .second, .val (.long x3), .second] [(.ref x0), (.ref o)])) (fun _ k => XS.aloadN X1.here hx rfl (hb hby d7_5) rfl rfl k) ?_
  obtain ⟨cq2, kq2, q2a, q2b, q2c⟩ := isOf hZ e1 hE_x0
  obtain ⟨_, _, ⟨T2, L2, k2, n2⟩, -, X2, ⟨Lc2, hQ2, l2, y2, z2⟩, st2⟩ := X1.virtualBack hx (y := (⟨"com/example/infinite_tail/infinitetail/stream/StreamId", "milliseconds", "()J"⟩ : MethodName)) (z := (⟨"com/example/infinite_tail/infinitetail/stream/StreamId", "milliseconds", "()J"⟩ : MethodName)) hown (mvT hZ (hw _ (List.mem_of_getElem? (i := 45) rfl))) (mvT hZ (hw _ (List.mem_of_getElem? (i := 46) rfl))) (notFace_of_selects (args := #[]) (mvT hZ (hw _ (List.mem_of_getElem? (i := 48) rfl)))) (mvT hZ (hw _ (List.mem_of_getElem? (i := 48) rfl))) (mvT hZ (hw _ (List.mem_of_getElem? (i := 47) rfl))) (by decide) (backOf (W := 1) (rm8 l Z a0 hw [] x0 m0 h0 n0 Z0 hG0) hZ (hw _ (List.mem_of_getElem? (i := 49) rfl)) (hw _ (List.mem_of_getElem? (i := 32) rfl)) (by decide) (by decide)) q2a q2c (g := (mkF m 6 #[.val (.ref o), .val (.ref x0), .val (.ref x1), .val (.long x2), .second, .val (.long x3), .second] [(.ref x0), (.ref o)])) rfl (by rw [hml]; rfl) (Steps.refl _) (argsL := []) (rest := [(.ref o)]) (lenOf own_pd3 rfl) rfl (by show 2 * 0 + _ ≤ _; exact Nat.le_of_eq rfl) (hb hby d7_6) (fun _ _ => ⟨rfl, e1, (by decide : 0 + 0 ≤ _), (by decide : 0 + 0 ≤ _)⟩)
  dsimp only [Pt.U, Pt.locs, Pt.cells, Pt.slots] at X2 l2 y2 z2 st2 hQ2
  subst l2 y2 z2
  obtain ⟨⟨r2, rfl, hr2⟩, Nq2, eq2⟩ := hQ2
  have N2 := Fr.app N0 Nq2
  refine own_tr (T' := T2) (F' := (mkF m 9 #[.val (.ref o), .val (.ref x0), .val (.ref x1), .val (.long x2), .second, .val (.long x3), .second] [(.long r2), (.ref o)])) st2 ?_
  obtain ⟨T3, h3, X3, e3, W3, st3⟩ := putF X2 hx hZ hown (host := "") (Or.inl (hw _ (List.mem_of_getElem? (i := 50) rfl))) Via.refl eq2 hF0 hE_o (Or.inr ⟨(hw _ (List.mem_of_getElem? (i := 51) rfl)), rfl, hnm⟩) (hw _ (List.mem_of_getElem? (i := 28) rfl)) (ty := .long) (by decide) rfl rfl (g := (mkF m 9 #[.val (.ref o), .val (.ref x0), .val (.ref x1), .val (.long x2), .second, .val (.long x3), .second] [(.long r2), (.ref o)])) rfl rfl (hb hby d7_9)
  have N3 := Fr.snoc X3 N2 hge_o
  have f4 : Exa Z h3 o "com/example/infinite_tail/infinitetail/stream/PendingEntry" := hE_o.wr W3
  have f5 : Fld Z h3 o "com/example/infinite_tail/infinitetail/stream/PendingEntry" "milliseconds" "J" (.long r2) := hF0.same W3
  have f6 : Fld Z h3 o "com/example/infinite_tail/infinitetail/stream/PendingEntry" "sequence" "J" u1 := hF1.other W3 (Or.inr (slot_ne (Or.inr (hw _ (List.mem_of_getElem? (i := 58) rfl))) (Or.inr (hw _ (List.mem_of_getElem? (i := 51) rfl))) (by decide) (t := .long) (t' := .long) (by decide) (by decide)))
  have f7 : Fld Z h3 o "com/example/infinite_tail/infinitetail/stream/PendingEntry" "consumer" "Lcom/example/infinite_tail/infinitetail/stream/ByteString;" u2 := hF2.other W3 (Or.inr (slot_ne (Or.inl (hw _ (List.mem_of_getElem? (i := 60) rfl))) (Or.inr (hw _ (List.mem_of_getElem? (i := 51) rfl))) (by decide) (t := (.object "com/example/infinite_tail/infinitetail/stream/ByteString")) (t' := .long) (by decide) (by decide)))
  have f8 : Fld Z h3 o "com/example/infinite_tail/infinitetail/stream/PendingEntry" "deliveredAt" "J" u3 := hF3.other W3 (Or.inr (slot_ne (Or.inl (hw _ (List.mem_of_getElem? (i := 62) rfl))) (Or.inr (hw _ (List.mem_of_getElem? (i := 51) rfl))) (by decide) (t := .long) (t' := .long) (by decide) (by decide)))
  have f9 : Fld Z h3 o "com/example/infinite_tail/infinitetail/stream/PendingEntry" "deliveryCount" "J" u4 := hF4.other W3 (Or.inr (slot_ne (Or.inl (hw _ (List.mem_of_getElem? (i := 64) rfl))) (Or.inr (hw _ (List.mem_of_getElem? (i := 51) rfl))) (by decide) (t := .long) (t' := .long) (by decide) (by decide)))
  have f10 : Exa Z h3 x0 "com/example/infinite_tail/infinitetail/stream/StreamId" := hE_x0.wr W3
  have f11 : Fld Z h3 x0 "com/example/infinite_tail/infinitetail/stream/StreamId" "milliseconds" "J" (.long m0) := hG0.other W3 (Or.inl hne)
  have f12 : Fld Z h3 x0 "com/example/infinite_tail/infinitetail/stream/StreamId" "sequence" "J" (.long m1) := hG1.other W3 (Or.inl hne)
  have K3 : Keep h0 h3 [o] := (Keep.refl h0 [o]).wr W3 (Or.inl (List.mem_of_getElem? (i := 0) rfl))
  have Zs3 : n0 ≤ h3.size := Nat.le_trans Z0 K3.1
  refine own_st (T' := T3) (F' := (mkF m 12 #[.val (.ref o), .val (.ref x0), .val (.ref x1), .val (.long x2), .second, .val (.long x3), .second] [])) (fun _ k => st3 _ k) ?_
  refine own_st (T' := T3) (F' := (mkF m 13 #[.val (.ref o), .val (.ref x0), .val (.ref x1), .val (.long x2), .second, .val (.long x3), .second] [(.ref o)])) (fun _ k => XS.aloadN X3.here hx rfl (hb hby d7_12) rfl rfl k) ?_
  refine own_st (T' := T3) (F' := (mkF m 14 #[.val (.ref o), .val (.ref x0), .val (.ref x1), .val (.long x2), .second, .val (.long x3), .second] [(.ref x0), (.ref o)])) (fun _ k => XS.aloadN X3.here hx rfl (hb hby d7_13) rfl rfl k) ?_
  obtain ⟨cq13, kq13, q13a, q13b, q13c⟩ := isOf hZ e3 f10
  obtain ⟨_, _, ⟨T13, L13, k13, n13⟩, -, X13, ⟨Lc13, hQ13, l13, y13, z13⟩, st13⟩ := X3.virtualBack hx (y := (⟨"com/example/infinite_tail/infinitetail/stream/StreamId", "sequence", "()J"⟩ : MethodName)) (z := (⟨"com/example/infinite_tail/infinitetail/stream/StreamId", "sequence", "()J"⟩ : MethodName)) hown (mvT hZ (hw _ (List.mem_of_getElem? (i := 52) rfl))) (mvT hZ (hw _ (List.mem_of_getElem? (i := 53) rfl))) (notFace_of_selects (args := #[]) (mvT hZ (hw _ (List.mem_of_getElem? (i := 55) rfl)))) (mvT hZ (hw _ (List.mem_of_getElem? (i := 55) rfl))) (mvT hZ (hw _ (List.mem_of_getElem? (i := 54) rfl))) (by decide) (backOf (W := 1) (rm9 l Z a0 hw [] x0 m1 h3 n0 Zs3 f12) hZ (hw _ (List.mem_of_getElem? (i := 56) rfl)) (hw _ (List.mem_of_getElem? (i := 32) rfl)) (by decide) (by decide)) q13a q13c (g := (mkF m 14 #[.val (.ref o), .val (.ref x0), .val (.ref x1), .val (.long x2), .second, .val (.long x3), .second] [(.ref x0), (.ref o)])) rfl (by rw [hml]; rfl) (Steps.refl _) (argsL := []) (rest := [(.ref o)]) (lenOf own_pd3 rfl) rfl (by show 2 * 0 + _ ≤ _; exact Nat.le_of_eq rfl) (hb hby d7_14) (fun _ _ => ⟨rfl, e3, (by decide : 0 + 0 ≤ _), (by decide : 0 + 0 ≤ _)⟩)
  dsimp only [Pt.U, Pt.locs, Pt.cells, Pt.slots] at X13 l13 y13 z13 st13 hQ13
  subst l13 y13 z13
  obtain ⟨⟨r13, rfl, hr13⟩, Nq13, eq13⟩ := hQ13
  have N13 := Fr.app N3 Nq13
  refine own_tr (T' := T13) (F' := (mkF m 17 #[.val (.ref o), .val (.ref x0), .val (.ref x1), .val (.long x2), .second, .val (.long x3), .second] [(.long r13), (.ref o)])) st13 ?_
  obtain ⟨T14, h14, X14, e14, W14, st14⟩ := putF X13 hx hZ hown (host := "") (Or.inl (hw _ (List.mem_of_getElem? (i := 57) rfl))) Via.refl eq13 f6 f4 (Or.inr ⟨(hw _ (List.mem_of_getElem? (i := 58) rfl)), rfl, hnm⟩) (hw _ (List.mem_of_getElem? (i := 28) rfl)) (ty := .long) (by decide) rfl rfl (g := (mkF m 17 #[.val (.ref o), .val (.ref x0), .val (.ref x1), .val (.long x2), .second, .val (.long x3), .second] [(.long r13), (.ref o)])) rfl rfl (hb hby d7_17)
  have N14 := Fr.snoc X14 N13 hge_o
  have f15 : Exa Z h14 o "com/example/infinite_tail/infinitetail/stream/PendingEntry" := f4.wr W14
  have f16 : Fld Z h14 o "com/example/infinite_tail/infinitetail/stream/PendingEntry" "milliseconds" "J" (.long r2) := f5.other W14 (Or.inr (slot_ne (Or.inr (hw _ (List.mem_of_getElem? (i := 51) rfl))) (Or.inr (hw _ (List.mem_of_getElem? (i := 58) rfl))) (by decide) (t := .long) (t' := .long) (by decide) (by decide)))
  have f17 : Fld Z h14 o "com/example/infinite_tail/infinitetail/stream/PendingEntry" "sequence" "J" (.long r13) := f6.same W14
  have f18 : Fld Z h14 o "com/example/infinite_tail/infinitetail/stream/PendingEntry" "consumer" "Lcom/example/infinite_tail/infinitetail/stream/ByteString;" u2 := f7.other W14 (Or.inr (slot_ne (Or.inl (hw _ (List.mem_of_getElem? (i := 60) rfl))) (Or.inr (hw _ (List.mem_of_getElem? (i := 58) rfl))) (by decide) (t := (.object "com/example/infinite_tail/infinitetail/stream/ByteString")) (t' := .long) (by decide) (by decide)))
  have f19 : Fld Z h14 o "com/example/infinite_tail/infinitetail/stream/PendingEntry" "deliveredAt" "J" u3 := f8.other W14 (Or.inr (slot_ne (Or.inl (hw _ (List.mem_of_getElem? (i := 62) rfl))) (Or.inr (hw _ (List.mem_of_getElem? (i := 58) rfl))) (by decide) (t := .long) (t' := .long) (by decide) (by decide)))
  have f20 : Fld Z h14 o "com/example/infinite_tail/infinitetail/stream/PendingEntry" "deliveryCount" "J" u4 := f9.other W14 (Or.inr (slot_ne (Or.inl (hw _ (List.mem_of_getElem? (i := 64) rfl))) (Or.inr (hw _ (List.mem_of_getElem? (i := 58) rfl))) (by decide) (t := .long) (t' := .long) (by decide) (by decide)))
  have f21 : Exa Z h14 x0 "com/example/infinite_tail/infinitetail/stream/StreamId" := f10.wr W14
  have f22 : Fld Z h14 x0 "com/example/infinite_tail/infinitetail/stream/StreamId" "milliseconds" "J" (.long m0) := f11.other W14 (Or.inl hne)
  have f23 : Fld Z h14 x0 "com/example/infinite_tail/infinitetail/stream/StreamId" "sequence" "J" (.long m1) := f12.other W14 (Or.inl hne)
  have K14 : Keep h0 h14 [o] := K3.wr W14 (Or.inl (List.mem_of_getElem? (i := 0) rfl))
  have Zs14 : n0 ≤ h14.size := Nat.le_trans Z0 K14.1
  refine own_st (T' := T14) (F' := (mkF m 20 #[.val (.ref o), .val (.ref x0), .val (.ref x1), .val (.long x2), .second, .val (.long x3), .second] [])) (fun _ k => st14 _ k) ?_
  refine own_st (T' := T14) (F' := (mkF m 21 #[.val (.ref o), .val (.ref x0), .val (.ref x1), .val (.long x2), .second, .val (.long x3), .second] [(.ref o)])) (fun _ k => XS.aloadN X14.here hx rfl (hb hby d7_20) rfl rfl k) ?_
  refine own_st (T' := T14) (F' := (mkF m 22 #[.val (.ref o), .val (.ref x0), .val (.ref x1), .val (.long x2), .second, .val (.long x3), .second] [(.ref x1), (.ref o)])) (fun _ k => XS.aloadN X14.here hx rfl (hb hby d7_21) rfl rfl k) ?_
  obtain ⟨T24, h24, X24, e24, W24, st24⟩ := putF X14 hx hZ hown (host := "") (Or.inl (hw _ (List.mem_of_getElem? (i := 59) rfl))) Via.refl e14 f18 f15 (Or.inl (hw _ (List.mem_of_getElem? (i := 60) rfl))) (hw _ (List.mem_of_getElem? (i := 28) rfl)) (ty := (.object "com/example/infinite_tail/infinitetail/stream/ByteString")) (by decide) rfl rfl (g := (mkF m 22 #[.val (.ref o), .val (.ref x0), .val (.ref x1), .val (.long x2), .second, .val (.long x3), .second] [(.ref x1), (.ref o)])) rfl rfl (hb hby d7_22)
  have N24 := Fr.snoc X24 N14 hge_o
  have f25 : Exa Z h24 o "com/example/infinite_tail/infinitetail/stream/PendingEntry" := f15.wr W24
  have f26 : Fld Z h24 o "com/example/infinite_tail/infinitetail/stream/PendingEntry" "milliseconds" "J" (.long r2) := f16.other W24 (Or.inr (slot_ne (Or.inr (hw _ (List.mem_of_getElem? (i := 51) rfl))) (Or.inl (hw _ (List.mem_of_getElem? (i := 60) rfl))) (by decide) (t := .long) (t' := (.object "com/example/infinite_tail/infinitetail/stream/ByteString")) (by decide) (by decide)))
  have f27 : Fld Z h24 o "com/example/infinite_tail/infinitetail/stream/PendingEntry" "sequence" "J" (.long r13) := f17.other W24 (Or.inr (slot_ne (Or.inr (hw _ (List.mem_of_getElem? (i := 58) rfl))) (Or.inl (hw _ (List.mem_of_getElem? (i := 60) rfl))) (by decide) (t := .long) (t' := (.object "com/example/infinite_tail/infinitetail/stream/ByteString")) (by decide) (by decide)))
  have f28 : Fld Z h24 o "com/example/infinite_tail/infinitetail/stream/PendingEntry" "consumer" "Lcom/example/infinite_tail/infinitetail/stream/ByteString;" (.ref x1) := f18.same W24
  have f29 : Fld Z h24 o "com/example/infinite_tail/infinitetail/stream/PendingEntry" "deliveredAt" "J" u3 := f19.other W24 (Or.inr (slot_ne (Or.inl (hw _ (List.mem_of_getElem? (i := 62) rfl))) (Or.inl (hw _ (List.mem_of_getElem? (i := 60) rfl))) (by decide) (t := .long) (t' := (.object "com/example/infinite_tail/infinitetail/stream/ByteString")) (by decide) (by decide)))
  have f30 : Fld Z h24 o "com/example/infinite_tail/infinitetail/stream/PendingEntry" "deliveryCount" "J" u4 := f20.other W24 (Or.inr (slot_ne (Or.inl (hw _ (List.mem_of_getElem? (i := 64) rfl))) (Or.inl (hw _ (List.mem_of_getElem? (i := 60) rfl))) (by decide) (t := .long) (t' := (.object "com/example/infinite_tail/infinitetail/stream/ByteString")) (by decide) (by decide)))
  have f31 : Exa Z h24 x0 "com/example/infinite_tail/infinitetail/stream/StreamId" := f21.wr W24
  have f32 : Fld Z h24 x0 "com/example/infinite_tail/infinitetail/stream/StreamId" "milliseconds" "J" (.long m0) := f22.other W24 (Or.inl hne)
  have f33 : Fld Z h24 x0 "com/example/infinite_tail/infinitetail/stream/StreamId" "sequence" "J" (.long m1) := f23.other W24 (Or.inl hne)
  have K24 : Keep h0 h24 [o] := K14.wr W24 (Or.inl (List.mem_of_getElem? (i := 0) rfl))
  have Zs24 : n0 ≤ h24.size := Nat.le_trans Z0 K24.1
  refine own_st (T' := T24) (F' := (mkF m 25 #[.val (.ref o), .val (.ref x0), .val (.ref x1), .val (.long x2), .second, .val (.long x3), .second] [])) (fun _ k => st24 _ k) ?_
  refine own_st (T' := T24) (F' := (mkF m 26 #[.val (.ref o), .val (.ref x0), .val (.ref x1), .val (.long x2), .second, .val (.long x3), .second] [(.ref o)])) (fun _ k => XS.aloadN X24.here hx rfl (hb hby d7_25) rfl rfl k) ?_
  refine own_st (T' := T24) (F' := (mkF m 27 #[.val (.ref o), .val (.ref x0), .val (.ref x1), .val (.long x2), .second, .val (.long x3), .second] [(.long x2), (.ref o)])) (fun _ k => XS.lloadN X24.here hx rfl (hb hby d7_26) rfl  k) ?_
  obtain ⟨T34, h34, X34, e34, W34, st34⟩ := putF X24 hx hZ hown (host := "") (Or.inl (hw _ (List.mem_of_getElem? (i := 61) rfl))) Via.refl e24 f29 f25 (Or.inl (hw _ (List.mem_of_getElem? (i := 62) rfl))) (hw _ (List.mem_of_getElem? (i := 28) rfl)) (ty := .long) (by decide) rfl rfl (g := (mkF m 27 #[.val (.ref o), .val (.ref x0), .val (.ref x1), .val (.long x2), .second, .val (.long x3), .second] [(.long x2), (.ref o)])) rfl rfl (hb hby d7_27)
  have N34 := Fr.snoc X34 N24 hge_o
  have f35 : Exa Z h34 o "com/example/infinite_tail/infinitetail/stream/PendingEntry" := f25.wr W34
  have f36 : Fld Z h34 o "com/example/infinite_tail/infinitetail/stream/PendingEntry" "milliseconds" "J" (.long r2) := f26.other W34 (Or.inr (slot_ne (Or.inr (hw _ (List.mem_of_getElem? (i := 51) rfl))) (Or.inl (hw _ (List.mem_of_getElem? (i := 62) rfl))) (by decide) (t := .long) (t' := .long) (by decide) (by decide)))
  have f37 : Fld Z h34 o "com/example/infinite_tail/infinitetail/stream/PendingEntry" "sequence" "J" (.long r13) := f27.other W34 (Or.inr (slot_ne (Or.inr (hw _ (List.mem_of_getElem? (i := 58) rfl))) (Or.inl (hw _ (List.mem_of_getElem? (i := 62) rfl))) (by decide) (t := .long) (t' := .long) (by decide) (by decide)))
  have f38 : Fld Z h34 o "com/example/infinite_tail/infinitetail/stream/PendingEntry" "consumer" "Lcom/example/infinite_tail/infinitetail/stream/ByteString;" (.ref x1) := f28.other W34 (Or.inr (slot_ne (Or.inl (hw _ (List.mem_of_getElem? (i := 60) rfl))) (Or.inl (hw _ (List.mem_of_getElem? (i := 62) rfl))) (by decide) (t := (.object "com/example/infinite_tail/infinitetail/stream/ByteString")) (t' := .long) (by decide) (by decide)))
  have f39 : Fld Z h34 o "com/example/infinite_tail/infinitetail/stream/PendingEntry" "deliveredAt" "J" (.long x2) := f29.same W34
  have f40 : Fld Z h34 o "com/example/infinite_tail/infinitetail/stream/PendingEntry" "deliveryCount" "J" u4 := f30.other W34 (Or.inr (slot_ne (Or.inl (hw _ (List.mem_of_getElem? (i := 64) rfl))) (Or.inl (hw _ (List.mem_of_getElem? (i := 62) rfl))) (by decide) (t := .long) (t' := .long) (by decide) (by decide)))
  have f41 : Exa Z h34 x0 "com/example/infinite_tail/infinitetail/stream/StreamId" := f31.wr W34
  have f42 : Fld Z h34 x0 "com/example/infinite_tail/infinitetail/stream/StreamId" "milliseconds" "J" (.long m0) := f32.other W34 (Or.inl hne)
  have f43 : Fld Z h34 x0 "com/example/infinite_tail/infinitetail/stream/StreamId" "sequence" "J" (.long m1) := f33.other W34 (Or.inl hne)
  have K34 : Keep h0 h34 [o] := K24.wr W34 (Or.inl (List.mem_of_getElem? (i := 0) rfl))
  have Zs34 : n0 ≤ h34.size := Nat.le_trans Z0 K34.1
  refine own_st (T' := T34) (F' := (mkF m 30 #[.val (.ref o), .val (.ref x0), .val (.ref x1), .val (.long x2), .second, .val (.long x3), .second] [])) (fun _ k => st34 _ k) ?_
  refine own_st (T' := T34) (F' := (mkF m 31 #[.val (.ref o), .val (.ref x0), .val (.ref x1), .val (.long x2), .second, .val (.long x3), .second] [(.ref o)])) (fun _ k => XS.aloadN X34.here hx rfl (hb hby d7_30) rfl rfl k) ?_
  refine own_st (T' := T34) (F' := (mkF m 33 #[.val (.ref o), .val (.ref x0), .val (.ref x1), .val (.long x2), .second, .val (.long x3), .second] [(.long x3), (.ref o)])) (fun _ k => XS.lload X34.here hx rfl (hb hby d7_31) rfl  k) ?_
  obtain ⟨T44, h44, X44, e44, W44, st44⟩ := putF X34 hx hZ hown (host := "") (Or.inl (hw _ (List.mem_of_getElem? (i := 63) rfl))) Via.refl e34 f40 f35 (Or.inl (hw _ (List.mem_of_getElem? (i := 64) rfl))) (hw _ (List.mem_of_getElem? (i := 28) rfl)) (ty := .long) (by decide) rfl rfl (g := (mkF m 33 #[.val (.ref o), .val (.ref x0), .val (.ref x1), .val (.long x2), .second, .val (.long x3), .second] [(.long x3), (.ref o)])) rfl rfl (hb hby d7_33)
  have N44 := Fr.snoc X44 N34 hge_o
  have f45 : Exa Z h44 o "com/example/infinite_tail/infinitetail/stream/PendingEntry" := f35.wr W44
  have f46 : Fld Z h44 o "com/example/infinite_tail/infinitetail/stream/PendingEntry" "milliseconds" "J" (.long r2) := f36.other W44 (Or.inr (slot_ne (Or.inr (hw _ (List.mem_of_getElem? (i := 51) rfl))) (Or.inl (hw _ (List.mem_of_getElem? (i := 64) rfl))) (by decide) (t := .long) (t' := .long) (by decide) (by decide)))
  have f47 : Fld Z h44 o "com/example/infinite_tail/infinitetail/stream/PendingEntry" "sequence" "J" (.long r13) := f37.other W44 (Or.inr (slot_ne (Or.inr (hw _ (List.mem_of_getElem? (i := 58) rfl))) (Or.inl (hw _ (List.mem_of_getElem? (i := 64) rfl))) (by decide) (t := .long) (t' := .long) (by decide) (by decide)))
  have f48 : Fld Z h44 o "com/example/infinite_tail/infinitetail/stream/PendingEntry" "consumer" "Lcom/example/infinite_tail/infinitetail/stream/ByteString;" (.ref x1) := f38.other W44 (Or.inr (slot_ne (Or.inl (hw _ (List.mem_of_getElem? (i := 60) rfl))) (Or.inl (hw _ (List.mem_of_getElem? (i := 64) rfl))) (by decide) (t := (.object "com/example/infinite_tail/infinitetail/stream/ByteString")) (t' := .long) (by decide) (by decide)))
  have f49 : Fld Z h44 o "com/example/infinite_tail/infinitetail/stream/PendingEntry" "deliveredAt" "J" (.long x2) := f39.other W44 (Or.inr (slot_ne (Or.inl (hw _ (List.mem_of_getElem? (i := 62) rfl))) (Or.inl (hw _ (List.mem_of_getElem? (i := 64) rfl))) (by decide) (t := .long) (t' := .long) (by decide) (by decide)))
  have f50 : Fld Z h44 o "com/example/infinite_tail/infinitetail/stream/PendingEntry" "deliveryCount" "J" (.long x3) := f40.same W44
  have f51 : Exa Z h44 x0 "com/example/infinite_tail/infinitetail/stream/StreamId" := f41.wr W44
  have f52 : Fld Z h44 x0 "com/example/infinite_tail/infinitetail/stream/StreamId" "milliseconds" "J" (.long m0) := f42.other W44 (Or.inl hne)
  have f53 : Fld Z h44 x0 "com/example/infinite_tail/infinitetail/stream/StreamId" "sequence" "J" (.long m1) := f43.other W44 (Or.inl hne)
  have K44 : Keep h0 h44 [o] := K34.wr W44 (Or.inl (List.mem_of_getElem? (i := 0) rfl))
  have Zs44 : n0 ≤ h44.size := Nat.le_trans Z0 K44.1
  refine own_st (T' := T44) (F' := (mkF m 36 #[.val (.ref o), .val (.ref x0), .val (.ref x1), .val (.long x2), .second, .val (.long x3), .second] [])) (fun _ k => st44 _ k) ?_
  refine own_retV X44 hx hlk Bd.returns (hb hby d7_36) ?_ (by decide) (by decide)
  rw [e44]
  refine ⟨rfl, N44, K44, f45, f48, f49, f50⟩
theorem d10_0 : decode prog_77_method_6_code 0 = .ok (.aload_n 0, 1) := by decide +kernel
theorem d10_1 : decode prog_77_method_6_code 1 = .ok (.aload_n 1, 1) := by decide +kernel
theorem d10_2 : decode prog_77_method_6_code 2 = .ok (.putfield 23, 3) := by decide +kernel
theorem d10_5 : decode prog_77_method_6_code 5 = .ok (.aload_n 0, 1) := by decide +kernel
theorem d10_6 : decode prog_77_method_6_code 6 = .ok (.lload_n 2, 1) := by decide +kernel
theorem d10_7 : decode prog_77_method_6_code 7 = .ok (.putfield 27, 3) := by decide +kernel
theorem d10_10 : decode prog_77_method_6_code 10 = .ok (.iload 4, 2) := by decide +kernel
theorem d10_12 : decode prog_77_method_6_code 12 = .ok (.ifCond .eq 13, 3) := by decide +kernel
theorem d10_15 : decode prog_77_method_6_code 15 = .ok (.aload_n 0, 1) := by decide +kernel
theorem d10_16 : decode prog_77_method_6_code 16 = .ok (.dup, 1) := by decide +kernel
theorem d10_17 : decode prog_77_method_6_code 17 = .ok (.getfield 30, 3) := by decide +kernel
theorem d10_20 : decode prog_77_method_6_code 20 = .ok (.lconst 1, 1) := by decide +kernel
theorem d10_21 : decode prog_77_method_6_code 21 = .ok (.ladd, 1) := by decide +kernel
theorem d10_22 : decode prog_77_method_6_code 22 = .ok (.putfield 30, 3) := by decide +kernel
theorem d10_25 : decode prog_77_method_6_code 25 = .ok (.return_, 1) := by decide +kernel
theorem own_pn10 : plainName "com/example/infinite_tail/infinitetail/stream/PendingEntry" = true := by first | (simp [plainName, overriddenIn]; done) | decide +kernel
theorem own_ef10 (m : MethodId) (o : Addr) (x0 : Addr) (x1 : Int64) (x2 : Int32) : entryFrame m #[(.ref o), (.ref x0), (.long x1), (.int x2)] 5 = (mkF m 0 #[.val (.ref o), .val (.ref x0), .val (.long x1), .second, .val (.int x2)] []) := by first | (simp [entryFrame, mkF, argsToLocals, Value.category]; done) | rfl
def Q10 (Z : State) (o : Addr) (x0 : Addr) (x1 : Int64) (x2 : Int32) (u0 : Value) (u1 : Value) (u2 : Int64) (h0 : Heap) (n0 : Nat) (v : Option Value) (h : Heap) (L : List Loc) : Prop := v = none ∧ Fr n0 L ∧ Keep h0 h [o] ∧ Exa Z h o "com/example/infinite_tail/infinitetail/stream/PendingEntry" ∧ Fld Z h o "com/example/infinite_tail/infinitetail/stream/PendingEntry" "consumer" "Lcom/example/infinite_tail/infinitetail/stream/ByteString;" (.ref x0) ∧ Fld Z h o "com/example/infinite_tail/infinitetail/stream/PendingEntry" "deliveredAt" "J" (.long x1) ∧ (∃ c : Int64, Fld Z h o "com/example/infinite_tail/infinitetail/stream/PendingEntry" "deliveryCount" "J" (.long c) ∧ ((x2 = 0 ∧ c = u2) ∨ (¬ x2 = 0 ∧ c = u2 + 1)))
set_option maxRecDepth 65536 in
set_option maxHeartbeats 40000000 in
theorem rm10 (l : Launch) (Z : State) (a0 : Array Value) (hw : ∀ d ∈ tables_1, d.before a0 Z = true) (ws : List Jvm.Cond) (o : Addr) (x0 : Addr) (x1 : Int64) (x2 : Int32) (u0 : Value) (u1 : Value) (u2 : Int64) (h0 : Heap) (n0 : Nat) (Z0 : n0 ≤ h0.size) (hge_o : n0 ≤ o) (hE_o : Exa Z h0 o "com/example/infinite_tail/infinitetail/stream/PendingEntry") (hF0 : Fld Z h0 o "com/example/infinite_tail/infinitetail/stream/PendingEntry" "consumer" "Lcom/example/infinite_tail/infinitetail/stream/ByteString;" u0) (hF1 : Fld Z h0 o "com/example/infinite_tail/infinitetail/stream/PendingEntry" "deliveredAt" "J" u1) (hF2 : Fld Z h0 o "com/example/infinite_tail/infinitetail/stream/PendingEntry" "deliveryCount" "J" (.long u2)) :
    MetFree l (⟨"com/example/infinite_tail/infinitetail/stream/PendingEntry", "delivered", "(Lcom/example/infinite_tail/infinitetail/stream/ByteString;JZ)V"⟩ : MethodName) (head1 (Jvm.Cond.code (⟨"com/example/infinite_tail/infinitetail/stream/PendingEntry", "delivered", "(Lcom/example/infinite_tail/infinitetail/stream/ByteString;JZ)V"⟩ : MethodName) prog_77_method_6_code 5 none :: ws) ({ frames := 0, cells := 0, slots := 0, locals := 0 } : Room)) (fun a U => a = #[(.ref o), (.ref x0), (.long x1), (.int x2)] ∧ Z.Warmed39 U.vm ∧ U.heap = h0) (fun _ _ _ _ _ => True) (fun _ U oc U' => ∃ v L, oc = .returned v ∧ Q10 Z o x0 x1 x2 u0 u1 u2 h0 n0 v U'.heap L ∧ FrameEnd U oc U' L ({ frames := 0, cells := 0, slots := 0, locals := 0 } : Room).cells ({ frames := 0, cells := 0, slots := 0, locals := 0 } : Room).slots) := by
  refine MetFree.of_bodySF (plainFor_of_name own_pn10) hisR ?_
  intro p e s m args below meth c s₁ Bd hml0 hP hK
  obtain ⟨rfl, hZ, hh⟩ := hP
  have hx := Bd.exec
  have hby := Bd.bytes
  have hlk : meth.locks = false := BodyLoose.notSynchronized Bd
  have hml : c.maxLocals = 5 := hml0
  have hown : s.vm.findClass "com/example/infinite_tail/infinitetail/stream/PendingEntry" = some m.cls := findClass_of_methodNamed Bd.named
  have hnm := (name_of_methodNamed Bd.named Bd.method).1
  have X0 : Stand p l e ({ frames := 0, cells := 0, slots := 0, locals := 0 } : Room) s m #[(.ref o), (.ref x0), (.long x1), (.int x2)] below meth c s₁ [] 0 0 := Stand.of_body Bd
  have e0 : s₁.heap = h0 := by rw [← hh, Bd.state]; rfl
  have N0 := Fr.nil n0
  refine own_enter (own_ef10 m o x0 x1 x2) ?_
  show own_Go p e below s (Q10 Z o x0 x1 x2 u0 u1 u2 h0 n0) ({ frames := 0, cells := 0, slots := 0, locals := 0 } : Room).cells ({ frames := 0, cells := 0, slots := 0, locals := 0 } : Room).slots s₁ (mkF m 0 #[.val (.ref o), .val (.ref x0), .val (.long x1), .second, .val (.int x2)] [])
  refine own_st (T' := s₁) (F' := (mkF m 1 #[.val (.ref o), .val (.ref x0), .val (.long x1), .second, .val (.int x2)] [(.ref o)])) (fun _ k => XS.aloadN X0.here hx rfl (hb hby d10_0) rfl rfl k) ?_
  refine own_st (T' := s₁) (F' := (mkF m 2 #[.val (.ref o), .val (.ref x0), .val (.long x1), .second, .val (.int x2)] [(.ref x0), (.ref o)])) (fun _ k => XS.aloadN X0.here hx rfl (hb hby d10_1) rfl rfl k) ?_
  obtain ⟨T1, h1, X1, e1, W1, st1⟩ := putF X0 hx hZ hown (host := "") (Or.inl (hw _ (List.mem_of_getElem? (i := 59) rfl))) Via.refl e0 hF0 hE_o (Or.inl (hw _ (List.mem_of_getElem? (i := 60) rfl))) (hw _ (List.mem_of_getElem? (i := 28) rfl)) (ty := (.object "com/example/infinite_tail/infinitetail/stream/ByteString")) (by decide) rfl rfl (g := (mkF m 2 #[.val (.ref o), .val (.ref x0), .val (.long x1), .second, .val (.int x2)] [(.ref x0), (.ref o)])) rfl rfl (hb hby d10_2)
  have N1 := Fr.snoc X1 N0 hge_o
  have f2 : Exa Z h1 o "com/example/infinite_tail/infinitetail/stream/PendingEntry" := hE_o.wr W1
  have f3 : Fld Z h1 o "com/example/infinite_tail/infinitetail/stream/PendingEntry" "consumer" "Lcom/example/infinite_tail/infinitetail/stream/ByteString;" (.ref x0) := hF0.same W1
  have f4 : Fld Z h1 o "com/example/infinite_tail/infinitetail/stream/PendingEntry" "deliveredAt" "J" u1 := hF1.other W1 (Or.inr (slot_ne (Or.inl (hw _ (List.mem_of_getElem? (i := 62) rfl))) (Or.inl (hw _ (List.mem_of_getElem? (i := 60) rfl))) (by decide) (t := .long) (t' := (.object "com/example/infinite_tail/infinitetail/stream/ByteString")) (by decide) (by decide)))
  have f5 : Fld Z h1 o "com/example/infinite_tail/infinitetail/stream/PendingEntry" "deliveryCount" "J" (.long u2) := hF2.other W1 (Or.inr (slot_ne (Or.inl (hw _ (List.mem_of_getElem? (i := 64) rfl))) (Or.inl (hw _ (List.mem_of_getElem? (i := 60) rfl))) (by decide) (t := .long) (t' := (.object "com/example/infinite_tail/infinitetail/stream/ByteString")) (by decide) (by decide)))
  have K1 : Keep h0 h1 [o] := (Keep.refl h0 [o]).wr W1 (Or.inl (List.mem_of_getElem? (i := 0) rfl))
  have Zs1 : n0 ≤ h1.size := Nat.le_trans Z0 K1.1
  refine own_st (T' := T1) (F' := (mkF m 5 #[.val (.ref o), .val (.ref x0), .val (.long x1), .second, .val (.int x2)] [])) (fun _ k => st1 _ k) ?_
  refine own_st (T' := T1) (F' := (mkF m 6 #[.val (.ref o), .val (.ref x0), .val (.long x1), .second, .val (.int x2)] [(.ref o)])) (fun _ k => XS.aloadN X1.here hx rfl (hb hby d10_5) rfl rfl k) ?_
  refine own_st (T' := T1) (F' := (mkF m 7 #[.val (.ref o), .val (.ref x0), .val (.long x1), .second, .val (.int x2)] [(.long x1), (.ref o)])) (fun _ k => XS.lloadN X1.here hx rfl (hb hby d10_6) rfl  k) ?_
  obtain ⟨T6, h6, X6, e6, W6, st6⟩ := putF X1 hx hZ hown (host := "") (Or.inl (hw _ (List.mem_of_getElem? (i := 61) rfl))) Via.refl e1 f4 f2 (Or.inl (hw _ (List.mem_of_getElem? (i := 62) rfl))) (hw _ (List.mem_of_getElem? (i := 28) rfl)) (ty := .long) (by decide) rfl rfl (g := (mkF m 7 #[.val (.ref o), .val (.ref x0), .val (.long x1), .second, .val (.int x2)] [(.long x1), (.ref o)])) rfl rfl (hb hby d10_7)
  have N6 := Fr.snoc X6 N1 hge_o
  have f7 : Exa Z h6 o "com/example/infinite_tail/infinitetail/stream/PendingEntry" := f2.wr W6
  have f8 : Fld Z h6 o "com/example/infinite_tail/infinitetail/stream/PendingEntry" "consumer" "Lcom/example/infinite_tail/infinitetail/stream/ByteString;" (.ref x0) := f3.other W6 (Or.inr (slot_ne (Or.inl (hw _ (List.mem_of_getElem? (i := 60) rfl))) (Or.inl (hw _ (List.mem_of_getElem? (i := 62) rfl))) (by decide) (t := (.object "com/example/infinite_tail/infinitetail/stream/ByteString")) (t' := .long) (by decide) (by decide)))
  have f9 : Fld Z h6 o "com/example/infinite_tail/infinitetail/stream/PendingEntry" "deliveredAt" "J" (.long x1) := f4.same W6
  have f10 : Fld Z h6 o "com/example/infinite_tail/infinitetail/stream/PendingEntry" "deliveryCount" "J" (.long u2) := f5.other W6 (Or.inr (slot_ne (Or.inl (hw _ (List.mem_of_getElem? (i := 64) rfl))) (Or.inl (hw _ (List.mem_of_getElem? (i := 62) rfl))) (by decide) (t := .long) (t' := .long) (by decide) (by decide)))
  have K6 : Keep h0 h6 [o] := K1.wr W6 (Or.inl (List.mem_of_getElem? (i := 0) rfl))
  have Zs6 : n0 ≤ h6.size := Nat.le_trans Z0 K6.1
  refine own_st (T' := T6) (F' := (mkF m 10 #[.val (.ref o), .val (.ref x0), .val (.long x1), .second, .val (.int x2)] [])) (fun _ k => st6 _ k) ?_
  refine own_st (T' := T6) (F' := (mkF m 12 #[.val (.ref o), .val (.ref x0), .val (.long x1), .second, .val (.int x2)] [(.int x2)])) (fun _ k => XS.iload X6.here hx rfl (hb hby d10_10) rfl  k) ?_
  refine own_ifc X6 hx (pc' := 25) (pc2 := 15) (hb hby d10_12) (by decide) (by decide) rfl (fun (hc12 : x2 = (0 : Int32)) => ?_) (fun (hc12 : ¬ (x2 = (0 : Int32))) => ?_)
  ·
    refine own_retV X6 hx hlk Bd.returns (hb hby d10_25) ?_ (by decide) (by decide)
    rw [e6]
    refine ⟨rfl, N6, K6, f7, f8, f9, ?_⟩
    exact ⟨_, f10, Or.inl ⟨hc12, rfl⟩⟩
  ·
    refine own_st (T' := T6) (F' := (mkF m 16 #[.val (.ref o), .val (.ref x0), .val (.long x1), .second, .val (.int x2)] [(.ref o)])) (fun _ k => XS.aloadN X6.here hx rfl (hb hby d10_15) rfl rfl k) ?_
    refine own_st (T' := T6) (F' := (mkF m 17 #[.val (.ref o), .val (.ref x0), .val (.long x1), .second, .val (.int x2)] [(.ref o), (.ref o)])) (fun _ k => XS.dup X6.here hx rfl (hb hby d10_16) rfl rfl k) ?_
    obtain ⟨T11, X11, e11, st11⟩ := getF X6 hx hZ hown (host := "") (Or.inl (hw _ (List.mem_of_getElem? (i := 63) rfl))) Via.refl e6 f10 (g := (mkF m 17 #[.val (.ref o), .val (.ref x0), .val (.long x1), .second, .val (.int x2)] [(.ref o), (.ref o)])) rfl rfl (hb hby d10_17)
    refine own_st (T' := T11) (F' := (mkF m 20 #[.val (.ref o), .val (.ref x0), .val (.long x1), .second, .val (.int x2)] [(.long u2), (.ref o)])) (fun _ k => st11 _ k) ?_
    refine own_st (T' := T11) (F' := (mkF m 21 #[.val (.ref o), .val (.ref x0), .val (.long x1), .second, .val (.int x2)] [(.long (1 : Int64)), (.long u2), (.ref o)])) (fun _ k => XS.lconst X11.here hx rfl (hb hby d10_20) k) ?_
    refine own_st (T' := T11) (F' := (mkF m 22 #[.val (.ref o), .val (.ref x0), .val (.long x1), .second, .val (.int x2)] [(.long (u2 + (1 : Int64))), (.ref o)])) (fun _ k => XS.ladd X11.here hx rfl (hb hby d10_21) rfl k) ?_
    obtain ⟨T12, h12, X12, e12, W12, st12⟩ := putF X11 hx hZ hown (host := "") (Or.inl (hw _ (List.mem_of_getElem? (i := 63) rfl))) Via.refl e11 f10 f7 (Or.inl (hw _ (List.mem_of_getElem? (i := 64) rfl))) (hw _ (List.mem_of_getElem? (i := 28) rfl)) (ty := .long) (by decide) rfl rfl (g := (mkF m 22 #[.val (.ref o), .val (.ref x0), .val (.long x1), .second, .val (.int x2)] [(.long (u2 + (1 : Int64))), (.ref o)])) rfl rfl (hb hby d10_22)
    have N12 := Fr.snoc X12 N6 hge_o
    have f13 : Exa Z h12 o "com/example/infinite_tail/infinitetail/stream/PendingEntry" := f7.wr W12
    have f14 : Fld Z h12 o "com/example/infinite_tail/infinitetail/stream/PendingEntry" "consumer" "Lcom/example/infinite_tail/infinitetail/stream/ByteString;" (.ref x0) := f8.other W12 (Or.inr (slot_ne (Or.inl (hw _ (List.mem_of_getElem? (i := 60) rfl))) (Or.inl (hw _ (List.mem_of_getElem? (i := 64) rfl))) (by decide) (t := (.object "com/example/infinite_tail/infinitetail/stream/ByteString")) (t' := .long) (by decide) (by decide)))
    have f15 : Fld Z h12 o "com/example/infinite_tail/infinitetail/stream/PendingEntry" "deliveredAt" "J" (.long x1) := f9.other W12 (Or.inr (slot_ne (Or.inl (hw _ (List.mem_of_getElem? (i := 62) rfl))) (Or.inl (hw _ (List.mem_of_getElem? (i := 64) rfl))) (by decide) (t := .long) (t' := .long) (by decide) (by decide)))
    have f16 : Fld Z h12 o "com/example/infinite_tail/infinitetail/stream/PendingEntry" "deliveryCount" "J" (.long (u2 + (1 : Int64))) := f10.same W12
    have K12 : Keep h0 h12 [o] := K6.wr W12 (Or.inl (List.mem_of_getElem? (i := 0) rfl))
    have Zs12 : n0 ≤ h12.size := Nat.le_trans Z0 K12.1
    refine own_st (T' := T12) (F' := (mkF m 25 #[.val (.ref o), .val (.ref x0), .val (.long x1), .second, .val (.int x2)] [])) (fun _ k => st12 _ k) ?_
    refine own_retV X12 hx hlk Bd.returns (hb hby d10_25) ?_ (by decide) (by decide)
    rw [e12]
    refine ⟨rfl, N12, K12, f13, f14, f15, ?_⟩
    exact ⟨_, f16, Or.inr ⟨hc12, rfl⟩⟩
theorem d11_0 : decode prog_77_method_3_code 0 = .ok (.aload_n 0, 1) := by decide +kernel
theorem d11_1 : decode prog_77_method_3_code 1 = .ok (.getfield 23, 3) := by decide +kernel
theorem d11_4 : decode prog_77_method_3_code 4 = .ok (.areturn, 1) := by decide +kernel
theorem own_pn11 : plainName "com/example/infinite_tail/infinitetail/stream/PendingEntry" = true := by first | (simp [plainName, overriddenIn]; done) | decide +kernel
theorem own_ef11 (m : MethodId) (o : Addr) : entryFrame m #[(.ref o)] 1 = (mkF m 0 #[.val (.ref o)] []) := by first | (simp [entryFrame, mkF, argsToLocals, Value.category]; done) | rfl
def Q11 (Z : State) (o : Addr) (mm : Addr) (h0 : Heap) (n0 : Nat) (v : Option Value) (h : Heap) (L : List Loc) : Prop := (∃ z : Addr, v = some (.ref z) ∧ (z = mm)) ∧ Fr n0 L ∧ h = h0
set_option maxRecDepth 65536 in
set_option maxHeartbeats 40000000 in
theorem rm11 (l : Launch) (Z : State) (a0 : Array Value) (hw : ∀ d ∈ tables_1, d.before a0 Z = true) (ws : List Jvm.Cond) (o : Addr) (mm : Addr) (h0 : Heap) (n0 : Nat) (Z0 : n0 ≤ h0.size) (hF : Fld Z h0 o "com/example/infinite_tail/infinitetail/stream/PendingEntry" "consumer" "Lcom/example/infinite_tail/infinitetail/stream/ByteString;" (.ref mm)) :
    MetFree l (⟨"com/example/infinite_tail/infinitetail/stream/PendingEntry", "consumer", "()Lcom/example/infinite_tail/infinitetail/stream/ByteString;"⟩ : MethodName) (head1 (Jvm.Cond.code (⟨"com/example/infinite_tail/infinitetail/stream/PendingEntry", "consumer", "()Lcom/example/infinite_tail/infinitetail/stream/ByteString;"⟩ : MethodName) prog_77_method_3_code 1 (some (.object "com/example/infinite_tail/infinitetail/stream/ByteString")) :: ws) ({ frames := 0, cells := 0, slots := 0, locals := 0 } : Room)) (fun a U => a = #[(.ref o)] ∧ Z.Warmed39 U.vm ∧ U.heap = h0) (fun _ _ _ _ _ => True) (fun _ U oc U' => ∃ v L, oc = .returned v ∧ Q11 Z o mm h0 n0 v U'.heap L ∧ FrameEnd U oc U' L ({ frames := 0, cells := 0, slots := 0, locals := 0 } : Room).cells ({ frames := 0, cells := 0, slots := 0, locals := 0 } : Room).slots) := by
  refine MetFree.of_bodySF (plainFor_of_name own_pn11) hisR ?_
  intro p e s m args below meth c s₁ Bd hml0 hP hK
  obtain ⟨rfl, hZ, hh⟩ := hP
  have hx := Bd.exec
  have hby := Bd.bytes
  have hlk : meth.locks = false := BodyLoose.notSynchronized Bd
  have hml : c.maxLocals = 1 := hml0
  have hown : s.vm.findClass "com/example/infinite_tail/infinitetail/stream/PendingEntry" = some m.cls := findClass_of_methodNamed Bd.named
  have hnm := (name_of_methodNamed Bd.named Bd.method).1
  have X0 : Stand p l e ({ frames := 0, cells := 0, slots := 0, locals := 0 } : Room) s m #[(.ref o)] below meth c s₁ [] 0 0 := Stand.of_body Bd
  have e0 : s₁.heap = h0 := by rw [← hh, Bd.state]; rfl
  have N0 := Fr.nil n0
  refine own_enter (own_ef11 m o) ?_
  show own_Go p e below s (Q11 Z o mm h0 n0) ({ frames := 0, cells := 0, slots := 0, locals := 0 } : Room).cells ({ frames := 0, cells := 0, slots := 0, locals := 0 } : Room).slots s₁ (mkF m 0 #[.val (.ref o)] [])
  refine own_st (T' := s₁) (F' := (mkF m 1 #[.val (.ref o)] [(.ref o)])) (fun _ k => XS.aloadN X0.here hx rfl (hb hby d11_0) rfl rfl k) ?_
  obtain ⟨T1, X1, e1, st1⟩ := getF X0 hx hZ hown (host := "") (Or.inl (hw _ (List.mem_of_getElem? (i := 59) rfl))) Via.refl e0 hF (g := (mkF m 1 #[.val (.ref o)] [(.ref o)])) rfl rfl (hb hby d11_1)
  refine own_st (T' := T1) (F' := (mkF m 4 #[.val (.ref o)] [(.ref mm)])) (fun _ k => st1 _ k) ?_
  refine own_retA X1 hx hlk (t := (.object "com/example/infinite_tail/infinitetail/stream/ByteString")) Bd.returns rfl rfl rfl (hb hby d11_4) ?_ (by decide) (by decide)
  rw [e1]
  refine ⟨⟨_, rfl, ?_⟩, N0, rfl⟩
  rfl
theorem d12_0 : decode prog_77_method_5_code 0 = .ok (.aload_n 0, 1) := by decide +kernel
theorem d12_1 : decode prog_77_method_5_code 1 = .ok (.getfield 30, 3) := by decide +kernel
theorem d12_4 : decode prog_77_method_5_code 4 = .ok (.lreturn, 1) := by decide +kernel
theorem own_pn12 : plainName "com/example/infinite_tail/infinitetail/stream/PendingEntry" = true := by first | (simp [plainName, overriddenIn]; done) | decide +kernel
theorem own_ef12 (m : MethodId) (o : Addr) : entryFrame m #[(.ref o)] 1 = (mkF m 0 #[.val (.ref o)] []) := by first | (simp [entryFrame, mkF, argsToLocals, Value.category]; done) | rfl
def Q12 (Z : State) (o : Addr) (mm : Int64) (h0 : Heap) (n0 : Nat) (v : Option Value) (h : Heap) (L : List Loc) : Prop := (∃ z : Int64, v = some (.long z) ∧ (z = mm)) ∧ Fr n0 L ∧ h = h0
set_option maxRecDepth 65536 in
set_option maxHeartbeats 40000000 in
theorem rm12 (l : Launch) (Z : State) (a0 : Array Value) (hw : ∀ d ∈ tables_1, d.before a0 Z = true) (ws : List Jvm.Cond) (o : Addr) (mm : Int64) (h0 : Heap) (n0 : Nat) (Z0 : n0 ≤ h0.size) (hF : Fld Z h0 o "com/example/infinite_tail/infinitetail/stream/PendingEntry" "deliveryCount" "J" (.long mm)) :
    MetFree l (⟨"com/example/infinite_tail/infinitetail/stream/PendingEntry", "deliveryCount", "()J"⟩ : MethodName) (head1 (Jvm.Cond.code (⟨"com/example/infinite_tail/infinitetail/stream/PendingEntry", "deliveryCount", "()J"⟩ : MethodName) prog_77_method_5_code 1 (some .long) :: ws) ({ frames := 0, cells := 0, slots := 0, locals := 0 } : Room)) (fun a U => a = #[(.ref o)] ∧ Z.Warmed39 U.vm ∧ U.heap = h0) (fun _ _ _ _ _ => True) (fun _ U oc U' => ∃ v L, oc = .returned v ∧ Q12 Z o mm h0 n0 v U'.heap L ∧ FrameEnd U oc U' L ({ frames := 0, cells := 0, slots := 0, locals := 0 } : Room).cells ({ frames := 0, cells := 0, slots := 0, locals := 0 } : Room).slots) := by
  refine MetFree.of_bodySF (plainFor_of_name own_pn12) hisR ?_
  intro p e s m args below meth c s₁ Bd hml0 hP hK
  obtain ⟨rfl, hZ, hh⟩ := hP
  have hx := Bd.exec
  have hby := Bd.bytes
  have hlk : meth.locks = false := BodyLoose.notSynchronized Bd
  have hml : c.maxLocals = 1 := hml0
  have hown : s.vm.findClass "com/example/infinite_tail/infinitetail/stream/PendingEntry" = some m.cls := findClass_of_methodNamed Bd.named
  have hnm := (name_of_methodNamed Bd.named Bd.method).1
  have X0 : Stand p l e ({ frames := 0, cells := 0, slots := 0, locals := 0 } : Room) s m #[(.ref o)] below meth c s₁ [] 0 0 := Stand.of_body Bd
  have e0 : s₁.heap = h0 := by rw [← hh, Bd.state]; rfl
  have N0 := Fr.nil n0
  refine own_enter (own_ef12 m o) ?_
  show own_Go p e below s (Q12 Z o mm h0 n0) ({ frames := 0, cells := 0, slots := 0, locals := 0 } : Room).cells ({ frames := 0, cells := 0, slots := 0, locals := 0 } : Room).slots s₁ (mkF m 0 #[.val (.ref o)] [])
  refine own_st (T' := s₁) (F' := (mkF m 1 #[.val (.ref o)] [(.ref o)])) (fun _ k => XS.aloadN X0.here hx rfl (hb hby d12_0) rfl rfl k) ?_
  obtain ⟨T1, X1, e1, st1⟩ := getF X0 hx hZ hown (host := "") (Or.inl (hw _ (List.mem_of_getElem? (i := 63) rfl))) Via.refl e0 hF (g := (mkF m 1 #[.val (.ref o)] [(.ref o)])) rfl rfl (hb hby d12_1)
  refine own_st (T' := T1) (F' := (mkF m 4 #[.val (.ref o)] [(.long mm)])) (fun _ k => st1 _ k) ?_
  refine own_retJ X1 hx hlk Bd.returns (hb hby d12_4) ?_ (by decide) (by decide)
  rw [e1]
  refine ⟨⟨_, rfl, ?_⟩, N0, rfl⟩
  rfl
theorem d15_0 : decode jdk_29_method_66_code 0 = .ok (.lload_n 0, 1) := by decide +kernel
theorem d15_1 : decode jdk_29_method_66_code 1 = .ok (.lload_n 2, 1) := by decide +kernel
theorem d15_2 : decode jdk_29_method_66_code 2 = .ok (.lcmp, 1) := by decide +kernel
theorem d15_3 : decode jdk_29_method_66_code 3 = .ok (.ifCond .lt 7, 3) := by decide +kernel
theorem d15_6 : decode jdk_29_method_66_code 6 = .ok (.lload_n 0, 1) := by decide +kernel
theorem d15_7 : decode jdk_29_method_66_code 7 = .ok (.goto 4, 3) := by decide +kernel
theorem d15_10 : decode jdk_29_method_66_code 10 = .ok (.lload_n 2, 1) := by decide +kernel
theorem d15_11 : decode jdk_29_method_66_code 11 = .ok (.lreturn, 1) := by decide +kernel
theorem own_pf15 : plainFor (⟨"java/lang/Math", "max", "(JJ)J"⟩ : MethodName) = true := by decide +kernel
theorem own_ef15 (m : MethodId) (x0 : Int64) (x1 : Int64) : entryFrame m #[(.long x0), (.long x1)] 4 = (mkF m 0 #[.val (.long x0), .second, .val (.long x1), .second] []) := by first | (simp [entryFrame, mkF, argsToLocals, Value.category]; done) | rfl
def Q15 (Z : State) (x0 : Int64) (x1 : Int64)  (h0 : Heap) (n0 : Nat) (v : Option Value) (h : Heap) (L : List Loc) : Prop := (∃ z : Int64, v = some (.long z) ∧ ((x0 < x1 ∧ z = x1) ∨ (¬ x0 < x1 ∧ z = x0))) ∧ Fr n0 L ∧ h = h0
set_option maxRecDepth 65536 in
set_option maxHeartbeats 40000000 in
theorem rm15 (l : Launch) (Z : State) (a0 : Array Value) (hw : ∀ d ∈ tables_1, d.before a0 Z = true) (ws : List Jvm.Cond) (x0 : Int64) (x1 : Int64)  (h0 : Heap) (n0 : Nat) (Z0 : n0 ≤ h0.size)  :
    MetFree l (⟨"java/lang/Math", "max", "(JJ)J"⟩ : MethodName) (head1 (Jvm.Cond.code (⟨"java/lang/Math", "max", "(JJ)J"⟩ : MethodName) jdk_29_method_66_code 4 (some .long) :: ws) ({ frames := 0, cells := 0, slots := 0, locals := 0 } : Room)) (fun a U => a = #[(.long x0), (.long x1)] ∧ Z.Warmed39 U.vm ∧ U.heap = h0) (fun _ _ _ _ _ => True) (fun _ U oc U' => ∃ v L, oc = .returned v ∧ Q15 Z x0 x1  h0 n0 v U'.heap L ∧ FrameEnd U oc U' L ({ frames := 0, cells := 0, slots := 0, locals := 0 } : Room).cells ({ frames := 0, cells := 0, slots := 0, locals := 0 } : Room).slots) := by
  refine MetFree.of_bodySF own_pf15 hisR ?_
  intro p e s m args below meth c s₁ Bd hml0 hP hK
  obtain ⟨rfl, hZ, hh⟩ := hP
  have hx := Bd.exec
  have hby := Bd.bytes
  have hlk : meth.locks = false := BodyLoose.notSynchronized Bd
  have hml : c.maxLocals = 4 := hml0
  have hown : s.vm.findClass "java/lang/Math" = some m.cls := findClass_of_methodNamed Bd.named
  have hnm := (name_of_methodNamed Bd.named Bd.method).1
  have X0 : Stand p l e ({ frames := 0, cells := 0, slots := 0, locals := 0 } : Room) s m #[(.long x0), (.long x1)] below meth c s₁ [] 0 0 := Stand.of_body Bd
  have e0 : s₁.heap = h0 := by rw [← hh, Bd.state]; rfl
  have N0 := Fr.nil n0
  refine own_enter (own_ef15 m x0 x1) ?_
  show own_Go p e below s (Q15 Z x0 x1  h0 n0) ({ frames := 0, cells := 0, slots := 0, locals := 0 } : Room).cells ({ frames := 0, cells := 0, slots := 0, locals := 0 } : Room).slots s₁ (mkF m 0 #[.val (.long x0), .second, .val (.long x1), .second] [])
  refine own_st (T' := s₁) (F' := (mkF m 1 #[.val (.long x0), .second, .val (.long x1), .second] [(.long x0)])) (fun _ k => XS.lloadN X0.here hx rfl (hb hby d15_0) rfl  k) ?_
  refine own_st (T' := s₁) (F' := (mkF m 2 #[.val (.long x0), .second, .val (.long x1), .second] [(.long x1), (.long x0)])) (fun _ k => XS.lloadN X0.here hx rfl (hb hby d15_1) rfl  k) ?_
  refine own_st (T' := s₁) (F' := (mkF m 3 #[.val (.long x0), .second, .val (.long x1), .second] [(.int (lcmpW x0 x1))])) (fun _ k => XS.lcmp X0.here hx rfl (hb hby d15_2) rfl k) ?_
  have J11_1 : ∀ (j11_1 : Int64), (((x0 < x1) ∧ j11_1 = x1) ∨ ((¬ (x0 < x1)) ∧ j11_1 = x0)) → own_Go p e below s (Q15 Z x0 x1  h0 n0) ({ frames := 0, cells := 0, slots := 0, locals := 0 } : Room).cells ({ frames := 0, cells := 0, slots := 0, locals := 0 } : Room).slots s₁ (mkF m 11 #[.val (.long x0), .second, .val (.long x1), .second] [(.long j11_1)]) := by
    intro j11_1 hJ11_1
    refine own_retJ X0 hx hlk Bd.returns (hb hby d15_11) ?_ (by decide) (by decide)
    rw [e0]
    refine ⟨⟨_, rfl, ?_⟩, N0, rfl⟩
    exact hJ11_1
  refine own_iflc X0 hx (pc' := 10) (pc2 := 6) (hb hby d15_3) (by decide) (by decide) rfl (fun (hc3 : x0 < x1) => ?_) (fun (hc3 : ¬ (x0 < x1)) => ?_)
  ·
    refine own_st (T' := s₁) (F' := (mkF m 11 #[.val (.long x0), .second, .val (.long x1), .second] [(.long x1)])) (fun _ k => XS.lloadN X0.here hx rfl (hb hby d15_10) rfl  k) ?_
    exact J11_1 x1 (Or.inl (⟨hc3, rfl⟩))
  ·
    refine own_st (T' := s₁) (F' := (mkF m 7 #[.val (.long x0), .second, .val (.long x1), .second] [(.long x0)])) (fun _ k => XS.lloadN X0.here hx rfl (hb hby d15_6) rfl  k) ?_
    refine own_st (T' := s₁) (F' := (mkF m 11 #[.val (.long x0), .second, .val (.long x1), .second] [(.long x0)])) (fun _ k => XS.goto X0.here hx rfl (pc0 := 7) (pc' := 11) rfl (hb hby d15_7) (by decide) (by decide) k) ?_
    exact J11_1 x0 (Or.inr (⟨hc3, rfl⟩))
theorem own_pd4 : parseMethodDescriptor "(JJ)J" = some ⟨[.long, .long], some .long⟩ := by decide +kernel
theorem d14_0 : decode prog_72_method_30_code 0 = .ok (.lconst 0, 1) := by decide +kernel
theorem d14_1 : decode prog_72_method_30_code 1 = .ok (.lload_n 2, 1) := by decide +kernel
theorem d14_2 : decode prog_72_method_30_code 2 = .ok (.lload_n 0, 1) := by decide +kernel
theorem d14_3 : decode prog_72_method_30_code 3 = .ok (.lsub, 1) := by decide +kernel
theorem d14_4 : decode prog_72_method_30_code 4 = .ok (.invokestatic 313, 3) := by decide +kernel
theorem d14_7 : decode prog_72_method_30_code 7 = .ok (.lreturn, 1) := by decide +kernel
theorem own_pn14 : plainName "com/example/infinite_tail/infinitetail/stream/ConsumerGroup" = true := by first | (simp [plainName, overriddenIn]; done) | decide +kernel
theorem own_ef14 (m : MethodId) (x0 : Int64) (x1 : Int64) : entryFrame m #[(.long x0), (.long x1)] 4 = (mkF m 0 #[.val (.long x0), .second, .val (.long x1), .second] []) := by first | (simp [entryFrame, mkF, argsToLocals, Value.category]; done) | rfl
def Q14 (Z : State) (x0 : Int64) (x1 : Int64)  (h0 : Heap) (n0 : Nat) (v : Option Value) (h : Heap) (L : List Loc) : Prop := (∃ z : Int64, v = some (.long z) ∧ ((0 < x1 - x0 ∧ z = x1 - x0) ∨ (¬ 0 < x1 - x0 ∧ z = 0))) ∧ Fr n0 L ∧ h = h0
set_option maxRecDepth 65536 in
set_option maxHeartbeats 40000000 in
theorem rm14 (l : Launch) (Z : State) (a0 : Array Value) (hw : ∀ d ∈ tables_1, d.before a0 Z = true) (ws : List Jvm.Cond) (x0 : Int64) (x1 : Int64)  (h0 : Heap) (n0 : Nat) (Z0 : n0 ≤ h0.size)  :
    MetFree l (⟨"com/example/infinite_tail/infinitetail/stream/ConsumerGroup", "millisBetween", "(JJ)J"⟩ : MethodName) (head1 (Jvm.Cond.code (⟨"com/example/infinite_tail/infinitetail/stream/ConsumerGroup", "millisBetween", "(JJ)J"⟩ : MethodName) prog_72_method_30_code 4 (some .long) :: ws) ({ frames := 1, cells := 0, slots := 0, locals := 15 } : Room)) (fun a U => a = #[(.long x0), (.long x1)] ∧ Z.Warmed39 U.vm ∧ U.heap = h0) (fun _ _ _ _ _ => True) (fun _ U oc U' => ∃ v L, oc = .returned v ∧ Q14 Z x0 x1  h0 n0 v U'.heap L ∧ FrameEnd U oc U' L ({ frames := 1, cells := 0, slots := 0, locals := 15 } : Room).cells ({ frames := 1, cells := 0, slots := 0, locals := 15 } : Room).slots) := by
  refine MetFree.of_bodySF (plainFor_of_name own_pn14) hisR ?_
  intro p e s m args below meth c s₁ Bd hml0 hP hK
  obtain ⟨rfl, hZ, hh⟩ := hP
  have hx := Bd.exec
  have hby := Bd.bytes
  have hlk : meth.locks = false := BodyLoose.notSynchronized Bd
  have hml : c.maxLocals = 4 := hml0
  have hown : s.vm.findClass "com/example/infinite_tail/infinitetail/stream/ConsumerGroup" = some m.cls := findClass_of_methodNamed Bd.named
  have hnm := (name_of_methodNamed Bd.named Bd.method).1
  have X0 : Stand p l e ({ frames := 1, cells := 0, slots := 0, locals := 15 } : Room) s m #[(.long x0), (.long x1)] below meth c s₁ [] 0 0 := Stand.of_body Bd
  have e0 : s₁.heap = h0 := by rw [← hh, Bd.state]; rfl
  have N0 := Fr.nil n0
  refine own_enter (own_ef14 m x0 x1) ?_
  show own_Go p e below s (Q14 Z x0 x1  h0 n0) ({ frames := 1, cells := 0, slots := 0, locals := 15 } : Room).cells ({ frames := 1, cells := 0, slots := 0, locals := 15 } : Room).slots s₁ (mkF m 0 #[.val (.long x0), .second, .val (.long x1), .second] [])
  refine own_st (T' := s₁) (F' := (mkF m 1 #[.val (.long x0), .second, .val (.long x1), .second] [(.long (0 : Int64))])) (fun _ k => XS.lconst X0.here hx rfl (hb hby d14_0) k) ?_
  refine own_st (T' := s₁) (F' := (mkF m 2 #[.val (.long x0), .second, .val (.long x1), .second] [(.long x1), (.long (0 : Int64))])) (fun _ k => XS.lloadN X0.here hx rfl (hb hby d14_1) rfl  k) ?_
  refine own_st (T' := s₁) (F' := (mkF m 3 #[.val (.long x0), .second, .val (.long x1), .second] [(.long x0), (.long x1), (.long (0 : Int64))])) (fun _ k => XS.lloadN X0.here hx rfl (hb hby d14_2) rfl  k) ?_
  refine own_st (T' := s₁) (F' := (mkF m 4 #[.val (.long x0), .second, .val (.long x1), .second] [(.long (x1 - x0)), (.long (0 : Int64))])) (fun _ k => XS.lsub X0.here hx rfl (hb hby d14_3) rfl k) ?_
  obtain ⟨_, _, ⟨T1, L1, k1, n1⟩, -, X1, ⟨Lc1, hQ1, l1, y1, z1⟩, st1⟩ := Jvm.LawKit.callS X0 hx (y := (⟨"java/lang/Math", "max", "(JJ)J"⟩ : MethodName)) hown (mvT hZ (hw _ (List.mem_of_getElem? (i := 89) rfl))) (mvT hZ (hw _ (List.mem_of_getElem? (i := 90) rfl))) (mvT hZ (hw _ (List.mem_of_getElem? (i := 91) rfl))) (mvT hZ (hw _ (List.mem_of_getElem? (i := 92) rfl))) (by decide) (backOf (W := 0) (rm15 l Z a0 hw [] (0 : Int64) (x1 - x0)  h0 n0 Z0 ) hZ (hw _ (List.mem_of_getElem? (i := 92) rfl)) (hw _ (List.mem_of_getElem? (i := 91) rfl)) (by decide) (by decide)) (g := (mkF m 4 #[.val (.long x0), .second, .val (.long x1), .second] [(.long (x1 - x0)), (.long (0 : Int64))])) rfl (by rw [hml]; rfl) (argsL := [(.long (0 : Int64)), (.long (x1 - x0))]) (rest := []) (lenOf own_pd4 rfl) rfl (by show 2 * 0 + _ ≤ _; exact Nat.le_of_eq rfl) (hb hby d14_4) (fun _ _ => ⟨rfl, e0, (by decide : 0 + 0 ≤ _), (by decide : 0 + 0 ≤ _)⟩)
  dsimp only [Pt.U, Pt.locs, Pt.cells, Pt.slots] at X1 l1 y1 z1 st1 hQ1
  subst l1 y1 z1
  obtain ⟨⟨r1, rfl, hr1⟩, Nq1, eq1⟩ := hQ1
  have N1 := Fr.app N0 Nq1
  refine own_st (T' := T1) (F' := (mkF m 7 #[.val (.long x0), .second, .val (.long x1), .second] [(.long r1)])) (fun _ k => st1 _ k) ?_
  refine own_retJ X1 hx hlk Bd.returns (hb hby d14_7) ?_ (by decide) (by decide)
  rw [eq1]
  refine ⟨⟨_, rfl, ?_⟩, N1, rfl⟩
  exact hr1
theorem d13_0 : decode prog_77_method_4_code 0 = .ok (.aload_n 0, 1) := by decide +kernel
theorem d13_1 : decode prog_77_method_4_code 1 = .ok (.getfield 27, 3) := by decide +kernel
theorem d13_4 : decode prog_77_method_4_code 4 = .ok (.lload_n 1, 1) := by decide +kernel
theorem d13_5 : decode prog_77_method_4_code 5 = .ok (.invokestatic 36, 3) := by decide +kernel
theorem d13_8 : decode prog_77_method_4_code 8 = .ok (.lreturn, 1) := by decide +kernel
theorem own_pn13 : plainName "com/example/infinite_tail/infinitetail/stream/PendingEntry" = true := by first | (simp [plainName, overriddenIn]; done) | decide +kernel
theorem own_ef13 (m : MethodId) (o : Addr) (x0 : Int64) : entryFrame m #[(.ref o), (.long x0)] 3 = (mkF m 0 #[.val (.ref o), .val (.long x0), .second] []) := by first | (simp [entryFrame, mkF, argsToLocals, Value.category]; done) | rfl
def Q13 (Z : State) (o : Addr) (x0 : Int64) (mm : Int64) (h0 : Heap) (n0 : Nat) (v : Option Value) (h : Heap) (L : List Loc) : Prop := (∃ z : Int64, v = some (.long z) ∧ ((0 < x0 - mm ∧ z = x0 - mm) ∨ (¬ 0 < x0 - mm ∧ z = 0))) ∧ Fr n0 L ∧ h = h0
set_option maxRecDepth 65536 in
set_option maxHeartbeats 40000000 in
theorem rm13 (l : Launch) (Z : State) (a0 : Array Value) (hw : ∀ d ∈ tables_1, d.before a0 Z = true) (ws : List Jvm.Cond) (o : Addr) (x0 : Int64) (mm : Int64) (h0 : Heap) (n0 : Nat) (Z0 : n0 ≤ h0.size) (hF : Fld Z h0 o "com/example/infinite_tail/infinitetail/stream/PendingEntry" "deliveredAt" "J" (.long mm)) :
    MetFree l (⟨"com/example/infinite_tail/infinitetail/stream/PendingEntry", "idleMillis", "(J)J"⟩ : MethodName) (head1 (Jvm.Cond.code (⟨"com/example/infinite_tail/infinitetail/stream/PendingEntry", "idleMillis", "(J)J"⟩ : MethodName) prog_77_method_4_code 3 (some .long) :: ws) ({ frames := 2, cells := 0, slots := 0, locals := 30 } : Room)) (fun a U => a = #[(.ref o), (.long x0)] ∧ Z.Warmed39 U.vm ∧ U.heap = h0) (fun _ _ _ _ _ => True) (fun _ U oc U' => ∃ v L, oc = .returned v ∧ Q13 Z o x0 mm h0 n0 v U'.heap L ∧ FrameEnd U oc U' L ({ frames := 2, cells := 0, slots := 0, locals := 30 } : Room).cells ({ frames := 2, cells := 0, slots := 0, locals := 30 } : Room).slots) := by
  refine MetFree.of_bodySF (plainFor_of_name own_pn13) hisR ?_
  intro p e s m args below meth c s₁ Bd hml0 hP hK
  obtain ⟨rfl, hZ, hh⟩ := hP
  have hx := Bd.exec
  have hby := Bd.bytes
  have hlk : meth.locks = false := BodyLoose.notSynchronized Bd
  have hml : c.maxLocals = 3 := hml0
  have hown : s.vm.findClass "com/example/infinite_tail/infinitetail/stream/PendingEntry" = some m.cls := findClass_of_methodNamed Bd.named
  have hnm := (name_of_methodNamed Bd.named Bd.method).1
  have X0 : Stand p l e ({ frames := 2, cells := 0, slots := 0, locals := 30 } : Room) s m #[(.ref o), (.long x0)] below meth c s₁ [] 0 0 := Stand.of_body Bd
  have e0 : s₁.heap = h0 := by rw [← hh, Bd.state]; rfl
  have N0 := Fr.nil n0
  refine own_enter (own_ef13 m o x0) ?_
  show own_Go p e below s (Q13 Z o x0 mm h0 n0) ({ frames := 2, cells := 0, slots := 0, locals := 30 } : Room).cells ({ frames := 2, cells := 0, slots := 0, locals := 30 } : Room).slots s₁ (mkF m 0 #[.val (.ref o), .val (.long x0), .second] [])
  refine own_st (T' := s₁) (F' := (mkF m 1 #[.val (.ref o), .val (.long x0), .second] [(.ref o)])) (fun _ k => XS.aloadN X0.here hx rfl (hb hby d13_0) rfl rfl k) ?_
  obtain ⟨T1, X1, e1, st1⟩ := getF X0 hx hZ hown (host := "") (Or.inl (hw _ (List.mem_of_getElem? (i := 61) rfl))) Via.refl e0 hF (g := (mkF m 1 #[.val (.ref o), .val (.long x0), .second] [(.ref o)])) rfl rfl (hb hby d13_1)
  refine own_st (T' := T1) (F' := (mkF m 4 #[.val (.ref o), .val (.long x0), .second] [(.long mm)])) (fun _ k => st1 _ k) ?_
  refine own_st (T' := T1) (F' := (mkF m 5 #[.val (.ref o), .val (.long x0), .second] [(.long x0), (.long mm)])) (fun _ k => XS.lloadN X1.here hx rfl (hb hby d13_4) rfl  k) ?_
  obtain ⟨_, _, ⟨T2, L2, k2, n2⟩, -, X2, ⟨Lc2, hQ2, l2, y2, z2⟩, st2⟩ := Jvm.LawKit.callS X1 hx (y := (⟨"com/example/infinite_tail/infinitetail/stream/ConsumerGroup", "millisBetween", "(JJ)J"⟩ : MethodName)) hown (mvT hZ (hw _ (List.mem_of_getElem? (i := 85) rfl))) (mvT hZ (hw _ (List.mem_of_getElem? (i := 86) rfl))) (mvT hZ (hw _ (List.mem_of_getElem? (i := 87) rfl))) (mvT hZ (hw _ (List.mem_of_getElem? (i := 88) rfl))) (by decide) (backOf (W := 0) (rm14 l Z a0 hw [] mm x0  h0 n0 Z0 ) hZ (hw _ (List.mem_of_getElem? (i := 88) rfl)) (hw _ (List.mem_of_getElem? (i := 87) rfl)) (by decide) (by decide)) (g := (mkF m 5 #[.val (.ref o), .val (.long x0), .second] [(.long x0), (.long mm)])) rfl (by rw [hml]; rfl) (argsL := [(.long mm), (.long x0)]) (rest := []) (lenOf own_pd4 rfl) rfl (by show 2 * 0 + _ ≤ _; exact Nat.le_of_eq rfl) (hb hby d13_5) (fun _ _ => ⟨rfl, e1, (by decide : 0 + 0 ≤ _), (by decide : 0 + 0 ≤ _)⟩)
  dsimp only [Pt.U, Pt.locs, Pt.cells, Pt.slots] at X2 l2 y2 z2 st2 hQ2
  subst l2 y2 z2
  obtain ⟨⟨r2, rfl, hr2⟩, Nq2, eq2⟩ := hQ2
  have N2 := Fr.app N0 Nq2
  refine own_st (T' := T2) (F' := (mkF m 8 #[.val (.ref o), .val (.long x0), .second] [(.long r2)])) (fun _ k => st2 _ k) ?_
  refine own_retJ X2 hx hlk Bd.returns (hb hby d13_8) ?_ (by decide) (by decide)
  rw [eq2]
  refine ⟨⟨_, rfl, ?_⟩, N2, rfl⟩
  exact hr2
theorem own_pd5 : parseMethodDescriptor "([B)V" = some ⟨[(.array .byte)], none⟩ := by decide +kernel
theorem own_pd6 : parseMethodDescriptor "(JJ)V" = some ⟨[.long, .long], none⟩ := by decide +kernel
theorem own_pd7 : parseMethodDescriptor "(Lcom/example/infinite_tail/infinitetail/stream/StreamId;Lcom/example/infinite_tail/infinitetail/stream/ByteString;JJ)V" = some ⟨[(.object "com/example/infinite_tail/infinitetail/stream/StreamId"), (.object "com/example/infinite_tail/infinitetail/stream/ByteString"), .long, .long], none⟩ := by decide +kernel
theorem own_pd8 : parseMethodDescriptor "(Lcom/example/infinite_tail/infinitetail/stream/ByteString;JZ)V" = some ⟨[(.object "com/example/infinite_tail/infinitetail/stream/ByteString"), .long, .boolean], none⟩ := by decide +kernel
theorem own_pd9 : parseMethodDescriptor "()Lcom/example/infinite_tail/infinitetail/stream/ByteString;" = some ⟨[], some (.object "com/example/infinite_tail/infinitetail/stream/ByteString")⟩ := by decide +kernel
theorem own_pd10 : parseMethodDescriptor "(J)J" = some ⟨[.long], some .long⟩ := by decide +kernel
theorem own_pn0 : plainName "com/example/infinite_tail/infinitetail/stream/PendingEntryDeliveredPinLaw" = true := by first | (simp [plainName, overriddenIn]; done) | decide +kernel
theorem own_ef0 (m : MethodId) (x0 : Int64) (x1 : Int64) (x2 : Int64) (x3 : Int64) (x4 : Int64) (x5 : Int32) : entryFrame m #[(.long x0), (.long x1), (.long x2), (.long x3), (.long x4), (.int x5)] maxLocals = (mkF m 0 #[.val (.long x0), .second, .val (.long x1), .second, .val (.long x2), .second, .val (.long x3), .second, .val (.long x4), .second, .val (.int x5), .unset, .unset, .unset, .unset, .unset, .unset, .unset, .unset, .unset, .unset, .unset, .unset, .unset] []) := by first | (simp [entryFrame, mkF, argsToLocals, Value.category, maxLocals]; done) | rfl
def Q0 (Z : State) (x0 : Int64) (x1 : Int64) (x2 : Int64) (x3 : Int64) (x4 : Int64) (x5 : Int32)  (h0 : Heap) (n0 : Nat) (v : Option Value) (h : Heap) (L : List Loc) : Prop := (∃ z : Int32, v = some (.int z) ∧ (z = 1)) ∧ Fr n0 L
set_option maxRecDepth 65536 in
set_option maxHeartbeats 40000000 in
theorem rm0 (l : Launch) (Z : State) (a0 : Array Value) (hw : ∀ d ∈ tables_1, d.before a0 Z = true) (ws : List Jvm.Cond) (x0 : Int64) (x1 : Int64) (x2 : Int64) (x3 : Int64) (x4 : Int64) (x5 : Int32)  (h0 : Heap) (n0 : Nat) (Z0 : n0 ≤ h0.size)  :
    MetFree l x (head1 (Jvm.Cond.code x code maxLocals ret :: ws) room_1) (fun a U => a = #[(.long x0), (.long x1), (.long x2), (.long x3), (.long x4), (.int x5)] ∧ Z.Warmed39 U.vm ∧ U.heap = h0) (fun _ _ _ _ _ => True) (fun _ U oc U' => ∃ v L, oc = .returned v ∧ Q0 Z x0 x1 x2 x3 x4 x5  h0 n0 v U'.heap L ∧ FrameEnd U oc U' L room_1.cells room_1.slots) := by
  refine MetFree.of_bodySF (plainFor_of_name own_pn0) hisR ?_
  intro p e s m args below meth c s₁ Bd hml0 hP hK
  obtain ⟨rfl, hZ, hh⟩ := hP
  have hx := Bd.exec
  have hby := Bd.bytes
  have hlk : meth.locks = false := BodyLoose.notSynchronized Bd
  have hml : c.maxLocals = 24 := hml0
  have hown : s.vm.findClass "com/example/infinite_tail/infinitetail/stream/PendingEntryDeliveredPinLaw" = some m.cls := findClass_of_methodNamed Bd.named
  have hnm := (name_of_methodNamed Bd.named Bd.method).1
  have X0 : Stand p l e room_1 s m #[(.long x0), (.long x1), (.long x2), (.long x3), (.long x4), (.int x5)] below meth c s₁ [] 0 0 := Stand.of_body Bd
  have e0 : s₁.heap = h0 := by rw [← hh, Bd.state]; rfl
  have N0 := Fr.nil n0
  refine own_enter (own_ef0 m x0 x1 x2 x3 x4 x5) ?_
  show own_Go p e below s (Q0 Z x0 x1 x2 x3 x4 x5  h0 n0) room_1.cells room_1.slots s₁ (mkF m 0 #[.val (.long x0), .second, .val (.long x1), .second, .val (.long x2), .second, .val (.long x3), .second, .val (.long x4), .second, .val (.int x5), .unset, .unset, .unset, .unset, .unset, .unset, .unset, .unset, .unset, .unset, .unset, .unset, .unset] [])
  refine own_st (T' := s₁) (F' := (mkF m 2 #[.val (.long x0), .second, .val (.long x1), .second, .val (.long x2), .second, .val (.long x3), .second, .val (.long x4), .second, .val (.int x5), .unset, .unset, .unset, .unset, .unset, .unset, .unset, .unset, .unset, .unset, .unset, .unset, .unset] [(.int x5)])) (fun _ k => XS.iload X0.here hx rfl (hb hby at_0) rfl  k) ?_
  refine own_st (T' := s₁) (F' := (mkF m 3 #[.val (.long x0), .second, .val (.long x1), .second, .val (.long x2), .second, .val (.long x3), .second, .val (.long x4), .second, .val (.int x5), .unset, .unset, .unset, .unset, .unset, .unset, .unset, .unset, .unset, .unset, .unset, .unset, .unset] [(.int (1 : Int32)), (.int x5)])) (fun _ k => XS.iconst X0.here hx rfl (hb hby at_2) k) ?_
  refine own_st (T' := s₁) (F' := (mkF m 4 #[.val (.long x0), .second, .val (.long x1), .second, .val (.long x2), .second, .val (.long x3), .second, .val (.long x4), .second, .val (.int x5), .unset, .unset, .unset, .unset, .unset, .unset, .unset, .unset, .unset, .unset, .unset, .unset, .unset] [(.int (x5 &&& (1 : Int32)))])) (fun _ k => XS.iand X0.here hx rfl (hb hby at_3) rfl k) ?_
  have J12_1 : ∀ (j12_1 : Int32), ((((x5 &&& (1 : Int32)) = (0 : Int32)) ∧ j12_1 = (0 : Int32)) ∨ ((¬ ((x5 &&& (1 : Int32)) = (0 : Int32))) ∧ j12_1 = (1 : Int32))) → own_Go p e below s (Q0 Z x0 x1 x2 x3 x4 x5  h0 n0) room_1.cells room_1.slots s₁ (mkF m 12 #[.val (.long x0), .second, .val (.long x1), .second, .val (.long x2), .second, .val (.long x3), .second, .val (.long x4), .second, .val (.int x5), .unset, .unset, .unset, .unset, .unset, .unset, .unset, .unset, .unset, .unset, .unset, .unset, .unset] [(.int j12_1)]) := by
    intro j12_1 hJ12_1
    refine own_st (T' := s₁) (F' := (mkF m 14 #[.val (.long x0), .second, .val (.long x1), .second, .val (.long x2), .second, .val (.long x3), .second, .val (.long x4), .second, .val (.int x5), .val (.int j12_1), .unset, .unset, .unset, .unset, .unset, .unset, .unset, .unset, .unset, .unset, .unset, .unset] [])) (fun _ k => XS.istore X0.here hx rfl (hb hby at_12) rfl (l' := #[.val (.long x0), .second, .val (.long x1), .second, .val (.long x2), .second, .val (.long x3), .second, .val (.long x4), .second, .val (.int x5), .val (.int j12_1), .unset, .unset, .unset, .unset, .unset, .unset, .unset, .unset, .unset, .unset, .unset, .unset]) rfl k) ?_
    obtain ⟨T2, h2, X2, e2, E2, A2, D2, -, st2⟩ := newO X0 hx hZ hown (hw _ (List.mem_of_getElem? (i := 0) rfl)) (hw _ (List.mem_of_getElem? (i := 1) rfl)) (hw _ (List.mem_of_getElem? (i := 2) rfl)) e0 (g := (mkF m 14 #[.val (.long x0), .second, .val (.long x1), .second, .val (.long x2), .second, .val (.long x3), .second, .val (.long x4), .second, .val (.int x5), .val (.int j12_1), .unset, .unset, .unset, .unset, .unset, .unset, .unset, .unset, .unset, .unset, .unset, .unset] [])) rfl (hb hby at_14) (by decide) (by decide)
    obtain ⟨b2, g2⟩ : ∃ z, z = h0.size := ⟨_, rfl⟩
    rw [← g2] at A2 D2 st2
    have ge2 : n0 ≤ b2 := by rw [g2]; exact Z0
    have hge2 : h0.size ≤ b2 := by rw [g2]; exact (Keep.refl h0 []).1
    have K2 : Keep h0 h2 [] := (Keep.refl h0 []).ext E2
    have Zs2 : n0 ≤ h2.size := Nat.le_trans Z0 K2.1
    have f3 : Fld Z h2 b2 "com/example/infinite_tail/infinitetail/stream/ByteString" "bytes" "[B" .null := D2 (Or.inr (hw _ (List.mem_of_getElem? (i := 11) rfl))) (ty := (.array .byte)) (by decide)
    have f4 : Fld Z h2 b2 "com/example/infinite_tail/infinitetail/stream/ByteString" "hash" "I" (.int (0 : Int32)) := D2 (Or.inr (hw _ (List.mem_of_getElem? (i := 17) rfl))) (ty := .int) (by decide)
    refine own_st (T' := T2) (F' := (mkF m 17 #[.val (.long x0), .second, .val (.long x1), .second, .val (.long x2), .second, .val (.long x3), .second, .val (.long x4), .second, .val (.int x5), .val (.int j12_1), .unset, .unset, .unset, .unset, .unset, .unset, .unset, .unset, .unset, .unset, .unset, .unset] [(.ref b2)])) (fun _ k => st2 _ k) ?_
    refine own_st (T' := T2) (F' := (mkF m 18 #[.val (.long x0), .second, .val (.long x1), .second, .val (.long x2), .second, .val (.long x3), .second, .val (.long x4), .second, .val (.int x5), .val (.int j12_1), .unset, .unset, .unset, .unset, .unset, .unset, .unset, .unset, .unset, .unset, .unset, .unset] [(.ref b2), (.ref b2)])) (fun _ k => XS.dup X2.here hx rfl (hb hby at_17) rfl rfl k) ?_
    refine own_st (T' := T2) (F' := (mkF m 19 #[.val (.long x0), .second, .val (.long x1), .second, .val (.long x2), .second, .val (.long x3), .second, .val (.long x4), .second, .val (.int x5), .val (.int j12_1), .unset, .unset, .unset, .unset, .unset, .unset, .unset, .unset, .unset, .unset, .unset, .unset] [(.int (1 : Int32)), (.ref b2), (.ref b2)])) (fun _ k => XS.iconst X2.here hx rfl (hb hby at_18) k) ?_
    obtain ⟨T5, h5, k5, X5, e5, E5, A5, AE5, st5⟩ := newPE X2 hx hZ (hw _ (List.mem_of_getElem? (i := 3) rfl)) e2 (g := (mkF m 19 #[.val (.long x0), .second, .val (.long x1), .second, .val (.long x2), .second, .val (.long x3), .second, .val (.long x4), .second, .val (.int x5), .val (.int j12_1), .unset, .unset, .unset, .unset, .unset, .unset, .unset, .unset, .unset, .unset, .unset, .unset] [(.int (1 : Int32)), (.ref b2), (.ref b2)])) rfl (hb hby at_19) rfl (by decide) (cap := 1) (by decide) (by decide) (by decide) (by decide) (ad := "[B") (by decide)
    obtain ⟨b5, g5⟩ : ∃ z, z = h2.size := ⟨_, rfl⟩
    rw [← g5] at A5 AE5 st5
    have ge5 : n0 ≤ b5 := by rw [g5]; exact Zs2
    have hge5 : h0.size ≤ b5 := by rw [g5]; exact K2.1
    have ne5_1 : b2 ≠ b5 := by rw [g5]; exact Nat.ne_of_lt A2.lt
    have f6 : Exa Z h5 b2 "com/example/infinite_tail/infinitetail/stream/ByteString" := A2.ext E5
    have f7 : Fld Z h5 b2 "com/example/infinite_tail/infinitetail/stream/ByteString" "bytes" "[B" .null := f3.ext E5
    have f8 : Fld Z h5 b2 "com/example/infinite_tail/infinitetail/stream/ByteString" "hash" "I" (.int (0 : Int32)) := f4.ext E5
    have K5 : Keep h0 h5 [] := K2.ext E5
    have Zs5 : n0 ≤ h5.size := Nat.le_trans Z0 K5.1
    have V5 : Arv Z h5 b5 k5 .byte (1 : Int32) [(.int (0 : Int32))] (.int (0 : Int32)) := (Arv.new A5 (by decide)).pad (pad_rep [] (.int (0 : Int32)) 1)
    refine own_st (T' := T5) (F' := (mkF m 21 #[.val (.long x0), .second, .val (.long x1), .second, .val (.long x2), .second, .val (.long x3), .second, .val (.long x4), .second, .val (.int x5), .val (.int j12_1), .unset, .unset, .unset, .unset, .unset, .unset, .unset, .unset, .unset, .unset, .unset, .unset] [(.ref b5), (.ref b2), (.ref b2)])) (fun _ k => st5 _ k) ?_
    refine own_st (T' := T5) (F' := (mkF m 22 #[.val (.long x0), .second, .val (.long x1), .second, .val (.long x2), .second, .val (.long x3), .second, .val (.long x4), .second, .val (.int x5), .val (.int j12_1), .unset, .unset, .unset, .unset, .unset, .unset, .unset, .unset, .unset, .unset, .unset, .unset] [(.ref b5), (.ref b5), (.ref b2), (.ref b2)])) (fun _ k => XS.dup X5.here hx rfl (hb hby at_21) rfl rfl k) ?_
    refine own_st (T' := T5) (F' := (mkF m 23 #[.val (.long x0), .second, .val (.long x1), .second, .val (.long x2), .second, .val (.long x3), .second, .val (.long x4), .second, .val (.int x5), .val (.int j12_1), .unset, .unset, .unset, .unset, .unset, .unset, .unset, .unset, .unset, .unset, .unset, .unset] [(.int (0 : Int32)), (.ref b5), (.ref b5), (.ref b2), (.ref b2)])) (fun _ k => XS.iconst X5.here hx rfl (hb hby at_22) k) ?_
    refine own_st (T' := T5) (F' := (mkF m 25 #[.val (.long x0), .second, .val (.long x1), .second, .val (.long x2), .second, .val (.long x3), .second, .val (.long x4), .second, .val (.int x5), .val (.int j12_1), .unset, .unset, .unset, .unset, .unset, .unset, .unset, .unset, .unset, .unset, .unset, .unset] [(.int x5), (.int (0 : Int32)), (.ref b5), (.ref b5), (.ref b2), (.ref b2)])) (fun _ k => XS.iload X5.here hx rfl (hb hby at_23) rfl  k) ?_
    refine own_st (T' := T5) (F' := (mkF m 27 #[.val (.long x0), .second, .val (.long x1), .second, .val (.long x2), .second, .val (.long x3), .second, .val (.long x4), .second, .val (.int x5), .val (.int j12_1), .unset, .unset, .unset, .unset, .unset, .unset, .unset, .unset, .unset, .unset, .unset, .unset] [(.int (8 : Int32)), (.int x5), (.int (0 : Int32)), (.ref b5), (.ref b5), (.ref b2), (.ref b2)])) (fun _ k => XS.bipush X5.here hx rfl (hb hby at_25) k) ?_
    refine own_st (T' := T5) (F' := (mkF m 28 #[.val (.long x0), .second, .val (.long x1), .second, .val (.long x2), .second, .val (.long x3), .second, .val (.long x4), .second, .val (.int x5), .val (.int j12_1), .unset, .unset, .unset, .unset, .unset, .unset, .unset, .unset, .unset, .unset, .unset, .unset] [(.int (x5 >>> ((8 : Int32) &&& 31))), (.int (0 : Int32)), (.ref b5), (.ref b5), (.ref b2), (.ref b2)])) (fun _ k => XS.ishr X5.here hx rfl (hb hby at_27) rfl k) ?_
    refine own_st (T' := T5) (F' := (mkF m 29 #[.val (.long x0), .second, .val (.long x1), .second, .val (.long x2), .second, .val (.long x3), .second, .val (.long x4), .second, .val (.int x5), .val (.int j12_1), .unset, .unset, .unset, .unset, .unset, .unset, .unset, .unset, .unset, .unset, .unset, .unset] [(.int ((x5 >>> ((8 : Int32) &&& 31)).toInt8.toInt32)), (.int (0 : Int32)), (.ref b5), (.ref b5), (.ref b2), (.ref b2)])) (fun _ k => XS.i2b X5.here hx rfl (hb hby at_28) rfl k) ?_
    obtain ⟨cl9, Ar9, Aq9, As9, Am9, Ah9, Au9⟩ := id V5
    have hin9 : ¬ ((0 : Int32) < 0 ∨ cl9.slots.size ≤ ((0 : Int32)).toNatClampNeg) := inb_of As9 ⟨by decide, by decide⟩
    obtain ⟨T9, h9, X9, e9, W9, st9⟩ := stB X5 hx hZ e5 Ar9 (j := (0 : Int32)) hin9 (g := (mkF m 29 #[.val (.long x0), .second, .val (.long x1), .second, .val (.long x2), .second, .val (.long x3), .second, .val (.long x4), .second, .val (.int x5), .val (.int j12_1), .unset, .unset, .unset, .unset, .unset, .unset, .unset, .unset, .unset, .unset, .unset, .unset] [(.int ((x5 >>> ((8 : Int32) &&& 31)).toInt8.toInt32)), (.int (0 : Int32)), (.ref b5), (.ref b5), (.ref b2), (.ref b2)])) rfl rfl (hb hby at_29)
    have V9 : Arv Z h9 b5 k5 .byte (1 : Int32) [(.int (((x5 >>> ((8 : Int32) &&& 31)).toInt8.toInt32).toInt8.toInt32))] (.int (0 : Int32)) := Arv.set Ar9 Aq9 As9 Am9 Ah9 Au9 (fits_nar_byte _) W9 0 rfl (show 0 < 1 by decide)
    have N9 := Fr.snoc X9 N0 ge5
    have f10 : Exa Z h9 b2 "com/example/infinite_tail/infinitetail/stream/ByteString" := f6.wr W9
    have f11 : Fld Z h9 b2 "com/example/infinite_tail/infinitetail/stream/ByteString" "bytes" "[B" .null := f7.other W9 (Or.inl ne5_1)
    have f12 : Fld Z h9 b2 "com/example/infinite_tail/infinitetail/stream/ByteString" "hash" "I" (.int (0 : Int32)) := f8.other W9 (Or.inl ne5_1)
    have f13 : Exa Z h9 b5 "[B" := AE5.wr W9
    have K9 : Keep h0 h9 [] := K5.wr W9 (Or.inr hge5)
    have Zs9 : n0 ≤ h9.size := Nat.le_trans Z0 K9.1
    refine own_st (T' := T9) (F' := (mkF m 30 #[.val (.long x0), .second, .val (.long x1), .second, .val (.long x2), .second, .val (.long x3), .second, .val (.long x4), .second, .val (.int x5), .val (.int j12_1), .unset, .unset, .unset, .unset, .unset, .unset, .unset, .unset, .unset, .unset, .unset, .unset] [(.ref b5), (.ref b2), (.ref b2)])) (fun _ k => st9 _ k) ?_
    obtain ⟨_, _, ⟨T14, L14, k14, n14⟩, -, X14, ⟨Lc14, hQ14, l14, y14, z14⟩, st14⟩ := X9.specialBack hx (y := (⟨"com/example/infinite_tail/infinitetail/stream/ByteString", "<init>", "([B)V"⟩ : MethodName)) rfl hown (mvT hZ (hw _ (List.mem_of_getElem? (i := 4) rfl))) (mvT hZ (hw _ (List.mem_of_getElem? (i := 5) rfl))) (mvT hZ (hw _ (List.mem_of_getElem? (i := 6) rfl))) (by decide) (backOf (W := 1) (rm1t1 l Z a0 hw [] b2 b5 (.null) (.int (0 : Int32)) k5 (((x5 >>> ((8 : Int32) &&& 31)).toInt8.toInt32).toInt8.toInt32) h9 n0 Zs9 ge2 f10 f11 f12 V9 f13 (Ne.symm ne5_1)) hZ (hw _ (List.mem_of_getElem? (i := 6) rfl)) (hw _ (List.mem_of_getElem? (i := 2) rfl)) (by decide) (by decide)) (g := (mkF m 30 #[.val (.long x0), .second, .val (.long x1), .second, .val (.long x2), .second, .val (.long x3), .second, .val (.long x4), .second, .val (.int x5), .val (.int j12_1), .unset, .unset, .unset, .unset, .unset, .unset, .unset, .unset, .unset, .unset, .unset, .unset] [(.ref b5), (.ref b2), (.ref b2)])) rfl (by rw [hml]; rfl) (Steps.refl _) (a := b2) (argsL := [(.ref b5)]) (rest := [(.ref b2)]) (lenOf own_pd5 rfl) rfl (by show 2 * 0 + _ ≤ _; exact Nat.le_of_eq rfl) (hb hby at_30) (fun _ _ => ⟨rfl, e9, (by decide : 2 + 0 ≤ _), (by decide : 3 + 0 ≤ _)⟩)
    dsimp only [Pt.U, Pt.locs, Pt.cells, Pt.slots] at X14 l14 y14 z14 st14 hQ14
    subst l14 y14 z14
    obtain ⟨rfl, Nq14, g14_0, g14_1⟩ := hQ14
    have N14 := Fr.app N9 Nq14
    have f15 : Exa Z T14.heap b5 "[B" := f13.keep g14_0
    have f16 : Arv Z T14.heap b5 k5 .byte (1 : Int32) [(.int (((x5 >>> ((8 : Int32) &&& 31)).toInt8.toInt32).toInt8.toInt32))] (.int (0 : Int32)) := V9.keep g14_0 (ninS (Ne.symm ne5_1) nin0)
    have K14 : Keep h0 T14.heap [] := K9.trans g14_0 (allS (Or.inr hge2) all0)
    have Zs14 : n0 ≤ T14.heap.size := Nat.le_trans Z0 K14.1
    refine own_tr (T' := T14) (F' := (mkF m 33 #[.val (.long x0), .second, .val (.long x1), .second, .val (.long x2), .second, .val (.long x3), .second, .val (.long x4), .second, .val (.int x5), .val (.int j12_1), .unset, .unset, .unset, .unset, .unset, .unset, .unset, .unset, .unset, .unset, .unset, .unset] [(.ref b2)])) st14 ?_
    refine own_st (T' := T14) (F' := (mkF m 35 #[.val (.long x0), .second, .val (.long x1), .second, .val (.long x2), .second, .val (.long x3), .second, .val (.long x4), .second, .val (.int x5), .val (.int j12_1), .val (.ref b2), .unset, .unset, .unset, .unset, .unset, .unset, .unset, .unset, .unset, .unset, .unset] [])) (fun _ k => XS.astore X14.here hx rfl (hb hby at_33) rfl rfl (l' := #[.val (.long x0), .second, .val (.long x1), .second, .val (.long x2), .second, .val (.long x3), .second, .val (.long x4), .second, .val (.int x5), .val (.int j12_1), .val (.ref b2), .unset, .unset, .unset, .unset, .unset, .unset, .unset, .unset, .unset, .unset, .unset]) rfl k) ?_
    obtain ⟨T17, h17, X17, e17, E17, A17, D17, -, st17⟩ := newO X14 hx hZ hown (hw _ (List.mem_of_getElem? (i := 0) rfl)) (hw _ (List.mem_of_getElem? (i := 1) rfl)) (hw _ (List.mem_of_getElem? (i := 2) rfl)) rfl (g := (mkF m 35 #[.val (.long x0), .second, .val (.long x1), .second, .val (.long x2), .second, .val (.long x3), .second, .val (.long x4), .second, .val (.int x5), .val (.int j12_1), .val (.ref b2), .unset, .unset, .unset, .unset, .unset, .unset, .unset, .unset, .unset, .unset, .unset] [])) rfl (hb hby at_35) (by decide) (by decide)
    obtain ⟨b17, g17⟩ : ∃ z, z = T14.heap.size := ⟨_, rfl⟩
    rw [← g17] at A17 D17 st17
    have ge17 : n0 ≤ b17 := by rw [g17]; exact Zs14
    have hge17 : h0.size ≤ b17 := by rw [g17]; exact K14.1
    have ne17_1 : b5 ≠ b17 := by rw [g17]; exact Nat.ne_of_lt f15.lt
    have ne17_2 : b2 ≠ b17 := by rw [g17]; exact Nat.ne_of_lt g14_1.lt
    have f18 : Exa Z h17 b5 "[B" := f15.ext E17
    have f19 : Arv Z h17 b5 k5 .byte (1 : Int32) [(.int (((x5 >>> ((8 : Int32) &&& 31)).toInt8.toInt32).toInt8.toInt32))] (.int (0 : Int32)) := f16.ext E17
    have f20 : Exa Z h17 b2 "com/example/infinite_tail/infinitetail/stream/ByteString" := g14_1.ext E17
    have K17 : Keep h0 h17 [] := K14.ext E17
    have Zs17 : n0 ≤ h17.size := Nat.le_trans Z0 K17.1
    have f21 : Fld Z h17 b17 "com/example/infinite_tail/infinitetail/stream/ByteString" "bytes" "[B" .null := D17 (Or.inr (hw _ (List.mem_of_getElem? (i := 11) rfl))) (ty := (.array .byte)) (by decide)
    have f22 : Fld Z h17 b17 "com/example/infinite_tail/infinitetail/stream/ByteString" "hash" "I" (.int (0 : Int32)) := D17 (Or.inr (hw _ (List.mem_of_getElem? (i := 17) rfl))) (ty := .int) (by decide)
    refine own_st (T' := T17) (F' := (mkF m 38 #[.val (.long x0), .second, .val (.long x1), .second, .val (.long x2), .second, .val (.long x3), .second, .val (.long x4), .second, .val (.int x5), .val (.int j12_1), .val (.ref b2), .unset, .unset, .unset, .unset, .unset, .unset, .unset, .unset, .unset, .unset, .unset] [(.ref b17)])) (fun _ k => st17 _ k) ?_
    refine own_st (T' := T17) (F' := (mkF m 39 #[.val (.long x0), .second, .val (.long x1), .second, .val (.long x2), .second, .val (.long x3), .second, .val (.long x4), .second, .val (.int x5), .val (.int j12_1), .val (.ref b2), .unset, .unset, .unset, .unset, .unset, .unset, .unset, .unset, .unset, .unset, .unset] [(.ref b17), (.ref b17)])) (fun _ k => XS.dup X17.here hx rfl (hb hby at_38) rfl rfl k) ?_
    refine own_st (T' := T17) (F' := (mkF m 40 #[.val (.long x0), .second, .val (.long x1), .second, .val (.long x2), .second, .val (.long x3), .second, .val (.long x4), .second, .val (.int x5), .val (.int j12_1), .val (.ref b2), .unset, .unset, .unset, .unset, .unset, .unset, .unset, .unset, .unset, .unset, .unset] [(.int (2 : Int32)), (.ref b17), (.ref b17)])) (fun _ k => XS.iconst X17.here hx rfl (hb hby at_39) k) ?_
    obtain ⟨T23, h23, k23, X23, e23, E23, A23, AE23, st23⟩ := newPE X17 hx hZ (hw _ (List.mem_of_getElem? (i := 3) rfl)) e17 (g := (mkF m 40 #[.val (.long x0), .second, .val (.long x1), .second, .val (.long x2), .second, .val (.long x3), .second, .val (.long x4), .second, .val (.int x5), .val (.int j12_1), .val (.ref b2), .unset, .unset, .unset, .unset, .unset, .unset, .unset, .unset, .unset, .unset, .unset] [(.int (2 : Int32)), (.ref b17), (.ref b17)])) rfl (hb hby at_40) rfl (by decide) (cap := 2) (by decide) (by decide) (by decide) (by decide) (ad := "[B") (by decide)
    obtain ⟨b23, g23⟩ : ∃ z, z = h17.size := ⟨_, rfl⟩
    rw [← g23] at A23 AE23 st23
    have ge23 : n0 ≤ b23 := by rw [g23]; exact Zs17
    have hge23 : h0.size ≤ b23 := by rw [g23]; exact K17.1
    have ne23_1 : b5 ≠ b23 := by rw [g23]; exact Nat.ne_of_lt f18.lt
    have ne23_2 : b2 ≠ b23 := by rw [g23]; exact Nat.ne_of_lt f20.lt
    have ne23_3 : b17 ≠ b23 := by rw [g23]; exact Nat.ne_of_lt A17.lt
    have f24 : Exa Z h23 b5 "[B" := f18.ext E23
    have f25 : Arv Z h23 b5 k5 .byte (1 : Int32) [(.int (((x5 >>> ((8 : Int32) &&& 31)).toInt8.toInt32).toInt8.toInt32))] (.int (0 : Int32)) := f19.ext E23
    have f26 : Exa Z h23 b2 "com/example/infinite_tail/infinitetail/stream/ByteString" := f20.ext E23
    have f27 : Exa Z h23 b17 "com/example/infinite_tail/infinitetail/stream/ByteString" := A17.ext E23
    have f28 : Fld Z h23 b17 "com/example/infinite_tail/infinitetail/stream/ByteString" "bytes" "[B" .null := f21.ext E23
    have f29 : Fld Z h23 b17 "com/example/infinite_tail/infinitetail/stream/ByteString" "hash" "I" (.int (0 : Int32)) := f22.ext E23
    have K23 : Keep h0 h23 [] := K17.ext E23
    have Zs23 : n0 ≤ h23.size := Nat.le_trans Z0 K23.1
    have V23 : Arv Z h23 b23 k23 .byte (2 : Int32) [(.int (0 : Int32)), (.int (0 : Int32))] (.int (0 : Int32)) := (Arv.new A23 (by decide)).pad (pad_rep [] (.int (0 : Int32)) 2)
    refine own_st (T' := T23) (F' := (mkF m 42 #[.val (.long x0), .second, .val (.long x1), .second, .val (.long x2), .second, .val (.long x3), .second, .val (.long x4), .second, .val (.int x5), .val (.int j12_1), .val (.ref b2), .unset, .unset, .unset, .unset, .unset, .unset, .unset, .unset, .unset, .unset, .unset] [(.ref b23), (.ref b17), (.ref b17)])) (fun _ k => st23 _ k) ?_
    refine own_st (T' := T23) (F' := (mkF m 43 #[.val (.long x0), .second, .val (.long x1), .second, .val (.long x2), .second, .val (.long x3), .second, .val (.long x4), .second, .val (.int x5), .val (.int j12_1), .val (.ref b2), .unset, .unset, .unset, .unset, .unset, .unset, .unset, .unset, .unset, .unset, .unset] [(.ref b23), (.ref b23), (.ref b17), (.ref b17)])) (fun _ k => XS.dup X23.here hx rfl (hb hby at_42) rfl rfl k) ?_
    refine own_st (T' := T23) (F' := (mkF m 44 #[.val (.long x0), .second, .val (.long x1), .second, .val (.long x2), .second, .val (.long x3), .second, .val (.long x4), .second, .val (.int x5), .val (.int j12_1), .val (.ref b2), .unset, .unset, .unset, .unset, .unset, .unset, .unset, .unset, .unset, .unset, .unset] [(.int (0 : Int32)), (.ref b23), (.ref b23), (.ref b17), (.ref b17)])) (fun _ k => XS.iconst X23.here hx rfl (hb hby at_43) k) ?_
    refine own_st (T' := T23) (F' := (mkF m 46 #[.val (.long x0), .second, .val (.long x1), .second, .val (.long x2), .second, .val (.long x3), .second, .val (.long x4), .second, .val (.int x5), .val (.int j12_1), .val (.ref b2), .unset, .unset, .unset, .unset, .unset, .unset, .unset, .unset, .unset, .unset, .unset] [(.int x5), (.int (0 : Int32)), (.ref b23), (.ref b23), (.ref b17), (.ref b17)])) (fun _ k => XS.iload X23.here hx rfl (hb hby at_44) rfl  k) ?_
    refine own_st (T' := T23) (F' := (mkF m 48 #[.val (.long x0), .second, .val (.long x1), .second, .val (.long x2), .second, .val (.long x3), .second, .val (.long x4), .second, .val (.int x5), .val (.int j12_1), .val (.ref b2), .unset, .unset, .unset, .unset, .unset, .unset, .unset, .unset, .unset, .unset, .unset] [(.int (16 : Int32)), (.int x5), (.int (0 : Int32)), (.ref b23), (.ref b23), (.ref b17), (.ref b17)])) (fun _ k => XS.bipush X23.here hx rfl (hb hby at_46) k) ?_
    refine own_st (T' := T23) (F' := (mkF m 49 #[.val (.long x0), .second, .val (.long x1), .second, .val (.long x2), .second, .val (.long x3), .second, .val (.long x4), .second, .val (.int x5), .val (.int j12_1), .val (.ref b2), .unset, .unset, .unset, .unset, .unset, .unset, .unset, .unset, .unset, .unset, .unset] [(.int (x5 >>> ((16 : Int32) &&& 31))), (.int (0 : Int32)), (.ref b23), (.ref b23), (.ref b17), (.ref b17)])) (fun _ k => XS.ishr X23.here hx rfl (hb hby at_48) rfl k) ?_
    refine own_st (T' := T23) (F' := (mkF m 50 #[.val (.long x0), .second, .val (.long x1), .second, .val (.long x2), .second, .val (.long x3), .second, .val (.long x4), .second, .val (.int x5), .val (.int j12_1), .val (.ref b2), .unset, .unset, .unset, .unset, .unset, .unset, .unset, .unset, .unset, .unset, .unset] [(.int ((x5 >>> ((16 : Int32) &&& 31)).toInt8.toInt32)), (.int (0 : Int32)), (.ref b23), (.ref b23), (.ref b17), (.ref b17)])) (fun _ k => XS.i2b X23.here hx rfl (hb hby at_49) rfl k) ?_
    obtain ⟨cl30, Ar30, Aq30, As30, Am30, Ah30, Au30⟩ := id V23
    have hin30 : ¬ ((0 : Int32) < 0 ∨ cl30.slots.size ≤ ((0 : Int32)).toNatClampNeg) := inb_of As30 ⟨by decide, by decide⟩
    obtain ⟨T30, h30, X30, e30, W30, st30⟩ := stB X23 hx hZ e23 Ar30 (j := (0 : Int32)) hin30 (g := (mkF m 50 #[.val (.long x0), .second, .val (.long x1), .second, .val (.long x2), .second, .val (.long x3), .second, .val (.long x4), .second, .val (.int x5), .val (.int j12_1), .val (.ref b2), .unset, .unset, .unset, .unset, .unset, .unset, .unset, .unset, .unset, .unset, .unset] [(.int ((x5 >>> ((16 : Int32) &&& 31)).toInt8.toInt32)), (.int (0 : Int32)), (.ref b23), (.ref b23), (.ref b17), (.ref b17)])) rfl rfl (hb hby at_50)
    have V30 : Arv Z h30 b23 k23 .byte (2 : Int32) [(.int (((x5 >>> ((16 : Int32) &&& 31)).toInt8.toInt32).toInt8.toInt32)), (.int (0 : Int32))] (.int (0 : Int32)) := Arv.set Ar30 Aq30 As30 Am30 Ah30 Au30 (fits_nar_byte _) W30 0 rfl (show 0 < 2 by decide)
    have N30 := Fr.snoc X30 N14 ge23
    have f31 : Exa Z h30 b5 "[B" := f24.wr W30
    have f32 : Arv Z h30 b5 k5 .byte (1 : Int32) [(.int (((x5 >>> ((8 : Int32) &&& 31)).toInt8.toInt32).toInt8.toInt32))] (.int (0 : Int32)) := f25.other W30 ne23_1
    have f33 : Exa Z h30 b2 "com/example/infinite_tail/infinitetail/stream/ByteString" := f26.wr W30
    have f34 : Exa Z h30 b17 "com/example/infinite_tail/infinitetail/stream/ByteString" := f27.wr W30
    have f35 : Fld Z h30 b17 "com/example/infinite_tail/infinitetail/stream/ByteString" "bytes" "[B" .null := f28.other W30 (Or.inl ne23_3)
    have f36 : Fld Z h30 b17 "com/example/infinite_tail/infinitetail/stream/ByteString" "hash" "I" (.int (0 : Int32)) := f29.other W30 (Or.inl ne23_3)
    have f37 : Exa Z h30 b23 "[B" := AE23.wr W30
    have K30 : Keep h0 h30 [] := K23.wr W30 (Or.inr hge23)
    have Zs30 : n0 ≤ h30.size := Nat.le_trans Z0 K30.1
    refine own_st (T' := T30) (F' := (mkF m 51 #[.val (.long x0), .second, .val (.long x1), .second, .val (.long x2), .second, .val (.long x3), .second, .val (.long x4), .second, .val (.int x5), .val (.int j12_1), .val (.ref b2), .unset, .unset, .unset, .unset, .unset, .unset, .unset, .unset, .unset, .unset, .unset] [(.ref b23), (.ref b17), (.ref b17)])) (fun _ k => st30 _ k) ?_
    refine own_st (T' := T30) (F' := (mkF m 52 #[.val (.long x0), .second, .val (.long x1), .second, .val (.long x2), .second, .val (.long x3), .second, .val (.long x4), .second, .val (.int x5), .val (.int j12_1), .val (.ref b2), .unset, .unset, .unset, .unset, .unset, .unset, .unset, .unset, .unset, .unset, .unset] [(.ref b23), (.ref b23), (.ref b17), (.ref b17)])) (fun _ k => XS.dup X30.here hx rfl (hb hby at_51) rfl rfl k) ?_
    refine own_st (T' := T30) (F' := (mkF m 53 #[.val (.long x0), .second, .val (.long x1), .second, .val (.long x2), .second, .val (.long x3), .second, .val (.long x4), .second, .val (.int x5), .val (.int j12_1), .val (.ref b2), .unset, .unset, .unset, .unset, .unset, .unset, .unset, .unset, .unset, .unset, .unset] [(.int (1 : Int32)), (.ref b23), (.ref b23), (.ref b17), (.ref b17)])) (fun _ k => XS.iconst X30.here hx rfl (hb hby at_52) k) ?_
    refine own_st (T' := T30) (F' := (mkF m 55 #[.val (.long x0), .second, .val (.long x1), .second, .val (.long x2), .second, .val (.long x3), .second, .val (.long x4), .second, .val (.int x5), .val (.int j12_1), .val (.ref b2), .unset, .unset, .unset, .unset, .unset, .unset, .unset, .unset, .unset, .unset, .unset] [(.int x5), (.int (1 : Int32)), (.ref b23), (.ref b23), (.ref b17), (.ref b17)])) (fun _ k => XS.iload X30.here hx rfl (hb hby at_53) rfl  k) ?_
    refine own_st (T' := T30) (F' := (mkF m 57 #[.val (.long x0), .second, .val (.long x1), .second, .val (.long x2), .second, .val (.long x3), .second, .val (.long x4), .second, .val (.int x5), .val (.int j12_1), .val (.ref b2), .unset, .unset, .unset, .unset, .unset, .unset, .unset, .unset, .unset, .unset, .unset] [(.int (24 : Int32)), (.int x5), (.int (1 : Int32)), (.ref b23), (.ref b23), (.ref b17), (.ref b17)])) (fun _ k => XS.bipush X30.here hx rfl (hb hby at_55) k) ?_
    refine own_st (T' := T30) (F' := (mkF m 58 #[.val (.long x0), .second, .val (.long x1), .second, .val (.long x2), .second, .val (.long x3), .second, .val (.long x4), .second, .val (.int x5), .val (.int j12_1), .val (.ref b2), .unset, .unset, .unset, .unset, .unset, .unset, .unset, .unset, .unset, .unset, .unset] [(.int (x5 >>> ((24 : Int32) &&& 31))), (.int (1 : Int32)), (.ref b23), (.ref b23), (.ref b17), (.ref b17)])) (fun _ k => XS.ishr X30.here hx rfl (hb hby at_57) rfl k) ?_
    refine own_st (T' := T30) (F' := (mkF m 59 #[.val (.long x0), .second, .val (.long x1), .second, .val (.long x2), .second, .val (.long x3), .second, .val (.long x4), .second, .val (.int x5), .val (.int j12_1), .val (.ref b2), .unset, .unset, .unset, .unset, .unset, .unset, .unset, .unset, .unset, .unset, .unset] [(.int ((x5 >>> ((24 : Int32) &&& 31)).toInt8.toInt32)), (.int (1 : Int32)), (.ref b23), (.ref b23), (.ref b17), (.ref b17)])) (fun _ k => XS.i2b X30.here hx rfl (hb hby at_58) rfl k) ?_
    obtain ⟨cl38, Ar38, Aq38, As38, Am38, Ah38, Au38⟩ := id V30
    have hin38 : ¬ ((1 : Int32) < 0 ∨ cl38.slots.size ≤ ((1 : Int32)).toNatClampNeg) := inb_of As38 ⟨by decide, by decide⟩
    obtain ⟨T38, h38, X38, e38, W38, st38⟩ := stB X30 hx hZ e30 Ar38 (j := (1 : Int32)) hin38 (g := (mkF m 59 #[.val (.long x0), .second, .val (.long x1), .second, .val (.long x2), .second, .val (.long x3), .second, .val (.long x4), .second, .val (.int x5), .val (.int j12_1), .val (.ref b2), .unset, .unset, .unset, .unset, .unset, .unset, .unset, .unset, .unset, .unset, .unset] [(.int ((x5 >>> ((24 : Int32) &&& 31)).toInt8.toInt32)), (.int (1 : Int32)), (.ref b23), (.ref b23), (.ref b17), (.ref b17)])) rfl rfl (hb hby at_59)
    have V38 : Arv Z h38 b23 k23 .byte (2 : Int32) [(.int (((x5 >>> ((16 : Int32) &&& 31)).toInt8.toInt32).toInt8.toInt32)), (.int (((x5 >>> ((24 : Int32) &&& 31)).toInt8.toInt32).toInt8.toInt32))] (.int (0 : Int32)) := Arv.set Ar38 Aq38 As38 Am38 Ah38 Au38 (fits_nar_byte _) W38 1 rfl (show 1 < 2 by decide)
    have N38 := Fr.snoc X38 N30 ge23
    have f39 : Exa Z h38 b5 "[B" := f31.wr W38
    have f40 : Arv Z h38 b5 k5 .byte (1 : Int32) [(.int (((x5 >>> ((8 : Int32) &&& 31)).toInt8.toInt32).toInt8.toInt32))] (.int (0 : Int32)) := f32.other W38 ne23_1
    have f41 : Exa Z h38 b2 "com/example/infinite_tail/infinitetail/stream/ByteString" := f33.wr W38
    have f42 : Exa Z h38 b17 "com/example/infinite_tail/infinitetail/stream/ByteString" := f34.wr W38
    have f43 : Fld Z h38 b17 "com/example/infinite_tail/infinitetail/stream/ByteString" "bytes" "[B" .null := f35.other W38 (Or.inl ne23_3)
    have f44 : Fld Z h38 b17 "com/example/infinite_tail/infinitetail/stream/ByteString" "hash" "I" (.int (0 : Int32)) := f36.other W38 (Or.inl ne23_3)
    have f45 : Exa Z h38 b23 "[B" := f37.wr W38
    have K38 : Keep h0 h38 [] := K30.wr W38 (Or.inr hge23)
    have Zs38 : n0 ≤ h38.size := Nat.le_trans Z0 K38.1
    refine own_st (T' := T38) (F' := (mkF m 60 #[.val (.long x0), .second, .val (.long x1), .second, .val (.long x2), .second, .val (.long x3), .second, .val (.long x4), .second, .val (.int x5), .val (.int j12_1), .val (.ref b2), .unset, .unset, .unset, .unset, .unset, .unset, .unset, .unset, .unset, .unset, .unset] [(.ref b23), (.ref b17), (.ref b17)])) (fun _ k => st38 _ k) ?_
    obtain ⟨_, _, ⟨T46, L46, k46, n46⟩, -, X46, ⟨Lc46, hQ46, l46, y46, z46⟩, st46⟩ := X38.specialBack hx (y := (⟨"com/example/infinite_tail/infinitetail/stream/ByteString", "<init>", "([B)V"⟩ : MethodName)) rfl hown (mvT hZ (hw _ (List.mem_of_getElem? (i := 4) rfl))) (mvT hZ (hw _ (List.mem_of_getElem? (i := 5) rfl))) (mvT hZ (hw _ (List.mem_of_getElem? (i := 6) rfl))) (by decide) (backOf (W := 1) (rm1t2 l Z a0 hw [] b17 b23 (.null) (.int (0 : Int32)) k23 (((x5 >>> ((16 : Int32) &&& 31)).toInt8.toInt32).toInt8.toInt32) (((x5 >>> ((24 : Int32) &&& 31)).toInt8.toInt32).toInt8.toInt32) h38 n0 Zs38 ge17 f42 f43 f44 V38 f45 (Ne.symm ne23_3)) hZ (hw _ (List.mem_of_getElem? (i := 6) rfl)) (hw _ (List.mem_of_getElem? (i := 2) rfl)) (by decide) (by decide)) (g := (mkF m 60 #[.val (.long x0), .second, .val (.long x1), .second, .val (.long x2), .second, .val (.long x3), .second, .val (.long x4), .second, .val (.int x5), .val (.int j12_1), .val (.ref b2), .unset, .unset, .unset, .unset, .unset, .unset, .unset, .unset, .unset, .unset, .unset] [(.ref b23), (.ref b17), (.ref b17)])) rfl (by rw [hml]; rfl) (Steps.refl _) (a := b17) (argsL := [(.ref b23)]) (rest := [(.ref b17)]) (lenOf own_pd5 rfl) rfl (by show 2 * 0 + _ ≤ _; exact Nat.le_of_eq rfl) (hb hby at_60) (fun _ _ => ⟨rfl, e38, (by decide : 4 + 0 ≤ _), (by decide : 7 + 0 ≤ _)⟩)
    dsimp only [Pt.U, Pt.locs, Pt.cells, Pt.slots] at X46 l46 y46 z46 st46 hQ46
    subst l46 y46 z46
    obtain ⟨rfl, Nq46, g46_0, g46_1⟩ := hQ46
    have N46 := Fr.app N38 Nq46
    have f47 : Exa Z T46.heap b5 "[B" := f39.keep g46_0
    have f48 : Arv Z T46.heap b5 k5 .byte (1 : Int32) [(.int (((x5 >>> ((8 : Int32) &&& 31)).toInt8.toInt32).toInt8.toInt32))] (.int (0 : Int32)) := f40.keep g46_0 (ninS ne17_1 nin0)
    have f49 : Exa Z T46.heap b2 "com/example/infinite_tail/infinitetail/stream/ByteString" := f41.keep g46_0
    have f50 : Exa Z T46.heap b23 "[B" := f45.keep g46_0
    have f51 : Arv Z T46.heap b23 k23 .byte (2 : Int32) [(.int (((x5 >>> ((16 : Int32) &&& 31)).toInt8.toInt32).toInt8.toInt32)), (.int (((x5 >>> ((24 : Int32) &&& 31)).toInt8.toInt32).toInt8.toInt32))] (.int (0 : Int32)) := V38.keep g46_0 (ninS (Ne.symm ne23_3) nin0)
    have K46 : Keep h0 T46.heap [] := K38.trans g46_0 (allS (Or.inr hge17) all0)
    have Zs46 : n0 ≤ T46.heap.size := Nat.le_trans Z0 K46.1
    refine own_tr (T' := T46) (F' := (mkF m 63 #[.val (.long x0), .second, .val (.long x1), .second, .val (.long x2), .second, .val (.long x3), .second, .val (.long x4), .second, .val (.int x5), .val (.int j12_1), .val (.ref b2), .unset, .unset, .unset, .unset, .unset, .unset, .unset, .unset, .unset, .unset, .unset] [(.ref b17)])) st46 ?_
    refine own_st (T' := T46) (F' := (mkF m 65 #[.val (.long x0), .second, .val (.long x1), .second, .val (.long x2), .second, .val (.long x3), .second, .val (.long x4), .second, .val (.int x5), .val (.int j12_1), .val (.ref b2), .val (.ref b17), .unset, .unset, .unset, .unset, .unset, .unset, .unset, .unset, .unset, .unset] [])) (fun _ k => XS.astore X46.here hx rfl (hb hby at_63) rfl rfl (l' := #[.val (.long x0), .second, .val (.long x1), .second, .val (.long x2), .second, .val (.long x3), .second, .val (.long x4), .second, .val (.int x5), .val (.int j12_1), .val (.ref b2), .val (.ref b17), .unset, .unset, .unset, .unset, .unset, .unset, .unset, .unset, .unset, .unset]) rfl k) ?_
    obtain ⟨T52, h52, X52, e52, E52, A52, D52, -, st52⟩ := newO X46 hx hZ hown (hw _ (List.mem_of_getElem? (i := 27) rfl)) (hw _ (List.mem_of_getElem? (i := 28) rfl)) (hw _ (List.mem_of_getElem? (i := 29) rfl)) rfl (g := (mkF m 65 #[.val (.long x0), .second, .val (.long x1), .second, .val (.long x2), .second, .val (.long x3), .second, .val (.long x4), .second, .val (.int x5), .val (.int j12_1), .val (.ref b2), .val (.ref b17), .unset, .unset, .unset, .unset, .unset, .unset, .unset, .unset, .unset, .unset] [])) rfl (hb hby at_65) (by decide) (by decide)
    obtain ⟨b52, g52⟩ : ∃ z, z = T46.heap.size := ⟨_, rfl⟩
    rw [← g52] at A52 D52 st52
    have ge52 : n0 ≤ b52 := by rw [g52]; exact Zs46
    have hge52 : h0.size ≤ b52 := by rw [g52]; exact K46.1
    have ne52_1 : b5 ≠ b52 := by rw [g52]; exact Nat.ne_of_lt f47.lt
    have ne52_2 : b2 ≠ b52 := by rw [g52]; exact Nat.ne_of_lt f49.lt
    have ne52_3 : b23 ≠ b52 := by rw [g52]; exact Nat.ne_of_lt f50.lt
    have ne52_4 : b17 ≠ b52 := by rw [g52]; exact Nat.ne_of_lt g46_1.lt
    have f53 : Exa Z h52 b5 "[B" := f47.ext E52
    have f54 : Arv Z h52 b5 k5 .byte (1 : Int32) [(.int (((x5 >>> ((8 : Int32) &&& 31)).toInt8.toInt32).toInt8.toInt32))] (.int (0 : Int32)) := f48.ext E52
    have f55 : Exa Z h52 b2 "com/example/infinite_tail/infinitetail/stream/ByteString" := f49.ext E52
    have f56 : Exa Z h52 b23 "[B" := f50.ext E52
    have f57 : Arv Z h52 b23 k23 .byte (2 : Int32) [(.int (((x5 >>> ((16 : Int32) &&& 31)).toInt8.toInt32).toInt8.toInt32)), (.int (((x5 >>> ((24 : Int32) &&& 31)).toInt8.toInt32).toInt8.toInt32))] (.int (0 : Int32)) := f51.ext E52
    have f58 : Exa Z h52 b17 "com/example/infinite_tail/infinitetail/stream/ByteString" := g46_1.ext E52
    have K52 : Keep h0 h52 [] := K46.ext E52
    have Zs52 : n0 ≤ h52.size := Nat.le_trans Z0 K52.1
    have f59 : Fld Z h52 b52 "com/example/infinite_tail/infinitetail/stream/PendingEntry" "milliseconds" "J" (.long (0 : Int64)) := D52 (Or.inr (hw _ (List.mem_of_getElem? (i := 51) rfl))) (ty := .long) (by decide)
    have f60 : Fld Z h52 b52 "com/example/infinite_tail/infinitetail/stream/PendingEntry" "sequence" "J" (.long (0 : Int64)) := D52 (Or.inr (hw _ (List.mem_of_getElem? (i := 58) rfl))) (ty := .long) (by decide)
    have f61 : Fld Z h52 b52 "com/example/infinite_tail/infinitetail/stream/PendingEntry" "consumer" "Lcom/example/infinite_tail/infinitetail/stream/ByteString;" .null := D52 (Or.inl (hw _ (List.mem_of_getElem? (i := 60) rfl))) (ty := (.object "com/example/infinite_tail/infinitetail/stream/ByteString")) (by decide)
    have f62 : Fld Z h52 b52 "com/example/infinite_tail/infinitetail/stream/PendingEntry" "deliveredAt" "J" (.long (0 : Int64)) := D52 (Or.inl (hw _ (List.mem_of_getElem? (i := 62) rfl))) (ty := .long) (by decide)
    have f63 : Fld Z h52 b52 "com/example/infinite_tail/infinitetail/stream/PendingEntry" "deliveryCount" "J" (.long (0 : Int64)) := D52 (Or.inl (hw _ (List.mem_of_getElem? (i := 64) rfl))) (ty := .long) (by decide)
    refine own_st (T' := T52) (F' := (mkF m 68 #[.val (.long x0), .second, .val (.long x1), .second, .val (.long x2), .second, .val (.long x3), .second, .val (.long x4), .second, .val (.int x5), .val (.int j12_1), .val (.ref b2), .val (.ref b17), .unset, .unset, .unset, .unset, .unset, .unset, .unset, .unset, .unset, .unset] [(.ref b52)])) (fun _ k => st52 _ k) ?_
    refine own_st (T' := T52) (F' := (mkF m 69 #[.val (.long x0), .second, .val (.long x1), .second, .val (.long x2), .second, .val (.long x3), .second, .val (.long x4), .second, .val (.int x5), .val (.int j12_1), .val (.ref b2), .val (.ref b17), .unset, .unset, .unset, .unset, .unset, .unset, .unset, .unset, .unset, .unset] [(.ref b52), (.ref b52)])) (fun _ k => XS.dup X52.here hx rfl (hb hby at_68) rfl rfl k) ?_
    obtain ⟨T64, h64, X64, e64, E64, A64, D64, -, st64⟩ := newO X52 hx hZ hown (hw _ (List.mem_of_getElem? (i := 30) rfl)) (hw _ (List.mem_of_getElem? (i := 31) rfl)) (hw _ (List.mem_of_getElem? (i := 32) rfl)) e52 (g := (mkF m 69 #[.val (.long x0), .second, .val (.long x1), .second, .val (.long x2), .second, .val (.long x3), .second, .val (.long x4), .second, .val (.int x5), .val (.int j12_1), .val (.ref b2), .val (.ref b17), .unset, .unset, .unset, .unset, .unset, .unset, .unset, .unset, .unset, .unset] [(.ref b52), (.ref b52)])) rfl (hb hby at_69) (by decide) (by decide)
    obtain ⟨b64, g64⟩ : ∃ z, z = h52.size := ⟨_, rfl⟩
    rw [← g64] at A64 D64 st64
    have ge64 : n0 ≤ b64 := by rw [g64]; exact Zs52
    have hge64 : h0.size ≤ b64 := by rw [g64]; exact K52.1
    have ne64_1 : b5 ≠ b64 := by rw [g64]; exact Nat.ne_of_lt f53.lt
    have ne64_2 : b2 ≠ b64 := by rw [g64]; exact Nat.ne_of_lt f55.lt
    have ne64_3 : b23 ≠ b64 := by rw [g64]; exact Nat.ne_of_lt f56.lt
    have ne64_4 : b17 ≠ b64 := by rw [g64]; exact Nat.ne_of_lt f58.lt
    have ne64_5 : b52 ≠ b64 := by rw [g64]; exact Nat.ne_of_lt A52.lt
    have f65 : Exa Z h64 b5 "[B" := f53.ext E64
    have f66 : Arv Z h64 b5 k5 .byte (1 : Int32) [(.int (((x5 >>> ((8 : Int32) &&& 31)).toInt8.toInt32).toInt8.toInt32))] (.int (0 : Int32)) := f54.ext E64
    have f67 : Exa Z h64 b2 "com/example/infinite_tail/infinitetail/stream/ByteString" := f55.ext E64
    have f68 : Exa Z h64 b23 "[B" := f56.ext E64
    have f69 : Arv Z h64 b23 k23 .byte (2 : Int32) [(.int (((x5 >>> ((16 : Int32) &&& 31)).toInt8.toInt32).toInt8.toInt32)), (.int (((x5 >>> ((24 : Int32) &&& 31)).toInt8.toInt32).toInt8.toInt32))] (.int (0 : Int32)) := f57.ext E64
    have f70 : Exa Z h64 b17 "com/example/infinite_tail/infinitetail/stream/ByteString" := f58.ext E64
    have f71 : Exa Z h64 b52 "com/example/infinite_tail/infinitetail/stream/PendingEntry" := A52.ext E64
    have f72 : Fld Z h64 b52 "com/example/infinite_tail/infinitetail/stream/PendingEntry" "milliseconds" "J" (.long (0 : Int64)) := f59.ext E64
    have f73 : Fld Z h64 b52 "com/example/infinite_tail/infinitetail/stream/PendingEntry" "sequence" "J" (.long (0 : Int64)) := f60.ext E64
    have f74 : Fld Z h64 b52 "com/example/infinite_tail/infinitetail/stream/PendingEntry" "consumer" "Lcom/example/infinite_tail/infinitetail/stream/ByteString;" .null := f61.ext E64
    have f75 : Fld Z h64 b52 "com/example/infinite_tail/infinitetail/stream/PendingEntry" "deliveredAt" "J" (.long (0 : Int64)) := f62.ext E64
    have f76 : Fld Z h64 b52 "com/example/infinite_tail/infinitetail/stream/PendingEntry" "deliveryCount" "J" (.long (0 : Int64)) := f63.ext E64
    have K64 : Keep h0 h64 [] := K52.ext E64
    have Zs64 : n0 ≤ h64.size := Nat.le_trans Z0 K64.1
    have f77 : Fld Z h64 b64 "com/example/infinite_tail/infinitetail/stream/StreamId" "milliseconds" "J" (.long (0 : Int64)) := D64 (Or.inr (hw _ (List.mem_of_getElem? (i := 38) rfl))) (ty := .long) (by decide)
    have f78 : Fld Z h64 b64 "com/example/infinite_tail/infinitetail/stream/StreamId" "sequence" "J" (.long (0 : Int64)) := D64 (Or.inr (hw _ (List.mem_of_getElem? (i := 40) rfl))) (ty := .long) (by decide)
    refine own_st (T' := T64) (F' := (mkF m 72 #[.val (.long x0), .second, .val (.long x1), .second, .val (.long x2), .second, .val (.long x3), .second, .val (.long x4), .second, .val (.int x5), .val (.int j12_1), .val (.ref b2), .val (.ref b17), .unset, .unset, .unset, .unset, .unset, .unset, .unset, .unset, .unset, .unset] [(.ref b64), (.ref b52), (.ref b52)])) (fun _ k => st64 _ k) ?_
    refine own_st (T' := T64) (F' := (mkF m 73 #[.val (.long x0), .second, .val (.long x1), .second, .val (.long x2), .second, .val (.long x3), .second, .val (.long x4), .second, .val (.int x5), .val (.int j12_1), .val (.ref b2), .val (.ref b17), .unset, .unset, .unset, .unset, .unset, .unset, .unset, .unset, .unset, .unset] [(.ref b64), (.ref b64), (.ref b52), (.ref b52)])) (fun _ k => XS.dup X64.here hx rfl (hb hby at_72) rfl rfl k) ?_
    refine own_st (T' := T64) (F' := (mkF m 74 #[.val (.long x0), .second, .val (.long x1), .second, .val (.long x2), .second, .val (.long x3), .second, .val (.long x4), .second, .val (.int x5), .val (.int j12_1), .val (.ref b2), .val (.ref b17), .unset, .unset, .unset, .unset, .unset, .unset, .unset, .unset, .unset, .unset] [(.long x0), (.ref b64), (.ref b64), (.ref b52), (.ref b52)])) (fun _ k => XS.lloadN X64.here hx rfl (hb hby at_73) rfl  k) ?_
    refine own_st (T' := T64) (F' := (mkF m 76 #[.val (.long x0), .second, .val (.long x1), .second, .val (.long x2), .second, .val (.long x3), .second, .val (.long x4), .second, .val (.int x5), .val (.int j12_1), .val (.ref b2), .val (.ref b17), .unset, .unset, .unset, .unset, .unset, .unset, .unset, .unset, .unset, .unset] [(.long x2), (.long x0), (.ref b64), (.ref b64), (.ref b52), (.ref b52)])) (fun _ k => XS.lload X64.here hx rfl (hb hby at_74) rfl  k) ?_
    refine own_st (T' := T64) (F' := (mkF m 78 #[.val (.long x0), .second, .val (.long x1), .second, .val (.long x2), .second, .val (.long x3), .second, .val (.long x4), .second, .val (.int x5), .val (.int j12_1), .val (.ref b2), .val (.ref b17), .unset, .unset, .unset, .unset, .unset, .unset, .unset, .unset, .unset, .unset] [(.long x4), (.long x2), (.long x0), (.ref b64), (.ref b64), (.ref b52), (.ref b52)])) (fun _ k => XS.lload X64.here hx rfl (hb hby at_76) rfl  k) ?_
    refine own_st (T' := T64) (F' := (mkF m 79 #[.val (.long x0), .second, .val (.long x1), .second, .val (.long x2), .second, .val (.long x3), .second, .val (.long x4), .second, .val (.int x5), .val (.int j12_1), .val (.ref b2), .val (.ref b17), .unset, .unset, .unset, .unset, .unset, .unset, .unset, .unset, .unset, .unset] [(.long (x2 ^^^ x4)), (.long x0), (.ref b64), (.ref b64), (.ref b52), (.ref b52)])) (fun _ k => XS.lxor X64.here hx rfl (hb hby at_78) rfl k) ?_
    obtain ⟨_, _, ⟨T79, L79, k79, n79⟩, -, X79, ⟨Lc79, hQ79, l79, y79, z79⟩, st79⟩ := X64.specialBack hx (y := (⟨"com/example/infinite_tail/infinitetail/stream/StreamId", "<init>", "(JJ)V"⟩ : MethodName)) rfl hown (mvT hZ (hw _ (List.mem_of_getElem? (i := 33) rfl))) (mvT hZ (hw _ (List.mem_of_getElem? (i := 34) rfl))) (mvT hZ (hw _ (List.mem_of_getElem? (i := 35) rfl))) (by decide) (backOf (W := 3) (rm6 l Z a0 hw [] b64 x0 (x2 ^^^ x4) (.long (0 : Int64)) (.long (0 : Int64)) h64 n0 Zs64 ge64 A64 f77 f78) hZ (hw _ (List.mem_of_getElem? (i := 35) rfl)) (hw _ (List.mem_of_getElem? (i := 32) rfl)) (by decide) (by decide)) (g := (mkF m 79 #[.val (.long x0), .second, .val (.long x1), .second, .val (.long x2), .second, .val (.long x3), .second, .val (.long x4), .second, .val (.int x5), .val (.int j12_1), .val (.ref b2), .val (.ref b17), .unset, .unset, .unset, .unset, .unset, .unset, .unset, .unset, .unset, .unset] [(.long (x2 ^^^ x4)), (.long x0), (.ref b64), (.ref b64), (.ref b52), (.ref b52)])) rfl (by rw [hml]; rfl) (Steps.refl _) (a := b64) (argsL := [(.long x0), (.long (x2 ^^^ x4))]) (rest := [(.ref b64), (.ref b52), (.ref b52)]) (lenOf own_pd6 rfl) rfl (by show 2 * 0 + _ ≤ _; exact Nat.le_of_eq rfl) (hb hby at_79) (fun _ _ => ⟨rfl, e64, (by decide : 6 + 0 ≤ _), (by decide : 14 + 0 ≤ _)⟩)
    dsimp only [Pt.U, Pt.locs, Pt.cells, Pt.slots] at X79 l79 y79 z79 st79 hQ79
    subst l79 y79 z79
    obtain ⟨rfl, Nq79, g79_0, g79_1, g79_2, g79_3⟩ := hQ79
    have N79 := Fr.app N46 Nq79
    have f80 : Exa Z T79.heap b5 "[B" := f65.keep g79_0
    have f81 : Arv Z T79.heap b5 k5 .byte (1 : Int32) [(.int (((x5 >>> ((8 : Int32) &&& 31)).toInt8.toInt32).toInt8.toInt32))] (.int (0 : Int32)) := f66.keep g79_0 (ninS ne64_1 nin0)
    have f82 : Exa Z T79.heap b2 "com/example/infinite_tail/infinitetail/stream/ByteString" := f67.keep g79_0
    have f83 : Exa Z T79.heap b23 "[B" := f68.keep g79_0
    have f84 : Arv Z T79.heap b23 k23 .byte (2 : Int32) [(.int (((x5 >>> ((16 : Int32) &&& 31)).toInt8.toInt32).toInt8.toInt32)), (.int (((x5 >>> ((24 : Int32) &&& 31)).toInt8.toInt32).toInt8.toInt32))] (.int (0 : Int32)) := f69.keep g79_0 (ninS ne64_3 nin0)
    have f85 : Exa Z T79.heap b17 "com/example/infinite_tail/infinitetail/stream/ByteString" := f70.keep g79_0
    have f86 : Exa Z T79.heap b52 "com/example/infinite_tail/infinitetail/stream/PendingEntry" := f71.keep g79_0
    have f87 : Fld Z T79.heap b52 "com/example/infinite_tail/infinitetail/stream/PendingEntry" "milliseconds" "J" (.long (0 : Int64)) := f72.keep g79_0 (ninS ne64_5 nin0)
    have f88 : Fld Z T79.heap b52 "com/example/infinite_tail/infinitetail/stream/PendingEntry" "sequence" "J" (.long (0 : Int64)) := f73.keep g79_0 (ninS ne64_5 nin0)
    have f89 : Fld Z T79.heap b52 "com/example/infinite_tail/infinitetail/stream/PendingEntry" "consumer" "Lcom/example/infinite_tail/infinitetail/stream/ByteString;" .null := f74.keep g79_0 (ninS ne64_5 nin0)
    have f90 : Fld Z T79.heap b52 "com/example/infinite_tail/infinitetail/stream/PendingEntry" "deliveredAt" "J" (.long (0 : Int64)) := f75.keep g79_0 (ninS ne64_5 nin0)
    have f91 : Fld Z T79.heap b52 "com/example/infinite_tail/infinitetail/stream/PendingEntry" "deliveryCount" "J" (.long (0 : Int64)) := f76.keep g79_0 (ninS ne64_5 nin0)
    have K79 : Keep h0 T79.heap [] := K64.trans g79_0 (allS (Or.inr hge64) all0)
    have Zs79 : n0 ≤ T79.heap.size := Nat.le_trans Z0 K79.1
    refine own_tr (T' := T79) (F' := (mkF m 82 #[.val (.long x0), .second, .val (.long x1), .second, .val (.long x2), .second, .val (.long x3), .second, .val (.long x4), .second, .val (.int x5), .val (.int j12_1), .val (.ref b2), .val (.ref b17), .unset, .unset, .unset, .unset, .unset, .unset, .unset, .unset, .unset, .unset] [(.ref b64), (.ref b52), (.ref b52)])) st79 ?_
    refine own_st (T' := T79) (F' := (mkF m 84 #[.val (.long x0), .second, .val (.long x1), .second, .val (.long x2), .second, .val (.long x3), .second, .val (.long x4), .second, .val (.int x5), .val (.int j12_1), .val (.ref b2), .val (.ref b17), .unset, .unset, .unset, .unset, .unset, .unset, .unset, .unset, .unset, .unset] [(.ref b2), (.ref b64), (.ref b52), (.ref b52)])) (fun _ k => XS.aload X79.here hx rfl (hb hby at_82) rfl rfl k) ?_
    refine own_st (T' := T79) (F' := (mkF m 86 #[.val (.long x0), .second, .val (.long x1), .second, .val (.long x2), .second, .val (.long x3), .second, .val (.long x4), .second, .val (.int x5), .val (.int j12_1), .val (.ref b2), .val (.ref b17), .unset, .unset, .unset, .unset, .unset, .unset, .unset, .unset, .unset, .unset] [(.long x2), (.ref b2), (.ref b64), (.ref b52), (.ref b52)])) (fun _ k => XS.lload X79.here hx rfl (hb hby at_84) rfl  k) ?_
    refine own_st (T' := T79) (F' := (mkF m 87 #[.val (.long x0), .second, .val (.long x1), .second, .val (.long x2), .second, .val (.long x3), .second, .val (.long x4), .second, .val (.int x5), .val (.int j12_1), .val (.ref b2), .val (.ref b17), .unset, .unset, .unset, .unset, .unset, .unset, .unset, .unset, .unset, .unset] [(.long x1), (.long x2), (.ref b2), (.ref b64), (.ref b52), (.ref b52)])) (fun _ k => XS.lloadN X79.here hx rfl (hb hby at_86) rfl  k) ?_
    obtain ⟨_, _, ⟨T92, L92, k92, n92⟩, -, X92, ⟨Lc92, hQ92, l92, y92, z92⟩, st92⟩ := X79.specialBack hx (y := (⟨"com/example/infinite_tail/infinitetail/stream/PendingEntry", "<init>", "(Lcom/example/infinite_tail/infinitetail/stream/StreamId;Lcom/example/infinite_tail/infinitetail/stream/ByteString;JJ)V"⟩ : MethodName)) rfl hown (mvT hZ (hw _ (List.mem_of_getElem? (i := 41) rfl))) (mvT hZ (hw _ (List.mem_of_getElem? (i := 42) rfl))) (mvT hZ (hw _ (List.mem_of_getElem? (i := 43) rfl))) (by decide) (backOf (W := 1) (rm7 l Z a0 hw [] b52 b64 b2 x2 x1 (.long (0 : Int64)) (.long (0 : Int64)) (.null) (.long (0 : Int64)) (.long (0 : Int64)) x0 (x2 ^^^ x4) T79.heap n0 Zs79 ge52 f86 f87 f88 f89 f90 f91 g79_1 g79_2 g79_3 (Ne.symm ne64_5)) hZ (hw _ (List.mem_of_getElem? (i := 43) rfl)) (hw _ (List.mem_of_getElem? (i := 29) rfl)) (by decide) (by decide)) (g := (mkF m 87 #[.val (.long x0), .second, .val (.long x1), .second, .val (.long x2), .second, .val (.long x3), .second, .val (.long x4), .second, .val (.int x5), .val (.int j12_1), .val (.ref b2), .val (.ref b17), .unset, .unset, .unset, .unset, .unset, .unset, .unset, .unset, .unset, .unset] [(.long x1), (.long x2), (.ref b2), (.ref b64), (.ref b52), (.ref b52)])) rfl (by rw [hml]; rfl) (Steps.refl _) (a := b52) (argsL := [(.ref b64), (.ref b2), (.long x2), (.long x1)]) (rest := [(.ref b52)]) (lenOf own_pd7 rfl) rfl (by show 2 * 0 + _ ≤ _; exact Nat.le_of_eq rfl) (hb hby at_87) (fun _ _ => ⟨rfl, rfl, (by decide : 6 + 0 ≤ _), (by decide : 14 + 0 ≤ _)⟩)
    dsimp only [Pt.U, Pt.locs, Pt.cells, Pt.slots] at X92 l92 y92 z92 st92 hQ92
    subst l92 y92 z92
    obtain ⟨rfl, Nq92, g92_0, g92_1, g92_2, g92_3, g92_4⟩ := hQ92
    have N92 := Fr.app N79 Nq92
    have f93 : Exa Z T92.heap b5 "[B" := f80.keep g92_0
    have f94 : Arv Z T92.heap b5 k5 .byte (1 : Int32) [(.int (((x5 >>> ((8 : Int32) &&& 31)).toInt8.toInt32).toInt8.toInt32))] (.int (0 : Int32)) := f81.keep g92_0 (ninS ne52_1 nin0)
    have f95 : Exa Z T92.heap b2 "com/example/infinite_tail/infinitetail/stream/ByteString" := f82.keep g92_0
    have f96 : Exa Z T92.heap b23 "[B" := f83.keep g92_0
    have f97 : Arv Z T92.heap b23 k23 .byte (2 : Int32) [(.int (((x5 >>> ((16 : Int32) &&& 31)).toInt8.toInt32).toInt8.toInt32)), (.int (((x5 >>> ((24 : Int32) &&& 31)).toInt8.toInt32).toInt8.toInt32))] (.int (0 : Int32)) := f84.keep g92_0 (ninS ne52_3 nin0)
    have f98 : Exa Z T92.heap b17 "com/example/infinite_tail/infinitetail/stream/ByteString" := f85.keep g92_0
    have f99 : Exa Z T92.heap b64 "com/example/infinite_tail/infinitetail/stream/StreamId" := g79_1.keep g92_0
    have f100 : Fld Z T92.heap b64 "com/example/infinite_tail/infinitetail/stream/StreamId" "milliseconds" "J" (.long x0) := g79_2.keep g92_0 (ninS (Ne.symm ne64_5) nin0)
    have f101 : Fld Z T92.heap b64 "com/example/infinite_tail/infinitetail/stream/StreamId" "sequence" "J" (.long (x2 ^^^ x4)) := g79_3.keep g92_0 (ninS (Ne.symm ne64_5) nin0)
    have K92 : Keep h0 T92.heap [] := K79.trans g92_0 (allS (Or.inr hge52) all0)
    have Zs92 : n0 ≤ T92.heap.size := Nat.le_trans Z0 K92.1
    refine own_tr (T' := T92) (F' := (mkF m 90 #[.val (.long x0), .second, .val (.long x1), .second, .val (.long x2), .second, .val (.long x3), .second, .val (.long x4), .second, .val (.int x5), .val (.int j12_1), .val (.ref b2), .val (.ref b17), .unset, .unset, .unset, .unset, .unset, .unset, .unset, .unset, .unset, .unset] [(.ref b52)])) st92 ?_
    refine own_st (T' := T92) (F' := (mkF m 92 #[.val (.long x0), .second, .val (.long x1), .second, .val (.long x2), .second, .val (.long x3), .second, .val (.long x4), .second, .val (.int x5), .val (.int j12_1), .val (.ref b2), .val (.ref b17), .val (.ref b52), .unset, .unset, .unset, .unset, .unset, .unset, .unset, .unset, .unset] [])) (fun _ k => XS.astore X92.here hx rfl (hb hby at_90) rfl rfl (l' := #[.val (.long x0), .second, .val (.long x1), .second, .val (.long x2), .second, .val (.long x3), .second, .val (.long x4), .second, .val (.int x5), .val (.int j12_1), .val (.ref b2), .val (.ref b17), .val (.ref b52), .unset, .unset, .unset, .unset, .unset, .unset, .unset, .unset, .unset]) rfl k) ?_
    refine own_st (T' := T92) (F' := (mkF m 94 #[.val (.long x0), .second, .val (.long x1), .second, .val (.long x2), .second, .val (.long x3), .second, .val (.long x4), .second, .val (.int x5), .val (.int j12_1), .val (.ref b2), .val (.ref b17), .val (.ref b52), .unset, .unset, .unset, .unset, .unset, .unset, .unset, .unset, .unset] [(.ref b52)])) (fun _ k => XS.aload X92.here hx rfl (hb hby at_92) rfl rfl k) ?_
    refine own_st (T' := T92) (F' := (mkF m 96 #[.val (.long x0), .second, .val (.long x1), .second, .val (.long x2), .second, .val (.long x3), .second, .val (.long x4), .second, .val (.int x5), .val (.int j12_1), .val (.ref b2), .val (.ref b17), .val (.ref b52), .unset, .unset, .unset, .unset, .unset, .unset, .unset, .unset, .unset] [(.ref b17), (.ref b52)])) (fun _ k => XS.aload X92.here hx rfl (hb hby at_94) rfl rfl k) ?_
    refine own_st (T' := T92) (F' := (mkF m 98 #[.val (.long x0), .second, .val (.long x1), .second, .val (.long x2), .second, .val (.long x3), .second, .val (.long x4), .second, .val (.int x5), .val (.int j12_1), .val (.ref b2), .val (.ref b17), .val (.ref b52), .unset, .unset, .unset, .unset, .unset, .unset, .unset, .unset, .unset] [(.long x3), (.ref b17), (.ref b52)])) (fun _ k => XS.lload X92.here hx rfl (hb hby at_96) rfl  k) ?_
    refine own_st (T' := T92) (F' := (mkF m 100 #[.val (.long x0), .second, .val (.long x1), .second, .val (.long x2), .second, .val (.long x3), .second, .val (.long x4), .second, .val (.int x5), .val (.int j12_1), .val (.ref b2), .val (.ref b17), .val (.ref b52), .unset, .unset, .unset, .unset, .unset, .unset, .unset, .unset, .unset] [(.int j12_1), (.long x3), (.ref b17), (.ref b52)])) (fun _ k => XS.iload X92.here hx rfl (hb hby at_98) rfl  k) ?_
    obtain ⟨cq102, kq102, q102a, q102b, q102c⟩ := isOf hZ rfl g92_1
    obtain ⟨_, _, ⟨T102, L102, k102, n102⟩, -, X102, ⟨Lc102, hQ102, l102, y102, z102⟩, st102⟩ := X92.virtualBack hx (y := (⟨"com/example/infinite_tail/infinitetail/stream/PendingEntry", "delivered", "(Lcom/example/infinite_tail/infinitetail/stream/ByteString;JZ)V"⟩ : MethodName)) (z := (⟨"com/example/infinite_tail/infinitetail/stream/PendingEntry", "delivered", "(Lcom/example/infinite_tail/infinitetail/stream/ByteString;JZ)V"⟩ : MethodName)) hown (mvT hZ (hw _ (List.mem_of_getElem? (i := 65) rfl))) (mvT hZ (hw _ (List.mem_of_getElem? (i := 66) rfl))) (notFace_of_selects (args := #[]) (mvT hZ (hw _ (List.mem_of_getElem? (i := 68) rfl)))) (mvT hZ (hw _ (List.mem_of_getElem? (i := 68) rfl))) (mvT hZ (hw _ (List.mem_of_getElem? (i := 67) rfl))) (by decide) (backOf (W := 0) (rm10 l Z a0 hw [] b52 b17 x3 j12_1 (.ref b2) (.long x2) x1 T92.heap n0 Zs92 ge52 g92_1 g92_2 g92_3 g92_4) hZ (hw _ (List.mem_of_getElem? (i := 69) rfl)) (hw _ (List.mem_of_getElem? (i := 29) rfl)) (by decide) (by decide)) q102a q102c (g := (mkF m 100 #[.val (.long x0), .second, .val (.long x1), .second, .val (.long x2), .second, .val (.long x3), .second, .val (.long x4), .second, .val (.int x5), .val (.int j12_1), .val (.ref b2), .val (.ref b17), .val (.ref b52), .unset, .unset, .unset, .unset, .unset, .unset, .unset, .unset, .unset] [(.int j12_1), (.long x3), (.ref b17), (.ref b52)])) rfl (by rw [hml]; rfl) (Steps.refl _) (argsL := [(.ref b17), (.long x3), (.int j12_1)]) (rest := []) (lenOf own_pd8 rfl) rfl (by show 2 * 0 + _ ≤ _; exact Nat.le_of_eq rfl) (hb hby at_100) (fun _ _ => ⟨rfl, rfl, (by decide : 6 + 0 ≤ _), (by decide : 14 + 0 ≤ _)⟩)
    dsimp only [Pt.U, Pt.locs, Pt.cells, Pt.slots] at X102 l102 y102 z102 st102 hQ102
    subst l102 y102 z102
    obtain ⟨rfl, Nq102, g102_0, g102_1, g102_2, g102_3, g102_4⟩ := hQ102
    have N102 := Fr.app N92 Nq102
    have f103 : Exa Z T102.heap b5 "[B" := f93.keep g102_0
    have f104 : Arv Z T102.heap b5 k5 .byte (1 : Int32) [(.int (((x5 >>> ((8 : Int32) &&& 31)).toInt8.toInt32).toInt8.toInt32))] (.int (0 : Int32)) := f94.keep g102_0 (ninS ne52_1 nin0)
    have f105 : Exa Z T102.heap b2 "com/example/infinite_tail/infinitetail/stream/ByteString" := f95.keep g102_0
    have f106 : Exa Z T102.heap b23 "[B" := f96.keep g102_0
    have f107 : Arv Z T102.heap b23 k23 .byte (2 : Int32) [(.int (((x5 >>> ((16 : Int32) &&& 31)).toInt8.toInt32).toInt8.toInt32)), (.int (((x5 >>> ((24 : Int32) &&& 31)).toInt8.toInt32).toInt8.toInt32))] (.int (0 : Int32)) := f97.keep g102_0 (ninS ne52_3 nin0)
    have f108 : Exa Z T102.heap b17 "com/example/infinite_tail/infinitetail/stream/ByteString" := f98.keep g102_0
    have f109 : Exa Z T102.heap b64 "com/example/infinite_tail/infinitetail/stream/StreamId" := f99.keep g102_0
    have f110 : Fld Z T102.heap b64 "com/example/infinite_tail/infinitetail/stream/StreamId" "milliseconds" "J" (.long x0) := f100.keep g102_0 (ninS (Ne.symm ne64_5) nin0)
    have f111 : Fld Z T102.heap b64 "com/example/infinite_tail/infinitetail/stream/StreamId" "sequence" "J" (.long (x2 ^^^ x4)) := f101.keep g102_0 (ninS (Ne.symm ne64_5) nin0)
    have K102 : Keep h0 T102.heap [] := K92.trans g102_0 (allS (Or.inr hge52) all0)
    have Zs102 : n0 ≤ T102.heap.size := Nat.le_trans Z0 K102.1
    obtain ⟨cn102, fcn102, hcn102⟩ := g102_4
    refine own_tr (T' := T102) (F' := (mkF m 103 #[.val (.long x0), .second, .val (.long x1), .second, .val (.long x2), .second, .val (.long x3), .second, .val (.long x4), .second, .val (.int x5), .val (.int j12_1), .val (.ref b2), .val (.ref b17), .val (.ref b52), .unset, .unset, .unset, .unset, .unset, .unset, .unset, .unset, .unset] [])) st102 ?_
    refine own_st (T' := T102) (F' := (mkF m 105 #[.val (.long x0), .second, .val (.long x1), .second, .val (.long x2), .second, .val (.long x3), .second, .val (.long x4), .second, .val (.int x5), .val (.int j12_1), .val (.ref b2), .val (.ref b17), .val (.ref b52), .unset, .unset, .unset, .unset, .unset, .unset, .unset, .unset, .unset] [(.int j12_1)])) (fun _ k => XS.iload X102.here hx rfl (hb hby at_103) rfl  k) ?_
    have J115_112 : ∀ (j115_1 : Int64), (((j12_1 = (0 : Int32)) ∧ j115_1 = x1) ∨ ((¬ (j12_1 = (0 : Int32))) ∧ j115_1 = (x1 + (1 : Int64)))) → own_Go p e below s (Q0 Z x0 x1 x2 x3 x4 x5  h0 n0) room_1.cells room_1.slots T102 (mkF m 115 #[.val (.long x0), .second, .val (.long x1), .second, .val (.long x2), .second, .val (.long x3), .second, .val (.long x4), .second, .val (.int x5), .val (.int j12_1), .val (.ref b2), .val (.ref b17), .val (.ref b52), .unset, .unset, .unset, .unset, .unset, .unset, .unset, .unset, .unset] [(.long j115_1)]) := by
      intro j115_1 hJ115_112
      refine own_st (T' := T102) (F' := (mkF m 117 #[.val (.long x0), .second, .val (.long x1), .second, .val (.long x2), .second, .val (.long x3), .second, .val (.long x4), .second, .val (.int x5), .val (.int j12_1), .val (.ref b2), .val (.ref b17), .val (.ref b52), .val (.long j115_1), .second, .unset, .unset, .unset, .unset, .unset, .unset, .unset] [])) (fun _ k => XS.lstore X102.here hx rfl (hb hby at_115) rfl (l' := #[.val (.long x0), .second, .val (.long x1), .second, .val (.long x2), .second, .val (.long x3), .second, .val (.long x4), .second, .val (.int x5), .val (.int j12_1), .val (.ref b2), .val (.ref b17), .val (.ref b52), .val (.long j115_1), .second, .unset, .unset, .unset, .unset, .unset, .unset, .unset]) rfl k) ?_
      refine own_st (T' := T102) (F' := (mkF m 119 #[.val (.long x0), .second, .val (.long x1), .second, .val (.long x2), .second, .val (.long x3), .second, .val (.long x4), .second, .val (.int x5), .val (.int j12_1), .val (.ref b2), .val (.ref b17), .val (.ref b52), .val (.long j115_1), .second, .unset, .unset, .unset, .unset, .unset, .unset, .unset] [(.long x4)])) (fun _ k => XS.lload X102.here hx rfl (hb hby at_117) rfl  k) ?_
      refine own_st (T' := T102) (F' := (mkF m 121 #[.val (.long x0), .second, .val (.long x1), .second, .val (.long x2), .second, .val (.long x3), .second, .val (.long x4), .second, .val (.int x5), .val (.int j12_1), .val (.ref b2), .val (.ref b17), .val (.ref b52), .val (.long j115_1), .second, .unset, .unset, .unset, .unset, .unset, .unset, .unset] [(.long x3), (.long x4)])) (fun _ k => XS.lload X102.here hx rfl (hb hby at_119) rfl  k) ?_
      refine own_st (T' := T102) (F' := (mkF m 122 #[.val (.long x0), .second, .val (.long x1), .second, .val (.long x2), .second, .val (.long x3), .second, .val (.long x4), .second, .val (.int x5), .val (.int j12_1), .val (.ref b2), .val (.ref b17), .val (.ref b52), .val (.long j115_1), .second, .unset, .unset, .unset, .unset, .unset, .unset, .unset] [(.long (x4 - x3))])) (fun _ k => XS.lsub X102.here hx rfl (hb hby at_121) rfl k) ?_
      refine own_st (T' := T102) (F' := (mkF m 124 #[.val (.long x0), .second, .val (.long x1), .second, .val (.long x2), .second, .val (.long x3), .second, .val (.long x4), .second, .val (.int x5), .val (.int j12_1), .val (.ref b2), .val (.ref b17), .val (.ref b52), .val (.long j115_1), .second, .val (.long (x4 - x3)), .second, .unset, .unset, .unset, .unset, .unset] [])) (fun _ k => XS.lstore X102.here hx rfl (hb hby at_122) rfl (l' := #[.val (.long x0), .second, .val (.long x1), .second, .val (.long x2), .second, .val (.long x3), .second, .val (.long x4), .second, .val (.int x5), .val (.int j12_1), .val (.ref b2), .val (.ref b17), .val (.ref b52), .val (.long j115_1), .second, .val (.long (x4 - x3)), .second, .unset, .unset, .unset, .unset, .unset]) rfl k) ?_
      refine own_st (T' := T102) (F' := (mkF m 126 #[.val (.long x0), .second, .val (.long x1), .second, .val (.long x2), .second, .val (.long x3), .second, .val (.long x4), .second, .val (.int x5), .val (.int j12_1), .val (.ref b2), .val (.ref b17), .val (.ref b52), .val (.long j115_1), .second, .val (.long (x4 - x3)), .second, .unset, .unset, .unset, .unset, .unset] [(.long (x4 - x3))])) (fun _ k => XS.lload X102.here hx rfl (hb hby at_124) rfl  k) ?_
      refine own_st (T' := T102) (F' := (mkF m 127 #[.val (.long x0), .second, .val (.long x1), .second, .val (.long x2), .second, .val (.long x3), .second, .val (.long x4), .second, .val (.int x5), .val (.int j12_1), .val (.ref b2), .val (.ref b17), .val (.ref b52), .val (.long j115_1), .second, .val (.long (x4 - x3)), .second, .unset, .unset, .unset, .unset, .unset] [(.long (0 : Int64)), (.long (x4 - x3))])) (fun _ k => XS.lconst X102.here hx rfl (hb hby at_126) k) ?_
      refine own_st (T' := T102) (F' := (mkF m 128 #[.val (.long x0), .second, .val (.long x1), .second, .val (.long x2), .second, .val (.long x3), .second, .val (.long x4), .second, .val (.int x5), .val (.int j12_1), .val (.ref b2), .val (.ref b17), .val (.ref b52), .val (.long j115_1), .second, .val (.long (x4 - x3)), .second, .unset, .unset, .unset, .unset, .unset] [(.int (lcmpW (x4 - x3) (0 : Int64)))])) (fun _ k => XS.lcmp X102.here hx rfl (hb hby at_127) rfl k) ?_
      have J137_113 : ∀ (j137_1 : Int64), (((¬ ((0 : Int64) < (x4 - x3))) ∧ j137_1 = (0 : Int64)) ∨ (((0 : Int64) < (x4 - x3)) ∧ j137_1 = (x4 - x3))) → own_Go p e below s (Q0 Z x0 x1 x2 x3 x4 x5  h0 n0) room_1.cells room_1.slots T102 (mkF m 137 #[.val (.long x0), .second, .val (.long x1), .second, .val (.long x2), .second, .val (.long x3), .second, .val (.long x4), .second, .val (.int x5), .val (.int j12_1), .val (.ref b2), .val (.ref b17), .val (.ref b52), .val (.long j115_1), .second, .val (.long (x4 - x3)), .second, .unset, .unset, .unset, .unset, .unset] [(.long j137_1)]) := by
        intro j137_1 hJ137_113
        refine own_st (T' := T102) (F' := (mkF m 139 #[.val (.long x0), .second, .val (.long x1), .second, .val (.long x2), .second, .val (.long x3), .second, .val (.long x4), .second, .val (.int x5), .val (.int j12_1), .val (.ref b2), .val (.ref b17), .val (.ref b52), .val (.long j115_1), .second, .val (.long (x4 - x3)), .second, .val (.long j137_1), .second, .unset, .unset, .unset] [])) (fun _ k => XS.lstore X102.here hx rfl (hb hby at_137) rfl (l' := #[.val (.long x0), .second, .val (.long x1), .second, .val (.long x2), .second, .val (.long x3), .second, .val (.long x4), .second, .val (.int x5), .val (.int j12_1), .val (.ref b2), .val (.ref b17), .val (.ref b52), .val (.long j115_1), .second, .val (.long (x4 - x3)), .second, .val (.long j137_1), .second, .unset, .unset, .unset]) rfl k) ?_
        refine own_st (T' := T102) (F' := (mkF m 141 #[.val (.long x0), .second, .val (.long x1), .second, .val (.long x2), .second, .val (.long x3), .second, .val (.long x4), .second, .val (.int x5), .val (.int j12_1), .val (.ref b2), .val (.ref b17), .val (.ref b52), .val (.long j115_1), .second, .val (.long (x4 - x3)), .second, .val (.long j137_1), .second, .unset, .unset, .unset] [(.ref b52)])) (fun _ k => XS.aload X102.here hx rfl (hb hby at_139) rfl rfl k) ?_
        obtain ⟨cq114, kq114, q114a, q114b, q114c⟩ := isOf hZ rfl g102_1
        obtain ⟨_, _, ⟨T114, L114, k114, n114⟩, -, X114, ⟨Lc114, hQ114, l114, y114, z114⟩, st114⟩ := X102.virtualBack hx (y := (⟨"com/example/infinite_tail/infinitetail/stream/PendingEntry", "consumer", "()Lcom/example/infinite_tail/infinitetail/stream/ByteString;"⟩ : MethodName)) (z := (⟨"com/example/infinite_tail/infinitetail/stream/PendingEntry", "consumer", "()Lcom/example/infinite_tail/infinitetail/stream/ByteString;"⟩ : MethodName)) hown (mvT hZ (hw _ (List.mem_of_getElem? (i := 70) rfl))) (mvT hZ (hw _ (List.mem_of_getElem? (i := 71) rfl))) (notFace_of_selects (args := #[]) (mvT hZ (hw _ (List.mem_of_getElem? (i := 73) rfl)))) (mvT hZ (hw _ (List.mem_of_getElem? (i := 73) rfl))) (mvT hZ (hw _ (List.mem_of_getElem? (i := 72) rfl))) (by decide) (backOf (W := 0) (rm11 l Z a0 hw [] b52 b17 T102.heap n0 Zs102 g102_2) hZ (hw _ (List.mem_of_getElem? (i := 74) rfl)) (hw _ (List.mem_of_getElem? (i := 29) rfl)) (by decide) (by decide)) q114a q114c (g := (mkF m 141 #[.val (.long x0), .second, .val (.long x1), .second, .val (.long x2), .second, .val (.long x3), .second, .val (.long x4), .second, .val (.int x5), .val (.int j12_1), .val (.ref b2), .val (.ref b17), .val (.ref b52), .val (.long j115_1), .second, .val (.long (x4 - x3)), .second, .val (.long j137_1), .second, .unset, .unset, .unset] [(.ref b52)])) rfl (by rw [hml]; rfl) (Steps.refl _) (argsL := []) (rest := []) (lenOf own_pd9 rfl) rfl (by show 2 * 0 + _ ≤ _; exact Nat.le_of_eq rfl) (hb hby at_141) (fun _ _ => ⟨rfl, rfl, (by decide : 6 + 0 ≤ _), (by decide : 14 + 0 ≤ _)⟩)
        dsimp only [Pt.U, Pt.locs, Pt.cells, Pt.slots] at X114 l114 y114 z114 st114 hQ114
        subst l114 y114 z114
        obtain ⟨⟨r114, rfl, hr114⟩, Nq114, eq114⟩ := hQ114
        have N114 := Fr.app N102 Nq114
        refine own_tr (T' := T114) (F' := (mkF m 144 #[.val (.long x0), .second, .val (.long x1), .second, .val (.long x2), .second, .val (.long x3), .second, .val (.long x4), .second, .val (.int x5), .val (.int j12_1), .val (.ref b2), .val (.ref b17), .val (.ref b52), .val (.long j115_1), .second, .val (.long (x4 - x3)), .second, .val (.long j137_1), .second, .unset, .unset, .unset] [(.ref r114)])) st114 ?_
        refine own_st (T' := T114) (F' := (mkF m 146 #[.val (.long x0), .second, .val (.long x1), .second, .val (.long x2), .second, .val (.long x3), .second, .val (.long x4), .second, .val (.int x5), .val (.int j12_1), .val (.ref b2), .val (.ref b17), .val (.ref b52), .val (.long j115_1), .second, .val (.long (x4 - x3)), .second, .val (.long j137_1), .second, .unset, .unset, .unset] [(.ref b17), (.ref r114)])) (fun _ k => XS.aload X114.here hx rfl (hb hby at_144) rfl rfl k) ?_
        have J154_115 : ∀ (j154_1 : Int32), (((r114 = b17) ∧ j154_1 = (1 : Int32)) ∨ ((¬ (r114 = b17)) ∧ j154_1 = (0 : Int32))) → own_Go p e below s (Q0 Z x0 x1 x2 x3 x4 x5  h0 n0) room_1.cells room_1.slots T114 (mkF m 154 #[.val (.long x0), .second, .val (.long x1), .second, .val (.long x2), .second, .val (.long x3), .second, .val (.long x4), .second, .val (.int x5), .val (.int j12_1), .val (.ref b2), .val (.ref b17), .val (.ref b52), .val (.long j115_1), .second, .val (.long (x4 - x3)), .second, .val (.long j137_1), .second, .unset, .unset, .unset] [(.int j154_1)]) := by
          intro j154_1 hJ154_115
          refine own_st (T' := T114) (F' := (mkF m 156 #[.val (.long x0), .second, .val (.long x1), .second, .val (.long x2), .second, .val (.long x3), .second, .val (.long x4), .second, .val (.int x5), .val (.int j12_1), .val (.ref b2), .val (.ref b17), .val (.ref b52), .val (.long j115_1), .second, .val (.long (x4 - x3)), .second, .val (.long j137_1), .second, .val (.int j154_1), .unset, .unset] [])) (fun _ k => XS.istore X114.here hx rfl (hb hby at_154) rfl (l' := #[.val (.long x0), .second, .val (.long x1), .second, .val (.long x2), .second, .val (.long x3), .second, .val (.long x4), .second, .val (.int x5), .val (.int j12_1), .val (.ref b2), .val (.ref b17), .val (.ref b52), .val (.long j115_1), .second, .val (.long (x4 - x3)), .second, .val (.long j137_1), .second, .val (.int j154_1), .unset, .unset]) rfl k) ?_
          refine own_st (T' := T114) (F' := (mkF m 158 #[.val (.long x0), .second, .val (.long x1), .second, .val (.long x2), .second, .val (.long x3), .second, .val (.long x4), .second, .val (.int x5), .val (.int j12_1), .val (.ref b2), .val (.ref b17), .val (.ref b52), .val (.long j115_1), .second, .val (.long (x4 - x3)), .second, .val (.long j137_1), .second, .val (.int j154_1), .unset, .unset] [(.ref b52)])) (fun _ k => XS.aload X114.here hx rfl (hb hby at_156) rfl rfl k) ?_
          obtain ⟨cq116, kq116, q116a, q116b, q116c⟩ := isOf hZ eq114 g102_1
          obtain ⟨_, _, ⟨T116, L116, k116, n116⟩, -, X116, ⟨Lc116, hQ116, l116, y116, z116⟩, st116⟩ := X114.virtualBack hx (y := (⟨"com/example/infinite_tail/infinitetail/stream/PendingEntry", "deliveryCount", "()J"⟩ : MethodName)) (z := (⟨"com/example/infinite_tail/infinitetail/stream/PendingEntry", "deliveryCount", "()J"⟩ : MethodName)) hown (mvT hZ (hw _ (List.mem_of_getElem? (i := 75) rfl))) (mvT hZ (hw _ (List.mem_of_getElem? (i := 76) rfl))) (notFace_of_selects (args := #[]) (mvT hZ (hw _ (List.mem_of_getElem? (i := 78) rfl)))) (mvT hZ (hw _ (List.mem_of_getElem? (i := 78) rfl))) (mvT hZ (hw _ (List.mem_of_getElem? (i := 77) rfl))) (by decide) (backOf (W := 0) (rm12 l Z a0 hw [] b52 cn102 T102.heap n0 Zs102 fcn102) hZ (hw _ (List.mem_of_getElem? (i := 79) rfl)) (hw _ (List.mem_of_getElem? (i := 29) rfl)) (by decide) (by decide)) q116a q116c (g := (mkF m 158 #[.val (.long x0), .second, .val (.long x1), .second, .val (.long x2), .second, .val (.long x3), .second, .val (.long x4), .second, .val (.int x5), .val (.int j12_1), .val (.ref b2), .val (.ref b17), .val (.ref b52), .val (.long j115_1), .second, .val (.long (x4 - x3)), .second, .val (.long j137_1), .second, .val (.int j154_1), .unset, .unset] [(.ref b52)])) rfl (by rw [hml]; rfl) (Steps.refl _) (argsL := []) (rest := []) (lenOf own_pd3 rfl) rfl (by show 2 * 0 + _ ≤ _; exact Nat.le_of_eq rfl) (hb hby at_158) (fun _ _ => ⟨rfl, eq114, (by decide : 6 + 0 ≤ _), (by decide : 14 + 0 ≤ _)⟩)
          dsimp only [Pt.U, Pt.locs, Pt.cells, Pt.slots] at X116 l116 y116 z116 st116 hQ116
          subst l116 y116 z116
          obtain ⟨⟨r116, rfl, hr116⟩, Nq116, eq116⟩ := hQ116
          have N116 := Fr.app N114 Nq116
          refine own_tr (T' := T116) (F' := (mkF m 161 #[.val (.long x0), .second, .val (.long x1), .second, .val (.long x2), .second, .val (.long x3), .second, .val (.long x4), .second, .val (.int x5), .val (.int j12_1), .val (.ref b2), .val (.ref b17), .val (.ref b52), .val (.long j115_1), .second, .val (.long (x4 - x3)), .second, .val (.long j137_1), .second, .val (.int j154_1), .unset, .unset] [(.long r116)])) st116 ?_
          refine own_st (T' := T116) (F' := (mkF m 163 #[.val (.long x0), .second, .val (.long x1), .second, .val (.long x2), .second, .val (.long x3), .second, .val (.long x4), .second, .val (.int x5), .val (.int j12_1), .val (.ref b2), .val (.ref b17), .val (.ref b52), .val (.long j115_1), .second, .val (.long (x4 - x3)), .second, .val (.long j137_1), .second, .val (.int j154_1), .unset, .unset] [(.long j115_1), (.long r116)])) (fun _ k => XS.lload X116.here hx rfl (hb hby at_161) rfl  k) ?_
          refine own_st (T' := T116) (F' := (mkF m 164 #[.val (.long x0), .second, .val (.long x1), .second, .val (.long x2), .second, .val (.long x3), .second, .val (.long x4), .second, .val (.int x5), .val (.int j12_1), .val (.ref b2), .val (.ref b17), .val (.ref b52), .val (.long j115_1), .second, .val (.long (x4 - x3)), .second, .val (.long j137_1), .second, .val (.int j154_1), .unset, .unset] [(.int (lcmpW r116 j115_1))])) (fun _ k => XS.lcmp X116.here hx rfl (hb hby at_163) rfl k) ?_
          have J172_117 : ∀ (j172_1 : Int32), (((¬ (r116 = j115_1)) ∧ j172_1 = (0 : Int32)) ∨ ((r116 = j115_1) ∧ j172_1 = (1 : Int32))) → own_Go p e below s (Q0 Z x0 x1 x2 x3 x4 x5  h0 n0) room_1.cells room_1.slots T116 (mkF m 172 #[.val (.long x0), .second, .val (.long x1), .second, .val (.long x2), .second, .val (.long x3), .second, .val (.long x4), .second, .val (.int x5), .val (.int j12_1), .val (.ref b2), .val (.ref b17), .val (.ref b52), .val (.long j115_1), .second, .val (.long (x4 - x3)), .second, .val (.long j137_1), .second, .val (.int j154_1), .unset, .unset] [(.int j172_1)]) := by
            intro j172_1 hJ172_117
            refine own_st (T' := T116) (F' := (mkF m 174 #[.val (.long x0), .second, .val (.long x1), .second, .val (.long x2), .second, .val (.long x3), .second, .val (.long x4), .second, .val (.int x5), .val (.int j12_1), .val (.ref b2), .val (.ref b17), .val (.ref b52), .val (.long j115_1), .second, .val (.long (x4 - x3)), .second, .val (.long j137_1), .second, .val (.int j154_1), .val (.int j172_1), .unset] [])) (fun _ k => XS.istore X116.here hx rfl (hb hby at_172) rfl (l' := #[.val (.long x0), .second, .val (.long x1), .second, .val (.long x2), .second, .val (.long x3), .second, .val (.long x4), .second, .val (.int x5), .val (.int j12_1), .val (.ref b2), .val (.ref b17), .val (.ref b52), .val (.long j115_1), .second, .val (.long (x4 - x3)), .second, .val (.long j137_1), .second, .val (.int j154_1), .val (.int j172_1), .unset]) rfl k) ?_
            refine own_st (T' := T116) (F' := (mkF m 176 #[.val (.long x0), .second, .val (.long x1), .second, .val (.long x2), .second, .val (.long x3), .second, .val (.long x4), .second, .val (.int x5), .val (.int j12_1), .val (.ref b2), .val (.ref b17), .val (.ref b52), .val (.long j115_1), .second, .val (.long (x4 - x3)), .second, .val (.long j137_1), .second, .val (.int j154_1), .val (.int j172_1), .unset] [(.ref b52)])) (fun _ k => XS.aload X116.here hx rfl (hb hby at_174) rfl rfl k) ?_
            refine own_st (T' := T116) (F' := (mkF m 178 #[.val (.long x0), .second, .val (.long x1), .second, .val (.long x2), .second, .val (.long x3), .second, .val (.long x4), .second, .val (.int x5), .val (.int j12_1), .val (.ref b2), .val (.ref b17), .val (.ref b52), .val (.long j115_1), .second, .val (.long (x4 - x3)), .second, .val (.long j137_1), .second, .val (.int j154_1), .val (.int j172_1), .unset] [(.long x4), (.ref b52)])) (fun _ k => XS.lload X116.here hx rfl (hb hby at_176) rfl  k) ?_
            obtain ⟨cq118, kq118, q118a, q118b, q118c⟩ := isOf hZ eq116 g102_1
            obtain ⟨_, _, ⟨T118, L118, k118, n118⟩, -, X118, ⟨Lc118, hQ118, l118, y118, z118⟩, st118⟩ := X116.virtualBack hx (y := (⟨"com/example/infinite_tail/infinitetail/stream/PendingEntry", "idleMillis", "(J)J"⟩ : MethodName)) (z := (⟨"com/example/infinite_tail/infinitetail/stream/PendingEntry", "idleMillis", "(J)J"⟩ : MethodName)) hown (mvT hZ (hw _ (List.mem_of_getElem? (i := 80) rfl))) (mvT hZ (hw _ (List.mem_of_getElem? (i := 81) rfl))) (notFace_of_selects (args := #[]) (mvT hZ (hw _ (List.mem_of_getElem? (i := 83) rfl)))) (mvT hZ (hw _ (List.mem_of_getElem? (i := 83) rfl))) (mvT hZ (hw _ (List.mem_of_getElem? (i := 82) rfl))) (by decide) (backOf (W := 0) (rm13 l Z a0 hw [] b52 x4 x3 T102.heap n0 Zs102 g102_3) hZ (hw _ (List.mem_of_getElem? (i := 84) rfl)) (hw _ (List.mem_of_getElem? (i := 29) rfl)) (by decide) (by decide)) q118a q118c (g := (mkF m 178 #[.val (.long x0), .second, .val (.long x1), .second, .val (.long x2), .second, .val (.long x3), .second, .val (.long x4), .second, .val (.int x5), .val (.int j12_1), .val (.ref b2), .val (.ref b17), .val (.ref b52), .val (.long j115_1), .second, .val (.long (x4 - x3)), .second, .val (.long j137_1), .second, .val (.int j154_1), .val (.int j172_1), .unset] [(.long x4), (.ref b52)])) rfl (by rw [hml]; rfl) (Steps.refl _) (argsL := [(.long x4)]) (rest := []) (lenOf own_pd10 rfl) rfl (by show 2 * 0 + _ ≤ _; exact Nat.le_of_eq rfl) (hb hby at_178) (fun _ _ => ⟨rfl, eq116, (by decide : 6 + 0 ≤ _), (by decide : 14 + 0 ≤ _)⟩)
            dsimp only [Pt.U, Pt.locs, Pt.cells, Pt.slots] at X118 l118 y118 z118 st118 hQ118
            subst l118 y118 z118
            obtain ⟨⟨r118, rfl, hr118⟩, Nq118, eq118⟩ := hQ118
            have N118 := Fr.app N116 Nq118
            refine own_tr (T' := T118) (F' := (mkF m 181 #[.val (.long x0), .second, .val (.long x1), .second, .val (.long x2), .second, .val (.long x3), .second, .val (.long x4), .second, .val (.int x5), .val (.int j12_1), .val (.ref b2), .val (.ref b17), .val (.ref b52), .val (.long j115_1), .second, .val (.long (x4 - x3)), .second, .val (.long j137_1), .second, .val (.int j154_1), .val (.int j172_1), .unset] [(.long r118)])) st118 ?_
            refine own_st (T' := T118) (F' := (mkF m 183 #[.val (.long x0), .second, .val (.long x1), .second, .val (.long x2), .second, .val (.long x3), .second, .val (.long x4), .second, .val (.int x5), .val (.int j12_1), .val (.ref b2), .val (.ref b17), .val (.ref b52), .val (.long j115_1), .second, .val (.long (x4 - x3)), .second, .val (.long j137_1), .second, .val (.int j154_1), .val (.int j172_1), .unset] [(.long j137_1), (.long r118)])) (fun _ k => XS.lload X118.here hx rfl (hb hby at_181) rfl  k) ?_
            refine own_st (T' := T118) (F' := (mkF m 184 #[.val (.long x0), .second, .val (.long x1), .second, .val (.long x2), .second, .val (.long x3), .second, .val (.long x4), .second, .val (.int x5), .val (.int j12_1), .val (.ref b2), .val (.ref b17), .val (.ref b52), .val (.long j115_1), .second, .val (.long (x4 - x3)), .second, .val (.long j137_1), .second, .val (.int j154_1), .val (.int j172_1), .unset] [(.int (lcmpW r118 j137_1))])) (fun _ k => XS.lcmp X118.here hx rfl (hb hby at_183) rfl k) ?_
            have J192_119 : ∀ (j192_1 : Int32), (((¬ (r118 = j137_1)) ∧ j192_1 = (0 : Int32)) ∨ ((r118 = j137_1) ∧ j192_1 = (1 : Int32))) → own_Go p e below s (Q0 Z x0 x1 x2 x3 x4 x5  h0 n0) room_1.cells room_1.slots T118 (mkF m 192 #[.val (.long x0), .second, .val (.long x1), .second, .val (.long x2), .second, .val (.long x3), .second, .val (.long x4), .second, .val (.int x5), .val (.int j12_1), .val (.ref b2), .val (.ref b17), .val (.ref b52), .val (.long j115_1), .second, .val (.long (x4 - x3)), .second, .val (.long j137_1), .second, .val (.int j154_1), .val (.int j172_1), .unset] [(.int j192_1)]) := by
              intro j192_1 hJ192_119
              refine own_st (T' := T118) (F' := (mkF m 194 #[.val (.long x0), .second, .val (.long x1), .second, .val (.long x2), .second, .val (.long x3), .second, .val (.long x4), .second, .val (.int x5), .val (.int j12_1), .val (.ref b2), .val (.ref b17), .val (.ref b52), .val (.long j115_1), .second, .val (.long (x4 - x3)), .second, .val (.long j137_1), .second, .val (.int j154_1), .val (.int j172_1), .val (.int j192_1)] [])) (fun _ k => XS.istore X118.here hx rfl (hb hby at_192) rfl (l' := #[.val (.long x0), .second, .val (.long x1), .second, .val (.long x2), .second, .val (.long x3), .second, .val (.long x4), .second, .val (.int x5), .val (.int j12_1), .val (.ref b2), .val (.ref b17), .val (.ref b52), .val (.long j115_1), .second, .val (.long (x4 - x3)), .second, .val (.long j137_1), .second, .val (.int j154_1), .val (.int j172_1), .val (.int j192_1)]) rfl k) ?_
              refine own_st (T' := T118) (F' := (mkF m 196 #[.val (.long x0), .second, .val (.long x1), .second, .val (.long x2), .second, .val (.long x3), .second, .val (.long x4), .second, .val (.int x5), .val (.int j12_1), .val (.ref b2), .val (.ref b17), .val (.ref b52), .val (.long j115_1), .second, .val (.long (x4 - x3)), .second, .val (.long j137_1), .second, .val (.int j154_1), .val (.int j172_1), .val (.int j192_1)] [(.int j154_1)])) (fun _ k => XS.iload X118.here hx rfl (hb hby at_194) rfl  k) ?_
              have J214_120 : ∀ (j214_1 : Int32), (((j154_1 = (0 : Int32)) ∧ j214_1 = (0 : Int32)) ∨ ((¬ (j154_1 = (0 : Int32))) ∧ (j172_1 = (0 : Int32)) ∧ j214_1 = (0 : Int32)) ∨ ((¬ (j154_1 = (0 : Int32))) ∧ (¬ (j172_1 = (0 : Int32))) ∧ (j192_1 = (0 : Int32)) ∧ j214_1 = (0 : Int32)) ∨ ((¬ (j154_1 = (0 : Int32))) ∧ (¬ (j172_1 = (0 : Int32))) ∧ (¬ (j192_1 = (0 : Int32))) ∧ j214_1 = (1 : Int32))) → own_Go p e below s (Q0 Z x0 x1 x2 x3 x4 x5  h0 n0) room_1.cells room_1.slots T118 (mkF m 214 #[.val (.long x0), .second, .val (.long x1), .second, .val (.long x2), .second, .val (.long x3), .second, .val (.long x4), .second, .val (.int x5), .val (.int j12_1), .val (.ref b2), .val (.ref b17), .val (.ref b52), .val (.long j115_1), .second, .val (.long (x4 - x3)), .second, .val (.long j137_1), .second, .val (.int j154_1), .val (.int j172_1), .val (.int j192_1)] [(.int j214_1)]) := by
                intro j214_1 hJ214_120
                refine own_retN X118 hx hlk (t := .boolean) Bd.returns (by simp) (hb hby at_214) ?_ (by decide) (by decide)
                rw [eq118]
                refine ⟨⟨_, rfl, ?_⟩, N118⟩
                have e1 : j154_1 = 1 := by
                  rcases hJ154_115 with ⟨_, q⟩ | ⟨q, _⟩
                  · exact q
                  · exact absurd hr114 q
                have e2 : j172_1 = 1 := by
                  rcases hJ172_117 with ⟨q, _⟩ | ⟨_, q⟩
                  · refine absurd ?_ q
                    rw [hr116]
                    rcases hcn102 with ⟨a, b⟩ | ⟨a, b⟩ <;> rcases hJ115_112 with ⟨c, d⟩ | ⟨c, d⟩
                    · rw [b, d]
                    · exact absurd a c
                    · exact absurd c a
                    · rw [b, d]
                  · exact q
                have e3 : j192_1 = 1 := by
                  rcases hJ192_119 with ⟨q, _⟩ | ⟨_, q⟩
                  · refine absurd ?_ q
                    rcases hr118 with ⟨a, b⟩ | ⟨a, b⟩ <;> rcases hJ137_113 with ⟨c, d⟩ | ⟨c, d⟩
                    · exact absurd a c
                    · rw [b, d]
                    · rw [b, d]
                    · exact absurd c a
                  · exact q
                rcases hJ214_120 with ⟨q, _⟩ | ⟨_, q, _⟩ | ⟨_, _, q, _⟩ | ⟨_, _, _, rfl⟩
                · exact absurd (e1.symm.trans q) (by decide)
                · exact absurd (e2.symm.trans q) (by decide)
                · exact absurd (e3.symm.trans q) (by decide)
                · rfl
              refine own_ifc X118 hx (pc' := 213) (pc2 := 199) (hb hby at_196) (by decide) (by decide) rfl (fun (hc196 : j154_1 = (0 : Int32)) => ?_) (fun (hc196 : ¬ (j154_1 = (0 : Int32))) => ?_)
              ·
                refine own_st (T' := T118) (F' := (mkF m 214 #[.val (.long x0), .second, .val (.long x1), .second, .val (.long x2), .second, .val (.long x3), .second, .val (.long x4), .second, .val (.int x5), .val (.int j12_1), .val (.ref b2), .val (.ref b17), .val (.ref b52), .val (.long j115_1), .second, .val (.long (x4 - x3)), .second, .val (.long j137_1), .second, .val (.int j154_1), .val (.int j172_1), .val (.int j192_1)] [(.int (0 : Int32))])) (fun _ k => XS.iconst X118.here hx rfl (hb hby at_213) k) ?_
                exact J214_120 (0 : Int32) (Or.inl (⟨hc196, rfl⟩))
              ·
                refine own_st (T' := T118) (F' := (mkF m 201 #[.val (.long x0), .second, .val (.long x1), .second, .val (.long x2), .second, .val (.long x3), .second, .val (.long x4), .second, .val (.int x5), .val (.int j12_1), .val (.ref b2), .val (.ref b17), .val (.ref b52), .val (.long j115_1), .second, .val (.long (x4 - x3)), .second, .val (.long j137_1), .second, .val (.int j154_1), .val (.int j172_1), .val (.int j192_1)] [(.int j172_1)])) (fun _ k => XS.iload X118.here hx rfl (hb hby at_199) rfl  k) ?_
                refine own_ifc X118 hx (pc' := 213) (pc2 := 204) (hb hby at_201) (by decide) (by decide) rfl (fun (hc201 : j172_1 = (0 : Int32)) => ?_) (fun (hc201 : ¬ (j172_1 = (0 : Int32))) => ?_)
                ·
                  refine own_st (T' := T118) (F' := (mkF m 214 #[.val (.long x0), .second, .val (.long x1), .second, .val (.long x2), .second, .val (.long x3), .second, .val (.long x4), .second, .val (.int x5), .val (.int j12_1), .val (.ref b2), .val (.ref b17), .val (.ref b52), .val (.long j115_1), .second, .val (.long (x4 - x3)), .second, .val (.long j137_1), .second, .val (.int j154_1), .val (.int j172_1), .val (.int j192_1)] [(.int (0 : Int32))])) (fun _ k => XS.iconst X118.here hx rfl (hb hby at_213) k) ?_
                  exact J214_120 (0 : Int32) (Or.inr (Or.inl (⟨hc196, hc201, rfl⟩)))
                ·
                  refine own_st (T' := T118) (F' := (mkF m 206 #[.val (.long x0), .second, .val (.long x1), .second, .val (.long x2), .second, .val (.long x3), .second, .val (.long x4), .second, .val (.int x5), .val (.int j12_1), .val (.ref b2), .val (.ref b17), .val (.ref b52), .val (.long j115_1), .second, .val (.long (x4 - x3)), .second, .val (.long j137_1), .second, .val (.int j154_1), .val (.int j172_1), .val (.int j192_1)] [(.int j192_1)])) (fun _ k => XS.iload X118.here hx rfl (hb hby at_204) rfl  k) ?_
                  refine own_ifc X118 hx (pc' := 213) (pc2 := 209) (hb hby at_206) (by decide) (by decide) rfl (fun (hc206 : j192_1 = (0 : Int32)) => ?_) (fun (hc206 : ¬ (j192_1 = (0 : Int32))) => ?_)
                  ·
                    refine own_st (T' := T118) (F' := (mkF m 214 #[.val (.long x0), .second, .val (.long x1), .second, .val (.long x2), .second, .val (.long x3), .second, .val (.long x4), .second, .val (.int x5), .val (.int j12_1), .val (.ref b2), .val (.ref b17), .val (.ref b52), .val (.long j115_1), .second, .val (.long (x4 - x3)), .second, .val (.long j137_1), .second, .val (.int j154_1), .val (.int j172_1), .val (.int j192_1)] [(.int (0 : Int32))])) (fun _ k => XS.iconst X118.here hx rfl (hb hby at_213) k) ?_
                    exact J214_120 (0 : Int32) (Or.inr (Or.inr (Or.inl (⟨hc196, hc201, hc206, rfl⟩))))
                  ·
                    refine own_st (T' := T118) (F' := (mkF m 210 #[.val (.long x0), .second, .val (.long x1), .second, .val (.long x2), .second, .val (.long x3), .second, .val (.long x4), .second, .val (.int x5), .val (.int j12_1), .val (.ref b2), .val (.ref b17), .val (.ref b52), .val (.long j115_1), .second, .val (.long (x4 - x3)), .second, .val (.long j137_1), .second, .val (.int j154_1), .val (.int j172_1), .val (.int j192_1)] [(.int (1 : Int32))])) (fun _ k => XS.iconst X118.here hx rfl (hb hby at_209) k) ?_
                    refine own_st (T' := T118) (F' := (mkF m 214 #[.val (.long x0), .second, .val (.long x1), .second, .val (.long x2), .second, .val (.long x3), .second, .val (.long x4), .second, .val (.int x5), .val (.int j12_1), .val (.ref b2), .val (.ref b17), .val (.ref b52), .val (.long j115_1), .second, .val (.long (x4 - x3)), .second, .val (.long j137_1), .second, .val (.int j154_1), .val (.int j172_1), .val (.int j192_1)] [(.int (1 : Int32))])) (fun _ k => XS.goto X118.here hx rfl (pc0 := 210) (pc' := 214) rfl (hb hby at_210) (by decide) (by decide) k) ?_
                    exact J214_120 (1 : Int32) (Or.inr (Or.inr (Or.inr (⟨hc196, hc201, hc206, rfl⟩))))
            refine own_iflc X118 hx (pc' := 191) (pc2 := 187) (hb hby at_184) (by decide) (by decide) rfl (fun (hc184 : ¬ (r118 = j137_1)) => ?_) (fun (hc184 : r118 = j137_1) => ?_)
            ·
              refine own_st (T' := T118) (F' := (mkF m 192 #[.val (.long x0), .second, .val (.long x1), .second, .val (.long x2), .second, .val (.long x3), .second, .val (.long x4), .second, .val (.int x5), .val (.int j12_1), .val (.ref b2), .val (.ref b17), .val (.ref b52), .val (.long j115_1), .second, .val (.long (x4 - x3)), .second, .val (.long j137_1), .second, .val (.int j154_1), .val (.int j172_1), .unset] [(.int (0 : Int32))])) (fun _ k => XS.iconst X118.here hx rfl (hb hby at_191) k) ?_
              exact J192_119 (0 : Int32) (Or.inl (⟨hc184, rfl⟩))
            ·
              refine own_st (T' := T118) (F' := (mkF m 188 #[.val (.long x0), .second, .val (.long x1), .second, .val (.long x2), .second, .val (.long x3), .second, .val (.long x4), .second, .val (.int x5), .val (.int j12_1), .val (.ref b2), .val (.ref b17), .val (.ref b52), .val (.long j115_1), .second, .val (.long (x4 - x3)), .second, .val (.long j137_1), .second, .val (.int j154_1), .val (.int j172_1), .unset] [(.int (1 : Int32))])) (fun _ k => XS.iconst X118.here hx rfl (hb hby at_187) k) ?_
              refine own_st (T' := T118) (F' := (mkF m 192 #[.val (.long x0), .second, .val (.long x1), .second, .val (.long x2), .second, .val (.long x3), .second, .val (.long x4), .second, .val (.int x5), .val (.int j12_1), .val (.ref b2), .val (.ref b17), .val (.ref b52), .val (.long j115_1), .second, .val (.long (x4 - x3)), .second, .val (.long j137_1), .second, .val (.int j154_1), .val (.int j172_1), .unset] [(.int (1 : Int32))])) (fun _ k => XS.goto X118.here hx rfl (pc0 := 188) (pc' := 192) rfl (hb hby at_188) (by decide) (by decide) k) ?_
              exact J192_119 (1 : Int32) (Or.inr (⟨hc184, rfl⟩))
          refine own_iflc X116 hx (pc' := 171) (pc2 := 167) (hb hby at_164) (by decide) (by decide) rfl (fun (hc164 : ¬ (r116 = j115_1)) => ?_) (fun (hc164 : r116 = j115_1) => ?_)
          ·
            refine own_st (T' := T116) (F' := (mkF m 172 #[.val (.long x0), .second, .val (.long x1), .second, .val (.long x2), .second, .val (.long x3), .second, .val (.long x4), .second, .val (.int x5), .val (.int j12_1), .val (.ref b2), .val (.ref b17), .val (.ref b52), .val (.long j115_1), .second, .val (.long (x4 - x3)), .second, .val (.long j137_1), .second, .val (.int j154_1), .unset, .unset] [(.int (0 : Int32))])) (fun _ k => XS.iconst X116.here hx rfl (hb hby at_171) k) ?_
            exact J172_117 (0 : Int32) (Or.inl (⟨hc164, rfl⟩))
          ·
            refine own_st (T' := T116) (F' := (mkF m 168 #[.val (.long x0), .second, .val (.long x1), .second, .val (.long x2), .second, .val (.long x3), .second, .val (.long x4), .second, .val (.int x5), .val (.int j12_1), .val (.ref b2), .val (.ref b17), .val (.ref b52), .val (.long j115_1), .second, .val (.long (x4 - x3)), .second, .val (.long j137_1), .second, .val (.int j154_1), .unset, .unset] [(.int (1 : Int32))])) (fun _ k => XS.iconst X116.here hx rfl (hb hby at_167) k) ?_
            refine own_st (T' := T116) (F' := (mkF m 172 #[.val (.long x0), .second, .val (.long x1), .second, .val (.long x2), .second, .val (.long x3), .second, .val (.long x4), .second, .val (.int x5), .val (.int j12_1), .val (.ref b2), .val (.ref b17), .val (.ref b52), .val (.long j115_1), .second, .val (.long (x4 - x3)), .second, .val (.long j137_1), .second, .val (.int j154_1), .unset, .unset] [(.int (1 : Int32))])) (fun _ k => XS.goto X116.here hx rfl (pc0 := 168) (pc' := 172) rfl (hb hby at_168) (by decide) (by decide) k) ?_
            exact J172_117 (1 : Int32) (Or.inr (⟨hc164, rfl⟩))
        refine own_acmp X114 hx (pc' := 153) (pc2 := 149) (hb hby at_146) (by decide) (by decide) rfl (fun (hc146 : r114 = b17) => ?_) (fun (hc146 : ¬ (r114 = b17)) => ?_)
        ·
          refine own_st (T' := T114) (F' := (mkF m 150 #[.val (.long x0), .second, .val (.long x1), .second, .val (.long x2), .second, .val (.long x3), .second, .val (.long x4), .second, .val (.int x5), .val (.int j12_1), .val (.ref b2), .val (.ref b17), .val (.ref b52), .val (.long j115_1), .second, .val (.long (x4 - x3)), .second, .val (.long j137_1), .second, .unset, .unset, .unset] [(.int (1 : Int32))])) (fun _ k => XS.iconst X114.here hx rfl (hb hby at_149) k) ?_
          refine own_st (T' := T114) (F' := (mkF m 154 #[.val (.long x0), .second, .val (.long x1), .second, .val (.long x2), .second, .val (.long x3), .second, .val (.long x4), .second, .val (.int x5), .val (.int j12_1), .val (.ref b2), .val (.ref b17), .val (.ref b52), .val (.long j115_1), .second, .val (.long (x4 - x3)), .second, .val (.long j137_1), .second, .unset, .unset, .unset] [(.int (1 : Int32))])) (fun _ k => XS.goto X114.here hx rfl (pc0 := 150) (pc' := 154) rfl (hb hby at_150) (by decide) (by decide) k) ?_
          exact J154_115 (1 : Int32) (Or.inl (⟨hc146, rfl⟩))
        ·
          refine own_st (T' := T114) (F' := (mkF m 154 #[.val (.long x0), .second, .val (.long x1), .second, .val (.long x2), .second, .val (.long x3), .second, .val (.long x4), .second, .val (.int x5), .val (.int j12_1), .val (.ref b2), .val (.ref b17), .val (.ref b52), .val (.long j115_1), .second, .val (.long (x4 - x3)), .second, .val (.long j137_1), .second, .unset, .unset, .unset] [(.int (0 : Int32))])) (fun _ k => XS.iconst X114.here hx rfl (hb hby at_153) k) ?_
          exact J154_115 (0 : Int32) (Or.inr (⟨hc146, rfl⟩))
      refine own_iflc X102 hx (pc' := 136) (pc2 := 131) (hb hby at_128) (by decide) (by decide) rfl (fun (hc128 : ¬ ((0 : Int64) < (x4 - x3))) => ?_) (fun (hc128 : (0 : Int64) < (x4 - x3)) => ?_)
      ·
        refine own_st (T' := T102) (F' := (mkF m 137 #[.val (.long x0), .second, .val (.long x1), .second, .val (.long x2), .second, .val (.long x3), .second, .val (.long x4), .second, .val (.int x5), .val (.int j12_1), .val (.ref b2), .val (.ref b17), .val (.ref b52), .val (.long j115_1), .second, .val (.long (x4 - x3)), .second, .unset, .unset, .unset, .unset, .unset] [(.long (0 : Int64))])) (fun _ k => XS.lconst X102.here hx rfl (hb hby at_136) k) ?_
        exact J137_113 (0 : Int64) (Or.inl (⟨hc128, rfl⟩))
      ·
        refine own_st (T' := T102) (F' := (mkF m 133 #[.val (.long x0), .second, .val (.long x1), .second, .val (.long x2), .second, .val (.long x3), .second, .val (.long x4), .second, .val (.int x5), .val (.int j12_1), .val (.ref b2), .val (.ref b17), .val (.ref b52), .val (.long j115_1), .second, .val (.long (x4 - x3)), .second, .unset, .unset, .unset, .unset, .unset] [(.long (x4 - x3))])) (fun _ k => XS.lload X102.here hx rfl (hb hby at_131) rfl  k) ?_
        refine own_st (T' := T102) (F' := (mkF m 137 #[.val (.long x0), .second, .val (.long x1), .second, .val (.long x2), .second, .val (.long x3), .second, .val (.long x4), .second, .val (.int x5), .val (.int j12_1), .val (.ref b2), .val (.ref b17), .val (.ref b52), .val (.long j115_1), .second, .val (.long (x4 - x3)), .second, .unset, .unset, .unset, .unset, .unset] [(.long (x4 - x3))])) (fun _ k => XS.goto X102.here hx rfl (pc0 := 133) (pc' := 137) rfl (hb hby at_133) (by decide) (by decide) k) ?_
        exact J137_113 (x4 - x3) (Or.inr (⟨hc128, rfl⟩))
    refine own_ifc X102 hx (pc' := 114) (pc2 := 108) (hb hby at_105) (by decide) (by decide) rfl (fun (hc105 : j12_1 = (0 : Int32)) => ?_) (fun (hc105 : ¬ (j12_1 = (0 : Int32))) => ?_)
    ·
      refine own_st (T' := T102) (F' := (mkF m 115 #[.val (.long x0), .second, .val (.long x1), .second, .val (.long x2), .second, .val (.long x3), .second, .val (.long x4), .second, .val (.int x5), .val (.int j12_1), .val (.ref b2), .val (.ref b17), .val (.ref b52), .unset, .unset, .unset, .unset, .unset, .unset, .unset, .unset, .unset] [(.long x1)])) (fun _ k => XS.lloadN X102.here hx rfl (hb hby at_114) rfl  k) ?_
      exact J115_112 x1 (Or.inl (⟨hc105, rfl⟩))
    ·
      refine own_st (T' := T102) (F' := (mkF m 109 #[.val (.long x0), .second, .val (.long x1), .second, .val (.long x2), .second, .val (.long x3), .second, .val (.long x4), .second, .val (.int x5), .val (.int j12_1), .val (.ref b2), .val (.ref b17), .val (.ref b52), .unset, .unset, .unset, .unset, .unset, .unset, .unset, .unset, .unset] [(.long x1)])) (fun _ k => XS.lloadN X102.here hx rfl (hb hby at_108) rfl  k) ?_
      refine own_st (T' := T102) (F' := (mkF m 110 #[.val (.long x0), .second, .val (.long x1), .second, .val (.long x2), .second, .val (.long x3), .second, .val (.long x4), .second, .val (.int x5), .val (.int j12_1), .val (.ref b2), .val (.ref b17), .val (.ref b52), .unset, .unset, .unset, .unset, .unset, .unset, .unset, .unset, .unset] [(.long (1 : Int64)), (.long x1)])) (fun _ k => XS.lconst X102.here hx rfl (hb hby at_109) k) ?_
      refine own_st (T' := T102) (F' := (mkF m 111 #[.val (.long x0), .second, .val (.long x1), .second, .val (.long x2), .second, .val (.long x3), .second, .val (.long x4), .second, .val (.int x5), .val (.int j12_1), .val (.ref b2), .val (.ref b17), .val (.ref b52), .unset, .unset, .unset, .unset, .unset, .unset, .unset, .unset, .unset] [(.long (x1 + (1 : Int64)))])) (fun _ k => XS.ladd X102.here hx rfl (hb hby at_110) rfl k) ?_
      refine own_st (T' := T102) (F' := (mkF m 115 #[.val (.long x0), .second, .val (.long x1), .second, .val (.long x2), .second, .val (.long x3), .second, .val (.long x4), .second, .val (.int x5), .val (.int j12_1), .val (.ref b2), .val (.ref b17), .val (.ref b52), .unset, .unset, .unset, .unset, .unset, .unset, .unset, .unset, .unset] [(.long (x1 + (1 : Int64)))])) (fun _ k => XS.goto X102.here hx rfl (pc0 := 111) (pc' := 115) rfl (hb hby at_111) (by decide) (by decide) k) ?_
      exact J115_112 (x1 + (1 : Int64)) (Or.inr (⟨hc105, rfl⟩))
  refine own_ifc X0 hx (pc' := 11) (pc2 := 7) (hb hby at_4) (by decide) (by decide) rfl (fun (hc4 : (x5 &&& (1 : Int32)) = (0 : Int32)) => ?_) (fun (hc4 : ¬ ((x5 &&& (1 : Int32)) = (0 : Int32))) => ?_)
  ·
    refine own_st (T' := s₁) (F' := (mkF m 12 #[.val (.long x0), .second, .val (.long x1), .second, .val (.long x2), .second, .val (.long x3), .second, .val (.long x4), .second, .val (.int x5), .unset, .unset, .unset, .unset, .unset, .unset, .unset, .unset, .unset, .unset, .unset, .unset, .unset] [(.int (0 : Int32))])) (fun _ k => XS.iconst X0.here hx rfl (hb hby at_11) k) ?_
    exact J12_1 (0 : Int32) (Or.inl (⟨hc4, rfl⟩))
  ·
    refine own_st (T' := s₁) (F' := (mkF m 8 #[.val (.long x0), .second, .val (.long x1), .second, .val (.long x2), .second, .val (.long x3), .second, .val (.long x4), .second, .val (.int x5), .unset, .unset, .unset, .unset, .unset, .unset, .unset, .unset, .unset, .unset, .unset, .unset, .unset] [(.int (1 : Int32))])) (fun _ k => XS.iconst X0.here hx rfl (hb hby at_7) k) ?_
    refine own_st (T' := s₁) (F' := (mkF m 12 #[.val (.long x0), .second, .val (.long x1), .second, .val (.long x2), .second, .val (.long x3), .second, .val (.long x4), .second, .val (.int x5), .unset, .unset, .unset, .unset, .unset, .unset, .unset, .unset, .unset, .unset, .unset, .unset, .unset] [(.int (1 : Int32))])) (fun _ k => XS.goto X0.here hx rfl (pc0 := 8) (pc' := 12) rfl (hb hby at_8) (by decide) (by decide) k) ?_
    exact J12_1 (1 : Int32) (Or.inr (⟨hc4, rfl⟩))
set_option maxRecDepth 65536 in
set_option maxHeartbeats 40000000 in
theorem comes_1 {Post : Tables → Env → Array Value → State → Outcome → State → Prop} (hpost : ∀ tb e args s v u, (limb_1_1.after args s (.returned v) u = true ∧ limb_1_2.after args s (.returned v) u = true ∧ True) → FrameEnd s (.returned v) u (Jvm.fieldLocs frame_1_writes args s ++ Jvm.arrayLocs frame_1_arrays args s ++ Jvm.staticLocs frame_1_statics s) 24 128 → Post tb e args s (.returned v) u) :
    ArmFor flags0 classFile x code maxLocals ret World_1 tables_1 room_1 Calls_1 rest_1 Pre_1 Post := by
  intro l hfl _ _ p e ha hc hk s m args below hf hA hF happ hP
  obtain ⟨hcalls, hrest, hpre⟩ := hP
  obtain ⟨-, -, -, hnamed, -, -, -, hat⟩ := (Spec.applies_iff hf).mp happ
  obtain ⟨hg, hn⟩ := and_e (Cond.before_iff.mp (show (Jvm.Cond.and given_1 narrow_1).before args s = true from hpre))
  obtain ⟨g0, hg0⟩ := and_e hg
  obtain ⟨g1, hg1⟩ := and_e hg0
  obtain ⟨g2, hg2⟩ := and_e hg1
  obtain ⟨g3, hg3⟩ := and_e hg2
  obtain ⟨g4, hg4⟩ := and_e hg3
  obtain ⟨g5, hg5⟩ := and_e hg4
  obtain ⟨w0, w1, w2, w3, w4, w5, rfl⟩ : ∃ w0 w1 w2 w3 w4 w5 : Value, args = #[w0, w1, w2, w3, w4, w5] := by
    have hs : args.size = 6 := by simpa [Cond.value, given_1] using g0
    obtain ⟨L⟩ := args
    match L, hs with
    | [w0, w1, w2, w3, w4, w5], _ => exact ⟨w0, w1, w2, w3, w4, w5, rfl⟩
  have hw := fun d (hd : d ∈ tables_1) => atoms_spec (ws := Jvm.Cond.code x code maxLocals ret :: tables_1) hat d (List.mem_cons_of_mem _ hd)
  have hfit : Fit s := fun {y c} hc i hi => by
    obtain ⟨ha, rfl⟩ := Array.getElem?_eq_some_iff.mp hc
    have q := List.all_eq_true.mp ((Array.all_eq_true_iff_forall_mem.mp hF) _ (Array.getElem_mem ha)) i (List.mem_range.mpr hi)
    simpa [Array.getElem?_eq_getElem hi] using q
  obtain ⟨i0, ei0⟩ := isL_v g1
  obtain rfl : w0 = (.long i0) := Option.some.inj ei0
  obtain ⟨i1, ei1⟩ := isL_v g2
  obtain rfl : w1 = (.long i1) := Option.some.inj ei1
  obtain ⟨i2, ei2⟩ := isL_v g3
  obtain rfl : w2 = (.long i2) := Option.some.inj ei2
  obtain ⟨i3, ei3⟩ := isL_v g4
  obtain rfl : w3 = (.long i3) := Option.some.inj ei3
  obtain ⟨i4, ei4⟩ := isL_v g5
  obtain rfl : w4 = (.long i4) := Option.some.inj ei4
  obtain ⟨i5, ei5⟩ := is_v hg5
  obtain rfl : w5 = (.int i5) := Option.some.inj ei5
  obtain ⟨n, o, h1, h2, h3, _, L, rfl, ⟨⟨_, rfl, rfl⟩, N⟩, hq⟩ := rm0 l s _ hw tables_1 i0 i1 i2 i3 i4 i5  s.heap s.heap.size (Nat.le_refl _)  p e ha hc hk s m _ below hf ((Spec.applies_iff_loose hf).mp happ).1 ⟨rfl, State.Warmed39.refl s, rfl⟩ trivial
  refine ⟨n, _, h1, h2, h3, hpost _ _ _ _ _ _ ⟨Cond.after_iff.mpr rfl, Cond.after_iff.mpr (eq_i res_at (Term.int_eval (1)) rfl), trivial⟩ ⟨hq.1, hq.2.1, (hq.2.2.sift fun y hy => Or.inr (N y hy)).mono (by decide) (by decide)⟩⟩
theorem main_1_1 : Claimed_1_1 := comes_1 fun _ _ _ _ _ _ h hF => ⟨h.1, hF⟩
theorem main_1_2 : Claimed_1_2 := comes_1 fun _ _ _ _ _ _ h hF => ⟨h.2.1, hF⟩
end Jvm.Pilot.@@N@@
namespace Jvm.Pilot.@@N@@
open Jvm Jvm.ClassFile Sem Op Lib Jvm.Free Jvm.Stand Jvm.Pilot.@@N@@.Jvm.D
/-! MADE BY PROGRAM (witnessworld.py) out of the Statement's table words and the real class files: 16 classes; the members and pool entries that the words name. The judged class is class 1, her method 1. -/
namespace start1
open Jvm.ClassFile
def u (s : String) : CpInfo := .utf8 (stringToUtf16 s)
/-- a pool by its gaps: so many unusable entries, then the entry; so many at the end -/
def gap : Nat → List CpInfo → List CpInfo
  | 0, r => r
  | n + 1, r => .unusable :: gap n r
def poolList (es : List (Nat × CpInfo)) (last : Nat) : List CpInfo := es.foldr (fun e r => gap e.1 (e.2 :: r)) (gap last [])
def pool (es : List (Nat × CpInfo)) (last : Nat) : Array CpInfo := ⟨poolList es last⟩
def fileOf (pool : Array CpInfo) (this : Nat) (attrs : Array Attribute := #[]) (ms : Array MethodInfo := #[]) (fl : Nat := 33) (sup : Nat := 0) (ifs : Array Nat := #[]) (fds : Array FieldInfo := #[]) : ClassFile where
  minorVersion := 0
  majorVersion := 65
  constantPool := pool
  accessFlags := fl
  thisClass := this
  superClass := sup
  interfaces := ifs
  fields := fds
  methods := ms
  attributes := attrs
def plain (name : String) (sup : Option ClassId) : Class where
  name := name
  kind := .ordinary
  loader := none
  accessFlags := 33
  super := sup
  interfaces := #[]
  cf := none
  fields := #[]
  methods := #[]
  instanceTypes := #[]
  staticTypes := #[]
  resolved := #[]
  callSites := []
  init := .initialized
  statics := none
  mirror := none

def pool0 : Array CpInfo := pool [(5, u "<init>"), (0, u "()V"), (1, .class_ 10), (1, u "java/lang/Object")] 113

def k0c0 : Code := { maxStack := 0, maxLocals := 1, code := object_method_1_code, exceptionTable := #[], attributes := #[] }
def k0m0 : Method := { name := "<init>", desc := "()V", sig := { parameters := [], returnType := none }, accessFlags := 1, code := some k0c0 }
/-- java/lang/Object -/
def k0 : Class := { plain "java/lang/Object" none with
  accessFlags := 33
  interfaces := #[]
  cf := some (fileOf pool0 8 #[] #[{ accessFlags := 1, nameIndex := 5, descriptorIndex := 6, attributes := #[] }] 33 0 #[] #[])
  fields := #[]
  methods := #[k0m0]
  instanceTypes := #[]
  staticTypes := #[]
  resolved := Array.replicate 124 none
  statics := none }

def pool1 : Array CpInfo := pool [(2, .class_ 4), (1, u "java/lang/Object"), (0, u "<init>"), (0, u "()V"), (0, .class_ 8), (0, u "com/example/infinite_tail/infinitetail/stream/ByteString"), (0, .methodref 7 10), (0, .nameAndType 5 11), (0, u "([B)V"), (0, .class_ 13), (0, u "com/example/infinite_tail/infinitetail/stream/PendingEntry"), (0, .class_ 15), (0, u "com/example/infinite_tail/infinitetail/stream/StreamId"), (0, .methodref 14 17), (0, .nameAndType 5 18), (0, u "(JJ)V"), (0, .methodref 12 20), (0, .nameAndType 5 21), (0, u "(Lcom/example/infinite_tail/infinitetail/stream/StreamId;Lcom/example/infinite_tail/infinitetail/stream/ByteString;JJ)V"), (0, .methodref 12 23), (0, .nameAndType 24 25), (0, u "delivered"), (0, u "(Lcom/example/infinite_tail/infinitetail/stream/ByteString;JZ)V"), (0, .methodref 12 27), (0, .nameAndType 28 29), (0, u "consumer"), (0, u "()Lcom/example/infinite_tail/infinitetail/stream/ByteString;"), (0, .methodref 12 31), (0, .nameAndType 32 33), (0, u "deliveryCount"), (0, u "()J"), (0, .methodref 12 35), (0, .nameAndType 36 37), (0, u "idleMillis"), (0, u "(J)J"), (0, .class_ 39), (0, u "com/example/infinite_tail/infinitetail/stream/PendingEntryDeliveredPinLaw"), (2, u "law"), (0, u "(JJJJJI)Z")] 3

def k1m0 : Method := { name := "<init>", desc := "()V", sig := { parameters := [], returnType := none }, accessFlags := 1, code := none }
def k1c1 : Code := { maxStack := 10, maxLocals := 24, code := code, exceptionTable := #[], attributes := #[] }
def k1m1 : Method := { name := "law", desc := "(JJJJJI)Z", sig := { parameters := [.long, .long, .long, .long, .long, .int], returnType := some .boolean }, accessFlags := 9, code := some k1c1 }
/-- com/example/infinite_tail/infinitetail/stream/PendingEntryDeliveredPinLaw -/
def k1 : Class := { plain "com/example/infinite_tail/infinitetail/stream/PendingEntryDeliveredPinLaw" (some 0) with
  accessFlags := 49
  interfaces := #[]
  cf := some (fileOf pool1 38 #[] #[{ accessFlags := 1, nameIndex := 5, descriptorIndex := 6, attributes := #[] }, { accessFlags := 9, nameIndex := 42, descriptorIndex := 43, attributes := #[] }] 49 2 #[] #[])
  fields := #[]
  methods := #[k1m0, k1m1]
  instanceTypes := #[]
  staticTypes := #[]
  resolved := Array.replicate 47 none
  statics := none }

def pool2 : Array CpInfo := pool [(1, .class_ 2), (0, u "java/lang/Comparable"), (0, .class_ 4), (0, u "java/lang/Object")] 7

/-- java/lang/Comparable -/
def k2 : Class := { plain "java/lang/Comparable" (some 0) with
  accessFlags := 1537
  interfaces := #[]
  cf := some (fileOf pool2 1 #[] #[] 1537 3 #[] #[])
  fields := #[]
  methods := #[]
  instanceTypes := #[]
  staticTypes := #[]
  resolved := Array.replicate 12 none
  statics := none }

def pool3 : Array CpInfo := pool [(1, .methodref 2 3), (0, .class_ 4), (0, .nameAndType 5 6), (0, u "java/lang/Object"), (0, u "<init>"), (0, u "()V"), (0, .fieldref 8 9), (0, .class_ 10), (0, .nameAndType 11 12), (0, u "com/example/infinite_tail/infinitetail/stream/ByteString"), (0, u "bytes"), (0, u "[B"), (0, .methodref 14 15), (0, .class_ 16), (0, .nameAndType 17 18), (0, u "java/util/Arrays"), (0, u "hashCode"), (0, u "([B)I"), (0, .fieldref 8 20), (0, .nameAndType 21 22), (0, u "hash"), (0, u "I"), (12, .class_ 36), (0, u "java/lang/Comparable"), (0, u "([B)V")] 12

def k3c0 : Code := { maxStack := 2, maxLocals := 2, code := prog_70_method_1_code, exceptionTable := #[], attributes := #[] }
def k3m0 : Method := { name := "<init>", desc := "([B)V", sig := { parameters := [(.array .byte)], returnType := none }, accessFlags := 1, code := some k3c0 }
/-- com/example/infinite_tail/infinitetail/stream/ByteString -/
def k3 : Class := { plain "com/example/infinite_tail/infinitetail/stream/ByteString" (some 0) with
  accessFlags := 49
  interfaces := #[2]
  cf := some (fileOf pool3 8 #[] #[{ accessFlags := 1, nameIndex := 5, descriptorIndex := 37, attributes := #[] }] 49 2 #[35] #[{ accessFlags := 18, nameIndex := 11, descriptorIndex := 12, attributes := #[] }, { accessFlags := 18, nameIndex := 21, descriptorIndex := 22, attributes := #[] }])
  fields := #[{ name := "bytes", type := (.array .byte), accessFlags := 18, slot := 0, constantValue := 0 }, { name := "hash", type := .int, accessFlags := 18, slot := 1, constantValue := 0 }]
  methods := #[k3m0]
  instanceTypes := #[(.array .byte), .int]
  staticTypes := #[]
  resolved := Array.replicate 50 none
  statics := none }

def pool4 : Array CpInfo := pool [(2, .class_ 4), (1, u "java/lang/Object"), (0, u "<init>"), (0, u "()V"), (7, .class_ 16), (1, u "java/util/Arrays"), (57, .class_ 76), (1, u "java/util/Arrays$NaturalOrder"), (36, .class_ 115), (1, u "java/util/Arrays$LegacyMergeSort"), (1, u "Z"), (128, .class_ 248), (1, u "jdk/internal/util/ArraysSupport"), (126, .class_ 376), (0, u "java/util/Arrays$ArrayList"), (2, .methodref 246 380), (0, .nameAndType 381 382), (0, u "vectorizedHashCode"), (0, u "(Ljava/lang/Object;IIII)I"), (2, u "hashCode"), (16, u "([B)I"), (42, u "$assertionsDisabled"), (269, u "MIN_ARRAY_SORT_GRAN"), (0, u "I"), (2, u "INSERTIONSORT_THRESHOLD"), (255, .class_ 976), (0, u "java/util/Arrays$ArrayItr")] 52

def k4m0 : Method := { name := "<init>", desc := "()V", sig := { parameters := [], returnType := none }, accessFlags := 2, code := none }
def k4c1 : Code := { maxStack := 5, maxLocals := 1, code := jdk_65_method_153_code, exceptionTable := #[], attributes := #[] }
def k4m1 : Method := { name := "hashCode", desc := "([B)I", sig := { parameters := [(.array .byte)], returnType := some .int }, accessFlags := 9, code := some k4c1 }
/-- java/util/Arrays -/
def k4 : Class := { plain "java/util/Arrays" (some 0) with
  accessFlags := 49
  interfaces := #[]
  cf := some (fileOf pool4 14 #[.nestMembers #[975, 375, 113, 74]] #[{ accessFlags := 2, nameIndex := 5, descriptorIndex := 6, attributes := #[] }, { accessFlags := 9, nameIndex := 385, descriptorIndex := 402, attributes := #[] }] 49 2 #[] #[{ accessFlags := 26, nameIndex := 715, descriptorIndex := 716, attributes := #[] }, { accessFlags := 26, nameIndex := 719, descriptorIndex := 716, attributes := #[] }, { accessFlags := 4120, nameIndex := 445, descriptorIndex := 117, attributes := #[] }])
  fields := #[{ name := "MIN_ARRAY_SORT_GRAN", type := .int, accessFlags := 26, slot := 0, constantValue := 0 }, { name := "INSERTIONSORT_THRESHOLD", type := .int, accessFlags := 26, slot := 1, constantValue := 0 }, { name := "$assertionsDisabled", type := .boolean, accessFlags := 4120, slot := 2, constantValue := 0 }]
  methods := #[k4m0, k4m1]
  instanceTypes := #[]
  staticTypes := #[.int, .int, .boolean]
  resolved := Array.replicate 1029 none
  statics := none }

def pool5 : Array CpInfo := pool [(9, u "<init>"), (6, .class_ 18), (1, u "java/lang/Object"), (0, u "()V"), (1, .class_ 23), (1, u "jdk/internal/util/ArraysSupport"), (0, u "LOG2_ARRAY_LONG_INDEX_SCALE"), (0, u "I"), (2, u "U"), (0, u "Ljdk/internal/misc/Unsafe;"), (8, u "BIG_ENDIAN"), (0, u "Z"), (8, u "LOG2_BYTE_BIT_SIZE"), (4, u "LOG2_ARRAY_INT_INDEX_SCALE"), (6, .class_ 61), (0, u "[B"), (3, u "(I[BII)I"), (7, u "hashCode"), (1, .methodref 21 76), (0, .nameAndType 73 65), (31, u "JLA"), (0, u "Ljdk/internal/access/JavaLangAccess;"), (11, u "LOG2_ARRAY_BOOLEAN_INDEX_SCALE"), (9, u "LOG2_ARRAY_BYTE_INDEX_SCALE"), (5, u "LOG2_ARRAY_CHAR_INDEX_SCALE"), (5, u "LOG2_ARRAY_SHORT_INDEX_SCALE"), (18, u "LOG2_ARRAY_FLOAT_INDEX_SCALE"), (24, u "LOG2_ARRAY_DOUBLE_INDEX_SCALE"), (89, u "T_BOOLEAN"), (2, u "T_CHAR"), (1, u "T_FLOAT"), (1, u "T_DOUBLE"), (1, u "T_BYTE"), (1, u "T_SHORT"), (1, u "T_INT"), (1, u "T_LONG"), (1, u "SOFT_MAX_ARRAY_LENGTH"), (26, u "vectorizedHashCode"), (0, u "(Ljava/lang/Object;IIII)I")] 55

def k5m0 : Method := { name := "<init>", desc := "()V", sig := { parameters := [], returnType := none }, accessFlags := 2, code := none }
def k5c1 : Code := { maxStack := 4, maxLocals := 5, code := jdk_48_method_4_code, exceptionTable := #[], attributes := #[] }
def k5m1 : Method := { name := "vectorizedHashCode", desc := "(Ljava/lang/Object;IIII)I", sig := { parameters := [(.object "java/lang/Object"), .int, .int, .int, .int], returnType := some .int }, accessFlags := 9, code := some k5c1 }
def k5c2 : Code := { maxStack := 3, maxLocals := 6, code := jdk_48_method_6_code, exceptionTable := #[], attributes := #[] }
def k5m2 : Method := { name := "hashCode", desc := "(I[BII)I", sig := { parameters := [.int, (.array .byte), .int, .int], returnType := some .int }, accessFlags := 10, code := some k5c2 }
/-- jdk/internal/util/ArraysSupport -/
def k5 : Class := { plain "jdk/internal/util/ArraysSupport" (some 0) with
  accessFlags := 33
  interfaces := #[]
  cf := some (fileOf pool5 21 #[] #[{ accessFlags := 2, nameIndex := 9, descriptorIndex := 19, attributes := #[] }, { accessFlags := 9, nameIndex := 321, descriptorIndex := 322, attributes := #[] }, { accessFlags := 10, nameIndex := 73, descriptorIndex := 65, attributes := #[] }] 33 16 #[] #[{ accessFlags := 24, nameIndex := 28, descriptorIndex := 29, attributes := #[] }, { accessFlags := 26, nameIndex := 38, descriptorIndex := 39, attributes := #[] }, { accessFlags := 25, nameIndex := 121, descriptorIndex := 25, attributes := #[] }, { accessFlags := 25, nameIndex := 131, descriptorIndex := 25, attributes := #[] }, { accessFlags := 25, nameIndex := 137, descriptorIndex := 25, attributes := #[] }, { accessFlags := 25, nameIndex := 143, descriptorIndex := 25, attributes := #[] }, { accessFlags := 25, nameIndex := 53, descriptorIndex := 25, attributes := #[] }, { accessFlags := 25, nameIndex := 24, descriptorIndex := 25, attributes := #[] }, { accessFlags := 25, nameIndex := 162, descriptorIndex := 25, attributes := #[] }, { accessFlags := 25, nameIndex := 187, descriptorIndex := 25, attributes := #[] }, { accessFlags := 26, nameIndex := 48, descriptorIndex := 25, attributes := #[] }, { accessFlags := 25, nameIndex := 277, descriptorIndex := 25, attributes := #[] }, { accessFlags := 25, nameIndex := 280, descriptorIndex := 25, attributes := #[] }, { accessFlags := 25, nameIndex := 282, descriptorIndex := 25, attributes := #[] }, { accessFlags := 25, nameIndex := 284, descriptorIndex := 25, attributes := #[] }, { accessFlags := 25, nameIndex := 286, descriptorIndex := 25, attributes := #[] }, { accessFlags := 25, nameIndex := 288, descriptorIndex := 25, attributes := #[] }, { accessFlags := 25, nameIndex := 290, descriptorIndex := 25, attributes := #[] }, { accessFlags := 25, nameIndex := 292, descriptorIndex := 25, attributes := #[] }, { accessFlags := 26, nameIndex := 108, descriptorIndex := 109, attributes := #[] }, { accessFlags := 25, nameIndex := 294, descriptorIndex := 25, attributes := #[] }])
  fields := #[{ name := "U", type := (.object "jdk/internal/misc/Unsafe"), accessFlags := 24, slot := 0, constantValue := 0 }, { name := "BIG_ENDIAN", type := .boolean, accessFlags := 26, slot := 1, constantValue := 0 }, { name := "LOG2_ARRAY_BOOLEAN_INDEX_SCALE", type := .int, accessFlags := 25, slot := 2, constantValue := 0 }, { name := "LOG2_ARRAY_BYTE_INDEX_SCALE", type := .int, accessFlags := 25, slot := 3, constantValue := 0 }, { name := "LOG2_ARRAY_CHAR_INDEX_SCALE", type := .int, accessFlags := 25, slot := 4, constantValue := 0 }, { name := "LOG2_ARRAY_SHORT_INDEX_SCALE", type := .int, accessFlags := 25, slot := 5, constantValue := 0 }, { name := "LOG2_ARRAY_INT_INDEX_SCALE", type := .int, accessFlags := 25, slot := 6, constantValue := 0 }, { name := "LOG2_ARRAY_LONG_INDEX_SCALE", type := .int, accessFlags := 25, slot := 7, constantValue := 0 }, { name := "LOG2_ARRAY_FLOAT_INDEX_SCALE", type := .int, accessFlags := 25, slot := 8, constantValue := 0 }, { name := "LOG2_ARRAY_DOUBLE_INDEX_SCALE", type := .int, accessFlags := 25, slot := 9, constantValue := 0 }, { name := "LOG2_BYTE_BIT_SIZE", type := .int, accessFlags := 26, slot := 10, constantValue := 0 }, { name := "T_BOOLEAN", type := .int, accessFlags := 25, slot := 11, constantValue := 0 }, { name := "T_CHAR", type := .int, accessFlags := 25, slot := 12, constantValue := 0 }, { name := "T_FLOAT", type := .int, accessFlags := 25, slot := 13, constantValue := 0 }, { name := "T_DOUBLE", type := .int, accessFlags := 25, slot := 14, constantValue := 0 }, { name := "T_BYTE", type := .int, accessFlags := 25, slot := 15, constantValue := 0 }, { name := "T_SHORT", type := .int, accessFlags := 25, slot := 16, constantValue := 0 }, { name := "T_INT", type := .int, accessFlags := 25, slot := 17, constantValue := 0 }, { name := "T_LONG", type := .int, accessFlags := 25, slot := 18, constantValue := 0 }, { name := "JLA", type := (.object "jdk/internal/access/JavaLangAccess"), accessFlags := 26, slot := 19, constantValue := 0 }, { name := "SOFT_MAX_ARRAY_LENGTH", type := .int, accessFlags := 25, slot := 20, constantValue := 0 }]
  methods := #[k5m0, k5m1, k5m2]
  instanceTypes := #[]
  staticTypes := #[(.object "jdk/internal/misc/Unsafe"), .boolean, .int, .int, .int, .int, .int, .int, .int, .int, .int, .int, .int, .int, .int, .int, .int, .int, .int, (.object "jdk/internal/access/JavaLangAccess"), .int]
  resolved := Array.replicate 378 none
  statics := none }

def pool6 : Array CpInfo := pool [(1, .methodref 2 3), (0, .class_ 4), (0, .nameAndType 5 6), (0, u "java/lang/Object"), (0, u "<init>"), (0, u "()V"), (0, .methodref 8 9), (0, .class_ 10), (0, .nameAndType 11 12), (0, u "com/example/infinite_tail/infinitetail/stream/StreamId"), (0, u "milliseconds"), (0, u "()J"), (0, .fieldref 14 15), (0, .class_ 16), (0, .nameAndType 11 17), (0, u "com/example/infinite_tail/infinitetail/stream/PendingEntry"), (0, u "J"), (0, .methodref 8 19), (0, .nameAndType 20 12), (0, u "sequence"), (0, .fieldref 14 22), (0, .nameAndType 20 17), (0, .fieldref 14 24), (0, .nameAndType 25 26), (0, u "consumer"), (0, u "Lcom/example/infinite_tail/infinitetail/stream/ByteString;"), (0, .fieldref 14 28), (0, .nameAndType 29 17), (0, u "deliveredAt"), (0, .fieldref 14 31), (0, .nameAndType 32 17), (0, u "deliveryCount"), (3, .methodref 37 38), (0, .class_ 39), (0, .nameAndType 40 41), (0, u "com/example/infinite_tail/infinitetail/stream/ConsumerGroup"), (0, u "millisBetween"), (0, u "(JJ)J"), (0, u "(Lcom/example/infinite_tail/infinitetail/stream/StreamId;Lcom/example/infinite_tail/infinitetail/stream/ByteString;JJ)V"), (4, u "()Lcom/example/infinite_tail/infinitetail/stream/ByteString;"), (0, u "idleMillis"), (0, u "(J)J"), (0, u "delivered"), (0, u "(Lcom/example/infinite_tail/infinitetail/stream/ByteString;JZ)V")] 3

def k6c0 : Code := { maxStack := 3, maxLocals := 7, code := prog_77_method_1_code, exceptionTable := #[], attributes := #[] }
def k6m0 : Method := { name := "<init>", desc := "(Lcom/example/infinite_tail/infinitetail/stream/StreamId;Lcom/example/infinite_tail/infinitetail/stream/ByteString;JJ)V", sig := { parameters := [(.object "com/example/infinite_tail/infinitetail/stream/StreamId"), (.object "com/example/infinite_tail/infinitetail/stream/ByteString"), .long, .long], returnType := none }, accessFlags := 0, code := some k6c0 }
def k6c1 : Code := { maxStack := 1, maxLocals := 1, code := prog_77_method_3_code, exceptionTable := #[], attributes := #[] }
def k6m1 : Method := { name := "consumer", desc := "()Lcom/example/infinite_tail/infinitetail/stream/ByteString;", sig := { parameters := [], returnType := some (.object "com/example/infinite_tail/infinitetail/stream/ByteString") }, accessFlags := 1, code := some k6c1 }
def k6c2 : Code := { maxStack := 4, maxLocals := 3, code := prog_77_method_4_code, exceptionTable := #[], attributes := #[] }
def k6m2 : Method := { name := "idleMillis", desc := "(J)J", sig := { parameters := [.long], returnType := some .long }, accessFlags := 1, code := some k6c2 }
def k6c3 : Code := { maxStack := 2, maxLocals := 1, code := prog_77_method_5_code, exceptionTable := #[], attributes := #[] }
def k6m3 : Method := { name := "deliveryCount", desc := "()J", sig := { parameters := [], returnType := some .long }, accessFlags := 1, code := some k6c3 }
def k6c4 : Code := { maxStack := 5, maxLocals := 5, code := prog_77_method_6_code, exceptionTable := #[], attributes := #[] }
def k6m4 : Method := { name := "delivered", desc := "(Lcom/example/infinite_tail/infinitetail/stream/ByteString;JZ)V", sig := { parameters := [(.object "com/example/infinite_tail/infinitetail/stream/ByteString"), .long, .boolean], returnType := none }, accessFlags := 0, code := some k6c4 }
/-- com/example/infinite_tail/infinitetail/stream/PendingEntry -/
def k6 : Class := { plain "com/example/infinite_tail/infinitetail/stream/PendingEntry" (some 0) with
  accessFlags := 49
  interfaces := #[]
  cf := some (fileOf pool6 14 #[] #[{ accessFlags := 0, nameIndex := 5, descriptorIndex := 42, attributes := #[] }, { accessFlags := 1, nameIndex := 25, descriptorIndex := 47, attributes := #[] }, { accessFlags := 1, nameIndex := 48, descriptorIndex := 49, attributes := #[] }, { accessFlags := 1, nameIndex := 32, descriptorIndex := 12, attributes := #[] }, { accessFlags := 0, nameIndex := 50, descriptorIndex := 51, attributes := #[] }] 49 2 #[] #[{ accessFlags := 18, nameIndex := 11, descriptorIndex := 17, attributes := #[] }, { accessFlags := 18, nameIndex := 20, descriptorIndex := 17, attributes := #[] }, { accessFlags := 2, nameIndex := 25, descriptorIndex := 26, attributes := #[] }, { accessFlags := 2, nameIndex := 29, descriptorIndex := 17, attributes := #[] }, { accessFlags := 2, nameIndex := 32, descriptorIndex := 17, attributes := #[] }])
  fields := #[{ name := "milliseconds", type := .long, accessFlags := 18, slot := 0, constantValue := 0 }, { name := "sequence", type := .long, accessFlags := 18, slot := 1, constantValue := 0 }, { name := "consumer", type := (.object "com/example/infinite_tail/infinitetail/stream/ByteString"), accessFlags := 2, slot := 2, constantValue := 0 }, { name := "deliveredAt", type := .long, accessFlags := 2, slot := 3, constantValue := 0 }, { name := "deliveryCount", type := .long, accessFlags := 2, slot := 4, constantValue := 0 }]
  methods := #[k6m0, k6m1, k6m2, k6m3, k6m4]
  instanceTypes := #[.long, .long, (.object "com/example/infinite_tail/infinitetail/stream/ByteString"), .long, .long]
  staticTypes := #[]
  resolved := Array.replicate 55 none
  statics := none }

def pool7 : Array CpInfo := pool [(1, .methodref 2 3), (0, .class_ 4), (0, .nameAndType 5 6), (0, u "java/lang/Object"), (0, u "<init>"), (0, u "()V"), (0, .fieldref 8 9), (0, .class_ 10), (0, .nameAndType 11 12), (0, u "com/example/infinite_tail/infinitetail/stream/StreamId"), (0, u "milliseconds"), (0, u "J"), (0, .fieldref 8 14), (0, .nameAndType 15 12), (0, u "sequence"), (20, u "(JJ)V"), (10, u "MAX"), (0, u "Lcom/example/infinite_tail/infinitetail/stream/StreamId;"), (21, u "MIN"), (24, u "LIMIT_BEFORE_LAST_DIGIT"), (2, u "LAST_DIGIT_AT_LIMIT"), (0, u "I"), (18, .class_ 119), (0, u "java/lang/Comparable"), (9, u "()J")] 28

def k7c0 : Code := { maxStack := 3, maxLocals := 5, code := prog_82_method_1_code, exceptionTable := #[], attributes := #[] }
def k7m0 : Method := { name := "<init>", desc := "(JJ)V", sig := { parameters := [.long, .long], returnType := none }, accessFlags := 1, code := some k7c0 }
def k7c1 : Code := { maxStack := 2, maxLocals := 1, code := prog_82_method_7_code, exceptionTable := #[], attributes := #[] }
def k7m1 : Method := { name := "milliseconds", desc := "()J", sig := { parameters := [], returnType := some .long }, accessFlags := 1, code := some k7c1 }
def k7c2 : Code := { maxStack := 2, maxLocals := 1, code := prog_82_method_8_code, exceptionTable := #[], attributes := #[] }
def k7m2 : Method := { name := "sequence", desc := "()J", sig := { parameters := [], returnType := some .long }, accessFlags := 1, code := some k7c2 }
/-- com/example/infinite_tail/infinitetail/stream/StreamId -/
def k7 : Class := { plain "com/example/infinite_tail/infinitetail/stream/StreamId" (some 0) with
  accessFlags := 49
  interfaces := #[2]
  cf := some (fileOf pool7 8 #[] #[{ accessFlags := 1, nameIndex := 5, descriptorIndex := 36, attributes := #[] }, { accessFlags := 1, nameIndex := 11, descriptorIndex := 129, attributes := #[] }, { accessFlags := 1, nameIndex := 15, descriptorIndex := 129, attributes := #[] }] 49 2 #[118] #[{ accessFlags := 25, nameIndex := 70, descriptorIndex := 48, attributes := #[] }, { accessFlags := 25, nameIndex := 47, descriptorIndex := 48, attributes := #[] }, { accessFlags := 26, nameIndex := 95, descriptorIndex := 12, attributes := #[] }, { accessFlags := 26, nameIndex := 98, descriptorIndex := 99, attributes := #[] }, { accessFlags := 18, nameIndex := 11, descriptorIndex := 12, attributes := #[] }, { accessFlags := 18, nameIndex := 15, descriptorIndex := 12, attributes := #[] }])
  fields := #[{ name := "MIN", type := (.object "com/example/infinite_tail/infinitetail/stream/StreamId"), accessFlags := 25, slot := 0, constantValue := 0 }, { name := "MAX", type := (.object "com/example/infinite_tail/infinitetail/stream/StreamId"), accessFlags := 25, slot := 1, constantValue := 0 }, { name := "LIMIT_BEFORE_LAST_DIGIT", type := .long, accessFlags := 26, slot := 2, constantValue := 0 }, { name := "LAST_DIGIT_AT_LIMIT", type := .int, accessFlags := 26, slot := 3, constantValue := 0 }, { name := "milliseconds", type := .long, accessFlags := 18, slot := 0, constantValue := 0 }, { name := "sequence", type := .long, accessFlags := 18, slot := 1, constantValue := 0 }]
  methods := #[k7m0, k7m1, k7m2]
  instanceTypes := #[.long, .long]
  staticTypes := #[(.object "com/example/infinite_tail/infinitetail/stream/StreamId"), (.object "com/example/infinite_tail/infinitetail/stream/StreamId"), .long, .int]
  resolved := Array.replicate 158 none
  statics := none }

def pool8 : Array CpInfo := pool [(2, .class_ 4), (1, u "java/lang/Object"), (6, .class_ 13), (1, u "com/example/infinite_tail/infinitetail/stream/ConsumerGroup"), (0, u "pending"), (0, u "Lcom/example/infinite_tail/infinitetail/stream/IdMap;"), (5, u "consumers"), (0, u "Ljava/util/NavigableMap;"), (2, u "stream"), (0, u "Lcom/example/infinite_tail/infinitetail/stream/Stream;"), (2, u "name"), (0, u "Lcom/example/infinite_tail/infinitetail/stream/ByteString;"), (2, u "lastDeliveredId"), (0, u "Lcom/example/infinite_tail/infinitetail/stream/StreamId;"), (278, .methodref 314 315), (0, .class_ 316), (0, .nameAndType 317 318), (0, u "java/lang/Math"), (0, u "max"), (0, u "(JJ)J"), (0, u "SCANNED_PER_CLAIM"), (0, u "J"), (42, u "millisBetween")] 48

def k8c0 : Code := { maxStack := 6, maxLocals := 4, code := prog_72_method_30_code, exceptionTable := #[], attributes := #[] }
def k8m0 : Method := { name := "millisBetween", desc := "(JJ)J", sig := { parameters := [.long, .long], returnType := some .long }, accessFlags := 8, code := some k8c0 }
/-- com/example/infinite_tail/infinitetail/stream/ConsumerGroup -/
def k8 : Class := { plain "com/example/infinite_tail/infinitetail/stream/ConsumerGroup" (some 0) with
  accessFlags := 49
  interfaces := #[]
  cf := some (fileOf pool8 11 #[] #[{ accessFlags := 8, nameIndex := 363, descriptorIndex := 318, attributes := #[] }] 49 2 #[] #[{ accessFlags := 26, nameIndex := 319, descriptorIndex := 320, attributes := #[] }, { accessFlags := 18, nameIndex := 25, descriptorIndex := 26, attributes := #[] }, { accessFlags := 18, nameIndex := 29, descriptorIndex := 30, attributes := #[] }, { accessFlags := 2, nameIndex := 33, descriptorIndex := 34, attributes := #[] }, { accessFlags := 18, nameIndex := 14, descriptorIndex := 15, attributes := #[] }, { accessFlags := 18, nameIndex := 21, descriptorIndex := 22, attributes := #[] }])
  fields := #[{ name := "SCANNED_PER_CLAIM", type := .long, accessFlags := 26, slot := 0, constantValue := 0 }, { name := "stream", type := (.object "com/example/infinite_tail/infinitetail/stream/Stream"), accessFlags := 18, slot := 0, constantValue := 0 }, { name := "name", type := (.object "com/example/infinite_tail/infinitetail/stream/ByteString"), accessFlags := 18, slot := 1, constantValue := 0 }, { name := "lastDeliveredId", type := (.object "com/example/infinite_tail/infinitetail/stream/StreamId"), accessFlags := 2, slot := 2, constantValue := 0 }, { name := "pending", type := (.object "com/example/infinite_tail/infinitetail/stream/IdMap"), accessFlags := 18, slot := 3, constantValue := 0 }, { name := "consumers", type := (.object "java/util/NavigableMap"), accessFlags := 18, slot := 4, constantValue := 0 }]
  methods := #[k8m0]
  instanceTypes := #[(.object "com/example/infinite_tail/infinitetail/stream/Stream"), (.object "com/example/infinite_tail/infinitetail/stream/ByteString"), (.object "com/example/infinite_tail/infinitetail/stream/StreamId"), (.object "com/example/infinite_tail/infinitetail/stream/IdMap"), (.object "java/util/NavigableMap")]
  staticTypes := #[.long]
  resolved := Array.replicate 412 none
  statics := none }

def pool9 : Array CpInfo := pool [(1, .class_ 2), (0, u "java/lang/Math"), (1, .class_ 6), (1, u "java/lang/Object"), (0, u "<init>"), (0, u "()V"), (89, .class_ 100), (1, u "java/lang/Math$RandomNumberGeneratorHolder"), (20, u "(JJ)J"), (50, u "negativeZeroFloatBits"), (0, u "J"), (2, u "negativeZeroDoubleBits"), (21, u "max"), (46, u "$assertionsDisabled"), (0, u "Z"), (91, u "twoToTheDoubleScaleDown"), (0, u "D"), (4, u "twoToTheDoubleScaleUp"), (9, u "E"), (3, u "PI"), (2, u "TAU"), (2, u "DEGREES_TO_RADIANS"), (0, u "RADIANS_TO_DEGREES")] 94

def k9m0 : Method := { name := "<init>", desc := "()V", sig := { parameters := [], returnType := none }, accessFlags := 2, code := none }
def k9c1 : Code := { maxStack := 4, maxLocals := 4, code := jdk_29_method_66_code, exceptionTable := #[], attributes := #[] }
def k9m1 : Method := { name := "max", desc := "(JJ)J", sig := { parameters := [.long, .long], returnType := some .long }, accessFlags := 9, code := some k9c1 }
/-- java/lang/Math -/
def k9 : Class := { plain "java/lang/Math" (some 0) with
  accessFlags := 49
  interfaces := #[]
  cf := some (fileOf pool9 1 #[.nestMembers #[98]] #[{ accessFlags := 2, nameIndex := 7, descriptorIndex := 8, attributes := #[] }, { accessFlags := 9, nameIndex := 198, descriptorIndex := 121, attributes := #[] }] 49 4 #[] #[{ accessFlags := 25, nameIndex := 354, descriptorIndex := 339, attributes := #[] }, { accessFlags := 25, nameIndex := 358, descriptorIndex := 339, attributes := #[] }, { accessFlags := 25, nameIndex := 361, descriptorIndex := 339, attributes := #[] }, { accessFlags := 26, nameIndex := 364, descriptorIndex := 339, attributes := #[] }, { accessFlags := 26, nameIndex := 365, descriptorIndex := 339, attributes := #[] }, { accessFlags := 26, nameIndex := 172, descriptorIndex := 173, attributes := #[] }, { accessFlags := 26, nameIndex := 176, descriptorIndex := 173, attributes := #[] }, { accessFlags := 8, nameIndex := 344, descriptorIndex := 339, attributes := #[] }, { accessFlags := 8, nameIndex := 338, descriptorIndex := 339, attributes := #[] }, { accessFlags := 4120, nameIndex := 245, descriptorIndex := 246, attributes := #[] }])
  fields := #[{ name := "E", type := .double, accessFlags := 25, slot := 0, constantValue := 0 }, { name := "PI", type := .double, accessFlags := 25, slot := 1, constantValue := 0 }, { name := "TAU", type := .double, accessFlags := 25, slot := 2, constantValue := 0 }, { name := "DEGREES_TO_RADIANS", type := .double, accessFlags := 26, slot := 3, constantValue := 0 }, { name := "RADIANS_TO_DEGREES", type := .double, accessFlags := 26, slot := 4, constantValue := 0 }, { name := "negativeZeroFloatBits", type := .long, accessFlags := 26, slot := 5, constantValue := 0 }, { name := "negativeZeroDoubleBits", type := .long, accessFlags := 26, slot := 6, constantValue := 0 }, { name := "twoToTheDoubleScaleUp", type := .double, accessFlags := 8, slot := 7, constantValue := 0 }, { name := "twoToTheDoubleScaleDown", type := .double, accessFlags := 8, slot := 8, constantValue := 0 }, { name := "$assertionsDisabled", type := .boolean, accessFlags := 4120, slot := 9, constantValue := 0 }]
  methods := #[k9m0, k9m1]
  instanceTypes := #[]
  staticTypes := #[.double, .double, .double, .double, .double, .long, .long, .double, .double, .boolean]
  resolved := Array.replicate 460 none
  statics := none }

def pool10 : Array CpInfo := pool [(1, u "java/lang/Cloneable"), (0, .class_ 1), (0, u "java/lang/Object"), (0, .class_ 3)] 3

/-- java/lang/Cloneable -/
def k10 : Class := { plain "java/lang/Cloneable" (some 0) with
  accessFlags := 1537
  interfaces := #[]
  cf := some (fileOf pool10 2 #[] #[] 1537 4 #[] #[])
  fields := #[]
  methods := #[]
  instanceTypes := #[]
  staticTypes := #[]
  resolved := Array.replicate 8 none
  statics := none }

def pool11 : Array CpInfo := pool [(1, u "java/io/Serializable"), (0, .class_ 1), (0, u "java/lang/Object"), (0, .class_ 3)] 3

/-- java/io/Serializable -/
def k11 : Class := { plain "java/io/Serializable" (some 0) with
  accessFlags := 1537
  interfaces := #[]
  cf := some (fileOf pool11 2 #[] #[] 1537 4 #[] #[])
  fields := #[]
  methods := #[]
  instanceTypes := #[]
  staticTypes := #[]
  resolved := Array.replicate 8 none
  statics := none }

/-- the primitive byte -/
def k12 : Class := { plain "byte" none with kind := .primitive 'B', accessFlags := 0x411 }
/-- [B -/
def k13 : Class := { plain "[B" (some 0) with kind := .array 12 .byte, interfaces := #[10, 11], accessFlags := 1041 }

/-- the primitive int -/
def k14 : Class := { plain "int" none with kind := .primitive 'I', accessFlags := 0x411 }
/-- [I -/
def k15 : Class := { plain "[I" (some 0) with kind := .array 14 .int, interfaces := #[10, 11], accessFlags := 1041 }

def heap : Heap := #[]
def classes : Array Class := #[k0, k1, k2, k3, k4, k5, k6, k7, k8, k9, k10, k11, k12, k13, k14, k15]
def interned : List (Array UInt16 × Addr) := []
def slotsUsed : Nat := 0
def theMethod : MethodId := ⟨1, 1⟩
def args0 : Array Value := #[.long 1, .long 2, .long 3, .long 4, .long 5, .int 6]
def aboutOver (below : List Frame) : State where
  vm := { classes := classes, interned := interned.toArray }
  heap := heap
  slotsUsed := slotsUsed
  threads := #[{ frames := .invoking theMethod args0 :: below }]
def below0 : List Frame := [.native { method := ⟨0, 0⟩, args := #[] }]
def about1 : State := aboutOver below0
def p0 : Program := .bare "" "" ""
def e0 : Env := launch0.env 0 0 0
theorem w_frames : about1.frames = Frame.invoking theMethod args0 :: below0 := rfl
set_option maxRecDepth 65536 in
theorem w_args : argsFit about1.vm theMethod args0 = true := by decide +kernel
set_option maxRecDepth 65536 in
theorem w_heap : heapFits about1 = true := by decide +kernel
set_option maxRecDepth 65536 in
theorem w_runnable : about1.curStatus? = some .runnable := by decide +kernel
set_option maxRecDepth 65536 in
theorem w_alone : about1.alone = true := by decide +kernel
set_option maxRecDepth 65536 in
theorem w_named : about1.methodNamed? x = some theMethod := by decide +kernel
set_option maxRecDepth 65536 in
theorem w_hears : about1.hears theMethod below0 = true := by decide +kernel
set_option maxRecDepth 65536 in
theorem w_ripe : about1.ripe theMethod args0 below0 = true := by decide +kernel
theorem w_running : about1.status = .running := rfl
set_option maxRecDepth 65536 in
theorem w_room : about1.hasRoom e0.platform room_1 = true :=
  launch0.hasRoom_least _ room_1 (by decide +kernel) (by decide +kernel) (by decide +kernel) (by decide +kernel) (by decide +kernel) (by decide +kernel)
theorem allAtoms_all (ts : List Jvm.Cond) (a : Array Jvm.Value) (st : Jvm.State) : (allAtoms ts).before a st = ts.all (fun c => c.before a st) := by
  induction ts with
  | nil => rfl
  | cons c t ih =>
    show (Jvm.Cond.and c (allAtoms t)).before a st = _
    rw [Jvm.Cond.before_and, ih, List.all_cons]
def words1 : List Jvm.Cond := Jvm.Cond.code x code maxLocals ret :: tables_1
/-- a 'code' word, met by the world's own term for the bytes: nothing is compared byte by byte -/
theorem code_word {y : MethodName} {bytes : ByteArray} {mx : Nat} {rt : Option FieldType} {a : Array Value} {s : State} {m : MethodId} {meth : Method} {c : Code} (h1 : s.methodNamed? y = some m) (h2 : s.vm.method? m = some meth) (h3 : meth.code = some c) (h4 : c.code = bytes)
    (h5 : (c.maxLocals == mx && c.exceptionTable.isEmpty && decide (c.maxStack ≤ mostOperands) && decide (meth.sig.returnType = rt) && !meth.locks && decide (parseMethodDescriptor y.desc = some meth.sig)) = true) : (Jvm.Cond.code y bytes mx rt).before a s = true := by
  simp only [Bool.and_eq_true, beq_iff_eq, Bool.not_eq_true', decide_eq_true_eq] at h5
  obtain ⟨⟨⟨⟨⟨g1, g2⟩, g3⟩, g4⟩, g5⟩, g6⟩ := h5
  simp [Cond.before, Cond.holds, Cond.value, h1, h2, h3, h4, g1, g2, g3, g4, g5, g6]
def isCode : Jvm.Cond → Bool
  | .code _ _ _ _ => true
  | _ => false
theorem all_split {L : List Jvm.Cond} {P : Jvm.Cond → Bool} (h1 : L.all (fun c => isCode c || P c) = true) (h2 : ∀ c ∈ L.filter isCode, P c = true) : L.all P = true := by
  refine List.all_eq_true.mpr fun c hc => ?_
  have h := List.all_eq_true.mp h1 c hc
  rcases Bool.eq_false_or_eq_true (isCode c) with hi | hi
  · exact h2 c (List.mem_filter.mpr ⟨hc, hi⟩)
  · simpa [hi] using h
set_option maxRecDepth 65536 in
theorem w_c0 : (Jvm.Cond.code x code maxLocals ret).before args0 about1 = true := code_word (m := ⟨1, 1⟩) (meth := k1m1) (c := k1c1) (by decide +kernel) rfl rfl rfl (by decide +kernel)
set_option maxRecDepth 65536 in
theorem w_c1 : (Jvm.Cond.code ({ cls := "com/example/infinite_tail/infinitetail/stream/ByteString", name := "<init>", desc := "([B)V" } : Jvm.MethodName) prog_70_method_1_code (2 : Nat) (Option.none : Option Jvm.ClassFile.FieldType)).before args0 about1 = true := code_word (m := ⟨3, 0⟩) (meth := k3m0) (c := k3c0) (by decide +kernel) rfl rfl rfl (by decide +kernel)
set_option maxRecDepth 65536 in
theorem w_c2 : (Jvm.Cond.code ({ cls := "java/lang/Object", name := "<init>", desc := "()V" } : Jvm.MethodName) object_method_1_code (1 : Nat) (Option.none : Option Jvm.ClassFile.FieldType)).before args0 about1 = true := code_word (m := ⟨0, 0⟩) (meth := k0m0) (c := k0c0) (by decide +kernel) rfl rfl rfl (by decide +kernel)
set_option maxRecDepth 65536 in
theorem w_c3 : (Jvm.Cond.code ({ cls := "java/util/Arrays", name := "hashCode", desc := "([B)I" } : Jvm.MethodName) jdk_65_method_153_code (1 : Nat) (Option.some Jvm.ClassFile.FieldType.int)).before args0 about1 = true := code_word (m := ⟨4, 1⟩) (meth := k4m1) (c := k4c1) (by decide +kernel) rfl rfl rfl (by decide +kernel)
set_option maxRecDepth 65536 in
theorem w_c4 : (Jvm.Cond.code ({ cls := "jdk/internal/util/ArraysSupport", name := "vectorizedHashCode", desc := "(Ljava/lang/Object;IIII)I" } : Jvm.MethodName) jdk_48_method_4_code (5 : Nat) (Option.some Jvm.ClassFile.FieldType.int)).before args0 about1 = true := code_word (m := ⟨5, 1⟩) (meth := k5m1) (c := k5c1) (by decide +kernel) rfl rfl rfl (by decide +kernel)
set_option maxRecDepth 65536 in
theorem w_c5 : (Jvm.Cond.code ({ cls := "jdk/internal/util/ArraysSupport", name := "hashCode", desc := "(I[BII)I" } : Jvm.MethodName) jdk_48_method_6_code (6 : Nat) (Option.some Jvm.ClassFile.FieldType.int)).before args0 about1 = true := code_word (m := ⟨5, 2⟩) (meth := k5m2) (c := k5c2) (by decide +kernel) rfl rfl rfl (by decide +kernel)
set_option maxRecDepth 65536 in
theorem w_c6 : (Jvm.Cond.code ({ cls := "com/example/infinite_tail/infinitetail/stream/StreamId", name := "<init>", desc := "(JJ)V" } : Jvm.MethodName) prog_82_method_1_code (5 : Nat) (Option.none : Option Jvm.ClassFile.FieldType)).before args0 about1 = true := code_word (m := ⟨7, 0⟩) (meth := k7m0) (c := k7c0) (by decide +kernel) rfl rfl rfl (by decide +kernel)
set_option maxRecDepth 65536 in
theorem w_c7 : (Jvm.Cond.code ({ cls := "com/example/infinite_tail/infinitetail/stream/PendingEntry", name := "<init>", desc := "(Lcom/example/infinite_tail/infinitetail/stream/StreamId;Lcom/example/infinite_tail/infinitetail/stream/ByteString;JJ)V" } : Jvm.MethodName) prog_77_method_1_code (7 : Nat) (Option.none : Option Jvm.ClassFile.FieldType)).before args0 about1 = true := code_word (m := ⟨6, 0⟩) (meth := k6m0) (c := k6c0) (by decide +kernel) rfl rfl rfl (by decide +kernel)
set_option maxRecDepth 65536 in
theorem w_c8 : (Jvm.Cond.code ({ cls := "com/example/infinite_tail/infinitetail/stream/StreamId", name := "milliseconds", desc := "()J" } : Jvm.MethodName) prog_82_method_7_code (1 : Nat) (Option.some Jvm.ClassFile.FieldType.long)).before args0 about1 = true := code_word (m := ⟨7, 1⟩) (meth := k7m1) (c := k7c1) (by decide +kernel) rfl rfl rfl (by decide +kernel)
set_option maxRecDepth 65536 in
theorem w_c9 : (Jvm.Cond.code ({ cls := "com/example/infinite_tail/infinitetail/stream/StreamId", name := "sequence", desc := "()J" } : Jvm.MethodName) prog_82_method_8_code (1 : Nat) (Option.some Jvm.ClassFile.FieldType.long)).before args0 about1 = true := code_word (m := ⟨7, 2⟩) (meth := k7m2) (c := k7c2) (by decide +kernel) rfl rfl rfl (by decide +kernel)
set_option maxRecDepth 65536 in
theorem w_c10 : (Jvm.Cond.code ({ cls := "com/example/infinite_tail/infinitetail/stream/PendingEntry", name := "delivered", desc := "(Lcom/example/infinite_tail/infinitetail/stream/ByteString;JZ)V" } : Jvm.MethodName) prog_77_method_6_code (5 : Nat) (Option.none : Option Jvm.ClassFile.FieldType)).before args0 about1 = true := code_word (m := ⟨6, 4⟩) (meth := k6m4) (c := k6c4) (by decide +kernel) rfl rfl rfl (by decide +kernel)
set_option maxRecDepth 65536 in
theorem w_c11 : (Jvm.Cond.code ({ cls := "com/example/infinite_tail/infinitetail/stream/PendingEntry", name := "consumer", desc := "()Lcom/example/infinite_tail/infinitetail/stream/ByteString;" } : Jvm.MethodName) prog_77_method_3_code (1 : Nat) (Option.some (Jvm.ClassFile.FieldType.object "com/example/infinite_tail/infinitetail/stream/ByteString"))).before args0 about1 = true := code_word (m := ⟨6, 1⟩) (meth := k6m1) (c := k6c1) (by decide +kernel) rfl rfl rfl (by decide +kernel)
set_option maxRecDepth 65536 in
theorem w_c12 : (Jvm.Cond.code ({ cls := "com/example/infinite_tail/infinitetail/stream/PendingEntry", name := "deliveryCount", desc := "()J" } : Jvm.MethodName) prog_77_method_5_code (1 : Nat) (Option.some Jvm.ClassFile.FieldType.long)).before args0 about1 = true := code_word (m := ⟨6, 3⟩) (meth := k6m3) (c := k6c3) (by decide +kernel) rfl rfl rfl (by decide +kernel)
set_option maxRecDepth 65536 in
theorem w_c13 : (Jvm.Cond.code ({ cls := "com/example/infinite_tail/infinitetail/stream/PendingEntry", name := "idleMillis", desc := "(J)J" } : Jvm.MethodName) prog_77_method_4_code (3 : Nat) (Option.some Jvm.ClassFile.FieldType.long)).before args0 about1 = true := code_word (m := ⟨6, 2⟩) (meth := k6m2) (c := k6c2) (by decide +kernel) rfl rfl rfl (by decide +kernel)
set_option maxRecDepth 65536 in
theorem w_c14 : (Jvm.Cond.code ({ cls := "com/example/infinite_tail/infinitetail/stream/ConsumerGroup", name := "millisBetween", desc := "(JJ)J" } : Jvm.MethodName) prog_72_method_30_code (4 : Nat) (Option.some Jvm.ClassFile.FieldType.long)).before args0 about1 = true := code_word (m := ⟨8, 0⟩) (meth := k8m0) (c := k8c0) (by decide +kernel) rfl rfl rfl (by decide +kernel)
set_option maxRecDepth 65536 in
theorem w_c15 : (Jvm.Cond.code ({ cls := "java/lang/Math", name := "max", desc := "(JJ)J" } : Jvm.MethodName) jdk_29_method_66_code (4 : Nat) (Option.some Jvm.ClassFile.FieldType.long)).before args0 about1 = true := code_word (m := ⟨9, 1⟩) (meth := k9m1) (c := k9c1) (by decide +kernel) rfl rfl rfl (by decide +kernel)
def codes1 : List Jvm.Cond := [Jvm.Cond.code x code maxLocals ret, Jvm.Cond.code ({ cls := "com/example/infinite_tail/infinitetail/stream/ByteString", name := "<init>", desc := "([B)V" } : Jvm.MethodName) prog_70_method_1_code (2 : Nat) (Option.none : Option Jvm.ClassFile.FieldType), Jvm.Cond.code ({ cls := "java/lang/Object", name := "<init>", desc := "()V" } : Jvm.MethodName) object_method_1_code (1 : Nat) (Option.none : Option Jvm.ClassFile.FieldType), Jvm.Cond.code ({ cls := "java/util/Arrays", name := "hashCode", desc := "([B)I" } : Jvm.MethodName) jdk_65_method_153_code (1 : Nat) (Option.some Jvm.ClassFile.FieldType.int), Jvm.Cond.code ({ cls := "jdk/internal/util/ArraysSupport", name := "vectorizedHashCode", desc := "(Ljava/lang/Object;IIII)I" } : Jvm.MethodName) jdk_48_method_4_code (5 : Nat) (Option.some Jvm.ClassFile.FieldType.int), Jvm.Cond.code ({ cls := "jdk/internal/util/ArraysSupport", name := "hashCode", desc := "(I[BII)I" } : Jvm.MethodName) jdk_48_method_6_code (6 : Nat) (Option.some Jvm.ClassFile.FieldType.int), Jvm.Cond.code ({ cls := "com/example/infinite_tail/infinitetail/stream/StreamId", name := "<init>", desc := "(JJ)V" } : Jvm.MethodName) prog_82_method_1_code (5 : Nat) (Option.none : Option Jvm.ClassFile.FieldType), Jvm.Cond.code ({ cls := "com/example/infinite_tail/infinitetail/stream/PendingEntry", name := "<init>", desc := "(Lcom/example/infinite_tail/infinitetail/stream/StreamId;Lcom/example/infinite_tail/infinitetail/stream/ByteString;JJ)V" } : Jvm.MethodName) prog_77_method_1_code (7 : Nat) (Option.none : Option Jvm.ClassFile.FieldType), Jvm.Cond.code ({ cls := "com/example/infinite_tail/infinitetail/stream/StreamId", name := "milliseconds", desc := "()J" } : Jvm.MethodName) prog_82_method_7_code (1 : Nat) (Option.some Jvm.ClassFile.FieldType.long), Jvm.Cond.code ({ cls := "com/example/infinite_tail/infinitetail/stream/StreamId", name := "sequence", desc := "()J" } : Jvm.MethodName) prog_82_method_8_code (1 : Nat) (Option.some Jvm.ClassFile.FieldType.long), Jvm.Cond.code ({ cls := "com/example/infinite_tail/infinitetail/stream/PendingEntry", name := "delivered", desc := "(Lcom/example/infinite_tail/infinitetail/stream/ByteString;JZ)V" } : Jvm.MethodName) prog_77_method_6_code (5 : Nat) (Option.none : Option Jvm.ClassFile.FieldType), Jvm.Cond.code ({ cls := "com/example/infinite_tail/infinitetail/stream/PendingEntry", name := "consumer", desc := "()Lcom/example/infinite_tail/infinitetail/stream/ByteString;" } : Jvm.MethodName) prog_77_method_3_code (1 : Nat) (Option.some (Jvm.ClassFile.FieldType.object "com/example/infinite_tail/infinitetail/stream/ByteString")), Jvm.Cond.code ({ cls := "com/example/infinite_tail/infinitetail/stream/PendingEntry", name := "deliveryCount", desc := "()J" } : Jvm.MethodName) prog_77_method_5_code (1 : Nat) (Option.some Jvm.ClassFile.FieldType.long), Jvm.Cond.code ({ cls := "com/example/infinite_tail/infinitetail/stream/PendingEntry", name := "idleMillis", desc := "(J)J" } : Jvm.MethodName) prog_77_method_4_code (3 : Nat) (Option.some Jvm.ClassFile.FieldType.long), Jvm.Cond.code ({ cls := "com/example/infinite_tail/infinitetail/stream/ConsumerGroup", name := "millisBetween", desc := "(JJ)J" } : Jvm.MethodName) prog_72_method_30_code (4 : Nat) (Option.some Jvm.ClassFile.FieldType.long), Jvm.Cond.code ({ cls := "java/lang/Math", name := "max", desc := "(JJ)J" } : Jvm.MethodName) jdk_29_method_66_code (4 : Nat) (Option.some Jvm.ClassFile.FieldType.long)]
set_option maxRecDepth 65536 in
theorem codes_eq : words1.filter isCode = codes1 := rfl
theorem w_codes : ∀ c ∈ words1.filter isCode, c.before args0 about1 = true := by
  rw [codes_eq]
  intro c hc
  simp only [codes1, List.mem_cons, List.not_mem_nil, or_false] at hc
  rcases hc with rfl | rfl | rfl | rfl | rfl | rfl | rfl | rfl | rfl | rfl | rfl | rfl | rfl | rfl | rfl | rfl
  · exact w_c0
  · exact w_c1
  · exact w_c2
  · exact w_c3
  · exact w_c4
  · exact w_c5
  · exact w_c6
  · exact w_c7
  · exact w_c8
  · exact w_c9
  · exact w_c10
  · exact w_c11
  · exact w_c12
  · exact w_c13
  · exact w_c14
  · exact w_c15
set_option maxRecDepth 65536 in
theorem w_t1 : (words1.take 24).all (fun c => isCode c || c.before args0 about1) = true := by decide +kernel
set_option maxRecDepth 65536 in
theorem w_t2 : ((words1.drop 24).take 24).all (fun c => isCode c || c.before args0 about1) = true := by decide +kernel
set_option maxRecDepth 65536 in
theorem w_t3 : (((words1.drop 24).drop 24).take 24).all (fun c => isCode c || c.before args0 about1) = true := by decide +kernel
set_option maxRecDepth 65536 in
theorem w_t4 : (((words1.drop 24).drop 24).drop 24).all (fun c => isCode c || c.before args0 about1) = true := by decide +kernel
theorem w_tables : (allAtoms (Jvm.Cond.code x code maxLocals ret :: tables_1)).before args0 about1 = true := by
  rw [allAtoms_all]
  show words1.all (fun c => c.before args0 about1) = true
  refine all_split ?_ w_codes
  rw [← List.take_append_drop 24 words1, List.all_append, w_t1, ← List.take_append_drop 24 (words1.drop 24), List.all_append, w_t2, ← List.take_append_drop 24 ((words1.drop 24).drop 24), List.all_append, w_t3, w_t4]
  rfl
set_option maxRecDepth 65536 in
theorem w_case : (Jvm.Cond.and given_1 narrow_1).before args0 about1 = true := by decide +kernel
theorem w_applies : (headSpec (Jvm.Cond.code x code maxLocals ret :: tables_1) room_1).applies x e0.platform about1 = true :=
  (Spec.applies_iff w_frames).mpr ⟨w_running, w_runnable, w_alone, w_named, w_hears, w_ripe, w_room, w_tables⟩
theorem atStart : AtStart classFile x code maxLocals ret World_1 tables_1 room_1 Calls_1 rest_1 Pre_1 launch0 p0 e0 about1 theMethod args0 below0 :=
  ⟨lists_1, trivial, launch0.admits_env _ _ _, launch0.least_env, fairChoices_fair.cas, fairChoices_fair.clock, w_frames, w_args, w_heap, w_applies, trivial, trivial, w_case⟩
end start1
theorem witness_1 : WitnessClaimed_1 := ⟨start1.p0, start1.e0, start1.about1, start1.theMethod, start1.args0, start1.below0, start1.atStart⟩
end Jvm.Pilot.@@N@@
