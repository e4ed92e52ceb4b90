import JvmDerived
import JvmDerived.Pilot.@@N@@Statement
import JvmDerived.Pilot.@@N@@Code
set_option linter.unusedVariables false
set_option linter.unusedSimpArgs false
namespace Jvm.Pilot.@@N@@
open Jvm Jvm.ClassFile Sem Op Lib Jvm.Free Jvm.Stand Jvm.LawKit Jvm.RoadKit Bundle Jvm.Pilot.@@N@@.Jvm.D
section Own
variable {p : Program} {l : Launch} {e : Env} {R : Room} {s : State} {m : MethodId} {args : Array Value} {below : List Frame} {meth : Method} {c : Code} {T T' : State} {locs : List Loc} {cells slots : Nat} {Qf : Option Value → Heap → List Loc → Prop} {C S : Nat} {F F' : JFrame}
/-- from the state T with the frame F on top the invocation ends as Qf says -/
def own_Go (p : Program) (e : Env) (below : List Frame) (s : State) (Qf : Option Value → Heap → List Loc → Prop) (C S : Nat) (T : State) (F : JFrame) : Prop :=
  ∃ s₂ o, Steps p.tables e below (T.setTop F) s₂ ∧ s₂.status = .running ∧ Ended s₂ below o ∧ ∃ v L, o = .returned v ∧ Qf v s₂.heap L ∧ FrameEnd s o s₂ L C S
theorem own_enter (q : F = F') (hr : own_Go p e below s Qf C S T F') : ∃ s₂ o, Steps p.tables e below (T.setTop F) s₂ ∧ s₂.status = .running ∧ Ended s₂ below o ∧ ∃ v L, o = .returned v ∧ Qf v s₂.heap L ∧ FrameEnd s o s₂ L C S := by
  subst q; exact hr
theorem own_st (st : ∀ t, Steps p.tables e below (T'.setTop F') t → Steps p.tables e below (T.setTop F) t) (hr : own_Go p e below s Qf C S T' F') : own_Go p e below s Qf C S T F := by
  obtain ⟨s2, o, h1, h2⟩ := hr
  exact ⟨s2, o, st _ h1, h2⟩
theorem own_tr (st : Steps p.tables e below (T.setTop F) (T'.setTop F')) (hr : own_Go p e below s Qf C S T' F') : own_Go p e below s Qf C S T F := by
  obtain ⟨s2, o, h1, h2⟩ := hr
  exact ⟨s2, o, st.trans h1, h2⟩
theorem own_ret (X : Stand p l e R s m args below meth c T locs cells slots) (hlk : meth.locks = false) {v : Option Value} (hv : meth.sig.returnType = none → v = none)
    (st : ∀ fs, (∀ (f : JFrame) (acts : List Action), f.method = m → f.locked = none → f.entered = [] → (doReturn e (T.setTop f) acts v).1 = T.setFrames fs) → Steps p.tables e below (T.setTop F) (T.setFrames fs))
    (hQ : Qf v T.heap locs) (hC : cells ≤ C) (hS : slots ≤ S) : own_Go p e below s Qf C S T F := by
  obtain ⟨fs, hr, hrun, hended, hW, hsame⟩ := X.leave (v := v) hv hlk
  exact ⟨_, _, st fs hr, hrun, hended, _, _, rfl, hQ, ⟨_, rfl⟩, hW, hsame.mono hC hS⟩
theorem own_retN (X : Stand p l e R s m args below meth c T locs cells slots) (hx : p.tables.exec = Jvm.exec) (hlk : meth.locks = false) {pc : Nat} {Ls : Array Slot} {z : Int32} {t : FieldType} {rest : List Value} (hret : meth.sig.returnType = some t) (ht : t = .boolean ∨ t = .byte ∨ t = .char ∨ t = .short) (hd : decode c.code pc = .ok (.ireturn, 1))
    (hQ : Qf (some (.int (nar t z))) T.heap locs) (hC : cells ≤ C) (hS : slots ≤ S) : own_Go p e below s Qf C S T (mkF m pc Ls (.int z :: rest)) :=
  own_ret X hlk (fun h => by rw [hret] at h; cases h) (fun _ hr => retN X hx hret ht hd hr) hQ hC hS
theorem own_retI (X : Stand p l e R s m args below meth c T locs cells slots) (hx : p.tables.exec = Jvm.exec) (hlk : meth.locks = false) {pc : Nat} {Ls : Array Slot} {z : Int32} {rest : List Value} (hret : meth.sig.returnType = some .int) (hd : decode c.code pc = .ok (.ireturn, 1))
    (hQ : Qf (some (.int z)) T.heap locs) (hC : cells ≤ C) (hS : slots ≤ S) : own_Go p e below s Qf C S T (mkF m pc Ls (.int z :: rest)) :=
  own_ret X hlk (fun h => by rw [hret] at h; cases h) (fun _ hr => retOut X hx hret rfl (Or.inl ⟨rfl, Or.inl rfl, _, rfl⟩) hd hr) hQ hC hS
theorem own_retJ (X : Stand p l e R s m args below meth c T locs cells slots) (hx : p.tables.exec = Jvm.exec) (hlk : meth.locks = false) {pc : Nat} {Ls : Array Slot} {z : Int64} {rest : List Value} (hret : meth.sig.returnType = some .long) (hd : decode c.code pc = .ok (.lreturn, 1))
    (hQ : Qf (some (.long z)) T.heap locs) (hC : cells ≤ C) (hS : slots ≤ S) : own_Go p e below s Qf C S T (mkF m pc Ls (.long z :: rest)) :=
  own_ret X hlk (fun h => by rw [hret] at h; cases h) (fun _ hr => retOut X hx hret rfl (Or.inr (Or.inl ⟨rfl, rfl, _, rfl⟩)) hd hr) hQ hC hS
theorem own_retD (X : Stand p l e R s m args below meth c T locs cells slots) (hx : p.tables.exec = Jvm.exec) (hlk : meth.locks = false) {pc : Nat} {Ls : Array Slot} {z : UInt64} {rest : List Value} (hret : meth.sig.returnType = some .double) (hd : decode c.code pc = .ok (.dreturn, 1))
    (hQ : Qf (some (.double z)) T.heap locs) (hC : cells ≤ C) (hS : slots ≤ S) : own_Go p e below s Qf C S T (mkF m pc Ls (.double z :: rest)) :=
  own_ret X hlk (fun h => by rw [hret] at h; cases h) (fun _ hr => retOut X hx hret rfl (Or.inr (Or.inr (Or.inl ⟨rfl, rfl, _, rfl⟩))) hd hr) hQ hC hS
theorem own_retA (X : Stand p l e R s m args below meth c T locs cells slots) (hx : p.tables.exec = Jvm.exec) (hlk : meth.locks = false) {pc : Nat} {Ls : Array Slot} {w : Value} {t : FieldType} {rest : List Value} (hret : meth.sig.returnType = some t) (ht : t.isReference = true) (hw : w.isRef = true) (hn : narrow t w = w) (hd : decode c.code pc = .ok (.areturn, 1))
    (hQ : Qf (some w) T.heap locs) (hC : cells ≤ C) (hS : slots ≤ S) : own_Go p e below s Qf C S T (mkF m pc Ls (w :: rest)) :=
  own_ret X hlk (fun h => by rw [hret] at h; cases h) (fun _ hr => retOut X hx hret hn (Or.inr (Or.inr (Or.inr (Or.inr ⟨rfl, ht, hw⟩)))) hd hr) hQ hC hS
theorem own_retV (X : Stand p l e R s m args below meth c T locs cells slots) (hx : p.tables.exec = Jvm.exec) (hlk : meth.locks = false) {pc : Nat} {Ls : Array Slot} (hret : meth.sig.returnType = none) (hd : decode c.code pc = .ok (.return_, 1))
    (hQ : Qf none T.heap locs) (hC : cells ≤ C) (hS : slots ≤ S) : own_Go p e below s Qf C S T (mkF m pc Ls []) :=
  own_ret X hlk (fun _ => rfl) (fun _ hr => X.returnOut hx hret hd hr) hQ hC hS
def own_cc : ClassFile.Cond → Int32 → Int32 → Prop
  | .eq, x, y => x = y
  | .ne, x, y => ¬ x = y
  | .lt, x, y => x < y
  | .ge, x, y => ¬ x < y
  | .gt, x, y => y < x
  | .le, x, y => ¬ y < x
def own_nn : ClassFile.Cond → Int32 → Int32 → Prop
  | .eq, x, y => ¬ x = y
  | .ne, x, y => x = y
  | .lt, x, y => ¬ x < y
  | .ge, x, y => x < y
  | .gt, x, y => ¬ y < x
  | .le, x, y => y < x
theorem own_split (cd : ClassFile.Cond) (x y : Int32) : (own_cc cd x y ∧ if_icmp.holds cd x y = true) ∨ (own_nn cd x y ∧ if_icmp.holds cd x y = false) := by
  cases cd
  · by_cases h : x = y
    · exact Or.inl ⟨h, (teq h).1⟩
    · exact Or.inr ⟨h, (feq h).1⟩
  · by_cases h : x = y
    · exact Or.inr ⟨h, (teq h).2⟩
    · exact Or.inl ⟨h, (feq h).2⟩
  · by_cases h : x < y
    · exact Or.inl ⟨h, (tlt h).1⟩
    · exact Or.inr ⟨h, (flt h).1⟩
  · by_cases h : x < y
    · exact Or.inr ⟨h, (tlt h).2.1⟩
    · exact Or.inl ⟨h, (flt h).2.1⟩
  · by_cases h : y < x
    · exact Or.inl ⟨h, (tlt h).2.2.1⟩
    · exact Or.inr ⟨h, (flt h).2.2.1⟩
  · by_cases h : y < x
    · exact Or.inr ⟨h, (tlt h).2.2.2⟩
    · exact Or.inl ⟨h, (flt h).2.2.2⟩
theorem own_icmp (X : Stand p l e R s m args below meth c T locs cells slots) (hx : p.tables.exec = Jvm.exec) {pc pc' pc2 : Nat} {Ls : Array Slot} {st : List Value} {x y : Int32} {cd : ClassFile.Cond} {o : Int} (hd : decode c.code pc = .ok (.if_icmp cd o, 3)) (ho : 0 ≤ (pc : Int) + o) (hp : ((pc : Int) + o).toNat = pc') (h2 : pc + 3 = pc2)
    (hY : own_cc cd x y → own_Go p e below s Qf C S T (mkF m pc' Ls st)) (hN : own_nn cd x y → own_Go p e below s Qf C S T (mkF m pc2 Ls st)) : own_Go p e below s Qf C S T (mkF m pc Ls (.int y :: .int x :: st)) := by
  subst h2
  rcases own_split cd x y with ⟨h, q⟩ | ⟨h, q⟩
  · exact own_st (fun _ k => XS.icmpYes X.here hx rfl (pc0 := pc) (pc' := pc') rfl hd rfl q ho hp k) (hY h)
  · exact own_st (fun _ k => XS.icmpNo X.here hx rfl hd rfl q k) (hN h)
theorem own_ifc (X : Stand p l e R s m args below meth c T locs cells slots) (hx : p.tables.exec = Jvm.exec) {pc pc' pc2 : Nat} {Ls : Array Slot} {st : List Value} {x : Int32} {cd : ClassFile.Cond} {o : Int} (hd : decode c.code pc = .ok (.ifCond cd o, 3)) (ho : 0 ≤ (pc : Int) + o) (hp : ((pc : Int) + o).toNat = pc') (h2 : pc + 3 = pc2)
    (hY : own_cc cd x 0 → own_Go p e below s Qf C S T (mkF m pc' Ls st)) (hN : own_nn cd x 0 → own_Go p e below s Qf C S T (mkF m pc2 Ls st)) : own_Go p e below s Qf C S T (mkF m pc Ls (.int x :: st)) := by
  subst h2
  rcases own_split cd x 0 with ⟨h, q⟩ | ⟨h, q⟩
  · exact own_st (fun _ k => XS.ifYes X.here hx rfl (pc0 := pc) (pc' := pc') rfl hd rfl ((if0 _ _).trans q) ho hp k) (hY h)
  · exact own_st (fun _ k => XS.ifNo X.here hx rfl hd rfl ((if0 _ _).trans q) k) (hN h)
def own_ccL : ClassFile.Cond → Int64 → Int64 → Prop
  | .eq, x, y => x = y
  | .ne, x, y => ¬ x = y
  | .lt, x, y => x < y
  | .ge, x, y => ¬ x < y
  | .gt, x, y => y < x
  | .le, x, y => ¬ y < x
def own_nnL : ClassFile.Cond → Int64 → Int64 → Prop
  | .eq, x, y => ¬ x = y
  | .ne, x, y => x = y
  | .lt, x, y => ¬ x < y
  | .ge, x, y => x < y
  | .gt, x, y => ¬ y < x
  | .le, x, y => y < x
theorem own_lc (cd : ClassFile.Cond) (x y : Int64) : (own_cc cd (lcmpW x y) 0 → own_ccL cd x y) ∧ (own_nn cd (lcmpW x y) 0 → own_nnL cd x y) := by
  have h1 : x > y → lcmpW x y = 1 := fun h => by simp [lcmpW, h]
  have h2 : x = y → lcmpW x y = 0 := fun h => by subst h; simp [lcmpW, Int64.lt_irrefl]
  have h3 : ¬ x > y → ¬ x = y → lcmpW x y = -1 := fun h h' => by simp [lcmpW, h, h']
  have lt : x < y ↔ lcmpW x y < 0 := by
    by_cases a : x > y
    · rw [h1 a]; exact ⟨fun b => absurd (Int64.lt_trans a b) (Int64.lt_irrefl), fun b => absurd b (by decide)⟩
    · by_cases b : x = y
      · rw [h2 b, b]; exact ⟨fun q => absurd q (Int64.lt_irrefl), fun q => absurd q (by decide)⟩
      · rw [h3 a b]; exact ⟨fun _ => by decide, fun _ => by
          rw [Int64.lt_iff_toInt_lt]; simp only [gt_iff_lt, Int64.lt_iff_toInt_lt] at a
          have : x.toInt ≠ y.toInt := fun q => b (Int64.toInt_inj.mp q)
          omega⟩
  have gt : y < x ↔ 0 < lcmpW x y := by
    by_cases a : x > y
    · rw [h1 a]; exact ⟨fun _ => by decide, fun _ => a⟩
    · by_cases b : x = y
      · rw [h2 b]; exact ⟨fun q => absurd q a, fun q => absurd q (by decide)⟩
      · rw [h3 a b]; exact ⟨fun q => absurd q a, fun q => absurd q (by decide)⟩
  have eq : x = y ↔ lcmpW x y = 0 := by
    by_cases a : x > y
    · rw [h1 a]; exact ⟨fun b => absurd a (by rw [b]; exact Int64.lt_irrefl), fun b => absurd b (by decide)⟩
    · by_cases b : x = y
      · exact ⟨fun _ => h2 b, fun _ => b⟩
      · rw [h3 a b]; exact ⟨fun q => absurd q b, fun q => absurd q (by decide)⟩
  cases cd
  · exact ⟨fun h => eq.mpr h, fun h q => h (eq.mp q)⟩
  · exact ⟨fun h q => h (eq.mp q), fun h => eq.mpr h⟩
  · exact ⟨fun h => lt.mpr h, fun h q => h (lt.mp q)⟩
  · exact ⟨fun h q => h (lt.mp q), fun h => lt.mpr h⟩
  · exact ⟨fun h => gt.mpr h, fun h q => h (gt.mp q)⟩
  · exact ⟨fun h q => h (gt.mp q), fun h => gt.mpr h⟩
theorem own_iflc (X : Stand p l e R s m args below meth c T locs cells slots) (hx : p.tables.exec = Jvm.exec) {pc pc' pc2 : Nat} {Ls : Array Slot} {st : List Value} {x y : Int64} {cd : ClassFile.Cond} {o : Int} (hd : decode c.code pc = .ok (.ifCond cd o, 3)) (ho : 0 ≤ (pc : Int) + o) (hp : ((pc : Int) + o).toNat = pc') (h2 : pc + 3 = pc2)
    (hY : own_ccL cd x y → own_Go p e below s Qf C S T (mkF m pc' Ls st)) (hN : own_nnL cd x y → own_Go p e below s Qf C S T (mkF m pc2 Ls st)) : own_Go p e below s Qf C S T (mkF m pc Ls (.int (lcmpW x y) :: st)) :=
  own_ifc X hx hd ho hp h2 (fun h => hY ((own_lc cd x y).1 h)) (fun h => hN ((own_lc cd x y).2 h))
theorem own_acmp (X : Stand p l e R s m args below meth c T locs cells slots) (hx : p.tables.exec = Jvm.exec) {pc pc' pc2 : Nat} {Ls : Array Slot} {st : List Value} {x y : Addr} {o : Int} {cd : ACond} (hd : decode c.code pc = .ok (.if_acmp cd o, 3)) (ho : 0 ≤ (pc : Int) + o) (hp : ((pc : Int) + o).toNat = pc') (h2 : pc + 3 = pc2)
    (hE : x = y → own_Go p e below s Qf C S T (mkF m (if acV cd true = true then pc' else pc2) Ls st)) (hN : ¬ x = y → own_Go p e below s Qf C S T (mkF m (if acV cd false = true then pc' else pc2) Ls st)) : own_Go p e below s Qf C S T (mkF m pc Ls (.ref y :: .ref x :: st)) := by
  subst h2 hp
  by_cases h : x = y
  · exact own_st (fun _ k => Jvm.RoadKit.acmp (g := mkF m pc Ls (.ref y :: .ref x :: st)) X hx rfl rfl rfl (pc0 := pc) (same := true) rfl hd rfl (decide_eq_true (congrArg Value.ref h)) ho rfl k) (hE h)
  · exact own_st (fun _ k => Jvm.RoadKit.acmp (g := mkF m pc Ls (.ref y :: .ref x :: st)) X hx rfl rfl rfl (pc0 := pc) (same := false) rfl hd rfl (decide_eq_false fun q => h (Value.ref.inj q)) ho rfl k) (hN h)
theorem own_ord {Z : State} {a0 : Array Value} {t : Term} {a : Addr} {C n d : String} {k : Int32} (ev : t.eval a0 Z none [] Z = some (.ref a)) (h : (Cond.eq (Term.field t C n d) (Term.int k)).value a0 Z none Z [] = some true) : Fld Z Z.heap a C n d (.int k) := by
  have e1 : (Term.field t C n d).eval a0 Z none [] Z = Z.fieldOf? a C n d := fld_at ev
  simp only [Cond.value, e1] at h
  cases hq : Z.fieldOf? a C n d with
  | none => simp [hq] at h
  | some v =>
    rw [hq] at h
    cases v <;> simp [Term.eval] at h
    subst h
    exact Fld.start hq
theorem own_narb {z : Int32} (h : z = 0 ∨ z = 1) : nar .boolean z = z := by rcases h with rfl | rfl <;> rfl
theorem own_stk {Z : State} {h h' : Heap} {C n d : String} {v : Value} {ws : List Addr} (F : Sta Z h C n d v) (K : Keep h h' ws) (q : ∀ x ∈ ws, ∀ c : Cell, h[x]? = some c → c.vm.isStatics = false) : Sta Z h' C n d v := by
  obtain ⟨cf, i, k, f, st, cell, h1, h2, h3, h4, h5, h6, h7⟩ := F
  exact ⟨cf, i, k, f, st, cell, h1, h2, h3, h4, K.2.1 st cell h5 (fun z => by rw [q st z cell h5] at h6; cases h6), h6, h7⟩
theorem own_npE {Z : State} {h : Heap} {a : Addr} {C : String} (E : Exa Z h a C) : ∀ c : Cell, h[a]? = some c → c.vm.isStatics = false := fun c hc => by
  obtain ⟨cell, k, h1, h2, h3, h4, h5⟩ := E
  cases h1.symm.trans hc
  exact h4
theorem own_npA {Z : State} {h : Heap} {a : Addr} {k : ClassId} {ty : FieldType} {z : Int32} {vs : List Value} {dv : Value} (V : Arv Z h a k ty z vs dv) : ∀ c : Cell, h[a]? = some c → c.vm.isStatics = false := fun c hc => by
  obtain ⟨cl, A, r⟩ := V
  cases A.1.symm.trans hc
  exact A.plain
theorem own_len {Z : State} {a0 : Array Value} {t : Term} {a : Addr} {cl : Cell} {ty : FieldType} {k : Int32} (ev : t.eval a0 Z none [] Z = some (.ref a)) (A : Arr Z Z.heap a cl ty) (h : (Cond.eq (Term.length t) (Term.int k)).value a0 Z none Z [] = some true) : cl.slots.size < 2 ^ 31 ∧ cl.slots.size.toInt32 = k := by
  have ha : Z.arrayAt? a = some cl := IntBox.arrayAt_of A.1 A.2.1 A.2.2
  simp only [Cond.value, Term.eval, ev, Option.bind_eq_bind, Option.bind_some, ha] at h
  by_cases q : cl.slots.size < 2 ^ 31
  · simp [q] at h; exact ⟨q, h⟩
  · simp [q] at h
theorem own_elem {Z : State} {a0 : Array Value} {t : Term} {a : Addr} {cl : Cell} {ty : FieldType} {j v : Int32} (ev : t.eval a0 Z none [] Z = some (.ref a)) (A : Arr Z Z.heap a cl ty) (hj : ¬ j < 0) (h : (Cond.eq (Term.elem t (Term.int j)) (Term.int v)).value a0 Z none Z [] = some true) : cl.slots[j.toNatClampNeg]? = some (.int v) := by
  have ha : Z.arrayAt? a = some cl := IntBox.arrayAt_of A.1 A.2.1 A.2.2
  have e1 : (Term.elem t (Term.int j)).eval a0 Z none [] Z = cl.slots[j.toNatClampNeg]? := elem_f ev rfl ha hj
  simp only [Cond.value, e1] at h
  cases hq : cl.slots[j.toNatClampNeg]? with
  | none => simp [hq] at h
  | some w =>
    rw [hq] at h
    cases w <;> simp [Term.eval] at h
    rw [h]
theorem own_arvex {Z : State} {a : Addr} {cl : Cell} {ty : FieldType} {z : Int32} {dv : Value} (hf : Fit Z) (A : Arr Z Z.heap a cl ty) (q : cl.slots.size < 2 ^ 31) (e : cl.slots.size.toInt32 = z) (hz : ¬ z < 0) : ∃ vs, Arv Z Z.heap a cl.cls ty z vs dv := by
  have S : cl.slots.size = z.toNatClampNeg := by rw [← e]; simp only [Int32.toNatClampNeg, len_toInt q]; rfl
  have H : Has cl cl.slots.toList dv := fun k hk => by
    rw [List.getD_eq_getElem?_getD, Array.getElem?_toList, Array.getElem?_eq_getElem hk]; rfl
  refine ⟨cl.slots.toList, cl, A, rfl, S, hz, H, fun j hj => ?_⟩
  have e1 : (Nat.toInt32 j).toNatClampNeg = j := by simp only [Int32.toNatClampNeg, len_toInt (Nat.lt_trans hj q)]; rfl
  exact elem_fits (j := Nat.toInt32 j) hf A (idx_in hj q) (by rw [e1]; exact H j hj)
theorem own_selp {s : State} {args : Array Value} {y : MethodName} {n : Nat} (wi : (Cond.instantiable y.cls n).before args s = true) (hp : s.PrivateAt y) (hi : (Cond.instanceMethod y).before args s = true) (hy : y.cls ≠ "java/lang/invoke/MethodHandle" ∧ y.cls ≠ "java/lang/invoke/VarHandle") : (Cond.selects y.cls y y).before args s = true := by
  obtain ⟨c, k, hc, hk, -, hf, -⟩ := Cond.instantiable_spec wi
  exact selects_self_of_private hc hk (by simp only [Bool.or_eq_false_iff] at hf; exact hf.1) hp hi hy
theorem own_nar0 : nar .boolean (0 : Int32) = 0 := rfl
theorem own_nar1 : nar .boolean (1 : Int32) = 1 := rfl
end Own

section OwnFp
open Jvm.FP.Core (Datum roundRatio inUnits zmag zval b64 val64 sgn signed distance)
theorem own_qmin : b64.qmin = -1074 := by decide +kernel
theorem own_qmax : b64.qmax = 971 := by decide +kernel
theorem own_good : Jvm.FP.Core.Good b64 := Jvm.FP.Core.good_b64
/-- rounding is monotone -/
theorem own_mono {s : Bool} {A B A' B' c c' : Nat} {e e' q q' e0 : Int} (hB : 0 < B) (hB' : 0 < B') (h0 : e0 ≤ b64.qmin) (h1 : e0 ≤ e) (h2 : e0 ≤ e') (h : inUnits A e e0 * B' ≤ inUnits A' e' e0 * B)
    (hR : roundRatio b64 s A B e = .fin s c q) (hR' : roundRatio b64 s A' B' e' = .fin s c' q') : zmag b64 (.fin s c q) ≤ zmag b64 (.fin s c' q') := by
  have f1 := Jvm.FP.Core.roundRatio_fits own_good s A hB e
  have f2 := Jvm.FP.Core.roundRatio_fits own_good s A' hB' e'
  rw [hR] at f1
  rw [hR'] at f2
  refine Nat.le_of_not_lt fun hlt => ?_
  have d1 := Jvm.FP.Core.roundRatio_nearest own_good hB hR f2.1 f2.2.1 h0 h1
  have d2 := Jvm.FP.Core.roundRatio_nearest own_good hB' hR' f1.1 f1.2.1 h0 h2
  unfold Jvm.FP.Core.distance at d1 d2
  rw [Jvm.FP.Core.units_fin f1 h0, Jvm.FP.Core.units_fin f2 h0] at d1
  rw [Jvm.FP.Core.units_fin f2 h0, Jvm.FP.Core.units_fin f1 h0] at d2
  have hX : zmag b64 (.fin s c' q') * 2 ^ (b64.qmin - e0).toNat < zmag b64 (.fin s c q) * 2 ^ (b64.qmin - e0).toNat := Nat.mul_lt_mul_of_pos_right hlt (Nat.two_pow_pos _)
  generalize zmag b64 (.fin s c q) * 2 ^ (b64.qmin - e0).toNat = X at *
  generalize zmag b64 (.fin s c' q') * 2 ^ (b64.qmin - e0).toNat = X' at *
  have key : inUnits A' e' e0 * B ≤ inUnits A e e0 * B' := by
    have m1 : X' * B < X * B := Nat.mul_lt_mul_of_pos_right hX hB
    have m2 : X' * B' < X * B' := Nat.mul_lt_mul_of_pos_right hX hB'
    rw [← Int.natCast_mul, ← Int.natCast_mul] at d1 d2
    generalize inUnits A e e0 = a at *
    generalize inUnits A' e' e0 = a' at *
    have k1 : X * B + X' * B ≤ 2 * a := by omega
    have k2 : 2 * a' ≤ X * B' + X' * B' := by omega
    have k3 := Nat.mul_le_mul_right B' k1
    have k4 := Nat.mul_le_mul_right B k2
    have e1 : (X * B + X' * B) * B' = (X * B' + X' * B') * B := by
      simp only [Nat.add_mul]; congr 1 <;> ac_rfl
    have e2 : 2 * a * B' = 2 * (a * B') := Nat.mul_assoc ..
    have e3 : 2 * a' * B = 2 * (a' * B) := Nat.mul_assoc ..
    omega
  have heq := Nat.le_antisymm h key
  have hcg := Jvm.FP.Core.roundRatio_congr (f := b64) (s := s) (A := A) (B := B) (A' := A') (B' := B') (e := e) (e' := e') hB hB' (by
    unfold Jvm.FP.Core.inUnits at heq
    rw [show (e - e0).toNat = (e - e').toNat + (min e e' - e0).toNat by omega, show (e' - e0).toNat = (e' - e).toNat + (min e e' - e0).toNat by omega, Nat.pow_add, Nat.pow_add] at heq
    refine Nat.eq_of_mul_eq_mul_right (Nat.two_pow_pos (min e e' - e0).toNat) ?_
    calc A * B' * 2 ^ (e - e').toNat * 2 ^ (min e e' - e0).toNat = A * (2 ^ (e - e').toNat * 2 ^ (min e e' - e0).toNat) * B' := by ac_rfl
      _ = A' * (2 ^ (e' - e).toNat * 2 ^ (min e e' - e0).toNat) * B := heq
      _ = A' * B * 2 ^ (e' - e).toNat * 2 ^ (min e e' - e0).toNat := by ac_rfl)
  rw [hR, hR'] at hcg
  rw [hcg] at hlt
  exact Nat.lt_irrefl _ hlt
/-- a whole number's double -/
def own_D (n : Nat) : Datum := roundRatio b64 false n 1 0
theorem own_Dfit (n : Nat) : Jvm.FP.Core.fits b64 (own_D n) := Jvm.FP.Core.roundRatio_fits own_good false n (by decide) 0
theorem own_Dle {n : Nat} {V : Datum} (hV : Jvm.FP.Core.fits b64 V) (hn : V ≠ .nan) (h : n * 2 ^ 1074 ≤ zmag b64 V) : zmag b64 (own_D n) ≤ zmag b64 V :=
  Jvm.FP.Core.zmag_roundRatio_le own_good (e0 := b64.qmin) (by decide) hV hn (Int.le_refl _) (by rw [own_qmin]; decide) (by
    unfold Jvm.FP.Core.inUnits
    rw [own_qmin, show (0 - (-1074 : Int)).toNat = 1074 from rfl, show ((-1074 : Int) - -1074).toNat = 0 from rfl, Nat.pow_zero, Nat.mul_one, Nat.mul_one]
    exact h)
theorem own_Dge {n : Nat} {V : Datum} (hV : Jvm.FP.Core.fits b64 V) (h : zmag b64 V ≤ n * 2 ^ 1074) : zmag b64 V ≤ zmag b64 (own_D n) :=
  Jvm.FP.Core.zmag_roundRatio_ge own_good (e0 := b64.qmin) (by decide) hV (Int.le_refl _) (by rw [own_qmin]; decide) (by
    unfold Jvm.FP.Core.inUnits
    rw [own_qmin, show (0 - (-1074 : Int)).toNat = 1074 from rfl, show ((-1074 : Int) - -1074).toNat = 0 from rfl, Nat.pow_zero, Nat.mul_one, Nat.mul_one]
    exact h)
theorem own_fit (c : Nat) (q : Int) (h1 : 2 ^ 52 ≤ c) (h2 : c < 2 ^ 53) (h3 : -1074 ≤ q) (h4 : q ≤ 971) : Jvm.FP.Core.fits b64 (.fin false c q) := ⟨h2, by rw [own_qmin]; exact h3, by rw [own_qmax]; exact h4, Or.inr h1⟩
theorem own_zm (c : Nat) (q : Int) : zmag b64 (.fin false c q) = c * 2 ^ (q + 1074).toNat := by
  show c * 2 ^ (q - b64.qmin).toNat = _
  rw [own_qmin]; rfl
theorem own_Dfin {n : Nat} (hn : n ≤ 2 ^ 62) : ∃ c q, own_D n = .fin false c q ∧ -1074 ≤ q ∧ q ≤ 971 ∧ c * 2 ^ (q + 1074).toNat ≤ 2 ^ 1136 := by
  have hV : Jvm.FP.Core.fits b64 (.fin false (2 ^ 52) 10) := own_fit _ _ (by decide) (by decide) (by decide) (by decide)
  have hz : zmag b64 (.fin false (2 ^ 52) 10) = 2 ^ 1136 := by rw [own_zm]; decide +kernel
  have hle := own_Dle hV (by intro h; cases h) (n := n) (by
    rw [hz, show (2 : Nat) ^ 1136 = 2 ^ 62 * 2 ^ 1074 from by decide +kernel]
    exact Nat.mul_le_mul_right _ hn)
  rw [hz] at hle
  have hf := own_Dfit n
  rcases Jvm.FP.Core.roundRatio_cases b64 false n 1 0 with ⟨c, q, h⟩ | h
  · have h : own_D n = .fin false c q := h
    rw [h] at hf hle
    rw [own_zm] at hle
    exact ⟨c, q, h, by have := hf.2.1; rw [own_qmin] at this; exact this, by have := hf.2.2.1; rw [own_qmax] at this; exact this, hle⟩
  · have h : own_D n = .inf false := h
    rw [h] at hle
    exact absurd hle (by decide +kernel)
theorem own_Dpos {n c : Nat} {q : Int} (h1 : 1 ≤ n) (h : own_D n = .fin false c q) : 2 ^ 1074 ≤ c * 2 ^ (q + 1074).toNat := by
  have hV : Jvm.FP.Core.fits b64 (.fin false (2 ^ 52) (-52)) := own_fit _ _ (by decide) (by decide) (by decide) (by decide)
  have hz : zmag b64 (.fin false (2 ^ 52) (-52)) = 2 ^ 1074 := by rw [own_zm]; decide +kernel
  have hge := own_Dge hV (n := n) (by rw [hz]; exact Nat.le_mul_of_pos_left _ h1)
  rw [hz, h, own_zm] at hge
  exact hge
theorem own_Dmono {n m c c' : Nat} {q q' : Int} (hnm : n ≤ m) (h : own_D n = .fin false c q) (h' : own_D m = .fin false c' q') : c * 2 ^ (q + 1074).toNat ≤ c' * 2 ^ (q' + 1074).toNat := by
  have := own_mono (e0 := b64.qmin) (by decide) (by decide) (Int.le_refl _) (by rw [own_qmin]; decide) (by rw [own_qmin]; decide) (by
    unfold Jvm.FP.Core.inUnits
    exact Nat.mul_le_mul_right _ (Nat.mul_le_mul_right _ hnm)) h h'
  rwa [own_zm, own_zm] at this
theorem own_lead {n : Nat} (h : n ≠ 0) : Jvm.FP.Core.leading n 1 = (n.log2 : Int) := by
  unfold Jvm.FP.Core.leading
  have e : (n.log2 : Int) - ((1 : Nat).log2 : Int) = (n.log2 : Int) := by
    rw [show (1 : Nat).log2 = 0 from by decide +kernel]; simp
  simp only [e]
  rw [if_pos]
  rw [show (-(n.log2 : Int)).toNat = 0 by omega, Int.toNat_natCast, Nat.pow_zero, Nat.mul_one, Nat.one_mul]
  exact Nat.log2_self_le h
/-- twice a number: the exponent one up -/
theorem own_Ddbl {n c : Nat} {q : Int} (h0 : n ≠ 0) (hn : n ≤ 2 ^ 61) (h : own_D n = .fin false c q) : own_D (2 * n) = .fin false c (q + 1) := by
  have e1 : own_D (2 * n) = roundRatio b64 false n 1 1 := Jvm.FP.Core.roundRatio_congr (by decide) (by decide) (by
    show 2 * n * 1 * 2 ^ 0 = n * 1 * 2 ^ 1
    omega)
  have hl : n.log2 < 62 := (Nat.log2_lt h0).mpr (by omega)
  rw [e1]
  unfold own_D at h
  unfold Jvm.FP.Core.roundRatio at h ⊢
  rw [if_neg h0] at h ⊢
  unfold Jvm.FP.Core.roundAt Jvm.FP.Core.quantum at h ⊢
  rw [own_lead h0, own_qmin] at h ⊢
  rw [show max (-1074) ((n.log2 : Int) + 0 - ((b64.p : Int) - 1)) = (n.log2 : Int) - 52 by show max (-1074) ((n.log2 : Int) + 0 - ((53 : Int) - 1)) = _; omega] at h
  rw [show max (-1074) ((n.log2 : Int) + 1 - ((b64.p : Int) - 1)) = (n.log2 : Int) - 51 by show max (-1074) ((n.log2 : Int) + 1 - ((53 : Int) - 1)) = _; omega]
  unfold Jvm.FP.Core.unitsNum Jvm.FP.Core.unitsDen at h ⊢
  rw [show (1 - ((n.log2 : Int) - 51)).toNat = (0 - ((n.log2 : Int) - 52)).toNat by omega, show ((n.log2 : Int) - 51 - 1).toNat = ((n.log2 : Int) - 52 - 0).toNat by omega]
  generalize Jvm.FP.Core.nearest _ _ = k at h ⊢
  unfold Jvm.FP.Core.settle Jvm.FP.Core.bound at h ⊢
  rw [own_qmax] at h ⊢
  by_cases hk : k < 2 ^ b64.p
  · rw [if_pos hk, if_pos (by omega)] at h
    rw [if_pos hk, if_pos (by omega)]
    injection h with a1 a2 a3
    rw [a2]; congr 1; omega
  · rw [if_neg hk, if_pos (by omega)] at h
    rw [if_neg hk, if_pos (by omega)]
    injection h with a1 a2 a3
    rw [a2]; congr 1; omega
/-- the quotient of two whole numbers' doubles -/
def own_Q (b r : Nat) : Datum := Jvm.FP.Core.quotient b64 (own_D b) (own_D r)
theorem own_Qe {cb cr : Nat} {qb qr : Int} {b r : Nat} (hb : own_D b = .fin false cb qb) (hr : own_D r = .fin false cr qr) (h : cr ≠ 0) : own_Q b r = roundRatio b64 false cb cr (qb - qr) := by
  unfold own_Q
  rw [hb, hr]
  simp only [Jvm.FP.Core.quotient, if_neg h]
  rfl
theorem own_Dne {n c : Nat} {q : Int} (h1 : 1 ≤ n) (h : own_D n = .fin false c q) : c ≠ 0 := fun e => by
  have := own_Dpos h1 h
  rw [e, Nat.zero_mul] at this
  exact absurd this (Nat.not_le.mpr (Nat.two_pow_pos _))
/-- c * 2^q in the units of 2^(-3074), divided by 2^qr -/
theorem own_iu {c : Nat} {q qr : Int} (h1 : -1074 ≤ q) (h2 : qr ≤ 971) : inUnits c (q - qr) (-3074) = c * 2 ^ (q + 1074).toNat * 2 ^ (2000 - qr).toNat := by
  unfold Jvm.FP.Core.inUnits
  rw [Nat.mul_assoc, ← Nat.pow_add, show (q - qr - -3074).toNat = (q + 1074).toNat + (2000 - qr).toNat by omega]
theorem own_ur {c : Nat} {qr : Int} (h1 : -1074 ≤ qr) (h2 : qr ≤ 971) : c * 2 ^ (qr + 1074).toNat * 2 ^ (2000 - qr).toNat = c * 2 ^ 3074 := by
  rw [Nat.mul_assoc, ← Nat.pow_add, show (qr + 1074).toNat + (2000 - qr).toNat = 3074 by omega]
theorem own_one : Jvm.FP.Core.fits b64 (.fin false (2 ^ 52) (-52)) ∧ zmag b64 (.fin false (2 ^ 52) (-52)) = 2 ^ 1074 := ⟨own_fit _ _ (by decide) (by decide) (by decide) (by decide), by rw [own_zm]; decide +kernel⟩
theorem own_e0 : (-3074 : Int) ≤ b64.qmin := by rw [own_qmin]; decide
theorem own_e1 : (b64.qmin - (-3074)).toNat = 2000 := by rw [own_qmin]; rfl
/-- at most one, and finite -/
theorem own_Qle {b r : Nat} (hbr : b ≤ r) (h1 : 1 ≤ r) (h2 : r ≤ 2 ^ 62) : zmag b64 (own_Q b r) ≤ 2 ^ 1074 ∧ ∃ c q, own_Q b r = .fin false c q := by
  obtain ⟨cb, qb, eb, b1, b2, b3⟩ := own_Dfin (Nat.le_trans hbr h2)
  obtain ⟨cr, qr, er, r1, r2, r3⟩ := own_Dfin h2
  have hc := own_Dne h1 er
  have hm := own_Dmono hbr eb er
  have hle := Jvm.FP.Core.zmag_roundRatio_le own_good (s := false) (A := cb) (B := cr) (e := qb - qr) (e0 := -3074) (V := .fin false (2 ^ 52) (-52)) (by omega) own_one.1 (by intro h; cases h) own_e0 (by omega) (by
    rw [own_one.2, own_e1, own_iu b1 r2, ← Nat.pow_add, Nat.mul_comm _ cr]
    show _ ≤ cr * 2 ^ 3074
    rw [← own_ur r1 r2]
    exact Nat.mul_le_mul_right _ hm)
  rw [own_one.2] at hle
  rw [own_Qe eb er hc]
  refine ⟨hle, ?_⟩
  rcases Jvm.FP.Core.roundRatio_cases b64 false cb cr (qb - qr) with ⟨c, q, h⟩ | h
  · exact ⟨c, q, h⟩
  · rw [h] at hle
    exact absurd hle (by decide +kernel)
theorem own_Qpos {b r : Nat} (hb1 : 1 ≤ b) (hbr : b ≤ r) (h2 : r ≤ 2 ^ 62) : 1 ≤ zmag b64 (own_Q b r) := by
  obtain ⟨cb, qb, eb, b1, b2, b3⟩ := own_Dfin (Nat.le_trans hbr h2)
  obtain ⟨cr, qr, er, r1, r2, r3⟩ := own_Dfin h2
  have hc := own_Dne (Nat.le_trans hb1 hbr) er
  have hp := own_Dpos hb1 eb
  have hV : Jvm.FP.Core.fits b64 (.fin false 1 (-1074)) := ⟨by decide, by rw [own_qmin]; decide, by rw [own_qmax]; decide, Or.inl own_qmin.symm⟩
  have hz : zmag b64 (.fin false 1 (-1074)) = 1 := by rw [own_zm]; rfl
  have hge := Jvm.FP.Core.zmag_roundRatio_ge own_good (s := false) (A := cb) (B := cr) (e := qb - qr) (e0 := -3074) (V := .fin false 1 (-1074)) (by omega) hV own_e0 (by omega) (by
    rw [hz, own_e1, own_iu b1 r2, Nat.one_mul]
    have k1 : cr * 2 ^ 3074 ≤ 2 ^ 1136 * 2 ^ (2000 - qr).toNat := by
      rw [← own_ur r1 r2]; exact Nat.mul_le_mul_right _ r3
    have k2 : 2 ^ 1074 * 2 ^ (2000 - qr).toNat ≤ cb * 2 ^ (qb + 1074).toNat * 2 ^ (2000 - qr).toNat := Nat.mul_le_mul_right _ hp
    refine Nat.le_trans ?_ k2
    have e1 : cr * 2 ^ 3074 = 2 ^ 62 * (cr * 2 ^ 3012) := by
      rw [show (2 : Nat) ^ 3074 = 2 ^ 62 * 2 ^ 3012 from by decide +kernel]; exact Nat.mul_left_comm _ _ _
    have e2 : 2 ^ 1136 * 2 ^ (2000 - qr).toNat = 2 ^ 62 * (2 ^ 1074 * 2 ^ (2000 - qr).toNat) := by
      rw [show (2 : Nat) ^ 1136 = 2 ^ 62 * 2 ^ 1074 from by decide +kernel, Nat.mul_assoc]
    rw [e1, e2] at k1
    have k3 := Nat.le_of_mul_le_mul_left k1 (Nat.two_pow_pos 62)
    refine Nat.le_trans ?_ k3
    rw [Nat.mul_comm]
    exact Nat.mul_le_mul_left _ (Nat.pow_le_pow_right (by decide) (by decide)))
  rw [hz] at hge
  rw [own_Qe eb er hc]
  exact hge
theorem own_D0 : own_D 0 = .fin false 0 b64.qmin := rfl
theorem own_Qzero {r : Nat} (h1 : 1 ≤ r) (h2 : r ≤ 2 ^ 62) : own_Q 0 r = .fin false 0 b64.qmin := by
  obtain ⟨cr, qr, er, r1, r2, r3⟩ := own_Dfin h2
  rw [own_Qe own_D0 er (own_Dne h1 er)]
  rfl
theorem own_Qsame {r : Nat} (h1 : 1 ≤ r) (h2 : r ≤ 2 ^ 62) : own_Q r r = .fin false (2 ^ 52) (-52) := by
  obtain ⟨cr, qr, er, r1, r2, r3⟩ := own_Dfin h2
  have hc := own_Dne h1 er
  rw [own_Qe er er hc]
  exact Jvm.FP.Core.roundRatio_exact own_good (by omega) own_one.1 (by
    rw [show (qr - qr - -52).toNat = 52 by omega, show (-52 - (qr - qr)).toNat = 0 by omega]
    omega)
theorem own_Qhalf {r : Nat} (h1 : 1 ≤ r) (h2 : r ≤ 2 ^ 61) : own_Q r (2 * r) = .fin false (2 ^ 52) (-53) := by
  obtain ⟨cr, qr, er, r1, r2, r3⟩ := own_Dfin (n := r) (by omega)
  have hc := own_Dne h1 er
  rw [own_Qe er (own_Ddbl (by omega) h2 er) hc]
  exact Jvm.FP.Core.roundRatio_exact own_good (by omega) (own_fit _ _ (by decide) (by decide) (by decide) (by decide)) (by
    rw [show (qr - (qr + 1) - -53).toNat = 52 by omega, show (-53 - (qr - (qr + 1))).toNat = 0 by omega]
    omega)
theorem own_Qdbl {b r : Nat} (hbr : b ≤ r) (h1 : 1 ≤ r) (h2 : r ≤ 2 ^ 61) : own_Q (2 * b) (2 * r) = own_Q b r := by
  by_cases hb : b = 0
  · subst hb
    rw [Nat.mul_zero, own_Qzero (r := 2 * r) (by omega) (by omega), own_Qzero h1 (by omega)]
  · obtain ⟨cr, qr, er, r1, r2, r3⟩ := own_Dfin (n := r) (by omega)
    obtain ⟨cb, qb, eb, b1, b2, b3⟩ := own_Dfin (n := b) (by omega)
    have hc := own_Dne h1 er
    rw [own_Qe (own_Ddbl hb (by omega) eb) (own_Ddbl (by omega) h2 er) hc, own_Qe eb er hc, show qb + 1 - (qr + 1) = qb - qr by omega]
theorem own_Qmono {b b' r : Nat} (hbb : b ≤ b') (hbr : b' ≤ r) (h1 : 1 ≤ r) (h2 : r ≤ 2 ^ 62) : zmag b64 (own_Q b r) ≤ zmag b64 (own_Q b' r) := by
  obtain ⟨c, q, e⟩ := (own_Qle (Nat.le_trans hbb hbr) h1 h2).2
  obtain ⟨c', q', e'⟩ := (own_Qle hbr h1 h2).2
  obtain ⟨cr, qr, er, r1, r2, r3⟩ := own_Dfin h2
  obtain ⟨cb, qb, eb, b1, b2, b3⟩ := own_Dfin (n := b) (by omega)
  obtain ⟨cd, qd, ed, d1, d2, d3⟩ := own_Dfin (n := b') (by omega)
  have hc := own_Dne h1 er
  rw [e, e']
  rw [own_Qe eb er hc] at e
  rw [own_Qe ed er hc] at e'
  refine own_mono (e0 := -3074) (by omega) (by omega) own_e0 (by omega) (by omega) ?_ e e'
  rw [own_iu b1 r2, own_iu d1 r2]
  exact Nat.mul_le_mul_right _ (Nat.mul_le_mul_right _ (own_Dmono hbb eb ed))
end OwnFp
section OwnFp2
open Jvm.FP.Core (Datum roundRatio inUnits zmag zval b64 val64 sgn signed)
theorem own_vl {a : Int64} {n : Nat} (h : a.toInt = n) : val64 (FP.l2d a) = own_D n := by
  have e := Jvm.FP.Core.val64_l2d a
  rw [h] at e
  exact e
theorem own_vq {b r : Int64} {n k : Nat} (hb : b.toInt = n) (hr : r.toInt = k) : val64 (FP.ddiv (FP.l2d b) (FP.l2d r)) = own_Q n k := by
  have e := Jvm.FP.Core.val64_ddiv (FP.l2d b) (FP.l2d r)
  rw [own_vl hb, own_vl hr] at e
  exact e
def own_H (r b : Int64) : Prop := 1 ≤ r.toInt ∧ r.toInt ≤ 2305843009213693952 ∧ 0 ≤ b.toInt ∧ b.toInt ≤ r.toInt
theorem own_Hn {r b : Int64} (h : own_H r b) : ∃ n k : Nat, b.toInt = n ∧ r.toInt = k ∧ n ≤ k ∧ 1 ≤ k ∧ k ≤ 2 ^ 61 := by
  obtain ⟨h1, h2, h3, h4⟩ := h
  exact ⟨b.toInt.toNat, r.toInt.toNat, by omega, by omega, by omega, by omega, by omega⟩
theorem own_dbl {a : Int64} (h1 : 0 ≤ a.toInt) (h2 : a.toInt ≤ 2305843009213693952) : ((2 : Int64) * a).toInt = 2 * a.toInt := by
  rw [Int64.toInt_mul, show (2 : Int64).toInt = 2 from rfl]
  apply Int.bmod_eq_of_le <;> omega
theorem own_fnn {b r : Int64} {n k : Nat} (hb : b.toInt = n) (hr : r.toInt = k) (h : n ≤ k) (h1 : 1 ≤ k) (h2 : k ≤ 2 ^ 62) : Jvm.Free.Fl.NoNaN64 (FP.ddiv (FP.l2d b) (FP.l2d r)) := by
  refine Jvm.Free.Fl.val64_no.mpr ?_
  rw [own_vq hb hr]
  obtain ⟨c, q, e⟩ := (own_Qle h h1 h2).2
  rw [e]; intro z; cases z
theorem own_zv {d : Datum} {c : Nat} {q : Int} (h : d = .fin false c q) : zval b64 d = (zmag b64 d : Int) := by
  subst h; rfl
theorem own_zq {n k : Nat} (h : n ≤ k) (h1 : 1 ≤ k) (h2 : k ≤ 2 ^ 62) : zval b64 (own_Q n k) = (zmag b64 (own_Q n k) : Int) := by
  obtain ⟨c, q, e⟩ := (own_Qle h h1 h2).2
  exact own_zv e
theorem own_le {x y : UInt64} (hx : Jvm.Free.Fl.NoNaN64 x) (hy : Jvm.Free.Fl.NoNaN64 y) (h : zval b64 (val64 x) ≤ zval b64 (val64 y)) : ¬ (0 : Int32) < cmpValue (FP.dcmp x y) .g := by
  rcases Jvm.FP.Core.dcmp_le.mpr ⟨Jvm.Free.Fl.val64_no.mp hx, Jvm.Free.Fl.val64_no.mp hy, h⟩ with e | e
  · rw [show FP.dcmp x y = some .lt from e]; decide
  · rw [show FP.dcmp x y = some .eq from e]; decide
theorem own_eq {x y : UInt64} (hx : Jvm.Free.Fl.NoNaN64 x) (hy : Jvm.Free.Fl.NoNaN64 y) (h : zval b64 (val64 x) = zval b64 (val64 y)) : cmpValue (FP.dcmp x y) .l = 0 := by
  rw [show FP.dcmp x y = some .eq from Jvm.FP.Core.dcmp_eq.mpr ⟨Jvm.Free.Fl.val64_no.mp hx, Jvm.Free.Fl.val64_no.mp hy, h⟩]; rfl
theorem own_gt {x y : UInt64} (hx : Jvm.Free.Fl.NoNaN64 x) (hy : Jvm.Free.Fl.NoNaN64 y) (h : zval b64 (val64 y) < zval b64 (val64 x)) : ¬ cmpValue (FP.dcmp x y) .l = 0 := by
  rw [show FP.dcmp x y = some .gt from Jvm.FP.Core.dcmp_gt.mpr ⟨Jvm.Free.Fl.val64_no.mp hx, Jvm.Free.Fl.val64_no.mp hy, h⟩]; decide
theorem own_n0 : Jvm.Free.Fl.NoNaN64 FP.dconst0 ∧ zval b64 (val64 FP.dconst0) = 0 := ⟨by unfold Jvm.Free.Fl.NoNaN64; decide +kernel, by decide +kernel⟩
theorem own_n1 : Jvm.Free.Fl.NoNaN64 FP.dconst1 ∧ val64 FP.dconst1 = .fin false (2 ^ 52) (-52) := ⟨by unfold Jvm.Free.Fl.NoNaN64; decide +kernel, by decide +kernel⟩
theorem own_nh : Jvm.Free.Fl.NoNaN64 4602678819172646912 ∧ val64 4602678819172646912 = .fin false (2 ^ 52) (-53) := ⟨by unfold Jvm.Free.Fl.NoNaN64; decide +kernel, by decide +kernel⟩
theorem own_L0 {r b : Int64} (h : own_H r b) : Jvm.Free.Fl.NoNaN64 (FP.ddiv (FP.l2d b) (FP.l2d r)) := by
  obtain ⟨n, k, e1, e2, h1, h2, h3⟩ := own_Hn h
  exact own_fnn e1 e2 h1 h2 (by omega)
theorem own_L1 {r b : Int64} (h : own_H r b) : ¬ (0 : Int32) < cmpValue (FP.dcmp FP.dconst0 (FP.ddiv (FP.l2d b) (FP.l2d r))) .g := by
  refine own_le own_n0.1 (own_L0 h) ?_
  obtain ⟨n, k, e1, e2, h1, h2, h3⟩ := own_Hn h
  rw [own_n0.2, own_vq e1 e2, own_zq h1 h2 (by omega)]
  exact Int.natCast_nonneg _
theorem own_L2 {r b : Int64} (h : own_H r b) : ¬ (0 : Int32) < cmpValue (FP.dcmp (FP.ddiv (FP.l2d b) (FP.l2d r)) FP.dconst1) .g := by
  refine own_le (own_L0 h) own_n1.1 ?_
  obtain ⟨n, k, e1, e2, h1, h2, h3⟩ := own_Hn h
  rw [own_n1.2, own_vq e1 e2, own_zq h1 h2 (by omega), own_zv rfl, own_one.2]
  exact Int.ofNat_le.mpr (own_Qle h1 h2 (by omega)).1
theorem own_L3 {r b : Int64} (h : own_H r b) (hb : b = 0) : cmpValue (FP.dcmp (FP.ddiv (FP.l2d b) (FP.l2d r)) FP.dconst0) .l = 0 := by
  refine own_eq (own_L0 h) own_n0.1 ?_
  obtain ⟨n, k, e1, e2, h1, h2, h3⟩ := own_Hn h
  have : n = 0 := by rw [hb] at e1; have e : (0 : Int64).toInt = 0 := rfl; omega
  subst this
  rw [own_n0.2, own_vq e1 e2, own_Qzero h2 (by omega)]
  decide +kernel
theorem own_L4 {r b : Int64} (h : own_H r b) (hb : ¬ b = 0) : ¬ cmpValue (FP.dcmp (FP.ddiv (FP.l2d b) (FP.l2d r)) FP.dconst0) .l = 0 := by
  refine own_gt (own_L0 h) own_n0.1 ?_
  obtain ⟨n, k, e1, e2, h1, h2, h3⟩ := own_Hn h
  have : n ≠ 0 := fun z => hb (Int64.toInt_inj.mp (by rw [e1, z]; rfl))
  rw [own_n0.2, own_vq e1 e2, own_zq h1 h2 (by omega)]
  exact Int.ofNat_lt.mpr (own_Qpos (by omega) h1 (by omega))
theorem own_L5 {r b : Int64} (h : own_H r b) (hb : b = r) : cmpValue (FP.dcmp (FP.ddiv (FP.l2d b) (FP.l2d r)) FP.dconst1) .l = 0 := by
  refine own_eq (own_L0 h) own_n1.1 ?_
  obtain ⟨n, k, e1, e2, h1, h2, h3⟩ := own_Hn h
  subst hb
  rw [own_vq e2 e2, own_n1.2, own_Qsame h2 (by omega)]
theorem own_L6n {r b : Int64} (h : own_H r b) : Jvm.Free.Fl.NoNaN64 (FP.ddiv (FP.l2d ((2 : Int64) * b)) (FP.l2d ((2 : Int64) * r))) := by
  obtain ⟨n, k, e1, e2, h1, h2, h3⟩ := own_Hn h
  obtain ⟨q1, q2, q3, q4⟩ := h
  exact own_fnn (n := 2 * n) (k := 2 * k) (by rw [own_dbl q3 (by omega)]; omega) (by rw [own_dbl (by omega) q2]; omega) (by omega) (by omega) (by omega)
theorem own_L6 {r b : Int64} (h : own_H r b) : cmpValue (FP.dcmp (FP.ddiv (FP.l2d ((2 : Int64) * b)) (FP.l2d ((2 : Int64) * r))) (FP.ddiv (FP.l2d b) (FP.l2d r))) .l = 0 := by
  refine own_eq (own_L6n h) (own_L0 h) ?_
  obtain ⟨n, k, e1, e2, h1, h2, h3⟩ := own_Hn h
  obtain ⟨q1, q2, q3, q4⟩ := h
  rw [own_vq e1 e2, own_vq (n := 2 * n) (k := 2 * k) (by rw [own_dbl q3 (by omega)]; omega) (by rw [own_dbl (by omega) q2]; omega), own_Qdbl h1 h2 h3]
theorem own_L7 {r b d : Int64} (h : own_H r b) (h' : own_H r d) (hbd : b.toInt ≤ d.toInt) : ¬ (0 : Int32) < cmpValue (FP.dcmp (FP.ddiv (FP.l2d b) (FP.l2d r)) (FP.ddiv (FP.l2d d) (FP.l2d r))) .g := by
  refine own_le (own_L0 h) (own_L0 h') ?_
  obtain ⟨n, k, e1, e2, h1, h2, h3⟩ := own_Hn h
  obtain ⟨n', k', e1', e2', h1', h2', h3'⟩ := own_Hn h'
  have : k' = k := by omega
  subst this
  rw [own_vq e1 e2, own_vq e1' e2, own_zq h1 h2 (by omega), own_zq h1' h2 (by omega)]
  exact Int.ofNat_le.mpr (own_Qmono (by omega) h1' h2 (by omega))
theorem own_L8n {r b : Int64} (h : own_H r b) : Jvm.Free.Fl.NoNaN64 (FP.ddiv (FP.l2d r) (FP.l2d ((2 : Int64) * r))) := by
  obtain ⟨n, k, e1, e2, h1, h2, h3⟩ := own_Hn h
  obtain ⟨q1, q2, q3, q4⟩ := h
  exact own_fnn (n := k) (k := 2 * k) e2 (by rw [own_dbl (by omega) q2]; omega) (by omega) (by omega) (by omega)
theorem own_L8 {r b : Int64} (h : own_H r b) : cmpValue (FP.dcmp (FP.ddiv (FP.l2d r) (FP.l2d ((2 : Int64) * r))) 4602678819172646912) .l = 0 := by
  refine own_eq (own_L8n h) own_nh.1 ?_
  obtain ⟨n, k, e1, e2, h1, h2, h3⟩ := own_Hn h
  obtain ⟨q1, q2, q3, q4⟩ := h
  rw [own_nh.2, own_vq (n := k) (k := 2 * k) e2 (by rw [own_dbl (by omega) q2]; omega), own_Qhalf h2 h3]
theorem own_Hs {r b d : Int64} (h : own_H r b) (hd : (b < r ∧ d = b + 1) ∨ (¬ b < r ∧ d = b)) : own_H r d ∧ b.toInt ≤ d.toInt := by
  obtain ⟨h1, h2, h3, h4⟩ := h
  rcases hd with ⟨q, rfl⟩ | ⟨q, rfl⟩
  · rw [Int64.lt_iff_toInt_lt] at q
    have e : (b + 1).toInt = b.toInt + 1 := by
      rw [Int64.toInt_add, show (1 : Int64).toInt = 1 from rfl]
      apply Int.bmod_eq_of_le <;> omega
    exact ⟨⟨h1, h2, by omega, by omega⟩, by omega⟩
  · exact ⟨⟨h1, h2, h3, h4⟩, by omega⟩
theorem own_rr (x : Int64) : 1 ≤ ((x &&& (2305843009213693951 : Int64)) + (1 : Int64)).toInt ∧ ((x &&& (2305843009213693951 : Int64)) + (1 : Int64)).toInt ≤ 2305843009213693952 := by
  have m := c_maskL x 2305843009213693951 61 (by decide) (by decide)
  have e : ((x &&& (2305843009213693951 : Int64)) + (1 : Int64)).toInt = (x &&& (2305843009213693951 : Int64)).toInt + 1 := by
    rw [Int64.toInt_add, show (1 : Int64).toInt = 1 from rfl]
    apply Int.bmod_eq_of_le <;> omega
  omega
theorem own_r1 (x : Int64) : (((x &&& (2305843009213693951 : Int64)) + (1 : Int64)) + (1 : Int64)).toInt = ((x &&& (2305843009213693951 : Int64)) + (1 : Int64)).toInt + 1 := by
  have r := own_rr x
  rw [Int64.toInt_add, show (1 : Int64).toInt = 1 from rfl]
  apply Int.bmod_eq_of_le <;> omega
theorem own_rnz (x : Int64) : ¬ (((x &&& (2305843009213693951 : Int64)) + (1 : Int64)) + (1 : Int64)) = 0 := fun h => by
  have r := own_rr x
  have e := own_r1 x
  rw [h] at e
  have : (0 : Int64).toInt = 0 := rfl
  omega
theorem own_Hof (x y : Int64) : own_H ((x &&& (2305843009213693951 : Int64)) + (1 : Int64)) ((y &&& (9223372036854775807 : Int64)) - (y &&& (9223372036854775807 : Int64)) / (((x &&& (2305843009213693951 : Int64)) + (1 : Int64)) + (1 : Int64)) * (((x &&& (2305843009213693951 : Int64)) + (1 : Int64)) + (1 : Int64))) := by
  have r := own_rr x
  have m := c_maskL y 9223372036854775807 63 (by decide) (by decide)
  have hm : 0 ≤ (y &&& (9223372036854775807 : Int64)).toInt := by omega
  have q := (c_lrem (y &&& (9223372036854775807 : Int64)) (((x &&& (2305843009213693951 : Int64)) + (1 : Int64)) + (1 : Int64)) _ (own_r1 x)).1 hm
  refine ⟨r.1, r.2, ?_, ?_⟩
  · rw [q]; exact Int.emod_nonneg _ (by omega)
  · rw [q]
    have := Int.emod_lt_of_pos (y &&& (9223372036854775807 : Int64)).toInt (b := ((x &&& (2305843009213693951 : Int64)) + (1 : Int64)).toInt + 1) (by omega)
    omega
end OwnFp2

theorem d2_0 : decode jdk_30_method_1_code 0 = .ok (.aload_n 0, 1) := by decide +kernel
theorem d2_1 : decode jdk_30_method_1_code 1 = .ok (.invokespecial 1, 3) := by decide +kernel
theorem d2_4 : decode jdk_30_method_1_code 4 = .ok (.return_, 1) := by decide +kernel
theorem own_pn2 : plainName "java/lang/Record" = true := by first | (simp [plainName, overriddenIn]; done) | decide +kernel
theorem own_ef2 (m : MethodId) (o : Addr) : entryFrame m #[(.ref o)] 1 = (mkF m 0 #[.val (.ref o)] []) := by first | (simp [entryFrame, mkF, argsToLocals, Value.category]; done) | rfl
def Q2 (Z : State) (o : Addr)  (h0 : Heap) (n0 : Nat) (v : Option Value) (h : Heap) (L : List Loc) : Prop := v = none ∧ Fr n0 L ∧ h = h0
set_option maxRecDepth 65536 in
set_option maxHeartbeats 40000000 in
theorem rm2 (l : Launch) (Z : State) (a0 : Array Value) (hw : ∀ d ∈ tables_1, d.before a0 Z = true) (ws : List Jvm.Cond) (o : Addr)  (h0 : Heap) (n0 : Nat) (Z0 : n0 ≤ h0.size)  :
    MetFree l (⟨"java/lang/Record", "<init>", "()V"⟩ : MethodName) (head1 (Jvm.Cond.code (⟨"java/lang/Record", "<init>", "()V"⟩ : MethodName) jdk_30_method_1_code 1 none :: ws) ({ frames := 1, cells := 0, slots := 0, locals := 12 } : Room)) (fun a U => a = #[(.ref o)] ∧ Z.Warmed39 U.vm ∧ U.heap = h0) (fun _ _ _ _ _ => True) (fun _ U oc U' => ∃ v L, oc = .returned v ∧ Q2 Z o  h0 n0 v U'.heap L ∧ FrameEnd U oc U' L ({ frames := 1, cells := 0, slots := 0, locals := 12 } : Room).cells ({ frames := 1, cells := 0, slots := 0, locals := 12 } : Room).slots) := by
  refine MetFree.of_bodySF (plainFor_of_name own_pn2) hisR ?_
  intro p e s m args below meth c s₁ Bd hml0 hP hK
  obtain ⟨rfl, hZ, hh⟩ := hP
  have hx := Bd.exec
  have hby := Bd.bytes
  have hlk : meth.locks = false := BodyLoose.notSynchronized Bd
  have hml : c.maxLocals = 1 := hml0
  have hown : s.vm.findClass "java/lang/Record" = some m.cls := findClass_of_methodNamed Bd.named
  have hnm := (name_of_methodNamed Bd.named Bd.method).1
  have X0 : Stand p l e ({ frames := 1, cells := 0, slots := 0, locals := 12 } : Room) s m #[(.ref o)] below meth c s₁ [] 0 0 := Stand.of_body Bd
  have e0 : s₁.heap = h0 := by rw [← hh, Bd.state]; rfl
  have N0 := Fr.nil n0
  refine own_enter (own_ef2 m o) ?_
  show own_Go p e below s (Q2 Z o  h0 n0) ({ frames := 1, cells := 0, slots := 0, locals := 12 } : Room).cells ({ frames := 1, cells := 0, slots := 0, locals := 12 } : Room).slots s₁ (mkF m 0 #[.val (.ref o)] [])
  refine own_st (T' := s₁) (F' := (mkF m 1 #[.val (.ref o)] [(.ref o)])) (fun _ k => XS.aloadN X0.here hx rfl (hb hby d2_0) rfl rfl k) ?_
  obtain ⟨T1, X1, e1, st1⟩ := initO X0 hx hZ hown (hw _ (List.mem_of_getElem? (i := 13) rfl)) (hw _ (List.mem_of_getElem? (i := 14) rfl)) (hw _ (List.mem_of_getElem? (i := 15) rfl)) e0 (g := (mkF m 1 #[.val (.ref o)] [(.ref o)])) rfl (by rw [hml]; rfl) rfl (hb hby d2_1) (by decide) (W := 0) (by show 2 * 0 + _ ≤ _; exact Nat.le_of_eq rfl) (by decide)
  refine own_st (T' := T1) (F' := (mkF m 4 #[.val (.ref o)] [])) (fun _ k => st1 _ k) ?_
  refine own_retV X1 hx hlk Bd.returns (hb hby d2_4) ?_ (by decide) (by decide)
  rw [e1]
  refine ⟨rfl, N0, rfl⟩
theorem own_pd0 : parseMethodDescriptor "()V" = some ⟨[], none⟩ := by decide +kernel
theorem d1_0 : decode prog_10_method_1_code 0 = .ok (.aload_n 0, 1) := by decide +kernel
theorem d1_1 : decode prog_10_method_1_code 1 = .ok (.invokespecial 1, 3) := by decide +kernel
theorem d1_4 : decode prog_10_method_1_code 4 = .ok (.aload_n 0, 1) := by decide +kernel
theorem d1_5 : decode prog_10_method_1_code 5 = .ok (.lload_n 1, 1) := by decide +kernel
theorem d1_6 : decode prog_10_method_1_code 6 = .ok (.putfield 7, 3) := by decide +kernel
theorem d1_9 : decode prog_10_method_1_code 9 = .ok (.aload_n 0, 1) := by decide +kernel
theorem d1_10 : decode prog_10_method_1_code 10 = .ok (.lload_n 3, 1) := by decide +kernel
theorem d1_11 : decode prog_10_method_1_code 11 = .ok (.putfield 13, 3) := by decide +kernel
theorem d1_14 : decode prog_10_method_1_code 14 = .ok (.aload_n 0, 1) := by decide +kernel
theorem d1_15 : decode prog_10_method_1_code 15 = .ok (.dload 5, 2) := by decide +kernel
theorem d1_17 : decode prog_10_method_1_code 17 = .ok (.putfield 16, 3) := by decide +kernel
theorem d1_20 : decode prog_10_method_1_code 20 = .ok (.aload_n 0, 1) := by decide +kernel
theorem d1_21 : decode prog_10_method_1_code 21 = .ok (.dload 7, 2) := by decide +kernel
theorem d1_23 : decode prog_10_method_1_code 23 = .ok (.putfield 20, 3) := by decide +kernel
theorem d1_26 : decode prog_10_method_1_code 26 = .ok (.aload_n 0, 1) := by decide +kernel
theorem d1_27 : decode prog_10_method_1_code 27 = .ok (.dload 9, 2) := by decide +kernel
theorem d1_29 : decode prog_10_method_1_code 29 = .ok (.putfield 23, 3) := by decide +kernel
theorem d1_32 : decode prog_10_method_1_code 32 = .ok (.return_, 1) := by decide +kernel
theorem own_pn1 : plainName "com/example/slotter/slotter/engine/SimulationResult" = true := by first | (simp [plainName, overriddenIn]; done) | decide +kernel
theorem own_ef1 (m : MethodId) (o : Addr) (x0 : Int64) (x1 : Int64) (x2 : UInt64) (x3 : UInt64) (x4 : UInt64) : entryFrame m #[(.ref o), (.long x0), (.long x1), (.double x2), (.double x3), (.double x4)] 11 = (mkF m 0 #[.val (.ref o), .val (.long x0), .second, .val (.long x1), .second, .val (.double x2), .second, .val (.double x3), .second, .val (.double x4), .second] []) := by first | (simp [entryFrame, mkF, argsToLocals, Value.category]; done) | rfl
def Q1 (Z : State) (o : Addr) (x0 : Int64) (x1 : Int64) (x2 : UInt64) (x3 : UInt64) (x4 : UInt64) (u0 : Value) (u1 : Value) (u2 : Value) (u3 : Value) (u4 : Value) (h0 : Heap) (n0 : Nat) (v : Option Value) (h : Heap) (L : List Loc) : Prop := v = none ∧ Fr n0 L ∧ Keep h0 h [o] ∧ Fld Z h o "com/example/slotter/slotter/engine/SimulationResult" "requests" "J" (.long x0) ∧ Fld Z h o "com/example/slotter/slotter/engine/SimulationResult" "blocked" "J" (.long x1)
set_option maxRecDepth 65536 in
set_option maxHeartbeats 40000000 in
theorem rm1 (l : Launch) (Z : State) (a0 : Array Value) (hw : ∀ d ∈ tables_1, d.before a0 Z = true) (ws : List Jvm.Cond) (o : Addr) (x0 : Int64) (x1 : Int64) (x2 : UInt64) (x3 : UInt64) (x4 : UInt64) (u0 : Value) (u1 : Value) (u2 : Value) (u3 : Value) (u4 : Value) (h0 : Heap) (n0 : Nat) (Z0 : n0 ≤ h0.size) (hge : n0 ≤ o) (hE : Exa Z h0 o "com/example/slotter/slotter/engine/SimulationResult") (hF0 : Fld Z h0 o "com/example/slotter/slotter/engine/SimulationResult" "requests" "J" u0) (hF1 : Fld Z h0 o "com/example/slotter/slotter/engine/SimulationResult" "blocked" "J" u1) (hF2 : Fld Z h0 o "com/example/slotter/slotter/engine/SimulationResult" "ci95HalfWidth" "D" u2) (hF3 : Fld Z h0 o "com/example/slotter/slotter/engine/SimulationResult" "meanHops" "D" u3) (hF4 : Fld Z h0 o "com/example/slotter/slotter/engine/SimulationResult" "meanKm" "D" u4) :
    MetFree l (⟨"com/example/slotter/slotter/engine/SimulationResult", "<init>", "(JJDDD)V"⟩ : MethodName) (head1 (Jvm.Cond.code (⟨"com/example/slotter/slotter/engine/SimulationResult", "<init>", "(JJDDD)V"⟩ : MethodName) prog_10_method_1_code 11 none :: ws) ({ frames := 2, cells := 0, slots := 0, locals := 24 } : Room)) (fun a U => a = #[(.ref o), (.long x0), (.long x1), (.double x2), (.double x3), (.double x4)] ∧ Z.Warmed39 U.vm ∧ U.heap = h0) (fun _ _ _ _ _ => True) (fun _ U oc U' => ∃ v L, oc = .returned v ∧ Q1 Z o x0 x1 x2 x3 x4 u0 u1 u2 u3 u4 h0 n0 v U'.heap L ∧ FrameEnd U oc U' L ({ frames := 2, cells := 0, slots := 0, locals := 24 } : Room).cells ({ frames := 2, cells := 0, slots := 0, locals := 24 } : Room).slots) := by
  refine MetFree.of_bodySF (plainFor_of_name own_pn1) hisR ?_
  intro p e s m args below meth c s₁ Bd hml0 hP hK
  obtain ⟨rfl, hZ, hh⟩ := hP
  have hx := Bd.exec
  have hby := Bd.bytes
  have hlk : meth.locks = false := BodyLoose.notSynchronized Bd
  have hml : c.maxLocals = 11 := hml0
  have hown : s.vm.findClass "com/example/slotter/slotter/engine/SimulationResult" = some m.cls := findClass_of_methodNamed Bd.named
  have hnm := (name_of_methodNamed Bd.named Bd.method).1
  have X0 : Stand p l e ({ frames := 2, cells := 0, slots := 0, locals := 24 } : Room) s m #[(.ref o), (.long x0), (.long x1), (.double x2), (.double x3), (.double x4)] below meth c s₁ [] 0 0 := Stand.of_body Bd
  have e0 : s₁.heap = h0 := by rw [← hh, Bd.state]; rfl
  have N0 := Fr.nil n0
  refine own_enter (own_ef1 m o x0 x1 x2 x3 x4) ?_
  show own_Go p e below s (Q1 Z o x0 x1 x2 x3 x4 u0 u1 u2 u3 u4 h0 n0) ({ frames := 2, cells := 0, slots := 0, locals := 24 } : Room).cells ({ frames := 2, cells := 0, slots := 0, locals := 24 } : Room).slots s₁ (mkF m 0 #[.val (.ref o), .val (.long x0), .second, .val (.long x1), .second, .val (.double x2), .second, .val (.double x3), .second, .val (.double x4), .second] [])
  refine own_st (T' := s₁) (F' := (mkF m 1 #[.val (.ref o), .val (.long x0), .second, .val (.long x1), .second, .val (.double x2), .second, .val (.double x3), .second, .val (.double x4), .second] [(.ref o)])) (fun _ k => XS.aloadN X0.here hx rfl (hb hby d1_0) rfl rfl k) ?_
  obtain ⟨_, _, ⟨T1, L1, k1, n1⟩, -, X1, ⟨Lc1, hQ1, l1, y1, z1⟩, st1⟩ := X0.specialBack hx (y := (⟨"java/lang/Record", "<init>", "()V"⟩ : MethodName)) rfl hown (mvT hZ (hw _ (List.mem_of_getElem? (i := 8) rfl))) (mvT hZ (hw _ (List.mem_of_getElem? (i := 9) rfl))) (mvT hZ (hw _ (List.mem_of_getElem? (i := 12) rfl))) (by decide) (backOf (W := 0) (rm2 l Z a0 hw [] o  h0 n0 Z0 ) hZ (hw _ (List.mem_of_getElem? (i := 12) rfl)) (hw _ (List.mem_of_getElem? (i := 11) rfl)) (by decide) (by decide)) (g := (mkF m 1 #[.val (.ref o), .val (.long x0), .second, .val (.long x1), .second, .val (.double x2), .second, .val (.double x3), .second, .val (.double x4), .second] [(.ref o)])) rfl (by rw [hml]; rfl) (Steps.refl _) (a := o) (argsL := []) (rest := []) (lenOf own_pd0 rfl) rfl (by show 2 * 0 + _ ≤ _; exact Nat.le_of_eq rfl) (hb hby d1_1) (fun _ _ => ⟨rfl, e0, (by decide : 0 + 0 ≤ _), (by decide : 0 + 0 ≤ _)⟩)
  dsimp only [Pt.U, Pt.locs, Pt.cells, Pt.slots] at X1 l1 y1 z1 st1 hQ1
  subst l1 y1 z1
  obtain ⟨rfl, Nq1, eq1⟩ := hQ1
  have N1 := Fr.app N0 Nq1
  refine own_tr (T' := T1) (F' := (mkF m 4 #[.val (.ref o), .val (.long x0), .second, .val (.long x1), .second, .val (.double x2), .second, .val (.double x3), .second, .val (.double x4), .second] [])) st1 ?_
  refine own_st (T' := T1) (F' := (mkF m 5 #[.val (.ref o), .val (.long x0), .second, .val (.long x1), .second, .val (.double x2), .second, .val (.double x3), .second, .val (.double x4), .second] [(.ref o)])) (fun _ k => XS.aloadN X1.here hx rfl (hb hby d1_4) rfl rfl k) ?_
  refine own_st (T' := T1) (F' := (mkF m 6 #[.val (.ref o), .val (.long x0), .second, .val (.long x1), .second, .val (.double x2), .second, .val (.double x3), .second, .val (.double x4), .second] [(.long x0), (.ref o)])) (fun _ k => XS.lloadN X1.here hx rfl (hb hby d1_5) rfl  k) ?_
  obtain ⟨T2, h2, X2, e2, W2, st2⟩ := putF X1 hx hZ hown (host := "") (Or.inl (hw _ (List.mem_of_getElem? (i := 16) rfl))) Via.refl eq1 hF0 hE (Or.inr ⟨(hw _ (List.mem_of_getElem? (i := 17) rfl)), rfl, hnm⟩) (hw _ (List.mem_of_getElem? (i := 3) rfl)) (ty := .long) (by decide) rfl rfl (g := (mkF m 6 #[.val (.ref o), .val (.long x0), .second, .val (.long x1), .second, .val (.double x2), .second, .val (.double x3), .second, .val (.double x4), .second] [(.long x0), (.ref o)])) rfl rfl (hb hby d1_6)
  have N2 := Fr.snoc X2 N1 hge
  have f3 : Exa Z h2 o "com/example/slotter/slotter/engine/SimulationResult" := hE.wr W2
  have f4 : Fld Z h2 o "com/example/slotter/slotter/engine/SimulationResult" "requests" "J" (.long x0) := hF0.same W2
  have f5 : Fld Z h2 o "com/example/slotter/slotter/engine/SimulationResult" "blocked" "J" u1 := hF1.other W2 (Or.inr (slot_ne (Or.inr (hw _ (List.mem_of_getElem? (i := 19) rfl))) (Or.inr (hw _ (List.mem_of_getElem? (i := 17) rfl))) (by decide) (t := .long) (t' := .long) (by decide) (by decide)))
  have f6 : Fld Z h2 o "com/example/slotter/slotter/engine/SimulationResult" "ci95HalfWidth" "D" u2 := hF2.other W2 (Or.inr (slot_ne (Or.inr (hw _ (List.mem_of_getElem? (i := 21) rfl))) (Or.inr (hw _ (List.mem_of_getElem? (i := 17) rfl))) (by decide) (t := .double) (t' := .long) (by decide) (by decide)))
  have f7 : Fld Z h2 o "com/example/slotter/slotter/engine/SimulationResult" "meanHops" "D" u3 := hF3.other W2 (Or.inr (slot_ne (Or.inr (hw _ (List.mem_of_getElem? (i := 23) rfl))) (Or.inr (hw _ (List.mem_of_getElem? (i := 17) rfl))) (by decide) (t := .double) (t' := .long) (by decide) (by decide)))
  have f8 : Fld Z h2 o "com/example/slotter/slotter/engine/SimulationResult" "meanKm" "D" u4 := hF4.other W2 (Or.inr (slot_ne (Or.inr (hw _ (List.mem_of_getElem? (i := 25) rfl))) (Or.inr (hw _ (List.mem_of_getElem? (i := 17) rfl))) (by decide) (t := .double) (t' := .long) (by decide) (by decide)))
  have K2 : Keep h0 h2 [o] := (Keep.refl h0 [o]).wr W2 (Or.inl (List.mem_of_getElem? (i := 0) rfl))
  have Zs2 : n0 ≤ h2.size := Nat.le_trans Z0 K2.1
  refine own_st (T' := T2) (F' := (mkF m 9 #[.val (.ref o), .val (.long x0), .second, .val (.long x1), .second, .val (.double x2), .second, .val (.double x3), .second, .val (.double x4), .second] [])) (fun _ k => st2 _ k) ?_
  refine own_st (T' := T2) (F' := (mkF m 10 #[.val (.ref o), .val (.long x0), .second, .val (.long x1), .second, .val (.double x2), .second, .val (.double x3), .second, .val (.double x4), .second] [(.ref o)])) (fun _ k => XS.aloadN X2.here hx rfl (hb hby d1_9) rfl rfl k) ?_
  refine own_st (T' := T2) (F' := (mkF m 11 #[.val (.ref o), .val (.long x0), .second, .val (.long x1), .second, .val (.double x2), .second, .val (.double x3), .second, .val (.double x4), .second] [(.long x1), (.ref o)])) (fun _ k => XS.lloadN X2.here hx rfl (hb hby d1_10) rfl  k) ?_
  obtain ⟨T9, h9, X9, e9, W9, st9⟩ := putF X2 hx hZ hown (host := "") (Or.inl (hw _ (List.mem_of_getElem? (i := 18) rfl))) Via.refl e2 f5 f3 (Or.inr ⟨(hw _ (List.mem_of_getElem? (i := 19) rfl)), rfl, hnm⟩) (hw _ (List.mem_of_getElem? (i := 3) rfl)) (ty := .long) (by decide) rfl rfl (g := (mkF m 11 #[.val (.ref o), .val (.long x0), .second, .val (.long x1), .second, .val (.double x2), .second, .val (.double x3), .second, .val (.double x4), .second] [(.long x1), (.ref o)])) rfl rfl (hb hby d1_11)
  have N9 := Fr.snoc X9 N2 hge
  have f10 : Exa Z h9 o "com/example/slotter/slotter/engine/SimulationResult" := f3.wr W9
  have f11 : Fld Z h9 o "com/example/slotter/slotter/engine/SimulationResult" "requests" "J" (.long x0) := f4.other W9 (Or.inr (slot_ne (Or.inr (hw _ (List.mem_of_getElem? (i := 17) rfl))) (Or.inr (hw _ (List.mem_of_getElem? (i := 19) rfl))) (by decide) (t := .long) (t' := .long) (by decide) (by decide)))
  have f12 : Fld Z h9 o "com/example/slotter/slotter/engine/SimulationResult" "blocked" "J" (.long x1) := f5.same W9
  have f13 : Fld Z h9 o "com/example/slotter/slotter/engine/SimulationResult" "ci95HalfWidth" "D" u2 := f6.other W9 (Or.inr (slot_ne (Or.inr (hw _ (List.mem_of_getElem? (i := 21) rfl))) (Or.inr (hw _ (List.mem_of_getElem? (i := 19) rfl))) (by decide) (t := .double) (t' := .long) (by decide) (by decide)))
  have f14 : Fld Z h9 o "com/example/slotter/slotter/engine/SimulationResult" "meanHops" "D" u3 := f7.other W9 (Or.inr (slot_ne (Or.inr (hw _ (List.mem_of_getElem? (i := 23) rfl))) (Or.inr (hw _ (List.mem_of_getElem? (i := 19) rfl))) (by decide) (t := .double) (t' := .long) (by decide) (by decide)))
  have f15 : Fld Z h9 o "com/example/slotter/slotter/engine/SimulationResult" "meanKm" "D" u4 := f8.other W9 (Or.inr (slot_ne (Or.inr (hw _ (List.mem_of_getElem? (i := 25) rfl))) (Or.inr (hw _ (List.mem_of_getElem? (i := 19) rfl))) (by decide) (t := .double) (t' := .long) (by decide) (by decide)))
  have K9 : Keep h0 h9 [o] := K2.wr W9 (Or.inl (List.mem_of_getElem? (i := 0) rfl))
  have Zs9 : n0 ≤ h9.size := Nat.le_trans Z0 K9.1
  refine own_st (T' := T9) (F' := (mkF m 14 #[.val (.ref o), .val (.long x0), .second, .val (.long x1), .second, .val (.double x2), .second, .val (.double x3), .second, .val (.double x4), .second] [])) (fun _ k => st9 _ k) ?_
  refine own_st (T' := T9) (F' := (mkF m 15 #[.val (.ref o), .val (.long x0), .second, .val (.long x1), .second, .val (.double x2), .second, .val (.double x3), .second, .val (.double x4), .second] [(.ref o)])) (fun _ k => XS.aloadN X9.here hx rfl (hb hby d1_14) rfl rfl k) ?_
  refine own_st (T' := T9) (F' := (mkF m 17 #[.val (.ref o), .val (.long x0), .second, .val (.long x1), .second, .val (.double x2), .second, .val (.double x3), .second, .val (.double x4), .second] [(.double x2), (.ref o)])) (fun _ k => XS.dload X9.here hx rfl (hb hby d1_15) rfl  k) ?_
  obtain ⟨T16, h16, X16, e16, W16, st16⟩ := putF X9 hx hZ hown (host := "") (Or.inl (hw _ (List.mem_of_getElem? (i := 20) rfl))) Via.refl e9 f13 f10 (Or.inr ⟨(hw _ (List.mem_of_getElem? (i := 21) rfl)), rfl, hnm⟩) (hw _ (List.mem_of_getElem? (i := 3) rfl)) (ty := .double) (by decide) rfl rfl (g := (mkF m 17 #[.val (.ref o), .val (.long x0), .second, .val (.long x1), .second, .val (.double x2), .second, .val (.double x3), .second, .val (.double x4), .second] [(.double x2), (.ref o)])) rfl rfl (hb hby d1_17)
  have N16 := Fr.snoc X16 N9 hge
  have f17 : Exa Z h16 o "com/example/slotter/slotter/engine/SimulationResult" := f10.wr W16
  have f18 : Fld Z h16 o "com/example/slotter/slotter/engine/SimulationResult" "requests" "J" (.long x0) := f11.other W16 (Or.inr (slot_ne (Or.inr (hw _ (List.mem_of_getElem? (i := 17) rfl))) (Or.inr (hw _ (List.mem_of_getElem? (i := 21) rfl))) (by decide) (t := .long) (t' := .double) (by decide) (by decide)))
  have f19 : Fld Z h16 o "com/example/slotter/slotter/engine/SimulationResult" "blocked" "J" (.long x1) := f12.other W16 (Or.inr (slot_ne (Or.inr (hw _ (List.mem_of_getElem? (i := 19) rfl))) (Or.inr (hw _ (List.mem_of_getElem? (i := 21) rfl))) (by decide) (t := .long) (t' := .double) (by decide) (by decide)))
  have f20 : Fld Z h16 o "com/example/slotter/slotter/engine/SimulationResult" "ci95HalfWidth" "D" (.double x2) := f13.same W16
  have f21 : Fld Z h16 o "com/example/slotter/slotter/engine/SimulationResult" "meanHops" "D" u3 := f14.other W16 (Or.inr (slot_ne (Or.inr (hw _ (List.mem_of_getElem? (i := 23) rfl))) (Or.inr (hw _ (List.mem_of_getElem? (i := 21) rfl))) (by decide) (t := .double) (t' := .double) (by decide) (by decide)))
  have f22 : Fld Z h16 o "com/example/slotter/slotter/engine/SimulationResult" "meanKm" "D" u4 := f15.other W16 (Or.inr (slot_ne (Or.inr (hw _ (List.mem_of_getElem? (i := 25) rfl))) (Or.inr (hw _ (List.mem_of_getElem? (i := 21) rfl))) (by decide) (t := .double) (t' := .double) (by decide) (by decide)))
  have K16 : Keep h0 h16 [o] := K9.wr W16 (Or.inl (List.mem_of_getElem? (i := 0) rfl))
  have Zs16 : n0 ≤ h16.size := Nat.le_trans Z0 K16.1
  refine own_st (T' := T16) (F' := (mkF m 20 #[.val (.ref o), .val (.long x0), .second, .val (.long x1), .second, .val (.double x2), .second, .val (.double x3), .second, .val (.double x4), .second] [])) (fun _ k => st16 _ k) ?_
  refine own_st (T' := T16) (F' := (mkF m 21 #[.val (.ref o), .val (.long x0), .second, .val (.long x1), .second, .val (.double x2), .second, .val (.double x3), .second, .val (.double x4), .second] [(.ref o)])) (fun _ k => XS.aloadN X16.here hx rfl (hb hby d1_20) rfl rfl k) ?_
  refine own_st (T' := T16) (F' := (mkF m 23 #[.val (.ref o), .val (.long x0), .second, .val (.long x1), .second, .val (.double x2), .second, .val (.double x3), .second, .val (.double x4), .second] [(.double x3), (.ref o)])) (fun _ k => XS.dload X16.here hx rfl (hb hby d1_21) rfl  k) ?_
  obtain ⟨T23, h23, X23, e23, W23, st23⟩ := putF X16 hx hZ hown (host := "") (Or.inl (hw _ (List.mem_of_getElem? (i := 22) rfl))) Via.refl e16 f21 f17 (Or.inr ⟨(hw _ (List.mem_of_getElem? (i := 23) rfl)), rfl, hnm⟩) (hw _ (List.mem_of_getElem? (i := 3) rfl)) (ty := .double) (by decide) rfl rfl (g := (mkF m 23 #[.val (.ref o), .val (.long x0), .second, .val (.long x1), .second, .val (.double x2), .second, .val (.double x3), .second, .val (.double x4), .second] [(.double x3), (.ref o)])) rfl rfl (hb hby d1_23)
  have N23 := Fr.snoc X23 N16 hge
  have f24 : Exa Z h23 o "com/example/slotter/slotter/engine/SimulationResult" := f17.wr W23
  have f25 : Fld Z h23 o "com/example/slotter/slotter/engine/SimulationResult" "requests" "J" (.long x0) := f18.other W23 (Or.inr (slot_ne (Or.inr (hw _ (List.mem_of_getElem? (i := 17) rfl))) (Or.inr (hw _ (List.mem_of_getElem? (i := 23) rfl))) (by decide) (t := .long) (t' := .double) (by decide) (by decide)))
  have f26 : Fld Z h23 o "com/example/slotter/slotter/engine/SimulationResult" "blocked" "J" (.long x1) := f19.other W23 (Or.inr (slot_ne (Or.inr (hw _ (List.mem_of_getElem? (i := 19) rfl))) (Or.inr (hw _ (List.mem_of_getElem? (i := 23) rfl))) (by decide) (t := .long) (t' := .double) (by decide) (by decide)))
  have f27 : Fld Z h23 o "com/example/slotter/slotter/engine/SimulationResult" "ci95HalfWidth" "D" (.double x2) := f20.other W23 (Or.inr (slot_ne (Or.inr (hw _ (List.mem_of_getElem? (i := 21) rfl))) (Or.inr (hw _ (List.mem_of_getElem? (i := 23) rfl))) (by decide) (t := .double) (t' := .double) (by decide) (by decide)))
  have f28 : Fld Z h23 o "com/example/slotter/slotter/engine/SimulationResult" "meanHops" "D" (.double x3) := f21.same W23
  have f29 : Fld Z h23 o "com/example/slotter/slotter/engine/SimulationResult" "meanKm" "D" u4 := f22.other W23 (Or.inr (slot_ne (Or.inr (hw _ (List.mem_of_getElem? (i := 25) rfl))) (Or.inr (hw _ (List.mem_of_getElem? (i := 23) rfl))) (by decide) (t := .double) (t' := .double) (by decide) (by decide)))
  have K23 : Keep h0 h23 [o] := K16.wr W23 (Or.inl (List.mem_of_getElem? (i := 0) rfl))
  have Zs23 : n0 ≤ h23.size := Nat.le_trans Z0 K23.1
  refine own_st (T' := T23) (F' := (mkF m 26 #[.val (.ref o), .val (.long x0), .second, .val (.long x1), .second, .val (.double x2), .second, .val (.double x3), .second, .val (.double x4), .second] [])) (fun _ k => st23 _ k) ?_
  refine own_st (T' := T23) (F' := (mkF m 27 #[.val (.ref o), .val (.long x0), .second, .val (.long x1), .second, .val (.double x2), .second, .val (.double x3), .second, .val (.double x4), .second] [(.ref o)])) (fun _ k => XS.aloadN X23.here hx rfl (hb hby d1_26) rfl rfl k) ?_
  refine own_st (T' := T23) (F' := (mkF m 29 #[.val (.ref o), .val (.long x0), .second, .val (.long x1), .second, .val (.double x2), .second, .val (.double x3), .second, .val (.double x4), .second] [(.double x4), (.ref o)])) (fun _ k => XS.dload X23.here hx rfl (hb hby d1_27) rfl  k) ?_
  obtain ⟨T30, h30, X30, e30, W30, st30⟩ := putF X23 hx hZ hown (host := "") (Or.inl (hw _ (List.mem_of_getElem? (i := 24) rfl))) Via.refl e23 f29 f24 (Or.inr ⟨(hw _ (List.mem_of_getElem? (i := 25) rfl)), rfl, hnm⟩) (hw _ (List.mem_of_getElem? (i := 3) rfl)) (ty := .double) (by decide) rfl rfl (g := (mkF m 29 #[.val (.ref o), .val (.long x0), .second, .val (.long x1), .second, .val (.double x2), .second, .val (.double x3), .second, .val (.double x4), .second] [(.double x4), (.ref o)])) rfl rfl (hb hby d1_29)
  have N30 := Fr.snoc X30 N23 hge
  have f31 : Exa Z h30 o "com/example/slotter/slotter/engine/SimulationResult" := f24.wr W30
  have f32 : Fld Z h30 o "com/example/slotter/slotter/engine/SimulationResult" "requests" "J" (.long x0) := f25.other W30 (Or.inr (slot_ne (Or.inr (hw _ (List.mem_of_getElem? (i := 17) rfl))) (Or.inr (hw _ (List.mem_of_getElem? (i := 25) rfl))) (by decide) (t := .long) (t' := .double) (by decide) (by decide)))
  have f33 : Fld Z h30 o "com/example/slotter/slotter/engine/SimulationResult" "blocked" "J" (.long x1) := f26.other W30 (Or.inr (slot_ne (Or.inr (hw _ (List.mem_of_getElem? (i := 19) rfl))) (Or.inr (hw _ (List.mem_of_getElem? (i := 25) rfl))) (by decide) (t := .long) (t' := .double) (by decide) (by decide)))
  have f34 : Fld Z h30 o "com/example/slotter/slotter/engine/SimulationResult" "ci95HalfWidth" "D" (.double x2) := f27.other W30 (Or.inr (slot_ne (Or.inr (hw _ (List.mem_of_getElem? (i := 21) rfl))) (Or.inr (hw _ (List.mem_of_getElem? (i := 25) rfl))) (by decide) (t := .double) (t' := .double) (by decide) (by decide)))
  have f35 : Fld Z h30 o "com/example/slotter/slotter/engine/SimulationResult" "meanHops" "D" (.double x3) := f28.other W30 (Or.inr (slot_ne (Or.inr (hw _ (List.mem_of_getElem? (i := 23) rfl))) (Or.inr (hw _ (List.mem_of_getElem? (i := 25) rfl))) (by decide) (t := .double) (t' := .double) (by decide) (by decide)))
  have f36 : Fld Z h30 o "com/example/slotter/slotter/engine/SimulationResult" "meanKm" "D" (.double x4) := f29.same W30
  have K30 : Keep h0 h30 [o] := K23.wr W30 (Or.inl (List.mem_of_getElem? (i := 0) rfl))
  have Zs30 : n0 ≤ h30.size := Nat.le_trans Z0 K30.1
  refine own_st (T' := T30) (F' := (mkF m 32 #[.val (.ref o), .val (.long x0), .second, .val (.long x1), .second, .val (.double x2), .second, .val (.double x3), .second, .val (.double x4), .second] [])) (fun _ k => st30 _ k) ?_
  refine own_retV X30 hx hlk Bd.returns (hb hby d1_32) ?_ (by decide) (by decide)
  rw [e30]
  refine ⟨rfl, N30, K30, f32, f33⟩
theorem d4_0 : decode prog_10_method_2_code 0 = .ok (.aload_n 0, 1) := by decide +kernel
theorem d4_1 : decode prog_10_method_2_code 1 = .ok (.getfield 13, 3) := by decide +kernel
theorem d4_4 : decode prog_10_method_2_code 4 = .ok (.l2d, 1) := by decide +kernel
theorem d4_5 : decode prog_10_method_2_code 5 = .ok (.aload_n 0, 1) := by decide +kernel
theorem d4_6 : decode prog_10_method_2_code 6 = .ok (.getfield 7, 3) := by decide +kernel
theorem d4_9 : decode prog_10_method_2_code 9 = .ok (.l2d, 1) := by decide +kernel
theorem d4_10 : decode prog_10_method_2_code 10 = .ok (.ddiv, 1) := by decide +kernel
theorem d4_11 : decode prog_10_method_2_code 11 = .ok (.dreturn, 1) := by decide +kernel
theorem own_pn4 : plainName "com/example/slotter/slotter/engine/SimulationResult" = true := by first | (simp [plainName, overriddenIn]; done) | decide +kernel
theorem own_ef4 (m : MethodId) (o : Addr) : entryFrame m #[(.ref o)] 1 = (mkF m 0 #[.val (.ref o)] []) := by first | (simp [entryFrame, mkF, argsToLocals, Value.category]; done) | rfl
def Q4 (Z : State) (o : Addr) (kb : Int64) (kr : Int64) (h0 : Heap) (n0 : Nat) (v : Option Value) (h : Heap) (L : List Loc) : Prop := v = some (.double (FP.ddiv (FP.l2d kb) (FP.l2d kr))) ∧ Fr n0 L ∧ h = h0
set_option maxRecDepth 65536 in
set_option maxHeartbeats 40000000 in
theorem rm4 (l : Launch) (Z : State) (a0 : Array Value) (hw : ∀ d ∈ tables_1, d.before a0 Z = true) (ws : List Jvm.Cond) (o : Addr) (kb : Int64) (kr : Int64) (h0 : Heap) (n0 : Nat) (Z0 : n0 ≤ h0.size) (hF0 : Fld Z h0 o "com/example/slotter/slotter/engine/SimulationResult" "requests" "J" (.long kr)) (hF1 : Fld Z h0 o "com/example/slotter/slotter/engine/SimulationResult" "blocked" "J" (.long kb)) (hn : Jvm.Free.Fl.NoNaN64 (FP.ddiv (FP.l2d kb) (FP.l2d kr))) :
    MetFree l (⟨"com/example/slotter/slotter/engine/SimulationResult", "blocking", "()D"⟩ : MethodName) (head1 (Jvm.Cond.code (⟨"com/example/slotter/slotter/engine/SimulationResult", "blocking", "()D"⟩ : MethodName) prog_10_method_2_code 1 (some .double) :: ws) ({ frames := 0, cells := 0, slots := 0, locals := 0 } : Room)) (fun a U => a = #[(.ref o)] ∧ Z.Warmed39 U.vm ∧ U.heap = h0) (fun _ _ _ _ _ => True) (fun _ U oc U' => ∃ v L, oc = .returned v ∧ Q4 Z o kb kr h0 n0 v U'.heap L ∧ FrameEnd U oc U' L ({ frames := 0, cells := 0, slots := 0, locals := 0 } : Room).cells ({ frames := 0, cells := 0, slots := 0, locals := 0 } : Room).slots) := by
  refine MetFree.of_bodySF (plainFor_of_name own_pn4) hisR ?_
  intro p e s m args below meth c s₁ Bd hml0 hP hK
  obtain ⟨rfl, hZ, hh⟩ := hP
  have hx := Bd.exec
  have hby := Bd.bytes
  have hlk : meth.locks = false := BodyLoose.notSynchronized Bd
  have hml : c.maxLocals = 1 := hml0
  have hown : s.vm.findClass "com/example/slotter/slotter/engine/SimulationResult" = some m.cls := findClass_of_methodNamed Bd.named
  have hnm := (name_of_methodNamed Bd.named Bd.method).1
  have X0 : Stand p l e ({ frames := 0, cells := 0, slots := 0, locals := 0 } : Room) s m #[(.ref o)] below meth c s₁ [] 0 0 := Stand.of_body Bd
  have e0 : s₁.heap = h0 := by rw [← hh, Bd.state]; rfl
  have N0 := Fr.nil n0
  refine own_enter (own_ef4 m o) ?_
  show own_Go p e below s (Q4 Z o kb kr h0 n0) ({ frames := 0, cells := 0, slots := 0, locals := 0 } : Room).cells ({ frames := 0, cells := 0, slots := 0, locals := 0 } : Room).slots s₁ (mkF m 0 #[.val (.ref o)] [])
  refine own_st (T' := s₁) (F' := (mkF m 1 #[.val (.ref o)] [(.ref o)])) (fun _ k => XS.aloadN X0.here hx rfl (hb hby d4_0) rfl rfl k) ?_
  obtain ⟨T1, X1, e1, st1⟩ := getF X0 hx hZ hown (host := "") (Or.inl (hw _ (List.mem_of_getElem? (i := 18) rfl))) Via.refl e0 hF1 (g := (mkF m 1 #[.val (.ref o)] [(.ref o)])) rfl rfl (hb hby d4_1)
  refine own_st (T' := T1) (F' := (mkF m 4 #[.val (.ref o)] [(.long kb)])) (fun _ k => st1 _ k) ?_
  refine own_st (T' := T1) (F' := (mkF m 5 #[.val (.ref o)] [(.double (FP.l2d kb))])) (fun _ k => XS.l2dS X1.here hx rfl (hb hby d4_4) rfl rfl k) ?_
  refine own_st (T' := T1) (F' := (mkF m 6 #[.val (.ref o)] [(.ref o), (.double (FP.l2d kb))])) (fun _ k => XS.aloadN X1.here hx rfl (hb hby d4_5) rfl rfl k) ?_
  obtain ⟨T2, X2, e2, st2⟩ := getF X1 hx hZ hown (host := "") (Or.inl (hw _ (List.mem_of_getElem? (i := 16) rfl))) Via.refl e1 hF0 (g := (mkF m 6 #[.val (.ref o)] [(.ref o), (.double (FP.l2d kb))])) rfl rfl (hb hby d4_6)
  refine own_st (T' := T2) (F' := (mkF m 9 #[.val (.ref o)] [(.long kr), (.double (FP.l2d kb))])) (fun _ k => st2 _ k) ?_
  refine own_st (T' := T2) (F' := (mkF m 10 #[.val (.ref o)] [(.double (FP.l2d kr)), (.double (FP.l2d kb))])) (fun _ k => XS.l2dS X2.here hx rfl (hb hby d4_9) rfl rfl k) ?_
  refine own_st (T' := T2) (F' := (mkF m 11 #[.val (.ref o)] [(.double (FP.ddiv (FP.l2d kb) (FP.l2d kr)))])) (fun _ k => XS.ddivS X2.here hx rfl (hb hby d4_10) rfl hn rfl k) ?_
  refine own_retD X2 hx hlk Bd.returns (hb hby d4_11) ?_ (by decide) (by decide)
  rw [e2]
  refine ⟨?_, N0, rfl⟩
  rfl
theorem own_pd1 : parseMethodDescriptor "(JJDDD)V" = some ⟨[.long, .long, .double, .double, .double], none⟩ := by decide +kernel
theorem own_pd2 : parseMethodDescriptor "()D" = some ⟨[], some .double⟩ := by decide +kernel
theorem own_pn0 : plainName "com/example/slotter/slotter/engine/SimulationResultBlockingPinLaw" = true := by first | (simp [plainName, overriddenIn]; done) | decide +kernel
theorem own_ef0 (m : MethodId) (x0 : Int64) (x1 : Int64) : entryFrame m #[(.long x0), (.long x1)] maxLocals = (mkF m 0 #[.val (.long x0), .second, .val (.long x1), .second, .unset, .unset, .unset, .unset, .unset, .unset, .unset, .unset, .unset, .unset, .unset, .unset, .unset, .unset, .unset] []) := by first | (simp [entryFrame, mkF, argsToLocals, Value.category, maxLocals]; done) | rfl
def Q0 (Z : State) (x0 : Int64) (x1 : Int64)  (h0 : Heap) (n0 : Nat) (v : Option Value) (h : Heap) (L : List Loc) : Prop := (∃ z : Int32, v = some (.int z) ∧ (z = 1)) ∧ Fr n0 L
set_option maxRecDepth 65536 in
set_option maxHeartbeats 40000000 in
theorem rm0 (l : Launch) (Z : State) (a0 : Array Value) (hw : ∀ d ∈ tables_1, d.before a0 Z = true) (ws : List Jvm.Cond) (x0 : Int64) (x1 : Int64)  (h0 : Heap) (n0 : Nat) (Z0 : n0 ≤ h0.size)  :
    MetFree l x (head1 (Jvm.Cond.code x code maxLocals ret :: ws) room_1) (fun a U => a = #[(.long x0), (.long x1)] ∧ Z.Warmed39 U.vm ∧ U.heap = h0) (fun _ _ _ _ _ => True) (fun _ U oc U' => ∃ v L, oc = .returned v ∧ Q0 Z x0 x1  h0 n0 v U'.heap L ∧ FrameEnd U oc U' L room_1.cells room_1.slots) := by
  refine MetFree.of_bodySF (plainFor_of_name own_pn0) hisR ?_
  intro p e s m args below meth c s₁ Bd hml0 hP hK
  obtain ⟨rfl, hZ, hh⟩ := hP
  have hx := Bd.exec
  have hby := Bd.bytes
  have hlk : meth.locks = false := BodyLoose.notSynchronized Bd
  have hml : c.maxLocals = 19 := hml0
  have hown : s.vm.findClass "com/example/slotter/slotter/engine/SimulationResultBlockingPinLaw" = some m.cls := findClass_of_methodNamed Bd.named
  have hnm := (name_of_methodNamed Bd.named Bd.method).1
  have X0 : Stand p l e room_1 s m #[(.long x0), (.long x1)] below meth c s₁ [] 0 0 := Stand.of_body Bd
  have e0 : s₁.heap = h0 := by rw [← hh, Bd.state]; rfl
  have N0 := Fr.nil n0
  refine own_enter (own_ef0 m x0 x1) ?_
  show own_Go p e below s (Q0 Z x0 x1  h0 n0) room_1.cells room_1.slots s₁ (mkF m 0 #[.val (.long x0), .second, .val (.long x1), .second, .unset, .unset, .unset, .unset, .unset, .unset, .unset, .unset, .unset, .unset, .unset, .unset, .unset, .unset, .unset] [])
  refine own_st (T' := s₁) (F' := (mkF m 1 #[.val (.long x0), .second, .val (.long x1), .second, .unset, .unset, .unset, .unset, .unset, .unset, .unset, .unset, .unset, .unset, .unset, .unset, .unset, .unset, .unset] [(.long x0)])) (fun _ k => XS.lloadN X0.here hx rfl (hb hby at_0) rfl  k) ?_
  refine own_st (T' := s₁) (F' := (mkF m 4 #[.val (.long x0), .second, .val (.long x1), .second, .unset, .unset, .unset, .unset, .unset, .unset, .unset, .unset, .unset, .unset, .unset, .unset, .unset, .unset, .unset] [(.long (2305843009213693951 : Int64)), (.long x0)])) (fun _ k => X0.ldc2Long hx hown (mvT hZ (hw _ (List.mem_of_getElem? (i := 0) rfl))) (g := (mkF m 1 #[.val (.long x0), .second, .val (.long x1), .second, .unset, .unset, .unset, .unset, .unset, .unset, .unset, .unset, .unset, .unset, .unset, .unset, .unset, .unset, .unset] [(.long x0)])) rfl (hb hby at_1) _ k) ?_
  refine own_st (T' := s₁) (F' := (mkF m 5 #[.val (.long x0), .second, .val (.long x1), .second, .unset, .unset, .unset, .unset, .unset, .unset, .unset, .unset, .unset, .unset, .unset, .unset, .unset, .unset, .unset] [(.long (x0 &&& (2305843009213693951 : Int64)))])) (fun _ k => XS.land X0.here hx rfl (hb hby at_4) rfl k) ?_
  refine own_st (T' := s₁) (F' := (mkF m 6 #[.val (.long x0), .second, .val (.long x1), .second, .unset, .unset, .unset, .unset, .unset, .unset, .unset, .unset, .unset, .unset, .unset, .unset, .unset, .unset, .unset] [(.long (1 : Int64)), (.long (x0 &&& (2305843009213693951 : Int64)))])) (fun _ k => XS.lconst X0.here hx rfl (hb hby at_5) k) ?_
  refine own_st (T' := s₁) (F' := (mkF m 7 #[.val (.long x0), .second, .val (.long x1), .second, .unset, .unset, .unset, .unset, .unset, .unset, .unset, .unset, .unset, .unset, .unset, .unset, .unset, .unset, .unset] [(.long ((x0 &&& (2305843009213693951 : Int64)) + (1 : Int64)))])) (fun _ k => XS.ladd X0.here hx rfl (hb hby at_6) rfl k) ?_
  refine own_st (T' := s₁) (F' := (mkF m 9 #[.val (.long x0), .second, .val (.long x1), .second, .val (.long ((x0 &&& (2305843009213693951 : Int64)) + (1 : Int64))), .second, .unset, .unset, .unset, .unset, .unset, .unset, .unset, .unset, .unset, .unset, .unset, .unset, .unset] [])) (fun _ k => XS.lstore X0.here hx rfl (hb hby at_7) rfl (l' := #[.val (.long x0), .second, .val (.long x1), .second, .val (.long ((x0 &&& (2305843009213693951 : Int64)) + (1 : Int64))), .second, .unset, .unset, .unset, .unset, .unset, .unset, .unset, .unset, .unset, .unset, .unset, .unset, .unset]) rfl k) ?_
  refine own_st (T' := s₁) (F' := (mkF m 10 #[.val (.long x0), .second, .val (.long x1), .second, .val (.long ((x0 &&& (2305843009213693951 : Int64)) + (1 : Int64))), .second, .unset, .unset, .unset, .unset, .unset, .unset, .unset, .unset, .unset, .unset, .unset, .unset, .unset] [(.long x1)])) (fun _ k => XS.lloadN X0.here hx rfl (hb hby at_9) rfl  k) ?_
  refine own_st (T' := s₁) (F' := (mkF m 13 #[.val (.long x0), .second, .val (.long x1), .second, .val (.long ((x0 &&& (2305843009213693951 : Int64)) + (1 : Int64))), .second, .unset, .unset, .unset, .unset, .unset, .unset, .unset, .unset, .unset, .unset, .unset, .unset, .unset] [(.long (9223372036854775807 : Int64)), (.long x1)])) (fun _ k => X0.ldc2Long hx hown (mvT hZ (hw _ (List.mem_of_getElem? (i := 1) rfl))) (g := (mkF m 10 #[.val (.long x0), .second, .val (.long x1), .second, .val (.long ((x0 &&& (2305843009213693951 : Int64)) + (1 : Int64))), .second, .unset, .unset, .unset, .unset, .unset, .unset, .unset, .unset, .unset, .unset, .unset, .unset, .unset] [(.long x1)])) rfl (hb hby at_10) _ k) ?_
  refine own_st (T' := s₁) (F' := (mkF m 14 #[.val (.long x0), .second, .val (.long x1), .second, .val (.long ((x0 &&& (2305843009213693951 : Int64)) + (1 : Int64))), .second, .unset, .unset, .unset, .unset, .unset, .unset, .unset, .unset, .unset, .unset, .unset, .unset, .unset] [(.long (x1 &&& (9223372036854775807 : Int64)))])) (fun _ k => XS.land X0.here hx rfl (hb hby at_13) rfl k) ?_
  refine own_st (T' := s₁) (F' := (mkF m 16 #[.val (.long x0), .second, .val (.long x1), .second, .val (.long ((x0 &&& (2305843009213693951 : Int64)) + (1 : Int64))), .second, .unset, .unset, .unset, .unset, .unset, .unset, .unset, .unset, .unset, .unset, .unset, .unset, .unset] [(.long ((x0 &&& (2305843009213693951 : Int64)) + (1 : Int64))), (.long (x1 &&& (9223372036854775807 : Int64)))])) (fun _ k => XS.lload X0.here hx rfl (hb hby at_14) rfl  k) ?_
  refine own_st (T' := s₁) (F' := (mkF m 17 #[.val (.long x0), .second, .val (.long x1), .second, .val (.long ((x0 &&& (2305843009213693951 : Int64)) + (1 : Int64))), .second, .unset, .unset, .unset, .unset, .unset, .unset, .unset, .unset, .unset, .unset, .unset, .unset, .unset] [(.long (1 : Int64)), (.long ((x0 &&& (2305843009213693951 : Int64)) + (1 : Int64))), (.long (x1 &&& (9223372036854775807 : Int64)))])) (fun _ k => XS.lconst X0.here hx rfl (hb hby at_16) k) ?_
  refine own_st (T' := s₁) (F' := (mkF m 18 #[.val (.long x0), .second, .val (.long x1), .second, .val (.long ((x0 &&& (2305843009213693951 : Int64)) + (1 : Int64))), .second, .unset, .unset, .unset, .unset, .unset, .unset, .unset, .unset, .unset, .unset, .unset, .unset, .unset] [(.long (((x0 &&& (2305843009213693951 : Int64)) + (1 : Int64)) + (1 : Int64))), (.long (x1 &&& (9223372036854775807 : Int64)))])) (fun _ k => XS.ladd X0.here hx rfl (hb hby at_17) rfl k) ?_
  refine own_st (T' := s₁) (F' := (mkF m 19 #[.val (.long x0), .second, .val (.long x1), .second, .val (.long ((x0 &&& (2305843009213693951 : Int64)) + (1 : Int64))), .second, .unset, .unset, .unset, .unset, .unset, .unset, .unset, .unset, .unset, .unset, .unset, .unset, .unset] [(.long ((x1 &&& (9223372036854775807 : Int64)) - (x1 &&& (9223372036854775807 : Int64)) / (((x0 &&& (2305843009213693951 : Int64)) + (1 : Int64)) + (1 : Int64)) * (((x0 &&& (2305843009213693951 : Int64)) + (1 : Int64)) + (1 : Int64))))])) (fun _ k => XT.lrem X0.here hx rfl (hb hby at_18) rfl (own_rnz x0) k) ?_
  refine own_st (T' := s₁) (F' := (mkF m 21 #[.val (.long x0), .second, .val (.long x1), .second, .val (.long ((x0 &&& (2305843009213693951 : Int64)) + (1 : Int64))), .second, .val (.long ((x1 &&& (9223372036854775807 : Int64)) - (x1 &&& (9223372036854775807 : Int64)) / (((x0 &&& (2305843009213693951 : Int64)) + (1 : Int64)) + (1 : Int64)) * (((x0 &&& (2305843009213693951 : Int64)) + (1 : Int64)) + (1 : Int64)))), .second, .unset, .unset, .unset, .unset, .unset, .unset, .unset, .unset, .unset, .unset, .unset] [])) (fun _ k => XS.lstore X0.here hx rfl (hb hby at_19) rfl (l' := #[.val (.long x0), .second, .val (.long x1), .second, .val (.long ((x0 &&& (2305843009213693951 : Int64)) + (1 : Int64))), .second, .val (.long ((x1 &&& (9223372036854775807 : Int64)) - (x1 &&& (9223372036854775807 : Int64)) / (((x0 &&& (2305843009213693951 : Int64)) + (1 : Int64)) + (1 : Int64)) * (((x0 &&& (2305843009213693951 : Int64)) + (1 : Int64)) + (1 : Int64)))), .second, .unset, .unset, .unset, .unset, .unset, .unset, .unset, .unset, .unset, .unset, .unset]) rfl k) ?_
  have hH : own_H ((x0 &&& (2305843009213693951 : Int64)) + (1 : Int64)) ((x1 &&& (9223372036854775807 : Int64)) - (x1 &&& (9223372036854775807 : Int64)) / (((x0 &&& (2305843009213693951 : Int64)) + (1 : Int64)) + (1 : Int64)) * (((x0 &&& (2305843009213693951 : Int64)) + (1 : Int64)) + (1 : Int64))) := own_Hof x0 x1
  generalize ((x1 &&& (9223372036854775807 : Int64)) - (x1 &&& (9223372036854775807 : Int64)) / (((x0 &&& (2305843009213693951 : Int64)) + (1 : Int64)) + (1 : Int64)) * (((x0 &&& (2305843009213693951 : Int64)) + (1 : Int64)) + (1 : Int64))) = bb at hH ⊢
  generalize ((x0 &&& (2305843009213693951 : Int64)) + (1 : Int64)) = rr at hH ⊢
  obtain ⟨T1, h1, X1, e1, E1, A1, D1, -, st1⟩ := newO X0 hx hZ hown (hw _ (List.mem_of_getElem? (i := 2) rfl)) (hw _ (List.mem_of_getElem? (i := 3) rfl)) (hw _ (List.mem_of_getElem? (i := 4) rfl)) e0 (g := (mkF m 21 #[.val (.long x0), .second, .val (.long x1), .second, .val (.long rr), .second, .val (.long bb), .second, .unset, .unset, .unset, .unset, .unset, .unset, .unset, .unset, .unset, .unset, .unset] [])) rfl (hb hby at_21) (by decide) (by decide)
  obtain ⟨b1, g1⟩ : ∃ z, z = h0.size := ⟨_, rfl⟩
  rw [← g1] at A1 D1 st1
  have ge1 : n0 ≤ b1 := by rw [g1]; exact Z0
  have hge1 : h0.size ≤ b1 := by rw [g1]; exact (Keep.refl h0 []).1
  have K1 : Keep h0 h1 [] := (Keep.refl h0 []).ext E1
  have Zs1 : n0 ≤ h1.size := Nat.le_trans Z0 K1.1
  have f2 : Fld Z h1 b1 "com/example/slotter/slotter/engine/SimulationResult" "requests" "J" (.long (0 : Int64)) := D1 (Or.inr (hw _ (List.mem_of_getElem? (i := 17) rfl))) (ty := .long) (by decide)
  have f3 : Fld Z h1 b1 "com/example/slotter/slotter/engine/SimulationResult" "blocked" "J" (.long (0 : Int64)) := D1 (Or.inr (hw _ (List.mem_of_getElem? (i := 19) rfl))) (ty := .long) (by decide)
  have f4 : Fld Z h1 b1 "com/example/slotter/slotter/engine/SimulationResult" "ci95HalfWidth" "D" (.double 0) := D1 (Or.inr (hw _ (List.mem_of_getElem? (i := 21) rfl))) (ty := .double) (by decide)
  have f5 : Fld Z h1 b1 "com/example/slotter/slotter/engine/SimulationResult" "meanHops" "D" (.double 0) := D1 (Or.inr (hw _ (List.mem_of_getElem? (i := 23) rfl))) (ty := .double) (by decide)
  have f6 : Fld Z h1 b1 "com/example/slotter/slotter/engine/SimulationResult" "meanKm" "D" (.double 0) := D1 (Or.inr (hw _ (List.mem_of_getElem? (i := 25) rfl))) (ty := .double) (by decide)
  refine own_st (T' := T1) (F' := (mkF m 24 #[.val (.long x0), .second, .val (.long x1), .second, .val (.long rr), .second, .val (.long bb), .second, .unset, .unset, .unset, .unset, .unset, .unset, .unset, .unset, .unset, .unset, .unset] [(.ref b1)])) (fun _ k => st1 _ k) ?_
  refine own_st (T' := T1) (F' := (mkF m 25 #[.val (.long x0), .second, .val (.long x1), .second, .val (.long rr), .second, .val (.long bb), .second, .unset, .unset, .unset, .unset, .unset, .unset, .unset, .unset, .unset, .unset, .unset] [(.ref b1), (.ref b1)])) (fun _ k => XS.dup X1.here hx rfl (hb hby at_24) rfl rfl k) ?_
  refine own_st (T' := T1) (F' := (mkF m 27 #[.val (.long x0), .second, .val (.long x1), .second, .val (.long rr), .second, .val (.long bb), .second, .unset, .unset, .unset, .unset, .unset, .unset, .unset, .unset, .unset, .unset, .unset] [(.long rr), (.ref b1), (.ref b1)])) (fun _ k => XS.lload X1.here hx rfl (hb hby at_25) rfl  k) ?_
  refine own_st (T' := T1) (F' := (mkF m 29 #[.val (.long x0), .second, .val (.long x1), .second, .val (.long rr), .second, .val (.long bb), .second, .unset, .unset, .unset, .unset, .unset, .unset, .unset, .unset, .unset, .unset, .unset] [(.long bb), (.long rr), (.ref b1), (.ref b1)])) (fun _ k => XS.lload X1.here hx rfl (hb hby at_27) rfl  k) ?_
  refine own_st (T' := T1) (F' := (mkF m 30 #[.val (.long x0), .second, .val (.long x1), .second, .val (.long rr), .second, .val (.long bb), .second, .unset, .unset, .unset, .unset, .unset, .unset, .unset, .unset, .unset, .unset, .unset] [(.double FP.dconst0), (.long bb), (.long rr), (.ref b1), (.ref b1)])) (fun _ k => XS.dconst0 X1.here hx rfl (hb hby at_29) rfl k) ?_
  refine own_st (T' := T1) (F' := (mkF m 31 #[.val (.long x0), .second, .val (.long x1), .second, .val (.long rr), .second, .val (.long bb), .second, .unset, .unset, .unset, .unset, .unset, .unset, .unset, .unset, .unset, .unset, .unset] [(.double FP.dconst0), (.double FP.dconst0), (.long bb), (.long rr), (.ref b1), (.ref b1)])) (fun _ k => XS.dconst0 X1.here hx rfl (hb hby at_30) rfl k) ?_
  refine own_st (T' := T1) (F' := (mkF m 32 #[.val (.long x0), .second, .val (.long x1), .second, .val (.long rr), .second, .val (.long bb), .second, .unset, .unset, .unset, .unset, .unset, .unset, .unset, .unset, .unset, .unset, .unset] [(.double FP.dconst0), (.double FP.dconst0), (.double FP.dconst0), (.long bb), (.long rr), (.ref b1), (.ref b1)])) (fun _ k => XS.dconst0 X1.here hx rfl (hb hby at_31) rfl k) ?_
  obtain ⟨_, _, ⟨T7, L7, k7, n7⟩, -, X7, ⟨Lc7, hQ7, l7, y7, z7⟩, st7⟩ := X1.specialBack hx (y := (⟨"com/example/slotter/slotter/engine/SimulationResult", "<init>", "(JJDDD)V"⟩ : MethodName)) rfl hown (mvT hZ (hw _ (List.mem_of_getElem? (i := 5) rfl))) (mvT hZ (hw _ (List.mem_of_getElem? (i := 6) rfl))) (mvT hZ (hw _ (List.mem_of_getElem? (i := 7) rfl))) (by decide) (backOf (W := 1) (rm1 l Z a0 hw [] b1 rr bb FP.dconst0 FP.dconst0 FP.dconst0 (.long (0 : Int64)) (.long (0 : Int64)) (.double 0) (.double 0) (.double 0) h1 n0 Zs1 ge1 A1 f2 f3 f4 f5 f6) hZ (hw _ (List.mem_of_getElem? (i := 7) rfl)) (hw _ (List.mem_of_getElem? (i := 4) rfl)) (by decide) (by decide)) (g := (mkF m 32 #[.val (.long x0), .second, .val (.long x1), .second, .val (.long rr), .second, .val (.long bb), .second, .unset, .unset, .unset, .unset, .unset, .unset, .unset, .unset, .unset, .unset, .unset] [(.double FP.dconst0), (.double FP.dconst0), (.double FP.dconst0), (.long bb), (.long rr), (.ref b1), (.ref b1)])) rfl (by rw [hml]; rfl) (Steps.refl _) (a := b1) (argsL := [(.long rr), (.long bb), (.double FP.dconst0), (.double FP.dconst0), (.double FP.dconst0)]) (rest := [(.ref b1)]) (lenOf own_pd1 rfl) rfl (by show 2 * 0 + _ ≤ _; exact Nat.le_of_eq rfl) (hb hby at_32) (fun _ _ => ⟨rfl, e1, (by decide : 1 + 0 ≤ _), (by decide : 5 + 0 ≤ _)⟩)
  dsimp only [Pt.U, Pt.locs, Pt.cells, Pt.slots] at X7 l7 y7 z7 st7 hQ7
  subst l7 y7 z7
  obtain ⟨rfl, Nq7, g7_0, g7_1, g7_2⟩ := hQ7
  have N7 := Fr.app N0 Nq7
  have f8 : Exa Z T7.heap b1 "com/example/slotter/slotter/engine/SimulationResult" := A1.keep g7_0
  have K7 : Keep h0 T7.heap [] := K1.trans g7_0 (allS (Or.inr hge1) all0)
  have Zs7 : n0 ≤ T7.heap.size := Nat.le_trans Z0 K7.1
  refine own_tr (T' := T7) (F' := (mkF m 35 #[.val (.long x0), .second, .val (.long x1), .second, .val (.long rr), .second, .val (.long bb), .second, .unset, .unset, .unset, .unset, .unset, .unset, .unset, .unset, .unset, .unset, .unset] [(.ref b1)])) st7 ?_
  obtain ⟨cq9, kq9, q9a, q9b, q9c⟩ := isOf hZ rfl f8
  obtain ⟨_, _, ⟨T9, L9, k9, n9⟩, -, X9, ⟨Lc9, hQ9, l9, y9, z9⟩, st9⟩ := X7.virtualBack hx (y := (⟨"com/example/slotter/slotter/engine/SimulationResult", "blocking", "()D"⟩ : MethodName)) (z := (⟨"com/example/slotter/slotter/engine/SimulationResult", "blocking", "()D"⟩ : MethodName)) hown (mvT hZ (hw _ (List.mem_of_getElem? (i := 26) rfl))) (mvT hZ (hw _ (List.mem_of_getElem? (i := 27) rfl))) (notFace_of_selects (args := #[]) (mvT hZ (hw _ (List.mem_of_getElem? (i := 29) rfl)))) (mvT hZ (hw _ (List.mem_of_getElem? (i := 29) rfl))) (mvT hZ (hw _ (List.mem_of_getElem? (i := 28) rfl))) (by decide) (backOf (W := 0) (rm4 l Z a0 hw [] b1 bb rr T7.heap n0 Zs7 g7_1 g7_2 (own_L0 hH)) hZ (hw _ (List.mem_of_getElem? (i := 30) rfl)) (hw _ (List.mem_of_getElem? (i := 4) rfl)) (by decide) (by decide)) q9a q9c (g := (mkF m 35 #[.val (.long x0), .second, .val (.long x1), .second, .val (.long rr), .second, .val (.long bb), .second, .unset, .unset, .unset, .unset, .unset, .unset, .unset, .unset, .unset, .unset, .unset] [(.ref b1)])) rfl (by rw [hml]; rfl) (Steps.refl _) (argsL := []) (rest := []) (lenOf own_pd2 rfl) rfl (by show 2 * 0 + _ ≤ _; exact Nat.le_of_eq rfl) (hb hby at_35) (fun _ _ => ⟨rfl, rfl, (by decide : 1 + 0 ≤ _), (by decide : 5 + 0 ≤ _)⟩)
  dsimp only [Pt.U, Pt.locs, Pt.cells, Pt.slots] at X9 l9 y9 z9 st9 hQ9
  subst l9 y9 z9
  obtain ⟨rfl, Nq9, eq9⟩ := hQ9
  have N9 := Fr.app N7 Nq9
  refine own_tr (T' := T9) (F' := (mkF m 38 #[.val (.long x0), .second, .val (.long x1), .second, .val (.long rr), .second, .val (.long bb), .second, .unset, .unset, .unset, .unset, .unset, .unset, .unset, .unset, .unset, .unset, .unset] [(.double (FP.ddiv (FP.l2d bb) (FP.l2d rr)))])) st9 ?_
  refine own_st (T' := T9) (F' := (mkF m 40 #[.val (.long x0), .second, .val (.long x1), .second, .val (.long rr), .second, .val (.long bb), .second, .val (.double (FP.ddiv (FP.l2d bb) (FP.l2d rr))), .second, .unset, .unset, .unset, .unset, .unset, .unset, .unset, .unset, .unset] [])) (fun _ k => XS.dstore X9.here hx rfl (hb hby at_38) rfl (l' := #[.val (.long x0), .second, .val (.long x1), .second, .val (.long rr), .second, .val (.long bb), .second, .val (.double (FP.ddiv (FP.l2d bb) (FP.l2d rr))), .second, .unset, .unset, .unset, .unset, .unset, .unset, .unset, .unset, .unset]) rfl k) ?_
  refine own_st (T' := T9) (F' := (mkF m 41 #[.val (.long x0), .second, .val (.long x1), .second, .val (.long rr), .second, .val (.long bb), .second, .val (.double (FP.ddiv (FP.l2d bb) (FP.l2d rr))), .second, .unset, .unset, .unset, .unset, .unset, .unset, .unset, .unset, .unset] [(.double FP.dconst0)])) (fun _ k => XS.dconst0 X9.here hx rfl (hb hby at_40) rfl k) ?_
  refine own_st (T' := T9) (F' := (mkF m 43 #[.val (.long x0), .second, .val (.long x1), .second, .val (.long rr), .second, .val (.long bb), .second, .val (.double (FP.ddiv (FP.l2d bb) (FP.l2d rr))), .second, .unset, .unset, .unset, .unset, .unset, .unset, .unset, .unset, .unset] [(.double (FP.ddiv (FP.l2d bb) (FP.l2d rr))), (.double FP.dconst0)])) (fun _ k => XS.dload X9.here hx rfl (hb hby at_41) rfl  k) ?_
  refine own_st (T' := T9) (F' := (mkF m 44 #[.val (.long x0), .second, .val (.long x1), .second, .val (.long rr), .second, .val (.long bb), .second, .val (.double (FP.ddiv (FP.l2d bb) (FP.l2d rr))), .second, .unset, .unset, .unset, .unset, .unset, .unset, .unset, .unset, .unset] [(.int (cmpValue (FP.dcmp FP.dconst0 (FP.ddiv (FP.l2d bb) (FP.l2d rr))) .g))])) (fun _ k => XS.dcmpS X9.here hx rfl (hb hby at_43) rfl rfl k) ?_
  refine own_ifc X9 hx (pc' := 58) (pc2 := 47) (hb hby at_44) (by decide) (by decide) rfl (fun (hc44 : (0 : Int32) < (cmpValue (FP.dcmp FP.dconst0 (FP.ddiv (FP.l2d bb) (FP.l2d rr))) .g)) => ?_) (fun (hc44 : ¬ ((0 : Int32) < (cmpValue (FP.dcmp FP.dconst0 (FP.ddiv (FP.l2d bb) (FP.l2d rr))) .g))) => ?_)
  ·
    exact absurd hc44 (own_L1 hH)
  ·
    refine own_st (T' := T9) (F' := (mkF m 49 #[.val (.long x0), .second, .val (.long x1), .second, .val (.long rr), .second, .val (.long bb), .second, .val (.double (FP.ddiv (FP.l2d bb) (FP.l2d rr))), .second, .unset, .unset, .unset, .unset, .unset, .unset, .unset, .unset, .unset] [(.double (FP.ddiv (FP.l2d bb) (FP.l2d rr)))])) (fun _ k => XS.dload X9.here hx rfl (hb hby at_47) rfl  k) ?_
    refine own_st (T' := T9) (F' := (mkF m 50 #[.val (.long x0), .second, .val (.long x1), .second, .val (.long rr), .second, .val (.long bb), .second, .val (.double (FP.ddiv (FP.l2d bb) (FP.l2d rr))), .second, .unset, .unset, .unset, .unset, .unset, .unset, .unset, .unset, .unset] [(.double FP.dconst1), (.double (FP.ddiv (FP.l2d bb) (FP.l2d rr)))])) (fun _ k => XS.dconst1 X9.here hx rfl (hb hby at_49) rfl k) ?_
    refine own_st (T' := T9) (F' := (mkF m 51 #[.val (.long x0), .second, .val (.long x1), .second, .val (.long rr), .second, .val (.long bb), .second, .val (.double (FP.ddiv (FP.l2d bb) (FP.l2d rr))), .second, .unset, .unset, .unset, .unset, .unset, .unset, .unset, .unset, .unset] [(.int (cmpValue (FP.dcmp (FP.ddiv (FP.l2d bb) (FP.l2d rr)) FP.dconst1) .g))])) (fun _ k => XS.dcmpS X9.here hx rfl (hb hby at_50) rfl rfl k) ?_
    refine own_ifc X9 hx (pc' := 58) (pc2 := 54) (hb hby at_51) (by decide) (by decide) rfl (fun (hc51 : (0 : Int32) < (cmpValue (FP.dcmp (FP.ddiv (FP.l2d bb) (FP.l2d rr)) FP.dconst1) .g)) => ?_) (fun (hc51 : ¬ ((0 : Int32) < (cmpValue (FP.dcmp (FP.ddiv (FP.l2d bb) (FP.l2d rr)) FP.dconst1) .g))) => ?_)
    ·
      exact absurd hc51 (own_L2 hH)
    ·
      refine own_st (T' := T9) (F' := (mkF m 55 #[.val (.long x0), .second, .val (.long x1), .second, .val (.long rr), .second, .val (.long bb), .second, .val (.double (FP.ddiv (FP.l2d bb) (FP.l2d rr))), .second, .unset, .unset, .unset, .unset, .unset, .unset, .unset, .unset, .unset] [(.int (1 : Int32))])) (fun _ k => XS.iconst X9.here hx rfl (hb hby at_54) k) ?_
      refine own_st (T' := T9) (F' := (mkF m 59 #[.val (.long x0), .second, .val (.long x1), .second, .val (.long rr), .second, .val (.long bb), .second, .val (.double (FP.ddiv (FP.l2d bb) (FP.l2d rr))), .second, .unset, .unset, .unset, .unset, .unset, .unset, .unset, .unset, .unset] [(.int (1 : Int32))])) (fun _ k => XS.goto X9.here hx rfl (pc0 := 55) (pc' := 59) rfl (hb hby at_55) (by decide) (by decide) k) ?_
      refine own_st (T' := T9) (F' := (mkF m 61 #[.val (.long x0), .second, .val (.long x1), .second, .val (.long rr), .second, .val (.long bb), .second, .val (.double (FP.ddiv (FP.l2d bb) (FP.l2d rr))), .second, .val (.int (1 : Int32)), .unset, .unset, .unset, .unset, .unset, .unset, .unset, .unset] [])) (fun _ k => XS.istore X9.here hx rfl (hb hby at_59) rfl (l' := #[.val (.long x0), .second, .val (.long x1), .second, .val (.long rr), .second, .val (.long bb), .second, .val (.double (FP.ddiv (FP.l2d bb) (FP.l2d rr))), .second, .val (.int (1 : Int32)), .unset, .unset, .unset, .unset, .unset, .unset, .unset, .unset]) rfl k) ?_
      refine own_st (T' := T9) (F' := (mkF m 63 #[.val (.long x0), .second, .val (.long x1), .second, .val (.long rr), .second, .val (.long bb), .second, .val (.double (FP.ddiv (FP.l2d bb) (FP.l2d rr))), .second, .val (.int (1 : Int32)), .unset, .unset, .unset, .unset, .unset, .unset, .unset, .unset] [(.int (1 : Int32))])) (fun _ k => XS.iload X9.here hx rfl (hb hby at_61) rfl  k) ?_
      refine own_ifc X9 hx (pc' := 97) (pc2 := 66) (hb hby at_63) (by decide) (by decide) rfl (fun (hc63 : (1 : Int32) = (0 : Int32)) => ?_) (fun (hc63 : ¬ ((1 : Int32) = (0 : Int32))) => ?_)
      · exact absurd hc63 (by decide)
      refine own_st (T' := T9) (F' := (mkF m 68 #[.val (.long x0), .second, .val (.long x1), .second, .val (.long rr), .second, .val (.long bb), .second, .val (.double (FP.ddiv (FP.l2d bb) (FP.l2d rr))), .second, .val (.int (1 : Int32)), .unset, .unset, .unset, .unset, .unset, .unset, .unset, .unset] [(.long bb)])) (fun _ k => XS.lload X9.here hx rfl (hb hby at_66) rfl  k) ?_
      refine own_st (T' := T9) (F' := (mkF m 69 #[.val (.long x0), .second, .val (.long x1), .second, .val (.long rr), .second, .val (.long bb), .second, .val (.double (FP.ddiv (FP.l2d bb) (FP.l2d rr))), .second, .val (.int (1 : Int32)), .unset, .unset, .unset, .unset, .unset, .unset, .unset, .unset] [(.long (0 : Int64)), (.long bb)])) (fun _ k => XS.lconst X9.here hx rfl (hb hby at_68) k) ?_
      refine own_st (T' := T9) (F' := (mkF m 70 #[.val (.long x0), .second, .val (.long x1), .second, .val (.long rr), .second, .val (.long bb), .second, .val (.double (FP.ddiv (FP.l2d bb) (FP.l2d rr))), .second, .val (.int (1 : Int32)), .unset, .unset, .unset, .unset, .unset, .unset, .unset, .unset] [(.int (lcmpW bb (0 : Int64)))])) (fun _ k => XS.lcmp X9.here hx rfl (hb hby at_69) rfl k) ?_
      have J100_10 : (((¬ (bb = (0 : Int64))) ∧ (¬ ((cmpValue (FP.dcmp (FP.ddiv (FP.l2d bb) (FP.l2d rr)) FP.dconst0) .l) = (0 : Int32)))) ∨ ((bb = (0 : Int64)) ∧ ((cmpValue (FP.dcmp (FP.ddiv (FP.l2d bb) (FP.l2d rr)) FP.dconst0) .l) = (0 : Int32)))) → own_Go p e below s (Q0 Z x0 x1  h0 n0) room_1.cells room_1.slots T9 (mkF m 100 #[.val (.long x0), .second, .val (.long x1), .second, .val (.long rr), .second, .val (.long bb), .second, .val (.double (FP.ddiv (FP.l2d bb) (FP.l2d rr))), .second, .val (.int (1 : Int32)), .unset, .unset, .unset, .unset, .unset, .unset, .unset, .unset] []) := by
        intro hJ100_10
        refine own_st (T' := T9) (F' := (mkF m 102 #[.val (.long x0), .second, .val (.long x1), .second, .val (.long rr), .second, .val (.long bb), .second, .val (.double (FP.ddiv (FP.l2d bb) (FP.l2d rr))), .second, .val (.int (1 : Int32)), .unset, .unset, .unset, .unset, .unset, .unset, .unset, .unset] [(.long bb)])) (fun _ k => XS.lload X9.here hx rfl (hb hby at_100) rfl  k) ?_
        refine own_st (T' := T9) (F' := (mkF m 104 #[.val (.long x0), .second, .val (.long x1), .second, .val (.long rr), .second, .val (.long bb), .second, .val (.double (FP.ddiv (FP.l2d bb) (FP.l2d rr))), .second, .val (.int (1 : Int32)), .unset, .unset, .unset, .unset, .unset, .unset, .unset, .unset] [(.long rr), (.long bb)])) (fun _ k => XS.lload X9.here hx rfl (hb hby at_102) rfl  k) ?_
        refine own_st (T' := T9) (F' := (mkF m 105 #[.val (.long x0), .second, .val (.long x1), .second, .val (.long rr), .second, .val (.long bb), .second, .val (.double (FP.ddiv (FP.l2d bb) (FP.l2d rr))), .second, .val (.int (1 : Int32)), .unset, .unset, .unset, .unset, .unset, .unset, .unset, .unset] [(.int (lcmpW bb rr))])) (fun _ k => XS.lcmp X9.here hx rfl (hb hby at_104) rfl k) ?_
        have J127_11 : (((¬ (bb = rr))) ∨ ((bb = rr) ∧ ((cmpValue (FP.dcmp (FP.ddiv (FP.l2d bb) (FP.l2d rr)) FP.dconst1) .l) = (0 : Int32)))) → own_Go p e below s (Q0 Z x0 x1  h0 n0) room_1.cells room_1.slots T9 (mkF m 127 #[.val (.long x0), .second, .val (.long x1), .second, .val (.long rr), .second, .val (.long bb), .second, .val (.double (FP.ddiv (FP.l2d bb) (FP.l2d rr))), .second, .val (.int (1 : Int32)), .unset, .unset, .unset, .unset, .unset, .unset, .unset, .unset] []) := by
          intro hJ127_11
          obtain ⟨T12, h12, X12, e12, E12, A12, D12, -, st12⟩ := newO X9 hx hZ hown (hw _ (List.mem_of_getElem? (i := 2) rfl)) (hw _ (List.mem_of_getElem? (i := 3) rfl)) (hw _ (List.mem_of_getElem? (i := 4) rfl)) eq9 (g := (mkF m 127 #[.val (.long x0), .second, .val (.long x1), .second, .val (.long rr), .second, .val (.long bb), .second, .val (.double (FP.ddiv (FP.l2d bb) (FP.l2d rr))), .second, .val (.int (1 : Int32)), .unset, .unset, .unset, .unset, .unset, .unset, .unset, .unset] [])) rfl (hb hby at_127) (by decide) (by decide)
          obtain ⟨b12, g12⟩ : ∃ z, z = T7.heap.size := ⟨_, rfl⟩
          rw [← g12] at A12 D12 st12
          have ge12 : n0 ≤ b12 := by rw [g12]; exact Zs7
          have hge12 : h0.size ≤ b12 := by rw [g12]; exact K7.1
          have ne12_1 : b1 ≠ b12 := by rw [g12]; exact Nat.ne_of_lt f8.lt
          have f13 : Exa Z h12 b1 "com/example/slotter/slotter/engine/SimulationResult" := f8.ext E12
          have f14 : Fld Z h12 b1 "com/example/slotter/slotter/engine/SimulationResult" "requests" "J" (.long rr) := g7_1.ext E12
          have f15 : Fld Z h12 b1 "com/example/slotter/slotter/engine/SimulationResult" "blocked" "J" (.long bb) := g7_2.ext E12
          have K12 : Keep h0 h12 [] := K7.ext E12
          have Zs12 : n0 ≤ h12.size := Nat.le_trans Z0 K12.1
          have f16 : Fld Z h12 b12 "com/example/slotter/slotter/engine/SimulationResult" "requests" "J" (.long (0 : Int64)) := D12 (Or.inr (hw _ (List.mem_of_getElem? (i := 17) rfl))) (ty := .long) (by decide)
          have f17 : Fld Z h12 b12 "com/example/slotter/slotter/engine/SimulationResult" "blocked" "J" (.long (0 : Int64)) := D12 (Or.inr (hw _ (List.mem_of_getElem? (i := 19) rfl))) (ty := .long) (by decide)
          have f18 : Fld Z h12 b12 "com/example/slotter/slotter/engine/SimulationResult" "ci95HalfWidth" "D" (.double 0) := D12 (Or.inr (hw _ (List.mem_of_getElem? (i := 21) rfl))) (ty := .double) (by decide)
          have f19 : Fld Z h12 b12 "com/example/slotter/slotter/engine/SimulationResult" "meanHops" "D" (.double 0) := D12 (Or.inr (hw _ (List.mem_of_getElem? (i := 23) rfl))) (ty := .double) (by decide)
          have f20 : Fld Z h12 b12 "com/example/slotter/slotter/engine/SimulationResult" "meanKm" "D" (.double 0) := D12 (Or.inr (hw _ (List.mem_of_getElem? (i := 25) rfl))) (ty := .double) (by decide)
          refine own_st (T' := T12) (F' := (mkF m 130 #[.val (.long x0), .second, .val (.long x1), .second, .val (.long rr), .second, .val (.long bb), .second, .val (.double (FP.ddiv (FP.l2d bb) (FP.l2d rr))), .second, .val (.int (1 : Int32)), .unset, .unset, .unset, .unset, .unset, .unset, .unset, .unset] [(.ref b12)])) (fun _ k => st12 _ k) ?_
          refine own_st (T' := T12) (F' := (mkF m 131 #[.val (.long x0), .second, .val (.long x1), .second, .val (.long rr), .second, .val (.long bb), .second, .val (.double (FP.ddiv (FP.l2d bb) (FP.l2d rr))), .second, .val (.int (1 : Int32)), .unset, .unset, .unset, .unset, .unset, .unset, .unset, .unset] [(.ref b12), (.ref b12)])) (fun _ k => XS.dup X12.here hx rfl (hb hby at_130) rfl rfl k) ?_
          refine own_st (T' := T12) (F' := (mkF m 134 #[.val (.long x0), .second, .val (.long x1), .second, .val (.long rr), .second, .val (.long bb), .second, .val (.double (FP.ddiv (FP.l2d bb) (FP.l2d rr))), .second, .val (.int (1 : Int32)), .unset, .unset, .unset, .unset, .unset, .unset, .unset, .unset] [(.long (2 : Int64)), (.ref b12), (.ref b12)])) (fun _ k => X12.ldc2Long hx hown (mvT hZ (hw _ (List.mem_of_getElem? (i := 31) rfl))) (g := (mkF m 131 #[.val (.long x0), .second, .val (.long x1), .second, .val (.long rr), .second, .val (.long bb), .second, .val (.double (FP.ddiv (FP.l2d bb) (FP.l2d rr))), .second, .val (.int (1 : Int32)), .unset, .unset, .unset, .unset, .unset, .unset, .unset, .unset] [(.ref b12), (.ref b12)])) rfl (hb hby at_131) _ k) ?_
          refine own_st (T' := T12) (F' := (mkF m 136 #[.val (.long x0), .second, .val (.long x1), .second, .val (.long rr), .second, .val (.long bb), .second, .val (.double (FP.ddiv (FP.l2d bb) (FP.l2d rr))), .second, .val (.int (1 : Int32)), .unset, .unset, .unset, .unset, .unset, .unset, .unset, .unset] [(.long rr), (.long (2 : Int64)), (.ref b12), (.ref b12)])) (fun _ k => XS.lload X12.here hx rfl (hb hby at_134) rfl  k) ?_
          refine own_st (T' := T12) (F' := (mkF m 137 #[.val (.long x0), .second, .val (.long x1), .second, .val (.long rr), .second, .val (.long bb), .second, .val (.double (FP.ddiv (FP.l2d bb) (FP.l2d rr))), .second, .val (.int (1 : Int32)), .unset, .unset, .unset, .unset, .unset, .unset, .unset, .unset] [(.long ((2 : Int64) * rr)), (.ref b12), (.ref b12)])) (fun _ k => XS.lmul X12.here hx rfl (hb hby at_136) rfl k) ?_
          refine own_st (T' := T12) (F' := (mkF m 140 #[.val (.long x0), .second, .val (.long x1), .second, .val (.long rr), .second, .val (.long bb), .second, .val (.double (FP.ddiv (FP.l2d bb) (FP.l2d rr))), .second, .val (.int (1 : Int32)), .unset, .unset, .unset, .unset, .unset, .unset, .unset, .unset] [(.long (2 : Int64)), (.long ((2 : Int64) * rr)), (.ref b12), (.ref b12)])) (fun _ k => X12.ldc2Long hx hown (mvT hZ (hw _ (List.mem_of_getElem? (i := 31) rfl))) (g := (mkF m 137 #[.val (.long x0), .second, .val (.long x1), .second, .val (.long rr), .second, .val (.long bb), .second, .val (.double (FP.ddiv (FP.l2d bb) (FP.l2d rr))), .second, .val (.int (1 : Int32)), .unset, .unset, .unset, .unset, .unset, .unset, .unset, .unset] [(.long ((2 : Int64) * rr)), (.ref b12), (.ref b12)])) rfl (hb hby at_137) _ k) ?_
          refine own_st (T' := T12) (F' := (mkF m 142 #[.val (.long x0), .second, .val (.long x1), .second, .val (.long rr), .second, .val (.long bb), .second, .val (.double (FP.ddiv (FP.l2d bb) (FP.l2d rr))), .second, .val (.int (1 : Int32)), .unset, .unset, .unset, .unset, .unset, .unset, .unset, .unset] [(.long bb), (.long (2 : Int64)), (.long ((2 : Int64) * rr)), (.ref b12), (.ref b12)])) (fun _ k => XS.lload X12.here hx rfl (hb hby at_140) rfl  k) ?_
          refine own_st (T' := T12) (F' := (mkF m 143 #[.val (.long x0), .second, .val (.long x1), .second, .val (.long rr), .second, .val (.long bb), .second, .val (.double (FP.ddiv (FP.l2d bb) (FP.l2d rr))), .second, .val (.int (1 : Int32)), .unset, .unset, .unset, .unset, .unset, .unset, .unset, .unset] [(.long ((2 : Int64) * bb)), (.long ((2 : Int64) * rr)), (.ref b12), (.ref b12)])) (fun _ k => XS.lmul X12.here hx rfl (hb hby at_142) rfl k) ?_
          refine own_st (T' := T12) (F' := (mkF m 144 #[.val (.long x0), .second, .val (.long x1), .second, .val (.long rr), .second, .val (.long bb), .second, .val (.double (FP.ddiv (FP.l2d bb) (FP.l2d rr))), .second, .val (.int (1 : Int32)), .unset, .unset, .unset, .unset, .unset, .unset, .unset, .unset] [(.double FP.dconst0), (.long ((2 : Int64) * bb)), (.long ((2 : Int64) * rr)), (.ref b12), (.ref b12)])) (fun _ k => XS.dconst0 X12.here hx rfl (hb hby at_143) rfl k) ?_
          refine own_st (T' := T12) (F' := (mkF m 145 #[.val (.long x0), .second, .val (.long x1), .second, .val (.long rr), .second, .val (.long bb), .second, .val (.double (FP.ddiv (FP.l2d bb) (FP.l2d rr))), .second, .val (.int (1 : Int32)), .unset, .unset, .unset, .unset, .unset, .unset, .unset, .unset] [(.double FP.dconst0), (.double FP.dconst0), (.long ((2 : Int64) * bb)), (.long ((2 : Int64) * rr)), (.ref b12), (.ref b12)])) (fun _ k => XS.dconst0 X12.here hx rfl (hb hby at_144) rfl k) ?_
          refine own_st (T' := T12) (F' := (mkF m 146 #[.val (.long x0), .second, .val (.long x1), .second, .val (.long rr), .second, .val (.long bb), .second, .val (.double (FP.ddiv (FP.l2d bb) (FP.l2d rr))), .second, .val (.int (1 : Int32)), .unset, .unset, .unset, .unset, .unset, .unset, .unset, .unset] [(.double FP.dconst0), (.double FP.dconst0), (.double FP.dconst0), (.long ((2 : Int64) * bb)), (.long ((2 : Int64) * rr)), (.ref b12), (.ref b12)])) (fun _ k => XS.dconst0 X12.here hx rfl (hb hby at_145) rfl k) ?_
          obtain ⟨_, _, ⟨T21, L21, k21, n21⟩, -, X21, ⟨Lc21, hQ21, l21, y21, z21⟩, st21⟩ := X12.specialBack hx (y := (⟨"com/example/slotter/slotter/engine/SimulationResult", "<init>", "(JJDDD)V"⟩ : MethodName)) rfl hown (mvT hZ (hw _ (List.mem_of_getElem? (i := 5) rfl))) (mvT hZ (hw _ (List.mem_of_getElem? (i := 6) rfl))) (mvT hZ (hw _ (List.mem_of_getElem? (i := 7) rfl))) (by decide) (backOf (W := 1) (rm1 l Z a0 hw [] b12 ((2 : Int64) * rr) ((2 : Int64) * bb) FP.dconst0 FP.dconst0 FP.dconst0 (.long (0 : Int64)) (.long (0 : Int64)) (.double 0) (.double 0) (.double 0) h12 n0 Zs12 ge12 A12 f16 f17 f18 f19 f20) hZ (hw _ (List.mem_of_getElem? (i := 7) rfl)) (hw _ (List.mem_of_getElem? (i := 4) rfl)) (by decide) (by decide)) (g := (mkF m 146 #[.val (.long x0), .second, .val (.long x1), .second, .val (.long rr), .second, .val (.long bb), .second, .val (.double (FP.ddiv (FP.l2d bb) (FP.l2d rr))), .second, .val (.int (1 : Int32)), .unset, .unset, .unset, .unset, .unset, .unset, .unset, .unset] [(.double FP.dconst0), (.double FP.dconst0), (.double FP.dconst0), (.long ((2 : Int64) * bb)), (.long ((2 : Int64) * rr)), (.ref b12), (.ref b12)])) rfl (by rw [hml]; rfl) (Steps.refl _) (a := b12) (argsL := [(.long ((2 : Int64) * rr)), (.long ((2 : Int64) * bb)), (.double FP.dconst0), (.double FP.dconst0), (.double FP.dconst0)]) (rest := [(.ref b12)]) (lenOf own_pd1 rfl) rfl (by show 2 * 0 + _ ≤ _; exact Nat.le_of_eq rfl) (hb hby at_146) (fun _ _ => ⟨rfl, e12, (by decide : 2 + 0 ≤ _), (by decide : 10 + 0 ≤ _)⟩)
          dsimp only [Pt.U, Pt.locs, Pt.cells, Pt.slots] at X21 l21 y21 z21 st21 hQ21
          subst l21 y21 z21
          obtain ⟨rfl, Nq21, g21_0, g21_1, g21_2⟩ := hQ21
          have N21 := Fr.app N9 Nq21
          have f22 : Exa Z T21.heap b1 "com/example/slotter/slotter/engine/SimulationResult" := f13.keep g21_0
          have f23 : Fld Z T21.heap b1 "com/example/slotter/slotter/engine/SimulationResult" "requests" "J" (.long rr) := f14.keep g21_0 (ninS ne12_1 nin0)
          have f24 : Fld Z T21.heap b1 "com/example/slotter/slotter/engine/SimulationResult" "blocked" "J" (.long bb) := f15.keep g21_0 (ninS ne12_1 nin0)
          have f25 : Exa Z T21.heap b12 "com/example/slotter/slotter/engine/SimulationResult" := A12.keep g21_0
          have K21 : Keep h0 T21.heap [] := K12.trans g21_0 (allS (Or.inr hge12) all0)
          have Zs21 : n0 ≤ T21.heap.size := Nat.le_trans Z0 K21.1
          refine own_tr (T' := T21) (F' := (mkF m 149 #[.val (.long x0), .second, .val (.long x1), .second, .val (.long rr), .second, .val (.long bb), .second, .val (.double (FP.ddiv (FP.l2d bb) (FP.l2d rr))), .second, .val (.int (1 : Int32)), .unset, .unset, .unset, .unset, .unset, .unset, .unset, .unset] [(.ref b12)])) st21 ?_
          obtain ⟨cq26, kq26, q26a, q26b, q26c⟩ := isOf hZ rfl f25
          obtain ⟨_, _, ⟨T26, L26, k26, n26⟩, -, X26, ⟨Lc26, hQ26, l26, y26, z26⟩, st26⟩ := X21.virtualBack hx (y := (⟨"com/example/slotter/slotter/engine/SimulationResult", "blocking", "()D"⟩ : MethodName)) (z := (⟨"com/example/slotter/slotter/engine/SimulationResult", "blocking", "()D"⟩ : MethodName)) hown (mvT hZ (hw _ (List.mem_of_getElem? (i := 26) rfl))) (mvT hZ (hw _ (List.mem_of_getElem? (i := 27) rfl))) (notFace_of_selects (args := #[]) (mvT hZ (hw _ (List.mem_of_getElem? (i := 29) rfl)))) (mvT hZ (hw _ (List.mem_of_getElem? (i := 29) rfl))) (mvT hZ (hw _ (List.mem_of_getElem? (i := 28) rfl))) (by decide) (backOf (W := 0) (rm4 l Z a0 hw [] b12 ((2 : Int64) * bb) ((2 : Int64) * rr) T21.heap n0 Zs21 g21_1 g21_2 (own_L6n hH)) hZ (hw _ (List.mem_of_getElem? (i := 30) rfl)) (hw _ (List.mem_of_getElem? (i := 4) rfl)) (by decide) (by decide)) q26a q26c (g := (mkF m 149 #[.val (.long x0), .second, .val (.long x1), .second, .val (.long rr), .second, .val (.long bb), .second, .val (.double (FP.ddiv (FP.l2d bb) (FP.l2d rr))), .second, .val (.int (1 : Int32)), .unset, .unset, .unset, .unset, .unset, .unset, .unset, .unset] [(.ref b12)])) rfl (by rw [hml]; rfl) (Steps.refl _) (argsL := []) (rest := []) (lenOf own_pd2 rfl) rfl (by show 2 * 0 + _ ≤ _; exact Nat.le_of_eq rfl) (hb hby at_149) (fun _ _ => ⟨rfl, rfl, (by decide : 2 + 0 ≤ _), (by decide : 10 + 0 ≤ _)⟩)
          dsimp only [Pt.U, Pt.locs, Pt.cells, Pt.slots] at X26 l26 y26 z26 st26 hQ26
          subst l26 y26 z26
          obtain ⟨rfl, Nq26, eq26⟩ := hQ26
          have N26 := Fr.app N21 Nq26
          refine own_tr (T' := T26) (F' := (mkF m 152 #[.val (.long x0), .second, .val (.long x1), .second, .val (.long rr), .second, .val (.long bb), .second, .val (.double (FP.ddiv (FP.l2d bb) (FP.l2d rr))), .second, .val (.int (1 : Int32)), .unset, .unset, .unset, .unset, .unset, .unset, .unset, .unset] [(.double (FP.ddiv (FP.l2d ((2 : Int64) * bb)) (FP.l2d ((2 : Int64) * rr))))])) st26 ?_
          refine own_st (T' := T26) (F' := (mkF m 154 #[.val (.long x0), .second, .val (.long x1), .second, .val (.long rr), .second, .val (.long bb), .second, .val (.double (FP.ddiv (FP.l2d bb) (FP.l2d rr))), .second, .val (.int (1 : Int32)), .val (.double (FP.ddiv (FP.l2d ((2 : Int64) * bb)) (FP.l2d ((2 : Int64) * rr)))), .second, .unset, .unset, .unset, .unset, .unset, .unset] [])) (fun _ k => XS.dstore X26.here hx rfl (hb hby at_152) rfl (l' := #[.val (.long x0), .second, .val (.long x1), .second, .val (.long rr), .second, .val (.long bb), .second, .val (.double (FP.ddiv (FP.l2d bb) (FP.l2d rr))), .second, .val (.int (1 : Int32)), .val (.double (FP.ddiv (FP.l2d ((2 : Int64) * bb)) (FP.l2d ((2 : Int64) * rr)))), .second, .unset, .unset, .unset, .unset, .unset, .unset]) rfl k) ?_
          refine own_st (T' := T26) (F' := (mkF m 156 #[.val (.long x0), .second, .val (.long x1), .second, .val (.long rr), .second, .val (.long bb), .second, .val (.double (FP.ddiv (FP.l2d bb) (FP.l2d rr))), .second, .val (.int (1 : Int32)), .val (.double (FP.ddiv (FP.l2d ((2 : Int64) * bb)) (FP.l2d ((2 : Int64) * rr)))), .second, .unset, .unset, .unset, .unset, .unset, .unset] [(.int (1 : Int32))])) (fun _ k => XS.iload X26.here hx rfl (hb hby at_154) rfl  k) ?_
          refine own_ifc X26 hx (pc' := 171) (pc2 := 159) (hb hby at_156) (by decide) (by decide) rfl (fun (hc156 : (1 : Int32) = (0 : Int32)) => ?_) (fun (hc156 : ¬ ((1 : Int32) = (0 : Int32))) => ?_)
          · exact absurd hc156 (by decide)
          refine own_st (T' := T26) (F' := (mkF m 161 #[.val (.long x0), .second, .val (.long x1), .second, .val (.long rr), .second, .val (.long bb), .second, .val (.double (FP.ddiv (FP.l2d bb) (FP.l2d rr))), .second, .val (.int (1 : Int32)), .val (.double (FP.ddiv (FP.l2d ((2 : Int64) * bb)) (FP.l2d ((2 : Int64) * rr)))), .second, .unset, .unset, .unset, .unset, .unset, .unset] [(.double (FP.ddiv (FP.l2d ((2 : Int64) * bb)) (FP.l2d ((2 : Int64) * rr))))])) (fun _ k => XS.dload X26.here hx rfl (hb hby at_159) rfl  k) ?_
          refine own_st (T' := T26) (F' := (mkF m 163 #[.val (.long x0), .second, .val (.long x1), .second, .val (.long rr), .second, .val (.long bb), .second, .val (.double (FP.ddiv (FP.l2d bb) (FP.l2d rr))), .second, .val (.int (1 : Int32)), .val (.double (FP.ddiv (FP.l2d ((2 : Int64) * bb)) (FP.l2d ((2 : Int64) * rr)))), .second, .unset, .unset, .unset, .unset, .unset, .unset] [(.double (FP.ddiv (FP.l2d bb) (FP.l2d rr))), (.double (FP.ddiv (FP.l2d ((2 : Int64) * bb)) (FP.l2d ((2 : Int64) * rr))))])) (fun _ k => XS.dload X26.here hx rfl (hb hby at_161) rfl  k) ?_
          refine own_st (T' := T26) (F' := (mkF m 164 #[.val (.long x0), .second, .val (.long x1), .second, .val (.long rr), .second, .val (.long bb), .second, .val (.double (FP.ddiv (FP.l2d bb) (FP.l2d rr))), .second, .val (.int (1 : Int32)), .val (.double (FP.ddiv (FP.l2d ((2 : Int64) * bb)) (FP.l2d ((2 : Int64) * rr)))), .second, .unset, .unset, .unset, .unset, .unset, .unset] [(.int (cmpValue (FP.dcmp (FP.ddiv (FP.l2d ((2 : Int64) * bb)) (FP.l2d ((2 : Int64) * rr))) (FP.ddiv (FP.l2d bb) (FP.l2d rr))) .l))])) (fun _ k => XS.dcmpS X26.here hx rfl (hb hby at_163) rfl rfl k) ?_
          refine own_ifc X26 hx (pc' := 171) (pc2 := 167) (hb hby at_164) (by decide) (by decide) rfl (fun (hc164 : ¬ ((cmpValue (FP.dcmp (FP.ddiv (FP.l2d ((2 : Int64) * bb)) (FP.l2d ((2 : Int64) * rr))) (FP.ddiv (FP.l2d bb) (FP.l2d rr))) .l) = (0 : Int32))) => ?_) (fun (hc164 : (cmpValue (FP.dcmp (FP.ddiv (FP.l2d ((2 : Int64) * bb)) (FP.l2d ((2 : Int64) * rr))) (FP.ddiv (FP.l2d bb) (FP.l2d rr))) .l) = (0 : Int32)) => ?_)
          ·
            exact absurd (own_L6 hH) hc164
          ·
            refine own_st (T' := T26) (F' := (mkF m 168 #[.val (.long x0), .second, .val (.long x1), .second, .val (.long rr), .second, .val (.long bb), .second, .val (.double (FP.ddiv (FP.l2d bb) (FP.l2d rr))), .second, .val (.int (1 : Int32)), .val (.double (FP.ddiv (FP.l2d ((2 : Int64) * bb)) (FP.l2d ((2 : Int64) * rr)))), .second, .unset, .unset, .unset, .unset, .unset, .unset] [(.int (1 : Int32))])) (fun _ k => XS.iconst X26.here hx rfl (hb hby at_167) k) ?_
            refine own_st (T' := T26) (F' := (mkF m 172 #[.val (.long x0), .second, .val (.long x1), .second, .val (.long rr), .second, .val (.long bb), .second, .val (.double (FP.ddiv (FP.l2d bb) (FP.l2d rr))), .second, .val (.int (1 : Int32)), .val (.double (FP.ddiv (FP.l2d ((2 : Int64) * bb)) (FP.l2d ((2 : Int64) * rr)))), .second, .unset, .unset, .unset, .unset, .unset, .unset] [(.int (1 : Int32))])) (fun _ k => XS.goto X26.here hx rfl (pc0 := 168) (pc' := 172) rfl (hb hby at_168) (by decide) (by decide) k) ?_
            refine own_st (T' := T26) (F' := (mkF m 174 #[.val (.long x0), .second, .val (.long x1), .second, .val (.long rr), .second, .val (.long bb), .second, .val (.double (FP.ddiv (FP.l2d bb) (FP.l2d rr))), .second, .val (.int (1 : Int32)), .val (.double (FP.ddiv (FP.l2d ((2 : Int64) * bb)) (FP.l2d ((2 : Int64) * rr)))), .second, .unset, .unset, .unset, .unset, .unset, .unset] [])) (fun _ k => XS.istore X26.here hx rfl (hb hby at_172) rfl (l' := #[.val (.long x0), .second, .val (.long x1), .second, .val (.long rr), .second, .val (.long bb), .second, .val (.double (FP.ddiv (FP.l2d bb) (FP.l2d rr))), .second, .val (.int (1 : Int32)), .val (.double (FP.ddiv (FP.l2d ((2 : Int64) * bb)) (FP.l2d ((2 : Int64) * rr)))), .second, .unset, .unset, .unset, .unset, .unset, .unset]) rfl k) ?_
            refine own_st (T' := T26) (F' := (mkF m 176 #[.val (.long x0), .second, .val (.long x1), .second, .val (.long rr), .second, .val (.long bb), .second, .val (.double (FP.ddiv (FP.l2d bb) (FP.l2d rr))), .second, .val (.int (1 : Int32)), .val (.double (FP.ddiv (FP.l2d ((2 : Int64) * bb)) (FP.l2d ((2 : Int64) * rr)))), .second, .unset, .unset, .unset, .unset, .unset, .unset] [(.long bb)])) (fun _ k => XS.lload X26.here hx rfl (hb hby at_174) rfl  k) ?_
            refine own_st (T' := T26) (F' := (mkF m 178 #[.val (.long x0), .second, .val (.long x1), .second, .val (.long rr), .second, .val (.long bb), .second, .val (.double (FP.ddiv (FP.l2d bb) (FP.l2d rr))), .second, .val (.int (1 : Int32)), .val (.double (FP.ddiv (FP.l2d ((2 : Int64) * bb)) (FP.l2d ((2 : Int64) * rr)))), .second, .unset, .unset, .unset, .unset, .unset, .unset] [(.long rr), (.long bb)])) (fun _ k => XS.lload X26.here hx rfl (hb hby at_176) rfl  k) ?_
            refine own_st (T' := T26) (F' := (mkF m 179 #[.val (.long x0), .second, .val (.long x1), .second, .val (.long rr), .second, .val (.long bb), .second, .val (.double (FP.ddiv (FP.l2d bb) (FP.l2d rr))), .second, .val (.int (1 : Int32)), .val (.double (FP.ddiv (FP.l2d ((2 : Int64) * bb)) (FP.l2d ((2 : Int64) * rr)))), .second, .unset, .unset, .unset, .unset, .unset, .unset] [(.int (lcmpW bb rr))])) (fun _ k => XS.lcmp X26.here hx rfl (hb hby at_178) rfl k) ?_
            have J191_27 : ∀ (j191_1 : Int64), (((¬ (bb < rr)) ∧ j191_1 = bb) ∨ ((bb < rr) ∧ j191_1 = (bb + (1 : Int64)))) → own_Go p e below s (Q0 Z x0 x1  h0 n0) room_1.cells room_1.slots T26 (mkF m 191 #[.val (.long x0), .second, .val (.long x1), .second, .val (.long rr), .second, .val (.long bb), .second, .val (.double (FP.ddiv (FP.l2d bb) (FP.l2d rr))), .second, .val (.int (1 : Int32)), .val (.double (FP.ddiv (FP.l2d ((2 : Int64) * bb)) (FP.l2d ((2 : Int64) * rr)))), .second, .unset, .unset, .unset, .unset, .unset, .unset] [(.long j191_1)]) := by
              intro j191_1 hJ191_27
              obtain ⟨hHd, hbd⟩ := own_Hs hH (Or.symm hJ191_27)
              refine own_st (T' := T26) (F' := (mkF m 193 #[.val (.long x0), .second, .val (.long x1), .second, .val (.long rr), .second, .val (.long bb), .second, .val (.double (FP.ddiv (FP.l2d bb) (FP.l2d rr))), .second, .val (.int (1 : Int32)), .val (.double (FP.ddiv (FP.l2d ((2 : Int64) * bb)) (FP.l2d ((2 : Int64) * rr)))), .second, .val (.long j191_1), .second, .unset, .unset, .unset, .unset] [])) (fun _ k => XS.lstore X26.here hx rfl (hb hby at_191) rfl (l' := #[.val (.long x0), .second, .val (.long x1), .second, .val (.long rr), .second, .val (.long bb), .second, .val (.double (FP.ddiv (FP.l2d bb) (FP.l2d rr))), .second, .val (.int (1 : Int32)), .val (.double (FP.ddiv (FP.l2d ((2 : Int64) * bb)) (FP.l2d ((2 : Int64) * rr)))), .second, .val (.long j191_1), .second, .unset, .unset, .unset, .unset]) rfl k) ?_
              obtain ⟨T28, h28, X28, e28, E28, A28, D28, -, st28⟩ := newO X26 hx hZ hown (hw _ (List.mem_of_getElem? (i := 2) rfl)) (hw _ (List.mem_of_getElem? (i := 3) rfl)) (hw _ (List.mem_of_getElem? (i := 4) rfl)) eq26 (g := (mkF m 193 #[.val (.long x0), .second, .val (.long x1), .second, .val (.long rr), .second, .val (.long bb), .second, .val (.double (FP.ddiv (FP.l2d bb) (FP.l2d rr))), .second, .val (.int (1 : Int32)), .val (.double (FP.ddiv (FP.l2d ((2 : Int64) * bb)) (FP.l2d ((2 : Int64) * rr)))), .second, .val (.long j191_1), .second, .unset, .unset, .unset, .unset] [])) rfl (hb hby at_193) (by decide) (by decide)
              obtain ⟨b28, g28⟩ : ∃ z, z = T21.heap.size := ⟨_, rfl⟩
              rw [← g28] at A28 D28 st28
              have ge28 : n0 ≤ b28 := by rw [g28]; exact Zs21
              have hge28 : h0.size ≤ b28 := by rw [g28]; exact K21.1
              have ne28_1 : b1 ≠ b28 := by rw [g28]; exact Nat.ne_of_lt f22.lt
              have ne28_2 : b12 ≠ b28 := by rw [g28]; exact Nat.ne_of_lt f25.lt
              have f29 : Exa Z h28 b1 "com/example/slotter/slotter/engine/SimulationResult" := f22.ext E28
              have f30 : Fld Z h28 b1 "com/example/slotter/slotter/engine/SimulationResult" "requests" "J" (.long rr) := f23.ext E28
              have f31 : Fld Z h28 b1 "com/example/slotter/slotter/engine/SimulationResult" "blocked" "J" (.long bb) := f24.ext E28
              have f32 : Exa Z h28 b12 "com/example/slotter/slotter/engine/SimulationResult" := f25.ext E28
              have f33 : Fld Z h28 b12 "com/example/slotter/slotter/engine/SimulationResult" "requests" "J" (.long ((2 : Int64) * rr)) := g21_1.ext E28
              have f34 : Fld Z h28 b12 "com/example/slotter/slotter/engine/SimulationResult" "blocked" "J" (.long ((2 : Int64) * bb)) := g21_2.ext E28
              have K28 : Keep h0 h28 [] := K21.ext E28
              have Zs28 : n0 ≤ h28.size := Nat.le_trans Z0 K28.1
              have f35 : Fld Z h28 b28 "com/example/slotter/slotter/engine/SimulationResult" "requests" "J" (.long (0 : Int64)) := D28 (Or.inr (hw _ (List.mem_of_getElem? (i := 17) rfl))) (ty := .long) (by decide)
              have f36 : Fld Z h28 b28 "com/example/slotter/slotter/engine/SimulationResult" "blocked" "J" (.long (0 : Int64)) := D28 (Or.inr (hw _ (List.mem_of_getElem? (i := 19) rfl))) (ty := .long) (by decide)
              have f37 : Fld Z h28 b28 "com/example/slotter/slotter/engine/SimulationResult" "ci95HalfWidth" "D" (.double 0) := D28 (Or.inr (hw _ (List.mem_of_getElem? (i := 21) rfl))) (ty := .double) (by decide)
              have f38 : Fld Z h28 b28 "com/example/slotter/slotter/engine/SimulationResult" "meanHops" "D" (.double 0) := D28 (Or.inr (hw _ (List.mem_of_getElem? (i := 23) rfl))) (ty := .double) (by decide)
              have f39 : Fld Z h28 b28 "com/example/slotter/slotter/engine/SimulationResult" "meanKm" "D" (.double 0) := D28 (Or.inr (hw _ (List.mem_of_getElem? (i := 25) rfl))) (ty := .double) (by decide)
              refine own_st (T' := T28) (F' := (mkF m 196 #[.val (.long x0), .second, .val (.long x1), .second, .val (.long rr), .second, .val (.long bb), .second, .val (.double (FP.ddiv (FP.l2d bb) (FP.l2d rr))), .second, .val (.int (1 : Int32)), .val (.double (FP.ddiv (FP.l2d ((2 : Int64) * bb)) (FP.l2d ((2 : Int64) * rr)))), .second, .val (.long j191_1), .second, .unset, .unset, .unset, .unset] [(.ref b28)])) (fun _ k => st28 _ k) ?_
              refine own_st (T' := T28) (F' := (mkF m 197 #[.val (.long x0), .second, .val (.long x1), .second, .val (.long rr), .second, .val (.long bb), .second, .val (.double (FP.ddiv (FP.l2d bb) (FP.l2d rr))), .second, .val (.int (1 : Int32)), .val (.double (FP.ddiv (FP.l2d ((2 : Int64) * bb)) (FP.l2d ((2 : Int64) * rr)))), .second, .val (.long j191_1), .second, .unset, .unset, .unset, .unset] [(.ref b28), (.ref b28)])) (fun _ k => XS.dup X28.here hx rfl (hb hby at_196) rfl rfl k) ?_
              refine own_st (T' := T28) (F' := (mkF m 199 #[.val (.long x0), .second, .val (.long x1), .second, .val (.long rr), .second, .val (.long bb), .second, .val (.double (FP.ddiv (FP.l2d bb) (FP.l2d rr))), .second, .val (.int (1 : Int32)), .val (.double (FP.ddiv (FP.l2d ((2 : Int64) * bb)) (FP.l2d ((2 : Int64) * rr)))), .second, .val (.long j191_1), .second, .unset, .unset, .unset, .unset] [(.long rr), (.ref b28), (.ref b28)])) (fun _ k => XS.lload X28.here hx rfl (hb hby at_197) rfl  k) ?_
              refine own_st (T' := T28) (F' := (mkF m 201 #[.val (.long x0), .second, .val (.long x1), .second, .val (.long rr), .second, .val (.long bb), .second, .val (.double (FP.ddiv (FP.l2d bb) (FP.l2d rr))), .second, .val (.int (1 : Int32)), .val (.double (FP.ddiv (FP.l2d ((2 : Int64) * bb)) (FP.l2d ((2 : Int64) * rr)))), .second, .val (.long j191_1), .second, .unset, .unset, .unset, .unset] [(.long j191_1), (.long rr), (.ref b28), (.ref b28)])) (fun _ k => XS.lload X28.here hx rfl (hb hby at_199) rfl  k) ?_
              refine own_st (T' := T28) (F' := (mkF m 202 #[.val (.long x0), .second, .val (.long x1), .second, .val (.long rr), .second, .val (.long bb), .second, .val (.double (FP.ddiv (FP.l2d bb) (FP.l2d rr))), .second, .val (.int (1 : Int32)), .val (.double (FP.ddiv (FP.l2d ((2 : Int64) * bb)) (FP.l2d ((2 : Int64) * rr)))), .second, .val (.long j191_1), .second, .unset, .unset, .unset, .unset] [(.double FP.dconst0), (.long j191_1), (.long rr), (.ref b28), (.ref b28)])) (fun _ k => XS.dconst0 X28.here hx rfl (hb hby at_201) rfl k) ?_
              refine own_st (T' := T28) (F' := (mkF m 203 #[.val (.long x0), .second, .val (.long x1), .second, .val (.long rr), .second, .val (.long bb), .second, .val (.double (FP.ddiv (FP.l2d bb) (FP.l2d rr))), .second, .val (.int (1 : Int32)), .val (.double (FP.ddiv (FP.l2d ((2 : Int64) * bb)) (FP.l2d ((2 : Int64) * rr)))), .second, .val (.long j191_1), .second, .unset, .unset, .unset, .unset] [(.double FP.dconst0), (.double FP.dconst0), (.long j191_1), (.long rr), (.ref b28), (.ref b28)])) (fun _ k => XS.dconst0 X28.here hx rfl (hb hby at_202) rfl k) ?_
              refine own_st (T' := T28) (F' := (mkF m 204 #[.val (.long x0), .second, .val (.long x1), .second, .val (.long rr), .second, .val (.long bb), .second, .val (.double (FP.ddiv (FP.l2d bb) (FP.l2d rr))), .second, .val (.int (1 : Int32)), .val (.double (FP.ddiv (FP.l2d ((2 : Int64) * bb)) (FP.l2d ((2 : Int64) * rr)))), .second, .val (.long j191_1), .second, .unset, .unset, .unset, .unset] [(.double FP.dconst0), (.double FP.dconst0), (.double FP.dconst0), (.long j191_1), (.long rr), (.ref b28), (.ref b28)])) (fun _ k => XS.dconst0 X28.here hx rfl (hb hby at_203) rfl k) ?_
              obtain ⟨_, _, ⟨T40, L40, k40, n40⟩, -, X40, ⟨Lc40, hQ40, l40, y40, z40⟩, st40⟩ := X28.specialBack hx (y := (⟨"com/example/slotter/slotter/engine/SimulationResult", "<init>", "(JJDDD)V"⟩ : MethodName)) rfl hown (mvT hZ (hw _ (List.mem_of_getElem? (i := 5) rfl))) (mvT hZ (hw _ (List.mem_of_getElem? (i := 6) rfl))) (mvT hZ (hw _ (List.mem_of_getElem? (i := 7) rfl))) (by decide) (backOf (W := 1) (rm1 l Z a0 hw [] b28 rr j191_1 FP.dconst0 FP.dconst0 FP.dconst0 (.long (0 : Int64)) (.long (0 : Int64)) (.double 0) (.double 0) (.double 0) h28 n0 Zs28 ge28 A28 f35 f36 f37 f38 f39) hZ (hw _ (List.mem_of_getElem? (i := 7) rfl)) (hw _ (List.mem_of_getElem? (i := 4) rfl)) (by decide) (by decide)) (g := (mkF m 204 #[.val (.long x0), .second, .val (.long x1), .second, .val (.long rr), .second, .val (.long bb), .second, .val (.double (FP.ddiv (FP.l2d bb) (FP.l2d rr))), .second, .val (.int (1 : Int32)), .val (.double (FP.ddiv (FP.l2d ((2 : Int64) * bb)) (FP.l2d ((2 : Int64) * rr)))), .second, .val (.long j191_1), .second, .unset, .unset, .unset, .unset] [(.double FP.dconst0), (.double FP.dconst0), (.double FP.dconst0), (.long j191_1), (.long rr), (.ref b28), (.ref b28)])) rfl (by rw [hml]; rfl) (Steps.refl _) (a := b28) (argsL := [(.long rr), (.long j191_1), (.double FP.dconst0), (.double FP.dconst0), (.double FP.dconst0)]) (rest := [(.ref b28)]) (lenOf own_pd1 rfl) rfl (by show 2 * 0 + _ ≤ _; exact Nat.le_of_eq rfl) (hb hby at_204) (fun _ _ => ⟨rfl, e28, (by decide : 3 + 0 ≤ _), (by decide : 15 + 0 ≤ _)⟩)
              dsimp only [Pt.U, Pt.locs, Pt.cells, Pt.slots] at X40 l40 y40 z40 st40 hQ40
              subst l40 y40 z40
              obtain ⟨rfl, Nq40, g40_0, g40_1, g40_2⟩ := hQ40
              have N40 := Fr.app N26 Nq40
              have f41 : Exa Z T40.heap b1 "com/example/slotter/slotter/engine/SimulationResult" := f29.keep g40_0
              have f42 : Fld Z T40.heap b1 "com/example/slotter/slotter/engine/SimulationResult" "requests" "J" (.long rr) := f30.keep g40_0 (ninS ne28_1 nin0)
              have f43 : Fld Z T40.heap b1 "com/example/slotter/slotter/engine/SimulationResult" "blocked" "J" (.long bb) := f31.keep g40_0 (ninS ne28_1 nin0)
              have f44 : Exa Z T40.heap b12 "com/example/slotter/slotter/engine/SimulationResult" := f32.keep g40_0
              have f45 : Fld Z T40.heap b12 "com/example/slotter/slotter/engine/SimulationResult" "requests" "J" (.long ((2 : Int64) * rr)) := f33.keep g40_0 (ninS ne28_2 nin0)
              have f46 : Fld Z T40.heap b12 "com/example/slotter/slotter/engine/SimulationResult" "blocked" "J" (.long ((2 : Int64) * bb)) := f34.keep g40_0 (ninS ne28_2 nin0)
              have f47 : Exa Z T40.heap b28 "com/example/slotter/slotter/engine/SimulationResult" := A28.keep g40_0
              have K40 : Keep h0 T40.heap [] := K28.trans g40_0 (allS (Or.inr hge28) all0)
              have Zs40 : n0 ≤ T40.heap.size := Nat.le_trans Z0 K40.1
              refine own_tr (T' := T40) (F' := (mkF m 207 #[.val (.long x0), .second, .val (.long x1), .second, .val (.long rr), .second, .val (.long bb), .second, .val (.double (FP.ddiv (FP.l2d bb) (FP.l2d rr))), .second, .val (.int (1 : Int32)), .val (.double (FP.ddiv (FP.l2d ((2 : Int64) * bb)) (FP.l2d ((2 : Int64) * rr)))), .second, .val (.long j191_1), .second, .unset, .unset, .unset, .unset] [(.ref b28)])) st40 ?_
              obtain ⟨cq48, kq48, q48a, q48b, q48c⟩ := isOf hZ rfl f47
              obtain ⟨_, _, ⟨T48, L48, k48, n48⟩, -, X48, ⟨Lc48, hQ48, l48, y48, z48⟩, st48⟩ := X40.virtualBack hx (y := (⟨"com/example/slotter/slotter/engine/SimulationResult", "blocking", "()D"⟩ : MethodName)) (z := (⟨"com/example/slotter/slotter/engine/SimulationResult", "blocking", "()D"⟩ : MethodName)) hown (mvT hZ (hw _ (List.mem_of_getElem? (i := 26) rfl))) (mvT hZ (hw _ (List.mem_of_getElem? (i := 27) rfl))) (notFace_of_selects (args := #[]) (mvT hZ (hw _ (List.mem_of_getElem? (i := 29) rfl)))) (mvT hZ (hw _ (List.mem_of_getElem? (i := 29) rfl))) (mvT hZ (hw _ (List.mem_of_getElem? (i := 28) rfl))) (by decide) (backOf (W := 0) (rm4 l Z a0 hw [] b28 j191_1 rr T40.heap n0 Zs40 g40_1 g40_2 (own_L0 hHd)) hZ (hw _ (List.mem_of_getElem? (i := 30) rfl)) (hw _ (List.mem_of_getElem? (i := 4) rfl)) (by decide) (by decide)) q48a q48c (g := (mkF m 207 #[.val (.long x0), .second, .val (.long x1), .second, .val (.long rr), .second, .val (.long bb), .second, .val (.double (FP.ddiv (FP.l2d bb) (FP.l2d rr))), .second, .val (.int (1 : Int32)), .val (.double (FP.ddiv (FP.l2d ((2 : Int64) * bb)) (FP.l2d ((2 : Int64) * rr)))), .second, .val (.long j191_1), .second, .unset, .unset, .unset, .unset] [(.ref b28)])) rfl (by rw [hml]; rfl) (Steps.refl _) (argsL := []) (rest := []) (lenOf own_pd2 rfl) rfl (by show 2 * 0 + _ ≤ _; exact Nat.le_of_eq rfl) (hb hby at_207) (fun _ _ => ⟨rfl, rfl, (by decide : 3 + 0 ≤ _), (by decide : 15 + 0 ≤ _)⟩)
              dsimp only [Pt.U, Pt.locs, Pt.cells, Pt.slots] at X48 l48 y48 z48 st48 hQ48
              subst l48 y48 z48
              obtain ⟨rfl, Nq48, eq48⟩ := hQ48
              have N48 := Fr.app N40 Nq48
              refine own_tr (T' := T48) (F' := (mkF m 210 #[.val (.long x0), .second, .val (.long x1), .second, .val (.long rr), .second, .val (.long bb), .second, .val (.double (FP.ddiv (FP.l2d bb) (FP.l2d rr))), .second, .val (.int (1 : Int32)), .val (.double (FP.ddiv (FP.l2d ((2 : Int64) * bb)) (FP.l2d ((2 : Int64) * rr)))), .second, .val (.long j191_1), .second, .unset, .unset, .unset, .unset] [(.double (FP.ddiv (FP.l2d j191_1) (FP.l2d rr)))])) st48 ?_
              refine own_st (T' := T48) (F' := (mkF m 212 #[.val (.long x0), .second, .val (.long x1), .second, .val (.long rr), .second, .val (.long bb), .second, .val (.double (FP.ddiv (FP.l2d bb) (FP.l2d rr))), .second, .val (.int (1 : Int32)), .val (.double (FP.ddiv (FP.l2d ((2 : Int64) * bb)) (FP.l2d ((2 : Int64) * rr)))), .second, .val (.long j191_1), .second, .val (.double (FP.ddiv (FP.l2d j191_1) (FP.l2d rr))), .second, .unset, .unset] [])) (fun _ k => XS.dstore X48.here hx rfl (hb hby at_210) rfl (l' := #[.val (.long x0), .second, .val (.long x1), .second, .val (.long rr), .second, .val (.long bb), .second, .val (.double (FP.ddiv (FP.l2d bb) (FP.l2d rr))), .second, .val (.int (1 : Int32)), .val (.double (FP.ddiv (FP.l2d ((2 : Int64) * bb)) (FP.l2d ((2 : Int64) * rr)))), .second, .val (.long j191_1), .second, .val (.double (FP.ddiv (FP.l2d j191_1) (FP.l2d rr))), .second, .unset, .unset]) rfl k) ?_
              refine own_st (T' := T48) (F' := (mkF m 214 #[.val (.long x0), .second, .val (.long x1), .second, .val (.long rr), .second, .val (.long bb), .second, .val (.double (FP.ddiv (FP.l2d bb) (FP.l2d rr))), .second, .val (.int (1 : Int32)), .val (.double (FP.ddiv (FP.l2d ((2 : Int64) * bb)) (FP.l2d ((2 : Int64) * rr)))), .second, .val (.long j191_1), .second, .val (.double (FP.ddiv (FP.l2d j191_1) (FP.l2d rr))), .second, .unset, .unset] [(.int (1 : Int32))])) (fun _ k => XS.iload X48.here hx rfl (hb hby at_212) rfl  k) ?_
              refine own_ifc X48 hx (pc' := 229) (pc2 := 217) (hb hby at_214) (by decide) (by decide) rfl (fun (hc214 : (1 : Int32) = (0 : Int32)) => ?_) (fun (hc214 : ¬ ((1 : Int32) = (0 : Int32))) => ?_)
              · exact absurd hc214 (by decide)
              refine own_st (T' := T48) (F' := (mkF m 219 #[.val (.long x0), .second, .val (.long x1), .second, .val (.long rr), .second, .val (.long bb), .second, .val (.double (FP.ddiv (FP.l2d bb) (FP.l2d rr))), .second, .val (.int (1 : Int32)), .val (.double (FP.ddiv (FP.l2d ((2 : Int64) * bb)) (FP.l2d ((2 : Int64) * rr)))), .second, .val (.long j191_1), .second, .val (.double (FP.ddiv (FP.l2d j191_1) (FP.l2d rr))), .second, .unset, .unset] [(.double (FP.ddiv (FP.l2d bb) (FP.l2d rr)))])) (fun _ k => XS.dload X48.here hx rfl (hb hby at_217) rfl  k) ?_
              refine own_st (T' := T48) (F' := (mkF m 221 #[.val (.long x0), .second, .val (.long x1), .second, .val (.long rr), .second, .val (.long bb), .second, .val (.double (FP.ddiv (FP.l2d bb) (FP.l2d rr))), .second, .val (.int (1 : Int32)), .val (.double (FP.ddiv (FP.l2d ((2 : Int64) * bb)) (FP.l2d ((2 : Int64) * rr)))), .second, .val (.long j191_1), .second, .val (.double (FP.ddiv (FP.l2d j191_1) (FP.l2d rr))), .second, .unset, .unset] [(.double (FP.ddiv (FP.l2d j191_1) (FP.l2d rr))), (.double (FP.ddiv (FP.l2d bb) (FP.l2d rr)))])) (fun _ k => XS.dload X48.here hx rfl (hb hby at_219) rfl  k) ?_
              refine own_st (T' := T48) (F' := (mkF m 222 #[.val (.long x0), .second, .val (.long x1), .second, .val (.long rr), .second, .val (.long bb), .second, .val (.double (FP.ddiv (FP.l2d bb) (FP.l2d rr))), .second, .val (.int (1 : Int32)), .val (.double (FP.ddiv (FP.l2d ((2 : Int64) * bb)) (FP.l2d ((2 : Int64) * rr)))), .second, .val (.long j191_1), .second, .val (.double (FP.ddiv (FP.l2d j191_1) (FP.l2d rr))), .second, .unset, .unset] [(.int (cmpValue (FP.dcmp (FP.ddiv (FP.l2d bb) (FP.l2d rr)) (FP.ddiv (FP.l2d j191_1) (FP.l2d rr))) .g))])) (fun _ k => XS.dcmpS X48.here hx rfl (hb hby at_221) rfl rfl k) ?_
              refine own_ifc X48 hx (pc' := 229) (pc2 := 225) (hb hby at_222) (by decide) (by decide) rfl (fun (hc222 : (0 : Int32) < (cmpValue (FP.dcmp (FP.ddiv (FP.l2d bb) (FP.l2d rr)) (FP.ddiv (FP.l2d j191_1) (FP.l2d rr))) .g)) => ?_) (fun (hc222 : ¬ ((0 : Int32) < (cmpValue (FP.dcmp (FP.ddiv (FP.l2d bb) (FP.l2d rr)) (FP.ddiv (FP.l2d j191_1) (FP.l2d rr))) .g))) => ?_)
              ·
                exact absurd hc222 (own_L7 hH hHd hbd)
              ·
                refine own_st (T' := T48) (F' := (mkF m 226 #[.val (.long x0), .second, .val (.long x1), .second, .val (.long rr), .second, .val (.long bb), .second, .val (.double (FP.ddiv (FP.l2d bb) (FP.l2d rr))), .second, .val (.int (1 : Int32)), .val (.double (FP.ddiv (FP.l2d ((2 : Int64) * bb)) (FP.l2d ((2 : Int64) * rr)))), .second, .val (.long j191_1), .second, .val (.double (FP.ddiv (FP.l2d j191_1) (FP.l2d rr))), .second, .unset, .unset] [(.int (1 : Int32))])) (fun _ k => XS.iconst X48.here hx rfl (hb hby at_225) k) ?_
                refine own_st (T' := T48) (F' := (mkF m 230 #[.val (.long x0), .second, .val (.long x1), .second, .val (.long rr), .second, .val (.long bb), .second, .val (.double (FP.ddiv (FP.l2d bb) (FP.l2d rr))), .second, .val (.int (1 : Int32)), .val (.double (FP.ddiv (FP.l2d ((2 : Int64) * bb)) (FP.l2d ((2 : Int64) * rr)))), .second, .val (.long j191_1), .second, .val (.double (FP.ddiv (FP.l2d j191_1) (FP.l2d rr))), .second, .unset, .unset] [(.int (1 : Int32))])) (fun _ k => XS.goto X48.here hx rfl (pc0 := 226) (pc' := 230) rfl (hb hby at_226) (by decide) (by decide) k) ?_
                refine own_st (T' := T48) (F' := (mkF m 232 #[.val (.long x0), .second, .val (.long x1), .second, .val (.long rr), .second, .val (.long bb), .second, .val (.double (FP.ddiv (FP.l2d bb) (FP.l2d rr))), .second, .val (.int (1 : Int32)), .val (.double (FP.ddiv (FP.l2d ((2 : Int64) * bb)) (FP.l2d ((2 : Int64) * rr)))), .second, .val (.long j191_1), .second, .val (.double (FP.ddiv (FP.l2d j191_1) (FP.l2d rr))), .second, .unset, .unset] [])) (fun _ k => XS.istore X48.here hx rfl (hb hby at_230) rfl (l' := #[.val (.long x0), .second, .val (.long x1), .second, .val (.long rr), .second, .val (.long bb), .second, .val (.double (FP.ddiv (FP.l2d bb) (FP.l2d rr))), .second, .val (.int (1 : Int32)), .val (.double (FP.ddiv (FP.l2d ((2 : Int64) * bb)) (FP.l2d ((2 : Int64) * rr)))), .second, .val (.long j191_1), .second, .val (.double (FP.ddiv (FP.l2d j191_1) (FP.l2d rr))), .second, .unset, .unset]) rfl k) ?_
                obtain ⟨T49, h49, X49, e49, E49, A49, D49, -, st49⟩ := newO X48 hx hZ hown (hw _ (List.mem_of_getElem? (i := 2) rfl)) (hw _ (List.mem_of_getElem? (i := 3) rfl)) (hw _ (List.mem_of_getElem? (i := 4) rfl)) eq48 (g := (mkF m 232 #[.val (.long x0), .second, .val (.long x1), .second, .val (.long rr), .second, .val (.long bb), .second, .val (.double (FP.ddiv (FP.l2d bb) (FP.l2d rr))), .second, .val (.int (1 : Int32)), .val (.double (FP.ddiv (FP.l2d ((2 : Int64) * bb)) (FP.l2d ((2 : Int64) * rr)))), .second, .val (.long j191_1), .second, .val (.double (FP.ddiv (FP.l2d j191_1) (FP.l2d rr))), .second, .unset, .unset] [])) rfl (hb hby at_232) (by decide) (by decide)
                obtain ⟨b49, g49⟩ : ∃ z, z = T40.heap.size := ⟨_, rfl⟩
                rw [← g49] at A49 D49 st49
                have ge49 : n0 ≤ b49 := by rw [g49]; exact Zs40
                have hge49 : h0.size ≤ b49 := by rw [g49]; exact K40.1
                have ne49_1 : b1 ≠ b49 := by rw [g49]; exact Nat.ne_of_lt f41.lt
                have ne49_2 : b12 ≠ b49 := by rw [g49]; exact Nat.ne_of_lt f44.lt
                have ne49_3 : b28 ≠ b49 := by rw [g49]; exact Nat.ne_of_lt f47.lt
                have f50 : Exa Z h49 b1 "com/example/slotter/slotter/engine/SimulationResult" := f41.ext E49
                have f51 : Fld Z h49 b1 "com/example/slotter/slotter/engine/SimulationResult" "requests" "J" (.long rr) := f42.ext E49
                have f52 : Fld Z h49 b1 "com/example/slotter/slotter/engine/SimulationResult" "blocked" "J" (.long bb) := f43.ext E49
                have f53 : Exa Z h49 b12 "com/example/slotter/slotter/engine/SimulationResult" := f44.ext E49
                have f54 : Fld Z h49 b12 "com/example/slotter/slotter/engine/SimulationResult" "requests" "J" (.long ((2 : Int64) * rr)) := f45.ext E49
                have f55 : Fld Z h49 b12 "com/example/slotter/slotter/engine/SimulationResult" "blocked" "J" (.long ((2 : Int64) * bb)) := f46.ext E49
                have f56 : Exa Z h49 b28 "com/example/slotter/slotter/engine/SimulationResult" := f47.ext E49
                have f57 : Fld Z h49 b28 "com/example/slotter/slotter/engine/SimulationResult" "requests" "J" (.long rr) := g40_1.ext E49
                have f58 : Fld Z h49 b28 "com/example/slotter/slotter/engine/SimulationResult" "blocked" "J" (.long j191_1) := g40_2.ext E49
                have K49 : Keep h0 h49 [] := K40.ext E49
                have Zs49 : n0 ≤ h49.size := Nat.le_trans Z0 K49.1
                have f59 : Fld Z h49 b49 "com/example/slotter/slotter/engine/SimulationResult" "requests" "J" (.long (0 : Int64)) := D49 (Or.inr (hw _ (List.mem_of_getElem? (i := 17) rfl))) (ty := .long) (by decide)
                have f60 : Fld Z h49 b49 "com/example/slotter/slotter/engine/SimulationResult" "blocked" "J" (.long (0 : Int64)) := D49 (Or.inr (hw _ (List.mem_of_getElem? (i := 19) rfl))) (ty := .long) (by decide)
                have f61 : Fld Z h49 b49 "com/example/slotter/slotter/engine/SimulationResult" "ci95HalfWidth" "D" (.double 0) := D49 (Or.inr (hw _ (List.mem_of_getElem? (i := 21) rfl))) (ty := .double) (by decide)
                have f62 : Fld Z h49 b49 "com/example/slotter/slotter/engine/SimulationResult" "meanHops" "D" (.double 0) := D49 (Or.inr (hw _ (List.mem_of_getElem? (i := 23) rfl))) (ty := .double) (by decide)
                have f63 : Fld Z h49 b49 "com/example/slotter/slotter/engine/SimulationResult" "meanKm" "D" (.double 0) := D49 (Or.inr (hw _ (List.mem_of_getElem? (i := 25) rfl))) (ty := .double) (by decide)
                refine own_st (T' := T49) (F' := (mkF m 235 #[.val (.long x0), .second, .val (.long x1), .second, .val (.long rr), .second, .val (.long bb), .second, .val (.double (FP.ddiv (FP.l2d bb) (FP.l2d rr))), .second, .val (.int (1 : Int32)), .val (.double (FP.ddiv (FP.l2d ((2 : Int64) * bb)) (FP.l2d ((2 : Int64) * rr)))), .second, .val (.long j191_1), .second, .val (.double (FP.ddiv (FP.l2d j191_1) (FP.l2d rr))), .second, .unset, .unset] [(.ref b49)])) (fun _ k => st49 _ k) ?_
                refine own_st (T' := T49) (F' := (mkF m 236 #[.val (.long x0), .second, .val (.long x1), .second, .val (.long rr), .second, .val (.long bb), .second, .val (.double (FP.ddiv (FP.l2d bb) (FP.l2d rr))), .second, .val (.int (1 : Int32)), .val (.double (FP.ddiv (FP.l2d ((2 : Int64) * bb)) (FP.l2d ((2 : Int64) * rr)))), .second, .val (.long j191_1), .second, .val (.double (FP.ddiv (FP.l2d j191_1) (FP.l2d rr))), .second, .unset, .unset] [(.ref b49), (.ref b49)])) (fun _ k => XS.dup X49.here hx rfl (hb hby at_235) rfl rfl k) ?_
                refine own_st (T' := T49) (F' := (mkF m 239 #[.val (.long x0), .second, .val (.long x1), .second, .val (.long rr), .second, .val (.long bb), .second, .val (.double (FP.ddiv (FP.l2d bb) (FP.l2d rr))), .second, .val (.int (1 : Int32)), .val (.double (FP.ddiv (FP.l2d ((2 : Int64) * bb)) (FP.l2d ((2 : Int64) * rr)))), .second, .val (.long j191_1), .second, .val (.double (FP.ddiv (FP.l2d j191_1) (FP.l2d rr))), .second, .unset, .unset] [(.long (2 : Int64)), (.ref b49), (.ref b49)])) (fun _ k => X49.ldc2Long hx hown (mvT hZ (hw _ (List.mem_of_getElem? (i := 31) rfl))) (g := (mkF m 236 #[.val (.long x0), .second, .val (.long x1), .second, .val (.long rr), .second, .val (.long bb), .second, .val (.double (FP.ddiv (FP.l2d bb) (FP.l2d rr))), .second, .val (.int (1 : Int32)), .val (.double (FP.ddiv (FP.l2d ((2 : Int64) * bb)) (FP.l2d ((2 : Int64) * rr)))), .second, .val (.long j191_1), .second, .val (.double (FP.ddiv (FP.l2d j191_1) (FP.l2d rr))), .second, .unset, .unset] [(.ref b49), (.ref b49)])) rfl (hb hby at_236) _ k) ?_
                refine own_st (T' := T49) (F' := (mkF m 241 #[.val (.long x0), .second, .val (.long x1), .second, .val (.long rr), .second, .val (.long bb), .second, .val (.double (FP.ddiv (FP.l2d bb) (FP.l2d rr))), .second, .val (.int (1 : Int32)), .val (.double (FP.ddiv (FP.l2d ((2 : Int64) * bb)) (FP.l2d ((2 : Int64) * rr)))), .second, .val (.long j191_1), .second, .val (.double (FP.ddiv (FP.l2d j191_1) (FP.l2d rr))), .second, .unset, .unset] [(.long rr), (.long (2 : Int64)), (.ref b49), (.ref b49)])) (fun _ k => XS.lload X49.here hx rfl (hb hby at_239) rfl  k) ?_
                refine own_st (T' := T49) (F' := (mkF m 242 #[.val (.long x0), .second, .val (.long x1), .second, .val (.long rr), .second, .val (.long bb), .second, .val (.double (FP.ddiv (FP.l2d bb) (FP.l2d rr))), .second, .val (.int (1 : Int32)), .val (.double (FP.ddiv (FP.l2d ((2 : Int64) * bb)) (FP.l2d ((2 : Int64) * rr)))), .second, .val (.long j191_1), .second, .val (.double (FP.ddiv (FP.l2d j191_1) (FP.l2d rr))), .second, .unset, .unset] [(.long ((2 : Int64) * rr)), (.ref b49), (.ref b49)])) (fun _ k => XS.lmul X49.here hx rfl (hb hby at_241) rfl k) ?_
                refine own_st (T' := T49) (F' := (mkF m 244 #[.val (.long x0), .second, .val (.long x1), .second, .val (.long rr), .second, .val (.long bb), .second, .val (.double (FP.ddiv (FP.l2d bb) (FP.l2d rr))), .second, .val (.int (1 : Int32)), .val (.double (FP.ddiv (FP.l2d ((2 : Int64) * bb)) (FP.l2d ((2 : Int64) * rr)))), .second, .val (.long j191_1), .second, .val (.double (FP.ddiv (FP.l2d j191_1) (FP.l2d rr))), .second, .unset, .unset] [(.long rr), (.long ((2 : Int64) * rr)), (.ref b49), (.ref b49)])) (fun _ k => XS.lload X49.here hx rfl (hb hby at_242) rfl  k) ?_
                refine own_st (T' := T49) (F' := (mkF m 245 #[.val (.long x0), .second, .val (.long x1), .second, .val (.long rr), .second, .val (.long bb), .second, .val (.double (FP.ddiv (FP.l2d bb) (FP.l2d rr))), .second, .val (.int (1 : Int32)), .val (.double (FP.ddiv (FP.l2d ((2 : Int64) * bb)) (FP.l2d ((2 : Int64) * rr)))), .second, .val (.long j191_1), .second, .val (.double (FP.ddiv (FP.l2d j191_1) (FP.l2d rr))), .second, .unset, .unset] [(.double FP.dconst0), (.long rr), (.long ((2 : Int64) * rr)), (.ref b49), (.ref b49)])) (fun _ k => XS.dconst0 X49.here hx rfl (hb hby at_244) rfl k) ?_
                refine own_st (T' := T49) (F' := (mkF m 246 #[.val (.long x0), .second, .val (.long x1), .second, .val (.long rr), .second, .val (.long bb), .second, .val (.double (FP.ddiv (FP.l2d bb) (FP.l2d rr))), .second, .val (.int (1 : Int32)), .val (.double (FP.ddiv (FP.l2d ((2 : Int64) * bb)) (FP.l2d ((2 : Int64) * rr)))), .second, .val (.long j191_1), .second, .val (.double (FP.ddiv (FP.l2d j191_1) (FP.l2d rr))), .second, .unset, .unset] [(.double FP.dconst0), (.double FP.dconst0), (.long rr), (.long ((2 : Int64) * rr)), (.ref b49), (.ref b49)])) (fun _ k => XS.dconst0 X49.here hx rfl (hb hby at_245) rfl k) ?_
                refine own_st (T' := T49) (F' := (mkF m 247 #[.val (.long x0), .second, .val (.long x1), .second, .val (.long rr), .second, .val (.long bb), .second, .val (.double (FP.ddiv (FP.l2d bb) (FP.l2d rr))), .second, .val (.int (1 : Int32)), .val (.double (FP.ddiv (FP.l2d ((2 : Int64) * bb)) (FP.l2d ((2 : Int64) * rr)))), .second, .val (.long j191_1), .second, .val (.double (FP.ddiv (FP.l2d j191_1) (FP.l2d rr))), .second, .unset, .unset] [(.double FP.dconst0), (.double FP.dconst0), (.double FP.dconst0), (.long rr), (.long ((2 : Int64) * rr)), (.ref b49), (.ref b49)])) (fun _ k => XS.dconst0 X49.here hx rfl (hb hby at_246) rfl k) ?_
                obtain ⟨_, _, ⟨T64, L64, k64, n64⟩, -, X64, ⟨Lc64, hQ64, l64, y64, z64⟩, st64⟩ := X49.specialBack hx (y := (⟨"com/example/slotter/slotter/engine/SimulationResult", "<init>", "(JJDDD)V"⟩ : MethodName)) rfl hown (mvT hZ (hw _ (List.mem_of_getElem? (i := 5) rfl))) (mvT hZ (hw _ (List.mem_of_getElem? (i := 6) rfl))) (mvT hZ (hw _ (List.mem_of_getElem? (i := 7) rfl))) (by decide) (backOf (W := 1) (rm1 l Z a0 hw [] b49 ((2 : Int64) * rr) rr FP.dconst0 FP.dconst0 FP.dconst0 (.long (0 : Int64)) (.long (0 : Int64)) (.double 0) (.double 0) (.double 0) h49 n0 Zs49 ge49 A49 f59 f60 f61 f62 f63) hZ (hw _ (List.mem_of_getElem? (i := 7) rfl)) (hw _ (List.mem_of_getElem? (i := 4) rfl)) (by decide) (by decide)) (g := (mkF m 247 #[.val (.long x0), .second, .val (.long x1), .second, .val (.long rr), .second, .val (.long bb), .second, .val (.double (FP.ddiv (FP.l2d bb) (FP.l2d rr))), .second, .val (.int (1 : Int32)), .val (.double (FP.ddiv (FP.l2d ((2 : Int64) * bb)) (FP.l2d ((2 : Int64) * rr)))), .second, .val (.long j191_1), .second, .val (.double (FP.ddiv (FP.l2d j191_1) (FP.l2d rr))), .second, .unset, .unset] [(.double FP.dconst0), (.double FP.dconst0), (.double FP.dconst0), (.long rr), (.long ((2 : Int64) * rr)), (.ref b49), (.ref b49)])) rfl (by rw [hml]; rfl) (Steps.refl _) (a := b49) (argsL := [(.long ((2 : Int64) * rr)), (.long rr), (.double FP.dconst0), (.double FP.dconst0), (.double FP.dconst0)]) (rest := [(.ref b49)]) (lenOf own_pd1 rfl) rfl (by show 2 * 0 + _ ≤ _; exact Nat.le_of_eq rfl) (hb hby at_247) (fun _ _ => ⟨rfl, e49, (by decide : 4 + 0 ≤ _), (by decide : 20 + 0 ≤ _)⟩)
                dsimp only [Pt.U, Pt.locs, Pt.cells, Pt.slots] at X64 l64 y64 z64 st64 hQ64
                subst l64 y64 z64
                obtain ⟨rfl, Nq64, g64_0, g64_1, g64_2⟩ := hQ64
                have N64 := Fr.app N48 Nq64
                have f65 : Exa Z T64.heap b1 "com/example/slotter/slotter/engine/SimulationResult" := f50.keep g64_0
                have f66 : Fld Z T64.heap b1 "com/example/slotter/slotter/engine/SimulationResult" "requests" "J" (.long rr) := f51.keep g64_0 (ninS ne49_1 nin0)
                have f67 : Fld Z T64.heap b1 "com/example/slotter/slotter/engine/SimulationResult" "blocked" "J" (.long bb) := f52.keep g64_0 (ninS ne49_1 nin0)
                have f68 : Exa Z T64.heap b12 "com/example/slotter/slotter/engine/SimulationResult" := f53.keep g64_0
                have f69 : Fld Z T64.heap b12 "com/example/slotter/slotter/engine/SimulationResult" "requests" "J" (.long ((2 : Int64) * rr)) := f54.keep g64_0 (ninS ne49_2 nin0)
                have f70 : Fld Z T64.heap b12 "com/example/slotter/slotter/engine/SimulationResult" "blocked" "J" (.long ((2 : Int64) * bb)) := f55.keep g64_0 (ninS ne49_2 nin0)
                have f71 : Exa Z T64.heap b28 "com/example/slotter/slotter/engine/SimulationResult" := f56.keep g64_0
                have f72 : Fld Z T64.heap b28 "com/example/slotter/slotter/engine/SimulationResult" "requests" "J" (.long rr) := f57.keep g64_0 (ninS ne49_3 nin0)
                have f73 : Fld Z T64.heap b28 "com/example/slotter/slotter/engine/SimulationResult" "blocked" "J" (.long j191_1) := f58.keep g64_0 (ninS ne49_3 nin0)
                have f74 : Exa Z T64.heap b49 "com/example/slotter/slotter/engine/SimulationResult" := A49.keep g64_0
                have K64 : Keep h0 T64.heap [] := K49.trans g64_0 (allS (Or.inr hge49) all0)
                have Zs64 : n0 ≤ T64.heap.size := Nat.le_trans Z0 K64.1
                refine own_tr (T' := T64) (F' := (mkF m 250 #[.val (.long x0), .second, .val (.long x1), .second, .val (.long rr), .second, .val (.long bb), .second, .val (.double (FP.ddiv (FP.l2d bb) (FP.l2d rr))), .second, .val (.int (1 : Int32)), .val (.double (FP.ddiv (FP.l2d ((2 : Int64) * bb)) (FP.l2d ((2 : Int64) * rr)))), .second, .val (.long j191_1), .second, .val (.double (FP.ddiv (FP.l2d j191_1) (FP.l2d rr))), .second, .unset, .unset] [(.ref b49)])) st64 ?_
                obtain ⟨cq75, kq75, q75a, q75b, q75c⟩ := isOf hZ rfl f74
                obtain ⟨_, _, ⟨T75, L75, k75, n75⟩, -, X75, ⟨Lc75, hQ75, l75, y75, z75⟩, st75⟩ := X64.virtualBack hx (y := (⟨"com/example/slotter/slotter/engine/SimulationResult", "blocking", "()D"⟩ : MethodName)) (z := (⟨"com/example/slotter/slotter/engine/SimulationResult", "blocking", "()D"⟩ : MethodName)) hown (mvT hZ (hw _ (List.mem_of_getElem? (i := 26) rfl))) (mvT hZ (hw _ (List.mem_of_getElem? (i := 27) rfl))) (notFace_of_selects (args := #[]) (mvT hZ (hw _ (List.mem_of_getElem? (i := 29) rfl)))) (mvT hZ (hw _ (List.mem_of_getElem? (i := 29) rfl))) (mvT hZ (hw _ (List.mem_of_getElem? (i := 28) rfl))) (by decide) (backOf (W := 0) (rm4 l Z a0 hw [] b49 rr ((2 : Int64) * rr) T64.heap n0 Zs64 g64_1 g64_2 (own_L8n hH)) hZ (hw _ (List.mem_of_getElem? (i := 30) rfl)) (hw _ (List.mem_of_getElem? (i := 4) rfl)) (by decide) (by decide)) q75a q75c (g := (mkF m 250 #[.val (.long x0), .second, .val (.long x1), .second, .val (.long rr), .second, .val (.long bb), .second, .val (.double (FP.ddiv (FP.l2d bb) (FP.l2d rr))), .second, .val (.int (1 : Int32)), .val (.double (FP.ddiv (FP.l2d ((2 : Int64) * bb)) (FP.l2d ((2 : Int64) * rr)))), .second, .val (.long j191_1), .second, .val (.double (FP.ddiv (FP.l2d j191_1) (FP.l2d rr))), .second, .unset, .unset] [(.ref b49)])) rfl (by rw [hml]; rfl) (Steps.refl _) (argsL := []) (rest := []) (lenOf own_pd2 rfl) rfl (by show 2 * 0 + _ ≤ _; exact Nat.le_of_eq rfl) (hb hby at_250) (fun _ _ => ⟨rfl, rfl, (by decide : 4 + 0 ≤ _), (by decide : 20 + 0 ≤ _)⟩)
                dsimp only [Pt.U, Pt.locs, Pt.cells, Pt.slots] at X75 l75 y75 z75 st75 hQ75
                subst l75 y75 z75
                obtain ⟨rfl, Nq75, eq75⟩ := hQ75
                have N75 := Fr.app N64 Nq75
                refine own_tr (T' := T75) (F' := (mkF m 253 #[.val (.long x0), .second, .val (.long x1), .second, .val (.long rr), .second, .val (.long bb), .second, .val (.double (FP.ddiv (FP.l2d bb) (FP.l2d rr))), .second, .val (.int (1 : Int32)), .val (.double (FP.ddiv (FP.l2d ((2 : Int64) * bb)) (FP.l2d ((2 : Int64) * rr)))), .second, .val (.long j191_1), .second, .val (.double (FP.ddiv (FP.l2d j191_1) (FP.l2d rr))), .second, .unset, .unset] [(.double (FP.ddiv (FP.l2d rr) (FP.l2d ((2 : Int64) * rr))))])) st75 ?_
                refine own_st (T' := T75) (F' := (mkF m 255 #[.val (.long x0), .second, .val (.long x1), .second, .val (.long rr), .second, .val (.long bb), .second, .val (.double (FP.ddiv (FP.l2d bb) (FP.l2d rr))), .second, .val (.int (1 : Int32)), .val (.double (FP.ddiv (FP.l2d ((2 : Int64) * bb)) (FP.l2d ((2 : Int64) * rr)))), .second, .val (.long j191_1), .second, .val (.double (FP.ddiv (FP.l2d j191_1) (FP.l2d rr))), .second, .val (.double (FP.ddiv (FP.l2d rr) (FP.l2d ((2 : Int64) * rr)))), .second] [])) (fun _ k => XS.dstore X75.here hx rfl (hb hby at_253) rfl (l' := #[.val (.long x0), .second, .val (.long x1), .second, .val (.long rr), .second, .val (.long bb), .second, .val (.double (FP.ddiv (FP.l2d bb) (FP.l2d rr))), .second, .val (.int (1 : Int32)), .val (.double (FP.ddiv (FP.l2d ((2 : Int64) * bb)) (FP.l2d ((2 : Int64) * rr)))), .second, .val (.long j191_1), .second, .val (.double (FP.ddiv (FP.l2d j191_1) (FP.l2d rr))), .second, .val (.double (FP.ddiv (FP.l2d rr) (FP.l2d ((2 : Int64) * rr)))), .second]) rfl k) ?_
                refine own_st (T' := T75) (F' := (mkF m 257 #[.val (.long x0), .second, .val (.long x1), .second, .val (.long rr), .second, .val (.long bb), .second, .val (.double (FP.ddiv (FP.l2d bb) (FP.l2d rr))), .second, .val (.int (1 : Int32)), .val (.double (FP.ddiv (FP.l2d ((2 : Int64) * bb)) (FP.l2d ((2 : Int64) * rr)))), .second, .val (.long j191_1), .second, .val (.double (FP.ddiv (FP.l2d j191_1) (FP.l2d rr))), .second, .val (.double (FP.ddiv (FP.l2d rr) (FP.l2d ((2 : Int64) * rr)))), .second] [(.int (1 : Int32))])) (fun _ k => XS.iload X75.here hx rfl (hb hby at_255) rfl  k) ?_
                refine own_ifc X75 hx (pc' := 273) (pc2 := 260) (hb hby at_257) (by decide) (by decide) rfl (fun (hc257 : (1 : Int32) = (0 : Int32)) => ?_) (fun (hc257 : ¬ ((1 : Int32) = (0 : Int32))) => ?_)
                · exact absurd hc257 (by decide)
                refine own_st (T' := T75) (F' := (mkF m 262 #[.val (.long x0), .second, .val (.long x1), .second, .val (.long rr), .second, .val (.long bb), .second, .val (.double (FP.ddiv (FP.l2d bb) (FP.l2d rr))), .second, .val (.int (1 : Int32)), .val (.double (FP.ddiv (FP.l2d ((2 : Int64) * bb)) (FP.l2d ((2 : Int64) * rr)))), .second, .val (.long j191_1), .second, .val (.double (FP.ddiv (FP.l2d j191_1) (FP.l2d rr))), .second, .val (.double (FP.ddiv (FP.l2d rr) (FP.l2d ((2 : Int64) * rr)))), .second] [(.double (FP.ddiv (FP.l2d rr) (FP.l2d ((2 : Int64) * rr))))])) (fun _ k => XS.dload X75.here hx rfl (hb hby at_260) rfl  k) ?_
                refine own_st (T' := T75) (F' := (mkF m 265 #[.val (.long x0), .second, .val (.long x1), .second, .val (.long rr), .second, .val (.long bb), .second, .val (.double (FP.ddiv (FP.l2d bb) (FP.l2d rr))), .second, .val (.int (1 : Int32)), .val (.double (FP.ddiv (FP.l2d ((2 : Int64) * bb)) (FP.l2d ((2 : Int64) * rr)))), .second, .val (.long j191_1), .second, .val (.double (FP.ddiv (FP.l2d j191_1) (FP.l2d rr))), .second, .val (.double (FP.ddiv (FP.l2d rr) (FP.l2d ((2 : Int64) * rr)))), .second] [(.double (4602678819172646912 : UInt64)), (.double (FP.ddiv (FP.l2d rr) (FP.l2d ((2 : Int64) * rr))))])) (fun _ k => X75.ldc2DoubleC hx hown (mvT hZ (hw _ (List.mem_of_getElem? (i := 32) rfl))) (g := (mkF m 262 #[.val (.long x0), .second, .val (.long x1), .second, .val (.long rr), .second, .val (.long bb), .second, .val (.double (FP.ddiv (FP.l2d bb) (FP.l2d rr))), .second, .val (.int (1 : Int32)), .val (.double (FP.ddiv (FP.l2d ((2 : Int64) * bb)) (FP.l2d ((2 : Int64) * rr)))), .second, .val (.long j191_1), .second, .val (.double (FP.ddiv (FP.l2d j191_1) (FP.l2d rr))), .second, .val (.double (FP.ddiv (FP.l2d rr) (FP.l2d ((2 : Int64) * rr)))), .second] [(.double (FP.ddiv (FP.l2d rr) (FP.l2d ((2 : Int64) * rr))))])) rfl (hb hby at_262) _ k) ?_
                refine own_st (T' := T75) (F' := (mkF m 266 #[.val (.long x0), .second, .val (.long x1), .second, .val (.long rr), .second, .val (.long bb), .second, .val (.double (FP.ddiv (FP.l2d bb) (FP.l2d rr))), .second, .val (.int (1 : Int32)), .val (.double (FP.ddiv (FP.l2d ((2 : Int64) * bb)) (FP.l2d ((2 : Int64) * rr)))), .second, .val (.long j191_1), .second, .val (.double (FP.ddiv (FP.l2d j191_1) (FP.l2d rr))), .second, .val (.double (FP.ddiv (FP.l2d rr) (FP.l2d ((2 : Int64) * rr)))), .second] [(.int (cmpValue (FP.dcmp (FP.ddiv (FP.l2d rr) (FP.l2d ((2 : Int64) * rr))) (4602678819172646912 : UInt64)) .l))])) (fun _ k => XS.dcmpS X75.here hx rfl (hb hby at_265) rfl rfl k) ?_
                refine own_ifc X75 hx (pc' := 273) (pc2 := 269) (hb hby at_266) (by decide) (by decide) rfl (fun (hc266 : ¬ ((cmpValue (FP.dcmp (FP.ddiv (FP.l2d rr) (FP.l2d ((2 : Int64) * rr))) (4602678819172646912 : UInt64)) .l) = (0 : Int32))) => ?_) (fun (hc266 : (cmpValue (FP.dcmp (FP.ddiv (FP.l2d rr) (FP.l2d ((2 : Int64) * rr))) (4602678819172646912 : UInt64)) .l) = (0 : Int32)) => ?_)
                ·
                  exact absurd (own_L8 hH) hc266
                ·
                  refine own_st (T' := T75) (F' := (mkF m 270 #[.val (.long x0), .second, .val (.long x1), .second, .val (.long rr), .second, .val (.long bb), .second, .val (.double (FP.ddiv (FP.l2d bb) (FP.l2d rr))), .second, .val (.int (1 : Int32)), .val (.double (FP.ddiv (FP.l2d ((2 : Int64) * bb)) (FP.l2d ((2 : Int64) * rr)))), .second, .val (.long j191_1), .second, .val (.double (FP.ddiv (FP.l2d j191_1) (FP.l2d rr))), .second, .val (.double (FP.ddiv (FP.l2d rr) (FP.l2d ((2 : Int64) * rr)))), .second] [(.int (1 : Int32))])) (fun _ k => XS.iconst X75.here hx rfl (hb hby at_269) k) ?_
                  refine own_st (T' := T75) (F' := (mkF m 274 #[.val (.long x0), .second, .val (.long x1), .second, .val (.long rr), .second, .val (.long bb), .second, .val (.double (FP.ddiv (FP.l2d bb) (FP.l2d rr))), .second, .val (.int (1 : Int32)), .val (.double (FP.ddiv (FP.l2d ((2 : Int64) * bb)) (FP.l2d ((2 : Int64) * rr)))), .second, .val (.long j191_1), .second, .val (.double (FP.ddiv (FP.l2d j191_1) (FP.l2d rr))), .second, .val (.double (FP.ddiv (FP.l2d rr) (FP.l2d ((2 : Int64) * rr)))), .second] [(.int (1 : Int32))])) (fun _ k => XS.goto X75.here hx rfl (pc0 := 270) (pc' := 274) rfl (hb hby at_270) (by decide) (by decide) k) ?_
                  refine own_st (T' := T75) (F' := (mkF m 276 #[.val (.long x0), .second, .val (.long x1), .second, .val (.long rr), .second, .val (.long bb), .second, .val (.double (FP.ddiv (FP.l2d bb) (FP.l2d rr))), .second, .val (.int (1 : Int32)), .val (.double (FP.ddiv (FP.l2d ((2 : Int64) * bb)) (FP.l2d ((2 : Int64) * rr)))), .second, .val (.long j191_1), .second, .val (.double (FP.ddiv (FP.l2d j191_1) (FP.l2d rr))), .second, .val (.double (FP.ddiv (FP.l2d rr) (FP.l2d ((2 : Int64) * rr)))), .second] [])) (fun _ k => XS.istore X75.here hx rfl (hb hby at_274) rfl (l' := #[.val (.long x0), .second, .val (.long x1), .second, .val (.long rr), .second, .val (.long bb), .second, .val (.double (FP.ddiv (FP.l2d bb) (FP.l2d rr))), .second, .val (.int (1 : Int32)), .val (.double (FP.ddiv (FP.l2d ((2 : Int64) * bb)) (FP.l2d ((2 : Int64) * rr)))), .second, .val (.long j191_1), .second, .val (.double (FP.ddiv (FP.l2d j191_1) (FP.l2d rr))), .second, .val (.double (FP.ddiv (FP.l2d rr) (FP.l2d ((2 : Int64) * rr)))), .second]) rfl k) ?_
                  refine own_st (T' := T75) (F' := (mkF m 278 #[.val (.long x0), .second, .val (.long x1), .second, .val (.long rr), .second, .val (.long bb), .second, .val (.double (FP.ddiv (FP.l2d bb) (FP.l2d rr))), .second, .val (.int (1 : Int32)), .val (.double (FP.ddiv (FP.l2d ((2 : Int64) * bb)) (FP.l2d ((2 : Int64) * rr)))), .second, .val (.long j191_1), .second, .val (.double (FP.ddiv (FP.l2d j191_1) (FP.l2d rr))), .second, .val (.double (FP.ddiv (FP.l2d rr) (FP.l2d ((2 : Int64) * rr)))), .second] [(.int (1 : Int32))])) (fun _ k => XS.iload X75.here hx rfl (hb hby at_276) rfl  k) ?_
                  refine own_retN X75 hx hlk (t := .boolean) Bd.returns (by simp) (hb hby at_278) ?_ (by decide) (by decide)
                  rw [eq75]
                  refine ⟨⟨_, rfl, ?_⟩, N75⟩
                  rfl
            refine own_iflc X26 hx (pc' := 189) (pc2 := 182) (hb hby at_179) (by decide) (by decide) rfl (fun (hc179 : ¬ (bb < rr)) => ?_) (fun (hc179 : bb < rr) => ?_)
            ·
              refine own_st (T' := T26) (F' := (mkF m 191 #[.val (.long x0), .second, .val (.long x1), .second, .val (.long rr), .second, .val (.long bb), .second, .val (.double (FP.ddiv (FP.l2d bb) (FP.l2d rr))), .second, .val (.int (1 : Int32)), .val (.double (FP.ddiv (FP.l2d ((2 : Int64) * bb)) (FP.l2d ((2 : Int64) * rr)))), .second, .unset, .unset, .unset, .unset, .unset, .unset] [(.long bb)])) (fun _ k => XS.lload X26.here hx rfl (hb hby at_189) rfl  k) ?_
              exact J191_27 bb (Or.inl (⟨hc179, rfl⟩))
            ·
              refine own_st (T' := T26) (F' := (mkF m 184 #[.val (.long x0), .second, .val (.long x1), .second, .val (.long rr), .second, .val (.long bb), .second, .val (.double (FP.ddiv (FP.l2d bb) (FP.l2d rr))), .second, .val (.int (1 : Int32)), .val (.double (FP.ddiv (FP.l2d ((2 : Int64) * bb)) (FP.l2d ((2 : Int64) * rr)))), .second, .unset, .unset, .unset, .unset, .unset, .unset] [(.long bb)])) (fun _ k => XS.lload X26.here hx rfl (hb hby at_182) rfl  k) ?_
              refine own_st (T' := T26) (F' := (mkF m 185 #[.val (.long x0), .second, .val (.long x1), .second, .val (.long rr), .second, .val (.long bb), .second, .val (.double (FP.ddiv (FP.l2d bb) (FP.l2d rr))), .second, .val (.int (1 : Int32)), .val (.double (FP.ddiv (FP.l2d ((2 : Int64) * bb)) (FP.l2d ((2 : Int64) * rr)))), .second, .unset, .unset, .unset, .unset, .unset, .unset] [(.long (1 : Int64)), (.long bb)])) (fun _ k => XS.lconst X26.here hx rfl (hb hby at_184) k) ?_
              refine own_st (T' := T26) (F' := (mkF m 186 #[.val (.long x0), .second, .val (.long x1), .second, .val (.long rr), .second, .val (.long bb), .second, .val (.double (FP.ddiv (FP.l2d bb) (FP.l2d rr))), .second, .val (.int (1 : Int32)), .val (.double (FP.ddiv (FP.l2d ((2 : Int64) * bb)) (FP.l2d ((2 : Int64) * rr)))), .second, .unset, .unset, .unset, .unset, .unset, .unset] [(.long (bb + (1 : Int64)))])) (fun _ k => XS.ladd X26.here hx rfl (hb hby at_185) rfl k) ?_
              refine own_st (T' := T26) (F' := (mkF m 191 #[.val (.long x0), .second, .val (.long x1), .second, .val (.long rr), .second, .val (.long bb), .second, .val (.double (FP.ddiv (FP.l2d bb) (FP.l2d rr))), .second, .val (.int (1 : Int32)), .val (.double (FP.ddiv (FP.l2d ((2 : Int64) * bb)) (FP.l2d ((2 : Int64) * rr)))), .second, .unset, .unset, .unset, .unset, .unset, .unset] [(.long (bb + (1 : Int64)))])) (fun _ k => XS.goto X26.here hx rfl (pc0 := 186) (pc' := 191) rfl (hb hby at_186) (by decide) (by decide) k) ?_
              exact J191_27 (bb + (1 : Int64)) (Or.inr (⟨hc179, rfl⟩))
        refine own_iflc X9 hx (pc' := 127) (pc2 := 108) (hb hby at_105) (by decide) (by decide) rfl (fun (hc105 : ¬ (bb = rr)) => ?_) (fun (hc105 : bb = rr) => ?_)
        ·
          exact J127_11  (Or.inl (hc105))
        ·
          refine own_st (T' := T9) (F' := (mkF m 110 #[.val (.long x0), .second, .val (.long x1), .second, .val (.long rr), .second, .val (.long bb), .second, .val (.double (FP.ddiv (FP.l2d bb) (FP.l2d rr))), .second, .val (.int (1 : Int32)), .unset, .unset, .unset, .unset, .unset, .unset, .unset, .unset] [(.int (1 : Int32))])) (fun _ k => XS.iload X9.here hx rfl (hb hby at_108) rfl  k) ?_
          refine own_ifc X9 hx (pc' := 124) (pc2 := 113) (hb hby at_110) (by decide) (by decide) rfl (fun (hc110 : (1 : Int32) = (0 : Int32)) => ?_) (fun (hc110 : ¬ ((1 : Int32) = (0 : Int32))) => ?_)
          · exact absurd hc110 (by decide)
          refine own_st (T' := T9) (F' := (mkF m 115 #[.val (.long x0), .second, .val (.long x1), .second, .val (.long rr), .second, .val (.long bb), .second, .val (.double (FP.ddiv (FP.l2d bb) (FP.l2d rr))), .second, .val (.int (1 : Int32)), .unset, .unset, .unset, .unset, .unset, .unset, .unset, .unset] [(.double (FP.ddiv (FP.l2d bb) (FP.l2d rr)))])) (fun _ k => XS.dload X9.here hx rfl (hb hby at_113) rfl  k) ?_
          refine own_st (T' := T9) (F' := (mkF m 116 #[.val (.long x0), .second, .val (.long x1), .second, .val (.long rr), .second, .val (.long bb), .second, .val (.double (FP.ddiv (FP.l2d bb) (FP.l2d rr))), .second, .val (.int (1 : Int32)), .unset, .unset, .unset, .unset, .unset, .unset, .unset, .unset] [(.double FP.dconst1), (.double (FP.ddiv (FP.l2d bb) (FP.l2d rr)))])) (fun _ k => XS.dconst1 X9.here hx rfl (hb hby at_115) rfl k) ?_
          refine own_st (T' := T9) (F' := (mkF m 117 #[.val (.long x0), .second, .val (.long x1), .second, .val (.long rr), .second, .val (.long bb), .second, .val (.double (FP.ddiv (FP.l2d bb) (FP.l2d rr))), .second, .val (.int (1 : Int32)), .unset, .unset, .unset, .unset, .unset, .unset, .unset, .unset] [(.int (cmpValue (FP.dcmp (FP.ddiv (FP.l2d bb) (FP.l2d rr)) FP.dconst1) .l))])) (fun _ k => XS.dcmpS X9.here hx rfl (hb hby at_116) rfl rfl k) ?_
          refine own_ifc X9 hx (pc' := 124) (pc2 := 120) (hb hby at_117) (by decide) (by decide) rfl (fun (hc117 : ¬ ((cmpValue (FP.dcmp (FP.ddiv (FP.l2d bb) (FP.l2d rr)) FP.dconst1) .l) = (0 : Int32))) => ?_) (fun (hc117 : (cmpValue (FP.dcmp (FP.ddiv (FP.l2d bb) (FP.l2d rr)) FP.dconst1) .l) = (0 : Int32)) => ?_)
          ·
            exact absurd (own_L5 hH hc105) hc117
          ·
            refine own_st (T' := T9) (F' := (mkF m 121 #[.val (.long x0), .second, .val (.long x1), .second, .val (.long rr), .second, .val (.long bb), .second, .val (.double (FP.ddiv (FP.l2d bb) (FP.l2d rr))), .second, .val (.int (1 : Int32)), .unset, .unset, .unset, .unset, .unset, .unset, .unset, .unset] [(.int (1 : Int32))])) (fun _ k => XS.iconst X9.here hx rfl (hb hby at_120) k) ?_
            refine own_st (T' := T9) (F' := (mkF m 125 #[.val (.long x0), .second, .val (.long x1), .second, .val (.long rr), .second, .val (.long bb), .second, .val (.double (FP.ddiv (FP.l2d bb) (FP.l2d rr))), .second, .val (.int (1 : Int32)), .unset, .unset, .unset, .unset, .unset, .unset, .unset, .unset] [(.int (1 : Int32))])) (fun _ k => XS.goto X9.here hx rfl (pc0 := 121) (pc' := 125) rfl (hb hby at_121) (by decide) (by decide) k) ?_
            refine own_st (T' := T9) (F' := (mkF m 127 #[.val (.long x0), .second, .val (.long x1), .second, .val (.long rr), .second, .val (.long bb), .second, .val (.double (FP.ddiv (FP.l2d bb) (FP.l2d rr))), .second, .val (.int (1 : Int32)), .unset, .unset, .unset, .unset, .unset, .unset, .unset, .unset] [])) (fun _ k => XS.istore X9.here hx rfl (hb hby at_125) rfl (l' := #[.val (.long x0), .second, .val (.long x1), .second, .val (.long rr), .second, .val (.long bb), .second, .val (.double (FP.ddiv (FP.l2d bb) (FP.l2d rr))), .second, .val (.int (1 : Int32)), .unset, .unset, .unset, .unset, .unset, .unset, .unset, .unset]) rfl k) ?_
            exact J127_11  (Or.inr (⟨hc105, hc117⟩))
      refine own_iflc X9 hx (pc' := 77) (pc2 := 73) (hb hby at_70) (by decide) (by decide) rfl (fun (hc70 : ¬ (bb = (0 : Int64))) => ?_) (fun (hc70 : bb = (0 : Int64)) => ?_)
      ·
        refine own_st (T' := T9) (F' := (mkF m 78 #[.val (.long x0), .second, .val (.long x1), .second, .val (.long rr), .second, .val (.long bb), .second, .val (.double (FP.ddiv (FP.l2d bb) (FP.l2d rr))), .second, .val (.int (1 : Int32)), .unset, .unset, .unset, .unset, .unset, .unset, .unset, .unset] [(.int (0 : Int32))])) (fun _ k => XS.iconst X9.here hx rfl (hb hby at_77) k) ?_
        refine own_st (T' := T9) (F' := (mkF m 80 #[.val (.long x0), .second, .val (.long x1), .second, .val (.long rr), .second, .val (.long bb), .second, .val (.double (FP.ddiv (FP.l2d bb) (FP.l2d rr))), .second, .val (.int (1 : Int32)), .unset, .unset, .unset, .unset, .unset, .unset, .unset, .unset] [(.double (FP.ddiv (FP.l2d bb) (FP.l2d rr))), (.int (0 : Int32))])) (fun _ k => XS.dload X9.here hx rfl (hb hby at_78) rfl  k) ?_
        refine own_st (T' := T9) (F' := (mkF m 81 #[.val (.long x0), .second, .val (.long x1), .second, .val (.long rr), .second, .val (.long bb), .second, .val (.double (FP.ddiv (FP.l2d bb) (FP.l2d rr))), .second, .val (.int (1 : Int32)), .unset, .unset, .unset, .unset, .unset, .unset, .unset, .unset] [(.double FP.dconst0), (.double (FP.ddiv (FP.l2d bb) (FP.l2d rr))), (.int (0 : Int32))])) (fun _ k => XS.dconst0 X9.here hx rfl (hb hby at_80) rfl k) ?_
        refine own_st (T' := T9) (F' := (mkF m 82 #[.val (.long x0), .second, .val (.long x1), .second, .val (.long rr), .second, .val (.long bb), .second, .val (.double (FP.ddiv (FP.l2d bb) (FP.l2d rr))), .second, .val (.int (1 : Int32)), .unset, .unset, .unset, .unset, .unset, .unset, .unset, .unset] [(.int (cmpValue (FP.dcmp (FP.ddiv (FP.l2d bb) (FP.l2d rr)) FP.dconst0) .l)), (.int (0 : Int32))])) (fun _ k => XS.dcmpS X9.here hx rfl (hb hby at_81) rfl rfl k) ?_
        refine own_ifc X9 hx (pc' := 89) (pc2 := 85) (hb hby at_82) (by decide) (by decide) rfl (fun (hc82 : ¬ ((cmpValue (FP.dcmp (FP.ddiv (FP.l2d bb) (FP.l2d rr)) FP.dconst0) .l) = (0 : Int32))) => ?_) (fun (hc82 : (cmpValue (FP.dcmp (FP.ddiv (FP.l2d bb) (FP.l2d rr)) FP.dconst0) .l) = (0 : Int32)) => ?_)
        ·
          refine own_st (T' := T9) (F' := (mkF m 90 #[.val (.long x0), .second, .val (.long x1), .second, .val (.long rr), .second, .val (.long bb), .second, .val (.double (FP.ddiv (FP.l2d bb) (FP.l2d rr))), .second, .val (.int (1 : Int32)), .unset, .unset, .unset, .unset, .unset, .unset, .unset, .unset] [(.int (0 : Int32)), (.int (0 : Int32))])) (fun _ k => XS.iconst X9.here hx rfl (hb hby at_89) k) ?_
          refine own_icmp X9 hx (pc' := 97) (pc2 := 93) (hb hby at_90) (by decide) (by decide) rfl (fun (hc90 : ¬ ((0 : Int32) = (0 : Int32))) => ?_) (fun (hc90 : (0 : Int32) = (0 : Int32)) => ?_)
          · exact absurd hc90 (by decide)
          refine own_st (T' := T9) (F' := (mkF m 94 #[.val (.long x0), .second, .val (.long x1), .second, .val (.long rr), .second, .val (.long bb), .second, .val (.double (FP.ddiv (FP.l2d bb) (FP.l2d rr))), .second, .val (.int (1 : Int32)), .unset, .unset, .unset, .unset, .unset, .unset, .unset, .unset] [(.int (1 : Int32))])) (fun _ k => XS.iconst X9.here hx rfl (hb hby at_93) k) ?_
          refine own_st (T' := T9) (F' := (mkF m 98 #[.val (.long x0), .second, .val (.long x1), .second, .val (.long rr), .second, .val (.long bb), .second, .val (.double (FP.ddiv (FP.l2d bb) (FP.l2d rr))), .second, .val (.int (1 : Int32)), .unset, .unset, .unset, .unset, .unset, .unset, .unset, .unset] [(.int (1 : Int32))])) (fun _ k => XS.goto X9.here hx rfl (pc0 := 94) (pc' := 98) rfl (hb hby at_94) (by decide) (by decide) k) ?_
          refine own_st (T' := T9) (F' := (mkF m 100 #[.val (.long x0), .second, .val (.long x1), .second, .val (.long rr), .second, .val (.long bb), .second, .val (.double (FP.ddiv (FP.l2d bb) (FP.l2d rr))), .second, .val (.int (1 : Int32)), .unset, .unset, .unset, .unset, .unset, .unset, .unset, .unset] [])) (fun _ k => XS.istore X9.here hx rfl (hb hby at_98) rfl (l' := #[.val (.long x0), .second, .val (.long x1), .second, .val (.long rr), .second, .val (.long bb), .second, .val (.double (FP.ddiv (FP.l2d bb) (FP.l2d rr))), .second, .val (.int (1 : Int32)), .unset, .unset, .unset, .unset, .unset, .unset, .unset, .unset]) rfl k) ?_
          exact J100_10  (Or.inl (⟨hc70, hc82⟩))
        ·
          exact absurd hc82 (own_L4 hH hc70)
      ·
        refine own_st (T' := T9) (F' := (mkF m 74 #[.val (.long x0), .second, .val (.long x1), .second, .val (.long rr), .second, .val (.long bb), .second, .val (.double (FP.ddiv (FP.l2d bb) (FP.l2d rr))), .second, .val (.int (1 : Int32)), .unset, .unset, .unset, .unset, .unset, .unset, .unset, .unset] [(.int (1 : Int32))])) (fun _ k => XS.iconst X9.here hx rfl (hb hby at_73) k) ?_
        refine own_st (T' := T9) (F' := (mkF m 78 #[.val (.long x0), .second, .val (.long x1), .second, .val (.long rr), .second, .val (.long bb), .second, .val (.double (FP.ddiv (FP.l2d bb) (FP.l2d rr))), .second, .val (.int (1 : Int32)), .unset, .unset, .unset, .unset, .unset, .unset, .unset, .unset] [(.int (1 : Int32))])) (fun _ k => XS.goto X9.here hx rfl (pc0 := 74) (pc' := 78) rfl (hb hby at_74) (by decide) (by decide) k) ?_
        refine own_st (T' := T9) (F' := (mkF m 80 #[.val (.long x0), .second, .val (.long x1), .second, .val (.long rr), .second, .val (.long bb), .second, .val (.double (FP.ddiv (FP.l2d bb) (FP.l2d rr))), .second, .val (.int (1 : Int32)), .unset, .unset, .unset, .unset, .unset, .unset, .unset, .unset] [(.double (FP.ddiv (FP.l2d bb) (FP.l2d rr))), (.int (1 : Int32))])) (fun _ k => XS.dload X9.here hx rfl (hb hby at_78) rfl  k) ?_
        refine own_st (T' := T9) (F' := (mkF m 81 #[.val (.long x0), .second, .val (.long x1), .second, .val (.long rr), .second, .val (.long bb), .second, .val (.double (FP.ddiv (FP.l2d bb) (FP.l2d rr))), .second, .val (.int (1 : Int32)), .unset, .unset, .unset, .unset, .unset, .unset, .unset, .unset] [(.double FP.dconst0), (.double (FP.ddiv (FP.l2d bb) (FP.l2d rr))), (.int (1 : Int32))])) (fun _ k => XS.dconst0 X9.here hx rfl (hb hby at_80) rfl k) ?_
        refine own_st (T' := T9) (F' := (mkF m 82 #[.val (.long x0), .second, .val (.long x1), .second, .val (.long rr), .second, .val (.long bb), .second, .val (.double (FP.ddiv (FP.l2d bb) (FP.l2d rr))), .second, .val (.int (1 : Int32)), .unset, .unset, .unset, .unset, .unset, .unset, .unset, .unset] [(.int (cmpValue (FP.dcmp (FP.ddiv (FP.l2d bb) (FP.l2d rr)) FP.dconst0) .l)), (.int (1 : Int32))])) (fun _ k => XS.dcmpS X9.here hx rfl (hb hby at_81) rfl rfl k) ?_
        refine own_ifc X9 hx (pc' := 89) (pc2 := 85) (hb hby at_82) (by decide) (by decide) rfl (fun (hc82 : ¬ ((cmpValue (FP.dcmp (FP.ddiv (FP.l2d bb) (FP.l2d rr)) FP.dconst0) .l) = (0 : Int32))) => ?_) (fun (hc82 : (cmpValue (FP.dcmp (FP.ddiv (FP.l2d bb) (FP.l2d rr)) FP.dconst0) .l) = (0 : Int32)) => ?_)
        ·
          exact absurd (own_L3 hH hc70) hc82
        ·
          refine own_st (T' := T9) (F' := (mkF m 86 #[.val (.long x0), .second, .val (.long x1), .second, .val (.long rr), .second, .val (.long bb), .second, .val (.double (FP.ddiv (FP.l2d bb) (FP.l2d rr))), .second, .val (.int (1 : Int32)), .unset, .unset, .unset, .unset, .unset, .unset, .unset, .unset] [(.int (1 : Int32)), (.int (1 : Int32))])) (fun _ k => XS.iconst X9.here hx rfl (hb hby at_85) k) ?_
          refine own_st (T' := T9) (F' := (mkF m 90 #[.val (.long x0), .second, .val (.long x1), .second, .val (.long rr), .second, .val (.long bb), .second, .val (.double (FP.ddiv (FP.l2d bb) (FP.l2d rr))), .second, .val (.int (1 : Int32)), .unset, .unset, .unset, .unset, .unset, .unset, .unset, .unset] [(.int (1 : Int32)), (.int (1 : Int32))])) (fun _ k => XS.goto X9.here hx rfl (pc0 := 86) (pc' := 90) rfl (hb hby at_86) (by decide) (by decide) k) ?_
          refine own_icmp X9 hx (pc' := 97) (pc2 := 93) (hb hby at_90) (by decide) (by decide) rfl (fun (hc90 : ¬ ((1 : Int32) = (1 : Int32))) => ?_) (fun (hc90 : (1 : Int32) = (1 : Int32)) => ?_)
          · exact absurd hc90 (by decide)
          refine own_st (T' := T9) (F' := (mkF m 94 #[.val (.long x0), .second, .val (.long x1), .second, .val (.long rr), .second, .val (.long bb), .second, .val (.double (FP.ddiv (FP.l2d bb) (FP.l2d rr))), .second, .val (.int (1 : Int32)), .unset, .unset, .unset, .unset, .unset, .unset, .unset, .unset] [(.int (1 : Int32))])) (fun _ k => XS.iconst X9.here hx rfl (hb hby at_93) k) ?_
          refine own_st (T' := T9) (F' := (mkF m 98 #[.val (.long x0), .second, .val (.long x1), .second, .val (.long rr), .second, .val (.long bb), .second, .val (.double (FP.ddiv (FP.l2d bb) (FP.l2d rr))), .second, .val (.int (1 : Int32)), .unset, .unset, .unset, .unset, .unset, .unset, .unset, .unset] [(.int (1 : Int32))])) (fun _ k => XS.goto X9.here hx rfl (pc0 := 94) (pc' := 98) rfl (hb hby at_94) (by decide) (by decide) k) ?_
          refine own_st (T' := T9) (F' := (mkF m 100 #[.val (.long x0), .second, .val (.long x1), .second, .val (.long rr), .second, .val (.long bb), .second, .val (.double (FP.ddiv (FP.l2d bb) (FP.l2d rr))), .second, .val (.int (1 : Int32)), .unset, .unset, .unset, .unset, .unset, .unset, .unset, .unset] [])) (fun _ k => XS.istore X9.here hx rfl (hb hby at_98) rfl (l' := #[.val (.long x0), .second, .val (.long x1), .second, .val (.long rr), .second, .val (.long bb), .second, .val (.double (FP.ddiv (FP.l2d bb) (FP.l2d rr))), .second, .val (.int (1 : Int32)), .unset, .unset, .unset, .unset, .unset, .unset, .unset, .unset]) rfl k) ?_
          exact J100_10  (Or.inr (⟨hc70, hc82⟩))
set_option maxRecDepth 65536 in
set_option maxHeartbeats 40000000 in
theorem comes_1 {Post : Tables → Env → Array Value → State → Outcome → State → Prop} (hpost : ∀ tb e args s v u, (limb_1_1.after args s (.returned v) u = true ∧ limb_1_2.after args s (.returned v) u = true ∧ True) → FrameEnd s (.returned v) u (Jvm.fieldLocs frame_1_writes args s ++ Jvm.arrayLocs frame_1_arrays args s ++ Jvm.staticLocs frame_1_statics s) 16 128 → Post tb e args s (.returned v) u) :
    ArmFor flags0 classFile x code maxLocals ret World_1 tables_1 room_1 Calls_1 rest_1 Pre_1 Post := by
  intro l hfl _ _ p e ha hc hk s m args below hf hA hF happ hP
  obtain ⟨hcalls, hrest, hpre⟩ := hP
  obtain ⟨-, -, -, hnamed, -, -, -, hat⟩ := (Spec.applies_iff hf).mp happ
  obtain ⟨hg, hn⟩ := and_e (Cond.before_iff.mp (show (Jvm.Cond.and given_1 narrow_1).before args s = true from hpre))
  obtain ⟨g0, hg0⟩ := and_e hg
  obtain ⟨g1, hg1⟩ := and_e hg0
  obtain ⟨w0, w1, rfl⟩ : ∃ w0 w1 : Value, args = #[w0, w1] := by
    have hs : args.size = 2 := by simpa [Cond.value, given_1] using g0
    obtain ⟨L⟩ := args
    match L, hs with
    | [w0, w1], _ => exact ⟨w0, w1, rfl⟩
  have hw := fun d (hd : d ∈ tables_1) => atoms_spec (ws := Jvm.Cond.code x code maxLocals ret :: tables_1) hat d (List.mem_cons_of_mem _ hd)
  have hfit : Fit s := fun {y c} hc i hi => by
    obtain ⟨ha, rfl⟩ := Array.getElem?_eq_some_iff.mp hc
    have q := List.all_eq_true.mp ((Array.all_eq_true_iff_forall_mem.mp hF) _ (Array.getElem_mem ha)) i (List.mem_range.mpr hi)
    simpa [Array.getElem?_eq_getElem hi] using q
  obtain ⟨i0, ei0⟩ := isL_v g1
  obtain rfl : w0 = (.long i0) := Option.some.inj ei0
  obtain ⟨i1, ei1⟩ := isL_v hg1
  obtain rfl : w1 = (.long i1) := Option.some.inj ei1
  obtain ⟨n, o, h1, h2, h3, _, L, rfl, ⟨⟨_, rfl, rfl⟩, N⟩, hq⟩ := rm0 l s _ hw tables_1 i0 i1  s.heap s.heap.size (Nat.le_refl _)  p e ha hc hk s m _ below hf ((Spec.applies_iff_loose hf).mp happ).1 ⟨rfl, State.Warmed39.refl s, rfl⟩ trivial
  refine ⟨n, _, h1, h2, h3, hpost _ _ _ _ _ _ ⟨Cond.after_iff.mpr rfl, Cond.after_iff.mpr (eq_i res_at (Term.int_eval (1)) rfl), trivial⟩ ⟨hq.1, hq.2.1, (hq.2.2.sift fun y hy => Or.inr (N y hy)).mono (by decide) (by decide)⟩⟩
theorem main_1_1 : Claimed_1_1 := comes_1 fun _ _ _ _ _ _ h hF => ⟨h.1, hF⟩
theorem main_1_2 : Claimed_1_2 := comes_1 fun _ _ _ _ _ _ h hF => ⟨h.2.1, hF⟩
end Jvm.Pilot.@@N@@
namespace Jvm.Pilot.@@N@@
open Jvm Jvm.ClassFile Sem Op Lib Jvm.Free Jvm.Stand Jvm.Pilot.@@N@@.Jvm.D
/-! MADE BY PROGRAM (witnessworld.py) out of the Statement's table words and the real class files: 10 classes; the members and pool entries that the words name. The judged class is class 1, her method 1. -/
namespace start1
open Jvm.ClassFile
def u (s : String) : CpInfo := .utf8 (stringToUtf16 s)
/-- a pool by its gaps: so many unusable entries, then the entry; so many at the end -/
def gap : Nat → List CpInfo → List CpInfo
  | 0, r => r
  | n + 1, r => .unusable :: gap n r
def poolList (es : List (Nat × CpInfo)) (last : Nat) : List CpInfo := es.foldr (fun e r => gap e.1 (e.2 :: r)) (gap last [])
def pool (es : List (Nat × CpInfo)) (last : Nat) : Array CpInfo := ⟨poolList es last⟩
def fileOf (pool : Array CpInfo) (this : Nat) (attrs : Array Attribute := #[]) (ms : Array MethodInfo := #[]) (fl : Nat := 33) (sup : Nat := 0) (ifs : Array Nat := #[]) (fds : Array FieldInfo := #[]) : ClassFile where
  minorVersion := 0
  majorVersion := 65
  constantPool := pool
  accessFlags := fl
  thisClass := this
  superClass := sup
  interfaces := ifs
  fields := fds
  methods := ms
  attributes := attrs
def plain (name : String) (sup : Option ClassId) : Class where
  name := name
  kind := .ordinary
  loader := none
  accessFlags := 33
  super := sup
  interfaces := #[]
  cf := none
  fields := #[]
  methods := #[]
  instanceTypes := #[]
  staticTypes := #[]
  resolved := #[]
  callSites := []
  init := .initialized
  statics := none
  mirror := none

def pool0 : Array CpInfo := pool [(5, u "<init>"), (0, u "()V"), (1, .class_ 10), (1, u "java/lang/Object")] 113

def k0c0 : Code := { maxStack := 0, maxLocals := 1, code := object_method_1_code, exceptionTable := #[], attributes := #[] }
def k0m0 : Method := { name := "<init>", desc := "()V", sig := { parameters := [], returnType := none }, accessFlags := 1, code := some k0c0 }
/-- java/lang/Object -/
def k0 : Class := { plain "java/lang/Object" none with
  accessFlags := 33
  interfaces := #[]
  cf := some (fileOf pool0 8 #[] #[{ accessFlags := 1, nameIndex := 5, descriptorIndex := 6, attributes := #[] }] 33 0 #[] #[])
  fields := #[]
  methods := #[k0m0]
  instanceTypes := #[]
  staticTypes := #[]
  resolved := Array.replicate 124 none
  statics := none }

def pool1 : Array CpInfo := pool [(2, .class_ 4), (1, u "java/lang/Object"), (0, u "<init>"), (0, u "()V"), (0, .long 2305843009213693951), (3, .long 9223372036854775807), (1, .class_ 14), (0, u "com/example/slotter/slotter/engine/SimulationResult"), (0, .methodref 13 16), (0, .nameAndType 5 17), (0, u "(JJDDD)V"), (0, .methodref 13 19), (0, .nameAndType 20 21), (0, u "blocking"), (0, u "()D"), (0, .long 2), (1, .double 4602678819172646912), (1, .class_ 27), (0, u "com/example/slotter/slotter/engine/SimulationResultBlockingPinLaw"), (2, u "law"), (0, u "(JJ)Z")] 3

def k1m0 : Method := { name := "<init>", desc := "()V", sig := { parameters := [], returnType := none }, accessFlags := 1, code := none }
def k1c1 : Code := { maxStack := 12, maxLocals := 19, code := code, exceptionTable := #[], attributes := #[] }
def k1m1 : Method := { name := "law", desc := "(JJ)Z", sig := { parameters := [.long, .long], returnType := some .boolean }, accessFlags := 9, code := some k1c1 }
/-- com/example/slotter/slotter/engine/SimulationResultBlockingPinLaw -/
def k1 : Class := { plain "com/example/slotter/slotter/engine/SimulationResultBlockingPinLaw" (some 0) with
  accessFlags := 49
  interfaces := #[]
  cf := some (fileOf pool1 26 #[] #[{ accessFlags := 1, nameIndex := 5, descriptorIndex := 6, attributes := #[] }, { accessFlags := 9, nameIndex := 30, descriptorIndex := 31, attributes := #[] }] 49 2 #[] #[])
  fields := #[]
  methods := #[k1m0, k1m1]
  instanceTypes := #[]
  staticTypes := #[]
  resolved := Array.replicate 35 none
  statics := none }

def pool2 : Array CpInfo := pool [(1, .methodref 2 3), (0, .class_ 4), (0, .nameAndType 5 6), (0, u "java/lang/Object"), (0, u "<init>"), (0, u "()V"), (0, .class_ 8), (0, u "java/lang/Record")] 13

def k2c0 : Code := { maxStack := 1, maxLocals := 1, code := jdk_30_method_1_code, exceptionTable := #[], attributes := #[] }
def k2m0 : Method := { name := "<init>", desc := "()V", sig := { parameters := [], returnType := none }, accessFlags := 4, code := some k2c0 }
/-- java/lang/Record -/
def k2 : Class := { plain "java/lang/Record" (some 0) with
  accessFlags := 1057
  interfaces := #[]
  cf := some (fileOf pool2 7 #[] #[{ accessFlags := 4, nameIndex := 5, descriptorIndex := 6, attributes := #[] }] 1057 2 #[] #[])
  fields := #[]
  methods := #[k2m0]
  instanceTypes := #[]
  staticTypes := #[]
  resolved := Array.replicate 22 none
  statics := none }

def pool3 : Array CpInfo := pool [(1, .methodref 2 3), (0, .class_ 4), (0, .nameAndType 5 6), (0, u "java/lang/Record"), (0, u "<init>"), (0, u "()V"), (0, .fieldref 8 9), (0, .class_ 10), (0, .nameAndType 11 12), (0, u "com/example/slotter/slotter/engine/SimulationResult"), (0, u "requests"), (0, u "J"), (0, .fieldref 8 14), (0, .nameAndType 15 12), (0, u "blocked"), (0, .fieldref 8 17), (0, .nameAndType 18 19), (0, u "ci95HalfWidth"), (0, u "D"), (0, .fieldref 8 21), (0, .nameAndType 22 19), (0, u "meanHops"), (0, .fieldref 8 24), (0, .nameAndType 25 19), (0, u "meanKm"), (12, u "(JJDDD)V"), (3, u "blocking"), (0, u "()D")] 28

def k3c0 : Code := { maxStack := 3, maxLocals := 11, code := prog_10_method_1_code, exceptionTable := #[], attributes := #[] }
def k3m0 : Method := { name := "<init>", desc := "(JJDDD)V", sig := { parameters := [.long, .long, .double, .double, .double], returnType := none }, accessFlags := 1, code := some k3c0 }
def k3c1 : Code := { maxStack := 4, maxLocals := 1, code := prog_10_method_2_code, exceptionTable := #[], attributes := #[] }
def k3m1 : Method := { name := "blocking", desc := "()D", sig := { parameters := [], returnType := some .double }, accessFlags := 1, code := some k3c1 }
/-- com/example/slotter/slotter/engine/SimulationResult -/
def k3 : Class := { plain "com/example/slotter/slotter/engine/SimulationResult" (some 2) with
  accessFlags := 49
  interfaces := #[]
  cf := some (fileOf pool3 8 #[] #[{ accessFlags := 1, nameIndex := 5, descriptorIndex := 38, attributes := #[] }, { accessFlags := 1, nameIndex := 42, descriptorIndex := 43, attributes := #[] }] 49 2 #[] #[{ accessFlags := 18, nameIndex := 11, descriptorIndex := 12, attributes := #[] }, { accessFlags := 18, nameIndex := 15, descriptorIndex := 12, attributes := #[] }, { accessFlags := 18, nameIndex := 18, descriptorIndex := 19, attributes := #[] }, { accessFlags := 18, nameIndex := 22, descriptorIndex := 19, attributes := #[] }, { accessFlags := 18, nameIndex := 25, descriptorIndex := 19, attributes := #[] }])
  fields := #[{ name := "requests", type := .long, accessFlags := 18, slot := 0, constantValue := 0 }, { name := "blocked", type := .long, accessFlags := 18, slot := 1, constantValue := 0 }, { name := "ci95HalfWidth", type := .double, accessFlags := 18, slot := 2, constantValue := 0 }, { name := "meanHops", type := .double, accessFlags := 18, slot := 3, constantValue := 0 }, { name := "meanKm", type := .double, accessFlags := 18, slot := 4, constantValue := 0 }]
  methods := #[k3m0, k3m1]
  instanceTypes := #[.long, .long, .double, .double, .double]
  staticTypes := #[]
  resolved := Array.replicate 72 none
  statics := none }

def pool4 : Array CpInfo := pool [(1, u "java/lang/Cloneable"), (0, .class_ 1), (0, u "java/lang/Object"), (0, .class_ 3)] 3

/-- java/lang/Cloneable -/
def k4 : Class := { plain "java/lang/Cloneable" (some 0) with
  accessFlags := 1537
  interfaces := #[]
  cf := some (fileOf pool4 2 #[] #[] 1537 4 #[] #[])
  fields := #[]
  methods := #[]
  instanceTypes := #[]
  staticTypes := #[]
  resolved := Array.replicate 8 none
  statics := none }

def pool5 : Array CpInfo := pool [(1, u "java/io/Serializable"), (0, .class_ 1), (0, u "java/lang/Object"), (0, .class_ 3)] 3

/-- java/io/Serializable -/
def k5 : Class := { plain "java/io/Serializable" (some 0) with
  accessFlags := 1537
  interfaces := #[]
  cf := some (fileOf pool5 2 #[] #[] 1537 4 #[] #[])
  fields := #[]
  methods := #[]
  instanceTypes := #[]
  staticTypes := #[]
  resolved := Array.replicate 8 none
  statics := none }

/-- the primitive byte -/
def k6 : Class := { plain "byte" none with kind := .primitive 'B', accessFlags := 0x411 }
/-- [B -/
def k7 : Class := { plain "[B" (some 0) with kind := .array 6 .byte, interfaces := #[4, 5], accessFlags := 1041 }

/-- the primitive int -/
def k8 : Class := { plain "int" none with kind := .primitive 'I', accessFlags := 0x411 }
/-- [I -/
def k9 : Class := { plain "[I" (some 0) with kind := .array 8 .int, interfaces := #[4, 5], accessFlags := 1041 }

def heap : Heap := #[]
def classes : Array Class := #[k0, k1, k2, k3, k4, k5, k6, k7, k8, k9]
def interned : List (Array UInt16 × Addr) := []
def slotsUsed : Nat := 0
def theMethod : MethodId := ⟨1, 1⟩
def args0 : Array Value := #[.long 5, .long 3]
def aboutOver (below : List Frame) : State where
  vm := { classes := classes, interned := interned.toArray }
  heap := heap
  slotsUsed := slotsUsed
  threads := #[{ frames := .invoking theMethod args0 :: below }]
def below0 : List Frame := [.native { method := ⟨0, 0⟩, args := #[] }]
def about1 : State := aboutOver below0
def p0 : Program := .bare "" "" ""
def e0 : Env := launch0.env 0 0 0
theorem w_frames : about1.frames = Frame.invoking theMethod args0 :: below0 := rfl
set_option maxRecDepth 65536 in
theorem w_args : argsFit about1.vm theMethod args0 = true := by decide +kernel
set_option maxRecDepth 65536 in
theorem w_heap : heapFits about1 = true := by decide +kernel
set_option maxRecDepth 65536 in
theorem w_runnable : about1.curStatus? = some .runnable := by decide +kernel
set_option maxRecDepth 65536 in
theorem w_alone : about1.alone = true := by decide +kernel
set_option maxRecDepth 65536 in
theorem w_named : about1.methodNamed? x = some theMethod := by decide +kernel
set_option maxRecDepth 65536 in
theorem w_hears : about1.hears theMethod below0 = true := by decide +kernel
set_option maxRecDepth 65536 in
theorem w_ripe : about1.ripe theMethod args0 below0 = true := by decide +kernel
theorem w_running : about1.status = .running := rfl
set_option maxRecDepth 65536 in
theorem w_room : about1.hasRoom e0.platform room_1 = true :=
  launch0.hasRoom_least _ room_1 (by decide +kernel) (by decide +kernel) (by decide +kernel) (by decide +kernel) (by decide +kernel) (by decide +kernel)
theorem allAtoms_all (ts : List Jvm.Cond) (a : Array Jvm.Value) (st : Jvm.State) : (allAtoms ts).before a st = ts.all (fun c => c.before a st) := by
  induction ts with
  | nil => rfl
  | cons c t ih =>
    show (Jvm.Cond.and c (allAtoms t)).before a st = _
    rw [Jvm.Cond.before_and, ih, List.all_cons]
def words1 : List Jvm.Cond := Jvm.Cond.code x code maxLocals ret :: tables_1
/-- a 'code' word, met by the world's own term for the bytes: nothing is compared byte by byte -/
theorem code_word {y : MethodName} {bytes : ByteArray} {mx : Nat} {rt : Option FieldType} {a : Array Value} {s : State} {m : MethodId} {meth : Method} {c : Code} (h1 : s.methodNamed? y = some m) (h2 : s.vm.method? m = some meth) (h3 : meth.code = some c) (h4 : c.code = bytes)
    (h5 : (c.maxLocals == mx && c.exceptionTable.isEmpty && decide (c.maxStack ≤ mostOperands) && decide (meth.sig.returnType = rt) && !meth.locks && decide (parseMethodDescriptor y.desc = some meth.sig)) = true) : (Jvm.Cond.code y bytes mx rt).before a s = true := by
  simp only [Bool.and_eq_true, beq_iff_eq, Bool.not_eq_true', decide_eq_true_eq] at h5
  obtain ⟨⟨⟨⟨⟨g1, g2⟩, g3⟩, g4⟩, g5⟩, g6⟩ := h5
  simp [Cond.before, Cond.holds, Cond.value, h1, h2, h3, h4, g1, g2, g3, g4, g5, g6]
def isCode : Jvm.Cond → Bool
  | .code _ _ _ _ => true
  | _ => false
theorem all_split {L : List Jvm.Cond} {P : Jvm.Cond → Bool} (h1 : L.all (fun c => isCode c || P c) = true) (h2 : ∀ c ∈ L.filter isCode, P c = true) : L.all P = true := by
  refine List.all_eq_true.mpr fun c hc => ?_
  have h := List.all_eq_true.mp h1 c hc
  rcases Bool.eq_false_or_eq_true (isCode c) with hi | hi
  · exact h2 c (List.mem_filter.mpr ⟨hc, hi⟩)
  · simpa [hi] using h
set_option maxRecDepth 65536 in
theorem w_c0 : (Jvm.Cond.code x code maxLocals ret).before args0 about1 = true := code_word (m := ⟨1, 1⟩) (meth := k1m1) (c := k1c1) (by decide +kernel) rfl rfl rfl (by decide +kernel)
set_option maxRecDepth 65536 in
theorem w_c1 : (Jvm.Cond.code ({ cls := "com/example/slotter/slotter/engine/SimulationResult", name := "<init>", desc := "(JJDDD)V" } : Jvm.MethodName) prog_10_method_1_code (11 : Nat) (Option.none : Option Jvm.ClassFile.FieldType)).before args0 about1 = true := code_word (m := ⟨3, 0⟩) (meth := k3m0) (c := k3c0) (by decide +kernel) rfl rfl rfl (by decide +kernel)
set_option maxRecDepth 65536 in
theorem w_c2 : (Jvm.Cond.code ({ cls := "java/lang/Record", name := "<init>", desc := "()V" } : Jvm.MethodName) jdk_30_method_1_code (1 : Nat) (Option.none : Option Jvm.ClassFile.FieldType)).before args0 about1 = true := code_word (m := ⟨2, 0⟩) (meth := k2m0) (c := k2c0) (by decide +kernel) rfl rfl rfl (by decide +kernel)
set_option maxRecDepth 65536 in
theorem w_c3 : (Jvm.Cond.code ({ cls := "java/lang/Object", name := "<init>", desc := "()V" } : Jvm.MethodName) object_method_1_code (1 : Nat) (Option.none : Option Jvm.ClassFile.FieldType)).before args0 about1 = true := code_word (m := ⟨0, 0⟩) (meth := k0m0) (c := k0c0) (by decide +kernel) rfl rfl rfl (by decide +kernel)
set_option maxRecDepth 65536 in
theorem w_c4 : (Jvm.Cond.code ({ cls := "com/example/slotter/slotter/engine/SimulationResult", name := "blocking", desc := "()D" } : Jvm.MethodName) prog_10_method_2_code (1 : Nat) (Option.some Jvm.ClassFile.FieldType.double)).before args0 about1 = true := code_word (m := ⟨3, 1⟩) (meth := k3m1) (c := k3c1) (by decide +kernel) rfl rfl rfl (by decide +kernel)
def codes1 : List Jvm.Cond := [Jvm.Cond.code x code maxLocals ret, Jvm.Cond.code ({ cls := "com/example/slotter/slotter/engine/SimulationResult", name := "<init>", desc := "(JJDDD)V" } : Jvm.MethodName) prog_10_method_1_code (11 : Nat) (Option.none : Option Jvm.ClassFile.FieldType), Jvm.Cond.code ({ cls := "java/lang/Record", name := "<init>", desc := "()V" } : Jvm.MethodName) jdk_30_method_1_code (1 : Nat) (Option.none : Option Jvm.ClassFile.FieldType), Jvm.Cond.code ({ cls := "java/lang/Object", name := "<init>", desc := "()V" } : Jvm.MethodName) object_method_1_code (1 : Nat) (Option.none : Option Jvm.ClassFile.FieldType), Jvm.Cond.code ({ cls := "com/example/slotter/slotter/engine/SimulationResult", name := "blocking", desc := "()D" } : Jvm.MethodName) prog_10_method_2_code (1 : Nat) (Option.some Jvm.ClassFile.FieldType.double)]
set_option maxRecDepth 65536 in
theorem codes_eq : words1.filter isCode = codes1 := rfl
theorem w_codes : ∀ c ∈ words1.filter isCode, c.before args0 about1 = true := by
  rw [codes_eq]
  intro c hc
  simp only [codes1, List.mem_cons, List.not_mem_nil, or_false] at hc
  rcases hc with rfl | rfl | rfl | rfl | rfl
  · exact w_c0
  · exact w_c1
  · exact w_c2
  · exact w_c3
  · exact w_c4
set_option maxRecDepth 65536 in
theorem w_t1 : (words1.take 24).all (fun c => isCode c || c.before args0 about1) = true := by decide +kernel
set_option maxRecDepth 65536 in
theorem w_t2 : (words1.drop 24).all (fun c => isCode c || c.before args0 about1) = true := by decide +kernel
theorem w_tables : (allAtoms (Jvm.Cond.code x code maxLocals ret :: tables_1)).before args0 about1 = true := by
  rw [allAtoms_all]
  show words1.all (fun c => c.before args0 about1) = true
  refine all_split ?_ w_codes
  rw [← List.take_append_drop 24 words1, List.all_append, w_t1, w_t2]
  rfl
set_option maxRecDepth 65536 in
theorem w_case : (Jvm.Cond.and given_1 narrow_1).before args0 about1 = true := by decide +kernel
theorem w_applies : (headSpec (Jvm.Cond.code x code maxLocals ret :: tables_1) room_1).applies x e0.platform about1 = true :=
  (Spec.applies_iff w_frames).mpr ⟨w_running, w_runnable, w_alone, w_named, w_hears, w_ripe, w_room, w_tables⟩
theorem atStart : AtStart classFile x code maxLocals ret World_1 tables_1 room_1 Calls_1 rest_1 Pre_1 launch0 p0 e0 about1 theMethod args0 below0 :=
  ⟨lists_1, trivial, launch0.admits_env _ _ _, launch0.least_env, fairChoices_fair.cas, fairChoices_fair.clock, w_frames, w_args, w_heap, w_applies, trivial, trivial, w_case⟩
end start1
theorem witness_1 : WitnessClaimed_1 := ⟨start1.p0, start1.e0, start1.about1, start1.theMethod, start1.args0, start1.below0, start1.atStart⟩
end Jvm.Pilot.@@N@@
